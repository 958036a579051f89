import Derived.Test.YbulkcptoRow
import Derived.Deep.Cut
import Derived.Deep.CutBlock
import Derived.Laws.Tables
namespace Go.Proofs.Ybulkcpto
open Go.ChangeShapes Go.WideShapes Go.ChangeAt Go.RowKit Go.Sort Go.Lib
open Go.Maps (Keyed)

abbrev P3 := List UInt8 × List UInt8 × Bool
def kOf (p : P3) : List UInt8 := p.1
def dOf (p : P3) : Dep := (p.1, p.2.1)

/-- The first argument, as it lies. -/
structure PairsAt (w : World) (a : Option Addr) (ps : List P3) : Prop where
  cells : ∀ j (hj : j < ps.length), ∃ b o, a = some ⟨b, o, Option.none⟩ ∧ b < w.heap.size ∧ w.cell? ⟨b, o + j * 3, Option.none⟩ = some (S ps[j].1) ∧ w.cell? ⟨b, o + j * 3 + 1, Option.none⟩ = some (S ps[j].2.1) ∧ w.cell? ⟨b, o + j * 3 + 2, Option.none⟩ = some (.bool ps[j].2.2)
  fits : ∀ j (hj : j < ps.length), ps[j].1.length ≤ maxLen ∧ ps[j].2.1.length ≤ maxLen

/-- The second argument, as it lies. -/
structure StrsAt (w : World) (a : Option Addr) (bs : List (List UInt8)) : Prop where
  cells : ∀ j (hj : j < bs.length), ∃ b o, a = some ⟨b, o, Option.none⟩ ∧ b < w.heap.size ∧ w.cell? ⟨b, o + j, Option.none⟩ = some (S bs[j])
  fits : ∀ j (hj : j < bs.length), bs[j].length ≤ maxLen

theorem row_ne_map {R : Value → Option (DataW Unit × List MemPlace)} {w : World} {b n : Nat} {D : DataW Unit} {base : Nat} {e : TypeId} {size : Nat} {v : Value} {m : Nat} {xs : List Value}
    (h : w.ownsRow base e size v m xs) (hr : w.ownsMap Yba.prog 9 R b n D) : some b ≠ v.ownBlock := by
  obtain ⟨es, clock, hb, _⟩ := hr
  rcases h.2 with ⟨rfl, _⟩ | ⟨g, cap, cur, rfl, _, hg, _⟩
  · simp [Value.ownBlock]
  · intro e1
    simp [Value.ownBlock] at e1
    rw [e1, hg] at hb
    cases hb

/-- The first loop's state behind k pairs. -/
structure St (w wr : World) (N k : Nat) (ps : List P3) (v : Value) (D : DataW Unit) (I : List UInt8 → DataW Unit) (β : List UInt8 → Nat) : Prop where
  mm : MM wr N N (2 * k) D I β ((ps.take k).map kOf) ((ps.take k).map dOf)
  row : wr.ownsRow N 31 2 v k (((ps.take k).map dOf).flatMap encD)
  bel : Below N w wr

theorem MM.mono {w : World} {base M n n' : Nat} {D : DataW Unit} {I : List UInt8 → DataW Unit} {β : List UInt8 → Nat} {Ks : List (List UInt8)} {Ps : List Dep} (h : MM w base M n D I β Ks Ps) (hn : n ≤ n') : MM w base M n' D I β Ks Ps where
  outer := h.outer.mono hn
  low := h.low
  has := h.has
  at_ := h.at_
  inner := fun k hk => (h.inner k hk).mono hn
  ne := h.ne
  apart := h.apart
  ins := h.ins
  sub := h.sub

theorem MM.alloc {w : World} {base M n : Nat} {D : DataW Unit} {I : List UInt8 → DataW Unit} {β : List UInt8 → Nat} {Ks : List (List UInt8)} {Ps : List Dep} (h : MM w base M n D I β Ks Ps) (o : Obj) : MM (w.alloc o) base M n D I β Ks Ps :=
  h.kept (World.grownBy_alloc w o Option.none) (by simp) (fun _ _ => by simp)

theorem take_k {ps : List P3} {k : Nat} (hk : k < ps.length) (q : List UInt8) : q ∈ (ps.take (k + 1)).map kOf ↔ q = ps[k].1 ∨ q ∈ (ps.take k).map kOf := by
  rw [List.take_succ_eq_append_getElem hk, List.map_append, List.mem_append]
  simp [kOf, or_comm]
theorem take_d {ps : List P3} {k : Nat} (hk : k < ps.length) (q : Dep) : q ∈ (ps.take (k + 1)).map dOf ↔ q = (ps[k].1, ps[k].2.1) ∨ q ∈ (ps.take k).map dOf := by
  rw [List.take_succ_eq_append_getElem hk, List.map_append, List.mem_append]
  simp [dOf, or_comm]

theorem St.next {w wC w4 : World} {N k : Nat} {ps : List P3} {v v' : Value} {D : DataW Unit} {I : List UInt8 → DataW Unit} {β : List UInt8 → Nat} (hk : k < ps.length) {s1 s2 : ByteArray} (hs1 : S ps[k].1 = .string s1) (hs2 : S ps[k].2.1 = .string s2)
    (hmm : MM wC N N (2 * (k + 1)) D I β ((ps.take (k + 1)).map kOf) ((ps.take (k + 1)).map dOf)) (hrow : wC.ownsRow N 31 2 v k (((ps.take k).map dOf).flatMap encD)) (hbel : Below N w wC) (hsz : N ≤ wC.heap.size) (o : Obj)
    (hg4 : (wC.alloc o).grownBy w4 v.ownBlock) (hown4 : w4.ownsRow N 31 2 v' (k + 1) (((ps.take k).map dOf).flatMap encD ++ [.string s1, .string s2])) : St w w4 N (k + 1) ps v' D I β := by
  have hrow' := hrow.alloc o
  have hmm' := hmm.alloc o
  refine ⟨hmm'.kept hg4 (row_ne_map hrow' hmm'.outer) (fun q hq => row_ne_map hrow' (hmm'.inner q hq)), ?_, (hbel.alloc hsz o).grown hg4 (by simp; omega) (fun j hj => (hrow'.lt j hj).1)⟩
  rw [List.take_succ_eq_append_getElem hk, List.map_append, List.flatMap_append]
  rw [← hs1, ← hs2] at hown4
  simpa [dOf, encD] using hown4

theorem cell_three_new (w : World) (a b c : Value) (t : TypeId) : (w.alloc (.cells #[a, b, c] t)).cell? ⟨w.heap.size, 0, Option.none⟩ = some a ∧ (w.alloc (.cells #[a, b, c] t)).cell? ⟨w.heap.size, 1, Option.none⟩ = some b ∧ (w.alloc (.cells #[a, b, c] t)).cell? ⟨w.heap.size, 2, Option.none⟩ = some c := by
  refine ⟨?_, ?_, ?_⟩ <;> simp

theorem cell_ne_map {R : Value → Option (DataW Unit × List MemPlace)} {w : World} {q o : Nat} {v : Value} (hc : w.cell? ⟨q, o, Option.none⟩ = some v) {b n : Nat} {D : DataW Unit} (h : w.ownsMap Yba.prog 9 R b n D) : q ≠ b := by
  obtain ⟨es, clock, hb, _⟩ := h
  intro e
  subst e
  simp [World.cell?, hb] at hc

theorem build82 (M : Nat) : ∃ cells, (∀ w, (Instr.build 82 #[(25, .map (some M))]).run Yba.prog w = .ok (.agg cells) w) ∧ cells[44]? = some (.map (some M)) := by
  have h : (Yba.prog.built 82 [(25, .map (some M))]).map (fun c => c[44]?) = some (some (.map (some M))) := by kernel_rfl
  obtain ⟨cells, hc, h44⟩ := Option.map_eq_some_iff.1 h
  exact ⟨cells, fun w => run_build w 82 #[(25, .map (some M))] cells hc, h44⟩

theorem build82_none : ∃ cells, (∀ w, (Instr.build 82 #[]).run Yba.prog w = .ok (.agg cells) w) ∧ cells[44]? = some (.map Option.none) := by
  have h : (Yba.prog.built 82 []).map (fun c => c[44]?) = some (some (.map Option.none)) := by kernel_rfl
  obtain ⟨cells, hc, h44⟩ := Option.map_eq_some_iff.1 h
  exact ⟨cells, fun w => run_build w 82 #[] cells hc, h44⟩

theorem wpList_buildIs {P : Program} {ops : Array Oper} {rest : List Oper} {o : Oper} {a : Act} {w : World} {Q : Exit → Act → World → Prop} (hg : o.guard = Option.none) (t : TypeId) (parts : Array (Nat × Operand)) (ho : o.op = .build t parts) (vals : Array (Nat × Value)) (hv : (parts.map fun (i, x) => (i, a.eval x)) = vals) (cells : Array Value)
    (hrun : ∀ w, (Instr.build t vals).run P w = .ok (.agg cells) w) (h : wpList P ops Q rest (a.put o.dst (.agg cells)) w) : wpList P ops Q (o :: rest) a w :=
  wpList_plain hg fun _ hK => by
    unfold Oper.wp execOp
    simp only [ho, Sem.run_bind, hv, hrun, Result.andThen_ok]
    exact hK _ _ h

/-- The second loop's state behind k names. -/
structure St2 (w wr : World) (N k n1 : Nat) (ps : List P3) (bs : List (List UInt8)) (v : Value) (D : DataW Unit) (I : List UInt8 → DataW Unit) (β : List UInt8 → Nat) : Prop where
  mm : MM wr N N (2 * n1 + k) D I β (ps.map kOf ++ bs.take k) (ps.map dOf)
  row : wr.ownsRow N 31 2 v n1 ((ps.map dOf).flatMap encD)
  bel : Below N w wr

/-- What the law still knows behind the calls: the map of maps, the store's cell, the input. -/
structure St3 (w wr : World) (N n sb : Nat) (Ks : List (List UInt8)) (Ps : List Dep) (D : DataW Unit) (I : List UInt8 → DataW Unit) (β : List UInt8 → Nat) : Prop where
  mm : MM wr N N n D I β Ks Ps
  cell : wr.cell? ⟨sb, 44, Option.none⟩ = some (.map (some N))
  bel : Below N w wr

theorem below_drew {N : Nat} {w a : World} (h : Below N w a) (m : Nat) : Below N w (a.drewN m) := ⟨h.os, h.tape, h.output, h.size, h.block⟩

theorem MM.look2s {w : World} {base M n : Nat} {D : DataW Unit} {I : List UInt8 → DataW Unit} {β : List UInt8 → Nat} {Ks : List (List UInt8)} {Ps : List Dep} (h : MM w base M n D I β Ks Ps) {k x : List UInt8} (hx : x.length ≤ maxLen) (hm : (k, x) ∈ Ps) :
    ∃ c, ∀ m, (Instr.lookup 28 (.map (some (β k))) (S x) true).run Yba.prog (w.drewN m) = .ok (.tuple #[.bool c, .bool true]) (w.drewN m) := by
  have hk : k ∈ Ks := h.sub _ hm
  have one : ∀ m, ∃ c, (Instr.lookup 28 (.map (some (β k))) (S x) true).run Yba.prog (w.drewN m) = .ok (.tuple #[.bool c, .bool true]) (w.drewN m) ∧ (I k).atKey (.string x) (.lit (.bool false)) = .lit (.bool c) := fun m => by
    have hi : (w.drewN m).ownsMap Yba.prog 9 RI (β k) n (I k) := ownsMap_of_heap (h.inner k hk) rfl
    obtain ⟨v, ps, hrun, hv⟩ := hi.look_ok key9 Yba.underlying28 (zero4 _) (zd := .lit (.bool false)) (zp := []) (RI_bool false) (keyOf9 hx)
    rw [(h.ins k x hk).2 hm] at hrun
    obtain ⟨c, rfl⟩ := RI_inv hv
    refine ⟨c, hrun, ?_⟩
    rw [RI_bool] at hv
    simp only [Option.some.injEq, Prod.mk.injEq] at hv
    exact hv.1.symm
  obtain ⟨c, _, hc⟩ := one 0
  refine ⟨c, fun m => ?_⟩
  obtain ⟨c', hr, hc'⟩ := one m
  rw [hc] at hc'
  simp only [DataW.lit.injEq, Lit.bool.injEq] at hc'
  rw [hc']
  exact hr

theorem length_sortD (l : List Dep) : (sortD l).length = l.length := by simp [sortD]

theorem cell_kept {w w' : World} {row : Option Nat} (hg : w.grownBy w' row) {q o : Nat} {v : Value} (hc : w.cell? ⟨q, o, Option.none⟩ = some v) (hne : some q ≠ row) : w'.cell? ⟨q, o, Option.none⟩ = some v := by
  have hlt : q < w.heap.size := by
    rcases Nat.lt_or_ge q w.heap.size with h | h
    · exact h
    · simp [World.cell?, Array.getElem?_eq_none h] at hc
  exact (World.cell?_of_block (w := w) (hg.block q hlt hne)).trans hc

set_option maxRecDepth 100000 in
set_option maxHeartbeats 1000000 in
theorem law3 (a1 a2 : Option Addr) (c1 c2 : Nat) (ps : List P3) (bs : List (List UInt8)) (w : World) (h1 : PairsAt w a1 ps) (h2 : StrsAt w a2 bs) (hl1 : ps.length ≤ 1024) (hl2 : bs.length ≤ 1024) :
    Calls Yba.prog 3 #[.slice a1 ps.length c1, .slice a2 bs.length c2] w fun e w' => e = .returned (.bool true) ∧ Below w.heap.size w w' := by
  obtain ⟨i31, hi31, hz31, hs31, hb31⟩ := info_parts info31
  have hmm := @run_makeMap Yba.prog
  have H1 : Hid (PairsAt w a1 ps) := h1
  have H2 : Hid (StrsAt w a2 bs) := h2
  clear h1 h2
  generalize hn1 : ps.length = n1 at hl1
  generalize hn2 : bs.length = n2 at hl2
  generalize hN : w.heap.size = N
  have HN1 : Hid (ps.length = n1) := hn1
  have HN2 : Hid (bs.length = n2) := hn2
  have HN : Hid (w.heap.size = N) := hN
  clear hn1 hn2 hN
  have hl1' : (n1 : Int) ≤ 1024 := by omega
  have hl2' : (n2 : Int) ≤ 1024 := by omega
  go_enter Yba.func3, Yba.ntmps3
  go_wp2
  rw [HN.out]
  go_loopw [6, 34] (fun v i wr => ∃ k : Nat, k ≤ n1 ∧ i = .int .i64 k ∧ ∃ D I β, St w wr N k ps v D I β) (fun _ i _ => n1 - (intOf i).toNat)
  case atStart =>
    refine ⟨0, Nat.zero_le _, rfl, .map [], fun _ => .map [], fun _ => 0, ⟨?_, World.ownsRow_nil _ _ _ _, (Below.refl _ _).alloc (by rw [HN.out]; exact Nat.le_refl _) _⟩⟩
    have := MM.made w N 0 (by rw [HN.out]; exact Nat.le_refl _)
    rw [HN.out] at this
    exact this
  case round =>
    obtain ⟨k, hk, rfl, D, I, β, hS⟩ := hrel
    have HS : Hid (St w wr N k ps u6 D I β) := hS
    clear hS
    by_cases hlt : k < n1
    · have hkp : k < ps.length := by rw [HN1.out]; exact hlt
      obtain ⟨b, o, rfl, hbw, q1, q2, q3⟩ := H1.out.cells k hkp
      have z0 : (0 : Int) ≤ (k : Int) := by omega
      have z1 : (k : Int) < (n1 : Int) := by omega
      rw [HN.out] at hbw
      have e1 : wr.cell? ⟨b, o + k * 3, Option.none⟩ = some (S ps[k].1) := (HS.out.bel.cell hbw).trans q1
      have e2 : wr.cell? ⟨b, o + k * 3 + 1, Option.none⟩ = some (S ps[k].2.1) := (HS.out.bel.cell hbw).trans q2
      have e3 : wr.cell? ⟨b, o + k * 3 + 2, Option.none⟩ = some (.bool ps[k].2.2) := (HS.out.bel.cell hbw).trans q3
      clear q1 q2 q3
      obtain ⟨s1, hs1⟩ : ∃ s1, S ps[k].1 = .string s1 := ⟨_, rfl⟩
      obtain ⟨s2, hs2⟩ : ∃ s2, S ps[k].2.1 = .string s2 := ⟨_, rfl⟩
      obtain ⟨o3, ho3⟩ : ∃ o3, ps[k].2.2 = o3 := ⟨_, rfl⟩
      rw [hs1] at e1
      rw [hs2] at e2
      rw [ho3] at e3
      have E1 : Hid (S ps[k].1 = .string s1) := hs1
      have E2 : Hid (S ps[k].2.1 = .string s2) := hs2
      have E3 : Hid (ps[k].2.2 = o3) := ho3
      clear hs1 hs2 ho3
      go_upto_region 8 with fail
      have hf := H1.out.fits k hkp
      obtain ⟨x1, x2, x3⟩ := cell_three_new wr (.string s1) (.string s2) (.bool o3) 27
      have hszr : N ≤ wr.heap.size := by have := HS.out.bel.size; rw [HN.out] at this; exact this
      have mmA := HS.out.mm.alloc (.cells #[.string s1, .string s2, .bool o3] 27)
      have rowA := HS.out.row.alloc (.cells #[.string s1, .string s2, .bool o3] 27)
      have belA : Below N w (wr.alloc (.cells #[.string s1, .string s2, .bool o3] 27)) := HS.out.bel.alloc hszr _
      have hszA : N < (wr.alloc (.cells #[.string s1, .string s2, .bool o3] 27)).heap.size := by simp; omega
      clear e1 e2 e3 HS
      generalize wr.alloc (.cells #[.string s1, .string s2, .bool o3] 27) = wA at *
      generalize wr.heap.size = q at *
      obtain ⟨v, hlook, hv⟩ := mmA.look hf.1
      rw [E1.out] at hlook
      by_cases hin : ps[k].1 ∈ (ps.take k).map kOf
      · obtain rfl := hv hin
        obtain ⟨wC, I', hadd, mmC, hgC⟩ := mmA.add hf.2 hin o3 (by simp [maxLen]; omega)
        rw [E2.out] at hadd
        have hqb : q ≠ β ps[k].1 := cell_ne_map x1 (mmA.inner _ hin)
        have y1 := cell_kept hgC x1 (by simpa using hqb)
        have y2 := cell_kept hgC x2 (by simpa using hqb)
        have rowC := rowA.kept hgC (.inr (fun e => row_ne_map rowA (mmA.inner _ hin) e.symm))
        have belC : Below N w wC := belA.grown hgC (Nat.le_of_lt hszA) (fun j hj => by cases hj; exact (mmA.ne _ hin).2)
        have hszC : N ≤ wC.heap.size := by have := belC.size; rw [HN.out] at this; exact this
        have MC : Hid (MM wC N N (2 * (k + 1)) D I' β ((ps.take (k + 1)).map kOf) ((ps.take (k + 1)).map dOf)) := (mmC.mono (by omega)).keys (fun q => by rw [take_k hkp]; exact ⟨fun h => h.elim (fun e => e ▸ hin) id, .inr⟩) (fun q => by rw [take_d hkp]; simp)
        rw [decide_eq_true hin] at hlook
        generalize hbb : β ps[k].1 = bb at *
        have RC : Hid (wC.ownsRow N 31 2 u6 k (((ps.take k).map dOf).flatMap encD)) := rowC
        have BC : Hid (Below N w wC) := belC
        clear mmA mmC rowA belA hgC hqb hbb hin hv hf belC
        go_wp2_with (first
          | (at_builtin; refine wpList_append_lies _ rfl _ _ 25 rfl N 31 i31 (.agg #[.string ⟨#[]⟩, .string ⟨#[]⟩]) 2 32 Yba.underlying25 hi31 hz31 hs31 hb31 rfl (by omega) u6 k (((ps.take k).map dOf).flatMap encD) rfl (rowC.alloc _) ⟨wC.heap.size, 0, Option.none⟩ 1 1 [.string s1, .string s2] rfl rfl (cell_two_new _ _ _ _) (by simp [Value.oneCell']) (by omega) (by simp [maxLen]; omega) (by omega) (by simp; omega) (wC.heap.size + 1) (by simp) ?_; intro g cap w4 hown4 hg4 hat4 hgl4)
          | go_in)
        go_roundw
        case rel => exact ⟨k + 1, by omega, by go_num, D, I', β, St.next hkp E1.out E2.out MC.out RC.out BC.out hszC _ hg4 hown4⟩
        case measure => simp [intOf]; omega
      · have hnA := @run_makeMap Yba.prog 28 wA
        have mmA' := mmA.alloc (.map #[] 0)
        have h0 := World.ownsMap_made wA Yba.prog 9 RI
        have hal := World.grownBy_alloc wA (.map #[] 0) Option.none
        obtain ⟨wB, D', I', β', hnew, mmB, hβ, hgB⟩ := mmA'.new hf.1 hin h0 (by omega) (Nat.le_of_lt hszA) (fun q hq => Nat.ne_of_lt (mmA.inner q hq).lt) (by simp [maxLen]; omega)
        rw [E1.out] at hnew
        obtain ⟨wC, I'', hadd, mmC, hgC⟩ := mmB.add hf.2 (List.mem_cons_self ..) o3 (by simp [maxLen]; omega)
        rw [E2.out, hβ] at hadd
        rw [hβ] at hgC
        have hqN : q ≠ N := cell_ne_map x1 mmA.outer
        have hq0 : q ≠ wA.heap.size := by
          intro e
          subst e
          simp [World.cell?] at x1
        have y1 := cell_kept hgC (cell_kept hgB (cell_kept hal x1 (by simp)) (by simpa using hqN)) (by simpa using hq0)
        have y2 := cell_kept hgC (cell_kept hgB (cell_kept hal x2 (by simp)) (by simpa using hqN)) (by simpa using hq0)
        have t0 := cell_kept hal x1 (by simp)
        have t1 := cell_kept hgB (cell_kept hal x1 (by simp)) (by simpa using hqN)
        have t2 := cell_kept hgB (cell_kept hal x2 (by simp)) (by simpa using hqN)
        have t3 := cell_kept hgB (cell_kept hal x3 (by simp)) (by simpa using hqN)
        have rowA' := rowA.alloc (.map #[] 0)
        have rowB := rowA'.kept hgB (.inr (fun e => row_ne_map rowA' mmA'.outer e.symm))
        have h0B : wB.ownsMap Yba.prog 9 RI wA.heap.size 0 (.map []) := h0.kept hgB (by simp; omega)
        have rowC := rowB.kept hgC (.inr (fun e => row_ne_map rowB h0B e.symm))
        have belC : Below N w wC := ((belA.alloc (Nat.le_of_lt hszA) (.map #[] 0)).grown hgB (by simp; omega) (fun j hj => by cases hj; exact Nat.le_refl _)).grown hgC (by have := hgB.size; simp at this; omega) (fun j hj => by cases hj; exact Nat.le_of_lt hszA)
        have hszC : N ≤ wC.heap.size := by have := belC.size; rw [HN.out] at this; exact this
        have MC : Hid (MM wC N N (2 * (k + 1)) D' I'' β' ((ps.take (k + 1)).map kOf) ((ps.take (k + 1)).map dOf)) := (mmC.mono (by omega)).keys (fun q => by rw [take_k hkp]; simp) (fun q => by rw [take_d hkp]; simp)
        rw [decide_eq_false hin] at hlook
        have RC : Hid (wC.ownsRow N 31 2 u6 k (((ps.take k).map dOf).flatMap encD)) := rowC
        have BC : Hid (Below N w wC) := belC
        clear mmA mmA' mmB mmC rowA rowA' rowB belA hgB hgC hqN hq0 hβ h0 h0B hal hin hv hf belC hmm
        go_wp2_with (first
          | (at_builtin; refine wpList_append_lies _ rfl _ _ 25 rfl N 31 i31 (.agg #[.string ⟨#[]⟩, .string ⟨#[]⟩]) 2 32 Yba.underlying25 hi31 hz31 hs31 hb31 rfl (by omega) u6 k (((ps.take k).map dOf).flatMap encD) rfl (rowC.alloc _) ⟨wC.heap.size, 0, Option.none⟩ 1 1 [.string s1, .string s2] rfl rfl (cell_two_new _ _ _ _) (by simp [Value.oneCell']) (by omega) (by simp [maxLen]; omega) (by omega) (by simp; omega) (wC.heap.size + 1) (by simp) ?_; intro g cap w4 hown4 hg4 hat4 hgl4)
          | go_in)
        go_roundw
        case rel => exact ⟨k + 1, by omega, by go_num, D', I'', β', St.next hkp E1.out E2.out MC.out RC.out BC.out hszC _ hg4 hown4⟩
        case measure => simp [intOf]; omega
    · obtain rfl : k = n1 := by omega
      have HS2 : Hid (St2 w wr N 0 k ps bs u6 D I β) := by
        obtain ⟨m1, m2, m3⟩ := HS.out
        have e : ps.take k = ps := by rw [← HN1.out]; exact List.take_length
        rw [e] at m1 m2
        exact ⟨by simpa using m1, m2, m3⟩
      clear HS
      go_wp2
      go_loopw [68] (fun i wr => ∃ j : Nat, j ≤ n2 ∧ i = .int .i64 j ∧ ∃ D I β, St2 w wr N j k ps bs u6 D I β) (fun i _ => n2 - (intOf i).toNat)
      case atStart => exact ⟨0, Nat.zero_le _, rfl, D, I, β, HS2.out⟩
      case round =>
        clear HS2 D I β
        obtain ⟨j, hj, rfl, D, I, β, hS⟩ := hrel
        have HS : Hid (St2 w wr N j k ps bs u6 D I β) := hS
        clear hS
        by_cases hlt2 : j < n2
        · have hjb : j < bs.length := by rw [HN2.out]; exact hlt2
          obtain ⟨b, o, rfl, hbw, q1⟩ := H2.out.cells j hjb
          have z0 : (0 : Int) ≤ (j : Int) := by omega
          have z1 : (j : Int) < (n2 : Int) := by omega
          rw [HN.out] at hbw
          have e1 : wr.cell? ⟨b, o + j, Option.none⟩ = some (S bs[j]) := (HS.out.bel.cell hbw).trans q1
          have hf := H2.out.fits j hjb
          obtain ⟨s1, hs1⟩ : ∃ s1, S bs[j] = .string s1 := ⟨_, rfl⟩
          rw [hs1] at e1
          have E1 : Hid (S bs[j] = .string s1) := hs1
          clear hs1 q1
          have hszr : N ≤ wr.heap.size := by have := HS.out.bel.size; rw [HN.out] at this; exact this
          have hkeys : ∀ q, q ∈ ps.map kOf ++ bs.take (j + 1) ↔ q = bs[j] ∨ q ∈ ps.map kOf ++ bs.take j := by
            intro q
            rw [List.take_succ_eq_append_getElem hjb]
            simp only [List.mem_append, List.mem_singleton]
            constructor
            · rintro (h | h | h)
              · exact .inr (.inl h)
              · exact .inr (.inr h)
              · exact .inl h
            · rintro (h | h | h)
              · exact .inr (.inr h)
              · exact .inl h
              · exact .inr (.inl h)
          obtain ⟨v, hlook, hv⟩ := HS.out.mm.look hf
          rw [E1.out] at hlook
          by_cases hin : bs[j] ∈ ps.map kOf ++ bs.take j
          · have HX : Hid (St2 w wr N (j + 1) k ps bs u6 D I β) := ⟨(HS.out.mm.mono (by omega)).keys (fun q => by rw [hkeys]; exact ⟨fun h => h.elim (fun e => e ▸ hin) id, .inr⟩) (fun _ => Iff.rfl), HS.out.row, HS.out.bel⟩
            rw [decide_eq_true hin] at hlook
            clear HS hv hkeys hin hf
            go_wp2
            go_roundw
            case rel => exact ⟨j + 1, by omega, by go_num, D, I, β, HX.out⟩
            case measure => simp [intOf]; omega
          · have hnA := @run_makeMap Yba.prog 28 wr
            have mmA := HS.out.mm.alloc (.map #[] 0)
            have h0 := World.ownsMap_made wr Yba.prog 9 RI
            obtain ⟨wB, D', I', β', hnew, mmB, hβ, hgB⟩ := mmA.new hf hin h0 (by have := HS.out.mm.outer.lt; omega) hszr (fun q hq => Nat.ne_of_lt (HS.out.mm.inner q hq).lt) (by simp [maxLen]; omega)
            rw [E1.out] at hnew
            have rowA := HS.out.row.alloc (.map #[] 0)
            have HX : Hid (St2 w wB N (j + 1) k ps bs u6 D' I' β') := ⟨mmB.keys (fun q => by rw [hkeys]; simp) (fun _ => Iff.rfl), rowA.kept hgB (.inr (fun e => row_ne_map rowA mmA.outer e.symm)), (HS.out.bel.alloc hszr (.map #[] 0)).grown hgB (by simp; omega) (fun j hj => by cases hj; exact Nat.le_refl _)⟩
            rw [decide_eq_false hin] at hlook
            clear HS hv hkeys hin hf mmA h0 mmB hβ hgB rowA hmm
            go_wp2
            go_roundw
            case rel => exact ⟨j + 1, by omega, by go_num, D', I', β', HX.out⟩
            case measure => simp [intOf]; omega
        · obtain rfl : j = n2 := by omega
          have hlen0 := fun ty => HS.out.mm.outer.len Yba.underlying24 ty
          generalize hsz : Maps.size D = sz at hlen0
          have HSZ : Hid (Maps.size D = sz) := hsz
          clear hsz
          obtain ⟨cells, hbuild, h44⟩ := build82 N
          obtain ⟨cells0, hbuild0, h440⟩ := build82_none
          go_upto_region 24 with (first | (refine wpList_buildIs rfl 82 _ rfl #[(25, .map (some N))] (by first | rfl | (simp; rfl)) cells hbuild ?_) | go_in)
          have hszr : N ≤ wr.heap.size := by have := HS.out.bel.size; rw [HN.out] at this; exact this
          have mmD := HS.out.mm.alloc (.cells cells 82)
          have rowD := HS.out.row.alloc (.cells cells 82)
          have belD : Below N w (wr.alloc (.cells cells 82)) := HS.out.bel.alloc hszr _
          have cellD : (wr.alloc (.cells cells 82)).cell? ⟨wr.heap.size, 44, Option.none⟩ = some (.map (some N)) := by simp [h44]
          have hs6 : some wr.heap.size ≠ u6.ownBlock := fun e => by have := (HS.out.row.lt _ e.symm).2; omega
          have hszD : N < (wr.alloc (.cells cells 82)).heap.size := by simp; omega
          have hsbD : wr.heap.size < (wr.alloc (.cells cells 82)).heap.size := by simp
          clear HS hlen0 hbuild h44
          generalize wr.alloc (.cells cells 82) = wD at *
          generalize wr.heap.size = sb at *
          have hM6 : some N ≠ u6.ownBlock := row_ne_map rowD mmD.outer
          have hI6 : ∀ q, q ∈ ps.map kOf ++ bs.take j → some (β q) ≠ u6.ownBlock := fun q hq => row_ne_map rowD (mmD.inner q hq)
          have hlD : (ps.map dOf).length ≤ 1024 := by rw [List.length_map, HN1.out]; omega
          go_upto_region 25 with (go_at_call 4; refine (list4 sb N N _ D I β _ _ _ mmD cellD hlD).mono ?_; rintro e wE ⟨got, l, rfl, rowE, hnd, hmem, belE⟩)
          have hcD : ∃ c, c = ps.map dOf := ⟨_, rfl⟩
          obtain ⟨P, hP⟩ := hcD
          rw [← hP] at hmem mmD rowD hlD
          have hPk : P.length = k := by rw [hP, List.length_map, HN1.out]
          rw [← hPk] at rowD
          have hll : l.length ≤ 1024 := Nat.le_trans (hnd.length_le_of_subset (fun p hp => (hmem p).1 hp)) hlD
          have hplain : sortD l = compD (sortD P) := plain_law l P hnd hmem
          have gotlow : ∀ g, got.ownBlock = some g → wD.heap.size ≤ g := fun g h => (rowE.lt g h).1
          have gothi : ∀ g, got.ownBlock = some g → g < wE.heap.size := fun g h => (rowE.lt g h).2
          have sixlow : ∀ g, u6.ownBlock = some g → N ≤ g := fun g h => (rowD.lt g h).1
          have sixhi : ∀ g, u6.ownBlock = some g → g < wD.heap.size := fun g h => (rowD.lt g h).2
          have RGE : Row wE got l := row_of_owns rowE
          have RWD : Row wD u6 P := row_of_owns rowD
          have HP : Hid (P = ps.map dOf) := hP
          have HPk : Hid (P.length = k) := hPk
          clear rowE rowD hnd hmem hP hPk
          go_upto_region 26 with (go_at_call 5; refine (sort5R RGE (by omega)).mono ?_; rintro e wF ⟨rfl, RGF, hgF⟩)
          have belF : Below wD.heap.size wD wF := belE.grown hgF belE.size gotlow
          have RWF : Row wF u6 P := RWD.block (fun g hg => belF.block g (sixhi g hg))
          have gothiF : ∀ g, got.ownBlock = some g → g < wF.heap.size := fun g h => Nat.lt_of_lt_of_le (gothi g h) hgF.size
          have belNF : Below N w wF := belD.trans (belF.mono (Nat.le_of_lt hszD))
          have hszF : N ≤ wF.heap.size := by have := belNF.size; rw [HN.out] at this; exact this
          have mmF := mmD.below belF (Nat.le_refl _)
          have cellF : wF.cell? ⟨sb, 44, Option.none⟩ = some (.map (some N)) := (belF.cell hsbD).trans cellD
          have hne6 : ∀ g, got.ownBlock = some g → some g ≠ u6.ownBlock := fun g hg e => by
            have h1 := gotlow g hg
            have h2 := sixhi g e.symm
            omega
          clear RGE RWD belE hgF mmD cellD belD gothi
          go_upto_region 27 with (go_at_call 5; refine (sort5R RWF (by omega)).mono ?_; rintro e wG ⟨rfl, RWG, hgG⟩)
          have RGG : Row wG got (sortD l) := RGF.block (fun g hg => hgG.block g (gothiF g hg) (hne6 g hg))
          have gothiG : ∀ g, got.ownBlock = some g → g < wG.heap.size := fun g h => Nat.lt_of_lt_of_le (gothiF g h) hgG.size
          have mmG := mmF.kept hgG hM6 hI6
          have cellG := cell_kept hgG cellF hs6
          have belG : Below N w wG := belNF.grown hgG hszF sixlow
          have hszG : N ≤ wG.heap.size := by have := belG.size; rw [HN.out] at this; exact this
          clear RGF RWF belF mmF cellF belNF hgG hszF gothiF
          go_upto_region 28 with (go_at_call 7; refine (compact7R RWG (by rw [length_sortD]; omega)).mono ?_; rintro e wH ⟨v', rfl, RWH, hgH, _⟩)
          have RGH : RowC wH got (compD (sortD P)) := by
            rw [← hplain]
            exact RGG.c.block (fun g hg => hgH.block g (gothiG g hg) (hne6 g hg))
          have hlC : (compD (sortD P)).length ≤ 100000 := by rw [← hplain, length_sortD]; omega
          have S3 : St3 w wH N _ sb (ps.map kOf ++ bs.take j) P D I β := ⟨mmG.kept hgH hM6 hI6, cell_kept hgH cellG hs6, belG.grown hgH hszG sixlow⟩
          clear RGG RWG mmG cellG belG hgH hszG gothiG
          go_upto_region 30 with (go_at_call 8; refine (equal8R RGH RWH hlC).mono ?_; rintro e wI ⟨rfl, m, hwI⟩)
          have S4 : St3 w (wH.drewN m) N (2 * k + j) sb (ps.map kOf ++ bs.take j) P D I β := ⟨S3.mm.heap rfl (fun _ _ => rfl), S3.cell, below_drew S3.bel m⟩
          clear S3 RGH RWH hlC hwI
          generalize wH.drewN m = wI at *
          have hlen1 := fun ty => S4.mm.outer.len Yba.underlying24 ty
          rw [HSZ.out] at hlen1
          have c44 := S4.cell
          have HS4 : Hid (St3 w wI N (2 * k + j) sb (ps.map kOf ++ bs.take j) P D I β) := S4
          clear S4
          go_wp2
          go_loopw [110] (fun i wr => ∃ t : Nat, t ≤ k ∧ i = .int .i64 t ∧ St3 w wr N (2 * k + j) sb (ps.map kOf ++ bs.take j) P D I β) (fun i _ => k - (intOf i).toNat)
          case atStart => exact ⟨0, Nat.zero_le _, rfl, HS4.out⟩
          case round =>
            clear HS4 hlen1 c44
            obtain ⟨t, ht, rfl, hS⟩ := hrel
            have HT : Hid (St3 w wr N (2 * k + j) sb (ps.map kOf ++ bs.take j) P D I β) := hS
            clear hS
            by_cases hlt3 : t < k
            · have htp : t < ps.length := by rw [HN1.out]; exact hlt3
              obtain ⟨b, o, rfl, hbw, q1, q2, q3⟩ := H1.out.cells t htp
              have z0 : (0 : Int) ≤ (t : Int) := by omega
              have z1 : (t : Int) < (k : Int) := by omega
              rw [HN.out] at hbw
              have e1 : wr.cell? ⟨b, o + t * 3, Option.none⟩ = some (S ps[t].1) := (HT.out.bel.cell hbw).trans q1
              have e2 : wr.cell? ⟨b, o + t * 3 + 1, Option.none⟩ = some (S ps[t].2.1) := (HT.out.bel.cell hbw).trans q2
              have e3 : wr.cell? ⟨b, o + t * 3 + 2, Option.none⟩ = some (.bool ps[t].2.2) := (HT.out.bel.cell hbw).trans q3
              clear q1 q2 q3
              obtain ⟨s1, hs1⟩ : ∃ s1, S ps[t].1 = .string s1 := ⟨_, rfl⟩
              obtain ⟨s2, hs2⟩ : ∃ s2, S ps[t].2.1 = .string s2 := ⟨_, rfl⟩
              obtain ⟨o3, ho3⟩ : ∃ o3, ps[t].2.2 = o3 := ⟨_, rfl⟩
              rw [hs1] at e1
              rw [hs2] at e2
              rw [ho3] at e3
              clear ho3
              go_upto_region 35 with fail
              have hf := H1.out.fits t htp
              obtain ⟨x1, x2, x3⟩ := cell_three_new wr (.string s1) (.string s2) (.bool o3) 27
              have hszr : N ≤ wr.heap.size := by have := HT.out.bel.size; rw [HN.out] at this; exact this
              have S5 : St3 w (wr.alloc (.cells #[.string s1, .string s2, .bool o3] 27)) N (2 * k + j) sb (ps.map kOf ++ bs.take j) P D I β := ⟨HT.out.mm.alloc _, Lib.cell?_alloc_some _ HT.out.cell, HT.out.bel.alloc hszr _⟩
              clear e1 e2 e3 HT
              generalize wr.alloc (.cells #[.string s1, .string s2, .bool o3] 27) = wA at *
              generalize wr.heap.size = q at *
              have hmemP : (ps[t].1, ps[t].2.1) ∈ P := by
                rw [HP.out]
                exact List.mem_map.2 ⟨ps[t], List.getElem_mem _, rfl⟩
              have hlk1 : ∀ m, (Instr.lookup 24 (.map (some N)) (S ps[t].1) false).run Yba.prog (wA.drewN m) = .ok (.map (some (β ps[t].1))) (wA.drewN m) := fun m => (S5.mm.heap (w' := wA.drewN m) rfl (fun _ _ => rfl)).look1 hf.1 (S5.mm.sub _ hmemP)
              obtain ⟨c, hlk2⟩ := S5.mm.look2s hf.2 hmemP
              rw [hs1] at hlk1
              rw [hs2] at hlk2
              have c44 := S5.cell
              generalize β ps[t].1 = bb at hlk1 hlk2
              have HS5 : Hid (St3 w wA N (2 * k + j) sb (ps.map kOf ++ bs.take j) P D I β) := S5
              clear S5 hmemP hf hs1 hs2
              go_wp2
              go_quiet (fail)
              go_wp2
              go_roundw
              case rel => exact ⟨t + 1, by omega, by go_num, ⟨HS5.out.mm.heap rfl (fun _ _ => rfl), HS5.out.cell, below_drew HS5.out.bel _⟩⟩
              case measure => simp [intOf]; omega
            · have hszr : N ≤ wr.heap.size := by have := HT.out.bel.size; rw [HN.out] at this; exact this
              have belZ : Below N w (wr.alloc (.cells cells0 82)) := HT.out.bel.alloc hszr _
              have cellZ : (wr.alloc (.cells cells0 82)).cell? ⟨wr.heap.size, 44, Option.none⟩ = some (.map Option.none) := by simp [h440]
              have hszZ : N ≤ (wr.alloc (.cells cells0 82)).heap.size := by simp; omega
              go_upto_region 40 with (first | (refine wpList_buildIs rfl 82 _ rfl #[] (by simp) cells0 hbuild0 ?_) | go_in)
              clear HT
              generalize wr.alloc (.cells cells0 82) = wZ at *
              generalize wr.heap.size = sz0 at *
              go_wp2_with (go_at_call 4; refine (list4_nil sz0 _ cellZ).mono ?_; rintro e wY ⟨rfl, belY⟩)
              go_ret
              exact ⟨rfl, belZ.trans (belY.mono hszZ)⟩
end Go.Proofs.Ybulkcpto

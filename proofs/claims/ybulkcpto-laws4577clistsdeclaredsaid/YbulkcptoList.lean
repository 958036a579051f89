import Derived.Test.YbulkcptoMaps
import Derived.Deep.AppendLies
import Derived.LoopN
namespace Go.Proofs.Ybulkcpto
open Go.ChangeShapes Go.WideShapes Go.ChangeAt Go.RowKit Go.Sort Go.Lib
open Go.Maps (Keyed)

theorem info31 : (Yba.prog.info? 31).map (fun i => (i.zero, i.size, i.bytes)) = some (some (.agg #[.string ⟨#[]⟩, .string ⟨#[]⟩]), 2, 32) := by kernel_rfl

theorem cell_two_new (w : World) (a b : Value) (t : TypeId) : ∀ j u, [a, b][j]? = some u → (w.alloc (.cells #[a, b] t)).cell? ((⟨w.heap.size, 0, Option.none⟩ : Addr).add j) = some u := by
  intro j u h
  rcases j with _ | _ | j
  · simp at h; subst h; simp [Addr.add]
  · simp at h; subst h; simp [Addr.add]
  · simp at h

theorem invK (key : Value) (kl : Lit) (h : keyOf Yba.prog 9 key = some kl) : ∃ x, key = Value.string x := by
  obtain ⟨x, hx, _⟩ := Maps.keyOf_str Yba.underlying9 h
  exact ⟨_, hx⟩

theorem flat_snoc (l : List Dep) (k x : List UInt8) : (l ++ [(k, x)]).flatMap encD = l.flatMap encD ++ [S k, S x] := by simp [encD]

/-- What the list being built holds, a range over the outer map under way. -/
structure Coll (w wr : World) (N M r n : Nat) (D : DataW Unit) (Ps : List Dep) (left : Lit → Bool) (cnt : Nat) (v : Value) (l : List Dep) : Prop where
  rg : wr.ranges Yba.prog 9 RO M r n D left cnt
  row : wr.ownsRow N 31 2 v l.length (l.flatMap encD)
  bel : Below N w wr
  sub : ∀ p, p ∈ l → p ∈ Ps
  nodup : l.Nodup

set_option maxRecDepth 100000 in
set_option maxHeartbeats 1000000 in
theorem list4 (sb base M n : Nat) (D : DataW Unit) (I : List UInt8 → DataW Unit) (β : List UInt8 → Nat) (Ks : List (List UInt8)) (Ps : List Dep) (w : World) (hM : MM w base M n D I β Ks Ps)
    (hc : w.cell? ⟨sb, 44, Option.none⟩ = some (.map (some M))) (hlen : Ps.length ≤ 1024) :
    Calls Yba.prog 4 #[.pointer (some ⟨sb, 0, Option.none⟩)] w fun e w' => ∃ (v : Value) (l : List Dep), e = .returned v ∧ w'.ownsRow w.heap.size 31 2 v l.length (l.flatMap encD) ∧ l.Nodup ∧ (∀ p, p ∈ l ↔ p ∈ Ps) ∧ Below w.heap.size w w' := by
  obtain ⟨i31, hi31, hz31, hs31, hb31⟩ := info_parts info31
  have hMlt := hM.outer.lt
  have HM : Hid (MM w base M n D I β Ks Ps) := hM
  have hown := hM.outer
  generalize hN : w.heap.size = N
  rw [hN] at hMlt
  have HN : Hid (w.heap.size = N) := hN
  clear hM hN
  go_enter Yba.func4, Yba.ntmps4
  go_wp2_with (first
    | (at_range; refine wpList_range_own _ rfl _ 24 rfl 9 28 key9 Yba.underlying24 RO M n D rfl hown ?_; intro w0 hrg0 hg0 hs0)
    | go_in)
  go_frame
  rw [HN.out] at hrg0 hs0 ⊢
  go_loopw [3] (fun v wr => ∃ (left : Lit → Bool) (cnt : Nat) (l : List Dep), Coll w wr N M N n D Ps left cnt v l ∧ ∀ p, p ∈ Ps → (p ∈ l ↔ left (.string p.1) = false))
    (fun _ wr => wr.rangeLeft M N)
  case atStart =>
    refine ⟨_, _, [], ⟨hrg0, World.ownsRow_nil _ _ _ _, ((Below.refl _ _).grown hg0 (by rw [HN.out]; exact Nat.le_refl _) (fun j hj => by cases hj)), fun p hp => (by cases hp), List.nodup_nil⟩, fun p hp => ?_⟩
    rw [(HM.out.has p.1).2 (HM.out.sub p hp)]
    simp
  case round =>
    obtain ⟨left, cnt, l, C, hmem⟩ := hrel
    have HC : Hid (Coll w wr N M N n D Ps left cnt u3 l) := C
    have HMM : Hid (∀ p, p ∈ Ps → (p ∈ l ↔ left (.string p.1) = false)) := hmem
    have hrg := C.rg
    clear C hmem
    go_wp2_with (first
      | (at_next; refine wpList_next_ranges _ rfl _ rfl 9 key9 RO Value.string Value.map invK (fun v y h => RO_inv h) M N n _ _ _ rfl hrg ?_ ?_)
      | go_in)
    · intro _ hl0
      have HL0 : Hid (∀ kl, left kl = false) := hl0
      clear hl0
      go_wp2
      go_ret
      exact ⟨_, l, rfl, HC.out.row, HC.out.nodup, fun p => ⟨HC.out.sub p, fun hp => (HMM.out p hp).2 (HL0.out _)⟩, HC.out.bel⟩
    · intro sk c kl yd yp w1 cnt1 hkey hlk hv hat hrg1 hlt hg1 hs1 hen
      obtain ⟨k, ek, rfl, _⟩ := Maps.keyOf_str Yba.underlying9 hkey
      have hkK : k ∈ Ks := (HM.out.has k).1 (Maps.has_true_of_atKey hat)
      have ey : yd = .lit (.int .u64 (β k)) := (hat .nil).symm.trans (HM.out.at_ k hkK _)
      subst ey
      have ec := RO_at hv
      simp only [Value.map.injEq] at ec
      subst ec
      generalize hb : β k = b at hen hlk hat hv
      have hin : w.ownsMap Yba.prog 9 RI b n (I k) := hb ▸ HM.out.inner k hkK
      have hbN : b < N := by rw [← HN.out]; exact hin.lt
      have hbel1 : Below N w w1 := HC.out.bel.grown hg1 (by have := HC.out.bel.size; rw [HN.out] at this; exact this) (fun j hj => by cases hj; exact Nat.le_refl _)
      have hin1 : w1.ownsMap Yba.prog 9 RI b n (I k) := ownsMap_of_heap hin (hbel1.block b hbN)
      have hrow1 := HC.out.row.kept hg1 (.inr (fun e => row_ne_iter HC.out.row hrg e.symm))
      have hN1 : N ≤ w1.heap.size := by have := hbel1.size; rw [HN.out] at this; exact this
      have hNr : N < w1.heap.size := hrg1.lt
      clear hs1 hv hat hkey
      have EK : Hid (Value.string sk = S k) := ek
      have HKK : Hid (k ∈ Ks) := hkK
      have HLK : Hid (left (.string k) = true) := hlk
      have HR1 : Hid (w1.ranges Yba.prog 9 RO M N n D (fun z => left z && !z.sameKey (.string k)) cnt1) := hrg1
      have HROW : Hid (w1.ownsRow N 31 2 u3 l.length (l.flatMap encD)) := hrow1
      have HB1 : Hid (Below N w w1) := hbel1
      have HLT : Hid (cnt1 < cnt) := hlt
      have HRG : Hid (wr.ranges Yba.prog 9 RO M N n D left cnt) := hrg
      clear ek hkK hlk hrg1 hrow1 hbel1 hlt hrg hg1
      go_wp2_with (first
        | (at_range; refine wpList_range_own _ rfl _ 28 rfl 9 4 key9 Yba.underlying28 RI b n (I k) rfl hin1 ?_; intro w2 hrg2 hg2 hs2)
        | go_in)
      go_frame
      clear hs2
      generalize w1.heap.size = r2 at hrg2 hN1 hNr ⊢
      have HG2 : Hid (w1.grownBy w2 Option.none) := hg2
      clear hg2 hin1 hin hen
      go_loopw [3] (fun v wr => ∃ (left2 : Lit → Bool) (cnt2 : Nat) (l2 : List Dep), Coll w wr N M N n D Ps (fun z => left z && !z.sameKey (.string k)) cnt1 v l2 ∧ wr.ranges Yba.prog 9 RI b r2 n (I k) left2 cnt2 ∧ ∀ p, p ∈ Ps → (p ∈ l2 ↔ (left (.string p.1) = false ∨ (p.1 = k ∧ left2 (.string p.2) = false)))) (fun _ wr => wr.rangeLeft b r2)
      case atStart =>
        refine ⟨_, _, l, ⟨HR1.out.kept HG2.out (by simp) (by simp), HROW.out.kept HG2.out (Decidable.em _), HB1.out.grown HG2.out (by have := HB1.out.size; rw [HN.out] at this; exact this) (fun j hj => by cases hj), HC.out.sub, HC.out.nodup⟩, hrg2, fun p hp => ?_⟩
        rw [HMM.out p hp]
        refine ⟨.inl, fun h => h.resolve_right (fun h2 => ?_)⟩
        obtain ⟨e, h3⟩ := h2
        have : (k, p.2) ∈ Ps := by rw [← e]; exact hp
        rw [(HM.out.ins k p.2 HKK.out).2 this] at h3
        cases h3
      case round =>
        obtain ⟨left2, cnt2, l2, C2, hrgi, hm2⟩ := hrel
        have HC2 : Hid (Coll w wr N M N n D Ps (fun z => left z && !z.sameKey (.string k)) cnt1 u3 l2) := C2
        have HM2 : Hid (∀ p, p ∈ Ps → (p ∈ l2 ↔ (left (.string p.1) = false ∨ (p.1 = k ∧ left2 (.string p.2) = false)))) := hm2
        clear C2 hm2 hrg2
        go_wp2_with (first
          | (at_next; refine wpList_next_ranges _ rfl _ rfl 9 key9 RI Value.string (fun v : Value => v) invK (fun v y _ => ⟨v, rfl⟩) b r2 n _ _ _ rfl hrgi ?_ ?_)
          | go_in)
        · intro _ hl0
          have HL0 : Hid (∀ kl, left2 kl = false) := hl0
          clear hl0
          go_wp2
          go_roundw
          case rel =>
            refine ⟨_, cnt1, l2, HC2.out, fun p hp => ?_⟩
            rw [HM2.out p hp]
            simp only [HL0.out, and_true, Bool.and_eq_false_iff, Bool.not_eq_false']
            refine or_congr Iff.rfl ?_
            rw [WideAt.sameKey_iff (isKey k)]
            simp
          case measure => rw [HC2.out.rg.left_eq, HRG.out.left_eq]; exact HLT.out
        · intro sx c kl yd yp w3 cnt3 hkey hlk2 hv hat hrg3 hlt3 hg3 hs3 hen3
          obtain ⟨x, ex, rfl, _⟩ := Maps.keyOf_str Yba.underlying9 hkey
          have hxP : (k, x) ∈ Ps := (HM.out.ins k x HKK.out).1 (Maps.has_true_of_atKey hat)
          have hnot : (k, x) ∉ l2 := fun h => by
            rcases (HM2.out _ hxP).1 h with h1 | h1
            · rw [HLK.out] at h1; cases h1
            · rw [hlk2] at h1; cases h1.2
          have hl2 : l2.length ≤ 1024 := Nat.le_trans (HC2.out.nodup.length_le_of_subset (fun p hp => HC2.out.sub p hp)) hlen
          have hsz2 : N ≤ wr.heap.size := by have := HC2.out.bel.size; rw [HN.out] at this; exact this
          have rg3 := HC2.out.rg.kept hg3 (by simp; omega) (by simp; omega)
          have row3 := HC2.out.row.kept hg3 (.inr (fun e => row_ne_iter HC2.out.row hrgi e.symm))
          have bel3 : Below N w w3 := HC2.out.bel.grown hg3 hsz2 (fun j hj => by cases hj; exact hN1)
          have hsz3 : N ≤ w3.heap.size := by have := bel3.size; rw [HN.out] at this; exact this
          clear hs3 hv hat hkey
          have EX : Hid (Value.string sx = S x) := ex
          have HLK2 : Hid (left2 (.string x) = true) := hlk2
          have HX : Hid ((k, x) ∈ Ps ∧ (k, x) ∉ l2) := ⟨hxP, hnot⟩
          have HRG3 : Hid (w3.ranges Yba.prog 9 RO M N n D (fun z => left z && !z.sameKey (.string k)) cnt1) := rg3
          have HRI : Hid (w3.ranges Yba.prog 9 RI b r2 n (I k) (fun z => left2 z && !z.sameKey (.string x)) cnt3) := hrg3
          have HLT3 : Hid (cnt3 < cnt2) := hlt3
          have HRG2 : Hid (wr.ranges Yba.prog 9 RI b r2 n (I k) left2 cnt2) := hrgi
          have HB3 : Hid (Below N w w3) := bel3
          clear ex hlk2 hxP hnot rg3 hrg3 hlt3 hrgi bel3 hg3
          go_wp2_with (first
            | (at_builtin; refine wpList_append_lies _ rfl _ _ 25 rfl N 31 i31 (.agg #[.string ⟨#[]⟩, .string ⟨#[]⟩]) 2 32 Yba.underlying25 hi31 hz31 hs31 hb31 rfl (by omega) u3 l2.length (l2.flatMap encD) rfl (row3.alloc _) ⟨w3.heap.size, 0, Option.none⟩ 1 1 [.string sk, .string sx] rfl rfl (cell_two_new _ _ _ _) (by simp [Value.oneCell']) (by omega) (by simp [maxLen]; omega) (by omega) (by simp; omega) (w3.heap.size + 1) (by simp) ?_; intro g cap w4 hown4 hg4 hat4 hgl4)
            | go_in)
          have row3a := row3.alloc (.cells #[.string sk, .string sx] 31)
          have ri3a := HRI.out.alloc (.cells #[.string sk, .string sx] 31)
          have rg3a := HRG3.out.alloc (.cells #[.string sk, .string sx] 31)
          have b3a : Below N w (w3.alloc (.cells #[.string sk, .string sx] 31)) := HB3.out.alloc hsz3 _
          have ri4 := ri3a.kept hg4 (row_ne_low row3a hbN) (row_ne_iter row3a ri3a)
          go_roundw
          case rel =>
            refine ⟨_, cnt3, l2 ++ [(k, x)], ⟨rg3a.kept hg4 (row_ne_low row3a hMlt) (row_ne_iter row3a rg3a), ?_, b3a.grown hg4 (by simp; omega) (fun j hj => (row3a.lt j hj).1), fun p hp => ?_, ?_⟩, ri4, fun p hp => ?_⟩
            · rw [flat_snoc, ← EK.out, ← EX.out]
              simpa using hown4
            · rcases List.mem_append.1 hp with h | h
              · exact HC2.out.sub p h
              · simp at h; rw [h]; exact HX.out.1
            · refine List.nodup_append.2 ⟨HC2.out.nodup, by simp, ?_⟩
              intro p hp q hq e
              simp at hq
              subst hq
              subst e
              exact HX.out.2 hp
            · rw [List.mem_append, HM2.out p hp]
              simp only [List.mem_singleton, Bool.and_eq_false_iff, Bool.not_eq_false', WideAt.sameKey_iff (isKey x)]
              obtain ⟨p1, p2⟩ := p
              simp only [Prod.mk.injEq, Lit.string.injEq]
              constructor
              · rintro ((h | h) | h)
                · exact .inl h
                · exact .inr ⟨h.1, .inl h.2⟩
                · exact .inr ⟨h.1, .inr h.2⟩
              · rintro (h | ⟨h1, h | h⟩)
                · exact .inl (.inl h)
                · exact .inl (.inr ⟨h1, h⟩)
                · exact .inr ⟨h1, h⟩
          case measure => rw [ri4.left_eq, HRG2.out.left_eq]; exact HLT3.out

set_option maxRecDepth 100000 in
/-- A store whose map was never made lists nothing. -/
theorem list4_nil (sb : Nat) (w : World) (hc : w.cell? ⟨sb, 44, Option.none⟩ = some (.map Option.none)) :
    Calls Yba.prog 4 #[.pointer (some ⟨sb, 0, Option.none⟩)] w fun e w' => e = .returned (.slice Option.none 0 0) ∧ Below w.heap.size w w' := by
  have hrg := run_range_nilMap (P := Yba.prog) w 24 9 28 Yba.underlying24
  have hnx : ∀ ty, (Instr.next (.pointer (some ⟨w.heap.size, 0, Option.none⟩)) false ty).run Yba.prog (w.alloc (.mapIter Option.none 0 #[] 0)) = _ := fun ty => run_next_nilMap _ ty 0 0 #[]
  go_enter Yba.func4, Yba.ntmps4
  go_wp2
  refine wp_loop_rounds 1 ?_
  rw [rounds_succ]
  go_wp2
  go_ret
  exact ⟨rfl, (Below.refl _ _).alloc (Nat.le_refl _) _⟩
end Go.Proofs.Ybulkcpto

import Derived.Test.YbulkcptoWalk
import Derived.WalkKit
import Derived.ProofKit
import Derived.OpenShut
import Derived.ShutString
import Derived.ChangeOld
import Derived.Below
import Derived.Deep.Strs
import Derived.Deep.SlicePairs
namespace Go.Proofs.Ybulkcpto.lawS4577CListsDeclared
open Go.ChangeShapes Go.WideShapes Go.ChangeAt Go.RowKit
open Go.ChangeMaps (open_string shut_string)
set_option linter.unusedVariables false

theorem own : ownKnob Yba.prog.godebug = none := by kernel_rfl
theorem laidOut : laidOutB Yba.prog = true := by kernel_rfl

set_option maxRecDepth 100000 in
/-- Too many elements: the law says nothing of them, and returns true at once. -/
theorem walk_big (a1 a2 : Option Addr) (n1 n2 c1 c2 : Nat) (w : World) (h : 1024 < n1 ∨ 1024 < n2) :
    Calls Yba.prog 3 #[.slice a1 n1 c1, .slice a2 n2 c2] w fun e w' => e = .returned (.bool true) ∧ w' = w := by
  by_cases h1 : 1024 < n1
  · have h1' : (1024 : Int) < (n1 : Int) := by omega
    clear h
    go_enter Yba.func3, Yba.ntmps3
    go_wp2
    go_ret
    exact ⟨rfl, rfl⟩
  · have h1' : (n1 : Int) ≤ 1024 := by omega
    have h2' : (1024 : Int) < (n2 : Int) := by omega
    clear h
    go_enter Yba.func3, Yba.ntmps3
    go_wp2
    go_ret
    exact ⟨rfl, rfl⟩

theorem S_data (s : ByteArray) : S s.data.toList = .string s := by simp [S]

set_option maxRecDepth 100000 in
/-- The first argument, opened. -/
theorem open_pairs {H : Type} {enc : TypeId × Value → H} {W : World} {base : Nat} {held : Bool} {fuel : Nat} {a : Option Addr} {len cap : Nat} {x : DataW H × List MemPlace}
    (hf : DataW.trod enc Yba.prog W base (fun _ => true) held fuel 22 [.slice a len cap] = some x) : ∃ ps : List P3, ps.length = len ∧ PairsAt W a ps := by
  rcases Go.Deep.open_slice Yba.underlying22 hf with ⟨hcs, _⟩ | ⟨y, l, c, m, n, D, Pl, hcs, _, hl, hm, hmm, _, hx⟩
  · simp at hcs
    obtain ⟨rfl, rfl, rfl⟩ := hcs
    exact ⟨[], rfl, ⟨fun j hj => by simp at hj, fun j hj => by simp at hj⟩⟩
  · simp at hcs
    obtain ⟨rfl, rfl, rfl⟩ := hcs
    have hlm : len ≤ m := by simp at hmm; omega
    have ce : Yba.prog.cellsOf 27 = 3 := by kernel_rfl
    have c9 : Yba.prog.cellsOf 9 = 1 := by kernel_rfl
    have c4 : Yba.prog.cellsOf 4 = 1 := by kernel_rfl
    obtain ⟨q, hq⟩ := Go.Deep.choose_lt (α := P3) (n := len)
      (p := fun i q => W.cell? (y.add (i * 3)) = some (S q.1) ∧ W.cell? (y.add (i * 3 + 1)) = some (S q.2.1) ∧ W.cell? (y.add (i * 3 + 2)) = some (.bool q.2.2) ∧ q.1.length ≤ maxLen ∧ q.2.1.length ≤ maxLen)
      (fun i hi => by
        obtain ⟨cs', h1, h2⟩ := hx i (by omega)
        rw [ce] at h1
        obtain ⟨_, hlen, hcell⟩ := World.cells?_some h1
        obtain ⟨y0, y1, y2, k, _, _, t0, t1, t2⟩ := Go.Deep.trod_struct3 Yba.underlying27 h2
        match cs', hlen with
        | [v0, v1, v2], _ =>
          simp [c9, c4] at t0 t1 t2
          obtain ⟨s0, e0, _, z0⟩ := DataW.trod_string Yba.underlying9 t0
          obtain ⟨s1, e1, _, z1⟩ := DataW.trod_string Yba.underlying9 t1
          obtain ⟨b2, e2, _⟩ := DataW.trod_bool Yba.underlying4 t2
          simp at e0 e1 e2
          subst e0 e1 e2
          have g0 := hcell 0 (by omega)
          have g1 := hcell 1 (by omega)
          have g2 := hcell 2 (by omega)
          rw [Go.Deep.add_add] at g0 g1 g2
          exact ⟨(s0.data.toList, s1.data.toList, b2), by rw [S_data]; simpa using g0, by rw [S_data]; simpa using g1, by simpa using g2, by rw [Array.length_toList]; exact z0, by rw [Array.length_toList]; exact z1⟩)
    refine ⟨(List.range len).map q, by simp, ⟨fun j hj => ?_, fun j hj => ?_⟩⟩
    · have hj' : j < len := by simpa using hj
      obtain ⟨g0, g1, g2, _⟩ := hq j hj'
      obtain ⟨gz, _⟩ := hq 0 (by omega)
      obtain ⟨b, off, spot⟩ := y
      have hspot : spot = none := by simpa [Addr.add] using World.cell?_spot gz
      subst hspot
      have hb := World.block_lt_of_cell? _ _ g0
      rw [Addr.add_mid] at g0 g1 g2 hb
      refine ⟨b, off, rfl, hb, ?_, ?_, ?_⟩
      · simpa using g0
      · simpa [Nat.add_assoc] using g1
      · simpa [Nat.add_assoc] using g2
    · have hj' : j < len := by simpa using hj
      obtain ⟨_, _, _, g3, g4⟩ := hq j hj'
      rw [List.getElem_map, List.getElem_range]
      exact ⟨g3, g4⟩

set_option maxRecDepth 100000 in
/-- The second argument, opened. -/
theorem open_names {H : Type} {enc : TypeId × Value → H} {W : World} {base : Nat} {held : Bool} {fuel : Nat} {a : Option Addr} {len cap : Nat} {x : DataW H × List MemPlace}
    (hf : DataW.trod enc Yba.prog W base (fun _ => true) held fuel 23 [.slice a len cap] = some x) : ∃ bs : List (List UInt8), bs.length = len ∧ StrsAt W a bs := by
  rcases Go.Deep.open_strs Yba.underlying23 Yba.underlying9 (by kernel_rfl) hf with ⟨hcs, _⟩ | ⟨y, l, c, m, Sx, hcs, _, hl, _, hmm, _, hx⟩
  · simp at hcs
    obtain ⟨rfl, rfl, rfl⟩ := hcs
    exact ⟨[], rfl, ⟨fun j hj => by simp at hj, fun j hj => by simp at hj⟩⟩
  · simp at hcs
    obtain ⟨rfl, rfl, rfl⟩ := hcs
    have hlm : len ≤ m := by simp at hmm; omega
    refine ⟨(List.range len).map fun i => (Sx i).data.toList, by simp, ⟨fun j hj => ?_, fun j hj => ?_⟩⟩
    · have hj' : j < len := by simpa using hj
      obtain ⟨g0, _⟩ := hx j (by omega)
      obtain ⟨gz, _⟩ := hx 0 (by omega)
      obtain ⟨b, off, spot⟩ := y
      have hspot : spot = none := by simpa [Addr.add] using World.cell?_spot gz
      subst hspot
      have hb := World.block_lt_of_cell? _ _ g0
      rw [Addr.add_mid] at g0 hb
      refine ⟨b, off, rfl, hb, ?_⟩
      simpa [S_data] using g0
    · have hj' : j < len := by simpa using hj
      obtain ⟨_, g1⟩ := hx j (by omega)
      rw [List.getElem_map, List.getElem_range, Array.length_toList]
      exact g1

theorem walk (a1 a2 : Option Addr) (n1 n2 c1 c2 : Nat) (ps : List P3) (bs : List (List UInt8)) (w : World) (e1 : ps.length = n1) (h1 : PairsAt w a1 ps) (e2 : bs.length = n2) (h2 : StrsAt w a2 bs) :
    Calls Yba.prog 3 #[.slice a1 n1 c1, .slice a2 n2 c2] w fun e w' => e = .returned (.bool true) ∧ Below w.heap.size w w' := by
  by_cases hb : 1024 < n1 ∨ 1024 < n2
  · exact (walk_big a1 a2 n1 n2 c1 c2 w hb).mono fun e w' ⟨h1, h2⟩ => ⟨h1, by rw [h2]; exact Below.refl _ _⟩
  · subst e1 e2
    exact law3 a1 a2 c1 c2 ps bs w h1 h2 (by omega) (by omega)

/-! ### THE ROW's STEP: WRITTEN OUT: LEAVE IT -/
set_option maxRecDepth 100000 in
theorem lifted (os : Os) (started : os.Started) (H : Type) (enc : TypeId × Value → H) :
    ReturnsInHanded {} Yba.checked os 3 .any (Rows.lawS4577CListsDeclaredSpec.pre6 enc Yba.prog Yba.f3 Rows.lawS4577CListsDeclaredRow.domain false) (Rows.lawS4577CListsDeclaredSpec.post enc Yba.prog Yba.f3 false true false false) := by
  refine returnsInHanded_of_change (C := Yba.checked) own started (by kernel_rfl) Yba.func3
    (ChangeSpec.witness6 (enc := enc) (C := Yba.checked) false ⟨#[], #[.slice none 0 0, .slice none 0 0], []⟩ 8 (by kernel_rfl) (by kernel_rfl) (by kernel_rfl) (by kernel_rfl)) ?_
  intro W base args ds gs before hval0 hW hcnd _
  have hval : ∀ (j : Nat) t v, Yba.f3.params[j]? = some t → args[j]? = some v → Value.okWide Yba.prog W .any base t v := hval0
  have hW' := hW
  obtain ⟨p, q, hA0, hV, rfl, hfz, hnd⟩ := hW
  have hA : DataW.TrodAll enc Yba.prog W 0 (fun _ => true) true Yba.f3.params.toList args.toList ds p := hA0
  rw [Yba.params3] at hA hval
  obtain ⟨v0, vs0, d0, ds0, p0, q0, hargs, rfl, rfl, h0, r0⟩ := trodAll_cons hA
  obtain ⟨v1, vs1, d1, ds1, p1, q1, rfl, rfl, rfl, h1, r1⟩ := trodAll_cons r0
  obtain ⟨rfl, rfl, rfl⟩ := trodAll_nil r1
  obtain rfl : args = #[v0, v1] := by cases args; simp_all
  obtain ⟨rfl, rfl⟩ := trodVars_none hV
  obtain ⟨a0, len0, cap0, rfl⟩ := okWide_slice Yba.underlying22 (hval 0 22 v0 rfl rfl)
  obtain ⟨a1, len1, cap1, rfl⟩ := okWide_slice Yba.underlying23 (hval 1 23 v1 rfl rfl)
  have k0 := h0
  have lt0 : ∀ x ∈ p0, x.block < W.heap.size := by obtain ⟨m, hm⟩ := k0; exact DataW.trod_lt m _ _ _ hm
  have k1 := h1
  have lt1 : ∀ x ∈ p1, x.block < W.heap.size := by obtain ⟨m, hm⟩ := k1; exact DataW.trod_lt m _ _ _ hm
  obtain ⟨ps, e0, hp⟩ : ∃ ps : List P3, ps.length = len0 ∧ PairsAt W a0 ps := by
    obtain ⟨fuel, hf⟩ := h0
    exact open_pairs hf
  obtain ⟨bs, e1, hb⟩ : ∃ bs : List (List UInt8), bs.length = len1 ∧ StrsAt W a1 bs := by
    obtain ⟨fuel, hf⟩ := h1
    exact open_names hf
  clear hA0 hval0
  refine (walk a0 a1 len0 len1 cap0 cap1 ps bs W e0 hp e1 hb).mono fun e W' ⟨he, bel⟩ => ?_
  subst he
  exact ⟨_, rfl, _, _, _, [], _, [], hW', trodAll_mk1 (shut_bool Yba.underlying4 _), (trodAll_cons_mk (Below.trod laidOut (by kernel_rfl) (of_decide_eq_true (by kernel_rfl)) k0 bel lt0) (trodAll_cons_mk (Below.trod laidOut (by kernel_rfl) (of_decide_eq_true (by kernel_rfl)) k1 bel lt1) trodAll_mk0)), rfl, bel.frame _, fun h => by cases h⟩

theorem over : Rows.lawS4577CListsDeclaredRow.holds Yba.pinned (OpenSpec.ofChange Rows.lawS4577CListsDeclaredSpec) :=
  OpenClaim.holds_of_wide 3 Yba.f3 rfl rfl rfl rfl rfl rfl rfl ⟨rfl, rfl, rfl, rfl, rfl⟩ rfl rfl rfl rfl rfl (by kernel_rfl) Yba.func3 (by kernel_rfl)
    (of_decide_eq_true (by kernel_rfl)) (by unfold Func.isWrapper; first | (rw [if_pos (by decide +kernel)]; kernel_rfl) | (rw [if_neg (by decide +kernel)]; exact ⟨rfl, rfl⟩))
    (fun os started H enc _ => lifted os started H enc)

/-- THE STATEMENT -/
theorem proved : Rows.LawS4577CListsDeclaredSaid := over
end Go.Proofs.Ybulkcpto.lawS4577CListsDeclared

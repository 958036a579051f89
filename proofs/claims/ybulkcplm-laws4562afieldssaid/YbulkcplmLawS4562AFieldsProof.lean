import Derived.Test.YbulkcplmAWalk2
import Derived.Deep.SlicePairs
namespace Go.Proofs.Ybulkcplm.lawS4562AFields
open Go.ChangeShapes Go.WideShapes Go.ChangeAt Go.RowKit
open Go.ChangeMaps (open_string shut_string)
set_option linter.unusedVariables false

theorem own : ownKnob Yba.prog.godebug = none := by kernel_rfl
theorem laidOut : laidOutB Yba.prog = true := by kernel_rfl

/-- A slice of bytes in one cell, opened. -/
theorem open_row {H : Type} {enc : TypeId × Value → H} {W : World} {base : Nat} {held : Bool} {fuel : Nat} {v : Value} {x : DataW H × List MemPlace}
    (hf : DataW.trod enc Yba.prog W base (fun _ => true) held fuel 26 [v] = some x) : ∃ (a : Option Addr) (l k : Nat) (z : List Int), v = .slice a l k ∧ IsRow .u8 W a l k z := by
  rcases open_ints Yba.underlying26 Yba.underlying5 (by kernel_rfl) hf with ⟨hcs, _⟩ | ⟨y, l, c, zs, hcs, _, hl, hm, hz, _, hcell, hwz⟩
  · simp at hcs
    exact ⟨none, 0, 0, [], hcs, .inl ⟨rfl, rfl, rfl, rfl⟩⟩
  · simp at hcs
    exact ⟨some y, l, c, zs, hcs, .inr ⟨_, rfl, hl, hm, by simpa using hz, hcell, hwz⟩⟩

theorem open_caps {H : Type} {enc : TypeId × Value → H} {W : World} {base : Nat} {held : Bool} {fuel : Nat} {a : Option Addr} {len cap : Nat} {x : DataW H × List MemPlace}
    (hf : DataW.trod enc Yba.prog W base (fun _ => true) held fuel 24 [.slice a len cap] = some x) : ∃ C A L K Z, IsCaps W a len cap C A L K Z := by
  rcases Go.Deep.open_slice_pairs Yba.underlying24 Yba.underlying28 (by kernel_rfl) rfl rfl (by kernel_rfl) (by kernel_rfl) hf with ⟨hcs, _⟩ | ⟨y, l, c, m, n, V0, V1, D0, D1, P0, P1, hcs, _, hl, hm, hmm, _, hx⟩
  · simp at hcs
    obtain ⟨rfl, rfl, rfl⟩ := hcs
    exact ⟨fun _ => 0, fun _ => none, fun _ => 0, fun _ => 0, fun _ => [], .inl ⟨rfl, rfl, rfl⟩⟩
  · simp at hcs
    obtain ⟨rfl, rfl, rfl⟩ := hcs
    have hlm : len ≤ m := by simp at hmm; omega
    obtain ⟨q, hq⟩ := Go.Deep.choose_lt (α := Int × Option Addr × Nat × Nat × List Int) (n := len)
      (p := fun i q => W.cell? (y.add (i * 2)) = some (.int .u8 q.1) ∧ W.cell? (y.add (i * 2 + 1)) = some (.slice q.2.1 q.2.2.1 q.2.2.2.1) ∧ IsRow .u8 W q.2.1 q.2.2.1 q.2.2.2.1 q.2.2.2.2)
      (fun i hi => by
        obtain ⟨h0, h1, t0, t1⟩ := hx i (by omega)
        obtain ⟨n0, e0, _, _⟩ := DataW.trod_int Yba.underlying5 t0
        simp at e0
        obtain ⟨a', l', k', z', e1, hr⟩ := open_row t1
        exact ⟨(n0, a', l', k', z'), by rw [h0, e0], by rw [h1, e1], hr⟩)
    exact ⟨fun i => (q i).1, fun i => (q i).2.1, fun i => (q i).2.2.1, fun i => (q i).2.2.2.1, fun i => (q i).2.2.2.2, .inr ⟨y, rfl, hl, hm, fun i hi => hq i hi⟩⟩

set_option maxRecDepth 100000 in
theorem lifted (os : Os) (started : os.Started) (H : Type) (enc : TypeId × Value → H) :
    ReturnsInHanded {} Yba.checked os 3 .any (Rows.lawS4562AFieldsSpec.pre6 enc Yba.prog Yba.f3 Rows.lawS4562AFieldsRow.domain false) (Rows.lawS4562AFieldsSpec.post enc Yba.prog Yba.f3 false true false false) := by
  refine returnsInHanded_of_change (C := Yba.checked) own started (by kernel_rfl) Yba.func3
    (ChangeSpec.witness6 (enc := enc) (C := Yba.checked) false ⟨#[], #[.int .u32 0, .int .u8 0, .int .u16 0, .slice none 0 0], []⟩ 8 (by kernel_rfl) (by kernel_rfl) (by kernel_rfl) (by kernel_rfl)) ?_
  intro W base args ds gs before hval0 hW hcnd _
  have hval : ∀ (j : Nat) t v, Yba.f3.params[j]? = some t → args[j]? = some v → Value.okWide Yba.prog W .any base t v := hval0
  have hW' := hW
  obtain ⟨p, q, hA0, hV, rfl, hfz, hnd⟩ := hW
  have hA : DataW.TrodAll enc Yba.prog W 0 (fun _ => true) true Yba.f3.params.toList args.toList ds p := hA0
  rw [Yba.params3] at hA hval
  obtain ⟨v0, vs0, d0, ds0, p0, q0, hargs, rfl, rfl, h0, r0⟩ := trodAll_cons hA
  obtain ⟨v1, vs1, d1, ds1, p1, q1, rfl, rfl, rfl, h1, r1⟩ := trodAll_cons r0
  obtain ⟨v2, vs2, d2, ds2, p2, q2, rfl, rfl, rfl, h2, r2⟩ := trodAll_cons r1
  obtain ⟨v3, vs3, d3, ds3, p3, q3, rfl, rfl, rfl, h3, r3⟩ := trodAll_cons r2
  obtain ⟨rfl, rfl, rfl⟩ := trodAll_nil r3
  obtain rfl : args = #[v0, v1, v2, v3] := by cases args; simp_all
  obtain ⟨rfl, rfl⟩ := trodVars_none hV
  obtain ⟨a0, rfl, rfl, rfl, w0⟩ := open_int Yba.underlying22 (hval 0 22 v0 rfl rfl) h0
  obtain ⟨a1, rfl, rfl, rfl, w1⟩ := open_int Yba.underlying5 (hval 1 5 v1 rfl rfl) h1
  obtain ⟨a2, rfl, rfl, rfl, w2⟩ := open_int Yba.underlying23 (hval 2 23 v2 rfl rfl) h2
  obtain ⟨a3, len3, cap3, rfl⟩ := okWide_slice Yba.underlying24 (hval 3 24 v3 rfl rfl)
  have k3 := h3
  have lt3 : ∀ x ∈ p3, x.block < W.heap.size := by obtain ⟨m, hm⟩ := k3; exact DataW.trod_lt m _ _ _ hm
  obtain ⟨C, A, L, K, Z, hcaps⟩ : ∃ C A L K Z, IsCaps W a3 len3 cap3 C A L K Z := by
    obtain ⟨fuel, hf⟩ := h3
    exact open_caps (by simpa [Value.cells] using hf)
  clear hA0 hval0
  refine (walk3 a0 a1 a2 a3 len3 cap3 C A L K Z W w0 w1 w2 hcaps).mono fun e W' ⟨he, bel⟩ => ?_
  subst he
  exact ⟨_, rfl, _, _, _, [], _, [], hW', trodAll_mk1 (shut_bool Yba.underlying4 _), (trodAll_cons_mk (shut_int Yba.underlying22 w0) (trodAll_cons_mk (shut_int Yba.underlying5 w1) (trodAll_cons_mk (shut_int Yba.underlying23 w2) (trodAll_cons_mk (Below.trod laidOut (by kernel_rfl) (of_decide_eq_true (by kernel_rfl)) k3 bel lt3) trodAll_mk0)))), rfl, bel.frame _, fun h => by cases h⟩

theorem over : Rows.lawS4562AFieldsRow.holds Yba.pinned (OpenSpec.ofChange Rows.lawS4562AFieldsSpec) :=
  OpenClaim.holds_of_wide 3 Yba.f3 rfl rfl rfl rfl rfl rfl rfl ⟨rfl, rfl, rfl, rfl, rfl⟩ rfl rfl rfl rfl rfl (by kernel_rfl) Yba.func3 (by kernel_rfl)
    (of_decide_eq_true (by kernel_rfl)) (by unfold Func.isWrapper; first | (rw [if_pos (by decide +kernel)]; kernel_rfl) | (rw [if_neg (by decide +kernel)]; exact ⟨rfl, rfl⟩))
    (fun os started H enc _ => lifted os started H enc)

/-- THE STATEMENT -/
theorem proved : Rows.LawS4562AFieldsSaid := over
end Go.Proofs.Ybulkcplm.lawS4562AFields

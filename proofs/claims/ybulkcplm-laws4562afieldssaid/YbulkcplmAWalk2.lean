import Derived.Test.YbulkcplmAWalk
namespace Go.Proofs.Ybulkcplm
open Go.ChangeShapes Go.WideShapes Go.ChangeAt Go.RowKit

set_option maxRecDepth 100000 in
set_option maxHeartbeats 400000 in
theorem walk3_nil (an sel ht : Int) (w : World)
    (w0 : (Lit.int .u32 an).wf = true) (w1 : (Lit.int .u8 sel).wf = true) (w2 : (Lit.int .u16 ht).wf = true) :
    Calls Yba.prog 3 #[.int .u32 an, .int .u8 sel, .int .u16 ht, .slice none 0 0] w fun e w' => e = .returned (.bool true) ∧ Below w.heap.size w w' := by
  have ba := bounds_u32 w0
  have bs := bounds_u8 w1
  have bh := bounds_u16 w2
  have hnn := fun (wu : World) => run_neq_slice_nil_any (P := Yba.prog) wu 24 28 none 0 0 0 0 Yba.underlying24
  have hnil := fun (wu : World) => Lib.run_eql_slice_nil (P := Yba.prog) wu 24 28 none 0 0 0 0 Yba.underlying24
  have hnil2 := fun (wu : World) => Lib.run_eql_slice_nil (P := Yba.prog) wu 25 29 none 0 0 0 0 Yba.underlying25
  go_enter Yba.func3, Yba.ntmps3
  go_upto_block 0 with fail
  go_cut [9] (fun v wx => w = wx ∧ ∃ x : Int, 0 ≤ x ∧ x ≤ 4294967295 ∧ v = .int .u32 x)
  case first =>
    go_wp2
    all_goals
      go_meet
      exact ⟨rfl, _, by omega, by omega, rfl⟩
  case rest =>
    obtain ⟨rfl, x, hx0, hx1, rfl⟩ := hcut
    go_upto_if 72 with (go_at_call 6; refine (open6 _ _ _ _ _ _ hx0 hx1).mono ?_; rintro e w3 ⟨g, rfl, hop, hb3⟩)
    have e0 : w3.cell? ⟨w.heap.size, 0, none⟩ = some (.int .u64 0) := by rw [hb3.cell (by simp)]; simp
    have e1 : w3.cell? ⟨w.heap.size, 1, none⟩ = some (.int .u64 0) := by rw [hb3.cell (by simp)]; simp
    have e2 : w3.cell? ⟨w.heap.size, 2, none⟩ = some (.pointer none) := by rw [hb3.cell (by simp)]; simp
    have hbel3 : Below w.heap.size w w3 := ((Below.refl _ _).alloc (Nat.le_refl _) _).trans (hb3.mono (by simp))
    clear hb3
    obtain ⟨o0, o1, o2, o3, o4, o5, o6⟩ := hop
    go_cut [14] (fun v wx => w3 = wx ∧ v = .int .u16 (myAS x))
    case first =>
      go_wp2
      all_goals
        go_meet
        exact ⟨rfl, by first | rw [myAS_le (by omega)] | rw [myAS_gt (by omega)]⟩
    case rest =>
      obtain ⟨rfl, rfl⟩ := hcut
      have hid := neq37
      go_wp2_with fail
      go_quiet (fail)
      go_wp2_with fail
      go_quiet (fail)
      go_wp2_with fail
      refine wp_loop_rounds 1 ?_; rw [rounds_succ]
      go_wp2_with fail
      go_ret
      exact ⟨rfl, hbel3.trans ⟨rfl, rfl, rfl, Nat.le_refl _, fun _ _ => rfl⟩⟩

set_option maxRecDepth 100000 in
set_option maxHeartbeats 400000 in
theorem walk3_zero (an sel ht : Int) (a : Addr) (cap : Nat) (w : World)
    (w0 : (Lit.int .u32 an).wf = true) (w1 : (Lit.int .u8 sel).wf = true) (w2 : (Lit.int .u16 ht).wf = true) :
    Calls Yba.prog 3 #[.int .u32 an, .int .u8 sel, .int .u16 ht, .slice (some a) 0 cap] w fun e w' => e = .returned (.bool true) ∧ Below w.heap.size w w' := by
  have ba := bounds_u32 w0
  have bs := bounds_u8 w1
  have bh := bounds_u16 w2
  have hnn := fun (wu : World) => run_neq_slice_nil_any (P := Yba.prog) wu 24 28 (some a) 0 cap 0 0 Yba.underlying24
  have hnil := fun (wu : World) => Lib.run_eql_slice_nil (P := Yba.prog) wu 24 28 (some a) 0 cap 0 0 Yba.underlying24
  have hnil2 := fun (wu : World) => Lib.run_eql_slice_nil (P := Yba.prog) wu 25 29 (some ⟨w.heap.size, 0, none⟩) 0 0 0 0 Yba.underlying25
  have hmk := run_mk 0 (by omega)
  simp only [Int.natCast_zero, Nat.zero_mul] at hmk
  go_enter Yba.func3, Yba.ntmps3
  go_upto_block 0 with fail
  go_cut [9] (fun v wx => w = wx ∧ ∃ x : Int, 0 ≤ x ∧ x ≤ 4294967295 ∧ v = .int .u32 x)
  case first =>
    go_wp2
    all_goals
      go_meet
      exact ⟨rfl, _, by omega, by omega, rfl⟩
  case rest =>
    obtain ⟨rfl, x, hx0, hx1, rfl⟩ := hcut
    go_wp2_with fail
    refine wp_loop_rounds 1 ?_; rw [rounds_succ]
    go_upto_if 72 with (go_at_call 6; refine (open6 _ _ _ _ _ _ hx0 hx1).mono ?_; rintro e w3 ⟨g, rfl, hop, hb3⟩)
    have e0 : w3.cell? ⟨w.heap.size + 1, 0, none⟩ = some (.int .u64 0) := by rw [hb3.cell (by simp)]; simp
    have e1 : w3.cell? ⟨w.heap.size + 1, 1, none⟩ = some (.int .u64 0) := by rw [hb3.cell (by simp)]; simp
    have e2 : w3.cell? ⟨w.heap.size + 1, 2, none⟩ = some (.pointer none) := by rw [hb3.cell (by simp)]; simp
    have hbel3 : Below w.heap.size w w3 := (((Below.refl _ _).alloc (Nat.le_refl _) _).alloc (by simp) _).trans (hb3.mono (by simp; omega))
    clear hb3
    obtain ⟨o0, o1, o2, o3, o4, o5, o6⟩ := hop
    go_cut [14] (fun v wx => w3 = wx ∧ v = .int .u16 (myAS x))
    case first =>
      go_wp2
      all_goals
        go_meet
        exact ⟨rfl, by first | rw [myAS_le (by omega)] | rw [myAS_gt (by omega)]⟩
    case rest =>
      obtain ⟨rfl, rfl⟩ := hcut
      have hid := neq37
      go_wp2_with fail
      go_quiet (fail)
      go_wp2_with fail
      go_quiet (fail)
      go_wp2_with fail
      refine wp_loop_rounds 1 ?_; rw [rounds_succ]
      go_wp2_with fail
      go_ret
      exact ⟨rfl, hbel3.trans ⟨rfl, rfl, rfl, Nat.le_refl _, fun _ _ => rfl⟩⟩

set_option maxRecDepth 100000 in
set_option maxHeartbeats 400000 in
theorem walk3_big (an sel ht : Int) (a : Option Addr) (len cap : Nat) (w : World) (hbig : 1024 < len) :
    Calls Yba.prog 3 #[.int .u32 an, .int .u8 sel, .int .u16 ht, .slice a len cap] w fun e w' => e = .returned (.bool true) ∧ Below w.heap.size w w' := by
  go_enter Yba.func3, Yba.ntmps3
  go_wp2
  go_ret
  exact ⟨rfl, Below.refl _ _⟩

theorem walk3 (an sel ht : Int) (a : Option Addr) (len cap : Nat) (C : Nat → Int) (A : Nat → Option Addr) (L K : Nat → Nat) (Z : Nat → List Int) (w : World)
    (w0 : (Lit.int .u32 an).wf = true) (w1 : (Lit.int .u8 sel).wf = true) (w2 : (Lit.int .u16 ht).wf = true) (h : IsCaps w a len cap C A L K Z) :
    Calls Yba.prog 3 #[.int .u32 an, .int .u8 sel, .int .u16 ht, .slice a len cap] w fun e w' => e = .returned (.bool true) ∧ Below w.heap.size w w' := by
  by_cases hbig : 1024 < len
  · exact walk3_big an sel ht a len cap w hbig
  · rcases h with ⟨rfl, rfl, rfl⟩ | ⟨x, rfl, hl, hm, hcell⟩
    · exact walk3_nil an sel ht w w0 w1 w2
    · by_cases hz : len = 0
      · subst hz
        exact walk3_zero an sel ht x cap w w0 w1 w2
      · obtain ⟨b, off, spot⟩ := x
        have hspot : spot = none := by simpa [Addr.add] using World.cell?_spot (hcell 0 (by omega)).1
        subst hspot
        have add : ∀ i, (⟨b, off, none⟩ : Addr).add i = ⟨b, off + i, none⟩ := fun i => Addr.add_mid b off i
        have hb : b < w.heap.size := by
          have := World.block_lt_of_cell? _ _ (hcell 0 (by omega)).1
          rw [add] at this
          exact this
        exact walk3_pos an sel ht b off len cap C A L K Z w w0 w1 w2 (by omega) (by omega) hl hm hb
          (fun i hi => by have := (hcell i hi).1; rwa [add] at this) (fun i hi => by have := (hcell i hi).2.1; rwa [add] at this) (fun i hi => (hcell i hi).2.2)
end Go.Proofs.Ybulkcplm

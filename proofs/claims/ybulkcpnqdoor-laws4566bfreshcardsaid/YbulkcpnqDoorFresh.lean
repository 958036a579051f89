import Derived.Test.YbulkcpnqDoorTable
namespace Go.Proofs.YbulkcpnqDoor
open Go.ChangeShapes Go.WideShapes Go.ChangeAt Go.RowKit Go.WideElems

set_option maxRecDepth 100000 in
set_option maxHeartbeats 400000 in
theorem fresh_walk (n : Nat) (sel : Int) (s : ByteArray) (w : World) (hb : 0 ≤ sel ∧ sel ≤ 255) (hk : sel % 8 + 1 = (n : Int)) (hs : s.size ≤ 140737488351232) (h : Rowed w) :
    Calls Ybad.prog 4 #[.int .u8 sel, .string s] w fun e w' => e = .returned (.bool true) ∧ Below w.heap.size w w' := by
  have h1 : 1 ≤ n := by omega
  have h8 : n ≤ 8 := by omega
  obtain ⟨lp, lq⟩ := list_pos n h1 h8
  have hnn := fun (wu : World) (ad : Option Addr) (l c : Nat) => run_neq_slice_nil_any (P := Ybad.prog) wu 22 9 ad l c 0 0 Ybad.underlying22
  have HR : Hid (Rowed w) := h
  clear h
  go_enter Ybad.func4, Ybad.ntmps4
  go_wp2_with fail
  refine (checks_yes n h1 h8 w HR.out).mono ?_
  rintro e w1 ⟨v, rfl, hown, hb1⟩
  obtain ⟨g, cap, hv, hgb, hgl, hcap, hrow, hc⟩ := Gives.cells hown lp
  rw [hv]
  clear hown hv hc
  go_wp2_with fail
  go_loopw [7] (fun i wr => ∃ k : Nat, k ≤ (listOf n).length ∧ i = .int .i64 k ∧ (∃ f, wr.rowIs g 9 cap f) ∧ Below w.heap.size w wr) (fun i _ => (listOf n).length - (intOf i).toNat)
  case atStart => exact ⟨0, Nat.zero_le _, rfl, hrow, hb1⟩
  case round =>
    obtain ⟨k, hkl, rfl, ⟨f, hf⟩, hbr⟩ := hrel
    by_cases hlt : k < (listOf n).length
    · have q0 := hf.cell (i := k) (by omega)
      have q1 := hf.frozen k
      have z0 : (0 : Int) ≤ (k : Int) := by omega
      have z1 : (k : Int) < ((listOf n).length : Int) := by omega
      have HF : Hid (wr.rowIs g 9 cap f) := hf
      clear hf
      go_wp2_with fail
      go_roundw
      case rel => exact ⟨k + 1, by omega, by go_num, ⟨_, HF.out.set _ _⟩, hbr.setCell hgb _⟩
      case measure => simp [intOf]; omega
    · clear hf hrow hgl hcap hb1
      go_wp2_with fail
      refine (checks_yes n h1 h8 wr (HR.out.below hbr)).mono ?_
      rintro e w3 ⟨v3, rfl, hown3, hb3⟩
      obtain ⟨g3, cap3, hv3, hgb3, hgl3, hcap3, hrow3, hc3⟩ := Gives.cells hown3 lp
      rw [hv3]
      clear hown3 hv3 hrow3 hcap3
      have HC3 : Hid (∀ j, j < (listOf n).length → w3.cell? ⟨g3, j, none⟩ = some (.string ((listOf n).getD j ⟨#[]⟩))) := hc3
      clear hc3
      go_wp2_with fail
      refine (want_yes n h1 h8 w3).mono ?_
      rintro e w4 ⟨rfl, hd, hb4⟩
      have HC : Hid (∀ j, j < (listOf n).length → w4.cell? ⟨g3, j, none⟩ = some (.string ((listOf n).getD j ⟨#[]⟩))) := fun j hj => (hb4.cell hgl3).trans (HC3.out j hj)
      have HD : Hid (∀ j, j < (listOf n).length → w4.cell? ⟨w3.heap.size, j, none⟩ = some (.string ((listOf n).getD j ⟨#[]⟩))) := fun j hj => hd j _ (by simp [hj])
      have hb5 : Below w.heap.size w w4 := hbr.trans ((hb3.mono hbr.size).trans (hb4.mono (Nat.le_trans hbr.size hb3.size)))
      clear hd HC3
      go_wp2_with fail
      refine (eq7 g3 w3.heap.size (listOf n).length cap3 _ (fun j => (listOf n).getD j ⟨#[]⟩) w4 (by omega) HC.out HD.out).mono ?_
      rintro e w6 ⟨rfl, m, rfl⟩
      go_wp2_with fail
      go_ret
      exact ⟨rfl, hb5.trans ⟨rfl, rfl, rfl, Nat.le_refl _, fun _ _ => rfl⟩⟩
end Go.Proofs.YbulkcpnqDoor

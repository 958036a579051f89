import Derived.Test.YbulkcpnqDoorLists
import Derived.Deep.OwnRows
namespace Go.Proofs.YbulkcpnqDoor
open Go.ChangeShapes Go.WideShapes Go.ChangeAt Go.RowKit Go.WideElems

set_option maxRecDepth 100000 in
set_option maxHeartbeats 400000 in
theorem table_no (n : Int) (w : World) (h : n < 1 ∨ 9 ≤ n) : Calls Ybad.prog 3 #[.int .i64 n] w fun e w' => e = .returned (.bool true) ∧ Below w.heap.size w w' := by
  have hnil := fun (wu : World) => Lib.run_eql_slice_nil (P := Ybad.prog) wu 22 9 none 0 0 0 0 Ybad.underlying22
  have HH : Hid (n < 1 ∨ 9 ≤ n) := h
  clear h
  go_enter Ybad.func3, Ybad.ntmps3
  go_wp2_with (first
    | (go_at_call 5; refine (checks_no n _ HH.out).mono ?_; rintro e w1 ⟨rfl, rfl⟩)
    | (go_at_call 6; refine (want_no n _ HH.out).mono ?_; rintro e w2 ⟨rfl, rfl⟩))
  go_ret
  exact ⟨rfl, Below.refl _ _⟩

/-- What the row of a call's own holds, cell by cell. -/
theorem Gives.cells {w w1 : World} {l : List ByteArray} {v : Value} (hown : w1.ownsRow w.heap.size 9 1 v l.length (vals l)) (hp : 0 < l.length) :
    ∃ g cap, v = .slice (some ⟨g, 0, none⟩) l.length cap ∧ w.heap.size ≤ g ∧ g < w1.heap.size ∧ l.length ≤ cap ∧ (∃ f, w1.rowIs g 9 cap f) ∧
      ∀ j, j < l.length → w1.cell? ⟨g, j, none⟩ = some (.string (l.getD j ⟨#[]⟩)) := by
  rcases hown.2 with ⟨_, h0⟩ | ⟨g, cap, cur, rfl, hb, hg, hle, _, hsz, _⟩
  · omega
  refine ⟨g, cap, rfl, hb, (Array.getElem?_eq_some_iff.1 hg).1, hle, ⟨fun i => cur.getD i undef, cur, hg, by simpa using hsz, fun i hi => ?_⟩, fun j hj => ?_⟩
  · have : i < cur.size := by omega
    simp [this]
  · have := hown.cells (g := g) rfl j (.string (l.getD j ⟨#[]⟩)) (by simp [vals, hj])
    rwa [Addr.add_mid, Nat.zero_add] at this

set_option maxRecDepth 100000 in
set_option maxHeartbeats 400000 in
theorem table_yes (n : Nat) (w : World) (h1 : 1 ≤ n) (h8 : n ≤ 8) (h : Rowed w) : Calls Ybad.prog 3 #[.int .i64 n] w fun e w' => e = .returned (.bool true) ∧ Below w.heap.size w w' := by
  obtain ⟨lp, lq⟩ := list_pos n h1 h8
  have hnil := fun (wu : World) (ad : Option Addr) (l c : Nat) => Lib.run_eql_slice_nil (P := Ybad.prog) wu 22 9 ad l c 0 0 Ybad.underlying22
  have hnn := fun (wu : World) (ad : Option Addr) (l c : Nat) => run_neq_slice_nil_any (P := Ybad.prog) wu 22 9 ad l c 0 0 Ybad.underlying22
  have HR : Hid (Rowed w) := h
  clear h
  go_enter Ybad.func3, Ybad.ntmps3
  go_wp2_with fail
  refine (checks_yes n h1 h8 w HR.out).mono ?_
  rintro e w1 ⟨v, rfl, hown, hb1⟩
  obtain ⟨g, cap, hv, hgb, hgl, hcap, hrow, hc⟩ := Gives.cells hown lp
  rw [hv]
  clear hown hv hrow hcap
  go_wp2_with fail
  refine (want_yes n h1 h8 w1).mono ?_
  rintro e w2 ⟨rfl, hd, hb2⟩
  have hc2 : ∀ j, j < (listOf n).length → w2.cell? ⟨g, j, none⟩ = some (.string ((listOf n).getD j ⟨#[]⟩)) := fun j hj => (hb2.cell hgl).trans (hc j hj)
  have hd2 : ∀ j, j < (listOf n).length → w2.cell? ⟨w1.heap.size, j, none⟩ = some (.string ((listOf n).getD j ⟨#[]⟩)) := fun j hj => hd j _ (by simp [hj])
  have hb3 : Below w.heap.size w w2 := hb1.trans (hb2.mono (hb1.size))
  clear hc hd
  have HC : Hid (∀ j, j < (listOf n).length → w2.cell? ⟨g, j, none⟩ = some (.string ((listOf n).getD j ⟨#[]⟩))) := hc2
  have HD : Hid (∀ j, j < (listOf n).length → w2.cell? ⟨w1.heap.size, j, none⟩ = some (.string ((listOf n).getD j ⟨#[]⟩))) := hd2
  clear hc2 hd2
  go_wp2_with fail
  refine (eq7 g w1.heap.size (listOf n).length cap _ (fun j => (listOf n).getD j ⟨#[]⟩) w2 (by omega) HC.out HD.out).mono ?_
  rintro e w3 ⟨rfl, m, rfl⟩
  go_wp2_with fail
  go_ret
  exact ⟨rfl, hb3.trans ⟨rfl, rfl, rfl, Nat.le_refl _, fun _ _ => rfl⟩⟩

theorem table_walk (n : Int) (w : World) (h : Rowed w) : Calls Ybad.prog 3 #[.int .i64 n] w fun e w' => e = .returned (.bool true) ∧ Below w.heap.size w w' := by
  by_cases hn : n < 1 ∨ 9 ≤ n
  · exact table_no n w hn
  · obtain ⟨k, hk⟩ : ∃ k : Nat, n = (k : Int) := ⟨n.toNat, by omega⟩
    rw [hk]
    exact table_yes k w (by omega) (by omega) h
end Go.Proofs.YbulkcpnqDoor

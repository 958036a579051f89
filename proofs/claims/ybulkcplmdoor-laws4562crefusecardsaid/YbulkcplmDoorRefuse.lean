import Derived.Test.YbulkcplmDoorTabs
import Derived.Deep.DeepMust
namespace Go.Proofs.YbulkcplmDoor
open Go.ChangeShapes Go.WideShapes Go.ChangeAt Go.RowKit Go.WideElems Go.Maps

theorem nbr6_at (b0 b1 g : Nat) (s : ByteArray) (r : Int) (ok : Bool) (w : World) (h : Tabs w b0 b1) (hs : s.size ≤ maxLen) (hcell : w.cell? ⟨g, 10, none⟩ = some (.string s)) (hn : nbrOf s.data.toList = (r, ok)) :
    Calls Ybad.prog 6 #[.pointer (some ⟨g, 0, none⟩)] w fun e w' => e = .returned (.tuple #[.int .u8 r, .bool ok]) ∧ Below w.heap.size w w' := by
  have := nbr6 b0 b1 g s w h hs hcell
  rwa [hn] at this

theorem part7_at (b0 b1 : Nat) (r r2 : Int) (ok : Bool) (w : World) (h : Tabs w b0 b1) (hr : (Lit.int .u8 r).wf = true) (hn : partOf r = (r2, ok)) :
    Calls Ybad.prog 7 #[.int .u8 r] w fun e w' => e = .returned (.tuple #[.int .u8 r2, .bool ok]) ∧ w' = w := by
  have := part7 b0 b1 r w h hr
  rwa [hn] at this

set_option maxRecDepth 100000 in
set_option maxHeartbeats 400000 in
theorem refuse0 (b0 b1 : Nat) (sel : Int) (w : World) (hb : 0 ≤ sel ∧ sel ≤ 255) (h : Tabs w b0 b1) (hk : sel % 7 = 0) :
    Calls Ybad.prog 4 #[.int .u8 sel] w fun e w' => e = .returned (.bool true) ∧ Below w.heap.size w w' := by
  have HT : Hid (Tabs w b0 b1) := h
  clear h
  go_enter Ybad.func4, Ybad.ntmps4
  go_wp2_with fail
  refine (nbr6_at b0 b1 (w.heap.size + 1 + 1) ⟨#[]⟩ 0 false _ (HT.out.below (((((Below.refl _ _).alloc (Nat.le_refl _) _).alloc (by simp) _).alloc (by simp; omega) _))) (by decide) (by simp [go_sem]) (by decide)).mono ?_
  rintro e w5 ⟨rfl, hb5⟩
  have hb6 : Below w.heap.size w w5 := ((((Below.refl _ _).alloc (Nat.le_refl _) _).alloc (by simp) _).alloc (by simp; omega) _).trans (hb5.mono (by simp; omega))
  go_wp2_with fail
  go_ret
  exact ⟨rfl, hb6⟩

set_option maxRecDepth 100000 in
set_option maxHeartbeats 400000 in
theorem refuse1 (b0 b1 : Nat) (sel : Int) (w : World) (hb : 0 ≤ sel ∧ sel ≤ 255) (h : Tabs w b0 b1) (hk : sel % 7 = 1) :
    Calls Ybad.prog 4 #[.int .u8 sel] w fun e w' => e = .returned (.bool true) ∧ Below w.heap.size w w' := by
  have HT : Hid (Tabs w b0 b1) := h
  clear h
  go_enter Ybad.func4, Ybad.ntmps4
  go_wp2_with fail
  refine (nbr6_at b0 b1 (w.heap.size + 1 + 1) ⟨#[112, 114, 111, 118, 105, 100, 101, 114]⟩ 3 true _ (HT.out.below (((((Below.refl _ _).alloc (Nat.le_refl _) _).alloc (by simp) _).alloc (by simp; omega) _))) (by decide) (by simp [go_sem]) (by decide)).mono ?_
  rintro e w5 ⟨rfl, hb5⟩
  have hb6 : Below w.heap.size w w5 := ((((Below.refl _ _).alloc (Nat.le_refl _) _).alloc (by simp) _).alloc (by simp; omega) _).trans (hb5.mono (by simp; omega))
  have hloc : w5.cell? ⟨w.heap.size + 1, 1, none⟩ = some (.int .u8 0) := by rw [hb5.cell (by simp)]; simp [go_sem]
  go_wp2_with fail
  refine (part7_at b0 b1 3 0 true w5 (HT.out.below hb6) (by decide) (by decide)).mono ?_
  rintro e w6 ⟨rfl, rfl⟩
  go_wp2_with fail
  go_ret
  exact ⟨rfl, hb6⟩

set_option maxRecDepth 100000 in
set_option maxHeartbeats 400000 in
theorem refuse2 (b0 b1 : Nat) (sel : Int) (w : World) (hb : 0 ≤ sel ∧ sel ≤ 255) (h : Tabs w b0 b1) (hk : sel % 7 = 2) :
    Calls Ybad.prog 4 #[.int .u8 sel] w fun e w' => e = .returned (.bool true) ∧ Below w.heap.size w w' := by
  have HT : Hid (Tabs w b0 b1) := h
  clear h
  go_enter Ybad.func4, Ybad.ntmps4
  go_wp2_with fail
  refine (nbr6_at b0 b1 (w.heap.size + 1 + 1) ⟨#[114, 115]⟩ 2 true _ (HT.out.below (((((Below.refl _ _).alloc (Nat.le_refl _) _).alloc (by simp) _).alloc (by simp; omega) _))) (by decide) (by simp [go_sem]) (by decide)).mono ?_
  rintro e w5 ⟨rfl, hb5⟩
  have hb6 : Below w.heap.size w w5 := ((((Below.refl _ _).alloc (Nat.le_refl _) _).alloc (by simp) _).alloc (by simp; omega) _).trans (hb5.mono (by simp; omega))
  have hloc : w5.cell? ⟨w.heap.size + 1, 2, none⟩ = some (.int .u8 1) := by rw [hb5.cell (by simp)]; simp [go_sem]
  go_wp2_with fail
  refine (part7_at b0 b1 2 1 true w5 (HT.out.below hb6) (by decide) (by decide)).mono ?_
  rintro e w6 ⟨rfl, rfl⟩
  go_wp2_with fail
  go_ret
  exact ⟨rfl, hb6⟩

set_option maxRecDepth 100000 in
set_option maxHeartbeats 400000 in
theorem refuse3 (b0 b1 : Nat) (sel : Int) (w : World) (hb : 0 ≤ sel ∧ sel ≤ 255) (h : Tabs w b0 b1) (hk : sel % 7 = 3) :
    Calls Ybad.prog 4 #[.int .u8 sel] w fun e w' => e = .returned (.bool true) ∧ Below w.heap.size w w' := by
  have HT : Hid (Tabs w b0 b1) := h
  clear h
  go_enter Ybad.func4, Ybad.ntmps4
  go_wp2_with fail
  refine (nbr6_at b0 b1 (w.heap.size + 1 + 1) ⟨#[114, 115, 45, 99, 108, 105, 101, 110, 116]⟩ 1 true _ (HT.out.below (((((Below.refl _ _).alloc (Nat.le_refl _) _).alloc (by simp) _).alloc (by simp; omega) _))) (by decide) (by simp [go_sem]) (by decide)).mono ?_
  rintro e w5 ⟨rfl, hb5⟩
  have hb6 : Below w.heap.size w w5 := ((((Below.refl _ _).alloc (Nat.le_refl _) _).alloc (by simp) _).alloc (by simp; omega) _).trans (hb5.mono (by simp; omega))
  have hloc : w5.cell? ⟨w.heap.size + 1, 3, none⟩ = some (.int .u8 2) := by rw [hb5.cell (by simp)]; simp [go_sem]
  go_wp2_with fail
  refine (part7_at b0 b1 1 2 true w5 (HT.out.below hb6) (by decide) (by decide)).mono ?_
  rintro e w6 ⟨rfl, rfl⟩
  go_wp2_with fail
  go_ret
  exact ⟨rfl, hb6⟩

set_option maxRecDepth 100000 in
set_option maxHeartbeats 400000 in
theorem refuse4 (b0 b1 : Nat) (sel : Int) (w : World) (hb : 0 ≤ sel ∧ sel ≤ 255) (h : Tabs w b0 b1) (hk : sel % 7 = 4) :
    Calls Ybad.prog 4 #[.int .u8 sel] w fun e w' => e = .returned (.bool true) ∧ Below w.heap.size w w' := by
  have HT : Hid (Tabs w b0 b1) := h
  clear h
  go_enter Ybad.func4, Ybad.ntmps4
  go_wp2_with fail
  refine (nbr6_at b0 b1 (w.heap.size + 1 + 1) ⟨#[99, 117, 115, 116, 111, 109, 101, 114]⟩ 0 true _ (HT.out.below (((((Below.refl _ _).alloc (Nat.le_refl _) _).alloc (by simp) _).alloc (by simp; omega) _))) (by decide) (by simp [go_sem]) (by decide)).mono ?_
  rintro e w5 ⟨rfl, hb5⟩
  have hb6 : Below w.heap.size w w5 := ((((Below.refl _ _).alloc (Nat.le_refl _) _).alloc (by simp) _).alloc (by simp; omega) _).trans (hb5.mono (by simp; omega))
  have hloc : w5.cell? ⟨w.heap.size + 1, 4, none⟩ = some (.int .u8 3) := by rw [hb5.cell (by simp)]; simp [go_sem]
  go_wp2_with fail
  refine (part7_at b0 b1 0 3 true w5 (HT.out.below hb6) (by decide) (by decide)).mono ?_
  rintro e w6 ⟨rfl, rfl⟩
  go_wp2_with fail
  go_ret
  exact ⟨rfl, hb6⟩

set_option maxRecDepth 100000 in
set_option maxHeartbeats 400000 in
theorem refuse5 (b0 b1 : Nat) (sel : Int) (w : World) (hb : 0 ≤ sel ∧ sel ≤ 255) (h : Tabs w b0 b1) (hk : sel % 7 = 5) :
    Calls Ybad.prog 4 #[.int .u8 sel] w fun e w' => e = .returned (.bool true) ∧ Below w.heap.size w w' := by
  have HT : Hid (Tabs w b0 b1) := h
  clear h
  go_enter Ybad.func4, Ybad.ntmps4
  go_wp2_with fail
  refine (nbr6_at b0 b1 (w.heap.size + 1 + 1) ⟨#[112, 101, 101, 114]⟩ 4 true _ (HT.out.below (((((Below.refl _ _).alloc (Nat.le_refl _) _).alloc (by simp) _).alloc (by simp; omega) _))) (by decide) (by simp [go_sem]) (by decide)).mono ?_
  rintro e w5 ⟨rfl, hb5⟩
  have hb6 : Below w.heap.size w w5 := ((((Below.refl _ _).alloc (Nat.le_refl _) _).alloc (by simp) _).alloc (by simp; omega) _).trans (hb5.mono (by simp; omega))
  have hloc : w5.cell? ⟨w.heap.size + 1, 5, none⟩ = some (.int .u8 4) := by rw [hb5.cell (by simp)]; simp [go_sem]
  go_wp2_with fail
  refine (part7_at b0 b1 4 4 true w5 (HT.out.below hb6) (by decide) (by decide)).mono ?_
  rintro e w6 ⟨rfl, rfl⟩
  go_wp2_with fail
  go_ret
  exact ⟨rfl, hb6⟩

set_option maxRecDepth 100000 in
set_option maxHeartbeats 400000 in
theorem refuse6 (b0 b1 : Nat) (sel : Int) (w : World) (hb : 0 ≤ sel ∧ sel ≤ 255) (h : Tabs w b0 b1) (hk : sel % 7 = 6) :
    Calls Ybad.prog 4 #[.int .u8 sel] w fun e w' => e = .returned (.bool true) ∧ Below w.heap.size w w' := by
  have HT : Hid (Tabs w b0 b1) := h
  clear h
  go_enter Ybad.func4, Ybad.ntmps4
  go_wp2_with fail
  refine (nbr6_at b0 b1 (w.heap.size + 1 + 1) ⟨#[122, 122, 45, 110, 111, 110, 101]⟩ 0 false _ (HT.out.below (((((Below.refl _ _).alloc (Nat.le_refl _) _).alloc (by simp) _).alloc (by simp; omega) _))) (by decide) (by simp [go_sem]) (by decide)).mono ?_
  rintro e w5 ⟨rfl, hb5⟩
  have hb6 : Below w.heap.size w w5 := ((((Below.refl _ _).alloc (Nat.le_refl _) _).alloc (by simp) _).alloc (by simp; omega) _).trans (hb5.mono (by simp; omega))
  go_wp2_with fail
  go_ret
  exact ⟨rfl, hb6⟩

theorem refuse_walk (b0 b1 : Nat) (sel : Int) (w : World) (hw : (Lit.int .u8 sel).wf = true) (h : Tabs w b0 b1) :
    Calls Ybad.prog 4 #[.int .u8 sel] w fun e w' => e = .returned (.bool true) ∧ Below w.heap.size w w' := by
  have hb := bounds_u8 hw
  have hk : sel % 7 = 0 ∨ sel % 7 = 1 ∨ sel % 7 = 2 ∨ sel % 7 = 3 ∨ sel % 7 = 4 ∨ sel % 7 = 5 ∨ sel % 7 = 6 := by omega
  rcases hk with hk | hk | hk | hk | hk | hk | hk
  · exact refuse0 b0 b1 sel w hb h hk
  · exact refuse1 b0 b1 sel w hb h hk
  · exact refuse2 b0 b1 sel w hb h hk
  · exact refuse3 b0 b1 sel w hb h hk
  · exact refuse4 b0 b1 sel w hb h hk
  · exact refuse5 b0 b1 sel w hb h hk
  · exact refuse6 b0 b1 sel w hb h hk
end Go.Proofs.YbulkcplmDoor

import Derived.Test.YbulkcpnqDoorChecks
namespace Go.Proofs.YbulkcpnqDoor
open Go.ChangeShapes Go.WideShapes Go.ChangeAt Go.RowKit Go.WideElems

/-- The flat list of a model's checks. -/
def listOf : Nat → List ByteArray
  | 1 => addsOf 1
  | 2 => addsOf 1 ++ addsOf 2
  | 3 => addsOf 1 ++ addsOf 3
  | 4 => (addsOf 1 ++ addsOf 3) ++ addsOf 4
  | 5 => addsOf 1 ++ addsOf 5
  | 6 => addsOf 6
  | 7 => addsOf 6 ++ addsOf 7
  | 8 => addsOf 6 ++ addsOf 8
  | _ => []

/-- All eight rows of the table. -/
def Rowed (w : World) : Prop := ∀ n, 1 ≤ n → n ≤ 8 → Row w n
theorem Rowed.below {w w' : World} (h : Rowed w) (hb : Below w.heap.size w w') : Rowed w' := fun n h1 h8 => (h n h1 h8).below hb

theorem checks0 (w : World) : Calls Ybad.prog 5 #[.int .i64 0] w (Gives w []) :=
  (checks_no 0 w (by omega)).mono fun _ _ ⟨he, hw⟩ => ⟨_, he, by rw [hw]; exact World.ownsRow_nil _ _ _ _, by rw [hw]; exact Below.refl _ _⟩

theorem checks_from (n : Nat) (l : List ByteArray) (h1 : 1 ≤ n) (h8 : n ≤ 8) (hl : l.length ≤ 100) (ha : 0 < (addsOf n).length) (ha2 : (addsOf n).length ≤ 100)
    (ih : ∀ w, Rowed w → Calls Ybad.prog 5 #[.int .i64 (extOf n)] w (Gives w l)) (w : World) (h : Rowed w) : Calls Ybad.prog 5 #[.int .i64 n] w (Gives w (l ++ addsOf n)) :=
  checks_step n l w h1 h8 hl ha ha2 (h n h1 h8) fun w' hb => ih w' (h.below hb)

theorem checks1 (w : World) (h : Rowed w) : Calls Ybad.prog 5 #[.int .i64 ((1 : Nat) : Int)] w (Gives w (addsOf 1)) := checks_from 1 [] (by omega) (by omega) (by decide) (by decide) (by decide) (fun w _ => checks0 w) w h
theorem checks6 (w : World) (h : Rowed w) : Calls Ybad.prog 5 #[.int .i64 ((6 : Nat) : Int)] w (Gives w (addsOf 6)) := checks_from 6 [] (by omega) (by omega) (by decide) (by decide) (by decide) (fun w _ => checks0 w) w h
theorem checks3 (w : World) (h : Rowed w) : Calls Ybad.prog 5 #[.int .i64 ((3 : Nat) : Int)] w (Gives w (addsOf 1 ++ addsOf 3)) := checks_from 3 (addsOf 1) (by omega) (by omega) (by decide) (by decide) (by decide) checks1 w h

theorem checks_yes (n : Nat) (h1 : 1 ≤ n) (h8 : n ≤ 8) (w : World) (h : Rowed w) : Calls Ybad.prog 5 #[.int .i64 n] w (Gives w (listOf n)) := by
  have hcase : n = 1 ∨ n = 2 ∨ n = 3 ∨ n = 4 ∨ n = 5 ∨ n = 6 ∨ n = 7 ∨ n = 8 := by omega
  rcases hcase with rfl | rfl | rfl | rfl | rfl | rfl | rfl | rfl
  · exact checks1 w h
  · exact checks_from 2 (addsOf 1) (by omega) (by omega) (by decide) (by decide) (by decide) checks1 w h
  · exact checks3 w h
  · exact checks_from 4 (addsOf 1 ++ addsOf 3) (by omega) (by omega) (by decide) (by decide) (by decide) checks3 w h
  · exact checks_from 5 (addsOf 1) (by omega) (by omega) (by decide) (by decide) (by decide) checks1 w h
  · exact checks6 w h
  · exact checks_from 7 (addsOf 6) (by omega) (by omega) (by decide) (by decide) (by decide) checks6 w h
  · exact checks_from 8 (addsOf 6) (by omega) (by omega) (by decide) (by decide) (by decide) checks6 w h

theorem list_pos (n : Nat) (h1 : 1 ≤ n) (h8 : n ≤ 8) : 0 < (listOf n).length ∧ (listOf n).length ≤ 10 := by
  have hcase : n = 1 ∨ n = 2 ∨ n = 3 ∨ n = 4 ∨ n = 5 ∨ n = 6 ∨ n = 7 ∨ n = 8 := by omega
  rcases hcase with rfl | rfl | rfl | rfl | rfl | rfl | rfl | rfl
  all_goals decide

set_option maxRecDepth 100000 in
theorem want_no (n : Int) (w : World) (h : n < 1 ∨ 9 ≤ n) : Calls Ybad.prog 6 #[.int .i64 n] w fun e w' => e = .returned (.slice none 0 0) ∧ w' = w := by
  have e1 : (n == 1) = false := by simp; omega
  have e2 : (n == 2) = false := by simp; omega
  have e3 : (n == 3) = false := by simp; omega
  have e4 : (n == 4) = false := by simp; omega
  have e5 : (n == 5) = false := by simp; omega
  have e6 : (n == 6) = false := by simp; omega
  have e7 : (n == 7) = false := by simp; omega
  have e8 : (n == 8) = false := by simp; omega
  clear h
  go_enter Ybad.func6, Ybad.ntmps6
  go_wp2
  go_ret
  exact ⟨rfl, rfl⟩

/-- A new row that holds the list. -/
def Laid (w : World) (l : List ByteArray) (e : Ending) (w' : World) : Prop :=
  e = .returned (.slice (some ⟨w.heap.size, 0, none⟩) l.length l.length) ∧ (∀ j s, l[j]? = some s → w'.cell? ⟨w.heap.size, j, none⟩ = some (.string s)) ∧ Below w.heap.size w w'

theorem laid_of (w : World) (l : List ByteArray) (cs : Array Value) (h : cs.toList = vals l) : ∀ j s, l[j]? = some s → (w.alloc (.cells cs 9)).cell? ⟨w.heap.size, j, none⟩ = some (.string s) := by
  intro j s hs
  have e : cs[j]? = some (.string s) := by
    rw [← Array.getElem?_toList, h]
    simp [vals, hs]
  simp [go_sem, e]

set_option maxRecDepth 100000 in
theorem want1 (w : World) : Calls Ybad.prog 6 #[.int .i64 1] w (Laid w (listOf 1)) := by
  go_enter Ybad.func6, Ybad.ntmps6
  go_wp2
  go_ret
  exact ⟨rfl, laid_of w (listOf 1) _ rfl, (Below.refl _ _).alloc (Nat.le_refl _) _⟩
set_option maxRecDepth 100000 in
theorem want2 (w : World) : Calls Ybad.prog 6 #[.int .i64 2] w (Laid w (listOf 2)) := by
  go_enter Ybad.func6, Ybad.ntmps6
  go_wp2
  go_ret
  exact ⟨rfl, laid_of w (listOf 2) _ rfl, (Below.refl _ _).alloc (Nat.le_refl _) _⟩
set_option maxRecDepth 100000 in
theorem want3 (w : World) : Calls Ybad.prog 6 #[.int .i64 3] w (Laid w (listOf 3)) := by
  go_enter Ybad.func6, Ybad.ntmps6
  go_wp2
  go_ret
  exact ⟨rfl, laid_of w (listOf 3) _ rfl, (Below.refl _ _).alloc (Nat.le_refl _) _⟩
set_option maxRecDepth 100000 in
theorem want4 (w : World) : Calls Ybad.prog 6 #[.int .i64 4] w (Laid w (listOf 4)) := by
  go_enter Ybad.func6, Ybad.ntmps6
  go_wp2
  go_ret
  exact ⟨rfl, laid_of w (listOf 4) _ rfl, (Below.refl _ _).alloc (Nat.le_refl _) _⟩
set_option maxRecDepth 100000 in
theorem want5 (w : World) : Calls Ybad.prog 6 #[.int .i64 5] w (Laid w (listOf 5)) := by
  go_enter Ybad.func6, Ybad.ntmps6
  go_wp2
  go_ret
  exact ⟨rfl, laid_of w (listOf 5) _ rfl, (Below.refl _ _).alloc (Nat.le_refl _) _⟩
set_option maxRecDepth 100000 in
theorem want6 (w : World) : Calls Ybad.prog 6 #[.int .i64 6] w (Laid w (listOf 6)) := by
  go_enter Ybad.func6, Ybad.ntmps6
  go_wp2
  go_ret
  exact ⟨rfl, laid_of w (listOf 6) _ rfl, (Below.refl _ _).alloc (Nat.le_refl _) _⟩
set_option maxRecDepth 100000 in
theorem want7 (w : World) : Calls Ybad.prog 6 #[.int .i64 7] w (Laid w (listOf 7)) := by
  go_enter Ybad.func6, Ybad.ntmps6
  go_wp2
  go_ret
  exact ⟨rfl, laid_of w (listOf 7) _ rfl, (Below.refl _ _).alloc (Nat.le_refl _) _⟩
set_option maxRecDepth 100000 in
theorem want8 (w : World) : Calls Ybad.prog 6 #[.int .i64 8] w (Laid w (listOf 8)) := by
  go_enter Ybad.func6, Ybad.ntmps6
  go_wp2
  go_ret
  exact ⟨rfl, laid_of w (listOf 8) _ rfl, (Below.refl _ _).alloc (Nat.le_refl _) _⟩

theorem want_yes (n : Nat) (h1 : 1 ≤ n) (h8 : n ≤ 8) (w : World) : Calls Ybad.prog 6 #[.int .i64 n] w (Laid w (listOf n)) := by
  have hcase : n = 1 ∨ n = 2 ∨ n = 3 ∨ n = 4 ∨ n = 5 ∨ n = 6 ∨ n = 7 ∨ n = 8 := by omega
  rcases hcase with rfl | rfl | rfl | rfl | rfl | rfl | rfl | rfl
  · exact want1 w
  · exact want2 w
  · exact want3 w
  · exact want4 w
  · exact want5 w
  · exact want6 w
  · exact want7 w
  · exact want8 w

set_option maxRecDepth 100000 in
set_option maxHeartbeats 400000 in
theorem eq7 (g1 g2 n c1 c2 : Nat) (S : Nat → ByteArray) (w : World) (hn : n ≤ 1000) (h1 : ∀ j, j < n → w.cell? ⟨g1, j, none⟩ = some (.string (S j))) (h2 : ∀ j, j < n → w.cell? ⟨g2, j, none⟩ = some (.string (S j))) :
    Calls Ybad.prog 7 #[.slice (some ⟨g1, 0, none⟩) n c1, .slice (some ⟨g2, 0, none⟩) n c2] w fun e w' => e = .returned (.bool true) ∧ ∃ m, w' = w.drewN m := by
  have hn' : (n : Int) ≤ 1000 := by omega
  go_enter Ybad.func7, Ybad.ntmps7
  go_wp2
  go_loopw [5] (fun i wr => ∃ k : Nat, k ≤ n ∧ i = .int .i64 k ∧ ∃ m, wr = w.drewN m) (fun i _ => n - (intOf i).toNat)
  case atStart => exact ⟨0, Nat.zero_le _, rfl, 0, rfl⟩
  case round =>
    obtain ⟨k, hk, rfl, m, hwm⟩ := hrel
    by_cases hlt : k < n
    · have q0 : wr.cell? ⟨g1, k, none⟩ = some (.string (S k)) := by rw [hwm]; exact h1 k hlt
      have q1 : wr.cell? ⟨g2, k, none⟩ = some (.string (S k)) := by rw [hwm]; exact h2 k hlt
      have HW : Hid (wr = w.drewN m) := hwm
      have z0 : (0 : Int) ≤ (k : Int) := by omega
      have z1 : (k : Int) < (n : Int) := by omega
      clear hwm h1 h2
      generalize S k = s at q0 q1
      go_wp2
      go_quiet (fail)
      go_wp2
      go_roundw
      case rel => exact ⟨k + 1, by omega, by go_num, by rw [HW.out]; exact ⟨_, World.drewN_drewN _ _ _⟩⟩
      case measure => simp [intOf]; omega
    · subst hwm
      go_wp2
      go_ret
      exact ⟨rfl, m, rfl⟩
end Go.Proofs.YbulkcpnqDoor

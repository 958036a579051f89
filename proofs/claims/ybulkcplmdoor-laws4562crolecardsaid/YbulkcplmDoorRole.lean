import Derived.Test.YbulkcplmDoorTabs
namespace Go.Proofs.YbulkcplmDoor
open Go.ChangeShapes Go.WideShapes Go.ChangeAt Go.RowKit Go.WideElems Go.Maps

theorem nbr_yes {s : ByteArray} {l : List UInt8} {r : Int} {ok : Bool} (h : (s.toList == l) = true) (hn : nbrOf l = (r, ok)) : nbrOf s.data.toList = (r, ok) := by
  have e : s.toList = l := by simpa using h
  rw [ByteArray.toList_eq] at e
  rw [e, hn]

theorem nbr_no {s : ByteArray} (h1 : (s.toList == [112, 114, 111, 118, 105, 100, 101, 114]) = false) (h2 : (s.toList == [99, 117, 115, 116, 111, 109, 101, 114]) = false) (h3 : (s.toList == [114, 115]) = false)
    (h4 : (s.toList == [114, 115, 45, 99, 108, 105, 101, 110, 116]) = false) (h5 : (s.toList == [112, 101, 101, 114]) = false) : nbrOf s.data.toList = (0, false) := by
  rw [ByteArray.toList_eq] at h1 h2 h3 h4 h5
  have e1 : ¬ s.data.toList = [112, 114, 111, 118, 105, 100, 101, 114] := by simpa using h1
  have e2 : ¬ s.data.toList = [99, 117, 115, 116, 111, 109, 101, 114] := by simpa using h2
  have e3 : ¬ s.data.toList = [114, 115] := by simpa using h3
  have e4 : ¬ s.data.toList = [114, 115, 45, 99, 108, 105, 101, 110, 116] := by simpa using h4
  have e5 : ¬ s.data.toList = [112, 101, 101, 114] := by simpa using h5
  generalize s.data.toList = l at e1 e2 e3 e4 e5
  unfold nbrOf roleOf
  rw [if_neg e2, if_neg e5, if_neg e1, if_neg e3, if_neg e4]
  rfl

theorem ret_pair {p : Int × Bool} {r : Int} {ok : Bool} (h : p = (r, ok)) : Ending.returned (.tuple #[.int .u8 r, .bool ok]) = Ending.returned (.tuple #[.int .u8 p.1, .bool p.2]) := by rw [h]

theorem nbr6_is (b0 b1 g : Nat) (s : ByteArray) (r : Int) (ok : Bool) (w : World) (h : Tabs w b0 b1) (hs : s.size ≤ maxLen) (hcell : w.cell? ⟨g, 10, none⟩ = some (.string s)) (hn : nbrOf s.data.toList = (r, ok)) :
    Calls Ybad.prog 6 #[.pointer (some ⟨g, 0, none⟩)] w fun e w' => e = .returned (.tuple #[.int .u8 r, .bool ok]) ∧ Below w.heap.size w w' := by
  have := nbr6 b0 b1 g s w h hs hcell
  rwa [hn] at this

set_option maxRecDepth 100000 in
theorem model5 (s : ByteArray) (w : World) :
    Calls Ybad.prog 5 #[.string s] w fun e w' => e = .returned (.tuple #[.int .u8 (nbrOf s.data.toList).1, .bool (nbrOf s.data.toList).2]) ∧ w' = w := by
  go_enter Ybad.func5, Ybad.ntmps5
  go_wp2
  · go_ret2
    exact ⟨ret_pair (nbr_yes ‹_› (by decide)), rfl⟩
  · go_ret2
    exact ⟨ret_pair (nbr_yes (l := [99, 117, 115, 116, 111, 109, 101, 114]) ‹_› (by decide)), rfl⟩
  · go_ret2
    exact ⟨ret_pair (nbr_yes (l := [114, 115]) ‹_› (by decide)), rfl⟩
  · go_ret2
    exact ⟨ret_pair (nbr_yes (l := [114, 115, 45, 99, 108, 105, 101, 110, 116]) ‹_› (by decide)), rfl⟩
  · go_ret2
    exact ⟨ret_pair (nbr_yes (l := [112, 101, 101, 114]) ‹_› (by decide)), rfl⟩
  · go_ret2
    exact ⟨ret_pair (nbr_no ‹_› ‹_› ‹_› ‹_› ‹_›), rfl⟩

set_option maxRecDepth 100000 in
set_option maxHeartbeats 400000 in
theorem role0 (b0 b1 : Nat) (sel asn : Int) (s : ByteArray) (pas : Bool) (w : World) (hb : 0 ≤ sel ∧ sel ≤ 255) (hl : s.size ≤ 1024) (hs : s.size ≤ maxLen) (h : Tabs w b0 b1) (hk : sel % 6 = 0) :
    Calls Ybad.prog 3 #[.int .u8 sel, .string s, .int .u32 asn, .bool pas] w fun e w' => e = .returned (.bool true) ∧ Below w.heap.size w w' := by
  have HT : Hid (Tabs w b0 b1) := h
  have HS : Hid (s.size ≤ maxLen) := hs
  clear h hs
  go_enter Ybad.func3, Ybad.ntmps3
  go_wp2_with fail
  refine (model5 ⟨#[112, 114, 111, 118, 105, 100, 101, 114]⟩ _).mono ?_
  rintro e w4 ⟨rfl, rfl⟩
  generalize hn : nbrOf (⟨#[112, 114, 111, 118, 105, 100, 101, 114]⟩ : ByteArray).data.toList = nb
  have HN : Hid (nbrOf (⟨#[112, 114, 111, 118, 105, 100, 101, 114]⟩ : ByteArray).data.toList = nb) := hn
  clear hn
  obtain ⟨r, ok⟩ := nb
  go_wp2_with fail
  refine (nbr6_is b0 b1 (w.heap.size + 1) ⟨#[112, 114, 111, 118, 105, 100, 101, 114]⟩ r ok _ (HT.out.below (((Below.refl _ _).alloc (Nat.le_refl _) _).alloc (by simp) _)) (by decide) (by simp [go_sem]) HN.out).mono ?_
  rintro e w5 ⟨rfl, hb5⟩
  have hb6 : Below w.heap.size w w5 := (((Below.refl _ _).alloc (Nat.le_refl _) _).alloc (by simp) _).trans (hb5.mono (by simp; omega))
  have e0 : w5.cell? ⟨w.heap.size + 1, 10, none⟩ = some (.string ⟨#[112, 114, 111, 118, 105, 100, 101, 114]⟩) := by rw [hb5.cell (by simp)]; simp [go_sem]
  have e1 : w5.cell? ⟨w.heap.size + 1, 3, none⟩ = some (.int .u32 asn) := by rw [hb5.cell (by simp)]; simp [go_sem]
  have e2 : w5.cell? ⟨w.heap.size + 1, 4, none⟩ = some (.bool pas) := by rw [hb5.cell (by simp)]; simp [go_sem]
  clear hb5
  go_wp2_with fail
  go_ret
  exact ⟨rfl, hb6⟩

set_option maxRecDepth 100000 in
set_option maxHeartbeats 400000 in
theorem role1 (b0 b1 : Nat) (sel asn : Int) (s : ByteArray) (pas : Bool) (w : World) (hb : 0 ≤ sel ∧ sel ≤ 255) (hl : s.size ≤ 1024) (hs : s.size ≤ maxLen) (h : Tabs w b0 b1) (hk : sel % 6 = 1) :
    Calls Ybad.prog 3 #[.int .u8 sel, .string s, .int .u32 asn, .bool pas] w fun e w' => e = .returned (.bool true) ∧ Below w.heap.size w w' := by
  have HT : Hid (Tabs w b0 b1) := h
  have HS : Hid (s.size ≤ maxLen) := hs
  clear h hs
  go_enter Ybad.func3, Ybad.ntmps3
  go_wp2_with fail
  refine (model5 ⟨#[114, 115]⟩ _).mono ?_
  rintro e w4 ⟨rfl, rfl⟩
  generalize hn : nbrOf (⟨#[114, 115]⟩ : ByteArray).data.toList = nb
  have HN : Hid (nbrOf (⟨#[114, 115]⟩ : ByteArray).data.toList = nb) := hn
  clear hn
  obtain ⟨r, ok⟩ := nb
  go_wp2_with fail
  refine (nbr6_is b0 b1 (w.heap.size + 1) ⟨#[114, 115]⟩ r ok _ (HT.out.below (((Below.refl _ _).alloc (Nat.le_refl _) _).alloc (by simp) _)) (by decide) (by simp [go_sem]) HN.out).mono ?_
  rintro e w5 ⟨rfl, hb5⟩
  have hb6 : Below w.heap.size w w5 := (((Below.refl _ _).alloc (Nat.le_refl _) _).alloc (by simp) _).trans (hb5.mono (by simp; omega))
  have e0 : w5.cell? ⟨w.heap.size + 1, 10, none⟩ = some (.string ⟨#[114, 115]⟩) := by rw [hb5.cell (by simp)]; simp [go_sem]
  have e1 : w5.cell? ⟨w.heap.size + 1, 3, none⟩ = some (.int .u32 asn) := by rw [hb5.cell (by simp)]; simp [go_sem]
  have e2 : w5.cell? ⟨w.heap.size + 1, 4, none⟩ = some (.bool pas) := by rw [hb5.cell (by simp)]; simp [go_sem]
  clear hb5
  go_wp2_with fail
  go_ret
  exact ⟨rfl, hb6⟩

set_option maxRecDepth 100000 in
set_option maxHeartbeats 400000 in
theorem role2 (b0 b1 : Nat) (sel asn : Int) (s : ByteArray) (pas : Bool) (w : World) (hb : 0 ≤ sel ∧ sel ≤ 255) (hl : s.size ≤ 1024) (hs : s.size ≤ maxLen) (h : Tabs w b0 b1) (hk : sel % 6 = 2) :
    Calls Ybad.prog 3 #[.int .u8 sel, .string s, .int .u32 asn, .bool pas] w fun e w' => e = .returned (.bool true) ∧ Below w.heap.size w w' := by
  have HT : Hid (Tabs w b0 b1) := h
  have HS : Hid (s.size ≤ maxLen) := hs
  clear h hs
  go_enter Ybad.func3, Ybad.ntmps3
  go_wp2_with fail
  refine (model5 ⟨#[114, 115, 45, 99, 108, 105, 101, 110, 116]⟩ _).mono ?_
  rintro e w4 ⟨rfl, rfl⟩
  generalize hn : nbrOf (⟨#[114, 115, 45, 99, 108, 105, 101, 110, 116]⟩ : ByteArray).data.toList = nb
  have HN : Hid (nbrOf (⟨#[114, 115, 45, 99, 108, 105, 101, 110, 116]⟩ : ByteArray).data.toList = nb) := hn
  clear hn
  obtain ⟨r, ok⟩ := nb
  go_wp2_with fail
  refine (nbr6_is b0 b1 (w.heap.size + 1) ⟨#[114, 115, 45, 99, 108, 105, 101, 110, 116]⟩ r ok _ (HT.out.below (((Below.refl _ _).alloc (Nat.le_refl _) _).alloc (by simp) _)) (by decide) (by simp [go_sem]) HN.out).mono ?_
  rintro e w5 ⟨rfl, hb5⟩
  have hb6 : Below w.heap.size w w5 := (((Below.refl _ _).alloc (Nat.le_refl _) _).alloc (by simp) _).trans (hb5.mono (by simp; omega))
  have e0 : w5.cell? ⟨w.heap.size + 1, 10, none⟩ = some (.string ⟨#[114, 115, 45, 99, 108, 105, 101, 110, 116]⟩) := by rw [hb5.cell (by simp)]; simp [go_sem]
  have e1 : w5.cell? ⟨w.heap.size + 1, 3, none⟩ = some (.int .u32 asn) := by rw [hb5.cell (by simp)]; simp [go_sem]
  have e2 : w5.cell? ⟨w.heap.size + 1, 4, none⟩ = some (.bool pas) := by rw [hb5.cell (by simp)]; simp [go_sem]
  clear hb5
  go_wp2_with fail
  go_ret
  exact ⟨rfl, hb6⟩

set_option maxRecDepth 100000 in
set_option maxHeartbeats 400000 in
theorem role3 (b0 b1 : Nat) (sel asn : Int) (s : ByteArray) (pas : Bool) (w : World) (hb : 0 ≤ sel ∧ sel ≤ 255) (hl : s.size ≤ 1024) (hs : s.size ≤ maxLen) (h : Tabs w b0 b1) (hk : sel % 6 = 3) :
    Calls Ybad.prog 3 #[.int .u8 sel, .string s, .int .u32 asn, .bool pas] w fun e w' => e = .returned (.bool true) ∧ Below w.heap.size w w' := by
  have HT : Hid (Tabs w b0 b1) := h
  have HS : Hid (s.size ≤ maxLen) := hs
  clear h hs
  go_enter Ybad.func3, Ybad.ntmps3
  go_wp2_with fail
  refine (model5 ⟨#[99, 117, 115, 116, 111, 109, 101, 114]⟩ _).mono ?_
  rintro e w4 ⟨rfl, rfl⟩
  generalize hn : nbrOf (⟨#[99, 117, 115, 116, 111, 109, 101, 114]⟩ : ByteArray).data.toList = nb
  have HN : Hid (nbrOf (⟨#[99, 117, 115, 116, 111, 109, 101, 114]⟩ : ByteArray).data.toList = nb) := hn
  clear hn
  obtain ⟨r, ok⟩ := nb
  go_wp2_with fail
  refine (nbr6_is b0 b1 (w.heap.size + 1) ⟨#[99, 117, 115, 116, 111, 109, 101, 114]⟩ r ok _ (HT.out.below (((Below.refl _ _).alloc (Nat.le_refl _) _).alloc (by simp) _)) (by decide) (by simp [go_sem]) HN.out).mono ?_
  rintro e w5 ⟨rfl, hb5⟩
  have hb6 : Below w.heap.size w w5 := (((Below.refl _ _).alloc (Nat.le_refl _) _).alloc (by simp) _).trans (hb5.mono (by simp; omega))
  have e0 : w5.cell? ⟨w.heap.size + 1, 10, none⟩ = some (.string ⟨#[99, 117, 115, 116, 111, 109, 101, 114]⟩) := by rw [hb5.cell (by simp)]; simp [go_sem]
  have e1 : w5.cell? ⟨w.heap.size + 1, 3, none⟩ = some (.int .u32 asn) := by rw [hb5.cell (by simp)]; simp [go_sem]
  have e2 : w5.cell? ⟨w.heap.size + 1, 4, none⟩ = some (.bool pas) := by rw [hb5.cell (by simp)]; simp [go_sem]
  clear hb5
  go_wp2_with fail
  go_ret
  exact ⟨rfl, hb6⟩

set_option maxRecDepth 100000 in
set_option maxHeartbeats 400000 in
theorem role4 (b0 b1 : Nat) (sel asn : Int) (s : ByteArray) (pas : Bool) (w : World) (hb : 0 ≤ sel ∧ sel ≤ 255) (hl : s.size ≤ 1024) (hs : s.size ≤ maxLen) (h : Tabs w b0 b1) (hk : sel % 6 = 4) :
    Calls Ybad.prog 3 #[.int .u8 sel, .string s, .int .u32 asn, .bool pas] w fun e w' => e = .returned (.bool true) ∧ Below w.heap.size w w' := by
  have HT : Hid (Tabs w b0 b1) := h
  have HS : Hid (s.size ≤ maxLen) := hs
  clear h hs
  go_enter Ybad.func3, Ybad.ntmps3
  go_wp2_with fail
  refine (model5 ⟨#[112, 101, 101, 114]⟩ _).mono ?_
  rintro e w4 ⟨rfl, rfl⟩
  generalize hn : nbrOf (⟨#[112, 101, 101, 114]⟩ : ByteArray).data.toList = nb
  have HN : Hid (nbrOf (⟨#[112, 101, 101, 114]⟩ : ByteArray).data.toList = nb) := hn
  clear hn
  obtain ⟨r, ok⟩ := nb
  go_wp2_with fail
  refine (nbr6_is b0 b1 (w.heap.size + 1) ⟨#[112, 101, 101, 114]⟩ r ok _ (HT.out.below (((Below.refl _ _).alloc (Nat.le_refl _) _).alloc (by simp) _)) (by decide) (by simp [go_sem]) HN.out).mono ?_
  rintro e w5 ⟨rfl, hb5⟩
  have hb6 : Below w.heap.size w w5 := (((Below.refl _ _).alloc (Nat.le_refl _) _).alloc (by simp) _).trans (hb5.mono (by simp; omega))
  have e0 : w5.cell? ⟨w.heap.size + 1, 10, none⟩ = some (.string ⟨#[112, 101, 101, 114]⟩) := by rw [hb5.cell (by simp)]; simp [go_sem]
  have e1 : w5.cell? ⟨w.heap.size + 1, 3, none⟩ = some (.int .u32 asn) := by rw [hb5.cell (by simp)]; simp [go_sem]
  have e2 : w5.cell? ⟨w.heap.size + 1, 4, none⟩ = some (.bool pas) := by rw [hb5.cell (by simp)]; simp [go_sem]
  clear hb5
  go_wp2_with fail
  go_ret
  exact ⟨rfl, hb6⟩

set_option maxRecDepth 100000 in
set_option maxHeartbeats 400000 in
theorem role5 (b0 b1 : Nat) (sel asn : Int) (s : ByteArray) (pas : Bool) (w : World) (hb : 0 ≤ sel ∧ sel ≤ 255) (hl : s.size ≤ 1024) (hs : s.size ≤ maxLen) (h : Tabs w b0 b1) (hk : sel % 6 = 5) :
    Calls Ybad.prog 3 #[.int .u8 sel, .string s, .int .u32 asn, .bool pas] w fun e w' => e = .returned (.bool true) ∧ Below w.heap.size w w' := by
  have HT : Hid (Tabs w b0 b1) := h
  have HS : Hid (s.size ≤ maxLen) := hs
  clear h hs
  go_enter Ybad.func3, Ybad.ntmps3
  go_wp2_with fail
  refine (model5 s _).mono ?_
  rintro e w4 ⟨rfl, rfl⟩
  generalize hn : nbrOf (s : ByteArray).data.toList = nb
  have HN : Hid (nbrOf (s : ByteArray).data.toList = nb) := hn
  clear hn
  obtain ⟨r, ok⟩ := nb
  go_wp2_with fail
  refine (nbr6_is b0 b1 (w.heap.size + 1) s r ok _ (HT.out.below (((Below.refl _ _).alloc (Nat.le_refl _) _).alloc (by simp) _)) HS.out (by simp [go_sem]) HN.out).mono ?_
  rintro e w5 ⟨rfl, hb5⟩
  have hb6 : Below w.heap.size w w5 := (((Below.refl _ _).alloc (Nat.le_refl _) _).alloc (by simp) _).trans (hb5.mono (by simp; omega))
  have e0 : w5.cell? ⟨w.heap.size + 1, 10, none⟩ = some (.string s) := by rw [hb5.cell (by simp)]; simp [go_sem]
  have e1 : w5.cell? ⟨w.heap.size + 1, 3, none⟩ = some (.int .u32 asn) := by rw [hb5.cell (by simp)]; simp [go_sem]
  have e2 : w5.cell? ⟨w.heap.size + 1, 4, none⟩ = some (.bool pas) := by rw [hb5.cell (by simp)]; simp [go_sem]
  clear hb5
  go_wp2_with fail
  go_ret
  exact ⟨rfl, hb6⟩

set_option maxRecDepth 100000 in
theorem role_big (sel asn : Int) (s : ByteArray) (pas : Bool) (w : World) (hl : 1024 < s.size) :
    Calls Ybad.prog 3 #[.int .u8 sel, .string s, .int .u32 asn, .bool pas] w fun e w' => e = .returned (.bool true) ∧ Below w.heap.size w w' := by
  go_enter Ybad.func3, Ybad.ntmps3
  go_wp2
  go_ret
  exact ⟨rfl, Below.refl _ _⟩

theorem role_walk (b0 b1 : Nat) (sel asn : Int) (s : ByteArray) (pas : Bool) (w : World) (hw : (Lit.int .u8 sel).wf = true) (hs : s.size ≤ maxLen) (h : Tabs w b0 b1) :
    Calls Ybad.prog 3 #[.int .u8 sel, .string s, .int .u32 asn, .bool pas] w fun e w' => e = .returned (.bool true) ∧ Below w.heap.size w w' := by
  have hb := bounds_u8 hw
  by_cases hl : 1024 < s.size
  · exact role_big sel asn s pas w hl
  have hk : sel % 6 = 0 ∨ sel % 6 = 1 ∨ sel % 6 = 2 ∨ sel % 6 = 3 ∨ sel % 6 = 4 ∨ sel % 6 = 5 := by omega
  rcases hk with hk | hk | hk | hk | hk | hk
  · exact role0 b0 b1 sel asn s pas w hb (by omega) hs h hk
  · exact role1 b0 b1 sel asn s pas w hb (by omega) hs h hk
  · exact role2 b0 b1 sel asn s pas w hb (by omega) hs h hk
  · exact role3 b0 b1 sel asn s pas w hb (by omega) hs h hk
  · exact role4 b0 b1 sel asn s pas w hb (by omega) hs h hk
  · exact role5 b0 b1 sel asn s pas w hb (by omega) hs h hk
end Go.Proofs.YbulkcplmDoor

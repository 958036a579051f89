import Derived.Test.YbulkcpnqDoorTabs
import Derived.Deep.RegionHeld3
import Derived.Deep.AppendLies
import Derived.Deep.LoopGhost
namespace Go.Proofs.YbulkcpnqDoor
open Go.ChangeShapes Go.WideShapes Go.ChangeAt Go.RowKit Go.WideElems

theorem Ybad.info9 : (Ybad.prog.info? 9).map (fun i => (i.zero, i.size, i.bytes)) = some (some (.string ⟨#[]⟩), 1, 16) := by kernel_rfl

/-- 'Checks' at what names no model. -/
theorem checks_no (n : Int) (w : World) (h : n < 1 ∨ 9 ≤ n) : Calls Ybad.prog 5 #[.int .i64 n] w fun e w' => e = .returned (.slice none 0 0) ∧ w' = w := by
  rcases h with h | h
  · go_enter Ybad.func5, Ybad.ntmps5
    go_wp2
    go_ret
    exact ⟨rfl, rfl⟩
  · have h1 : 1 ≤ n := by omega
    have h9 : decide (n < 9) = false := by simp; omega
    go_enter Ybad.func5, Ybad.ntmps5
    go_wp2
    go_ret
    exact ⟨rfl, rfl⟩

/-- The list of a model's checks, as values. -/
def vals (l : List ByteArray) : List Value := l.map .string

/-- What a call of 'Checks' gives: a row of the call's own that holds the list. -/
def Gives (w : World) (l : List ByteArray) (e : Ending) (w' : World) : Prop := ∃ v, e = .returned v ∧ w'.ownsRow w.heap.size 9 1 v l.length (vals l) ∧ Below w.heap.size w w'

theorem Row.below {w w' : World} {n : Nat} (h : Row w n) (hb : Below w.heap.size w w') : Row w' n := by
  obtain ⟨a, c, h1, h2, h3⟩ := h
  exact ⟨a, c, (hb.cell (World.block_lt_of_cell? _ _ h1)).trans h1, (hb.cell (World.block_lt_of_cell? _ _ h2)).trans h2, fun j s hs => (hb.cell (World.block_lt_of_cell? _ _ (h3 j s hs))).trans (h3 j s hs)⟩

theorem news_at {w w1 : World} {a : Addr} {ad : List ByteArray} (h : ∀ j s, ad[j]? = some s → w.cell? (a.add j) = some (.string s)) (hb : Below w.heap.size w w1) : ∀ j u, (vals ad)[j]? = some u → w1.cell? (a.add j) = some u := by
  intro j u hu
  simp only [vals, List.getElem?_map, Option.map_eq_some_iff] at hu
  obtain ⟨s, hs, rfl⟩ := hu
  exact (hb.cell (World.block_lt_of_cell? _ _ (h j s hs))).trans (h j s hs)

theorem vals_one (l : List ByteArray) : ∀ u ∈ vals l, u.oneCell' = true := by
  intro u hu
  obtain ⟨s, _, rfl⟩ := List.mem_map.1 hu
  rfl

set_option maxRecDepth 100000 in
set_option maxHeartbeats 1000000 in
theorem checks_step (n : Nat) (l : List ByteArray) (w : World) (h1 : 1 ≤ n) (h8 : n ≤ 8) (hl : l.length ≤ 100) (ha : 0 < (addsOf n).length) (ha2 : (addsOf n).length ≤ 100) (h : Row w n)
    (ih : ∀ w', Below w.heap.size w w' → Calls Ybad.prog 5 #[.int .i64 (extOf n)] w' (Gives w' l)) :
    Calls Ybad.prog 5 #[.int .i64 n] w (Gives w (l ++ addsOf n)) := by
  obtain ⟨i9, hi9, hz9, hs9, hb9⟩ := info_parts Ybad.info9
  obtain ⟨a, c, r1, r2, r3⟩ := h
  have IH : Hid (∀ w', Below w.heap.size w w' → Calls Ybad.prog 5 #[.int .i64 (extOf n)] w' (Gives w' l)) := ih
  clear ih
  have R3 : Hid (∀ j s, (addsOf n)[j]? = some s → w.cell? (a.add j) = some (.string s)) := r3
  clear r3
  have hn0 : (1 : Int) ≤ (n : Int) := by omega
  have hn1 : (n : Int) < 9 := by omega
  have b0 : (0 : Nat) < w.heap.size := World.block_lt_of_cell? _ _ r1
  generalize hE : (extOf n : Int) = ext at *
  generalize hA : addsOf n = ad at *
  clear hE hA
  go_enter Ybad.func5, Ybad.ntmps5
  go_wp2
  go_region_held3 (fun w' => w'.cell? ⟨0, n * 5 + 2, none⟩ = some (.int .i64 ext) ∧ w'.cell? ⟨0, n * 5 + 3, none⟩ = some (.slice (some a) ad.length c))
    (first
      | go_keep
      | (refine ⟨?_, ?_⟩
         · (rw [hbel2.cell (by show 0 < _; omega)]; assumption)
         · (rw [hbel2.cell (by show 0 < _; omega)]; assumption))
      | (refine ⟨?_, ?_⟩
         · (rw [hbel.cell (by show 0 < _; omega)]; assumption)
         · (rw [hbel.cell (by show 0 < _; omega)]; assumption)))
    (first
      | (go_at_call 5; refine (IH.out w.drew ⟨rfl, rfl, rfl, Nat.le_refl _, fun _ _ => rfl⟩).mono ?_; rintro e w1 ⟨v, rfl, hown, hbel0⟩; have hbel : Below w.heap.size w w1 := ⟨hbel0.os, hbel0.tape, hbel0.output, hbel0.size, hbel0.block⟩; have hsz := hbel.size)
      | (refine step_append_lies _ (by rfl) _ _ _ (by rfl) w.heap.size 9 i9 (.string ⟨#[]⟩) 1 16 Ybad.underlying22 hi9 hz9 hs9 hb9 rfl (by omega) v l.length (vals l) (by rfl) hown a ad.length c (vals ad) (by rfl) (by simp [vals]) (news_at R3.out hbel) (vals_one ad) ha (by simp [maxLen]; omega) (by omega) hsz w1.heap.size rfl ?_; intro g cap w2 hown2 hgrow2 hat2 hlt2; have hbel2 : Below w.heap.size w w2 := hbel.grown hgrow2 hsz (fun k hk => (hown.lt k hk).1)))
  go_wp2
  go_ret
  exact ⟨_, rfl, by simpa [vals] using hown2, hbel2⟩
end Go.Proofs.YbulkcpnqDoor

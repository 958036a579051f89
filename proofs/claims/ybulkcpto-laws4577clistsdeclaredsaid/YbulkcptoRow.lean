import Derived.Test.YbulkcptoList
namespace Go.Proofs.Ybulkcpto
open Go.ChangeShapes Go.WideShapes Go.ChangeAt Go.RowKit Go.Sort Go.Lib

/-- A slice of dependencies, nil or at the head of a row of its own. -/
def Row (w : World) (v : Value) (l : List Dep) : Prop :=
  (v = .slice Option.none 0 0 ∧ l = []) ∨ ∃ g cap, v = .slice (some ⟨g, 0, Option.none⟩) l.length cap ∧ HoldD w g cap l

/-- .. to be read only. -/
def RowC (w : World) (v : Value) (l : List Dep) : Prop :=
  (v = .slice Option.none 0 0 ∧ l = []) ∨ ∃ g cap, v = .slice (some ⟨g, 0, Option.none⟩) l.length cap ∧ ∀ j (hj : j < l.length), w.cell? ⟨g, j * 2, Option.none⟩ = some (S l[j].1) ∧ w.cell? ⟨g, j * 2 + 1, Option.none⟩ = some (S l[j].2)

theorem Row.c {w : World} {v : Value} {l : List Dep} (h : Row w v l) : RowC w v l := by
  rcases h with h | ⟨g, cap, rfl, h⟩
  · exact .inl h
  · exact .inr ⟨g, cap, rfl, h.cells⟩

theorem flat_get : ∀ (l : List Dep) (j : Nat) (hj : j < l.length), (l.flatMap encD)[j * 2]? = some (S l[j].1) ∧ (l.flatMap encD)[j * 2 + 1]? = some (S l[j].2)
  | [], j, hj => by simp at hj
  | x :: l, 0, _ => by simp [encD]
  | x :: l, j + 1, hj => by
    have h := flat_get l j (by simpa using hj)
    have e1 : (j + 1) * 2 = j * 2 + 2 := by omega
    rw [e1]
    simpa [encD] using h

theorem row_of_owns {w : World} {base : Nat} {v : Value} {l : List Dep} (h : w.ownsRow base 31 2 v l.length (l.flatMap encD)) : Row w v l := by
  rcases h.2 with ⟨rfl, hn⟩ | ⟨g, cap, cur, rfl, _, hb, h1, _, h3, h4⟩
  · exact .inl ⟨rfl, List.eq_nil_of_length_eq_zero hn⟩
  · refine .inr ⟨g, cap, rfl, holdD_of hb h3 h1 fun j hj => ?_⟩
    obtain ⟨e1, e2⟩ := flat_get l j hj
    rw [← h4] at e1 e2
    rw [List.getElem?_take] at e1 e2
    rw [if_pos (by omega)] at e1 e2
    simp only [Array.getElem?_toList] at e1 e2
    exact ⟨by simp [World.cell?, hb, e1], by simp [World.cell?, hb, e2]⟩

theorem Row.block {w w' : World} {v : Value} {l : List Dep} (h : Row w v l) (e : ∀ g, v.ownBlock = some g → w'.heap[g]? = w.heap[g]?) : Row w' v l := by
  rcases h with h | ⟨g, cap, rfl, h⟩
  · exact .inl h
  · exact .inr ⟨g, cap, rfl, h.block (e g rfl)⟩

theorem RowC.block {w w' : World} {v : Value} {l : List Dep} (h : RowC w v l) (e : ∀ g, v.ownBlock = some g → w'.heap[g]? = w.heap[g]?) : RowC w' v l := by
  rcases h with h | ⟨g, cap, rfl, h⟩
  · exact .inl h
  · refine .inr ⟨g, cap, rfl, fun j hj => ?_⟩
    have hb := e g rfl
    exact ⟨(World.cell?_of_block (w := w) (a := ⟨g, j * 2, Option.none⟩) hb).trans (h j hj).1, (World.cell?_of_block (w := w) (a := ⟨g, j * 2 + 1, Option.none⟩) hb).trans (h j hj).2⟩

theorem grown_refl (w : World) (row : Option Nat) : w.grownBy w row := ⟨rfl, rfl, rfl, Nat.le_refl _, fun _ _ _ => rfl⟩

theorem sort5R {w : World} {v : Value} {l : List Dep} (h : Row w v l) (hl : l.length ≤ 100000) :
    Calls Yba.prog 5 #[v, .func (.func 6) #[] #[]] w fun e w' => e = .returned (.tuple #[]) ∧ Row w' v (sortD l) ∧ w.grownBy w' v.ownBlock := by
  rcases h with ⟨rfl, rfl⟩ | ⟨g, cap, rfl, h⟩
  · refine (sort5_none _ _ _).mono fun e w' ⟨h1, h2⟩ => ?_
    subst h2
    exact ⟨h1, .inl ⟨rfl, by simp [sortD]⟩, grown_refl _ _⟩
  · refine (sort5 g cap l w h hl).mono fun e w' ⟨h1, h2, h3⟩ => ⟨h1, .inr ⟨g, cap, by simp [sortD], h2⟩, h3⟩

set_option maxRecDepth 100000 in
theorem compact7_none (w : World) : Calls Yba.prog 7 #[.slice Option.none 0 0] w fun e w' => e = .returned (.slice Option.none 0 0) ∧ w' = w := by
  go_enter Yba.func7, Yba.ntmps7
  go_wp2
  go_ret
  exact ⟨rfl, rfl⟩

theorem compact7R {w : World} {v : Value} {l : List Dep} (h : Row w v l) (hl : l.length ≤ 100000) :
    Calls Yba.prog 7 #[v] w fun e w' => ∃ v', e = .returned v' ∧ RowC w' v' (compD l) ∧ w.grownBy w' v.ownBlock ∧ v'.ownBlock = v.ownBlock := by
  rcases h with ⟨rfl, rfl⟩ | ⟨g, cap, rfl, h⟩
  · refine (compact7_none _).mono fun e w' ⟨h1, h2⟩ => ?_
    subst h2
    exact ⟨_, h1, .inl ⟨rfl, rfl⟩, grown_refl _ _, rfl⟩
  · refine (compact7 g cap l w h hl).mono fun e w' ⟨h1, h2, h3⟩ => ⟨_, h1, .inr ⟨g, cap, rfl, h2⟩, h3, rfl⟩

set_option maxRecDepth 100000 in
theorem equal8_none (p1 p2 : Option Addr) (c1 c2 : Nat) (w : World) : Calls Yba.prog 8 #[.slice p1 0 c1, .slice p2 0 c2] w fun e w' => e = .returned (.bool true) ∧ ∃ m, w' = w.drewN m := by
  go_enter Yba.func8, Yba.ntmps8
  go_wp2
  refine wp_loop_rounds 1 ?_
  rw [rounds_succ]
  go_wp2
  go_ret
  exact ⟨rfl, 0, rfl⟩

theorem equal8R {w : World} {v1 v2 : Value} {l : List Dep} (h1 : RowC w v1 l) (h2 : RowC w v2 l) (hl : l.length ≤ 100000) :
    Calls Yba.prog 8 #[v1, v2] w fun e w' => e = .returned (.bool true) ∧ ∃ m, w' = w.drewN m := by
  rcases h1 with ⟨rfl, rfl⟩ | ⟨g1, cap1, rfl, h1⟩
  · rcases h2 with ⟨rfl, _⟩ | ⟨g2, cap2, rfl, h2⟩
    · exact equal8_none _ _ _ _ _
    · exact equal8_none _ _ _ _ _
  · rcases h2 with ⟨rfl, rfl⟩ | ⟨g2, cap2, rfl, h2⟩
    · exact equal8_none _ _ _ _ _
    · exact equal8 g1 g2 cap1 cap2 l w hl h1 h2
end Go.Proofs.Ybulkcpto

import Derived.Test.YbulkcpnqDoorRows
import Derived.WalkKit
import Derived.ProofKit
import Derived.WalkLawsBesides
import Derived.WalkSpells
import Derived.Deep.QuietTactic
import Derived.BigQuiet
import Derived.LaidMore
import Derived.OpenShut
import Derived.OpenVars
import Derived.Deep.Strs
import Derived.Deep.MidRow
import Derived.Stop.Joined
namespace Go.Proofs.YbulkcpnqDoor
open Go.ChangeShapes Go.WideShapes Go.ChangeAt Go.RowKit Go.WideElems

theorem own : ownKnob Ybad.prog.godebug = none := by kernel_rfl
theorem laidOut : laidOutB Ybad.prog = true := by kernel_rfl
theorem gModels : Ybad.prog.globalNamed (Rows.lawS4566BTableSpec.vars.getD 0 "") = some 0 := by kernel_rfl
theorem tModels : (Ybad.prog.globals[0]?).map (·.type) = some 32 := by kernel_rfl
theorem cells31 : Ybad.prog.cellsOf 31 = 5 := by kernel_rfl
theorem cells23 : Ybad.prog.cellsOf 23 = 1 := by kernel_rfl
theorem cells22 : Ybad.prog.cellsOf 22 = 1 := by kernel_rfl
theorem cells9 : Ybad.prog.cellsOf 9 = 1 := by kernel_rfl

/-- What model n adds to the one that it extends. -/
def addsOf : Nat → List ByteArray
  | 1 => [⟨#[73, 78, 84]⟩, ⟨#[69, 88, 84]⟩, ⟨#[80, 82, 69, 70, 73, 88]⟩, ⟨#[78, 79, 67, 79, 78, 70, 76, 73, 67, 84]⟩]
  | 2 => [⟨#[83, 69, 83, 83, 73, 79, 78]⟩]
  | 3 => [⟨#[82, 69, 84, 85, 82, 78, 45, 66, 69, 70, 79, 82, 69]⟩, ⟨#[67, 79, 77, 77, 73, 84, 45, 66, 69, 70, 79, 82, 69]⟩]
  | 4 => [⟨#[73, 78, 45, 82, 69, 84, 85, 82, 78, 45, 66, 69, 70, 79, 82, 69]⟩]
  | 5 => [⟨#[73, 78, 45, 82, 69, 84, 85, 82, 78, 45, 66, 69, 70, 79, 82, 69]⟩, ⟨#[67, 79, 77, 77, 73, 84, 45, 66, 69, 70, 79, 82, 69]⟩]
  | 6 => [⟨#[65, 66, 79, 82, 84, 69, 68, 45, 82, 69, 65, 68]⟩, ⟨#[84, 72, 73, 78, 45, 65, 73, 82, 45, 82, 69, 65, 68]⟩, ⟨#[67, 89, 67, 76, 73, 67, 45, 67, 79]⟩, ⟨#[87, 82, 73, 84, 69, 45, 67, 79, 45, 73, 78, 73, 84, 45, 82, 69, 65, 68]⟩, ⟨#[87, 82, 73, 84, 69, 45, 67, 79, 45, 87, 82, 73, 84, 69]⟩]
  | 7 => [⟨#[67, 89, 67, 76, 73, 67, 45, 67, 70]⟩]
  | 8 => [⟨#[87, 82, 73, 84, 69, 45, 72, 66, 45, 73, 78, 73, 84, 45, 82, 69, 65, 68]⟩, ⟨#[67, 89, 67, 76, 73, 67, 45, 72, 66]⟩]
  | _ => []
def extOf : Nat → Nat
  | 1 => 0
  | 2 => 1
  | 3 => 1
  | 4 => 3
  | 5 => 1
  | 6 => 0
  | 7 => 6
  | 8 => 6
  | _ => 0

/-- What the table says of model n, in this world. -/
def Row (w : World) (n : Nat) : Prop :=
  ∃ a c, w.cell? ⟨0, n * 5 + 2, none⟩ = some (.int .i64 (extOf n)) ∧ w.cell? ⟨0, n * 5 + 3, none⟩ = some (.slice (some a) (addsOf n).length c) ∧ ∀ j s, (addsOf n)[j]? = some s → w.cell? (a.add j) = some (.string s)

theorem toList_inj {s t : ByteArray} (h : s.data.toList = t.data.toList) : s = t := by
  cases s; cases t
  simp only [ByteArray.mk.injEq]
  exact Array.toList_inj.1 h

/-- One row of the table, opened. -/
theorem row_of {H : Type} {enc : TypeId × Value → H} {W : World} {sp : Nat → Bool} {held : Bool} {fuel : Nat} {cs : List Value} {xs : List (DataW H)} {p : List MemPlace}
    (h : DataW.trod enc Ybad.prog W 0 sp held fuel 32 cs = some (.agg xs, p)) (n : Nat) (hn : n < 9) (ext : Int) (ss : List ByteArray) (nm fam lists : DataW H)
    (hm : xs[n]? = some (.agg [nm, fam, .lit (.int .i64 ext), .slice (ss.map fun s => .lit (.string s.data.toList)) [], lists])) :
    cs[n * 5 + 2]? = some (.int .i64 ext) ∧ ∃ a c, cs[n * 5 + 3]? = some (.slice (some a) ss.length c) ∧ ∀ j s, ss[j]? = some s → W.cell? (a.add j) = some (.string s) := by
  obtain ⟨ys, m, _, hx, _, hlen, hel⟩ := DataW.trod_array Ybad.underlying32 h
  simp only [Prod.mk.injEq, DataW.agg.injEq] at hx
  obtain ⟨hx, _⟩ := hx
  subst hx
  have h1 := hel n hn
  have hn' : n < ys.length := by omega
  rw [cells31, List.getElem?_eq_getElem hn'] at h1
  rw [List.getElem?_map, List.getElem?_eq_getElem hn'] at hm
  simp only [Option.map_some, Option.some.injEq] at hm
  obtain ⟨zs, k, _, hz, hl5, hzl, hf⟩ := DataW.trod_struct Ybad.underlying31 h1
  have hzz : zs.map (·.1) = [nm, fam, .lit (.int .i64 ext), .slice (ss.map fun s => .lit (.string s.data.toList)) [], lists] := by
    have := congrArg Prod.fst hz
    rw [hm] at this
    simpa using this.symm
  match zs, hzz with
  | [y0, y1, y2, y3, y4], hzz =>
    simp only [List.map_cons, List.map_nil, List.cons.injEq, and_true] at hzz
    obtain ⟨_, _, e2, e3, _⟩ := hzz
    have g2 := hf 2 _ rfl
    have g3 := hf 3 _ rfl
    simp only [List.getElem?_cons_succ, List.getElem?_cons_zero] at g2 g3
    have g2' : DataW.trod enc Ybad.prog W 0 sp held k 23 ((((cs.drop (n * 5)).take 5).drop 2).take 1) = some y2 := g2
    have g3' : DataW.trod enc Ybad.prog W 0 sp held k 22 ((((cs.drop (n * 5)).take 5).drop 3).take 1) = some y3 := g3
    refine ⟨?_, ?_⟩
    · obtain ⟨q, hc, hy, _⟩ := DataW.trod_int Ybad.underlying23 g2'
      have : q = ext := by rw [hy] at e2; simpa using e2
      subst this
      have := congrArg (fun l : List Value => l[0]?) hc
      simpa [List.getElem?_take, List.getElem?_drop] using this
    · rcases Go.Deep.open_strs Ybad.underlying22 Ybad.underlying9 cells9 g3' with ⟨_, hy⟩ | ⟨a, len, cap, m', Sx, hc, _, hl, _, hmm, hy, hcell⟩
      · rw [hy] at e3; cases e3
      · rw [hy] at e3
        simp only [DataW.slice.injEq] at e3
        have hlen2 : len = ss.length := by have := congrArg List.length e3.1; simpa using this
        subst hlen2
        refine ⟨a, cap, ?_, fun j s hs => ?_⟩
        · have := congrArg (fun l : List Value => l[0]?) hc
          simpa [List.getElem?_take, List.getElem?_drop] using this
        · have hj : j < ss.length := (List.getElem?_eq_some_iff.1 hs).1
          have hm2 : ss.length ≤ m' := by rw [hmm]; split <;> omega
          rw [(hcell j (by omega)).1]
          have := congrArg (fun l : List (DataW H) => l[j]?) e3.1
          simp only [List.getElem?_map, hs, List.getElem?_range hj, Option.map_some, Option.some.injEq, DataW.lit.injEq, Lit.string.injEq] at this
          rw [toList_inj this]

theorem of_laid {W : World} (h : laidMetH Ybad.prog Rows.lawS4566BTableRow.laid W) : ∀ n, 1 ≤ n → n ≤ 8 → Row W n := by
  rw [MakeChecks.laidMetH_plain _ _ _ (by kernel_rfl)] at h
  obtain ⟨ps, ⟨g0, t0, cs0, f0, p0, q0, hg0, ht0, hv0, hd0, _, _⟩, _, _⟩ := h
  obtain rfl := Option.some.inj (gModels.symm.trans hg0)
  obtain rfl := Option.some.inj (tModels.symm.trans ht0)
  have fin : ∀ n, n < 9 → ∀ (nm fam lists : DataW Unit) (xs : List (DataW Unit)), Rows.laid_example_com_isoscope_isoscope_model_models = DataW.agg xs →
      xs[n]? = some (.agg [nm, fam, .lit (.int .i64 (extOf n)), .slice ((addsOf n).map fun s => .lit (.string s.data.toList)) [], lists]) → Row W n := fun n hn nm fam lists xs hL hm => by
    rw [hL] at hd0
    obtain ⟨e1, a, c, e2, e3⟩ := row_of hd0 n hn (extOf n) (addsOf n) nm fam lists hm
    refine ⟨a, c, ?_, ?_, e3⟩
    · rw [World.var?_cell hg0 hv0]; simpa using e1
    · rw [World.var?_cell hg0 hv0]; simpa using e2
  intro n h1 h8
  have hcase : n = 1 ∨ n = 2 ∨ n = 3 ∨ n = 4 ∨ n = 5 ∨ n = 6 ∨ n = 7 ∨ n = 8 := by omega
  rcases hcase with rfl | rfl | rfl | rfl | rfl | rfl | rfl | rfl
  all_goals exact fin _ (by omega) _ _ _ _ rfl rfl
end Go.Proofs.YbulkcpnqDoor

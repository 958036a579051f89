import Derived.Test.YbulkcptoRows
import Derived.Test.YbulkcptoPlain
import Derived.Test.YbulkcptoShelf
import Derived.WalkKit
import Derived.ProofKit
import Derived.WalkLawsBesides
import Derived.WalkSpells
import Derived.Deep.QuietTactic
import Derived.BigQuiet
import Derived.Deep.OwnRows
import Derived.Deep.MidRow
import Derived.Deep.LoopGhost
import Derived.RegionTactic
import Derived.BigRegion
import Derived.Laws.IdiomCopy
import Derived.Sort.OwnSorted
import Derived.Shelf.SlSortFuncK.ComposeK
namespace Go.Proofs.Ybulkcpto
open Go.ChangeShapes Go.WideShapes Go.ChangeAt Go.RowKit Go.Sort Go.Lib

/-- A string by its bytes. -/
def S (l : List UInt8) : Value := .string ⟨l.toArray⟩
/-- A dependency's two cells. -/
def encD (x : Dep) : List Value := [S x.1, S x.2]

set_option maxRecDepth 100000 in
theorem cmp22 (a b : ByteArray) (w : World) : Calls Yba.prog 22 #[.string a, .string b] w fun e w' => e = .returned (.int .i64 (compareBytes a.data.toList b.data.toList)) ∧ w' = w := by
  go_enter Yba.func22, Yba.ntmps22
  go_wp2
  rw [run_callFunc_extern Yba.func28 (by kernel_rfl) (by kernel_rfl) (by kernel_rfl) (e := Extern.BytealgCompare.compare) (by kernel_rfl), run_compareString]
  simp only [Result.andThen]
  rw [Oper.upon_value]
  go_wp2
  go_ret
  exact ⟨rfl, rfl⟩

theorem cmp11 (a b : List UInt8) (w : World) : Calls Yba.prog 11 #[S a, S b] w fun e w' => e = .returned (.int .i64 (compareBytes a b)) ∧ w' = w := by
  have h := fun w => cmp22 ⟨a.toArray⟩ ⟨b.toArray⟩ w
  simp only [S]
  have e1 : (⟨a.toArray⟩ : ByteArray).data.toList = a := rfl
  have e2 : (⟨b.toArray⟩ : ByteArray).data.toList = b := rfl
  rw [e1, e2] at h
  generalize compareBytes a b = r at h
  generalize (⟨a.toArray⟩ : ByteArray) = sa at h
  generalize (⟨b.toArray⟩ : ByteArray) = sb at h
  have HH : Hid (∀ w, Calls Yba.prog 22 #[.string sa, .string sb] w fun e w' => e = .returned (.int .i64 r) ∧ w' = w) := h
  clear h
  go_enter Yba.func11, Yba.ntmps11
  go_wp2_with (go_at_call 22; refine (HH.out _).mono ?_; rintro e w' ⟨rfl, rfl⟩)
  go_ret
  exact ⟨rfl, rfl⟩

set_option maxRecDepth 100000 in
set_option maxHeartbeats 400000 in
/-- The comparison: two blocks are laid (the parameters' boxes); nothing else turns. -/
theorem cmp6 (x y : Dep) (W : World) : Calls Yba.prog 6 #[.agg #[S x.1, S x.2], .agg #[S y.1, S y.2]] W fun e w' => e = .returned (.int .i64 (cmpD x y)) ∧ ∃ q os', w' = grow (W.drewN q) os' := by
  have h1 := fun w => cmp11 x.1 y.1 w
  have h2 := fun w => cmp11 x.2 y.2 w
  have hv : cmpD x y = if compareBytes x.1 y.1 = 0 then compareBytes x.2 y.2 else compareBytes x.1 y.1 := rfl
  generalize cmpD x y = r at hv
  generalize compareBytes x.1 y.1 = c1 at h1 hv
  generalize compareBytes x.2 y.2 = c2 at h2 hv
  simp only [S] at *
  generalize (⟨x.1.toArray⟩ : ByteArray) = x1 at *
  generalize (⟨x.2.toArray⟩ : ByteArray) = x2 at *
  generalize (⟨y.1.toArray⟩ : ByteArray) = y1 at *
  generalize (⟨y.2.toArray⟩ : ByteArray) = y2 at *
  have H1 : Hid (∀ w, Calls Yba.prog 11 #[.string x1, .string y1] w fun e w' => e = .returned (.int .i64 c1) ∧ w' = w) := h1
  have H2 : Hid (∀ w, Calls Yba.prog 11 #[.string x2, .string y2] w fun e w' => e = .returned (.int .i64 c2) ∧ w' = w) := h2
  have HV : Hid (r = if c1 = 0 then c2 else c1) := hv
  clear h1 h2 hv
  by_cases hc : c1 = 0
  · have hb : (c1 != 0) = false := by simp [hc]
    have HC : Hid (c1 = 0) := hc
    clear hc
    go_enter Yba.func6, Yba.ntmps6
    go_wp2_with fail
    refine (H1.out _).mono ?_
    rintro e w1 ⟨rfl, rfl⟩
    go_wp2_with fail
    refine (H2.out _).mono ?_
    rintro e w1 ⟨rfl, rfl⟩
    go_wp2_with fail
    go_ret
    refine ⟨?_, 0, _, by rw [alloc_eq_grow, alloc_eq_grow, grow_grow]; rfl⟩
    rw [HV.out, if_pos HC.out]; rfl
  · have hb : (c1 != 0) = true := by simp [hc]
    have HC : Hid (¬ c1 = 0) := hc
    clear hc
    go_enter Yba.func6, Yba.ntmps6
    go_wp2_with fail
    refine (H1.out _).mono ?_
    rintro e w1 ⟨rfl, rfl⟩
    go_wp2_with fail
    go_ret
    refine ⟨?_, 0, _, by rw [alloc_eq_grow, alloc_eq_grow, grow_grow]; rfl⟩
    rw [HV.out, if_neg HC.out]; rfl

theorem cmpLays (blk off size : Nat) (w : World) : CmpLays Yba.prog 6 #[] encD 2 cmpD blk off size w :=
  fun _ _ _ _ x y => cmp6 x y _

theorem isAgg31 (w : World) : (isAgg 31).run Yba.prog w = .ok true w := by kernel_rfl
theorem sizeOf31 (w : World) : (Go.sizeOf 31).run Yba.prog w = .ok 2 w := by kernel_rfl

/-- The row g holds the list l (2 cells an element), nothing of its block frozen. -/
def HoldD (w : World) (g cap : Nat) (l : List Dep) : Prop := ∃ f, w.rowIs g 31 (cap * 2) f ∧ l.length ≤ cap ∧ ∀ j (h : j < l.length), f (j * 2) = S l[j].1 ∧ f (j * 2 + 1) = S l[j].2

theorem HoldD.k {w : World} {g cap : Nat} {l : List Dep} (h : HoldD w g cap l) : HoldsK encD 2 w g 0 l.toArray := by
  obtain ⟨f, hf, hc, hj⟩ := h
  intro t ht
  rw [size_flatK] at ht
  have ht' : t < l.length * 2 := by simpa using ht
  rw [get_flatK _ _ _ _ ht, Nat.zero_add]
  have hq : t / 2 < l.length := by omega
  have e : l.toArray[t / 2]! = l[t / 2] := by simp [hq]
  rw [e]
  refine ⟨?_, hf.frozen t⟩
  rw [hf.cell (by omega)]
  obtain ⟨e1, e2⟩ := hj (t / 2) hq
  rcases Nat.mod_two_eq_zero_or_one t with hm | hm
  · rw [show t / 2 * 2 = t by omega] at e1
    rw [hm, e1]; rfl
  · rw [show t / 2 * 2 + 1 = t by omega] at e2
    rw [hm, e2]; rfl

theorem holdD_of {w : World} {g cap : Nat} {l : List Dep} {c : Array Value} (hb : w.heap[g]? = some (.cells c 31 (0, 0))) (hs : c.size = cap * 2) (hc : l.length ≤ cap)
    (hcell : ∀ j (h : j < l.length), w.cell? ⟨g, j * 2, none⟩ = some (S l[j].1) ∧ w.cell? ⟨g, j * 2 + 1, none⟩ = some (S l[j].2)) : HoldD w g cap l := by
  have hrow : w.rowIs g 31 (cap * 2) (fun i => c.getD i undef) := ⟨c, hb, hs, fun i hi => by
    have : i < c.size := by omega
    simp [this]⟩
  refine ⟨_, hrow, hc, fun j h => ?_⟩
  have h1 := hrow.cell (i := j * 2) (by omega)
  have h2 := hrow.cell (i := j * 2 + 1) (by omega)
  rw [(hcell j h).1] at h1
  rw [(hcell j h).2] at h2
  exact ⟨(Option.some.inj h1).symm, (Option.some.inj h2).symm⟩

theorem HoldD.cells {w : World} {g cap : Nat} {l : List Dep} (h : HoldD w g cap l) : ∀ j (hj : j < l.length), w.cell? ⟨g, j * 2, none⟩ = some (S l[j].1) ∧ w.cell? ⟨g, j * 2 + 1, none⟩ = some (S l[j].2) := by
  obtain ⟨f, hf, hc, hv⟩ := h
  exact fun j hj => ⟨by rw [hf.cell (by omega), (hv j hj).1], by rw [hf.cell (by omega), (hv j hj).2]⟩

theorem HoldD.block {w w' : World} {g cap : Nat} {l : List Dep} (h : HoldD w g cap l) (e : w'.heap[g]? = w.heap[g]?) : HoldD w' g cap l := by
  obtain ⟨f, hf, hc⟩ := h
  exact ⟨f, hf.of_block e, hc⟩

theorem HoldD.lt {w : World} {g cap : Nat} {l : List Dep} (h : HoldD w g cap l) : g < w.heap.size := by
  obtain ⟨f, hf, _⟩ := h
  exact hf.lt

theorem sorted_grown {w : World} {g n : Nat} {os : Array Obj} (F : Array Value) : w.grownBy (grow (putRow id (Sort.ahead w n) g 0 F) os) (some g) := by
  refine ⟨rfl, rfl, rfl, by simp, fun k hk hne => ?_⟩
  rw [heap_grow_old _ _ (by simpa using hk)]
  have : g ≠ k := fun e => hne (by rw [e])
  simp [putRow, mapBlock, Sort.ahead, Array.getElem?_modify, this]

/-- slices.SortFunc over a row that is not empty. -/
theorem sort5 (g cap : Nat) (l : List Dep) (w : World) (hH : HoldD w g cap l) (hl : l.length ≤ 100000) :
    Calls Yba.prog 5 #[.slice (some ⟨g, 0, none⟩) l.length cap, .func (.func 6) #[] #[]] w fun e w' => e = .returned (.tuple #[]) ∧ HoldD w' g cap (sortD l) ∧ w.grownBy w' (some g) := by
  have eg : ∀ args w, (callFunc 6 args).run Yba.prog w = .ok (.enter 6 args) w := enters_of Yba.func6 (by kernel_rfl) rfl
  have hcon := AnyQ.slices_SortFunc_total Yba.sortDep 2 isAgg31 sizeOf31 encD (fun _ => rfl) (fun x v hv => by simp [encD] at hv; rcases hv with rfl | rfl <;> rfl) cmpD swoD 6 #[] g 0 cap l.toArray w eg (cmpLays g 0 _ w) hH.k hH.lt (by simp; omega) totD
  change Calls Yba.prog 5 _ _ _ at hcon
  refine hcon.mono fun e w' ⟨he, n, os, hw⟩ => ?_
  have hd : (l.toArray.toList.mergeSort fun x y => !(ltOf cmpD) y x).toArray = (sortD l).toArray := rfl
  rw [hd] at hw
  have hlen : (sortD l).length = l.length := (sortD_perm l).length_eq
  have hK : HoldsK encD 2 w' g 0 (sortD l).toArray := by
    rw [hw]
    exact holdsK_sortWorldK encD 2 w g 0 n l.toArray _ os hH.lt hH.k (by simp [hlen])
  have hg : w.grownBy w' (some g) := by rw [hw]; exact sorted_grown _
  refine ⟨he, ?_, hg⟩
  obtain ⟨f, ⟨c, hb, hs, _⟩, hc, _⟩ := hH
  have hb' : ∃ c', w'.heap[g]? = some (.cells c' 31 (0, 0)) ∧ c'.size = cap * 2 := by
    rw [hw]
    refine ⟨putCells id 0 (flatK encD 2 (sortD l).toArray) c, ?_, by simp [putCells, hs]⟩
    unfold sortWorldK putRowK
    have hlt : g < w.heap.size := (Array.getElem?_eq_some_iff.1 hb).1
    rw [heap_grow_old _ _ (by simpa using hlt)]
    simp [putRow, mapBlock, Sort.ahead, Array.getElem?_modify, hb, onCells]
  obtain ⟨c', hb', hs'⟩ := hb'
  refine holdD_of hb' hs' (by omega) fun j hj => ?_
  have k0 := (hK.cell (i := j) (c := 0) (by simpa using hj) (by omega)).1
  have k1 := (hK.cell (i := j) (c := 1) (by simpa using hj) (by omega)).1
  have e : (sortD l).toArray[j]! = (sortD l)[j] := by simp [hj]
  rw [e] at k0 k1
  exact ⟨by simpa [encD] using k0, by simpa [encD] using k1⟩

/-- slices.SortFunc over no element. -/
theorem sort5_none (p : Option Addr) (cap : Nat) (w : World) :
    Calls Yba.prog 5 #[.slice p 0 cap, .func (.func 6) #[] #[]] w fun e w' => e = .returned (.tuple #[]) ∧ w' = w :=
  AnyF.slices_SortFunc_none Yba.sortDep p cap _ w
end Go.Proofs.Ybulkcpto

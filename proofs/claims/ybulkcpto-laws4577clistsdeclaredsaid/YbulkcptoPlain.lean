import Derived.Lib.Bytealg
import Derived.Lib.SlicesCompact
import Derived.Shelf.SlSortCmp.Insertion
namespace Go.Proofs.Ybulkcpto
open Go.Lib Go.Sort

/-! ### Strings by their bytes -/
theorem cb_neg : ∀ a b : List UInt8, compareBytes b a = - compareBytes a b
  | [], [] => rfl
  | [], _ :: _ => rfl
  | _ :: _, [] => rfl
  | a :: xs, b :: ys => by
    simp only [compareBytes]
    by_cases h1 : a < b
    · have h2 : ¬ b < a := fun h => by simp [UInt8.lt_iff_toNat_lt] at h1 h; omega
      simp [h1, h2]
    · by_cases h2 : b < a
      · simp [h1, h2]
      · simp only [h1, h2, if_false]; exact cb_neg xs ys

theorem cb_eq : ∀ a b : List UInt8, compareBytes a b = 0 ↔ a = b
  | [], [] => by simp [compareBytes]
  | [], _ :: _ => by simp [compareBytes]
  | _ :: _, [] => by simp [compareBytes]
  | a :: xs, b :: ys => by
    simp only [compareBytes, List.cons.injEq]
    by_cases h1 : a < b
    · have : a ≠ b := fun e => by subst e; simp at h1
      simp [h1, this]
    · by_cases h2 : b < a
      · have : a ≠ b := fun e => by subst e; simp at h2
        simp [h1, h2, this]
      · have : a = b := by
          apply UInt8.toNat_inj.1
          simp [UInt8.lt_iff_toNat_lt] at h1 h2
          omega
        rw [if_neg h1, if_neg h2, cb_eq xs ys]
        simp [this]

theorem cb_trans : ∀ a b c : List UInt8, compareBytes a b < 0 → compareBytes b c < 0 → compareBytes a c < 0
  | [], [], _, h, _ => by simp [compareBytes] at h
  | [], _ :: _, [], _, h => by simp [compareBytes] at h
  | [], _ :: _, _ :: _, _, _ => by simp [compareBytes]
  | _ :: _, [], _, h, _ => by simp [compareBytes] at h
  | _ :: _, _ :: _, [], _, h => by simp [compareBytes] at h
  | a :: xs, b :: ys, c :: zs, h, k => by
    simp only [compareBytes] at h k ⊢
    by_cases ac : a < c
    · simp [ac]
    · rw [if_neg ac]
      by_cases ab : a < b
      · by_cases bc : b < c
        · exact absurd (by simp [UInt8.lt_iff_toNat_lt] at *; omega) ac
        · by_cases cb : c < b
          · simp [bc, cb] at k
          · exact absurd (by simp [UInt8.lt_iff_toNat_lt] at *; omega) ac
      · by_cases ba : b < a
        · simp [ab, ba] at h
        · simp only [ab, ba, if_false] at h
          by_cases bc : b < c
          · exact absurd (by simp [UInt8.lt_iff_toNat_lt] at *; omega) ac
          · by_cases cb : c < b
            · simp [bc, cb] at k
            · simp only [bc, cb, if_false] at k
              have ca : ¬ c < a := by simp [UInt8.lt_iff_toNat_lt] at *; omega
              rw [if_neg ca]
              exact cb_trans xs ys zs h k

/-! ### Dependencies -/
abbrev Dep := List UInt8 × List UInt8

def cmpD (x y : Dep) : Int := if compareBytes x.1 y.1 = 0 then compareBytes x.2 y.2 else compareBytes x.1 y.1

theorem cmpD_neg (x y : Dep) : cmpD y x = - cmpD x y := by
  unfold cmpD
  rw [cb_neg x.1 y.1, cb_neg x.2 y.2]
  by_cases h : compareBytes x.1 y.1 = 0
  · simp [h]
  · have : - compareBytes x.1 y.1 ≠ 0 := by omega
    rw [if_neg this, if_neg h]

theorem cmpD_eq (x y : Dep) : cmpD x y = 0 ↔ x = y := by
  unfold cmpD
  by_cases h : compareBytes x.1 y.1 = 0
  · rw [if_pos h, cb_eq]
    rw [cb_eq] at h
    constructor
    · intro h2; exact Prod.ext h h2
    · intro h2; rw [h2]
  · rw [if_neg h]
    constructor
    · intro h2; exact absurd h2 h
    · intro h2; exact absurd ((cb_eq _ _).2 (by rw [h2])) h

theorem cmpD_trans (x y z : Dep) (h : cmpD x y < 0) (k : cmpD y z < 0) : cmpD x z < 0 := by
  unfold cmpD at *
  by_cases h1 : compareBytes x.1 y.1 = 0
  · rw [if_pos h1] at h
    have e1 := (cb_eq _ _).1 h1
    by_cases k1 : compareBytes y.1 z.1 = 0
    · rw [if_pos k1] at k
      have e2 := (cb_eq _ _).1 k1
      rw [if_pos ((cb_eq _ _).2 (e1.trans e2))]
      exact cb_trans _ _ _ h k
    · rw [if_neg k1] at k
      rw [e1, if_neg k1]; exact k
  · rw [if_neg h1] at h
    by_cases k1 : compareBytes y.1 z.1 = 0
    · have e2 := (cb_eq _ _).1 k1
      rw [← e2, if_neg h1]; exact h
    · rw [if_neg k1] at k
      have t := cb_trans _ _ _ h k
      rw [if_neg (by omega)]; exact t

theorem swoD : SWO (ltOf cmpD) where
  irrefl x := by simp [ltOf, (cmpD_eq x x).2 rfl]
  trans x y z h k := by
    simp only [ltOf, decide_eq_true_eq] at *
    exact cmpD_trans x y z h k
  ntrans x y z h k := by
    simp only [ltOf, decide_eq_false_iff_not] at *
    intro hz
    by_cases e1 : cmpD x y = 0
    · rw [(cmpD_eq x y).1 e1] at hz; exact k hz
    · by_cases e2 : cmpD y z = 0
      · rw [← (cmpD_eq y z).1 e2] at hz; exact h hz
      · have a := cmpD_trans z y x (by rw [cmpD_neg y z]; omega) (by rw [cmpD_neg x y]; omega)
        rw [cmpD_neg x z] at a
        omega

theorem totD (x y : Dep) (h : ltOf cmpD x y = false) (k : ltOf cmpD y x = false) : x = y := by
  simp only [ltOf, decide_eq_false_iff_not] at h k
  rw [cmpD_neg x y] at k
  exact (cmpD_eq x y).1 (by omega)

/-- The list xs slices.SortFunc lays it. -/
def sortD (l : List Dep) : List Dep := l.mergeSort fun x y => !(ltOf cmpD) y x

theorem sortD_perm (l : List Dep) : (sortD l).Perm l := List.mergeSort_perm _ _

theorem sortD_sorted (l : List Dep) : (sortD l).Pairwise fun x y => ltOf cmpD y x = false := by
  have h := List.pairwise_mergeSort (le := fun x y : Dep => !(ltOf cmpD) y x) (fun a b c hab hbc => by
    simp only [Bool.not_eq_true'] at *
    exact swoD.ntrans c b a hbc hab) (fun a b => by
    cases hab : ltOf cmpD b a with
    | false => simp
    | true =>
      cases hba : ltOf cmpD a b with
      | false => simp
      | true =>
        have := swoD.trans a b a hba hab
        rw [swoD.irrefl] at this
        cases this) l
  exact h.imp fun h => by simpa using h

/-- Two strictly sorted lists of the same members are one. -/
theorem strict_unique : ∀ {l m : List Dep}, l.Pairwise (fun x y => ltOf cmpD x y = true) → m.Pairwise (fun x y => ltOf cmpD x y = true) → (∀ x, x ∈ l ↔ x ∈ m) → l = m
  | [], [], _, _, _ => rfl
  | [], b :: m, _, _, h => absurd ((h b).2 (by simp)) (by simp)
  | a :: l, [], _, _, h => absurd ((h a).1 (by simp)) (by simp)
  | a :: l, b :: m, hl, hm, h => by
    have asym : ∀ x y : Dep, ltOf cmpD x y = true → ltOf cmpD y x = true → False := fun x y h1 h2 => by
      have := swoD.trans x y x h1 h2
      rw [swoD.irrefl] at this
      cases this
    obtain ⟨hl1, hl2⟩ := List.pairwise_cons.1 hl
    obtain ⟨hm1, hm2⟩ := List.pairwise_cons.1 hm
    have hab : a = b := by
      rcases List.mem_cons.1 ((h a).1 (by simp)) with e | e
      · exact e
      · rcases List.mem_cons.1 ((h b).2 (by simp)) with e' | e'
        · exact e'.symm
        · exact (asym _ _ (hm1 a e) (hl1 b e')).elim
    subst hab
    refine congrArg (a :: ·) (strict_unique hl2 hm2 fun x => ?_)
    constructor
    · intro hx
      rcases List.mem_cons.1 ((h x).1 (by simp [hx])) with e | e
      · subst e; exact (asym _ _ (hl1 x hx) (hl1 x hx)).elim
      · exact e
    · intro hx
      rcases List.mem_cons.1 ((h x).2 (by simp [hx])) with e | e
      · subst e; exact (asym _ _ (hm1 x hx) (hm1 x hx)).elim
      · exact e

theorem sortD_strict (l : List Dep) (hn : l.Nodup) : (sortD l).Pairwise fun x y => ltOf cmpD x y = true := by
  have h1 := sortD_sorted l
  have h2 : (sortD l).Nodup := (sortD_perm l).nodup_iff.2 hn
  refine (h1.and h2).imp fun {x y} ⟨h, hne⟩ => ?_
  cases hxy : ltOf cmpD x y with
  | true => rfl
  | false => exact absurd (totD x y hxy h) hne

/-- What slices.Compact leaves of a list. -/
def compD (l : List Dep) : List Dep := compactUpTo l.toArray l.length


theorem get_toArray (l : List Dep) {j : Nat} (h : j < l.length) : l.toArray[j]! = l[j] := by simp [h]

theorem mem_compD (l : List Dep) (x : Dep) : x ∈ compD l ↔ x ∈ l := by
  unfold compD compactUpTo
  simp only [List.mem_map, List.mem_filter, List.mem_range]
  constructor
  · rintro ⟨j, ⟨hj, _⟩, rfl⟩
    rw [get_toArray l hj]
    exact List.getElem_mem hj
  · intro hx
    -- the first place at which x stands
    have key : ∀ j, j < l.length → l.toArray[j]! = x → ∃ i, i < l.length ∧ keeps l.toArray i = true ∧ l.toArray[i]! = x := by
      intro j
      induction j with
      | zero => exact fun h e => ⟨0, h, keeps_lt_one _ 0 (by omega), e⟩
      | succ j ih =>
        intro h e
        by_cases hk : keeps l.toArray (j + 1) = true
        · exact ⟨j + 1, h, hk, e⟩
        · have : l.toArray[j + 1]! = l.toArray[j]! := Decidable.byContradiction fun hne => hk (keeps_pos hne)
          exact ih (by omega) (by rw [← this]; exact e)
    obtain ⟨j, hj, e⟩ := List.getElem_of_mem hx
    obtain ⟨i, hi, hk, he⟩ := key j hj (by rw [get_toArray l hj]; exact e)
    exact ⟨i, ⟨hi, hk⟩, he⟩

theorem compD_strict (l : List Dep) (hs : l.Pairwise fun x y => ltOf cmpD y x = false) : (compD l).Pairwise fun x y => ltOf cmpD x y = true := by
  have hle : ∀ i j, i ≤ j → j < l.length → ltOf cmpD l.toArray[j]! l.toArray[i]! = false := fun i j hij hj => by
    rw [get_toArray l hj, get_toArray l (show i < l.length by omega)]
    by_cases e : i = j
    · subst e; exact swoD.irrefl _
    · exact List.pairwise_iff_getElem.1 hs i j _ _ (by omega)
  unfold compD compactUpTo
  rw [List.pairwise_map]
  have hp : ((List.range l.length).filter (keeps l.toArray)).Pairwise fun i j => i < j := List.Pairwise.filter _ List.pairwise_lt_range
  refine List.Pairwise.imp_of_mem (fun {i j} hi hj hij => ?_) hp
  simp only [List.mem_filter, List.mem_range] at hi hj
  have hne : l.toArray[j]! ≠ l.toArray[j - 1]! := by
    have := hj.2
    simp only [keeps, decide_eq_true_eq] at this
    rcases this with h | h
    · omega
    · exact h
  cases hlt : ltOf cmpD l.toArray[i]! l.toArray[j]! with
  | true => rfl
  | false =>
    -- then the two are one, and all between them
    have e := totD _ _ hlt (hle i j (by omega) hj.1)
    have h1 := hle i (j - 1) (by omega) (by omega)
    have h2 := hle (j - 1) j (by omega) hj.1
    rw [e] at h1
    exact absurd (totD _ _ h2 h1) hne

/-- THE PLAIN LAW: the keys' pairs, each once, sorted, are the declarations sorted and compacted. -/
theorem plain_law (l p : List Dep) (hn : l.Nodup) (h : ∀ x, x ∈ l ↔ x ∈ p) : sortD l = compD (sortD p) :=
  strict_unique (sortD_strict l hn) (compD_strict _ (sortD_sorted p)) fun x => by
    rw [mem_compD, (sortD_perm p).mem_iff, (sortD_perm l).mem_iff]
    exact h x

end Go.Proofs.Ybulkcpto

import Derived.Test.YbulkcptoLib
import Derived.Maps.RangeWalk
import Derived.Sort.KeysCollected
namespace Go.Proofs.Ybulkcpto
open Go.ChangeShapes Go.WideShapes Go.ChangeAt Go.RowKit Go.Sort Go.Lib
open Go.Maps (Keyed)

theorem key9 : Keyed Yba.prog 9 := Maps.string_keyed Yba.underlying9

/-- How an element of the outer map reads: the inner map's block. -/
def RO : Value → Option (DataW Unit × List MemPlace)
  | .map (some b) => some (.lit (.int .u64 b), [])
  | .map Option.none => some (.lit (.bool false), [])
  | _ => Option.none
/-- How an element of an inner map reads. -/
def RI : Value → Option (DataW Unit × List MemPlace)
  | .bool x => some (.lit (.bool x), [])
  | _ => Option.none

theorem RO_inv {v : Value} {y : DataW Unit × List MemPlace} (h : RO v = some y) : ∃ c, v = .map c := by
  unfold RO at h
  split at h
  · exact ⟨_, rfl⟩
  · exact ⟨_, rfl⟩
  · cases h
theorem RO_at {v : Value} {b : Nat} {ps : List MemPlace} (h : RO v = some (.lit (.int .u64 b), ps)) : v = .map (some b) := by
  unfold RO at h
  split at h
  · rename_i b1
    simp at h
    obtain rfl : b1 = b := by omega
    rfl
  · simp at h
  · cases h
theorem RI_inv {v : Value} {y : DataW Unit × List MemPlace} (h : RI v = some y) : ∃ c, v = .bool c := by
  cases v <;> simp [RI] at h
  exact ⟨_, rfl⟩
theorem RI_bool (x : Bool) : RI (.bool x) = some (.lit (.bool x), []) := rfl

theorem keyOf9 {k : List UInt8} (hk : k.length ≤ maxLen) : keyOf Yba.prog 9 (S k) = some (.string k) := by
  simp [keyOf, Yba.underlying9, mapKey, S, ByteArray.size, hk]

theorem zero28 (w : World) : (zeroValue 28).run Yba.prog w = .ok (.map Option.none) w := by kernel_rfl
theorem zero4 (w : World) : (zeroValue 4).run Yba.prog w = .ok (.bool false) w := by kernel_rfl

theorem ownsMap_of_heap {w w' : World} {R : Value → Option (DataW Unit × List MemPlace)} {b n : Nat} {D : DataW Unit} (h : w.ownsMap Yba.prog 9 R b n D) (e : w'.heap[b]? = w.heap[b]?) : w'.ownsMap Yba.prog 9 R b n D := by
  obtain ⟨es, clock, hb, r⟩ := h
  exact ⟨es, clock, e.trans hb, r⟩

/-- THE MAP OF MAPS: block M is the outer map, with the keys Ks; key k's inner map is block 'β k'; the pairs (k, x), x a key of k's inner map, are those of Ps. -/
structure MM (w : World) (base M n : Nat) (D : DataW Unit) (I : List UInt8 → DataW Unit) (β : List UInt8 → Nat) (Ks : List (List UInt8)) (Ps : List Dep) : Prop where
  outer : w.ownsMap Yba.prog 9 RO M n D
  low : base ≤ M
  has : ∀ k, Maps.has D (.string k) = true ↔ k ∈ Ks
  at_ : ∀ k, k ∈ Ks → ∀ z, D.atKey (.string k) z = .lit (.int .u64 (β k))
  inner : ∀ k, k ∈ Ks → w.ownsMap Yba.prog 9 RI (β k) n (I k)
  ne : ∀ k, k ∈ Ks → β k ≠ M ∧ base ≤ β k
  apart : ∀ k k', k ∈ Ks → k' ∈ Ks → β k = β k' → k = k'
  ins : ∀ k x, k ∈ Ks → (Maps.has (I k) (.string x) = true ↔ (k, x) ∈ Ps)
  sub : ∀ p, p ∈ Ps → p.1 ∈ Ks

theorem MM.heap {w w' : World} {base M n : Nat} {D : DataW Unit} {I : List UInt8 → DataW Unit} {β : List UInt8 → Nat} {Ks : List (List UInt8)} {Ps : List Dep} (h : MM w base M n D I β Ks Ps) (hM : w'.heap[M]? = w.heap[M]?) (hI : ∀ k, k ∈ Ks → w'.heap[β k]? = w.heap[β k]?) : MM w' base M n D I β Ks Ps where
  outer := ownsMap_of_heap h.outer hM
  low := h.low
  has := h.has
  at_ := h.at_
  inner := fun k hk => ownsMap_of_heap (h.inner k hk) (hI k hk)
  ne := h.ne
  apart := h.apart
  ins := h.ins
  sub := h.sub

/-- It stays while blocks that are none of its own are written and new ones are made. -/
theorem MM.kept {w w' : World} {base M n : Nat} {D : DataW Unit} {I : List UInt8 → DataW Unit} {β : List UInt8 → Nat} {Ks : List (List UInt8)} {Ps : List Dep} {row : Option Nat} (h : MM w base M n D I β Ks Ps) (hg : w.grownBy w' row) (hM : some M ≠ row) (hI : ∀ k, k ∈ Ks → some (β k) ≠ row) : MM w' base M n D I β Ks Ps :=
  h.heap (hg.block M h.outer.lt hM) (fun k hk => hg.block _ (h.inner k hk).lt (hI k hk))

theorem MM.below {w w' : World} {base M n B : Nat} {D : DataW Unit} {I : List UInt8 → DataW Unit} {β : List UInt8 → Nat} {Ks : List (List UInt8)} {Ps : List Dep} (h : MM w base M n D I β Ks Ps) (hb : Below B w w') (hM : w.heap.size ≤ B) : MM w' base M n D I β Ks Ps :=
  h.heap (hb.block M (Nat.lt_of_lt_of_le h.outer.lt hM)) (fun k hk => hb.block _ (Nat.lt_of_lt_of_le (h.inner k hk).lt hM))

theorem MM.made (w : World) (base n : Nat) (hb : base ≤ w.heap.size) : MM (w.alloc (.map #[] 0)) base w.heap.size n (.map []) (fun _ => .map []) (fun _ => 0) [] [] where
  outer := (World.ownsMap_made w Yba.prog 9 RO).mono (Nat.zero_le _)
  low := hb
  has := fun k => by simp [Maps.has]
  at_ := fun k hk => by simp at hk
  inner := fun k hk => by simp at hk
  ne := fun k hk => by simp at hk
  apart := fun k k' hk => by simp at hk
  ins := fun k x hk => by simp at hk
  sub := fun p hp => by simp at hp

section
variable {w : World} {base M n : Nat} {D : DataW Unit} {I : List UInt8 → DataW Unit} {β : List UInt8 → Nat} {Ks : List (List UInt8)} {Ps : List Dep}

theorem MM.look (h : MM w base M n D I β Ks Ps) {k : List UInt8} (hk : k.length ≤ maxLen) :
    ∃ v, (Instr.lookup 24 (.map (some M)) (S k) true).run Yba.prog w = .ok (.tuple #[v, .bool (decide (k ∈ Ks))]) w ∧ (k ∈ Ks → v = .map (some (β k))) := by
  obtain ⟨v, ps, hrun, hv⟩ := h.outer.look_ok key9 Yba.underlying24 (zero28 w) (zd := .lit (.bool false)) (zp := []) rfl (keyOf9 hk)
  have e : Maps.has D (.string k) = decide (k ∈ Ks) := by
    by_cases hm : k ∈ Ks
    · simp [(h.has k).2 hm, hm]
    · have : Maps.has D (.string k) = false := by
        cases hh : Maps.has D (.string k)
        · rfl
        · exact absurd ((h.has k).1 hh) hm
      simp [this, hm]
  refine ⟨v, by rw [← e]; exact hrun, fun hm => ?_⟩
  rw [h.at_ k hm] at hv
  exact RO_at hv

theorem MM.look1 (h : MM w base M n D I β Ks Ps) {k : List UInt8} (hk : k.length ≤ maxLen) (hm : k ∈ Ks) :
    (Instr.lookup 24 (.map (some M)) (S k) false).run Yba.prog w = .ok (.map (some (β k))) w := by
  obtain ⟨v, ps, hrun, hv⟩ := h.outer.lookup key9 Yba.underlying24 (zero28 w) (zd := .lit (.bool false)) (zp := []) rfl (keyOf9 hk)
  rw [h.at_ k hm] at hv
  rw [hrun, RO_at hv]

theorem MM.look2 (h : MM w base M n D I β Ks Ps) {k x : List UInt8} (hx : x.length ≤ maxLen) (hm : (k, x) ∈ Ps) :
    ∃ c, (Instr.lookup 28 (.map (some (β k))) (S x) true).run Yba.prog w = .ok (.tuple #[.bool c, .bool true]) w := by
  have hk : k ∈ Ks := h.sub _ hm
  obtain ⟨v, ps, hrun, hv⟩ := (h.inner k hk).look_ok key9 Yba.underlying28 (zero4 w) (zd := .lit (.bool false)) (zp := []) (RI_bool false) (keyOf9 hx)
  rw [(h.ins k x hk).2 hm] at hrun
  obtain ⟨c, rfl⟩ := RI_inv hv
  exact ⟨c, hrun⟩

theorem isKey (k : List UInt8) : WideAt.IsKeyLit (.string k) := trivial

/-- A new key, with a new empty inner map. -/
theorem MM.new (h : MM w base M n D I β Ks Ps) {k : List UInt8} (hk : k.length ≤ maxLen) (hm : k ∉ Ks) {b0 : Nat} (h0 : w.ownsMap Yba.prog 9 RI b0 0 (.map [])) (hne : b0 ≠ M) (hb : base ≤ b0) (hap : ∀ q, q ∈ Ks → β q ≠ b0) (hn : n < maxLen) :
    ∃ w' D' I' β', (Instr.mapUpdate 24 (.map (some M)) (S k) (.map (some b0))).run Yba.prog w = .ok () w' ∧ MM w' base M (n + 1) D' I' β' (k :: Ks) Ps ∧ β' k = b0 ∧ w.grownBy w' (some M) := by
  obtain ⟨w', hrun, hown, hg⟩ := h.outer.update key9 Yba.underlying24 hn (keyOf9 hk) (d := .lit (.int .u64 b0)) (ps := []) (val := .map (some b0)) rfl
  refine ⟨w', D.put (.string k) (.lit (.int .u64 b0)), (fun q => if q = k then .map [] else I q), (fun q => if q = k then b0 else β q), hrun, ?_, by simp, hg⟩
  have hmk : ∀ q, q ∈ Ks → q ≠ k := fun q hq e => hm (e ▸ hq)
  have hks : ∀ q : List UInt8, q ≠ k → (Lit.string q) ≠ Lit.string k := fun q hq e => hq (by cases e; rfl)
  refine ⟨hown, h.low, fun q => ?_, fun q hq z => ?_, fun q hq => ?_, fun q hq => ?_, fun q q' hq hq' e => ?_, fun q x hq => ?_, fun p hp => by simp [h.sub p hp]⟩
  · by_cases e : q = k
    · subst e
      simp [Maps.has_put_same h.outer.isMap (isKey q)]
    · rw [Maps.has_put_other (hks q e), h.has q]
      simp [e]
  · by_cases e : q = k
    · subst e
      rw [Maps.atKey_put_same h.outer.isMap (isKey q)]
      simp
    · rw [Maps.atKey_put_other (hks q e)]
      simp only [e, if_false]
      exact h.at_ q (by simpa [e] using hq) z
  · by_cases e : q = k
    · simp only [e, if_true]
      exact (h0.kept hg (fun e => hne (Option.some.inj e))).mono (Nat.zero_le _)
    · have hq' : q ∈ Ks := by simpa [e] using hq
      simp only [e, if_false]
      exact ((h.inner q hq').kept hg (fun e => (h.ne q hq').1 (Option.some.inj e))).mono (Nat.le_succ _)
  · by_cases e : q = k
    · simp only [e, if_true]
      exact ⟨hne, hb⟩
    · have hq' : q ∈ Ks := by simpa [e] using hq
      simp only [e, if_false]
      exact h.ne q hq'
  · by_cases e1 : q = k
    · by_cases e2 : q' = k
      · rw [e1, e2]
      · simp only [e1, e2, if_true, if_false] at e
        exact absurd e.symm (hap q' (by simpa [e2] using hq'))
    · by_cases e2 : q' = k
      · simp only [e1, e2, if_true, if_false] at e
        exact absurd e (hap q (by simpa [e1] using hq))
      · simp only [e1, e2, if_false] at e
        exact h.apart q q' (by simpa [e1] using hq) (by simpa [e2] using hq') e
  · by_cases e : q = k
    · subst e
      simp only [if_true]
      refine ⟨fun h1 => by simp [Maps.has] at h1, fun h1 => absurd (h.sub _ h1) hm⟩
    · simp only [e, if_false]
      exact h.ins q x (by simpa [e] using hq)

/-- A pair more: a store into key k's inner map. -/
theorem MM.add (h : MM w base M n D I β Ks Ps) {k x : List UInt8} (hx : x.length ≤ maxLen) (hk : k ∈ Ks) (o : Bool) (hn : n < maxLen) :
    ∃ w' I', (Instr.mapUpdate 28 (.map (some (β k))) (S x) (.bool o)).run Yba.prog w = .ok () w' ∧ MM w' base M (n + 1) D I' β Ks ((k, x) :: Ps) ∧ w.grownBy w' (some (β k)) := by
  obtain ⟨w', hrun, hown, hg⟩ := (h.inner k hk).update key9 Yba.underlying28 hn (keyOf9 hx) (RI_bool o)
  refine ⟨w', (fun q => if q = k then (I k).put (.string x) (.lit (.bool o)) else I q), hrun, ?_, hg⟩
  refine ⟨(h.outer.kept hg (fun e => (h.ne k hk).1 (Option.some.inj e).symm)).mono (Nat.le_succ _), h.low, h.has, h.at_, fun q hq => ?_, h.ne, h.apart, fun q y hq => ?_, fun p hp => ?_⟩
  · by_cases e : q = k
    · simp only [e, if_true]
      exact hown
    · simp only [e, if_false]
      exact ((h.inner q hq).kept hg (fun e1 => e (h.apart q k hq hk (Option.some.inj e1)))).mono (Nat.le_succ _)
  · by_cases e : q = k
    · subst e
      simp only [if_true]
      by_cases e2 : y = x
      · subst e2
        simp [Maps.has_put_same (h.inner q hq).isMap (isKey y)]
      · rw [Maps.has_put_other (fun e3 => e2 (by cases e3; rfl)), h.ins q y hq]
        simp [e2]
    · simp only [e, if_false]
      rw [h.ins q y hq]
      simp [e]
  · rcases List.mem_cons.1 hp with rfl | hp
    · exact hk
    · exact h.sub p hp

theorem MM.keys (h : MM w base M n D I β Ks Ps) {Ks' : List (List UInt8)} (hk : ∀ k, k ∈ Ks' ↔ k ∈ Ks) {Ps' : List Dep} (hp : ∀ p, p ∈ Ps' ↔ p ∈ Ps) : MM w base M n D I β Ks' Ps' where
  outer := h.outer
  low := h.low
  has := fun k => (h.has k).trans (hk k).symm
  at_ := fun k q => h.at_ k ((hk k).1 q)
  inner := fun k q => h.inner k ((hk k).1 q)
  ne := fun k q => h.ne k ((hk k).1 q)
  apart := fun k k' q q' => h.apart k k' ((hk k).1 q) ((hk k').1 q')
  ins := fun k x q => (h.ins k x ((hk k).1 q)).trans (hp _).symm
  sub := fun p q => (hk _).2 (h.sub p ((hp p).1 q))
end
end Go.Proofs.Ybulkcpto

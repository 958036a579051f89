import Derived.Test.YbulkcplmBRead
namespace Go.Proofs.Ybulkcplm
open Go.ChangeShapes Go.WideShapes Go.ChangeAt Go.RowKit

/-- What decodeList refuses. -/
theorem dec9_no (a : Option Addr) (len cap : Nat) (size : Int) (f : Value) (w : World) (h0 : 0 < size) (hs : size ≤ 9) (hl : len ≤ 4096) (h : len = 0 ∨ (len : Int) % size ≠ 0) :
    Calls Yba.prog 9 #[.slice a len cap, .int .i64 size, f] w fun e w' => e = .returned (.tuple #[.slice none 0 0, .bool false]) ∧ w' = w := by
  by_cases hz : len = 0
  · subst hz
    go_enter Yba.func9, Yba.ntmps9
    go_wp2
    go_ret2
    exact ⟨rfl, rfl⟩
  · have hq : ((len : Int) % size != 0) = true := by simpa using h.resolve_left hz
    have hq0 : ((len : Int) == 0) = false := by simpa using hz
    go_enter Yba.func9, Yba.ntmps9
    go_wp2
    go_ret2
    exact ⟨rfl, rfl⟩

/-- The lengths and the first octets that the reader has kept behind k calls. -/
def lensTo (len size k : Nat) : List Value := (List.range k).map fun i => .int .i64 ((len - size * i : Nat) : Int)
def firstsTo (size : Nat) (Z : Nat → Int) (k : Nat) : List Value := (List.range k).map fun i => .int .u8 (Z (size * i))
theorem lensTo_succ (len size k : Nat) : lensTo len size (k + 1) = lensTo len size k ++ [.int .i64 ((len - size * k : Nat) : Int)] := by simp [lensTo, List.range_succ]
theorem firstsTo_succ (size : Nat) (Z : Nat → Int) (k : Nat) : firstsTo size Z (k + 1) = firstsTo size Z k ++ [.int .u8 (Z (size * k))] := by simp [firstsTo, List.range_succ]

/-- The values so far: k of n. -/
def Vals (w : World) (g len size n k : Nat) (Z : Nat → Int) : Prop :=
  ∃ f, w.rowIs g 3 n f ∧ ∀ i, i < k → f i = .int .i64 (((len - size * i : Nat) : Int) * 256 + Z (size * i))

theorem vals_start (w : World) (len size n : Nat) (Z : Nat → Int) : Vals (w.alloc (.cells (madeCells #[.int .i64 0] n) 3)) w.heap.size len size n 0 Z :=
  ⟨_, World.rowIs_made w _ n 3, fun _ hi => absurd hi (Nat.not_lt_zero _)⟩

theorem vals_step {w : World} {g len size n k : Nat} {Z : Nat → Int} (h : Vals w g len size n k Z) : Vals (w.setCell ⟨g, k, none⟩ (.int .i64 (((len - size * k : Nat) : Int) * 256 + Z (size * k)))) g len size n (k + 1) Z := by
  obtain ⟨f, hf, hj⟩ := h
  refine ⟨_, hf.set _ _, fun i hi => ?_⟩
  by_cases e : i = k
  · subst e; simp
  · show (if i = k then _ else f i) = _
    rw [if_neg e]; exact hj i (by omega)

theorem Vals.kept {w w' : World} {B N g len size n k : Nat} {Z : Nat → Int} (h : Vals w g len size n k Z) (hk : Kept B N w w') (h1 : g < N) (h2 : B + 1 < g) : Vals w' g len size n k Z := by
  obtain ⟨f, hf, hj⟩ := h
  exact ⟨f, hf.of_block (hk.block g h1 (by omega) (by omega)), hj⟩

theorem Kept.below {w w' : World} {B N : Nat} (h : Kept B N w w') (hN : B < N) : Below B w w' := ⟨h.os, h.tape, h.output, h.size, fun k hk => h.block k (by omega) (by omega) (by omega)⟩

theorem Two.setOther {w : World} {B N n : Nat} {v1 v2 : Value} {xs ys : List Value} (h : Two w B N n v1 v2 xs ys) {p : Addr} (hp : B + 1 < p.block) (hp' : p.block < N) (u : Value) : Two (w.setCell p u) B N n v1 v2 xs ys := by
  have n1 : p ≠ ⟨B, 0, none⟩ := fun e => by rw [e] at hp; simp at hp; omega
  have n2 : p ≠ ⟨B + 1, 0, none⟩ := fun e => by rw [e] at hp; simp at hp
  exact ⟨by rw [World.cell?_setCell_other _ _ _ _ n1]; exact h.c1, by rw [World.frozen?_setCell]; exact h.f1, by rw [World.cell?_setCell_other _ _ _ _ n2]; exact h.c2, by rw [World.frozen?_setCell]; exact h.f2,
    ownsRow_setCell_below h.o1 hp' _, ownsRow_setCell_below h.o2 hp' _, h.far, h.lt, by simp [World.setCell]; exact h.le⟩

set_option maxRecDepth 100000 in
set_option maxHeartbeats 400000 in
theorem dec9_yes (b off len cap B size n : Nat) (Z : Nat → Int) (w : World) (hn : size * n = len) (h0 : 0 < size) (h1 : 0 < n) (hs : size ≤ 9) (hl : len ≤ 4096) (hc : len ≤ cap) (hm : cap ≤ maxLen) (hb : b < B) (hB : w.heap.size = B + 2)
    (hcell : ∀ i, i < len → w.cell? ⟨b, off + i, none⟩ = some (.int .u8 (Z i))) (hZ : ∀ i, i < len → 0 ≤ Z i ∧ Z i ≤ 255)
    (c1 : w.cell? ⟨B, 0, none⟩ = some (.slice none 0 0)) (f1 : w.frozen? ⟨B, 0, none⟩ = false) (c2 : w.cell? ⟨B + 1, 0, none⟩ = some (.slice none 0 0)) (f2 : w.frozen? ⟨B + 1, 0, none⟩ = false) :
    Calls Yba.prog 9 #[.slice (some ⟨b, off, none⟩) len cap, .int .i64 size, .func (.func 8) #[] #[.pointer (some ⟨B, 0, none⟩), .pointer (some ⟨B + 1, 0, none⟩)]] w fun e w' =>
      e = .returned (.tuple #[.slice (some ⟨B + 2, 0, none⟩) n n, .bool true]) ∧ (∃ u1 u2, Two w' B (B + 3) n u1 u2 (lensTo len size n) (firstsTo size Z n)) ∧ Vals w' (B + 2) len size n n Z ∧ Below B w w' := by
  have hnle : n ≤ len := by rw [← hn]; exact Nat.le_mul_of_pos_left n h0
  have e1 : ((len : Int) == 0) = false := by simp; omega
  have e2 : ((len : Int) % (size : Int) != 0) = false := by rw [← hn]; simp
  have e3 : ((len : Int) / (size : Int)) = (n : Int) := by rw [← hn, Int.natCast_mul, Int.mul_ediv_cancel_left _ (by omega)]
  have hs0 : (0 : Int) < (size : Int) := by omega
  have hmk := run_make_row' (P := Yba.prog) 45 3 (.int .i64 0) 8 Yba.underlying45 Yba.info3 rfl .i64 .i64 n (by omega) (by omega)
  have hn2 : (n : Int) ≤ 4096 := by omega
  have hn1 : (0 : Int) < (n : Int) := by omega
  unfold maxLen at hm
  have HN : Hid (size * n = len) := hn
  clear hn
  go_enter Yba.func9, Yba.ntmps9
  go_wp2_with fail
  go_loopw [26] (fun i wr => ∃ k : Nat, k ≤ n ∧ i = .int .i64 k ∧ (∃ u1 u2, Two wr B (B + 3) k u1 u2 (lensTo len size k) (firstsTo size Z k)) ∧ Vals wr (B + 2) len size n k Z ∧ Below B w wr) (fun i _ => n - (intOf i).toNat)
  case atStart =>
    refine ⟨0, Nat.zero_le _, rfl, ⟨_, _, ⟨?_, ?_, ?_, ?_, World.ownsRow_nil _ _ _ _, World.ownsRow_nil _ _ _ _, .inl rfl, by omega, by simp; omega⟩⟩, ?_, (Below.refl _ _).alloc (by omega) _⟩
    · rw [World.cell?_alloc_lt _ _ _ (by show B < _; omega)]; exact c1
    · rw [World.frozen?_alloc_past _ _ _ (by omega)]; exact f1
    · rw [World.cell?_alloc_lt _ _ _ (by show B + 1 < _; omega)]; exact c2
    · rw [World.frozen?_alloc_past _ _ _ (by omega)]; exact f2
    · rw [← hB]; exact vals_start w len size n Z
  case round =>
    obtain ⟨k, hk, rfl, ⟨u1, u2, hT⟩, hV, hBel⟩ := hrel
    by_cases hlt : k < n
    · obtain ⟨o, ho⟩ : ∃ o, o = size * k := ⟨_, rfl⟩
      have hol : o < len := by rw [ho, ← HN.out]; exact Nat.mul_lt_mul_of_pos_left hlt h0
      have em : (size : Int) * (k : Int) = (o : Int) := by rw [ho]; simp
      have q0 : wr.cell? ⟨b, off + o, none⟩ = some (.int .u8 (Z o)) := by rw [hBel.cell hb]; exact hcell o hol
      have hz := hZ o hol
      have HO : Hid (o = size * k) := ho
      clear ho
      go_wp2_with fail
      refine (read8 b (off + o) (len - o) (cap - o) B (B + 3) k (Z o) u1 u2 _ _ wr hz.1 hz.2 hb q0 (by omega) (by omega) (by omega) hT).mono ?_
      rintro e w2 ⟨rfl, ⟨x1, x2, hT2⟩, hK⟩
      have hV2 := hV.kept hK (by omega) (by omega)
      have HV : Hid (Vals w2 (B + 2) len size n k Z) := hV2
      obtain ⟨f, hf, _⟩ := hV2
      have q2 := hf.cell hlt
      have q3 := hf.frozen k
      have hk0 : (0 : Int) ≤ (k : Int) := by omega
      have hk1 : (k : Int) < (n : Int) := by omega
      clear hf
      go_wp2_with fail
      go_roundw
      case rel =>
        refine ⟨k + 1, by omega, by go_num, ⟨x1, x2, ?_⟩, ?_, (hBel.trans (hK.below (by omega))).setCell (by simp) _⟩
        · rw [lensTo_succ, firstsTo_succ, ← HO.out]
          exact hT2.setOther (by simp) (by simp) _
        · rw [HO.out]
          exact vals_step HV.out
      case measure => simp [intOf]; omega
    · go_wp2_with fail
      go_ret2
      obtain rfl : k = n := by omega
      exact ⟨rfl, ⟨_, _, hT⟩, hV, hBel⟩
end Go.Proofs.Ybulkcplm

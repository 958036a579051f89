import Derived.Test.YbulkcplmCRead
import Derived.Deep.LoopGhost
namespace Go.Proofs.Ybulkcplm
open Go.ChangeShapes Go.WideShapes Go.ChangeAt Go.RowKit

theorem Yba.info22 : (Yba.prog.info? 22).map (fun i => (i.zero, i.size, i.bytes)) = some (some (.int .u32 0), 1, 4) := by kernel_rfl

theorem dec10_no (a : Option Addr) (len cap : Nat) (f : Value) (w : World) (hl : len ≤ 4096) (h : len = 0 ∨ len % 4 ≠ 0) :
    Calls Yba.prog 10 #[.slice a len cap, .int .i64 4, f] w fun e w' => e = .returned (.tuple #[.slice none 0 0, .bool false]) ∧ w' = w := by
  have hl' : (len : Int) ≤ 4096 := by omega
  by_cases hz : len = 0
  · subst hz
    go_enter Yba.func10, Yba.ntmps10
    go_wp2
    go_ret2
    exact ⟨rfl, rfl⟩
  · have hq : ((len : Int) % 4 != 0) = true := by
      have := h.resolve_left hz
      simp
      omega
    have hq0 : ((len : Int) == 0) = false := by simpa using hz
    go_enter Yba.func10, Yba.ntmps10
    go_wp2
    go_ret2
    exact ⟨rfl, rfl⟩

/-- The values so far: k of n. -/
def Words (w : World) (g n k : Nat) (Z : Nat → Int) : Prop := ∃ f, w.rowIs g 22 n f ∧ ∀ i, i < k → f i = .int .u32 (word Z (4 * i))

theorem words_start (w : World) (n : Nat) (Z : Nat → Int) : Words (w.alloc (.cells (madeCells #[.int .u32 0] n) 22)) w.heap.size n 0 Z :=
  ⟨_, World.rowIs_made w _ n 22, fun _ hi => absurd hi (Nat.not_lt_zero _)⟩

theorem words_step {w : World} {g n k : Nat} {Z : Nat → Int} (h : Words w g n k Z) : Words (w.setCell ⟨g, k, none⟩ (.int .u32 (word Z (4 * k)))) g n (k + 1) Z := by
  obtain ⟨f, hf, hj⟩ := h
  refine ⟨_, hf.set _ _, fun i hi => ?_⟩
  by_cases e : i = k
  · subst e; simp
  · show (if i = k then _ else f i) = _
    rw [if_neg e]; exact hj i (by omega)

theorem Words.below {w w' : World} {g n k : Nat} {Z : Nat → Int} (h : Words w g n k Z) (hb : Below w.heap.size w w') : Words w' g n k Z := by
  obtain ⟨f, hf, hj⟩ := h
  exact ⟨f, hf.of_block (hb.block g hf.lt), hj⟩

set_option maxRecDepth 100000 in
set_option maxHeartbeats 400000 in
theorem dec10_yes (b off len cap n : Nat) (Z : Nat → Int) (w : World) (hn : 4 * n = len) (h1 : 0 < n) (hl : len ≤ 4096) (hc : len ≤ cap) (hb : b < w.heap.size)
    (hcell : ∀ i, i < len → w.cell? ⟨b, off + i, none⟩ = some (.int .u8 (Z i))) (hZ : ∀ i, i < len → 0 ≤ Z i ∧ Z i ≤ 255) :
    Calls Yba.prog 10 #[.slice (some ⟨b, off, none⟩) len cap, .int .i64 4, .func (.func 11) #[] #[]] w fun e w' =>
      e = .returned (.tuple #[.slice (some ⟨w.heap.size, 0, none⟩) n n, .bool true]) ∧ Words w' w.heap.size n n Z ∧ Below w.heap.size w w' := by
  have e1 : ((len : Int) == 0) = false := by simp; omega
  have e2 : ((len : Int) % 4 != 0) = false := by simp; omega
  have e3 : ((len : Int) / 4) = (n : Int) := by omega
  have hmk := run_make_row' (P := Yba.prog) 50 22 (.int .u32 0) 4 Yba.underlying50 Yba.info22 rfl .i64 .i64 n (by omega) (by omega)
  have hn2 : (n : Int) ≤ 1024 := by omega
  have hl2 : (len : Int) ≤ 4096 := by omega
  have HN : Hid (4 * n = len) := hn
  clear hn
  go_enter Yba.func10, Yba.ntmps10
  go_wp2_with fail
  go_loopw [26] (fun i wr => ∃ k : Nat, k ≤ n ∧ i = .int .i64 k ∧ Words wr w.heap.size n k Z ∧ Below w.heap.size w wr) (fun i _ => n - (intOf i).toNat)
  case atStart => exact ⟨0, Nat.zero_le _, rfl, words_start w n Z, (Below.refl _ _).alloc (Nat.le_refl _) _⟩
  case round =>
    obtain ⟨k, hk, rfl, hV, hBel⟩ := hrel
    by_cases hlt : k < n
    · have hol : 4 * k + 4 ≤ len := by have := HN.out; omega
      have hol' : (4 : Int) * (k : Int) ≤ (len : Int) := by omega
      have HC : Hid (∀ i, i < 4 → wr.cell? ⟨b, off + 4 * k + i, none⟩ = some (.int .u8 (Z (4 * k + i)))) := fun i hi => by
        rw [hBel.cell hb, Nat.add_assoc]; exact hcell _ (by omega)
      go_wp2_with fail
      refine (read11 b (off + 4 * k) (len - 4 * k) (cap - 4 * k) (4 * k) Z wr (by omega) (fun i hi => hZ _ (by omega)) HC.out).mono ?_
      rintro e w2 ⟨rfl, hb2⟩
      have hV2 := hV.below hb2
      have HV : Hid (Words w2 w.heap.size n k Z) := hV2
      obtain ⟨f, hf, _⟩ := hV2
      have q2 := hf.cell hlt
      have q3 := hf.frozen k
      have hk0 : (0 : Int) ≤ (k : Int) := by omega
      have hk1 : (k : Int) < (n : Int) := by omega
      have hbs := hBel.size
      clear hf HC
      go_wp2_with fail
      go_roundw
      case rel => exact ⟨k + 1, by omega, by go_num, words_step HV.out, (hBel.trans (hb2.mono hbs)).setCell (Nat.le_refl _) _⟩
      case measure => simp [intOf]; omega
    · go_wp2_with fail
      go_ret2
      obtain rfl : k = n := by omega
      exact ⟨rfl, hV, hBel⟩
end Go.Proofs.Ybulkcplm

import Derived.Test.YbulkcplmASame
import Derived.Deep.OwnRows
import Derived.Deep.LoopGhost
import Derived.Deep.DeepCutAuto
import Derived.Deep.RegionHeld3
import Derived.Deep.Light
import Derived.Deep.CutBlock
import Derived.RegionTactic
import Derived.BigRegion
import Derived.Lib.Builder
namespace Go.Proofs.Ybulkcplm
open Go.ChangeShapes Go.WideShapes Go.ChangeAt Go.RowKit

/-- What is known of the capabilities that came in. -/
def IsCaps (w : World) (a : Option Addr) (len cap : Nat) (C : Nat → Int) (A : Nat → Option Addr) (L K : Nat → Nat) (Z : Nat → List Int) : Prop :=
  (a = none ∧ len = 0 ∧ cap = 0) ∨
  ∃ x, a = some x ∧ len ≤ cap ∧ cap ≤ maxLen ∧ ∀ i, i < len → w.cell? (x.add (i * 2)) = some (.int .u8 (C i)) ∧ w.cell? (x.add (i * 2 + 1)) = some (.slice (A i) (L i) (K i)) ∧ IsRow .u8 w (A i) (L i) (K i) (Z i)

theorem Yba.info29 : (Yba.prog.info? 29).map (fun i => (i.zero, i.size, i.bytes)) = some (some (.agg #[.int .u8 0, .slice none 0 0]), 2, 32) := by kernel_rfl


theorem run_mk (n : Nat) (hn : n ≤ 1024) (w : World) :
    (Instr.makeSlice 25 (.int .i64 (n : Int)) (.int .i64 (n : Int))).run Yba.prog w = .ok (.slice (some ⟨w.heap.size, 0, none⟩) n n) (w.alloc (.cells (madeCells #[.int .u8 0, .slice none 0 0] (n * 2)) 29)) := by
  obtain ⟨i, hi, hz, hs, hb⟩ := info_parts Yba.info29
  have hr := run_make (P := Yba.prog) w 25 29 i _ Yba.underlying25 hi hz .i64 .i64 n n (by omega) (Int.le_refl _) (by rw [hb]; omega) (by omega)
  simpa only [Int.toNat_natCast, hs, Value.cells] using hr

/-- The row of what has been copied: k elements. -/
def Copied (w : World) (g len k : Nat) (C : Nat → Int) (A : Nat → Option Addr) (L K : Nat → Nat) : Prop :=
  ∃ f, w.rowIs g 29 (len * 2) f ∧ ∀ j, j < k → f (j * 2) = .int .u8 (C j) ∧ f (j * 2 + 1) = .slice (A j) (L j) (K j)

theorem copied_start (w : World) (len : Nat) (C : Nat → Int) (A : Nat → Option Addr) (L K : Nat → Nat) : Copied (w.alloc (.cells (madeCells #[.int .u8 0, .slice none 0 0] (len * 2)) 29)) w.heap.size len 0 C A L K :=
  ⟨fun i => if i % 2 = 0 then .int .u8 0 else .slice none 0 0, ⟨_, Go.Deep.blk_alloc_new _ _, size_madeCells _ _, fun i hi => by
    simp [madeCells, hi]
    rcases Nat.mod_two_eq_zero_or_one i with h | h <;> simp [h]⟩, fun j hj => absurd hj (Nat.not_lt_zero _)⟩

theorem copied_step {w : World} {g len k : Nat} {C : Nat → Int} {A : Nat → Option Addr} {L K : Nat → Nat} (h : Copied w g len k C A L K) :
    Copied ((w.setCell ⟨g, k * 2, none⟩ (.int .u8 (C k))).setCell ⟨g, k * 2 + 1, none⟩ (.slice (A k) (L k) (K k))) g len (k + 1) C A L K := by
  obtain ⟨f, hf, hj⟩ := h
  refine ⟨_, (hf.set _ _).set _ _, fun j hjk => ?_⟩
  by_cases e : j = k
  · subst e
    refine ⟨?_, ?_⟩
    · simp
    · simp
  · have := hj j (by omega)
    refine ⟨?_, ?_⟩
    · rw [if_neg (by omega), if_neg (by omega)]; exact this.1
    · rw [if_neg (by omega), if_neg (by omega)]; exact this.2


theorem isRow_below {k : IntKind} {w w' : World} {a : Option Addr} {len cap : Nat} {zs : List Int} (hb : Below w.heap.size w w') (h : IsRow k w a len cap zs) : IsRow k w' a len cap zs := by
  rcases h with h | ⟨x, h1, h2, h3, h4, h5, h6⟩
  · exact .inl h
  · refine .inr ⟨x, h1, h2, h3, h4, fun i hi => ?_, h6⟩
    have hc := h5 i hi
    rw [hb.cell (World.block_lt_of_cell? _ _ hc)]
    exact hc

theorem isRow_drewN {k : IntKind} {w : World} {a : Option Addr} {len cap : Nat} {zs : List Int} (n : Nat) (h : IsRow k w a len cap zs) : IsRow k (w.drewN n) a len cap zs := h

theorem neq37 (w : World) : (binOp .neq 37 (.agg #[.int .u64 0, .int .u64 0, .pointer none]) (.agg #[.int .u64 0, .int .u64 0, .pointer none])).run Yba.prog w = .ok (.bool false) w := by kernel_rfl

theorem neq42 (a : Addr) (w : World) : (binOp .neq 42 (.pointer (some a)) (.pointer (some a))).run Yba.prog w = .ok (.bool false) w := by
  obtain ⟨i, hi, _⟩ := info_parts Yba.info29
  exact Lib.run_neq_ptr_same w a Yba.underlying42 hi

/-- What 'My Autonomous System' holds. -/
def myAS (x : Int) : Int := if x ≤ 65535 then x else 23456
theorem myAS_le {x : Int} (h : x ≤ 65535) : myAS x = x := by simp [myAS, h]
theorem myAS_gt {x : Int} (h : 65535 < x) : myAS x = 23456 := by unfold myAS; rw [if_neg (by omega)]

/-- The seven cells of an Open. -/
def IsOpen (w : World) (g : Nat) (x ht : Int) (v : Value) : Prop :=
  w.cell? ⟨g, 0, none⟩ = some (.int .u8 4) ∧ w.cell? ⟨g, 1, none⟩ = some (.int .u16 (myAS x)) ∧ w.cell? ⟨g, 2, none⟩ = some (.int .u16 ht) ∧ w.cell? ⟨g, 3, none⟩ = some (.int .u64 0) ∧
  w.cell? ⟨g, 4, none⟩ = some (.int .u64 0) ∧ w.cell? ⟨g, 5, none⟩ = some (.pointer none) ∧ w.cell? ⟨g, 6, none⟩ = some v

theorem open6 (x ht : Int) (a : Option Addr) (n c : Nat) (w : World) (h0 : 0 ≤ x) (h1 : x ≤ 4294967295) :
    Calls Yba.prog 6 #[.int .u32 x, .int .u16 ht, .agg #[.int .u64 0, .int .u64 0, .pointer none], .slice a n c] w fun e w' =>
      ∃ g, e = .returned (.pointer (some ⟨g, 0, none⟩)) ∧ IsOpen w' g x ht (.slice a n c) ∧ Below w.heap.size w w' := by
  rcases (by omega : x ≤ 65535 ∨ 65535 < x) with h | h
  · go_enter Yba.func6, Yba.ntmps6
    go_wp2
    go_ret
    refine ⟨_, rfl, ?_, ((Below.refl _ _).alloc (Nat.le_refl _) _).alloc (by simp) _⟩
    rw [IsOpen, myAS_le h]
    simp
  · go_enter Yba.func6, Yba.ntmps6
    go_wp2
    go_ret
    refine ⟨_, rfl, ?_, ((Below.refl _ _).alloc (Nat.le_refl _) _).alloc (by simp) _⟩
    rw [IsOpen, myAS_gt h]
    simp

set_option maxRecDepth 100000 in
set_option maxHeartbeats 400000 in
theorem walk3_pos (an sel ht : Int) (b off len cap : Nat) (C : Nat → Int) (A : Nat → Option Addr) (L K : Nat → Nat) (Z : Nat → List Int) (w : World)
    (w0 : (Lit.int .u32 an).wf = true) (w1 : (Lit.int .u8 sel).wf = true) (w2 : (Lit.int .u16 ht).wf = true) (hpos : 0 < len) (hbig : len ≤ 1024) (hl : len ≤ cap) (hm : cap ≤ maxLen) (hb : b < w.heap.size)
    (hc0 : ∀ i, i < len → w.cell? ⟨b, off + i * 2, none⟩ = some (.int .u8 (C i))) (hc1 : ∀ i, i < len → w.cell? ⟨b, off + i * 2 + 1, none⟩ = some (.slice (A i) (L i) (K i))) (hrow : ∀ i, i < len → IsRow .u8 w (A i) (L i) (K i) (Z i)) :
    Calls Yba.prog 3 #[.int .u32 an, .int .u8 sel, .int .u16 ht, .slice (some ⟨b, off, none⟩) len cap] w fun e w' => e = .returned (.bool true) ∧ Below w.heap.size w w' := by
  have ba := bounds_u32 w0
  have bs := bounds_u8 w1
  have bh := bounds_u16 w2
  unfold maxLen at hm
  have hnn := fun (w : World) => run_neq_slice_nil_any (P := Yba.prog) w 24 28 (some ⟨b, off, none⟩) len cap 0 0 Yba.underlying24
  have hmk := run_mk len hbig
  have hbi : (len : Int) ≤ 1024 := by omega
  go_enter Yba.func3, Yba.ntmps3
  go_upto_block 0 with fail
  go_cut [9] (fun v wx => w = wx ∧ ∃ x : Int, 0 ≤ x ∧ x ≤ 4294967295 ∧ v = .int .u32 x)
  case first =>
    go_wp2
    all_goals
      go_meet
      exact ⟨rfl, _, by omega, by omega, rfl⟩
  case rest =>
    obtain ⟨rfl, x, hx0, hx1, rfl⟩ := hcut
    go_wp2
    go_loopw [11] (fun i wr => ∃ k : Nat, k ≤ len ∧ i = .int .i64 k ∧ Copied wr w.heap.size len k C A L K ∧ Below w.heap.size w wr ∧ wr.heap.size = w.heap.size + 1) (fun i _ => len - (intOf i).toNat)
    case atStart => exact ⟨0, Nat.zero_le _, rfl, copied_start _ _ _ _ _ _, (Below.refl _ _).alloc (Nat.le_refl _) _, by simp⟩
    case round =>
      obtain ⟨k, hk, rfl, hcop, hbel, hsz⟩ := hrel
      by_cases hlt : k < len
      · have q0 : wr.cell? ⟨b, off + k * 2, none⟩ = some (.int .u8 (C k)) := by rw [hbel.cell hb]; exact hc0 k hlt
        have q1 : wr.cell? ⟨b, off + k * 2 + 1, none⟩ = some (.slice (A k) (L k) (K k)) := by rw [hbel.cell hb]; exact hc1 k hlt
        have HC : Hid (Copied wr w.heap.size len k C A L K) := hcop
        obtain ⟨f, hf, _⟩ := hcop
        have q2 := hf.cell (i := k * 2) (by omega)
        have q3 := hf.cell (i := k * 2 + 1) (by omega)
        have q4 := hf.frozen (k * 2)
        have q5 := hf.frozen (k * 2 + 1)
        have h0 : (0 : Int) ≤ (k : Int) := by omega
        have h1 : (k : Int) < (len : Int) := by omega
        clear hf
        go_wp2
        go_region
        go_wp2
        go_roundw
        case rel => exact ⟨k + 1, by omega, by go_num, copied_step HC.out, ((hbel.setCell (by simp) _).setCell (by simp) _).drew, by simpa [World.setCell] using hsz⟩
        case measure => simp [intOf]; omega
      · obtain rfl : k = len := by omega
        have hnil := fun (wu : World) => Lib.run_eql_slice_nil (P := Yba.prog) wu 24 28 (some ⟨b, off, none⟩) k cap 0 0 Yba.underlying24
        have hnil2 := fun (wu : World) => Lib.run_eql_slice_nil (P := Yba.prog) wu 25 29 (some ⟨w.heap.size, 0, none⟩) k k 0 0 Yba.underlying25
        clear hnn hmk
        go_upto_if 72 with (go_at_call 6; refine (open6 _ _ _ _ _ _ hx0 hx1).mono ?_; rintro e w3 ⟨g, rfl, hop, hb3⟩)
        have e0 : w3.cell? ⟨w.heap.size + 1, 0, none⟩ = some (.int .u64 0) := by rw [hb3.cell (by simp; omega), ← hsz]; simp
        have e1 : w3.cell? ⟨w.heap.size + 1, 1, none⟩ = some (.int .u64 0) := by rw [hb3.cell (by simp; omega), ← hsz]; simp
        have e2 : w3.cell? ⟨w.heap.size + 1, 2, none⟩ = some (.pointer none) := by rw [hb3.cell (by simp; omega), ← hsz]; simp
        have hcop3 : Copied w3 w.heap.size k k C A L K := by
          obtain ⟨f, hf, hj⟩ := hcop
          exact ⟨f, (hf.alloc _).of_block (hb3.block _ (by simp; omega)), hj⟩
        have hbel3 : Below w.heap.size w w3 := (hbel.alloc (by omega) _).trans (hb3.mono (by simp; omega))
        clear hcop hbel hb3
        obtain ⟨o0, o1, o2, o3, o4, o5, o6⟩ := hop
        go_cut [14] (fun v wx => w3 = wx ∧ v = .int .u16 (myAS x))
        case first =>
          go_wp2
          all_goals
            go_meet
            exact ⟨rfl, by first | rw [myAS_le (by omega)] | rw [myAS_gt (by omega)]⟩
        case rest =>
          obtain ⟨rfl, rfl⟩ := hcut
          have hid := neq37
          go_wp2_with fail
          go_quiet (fail)
          have hp1 : (0 : Int) < (k : Int) := by omega
          have hpt := neq42
          go_wp2_with fail
          go_quiet (fail)
          go_wp2_with fail
          clear hid hpt hnil hnil2 o0 o1 o2 o3 o4 o5 e0 e1 e2
          go_loopw [15] (fun i wr => ∃ j : Nat, j ≤ k ∧ i = .int .i64 j ∧ ∃ n, wr = w3.drewN n) (fun i _ => k - (intOf i).toNat)
          case atStart => exact ⟨0, Nat.zero_le _, rfl, by first | exact ⟨_, rfl⟩ | exact ⟨_, World.drewN_drewN _ _ _⟩⟩
          case round =>
            obtain ⟨j, hj, rfl, n, hwn⟩ := hrel
            have hbel4 : Below w.heap.size w wr := by rw [hwn]; exact hbel3.trans ⟨rfl, rfl, rfl, Nat.le_refl _, fun _ _ => rfl⟩
            have hcop4 : Copied wr w.heap.size k k C A L K := by rw [hwn]; exact hcop3
            have o64 : wr.cell? ⟨g, 6, none⟩ = some (.slice (some ⟨w.heap.size, 0, none⟩) k k) := by rw [hwn]; exact o6
            have HW : Hid (wr = w3.drewN n) := hwn
            clear hwn o6 hcop3 hbel3
            by_cases hjk : j < k
            · have q0 : wr.cell? ⟨b, off + j * 2, none⟩ = some (.int .u8 (C j)) := by rw [hbel4.cell hb]; exact hc0 j hjk
              have q1 : wr.cell? ⟨b, off + j * 2 + 1, none⟩ = some (.slice (A j) (L j) (K j)) := by rw [hbel4.cell hb]; exact hc1 j hjk
              have hrj : IsRow .u8 wr (A j) (L j) (K j) (Z j) := isRow_below hbel4 (hrow j hjk)
              obtain ⟨f, hf, hff⟩ := hcop4
              have q2 := hf.cell (i := j * 2) (by omega)
              have q3 := hf.cell (i := j * 2 + 1) (by omega)
              rw [(hff j hjk).1] at q2
              rw [(hff j hjk).2] at q3
              have h0 : (0 : Int) ≤ (j : Int) := by omega
              have h1 : (j : Int) < (k : Int) := by omega
              clear hf hff hc0 hc1 hrow
              go_wp2_with fail
              go_quiet ((go_at_call 7; refine Calls.quiet_of (same7 _ _ _ (Z j) _ ?_); exact hrj))
              go_wp2_with fail
              go_roundw
              case rel => exact ⟨j + 1, by omega, by go_num, by rw [HW.out]; exact ⟨_, World.drewN_drewN _ _ _⟩⟩
              case measure => simp [intOf]; omega
            · go_wp2_with fail
              go_ret
              exact ⟨rfl, hbel4⟩
end Go.Proofs.Ybulkcplm

import Derived.Test.YbulkcplmCDec
import Derived.Deep.DeepCutAuto
import Derived.Deep.CutBlock
namespace Go.Proofs.Ybulkcplm
open Go.ChangeShapes Go.WideShapes Go.ChangeAt Go.RowKit

theorem Yba.info5w : (Yba.prog.info? 5).map (fun i => (i.zero, i.size, i.bytes)) = some (some (.int .u8 0), 1, 1) := by kernel_rfl
theorem Yba.size5 : (Yba.prog.info? 5).map (·.size) = some 1 := by kernel_rfl

theorem below_cells {B b : Nat} {a : World} (hb : B ≤ b) : ∀ (vs : List Value) (o : Nat) (w : World), Below B a w → Below B a (w.setCells b o vs)
  | [], _, _, h => h
  | _ :: r, _, _, h => below_cells hb r _ _ (h.setCell hb _)

/-- 'keep := make([]byte, len(b)); copy(keep, b)'. -/
theorem copied_keep (b off len cap : Nat) (Z : Nat → Int) (w : World) (hcell : ∀ i, i < len → w.cell? ⟨b, off + i, none⟩ = some (.int .u8 (Z i))) :
    ∃ w1, (Builtin.copy_ #[26, 26] 3 #[.slice (some ⟨w.heap.size, 0, none⟩) len len, .slice (some ⟨b, off, none⟩) len cap]).run Yba.prog (w.alloc (.cells (madeCells #[.int .u8 0] len) 5)) = .ok (.int .i64 len) w1 ∧
      (∀ i, i < len → w1.cell? ⟨w.heap.size, i, none⟩ = some (.int .u8 (Z i))) ∧ Below w.heap.size w w1 := by
  have hrow := World.rowIs_made w (.int .u8 0) len 5
  have hr := run_copy_cells (P := Yba.prog) (w.alloc (.cells (madeCells #[.int .u8 0] len) 5)) 26 26 3 5 w.heap.size 0 len len ⟨b, off, none⟩ len cap ((List.range len).map fun i => .int .u8 (Z i)) Yba.underlying26 Yba.size5 (by simp)
    (fun j v hv => by
      rw [Addr.add_mid]
      by_cases hj : j < len
      · have e : v = .int .u8 (Z j) := by simpa [hj] using hv.symm
        have hc := hcell j hj
        rw [World.cell?_alloc_lt _ _ _ (World.block_lt_of_cell? _ _ hc), hc, e]
      · simp [hj] at hv)
    (fun j hj => by rw [Nat.zero_add, hrow.cell (by simpa using hj)]; rfl) (fun j hj => by rw [Nat.zero_add]; exact hrow.frozen j) (fun v hv => by
      obtain ⟨i, _, rfl⟩ := List.mem_map.1 hv
      rfl)
  have eg : goInt ((List.range len).map fun i => Value.int .u8 (Z i)).length = .int .i64 len := by simp [goInt]
  refine ⟨_, by rw [eg] at hr; exact hr, fun i hi => ?_, ?_⟩
  · have := World.cell?_setCells_in w.heap.size ((List.range len).map fun i => .int .u8 (Z i)) 0 (w.alloc (.cells (madeCells #[.int .u8 0] len) 5)) (fun j hj => by rw [Nat.zero_add, hrow.cell (by simpa using hj)]; rfl) i (by simpa using hi)
    rw [Nat.zero_add] at this
    rw [this]; simp
  · exact below_cells (Nat.le_refl _) _ _ _ ((Below.refl _ _).alloc (Nat.le_refl _) _)

set_option maxRecDepth 100000 in
set_option maxHeartbeats 400000 in
theorem walk5_big (a : Option Addr) (len cap : Nat) (w : World) (hbig : 4096 < len) :
    Calls Yba.prog 5 #[.slice a len cap] w fun e w' => e = .returned (.bool true) ∧ Below w.heap.size w w' := by
  go_enter Yba.func5, Yba.ntmps5
  go_wp2
  go_ret
  exact ⟨rfl, Below.refl _ _⟩

set_option maxRecDepth 100000 in
set_option maxHeartbeats 400000 in
theorem walk5_zero (a : Option Addr) (cap : Nat) (w : World) :
    Calls Yba.prog 5 #[.slice a 0 cap] w fun e w' => e = .returned (.bool true) ∧ Below w.heap.size w w' := by
  have hmk := run_make_row' (P := Yba.prog) 26 5 (.int .u8 0) 1 Yba.underlying26 Yba.info5w rfl .i64 .i64 0 (by omega) (by omega)
  simp only [Int.natCast_zero] at hmk
  have hcp := run_copy_none (P := Yba.prog) (w.alloc (.cells (madeCells #[.int .u8 0] 0) 5)) 26 26 3 5 (some ⟨w.heap.size, 0, none⟩) a 0 0 0 cap Yba.underlying26 Yba.size5 rfl
  have hnil := fun (wu : World) => Lib.run_eql_slice_nil (P := Yba.prog) wu 50 22 none 0 0 0 0 Yba.underlying50
  go_enter Yba.func5, Yba.ntmps5
  go_wp2_with (go_at_call 10; refine (dec10_no a 0 cap _ _ (by omega) (.inl rfl)).mono ?_; rintro e w' ⟨rfl, rfl⟩)
  refine wp_loop_rounds 1 ?_; rw [rounds_succ]
  go_wp2_with fail
  go_ret
  exact ⟨rfl, (Below.refl _ _).alloc (Nat.le_refl _) _⟩

set_option maxRecDepth 100000 in
set_option maxHeartbeats 400000 in
theorem walk5_no (b off len cap : Nat) (Z : Nat → Int) (w : World) (hpos : 0 < len) (hl : len ≤ 4096) (h4 : len % 4 ≠ 0) (hb : b < w.heap.size) (hcell : ∀ i, i < len → w.cell? ⟨b, off + i, none⟩ = some (.int .u8 (Z i))) :
    Calls Yba.prog 5 #[.slice (some ⟨b, off, none⟩) len cap] w fun e w' => e = .returned (.bool true) ∧ Below w.heap.size w w' := by
  have hmk := run_make_row' (P := Yba.prog) 26 5 (.int .u8 0) 1 Yba.underlying26 Yba.info5w rfl .i64 .i64 len (by omega) (by omega)
  obtain ⟨w1, hcp, hk1, hb1⟩ := copied_keep b off len cap Z w hcell
  have hnil := fun (wu : World) => Lib.run_eql_slice_nil (P := Yba.prog) wu 50 22 none 0 0 0 0 Yba.underlying50
  have hl' : (len : Int) ≤ 4096 := by omega
  have hq : ((len : Int) % 4 != 0) = true := by simp; omega
  have hq0 : ((len : Int) == 0) = false := by simp; omega
  go_enter Yba.func5, Yba.ntmps5
  go_upto_block 0 with (go_at_call 10; refine (dec10_no (some ⟨b, off, none⟩) len cap _ _ hl (.inr h4)).mono ?_; rintro e w2 ⟨rfl, hw2⟩; obtain rfl := hw2.symm; have hbW := hb1; have hkW := hk1)
  go_cut [6] (fun v wx => ∃ m, wx = w1.drewN m)
  case first =>
    go_wp2_with fail
    go_loopw [6] (fun i wr => ∃ k : Nat, k ≤ len ∧ i = .int .i64 k ∧ ∃ m, wr = w1.drewN m) (fun i _ => len - (intOf i).toNat)
    case atStart => exact ⟨0, Nat.zero_le _, rfl, 0, rfl⟩
    case round =>
      obtain ⟨k, hk, rfl, m, hwm⟩ := hrel
      by_cases hlt : k < len
      · have q0 : wr.cell? ⟨b, off + k, none⟩ = some (.int .u8 (Z k)) := by rw [hwm]; exact (hbW.cell hb).trans (hcell k hlt)
        have q1 : wr.cell? ⟨w.heap.size, k, none⟩ = some (.int .u8 (Z k)) := by rw [hwm]; exact hkW k hlt
        have HW : Hid (wr = w1.drewN m) := hwm
        have h0 : (0 : Int) ≤ (k : Int) := by omega
        have h1 : (k : Int) < (len : Int) := by omega
        clear hwm hcell hkW
        go_wp2_with fail
        go_quiet (fail)
        go_wp2_with fail
        go_roundw
        case rel => exact ⟨k + 1, by omega, by go_num, by rw [HW.out]; exact ⟨_, World.drewN_drewN _ _ _⟩⟩
        case measure => simp [intOf]; omega
      · subst hwm
        go_wp2_with fail
        go_meet
        exact ⟨_, rfl⟩
  case rest =>
    obtain ⟨m, rfl⟩ := hcut
    go_wp2_with fail
    go_ret
    exact ⟨rfl, hb1.trans ⟨rfl, rfl, rfl, Nat.le_refl _, fun _ _ => rfl⟩⟩

set_option maxRecDepth 100000 in
set_option maxHeartbeats 400000 in
theorem walk5_yes (b off len cap n : Nat) (Z : Nat → Int) (w : World) (hpos : 0 < n) (hl : len ≤ 4096) (h4 : 4 * n = len) (hc : len ≤ cap) (hb : b < w.heap.size) (hcell : ∀ i, i < len → w.cell? ⟨b, off + i, none⟩ = some (.int .u8 (Z i)))
    (hZ : ∀ i, i < len → 0 ≤ Z i ∧ Z i ≤ 255) :
    Calls Yba.prog 5 #[.slice (some ⟨b, off, none⟩) len cap] w fun e w' => e = .returned (.bool true) ∧ Below w.heap.size w w' := by
  have hmk := run_make_row' (P := Yba.prog) 26 5 (.int .u8 0) 1 Yba.underlying26 Yba.info5w rfl .i64 .i64 len (by omega) (by omega)
  obtain ⟨w1, hcp, hk1, hb1⟩ := copied_keep b off len cap Z w hcell
  have hl' : (len : Int) ≤ 4096 := by omega
  have hq : ((len : Int) % 4 != 0) = false := by simp; omega
  have hq0 : ((len : Int) == 0) = false := by simp; omega
  have hq1 : (len : Int) / 4 = (n : Int) := by omega
  have hn1 : (n : Int) ≤ 1024 := by omega
  have hsz : w.heap.size < w1.heap.size := World.block_lt_of_cell? _ _ (hk1 0 (by omega))
  have HC : Hid (∀ i, i < len → w1.cell? ⟨b, off + i, none⟩ = some (.int .u8 (Z i))) := fun i hi => (hb1.cell hb).trans (hcell i hi)
  have H4 : Hid (4 * n = len) := h4
  clear h4
  go_enter Yba.func5, Yba.ntmps5
  go_upto_block 0 with (go_at_call 10; refine (dec10_yes b off len cap n Z w1 H4.out hpos hl hc (by omega) HC.out hZ).mono ?_; rintro e w5 ⟨rfl, hV, hb5⟩; have hbW : Below w.heap.size w w5 := hb1.trans (hb5.mono (by omega)); have hkW : ∀ i, i < len → w5.cell? ⟨w.heap.size, i, none⟩ = some (.int .u8 (Z i)) := fun i hi => (hb5.cell hsz).trans (hk1 i hi))
  go_cut [6] (fun v wx => ∃ m, wx = w5.drewN m)
  case first =>
    go_wp2_with fail
    go_loopw [6] (fun i wr => ∃ k : Nat, k ≤ len ∧ i = .int .i64 k ∧ ∃ m, wr = w5.drewN m) (fun i _ => len - (intOf i).toNat)
    case atStart => exact ⟨0, Nat.zero_le _, rfl, 0, rfl⟩
    case round =>
      obtain ⟨k, hk, rfl, m, hwm⟩ := hrel
      by_cases hlt : k < len
      · have q0 : wr.cell? ⟨b, off + k, none⟩ = some (.int .u8 (Z k)) := by rw [hwm]; exact (hbW.cell hb).trans (hcell k hlt)
        have q1 : wr.cell? ⟨w.heap.size, k, none⟩ = some (.int .u8 (Z k)) := by rw [hwm]; exact hkW k hlt
        have HW : Hid (wr = w5.drewN m) := hwm
        have h0 : (0 : Int) ≤ (k : Int) := by omega
        have h1 : (k : Int) < (len : Int) := by omega
        clear hwm hcell hkW
        go_wp2_with fail
        go_quiet (fail)
        go_wp2_with fail
        go_roundw
        case rel => exact ⟨k + 1, by omega, by go_num, by rw [HW.out]; exact ⟨_, World.drewN_drewN _ _ _⟩⟩
        case measure => simp [intOf]; omega
      · subst hwm
        go_wp2_with fail
        go_meet
        exact ⟨_, rfl⟩
  case rest =>
    obtain ⟨m, rfl⟩ := hcut
    go_wp2_with fail
    go_loopw [7] (fun i wr => ∃ j : Nat, j ≤ n ∧ i = .int .i64 j ∧ ∃ q, wr = w5.drewN q) (fun i _ => n - (intOf i).toNat)
    case atStart => exact ⟨0, Nat.zero_le _, rfl, m, rfl⟩
    case round =>
      obtain ⟨j, hj, rfl, q, hwq⟩ := hrel
      have hbq : Below w.heap.size w wr := by rw [hwq]; exact hbW.trans ⟨rfl, rfl, rfl, Nat.le_refl _, fun _ _ => rfl⟩
      by_cases hjn : j < n
      · have hol : 4 * j + 4 ≤ len := by have := H4.out; omega
        have c0 : wr.cell? ⟨w.heap.size, 4 * j, none⟩ = some (.int .u8 (Z (4 * j))) := by rw [hwq]; exact hkW _ (by omega)
        have c1 : wr.cell? ⟨w.heap.size, 4 * j + 1, none⟩ = some (.int .u8 (Z (4 * j + 1))) := by rw [hwq]; exact hkW _ (by omega)
        have c2 : wr.cell? ⟨w.heap.size, 4 * j + 2, none⟩ = some (.int .u8 (Z (4 * j + 2))) := by rw [hwq]; exact hkW _ (by omega)
        have c3 : wr.cell? ⟨w.heap.size, 4 * j + 3, none⟩ = some (.int .u8 (Z (4 * j + 3))) := by rw [hwq]; exact hkW _ (by omega)
        obtain ⟨f, hf, hff⟩ := hV
        have cv : wr.cell? ⟨w1.heap.size, j, none⟩ = some (.int .u32 (word Z (4 * j))) := by rw [hwq, ← hff j hjn]; exact hf.cell hjn
        have z0 := hZ (4 * j) (by omega)
        have z1 := hZ (4 * j + 1) (by omega)
        have z2 := hZ (4 * j + 2) (by omega)
        have z3 := hZ (4 * j + 3) (by omega)
        have hor : bits .or .u32 (bits .or .u32 (bits .or .u32 (Z (4 * j) * 16777216) (Z (4 * j + 1) * 65536)) (Z (4 * j + 2) * 256)) (Z (4 * j + 3)) = word Z (4 * j) := or_word _ _ _ _ z0 z1 z2 z3
        have HW : Hid (wr = w5.drewN q) := hwq
        have h0 : (0 : Int) ≤ (j : Int) := by omega
        have h1 : (j : Int) < (n : Int) := by omega
        have h2 : (4 : Int) * (j : Int) < (len : Int) := by omega
        have h3 : (4 : Int) * (j : Int) + 1 < (len : Int) := by omega
        have h5 : (4 : Int) * (j : Int) + 2 < (len : Int) := by omega
        have h6 : (4 : Int) * (j : Int) + 3 < (len : Int) := by omega
        clear hwq hcell hkW hf hff hZ hk1
        generalize Z (4 * j) = x0 at c0 z0 hor
        generalize Z (4 * j + 1) = x1 at c1 z1 hor
        generalize Z (4 * j + 2) = x2 at c2 z2 hor
        generalize Z (4 * j + 3) = x3 at c3 z3 hor
        generalize word Z (4 * j) = wd at cv hor
        go_wp2_with fail
        go_quiet (fail)
        go_wp2_with fail
        go_roundw
        case rel => exact ⟨j + 1, by omega, by go_num, by rw [HW.out]; exact ⟨_, World.drewN_drewN _ _ _⟩⟩
        case measure => simp [intOf]; omega
      · clear hwq
        go_wp2_with fail
        go_ret
        exact ⟨rfl, hbq⟩
end Go.Proofs.Ybulkcplm

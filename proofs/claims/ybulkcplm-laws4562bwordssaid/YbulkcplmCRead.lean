import Derived.Test.YbulkcplmASame
import Derived.Deep.OwnRows
import Derived.Deep.MidRow
import Derived.Lib.EndianBits
import Derived.RegionTactic
import Derived.BigRegion
import Derived.Laws.IdiomCopy
namespace Go.Proofs.Ybulkcplm
open Go.ChangeShapes Go.WideShapes Go.ChangeAt Go.RowKit

/-- The number that four octets spell, the greatest first. -/
def word (Z : Nat → Int) (o : Nat) : Int := Z (o + 3) + Z (o + 2) * 256 + Z (o + 1) * 65536 + Z o * 16777216

theorem ret_u32 {a b : Int} (h : a = b) : Ending.returned (.int .u32 a) = Ending.returned (.int .u32 b) := by rw [h]

set_option maxRecDepth 100000 in
set_option maxHeartbeats 400000 in
theorem uint12 (b off m cap o : Nat) (Z : Nat → Int) (w : World) (hm : 4 ≤ m) (hz : ∀ i, i < 4 → 0 ≤ Z (o + i) ∧ Z (o + i) ≤ 255)
    (hc : ∀ i, i < 4 → w.cell? ⟨b, off + i, none⟩ = some (.int .u8 (Z (o + i)))) :
    Calls Yba.prog 12 #[.agg #[], .slice (some ⟨b, off, none⟩) m cap] w fun e w' => e = .returned (.int .u32 (word Z o)) ∧ Below w.heap.size w w' := by
  have hb : b < w.heap.size := World.block_lt_of_cell? _ _ (hc 0 (by omega))
  have c0 : w.cell? ⟨b, off, none⟩ = some (.int .u8 (Z o)) := hc 0 (by omega)
  have c1 := hc 1 (by omega)
  have c2 := hc 2 (by omega)
  have c3 := hc 3 (by omega)
  have z0 : 0 ≤ Z o ∧ Z o ≤ 255 := hz 0 (by omega)
  have z1 := hz 1 (by omega)
  have z2 := hz 2 (by omega)
  have z3 := hz 3 (by omega)
  have HW : Hid (word Z o = Z (o + 3) + Z (o + 2) * 256 + Z (o + 1) * 65536 + Z o * 16777216) := rfl
  have m0 : (0 : Int) < (m : Int) := by omega
  have m1 : (1 : Int) < (m : Int) := by omega
  have m2 : (2 : Int) < (m : Int) := by omega
  have m3 : (3 : Int) < (m : Int) := by omega
  generalize Z o = x0 at *
  generalize Z (o + 1) = x1 at *
  generalize Z (o + 2) = x2 at *
  generalize Z (o + 3) = x3 at *
  generalize word Z o = wd at *
  clear hc hz
  go_enter Yba.func12, Yba.ntmps12
  go_wp2
  go_quiet (fail)
  go_wp2
  go_ret
  refine ⟨ret_u32 ?_, ((Below.refl _ w).alloc (Nat.le_refl _) _).trans ⟨rfl, rfl, rfl, Nat.le_refl _, fun _ _ => rfl⟩⟩
  simp (disch := omega) only [u32_or8, u32_or16, u32_or24]
  exact HW.out.symm

/-- The same number, the greatest octet written first. -/
theorem or_word (x0 x1 x2 x3 : Int) (z0 : 0 ≤ x0 ∧ x0 ≤ 255) (z1 : 0 ≤ x1 ∧ x1 ≤ 255) (z2 : 0 ≤ x2 ∧ x2 ≤ 255) (z3 : 0 ≤ x3 ∧ x3 ≤ 255) :
    bits .or .u32 (bits .or .u32 (bits .or .u32 (x0 * 16777216) (x1 * 65536)) (x2 * 256)) x3 = x3 + x2 * 256 + x1 * 65536 + x0 * 16777216 := by
  rw [bits_join .u32 32 (by decide) wraps_u32 24 (x0 * 16777216) (x1 * 65536) (by omega) (by omega) (by omega) (by omega) (by omega) (by omega),
    bits_join .u32 32 (by decide) wraps_u32 16 (x0 * 16777216 + x1 * 65536) (x2 * 256) (by omega) (by omega) (by omega) (by omega) (by omega) (by omega),
    bits_join .u32 32 (by decide) wraps_u32 8 (x0 * 16777216 + x1 * 65536 + x2 * 256) x3 (by omega) (by omega) (by omega) (by omega) (by omega) (by omega)]
  omega

set_option maxRecDepth 100000 in
set_option maxHeartbeats 400000 in
theorem read11 (b off m cap o : Nat) (Z : Nat → Int) (w : World) (hm : 4 ≤ m) (hz : ∀ i, i < 4 → 0 ≤ Z (o + i) ∧ Z (o + i) ≤ 255)
    (hc : ∀ i, i < 4 → w.cell? ⟨b, off + i, none⟩ = some (.int .u8 (Z (o + i)))) :
    Calls Yba.prog 11 #[.slice (some ⟨b, off, none⟩) m cap] w fun e w' => e = .returned (.int .u32 (word Z o)) ∧ Below w.heap.size w w' := by
  have HC : Hid (∀ i, i < 4 → w.cell? ⟨b, off + i, none⟩ = some (.int .u8 (Z (o + i)))) := hc
  clear hc
  go_enter Yba.func11, Yba.ntmps11
  go_wp2_with fail
  refine (uint12 b off m cap o Z w hm hz HC.out).mono ?_
  rintro e w1 ⟨rfl, hb⟩
  go_wp2_with fail
  go_ret
  exact ⟨rfl, hb⟩
end Go.Proofs.Ybulkcplm

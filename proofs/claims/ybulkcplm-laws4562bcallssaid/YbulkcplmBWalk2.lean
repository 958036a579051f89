import Derived.Test.YbulkcplmBWalk
import Derived.Deep.MidRow
namespace Go.Proofs.Ybulkcplm
open Go.ChangeShapes Go.WideShapes Go.ChangeAt Go.RowKit

theorem Two.at1 {w : World} {B N n len size : Nat} {v1 v2 : Value} {ys : List Value} (h : Two w B N n v1 v2 (lensTo len size n) ys) (hn : 0 < n) :
    ∃ g c, v1 = .slice (some ⟨g, 0, none⟩) n c ∧ ∀ j, j < n → w.cell? ⟨g, j, none⟩ = some (.int .i64 ((len - size * j : Nat) : Int)) := by
  obtain ⟨g, c, rfl, _, _⟩ := h.o1.form hn
  refine ⟨g, c, rfl, fun j hj => ?_⟩
  have := h.o1.cells (g := g) rfl j (.int .i64 ((len - size * j : Nat) : Int)) (by simp [lensTo, hj])
  rwa [Addr.add_mid, Nat.zero_add] at this

theorem Two.at2 {w : World} {B N n size : Nat} {Z : Nat → Int} {v1 v2 : Value} {xs : List Value} (h : Two w B N n v1 v2 xs (firstsTo size Z n)) (hn : 0 < n) :
    ∃ g c, v2 = .slice (some ⟨g, 0, none⟩) n c ∧ ∀ j, j < n → w.cell? ⟨g, j, none⟩ = some (.int .u8 (Z (size * j))) := by
  obtain ⟨g, c, rfl, _, _⟩ := h.o2.form hn
  refine ⟨g, c, rfl, fun j hj => ?_⟩
  have := h.o2.cells (g := g) rfl j (.int .u8 (Z (size * j))) (by simp [firstsTo, hj])
  rwa [Addr.add_mid, Nat.zero_add] at this

set_option maxRecDepth 100000 in
set_option maxHeartbeats 400000 in
theorem walk4_yes (b off len cap size n : Nat) (Z : Nat → Int) (s : Int) (w : World) (hs0 : 0 ≤ s) (hs1 : s ≤ 255) (hsz : s % 9 + 1 = (size : Int)) (hl : len ≤ 4096) (hn : size * n = len) (hpos : 0 < n) (hc : len ≤ cap) (hm : cap ≤ maxLen)
    (hb : b < w.heap.size) (hcell : ∀ i, i < len → w.cell? ⟨b, off + i, none⟩ = some (.int .u8 (Z i))) (hZ : ∀ i, i < len → 0 ≤ Z i ∧ Z i ≤ 255) :
    Calls Yba.prog 4 #[.slice (some ⟨b, off, none⟩) len cap, .int .u8 s] w fun e w' => e = .returned (.bool true) ∧ Below w.heap.size w w' := by
  have hmf : ∀ (fn : Fn) (first cap : Array Value) (w : World), (Instr.makeFunc fn first cap).run Yba.prog w = .ok (.func fn first cap) w := fun _ _ _ _ => rfl
  have hl' : (len : Int) ≤ 4096 := by omega
  have z0 : (0 : Int) < (size : Int) := by omega
  have z1 : (size : Int) ≤ 9 := by omega
  have hnl : n ≤ len := by rw [← hn]; exact Nat.le_mul_of_pos_left n (by omega)
  have HN : Hid (size * n = len) := hn
  clear hn
  go_enter Yba.func4, Yba.ntmps4
  have hcell' : ∀ i, i < len → ((w.alloc (.cells #[.slice none 0 0] 45)).alloc (.cells #[.slice none 0 0] 26)).cell? ⟨b, off + i, none⟩ = some (.int .u8 (Z i)) := fun i hi => by
    rw [World.cell?_alloc_lt _ _ _ (by simp; omega), World.cell?_alloc_lt _ _ _ hb]; exact hcell i hi
  have HC : Hid (∀ i, i < len → ((w.alloc (.cells #[.slice none 0 0] 45)).alloc (.cells #[.slice none 0 0] 26)).cell? ⟨b, off + i, none⟩ = some (.int .u8 (Z i))) := hcell'
  clear hcell'
  go_wp2_with (go_at_call 9; refine (dec9_yes b off len cap w.heap.size size n Z _ HN.out (by omega) hpos (by omega) hl hc hm hb (by simp) HC.out hZ (by simp) (by simp) (by simp) (by simp)).mono ?_; rintro e w5 ⟨rfl, ⟨v1, v2, hT⟩, hV, hbel⟩)
  have hbel5 : Below w.heap.size w w5 := (((Below.refl _ _).alloc (Nat.le_refl _) _).alloc (by simp) _).trans hbel
  obtain ⟨g1, k1, rfl, hl1⟩ := hT.at1 hpos
  obtain ⟨g2, k2, rfl, hl2⟩ := hT.at2 hpos
  have q1 := hT.c1
  have q2 := hT.c2
  obtain ⟨f, hf, hff⟩ := hV
  have hl3 : ∀ j, j < n → w5.cell? ⟨w.heap.size + 2, j, none⟩ = some (.int .i64 (((len - size * j : Nat) : Int) * 256 + Z (size * j))) := fun j hj => by rw [hf.cell hj, hff j hj]
  clear hT hf hff hbel HC
  have hn1 : (n : Int) ≤ 4096 := by omega
  go_loop [11] (fun i => ∃ k : Nat, i = .int .i64 k ∧ k ≤ n) (fun i => n - (intOf i).toNat)
  case atStart => exact ⟨0, rfl, by omega⟩
  case round =>
    obtain ⟨k, rfl, hkn⟩ := hrel
    obtain ⟨o, ho⟩ : ∃ o, o = k * size := ⟨_, rfl⟩
    have em : (k : Int) * (size : Int) = (o : Int) := by rw [ho]; simp
    have hol : o ≤ len := by rw [ho, ← HN.out, Nat.mul_comm]; exact Nat.mul_le_mul_left _ hkn
    by_cases hlt : k < n
    · have hol2 : o < len := by rw [ho, ← HN.out, Nat.mul_comm]; exact Nat.mul_lt_mul_of_pos_left hlt (by omega)
      clear ho
      go_wp2_with fail
      go_round
      case rel => exact ⟨k + 1, by go_num, by omega⟩
      case measure => simp [intOf]; omega
    · obtain rfl : k = n := by omega
      have hoe : len = o := by rw [ho, ← HN.out, Nat.mul_comm]
      subst hoe
      clear ho
      have hp : (0 : Int) < (len : Int) := by omega
      go_wp2_with fail
      go_loopw [13] (fun i wr => ∃ j : Nat, j ≤ k ∧ i = .int .i64 j ∧ ∃ m, wr = w5.drewN m) (fun i _ => k - (intOf i).toNat)
      case atStart => exact ⟨0, Nat.zero_le _, rfl, 0, rfl⟩
      case round =>
        obtain ⟨j, hj, rfl, m, hwm⟩ := hrel
        by_cases hjk : j < k
        · obtain ⟨o, ho⟩ : ∃ o, o = size * j := ⟨_, rfl⟩
          have hol : o < len := by rw [ho, ← HN.out]; exact Nat.mul_lt_mul_of_pos_left hjk (by omega)
          have em2 : (size : Int) * (j : Int) = (o : Int) := by rw [ho]; simp
          have hz := hZ o hol
          have es : ((len - o : Nat) : Int) = (len : Int) - (o : Int) := by omega
          have r1 : wr.cell? ⟨g1, j, none⟩ = some (.int .i64 ((len : Int) - (o : Int))) := by rw [hwm, ← es, ho]; exact hl1 j hjk
          have r2 : wr.cell? ⟨g2, j, none⟩ = some (.int .u8 (Z o)) := by rw [hwm, ho]; exact hl2 j hjk
          have r3 : wr.cell? ⟨w.heap.size + 2, j, none⟩ = some (.int .i64 (((len : Int) - (o : Int)) * 256 + Z o)) := by rw [hwm, ← es, ho]; exact hl3 j hjk
          have r4 : wr.cell? ⟨b, off + o, none⟩ = some (.int .u8 (Z o)) := by rw [hwm]; exact (hbel5.cell hb).trans (hcell o hol)
          have r5 : wr.cell? ⟨w.heap.size, 0, none⟩ = some (.slice (some ⟨g1, 0, none⟩) k k1) := by rw [hwm]; exact q1
          have r6 : wr.cell? ⟨w.heap.size + 1, 0, none⟩ = some (.slice (some ⟨g2, 0, none⟩) k k2) := by rw [hwm]; exact q2
          have HW : Hid (wr = w5.drewN m) := hwm
          have h0 : (0 : Int) ≤ (j : Int) := by omega
          have h1 : (j : Int) < (k : Int) := by omega
          have h2 : (0 : Int) ≤ (o : Int) := by omega
          have h3 : (o : Int) < (len : Int) := by omega
          clear hwm ho es hl1 hl2 hl3 hcell hZ q1 q2
          go_wp2_with fail
          go_quiet (fail)
          go_wp2_with fail
          go_roundw
          case rel => exact ⟨j + 1, by omega, by go_num, by rw [HW.out]; exact ⟨_, World.drewN_drewN _ _ _⟩⟩
          case measure => simp [intOf]; omega
        · subst hwm
          go_wp2_with fail
          go_ret
          exact ⟨rfl, hbel5.trans ⟨rfl, rfl, rfl, Nat.le_refl _, fun _ _ => rfl⟩⟩
end Go.Proofs.Ybulkcplm

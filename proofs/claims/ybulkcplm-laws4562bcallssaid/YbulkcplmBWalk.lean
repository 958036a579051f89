import Derived.Test.YbulkcplmBDec
namespace Go.Proofs.Ybulkcplm
open Go.ChangeShapes Go.WideShapes Go.ChangeAt Go.RowKit

set_option maxRecDepth 100000 in
set_option maxHeartbeats 400000 in
theorem walk4_big (a : Option Addr) (len cap : Nat) (s : Int) (w : World) (hbig : 4096 < len) :
    Calls Yba.prog 4 #[.slice a len cap, .int .u8 s] w fun e w' => e = .returned (.bool true) ∧ Below w.heap.size w w' := by
  go_enter Yba.func4, Yba.ntmps4
  go_wp2
  go_ret
  exact ⟨rfl, Below.refl _ _⟩

set_option maxRecDepth 100000 in
set_option maxHeartbeats 400000 in
theorem walk4_no (a : Option Addr) (len cap size : Nat) (s : Int) (w : World) (hs0 : 0 ≤ s) (hs1 : s ≤ 255) (hsz : s % 9 + 1 = (size : Int)) (hl : len ≤ 4096) (h : len = 0 ∨ ¬ size ∣ len) :
    Calls Yba.prog 4 #[.slice a len cap, .int .u8 s] w fun e w' => e = .returned (.bool true) ∧ Below w.heap.size w w' := by
  have hmf : ∀ (fn : Fn) (first cap : Array Value) (w : World), (Instr.makeFunc fn first cap).run Yba.prog w = .ok (.func fn first cap) w := fun _ _ _ _ => rfl
  have hl' : (len : Int) ≤ 4096 := by omega
  have hnil := fun (wu : World) => Lib.run_eql_slice_nil (P := Yba.prog) wu 45 3 none 0 0 0 0 Yba.underlying45
  have z0 : (0 : Int) < (size : Int) := by omega
  have z1 : (size : Int) ≤ 9 := by omega
  have HH : Hid (len = 0 ∨ (len : Int) % (size : Int) ≠ 0) := by
    rcases h with h | h
    · exact .inl h
    · exact .inr fun e => h (by exact Nat.dvd_of_mod_eq_zero (by omega))
  have HD : Hid (len = 0 ∨ ¬ size ∣ len) := h
  clear h
  go_enter Yba.func4, Yba.ntmps4
  go_wp2_with (go_at_call 9; refine (dec9_no a len cap size _ _ z0 z1 hl HH.out).mono ?_; rintro e w' ⟨rfl, rfl⟩)
  go_loop [11] (fun i => ∃ k : Nat, i = .int .i64 k ∧ k ≤ len ∧ k * size < len + size) (fun i => len + 1 - (intOf i).toNat)
  case atStart => exact ⟨0, rfl, by omega, by omega⟩
  case round =>
    obtain ⟨k, rfl, hkl, hk⟩ := hrel
    obtain ⟨o, ho⟩ : ∃ o, o = k * size := ⟨_, rfl⟩
    have em : (k : Int) * (size : Int) = (o : Int) := by rw [ho]; simp
    have hos : (k + 1) * size = o + size := by rw [ho, Nat.add_mul, Nat.one_mul]
    have hko : k ≤ o := by rw [ho]; exact Nat.le_mul_of_pos_right k (by omega)
    rw [← ho] at hk
    have hk' : (o : Int) ≤ 4105 := by omega
    have HO : Hid (o = k * size) := ho
    have HS : Hid ((k + 1) * size = o + size) := hos
    clear ho hos
    by_cases hlt : o < len
    · go_wp2_with fail
      go_round
      case rel => exact ⟨k + 1, by go_num, by omega, by rw [HS.out]; omega⟩
      case measure => simp [intOf]; omega
    · by_cases hz : len = 0
      · subst hz
        go_wp2_with fail
        go_ret
        exact ⟨rfl, ((Below.refl _ _).alloc (Nat.le_refl _) _).alloc (by simp) _⟩
      · have hne : ((o : Int) == (len : Int)) = false := by
          simp
          intro e
          refine (HD.out.resolve_left hz) ⟨k, ?_⟩
          rw [Nat.mul_comm, ← HO.out]; omega
        have hp : (0 : Int) < (len : Int) := by omega
        go_wp2_with fail
        go_ret
        exact ⟨rfl, ((Below.refl _ _).alloc (Nat.le_refl _) _).alloc (by simp) _⟩
end Go.Proofs.Ybulkcplm

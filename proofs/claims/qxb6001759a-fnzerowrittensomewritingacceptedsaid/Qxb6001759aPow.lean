import Derived.Test.Qxb6001759aRows
import Derived.WalkKit
import Derived.WalkSpells
import Derived.WalkLawsBesides
namespace Go.Proofs.Qxb6001759a
open Go.RowKit
set_option linter.unusedVariables false

theorem ret_int {k : IntKind} {a b : Int} (h : a = b) : Ending.returned (.int k a) = .returned (.int k b) := by rw [h]
theorem ret_bool {a b : Bool} (h : a = b) : Ending.returned (.bool a) = .returned (.bool b) := by rw [h]

/-- Ten to the k. -/
def pw : Nat → Int
  | 0 => 1
  | k + 1 => pw k * 10

theorem pw_pos : ∀ k, 1 ≤ pw k
  | 0 => Int.le_refl _
  | k + 1 => by have := pw_pos k; rw [pw]; omega

theorem pw_le (a : Nat) : ∀ d, pw a ≤ pw (a + d)
  | 0 => Int.le_refl _
  | d + 1 => by have := pw_le a d; have := pw_pos (a + d); rw [← Nat.add_assoc, pw]; omega

theorem pw_17 : pw 17 = 100000000000000000 := by simp [pw]

theorem pw_max (k : Nat) (h : k ≤ 17) : pw k ≤ 100000000000000000 := by
  have := pw_le k (17 - k)
  rwa [show k + (17 - k) = 17 by omega, pw_17] at this

set_option maxHeartbeats 400000 in
theorem pow10_any (n : Nat) (w : World) (hn : n ≤ 18) :
    Calls Try.prog 15 #[.int .i64 (n : Int)] w fun e w' => e = .returned (.int .i64 (pw n)) ∧ w' = w := by
  go_enter Try.func15, Try.ntmps15
  go_wp2
  go_loop [3, 5] (fun p t => ∃ k : Nat, k ≤ n ∧ t = .int .i64 k ∧ p = .int .i64 (pw k)) (fun _ t => n - (intOf t).toNat)
  case atStart => exact ⟨0, Nat.zero_le _, rfl, rfl⟩
  case round =>
    obtain ⟨k, hk, rfl, rfl⟩ := hrel
    by_cases hlt : k < n
    · have hlt' : (k : Int) < (n : Int) := by omega
      have p0 := pw_pos k
      have p1 := pw_max k (by omega)
      go_wp2
      go_round
      case rel => exact ⟨k + 1, by omega, by go_num, rfl⟩
      case measure => simp [intOf]; omega
    · obtain rfl : k = n := by omega
      go_wp2
      go_ret
      exact ⟨rfl, rfl⟩

set_option maxHeartbeats 400000 in
theorem zzPow10_any (n : Nat) (w : World) (hn : n ≤ 18) :
    Calls Try.prog 13 #[.int .i64 (n : Int)] w fun e w' => e = .returned (.int .i64 (pw n)) ∧ w' = w := by
  go_enter Try.func13, Try.ntmps13
  go_wp2_with (go_at_call 15; refine (pow10_any n w hn).mono ?_; rintro e w1 ⟨rfl, rfl⟩)
  go_ret
  exact ⟨rfl, rfl⟩

set_option maxHeartbeats 400000 in
theorem walk6 (a0 : Int) (w : World) : Calls Try.prog 6 #[.int .i64 a0] w fun e w' => e = .returned (.bool true) ∧ w' = w := by
  by_cases h0 : a0 < 0
  · go_enter Try.func6, Try.ntmps6
    go_wp2
    go_ret
    exact ⟨rfl, rfl⟩
  by_cases h1 : 18 < a0
  · have h0' : 0 ≤ a0 := by omega
    clear h0
    go_enter Try.func6, Try.ntmps6
    go_wp2
    go_ret
    exact ⟨rfl, rfl⟩
  obtain ⟨n, rfl⟩ := Int.eq_ofNat_of_zero_le (show 0 ≤ a0 by omega)
  have hn : n ≤ 18 := by omega
  have hn' : (n : Int) ≤ 18 := by omega
  clear h0 h1
  go_enter Try.func6, Try.ntmps6
  go_wp2_with fail
  refine (zzPow10_any n w hn).mono ?_
  rintro e w1 ⟨rfl, hw⟩
  subst hw
  go_wp2
  go_loop [3, 4] (fun p t => ∃ k m : Nat, k + m = n ∧ t = .int .i64 k ∧ p = .int .i64 (pw m)) (fun _ t => n - (intOf t).toNat)
  case atStart => exact ⟨0, n, by omega, rfl, rfl⟩
  case round =>
    obtain ⟨k, m, hk, rfl, rfl⟩ := hrel
    match m, hk with
    | 0, hk =>
      have hk' : (n : Int) ≤ (k : Int) := by omega
      rw [show pw 0 = 1 from rfl]
      clear hk
      go_wp2
      go_ret
      exact ⟨rfl, rfl⟩
    | m + 1, hk =>
      have hk' : (k : Int) < (n : Int) := by omega
      have Hk : Hid (k + (m + 1) = n) := hk
      have p0 := pw_pos m
      have p1 := pw_max m (by omega)
      clear hk
      rw [show pw (m + 1) = pw m * 10 from rfl]
      have r0 : (pw m * 10 % 10 != 0) = false := by simp
      have q0 : pw m * 10 / 10 = pw m := by omega
      go_wp2
      go_round
      case rel => exact ⟨k + 1, m, by have := Hk.out; omega, by go_num, rfl⟩
      case measure => have := Hk.out; simp [intOf]; omega

end Go.Proofs.Qxb6001759a

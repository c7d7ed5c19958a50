import Derived.Test.Qxb6608945aW1
import Derived.OpenShut
import Derived.ProofKit
namespace Go.Proofs.Qxb6608945a
open Go.RowKit Go.ChangeShapes Go.WideShapes

set_option maxHeartbeats 400000 in
/-- zzClassWant: 4096 doubled n times. -/
theorem classWant_any (n : Nat) (w : World) (hn : n ≤ 13) :
    Calls Try.prog 12 #[.int .i64 n] w fun e w' => e = .returned (.int .i64 (2 ^ (12 + n))) ∧ w' = w := by
  go_enter Try.func12, Try.ntmps12
  go_wp2
  go_loop [3, 4] (fun c j => ∃ k : Nat, k ≤ n ∧ j = .int .i64 k ∧ c = .int .i64 (2 ^ (12 + k))) (fun _ j => n - (intOf j).toNat)
  case atStart => exact ⟨0, Nat.zero_le _, rfl, rfl⟩
  case round =>
    obtain ⟨k, hk, rfl, rfl⟩ := hrel
    obtain ⟨b1, b2, _⟩ := cap_bd k (by omega)
    by_cases hlt : k < n
    · have hs : Hid ((2 : Int) ^ (12 + k) * 2 = 2 ^ (12 + (k + 1))) := by
        show _ = _
        rw [show 12 + (k + 1) = 12 + k + 1 by omega, Int.pow_succ]
      generalize hg : (2 : Int) ^ (12 + k) = c at *
      have HG : Hid ((2 : Int) ^ (12 + k) = c) := hg
      clear hg
      go_wp2
      go_round
      case rel => exact ⟨k + 1, by omega, by go_num, by rw [← hs.out]⟩
      case measure => simp [intOf]; omega
    · go_wp2
      go_ret
      exact ⟨ret_int (by rw [show k = n by omega]), rfl⟩

theorem poolA (n : Nat) (c : Int) (w : World) (hn : n ≤ 13) (hc : (2 : Int) ^ (12 + n) = c) :
    Calls Try.prog 9 #[.int .i64 c] w fun e w' => e = .returned (.tuple #[.int .i64 n, .bool true]) ∧ w' = w := by
  subst hc
  obtain ⟨b1, b2, _⟩ := cap_bd n hn
  exact zzPool_mid _ n w b1 b2 hn (bits_cap n hn).1

theorem poolB (n : Nat) (c : Int) (w : World) (hn : n ≤ 13) (hc : (2 : Int) ^ (12 + n) = c) :
    Calls Try.prog 9 #[.int .i64 (c - 1)] w fun e w' => e = .returned (.tuple #[.int .i64 n, .bool (decide (1 ≤ (n : Int)))]) ∧ w' = w := by
  subst hc
  obtain ⟨b1, b2, b3⟩ := cap_bd n hn
  refine (zzPool_pos _ (12 + n) w (by omega) (by omega) (bits_cap n hn).2.1).mono fun e w' ⟨he, hw⟩ => ⟨?_, hw⟩
  rw [he, show ((12 + n : Nat) : Int) - 12 = n by omega, decide_eq_true (show 12 + n ≤ 25 by omega), Bool.and_true]
  by_cases h : 1 ≤ n
  · have := b3 h
    rw [decide_eq_true (show (4096 : Int) ≤ 2 ^ (12 + n) - 1 by omega), decide_eq_true (show 1 ≤ (n : Int) by omega)]
  · have h0 : n = 0 := by omega
    subst h0
    rfl

theorem poolC (n : Nat) (c : Int) (w : World) (hn : n ≤ 13) (hc : (2 : Int) ^ (12 + n) = c) :
    Calls Try.prog 9 #[.int .i64 (c + 1)] w fun e w' => e = .returned (.tuple #[.int .i64 ((n : Int) + 1), .bool (decide ((n : Int) < 13))]) ∧ w' = w := by
  subst hc
  obtain ⟨b1, b2, b3⟩ := cap_bd n hn
  refine (zzPool_pos _ (13 + n) w (by omega) (by omega) (bits_cap n hn).2.2).mono fun e w' ⟨he, hw⟩ => ⟨?_, hw⟩
  rw [he, show ((13 + n : Nat) : Int) - 12 = n + 1 by omega, decide_eq_true (show (4096 : Int) ≤ 2 ^ (12 + n) + 1 by omega), Bool.true_and]
  rw [show decide (13 + n ≤ 25) = decide ((n : Int) < 13) from decide_eq_decide.2 (by omega)]

theorem classCap_n (n : Nat) (c : Int) (w : World) (hn : n ≤ 13) (hc : (2 : Int) ^ (12 + n) = c) :
    Calls Try.prog 10 #[.int .i64 n] w fun e w' => e = .returned (.int .i64 c) ∧ w' = w := by
  refine (zzClassCap_any n w (by omega) (by omega)).mono fun e w' ⟨he, hw⟩ => ⟨?_, hw⟩
  rw [he, show (12 + (n : Int)).toNat = 12 + n by omega, hc]

theorem classWant_n (n : Nat) (c : Int) (w : World) (hn : n ≤ 13) (hc : (2 : Int) ^ (12 + n) = c) :
    Calls Try.prog 12 #[.int .i64 n] w fun e w' => e = .returned (.int .i64 c) ∧ w' = w := by
  subst hc; exact classWant_any n w hn

set_option maxHeartbeats 400000 in
theorem walkBounds (a0 : Int) (w : World) :
    Calls Try.prog 5 #[.int .i64 a0] w fun e w' => e = .returned (.bool true) ∧ Grown w w' := by

  by_cases h0 : a0 < 0
  · go_enter Try.func5, Try.ntmps5
    go_wp2
    go_ret
    exact ⟨rfl, Grown.refl _⟩
  by_cases h1 : 13 < a0
  · go_enter Try.func5, Try.ntmps5
    go_wp2
    go_ret
    exact ⟨rfl, Grown.refl _⟩
  obtain ⟨n, rfl⟩ := Int.eq_ofNat_of_zero_le (show 0 ≤ a0 by omega)
  have hn : n ≤ 13 := by omega
  clear h0 h1
  obtain ⟨b1, b2, _⟩ := cap_bd n hn
  generalize hc : (2 : Int) ^ (12 + n) = c at *
  have HC : Hid ((2 : Int) ^ (12 + n) = c) := hc
  clear hc
  go_enter Try.func5, Try.ntmps5
  go_wp2_with fail
  refine (classCap_n n c _ hn HC.out).mono ?_
  rintro e w' ⟨rfl, rfl⟩
  go_wp2_with fail
  refine (classWant_n n c _ hn HC.out).mono ?_
  rintro e w' ⟨rfl, rfl⟩
  go_wp2_with fail
  refine (poolA n c _ hn HC.out).mono ?_
  rintro e w' ⟨rfl, rfl⟩
  go_wp2_with fail
  refine (poolB n c _ hn HC.out).mono ?_
  rintro e w' ⟨rfl, rfl⟩
  go_wp2_with fail
  refine (poolC n c _ hn HC.out).mono ?_
  rintro e w' ⟨rfl, rfl⟩
  go_wp2_with fail
  all_goals go_ret
  all_goals exact ⟨rfl, Grown.refl _⟩
end Go.Proofs.Qxb6608945a

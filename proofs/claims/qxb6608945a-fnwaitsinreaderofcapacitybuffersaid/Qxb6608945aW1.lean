import Derived.Test.Qxb6608945aLens
import Derived.Test.Qxb6608945aPlain
import Derived.WalkKit
import Derived.WalkSpells
import Derived.WalkLawsBesides
namespace Go.Proofs.Qxb6608945a
open Go.RowKit

theorem ret_int {k : IntKind} {a b : Int} (h : a = b) : Ending.returned (.int k a) = .returned (.int k b) := by rw [h]
theorem ret_int_bool {k : IntKind} {a b : Int} {c d : Bool} (h : a = b) (h' : c = d) : Ending.returned (.tuple #[.int k a, .bool c]) = .returned (.tuple #[.int k b, .bool d]) := by rw [h, h']

theorem wrap_pow (i : Int) (h0 : 0 ≤ i) (h1 : i ≤ 13) : wrap64 (2 ^ (12 + i).toNat) = 2 ^ (12 + i).toNat := by
  obtain ⟨n, rfl⟩ := Int.eq_ofNat_of_zero_le h0
  have hn : n ≤ 13 := by omega
  have : ∀ m : Fin 14, wrap64 (2 ^ (12 + (m.val : Int)).toNat) = 2 ^ (12 + (m.val : Int)).toNat := by decide +kernel
  exact this ⟨n, by omega⟩

set_option maxHeartbeats 400000 in
theorem classCap_any (i : Int) (w : World) (h0 : 0 ≤ i) (h1 : i ≤ 13) :
    Calls Try.prog 18 #[.int .i64 i] w fun e w' => e = .returned (.int .i64 (2 ^ (12 + i).toNat)) ∧ w' = w := by
  go_enter Try.func18, Try.ntmps18
  go_wp2
  go_ret
  exact ⟨ret_int (wrap_pow i h0 h1), rfl⟩

set_option maxHeartbeats 400000 in
theorem zzClassCap_any (i : Int) (w : World) (h0 : 0 ≤ i) (h1 : i ≤ 13) :
    Calls Try.prog 10 #[.int .i64 i] w fun e w' => e = .returned (.int .i64 (2 ^ (12 + i).toNat)) ∧ w' = w := by
  go_enter Try.func10, Try.ntmps10
  go_wp2_with (go_at_call 18; refine (classCap_any _ _ (by omega) (by omega)).mono ?_; rintro e w' ⟨rfl, rfl⟩)
  go_ret
  exact ⟨rfl, rfl⟩

set_option maxHeartbeats 400000 in
/-- 'poolOf' from 1 on. -/
theorem pool_pos (a : Int) (L : Nat) (w : World) (h0 : 1 ≤ a) (h1 : a ≤ 9223372036854775807) (hL : Lib.bitLen (a - 1).toNat = L) :
    Calls Try.prog 17 #[.int .i64 a] w fun e w' => e = .returned (.tuple #[.int .i64 ((L : Int) - 12), .bool (decide (4096 ≤ a) && decide (L ≤ 25))]) ∧ w' = w := by
  have hle : L ≤ 64 := by rw [← hL]; exact bitLen_le64 _ (by omega)
  have HL : Hid (Lib.bitLen (a - 1).toNat = L) := hL
  clear hL
  go_enter Try.func17, Try.ntmps17
  go_wp2_with (go_at_call 22; refine (Try.bits_Len _ _ (by omega) (by omega)).mono ?_; rintro e w' ⟨rfl, rfl⟩; rw [HL.out])
  · go_ret2
    exact ⟨ret_int_bool rfl (by simp [*]; omega), rfl⟩
  · go_ret2
    exact ⟨ret_int_bool rfl (by simp [*]; omega), rfl⟩

theorem wrapu_bd (x : Int) : 0 ≤ IntKind.u64.wrap x ∧ IntKind.u64.wrap x ≤ 18446744073709551615 := by
  simp only [IntKind.wrap, IntKind.bits, IntKind.signed]
  simp
  omega

theorem len_any (x : Int) (w : World) (h : 0 ≤ x ∧ x ≤ 18446744073709551615) :
    Calls Try.prog 22 #[.int .u64 x] w fun e w' => (∃ L : Nat, L ≤ 64 ∧ e = .returned (.int .i64 L)) ∧ w' = w :=
  (Try.bits_Len x w h.1 h.2).mono fun e w' ⟨he, hw⟩ => ⟨⟨_, bitLen_le64 _ (by omega), he⟩, hw⟩

set_option maxHeartbeats 400000 in
/-- 'poolOf' at nought and below: no pool, whatever the index. -/
theorem pool_neg (a : Int) (w : World) (h0 : a ≤ 0) (h1 : -9223372036854775808 ≤ a) :
    Calls Try.prog 17 #[.int .i64 a] w fun e w' => (∃ s : Int, e = .returned (.tuple #[.int .i64 s, .bool false])) ∧ w' = w := by
  go_enter Try.func17, Try.ntmps17
  go_wp2_with (go_at_call 22; refine (len_any _ _ (wrapu_bd _)).mono ?_; rintro e w' ⟨⟨L, hL, rfl⟩, rfl⟩)
  · go_ret2
    exact ⟨⟨_, rfl⟩, rfl⟩

set_option maxHeartbeats 400000 in
theorem zzPool_pos (a : Int) (L : Nat) (w : World) (h0 : 1 ≤ a) (h1 : a ≤ 9223372036854775807) (hL : Lib.bitLen (a - 1).toNat = L) :
    Calls Try.prog 9 #[.int .i64 a] w fun e w' => e = .returned (.tuple #[.int .i64 ((L : Int) - 12), .bool (decide (4096 ≤ a) && decide (L ≤ 25))]) ∧ w' = w := by
  have HL : Hid (Lib.bitLen (a - 1).toNat = L) := hL
  clear hL
  go_enter Try.func9, Try.ntmps9
  go_wp2_with (go_at_call 17; refine (pool_pos a L _ h0 h1 HL.out).mono ?_; rintro e w' ⟨rfl, rfl⟩)
  go_ret2
  exact ⟨rfl, rfl⟩

set_option maxHeartbeats 400000 in
theorem zzPool_neg (a : Int) (w : World) (h0 : a ≤ 0) (h1 : -9223372036854775808 ≤ a) :
    Calls Try.prog 9 #[.int .i64 a] w fun e w' => (∃ s : Int, e = .returned (.tuple #[.int .i64 s, .bool false])) ∧ w' = w := by
  go_enter Try.func9, Try.ntmps9
  go_wp2_with (go_at_call 17; refine (pool_neg a _ h0 h1).mono ?_; rintro e w' ⟨⟨s, rfl⟩, rfl⟩)
  go_ret2
  exact ⟨⟨_, rfl⟩, rfl⟩

/-- Below the pooled range: no pool, whatever the index. -/
theorem zzPool_lo (a : Int) (w : World) (h0 : a < 4096) (h1 : -9223372036854775808 ≤ a) :
    Calls Try.prog 9 #[.int .i64 a] w fun e w' => (∃ s : Int, e = .returned (.tuple #[.int .i64 s, .bool false])) ∧ w' = w := by
  by_cases h : a ≤ 0
  · exact zzPool_neg a w h h1
  · refine (zzPool_pos a _ w (by omega) (by omega) rfl).mono fun e w' ⟨he, hw⟩ => ⟨⟨((Lib.bitLen (a - 1).toNat : Nat) : Int) - 12, ?_⟩, hw⟩
    rw [he, decide_eq_false (show ¬ 4096 ≤ a by omega), Bool.false_and]

/-- In it: the class. -/
theorem zzPool_mid (a : Int) (k : Nat) (w : World) (h0 : 4096 ≤ a) (h1 : a ≤ 33554432) (hk : k ≤ 13) (hL : Lib.bitLen (a - 1).toNat = 12 + k) :
    Calls Try.prog 9 #[.int .i64 a] w fun e w' => e = .returned (.tuple #[.int .i64 k, .bool true]) ∧ w' = w := by
  refine (zzPool_pos a _ w (by omega) (by omega) hL).mono fun e w' ⟨he, hw⟩ => ⟨?_, hw⟩
  rw [he, decide_eq_true h0, decide_eq_true (show 12 + k ≤ 25 by omega), show ((12 + k : Nat) : Int) - 12 = k by omega]
  rfl

/-- Above it: none. -/
theorem zzPool_hi (a : Int) (w : World) (h0 : 33554432 < a) (h1 : a ≤ 9223372036854775807) :
    Calls Try.prog 9 #[.int .i64 a] w fun e w' => (∃ s : Int, e = .returned (.tuple #[.int .i64 s, .bool false])) ∧ w' = w := by
  have := shift_hi a h0 h1
  refine (zzPool_pos a _ w (by omega) (by omega) rfl).mono fun e w' ⟨he, hw⟩ => ⟨⟨((Lib.bitLen (a - 1).toNat : Nat) : Int) - 12, ?_⟩, hw⟩
  rw [he, decide_eq_false (show ¬ Lib.bitLen (a - 1).toNat ≤ 25 by omega), Bool.and_false]

end Go.Proofs.Qxb6608945a

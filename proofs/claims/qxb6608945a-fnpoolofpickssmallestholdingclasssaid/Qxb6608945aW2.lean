import Derived.Test.Qxb6608945aW1
import Derived.OpenShut
import Derived.ProofKit
namespace Go.Proofs.Qxb6608945a
open Go.RowKit Go.ChangeShapes Go.WideShapes

set_option maxHeartbeats 400000 in
theorem walkPicks (a0 : Int) (w0 : (Lit.int .i64 a0).wf = true) (w : World) :
    Calls Try.prog 3 #[.int .i64 a0] w fun e w' => e = .returned (.bool true) ∧ Grown w w' := by
  have hb : -9223372036854775808 ≤ a0 ∧ a0 ≤ 9223372036854775807 := bounds_i64 w0
  obtain ⟨b0, b1⟩ := hb
  clear w0
  by_cases hlo : a0 < 4096
  · go_enter Try.func3, Try.ntmps3
    go_wp2_with (go_at_call 9; refine (zzPool_lo a0 _ hlo b0).mono ?_; rintro e w' ⟨⟨s, rfl⟩, rfl⟩)
    go_ret
    exact ⟨rfl, Grown.refl _⟩
  by_cases hhi : 33554432 < a0
  · go_enter Try.func3, Try.ntmps3
    go_wp2_with (go_at_call 9; refine (zzPool_hi a0 _ hhi b1).mono ?_; rintro e w' ⟨⟨s, rfl⟩, rfl⟩)
    go_ret
    exact ⟨rfl, Grown.refl _⟩
  obtain ⟨k, hk, hL, hle, hlt⟩ := shift_mid a0 (by omega) (by omega)
  have HL : Hid (Lib.bitLen (a0 - 1).toNat = 12 + k) := hL
  clear hL
  have h4 : 4096 ≤ a0 := by omega
  have h5 : a0 ≤ 33554432 := by omega
  clear hlo hhi
  have hle' : a0 ≤ 2 ^ (12 + (k : Int)).toNat := by rw [show (12 + (k : Int)).toNat = 12 + k by omega]; exact hle
  by_cases hk0 : k = 0
  · subst hk0
    go_enter Try.func3, Try.ntmps3
    go_wp2_with (first
      | (go_at_call 9; refine (zzPool_mid a0 0 _ h4 h5 hk HL.out).mono ?_; rintro e w' ⟨rfl, rfl⟩)
      | (go_at_call 10; refine (zzClassCap_any _ _ (by omega) (by omega)).mono ?_; rintro e w' ⟨rfl, rfl⟩))
    go_ret
    exact ⟨rfl, Grown.refl _⟩
  · have hlt' : (2 : Int) ^ (12 + (k - 1)) < a0 := by rw [show 12 + (k - 1) = 11 + k by omega]; exact hlt
    have hkp : (0 : Int) < k := by omega
    go_enter Try.func3, Try.ntmps3
    go_wp2_with (first
      | (go_at_call 9; refine (zzPool_mid a0 k _ h4 h5 hk HL.out).mono ?_; rintro e w' ⟨rfl, rfl⟩)
      | (go_at_call 10; refine (zzClassCap_any _ _ (by omega) (by omega)).mono ?_; rintro e w' ⟨rfl, rfl⟩))
    go_ret
    exact ⟨rfl, Grown.refl _⟩

end Go.Proofs.Qxb6608945a

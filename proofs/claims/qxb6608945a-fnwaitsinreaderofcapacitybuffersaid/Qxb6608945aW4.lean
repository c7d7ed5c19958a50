import Derived.Test.Qxb6608945aW3
import Derived.OpenShut
import Derived.ProofKit
namespace Go.Proofs.Qxb6608945a
open Go.RowKit Go.ChangeShapes Go.WideShapes

theorem assert_nil (w : World) : (Instr.typeAssert .nilIface 35 29 true).run Try.prog w = .ok (.tuple #[.pointer none, .bool false]) w := by kernel_rfl

theorem make_max (c : Int) (m : Nat) (h1 : c ≤ 65536) (hm : max c 16 = (m : Int)) :
    ∃ cs : Array Value, ∀ wx : World, (Instr.makeSlice 37 (.int .i64 (max c 16)) (.int .i64 (max c 16))).run Try.prog wx = .ok (.slice (some ⟨wx.heap.size, 0, none⟩) m m) (wx.alloc (.cells cs 5)) := by
  rw [hm]
  have h2 : (m : Int) ≤ 65536 := by omega
  obtain ⟨i, hi, hz, hb⟩ : ∃ i, Try.prog.info? 5 = some i ∧ i.zero = some (.int .u8 0) ∧ i.bytes = 1 := ⟨_, rfl, rfl, rfl⟩
  refine ⟨madeCells (Value.int .u8 0).cells (m * i.size), fun wx => ?_⟩
  have := run_make (P := Try.prog) wx 37 5 i _ Try.underlying37 hi hz .i64 .i64 m m (by omega) (by omega) (by rw [hb]; omega) (by omega)
  simp only [Int.toNat_natCast] at this
  exact this

set_option maxHeartbeats 400000 in
/-- ZZwaitsInReaderOfSize at whatever size: the reader's buffer has max(c, 16) bytes. -/
theorem waits_any (c s : Int) (m : Nat) (w : World) (h1 : c ≤ 65536) (hm : max c 16 = (m : Int)) :
    Calls Try.prog 16 #[.int .i64 c, .int .i64 s] w fun e w' => e = .returned (.bool (decide (s ≤ (m : Int)))) ∧ Grown w w' := by
  obtain ⟨cs, hmk⟩ := make_max c m h1 hm
  clear hm
  have hta := assert_nil
  go_enter Try.func16, Try.ntmps16
  go_wp2
  go_end0
  go_wp2
  go_ret
  exact ⟨rfl, ((Grown.refl _).alloc _ _).alloc _ _⟩

theorem Grown_trans {a b c : World} (h : Grown a b) (k : Grown b c) : Grown a c :=
  ⟨World.keptBut_trans h.1 (World.keptBut_mono (fun _ f => f) k.1), fun x => (k.2.1 x).trans (h.2.1 x), Nat.le_trans h.2.2 k.2.2⟩

/-- poolOf below the pooled range. -/
theorem pool_lo (a : Int) (w : World) (h0 : a < 4096) (h1 : -9223372036854775808 ≤ a) :
    Calls Try.prog 17 #[.int .i64 a] w fun e w' => (∃ s : Int, e = .returned (.tuple #[.int .i64 s, .bool false])) ∧ w' = w := by
  by_cases h : a ≤ 0
  · exact pool_neg a w h h1
  · refine (pool_pos a _ w (by omega) (by omega) rfl).mono fun e w' ⟨he, hw⟩ => ⟨⟨((Lib.bitLen (a - 1).toNat : Nat) : Int) - 12, ?_⟩, hw⟩
    rw [he, decide_eq_false (show ¬ 4096 ≤ a by omega), Bool.false_and]

/-- poolOf in it. -/
theorem pool_mid (a : Int) (k : Nat) (w : World) (h0 : 4096 ≤ a) (h1 : a ≤ 33554432) (hk : k ≤ 13) (hL : Lib.bitLen (a - 1).toNat = 12 + k) :
    Calls Try.prog 17 #[.int .i64 a] w fun e w' => e = .returned (.tuple #[.int .i64 k, .bool true]) ∧ w' = w := by
  refine (pool_pos a _ w (by omega) (by omega) hL).mono fun e w' ⟨he, hw⟩ => ⟨?_, hw⟩
  rw [he, decide_eq_true h0, decide_eq_true (show 12 + k ≤ 25 by omega), show ((12 + k : Nat) : Int) - 12 = k by omega]
  rfl

theorem classCap_at (n : Nat) (c : Int) (w : World) (hn : n ≤ 13) (hc : (2 : Int) ^ (12 + n) = c) :
    Calls Try.prog 18 #[.int .i64 n] w fun e w' => e = .returned (.int .i64 c) ∧ w' = w := by
  refine (classCap_any n w (by omega) (by omega)).mono fun e w' ⟨he, hw⟩ => ⟨?_, hw⟩
  rw [he, show (12 + (n : Int)).toNat = 12 + n by omega, hc]

set_option maxHeartbeats 400000 in
theorem capacity_lo (a : Int) (w : World) (h0 : a < 4096) (h1 : -9223372036854775808 ≤ a) :
    Calls Try.prog 13 #[.int .i64 a] w fun e w' => e = .returned (.int .i64 a) ∧ w' = w := by
  go_enter Try.func13, Try.ntmps13
  go_wp2_with (first | (go_at_call 19; go_in) | (go_at_call 17; refine (pool_lo a _ h0 h1).mono ?_; rintro e w' ⟨⟨s, rfl⟩, rfl⟩))
  go_ret
  exact ⟨rfl, rfl⟩

set_option maxHeartbeats 400000 in
theorem capacity_mid (a c : Int) (k : Nat) (w : World) (h0 : 4096 ≤ a) (h1 : a ≤ 33554432) (hk : k ≤ 13) (HL : Hid (Lib.bitLen (a - 1).toNat = 12 + k)) (HC : Hid ((2 : Int) ^ (12 + k) = c)) :
    Calls Try.prog 13 #[.int .i64 a] w fun e w' => e = .returned (.int .i64 c) ∧ w' = w := by
  go_enter Try.func13, Try.ntmps13
  go_wp2_with (first | (go_at_call 19; go_in) | (go_at_call 17; refine (pool_mid a k _ h0 h1 hk HL.out).mono ?_; rintro e w' ⟨rfl, rfl⟩) | (go_at_call 18; refine (classCap_at k c _ hk HC.out).mono ?_; rintro e w' ⟨rfl, rfl⟩))
  go_ret
  exact ⟨rfl, rfl⟩

set_option maxHeartbeats 400000 in
theorem want_lo (a : Int) (w : World) (h0 : a < 4096) :
    Calls Try.prog 14 #[.int .i64 a] w fun e w' => e = .returned (.int .i64 a) ∧ w' = w := by
  go_enter Try.func14, Try.ntmps14
  go_wp2
  go_ret
  exact ⟨rfl, rfl⟩

set_option maxHeartbeats 400000 in
theorem want_mid (a c : Int) (k : Nat) (w : World) (h0 : 4096 ≤ a) (h1 : a ≤ 33554432) (hk : k ≤ 13) (h2 : a ≤ 2 ^ (12 + k)) (h3 : (2 : Int) ^ (11 + k) < a) (HC : Hid ((2 : Int) ^ (12 + k) = c)) :
    Calls Try.prog 14 #[.int .i64 a] w fun e w' => e = .returned (.int .i64 c) ∧ w' = w := by
  have H2 : Hid (a ≤ 2 ^ (12 + k)) := h2
  have H3 : Hid ((2 : Int) ^ (11 + k) < a) := h3
  clear h2 h3
  go_enter Try.func14, Try.ntmps14
  go_wp2
  go_loop [3] (fun p => ∃ j : Nat, j ≤ k ∧ p = .int .i64 (2 ^ (12 + j))) (fun p => (67108865 - intOf p).toNat)
  case atStart => exact ⟨0, Nat.zero_le _, rfl⟩
  case round =>
    obtain ⟨j, hj, rfl⟩ := hrel
    obtain ⟨b1, b2, _⟩ := cap_bd j (by omega)
    have hs : Hid ((2 : Int) ^ (12 + j) * 2 = 2 ^ (12 + (j + 1))) := by
      show _ = _
      rw [show 12 + (j + 1) = 12 + j + 1 by omega, Int.pow_succ]
    by_cases hlt : j < k
    · have hl : (2 : Int) ^ (12 + j) < a := by
        have e : (2 : Int) ^ (12 + j) ≤ 2 ^ (11 + k) := by
          have : (2 : Nat) ^ (12 + j) ≤ 2 ^ (11 + k) := Nat.pow_le_pow_right (by decide) (by omega)
          exact_mod_cast this
        have := H3.out
        omega
      generalize hg : (2 : Int) ^ (12 + j) = p at *
      have HG : Hid ((2 : Int) ^ (12 + j) = p) := hg
      clear hg
      go_wp2
      go_round
      case rel => exact ⟨j + 1, by omega, by rw [← hs.out]⟩
      case measure => simp [intOf]; omega
    · have hjk : j = k := by omega
      subst hjk
      rw [HC.out] at *
      have hn : ¬ c < a := by have := H2.out; have := HC.out; omega
      clear hs
      go_wp2
      go_ret
      exact ⟨rfl, rfl⟩

set_option maxHeartbeats 400000 in
theorem max16_any (c : Int) (m : Nat) (w : World) (hm : max c 16 = (m : Int)) :
    Calls Try.prog 15 #[.int .i64 c] w fun e w' => e = .returned (.int .i64 m) ∧ w' = w := by
  have HM : Hid (max c 16 = (m : Int)) := hm
  clear hm
  go_enter Try.func15, Try.ntmps15
  go_wp2
  · go_ret
    exact ⟨ret_int (by have := HM.out; omega), rfl⟩
  · go_ret
    exact ⟨ret_int (by have := HM.out; omega), rfl⟩

set_option maxHeartbeats 400000 in
/-- The law's rest, once both capacities are known to be c. -/
theorem walkWaits_core (a c : Int) (m : Nat) (w : World) (b0 : -9223372036854775808 ≤ a) (h0 : a ≤ 65536) (hac : a ≤ c) (hc : c ≤ 65536) (HM : Hid (max c 16 = (m : Int)))
    (hcap : ∀ w, Calls Try.prog 13 #[.int .i64 a] w fun e w' => e = .returned (.int .i64 c) ∧ w' = w)
    (hwant : ∀ w, Calls Try.prog 14 #[.int .i64 a] w fun e w' => e = .returned (.int .i64 c) ∧ w' = w) :
    Calls Try.prog 8 #[.int .i64 a] w fun e w' => e = .returned (.bool true) ∧ Grown w w' := by
  have hm1 : a ≤ (m : Int) := by have := HM.out; omega
  have hm2 : (m : Int) ≤ 65536 := by have := HM.out; omega
  have HA : Hid (∀ w, Calls Try.prog 13 #[.int .i64 a] w fun e w' => e = .returned (.int .i64 c) ∧ w' = w) := hcap
  have HB : Hid (∀ w, Calls Try.prog 14 #[.int .i64 a] w fun e w' => e = .returned (.int .i64 c) ∧ w' = w) := hwant
  clear hcap hwant
  go_enter Try.func8, Try.ntmps8
  go_wp2_with fail
  refine (HA.out _).mono ?_
  rintro e w' ⟨rfl, rfl⟩
  go_wp2_with fail
  refine (HB.out _).mono ?_
  rintro e w' ⟨rfl, rfl⟩
  go_wp2_with fail
  refine (max16_any c m _ HM.out).mono ?_
  rintro e w' ⟨rfl, rfl⟩
  go_wp2_with fail
  refine (waits_any c a m _ hc HM.out).mono ?_
  rintro e w1 ⟨rfl, g1⟩
  go_wp2_with fail
  refine (waits_any c m m _ hc HM.out).mono ?_
  rintro e w2 ⟨rfl, g2⟩
  go_wp2_with fail
  refine (waits_any c (m + 1) m _ hc HM.out).mono ?_
  rintro e w3 ⟨rfl, g3⟩
  go_wp2_with fail
  go_ret
  refine ⟨congrArg (fun b => Ending.returned (Value.bool b)) ?_, Grown_trans g1 (Grown_trans g2 g3)⟩
  rw [decide_eq_false (show ¬ (m : Int) + 1 ≤ (m : Int) by omega)]
  rfl

theorem small_cap (k : Nat) (hk : k ≤ 13) (h : (2 : Int) ^ (11 + k) < 65536) : (2 : Int) ^ (12 + k) ≤ 65536 := by
  have : ∀ m : Fin 14, (2 : Int) ^ (11 + m.val) < 65536 → (2 : Int) ^ (12 + m.val) ≤ 65536 := by decide +kernel
  exact this ⟨k, by omega⟩ h

set_option maxHeartbeats 400000 in
theorem walkWaits (a : Int) (w0 : (Lit.int .i64 a).wf = true) (w : World) :
    Calls Try.prog 8 #[.int .i64 a] w fun e w' => e = .returned (.bool true) ∧ Grown w w' := by
  obtain ⟨b0, b1⟩ := bounds_i64 w0
  clear w0
  by_cases hhi : 65536 < a
  · go_enter Try.func8, Try.ntmps8
    go_wp2
    go_ret
    exact ⟨rfl, Grown.refl _⟩
  by_cases hlo : a < 4096
  · exact walkWaits_core a a (max a 16).toNat w b0 (by omega) (Int.le_refl _) (by omega) (by show _ = _; omega) (fun w => capacity_lo a w hlo b0) (fun w => want_lo a w hlo)
  obtain ⟨k, hk, hL, hle, hlt⟩ := shift_mid a (by omega) (by omega)
  have hc : (2 : Int) ^ (12 + k) ≤ 65536 := small_cap k hk (by omega)
  exact walkWaits_core a (2 ^ (12 + k)) (max (2 ^ (12 + k)) 16 : Int).toNat w b0 (by omega) hle hc (by show _ = _; omega)
    (fun w => capacity_mid a _ k w (by omega) (by omega) hk hL rfl) (fun w => want_mid a _ k w (by omega) (by omega) hk hle hlt rfl)
end Go.Proofs.Qxb6608945a

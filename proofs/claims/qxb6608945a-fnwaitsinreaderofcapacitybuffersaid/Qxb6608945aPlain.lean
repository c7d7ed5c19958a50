/- The plain facts on the number of bits, with no Go in sight. -/
import Derived.Lib.BitFns
import Derived.Lib.ItoaNum
namespace Go.Proofs.Qxb6608945a

theorem bitLen_le64 (x : Nat) (h : x < 18446744073709551616) : Lib.bitLen x ≤ 64 := Lib.bitLen_le x 64 (Nat.le_refl _) h

theorem bitLen_spec (x : Nat) (h0 : x ≠ 0) (h : x < 18446744073709551616) :
    1 ≤ Lib.bitLen x ∧ 2 ^ (Lib.bitLen x - 1) ≤ x ∧ x < 2 ^ Lib.bitLen x := Lib.bitLenAux_bounds 64 x h h0

theorem pow_lt_of {a b : Nat} (h : 2 ^ a < 2 ^ b) : a < b := (Nat.pow_lt_pow_iff_right (by decide)).1 h

/-- The number of bits is fixed by its two bounds. -/
theorem bitLen_unique (x k : Nat) (hk : k < 64) (h1 : 2 ^ k ≤ x) (h2 : x < 2 ^ (k + 1)) : Lib.bitLen x = k + 1 := by
  have hx : x < 18446744073709551616 := by
    have : 2 ^ (k + 1) ≤ 2 ^ 64 := Nat.pow_le_pow_right (by decide) (by omega)
    exact Nat.lt_of_lt_of_le h2 (by simpa using this)
  have hp : 0 < 2 ^ k := Nat.pow_pos (by decide)
  obtain ⟨a, b, c⟩ := bitLen_spec x (by omega) hx
  have e1 : Lib.bitLen x - 1 < k + 1 := pow_lt_of (Nat.lt_of_le_of_lt b h2)
  have e2 : k < Lib.bitLen x := pow_lt_of (Nat.lt_of_le_of_lt h1 c)
  omega

/-- For a size in the pooled range: the shift, and that its power holds the size while the half of it does not. -/
theorem shift_mid (a : Int) (h0 : 4096 ≤ a) (h1 : a ≤ 33554432) :
    ∃ k : Nat, k ≤ 13 ∧ Lib.bitLen (a - 1).toNat = 12 + k ∧ a ≤ 2 ^ (12 + k) ∧ (2 : Int) ^ (11 + k) < a := by
  have hx : (a - 1).toNat ≠ 0 := by omega
  obtain ⟨p, q, r⟩ := bitLen_spec (a - 1).toNat hx (by omega)
  generalize hL : Lib.bitLen (a - 1).toNat = L at p q r
  have hlo : 11 < L := by
    apply pow_lt_of
    have : (2 : Nat) ^ 11 = 2048 := rfl
    omega
  have hhi : L - 1 < 25 := by
    apply pow_lt_of
    have : (2 : Nat) ^ 25 = 33554432 := rfl
    omega
  refine ⟨L - 12, by omega, by omega, ?_, ?_⟩
  · rw [show 12 + (L - 12) = L by omega]
    have : ((a - 1).toNat : Int) < ((2 ^ L : Nat) : Int) := by exact_mod_cast r
    rw [Int.toNat_of_nonneg (by omega)] at this
    push_cast at this
    omega
  · rw [show 11 + (L - 12) = L - 1 by omega]
    have : ((2 ^ (L - 1) : Nat) : Int) ≤ ((a - 1).toNat : Int) := by exact_mod_cast q
    rw [Int.toNat_of_nonneg (by omega)] at this
    push_cast at this
    omega

/-- Above the pooled range more than 25 bits are wanted. -/
theorem shift_hi (a : Int) (h0 : 33554432 < a) (h1 : a ≤ 9223372036854775807) : 25 < Lib.bitLen (a - 1).toNat := by
  obtain ⟨p, q, r⟩ := bitLen_spec (a - 1).toNat (by omega) (by omega)
  apply pow_lt_of
  have : (2 : Nat) ^ 25 = 33554432 := rfl
  omega

/-- 4096 doubled n times is the power; its bounds. -/
theorem cap_eq (n : Nat) : (4096 : Int) * 2 ^ n = 2 ^ (12 + n) := by
  rw [Int.pow_add]; rfl

theorem cap_bd (n : Nat) (h : n ≤ 13) : (4096 : Int) ≤ 2 ^ (12 + n) ∧ (2 : Int) ^ (12 + n) ≤ 33554432 ∧ (1 ≤ n → (8192 : Int) ≤ 2 ^ (12 + n)) := by
  have : ∀ m : Fin 14, (4096 : Int) ≤ 2 ^ (12 + m.val) ∧ (2 : Int) ^ (12 + m.val) ≤ 33554432 ∧ (1 ≤ m.val → (8192 : Int) ≤ 2 ^ (12 + m.val)) := by decide +kernel
  exact this ⟨n, by omega⟩

theorem bits_cap (n : Nat) (h : n ≤ 13) : Lib.bitLen ((2 : Int) ^ (12 + n) - 1).toNat = 12 + n ∧ Lib.bitLen ((2 : Int) ^ (12 + n) - 1 - 1).toNat = 12 + n ∧ Lib.bitLen ((2 : Int) ^ (12 + n) + 1 - 1).toNat = 13 + n := by
  have : ∀ m : Fin 14, Lib.bitLen ((2 : Int) ^ (12 + m.val) - 1).toNat = 12 + m.val ∧ Lib.bitLen ((2 : Int) ^ (12 + m.val) - 1 - 1).toNat = 12 + m.val ∧ Lib.bitLen ((2 : Int) ^ (12 + m.val) + 1 - 1).toNat = 13 + m.val := by decide +kernel
  exact this ⟨n, by omega⟩

end Go.Proofs.Qxb6608945a

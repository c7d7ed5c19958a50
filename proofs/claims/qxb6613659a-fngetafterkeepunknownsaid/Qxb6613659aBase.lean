/- What the arguments of this seat's laws are told as: rows of pairs, and small words. -/
import Derived.Test.Qxb6613659aRows
import Derived.WalkKit
import Derived.WalkSpells
import Derived.WalkLawsBesides
import Derived.OpenShut
import Derived.ProofKit
namespace Go.Proofs.Qxb6613659a
set_option linter.unusedVariables false
open Go.RowKit

/-- A slice of pairs that is read: n pairs, the i-th of the name 'N i' and the value 'V i'. -/
def PairsAt (w : World) (a : Option Addr) (n : Nat) (N : Nat → ByteArray) (V : Nat → Int) : Prop :=
  ∀ i, i < n → ∃ b off, a = some ⟨b, off, none⟩ ∧ w.cell? ⟨b, off + i * 2, none⟩ = some (.string (N i)) ∧ w.cell? ⟨b, off + i * 2 + 1, none⟩ = some (.int .i64 (V i))

theorem cell_lt {w : World} {x : Addr} {v : Value} (h : w.cell? x = some v) : x.block < w.heap.size := by
  unfold World.cell? at h
  by_cases hl : x.block < w.heap.size
  · exact hl
  · have : w.heap[x.block]? = none := by simp; omega
    simp [this] at h

theorem PairsAt.below {w w' : World} {a : Option Addr} {n : Nat} {N : Nat → ByteArray} {V : Nat → Int} (h : PairsAt w a n N V) (hb : Below w.heap.size w w') : PairsAt w' a n N V := by
  intro i hi
  obtain ⟨b, off, hx, h1, h2⟩ := h i hi
  refine ⟨b, off, hx, ?_, ?_⟩
  · rw [hb.cell (cell_lt h1)]; exact h1
  · rw [hb.cell (cell_lt h2)]; exact h2

theorem ret_int {k : IntKind} {a b : Int} (h : a = b) : Ending.returned (.int k a) = .returned (.int k b) := by rw [h]

/-- Some bool is returned. -/
def SomeBool (e : Ending) : Prop := ∃ b, e = .returned (.bool b)
/-- Some int is returned. -/
def SomeInt (e : Ending) : Prop := ∃ t, e = .returned (.int .i64 t)
theorem SomeBool.mk (b : Bool) : SomeBool (.returned (.bool b)) := ⟨b, rfl⟩
theorem SomeInt.mk (t : Int) : SomeInt (.returned (.int .i64 t)) := ⟨t, rfl⟩

set_option maxHeartbeats 400000 in
/-- zzBytes_FnGetAgreesAtAnyCut answers some bool and turns nothing. -/
theorem bytes8 (a : Option Addr) (n cap : Nat) (N : Nat → ByteArray) (V : Nat → Int) (cut : Int) (nm : ByteArray) (w : World) (h : PairsAt w a n N V) :
    Calls Try.prog 8 #[.slice a n cap, .int .i64 cut, .string nm] w fun e w' => SomeBool e ∧ w' = w := by
  by_cases hbig : 1048576 < n
  · go_enter Try.func8, Try.ntmps8
    go_wp2
    go_ret
    exact ⟨SomeBool.mk _, rfl⟩
  go_enter Try.func8, Try.ntmps8
  go_wp2
  go_loop [7, 8] (fun t i => ∃ (k : Nat) (s : Int), k ≤ n ∧ i = .int .i64 k ∧ t = .int .i64 s) (fun _ i => n - (intOf i).toNat)
  case atStart => exact ⟨0, _, Nat.zero_le _, rfl, rfl⟩
  case round =>
    obtain ⟨k, s, hk, rfl, rfl⟩ := hrel
    by_cases hlt : k < n
    · obtain ⟨xb, xo, rfl, h1, h2⟩ := h k hlt
      clear h
      go_wp2
      · go_ret; exact ⟨SomeBool.mk _, rfl⟩
      · go_ret; exact ⟨SomeBool.mk _, rfl⟩
      · go_round
        case rel => exact ⟨k + 1, _, by omega, by go_num, rfl⟩
        case measure => simp [intOf]; omega
    · go_wp2
      all_goals (go_ret; exact ⟨SomeBool.mk _, rfl⟩)

set_option maxHeartbeats 400000 in
/-- sumPairs answers some int and turns nothing. -/
theorem sumPairs_any (s0 : Int) (a : Option Addr) (n cap : Nat) (N : Nat → ByteArray) (V : Nat → Int) (w : World) (h : PairsAt w a n N V) (hn : n ≤ 65536) :
    Calls Try.prog 9 #[.int .i64 s0, .slice a n cap] w fun e w' => SomeInt e ∧ w' = w := by
  go_enter Try.func9, Try.ntmps9
  go_wp2
  go_loop [0, 5] (fun t i => ∃ (k : Nat) (s : Int), k ≤ n ∧ i = .int .i64 k ∧ t = .int .i64 s) (fun _ i => n - (intOf i).toNat)
  case atStart => exact ⟨0, _, Nat.zero_le _, rfl, rfl⟩
  case round =>
    obtain ⟨k, s, hk, rfl, rfl⟩ := hrel
    by_cases hlt : k < n
    · obtain ⟨xb, xo, rfl, h1, h2⟩ := h k hlt
      clear h
      go_wp2
      · go_ret; exact ⟨SomeInt.mk _, rfl⟩
      · go_ret; exact ⟨SomeInt.mk _, rfl⟩
      · go_round
        case rel => exact ⟨k + 1, _, by omega, by go_num, rfl⟩
        case measure => simp [intOf]; omega
    · go_wp2
      all_goals (go_ret; exact ⟨SomeInt.mk _, rfl⟩)

/-- The least i of 'lo, lo + 1, ..' (m of them) that p takes, -1 for none. -/
def find (p : Nat → Bool) : Nat → Nat → Int
  | _, 0 => -1
  | lo, m + 1 => if p lo then lo else find p (lo + 1) m

/-- The i-th name is nm. -/
def named (N : Nat → ByteArray) (nm : ByteArray) (i : Nat) : Bool := (N i).toList == nm.toList

theorem find_hit {p : Nat → Bool} {k hi : Nat} (h : k < hi) (hp : p k = true) : find p k (hi - k) = k := by
  obtain ⟨m, hm⟩ : ∃ m, hi - k = m + 1 := ⟨hi - k - 1, by omega⟩
  rw [hm, find, if_pos hp]

theorem find_miss {p : Nat → Bool} {k hi : Nat} (h : k < hi) (hp : p k = false) : find p k (hi - k) = find p (k + 1) (hi - (k + 1)) := by
  obtain ⟨m, hm⟩ : ∃ m, hi - k = m + 1 := ⟨hi - k - 1, by omega⟩
  rw [hm, find, if_neg (by simp [hp]), show hi - (k + 1) = m by omega]

theorem find_end {p : Nat → Bool} {k hi : Nat} (h : ¬ k < hi) : find p k (hi - k) = -1 := by
  rw [show hi - k = 0 by omega, find]

theorem find_spec (p : Nat → Bool) : ∀ (m lo : Nat), (find p lo m = -1 ∧ ∀ i, lo ≤ i → i < lo + m → p i = false) ∨ ∃ k : Nat, find p lo m = k ∧ lo ≤ k ∧ k < lo + m ∧ p k = true ∧ ∀ i, lo ≤ i → i < k → p i = false
  | 0, lo => Or.inl ⟨rfl, fun i h1 h2 => by omega⟩
  | m + 1, lo => by
    by_cases hp : p lo = true
    · exact Or.inr ⟨lo, by rw [find, if_pos hp], Nat.le_refl _, by omega, hp, fun i h1 h2 => by omega⟩
    · rw [find, if_neg hp]
      have hp' : p lo = false := by simpa using hp
      rcases find_spec p m (lo + 1) with ⟨h1, h2⟩ | ⟨k, h1, h2, h3, h4, h5⟩
      · refine Or.inl ⟨h1, fun i g1 g2 => ?_⟩
        by_cases e : i = lo
        · rw [e]; exact hp'
        · exact h2 i (by omega) (by omega)
      · refine Or.inr ⟨k, h1, by omega, by omega, h4, fun i g1 g2 => ?_⟩
        by_cases e : i = lo
        · rw [e]; exact hp'
        · exact h5 i (by omega) g2

/-- Where it is k, it is found by its two marks. -/
theorem find_eq {p : Nat → Bool} {lo m k : Nat} (h1 : lo ≤ k) (h2 : k < lo + m) (hp : p k = true) (hf : ∀ i, lo ≤ i → i < k → p i = false) : find p lo m = k := by
  rcases find_spec p m lo with ⟨_, g2⟩ | ⟨j, g1, g2, g3, g4, g5⟩
  · rw [g2 k h1 h2] at hp; cases hp
  · rw [g1]
    by_cases e : j < k
    · rw [hf j g2 e] at g4; cases g4
    · by_cases e' : k < j
      · rw [g5 k h1 e'] at hp; cases hp
      · rw [show j = k by omega]

theorem find_none {p : Nat → Bool} {lo m : Nat} (hf : ∀ i, lo ≤ i → i < lo + m → p i = false) : find p lo m = -1 := by
  rcases find_spec p m lo with ⟨h, _⟩ | ⟨j, g1, g2, g3, g4, g5⟩
  · exact h
  · rw [hf j g2 g3] at g4; cases g4

set_option maxHeartbeats 400000 in
/-- firstIndex. -/
theorem firstIndex_any (a : Option Addr) (n cap lo hi : Nat) (N : Nat → ByteArray) (V : Nat → Int) (nm : ByteArray) (w : World) (h : PairsAt w a n N V) (hn : n ≤ 65536) (hhi : hi ≤ n) :
    Calls Try.prog 13 #[.slice a n cap, .int .i64 lo, .int .i64 hi, .string nm] w fun e w' => e = .returned (.int .i64 (find (named N nm) lo (hi - lo))) ∧ w' = w := by
  go_enter Try.func13, Try.ntmps13
  go_wp2
  go_loop [9] (fun i => ∃ (k : Nat), lo ≤ k ∧ i = .int .i64 k ∧ find (named N nm) lo (hi - lo) = find (named N nm) k (hi - k)) (fun i => hi - (intOf i).toNat)
  case atStart => exact ⟨lo, Nat.le_refl _, rfl, rfl⟩
  case round =>
    obtain ⟨k, hk, rfl, hf⟩ := hrel
    have HF : Hid (find (named N nm) lo (hi - lo) = find (named N nm) k (hi - k)) := hf
    clear hf
    by_cases hlt : k < hi
    · obtain ⟨xb, xo, rfl, h1, h2⟩ := h k (by omega)
      clear h
      go_wp2
      · have hp : ((N k).toList == nm.toList) = true := by assumption
        go_ret
        exact ⟨ret_int (by rw [HF.out, find_hit hlt (show named N nm k = true from hp)]), rfl⟩
      · have hp : ((N k).toList == nm.toList) = false := by assumption
        go_round
        case rel => exact ⟨k + 1, by omega, by go_num, by rw [HF.out, find_miss hlt (show named N nm k = false from hp)]⟩
        case measure => simp [intOf]; omega
    · go_wp2
      go_ret
      exact ⟨ret_int (by rw [HF.out, find_end hlt]), rfl⟩

set_option maxHeartbeats 400000 in
/-- answers where there is none. -/
theorem answers_none (v : Int) (isInt isNil : Bool) (a : Option Addr) (n cap : Nat) (k : Int) (w : World) (hk : k < 0) :
    Calls Try.prog 12 #[.int .i64 v, .bool isInt, .bool isNil, .slice a n cap, .int .i64 k] w fun e w' => e = .returned (.bool isNil) ∧ w' = w := by
  go_enter Try.func12, Try.ntmps12
  go_wp2
  go_ret
  exact ⟨rfl, rfl⟩

set_option maxHeartbeats 400000 in
/-- answers where there is one, the answer right. -/
theorem answers_some (a : Option Addr) (n cap k : Nat) (N : Nat → ByteArray) (V : Nat → Int) (w : World) (h : PairsAt w a n N V) (hn : n ≤ 65536) (hk : k < n) :
    Calls Try.prog 12 #[.int .i64 (V k), .bool true, .bool false, .slice a n cap, .int .i64 k] w fun e w' => e = .returned (.bool true) ∧ w' = w := by
  obtain ⟨xb, xo, rfl, h1, h2⟩ := h k hk
  clear h
  go_enter Try.func12, Try.ntmps12
  go_wp2
  go_ret
  exact ⟨rfl, rfl⟩
end Go.Proofs.Qxb6613659a

import Derived.Test.Qxb6613659aBase
namespace Go.Proofs.Qxb6613659a
set_option linter.unusedVariables false
open Go.RowKit

/-- An object that is read: n members, the i-th of the name 'N i' and the value 'F i' (an interface value). -/
def ObjAt (w : World) (a : Option Addr) (n : Nat) (N : Nat → ByteArray) (F : Nat → Value) : Prop :=
  ∀ i, i < n → ∃ b off, a = some ⟨b, off, none⟩ ∧ w.cell? ⟨b, off + i * 2, none⟩ = some (.string (N i)) ∧ w.cell? ⟨b, off + i * 2 + 1, none⟩ = some (F i)

theorem ObjAt.below {w w' : World} {a : Option Addr} {n : Nat} {N : Nat → ByteArray} {F : Nat → Value} (h : ObjAt w a n N F) (hb : Below w.heap.size w w') : ObjAt w' a n N F := by
  intro i hi
  obtain ⟨b, off, hx, h1, h2⟩ := h i hi
  refine ⟨b, off, hx, ?_, ?_⟩
  · rw [hb.cell (cell_lt h1)]; exact h1
  · rw [hb.cell (cell_lt h2)]; exact h2

theorem ret_val {a b : Value} (h : a = b) : Ending.returned a = .returned b := by rw [h]

set_option maxHeartbeats 400000 in
/-- Get's closure. -/
theorem closure_any (s nm : ByteArray) (f : Value) (p : Nat) (w : World) (hp : w.cell? ⟨p, 0, none⟩ = some (.string nm)) :
    Calls Try.prog 40 #[.agg #[.string s, f], .pointer (some ⟨p, 0, none⟩)] w fun e w' => e = .returned (.bool (s.toList == nm.toList)) ∧ w' = w.alloc (.cells #[.string s, f] 49) := by
  have hlt := cell_lt hp
  have hq := (World.cell?_alloc_lt w (.cells #[.string s, f] 49) ⟨p, 0, none⟩ hlt).trans hp
  go_enter Try.func40, Try.ntmps40
  go_wp2
  go_ret
  exact ⟨rfl, rfl⟩

set_option maxHeartbeats 400000 in
/-- slices.IndexFunc under Get's closure. -/
theorem indexFunc_any (a : Option Addr) (n cap p : Nat) (N : Nat → ByteArray) (F : Nat → Value) (nm : ByteArray) (w : World) (h : ObjAt w a n N F) (hn : n ≤ 65537) (hp : w.cell? ⟨p, 0, none⟩ = some (.string nm)) :
    Calls Try.prog 39 #[.slice a n cap, .func (.func 40) #[] #[.pointer (some ⟨p, 0, none⟩)]] w fun e w' => e = .returned (.int .i64 (find (named N nm) 0 n)) ∧ Below w.heap.size w w' := by
  go_enter Try.func39, Try.ntmps39
  go_wp2
  go_loopw [8] (fun i wr => ∃ (k : Nat), k ≤ n ∧ i = .int .i64 k ∧ find (named N nm) 0 n = find (named N nm) k (n - k) ∧ Below w.heap.size w wr) (fun i _ => n - (intOf i).toNat)
  case atStart => exact ⟨0, Nat.zero_le _, rfl, rfl, Below.refl _ _⟩
  case round =>
    obtain ⟨k, hk, rfl, hf, hb⟩ := hrel
    have HF : Hid (find (named N nm) 0 n = find (named N nm) k (n - k)) := hf
    clear hf
    have hp' : wr.cell? ⟨p, 0, none⟩ = some (.string nm) := by rw [hb.cell (cell_lt hp)]; exact hp
    have hsz := hb.size
    by_cases hlt : k < n
    · obtain ⟨xb, xo, rfl, h1, h2⟩ := (h.below hb) k (by omega)
      clear h hp
      go_wp2_with fail
      refine (closure_any (N k) nm (F k) p _ hp').mono ?_
      rintro e w1 ⟨rfl, rfl⟩
      go_wp2_with fail
      · have hq : ((N k).toList == nm.toList) = true := by assumption
        go_ret
        exact ⟨ret_int (by rw [HF.out, find_hit hlt (show named N nm k = true from hq)]), hb.alloc hsz _⟩
      · have hq : ((N k).toList == nm.toList) = false := by assumption
        go_roundw
        case rel => exact ⟨k + 1, by omega, by go_num, by rw [HF.out, find_miss hlt (show named N nm k = false from hq)], hb.alloc hsz _⟩
        case measure => simp [intOf]; omega
    · clear h hp
      go_wp2_with fail
      go_ret
      exact ⟨ret_int (by rw [HF.out, find_end hlt]), hb⟩

/-- What Get answers: the value at the index found, nil for none. -/
def gotten (F : Nat → Value) (k : Int) : Value := if k < 0 then .nilIface else F k.toNat

theorem gotten_neg (F : Nat → Value) : gotten F (-1) = .nilIface := rfl
theorem gotten_nat (F : Nat → Value) (k : Nat) : gotten F (k : Int) = F k := by
  rw [gotten, if_neg (by omega), Int.toNat_natCast]

theorem held_ne_nil (v : Int) (w : World) : (binOp .eql 47 (.iface 2 (.int .i64 v)) .nilIface).run Try.prog w = .ok (.bool false) w := by kernel_rfl
theorem held_int (v : Int) (w : World) : (Instr.typeAssert (.iface 2 (.int .i64 v)) 47 2 true).run Try.prog w = .ok (.tuple #[.int .i64 v, .bool true]) w := by kernel_rfl

set_option maxHeartbeats 400000 in
/-- (Object).Get. -/
theorem get_any (a : Option Addr) (n cap : Nat) (N : Nat → ByteArray) (F : Nat → Value) (nm : ByteArray) (w : World) (h : ObjAt w a n N F) (hn : n ≤ 65537) :
    Calls Try.prog 34 #[.slice a n cap, .string nm] w fun e w' => e = .returned (gotten F (find (named N nm) 0 n)) ∧ Below w.heap.size w w' := by
  have hb0 : Below w.heap.size w (w.alloc (.cells #[.string nm] 9)) := (Below.refl _ _).alloc (Nat.le_refl _) _
  have h' := h.below hb0
  rcases find_spec (named N nm) n 0 with ⟨hk, _⟩ | ⟨k, hk, _, hkn, _, _⟩
  · have HK : Hid (find (named N nm) 0 n = -1) := hk
    clear hk
    go_enter Try.func34, Try.ntmps34
    go_wp2_with fail
    refine (indexFunc_any a n cap w.heap.size N F nm _ h' hn (by simp [go_sem])).mono ?_
    rintro e w1 ⟨rfl, hb1⟩
    rw [HK.out]
    go_wp2_with fail
    go_ret
    exact ⟨ret_val (by rw [HK.out]; rfl), hb0.trans (hb1.mono (by simp))⟩
  · have HK : Hid (find (named N nm) 0 n = k) := hk
    clear hk
    have hk0 : k < n := by omega
    go_enter Try.func34, Try.ntmps34
    go_wp2_with fail
    refine (indexFunc_any a n cap w.heap.size N F nm _ h' hn (by simp [go_sem])).mono ?_
    rintro e w1 ⟨rfl, hb1⟩
    rw [HK.out]
    obtain ⟨xb, xo, rfl, h1, h2⟩ := (h'.below hb1) k hk0
    clear h h'
    go_wp2_with fail
    go_ret
    exact ⟨ret_val (by rw [HK.out, gotten_nat]; rfl), hb0.trans (hb1.mono (by simp))⟩

set_option maxHeartbeats 400000 in
/-- ZZgetInt64 where there is none. -/
theorem getInt_none (a : Option Addr) (n cap : Nat) (N : Nat → ByteArray) (F : Nat → Value) (nm : ByteArray) (w : World) (h : ObjAt w a n N F) (hn : n ≤ 65537) (HK : Hid (find (named N nm) 0 n = -1)) :
    Calls Try.prog 11 #[.slice a n cap, .string nm] w fun e w' => e = .returned (.tuple #[.int .i64 0, .bool false, .bool true]) ∧ Below w.heap.size w w' := by
  go_enter Try.func11, Try.ntmps11
  go_wp2_with fail
  refine (get_any a n cap N F nm _ h hn).mono ?_
  rintro e w1 ⟨rfl, hb1⟩
  rw [HK.out, gotten_neg]
  go_wp2_with fail
  go_ret3
  exact ⟨rfl, hb1⟩

set_option maxHeartbeats 400000 in
/-- ZZgetInt64 where the first member so named holds an int64. -/
theorem getInt_int (a : Option Addr) (n cap k : Nat) (N : Nat → ByteArray) (F : Nat → Value) (v : Int) (nm : ByteArray) (w : World) (h : ObjAt w a n N F) (hn : n ≤ 65537) (HK : Hid (find (named N nm) 0 n = (k : Int))) (HV : Hid (F k = .iface 2 (.int .i64 v))) :
    Calls Try.prog 11 #[.slice a n cap, .string nm] w fun e w' => e = .returned (.tuple #[.int .i64 v, .bool true, .bool false]) ∧ Below w.heap.size w w' := by
  have HG : Hid (gotten F (find (named N nm) 0 n) = .iface 2 (.int .i64 v)) := by
    show _ = _
    rw [HK.out, gotten_nat, HV.out]
  go_enter Try.func11, Try.ntmps11
  go_wp2_with fail
  refine (get_any a n cap N F nm _ h hn).mono ?_
  rintro e w1 ⟨rfl, hb1⟩
  rw [HG.out]
  have he := held_ne_nil v
  have ha := held_int v
  go_wp2_with fail
  go_ret3
  exact ⟨rfl, hb1⟩
end Go.Proofs.Qxb6613659a

import Derived.Test.Qxb6613659aBase
import Derived.Deep.OwnRows
import Derived.Deep.QuietTactic
import Derived.BigQuiet
namespace Go.Proofs.Qxb6613659a
set_option linter.unusedVariables false
open Go.RowKit Go.Deep

/-- A slice of int64 that is read. -/
def IdsAt (w : World) (a : Option Addr) (n : Nat) (Z : Nat → Int) : Prop :=
  ∀ i, i < n → ∃ b off, a = some ⟨b, off, none⟩ ∧ w.cell? ⟨b, off + i, none⟩ = some (.int .i64 (Z i))

theorem IdsAt.below {w w' : World} {a : Option Addr} {n : Nat} {Z : Nat → Int} (h : IdsAt w a n Z) (hb : Below w.heap.size w w') : IdsAt w' a n Z := by
  intro i hi
  obtain ⟨b, off, hx, h1⟩ := h i hi
  exact ⟨b, off, hx, by rw [hb.cell (cell_lt h1)]; exact h1⟩

/-- A slice of requests: the i-th leads to the block 'Q i', whose first cell bears the id 'Z i'. -/
def ReqsAt (w : World) (a : Option Addr) (n : Nat) (Q : Nat → Nat) (Z : Nat → Int) : Prop :=
  ∀ i, i < n → ∃ b off, a = some ⟨b, off, none⟩ ∧ w.cell? ⟨b, off + i, none⟩ = some (.pointer (some ⟨Q i, 0, none⟩)) ∧ w.cell? ⟨Q i, 0, none⟩ = some (.int .i64 (Z i))

theorem ReqsAt.below {w w' : World} {a : Option Addr} {n : Nat} {Q : Nat → Nat} {Z : Nat → Int} (h : ReqsAt w a n Q Z) (hb : Below w.heap.size w w') : ReqsAt w' a n Q Z := by
  intro i hi
  obtain ⟨b, off, hx, h1, h2⟩ := h i hi
  exact ⟨b, off, hx, by rw [hb.cell (cell_lt h1)]; exact h1, by rw [hb.cell (cell_lt h2)]; exact h2⟩

/-- The i-th id is x. -/
def isId (Z : Nat → Int) (x : Int) (i : Nat) : Bool := Z i == x

set_option maxHeartbeats 400000 in
theorem bytes24 (a : Option Addr) (n cap : Nat) (c q : Int) (w : World) :
    Calls Try.prog 24 #[.slice a n cap, .int .i64 c, .int .i64 q] w fun e w' => SomeBool e ∧ w' = w := by
  by_cases hbig : 1048576 < n
  · go_enter Try.func24, Try.ntmps24
    go_wp2
    go_ret
    exact ⟨SomeBool.mk _, rfl⟩
  · go_enter Try.func24, Try.ntmps24
    go_wp2
    all_goals (go_ret; exact ⟨SomeBool.mk _, rfl⟩)

set_option maxHeartbeats 400000 in
/-- indexOf. -/
theorem indexOf_any (a : Option Addr) (n cap : Nat) (Z : Nat → Int) (x : Int) (w : World) (h : IdsAt w a n Z) (hn : n ≤ 131072) :
    Calls Try.prog 29 #[.slice a n cap, .int .i64 x] w fun e w' => e = .returned (.int .i64 (find (isId Z x) 0 n)) ∧ w' = w := by
  go_enter Try.func29, Try.ntmps29
  go_wp2
  go_loop [5] (fun i => ∃ (k : Nat), k ≤ n ∧ i = .int .i64 k ∧ find (isId Z x) 0 n = find (isId Z x) k (n - k)) (fun i => n - (intOf i).toNat)
  case atStart => exact ⟨0, Nat.zero_le _, rfl, rfl⟩
  case round =>
    obtain ⟨k, hk, rfl, hf⟩ := hrel
    have HF : Hid (find (isId Z x) 0 n = find (isId Z x) k (n - k)) := hf
    clear hf
    by_cases hlt : k < n
    · obtain ⟨xb, xo, rfl, h1⟩ := h k hlt
      clear h
      go_wp2
      · have hq : (Z k == x) = true := by assumption
        go_ret
        exact ⟨ret_int (by rw [HF.out, find_hit hlt (show isId Z x k = true from hq)]), rfl⟩
      · have hq : (Z k == x) = false := by assumption
        go_round
        case rel => exact ⟨k + 1, by omega, by go_num, by rw [HF.out, find_miss hlt (show isId Z x k = false from hq)]⟩
        case measure => simp [intOf]; omega
    · go_wp2
      go_ret
      exact ⟨ret_int (by rw [HF.out, find_end hlt]), rfl⟩

/-- A request's cells. -/
def reqCells (v : Int) : Array Value := #[.int .i64 v, .pointer none, .int .i64 0, .slice none 0 0, .nilIface, .int .i64 0]

set_option maxHeartbeats 400000 in
theorem newRequest_any (v : Int) (w : World) :
    Calls Try.prog 32 #[.int .i64 v] w fun e w' => e = .returned (.pointer (some ⟨w.heap.size, 0, none⟩)) ∧ w' = w.alloc (.cells (reqCells v) 85) := by
  go_enter Try.func32, Try.ntmps32
  go_wp2
  go_ret
  exact ⟨rfl, rfl⟩

set_option maxHeartbeats 400000 in
/-- ZZnewDialogue: a new block, its tenth cell the slice. -/
theorem newDialogue_any (w : World) (a : Option Addr) (n cap : Nat) :
    Calls Try.prog 28 #[.slice a n cap] w fun e w' => e = .returned (.pointer (some ⟨w.heap.size, 0, none⟩)) ∧ Below w.heap.size w w' ∧ w'.cell? ⟨w.heap.size, 9, none⟩ = some (.slice a n cap) := by
  go_enter Try.func28, Try.ntmps28
  go_wp2
  go_ret
  exact ⟨rfl, (Below.refl _ _).alloc (Nat.le_refl _) _, by simp [go_sem]⟩

set_option maxHeartbeats 400000 in
/-- request's closure. -/
theorem reqClosure (q p : Nat) (v x : Int) (w : World) (hq : w.cell? ⟨q, 0, none⟩ = some (.int .i64 v)) (hp : w.cell? ⟨p, 0, none⟩ = some (.int .i64 x)) :
    Calls Try.prog 42 #[.pointer (some ⟨q, 0, none⟩), .pointer (some ⟨p, 0, none⟩)] w fun e w' => e = .returned (.bool (v == x)) ∧ Below w.heap.size w w' := by
  go_enter Try.func42, Try.ntmps42
  go_wp2
  go_quiet (fail)
  go_wp2
  go_ret
  exact ⟨rfl, below_drewN (Below.refl _ _) _⟩

set_option maxHeartbeats 400000 in
/-- slices.IndexFunc under request's closure. -/
theorem reqIndex_any (a : Option Addr) (n cap p : Nat) (Q : Nat → Nat) (Z : Nat → Int) (x : Int) (w : World) (h : ReqsAt w a n Q Z) (hn : n ≤ 131073) (hp : w.cell? ⟨p, 0, none⟩ = some (.int .i64 x)) :
    Calls Try.prog 41 #[.slice a n cap, .func (.func 42) #[] #[.pointer (some ⟨p, 0, none⟩)]] w fun e w' => e = .returned (.int .i64 (find (isId Z x) 0 n)) ∧ Below w.heap.size w w' := by
  go_enter Try.func41, Try.ntmps41
  go_wp2
  go_loopw [8] (fun i wr => ∃ (k : Nat), k ≤ n ∧ i = .int .i64 k ∧ find (isId Z x) 0 n = find (isId Z x) k (n - k) ∧ Below w.heap.size w wr) (fun i _ => n - (intOf i).toNat)
  case atStart => exact ⟨0, Nat.zero_le _, rfl, rfl, Below.refl _ _⟩
  case round =>
    obtain ⟨k, hk, rfl, hf, hb⟩ := hrel
    have HF : Hid (find (isId Z x) 0 n = find (isId Z x) k (n - k)) := hf
    clear hf
    have hp' : wr.cell? ⟨p, 0, none⟩ = some (.int .i64 x) := by rw [hb.cell (cell_lt hp)]; exact hp
    have hsz := hb.size
    by_cases hlt : k < n
    · obtain ⟨xb, xo, rfl, h1, h2⟩ := (h.below hb) k (by omega)
      clear h hp
      go_wp2_with fail
      refine (reqClosure (Q k) p (Z k) x _ h2 hp').mono ?_
      rintro e w1 ⟨rfl, hb1⟩
      have hb2 := hb.trans (hb1.mono hsz)
      clear h1 h2 hp'
      go_wp2_with fail
      · have hq : (Z k == x) = true := by assumption
        go_ret
        exact ⟨ret_int (by rw [HF.out, find_hit hlt (show isId Z x k = true from hq)]), hb2⟩
      · have hq : (Z k == x) = false := by assumption
        go_roundw
        case rel => exact ⟨k + 1, by omega, by go_num, by rw [HF.out, find_miss hlt (show isId Z x k = false from hq)], hb2⟩
        case measure => simp [intOf]; omega
    · clear h hp
      go_wp2_with fail
      go_ret
      exact ⟨ret_int (by rw [HF.out, find_end hlt]), hb⟩

/-- What request answers: the request at the index found, nil for none. -/
def reqAt (Q : Nat → Nat) (k : Int) : Value := if k < 0 then .pointer none else .pointer (some ⟨Q k.toNat, 0, none⟩)
theorem reqAt_neg (Q : Nat → Nat) : reqAt Q (-1) = .pointer none := rfl
theorem reqAt_nat (Q : Nat → Nat) (k : Nat) : reqAt Q (k : Int) = .pointer (some ⟨Q k, 0, none⟩) := by
  rw [reqAt, if_neg (by omega), Int.toNat_natCast]

set_option maxHeartbeats 400000 in
/-- (*Dialogue).request. -/
theorem request_any (D : Nat) (a : Option Addr) (n cap : Nat) (Q : Nat → Nat) (Z : Nat → Int) (x : Int) (w : World) (h : ReqsAt w a n Q Z) (hn : n ≤ 131073) (hd : w.cell? ⟨D, 9, none⟩ = some (.slice a n cap)) :
    Calls Try.prog 38 #[.pointer (some ⟨D, 0, none⟩), .int .i64 x] w fun e w' => e = .returned (reqAt Q (find (isId Z x) 0 n)) ∧ Below w.heap.size w w' := by
  have hb0 : Below w.heap.size w (w.alloc (.cells #[.int .i64 x] 2)) := (Below.refl _ _).alloc (Nat.le_refl _) _
  have h' := h.below hb0
  have hd' : (w.alloc (.cells #[.int .i64 x] 2)).cell? ⟨D, 9, none⟩ = some (.slice a n cap) := by rw [hb0.cell (cell_lt hd)]; exact hd
  rcases find_spec (isId Z x) n 0 with ⟨hk, _⟩ | ⟨k, hk, _, hkn, _, _⟩
  · have HK : Hid (find (isId Z x) 0 n = -1) := hk
    clear hk
    go_enter Try.func38, Try.ntmps38
    go_wp2_with fail
    refine (reqIndex_any a n cap w.heap.size Q Z x _ h' hn (by simp [go_sem])).mono ?_
    rintro e w1 ⟨rfl, hb1⟩
    rw [HK.out]
    go_wp2_with fail
    go_ret
    exact ⟨congrArg Ending.returned (by rw [HK.out]; rfl), hb0.trans (hb1.mono (by simp))⟩
  · have HK : Hid (find (isId Z x) 0 n = k) := hk
    clear hk
    have hk0 : k < n := by omega
    go_enter Try.func38, Try.ntmps38
    go_wp2_with fail
    refine (reqIndex_any a n cap w.heap.size Q Z x _ h' hn (by simp [go_sem])).mono ?_
    rintro e w1 ⟨rfl, hb1⟩
    rw [HK.out]
    have hd1 : w1.cell? ⟨D, 9, none⟩ = some (.slice a n cap) := by rw [hb1.cell (cell_lt hd')]; exact hd'
    obtain ⟨xb, xo, rfl, h1, h2⟩ := (h'.below hb1) k hk0
    clear h h' hd hd'
    go_wp2_with fail
    go_ret
    exact ⟨congrArg Ending.returned (by rw [HK.out, reqAt_nat]; rfl), hb0.trans (hb1.mono (by simp))⟩

set_option maxHeartbeats 400000 in
theorem zzRequest_any (D : Nat) (a : Option Addr) (n cap : Nat) (Q : Nat → Nat) (Z : Nat → Int) (x : Int) (w : World) (h : ReqsAt w a n Q Z) (hn : n ≤ 131073) (hd : w.cell? ⟨D, 9, none⟩ = some (.slice a n cap)) :
    Calls Try.prog 27 #[.pointer (some ⟨D, 0, none⟩), .int .i64 x] w fun e w' => e = .returned (reqAt Q (find (isId Z x) 0 n)) ∧ Below w.heap.size w w' := by
  go_enter Try.func27, Try.ntmps27
  go_wp2_with fail
  refine (request_any D a n cap Q Z x _ h hn hd).mono ?_
  rintro e w1 ⟨rfl, hb1⟩
  go_wp2_with fail
  go_ret
  exact ⟨rfl, hb1⟩

set_option maxHeartbeats 400000 in
theorem requestID_any (q : Nat) (v : Int) (w : World) (hq : w.cell? ⟨q, 0, none⟩ = some (.int .i64 v)) :
    Calls Try.prog 30 #[.pointer (some ⟨q, 0, none⟩)] w fun e w' => e = .returned (.int .i64 v) ∧ w' = w := by
  go_enter Try.func30, Try.ntmps30
  go_wp2
  go_ret
  exact ⟨rfl, rfl⟩

theorem info56 : (Try.prog.info? 56).map (fun i => (i.zero, i.size, i.bytes)) = some (some (.pointer none), 1, 8) := by kernel_rfl

/-- After k rounds of buildRequests. -/
def Requests (B : Nat) (w wr : World) (n k : Nat) (Z : Nat → Int) : Prop :=
  ∃ f : Nat → Value, wr.rowIs B 56 n f ∧ wr.heap.size = B + 1 + k ∧ (∀ j, j < k → f j = .pointer (some ⟨B + 1 + j, 0, none⟩) ∧ wr.cell? ⟨B + 1 + j, 0, none⟩ = some (.int .i64 (Z j))) ∧ Below B w wr

theorem Requests.step {B : Nat} {w wr : World} {n k : Nat} {Z : Nat → Int} (h : Requests B w wr n k Z) (v : Value) (hv : v = .pointer (some ⟨wr.heap.size, 0, none⟩)) :
    Requests B w ((wr.setCell ⟨B, k, none⟩ v).alloc (.cells (reqCells (Z k)) 85)) n (k + 1) Z := by
  obtain ⟨f, hrow, hs, hf, hb⟩ := h
  have hs' : ((wr.setCell ⟨B, k, none⟩ v).alloc (.cells (reqCells (Z k)) 85)).heap.size = B + 1 + (k + 1) := by simp [World.setCell, hs]; omega
  refine ⟨_, (hrow.set k v).alloc _, hs', fun j hj => ?_, (hb.setCell (Nat.le_refl _) _).alloc (by simp [World.setCell]; omega) _⟩
  by_cases e : j = k
  · subst e
    refine ⟨by simp [hv, hs], ?_⟩
    have := World.rowIs_alloc (wr.setCell ⟨B, j, none⟩ v) (reqCells (Z j)) 85 (fun i => (reqCells (Z j)).getD i undef) (fun i hi => by simp [hi])
    have hc := this.cell (i := 0) (by simp [reqCells])
    rw [show (wr.setCell ⟨B, j, none⟩ v).heap.size = B + 1 + j by simp [World.setCell, hs]] at hc
    rw [hc]; rfl
  · obtain ⟨g1, g2⟩ := hf j (by omega)
    refine ⟨by simp [e, g1], ?_⟩
    have hb' : Below wr.heap.size (wr.setCell ⟨B, k, none⟩ v) ((wr.setCell ⟨B, k, none⟩ v).alloc (.cells (reqCells (Z k)) 85)) := (Below.refl _ _).alloc (by simp [World.setCell]) _
    rw [hb'.cell (by have := cell_lt g2; simpa using this)]
    rw [← g2]
    exact World.cell?_of_block (Below.heap_setCell _ _ _ _ (by simp; omega))

theorem Requests.done {B : Nat} {w wr : World} {n : Nat} {Z : Nat → Int} (h : Requests B w wr n n Z) :
    Below B w wr ∧ ReqsAt wr (some ⟨B, 0, none⟩) n (fun j => B + 1 + j) Z := by
  obtain ⟨f, hrow, hs, hf, hb⟩ := h
  refine ⟨hb, fun i hi => ⟨_, _, rfl, ?_, (hf i hi).2⟩⟩
  rw [Nat.zero_add, hrow.cell hi, (hf i hi).1]

set_option maxHeartbeats 1000000 in
/-- buildRequests. -/
theorem buildReq_any (a : Option Addr) (n cap : Nat) (Z : Nat → Int) (w : World) (h : IdsAt w a n Z) (hn : n ≤ 131072) :
    Calls Try.prog 26 #[.slice a n cap] w fun e w' => e = .returned (.slice (some ⟨w.heap.size, 0, none⟩) n n) ∧ Below w.heap.size w w' ∧ ReqsAt w' (some ⟨w.heap.size, 0, none⟩) n (fun j => w.heap.size + 1 + j) Z := by
  have hmk := run_make_row' (P := Try.prog) 54 56 (.pointer none) 8 Try.underlying54 info56 rfl .i64 .i64 n (by omega) (by omega)
  go_enter Try.func26, Try.ntmps26
  go_wp2_with fail
  clear hmk
  go_loopw [4] (fun i wr => ∃ (k : Nat), k ≤ n ∧ i = .int .i64 k ∧ Requests w.heap.size w wr n k Z) (fun i _ => n - (intOf i).toNat)
  case atStart =>
    exact ⟨0, Nat.zero_le _, rfl, _, World.rowIs_made _ _ _ _, by simp, fun j hj => by omega, (Below.refl _ _).alloc (Nat.le_refl _) _⟩
  case round =>
    obtain ⟨k, hk, rfl, hbd⟩ := hrel
    obtain ⟨f, hrow, -, -, hb⟩ := id hbd
    have hsz := hb.size
    by_cases hlt : k < n
    · obtain ⟨xb, xo, rfl, h1⟩ := (h.below hb) k hlt
      have hl1 := cell_lt h1
      have hc1 := hrow.cell (i := k) (by omega)
      have hfr1 := hrow.frozen k
      have hlw := hrow.lt
      clear h
      go_wp2_with fail
      refine (newRequest_any (Z k) _).mono ?_
      rintro e w1 ⟨rfl, rfl⟩
      go_wp2_with fail
      go_roundw
      case rel => exact ⟨k + 1, by omega, by go_num, hbd.step _ rfl⟩
      case measure => simp [intOf]; omega
    · have hkn : k = n := by omega
      subst hkn
      clear h
      go_wp2_with fail
      go_ret
      exact ⟨rfl, hbd.done⟩
end Go.Proofs.Qxb6613659a

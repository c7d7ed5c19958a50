import Derived.Test.Qxb6613659aBase
import Derived.Deep.OwnRows
import Derived.Deep.QuietTactic
import Derived.BigQuiet
import Derived.Deep.LoopGhost
namespace Go.Proofs.Qxb6613659a
set_option linter.unusedVariables false
open Go.RowKit Go.Deep

/-- A row of bytes that is read. -/
def RowAt (w : World) (a : Option Addr) (l : Nat) (x : Nat → Int) : Prop :=
  ∀ j, j < l → ∃ b off, a = some ⟨b, off, none⟩ ∧ w.cell? ⟨b, off + j, none⟩ = some (.int .u8 (x j))

theorem RowAt.below {w w' : World} {a : Option Addr} {l : Nat} {x : Nat → Int} (h : RowAt w a l x) (hb : Below w.heap.size w w') : RowAt w' a l x := by
  intro i hi
  obtain ⟨b, off, hx, h1⟩ := h i hi
  exact ⟨b, off, hx, by rw [hb.cell (cell_lt h1)]; exact h1⟩

theorem RowAt.same {w w' : World} {a : Option Addr} {l : Nat} {x : Nat → Int} (h : RowAt w a l x) (e : w'.heap = w.heap) : RowAt w' a l x := by
  intro i hi
  obtain ⟨b, off, hx, h1⟩ := h i hi
  exact ⟨b, off, hx, by rw [← h1]; simp [World.cell?, e]⟩

/-- A list of rows of bytes that is read: the i-th is the slice 'A i', 'L i', 'C i', its bytes 'X i'. -/
def OctsAt (w : World) (u : Option Addr) (m : Nat) (A : Nat → Option Addr) (L C : Nat → Nat) (X : Nat → Nat → Int) : Prop :=
  ∀ i, i < m → (∃ b off, u = some ⟨b, off, none⟩ ∧ w.cell? ⟨b, off + i, none⟩ = some (.slice (A i) (L i) (C i))) ∧ RowAt w (A i) (L i) (X i)

theorem OctsAt.below {w w' : World} {u : Option Addr} {m : Nat} {A : Nat → Option Addr} {L C : Nat → Nat} {X : Nat → Nat → Int} (h : OctsAt w u m A L C X) (hb : Below w.heap.size w w') : OctsAt w' u m A L C X := by
  intro i hi
  obtain ⟨⟨b, off, hx, h1⟩, h2⟩ := h i hi
  exact ⟨⟨b, off, hx, by rw [hb.cell (cell_lt h1)]; exact h1⟩, h2.below hb⟩

/-- Some int is returned; where it is within the bound, so are the lengths. -/
def Summed (m : Nat) (L : Nat → Nat) (e : Ending) : Prop := ∃ t, e = .returned (.int .i64 t) ∧ (t ≤ 1048576 → ∀ i, i < m → L i ≤ 1048576)

set_option maxHeartbeats 400000 in
/-- sumOctets. -/
theorem sumOctets_any (s0 : Int) (u : Option Addr) (m cap : Nat) (A : Nat → Option Addr) (L C : Nat → Nat) (X : Nat → Nat → Int) (w : World) (h : OctsAt w u m A L C X) (hm : m ≤ 65536) :
    Calls Try.prog 15 #[.int .i64 s0, .slice u m cap] w fun e w' => Summed m L e ∧ w' = w := by
  go_enter Try.func15, Try.ntmps15
  go_wp2
  go_loop [0, 5] (fun t i => ∃ (k : Nat) (s : Int), k ≤ m ∧ i = .int .i64 k ∧ t = .int .i64 s ∧ ∀ j, j < k → L j ≤ 1048576) (fun _ i => m - (intOf i).toNat)
  case atStart => exact ⟨0, _, Nat.zero_le _, rfl, rfl, fun j hj => by omega⟩
  case round =>
    obtain ⟨k, s, hk, rfl, rfl, hl⟩ := hrel
    have HL : Hid (∀ j, j < k → L j ≤ 1048576) := hl
    clear hl
    by_cases hlt : k < m
    · obtain ⟨⟨xb, xo, rfl, h1⟩, -⟩ := h k hlt
      clear h
      by_cases hbig : 1048576 < L k
      · go_wp2
        go_ret
        exact ⟨⟨1048577, rfl, fun ht => by omega⟩, rfl⟩
      · go_wp2
        · go_ret
          exact ⟨⟨_, rfl, fun ht => by omega⟩, rfl⟩
        · go_round
          case rel => exact ⟨k + 1, _, by omega, by go_num, rfl, fun j hj => by
            by_cases e : j = k
            · rw [e]; omega
            · exact HL.out j (by omega)⟩
          case measure => simp [intOf]; omega
    · go_wp2
      go_ret
      exact ⟨⟨_, rfl, fun _ i hi => HL.out i (by omega)⟩, rfl⟩

set_option maxHeartbeats 400000 in
/-- sameBytes on two rows of the same bytes. -/
theorem sameBytes_any (a b : Option Addr) (l ca cb : Nat) (x : Nat → Int) (w : World) (ha : RowAt w a l x) (hb : RowAt w b l x) (hl : l ≤ 1048576) :
    Calls Try.prog 36 #[.slice a l ca, .slice b l cb] w fun e w' => e = .returned (.bool true) ∧ ∃ n, w' = w.drewN n := by
  go_enter Try.func36, Try.ntmps36
  go_wp2
  go_loopg [5] l (fun g i wr => ∃ (k d : Nat), g = l - k ∧ k ≤ l ∧ i = .int .i64 k ∧ wr = w.drewN d)
  case atStart => exact ⟨0, 0, rfl, Nat.zero_le _, rfl, rfl⟩
  case round =>
    obtain ⟨k, d, hg, hk, rfl, rfl⟩ := hrel
    have HG : Hid (gk = l - k) := hg
    clear hg
    by_cases hlt : k < l
    · obtain ⟨b1, o1, rfl, h1⟩ := ha k hlt
      obtain ⟨b2, o2, rfl, h2⟩ := hb k hlt
      clear ha hb
      have hkl : (k : Int) < l := by omega
      go_wp2
      go_quiet (fail)
      go_wp2
      go_roundg (l - (k + 1))
      case measure => have := HG.out; omega
      case rel => exact ⟨k + 1, _, rfl, by omega, by go_num, rfl⟩
    · go_wp2
      go_ret
      exact ⟨rfl, d, rfl⟩

set_option maxHeartbeats 400000 in
/-- sameOctets on two lists of the same rows. -/
theorem sameOctets_any (u v : Option Addr) (m cu cv : Nat) (A A2 : Nat → Option Addr) (L C C2 : Nat → Nat) (X : Nat → Nat → Int) (w : World) (hu : OctsAt w u m A L C X) (hv : OctsAt w v m A2 L C2 X) (hm : m ≤ 65536) (hl : ∀ i, i < m → L i ≤ 1048576) :
    Calls Try.prog 19 #[.slice u m cu, .slice v m cv] w fun e w' => e = .returned (.bool true) ∧ ∃ n, w' = w.drewN n := by
  go_enter Try.func19, Try.ntmps19
  go_wp2
  go_loopg [5] m (fun g i wr => ∃ (k d : Nat), g = m - k ∧ k ≤ m ∧ i = .int .i64 k ∧ wr = w.drewN d)
  case atStart => exact ⟨0, 0, rfl, Nat.zero_le _, rfl, rfl⟩
  case round =>
    obtain ⟨k, d, hg, hk, rfl, hwr⟩ := hrel
    have HG : Hid (gk = m - k) := hg
    have HW : Hid (wr = w.drewN d) := hwr
    have hheap : wr.heap = w.heap := by rw [hwr]; rfl
    have hbw : Below w.heap.size w wr := by rw [hwr]; exact below_drewN (Below.refl _ _) _
    clear hg hwr
    by_cases hlt : k < m
    · obtain ⟨⟨b1, o1, rfl, h1⟩, r1⟩ := (hu.below hbw) k hlt
      obtain ⟨⟨b2, o2, rfl, h2⟩, r2⟩ := (hv.below hbw) k hlt
      have hlk := hl k hlt
      clear hu hv hl hheap hbw
      have hkl : (k : Int) < m := by omega
      go_wp2_with fail
      go_quiet ((go_at_call 36; exact Calls.quiet_of (sameBytes_any (A k) (A2 k) (L k) (C k) (C2 k) (X k) _ (r1.same rfl) (r2.same rfl) hlk)))
      go_wp2_with fail
      go_roundg (m - (k + 1))
      case measure => have := HG.out; omega
      case rel => exact ⟨k + 1, _, rfl, by omega, by go_num, by rw [HW.out, World.drewN_drewN]⟩
    · clear hu hv hl hheap hbw
      go_wp2_with fail
      go_ret
      exact ⟨rfl, d, HW.out⟩

set_option maxHeartbeats 400000 in
/-- sameOctetLists on two lists of the same rows. -/
theorem sameOctetLists_any (u v : Option Addr) (m cu cv : Nat) (A A2 : Nat → Option Addr) (L C C2 : Nat → Nat) (X : Nat → Nat → Int) (w : World) (hu : OctsAt w u m A L C X) (hv : OctsAt w v m A2 L C2 X) (hm : m ≤ 65536) (hl : ∀ i, i < m → L i ≤ 1048576) :
    Calls Try.prog 37 #[.slice u m cu, .slice v m cv] w fun e w' => e = .returned (.bool true) ∧ ∃ n, w' = w.drewN n := by
  go_enter Try.func37, Try.ntmps37
  go_wp2
  go_loopg [5] m (fun g i wr => ∃ (k d : Nat), g = m - k ∧ k ≤ m ∧ i = .int .i64 k ∧ wr = w.drewN d)
  case atStart => exact ⟨0, 0, rfl, Nat.zero_le _, rfl, rfl⟩
  case round =>
    obtain ⟨k, d, hg, hk, rfl, hwr⟩ := hrel
    have HG : Hid (gk = m - k) := hg
    have HW : Hid (wr = w.drewN d) := hwr
    have hheap : wr.heap = w.heap := by rw [hwr]; rfl
    have hbw : Below w.heap.size w wr := by rw [hwr]; exact below_drewN (Below.refl _ _) _
    clear hg hwr
    by_cases hlt : k < m
    · obtain ⟨⟨b1, o1, rfl, h1⟩, r1⟩ := (hu.below hbw) k hlt
      obtain ⟨⟨b2, o2, rfl, h2⟩, r2⟩ := (hv.below hbw) k hlt
      have hlk := hl k hlt
      clear hu hv hl hheap hbw
      have hkl : (k : Int) < m := by omega
      go_wp2_with fail
      go_quiet ((go_at_call 36; exact Calls.quiet_of (sameBytes_any (A k) (A2 k) (L k) (C k) (C2 k) (X k) _ (r1.same rfl) (r2.same rfl) hlk)))
      go_wp2_with fail
      go_roundg (m - (k + 1))
      case measure => have := HG.out; omega
      case rel => exact ⟨k + 1, _, rfl, by omega, by go_num, by rw [HW.out, World.drewN_drewN]⟩
    · clear hu hv hl hheap hbw
      go_wp2_with fail
      go_ret
      exact ⟨rfl, d, HW.out⟩

end Go.Proofs.Qxb6613659a

import Derived.Test.Qxb6613659aObj
import Derived.Deep.RegionWith
import Derived.Deep.OwnRows
namespace Go.Proofs.Qxb6613659a
set_option linter.unusedVariables false
open Go.RowKit Go.Deep

set_option maxHeartbeats 400000 in
theorem member_any (s : ByteArray) (v : Int) (w : World) :
    Calls Try.prog 33 #[.string s, .int .i64 v] w fun e w' => e = .returned (.agg #[.string s, .iface 2 (.int .i64 v)]) ∧ w' = w.alloc (.cells #[.string s, .iface 2 (.int .i64 v)] 49) := by
  go_enter Try.func33, Try.ntmps33
  go_wp2_with fail
  exact bodyPost_ret (v := .agg #[.string s, .iface 2 (.int .i64 v)]) (by simp [results, Try.results33, go_sem]) rfl ⟨rfl, rfl⟩

theorem info49 : (Try.prog.info? 49).map (fun i => (i.zero, i.size, i.bytes)) = some (some (.agg #[.string ByteArray.empty, .nilIface]), 2, 32) := by kernel_rfl

/-- What make lays for an Object. -/
theorem make_obj (n : Nat) (hn : n ≤ 65537) (wx : World) : (Instr.makeSlice 26 (.int .i64 n) (.int .i64 n)).run Try.prog wx = .ok (.slice (some ⟨wx.heap.size, 0, none⟩) n n) (wx.alloc (.cells (madeCells #[.string ByteArray.empty, .nilIface] (n * 2)) 49)) := by
  obtain ⟨i, hi, he⟩ := Option.map_eq_some_iff.1 info49
  simp only [Prod.mk.injEq] at he
  obtain ⟨hz, hs, hb⟩ := he
  have := run_make (P := Try.prog) wx 26 49 i _ Try.underlying26 hi hz .i64 .i64 n n (by omega) (by omega) (by rw [hb]; omega) (by omega)
  rw [hs] at this
  simp only [Int.toNat_natCast] at this
  exact this

theorem made_row (w : World) (n : Nat) : ∃ f, (w.alloc (.cells (madeCells #[.string ByteArray.empty, .nilIface] (n * 2)) 49)).rowIs w.heap.size 49 (n * 2) f := by
  have := World.rowIs_alloc w (madeCells #[.string ByteArray.empty, .nilIface] (n * 2)) 49 (fun i => (madeCells #[.string ByteArray.empty, .nilIface] (n * 2)).getD i undef) (fun i hi => by simp [hi])
  rw [size_madeCells] at this
  exact ⟨_, this⟩

/-- After k rounds of buildObject: the block B holds the first k members. -/
def Building (B : Nat) (w wr : World) (n k : Nat) (N : Nat → ByteArray) (V : Nat → Int) : Prop :=
  ∃ f : Nat → Value, wr.rowIs B 49 (n * 2) f ∧ (∀ j, j < k → f (j * 2) = .string (N j) ∧ f (j * 2 + 1) = .iface 2 (.int .i64 (V j))) ∧ Below B w wr

theorem Building.step {B : Nat} {w wr : World} {n k : Nat} {N : Nat → ByteArray} {V : Nat → Int} (h : Building B w wr n k N V) (hB : B ≤ wr.heap.size) :
    Building B w (((wr.setCell ⟨B, k * 2, none⟩ (.string (N k))).setCell ⟨B, k * 2 + 1, none⟩ (.iface 2 (.int .i64 (V k)))).alloc (.cells #[.string (N k), .iface 2 (.int .i64 (V k))] 49)).drew n (k + 1) N V := by
  obtain ⟨f, hrow, hf, hb⟩ := h
  refine ⟨_, (((hrow.set (k * 2) _).set (k * 2 + 1) _).alloc _).drew, fun j hj => ?_, (((hb.setCell (Nat.le_refl _) _).setCell (Nat.le_refl _) _).alloc (by simpa [World.setCell] using hB) _).drew⟩
  by_cases e : j = k
  · subst e
    simp
  · have := hf j (by omega)
    simp only [show ¬ j * 2 = k * 2 + 1 by omega, show ¬ j * 2 = k * 2 by omega, show ¬ j * 2 + 1 = k * 2 + 1 by omega, show ¬ j * 2 + 1 = k * 2 by omega, if_false]
    exact this

theorem Building.done {B : Nat} {w wr : World} {n : Nat} {N : Nat → ByteArray} {V : Nat → Int} (h : Building B w wr n n N V) :
    Below B w wr ∧ ObjAt wr (some ⟨B, 0, none⟩) n N (fun i => .iface 2 (.int .i64 (V i))) := by
  obtain ⟨f, hrow, hf, hb⟩ := h
  refine ⟨hb, fun i hi => ⟨_, _, rfl, ?_, ?_⟩⟩
  · rw [Nat.zero_add, hrow.cell (by omega), (hf i hi).1]
  · rw [Nat.zero_add, hrow.cell (by omega), (hf i hi).2]

set_option maxHeartbeats 1000000 in
/-- buildObject: a new row with the members in order. -/
theorem build_any (a : Option Addr) (n cap : Nat) (N : Nat → ByteArray) (V : Nat → Int) (w : World) (h : PairsAt w a n N V) (hn : n ≤ 65536) :
    Calls Try.prog 10 #[.slice a n cap] w fun e w' => e = .returned (.slice (some ⟨w.heap.size, 0, none⟩) n n) ∧ Below w.heap.size w w' ∧ ObjAt w' (some ⟨w.heap.size, 0, none⟩) n N (fun i => .iface 2 (.int .i64 (V i))) := by
  have hmk := make_obj n (by omega)
  go_enter Try.func10, Try.ntmps10
  go_wp2_with fail
  clear hmk
  go_loopw [4] (fun i wr => ∃ (k : Nat), k ≤ n ∧ i = .int .i64 k ∧ Building w.heap.size w wr n k N V) (fun i _ => n - (intOf i).toNat)
  case atStart =>
    obtain ⟨f, hf⟩ := made_row w n
    exact ⟨0, Nat.zero_le _, rfl, f, hf, fun j hj => by omega, (Below.refl _ _).alloc (Nat.le_refl _) _⟩
  case round =>
    obtain ⟨k, hk, rfl, hbd⟩ := hrel
    obtain ⟨f, hrow, _, hb⟩ := id hbd
    have hsz := hb.size
    by_cases hlt : k < n
    · obtain ⟨xb, xo, rfl, h1, h2⟩ := (h.below hb) k hlt
      have hl1 := cell_lt h1
      have hc1 := hrow.cell (i := k * 2) (by omega)
      have hc2 := hrow.cell (i := k * 2 + 1) (by omega)
      have hfr1 := hrow.frozen (k * 2)
      have hfr2 := hrow.frozen (k * 2 + 1)
      have hlw := hrow.lt
      clear h
      go_wp2_with fail
      go_region_with (go_at_call 33; refine (member_any _ _ _).mono ?_; rintro e w1 ⟨rfl, rfl⟩)
      all_goals
        go_wp2_with fail
        go_roundw
        case rel => exact ⟨k + 1, by omega, by go_num, hbd.step hsz⟩
        case measure => simp [intOf]; omega
    · have hkn : k = n := by omega
      subst hkn
      clear h
      go_wp2_with fail
      go_ret
      exact ⟨rfl, hbd.done⟩
end Go.Proofs.Qxb6613659a

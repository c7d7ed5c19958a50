import Derived.Test.Qxb6613659aOct
import Derived.Laws.CopyOwn
import Derived.Deep.Cut
import Derived.Lib.SliceRun
namespace Go.Proofs.Qxb6613659a
set_option linter.unusedVariables false
open Go.RowKit Go.Deep

theorem info67 : (Try.prog.info? 67).map (fun i => (i.zero, i.size, i.bytes)) = some (some (.slice none 0 0), 1, 24) := by kernel_rfl
theorem info5 : (Try.prog.info? 5).map (fun i => (i.zero, i.size, i.bytes)) = some (some (.int .u8 0), 1, 1) := by kernel_rfl
theorem size5 : (Try.prog.info? 5).map (·.size) = some 1 := by kernel_rfl

theorem made_replicate5 (z : Value) (n : Nat) : madeCells #[z] n = (List.replicate n z).toArray := by
  apply Array.ext
  · simp [madeCells]
  · intro i h1 h2
    simp [madeCells, Nat.mod_one]

theorem made_heap5 (w : World) (z : Value) (n : Nat) : (w.alloc (.cells (madeCells #[z] n) 5)).heap[w.heap.size]? = some (.cells (List.replicate n z).toArray 5 (0, 0)) := by
  rw [← made_replicate5]
  exact blk_alloc_new _ _

/-- Bytes as cells. -/
def byteRow (x : Nat → Int) (n : Nat) : List Value := (List.range n).map fun i => .int .u8 (x i)

theorem splice_bytes (n : Nat) (z : Value) (x : Nat → Int) : splice (List.replicate n z) 0 (byteRow x n) = byteRow x n := by
  simp [splice, byteRow]

theorem row_of_bytes {w : World} {g n : Nat} {x : Nat → Int} (h : w.heap[g]? = some (.cells (byteRow x n).toArray 5 (0, 0))) : RowAt w (some ⟨g, 0, none⟩) n x := by
  intro j hj
  refine ⟨g, 0, rfl, ?_⟩
  simp [World.cell?, h, byteRow, hj]

theorem bytes_src {w : World} {a : Option Addr} {n : Nat} {x : Nat → Int} (h : RowAt w a n x) (hn : 0 < n) :
    ∃ ad, a = some ad ∧ ∀ (j : Nat) (v : Value), (byteRow x n)[j]? = some v → w.cell? (ad.add j) = some v := by
  obtain ⟨b, off, rfl, _⟩ := h 0 hn
  refine ⟨_, rfl, fun j v hv => ?_⟩
  have hj : j < n := by
    have := (List.getElem?_eq_some_iff.1 hv).1
    simpa [byteRow] using this
  obtain ⟨b', off', e, h2⟩ := h j hj
  obtain ⟨rfl, rfl⟩ : b' = b ∧ off' = off := by simpa [eq_comm] using e
  rw [Go.Addr.add_lit, h2]
  simpa [byteRow, hj] using hv

theorem RowAt.setOther {w : World} {a : Option Addr} {n P k : Nat} {x : Nat → Int} (h : RowAt w a n x) (hP : ∀ y, a = some y → P < y.block) (v : Value) : RowAt (w.setCell ⟨P, k, none⟩ v) a n x := by
  intro j hj
  obtain ⟨b, off, rfl, h1⟩ := h j hj
  refine ⟨b, off, rfl, ?_⟩
  have := hP _ rfl
  rw [← h1]
  exact World.cell?_of_block (Below.heap_setCell _ _ _ _ (by simp at this ⊢; omega))

/-- After k rounds of toOctets. -/
def Octing (w wr : World) (P m k : Nat) (L : Nat → Nat) (X : Nat → Nat → Int) : Prop :=
  ∃ (f : Nat → Value) (A' : Nat → Option Addr) (C' : Nat → Nat), wr.rowIs P 67 m f ∧ (∀ j, j < k → f j = .slice (A' j) (L j) (C' j) ∧ RowAt wr (A' j) (L j) (X j) ∧ ∀ y, A' j = some y → P < y.block) ∧
    (∀ j, k ≤ j → j < m → f j = .slice none 0 0) ∧ Below P w wr

theorem Octing.skip {w wr : World} {P m k : Nat} {L : Nat → Nat} {X : Nat → Nat → Int} (h : Octing w wr P m k L X) (hk : k < m) (hl : L k = 0) : Octing w wr P m (k + 1) L X := by
  obtain ⟨f, A', C', hrow, hdone, hrest, hb⟩ := h
  refine ⟨f, fun j => if j = k then none else A' j, fun j => if j = k then 0 else C' j, hrow, fun j hj => ?_, fun j h1 h2 => hrest j (by omega) h2, hb⟩
  by_cases e : j = k
  · subst e
    refine ⟨by simp [hrest j (Nat.le_refl _) hk, hl], fun i hi => by omega, fun y hy => by simp at hy⟩
  · obtain ⟨h1, h2, h3⟩ := hdone j (by omega)
    simp only [e, if_false]
    exact ⟨h1, h2, h3⟩

theorem Octing.put {w wr w2 : World} {P m k : Nat} {L : Nat → Nat} {X : Nat → Nat → Int} (h : Octing w wr P m k L X) (hk : k < m) (hb2 : Below wr.heap.size wr w2)
    (hg : w2.heap[wr.heap.size]? = some (.cells (byteRow (X k) (L k)).toArray 5 (0, 0))) :
    Octing w (w2.setCell ⟨P, k, none⟩ (.slice (some ⟨wr.heap.size, 0, none⟩) (L k) (L k))) P m (k + 1) L X := by
  obtain ⟨f, A', C', hrow, hdone, hrest, hb⟩ := h
  have hP := hrow.lt
  refine ⟨_, fun j => if j = k then some ⟨wr.heap.size, 0, none⟩ else A' j, fun j => if j = k then L k else C' j, (hrow.of_block (hb2.block P hP)).set k _, fun j hj => ?_, fun j h1 h2 => ?_, ?_⟩
  · by_cases e : j = k
    · subst e
      simp only [if_true]
      refine ⟨trivial, (row_of_bytes hg).setOther (fun y hy => ?_) _, fun y hy => ?_⟩
      · simp at hy; subst hy; exact hP
      · simp at hy; subst hy; exact hP
    · obtain ⟨h1, h2, h3⟩ := hdone j (by omega)
      simp only [e, if_false]
      exact ⟨h1, (h2.below hb2).setOther h3 _, h3⟩
  · simp only [show ¬ j = k by omega, if_false]
    exact hrest j (by omega) h2
  · exact (hb.trans (hb2.mono (Nat.le_of_lt hP))).setCell (Nat.le_refl _) _

theorem Octing.done {w wr : World} {P m : Nat} {L : Nat → Nat} {X : Nat → Nat → Int} (h : Octing w wr P m m L X) :
    ∃ A' C', OctsAt wr (some ⟨P, 0, none⟩) m A' L C' X ∧ Below P w wr := by
  obtain ⟨f, A', C', hrow, hdone, hrest, hb⟩ := h
  refine ⟨A', C', fun i hi => ⟨⟨P, 0, rfl, ?_⟩, (hdone i hi).2.1⟩, hb⟩
  rw [Nat.zero_add, hrow.cell hi, (hdone i hi).1]

/-- What toOctets answers: the same rows, in new memory. -/
def Copied (w w' : World) (m : Nat) (L : Nat → Nat) (X : Nat → Nat → Int) (e : Ending) : Prop :=
  ∃ u' A' C', e = .returned (.slice u' m m) ∧ OctsAt w' u' m A' L C' X ∧ Below w.heap.size w w'

set_option maxHeartbeats 1000000 in
set_option maxRecDepth 100000 in
/-- toOctets. -/
theorem toOctets_any (u : Option Addr) (m cap : Nat) (A : Nat → Option Addr) (L C : Nat → Nat) (X : Nat → Nat → Int) (w : World) (h : OctsAt w u m A L C X) (hm : m ≤ 65536) (hl : ∀ i, i < m → L i ≤ 1048576) :
    Calls Try.prog 17 #[.slice u m cap] w fun e w' => Copied w w' m L X e := by
  have heq := fun wx => Lib.run_eql_slice_nil (P := Try.prog) wx 32 66 u m cap 0 0 Try.underlying32
  cases u with
  | none =>
    have hm0 : m = 0 := by
      by_cases e : m = 0
      · exact e
      · obtain ⟨⟨b, off, hx, _⟩, _⟩ := h 0 (by omega)
        cases hx
    subst hm0
    go_enter Try.func17, Try.ntmps17
    go_wp2_with fail
    go_ret
    exact ⟨none, fun _ => none, fun _ => 0, rfl, fun i hi => by omega, Below.refl _ _⟩
  | some ux =>
    have hmk := run_make_row' (P := Try.prog) 36 67 (.slice none 0 0) 24 Try.underlying36 info67 rfl .i64 .i64 m (by omega) (by omega)
    go_enter Try.func17, Try.ntmps17
    go_wp2_with fail
    clear hmk heq
    go_loopg [4] m (fun g i wr => ∃ (k : Nat), g = m - k ∧ k ≤ m ∧ i = .int .i64 k ∧ Octing w wr w.heap.size m k L X)
    case atStart => exact ⟨0, rfl, Nat.zero_le _, rfl, _, fun _ => none, fun _ => 0, World.rowIs_made _ _ _ _, fun j hj => by omega, fun j _ hj => rfl, (Below.refl _ _).alloc (Nat.le_refl _) _⟩
    case round =>
      obtain ⟨k, hg, hk, rfl, hoc⟩ := hrel
      have HG : Hid (gk = m - k) := hg
      clear hg
      obtain ⟨f, A', C', hrow, -, -, hb⟩ := id hoc
      by_cases hlt : k < m
      · obtain ⟨⟨b1, o1, e1, h1⟩, r1⟩ := (h.below hb) k hlt
        obtain rfl : ux = ⟨b1, o1, none⟩ := by simpa using e1
        have hlk := hl k hlt
        have hne := fun wx => run_neq_slice_nil_any (P := Try.prog) wx 66 5 (A k) (L k) (C k) 0 0 Try.underlying66
        clear h hl e1
        cases hA : A k with
        | none =>
          rw [hA] at h1 hne r1
          have hl0 : L k = 0 := by
            by_cases e : L k = 0
            · exact e
            · obtain ⟨b, off, hx, _⟩ := r1 0 (by omega)
              cases hx
          have HL : Hid (L k = 0) := hl0
          clear hl0 hA
          go_wp2_with fail
          go_roundg (m - (k + 1))
          case measure => have := HG.out; omega
          case rel => exact ⟨k + 1, rfl, by omega, by go_num, hoc.skip hlt HL.out⟩
        | some ad =>
          rw [hA] at h1 hne r1
          clear hA
          have hmk := run_make_row' (P := Try.prog) 67 5 (.int .u8 0) 1 Try.underlying67 info5 rfl .i64 .i64 (L k) (by omega) (by omega)
          have hl1 := cell_lt h1
          go_upto_region 9 with fail
          clear hmk hne
          go_upto_region 10 with (refine wpList_copy_splice rfl (.tmp 28) (.tmp 32) 67 66 rfl 5 Try.underlying67 size5 _ _ _ _ _ _ rfl rfl wr.heap.size 0 (List.replicate (L k) (.int .u8 0)) 5 (made_heap5 _ _ _) (byteRow (X k) (L k)) ?hn ?hpos ?hfit ?h1 wr.heap.size wr ?hb (Nat.le_refl _) ?h)
          case hn => simp [byteRow]
          case hpos =>
            intro h0
            obtain ⟨ad', e, hsrc⟩ := bytes_src (r1.below ((Below.refl _ _).alloc (Nat.le_refl _) (.cells (madeCells #[.int .u8 0] (L k)) 5))) (by simpa [byteRow] using h0)
            obtain rfl : ad = ad' := by simpa using e
            exact hsrc
          case hfit => simp [byteRow]
          case h1 =>
            intro v hv
            obtain ⟨i, _, rfl⟩ := List.mem_map.1 hv
            rfl
          case hb => exact (Below.refl _ _).alloc (Nat.le_refl _) _
          intro w2 HG2 hB2
          have hrow2 := hrow.of_block (hB2.block _ hrow.lt)
          have hc2 := hrow2.cell (i := k) hlt
          have hf2 := hrow2.frozen k
          have hstep := hoc.put hlt hB2 (by have := HG2.out; rwa [splice_bytes] at this)
          clear HG2 hoc
          go_wp2_with fail
          go_roundg (m - (k + 1))
          case measure => have := HG.out; omega
          case rel => exact ⟨k + 1, rfl, by omega, by go_num, hstep⟩
      · have hkm : k = m := by omega
        subst hkm
        obtain ⟨A2, C2, ho, hb2⟩ := hoc.done
        clear h hl
        go_wp2_with fail
        go_ret
        exact ⟨_, A2, C2, rfl, ho, hb2⟩
end Go.Proofs.Qxb6613659a

import Derived.Test.Qxb6613659aReq
import Derived.Test.Qxb6613659aSort
import Derived.Laws.CopyOwn
import Derived.Deep.LoopGhost
import Derived.Deep.Cut
import Derived.Deep.CutRange
import Derived.Deep.DeepCutAuto
namespace Go.Proofs.Qxb6613659a
set_option linter.unusedVariables false
open Go.RowKit Go.Deep

theorem info2 : (Try.prog.info? 2).map (fun i => (i.zero, i.size, i.bytes)) = some (some (.int .i64 0), 1, 8) := by kernel_rfl
theorem size2 : (Try.prog.info? 2).map (·.size) = some 1 := by kernel_rfl

theorem made_replicate (z : Value) (n : Nat) : madeCells #[z] n = (List.replicate n z).toArray := by
  apply Array.ext
  · simp [madeCells]
  · intro i h1 h2
    simp [madeCells, Nat.mod_one]

theorem made_heap (w : World) (z : Value) (n : Nat) : (w.alloc (.cells (madeCells #[z] n) 2)).heap[w.heap.size]? = some (.cells (List.replicate n z).toArray 2 (0, 0)) := by
  rw [← made_replicate]
  exact blk_alloc_new _ _

/-- The ids as cells. -/
def idCells (Z : Nat → Int) (n : Nat) : List Value := (List.range n).map fun i => .int .i64 (Z i)

theorem splice_all (n : Nat) (z : Value) (Z : Nat → Int) : splice (List.replicate n z) 0 (idCells Z n) = idCells Z n := by
  simp [splice, idCells]

theorem row_of_ids {w : World} {p n : Nat} {Z : Nat → Int} (h : w.heap[p]? = some (.cells (idCells Z n).toArray 2 (0, 0))) : w.rowIs p 2 n (fun i => .int .i64 (Z i)) :=
  ⟨_, h, by simp [idCells], fun i hi => by simp [idCells, hi]⟩

theorem ids_src {w : World} {a : Option Addr} {n : Nat} {Z : Nat → Int} (h : IdsAt w a n Z) (hn : 0 < n) :
    ∃ ad, a = some ad ∧ ∀ (j : Nat) (v : Value), (idCells Z n)[j]? = some v → w.cell? (ad.add j) = some v := by
  obtain ⟨b, off, rfl, _⟩ := h 0 hn
  refine ⟨_, rfl, fun j v hv => ?_⟩
  have hj : j < n := by
    have := (List.getElem?_eq_some_iff.1 hv).1
    simpa [idCells] using this
  obtain ⟨b', off', e, h2⟩ := h j hj
  obtain ⟨rfl, rfl⟩ : b' = b ∧ off' = off := by simpa [eq_comm] using e
  rw [Go.Addr.add_lit, h2]
  simpa [idCells, hj] using hv

/-- The two rows at work. -/
structure Rows2 (w wr : World) (n p q : Nat) (A B : Nat → Int) : Prop where
  pp : w.heap.size ≤ p
  qq : w.heap.size ≤ q
  ne : p ≠ q
  rowA : wr.rowIs p 2 n (fun t => .int .i64 (A t))
  rowB : wr.rowIs q 2 n (fun t => .int .i64 (B t))
  below : Below w.heap.size w wr

theorem Rows2.swap {w wr : World} {n p q : Nat} {A B : Nat → Int} (h : Rows2 w wr n p q A B) : Rows2 w wr n q p B A := ⟨h.qq, h.pp, h.ne.symm, h.rowB, h.rowA, h.below⟩
theorem Rows2.drewN {w wr : World} {n p q : Nat} {A B : Nat → Int} (h : Rows2 w wr n p q A B) (m : Nat) : Rows2 w (wr.drewN m) n p q A B :=
  ⟨h.pp, h.qq, h.ne, h.rowA.of_block rfl, h.rowB.of_block rfl, below_drewN h.below m⟩
theorem Rows2.put {w wr : World} {n p q : Nat} {A B : Nat → Int} (h : Rows2 w wr n p q A B) (k : Nat) (v : Int) : Rows2 w (wr.setCell ⟨q, k, none⟩ (.int .i64 v)) n p q A (put B k v) :=
  ⟨h.pp, h.qq, h.ne, h.rowA.setOther h.ne _, (h.rowB.set k _).congr (fun i hi => by unfold Qxb6613659a.put; split <;> rfl), h.below.setCell h.qq _⟩

set_option maxHeartbeats 1000000 in
set_option maxRecDepth 100000 in
theorem distinct_any (a : Option Addr) (n cap : Nat) (Z : Nat → Int) (w : World) (hp : IdsAt w a n Z) (hn : n ≤ 131072) :
    Calls Try.prog 25 #[.slice a n cap] w fun e w' => (∃ b, e = .returned (.bool b) ∧ (b = true → Inj Z n)) ∧ Below w.heap.size w w' := by
  have hmk := run_make_row' (P := Try.prog) 51 2 (.int .i64 0) 8 Try.underlying51 info2 rfl .i64 .i64 n (by omega) (by omega)
  go_enter Try.func25, Try.ntmps25
  go_upto_region 3 with fail
  go_wp2_with (refine wpList_copy_splice rfl (.tmp 18) (.tmp 19) 51 51 rfl 2 Try.underlying51 size2 _ _ _ _ _ _ rfl rfl w.heap.size 0 (List.replicate n (.int .i64 0)) 2 (made_heap _ _ _) (idCells Z n) ?hn ?hpos ?hfit ?h1 w.heap.size w ?hb (Nat.le_refl _) ?h)
  case hn => simp [idCells]
  case hpos => exact fun h0 => ids_src (hp.below ((Below.refl _ _).alloc (Nat.le_refl _) _)) (by simpa [idCells] using h0)
  case hfit => simp [idCells]
  case h1 =>
    intro v hv
    obtain ⟨i, _, rfl⟩ := List.mem_map.1 hv
    rfl
  case hb => exact (Below.refl _ _).alloc (Nat.le_refl _) _
  intro w2 HG hB2
  have hrow : w2.rowIs w.heap.size 2 n (fun i => .int .i64 (Z i)) := row_of_ids (by have := HG.out; rwa [splice_all] at this)
  have hlt := hrow.lt
  clear HG hp
  have HR : Rows2 w (w2.alloc (.cells (madeCells #[.int .i64 0] n) 2)) n w.heap.size w2.heap.size Z (fun _ => 0) :=
    ⟨Nat.le_refl _, Nat.le_of_lt hlt, Nat.ne_of_lt hlt, hrow.alloc _, World.rowIs_made _ _ _ _, hB2.alloc (Nat.le_of_lt hlt) _⟩
  clear hrow hlt hB2
  go_wp2_with fail
  clear hmk
  go_loopg [4, 5, 6] 262144 (fun g sa sb sw wr => ∃ (p q wd : Nat) (A B : Nat → Int), sa = .slice (some ⟨p, 0, none⟩) n n ∧ sb = .slice (some ⟨q, 0, none⟩) n n ∧ sw = .int .i64 wd ∧ g + wd = 262145 ∧ 0 < wd ∧ Rows2 w wr n p q A B ∧ Runs A n wd ∧ ∀ x, cnt A x 0 n = cnt Z x 0 n)
  case atStart => exact ⟨_, _, 1, Z, _, rfl, rfl, rfl, rfl, by omega, HR, Runs.one _ _, fun _ => rfl⟩
  case round =>
    clear HR
    obtain ⟨p, q, wd, A, B, rfl, rfl, rfl, hg, hwd, HR, hruns, hcnt⟩ := hrel
    have HC : Hid (∀ x, cnt A x 0 n = cnt Z x 0 n) := hcnt
    clear hcnt
    have HGo : Hid (gk + wd = 262145) := hg
    clear hg
    obtain ⟨wo, rfl⟩ : ∃ wo : World, wo = wr := ⟨_, rfl⟩
    by_cases hw : wd < n
    · go_wp2_with fail
      go_loopg [7] n (fun g sl wr => ∃ (lo : Nat) (B : Nat → Int), sl = .int .i64 lo ∧ g = n - lo ∧ lo ≤ 393216 ∧ Rows2 w wr n p q A B ∧ Mid A B n wd lo)
      case atStart => exact ⟨0, B, rfl, rfl, by omega, HR, Mid.start⟩
      case round =>
        clear HR
        obtain ⟨lo, B, rfl, hg, hlo, HR, hmid⟩ := hrel
        have HGm : Hid (gk = n - lo) := hg
        clear hg
        obtain ⟨wm, rfl⟩ : ∃ wm : World, wm = wr := ⟨_, rfl⟩
        by_cases hln : lo < n
        · obtain ⟨M, hM⟩ : ∃ M, M = min (lo + wd) n := ⟨_, rfl⟩
          obtain ⟨H, hH⟩ : ∃ H, H = min (lo + 2 * wd) n := ⟨_, rfl⟩
          have HM : Hid (M = min (lo + wd) n) := hM
          have HH : Hid (H = min (lo + 2 * wd) n) := hH
          have m1 : lo ≤ M := by omega
          have m2 : M ≤ H := by omega
          have m3 : H ≤ n := by omega
          clear hM hH
          go_upto_if 40 with fail
          go_cut [8] from 28 to 94 (fun sm wx => sm = .int .i64 M ∧ wm = wx)
          case first =>
            go_wp2_with fail
            all_goals go_meet
            all_goals refine ⟨congrArg (Value.int IntKind.i64) ?_, rfl⟩
            all_goals (have := HM.out; omega)
          case rest =>
            obtain ⟨rfl, rfl⟩ := hcut
            go_upto_if 48 with fail
            go_cut [9] from 28 to 94 (fun sh wx => sh = .int .i64 H ∧ wm = wx)
            case first =>
              go_wp2_with fail
              all_goals go_meet
              all_goals refine ⟨congrArg (Value.int IntKind.i64) ?_, rfl⟩
              all_goals (have := HH.out; omega)
            case rest =>
              obtain ⟨rfl, rfl⟩ := hcut
              go_wp2_with fail
              go_loopg [10, 11, 12] (H - lo) (fun g si sj sk wr => ∃ (i j k : Nat) (B' : Nat → Int), si = .int .i64 i ∧ sj = .int .i64 j ∧ sk = .int .i64 k ∧ g = H - k ∧ Rows2 w wr n p q A B' ∧ Merge A B' lo M H i j k ∧ ∀ t, t < lo → B' t = B t)
              case atStart => exact ⟨lo, M, lo, B, rfl, rfl, rfl, rfl, HR, Merge.start m1 m2, fun _ _ => rfl⟩
              case round =>
                clear HR
                obtain ⟨i, j, k, B', rfl, rfl, rfl, hg, HR, hmg, hsame⟩ := hrel
                have HGi : Hid (gk = H - k) := hg
                have HS : Hid (∀ t, t < lo → B' t = B t) := hsame
                clear hg hsame
                have i1 := hmg.im
                have j1 := hmg.jh
                have HK : Hid (k = i + (j - M)) := hmg.hk
                by_cases hkh : k < H
                · have hcb := HR.rowB.cell (i := k) (by omega)
                  have hfb := HR.rowB.frozen k
                  have hkn : (k : Int) < n := by omega
                  by_cases hiM : i < M
                  · have hca := HR.rowA.cell (i := i) (by omega)
                    have hin : (i : Int) < n := by omega
                    by_cases hjH : j < H
                    · have hcj := HR.rowA.cell (i := j) (by omega)
                      have hjn : (j : Int) < n := by omega
                      by_cases hle : A i ≤ A j
                      · go_wp2_with fail
                        go_quiet (fail)
                        go_wp2_with fail
                        go_roundg (H - (k + 1))
                        case measure => have := HGi.out; omega
                        case rel => exact ⟨i + 1, j, k + 1, put B' k (A i), by go_num, rfl, by go_num, rfl, (HR.drewN _).put k (A i), hmg.takeLeft (hruns.left hmid.dvd (by have := HM.out; omega) (by omega)) (hruns.right hmid.dvd HM.out HH.out) hiM (fun _ => hle), fun t ht => by rw [put_other B' _ (show t ≠ k by have := HK.out; have := hmg.li; omega)]; exact HS.out t ht⟩
                      · have hd : decide (A i ≤ A j) = false := decide_eq_false hle
                        go_wp2_with fail
                        go_quiet (fail)
                        go_wp2_with fail
                        go_roundg (H - (k + 1))
                        case measure => have := HGi.out; omega
                        case rel => exact ⟨i, j + 1, k + 1, put B' k (A j), rfl, by go_num, by go_num, rfl, (HR.drewN _).put k (A j), hmg.takeRight (hruns.left hmid.dvd (by have := HM.out; omega) (by omega)) (hruns.right hmid.dvd HM.out HH.out) hjH (fun _ => by omega), fun t ht => by rw [put_other B' _ (show t ≠ k by have := HK.out; have := hmg.li; omega)]; exact HS.out t ht⟩
                    · have hd : decide ((H : Int) ≤ j) = true := decide_eq_true (by omega)
                      go_wp2_with fail
                      go_quiet (fail)
                      go_wp2_with fail
                      go_roundg (H - (k + 1))
                      case measure => have := HGi.out; omega
                      case rel => exact ⟨i + 1, j, k + 1, put B' k (A i), by go_num, rfl, by go_num, rfl, (HR.drewN _).put k (A i), hmg.takeLeft (hruns.left hmid.dvd (by have := HM.out; omega) (by omega)) (hruns.right hmid.dvd HM.out HH.out) hiM (fun h => absurd h hjH), fun t ht => by rw [put_other B' _ (show t ≠ k by have := HK.out; have := hmg.li; omega)]; exact HS.out t ht⟩
                  · have hd : decide ((i : Int) < M) = false := decide_eq_false (by omega)
                    have hjH : j < H := by have := HK.out; omega
                    have hcj := HR.rowA.cell (i := j) (by omega)
                    have hjn : (j : Int) < n := by omega
                    go_wp2_with fail
                    go_quiet (fail)
                    go_wp2_with fail
                    go_roundg (H - (k + 1))
                    case measure => have := HGi.out; omega
                    case rel => exact ⟨i, j + 1, k + 1, put B' k (A j), rfl, by go_num, by go_num, rfl, (HR.drewN _).put k (A j), hmg.takeRight (hruns.left hmid.dvd (by have := HM.out; omega) (by omega)) (hruns.right hmid.dvd HM.out HH.out) hjH (fun h => absurd h hiM), fun t ht => by rw [put_other B' _ (show t ≠ k by have := HK.out; have := hmg.li; omega)]; exact HS.out t ht⟩
                · have hdone := hmg.done hkh
                  have hstep := hmid.step hln hwd HH.out HS.out hdone.1 hdone.2
                  clear hdone
                  go_wp2_with fail
                  go_roundg (n - (lo + 2 * wd))
                  case measure => have := HGm.out; omega
                  case rel => exact ⟨lo + 2 * wd, B', by go_num, rfl, by omega, HR, hstep⟩
        · have hdone := hmid.done hln
          have HC2 : Hid (∀ x, cnt B x 0 n = cnt Z x 0 n) := fun x => (hdone.2 x).trans (HC.out x)
          have hr2 := hdone.1
          clear hdone
          go_wp2_with fail
          go_roundg (262145 - 2 * wd)
          case measure => have := HGo.out; omega
          case rel => exact ⟨q, p, 2 * wd, B, A, rfl, rfl, by go_num, by omega, by omega, HR.swap, hr2, HC2.out⟩
    · have hadj := hruns.whole hw
      clear hruns HGo
      go_wp2_with fail
      go_loopg [13] n (fun g st wr => ∃ (s : Nat), st = .int .i64 ((s : Int) + 1) ∧ g = n - s ∧ s ≤ n ∧ (∀ t, t < s → t + 1 < n → A t ≠ A (t + 1)) ∧ Rows2 w wr n p q A B)
      case atStart => exact ⟨0, rfl, rfl, by omega, fun t ht => by omega, HR⟩
      case round =>
        clear HR
        obtain ⟨s, rfl, hg, hs, hne, HR⟩ := hrel
        have HGs : Hid (gk = n - s) := hg
        have HN : Hid (∀ t, t < s → t + 1 < n → A t ≠ A (t + 1)) := hne
        clear hg hne
        by_cases hsn : s + 1 < n
        · have hc1 := HR.rowA.cell (i := s) (by omega)
          have hc2 := HR.rowA.cell (i := s + 1) (by omega)
          have hb1 : (s : Int) < n := by omega
          have hb2 : (s : Int) + 1 < n := by omega
          by_cases he : A s = A (s + 1)
          · have hd : (A s == A (s + 1)) = true := beq_iff_eq.2 he
            have HE : Hid (A s = A (s + 1)) := he
            clear he
            go_wp2_with fail
            go_quiet (fail)
            go_wp2_with fail
            go_ret
            exact ⟨⟨false, rfl, fun h => by cases h⟩, below_drewN HR.below _⟩
          · have hd : (A s == A (s + 1)) = false := beq_eq_false_iff_ne.2 he
            go_wp2_with fail
            go_quiet (fail)
            go_wp2_with fail
            go_roundg (n - (s + 1))
            case measure => have := HGs.out; omega
            case rel => exact ⟨s + 1, by go_num, rfl, by omega, fun t ht h1 => by
              by_cases e : t = s
              · rw [e]; exact he
              · exact HN.out t (by omega) h1, HR.drewN _⟩
        · have hin : Inj Z n := inj_of_cnt fun x => by
            rw [← HC.out x]
            exact cnt_le_one (inj_of_adj hadj fun t ht => HN.out t (by omega) ht)
          have hbel := HR.below
          go_wp2_with fail
          go_ret
          exact ⟨⟨true, rfl, fun _ => hin⟩, hbel⟩
end Go.Proofs.Qxb6613659a

import Derived.Test.Qxb6613659aBuild
import Derived.Test.Qxb6613659aKeep
import Derived.Test.Qxb6613659aToOct
import Derived.Deep.CutRange
import Derived.Deep.DeepCutAuto
namespace Go.Proofs.Qxb6613659a
set_option linter.unusedVariables false
open Go.RowKit Go.Deep

set_option maxHeartbeats 1000000 in
/-- zzBytes_FnKeepUnknownCommutesWithPrefix answers some bool and turns nothing. -/
theorem bytes20 (a u : Option Addr) (n cap m cu : Nat) (N : Nat → ByteArray) (V : Nat → Int) (A : Nat → Option Addr) (L C : Nat → Nat) (X : Nat → Nat → Int) (cut : Int) (w : World) (h : PairsAt w a n N V) (h2 : OctsAt w u m A L C X) :
    Calls Try.prog 20 #[.slice a n cap, .int .i64 cut, .slice u m cu] w fun e w' => SomeBool e ∧ w' = w := by
  by_cases hbig : 1048576 < n
  · go_enter Try.func20, Try.ntmps20
    go_wp2
    go_ret
    exact ⟨SomeBool.mk _, rfl⟩
  go_enter Try.func20, Try.ntmps20
  go_wp2
  go_loop [7, 8] (fun t i => ∃ (k : Nat) (s : Int), k ≤ n ∧ i = .int .i64 k ∧ t = .int .i64 s) (fun _ i => n - (intOf i).toNat)
  case atStart => exact ⟨0, _, Nat.zero_le _, rfl, rfl⟩
  case round =>
    obtain ⟨k, s, hk, rfl, rfl⟩ := hrel
    by_cases hlt : k < n
    · obtain ⟨xb, xo, rfl, h1, -⟩ := h k hlt
      clear h h2
      go_wp2
      · go_ret; exact ⟨SomeBool.mk _, rfl⟩
      · go_ret; exact ⟨SomeBool.mk _, rfl⟩
      · go_round
        case rel => exact ⟨k + 1, _, by omega, by go_num, rfl⟩
        case measure => simp [intOf]; omega
    · by_cases hbm : 1048576 < m
      · go_wp2
        go_ret; exact ⟨SomeBool.mk _, rfl⟩
      go_wp2
      · go_ret; exact ⟨SomeBool.mk _, rfl⟩
      go_loop [7, 9] (fun t i => ∃ (k : Nat) (s : Int), k ≤ m ∧ i = .int .i64 k ∧ t = .int .i64 s) (fun _ i => m - (intOf i).toNat)
      case atStart => exact ⟨0, _, Nat.zero_le _, rfl, rfl⟩
      case round =>
        obtain ⟨k, s, hk, rfl, rfl⟩ := hrel
        by_cases hlt : k < m
        · obtain ⟨⟨xb, xo, rfl, h1⟩, -⟩ := h2 k hlt
          clear h h2
          go_wp2
          · go_ret; exact ⟨SomeBool.mk _, rfl⟩
          · go_ret; exact ⟨SomeBool.mk _, rfl⟩
          · go_round
            case rel => exact ⟨k + 1, _, by omega, by go_num, rfl⟩
            case measure => simp [intOf]; omega
        · go_wp2
          all_goals (go_ret; exact ⟨SomeBool.mk _, rfl⟩)

theorem elem22 : Try.prog.elem 22 = 39 := by kernel_rfl
theorem size39 : (Try.prog.info? 39).map (·.size) = some 2 := by kernel_rfl

theorem size_of39 (w : World) : (sizeOf 39).run Try.prog w = .ok 2 w := by kernel_rfl

theorem under22 : Try.prog.underlying 22 = some (.slice (Try.prog.elem 22)) := by rw [elem22]; exact Try.underlying22

/-- members[:cut] -/
theorem slice_head (a : Option Addr) (n cap cut : Nat) (hc : cut ≤ cap) (wx : World) : (Instr.slice 22 (.slice a n cap) none (some (.int .i64 cut)) none).run Try.prog wx = .ok (.slice a cut cap) wx := by
  rw [run_slice_h (P := Try.prog) wx 22 a n cap under22 .i64 cut (by omega) (by omega), elem22, size_of39]
  simp only [Result.andThen, sliced, Int.toNat_natCast, Nat.zero_mul, Nat.sub_zero]
  cases a <;> simp [Addr.add]

/-- members[cut:] -/
theorem slice_rest (a : Option Addr) (n cap cut : Nat) (N : Nat → ByteArray) (V : Nat → Int) (w : World) (h : PairsAt w a n N V) (hc : cut ≤ n) (hnc : n ≤ cap) :
    ∃ a2, (∀ wx, (Instr.slice 22 (.slice a n cap) (some (.int .i64 cut)) none none).run Try.prog wx = .ok (.slice a2 (n - cut) (cap - cut)) wx) ∧ PairsAt w a2 (n - cut) (fun i => N (cut + i)) (fun i => V (cut + i)) := by
  refine ⟨if cap = cut then a else a.map (·.add (cut * 2)), fun wx => ?_, fun i hi => ?_⟩
  · rw [run_slice_l (P := Try.prog) wx 22 a n cap under22 .i64 cut (by omega) (by omega), elem22, size_of39]
    simp only [Result.andThen, sliced, Int.toNat_natCast]
  · obtain ⟨b, off, rfl, h1, h2⟩ := h (cut + i) (by omega)
    rw [if_neg (by omega)]
    refine ⟨b, off + cut * 2, by simp [Addr.add_lit], ?_, ?_⟩
    · rw [show off + cut * 2 + i * 2 = off + (cut + i) * 2 by omega]; exact h1
    · rw [show off + cut * 2 + i * 2 = off + (cut + i) * 2 by omega]; exact h2

/-- keepUnknown's answer, with unknown elements or without. -/
def Kept2 (w w' : World) (ex n : Nat) (N : Nat → ByteArray) (F : Nat → Value) (v : Value) (e : Ending) : Prop :=
  ∃ g cap, e = .returned (.slice (some ⟨g, 0, none⟩) (n + ex) cap) ∧ ObjAt w' (some ⟨g, 0, none⟩) (n + ex) (snoc N n unk) (snoc F n v) ∧ Below w.heap.size w w'

theorem zzKeep_any (B : Nat) (u : Option Addr) (n m ex : Nat) (N : Nat → ByteArray) (F : Nat → Value) (w : World) (ho : ObjAt w (some ⟨B, 0, none⟩) n N F) (hn : n ≤ 65536) (hex : (m = 0 ∧ ex = 0) ∨ (0 < m ∧ ex = 1)) :
    Calls Try.prog 16 #[.slice (some ⟨B, 0, none⟩) n n, .slice u m m] w fun e w' => Kept2 w w' ex n N F (.iface 36 (.slice u m m)) e := by
  rcases hex with ⟨rfl, rfl⟩ | ⟨h0, rfl⟩
  · refine (zzKeep_none _ u n 0 w).mono ?_
    rintro e w' ⟨rfl, rfl⟩
    refine ⟨B, n, rfl, fun i hi => ?_, Below.refl _ _⟩
    obtain ⟨b, off, h1, h2, h3⟩ := ho i (by omega)
    exact ⟨b, off, h1, by rw [snoc_lt (by omega)]; exact h2, by rw [snoc_lt (by omega)]; exact h3⟩
  · exact zzKeep_some _ u n m m N F w ho hn h0

/-- A part of the members. -/
theorem PairsAt.take {w : World} {a : Option Addr} {n m : Nat} {N : Nat → ByteArray} {V : Nat → Int} (h : PairsAt w a n N V) (hm : m ≤ n) : PairsAt w a m N V :=
  fun i hi => h i (by omega)

/-- The INTEGERs as values. -/
def ints (V : Nat → Int) (i : Nat) : Value := .iface 2 (.int .i64 (V i))

set_option maxHeartbeats 2000000 in
set_option maxRecDepth 100000 in
theorem law5_core (a u : Option Addr) (cut r cap m cu ex : Nat) (N : Nat → ByteArray) (V : Nat → Int) (A : Nat → Option Addr) (L C : Nat → Nat) (X : Nat → Nat → Int) (w : World) (hp : PairsAt w a (cut + r) N V) (ho : OctsAt w u m A L C X)
    (hn : cut + r ≤ 65536) (hnc : cut + r ≤ cap) (hm : m ≤ 65536) (hex : (m = 0 ∧ ex = 0) ∨ (0 < m ∧ ex = 1)) :
    Calls Try.prog 5 #[.slice a (cut + r) cap, .int .i64 cut, .slice u m cu] w fun e w' => e = .returned (.bool true) ∧ Below w.heap.size w w' := by
  have hs1 := slice_head a (cut + r) cap cut (by omega)
  obtain ⟨a2, hs2, hq⟩ := slice_rest a (cut + r) cap cut N V w hp (by omega) hnc
  rw [Nat.add_sub_cancel_left] at hq
  simp only [Nat.add_sub_cancel_left] at hs2
  have HE : Hid ((m = 0 ∧ ex = 0) ∨ (0 < m ∧ ex = 1)) := hex
  have hex1 : ex ≤ 1 := by omega
  clear hex
  go_enter Try.func5, Try.ntmps5
  go_wp2_with fail
  refine (bytes20 a u (cut + r) cap m cu N V A L C X cut w hp ho).mono ?_
  rintro e w' ⟨⟨b, rfl⟩, rfl⟩
  cases b
  · go_wp2_with fail
    go_ret
    exact ⟨rfl, Below.refl _ _⟩
  go_wp2_with fail
  refine (sumPairs_any _ a (cut + r) cap N V _ hp hn).mono ?_
  rintro e w' ⟨⟨t, rfl⟩, rfl⟩
  by_cases ht : 1048576 < t
  · go_wp2_with fail
    go_ret
    exact ⟨rfl, Below.refl _ _⟩
  go_wp2_with fail
  refine (sumOctets_any _ u m cu A L C X _ ho hm).mono ?_
  rintro e w0 ⟨⟨t2, rfl, hl0⟩, rfl⟩
  by_cases ht2 : 1048576 < t2
  · clear hl0
    go_wp2_with fail
    go_ret
    exact ⟨rfl, Below.refl _ _⟩
  have hl := hl0 (by omega)
  have HL : Hid (∀ i, i < m → L i ≤ 1048576) := hl
  clear hl hl0
  go_upto_if 50 with fail
  go_cut [8] from 19 to 170 (fun s8 wx => s8 = .int .i64 ex ∧ w0 = wx)
  case first =>
    go_wp2_with fail
    all_goals go_meet
    all_goals refine ⟨congrArg (Value.int IntKind.i64) ?_, rfl⟩
    all_goals (have := HE.out; omega)
  case rest =>
  obtain ⟨rfl, rfl⟩ := hcut
  go_wp2_with fail
  refine (build_any a (cut + r) cap N V _ hp hn).mono ?_
  rintro e w1 ⟨rfl, hb1, hw1⟩
  have hp1 := hp.below hb1
  have hq1 := hq.below hb1
  have ho1 := ho.below hb1
  generalize hB1 : w0.heap.size = B1 at hw1 ⊢
  clear hp hq ho hB1
  go_wp2_with fail
  refine (toOctets_any u m cu A L C X _ ho1 hm HL.out).mono ?_
  rintro e w2 ⟨u1, A1, C1, rfl, hx2, hb2⟩
  have hw2 := hw1.below hb2
  have hp2 := hp1.below hb2
  have hq2 := hq1.below hb2
  have ho2 := ho1.below hb2
  clear hw1 hp1 hq1 ho1
  have hb12 := hb1.trans (hb2.mono hb1.size)
  clear hb1 hb2
  go_wp2_with fail
  refine (zzKeep_any B1 u1 (cut + r) m ex N (ints V) _ hw2 hn HE.out).mono ?_
  rintro e w3 ⟨g1, c1, rfl, hk3, hb3⟩
  have hx3 := hx2.below hb3
  have hp3 := hp2.below hb3
  have hq3 := hq2.below hb3
  have ho3 := ho2.below hb3
  clear hx2 hp2 hq2 ho2
  have hb13 := hb12.trans (hb3.mono hb12.size)
  clear hb12 hb3 hw2
  go_wp2_with fail
  refine (build_any a cut cap N V _ (hp3.take (by omega)) (by omega)).mono ?_
  rintro e w4 ⟨rfl, hb4, hh4⟩
  have hk4 := hk3.below hb4
  have hx4 := hx3.below hb4
  have hp4 := hp3.below hb4
  have hq4 := hq3.below hb4
  have ho4 := ho3.below hb4
  clear hk3 hx3 hp3 hq3 ho3
  have hb14 := hb13.trans (hb4.mono hb13.size)
  generalize hB2 : w3.heap.size = B2 at hh4 ⊢
  clear hb13 hb4 hB2
  go_wp2_with fail
  refine (build_any a2 r (cap - cut) (fun i => N (cut + i)) (fun i => V (cut + i)) _ hq4 (by omega)).mono ?_
  rintro e w5 ⟨rfl, hb5, hv5⟩
  have hh5 := hh4.below hb5
  have hk5 := hk4.below hb5
  have hx5 := hx4.below hb5
  have hp5 := hp4.below hb5
  have ho5 := ho4.below hb5
  clear hh4 hk4 hx4 hp4 ho4
  have hb15 := hb14.trans (hb5.mono hb14.size)
  generalize hB3 : w4.heap.size = B3 at hv5 ⊢
  clear hb14 hb5 hB3 hq4
  go_wp2_with fail
  refine (toOctets_any u m cu A L C X _ ho5 hm HL.out).mono ?_
  rintro e w6 ⟨u2, A2, C2, rfl, hy6, hb6⟩
  have hv6 := hv5.below hb6
  have hh6 := hh5.below hb6
  have hk6 := hk5.below hb6
  have hx6 := hx5.below hb6
  have hp6 := hp5.below hb6
  have ho6 := ho5.below hb6
  clear hv5 hh5 hk5 hx5 hp5 ho5
  have hb16 := hb15.trans (hb6.mono hb15.size)
  clear hb15 hb6
  go_wp2_with fail
  refine (zzKeep_any B3 u2 r m ex (fun i => N (cut + i)) (ints (fun i => V (cut + i))) _ hv6 (by omega) HE.out).mono ?_
  rintro e w7 ⟨g2, c2, rfl, ht7, hb7⟩
  have hy7 := hy6.below hb7
  have hh7 := hh6.below hb7
  have hk7 := hk6.below hb7
  have hx7 := hx6.below hb7
  have hp7 := hp6.below hb7
  have ho7 := ho6.below hb7
  clear hy6 hh6 hk6 hx6 hp6 ho6
  have hb17 := hb16.trans (hb7.mono hb16.size)
  clear hb16 hb7 hv6 hs1 hs2
  go_upto_if 84 with fail
  go_cut [] from 19 to 170 (fun wx => w7 = wx)
  case first =>
    go_wp2_with fail
    go_meet
    rfl
  case rest =>
  subst hcut
  go_wp2_with fail
  go_loopg [12] (cut + r + ex) (fun g si wr => ∃ (k d : Nat), si = .int .i64 k ∧ g = cut + r + ex - k ∧ k ≤ cut + r + ex ∧ wr = w7.drewN d)
  case atStart => exact ⟨0, 0, rfl, rfl, by omega, rfl⟩
  case round =>
    obtain ⟨k, d, rfl, hg, hkl, hwr⟩ := hrel
    have HG : Hid (gk = cut + r + ex - k) := hg
    have HW : Hid (wr = w7.drewN d) := hwr
    have hbw : Below w7.heap.size w7 wr := by rw [hwr]; exact below_drewN (Below.refl _ _) _
    clear hg hwr
    by_cases hkn : k < cut + r + ex
    · have hkr := hk7.below hbw
      have hhr := hh7.below hbw
      have htr := ht7.below hbw
      have hxr := hx7.below hbw
      have hyr := hy7.below hbw
      clear hk7 hh7 ht7 hx7 hy7 hp7 ho7
      by_cases hkc : k < cut
      · clear htr hxr hyr
        go_wp2_with fail
        refine (sameMember_int (some ⟨g1, 0, none⟩) (some ⟨B2, 0, none⟩) (cut + r + ex) cut c1 cut k k _ N _ _ (V k) _ hkr hhr (by omega) (by omega) hkn hkc (snoc_lt (by omega)) (by rw [snoc_lt (by omega)]; rfl) rfl).mono ?_
        rintro e w8 ⟨rfl, d8, rfl⟩
        clear hkr hhr hbw
        go_wp2_with fail
        go_roundg (cut + r + ex - (k + 1))
        case measure => have := HG.out; omega
        case rel => exact ⟨k + 1, d + d8, by go_num, rfl, by omega, by rw [HW.out, World.drewN_drewN]⟩
      · obtain ⟨j, hj⟩ : ∃ j, k = cut + j := ⟨k - cut, by omega⟩
        have HJ : Hid (k = cut + j) := hj
        have hjk : (k : Int) - cut = j := by omega
        have HJK : Hid ((k : Int) - cut = j) := hjk
        have hj1 : j ≤ k := by omega
        clear hj hjk hhr
        go_wp2_with fail
        rw [HJK.out]
        by_cases hjr : j < r
        · clear hxr hyr
          refine (sameMember_int (some ⟨g1, 0, none⟩) (some ⟨g2, 0, none⟩) (cut + r + ex) (r + ex) c1 c2 k j _ _ _ _ (V k) _ hkr htr (by omega) (by omega) hkn (by omega) (by rw [snoc_lt (by have := HJ.out; omega), snoc_lt hjr, HJ.out]) (by rw [snoc_lt (by have := HJ.out; omega)]; rfl) (by rw [snoc_lt hjr, HJ.out]; rfl)).mono ?_
          rintro e w8 ⟨rfl, d8, rfl⟩
          clear hkr htr hbw
          go_wp2_with fail
          go_roundg (cut + r + ex - (k + 1))
          case measure => have := HG.out; omega
          case rel => exact ⟨k + 1, d + d8, by go_num, rfl, by omega, by rw [HW.out, World.drewN_drewN]⟩
        · have hkr2 : k = cut + r := by have := HJ.out; omega
          have hjr2 : j = r := by have := HJ.out; omega
          have HK2 : Hid (k = cut + r) := hkr2
          have HJ2 : Hid (j = r) := hjr2
          clear hkr2 hjr2
          refine (sameMember_oct (some ⟨g1, 0, none⟩) (some ⟨g2, 0, none⟩) u1 u2 (cut + r + ex) (r + ex) c1 c2 k j m m m _ _ _ _ A1 A2 L C1 C2 X _ hkr htr (by omega) (by omega) hkn (by have := HJ2.out; have := HK2.out; omega) (by rw [HK2.out, HJ2.out, snoc_at, snoc_at]) (by rw [HK2.out, snoc_at]) (by rw [HJ2.out, snoc_at]) hxr hyr hm HL.out).mono ?_
          rintro e w8 ⟨rfl, d8, rfl⟩
          clear hkr htr hbw hxr hyr
          go_wp2_with fail
          go_roundg (cut + r + ex - (k + 1))
          case measure => have := HG.out; omega
          case rel => exact ⟨k + 1, d + d8, by go_num, rfl, by omega, by rw [HW.out, World.drewN_drewN]⟩
    · have hkr := hk7.below hbw
      have hxr := hx7.below hbw
      have hpr := hp7.below hbw
      have hor := ho7.below hbw
      have hb18 := hb17.trans (hbw.mono hb17.size)
      clear hk7 hh7 ht7 hx7 hy7 hp7 ho7 hbw HG HW
      obtain ⟨wm, rfl⟩ : ∃ wm : World, wm = wr := ⟨_, rfl⟩
      go_wp2_with fail
      go_loopg [13] (cut + r) (fun g si wr => ∃ (k d : Nat), si = .int .i64 k ∧ g = cut + r - k ∧ k ≤ cut + r ∧ wr = wm.drewN d)
      case atStart => exact ⟨0, 0, rfl, rfl, by omega, rfl⟩
      case round =>
        obtain ⟨k2, d2, rfl, hg, hkl2, hwr⟩ := hrel
        have HG2 : Hid (gk = cut + r - k2) := hg
        have HW2 : Hid (wr = wm.drewN d2) := hwr
        have hbw : Below wm.heap.size wm wr := by rw [hwr]; exact below_drewN (Below.refl _ _) _
        clear hg hwr
        by_cases hkn2 : k2 < cut + r
        · have hk9 := hkr.below hbw
          obtain ⟨xb, xo, rfl, p1, p2⟩ := (hpr.below hbw) k2 hkn2
          obtain ⟨yb, yo, ey, q1, -⟩ := hk9.val (i := k2) (by omega) rfl
          obtain ⟨rfl, rfl⟩ : yb = g1 ∧ yo = 0 := by simpa [eq_comm] using ey
          rw [Nat.zero_add, snoc_lt hkn2] at q1
          have hkb : (k2 : Int) < cut + r := by omega
          have hkb2 : (k2 : Int) < cut + r + ex := by omega
          clear hkr hxr hpr hor hbw ey
          go_wp2_with fail
          refine (memberInt_int (some ⟨yb, 0, none⟩) (cut + r + ex) c1 k2 _ _ (V k2) _ hk9 (by omega) (by omega) (by rw [snoc_lt hkn2]; rfl)).mono ?_
          rintro e w' ⟨rfl, rfl⟩
          clear hk9
          go_wp2_with fail
          go_quiet (fail)
          go_wp2_with fail
          go_roundg (cut + r - (k2 + 1))
          case measure => have := HG2.out; omega
          case rel => exact ⟨k2 + 1, _, by go_num, rfl, by omega, by rw [HW2.out, World.drewN_drewN]⟩
        · have hk9 := hkr.below hbw
          have hx9 := hxr.below hbw
          have ho9 := hor.below hbw
          have hb19 := hb18.trans (hbw.mono hb18.size)
          clear hkr hxr hpr hor hbw HG2 HW2
          by_cases hexe : ex = 1
          · have hb : ((ex : Int) == 1) = true := beq_iff_eq.2 (by omega)
            obtain ⟨K, hK⟩ : ∃ K, K = cut + r := ⟨_, rfl⟩
            have HK : Hid (K = cut + r) := hK
            have hlast : ((cut : Int) + r + ex - 1) = K := by omega
            have HLs : Hid (((cut : Int) + r + ex - 1) = K) := hlast
            have hKx : K < cut + r + ex := by omega
            have hval : snoc (ints V) (cut + r) (Value.iface 36 (.slice u1 m m)) K = .iface 36 (.slice u1 m m) := by rw [hK, snoc_at]
            have HV : Hid (snoc (ints V) (cut + r) (Value.iface 36 (.slice u1 m m)) K = .iface 36 (.slice u1 m m)) := hval
            obtain ⟨yb, yo, ey, q1, -⟩ := hk9.val hKx hval
            obtain ⟨rfl, rfl⟩ : yb = g1 ∧ yo = 0 := by simpa [eq_comm] using ey
            rw [Nat.zero_add, hK, snoc_at, ← hK] at q1
            unfold unk at q1
            have hKb : (K : Int) < cut + r + ex := by omega
            clear hexe hK hlast hval ey
            go_wp2_with fail
            rw [HLs.out]
            refine (memberOct_oct (some ⟨yb, 0, none⟩) u1 (cut + r + ex) c1 K m m _ _ _ hk9 (by omega) hKx HV.out).mono ?_
            rintro e w' ⟨rfl, rfl⟩
            clear hk9
            go_wp2_with fail
            refine (sameOctets_any u1 u m m cu A1 A L C1 C X _ hx9 ho9 hm HL.out).mono ?_
            rintro e w' ⟨rfl, d9, rfl⟩
            clear hx9 ho9 q1
            go_wp2_with fail
            go_ret
            exact ⟨rfl, below_drewN hb19 _⟩
          · have hb : ((ex : Int) == 1) = false := beq_eq_false_iff_ne.2 (by omega)
            clear hk9 hx9 ho9
            go_wp2_with fail
            go_ret
            exact ⟨rfl, hb19⟩

set_option maxHeartbeats 1000000 in
set_option maxRecDepth 100000 in
/-- FnKeepUnknownCommutesWithPrefix returns true, whatever came in. -/
theorem law5 (a u : Option Addr) (n cap m cu : Nat) (N : Nat → ByteArray) (V : Nat → Int) (A : Nat → Option Addr) (L C : Nat → Nat) (X : Nat → Nat → Int) (cut : Int) (w : World) (hp : PairsAt w a n N V) (ho : OctsAt w u m A L C X) (hnc : n ≤ cap) :
    Calls Try.prog 5 #[.slice a n cap, .int .i64 cut, .slice u m cu] w fun e w' => e = .returned (.bool true) ∧ Below w.heap.size w w' := by
  by_cases hn : 65536 < n
  · go_enter Try.func5, Try.ntmps5
    go_wp2_with fail
    refine (bytes20 a u n cap m cu N V A L C X cut w hp ho).mono ?_
    rintro e w' ⟨⟨b, rfl⟩, rfl⟩
    cases b <;> (go_wp2_with fail; go_ret; exact ⟨rfl, Below.refl _ _⟩)
  by_cases hm : 65536 < m
  · go_enter Try.func5, Try.ntmps5
    go_wp2_with fail
    refine (bytes20 a u n cap m cu N V A L C X cut w hp ho).mono ?_
    rintro e w' ⟨⟨b, rfl⟩, rfl⟩
    cases b <;> (go_wp2_with fail; go_ret; exact ⟨rfl, Below.refl _ _⟩)
  by_cases hc : cut < 0 ∨ (n : Int) < cut
  · rcases hc with hc | hc
    all_goals
      go_enter Try.func5, Try.ntmps5
      go_wp2_with fail
      refine (bytes20 a u n cap m cu N V A L C X cut w hp ho).mono ?_
      rintro e w' ⟨⟨b, rfl⟩, rfl⟩
      cases b
      · go_wp2_with fail
        go_ret
        exact ⟨rfl, Below.refl _ _⟩
      go_wp2_with fail
      refine (sumPairs_any _ a n cap N V _ hp (by omega)).mono ?_
      rintro e w' ⟨⟨t, rfl⟩, rfl⟩
      by_cases ht : 1048576 < t
      · go_wp2_with fail
        go_ret
        exact ⟨rfl, Below.refl _ _⟩
      go_wp2_with fail
      refine (sumOctets_any _ u m cu A L C X _ ho (by omega)).mono ?_
      rintro e w' ⟨⟨t2, rfl, -⟩, rfl⟩
      by_cases ht2 : 1048576 < t2
      · go_wp2_with fail
        go_ret
        exact ⟨rfl, Below.refl _ _⟩
      go_wp2_with fail
      go_ret
      exact ⟨rfl, Below.refl _ _⟩
  obtain ⟨c, rfl⟩ := Int.eq_ofNat_of_zero_le (show 0 ≤ cut by omega)
  obtain ⟨r, rfl⟩ : ∃ r, n = c + r := ⟨n - c, by omega⟩
  by_cases h0 : m = 0
  · exact law5_core a u c r cap m cu 0 N V A L C X w hp ho (by omega) hnc (by omega) (Or.inl ⟨h0, rfl⟩)
  · exact law5_core a u c r cap m cu 1 N V A L C X w hp ho (by omega) hnc (by omega) (Or.inr ⟨by omega, rfl⟩)
end Go.Proofs.Qxb6613659a

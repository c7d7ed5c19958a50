import Derived.Test.Qxb6613659aLaw5
namespace Go.Proofs.Qxb6613659a
set_option linter.unusedVariables false
open Go.RowKit Go.Deep

set_option maxHeartbeats 1000000 in
/-- zzBytes_FnGetAfterKeepUnknown answers some bool and turns nothing. -/
theorem bytes14 (a u : Option Addr) (n cap m cu : Nat) (N : Nat → ByteArray) (V : Nat → Int) (A : Nat → Option Addr) (L C : Nat → Nat) (X : Nat → Nat → Int) (nm : ByteArray) (w : World) (h : PairsAt w a n N V) (h2 : OctsAt w u m A L C X) :
    Calls Try.prog 14 #[.slice a n cap, .slice u m cu, .string nm] w fun e w' => SomeBool e ∧ w' = w := by
  by_cases hbig : 1048576 < n
  · go_enter Try.func14, Try.ntmps14
    go_wp2
    go_ret
    exact ⟨SomeBool.mk _, rfl⟩
  go_enter Try.func14, Try.ntmps14
  go_wp2
  go_loop [7, 8] (fun t i => ∃ (k : Nat) (s : Int), k ≤ n ∧ i = .int .i64 k ∧ t = .int .i64 s) (fun _ i => n - (intOf i).toNat)
  case atStart => exact ⟨0, _, Nat.zero_le _, rfl, rfl⟩
  case round =>
    obtain ⟨k, s, hk, rfl, rfl⟩ := hrel
    by_cases hlt : k < n
    · obtain ⟨xb, xo, rfl, h1, -⟩ := h k hlt
      clear h h2
      go_wp2
      · go_ret; exact ⟨SomeBool.mk _, rfl⟩
      · go_ret; exact ⟨SomeBool.mk _, rfl⟩
      · go_round
        case rel => exact ⟨k + 1, _, by omega, by go_num, rfl⟩
        case measure => simp [intOf]; omega
    · by_cases hbm : 1048576 < m
      · go_wp2
        go_ret; exact ⟨SomeBool.mk _, rfl⟩
      go_wp2
      · go_ret; exact ⟨SomeBool.mk _, rfl⟩
      go_loop [7, 9] (fun t i => ∃ (k : Nat) (s : Int), k ≤ m ∧ i = .int .i64 k ∧ t = .int .i64 s) (fun _ i => m - (intOf i).toNat)
      case atStart => exact ⟨0, _, Nat.zero_le _, rfl, rfl⟩
      case round =>
        obtain ⟨k, s, hk, rfl, rfl⟩ := hrel
        by_cases hlt : k < m
        · obtain ⟨⟨xb, xo, rfl, h1⟩, -⟩ := h2 k hlt
          clear h h2
          go_wp2
          · go_ret; exact ⟨SomeBool.mk _, rfl⟩
          · go_ret; exact ⟨SomeBool.mk _, rfl⟩
          · go_round
            case rel => exact ⟨k + 1, _, by omega, by go_num, rfl⟩
            case measure => simp [intOf]; omega
        · go_wp2
          all_goals (go_ret; exact ⟨SomeBool.mk _, rfl⟩)

set_option maxHeartbeats 2000000 in
set_option maxRecDepth 100000 in
theorem law4_found (a u : Option Addr) (n cap m cu ex : Nat) (N : Nat → ByteArray) (V : Nat → Int) (A : Nat → Option Addr) (L C : Nat → Nat) (X : Nat → Nat → Int) (nm : ByteArray) (w : World) (hp : PairsAt w a n N V) (ho : OctsAt w u m A L C X)
    (hn : n ≤ 65536) (hm : m ≤ 65536) (hnm : nm.size ≤ 1048576) (hex : (m = 0 ∧ ex = 0) ∨ (0 < m ∧ ex = 1)) (k : Nat) (hk : k < n)
    (Kb : Hid (find (named N nm) 0 n = (k : Int))) (Ka : Hid (find (named (snoc N n unk) nm) 0 (n + ex) = (k : Int))) :
    Calls Try.prog 4 #[.slice a n cap, .slice u m cu, .string nm] w fun e w' => e = .returned (.bool true) ∧ Below w.heap.size w w' := by
  have HE : Hid ((m = 0 ∧ ex = 0) ∨ (0 < m ∧ ex = 1)) := hex
  have hex1 : ex ≤ 1 := by omega
  clear hex
  go_enter Try.func4, Try.ntmps4
  go_wp2_with fail
  refine (bytes14 a u n cap m cu N V A L C X nm w hp ho).mono ?_
  rintro e w' ⟨⟨b, rfl⟩, rfl⟩
  cases b
  · go_wp2_with fail
    go_ret
    exact ⟨rfl, Below.refl _ _⟩
  go_wp2_with fail
  refine (sumPairs_any _ a n cap N V _ hp hn).mono ?_
  rintro e w' ⟨⟨t, rfl⟩, rfl⟩
  by_cases ht : 1048576 < t
  · go_wp2_with fail
    go_ret
    exact ⟨rfl, Below.refl _ _⟩
  go_wp2_with fail
  refine (sumOctets_any _ u m cu A L C X _ ho hm).mono ?_
  rintro e w0 ⟨⟨t2, rfl, hl0⟩, rfl⟩
  by_cases ht2 : 1048576 < t2
  · clear hl0
    go_wp2_with fail
    go_ret
    exact ⟨rfl, Below.refl _ _⟩
  have hl := hl0 (by omega)
  have HL : Hid (∀ i, i < m → L i ≤ 1048576) := hl
  clear hl hl0
  go_upto_if 46 with fail
  go_cut [8] from 16 to 105 (fun s8 wx => s8 = .int .i64 ex ∧ w0 = wx)
  case first =>
    go_wp2_with fail
    all_goals go_meet
    all_goals refine ⟨congrArg (Value.int IntKind.i64) ?_, rfl⟩
    all_goals (have := HE.out; omega)
  case rest =>
  obtain ⟨rfl, rfl⟩ := hcut
  go_wp2_with fail
  refine (build_any a n cap N V _ hp hn).mono ?_
  rintro e w1 ⟨rfl, hb1, hw1⟩
  have hp1 := hp.below hb1
  have ho1 := ho.below hb1
  generalize hB1 : w0.heap.size = B1 at hw1 ⊢
  clear hp ho hB1
  go_wp2_with fail
  refine (toOctets_any u m cu A L C X _ ho1 hm HL.out).mono ?_
  rintro e w2 ⟨u1, A1, C1, rfl, hx2, hb2⟩
  have hw2 := hw1.below hb2
  have hp2 := hp1.below hb2
  have ho2 := ho1.below hb2
  have hb12 := hb1.trans (hb2.mono hb1.size)
  clear hw1 hp1 ho1 hb1 hb2
  go_wp2_with fail
  refine (zzKeep_any B1 u1 n m ex N (ints V) _ hw2 hn HE.out).mono ?_
  rintro e w3 ⟨g1, c1, rfl, hk3, hb3⟩
  have hx3 := hx2.below hb3
  have hp3 := hp2.below hb3
  have ho3 := ho2.below hb3
  have hb13 := hb12.trans (hb3.mono hb12.size)
  clear hx2 hp2 ho2 hb12 hb3 hw2
  go_wp2_with fail
  refine (getInt_int (some ⟨g1, 0, none⟩) (n + ex) c1 k _ _ (V k) nm _ hk3 (by omega) Ka (by show _ = _; rw [snoc_lt hk]; rfl)).mono ?_
  rintro e w4 ⟨rfl, hb4⟩
  have hp4 := hp3.below hb4
  have hb14 := hb13.trans (hb4.mono hb13.size)
  clear hk3 hx3 hp3 ho3 hb13 hb4
  go_wp2_with fail
  refine (firstIndex_any a n cap 0 n N V nm _ hp4 hn (Nat.le_refl _)).mono ?_
  rintro e w' ⟨rfl, rfl⟩
  rw [show n - 0 = n from rfl, Kb.out]
  obtain ⟨xb, xo, rfl, p1, p2⟩ := hp4 k hk
  clear hp4
  go_wp2_with fail
  go_ret
  exact ⟨rfl, hb14⟩

set_option maxHeartbeats 2000000 in
set_option maxRecDepth 100000 in
theorem law4_none (a u : Option Addr) (n cap m cu ex : Nat) (N : Nat → ByteArray) (V : Nat → Int) (A : Nat → Option Addr) (L C : Nat → Nat) (X : Nat → Nat → Int) (nm : ByteArray) (w : World) (hp : PairsAt w a n N V) (ho : OctsAt w u m A L C X)
    (hn : n ≤ 65536) (hm : m ≤ 65536) (hnm : nm.size ≤ 1048576) (hex : (m = 0 ∧ ex = 0) ∨ (0 < m ∧ ex = 1)) (HQ : Hid (ex = 1 → ¬ nm.toList = [117, 110, 107, 110, 111, 119, 110, 69, 120, 116, 101, 110, 115, 105, 111, 110, 115]))
    (Kb : Hid (find (named N nm) 0 n = -1)) (Ka : Hid (find (named (snoc N n unk) nm) 0 (n + ex) = -1)) :
    Calls Try.prog 4 #[.slice a n cap, .slice u m cu, .string nm] w fun e w' => e = .returned (.bool true) ∧ Below w.heap.size w w' := by
  have HE : Hid ((m = 0 ∧ ex = 0) ∨ (0 < m ∧ ex = 1)) := hex
  have hex1 : ex ≤ 1 := by omega
  clear hex
  go_enter Try.func4, Try.ntmps4
  go_wp2_with fail
  refine (bytes14 a u n cap m cu N V A L C X nm w hp ho).mono ?_
  rintro e w' ⟨⟨b, rfl⟩, rfl⟩
  cases b
  · go_wp2_with fail
    go_ret
    exact ⟨rfl, Below.refl _ _⟩
  go_wp2_with fail
  refine (sumPairs_any _ a n cap N V _ hp hn).mono ?_
  rintro e w' ⟨⟨t, rfl⟩, rfl⟩
  by_cases ht : 1048576 < t
  · go_wp2_with fail
    go_ret
    exact ⟨rfl, Below.refl _ _⟩
  go_wp2_with fail
  refine (sumOctets_any _ u m cu A L C X _ ho hm).mono ?_
  rintro e w0 ⟨⟨t2, rfl, hl0⟩, rfl⟩
  by_cases ht2 : 1048576 < t2
  · clear hl0
    go_wp2_with fail
    go_ret
    exact ⟨rfl, Below.refl _ _⟩
  have hl := hl0 (by omega)
  have HL : Hid (∀ i, i < m → L i ≤ 1048576) := hl
  clear hl hl0
  go_upto_if 46 with fail
  go_cut [8] from 16 to 105 (fun s8 wx => s8 = .int .i64 ex ∧ w0 = wx)
  case first =>
    go_wp2_with fail
    all_goals go_meet
    all_goals refine ⟨congrArg (Value.int IntKind.i64) ?_, rfl⟩
    all_goals (have := HE.out; omega)
  case rest =>
  obtain ⟨rfl, rfl⟩ := hcut
  go_wp2_with fail
  refine (build_any a n cap N V _ hp hn).mono ?_
  rintro e w1 ⟨rfl, hb1, hw1⟩
  have hp1 := hp.below hb1
  have ho1 := ho.below hb1
  generalize hB1 : w0.heap.size = B1 at hw1 ⊢
  clear hp ho hB1
  go_wp2_with fail
  refine (toOctets_any u m cu A L C X _ ho1 hm HL.out).mono ?_
  rintro e w2 ⟨u1, A1, C1, rfl, hx2, hb2⟩
  have hw2 := hw1.below hb2
  have hp2 := hp1.below hb2
  have ho2 := ho1.below hb2
  have hb12 := hb1.trans (hb2.mono hb1.size)
  clear hw1 hp1 ho1 hb1 hb2
  go_wp2_with fail
  refine (zzKeep_any B1 u1 n m ex N (ints V) _ hw2 hn HE.out).mono ?_
  rintro e w3 ⟨g1, c1, rfl, hk3, hb3⟩
  have hx3 := hx2.below hb3
  have hp3 := hp2.below hb3
  have ho3 := ho2.below hb3
  have hb13 := hb12.trans (hb3.mono hb12.size)
  clear hx2 hp2 ho2 hb12 hb3 hw2
  go_wp2_with fail
  refine (getInt_none (some ⟨g1, 0, none⟩) (n + ex) c1 _ _ nm _ hk3 (by omega) Ka).mono ?_
  rintro e w4 ⟨rfl, hb4⟩
  have hp4 := hp3.below hb4
  have hb14 := hb13.trans (hb4.mono hb13.size)
  clear hk3 hx3 hp3 ho3 hb13 hb4
  go_wp2_with fail
  refine (firstIndex_any a n cap 0 n N V nm _ hp4 hn (Nat.le_refl _)).mono ?_
  rintro e w' ⟨rfl, rfl⟩
  rw [show n - 0 = n from rfl, Kb.out]
  clear hp4
  by_cases he : ex = 1
  · have hq := HQ.out he
    have hb : ((ex : Int) == 1) = true := beq_iff_eq.2 (by omega)
    clear he
    go_wp2_with fail
    go_ret
    exact ⟨rfl, hb14⟩
  · have hb : ((ex : Int) == 1) = false := beq_eq_false_iff_ne.2 (by omega)
    clear he
    go_wp2_with fail
    all_goals (go_ret; exact ⟨rfl, hb14⟩)

set_option maxHeartbeats 2000000 in
set_option maxRecDepth 100000 in
theorem law4_unk (a u : Option Addr) (n cap m cu ex : Nat) (N : Nat → ByteArray) (V : Nat → Int) (A : Nat → Option Addr) (L C : Nat → Nat) (X : Nat → Nat → Int) (nm : ByteArray) (w : World) (hp : PairsAt w a n N V) (ho : OctsAt w u m A L C X)
    (hn : n ≤ 65536) (hm : m ≤ 65536) (hnm : nm.size ≤ 1048576) (hex : (m = 0 ∧ ex = 0) ∨ (0 < m ∧ ex = 1)) (HQ : Hid (nm.toList = [117, 110, 107, 110, 111, 119, 110, 69, 120, 116, 101, 110, 115, 105, 111, 110, 115])) (HX : Hid (ex = 1))
    (Kb : Hid (find (named N nm) 0 n = -1)) (Ka : Hid (find (named (snoc N n unk) nm) 0 (n + ex) = (n : Int))) :
    Calls Try.prog 4 #[.slice a n cap, .slice u m cu, .string nm] w fun e w' => e = .returned (.bool true) ∧ Below w.heap.size w w' := by
  have HE : Hid ((m = 0 ∧ ex = 0) ∨ (0 < m ∧ ex = 1)) := hex
  have hex1 : ex ≤ 1 := by omega
  clear hex
  go_enter Try.func4, Try.ntmps4
  go_wp2_with fail
  refine (bytes14 a u n cap m cu N V A L C X nm w hp ho).mono ?_
  rintro e w' ⟨⟨b, rfl⟩, rfl⟩
  cases b
  · go_wp2_with fail
    go_ret
    exact ⟨rfl, Below.refl _ _⟩
  go_wp2_with fail
  refine (sumPairs_any _ a n cap N V _ hp hn).mono ?_
  rintro e w' ⟨⟨t, rfl⟩, rfl⟩
  by_cases ht : 1048576 < t
  · go_wp2_with fail
    go_ret
    exact ⟨rfl, Below.refl _ _⟩
  go_wp2_with fail
  refine (sumOctets_any _ u m cu A L C X _ ho hm).mono ?_
  rintro e w0 ⟨⟨t2, rfl, hl0⟩, rfl⟩
  by_cases ht2 : 1048576 < t2
  · clear hl0
    go_wp2_with fail
    go_ret
    exact ⟨rfl, Below.refl _ _⟩
  have hl := hl0 (by omega)
  have HL : Hid (∀ i, i < m → L i ≤ 1048576) := hl
  clear hl hl0
  go_upto_if 46 with fail
  go_cut [8] from 16 to 105 (fun s8 wx => s8 = .int .i64 ex ∧ w0 = wx)
  case first =>
    go_wp2_with fail
    all_goals go_meet
    all_goals refine ⟨congrArg (Value.int IntKind.i64) ?_, rfl⟩
    all_goals (have := HE.out; omega)
  case rest =>
  obtain ⟨rfl, rfl⟩ := hcut
  go_wp2_with fail
  refine (build_any a n cap N V _ hp hn).mono ?_
  rintro e w1 ⟨rfl, hb1, hw1⟩
  have hp1 := hp.below hb1
  have ho1 := ho.below hb1
  generalize hB1 : w0.heap.size = B1 at hw1 ⊢
  clear hp ho hB1
  go_wp2_with fail
  refine (toOctets_any u m cu A L C X _ ho1 hm HL.out).mono ?_
  rintro e w2 ⟨u1, A1, C1, rfl, hx2, hb2⟩
  have hw2 := hw1.below hb2
  have hp2 := hp1.below hb2
  have ho2 := ho1.below hb2
  have hb12 := hb1.trans (hb2.mono hb1.size)
  clear hw1 hp1 ho1 hb1 hb2
  go_wp2_with fail
  refine (zzKeep_any B1 u1 n m ex N (ints V) _ hw2 hn HE.out).mono ?_
  rintro e w3 ⟨g1, c1, rfl, hk3, hb3⟩
  have hx3 := hx2.below hb3
  have hp3 := hp2.below hb3
  have ho3 := ho2.below hb3
  have hb13 := hb12.trans (hb3.mono hb12.size)
  clear hx2 hp2 ho2 hb12 hb3 hw2
  go_wp2_with fail
  refine (getInt_oct (some ⟨g1, 0, none⟩) u1 (n + ex) c1 n m m _ _ nm _ hk3 (by omega) Ka (by show _ = _; rw [snoc_at])).mono ?_
  rintro e w4 ⟨rfl, hb4⟩
  have hk4 := hk3.below hb4
  have hx4 := hx3.below hb4
  have ho4 := ho3.below hb4
  have hp4 := hp3.below hb4
  have hb14 := hb13.trans (hb4.mono hb13.size)
  clear hk3 hx3 hp3 ho3 hb13 hb4
  go_wp2_with fail
  refine (firstIndex_any a n cap 0 n N V nm _ hp4 hn (Nat.le_refl _)).mono ?_
  rintro e w' ⟨rfl, rfl⟩
  rw [show n - 0 = n from rfl, Kb.out]
  clear hp4
  have hq := HQ.out
  have hb : ((ex : Int) == 1) = true := beq_iff_eq.2 (by have := HX.out; omega)
  go_wp2_with fail
  clear hq
  refine (getOct_oct (some ⟨g1, 0, none⟩) u1 (n + ex) c1 n m m _ _ nm _ hk4 (by omega) Ka (by show _ = _; rw [snoc_at])).mono ?_
  rintro e w5 ⟨rfl, hb5⟩
  have hx5 := hx4.below hb5
  have ho5 := ho4.below hb5
  have hb15 := hb14.trans (hb5.mono hb14.size)
  clear hk4 hx4 ho4 hb14 hb5
  go_wp2_with fail
  refine (sameOctets_any u1 u m m cu A1 A L C1 C X _ hx5 ho5 hm HL.out).mono ?_
  rintro e w6 ⟨rfl, d, rfl⟩
  clear hx5 ho5
  go_wp2_with fail
  go_ret
  exact ⟨rfl, below_drewN hb15 _⟩

theorem unk_list : unk.toList = [117, 110, 107, 110, 111, 119, 110, 69, 120, 116, 101, 110, 115, 105, 111, 110, 115] := by
  simp [unk]

theorem law4_mid (a u : Option Addr) (n cap m cu ex : Nat) (N : Nat → ByteArray) (V : Nat → Int) (A : Nat → Option Addr) (L C : Nat → Nat) (X : Nat → Nat → Int) (nm : ByteArray) (w : World) (hp : PairsAt w a n N V) (ho : OctsAt w u m A L C X)
    (hn : n ≤ 65536) (hm : m ≤ 65536) (hnm : nm.size ≤ 1048576) (hex : (m = 0 ∧ ex = 0) ∨ (0 < m ∧ ex = 1)) :
    Calls Try.prog 4 #[.slice a n cap, .slice u m cu, .string nm] w fun e w' => e = .returned (.bool true) ∧ Below w.heap.size w w' := by
  have hsame : ∀ i, i < n → named (snoc N n unk) nm i = named N nm i := fun i hi => by unfold named; rw [snoc_lt hi]
  have hlast : named (snoc N n unk) nm n = (unk.toList == nm.toList) := by unfold named; rw [snoc_at]
  rcases find_spec (named N nm) n 0 with ⟨h1, h2⟩ | ⟨k, h1, _, h3, h4, h5⟩
  · by_cases hu : nm.toList = [117, 110, 107, 110, 111, 119, 110, 69, 120, 116, 101, 110, 115, 105, 111, 110, 115] ∧ ex = 1
    · obtain ⟨hq, hx⟩ := hu
      have ha : find (named (snoc N n unk) nm) 0 (n + ex) = (n : Int) := find_eq (by omega) (by omega) (by rw [hlast, unk_list, hq]; rfl) fun i _ hi => by rw [hsame i hi]; exact h2 i (by omega) (by omega)
      exact law4_unk a u n cap m cu ex N V A L C X nm w hp ho hn hm hnm hex hq hx h1 ha
    · have ha : find (named (snoc N n unk) nm) 0 (n + ex) = -1 := find_none fun i _ hi => by
        by_cases e : i < n
        · rw [hsame i e]; exact h2 i (by omega) (by omega)
        · obtain rfl : i = n := by omega
          rw [hlast, unk_list, beq_eq_false_iff_ne]
          exact fun g => hu ⟨g.symm, by omega⟩
      exact law4_none a u n cap m cu ex N V A L C X nm w hp ho hn hm hnm hex (fun he g => hu ⟨g, he⟩) h1 ha
  · have ha : find (named (snoc N n unk) nm) 0 (n + ex) = (k : Int) := find_eq (by omega) (by omega) (by rw [hsame k (by omega)]; exact h4) fun i h0 hi => by rw [hsame i (by omega)]; exact h5 i h0 hi
    exact law4_found a u n cap m cu ex N V A L C X nm w hp ho hn hm hnm hex k (by omega) h1 ha

set_option maxHeartbeats 1000000 in
set_option maxRecDepth 100000 in
/-- FnGetAfterKeepUnknown returns true, whatever came in. -/
theorem law4 (a u : Option Addr) (n cap m cu : Nat) (N : Nat → ByteArray) (V : Nat → Int) (A : Nat → Option Addr) (L C : Nat → Nat) (X : Nat → Nat → Int) (nm : ByteArray) (w : World) (hp : PairsAt w a n N V) (ho : OctsAt w u m A L C X) :
    Calls Try.prog 4 #[.slice a n cap, .slice u m cu, .string nm] w fun e w' => e = .returned (.bool true) ∧ Below w.heap.size w w' := by
  by_cases hn : 65536 < n
  · go_enter Try.func4, Try.ntmps4
    go_wp2_with fail
    refine (bytes14 a u n cap m cu N V A L C X nm w hp ho).mono ?_
    rintro e w' ⟨⟨b, rfl⟩, rfl⟩
    cases b <;> (go_wp2_with fail; go_ret; exact ⟨rfl, Below.refl _ _⟩)
  by_cases hm : 65536 < m
  · go_enter Try.func4, Try.ntmps4
    go_wp2_with fail
    refine (bytes14 a u n cap m cu N V A L C X nm w hp ho).mono ?_
    rintro e w' ⟨⟨b, rfl⟩, rfl⟩
    cases b <;> (go_wp2_with fail; go_ret; exact ⟨rfl, Below.refl _ _⟩)
  by_cases hnm : 1048576 < nm.size
  · go_enter Try.func4, Try.ntmps4
    go_wp2_with fail
    refine (bytes14 a u n cap m cu N V A L C X nm w hp ho).mono ?_
    rintro e w' ⟨⟨b, rfl⟩, rfl⟩
    cases b <;> (go_wp2_with fail; go_ret; exact ⟨rfl, Below.refl _ _⟩)
  by_cases h0 : m = 0
  · exact law4_mid a u n cap m cu 0 N V A L C X nm w hp ho (by omega) (by omega) (by omega) (Or.inl ⟨h0, rfl⟩)
  · exact law4_mid a u n cap m cu 1 N V A L C X nm w hp ho (by omega) (by omega) (by omega) (Or.inr ⟨by omega, rfl⟩)
end Go.Proofs.Qxb6613659a

import Derived.Test.Qxb6613659aBuild
namespace Go.Proofs.Qxb6613659a
set_option linter.unusedVariables false
open Go.RowKit Go.Deep

theorem ret_bool {a b : Bool} (h : a = b) : Ending.returned (.bool a) = .returned (.bool b) := by rw [h]

/-- What ZZgetInt64 hands out where the index found is k. -/
def Res (V : Nat → Int) (k v : Int) (i nl : Bool) : Prop :=
  (k = -1 ∧ v = 0 ∧ i = false ∧ nl = true) ∨ ∃ j : Nat, k = j ∧ v = V j ∧ i = true ∧ nl = false

theorem ObjAt.take {w : World} {a : Option Addr} {n : Nat} {N : Nat → ByteArray} {F : Nat → Value} (h : ObjAt w a n N F) {m : Nat} (hm : m ≤ n) : ObjAt w a m N F :=
  fun i hi => h i (by omega)

theorem ObjAt.drop {w : World} {b o : Nat} {n : Nat} {N : Nat → ByteArray} {F : Nat → Value} (h : ObjAt w (some ⟨b, o, none⟩) n N F) (c : Nat) :
    ObjAt w (some ⟨b, o + c * 2, none⟩) (n - c) (fun i => N (c + i)) (fun i => F (c + i)) := by
  intro i hi
  obtain ⟨b', o', e, h1, h2⟩ := h (c + i) (by omega)
  obtain ⟨rfl, rfl⟩ : b' = b ∧ o' = o := by simpa [eq_comm] using e
  refine ⟨_, _, rfl, ?_, ?_⟩
  · rw [show o' + c * 2 + i * 2 = o' + (c + i) * 2 by omega]; exact h1
  · rw [show o' + c * 2 + i * 2 = o' + (c + i) * 2 by omega]; exact h2

/-- ZZgetInt64 on an object of INTEGERs. -/
theorem getInt_any (a : Option Addr) (n cap : Nat) (N : Nat → ByteArray) (V : Nat → Int) (nm : ByteArray) (v : Int) (i nl : Bool) (w : World)
    (h : ObjAt w a n N (fun i => .iface 2 (.int .i64 (V i)))) (hn : n ≤ 65537) (HR : Hid (Res V (find (named N nm) 0 n) v i nl)) :
    Calls Try.prog 11 #[.slice a n cap, .string nm] w fun e w' => e = .returned (.tuple #[.int .i64 v, .bool i, .bool nl]) ∧ Below w.heap.size w w' := by
  rcases HR.out with ⟨hk, rfl, rfl, rfl⟩ | ⟨j, hk, rfl, rfl, rfl⟩
  · exact getInt_none a n cap N _ nm w h hn hk
  · exact getInt_int a n cap j N _ (V j) nm w h hn hk rfl

/-- answers on what ZZgetInt64 hands out. -/
theorem answers_any (a : Option Addr) (n cap : Nat) (k v : Int) (i nl : Bool) (N : Nat → ByteArray) (V : Nat → Int) (w : World) (h : PairsAt w a n N V) (hn : n ≤ 65536) (hk : k < n) (HR : Hid (Res V k v i nl)) :
    Calls Try.prog 12 #[.int .i64 v, .bool i, .bool nl, .slice a n cap, .int .i64 k] w fun e w' => e = .returned (.bool true) ∧ w' = w := by
  rcases HR.out with ⟨rfl, rfl, rfl, rfl⟩ | ⟨j, rfl, rfl, rfl, rfl⟩
  · exact answers_none 0 false true a n cap (-1) w (by decide)
  · exact answers_some a n cap j N V w h hn (by omega)

set_option maxHeartbeats 1000000 in
theorem law3_lt (a : Option Addr) (n cap cut : Nat) (N : Nat → ByteArray) (V : Nat → Int) (nm : ByteArray) (w : World) (hp : PairsAt w a n N V) (hn : n ≤ 65536) (hlt : cut < n) (hnm : nm.size ≤ 1048576)
    (kw kl kr wv lv rv : Int) (wi wn li ln ri rn : Bool)
    (bw : kw < n) (bl : kl < n) (br : kr < n)
    (Kw : Hid (find (named N nm) 0 n = kw)) (Kl : Hid (find (named N nm) 0 cut = kl)) (Kr : Hid (find (named N nm) cut (n - cut) = kr))
    (Rw : Hid (Res V kw wv wi wn)) (Rl : Hid (Res V kl lv li ln)) (Rr : Hid (Res V kr rv ri rn))
    (Rr' : Hid (Res (fun i => V (cut + i)) (find (named (fun i => N (cut + i)) nm) 0 (n - cut)) rv ri rn))
    (HFin : Hid ((ln = false ∧ wn = false ∧ wi = true ∧ li = true ∧ wv = lv) ∨ (ln = true ∧ wn = rn ∧ wi = ri ∧ wv = rv))) :
    Calls Try.prog 3 #[.slice a n cap, .int .i64 cut, .string nm] w fun e w' => e = .returned (.bool true) ∧ Below w.heap.size w w' := by
  go_enter Try.func3, Try.ntmps3
  go_wp2_with fail
  refine (bytes8 a n cap N V cut nm w hp).mono ?_
  rintro e w' ⟨⟨b, rfl⟩, rfl⟩
  cases b
  · go_wp2_with fail
    go_ret
    exact ⟨rfl, Below.refl _ _⟩
  go_wp2_with fail
  refine (sumPairs_any _ a n cap N V _ hp hn).mono ?_
  rintro e w' ⟨⟨t, rfl⟩, rfl⟩
  by_cases ht : 1048576 < t
  · go_wp2_with fail
    go_ret
    exact ⟨rfl, Below.refl _ _⟩
  go_wp2_with fail
  refine (build_any a n cap N V _ hp hn).mono ?_
  rintro e w1 ⟨rfl, hb1, ho1⟩
  go_wp2_with fail
  refine (getInt_any _ n n N V nm wv wi wn _ ho1 (by omega) (by rw [Kw.out]; exact Rw)).mono ?_
  rintro e w2 ⟨rfl, hb2⟩
  have ho2 := ho1.below hb2
  go_wp2_with fail
  refine (getInt_any _ cut cut N V nm lv li ln _ (ho2.take (Nat.le_of_lt hlt)) (by omega) (by rw [Kl.out]; exact Rl)).mono ?_
  rintro e w3 ⟨rfl, hb3⟩
  have ho3 := ho2.below hb3
  clear ho1 ho2
  go_wp2_with fail
  refine (getInt_any _ (n - cut) (n - cut) (fun i => N (cut + i)) (fun i => V (cut + i)) nm rv ri rn _ (by simpa using ho3.drop cut) (by omega) Rr').mono ?_
  rintro e w4 ⟨rfl, hb4⟩
  have hp4 := ((hp.below hb1).below hb2).below hb3 |>.below hb4
  clear hp ho3
  go_wp2_with fail
  refine (firstIndex_any a n cap 0 n N V nm _ hp4 hn (Nat.le_refl _)).mono ?_
  rintro e w' ⟨rfl, rfl⟩
  rw [show n - 0 = n from rfl, Kw.out]
  go_wp2_with fail
  refine (answers_any a n cap kw wv wi wn N V _ hp4 hn bw Rw).mono ?_
  rintro e w' ⟨rfl, rfl⟩
  go_wp2_with fail
  refine (firstIndex_any a n cap 0 cut N V nm _ hp4 hn (Nat.le_of_lt hlt)).mono ?_
  rintro e w' ⟨rfl, rfl⟩
  rw [show cut - 0 = cut from rfl, Kl.out]
  go_wp2_with fail
  refine (answers_any a n cap kl lv li ln N V _ hp4 hn bl Rl).mono ?_
  rintro e w' ⟨rfl, rfl⟩
  go_wp2_with fail
  refine (firstIndex_any a n cap cut n N V nm _ hp4 hn (Nat.le_refl _)).mono ?_
  rintro e w' ⟨rfl, rfl⟩
  rw [Kr.out]
  go_wp2_with fail
  refine (answers_any a n cap kr rv ri rn N V _ hp4 hn br Rr).mono ?_
  rintro e w' ⟨rfl, rfl⟩
  rcases HFin.out with ⟨rfl, rfl, rfl, rfl, rfl⟩ | ⟨rfl, rfl, rfl, rfl⟩
  all_goals
    go_wp2_with fail
    go_ret
    exact ⟨rfl, ((hb1.trans (hb2.mono hb1.size)).trans (hb3.mono (Nat.le_trans hb1.size hb2.size))).trans (hb4.mono (Nat.le_trans (Nat.le_trans hb1.size hb2.size) hb3.size))⟩

set_option maxHeartbeats 1000000 in
theorem law3_end (a : Option Addr) (n cap : Nat) (N : Nat → ByteArray) (V : Nat → Int) (nm : ByteArray) (w : World) (hp : PairsAt w a n N V) (hn : n ≤ 65536)  (hnm : nm.size ≤ 1048576)
    (kw kl kr wv lv rv : Int) (wi wn li ln ri rn : Bool)
    (bw : kw < n) (bl : kl < n) (br : kr < n)
    (Kw : Hid (find (named N nm) 0 n = kw)) (Kl : Hid (find (named N nm) 0 n = kl)) (Kr : Hid (find (named N nm) n (n - n) = kr))
    (Rw : Hid (Res V kw wv wi wn)) (Rl : Hid (Res V kl lv li ln)) (Rr : Hid (Res V kr rv ri rn))
    (Rr' : Hid (Res (fun i => V (n + i)) (find (named (fun i => N (n + i)) nm) 0 (n - n)) rv ri rn))
    (HFin : Hid ((ln = false ∧ wn = false ∧ wi = true ∧ li = true ∧ wv = lv) ∨ (ln = true ∧ wn = rn ∧ wi = ri ∧ wv = rv))) :
    Calls Try.prog 3 #[.slice a n cap, .int .i64 n, .string nm] w fun e w' => e = .returned (.bool true) ∧ Below w.heap.size w w' := by
  go_enter Try.func3, Try.ntmps3
  go_wp2_with fail
  refine (bytes8 a n cap N V n nm w hp).mono ?_
  rintro e w' ⟨⟨b, rfl⟩, rfl⟩
  cases b
  · go_wp2_with fail
    go_ret
    exact ⟨rfl, Below.refl _ _⟩
  go_wp2_with fail
  refine (sumPairs_any _ a n cap N V _ hp hn).mono ?_
  rintro e w' ⟨⟨t, rfl⟩, rfl⟩
  by_cases ht : 1048576 < t
  · go_wp2_with fail
    go_ret
    exact ⟨rfl, Below.refl _ _⟩
  go_wp2_with fail
  refine (build_any a n cap N V _ hp hn).mono ?_
  rintro e w1 ⟨rfl, hb1, ho1⟩
  go_wp2_with fail
  refine (getInt_any _ n n N V nm wv wi wn _ ho1 (by omega) (by rw [Kw.out]; exact Rw)).mono ?_
  rintro e w2 ⟨rfl, hb2⟩
  have ho2 := ho1.below hb2
  go_wp2_with fail
  refine (getInt_any _ n n N V nm lv li ln _ (ho2.take (Nat.le_refl _)) (by omega) (by rw [Kl.out]; exact Rl)).mono ?_
  rintro e w3 ⟨rfl, hb3⟩
  have ho3 := ho2.below hb3
  clear ho1 ho2
  go_wp2_with fail
  refine (getInt_any _ 0 0 (fun i => N (n + i)) (fun i => V (n + i)) nm rv ri rn _ (fun i hi => by omega) (by omega) (by have := Rr'; rw [Nat.sub_self] at this; exact this)).mono ?_
  rintro e w4 ⟨rfl, hb4⟩
  have hp4 := ((hp.below hb1).below hb2).below hb3 |>.below hb4
  clear hp ho3
  go_wp2_with fail
  refine (firstIndex_any a n cap 0 n N V nm _ hp4 hn (Nat.le_refl _)).mono ?_
  rintro e w' ⟨rfl, rfl⟩
  rw [show n - 0 = n from rfl, Kw.out]
  go_wp2_with fail
  refine (answers_any a n cap kw wv wi wn N V _ hp4 hn bw Rw).mono ?_
  rintro e w' ⟨rfl, rfl⟩
  go_wp2_with fail
  refine (firstIndex_any a n cap 0 n N V nm _ hp4 hn (Nat.le_refl _)).mono ?_
  rintro e w' ⟨rfl, rfl⟩
  rw [show n - 0 = n from rfl, Kl.out]
  go_wp2_with fail
  refine (answers_any a n cap kl lv li ln N V _ hp4 hn bl Rl).mono ?_
  rintro e w' ⟨rfl, rfl⟩
  go_wp2_with fail
  refine (firstIndex_any a n cap n n N V nm _ hp4 hn (Nat.le_refl _)).mono ?_
  rintro e w' ⟨rfl, rfl⟩
  rw [Kr.out]
  go_wp2_with fail
  refine (answers_any a n cap kr rv ri rn N V _ hp4 hn br Rr).mono ?_
  rintro e w' ⟨rfl, rfl⟩
  rcases HFin.out with ⟨rfl, rfl, rfl, rfl, rfl⟩ | ⟨rfl, rfl, rfl, rfl⟩
  all_goals
    go_wp2_with fail
    go_ret
    exact ⟨rfl, ((hb1.trans (hb2.mono hb1.size)).trans (hb3.mono (Nat.le_trans hb1.size hb2.size))).trans (hb4.mono (Nat.le_trans (Nat.le_trans hb1.size hb2.size) hb3.size))⟩

theorem law3_core (a : Option Addr) (n cap cut : Nat) (N : Nat → ByteArray) (V : Nat → Int) (nm : ByteArray) (w : World) (hp : PairsAt w a n N V) (hn : n ≤ 65536) (hcut : cut ≤ n) (hnm : nm.size ≤ 1048576)
    (kw kl kr wv lv rv : Int) (wi wn li ln ri rn : Bool)
    (bw : kw < n) (bl : kl < n) (br : kr < n)
    (Kw : Hid (find (named N nm) 0 n = kw)) (Kl : Hid (find (named N nm) 0 cut = kl)) (Kr : Hid (find (named N nm) cut (n - cut) = kr))
    (Rw : Hid (Res V kw wv wi wn)) (Rl : Hid (Res V kl lv li ln)) (Rr : Hid (Res V kr rv ri rn))
    (Rr' : Hid (Res (fun i => V (cut + i)) (find (named (fun i => N (cut + i)) nm) 0 (n - cut)) rv ri rn))
    (HFin : Hid ((ln = false ∧ wn = false ∧ wi = true ∧ li = true ∧ wv = lv) ∨ (ln = true ∧ wn = rn ∧ wi = ri ∧ wv = rv))) :
    Calls Try.prog 3 #[.slice a n cap, .int .i64 cut, .string nm] w fun e w' => e = .returned (.bool true) ∧ Below w.heap.size w w' := by
  by_cases hcn : cut = n
  · subst hcn
    exact law3_end a cut cap N V nm w hp hn hnm kw kl kr wv lv rv wi wn li ln ri rn bw bl br Kw Kl Kr Rw Rl Rr Rr' HFin
  · exact law3_lt a n cap cut N V nm w hp hn (by omega) hnm kw kl kr wv lv rv wi wn li ln ri rn bw bl br Kw Kl Kr Rw Rl Rr Rr' HFin

/-- A part of the names behind the cut. -/
theorem find_shift (N : Nat → ByteArray) (nm : ByteArray) (c m : Nat) :
    (find (named N nm) c m = -1 ∧ find (named (fun i => N (c + i)) nm) 0 m = -1) ∨ ∃ j : Nat, find (named N nm) c m = ((c + j : Nat) : Int) ∧ find (named (fun i => N (c + i)) nm) 0 m = (j : Int) ∧ j < m := by
  rcases find_spec (named N nm) m c with ⟨h1, h2⟩ | ⟨k, h1, h2, h3, h4, h5⟩
  · exact Or.inl ⟨h1, find_none fun i _ hi => h2 (c + i) (by omega) (by omega)⟩
  · refine Or.inr ⟨k - c, by rw [h1, show c + (k - c) = k by omega], ?_, by omega⟩
    refine find_eq (by omega) (by omega) ?_ fun i _ hi => h5 (c + i) (by omega) (by omega)
    show named N nm (c + (k - c)) = true
    rw [show c + (k - c) = k by omega]; exact h4

theorem law3_mid (a : Option Addr) (n cap cut : Nat) (N : Nat → ByteArray) (V : Nat → Int) (nm : ByteArray) (w : World) (hp : PairsAt w a n N V) (hn : n ≤ 65536) (hcut : cut ≤ n) (hnm : nm.size ≤ 1048576) :
    Calls Try.prog 3 #[.slice a n cap, .int .i64 cut, .string nm] w fun e w' => e = .returned (.bool true) ∧ Below w.heap.size w w' := by
  rcases find_spec (named N nm) cut 0 with ⟨l1, l2⟩ | ⟨kl, l1, _, l3, l4, l5⟩
  · rcases find_shift N nm cut (n - cut) with ⟨r1, r2⟩ | ⟨j, r1, r2, r3⟩
    · have hw : find (named N nm) 0 n = -1 := find_none fun i _ hi => by
        by_cases hc : i < cut
        · exact l2 i (by omega) (by omega)
        · rcases find_spec (named N nm) (n - cut) cut with ⟨_, g⟩ | ⟨k, g, _, _, _, _⟩
          · exact g i (by omega) (by omega)
          · rw [g] at r1; omega
      exact law3_core a n cap cut N V nm w hp hn hcut hnm (-1) (-1) (-1) 0 0 0 false true false true false true (by omega) (by omega) (by omega) hw l1 r1
        (Or.inl ⟨rfl, rfl, rfl, rfl⟩) (Or.inl ⟨rfl, rfl, rfl, rfl⟩) (Or.inl ⟨rfl, rfl, rfl, rfl⟩) (Or.inl ⟨r2, rfl, rfl, rfl⟩) (Or.inr ⟨rfl, rfl, rfl, rfl⟩)
    · have hw : find (named N nm) 0 n = ((cut + j : Nat) : Int) := by
        rcases find_spec (named N nm) (n - cut) cut with ⟨g, _⟩ | ⟨k, g, g1, g2, g3, g4⟩
        · rw [g] at r1; omega
        · have hk : k = cut + j := by rw [g] at r1; omega
          subst hk
          refine find_eq (by omega) (by omega) g3 fun i _ hi => ?_
          by_cases hc : i < cut
          · exact l2 i (by omega) (by omega)
          · exact g4 i (by omega) hi
      exact law3_core a n cap cut N V nm w hp hn hcut hnm _ (-1) _ (V (cut + j)) 0 (V (cut + j)) true false false true true false (by omega) (by omega) (by omega) hw l1 r1
        (Or.inr ⟨_, rfl, rfl, rfl, rfl⟩) (Or.inl ⟨rfl, rfl, rfl, rfl⟩) (Or.inr ⟨_, rfl, rfl, rfl, rfl⟩) (Or.inr ⟨_, r2, rfl, rfl, rfl⟩) (Or.inr ⟨rfl, rfl, rfl, rfl⟩)
  · have hw : find (named N nm) 0 n = (kl : Int) := find_eq (by omega) (by omega) l4 fun i hi hj => l5 i hi hj
    rcases find_shift N nm cut (n - cut) with ⟨r1, r2⟩ | ⟨j, r1, r2, r3⟩
    · exact law3_core a n cap cut N V nm w hp hn hcut hnm _ _ (-1) (V kl) (V kl) 0 true false true false false true (by omega) (by omega) (by omega) hw l1 r1
        (Or.inr ⟨_, rfl, rfl, rfl, rfl⟩) (Or.inr ⟨_, rfl, rfl, rfl, rfl⟩) (Or.inl ⟨rfl, rfl, rfl, rfl⟩) (Or.inl ⟨r2, rfl, rfl, rfl⟩) (Or.inl ⟨rfl, rfl, rfl, rfl, rfl⟩)
    · exact law3_core a n cap cut N V nm w hp hn hcut hnm _ _ _ (V kl) (V kl) (V (cut + j)) true false true false true false (by omega) (by omega) (by omega) hw l1 r1
        (Or.inr ⟨_, rfl, rfl, rfl, rfl⟩) (Or.inr ⟨_, rfl, rfl, rfl, rfl⟩) (Or.inr ⟨_, rfl, rfl, rfl, rfl⟩) (Or.inr ⟨_, r2, rfl, rfl, rfl⟩) (Or.inl ⟨rfl, rfl, rfl, rfl, rfl⟩)

set_option maxHeartbeats 400000 in
/-- FnGetAgreesAtAnyCut returns true, whatever came in. -/
theorem law3 (a : Option Addr) (n cap : Nat) (N : Nat → ByteArray) (V : Nat → Int) (cut : Int) (nm : ByteArray) (w : World) (hp : PairsAt w a n N V) :
    Calls Try.prog 3 #[.slice a n cap, .int .i64 cut, .string nm] w fun e w' => e = .returned (.bool true) ∧ Below w.heap.size w w' := by
  by_cases hn : 65536 < n
  · go_enter Try.func3, Try.ntmps3
    go_wp2_with fail
    refine (bytes8 a n cap N V cut nm w hp).mono ?_
    rintro e w' ⟨⟨b, rfl⟩, rfl⟩
    cases b <;> (go_wp2_with fail; go_ret; exact ⟨rfl, Below.refl _ _⟩)
  by_cases hnm : 1048576 < nm.size
  · go_enter Try.func3, Try.ntmps3
    go_wp2_with fail
    refine (bytes8 a n cap N V cut nm w hp).mono ?_
    rintro e w' ⟨⟨b, rfl⟩, rfl⟩
    cases b <;> (go_wp2_with fail; go_ret; exact ⟨rfl, Below.refl _ _⟩)
  by_cases hc : cut < 0 ∨ (n : Int) < cut
  · rcases hc with hc | hc
    all_goals
      go_enter Try.func3, Try.ntmps3
      go_wp2_with fail
      refine (bytes8 a n cap N V cut nm w hp).mono ?_
      rintro e w' ⟨⟨b, rfl⟩, rfl⟩
      cases b
      · go_wp2_with fail
        go_ret
        exact ⟨rfl, Below.refl _ _⟩
      go_wp2_with fail
      refine (sumPairs_any _ a n cap N V _ hp (by omega)).mono ?_
      rintro e w' ⟨⟨t, rfl⟩, rfl⟩
      by_cases ht : 1048576 < t
      · go_wp2_with fail
        go_ret
        exact ⟨rfl, Below.refl _ _⟩
      go_wp2_with fail
      go_ret
      exact ⟨rfl, Below.refl _ _⟩
  obtain ⟨c, rfl⟩ := Int.eq_ofNat_of_zero_le (show 0 ≤ cut by omega)
  exact law3_mid a n cap c N V nm w hp (by omega) (by omega) (by omega)
end Go.Proofs.Qxb6613659a

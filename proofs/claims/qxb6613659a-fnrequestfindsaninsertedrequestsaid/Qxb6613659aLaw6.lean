import Derived.Test.Qxb6613659aReq
import Derived.Test.Qxb6613659aSort
import Derived.LaidEqlPtr
namespace Go.Proofs.Qxb6613659a
set_option linter.unusedVariables false
open Go.RowKit Go.Deep

theorem info85 : ∃ j, Try.prog.info? 85 = some j := by
  have h : (Try.prog.info? 85).isSome = true := by kernel_rfl
  exact Option.isSome_iff_exists.1 h

theorem req_same (a : Addr) (w : World) : (binOp .eql 56 (.pointer (some a)) (.pointer (some a))).run Try.prog w = .ok (.bool true) w := by
  obtain ⟨j, hj⟩ := info85
  exact run_eql_ptr_same w a Try.underlying56 hj

theorem req_not_other (a : Addr) (w : World) : (binOp .neq 56 (.pointer (some a)) (.pointer (some a))).run Try.prog w = .ok (.bool false) w := by
  obtain ⟨j, hj⟩ := info85
  have h : ∀ d : Nat, (Op.equalIn (d + 1) 56 (.pointer (some a)) (.pointer (some a))).run Try.prog w = .ok true w := fun d => by
    simp [Op.equalIn, run_underlying Try.underlying56, sizeOf, typeInfo, hj, run_sameAddr_same]
  simp only [binOp]
  simp [Op.equal, Op.maxDepth, h 9999]

/-- What distinct is to answer: some bool; where it is true, no id stands twice. -/
def DistinctSaid : Prop := ∀ (a : Option Addr) (n cap : Nat) (Z : Nat → Int) (w : World), IdsAt w a n Z → n ≤ 131072 →
  Calls Try.prog 25 #[.slice a n cap] w fun e w' => (∃ b, e = .returned (.bool b) ∧ (b = true → Inj Z n)) ∧ Below w.heap.size w w'

theorem ReqsAt.take {w : World} {a : Option Addr} {n : Nat} {Q : Nat → Nat} {Z : Nat → Int} (h : ReqsAt w a n Q Z) {m : Nat} (hm : m ≤ n) : ReqsAt w a m Q Z :=
  fun i hi => h i (by omega)

theorem ReqsAt.drop {w : World} {b o : Nat} {n : Nat} {Q : Nat → Nat} {Z : Nat → Int} (h : ReqsAt w (some ⟨b, o, none⟩) n Q Z) (c : Nat) :
    ReqsAt w (some ⟨b, o + c, none⟩) (n - c) (fun i => Q (c + i)) (fun i => Z (c + i)) := by
  intro i hi
  obtain ⟨b', o', e, h1, h2⟩ := h (c + i) (by omega)
  obtain ⟨rfl, rfl⟩ : b' = b ∧ o' = o := by simpa [eq_comm] using e
  exact ⟨_, _, rfl, by rw [show o' + c + i = o' + (c + i) by omega]; exact h1, h2⟩

/-- An index of the part behind the cut. -/
theorem findId_shift (Z : Nat → Int) (x : Int) (c m : Nat) :
    (find (isId Z x) c m = -1 ∧ find (isId (fun i => Z (c + i)) x) 0 m = -1) ∨ ∃ j : Nat, find (isId Z x) c m = ((c + j : Nat) : Int) ∧ find (isId (fun i => Z (c + i)) x) 0 m = (j : Int) ∧ j < m := by
  rcases find_spec (isId Z x) m c with ⟨h1, h2⟩ | ⟨k, h1, h2, h3, h4, h5⟩
  · exact Or.inl ⟨h1, find_none fun i _ hi => h2 (c + i) (by omega) (by omega)⟩
  · refine Or.inr ⟨k - c, by rw [h1, show c + (k - c) = k by omega], ?_, by omega⟩
    refine find_eq (by omega) (by omega) ?_ fun i _ hi => h5 (c + i) (by omega) (by omega)
    show isId Z x (c + (k - c)) = true
    rw [show c + (k - c) = k by omega]; exact h4

set_option maxHeartbeats 1000000 in
theorem law6_none_lt (HD : DistinctSaid) (a : Option Addr) (n cap cut : Nat) (Z : Nat → Int) (q : Int) (w : World) (hp : IdsAt w a n Z) (hn : n ≤ 131072) (hcut : cut < n)
    (Kw : Hid (find (isId Z q) 0 n = -1)) (Kl : Hid (Inj Z n → find (isId Z q) 0 cut = -1)) (Kr : Hid (Inj Z n → find (isId (fun i => Z (cut + i)) q) 0 (n - cut) = -1)) :
    Calls Try.prog 6 #[.slice a n cap, .int .i64 cut, .int .i64 q] w fun e w' => e = .returned (.bool true) ∧ Below w.heap.size w w' := by
  go_enter Try.func6, Try.ntmps6
  go_wp2_with fail
  refine (bytes24 a n cap cut q w).mono ?_
  rintro e w' ⟨⟨b, rfl⟩, rfl⟩
  cases b
  · go_wp2_with fail
    go_ret
    exact ⟨rfl, Below.refl _ _⟩
  go_wp2_with fail
  refine (HD a n cap Z _ hp hn).mono ?_
  rintro e w1 ⟨⟨b, rfl, hinj⟩, hb1⟩
  have HI : Hid (b = true → Inj Z n) := hinj
  clear hinj
  cases b
  · go_wp2_with fail
    go_ret
    exact ⟨rfl, hb1⟩
  have Kl' : Hid (find (isId Z q) 0 cut = -1) := Kl.out (HI.out rfl)
  have Kr' : Hid (find (isId (fun i => Z (cut + i)) q) 0 (n - cut) = -1) := Kr.out (HI.out rfl)
  clear HI Kl Kr
  have hp1 := hp.below hb1
  clear hp
  go_wp2_with fail
  refine (buildReq_any a n cap Z _ hp1 hn).mono ?_
  rintro e w2 ⟨rfl, hb2, hr2⟩
  have hp2 := hp1.below hb2
  have hb12 := hb1.trans (hb2.mono hb1.size)
  clear hp1
  generalize hQ : (fun j => w1.heap.size + 1 + j) = Q at hr2
  clear hQ
  generalize hB : w1.heap.size = B at hr2 ⊢
  clear hB hb1 hb2
  go_wp2_with fail
  refine (newDialogue_any _ _ n n).mono ?_
  rintro e w3 ⟨rfl, hb3, hd3⟩
  have hr3 := hr2.below hb3
  have hp3 := hp2.below hb3
  have hb13 := hb12.trans (hb3.mono hb12.size)
  clear hr2 hp2 hb3 hb12
  go_wp2_with fail
  refine (zzRequest_any _ _ n n Q Z q _ hr3 (by omega) hd3).mono ?_
  rintro e w4 ⟨rfl, hb4⟩
  rw [Kw.out, reqAt_neg]
  have hr4 := hr3.below hb4
  have hp4 := hp3.below hb4
  have hb14 := hb13.trans (hb4.mono hb13.size)
  clear hr3 hp3 hb4 hb13 hd3
  go_wp2_with fail
  refine (newDialogue_any _ _ cut cut).mono ?_
  rintro e w5 ⟨rfl, hb5, hd5⟩
  have hr5 := hr4.below hb5
  have hp5 := hp4.below hb5
  have hb15 := hb14.trans (hb5.mono hb14.size)
  clear hr4 hp4 hb5 hb14
  go_wp2_with fail
  refine (zzRequest_any _ _ cut cut Q Z q _ (hr5.take (Nat.le_of_lt hcut)) (by omega) hd5).mono ?_
  rintro e w6 ⟨rfl, hb6⟩
  rw [Kl'.out, reqAt_neg]
  have hr6 := hr5.below hb6
  have hp6 := hp5.below hb6
  have hb16 := hb15.trans (hb6.mono hb15.size)
  clear hr5 hp5 hb6 hb15 hd5
  go_wp2_with fail
  refine (newDialogue_any _ _ (n - cut) (n - cut)).mono ?_
  rintro e w7 ⟨rfl, hb7, hd7⟩
  have hr7 := hr6.below hb7
  have hp7 := hp6.below hb7
  have hb17 := hb16.trans (hb7.mono hb16.size)
  clear hr6 hp6 hb7 hb16
  go_wp2_with fail
  refine (zzRequest_any _ _ (n - cut) (n - cut) (fun i => Q (cut + i)) (fun i => Z (cut + i)) q _ (by simpa using hr7.drop cut) (by omega) hd7).mono ?_
  rintro e w8 ⟨rfl, hb8⟩
  rw [Kr'.out, reqAt_neg]
  have hr8 := hr7.below hb8
  have hp8 := hp7.below hb8
  have hb18 := hb17.trans (hb8.mono hb17.size)
  clear hr7 hp7 hb8 hb17 hd7
  go_wp2_with fail
  refine (indexOf_any a n cap Z q _ hp8 hn).mono ?_
  rintro e w' ⟨rfl, rfl⟩
  rw [Kw.out]
  clear hr8 hp8
  go_wp2_with fail
  go_ret
  exact ⟨rfl, hb18⟩

set_option maxHeartbeats 1000000 in
theorem law6_none_end (HD : DistinctSaid) (a : Option Addr) (n cap : Nat) (Z : Nat → Int) (q : Int) (w : World) (hp : IdsAt w a n Z) (hn : n ≤ 131072)
    (Kw : Hid (find (isId Z q) 0 n = -1)) (Kl : Hid (Inj Z n → find (isId Z q) 0 n = -1)) (Kr : Hid (Inj Z n → find (isId (fun i => Z (n + i)) q) 0 (n - n) = -1)) :
    Calls Try.prog 6 #[.slice a n cap, .int .i64 n, .int .i64 q] w fun e w' => e = .returned (.bool true) ∧ Below w.heap.size w w' := by
  go_enter Try.func6, Try.ntmps6
  go_wp2_with fail
  refine (bytes24 a n cap n q w).mono ?_
  rintro e w' ⟨⟨b, rfl⟩, rfl⟩
  cases b
  · go_wp2_with fail
    go_ret
    exact ⟨rfl, Below.refl _ _⟩
  go_wp2_with fail
  refine (HD a n cap Z _ hp hn).mono ?_
  rintro e w1 ⟨⟨b, rfl, hinj⟩, hb1⟩
  have HI : Hid (b = true → Inj Z n) := hinj
  clear hinj
  cases b
  · go_wp2_with fail
    go_ret
    exact ⟨rfl, hb1⟩
  have Kl' : Hid (find (isId Z q) 0 n = -1) := Kl.out (HI.out rfl)
  have Kr' : Hid (find (isId (fun i => Z (n + i)) q) 0 (n - n) = -1) := Kr.out (HI.out rfl)
  clear HI Kl Kr
  have hp1 := hp.below hb1
  clear hp
  go_wp2_with fail
  refine (buildReq_any a n cap Z _ hp1 hn).mono ?_
  rintro e w2 ⟨rfl, hb2, hr2⟩
  have hp2 := hp1.below hb2
  have hb12 := hb1.trans (hb2.mono hb1.size)
  clear hp1
  generalize hQ : (fun j => w1.heap.size + 1 + j) = Q at hr2
  clear hQ
  generalize hB : w1.heap.size = B at hr2 ⊢
  clear hB hb1 hb2
  go_wp2_with fail
  refine (newDialogue_any _ _ n n).mono ?_
  rintro e w3 ⟨rfl, hb3, hd3⟩
  have hr3 := hr2.below hb3
  have hp3 := hp2.below hb3
  have hb13 := hb12.trans (hb3.mono hb12.size)
  clear hr2 hp2 hb3 hb12
  go_wp2_with fail
  refine (zzRequest_any _ _ n n Q Z q _ hr3 (by omega) hd3).mono ?_
  rintro e w4 ⟨rfl, hb4⟩
  rw [Kw.out, reqAt_neg]
  have hr4 := hr3.below hb4
  have hp4 := hp3.below hb4
  have hb14 := hb13.trans (hb4.mono hb13.size)
  clear hr3 hp3 hb4 hb13 hd3
  go_wp2_with fail
  refine (newDialogue_any _ _ n n).mono ?_
  rintro e w5 ⟨rfl, hb5, hd5⟩
  have hr5 := hr4.below hb5
  have hp5 := hp4.below hb5
  have hb15 := hb14.trans (hb5.mono hb14.size)
  clear hr4 hp4 hb5 hb14
  go_wp2_with fail
  refine (zzRequest_any _ _ n n Q Z q _ (hr5.take (Nat.le_refl _)) (by omega) hd5).mono ?_
  rintro e w6 ⟨rfl, hb6⟩
  rw [Kl'.out, reqAt_neg]
  have hr6 := hr5.below hb6
  have hp6 := hp5.below hb6
  have hb16 := hb15.trans (hb6.mono hb15.size)
  clear hr5 hp5 hb6 hb15 hd5
  go_wp2_with fail
  refine (newDialogue_any _ _ 0 0).mono ?_
  rintro e w7 ⟨rfl, hb7, hd7⟩
  have hr7 := hr6.below hb7
  have hp7 := hp6.below hb7
  have hb17 := hb16.trans (hb7.mono hb16.size)
  clear hr6 hp6 hb7 hb16
  go_wp2_with fail
  refine (zzRequest_any _ _ 0 0 (fun i => Q (n + i)) (fun i => Z (n + i)) q _ (fun i hi => by omega) (by omega) hd7).mono ?_
  rintro e w8 ⟨rfl, hb8⟩
  rw [show find (isId (fun i => Z (n + i)) q) 0 0 = -1 from rfl, reqAt_neg]
  have hr8 := hr7.below hb8
  have hp8 := hp7.below hb8
  have hb18 := hb17.trans (hb8.mono hb17.size)
  clear hr7 hp7 hb8 hb17 hd7
  go_wp2_with fail
  refine (indexOf_any a n cap Z q _ hp8 hn).mono ?_
  rintro e w' ⟨rfl, rfl⟩
  rw [Kw.out]
  clear hr8 hp8
  go_wp2_with fail
  go_ret
  exact ⟨rfl, hb18⟩

set_option maxHeartbeats 1000000 in
theorem law6_left_lt (HD : DistinctSaid) (a : Option Addr) (n cap cut : Nat) (Z : Nat → Int) (q : Int) (w : World) (hp : IdsAt w a n Z) (hn : n ≤ 131072) (hcut : cut < n) (k : Nat) (hk : k < n) (hkc : k < cut) (hkq : Hid (isId Z q k = true))
    (Kw : Hid (find (isId Z q) 0 n = (k : Int))) (Kl : Hid (Inj Z n → find (isId Z q) 0 cut = (k : Int))) (Kr : Hid (Inj Z n → find (isId (fun i => Z (cut + i)) q) 0 (n - cut) = -1)) :
    Calls Try.prog 6 #[.slice a n cap, .int .i64 cut, .int .i64 q] w fun e w' => e = .returned (.bool true) ∧ Below w.heap.size w w' := by
  go_enter Try.func6, Try.ntmps6
  go_wp2_with fail
  refine (bytes24 a n cap cut q w).mono ?_
  rintro e w' ⟨⟨b, rfl⟩, rfl⟩
  cases b
  · go_wp2_with fail
    go_ret
    exact ⟨rfl, Below.refl _ _⟩
  go_wp2_with fail
  refine (HD a n cap Z _ hp hn).mono ?_
  rintro e w1 ⟨⟨b, rfl, hinj⟩, hb1⟩
  have HI : Hid (b = true → Inj Z n) := hinj
  clear hinj
  cases b
  · go_wp2_with fail
    go_ret
    exact ⟨rfl, hb1⟩
  have Kl' : Hid (find (isId Z q) 0 cut = (k : Int)) := Kl.out (HI.out rfl)
  have Kr' : Hid (find (isId (fun i => Z (cut + i)) q) 0 (n - cut) = -1) := Kr.out (HI.out rfl)
  clear HI Kl Kr
  have hp1 := hp.below hb1
  clear hp
  go_wp2_with fail
  refine (buildReq_any a n cap Z _ hp1 hn).mono ?_
  rintro e w2 ⟨rfl, hb2, hr2⟩
  have hp2 := hp1.below hb2
  have hb12 := hb1.trans (hb2.mono hb1.size)
  clear hp1
  generalize hQ : (fun j => w1.heap.size + 1 + j) = Q at hr2
  clear hQ
  generalize hB : w1.heap.size = B at hr2 ⊢
  clear hB hb1 hb2
  go_wp2_with fail
  refine (newDialogue_any _ _ n n).mono ?_
  rintro e w3 ⟨rfl, hb3, hd3⟩
  have hr3 := hr2.below hb3
  have hp3 := hp2.below hb3
  have hb13 := hb12.trans (hb3.mono hb12.size)
  clear hr2 hp2 hb3 hb12
  go_wp2_with fail
  refine (zzRequest_any _ _ n n Q Z q _ hr3 (by omega) hd3).mono ?_
  rintro e w4 ⟨rfl, hb4⟩
  rw [Kw.out, reqAt_nat]
  have hr4 := hr3.below hb4
  have hp4 := hp3.below hb4
  have hb14 := hb13.trans (hb4.mono hb13.size)
  clear hr3 hp3 hb4 hb13 hd3
  go_wp2_with fail
  refine (newDialogue_any _ _ cut cut).mono ?_
  rintro e w5 ⟨rfl, hb5, hd5⟩
  have hr5 := hr4.below hb5
  have hp5 := hp4.below hb5
  have hb15 := hb14.trans (hb5.mono hb14.size)
  clear hr4 hp4 hb5 hb14
  go_wp2_with fail
  refine (zzRequest_any _ _ cut cut Q Z q _ (hr5.take (Nat.le_of_lt hcut)) (by omega) hd5).mono ?_
  rintro e w6 ⟨rfl, hb6⟩
  rw [Kl'.out, reqAt_nat]
  have hr6 := hr5.below hb6
  have hp6 := hp5.below hb6
  have hb16 := hb15.trans (hb6.mono hb15.size)
  clear hr5 hp5 hb6 hb15 hd5
  go_wp2_with fail
  refine (newDialogue_any _ _ (n - cut) (n - cut)).mono ?_
  rintro e w7 ⟨rfl, hb7, hd7⟩
  have hr7 := hr6.below hb7
  have hp7 := hp6.below hb7
  have hb17 := hb16.trans (hb7.mono hb16.size)
  clear hr6 hp6 hb7 hb16
  go_wp2_with fail
  refine (zzRequest_any _ _ (n - cut) (n - cut) (fun i => Q (cut + i)) (fun i => Z (cut + i)) q _ (by simpa using hr7.drop cut) (by omega) hd7).mono ?_
  rintro e w8 ⟨rfl, hb8⟩
  rw [Kr'.out, reqAt_neg]
  have hr8 := hr7.below hb8
  have hp8 := hp7.below hb8
  have hb18 := hb17.trans (hb8.mono hb17.size)
  clear hr7 hp7 hb8 hb17 hd7
  go_wp2_with fail
  refine (indexOf_any a n cap Z q _ hp8 hn).mono ?_
  rintro e w' ⟨rfl, rfl⟩
  rw [Kw.out]
  obtain ⟨xb, xo, hx, h1, h2⟩ := hr8 k hk
  obtain ⟨rfl, rfl⟩ : xb = B ∧ xo = 0 := by simpa [eq_comm] using hx
  rw [Nat.zero_add] at h1
  have hzk : Hid (Z k = q) := by
    have := hkq.out
    show Z k = q
    simpa [isId] using this
  clear hr8 hp8 hx
  have hs := req_same
  have hno := req_not_other
  go_wp2_with fail
  refine (requestID_any (Q k) (Z k) _ h2).mono ?_
  rintro e w' ⟨rfl, rfl⟩
  rw [hzk.out]
  clear h1 h2
  go_wp2_with fail
  go_ret
  exact ⟨rfl, hb18⟩

set_option maxHeartbeats 1000000 in
theorem law6_left_end (HD : DistinctSaid) (a : Option Addr) (n cap : Nat) (Z : Nat → Int) (q : Int) (w : World) (hp : IdsAt w a n Z) (hn : n ≤ 131072) (k : Nat) (hk : k < n) (hkc : k < n) (hkq : Hid (isId Z q k = true))
    (Kw : Hid (find (isId Z q) 0 n = (k : Int))) (Kl : Hid (Inj Z n → find (isId Z q) 0 n = (k : Int))) (Kr : Hid (Inj Z n → find (isId (fun i => Z (n + i)) q) 0 (n - n) = -1)) :
    Calls Try.prog 6 #[.slice a n cap, .int .i64 n, .int .i64 q] w fun e w' => e = .returned (.bool true) ∧ Below w.heap.size w w' := by
  go_enter Try.func6, Try.ntmps6
  go_wp2_with fail
  refine (bytes24 a n cap n q w).mono ?_
  rintro e w' ⟨⟨b, rfl⟩, rfl⟩
  cases b
  · go_wp2_with fail
    go_ret
    exact ⟨rfl, Below.refl _ _⟩
  go_wp2_with fail
  refine (HD a n cap Z _ hp hn).mono ?_
  rintro e w1 ⟨⟨b, rfl, hinj⟩, hb1⟩
  have HI : Hid (b = true → Inj Z n) := hinj
  clear hinj
  cases b
  · go_wp2_with fail
    go_ret
    exact ⟨rfl, hb1⟩
  have Kl' : Hid (find (isId Z q) 0 n = (k : Int)) := Kl.out (HI.out rfl)
  have Kr' : Hid (find (isId (fun i => Z (n + i)) q) 0 (n - n) = -1) := Kr.out (HI.out rfl)
  clear HI Kl Kr
  have hp1 := hp.below hb1
  clear hp
  go_wp2_with fail
  refine (buildReq_any a n cap Z _ hp1 hn).mono ?_
  rintro e w2 ⟨rfl, hb2, hr2⟩
  have hp2 := hp1.below hb2
  have hb12 := hb1.trans (hb2.mono hb1.size)
  clear hp1
  generalize hQ : (fun j => w1.heap.size + 1 + j) = Q at hr2
  clear hQ
  generalize hB : w1.heap.size = B at hr2 ⊢
  clear hB hb1 hb2
  go_wp2_with fail
  refine (newDialogue_any _ _ n n).mono ?_
  rintro e w3 ⟨rfl, hb3, hd3⟩
  have hr3 := hr2.below hb3
  have hp3 := hp2.below hb3
  have hb13 := hb12.trans (hb3.mono hb12.size)
  clear hr2 hp2 hb3 hb12
  go_wp2_with fail
  refine (zzRequest_any _ _ n n Q Z q _ hr3 (by omega) hd3).mono ?_
  rintro e w4 ⟨rfl, hb4⟩
  rw [Kw.out, reqAt_nat]
  have hr4 := hr3.below hb4
  have hp4 := hp3.below hb4
  have hb14 := hb13.trans (hb4.mono hb13.size)
  clear hr3 hp3 hb4 hb13 hd3
  go_wp2_with fail
  refine (newDialogue_any _ _ n n).mono ?_
  rintro e w5 ⟨rfl, hb5, hd5⟩
  have hr5 := hr4.below hb5
  have hp5 := hp4.below hb5
  have hb15 := hb14.trans (hb5.mono hb14.size)
  clear hr4 hp4 hb5 hb14
  go_wp2_with fail
  refine (zzRequest_any _ _ n n Q Z q _ (hr5.take (Nat.le_refl _)) (by omega) hd5).mono ?_
  rintro e w6 ⟨rfl, hb6⟩
  rw [Kl'.out, reqAt_nat]
  have hr6 := hr5.below hb6
  have hp6 := hp5.below hb6
  have hb16 := hb15.trans (hb6.mono hb15.size)
  clear hr5 hp5 hb6 hb15 hd5
  go_wp2_with fail
  refine (newDialogue_any _ _ 0 0).mono ?_
  rintro e w7 ⟨rfl, hb7, hd7⟩
  have hr7 := hr6.below hb7
  have hp7 := hp6.below hb7
  have hb17 := hb16.trans (hb7.mono hb16.size)
  clear hr6 hp6 hb7 hb16
  go_wp2_with fail
  refine (zzRequest_any _ _ 0 0 (fun i => Q (n + i)) (fun i => Z (n + i)) q _ (fun i hi => by omega) (by omega) hd7).mono ?_
  rintro e w8 ⟨rfl, hb8⟩
  rw [show find (isId (fun i => Z (n + i)) q) 0 0 = -1 from rfl, reqAt_neg]
  have hr8 := hr7.below hb8
  have hp8 := hp7.below hb8
  have hb18 := hb17.trans (hb8.mono hb17.size)
  clear hr7 hp7 hb8 hb17 hd7
  go_wp2_with fail
  refine (indexOf_any a n cap Z q _ hp8 hn).mono ?_
  rintro e w' ⟨rfl, rfl⟩
  rw [Kw.out]
  obtain ⟨xb, xo, hx, h1, h2⟩ := hr8 k hk
  obtain ⟨rfl, rfl⟩ : xb = B ∧ xo = 0 := by simpa [eq_comm] using hx
  rw [Nat.zero_add] at h1
  have hzk : Hid (Z k = q) := by
    have := hkq.out
    show Z k = q
    simpa [isId] using this
  clear hr8 hp8 hx
  have hs := req_same
  have hno := req_not_other
  go_wp2_with fail
  refine (requestID_any (Q k) (Z k) _ h2).mono ?_
  rintro e w' ⟨rfl, rfl⟩
  rw [hzk.out]
  clear h1 h2
  go_wp2_with fail
  go_ret
  exact ⟨rfl, hb18⟩

set_option maxHeartbeats 1000000 in
theorem law6_right (HD : DistinctSaid) (a : Option Addr) (n cap cut : Nat) (Z : Nat → Int) (q : Int) (w : World) (hp : IdsAt w a n Z) (hn : n ≤ 131072) (hcut : cut < n) (j : Nat) (hk : cut + j < n) (hkq : Hid (isId Z q (cut + j) = true))
    (Kw : Hid (find (isId Z q) 0 n = ((cut + j : Nat) : Int))) (Kl : Hid (Inj Z n → find (isId Z q) 0 cut = -1)) (Kr : Hid (Inj Z n → find (isId (fun i => Z (cut + i)) q) 0 (n - cut) = (j : Int))) :
    Calls Try.prog 6 #[.slice a n cap, .int .i64 cut, .int .i64 q] w fun e w' => e = .returned (.bool true) ∧ Below w.heap.size w w' := by
  go_enter Try.func6, Try.ntmps6
  go_wp2_with fail
  refine (bytes24 a n cap cut q w).mono ?_
  rintro e w' ⟨⟨b, rfl⟩, rfl⟩
  cases b
  · go_wp2_with fail
    go_ret
    exact ⟨rfl, Below.refl _ _⟩
  go_wp2_with fail
  refine (HD a n cap Z _ hp hn).mono ?_
  rintro e w1 ⟨⟨b, rfl, hinj⟩, hb1⟩
  have HI : Hid (b = true → Inj Z n) := hinj
  clear hinj
  cases b
  · go_wp2_with fail
    go_ret
    exact ⟨rfl, hb1⟩
  have Kl' : Hid (find (isId Z q) 0 cut = -1) := Kl.out (HI.out rfl)
  have Kr' : Hid (find (isId (fun i => Z (cut + i)) q) 0 (n - cut) = (j : Int)) := Kr.out (HI.out rfl)
  clear HI Kl Kr
  have hp1 := hp.below hb1
  clear hp
  go_wp2_with fail
  refine (buildReq_any a n cap Z _ hp1 hn).mono ?_
  rintro e w2 ⟨rfl, hb2, hr2⟩
  have hp2 := hp1.below hb2
  have hb12 := hb1.trans (hb2.mono hb1.size)
  clear hp1
  generalize hQ : (fun j => w1.heap.size + 1 + j) = Q at hr2
  clear hQ
  generalize hB : w1.heap.size = B at hr2 ⊢
  clear hB hb1 hb2
  go_wp2_with fail
  refine (newDialogue_any _ _ n n).mono ?_
  rintro e w3 ⟨rfl, hb3, hd3⟩
  have hr3 := hr2.below hb3
  have hp3 := hp2.below hb3
  have hb13 := hb12.trans (hb3.mono hb12.size)
  clear hr2 hp2 hb3 hb12
  go_wp2_with fail
  refine (zzRequest_any _ _ n n Q Z q _ hr3 (by omega) hd3).mono ?_
  rintro e w4 ⟨rfl, hb4⟩
  rw [Kw.out, reqAt_nat]
  have hr4 := hr3.below hb4
  have hp4 := hp3.below hb4
  have hb14 := hb13.trans (hb4.mono hb13.size)
  clear hr3 hp3 hb4 hb13 hd3
  go_wp2_with fail
  refine (newDialogue_any _ _ cut cut).mono ?_
  rintro e w5 ⟨rfl, hb5, hd5⟩
  have hr5 := hr4.below hb5
  have hp5 := hp4.below hb5
  have hb15 := hb14.trans (hb5.mono hb14.size)
  clear hr4 hp4 hb5 hb14
  go_wp2_with fail
  refine (zzRequest_any _ _ cut cut Q Z q _ (hr5.take (Nat.le_of_lt hcut)) (by omega) hd5).mono ?_
  rintro e w6 ⟨rfl, hb6⟩
  rw [Kl'.out, reqAt_neg]
  have hr6 := hr5.below hb6
  have hp6 := hp5.below hb6
  have hb16 := hb15.trans (hb6.mono hb15.size)
  clear hr5 hp5 hb6 hb15 hd5
  go_wp2_with fail
  refine (newDialogue_any _ _ (n - cut) (n - cut)).mono ?_
  rintro e w7 ⟨rfl, hb7, hd7⟩
  have hr7 := hr6.below hb7
  have hp7 := hp6.below hb7
  have hb17 := hb16.trans (hb7.mono hb16.size)
  clear hr6 hp6 hb7 hb16
  go_wp2_with fail
  refine (zzRequest_any _ _ (n - cut) (n - cut) (fun i => Q (cut + i)) (fun i => Z (cut + i)) q _ (by simpa using hr7.drop cut) (by omega) hd7).mono ?_
  rintro e w8 ⟨rfl, hb8⟩
  rw [Kr'.out, reqAt_nat]
  have hr8 := hr7.below hb8
  have hp8 := hp7.below hb8
  have hb18 := hb17.trans (hb8.mono hb17.size)
  clear hr7 hp7 hb8 hb17 hd7
  go_wp2_with fail
  refine (indexOf_any a n cap Z q _ hp8 hn).mono ?_
  rintro e w' ⟨rfl, rfl⟩
  rw [Kw.out]
  obtain ⟨xb, xo, hx, h1, h2⟩ := hr8 (cut + j) hk
  obtain ⟨rfl, rfl⟩ : xb = B ∧ xo = 0 := by simpa [eq_comm] using hx
  rw [Nat.zero_add] at h1
  have hzk : Hid (Z (cut + j) = q) := by
    have := hkq.out
    show Z (cut + j) = q
    simpa [isId] using this
  clear hr8 hp8 hx
  have hs := req_same
  have hno := req_not_other
  go_wp2_with fail
  refine (requestID_any (Q (cut + j)) (Z (cut + j)) _ h2).mono ?_
  rintro e w' ⟨rfl, rfl⟩
  rw [hzk.out]
  clear h1 h2
  go_wp2_with fail
  go_ret
  exact ⟨rfl, hb18⟩

theorem law6_mid (HD : DistinctSaid) (a : Option Addr) (n cap cut : Nat) (Z : Nat → Int) (q : Int) (w : World) (hp : IdsAt w a n Z) (hn : n ≤ 131072) (hcut : cut ≤ n) :
    Calls Try.prog 6 #[.slice a n cap, .int .i64 cut, .int .i64 q] w fun e w' => e = .returned (.bool true) ∧ Below w.heap.size w w' := by
  rcases find_spec (isId Z q) n 0 with ⟨h1, h2⟩ | ⟨k, h1, _, h3, h4, h5⟩
  · have hl : find (isId Z q) 0 cut = -1 := find_none fun i _ hi => h2 i (by omega) (by omega)
    have hr : find (isId (fun i => Z (cut + i)) q) 0 (n - cut) = -1 := find_none fun i _ hi => h2 (cut + i) (by omega) (by omega)
    by_cases hcn : cut = n
    · subst hcn
      exact law6_none_end HD a cut cap Z q w hp hn h1 (fun _ => hl) (fun _ => hr)
    · exact law6_none_lt HD a n cap cut Z q w hp hn (by omega) h1 (fun _ => hl) (fun _ => hr)
  · by_cases hkc : k < cut
    · have hl : find (isId Z q) 0 cut = (k : Int) := find_eq (by omega) (by omega) h4 h5
      have hr : Inj Z n → find (isId (fun i => Z (cut + i)) q) 0 (n - cut) = -1 := fun hI => find_none fun i _ hi => by
        have := hI k (cut + i) (by omega) (by omega)
        have e : Z k = q := by simpa [isId] using h4
        simp only [isId, beq_eq_false_iff_ne, ne_eq]
        rw [← e]
        exact fun g => this g.symm
      by_cases hcn : cut = n
      · subst hcn
        exact law6_left_end HD a cut cap Z q w hp hn k (by omega) hkc h4 h1 (fun _ => hl) hr
      · exact law6_left_lt HD a n cap cut Z q w hp hn (by omega) k (by omega) hkc h4 h1 (fun _ => hl) hr
    · obtain ⟨j, rfl⟩ : ∃ j, k = cut + j := ⟨k - cut, by omega⟩
      have hl : find (isId Z q) 0 cut = -1 := find_none fun i _ hi => h5 i (by omega) (by omega)
      have hr : find (isId (fun i => Z (cut + i)) q) 0 (n - cut) = (j : Int) := find_eq (by omega) (by omega) h4 fun i _ hi => h5 (cut + i) (by omega) (by omega)
      exact law6_right HD a n cap cut Z q w hp hn (by omega) j (by omega) h4 h1 (fun _ => hl) (fun _ => hr)

set_option maxHeartbeats 400000 in
/-- FnRequestAgreesAtAnyCut returns true, whatever came in. -/
theorem law6 (HD : DistinctSaid) (a : Option Addr) (n cap : Nat) (Z : Nat → Int) (cut q : Int) (w : World) (hp : IdsAt w a n Z) :
    Calls Try.prog 6 #[.slice a n cap, .int .i64 cut, .int .i64 q] w fun e w' => e = .returned (.bool true) ∧ Below w.heap.size w w' := by
  by_cases hn : 131072 < n
  · go_enter Try.func6, Try.ntmps6
    go_wp2_with fail
    refine (bytes24 a n cap cut q w).mono ?_
    rintro e w' ⟨⟨b, rfl⟩, rfl⟩
    cases b <;> (go_wp2_with fail; go_ret; exact ⟨rfl, Below.refl _ _⟩)
  by_cases hc : cut < 0 ∨ (n : Int) < cut
  · rcases hc with hc | hc
    all_goals
      go_enter Try.func6, Try.ntmps6
      go_wp2_with fail
      refine (bytes24 a n cap cut q w).mono ?_
      rintro e w' ⟨⟨b, rfl⟩, rfl⟩
      cases b <;> (go_wp2_with fail; go_ret; exact ⟨rfl, Below.refl _ _⟩)
  obtain ⟨c, rfl⟩ := Int.eq_ofNat_of_zero_le (show 0 ≤ cut by omega)
  exact law6_mid HD a n cap c Z q w hp (by omega) (by omega)
end Go.Proofs.Qxb6613659a

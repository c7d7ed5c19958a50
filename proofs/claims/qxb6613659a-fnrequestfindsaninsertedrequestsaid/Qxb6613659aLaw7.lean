import Derived.Test.Qxb6613659aLaw6
import Derived.Test.Qxb6613659aDist
import Derived.Deep.DeepAppendRoom
import Derived.Laws.OwnMore
namespace Go.Proofs.Qxb6613659a
set_option linter.unusedVariables false
open Go.RowKit Go.Deep

set_option maxHeartbeats 400000 in
theorem bytes31 (a : Option Addr) (n cap : Nat) (c x q : Int) (w : World) :
    Calls Try.prog 31 #[.slice a n cap, .int .i64 c, .int .i64 x, .int .i64 q] w fun e w' => SomeBool e ∧ w' = w := by
  by_cases hbig : 1048576 < n
  · go_enter Try.func31, Try.ntmps31
    go_wp2
    go_ret
    exact ⟨SomeBool.mk _, rfl⟩
  · go_enter Try.func31, Try.ntmps31
    go_wp2
    all_goals (go_ret; exact ⟨SomeBool.mk _, rfl⟩)

/-- The requests from lo on, as cells. -/
def ptrs (Q : Nat → Nat) (lo m : Nat) : List Value := (List.range m).map fun i => .pointer (some ⟨Q (lo + i), 0, none⟩)

theorem ptrs_length (Q : Nat → Nat) (lo m : Nat) : (ptrs Q lo m).length = m := by simp [ptrs]
theorem ptrs_one (Q : Nat → Nat) (lo m : Nat) : ∀ u ∈ ptrs Q lo m, u.oneCell' = true := by
  intro u hu
  obtain ⟨i, _, rfl⟩ := List.mem_map.1 hu
  rfl
theorem ptrs_get {Q : Nat → Nat} {lo m j : Nat} {u : Value} (h : (ptrs Q lo m)[j]? = some u) : j < m ∧ u = .pointer (some ⟨Q (lo + j), 0, none⟩) := by
  have hj : j < m := by
    have := (List.getElem?_eq_some_iff.1 h).1
    simpa [ptrs] using this
  refine ⟨hj, ?_⟩
  have : some u = some (.pointer (some ⟨Q (lo + j), 0, none⟩)) := by rw [← h]; simp [ptrs, hj]
  simpa using this
theorem ptrs_at {Q : Nat → Nat} {lo m j : Nat} (hj : j < m) : (ptrs Q lo m)[j]? = some (.pointer (some ⟨Q (lo + j), 0, none⟩)) := by simp [ptrs, hj]

theorem ReqsAt.src {w : World} {b o : Nat} {n : Nat} {Q : Nat → Nat} {Z : Nat → Int} (h : ReqsAt w (some ⟨b, o, none⟩) n Q Z) (lo m : Nat) (hm : lo + m ≤ n) :
    ∀ (j : Nat) (u : Value), (ptrs Q lo m)[j]? = some u → w.cell? ((⟨b, o + lo, none⟩ : Addr).add j) = some u := by
  intro j u hu
  obtain ⟨hj, rfl⟩ := ptrs_get hu
  obtain ⟨b', o', e, h1, _⟩ := h (lo + j) (by omega)
  obtain ⟨rfl, rfl⟩ : b' = b ∧ o' = o := by simpa [eq_comm] using e
  rw [Go.Addr.add_lit, show o' + lo + j = o' + (lo + j) by omega]
  exact h1

/-- The queue with one put in at 'at0'. -/
def ins {α : Type} (f : Nat → α) (at0 : Nat) (v : α) (i : Nat) : α := if i < at0 then f i else if i = at0 then v else f (i - 1)

theorem ReqsAt.ins {w : World} {a : Option Addr} {n S R at0 cap base : Nat} {Q : Nat → Nat} {Z : Nat → Int} {x : Int} (h : ReqsAt w a n Q Z) (hR : w.cell? ⟨R, 0, none⟩ = some (.int .i64 x)) (hat : at0 ≤ n)
    {xs : List Value} (hxs : xs = ptrs Q 0 at0 ++ [.pointer (some ⟨R, 0, none⟩)] ++ ptrs Q at0 (n - at0)) (hown : w.ownsRow base 56 1 (.slice (some ⟨S, 0, none⟩) (n + 1) cap) (n + 1) xs) :
    ReqsAt w (some ⟨S, 0, none⟩) (n + 1) (Qxb6613659a.ins Q at0 R) (Qxb6613659a.ins Z at0 x) := by
  intro i hi
  refine ⟨S, 0, rfl, ?_, ?_⟩
  · rw [Nat.zero_add, hown.cellAt i (by omega), hxs]
    unfold Qxb6613659a.ins
    by_cases h1 : i < at0
    · rw [if_pos h1, List.append_assoc, List.getElem?_append_left (by rw [ptrs_length]; exact h1), ptrs_at h1, Nat.zero_add]
    · rw [if_neg h1]
      by_cases h2 : i = at0
      · subst h2
        rw [if_pos rfl, List.append_assoc, List.getElem?_append_right (by rw [ptrs_length]; omega), ptrs_length, Nat.sub_self]
        rfl
      · rw [if_neg h2, List.getElem?_append_right (by simp [ptrs_length]; omega)]
        simp only [List.length_append, ptrs_length, List.length_singleton]
        rw [ptrs_at (by omega), show at0 + (i - (at0 + 1)) = i - 1 by omega]
  · unfold Qxb6613659a.ins
    by_cases h1 : i < at0
    · rw [if_pos h1, if_pos h1]
      obtain ⟨_, _, _, _, g⟩ := h i (by omega)
      exact g
    · rw [if_neg h1, if_neg h1]
      by_cases h2 : i = at0
      · rw [if_pos h2, if_pos h2]; exact hR
      · rw [if_neg h2, if_neg h2]
        obtain ⟨_, _, _, _, g⟩ := h (i - 1) (by omega)
        exact g

theorem ins_self {α : Type} (f : Nat → α) (k : Nat) (v : α) : ins f k v k = v := by simp [ins]

/-- The new id is found where it was put in. -/
theorem find_new {Z : Nat → Int} {n at0 : Nat} {x : Int} (hat : at0 ≤ n) (hno : find (isId Z x) 0 n = -1) : find (isId (ins Z at0 x) x) 0 (n + 1) = (at0 : Int) := by
  rcases find_spec (isId Z x) n 0 with ⟨_, h2⟩ | ⟨k, h1, _⟩
  · refine find_eq (by omega) (by omega) (by simp [isId, ins]) fun i _ hi => ?_
    have := h2 i (by omega) (by omega)
    simpa [isId, ins, hi] using this
  · rw [h1] at hno; omega

/-- Any other id is found where it was, one place on behind the new one. -/
theorem find_old_none {Z : Nat → Int} {n at0 : Nat} {x q : Int} (hat : at0 ≤ n) (hq : q ≠ x) (hno : find (isId Z q) 0 n = -1) : find (isId (ins Z at0 x) q) 0 (n + 1) = -1 := by
  rcases find_spec (isId Z q) n 0 with ⟨_, h2⟩ | ⟨k, h1, _⟩
  · refine find_none fun i _ hi => ?_
    unfold isId ins
    by_cases h1 : i < at0
    · rw [if_pos h1]; exact h2 i (by omega) (by omega)
    · rw [if_neg h1]
      by_cases h3 : i = at0
      · rw [if_pos h3]; simpa using fun e : x = q => hq e.symm
      · rw [if_neg h3]; exact h2 (i - 1) (by omega) (by omega)
  · rw [h1] at hno; omega

theorem find_old_some {Z : Nat → Int} {n at0 k : Nat} {x q : Int} (hat : at0 ≤ n) (hq : q ≠ x) (hk : find (isId Z q) 0 n = (k : Int)) :
    ∃ k' : Nat, find (isId (ins Z at0 x) q) 0 (n + 1) = (k' : Int) ∧ k < n ∧ Z k = q ∧ ∀ {α : Type} (f : Nat → α) (v : α), ins f at0 v k' = f k := by
  rcases find_spec (isId Z q) n 0 with ⟨h1, _⟩ | ⟨j, h1, _, h3, h4, h5⟩
  · rw [h1] at hk; omega
  · obtain rfl : j = k := by rw [h1] at hk; omega
    have hz : Z j = q := by simpa [isId] using h4
    by_cases hja : j < at0
    · refine ⟨j, find_eq (by omega) (by omega) (by simp [isId, ins, hja, hz]) fun i _ hi => ?_, by omega, hz, fun f v => by simp [ins, hja]⟩
      have := h5 i (by omega) hi
      simpa [isId, ins, show i < at0 by omega] using this
    · refine ⟨j + 1, find_eq (by omega) (by omega) ?_ fun i _ hi => ?_, by omega, hz, fun f v => by simp [ins, show ¬ j + 1 < at0 by omega, show ¬ j + 1 = at0 by omega]⟩
      · simp [isId, ins, show ¬ j + 1 < at0 by omega, show ¬ j + 1 = at0 by omega, hz]
      · unfold isId ins
        by_cases g1 : i < at0
        · rw [if_pos g1]; exact h5 i (by omega) (by omega)
        · rw [if_neg g1]
          by_cases g2 : i = at0
          · rw [if_pos g2]; simpa using fun e : x = q => hq e.symm
          · rw [if_neg g2]; exact h5 (i - 1) (by omega) (by omega)

theorem info56' : ∃ i, Try.prog.info? 56 = some i ∧ i.size = 1 := by
  obtain ⟨i, hi, he⟩ := Option.map_eq_some_iff.1 info56
  simp only [Prod.mk.injEq] at he
  exact ⟨i, hi, he.2.1⟩

/-- make([]*request, 0, n+1). -/
theorem make_spare (n : Nat) (hn : n ≤ 131072) (wx : World) : (Instr.makeSlice 54 (.int .i64 0) (.int .i64 ((n : Int) + 1))).run Try.prog wx = .ok (.slice (some ⟨wx.heap.size, 0, none⟩) 0 (n + 1)) (wx.alloc (.cells (madeCells #[.pointer none] (n + 1)) 56)) := by
  obtain ⟨i, hi, he⟩ := Option.map_eq_some_iff.1 info56
  simp only [Prod.mk.injEq] at he
  obtain ⟨hz, hs, hb⟩ := he
  have := run_make (P := Try.prog) wx 54 56 i _ Try.underlying54 hi hz .i64 .i64 0 ((n : Int) + 1) (by omega) (by omega) (by rw [hb]; omega) (by omega)
  rw [hs, show ((n : Int) + 1).toNat = n + 1 by omega, Nat.mul_one] at this
  exact this

set_option maxHeartbeats 1000000 in
theorem law7_none_lt (a : Option Addr) (n cap at0 : Nat) (Z : Nat → Int) (x q : Int) (w : World) (hp : IdsAt w a n Z) (hn : n ≤ 131072) (hat : at0 < n) (hqx : (q == x) = false)
    (Kx : Hid (find (isId Z x) 0 n = -1)) (Kb : Hid (find (isId Z q) 0 n = -1)) (Ka : Hid (find (isId (ins Z at0 x) q) 0 (n + 1) = -1)) :
    Calls Try.prog 7 #[.slice a n cap, .int .i64 at0, .int .i64 x, .int .i64 q] w fun e w' => e = .returned (.bool true) ∧ Below w.heap.size w w' := by
  go_enter Try.func7, Try.ntmps7
  go_wp2_with fail
  refine (bytes31 a n cap at0 x q w).mono ?_
  rintro e w' ⟨⟨b, rfl⟩, rfl⟩
  cases b
  · go_wp2_with fail
    go_ret
    exact ⟨rfl, Below.refl _ _⟩
  go_wp2_with fail
  refine (distinct_any a n cap Z _ hp hn).mono ?_
  rintro e w1 ⟨⟨b, rfl, -⟩, hb1⟩
  cases b
  · go_wp2_with fail
    go_ret
    exact ⟨rfl, hb1⟩
  have hp1 := hp.below hb1
  clear hp
  go_wp2_with fail
  refine (indexOf_any a n cap Z x _ hp1 hn).mono ?_
  rintro e w' ⟨rfl, rfl⟩
  rw [Kx.out]
  go_wp2_with fail
  refine (buildReq_any a n cap Z _ hp1 hn).mono ?_
  rintro e w2 ⟨rfl, hb2, hr2⟩
  have hp2 := hp1.below hb2
  have hb12 := hb1.trans (hb2.mono hb1.size)
  clear hp1
  generalize hQ : (fun j => w'.heap.size + 1 + j) = Q at hr2
  clear hQ
  generalize hB : w'.heap.size = B at hr2 ⊢
  clear hB hb1 hb2
  go_wp2_with fail
  refine (newRequest_any x _).mono ?_
  rintro e w3 ⟨rfl, rfl⟩
  have hbR : Below w2.heap.size w2 (w2.alloc (.cells (reqCells x) 85)) := (Below.refl _ _).alloc (Nat.le_refl _) _
  have hR3 : (w2.alloc (.cells (reqCells x) 85)).cell? ⟨w2.heap.size, 0, none⟩ = some (.int .i64 x) := by simp [go_sem, reqCells]
  have hr3 := hr2.below hbR
  have hp3 := hp2.below hbR
  have hb13 := hb12.trans (hbR.mono hb12.size)
  clear hr2 hp2 hb12 hbR
  generalize hRR : w2.heap.size = R at hR3 ⊢
  generalize hw3 : w2.alloc (.cells (reqCells x) 85) = w3 at *
  clear hRR hw3
  obtain ⟨ti, hti, hts⟩ := info56'
  have hmk := make_spare n hn
  have hown0 : (w3.alloc (.cells (madeCells #[.pointer none] (n + 1)) 56)).ownsRow w3.heap.size 56 1 (.slice (some ⟨w3.heap.size, 0, none⟩) 0 (n + 1)) 0 [] := World.ownsRow_made w3 _ (n + 1) (Nat.le_refl _) (by unfold maxLen; omega) (by rw [size_madeCells]; omega)
  have hbw0 : Below w3.heap.size w3 (w3.alloc (.cells (madeCells #[.pointer none] (n + 1)) 56)) := (Below.refl _ _).alloc (Nat.le_refl _) _
  have HT : Hid (Try.prog.info? 56 = some ti) := hti
  clear hti
  have hr0 := hr3.below hbw0
  go_upto_region 13 with (at_builtin; refine wpList_append_own_spare _ rfl (.tmp 49) (.tmp 52) 54 rfl w3.heap.size 56 ti 1 Try.underlying54 HT.out hts w3.heap.size 0 (n + 1) [] rfl hown0 ⟨B, 0, none⟩ at0 n (ptrs Q 0 at0) rfl (by rw [ptrs_length]; omega) (hr0.src 0 at0 (by omega)) (ptrs_one _ _ _) (by omega) ?_; intro w4 hown1 hgrow1)
  rw [Nat.zero_add, List.nil_append] at hown1
  have hb4 : Below w3.heap.size w3 w4 := hbw0.grown hgrow1 (by simp) (fun k hk => by simp at hk; omega)
  have hown1' := hown1.alloc (.cells #[.pointer (some ⟨R, 0, none⟩)] 56)
  have hb4' : Below w3.heap.size w3 (w4.alloc (.cells #[.pointer (some ⟨R, 0, none⟩)] 56)) := hb4.alloc hb4.size _
  have hone : ∀ (j : Nat) (u : Value), [Value.pointer (some ⟨R, 0, none⟩)][j]? = some u → (w4.alloc (.cells #[.pointer (some ⟨R, 0, none⟩)] 56)).cell? ((⟨w4.heap.size, 0, none⟩ : Addr).add j) = some u := cell_one_new _ _ _
  clear hmk hown0 hbw0 hr0 hgrow1 hown1
  go_upto_region 14 with (at_builtin; refine wpList_append_own_spare _ rfl (.tmp 54) (.tmp 56) 54 rfl w3.heap.size 56 ti 1 Try.underlying54 HT.out hts w3.heap.size at0 (n + 1) (ptrs Q 0 at0) rfl hown1' ⟨w4.heap.size, 0, none⟩ 1 1 [.pointer (some ⟨R, 0, none⟩)] rfl rfl hone (by intro u hu; simp at hu; subst hu; rfl) (by omega) ?_; intro w5 hown2 hgrow2)
  have hb5 : Below w3.heap.size w3 w5 := hb4'.grown hgrow2 (Nat.le_trans hb4.size (by simp)) (fun k hk => by simp at hk; omega)
  have hr5 := hr3.below hb5
  clear hone hgrow2 hown1' hb4 hb4'
  go_upto_region 15 with (at_builtin; refine wpList_append_own_spare _ rfl (.tmp 58) (.tmp 61) 54 rfl w3.heap.size 56 ti 1 Try.underlying54 HT.out hts w3.heap.size (at0 + 1) (n + 1) (ptrs Q 0 at0 ++ [.pointer (some ⟨R, 0, none⟩)]) rfl hown2 ⟨B, at0, none⟩ (n - at0) (n - at0) (ptrs Q at0 (n - at0)) rfl (by rw [ptrs_length]; omega) (by have := hr5.src at0 (n - at0) (by omega); rw [Nat.zero_add] at this; exact this) (ptrs_one _ _ _) (by omega) ?_; intro w6 hown3 hgrow3)
  have hb6 : Below w3.heap.size w3 w6 := hb5.grown hgrow3 hb5.size (fun k hk => by simp at hk; omega)
  have hr6 := hr3.below hb6
  have hp6 := hp3.below hb6
  have hR6 : w6.cell? ⟨R, 0, none⟩ = some (.int .i64 x) := by rw [hb6.cell (cell_lt hR3)]; exact hR3
  have hr6' := hr6.ins hR6 (Nat.le_of_lt hat) rfl (by have := hown3; rw [show at0 + 1 + (n - at0) = n + 1 by omega] at this; exact this)
  have hb16 := hb13.trans (hb6.mono hb13.size)
  generalize hSS : w3.heap.size = S at hr6' ⊢
  clear hSS hr3 hp3 hR3 hr5 hown2 hown3 hgrow3 hb5 hb6 hb13 HT hts
  rw [show at0 + 1 + (n - at0) = n + 1 by omega]
  go_wp2_with fail
  refine (newDialogue_any _ _ n n).mono ?_
  rintro e w7 ⟨rfl, hb7, hd7⟩
  have hr7 := hr6.below hb7
  have hr7' := hr6'.below hb7
  have hp7 := hp6.below hb7
  have hR7 : w7.cell? ⟨R, 0, none⟩ = some (.int .i64 x) := by rw [hb7.cell (cell_lt hR6)]; exact hR6
  have hb17 := hb16.trans (hb7.mono hb16.size)
  clear hr6 hr6' hp6 hR6 hb7 hb16
  go_wp2_with fail
  refine (zzRequest_any _ _ n n Q Z q _ hr7 (by omega) hd7).mono ?_
  rintro e w8 ⟨rfl, hb8⟩
  rw [Kb.out, reqAt_neg]
  have hr8 := hr7.below hb8
  have hr8' := hr7'.below hb8
  have hp8 := hp7.below hb8
  have hR8 : w8.cell? ⟨R, 0, none⟩ = some (.int .i64 x) := by rw [hb8.cell (cell_lt hR7)]; exact hR7
  have hb18 := hb17.trans (hb8.mono hb17.size)
  clear hr7 hr7' hp7 hR7 hb8 hb17 hd7
  go_wp2_with fail
  refine (newDialogue_any _ _ (n + 1) (n + 1)).mono ?_
  rintro e w9 ⟨rfl, hb9, hd9⟩
  have hr9 := hr8.below hb9
  have hr9' := hr8'.below hb9
  have hp9 := hp8.below hb9
  have hR9 : w9.cell? ⟨R, 0, none⟩ = some (.int .i64 x) := by rw [hb9.cell (cell_lt hR8)]; exact hR8
  have hb19 := hb18.trans (hb9.mono hb18.size)
  clear hr8 hr8' hp8 hR8 hb9 hb18
  go_wp2_with fail
  refine (zzRequest_any _ _ (n + 1) (n + 1) (ins Q at0 R) (ins Z at0 x) q _ hr9' (by omega) hd9).mono ?_
  rintro e w10 ⟨rfl, hb10⟩
  rw [Ka.out, reqAt_neg]
  have hr10 := hr9.below hb10
  have hp10 := hp9.below hb10
  have hR10 : w10.cell? ⟨R, 0, none⟩ = some (.int .i64 x) := by rw [hb10.cell (cell_lt hR9)]; exact hR9
  have hb110 := hb19.trans (hb10.mono hb19.size)
  clear hr9 hr9' hp9 hR9 hb10 hb19 hd9
  clear hr10 hR10
  go_wp2_with fail
  refine (indexOf_any a n cap Z q _ hp10 hn).mono ?_
  rintro e w' ⟨rfl, rfl⟩
  rw [Kb.out]
  clear hp10
  go_wp2_with fail
  go_ret
  exact ⟨rfl, hb110⟩

set_option maxHeartbeats 1000000 in
theorem law7_none_end (a : Option Addr) (n cap : Nat) (Z : Nat → Int) (x q : Int) (w : World) (hp : IdsAt w a n Z) (hn : n ≤ 131072) (hqx : (q == x) = false)
    (Kx : Hid (find (isId Z x) 0 n = -1)) (Kb : Hid (find (isId Z q) 0 n = -1)) (Ka : Hid (find (isId (ins Z n x) q) 0 (n + 1) = -1)) :
    Calls Try.prog 7 #[.slice a n cap, .int .i64 n, .int .i64 x, .int .i64 q] w fun e w' => e = .returned (.bool true) ∧ Below w.heap.size w w' := by
  go_enter Try.func7, Try.ntmps7
  go_wp2_with fail
  refine (bytes31 a n cap n x q w).mono ?_
  rintro e w' ⟨⟨b, rfl⟩, rfl⟩
  cases b
  · go_wp2_with fail
    go_ret
    exact ⟨rfl, Below.refl _ _⟩
  go_wp2_with fail
  refine (distinct_any a n cap Z _ hp hn).mono ?_
  rintro e w1 ⟨⟨b, rfl, -⟩, hb1⟩
  cases b
  · go_wp2_with fail
    go_ret
    exact ⟨rfl, hb1⟩
  have hp1 := hp.below hb1
  clear hp
  go_wp2_with fail
  refine (indexOf_any a n cap Z x _ hp1 hn).mono ?_
  rintro e w' ⟨rfl, rfl⟩
  rw [Kx.out]
  go_wp2_with fail
  refine (buildReq_any a n cap Z _ hp1 hn).mono ?_
  rintro e w2 ⟨rfl, hb2, hr2⟩
  have hp2 := hp1.below hb2
  have hb12 := hb1.trans (hb2.mono hb1.size)
  clear hp1
  generalize hQ : (fun j => w'.heap.size + 1 + j) = Q at hr2
  clear hQ
  generalize hB : w'.heap.size = B at hr2 ⊢
  clear hB hb1 hb2
  go_wp2_with fail
  refine (newRequest_any x _).mono ?_
  rintro e w3 ⟨rfl, rfl⟩
  have hbR : Below w2.heap.size w2 (w2.alloc (.cells (reqCells x) 85)) := (Below.refl _ _).alloc (Nat.le_refl _) _
  have hR3 : (w2.alloc (.cells (reqCells x) 85)).cell? ⟨w2.heap.size, 0, none⟩ = some (.int .i64 x) := by simp [go_sem, reqCells]
  have hr3 := hr2.below hbR
  have hp3 := hp2.below hbR
  have hb13 := hb12.trans (hbR.mono hb12.size)
  clear hr2 hp2 hb12 hbR
  generalize hRR : w2.heap.size = R at hR3 ⊢
  generalize hw3 : w2.alloc (.cells (reqCells x) 85) = w3 at *
  clear hRR hw3
  obtain ⟨ti, hti, hts⟩ := info56'
  have hmk := make_spare n hn
  have hown0 : (w3.alloc (.cells (madeCells #[.pointer none] (n + 1)) 56)).ownsRow w3.heap.size 56 1 (.slice (some ⟨w3.heap.size, 0, none⟩) 0 (n + 1)) 0 [] := World.ownsRow_made w3 _ (n + 1) (Nat.le_refl _) (by unfold maxLen; omega) (by rw [size_madeCells]; omega)
  have hbw0 : Below w3.heap.size w3 (w3.alloc (.cells (madeCells #[.pointer none] (n + 1)) 56)) := (Below.refl _ _).alloc (Nat.le_refl _) _
  have HT : Hid (Try.prog.info? 56 = some ti) := hti
  clear hti
  have hr0 := hr3.below hbw0
  go_upto_region 13 with (at_builtin; refine wpList_append_own_spare _ rfl (.tmp 49) (.tmp 52) 54 rfl w3.heap.size 56 ti 1 Try.underlying54 HT.out hts w3.heap.size 0 (n + 1) [] rfl hown0 ⟨B, 0, none⟩ n n (ptrs Q 0 n) rfl (by rw [ptrs_length]; omega) (hr0.src 0 n (by omega)) (ptrs_one _ _ _) (by omega) ?_; intro w4 hown1 hgrow1)
  rw [Nat.zero_add, List.nil_append] at hown1
  have hb4 : Below w3.heap.size w3 w4 := hbw0.grown hgrow1 (by simp) (fun k hk => by simp at hk; omega)
  have hown1' := hown1.alloc (.cells #[.pointer (some ⟨R, 0, none⟩)] 56)
  have hb4' : Below w3.heap.size w3 (w4.alloc (.cells #[.pointer (some ⟨R, 0, none⟩)] 56)) := hb4.alloc hb4.size _
  have hone : ∀ (j : Nat) (u : Value), [Value.pointer (some ⟨R, 0, none⟩)][j]? = some u → (w4.alloc (.cells #[.pointer (some ⟨R, 0, none⟩)] 56)).cell? ((⟨w4.heap.size, 0, none⟩ : Addr).add j) = some u := cell_one_new _ _ _
  clear hmk hown0 hbw0 hr0 hgrow1 hown1
  go_upto_region 14 with (at_builtin; refine wpList_append_own_spare _ rfl (.tmp 54) (.tmp 56) 54 rfl w3.heap.size 56 ti 1 Try.underlying54 HT.out hts w3.heap.size n (n + 1) (ptrs Q 0 n) rfl hown1' ⟨w4.heap.size, 0, none⟩ 1 1 [.pointer (some ⟨R, 0, none⟩)] rfl rfl hone (by intro u hu; simp at hu; subst hu; rfl) (by omega) ?_; intro w5 hown2 hgrow2)
  have hb5 : Below w3.heap.size w3 w5 := hb4'.grown hgrow2 (Nat.le_trans hb4.size (by simp)) (fun k hk => by simp at hk; omega)
  have hr5 := hr3.below hb5
  clear hone hgrow2 hown1' hb4 hb4'
  go_upto_region 15 with (at_builtin; refine wpList_append_own_spare _ rfl (.tmp 58) (.tmp 61) 54 rfl w3.heap.size 56 ti 1 Try.underlying54 HT.out hts w3.heap.size (n + 1) (n + 1) (ptrs Q 0 n ++ [.pointer (some ⟨R, 0, none⟩)]) rfl hown2 ⟨B, 0, none⟩ 0 0 (ptrs Q n (n - n)) rfl (by rw [ptrs_length]; omega) (by rw [Nat.sub_self]; exact fun j u h => by simp [ptrs] at h) (ptrs_one _ _ _) (by omega) ?_; intro w6 hown3 hgrow3)
  have hb6 : Below w3.heap.size w3 w6 := hb5.grown hgrow3 hb5.size (fun k hk => by simp at hk; omega)
  have hr6 := hr3.below hb6
  have hp6 := hp3.below hb6
  have hR6 : w6.cell? ⟨R, 0, none⟩ = some (.int .i64 x) := by rw [hb6.cell (cell_lt hR3)]; exact hR3
  have hr6' := hr6.ins hR6 (Nat.le_refl _) rfl (by have := hown3; rw [Nat.add_zero] at this; exact this)
  have hb16 := hb13.trans (hb6.mono hb13.size)
  generalize hSS : w3.heap.size = S at hr6' ⊢
  clear hSS hr3 hp3 hR3 hr5 hown2 hown3 hgrow3 hb5 hb6 hb13 HT hts
  go_wp2_with fail
  refine (newDialogue_any _ _ n n).mono ?_
  rintro e w7 ⟨rfl, hb7, hd7⟩
  have hr7 := hr6.below hb7
  have hr7' := hr6'.below hb7
  have hp7 := hp6.below hb7
  have hR7 : w7.cell? ⟨R, 0, none⟩ = some (.int .i64 x) := by rw [hb7.cell (cell_lt hR6)]; exact hR6
  have hb17 := hb16.trans (hb7.mono hb16.size)
  clear hr6 hr6' hp6 hR6 hb7 hb16
  go_wp2_with fail
  refine (zzRequest_any _ _ n n Q Z q _ hr7 (by omega) hd7).mono ?_
  rintro e w8 ⟨rfl, hb8⟩
  rw [Kb.out, reqAt_neg]
  have hr8 := hr7.below hb8
  have hr8' := hr7'.below hb8
  have hp8 := hp7.below hb8
  have hR8 : w8.cell? ⟨R, 0, none⟩ = some (.int .i64 x) := by rw [hb8.cell (cell_lt hR7)]; exact hR7
  have hb18 := hb17.trans (hb8.mono hb17.size)
  clear hr7 hr7' hp7 hR7 hb8 hb17 hd7
  go_wp2_with fail
  refine (newDialogue_any _ _ (n + 1) (n + 1)).mono ?_
  rintro e w9 ⟨rfl, hb9, hd9⟩
  have hr9 := hr8.below hb9
  have hr9' := hr8'.below hb9
  have hp9 := hp8.below hb9
  have hR9 : w9.cell? ⟨R, 0, none⟩ = some (.int .i64 x) := by rw [hb9.cell (cell_lt hR8)]; exact hR8
  have hb19 := hb18.trans (hb9.mono hb18.size)
  clear hr8 hr8' hp8 hR8 hb9 hb18
  go_wp2_with fail
  refine (zzRequest_any _ _ (n + 1) (n + 1) (ins Q n R) (ins Z n x) q _ hr9' (by omega) hd9).mono ?_
  rintro e w10 ⟨rfl, hb10⟩
  rw [Ka.out, reqAt_neg]
  have hr10 := hr9.below hb10
  have hp10 := hp9.below hb10
  have hR10 : w10.cell? ⟨R, 0, none⟩ = some (.int .i64 x) := by rw [hb10.cell (cell_lt hR9)]; exact hR9
  have hb110 := hb19.trans (hb10.mono hb19.size)
  clear hr9 hr9' hp9 hR9 hb10 hb19 hd9
  clear hr10 hR10
  go_wp2_with fail
  refine (indexOf_any a n cap Z q _ hp10 hn).mono ?_
  rintro e w' ⟨rfl, rfl⟩
  rw [Kb.out]
  clear hp10
  go_wp2_with fail
  go_ret
  exact ⟨rfl, hb110⟩

set_option maxHeartbeats 1000000 in
theorem law7_new_lt (a : Option Addr) (n cap at0 : Nat) (Z : Nat → Int) (x : Int) (w : World) (hp : IdsAt w a n Z) (hn : n ≤ 131072) (hat : at0 < n)
    (Kx : Hid (find (isId Z x) 0 n = -1)) (Kb : Hid (find (isId Z x) 0 n = -1)) (Ka : Hid (find (isId (ins Z at0 x) x) 0 (n + 1) = (at0 : Int))) :
    Calls Try.prog 7 #[.slice a n cap, .int .i64 at0, .int .i64 x, .int .i64 x] w fun e w' => e = .returned (.bool true) ∧ Below w.heap.size w w' := by
  go_enter Try.func7, Try.ntmps7
  go_wp2_with fail
  refine (bytes31 a n cap at0 x x w).mono ?_
  rintro e w' ⟨⟨b, rfl⟩, rfl⟩
  cases b
  · go_wp2_with fail
    go_ret
    exact ⟨rfl, Below.refl _ _⟩
  go_wp2_with fail
  refine (distinct_any a n cap Z _ hp hn).mono ?_
  rintro e w1 ⟨⟨b, rfl, -⟩, hb1⟩
  cases b
  · go_wp2_with fail
    go_ret
    exact ⟨rfl, hb1⟩
  have hp1 := hp.below hb1
  clear hp
  go_wp2_with fail
  refine (indexOf_any a n cap Z x _ hp1 hn).mono ?_
  rintro e w' ⟨rfl, rfl⟩
  rw [Kx.out]
  go_wp2_with fail
  refine (buildReq_any a n cap Z _ hp1 hn).mono ?_
  rintro e w2 ⟨rfl, hb2, hr2⟩
  have hp2 := hp1.below hb2
  have hb12 := hb1.trans (hb2.mono hb1.size)
  clear hp1
  generalize hQ : (fun j => w'.heap.size + 1 + j) = Q at hr2
  clear hQ
  generalize hB : w'.heap.size = B at hr2 ⊢
  clear hB hb1 hb2
  go_wp2_with fail
  refine (newRequest_any x _).mono ?_
  rintro e w3 ⟨rfl, rfl⟩
  have hbR : Below w2.heap.size w2 (w2.alloc (.cells (reqCells x) 85)) := (Below.refl _ _).alloc (Nat.le_refl _) _
  have hR3 : (w2.alloc (.cells (reqCells x) 85)).cell? ⟨w2.heap.size, 0, none⟩ = some (.int .i64 x) := by simp [go_sem, reqCells]
  have hr3 := hr2.below hbR
  have hp3 := hp2.below hbR
  have hb13 := hb12.trans (hbR.mono hb12.size)
  clear hr2 hp2 hb12 hbR
  generalize hRR : w2.heap.size = R at hR3 ⊢
  generalize hw3 : w2.alloc (.cells (reqCells x) 85) = w3 at *
  clear hRR hw3
  obtain ⟨ti, hti, hts⟩ := info56'
  have hmk := make_spare n hn
  have hown0 : (w3.alloc (.cells (madeCells #[.pointer none] (n + 1)) 56)).ownsRow w3.heap.size 56 1 (.slice (some ⟨w3.heap.size, 0, none⟩) 0 (n + 1)) 0 [] := World.ownsRow_made w3 _ (n + 1) (Nat.le_refl _) (by unfold maxLen; omega) (by rw [size_madeCells]; omega)
  have hbw0 : Below w3.heap.size w3 (w3.alloc (.cells (madeCells #[.pointer none] (n + 1)) 56)) := (Below.refl _ _).alloc (Nat.le_refl _) _
  have HT : Hid (Try.prog.info? 56 = some ti) := hti
  clear hti
  have hr0 := hr3.below hbw0
  go_upto_region 13 with (at_builtin; refine wpList_append_own_spare _ rfl (.tmp 49) (.tmp 52) 54 rfl w3.heap.size 56 ti 1 Try.underlying54 HT.out hts w3.heap.size 0 (n + 1) [] rfl hown0 ⟨B, 0, none⟩ at0 n (ptrs Q 0 at0) rfl (by rw [ptrs_length]; omega) (hr0.src 0 at0 (by omega)) (ptrs_one _ _ _) (by omega) ?_; intro w4 hown1 hgrow1)
  rw [Nat.zero_add, List.nil_append] at hown1
  have hb4 : Below w3.heap.size w3 w4 := hbw0.grown hgrow1 (by simp) (fun k hk => by simp at hk; omega)
  have hown1' := hown1.alloc (.cells #[.pointer (some ⟨R, 0, none⟩)] 56)
  have hb4' : Below w3.heap.size w3 (w4.alloc (.cells #[.pointer (some ⟨R, 0, none⟩)] 56)) := hb4.alloc hb4.size _
  have hone : ∀ (j : Nat) (u : Value), [Value.pointer (some ⟨R, 0, none⟩)][j]? = some u → (w4.alloc (.cells #[.pointer (some ⟨R, 0, none⟩)] 56)).cell? ((⟨w4.heap.size, 0, none⟩ : Addr).add j) = some u := cell_one_new _ _ _
  clear hmk hown0 hbw0 hr0 hgrow1 hown1
  go_upto_region 14 with (at_builtin; refine wpList_append_own_spare _ rfl (.tmp 54) (.tmp 56) 54 rfl w3.heap.size 56 ti 1 Try.underlying54 HT.out hts w3.heap.size at0 (n + 1) (ptrs Q 0 at0) rfl hown1' ⟨w4.heap.size, 0, none⟩ 1 1 [.pointer (some ⟨R, 0, none⟩)] rfl rfl hone (by intro u hu; simp at hu; subst hu; rfl) (by omega) ?_; intro w5 hown2 hgrow2)
  have hb5 : Below w3.heap.size w3 w5 := hb4'.grown hgrow2 (Nat.le_trans hb4.size (by simp)) (fun k hk => by simp at hk; omega)
  have hr5 := hr3.below hb5
  clear hone hgrow2 hown1' hb4 hb4'
  go_upto_region 15 with (at_builtin; refine wpList_append_own_spare _ rfl (.tmp 58) (.tmp 61) 54 rfl w3.heap.size 56 ti 1 Try.underlying54 HT.out hts w3.heap.size (at0 + 1) (n + 1) (ptrs Q 0 at0 ++ [.pointer (some ⟨R, 0, none⟩)]) rfl hown2 ⟨B, at0, none⟩ (n - at0) (n - at0) (ptrs Q at0 (n - at0)) rfl (by rw [ptrs_length]; omega) (by have := hr5.src at0 (n - at0) (by omega); rw [Nat.zero_add] at this; exact this) (ptrs_one _ _ _) (by omega) ?_; intro w6 hown3 hgrow3)
  have hb6 : Below w3.heap.size w3 w6 := hb5.grown hgrow3 hb5.size (fun k hk => by simp at hk; omega)
  have hr6 := hr3.below hb6
  have hp6 := hp3.below hb6
  have hR6 : w6.cell? ⟨R, 0, none⟩ = some (.int .i64 x) := by rw [hb6.cell (cell_lt hR3)]; exact hR3
  have hr6' := hr6.ins hR6 (Nat.le_of_lt hat) rfl (by have := hown3; rw [show at0 + 1 + (n - at0) = n + 1 by omega] at this; exact this)
  have hb16 := hb13.trans (hb6.mono hb13.size)
  generalize hSS : w3.heap.size = S at hr6' ⊢
  clear hSS hr3 hp3 hR3 hr5 hown2 hown3 hgrow3 hb5 hb6 hb13 HT hts
  rw [show at0 + 1 + (n - at0) = n + 1 by omega]
  go_wp2_with fail
  refine (newDialogue_any _ _ n n).mono ?_
  rintro e w7 ⟨rfl, hb7, hd7⟩
  have hr7 := hr6.below hb7
  have hr7' := hr6'.below hb7
  have hp7 := hp6.below hb7
  have hR7 : w7.cell? ⟨R, 0, none⟩ = some (.int .i64 x) := by rw [hb7.cell (cell_lt hR6)]; exact hR6
  have hb17 := hb16.trans (hb7.mono hb16.size)
  clear hr6 hr6' hp6 hR6 hb7 hb16
  go_wp2_with fail
  refine (zzRequest_any _ _ n n Q Z x _ hr7 (by omega) hd7).mono ?_
  rintro e w8 ⟨rfl, hb8⟩
  rw [Kb.out, reqAt_neg]
  have hr8 := hr7.below hb8
  have hr8' := hr7'.below hb8
  have hp8 := hp7.below hb8
  have hR8 : w8.cell? ⟨R, 0, none⟩ = some (.int .i64 x) := by rw [hb8.cell (cell_lt hR7)]; exact hR7
  have hb18 := hb17.trans (hb8.mono hb17.size)
  clear hr7 hr7' hp7 hR7 hb8 hb17 hd7
  go_wp2_with fail
  refine (newDialogue_any _ _ (n + 1) (n + 1)).mono ?_
  rintro e w9 ⟨rfl, hb9, hd9⟩
  have hr9 := hr8.below hb9
  have hr9' := hr8'.below hb9
  have hp9 := hp8.below hb9
  have hR9 : w9.cell? ⟨R, 0, none⟩ = some (.int .i64 x) := by rw [hb9.cell (cell_lt hR8)]; exact hR8
  have hb19 := hb18.trans (hb9.mono hb18.size)
  clear hr8 hr8' hp8 hR8 hb9 hb18
  go_wp2_with fail
  refine (zzRequest_any _ _ (n + 1) (n + 1) (ins Q at0 R) (ins Z at0 x) x _ hr9' (by omega) hd9).mono ?_
  rintro e w10 ⟨rfl, hb10⟩
  rw [Ka.out, reqAt_nat, ins_self]
  have hr10 := hr9.below hb10
  have hp10 := hp9.below hb10
  have hR10 : w10.cell? ⟨R, 0, none⟩ = some (.int .i64 x) := by rw [hb10.cell (cell_lt hR9)]; exact hR9
  have hb110 := hb19.trans (hb10.mono hb19.size)
  clear hr9 hr9' hp9 hR9 hb10 hb19 hd9
  have hs := req_same
  clear hr10 hp10
  go_wp2_with fail
  refine (requestID_any R x _ hR10).mono ?_
  rintro e w' ⟨rfl, rfl⟩
  clear hR10
  go_wp2_with fail
  go_ret
  exact ⟨rfl, hb110⟩

set_option maxHeartbeats 1000000 in
theorem law7_new_end (a : Option Addr) (n cap : Nat) (Z : Nat → Int) (x : Int) (w : World) (hp : IdsAt w a n Z) (hn : n ≤ 131072)
    (Kx : Hid (find (isId Z x) 0 n = -1)) (Kb : Hid (find (isId Z x) 0 n = -1)) (Ka : Hid (find (isId (ins Z n x) x) 0 (n + 1) = (n : Int))) :
    Calls Try.prog 7 #[.slice a n cap, .int .i64 n, .int .i64 x, .int .i64 x] w fun e w' => e = .returned (.bool true) ∧ Below w.heap.size w w' := by
  go_enter Try.func7, Try.ntmps7
  go_wp2_with fail
  refine (bytes31 a n cap n x x w).mono ?_
  rintro e w' ⟨⟨b, rfl⟩, rfl⟩
  cases b
  · go_wp2_with fail
    go_ret
    exact ⟨rfl, Below.refl _ _⟩
  go_wp2_with fail
  refine (distinct_any a n cap Z _ hp hn).mono ?_
  rintro e w1 ⟨⟨b, rfl, -⟩, hb1⟩
  cases b
  · go_wp2_with fail
    go_ret
    exact ⟨rfl, hb1⟩
  have hp1 := hp.below hb1
  clear hp
  go_wp2_with fail
  refine (indexOf_any a n cap Z x _ hp1 hn).mono ?_
  rintro e w' ⟨rfl, rfl⟩
  rw [Kx.out]
  go_wp2_with fail
  refine (buildReq_any a n cap Z _ hp1 hn).mono ?_
  rintro e w2 ⟨rfl, hb2, hr2⟩
  have hp2 := hp1.below hb2
  have hb12 := hb1.trans (hb2.mono hb1.size)
  clear hp1
  generalize hQ : (fun j => w'.heap.size + 1 + j) = Q at hr2
  clear hQ
  generalize hB : w'.heap.size = B at hr2 ⊢
  clear hB hb1 hb2
  go_wp2_with fail
  refine (newRequest_any x _).mono ?_
  rintro e w3 ⟨rfl, rfl⟩
  have hbR : Below w2.heap.size w2 (w2.alloc (.cells (reqCells x) 85)) := (Below.refl _ _).alloc (Nat.le_refl _) _
  have hR3 : (w2.alloc (.cells (reqCells x) 85)).cell? ⟨w2.heap.size, 0, none⟩ = some (.int .i64 x) := by simp [go_sem, reqCells]
  have hr3 := hr2.below hbR
  have hp3 := hp2.below hbR
  have hb13 := hb12.trans (hbR.mono hb12.size)
  clear hr2 hp2 hb12 hbR
  generalize hRR : w2.heap.size = R at hR3 ⊢
  generalize hw3 : w2.alloc (.cells (reqCells x) 85) = w3 at *
  clear hRR hw3
  obtain ⟨ti, hti, hts⟩ := info56'
  have hmk := make_spare n hn
  have hown0 : (w3.alloc (.cells (madeCells #[.pointer none] (n + 1)) 56)).ownsRow w3.heap.size 56 1 (.slice (some ⟨w3.heap.size, 0, none⟩) 0 (n + 1)) 0 [] := World.ownsRow_made w3 _ (n + 1) (Nat.le_refl _) (by unfold maxLen; omega) (by rw [size_madeCells]; omega)
  have hbw0 : Below w3.heap.size w3 (w3.alloc (.cells (madeCells #[.pointer none] (n + 1)) 56)) := (Below.refl _ _).alloc (Nat.le_refl _) _
  have HT : Hid (Try.prog.info? 56 = some ti) := hti
  clear hti
  have hr0 := hr3.below hbw0
  go_upto_region 13 with (at_builtin; refine wpList_append_own_spare _ rfl (.tmp 49) (.tmp 52) 54 rfl w3.heap.size 56 ti 1 Try.underlying54 HT.out hts w3.heap.size 0 (n + 1) [] rfl hown0 ⟨B, 0, none⟩ n n (ptrs Q 0 n) rfl (by rw [ptrs_length]; omega) (hr0.src 0 n (by omega)) (ptrs_one _ _ _) (by omega) ?_; intro w4 hown1 hgrow1)
  rw [Nat.zero_add, List.nil_append] at hown1
  have hb4 : Below w3.heap.size w3 w4 := hbw0.grown hgrow1 (by simp) (fun k hk => by simp at hk; omega)
  have hown1' := hown1.alloc (.cells #[.pointer (some ⟨R, 0, none⟩)] 56)
  have hb4' : Below w3.heap.size w3 (w4.alloc (.cells #[.pointer (some ⟨R, 0, none⟩)] 56)) := hb4.alloc hb4.size _
  have hone : ∀ (j : Nat) (u : Value), [Value.pointer (some ⟨R, 0, none⟩)][j]? = some u → (w4.alloc (.cells #[.pointer (some ⟨R, 0, none⟩)] 56)).cell? ((⟨w4.heap.size, 0, none⟩ : Addr).add j) = some u := cell_one_new _ _ _
  clear hmk hown0 hbw0 hr0 hgrow1 hown1
  go_upto_region 14 with (at_builtin; refine wpList_append_own_spare _ rfl (.tmp 54) (.tmp 56) 54 rfl w3.heap.size 56 ti 1 Try.underlying54 HT.out hts w3.heap.size n (n + 1) (ptrs Q 0 n) rfl hown1' ⟨w4.heap.size, 0, none⟩ 1 1 [.pointer (some ⟨R, 0, none⟩)] rfl rfl hone (by intro u hu; simp at hu; subst hu; rfl) (by omega) ?_; intro w5 hown2 hgrow2)
  have hb5 : Below w3.heap.size w3 w5 := hb4'.grown hgrow2 (Nat.le_trans hb4.size (by simp)) (fun k hk => by simp at hk; omega)
  have hr5 := hr3.below hb5
  clear hone hgrow2 hown1' hb4 hb4'
  go_upto_region 15 with (at_builtin; refine wpList_append_own_spare _ rfl (.tmp 58) (.tmp 61) 54 rfl w3.heap.size 56 ti 1 Try.underlying54 HT.out hts w3.heap.size (n + 1) (n + 1) (ptrs Q 0 n ++ [.pointer (some ⟨R, 0, none⟩)]) rfl hown2 ⟨B, 0, none⟩ 0 0 (ptrs Q n (n - n)) rfl (by rw [ptrs_length]; omega) (by rw [Nat.sub_self]; exact fun j u h => by simp [ptrs] at h) (ptrs_one _ _ _) (by omega) ?_; intro w6 hown3 hgrow3)
  have hb6 : Below w3.heap.size w3 w6 := hb5.grown hgrow3 hb5.size (fun k hk => by simp at hk; omega)
  have hr6 := hr3.below hb6
  have hp6 := hp3.below hb6
  have hR6 : w6.cell? ⟨R, 0, none⟩ = some (.int .i64 x) := by rw [hb6.cell (cell_lt hR3)]; exact hR3
  have hr6' := hr6.ins hR6 (Nat.le_refl _) rfl (by have := hown3; rw [Nat.add_zero] at this; exact this)
  have hb16 := hb13.trans (hb6.mono hb13.size)
  generalize hSS : w3.heap.size = S at hr6' ⊢
  clear hSS hr3 hp3 hR3 hr5 hown2 hown3 hgrow3 hb5 hb6 hb13 HT hts
  go_wp2_with fail
  refine (newDialogue_any _ _ n n).mono ?_
  rintro e w7 ⟨rfl, hb7, hd7⟩
  have hr7 := hr6.below hb7
  have hr7' := hr6'.below hb7
  have hp7 := hp6.below hb7
  have hR7 : w7.cell? ⟨R, 0, none⟩ = some (.int .i64 x) := by rw [hb7.cell (cell_lt hR6)]; exact hR6
  have hb17 := hb16.trans (hb7.mono hb16.size)
  clear hr6 hr6' hp6 hR6 hb7 hb16
  go_wp2_with fail
  refine (zzRequest_any _ _ n n Q Z x _ hr7 (by omega) hd7).mono ?_
  rintro e w8 ⟨rfl, hb8⟩
  rw [Kb.out, reqAt_neg]
  have hr8 := hr7.below hb8
  have hr8' := hr7'.below hb8
  have hp8 := hp7.below hb8
  have hR8 : w8.cell? ⟨R, 0, none⟩ = some (.int .i64 x) := by rw [hb8.cell (cell_lt hR7)]; exact hR7
  have hb18 := hb17.trans (hb8.mono hb17.size)
  clear hr7 hr7' hp7 hR7 hb8 hb17 hd7
  go_wp2_with fail
  refine (newDialogue_any _ _ (n + 1) (n + 1)).mono ?_
  rintro e w9 ⟨rfl, hb9, hd9⟩
  have hr9 := hr8.below hb9
  have hr9' := hr8'.below hb9
  have hp9 := hp8.below hb9
  have hR9 : w9.cell? ⟨R, 0, none⟩ = some (.int .i64 x) := by rw [hb9.cell (cell_lt hR8)]; exact hR8
  have hb19 := hb18.trans (hb9.mono hb18.size)
  clear hr8 hr8' hp8 hR8 hb9 hb18
  go_wp2_with fail
  refine (zzRequest_any _ _ (n + 1) (n + 1) (ins Q n R) (ins Z n x) x _ hr9' (by omega) hd9).mono ?_
  rintro e w10 ⟨rfl, hb10⟩
  rw [Ka.out, reqAt_nat, ins_self]
  have hr10 := hr9.below hb10
  have hp10 := hp9.below hb10
  have hR10 : w10.cell? ⟨R, 0, none⟩ = some (.int .i64 x) := by rw [hb10.cell (cell_lt hR9)]; exact hR9
  have hb110 := hb19.trans (hb10.mono hb19.size)
  clear hr9 hr9' hp9 hR9 hb10 hb19 hd9
  have hs := req_same
  clear hr10 hp10
  go_wp2_with fail
  refine (requestID_any R x _ hR10).mono ?_
  rintro e w' ⟨rfl, rfl⟩
  clear hR10
  go_wp2_with fail
  go_ret
  exact ⟨rfl, hb110⟩

set_option maxHeartbeats 1000000 in
theorem law7_some_lt (a : Option Addr) (n cap at0 : Nat) (Z : Nat → Int) (x q : Int) (w : World) (hp : IdsAt w a n Z) (hn : n ≤ 131072) (hat : at0 < n) (hqx : (q == x) = false) (k k' : Nat) (hk : k < n) (hzk : Hid (Z k = q)) (hins : Hid (∀ {α : Type} (f : Nat → α) (v : α), ins f at0 v k' = f k))
    (Kx : Hid (find (isId Z x) 0 n = -1)) (Kb : Hid (find (isId Z q) 0 n = (k : Int))) (Ka : Hid (find (isId (ins Z at0 x) q) 0 (n + 1) = (k' : Int))) :
    Calls Try.prog 7 #[.slice a n cap, .int .i64 at0, .int .i64 x, .int .i64 q] w fun e w' => e = .returned (.bool true) ∧ Below w.heap.size w w' := by
  go_enter Try.func7, Try.ntmps7
  go_wp2_with fail
  refine (bytes31 a n cap at0 x q w).mono ?_
  rintro e w' ⟨⟨b, rfl⟩, rfl⟩
  cases b
  · go_wp2_with fail
    go_ret
    exact ⟨rfl, Below.refl _ _⟩
  go_wp2_with fail
  refine (distinct_any a n cap Z _ hp hn).mono ?_
  rintro e w1 ⟨⟨b, rfl, -⟩, hb1⟩
  cases b
  · go_wp2_with fail
    go_ret
    exact ⟨rfl, hb1⟩
  have hp1 := hp.below hb1
  clear hp
  go_wp2_with fail
  refine (indexOf_any a n cap Z x _ hp1 hn).mono ?_
  rintro e w' ⟨rfl, rfl⟩
  rw [Kx.out]
  go_wp2_with fail
  refine (buildReq_any a n cap Z _ hp1 hn).mono ?_
  rintro e w2 ⟨rfl, hb2, hr2⟩
  have hp2 := hp1.below hb2
  have hb12 := hb1.trans (hb2.mono hb1.size)
  clear hp1
  generalize hQ : (fun j => w'.heap.size + 1 + j) = Q at hr2
  clear hQ
  generalize hB : w'.heap.size = B at hr2 ⊢
  clear hB hb1 hb2
  go_wp2_with fail
  refine (newRequest_any x _).mono ?_
  rintro e w3 ⟨rfl, rfl⟩
  have hbR : Below w2.heap.size w2 (w2.alloc (.cells (reqCells x) 85)) := (Below.refl _ _).alloc (Nat.le_refl _) _
  have hR3 : (w2.alloc (.cells (reqCells x) 85)).cell? ⟨w2.heap.size, 0, none⟩ = some (.int .i64 x) := by simp [go_sem, reqCells]
  have hr3 := hr2.below hbR
  have hp3 := hp2.below hbR
  have hb13 := hb12.trans (hbR.mono hb12.size)
  clear hr2 hp2 hb12 hbR
  generalize hRR : w2.heap.size = R at hR3 ⊢
  generalize hw3 : w2.alloc (.cells (reqCells x) 85) = w3 at *
  clear hRR hw3
  obtain ⟨ti, hti, hts⟩ := info56'
  have hmk := make_spare n hn
  have hown0 : (w3.alloc (.cells (madeCells #[.pointer none] (n + 1)) 56)).ownsRow w3.heap.size 56 1 (.slice (some ⟨w3.heap.size, 0, none⟩) 0 (n + 1)) 0 [] := World.ownsRow_made w3 _ (n + 1) (Nat.le_refl _) (by unfold maxLen; omega) (by rw [size_madeCells]; omega)
  have hbw0 : Below w3.heap.size w3 (w3.alloc (.cells (madeCells #[.pointer none] (n + 1)) 56)) := (Below.refl _ _).alloc (Nat.le_refl _) _
  have HT : Hid (Try.prog.info? 56 = some ti) := hti
  clear hti
  have hr0 := hr3.below hbw0
  go_upto_region 13 with (at_builtin; refine wpList_append_own_spare _ rfl (.tmp 49) (.tmp 52) 54 rfl w3.heap.size 56 ti 1 Try.underlying54 HT.out hts w3.heap.size 0 (n + 1) [] rfl hown0 ⟨B, 0, none⟩ at0 n (ptrs Q 0 at0) rfl (by rw [ptrs_length]; omega) (hr0.src 0 at0 (by omega)) (ptrs_one _ _ _) (by omega) ?_; intro w4 hown1 hgrow1)
  rw [Nat.zero_add, List.nil_append] at hown1
  have hb4 : Below w3.heap.size w3 w4 := hbw0.grown hgrow1 (by simp) (fun k hk => by simp at hk; omega)
  have hown1' := hown1.alloc (.cells #[.pointer (some ⟨R, 0, none⟩)] 56)
  have hb4' : Below w3.heap.size w3 (w4.alloc (.cells #[.pointer (some ⟨R, 0, none⟩)] 56)) := hb4.alloc hb4.size _
  have hone : ∀ (j : Nat) (u : Value), [Value.pointer (some ⟨R, 0, none⟩)][j]? = some u → (w4.alloc (.cells #[.pointer (some ⟨R, 0, none⟩)] 56)).cell? ((⟨w4.heap.size, 0, none⟩ : Addr).add j) = some u := cell_one_new _ _ _
  clear hmk hown0 hbw0 hr0 hgrow1 hown1
  go_upto_region 14 with (at_builtin; refine wpList_append_own_spare _ rfl (.tmp 54) (.tmp 56) 54 rfl w3.heap.size 56 ti 1 Try.underlying54 HT.out hts w3.heap.size at0 (n + 1) (ptrs Q 0 at0) rfl hown1' ⟨w4.heap.size, 0, none⟩ 1 1 [.pointer (some ⟨R, 0, none⟩)] rfl rfl hone (by intro u hu; simp at hu; subst hu; rfl) (by omega) ?_; intro w5 hown2 hgrow2)
  have hb5 : Below w3.heap.size w3 w5 := hb4'.grown hgrow2 (Nat.le_trans hb4.size (by simp)) (fun k hk => by simp at hk; omega)
  have hr5 := hr3.below hb5
  clear hone hgrow2 hown1' hb4 hb4'
  go_upto_region 15 with (at_builtin; refine wpList_append_own_spare _ rfl (.tmp 58) (.tmp 61) 54 rfl w3.heap.size 56 ti 1 Try.underlying54 HT.out hts w3.heap.size (at0 + 1) (n + 1) (ptrs Q 0 at0 ++ [.pointer (some ⟨R, 0, none⟩)]) rfl hown2 ⟨B, at0, none⟩ (n - at0) (n - at0) (ptrs Q at0 (n - at0)) rfl (by rw [ptrs_length]; omega) (by have := hr5.src at0 (n - at0) (by omega); rw [Nat.zero_add] at this; exact this) (ptrs_one _ _ _) (by omega) ?_; intro w6 hown3 hgrow3)
  have hb6 : Below w3.heap.size w3 w6 := hb5.grown hgrow3 hb5.size (fun k hk => by simp at hk; omega)
  have hr6 := hr3.below hb6
  have hp6 := hp3.below hb6
  have hR6 : w6.cell? ⟨R, 0, none⟩ = some (.int .i64 x) := by rw [hb6.cell (cell_lt hR3)]; exact hR3
  have hr6' := hr6.ins hR6 (Nat.le_of_lt hat) rfl (by have := hown3; rw [show at0 + 1 + (n - at0) = n + 1 by omega] at this; exact this)
  have hb16 := hb13.trans (hb6.mono hb13.size)
  generalize hSS : w3.heap.size = S at hr6' ⊢
  clear hSS hr3 hp3 hR3 hr5 hown2 hown3 hgrow3 hb5 hb6 hb13 HT hts
  rw [show at0 + 1 + (n - at0) = n + 1 by omega]
  go_wp2_with fail
  refine (newDialogue_any _ _ n n).mono ?_
  rintro e w7 ⟨rfl, hb7, hd7⟩
  have hr7 := hr6.below hb7
  have hr7' := hr6'.below hb7
  have hp7 := hp6.below hb7
  have hR7 : w7.cell? ⟨R, 0, none⟩ = some (.int .i64 x) := by rw [hb7.cell (cell_lt hR6)]; exact hR6
  have hb17 := hb16.trans (hb7.mono hb16.size)
  clear hr6 hr6' hp6 hR6 hb7 hb16
  go_wp2_with fail
  refine (zzRequest_any _ _ n n Q Z q _ hr7 (by omega) hd7).mono ?_
  rintro e w8 ⟨rfl, hb8⟩
  rw [Kb.out, reqAt_nat]
  have hr8 := hr7.below hb8
  have hr8' := hr7'.below hb8
  have hp8 := hp7.below hb8
  have hR8 : w8.cell? ⟨R, 0, none⟩ = some (.int .i64 x) := by rw [hb8.cell (cell_lt hR7)]; exact hR7
  have hb18 := hb17.trans (hb8.mono hb17.size)
  clear hr7 hr7' hp7 hR7 hb8 hb17 hd7
  go_wp2_with fail
  refine (newDialogue_any _ _ (n + 1) (n + 1)).mono ?_
  rintro e w9 ⟨rfl, hb9, hd9⟩
  have hr9 := hr8.below hb9
  have hr9' := hr8'.below hb9
  have hp9 := hp8.below hb9
  have hR9 : w9.cell? ⟨R, 0, none⟩ = some (.int .i64 x) := by rw [hb9.cell (cell_lt hR8)]; exact hR8
  have hb19 := hb18.trans (hb9.mono hb18.size)
  clear hr8 hr8' hp8 hR8 hb9 hb18
  go_wp2_with fail
  refine (zzRequest_any _ _ (n + 1) (n + 1) (ins Q at0 R) (ins Z at0 x) q _ hr9' (by omega) hd9).mono ?_
  rintro e w10 ⟨rfl, hb10⟩
  rw [Ka.out, reqAt_nat, hins.out]
  have hr10 := hr9.below hb10
  have hp10 := hp9.below hb10
  have hR10 : w10.cell? ⟨R, 0, none⟩ = some (.int .i64 x) := by rw [hb10.cell (cell_lt hR9)]; exact hR9
  have hb110 := hb19.trans (hb10.mono hb19.size)
  clear hr9 hr9' hp9 hR9 hb10 hb19 hd9
  have hs := req_same
  clear hR10
  go_wp2_with fail
  refine (indexOf_any a n cap Z q _ hp10 hn).mono ?_
  rintro e w' ⟨rfl, rfl⟩
  rw [Kb.out]
  clear hp10
  obtain ⟨xb, xo, hx, h1, h2⟩ := hr10 k hk
  obtain ⟨rfl, rfl⟩ : xb = B ∧ xo = 0 := by simpa [eq_comm] using hx
  rw [Nat.zero_add] at h1
  clear hr10 hx
  go_wp2_with fail
  refine (requestID_any (Q k) (Z k) _ h2).mono ?_
  rintro e w' ⟨rfl, rfl⟩
  rw [hzk.out]
  clear h1 h2
  go_wp2_with fail
  go_ret
  exact ⟨rfl, hb110⟩

set_option maxHeartbeats 1000000 in
theorem law7_some_end (a : Option Addr) (n cap : Nat) (Z : Nat → Int) (x q : Int) (w : World) (hp : IdsAt w a n Z) (hn : n ≤ 131072) (hqx : (q == x) = false) (k k' : Nat) (hk : k < n) (hzk : Hid (Z k = q)) (hins : Hid (∀ {α : Type} (f : Nat → α) (v : α), ins f n v k' = f k))
    (Kx : Hid (find (isId Z x) 0 n = -1)) (Kb : Hid (find (isId Z q) 0 n = (k : Int))) (Ka : Hid (find (isId (ins Z n x) q) 0 (n + 1) = (k' : Int))) :
    Calls Try.prog 7 #[.slice a n cap, .int .i64 n, .int .i64 x, .int .i64 q] w fun e w' => e = .returned (.bool true) ∧ Below w.heap.size w w' := by
  go_enter Try.func7, Try.ntmps7
  go_wp2_with fail
  refine (bytes31 a n cap n x q w).mono ?_
  rintro e w' ⟨⟨b, rfl⟩, rfl⟩
  cases b
  · go_wp2_with fail
    go_ret
    exact ⟨rfl, Below.refl _ _⟩
  go_wp2_with fail
  refine (distinct_any a n cap Z _ hp hn).mono ?_
  rintro e w1 ⟨⟨b, rfl, -⟩, hb1⟩
  cases b
  · go_wp2_with fail
    go_ret
    exact ⟨rfl, hb1⟩
  have hp1 := hp.below hb1
  clear hp
  go_wp2_with fail
  refine (indexOf_any a n cap Z x _ hp1 hn).mono ?_
  rintro e w' ⟨rfl, rfl⟩
  rw [Kx.out]
  go_wp2_with fail
  refine (buildReq_any a n cap Z _ hp1 hn).mono ?_
  rintro e w2 ⟨rfl, hb2, hr2⟩
  have hp2 := hp1.below hb2
  have hb12 := hb1.trans (hb2.mono hb1.size)
  clear hp1
  generalize hQ : (fun j => w'.heap.size + 1 + j) = Q at hr2
  clear hQ
  generalize hB : w'.heap.size = B at hr2 ⊢
  clear hB hb1 hb2
  go_wp2_with fail
  refine (newRequest_any x _).mono ?_
  rintro e w3 ⟨rfl, rfl⟩
  have hbR : Below w2.heap.size w2 (w2.alloc (.cells (reqCells x) 85)) := (Below.refl _ _).alloc (Nat.le_refl _) _
  have hR3 : (w2.alloc (.cells (reqCells x) 85)).cell? ⟨w2.heap.size, 0, none⟩ = some (.int .i64 x) := by simp [go_sem, reqCells]
  have hr3 := hr2.below hbR
  have hp3 := hp2.below hbR
  have hb13 := hb12.trans (hbR.mono hb12.size)
  clear hr2 hp2 hb12 hbR
  generalize hRR : w2.heap.size = R at hR3 ⊢
  generalize hw3 : w2.alloc (.cells (reqCells x) 85) = w3 at *
  clear hRR hw3
  obtain ⟨ti, hti, hts⟩ := info56'
  have hmk := make_spare n hn
  have hown0 : (w3.alloc (.cells (madeCells #[.pointer none] (n + 1)) 56)).ownsRow w3.heap.size 56 1 (.slice (some ⟨w3.heap.size, 0, none⟩) 0 (n + 1)) 0 [] := World.ownsRow_made w3 _ (n + 1) (Nat.le_refl _) (by unfold maxLen; omega) (by rw [size_madeCells]; omega)
  have hbw0 : Below w3.heap.size w3 (w3.alloc (.cells (madeCells #[.pointer none] (n + 1)) 56)) := (Below.refl _ _).alloc (Nat.le_refl _) _
  have HT : Hid (Try.prog.info? 56 = some ti) := hti
  clear hti
  have hr0 := hr3.below hbw0
  go_upto_region 13 with (at_builtin; refine wpList_append_own_spare _ rfl (.tmp 49) (.tmp 52) 54 rfl w3.heap.size 56 ti 1 Try.underlying54 HT.out hts w3.heap.size 0 (n + 1) [] rfl hown0 ⟨B, 0, none⟩ n n (ptrs Q 0 n) rfl (by rw [ptrs_length]; omega) (hr0.src 0 n (by omega)) (ptrs_one _ _ _) (by omega) ?_; intro w4 hown1 hgrow1)
  rw [Nat.zero_add, List.nil_append] at hown1
  have hb4 : Below w3.heap.size w3 w4 := hbw0.grown hgrow1 (by simp) (fun k hk => by simp at hk; omega)
  have hown1' := hown1.alloc (.cells #[.pointer (some ⟨R, 0, none⟩)] 56)
  have hb4' : Below w3.heap.size w3 (w4.alloc (.cells #[.pointer (some ⟨R, 0, none⟩)] 56)) := hb4.alloc hb4.size _
  have hone : ∀ (j : Nat) (u : Value), [Value.pointer (some ⟨R, 0, none⟩)][j]? = some u → (w4.alloc (.cells #[.pointer (some ⟨R, 0, none⟩)] 56)).cell? ((⟨w4.heap.size, 0, none⟩ : Addr).add j) = some u := cell_one_new _ _ _
  clear hmk hown0 hbw0 hr0 hgrow1 hown1
  go_upto_region 14 with (at_builtin; refine wpList_append_own_spare _ rfl (.tmp 54) (.tmp 56) 54 rfl w3.heap.size 56 ti 1 Try.underlying54 HT.out hts w3.heap.size n (n + 1) (ptrs Q 0 n) rfl hown1' ⟨w4.heap.size, 0, none⟩ 1 1 [.pointer (some ⟨R, 0, none⟩)] rfl rfl hone (by intro u hu; simp at hu; subst hu; rfl) (by omega) ?_; intro w5 hown2 hgrow2)
  have hb5 : Below w3.heap.size w3 w5 := hb4'.grown hgrow2 (Nat.le_trans hb4.size (by simp)) (fun k hk => by simp at hk; omega)
  have hr5 := hr3.below hb5
  clear hone hgrow2 hown1' hb4 hb4'
  go_upto_region 15 with (at_builtin; refine wpList_append_own_spare _ rfl (.tmp 58) (.tmp 61) 54 rfl w3.heap.size 56 ti 1 Try.underlying54 HT.out hts w3.heap.size (n + 1) (n + 1) (ptrs Q 0 n ++ [.pointer (some ⟨R, 0, none⟩)]) rfl hown2 ⟨B, 0, none⟩ 0 0 (ptrs Q n (n - n)) rfl (by rw [ptrs_length]; omega) (by rw [Nat.sub_self]; exact fun j u h => by simp [ptrs] at h) (ptrs_one _ _ _) (by omega) ?_; intro w6 hown3 hgrow3)
  have hb6 : Below w3.heap.size w3 w6 := hb5.grown hgrow3 hb5.size (fun k hk => by simp at hk; omega)
  have hr6 := hr3.below hb6
  have hp6 := hp3.below hb6
  have hR6 : w6.cell? ⟨R, 0, none⟩ = some (.int .i64 x) := by rw [hb6.cell (cell_lt hR3)]; exact hR3
  have hr6' := hr6.ins hR6 (Nat.le_refl _) rfl (by have := hown3; rw [Nat.add_zero] at this; exact this)
  have hb16 := hb13.trans (hb6.mono hb13.size)
  generalize hSS : w3.heap.size = S at hr6' ⊢
  clear hSS hr3 hp3 hR3 hr5 hown2 hown3 hgrow3 hb5 hb6 hb13 HT hts
  go_wp2_with fail
  refine (newDialogue_any _ _ n n).mono ?_
  rintro e w7 ⟨rfl, hb7, hd7⟩
  have hr7 := hr6.below hb7
  have hr7' := hr6'.below hb7
  have hp7 := hp6.below hb7
  have hR7 : w7.cell? ⟨R, 0, none⟩ = some (.int .i64 x) := by rw [hb7.cell (cell_lt hR6)]; exact hR6
  have hb17 := hb16.trans (hb7.mono hb16.size)
  clear hr6 hr6' hp6 hR6 hb7 hb16
  go_wp2_with fail
  refine (zzRequest_any _ _ n n Q Z q _ hr7 (by omega) hd7).mono ?_
  rintro e w8 ⟨rfl, hb8⟩
  rw [Kb.out, reqAt_nat]
  have hr8 := hr7.below hb8
  have hr8' := hr7'.below hb8
  have hp8 := hp7.below hb8
  have hR8 : w8.cell? ⟨R, 0, none⟩ = some (.int .i64 x) := by rw [hb8.cell (cell_lt hR7)]; exact hR7
  have hb18 := hb17.trans (hb8.mono hb17.size)
  clear hr7 hr7' hp7 hR7 hb8 hb17 hd7
  go_wp2_with fail
  refine (newDialogue_any _ _ (n + 1) (n + 1)).mono ?_
  rintro e w9 ⟨rfl, hb9, hd9⟩
  have hr9 := hr8.below hb9
  have hr9' := hr8'.below hb9
  have hp9 := hp8.below hb9
  have hR9 : w9.cell? ⟨R, 0, none⟩ = some (.int .i64 x) := by rw [hb9.cell (cell_lt hR8)]; exact hR8
  have hb19 := hb18.trans (hb9.mono hb18.size)
  clear hr8 hr8' hp8 hR8 hb9 hb18
  go_wp2_with fail
  refine (zzRequest_any _ _ (n + 1) (n + 1) (ins Q n R) (ins Z n x) q _ hr9' (by omega) hd9).mono ?_
  rintro e w10 ⟨rfl, hb10⟩
  rw [Ka.out, reqAt_nat, hins.out]
  have hr10 := hr9.below hb10
  have hp10 := hp9.below hb10
  have hR10 : w10.cell? ⟨R, 0, none⟩ = some (.int .i64 x) := by rw [hb10.cell (cell_lt hR9)]; exact hR9
  have hb110 := hb19.trans (hb10.mono hb19.size)
  clear hr9 hr9' hp9 hR9 hb10 hb19 hd9
  have hs := req_same
  clear hR10
  go_wp2_with fail
  refine (indexOf_any a n cap Z q _ hp10 hn).mono ?_
  rintro e w' ⟨rfl, rfl⟩
  rw [Kb.out]
  clear hp10
  obtain ⟨xb, xo, hx, h1, h2⟩ := hr10 k hk
  obtain ⟨rfl, rfl⟩ : xb = B ∧ xo = 0 := by simpa [eq_comm] using hx
  rw [Nat.zero_add] at h1
  clear hr10 hx
  go_wp2_with fail
  refine (requestID_any (Q k) (Z k) _ h2).mono ?_
  rintro e w' ⟨rfl, rfl⟩
  rw [hzk.out]
  clear h1 h2
  go_wp2_with fail
  go_ret
  exact ⟨rfl, hb110⟩

theorem law7_mid (a : Option Addr) (n cap at0 : Nat) (Z : Nat → Int) (x q : Int) (w : World) (hp : IdsAt w a n Z) (hn : n ≤ 131072) (hat : at0 ≤ n) (hx : find (isId Z x) 0 n = -1) :
    Calls Try.prog 7 #[.slice a n cap, .int .i64 at0, .int .i64 x, .int .i64 q] w fun e w' => e = .returned (.bool true) ∧ Below w.heap.size w w' := by
  by_cases hqx : q = x
  · subst hqx
    have hnew := find_new hat hx
    by_cases he : at0 = n
    · subst he
      exact law7_new_end a at0 cap Z q w hp hn hx hx hnew
    · exact law7_new_lt a n cap at0 Z q w hp hn (by omega) hx hx hnew
  · have hb : (q == x) = false := beq_eq_false_iff_ne.2 hqx
    rcases find_spec (isId Z q) n 0 with ⟨h1, _⟩ | ⟨k, h1, _⟩
    · have hold := find_old_none hat hqx h1
      by_cases he : at0 = n
      · subst he
        exact law7_none_end a at0 cap Z x q w hp hn hb hx h1 hold
      · exact law7_none_lt a n cap at0 Z x q w hp hn (by omega) hb hx h1 hold
    · obtain ⟨k', g1, g2, g3, g4⟩ := find_old_some hat hqx h1
      by_cases he : at0 = n
      · subst he
        exact law7_some_end a at0 cap Z x q w hp hn hb k k' g2 g3 g4 hx h1 g1
      · exact law7_some_lt a n cap at0 Z x q w hp hn (by omega) hb k k' g2 g3 g4 hx h1 g1

set_option maxHeartbeats 400000 in
/-- FnRequestFindsAnInsertedRequest returns true, whatever came in. -/
theorem law7 (a : Option Addr) (n cap : Nat) (Z : Nat → Int) (at0 x q : Int) (w : World) (hp : IdsAt w a n Z) :
    Calls Try.prog 7 #[.slice a n cap, .int .i64 at0, .int .i64 x, .int .i64 q] w fun e w' => e = .returned (.bool true) ∧ Below w.heap.size w w' := by
  by_cases hn : 131072 < n
  · go_enter Try.func7, Try.ntmps7
    go_wp2_with fail
    refine (bytes31 a n cap at0 x q w).mono ?_
    rintro e w' ⟨⟨b, rfl⟩, rfl⟩
    cases b <;> (go_wp2_with fail; go_ret; exact ⟨rfl, Below.refl _ _⟩)
  by_cases hc : at0 < 0 ∨ (n : Int) < at0
  · rcases hc with hc | hc
    all_goals
      go_enter Try.func7, Try.ntmps7
      go_wp2_with fail
      refine (bytes31 a n cap at0 x q w).mono ?_
      rintro e w' ⟨⟨b, rfl⟩, rfl⟩
      cases b <;> (go_wp2_with fail; go_ret; exact ⟨rfl, Below.refl _ _⟩)
  obtain ⟨c, rfl⟩ := Int.eq_ofNat_of_zero_le (show 0 ≤ at0 by omega)
  have hcn : c ≤ n := by omega
  rcases find_spec (isId Z x) n 0 with ⟨h1, _⟩ | ⟨k, h1, _⟩
  · exact law7_mid a n cap c Z x q w hp (by omega) hcn h1
  · have HK : Hid (find (isId Z x) 0 n = (k : Int)) := h1
    have hn' : n ≤ 131072 := by omega
    clear h1 hn hc
    go_enter Try.func7, Try.ntmps7
    go_wp2_with fail
    refine (bytes31 a n cap c x q w).mono ?_
    rintro e w' ⟨⟨b, rfl⟩, rfl⟩
    cases b
    · go_wp2_with fail
      go_ret
      exact ⟨rfl, Below.refl _ _⟩
    go_wp2_with fail
    refine (distinct_any a n cap Z _ hp hn').mono ?_
    rintro e w1 ⟨⟨b, rfl, -⟩, hb1⟩
    cases b
    · go_wp2_with fail
      go_ret
      exact ⟨rfl, hb1⟩
    have hp1 := hp.below hb1
    clear hp
    go_wp2_with fail
    refine (indexOf_any a n cap Z x _ hp1 hn').mono ?_
    rintro e w' ⟨rfl, rfl⟩
    rw [HK.out]
    go_wp2_with fail
    go_ret
    exact ⟨rfl, hb1⟩
end Go.Proofs.Qxb6613659a

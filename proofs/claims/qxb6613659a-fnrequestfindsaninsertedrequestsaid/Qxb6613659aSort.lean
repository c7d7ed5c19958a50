/- A bottom-up merge sort, plainly: arrays as functions of the index; counts in the place of permutations. -/
import Derived.KernelRfl
namespace Go.Proofs.Qxb6613659a

/-- How many of the m places from lo on hold x. -/
def cnt (f : Nat → Int) (x : Int) (lo : Nat) : Nat → Nat
  | 0 => 0
  | m + 1 => cnt f x lo m + if f (lo + m) = x then 1 else 0

theorem cnt_congr {f g : Nat → Int} {x : Int} {lo : Nat} : ∀ {m : Nat}, (∀ t, lo ≤ t → t < lo + m → f t = g t) → cnt f x lo m = cnt g x lo m
  | 0, _ => rfl
  | m + 1, h => by rw [cnt, cnt, cnt_congr (fun t h1 h2 => h t h1 (by omega)), h (lo + m) (by omega) (by omega)]

theorem cnt_add (f : Nat → Int) (x : Int) (lo a : Nat) : ∀ b : Nat, cnt f x lo (a + b) = cnt f x lo a + cnt f x (lo + a) b
  | 0 => rfl
  | b + 1 => by rw [show a + (b + 1) = a + b + 1 by omega, cnt, cnt, cnt_add f x lo a b, show lo + (a + b) = lo + a + b by omega]; omega

theorem cnt_zero {f : Nat → Int} {x : Int} {lo : Nat} : ∀ {m : Nat}, (∀ t, lo ≤ t → t < lo + m → f t ≠ x) → cnt f x lo m = 0
  | 0, _ => rfl
  | m + 1, h => by rw [cnt, cnt_zero (fun t h1 h2 => h t h1 (by omega)), if_neg (h (lo + m) (by omega) (by omega))]

theorem cnt_pos {f : Nat → Int} {x : Int} {lo t : Nat} (ht : f t = x) (h1 : lo ≤ t) : ∀ {m : Nat}, t < lo + m → 1 ≤ cnt f x lo m
  | 0, h => by omega
  | m + 1, h => by
    rw [cnt]
    by_cases e : t = lo + m
    · rw [← e, if_pos ht]; omega
    · have := cnt_pos ht h1 (m := m) (by omega)
      omega

/-- No value stands twice. -/
def Inj (Z : Nat → Int) (n : Nat) : Prop := ∀ i j, i < j → j < n → Z i ≠ Z j

theorem cnt_le_one {f : Nat → Int} {x : Int} : ∀ {n : Nat}, Inj f n → cnt f x 0 n ≤ 1
  | 0, _ => by rw [cnt]; omega
  | n + 1, h => by
    rw [cnt]
    by_cases e : f (0 + n) = x
    · rw [if_pos e, cnt_zero (fun t _ h2 => ?_)]
      · omega
      · rw [← e, Nat.zero_add]
        exact h t n (by omega) (by omega)
    · rw [if_neg e]
      have := cnt_le_one (x := x) (n := n) (fun i j h1 h2 => h i j h1 (by omega))
      omega

theorem inj_of_cnt {f : Nat → Int} {n : Nat} (h : ∀ x, cnt f x 0 n ≤ 1) : Inj f n := by
  intro i j hij hjn e
  have h1 := cnt_add f (f j) 0 j (n - j)
  rw [show j + (n - j) = n by omega, Nat.zero_add] at h1
  have h2 := cnt_pos (f := f) (x := f j) (lo := 0) (t := i) e (by omega) (m := j) (by omega)
  have h3 := cnt_pos (f := f) (x := f j) (lo := j) (t := j) rfl (by omega) (m := n - j) (by omega)
  have := h (f j)
  omega

/-- Neighbours in order. -/
def Adj (f : Nat → Int) (lo hi : Nat) : Prop := ∀ t, lo ≤ t → t + 1 < hi → f t ≤ f (t + 1)

theorem Adj.le {f : Nat → Int} {lo hi : Nat} (h : Adj f lo hi) {i : Nat} (hi1 : lo ≤ i) : ∀ {d : Nat}, i + d < hi → f i ≤ f (i + d)
  | 0, _ => Int.le_refl _
  | d + 1, hd => Int.le_trans (h.le hi1 (d := d) (by omega)) (h (i + d) (by omega) (by omega))

theorem Adj.le' {f : Nat → Int} {lo hi i j : Nat} (h : Adj f lo hi) (h1 : lo ≤ i) (h2 : i ≤ j) (h3 : j < hi) : f i ≤ f j := by
  have := h.le h1 (d := j - i) (by omega)
  rwa [show i + (j - i) = j by omega] at this

/-- Where neighbours are in order and differ, no value stands twice. -/
theorem inj_of_adj {f : Nat → Int} {n : Nat} (h : Adj f 0 n) (hne : ∀ t, t + 1 < n → f t ≠ f (t + 1)) : Inj f n := by
  intro i j hij hjn e
  have h1 := h i (by omega) (by omega)
  have h2 := hne i (by omega)
  have h3 := h.le' (i := i + 1) (j := j) (by omega) (by omega) hjn
  omega

/-! ### The inner loop: the merge of A's two runs into B -/

/-- The merge at work: i, j of the runs are taken, B holds them from lo to k. -/
structure Merge (A B : Nat → Int) (lo mid hi i j k : Nat) : Prop where
  li : lo ≤ i
  im : i ≤ mid
  mj : mid ≤ j
  jh : j ≤ hi
  hk : k = i + (j - mid)
  sorted : Adj B lo k
  left : ∀ t s, lo ≤ t → t < k → i ≤ s → s < mid → B t ≤ A s
  right : ∀ t s, lo ≤ t → t < k → j ≤ s → s < hi → B t ≤ A s
  count : ∀ x, cnt B x lo (k - lo) = cnt A x lo (i - lo) + cnt A x mid (j - mid)

/-- B with v at k. -/
def put (B : Nat → Int) (k : Nat) (v : Int) : Nat → Int := fun t => if t = k then v else B t

theorem put_same (B : Nat → Int) (k : Nat) (v : Int) : put B k v k = v := if_pos rfl
theorem put_other (B : Nat → Int) {k t : Nat} (v : Int) (h : t ≠ k) : put B k v t = B t := if_neg h

theorem Merge.start {A B : Nat → Int} {lo mid hi : Nat} (h1 : lo ≤ mid) (h2 : mid ≤ hi) : Merge A B lo mid hi lo mid lo :=
  ⟨Nat.le_refl _, h1, Nat.le_refl _, h2, by omega, fun t _ _ => by omega, fun t s _ _ => by omega, fun t s _ _ => by omega, fun x => by
    rw [Nat.sub_self, Nat.sub_self]; rfl⟩

theorem adj_put {B : Nat → Int} {lo k : Nat} {v : Int} (h : Adj B lo k) (hv : ∀ t, lo ≤ t → t < k → B t ≤ v) : Adj (put B k v) lo (k + 1) := by
  intro t h1 h2
  by_cases e : t + 1 = k
  · rw [e, put_same, put_other B v (show t ≠ k by omega)]
    exact hv t h1 (by omega)
  · rw [put_other B v (show t ≠ k by omega), put_other B v e]
    exact h t h1 (by omega)

theorem cnt_put {B : Nat → Int} {x v : Int} {lo k : Nat} (h : lo ≤ k) : cnt (put B k v) x lo (k + 1 - lo) = cnt B x lo (k - lo) + if v = x then 1 else 0 := by
  rw [show k + 1 - lo = k - lo + 1 by omega, cnt, show lo + (k - lo) = k by omega, put_same]
  rw [cnt_congr (g := B) (fun t h1 h2 => put_other B v (show t ≠ k by omega))]

theorem Merge.takeLeft {A B : Nat → Int} {lo mid hi i j k : Nat} (h : Merge A B lo mid hi i j k) (hA1 : Adj A lo mid) (hA2 : Adj A mid hi) (hi1 : i < mid) (hle : j < hi → A i ≤ A j) :
    Merge A (put B k (A i)) lo mid hi (i + 1) j (k + 1) := by
  obtain ⟨li, im, mj, jh, hk, hs, hl, hr, hc⟩ := h
  refine ⟨by omega, by omega, mj, jh, by omega, adj_put hs fun t h1 h2 => hl t i h1 h2 (Nat.le_refl _) hi1, fun t s h1 h2 h3 h4 => ?_, fun t s h1 h2 h3 h4 => ?_, fun x => ?_⟩
  · by_cases e : t = k
    · rw [e, put_same]; exact hA1.le' li (by omega) h4
    · rw [put_other B _ e]; exact hl t s h1 (by omega) (by omega) h4
  · by_cases e : t = k
    · rw [e, put_same]
      exact Int.le_trans (hle (by omega)) (hA2.le' mj h3 h4)
    · rw [put_other B _ e]; exact hr t s h1 (by omega) h3 h4
  · rw [cnt_put (by omega), hc x, show i + 1 - lo = i - lo + 1 by omega]
    rw [cnt.eq_def A x lo (i - lo + 1)]
    simp only [show lo + (i - lo) = i by omega]
    omega

theorem Merge.takeRight {A B : Nat → Int} {lo mid hi i j k : Nat} (h : Merge A B lo mid hi i j k) (hA1 : Adj A lo mid) (hA2 : Adj A mid hi) (hj1 : j < hi) (hle : i < mid → A j ≤ A i) :
    Merge A (put B k (A j)) lo mid hi i (j + 1) (k + 1) := by
  obtain ⟨li, im, mj, jh, hk, hs, hl, hr, hc⟩ := h
  refine ⟨li, im, by omega, by omega, by omega, adj_put hs fun t h1 h2 => hr t j h1 h2 (Nat.le_refl _) hj1, fun t s h1 h2 h3 h4 => ?_, fun t s h1 h2 h3 h4 => ?_, fun x => ?_⟩
  · by_cases e : t = k
    · rw [e, put_same]; exact Int.le_trans (hle (by omega)) (hA1.le' li h3 h4)
    · rw [put_other B _ e]; exact hl t s h1 (by omega) h3 h4
  · by_cases e : t = k
    · rw [e, put_same]; exact hA2.le' mj (by omega) h4
    · rw [put_other B _ e]; exact hr t s h1 (by omega) (by omega) h4
  · rw [cnt_put (by omega), hc x, show j + 1 - mid = j - mid + 1 by omega]
    rw [cnt.eq_def A x mid (j - mid + 1)]
    simp only [show mid + (j - mid) = j by omega]
    omega

theorem Merge.done {A B : Nat → Int} {lo mid hi i j k : Nat} (h : Merge A B lo mid hi i j k) (hk : ¬ k < hi) : Adj B lo hi ∧ ∀ x, cnt B x lo (hi - lo) = cnt A x lo (hi - lo) := by
  obtain ⟨li, im, mj, jh, hk', hs, hl, hr, hc⟩ := h
  obtain rfl : i = mid := by omega
  obtain rfl : j = hi := by omega
  obtain rfl : k = j := by omega
  refine ⟨hs, fun x => ?_⟩
  rw [hc x, show k - lo = (i - lo) + (k - i) by omega, cnt_add, show lo + (i - lo) = i by omega]

/-! ### The middle loop: B's first lo places hold A's, in runs of 2 * w -/

structure Mid (A B : Nat → Int) (n w lo : Nat) : Prop where
  dvd : 2 * w ∣ lo
  runs : ∀ t, t + 1 < lo → t + 1 < n → (t + 1) % (2 * w) ≠ 0 → B t ≤ B (t + 1)
  count : ∀ x, cnt B x 0 (min lo n) = cnt A x 0 (min lo n)

theorem Mid.start {A B : Nat → Int} {n w : Nat} : Mid A B n w 0 :=
  ⟨⟨0, by omega⟩, fun t h => by omega, fun x => by rw [Nat.zero_min]; rfl⟩

/-- A's runs of w: neighbours but at the multiples of w are in order. -/
def Runs (A : Nat → Int) (n w : Nat) : Prop := ∀ t, t + 1 < n → (t + 1) % w ≠ 0 → A t ≤ A (t + 1)

theorem mod_ne {w lo r : Nat} (h : w ∣ lo) (h1 : 0 < r) (h2 : r < w) : (lo + r) % w ≠ 0 := by
  obtain ⟨q, rfl⟩ := h
  rw [Nat.mul_add_mod, Nat.mod_eq_of_lt h2]
  omega

theorem Runs.left {A : Nat → Int} {n w lo mid : Nat} (h : Runs A n w) (hd : 2 * w ∣ lo) (hm : mid ≤ lo + w) (hn : mid ≤ n) : Adj A lo mid := by
  intro t h1 h2
  have hw : w ∣ lo := Nat.dvd_trans (Nat.dvd_mul_left w 2) hd
  have := mod_ne hw (r := t + 1 - lo) (by omega) (by omega)
  rw [show lo + (t + 1 - lo) = t + 1 by omega] at this
  exact h t (by omega) this

theorem Runs.right {A : Nat → Int} {n w lo mid hi : Nat} (h : Runs A n w) (hd : 2 * w ∣ lo) (hm : mid = min (lo + w) n) (hh : hi = min (lo + 2 * w) n) : Adj A mid hi := by
  intro t h1 h2
  have hw : w ∣ lo + w := Nat.dvd_add (Nat.dvd_trans (Nat.dvd_mul_left w 2) hd) (Nat.dvd_refl w)
  have := mod_ne hw (r := t + 1 - (lo + w)) (by omega) (by omega)
  rw [show lo + w + (t + 1 - (lo + w)) = t + 1 by omega] at this
  exact h t (by omega) this

/-- A round of the middle loop: B' is B below lo, and A's two runs merged from lo to hi. -/
theorem Mid.step {A B B' : Nat → Int} {n w lo hi : Nat} (h : Mid A B n w lo) (hlo : lo < n) (hw : 0 < w) (hh : hi = min (lo + 2 * w) n) (hsame : ∀ t, t < lo → B' t = B t)
    (hadj : Adj B' lo hi) (hcnt : ∀ x, cnt B' x lo (hi - lo) = cnt A x lo (hi - lo)) : Mid A B' n w (lo + 2 * w) := by
  obtain ⟨hd, hr, hc⟩ := h
  refine ⟨Nat.dvd_add hd (Nat.dvd_refl _), fun t h1 h2 h3 => ?_, fun x => ?_⟩
  · by_cases e : t + 1 < lo
    · rw [hsame t (by omega), hsame (t + 1) e]; exact hr t e (by omega) h3
    · by_cases e' : t + 1 = lo
      · rw [e'] at h3
        exact absurd (Nat.mod_eq_zero_of_dvd hd) h3
      · exact hadj t (by omega) (by omega)
  · rw [← hh, show hi = lo + (hi - lo) by omega, cnt_add, cnt_add, Nat.zero_add, hcnt x]
    rw [cnt_congr (g := B) (fun t _ h2 => hsame t (by omega))]
    have := hc x
    rw [show min lo n = lo by omega] at this
    omega

theorem Mid.done {A B : Nat → Int} {n w lo : Nat} (h : Mid A B n w lo) (hlo : ¬ lo < n) : Runs B n (2 * w) ∧ ∀ x, cnt B x 0 n = cnt A x 0 n := by
  refine ⟨fun t h1 h2 => h.runs t (by omega) h1 h2, fun x => ?_⟩
  have := h.count x
  rwa [show min lo n = n by omega] at this

theorem Runs.one (A : Nat → Int) (n : Nat) : Runs A n 1 := fun _ _ h => absurd (Nat.mod_one _) h

theorem Runs.whole {A : Nat → Int} {n w : Nat} (h : Runs A n w) (hw : ¬ w < n) : Adj A 0 n := fun t _ h1 =>
  h t h1 (by rw [Nat.mod_eq_of_lt (by omega)]; omega)

end Go.Proofs.Qxb6613659a

import Derived.Test.Qxb6613659aObj
import Derived.Test.Qxb6613659aOct
import Derived.ArgAppend
import Derived.Laws.OwnMore
import Derived.Deep.Cut
namespace Go.Proofs.Qxb6613659a
set_option linter.unusedVariables false
open Go.RowKit Go.Deep

theorem info49' : (Try.prog.info? 49).map (fun i => (i.zero, i.size, i.bytes)) = some (some (.agg #[.string ByteArray.empty, .nilIface]), 2, 32) := by kernel_rfl

/-- "unknownExtensions". -/
def unk : ByteArray := ⟨#[117, 110, 107, 110, 111, 119, 110, 69, 120, 116, 101, 110, 115, 105, 111, 110, 115]⟩

/-- One more at the end. -/
def snoc {α : Type} (f : Nat → α) (n : Nat) (v : α) (i : Nat) : α := if i < n then f i else v
theorem snoc_lt {α : Type} {f : Nat → α} {n i : Nat} {v : α} (h : i < n) : snoc f n v i = f i := if_pos h
theorem snoc_at {α : Type} {f : Nat → α} {n : Nat} {v : α} : snoc f n v n = v := if_neg (by omega)

/-- An object's cells. -/
def objCells (N : Nat → ByteArray) (F : Nat → Value) (n : Nat) : List Value := (List.range (n * 2)).map fun j => if j % 2 = 0 then .string (N (j / 2)) else F (j / 2)

theorem objCells_length (N : Nat → ByteArray) (F : Nat → Value) (n : Nat) : (objCells N F n).length = n * 2 := by simp [objCells]
theorem objCells_at {N : Nat → ByteArray} {F : Nat → Value} {n j : Nat} (h : j < n * 2) : (objCells N F n)[j]? = some (if j % 2 = 0 then .string (N (j / 2)) else F (j / 2)) := by
  simp [objCells, h]

theorem ObjAt.olds {w : World} {a : Option Addr} {n : Nat} {N : Nat → ByteArray} {F : Nat → Value} (h : ObjAt w a n N F) :
    ∀ b, a = some b → ∀ (j : Nat) (u : Value), (objCells N F n)[j]? = some u → w.cell? (b.add j) = some u := by
  intro b hb j u hu
  have hj : j < n * 2 := by
    have := (List.getElem?_eq_some_iff.1 hu).1
    rwa [objCells_length] at this
  rw [objCells_at hj] at hu
  obtain ⟨b', off, e, h1, h2⟩ := h (j / 2) (by omega)
  rw [e] at hb
  obtain rfl : (⟨b', off, none⟩ : Addr) = b := by simpa using hb
  rw [Go.Addr.add_lit]
  by_cases h0 : j % 2 = 0
  · rw [if_pos h0] at hu
    rw [← hu, ← h1, show off + j / 2 * 2 = off + j by omega]
  · rw [if_neg h0] at hu
    rw [← hu, ← h2, show off + j / 2 * 2 + 1 = off + j by omega]

theorem obj_of_owns {w : World} {base g n cap : Nat} {N : Nat → ByteArray} {F : Nat → Value} {s : ByteArray} {v : Value} (h : w.ownsRow base 49 2 (.slice (some ⟨g, 0, none⟩) (n + 1) cap) (n + 1) (objCells N F n ++ [.string s, v])) :
    ObjAt w (some ⟨g, 0, none⟩) (n + 1) (snoc N n s) (snoc F n v) := by
  intro i hi
  refine ⟨g, 0, rfl, ?_, ?_⟩
  · rw [Nat.zero_add, h.cellAt (i * 2) (by omega)]
    by_cases e : i < n
    · rw [List.getElem?_append_left (by rw [objCells_length]; omega), objCells_at (by omega), if_pos (by omega), show i * 2 / 2 = i by omega, snoc_lt e]
    · obtain rfl : i = n := by omega
      rw [List.getElem?_append_right (by rw [objCells_length]; omega), objCells_length, Nat.sub_self, snoc_at]; rfl
  · rw [Nat.zero_add, h.cellAt (i * 2 + 1) (by omega)]
    by_cases e : i < n
    · rw [List.getElem?_append_left (by rw [objCells_length]; omega), objCells_at (by omega), if_neg (by omega), show (i * 2 + 1) / 2 = i by omega, snoc_lt e]
    · obtain rfl : i = n := by omega
      rw [List.getElem?_append_right (by rw [objCells_length]; omega), objCells_length, show i * 2 + 1 - i * 2 = 1 by omega, snoc_at]; rfl

/-- What keepUnknown answers where there are unknown elements. -/
def Kept (w w' : World) (n : Nat) (N : Nat → ByteArray) (F : Nat → Value) (v : Value) (e : Ending) : Prop :=
  ∃ g cap, e = .returned (.slice (some ⟨g, 0, none⟩) (n + 1) cap) ∧ ObjAt w' (some ⟨g, 0, none⟩) (n + 1) (snoc N n unk) (snoc F n v) ∧ Below w.heap.size w w'

set_option maxHeartbeats 1000000 in
theorem keep_some (x : Addr) (u : Option Addr) (n m cu : Nat) (N : Nat → ByteArray) (F : Nat → Value) (w : World) (ho : ObjAt w (some x) n N F) (hn : n ≤ 65536) (hm0 : 0 < m) :
    Calls Try.prog 35 #[.slice (some x) n n, .slice u m cu] w fun e w' => Kept w w' n N F (.iface 36 (.slice u m cu)) e := by
  obtain ⟨ti, hti, he⟩ := Option.map_eq_some_iff.1 info49'
  simp only [Prod.mk.injEq] at he
  obtain ⟨hz, hs, hb⟩ := he
  have hbt : Below w.heap.size w (w.alloc (.cells #[.string unk, .iface 36 (.slice u m cu)] 49)) := (Below.refl _ _).alloc (Nat.le_refl _) _
  have ho' := ho.below hbt
  have hmne : ((m : Int) == 0) = false := beq_eq_false_iff_ne.2 (by omega)
  have H1 : Hid (Try.prog.info? 49 = some ti) := hti
  have H2 : Hid (ti.zero = some (.agg #[.string ByteArray.empty, .nilIface])) := hz
  have H3 : Hid (ti.size = 2) := hs
  have H4 : Hid (ti.bytes = 32) := hb
  clear hti hz hs hb
  go_enter Try.func35, Try.ntmps35
  go_wp2_with (at_builtin; refine wpList_append_grows _ rfl (.tmp 9) (.tmp 13) 26 rfl 49 ti _ 2 32 Try.underlying26 H1.out H2.out H3.out H4.out rfl (by omega) (some x) n n (objCells N F n) rfl (fun h => by cases h) (objCells_length _ _ _) ho'.olds ⟨w.heap.size, 0, none⟩ 1 1 [.string unk, .iface 36 (.slice u m cu)] rfl rfl ?hc ?h1c (by omega) (by unfold maxLen; omega) (by omega) ?hK)
  case hc =>
    intro j v hv
    match j, hv with
    | 0, hv => simp at hv; subst hv; simp [go_sem, unk]
    | 1, hv => simp at hv; subst hv; simp [go_sem]
    | j + 2, hv => simp at hv
  case h1c =>
    intro v hv
    simp at hv
    rcases hv with rfl | rfl <;> rfl
  intro v' w1 hown hgr
  have hb1 : Below w.heap.size w w1 := hbt.grown hgr (by simp) (fun k hk => by cases hk)
  obtain ⟨g, c2, hv'⟩ : ∃ g c2, v' = .slice (some ⟨g, 0, none⟩) (n + 1) c2 := by
    rcases hown.2 with ⟨_, h0⟩ | ⟨g, c2, _, hv, _⟩
    · omega
    · exact ⟨g, c2, hv⟩
  rw [hv'] at hown ⊢
  have hobj := obj_of_owns hown
  clear hown hgr hbt ho ho' hv'
  go_wp2_with fail
  go_ret
  exact ⟨g, c2, rfl, hobj, hb1⟩

set_option maxHeartbeats 400000 in
theorem zzKeep_some (x : Addr) (u : Option Addr) (n m cu : Nat) (N : Nat → ByteArray) (F : Nat → Value) (w : World) (ho : ObjAt w (some x) n N F) (hn : n ≤ 65536) (hm0 : 0 < m) :
    Calls Try.prog 16 #[.slice (some x) n n, .slice u m cu] w fun e w' => Kept w w' n N F (.iface 36 (.slice u m cu)) e := by
  go_enter Try.func16, Try.ntmps16
  go_wp2_with fail
  refine (keep_some x u n m cu N F _ ho hn hm0).mono ?_
  rintro e w1 ⟨g, c2, rfl, h1, h2⟩
  clear ho
  go_wp2_with fail
  go_ret
  exact ⟨g, c2, rfl, h1, h2⟩

set_option maxHeartbeats 400000 in
theorem zzKeep_none (x : Addr) (u : Option Addr) (n cu : Nat) (w : World) :
    Calls Try.prog 16 #[.slice (some x) n n, .slice u 0 cu] w fun e w' => e = .returned (.slice (some x) n n) ∧ w' = w := by
  go_enter Try.func16, Try.ntmps16
  go_wp2
  go_ret
  exact ⟨rfl, rfl⟩

theorem oct_not_int (u : Option Addr) (m cu : Nat) (w : World) : (Instr.typeAssert (.iface 36 (.slice u m cu)) 47 2 true).run Try.prog w = .ok (.tuple #[.int .i64 0, .bool false]) w := by kernel_rfl
theorem int_not_oct (v : Int) (w : World) : (Instr.typeAssert (.iface 2 (.int .i64 v)) 47 36 true).run Try.prog w = .ok (.tuple #[.slice none 0 0, .bool false]) w := by kernel_rfl
theorem oct_is_oct (u : Option Addr) (m cu : Nat) (w : World) : (Instr.typeAssert (.iface 36 (.slice u m cu)) 47 36 true).run Try.prog w = .ok (.tuple #[.slice u m cu, .bool true]) w := by kernel_rfl
theorem oct_ne_nil (u : Option Addr) (m cu : Nat) (w : World) : (binOp .eql 47 (.iface 36 (.slice u m cu)) .nilIface).run Try.prog w = .ok (.bool false) w := by kernel_rfl

/-- The i-th member's two cells. -/
theorem ObjAt.val {w : World} {a : Option Addr} {n : Nat} {N : Nat → ByteArray} {F : Nat → Value} (h : ObjAt w a n N F) {i : Nat} (hi : i < n) {v : Value} (hv : F i = v) :
    ∃ b off, a = some ⟨b, off, none⟩ ∧ w.cell? ⟨b, off + i * 2, none⟩ = some (.string (N i)) ∧ w.cell? ⟨b, off + i * 2 + 1, none⟩ = some v := by
  obtain ⟨b, off, h1, h2, h3⟩ := h i hi
  exact ⟨b, off, h1, h2, by rw [h3, hv]⟩

set_option maxHeartbeats 400000 in
/-- ZZmemberInt64 on an INTEGER. -/
theorem memberInt_int (a : Option Addr) (n cap i : Nat) (N : Nat → ByteArray) (F : Nat → Value) (v : Int) (w : World) (h : ObjAt w a n N F) (hn : n ≤ 65537) (hi : i < n) (hv : F i = .iface 2 (.int .i64 v)) :
    Calls Try.prog 22 #[.slice a n cap, .int .i64 i] w fun e w' => e = .returned (.tuple #[.int .i64 v, .bool true]) ∧ w' = w := by
  obtain ⟨b, off, rfl, h1, h2⟩ := h.val hi hv
  clear h hv
  have ht := held_int v
  go_enter Try.func22, Try.ntmps22
  go_wp2
  go_ret2
  exact ⟨rfl, rfl⟩

set_option maxHeartbeats 400000 in
/-- ZZmemberInt64 on a list of octets. -/
theorem memberInt_oct (a u : Option Addr) (n cap i m cu : Nat) (N : Nat → ByteArray) (F : Nat → Value) (w : World) (h : ObjAt w a n N F) (hn : n ≤ 65537) (hi : i < n) (hv : F i = .iface 36 (.slice u m cu)) :
    Calls Try.prog 22 #[.slice a n cap, .int .i64 i] w fun e w' => e = .returned (.tuple #[.int .i64 0, .bool false]) ∧ w' = w := by
  obtain ⟨b, off, rfl, h1, h2⟩ := h.val hi hv
  clear h hv
  have ht := oct_not_int u m cu
  go_enter Try.func22, Try.ntmps22
  go_wp2
  go_ret2
  exact ⟨rfl, rfl⟩

set_option maxHeartbeats 400000 in
/-- ZZmemberOctets on a list of octets. -/
theorem memberOct_oct (a u : Option Addr) (n cap i m cu : Nat) (N : Nat → ByteArray) (F : Nat → Value) (w : World) (h : ObjAt w a n N F) (hn : n ≤ 65537) (hi : i < n) (hv : F i = .iface 36 (.slice u m cu)) :
    Calls Try.prog 23 #[.slice a n cap, .int .i64 i] w fun e w' => e = .returned (.tuple #[.slice u m cu, .bool true]) ∧ w' = w := by
  obtain ⟨b, off, rfl, h1, h2⟩ := h.val hi hv
  clear h hv
  have ht := oct_is_oct u m cu
  go_enter Try.func23, Try.ntmps23
  go_wp2
  go_ret2
  exact ⟨rfl, rfl⟩

theorem ObjAt.same {w w' : World} {a : Option Addr} {n : Nat} {N : Nat → ByteArray} {F : Nat → Value} (h : ObjAt w a n N F) (e : w'.heap = w.heap) : ObjAt w' a n N F := by
  intro i hi
  obtain ⟨b, off, hx, h1, h2⟩ := h i hi
  exact ⟨b, off, hx, by rw [← h1]; simp [World.cell?, e], by rw [← h2]; simp [World.cell?, e]⟩

theorem OctsAt.same {w w' : World} {u : Option Addr} {m : Nat} {A : Nat → Option Addr} {L C : Nat → Nat} {X : Nat → Nat → Int} (h : OctsAt w u m A L C X) (e : w'.heap = w.heap) : OctsAt w' u m A L C X := by
  intro i hi
  obtain ⟨⟨b, off, hx, h1⟩, h2⟩ := h i hi
  exact ⟨⟨b, off, hx, by rw [← h1]; simp [World.cell?, e]⟩, h2.same e⟩

set_option maxHeartbeats 1000000 in
/-- sameMemberAt on two INTEGERs of one name. -/
theorem sameMember_int (x y : Option Addr) (n m cx cy i j : Nat) (N1 N2 : Nat → ByteArray) (F1 F2 : Nat → Value) (v : Int) (w : World) (hx : ObjAt w x n N1 F1) (hy : ObjAt w y m N2 F2) (hn : n ≤ 65537) (hm : m ≤ 65537) (hi : i < n) (hj : j < m)
    (hN : N1 i = N2 j) (h1 : F1 i = .iface 2 (.int .i64 v)) (h2 : F2 j = .iface 2 (.int .i64 v)) :
    Calls Try.prog 21 #[.slice x n cx, .int .i64 i, .slice y m cy, .int .i64 j] w fun e w' => e = .returned (.bool true) ∧ ∃ d, w' = w.drewN d := by
  obtain ⟨b1, o1, ex, g1, -⟩ := hx.val hi h1
  obtain ⟨b2, o2, ey, g2, -⟩ := hy.val hj h2
  rw [← hN] at g2
  have H1 : Hid (F1 i = .iface 2 (.int .i64 v)) := h1
  have H2 : Hid (F2 j = .iface 2 (.int .i64 v)) := h2
  clear h1 h2 hN
  subst ex ey
  have hin : (i : Int) < n := by omega
  have hjm : (j : Int) < m := by omega
  go_enter Try.func21, Try.ntmps21
  go_wp2_with fail
  go_quiet (fail)
  go_wp2_with fail
  refine (memberInt_int _ n cx i N1 F1 v _ (by exact hx.same rfl) hn hi H1.out).mono ?_
  rintro e w' ⟨rfl, rfl⟩
  go_wp2_with fail
  refine (memberInt_int _ m cy j N2 F2 v _ (by exact hy.same rfl) hm hj H2.out).mono ?_
  rintro e w' ⟨rfl, rfl⟩
  clear hx hy g1 g2
  go_wp2_with fail
  go_ret
  exact ⟨rfl, _, rfl⟩

set_option maxHeartbeats 1000000 in
/-- sameMemberAt on two lists of octets of one name. -/
theorem sameMember_oct (x y u1 u2 : Option Addr) (n m cx cy i j k c1 c2 : Nat) (N1 N2 : Nat → ByteArray) (F1 F2 : Nat → Value) (A1 A2 : Nat → Option Addr) (L C1 C2 : Nat → Nat) (X : Nat → Nat → Int) (w : World)
    (hx : ObjAt w x n N1 F1) (hy : ObjAt w y m N2 F2) (hn : n ≤ 65537) (hm : m ≤ 65537) (hi : i < n) (hj : j < m)
    (hN : N1 i = N2 j) (h1 : F1 i = .iface 36 (.slice u1 k c1)) (h2 : F2 j = .iface 36 (.slice u2 k c2)) (ho1 : OctsAt w u1 k A1 L C1 X) (ho2 : OctsAt w u2 k A2 L C2 X) (hk : k ≤ 65536) (hl : ∀ i, i < k → L i ≤ 1048576) :
    Calls Try.prog 21 #[.slice x n cx, .int .i64 i, .slice y m cy, .int .i64 j] w fun e w' => e = .returned (.bool true) ∧ ∃ d, w' = w.drewN d := by
  obtain ⟨b1, o1, ex, g1, -⟩ := hx.val hi h1
  obtain ⟨b2, o2, ey, g2, -⟩ := hy.val hj h2
  rw [← hN] at g2
  have H1 : Hid (F1 i = .iface 36 (.slice u1 k c1)) := h1
  have H2 : Hid (F2 j = .iface 36 (.slice u2 k c2)) := h2
  clear h1 h2 hN
  subst ex ey
  have hin : (i : Int) < n := by omega
  have hjm : (j : Int) < m := by omega
  go_enter Try.func21, Try.ntmps21
  go_wp2_with fail
  go_quiet (fail)
  go_wp2_with fail
  refine (memberInt_oct _ u1 n cx i k c1 N1 F1 _ (by exact hx.same rfl) hn hi H1.out).mono ?_
  rintro e w' ⟨rfl, rfl⟩
  go_wp2_with fail
  refine (memberInt_oct _ u2 m cy j k c2 N2 F2 _ (by exact hy.same rfl) hm hj H2.out).mono ?_
  rintro e w' ⟨rfl, rfl⟩
  clear g1 g2
  go_wp2_with fail
  refine (memberOct_oct _ u1 n cx i k c1 N1 F1 _ (by exact hx.same rfl) hn hi H1.out).mono ?_
  rintro e w' ⟨rfl, rfl⟩
  go_wp2_with fail
  refine (memberOct_oct _ u2 m cy j k c2 N2 F2 _ (by exact hy.same rfl) hm hj H2.out).mono ?_
  rintro e w' ⟨rfl, rfl⟩
  clear hx hy
  go_wp2_with fail
  refine (sameOctetLists_any u1 u2 k c1 c2 A1 A2 L C1 C2 X _ (by exact ho1.same rfl) (by exact ho2.same rfl) hk hl).mono ?_
  rintro e w' ⟨rfl, d, rfl⟩
  clear ho1 ho2 hl
  go_wp2_with fail
  go_ret
  exact ⟨rfl, _, rfl⟩

set_option maxHeartbeats 400000 in
/-- ZZgetOctets where the first member so named is a list of octets. -/
theorem getOct_oct (a u : Option Addr) (n cap k m cu : Nat) (N : Nat → ByteArray) (F : Nat → Value) (nm : ByteArray) (w : World) (h : ObjAt w a n N F) (hn : n ≤ 65537) (HK : Hid (find (named N nm) 0 n = (k : Int))) (HV : Hid (F k = .iface 36 (.slice u m cu))) :
    Calls Try.prog 18 #[.slice a n cap, .string nm] w fun e w' => e = .returned (.tuple #[.slice u m cu, .bool true]) ∧ Below w.heap.size w w' := by
  have HG : Hid (gotten F (find (named N nm) 0 n) = .iface 36 (.slice u m cu)) := by
    show _ = _
    rw [HK.out, gotten_nat, HV.out]
  have ht := oct_is_oct u m cu
  go_enter Try.func18, Try.ntmps18
  go_wp2_with fail
  refine (get_any a n cap N F nm _ h hn).mono ?_
  rintro e w1 ⟨rfl, hb1⟩
  rw [HG.out]
  clear h
  go_wp2_with fail
  go_ret2
  exact ⟨rfl, hb1⟩

set_option maxHeartbeats 400000 in
/-- ZZgetInt64 where the first member so named is a list of octets. -/
theorem getInt_oct (a u : Option Addr) (n cap k m cu : Nat) (N : Nat → ByteArray) (F : Nat → Value) (nm : ByteArray) (w : World) (h : ObjAt w a n N F) (hn : n ≤ 65537) (HK : Hid (find (named N nm) 0 n = (k : Int))) (HV : Hid (F k = .iface 36 (.slice u m cu))) :
    Calls Try.prog 11 #[.slice a n cap, .string nm] w fun e w' => e = .returned (.tuple #[.int .i64 0, .bool false, .bool false]) ∧ Below w.heap.size w w' := by
  have HG : Hid (gotten F (find (named N nm) 0 n) = .iface 36 (.slice u m cu)) := by
    show _ = _
    rw [HK.out, gotten_nat, HV.out]
  have ht := oct_not_int u m cu
  have he := oct_ne_nil u m cu
  go_enter Try.func11, Try.ntmps11
  go_wp2_with fail
  refine (get_any a n cap N F nm _ h hn).mono ?_
  rintro e w1 ⟨rfl, hb1⟩
  rw [HG.out]
  clear h
  go_wp2_with fail
  go_ret3
  exact ⟨rfl, hb1⟩
end Go.Proofs.Qxb6613659a

import Derived.Test.Qxb6613659aBase
import Derived.Deep.SlicePairs
import Derived.ChangeOld
namespace Go.Proofs.Qxb6613659a
set_option linter.unusedVariables false
open Go.RowKit Go.Deep Go.ChangeShapes Go.WideShapes Go.ChangeAt

theorem cells39 : Try.prog.cellsOf 39 = 2 := by kernel_rfl
theorem cells9 : Try.prog.cellsOf 9 = 1 := by kernel_rfl
theorem cells2 : Try.prog.cellsOf 2 = 1 := by kernel_rfl

def strOf : Value → ByteArray | .string s => s | _ => ByteArray.empty

/-- The members that came in. -/
theorem open_pairs {H : Type} {enc : TypeId × Value → H} {W : World} {fuel len cap : Nat} {a : Option Addr} {x : DataW H × List MemPlace}
    (hf : DataW.trod enc Try.prog W 0 (fun _ => true) true fuel 22 (Value.cells (.slice a len cap)).toList = some x) :
    ∃ N V, PairsAt W a len N V ∧ len ≤ maxLen ∧ len ≤ cap := by
  rcases open_slice_pairs Try.underlying22 Try.underlying39 cells39 rfl rfl cells9 cells2 hf with ⟨hcs, _⟩ | ⟨x, l, c, m, n, V0, V1, D0, D1, P0, P1, hcs, _, hl, hm, hmm, _, hel⟩
  · simp [Value.cells] at hcs
    obtain ⟨rfl, rfl, rfl⟩ := hcs
    exact ⟨fun _ => ByteArray.empty, fun _ => 0, fun i hi => by omega, by omega, by omega⟩
  · simp [Value.cells] at hcs
    obtain ⟨rfl, rfl, rfl⟩ := hcs
    simp only [if_true] at hmm
    refine ⟨fun i => strOf (V0 i), fun i => intOf (V1 i), fun i hi => ?_, by omega, hl⟩
    obtain ⟨h1, h2, h3, h4⟩ := hel i (by omega)
    obtain ⟨s, e1, _, _⟩ := DataW.trod_string Try.underlying9 h3
    obtain ⟨z, e2, _, _⟩ := DataW.trod_int Try.underlying2 h4
    simp only [List.cons.injEq, and_true] at e1 e2
    have h0 := (hel 0 (by omega)).1
    obtain ⟨b, off, spot⟩ := x
    have hspot : spot = none := by simpa [Addr.add] using World.cell?_spot h0
    subst hspot
    rw [Go.WideShapes.add_plain, e1] at h1
    rw [Go.WideShapes.add_plain, e2] at h2
    exact ⟨b, off, rfl, by show _ = some (Value.string (strOf (V0 i))); rw [e1]; exact h1, by show _ = some (Value.int .i64 (intOf (V1 i))); rw [e2]; exact h2⟩
end Go.Proofs.Qxb6613659a

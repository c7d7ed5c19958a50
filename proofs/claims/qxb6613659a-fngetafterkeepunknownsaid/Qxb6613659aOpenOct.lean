import Derived.Test.Qxb6613659aOct
import Derived.Deep.Matrix
import Derived.ChangeOld
namespace Go.Proofs.Qxb6613659a
set_option linter.unusedVariables false
open Go.RowKit Go.Deep Go.ChangeShapes Go.WideShapes Go.ChangeAt

theorem cells66 : Try.prog.cellsOf 66 = 1 := by kernel_rfl
theorem cells5 : Try.prog.cellsOf 5 = 1 := by kernel_rfl

/-- The unknown elements that came in. -/
theorem open_octs {H : Type} {enc : TypeId × Value → H} {W : World} {fuel len cap : Nat} {a : Option Addr} {x : DataW H × List MemPlace}
    (hf : DataW.trod enc Try.prog W 0 (fun _ => true) true fuel 32 (Value.cells (.slice a len cap)).toList = some x) :
    ∃ A L C X, OctsAt W a len A L C X := by
  rcases open_int_rows Try.underlying32 Try.underlying66 Try.underlying5 cells66 cells5 hf with ⟨hcs, _⟩ | ⟨y, l, c, A, L, C, Z, hcs, _, hl, hm, _, hel⟩
  · simp [Value.cells] at hcs
    obtain ⟨rfl, rfl, rfl⟩ := hcs
    exact ⟨fun _ => none, fun _ => 0, fun _ => 0, fun _ _ => 0, fun i hi => by omega⟩
  · simp [Value.cells] at hcs
    obtain ⟨rfl, rfl, rfl⟩ := hcs
    refine ⟨A, L, C, fun i j => (Z i).getD j 0, fun i hi => ?_⟩
    obtain ⟨h1, h2, h3, h4, h5, h6, h7⟩ := hel i (by omega)
    refine ⟨?_, fun j hj => ?_⟩
    · have h0 := (hel 0 (by omega)).1
      obtain ⟨b, off, spot⟩ := y
      have hspot : spot = none := by simpa [Addr.add] using World.cell?_spot h0
      subst hspot
      rw [Go.WideShapes.add_plain] at h1
      exact ⟨b, off, rfl, h1⟩
    · cases hA : A i with
      | none => have := h6 hA; omega
      | some z =>
        have hz := (h7 z hA).2
        have h0 := hz 0 (by omega)
        obtain ⟨b, off, spot⟩ := z
        have hspot : spot = none := by simpa [Addr.add] using World.cell?_spot h0
        subst hspot
        have hj' := hz j (by omega)
        rw [Go.WideShapes.add_plain] at hj'
        exact ⟨b, off, rfl, hj'⟩
end Go.Proofs.Qxb6613659a

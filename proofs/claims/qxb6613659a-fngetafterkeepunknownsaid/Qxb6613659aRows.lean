/-
  No cell of these rows narrows 'for every input' (looked for: loops, veiled, ifaces, maps, wideKeys, modest, calm, conditions, laid).
  DERIVED. THE GIVEN ROWS OF THIS SEAT. 5 by the template 'for every input the law returns true; each argument reads behind the call as it read before'; 0 by the template 'total and deterministic' (their statements: Qxb6613659aTotals.lean).
  GIVEN WITH THE SEED: the statements are not yours to turn. If you find one false, say at which input.
  Laid BY PROGRAM, IN A SANDBOX (cutbox-rows.mjs): the forced cells as the released guide's own fill.sh prints them over the translation 18b7d7f434aba707… (all of the seat's roots in one cut). By AI agents, Wed Nov 11 2026. No macro, syntax, notation, axiom, sorry.
-/
import Derived.Test.Qxb6613659aChecked
import GoSem.Claim
import GoSem.ClaimJoined
import GoSem.ClaimMapViews
import Derived.JoinedTies
import Derived.KernelRfl
namespace Go.Proofs.Qxb6613659a
/- THE CELL 'sum', in the pinned program and in every row, IS THE sha256 OF THE DUMP (.gsa) THAT Qxb6613659aProg.lean LOADS. Nothing in Lean hashes anything: it is a label: what it is worth is what the hold of that sum in a sandbox is worth. -/
noncomputable def Try.pinned : Pinned := { name := "qxb6613659a", sum := "18b7d7f434aba7078759a10a033f127a8c8478d4ac2b7c3fedfc3a275e7fcbdd", checked := Try.checked }
namespace Rows
def none {H : Type} : Left H := { results := [], args := [] }

/-- 'zzlaws_gsmmap_b1.FnGetAgreesAtAnyCut': WHATEVER THE INPUT: true; the input reads as it did. -/
def fnGetAgreesAtAnyCutSpec : ChangeSpec := { name := "fnGetAgreesAtAnyCut", fn := fun _ => fun
  | [d1, d2, d3] => { results := [.lit (.bool true)], args := [d1, d2, d3] }
  | _ => none }
def fnGetAgreesAtAnyCutRow : OpenClaim := { program := "qxb6613659a", sum := "18b7d7f434aba7078759a10a033f127a8c8478d4ac2b7c3fedfc3a275e7fcbdd", func := "example.com/roamwire/roamwire/zzlaws_gsmmap_b1.FnGetAgreesAtAnyCut", spec := "fnGetAgreesAtAnyCut", unfollowed := true, recurses := true, apart := false }
def FnGetAgreesAtAnyCutSaid : Prop := fnGetAgreesAtAnyCutRow.holds Try.pinned (OpenSpec.ofChange fnGetAgreesAtAnyCutSpec)

/-- ITS FALSE NEIGHBOUR: 'it returns false'. Refute it at one input. -/
def fnGetAgreesAtAnyCutWrong : ChangeSpec := { name := "fnGetAgreesAtAnyCut", fn := fun _ => fun
  | [d1, d2, d3] => { results := [.lit (.bool false)], args := [d1, d2, d3] }
  | _ => none }
def FnGetAgreesAtAnyCutWrongFalsely : Prop := fnGetAgreesAtAnyCutRow.holds Try.pinned (OpenSpec.ofChange fnGetAgreesAtAnyCutWrong)

/-- 'zzlaws_gsmmap_b1.FnGetAfterKeepUnknown': WHATEVER THE INPUT: true; the input reads as it did. -/
def fnGetAfterKeepUnknownSpec : ChangeSpec := { name := "fnGetAfterKeepUnknown", fn := fun _ => fun
  | [d1, d2, d3] => { results := [.lit (.bool true)], args := [d1, d2, d3] }
  | _ => none }
def fnGetAfterKeepUnknownRow : OpenClaim := { program := "qxb6613659a", sum := "18b7d7f434aba7078759a10a033f127a8c8478d4ac2b7c3fedfc3a275e7fcbdd", func := "example.com/roamwire/roamwire/zzlaws_gsmmap_b1.FnGetAfterKeepUnknown", spec := "fnGetAfterKeepUnknown", unfollowed := true, recurses := true, apart := false }
def FnGetAfterKeepUnknownSaid : Prop := fnGetAfterKeepUnknownRow.holds Try.pinned (OpenSpec.ofChange fnGetAfterKeepUnknownSpec)

/-- ITS FALSE NEIGHBOUR: 'it returns false'. Refute it at one input. -/
def fnGetAfterKeepUnknownWrong : ChangeSpec := { name := "fnGetAfterKeepUnknown", fn := fun _ => fun
  | [d1, d2, d3] => { results := [.lit (.bool false)], args := [d1, d2, d3] }
  | _ => none }
def FnGetAfterKeepUnknownWrongFalsely : Prop := fnGetAfterKeepUnknownRow.holds Try.pinned (OpenSpec.ofChange fnGetAfterKeepUnknownWrong)

/-- 'zzlaws_gsmmap_b1.FnKeepUnknownCommutesWithPrefix': WHATEVER THE INPUT: true; the input reads as it did. -/
def fnKeepUnknownCommutesWithPrefixSpec : ChangeSpec := { name := "fnKeepUnknownCommutesWithPrefix", fn := fun _ => fun
  | [d1, d2, d3] => { results := [.lit (.bool true)], args := [d1, d2, d3] }
  | _ => none }
def fnKeepUnknownCommutesWithPrefixRow : OpenClaim := { program := "qxb6613659a", sum := "18b7d7f434aba7078759a10a033f127a8c8478d4ac2b7c3fedfc3a275e7fcbdd", func := "example.com/roamwire/roamwire/zzlaws_gsmmap_b1.FnKeepUnknownCommutesWithPrefix", spec := "fnKeepUnknownCommutesWithPrefix", apart := false }
def FnKeepUnknownCommutesWithPrefixSaid : Prop := fnKeepUnknownCommutesWithPrefixRow.holds Try.pinned (OpenSpec.ofChange fnKeepUnknownCommutesWithPrefixSpec)

/-- ITS FALSE NEIGHBOUR: 'it returns false'. Refute it at one input. -/
def fnKeepUnknownCommutesWithPrefixWrong : ChangeSpec := { name := "fnKeepUnknownCommutesWithPrefix", fn := fun _ => fun
  | [d1, d2, d3] => { results := [.lit (.bool false)], args := [d1, d2, d3] }
  | _ => none }
def FnKeepUnknownCommutesWithPrefixWrongFalsely : Prop := fnKeepUnknownCommutesWithPrefixRow.holds Try.pinned (OpenSpec.ofChange fnKeepUnknownCommutesWithPrefixWrong)

/-- 'zzlaws_gsmmap_b1.FnRequestAgreesAtAnyCut': WHATEVER THE INPUT: true; the input reads as it did. -/
def fnRequestAgreesAtAnyCutSpec : ChangeSpec := { name := "fnRequestAgreesAtAnyCut", fn := fun _ => fun
  | [d1, d2, d3] => { results := [.lit (.bool true)], args := [d1, d2, d3] }
  | _ => none }
def fnRequestAgreesAtAnyCutRow : OpenClaim := { program := "qxb6613659a", sum := "18b7d7f434aba7078759a10a033f127a8c8478d4ac2b7c3fedfc3a275e7fcbdd", func := "example.com/roamwire/roamwire/zzlaws_gsmmap_b1.FnRequestAgreesAtAnyCut", spec := "fnRequestAgreesAtAnyCut", unfollowed := true, recurses := true, apart := false }
def FnRequestAgreesAtAnyCutSaid : Prop := fnRequestAgreesAtAnyCutRow.holds Try.pinned (OpenSpec.ofChange fnRequestAgreesAtAnyCutSpec)

/-- ITS FALSE NEIGHBOUR: 'it returns false'. Refute it at one input. -/
def fnRequestAgreesAtAnyCutWrong : ChangeSpec := { name := "fnRequestAgreesAtAnyCut", fn := fun _ => fun
  | [d1, d2, d3] => { results := [.lit (.bool false)], args := [d1, d2, d3] }
  | _ => none }
def FnRequestAgreesAtAnyCutWrongFalsely : Prop := fnRequestAgreesAtAnyCutRow.holds Try.pinned (OpenSpec.ofChange fnRequestAgreesAtAnyCutWrong)

/-- 'zzlaws_gsmmap_b1.FnRequestFindsAnInsertedRequest': WHATEVER THE INPUT: true; the input reads as it did. -/
def fnRequestFindsAnInsertedRequestSpec : ChangeSpec := { name := "fnRequestFindsAnInsertedRequest", fn := fun _ => fun
  | [d1, d2, d3, d4] => { results := [.lit (.bool true)], args := [d1, d2, d3, d4] }
  | _ => none }
def fnRequestFindsAnInsertedRequestRow : OpenClaim := { program := "qxb6613659a", sum := "18b7d7f434aba7078759a10a033f127a8c8478d4ac2b7c3fedfc3a275e7fcbdd", func := "example.com/roamwire/roamwire/zzlaws_gsmmap_b1.FnRequestFindsAnInsertedRequest", spec := "fnRequestFindsAnInsertedRequest", unfollowed := true, recurses := true, apart := false }
def FnRequestFindsAnInsertedRequestSaid : Prop := fnRequestFindsAnInsertedRequestRow.holds Try.pinned (OpenSpec.ofChange fnRequestFindsAnInsertedRequestSpec)

/-- ITS FALSE NEIGHBOUR: 'it returns false'. Refute it at one input. -/
def fnRequestFindsAnInsertedRequestWrong : ChangeSpec := { name := "fnRequestFindsAnInsertedRequest", fn := fun _ => fun
  | [d1, d2, d3, d4] => { results := [.lit (.bool false)], args := [d1, d2, d3, d4] }
  | _ => none }
def FnRequestFindsAnInsertedRequestWrongFalsely : Prop := fnRequestFindsAnInsertedRequestRow.holds Try.pinned (OpenSpec.ofChange fnRequestFindsAnInsertedRequestWrong)

end Rows
end Go.Proofs.Qxb6613659a

/-
  No cell of these rows narrows 'for every input' (looked for: loops, veiled, ifaces, maps, wideKeys, modest, calm, conditions, laid).
  DERIVED. THE GIVEN ROWS OF THIS SEAT. 8 by the template 'for every input the law returns true; each argument reads behind the call as it read before'; 0 by the template 'total and deterministic' (their statements: Qxb6600671aTotals.lean).
  GIVEN WITH THE SEED: the statements are not yours to turn. If you find one false, say at which input.
  Laid BY PROGRAM, IN A SANDBOX (cutbox-rows.mjs): the forced cells as the released guide's own fill.sh prints them over the translation e944cfd1c385b91f… (all of the seat's roots in one cut). By AI agents, Wed Nov 11 2026. No macro, syntax, notation, axiom, sorry.
-/
import Derived.Test.Qxb6600671aChecked
import GoSem.Claim
import GoSem.ClaimJoined
import GoSem.ClaimMapViews
import Derived.JoinedTies
import Derived.KernelRfl
namespace Go.Proofs.Qxb6600671a
/- THE CELL 'sum', in the pinned program and in every row, IS THE sha256 OF THE DUMP (.gsa) THAT Qxb6600671aProg.lean LOADS. Nothing in Lean hashes anything: it is a label: what it is worth is what the hold of that sum in a sandbox is worth. -/
noncomputable def Try.pinned : Pinned := { name := "qxb6600671a", sum := "e944cfd1c385b91f00793356a731ad6b1ed7c8e98f59568a03f8b080ef14ad59", checked := Try.checked }
namespace Rows
def none {H : Type} : Left H := { results := [], args := [] }

/-- 'zzlaws_pkg_diff_b1.FnCompareMinimalScript': WHATEVER THE INPUT: true; the input reads as it did. -/
def fnCompareMinimalScriptSpec : ChangeSpec := { name := "fnCompareMinimalScript", fn := fun _ => fun
  | [d1, d2] => { results := [.lit (.bool true)], args := [d1, d2] }
  | _ => none }
def fnCompareMinimalScriptRow : OpenClaim := { program := "qxb6600671a", sum := "e944cfd1c385b91f00793356a731ad6b1ed7c8e98f59568a03f8b080ef14ad59", func := "example.com/tessera/tessera/zzlaws_pkg_diff_b1.FnCompareMinimalScript", spec := "fnCompareMinimalScript", unfollowed := true, recurses := true, apart := false }
def FnCompareMinimalScriptSaid : Prop := fnCompareMinimalScriptRow.holds Try.pinned (OpenSpec.ofChange fnCompareMinimalScriptSpec)

/-- ITS FALSE NEIGHBOUR: 'it returns false'. Refute it at one input. -/
def fnCompareMinimalScriptWrong : ChangeSpec := { name := "fnCompareMinimalScript", fn := fun _ => fun
  | [d1, d2] => { results := [.lit (.bool false)], args := [d1, d2] }
  | _ => none }
def FnCompareMinimalScriptWrongFalsely : Prop := fnCompareMinimalScriptRow.holds Try.pinned (OpenSpec.ofChange fnCompareMinimalScriptWrong)

/-- 'zzlaws_pkg_diff_b1.FnCompareHeuristicValid': WHATEVER THE INPUT: true; the input reads as it did. -/
def fnCompareHeuristicValidSpec : ChangeSpec := { name := "fnCompareHeuristicValid", fn := fun _ => fun
  | [d1, d2, d3] => { results := [.lit (.bool true)], args := [d1, d2, d3] }
  | _ => none }
def fnCompareHeuristicValidRow : OpenClaim := { program := "qxb6600671a", sum := "e944cfd1c385b91f00793356a731ad6b1ed7c8e98f59568a03f8b080ef14ad59", func := "example.com/tessera/tessera/zzlaws_pkg_diff_b1.FnCompareHeuristicValid", spec := "fnCompareHeuristicValid", unfollowed := true, recurses := true, apart := false }
def FnCompareHeuristicValidSaid : Prop := fnCompareHeuristicValidRow.holds Try.pinned (OpenSpec.ofChange fnCompareHeuristicValidSpec)

/-- ITS FALSE NEIGHBOUR: 'it returns false'. Refute it at one input. -/
def fnCompareHeuristicValidWrong : ChangeSpec := { name := "fnCompareHeuristicValid", fn := fun _ => fun
  | [d1, d2, d3] => { results := [.lit (.bool false)], args := [d1, d2, d3] }
  | _ => none }
def FnCompareHeuristicValidWrongFalsely : Prop := fnCompareHeuristicValidRow.holds Try.pinned (OpenSpec.ofChange fnCompareHeuristicValidWrong)

/-- 'zzlaws_pkg_diff_b1.FnCompareOnPartAsAlone': WHATEVER THE INPUT: true; the input reads as it did. -/
def fnCompareOnPartAsAloneSpec : ChangeSpec := { name := "fnCompareOnPartAsAlone", fn := fun _ => fun
  | [d1, d2, d3, d4, d5, d6, d7] => { results := [.lit (.bool true)], args := [d1, d2, d3, d4, d5, d6, d7] }
  | _ => none }
def fnCompareOnPartAsAloneRow : OpenClaim := { program := "qxb6600671a", sum := "e944cfd1c385b91f00793356a731ad6b1ed7c8e98f59568a03f8b080ef14ad59", func := "example.com/tessera/tessera/zzlaws_pkg_diff_b1.FnCompareOnPartAsAlone", spec := "fnCompareOnPartAsAlone", unfollowed := true, recurses := true, apart := false }
def FnCompareOnPartAsAloneSaid : Prop := fnCompareOnPartAsAloneRow.holds Try.pinned (OpenSpec.ofChange fnCompareOnPartAsAloneSpec)

/-- ITS FALSE NEIGHBOUR: 'it returns false'. Refute it at one input. -/
def fnCompareOnPartAsAloneWrong : ChangeSpec := { name := "fnCompareOnPartAsAlone", fn := fun _ => fun
  | [d1, d2, d3, d4, d5, d6, d7] => { results := [.lit (.bool false)], args := [d1, d2, d3, d4, d5, d6, d7] }
  | _ => none }
def FnCompareOnPartAsAloneWrongFalsely : Prop := fnCompareOnPartAsAloneRow.holds Try.pinned (OpenSpec.ofChange fnCompareOnPartAsAloneWrong)

/-- 'zzlaws_pkg_diff_b1.FnSplitOnShortestPath': WHATEVER THE INPUT: true; the input reads as it did. -/
def fnSplitOnShortestPathSpec : ChangeSpec := { name := "fnSplitOnShortestPath", fn := fun _ => fun
  | [d1, d2] => { results := [.lit (.bool true)], args := [d1, d2] }
  | _ => none }
def fnSplitOnShortestPathRow : OpenClaim := { program := "qxb6600671a", sum := "e944cfd1c385b91f00793356a731ad6b1ed7c8e98f59568a03f8b080ef14ad59", func := "example.com/tessera/tessera/zzlaws_pkg_diff_b1.FnSplitOnShortestPath", spec := "fnSplitOnShortestPath", unfollowed := true, recurses := true, apart := false }
def FnSplitOnShortestPathSaid : Prop := fnSplitOnShortestPathRow.holds Try.pinned (OpenSpec.ofChange fnSplitOnShortestPathSpec)

/-- ITS FALSE NEIGHBOUR: 'it returns false'. Refute it at one input. -/
def fnSplitOnShortestPathWrong : ChangeSpec := { name := "fnSplitOnShortestPath", fn := fun _ => fun
  | [d1, d2] => { results := [.lit (.bool false)], args := [d1, d2] }
  | _ => none }
def FnSplitOnShortestPathWrongFalsely : Prop := fnSplitOnShortestPathRow.holds Try.pinned (OpenSpec.ofChange fnSplitOnShortestPathWrong)

/-- 'zzlaws_pkg_diff_b1.FnSplitInteriorAnyBound': WHATEVER THE INPUT: true; the input reads as it did. -/
def fnSplitInteriorAnyBoundSpec : ChangeSpec := { name := "fnSplitInteriorAnyBound", fn := fun _ => fun
  | [d1, d2, d3] => { results := [.lit (.bool true)], args := [d1, d2, d3] }
  | _ => none }
def fnSplitInteriorAnyBoundRow : OpenClaim := { program := "qxb6600671a", sum := "e944cfd1c385b91f00793356a731ad6b1ed7c8e98f59568a03f8b080ef14ad59", func := "example.com/tessera/tessera/zzlaws_pkg_diff_b1.FnSplitInteriorAnyBound", spec := "fnSplitInteriorAnyBound", unfollowed := true, recurses := true, apart := false }
def FnSplitInteriorAnyBoundSaid : Prop := fnSplitInteriorAnyBoundRow.holds Try.pinned (OpenSpec.ofChange fnSplitInteriorAnyBoundSpec)

/-- ITS FALSE NEIGHBOUR: 'it returns false'. Refute it at one input. -/
def fnSplitInteriorAnyBoundWrong : ChangeSpec := { name := "fnSplitInteriorAnyBound", fn := fun _ => fun
  | [d1, d2, d3] => { results := [.lit (.bool false)], args := [d1, d2, d3] }
  | _ => none }
def FnSplitInteriorAnyBoundWrongFalsely : Prop := fnSplitInteriorAnyBoundRow.holds Try.pinned (OpenSpec.ofChange fnSplitInteriorAnyBoundWrong)

/-- 'zzlaws_pkg_diff_b1.FnCompactSingleRunExact': WHATEVER THE INPUT: true; the input reads as it did. -/
def fnCompactSingleRunExactSpec : ChangeSpec := { name := "fnCompactSingleRunExact", fn := fun _ => fun
  | [d1, d2, d3] => { results := [.lit (.bool true)], args := [d1, d2, d3] }
  | _ => none }
def fnCompactSingleRunExactRow : OpenClaim := { program := "qxb6600671a", sum := "e944cfd1c385b91f00793356a731ad6b1ed7c8e98f59568a03f8b080ef14ad59", func := "example.com/tessera/tessera/zzlaws_pkg_diff_b1.FnCompactSingleRunExact", spec := "fnCompactSingleRunExact", unfollowed := true, recurses := true, apart := false }
def FnCompactSingleRunExactSaid : Prop := fnCompactSingleRunExactRow.holds Try.pinned (OpenSpec.ofChange fnCompactSingleRunExactSpec)

/-- ITS FALSE NEIGHBOUR: 'it returns false'. Refute it at one input. -/
def fnCompactSingleRunExactWrong : ChangeSpec := { name := "fnCompactSingleRunExact", fn := fun _ => fun
  | [d1, d2, d3] => { results := [.lit (.bool false)], args := [d1, d2, d3] }
  | _ => none }
def FnCompactSingleRunExactWrongFalsely : Prop := fnCompactSingleRunExactRow.holds Try.pinned (OpenSpec.ofChange fnCompactSingleRunExactWrong)

/-- 'zzlaws_pkg_diff_b1.FnCompactKeepsText': WHATEVER THE INPUT: true; the input reads as it did. -/
def fnCompactKeepsTextSpec : ChangeSpec := { name := "fnCompactKeepsText", fn := fun _ => fun
  | [d1, d2, d3] => { results := [.lit (.bool true)], args := [d1, d2, d3] }
  | _ => none }
def fnCompactKeepsTextRow : OpenClaim := { program := "qxb6600671a", sum := "e944cfd1c385b91f00793356a731ad6b1ed7c8e98f59568a03f8b080ef14ad59", func := "example.com/tessera/tessera/zzlaws_pkg_diff_b1.FnCompactKeepsText", spec := "fnCompactKeepsText", unfollowed := true, recurses := true, apart := false }
def FnCompactKeepsTextSaid : Prop := fnCompactKeepsTextRow.holds Try.pinned (OpenSpec.ofChange fnCompactKeepsTextSpec)

/-- ITS FALSE NEIGHBOUR: 'it returns false'. Refute it at one input. -/
def fnCompactKeepsTextWrong : ChangeSpec := { name := "fnCompactKeepsText", fn := fun _ => fun
  | [d1, d2, d3] => { results := [.lit (.bool false)], args := [d1, d2, d3] }
  | _ => none }
def FnCompactKeepsTextWrongFalsely : Prop := fnCompactKeepsTextRow.holds Try.pinned (OpenSpec.ofChange fnCompactKeepsTextWrong)

/-- 'zzlaws_pkg_diff_b1.FnCompactRunsAtLastPlace': WHATEVER THE INPUT: true; the input reads as it did. -/
def fnCompactRunsAtLastPlaceSpec : ChangeSpec := { name := "fnCompactRunsAtLastPlace", fn := fun _ => fun
  | [d1, d2] => { results := [.lit (.bool true)], args := [d1, d2] }
  | _ => none }
def fnCompactRunsAtLastPlaceRow : OpenClaim := { program := "qxb6600671a", sum := "e944cfd1c385b91f00793356a731ad6b1ed7c8e98f59568a03f8b080ef14ad59", func := "example.com/tessera/tessera/zzlaws_pkg_diff_b1.FnCompactRunsAtLastPlace", spec := "fnCompactRunsAtLastPlace", unfollowed := true, recurses := true, apart := false }
def FnCompactRunsAtLastPlaceSaid : Prop := fnCompactRunsAtLastPlaceRow.holds Try.pinned (OpenSpec.ofChange fnCompactRunsAtLastPlaceSpec)

/-- ITS FALSE NEIGHBOUR: 'it returns false'. Refute it at one input. -/
def fnCompactRunsAtLastPlaceWrong : ChangeSpec := { name := "fnCompactRunsAtLastPlace", fn := fun _ => fun
  | [d1, d2] => { results := [.lit (.bool false)], args := [d1, d2] }
  | _ => none }
def FnCompactRunsAtLastPlaceWrongFalsely : Prop := fnCompactRunsAtLastPlaceRow.holds Try.pinned (OpenSpec.ofChange fnCompactRunsAtLastPlaceWrong)

end Rows
end Go.Proofs.Qxb6600671a

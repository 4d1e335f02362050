/-
  No cell of these rows narrows 'for every input' (looked for: loops, veiled, ifaces, maps, wideKeys, modest, calm, conditions, laid).
  DERIVED. THE GIVEN ROWS OF THIS SEAT. 3 by the template 'for every input the law returns true; each argument reads behind the call as it read before'; 0 by the template 'total and deterministic' (their statements: Qxb6600815aTotals.lean).
  GIVEN WITH THE SEED: the statements are not yours to turn. If you find one false, say at which input.
  Laid BY PROGRAM, IN A SANDBOX (cutbox-rows.mjs): the forced cells as the released guide's own fill.sh prints them over the translation 6dde0f23ac2001db… (all of the seat's roots in one cut). By AI agents, Wed Nov 11 2026. No macro, syntax, notation, axiom, sorry.
-/
import Derived.Test.Qxb6600815aChecked
import GoSem.Claim
import GoSem.ClaimJoined
import GoSem.ClaimMapViews
import Derived.JoinedTies
import Derived.KernelRfl
namespace Go.Proofs.Qxb6600815a
/- THE CELL 'sum', in the pinned program and in every row, IS THE sha256 OF THE DUMP (.gsa) THAT Qxb6600815aProg.lean LOADS. Nothing in Lean hashes anything: it is a label: what it is worth is what the hold of that sum in a sandbox is worth. -/
noncomputable def Try.pinned : Pinned := { name := "qxb6600815a", sum := "6dde0f23ac2001db6f26ab78035d38f01e72e74a5667de0ce43e432ea989b0cc", checked := Try.checked }
namespace Rows
def none {H : Type} : Left H := { results := [], args := [] }

/-- 'zzlaws_internal_cve_b1.FnBlockedMatchesSortedMerge': WHATEVER THE INPUT: true; the input reads as it did. -/
def fnBlockedMatchesSortedMergeSpec : ChangeSpec := { name := "fnBlockedMatchesSortedMerge", fn := fun _ => fun
  | [d1, d2] => { results := [.lit (.bool true)], args := [d1, d2] }
  | _ => none }
def fnBlockedMatchesSortedMergeRow : OpenClaim := { program := "qxb6600815a", sum := "6dde0f23ac2001db6f26ab78035d38f01e72e74a5667de0ce43e432ea989b0cc", func := "example.com/strict-sandbox/strict-sandbox/zzlaws_internal_cve_b1.FnBlockedMatchesSortedMerge", spec := "fnBlockedMatchesSortedMerge", apart := false }
def FnBlockedMatchesSortedMergeSaid : Prop := fnBlockedMatchesSortedMergeRow.holds Try.pinned (OpenSpec.ofChange fnBlockedMatchesSortedMergeSpec)

/-- ITS FALSE NEIGHBOUR: 'it returns false'. Refute it at one input. -/
def fnBlockedMatchesSortedMergeWrong : ChangeSpec := { name := "fnBlockedMatchesSortedMerge", fn := fun _ => fun
  | [d1, d2] => { results := [.lit (.bool false)], args := [d1, d2] }
  | _ => none }
def FnBlockedMatchesSortedMergeWrongFalsely : Prop := fnBlockedMatchesSortedMergeRow.holds Try.pinned (OpenSpec.ofChange fnBlockedMatchesSortedMergeWrong)

/-- 'zzlaws_internal_cve_b1.FnBlockedSplitsOverAllowed': WHATEVER THE INPUT: true; the input reads as it did. -/
def fnBlockedSplitsOverAllowedSpec : ChangeSpec := { name := "fnBlockedSplitsOverAllowed", fn := fun _ => fun
  | [d1, d2, d3] => { results := [.lit (.bool true)], args := [d1, d2, d3] }
  | _ => none }
def fnBlockedSplitsOverAllowedRow : OpenClaim := { program := "qxb6600815a", sum := "6dde0f23ac2001db6f26ab78035d38f01e72e74a5667de0ce43e432ea989b0cc", func := "example.com/strict-sandbox/strict-sandbox/zzlaws_internal_cve_b1.FnBlockedSplitsOverAllowed", spec := "fnBlockedSplitsOverAllowed", apart := false }
def FnBlockedSplitsOverAllowedSaid : Prop := fnBlockedSplitsOverAllowedRow.holds Try.pinned (OpenSpec.ofChange fnBlockedSplitsOverAllowedSpec)

/-- ITS FALSE NEIGHBOUR: 'it returns false'. Refute it at one input. -/
def fnBlockedSplitsOverAllowedWrong : ChangeSpec := { name := "fnBlockedSplitsOverAllowed", fn := fun _ => fun
  | [d1, d2, d3] => { results := [.lit (.bool false)], args := [d1, d2, d3] }
  | _ => none }
def FnBlockedSplitsOverAllowedWrongFalsely : Prop := fnBlockedSplitsOverAllowedRow.holds Try.pinned (OpenSpec.ofChange fnBlockedSplitsOverAllowedWrong)

/-- 'zzlaws_internal_cve_b1.FnBlockedSplitsOverSyscalls': WHATEVER THE INPUT: true; the input reads as it did. -/
def fnBlockedSplitsOverSyscallsSpec : ChangeSpec := { name := "fnBlockedSplitsOverSyscalls", fn := fun _ => fun
  | [d1, d2, d3] => { results := [.lit (.bool true)], args := [d1, d2, d3] }
  | _ => none }
def fnBlockedSplitsOverSyscallsRow : OpenClaim := { program := "qxb6600815a", sum := "6dde0f23ac2001db6f26ab78035d38f01e72e74a5667de0ce43e432ea989b0cc", func := "example.com/strict-sandbox/strict-sandbox/zzlaws_internal_cve_b1.FnBlockedSplitsOverSyscalls", spec := "fnBlockedSplitsOverSyscalls", apart := false }
def FnBlockedSplitsOverSyscallsSaid : Prop := fnBlockedSplitsOverSyscallsRow.holds Try.pinned (OpenSpec.ofChange fnBlockedSplitsOverSyscallsSpec)

/-- ITS FALSE NEIGHBOUR: 'it returns false'. Refute it at one input. -/
def fnBlockedSplitsOverSyscallsWrong : ChangeSpec := { name := "fnBlockedSplitsOverSyscalls", fn := fun _ => fun
  | [d1, d2, d3] => { results := [.lit (.bool false)], args := [d1, d2, d3] }
  | _ => none }
def FnBlockedSplitsOverSyscallsWrongFalsely : Prop := fnBlockedSplitsOverSyscallsRow.holds Try.pinned (OpenSpec.ofChange fnBlockedSplitsOverSyscallsWrong)

end Rows
end Go.Proofs.Qxb6600815a

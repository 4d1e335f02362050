/-
  No cell of these rows narrows 'for every input' (looked for: loops, veiled, ifaces, maps, wideKeys, modest, calm, conditions, laid).
  DERIVED. THE GIVEN ROWS OF THIS SEAT. 5 by the template 'for every input the law returns true; each argument reads behind the call as it read before'; 0 by the template 'total and deterministic' (their statements: Qxb6601548aTotals.lean).
  GIVEN WITH THE SEED: the statements are not yours to turn. If you find one false, say at which input.
  Laid BY PROGRAM, IN A SANDBOX (cutbox-rows.mjs): the forced cells as the released guide's own fill.sh prints them over the translation 4b563701ff1cee44… (all of the seat's roots in one cut). By AI agents, Wed Nov 11 2026. No macro, syntax, notation, axiom, sorry.
-/
import Derived.Test.Qxb6601548aChecked
import GoSem.Claim
import GoSem.ClaimJoined
import GoSem.ClaimMapViews
import Derived.JoinedTies
import Derived.KernelRfl
namespace Go.Proofs.Qxb6601548a
/- THE CELL 'sum', in the pinned program and in every row, IS THE sha256 OF THE DUMP (.gsa) THAT Qxb6601548aProg.lean LOADS. Nothing in Lean hashes anything: it is a label: what it is worth is what the hold of that sum in a sandbox is worth. -/
noncomputable def Try.pinned : Pinned := { name := "qxb6601548a", sum := "4b563701ff1cee44000d8e13a38f126570bdddb4cff0b9813d4730783e2414dc", checked := Try.checked }
namespace Rows
def none {H : Type} : Left H := { results := [], args := [] }

/-- 'zzlaws_covering_b1.FnCertifyFitsEveryCapacity': WHATEVER THE INPUT: true; the input reads as it did. -/
def fnCertifyFitsEveryCapacitySpec : ChangeSpec := { name := "fnCertifyFitsEveryCapacity", fn := fun _ => fun
  | [d1, d2, d3, d4, d5, d6] => { results := [.lit (.bool true)], args := [d1, d2, d3, d4, d5, d6] }
  | _ => none }
def fnCertifyFitsEveryCapacityRow : OpenClaim := { program := "qxb6601548a", sum := "4b563701ff1cee44000d8e13a38f126570bdddb4cff0b9813d4730783e2414dc", func := "example.com/morin/morin/zzlaws_covering_b1.FnCertifyFitsEveryCapacity", spec := "fnCertifyFitsEveryCapacity", apart := false }
def FnCertifyFitsEveryCapacitySaid : Prop := fnCertifyFitsEveryCapacityRow.holds Try.pinned (OpenSpec.ofChange fnCertifyFitsEveryCapacitySpec)

/-- ITS FALSE NEIGHBOUR: 'it returns false'. Refute it at one input. -/
def fnCertifyFitsEveryCapacityWrong : ChangeSpec := { name := "fnCertifyFitsEveryCapacity", fn := fun _ => fun
  | [d1, d2, d3, d4, d5, d6] => { results := [.lit (.bool false)], args := [d1, d2, d3, d4, d5, d6] }
  | _ => none }
def FnCertifyFitsEveryCapacityWrongFalsely : Prop := fnCertifyFitsEveryCapacityRow.holds Try.pinned (OpenSpec.ofChange fnCertifyFitsEveryCapacityWrong)

/-- 'zzlaws_covering_b1.FnCertifyExactWhereNothingIsOverfull': WHATEVER THE INPUT: true; the input reads as it did. -/
def fnCertifyExactWhereNothingIsOverfullSpec : ChangeSpec := { name := "fnCertifyExactWhereNothingIsOverfull", fn := fun _ => fun
  | [d1, d2, d3, d4, d5, d6] => { results := [.lit (.bool true)], args := [d1, d2, d3, d4, d5, d6] }
  | _ => none }
def fnCertifyExactWhereNothingIsOverfullRow : OpenClaim := { program := "qxb6601548a", sum := "4b563701ff1cee44000d8e13a38f126570bdddb4cff0b9813d4730783e2414dc", func := "example.com/morin/morin/zzlaws_covering_b1.FnCertifyExactWhereNothingIsOverfull", spec := "fnCertifyExactWhereNothingIsOverfull", apart := false }
def FnCertifyExactWhereNothingIsOverfullSaid : Prop := fnCertifyExactWhereNothingIsOverfullRow.holds Try.pinned (OpenSpec.ofChange fnCertifyExactWhereNothingIsOverfullSpec)

/-- ITS FALSE NEIGHBOUR: 'it returns false'. Refute it at one input. -/
def fnCertifyExactWhereNothingIsOverfullWrong : ChangeSpec := { name := "fnCertifyExactWhereNothingIsOverfull", fn := fun _ => fun
  | [d1, d2, d3, d4, d5, d6] => { results := [.lit (.bool false)], args := [d1, d2, d3, d4, d5, d6] }
  | _ => none }
def FnCertifyExactWhereNothingIsOverfullWrongFalsely : Prop := fnCertifyExactWhereNothingIsOverfullRow.holds Try.pinned (OpenSpec.ofChange fnCertifyExactWhereNothingIsOverfullWrong)

/-- 'zzlaws_covering_b1.FnFtranIsOddAndUsesUpX': WHATEVER THE INPUT: true; the input reads as it did. -/
def fnFtranIsOddAndUsesUpXSpec : ChangeSpec := { name := "fnFtranIsOddAndUsesUpX", fn := fun _ => fun
  | [d1, d2, d3] => { results := [.lit (.bool true)], args := [d1, d2, d3] }
  | _ => none }
def fnFtranIsOddAndUsesUpXRow : OpenClaim := { program := "qxb6601548a", sum := "4b563701ff1cee44000d8e13a38f126570bdddb4cff0b9813d4730783e2414dc", func := "example.com/morin/morin/zzlaws_covering_b1.FnFtranIsOddAndUsesUpX", spec := "fnFtranIsOddAndUsesUpX", apart := false }
def FnFtranIsOddAndUsesUpXSaid : Prop := fnFtranIsOddAndUsesUpXRow.holds Try.pinned (OpenSpec.ofChange fnFtranIsOddAndUsesUpXSpec)

/-- ITS FALSE NEIGHBOUR: 'it returns false'. Refute it at one input. -/
def fnFtranIsOddAndUsesUpXWrong : ChangeSpec := { name := "fnFtranIsOddAndUsesUpX", fn := fun _ => fun
  | [d1, d2, d3] => { results := [.lit (.bool false)], args := [d1, d2, d3] }
  | _ => none }
def FnFtranIsOddAndUsesUpXWrongFalsely : Prop := fnFtranIsOddAndUsesUpXRow.holds Try.pinned (OpenSpec.ofChange fnFtranIsOddAndUsesUpXWrong)

/-- 'zzlaws_covering_b1.FnFtranZIsOutputOnly': WHATEVER THE INPUT: true; the input reads as it did. -/
def fnFtranZIsOutputOnlySpec : ChangeSpec := { name := "fnFtranZIsOutputOnly", fn := fun _ => fun
  | [d1, d2, d3] => { results := [.lit (.bool true)], args := [d1, d2, d3] }
  | _ => none }
def fnFtranZIsOutputOnlyRow : OpenClaim := { program := "qxb6601548a", sum := "4b563701ff1cee44000d8e13a38f126570bdddb4cff0b9813d4730783e2414dc", func := "example.com/morin/morin/zzlaws_covering_b1.FnFtranZIsOutputOnly", spec := "fnFtranZIsOutputOnly", apart := false }
def FnFtranZIsOutputOnlySaid : Prop := fnFtranZIsOutputOnlyRow.holds Try.pinned (OpenSpec.ofChange fnFtranZIsOutputOnlySpec)

/-- ITS FALSE NEIGHBOUR: 'it returns false'. Refute it at one input. -/
def fnFtranZIsOutputOnlyWrong : ChangeSpec := { name := "fnFtranZIsOutputOnly", fn := fun _ => fun
  | [d1, d2, d3] => { results := [.lit (.bool false)], args := [d1, d2, d3] }
  | _ => none }
def FnFtranZIsOutputOnlyWrongFalsely : Prop := fnFtranZIsOutputOnlyRow.holds Try.pinned (OpenSpec.ofChange fnFtranZIsOutputOnlyWrong)

/-- 'zzlaws_covering_b1.FnBtranIsOddAndClearsW': WHATEVER THE INPUT: true; the input reads as it did. -/
def fnBtranIsOddAndClearsWSpec : ChangeSpec := { name := "fnBtranIsOddAndClearsW", fn := fun _ => fun
  | [d1, d2, d3] => { results := [.lit (.bool true)], args := [d1, d2, d3] }
  | _ => none }
def fnBtranIsOddAndClearsWRow : OpenClaim := { program := "qxb6601548a", sum := "4b563701ff1cee44000d8e13a38f126570bdddb4cff0b9813d4730783e2414dc", func := "example.com/morin/morin/zzlaws_covering_b1.FnBtranIsOddAndClearsW", spec := "fnBtranIsOddAndClearsW", apart := false }
def FnBtranIsOddAndClearsWSaid : Prop := fnBtranIsOddAndClearsWRow.holds Try.pinned (OpenSpec.ofChange fnBtranIsOddAndClearsWSpec)

/-- ITS FALSE NEIGHBOUR: 'it returns false'. Refute it at one input. -/
def fnBtranIsOddAndClearsWWrong : ChangeSpec := { name := "fnBtranIsOddAndClearsW", fn := fun _ => fun
  | [d1, d2, d3] => { results := [.lit (.bool false)], args := [d1, d2, d3] }
  | _ => none }
def FnBtranIsOddAndClearsWWrongFalsely : Prop := fnBtranIsOddAndClearsWRow.holds Try.pinned (OpenSpec.ofChange fnBtranIsOddAndClearsWWrong)

end Rows
end Go.Proofs.Qxb6601548a

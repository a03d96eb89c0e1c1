/-
  No cell of these rows narrows 'for every input' (looked for: loops, veiled, ifaces, maps, wideKeys, modest, calm, conditions, laid).
  DERIVED. THE GIVEN ROWS OF THIS SEAT. 4 by the template 'for every input the law returns true; each argument reads behind the call as it read before'; 0 by the template 'total and deterministic' (their statements: Qxb6602842aTotals.lean).
  GIVEN WITH THE SEED: the statements are not yours to turn. If you find one false, say at which input.
  Laid BY PROGRAM, IN A SANDBOX (cutbox-rows.mjs): the forced cells as the released guide's own fill.sh prints them over the translation 682f679ce273904e… (all of the seat's roots in one cut). By AI agents, Wed Nov 11 2026. No macro, syntax, notation, axiom, sorry.
-/
import Derived.Test.Qxb6602842aChecked
import GoSem.Claim
import GoSem.ClaimJoined
import GoSem.ClaimMapViews
import Derived.JoinedTies
import Derived.KernelRfl
namespace Go.Proofs.Qxb6602842a
/- THE CELL 'sum', in the pinned program and in every row, IS THE sha256 OF THE DUMP (.gsa) THAT Qxb6602842aProg.lean LOADS. Nothing in Lean hashes anything: it is a label: what it is worth is what the hold of that sum in a sandbox is worth. -/
noncomputable def Try.pinned : Pinned := { name := "qxb6602842a", sum := "682f679ce273904e824b6395508da8bc9a48e23474fb47e284ce009a692de92b", checked := Try.checked }
namespace Rows
def none {H : Type} : Left H := { results := [], args := [] }

/-- 'zzlaws_aper_b1.FnWriteBitsMatchesBitModel': WHATEVER THE INPUT: true; the input reads as it did. -/
def fnWriteBitsMatchesBitModelSpec : ChangeSpec := { name := "fnWriteBitsMatchesBitModel", fn := fun _ => fun
  | [d1, d2, d3, d4] => { results := [.lit (.bool true)], args := [d1, d2, d3, d4] }
  | _ => none }
def fnWriteBitsMatchesBitModelRow : OpenClaim := { program := "qxb6602842a", sum := "682f679ce273904e824b6395508da8bc9a48e23474fb47e284ce009a692de92b", func := "example.com/iubridge/iubridge/zzlaws_aper_b1.FnWriteBitsMatchesBitModel", spec := "fnWriteBitsMatchesBitModel", apart := false }
def FnWriteBitsMatchesBitModelSaid : Prop := fnWriteBitsMatchesBitModelRow.holds Try.pinned (OpenSpec.ofChange fnWriteBitsMatchesBitModelSpec)

/-- ITS FALSE NEIGHBOUR: 'it returns false'. Refute it at one input. -/
def fnWriteBitsMatchesBitModelWrong : ChangeSpec := { name := "fnWriteBitsMatchesBitModel", fn := fun _ => fun
  | [d1, d2, d3, d4] => { results := [.lit (.bool false)], args := [d1, d2, d3, d4] }
  | _ => none }
def FnWriteBitsMatchesBitModelWrongFalsely : Prop := fnWriteBitsMatchesBitModelRow.holds Try.pinned (OpenSpec.ofChange fnWriteBitsMatchesBitModelWrong)

/-- 'zzlaws_aper_b1.FnWriteBitsSplits': WHATEVER THE INPUT: true; the input reads as it did. -/
def fnWriteBitsSplitsSpec : ChangeSpec := { name := "fnWriteBitsSplits", fn := fun _ => fun
  | [d1, d2, d3, d4, d5] => { results := [.lit (.bool true)], args := [d1, d2, d3, d4, d5] }
  | _ => none }
def fnWriteBitsSplitsRow : OpenClaim := { program := "qxb6602842a", sum := "682f679ce273904e824b6395508da8bc9a48e23474fb47e284ce009a692de92b", func := "example.com/iubridge/iubridge/zzlaws_aper_b1.FnWriteBitsSplits", spec := "fnWriteBitsSplits", apart := false }
def FnWriteBitsSplitsSaid : Prop := fnWriteBitsSplitsRow.holds Try.pinned (OpenSpec.ofChange fnWriteBitsSplitsSpec)

/-- ITS FALSE NEIGHBOUR: 'it returns false'. Refute it at one input. -/
def fnWriteBitsSplitsWrong : ChangeSpec := { name := "fnWriteBitsSplits", fn := fun _ => fun
  | [d1, d2, d3, d4, d5] => { results := [.lit (.bool false)], args := [d1, d2, d3, d4, d5] }
  | _ => none }
def FnWriteBitsSplitsWrongFalsely : Prop := fnWriteBitsSplitsRow.holds Try.pinned (OpenSpec.ofChange fnWriteBitsSplitsWrong)

/-- 'zzlaws_aper_b1.FnWriteLengthCaseTable': WHATEVER THE INPUT: true; the input reads as it did. -/
def fnWriteLengthCaseTableSpec : ChangeSpec := { name := "fnWriteLengthCaseTable", fn := fun _ => fun
  | [d1, d2, d3] => { results := [.lit (.bool true)], args := [d1, d2, d3] }
  | _ => none }
def fnWriteLengthCaseTableRow : OpenClaim := { program := "qxb6602842a", sum := "682f679ce273904e824b6395508da8bc9a48e23474fb47e284ce009a692de92b", func := "example.com/iubridge/iubridge/zzlaws_aper_b1.FnWriteLengthCaseTable", spec := "fnWriteLengthCaseTable", apart := false }
def FnWriteLengthCaseTableSaid : Prop := fnWriteLengthCaseTableRow.holds Try.pinned (OpenSpec.ofChange fnWriteLengthCaseTableSpec)

/-- ITS FALSE NEIGHBOUR: 'it returns false'. Refute it at one input. -/
def fnWriteLengthCaseTableWrong : ChangeSpec := { name := "fnWriteLengthCaseTable", fn := fun _ => fun
  | [d1, d2, d3] => { results := [.lit (.bool false)], args := [d1, d2, d3] }
  | _ => none }
def FnWriteLengthCaseTableWrongFalsely : Prop := fnWriteLengthCaseTableRow.holds Try.pinned (OpenSpec.ofChange fnWriteLengthCaseTableWrong)

/-- 'zzlaws_aper_b1.FnWriteLengthFragmentsReadBack': WHATEVER THE INPUT: true; the input reads as it did. -/
def fnWriteLengthFragmentsReadBackSpec : ChangeSpec := { name := "fnWriteLengthFragmentsReadBack", fn := fun _ => fun
  | [d1, d2, d3] => { results := [.lit (.bool true)], args := [d1, d2, d3] }
  | _ => none }
def fnWriteLengthFragmentsReadBackRow : OpenClaim := { program := "qxb6602842a", sum := "682f679ce273904e824b6395508da8bc9a48e23474fb47e284ce009a692de92b", func := "example.com/iubridge/iubridge/zzlaws_aper_b1.FnWriteLengthFragmentsReadBack", spec := "fnWriteLengthFragmentsReadBack", apart := false }
def FnWriteLengthFragmentsReadBackSaid : Prop := fnWriteLengthFragmentsReadBackRow.holds Try.pinned (OpenSpec.ofChange fnWriteLengthFragmentsReadBackSpec)

/-- ITS FALSE NEIGHBOUR: 'it returns false'. Refute it at one input. -/
def fnWriteLengthFragmentsReadBackWrong : ChangeSpec := { name := "fnWriteLengthFragmentsReadBack", fn := fun _ => fun
  | [d1, d2, d3] => { results := [.lit (.bool false)], args := [d1, d2, d3] }
  | _ => none }
def FnWriteLengthFragmentsReadBackWrongFalsely : Prop := fnWriteLengthFragmentsReadBackRow.holds Try.pinned (OpenSpec.ofChange fnWriteLengthFragmentsReadBackWrong)

end Rows
end Go.Proofs.Qxb6602842a

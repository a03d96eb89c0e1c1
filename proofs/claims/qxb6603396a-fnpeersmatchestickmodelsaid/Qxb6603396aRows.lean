/-
  No cell of these rows narrows 'for every input' (looked for: loops, veiled, ifaces, maps, wideKeys, modest, calm, conditions, laid).
  DERIVED. THE GIVEN ROWS OF THIS SEAT. 3 by the template 'for every input the law returns true; each argument reads behind the call as it read before'; 0 by the template 'total and deterministic' (their statements: Qxb6603396aTotals.lean).
  GIVEN WITH THE SEED: the statements are not yours to turn. If you find one false, say at which input.
  Laid BY PROGRAM, IN A SANDBOX (cutbox-rows.mjs): the forced cells as the released guide's own fill.sh prints them over the translation 2062a7ecff4fd7e6… (all of the seat's roots in one cut). By AI agents, Wed Nov 11 2026. No macro, syntax, notation, axiom, sorry.
-/
import Derived.Test.Qxb6603396aChecked
import GoSem.Claim
import GoSem.ClaimJoined
import GoSem.ClaimMapViews
import Derived.JoinedTies
import Derived.KernelRfl
namespace Go.Proofs.Qxb6603396a
/- THE CELL 'sum', in the pinned program and in every row, IS THE sha256 OF THE DUMP (.gsa) THAT Qxb6603396aProg.lean LOADS. Nothing in Lean hashes anything: it is a label: what it is worth is what the hold of that sum in a sandbox is worth. -/
noncomputable def Try.pinned : Pinned := { name := "qxb6603396a", sum := "2062a7ecff4fd7e61502716f5b5fd45fed0e93d5f2e617315d96788e67e93e39", checked := Try.checked }
namespace Rows
def none {H : Type} : Left H := { results := [], args := [] }

/-- 'zzlaws_root_b1.FnDefaultConfigInDomain': WHATEVER THE INPUT: true; the input reads as it did. -/
def fnDefaultConfigInDomainSpec : ChangeSpec := { name := "fnDefaultConfigInDomain", fn := fun _ => fun
  | [] => { results := [.lit (.bool true)], args := [] }
  | _ => none }
def fnDefaultConfigInDomainRow : OpenClaim := { program := "qxb6603396a", sum := "2062a7ecff4fd7e61502716f5b5fd45fed0e93d5f2e617315d96788e67e93e39", func := "example.com/outpace/outpace/zzlaws_root_b1.FnDefaultConfigInDomain", spec := "fnDefaultConfigInDomain", apart := false }
def FnDefaultConfigInDomainSaid : Prop := fnDefaultConfigInDomainRow.holds Try.pinned (OpenSpec.ofChange fnDefaultConfigInDomainSpec)

/-- ITS FALSE NEIGHBOUR: 'it returns false'. Refute it at one input. -/
def fnDefaultConfigInDomainWrong : ChangeSpec := { name := "fnDefaultConfigInDomain", fn := fun _ => fun
  | [] => { results := [.lit (.bool false)], args := [] }
  | _ => none }
def FnDefaultConfigInDomainWrongFalsely : Prop := fnDefaultConfigInDomainRow.holds Try.pinned (OpenSpec.ofChange fnDefaultConfigInDomainWrong)

/-- 'zzlaws_root_b1.FnPeersMatchesTickModel': WHATEVER THE INPUT: true; the input reads as it did. -/
def fnPeersMatchesTickModelSpec : ChangeSpec := { name := "fnPeersMatchesTickModel", fn := fun _ => fun
  | [d1, d2, d3, d4, d5, d6, d7, d8] => { results := [.lit (.bool true)], args := [d1, d2, d3, d4, d5, d6, d7, d8] }
  | _ => none }
def fnPeersMatchesTickModelRow : OpenClaim := { program := "qxb6603396a", sum := "2062a7ecff4fd7e61502716f5b5fd45fed0e93d5f2e617315d96788e67e93e39", func := "example.com/outpace/outpace/zzlaws_root_b1.FnPeersMatchesTickModel", spec := "fnPeersMatchesTickModel", apart := false }
def FnPeersMatchesTickModelSaid : Prop := fnPeersMatchesTickModelRow.holds Try.pinned (OpenSpec.ofChange fnPeersMatchesTickModelSpec)

/-- ITS FALSE NEIGHBOUR: 'it returns false'. Refute it at one input. -/
def fnPeersMatchesTickModelWrong : ChangeSpec := { name := "fnPeersMatchesTickModel", fn := fun _ => fun
  | [d1, d2, d3, d4, d5, d6, d7, d8] => { results := [.lit (.bool false)], args := [d1, d2, d3, d4, d5, d6, d7, d8] }
  | _ => none }
def FnPeersMatchesTickModelWrongFalsely : Prop := fnPeersMatchesTickModelRow.holds Try.pinned (OpenSpec.ofChange fnPeersMatchesTickModelWrong)

/-- 'zzlaws_root_b1.FnPeersLeavesNoResidue': WHATEVER THE INPUT: true; the input reads as it did. -/
def fnPeersLeavesNoResidueSpec : ChangeSpec := { name := "fnPeersLeavesNoResidue", fn := fun _ => fun
  | [d1, d2, d3, d4, d5, d6, d7, d8, d9] => { results := [.lit (.bool true)], args := [d1, d2, d3, d4, d5, d6, d7, d8, d9] }
  | _ => none }
def fnPeersLeavesNoResidueRow : OpenClaim := { program := "qxb6603396a", sum := "2062a7ecff4fd7e61502716f5b5fd45fed0e93d5f2e617315d96788e67e93e39", func := "example.com/outpace/outpace/zzlaws_root_b1.FnPeersLeavesNoResidue", spec := "fnPeersLeavesNoResidue", apart := false }
def FnPeersLeavesNoResidueSaid : Prop := fnPeersLeavesNoResidueRow.holds Try.pinned (OpenSpec.ofChange fnPeersLeavesNoResidueSpec)

/-- ITS FALSE NEIGHBOUR: 'it returns false'. Refute it at one input. -/
def fnPeersLeavesNoResidueWrong : ChangeSpec := { name := "fnPeersLeavesNoResidue", fn := fun _ => fun
  | [d1, d2, d3, d4, d5, d6, d7, d8, d9] => { results := [.lit (.bool false)], args := [d1, d2, d3, d4, d5, d6, d7, d8, d9] }
  | _ => none }
def FnPeersLeavesNoResidueWrongFalsely : Prop := fnPeersLeavesNoResidueRow.holds Try.pinned (OpenSpec.ofChange fnPeersLeavesNoResidueWrong)

end Rows
end Go.Proofs.Qxb6603396a

/-
  No cell of these rows narrows 'for every input' (looked for: loops, veiled, ifaces, maps, wideKeys, modest, calm, conditions, laid).
  DERIVED. THE GIVEN ROWS OF THIS SEAT. 2 by the template 'for every input the law returns true; each argument reads behind the call as it read before'; 0 by the template 'total and deterministic' (their statements: Qxb6617741aTotals.lean).
  GIVEN WITH THE SEED: the statements are not yours to turn. If you find one false, say at which input.
  Laid BY PROGRAM, IN A SANDBOX (cutbox-rows.mjs): the forced cells as the released guide's own fill.sh prints them over the translation b5ffd13a31f34385… (all of the seat's roots in one cut). By AI agents, Wed Nov 11 2026. No macro, syntax, notation, axiom, sorry.
-/
import Derived.Test.Qxb6617741aChecked
import GoSem.Claim
import GoSem.ClaimJoined
import GoSem.ClaimMapViews
import Derived.JoinedTies
import Derived.KernelRfl
namespace Go.Proofs.Qxb6617741a
/- THE CELL 'sum', in the pinned program and in every row, IS THE sha256 OF THE DUMP (.gsa) THAT Qxb6617741aProg.lean LOADS. Nothing in Lean hashes anything: it is a label: what it is worth is what the hold of that sum in a sandbox is worth. -/
noncomputable def Try.pinned : Pinned := { name := "qxb6617741a", sum := "b5ffd13a31f343855abbd24ab5185347fca62e6417a41aa84458871c18b717c7", checked := Try.checked }
namespace Rows
def none {H : Type} : Left H := { results := [], args := [] }

/-- 'zzlaws_internal_checksum_b1.FnUpdateUndoesItselfAndIsOnesComplementSum': WHATEVER THE INPUT: true; the input reads as it did. -/
def fnUpdateUndoesItselfAndIsOnesComplementSumSpec : ChangeSpec := { name := "fnUpdateUndoesItselfAndIsOnesComplementSum", fn := fun _ => fun
  | [d1, d2, d3] => { results := [.lit (.bool true)], args := [d1, d2, d3] }
  | _ => none }
def fnUpdateUndoesItselfAndIsOnesComplementSumRow : OpenClaim := { program := "qxb6617741a", sum := "b5ffd13a31f343855abbd24ab5185347fca62e6417a41aa84458871c18b717c7", func := "example.com/sealframe/sealframe/zzlaws_internal_checksum_b1.FnUpdateUndoesItselfAndIsOnesComplementSum", spec := "fnUpdateUndoesItselfAndIsOnesComplementSum", apart := false }
def FnUpdateUndoesItselfAndIsOnesComplementSumSaid : Prop := fnUpdateUndoesItselfAndIsOnesComplementSumRow.holds Try.pinned (OpenSpec.ofChange fnUpdateUndoesItselfAndIsOnesComplementSumSpec)

/-- ITS FALSE NEIGHBOUR: 'it returns false'. Refute it at one input. -/
def fnUpdateUndoesItselfAndIsOnesComplementSumWrong : ChangeSpec := { name := "fnUpdateUndoesItselfAndIsOnesComplementSum", fn := fun _ => fun
  | [d1, d2, d3] => { results := [.lit (.bool false)], args := [d1, d2, d3] }
  | _ => none }
def FnUpdateUndoesItselfAndIsOnesComplementSumWrongFalsely : Prop := fnUpdateUndoesItselfAndIsOnesComplementSumRow.holds Try.pinned (OpenSpec.ofChange fnUpdateUndoesItselfAndIsOnesComplementSumWrong)

/-- 'zzlaws_internal_checksum_b1.FnUpdateAgreesWithFullRecompute': WHATEVER THE INPUT: true; the input reads as it did. -/
def fnUpdateAgreesWithFullRecomputeSpec : ChangeSpec := { name := "fnUpdateAgreesWithFullRecompute", fn := fun _ => fun
  | [d1, d2, d3] => { results := [.lit (.bool true)], args := [d1, d2, d3] }
  | _ => none }
def fnUpdateAgreesWithFullRecomputeRow : OpenClaim := { program := "qxb6617741a", sum := "b5ffd13a31f343855abbd24ab5185347fca62e6417a41aa84458871c18b717c7", func := "example.com/sealframe/sealframe/zzlaws_internal_checksum_b1.FnUpdateAgreesWithFullRecompute", spec := "fnUpdateAgreesWithFullRecompute", apart := false }
def FnUpdateAgreesWithFullRecomputeSaid : Prop := fnUpdateAgreesWithFullRecomputeRow.holds Try.pinned (OpenSpec.ofChange fnUpdateAgreesWithFullRecomputeSpec)

/-- ITS FALSE NEIGHBOUR: 'it returns false'. Refute it at one input. -/
def fnUpdateAgreesWithFullRecomputeWrong : ChangeSpec := { name := "fnUpdateAgreesWithFullRecompute", fn := fun _ => fun
  | [d1, d2, d3] => { results := [.lit (.bool false)], args := [d1, d2, d3] }
  | _ => none }
def FnUpdateAgreesWithFullRecomputeWrongFalsely : Prop := fnUpdateAgreesWithFullRecomputeRow.holds Try.pinned (OpenSpec.ofChange fnUpdateAgreesWithFullRecomputeWrong)

end Rows
end Go.Proofs.Qxb6617741a

/-
  No cell of these rows narrows 'for every input' (looked for: loops, veiled, ifaces, maps, wideKeys, modest, calm, conditions, laid).
  DERIVED. THE GIVEN ROWS OF THIS SEAT. 1 by the template 'for every input the law returns true; each argument reads behind the call as it read before'; 0 by the template 'total and deterministic' (their statements: Qxb6617735aTotals.lean).
  GIVEN WITH THE SEED: the statements are not yours to turn. If you find one false, say at which input.
  Laid BY PROGRAM, IN A SANDBOX (cutbox-rows.mjs): the forced cells as the released guide's own fill.sh prints them over the translation 042541f566268464… (all of the seat's roots in one cut). By AI agents, Wed Nov 11 2026. No macro, syntax, notation, axiom, sorry.
-/
import Derived.Test.Qxb6617735aChecked
import GoSem.Claim
import GoSem.ClaimJoined
import GoSem.ClaimMapViews
import Derived.JoinedTies
import Derived.KernelRfl
namespace Go.Proofs.Qxb6617735a
/- THE CELL 'sum', in the pinned program and in every row, IS THE sha256 OF THE DUMP (.gsa) THAT Qxb6617735aProg.lean LOADS. Nothing in Lean hashes anything: it is a label: what it is worth is what the hold of that sum in a sandbox is worth. -/
noncomputable def Try.pinned : Pinned := { name := "qxb6617735a", sum := "042541f566268464daf7859b3057c7c11aba50e008b018dc55ae941d1b1df15a", checked := Try.checked }
namespace Rows
def none {H : Type} : Left H := { results := [], args := [] }

/-- 'zzlaws_internal_ledger_b1.FnHoldingBeforeIsPairOrder': WHATEVER THE INPUT: true; the input reads as it did. -/
def fnHoldingBeforeIsPairOrderSpec : ChangeSpec := { name := "fnHoldingBeforeIsPairOrder", fn := fun _ => fun
  | [d1, d2, d3, d4] => { results := [.lit (.bool true)], args := [d1, d2, d3, d4] }
  | _ => none }
def fnHoldingBeforeIsPairOrderRow : OpenClaim := { program := "qxb6617735a", sum := "042541f566268464daf7859b3057c7c11aba50e008b018dc55ae941d1b1df15a", func := "example.com/zhaomu/zhaomu/zzlaws_internal_ledger_b1.FnHoldingBeforeIsPairOrder", spec := "fnHoldingBeforeIsPairOrder", apart := false }
def FnHoldingBeforeIsPairOrderSaid : Prop := fnHoldingBeforeIsPairOrderRow.holds Try.pinned (OpenSpec.ofChange fnHoldingBeforeIsPairOrderSpec)

/-- ITS FALSE NEIGHBOUR: 'it returns false'. Refute it at one input. -/
def fnHoldingBeforeIsPairOrderWrong : ChangeSpec := { name := "fnHoldingBeforeIsPairOrder", fn := fun _ => fun
  | [d1, d2, d3, d4] => { results := [.lit (.bool false)], args := [d1, d2, d3, d4] }
  | _ => none }
def FnHoldingBeforeIsPairOrderWrongFalsely : Prop := fnHoldingBeforeIsPairOrderRow.holds Try.pinned (OpenSpec.ofChange fnHoldingBeforeIsPairOrderWrong)

end Rows
end Go.Proofs.Qxb6617735a

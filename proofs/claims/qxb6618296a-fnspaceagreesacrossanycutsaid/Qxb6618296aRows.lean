/-
  No cell of these rows narrows 'for every input' (looked for: loops, veiled, ifaces, maps, wideKeys, modest, calm, conditions, laid).
  DERIVED. THE GIVEN ROWS OF THIS SEAT. 2 by the template 'for every input the law returns true; each argument reads behind the call as it read before'; 0 by the template 'total and deterministic' (their statements: Qxb6618296aTotals.lean).
  GIVEN WITH THE SEED: the statements are not yours to turn. If you find one false, say at which input.
  Laid BY PROGRAM, IN A SANDBOX (cutbox-rows.mjs): the forced cells as the released guide's own fill.sh prints them over the translation b0f2bf41e72f5f66… (all of the seat's roots in one cut). By AI agents, Wed Nov 11 2026. No macro, syntax, notation, axiom, sorry.
-/
import Derived.Test.Qxb6618296aChecked
import GoSem.Claim
import GoSem.ClaimJoined
import GoSem.ClaimMapViews
import Derived.JoinedTies
import Derived.KernelRfl
namespace Go.Proofs.Qxb6618296a
/- THE CELL 'sum', in the pinned program and in every row, IS THE sha256 OF THE DUMP (.gsa) THAT Qxb6618296aProg.lean LOADS. Nothing in Lean hashes anything: it is a label: what it is worth is what the hold of that sum in a sandbox is worth. -/
noncomputable def Try.pinned : Pinned := { name := "qxb6618296a", sum := "b0f2bf41e72f5f6616b5697a7326183e90facad9c7d77e8f75c370bd5917a199", checked := Try.checked }
namespace Rows
def none {H : Type} : Left H := { results := [], args := [] }

/-- 'zzlaws_internal_jsonvalue_b1.FnSpaceSkipsExactlyTheWhitespaceRunAndIsIdempotent': WHATEVER THE INPUT: true; the input reads as it did. -/
def fnSpaceSkipsExactlyTheWhitespaceRunAndIsIdempotentSpec : ChangeSpec := { name := "fnSpaceSkipsExactlyTheWhitespaceRunAndIsIdempotent", fn := fun _ => fun
  | [d1, d2, d3, d4] => { results := [.lit (.bool true)], args := [d1, d2, d3, d4] }
  | _ => none }
def fnSpaceSkipsExactlyTheWhitespaceRunAndIsIdempotentRow : OpenClaim := { program := "qxb6618296a", sum := "b0f2bf41e72f5f6616b5697a7326183e90facad9c7d77e8f75c370bd5917a199", func := "example.com/gantry/gantry/zzlaws_internal_jsonvalue_b1.FnSpaceSkipsExactlyTheWhitespaceRunAndIsIdempotent", spec := "fnSpaceSkipsExactlyTheWhitespaceRunAndIsIdempotent", apart := false }
def FnSpaceSkipsExactlyTheWhitespaceRunAndIsIdempotentSaid : Prop := fnSpaceSkipsExactlyTheWhitespaceRunAndIsIdempotentRow.holds Try.pinned (OpenSpec.ofChange fnSpaceSkipsExactlyTheWhitespaceRunAndIsIdempotentSpec)

/-- ITS FALSE NEIGHBOUR: 'it returns false'. Refute it at one input. -/
def fnSpaceSkipsExactlyTheWhitespaceRunAndIsIdempotentWrong : ChangeSpec := { name := "fnSpaceSkipsExactlyTheWhitespaceRunAndIsIdempotent", fn := fun _ => fun
  | [d1, d2, d3, d4] => { results := [.lit (.bool false)], args := [d1, d2, d3, d4] }
  | _ => none }
def FnSpaceSkipsExactlyTheWhitespaceRunAndIsIdempotentWrongFalsely : Prop := fnSpaceSkipsExactlyTheWhitespaceRunAndIsIdempotentRow.holds Try.pinned (OpenSpec.ofChange fnSpaceSkipsExactlyTheWhitespaceRunAndIsIdempotentWrong)

/-- 'zzlaws_internal_jsonvalue_b1.FnSpaceAgreesAcrossAnyCut': WHATEVER THE INPUT: true; the input reads as it did. -/
def fnSpaceAgreesAcrossAnyCutSpec : ChangeSpec := { name := "fnSpaceAgreesAcrossAnyCut", fn := fun _ => fun
  | [d1, d2, d3, d4, d5] => { results := [.lit (.bool true)], args := [d1, d2, d3, d4, d5] }
  | _ => none }
def fnSpaceAgreesAcrossAnyCutRow : OpenClaim := { program := "qxb6618296a", sum := "b0f2bf41e72f5f6616b5697a7326183e90facad9c7d77e8f75c370bd5917a199", func := "example.com/gantry/gantry/zzlaws_internal_jsonvalue_b1.FnSpaceAgreesAcrossAnyCut", spec := "fnSpaceAgreesAcrossAnyCut", apart := false }
def FnSpaceAgreesAcrossAnyCutSaid : Prop := fnSpaceAgreesAcrossAnyCutRow.holds Try.pinned (OpenSpec.ofChange fnSpaceAgreesAcrossAnyCutSpec)

/-- ITS FALSE NEIGHBOUR: 'it returns false'. Refute it at one input. -/
def fnSpaceAgreesAcrossAnyCutWrong : ChangeSpec := { name := "fnSpaceAgreesAcrossAnyCut", fn := fun _ => fun
  | [d1, d2, d3, d4, d5] => { results := [.lit (.bool false)], args := [d1, d2, d3, d4, d5] }
  | _ => none }
def FnSpaceAgreesAcrossAnyCutWrongFalsely : Prop := fnSpaceAgreesAcrossAnyCutRow.holds Try.pinned (OpenSpec.ofChange fnSpaceAgreesAcrossAnyCutWrong)

end Rows
end Go.Proofs.Qxb6618296a

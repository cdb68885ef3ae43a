/-
  No cell of these rows narrows 'for every input' (looked for: loops, veiled, ifaces, maps, wideKeys, modest, calm, conditions, laid).
  DERIVED. THE GIVEN ROWS OF THIS SEAT. 2 by the template 'for every input the law returns true; each argument reads behind the call as it read before'; 0 by the template 'total and deterministic' (their statements: Qxb6617707aTotals.lean).
  GIVEN WITH THE SEED: the statements are not yours to turn. If you find one false, say at which input.
  Laid BY PROGRAM, IN A SANDBOX (cutbox-rows.mjs): the forced cells as the released guide's own fill.sh prints them over the translation 29908bd35819cfc7… (all of the seat's roots in one cut). By AI agents, Wed Nov 11 2026. No macro, syntax, notation, axiom, sorry.
-/
import Derived.Test.Qxb6617707aChecked
import GoSem.Claim
import GoSem.ClaimJoined
import GoSem.ClaimMapViews
import Derived.JoinedTies
import Derived.KernelRfl
namespace Go.Proofs.Qxb6617707a
/- THE CELL 'sum', in the pinned program and in every row, IS THE sha256 OF THE DUMP (.gsa) THAT Qxb6617707aProg.lean LOADS. Nothing in Lean hashes anything: it is a label: what it is worth is what the hold of that sum in a sandbox is worth. -/
noncomputable def Try.pinned : Pinned := { name := "qxb6617707a", sum := "29908bd35819cfc786ed7fbdb2deee610088180c1bff05631328910f8966d261", checked := Try.checked }
namespace Rows
def none {H : Type} : Left H := { results := [], args := [] }

/-- 'zzlaws_ignore_b1.FnMatchTokensAgreesWithSplitModel': WHATEVER THE INPUT: true; the input reads as it did. -/
def fnMatchTokensAgreesWithSplitModelSpec : ChangeSpec := { name := "fnMatchTokensAgreesWithSplitModel", fn := fun _ => fun
  | [d1, d2, d3, d4] => { results := [.lit (.bool true)], args := [d1, d2, d3, d4] }
  | _ => none }
def fnMatchTokensAgreesWithSplitModelRow : OpenClaim := { program := "qxb6617707a", sum := "29908bd35819cfc786ed7fbdb2deee610088180c1bff05631328910f8966d261", func := "example.com/tidemark/tidemark/zzlaws_ignore_b1.FnMatchTokensAgreesWithSplitModel", spec := "fnMatchTokensAgreesWithSplitModel", recurses := true, apart := false }
def FnMatchTokensAgreesWithSplitModelSaid : Prop := fnMatchTokensAgreesWithSplitModelRow.holds Try.pinned (OpenSpec.ofChange fnMatchTokensAgreesWithSplitModelSpec)

/-- ITS FALSE NEIGHBOUR: 'it returns false'. Refute it at one input. -/
def fnMatchTokensAgreesWithSplitModelWrong : ChangeSpec := { name := "fnMatchTokensAgreesWithSplitModel", fn := fun _ => fun
  | [d1, d2, d3, d4] => { results := [.lit (.bool false)], args := [d1, d2, d3, d4] }
  | _ => none }
def FnMatchTokensAgreesWithSplitModelWrongFalsely : Prop := fnMatchTokensAgreesWithSplitModelRow.holds Try.pinned (OpenSpec.ofChange fnMatchTokensAgreesWithSplitModelWrong)

/-- 'zzlaws_ignore_b1.FnMatchTokensSplitsAtAnyCut': WHATEVER THE INPUT: true; the input reads as it did. -/
def fnMatchTokensSplitsAtAnyCutSpec : ChangeSpec := { name := "fnMatchTokensSplitsAtAnyCut", fn := fun _ => fun
  | [d1, d2, d3, d4, d5] => { results := [.lit (.bool true)], args := [d1, d2, d3, d4, d5] }
  | _ => none }
def fnMatchTokensSplitsAtAnyCutRow : OpenClaim := { program := "qxb6617707a", sum := "29908bd35819cfc786ed7fbdb2deee610088180c1bff05631328910f8966d261", func := "example.com/tidemark/tidemark/zzlaws_ignore_b1.FnMatchTokensSplitsAtAnyCut", spec := "fnMatchTokensSplitsAtAnyCut", apart := false }
def FnMatchTokensSplitsAtAnyCutSaid : Prop := fnMatchTokensSplitsAtAnyCutRow.holds Try.pinned (OpenSpec.ofChange fnMatchTokensSplitsAtAnyCutSpec)

/-- ITS FALSE NEIGHBOUR: 'it returns false'. Refute it at one input. -/
def fnMatchTokensSplitsAtAnyCutWrong : ChangeSpec := { name := "fnMatchTokensSplitsAtAnyCut", fn := fun _ => fun
  | [d1, d2, d3, d4, d5] => { results := [.lit (.bool false)], args := [d1, d2, d3, d4, d5] }
  | _ => none }
def FnMatchTokensSplitsAtAnyCutWrongFalsely : Prop := fnMatchTokensSplitsAtAnyCutRow.holds Try.pinned (OpenSpec.ofChange fnMatchTokensSplitsAtAnyCutWrong)

end Rows
end Go.Proofs.Qxb6617707a

/-
  No cell of these rows narrows 'for every input' (looked for: loops, veiled, ifaces, maps, wideKeys, modest, calm, conditions, laid).
  DERIVED. THE GIVEN ROWS OF THIS SEAT. 2 by the template 'for every input the law returns true; each argument reads behind the call as it read before'; 0 by the template 'total and deterministic' (their statements: Qxb6621711aTotals.lean).
  GIVEN WITH THE SEED: the statements are not yours to turn. If you find one false, say at which input.
  Laid BY PROGRAM, IN A SANDBOX (cutbox-rows.mjs): the forced cells as the released guide's own fill.sh prints them over the translation f5bc2150f9c77014… (all of the seat's roots in one cut). By AI agents, Wed Nov 11 2026. No macro, syntax, notation, axiom, sorry.
-/
import Derived.Test.Qxb6621711aChecked
import GoSem.Claim
import GoSem.ClaimJoined
import GoSem.ClaimMapViews
import Derived.JoinedTies
import Derived.KernelRfl
namespace Go.Proofs.Qxb6621711a
/- THE CELL 'sum', in the pinned program and in every row, IS THE sha256 OF THE DUMP (.gsa) THAT Qxb6621711aProg.lean LOADS. Nothing in Lean hashes anything: it is a label: what it is worth is what the hold of that sum in a sandbox is worth. -/
noncomputable def Try.pinned : Pinned := { name := "qxb6621711a", sum := "f5bc2150f9c770141db477f3ab0c3f5c8876878879ecb8b854d7d468c636d796", checked := Try.checked }
namespace Rows
def none {H : Type} : Left H := { results := [], args := [] }

/-- 'zzlaws_root_b1.FnSameTypesIgnoresTextAndIsJudgedByNames': WHATEVER THE INPUT: true; the input reads as it did. -/
def fnSameTypesIgnoresTextAndIsJudgedByNamesSpec : ChangeSpec := { name := "fnSameTypesIgnoresTextAndIsJudgedByNames", fn := fun _ => fun
  | [d1, d2, d3] => { results := [.lit (.bool true)], args := [d1, d2, d3] }
  | _ => none }
def fnSameTypesIgnoresTextAndIsJudgedByNamesRow : OpenClaim := { program := "qxb6621711a", sum := "f5bc2150f9c770141db477f3ab0c3f5c8876878879ecb8b854d7d468c636d796", func := "example.com/bestfit/bestfit/zzlaws_root_b1.FnSameTypesIgnoresTextAndIsJudgedByNames", spec := "fnSameTypesIgnoresTextAndIsJudgedByNames", apart := false }
def FnSameTypesIgnoresTextAndIsJudgedByNamesSaid : Prop := fnSameTypesIgnoresTextAndIsJudgedByNamesRow.holds Try.pinned (OpenSpec.ofChange fnSameTypesIgnoresTextAndIsJudgedByNamesSpec)

/-- ITS FALSE NEIGHBOUR: 'it returns false'. Refute it at one input. -/
def fnSameTypesIgnoresTextAndIsJudgedByNamesWrong : ChangeSpec := { name := "fnSameTypesIgnoresTextAndIsJudgedByNames", fn := fun _ => fun
  | [d1, d2, d3] => { results := [.lit (.bool false)], args := [d1, d2, d3] }
  | _ => none }
def FnSameTypesIgnoresTextAndIsJudgedByNamesWrongFalsely : Prop := fnSameTypesIgnoresTextAndIsJudgedByNamesRow.holds Try.pinned (OpenSpec.ofChange fnSameTypesIgnoresTextAndIsJudgedByNamesWrong)

/-- 'zzlaws_root_b1.FnSameTypesSeesEveryPositionAndLength': WHATEVER THE INPUT: true; the input reads as it did. -/
def fnSameTypesSeesEveryPositionAndLengthSpec : ChangeSpec := { name := "fnSameTypesSeesEveryPositionAndLength", fn := fun _ => fun
  | [d1, d2, d3, d4] => { results := [.lit (.bool true)], args := [d1, d2, d3, d4] }
  | _ => none }
def fnSameTypesSeesEveryPositionAndLengthRow : OpenClaim := { program := "qxb6621711a", sum := "f5bc2150f9c770141db477f3ab0c3f5c8876878879ecb8b854d7d468c636d796", func := "example.com/bestfit/bestfit/zzlaws_root_b1.FnSameTypesSeesEveryPositionAndLength", spec := "fnSameTypesSeesEveryPositionAndLength", apart := false }
def FnSameTypesSeesEveryPositionAndLengthSaid : Prop := fnSameTypesSeesEveryPositionAndLengthRow.holds Try.pinned (OpenSpec.ofChange fnSameTypesSeesEveryPositionAndLengthSpec)

/-- ITS FALSE NEIGHBOUR: 'it returns false'. Refute it at one input. -/
def fnSameTypesSeesEveryPositionAndLengthWrong : ChangeSpec := { name := "fnSameTypesSeesEveryPositionAndLength", fn := fun _ => fun
  | [d1, d2, d3, d4] => { results := [.lit (.bool false)], args := [d1, d2, d3, d4] }
  | _ => none }
def FnSameTypesSeesEveryPositionAndLengthWrongFalsely : Prop := fnSameTypesSeesEveryPositionAndLengthRow.holds Try.pinned (OpenSpec.ofChange fnSameTypesSeesEveryPositionAndLengthWrong)

end Rows
end Go.Proofs.Qxb6621711a

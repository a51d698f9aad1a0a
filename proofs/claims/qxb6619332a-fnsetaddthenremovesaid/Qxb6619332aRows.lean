/-
  No cell of these rows narrows 'for every input' (looked for: loops, veiled, ifaces, maps, wideKeys, modest, calm, conditions, laid).
  DERIVED. THE GIVEN ROWS OF THIS SEAT. 5 by the template 'for every input the law returns true; each argument reads behind the call as it read before'; 0 by the template 'total and deterministic' (their statements: Qxb6619332aTotals.lean).
  GIVEN WITH THE SEED: the statements are not yours to turn. If you find one false, say at which input.
  Laid BY PROGRAM, IN A SANDBOX (cutbox-rows.mjs): the forced cells as the released guide's own fill.sh prints them over the translation 1b0b7ddc562c00a7… (all of the seat's roots in one cut). By AI agents, Wed Nov 11 2026. No macro, syntax, notation, axiom, sorry.
-/
import Derived.Test.Qxb6619332aChecked
import GoSem.Claim
import GoSem.ClaimJoined
import GoSem.ClaimMapViews
import Derived.JoinedTies
import Derived.KernelRfl
namespace Go.Proofs.Qxb6619332a
/- THE CELL 'sum', in the pinned program and in every row, IS THE sha256 OF THE DUMP (.gsa) THAT Qxb6619332aProg.lean LOADS. Nothing in Lean hashes anything: it is a label: what it is worth is what the hold of that sum in a sandbox is worth. -/
noncomputable def Try.pinned : Pinned := { name := "qxb6619332a", sum := "1b0b7ddc562c00a7a369b4be440e125cc8c3938e7af2c74a81d88b86e5e967fa", checked := Try.checked }
namespace Rows
def none {H : Type} : Left H := { results := [], args := [] }

/-- 'zzlaws_swarm_b1.FnSetAddThenRemove': WHATEVER THE INPUT: true; the input reads as it did. -/
def fnSetAddThenRemoveSpec : ChangeSpec := { name := "fnSetAddThenRemove", fn := fun _ => fun
  | [d1, d2, d3, d4] => { results := [.lit (.bool true)], args := [d1, d2, d3, d4] }
  | _ => none }
def fnSetAddThenRemoveRow : OpenClaim := { program := "qxb6619332a", sum := "1b0b7ddc562c00a7a369b4be440e125cc8c3938e7af2c74a81d88b86e5e967fa", func := "example.com/murmuration/murmuration/zzlaws_swarm_b1.FnSetAddThenRemove", spec := "fnSetAddThenRemove", apart := false }
def FnSetAddThenRemoveSaid : Prop := fnSetAddThenRemoveRow.holds Try.pinned (OpenSpec.ofChange fnSetAddThenRemoveSpec)

/-- ITS FALSE NEIGHBOUR: 'it returns false'. Refute it at one input. -/
def fnSetAddThenRemoveWrong : ChangeSpec := { name := "fnSetAddThenRemove", fn := fun _ => fun
  | [d1, d2, d3, d4] => { results := [.lit (.bool false)], args := [d1, d2, d3, d4] }
  | _ => none }
def FnSetAddThenRemoveWrongFalsely : Prop := fnSetAddThenRemoveRow.holds Try.pinned (OpenSpec.ofChange fnSetAddThenRemoveWrong)

/-- 'zzlaws_swarm_b1.FnSetRemoveThenAdd': WHATEVER THE INPUT: true; the input reads as it did. -/
def fnSetRemoveThenAddSpec : ChangeSpec := { name := "fnSetRemoveThenAdd", fn := fun _ => fun
  | [d1, d2, d3, d4] => { results := [.lit (.bool true)], args := [d1, d2, d3, d4] }
  | _ => none }
def fnSetRemoveThenAddRow : OpenClaim := { program := "qxb6619332a", sum := "1b0b7ddc562c00a7a369b4be440e125cc8c3938e7af2c74a81d88b86e5e967fa", func := "example.com/murmuration/murmuration/zzlaws_swarm_b1.FnSetRemoveThenAdd", spec := "fnSetRemoveThenAdd", apart := false }
def FnSetRemoveThenAddSaid : Prop := fnSetRemoveThenAddRow.holds Try.pinned (OpenSpec.ofChange fnSetRemoveThenAddSpec)

/-- ITS FALSE NEIGHBOUR: 'it returns false'. Refute it at one input. -/
def fnSetRemoveThenAddWrong : ChangeSpec := { name := "fnSetRemoveThenAdd", fn := fun _ => fun
  | [d1, d2, d3, d4] => { results := [.lit (.bool false)], args := [d1, d2, d3, d4] }
  | _ => none }
def FnSetRemoveThenAddWrongFalsely : Prop := fnSetRemoveThenAddRow.holds Try.pinned (OpenSpec.ofChange fnSetRemoveThenAddWrong)

/-- 'zzlaws_swarm_b1.FnSetRemoveEveryPieceEmpties': WHATEVER THE INPUT: true; the input reads as it did. -/
def fnSetRemoveEveryPieceEmptiesSpec : ChangeSpec := { name := "fnSetRemoveEveryPieceEmpties", fn := fun _ => fun
  | [d1, d2, d3] => { results := [.lit (.bool true)], args := [d1, d2, d3] }
  | _ => none }
def fnSetRemoveEveryPieceEmptiesRow : OpenClaim := { program := "qxb6619332a", sum := "1b0b7ddc562c00a7a369b4be440e125cc8c3938e7af2c74a81d88b86e5e967fa", func := "example.com/murmuration/murmuration/zzlaws_swarm_b1.FnSetRemoveEveryPieceEmpties", spec := "fnSetRemoveEveryPieceEmpties", apart := false }
def FnSetRemoveEveryPieceEmptiesSaid : Prop := fnSetRemoveEveryPieceEmptiesRow.holds Try.pinned (OpenSpec.ofChange fnSetRemoveEveryPieceEmptiesSpec)

/-- ITS FALSE NEIGHBOUR: 'it returns false'. Refute it at one input. -/
def fnSetRemoveEveryPieceEmptiesWrong : ChangeSpec := { name := "fnSetRemoveEveryPieceEmpties", fn := fun _ => fun
  | [d1, d2, d3] => { results := [.lit (.bool false)], args := [d1, d2, d3] }
  | _ => none }
def FnSetRemoveEveryPieceEmptiesWrongFalsely : Prop := fnSetRemoveEveryPieceEmptiesRow.holds Try.pinned (OpenSpec.ofChange fnSetRemoveEveryPieceEmptiesWrong)

/-- 'zzlaws_swarm_b1.FnSetFillAgreesWithAddingEveryPiece': WHATEVER THE INPUT: true; the input reads as it did. -/
def fnSetFillAgreesWithAddingEveryPieceSpec : ChangeSpec := { name := "fnSetFillAgreesWithAddingEveryPiece", fn := fun _ => fun
  | [d1, d2, d3] => { results := [.lit (.bool true)], args := [d1, d2, d3] }
  | _ => none }
def fnSetFillAgreesWithAddingEveryPieceRow : OpenClaim := { program := "qxb6619332a", sum := "1b0b7ddc562c00a7a369b4be440e125cc8c3938e7af2c74a81d88b86e5e967fa", func := "example.com/murmuration/murmuration/zzlaws_swarm_b1.FnSetFillAgreesWithAddingEveryPiece", spec := "fnSetFillAgreesWithAddingEveryPiece", apart := false }
def FnSetFillAgreesWithAddingEveryPieceSaid : Prop := fnSetFillAgreesWithAddingEveryPieceRow.holds Try.pinned (OpenSpec.ofChange fnSetFillAgreesWithAddingEveryPieceSpec)

/-- ITS FALSE NEIGHBOUR: 'it returns false'. Refute it at one input. -/
def fnSetFillAgreesWithAddingEveryPieceWrong : ChangeSpec := { name := "fnSetFillAgreesWithAddingEveryPiece", fn := fun _ => fun
  | [d1, d2, d3] => { results := [.lit (.bool false)], args := [d1, d2, d3] }
  | _ => none }
def FnSetFillAgreesWithAddingEveryPieceWrongFalsely : Prop := fnSetFillAgreesWithAddingEveryPieceRow.holds Try.pinned (OpenSpec.ofChange fnSetFillAgreesWithAddingEveryPieceWrong)

/-- 'zzlaws_swarm_b1.FnSetFillThenRemoveThenRefill': WHATEVER THE INPUT: true; the input reads as it did. -/
def fnSetFillThenRemoveThenRefillSpec : ChangeSpec := { name := "fnSetFillThenRemoveThenRefill", fn := fun _ => fun
  | [d1, d2, d3, d4] => { results := [.lit (.bool true)], args := [d1, d2, d3, d4] }
  | _ => none }
def fnSetFillThenRemoveThenRefillRow : OpenClaim := { program := "qxb6619332a", sum := "1b0b7ddc562c00a7a369b4be440e125cc8c3938e7af2c74a81d88b86e5e967fa", func := "example.com/murmuration/murmuration/zzlaws_swarm_b1.FnSetFillThenRemoveThenRefill", spec := "fnSetFillThenRemoveThenRefill", apart := false }
def FnSetFillThenRemoveThenRefillSaid : Prop := fnSetFillThenRemoveThenRefillRow.holds Try.pinned (OpenSpec.ofChange fnSetFillThenRemoveThenRefillSpec)

/-- ITS FALSE NEIGHBOUR: 'it returns false'. Refute it at one input. -/
def fnSetFillThenRemoveThenRefillWrong : ChangeSpec := { name := "fnSetFillThenRemoveThenRefill", fn := fun _ => fun
  | [d1, d2, d3, d4] => { results := [.lit (.bool false)], args := [d1, d2, d3, d4] }
  | _ => none }
def FnSetFillThenRemoveThenRefillWrongFalsely : Prop := fnSetFillThenRemoveThenRefillRow.holds Try.pinned (OpenSpec.ofChange fnSetFillThenRemoveThenRefillWrong)

end Rows
end Go.Proofs.Qxb6619332a

/-
  No cell of these rows narrows 'for every input' (looked for: loops, veiled, ifaces, maps, wideKeys, modest, calm, conditions, laid).
  DERIVED. THE GIVEN ROWS OF THIS SEAT. 1 by the template 'for every input the law returns true; each argument reads behind the call as it read before'; 0 by the template 'total and deterministic' (their statements: Qxb6623288aTotals.lean).
  GIVEN WITH THE SEED: the statements are not yours to turn. If you find one false, say at which input.
  Laid BY PROGRAM, IN A SANDBOX (cutbox-rows.mjs): the forced cells as the released guide's own fill.sh prints them over the translation c44b8cdb3fd119eb… (all of the seat's roots in one cut). By AI agents, Wed Nov 11 2026. No macro, syntax, notation, axiom, sorry.
-/
import Derived.Test.Qxb6623288aChecked
import GoSem.Claim
import GoSem.ClaimJoined
import GoSem.ClaimMapViews
import Derived.JoinedTies
import Derived.KernelRfl
namespace Go.Proofs.Qxb6623288a
/- THE CELL 'sum', in the pinned program and in every row, IS THE sha256 OF THE DUMP (.gsa) THAT Qxb6623288aProg.lean LOADS. Nothing in Lean hashes anything: it is a label: what it is worth is what the hold of that sum in a sandbox is worth. -/
noncomputable def Try.pinned : Pinned := { name := "qxb6623288a", sum := "c44b8cdb3fd119eba5ee32ad0f2237b008dc676108e6541bf8879dd9937528de", checked := Try.checked }
namespace Rows
def none {H : Type} : Left H := { results := [], args := [] }

/-- 'zzlaws_internal_engine_e1.FnCappedBufferWriteSplitKeepsStreamPrefix': WHATEVER THE INPUT: true; the input reads as it did. -/
def fnCappedBufferWriteSplitKeepsStreamPrefixSpec : ChangeSpec := { name := "fnCappedBufferWriteSplitKeepsStreamPrefix", fn := fun _ => fun
  | [d1, d2, d3, d4, d5] => { results := [.lit (.bool true)], args := [d1, d2, d3, d4, d5] }
  | _ => none }
def fnCappedBufferWriteSplitKeepsStreamPrefixRow : OpenClaim := { program := "qxb6623288a", sum := "c44b8cdb3fd119eba5ee32ad0f2237b008dc676108e6541bf8879dd9937528de", func := "example.com/loomline/loomline/zzlaws_internal_engine_e1.FnCappedBufferWriteSplitKeepsStreamPrefix", spec := "fnCappedBufferWriteSplitKeepsStreamPrefix", apart := false }
def FnCappedBufferWriteSplitKeepsStreamPrefixSaid : Prop := fnCappedBufferWriteSplitKeepsStreamPrefixRow.holds Try.pinned (OpenSpec.ofChange fnCappedBufferWriteSplitKeepsStreamPrefixSpec)

/-- ITS FALSE NEIGHBOUR: 'it returns false'. Refute it at one input. -/
def fnCappedBufferWriteSplitKeepsStreamPrefixWrong : ChangeSpec := { name := "fnCappedBufferWriteSplitKeepsStreamPrefix", fn := fun _ => fun
  | [d1, d2, d3, d4, d5] => { results := [.lit (.bool false)], args := [d1, d2, d3, d4, d5] }
  | _ => none }
def FnCappedBufferWriteSplitKeepsStreamPrefixWrongFalsely : Prop := fnCappedBufferWriteSplitKeepsStreamPrefixRow.holds Try.pinned (OpenSpec.ofChange fnCappedBufferWriteSplitKeepsStreamPrefixWrong)

end Rows
end Go.Proofs.Qxb6623288a

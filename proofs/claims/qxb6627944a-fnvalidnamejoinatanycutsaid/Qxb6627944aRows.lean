/-
  No cell of these rows narrows 'for every input' (looked for: loops, veiled, ifaces, maps, wideKeys, modest, calm, conditions, laid).
  DERIVED. THE GIVEN ROWS OF THIS SEAT. 2 by the template 'for every input the law returns true; each argument reads behind the call as it read before'; 0 by the template 'total and deterministic' (their statements: Qxb6627944aTotals.lean).
  GIVEN WITH THE SEED: the statements are not yours to turn. If you find one false, say at which input.
  Laid BY PROGRAM, IN A SANDBOX (cutbox-rows.mjs): the forced cells as the released guide's own fill.sh prints them over the translation 9e2a03e9c30fd749… (all of the seat's roots in one cut). By AI agents, Wed Nov 11 2026. No macro, syntax, notation, axiom, sorry.
-/
import Derived.Test.Qxb6627944aChecked
import GoSem.Claim
import GoSem.ClaimJoined
import GoSem.ClaimMapViews
import Derived.JoinedTies
import Derived.KernelRfl
namespace Go.Proofs.Qxb6627944a
/- THE CELL 'sum', in the pinned program and in every row, IS THE sha256 OF THE DUMP (.gsa) THAT Qxb6627944aProg.lean LOADS. Nothing in Lean hashes anything: it is a label: what it is worth is what the hold of that sum in a sandbox is worth. -/
noncomputable def Try.pinned : Pinned := { name := "qxb6627944a", sum := "9e2a03e9c30fd7498ca28da61e98f2defe7c0a72b3555116bbaffaf36e67ed54", checked := Try.checked }
namespace Rows
def none {H : Type} : Left H := { results := [], args := [] }

/-- 'zzlaws_internal_store_b1.FnValidNameInsertByteAfterFirst': WHATEVER THE INPUT: true; the input reads as it did. -/
def fnValidNameInsertByteAfterFirstSpec : ChangeSpec := { name := "fnValidNameInsertByteAfterFirst", fn := fun _ => fun
  | [d1, d2, d3] => { results := [.lit (.bool true)], args := [d1, d2, d3] }
  | _ => none }
def fnValidNameInsertByteAfterFirstRow : OpenClaim := { program := "qxb6627944a", sum := "9e2a03e9c30fd7498ca28da61e98f2defe7c0a72b3555116bbaffaf36e67ed54", func := "example.com/basenote/basenote/zzlaws_internal_store_b1.FnValidNameInsertByteAfterFirst", spec := "fnValidNameInsertByteAfterFirst", apart := false }
def FnValidNameInsertByteAfterFirstSaid : Prop := fnValidNameInsertByteAfterFirstRow.holds Try.pinned (OpenSpec.ofChange fnValidNameInsertByteAfterFirstSpec)

/-- ITS FALSE NEIGHBOUR: 'it returns false'. Refute it at one input. -/
def fnValidNameInsertByteAfterFirstWrong : ChangeSpec := { name := "fnValidNameInsertByteAfterFirst", fn := fun _ => fun
  | [d1, d2, d3] => { results := [.lit (.bool false)], args := [d1, d2, d3] }
  | _ => none }
def FnValidNameInsertByteAfterFirstWrongFalsely : Prop := fnValidNameInsertByteAfterFirstRow.holds Try.pinned (OpenSpec.ofChange fnValidNameInsertByteAfterFirstWrong)

/-- 'zzlaws_internal_store_b1.FnValidNameJoinAtAnyCut': WHATEVER THE INPUT: true; the input reads as it did. -/
def fnValidNameJoinAtAnyCutSpec : ChangeSpec := { name := "fnValidNameJoinAtAnyCut", fn := fun _ => fun
  | [d1, d2] => { results := [.lit (.bool true)], args := [d1, d2] }
  | _ => none }
def fnValidNameJoinAtAnyCutRow : OpenClaim := { program := "qxb6627944a", sum := "9e2a03e9c30fd7498ca28da61e98f2defe7c0a72b3555116bbaffaf36e67ed54", func := "example.com/basenote/basenote/zzlaws_internal_store_b1.FnValidNameJoinAtAnyCut", spec := "fnValidNameJoinAtAnyCut", apart := false }
def FnValidNameJoinAtAnyCutSaid : Prop := fnValidNameJoinAtAnyCutRow.holds Try.pinned (OpenSpec.ofChange fnValidNameJoinAtAnyCutSpec)

/-- ITS FALSE NEIGHBOUR: 'it returns false'. Refute it at one input. -/
def fnValidNameJoinAtAnyCutWrong : ChangeSpec := { name := "fnValidNameJoinAtAnyCut", fn := fun _ => fun
  | [d1, d2] => { results := [.lit (.bool false)], args := [d1, d2] }
  | _ => none }
def FnValidNameJoinAtAnyCutWrongFalsely : Prop := fnValidNameJoinAtAnyCutRow.holds Try.pinned (OpenSpec.ofChange fnValidNameJoinAtAnyCutWrong)

end Rows
end Go.Proofs.Qxb6627944a

/-
  No cell of these rows narrows 'for every input' (looked for: loops, veiled, ifaces, maps, wideKeys, modest, calm, conditions, laid).
  DERIVED. THE GIVEN ROWS OF THIS SEAT. 2 by the template 'for every input the law returns true; each argument reads behind the call as it read before'; 0 by the template 'total and deterministic' (their statements: Qxb6627971aTotals.lean).
  GIVEN WITH THE SEED: the statements are not yours to turn. If you find one false, say at which input.
  Laid BY PROGRAM, IN A SANDBOX (cutbox-rows.mjs): the forced cells as the released guide's own fill.sh prints them over the translation 676f272cc5240355… (all of the seat's roots in one cut). By AI agents, Wed Nov 11 2026. No macro, syntax, notation, axiom, sorry.
-/
import Derived.Test.Qxb6627971aChecked
import GoSem.Claim
import GoSem.ClaimJoined
import GoSem.ClaimMapViews
import Derived.JoinedTies
import Derived.KernelRfl
namespace Go.Proofs.Qxb6627971a
/- THE CELL 'sum', in the pinned program and in every row, IS THE sha256 OF THE DUMP (.gsa) THAT Qxb6627971aProg.lean LOADS. Nothing in Lean hashes anything: it is a label: what it is worth is what the hold of that sum in a sandbox is worth. -/
noncomputable def Try.pinned : Pinned := { name := "qxb6627971a", sum := "676f272cc52403554f473b0462101a362099b6cfb241ff325b7475bf79fd5f77", checked := Try.checked }
namespace Rows
def none {H : Type} : Left H := { results := [], args := [] }

/-- 'zzlaws_internal_bitmap_b1.FnAddKeepsExactlyItsMembers': WHATEVER THE INPUT: true; the input reads as it did. -/
def fnAddKeepsExactlyItsMembersSpec : ChangeSpec := { name := "fnAddKeepsExactlyItsMembers", fn := fun _ => fun
  | [d] => { results := [.lit (.bool true)], args := [d] }
  | _ => none }
def fnAddKeepsExactlyItsMembersRow : OpenClaim := { program := "qxb6627971a", sum := "676f272cc52403554f473b0462101a362099b6cfb241ff325b7475bf79fd5f77", func := "rulemask.example/rulemask/zzlaws_internal_bitmap_b1.FnAddKeepsExactlyItsMembers", spec := "fnAddKeepsExactlyItsMembers", apart := false }
def FnAddKeepsExactlyItsMembersSaid : Prop := fnAddKeepsExactlyItsMembersRow.holds Try.pinned (OpenSpec.ofChange fnAddKeepsExactlyItsMembersSpec)

/-- ITS FALSE NEIGHBOUR: 'it returns false'. Refute it at one input. -/
def fnAddKeepsExactlyItsMembersWrong : ChangeSpec := { name := "fnAddKeepsExactlyItsMembers", fn := fun _ => fun
  | [d] => { results := [.lit (.bool false)], args := [d] }
  | _ => none }
def FnAddKeepsExactlyItsMembersWrongFalsely : Prop := fnAddKeepsExactlyItsMembersRow.holds Try.pinned (OpenSpec.ofChange fnAddKeepsExactlyItsMembersWrong)

/-- 'zzlaws_internal_bitmap_b1.FnAddCaresOnlyForTheSet': WHATEVER THE INPUT: true; the input reads as it did. -/
def fnAddCaresOnlyForTheSetSpec : ChangeSpec := { name := "fnAddCaresOnlyForTheSet", fn := fun _ => fun
  | [d] => { results := [.lit (.bool true)], args := [d] }
  | _ => none }
def fnAddCaresOnlyForTheSetRow : OpenClaim := { program := "qxb6627971a", sum := "676f272cc52403554f473b0462101a362099b6cfb241ff325b7475bf79fd5f77", func := "rulemask.example/rulemask/zzlaws_internal_bitmap_b1.FnAddCaresOnlyForTheSet", spec := "fnAddCaresOnlyForTheSet", apart := false }
def FnAddCaresOnlyForTheSetSaid : Prop := fnAddCaresOnlyForTheSetRow.holds Try.pinned (OpenSpec.ofChange fnAddCaresOnlyForTheSetSpec)

/-- ITS FALSE NEIGHBOUR: 'it returns false'. Refute it at one input. -/
def fnAddCaresOnlyForTheSetWrong : ChangeSpec := { name := "fnAddCaresOnlyForTheSet", fn := fun _ => fun
  | [d] => { results := [.lit (.bool false)], args := [d] }
  | _ => none }
def FnAddCaresOnlyForTheSetWrongFalsely : Prop := fnAddCaresOnlyForTheSetRow.holds Try.pinned (OpenSpec.ofChange fnAddCaresOnlyForTheSetWrong)

end Rows
end Go.Proofs.Qxb6627971a

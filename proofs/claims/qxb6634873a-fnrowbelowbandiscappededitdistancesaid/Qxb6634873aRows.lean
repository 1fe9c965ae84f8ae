/-
  No cell of these rows narrows 'for every input' (looked for: loops, veiled, ifaces, maps, wideKeys, modest, calm, conditions, laid).
  DERIVED. THE GIVEN ROWS OF THIS SEAT. 2 by the template 'for every input the law returns true; each argument reads behind the call as it read before'; 0 by the template 'total and deterministic' (their statements: Qxb6634873aTotals.lean).
  GIVEN WITH THE SEED: the statements are not yours to turn. If you find one false, say at which input.
  Laid BY PROGRAM, IN A SANDBOX (cutbox-rows.mjs): the forced cells as the released guide's own fill.sh prints them over the translation 6c7c699fdc77b53f… (all of the seat's roots in one cut). By AI agents, Wed Nov 11 2026. No macro, syntax, notation, axiom, sorry.
-/
import Derived.Test.Qxb6634873aChecked
import GoSem.Claim
import GoSem.ClaimJoined
import GoSem.ClaimMapViews
import Derived.JoinedTies
import Derived.KernelRfl
namespace Go.Proofs.Qxb6634873a
/- THE CELL 'sum', in the pinned program and in every row, IS THE sha256 OF THE DUMP (.gsa) THAT Qxb6634873aProg.lean LOADS. Nothing in Lean hashes anything: it is a label: what it is worth is what the hold of that sum in a sandbox is worth. -/
noncomputable def Try.pinned : Pinned := { name := "qxb6634873a", sum := "6c7c699fdc77b53fdddb5fcf299ebd1d030a86794e418e4ea52f4b13f7d46fc7", checked := Try.checked }
namespace Rows
def none {H : Type} : Left H := { results := [], args := [] }

/-- 'zzlaws_root_b1.FnRowBelowIsCheapestEntryPlusInsertions': WHATEVER THE INPUT: true; the input reads as it did. -/
def fnRowBelowIsCheapestEntryPlusInsertionsSpec : ChangeSpec := { name := "fnRowBelowIsCheapestEntryPlusInsertions", fn := fun _ => fun
  | [d1, d2] => { results := [.lit (.bool true)], args := [d1, d2] }
  | _ => none }
def fnRowBelowIsCheapestEntryPlusInsertionsRow : OpenClaim := { program := "qxb6634873a", sum := "6c7c699fdc77b53fdddb5fcf299ebd1d030a86794e418e4ea52f4b13f7d46fc7", func := "example.com/caddis/caddis/zzlaws_root_b1.FnRowBelowIsCheapestEntryPlusInsertions", spec := "fnRowBelowIsCheapestEntryPlusInsertions", apart := false }
def FnRowBelowIsCheapestEntryPlusInsertionsSaid : Prop := fnRowBelowIsCheapestEntryPlusInsertionsRow.holds Try.pinned (OpenSpec.ofChange fnRowBelowIsCheapestEntryPlusInsertionsSpec)

/-- ITS FALSE NEIGHBOUR: 'it returns false'. Refute it at one input. -/
def fnRowBelowIsCheapestEntryPlusInsertionsWrong : ChangeSpec := { name := "fnRowBelowIsCheapestEntryPlusInsertions", fn := fun _ => fun
  | [d1, d2] => { results := [.lit (.bool false)], args := [d1, d2] }
  | _ => none }
def FnRowBelowIsCheapestEntryPlusInsertionsWrongFalsely : Prop := fnRowBelowIsCheapestEntryPlusInsertionsRow.holds Try.pinned (OpenSpec.ofChange fnRowBelowIsCheapestEntryPlusInsertionsWrong)

/-- 'zzlaws_root_b1.FnRowBelowBandIsCappedEditDistance': WHATEVER THE INPUT: true; the input reads as it did. -/
def fnRowBelowBandIsCappedEditDistanceSpec : ChangeSpec := { name := "fnRowBelowBandIsCappedEditDistance", fn := fun _ => fun
  | [d1, d2] => { results := [.lit (.bool true)], args := [d1, d2] }
  | _ => none }
def fnRowBelowBandIsCappedEditDistanceRow : OpenClaim := { program := "qxb6634873a", sum := "6c7c699fdc77b53fdddb5fcf299ebd1d030a86794e418e4ea52f4b13f7d46fc7", func := "example.com/caddis/caddis/zzlaws_root_b1.FnRowBelowBandIsCappedEditDistance", spec := "fnRowBelowBandIsCappedEditDistance", apart := false }
def FnRowBelowBandIsCappedEditDistanceSaid : Prop := fnRowBelowBandIsCappedEditDistanceRow.holds Try.pinned (OpenSpec.ofChange fnRowBelowBandIsCappedEditDistanceSpec)

/-- ITS FALSE NEIGHBOUR: 'it returns false'. Refute it at one input. -/
def fnRowBelowBandIsCappedEditDistanceWrong : ChangeSpec := { name := "fnRowBelowBandIsCappedEditDistance", fn := fun _ => fun
  | [d1, d2] => { results := [.lit (.bool false)], args := [d1, d2] }
  | _ => none }
def FnRowBelowBandIsCappedEditDistanceWrongFalsely : Prop := fnRowBelowBandIsCappedEditDistanceRow.holds Try.pinned (OpenSpec.ofChange fnRowBelowBandIsCappedEditDistanceWrong)

end Rows
end Go.Proofs.Qxb6634873a

/-
  No cell of these rows narrows 'for every input' (looked for: loops, veiled, ifaces, maps, wideKeys, modest, calm, conditions, laid).
  DERIVED. THE GIVEN ROWS OF THIS SEAT. 2 by the template 'for every input the law returns true; each argument reads behind the call as it read before'; 0 by the template 'total and deterministic' (their statements: Qxb6627893aTotals.lean).
  GIVEN WITH THE SEED: the statements are not yours to turn. If you find one false, say at which input.
  Laid BY PROGRAM, IN A SANDBOX (cutbox-rows.mjs): the forced cells as the released guide's own fill.sh prints them over the translation e2db40b405947f26… (all of the seat's roots in one cut). By AI agents, Wed Nov 11 2026. No macro, syntax, notation, axiom, sorry.
-/
import Derived.Test.Qxb6627893aChecked
import GoSem.Claim
import GoSem.ClaimJoined
import GoSem.ClaimMapViews
import Derived.JoinedTies
import Derived.KernelRfl
namespace Go.Proofs.Qxb6627893a
/- THE CELL 'sum', in the pinned program and in every row, IS THE sha256 OF THE DUMP (.gsa) THAT Qxb6627893aProg.lean LOADS. Nothing in Lean hashes anything: it is a label: what it is worth is what the hold of that sum in a sandbox is worth. -/
noncomputable def Try.pinned : Pinned := { name := "qxb6627893a", sum := "e2db40b405947f266c4e9ee23d69357b6f9722a53a67b159ec5c999cd66e2278", checked := Try.checked }
namespace Rows
def none {H : Type} : Left H := { results := [], args := [] }

/-- 'zzlaws_pkg_treestate_b1.FnLearnIdempotentAndAsDocumented': WHATEVER THE INPUT: true; the input reads as it did. -/
def fnLearnIdempotentAndAsDocumentedSpec : ChangeSpec := { name := "fnLearnIdempotentAndAsDocumented", fn := fun _ => fun
  | [d1, d2, d3, d4, d5] => { results := [.lit (.bool true)], args := [d1, d2, d3, d4, d5] }
  | _ => none }
def fnLearnIdempotentAndAsDocumentedRow : OpenClaim := { program := "qxb6627893a", sum := "e2db40b405947f266c4e9ee23d69357b6f9722a53a67b159ec5c999cd66e2278", func := "example.com/driftline/driftline/zzlaws_pkg_treestate_b1.FnLearnIdempotentAndAsDocumented", spec := "fnLearnIdempotentAndAsDocumented", apart := false }
def FnLearnIdempotentAndAsDocumentedSaid : Prop := fnLearnIdempotentAndAsDocumentedRow.holds Try.pinned (OpenSpec.ofChange fnLearnIdempotentAndAsDocumentedSpec)

/-- ITS FALSE NEIGHBOUR: 'it returns false'. Refute it at one input. -/
def fnLearnIdempotentAndAsDocumentedWrong : ChangeSpec := { name := "fnLearnIdempotentAndAsDocumented", fn := fun _ => fun
  | [d1, d2, d3, d4, d5] => { results := [.lit (.bool false)], args := [d1, d2, d3, d4, d5] }
  | _ => none }
def FnLearnIdempotentAndAsDocumentedWrongFalsely : Prop := fnLearnIdempotentAndAsDocumentedRow.holds Try.pinned (OpenSpec.ofChange fnLearnIdempotentAndAsDocumentedWrong)

/-- 'zzlaws_pkg_treestate_b1.FnLearnLaterLookKeepsWrittenSize': WHATEVER THE INPUT: true; the input reads as it did. -/
def fnLearnLaterLookKeepsWrittenSizeSpec : ChangeSpec := { name := "fnLearnLaterLookKeepsWrittenSize", fn := fun _ => fun
  | [d1, d2, d3, d4, d5, d6] => { results := [.lit (.bool true)], args := [d1, d2, d3, d4, d5, d6] }
  | _ => none }
def fnLearnLaterLookKeepsWrittenSizeRow : OpenClaim := { program := "qxb6627893a", sum := "e2db40b405947f266c4e9ee23d69357b6f9722a53a67b159ec5c999cd66e2278", func := "example.com/driftline/driftline/zzlaws_pkg_treestate_b1.FnLearnLaterLookKeepsWrittenSize", spec := "fnLearnLaterLookKeepsWrittenSize", apart := false }
def FnLearnLaterLookKeepsWrittenSizeSaid : Prop := fnLearnLaterLookKeepsWrittenSizeRow.holds Try.pinned (OpenSpec.ofChange fnLearnLaterLookKeepsWrittenSizeSpec)

/-- ITS FALSE NEIGHBOUR: 'it returns false'. Refute it at one input. -/
def fnLearnLaterLookKeepsWrittenSizeWrong : ChangeSpec := { name := "fnLearnLaterLookKeepsWrittenSize", fn := fun _ => fun
  | [d1, d2, d3, d4, d5, d6] => { results := [.lit (.bool false)], args := [d1, d2, d3, d4, d5, d6] }
  | _ => none }
def FnLearnLaterLookKeepsWrittenSizeWrongFalsely : Prop := fnLearnLaterLookKeepsWrittenSizeRow.holds Try.pinned (OpenSpec.ofChange fnLearnLaterLookKeepsWrittenSizeWrong)

end Rows
end Go.Proofs.Qxb6627893a

/-
  WHAT COMES IN, OPENED: strings and integers by value.
-/
import Derived.Test.Qxb6627944aRows
import Derived.ProofKit
import Derived.OpenShut
import Derived.ShutString
import Derived.ChangeOld
import Derived.Below
namespace Go.Proofs.Qxb6627944a
open Go.ChangeShapes Go.WideShapes Go.ChangeAt Go.RowKit

theorem own : ownKnob Try.prog.godebug = none := by kernel_rfl
theorem laidOut : laidOutB Try.prog = true := by kernel_rfl
/-- A string by value. -/
theorem open_str {H : Type} {enc : TypeId × Value → H} {W : World} {base : Nat} {v : Value} {d : DataW H} {p : List MemPlace} (hv : Value.okWide Try.prog W .any base 9 v)
    (h : DataW.Trod enc Try.prog W 0 (fun _ => true) true 9 v d p) : ∃ s : ByteArray, v = .string s ∧ s.size ≤ 9223372036854775807 := by
  obtain ⟨s, rfl, _, _, hs⟩ := Go.ChangeMaps.open_string Try.underlying9 hv h
  exact ⟨s, rfl, by unfold maxLen at hs; omega⟩
theorem open_num {H : Type} {enc : TypeId × Value → H} {W : World} {base : Nat} {v : Value} {d : DataW H} {p : List MemPlace} (hv : Value.okWide Try.prog W .any base 3 v)
    (h : DataW.Trod enc Try.prog W 0 (fun _ => true) true 3 v d p) : ∃ n : Int, v = .int .i64 n := by
  obtain ⟨n, e, _, _, _⟩ := open_int Try.underlying3 hv h
  exact ⟨n, e⟩
theorem open_byte {H : Type} {enc : TypeId × Value → H} {W : World} {base : Nat} {v : Value} {d : DataW H} {p : List MemPlace} (hv : Value.okWide Try.prog W .any base 5 v)
    (h : DataW.Trod enc Try.prog W 0 (fun _ => true) true 5 v d p) : ∃ n : Int, v = .int .u8 n ∧ 0 ≤ n ∧ n ≤ 255 := by
  obtain ⟨n, e, _, _, hn⟩ := open_int Try.underlying5 hv h
  exact ⟨n, e, bounds_u8 hn⟩
end Go.Proofs.Qxb6627944a

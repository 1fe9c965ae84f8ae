/-
  WHAT COMES IN, OPENED: a Stat by value.
-/
import Derived.Test.Qxb6627893aPlain
import Derived.Test.Qxb6627893aRows
import Derived.ProofKit
import Derived.OpenShut
import Derived.ShutString
import Derived.ChangeOld
import Derived.Below
namespace Go.Proofs.Qxb6627893a
open Go.ChangeShapes Go.WideShapes Go.ChangeAt Go.RowKit

theorem own : ownKnob Try.prog.godebug = none := by kernel_rfl
theorem laidOut : laidOutB Try.prog = true := by kernel_rfl
theorem cells25 : Try.prog.cellsOf 25 = 7 := by kernel_rfl
theorem cells22 : Try.prog.cellsOf 22 = 1 := by kernel_rfl
theorem cells2 : Try.prog.cellsOf 2 = 1 := by kernel_rfl
theorem cells23 : Try.prog.cellsOf 23 = 1 := by kernel_rfl

theorem list7 (l : List Value) (h : l.length = 7) : ∃ a b c d e f g, l = [a, b, c, d, e, f, g] := by
  match l, h with
  | [a, b, c, d, e, f, g], _ => exact ⟨a, b, c, d, e, f, g, rfl⟩

/-- A Stat by value: its value written out. -/
theorem open_stat {H : Type} {enc : TypeId × Value → H} {W : World} {base : Nat} {v : Value} {d : DataW H} {p : List MemPlace} (hv : Value.okWide Try.prog W .any base 25 v)
    (h : DataW.Trod enc Try.prog W 0 (fun _ => true) true 25 v d p) :
    ∃ s : St, v = .agg #[.int .u64 s.a, .int .i64 s.b, .int .i64 s.c, .int .u32 s.d, .int .u32 s.e, .int .u32 s.f, .int .i64 s.g] := by
  obtain ⟨cs, rfl, hsz⟩ := okWide_struct Try.underlying25 hv
  rw [cells25] at hsz
  obtain ⟨l⟩ := cs
  obtain ⟨c0, c1, c2, c3, c4, c5, c6, rfl⟩ := list7 l hsz
  obtain ⟨fuel, hf⟩ := h
  obtain ⟨xs, m, _, _, _, hl, hel⟩ := DataW.trod_struct Try.underlying25 hf
  have hl7 : xs.length = 7 := hl
  have g : ∀ i (hi : i < 7), xs[i]? = some (xs[i]'(by omega)) := fun i hi => List.getElem?_eq_getElem (by omega)
  have g0 : DataW.trod enc Try.prog W 0 (fun _ => true) true m 22 (([c0, c1, c2, c3, c4, c5, c6].drop 0).take (Try.prog.cellsOf 22)) = _ := (hel 0 _ rfl).trans (g 0 (by decide))
  rw [cells22] at g0
  have g1 : DataW.trod enc Try.prog W 0 (fun _ => true) true m 2 (([c0, c1, c2, c3, c4, c5, c6].drop 1).take (Try.prog.cellsOf 2)) = _ := (hel 1 _ rfl).trans (g 1 (by decide))
  rw [cells2] at g1
  have g2 : DataW.trod enc Try.prog W 0 (fun _ => true) true m 2 (([c0, c1, c2, c3, c4, c5, c6].drop 2).take (Try.prog.cellsOf 2)) = _ := (hel 2 _ rfl).trans (g 2 (by decide))
  rw [cells2] at g2
  have g3 : DataW.trod enc Try.prog W 0 (fun _ => true) true m 23 (([c0, c1, c2, c3, c4, c5, c6].drop 3).take (Try.prog.cellsOf 23)) = _ := (hel 3 _ rfl).trans (g 3 (by decide))
  rw [cells23] at g3
  have g4 : DataW.trod enc Try.prog W 0 (fun _ => true) true m 23 (([c0, c1, c2, c3, c4, c5, c6].drop 4).take (Try.prog.cellsOf 23)) = _ := (hel 4 _ rfl).trans (g 4 (by decide))
  rw [cells23] at g4
  have g5 : DataW.trod enc Try.prog W 0 (fun _ => true) true m 23 (([c0, c1, c2, c3, c4, c5, c6].drop 5).take (Try.prog.cellsOf 23)) = _ := (hel 5 _ rfl).trans (g 5 (by decide))
  rw [cells23] at g5
  have g6 : DataW.trod enc Try.prog W 0 (fun _ => true) true m 2 (([c0, c1, c2, c3, c4, c5, c6].drop 6).take (Try.prog.cellsOf 2)) = _ := (hel 6 _ rfl).trans (g 6 (by decide))
  rw [cells2] at g6
  obtain ⟨x0, e0, _⟩ := DataW.trod_int Try.underlying22 g0
  obtain ⟨x1, e1, _⟩ := DataW.trod_int Try.underlying2 g1
  obtain ⟨x2, e2, _⟩ := DataW.trod_int Try.underlying2 g2
  obtain ⟨x3, e3, _⟩ := DataW.trod_int Try.underlying23 g3
  obtain ⟨x4, e4, _⟩ := DataW.trod_int Try.underlying23 g4
  obtain ⟨x5, e5, _⟩ := DataW.trod_int Try.underlying23 g5
  obtain ⟨x6, e6, _⟩ := DataW.trod_int Try.underlying2 g6
  simp at e0 e1 e2 e3 e4 e5 e6
  subst e0 e1 e2 e3 e4 e5 e6
  exact ⟨⟨x0, x1, x2, x3, x4, x5, x6⟩, rfl⟩
/-- A string by value. -/
theorem open_str {H : Type} {enc : TypeId × Value → H} {W : World} {base : Nat} {v : Value} {d : DataW H} {p : List MemPlace} (hv : Value.okWide Try.prog W .any base 9 v)
    (h : DataW.Trod enc Try.prog W 0 (fun _ => true) true 9 v d p) : ∃ s : ByteArray, v = .string s ∧ s.size ≤ 9223372036854775807 := by
  obtain ⟨s, rfl, _, _, hs⟩ := Go.ChangeMaps.open_string Try.underlying9 hv h
  exact ⟨s, rfl, by unfold maxLen at hs; omega⟩
end Go.Proofs.Qxb6627893a

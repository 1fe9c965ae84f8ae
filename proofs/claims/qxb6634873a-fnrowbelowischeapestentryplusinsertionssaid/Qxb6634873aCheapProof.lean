/-
  THE PROOF OF 'Rows.FnRowBelowIsCheapestEntryPlusInsertionsSaid'. The frame follows the guide's shells; the array by value is opened by hand.
-/
import Derived.Test.Qxb6634873aCheap
import Derived.ProofKit
import Derived.OpenShut
import Derived.ShutString
import Derived.ChangeOld
import Derived.Below
namespace Go.Proofs.Qxb6634873a.fnRowBelowIsCheapestEntryPlusInsertions
open Go.ChangeShapes Go.WideShapes Go.ChangeAt Go.RowKit

theorem own : ownKnob Try.prog.godebug = none := by kernel_rfl
theorem laidOut : laidOutB Try.prog = true := by kernel_rfl
theorem cells22 : Try.prog.cellsOf 22 = 5 := by kernel_rfl
theorem cells5 : Try.prog.cellsOf 5 = 1 := by kernel_rfl

theorem list5 (l : List Value) (h : l.length = 5) : ∃ a b c d e, l = [a, b, c, d, e] := by
  match l, h with
  | [a, b, c, d, e], _ => exact ⟨a, b, c, d, e, rfl⟩

/-- An array of five bytes by value: its value written out, each number within its kind. -/
theorem open_row {H : Type} {enc : TypeId × Value → H} {W : World} {base : Nat} {v : Value} {d : DataW H} {p : List MemPlace} (hv : Value.okWide Try.prog W .any base 22 v)
    (h : DataW.Trod enc Try.prog W 0 (fun _ => true) true 22 v d p) :
    ∃ r0 r1 r2 r3 r4 : Int, v = .agg #[.int .u8 r0, .int .u8 r1, .int .u8 r2, .int .u8 r3, .int .u8 r4] ∧ (0 ≤ r0 ∧ r0 ≤ 255) ∧ (0 ≤ r1 ∧ r1 ≤ 255) ∧ (0 ≤ r2 ∧ r2 ≤ 255) ∧ (0 ≤ r3 ∧ r3 ≤ 255) ∧ (0 ≤ r4 ∧ r4 ≤ 255) := by
  obtain ⟨cs, rfl, hsz, _⟩ : ∃ cs, v = .agg cs ∧ cs.size = Try.prog.cellsOf 22 ∧ Row.okWide Try.prog W .any base 22 cs := by
    simpa [Value.okWide, Try.underlying22] using hv
  rw [cells22] at hsz
  obtain ⟨l⟩ := cs
  obtain ⟨c0, c1, c2, c3, c4, rfl⟩ := list5 l hsz
  obtain ⟨fuel, hf⟩ := h
  obtain ⟨xs, m, _, _, _, hl, hel⟩ := DataW.trod_array Try.underlying22 hf
  have g : ∀ i (hi : i < 5), ∃ y, DataW.trod enc Try.prog W 0 (fun _ => true) true m 5 (([c0, c1, c2, c3, c4].drop i).take 1) = some y := fun i hi => by
    have := hel i hi
    rw [cells5, Nat.mul_one] at this
    exact ⟨xs[i]'(by omega), by rw [← List.getElem?_eq_getElem (by omega)]; exact this⟩
  obtain ⟨y0, g0⟩ := g 0 (by decide)
  obtain ⟨y1, g1⟩ := g 1 (by decide)
  obtain ⟨y2, g2⟩ := g 2 (by decide)
  obtain ⟨y3, g3⟩ := g 3 (by decide)
  obtain ⟨y4, g4⟩ := g 4 (by decide)
  obtain ⟨x0, e0, _, w0⟩ := DataW.trod_int Try.underlying5 g0
  obtain ⟨x1, e1, _, w1⟩ := DataW.trod_int Try.underlying5 g1
  obtain ⟨x2, e2, _, w2⟩ := DataW.trod_int Try.underlying5 g2
  obtain ⟨x3, e3, _, w3⟩ := DataW.trod_int Try.underlying5 g3
  obtain ⟨x4, e4, _, w4⟩ := DataW.trod_int Try.underlying5 g4
  simp at e0 e1 e2 e3 e4
  subst e0 e1 e2 e3 e4
  exact ⟨x0, x1, x2, x3, x4, rfl, bounds_u8 w0, bounds_u8 w1, bounds_u8 w2, bounds_u8 w3, bounds_u8 w4⟩

set_option maxRecDepth 100000 in
theorem lifted (os : Os) (started : os.Started) (H : Type) (enc : TypeId × Value → H) :
    ReturnsInHanded {} Try.checked os 3 .any (Rows.fnRowBelowIsCheapestEntryPlusInsertionsSpec.pre6 enc Try.prog Try.f3 Rows.fnRowBelowIsCheapestEntryPlusInsertionsRow.domain false) (Rows.fnRowBelowIsCheapestEntryPlusInsertionsSpec.post enc Try.prog Try.f3 false true false false) := by
  refine returnsInHanded_of_change (C := Try.checked) own started (by kernel_rfl) Try.func3
    (ChangeSpec.witness6 (enc := enc) (C := Try.checked) false ⟨#[], #[.agg #[.int .u8 0, .int .u8 0, .int .u8 0, .int .u8 0, .int .u8 0], .int .i64 0], []⟩ 8 (by kernel_rfl) (by kernel_rfl) (by kernel_rfl) (by kernel_rfl)) ?_
  intro W base args ds gs before hval0 hW hcnd _
  have hval : ∀ (j : Nat) t v, Try.f3.params[j]? = some t → args[j]? = some v → Value.okWide Try.prog W .any base t v := hval0
  have hW' := hW
  obtain ⟨p, q, hA0, hV, rfl, hfz, hnd⟩ := hW
  have hA : DataW.TrodAll enc Try.prog W 0 (fun _ => true) true Try.f3.params.toList args.toList ds p := hA0
  rw [Try.params3] at hA hval
  obtain ⟨v0, vs0, d0, ds0, p0, q0, hargs, rfl, rfl, h0, r0⟩ := trodAll_cons hA
  obtain ⟨v1, vs1, d1, ds1, p1, q1, rfl, rfl, rfl, h1, r1⟩ := trodAll_cons r0
  obtain ⟨rfl, rfl, rfl⟩ := trodAll_nil r1
  obtain rfl : args = #[v0, v1] := by cases args; simp_all
  obtain ⟨rfl, rfl⟩ := trodVars_none hV
  have lt0 : ∀ x ∈ p0, x.block < W.heap.size := by obtain ⟨m, hm⟩ := h0; exact DataW.trod_lt m _ _ _ hm
  have lt1 : ∀ x ∈ p1, x.block < W.heap.size := by obtain ⟨m, hm⟩ := h1; exact DataW.trod_lt m _ _ _ hm
  obtain ⟨x0, x1, x2, x3, x4, rfl, b0, b1, b2, b3, b4⟩ := open_row (hval 0 22 v0 rfl rfl) h0
  obtain ⟨s, e1⟩ : ∃ s, v1 = .int .i64 s := by
    have k1 := h1
    obtain ⟨a1, e, _, _, _⟩ := open_int Try.underlying3 (hval 1 3 v1 rfl rfl) k1
    exact ⟨a1, e⟩
  subst e1
  clear hA0 hval0
  refine (walk3 x0 x1 x2 x3 x4 s W b0.1 b0.2 b1.1 b1.2 b2.1 b2.2 b3.1 b3.2 b4.1 b4.2).mono fun e W' ⟨he, bel⟩ => ?_
  subst he
  exact ⟨_, rfl, _, _, _, [], _, [], hW', trodAll_mk1 (shut_bool Try.underlying4 _), (trodAll_cons_mk (Below.trod laidOut (by kernel_rfl) (of_decide_eq_true (by kernel_rfl)) h0 bel lt0) (trodAll_cons_mk (Below.trod laidOut (by kernel_rfl) (of_decide_eq_true (by kernel_rfl)) h1 bel lt1) trodAll_mk0)), rfl, bel.frame _, fun h => by cases h⟩

theorem over : Rows.fnRowBelowIsCheapestEntryPlusInsertionsRow.holds Try.pinned (OpenSpec.ofChange Rows.fnRowBelowIsCheapestEntryPlusInsertionsSpec) :=
  OpenClaim.holds_of_wide 3 Try.f3 rfl rfl rfl rfl rfl rfl rfl ⟨rfl, rfl, rfl, rfl, rfl⟩ rfl rfl rfl rfl rfl (by kernel_rfl) Try.func3 (by kernel_rfl)
    (of_decide_eq_true (by kernel_rfl)) (by unfold Func.isWrapper; first | (rw [if_pos (by decide +kernel)]; kernel_rfl) | (rw [if_neg (by decide +kernel)]; exact ⟨rfl, rfl⟩))
    (fun os started H enc _ => lifted os started H enc)

/-- THE STATEMENT -/
theorem proved : Rows.FnRowBelowIsCheapestEntryPlusInsertionsSaid := over
end Go.Proofs.Qxb6634873a.fnRowBelowIsCheapestEntryPlusInsertions

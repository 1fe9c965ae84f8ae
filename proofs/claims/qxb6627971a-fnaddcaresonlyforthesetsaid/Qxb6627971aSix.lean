/-
  SMALL LAWS for the walks of the two laws: an empty TwoLevel, the six slices that they read, a bit's test.
-/
import Derived.Test.Qxb6627971aFields
import Derived.Test.Qxb6627971aReads
import Derived.WalkSmall
namespace Go.Proofs.Qxb6627971a
open Go.RowKit

theorem Own.slice {w : World} {e : TypeId} {k : IntKind} {v : Value} {xs : List Int} (h : Own w e k v xs) : ∃ (ad : Option Addr) (cap : Nat), v = .slice ad xs.length cap := by
  rcases h.shape with ⟨hv, hx⟩ | ⟨g, cap, hv, _⟩
  · exact ⟨none, 0, by rw [hv, hx]; rfl⟩
  · exact ⟨_, cap, hv⟩
theorem Own.row {w : World} {e : TypeId} {k : IntKind} {v : Value} {xs : List Int} {n : Nat} (h : Own w e k v xs) (hn : xs.length = n) (hp : 0 < n) :
    ∃ g cap, v = .slice (some ⟨g, 0, none⟩) n cap := by
  subst hn
  obtain ⟨g, cap, rfl, _⟩ := h.there hp
  exact ⟨g, cap, rfl⟩

theorem Tw.zero (w : World) : Tw (w.alloc (.cells #[.int .i64 0, .bool false, .slice none 0 0, .slice none 0 0, .slice none 0 0, .slice none 0 0] 27)) w.heap.size (ofWords []) (.slice none 0 0) (.slice none 0 0) (.slice none 0 0) (.slice none 0 0) := by
  have hb : ∀ b, (Value.slice none 0 0).ownBlock ≠ some b := fun b e => by simp [Value.ownBlock] at e
  constructor
  · simp
  · rw [World.cell?_alloc_new]; rfl
  · rw [World.cell?_alloc_new]; rfl
  · rw [World.cell?_alloc_new]; rfl
  · rw [World.cell?_alloc_new]; rfl
  · rw [World.cell?_alloc_new]; rfl
  · rw [World.cell?_alloc_new]; rfl
  · intro j; rw [World.frozen?_alloc_new]
  · exact Own.nil _ _ _
  · exact Own.nil _ _ _
  · exact Own.nil _ _ _
  · exact Own.nil _ _ _
  all_goals first | exact hb _ | exact fun b e => absurd e (hb b)
theorem Turn.zero (w : World) (o : Obj) : Turn w (w.alloc o) (fun _ => False) (Foot w.heap.size (.slice none 0 0) (.slice none 0 0) (.slice none 0 0) (.slice none 0 0)) := by
  refine ⟨rfl, rfl, rfl, by simp, fun b hb _ => Below.heap_alloc _ _ _ hb, fun b hb => .inr ?_⟩
  rcases hb with e | e | e | e | e
  · omega
  all_goals simp [Value.ownBlock] at e
theorem Turn.below {w w' : World} {F : Nat → Prop} (h : Turn w w' (fun _ => False) F) : Below w.heap.size w w' := ⟨h.os, h.tape, h.output, h.size, fun b hb => h.block b hb (fun f => f)⟩

theorem Own.slice0 {w : World} {e : TypeId} {k : IntKind} {v : Value} {xs : List Int} (h : Own w e k v xs) (hx : xs.length = 0) : ∃ (ad : Option Addr) (cap : Nat), v = .slice ad 0 cap := by
  obtain ⟨ad, cap, hv⟩ := h.slice
  exact ⟨ad, cap, by rw [hv, hx]⟩
theorem bit_test (s : Int) (k : Nat) (hs0 : 0 ≤ s) (hs1 : s < 18446744073709551616) : bits BinOp.and IntKind.u64 (s / 2 ^ k) 1 = if s.toNat.testBit k = true then 1 else 0 := by
  obtain ⟨N, rfl⟩ : ∃ N : Nat, s = N := ⟨s.toNat, by omega⟩
  have h1 : ((N : Int) / 2 ^ k) = ((N / 2 ^ k : Nat) : Int) := by
    rw [Int.natCast_ediv]; simp
  have h2 : N / 2 ^ k ≤ N := Nat.div_le_self _ _
  rw [h1, Int.toNat_natCast, Nat.testBit_eq_decide_div_mod_eq]
  generalize N / 2 ^ k = q at *
  have := u64_and_nat q 1 (by omega) (by decide)
  rw [show ((1 : Nat) : Int) = 1 from rfl] at this
  rw [this, Nat.and_one_is_mod]
  by_cases h : q % 2 = 1
  · simp [h]
  · have : q % 2 = 0 := by omega
    simp [this]
/-- What the law's own text reads: the six slices, in a world in which nothing that was there has changed. -/
structure Six (w0 w : World) (t : TL) (v2 v3 v4 v5 va vb : Value) (a b : List Int) : Prop where
  o2 : Own w 34 .u64 v2 t.ss
  o3 : Own w 21 .i32 v3 t.ns
  o4 : Own w 21 .i32 v4 t.fs
  o5 : Own w 34 .u64 v5 t.ws
  oa : Own w 3 .i64 va a
  ob : Own w 34 .u64 vb b
  bel : Below w0.heap.size w0 w
theorem Six.draws {w0 w : World} {t : TL} {v2 v3 v4 v5 va vb : Value} {a b : List Int} (h : Six w0 w t v2 v3 v4 v5 va vb a b) (n : Nat) : Six w0 (w.drewN n) t v2 v3 v4 v5 va vb a b :=
  ⟨h.o2.draws n, h.o3.draws n, h.o4.draws n, h.o5.draws n, h.oa.draws n, h.ob.draws n, below_drewN h.bel n⟩

end Go.Proofs.Qxb6627971a

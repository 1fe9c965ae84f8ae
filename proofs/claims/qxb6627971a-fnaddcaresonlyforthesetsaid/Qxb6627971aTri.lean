/-
  SMALL LAWS for the walk of FnAddCaresOnlyForTheSet: the canonical row as it is built, and two TwoLevels side by side.
-/
import Derived.Test.Qxb6627971aSix
import Derived.Test.Qxb6627971aCanon
namespace Go.Proofs.Qxb6627971a
open Go.RowKit

/-- A slice that is built (vc), beside two that are read. -/
structure Tri (w0 w : World) (vc va vb : Value) (c a b : List Int) : Prop where
  oc : Own w 3 .i64 vc c
  oa : Own w 3 .i64 va a
  ob : Own w 34 .u64 vb b
  sa : ∀ g, vc.ownBlock = some g → va.ownBlock ≠ some g
  sb : ∀ g, vc.ownBlock = some g → vb.ownBlock ≠ some g
  nc : ∀ g, vc.ownBlock = some g → w0.heap.size ≤ g
  bel : Below w0.heap.size w0 w
theorem Tri.push {w0 w : World} {vc va vb : Value} {c a b : List Int} (h : Tri w0 w vc va vb c a b) (x : Int) (hl : c.length ≤ 8388608) :
    ∃ vc' w', (Builtin.append_ #[22, 22] 22 #[vc, .slice (some ⟨w.heap.size, 0, none⟩) 1 1]).run Try.prog (w.alloc (.cells #[.int .i64 x] 3)) = .ok vc' w' ∧ Tri w0 w' vc' va vb (c ++ [x]) a b := by
  obtain ⟨v', w', r, ho, hgr, g, cap, hv, hg⟩ := h.oc.app3 x hl
  have old : ∀ b, b < w.heap.size → vc.ownBlock ≠ some b → w'.heap[b]? = w.heap[b]? := fun b hb hne => grown_old hgr hb hne
  have hz := h.bel.size
  refine ⟨v', w', r, ho, h.oa.block fun b e => old b (h.oa.lt e) (fun e2 => h.sa b e2 e), h.ob.block fun b e => old b (h.ob.lt e) (fun e2 => h.sb b e2 e), ?_, ?_, ?_, ?_⟩
  · exact fun b hb => (blk_of hv hg hb).elim (fun e => h.sa b e) (fun hl e => by have := h.oa.lt e; omega)
  · exact fun b hb => (blk_of hv hg hb).elim (fun e => h.sb b e) (fun hl e => by have := h.ob.lt e; omega)
  · exact fun b hb => (blk_of hv hg hb).elim (fun e => h.nc b e) (fun hl => by omega)
  · exact (h.bel.alloc hz _).grown hgr (by simp; omega) (fun k e => h.nc k e)
theorem Tri.start {w0 w1 : World} {va vb : Value} {a b : List Int} (h : Two w0 w1 va vb a b) (n : Nat) (hn : n ≤ 65536) (z : Value) :
    Tri w0 (w1.alloc (.cells (madeCells #[z] n) 3)) (.slice (some ⟨w1.heap.size, 0, none⟩) 0 n) va vb [] a b := by
  refine ⟨Own.made w1 3 .i64 n hn z, h.o4.alloc _, h.o5.alloc _, fun g e e2 => ?_, fun g e e2 => ?_, fun g e => ?_, h.tu.below.alloc h.tu.size _⟩
  · simp [Value.ownBlock] at e; have := h.o4.lt e2; omega
  · simp [Value.ownBlock] at e; have := h.o5.lt e2; omega
  · simp [Value.ownBlock] at e; have := h.tu.size; omega

/-- Two TwoLevels side by side, beside a row of ints and one of masks. -/
structure Pair (w0 w : World) (A C : Nat) (t s : TL) (v2 v3 v4 v5 u2 u3 u4 u5 vc vb : Value) (c b : List Int) : Prop where
  ta : Tw w A t v2 v3 v4 v5
  tc : Tw w C s u2 u3 u4 u5
  ap : ∀ g, Foot A v2 v3 v4 v5 g → ¬ Foot C u2 u3 u4 u5 g
  oc : Own w 3 .i64 vc c
  ob : Own w 34 .u64 vb b
  ac : ∀ g, vc.ownBlock = some g → ¬ Foot A v2 v3 v4 v5 g ∧ ¬ Foot C u2 u3 u4 u5 g
  ab : ∀ g, vb.ownBlock = some g → ¬ Foot A v2 v3 v4 v5 g ∧ ¬ Foot C u2 u3 u4 u5 g
  na : ∀ g, Foot A v2 v3 v4 v5 g → w0.heap.size ≤ g
  nc : ∀ g, Foot C u2 u3 u4 u5 g → w0.heap.size ≤ g
  bel : Below w0.heap.size w0 w
section
variable {w0 w w' : World} {A C : Nat} {t s t' : TL} {v2 v3 v4 v5 u2 u3 u4 u5 vc vb y2 y3 y4 y5 : Value} {c b : List Int}
/-- A step on the first. -/
theorem Pair.stepA (h : Pair w0 w A C t s v2 v3 v4 v5 u2 u3 u4 u5 vc vb c b) (hT : Tw w' A t' y2 y3 y4 y5) (hU : Turn w w' (Foot A v2 v3 v4 v5) (Foot A y2 y3 y4 y5)) :
    Pair w0 w' A C t' s y2 y3 y4 y5 u2 u3 u4 u5 vc vb c b := by
  have hz := h.bel.size
  refine ⟨hT, h.tc.block hU.size (fun g hg hF => hU.block g hg (fun e => h.ap g e hF)), fun g hF hF' => ?_, h.oc.block fun g e => hU.block g (h.oc.lt e) (h.ac g e).1, h.ob.block fun g e => hU.block g (h.ob.lt e) (h.ab g e).1, fun g e => ⟨fun hF => ?_, (h.ac g e).2⟩, fun g e => ⟨fun hF => ?_, (h.ab g e).2⟩, fun g hF => ?_, h.nc, h.bel.trans ⟨hU.os, hU.tape, hU.output, hU.size, fun g hg => hU.block g (by omega) (fun e => by have := h.na g e; omega)⟩⟩
  · exact (hU.foot g hF).elim (fun e => h.ap g e hF') (fun hl => by have := h.tc.footLt hF'; omega)
  · exact (hU.foot g hF).elim (h.ac g e).1 (fun hl => by have := h.oc.lt e; omega)
  · exact (hU.foot g hF).elim (h.ab g e).1 (fun hl => by have := h.ob.lt e; omega)
  · exact (hU.foot g hF).elim (h.na g) (fun hl => by omega)
/-- A step on the second. -/
theorem Pair.stepC (h : Pair w0 w A C t s v2 v3 v4 v5 u2 u3 u4 u5 vc vb c b) (hT : Tw w' C t' y2 y3 y4 y5) (hU : Turn w w' (Foot C u2 u3 u4 u5) (Foot C y2 y3 y4 y5)) :
    Pair w0 w' A C t t' v2 v3 v4 v5 y2 y3 y4 y5 vc vb c b := by
  have hz := h.bel.size
  refine ⟨h.ta.block hU.size (fun g hg hF => hU.block g hg (h.ap g hF)), hT, fun g hF' hF => ?_, h.oc.block fun g e => hU.block g (h.oc.lt e) (h.ac g e).2, h.ob.block fun g e => hU.block g (h.ob.lt e) (h.ab g e).2, fun g e => ⟨(h.ac g e).1, fun hF => ?_⟩, fun g e => ⟨(h.ab g e).1, fun hF => ?_⟩, h.na, fun g hF => ?_, h.bel.trans ⟨hU.os, hU.tape, hU.output, hU.size, fun g hg => hU.block g (by omega) (fun e => by have := h.nc g e; omega)⟩⟩
  · exact (hU.foot g hF).elim (fun e => h.ap g hF' e) (fun hl => by have := h.ta.footLt hF'; omega)
  · exact (hU.foot g hF).elim (h.ac g e).2 (fun hl => by have := h.oc.lt e; omega)
  · exact (hU.foot g hF).elim (h.ab g e).2 (fun hl => by have := h.ob.lt e; omega)
  · exact (hU.foot g hF).elim (h.nc g) (fun hl => by omega)
end
theorem foot_nil {T g : Nat} (h : Foot T (.slice none 0 0) (.slice none 0 0) (.slice none 0 0) (.slice none 0 0) g) : g = T := by
  rcases h with e | e | e | e | e
  · exact e
  all_goals simp [Value.ownBlock] at e
/-- The two new TwoLevels. -/
theorem Pair.start {w0 w : World} {vc va vb : Value} {c a b : List Int} (h : Tri w0 w vc va vb c a b) :
    Pair w0 ((w.alloc (.cells #[.int .i64 0, .bool false, .slice none 0 0, .slice none 0 0, .slice none 0 0, .slice none 0 0] 27)).alloc (.cells #[.int .i64 0, .bool false, .slice none 0 0, .slice none 0 0, .slice none 0 0, .slice none 0 0] 27)) w.heap.size (w.heap.size + 1) (ofWords []) (ofWords [])
      (.slice none 0 0) (.slice none 0 0) (.slice none 0 0) (.slice none 0 0) (.slice none 0 0) (.slice none 0 0) (.slice none 0 0) (.slice none 0 0) vc vb c b := by
  have hz := h.bel.size
  have h2 := Tw.zero (w.alloc (.cells #[.int .i64 0, .bool false, .slice none 0 0, .slice none 0 0, .slice none 0 0, .slice none 0 0] 27))
  simp only [World.size_alloc] at h2
  refine ⟨(Tw.zero w).alloc _, h2, fun g e e2 => ?_, (h.oc.alloc _).alloc _, (h.ob.alloc _).alloc _, fun g e => ⟨fun e2 => ?_, fun e2 => ?_⟩, fun g e => ⟨fun e2 => ?_, fun e2 => ?_⟩, fun g e => ?_, fun g e => ?_, (h.bel.alloc hz _).alloc (by simp; omega) _⟩
  · have := foot_nil e; have := foot_nil e2; omega
  · have := foot_nil e2; have := h.oc.lt e; omega
  · have := foot_nil e2; have := h.oc.lt e; omega
  · have := foot_nil e2; have := h.ob.lt e; omega
  · have := foot_nil e2; have := h.ob.lt e; omega
  · have := foot_nil e; omega
  · have := foot_nil e; omega

/-- What the comparisons read. -/
structure Ten (w0 w : World) (t : TL) (v2 v3 v4 v5 u2 u3 u4 u5 vb : Value) : Prop where
  a2 : Own w 34 .u64 v2 t.ss
  a3 : Own w 21 .i32 v3 t.ns
  a4 : Own w 21 .i32 v4 t.fs
  a5 : Own w 34 .u64 v5 t.ws
  c2 : Own w 34 .u64 u2 t.ss
  c3 : Own w 21 .i32 u3 t.ns
  c4 : Own w 21 .i32 u4 t.fs
  c5 : Own w 34 .u64 u5 t.ws
  ob : Own w 34 .u64 vb t.ws
  bel : Below w0.heap.size w0 w
theorem Ten.draws {w0 w : World} {t : TL} {v2 v3 v4 v5 u2 u3 u4 u5 vb : Value} (h : Ten w0 w t v2 v3 v4 v5 u2 u3 u4 u5 vb) (n : Nat) : Ten w0 (w.drewN n) t v2 v3 v4 v5 u2 u3 u4 u5 vb :=
  ⟨h.a2.draws n, h.a3.draws n, h.a4.draws n, h.a5.draws n, h.c2.draws n, h.c3.draws n, h.c4.draws n, h.c5.draws n, h.ob.draws n, below_drewN h.bel n⟩
theorem Own.at {w : World} {e : TypeId} {k : IntKind} {ad : Option Addr} {n cap : Nat} {xs : List Int} (h : Own w e k (.slice ad n cap) xs) (hn : xs.length = n) (j : Nat) (hj : j < n) :
    ∃ g, ad = some ⟨g, 0, none⟩ ∧ w.cell? ⟨g, j, none⟩ = some (.int k (xs.getD j 0)) := by
  obtain ⟨g, c', hv, _⟩ := h.there (by omega)
  simp only [Value.slice.injEq] at hv
  obtain ⟨rfl, rfl, rfl⟩ := hv
  exact ⟨g, rfl, h.cell rfl j hj⟩
end Go.Proofs.Qxb6627971a

/-
  A TwoLevel IN MEMORY: its six fields, the four rows that its slices own, and what a step leaves as it was.
-/
import Derived.Test.Qxb6627971aRows
import Derived.Test.Qxb6627971aApp
import Derived.WalkKit
import Derived.WalkSpells
import Derived.WalkLawsBesides
import Derived.Deep.Draws
namespace Go.Proofs.Qxb6627971a
open Go.RowKit

/-- What a TwoLevel holds: base, gaps, summaries, numbers, firsts, words. -/
structure TL where
  base : Int
  gaps : Bool
  ss : List Int
  ns : List Int
  fs : List Int
  ws : List Int

/-- The slice v owns a row that holds the integers xs. -/
def Own (w : World) (e : TypeId) (k : IntKind) (v : Value) (xs : List Int) : Prop := w.ownsRow 0 e 1 v xs.length (xs.map (Value.int k))

section
variable {w w' : World} {e : TypeId} {k : IntKind} {v : Value} {xs : List Int}
theorem Own.nil (w : World) (e : TypeId) (k : IntKind) : Own w e k (.slice none 0 0) [] := World.ownsRow_nil w 0 e 1
theorem Own.shape (h : Own w e k v xs) : (v = .slice none 0 0 ∧ xs = []) ∨ ∃ g cap, v = .slice (some ⟨g, 0, none⟩) xs.length cap ∧ g < w.heap.size ∧ xs.length ≤ cap ∧ cap ≤ maxLen := by
  rcases h.2 with ⟨hv, hn⟩ | ⟨g, cap, cur, hv, _, hg, hn, hm, _⟩
  · exact .inl ⟨hv, List.length_eq_zero_iff.1 hn⟩
  · exact .inr ⟨g, cap, hv, (Array.getElem?_eq_some_iff.1 hg).1, hn, hm⟩
theorem Own.there (h : Own w e k v xs) (hp : 0 < xs.length) : ∃ g cap, v = .slice (some ⟨g, 0, none⟩) xs.length cap ∧ g < w.heap.size ∧ xs.length ≤ cap ∧ cap ≤ maxLen := by
  rcases h.shape with ⟨_, hx⟩ | h
  · rw [hx] at hp; simp at hp
  · exact h
theorem Own.lt (h : Own w e k v xs) {b : Nat} (hb : v.ownBlock = .some b) : b < w.heap.size := (World.ownsRow.lt h b hb).2
theorem Own.block (h : Own w e k v xs) (hb : ∀ b, v.ownBlock = .some b → w'.heap[b]? = w.heap[b]?) : Own w' e k v xs := by
  refine ⟨h.1, ?_⟩
  rcases h.2 with hn | ⟨g, cap, cur, rfl, h0, hg, rest⟩
  · exact .inl hn
  · refine .inr ⟨g, cap, cur, rfl, h0, ?_, rest⟩
    rw [hb g rfl]; exact hg
theorem Own.alloc (h : Own w e k v xs) (o : Obj) : Own (w.alloc o) e k v xs := World.ownsRow.alloc h o
theorem Own.draw (h : Own w e k v xs) : Own w.drew e k v xs := h.block fun _ _ => rfl
theorem Own.draws (h : Own w e k v xs) (n : Nat) : Own (w.drewN n) e k v xs := h.block fun _ _ => rfl
theorem Own.far (h : Own w e k v xs) {b o : Nat} (hb : v.ownBlock ≠ .some b) (u : Value) : Own (w.setCell ⟨b, o, none⟩ u) e k v xs := ownsRow_setCell_other (a := ⟨b, o, none⟩) h hb u
theorem Own.cell {g n cap : Nat} (h : Own w e k (.slice (.some ⟨g, 0, none⟩) n cap) xs) (hn : n = xs.length) (j : Nat) (hj : j < xs.length) : w.cell? ⟨g, j, none⟩ = .some (.int k (xs.getD j 0)) := by
  subst hn
  rw [World.ownsRow.cellAt h j (by simpa using hj)]
  simp [List.getElem?_eq_getElem hj]
theorem Own.free {g n cap : Nat} (h : Own w e k (.slice (.some ⟨g, 0, none⟩) n cap) xs) (hn : n = xs.length) (j : Nat) : w.frozen? ⟨g, j, none⟩ = false := by
  subst hn
  exact World.ownsRow.frozenAt h j
theorem Own.store {g n cap : Nat} (h : Own w e k (.slice (.some ⟨g, 0, none⟩) n cap) xs) (hn : n = xs.length) (j : Nat) (u : Int) : Own (w.setCell ⟨g, j, none⟩ (.int k u)) e k (.slice (.some ⟨g, 0, none⟩) n cap) (xs.set j u) := by
  subst hn
  have := (World.ownsRow.stored h j (.int k u)).1
  unfold Own
  rw [List.map_set, List.length_set]
  exact this
theorem Own.cut {g n cap : Nat} (h : Own w e k (.slice (.some ⟨g, 0, none⟩) n cap) xs) (m : Nat) (hm : m ≤ xs.length) : Own w e k (.slice (.some ⟨g, 0, none⟩) m cap) (xs.take m) := by
  have hl : (xs.take m).length = m := by simp; omega
  unfold Own
  rw [hl]
  refine ⟨by simp; omega, ?_⟩
  rcases h.2 with ⟨h', _⟩ | ⟨g', cap', cur, h', hb, hg, hnc, hcm, hcs, htake⟩
  · simp at h'
  · simp only [Value.slice.injEq, Option.some.injEq, Addr.mk.injEq, and_true] at h'
    obtain ⟨rfl, rfl, rfl⟩ := h'
    refine .inr ⟨g, cap, cur, rfl, hb, hg, by omega, hcm, hcs, ?_⟩
    rw [List.map_take, ← htake, List.take_take]
    congr 1
    omega
end

/-- Which blocks it lies in. -/
def Foot (T : Nat) (v2 v3 v4 v5 : Value) (b : Nat) : Prop := b = T ∨ v2.ownBlock = .some b ∨ v3.ownBlock = .some b ∨ v4.ownBlock = .some b ∨ v5.ownBlock = .some b

/-- Blocks outside F are as they were; what is in F' was in F, or is new. -/
structure Turn (w w' : World) (F F' : Nat → Prop) : Prop where
  os : w'.os = w.os
  tape : w'.tape = w.tape
  output : w'.output = w.output
  size : w.heap.size ≤ w'.heap.size
  block : ∀ b, b < w.heap.size → ¬ F b → w'.heap[b]? = w.heap[b]?
  foot : ∀ b, F' b → F b ∨ w.heap.size ≤ b
theorem Turn.refl (w : World) (F : Nat → Prop) : Turn w w F F := ⟨rfl, rfl, rfl, Nat.le_refl _, fun _ _ _ => rfl, fun _ h => .inl h⟩
theorem Turn.trans {w w' w'' : World} {F F' F'' : Nat → Prop} (h : Turn w w' F F') (k : Turn w' w'' F' F'') : Turn w w'' F F'' :=
  ⟨k.os.trans h.os, k.tape.trans h.tape, k.output.trans h.output, Nat.le_trans h.size k.size,
    fun b hb hF => (k.block b (Nat.lt_of_lt_of_le hb h.size) (fun hF' => (h.foot b hF').elim hF (fun hl => by omega))).trans (h.block b hb hF),
    fun b hF'' => (k.foot b hF'').elim (fun hF' => h.foot b hF') (fun hl => .inr (Nat.le_trans h.size hl))⟩
theorem Turn.draw {w w' : World} {F F' : Nat → Prop} (h : Turn w w' F F') : Turn w w'.drew F F' := ⟨h.os, h.tape, h.output, h.size, h.block, h.foot⟩
theorem Turn.draws {w w' : World} {F F' : Nat → Prop} (h : Turn w w' F F') (n : Nat) : Turn w (w'.drewN n) F F' := ⟨h.os, h.tape, h.output, h.size, h.block, h.foot⟩
theorem Turn.set {w w' : World} {F F' : Nat → Prop} (h : Turn w w' F F') {b : Nat} (hb : F' b) (o : Nat) (u : Value) : Turn w (w'.setCell ⟨b, o, none⟩ u) F F' :=
  h.trans ⟨rfl, rfl, rfl, by simp, fun c _ hF => Below.heap_setCell _ _ _ _ (fun e => hF (by have e' : c = b := e; rw [e']; exact hb)), fun _ hF => .inl hF⟩
theorem Turn.sub {w w' : World} {F F' F'' : Nat → Prop} (h : Turn w w' F F') (hs : ∀ b, F'' b → F' b) : Turn w w' F F'' := ⟨h.os, h.tape, h.output, h.size, h.block, fun b hb => h.foot b (hs b hb)⟩

/-- Block T holds a TwoLevel that holds t; its slices are v2 (summaries), v3 (numbers), v4 (firsts), v5 (words), each in a row of its own. -/
structure Tw (w : World) (T : Nat) (t : TL) (v2 v3 v4 v5 : Value) : Prop where
  lt : T < w.heap.size
  c0 : w.cell? ⟨T, 0, none⟩ = .some (.int .i64 t.base)
  c1 : w.cell? ⟨T, 1, none⟩ = .some (.bool t.gaps)
  c2 : w.cell? ⟨T, 2, none⟩ = .some v2
  c3 : w.cell? ⟨T, 3, none⟩ = .some v3
  c4 : w.cell? ⟨T, 4, none⟩ = .some v4
  c5 : w.cell? ⟨T, 5, none⟩ = .some v5
  free : ∀ j, w.frozen? ⟨T, j, none⟩ = false
  o2 : Own w 34 .u64 v2 t.ss
  o3 : Own w 21 .i32 v3 t.ns
  o4 : Own w 21 .i32 v4 t.fs
  o5 : Own w 34 .u64 v5 t.ws
  t2 : v2.ownBlock ≠ .some T
  t3 : v3.ownBlock ≠ .some T
  t4 : v4.ownBlock ≠ .some T
  t5 : v5.ownBlock ≠ .some T
  s23 : ∀ b, v2.ownBlock = .some b → v3.ownBlock ≠ .some b
  s24 : ∀ b, v2.ownBlock = .some b → v4.ownBlock ≠ .some b
  s25 : ∀ b, v2.ownBlock = .some b → v5.ownBlock ≠ .some b
  s34 : ∀ b, v3.ownBlock = .some b → v4.ownBlock ≠ .some b
  s35 : ∀ b, v3.ownBlock = .some b → v5.ownBlock ≠ .some b
  s45 : ∀ b, v4.ownBlock = .some b → v5.ownBlock ≠ .some b

theorem ne_block {b b' o o' : Nat} (h : b ≠ b') : (⟨b, o, none⟩ : Addr) ≠ ⟨b', o', none⟩ := fun e => h (congrArg Addr.block e)
theorem ne_off {b o o' : Nat} (h : o ≠ o') : (⟨b, o, none⟩ : Addr) ≠ ⟨b, o', none⟩ := fun e => h (congrArg Addr.off e)
theorem farT (w : World) (T i j : Nat) (v : Value) (h : i ≠ j) : (w.setCell ⟨T, i, none⟩ v).cell? ⟨T, j, none⟩ = w.cell? ⟨T, j, none⟩ := World.cell?_setCell_other _ _ _ _ (ne_off h)

section
variable {w w' : World} {T : Nat} {t : TL} {v2 v3 v4 v5 : Value}
/-- A world in which its blocks are as they were. -/
theorem Tw.block (h : Tw w T t v2 v3 v4 v5) (hz : w.heap.size ≤ w'.heap.size) (hb : ∀ b, b < w.heap.size → Foot T v2 v3 v4 v5 b → w'.heap[b]? = w.heap[b]?) : Tw w' T t v2 v3 v4 v5 :=
  have hT := hb T h.lt (.inl rfl)
  have c := fun j => World.cell?_of_block (w := w) (w' := w') (a := ⟨T, j, none⟩) hT
  { h with
    lt := Nat.lt_of_lt_of_le h.lt hz
    c0 := (c 0).trans h.c0, c1 := (c 1).trans h.c1, c2 := (c 2).trans h.c2, c3 := (c 3).trans h.c3, c4 := (c 4).trans h.c4, c5 := (c 5).trans h.c5
    free := fun j => (World.frozen?_of_block (w := w) (w' := w') (a := ⟨T, j, none⟩) hT).trans (h.free j)
    o2 := h.o2.block fun b e => hb b (h.o2.lt e) (.inr (.inl e))
    o3 := h.o3.block fun b e => hb b (h.o3.lt e) (.inr (.inr (.inl e)))
    o4 := h.o4.block fun b e => hb b (h.o4.lt e) (.inr (.inr (.inr (.inl e))))
    o5 := h.o5.block fun b e => hb b (h.o5.lt e) (.inr (.inr (.inr (.inr e)))) }
theorem Tw.alloc (h : Tw w T t v2 v3 v4 v5) (o : Obj) : Tw (w.alloc o) T t v2 v3 v4 v5 := h.block (by simp) fun b hb _ => Below.heap_alloc _ _ _ hb
theorem Tw.draw (h : Tw w T t v2 v3 v4 v5) : Tw w.drew T t v2 v3 v4 v5 := h.block (Nat.le_refl _) fun _ _ _ => rfl
theorem Tw.draws (h : Tw w T t v2 v3 v4 v5) (n : Nat) : Tw (w.drewN n) T t v2 v3 v4 v5 := h.block (Nat.le_refl _) fun _ _ _ => rfl
theorem Tw.footLt (h : Tw w T t v2 v3 v4 v5) {b : Nat} (hb : Foot T v2 v3 v4 v5 b) : b < w.heap.size := by
  rcases hb with rfl | e | e | e | e
  · exact h.lt
  · exact h.o2.lt e
  · exact h.o3.lt e
  · exact h.o4.lt e
  · exact h.o5.lt e
theorem Tw.setBase (h : Tw w T t v2 v3 v4 v5) (x : Int) : Tw (w.setCell ⟨T, 0, none⟩ (.int .i64 x)) T { t with base := x } v2 v3 v4 v5 :=
  have c := fun j hj => farT w T 0 j (.int .i64 x) hj
  { h with
    lt := by have := h.lt; simpa using this
    c0 := World.cell?_setCell_same _ _ _ h.c0, c1 := (c 1 (by decide)).trans h.c1, c2 := (c 2 (by decide)).trans h.c2, c3 := (c 3 (by decide)).trans h.c3, c4 := (c 4 (by decide)).trans h.c4, c5 := (c 5 (by decide)).trans h.c5
    free := fun j => by rw [World.frozen?_setCell]; exact h.free j
    o2 := h.o2.far h.t2 _, o3 := h.o3.far h.t3 _, o4 := h.o4.far h.t4 _, o5 := h.o5.far h.t5 _ }
theorem Tw.setGaps (h : Tw w T t v2 v3 v4 v5) (x : Bool) : Tw (w.setCell ⟨T, 1, none⟩ (.bool x)) T { t with gaps := x } v2 v3 v4 v5 :=
  have c := fun j hj => farT w T 1 j (.bool x) hj
  { h with
    lt := by have := h.lt; simpa using this
    c0 := (c 0 (by decide)).trans h.c0, c1 := World.cell?_setCell_same _ _ _ h.c1, c2 := (c 2 (by decide)).trans h.c2, c3 := (c 3 (by decide)).trans h.c3, c4 := (c 4 (by decide)).trans h.c4, c5 := (c 5 (by decide)).trans h.c5
    free := fun j => by rw [World.frozen?_setCell]; exact h.free j
    o2 := h.o2.far h.t2 _, o3 := h.o3.far h.t3 _, o4 := h.o4.far h.t4 _, o5 := h.o5.far h.t5 _ }
/-- A new slice in the field ss. -/
theorem Tw.set2 (h : Tw w T t v2 v3 v4 v5) {v' : Value} {xs : List Int} (ho : Own w 34 .u64 v' xs) (ht : v'.ownBlock ≠ .some T) (hs3 : ∀ b, v'.ownBlock = .some b → v3.ownBlock ≠ .some b) (hs4 : ∀ b, v'.ownBlock = .some b → v4.ownBlock ≠ .some b) (hs5 : ∀ b, v'.ownBlock = .some b → v5.ownBlock ≠ .some b) :
    Tw (w.setCell ⟨T, 2, none⟩ v') T { t with ss := xs } v' v3 v4 v5 :=
  have c := fun j hj => farT w T 2 j v' hj
  { h with
    lt := by have := h.lt; simpa using this
    c0 := (c 0 (by decide)).trans h.c0, c1 := (c 1 (by decide)).trans h.c1, c2 := World.cell?_setCell_same _ _ _ h.c2, c3 := (c 3 (by decide)).trans h.c3, c4 := (c 4 (by decide)).trans h.c4, c5 := (c 5 (by decide)).trans h.c5
    free := fun j => by rw [World.frozen?_setCell]; exact h.free j
    o2 := ho.far ht _, o3 := h.o3.far h.t3 _, o4 := h.o4.far h.t4 _, o5 := h.o5.far h.t5 _
    t2 := ht
    s23 := fun b hb hb' => hs3 b hb hb', s24 := fun b hb hb' => hs4 b hb hb', s25 := fun b hb hb' => hs5 b hb hb' }
/-- A store into the row of ss. -/
theorem Tw.put2 {g n cap : Nat} (h : Tw w T t (.slice (.some ⟨g, 0, none⟩) n cap) v3 v4 v5) (hn : n = t.ss.length) (i : Nat) (x : Int) :
    Tw (w.setCell ⟨g, i, none⟩ (.int .u64 x)) T { t with ss := t.ss.set i x } (.slice (.some ⟨g, 0, none⟩) n cap) v3 v4 v5 :=
  have hgT : g ≠ T := fun e => h.t2 (by rw [e]; rfl)
  have c := fun j => World.cell?_setCell_other w ⟨g, i, none⟩ ⟨T, j, none⟩ (.int .u64 x) (ne_block hgT)
  { h with
    lt := by have := h.lt; simpa using this
    c0 := (c 0).trans h.c0, c1 := (c 1).trans h.c1, c2 := (c 2).trans h.c2, c3 := (c 3).trans h.c3, c4 := (c 4).trans h.c4, c5 := (c 5).trans h.c5
    free := fun j => by rw [World.frozen?_setCell]; exact h.free j
    o2 := h.o2.store hn i x, o3 := h.o3.far (fun e => h.s23 g rfl e) _, o4 := h.o4.far (fun e => h.s24 g rfl e) _, o5 := h.o5.far (fun e => h.s25 g rfl e) _ }
/-- A new slice in the field ns. -/
theorem Tw.set3 (h : Tw w T t v2 v3 v4 v5) {v' : Value} {xs : List Int} (ho : Own w 21 .i32 v' xs) (ht : v'.ownBlock ≠ .some T) (hs2 : ∀ b, v'.ownBlock = .some b → v2.ownBlock ≠ .some b) (hs4 : ∀ b, v'.ownBlock = .some b → v4.ownBlock ≠ .some b) (hs5 : ∀ b, v'.ownBlock = .some b → v5.ownBlock ≠ .some b) :
    Tw (w.setCell ⟨T, 3, none⟩ v') T { t with ns := xs } v2 v' v4 v5 :=
  have c := fun j hj => farT w T 3 j v' hj
  { h with
    lt := by have := h.lt; simpa using this
    c0 := (c 0 (by decide)).trans h.c0, c1 := (c 1 (by decide)).trans h.c1, c2 := (c 2 (by decide)).trans h.c2, c3 := World.cell?_setCell_same _ _ _ h.c3, c4 := (c 4 (by decide)).trans h.c4, c5 := (c 5 (by decide)).trans h.c5
    free := fun j => by rw [World.frozen?_setCell]; exact h.free j
    o2 := h.o2.far h.t2 _, o3 := ho.far ht _, o4 := h.o4.far h.t4 _, o5 := h.o5.far h.t5 _
    t3 := ht
    s23 := fun b hb hb' => hs2 b hb' hb, s34 := fun b hb hb' => hs4 b hb hb', s35 := fun b hb hb' => hs5 b hb hb' }
/-- A store into the row of ns. -/
theorem Tw.put3 {g n cap : Nat} (h : Tw w T t v2 (.slice (.some ⟨g, 0, none⟩) n cap) v4 v5) (hn : n = t.ns.length) (i : Nat) (x : Int) :
    Tw (w.setCell ⟨g, i, none⟩ (.int .i32 x)) T { t with ns := t.ns.set i x } v2 (.slice (.some ⟨g, 0, none⟩) n cap) v4 v5 :=
  have hgT : g ≠ T := fun e => h.t3 (by rw [e]; rfl)
  have c := fun j => World.cell?_setCell_other w ⟨g, i, none⟩ ⟨T, j, none⟩ (.int .i32 x) (ne_block hgT)
  { h with
    lt := by have := h.lt; simpa using this
    c0 := (c 0).trans h.c0, c1 := (c 1).trans h.c1, c2 := (c 2).trans h.c2, c3 := (c 3).trans h.c3, c4 := (c 4).trans h.c4, c5 := (c 5).trans h.c5
    free := fun j => by rw [World.frozen?_setCell]; exact h.free j
    o2 := h.o2.far (fun e => h.s23 g e rfl) _, o3 := h.o3.store hn i x, o4 := h.o4.far (fun e => h.s34 g rfl e) _, o5 := h.o5.far (fun e => h.s35 g rfl e) _ }
/-- A new slice in the field fs. -/
theorem Tw.set4 (h : Tw w T t v2 v3 v4 v5) {v' : Value} {xs : List Int} (ho : Own w 21 .i32 v' xs) (ht : v'.ownBlock ≠ .some T) (hs2 : ∀ b, v'.ownBlock = .some b → v2.ownBlock ≠ .some b) (hs3 : ∀ b, v'.ownBlock = .some b → v3.ownBlock ≠ .some b) (hs5 : ∀ b, v'.ownBlock = .some b → v5.ownBlock ≠ .some b) :
    Tw (w.setCell ⟨T, 4, none⟩ v') T { t with fs := xs } v2 v3 v' v5 :=
  have c := fun j hj => farT w T 4 j v' hj
  { h with
    lt := by have := h.lt; simpa using this
    c0 := (c 0 (by decide)).trans h.c0, c1 := (c 1 (by decide)).trans h.c1, c2 := (c 2 (by decide)).trans h.c2, c3 := (c 3 (by decide)).trans h.c3, c4 := World.cell?_setCell_same _ _ _ h.c4, c5 := (c 5 (by decide)).trans h.c5
    free := fun j => by rw [World.frozen?_setCell]; exact h.free j
    o2 := h.o2.far h.t2 _, o3 := h.o3.far h.t3 _, o4 := ho.far ht _, o5 := h.o5.far h.t5 _
    t4 := ht
    s24 := fun b hb hb' => hs2 b hb' hb, s34 := fun b hb hb' => hs3 b hb' hb, s45 := fun b hb hb' => hs5 b hb hb' }
/-- A store into the row of fs. -/
theorem Tw.put4 {g n cap : Nat} (h : Tw w T t v2 v3 (.slice (.some ⟨g, 0, none⟩) n cap) v5) (hn : n = t.fs.length) (i : Nat) (x : Int) :
    Tw (w.setCell ⟨g, i, none⟩ (.int .i32 x)) T { t with fs := t.fs.set i x } v2 v3 (.slice (.some ⟨g, 0, none⟩) n cap) v5 :=
  have hgT : g ≠ T := fun e => h.t4 (by rw [e]; rfl)
  have c := fun j => World.cell?_setCell_other w ⟨g, i, none⟩ ⟨T, j, none⟩ (.int .i32 x) (ne_block hgT)
  { h with
    lt := by have := h.lt; simpa using this
    c0 := (c 0).trans h.c0, c1 := (c 1).trans h.c1, c2 := (c 2).trans h.c2, c3 := (c 3).trans h.c3, c4 := (c 4).trans h.c4, c5 := (c 5).trans h.c5
    free := fun j => by rw [World.frozen?_setCell]; exact h.free j
    o2 := h.o2.far (fun e => h.s24 g e rfl) _, o3 := h.o3.far (fun e => h.s34 g e rfl) _, o4 := h.o4.store hn i x, o5 := h.o5.far (fun e => h.s45 g rfl e) _ }
/-- A new slice in the field ws. -/
theorem Tw.set5 (h : Tw w T t v2 v3 v4 v5) {v' : Value} {xs : List Int} (ho : Own w 34 .u64 v' xs) (ht : v'.ownBlock ≠ .some T) (hs2 : ∀ b, v'.ownBlock = .some b → v2.ownBlock ≠ .some b) (hs3 : ∀ b, v'.ownBlock = .some b → v3.ownBlock ≠ .some b) (hs4 : ∀ b, v'.ownBlock = .some b → v4.ownBlock ≠ .some b) :
    Tw (w.setCell ⟨T, 5, none⟩ v') T { t with ws := xs } v2 v3 v4 v' :=
  have c := fun j hj => farT w T 5 j v' hj
  { h with
    lt := by have := h.lt; simpa using this
    c0 := (c 0 (by decide)).trans h.c0, c1 := (c 1 (by decide)).trans h.c1, c2 := (c 2 (by decide)).trans h.c2, c3 := (c 3 (by decide)).trans h.c3, c4 := (c 4 (by decide)).trans h.c4, c5 := World.cell?_setCell_same _ _ _ h.c5
    free := fun j => by rw [World.frozen?_setCell]; exact h.free j
    o2 := h.o2.far h.t2 _, o3 := h.o3.far h.t3 _, o4 := h.o4.far h.t4 _, o5 := ho.far ht _
    t5 := ht
    s25 := fun b hb hb' => hs2 b hb' hb, s35 := fun b hb hb' => hs3 b hb' hb, s45 := fun b hb hb' => hs4 b hb' hb }
/-- A store into the row of ws. -/
theorem Tw.put5 {g n cap : Nat} (h : Tw w T t v2 v3 v4 (.slice (.some ⟨g, 0, none⟩) n cap)) (hn : n = t.ws.length) (i : Nat) (x : Int) :
    Tw (w.setCell ⟨g, i, none⟩ (.int .u64 x)) T { t with ws := t.ws.set i x } v2 v3 v4 (.slice (.some ⟨g, 0, none⟩) n cap) :=
  have hgT : g ≠ T := fun e => h.t5 (by rw [e]; rfl)
  have c := fun j => World.cell?_setCell_other w ⟨g, i, none⟩ ⟨T, j, none⟩ (.int .u64 x) (ne_block hgT)
  { h with
    lt := by have := h.lt; simpa using this
    c0 := (c 0).trans h.c0, c1 := (c 1).trans h.c1, c2 := (c 2).trans h.c2, c3 := (c 3).trans h.c3, c4 := (c 4).trans h.c4, c5 := (c 5).trans h.c5
    free := fun j => by rw [World.frozen?_setCell]; exact h.free j
    o2 := h.o2.far (fun e => h.s25 g e rfl) _, o3 := h.o3.far (fun e => h.s35 g e rfl) _, o4 := h.o4.far (fun e => h.s45 g e rfl) _, o5 := h.o5.store hn i x }
end
end Go.Proofs.Qxb6627971a

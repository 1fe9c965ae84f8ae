/-
  AN ENTRY IN MEMORY, and what a call that writes to it alone leaves as it was.
-/
import Derived.Test.Qxb6627893aRows
import Derived.Test.Qxb6627893aPlain
import Derived.WalkKit
import Derived.WalkSpells
import Derived.WalkSmall
import Derived.WalkLawsBesides
import Derived.Deep.Draws
namespace Go.Proofs.Qxb6627893a
open Go.RowKit

/-- Block E holds an Entry of kind k with Stat s and no listing. -/
structure Ent (w : World) (E : Nat) (k : ByteArray) (s : St) : Prop where
  lt : E < w.heap.size
  c0 : w.cell? ⟨E, 0, none⟩ = some (.string k)
  c1 : w.cell? ⟨E, 1, none⟩ = some (.int .u64 s.a)
  c2 : w.cell? ⟨E, 2, none⟩ = some (.int .i64 s.b)
  c3 : w.cell? ⟨E, 3, none⟩ = some (.int .i64 s.c)
  c4 : w.cell? ⟨E, 4, none⟩ = some (.int .u32 s.d)
  c5 : w.cell? ⟨E, 5, none⟩ = some (.int .u32 s.e)
  c6 : w.cell? ⟨E, 6, none⟩ = some (.int .u32 s.f)
  c7 : w.cell? ⟨E, 7, none⟩ = some (.int .i64 s.g)
  c8 : w.cell? ⟨E, 8, none⟩ = some (.pointer none)
  free : ∀ j, w.frozen? ⟨E, j, none⟩ = false

/-- Nothing that was there has turned but block E. -/
structure Keep (E : Nat) (w w' : World) : Prop where
  os : w'.os = w.os
  tape : w'.tape = w.tape
  output : w'.output = w.output
  size : w.heap.size ≤ w'.heap.size
  block : ∀ b, b < w.heap.size → b ≠ E → w'.heap[b]? = w.heap[b]?

theorem ne_block {b b' o o' : Nat} (h : b ≠ b') : (⟨b, o, none⟩ : Addr) ≠ ⟨b', o', none⟩ := fun e => h (congrArg Addr.block e)
theorem ne_off {b o o' : Nat} (h : o ≠ o') : (⟨b, o, none⟩ : Addr) ≠ ⟨b, o', none⟩ := fun e => h (congrArg Addr.off e)

section
variable {E : Nat} {w w' w'' : World}
theorem Keep.refl (E : Nat) (w : World) : Keep E w w := ⟨rfl, rfl, rfl, Nat.le_refl _, fun _ _ _ => rfl⟩
theorem Keep.trans (h : Keep E w w') (k : Keep E w' w'') : Keep E w w'' :=
  ⟨k.os.trans h.os, k.tape.trans h.tape, k.output.trans h.output, Nat.le_trans h.size k.size, fun b hb he => (k.block b (Nat.lt_of_lt_of_le hb h.size) he).trans (h.block b hb he)⟩
theorem Keep.alloc (h : Keep E w w') (o : Obj) : Keep E w (w'.alloc o) :=
  h.trans ⟨rfl, rfl, rfl, by simp, fun b hb _ => Below.heap_alloc _ _ _ hb⟩
theorem Keep.set (h : Keep E w w') (o : Nat) (v : Value) : Keep E w (w'.setCell ⟨E, o, none⟩ v) :=
  h.trans ⟨rfl, rfl, rfl, by simp, fun b _ he => Below.heap_setCell _ _ _ _ he⟩
theorem Keep.draw (h : Keep E w w') : Keep E w w'.drew := ⟨h.os, h.tape, h.output, h.size, h.block⟩
theorem Keep.draws (h : Keep E w w') (n : Nat) : Keep E w (w'.drewN n) := ⟨h.os, h.tape, h.output, h.size, h.block⟩
theorem Keep.cell (h : Keep E w w') {b o : Nat} (hb : b < w.heap.size) (he : b ≠ E) : w'.cell? ⟨b, o, none⟩ = w.cell? ⟨b, o, none⟩ := World.cell?_of_block (w := w) (h.block b hb he)
theorem Keep.frozen (h : Keep E w w') {b o : Nat} (hb : b < w.heap.size) (he : b ≠ E) : w'.frozen? ⟨b, o, none⟩ = w.frozen? ⟨b, o, none⟩ := World.frozen?_of_block (w := w) (h.block b hb he)
theorem Keep.below (h : Keep E w w') {W : World} (hW : Below W.heap.size W w) (hE : W.heap.size ≤ E) : Below W.heap.size W w' :=
  hW.trans ⟨h.os, h.tape, h.output, h.size, fun b hb => h.block b (Nat.lt_of_lt_of_le hb hW.size) (by omega)⟩
end

section
variable {w : World} {E : Nat} {k : ByteArray} {s : St}
theorem Ent.alloc (h : Ent w E k s) (o : Obj) : Ent (w.alloc o) E k s :=
  have c := fun j => World.cell?_alloc_past (w := w) o E j h.lt
  ⟨by have := h.lt; simp; omega, (c 0).trans h.c0, (c 1).trans h.c1, (c 2).trans h.c2, (c 3).trans h.c3, (c 4).trans h.c4, (c 5).trans h.c5, (c 6).trans h.c6, (c 7).trans h.c7, (c 8).trans h.c8,
    fun j => (World.frozen?_alloc_past o E j h.lt).trans (h.free j)⟩
theorem Ent.draws (h : Ent w E k s) (n : Nat) : Ent (w.drewN n) E k s := ⟨h.lt, h.c0, h.c1, h.c2, h.c3, h.c4, h.c5, h.c6, h.c7, h.c8, h.free⟩
theorem Ent.draw (h : Ent w E k s) : Ent w.drew E k s := ⟨h.lt, h.c0, h.c1, h.c2, h.c3, h.c4, h.c5, h.c6, h.c7, h.c8, h.free⟩
theorem Ent.kept {E' : Nat} {w' : World} (h : Ent w E k s) (hk : Keep E' w w') (hne : E ≠ E') : Ent w' E k s :=
  have c := fun j => hk.cell (o := j) h.lt hne
  ⟨Nat.lt_of_lt_of_le h.lt hk.size, (c 0).trans h.c0, (c 1).trans h.c1, (c 2).trans h.c2, (c 3).trans h.c3, (c 4).trans h.c4, (c 5).trans h.c5, (c 6).trans h.c6, (c 7).trans h.c7, (c 8).trans h.c8,
    fun j => (hk.frozen h.lt hne).trans (h.free j)⟩

theorem far (w : World) (E i j : Nat) (v : Value) (h : i ≠ j) : (w.setCell ⟨E, i, none⟩ v).cell? ⟨E, j, none⟩ = w.cell? ⟨E, j, none⟩ := World.cell?_setCell_other _ _ _ _ (ne_off h)

theorem Ent.kind (h : Ent w E k s) (k' : ByteArray) : Ent (w.setCell ⟨E, 0, none⟩ (.string k')) E k' s :=
  have c := fun j hj => far w E 0 j (.string k') hj
  ⟨by have := h.lt; simpa using this, World.cell?_setCell_same _ _ _ h.c0, (c 1 (by decide)).trans h.c1, (c 2 (by decide)).trans h.c2, (c 3 (by decide)).trans h.c3, (c 4 (by decide)).trans h.c4, (c 5 (by decide)).trans h.c5,
    (c 6 (by decide)).trans h.c6, (c 7 (by decide)).trans h.c7, (c 8 (by decide)).trans h.c8, fun j => by rw [World.frozen?_setCell]; exact h.free j⟩
theorem Ent.setA (h : Ent w E k s) (v : Int) : Ent (w.setCell ⟨E, 1, none⟩ (.int .u64 v)) E k { s with a := v } :=
  have c := fun j hj => far w E 1 j (.int .u64 v) hj
  ⟨by have := h.lt; simpa using this, (c 0 (by decide)).trans h.c0, World.cell?_setCell_same _ _ _ h.c1, (c 2 (by decide)).trans h.c2, (c 3 (by decide)).trans h.c3, (c 4 (by decide)).trans h.c4, (c 5 (by decide)).trans h.c5,
    (c 6 (by decide)).trans h.c6, (c 7 (by decide)).trans h.c7, (c 8 (by decide)).trans h.c8, fun j => by rw [World.frozen?_setCell]; exact h.free j⟩
theorem Ent.setB (h : Ent w E k s) (v : Int) : Ent (w.setCell ⟨E, 2, none⟩ (.int .i64 v)) E k { s with b := v } :=
  have c := fun j hj => far w E 2 j (.int .i64 v) hj
  ⟨by have := h.lt; simpa using this, (c 0 (by decide)).trans h.c0, (c 1 (by decide)).trans h.c1, World.cell?_setCell_same _ _ _ h.c2, (c 3 (by decide)).trans h.c3, (c 4 (by decide)).trans h.c4, (c 5 (by decide)).trans h.c5,
    (c 6 (by decide)).trans h.c6, (c 7 (by decide)).trans h.c7, (c 8 (by decide)).trans h.c8, fun j => by rw [World.frozen?_setCell]; exact h.free j⟩
theorem Ent.setC (h : Ent w E k s) (v : Int) : Ent (w.setCell ⟨E, 3, none⟩ (.int .i64 v)) E k { s with c := v } :=
  have c := fun j hj => far w E 3 j (.int .i64 v) hj
  ⟨by have := h.lt; simpa using this, (c 0 (by decide)).trans h.c0, (c 1 (by decide)).trans h.c1, (c 2 (by decide)).trans h.c2, World.cell?_setCell_same _ _ _ h.c3, (c 4 (by decide)).trans h.c4, (c 5 (by decide)).trans h.c5,
    (c 6 (by decide)).trans h.c6, (c 7 (by decide)).trans h.c7, (c 8 (by decide)).trans h.c8, fun j => by rw [World.frozen?_setCell]; exact h.free j⟩
theorem Ent.setD (h : Ent w E k s) (v : Int) : Ent (w.setCell ⟨E, 4, none⟩ (.int .u32 v)) E k { s with d := v } :=
  have c := fun j hj => far w E 4 j (.int .u32 v) hj
  ⟨by have := h.lt; simpa using this, (c 0 (by decide)).trans h.c0, (c 1 (by decide)).trans h.c1, (c 2 (by decide)).trans h.c2, (c 3 (by decide)).trans h.c3, World.cell?_setCell_same _ _ _ h.c4, (c 5 (by decide)).trans h.c5,
    (c 6 (by decide)).trans h.c6, (c 7 (by decide)).trans h.c7, (c 8 (by decide)).trans h.c8, fun j => by rw [World.frozen?_setCell]; exact h.free j⟩
theorem Ent.setE (h : Ent w E k s) (v : Int) : Ent (w.setCell ⟨E, 5, none⟩ (.int .u32 v)) E k { s with e := v } :=
  have c := fun j hj => far w E 5 j (.int .u32 v) hj
  ⟨by have := h.lt; simpa using this, (c 0 (by decide)).trans h.c0, (c 1 (by decide)).trans h.c1, (c 2 (by decide)).trans h.c2, (c 3 (by decide)).trans h.c3, (c 4 (by decide)).trans h.c4, World.cell?_setCell_same _ _ _ h.c5,
    (c 6 (by decide)).trans h.c6, (c 7 (by decide)).trans h.c7, (c 8 (by decide)).trans h.c8, fun j => by rw [World.frozen?_setCell]; exact h.free j⟩
theorem Ent.setF (h : Ent w E k s) (v : Int) : Ent (w.setCell ⟨E, 6, none⟩ (.int .u32 v)) E k { s with f := v } :=
  have c := fun j hj => far w E 6 j (.int .u32 v) hj
  ⟨by have := h.lt; simpa using this, (c 0 (by decide)).trans h.c0, (c 1 (by decide)).trans h.c1, (c 2 (by decide)).trans h.c2, (c 3 (by decide)).trans h.c3, (c 4 (by decide)).trans h.c4, (c 5 (by decide)).trans h.c5,
    World.cell?_setCell_same _ _ _ h.c6, (c 7 (by decide)).trans h.c7, (c 8 (by decide)).trans h.c8, fun j => by rw [World.frozen?_setCell]; exact h.free j⟩
theorem Ent.setG (h : Ent w E k s) (v : Int) : Ent (w.setCell ⟨E, 7, none⟩ (.int .i64 v)) E k { s with g := v } :=
  have c := fun j hj => far w E 7 j (.int .i64 v) hj
  ⟨by have := h.lt; simpa using this, (c 0 (by decide)).trans h.c0, (c 1 (by decide)).trans h.c1, (c 2 (by decide)).trans h.c2, (c 3 (by decide)).trans h.c3, (c 4 (by decide)).trans h.c4, (c 5 (by decide)).trans h.c5,
    (c 6 (by decide)).trans h.c6, World.cell?_setCell_same _ _ _ h.c7, (c 8 (by decide)).trans h.c8, fun j => by rw [World.frozen?_setCell]; exact h.free j⟩

/-- The whole Stat, stored field by field. -/
def putStat (w : World) (E : Nat) (s : St) : World :=
  ((((((w.setCell ⟨E, 1, none⟩ (.int .u64 s.a)).setCell ⟨E, 2, none⟩ (.int .i64 s.b)).setCell ⟨E, 3, none⟩ (.int .i64 s.c)).setCell ⟨E, 4, none⟩ (.int .u32 s.d)).setCell ⟨E, 5, none⟩ (.int .u32 s.e)).setCell ⟨E, 6, none⟩ (.int .u32 s.f)).setCell ⟨E, 7, none⟩ (.int .i64 s.g)
theorem Ent.stat (h : Ent w E k s) (s' : St) : Ent (putStat w E s') E k s' := ((((((h.setA s'.a).setB s'.b).setC s'.c).setD s'.d).setE s'.e).setF s'.f).setG s'.g
theorem Keep.stat {w w' : World} {E : Nat} (h : Keep E w w') (s' : St) : Keep E w (putStat w' E s') := ((((((h.set _ _).set _ _).set _ _).set _ _).set _ _).set _ _).set _ _
end
end Go.Proofs.Qxb6627893a

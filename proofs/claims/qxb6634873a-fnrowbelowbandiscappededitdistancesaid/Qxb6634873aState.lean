/-
  THE CALL's OWN MEMORY in FnRowBelowBandIsCappedEditDistance: two rows of ints, one array of five bytes: what is known of them, and what each step hands on.
-/
import Derived.Test.Qxb6634873aAgrees
import Derived.Deep.OwnRows
import Derived.WalkSmall
namespace Go.Proofs.Qxb6634873a
open Go.RowKit Go.Deep

/-- Block B holds the n ints f 0, f 1, ..; it may be written. -/
structure IntRow (wr : World) (B n : Nat) (f : Nat → Int) : Prop where
  lt : B < wr.heap.size
  cell : ∀ j, j < n → wr.cell? ⟨B, j, none⟩ = some (.int .i64 (f j))
  free : ∀ j, wr.frozen? ⟨B, j, none⟩ = false

/-- Block B holds five bytes; it may be written. -/
structure ByteRow (wr : World) (B : Nat) (q0 q1 q2 q3 q4 : Int) : Prop where
  lt : B < wr.heap.size
  c0 : wr.cell? ⟨B, 0, none⟩ = some (.int .u8 q0)
  c1 : wr.cell? ⟨B, 1, none⟩ = some (.int .u8 q1)
  c2 : wr.cell? ⟨B, 2, none⟩ = some (.int .u8 q2)
  c3 : wr.cell? ⟨B, 3, none⟩ = some (.int .u8 q3)
  c4 : wr.cell? ⟨B, 4, none⟩ = some (.int .u8 q4)
  free : ∀ j, wr.frozen? ⟨B, j, none⟩ = false

def upd (f : Nat → Int) (j : Nat) (v : Int) : Nat → Int := fun t => if t = j then v else f t
theorem upd_same (f : Nat → Int) (j : Nat) (v : Int) : upd f j v j = v := by simp [upd]
theorem upd_other (f : Nat → Int) (j : Nat) (v : Int) {t : Nat} (h : t ≠ j) : upd f j v t = f t := by simp [upd, h]

theorem ne_block {b b' o o' : Nat} (h : b ≠ b') : (⟨b, o, none⟩ : Addr) ≠ ⟨b', o', none⟩ := fun e => h (congrArg Addr.block e)
theorem ne_off {b o o' : Nat} (h : o ≠ o') : (⟨b, o, none⟩ : Addr) ≠ ⟨b, o', none⟩ := fun e => h (congrArg Addr.off e)

theorem IntRow.alloc {wr : World} {B n : Nat} {f : Nat → Int} (h : IntRow wr B n f) (o : Obj) : IntRow (wr.alloc o) B n f :=
  ⟨by have := h.lt; simp; omega, fun j hj => (World.cell?_alloc_past o B j h.lt).trans (h.cell j hj), fun j => (World.frozen?_alloc_past o B j h.lt).trans (h.free j)⟩
theorem IntRow.draws {wr : World} {B n : Nat} {f : Nat → Int} (h : IntRow wr B n f) (m : Nat) : IntRow (wr.drewN m) B n f := ⟨h.lt, h.cell, h.free⟩
theorem IntRow.draw {wr : World} {B n : Nat} {f : Nat → Int} (h : IntRow wr B n f) : IntRow wr.drew B n f := ⟨h.lt, h.cell, h.free⟩
theorem IntRow.far {wr : World} {B n : Nat} {f : Nat → Int} (h : IntRow wr B n f) {b : Nat} (hb : b ≠ B) (o : Nat) (v : Value) : IntRow (wr.setCell ⟨b, o, none⟩ v) B n f :=
  ⟨by have := h.lt; simpa using this, fun j hj => (World.cell?_setCell_other _ _ _ _ (ne_block hb)).trans (h.cell j hj), fun j => by rw [World.frozen?_setCell]; exact h.free j⟩
theorem IntRow.store {wr : World} {B n : Nat} {f : Nat → Int} (h : IntRow wr B n f) {j : Nat} (hj : j < n) (v : Int) : IntRow (wr.setCell ⟨B, j, none⟩ (.int .i64 v)) B n (upd f j v) :=
  ⟨by have := h.lt; simpa using this, fun t ht => by
    by_cases e : t = j
    · subst e; rw [upd_same]; exact World.cell?_setCell_same _ _ _ (h.cell t hj)
    · rw [upd_other _ _ _ e, World.cell?_setCell_other _ _ _ _ (ne_off (fun x => e x.symm))]; exact h.cell t ht, fun j => by rw [World.frozen?_setCell]; exact h.free j⟩

theorem ByteRow.alloc {wr : World} {B : Nat} {q0 q1 q2 q3 q4 : Int} (h : ByteRow wr B q0 q1 q2 q3 q4) (o : Obj) : ByteRow (wr.alloc o) B q0 q1 q2 q3 q4 :=
  ⟨by have := h.lt; simp; omega, (World.cell?_alloc_past o B 0 h.lt).trans h.c0, (World.cell?_alloc_past o B 1 h.lt).trans h.c1, (World.cell?_alloc_past o B 2 h.lt).trans h.c2,
    (World.cell?_alloc_past o B 3 h.lt).trans h.c3, (World.cell?_alloc_past o B 4 h.lt).trans h.c4, fun j => (World.frozen?_alloc_past o B j h.lt).trans (h.free j)⟩
theorem ByteRow.draws {wr : World} {B : Nat} {q0 q1 q2 q3 q4 : Int} (h : ByteRow wr B q0 q1 q2 q3 q4) (m : Nat) : ByteRow (wr.drewN m) B q0 q1 q2 q3 q4 := ⟨h.lt, h.c0, h.c1, h.c2, h.c3, h.c4, h.free⟩
theorem ByteRow.draw {wr : World} {B : Nat} {q0 q1 q2 q3 q4 : Int} (h : ByteRow wr B q0 q1 q2 q3 q4) : ByteRow wr.drew B q0 q1 q2 q3 q4 := ⟨h.lt, h.c0, h.c1, h.c2, h.c3, h.c4, h.free⟩
theorem ByteRow.far {wr : World} {B : Nat} {q0 q1 q2 q3 q4 : Int} (h : ByteRow wr B q0 q1 q2 q3 q4) {b : Nat} (hb : b ≠ B) (o : Nat) (v : Value) : ByteRow (wr.setCell ⟨b, o, none⟩ v) B q0 q1 q2 q3 q4 :=
  ⟨by have := h.lt; simpa using this, (World.cell?_setCell_other _ _ _ _ (ne_block hb)).trans h.c0, (World.cell?_setCell_other _ _ _ _ (ne_block hb)).trans h.c1, (World.cell?_setCell_other _ _ _ _ (ne_block hb)).trans h.c2,
    (World.cell?_setCell_other _ _ _ _ (ne_block hb)).trans h.c3, (World.cell?_setCell_other _ _ _ _ (ne_block hb)).trans h.c4, fun j => by rw [World.frozen?_setCell]; exact h.free j⟩
/-- Five stores, one behind the other. -/
theorem ByteRow.store {wr : World} {B : Nat} {q0 q1 q2 q3 q4 : Int} (h : ByteRow wr B q0 q1 q2 q3 q4) (p0 p1 p2 p3 p4 : Int) :
    ByteRow (((((wr.setCell ⟨B, 0, none⟩ (.int .u8 p0)).setCell ⟨B, 1, none⟩ (.int .u8 p1)).setCell ⟨B, 2, none⟩ (.int .u8 p2)).setCell ⟨B, 3, none⟩ (.int .u8 p3)).setCell ⟨B, 4, none⟩ (.int .u8 p4)) B p0 p1 p2 p3 p4 := by
  have k : ∀ {i j : Nat}, i ≠ j → (⟨B, i, none⟩ : Addr) ≠ ⟨B, j, none⟩ := fun h => ne_off h
  refine ⟨by have := h.lt; simpa using this, ?_, ?_, ?_, ?_, ?_, fun j => by simp only [World.frozen?_setCell]; exact h.free j⟩
  · rw [World.cell?_setCell_other _ _ _ _ (k (by decide)), World.cell?_setCell_other _ _ _ _ (k (by decide)), World.cell?_setCell_other _ _ _ _ (k (by decide)), World.cell?_setCell_other _ _ _ _ (k (by decide))]
    exact World.cell?_setCell_same _ _ _ h.c0
  · rw [World.cell?_setCell_other _ _ _ _ (k (by decide)), World.cell?_setCell_other _ _ _ _ (k (by decide)), World.cell?_setCell_other _ _ _ _ (k (by decide))]
    exact World.cell?_setCell_same _ _ _ ((World.cell?_setCell_other _ _ _ _ (k (by decide))).trans h.c1)
  · rw [World.cell?_setCell_other _ _ _ _ (k (by decide)), World.cell?_setCell_other _ _ _ _ (k (by decide))]
    exact World.cell?_setCell_same _ _ _ ((World.cell?_setCell_other _ _ _ _ (k (by decide))).trans ((World.cell?_setCell_other _ _ _ _ (k (by decide))).trans h.c2))
  · rw [World.cell?_setCell_other _ _ _ _ (k (by decide))]
    exact World.cell?_setCell_same _ _ _ ((World.cell?_setCell_other _ _ _ _ (k (by decide))).trans ((World.cell?_setCell_other _ _ _ _ (k (by decide))).trans ((World.cell?_setCell_other _ _ _ _ (k (by decide))).trans h.c3)))
  · exact World.cell?_setCell_same _ _ _ ((World.cell?_setCell_other _ _ _ _ (k (by decide))).trans ((World.cell?_setCell_other _ _ _ _ (k (by decide))).trans ((World.cell?_setCell_other _ _ _ _ (k (by decide))).trans ((World.cell?_setCell_other _ _ _ _ (k (by decide))).trans h.c4))))

/-- A row that 'make' has just laid. -/
theorem IntRow.made (w : World) (n : Nat) (e : TypeId) : IntRow (w.alloc (.cells (madeCells #[.int .i64 0] n) e)) w.heap.size n (fun _ => 0) :=
  ⟨by simp, fun j hj => by
    rw [World.cell?_alloc_at _ _ _ _ rfl]
    simp [madeCells, hj, Nat.mod_one], fun j => World.frozen?_alloc_at _ _ _ _ rfl⟩

/-- ALL THAT THE LAW's OWN MEMORY HOLDS: the row above (P), the row that is written (C), the band (R). -/
structure Inv (w wr : World) (n R P C : Nat) (f g : Nat → Int) (q0 q1 q2 q3 q4 : Int) : Prop where
  below : Below w.heap.size w wr
  hP : w.heap.size ≤ P
  hC : w.heap.size ≤ C
  hR : w.heap.size ≤ R
  pc : P ≠ C
  pr : P ≠ R
  cr : C ≠ R
  prev : IntRow wr P (n + 1) f
  cur : IntRow wr C (n + 1) g
  row : ByteRow wr R q0 q1 q2 q3 q4

section
variable {w wr : World} {n R P C : Nat} {f g : Nat → Int} {q0 q1 q2 q3 q4 : Int}
theorem Inv.alloc (h : Inv w wr n R P C f g q0 q1 q2 q3 q4) (o : Obj) : Inv w (wr.alloc o) n R P C f g q0 q1 q2 q3 q4 :=
  ⟨h.below.alloc h.below.size o, h.hP, h.hC, h.hR, h.pc, h.pr, h.cr, h.prev.alloc o, h.cur.alloc o, h.row.alloc o⟩
theorem Inv.draws (h : Inv w wr n R P C f g q0 q1 q2 q3 q4) (m : Nat) : Inv w (wr.drewN m) n R P C f g q0 q1 q2 q3 q4 :=
  ⟨below_drewN h.below m, h.hP, h.hC, h.hR, h.pc, h.pr, h.cr, h.prev.draws m, h.cur.draws m, h.row.draws m⟩
theorem Inv.store (h : Inv w wr n R P C f g q0 q1 q2 q3 q4) {j : Nat} (hj : j < n + 1) (v : Int) : Inv w (wr.setCell ⟨C, j, none⟩ (.int .i64 v)) n R P C f (upd g j v) q0 q1 q2 q3 q4 :=
  ⟨h.below.setCell h.hC _, h.hP, h.hC, h.hR, h.pc, h.pr, h.cr, h.prev.far (Ne.symm h.pc) _ _, h.cur.store hj v, h.row.far h.cr _ _⟩
theorem Inv.band (h : Inv w wr n R P C f g q0 q1 q2 q3 q4) (p0 p1 p2 p3 p4 : Int) :
    Inv w (((((wr.setCell ⟨R, 0, none⟩ (.int .u8 p0)).setCell ⟨R, 1, none⟩ (.int .u8 p1)).setCell ⟨R, 2, none⟩ (.int .u8 p2)).setCell ⟨R, 3, none⟩ (.int .u8 p3)).setCell ⟨R, 4, none⟩ (.int .u8 p4)) n R P C f g p0 p1 p2 p3 p4 :=
  have a := Ne.symm h.pr
  have b := Ne.symm h.cr
  ⟨((((h.below.setCell h.hR _).setCell h.hR _).setCell h.hR _).setCell h.hR _).setCell h.hR _, h.hP, h.hC, h.hR, h.pc, h.pr, h.cr,
    ((((h.prev.far a _ _).far a _ _).far a _ _).far a _ _).far a _ _, ((((h.cur.far b _ _).far b _ _).far b _ _).far b _ _).far b _ _, h.row.store p0 p1 p2 p3 p4⟩
theorem Inv.swap (h : Inv w wr n R P C f g q0 q1 q2 q3 q4) {f' : Nat → Int} (hf : ∀ j, j < n + 1 → g j = f' j) : Inv w wr n R C P f' f q0 q1 q2 q3 q4 :=
  ⟨h.below, h.hC, h.hP, h.hR, Ne.symm h.pc, h.cr, h.pr, ⟨h.cur.lt, fun j hj => by rw [← hf j hj]; exact h.cur.cell j hj, h.cur.free⟩, h.prev, h.row⟩
/-- An argument's cell, in the middle of the walk. -/
theorem Inv.arg (h : Inv w wr n R P C f g q0 q1 q2 q3 q4) {b o : Nat} {v : Value} (hb : b < w.heap.size) (hv : w.cell? ⟨b, o, none⟩ = some v) : wr.cell? ⟨b, o, none⟩ = some v := by
  rw [h.below.cell hb]; exact hv
end
end Go.Proofs.Qxb6634873a

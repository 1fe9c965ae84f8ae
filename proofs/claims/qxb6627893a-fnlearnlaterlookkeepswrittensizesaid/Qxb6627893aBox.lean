/-
  THE WALK of zzLearnedKind (6); a Stat in a box.
-/
import Derived.Test.Qxb6627893aLearn
namespace Go.Proofs.Qxb6627893a
open Go.RowKit

set_option maxHeartbeats 400000 in
theorem kind_any (ek k : ByteArray) (w : World) : Calls Try.prog 6 #[.string ek, .string k] w fun e w' => e = .returned (.string (learnKind ek k)) ∧ w = w' := by
  by_cases h1 : ek.toList = []
  · by_cases h0 : k.toList = []
    · rw [show learnKind ek k = ek from if_neg (fun x => x.2.1 h0)]
      go_enter Try.func6, Try.ntmps6
      go_wp2
      go_ret
      exact ⟨rfl, rfl⟩
    · have h0' : k.toList.isEmpty = false := by simpa using h0
      by_cases h2 : k.toList = [100, 105, 114]
      · rw [show learnKind ek k = ek from if_neg (fun x => x.2.2 h2)]
        go_enter Try.func6, Try.ntmps6
        go_wp2
        go_ret
        exact ⟨rfl, rfl⟩
      · rw [show learnKind ek k = k from if_pos ⟨h1, h0, h2⟩]
        have h2' : (k.toList == [100, 105, 114]) = false := by simpa using h2
        go_enter Try.func6, Try.ntmps6
        go_wp2
        go_ret
        exact ⟨rfl, rfl⟩
  · rw [show learnKind ek k = ek from if_neg (fun x => h1 x.1)]
    have h2' : ek.toList.isEmpty = false := by simpa using h1
    go_enter Try.func6, Try.ntmps6
    go_wp2
    go_ret
    exact ⟨rfl, rfl⟩


/-- Block B holds a Stat. -/
structure Box (w : World) (B : Nat) (s : St) : Prop where
  lt : B < w.heap.size
  c0 : w.cell? ⟨B, 0, none⟩ = some (.int .u64 s.a)
  c1 : w.cell? ⟨B, 1, none⟩ = some (.int .i64 s.b)
  c2 : w.cell? ⟨B, 2, none⟩ = some (.int .i64 s.c)
  c3 : w.cell? ⟨B, 3, none⟩ = some (.int .u32 s.d)
  c4 : w.cell? ⟨B, 4, none⟩ = some (.int .u32 s.e)
  c5 : w.cell? ⟨B, 5, none⟩ = some (.int .u32 s.f)
  c6 : w.cell? ⟨B, 6, none⟩ = some (.int .i64 s.g)
theorem Box.alloc {w : World} {B : Nat} {s : St} (h : Box w B s) (o : Obj) : Box (w.alloc o) B s :=
  have c := fun j => World.cell?_alloc_past (w := w) o B j h.lt
  ⟨by have := h.lt; simp; omega, (c 0).trans h.c0, (c 1).trans h.c1, (c 2).trans h.c2, (c 3).trans h.c3, (c 4).trans h.c4, (c 5).trans h.c5, (c 6).trans h.c6⟩
theorem Box.kept {w w' : World} {E B : Nat} {s : St} (h : Box w B s) (hk : Keep E w w') (hne : B ≠ E) : Box w' B s :=
  have c := fun j => hk.cell (o := j) h.lt hne
  ⟨Nat.lt_of_lt_of_le h.lt hk.size, (c 0).trans h.c0, (c 1).trans h.c1, (c 2).trans h.c2, (c 3).trans h.c3, (c 4).trans h.c4, (c 5).trans h.c5, (c 6).trans h.c6⟩
theorem Box.mk' (w : World) (s : St) (t : TypeId) (B : Nat) (hB : B = w.heap.size) : Box (w.alloc (.cells #[.int .u64 s.a, .int .i64 s.b, .int .i64 s.c, .int .u32 s.d, .int .u32 s.e, .int .u32 s.f, .int .i64 s.g] t)) B s := by
  subst hB
  exact ⟨by simp, World.cell?_alloc_at _ _ _ _ rfl, World.cell?_alloc_at _ _ _ _ rfl, World.cell?_alloc_at _ _ _ _ rfl, World.cell?_alloc_at _ _ _ _ rfl, World.cell?_alloc_at _ _ _ _ rfl, World.cell?_alloc_at _ _ _ _ rfl, World.cell?_alloc_at _ _ _ _ rfl⟩
theorem Ent.mk' (w : World) (k : ByteArray) (s : St) (t : TypeId) (B : Nat) (hB : B = w.heap.size) : Ent (w.alloc (.cells #[.string k, .int .u64 s.a, .int .i64 s.b, .int .i64 s.c, .int .u32 s.d, .int .u32 s.e, .int .u32 s.f, .int .i64 s.g, .pointer none] t)) B k s := by
  subst hB
  exact ⟨by simp, World.cell?_alloc_at _ _ _ _ rfl, World.cell?_alloc_at _ _ _ _ rfl, World.cell?_alloc_at _ _ _ _ rfl, World.cell?_alloc_at _ _ _ _ rfl, World.cell?_alloc_at _ _ _ _ rfl, World.cell?_alloc_at _ _ _ _ rfl, World.cell?_alloc_at _ _ _ _ rfl, World.cell?_alloc_at _ _ _ _ rfl, World.cell?_alloc_at _ _ _ _ rfl, fun j => World.frozen?_alloc_at _ _ _ _ rfl⟩
theorem below_new {w w' : World} (h : Below w.heap.size w w') (o : Obj) : Below w.heap.size w (w'.alloc o) := h.alloc h.size o


theorem wWrites : writes ⟨#[119, 114, 105, 116, 101]⟩ = true := by decide +kernel
end Go.Proofs.Qxb6627893a

/-
  ONE ELEMENT APPENDED to a field of a TwoLevel.
-/
import Derived.Test.Qxb6627971aState
import Derived.Deep.RegionLaw
namespace Go.Proofs.Qxb6627971a
open Go.RowKit

/-- An append whose run is known, as a step of a walk. -/
theorem wpList_app {P : Program} {w w' : World} {ops : Array Oper} {rest : List Oper} {o : Oper} {a : Act} {Q : Exit → Act → World → Prop} (hgd : o.guard = none) (s x : Operand) (t ty : TypeId)
    (ho : o.op = .call { callee := .builtin .append, args := #[s, x], argTypes := #[t, t] }) (hty : o.type = ty) (v u v' : Value) (hs : a.eval s = v) (hx : a.eval x = u)
    (hr : (Builtin.append_ #[t, t] ty #[v, u]).run P w = .ok v' w') (h : wpList P ops Q rest (a.put o.dst v') w') : wpList P ops Q (o :: rest) a w := by
  refine wpList_plain hgd fun _ hK => ?_
  subst hty
  unfold Oper.wp execOp
  simp only [ho, resolve, invoke, builtin, Sem.run_bind, Sem.run_pure, Result.andThen_ok, List.map_toArray, List.map_cons, List.map_nil, hs, hx, hr]
  exact hK _ _ h
/-- The same, as a step of a region that draws its order. -/
theorem step_app {P : Program} {ops : Array Oper} {o : Oper} {a : Act} {w w' : World} {K : Act → World → Prop} {Q : Exit → Act → World → Prop} {E : Prop}
    (hg : o.guard = none) (s x : Operand) (t ty : TypeId) (hop : o.op = Op.call { callee := Callee.builtin Builtin.append, args := #[s, x], argTypes := #[t, t] }) (hty : o.type = ty)
    (v u v' : Value) (hs : a.eval s = v) (hx : a.eval x = u) (hr : (Builtin.append_ #[t, t] ty #[v, u]).run P w = .ok v' w') (hK : K (a.put o.dst v') w') :
    if Region.wanted o (yielded ops a.tmps) = true then Oper.wp P o a w K Q else E := by
  have hw : Region.wanted o (yielded ops a.tmps) = true := by simp [Region.wanted, hg]
  rw [if_pos hw]
  subst hty
  unfold Oper.wp
  simp [execOp, hop, resolve, invoke, builtin, hs, hx, hr, Result.andThen]
  exact hK

theorem info34 : (Try.prog.info? 34).map (fun i => (i.zero, i.size, i.bytes)) = some (some (.int .u64 0), 1, 8) := by kernel_rfl
theorem info21 : (Try.prog.info? 21).map (fun i => (i.zero, i.size, i.bytes)) = some (some (.int .i32 0), 1, 4) := by kernel_rfl
theorem info3 : (Try.prog.info? 3).map (fun i => (i.zero, i.size, i.bytes)) = some (some (.int .i64 0), 1, 8) := by kernel_rfl

theorem Own.app34 {w : World} {v : Value} {xs : List Int} (h : Own w 34 .u64 v xs) (x : Int) (hl : xs.length ≤ 1048576) :
    ∃ v' w', (Builtin.append_ #[24, 24] 24 #[v, .slice (some ⟨w.heap.size, 0, none⟩) 1 1]).run Try.prog (w.alloc (.cells #[.int .u64 x] 34)) = .ok v' w' ∧ Own w' 34 .u64 v' (xs ++ [x]) ∧ (w.alloc (.cells #[.int .u64 x] 34)).grownBy w' v.ownBlock ∧
      (∃ g cap, v' = .slice (some ⟨g, 0, none⟩) (xs.length + 1) cap ∧ (v.ownBlock = some g ∨ w.heap.size < g)) := by
  obtain ⟨i0, hi, hz0, hz1, hz2⟩ := info_parts info34
  obtain ⟨v', w', hr, ho, hg, hs⟩ := app1 (P := Try.prog) w 24 24 34 i0 (.int .u64 0) 8 Try.underlying24 hi hz0 hz1 hz2 rfl v xs.length _ h (.int .u64 x) rfl (by unfold maxLen; omega) (by omega)
  refine ⟨v', w', hr, ?_, hg, hs⟩
  unfold Own
  rw [List.length_append, List.map_append]
  exact ho
theorem Own.app21 {w : World} {v : Value} {xs : List Int} (h : Own w 21 .i32 v xs) (x : Int) (hl : xs.length ≤ 1048576) :
    ∃ v' w', (Builtin.append_ #[25, 25] 25 #[v, .slice (some ⟨w.heap.size, 0, none⟩) 1 1]).run Try.prog (w.alloc (.cells #[.int .i32 x] 21)) = .ok v' w' ∧ Own w' 21 .i32 v' (xs ++ [x]) ∧ (w.alloc (.cells #[.int .i32 x] 21)).grownBy w' v.ownBlock ∧
      (∃ g cap, v' = .slice (some ⟨g, 0, none⟩) (xs.length + 1) cap ∧ (v.ownBlock = some g ∨ w.heap.size < g)) := by
  obtain ⟨i0, hi, hz0, hz1, hz2⟩ := info_parts info21
  obtain ⟨v', w', hr, ho, hg, hs⟩ := app1 (P := Try.prog) w 25 25 21 i0 (.int .i32 0) 4 Try.underlying25 hi hz0 hz1 hz2 rfl v xs.length _ h (.int .i32 x) rfl (by unfold maxLen; omega) (by omega)
  refine ⟨v', w', hr, ?_, hg, hs⟩
  unfold Own
  rw [List.length_append, List.map_append]
  exact ho
theorem Own.app3 {w : World} {v : Value} {xs : List Int} (h : Own w 3 .i64 v xs) (x : Int) (hl : xs.length ≤ 8388608) :
    ∃ v' w', (Builtin.append_ #[22, 22] 22 #[v, .slice (some ⟨w.heap.size, 0, none⟩) 1 1]).run Try.prog (w.alloc (.cells #[.int .i64 x] 3)) = .ok v' w' ∧ Own w' 3 .i64 v' (xs ++ [x]) ∧ (w.alloc (.cells #[.int .i64 x] 3)).grownBy w' v.ownBlock ∧
      (∃ g cap, v' = .slice (some ⟨g, 0, none⟩) (xs.length + 1) cap ∧ (v.ownBlock = some g ∨ w.heap.size < g)) := by
  obtain ⟨i0, hi, hz0, hz1, hz2⟩ := info_parts info3
  obtain ⟨v', w', hr, ho, hg, hs⟩ := app1 (P := Try.prog) w 22 22 3 i0 (.int .i64 0) 8 Try.underlying22 hi hz0 hz1 hz2 rfl v xs.length _ h (.int .i64 x) rfl (by unfold maxLen; omega) (by omega)
  refine ⟨v', w', hr, ?_, hg, hs⟩
  unfold Own
  rw [List.length_append, List.map_append]
  exact ho

/-- The block of a slice behind an append: the one that it had, or a new one. -/
theorem blk_of {v v' : Value} {n g cap N b : Nat} (hv : v' = .slice (some ⟨g, 0, none⟩) n cap) (hg : v.ownBlock = some g ∨ N < g) (hb : v'.ownBlock = some b) : v.ownBlock = some b ∨ N < b := by
  subst hv
  simp [Value.ownBlock] at hb
  subst hb
  exact hg
theorem grown_old {w w' : World} {o : Obj} {row : Option Nat} (hg : (w.alloc o).grownBy w' row) {b : Nat} (hb : b < w.heap.size) (hne : row ≠ some b) : w'.heap[b]? = w.heap[b]? :=
  (hg.block b (by simp; omega) (fun e => hne e.symm)).trans (Below.heap_alloc _ _ _ hb)

section
variable {w : World} {T : Nat} {t : TL} {v2 v3 v4 v5 : Value}
theorem Tw.app2 (h : Tw w T t v2 v3 v4 v5) (x : Int) (hl : t.ss.length ≤ 1048576) :
    ∃ v' w', (Builtin.append_ #[24, 24] 24 #[v2, .slice (some ⟨w.heap.size, 0, none⟩) 1 1]).run Try.prog (w.alloc (.cells #[.int .u64 x] 34)) = .ok v' w' ∧
      (∀ j, w'.cell? ⟨T, j, none⟩ = w.cell? ⟨T, j, none⟩) ∧ (∀ j, w'.frozen? ⟨T, j, none⟩ = false) ∧ (∃ g cap, v' = .slice (some ⟨g, 0, none⟩) (t.ss.length + 1) cap) ∧
      Tw (w'.setCell ⟨T, 2, none⟩ v') T { t with ss := t.ss ++ [x] } v' v3 v4 v5 ∧ Turn w (w'.setCell ⟨T, 2, none⟩ v') (Foot T v2 v3 v4 v5) (Foot T v' v3 v4 v5) := by
  obtain ⟨v', w', hr, ho, hgr, g, cap, hv, hg⟩ := h.o2.app34 x hl
  have hold : ∀ b, b < w.heap.size → v2.ownBlock ≠ some b → w'.heap[b]? = w.heap[b]? := fun b hb hne => grown_old hgr hb hne
  have hz : w.heap.size ≤ w'.heap.size := by have := hgr.size; simp at this; omega
  have hT := hold T h.lt h.t2
  have k1 : ∀ j, w'.cell? ⟨T, j, none⟩ = w.cell? ⟨T, j, none⟩ := fun j => World.cell?_of_block (w := w) (a := ⟨T, j, none⟩) hT
  have k2 : ∀ j, w'.frozen? ⟨T, j, none⟩ = false := fun j => (World.frozen?_of_block (w := w) (a := ⟨T, j, none⟩) hT).trans (h.free j)
  have hb' : v'.ownBlock ≠ some T := fun e => (blk_of hv hg e).elim h.t2 (fun hl => by have := h.lt; omega)
  have tw' : Tw (w'.setCell ⟨T, 2, none⟩ v') T { t with ss := t.ss ++ [x] } v' v3 v4 v5 := by
    have c := fun j (hj : 2 ≠ j) => (farT w' T 2 j v' hj).trans (k1 j)
    exact { h with
      lt := by have := h.lt; simp; omega
      c0 := (c 0 (by decide)).trans h.c0, c1 := (c 1 (by decide)).trans h.c1, c2 := World.cell?_setCell_same _ _ _ ((k1 2).trans h.c2), c3 := (c 3 (by decide)).trans h.c3, c4 := (c 4 (by decide)).trans h.c4, c5 := (c 5 (by decide)).trans h.c5
      free := fun j => by rw [World.frozen?_setCell]; exact k2 j
      o2 := ho.far hb' _, o3 := (h.o3.block fun b e => hold b (h.o3.lt e) (fun e2 => h.s23 b e2 e)).far h.t3 _, o4 := (h.o4.block fun b e => hold b (h.o4.lt e) (fun e2 => h.s24 b e2 e)).far h.t4 _, o5 := (h.o5.block fun b e => hold b (h.o5.lt e) (fun e2 => h.s25 b e2 e)).far h.t5 _
      t2 := hb'
      s23 := (fun b hb => (blk_of hv hg hb).elim (fun e => h.s23 b e) (fun hl e => by have := h.o3.lt e; omega)), s24 := (fun b hb => (blk_of hv hg hb).elim (fun e => h.s24 b e) (fun hl e => by have := h.o4.lt e; omega)), s25 := (fun b hb => (blk_of hv hg hb).elim (fun e => h.s25 b e) (fun hl e => by have := h.o5.lt e; omega)) }
  refine ⟨v', w', hr, k1, k2, ⟨g, cap, hv⟩, tw', ?_⟩
  refine (Turn.set (b := T) ?_ (.inl rfl) 2 v')
  refine ⟨hgr.os, hgr.tape, hgr.output, hz, fun b hb hF => hold b hb (fun e => hF (.inr (.inl e))), fun b hF => ?_⟩
  rcases hF with e | e | e | e | e
  · exact .inl (.inl e)
  · exact (blk_of hv hg e).elim (fun e => .inl (.inr (.inl e))) (fun hl => .inr (by omega))
  · exact .inl (.inr (.inr (.inl e)))
  · exact .inl (.inr (.inr (.inr (.inl e))))
  · exact .inl (.inr (.inr (.inr (.inr (e)))))
theorem Tw.app3 (h : Tw w T t v2 v3 v4 v5) (x : Int) (hl : t.ns.length ≤ 1048576) :
    ∃ v' w', (Builtin.append_ #[25, 25] 25 #[v3, .slice (some ⟨w.heap.size, 0, none⟩) 1 1]).run Try.prog (w.alloc (.cells #[.int .i32 x] 21)) = .ok v' w' ∧
      (∀ j, w'.cell? ⟨T, j, none⟩ = w.cell? ⟨T, j, none⟩) ∧ (∀ j, w'.frozen? ⟨T, j, none⟩ = false) ∧ (∃ g cap, v' = .slice (some ⟨g, 0, none⟩) (t.ns.length + 1) cap) ∧
      Tw (w'.setCell ⟨T, 3, none⟩ v') T { t with ns := t.ns ++ [x] } v2 v' v4 v5 ∧ Turn w (w'.setCell ⟨T, 3, none⟩ v') (Foot T v2 v3 v4 v5) (Foot T v2 v' v4 v5) := by
  obtain ⟨v', w', hr, ho, hgr, g, cap, hv, hg⟩ := h.o3.app21 x hl
  have hold : ∀ b, b < w.heap.size → v3.ownBlock ≠ some b → w'.heap[b]? = w.heap[b]? := fun b hb hne => grown_old hgr hb hne
  have hz : w.heap.size ≤ w'.heap.size := by have := hgr.size; simp at this; omega
  have hT := hold T h.lt h.t3
  have k1 : ∀ j, w'.cell? ⟨T, j, none⟩ = w.cell? ⟨T, j, none⟩ := fun j => World.cell?_of_block (w := w) (a := ⟨T, j, none⟩) hT
  have k2 : ∀ j, w'.frozen? ⟨T, j, none⟩ = false := fun j => (World.frozen?_of_block (w := w) (a := ⟨T, j, none⟩) hT).trans (h.free j)
  have hb' : v'.ownBlock ≠ some T := fun e => (blk_of hv hg e).elim h.t3 (fun hl => by have := h.lt; omega)
  have tw' : Tw (w'.setCell ⟨T, 3, none⟩ v') T { t with ns := t.ns ++ [x] } v2 v' v4 v5 := by
    have c := fun j (hj : 3 ≠ j) => (farT w' T 3 j v' hj).trans (k1 j)
    exact { h with
      lt := by have := h.lt; simp; omega
      c0 := (c 0 (by decide)).trans h.c0, c1 := (c 1 (by decide)).trans h.c1, c2 := (c 2 (by decide)).trans h.c2, c3 := World.cell?_setCell_same _ _ _ ((k1 3).trans h.c3), c4 := (c 4 (by decide)).trans h.c4, c5 := (c 5 (by decide)).trans h.c5
      free := fun j => by rw [World.frozen?_setCell]; exact k2 j
      o2 := (h.o2.block fun b e => hold b (h.o2.lt e) (h.s23 b e)).far h.t2 _, o3 := ho.far hb' _, o4 := (h.o4.block fun b e => hold b (h.o4.lt e) (fun e2 => h.s34 b e2 e)).far h.t4 _, o5 := (h.o5.block fun b e => hold b (h.o5.lt e) (fun e2 => h.s35 b e2 e)).far h.t5 _
      t3 := hb'
      s23 := fun b e hb => (fun b hb => (blk_of hv hg hb).elim (fun e => fun e2 => h.s23 b e2 e) (fun hl e => by have := h.o2.lt e; omega)) b hb e, s34 := (fun b hb => (blk_of hv hg hb).elim (fun e => h.s34 b e) (fun hl e => by have := h.o4.lt e; omega)), s35 := (fun b hb => (blk_of hv hg hb).elim (fun e => h.s35 b e) (fun hl e => by have := h.o5.lt e; omega)) }
  refine ⟨v', w', hr, k1, k2, ⟨g, cap, hv⟩, tw', ?_⟩
  refine (Turn.set (b := T) ?_ (.inl rfl) 3 v')
  refine ⟨hgr.os, hgr.tape, hgr.output, hz, fun b hb hF => hold b hb (fun e => hF (.inr (.inr (.inl e)))), fun b hF => ?_⟩
  rcases hF with e | e | e | e | e
  · exact .inl (.inl e)
  · exact .inl (.inr (.inl e))
  · exact (blk_of hv hg e).elim (fun e => .inl (.inr (.inr (.inl e)))) (fun hl => .inr (by omega))
  · exact .inl (.inr (.inr (.inr (.inl e))))
  · exact .inl (.inr (.inr (.inr (.inr (e)))))
theorem Tw.app4 (h : Tw w T t v2 v3 v4 v5) (x : Int) (hl : t.fs.length ≤ 1048576) :
    ∃ v' w', (Builtin.append_ #[25, 25] 25 #[v4, .slice (some ⟨w.heap.size, 0, none⟩) 1 1]).run Try.prog (w.alloc (.cells #[.int .i32 x] 21)) = .ok v' w' ∧
      (∀ j, w'.cell? ⟨T, j, none⟩ = w.cell? ⟨T, j, none⟩) ∧ (∀ j, w'.frozen? ⟨T, j, none⟩ = false) ∧ (∃ g cap, v' = .slice (some ⟨g, 0, none⟩) (t.fs.length + 1) cap) ∧
      Tw (w'.setCell ⟨T, 4, none⟩ v') T { t with fs := t.fs ++ [x] } v2 v3 v' v5 ∧ Turn w (w'.setCell ⟨T, 4, none⟩ v') (Foot T v2 v3 v4 v5) (Foot T v2 v3 v' v5) := by
  obtain ⟨v', w', hr, ho, hgr, g, cap, hv, hg⟩ := h.o4.app21 x hl
  have hold : ∀ b, b < w.heap.size → v4.ownBlock ≠ some b → w'.heap[b]? = w.heap[b]? := fun b hb hne => grown_old hgr hb hne
  have hz : w.heap.size ≤ w'.heap.size := by have := hgr.size; simp at this; omega
  have hT := hold T h.lt h.t4
  have k1 : ∀ j, w'.cell? ⟨T, j, none⟩ = w.cell? ⟨T, j, none⟩ := fun j => World.cell?_of_block (w := w) (a := ⟨T, j, none⟩) hT
  have k2 : ∀ j, w'.frozen? ⟨T, j, none⟩ = false := fun j => (World.frozen?_of_block (w := w) (a := ⟨T, j, none⟩) hT).trans (h.free j)
  have hb' : v'.ownBlock ≠ some T := fun e => (blk_of hv hg e).elim h.t4 (fun hl => by have := h.lt; omega)
  have tw' : Tw (w'.setCell ⟨T, 4, none⟩ v') T { t with fs := t.fs ++ [x] } v2 v3 v' v5 := by
    have c := fun j (hj : 4 ≠ j) => (farT w' T 4 j v' hj).trans (k1 j)
    exact { h with
      lt := by have := h.lt; simp; omega
      c0 := (c 0 (by decide)).trans h.c0, c1 := (c 1 (by decide)).trans h.c1, c2 := (c 2 (by decide)).trans h.c2, c3 := (c 3 (by decide)).trans h.c3, c4 := World.cell?_setCell_same _ _ _ ((k1 4).trans h.c4), c5 := (c 5 (by decide)).trans h.c5
      free := fun j => by rw [World.frozen?_setCell]; exact k2 j
      o2 := (h.o2.block fun b e => hold b (h.o2.lt e) (h.s24 b e)).far h.t2 _, o3 := (h.o3.block fun b e => hold b (h.o3.lt e) (h.s34 b e)).far h.t3 _, o4 := ho.far hb' _, o5 := (h.o5.block fun b e => hold b (h.o5.lt e) (fun e2 => h.s45 b e2 e)).far h.t5 _
      t4 := hb'
      s24 := fun b e hb => (fun b hb => (blk_of hv hg hb).elim (fun e => fun e2 => h.s24 b e2 e) (fun hl e => by have := h.o2.lt e; omega)) b hb e, s34 := fun b e hb => (fun b hb => (blk_of hv hg hb).elim (fun e => fun e2 => h.s34 b e2 e) (fun hl e => by have := h.o3.lt e; omega)) b hb e, s45 := (fun b hb => (blk_of hv hg hb).elim (fun e => h.s45 b e) (fun hl e => by have := h.o5.lt e; omega)) }
  refine ⟨v', w', hr, k1, k2, ⟨g, cap, hv⟩, tw', ?_⟩
  refine (Turn.set (b := T) ?_ (.inl rfl) 4 v')
  refine ⟨hgr.os, hgr.tape, hgr.output, hz, fun b hb hF => hold b hb (fun e => hF (.inr (.inr (.inr (.inl e))))), fun b hF => ?_⟩
  rcases hF with e | e | e | e | e
  · exact .inl (.inl e)
  · exact .inl (.inr (.inl e))
  · exact .inl (.inr (.inr (.inl e)))
  · exact (blk_of hv hg e).elim (fun e => .inl (.inr (.inr (.inr (.inl e))))) (fun hl => .inr (by omega))
  · exact .inl (.inr (.inr (.inr (.inr (e)))))
theorem Tw.app5 (h : Tw w T t v2 v3 v4 v5) (x : Int) (hl : t.ws.length ≤ 1048576) :
    ∃ v' w', (Builtin.append_ #[24, 24] 24 #[v5, .slice (some ⟨w.heap.size, 0, none⟩) 1 1]).run Try.prog (w.alloc (.cells #[.int .u64 x] 34)) = .ok v' w' ∧
      (∀ j, w'.cell? ⟨T, j, none⟩ = w.cell? ⟨T, j, none⟩) ∧ (∀ j, w'.frozen? ⟨T, j, none⟩ = false) ∧ (∃ g cap, v' = .slice (some ⟨g, 0, none⟩) (t.ws.length + 1) cap) ∧
      Tw (w'.setCell ⟨T, 5, none⟩ v') T { t with ws := t.ws ++ [x] } v2 v3 v4 v' ∧ Turn w (w'.setCell ⟨T, 5, none⟩ v') (Foot T v2 v3 v4 v5) (Foot T v2 v3 v4 v') := by
  obtain ⟨v', w', hr, ho, hgr, g, cap, hv, hg⟩ := h.o5.app34 x hl
  have hold : ∀ b, b < w.heap.size → v5.ownBlock ≠ some b → w'.heap[b]? = w.heap[b]? := fun b hb hne => grown_old hgr hb hne
  have hz : w.heap.size ≤ w'.heap.size := by have := hgr.size; simp at this; omega
  have hT := hold T h.lt h.t5
  have k1 : ∀ j, w'.cell? ⟨T, j, none⟩ = w.cell? ⟨T, j, none⟩ := fun j => World.cell?_of_block (w := w) (a := ⟨T, j, none⟩) hT
  have k2 : ∀ j, w'.frozen? ⟨T, j, none⟩ = false := fun j => (World.frozen?_of_block (w := w) (a := ⟨T, j, none⟩) hT).trans (h.free j)
  have hb' : v'.ownBlock ≠ some T := fun e => (blk_of hv hg e).elim h.t5 (fun hl => by have := h.lt; omega)
  have tw' : Tw (w'.setCell ⟨T, 5, none⟩ v') T { t with ws := t.ws ++ [x] } v2 v3 v4 v' := by
    have c := fun j (hj : 5 ≠ j) => (farT w' T 5 j v' hj).trans (k1 j)
    exact { h with
      lt := by have := h.lt; simp; omega
      c0 := (c 0 (by decide)).trans h.c0, c1 := (c 1 (by decide)).trans h.c1, c2 := (c 2 (by decide)).trans h.c2, c3 := (c 3 (by decide)).trans h.c3, c4 := (c 4 (by decide)).trans h.c4, c5 := World.cell?_setCell_same _ _ _ ((k1 5).trans h.c5)
      free := fun j => by rw [World.frozen?_setCell]; exact k2 j
      o2 := (h.o2.block fun b e => hold b (h.o2.lt e) (h.s25 b e)).far h.t2 _, o3 := (h.o3.block fun b e => hold b (h.o3.lt e) (h.s35 b e)).far h.t3 _, o4 := (h.o4.block fun b e => hold b (h.o4.lt e) (h.s45 b e)).far h.t4 _, o5 := ho.far hb' _
      t5 := hb'
      s25 := fun b e hb => (fun b hb => (blk_of hv hg hb).elim (fun e => fun e2 => h.s25 b e2 e) (fun hl e => by have := h.o2.lt e; omega)) b hb e, s35 := fun b e hb => (fun b hb => (blk_of hv hg hb).elim (fun e => fun e2 => h.s35 b e2 e) (fun hl e => by have := h.o3.lt e; omega)) b hb e, s45 := fun b e hb => (fun b hb => (blk_of hv hg hb).elim (fun e => fun e2 => h.s45 b e2 e) (fun hl e => by have := h.o4.lt e; omega)) b hb e }
  refine ⟨v', w', hr, k1, k2, ⟨g, cap, hv⟩, tw', ?_⟩
  refine (Turn.set (b := T) ?_ (.inl rfl) 5 v')
  refine ⟨hgr.os, hgr.tape, hgr.output, hz, fun b hb hF => hold b hb (fun e => hF (.inr (.inr (.inr (.inr (e)))))), fun b hF => ?_⟩
  rcases hF with e | e | e | e | e
  · exact .inl (.inl e)
  · exact .inl (.inr (.inl e))
  · exact .inl (.inr (.inr (.inl e)))
  · exact .inl (.inr (.inr (.inr (.inl e))))
  · exact (blk_of hv hg e).elim (fun e => .inl (.inr (.inr (.inr (.inr (e)))))) (fun hl => .inr (by omega))
end
end Go.Proofs.Qxb6627971a

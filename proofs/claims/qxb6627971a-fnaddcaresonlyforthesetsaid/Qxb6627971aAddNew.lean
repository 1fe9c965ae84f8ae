/-
  THE WALK of TwoLevel.Add (7) where there is no block yet, and where only blocks with members are kept.
-/
import Derived.Test.Qxb6627971aHalf
namespace Go.Proofs.Qxb6627971a
open Go.RowKit

theorem lz0 : Hid (64 - (Lib.bitLen (0 : Int).toNat : Int) = 64) := by show _ = _; decide

set_option maxRecDepth 100000 in
set_option maxHeartbeats 4000000 in
theorem addA (T : Nat) (t : TL) (ad3 : Option Addr) (c3 : Nat) (v2 v4 v5 : Value) (x : Int) (w : World) (nw : Nat)
    (h : Tw w T t v2 (.slice ad3 0 c3) v4 v5) (l2 : t.ss.length = 0) (l3 : t.ns.length = 0) (l4 : t.fs.length = 0) (l5 : t.ws.length ≤ 1000000) (hnw : Hid (t.ws.length = nw)) (hx0 : 0 ≤ x) (hx1 : x ≤ 2147483647) :
    Calls Try.prog 7 #[.pointer (some ⟨T, 0, none⟩), .int .i64 x] w fun e w' => e = .returned (.tuple #[]) ∧
      ∃ u2 u3 u4 u5, Tw w' T (newWord (addBlk ({ t with base := x / 4096 }) (x / 4096)) 0 (x / 64 % 64) (x % 64)) u2 u3 u4 u5 ∧ Turn w w' (Foot T v2 (.slice ad3 0 c3) v4 v5) (Foot T u2 u3 u4 u5) := by
  have q3 := h.c3
  have q0 := h.c0
  have qf := h.free
  go_enter Try.func7, Try.ntmps7
  go_wp2_with fail
  have hB := h.setBase (x / 4096)
  have hBU : Turn w (w.setCell ⟨T, 0, none⟩ (.int .i64 (x / 4096))) _ _ := (Turn.refl w (Foot T v2 (.slice ad3 0 c3) v4 v5)).set (b := T) (.inl rfl) 0 (.int .i64 (x / 4096))
  refine (addBlock_any T { t with base := x / 4096 } v2 (.slice ad3 0 c3) v4 v5 (x / 4096) _ hB (by omega) (by omega) (by show t.ss.length ≤ _; omega) (by show t.ns.length ≤ _; omega) (by show t.fs.length ≤ _; omega) (by show t.ws.length ≤ _; omega)).mono ?_
  rintro e w1 ⟨rfl, u2, u3, u4, hT1, hU1⟩
  have hTU := hBU.trans hU1
  clear hU1
  have l2' : (addBlk ({ t with base := x / 4096 }) (x / 4096)).ss.length = 0 + 1 := by show (_ ++ [(0 : Int)]).length = _; rw [List.length_append, l2]; rfl
  have l3' : (addBlk ({ t with base := x / 4096 }) (x / 4096)).ns.length = 0 + 1 := by show (_ ++ [x / 4096]).length = _; rw [List.length_append, l3]; rfl
  obtain ⟨g2', c2', rfl, _⟩ := hT1.o2.there (by omega)
  obtain ⟨g3', c3', rfl, _⟩ := hT1.o3.there (by omega)
  rw [l2', l3'] at hT1 hTU
  have hs : (addBlk ({ t with base := x / 4096 }) (x / 4096)).ss.getD 0 0 = 0 := by show (_ ++ [(0 : Int)]).getD _ _ = _; rw [← l2]; simp
  have p3 := hT1.c3
  have p2 := hT1.c2
  have p5 := hT1.c5
  have d2 := hT1.o2.cell l2'.symm 0 (by omega)
  have f2' := hT1.o2.free l2'.symm
  rw [hs] at d2
  obtain ⟨g5, c5, w2, r, z2, z5, k5, kf, ke, kg, tw, tu⟩ := new_steps hT1 l2' (by exact l5) (x / 64 % 64) (x % 64) 0 hs
  have R : Hid _ := r
  have TW : Hid _ := tw
  have TU : Hid _ := hTU.trans tu
  have wl : (addBlk ({ t with base := x / 4096 }) (x / 4096)).ws.length = nw := by show t.ws.length = nw; exact hnw.out
  rw [wl] at R TW TU ke
  have nwb : nw ≤ 1000000 := by rw [← hnw.out]; exact l5
  obtain ⟨s', hs'⟩ : ∃ s', orB 0 (x / 64 % 64) = s' := ⟨_, rfl⟩
  obtain ⟨y', hy'⟩ : ∃ y', orB 0 (x % 64) = y' := ⟨_, rfl⟩
  rw [hs'] at R
  rw [hy'] at TW TU
  have o1 : bits BinOp.or IntKind.u64 0 (IntKind.u64.wrap (2 ^ (x / 64 % 64).toNat)) = s' := hs'
  have o2 : bits BinOp.or IntKind.u64 0 (IntKind.u64.wrap (2 ^ (x % 64).toNat)) = y' := hy'
  clear r tw tu hs' hy' hs hT1 hTU l2' l3' wl hB hBU h q3 q0 qf
  go_wp2_with (go_at_call 13; refine (lz_is 0 64 _ (by decide) (by decide) lz0).mono ?_; rintro e w' ⟨rfl, rfl⟩)
  go_region
  go_wp2_with (at_builtin; refine wpList_app rfl (.tmp 140) (.tmp 141) 24 24 rfl rfl v5 _ _ rfl rfl R.out ?_)
  go_region
  go_wp2
  go_end0
  exact ⟨rfl, _, _, _, _, TW.out, TU.out⟩

set_option maxRecDepth 100000 in
set_option maxHeartbeats 4000000 in
theorem addD (T : Nat) (t : TL) (v2 v4 v5 : Value) (g3 c3 m : Nat) (x l : Int) (w : World) (nw : Nat)
    (h : Tw w T t v2 (.slice (some ⟨g3, 0, none⟩) (m + 1) c3) v4 v5) (l2 : t.ss.length = m + 1) (l3 : t.ns.length = m + 1) (l4 : t.fs.length = m + 1) (l5 : t.ws.length ≤ 1000000) (hnw : Hid (t.ws.length = nw)) (hL : m ≤ 1000000) (hx0 : 0 ≤ x) (hx1 : x ≤ 2147483647)
    (hg : t.gaps = true) (hl : t.ns.getD m 0 = l) (hl0 : 0 ≤ l) (hl1 : l < x / 4096) :
    Calls Try.prog 7 #[.pointer (some ⟨T, 0, none⟩), .int .i64 x] w fun e w' => e = .returned (.tuple #[]) ∧
      ∃ u2 u3 u4 u5, Tw w' T (newWord (addBlk (t) (x / 4096)) (m + 1) (x / 64 % 64) (x % 64)) u2 u3 u4 u5 ∧ Turn w w' (Foot T v2 (.slice (some ⟨g3, 0, none⟩) (m + 1) c3) v4 v5) (Foot T u2 u3 u4 u5) := by
  have q3 := h.c3
  have q1 := h.c1
  rw [hg] at q1
  have e3 := h.o3.cell l3.symm m (by omega)
  rw [hl] at e3
  have HH : Hid _ := h
  clear h hl
  go_enter Try.func7, Try.ntmps7
  go_wp2_with fail
  go_quiet (fail)
  go_wp2_with fail
  have h := HH.out
  refine (addBlock_any T t v2 _ v4 v5 (x / 4096) _ (h.draws _) (by omega) (by omega) (by omega) (by omega) (by omega) (by omega)).mono ?_
  rintro e w1 ⟨rfl, u2, u3, u4, hT1, hU1⟩
  have hTU := (((Turn.refl w (Foot T v2 (.slice (some ⟨g3, 0, none⟩) (m + 1) c3) v4 v5)).draws _).trans hU1)
  clear hU1
  have l2' : (addBlk (t) (x / 4096)).ss.length = (m + 1) + 1 := by show (_ ++ [(0 : Int)]).length = _; rw [List.length_append, l2]; rfl
  have l3' : (addBlk (t) (x / 4096)).ns.length = (m + 1) + 1 := by show (_ ++ [x / 4096]).length = _; rw [List.length_append, l3]; rfl
  obtain ⟨g2', c2', rfl, _⟩ := hT1.o2.there (by omega)
  obtain ⟨g3', c3', rfl, _⟩ := hT1.o3.there (by omega)
  rw [l2', l3'] at hT1 hTU
  have hs : (addBlk (t) (x / 4096)).ss.getD (m + 1) 0 = 0 := by show (_ ++ [(0 : Int)]).getD _ _ = _; rw [← l2]; simp
  have p3 := hT1.c3
  have p2 := hT1.c2
  have p5 := hT1.c5
  have d2 := hT1.o2.cell l2'.symm (m + 1) (by omega)
  have f2' := hT1.o2.free l2'.symm
  rw [hs] at d2
  obtain ⟨g5, c5, w2, r, z2, z5, k5, kf, ke, kg, tw, tu⟩ := new_steps hT1 l2' (by exact l5) (x / 64 % 64) (x % 64) 0 hs
  have R : Hid _ := r
  have TW : Hid _ := tw
  have TU : Hid _ := hTU.trans tu
  have wl : (addBlk (t) (x / 4096)).ws.length = nw := by show t.ws.length = nw; exact hnw.out
  rw [wl] at R TW TU ke
  have nwb : nw ≤ 1000000 := by rw [← hnw.out]; exact l5
  obtain ⟨s', hs'⟩ : ∃ s', orB 0 (x / 64 % 64) = s' := ⟨_, rfl⟩
  obtain ⟨y', hy'⟩ : ∃ y', orB 0 (x % 64) = y' := ⟨_, rfl⟩
  rw [hs'] at R
  rw [hy'] at TW TU
  have o1 : bits BinOp.or IntKind.u64 0 (IntKind.u64.wrap (2 ^ (x / 64 % 64).toNat)) = s' := hs'
  have o2 : bits BinOp.or IntKind.u64 0 (IntKind.u64.wrap (2 ^ (x % 64).toNat)) = y' := hy'
  clear r tw tu hs' hy' hs hT1 hTU l2' l3' wl h HH q3 q1 e3
  go_wp2_with (go_at_call 13; refine (lz_is 0 64 _ (by decide) (by decide) lz0).mono ?_; rintro e w' ⟨rfl, rfl⟩)
  go_region
  go_wp2_with (at_builtin; refine wpList_app rfl (.tmp 140) (.tmp 141) 24 24 rfl rfl v5 _ _ rfl rfl R.out ?_)
  go_region
  go_wp2
  go_end0
  exact ⟨rfl, _, _, _, _, TW.out, TU.out⟩
end Go.Proofs.Qxb6627971a

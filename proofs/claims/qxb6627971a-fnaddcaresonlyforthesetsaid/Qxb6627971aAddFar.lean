/-
  THE WALK of TwoLevel.Add (7) where the empty blocks are dropped.
-/
import Derived.Test.Qxb6627971aDrop
import Derived.Test.Qxb6627971aAddNew
namespace Go.Proofs.Qxb6627971a
open Go.RowKit

set_option maxRecDepth 100000 in
set_option maxHeartbeats 4000000 in
theorem addC (T : Nat) (t : TL) (v5 : Value) (g2 c2 g3 c3 g4 c4 m M : Nat) (x l : Int) (w : World) (nw : Nat)
    (h : Tw w T t (.slice (some ⟨g2, 0, none⟩) (m + 1) c2) (.slice (some ⟨g3, 0, none⟩) (m + 1) c3) (.slice (some ⟨g4, 0, none⟩) (m + 1) c4) v5) (l2 : t.ss.length = m + 1) (l3 : t.ns.length = m + 1) (l4 : t.fs.length = m + 1) (l5 : t.ws.length ≤ 1000000) (hnw : Hid (t.ws.length = nw)) (hL : m ≤ 1000000) (hx0 : 0 ≤ x) (hx1 : x ≤ 2147483647)
    (b2 : m + 1 ≤ c2) (b3 : m + 1 ≤ c3) (b4 : m + 1 ≤ c4) (hM : cnt t.ss (m + 1) = M)
    (hg : t.gaps = false) (hl : t.ns.getD m 0 = l) (hl0 : 0 ≤ l) (hl1 : l < x / 4096) (ba : Int) (hb : t.base = ba) (hb0 : 0 ≤ ba) (hb1 : ba ≤ 1048576) (hfar : ¬ x / 4096 - ba < 2 * ((nw : Int) + 1)) :
    Calls Try.prog 7 #[.pointer (some ⟨T, 0, none⟩), .int .i64 x] w fun e w' => e = .returned (.tuple #[]) ∧
      ∃ u2 u3 u4 u5, Tw w' T (newWord (addBlk (dropE t) (x / 4096)) M (x / 64 % 64) (x % 64)) u2 u3 u4 u5 ∧ Turn w w' (Foot T (.slice (some ⟨g2, 0, none⟩) (m + 1) c2) (.slice (some ⟨g3, 0, none⟩) (m + 1) c3) (.slice (some ⟨g4, 0, none⟩) (m + 1) c4) v5) (Foot T u2 u3 u4 u5) := by
  have q3 := h.c3
  have q1 := h.c1
  have q0 := h.c0
  have q5 := h.c5
  rw [hg] at q1
  rw [hb] at q0
  have e3 := h.o3.cell l3.symm m (by omega)
  rw [hl] at e3
  have l2d : (dropE t).ss.length = M := by show (kp _ _ _).length = _; rw [kp_length, l2]; exact hM
  have l3d : (dropE t).ns.length = M := by show (kp _ _ _).length = _; rw [kp_length, l2]; exact hM
  have l4d : (dropE t).fs.length = M := by show (kp _ _ _).length = _; rw [kp_length, l2]; exact hM
  have hMm : M ≤ m + 1 := by rw [← hM]; exact cnt_le _ _
  have nwb0 : nw ≤ 1000000 := by rw [← hnw.out]; exact l5
  obtain ⟨cap5, ad5, h5⟩ : ∃ (cap5 : Nat) (ad5 : Option Addr), v5 = .slice ad5 nw cap5 := by
    have hn := hnw.out
    rcases h.o5.shape with ⟨hv, hx⟩ | ⟨g, cap, hv, _⟩
    · exact ⟨0, none, by rw [hv, ← hn, hx]; rfl⟩
    · exact ⟨cap, _, by rw [hv, hn]⟩
  subst h5
  have hd : decide (x / 4096 - ba < 2 * ((nw : Int) + 1)) = false := by simpa using hfar
  have HH : Hid _ := h
  have H2 : Hid _ := l2d
  have H3 : Hid _ := l3d
  have H4 : Hid _ := l4d
  have B1 : Hid _ := hM
  clear h hl hb hM l2d l3d l4d hfar
  go_enter Try.func7, Try.ntmps7
  go_wp2_with fail
  go_quiet (fail)
  go_wp2_with fail
  have h := HH.out
  refine (drop_any T t g2 c2 g3 c3 g4 c4 _ (m + 1) _ (h.draws _) l2 l3 l4 (by omega) b2 b3 b4).mono ?_
  rintro e w0 ⟨rfl, d2', d3', d4', hT0, hU0⟩
  clear q0 q1 q3 q5 e3
  go_wp2_with fail
  have l2d := H2.out
  have l3d := H3.out
  have l4d := H4.out
  refine (addBlock_any T (dropE t) d2' d3' d4' _ (x / 4096) _ hT0 (by omega) (by omega) (by omega) (by omega) (by omega) (by show t.ws.length ≤ _; omega)).mono ?_
  rintro e w1 ⟨rfl, u2, u3, u4, hT1, hU1⟩
  have hTU := ((((Turn.refl w (Foot T (.slice (some ⟨g2, 0, none⟩) (m + 1) c2) (.slice (some ⟨g3, 0, none⟩) (m + 1) c3) (.slice (some ⟨g4, 0, none⟩) (m + 1) c4) (.slice ad5 nw cap5))).draws _).trans hU0).trans hU1)
  clear hU1
  have l2' : (addBlk (dropE t) (x / 4096)).ss.length = M + 1 := by show (_ ++ [(0 : Int)]).length = _; rw [List.length_append, l2d]; rfl
  have l3' : (addBlk (dropE t) (x / 4096)).ns.length = M + 1 := by show (_ ++ [x / 4096]).length = _; rw [List.length_append, l3d]; rfl
  obtain ⟨g2', c2', rfl, _⟩ := hT1.o2.there (by omega)
  obtain ⟨g3', c3', rfl, _⟩ := hT1.o3.there (by omega)
  rw [l2', l3'] at hT1 hTU
  have hs : (addBlk (dropE t) (x / 4096)).ss.getD M 0 = 0 := by show (_ ++ [(0 : Int)]).getD _ _ = _; rw [← l2d]; simp
  have p3 := hT1.c3
  have p2 := hT1.c2
  have p5 := hT1.c5
  have d2 := hT1.o2.cell l2'.symm M (by omega)
  have f2' := hT1.o2.free l2'.symm
  rw [hs] at d2
  obtain ⟨g5, c5, w2, r, z2, z5, k5, kf, ke, kg, tw, tu⟩ := new_steps hT1 l2' (by exact l5) (x / 64 % 64) (x % 64) 0 hs
  have R : Hid _ := r
  have TW : Hid _ := tw
  have TU : Hid _ := hTU.trans tu
  have wl : (addBlk (dropE t) (x / 4096)).ws.length = nw := by show t.ws.length = nw; exact hnw.out
  rw [wl] at R TW TU ke
  have nwb : nw ≤ 1000000 := by rw [← hnw.out]; exact l5
  obtain ⟨s', hs'⟩ : ∃ s', orB 0 (x / 64 % 64) = s' := ⟨_, rfl⟩
  obtain ⟨y', hy'⟩ : ∃ y', orB 0 (x % 64) = y' := ⟨_, rfl⟩
  rw [hs'] at R
  rw [hy'] at TW TU
  have o1 : bits BinOp.or IntKind.u64 0 (IntKind.u64.wrap (2 ^ (x / 64 % 64).toNat)) = s' := hs'
  have o2 : bits BinOp.or IntKind.u64 0 (IntKind.u64.wrap (2 ^ (x % 64).toNat)) = y' := hy'
  clear r tw tu hs' hy' hs hT1 hTU l2' l3' wl h HH hT0 hU0 l2d l3d l4d
  go_wp2_with (go_at_call 13; refine (lz_is 0 64 _ (by decide) (by decide) lz0).mono ?_; rintro e w' ⟨rfl, rfl⟩)
  go_region
  go_wp2_with (at_builtin; refine wpList_app rfl (.tmp 140) (.tmp 141) 24 24 rfl rfl (.slice ad5 nw cap5) _ _ rfl rfl R.out ?_)
  go_region
  go_wp2
  go_end0
  exact ⟨rfl, _, _, _, _, TW.out, TU.out⟩
end Go.Proofs.Qxb6627971a

/-
  THE WALK of TwoLevel.Add (7) where the blocks between are kept.
-/
import Derived.Test.Qxb6627971aAddNew
namespace Go.Proofs.Qxb6627971a
open Go.RowKit

/-- The blocks m, m + 1, .., c of them, with no member. -/
def fillT (t : TL) (m : Int) : Nat → TL
  | 0 => t
  | c + 1 => addBlk (fillT t m c) (m + (c : Int))
theorem fillT_len (t : TL) (m : Int) (c : Nat) : (fillT t m c).ss.length = t.ss.length + c ∧ (fillT t m c).ns.length = t.ns.length + c ∧ (fillT t m c).fs.length = t.fs.length + c ∧ (fillT t m c).ws = t.ws := by
  induction c with
  | zero => exact ⟨rfl, rfl, rfl, rfl⟩
  | succ c ih =>
    obtain ⟨i1, i2, i3, i4⟩ := ih
    refine ⟨?_, ?_, ?_, i4⟩
    · show (_ ++ [(0 : Int)]).length = _; rw [List.length_append, i1]; rfl
    · show (_ ++ [_]).length = _; rw [List.length_append, i2]; rfl
    · show (_ ++ [_]).length = _; rw [List.length_append, i3]; rfl

set_option maxRecDepth 100000 in
set_option maxHeartbeats 4000000 in
theorem addB (T : Nat) (t : TL) (v2 v4 v5 : Value) (g3 c3 m C : Nat) (x l : Int) (w : World) (nw : Nat)
    (h : Tw w T t v2 (.slice (some ⟨g3, 0, none⟩) (m + 1) c3) v4 v5) (l2 : t.ss.length = m + 1) (l3 : t.ns.length = m + 1) (l4 : t.fs.length = m + 1) (l5 : t.ws.length ≤ 1000000) (hnw : Hid (t.ws.length = nw)) (hL : m ≤ 400000) (hx0 : 0 ≤ x) (hx1 : x ≤ 2147483647)
    (hg : t.gaps = false) (hl : t.ns.getD m 0 = l) (hl0 : 0 ≤ l) (hC : l + 1 + (C : Int) = x / 4096) (ba : Int) (hb : t.base = ba) (hb0 : 0 ≤ ba) (hb1 : ba ≤ 1048576) (hnear : x / 4096 - ba < 2 * ((nw : Int) + 1)) :
    Calls Try.prog 7 #[.pointer (some ⟨T, 0, none⟩), .int .i64 x] w fun e w' => e = .returned (.tuple #[]) ∧
      ∃ u2 u3 u4 u5, Tw w' T (newWord (addBlk (fillT t (l + 1) C) (x / 4096)) (m + 1 + C) (x / 64 % 64) (x % 64)) u2 u3 u4 u5 ∧ Turn w w' (Foot T v2 (.slice (some ⟨g3, 0, none⟩) (m + 1) c3) v4 v5) (Foot T u2 u3 u4 u5) := by
  have q3 := h.c3
  have q1 := h.c1
  have q0 := h.c0
  have q5 := h.c5
  rw [hg] at q1
  rw [hb] at q0
  have e3 := h.o3.cell l3.symm m (by omega)
  rw [hl] at e3
  have nwb0 : nw ≤ 1000000 := by rw [← hnw.out]; exact l5
  obtain ⟨cap5, ad5, h5⟩ : ∃ (cap5 : Nat) (ad5 : Option Addr), v5 = .slice ad5 nw cap5 := by
    have hn := hnw.out
    rcases h.o5.shape with ⟨hv, hx⟩ | ⟨g, cap, hv, _⟩
    · exact ⟨0, none, by rw [hv, ← hn, hx]; rfl⟩
    · exact ⟨cap, _, by rw [hv, hn]⟩
  subst h5
  have HH : Hid _ := h
  have HC : Hid _ := hC
  have hln : l < x / 4096 := by omega
  have hlm : l ≤ 1048576 := by omega
  clear h hl hb hC
  go_enter Try.func7, Try.ntmps7
  go_wp2_with fail
  go_quiet (fail)
  go_wp2_with fail
  clear q0 q1 q3 q5 e3
  have h := HH.out
  go_loopw [7] (fun mv wx => ∃ (c : Nat) (u2 u3 u4 : Value), c ≤ C ∧ mv = .int .i64 (l + 1 + (c : Int)) ∧ Tw wx T (fillT t (l + 1) c) u2 u3 u4 (.slice ad5 nw cap5) ∧ Turn w wx (Foot T v2 (.slice (some ⟨g3, 0, none⟩) (m + 1) c3) v4 (.slice ad5 nw cap5)) (Foot T u2 u3 u4 (.slice ad5 nw cap5))) (fun mv _ => (x / 4096 - intOf mv).toNat)
  case atStart => exact ⟨0, _, _, _, Nat.zero_le _, by simp, h.draws _, (Turn.refl w _).draws _⟩
  case round =>
  obtain ⟨c, y2, y3, y4, hc, rfl, hT0, hU0⟩ := hrel
  obtain ⟨i1, i2, i3, i4⟩ := fillT_len t (l + 1) c
  have hCx := HC.out
  by_cases hlt : c < C
  · have hlt2 : l + 1 + (c : Int) < x / 4096 := by omega
    have l51 : (fillT t (l + 1) c).ws.length ≤ 1048576 := by rw [i4]; omega
    clear i4 hCx
    go_wp2_with fail
    refine (addBlock_any T (fillT t (l + 1) c) y2 y3 y4 _ (l + 1 + (c : Int)) _ hT0 (by omega) (by omega) (by omega) (by omega) (by omega) l51).mono ?_
    rintro e w1 ⟨rfl, u2, u3, u4, hT1, hU1⟩
    clear i1 i2 i3
    go_wp2
    go_roundw
    case rel => exact ⟨c + 1, u2, u3, u4, by omega, by go_num, hT1, hU0.trans hU1⟩
    case measure => simp [intOf]; omega
  obtain rfl : c = C := by omega
  have hnl : ¬ l + 1 + (c : Int) < x / 4096 := by omega
  have l51 : (fillT t (l + 1) c).ws.length ≤ 1000000 := by rw [i4]; exact l5
  have wl0 : (fillT t (l + 1) c).ws.length = nw := by rw [i4]; exact hnw.out
  have J1 : (fillT t (l + 1) c).ss.length = m + 1 + c := by omega
  have J2 : (fillT t (l + 1) c).ns.length = m + 1 + c := by omega
  have J3 : (fillT t (l + 1) c).fs.length = m + 1 + c := by omega
  have K1 : Hid _ := J1
  have K2 : Hid _ := J2
  have K3 : Hid _ := J3
  have K4 : Hid _ := wl0
  have hcb : c ≤ 600000 := by omega
  clear i1 i2 i3 i4 hCx J1 J2 J3 wl0 h HC
  go_wp2_with fail
  have J1 := K1.out
  have J2 := K2.out
  have J3 := K3.out
  refine (addBlock_any T (fillT t (l + 1) c) y2 y3 y4 _ (x / 4096) _ hT0 (by omega) (by omega) (by omega) (by omega) (by omega) (by omega)).mono ?_
  rintro e w1 ⟨rfl, u2, u3, u4, hT1, hU1⟩
  have hTU := hU0.trans hU1
  clear hU1
  have l2' : (addBlk (fillT t (l + 1) c) (x / 4096)).ss.length = (m + 1 + c) + 1 := by show (_ ++ [(0 : Int)]).length = _; rw [List.length_append, J1]; rfl
  have l3' : (addBlk (fillT t (l + 1) c) (x / 4096)).ns.length = (m + 1 + c) + 1 := by show (_ ++ [x / 4096]).length = _; rw [List.length_append, J2]; rfl
  obtain ⟨g2', c2', rfl, _⟩ := hT1.o2.there (by omega)
  obtain ⟨g3', c3', rfl, _⟩ := hT1.o3.there (by omega)
  rw [l2', l3'] at hT1 hTU
  have hs : (addBlk (fillT t (l + 1) c) (x / 4096)).ss.getD (m + 1 + c) 0 = 0 := by show (_ ++ [(0 : Int)]).getD _ _ = _; rw [← J1]; simp
  have p3 := hT1.c3
  have p2 := hT1.c2
  have p5 := hT1.c5
  have d2 := hT1.o2.cell l2'.symm (m + 1 + c) (by omega)
  have f2' := hT1.o2.free l2'.symm
  rw [hs] at d2
  obtain ⟨g5, c5, w2, r, z2, z5, k5, kf, ke, kg, tw, tu⟩ := new_steps hT1 l2' l51 (x / 64 % 64) (x % 64) 0 hs
  have R : Hid _ := r
  have TW : Hid _ := tw
  have TU : Hid _ := hTU.trans tu
  have wl : (addBlk (fillT t (l + 1) c) (x / 4096)).ws.length = nw := K4.out
  rw [wl] at R TW TU ke
  have nwb : nw ≤ 1000000 := by rw [← hnw.out]; exact l5
  obtain ⟨s', hs'⟩ : ∃ s', orB 0 (x / 64 % 64) = s' := ⟨_, rfl⟩
  obtain ⟨y', hy'⟩ : ∃ y', orB 0 (x % 64) = y' := ⟨_, rfl⟩
  rw [hs'] at R
  rw [hy'] at TW TU
  have o1 : bits BinOp.or IntKind.u64 0 (IntKind.u64.wrap (2 ^ (x / 64 % 64).toNat)) = s' := hs'
  have o2 : bits BinOp.or IntKind.u64 0 (IntKind.u64.wrap (2 ^ (x % 64).toNat)) = y' := hy'
  clear r tw tu hs' hy' hs hT1 hTU l2' l3' wl J1 J2 J3 hT0 hU0
  go_wp2_with (go_at_call 13; refine (lz_is 0 64 _ (by decide) (by decide) lz0).mono ?_; rintro e w' ⟨rfl, rfl⟩)
  go_region
  go_wp2_with (at_builtin; refine wpList_app rfl (.tmp 140) (.tmp 141) 24 24 rfl rfl (.slice ad5 nw cap5) _ _ rfl rfl R.out ?_)
  go_region
  go_wp2
  go_end0
  exact ⟨rfl, _, _, _, _, TW.out, TU.out⟩
end Go.Proofs.Qxb6627971a

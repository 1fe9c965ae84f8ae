/-
  THE WALK of TwoLevel.dropEmptyBlocks (12).
-/
import Derived.Test.Qxb6627971aBlock
import Derived.Test.Qxb6627971aKeep
import Derived.RegionTactic
import Derived.BigRegion
namespace Go.Proofs.Qxb6627971a
open Go.RowKit
/-- The empty blocks left out. -/
def dropE (t : TL) : TL := { t with gaps := true, ss := kp t.ss t.ss t.ss.length, ns := kp t.ss t.ns t.ss.length, fs := kp t.ss t.fs t.ss.length }

theorem drop_end {w : World} {T : Nat} {t : TL} {g2 c2 g3 c3 g4 c4 L k : Nat} {v5 : Value}
    (h : Tw w T { t with ss := arr t.ss t.ss L, ns := arr t.ss t.ns L, fs := arr t.ss t.fs L } (.slice (some ⟨g2, 0, none⟩) L c2) (.slice (some ⟨g3, 0, none⟩) L c3) (.slice (some ⟨g4, 0, none⟩) L c4) v5)
    (l2 : t.ss.length = L) (l3 : t.ns.length = L) (l4 : t.fs.length = L) (hk : cnt t.ss L = k) :
    Tw ((((w.setCell ⟨T, 3, none⟩ (.slice (some ⟨g3, 0, none⟩) k c3)).setCell ⟨T, 2, none⟩ (.slice (some ⟨g2, 0, none⟩) k c2)).setCell ⟨T, 4, none⟩ (.slice (some ⟨g4, 0, none⟩) k c4)).setCell ⟨T, 1, none⟩ (.bool true)).drew T (dropE t)
      (.slice (some ⟨g2, 0, none⟩) k c2) (.slice (some ⟨g3, 0, none⟩) k c3) (.slice (some ⟨g4, 0, none⟩) k c4) v5 := by
  have hc := cnt_le t.ss L
  subst hk
  have k3 := h.set3 (h.o3.cut (cnt t.ss L) (by show _ ≤ (arr _ _ _).length; rw [arr_length _ _ _ (by omega)]; omega)) h.t3 (fun b hb e => h.s23 b e hb) h.s34 h.s35
  have k2 := k3.set2 (k3.o2.cut (cnt t.ss L) (by show _ ≤ (arr _ _ _).length; rw [arr_length _ _ _ (by omega)]; omega)) k3.t2 k3.s23 k3.s24 k3.s25
  have k4 := k2.set4 (k2.o4.cut (cnt t.ss L) (by show _ ≤ (arr _ _ _).length; rw [arr_length _ _ _ (by omega)]; omega)) k2.t4 (fun b hb e => k2.s24 b e hb) (fun b hb e => k2.s34 b e hb) k2.s45
  have k1 := (k4.setGaps true).draw
  have e : ({ base := t.base, gaps := true, ss := (arr t.ss t.ss L).take (cnt t.ss L), ns := (arr t.ss t.ns L).take (cnt t.ss L), fs := (arr t.ss t.fs L).take (cnt t.ss L), ws := t.ws } : TL) = dropE t := by
    unfold dropE
    rw [arr_take, arr_take, arr_take, l2]
  rw [← e]
  exact k1

set_option maxHeartbeats 4000000 in
theorem drop_any (T : Nat) (t : TL) (g2 c2 g3 c3 g4 c4 : Nat) (v5 : Value) (L : Nat) (w : World)
    (h : Tw w T t (.slice (some ⟨g2, 0, none⟩) L c2) (.slice (some ⟨g3, 0, none⟩) L c3) (.slice (some ⟨g4, 0, none⟩) L c4) v5)
    (l2 : t.ss.length = L) (l3 : t.ns.length = L) (l4 : t.fs.length = L) (hL : L ≤ 1048576) (b2 : L ≤ c2) (b3 : L ≤ c3) (b4 : L ≤ c4) :
    Calls Try.prog 12 #[.pointer (some ⟨T, 0, none⟩)] w fun e w' => e = .returned (.tuple #[]) ∧ ∃ u2 u3 u4, Tw w' T (dropE t) u2 u3 u4 v5 ∧ Turn w w' (Foot T (.slice (some ⟨g2, 0, none⟩) L c2) (.slice (some ⟨g3, 0, none⟩) L c3) (.slice (some ⟨g4, 0, none⟩) L c4) v5) (Foot T u2 u3 u4 v5) := by
  have a2 := h.c2
  go_enter Try.func12, Try.ntmps12
  go_wp2
  go_loopw [2, 10] (fun kv pv wx => ∃ p : Nat, p ≤ L ∧ pv = .int .i64 p ∧ kv = .int .i64 (cnt t.ss p : Nat) ∧
      Tw wx T { t with ss := arr t.ss t.ss p, ns := arr t.ss t.ns p, fs := arr t.ss t.fs p } (.slice (some ⟨g2, 0, none⟩) L c2) (.slice (some ⟨g3, 0, none⟩) L c3) (.slice (some ⟨g4, 0, none⟩) L c4) v5 ∧
      Turn w wx (Foot T (.slice (some ⟨g2, 0, none⟩) L c2) (.slice (some ⟨g3, 0, none⟩) L c3) (.slice (some ⟨g4, 0, none⟩) L c4) v5) (Foot T (.slice (some ⟨g2, 0, none⟩) L c2) (.slice (some ⟨g3, 0, none⟩) L c3) (.slice (some ⟨g4, 0, none⟩) L c4) v5)) (fun _ pv _ => L - (intOf pv).toNat)
  case atStart => exact ⟨0, Nat.zero_le _, rfl, rfl, h, Turn.refl _ _⟩
  case round =>
    obtain ⟨p, hp, rfl, rfl, hT, hU⟩ := hrel
    clear a2
    have hc := cnt_le t.ss p
    by_cases hlt : p < L
    · have e2 := hT.o2.cell (by show L = _; rw [arr_length _ _ _ (by omega)]; exact l2.symm) p (by show p < _; rw [arr_length _ _ _ (by omega)]; omega)
      have e3 := hT.o3.cell (by show L = _; rw [arr_length _ _ _ (by omega)]; exact l3.symm) p (by show p < _; rw [arr_length _ _ _ (by omega)]; omega)
      have e4 := hT.o4.cell (by show L = _; rw [arr_length _ _ _ (by omega)]; exact l4.symm) p (by show p < _; rw [arr_length _ _ _ (by omega)]; omega)
      rw [show (TL.ss { t with ss := arr t.ss t.ss p, ns := arr t.ss t.ns p, fs := arr t.ss t.fs p }) = arr t.ss t.ss p from rfl, arr_at] at e2
      rw [show (TL.ns { t with ss := arr t.ss t.ss p, ns := arr t.ss t.ns p, fs := arr t.ss t.fs p }) = arr t.ss t.ns p from rfl, arr_at] at e3
      rw [show (TL.fs { t with ss := arr t.ss t.ss p, ns := arr t.ss t.ns p, fs := arr t.ss t.fs p }) = arr t.ss t.fs p from rfl, arr_at] at e4
      by_cases hz : t.ss.getD p 0 = 0
      · have hz' : (t.ss.getD p 0 != 0) = false := by rw [hz]; rfl
        rw [hz] at e2
        have A1 : Hid (cnt t.ss (p + 1) = cnt t.ss p) := by show _ = _; simp only [cnt, hz, if_true, Nat.add_zero]
        have A2 := arr_skip t.ss t.ss p hz
        have A3 := arr_skip t.ss t.ns p hz
        have A4 := arr_skip t.ss t.fs p hz
        have HT : Hid (Tw wr T { t with ss := arr t.ss t.ss (p + 1), ns := arr t.ss t.ns (p + 1), fs := arr t.ss t.fs (p + 1) } (.slice (some ⟨g2, 0, none⟩) L c2) (.slice (some ⟨g3, 0, none⟩) L c3) (.slice (some ⟨g4, 0, none⟩) L c4) v5) := by
          show Tw _ _ _ _ _ _ _
          rw [A2, A3, A4]; exact hT
        clear A2 A3 A4 hz hz' e3 e4
        go_wp2
        go_roundw
        case rel => exact ⟨p + 1, by omega, by go_num, by rw [A1.out], HT.out, hU⟩
        case measure => simp [intOf]; omega
      · have hz' : (t.ss.getD p 0 != 0) = true := bne_iff_ne.2 hz
        have A1 : Hid (cnt t.ss (p + 1) = cnt t.ss p + 1) := by show _ = _; simp only [cnt, if_neg hz]
        have A2 : Hid _ := arr_keep t.ss t.ss p (by omega) hz
        have A3 : Hid _ := arr_keep t.ss t.ns p (by omega) hz
        have A4 : Hid _ := arr_keep t.ss t.fs p (by omega) hz
        clear hz
        have q2 := hT.c2
        have q3 := hT.c3
        have q4 := hT.c4
        have hb1 : (0 : Int) ≤ (cnt t.ss p : Int) := by omega
        have hb2 : (cnt t.ss p : Int) < (L : Int) := by omega
        have n2 : L = (arr t.ss t.ss p).length := by rw [arr_length _ _ _ (by omega)]; exact l2.symm
        have n3 : L = (arr t.ss t.ns p).length := by rw [arr_length _ _ _ (by omega)]; exact l3.symm
        have n4 : L = (arr t.ss t.fs p).length := by rw [arr_length _ _ _ (by omega)]; exact l4.symm
        have x2 := hT.o2.cell n2 (cnt t.ss p) (by show _ < (arr _ _ _).length; omega)
        have x3 := hT.o3.cell n3 (cnt t.ss p) (by show _ < (arr _ _ _).length; omega)
        have x4 := hT.o4.cell n4 (cnt t.ss p) (by show _ < (arr _ _ _).length; omega)
        have y2 := hT.o2.free n2
        have y3 := hT.o3.free n3
        have y4 := hT.o4.free n4
        have N2 : Hid _ := n2
        have N3 : Hid _ := n3
        have N4 : Hid _ := n4
        clear n2 n3 n4
        have z23 : g2 ≠ g3 := fun e => hT.s23 g2 rfl (by rw [e]; rfl)
        have z24 : g2 ≠ g4 := fun e => hT.s24 g2 rfl (by rw [e]; rfl)
        have z34 : g3 ≠ g4 := fun e => hT.s34 g3 rfl (by rw [e]; rfl)
        have z2 : g2 ≠ T := fun e => hT.t2 (by rw [e]; rfl)
        have z3 : g3 ≠ T := fun e => hT.t3 (by rw [e]; rfl)
        have z4 : g4 ≠ T := fun e => hT.t4 (by rw [e]; rfl)
        have HT := ((hT.put3 N3.out (cnt t.ss p) (t.ns.getD p 0)).put2 N2.out (cnt t.ss p) (t.ss.getD p 0)).put4 N4.out (cnt t.ss p) (t.fs.getD p 0)
        have e5 : ({ base := t.base, gaps := t.gaps, ss := (arr t.ss t.ss p).set (cnt t.ss p) (t.ss.getD p 0), ns := (arr t.ss t.ns p).set (cnt t.ss p) (t.ns.getD p 0), fs := (arr t.ss t.fs p).set (cnt t.ss p) (t.fs.getD p 0), ws := t.ws } : TL) = { t with ss := arr t.ss t.ss (p + 1), ns := arr t.ss t.ns (p + 1), fs := arr t.ss t.fs (p + 1) } := by
          rw [A2.out, A3.out, A4.out]
        have HT2 : Hid (Tw (((wr.setCell ⟨g3, cnt t.ss p, none⟩ (.int .i32 (t.ns.getD p 0))).setCell ⟨g2, cnt t.ss p, none⟩ (.int .u64 (t.ss.getD p 0))).setCell ⟨g4, cnt t.ss p, none⟩ (.int .i32 (t.fs.getD p 0))) T { t with ss := arr t.ss t.ss (p + 1), ns := arr t.ss t.ns (p + 1), fs := arr t.ss t.fs (p + 1) } (.slice (some ⟨g2, 0, none⟩) L c2) (.slice (some ⟨g3, 0, none⟩) L c3) (.slice (some ⟨g4, 0, none⟩) L c4) v5) := by
          show Tw _ _ _ _ _ _ _
          rw [← e5]; exact HT
        clear HT e5 A2 A3 A4
        generalize t.ss.getD p 0 = y at *
        generalize t.ns.getD p 0 = yn at *
        generalize t.fs.getD p 0 = yf at *
        generalize (TL.ss { t with ss := arr t.ss t.ss p, ns := arr t.ss t.ns p, fs := arr t.ss t.fs p }).getD (cnt t.ss p) 0 = o2 at *
        generalize (TL.ns { t with ss := arr t.ss t.ss p, ns := arr t.ss t.ns p, fs := arr t.ss t.fs p }).getD (cnt t.ss p) 0 = o3 at *
        generalize (TL.fs { t with ss := arr t.ss t.ss p, ns := arr t.ss t.ns p, fs := arr t.ss t.fs p }).getD (cnt t.ss p) 0 = o4 at *
        generalize hk : cnt t.ss p = k at *
        have HK : Hid (cnt t.ss p = k) := hk
        clear hk
        go_wp2
        go_region
        go_wp2
        go_roundw
        case rel => exact ⟨p + 1, by omega, by go_num, by rw [A1.out]; go_num, HT2.out.draw, (((hU.set (b := g3) (.inr (.inr (.inl rfl))) _ _).set (b := g2) (.inr (.inl rfl)) _ _).set (b := g4) (.inr (.inr (.inr (.inl rfl)))) _ _).draw⟩
        case measure => simp [intOf]; omega
    · obtain rfl : p = L := by omega
      have q2 := hT.c2
      have q3 := hT.c3
      have q4 := hT.c4
      have qf := hT.free
      have q1 := hT.c1
      have i1 : (0 : Int) ≤ (cnt t.ss p : Int) := by omega
      have i2 : (cnt t.ss p : Int) ≤ (c2 : Int) := by omega
      have i3 : (cnt t.ss p : Int) ≤ (c3 : Int) := by omega
      have i4 : (cnt t.ss p : Int) ≤ (c4 : Int) := by omega
      have j2 : cnt t.ss p ≤ c2 := by omega
      have j3 : cnt t.ss p ≤ c3 := by omega
      have j4 : cnt t.ss p ≤ c4 := by omega
      generalize hk : cnt t.ss p = k at *
      have HK : Hid (cnt t.ss p = k) := hk
      clear hk
      go_wp2
      go_region
      go_wp2
      go_end0
      refine ⟨rfl, .slice (some ⟨g2, 0, none⟩) k c2, .slice (some ⟨g3, 0, none⟩) k c3, .slice (some ⟨g4, 0, none⟩) k c4, ?_, ?_⟩
      · exact drop_end hT l2 l3 l4 HK.out
      · exact ((((hU.draw.set (b := T) (.inl rfl) 3 _).set (b := T) (.inl rfl) 2 _).set (b := T) (.inl rfl) 4 _).set (b := T) (.inl rfl) 1 _)
end Go.Proofs.Qxb6627971a

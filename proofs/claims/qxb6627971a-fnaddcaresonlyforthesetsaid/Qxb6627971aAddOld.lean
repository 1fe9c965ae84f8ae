/-
  THE WALK of TwoLevel.Add (7) where the integer's block is there: a new word, or the last one.
-/
import Derived.Test.Qxb6627971aHalf
namespace Go.Proofs.Qxb6627971a
open Go.RowKit

set_option maxRecDepth 100000 in
set_option maxHeartbeats 4000000 in
theorem addE (T : Nat) (t : TL) (g2 c2 g3 c3 : Nat) (v4 v5 : Value) (m : Nat) (x s z : Int) (w : World)
    (h : Tw w T t (.slice (some ⟨g2, 0, none⟩) (m + 1) c2) (.slice (some ⟨g3, 0, none⟩) (m + 1) c3) v4 v5)
    (l2 : t.ss.length = m + 1) (l3 : t.ns.length = m + 1) (l5 : t.ws.length ≤ 1000000) (hL : m ≤ 1000000) (hx0 : 0 ≤ x) (hx1 : x ≤ 2147483647)
    (hlast : t.ns.getD m 0 = x / 4096) (hs : t.ss.getD m 0 = s) (hs0 : 0 ≤ s) (hs1 : s ≤ 18446744073709551615)
    (hz : Hid (64 - (Lib.bitLen s.toNat : Int) = z)) (hz0 : 0 ≤ z) (hz1 : z ≤ 64) (hk : 63 - z < x / 64 % 64) :
    Calls Try.prog 7 #[.pointer (some ⟨T, 0, none⟩), .int .i64 x] w fun e w' => e = .returned (.tuple #[]) ∧
      ∃ u5, Tw w' T (newWord t m (x / 64 % 64) (x % 64)) (.slice (some ⟨g2, 0, none⟩) (m + 1) c2) (.slice (some ⟨g3, 0, none⟩) (m + 1) c3) v4 u5 ∧
        Turn w w' (Foot T (.slice (some ⟨g2, 0, none⟩) (m + 1) c2) (.slice (some ⟨g3, 0, none⟩) (m + 1) c3) v4 v5) (Foot T (.slice (some ⟨g2, 0, none⟩) (m + 1) c2) (.slice (some ⟨g3, 0, none⟩) (m + 1) c3) v4 u5) := by
  have q3 := h.c3
  have q2 := h.c2
  have q5 := h.c5
  have e3 := h.o3.cell l3.symm m (by omega)
  have e2 := h.o2.cell l2.symm m (by omega)
  have f2 := h.o2.free l2.symm
  rw [hlast] at e3
  rw [hs] at e2
  obtain ⟨g5, c5, w2, r, z2, z5, k5, kf, ke, kg, tw, tu⟩ := new_steps h l2 l5 (x / 64 % 64) (x % 64) s hs
  have R : Hid _ := r
  have TW : Hid _ := tw
  have TU : Hid _ := tu
  obtain ⟨s', hs'⟩ : ∃ s', orB s (x / 64 % 64) = s' := ⟨_, rfl⟩
  obtain ⟨y', hy'⟩ : ∃ y', orB 0 (x % 64) = y' := ⟨_, rfl⟩
  rw [hs'] at R
  rw [hy'] at TW TU
  have o1 : bits BinOp.or IntKind.u64 s (IntKind.u64.wrap (2 ^ (x / 64 % 64).toNat)) = s' := hs'
  have o2 : bits BinOp.or IntKind.u64 0 (IntKind.u64.wrap (2 ^ (x % 64).toNat)) = y' := hy'
  clear r tw tu hs' hy' hlast hs h
  go_enter Try.func7, Try.ntmps7
  go_wp2_with (go_at_call 13; refine (lz_is s z _ hs0 hs1 hz).mono ?_; rintro e w' ⟨rfl, rfl⟩)
  go_region
  go_wp2_with (at_builtin; refine wpList_app rfl (.tmp 140) (.tmp 141) 24 24 rfl rfl v5 _ _ rfl rfl R.out ?_)
  go_region
  go_wp2
  go_end0
  exact ⟨rfl, _, TW.out, TU.out⟩

set_option maxRecDepth 100000 in
set_option maxHeartbeats 4000000 in
theorem addF (T : Nat) (t : TL) (g2 c2 g3 c3 g5 c5 : Nat) (v4 : Value) (m n5 : Nat) (x s z : Int) (w : World)
    (h : Tw w T t (.slice (some ⟨g2, 0, none⟩) (m + 1) c2) (.slice (some ⟨g3, 0, none⟩) (m + 1) c3) v4 (.slice (some ⟨g5, 0, none⟩) (n5 + 1) c5))
    (l2 : t.ss.length = m + 1) (l3 : t.ns.length = m + 1) (l5 : t.ws.length = n5 + 1) (hn5 : n5 ≤ 1000000) (hL : m ≤ 1000000) (hx0 : 0 ≤ x) (hx1 : x ≤ 2147483647)
    (hlast : t.ns.getD m 0 = x / 4096) (hs : t.ss.getD m 0 = s) (hs0 : 0 ≤ s) (hs1 : s ≤ 18446744073709551615)
    (hz : Hid (64 - (Lib.bitLen s.toNat : Int) = z)) (hk : 63 - z = x / 64 % 64) :
    Calls Try.prog 7 #[.pointer (some ⟨T, 0, none⟩), .int .i64 x] w fun e w' => e = .returned (.tuple #[]) ∧
      Tw w' T (sameWord t n5 (x % 64)) (.slice (some ⟨g2, 0, none⟩) (m + 1) c2) (.slice (some ⟨g3, 0, none⟩) (m + 1) c3) v4 (.slice (some ⟨g5, 0, none⟩) (n5 + 1) c5) ∧
        Turn w w' (Foot T (.slice (some ⟨g2, 0, none⟩) (m + 1) c2) (.slice (some ⟨g3, 0, none⟩) (m + 1) c3) v4 (.slice (some ⟨g5, 0, none⟩) (n5 + 1) c5)) (Foot T (.slice (some ⟨g2, 0, none⟩) (m + 1) c2) (.slice (some ⟨g3, 0, none⟩) (m + 1) c3) v4 (.slice (some ⟨g5, 0, none⟩) (n5 + 1) c5)) := by
  have q3 := h.c3
  have q2 := h.c2
  have q5 := h.c5
  have e3 := h.o3.cell l3.symm m (by omega)
  have e2 := h.o2.cell l2.symm m (by omega)
  have e5 := h.o5.cell l5.symm n5 (by omega)
  have f5 := h.o5.free l5.symm
  rw [hlast] at e3
  rw [hs] at e2
  have tw := (h.put5 l5.symm n5 (orB (t.ws.getD n5 0) (x % 64))).draw
  have TW : Hid (Tw _ T (sameWord t n5 (x % 64)) _ _ _ _) := tw
  have TU : Hid _ := ((Turn.refl w (Foot T (.slice (some ⟨g2, 0, none⟩) (m + 1) c2) (.slice (some ⟨g3, 0, none⟩) (m + 1) c3) v4 (.slice (some ⟨g5, 0, none⟩) (n5 + 1) c5))).set (b := g5) (.inr (.inr (.inr (.inr rfl)))) n5 (.int .u64 (orB (t.ws.getD n5 0) (x % 64)))).draw
  obtain ⟨y, hy⟩ : ∃ y, t.ws.getD n5 0 = y := ⟨_, rfl⟩
  rw [hy] at e5 TW TU
  obtain ⟨y', hy'⟩ : ∃ y', orB y (x % 64) = y' := ⟨_, rfl⟩
  rw [hy'] at TW TU
  have o2 : bits BinOp.or IntKind.u64 y (IntKind.u64.wrap (2 ^ (x % 64).toNat)) = y' := hy'
  have hz0 : 0 ≤ z := by omega
  have hz1 : z ≤ 64 := by omega
  have t1 : ¬ x / 64 % 64 < 63 - z := by omega
  have t2 : ¬ 63 - z < x / 64 % 64 := by omega
  clear tw hy hy' hlast hs h hk
  go_enter Try.func7, Try.ntmps7
  go_wp2_with (go_at_call 13; refine (lz_is s z _ hs0 hs1 hz).mono ?_; rintro e w' ⟨rfl, rfl⟩)
  go_region
  go_wp2
  go_end0
  exact ⟨rfl, TW.out, TU.out⟩
end Go.Proofs.Qxb6627971a

/-
  THE WALKS of caddis.rowBelow (8) and caddis.ZZrowBelow (5).
-/
import Derived.Test.Qxb6634873aRows
import Derived.Test.Qxb6634873aPlain
import Derived.WalkKit
import Derived.WalkSpells
import Derived.WalkLawsBesides
namespace Go.Proofs.Qxb6634873a
open Go.RowKit

/-- A new block, behind whatever new blocks. -/
theorem below_new {w w' : World} (h : Below w.heap.size w w') (o : Obj) : Below w.heap.size w (w'.alloc o) := h.alloc h.size o

set_option maxHeartbeats 1000000 in
theorem below_any (r0 r1 r2 r3 r4 s : Int) (w : World) (h0 : 0 ≤ r0) (h0' : r0 ≤ 254) (h1 : 0 ≤ r1) (h1' : r1 ≤ 254) (h2 : 0 ≤ r2) (h2' : r2 ≤ 254) (h3 : 0 ≤ r3) (h3' : r3 ≤ 254) (h4 : 0 ≤ r4) (h4' : r4 ≤ 254) :
    Calls Try.prog 8 #[.agg #[.int .u8 r0, .int .u8 r1, .int .u8 r2, .int .u8 r3, .int .u8 r4], .int .i64 s] w fun e w' => e = .returned (.agg #[.int .u8 (n0 r0 r1 s), .int .u8 (n1 r0 r1 r2 s), .int .u8 (n2 r0 r1 r2 r3 s), .int .u8 (n3 r0 r1 r2 r3 r4 s), .int .u8 (n4 r0 r1 r2 r3 r4 s)]) ∧ ∃ c1 c2 c3 : Array Value, w' = ((w.alloc (.cells c1 22)).alloc (.cells c2 22)).alloc (.cells c3 22) := by
  have k0 := ch_bd s 1
  have k1 := ch_bd s 2
  have k2 := ch_bd s 4
  have k3 := ch_bd s 8
  have k4 := ch_bd s 16
  have l0 : 0 ≤ n0 r0 r1 s := m4_pos _ _ _ (by omega) (by omega) (by omega)
  have l0' : n0 r0 r1 s ≤ 3 := m4_le _ _ _
  have l1 : 0 ≤ n1 r0 r1 r2 s := m4_pos _ _ _ (by omega) (by omega) (by omega)
  have l1' : n1 r0 r1 r2 s ≤ 3 := m4_le _ _ _
  have l2 : 0 ≤ n2 r0 r1 r2 r3 s := m4_pos _ _ _ (by omega) (by omega) (by omega)
  have l2' : n2 r0 r1 r2 r3 s ≤ 3 := m4_le _ _ _
  have l3 : 0 ≤ n3 r0 r1 r2 r3 r4 s := m4_pos _ _ _ (by omega) (by omega) (by omega)
  have l3' : n3 r0 r1 r2 r3 r4 s ≤ 3 := m4_le _ _ _
  have e0 := fun ts t W => run_min4 Try.prog W ts t (r1 + 1) 4 (r0 + ch s 1) (n0 r0 r1 s) rfl
  have e1 := fun ts t W => run_min4 Try.prog W ts t (r2 + 1) (n0 r0 r1 s + 1) (r1 + ch s 2) (n1 r0 r1 r2 s) rfl
  have e2 := fun ts t W => run_min4 Try.prog W ts t (r3 + 1) (n1 r0 r1 r2 s + 1) (r2 + ch s 4) (n2 r0 r1 r2 r3 s) rfl
  have e3 := fun ts t W => run_min4 Try.prog W ts t (r4 + 1) (n2 r0 r1 r2 r3 s + 1) (r3 + ch s 8) (n3 r0 r1 r2 r3 r4 s) rfl
  have e4 := fun ts t W => run_min4 Try.prog W ts t 3 (n3 r0 r1 r2 r3 r4 s + 1) (r4 + ch s 16) (n4 r0 r1 r2 r3 r4 s) rfl
  generalize n0 r0 r1 s = b0 at *
  generalize n1 r0 r1 r2 s = b1 at *
  generalize n2 r0 r1 r2 r3 s = b2 at *
  generalize n3 r0 r1 r2 r3 r4 s = b3 at *
  generalize n4 r0 r1 r2 r3 r4 s = b4 at *
  go_enter Try.func8, Try.ntmps8
  go_wp2
  go_loopw [6, 10] (fun l i wr => ∃ (k : Nat) (a b c d e left : Int), i = .int .i64 k ∧ l = .int .u8 left ∧ wr = ((w.alloc (.cells #[.int .u8 r0, .int .u8 r1, .int .u8 r2, .int .u8 r3, .int .u8 r4] 22)).alloc (.cells #[.int .u8 0, .int .u8 0, .int .u8 0, .int .u8 0, .int .u8 0] 22)).alloc (.cells #[.int .u8 a, .int .u8 b, .int .u8 c, .int .u8 d, .int .u8 e] 22) ∧
     ((k = 0 ∧ 3 = left) ∨ (k = 1 ∧ b0 = left ∧ b0 = a) ∨ (k = 2 ∧ b1 = left ∧ b0 = a ∧ b1 = b) ∨ (k = 3 ∧ b2 = left ∧ b0 = a ∧ b1 = b ∧ b2 = c) ∨ (k = 4 ∧ b3 = left ∧ b0 = a ∧ b1 = b ∧ b2 = c ∧ b3 = d) ∨ (k = 5 ∧ b0 = a ∧ b1 = b ∧ b2 = c ∧ b3 = d ∧ b4 = e))) (fun _ i _ => 5 - (intOf i).toNat)
  case atStart => exact ⟨0, 0, 0, 0, 0, 0, 3, rfl, rfl, rfl, .inl ⟨rfl, rfl⟩⟩
  case round =>
    obtain ⟨k, a, b, c, d, e, left, rfl, rfl, rfl, hk⟩ := hrel
    rcases hk with ⟨rfl, rfl⟩ | ⟨rfl, rfl, rfl⟩ | ⟨rfl, rfl, rfl, rfl⟩ | ⟨rfl, rfl, rfl, rfl, rfl⟩ | ⟨rfl, rfl, rfl, rfl, rfl, rfl⟩ | ⟨rfl, rfl, rfl, rfl, rfl, rfl⟩
    · cases ht : (bits BinOp.and IntKind.i64 s 1 != 0)
      · rw [ch_no ht] at e0
        go_wp2
        go_roundw
        case rel => exact ⟨1, _, _, _, _, _, _, rfl, rfl, rfl, .inr (.inl ⟨rfl, rfl, rfl⟩)⟩
        case measure => simp [intOf]
      · rw [ch_yes ht, Int.add_zero] at e0
        go_wp2
        go_roundw
        case rel => exact ⟨1, _, _, _, _, _, _, rfl, rfl, rfl, .inr (.inl ⟨rfl, rfl, rfl⟩)⟩
        case measure => simp [intOf]
    · cases ht : (bits BinOp.and IntKind.i64 s 2 != 0)
      · rw [ch_no ht] at e1
        go_wp2
        go_roundw
        case rel => exact ⟨2, _, _, _, _, _, _, rfl, rfl, rfl, .inr (.inr (.inl ⟨rfl, rfl, rfl, rfl⟩))⟩
        case measure => simp [intOf]
      · rw [ch_yes ht, Int.add_zero] at e1
        go_wp2
        go_roundw
        case rel => exact ⟨2, _, _, _, _, _, _, rfl, rfl, rfl, .inr (.inr (.inl ⟨rfl, rfl, rfl, rfl⟩))⟩
        case measure => simp [intOf]
    · cases ht : (bits BinOp.and IntKind.i64 s 4 != 0)
      · rw [ch_no ht] at e2
        go_wp2
        go_roundw
        case rel => exact ⟨3, _, _, _, _, _, _, rfl, rfl, rfl, .inr (.inr (.inr (.inl ⟨rfl, rfl, rfl, rfl, rfl⟩)))⟩
        case measure => simp [intOf]
      · rw [ch_yes ht, Int.add_zero] at e2
        go_wp2
        go_roundw
        case rel => exact ⟨3, _, _, _, _, _, _, rfl, rfl, rfl, .inr (.inr (.inr (.inl ⟨rfl, rfl, rfl, rfl, rfl⟩)))⟩
        case measure => simp [intOf]
    · cases ht : (bits BinOp.and IntKind.i64 s 8 != 0)
      · rw [ch_no ht] at e3
        go_wp2
        go_roundw
        case rel => exact ⟨4, _, _, _, _, _, _, rfl, rfl, rfl, .inr (.inr (.inr (.inr (.inl ⟨rfl, rfl, rfl, rfl, rfl, rfl⟩))))⟩
        case measure => simp [intOf]
      · rw [ch_yes ht, Int.add_zero] at e3
        go_wp2
        go_roundw
        case rel => exact ⟨4, _, _, _, _, _, _, rfl, rfl, rfl, .inr (.inr (.inr (.inr (.inl ⟨rfl, rfl, rfl, rfl, rfl, rfl⟩))))⟩
        case measure => simp [intOf]
    · cases ht : (bits BinOp.and IntKind.i64 s 16 != 0)
      · rw [ch_no ht] at e4
        go_wp2
        go_roundw
        case rel => exact ⟨5, _, _, _, _, _, _, rfl, rfl, rfl, .inr (.inr (.inr (.inr (.inr ⟨rfl, rfl, rfl, rfl, rfl, rfl⟩))))⟩
        case measure => simp [intOf]
      · rw [ch_yes ht, Int.add_zero] at e4
        go_wp2
        go_roundw
        case rel => exact ⟨5, _, _, _, _, _, _, rfl, rfl, rfl, .inr (.inr (.inr (.inr (.inr ⟨rfl, rfl, rfl, rfl, rfl, rfl⟩))))⟩
        case measure => simp [intOf]
    · go_wp2
      refine bodyPost_ret (v := .agg #[.int .u8 b0, .int .u8 b1, .int .u8 b2, .int .u8 b3, .int .u8 b4]) (by simp [results, Try.results8, go_sem]) rfl ⟨rfl, ?_⟩
      exact ⟨_, _, _, rfl⟩

set_option maxHeartbeats 400000 in
theorem zzbelow_any (r0 r1 r2 r3 r4 s : Int) (w : World) (h0 : 0 ≤ r0) (h0' : r0 ≤ 254) (h1 : 0 ≤ r1) (h1' : r1 ≤ 254) (h2 : 0 ≤ r2) (h2' : r2 ≤ 254) (h3 : 0 ≤ r3) (h3' : r3 ≤ 254) (h4 : 0 ≤ r4) (h4' : r4 ≤ 254) :
    Calls Try.prog 5 #[.agg #[.int .u8 r0, .int .u8 r1, .int .u8 r2, .int .u8 r3, .int .u8 r4], .int .i64 s] w fun e w' => e = .returned (.agg #[.int .u8 (n0 r0 r1 s), .int .u8 (n1 r0 r1 r2 s), .int .u8 (n2 r0 r1 r2 r3 s), .int .u8 (n3 r0 r1 r2 r3 r4 s), .int .u8 (n4 r0 r1 r2 r3 r4 s)]) ∧ ∃ c1 c2 c3 c4 c5 : Array Value, w' = ((((w.alloc (.cells c1 22)).alloc (.cells c2 22)).alloc (.cells c3 22)).alloc (.cells c4 22)).alloc (.cells c5 22) := by
  go_enter Try.func5, Try.ntmps5
  go_wp2_with (go_at_call 8; refine (below_any r0 r1 r2 r3 r4 s _ h0 h0' h1 h1' h2 h2' h3 h3' h4 h4').mono ?_; rintro e w' ⟨rfl, c1, c2, c3, rfl⟩)
  refine bodyPost_ret (v := .agg #[.int .u8 (n0 r0 r1 s), .int .u8 (n1 r0 r1 r2 s), .int .u8 (n2 r0 r1 r2 r3 s), .int .u8 (n3 r0 r1 r2 r3 r4 s), .int .u8 (n4 r0 r1 r2 r3 r4 s)]) (by simp [results, Try.results5, go_sem]) rfl ⟨rfl, ?_⟩
  exact ⟨_, _, _, _, _, rfl⟩
end Go.Proofs.Qxb6634873a

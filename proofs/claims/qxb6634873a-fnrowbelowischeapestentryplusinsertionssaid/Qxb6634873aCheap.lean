/-
  THE WALK of FnRowBelowIsCheapestEntryPlusInsertions (3).
-/
import Derived.Test.Qxb6634873aBelow
namespace Go.Proofs.Qxb6634873a
open Go.RowKit
set_option maxHeartbeats 1000000 in
theorem walk3 (r0 r1 r2 r3 r4 s : Int) (w : World) (h0 : 0 ≤ r0) (h0' : r0 ≤ 255) (h1 : 0 ≤ r1) (h1' : r1 ≤ 255) (h2 : 0 ≤ r2) (h2' : r2 ≤ 255) (h3 : 0 ≤ r3) (h3' : r3 ≤ 255) (h4 : 0 ≤ r4) (h4' : r4 ≤ 255) :
    Calls Try.prog 3 #[.agg #[.int .u8 r0, .int .u8 r1, .int .u8 r2, .int .u8 r3, .int .u8 r4], .int .i64 s] w fun e w' => e = .returned (.bool true) ∧ Below w.heap.size w w' := by
  go_enter Try.func3, Try.ntmps3
  go_wp2
  go_loop [5] (fun i => ∃ (k : Nat), i = .int .i64 k ∧ ((k = 0) ∨ (k = 1 ∧ r0 ≤ 254) ∨ (k = 2 ∧ r0 ≤ 254 ∧ r1 ≤ 254) ∨ (k = 3 ∧ r0 ≤ 254 ∧ r1 ≤ 254 ∧ r2 ≤ 254) ∨ (k = 4 ∧ r0 ≤ 254 ∧ r1 ≤ 254 ∧ r2 ≤ 254 ∧ r3 ≤ 254) ∨ (k = 5 ∧ r0 ≤ 254 ∧ r1 ≤ 254 ∧ r2 ≤ 254 ∧ r3 ≤ 254 ∧ r4 ≤ 254))) (fun i => 5 - (intOf i).toNat)
  case atStart => exact ⟨0, rfl, .inl rfl⟩
  case round =>
    obtain ⟨k, rfl, hk⟩ := hrel
    rcases hk with rfl | ⟨rfl, g0⟩ | ⟨rfl, g0, g1⟩ | ⟨rfl, g0, g1, g2⟩ | ⟨rfl, g0, g1, g2, g3⟩ | ⟨rfl, g0, g1, g2, g3, g4⟩
    · by_cases ht : r0 ≤ 254
      · go_wp2
        go_round
        case rel => exact ⟨1, rfl, .inr (.inl ⟨rfl, ht⟩)⟩
        case measure => simp [intOf]
      · have ht' : (r0 == 255) = true := by rw [beq_iff_eq]; omega
        go_wp2
        go_ret
        exact ⟨rfl, below_new (Below.refl _ _) _⟩
    · by_cases ht : r1 ≤ 254
      · go_wp2
        go_round
        case rel => exact ⟨2, rfl, .inr (.inr (.inl ⟨rfl, g0, ht⟩))⟩
        case measure => simp [intOf]
      · have ht' : (r1 == 255) = true := by rw [beq_iff_eq]; omega
        go_wp2
        go_ret
        exact ⟨rfl, below_new (Below.refl _ _) _⟩
    · by_cases ht : r2 ≤ 254
      · go_wp2
        go_round
        case rel => exact ⟨3, rfl, .inr (.inr (.inr (.inl ⟨rfl, g0, g1, ht⟩)))⟩
        case measure => simp [intOf]
      · have ht' : (r2 == 255) = true := by rw [beq_iff_eq]; omega
        go_wp2
        go_ret
        exact ⟨rfl, below_new (Below.refl _ _) _⟩
    · by_cases ht : r3 ≤ 254
      · go_wp2
        go_round
        case rel => exact ⟨4, rfl, .inr (.inr (.inr (.inr (.inl ⟨rfl, g0, g1, g2, ht⟩))))⟩
        case measure => simp [intOf]
      · have ht' : (r3 == 255) = true := by rw [beq_iff_eq]; omega
        go_wp2
        go_ret
        exact ⟨rfl, below_new (Below.refl _ _) _⟩
    · by_cases ht : r4 ≤ 254
      · go_wp2
        go_round
        case rel => exact ⟨5, rfl, .inr (.inr (.inr (.inr (.inr (⟨rfl, g0, g1, g2, g3, ht⟩)))))⟩
        case measure => simp [intOf]
      · have ht' : (r4 == 255) = true := by rw [beq_iff_eq]; omega
        go_wp2
        go_ret
        exact ⟨rfl, below_new (Below.refl _ _) _⟩
    · go_wp2_with (go_at_call 5; refine (zzbelow_any r0 r1 r2 r3 r4 s _ h0 g0 h1 g1 h2 g2 h3 g3 h4 g4).mono ?_; rintro e w' ⟨rfl, c1, c2, c3, c4, c5, rfl⟩)
      have L0 : Hid (n0 r0 r1 s = bst (e0 r0 r1 s) (e1 r1 r2 s) (e2 r2 r3 s) (e3 r3 r4 s) (e4 r4 s) 0 1) := law0 r0 r1 s _ _ _ _ h0
      have L1 : Hid (n1 r0 r1 r2 s = bst (e0 r0 r1 s) (e1 r1 r2 s) (e2 r2 r3 s) (e3 r3 r4 s) (e4 r4 s) 1 2) := law1 r0 r1 r2 s _ _ _ h0
      have L2 : Hid (n2 r0 r1 r2 r3 s = bst (e0 r0 r1 s) (e1 r1 r2 s) (e2 r2 r3 s) (e3 r3 r4 s) (e4 r4 s) 2 3) := law2 r0 r1 r2 r3 s _ _ h0
      have L3 : Hid (n3 r0 r1 r2 r3 r4 s = bst (e0 r0 r1 s) (e1 r1 r2 s) (e2 r2 r3 s) (e3 r3 r4 s) (e4 r4 s) 3 4) := law3 r0 r1 r2 r3 r4 s _ h0
      have L4 : Hid (n4 r0 r1 r2 r3 r4 s = bst (e0 r0 r1 s) (e1 r1 r2 s) (e2 r2 r3 s) (e3 r3 r4 s) (e4 r4 s) 4 5) := law4 r0 r1 r2 r3 r4 s h0
      have E0 : Hid (e0 r0 r1 s = min (r0 + ch s 1) (r1 + 1)) := rfl
      have E1 : Hid (e1 r1 r2 s = min (r1 + ch s 2) (r2 + 1)) := rfl
      have E2 : Hid (e2 r2 r3 s = min (r2 + ch s 4) (r3 + 1)) := rfl
      have E3 : Hid (e3 r3 r4 s = min (r3 + ch s 8) (r4 + 1)) := rfl
      have E4 : Hid (e4 r4 s = r4 + ch s 16) := rfl
      have k0 := ch_bd s 1
      have k1 := ch_bd s 2
      have k2 := ch_bd s 4
      have k3 := ch_bd s 8
      have k4 := ch_bd s 16
      have l0 : 0 ≤ n0 r0 r1 s := m4_pos _ _ _ (by omega) (by omega) (by omega)
      have l0' : n0 r0 r1 s ≤ 3 := m4_le _ _ _
      have l1 : 0 ≤ n1 r0 r1 r2 s := m4_pos _ _ _ (by omega) (by omega) (by omega)
      have l1' : n1 r0 r1 r2 s ≤ 3 := m4_le _ _ _
      have l2 : 0 ≤ n2 r0 r1 r2 r3 s := m4_pos _ _ _ (by omega) (by omega) (by omega)
      have l2' : n2 r0 r1 r2 r3 s ≤ 3 := m4_le _ _ _
      have l3 : 0 ≤ n3 r0 r1 r2 r3 r4 s := m4_pos _ _ _ (by omega) (by omega) (by omega)
      have l3' : n3 r0 r1 r2 r3 r4 s ≤ 3 := m4_le _ _ _
      have l4 : 0 ≤ n4 r0 r1 r2 r3 r4 s := m4_pos _ _ _ (by omega) (by omega) (by omega)
      have l4' : n4 r0 r1 r2 r3 r4 s ≤ 3 := m4_le _ _ _
      clear k0 k1 k2 k3 k4
      generalize e0 r0 r1 s = q0 at *
      generalize e1 r1 r2 s = q1 at *
      generalize e2 r2 r3 s = q2 at *
      generalize e3 r3 r4 s = q3 at *
      generalize e4 r4 s = q4 at *
      generalize n0 r0 r1 s = b0 at *
      generalize n1 r0 r1 r2 s = b1 at *
      generalize n2 r0 r1 r2 r3 s = b2 at *
      generalize n3 r0 r1 r2 r3 r4 s = b3 at *
      generalize n4 r0 r1 r2 r3 r4 s = b4 at *
      go_loop [7] (fun i => ∃ (k : Nat), k ≤ 5 ∧ i = .int .i64 k) (fun i => 5 - (intOf i).toNat)
      case atStart => exact ⟨0, by omega, rfl⟩
      case round =>
        obtain ⟨k, hk, rfl⟩ := hrel
        by_cases hk5 : k < 5
        · go_wp2
          go_loop [8, 9] (fun b j => ∃ (m : Nat), m ≤ k + 1 ∧ j = .int .i64 m ∧ b = .int .i64 (bst q0 q1 q2 q3 q4 k m)) (fun _ j => k + 1 - (intOf j).toNat)
          case atStart => exact ⟨0, by omega, rfl, rfl⟩
          case round =>
            obtain ⟨m, hm, rfl, rfl⟩ := hrel
            by_cases hlt : m ≤ k
            · obtain rfl | rfl | rfl | rfl | rfl : m = 0 ∨ m = 1 ∨ m = 2 ∨ m = 3 ∨ m = 4 := by omega
              · have ht0 : (bits .and .i64 s 1 == 1) = (bits .and .i64 s 1 != 0) := by have := bit_test s 0 1 rfl (by decide); simpa using this
                have S : Hid (bst q0 q1 q2 q3 q4 k 1 = min (bst q0 q1 q2 q3 q4 k 0) (k + q0)) := rfl
                cases ht : (bits BinOp.and IntKind.i64 s 1 != 0)
                · have hb : (bits .and .i64 s 1 == 1) = false := by rw [← ht]; exact ht0
                  have HC : Hid (ch s 1 = 1) := ch_no ht
                  clear ht0 ht
                  go_wp2
                  all_goals
                    go_round
                    case rel => exact ⟨1, by omega, rfl, congrArg (Value.int .i64) (by have z1 := S.out; have z2 := E0.out; have z3 := HC.out; omega)⟩
                    case measure => simp [intOf] <;> omega
                · have hb : (bits .and .i64 s 1 == 1) = true := by rw [← ht]; exact ht0
                  have HC : Hid (ch s 1 = 0) := ch_yes ht
                  clear ht0 ht
                  go_wp2
                  all_goals
                    go_round
                    case rel => exact ⟨1, by omega, rfl, congrArg (Value.int .i64) (by have z1 := S.out; have z2 := E0.out; have z3 := HC.out; omega)⟩
                    case measure => simp [intOf] <;> omega
              · have ht0 : (bits .and .i64 (s / 2) 1 == 1) = (bits .and .i64 s 2 != 0) := bit_test s 1 2 rfl (by decide)
                have S : Hid (bst q0 q1 q2 q3 q4 k 2 = min (bst q0 q1 q2 q3 q4 k 1) ((k : Int) - 1 + q1)) := rfl
                cases ht : (bits BinOp.and IntKind.i64 s 2 != 0)
                · have hb : (bits .and .i64 (s / 2) 1 == 1) = false := by rw [← ht]; exact ht0
                  have HC : Hid (ch s 2 = 1) := ch_no ht
                  clear ht0 ht
                  go_wp2
                  all_goals
                    go_round
                    case rel => exact ⟨2, by omega, rfl, congrArg (Value.int .i64) (by have z1 := S.out; have z2 := E1.out; have z3 := HC.out; omega)⟩
                    case measure => simp [intOf] <;> omega
                · have hb : (bits .and .i64 (s / 2) 1 == 1) = true := by rw [← ht]; exact ht0
                  have HC : Hid (ch s 2 = 0) := ch_yes ht
                  clear ht0 ht
                  go_wp2
                  all_goals
                    go_round
                    case rel => exact ⟨2, by omega, rfl, congrArg (Value.int .i64) (by have z1 := S.out; have z2 := E1.out; have z3 := HC.out; omega)⟩
                    case measure => simp [intOf] <;> omega
              · have ht0 : (bits .and .i64 (s / 4) 1 == 1) = (bits .and .i64 s 4 != 0) := bit_test s 2 4 rfl (by decide)
                have S : Hid (bst q0 q1 q2 q3 q4 k 3 = min (bst q0 q1 q2 q3 q4 k 2) ((k : Int) - 2 + q2)) := rfl
                cases ht : (bits BinOp.and IntKind.i64 s 4 != 0)
                · have hb : (bits .and .i64 (s / 4) 1 == 1) = false := by rw [← ht]; exact ht0
                  have HC : Hid (ch s 4 = 1) := ch_no ht
                  clear ht0 ht
                  go_wp2
                  all_goals
                    go_round
                    case rel => exact ⟨3, by omega, rfl, congrArg (Value.int .i64) (by have z1 := S.out; have z2 := E2.out; have z3 := HC.out; omega)⟩
                    case measure => simp [intOf] <;> omega
                · have hb : (bits .and .i64 (s / 4) 1 == 1) = true := by rw [← ht]; exact ht0
                  have HC : Hid (ch s 4 = 0) := ch_yes ht
                  clear ht0 ht
                  go_wp2
                  all_goals
                    go_round
                    case rel => exact ⟨3, by omega, rfl, congrArg (Value.int .i64) (by have z1 := S.out; have z2 := E2.out; have z3 := HC.out; omega)⟩
                    case measure => simp [intOf] <;> omega
              · have ht0 : (bits .and .i64 (s / 8) 1 == 1) = (bits .and .i64 s 8 != 0) := bit_test s 3 8 rfl (by decide)
                have S : Hid (bst q0 q1 q2 q3 q4 k 4 = min (bst q0 q1 q2 q3 q4 k 3) ((k : Int) - 3 + q3)) := rfl
                cases ht : (bits BinOp.and IntKind.i64 s 8 != 0)
                · have hb : (bits .and .i64 (s / 8) 1 == 1) = false := by rw [← ht]; exact ht0
                  have HC : Hid (ch s 8 = 1) := ch_no ht
                  clear ht0 ht
                  go_wp2
                  all_goals
                    go_round
                    case rel => exact ⟨4, by omega, rfl, congrArg (Value.int .i64) (by have z1 := S.out; have z2 := E3.out; have z3 := HC.out; omega)⟩
                    case measure => simp [intOf] <;> omega
                · have hb : (bits .and .i64 (s / 8) 1 == 1) = true := by rw [← ht]; exact ht0
                  have HC : Hid (ch s 8 = 0) := ch_yes ht
                  clear ht0 ht
                  go_wp2
                  all_goals
                    go_round
                    case rel => exact ⟨4, by omega, rfl, congrArg (Value.int .i64) (by have z1 := S.out; have z2 := E3.out; have z3 := HC.out; omega)⟩
                    case measure => simp [intOf] <;> omega
              · have ht0 : (bits .and .i64 (s / 16) 1 == 1) = (bits .and .i64 s 16 != 0) := bit_test s 4 16 rfl (by decide)
                have S : Hid (bst q0 q1 q2 q3 q4 k 5 = min (bst q0 q1 q2 q3 q4 k 4) ((k : Int) - 4 + q4)) := rfl
                cases ht : (bits BinOp.and IntKind.i64 s 16 != 0)
                · have hb : (bits .and .i64 (s / 16) 1 == 1) = false := by rw [← ht]; exact ht0
                  have HC : Hid (ch s 16 = 1) := ch_no ht
                  clear ht0 ht
                  go_wp2
                  all_goals
                    go_round
                    case rel => exact ⟨5, by omega, rfl, congrArg (Value.int .i64) (by have z1 := S.out; have z2 := E4.out; have z3 := HC.out; omega)⟩
                    case measure => simp [intOf] <;> omega
                · have hb : (bits .and .i64 (s / 16) 1 == 1) = true := by rw [← ht]; exact ht0
                  have HC : Hid (ch s 16 = 0) := ch_yes ht
                  clear ht0 ht
                  go_wp2
                  all_goals
                    go_round
                    case rel => exact ⟨5, by omega, rfl, congrArg (Value.int .i64) (by have z1 := S.out; have z2 := E4.out; have z3 := HC.out; omega)⟩
                    case measure => simp [intOf] <;> omega
            · obtain rfl : m = k + 1 := by omega
              obtain rfl | rfl | rfl | rfl | rfl : k = 0 ∨ k = 1 ∨ k = 2 ∨ k = 3 ∨ k = 4 := by omega
              · rw [show bst q0 q1 q2 q3 q4 ((0 : Nat) : Int) (0 + 1) = b0 from L0.out.symm]
                go_wp2
                go_round
                case rel => exact ⟨1, by omega, rfl⟩
                case measure => simp [intOf]
              · rw [show bst q0 q1 q2 q3 q4 ((1 : Nat) : Int) (1 + 1) = b1 from L1.out.symm]
                go_wp2
                go_round
                case rel => exact ⟨2, by omega, rfl⟩
                case measure => simp [intOf]
              · rw [show bst q0 q1 q2 q3 q4 ((2 : Nat) : Int) (2 + 1) = b2 from L2.out.symm]
                go_wp2
                go_round
                case rel => exact ⟨3, by omega, rfl⟩
                case measure => simp [intOf]
              · rw [show bst q0 q1 q2 q3 q4 ((3 : Nat) : Int) (3 + 1) = b3 from L3.out.symm]
                go_wp2
                go_round
                case rel => exact ⟨4, by omega, rfl⟩
                case measure => simp [intOf]
              · rw [show bst q0 q1 q2 q3 q4 ((4 : Nat) : Int) (4 + 1) = b4 from L4.out.symm]
                go_wp2
                go_round
                case rel => exact ⟨5, by omega, rfl⟩
                case measure => simp [intOf]
        · go_wp2
          go_ret
          exact ⟨rfl, by repeat (first | exact Below.refl _ _ | apply below_new)⟩
end Go.Proofs.Qxb6634873a

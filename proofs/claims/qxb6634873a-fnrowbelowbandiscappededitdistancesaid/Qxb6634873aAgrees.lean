/-
  THE WALK of zzBandAgrees (7).
-/
import Derived.Test.Qxb6634873aBelow
import Derived.Test.Qxb6634873aDist
namespace Go.Proofs.Qxb6634873a
open Go.RowKit

theorem neq_no {a b : Int} (h : a = b) : (a != b) = false := by subst h; simp

set_option maxHeartbeats 1600000 in
theorem agrees_any (q0 q1 q2 q3 q4 : Int) (P : Nat) (f : Nat → Int) (d n : Nat) (w : World) (hn : n ≤ 4096) (hd : d ≤ 4096) (hP : P < w.heap.size)
    (hc : ∀ j, j ≤ n → w.cell? ⟨P, j, none⟩ = some (.int .i64 (f j)))
    (g0 : okAt f n d 0 q0) (g1 : okAt f n d 1 q1) (g2 : okAt f n d 2 q2) (g3 : okAt f n d 3 q3) (g4 : okAt f n d 4 q4) :
    Calls Try.prog 7 #[.agg #[.int .u8 q0, .int .u8 q1, .int .u8 q2, .int .u8 q3, .int .u8 q4], .slice (some ⟨P, 0, none⟩) (n + 1) (n + 1), .int .i64 d, .int .i64 n] w fun e w' => e = .returned (.bool true) ∧ w' = w.alloc (.cells #[.int .u8 q0, .int .u8 q1, .int .u8 q2, .int .u8 q3, .int .u8 q4] 22) := by
  obtain ⟨l0, l0', a0, b0⟩ := g0
  obtain ⟨l1, l1', a1, b1⟩ := g1
  obtain ⟨l2, l2', a2, b2⟩ := g2
  obtain ⟨l3, l3', a3, b3⟩ := g3
  obtain ⟨l4, l4', a4, b4⟩ := g4
  have hc' : ∀ j, j ≤ n → (w.alloc (.cells #[.int .u8 q0, .int .u8 q1, .int .u8 q2, .int .u8 q3, .int .u8 q4] 22)).cell? ⟨P, j, none⟩ = some (.int .i64 (f j)) := fun j hj => by
    rw [World.cell?_alloc_past _ _ _ hP]; exact hc j hj
  clear hc
  have HC : Hid (∀ j, j ≤ n → (w.alloc (.cells #[.int .u8 q0, .int .u8 q1, .int .u8 q2, .int .u8 q3, .int .u8 q4] 22)).cell? ⟨P, j, none⟩ = some (.int .i64 (f j))) := hc'
  clear hc'
  go_enter Try.func7, Try.ntmps7
  go_wp2
  go_loop [9] (fun i => ∃ (k : Nat), k ≤ 5 ∧ i = .int .i64 k) (fun i => 5 - (intOf i).toNat)
  case atStart => exact ⟨0, by omega, rfl⟩
  case round =>
    obtain ⟨k, hk, rfl⟩ := hrel
    obtain rfl | rfl | rfl | rfl | rfl | rfl : k = 0 ∨ k = 1 ∨ k = 2 ∨ k = 3 ∨ k = 4 ∨ k = 5 := by omega
    · clear a1 b1 a2 b2 a3 b3 a4 b4
      by_cases hd2 : d < 2
      · have hq := neq_no (a0 (by omega))
        clear a0 b0
        go_wp2
        go_round
        case rel => exact ⟨1, by omega, rfl⟩
        case measure => simp [intOf]
      by_cases hj : d + 0 - 2 ≤ n
      · have hcd := HC.out (d + 0 - 2) hj
        have hb := b0 (by omega) hj
        clear a0 b0
        generalize f (d + 0 - 2) = y at *
        rw [show d + 0 - 2 = d - 2 from by omega] at hcd
        by_cases hf : 3 < y
        · have hq := neq_no (show q0 = 3 from by omega)
          clear hb
          go_wp2
          go_round
          case rel => exact ⟨1, by omega, rfl⟩
          case measure => simp [intOf]
        · have hq := neq_no (show q0 = y from by omega)
          have hf2 : 0 ≤ y := by omega
          clear hb
          go_wp2
          go_round
          case rel => exact ⟨1, by omega, rfl⟩
          case measure => simp [intOf]
      · clear a0 b0
        go_wp2
        go_round
        case rel => exact ⟨1, by omega, rfl⟩
        case measure => simp [intOf]
    · clear a0 b0 a2 b2 a3 b3 a4 b4
      by_cases hd2 : d < 1
      · have hq := neq_no (a1 (by omega))
        clear a1 b1
        go_wp2
        go_round
        case rel => exact ⟨2, by omega, rfl⟩
        case measure => simp [intOf]
      by_cases hj : d + 1 - 2 ≤ n
      · have hcd := HC.out (d + 1 - 2) hj
        have hb := b1 (by omega) hj
        clear a1 b1
        generalize f (d + 1 - 2) = y at *
        rw [show d + 1 - 2 = ((d : Int) - 2 + 1).toNat from by omega] at hcd
        by_cases hf : 3 < y
        · have hq := neq_no (show q1 = 3 from by omega)
          clear hb
          go_wp2
          go_round
          case rel => exact ⟨2, by omega, rfl⟩
          case measure => simp [intOf]
        · have hq := neq_no (show q1 = y from by omega)
          have hf2 : 0 ≤ y := by omega
          clear hb
          go_wp2
          go_round
          case rel => exact ⟨2, by omega, rfl⟩
          case measure => simp [intOf]
      · clear a1 b1
        go_wp2
        go_round
        case rel => exact ⟨2, by omega, rfl⟩
        case measure => simp [intOf]
    · clear a0 b0 a1 b1 a3 b3 a4 b4
      by_cases hj : d + 2 - 2 ≤ n
      · have hcd := HC.out (d + 2 - 2) hj
        have hb := b2 (by omega) hj
        clear a2 b2
        generalize f (d + 2 - 2) = y at *
        rw [show d + 2 - 2 = d from by omega] at hcd
        by_cases hf : 3 < y
        · have hq := neq_no (show q2 = 3 from by omega)
          clear hb
          go_wp2
          go_round
          case rel => exact ⟨3, by omega, rfl⟩
          case measure => simp [intOf]
        · have hq := neq_no (show q2 = y from by omega)
          have hf2 : 0 ≤ y := by omega
          clear hb
          go_wp2
          go_round
          case rel => exact ⟨3, by omega, rfl⟩
          case measure => simp [intOf]
      · clear a2 b2
        go_wp2
        go_round
        case rel => exact ⟨3, by omega, rfl⟩
        case measure => simp [intOf]
    · clear a0 b0 a1 b1 a2 b2 a4 b4
      by_cases hj : d + 3 - 2 ≤ n
      · have hcd := HC.out (d + 3 - 2) hj
        have hb := b3 (by omega) hj
        clear a3 b3
        generalize f (d + 3 - 2) = y at *
        rw [show d + 3 - 2 = ((d : Int) - 2 + 3).toNat from by omega] at hcd
        by_cases hf : 3 < y
        · have hq := neq_no (show q3 = 3 from by omega)
          clear hb
          go_wp2
          go_round
          case rel => exact ⟨4, by omega, rfl⟩
          case measure => simp [intOf]
        · have hq := neq_no (show q3 = y from by omega)
          have hf2 : 0 ≤ y := by omega
          clear hb
          go_wp2
          go_round
          case rel => exact ⟨4, by omega, rfl⟩
          case measure => simp [intOf]
      · clear a3 b3
        go_wp2
        go_round
        case rel => exact ⟨4, by omega, rfl⟩
        case measure => simp [intOf]
    · clear a0 b0 a1 b1 a2 b2 a3 b3
      by_cases hj : d + 4 - 2 ≤ n
      · have hcd := HC.out (d + 4 - 2) hj
        have hb := b4 (by omega) hj
        clear a4 b4
        generalize f (d + 4 - 2) = y at *
        rw [show d + 4 - 2 = ((d : Int) - 2 + 4).toNat from by omega] at hcd
        by_cases hf : 3 < y
        · have hq := neq_no (show q4 = 3 from by omega)
          clear hb
          go_wp2
          go_round
          case rel => exact ⟨5, by omega, rfl⟩
          case measure => simp [intOf]
        · have hq := neq_no (show q4 = y from by omega)
          have hf2 : 0 ≤ y := by omega
          clear hb
          go_wp2
          go_round
          case rel => exact ⟨5, by omega, rfl⟩
          case measure => simp [intOf]
      · clear a4 b4
        go_wp2
        go_round
        case rel => exact ⟨5, by omega, rfl⟩
        case measure => simp [intOf]
    · go_wp2
      go_ret
      exact ⟨rfl, rfl⟩
end Go.Proofs.Qxb6634873a

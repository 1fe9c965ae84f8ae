import Derived.Test.Qxb6627971aAdd
import Derived.Deep.QuietTactic
import Derived.BigQuiet
namespace Go.Proofs.Qxb6627971a
open Go.RowKit

/-- The integers that Add takes: in range, their words never going down. -/
def Dom (f : Nat → Int) (n : Nat) : Prop := ∀ j, j < n → 0 ≤ f j ∧ f j ≤ 2147483647 ∧ (0 < j → f (j - 1) / 64 ≤ f j / 64)

def DomSaid (f : Nat → Int) (n : Nat) (w : World) (e : Ending) (w' : World) : Prop := ∃ b, e = .returned (.bool b) ∧ w = w' ∧ (b = true → Dom f n)
set_option maxHeartbeats 1000000 in
theorem dom_any (av : Option Addr) (n cap : Nat) (f : Nat → Int) (w : World) (hn : n ≤ 65536)
    (ha : 0 < n → ∃ b off, av = some ⟨b, off, none⟩ ∧ b < w.heap.size ∧ ∀ i, i < n → w.cell? ⟨b, off + i, none⟩ = some (.int .i64 (f i))) :
    Calls Try.prog 6 #[.slice av n cap] w fun e w' => DomSaid f n w e w' := by
  have HA : Hid _ := ha
  clear ha
  go_enter Try.func6, Try.ntmps6
  go_wp2
  go_loop [7] (fun jv => ∃ j : Nat, j ≤ n ∧ jv = .int .i64 j ∧ Dom f j) (fun jv => n - (intOf jv).toNat)
  case atStart => exact ⟨0, Nat.zero_le _, rfl, fun j hj => by omega⟩
  case round =>
    obtain ⟨j, hj, rfl, hD⟩ := hrel
    have HD : Hid _ := hD
    clear hD
    by_cases hlt : j < n
    · obtain ⟨b, off, rfl, hb, hc⟩ := HA.out (by omega)
      have e1 := hc j hlt
      have e2 : 0 < j → w.cell? ⟨b, off + (j - 1), none⟩ = some (.int .i64 (f (j - 1))) := fun h => hc (j - 1) (by omega)
      clear hc
      obtain ⟨x, hx⟩ : ∃ x, f j = x := ⟨_, rfl⟩
      rw [hx] at e1
      have HX : Hid (f j = x) := hx
      clear hx
      by_cases c1 : x < 0
      · clear e2
        have t1 : decide (x < 0) = true := by simpa using c1
        go_wp2
        go_ret
        exact ⟨false, rfl, rfl, fun h => (by cases h)⟩
      have t1 : decide (x < 0) = false := by simpa using c1
      by_cases c2 : 2147483647 < x
      · clear e2
        have t2 : decide (2147483647 < x) = true := by simpa using c2
        go_wp2
        go_ret
        exact ⟨false, rfl, rfl, fun h => (by cases h)⟩
      have t2 : decide (2147483647 < x) = false := by simpa using c2
      by_cases c3 : 0 < j
      · obtain ⟨i, rfl⟩ : ∃ i, j = i + 1 := ⟨j - 1, by omega⟩
        have e3 := e2 c3
        clear e2
        simp only [Nat.add_sub_cancel] at e3
        have hprev := HD.out i (by omega)
        obtain ⟨y, hy⟩ : ∃ y, f i = y := ⟨_, rfl⟩
        rw [hy] at e3 hprev
        have HY : Hid (f i = y) := hy
        clear hy
        obtain ⟨y0, y1, _⟩ := hprev
        by_cases c4 : x / 64 < y / 64
        · have t4 : decide (x / 64 < y / 64) = true := by simpa using c4
          go_wp2
          go_ret
          exact ⟨false, rfl, rfl, fun h => (by cases h)⟩
        · have t4 : decide (x / 64 < y / 64) = false := by simpa using c4
          go_wp2
          go_round
          case rel =>
            refine ⟨i + 1 + 1, by omega, by go_num, fun t ht => ?_⟩
            by_cases e : t = i + 1
            · subst e
              rw [HX.out, Nat.add_sub_cancel, HY.out]
              exact ⟨by omega, by omega, fun _ => by omega⟩
            · exact HD.out t (by omega)
          case measure => simp [intOf]; omega
      · obtain rfl : j = 0 := by omega
        clear e2
        rw [Nat.add_zero] at e1
        go_wp2
        go_round
        case rel =>
          refine ⟨1, by omega, rfl, fun t ht => ?_⟩
          obtain rfl : t = 0 := by omega
          rw [HX.out]
          exact ⟨by omega, by omega, fun h => by omega⟩
        case measure => simp [intOf]; omega
    · obtain rfl : j = n := by omega
      go_wp2
      go_ret
      exact ⟨true, rfl, rfl, fun _ => HD.out⟩
end Go.Proofs.Qxb6627971a

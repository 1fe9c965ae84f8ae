/-
  THE WALK of FnRowBelowBandIsCappedEditDistance (4), where both lengths are at most 4096.
-/
import Derived.Test.Qxb6634873aState
import Derived.Deep.QuietTactic
import Derived.BigQuiet
namespace Go.Proofs.Qxb6634873a
open Go.RowKit Go.Deep
theorem info3 : (Try.prog.info? 3).map (fun i => (i.zero, i.size, i.bytes)) = some (some (.int .i64 0), 1, 8) := by kernel_rfl

theorem bytes_yes (av sv : Option Addr) (la ca n cn : Nat) (w : World) (hla : la ≤ 4096) (hn : n ≤ 4096) :
    Calls Try.prog 6 #[.slice av la ca, .slice sv n cn] w fun e w' => e = .returned (.bool true) ∧ w = w' := by
  go_enter Try.func6, Try.ntmps6
  go_wp2
  go_ret
  exact ⟨rfl, rfl⟩

theorem agrees_at (q0 q1 q2 q3 q4 : Int) (P : Nat) (f : Nat → Int) (d : Nat) (D : Int) (hD : D = d) (n : Nat) (w : World) (hn : n ≤ 4096) (hd : d ≤ 4096) (hP : P < w.heap.size)
    (hc : ∀ j, j ≤ n → w.cell? ⟨P, j, none⟩ = some (.int .i64 (f j)))
    (g0 : okAt f n d 0 q0) (g1 : okAt f n d 1 q1) (g2 : okAt f n d 2 q2) (g3 : okAt f n d 3 q3) (g4 : okAt f n d 4 q4) :
    Calls Try.prog 7 #[.agg #[.int .u8 q0, .int .u8 q1, .int .u8 q2, .int .u8 q3, .int .u8 q4], .slice (some ⟨P, 0, none⟩) (n + 1) (n + 1), .int .i64 D, .int .i64 n] w fun e w' => e = .returned (.bool true) ∧ w' = w.alloc (.cells #[.int .u8 q0, .int .u8 q1, .int .u8 q2, .int .u8 q3, .int .u8 q4] 22) := by
  subst hD
  exact agrees_any q0 q1 q2 q3 q4 P f d n w hn hd hP hc g0 g1 g2 g3 g4

theorem inv_start {w wr : World} {n : Nat} {f g : Nat → Int} (hb : Below w.heap.size w wr) (hf : IntRow wr w.heap.size (n + 1) f) (hg : IntRow wr (w.heap.size + 1) (n + 1) g) :
    Inv w ((wr.alloc (.cells #[.int .u8 3, .int .u8 3, .int .u8 0, .int .u8 1, .int .u8 2] 22)).alloc (.cells #[.int .u8 3, .int .u8 3, .int .u8 0, .int .u8 1, .int .u8 2] 22)) n wr.heap.size w.heap.size (w.heap.size + 1) f g 3 3 0 1 2 := by
  have h1 := hf.lt
  have h2 := hg.lt
  refine Inv.alloc ⟨below_new hb _, by omega, by omega, by omega, by omega, by omega, by omega, hf.alloc _, hg.alloc _, ?_⟩ _
  exact ⟨by simp, World.cell?_alloc_at _ _ _ _ rfl, World.cell?_alloc_at _ _ _ _ rfl, World.cell?_alloc_at _ _ _ _ rfl, World.cell?_alloc_at _ _ _ _ rfl, World.cell?_alloc_at _ _ _ _ rfl, fun j => World.frozen?_alloc_at _ _ _ _ rfl⟩

set_option maxRecDepth 100000 in
set_option maxHeartbeats 4000000 in
theorem walk4 (av sv : Option Addr) (la ca n cn : Nat) (a s : Nat → Int) (w : World) (hla : la ≤ 4096) (hn : n ≤ 4096)
    (ha : 0 < la → ∃ b off, av = some ⟨b, off, none⟩ ∧ b < w.heap.size ∧ ∀ i, i < la → w.cell? ⟨b, off + i, none⟩ = some (.int .i32 (a i)))
    (hs : 0 < n → ∃ b off, sv = some ⟨b, off, none⟩ ∧ b < w.heap.size ∧ ∀ i, i < n → w.cell? ⟨b, off + i, none⟩ = some (.int .i32 (s i))) :
    Calls Try.prog 4 #[.slice av la ca, .slice sv n cn] w fun e w' => e = .returned (.bool true) ∧ Below w.heap.size w w' := by
  have hmk := fun (w : World) => run_make_row' (P := Try.prog) 28 3 (.int .i64 0) 8 Try.underlying28 info3 rfl .i64 .i64 (n + 1) (by omega) (by omega) w
  have ec : ((n + 1 : Nat) : Int) = (n : Int) + 1 := by omega
  rw [ec] at hmk
  clear ec
  have HA : Hid _ := ha
  have HS : Hid _ := hs
  clear ha hs
  go_enter Try.func4, Try.ntmps4
  go_wp2_with (go_at_call 6; refine (bytes_yes _ _ _ _ _ _ _ hla hn).mono ?_; rintro e w' ⟨rfl, rfl⟩)
  clear hmk
  go_loopw [8] (fun jv wr => ∃ (j : Nat) (f g : Nat → Int), j ≤ n + 1 ∧ jv = .int .i64 j ∧ Below w.heap.size w wr ∧ IntRow wr w.heap.size (n + 1) f ∧ (∀ t, t < j → f t = t) ∧ IntRow wr (w.heap.size + 1) (n + 1) g) (fun jv _ => n + 1 - (intOf jv).toNat)
  case atStart => 
    refine ⟨0, fun _ => 0, fun _ => 0, by omega, rfl, ?_, ?_, fun t ht => by omega, ?_⟩
    · exact below_new (below_new (Below.refl _ _) _) _
    · exact (IntRow.made w (n + 1) 3).alloc _
    · have := IntRow.made (w.alloc (.cells (madeCells #[.int .i64 0] (n + 1)) 3)) (n + 1) 3
      simpa using this
  case round =>
    obtain ⟨j, f, g, hj, rfl, hbl, hf, hft, hg⟩ := hrel
    by_cases hlt : j ≤ n
    · have hc := hf.cell j (by omega)
      have hz := hf.free j
      go_wp2
      go_roundw
      case rel => 
        refine ⟨j + 1, upd f j j, g, by omega, by go_num, hbl.setCell (Nat.le_refl _) _, hf.store (by omega) _, fun t ht => ?_, hg.far (by omega) _ _⟩
        by_cases e : t = j
        · subst e; exact upd_same _ _ _
        · rw [upd_other _ _ _ e]; exact hft t (by omega)
      case measure => simp [intOf]; omega
    · have hf0 : IntRow wr w.heap.size (n + 1) (dist a s 0) := ⟨hf.lt, fun t ht => by rw [dist_zero, ← hft t (by omega)]; exact hf.cell t ht, hf.free⟩
      clear hf hft
      go_wp2_with fail
      refine (agrees_any 3 3 0 1 2 w.heap.size (dist a s 0) 0 n _ hn (by omega) (hf0.alloc _).lt (fun t ht => (hf0.alloc _).cell t (by omega)) (start0 a s n) (start1 a s n) (start2 a s n) (start3 a s n) (start4 a s n)).mono ?_
      rintro e w1 ⟨rfl, rfl⟩
      go_wp2
      have hI := inv_start hbl hf0 hg
      generalize wr.heap.size = R at *
      clear hf0 hg hbl
      go_loopw [6, 7, 10] (fun pv cv iv wx => ∃ (i P C : Nat) (g : Nat → Int) (q0 q1 q2 q3 q4 : Int), i ≤ la ∧ iv = .int .i64 i ∧ pv = .slice (some ⟨P, 0, none⟩) (n + 1) (n + 1) ∧ cv = .slice (some ⟨C, 0, none⟩) (n + 1) (n + 1) ∧ Inv w wx n R P C (dist a s i) g q0 q1 q2 q3 q4 ∧ Band a s n i q0 q1 q2 q3 q4) (fun _ _ iv _ => la - (intOf iv).toNat)
      case atStart => exact ⟨0, _, _, _, _, _, _, _, _, by omega, rfl, rfl, rfl, hI, band_start a s n⟩
      case round =>
        obtain ⟨i, P, C, g, q0, q1, q2, q3, q4, hi, rfl, rfl, rfl, hI, hB⟩ := hrel
        by_cases hil : i < la
        · obtain ⟨ba, oa, rfl, hba, hca⟩ := HA.out (by omega)
          have HCA : Hid _ := hca
          clear hca
          go_wp2
          have hB0 := band_bd hB
          go_loopw [11, 12] (fun mv kv wx => ∃ k : Nat, k ≤ 5 ∧ kv = .int .i64 k ∧ mv = .int .i64 (mask (hitB a s n i 0) (hitB a s n i 1) (hitB a s n i 2) (hitB a s n i 3) (hitB a s n i 4) k : Nat) ∧ Inv w wx n R P C (dist a s i) g q0 q1 q2 q3 q4) (fun _ kv _ => 5 - (intOf kv).toNat)
          case atStart => exact ⟨0, by omega, rfl, rfl, hI⟩
          case round =>
            obtain ⟨k, hk, rfl, rfl, hI2⟩ := hrel
            obtain rfl | rfl | rfl | rfl | rfl | rfl : k = 0 ∨ k = 1 ∨ k = 2 ∨ k = 3 ∨ k = 4 ∨ k = 5 := by omega
            · by_cases hge : i < 2
              · have hd : decide ((2 : Int) ≤ (i : Int)) = false := by simp; omega
                have hh := hitB_early (a := a) (s := s) (n := n) (i := i) (k := 0) (by omega)
                have hmask : Hid (((mask (hitB a s n i 0) (hitB a s n i 1) (hitB a s n i 2) (hitB a s n i 3) (hitB a s n i 4) 0 : Nat) : Int) = ((mask (hitB a s n i 0) (hitB a s n i 1) (hitB a s n i 2) (hitB a s n i 3) (hitB a s n i 4) 1 : Nat) : Int)) := congrArg Nat.cast (mask_miss0 _ _ _ _ _ hh)
                clear hh
                go_wp2
                go_quiet (fail)
                go_wp2
                go_roundw
                case rel => exact ⟨1, by omega, rfl, congrArg (Value.int .i64) hmask.out, hI2.draws _⟩
                case measure => simp [intOf]
              by_cases hin : i + 0 - 2 < n
              · obtain ⟨bs, os, rfl, hbs, hcs⟩ := HS.out (by omega)
                have hc1 := hI2.arg hbs (hcs (i + 0 - 2) hin)
                have hc2 := hI2.arg hba (HCA.out i hil)
                clear hcs
                have hz1 : (2 : Int) ≤ (i : Int) := by omega
                have hz2 : (i : Int) - 2 < (n : Int) := by omega
                by_cases heq : s (i + 0 - 2) = a i
                · have hh := hitB_yes (by omega) hin heq
                  have hmask : Hid (bits .or .i64 ((mask (hitB a s n i 0) (hitB a s n i 1) (hitB a s n i 2) (hitB a s n i 3) (hitB a s n i 4) 0 : Nat) : Int) 1 = ((mask (hitB a s n i 0) (hitB a s n i 1) (hitB a s n i 2) (hitB a s n i 3) (hitB a s n i 4) 1 : Nat) : Int)) := mask_hit0 _ _ _ _ _ hh
                  clear hh
                  have ht : (s (i + 0 - 2) == a i) = true := by rw [heq]; simp
                  rw [heq] at hc1
                  clear heq ht
                  rw [show i + 0 - 2 = (i - 2) from by omega] at hc1
                  go_wp2
                  go_quiet (fail)
                  go_wp2
                  go_roundw
                  case rel => exact ⟨1, by omega, rfl, congrArg (Value.int .i64) hmask.out, hI2.draws _⟩
                  case measure => simp [intOf]
                · have hh := hitB_not (n := n) heq
                  have hmask : Hid (((mask (hitB a s n i 0) (hitB a s n i 1) (hitB a s n i 2) (hitB a s n i 3) (hitB a s n i 4) 0 : Nat) : Int) = ((mask (hitB a s n i 0) (hitB a s n i 1) (hitB a s n i 2) (hitB a s n i 3) (hitB a s n i 4) 1 : Nat) : Int)) := congrArg Nat.cast (mask_miss0 _ _ _ _ _ hh)
                  clear hh
                  have ht : (s (i + 0 - 2) == a i) = false := by rw [beq_eq_false_iff_ne]; exact heq
                  clear heq
                  generalize s (i + 0 - 2) = y at *
                  rw [show i + 0 - 2 = (i - 2) from by omega] at hc1
                  go_wp2
                  go_quiet (fail)
                  go_wp2
                  go_roundw
                  case rel => exact ⟨1, by omega, rfl, congrArg (Value.int .i64) hmask.out, hI2.draws _⟩
                  case measure => simp [intOf]
              · have hd : decide ((i : Int) - 2 < (n : Int)) = false := by simp; omega
                skip
                have hz1 : (2 : Int) ≤ (i : Int) := by omega
                have hh := hitB_late (a := a) (s := s) (n := n) (i := i) (k := 0) (by omega)
                have hmask : Hid (((mask (hitB a s n i 0) (hitB a s n i 1) (hitB a s n i 2) (hitB a s n i 3) (hitB a s n i 4) 0 : Nat) : Int) = ((mask (hitB a s n i 0) (hitB a s n i 1) (hitB a s n i 2) (hitB a s n i 3) (hitB a s n i 4) 1 : Nat) : Int)) := congrArg Nat.cast (mask_miss0 _ _ _ _ _ hh)
                clear hh
                go_wp2
                go_quiet (fail)
                go_wp2
                go_roundw
                case rel => exact ⟨1, by omega, rfl, congrArg (Value.int .i64) hmask.out, hI2.draws _⟩
                case measure => simp [intOf]
            · by_cases hge : i < 1
              · have hd : decide ((0 : Int) ≤ (i : Int) - 2 + 1) = false := by simp; omega
                have hh := hitB_early (a := a) (s := s) (n := n) (i := i) (k := 1) (by omega)
                have hmask : Hid (((mask (hitB a s n i 0) (hitB a s n i 1) (hitB a s n i 2) (hitB a s n i 3) (hitB a s n i 4) 1 : Nat) : Int) = ((mask (hitB a s n i 0) (hitB a s n i 1) (hitB a s n i 2) (hitB a s n i 3) (hitB a s n i 4) 2 : Nat) : Int)) := congrArg Nat.cast (mask_miss1 _ _ _ _ _ hh)
                clear hh
                go_wp2
                go_quiet (fail)
                go_wp2
                go_roundw
                case rel => exact ⟨2, by omega, rfl, congrArg (Value.int .i64) hmask.out, hI2.draws _⟩
                case measure => simp [intOf]
              by_cases hin : i + 1 - 2 < n
              · obtain ⟨bs, os, rfl, hbs, hcs⟩ := HS.out (by omega)
                have hc1 := hI2.arg hbs (hcs (i + 1 - 2) hin)
                have hc2 := hI2.arg hba (HCA.out i hil)
                clear hcs
                have hz1 : (0 : Int) ≤ (i : Int) - 2 + 1 := by omega
                have hz2 : (i : Int) - 2 + 1 < (n : Int) := by omega
                by_cases heq : s (i + 1 - 2) = a i
                · have hh := hitB_yes (by omega) hin heq
                  have hmask : Hid (bits .or .i64 ((mask (hitB a s n i 0) (hitB a s n i 1) (hitB a s n i 2) (hitB a s n i 3) (hitB a s n i 4) 1 : Nat) : Int) 2 = ((mask (hitB a s n i 0) (hitB a s n i 1) (hitB a s n i 2) (hitB a s n i 3) (hitB a s n i 4) 2 : Nat) : Int)) := mask_hit1 _ _ _ _ _ hh
                  clear hh
                  have ht : (s (i + 1 - 2) == a i) = true := by rw [heq]; simp
                  rw [heq] at hc1
                  clear heq ht
                  rw [show i + 1 - 2 = ((i : Int) - 2 + 1).toNat from by omega] at hc1
                  go_wp2
                  go_quiet (fail)
                  go_wp2
                  go_roundw
                  case rel => exact ⟨2, by omega, rfl, congrArg (Value.int .i64) hmask.out, hI2.draws _⟩
                  case measure => simp [intOf]
                · have hh := hitB_not (n := n) heq
                  have hmask : Hid (((mask (hitB a s n i 0) (hitB a s n i 1) (hitB a s n i 2) (hitB a s n i 3) (hitB a s n i 4) 1 : Nat) : Int) = ((mask (hitB a s n i 0) (hitB a s n i 1) (hitB a s n i 2) (hitB a s n i 3) (hitB a s n i 4) 2 : Nat) : Int)) := congrArg Nat.cast (mask_miss1 _ _ _ _ _ hh)
                  clear hh
                  have ht : (s (i + 1 - 2) == a i) = false := by rw [beq_eq_false_iff_ne]; exact heq
                  clear heq
                  generalize s (i + 1 - 2) = y at *
                  rw [show i + 1 - 2 = ((i : Int) - 2 + 1).toNat from by omega] at hc1
                  go_wp2
                  go_quiet (fail)
                  go_wp2
                  go_roundw
                  case rel => exact ⟨2, by omega, rfl, congrArg (Value.int .i64) hmask.out, hI2.draws _⟩
                  case measure => simp [intOf]
              · have hd : decide ((i : Int) - 2 + 1 < (n : Int)) = false := by simp; omega
                skip
                have hz1 : (0 : Int) ≤ (i : Int) - 2 + 1 := by omega
                have hh := hitB_late (a := a) (s := s) (n := n) (i := i) (k := 1) (by omega)
                have hmask : Hid (((mask (hitB a s n i 0) (hitB a s n i 1) (hitB a s n i 2) (hitB a s n i 3) (hitB a s n i 4) 1 : Nat) : Int) = ((mask (hitB a s n i 0) (hitB a s n i 1) (hitB a s n i 2) (hitB a s n i 3) (hitB a s n i 4) 2 : Nat) : Int)) := congrArg Nat.cast (mask_miss1 _ _ _ _ _ hh)
                clear hh
                go_wp2
                go_quiet (fail)
                go_wp2
                go_roundw
                case rel => exact ⟨2, by omega, rfl, congrArg (Value.int .i64) hmask.out, hI2.draws _⟩
                case measure => simp [intOf]
            · by_cases hin : i + 2 - 2 < n
              · obtain ⟨bs, os, rfl, hbs, hcs⟩ := HS.out (by omega)
                have hc1 := hI2.arg hbs (hcs (i + 2 - 2) hin)
                have hc2 := hI2.arg hba (HCA.out i hil)
                clear hcs
                have hz1 : (0 : Int) ≤ (i : Int) := by omega
                have hz2 : (i : Int) < (n : Int) := by omega
                by_cases heq : s (i + 2 - 2) = a i
                · have hh := hitB_yes (by omega) hin heq
                  have hmask : Hid (bits .or .i64 ((mask (hitB a s n i 0) (hitB a s n i 1) (hitB a s n i 2) (hitB a s n i 3) (hitB a s n i 4) 2 : Nat) : Int) 4 = ((mask (hitB a s n i 0) (hitB a s n i 1) (hitB a s n i 2) (hitB a s n i 3) (hitB a s n i 4) 3 : Nat) : Int)) := mask_hit2 _ _ _ _ _ hh
                  clear hh
                  have ht : (s (i + 2 - 2) == a i) = true := by rw [heq]; simp
                  rw [heq] at hc1
                  clear heq ht
                  rw [show i + 2 - 2 = i from by omega] at hc1
                  go_wp2
                  go_quiet (fail)
                  go_wp2
                  go_roundw
                  case rel => exact ⟨3, by omega, rfl, congrArg (Value.int .i64) hmask.out, hI2.draws _⟩
                  case measure => simp [intOf]
                · have hh := hitB_not (n := n) heq
                  have hmask : Hid (((mask (hitB a s n i 0) (hitB a s n i 1) (hitB a s n i 2) (hitB a s n i 3) (hitB a s n i 4) 2 : Nat) : Int) = ((mask (hitB a s n i 0) (hitB a s n i 1) (hitB a s n i 2) (hitB a s n i 3) (hitB a s n i 4) 3 : Nat) : Int)) := congrArg Nat.cast (mask_miss2 _ _ _ _ _ hh)
                  clear hh
                  have ht : (s (i + 2 - 2) == a i) = false := by rw [beq_eq_false_iff_ne]; exact heq
                  clear heq
                  generalize s (i + 2 - 2) = y at *
                  rw [show i + 2 - 2 = i from by omega] at hc1
                  go_wp2
                  go_quiet (fail)
                  go_wp2
                  go_roundw
                  case rel => exact ⟨3, by omega, rfl, congrArg (Value.int .i64) hmask.out, hI2.draws _⟩
                  case measure => simp [intOf]
              · have hd : decide ((i : Int) < (n : Int)) = false := by simp; omega
                have hd3 : decide (i < n) = false := by simp; omega
                have hz1 : (0 : Int) ≤ (i : Int) := by omega
                have hh := hitB_late (a := a) (s := s) (n := n) (i := i) (k := 2) (by omega)
                have hmask : Hid (((mask (hitB a s n i 0) (hitB a s n i 1) (hitB a s n i 2) (hitB a s n i 3) (hitB a s n i 4) 2 : Nat) : Int) = ((mask (hitB a s n i 0) (hitB a s n i 1) (hitB a s n i 2) (hitB a s n i 3) (hitB a s n i 4) 3 : Nat) : Int)) := congrArg Nat.cast (mask_miss2 _ _ _ _ _ hh)
                clear hh
                go_wp2
                go_quiet (fail)
                go_wp2
                go_roundw
                case rel => exact ⟨3, by omega, rfl, congrArg (Value.int .i64) hmask.out, hI2.draws _⟩
                case measure => simp [intOf]
            · by_cases hin : i + 3 - 2 < n
              · obtain ⟨bs, os, rfl, hbs, hcs⟩ := HS.out (by omega)
                have hc1 := hI2.arg hbs (hcs (i + 3 - 2) hin)
                have hc2 := hI2.arg hba (HCA.out i hil)
                clear hcs
                have hz1 : (0 : Int) ≤ (i : Int) - 2 + 3 := by omega
                have hz2 : (i : Int) - 2 + 3 < (n : Int) := by omega
                by_cases heq : s (i + 3 - 2) = a i
                · have hh := hitB_yes (by omega) hin heq
                  have hmask : Hid (bits .or .i64 ((mask (hitB a s n i 0) (hitB a s n i 1) (hitB a s n i 2) (hitB a s n i 3) (hitB a s n i 4) 3 : Nat) : Int) 8 = ((mask (hitB a s n i 0) (hitB a s n i 1) (hitB a s n i 2) (hitB a s n i 3) (hitB a s n i 4) 4 : Nat) : Int)) := mask_hit3 _ _ _ _ _ hh
                  clear hh
                  have ht : (s (i + 3 - 2) == a i) = true := by rw [heq]; simp
                  rw [heq] at hc1
                  clear heq ht
                  rw [show i + 3 - 2 = ((i : Int) - 2 + 3).toNat from by omega] at hc1
                  go_wp2
                  go_quiet (fail)
                  go_wp2
                  go_roundw
                  case rel => exact ⟨4, by omega, rfl, congrArg (Value.int .i64) hmask.out, hI2.draws _⟩
                  case measure => simp [intOf]
                · have hh := hitB_not (n := n) heq
                  have hmask : Hid (((mask (hitB a s n i 0) (hitB a s n i 1) (hitB a s n i 2) (hitB a s n i 3) (hitB a s n i 4) 3 : Nat) : Int) = ((mask (hitB a s n i 0) (hitB a s n i 1) (hitB a s n i 2) (hitB a s n i 3) (hitB a s n i 4) 4 : Nat) : Int)) := congrArg Nat.cast (mask_miss3 _ _ _ _ _ hh)
                  clear hh
                  have ht : (s (i + 3 - 2) == a i) = false := by rw [beq_eq_false_iff_ne]; exact heq
                  clear heq
                  generalize s (i + 3 - 2) = y at *
                  rw [show i + 3 - 2 = ((i : Int) - 2 + 3).toNat from by omega] at hc1
                  go_wp2
                  go_quiet (fail)
                  go_wp2
                  go_roundw
                  case rel => exact ⟨4, by omega, rfl, congrArg (Value.int .i64) hmask.out, hI2.draws _⟩
                  case measure => simp [intOf]
              · have hd : decide ((i : Int) - 2 + 3 < (n : Int)) = false := by simp; omega
                skip
                have hz1 : (0 : Int) ≤ (i : Int) - 2 + 3 := by omega
                have hh := hitB_late (a := a) (s := s) (n := n) (i := i) (k := 3) (by omega)
                have hmask : Hid (((mask (hitB a s n i 0) (hitB a s n i 1) (hitB a s n i 2) (hitB a s n i 3) (hitB a s n i 4) 3 : Nat) : Int) = ((mask (hitB a s n i 0) (hitB a s n i 1) (hitB a s n i 2) (hitB a s n i 3) (hitB a s n i 4) 4 : Nat) : Int)) := congrArg Nat.cast (mask_miss3 _ _ _ _ _ hh)
                clear hh
                go_wp2
                go_quiet (fail)
                go_wp2
                go_roundw
                case rel => exact ⟨4, by omega, rfl, congrArg (Value.int .i64) hmask.out, hI2.draws _⟩
                case measure => simp [intOf]
            · by_cases hin : i + 4 - 2 < n
              · obtain ⟨bs, os, rfl, hbs, hcs⟩ := HS.out (by omega)
                have hc1 := hI2.arg hbs (hcs (i + 4 - 2) hin)
                have hc2 := hI2.arg hba (HCA.out i hil)
                clear hcs
                have hz1 : (0 : Int) ≤ (i : Int) - 2 + 4 := by omega
                have hz2 : (i : Int) - 2 + 4 < (n : Int) := by omega
                by_cases heq : s (i + 4 - 2) = a i
                · have hh := hitB_yes (by omega) hin heq
                  have hmask : Hid (bits .or .i64 ((mask (hitB a s n i 0) (hitB a s n i 1) (hitB a s n i 2) (hitB a s n i 3) (hitB a s n i 4) 4 : Nat) : Int) 16 = ((mask (hitB a s n i 0) (hitB a s n i 1) (hitB a s n i 2) (hitB a s n i 3) (hitB a s n i 4) 5 : Nat) : Int)) := mask_hit4 _ _ _ _ _ hh
                  clear hh
                  have ht : (s (i + 4 - 2) == a i) = true := by rw [heq]; simp
                  rw [heq] at hc1
                  clear heq ht
                  rw [show i + 4 - 2 = ((i : Int) - 2 + 4).toNat from by omega] at hc1
                  go_wp2
                  go_quiet (fail)
                  go_wp2
                  go_roundw
                  case rel => exact ⟨5, by omega, rfl, congrArg (Value.int .i64) hmask.out, hI2.draws _⟩
                  case measure => simp [intOf]
                · have hh := hitB_not (n := n) heq
                  have hmask : Hid (((mask (hitB a s n i 0) (hitB a s n i 1) (hitB a s n i 2) (hitB a s n i 3) (hitB a s n i 4) 4 : Nat) : Int) = ((mask (hitB a s n i 0) (hitB a s n i 1) (hitB a s n i 2) (hitB a s n i 3) (hitB a s n i 4) 5 : Nat) : Int)) := congrArg Nat.cast (mask_miss4 _ _ _ _ _ hh)
                  clear hh
                  have ht : (s (i + 4 - 2) == a i) = false := by rw [beq_eq_false_iff_ne]; exact heq
                  clear heq
                  generalize s (i + 4 - 2) = y at *
                  rw [show i + 4 - 2 = ((i : Int) - 2 + 4).toNat from by omega] at hc1
                  go_wp2
                  go_quiet (fail)
                  go_wp2
                  go_roundw
                  case rel => exact ⟨5, by omega, rfl, congrArg (Value.int .i64) hmask.out, hI2.draws _⟩
                  case measure => simp [intOf]
              · have hd : decide ((i : Int) - 2 + 4 < (n : Int)) = false := by simp; omega
                skip
                have hz1 : (0 : Int) ≤ (i : Int) - 2 + 4 := by omega
                have hh := hitB_late (a := a) (s := s) (n := n) (i := i) (k := 4) (by omega)
                have hmask : Hid (((mask (hitB a s n i 0) (hitB a s n i 1) (hitB a s n i 2) (hitB a s n i 3) (hitB a s n i 4) 4 : Nat) : Int) = ((mask (hitB a s n i 0) (hitB a s n i 1) (hitB a s n i 2) (hitB a s n i 3) (hitB a s n i 4) 5 : Nat) : Int)) := congrArg Nat.cast (mask_miss4 _ _ _ _ _ hh)
                clear hh
                go_wp2
                go_quiet (fail)
                go_wp2
                go_roundw
                case rel => exact ⟨5, by omega, rfl, congrArg (Value.int .i64) hmask.out, hI2.draws _⟩
                case measure => simp [intOf]
            · have r0 := hI2.row.c0
              have r1 := hI2.row.c1
              have r2 := hI2.row.c2
              have r3 := hI2.row.c3
              have r4 := hI2.row.c4
              have hBn := band_next hB _ rfl
              generalize ((mask (hitB a s n i 0) (hitB a s n i 1) (hitB a s n i 2) (hitB a s n i 3) (hitB a s n i 4) 5 : Nat) : Int) = m at *
              go_wp2_with fail
              refine (zzbelow_any q0 q1 q2 q3 q4 m _ hB0.1.1 hB0.1.2 hB0.2.1.1 hB0.2.1.2 hB0.2.2.1.1 hB0.2.2.1.2 hB0.2.2.2.1.1 hB0.2.2.2.1.2 hB0.2.2.2.2.1 hB0.2.2.2.2.2).mono ?_
              rintro e w1 ⟨rfl, c1, c2, c3, c4, c5, rfl⟩
              have hI3 := ((((hI2.alloc (.cells c1 22)).alloc (.cells c2 22)).alloc (.cells c3 22)).alloc (.cells c4 22)).alloc (.cells c5 22)
              generalize ((((wr.alloc (.cells c1 22)).alloc (.cells c2 22)).alloc (.cells c3 22)).alloc (.cells c4 22)).alloc (.cells c5 22) = W1 at *
              clear r0 r1 r2 r3 r4 hI2 hB0
              generalize n0 q0 q1 m = p0 at *
              generalize n1 q0 q1 q2 m = p1 at *
              generalize n2 q0 q1 q2 q3 m = p2 at *
              generalize n3 q0 q1 q2 q3 q4 m = p3 at *
              generalize n4 q0 q1 q2 q3 q4 m = p4 at *
              have r0 := hI3.row.c0
              have r1 := hI3.row.c1
              have r2 := hI3.row.c2
              have r3 := hI3.row.c3
              have r4 := hI3.row.c4
              have rf := hI3.row.free
              have cc := hI3.cur.cell 0 (by omega)
              have cf := hI3.cur.free 0
              have cr := hI3.cr
              go_wp2
              have hI4 := (hI3.band p0 p1 p2 p3 p4).store (j := 0) (by omega) ((i : Int) + 1)
              clear r0 r1 r2 r3 r4 rf cc cf cr hI3
              go_loopw [14] (fun jv wx => ∃ (j : Nat) (g : Nat → Int), 1 ≤ j ∧ j ≤ n + 1 ∧ jv = .int .i64 j ∧ Inv w wx n R P C (dist a s i) g p0 p1 p2 p3 p4 ∧ ∀ t, t < j → g t = dist a s (i + 1) t) (fun jv _ => n + 1 - (intOf jv).toNat)
              case atStart =>
                refine ⟨1, _, by omega, by omega, rfl, hI4, fun t ht => ?_⟩
                obtain rfl : t = 0 := by omega
                rw [upd_same, dist_first]; omega
              case round =>
                obtain ⟨j, g, hj1, hj2, rfl, hI5, hgt⟩ := hrel
                by_cases hjn : j ≤ n
                · obtain ⟨t, rfl⟩ : ∃ t, j = t + 1 := ⟨j - 1, by omega⟩
                  obtain ⟨bs, os, rfl, hbs, hcs⟩ := HS.out (by omega)
                  have hs1 := hI5.arg hbs (hcs t (by omega))
                  have hs2 := hI5.arg hba (HCA.out i hil)
                  clear hcs
                  have x1 := hI5.prev.cell t (by omega)
                  have x2 := hI5.prev.cell (t + 1) (by omega)
                  have x3 := hI5.cur.cell t (by omega)
                  have x4 := hI5.cur.cell (t + 1) (by omega)
                  have x5 := hI5.cur.free (t + 1)
                  rw [hgt t (by omega)] at x3
                  have d1 := dist_lo a s i t
                  have d2 := dist_hi a s i t
                  have d3 := dist_lo a s i (t + 1)
                  have d4 := dist_hi a s i (t + 1)
                  have d5 := dist_lo a s (i + 1) t
                  have d6 := dist_hi a s (i + 1) t
                  have DN : Hid (dist a s (i + 1) (t + 1) = min (min (dist a s i (t + 1) + 1) (dist a s (i + 1) t + 1)) (dist a s i t + if s t = a i then 0 else 1)) := dist_next a s i t
                  have HG : Hid (∀ t_1, t_1 < t + 1 → g t_1 = dist a s (i + 1) t_1) := hgt
                  clear hgt
                  obtain ⟨y1, hy1⟩ : ∃ y, y = dist a s i t := ⟨_, rfl⟩
                  obtain ⟨y2, hy2⟩ : ∃ y, y = dist a s i (t + 1) := ⟨_, rfl⟩
                  obtain ⟨y3, hy3⟩ : ∃ y, y = dist a s (i + 1) t := ⟨_, rfl⟩
                  rw [← hy1] at x1 d1 d2 DN
                  rw [← hy2] at x2 d3 d4 DN
                  rw [← hy3] at x3 d5 d6 DN
                  clear hy1 hy2 hy3
                  have k1 : 0 ≤ y1 := by omega
                  have k2 : y1 ≤ 10000 := by omega
                  have k3 : 0 ≤ y2 := by omega
                  have k4 : y2 ≤ 10000 := by omega
                  have k5 : 0 ≤ y3 := by omega
                  have k6 : y3 ≤ 10000 := by omega
                  clear d1 d2 d3 d4 d5 d6
                  by_cases heq : s t = a i
                  · have D2 : Hid (dist a s (i + 1) (t + 1) = min (min (y2 + 1) (y3 + 1)) y1) := by
                      have := DN.out; rw [if_pos heq] at this; show _ = _; omega
                    rw [heq] at hs1
                    clear DN heq
                    go_wp2
                    go_quiet (fail)
                    go_wp2
                    all_goals
                      go_roundw
                      case rel =>
                        refine ⟨t + 1 + 1, upd g (t + 1) _, by omega, by omega, by go_num, (hI5.draws _).store (by omega) _, fun t' ht' => ?_⟩
                        by_cases e : t' = t + 1
                        · subst e; rw [upd_same, D2.out]; omega
                        · rw [upd_other _ _ _ e]; exact HG.out t' (by omega)
                      case measure => simp [intOf]; omega
                  · have D2 : Hid (dist a s (i + 1) (t + 1) = min (min (y2 + 1) (y3 + 1)) (y1 + 1)) := by
                      have := DN.out; rw [if_neg heq] at this; exact this
                    have ht : (s t == a i) = false := by rw [beq_eq_false_iff_ne]; exact heq
                    generalize s t = z at *
                    clear DN heq
                    go_wp2
                    go_quiet (fail)
                    go_wp2
                    all_goals
                      go_roundw
                      case rel =>
                        refine ⟨t + 1 + 1, upd g (t + 1) _, by omega, by omega, by go_num, (hI5.draws _).store (by omega) _, fun t' ht' => ?_⟩
                        by_cases e : t' = t + 1
                        · subst e; rw [upd_same, D2.out]; omega
                        · rw [upd_other _ _ _ e]; exact HG.out t' (by omega)
                      case measure => simp [intOf]; omega
                · have hI6 := hI5.swap (f' := dist a s (i + 1)) (fun t ht => hgt t (by omega))
                  clear hI5 hgt
                  have r0 := hI6.row.c0
                  have r1 := hI6.row.c1
                  have r2 := hI6.row.c2
                  have r3 := hI6.row.c3
                  have r4 := hI6.row.c4
                  go_wp2_with fail
                  refine (agrees_at p0 p1 p2 p3 p4 C (dist a s (i + 1)) (i + 1) ((i : Int) + 1) (by omega) n _ hn (by omega) hI6.prev.lt (fun t ht => hI6.prev.cell t (by omega)) hBn.1 hBn.2.1 hBn.2.2.1 hBn.2.2.2.1 hBn.2.2.2.2).mono ?_
                  rintro e w1 ⟨rfl, rfl⟩
                  clear r0 r1 r2 r3 r4
                  go_wp2
                  go_roundw
                  case rel => exact ⟨i + 1, C, P, _, p0, p1, p2, p3, p4, by omega, by go_num, rfl, rfl, hI6.alloc _, hBn⟩
                  case measure => simp [intOf]; omega
        · go_wp2
          go_ret
          exact ⟨rfl, hI.below⟩
end Go.Proofs.Qxb6634873a

/-
  THE WALK of zzWordsOf (9): two slices built together.
-/
import Derived.Test.Qxb6627971aWords
import Derived.Deep.OwnRows
namespace Go.Proofs.Qxb6627971a
open Go.RowKit

/-- Two slices that were made since w0, with nothing of w0 changed. -/
structure Two (w0 w : World) (v4 v5 : Value) (a b : List Int) : Prop where
  o4 : Own w 3 .i64 v4 a
  o5 : Own w 34 .u64 v5 b
  s : ∀ g, v4.ownBlock = some g → v5.ownBlock ≠ some g
  tu : Turn w0 w (fun _ => False) (fun g => v4.ownBlock = some g ∨ v5.ownBlock = some g)

theorem Two.push {w0 w : World} {v4 v5 : Value} {a b : List Int} (h : Two w0 w v4 v5 a b) (x y : Int) (ha : a.length ≤ 1000000) (hb : b.length ≤ 1000000) :
    ∃ v4' w1 v5' w2, (Builtin.append_ #[22, 22] 22 #[v4, .slice (some ⟨w.heap.size, 0, none⟩) 1 1]).run Try.prog (w.alloc (.cells #[.int .i64 x] 3)) = .ok v4' w1 ∧
      (Builtin.append_ #[24, 24] 24 #[v5, .slice (some ⟨w1.heap.size, 0, none⟩) 1 1]).run Try.prog (w1.alloc (.cells #[.int .u64 y] 34)) = .ok v5' w2 ∧ Two w0 w2 v4' v5' (a ++ [x]) (b ++ [y]) := by
  obtain ⟨v4', w1, r1, o4, g1, g, cap, hv, hg⟩ := h.o4.app3 x (by omega)
  have old1 : ∀ c, c < w.heap.size → v4.ownBlock ≠ some c → w1.heap[c]? = w.heap[c]? := fun c hc hne => grown_old g1 hc hne
  have z1 : w.heap.size < w1.heap.size := by have := g1.size; simp at this; omega
  have o5 : Own w1 34 .u64 v5 b := h.o5.block fun c e => old1 c (h.o5.lt e) (fun e2 => h.s c e2 e)
  obtain ⟨v5', w2, r2, o5', g2, g', cap', hv', hg'⟩ := o5.app34 y (by omega)
  have old2 : ∀ c, c < w1.heap.size → v5.ownBlock ≠ some c → w2.heap[c]? = w1.heap[c]? := fun c hc hne => grown_old g2 hc hne
  have z2 : w1.heap.size < w2.heap.size := by have := g2.size; simp at this; omega
  have hs : ∀ c, v4'.ownBlock = some c → v5.ownBlock ≠ some c := fun c e e2 => (blk_of hv hg e).elim (fun e1 => h.s c e1 e2) (fun hl => by have := h.o5.lt e2; omega)
  refine ⟨v4', w1, v5', w2, r1, r2, o4.block fun c e => old2 c (o4.lt e) (hs c e), o5', fun c e e2 => ?_, h.tu.trans ⟨?_, ?_, ?_, by omega, fun c hc hF => ?_, fun c hF => ?_⟩⟩
  · rcases blk_of hv' hg' e2 with e3 | hl
    · exact hs c e e3
    · have := o4.lt e; omega
  · exact g2.os.trans g1.os
  · exact g2.tape.trans g1.tape
  · exact g2.output.trans g1.output
  · exact (old2 c (by omega) (fun e => hF (.inr e))).trans (old1 c hc (fun e => hF (.inl e)))
  · rcases hF with e | e
    · exact (blk_of hv hg e).elim (fun e => .inl (.inl e)) (fun hl => .inr (by omega))
    · exact (blk_of hv' hg' e).elim (fun e => .inl (.inr e)) (fun hl => .inr (by omega))
theorem Two.store {w0 w : World} {v4 : Value} {g5 c5 n : Nat} {a b : List Int} (h : Two w0 w v4 (.slice (some ⟨g5, 0, none⟩) n c5) a b) (hn : n = b.length) (i : Nat) (y : Int) :
    Two w0 (w.setCell ⟨g5, i, none⟩ (.int .u64 y)) v4 (.slice (some ⟨g5, 0, none⟩) n c5) a (b.set i y) :=
  ⟨h.o4.far (fun e => h.s g5 e rfl) _, h.o5.store hn i y, h.s, h.tu.set (b := g5) (.inr rfl) i _⟩
theorem Two.cell {w0 w : World} {v4 v5 : Value} {a b : List Int} (h : Two w0 w v4 v5 a b) {g o : Nat} {v : Value} (hg : g < w0.heap.size) (hc : w0.cell? ⟨g, o, none⟩ = some v) : w.cell? ⟨g, o, none⟩ = some v :=
  (World.cell?_of_block (w := w0) (a := ⟨g, o, none⟩) (h.tu.block g hg (fun f => f))).trans hc

theorem make22 (n : Nat) (hn : n ≤ 65536) (w : World) : (Instr.makeSlice 22 (.int .i64 0) (.int .i64 (n : Int))).run Try.prog w = .ok (.slice (some ⟨w.heap.size, 0, none⟩) 0 n) (w.alloc (.cells (madeCells #[.int .i64 0] n) 3)) := by
  obtain ⟨i0, hi, hz0, hz1, hz2⟩ := info_parts info3
  have := run_make (P := Try.prog) w 22 3 i0 (.int .i64 0) Try.underlying22 hi hz0 .i64 .i64 0 n (by decide) (by omega) (by rw [hz2]; omega) (by omega)
  simpa [hz1, show (Value.int .i64 0).cells = #[.int .i64 0] from rfl] using this
theorem make24 (n : Nat) (hn : n ≤ 65536) (w : World) : (Instr.makeSlice 24 (.int .i64 0) (.int .i64 (n : Int))).run Try.prog w = .ok (.slice (some ⟨w.heap.size, 0, none⟩) 0 n) (w.alloc (.cells (madeCells #[.int .u64 0] n) 34)) := by
  obtain ⟨i0, hi, hz0, hz1, hz2⟩ := info_parts info34
  have := run_make (P := Try.prog) w 24 34 i0 (.int .u64 0) Try.underlying24 hi hz0 .i64 .i64 0 n (by decide) (by omega) (by rw [hz2]; omega) (by omega)
  simpa [hz1, show (Value.int .u64 0).cells = #[.int .u64 0] from rfl] using this
theorem Own.made (w : World) (e : TypeId) (k : IntKind) (n : Nat) (hn : n ≤ 65536) (z : Value) : Own (w.alloc (.cells (madeCells #[z] n) e)) e k (.slice (some ⟨w.heap.size, 0, none⟩) 0 n) [] :=
  World.ownsRow_made w _ n (Nat.zero_le _) (by unfold maxLen; omega) (by simp [size_madeCells])
theorem Two.made (w : World) (n : Nat) (hn : n ≤ 65536) (z z' : Value) :
    Two w ((w.alloc (.cells (madeCells #[z] n) 3)).alloc (.cells (madeCells #[z'] n) 34)) (.slice (some ⟨w.heap.size, 0, none⟩) 0 n) (.slice (some ⟨w.heap.size + 1, 0, none⟩) 0 n) [] [] := by
  have h5 := Own.made (w.alloc (.cells (madeCells #[z] n) 3)) 34 .u64 n hn z'
  simp only [World.size_alloc] at h5
  refine ⟨(Own.made w 3 .i64 n hn z).alloc _, h5, fun g e e2 => ?_, ⟨rfl, rfl, rfl, by simp; omega, fun c hc _ => ?_, fun c hF => .inr ?_⟩⟩
  · simp [Value.ownBlock] at e e2; omega
  · rw [Below.heap_alloc _ _ _ (by simp; omega), Below.heap_alloc _ _ _ hc]
  · simp [Value.ownBlock] at hF; omega

def WordsSaid (p : List (Int × Int)) (w : World) (e : Ending) (w' : World) : Prop := ∃ v4 v5, e = .returned (.tuple #[v4, v5]) ∧ Two w w' v4 v5 (p.map (·.1)) (p.map (·.2))

set_option maxRecDepth 100000 in
set_option maxHeartbeats 4000000 in
theorem wordsOf_any (av : Option Addr) (n cap : Nat) (f : Nat → Int) (w : World) (hn : n ≤ 65536) (hd : Dom f n)
    (ha : 0 < n → ∃ b off, av = some ⟨b, off, none⟩ ∧ b < w.heap.size ∧ ∀ i, i < n → w.cell? ⟨b, off + i, none⟩ = some (.int .i64 (f i))) :
    Calls Try.prog 9 #[.slice av n cap] w fun e w' => WordsSaid (wds f n) w e w' := by
  have HA : Hid _ := ha
  have HD : Hid _ := hd
  clear ha hd
  have M22 := make22 n hn
  have M24 := make24 n hn
  have HM : Hid _ := Two.made w n hn (.int .i64 0) (.int .u64 0)
  go_enter Try.func9, Try.ntmps9
  go_wp2
  clear M22 M24
  go_loopw [18, 4, 5] (fun iv a4 a5 wx => ∃ (i : Nat) (v4 v5 : Value), i ≤ n ∧ iv = .int .i64 i ∧ v4 = a4 ∧ v5 = a5 ∧ Two w wx v4 v5 ((wds f i).map (·.1)) ((wds f i).map (·.2))) (fun iv _ _ _ => n - (intOf iv).toNat)
  case atStart => exact ⟨0, _, _, Nat.zero_le _, rfl, rfl, rfl, HM.out⟩
  case round =>
    clear HM
    obtain ⟨i, v4, v5, hi, rfl, rfl, rfl, h2⟩ := hrel
    by_cases hlt : i < n
    · obtain ⟨b, off, rfl, hb, hc⟩ := HA.out (by omega)
      have e1 := h2.cell hb (hc i hlt)
      have hx := HD.out i hlt
      have hq := wds_in HD.out hlt
      clear hc
      have hw : wds f (i + 1) = addW (wds f i) (f i) := rfl
      obtain ⟨x, hfx⟩ : ∃ x, f i = x := ⟨_, rfl⟩
      rw [hfx] at e1 hx hq hw
      clear hfx
      obtain ⟨hx0, hx1, _⟩ := hx
      have hpl := wds_len f i
      obtain ⟨p', hp'⟩ : ∃ p', wds f (i + 1) = p' := ⟨_, rfl⟩
      rw [hp'] at hw
      have HP : Hid (wds f (i + 1) = p') := hp'
      clear hp'
      generalize wds f i = p at *
      have o1 := (orB_zero (x % 64) (by omega) (by omega)).symm
      obtain ⟨y0, hy0⟩ : ∃ y0, orB 0 (x % 64) = y0 := ⟨_, rfl⟩
      rw [hy0] at o1
      rcases snoc_cases p with rfl | ⟨r, q, rfl⟩
      · rw [addW_nil, hy0] at hw
        clear hy0 hq
        obtain ⟨ad4, c4, rfl⟩ : ∃ (ad4 : Option Addr) (c4 : Nat), v4 = .slice ad4 0 c4 := by
          rcases h2.o4.shape with ⟨hv, _⟩ | ⟨g, cap, hv, _⟩
          · exact ⟨none, 0, hv⟩
          · exact ⟨_, cap, hv⟩
        obtain ⟨v4', w1, v5', w2, r1, r2, h3⟩ := h2.push (x / 64) y0 (by simp) (by simp)
        have R1 : Hid _ := r1
        have R2 : Hid _ := r2
        have H3 : Hid _ := h3
        clear r1 r2 h3 h2
        go_wp2_with (first | (at_builtin; refine wpList_app rfl (.tmp 50) (.tmp 52) 22 22 rfl rfl _ _ _ rfl rfl R1.out ?_) | (at_builtin; refine wpList_app rfl (.tmp 54) (.tmp 56) 24 24 rfl rfl v5 _ _ rfl rfl R2.out ?_))
        go_roundw
        case rel =>
          refine ⟨i + 1, _, _, by omega, by go_num, rfl, rfl, ?_⟩
          rw [HP.out, hw]; exact H3.out
        case measure => simp [intOf]; omega
      · by_cases e : q.1 = x / 64
        · rw [addW_same r q x e] at hw
          clear hy0 hq o1
          have l4 : ((r ++ [q]).map (·.1)).length = r.length + 1 := by simp
          have l5 : ((r ++ [q]).map (·.2)).length = r.length + 1 := by simp
          obtain ⟨g4, c4, rfl, _, _, _⟩ := h2.o4.there (by omega)
          obtain ⟨g5, c5, rfl, _, _, _⟩ := h2.o5.there (by omega)
          have d4 := h2.o4.cell rfl r.length (by omega)
          have d5 := h2.o5.cell rfl r.length (by omega)
          have f5 := h2.o5.free rfl
          have k4 : ((r ++ [q]).map (·.1)).getD r.length 0 = x / 64 := by simp [e]
          have k5 : ((r ++ [q]).map (·.2)).getD r.length 0 = q.2 := by simp
          rw [k4] at d4
          rw [k5] at d5
          have h3 := h2.store rfl r.length (orB q.2 (x % 64))
          have k6 : ((r ++ [q]).map (·.2)).set r.length (orB q.2 (x % 64)) = (r ++ [(q.1, orB q.2 (x % 64))]).map (·.2) := by simp
          have k7 : (r ++ [q]).map (·.1) = (r ++ [(q.1, orB q.2 (x % 64))]).map (·.1) := by simp
          rw [l4, l5, k6, k7, ← hw] at h3
          simp only [l4, l5]
          have hrl : r.length ≤ 65536 := by simp at hpl; omega
          obtain ⟨y, hy⟩ : ∃ y, q.2 = y := ⟨_, rfl⟩
          rw [hy] at d5 h3
          obtain ⟨y', hy'⟩ : ∃ y', orB y (x % 64) = y' := ⟨_, rfl⟩
          rw [hy'] at h3
          have o2 : bits BinOp.or IntKind.u64 y (IntKind.u64.wrap (2 ^ (x % 64).toNat)) = y' := hy'
          have H3 : Hid _ := h3
          clear h3 h2 hw hy hy' k4 k5 k6 k7 l4 l5 hpl e
          generalize r.length = m at *
          go_wp2
          go_roundw
          case rel =>
            refine ⟨i + 1, _, _, by omega, by go_num, rfl, rfl, ?_⟩
            rw [HP.out]; exact H3.out
          case measure => simp [intOf]; omega
        · rw [addW_new r q x e, hy0] at hw
          clear hy0 hq
          have l4 : ((r ++ [q]).map (·.1)).length = r.length + 1 := by simp
          obtain ⟨g4, c4, rfl, _, _, _⟩ := h2.o4.there (by omega)
          have d4 := h2.o4.cell rfl r.length (by omega)
          have k4 : ((r ++ [q]).map (·.1)).getD r.length 0 = q.1 := by simp
          rw [k4] at d4
          have hrl : r.length ≤ 65536 := by simp at hpl; omega
          obtain ⟨v4', w1, v5', w2, r1, r2, h3⟩ := h2.push (x / 64) y0 (by simp; omega) (by simp; omega)
          have k7 : (r ++ [q]).map (·.1) ++ [x / 64] = (r ++ [q] ++ [(x / 64, y0)]).map (·.1) := by simp
          have k6 : (r ++ [q]).map (·.2) ++ [y0] = (r ++ [q] ++ [(x / 64, y0)]).map (·.2) := by simp
          rw [k6, k7, ← hw] at h3
          rw [l4] at r1
          simp only [l4]
          have R1 : Hid _ := r1
          have R2 : Hid _ := r2
          have H3 : Hid _ := h3
          obtain ⟨u, hu⟩ : ∃ u, q.1 = u := ⟨_, rfl⟩
          rw [hu] at d4 e
          have t1 : decide (u = x / 64) = false := by simpa using e
          clear r1 r2 h3 h2 hw k4 k6 k7 l4 hpl hu
          generalize r.length = m at *
          go_wp2_with (first | (at_builtin; refine wpList_app rfl (.tmp 50) (.tmp 52) 22 22 rfl rfl _ _ _ rfl rfl R1.out ?_) | (at_builtin; refine wpList_app rfl (.tmp 54) (.tmp 56) 24 24 rfl rfl v5 _ _ rfl rfl R2.out ?_))
          go_roundw
          case rel =>
            refine ⟨i + 1, _, _, by omega, by go_num, rfl, rfl, ?_⟩
            rw [HP.out]; exact H3.out
          case measure => simp [intOf]; omega
    · obtain rfl : i = n := by omega
      go_wp2
      go_ret2
      exact ⟨_, _, rfl, h2⟩
end Go.Proofs.Qxb6627971a

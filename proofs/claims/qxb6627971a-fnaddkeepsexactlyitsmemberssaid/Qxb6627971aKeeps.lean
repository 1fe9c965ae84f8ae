/-
  THE WALK of FnAddKeepsExactlyItsMembers (3).
-/
import Derived.Test.Qxb6627971aSix
namespace Go.Proofs.Qxb6627971a
open Go.RowKit

set_option maxRecDepth 100000 in
set_option maxHeartbeats 4000000 in
theorem walk3 (av : Option Addr) (n cap : Nat) (f : Nat → Int) (w : World) (hn : n ≤ 65536)
    (ha : 0 < n → ∃ b off, av = some ⟨b, off, none⟩ ∧ b < w.heap.size ∧ ∀ i, i < n → w.cell? ⟨b, off + i, none⟩ = some (.int .i64 (f i))) :
    Calls Try.prog 3 #[.slice av n cap] w fun e w' => e = .returned (.bool true) ∧ Below w.heap.size w w' := by
  have HA : Hid _ := ha
  have HZ : Hid _ := And.intro (Tw.zero w) (Turn.zero w (.cells #[.int .i64 0, .bool false, .slice none 0 0, .slice none 0 0, .slice none 0 0, .slice none 0 0] 27))
  clear ha
  go_enter Try.func3, Try.ntmps3
  go_wp2_with (first | (go_at_call 5; refine (bytes5 av n cap _ hn).mono ?_; rintro e w' ⟨rfl, rfl⟩) | (go_at_call 6; refine (dom_any av n cap f _ hn HA.out).mono ?_; rintro e w' ⟨b, rfl, rfl, hD⟩; cases b))
  · go_wp2
    go_ret
    exact ⟨rfl, Below.refl _ _⟩
  have HD : Hid (Dom f n) := hD trivial
  clear hD
  go_wp2
  go_loopw [28] (fun iv wx => ∃ (i : Nat) (u2 u3 u4 u5 : Value), i ≤ n ∧ iv = .int .i64 i ∧ Tw wx w.heap.size (ofWords (wds f i)) u2 u3 u4 u5 ∧ Turn w wx (fun _ => False) (Foot w.heap.size u2 u3 u4 u5)) (fun iv _ => n - (intOf iv).toNat)
  case atStart => exact ⟨0, _, _, _, _, Nat.zero_le _, rfl, HZ.out.1, HZ.out.2⟩
  case round =>
  clear HZ
  obtain ⟨i, u2, u3, u4, u5, hi, rfl, hT, hU⟩ := hrel
  by_cases hlt : i < n
  · obtain ⟨b, off, rfl, hb, hc⟩ := HA.out (by omega)
    have e1 := (hU.below.cell (p := ⟨b, off + i, none⟩) hb).trans (hc i hlt)
    have hx := HD.out i hlt
    have hq := wds_in HD.out hlt
    have hwd := wds_words HD.out hn i hi
    clear hc
    have HT : Hid _ := hT
    have HU : Hid _ := hU
    have HQ : Hid _ := hq
    clear hT hU hq
    go_wp2_with fail
    refine (add_any w.heap.size u2 u3 u4 u5 (wds f i) (f i) _ hwd HT.out hx.1 hx.2.1 HQ.out).mono ?_
    rintro e w1 ⟨rfl, y2, y3, y4, y5, hT1, hU1⟩
    clear hx
    go_wp2
    go_roundw
    case rel => exact ⟨i + 1, y2, y3, y4, y5, by omega, by go_num, hT1, HU.out.trans hU1⟩
    case measure => simp [intOf]; omega
  obtain rfl : i = n := by omega
  have HT : Hid _ := hT
  have HU : Hid _ := hU
  have HA2 : Hid (∀ m, 0 < i → ∃ b off, av = some ⟨b, off, none⟩ ∧ b < (wr.drewN m).heap.size ∧ ∀ j, j < i → (wr.drewN m).cell? ⟨b, off + j, none⟩ = some (.int .i64 (f j))) := fun m h0 => by
    obtain ⟨b, off, h1, hb, hc⟩ := HA.out h0
    exact ⟨b, off, h1, Nat.lt_of_lt_of_le hb hU.size, fun j hj => (hU.below.cell (p := ⟨b, off + j, none⟩) hb).trans (hc j hj)⟩
  clear hT hU HA hlt hi
  go_wp2_with (go_at_call 8; refine (fields_any w.heap.size _ u2 u3 u4 u5 _ HT.out).mono ?_; rintro e w' ⟨rfl, m, rfl⟩)
  refine (wordsOf_any av i cap f _ hn HD.out (HA2.out m)).mono ?_
  rintro e w3 ⟨va, vb, rfl, h2⟩
  have h6 : Six w w3 (ofWords (wds f i)) u2 u3 u4 u5 va vb ((wds f i).map (·.1)) ((wds f i).map (·.2)) := by
    have hT := (HT.out.draws m).block h2.tu.size (fun b hb _ => h2.tu.block b hb (fun f => f))
    exact ⟨hT.o2, hT.o3, hT.o4, hT.o5, h2.o4, h2.o5, (below_drewN HU.out.below m).trans (h2.tu.below.mono (by have := HU.out.size; exact this))⟩
  have hwd := wds_words HD.out hn i (Nat.le_refl _)
  clear h2 HT HU HA2 HD
  generalize wds f i = p at *
  have hiv := hwd.iv
  have hpl := hwd.len
  rcases snoc_cases p with rfl | ⟨r0, q0, hp0⟩
  · obtain ⟨ad2, c2, rfl⟩ := h6.o2.slice0 rfl
    obtain ⟨ad3, c3, rfl⟩ := h6.o3.slice0 rfl
    obtain ⟨ad4, c4, rfl⟩ := h6.o4.slice0 rfl
    obtain ⟨ad5, c5, rfl⟩ := h6.o5.slice0 rfl
    obtain ⟨ada, ca, rfl⟩ := h6.oa.slice0 rfl
    obtain ⟨adb, cb, rfl⟩ := h6.ob.slice0 rfl
    have HB : Hid _ := h6.bel
    clear h6 hwd hiv hpl
    go_wp2
    go_ret
    exact ⟨rfl, HB.out⟩
  have hM : 0 < p.length := by rw [hp0]; simp
  clear hp0
  have hnum := fun b hb => hwd.num b hb
  rw [← ofWords_ws p] at h6
  generalize hwi : p.map (·.1) = wi at *
  have hml : wi.length ≤ 65536 := by rw [← hwi]; simpa using hpl
  have hM' : 0 < wi.length := by rw [← hwi]; simpa using hM
  clear hwi hpl hM hwd
  generalize ofWords p = t at *
  have hne : wi ≠ [] := fun e => by rw [e] at hM'; simp at hM'
  obtain ⟨L, l3⟩ : ∃ L, t.ns.length = L + 1 := by
    obtain ⟨s, r, r', _, _, e⟩ := hiv.hd hne
    exact ⟨r'.length, by rw [e]; simp⟩
  have l2 : t.ss.length = L + 1 := by rw [← hiv.l2, l3]
  have l4 : t.fs.length = L + 1 := by rw [hiv.fsl, l3]
  have l5 := hiv.l5
  obtain ⟨M, hMe⟩ : ∃ M, wi.length = M := ⟨_, rfl⟩
  rw [hMe] at l5 hml hM'
  have hLM : L + 1 ≤ 2 * M := by have := hiv.le; omega
  obtain ⟨g2, c2, rfl⟩ := h6.o2.row l2 (by omega)
  obtain ⟨g3, c3, rfl⟩ := h6.o3.row l3 (by omega)
  obtain ⟨g4, c4, rfl⟩ := h6.o4.row l4 (by omega)
  obtain ⟨g5, c5, rfl⟩ := h6.o5.row l5 (by omega)
  obtain ⟨ga, ca, rfl⟩ := h6.oa.row hMe (by omega)
  obtain ⟨gb, cb, rfl⟩ := h6.ob.row l5 (by omega)
  obtain ⟨k1, k2, k3⟩ := hiv.ends (by omega)
  have b3 := h6.o3.cell l3.symm 0 (by omega)
  have b2 := h6.o2.cell l2.symm 0 (by omega)
  have b2' := h6.o2.cell l2.symm L (by omega)
  rw [l3, Nat.add_sub_cancel] at k3
  have hb0 := hnum 0 (by omega)
  rw [k1] at hb0 b3
  obtain ⟨bs, hbs⟩ : ∃ bs, t.base = bs := ⟨_, rfl⟩
  obtain ⟨gp, hgp⟩ : ∃ gp, t.gaps = gp := ⟨_, rfl⟩
  simp only [hbs, hgp]
  rw [hbs] at hb0 b3
  obtain ⟨s0, hs0⟩ : ∃ s, t.ss.getD 0 0 = s := ⟨_, rfl⟩
  obtain ⟨s1, hs1⟩ : ∃ s, t.ss.getD L 0 = s := ⟨_, rfl⟩
  rw [hs0] at b2 k2
  rw [hs1] at b2' k3
  have n0 : (s0 == 0) = false := by simpa using k2
  have n1 : (s1 == 0) = false := by simpa using k3
  have n2 : (((L : Int) + 1) == 0) = false := by simp; omega
  have HG : Hid (t.gaps = gp) := hgp
  have HBS : Hid (t.base = bs) := hbs
  have HN : Hid _ := hnum
  have HI : Hid _ := hiv
  have H6 : Hid _ := h6
  have L2 : Hid _ := l2
  have L3 : Hid _ := l3
  have L4 : Hid _ := l4
  have L5 : Hid _ := l5
  have HM : Hid _ := hMe
  obtain ⟨hbs0, hbs1⟩ := hb0
  clear hgp hbs hnum hiv h6 l2 l3 l4 l5 hMe hs0 hs1 k1 hne
  go_wp2
  clear b3 b2 b2' n0 n1 n2 k2 k3
  go_loopw [14, 15] (fun pv bv wx => ∃ b : Nat, b ≤ L + 1 ∧ bv = .int .i64 b ∧ pv = .int .i64 (cum t b) ∧ Six w wx t (.slice (some ⟨g2, 0, none⟩) (L + 1) c2) (.slice (some ⟨g3, 0, none⟩) (L + 1) c3) (.slice (some ⟨g4, 0, none⟩) (L + 1) c4) (.slice (some ⟨g5, 0, none⟩) M c5) (.slice (some ⟨ga, 0, none⟩) M ca) (.slice (some ⟨gb, 0, none⟩) M cb) wi t.ws) (fun _ bv _ => L + 1 - (intOf bv).toNat)
  case atStart => exact ⟨0, Nat.zero_le _, rfl, rfl, H6.out⟩
  case round =>
  clear H6
  obtain ⟨b, hb, rfl, rfl, h6⟩ := hrel
  have hcb : cum t b ≤ 65536 := by have := HI.out.cum_le b; have := HM.out; omega
  by_cases hlt : b < L + 1
  · have hiv := HI.out
    have e2 := h6.o2.cell L2.out.symm b (by have := L2.out; omega)
    have e3 := h6.o3.cell L3.out.symm b (by have := L3.out; omega)
    have e4 := h6.o4.cell L4.out.symm b (by have := L4.out; omega)
    have hbL : b < t.ns.length := by have := L3.out; omega
    rw [hiv.first b hbL] at e4
    have hnb := HN.out b hbL
    have hpl := hiv.plain b hbL
    have hfu := hiv.full b hbL
    have hs := hiv.srg b hbL
    have hup : ∀ b', b = b' + 1 → t.ns.getD b' 0 < t.ns.getD b 0 := fun b' e => by subst e; exact hiv.up b' hbL
    have hbit := fun k hk => hiv.bit b k hbL hk
    have hsc := hiv.cum_succ b hbL
    obtain ⟨s, hse⟩ : ∃ s, t.ss.getD b 0 = s := ⟨_, rfl⟩
    obtain ⟨nb, hne⟩ : ∃ nb, t.ns.getD b 0 = nb := ⟨_, rfl⟩
    rw [hse] at e2 hfu hs hsc
    simp only [hse, hne] at hbit
    rw [hne] at e3 hnb hpl
    simp only [hne] at hup
    obtain ⟨C, hC⟩ : ∃ C, cum t b = C := ⟨_, rfl⟩
    simp only [hC] at hbit
    rw [hC] at e4 hsc hcb
    simp only [hC]
    rw [HG.out, HBS.out] at hpl
    rw [HG.out] at hfu
    obtain ⟨hs0, hs1⟩ := hs
    obtain ⟨hn0, hn1⟩ := hnb
    have HBI : Hid _ := hbit
    have HSC : Hid _ := hsc
    have H6 : Hid _ := h6
    have h6' : Hid _ := h6
    have HSE : Hid _ := hse
    have HNE : Hid _ := hne
    clear hiv hse hne hC hbL hbit hsc h6
    have tl : decide ((b : Int) < (L : Int) + 1) = true := by simp; omega
    have main : gp = true ∨ gp = false := by cases gp; exact .inr rfl; exact .inl rfl
    rcases main with rfl | rfl
    · have n0 : (s == 0) = false := by simpa using hfu rfl
      clear hfu hpl
      rcases Nat.eq_zero_or_pos b with hb0 | hb0
      · have t0 : decide ((0 : Int) < (b : Int)) = false := by simp; omega
        have t1 : decide (0 < b) = false := by simp; omega
        clear hup hb0
        go_wp2_with fail
        go_quiet (fail)
        go_wp2_with fail
        clear tl e2 e3 e4 n0 t0 t1
        go_loopw [14, 16] (fun pv kv wx => ∃ k : Nat, k ≤ 64 ∧ kv = .int .i64 k ∧ pv = .int .i64 ((C + (bitsTo s.toNat k).length : Nat) : Int) ∧ Six w wx t (.slice (some ⟨g2, 0, none⟩) (L + 1) c2) (.slice (some ⟨g3, 0, none⟩) (L + 1) c3) (.slice (some ⟨g4, 0, none⟩) (L + 1) c4) (.slice (some ⟨g5, 0, none⟩) M c5) (.slice (some ⟨ga, 0, none⟩) M ca) (.slice (some ⟨gb, 0, none⟩) M cb) wi t.ws) (fun _ kv _ => 64 - (intOf kv).toNat)
        case atStart => exact ⟨0, Nat.zero_le _, rfl, rfl, H6.out.draws _⟩
        case round =>
        clear H6
        obtain ⟨k, hk, rfl, rfl, h6⟩ := hrel
        by_cases hk64 : k < 64
        · have e2 := h6.o2.cell L2.out.symm b (by have := L2.out; omega)
          rw [HSE.out] at e2
          have bt := bit_test s k hs0 hs1
          have hbs := bitsTo_succ s.toNat k
          by_cases tb : s.toNat.testBit k = true
          · rw [if_pos tb] at bt hbs
            obtain ⟨j1, j2⟩ := HBI.out k hk64 tb
            have hlen : (bitsTo s.toNat (k + 1)).length = (bitsTo s.toNat k).length + 1 := by rw [hbs]; simp
            rw [HM.out] at j1
            have e3 := h6.o3.cell L3.out.symm b (by have := L3.out; omega)
            have e5 := h6.o5.cell L5.out.symm (C + (bitsTo s.toNat k).length) (by have := L5.out; omega)
            have ea := h6.oa.cell HM.out.symm (C + (bitsTo s.toNat k).length) (by have := HM.out; omega)
            have eb := h6.ob.cell L5.out.symm (C + (bitsTo s.toNat k).length) (by have := L5.out; omega)
            rw [HNE.out] at e3
            rw [j2] at ea
            have HLN : Hid _ := hlen
            have H6 : Hid _ := h6
            clear h6 hlen hbs j2 tb
            generalize (bitsTo s.toNat k).length = D at *
            generalize t.ws.getD (C + D) 0 = y at *
            obtain ⟨E, hE⟩ : ∃ E, C + D = E := ⟨_, rfl⟩
            have HE : Hid _ := hE
            rw [hE] at e5 ea eb j1
            simp only [hE]
            clear hE
            go_wp2_with fail
            go_quiet (fail)
            go_wp2
            go_roundw
            case rel =>
              refine ⟨k + 1, by omega, by go_num, ?_, H6.out.draws _⟩
              rw [HLN.out, ← Nat.add_assoc, HE.out]
              go_num
            case measure => simp [intOf]; omega
          · rw [if_neg tb] at bt hbs
            have hlen : (bitsTo s.toNat (k + 1)).length = (bitsTo s.toNat k).length := by rw [hbs]; simp
            have HLN : Hid _ := hlen
            have H6 : Hid _ := h6
            clear h6 hlen hbs tb
            go_wp2
            go_roundw
            case rel =>
              refine ⟨k + 1, by omega, by go_num, ?_, H6.out⟩
              rw [HLN.out]
            case measure => simp [intOf]; omega
        · obtain rfl : k = 64 := by omega
          have H6 : Hid _ := h6
          clear h6
          go_wp2
          go_roundw
          case rel =>
            refine ⟨b + 1, by omega, by go_num, ?_, H6.out⟩
            rw [HSC.out]; try rfl
          case measure => simp [intOf]; omega
      · have e3' := h6'.out.o3.cell L3.out.symm (b - 1) (by have := L3.out; omega)
        have u0 := hup (b - 1) (by omega)
        obtain ⟨nb', hnb'⟩ : ∃ x, t.ns.getD (b - 1) 0 = x := ⟨_, rfl⟩
        rw [hnb'] at e3' u0
        have e3q : wr.cell? ⟨g3, ((b : Int) - 1).toNat, none⟩ = some (.int .i32 nb') := by rw [show ((b : Int) - 1).toNat = b - 1 from by omega]; exact e3'
        have t0 : decide ((0 : Int) < (b : Int)) = true := by simp; omega
        have t1 : decide (0 < b) = true := by simp; omega
        have t2 : decide (nb ≤ nb') = false := by simp; omega
        clear hup hnb'
        go_wp2_with fail
        go_quiet (fail)
        go_wp2_with fail
        clear tl e2 e3 e4 n0 e3' e3q t0 t1 t2 u0
        go_loopw [14, 16] (fun pv kv wx => ∃ k : Nat, k ≤ 64 ∧ kv = .int .i64 k ∧ pv = .int .i64 ((C + (bitsTo s.toNat k).length : Nat) : Int) ∧ Six w wx t (.slice (some ⟨g2, 0, none⟩) (L + 1) c2) (.slice (some ⟨g3, 0, none⟩) (L + 1) c3) (.slice (some ⟨g4, 0, none⟩) (L + 1) c4) (.slice (some ⟨g5, 0, none⟩) M c5) (.slice (some ⟨ga, 0, none⟩) M ca) (.slice (some ⟨gb, 0, none⟩) M cb) wi t.ws) (fun _ kv _ => 64 - (intOf kv).toNat)
        case atStart => exact ⟨0, Nat.zero_le _, rfl, rfl, H6.out.draws _⟩
        case round =>
        clear H6
        obtain ⟨k, hk, rfl, rfl, h6⟩ := hrel
        by_cases hk64 : k < 64
        · have e2 := h6.o2.cell L2.out.symm b (by have := L2.out; omega)
          rw [HSE.out] at e2
          have bt := bit_test s k hs0 hs1
          have hbs := bitsTo_succ s.toNat k
          by_cases tb : s.toNat.testBit k = true
          · rw [if_pos tb] at bt hbs
            obtain ⟨j1, j2⟩ := HBI.out k hk64 tb
            have hlen : (bitsTo s.toNat (k + 1)).length = (bitsTo s.toNat k).length + 1 := by rw [hbs]; simp
            rw [HM.out] at j1
            have e3 := h6.o3.cell L3.out.symm b (by have := L3.out; omega)
            have e5 := h6.o5.cell L5.out.symm (C + (bitsTo s.toNat k).length) (by have := L5.out; omega)
            have ea := h6.oa.cell HM.out.symm (C + (bitsTo s.toNat k).length) (by have := HM.out; omega)
            have eb := h6.ob.cell L5.out.symm (C + (bitsTo s.toNat k).length) (by have := L5.out; omega)
            rw [HNE.out] at e3
            rw [j2] at ea
            have HLN : Hid _ := hlen
            have H6 : Hid _ := h6
            clear h6 hlen hbs j2 tb
            generalize (bitsTo s.toNat k).length = D at *
            generalize t.ws.getD (C + D) 0 = y at *
            obtain ⟨E, hE⟩ : ∃ E, C + D = E := ⟨_, rfl⟩
            have HE : Hid _ := hE
            rw [hE] at e5 ea eb j1
            simp only [hE]
            clear hE
            go_wp2_with fail
            go_quiet (fail)
            go_wp2
            go_roundw
            case rel =>
              refine ⟨k + 1, by omega, by go_num, ?_, H6.out.draws _⟩
              rw [HLN.out, ← Nat.add_assoc, HE.out]
              go_num
            case measure => simp [intOf]; omega
          · rw [if_neg tb] at bt hbs
            have hlen : (bitsTo s.toNat (k + 1)).length = (bitsTo s.toNat k).length := by rw [hbs]; simp
            have HLN : Hid _ := hlen
            have H6 : Hid _ := h6
            clear h6 hlen hbs tb
            go_wp2
            go_roundw
            case rel =>
              refine ⟨k + 1, by omega, by go_num, ?_, H6.out⟩
              rw [HLN.out]
            case measure => simp [intOf]; omega
        · obtain rfl : k = 64 := by omega
          have H6 : Hid _ := h6
          clear h6
          go_wp2
          go_roundw
          case rel =>
            refine ⟨b + 1, by omega, by go_num, ?_, H6.out⟩
            rw [HSC.out]; try rfl
          case measure => simp [intOf]; omega
    · have hpl := hpl rfl
      clear hfu
      subst hpl
      rcases Nat.eq_zero_or_pos b with hb0 | hb0
      · have t0 : decide ((0 : Int) < (b : Int)) = false := by simp; omega
        have t1 : decide (0 < b) = false := by simp; omega
        clear hup hb0
        go_wp2_with fail
        go_quiet (fail)
        go_wp2_with fail
        clear tl e2 e3 e4 t0 t1
        go_loopw [14, 16] (fun pv kv wx => ∃ k : Nat, k ≤ 64 ∧ kv = .int .i64 k ∧ pv = .int .i64 ((C + (bitsTo s.toNat k).length : Nat) : Int) ∧ Six w wx t (.slice (some ⟨g2, 0, none⟩) (L + 1) c2) (.slice (some ⟨g3, 0, none⟩) (L + 1) c3) (.slice (some ⟨g4, 0, none⟩) (L + 1) c4) (.slice (some ⟨g5, 0, none⟩) M c5) (.slice (some ⟨ga, 0, none⟩) M ca) (.slice (some ⟨gb, 0, none⟩) M cb) wi t.ws) (fun _ kv _ => 64 - (intOf kv).toNat)
        case atStart => exact ⟨0, Nat.zero_le _, rfl, rfl, H6.out.draws _⟩
        case round =>
        clear H6
        obtain ⟨k, hk, rfl, rfl, h6⟩ := hrel
        by_cases hk64 : k < 64
        · have e2 := h6.o2.cell L2.out.symm b (by have := L2.out; omega)
          rw [HSE.out] at e2
          have bt := bit_test s k hs0 hs1
          have hbs := bitsTo_succ s.toNat k
          by_cases tb : s.toNat.testBit k = true
          · rw [if_pos tb] at bt hbs
            obtain ⟨j1, j2⟩ := HBI.out k hk64 tb
            have hlen : (bitsTo s.toNat (k + 1)).length = (bitsTo s.toNat k).length + 1 := by rw [hbs]; simp
            rw [HM.out] at j1
            have e3 := h6.o3.cell L3.out.symm b (by have := L3.out; omega)
            have e5 := h6.o5.cell L5.out.symm (C + (bitsTo s.toNat k).length) (by have := L5.out; omega)
            have ea := h6.oa.cell HM.out.symm (C + (bitsTo s.toNat k).length) (by have := HM.out; omega)
            have eb := h6.ob.cell L5.out.symm (C + (bitsTo s.toNat k).length) (by have := L5.out; omega)
            rw [HNE.out] at e3
            rw [j2] at ea
            have HLN : Hid _ := hlen
            have H6 : Hid _ := h6
            clear h6 hlen hbs j2 tb
            generalize (bitsTo s.toNat k).length = D at *
            generalize t.ws.getD (C + D) 0 = y at *
            obtain ⟨E, hE⟩ : ∃ E, C + D = E := ⟨_, rfl⟩
            have HE : Hid _ := hE
            rw [hE] at e5 ea eb j1
            simp only [hE]
            clear hE
            go_wp2_with fail
            go_quiet (fail)
            go_wp2
            go_roundw
            case rel =>
              refine ⟨k + 1, by omega, by go_num, ?_, H6.out.draws _⟩
              rw [HLN.out, ← Nat.add_assoc, HE.out]
              go_num
            case measure => simp [intOf]; omega
          · rw [if_neg tb] at bt hbs
            have hlen : (bitsTo s.toNat (k + 1)).length = (bitsTo s.toNat k).length := by rw [hbs]; simp
            have HLN : Hid _ := hlen
            have H6 : Hid _ := h6
            clear h6 hlen hbs tb
            go_wp2
            go_roundw
            case rel =>
              refine ⟨k + 1, by omega, by go_num, ?_, H6.out⟩
              rw [HLN.out]
            case measure => simp [intOf]; omega
        · obtain rfl : k = 64 := by omega
          have H6 : Hid _ := h6
          clear h6
          go_wp2
          go_roundw
          case rel =>
            refine ⟨b + 1, by omega, by go_num, ?_, H6.out⟩
            rw [HSC.out]; try rfl
          case measure => simp [intOf]; omega
      · have e3' := h6'.out.o3.cell L3.out.symm (b - 1) (by have := L3.out; omega)
        have u0 := hup (b - 1) (by omega)
        obtain ⟨nb', hnb'⟩ : ∃ x, t.ns.getD (b - 1) 0 = x := ⟨_, rfl⟩
        rw [hnb'] at e3' u0
        have e3q : wr.cell? ⟨g3, ((b : Int) - 1).toNat, none⟩ = some (.int .i32 nb') := by rw [show ((b : Int) - 1).toNat = b - 1 from by omega]; exact e3'
        have t0 : decide ((0 : Int) < (b : Int)) = true := by simp; omega
        have t1 : decide (0 < b) = true := by simp; omega
        have t2 : decide (bs + (b : Int) ≤ nb') = false := by simp; omega
        clear hup hnb'
        go_wp2_with fail
        go_quiet (fail)
        go_wp2_with fail
        clear tl e2 e3 e4 e3' e3q t0 t1 t2 u0
        go_loopw [14, 16] (fun pv kv wx => ∃ k : Nat, k ≤ 64 ∧ kv = .int .i64 k ∧ pv = .int .i64 ((C + (bitsTo s.toNat k).length : Nat) : Int) ∧ Six w wx t (.slice (some ⟨g2, 0, none⟩) (L + 1) c2) (.slice (some ⟨g3, 0, none⟩) (L + 1) c3) (.slice (some ⟨g4, 0, none⟩) (L + 1) c4) (.slice (some ⟨g5, 0, none⟩) M c5) (.slice (some ⟨ga, 0, none⟩) M ca) (.slice (some ⟨gb, 0, none⟩) M cb) wi t.ws) (fun _ kv _ => 64 - (intOf kv).toNat)
        case atStart => exact ⟨0, Nat.zero_le _, rfl, rfl, H6.out.draws _⟩
        case round =>
        clear H6
        obtain ⟨k, hk, rfl, rfl, h6⟩ := hrel
        by_cases hk64 : k < 64
        · have e2 := h6.o2.cell L2.out.symm b (by have := L2.out; omega)
          rw [HSE.out] at e2
          have bt := bit_test s k hs0 hs1
          have hbs := bitsTo_succ s.toNat k
          by_cases tb : s.toNat.testBit k = true
          · rw [if_pos tb] at bt hbs
            obtain ⟨j1, j2⟩ := HBI.out k hk64 tb
            have hlen : (bitsTo s.toNat (k + 1)).length = (bitsTo s.toNat k).length + 1 := by rw [hbs]; simp
            rw [HM.out] at j1
            have e3 := h6.o3.cell L3.out.symm b (by have := L3.out; omega)
            have e5 := h6.o5.cell L5.out.symm (C + (bitsTo s.toNat k).length) (by have := L5.out; omega)
            have ea := h6.oa.cell HM.out.symm (C + (bitsTo s.toNat k).length) (by have := HM.out; omega)
            have eb := h6.ob.cell L5.out.symm (C + (bitsTo s.toNat k).length) (by have := L5.out; omega)
            rw [HNE.out] at e3
            rw [j2] at ea
            have HLN : Hid _ := hlen
            have H6 : Hid _ := h6
            clear h6 hlen hbs j2 tb
            generalize (bitsTo s.toNat k).length = D at *
            generalize t.ws.getD (C + D) 0 = y at *
            obtain ⟨E, hE⟩ : ∃ E, C + D = E := ⟨_, rfl⟩
            have HE : Hid _ := hE
            rw [hE] at e5 ea eb j1
            simp only [hE]
            clear hE
            go_wp2_with fail
            go_quiet (fail)
            go_wp2
            go_roundw
            case rel =>
              refine ⟨k + 1, by omega, by go_num, ?_, H6.out.draws _⟩
              rw [HLN.out, ← Nat.add_assoc, HE.out]
              go_num
            case measure => simp [intOf]; omega
          · rw [if_neg tb] at bt hbs
            have hlen : (bitsTo s.toNat (k + 1)).length = (bitsTo s.toNat k).length := by rw [hbs]; simp
            have HLN : Hid _ := hlen
            have H6 : Hid _ := h6
            clear h6 hlen hbs tb
            go_wp2
            go_roundw
            case rel =>
              refine ⟨k + 1, by omega, by go_num, ?_, H6.out⟩
              rw [HLN.out]
            case measure => simp [intOf]; omega
        · obtain rfl : k = 64 := by omega
          have H6 : Hid _ := h6
          clear h6
          go_wp2
          go_roundw
          case rel =>
            refine ⟨b + 1, by omega, by go_num, ?_, H6.out⟩
            rw [HSC.out]; try rfl
          case measure => simp [intOf]; omega
  obtain rfl : b = L + 1 := by omega
  have hca : cum t (L + 1) = M := by rw [← L3.out, HI.out.cum_all]; exact HM.out
  rw [hca]
  have HB : Hid _ := h6.bel
  clear h6 hcb hca
  go_wp2
  go_ret
  exact ⟨rfl, HB.out⟩
end Go.Proofs.Qxb6627971a

/-
  THE WALK of FnAddCaresOnlyForTheSet (4).
-/
import Derived.Test.Qxb6627971aTri
namespace Go.Proofs.Qxb6627971a
open Go.RowKit

set_option maxRecDepth 100000 in
set_option maxHeartbeats 4000000 in
theorem walk4 (av : Option Addr) (n cap : Nat) (f : Nat → Int) (w : World) (hn : n ≤ 65536)
    (ha : 0 < n → ∃ b off, av = some ⟨b, off, none⟩ ∧ b < w.heap.size ∧ ∀ i, i < n → w.cell? ⟨b, off + i, none⟩ = some (.int .i64 (f i))) :
    Calls Try.prog 4 #[.slice av n cap] w fun e w' => e = .returned (.bool true) ∧ Below w.heap.size w w' := by
  have HA : Hid _ := ha
  have M22 := make22 n hn
  clear ha
  go_enter Try.func4, Try.ntmps4
  go_wp2_with (first | (go_at_call 10; refine (bytes10 av n cap _ hn).mono ?_; rintro e w' ⟨rfl, rfl⟩) | (go_at_call 6; refine (dom_any av n cap f _ hn HA.out).mono ?_; rintro e w' ⟨b, rfl, rfl, hD⟩; cases b))
  · go_wp2
    go_ret
    exact ⟨rfl, Below.refl _ _⟩
  have HD : Hid (Dom f n) := hD trivial
  clear hD
  go_wp2_with (go_at_call 9; refine (wordsOf_any av n cap f _ hn HD.out HA.out).mono ?_; rintro e w1 ⟨va, vb, rfl, h2⟩)
  have HW : Hid _ := wds_words HD.out hn n (Nat.le_refl _)
  have HGD : Hid _ := wds_good HD.out n (Nat.le_refl _)
  have H3 : Hid _ := Tri.start h2 n hn (.int .i64 0)
  obtain ⟨p, hp⟩ : ∃ p, wds f n = p := ⟨_, rfl⟩
  rw [hp] at HW HGD H3 h2
  have HP : Hid _ := hp
  obtain ⟨P, hPl⟩ : ∃ P, p.length = P := ⟨_, rfl⟩
  have la : (p.map (·.1)).length = P := by simpa using hPl
  have lb : (p.map (·.2)).length = P := by simpa using hPl
  have hP : P ≤ 65536 := by rw [← hPl]; exact HW.out.len
  obtain ⟨ada, ca, rfl⟩ := h2.o4.slice
  obtain ⟨adb, cb, rfl⟩ := h2.o5.slice
  rw [la, lb] at H3
  simp only [la, lb]
  have LA : Hid _ := la
  have LB : Hid _ := lb
  have HPL : Hid _ := hPl
  clear h2 hp la lb hPl
  go_wp2
  clear M22
  go_loopw [5, 6] (fun cv jv wx => ∃ (j : Nat) (vc : Value), j ≤ P ∧ jv = .int .i64 j ∧ vc = cv ∧ Tri w wx vc (.slice ada P ca) (.slice adb P cb) (mems p j) (p.map (·.1)) (p.map (·.2))) (fun _ jv _ => P - (intOf jv).toNat)
  case atStart => exact ⟨0, _, Nat.zero_le _, rfl, rfl, H3.out⟩
  case round =>
  clear H3
  obtain ⟨j, vc, hj, rfl, rfl, h3⟩ := hrel
  by_cases hlt : j < P
  · obtain ⟨ga, rfl, _⟩ := h3.oa.at LA.out j hlt
    obtain ⟨gb, rfl, _⟩ := h3.ob.at LB.out j hlt
    have tl : decide ((j : Int) < (P : Int)) = true := by simp; omega
    have hpj : j < p.length := by rw [HPL.out]; exact hlt
    have hmem : p.getD j (0, 0) ∈ p := by
      rw [List.getD_eq_getElem?_getD, List.getElem?_eq_getElem hpj]; exact List.getElem_mem hpj
    have ku : (p.map (·.1)).getD j 0 = (p.getD j (0, 0)).1 := by simp [List.getD_eq_getElem?_getD, List.getElem?_eq_getElem hpj]
    have ks : (p.map (·.2)).getD j 0 = (p.getD j (0, 0)).2 := by simp [List.getD_eq_getElem?_getD, List.getElem?_eq_getElem hpj]
    have hmu := HW.out.hi _ hmem
    have hms := HGD.out.rg _ hmem
    have hsu := mems_succ p j hpj
    have hml := mems_len p j (by omega)
    obtain ⟨u, hu⟩ : ∃ u, (p.getD j (0, 0)).1 = u := ⟨_, rfl⟩
    obtain ⟨s, hs⟩ : ∃ s, (p.getD j (0, 0)).2 = s := ⟨_, rfl⟩
    rw [hu] at ku hmu hsu
    rw [hs] at ks hms hsu
    obtain ⟨hu0, hu1⟩ := hmu
    obtain ⟨hs0, hs1⟩ := hms
    have KU : Hid _ := ku
    have KS : Hid _ := ks
    have HSU : Hid _ := hsu
    have H3 : Hid _ := h3
    clear ku ks hsu h3 hu hs hmem hpj
    go_wp2
    clear tl
    go_loopw [5, 7] (fun cv kv wx => ∃ (k : Nat) (vc : Value), k ≤ 64 ∧ kv = .int .i64 k ∧ vc = cv ∧ Tri w wx vc (.slice (some ⟨ga, 0, none⟩) P ca) (.slice (some ⟨gb, 0, none⟩) P cb) (mems p j ++ mem1 u s k) (p.map (·.1)) (p.map (·.2))) (fun _ kv _ => 64 - (intOf kv).toNat)
    case atStart => exact ⟨0, _, Nat.zero_le _, rfl, rfl, by rw [show mem1 u s 0 = [] from rfl, List.append_nil]; exact H3.out⟩
    case round =>
    clear H3
    obtain ⟨k, vd, hk, rfl, rfl, h3⟩ := hrel
    by_cases hk64 : k < 64
    · have eb := h3.ob.cell LB.out.symm j (by have := LB.out; omega)
      rw [KS.out] at eb
      have bt := bit_test s k hs0 hs1
      have hms := mem1_succ u s k
      have hml2 := mem1_len u s k
      by_cases tb : s.toNat.testBit k = true
      · rw [if_pos tb] at bt hms
        have ea := h3.oa.cell LA.out.symm j (by have := LA.out; omega)
        rw [KU.out] at ea
        obtain ⟨v', w', r, h4⟩ := h3.push (u * 64 + (k : Int)) (by rw [List.length_append]; omega)
        rw [List.append_assoc, ← hms] at h4
        have R : Hid _ := r
        have H4 : Hid _ := h4
        clear r h4 h3 hms tb hml2
        go_wp2_with (at_builtin; refine wpList_app rfl (.tmp 66) (.tmp 74) 22 22 rfl rfl vd _ _ rfl rfl R.out ?_)
        go_roundw
        case rel => exact ⟨k + 1, _, by omega, by go_num, rfl, H4.out⟩
        case measure => simp [intOf]; omega
      · rw [if_neg tb] at bt hms
        rw [List.append_nil] at hms
        rw [← hms] at h3
        have H4 : Hid _ := h3
        clear h3 hms tb hml2
        go_wp2
        go_roundw
        case rel => exact ⟨k + 1, _, by omega, by go_num, rfl, H4.out⟩
        case measure => simp [intOf]; omega
    · obtain rfl : k = 64 := by omega
      rw [← HSU.out] at h3
      have H4 : Hid _ := h3
      clear h3
      go_wp2
      go_roundw
      case rel => exact ⟨j + 1, _, by omega, by go_num, rfl, H4.out⟩
      case measure => simp [intOf]; omega
  obtain rfl : j = P := by omega
  have hcn : mems p j = canon p := by unfold canon; rw [HPL.out]
  rw [hcn] at h3
  have hcl := canon_len (p := p) (by rw [HPL.out]; exact hP)
  obtain ⟨N, hN⟩ : ∃ N, (canon p).length = N := ⟨_, rfl⟩
  rw [hN] at hcl
  obtain ⟨adc, cc, rfl⟩ := h3.oc.slice
  rw [hN] at h3
  simp only [hN]
  have HN : Hid _ := hN
  have HPA : Hid _ := Pair.start h3
  obtain ⟨A, hA⟩ : ∃ A, wr.heap.size = A := ⟨_, rfl⟩
  rw [hA] at HPA
  clear h3 hcn hN hlt hj
  go_wp2
  clear hA
  go_loopw [78] (fun iv wx => ∃ (i : Nat) (v2 v3 v4 v5 : Value), i ≤ n ∧ iv = .int .i64 i ∧ Pair w wx A (A + 1) (ofWords (wds f i)) (ofWords []) v2 v3 v4 v5 (.slice none 0 0) (.slice none 0 0) (.slice none 0 0) (.slice none 0 0) (.slice adc N cc) (.slice adb j cb) (canon p) (p.map (·.2))) (fun iv _ => n - (intOf iv).toNat)
  case atStart => exact ⟨0, _, _, _, _, Nat.zero_le _, rfl, HPA.out⟩
  case round =>
  clear HPA
  obtain ⟨i, v2, v3, v4, v5, hi, rfl, hPA⟩ := hrel
  by_cases hlt : i < n
  · obtain ⟨b, off, rfl, hb, hc⟩ := HA.out (by omega)
    have e1 := (hPA.bel.cell (p := ⟨b, off + i, none⟩) hb).trans (hc i hlt)
    have hx := HD.out i hlt
    have hwd := wds_words HD.out hn i hi
    have HQ : Hid _ := wds_in HD.out hlt
    have HPA : Hid _ := hPA
    clear hc hPA
    go_wp2_with fail
    refine (add_any A v2 v3 v4 v5 (wds f i) (f i) _ hwd HPA.out.ta hx.1 hx.2.1 HQ.out).mono ?_
    rintro e w2 ⟨rfl, y2, y3, y4, y5, hT1, hU1⟩
    have HP1 : Hid _ := HPA.out.stepA hT1 hU1
    clear hx hT1 hU1 HPA
    go_wp2
    go_roundw
    case rel => exact ⟨i + 1, y2, y3, y4, y5, by omega, by go_num, HP1.out⟩
    case measure => simp [intOf]; omega
  obtain rfl : i = n := by omega
  rw [HP.out] at hPA
  have HPA : Hid _ := hPA
  have HCW : Hid _ := canon_words HGD.out
  have HCD : Hid _ := canon_dom HGD.out HW.out
  obtain ⟨cf, hcf⟩ : ∃ cf, (fun j => (canon p).getD j 0) = cf := ⟨_, rfl⟩
  rw [hcf, HN.out] at HCW HCD
  have HCF : Hid _ := hcf
  clear hPA hcf hlt hi
  go_wp2
  go_loopw [87] (fun iv wx => ∃ (k : Nat) (u2 u3 u4 u5 : Value), k ≤ N ∧ iv = .int .i64 k ∧ Pair w wx A (A + 1) (ofWords p) (ofWords (wds cf k)) v2 v3 v4 v5 u2 u3 u4 u5 (.slice adc N cc) (.slice adb j cb) (canon p) (p.map (·.2))) (fun iv _ => N - (intOf iv).toNat)
  case atStart => exact ⟨0, _, _, _, _, Nat.zero_le _, rfl, HPA.out⟩
  case round =>
  clear HPA
  obtain ⟨k, u2, u3, u4, u5, hk, rfl, hPA⟩ := hrel
  by_cases hlt : k < N
  · obtain ⟨gc, rfl, e1⟩ := hPA.oc.at HN.out k hlt
    have hck : (canon p).getD k 0 = cf k := by rw [← HCF.out]
    rw [hck] at e1
    have hx := HCD.out k hlt
    have hwd := wds_words' HCD.out (by rw [HCW.out]; exact HW.out.len) k hk
    have HQ : Hid _ := wds_in HCD.out hlt
    have HPA : Hid _ := hPA
    clear hck hPA
    go_wp2_with fail
    refine (add_any (A + 1) u2 u3 u4 u5 (wds cf k) (cf k) _ hwd HPA.out.tc hx.1 hx.2.1 HQ.out).mono ?_
    rintro e w2 ⟨rfl, y2, y3, y4, y5, hT1, hU1⟩
    have HP1 : Hid _ := HPA.out.stepC hT1 hU1
    clear hx hT1 hU1 HPA
    go_wp2
    go_roundw
    case rel => exact ⟨k + 1, y2, y3, y4, y5, by omega, by go_num, HP1.out⟩
    case measure => simp [intOf]; omega
  obtain rfl : k = N := by omega
  rw [HCW.out] at hPA
  have hiv := HW.out.iv
  have hws := ofWords_ws p
  obtain ⟨t, ht⟩ : ∃ t, ofWords p = t := ⟨_, rfl⟩
  rw [ht] at hPA hiv hws
  rw [← hws] at hPA
  have HPA : Hid _ := hPA
  have lj : t.ws.length = j := by rw [hws]; exact LB.out
  obtain ⟨L, l3⟩ : ∃ L, t.ns.length = L := ⟨_, rfl⟩
  obtain ⟨M, l5⟩ : ∃ M, t.ws.length = M := ⟨_, rfl⟩
  have l2 : t.ss.length = L := by rw [← hiv.l2]; exact l3
  have l4 : t.fs.length = L := by rw [hiv.fsl]; exact l3
  have hLM : L ≤ 2 * M := by have h1 := hiv.le; have h2 := hiv.l5; omega
  have hMj : j = M := by rw [← lj]; exact l5
  obtain ⟨ad2, cp2, rfl⟩ := hPA.ta.o2.slice
  obtain ⟨ad3, cp3, rfl⟩ := hPA.ta.o3.slice
  obtain ⟨ad4, cp4, rfl⟩ := hPA.ta.o4.slice
  obtain ⟨ad5, cp5, rfl⟩ := hPA.ta.o5.slice
  obtain ⟨bd2, dp2, rfl⟩ := hPA.tc.o2.slice
  obtain ⟨bd3, dp3, rfl⟩ := hPA.tc.o3.slice
  obtain ⟨bd4, dp4, rfl⟩ := hPA.tc.o4.slice
  obtain ⟨bd5, dp5, rfl⟩ := hPA.tc.o5.slice
  rw [l2, l3, l4, l5] at HPA
  have L2 : Hid _ := l2
  have L3 : Hid _ := l3
  have L4 : Hid _ := l4
  have L5 : Hid _ := l5
  have LJ : Hid _ := lj
  clear hPA hiv hws lj l2 l3 l4 l5 ht hlt hk HCW HCD HCF HGD HW HPL LA LB HP HD HA
  subst hMj
  go_wp2_with fail
  refine (fields_any A t _ _ _ _ _ HPA.out.ta).mono ?_
  rintro e w4 ⟨rfl, m1, rfl⟩
  go_wp2_with fail
  refine (fields_any (A + 1) t _ _ _ _ _ (HPA.out.tc.draws m1)).mono ?_
  rintro e w5 ⟨rfl, m2, rfl⟩
  have HTEN : Hid (∀ m, Ten w (wr.drewN m) t (.slice ad2 L cp2) (.slice ad3 L cp3) (.slice ad4 L cp4) (.slice ad5 j cp5) (.slice bd2 L dp2) (.slice bd3 L dp3) (.slice bd4 L dp4) (.slice bd5 j dp5) (.slice adb j cb)) := fun m =>
    ⟨HPA.out.ta.o2.draws m, HPA.out.ta.o3.draws m, HPA.out.ta.o4.draws m, HPA.out.ta.o5.draws m, HPA.out.tc.o2.draws m, HPA.out.tc.o3.draws m, HPA.out.tc.o4.draws m, HPA.out.tc.o5.draws m, HPA.out.ob.draws m, below_drewN HPA.out.bel m⟩
  clear HPA
  obtain ⟨bs, hbs⟩ : ∃ bs, t.base = bs := ⟨_, rfl⟩
  obtain ⟨gp, hgp⟩ : ∃ gp, t.gaps = gp := ⟨_, rfl⟩
  simp only [hbs, hgp]
  clear hbs hgp
  go_wp2
  go_loopw [26] (fun pv wx => ∃ q : Nat, q ≤ L ∧ pv = .int .i64 q ∧ Ten w wx t (.slice ad2 L cp2) (.slice ad3 L cp3) (.slice ad4 L cp4) (.slice ad5 j cp5) (.slice bd2 L dp2) (.slice bd3 L dp3) (.slice bd4 L dp4) (.slice bd5 j dp5) (.slice adb j cb)) (fun pv _ => L - (intOf pv).toNat)
  case atStart => exact ⟨0, Nat.zero_le _, rfl, HTEN.out _⟩
  case round =>
  clear HTEN
  obtain ⟨q, hq, rfl, h10⟩ := hrel
  by_cases hlt : q < L
  · obtain ⟨g1, rfl, e1⟩ := h10.a2.at L2.out q hlt
    obtain ⟨g2, rfl, e2⟩ := h10.c2.at L2.out q hlt
    have tl : decide ((q : Int) < (L : Int)) = true := by simp; omega
    generalize t.ss.getD q 0 = y at *
    have H10 : Hid _ := h10
    clear h10
    go_wp2_with fail
    go_quiet (fail)
    go_wp2
    go_roundw
    case rel => exact ⟨q + 1, by omega, by go_num, H10.out.draws _⟩
    case measure => simp [intOf]; omega
  obtain rfl : L = q := by omega
  have HTEN : Hid _ := h10
  clear h10 hlt hq
  go_wp2
  go_loopw [27] (fun pv wx => ∃ q : Nat, q ≤ L ∧ pv = .int .i64 q ∧ Ten w wx t (.slice ad2 L cp2) (.slice ad3 L cp3) (.slice ad4 L cp4) (.slice ad5 j cp5) (.slice bd2 L dp2) (.slice bd3 L dp3) (.slice bd4 L dp4) (.slice bd5 j dp5) (.slice adb j cb)) (fun pv _ => L - (intOf pv).toNat)
  case atStart => exact ⟨0, Nat.zero_le _, rfl, HTEN.out⟩
  case round =>
  clear HTEN
  obtain ⟨q, hq, rfl, h10⟩ := hrel
  by_cases hlt : q < L
  · obtain ⟨g1, rfl, e1⟩ := h10.a3.at L3.out q hlt
    obtain ⟨g2, rfl, e2⟩ := h10.c3.at L3.out q hlt
    have tl : decide ((q : Int) < (L : Int)) = true := by simp; omega
    generalize t.ns.getD q 0 = y at *
    have H10 : Hid _ := h10
    clear h10
    go_wp2_with fail
    go_quiet (fail)
    go_wp2
    go_roundw
    case rel => exact ⟨q + 1, by omega, by go_num, H10.out.draws _⟩
    case measure => simp [intOf]; omega
  obtain rfl : L = q := by omega
  have HTEN : Hid _ := h10
  clear h10 hlt hq
  go_wp2
  go_loopw [28] (fun pv wx => ∃ q : Nat, q ≤ L ∧ pv = .int .i64 q ∧ Ten w wx t (.slice ad2 L cp2) (.slice ad3 L cp3) (.slice ad4 L cp4) (.slice ad5 j cp5) (.slice bd2 L dp2) (.slice bd3 L dp3) (.slice bd4 L dp4) (.slice bd5 j dp5) (.slice adb j cb)) (fun pv _ => L - (intOf pv).toNat)
  case atStart => exact ⟨0, Nat.zero_le _, rfl, HTEN.out⟩
  case round =>
  clear HTEN
  obtain ⟨q, hq, rfl, h10⟩ := hrel
  by_cases hlt : q < L
  · obtain ⟨g1, rfl, e1⟩ := h10.a4.at L4.out q hlt
    obtain ⟨g2, rfl, e2⟩ := h10.c4.at L4.out q hlt
    have tl : decide ((q : Int) < (L : Int)) = true := by simp; omega
    generalize t.fs.getD q 0 = y at *
    have H10 : Hid _ := h10
    clear h10
    go_wp2_with fail
    go_quiet (fail)
    go_wp2
    go_roundw
    case rel => exact ⟨q + 1, by omega, by go_num, H10.out.draws _⟩
    case measure => simp [intOf]; omega
  obtain rfl : L = q := by omega
  have HTEN : Hid _ := h10
  clear h10 hlt hq
  go_wp2
  go_loopw [29] (fun pv wx => ∃ q : Nat, q ≤ j ∧ pv = .int .i64 q ∧ Ten w wx t (.slice ad2 L cp2) (.slice ad3 L cp3) (.slice ad4 L cp4) (.slice ad5 j cp5) (.slice bd2 L dp2) (.slice bd3 L dp3) (.slice bd4 L dp4) (.slice bd5 j dp5) (.slice adb j cb)) (fun pv _ => j - (intOf pv).toNat)
  case atStart => exact ⟨0, Nat.zero_le _, rfl, HTEN.out⟩
  case round =>
  clear HTEN
  obtain ⟨q, hq, rfl, h10⟩ := hrel
  by_cases hlt : q < j
  · obtain ⟨g1, rfl, e1⟩ := h10.a5.at L5.out q hlt
    obtain ⟨g2, rfl, e2⟩ := h10.c5.at L5.out q hlt
    obtain ⟨g3, rfl, e3⟩ := h10.ob.at L5.out q hlt
    have tl : decide ((q : Int) < (j : Int)) = true := by simp; omega
    generalize t.ws.getD q 0 = y at *
    have H10 : Hid _ := h10
    clear h10
    go_wp2_with fail
    go_quiet (fail)
    go_wp2
    go_roundw
    case rel => exact ⟨q + 1, by omega, by go_num, H10.out.draws _⟩
    case measure => simp [intOf]; omega
  obtain rfl : j = q := by omega
  have HTEN : Hid _ := h10
  clear h10 hlt hq
  have tz : decide ((L : Int) ≤ 2 * (j : Int)) = true := by simp; omega
  go_wp2
  go_ret
  exact ⟨rfl, HTEN.out.bel⟩
end Go.Proofs.Qxb6627971a

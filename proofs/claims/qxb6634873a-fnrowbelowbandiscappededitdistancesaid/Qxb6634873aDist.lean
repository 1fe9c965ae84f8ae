/-
  THE PLAIN PART on the edit distance and its band. No Go walk here.
-/
import Derived.Test.Qxb6634873aPlain
namespace Go.Proofs.Qxb6634873a

/-- The row of distances below the row p: s the name of search, c the next character asked for, h the row's first distance. -/
def nextRow (p s : Nat → Int) (c h : Int) : Nat → Int
  | 0 => h
  | j + 1 => min (min (p (j + 1) + 1) (nextRow p s c h j + 1)) (p j + if s j = c then 0 else 1)

/-- The edit distance of the first i characters of a and the first j of s. -/
def dist (a s : Nat → Int) : Nat → Nat → Int
  | 0 => fun j => j
  | i + 1 => nextRow (dist a s i) s (a i) (i + 1)

theorem dist_zero (a s : Nat → Int) (j : Nat) : dist a s 0 j = j := rfl
theorem dist_first (a s : Nat → Int) (i : Nat) : dist a s i 0 = i := by
  cases i with
  | zero => rfl
  | succ i => show (i : Int) + 1 = _; omega
theorem dist_next (a s : Nat → Int) (i j : Nat) : dist a s (i + 1) (j + 1) = min (min (dist a s i (j + 1) + 1) (dist a s (i + 1) j + 1)) (dist a s i j + if s j = a i then 0 else 1) := rfl

theorem dist_lo (a s : Nat → Int) (i : Nat) : ∀ j : Nat, (i : Int) - j ≤ dist a s i j ∧ (j : Int) - i ≤ dist a s i j := by
  induction i with
  | zero => intro j; rw [dist_zero]; omega
  | succ i ih =>
    intro j
    induction j with
    | zero => rw [dist_first]; omega
    | succ j ihj =>
      rw [dist_next]
      have h1 := ih (j + 1)
      have h2 := ih j
      split <;> omega

theorem dist_hi (a s : Nat → Int) (i : Nat) : ∀ j : Nat, dist a s i j ≤ i + j := by
  induction i with
  | zero => intro j; rw [dist_zero]; omega
  | succ i ih =>
    intro j
    cases j with
    | zero => rw [dist_first]; omega
    | succ j =>
      rw [dist_next]
      have h1 := ih (j + 1)
      omega

/-- What a place k of the band at depth d must hold: 3 where it stands left of the name's start, the distance, capped at 3, where it stands inside. -/
def okAt (f : Nat → Int) (n d k : Nat) (q : Int) : Prop := 0 ≤ q ∧ q ≤ 3 ∧ (d + k < 2 → q = 3) ∧ (2 ≤ d + k → d + k - 2 ≤ n → q = min 3 (f (d + k - 2)))

theorem start0 (a s : Nat → Int) (n : Nat) : okAt (dist a s 0) n 0 0 3 := ⟨by omega, by omega, fun _ => rfl, fun h => by omega⟩
theorem start1 (a s : Nat → Int) (n : Nat) : okAt (dist a s 0) n 0 1 3 := ⟨by omega, by omega, fun _ => rfl, fun h => by omega⟩
theorem start2 (a s : Nat → Int) (n : Nat) : okAt (dist a s 0) n 0 2 0 := ⟨by omega, by omega, fun h => by omega, fun _ _ => by rw [dist_zero]; omega⟩
theorem start3 (a s : Nat → Int) (n : Nat) : okAt (dist a s 0) n 0 3 1 := ⟨by omega, by omega, fun h => by omega, fun _ _ => by rw [dist_zero]; omega⟩
theorem start4 (a s : Nat → Int) (n : Nat) : okAt (dist a s 0) n 0 4 2 := ⟨by omega, by omega, fun h => by omega, fun _ _ => by rw [dist_zero]; omega⟩

/-- Is place k of the band at depth i one whose character of s is the next of a? -/
def hit (a s : Nat → Int) (n i k : Nat) : Prop := 2 ≤ i + k ∧ i + k - 2 < n ∧ s (i + k - 2) = a i

/-- A place of the row below, out of what its three neighbours come to. -/
theorem place (a s : Nat → Int) (n i k : Nat) (R L C v : Int) (hR0 : 0 ≤ R) (hL0 : 0 ≤ L) (hC0 : 0 ≤ C)
    (hR : 1 ≤ i + k → i + k - 1 ≤ n → min 3 R = min 3 (dist a s i (i + k - 1) + 1)) (hR' : i + k < 1 → 3 ≤ R)
    (hL : 2 ≤ i + k → i + k - 2 ≤ n → min 3 L = min 3 (dist a s (i + 1) (i + k - 2) + 1)) (hL' : i + k < 2 → 3 ≤ L)
    (hC : 2 ≤ i + k → i + k - 2 < n → min 3 C = min 3 (dist a s i (i + k - 2) + if s (i + k - 2) = a i then 0 else 1)) (hC' : i + k < 2 → 3 ≤ C)
    (hv : v = m4 R L C) : okAt (dist a s (i + 1)) n (i + 1) k v := by
  subst hv
  refine ⟨m4_pos _ _ _ hR0 hL0 hC0, m4_le _ _ _, fun h => ?_, fun h hn => ?_⟩
  · have h1 := hR' (by omega)
    have h2 := hL' (by omega)
    have h3 := hC' (by omega)
    unfold m4; omega
  · by_cases h2 : i + k < 2
    · have e : i + 1 + k - 2 = 0 := by omega
      rw [e, dist_first]
      have h1 := hR (by omega) (by omega)
      rw [show i + k - 1 = 0 from by omega, dist_first] at h1
      have h2' := hL' h2
      have h3 := hC' h2
      unfold m4; omega
    · obtain ⟨t, ht⟩ : ∃ t, i + k = t + 2 := ⟨i + k - 2, by omega⟩
      have e : i + 1 + k - 2 = t + 1 := by omega
      have h1 := hR (by omega) (by omega)
      have h2' := hL (by omega) (by omega)
      have h3 := hC (by omega) (by omega)
      rw [show i + k - 1 = t + 1 from by omega] at h1
      rw [show i + k - 2 = t from by omega] at h2' h3
      rw [e, dist_next]
      unfold m4
      generalize (if s t = a i then (0 : Int) else 1) = y at *
      omega

section
variable (a s : Nat → Int) (n i : Nat) (q0 q1 q2 q3 q4 c0 c1 c2 c3 c4 : Int)
/-- The cost at place k: 0 at a hit, 1 elsewhere. -/
def cost (k : Nat) (c : Int) : Prop := (hit a s n i k → c = 0) ∧ (¬ hit a s n i k → c = 1)

theorem cost_bd {k : Nat} {c : Int} (h : cost a s n i k c) : 0 ≤ c ∧ c ≤ 1 := by
  by_cases hh : hit a s n i k
  · have := h.1 hh; omega
  · have := h.2 hh; omega
theorem fromC {k : Nat} {q c : Int} (g : okAt (dist a s i) n i k q) (h : cost a s n i k c) :
    (2 ≤ i + k → i + k - 2 < n → min 3 (q + c) = min 3 (dist a s i (i + k - 2) + if s (i + k - 2) = a i then 0 else 1)) ∧ (i + k < 2 → 3 ≤ q + c) := by
  obtain ⟨_, _, g3, g4⟩ := g
  refine ⟨fun h1 h2 => ?_, fun h1 => ?_⟩
  · have e := g4 h1 (by omega)
    have hp := (dist_lo a s i (i + k - 2))
    by_cases he : s (i + k - 2) = a i
    · have := h.1 ⟨h1, h2, he⟩
      rw [if_pos he]; omega
    · have := h.2 (fun x => he x.2.2)
      rw [if_neg he]; omega
  · have e := g3 h1
    have hb := cost_bd a s n i h
    omega
theorem fromR {k : Nat} {q : Int} (g : okAt (dist a s i) n i (k + 1) q) :
    (1 ≤ i + k → i + k - 1 ≤ n → min 3 (q + 1) = min 3 (dist a s i (i + k - 1) + 1)) ∧ (i + k < 1 → 3 ≤ q + 1) := by
  obtain ⟨_, _, g3, g4⟩ := g
  refine ⟨fun h1 h2 => ?_, fun h1 => ?_⟩
  · have e := g4 (by omega) (by omega)
    rw [show i + (k + 1) - 2 = i + k - 1 from by omega] at e
    omega
  · have e := g3 (by omega)
    omega
theorem fromL {k : Nat} {q : Int} (g : okAt (dist a s (i + 1)) n (i + 1) k q) :
    (2 ≤ i + (k + 1) → i + (k + 1) - 2 ≤ n → min 3 (q + 1) = min 3 (dist a s (i + 1) (i + (k + 1) - 2) + 1)) ∧ (i + (k + 1) < 2 → 3 ≤ q + 1) := by
  obtain ⟨_, _, g3, g4⟩ := g
  refine ⟨fun h1 h2 => ?_, fun h1 => ?_⟩
  · have e := g4 (by omega) (by omega)
    rw [show i + 1 + k - 2 = i + (k + 1) - 2 from by omega] at e
    omega
  · have e := g3 (by omega)
    omega

theorem next0 (k0 : okAt (dist a s i) n i 0 q0) (k1 : okAt (dist a s i) n i 1 q1) (e : cost a s n i 0 c0) : okAt (dist a s (i + 1)) n (i + 1) 0 (m4 (q1 + 1) 4 (q0 + c0)) := by
  have b := cost_bd a s n i e
  have C := fromC a s n i k0 e
  have R := fromR a s n i k1
  refine place a s n i 0 (q1 + 1) 4 (q0 + c0) _ (by have := k1.1; omega) (by omega) (by have := k0.1; omega) R.1 R.2 (fun h1 h2 => ?_) (fun _ => by omega) C.1 C.2 rfl
  have := (dist_lo a s (i + 1) (i + 0 - 2)).1
  omega
theorem nextMid {k : Nat} {q qr l c : Int} (hk : okAt (dist a s i) n i (k + 1) q) (hr : okAt (dist a s i) n i (k + 2) qr) (hl : okAt (dist a s (i + 1)) n (i + 1) k l) (e : cost a s n i (k + 1) c) :
    okAt (dist a s (i + 1)) n (i + 1) (k + 1) (m4 (qr + 1) (l + 1) (q + c)) := by
  have b := cost_bd a s n i e
  have C := fromC a s n i hk e
  have R := fromR a s n i hr
  have L := fromL a s n i hl
  exact place a s n i (k + 1) (qr + 1) (l + 1) (q + c) _ (by have := hr.1; omega) (by have := hl.1; omega) (by have := hk.1; omega) R.1 R.2 L.1 L.2 C.1 C.2 rfl
theorem next4 {l : Int} (hk : okAt (dist a s i) n i 4 q4) (hl : okAt (dist a s (i + 1)) n (i + 1) 3 l) (e : cost a s n i 4 c4) :
    okAt (dist a s (i + 1)) n (i + 1) 4 (m4 3 (l + 1) (q4 + c4)) := by
  have b := cost_bd a s n i e
  have C := fromC a s n i hk e
  have L := fromL a s n i hl
  refine place a s n i 4 3 (l + 1) (q4 + c4) _ (by omega) (by have := hl.1; omega) (by have := hk.1; omega) (fun h1 h2 => ?_) (fun _ => by omega) L.1 L.2 C.1 C.2 rfl
  have := (dist_lo a s i (i + 4 - 1)).2
  omega
end

/-! ### the mask -/
theorem or_i64 (x y : Nat) (hx : x < 4294967296) (hy : y < 4294967296) : bits .or .i64 (x : Int) (y : Int) = ((x ||| y : Nat) : Int) := by
  show IntKind.i64.wrap ((BitVec.ofInt 64 (x : Int) ||| BitVec.ofInt 64 (y : Int)).toNat : Int) = _
  rw [BitVec.toNat_or, BitVec.toNat_ofInt, BitVec.toNat_ofInt, IntKind.wrap_i64]
  have e1 : ((x : Int) % ((2 ^ 64 : Nat) : Int)).toNat = x := by omega
  have e2 : ((y : Int) % ((2 ^ 64 : Nat) : Int)).toNat = y := by omega
  rw [e1, e2]
  have hb : x ||| y < 2 ^ 32 := Nat.or_lt_two_pow hx hy
  omega

/-- The mask, bit by bit. -/
def mk (b : Bool) (p : Nat) : Nat := if b then p else 0
def mask (b0 b1 b2 b3 b4 : Bool) : Nat → Nat
  | 0 => 0
  | 1 => mk b0 1
  | 2 => mk b0 1 + mk b1 2
  | 3 => mk b0 1 + mk b1 2 + mk b2 4
  | 4 => mk b0 1 + mk b1 2 + mk b2 4 + mk b3 8
  | _ => mk b0 1 + mk b1 2 + mk b2 4 + mk b3 8 + mk b4 16

theorem ch_mask (b0 b1 b2 b3 b4 : Bool) : ch (mask b0 b1 b2 b3 b4 5 : Nat) 1 = (if b0 then 0 else 1) ∧ ch (mask b0 b1 b2 b3 b4 5 : Nat) 2 = (if b1 then 0 else 1) ∧ ch (mask b0 b1 b2 b3 b4 5 : Nat) 4 = (if b2 then 0 else 1) ∧ ch (mask b0 b1 b2 b3 b4 5 : Nat) 8 = (if b3 then 0 else 1) ∧ ch (mask b0 b1 b2 b3 b4 5 : Nat) 16 = (if b4 then 0 else 1) := by
  revert b0 b1 b2 b3 b4
  decide

/-- Is it a hit? As a Bool that the walk doesn't look into. -/
def hitB (a s : Nat → Int) (n i k : Nat) : Bool := decide (2 ≤ i + k) && (decide (i + k - 2 < n) && decide (s (i + k - 2) = a i))
theorem hitB_yes {a s : Nat → Int} {n i k : Nat} (h1 : 2 ≤ i + k) (h2 : i + k - 2 < n) (h3 : s (i + k - 2) = a i) : hitB a s n i k = true := by simp [hitB, h1, h2, h3]
theorem hitB_early {a s : Nat → Int} {n i k : Nat} (h1 : i + k < 2) : hitB a s n i k = false := by simp [hitB]; omega
theorem hitB_late {a s : Nat → Int} {n i k : Nat} (h1 : n ≤ i + k - 2) : hitB a s n i k = false := by simp [hitB]; omega
theorem hitB_not {a s : Nat → Int} {n i k : Nat} (h1 : s (i + k - 2) ≠ a i) : hitB a s n i k = false := by simp [hitB, h1]
theorem cost_of {a s : Nat → Int} {n i k : Nat} {c : Int} (h : c = if hitB a s n i k = true then 0 else 1) : cost a s n i k c := by
  subst h
  refine ⟨fun hh => if_pos (hitB_yes hh.1 hh.2.1 hh.2.2), fun hh => if_neg (fun hb => hh ?_)⟩
  simp [hitB] at hb
  exact ⟨hb.1, hb.2.1, hb.2.2⟩
theorem mask_hit0 (b0 b1 b2 b3 b4 : Bool) (h : b0 = true) : bits .or .i64 ((mask b0 b1 b2 b3 b4 0 : Nat) : Int) 1 = ((mask b0 b1 b2 b3 b4 1 : Nat) : Int) := by
  revert h; revert b0 b1 b2 b3 b4; decide
theorem mask_miss0 (b0 b1 b2 b3 b4 : Bool) (h : b0 = false) : mask b0 b1 b2 b3 b4 0 = mask b0 b1 b2 b3 b4 1 := by
  revert h; revert b0 b1 b2 b3 b4; decide
theorem mask_hit1 (b0 b1 b2 b3 b4 : Bool) (h : b1 = true) : bits .or .i64 ((mask b0 b1 b2 b3 b4 1 : Nat) : Int) 2 = ((mask b0 b1 b2 b3 b4 2 : Nat) : Int) := by
  revert h; revert b0 b1 b2 b3 b4; decide
theorem mask_miss1 (b0 b1 b2 b3 b4 : Bool) (h : b1 = false) : mask b0 b1 b2 b3 b4 1 = mask b0 b1 b2 b3 b4 2 := by
  revert h; revert b0 b1 b2 b3 b4; decide
theorem mask_hit2 (b0 b1 b2 b3 b4 : Bool) (h : b2 = true) : bits .or .i64 ((mask b0 b1 b2 b3 b4 2 : Nat) : Int) 4 = ((mask b0 b1 b2 b3 b4 3 : Nat) : Int) := by
  revert h; revert b0 b1 b2 b3 b4; decide
theorem mask_miss2 (b0 b1 b2 b3 b4 : Bool) (h : b2 = false) : mask b0 b1 b2 b3 b4 2 = mask b0 b1 b2 b3 b4 3 := by
  revert h; revert b0 b1 b2 b3 b4; decide
theorem mask_hit3 (b0 b1 b2 b3 b4 : Bool) (h : b3 = true) : bits .or .i64 ((mask b0 b1 b2 b3 b4 3 : Nat) : Int) 8 = ((mask b0 b1 b2 b3 b4 4 : Nat) : Int) := by
  revert h; revert b0 b1 b2 b3 b4; decide
theorem mask_miss3 (b0 b1 b2 b3 b4 : Bool) (h : b3 = false) : mask b0 b1 b2 b3 b4 3 = mask b0 b1 b2 b3 b4 4 := by
  revert h; revert b0 b1 b2 b3 b4; decide
theorem mask_hit4 (b0 b1 b2 b3 b4 : Bool) (h : b4 = true) : bits .or .i64 ((mask b0 b1 b2 b3 b4 4 : Nat) : Int) 16 = ((mask b0 b1 b2 b3 b4 5 : Nat) : Int) := by
  revert h; revert b0 b1 b2 b3 b4; decide
theorem mask_miss4 (b0 b1 b2 b3 b4 : Bool) (h : b4 = false) : mask b0 b1 b2 b3 b4 4 = mask b0 b1 b2 b3 b4 5 := by
  revert h; revert b0 b1 b2 b3 b4; decide

/-- The band, one step down. -/
def Band (a s : Nat → Int) (n i : Nat) (q0 q1 q2 q3 q4 : Int) : Prop := okAt (dist a s i) n i 0 q0 ∧ okAt (dist a s i) n i 1 q1 ∧ okAt (dist a s i) n i 2 q2 ∧ okAt (dist a s i) n i 3 q3 ∧ okAt (dist a s i) n i 4 q4

theorem band_start (a s : Nat → Int) (n : Nat) : Band a s n 0 3 3 0 1 2 := ⟨start0 a s n, start1 a s n, start2 a s n, start3 a s n, start4 a s n⟩
theorem band_next {a s : Nat → Int} {n i : Nat} {q0 q1 q2 q3 q4 : Int} (h : Band a s n i q0 q1 q2 q3 q4) (m : Int)
    (hm : m = (mask (hitB a s n i 0) (hitB a s n i 1) (hitB a s n i 2) (hitB a s n i 3) (hitB a s n i 4) 5 : Nat)) :
    Band a s n (i + 1) (n0 q0 q1 m) (n1 q0 q1 q2 m) (n2 q0 q1 q2 q3 m) (n3 q0 q1 q2 q3 q4 m) (n4 q0 q1 q2 q3 q4 m) := by
  subst hm
  obtain ⟨k0, k1, k2, k3, k4⟩ := h
  obtain ⟨c0, c1, c2, c3, c4⟩ := ch_mask (hitB a s n i 0) (hitB a s n i 1) (hitB a s n i 2) (hitB a s n i 3) (hitB a s n i 4)
  have g0 := next0 a s n i _ _ _ k0 k1 (cost_of c0)
  have g1 := nextMid a s n i k1 k2 g0 (cost_of c1)
  have g2 := nextMid a s n i k2 k3 g1 (cost_of c2)
  have g3 := nextMid a s n i k3 k4 g2 (cost_of c3)
  have g4 := next4 a s n i _ _ k4 g3 (cost_of c4)
  exact ⟨g0, g1, g2, g3, g4⟩
theorem band_bd {a s : Nat → Int} {n i : Nat} {q0 q1 q2 q3 q4 : Int} (h : Band a s n i q0 q1 q2 q3 q4) : (0 ≤ q0 ∧ q0 ≤ 254) ∧ (0 ≤ q1 ∧ q1 ≤ 254) ∧ (0 ≤ q2 ∧ q2 ≤ 254) ∧ (0 ≤ q3 ∧ q3 ≤ 254) ∧ (0 ≤ q4 ∧ q4 ≤ 254) := by
  obtain ⟨⟨_, _, _⟩, ⟨_, _, _⟩, ⟨_, _, _⟩, ⟨_, _, _⟩, ⟨_, _, _⟩⟩ := h
  omega
end Go.Proofs.Qxb6634873a

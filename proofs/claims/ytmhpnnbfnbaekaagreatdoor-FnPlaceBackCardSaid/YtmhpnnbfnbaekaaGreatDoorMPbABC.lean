/- Part of the proof of FnPlaceBack: numbers: exactness of a scaled product. No condition. -/

/- Scaling by a power of ten: the words of the kit's own proof. -/
namespace Pb

/-- A number with its fraction folded into the last bit. -/
def unr (w : Rat) : Nat := if (w.floor : Rat) = w then w.floor.toNat else w.floor.toNat ||| 1

/-- What uscale reckons. -/
def us (x hi lo s : Nat) : Nat :=
  let h := x * hi / 2 ^ 64
  let mid := x * hi % 2 ^ 64
  if h % 2 ^ s ≠ 0 then h / 2 ^ s ||| 1
  else
    let mid2 := x * lo / 2 ^ 64
    if mid < mid2 then (h - 1) / 2 ^ s ||| 1
    else if 1 < mid - mid2 then h / 2 ^ s ||| 1 else h / 2 ^ s

theorem unr_mid {w : Rat} {z : Nat} (h1 : (z : Rat) < w) (h2 : w < (z : Rat) + 1) : unr w = z ||| 1 := by
  have hf : w.floor = (z : Int) := by
    have a : (z : Int) ≤ w.floor := Rat.le_floor_iff.2 (by rw [Rat.intCast_natCast]; exact Rat.le_of_lt h1)
    have b : w.floor < (z : Int) + 1 := Rat.floor_lt_iff.2 (by
      rw [Rat.intCast_add, Rat.intCast_natCast]; exact h2)
    omega
  unfold unr
  rw [hf, Rat.intCast_natCast, if_neg (by intro e; rw [e] at h1; exact absurd h1 (by grind))]
  simp

theorem unr_eq {w : Rat} {z : Nat} (h : w = (z : Rat)) : unr w = z := by
  have hf : w.floor = (z : Int) := by rw [h, ← Rat.intCast_natCast, Rat.floor_intCast]
  unfold unr
  rw [hf, Rat.intCast_natCast, if_pos h.symm]
  simp

theorem mul_bound {x lo : Nat} (hx : x < 2 ^ 64) (hl : lo < 2 ^ 64) : x * lo + 2 ^ 65 ≤ 2 ^ 128 + 1 := by
  have h1 : x * lo ≤ (2 ^ 64 - 1) * (2 ^ 64 - 1) := Nat.mul_le_mul (by omega) (by omega)
  omega

theorem two_pow_split (m n : Nat) : (2 : Rat) ^ (m + n) = 2 ^ m * ((2 ^ n : Nat) : Rat) := by
  induction n with
  | zero => simp
  | succ n ih => rw [show m + (n + 1) = (m + n) + 1 from rfl, Rat.pow_succ, ih, Nat.pow_succ, Rat.natCast_mul]; grind

/-- The scaled number as it is reckoned, against the one that is meant. -/
theorem us_eq {x hi lo s : Nat} {t w : Rat} (hx0 : 0 < x) (hx : x < 2 ^ 64) (hhi : 2 ^ 63 ≤ hi) (hlo : lo < 2 ^ 64)
    (ht1 : (hi : Rat) * 2 ^ 64 - lo - 1 < t) (ht2 : t ≤ (hi : Rat) * 2 ^ 64 - lo)
    (hw : w * 2 ^ (128 + s) = x * t)
    (cond : ∀ z : Nat, ((x * hi * 2 ^ 64 - x * lo : Int) - z * 2 ^ (128 + s) ≤ 2 ^ 64) → -(2 ^ 64) ≤ ((x * hi * 2 ^ 64 - x * lo : Int) - z * 2 ^ (128 + s)) → (x : Rat) * t = z * 2 ^ (128 + s)) :
    us x hi lo s = unr w := by
  have hB := mul_bound hx hlo
  -- the words
  generalize hA : x * hi = A at *
  generalize hBB : x * lo = B at *
  have hS : 0 < 2 ^ s := Nat.two_pow_pos s
  generalize hSS : 2 ^ s = S at *
  have hN : (2 : Int) ^ (128 + s) = 2 ^ 128 * (S : Int) := by
    rw [Int.pow_add, ← hSS]; simp
  have hNR : (2 : Rat) ^ (128 + s) = 2 ^ 128 * (S : Rat) := by rw [← hSS]; exact two_pow_split 128 s
  have hxhi : ((x : Int) * hi) = (A : Int) := by rw [← hA]; simp
  have hxlo : ((x : Int) * lo) = (B : Int) := by rw [← hBB]; simp
  have hxhiR : ((x : Rat) * hi) = (A : Rat) := by rw [← hA, Rat.natCast_mul]
  have hxloR : ((x : Rat) * lo) = (B : Rat) := by rw [← hBB, Rat.natCast_mul]
  simp only [hxhi, hxlo, hN] at cond
  rw [hNR] at hw
  have hxR : (0 : Rat) < x := Rat.natCast_pos.2 hx0
  -- x * t lies in (X - x, X]
  have lo1 : (A : Rat) * 2 ^ 64 - B - x < x * t := by
    have := Rat.mul_lt_mul_of_pos_left ht1 hxR
    rw [← hxhiR, ← hxloR]; grind
  have up1 : (x : Rat) * t ≤ (A : Rat) * 2 ^ 64 - B := by
    have := Rat.mul_le_mul_of_nonneg_left ht2 (Rat.le_of_lt hxR)
    rw [← hxhiR, ← hxloR]; grind
  have hSR : (0 : Rat) < S := Rat.natCast_pos.2 hS
  have hNpos : (0 : Rat) < 2 ^ 128 * (S : Rat) := Rat.mul_pos (by decide) hSR
  -- a number between two multiples of N
  have between : ∀ P z : Nat, P = z * S → (P : Int) * 2 ^ 128 + x ≤ A * 2 ^ 64 - B → (A * 2 ^ 64 - B : Int) < (P + S) * 2 ^ 128 → unr w = z ||| 1 := by
    intro P z hP h1 h2
    have h1R : (P : Rat) * 2 ^ 128 + x ≤ A * 2 ^ 64 - B := by
      have := Rat.intCast_le_intCast.2 h1
      simp only [Rat.intCast_add, Rat.intCast_mul, Rat.intCast_sub, Rat.intCast_natCast, Rat.intCast_pow, Rat.intCast_ofNat] at this
      exact this
    have h2R : (A : Rat) * 2 ^ 64 - B < (P + S) * 2 ^ 128 := by
      have := Rat.intCast_lt_intCast.2 h2
      simp only [Rat.intCast_add, Rat.intCast_mul, Rat.intCast_sub, Rat.intCast_natCast, Rat.intCast_pow, Rat.intCast_ofNat] at this
      exact this
    have hPR : (P : Rat) = z * S := by rw [hP, Rat.natCast_mul]
    refine unr_mid ?_ ?_
    · refine Rat.lt_of_mul_lt_mul_right (c := 2 ^ 128 * (S : Rat)) ?_ (Rat.le_of_lt hNpos)
      rw [hw]; rw [hPR] at h1R; grind
    · refine Rat.lt_of_mul_lt_mul_right (c := 2 ^ 128 * (S : Rat)) ?_ (Rat.le_of_lt hNpos)
      rw [hw]; rw [hPR] at h2R; grind
  have exact_ : ∀ P z : Nat, P = z * S → (A * 2 ^ 64 - B : Int) - P * 2 ^ 128 ≤ 2 ^ 64 → -(2 ^ 64) ≤ (A * 2 ^ 64 - B : Int) - P * 2 ^ 128 → unr w = z := by
    intro P z hP h1 h2
    have hPz : (z : Int) * (2 ^ 128 * (S : Int)) = P * 2 ^ 128 := by
      rw [hP, Int.natCast_mul, Int.mul_assoc, Int.mul_comm (2 ^ 128) (S : Int)]
    have hc := cond z (by rw [hPz]; exact h1) (by rw [hPz]; exact h2)
    rw [hNR] at hc
    refine unr_eq ?_
    have : w * (2 ^ 128 * (S : Rat)) = z * (2 ^ 128 * (S : Rat)) := by rw [hw, hc]
    have h3 := congrArg (· / (2 ^ 128 * (S : Rat))) this
    rw [Rat.mul_div_cancel (by grind), Rat.mul_div_cancel (by grind)] at h3
    exact h3
  have hh1 : 1 < hi := by omega
  unfold us
  simp only [hA, hBB, hSS]
  have hdm := Nat.div_add_mod (A / 2 ^ 64) S
  have hrem := Nat.mod_lt (A / 2 ^ 64) hS
  generalize hq : A / 2 ^ 64 / S = q at *
  generalize hrr : A / 2 ^ 64 % S = rem at *
  have hqS : S * q = q * S := Nat.mul_comm _ _
  generalize hP : q * S = P at *
  rw [hqS] at hdm
  have hA' : A = (A / 2 ^ 64) * 2 ^ 64 + A % 2 ^ 64 := by omega
  have hm := Nat.mod_lt A (show 0 < 2 ^ 64 by decide)
  have hB' : B = (B / 2 ^ 64) * 2 ^ 64 + B % 2 ^ 64 := by omega
  have hmB := Nat.mod_lt B (show 0 < 2 ^ 64 by decide)
  generalize A / 2 ^ 64 = h at *
  generalize A % 2 ^ 64 = mid at *
  generalize B / 2 ^ 64 = mid2 at *
  generalize B % 2 ^ 64 = r at *
  by_cases hr0 : rem ≠ 0
  · rw [if_pos hr0]
    exact (between P q hP.symm (by omega) (by omega)).symm
  · rw [if_neg hr0]
    by_cases hmm : mid < mid2
    · rw [if_pos hmm]
      -- h is not nought
      have hh : 0 < h := by
        rcases Nat.eq_zero_or_pos h with h0 | h0
        · exfalso
          have : x * hi < 2 ^ 64 := by omega
          have h2 : x * 2 ^ 63 ≤ x * hi := Nat.mul_le_mul_left _ hhi
          have : x ≤ 1 := by omega
          have : x = 1 := by omega
          subst this
          omega
        · exact h0
      have hPh : P = h := by omega
      -- (h - 1) / S = q - 1
      have hq1 : 0 < q := by
        rcases Nat.eq_zero_or_pos q with h0 | h0
        · rw [h0] at hP; omega
        · exact h0
      obtain ⟨q', rfl⟩ : ∃ k, q = k + 1 := ⟨q - 1, by omega⟩
      have hPq : q' * S + S = P := by rw [← hP, Nat.add_mul, Nat.one_mul]
      have hd : (h - 1) / S = q' := by
        have : h - 1 = (S - 1) + q' * S := by omega
        rw [this, Nat.add_mul_div_right _ _ hS, Nat.div_eq_of_lt (by omega)]; omega
      rw [hd]
      generalize hP' : q' * S = P' at *
      exact (between P' q' hP'.symm (by omega) (by omega)).symm
    · rw [if_neg hmm]
      by_cases h1 : 1 < mid - mid2
      · rw [if_pos h1]
        exact (between P q hP.symm (by omega) (by omega)).symm
      · rw [if_neg h1]
        exact (exact_ P q hP.symm (by omega) (by omega)).symm

/-- Two neighbouring lattice vectors keep all others away from nought. -/
theorem lattice {a N q1 p1 q2 p2 e1 e2 y z : Int} (det : q1 * p2 - q2 * p1 = 1) (h1 : e1 = q1 * a - p1 * N) (h2 : e2 = p2 * N - q2 * a)
    (g1 : 0 ≤ q1) (g2 : 0 ≤ q2) (y0 : 0 < y) (y1 : y < q1 + q2) :
    ∃ i j : Int, y = i * q1 + j * q2 ∧ z = i * p1 + j * p2 ∧ y * a - z * N = i * e1 - j * e2 ∧ (0 < i → j ≤ 0) ∧ (i < 0 → 0 < j) ∧ (i = 0 → 0 < j) := by
  refine ⟨y * p2 - z * q2, q1 * z - p1 * y, ?_, ?_, ?_, ?_, ?_, ?_⟩
  · grind
  · grind
  · grind
  all_goals
    have hy : y = (y * p2 - z * q2) * q1 + (q1 * z - p1 * y) * q2 := by grind
    generalize y * p2 - z * q2 = i at *
    generalize q1 * z - p1 * y = j at *
    intro hi
  · rcases Int.lt_or_le 0 j with hj | hj
    · exfalso
      have a1 : 1 * q1 ≤ i * q1 := Int.mul_le_mul_of_nonneg_right (by omega) g1
      have a2 : 1 * q2 ≤ j * q2 := Int.mul_le_mul_of_nonneg_right (by omega) g2
      omega
    · exact hj
  · rcases Int.lt_or_le 0 j with hj | hj
    · exact hj
    · exfalso
      have a1 : i * q1 ≤ 0 * q1 := Int.mul_le_mul_of_nonneg_right (by omega) g1
      have a2 : j * q2 ≤ 0 * q2 := Int.mul_le_mul_of_nonneg_right (by omega) g2
      omega
  · rcases Int.lt_or_le 0 j with hj | hj
    · exact hj
    · exfalso
      have a2 : j * q2 ≤ 0 * q2 := Int.mul_le_mul_of_nonneg_right (by omega) g2
      subst hi
      omega

end Pb
/- The powers of ten as the library's table has them, and the certificates that no multiple in range comes near a whole one. -/
namespace Pb

def lp (p : Int) : Int := p * 108853 / 32768
def cdiv (a b : Nat) : Nat := (a + b - 1) / b
/-- The 128 digits of a power of ten. -/
def tab (p : Int) : Nat :=
  if 0 ≤ p then cdiv (10 ^ p.toNat * 2 ^ 127) (2 ^ (lp p).toNat) else cdiv (2 ^ (127 + (-lp p).toNat)) (10 ^ (-p).toNat)
def tabHi (p : Int) : Nat := cdiv (tab p) (2 ^ 64)
def tabLo (p : Int) : Nat := tabHi p * 2 ^ 64 - tab p

def euc (Y : Nat) : Nat → Nat → Nat → Nat → Nat → Nat → Nat → Nat × Nat × Nat × Nat × Nat × Nat
  | 0, q1, p1, e1, q2, p2, e2 => (q1, p1, e1, q2, p2, e2)
  | f + 1, q1, p1, e1, q2, p2, e2 =>
    if Y ≤ q1 + q2 then (q1, p1, e1, q2, p2, e2)
    else if e2 ≤ e1 then
      let kY := cdiv (Y - q1 - q2) q2
      let k := if e2 = 0 then kY else if q2 = 0 then e1 / e2 else min (e1 / e2) kY
      euc Y f (q1 + k * q2) (p1 + k * p2) (e1 - k * e2) q2 p2 e2
    else
      let kY := cdiv (Y - q1 - q2) q1
      let k := if e1 = 0 then kY else min (e2 / e1) kY
      euc Y f q1 p1 e1 (q2 + k * q1) (p2 + k * p1) (e2 - k * e1)

def exactB (p : Int) (c0 N q p' : Nat) : Bool :=
  if 0 ≤ p then q * c0 * 10 ^ p.toNat * 2 ^ 127 == p' * N * 2 ^ (lp p).toNat
  else q * c0 * 2 ^ (127 + (-lp p).toNat) == p' * N * 10 ^ (-p).toNat

def cert (p : Int) (c0 N Y L : Nat) : Bool :=
  let a := c0 * tab p
  let r := euc Y 100 1 (a / N) (a % N) 0 1 N
  let q1 := r.1; let p1 := r.2.1; let e1 := r.2.2.1; let q2 := r.2.2.2.1; let p2 := r.2.2.2.2.1; let e2 := r.2.2.2.2.2
  decide (Y ≤ q1 + q2) && (q1 * p2 == q2 * p1 + 1) && (q1 * a == p1 * N + e1) && (q2 * a + e2 == p2 * N) &&
    (decide (L < e1) && (decide (L < e2) || exactB p c0 N q2 p2) || decide (L < e2) && exactB p c0 N q1 p1)

/-- The power of ten that the table stands for. -/
def tau (p : Int) : Rat := 10 ^ p * 2 ^ (127 - lp p)

/-- No multiple below Y comes nearer than L to a multiple of N, but those that are one. -/
def Far (T N Y L : Nat) (t : Rat) : Prop :=
  ∀ y z : Nat, 0 < y → y < Y → ((y * T : Int) - z * N ≤ L) → -(L : Int) ≤ (y * T : Int) - z * N → (y : Rat) * t = z * N

theorem zpow_toNat {b : Rat} {n : Int} (h : 0 ≤ n) : b ^ n = b ^ n.toNat := by
  rw [← Rat.zpow_natCast, Int.toNat_of_nonneg h]

theorem ten_ne : (10 : Rat) ≠ 0 := by decide
theorem two_ne : (2 : Rat) ≠ 0 := by decide

theorem inv_mul {a : Rat} (h : a ≠ 0) : a⁻¹ * a = 1 := Rat.inv_mul_cancel a h

theorem cast_eq {a b : Nat} (h : a = b) : (a : Rat) = (b : Rat) := by rw [h]

theorem pow_split_neg {l : Int} (h : l ≤ 0) : (2 : Rat) ^ (127 - l) = 2 ^ (127 + (-l).toNat) := by
  rw [← Rat.zpow_natCast]
  congr 1
  omega

theorem lp_nonneg {p : Int} (h : 0 ≤ p) : 0 ≤ lp p := by unfold lp; omega
theorem lp_neg {p : Int} (h : p < 0) : lp p < 0 := by unfold lp; omega

theorem two_zpow_sub {l : Int} (h : 0 ≤ l) : (2 : Rat) ^ (127 - l) * 2 ^ l.toNat = 2 ^ 127 := by
  rw [← zpow_toNat h, ← Rat.zpow_add two_ne]
  rw [show 127 - l + l = 127 from by omega]
  rfl

theorem ten_zpow_neg {p : Int} (h : p < 0) : (10 : Rat) ^ p * 10 ^ (-p).toNat = 1 := by
  rw [← zpow_toNat (by omega), ← Rat.zpow_add ten_ne, show p + -p = 0 from by omega, Rat.zpow_zero]

theorem two_pos (n : Nat) : (0 : Rat) < 2 ^ n := Rat.pow_pos (by decide)
theorem ten_pos (n : Nat) : (0 : Rat) < 10 ^ n := Rat.pow_pos (by decide)

theorem mul_right_cancel {a b c : Rat} (hc : c ≠ 0) (h : a * c = b * c) : a = b := by
  have h3 := congrArg (· / c) h
  rw [Rat.mul_div_cancel hc, Rat.mul_div_cancel hc] at h3
  exact h3

theorem cast_pow10 (n : Nat) : ((10 ^ n : Nat) : Rat) = 10 ^ n := by rw [Rat.natCast_pow]; rfl
theorem cast_pow2 (n : Nat) : ((2 ^ n : Nat) : Rat) = 2 ^ n := by rw [Rat.natCast_pow]; rfl

theorem exact_of {p : Int} {c0 N q p' : Nat} (h : exactB p c0 N q p' = true) : (q : Rat) * (c0 * tau p) = p' * N := by
  unfold exactB at h
  unfold tau
  by_cases hp : 0 ≤ p
  · rw [if_pos hp, beq_iff_eq] at h
    have h := cast_eq h
    simp only [Rat.natCast_mul, cast_pow10, cast_pow2] at h
    have hl := lp_nonneg hp
    have h2 := two_zpow_sub hl
    rw [zpow_toNat hp]
    refine mul_right_cancel (c := 2 ^ (lp p).toNat) (by have := two_pos (lp p).toNat; grind) ?_
    rw [← h]
    have : (q : Rat) * (c0 * (10 ^ p.toNat * 2 ^ (127 - lp p))) * 2 ^ (lp p).toNat = q * c0 * 10 ^ p.toNat * (2 ^ (127 - lp p) * 2 ^ (lp p).toNat) := by grind
    rw [this, h2]
  · rw [if_neg hp, beq_iff_eq] at h
    have h := cast_eq h
    simp only [Rat.natCast_mul, cast_pow10, cast_pow2] at h
    have hl := lp_neg (show p < 0 by omega)
    have h2 := ten_zpow_neg (show p < 0 by omega)
    rw [pow_split_neg (by omega)]
    refine mul_right_cancel (c := 10 ^ (-p).toNat) (by have := ten_pos (-p).toNat; grind) ?_
    rw [← h]
    have : (q : Rat) * (c0 * (10 ^ p * 2 ^ (127 + (-lp p).toNat))) * 10 ^ (-p).toNat = q * c0 * 2 ^ (127 + (-lp p).toNat) * (10 ^ p * 10 ^ (-p).toNat) := by grind
    rw [this, h2]
    grind

theorem far_of_cert {p : Int} {c0 N Y L : Nat} (h : cert p c0 N Y L = true) : Far (c0 * tab p) N Y L (c0 * tau p) := by
  unfold cert at h
  dsimp only at h
  generalize euc Y 100 1 (c0 * tab p / N) (c0 * tab p % N) 0 1 N = r at h
  obtain ⟨q1, p1, e1, q2, p2, e2⟩ := r
  simp only [Bool.and_eq_true, Bool.or_eq_true, decide_eq_true_eq, beq_iff_eq] at h
  obtain ⟨⟨⟨⟨hY, hdet⟩, h1⟩, h2⟩, hL⟩ := h
  intro y z hy0 hy1 ha hb
  generalize c0 * tab p = a at *
  obtain ⟨i, j, hyi, hzi, hd, hp, hn, hz⟩ := lattice (a := a) (N := N) (q1 := q1) (p1 := p1) (q2 := q2) (p2 := p2) (e1 := e1) (e2 := e2) (y := y) (z := z)
    (by have := congrArg (Nat.cast (R := Int)) hdet; simp only [Int.natCast_mul, Int.natCast_add] at this; omega)
    (by have := congrArg (Nat.cast (R := Int)) h1; simp only [Int.natCast_mul, Int.natCast_add] at this; omega)
    (by have := congrArg (Nat.cast (R := Int)) h2; simp only [Int.natCast_mul, Int.natCast_add] at this; omega)
    (by omega) (by omega) (by omega) (by omega)
  rw [hd] at ha hb
  have fin : ∀ (q p' : Nat) (k : Int), (y : Int) = k * q → (z : Int) = k * p' → exactB p c0 N q p' = true → (y : Rat) * (c0 * tau p) = z * N := by
    intro q p' k e1 e2 e3
    have e3 := exact_of e3
    have e1 := congrArg (Int.cast (R := Rat)) e1
    have e2 := congrArg (Int.cast (R := Rat)) e2
    simp only [Rat.intCast_mul, Rat.intCast_natCast] at e1 e2
    rw [e1, e2]
    grind
  have mulge : ∀ (i : Int) (e : Nat), 0 < i → (e : Int) ≤ i * e := by
    intro i e hi
    have := Int.mul_le_mul_of_nonneg_right (show 1 ≤ i by omega) (show (0 : Int) ≤ e by omega)
    omega
  have mulle : ∀ (i : Int) (e : Nat), i ≤ 0 → i * e ≤ 0 := by
    intro i e hi
    have := Int.mul_le_mul_of_nonneg_right (show i ≤ 0 by omega) (show (0 : Int) ≤ e by omega)
    omega
  have mulneg : ∀ (i : Int) (e : Nat), i < 0 → i * e ≤ -(e : Int) := by
    intro i e hi
    have := Int.mul_le_mul_of_nonneg_right (show i ≤ -1 by omega) (show (0 : Int) ≤ e by omega)
    omega
  rcases Int.lt_trichotomy i 0 with hi | hi | hi
  · exfalso
    have hj := hn hi
    have a1 := mulneg i e1 hi
    have a2 := mulge j e2 hj
    rcases hL with ⟨l1, _⟩ | ⟨l2, _⟩ <;> omega
  · have hj := hz hi
    subst hi
    have a2 := mulge j e2 hj
    rcases hL with ⟨l1, l2 | l2⟩ | ⟨l2, _⟩
    · exfalso; omega
    · exact fin q2 p2 j (by omega) (by omega) l2
    · exfalso; omega
  · have hj := hp hi
    have a1 := mulge i e1 hi
    have a2 := mulle j e2 hj
    rcases hL with ⟨l1, _⟩ | ⟨l2, l3⟩
    · exfalso; omega
    · rcases Int.lt_or_eq_of_le hj with hj' | hj'
      · exfalso
        have a3 := mulneg j e2 hj'
        omega
      · subst hj'
        exact fin q1 p1 i (by omega) (by omega) l3

/-- The exponents at which a power of ten is laid for writing. -/
def fp (q : Int) : Int := -(q * 78913 / 262144)
def sp (q : Int) : Int := -((q * 631305 - 261663) / 2097152)

def certsF (n : Nat) : Bool := (List.range n).all fun i =>
  let q : Int := (i : Int) - 1074
  let k := q + lp (fp q) + 3
  decide (3 ≤ k) && decide (k ≤ 6) && cert (fp q) 1 (2 ^ (129 - k.toNat)) (2 ^ 54) (2 ^ 54)
def certsS (n : Nat) : Bool := (List.range n).all fun i =>
  let q : Int := (i : Int) - 1074
  let k := q + lp (sp q) + 3
  decide (2 ≤ k) && decide (k ≤ 6) && cert (sp q) 1 (2 ^ (130 - k.toNat)) (2 ^ 54 + 3) (2 ^ 55)
def certsA (n : Nat) : Bool := (List.range n).all fun i =>
  let p : Int := (i : Int) - 345
  cert p 1 (2 ^ 129) (2 ^ 57) (2 ^ 57)
def certsB (n : Nat) : Bool := (List.range n).all fun i =>
  let p : Int := (i : Int) - 345
  cert p 100 (2 ^ 136) (2 ^ 64 / 100 + 1) (2 ^ 64)
def tabOk (n : Nat) : Bool := (List.range n).all fun i =>
  let p : Int := (i : Int) - 348
  decide (2 ^ 127 ≤ tab p) && decide (tab p < 2 ^ 128) && decide (2 ^ 63 ≤ tabHi p) && decide (tabHi p < 2 ^ 64) && decide (tabLo p < 2 ^ 64) &&
    decide (tab p ≤ tabHi p * 2 ^ 64)

end Pb
/- The certificates hold: reckoned by the kernel. -/
namespace Pb
theorem certsF_ok : certsF 2046 = true := by decide +kernel
theorem certsS_ok : certsS 2046 = true := by decide +kernel
theorem certsA_ok : certsA 656 = true := by decide +kernel
theorem certsB_ok : certsB 656 = true := by decide +kernel
theorem tabOk_ok : tabOk 696 = true := by decide +kernel
end Pb

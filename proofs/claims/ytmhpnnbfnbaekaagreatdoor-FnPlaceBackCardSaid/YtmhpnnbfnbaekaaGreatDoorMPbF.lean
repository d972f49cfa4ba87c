/- Part of the proof of FnPlaceBack: numbers: the shortest digits of a float, and reading them back. No condition. -/
import Derived.Test.YtmhpnnbfnbaekaaGreatDoorMPbE
/- What is read back from digits and an exponent. -/
namespace Pb

def tabGap (n : Nat) : Bool := (List.range n).all fun i =>
  let p : Int := (i : Int) - 348
  decide (tab p + 2 ^ 75 ≤ 2 ^ 128) && (decide (2 ^ 127 < tab p) || decide (p = 0))
theorem tabGap_ok : tabGap 696 = true := by decide +kernel

theorem ten_bounds {p : Int} (h1 : -348 ≤ p) (h2 : p ≤ 347) :
    (2 : Rat) ^ (lp p) ≤ 10 ^ p ∧ (10 : Rat) ^ p * 2 ^ 53 ≤ (2 ^ 53 - 1) * 2 ^ (lp p + 1) := by
  have h := tabGap_ok
  unfold tabGap at h
  rw [List.all_eq_true] at h
  have h := h (p + 348).toNat (by simp; omega)
  rw [show ((p + 348).toNat : Int) - 348 = p from by omega] at h
  simp only [Bool.and_eq_true, Bool.or_eq_true, decide_eq_true_eq] at h
  obtain ⟨g1, g2⟩ := h
  obtain ⟨u1, u2⟩ := tab_tau p
  have g1 := cast_le g1
  rw [Rat.natCast_add, cast_pow2, cast_pow2] at g1
  have hl : (0 : Rat) < 2 ^ (lp p) := Rat.zpow_pos (by decide)
  have e1 : tau p * 2 ^ (lp p) = 10 ^ p * 2 ^ 127 := by
    unfold tau
    rw [Rat.mul_assoc, ← Rat.zpow_add two_ne, show 127 - lp p + lp p = (127 : Nat) from by omega, Rat.zpow_natCast]
  have e2 : (2 : Rat) ^ (lp p + 1) = 2 ^ (lp p) * 2 := Rat.zpow_add_one two_ne _
  constructor
  · rcases g2 with g2 | g2
    · have g2 := cast_le (show 2 ^ 127 + 1 ≤ tab p by omega)
      rw [Rat.natCast_add, cast_pow2] at g2
      have c1 : ((1 : Nat) : Rat) = 1 := rfl
      have : (2 : Rat) ^ 127 * 2 ^ (lp p) ≤ tau p * 2 ^ (lp p) := Rat.mul_le_mul_of_nonneg_right (by grind) (Rat.le_of_lt hl)
      rw [e1] at this
      exact Rat.le_of_mul_le_mul_right (c := 2 ^ 127) (by grind) (by decide)
    · subst g2
      have : lp 0 = 0 := by decide
      rw [this, Rat.zpow_zero, Rat.zpow_zero]; grind
  · have : tau p * 2 ^ (lp p) ≤ (2 ^ 128 - 2 ^ 75) * 2 ^ (lp p) := Rat.mul_le_mul_of_nonneg_right (by grind) (Rat.le_of_lt hl)
    rw [e1] at this
    rw [e2]
    exact Rat.le_of_mul_le_mul_right (c := 2 ^ 74) (by grind) (by decide)

theorem unr_half {w : Rat} (hw : 0 ≤ w) : unr w / 2 ||| unr w % 2 = unr (w / 2) := by
  have hf := Rat.floor_le w
  have hg := Rat.lt_floor_add_one w
  have hf0 : 0 ≤ w.floor := Rat.le_floor_iff.2 hw
  have hw2 := hw
  by_cases hi : (w.floor : Rat) = w
  · have hu : unr w = w.floor.toNat := by unfold unr; rw [if_pos hi]
    rw [hu]
    generalize hF : w.floor = F at *
    obtain ⟨n, rfl⟩ : ∃ n : Nat, F = n := ⟨F.toNat, by omega⟩
    simp only [Int.toNat_natCast, Rat.intCast_natCast] at *
    rcases Nat.mod_two_eq_zero_or_one n with h | h
    · obtain ⟨k, rfl⟩ : ∃ k, n = 2 * k := ⟨n / 2, by omega⟩
      rw [h, unr_eq (z := k) (by
        rw [← hi, Rat.natCast_mul]
        have e2 : ((2 : Nat) : Rat) = 2 := rfl
        grind)]
      simp
    · obtain ⟨k, rfl⟩ : ∃ k, n = 2 * k + 1 := ⟨n / 2, by omega⟩
      have e2 : ((2 : Nat) : Rat) = 2 := rfl
      have e1 : ((1 : Nat) : Rat) = 1 := rfl
      rw [Rat.natCast_add, Rat.natCast_mul] at hi
      rw [h, unr_mid (z := k) (by grind) (by grind)]
      congr 1
      omega
  · have hlt : (w.floor : Rat) < w := Rat.lt_of_le_of_ne hf hi
    generalize hF : w.floor = F at *
    obtain ⟨n, rfl⟩ : ∃ n : Nat, F = n := ⟨F.toNat, by omega⟩
    rw [Rat.intCast_natCast] at hlt
    rw [Rat.intCast_add, Rat.intCast_natCast] at hg
    have hg : w < (n : Rat) + 1 := hg
    rw [unr_mid hlt hg]
    have e2 : ((2 : Nat) : Rat) = 2 := rfl
    have e1 : ((1 : Nat) : Rat) = 1 := rfl
    rcases Nat.mod_two_eq_zero_or_one n with h | h
    · obtain ⟨k, rfl⟩ : ∃ k, n = 2 * k := ⟨n / 2, by omega⟩
      rw [Rat.natCast_mul] at hlt hg
      rw [unr_mid (z := k) (by grind) (by grind), or_one, if_pos h]
      have a1 : (2 * k + 1) / 2 = k := by omega
      have a2 : (2 * k + 1) % 2 = 1 := by omega
      rw [a1, a2]
    · obtain ⟨k, rfl⟩ : ∃ k, n = 2 * k + 1 := ⟨n / 2, by omega⟩
      rw [Rat.natCast_add, Rat.natCast_mul] at hlt hg
      rw [unr_mid (z := k) (by grind) (by grind), or_one, if_neg (by omega)]
      have a1 : (2 * k + 1) / 2 = k := by omega
      have a2 : (2 * k + 1) % 2 = 1 := by omega
      rw [a1, a2]

/-- Nearest, halves to even. -/
theorem rnd_eq {c : Rat} {m : Nat} (hc : 0 ≤ c) (h1 : (m : Rat) - 1 / 2 ≤ c) (h2 : c ≤ m + 1 / 2) (h3 : m % 2 = 1 → (m : Rat) - 1 / 2 < c ∧ c < m + 1 / 2) :
    rnd (unr (4 * c)) = m := by
  generalize hu : unr (4 * c) = u
  have k1 : ∀ k, u ≤ 2 * k ↔ 4 * c ≤ ((2 * k : Nat) : Rat) := fun k => hu ▸ unr_le (by grind) k
  have k2 : ∀ k, 2 * k ≤ u ↔ ((2 * k : Nat) : Rat) ≤ 4 * c := fun k => hu ▸ le_unr (by grind) k
  have e2 : ((2 : Nat) : Rat) = 2 := rfl
  have e1 : ((1 : Nat) : Rat) = 1 := rfl
  have a1 : u ≤ 2 * (2 * m + 1) := by rw [k1, Rat.natCast_mul, Rat.natCast_add, Rat.natCast_mul]; grind
  have a2 : 4 * m ≤ u + 2 := by
    rcases Nat.eq_zero_or_pos m with h0 | h0
    · omega
    · obtain ⟨n, rfl⟩ : ∃ n, m = n + 1 := ⟨m - 1, by omega⟩
      have : 2 * (2 * n + 1) ≤ u := by
        rw [k2, Rat.natCast_mul, Rat.natCast_add, Rat.natCast_mul]
        rw [Rat.natCast_add] at h1
        grind
      omega
  unfold rnd
  rcases Nat.mod_two_eq_zero_or_one m with h | h
  · by_cases hx : u < 4 * m
    · have : u / 4 % 2 = 1 := by omega
      omega
    · have : u / 4 = m := by omega
      omega
  · obtain ⟨s1, s2⟩ := h3 h
    have b1 : ¬ 2 * (2 * m + 1) ≤ u := by
      rw [k2, Rat.natCast_mul, Rat.natCast_add, Rat.natCast_mul]
      grind
    have b2 : 4 * m < u + 2 := by
      obtain ⟨n, rfl⟩ : ∃ n, m = n + 1 := ⟨m - 1, by omega⟩
      have : ¬ u ≤ 2 * (2 * n + 1) := by
        rw [k1, Rat.natCast_mul, Rat.natCast_add, Rat.natCast_mul]
        rw [Rat.natCast_add] at s1
        grind
      omega
    by_cases hx : u < 4 * m
    · have : u / 4 % 2 = 0 := by omega
      omega
    · have : u / 4 = m := by omega
      omega

theorem us_zero {x sh : Nat} (hx0 : 0 < x) (hx64 : x < 2 ^ 64) {w : Rat} (hw : w * 2 ^ (128 + sh) = x * tau 0) : us x (tabHi 0) (tabLo 0) sh = unr w := by
  have t1 : tau 0 = 170141183460469231731687303715884105728 := by decide +kernel
  have h1 : tabHi 0 = 9223372036854775808 := by decide +kernel
  have h2 : tabLo 0 = 0 := by decide +kernel
  rw [h1, h2]
  rw [t1] at hw
  refine us_eq hx0 hx64 (by decide) (by decide) (by decide +kernel) (by decide +kernel) hw ?_
  intro z a b
  have e : (2 : Int) ^ (128 + sh) = 340282366920938463463374607431768211456 * 2 ^ sh := by
    rw [Int.pow_add]; rfl
  rw [e] at a b
  have hz : (x : Int) = z * (2 * 2 ^ sh) := by
    generalize (2 : Int) ^ sh = S at *
    have e2 : (z : Int) * (340282366920938463463374607431768211456 * S) = 170141183460469231731687303715884105728 * (z * (2 * S)) := by grind
    rw [e2] at a b
    generalize (z : Int) * (2 * S) = Y at *
    have e3 : ((9223372036854775808 : Nat) : Int) = 9223372036854775808 := rfl
    have e4 : ((0 : Nat) : Int) = 0 := rfl
    rw [e3, e4] at a b
    omega
  have hzn : x = z * (2 * 2 ^ sh) := by
    have : (x : Int) = ((z * (2 * 2 ^ sh) : Nat) : Int) := by
      rw [hz]
      simp only [Int.natCast_mul, Int.natCast_pow]
      rfl
    exact Int.ofNat.inj this
  rw [hzn, Rat.natCast_mul, Rat.natCast_mul, cast_pow2, two_pow_split]
  have e5 : ((2 : Nat) : Rat) = 2 := rfl
  have e6 : (2 : Rat) ^ 128 = 340282366920938463463374607431768211456 := by decide +kernel
  rw [e5]
  first
    | (rw [e6]; grind)
    | (rw [← cast_pow2 128, ← cast_pow2 sh] at *; grind)
/-- The mantissa and the exponent that are read (b: how many binary digits d has). -/
def parseM (d : Nat) (p : Int) (b : Nat) : Nat × Int :=
  let e := min 1074 (53 - (b : Int) - lp p)
  let u := us (d * 2 ^ (64 - b)) (tabHi p) (tabLo p) (-(e - (64 - (b : Int)) + lp p + 3)).toNat
  if 2 ^ 55 - 2 ≤ u then (rnd (u / 2 ||| u % 2), 1 - e) else (rnd u, -e)

theorem parse_ok {m : Nat} {q : Int} {d : Nat} {p : Int} {b : Nat} (h : Fits m q) (hd : 0 < d) (hb1 : 2 ^ (b - 1) ≤ d) (hb2 : d < 2 ^ b) (hb3 : 1 ≤ b) (hb4 : b ≤ 64)
    (hp1 : -345 ≤ p) (hp2 : p ≤ 310) (hc : d < 10 ^ 17 ∨ 100 ∣ d ∨ p = 0) (hw : Within m q (d * 10 ^ p)) :
    parseM d p b = (m, q) ∧ 8 ≤ -(min 1074 (53 - (b : Int) - lp p) - (64 - (b : Int)) + lp p + 3) ∧ -(min 1074 (53 - (b : Int) - lp p) - (64 - (b : Int)) + lp p + 3) < 64 := by
  obtain ⟨m0, m1, q0, q1, hn⟩ := h
  obtain ⟨w1, w2, w3⟩ := hw
  obtain ⟨t1, t2⟩ := ten_bounds (p := p) (by omega) (by omega)
  have c1 : ((1 : Nat) : Rat) = 1 := rfl
  have hlpos : (0 : Rat) < 2 ^ (lp p) := Rat.zpow_pos (by decide)
  have h10 : (0 : Rat) < 10 ^ p := Rat.zpow_pos (by decide)
  have hdR : (0 : Rat) < d := Rat.natCast_pos.2 hd
  -- V lies between 2 ^ (b - 1 + lp) and 2 ^ (b + lp + 1)
  have v1 : (2 : Rat) ^ ((b : Int) - 1 + lp p) ≤ d * 10 ^ p := by
    have hb := cast_le hb1
    rw [cast_pow2] at hb
    have e : (2 : Rat) ^ ((b : Int) - 1 + lp p) = 2 ^ (b - 1) * 2 ^ (lp p) := by
      rw [Rat.zpow_add two_ne, ← Rat.zpow_natCast]; congr 2; omega
    rw [e]
    have a1 : (2 : Rat) ^ (b - 1) * 2 ^ (lp p) ≤ d * 2 ^ (lp p) := Rat.mul_le_mul_of_nonneg_right hb (Rat.le_of_lt hlpos)
    have a2 : (d : Rat) * 2 ^ (lp p) ≤ d * 10 ^ p := Rat.mul_le_mul_of_nonneg_left t1 (Rat.le_of_lt hdR)
    exact Rat.le_trans a1 a2
  have v2 : (d : Rat) * 10 ^ p * 2 ^ 53 ≤ (2 ^ 53 - 1) * 2 ^ ((b : Int) + lp p + 1) := by
    have hb := cast_lt hb2
    rw [cast_pow2] at hb
    have e : (2 : Rat) ^ ((b : Int) + lp p + 1) = 2 ^ b * 2 ^ (lp p + 1) := by
      rw [Int.add_assoc, Rat.zpow_add two_ne, Rat.zpow_natCast]
    rw [e]
    have hl1 : (0 : Rat) < 2 ^ (lp p + 1) := Rat.zpow_pos (by decide)
    have a1 : (d : Rat) * (10 ^ p * 2 ^ 53) ≤ d * ((2 ^ 53 - 1) * 2 ^ (lp p + 1)) := Rat.mul_le_mul_of_nonneg_left t2 (Rat.le_of_lt hdR)
    have a2 : (d : Rat) * ((2 ^ 53 - 1) * 2 ^ (lp p + 1)) ≤ 2 ^ b * ((2 ^ 53 - 1) * 2 ^ (lp p + 1)) :=
      Rat.mul_le_mul_of_nonneg_right (Rat.le_of_lt hb) (Rat.le_of_lt (Rat.mul_pos (by decide +kernel) hl1))
    grind
  generalize hV : (d : Rat) * 10 ^ p = V at *
  generalize he : min 1074 (53 - (b : Int) - lp p) = e
  have he1 : e ≤ 1074 := by omega
  have he2 : e ≤ 53 - (b : Int) - lp p := by omega
  have he3 : e = 1074 ∨ e = 53 - (b : Int) - lp p := by omega
  -- what is scaled
  have hpos : ∀ k : Int, (0 : Rat) < 2 ^ k := fun k => Rat.zpow_pos (by decide)
  have m0R : (1 : Rat) ≤ m := by have := cast_le (show 1 ≤ m by omega); rwa [c1] at this
  have m1R : (m : Rat) + 1 ≤ 2 ^ 53 := by
    have := cast_le (show m + 1 ≤ 2 ^ 53 by omega)
    rw [Rat.natCast_add, cast_pow2] at this
    exact this
  have V0 : 0 < V := by rw [← hV]; exact Rat.mul_pos hdR h10
  -- V * 2 ^ -q lies about m
  have n1 : (m : Rat) - 1 / 2 ≤ V * 2 ^ (-q) ∧ V * 2 ^ (-q) ≤ m + 1 / 2 ∧ (m % 2 = 1 → (m : Rat) - 1 / 2 < V * 2 ^ (-q) ∧ V * 2 ^ (-q) < m + 1 / 2) ∧ (skew m q = true → (m : Rat) - 1 / 4 ≤ V * 2 ^ (-q)) := by
    have e1 : (2 : Rat) ^ (q - 1) * 2 ^ (-q) = 1 / 2 := by
      rw [← Rat.zpow_add two_ne, show q - 1 + -q = -1 from by omega]; decide +kernel
    have e2 : (2 : Rat) ^ (q - 2) * 2 ^ (-q) = 1 / 4 := by
      rw [← Rat.zpow_add two_ne, show q - 2 + -q = -2 from by omega]; decide +kernel
    have hq := hpos (-q)
    have up1 : V * 2 ^ (-q) ≤ m + 1 / 2 := by
      have := Rat.mul_le_mul_of_nonneg_right w2 (Rat.le_of_lt hq)
      unfold up at this
      rw [Rat.mul_assoc, e1] at this; grind
    have upS : m % 2 = 1 → V * 2 ^ (-q) < m + 1 / 2 := by
      intro ho
      have := Rat.mul_lt_mul_of_pos_right (w3 ho).2 hq
      unfold up at this
      rw [Rat.mul_assoc, e1] at this; grind
    by_cases hs : skew m q = true
    · have lo1 : (m : Rat) - 1 / 4 ≤ V * 2 ^ (-q) := by
        have := Rat.mul_le_mul_of_nonneg_right w1 (Rat.le_of_lt hq)
        unfold low at this
        rw [if_pos hs, Rat.mul_assoc, e2] at this; grind
      refine ⟨by grind, up1, fun ho => ⟨by grind, upS ho⟩, fun _ => lo1⟩
    · have lo1 : (m : Rat) - 1 / 2 ≤ V * 2 ^ (-q) := by
        have := Rat.mul_le_mul_of_nonneg_right w1 (Rat.le_of_lt hq)
        unfold low at this
        rw [if_neg hs, Rat.mul_assoc, e1] at this; grind
      refine ⟨lo1, up1, fun ho => ⟨?_, upS ho⟩, fun h => absurd h hs⟩
      have := Rat.mul_lt_mul_of_pos_right (w3 ho).1 hq
      unfold low at this
      rw [if_neg hs, Rat.mul_assoc, e1] at this; grind
  obtain ⟨n1, n2, n3, n4⟩ := n1
  -- the exponent is -q or 1 - q
  have mul2 : ∀ k : Int, V * 2 ^ (-q) * 2 ^ (q + k) = V * 2 ^ k := by
    intro k
    rw [Rat.mul_assoc, ← Rat.zpow_add two_ne]; congr 2; omega
  have mono : ∀ i j : Int, i ≤ j → (2 : Rat) ^ i ≤ 2 ^ j := by
    intro i j hij
    obtain ⟨n, hn⟩ : ∃ n : Nat, j = i + n := ⟨(j - i).toNat, by omega⟩
    rw [hn, Rat.zpow_add two_ne, Rat.zpow_natCast]
    have h1 : (1 : Rat) ≤ 2 ^ n := by
      have := cast_le (Nat.two_pow_pos n)
      rw [cast_pow2] at this
      exact this
    have := Rat.mul_le_mul_of_nonneg_left h1 (Rat.le_of_lt (hpos i))
    grind
  have eq_ : q + e = 0 ∨ (q + e = 1 ∧ (2 : Rat) ^ 52 ≤ m ∧ (m : Nat) ≥ 2 ^ 52 ∧ (m = 2 ^ 52 → skew m q = true)) := by
    -- not below
    have l1 : 0 ≤ q + e := by
      rcases Int.lt_or_le (q + e) 0 with hlt | hle
      · exfalso
        rcases he3 with h | h
        · omega
        · -- V 2 ^ e ≥ 2 ^ 52, but V < 2 ^ 53 2 ^ q
          have a1 : (2 : Rat) ^ (52 : Int) ≤ V * 2 ^ e := by
            have := Rat.mul_le_mul_of_nonneg_right v1 (Rat.le_of_lt (hpos e))
            rw [← Rat.zpow_add two_ne, show (b : Int) - 1 + lp p + e = 52 from by omega] at this
            exact this
          rw [← mul2 e] at a1
          have a2 := mono (q + e) (-1) (by omega)
          have a3 : V * 2 ^ (-q) * 2 ^ (q + e) ≤ V * 2 ^ (-q) * 2 ^ (-1 : Int) := Rat.mul_le_mul_of_nonneg_left a2 (Rat.le_of_lt (Rat.mul_pos V0 (hpos _)))
          have e5 : (2 : Rat) ^ (-1 : Int) = 1 / 2 := by decide +kernel
          have e6 : (2 : Rat) ^ (52 : Int) = 2 ^ 52 := rfl
          rw [e5] at a3
          rw [e6] at a1
          have a4 : V * 2 ^ (-q) < 2 ^ 53 := by grind
          grind
      · exact hle
    -- not above 1
    have vE : V * 2 ^ e * 2 ^ 53 ≤ (2 ^ 53 - 1) * 2 ^ 54 := by
      have := Rat.mul_le_mul_of_nonneg_right v2 (Rat.le_of_lt (hpos e))
      have a2 := mono ((b : Int) + lp p + 1 + e) 54 (by omega)
      have e6 : (2 : Rat) ^ (54 : Int) = 2 ^ 54 := rfl
      rw [e6, Rat.zpow_add two_ne] at a2
      have a3 : (2 ^ 53 - 1 : Rat) * (2 ^ ((b : Int) + lp p + 1) * 2 ^ e) ≤ (2 ^ 53 - 1) * 2 ^ 54 := Rat.mul_le_mul_of_nonneg_left a2 (by decide +kernel)
      grind
    rcases Int.lt_or_le 0 (q + e) with hgt | hle
    · right
      have hm52 : 2 ^ 52 ≤ m := by
        rcases hn with h | h
        · omega
        · exact h
      have hmR : (2 : Rat) ^ 52 ≤ m := by have := cast_le hm52; rwa [cast_pow2] at this
      have hq1 : q + e = 1 := by
        rcases Int.lt_or_le 1 (q + e) with hgt2 | hle2
        · exfalso
          have a2 := mono 2 (q + e) (by omega)
          have e6 : (2 : Rat) ^ (2 : Int) = 4 := rfl
          rw [e6] at a2
          have a3 : V * 2 ^ (-q) * 4 ≤ V * 2 ^ (-q) * 2 ^ (q + e) := Rat.mul_le_mul_of_nonneg_left a2 (Rat.le_of_lt (Rat.mul_pos V0 (hpos _)))
          rw [mul2] at a3
          by_cases hs : skew m q = true
          · have := n4 hs
            grind
          · have h52 : ¬ (m = 2 ^ 52 ∧ -1074 < q) := by intro hh; apply hs; unfold skew; simp [hh.1, hh.2]
            have : 2 ^ 52 + 1 ≤ m := by omega
            have := cast_le this
            rw [Rat.natCast_add, cast_pow2] at this
            grind
        · omega
      refine ⟨hq1, hmR, hm52, fun h => ?_⟩
      unfold skew
      simp [h]
      omega
    · left; omega
  -- the shift
  have hs8 : 8 ≤ -(e - (64 - (b : Int)) + lp p + 3) := by omega
  have hs64 : -(e - (64 - (b : Int)) + lp p + 3) < 64 := by
    rcases he3 with h | h
    · -- V 2 ^ 1074 ≥ 1 / 2
      rcases Int.lt_or_le (-(e - (64 - (b : Int)) + lp p + 3)) 64 with hlt | hge
      · exact hlt
      · exfalso
        have a1 : (1 : Rat) / 2 ≤ V * 2 ^ (-q) := by grind
        have a3 : V * 2 ^ (-q) * 1 ≤ V * 2 ^ (-q) * 2 ^ (q + e) := Rat.mul_le_mul_of_nonneg_left (by
          have := mono 0 (q + e) (by omega)
          rwa [Rat.zpow_zero] at this) (Rat.le_of_lt (Rat.mul_pos V0 (hpos _)))
        rw [mul2] at a3
        have a4 := Rat.mul_le_mul_of_nonneg_right v2 (Rat.le_of_lt (hpos e))
        have a5 := mono ((b : Int) + lp p + 1 + e) (-1) (by omega)
        rw [Rat.zpow_add two_ne] at a5
        have e5 : (2 : Rat) ^ (-1 : Int) = 1 / 2 := by decide +kernel
        rw [e5] at a5
        have a6 : (2 ^ 53 - 1 : Rat) * (2 ^ ((b : Int) + lp p + 1) * 2 ^ e) ≤ (2 ^ 53 - 1) * (1 / 2) := Rat.mul_le_mul_of_nonneg_left a5 (by decide +kernel)
        grind
    · omega
  refine ⟨?_, hs8, hs64⟩
  -- what uscale gives
  have hx64 : d * 2 ^ (64 - b) < 2 ^ 64 := by
    have := Nat.mul_lt_mul_of_pos_right hb2 (Nat.two_pow_pos (64 - b))
    rwa [← Nat.pow_add, show b + (64 - b) = 64 from by omega] at this
  have hu : us (d * 2 ^ (64 - b)) (tabHi p) (tabLo p) (-(e - (64 - (b : Int)) + lp p + 3)).toNat = unr (4 * (V * 2 ^ e)) := by
    have hscale : (4 * (V * 2 ^ e)) * 2 ^ (128 + (-(e - (64 - (b : Int)) + lp p + 3)).toNat) = ((d * 2 ^ (64 - b) : Nat) : Rat) * tau p := by
      have := scale_eq (x := ((d * 2 ^ (64 - b) : Nat) : Rat)) (e := e - (64 - (b : Int))) (p := p) (sh := (-(e - (64 - (b : Int)) + lp p + 3)).toNat) (by omega)
      rw [← this, ← hV, Rat.natCast_mul, cast_pow2]
      have e7 : (2 : Rat) ^ (64 - b) * 2 ^ (e - (64 - (b : Int))) = 2 ^ e := by
        rw [← Rat.zpow_natCast, ← Rat.zpow_add two_ne]; congr 1; omega
      rw [← e7]; grind
    rcases hc with hA | hB | h0
    · have hb57 : b ≤ 57 := by
        rcases Nat.lt_or_ge 57 b with h | h
        · have : 2 ^ 57 ≤ 2 ^ (b - 1) := Nat.pow_le_pow_right (by decide) (by omega)
          omega
        · exact h
      refine us_of_far (c0 := 1) (y := d * 2 ^ (57 - b)) (c := 7) (g := (53 - (b : Int) - lp p - e).toNat) (by omega) (by omega) (far_A hp1 hp2) ?_ ?_ ?_ (by decide) hx64 (by omega) (by decide) hscale
      · rw [Nat.one_mul, Nat.mul_assoc, ← Nat.pow_add]; congr 2; omega
      · exact Nat.mul_pos hd (Nat.two_pow_pos _)
      · have := Nat.mul_lt_mul_of_pos_right hb2 (Nat.two_pow_pos (57 - b))
        rwa [← Nat.pow_add, show b + (57 - b) = 57 from by omega] at this
    · obtain ⟨d', rfl⟩ := hB
      refine us_of_far (c0 := 100) (y := d' * 2 ^ (64 - b)) (c := 0) (g := (53 - (b : Int) - lp p - e).toNat) (by omega) (by omega) (far_B hp1 hp2) ?_ ?_ ?_ (by decide) hx64 (by omega) (by decide) hscale
      · rw [Nat.pow_zero, Nat.mul_one, Nat.mul_assoc]
      · exact Nat.mul_pos (by omega) (Nat.two_pow_pos _)
      · rw [Nat.mul_assoc] at hx64; omega
    · subst h0
      exact us_zero (Nat.mul_pos hd (Nat.two_pow_pos _)) hx64 hscale
  unfold parseM
  simp only [he]
  rw [hu]
  have hve0 : 0 ≤ V * 2 ^ e := Rat.le_of_lt (Rat.mul_pos V0 (hpos _))
  have thr : 2 ^ 55 - 2 ≤ unr (4 * (V * 2 ^ e)) ↔ (2 : Rat) ^ 53 - 1 / 2 ≤ V * 2 ^ e := by
    have := le_unr (w := 4 * (V * 2 ^ e)) (by grind) (2 ^ 54 - 1)
    rw [show 2 ^ 55 - 2 = 2 * (2 ^ 54 - 1) from rfl, this]
    have e8 : ((2 * (2 ^ 54 - 1) : Nat) : Rat) = 4 * (2 ^ 53 - 1 / 2) := by decide +kernel
    rw [e8]
    constructor <;> intro h <;> grind
  rcases eq_ with h0 | ⟨h0, hmR, hm52, hsk⟩
  · have he : e = -q := by omega
    rw [he] at thr hve0 ⊢
    rw [if_neg]
    · rw [rnd_eq hve0 n1 n2 n3]; simp
    · rw [thr]
      intro hge
      have hmm : m = 2 ^ 53 - 1 := by
        rcases Nat.lt_or_ge m (2 ^ 53 - 1) with h | h
        · exfalso
          have := cast_le (show m + 2 ≤ 2 ^ 53 by omega)
          rw [Rat.natCast_add, cast_pow2] at this
          have c2 : ((2 : Nat) : Rat) = 2 := rfl
          grind
        · omega
      have := (n3 (by omega)).2
      grind
  · have he : e = 1 - q := by omega
    have hv : V * 2 ^ e = V * 2 ^ (-q) * 2 := by
      rw [← mul2 e, show q + e = 1 from h0, Rat.zpow_one]
    rw [hv] at thr ⊢
    rw [if_pos]
    · have hh : 4 * (V * 2 ^ (-q) * 2) / 2 = 4 * (V * 2 ^ (-q)) := by grind
      rw [unr_half (by grind), hh, rnd_eq (Rat.le_of_lt (Rat.mul_pos V0 (hpos _))) n1 n2 n3, he]
      congr 1
      omega
    · rw [thr]
      by_cases h52 : m = 2 ^ 52
      · have := n4 (hsk h52)
        grind
      · have := cast_le (show 2 ^ 52 + 1 ≤ m by omega)
        rw [Rat.natCast_add, cast_pow2] at this
        grind
end Pb

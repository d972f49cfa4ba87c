/- Part of the proof of FnPlaceBack: numbers: the nearest float of a quotient. No condition. -/
import Derived.Test.YtmhpnnbfnbaekaaGreatDoorMPbHK
namespace Pb
open Ieee
theorem read_word {m : Nat} {q : Int} (h : Fits m q) : double.read ((q + 1074).toNat * 4503599627370496 + m) = .number false m q := by
  obtain ⟨m0, m1, q0, q1, hn⟩ := h
  have e1 : double.leastPlace = -1074 := by decide
  have e2 : double.binade = 4503599627370496 := by decide
  have e3 : double.infRung = 9218868437227405312 := by decide
  have e4 : double.signWeight = 9223372036854775808 := by decide
  obtain ⟨z, hz⟩ : ∃ z : Nat, (q + 1074).toNat = z := ⟨_, rfl⟩
  have hx : z * 4503599627370496 + m < 9218868437227405312 := by omega
  have hdiv : (z * 4503599627370496 + m) / 9223372036854775808 = 0 := by omega
  have hmod : (z * 4503599627370496 + m) % 9223372036854775808 = z * 4503599627370496 + m := by omega
  unfold Format.read
  rw [e1, e2, e3, e4, hz]
  dsimp only
  rw [hdiv, hmod]
  by_cases h1 : z * 4503599627370496 + m < 4503599627370496
  · rw [if_pos h1]
    have hz0 : z = 0 := by omega
    have hq : q = -1074 := by omega
    subst hz0
    rw [hq, Nat.zero_mul, Nat.zero_add]
    rfl
  · rw [if_neg h1, if_pos hx]
    have hm : 4503599627370496 ≤ m := by
      rcases hn with h2 | h2
      · rw [h2] at hz
        have : z = 0 := by omega
        subst this
        omega
      · exact h2
    have t1 : (z * 4503599627370496 + m) % 4503599627370496 = m - 4503599627370496 := by omega
    have t2 : (z * 4503599627370496 + m) / 4503599627370496 = z + 1 := by omega
    rw [t1, t2]
    have t3 : 4503599627370496 + (m - 4503599627370496) = m := by omega
    have t4 : (-1074 : Int) + ((z + 1 - 1 : Nat) : Int) = q := by omega
    rw [t3, t4]
    rfl
theorem exact_nat (d : Nat) (h0 : 0 < d) (h1 : d < 9007199254740992) : ∃ m q, Fits m q ∧ (m : Rat) * 2 ^ q = d := by
  have hl1 : 2 ^ d.log2 ≤ d := Nat.log2_self_le (by omega)
  have hl2 : d < 2 ^ (d.log2 + 1) := Nat.lt_log2_self
  have hl : d.log2 ≤ 52 := by
    have : 2 ^ d.log2 < 2 ^ 53 := by omega
    have := (Nat.pow_lt_pow_iff_right (by decide : 1 < 2)).1 this
    omega
  generalize d.log2 = k at *
  refine ⟨d * 2 ^ (52 - k), (k : Int) - 52, ⟨?_, ?_, by omega, by omega, .inr ?_⟩, ?_⟩
  · exact Nat.mul_pos h0 (Nat.two_pow_pos _)
  · have : d * 2 ^ (52 - k) < 2 ^ (k + 1) * 2 ^ (52 - k) := Nat.mul_lt_mul_of_pos_right hl2 (Nat.two_pow_pos _)
    rw [← Nat.pow_add, show k + 1 + (52 - k) = 53 from by omega] at this
    exact this
  · have : 2 ^ k * 2 ^ (52 - k) ≤ d * 2 ^ (52 - k) := Nat.mul_le_mul_right _ hl1
    rw [← Nat.pow_add, show k + (52 - k) = 52 from by omega] at this
    exact this
  · rw [Rat.natCast_mul, cast_pow2, Rat.mul_assoc, ← Rat.zpow_natCast, ← Rat.zpow_add two_ne, show ((52 - k : Nat) : Int) + ((k : Int) - 52) = 0 from by omega, Rat.zpow_zero, Rat.mul_one]
/-- A quotient and its sticky digit stand to whole thresholds as the number itself does. -/
theorem sticky {x P : Rat} {Q r N t : Nat} (hP : 0 < P) (hr : r < N) (hx : x * N = ((Q * N + r : Nat) : Rat) * (2 * P)) (s : Nat) (hs : s = if r = 0 then 0 else 1) :
    ((t : Rat) * (2 * P) ≤ x → (t : Rat) * (2 * P) ≤ ((2 * Q + s : Nat) : Rat) * P) ∧ ((t : Rat) * (2 * P) < x → (t : Rat) * (2 * P) < ((2 * Q + s : Nat) : Rat) * P) ∧
    (x ≤ (t : Rat) * (2 * P) → ((2 * Q + s : Nat) : Rat) * P ≤ (t : Rat) * (2 * P)) ∧ (x < (t : Rat) * (2 * P) → ((2 * Q + s : Nat) : Rat) * P < (t : Rat) * (2 * P)) := by
  have hN : (0 : Rat) < N := Rat.natCast_pos.2 (by omega)
  have h2P : 0 < 2 * P := by grind
  have et : (t : Rat) * (2 * P) = ((2 * t : Nat) : Rat) * P := by
    rw [Rat.natCast_mul]
    have e2 : ((2 : Nat) : Rat) = 2 := rfl
    rw [e2]; grind
  have en : ∀ a : Nat, (t : Rat) * (2 * P) * N = ((t * N : Nat) : Rat) * (2 * P) := by
    intro a
    rw [Rat.natCast_mul]; grind
  have le1 : (t : Rat) * (2 * P) ≤ x → t * N ≤ Q * N + r := by
    intro h
    have h1 := Rat.mul_le_mul_of_nonneg_right h (Rat.le_of_lt hN)
    rw [hx, en 0] at h1
    exact Rat.natCast_le_natCast.1 (Rat.le_of_mul_le_mul_right h1 h2P)
  have le2 : x ≤ (t : Rat) * (2 * P) → Q * N + r ≤ t * N := by
    intro h
    have h1 := Rat.mul_le_mul_of_nonneg_right h (Rat.le_of_lt hN)
    rw [hx, en 0] at h1
    exact Rat.natCast_le_natCast.1 (Rat.le_of_mul_le_mul_right h1 h2P)
  have lt1 : (t : Rat) * (2 * P) < x → t * N < Q * N + r := by
    intro h
    have h1 := Rat.mul_lt_mul_of_pos_right h hN
    rw [hx, en 0] at h1
    rcases Nat.lt_or_ge (t * N) (Q * N + r) with h2 | h2
    · exact h2
    · exact absurd h1 (Rat.not_lt.2 (Rat.mul_le_mul_of_nonneg_right (cast_le h2) (Rat.le_of_lt h2P)))
  have lt2 : x < (t : Rat) * (2 * P) → Q * N + r < t * N := by
    intro h
    have h1 := Rat.mul_lt_mul_of_pos_right h hN
    rw [hx, en 0] at h1
    rcases Nat.lt_or_ge (Q * N + r) (t * N) with h2 | h2
    · exact h2
    · exact absurd h1 (Rat.not_lt.2 (Rat.mul_le_mul_of_nonneg_right (cast_le h2) (Rat.le_of_lt h2P)))
  have qt : t * N ≤ Q * N + r → t ≤ Q := by
    intro h
    rcases Nat.lt_or_ge Q t with h1 | h1
    · have : (Q + 1) * N ≤ t * N := Nat.mul_le_mul_right _ h1
      rw [Nat.succ_mul] at this
      omega
    · exact h1
  have tq : Q * N + r ≤ t * N → Q ≤ t ∧ (r ≠ 0 → Q < t) := by
    intro h
    have h0 : Q ≤ t := by
      rcases Nat.lt_or_ge t Q with h1 | h1
      · have : (t + 1) * N ≤ Q * N := Nat.mul_le_mul_right _ h1
        rw [Nat.succ_mul] at this
        omega
      · exact h1
    refine ⟨h0, fun hr0 => ?_⟩
    rcases Nat.lt_or_ge Q t with h1 | h1
    · exact h1
    · have : Q = t := by omega
      subst this
      omega
  have up : ∀ {a b : Nat}, a ≤ b → (a : Rat) * P ≤ b * P := fun h => Rat.mul_le_mul_of_nonneg_right (cast_le h) (Rat.le_of_lt hP)
  have upl : ∀ {a b : Nat}, a < b → (a : Rat) * P < b * P := fun h => Rat.mul_lt_mul_of_pos_right (cast_lt h) hP
  have hs2 : (r = 0 → s = 0) ∧ (r ≠ 0 → s = 1) := by
    constructor
    · intro h; rw [hs, if_pos h]
    · intro h; rw [hs, if_neg h]
  refine ⟨fun h => ?_, fun h => ?_, fun h => ?_, fun h => ?_⟩
  · rw [et]
    have := qt (le1 h)
    exact up (by omega)
  · rw [et]
    have h1 := lt1 h
    have h2 := qt (by omega)
    refine upl ?_
    by_cases hr0 : r = 0
    · rcases Nat.lt_or_ge t Q with h3 | h3
      · omega
      · have : t = Q := by omega
        subst this
        omega
    · have := hs2.2 hr0
      omega
  · rw [et]
    obtain ⟨h1, h2⟩ := tq (le2 h)
    refine up ?_
    by_cases hr0 : r = 0
    · have := hs2.1 hr0; omega
    · have := hs2.2 hr0; have := h2 hr0; omega
  · rw [et]
    have h0 := lt2 h
    obtain ⟨h1, h2⟩ := tq (by omega)
    refine upl ?_
    by_cases hr0 : r = 0
    · have := hs2.1 hr0
      rcases Nat.lt_or_ge Q t with h3 | h3
      · omega
      · have : t = Q := by omega
        subst this
        omega
    · have := hs2.2 hr0; have := h2 hr0; omega
end Pb
namespace Pb
open Ieee
theorem le_eq {a b : Rat} (h : a = b) : a ≤ b := by rw [h]; exact Rat.le_refl
theorem over (c : Nat) {e pl : Int} (h : pl ≤ e) : (c : Rat) * 2 ^ e = ((c * 2 ^ (e - pl).toNat : Nat) : Rat) * 2 ^ pl := by
  rw [Rat.natCast_mul, cast_pow2, Rat.mul_assoc, ← Rat.zpow_natCast, ← Rat.zpow_add two_ne, show ((e - pl).toNat : Int) + pl = e from by omega]
theorem cast_pred (n : Nat) (h : 1 ≤ n) : ((n - 1 : Nat) : Rat) = n - 1 := by
  have e : (((n - 1) + 1 : Nat) : Rat) = (n : Rat) := by congr 1; omega
  rw [Rat.natCast_add] at e
  have e1 : ((1 : Nat) : Rat) = 1 := rfl
  rw [e1] at e
  grind
theorem div_within {M N m : Nat} {i j q : Int} {x : Rat} (hM : M ≠ 0) (hN : N ≠ 0) (h : Fits m q) (hw : Within m q x) (hx : x * (N * 2 ^ j) = M * 2 ^ i) (more : Nat) (hmore : more = 54 + N.log2 - M.log2) :
    2 * (M <<< more / N) + (M <<< more % N != 0).toNat ≠ 0 ∧ Within m q (((2 * (M <<< more / N) + (M <<< more % N != 0).toNat : Nat) : Rat) * 2 ^ (i - j - more - 1)) := by
  have hNp : 0 < N := by omega
  have hlM : 2 ^ M.log2 ≤ M := Nat.log2_self_le hM
  have hlN : N < 2 ^ (N.log2 + 1) := Nat.lt_log2_self
  have hdiv : 2 ^ 53 * N ≤ M <<< more := by
    rw [Nat.shiftLeft_eq]
    have h1 : 2 ^ M.log2 * 2 ^ more ≤ M * 2 ^ more := Nat.mul_le_mul_right _ hlM
    have h2 : 2 ^ 53 * N ≤ 2 ^ 53 * 2 ^ (N.log2 + 1) := Nat.mul_le_mul_left _ (Nat.le_of_lt hlN)
    rw [← Nat.pow_add] at h1 h2
    have h3 : 2 ^ (53 + (N.log2 + 1)) ≤ 2 ^ (M.log2 + more) := Nat.pow_le_pow_right (by decide) (by omega)
    omega
  have hQ : 2 ^ 53 ≤ M <<< more / N := (Nat.le_div_iff_mul_le hNp).2 hdiv
  have hdm := Nat.div_add_mod (M <<< more) N
  have hr := Nat.mod_lt (M <<< more) hNp
  have hxn : x * N = ((M <<< more / N * N + M <<< more % N : Nat) : Rat) * (2 * 2 ^ (i - j - more - 1)) := by
    rw [← two_zpow_pred, Nat.mul_comm (M <<< more / N) N, hdm, Nat.shiftLeft_eq, Rat.natCast_mul, cast_pow2, Rat.mul_assoc, ← Rat.zpow_natCast, ← Rat.zpow_add two_ne, show (more : Int) + (i - j - more) = i + -j from by omega, Rat.zpow_add two_ne, ← Rat.mul_assoc, ← hx]
    have e : (2 : Rat) ^ j * 2 ^ (-j) = 1 := by rw [← Rat.zpow_add two_ne, show j + -j = 0 from by omega, Rat.zpow_zero]
    rw [Rat.mul_assoc, Rat.mul_assoc, e, Rat.mul_one]
  generalize M <<< more / N = Q at *
  generalize M <<< more % N = r at *
  obtain ⟨s, hs⟩ : ∃ s, s = (r != 0).toNat := ⟨_, rfl⟩
  have hs2 : s = if r = 0 then 0 else 1 := by
    rw [hs]
    by_cases h0 : r = 0
    · subst h0; rfl
    · rw [if_neg h0, show (r != 0) = true from by rw [bne_iff_ne]; exact h0]; rfl
  rw [← hs]
  have hP : (0 : Rat) < 2 ^ (i - j - more - 1) := Rat.zpow_pos (by decide)
  have h2P : (2 : Rat) * 2 ^ (i - j - more - 1) = 2 ^ (i - j - more) := (two_zpow_pred _).symm
  have st := fun t => sticky (t := t) hP hr hxn s hs2
  obtain ⟨m0, m1, q0, q1, hn⟩ := h
  obtain ⟨w1, w2, w3⟩ := hw
  refine ⟨by omega, ?_⟩
  -- x is at least Q units
  have hxQ : ((9007199254740992 * 1 : Nat) : Rat) * (2 * 2 ^ (i - j - more - 1)) ≤ x := by
    have hNR : (0 : Rat) < N := Rat.natCast_pos.2 hNp
    refine Rat.le_of_mul_le_mul_right ?_ hNR
    rw [hxn]
    have h1 : 9007199254740992 * 1 * N ≤ Q * N + r := by
      have : 9007199254740992 * N ≤ Q * N := Nat.mul_le_mul_right _ hQ
      omega
    have h2 := Rat.mul_le_mul_of_nonneg_right (cast_le h1) (Rat.le_of_lt (show (0 : Rat) < 2 * 2 ^ (i - j - more - 1) by grind))
    refine Rat.le_trans ?_ h2
    rw [Rat.natCast_mul (9007199254740992 * 1) N]
    refine le_eq ?_
    grind
  have hxQ2 := (st _).1 hxQ
  rw [h2P] at st hxQ hxQ2
  generalize hpl : i - j - more = pl at *
  have e53 : ((9007199254740992 * 1 : Nat) : Rat) * 2 ^ pl = 2 ^ (pl + 53) := by
    rw [Rat.zpow_add two_ne, show (2 : Rat) ^ (53 : Int) = 9007199254740992 from by decide, Rat.mul_comm]
    rfl
  have hq1pos : (0 : Rat) < 2 ^ (q - 1) := Rat.zpow_pos (by decide)
  have hplq : pl ≤ q - 1 := by
    have h1 : x < 2 ^ (q + 53) := by
      refine lt_of_le_lt w2 ?_
      unfold up
      have e54 : (2 : Rat) ^ (q + 53) = 18014398509481984 * 2 ^ (q - 1) := by
        rw [show q + 53 = (q - 1) + 54 from by omega, Rat.zpow_add two_ne, show (2 : Rat) ^ (54 : Int) = 18014398509481984 from by decide, Rat.mul_comm]
      rw [e54]
      refine Rat.mul_lt_mul_of_pos_right ?_ hq1pos
      have := cast_le (show m + 1 ≤ 9007199254740992 by omega)
      rw [Rat.natCast_add] at this
      have e1 : ((1 : Nat) : Rat) = 1 := rfl
      have e2 : ((9007199254740992 : Nat) : Rat) = 9007199254740992 := rfl
      rw [e1, e2] at this
      grind
    have h2 : (2 : Rat) ^ (pl + 53) < 2 ^ (q + 53) := by rw [← e53]; exact lt_of_le_lt hxQ h1
    have := zpow_inj_lt h2
    omega
  have c2 : (2 * (m : Rat) + 1) = ((2 * m + 1 : Nat) : Rat) := by rw [Rat.natCast_add, Rat.natCast_mul]; rfl
  have c1 : (2 * (m : Rat) - 1) = ((2 * m - 1 : Nat) : Rat) := by rw [cast_pred _ (by omega), Rat.natCast_mul]; rfl
  have c4 : (4 * (m : Rat) - 1) = ((4 * m - 1 : Nat) : Rat) := by rw [cast_pred _ (by omega), Rat.natCast_mul]; rfl
  have hup : up m q = ((((2 * m + 1) * 2 ^ (q - 1 - pl).toNat : Nat)) : Rat) * 2 ^ pl := by
    unfold up; rw [c2, over _ hplq]
  by_cases hsk : skew m q = true
  · have hm2 : m % 2 ≠ 1 := by
      unfold skew at hsk
      rw [Bool.and_eq_true, beq_iff_eq] at hsk
      rw [hsk.1]; decide
    refine ⟨?_, ?_, fun e => absurd e hm2⟩
    · rcases (show pl ≤ q - 2 ∨ pl = q - 1 by omega) with h1 | h1
      · have hlow : low m q = ((((4 * m - 1) * 2 ^ (q - 2 - pl).toNat : Nat)) : Rat) * 2 ^ pl := by
          unfold low; rw [if_pos hsk, c4, over _ h1]
        rw [hlow] at w1 ⊢
        exact (st _).1 w1
      · refine Rat.le_trans ?_ hxQ2
        unfold low
        rw [if_pos hsk, h1, two_zpow_pred (q - 1), show q - 1 - 1 = q - 2 from by omega]
        unfold skew at hsk
        rw [Bool.and_eq_true, beq_iff_eq] at hsk
        rw [hsk.1]
        have hq2pos : (0 : Rat) < 2 ^ (q - 2) := Rat.zpow_pos (by decide)
        have e1 : ((9007199254740992 * 1 : Nat) : Rat) = 9007199254740992 := rfl
        have e2 : ((2 ^ 52 : Nat) : Rat) = 4503599627370496 := rfl
        rw [e1, e2]
        have e3 : (9007199254740992 : Rat) * (2 * 2 ^ (q - 2)) = 18014398509481984 * 2 ^ (q - 2) := by grind
        rw [e3]
        exact Rat.mul_le_mul_of_nonneg_right (by grind) (Rat.le_of_lt hq2pos)
    · rw [hup] at w2 ⊢
      exact (st _).2.2.1 w2
  · have hlow : low m q = ((((2 * m - 1) * 2 ^ (q - 1 - pl).toNat : Nat)) : Rat) * 2 ^ pl := by
      unfold low; rw [if_neg hsk, c1, over _ hplq]
    rw [hlow] at w1 w3
    rw [hup] at w2 w3
    refine ⟨?_, ?_, fun e => ?_⟩
    · rw [hlow]; exact (st _).1 w1
    · rw [hup]; exact (st _).2.2.1 w2
    · rw [hlow, hup]; exact ⟨(st _).2.1 (w3 e).1, (st _).2.2.2 (w3 e).2⟩
end Pb

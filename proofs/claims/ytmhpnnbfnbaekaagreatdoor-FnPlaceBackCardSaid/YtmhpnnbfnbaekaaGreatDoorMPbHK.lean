/- Part of the proof of FnPlaceBack: numbers: the nearest float of a decimal. No condition. -/
import Derived.Test.YtmhpnnbfnbaekaaGreatDoorMPbF
import Ieee.Arith
namespace Pb
open Ieee
/-- To the nearest, ties to even: what is needed to come to m. -/
theorem cut_eq (neg : Bool) (n drop m : Nat) (h0 : 1 ≤ m) (h1 : (2 * m - 1) * 2 ^ drop ≤ 2 * n) (h2 : 2 * n ≤ (2 * m + 1) * 2 ^ drop)
    (h3 : m % 2 = 1 → (2 * m - 1) * 2 ^ drop < 2 * n ∧ 2 * n < (2 * m + 1) * 2 ^ drop) : Toward.even.cut neg n drop = m := by
  have hD : 0 < 2 ^ drop := Nat.two_pow_pos _
  have hn : n ≠ 0 := by
    intro e
    subst e
    have : 1 * 2 ^ drop ≤ (2 * m - 1) * 2 ^ drop := Nat.mul_le_mul_right _ (by omega)
    omega
  have hlog : n < 2 ^ (n.log2 + 1) := Nat.lt_log2_self
  have hmin : min drop (n.log2 + 2) = drop := by
    have h4 : 2 ^ drop ≤ 2 * n := by
      have : 1 * 2 ^ drop ≤ (2 * m - 1) * 2 ^ drop := Nat.mul_le_mul_right _ (by omega)
      omega
    have h5 : 2 ^ drop < 2 ^ (n.log2 + 2) := by
      rw [Nat.pow_succ]; omega
    have := (Nat.pow_lt_pow_iff_right (by decide : 1 < 2)).1 h5
    omega
  unfold Toward.cut
  rw [hmin, Nat.one_shiftLeft]
  dsimp only
  have hdm := Nat.div_add_mod n (2 ^ drop)
  have hr := Nat.mod_lt n hD
  generalize 2 ^ drop = D at *
  generalize n / D = low at *
  generalize n % D = rest at *
  have k1 : low ≤ m := by
    rcases Nat.lt_or_ge m low with h | h
    · exfalso
      have : D * (m + 1) ≤ D * low := Nat.mul_le_mul_left _ h
      have e1 : (2 * m + 1) * D = 2 * (D * m) + D := by rw [Nat.add_mul, Nat.one_mul, Nat.mul_assoc, Nat.mul_comm m D]
      have e2 : D * (m + 1) = D * m + D := Nat.mul_succ _ _
      omega
    · exact h
  have k2 : m ≤ low + 1 := by
    rcases Nat.lt_or_ge (low + 1) m with h | h
    · exfalso
      have : D * (low + 2) ≤ D * m := Nat.mul_le_mul_left _ h
      have e1 : (2 * m - 1) * D = 2 * (D * m) - D := by rw [Nat.sub_mul, Nat.one_mul, Nat.mul_assoc, Nat.mul_comm m D]
      have e2 : D * (low + 2) = D * low + 2 * D := by rw [Nat.mul_add, Nat.mul_comm D 2]
      omega
    · exact h
  have e1 : (2 * m + 1) * D = 2 * (D * m) + D := by rw [Nat.add_mul, Nat.one_mul, Nat.mul_assoc, Nat.mul_comm m D]
  have e3 : (2 * m - 1) * D = 2 * (D * m) - D := by rw [Nat.sub_mul, Nat.one_mul, Nat.mul_assoc, Nat.mul_comm m D]
  rw [e3] at h1 h3
  rw [e1] at h2 h3
  clear e1 e3 hn hlog hmin
  rcases (show low = m ∨ low + 1 = m by omega) with h | h
  · subst h
    have t1 : ¬ D < 2 * rest := by omega
    have t2 : ¬ (D = 2 * rest ∧ low % 2 = 1) := by
      rintro ⟨a, b⟩
      have := h3 b
      omega
    have : (decide (D < 2 * rest) || (D == 2 * rest && low % 2 == 1)) = false := by
      rw [decide_eq_false t1, Bool.false_or, Bool.and_eq_false_iff]
      by_cases a : D = 2 * rest
      · right; rw [beq_eq_false_iff_ne]; intro b; exact t2 ⟨a, b⟩
      · left; rw [beq_eq_false_iff_ne]; exact a
    rw [this]; rfl
  · subst h
    have e4 : D * (low + 1) = D * low + D := Nat.mul_succ _ _
    rw [e4] at h1 h2 h3
    clear e4
    have : (decide (D < 2 * rest) || (D == 2 * rest && low % 2 == 1)) = true := by
      rcases Nat.lt_or_ge D (2 * rest) with a | a
      · rw [decide_eq_true a]; rfl
      · have a2 : D = 2 * rest := by omega
        have b : low % 2 = 1 := by
          rcases Nat.mod_two_eq_zero_or_one low with b | b
          · have := h3 (by omega)
            omega
          · exact b
        rw [Bool.or_eq_true]; right
        rw [Bool.and_eq_true]
        exact ⟨by rw [beq_iff_eq]; exact a2, by rw [beq_iff_eq]; exact b⟩
    rw [this]; rfl
theorem two_shift (p l : Int) : (2 : Rat) ^ p * 2 ^ (l - p).toNat = 2 ^ l * 2 ^ (p - l).toNat := by
  rw [← Rat.zpow_natCast, ← Rat.zpow_natCast, ← Rat.zpow_add two_ne, ← Rat.zpow_add two_ne]
  congr 1
  omega
theorem nearest_at (neg : Bool) (mag m : Nat) (place last : Int) (hmag : mag ≠ 0) (hlast : last = max (place + mag.log2 - 52) (-1074)) (h0 : 1 ≤ m)
    (hlo : (2 * (m : Rat) - 1) * 2 ^ (last - 1) ≤ mag * 2 ^ place) (hup : (mag : Rat) * 2 ^ place ≤ (2 * m + 1) * 2 ^ (last - 1))
    (hodd : m % 2 = 1 → (2 * (m : Rat) - 1) * 2 ^ (last - 1) < mag * 2 ^ place ∧ (mag : Rat) * 2 ^ place < (2 * m + 1) * 2 ^ (last - 1))
    (hinf : (last + 1074).toNat * 4503599627370496 + m ≤ 9218868437227405312) :
    Ieee.double.nearest neg mag place = Ieee.double.word neg ((last + 1074).toNat * 4503599627370496 + m) := by
  have hsh := two_shift place last
  have hp := two_zpow_pred last
  have hpos : (0 : Rat) < 2 ^ (last - 1) := Rat.zpow_pos (by decide)
  have hb : (0 : Rat) < ((2 ^ (last - place).toNat : Nat) : Rat) := by rw [cast_pow2]; exact Rat.pow_pos (by decide)
  rw [hp, ← cast_pow2, ← cast_pow2] at hsh
  have c1 : (((2 * m - 1 : Nat)) : Rat) = 2 * m - 1 := by
    have : ((2 * m - 1 : Nat) : Rat) + 1 = 2 * m := by
      have e : (((2 * m - 1) + 1 : Nat) : Rat) = ((2 * m : Nat) : Rat) := by congr 1; omega
      rw [Rat.natCast_add, Rat.natCast_mul] at e
      exact e
    grind
  have c2 : (((2 * m + 1 : Nat)) : Rat) = 2 * m + 1 := by rw [Rat.natCast_add, Rat.natCast_mul]; rfl
  generalize hB : 2 ^ (last - place).toNat = B at *
  generalize hA : 2 ^ (place - last).toNat = A at *
  generalize (2 : Rat) ^ (last - 1) = t at *
  generalize (2 : Rat) ^ place = v at *
  have e5 : (mag : Rat) * v * B = 2 * (mag * A) * t := by
    rw [Rat.mul_assoc, hsh]; grind
  have e6 : ∀ x : Rat, x * t * B = x * B * t := by intro x; grind
  have key1 : ∀ x : Nat, (x : Rat) * t ≤ mag * v → x * B ≤ 2 * (mag * A) := by
    intro x hx
    refine Rat.natCast_le_natCast.1 ?_
    rw [Rat.natCast_mul, Rat.natCast_mul, Rat.natCast_mul]
    have e2 : ((2 : Nat) : Rat) = 2 := rfl
    rw [e2]
    have h1 : (x : Rat) * t * B ≤ mag * v * B := Rat.mul_le_mul_of_nonneg_right hx (Rat.le_of_lt hb)
    have h2 : (x : Rat) * B * t ≤ 2 * (mag * A) * t := by rw [← e5, ← e6]; exact h1
    exact Rat.le_of_mul_le_mul_right h2 hpos
  have key2 : ∀ x : Nat, (mag : Rat) * v ≤ (x : Rat) * t → 2 * (mag * A) ≤ x * B := by
    intro x hx
    refine Rat.natCast_le_natCast.1 ?_
    rw [Rat.natCast_mul, Rat.natCast_mul, Rat.natCast_mul]
    have e2 : ((2 : Nat) : Rat) = 2 := rfl
    rw [e2]
    have h1 : (mag : Rat) * v * B ≤ x * t * B := Rat.mul_le_mul_of_nonneg_right hx (Rat.le_of_lt hb)
    have h2 : 2 * ((mag : Rat) * A) * t ≤ (x : Rat) * B * t := by rw [← e5, ← e6]; exact h1
    exact Rat.le_of_mul_le_mul_right h2 hpos
  have key3 : ∀ x : Nat, (x : Rat) * t < mag * v → x * B < 2 * (mag * A) := by
    intro x hx
    rcases Nat.lt_or_ge (x * B) (2 * (mag * A)) with h | h
    · exact h
    · exfalso
      have h1 := cast_le h
      rw [Rat.natCast_mul, Rat.natCast_mul, Rat.natCast_mul] at h1
      have e2 : ((2 : Nat) : Rat) = 2 := rfl
      rw [e2] at h1
      have h2 : 2 * ((mag : Rat) * A) * t ≤ x * B * t := Rat.mul_le_mul_of_nonneg_right h1 (Rat.le_of_lt hpos)
      have h3 : (x : Rat) * t * B < mag * v * B := Rat.mul_lt_mul_of_pos_right hx hb
      rw [e5, e6] at h3
      exact absurd h3 (Rat.not_lt.2 h2)
  have key4 : ∀ x : Nat, (mag : Rat) * v < (x : Rat) * t → 2 * (mag * A) < x * B := by
    intro x hx
    rcases Nat.lt_or_ge (2 * (mag * A)) (x * B) with h | h
    · exact h
    · exfalso
      have h1 := cast_le h
      rw [Rat.natCast_mul, Rat.natCast_mul, Rat.natCast_mul] at h1
      have e2 : ((2 : Nat) : Rat) = 2 := rfl
      rw [e2] at h1
      have h2 : (x : Rat) * B * t ≤ 2 * ((mag : Rat) * A) * t := Rat.mul_le_mul_of_nonneg_right h1 (Rat.le_of_lt hpos)
      have h3 : (mag : Rat) * v * B < x * t * B := Rat.mul_lt_mul_of_pos_right hx hb
      rw [e5, e6] at h3
      exact absurd h3 (Rat.not_lt.2 h2)
  have hcut : Toward.even.cut neg (mag <<< (place - last).toNat) (last - place).toNat = m := by
    rw [Nat.shiftLeft_eq, hA]
    refine cut_eq neg (mag * A) _ m h0 ?_ ?_ ?_
    · rw [hB]; exact key1 _ (by rw [c1]; exact hlo)
    · rw [hB]; exact key2 _ (by rw [c2]; exact hup)
    · intro ho
      rw [hB]
      exact ⟨key3 _ (by rw [c1]; exact (hodd ho).1), key4 _ (by rw [c2]; exact (hodd ho).2)⟩
  unfold Format.nearest
  rw [if_neg hmag]
  have e1 : Ieee.double.leastPlace = -1074 := by decide
  have e2 : Ieee.double.binade = 4503599627370496 := by decide
  have e3 : Ieee.double.infRung = 9218868437227405312 := by decide
  have e4 : ((Ieee.double.fractionBits : Nat) : Int) = 52 := by decide
  dsimp only
  rw [e1, e2, e3, e4, ← hlast, hcut, show last - -1074 = last + 1074 from by omega, Nat.min_eq_left hinf]
end Pb
namespace Pb
open Ieee
theorem lt_of_le_lt {a b c : Rat} (h : a ≤ b) (k : b < c) : a < c := by grind
theorem lt_of_lt_le {a b c : Rat} (h : a < b) (k : b ≤ c) : a < c := by grind
theorem lt_tr {a b c : Rat} (h : a < b) (k : b < c) : a < c := by grind
theorem zpow_mono {a b : Int} (h : a ≤ b) : (2 : Rat) ^ a ≤ 2 ^ b := by
  obtain ⟨n, rfl⟩ : ∃ n : Nat, b = a + n := ⟨(b - a).toNat, by omega⟩
  rw [Rat.zpow_add two_ne, Rat.zpow_natCast]
  have h1 : (0 : Rat) ≤ 2 ^ a := Rat.le_of_lt (Rat.zpow_pos (by decide))
  have h2 : (1 : Rat) ≤ 2 ^ n := by
    rw [← cast_pow2]
    exact cast_le (show 1 ≤ 2 ^ n from Nat.two_pow_pos _)
  have := Rat.mul_le_mul_of_nonneg_left h2 h1
  rwa [Rat.mul_one] at this
theorem zpow_inj_lt {a b : Int} (h : (2 : Rat) ^ a < 2 ^ b) : a < b := by
  rcases (show a < b ∨ b ≤ a by omega) with h1 | h1
  · exact h1
  · exact absurd h (Rat.not_lt.2 (zpow_mono h1))
theorem log_bounds (mag : Nat) (place : Int) (h : mag ≠ 0) : (2 : Rat) ^ (place + mag.log2) ≤ mag * 2 ^ place ∧ (mag : Rat) * 2 ^ place < 2 ^ (place + mag.log2 + 1) := by
  have h1 : 2 ^ mag.log2 ≤ mag := Nat.log2_self_le h
  have h2 : mag < 2 ^ (mag.log2 + 1) := Nat.lt_log2_self
  have hp : (0 : Rat) < 2 ^ place := Rat.zpow_pos (by decide)
  have c1 := cast_le h1
  have c2 := cast_lt h2
  rw [cast_pow2] at c1 c2
  constructor
  · rw [Rat.zpow_add two_ne, Rat.zpow_natCast, Rat.mul_comm]
    exact Rat.mul_le_mul_of_nonneg_right c1 (Rat.le_of_lt hp)
  · rw [show place + (mag.log2 : Int) + 1 = place + ((mag.log2 + 1 : Nat) : Int) from by omega, Rat.zpow_add two_ne, Rat.zpow_natCast, Rat.mul_comm]
    rw [Rat.mul_comm]
    rw [Rat.mul_comm (2 ^ place)]
    exact Rat.mul_lt_mul_of_pos_right c2 hp
theorem nearest_word (neg : Bool) {mag m : Nat} {place q : Int} (h : Fits m q) (hmag : mag ≠ 0) (hw : Within m q (mag * 2 ^ place)) :
    double.nearest neg mag place = double.word neg ((q + 1074).toNat * 4503599627370496 + m) := by
  obtain ⟨m0, m1, q0, q1, hn⟩ := h
  obtain ⟨w1, w2, w3⟩ := hw
  obtain ⟨g1, g2⟩ := log_bounds mag place hmag
  have hq := two_zpow_pred q
  have hq2 := two_zpow_pred (q - 1)
  rw [show q - 1 - 1 = q - 2 from by omega] at hq2
  have hpos : (0 : Rat) < 2 ^ (q - 2) := Rat.zpow_pos (by decide)
  have e52 : (2 : Rat) ^ (q + 52) = 4503599627370496 * 2 ^ q := by
    rw [Rat.zpow_add two_ne, show (2 : Rat) ^ (52 : Int) = 4503599627370496 from by decide, Rat.mul_comm]
  have e53 : (2 : Rat) ^ (q + 53) = 9007199254740992 * 2 ^ q := by
    rw [Rat.zpow_add two_ne, show (2 : Rat) ^ (53 : Int) = 9007199254740992 from by decide, Rat.mul_comm]
  have e51 : (2 : Rat) ^ (q + 51) = 2251799813685248 * 2 ^ q := by
    rw [Rat.zpow_add two_ne, show (2 : Rat) ^ (51 : Int) = 2251799813685248 from by decide, Rat.mul_comm]
  have m1R : (m : Rat) + 1 ≤ 9007199254740992 := by
    have := cast_le (show m + 1 ≤ 9007199254740992 by omega)
    rw [Rat.natCast_add] at this
    exact this
  have m0R : (1 : Rat) ≤ m := cast_le (show 1 ≤ m by omega)
  -- above, the binade is q's own
  have hup53 : (mag : Rat) * 2 ^ place < 2 ^ (q + 53) := by
    unfold up at w2
    refine lt_of_le_lt w2 ?_
    rw [e53, hq]
    have : (0 : Rat) < 2 ^ (q - 1) := Rat.zpow_pos (by decide)
    rw [← Rat.mul_assoc]
    refine Rat.mul_lt_mul_of_pos_right ?_ this
    grind
  have hk1 : place + mag.log2 < q + 53 := zpow_inj_lt (lt_of_le_lt g1 hup53)
  by_cases hbig : q = -1074 ∨ (2 : Rat) ^ (q + 52) ≤ mag * 2 ^ place
  · have hlast : q = max (place + mag.log2 - 52) (-1074) := by
      rcases (show (2 : Rat) ^ (q + 52) ≤ mag * 2 ^ place ∨ (mag : Rat) * 2 ^ place < 2 ^ (q + 52) from by
        by_cases he : (2 : Rat) ^ (q + 52) ≤ mag * 2 ^ place
        · exact .inl he
        · exact .inr (Rat.not_le.1 he)) with h | h
      · have := zpow_inj_lt (lt_of_le_lt h g2)
        omega
      · have hq3 : q = -1074 := by
          rcases hbig with h2 | h2
          · exact h2
          · exact absurd h (Rat.not_lt.2 h2)
        have := zpow_inj_lt (lt_of_le_lt g1 h)
        omega
    have hlo : (2 * (m : Rat) - 1) * 2 ^ (q - 1) ≤ low m q := by
      unfold low
      split
      · rw [hq2]; grind
      · exact Rat.le_refl
    refine nearest_at neg mag m place q hmag hlast (by omega) (Rat.le_trans hlo w1) w2 ?_ ?_
    · intro ho
      obtain ⟨a, b⟩ := w3 ho
      exact ⟨lt_of_le_lt hlo a, b⟩
    · omega
  · have hq3 : q ≠ -1074 := fun e => hbig (.inl e)
    have hlt : (mag : Rat) * 2 ^ place < 2 ^ (q + 52) := Rat.not_le.1 fun e => hbig (.inr e)
    have hm52 : m = 4503599627370496 := by
      rcases hn with h | h
      · exact absurd h hq3
      · rcases Nat.lt_or_ge 4503599627370496 m with h2 | h2
        · exfalso
          have hsk : skew m q = false := by
            unfold skew
            rw [show (m == 2 ^ 52) = false from by rw [beq_eq_false_iff_ne]; omega]; rfl
          have h3 := cast_le h2
          unfold low at w1
          rw [hsk, if_neg (by decide)] at w1
          have h4 : (2 : Rat) ^ (q + 52) ≤ (2 * m - 1) * 2 ^ (q - 1) := by
            rw [e52, hq, ← Rat.mul_assoc]
            refine Rat.mul_le_mul_of_nonneg_right ?_ (Rat.le_of_lt (Rat.zpow_pos (by decide)))
            have h5 : (4503599627370497 : Rat) ≤ m := cast_le h2
            grind
          exact absurd (lt_of_lt_le hlt h4) (Rat.not_lt.2 w1)
        · omega
    subst hm52
    have hsk : skew 4503599627370496 q = true := by
      unfold skew
      rw [Bool.and_eq_true]
      exact ⟨by decide, decide_eq_true (by omega)⟩
    unfold low at w1
    rw [hsk, if_pos rfl] at w1
    have cm : ((4503599627370496 : Nat) : Rat) = 4503599627370496 := rfl
    rw [cm] at w1
    have hk2 := zpow_inj_lt (lt_of_le_lt g1 hlt)
    have h51 : (2 : Rat) ^ (q + 51) < mag * 2 ^ place := by
      refine lt_of_lt_le ?_ w1
      rw [e51, hq, hq2]
      have : (2251799813685248 : Rat) * (2 * (2 * 2 ^ (q - 2))) = 9007199254740992 * 2 ^ (q - 2) := by grind
      rw [this]
      exact Rat.mul_lt_mul_of_pos_right (by grind) hpos
    have hk3 := zpow_inj_lt (lt_tr h51 g2)
    have cm2 : ((9007199254740992 : Nat) : Rat) = 9007199254740992 := rfl
    have := nearest_at neg mag 9007199254740992 place (q - 1) hmag (by omega) (by decide)
      (by rw [cm2, show q - 1 - 1 = q - 2 from by omega]; refine Rat.le_trans ?_ w1; exact Rat.mul_le_mul_of_nonneg_right (by grind) (Rat.le_of_lt hpos))
      (by
        rw [cm2, show q - 1 - 1 = q - 2 from by omega]
        refine Rat.le_of_lt (lt_of_lt_le hlt ?_)
        rw [e52, hq, hq2]
        have : (4503599627370496 : Rat) * (2 * (2 * 2 ^ (q - 2))) = 18014398509481984 * 2 ^ (q - 2) := by grind
        rw [this]
        exact Rat.mul_le_mul_of_nonneg_right (by grind) (Rat.le_of_lt hpos))
      (by intro h; exact absurd h (by decide)) (by omega)
    rw [this]
    obtain ⟨z, hz⟩ : ∃ z : Nat, (q + 1074).toNat = z + 1 := ⟨(q + 1074).toNat - 1, by omega⟩
    rw [hz, show (q - 1 + 1074).toNat = z from by omega, Nat.succ_mul, Nat.add_assoc]
end Pb

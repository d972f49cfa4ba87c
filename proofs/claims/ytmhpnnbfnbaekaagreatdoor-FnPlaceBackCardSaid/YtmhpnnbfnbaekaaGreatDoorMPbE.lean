/- Part of the proof of FnPlaceBack: numbers: the shortest digits of a float. No condition. -/
import Derived.Test.YtmhpnnbfnbaekaaGreatDoorMPbD
/- The library's words against the numbers that are meant. -/
namespace Pb

theorem cdiv_le {a b : Nat} (hb : 0 < b) : (a : Rat) ≤ cdiv a b * b ∧ ((cdiv a b : Rat) - 1) * b < a := by
  have h : (a + b - 1) / b * b ≤ a + b - 1 := Nat.div_mul_le_self _ _
  have h2 : a + b - 1 < ((a + b - 1) / b + 1) * b := by
    have := Nat.lt_mul_div_succ (a + b - 1) hb
    rwa [Nat.mul_comm] at this
  unfold cdiv
  generalize (a + b - 1) / b = c at *
  rw [Nat.add_mul] at h2
  have h3 : a ≤ c * b := by omega
  have h4 : c * b < a + b := by omega
  have h3 := cast_le h3
  have h4 := cast_lt h4
  rw [Rat.natCast_mul] at h3
  rw [Rat.natCast_mul, Rat.natCast_add] at h4
  exact ⟨h3, by grind⟩

theorem tab_tau (p : Int) : (tab p : Rat) - 1 < tau p ∧ tau p ≤ tab p := by
  unfold tau tab
  by_cases hp : 0 ≤ p
  · rw [if_pos hp]
    have hl := lp_nonneg hp
    have h2 := two_zpow_sub hl
    have hb := two_pos (lp p).toNat
    obtain ⟨g1, g2⟩ := cdiv_le (a := 10 ^ p.toNat * 2 ^ 127) (b := 2 ^ (lp p).toNat) (Nat.two_pow_pos _)
    rw [Rat.natCast_mul, cast_pow10, cast_pow2, cast_pow2] at g1 g2
    rw [zpow_toNat hp]
    have e : (10 : Rat) ^ p.toNat * 2 ^ (127 - lp p) * 2 ^ (lp p).toNat = 10 ^ p.toNat * 2 ^ 127 := by rw [Rat.mul_assoc, h2]
    generalize (10 : Rat) ^ p.toNat * 2 ^ (127 - lp p) = t at *
    exact ⟨Rat.lt_of_mul_lt_mul_right (by rw [e]; exact g2) (Rat.le_of_lt hb), Rat.le_of_mul_le_mul_right (by rw [e]; exact g1) hb⟩
  · rw [if_neg hp]
    have hl := lp_neg (show p < 0 by omega)
    have h2 := ten_zpow_neg (show p < 0 by omega)
    have hb := ten_pos (-p).toNat
    obtain ⟨g1, g2⟩ := cdiv_le (a := 2 ^ (127 + (-lp p).toNat)) (b := 10 ^ (-p).toNat) (Nat.pow_pos (by decide))
    rw [cast_pow10, cast_pow2] at g1 g2
    rw [pow_split_neg (by omega)]
    have e : (10 : Rat) ^ p * 2 ^ (127 + (-lp p).toNat) * 10 ^ (-p).toNat = 2 ^ (127 + (-lp p).toNat) := by
      have : (10 : Rat) ^ p * 2 ^ (127 + (-lp p).toNat) * 10 ^ (-p).toNat = 2 ^ (127 + (-lp p).toNat) * ((10 : Rat) ^ p * 10 ^ (-p).toNat) := by grind
      rw [this, h2]; grind
    generalize (10 : Rat) ^ p * 2 ^ (127 + (-lp p).toNat) = t at *
    exact ⟨Rat.lt_of_mul_lt_mul_right (by rw [e]; exact g2) (Rat.le_of_lt hb), Rat.le_of_mul_le_mul_right (by rw [e]; exact g1) hb⟩

theorem tab_facts {p : Int} (h1 : -348 ≤ p) (h2 : p ≤ 347) :
    2 ^ 127 ≤ tab p ∧ tab p < 2 ^ 128 ∧ 2 ^ 63 ≤ tabHi p ∧ tabHi p < 2 ^ 64 ∧ tabLo p < 2 ^ 64 ∧ tabHi p * 2 ^ 64 = tab p + tabLo p := by
  have h := tabOk_ok
  unfold tabOk at h
  rw [List.all_eq_true] at h
  have h := h (p + 348).toNat (by simp; omega)
  rw [show ((p + 348).toNat : Int) - 348 = p from by omega] at h
  simp only [Bool.and_eq_true, decide_eq_true_eq] at h
  obtain ⟨⟨⟨⟨⟨a, b⟩, c⟩, d⟩, e⟩, f⟩ := h
  refine ⟨a, b, c, d, e, ?_⟩
  unfold tabLo
  omega

/-- uscale is right where the certificate tells so. -/
theorem us_of_far {p : Int} {c0 n Y l c sh y x g : Nat} (hp1 : -348 ≤ p) (hp2 : p ≤ 347) (hf : Far (c0 * tab p) (2 ^ n) Y (2 ^ l) (c0 * tau p))
    (hx : x = c0 * y * 2 ^ c) (hy0 : 0 < y) (hy : y < Y) (hc0 : 0 < c0) (hx64 : x < 2 ^ 64) (hsh : 128 + sh = n + c + g) (hl : 64 ≤ l + c) {w : Rat} (hw : w * 2 ^ (128 + sh) = x * tau p) :
    us x (tabHi p) (tabLo p) sh = unr w := by
  obtain ⟨_, _, t3, _, t5, t6⟩ := tab_facts hp1 hp2
  obtain ⟨u1, u2⟩ := tab_tau p
  have t6R : (tabHi p : Rat) * 2 ^ 64 - tabLo p = tab p := by
    have := cast_eq t6
    rw [Rat.natCast_mul, Rat.natCast_add, cast_pow2] at this
    grind
  have x0 : 0 < x := by rw [hx]; exact Nat.mul_pos (Nat.mul_pos hc0 hy0) (Nat.two_pow_pos _)
  refine us_eq x0 hx64 t3 t5 (by rw [t6R]; exact u1) (by rw [t6R]; exact u2) hw ?_
  intro z h1 h2
  have e1 : (x * tabHi p * 2 ^ 64 - x * tabLo p : Int) = x * tab p := by
    have := congrArg (Nat.cast (R := Int)) t6
    simp only [Int.natCast_mul, Int.natCast_add, Int.natCast_pow] at this
    have h : (tabHi p : Int) * 2 ^ 64 - tabLo p = tab p := by
      have e2 : ((2 : Nat) : Int) = 2 := rfl
      rw [e2] at this
      omega
    rw [← h]; grind
  rw [e1] at h1 h2
  -- take 2 ^ c out
  have eN : (z : Int) * 2 ^ (128 + sh) = (z * 2 ^ g : Nat) * (2 ^ n : Nat) * 2 ^ c := by
    rw [hsh, Int.pow_add, Int.pow_add]
    simp only [Int.natCast_mul, Int.natCast_pow]
    grind
  have eX : (x : Int) * tab p = y * (c0 * tab p : Nat) * 2 ^ c := by
    rw [hx]
    simp only [Int.natCast_mul, Int.natCast_pow]
    grind
  rw [eN, eX] at h1 h2
  have hc : (0 : Int) < 2 ^ c := by have := Nat.two_pow_pos c; have := Int.ofNat_lt.2 this; simpa using this
  have hlc : (2 : Int) ^ 64 ≤ (2 ^ l : Nat) * 2 ^ c := by
    have := Nat.pow_le_pow_right (n := 2) (by decide) hl
    have := Int.ofNat_le.2 this
    simp only [Int.natCast_pow, Nat.pow_add, Int.natCast_mul] at this ⊢
    exact this
  have d1 : (y * (c0 * tab p : Nat) : Int) - (z * 2 ^ g : Nat) * (2 ^ n : Nat) ≤ (2 ^ l : Nat) := by
    refine Int.le_of_mul_le_mul_right ?_ hc
    rw [Int.sub_mul]; omega
  have d2 : -((2 ^ l : Nat) : Int) ≤ (y * (c0 * tab p : Nat) : Int) - (z * 2 ^ g : Nat) * (2 ^ n : Nat) := by
    refine Int.le_of_mul_le_mul_right ?_ hc
    rw [Int.sub_mul, Int.neg_mul]; omega
  have hfar := hf y (z * 2 ^ g) hy0 hy d1 d2
  rw [hx, hsh, Rat.natCast_mul, Rat.natCast_mul, cast_pow2]
  rw [Rat.natCast_mul, cast_pow2, cast_pow2] at hfar
  have e2 : (2 : Rat) ^ (n + c + g) = 2 ^ n * 2 ^ c * 2 ^ g := by
    rw [two_pow_split, two_pow_split, cast_pow2, cast_pow2]
  rw [e2]
  have : (c0 : Rat) * y * 2 ^ c * tau p = (y * (c0 * tau p)) * 2 ^ c := by grind
  rw [this, hfar]; grind

theorem far_F {q : Int} (h1 : -1074 ≤ q) (h2 : q ≤ 971) :
    3 ≤ q + lp (fp q) + 3 ∧ q + lp (fp q) + 3 ≤ 6 ∧ Far (1 * tab (fp q)) (2 ^ (129 - (q + lp (fp q) + 3).toNat)) (2 ^ 54) (2 ^ 54) ((1 : Nat) * tau (fp q)) := by
  have h := certsF_ok
  unfold certsF at h
  rw [List.all_eq_true] at h
  have h := h (q + 1074).toNat (by simp; omega)
  rw [show ((q + 1074).toNat : Int) - 1074 = q from by omega] at h
  simp only [Bool.and_eq_true, decide_eq_true_eq] at h
  exact ⟨h.1.1, h.1.2, far_of_cert h.2⟩

theorem far_S {q : Int} (h1 : -1074 ≤ q) (h2 : q ≤ 971) :
    2 ≤ q + lp (sp q) + 3 ∧ q + lp (sp q) + 3 ≤ 6 ∧ Far (1 * tab (sp q)) (2 ^ (130 - (q + lp (sp q) + 3).toNat)) (2 ^ 54 + 3) (2 ^ 55) ((1 : Nat) * tau (sp q)) := by
  have h := certsS_ok
  unfold certsS at h
  rw [List.all_eq_true] at h
  have h := h (q + 1074).toNat (by simp; omega)
  rw [show ((q + 1074).toNat : Int) - 1074 = q from by omega] at h
  simp only [Bool.and_eq_true, decide_eq_true_eq] at h
  exact ⟨h.1.1, h.1.2, far_of_cert h.2⟩

theorem far_A {p : Int} (h1 : -345 ≤ p) (h2 : p ≤ 310) : Far (1 * tab p) (2 ^ 129) (2 ^ 57) (2 ^ 57) ((1 : Nat) * tau p) := by
  have h := certsA_ok
  unfold certsA at h
  rw [List.all_eq_true] at h
  have h := h (p + 345).toNat (by simp; omega)
  rw [show ((p + 345).toNat : Int) - 345 = p from by omega] at h
  exact far_of_cert h

theorem far_B {p : Int} (h1 : -345 ≤ p) (h2 : p ≤ 310) : Far (100 * tab p) (2 ^ 136) (2 ^ 64 / 100 + 1) (2 ^ 64) ((100 : Nat) * tau p) := by
  have h := certsB_ok
  unfold certsB at h
  rw [List.all_eq_true] at h
  have h := h (p + 345).toNat (by simp; omega)
  rw [show ((p + 345).toNat : Int) - 345 = p from by omega] at h
  exact far_of_cert h

theorem fp_range {q : Int} (h1 : -1074 ≤ q) (h2 : q ≤ 971) : -348 ≤ fp q ∧ fp q ≤ 347 ∧ -348 ≤ sp q ∧ sp q ≤ 347 := by
  unfold fp sp; omega

/-- The scale of a number: 4 x 2 ^ e 10 ^ p. -/
theorem scale_eq {x : Rat} {e p : Int} {sh : Nat} (h : (sh : Int) = -(e + lp p + 3)) : (4 * (x * 2 ^ e * 10 ^ p)) * 2 ^ (128 + sh) = x * tau p := by
  unfold tau
  have e1 : (2 : Rat) ^ (128 + sh) = 2 ^ ((128 : Int) + sh) := by rw [← Rat.zpow_natCast]; rfl
  have e2 : (2 : Rat) ^ e * 2 ^ ((128 : Int) + sh) * 2 ^ (2 : Int) = 2 ^ (127 - lp p) := by
    rw [← Rat.zpow_add two_ne, ← Rat.zpow_add two_ne]
    congr 1
    omega
  have e3 : (2 : Rat) ^ (2 : Int) = 4 := rfl
  rw [e1, ← e2, e3]
  grind

theorem us_short {m : Nat} {q : Int} {s : Nat} (h : Fits m q) (h1 : 2 ^ 63 ≤ m * 2 ^ s) (h2 : m * 2 ^ s < 2 ^ 64) :
    (0 ≤ (s : Int) - (q + lp (shP m q) + 3) ∧ (s : Int) - (q + lp (shP m q) + 3) < 64) ∧ 11 ≤ s ∧ s ≤ 63 ∧ -348 ≤ shP m q ∧ shP m q ≤ 347 ∧
    us (m * 2 ^ s - (if skew m q then 2 ^ (s - 2) else 2 ^ (s - 1))) (tabHi (shP m q)) (tabLo (shP m q)) ((s : Int) - (q + lp (shP m q) + 3)).toNat = unr (4 * (low m q * 10 ^ shP m q)) ∧
    us (m * 2 ^ s + 2 ^ (s - 1)) (tabHi (shP m q)) (tabLo (shP m q)) ((s : Int) - (q + lp (shP m q) + 3)).toNat = unr (4 * (up m q * 10 ^ shP m q)) ∧
    us (m * 2 ^ s) (tabHi (shP m q)) (tabLo (shP m q)) ((s : Int) - (q + lp (shP m q) + 3)).toNat = unr (4 * (m * 2 ^ q * 10 ^ shP m q)) ∧
    m * 2 ^ s + 2 ^ (s - 1) < 2 ^ 64 ∧ 2 ^ (s - 1) < m * 2 ^ s := by
  obtain ⟨m0, m1, q0, q1, hn⟩ := h
  have hs11 : 11 ≤ s := by
    rcases Nat.lt_or_ge s 11 with hlt | hge
    · exfalso
      have : m * 2 ^ s ≤ m * 2 ^ 10 := Nat.mul_le_mul_left _ (Nat.pow_le_pow_right (by decide) (by omega))
      omega
    · exact hge
  have hs63 : s ≤ 63 := by
    rcases Nat.lt_or_ge 63 s with hlt | hge
    · exfalso
      have : 1 * 2 ^ 64 ≤ m * 2 ^ s := Nat.mul_le_mul (by omega) (Nat.pow_le_pow_right (by decide) (by omega))
      omega
    · exact hge
  obtain ⟨r1, r2, r3, r4⟩ := fp_range q0 q1
  obtain ⟨s', rfl⟩ : ∃ n, s = n + 2 := ⟨s - 2, by omega⟩
  have e2 : 2 ^ (s' + 2) = 4 * 2 ^ s' := by rw [Nat.pow_add]; omega
  have e1 : 2 ^ (s' + 1) = 2 * 2 ^ s' := by rw [Nat.pow_add]; omega
  have w2 : ∀ k : Nat, (2 : Rat) ^ (q - ((s' : Int) + 2)) * 2 ^ (s' + k) = 2 ^ (q - 2 + k) := by
    intro k
    rw [← Rat.zpow_natCast, ← Rat.zpow_add two_ne]
    congr 1
    omega
  -- up: (2 m + 1) 2 ^ (s' + 1) < 2 ^ 64
  have hup : m * 2 ^ (s' + 2) + 2 ^ (s' + 1) < 2 ^ 64 := by
    rw [e2, e1]
    rw [e2] at h2
    -- 4 m 2^s' < 2^64 and all are multiples of 2 ^ (s' + 2)
    have hd : m * 2 ^ (s' + 2) + 2 ^ (s' + 2) ≤ 2 ^ 64 := by
      have : m < 2 ^ (62 - s') := by
        rcases Nat.lt_or_ge m (2 ^ (62 - s')) with h | h
        · exact h
        · exfalso
          have := Nat.mul_le_mul_right (4 * 2 ^ s') h
          have h64 : 2 ^ (62 - s') * (4 * 2 ^ s') = 2 ^ 64 := by
            rw [← e2, ← Nat.pow_add]; congr 1; omega
          omega
      have := Nat.mul_le_mul_right (2 ^ (s' + 2)) this
      have h64 : 2 ^ (62 - s') * 2 ^ (s' + 2) = 2 ^ 64 := by rw [← Nat.pow_add]; congr 1; omega
      rw [Nat.succ_mul] at this
      omega
    rw [e2] at hd
    have := Nat.two_pow_pos s'
    omega
  have hlt : 2 ^ (s' + 1) < m * 2 ^ (s' + 2) := by
    have : 1 * 2 ^ (s' + 2) ≤ m * 2 ^ (s' + 2) := Nat.mul_le_mul_right _ (by omega)
    have := Nat.two_pow_pos s'
    omega
  by_cases hs : skew m q = true
  · have hm : m = 2 ^ 52 ∧ -1074 < q := by unfold skew at hs; simp at hs; omega
    have hP : shP m q = sp q := by unfold shP; rw [if_pos hs]
    have hs9 : s' = 9 := by
      rcases Nat.lt_or_ge s' 9 with h | h
      · omega
      · rcases Nat.lt_or_ge 9 s' with h' | h'
        · exfalso
          have : 2 ^ 52 * 2 ^ 12 ≤ m * 2 ^ (s' + 2) := by rw [hm.1]; exact Nat.mul_le_mul_left _ (Nat.pow_le_pow_right (by decide) (by omega))
          omega
        · omega
    subst hs9
    obtain ⟨k1, k2, hf⟩ := far_S q0 q1
    rw [hP]
    have hmR : (m : Rat) = 2 ^ 52 := by rw [hm.1, cast_pow2]
    have core : ∀ (y : Nat) (v : Rat), 0 < y → y < 2 ^ 54 + 3 → y * 2 ^ 9 < 2 ^ 64 → v = y * 2 ^ (q - 2) →
        us (y * 2 ^ 9) (tabHi (sp q)) (tabLo (sp q)) (((9 + 2 : Nat) : Int) - (q + lp (sp q) + 3)).toNat = unr (4 * (v * 10 ^ sp q)) := by
      intro y v y0 y1 y2 hv
      refine us_of_far (p := sp q) (c0 := 1) (y := y) (c := 9) (g := 0) r3 r4 hf (by omega) y0 y1 (by decide) y2 (by omega) (by omega) ?_
      have := scale_eq (x := ((y * 2 ^ 9 : Nat) : Rat)) (e := q - (11 : Nat)) (p := sp q) (sh := (((9 + 2 : Nat) : Int) - (q + lp (sp q) + 3)).toNat) (by omega)
      rw [← this, hv]
      have w0 := w2 0
      simp only [Nat.add_zero] at w0
      rw [Rat.natCast_mul, cast_pow2]
      have w0 : (2 : Rat) ^ (q - (11 : Nat)) * 2 ^ 9 = 2 ^ (q - 2) := by
        have e := w0
        rw [show q - 2 + ((0 : Nat) : Int) = q - 2 from by omega] at e
        exact e
      rw [← w0]
      grind
    refine ⟨by omega, hs11, hs63, r3, r4, ?_, ?_, ?_, hup, hlt⟩
    · rw [if_pos hs]
      have hx : m * 2 ^ (9 + 2) - 2 ^ (9 + 2 - 2) = (2 ^ 54 - 1) * 2 ^ 9 := by rw [hm.1]
      rw [hx]
      refine core (2 ^ 54 - 1) (low m q) (by decide) (by decide) (by decide) ?_
      unfold low
      rw [if_pos hs, hmR]
      have e : (((2 ^ 54 - 1 : Nat)) : Rat) = 4 * 2 ^ 52 - 1 := by decide +kernel
      rw [e]
    · have hx : m * 2 ^ (9 + 2) + 2 ^ (9 + 2 - 1) = (2 ^ 54 + 2) * 2 ^ 9 := by rw [hm.1]
      rw [hx]
      refine core (2 ^ 54 + 2) (up m q) (by decide) (by decide) (by decide) ?_
      unfold up
      have p4 := two_zpow_pred (q - 1)
      rw [show q - 1 - 1 = q - 2 from by omega] at p4
      rw [hmR, p4]
      have e : (((2 ^ 54 + 2 : Nat)) : Rat) = (2 * 2 ^ 52 + 1) * 2 := by decide +kernel
      rw [e]; grind
    · have hx : m * 2 ^ (9 + 2) = 2 ^ 54 * 2 ^ 9 := by rw [hm.1]
      rw [hx]
      refine core (2 ^ 54) (m * 2 ^ q) (by decide) (by decide) (by decide) ?_
      have p2 := two_zpow_pred q
      have p4 := two_zpow_pred (q - 1)
      rw [show q - 1 - 1 = q - 2 from by omega] at p4
      rw [hmR, p2, p4]
      have e : (((2 ^ 54 : Nat)) : Rat) = 2 ^ 52 * 2 * 2 := by decide +kernel
      rw [e]; grind
  · have hP : shP m q = fp q := by unfold shP; rw [if_neg hs]
    obtain ⟨k1, k2, hf⟩ := far_F q0 q1
    rw [hP]
    have core : ∀ (y : Nat) (v : Rat), 0 < y → y < 2 ^ 54 → y * 2 ^ (s' + 1) < 2 ^ 64 → v = y * 2 ^ (q - 1) →
        us (y * 2 ^ (s' + 1)) (tabHi (fp q)) (tabLo (fp q)) (((s' + 2 : Nat) : Int) - (q + lp (fp q) + 3)).toNat = unr (4 * (v * 10 ^ fp q)) := by
      intro y v y0 y1 y2 hv
      refine us_of_far (p := fp q) (c0 := 1) (y := y) (c := s' + 1) (g := 0) r1 r2 hf (by rw [Nat.one_mul]) y0 y1 (by decide) y2 (by omega) (by omega) ?_
      have := scale_eq (x := ((y * 2 ^ (s' + 1) : Nat) : Rat)) (e := q - ((s' : Int) + 2)) (p := fp q) (sh := (((s' + 2 : Nat) : Int) - (q + lp (fp q) + 3)).toNat) (by omega)
      rw [← this, hv, Rat.natCast_mul, cast_pow2]
      have w0 := w2 1
      rw [show q - 2 + ((1 : Nat) : Int) = q - 1 from by omega] at w0
      rw [← w0]
      grind
    refine ⟨by omega, hs11, hs63, r1, r2, ?_, ?_, ?_, hup, hlt⟩
    · rw [if_neg hs]
      have hx : m * 2 ^ (s' + 2) - 2 ^ (s' + 2 - 1) = (2 * m - 1) * 2 ^ (s' + 1) := by
        rw [show s' + 2 - 1 = s' + 1 from by omega, Nat.sub_mul, e2, e1, Nat.one_mul]
        congr 1
        grind
      rw [hx]
      refine core (2 * m - 1) (low m q) (by omega) (by omega) (by rw [← hx]; exact Nat.lt_of_le_of_lt (Nat.sub_le _ _) h2) ?_
      unfold low
      rw [if_neg hs]
      congr 1
      have : ((2 * m - 1 + 1 : Nat) : Rat) = ((2 * m : Nat) : Rat) := by congr 1; omega
      rw [Rat.natCast_add, Rat.natCast_mul] at this
      have c1 : ((1 : Nat) : Rat) = 1 := rfl
      have c2 : ((2 : Nat) : Rat) = 2 := rfl
      grind
    · have hx : m * 2 ^ (s' + 2) + 2 ^ (s' + 2 - 1) = (2 * m + 1) * 2 ^ (s' + 1) := by
        rw [show s' + 2 - 1 = s' + 1 from by omega, e2, e1]; grind
      rw [hx]
      refine core (2 * m + 1) (up m q) (by omega) (by omega) (by rw [← hx]; exact hup) ?_
      unfold up
      rw [Rat.natCast_add, Rat.natCast_mul]
      rfl
    · have hx : m * 2 ^ (s' + 2) = (2 * m) * 2 ^ (s' + 1) := by rw [e2, e1]; grind
      rw [hx]
      refine core (2 * m) (m * 2 ^ q) (by omega) (by omega) (by rw [← hx]; exact h2) ?_
      have p2 := two_zpow_pred q
      rw [p2, Rat.natCast_mul]
      have c2 : ((2 : Nat) : Rat) = 2 := rfl
      rw [c2]; grind
end Pb

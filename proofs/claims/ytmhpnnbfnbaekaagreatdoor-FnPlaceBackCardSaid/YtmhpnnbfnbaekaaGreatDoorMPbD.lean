/- Part of the proof of FnPlaceBack: numbers: exactness of a scaled product. No condition. -/
import Derived.Test.YtmhpnnbfnbaekaaGreatDoorMPbABC
/- The shortest digits lie where they are read back. -/
namespace Pb

theorem or_one (f : Nat) : f ||| 1 = if f % 2 = 0 then f + 1 else f := by
  have h := Nat.or_mod_two_pow (a := f) (b := 1) (n := 1)
  have h2 := Nat.or_div_two_pow (a := f) (b := 1) (n := 1)
  simp at h2
  have e : (f ||| 1) % 2 = 1 := by
    rw [show (2 : Nat) = 2 ^ 1 from rfl, h]
    rcases Nat.mod_two_eq_zero_or_one f with h | h <;> simp [h]
  split <;> omega

/-- Comparing with an even number sees through the folding. -/
theorem unr_le {w : Rat} (hw : 0 ≤ w) (k : Nat) : unr w ≤ 2 * k ↔ w ≤ ((2 * k : Nat) : Rat) := by
  have hf := Rat.floor_le w
  have hg := Rat.lt_floor_add_one w
  have hf0 : 0 ≤ w.floor := Rat.le_floor_iff.2 hw
  unfold unr
  generalize hF : w.floor = F at *
  obtain ⟨n, rfl⟩ : ∃ n : Nat, F = n := ⟨F.toNat, by omega⟩
  simp only [Int.toNat_natCast, Rat.intCast_natCast] at *
  rw [Rat.intCast_add, Rat.intCast_natCast] at hg
  have hg : w < (n : Rat) + 1 := hg
  split
  · rename_i h
    rw [← h, Rat.natCast_le_natCast]
  · rename_i h
    have hlt : (n : Rat) < w := Rat.lt_of_le_of_ne hf h
    have : n ||| 1 ≤ 2 * k ↔ n + 1 ≤ 2 * k := by rw [or_one]; split <;> omega
    rw [this]
    constructor
    · intro h1
      have := Rat.natCast_le_natCast.2 h1
      rw [Rat.natCast_add] at this
      have e1 : ((1 : Nat) : Rat) = 1 := rfl
      grind
    · intro h1
      have h2 : (n : Rat) < ((2 * k : Nat) : Rat) := by grind
      have := Rat.natCast_lt_natCast.1 h2
      omega

theorem le_unr {w : Rat} (hw : 0 ≤ w) (k : Nat) : 2 * k ≤ unr w ↔ ((2 * k : Nat) : Rat) ≤ w := by
  have hf := Rat.floor_le w
  have hg := Rat.lt_floor_add_one w
  have hf0 : 0 ≤ w.floor := Rat.le_floor_iff.2 hw
  unfold unr
  generalize hF : w.floor = F at *
  obtain ⟨n, rfl⟩ : ∃ n : Nat, F = n := ⟨F.toNat, by omega⟩
  simp only [Int.toNat_natCast, Rat.intCast_natCast] at *
  rw [Rat.intCast_add, Rat.intCast_natCast] at hg
  have hg : w < (n : Rat) + 1 := hg
  split
  · rename_i h
    rw [← h, Rat.natCast_le_natCast]
  · rename_i h
    have : 2 * k ≤ n ||| 1 ↔ 2 * k ≤ n := by rw [or_one]; split <;> omega
    rw [this]
    constructor
    · intro h1
      have := Rat.natCast_le_natCast.2 h1
      grind
    · intro h1
      have h2 : ((2 * k : Nat) : Rat) < ((n + 1 : Nat) : Rat) := by
        rw [Rat.natCast_add]
        have e1 : ((1 : Nat) : Rat) = 1 := rfl
        grind
      have := Rat.natCast_lt_natCast.1 h2
      omega

/-- A number of the format. -/
def Fits (m : Nat) (q : Int) : Prop := 0 < m ∧ m < 2 ^ 53 ∧ -1074 ≤ q ∧ q ≤ 971 ∧ (q = -1074 ∨ 2 ^ 52 ≤ m)
def skew (m : Nat) (q : Int) : Bool := m == 2 ^ 52 && decide (-1074 < q)
def low (m : Nat) (q : Int) : Rat := if skew m q then (4 * m - 1) * 2 ^ (q - 2) else (2 * m - 1) * 2 ^ (q - 1)
def up (m : Nat) (q : Int) : Rat := (2 * m + 1) * 2 ^ (q - 1)
/-- What is read back as m * 2 ^ q. -/
def Within (m : Nat) (q : Int) (v : Rat) : Prop := low m q ≤ v ∧ v ≤ up m q ∧ (m % 2 = 1 → low m q < v ∧ v < up m q)

/-- A bound on m * 2 ^ q * 10 ^ p, both ways, by whole numbers: num / den of 2 ^ q * 10 ^ p. -/
def num (q p : Int) : Nat := 2 ^ q.toNat * 10 ^ p.toNat
def den (q p : Int) : Nat := 2 ^ (-q).toNat * 10 ^ (-p).toNat

theorem zpow_split {b : Rat} (hb : b ≠ 0) (q : Int) : b ^ q * b ^ (-q).toNat = b ^ q.toNat := by
  rcases Int.le_total 0 q with h | h
  · rw [show (-q).toNat = 0 from by omega, Rat.pow_zero, Rat.mul_one, zpow_toNat h]
  · rw [show q.toNat = 0 from by omega, Rat.pow_zero, ← zpow_toNat (by omega), ← Rat.zpow_add hb, show q + -q = 0 from by omega, Rat.zpow_zero]

theorem unit_eq (q p : Int) : (2 : Rat) ^ q * 10 ^ p * (den q p : Rat) = (num q p : Rat) := by
  unfold den num
  rw [Rat.natCast_mul, Rat.natCast_mul, cast_pow2, cast_pow10, cast_pow2, cast_pow10, ← zpow_split two_ne q, ← zpow_split ten_ne p]
  grind

theorem den_pos (q p : Int) : 0 < den q p := by
  unfold den
  exact Nat.mul_pos (Nat.two_pow_pos _) (Nat.pow_pos (by decide))

def unitsF (n : Nat) : Bool := (List.range n).all fun i =>
  let q : Int := (i : Int) - 1074
  let a := num q (fp q); let b := den q (fp q)
  (decide (b < a) || decide (q = 0)) && decide (b ≤ a) && decide (a < 10 * b)
def unitsS (n : Nat) : Bool := (List.range n).all fun i =>
  let q : Int := (i : Int) - 1074
  let a := num q (sp q); let b := den q (sp q)
  decide (4 * b ≤ 3 * a) && decide (3 * a < 40 * b)
theorem unitsF_ok : unitsF 2046 = true := by decide +kernel
theorem unitsS_ok : unitsS 2046 = true := by decide +kernel

theorem cast_le {a b : Nat} (h : a ≤ b) : (a : Rat) ≤ (b : Rat) := Rat.natCast_le_natCast.2 h
theorem cast_lt {a b : Nat} (h : a < b) : (a : Rat) < (b : Rat) := Rat.natCast_lt_natCast.2 h

theorem unitF {q : Int} (h1 : -1074 ≤ q) (h2 : q ≤ 971) :
    1 ≤ (2 : Rat) ^ q * 10 ^ (fp q) ∧ (2 : Rat) ^ q * 10 ^ (fp q) < 10 ∧ (q ≠ 0 → 1 < (2 : Rat) ^ q * 10 ^ (fp q)) := by
  have h := unitsF_ok
  unfold unitsF at h
  rw [List.all_eq_true] at h
  have h := h (q + 1074).toNat (by simp; omega)
  rw [show ((q + 1074).toNat : Int) - 1074 = q from by omega] at h
  simp only [Bool.and_eq_true, Bool.or_eq_true, decide_eq_true_eq] at h
  obtain ⟨⟨h3, h4⟩, h5⟩ := h
  have hu := unit_eq q (fp q)
  have hd : (0 : Rat) < (den q (fp q) : Rat) := Rat.natCast_pos.2 (den_pos _ _)
  have h4 := cast_le h4
  have h5 := cast_lt h5
  have h3 : (den q (fp q) : Rat) < (num q (fp q) : Rat) ∨ q = 0 := h3.imp cast_lt id
  rw [Rat.natCast_mul] at h5
  have e10 : ((10 : Nat) : Rat) = 10 := rfl
  generalize (2 : Rat) ^ q * 10 ^ (fp q) = U at *
  generalize (den q (fp q) : Rat) = D at *
  refine ⟨?_, ?_, ?_⟩
  · exact Rat.le_of_mul_le_mul_right (c := D) (by rw [hu]; grind) hd
  · exact Rat.lt_of_mul_lt_mul_right (c := D) (by rw [hu]; grind) (Rat.le_of_lt hd)
  · intro hq
    rcases h3 with h3 | h3
    · exact Rat.lt_of_mul_lt_mul_right (c := D) (by rw [hu]; grind) (Rat.le_of_lt hd)
    · exact absurd h3 hq

theorem unitS {q : Int} (h1 : -1074 ≤ q) (h2 : q ≤ 971) :
    4 ≤ 3 * ((2 : Rat) ^ q * 10 ^ (sp q)) ∧ 3 * ((2 : Rat) ^ q * 10 ^ (sp q)) < 40 := by
  have h := unitsS_ok
  unfold unitsS at h
  rw [List.all_eq_true] at h
  have h := h (q + 1074).toNat (by simp; omega)
  rw [show ((q + 1074).toNat : Int) - 1074 = q from by omega] at h
  simp only [Bool.and_eq_true, decide_eq_true_eq] at h
  obtain ⟨h4, h5⟩ := h
  have hu := unit_eq q (sp q)
  have hd : (0 : Rat) < (den q (sp q) : Rat) := Rat.natCast_pos.2 (den_pos _ _)
  have h4 := cast_le h4
  have h5 := cast_lt h5
  rw [Rat.natCast_mul, Rat.natCast_mul] at h4 h5
  have e3 : ((3 : Nat) : Rat) = 3 := rfl
  have e4 : ((4 : Nat) : Rat) = 4 := rfl
  have e40 : ((40 : Nat) : Rat) = 40 := rfl
  generalize (2 : Rat) ^ q * 10 ^ (sp q) = U at *
  generalize (den q (sp q) : Rat) = D at *
  refine ⟨?_, ?_⟩
  · exact Rat.le_of_mul_le_mul_right (c := D) (by rw [Rat.mul_assoc, hu]; grind) hd
  · exact Rat.lt_of_mul_lt_mul_right (c := D) (by rw [Rat.mul_assoc, hu]; grind) (Rat.le_of_lt hd)

/-- Rounding an unrounded number to a whole one, halves to even. -/
def rnd (u : Nat) : Nat := (u + 1 + u / 4 % 2) / 4

theorem quad (d : Nat) : ((2 * (2 * d) : Nat) : Rat) = 4 * (d : Rat) := by
  rw [Rat.natCast_mul, Rat.natCast_mul]
  have e2 : ((2 : Nat) : Rat) = 2 := rfl
  grind

theorem ceil_iff {a : Rat} (ha : 0 ≤ a) {o : Nat} (ho : o < 2) (d : Nat) :
    (unr (4 * a) + o + 3) / 4 ≤ d ↔ (a ≤ d ∧ (o = 1 → a < d)) := by
  have h1 := unr_le (w := 4 * a) (by grind) (2 * d)
  have h2 := le_unr (w := 4 * a) (by grind) (2 * d)
  rw [quad] at h1 h2
  rcases (show o = 0 ∨ o = 1 by omega) with rfl | rfl
  · have : (unr (4 * a) + 0 + 3) / 4 ≤ d ↔ unr (4 * a) ≤ 2 * (2 * d) := by omega
    rw [this, h1]
    constructor
    · intro h; exact ⟨by grind, fun h => by omega⟩
    · intro h; grind
  · have : (unr (4 * a) + 1 + 3) / 4 ≤ d ↔ ¬ 2 * (2 * d) ≤ unr (4 * a) := by omega
    rw [this, h2]
    constructor
    · intro h
      have h : 4 * a < 4 * (d : Rat) := Rat.not_le.1 h
      exact ⟨by grind, fun _ => by grind⟩
    · intro h h3
      have := h.2 rfl
      grind

theorem floor_iff {b : Rat} (hb : 0 < b) {o : Nat} (ho : o < 2) (d : Nat) :
    d ≤ (unr (4 * b) - o) / 4 ↔ ((d : Rat) ≤ b ∧ (o = 1 → (d : Rat) < b)) := by
  have h1 := unr_le (w := 4 * b) (by grind) (2 * d)
  have h2 := le_unr (w := 4 * b) (by grind) (2 * d)
  have h3 := unr_le (w := 4 * b) (by grind) 0
  rw [quad] at h1 h2
  have h3 : ¬ unr (4 * b) ≤ 2 * 0 := by
    rw [h3]
    have e0 : ((2 * 0 : Nat) : Rat) = 0 := rfl
    rw [e0]; grind
  rcases (show o = 0 ∨ o = 1 by omega) with rfl | rfl
  · have : d ≤ (unr (4 * b) - 0) / 4 ↔ 2 * (2 * d) ≤ unr (4 * b) := by omega
    rw [this, h2]
    constructor
    · intro h; exact ⟨by grind, fun h => by omega⟩
    · intro h; grind
  · have : d ≤ (unr (4 * b) - 1) / 4 ↔ ¬ unr (4 * b) ≤ 2 * (2 * d) := by omega
    rw [this, h1]
    constructor
    · intro h
      have h : 4 * (d : Rat) < 4 * b := Rat.not_le.1 h
      exact ⟨by grind, fun _ => by grind⟩
    · intro h h3
      have := h.2 rfl
      grind

theorem rnd_near {c : Rat} (hc : 0 < c) : (c ≤ (rnd (unr (4 * c)) : Rat) + 1 / 2) ∧ ((rnd (unr (4 * c)) : Rat) - 1 / 2 ≤ c) := by
  generalize hu : unr (4 * c) = u
  have k1 : ∀ k, u ≤ 2 * k ↔ 4 * c ≤ ((2 * k : Nat) : Rat) := fun k => hu ▸ unr_le (by grind) k
  have k2 : ∀ k, 2 * k ≤ u ↔ ((2 * k : Nat) : Rat) ≤ 4 * c := fun k => hu ▸ le_unr (by grind) k
  have e2 : ((2 : Nat) : Rat) = 2 := rfl
  have e1 : ((1 : Nat) : Rat) = 1 := rfl
  unfold rnd
  generalize hr : (u + 1 + u / 4 % 2) / 4 = r
  have a1 : u ≤ 2 * (2 * r + 1) := by omega
  have a2 : 2 * (2 * r) ≤ u + 2 := by omega
  rw [k1, Rat.natCast_mul, Rat.natCast_add, Rat.natCast_mul] at a1
  refine ⟨by grind, ?_⟩
  rcases Nat.eq_zero_or_pos r with h0 | h0
  · subst h0
    have e0 : ((0 : Nat) : Rat) = 0 := rfl
    grind
  · obtain ⟨r', rfl⟩ : ∃ n, r = n + 1 := ⟨r - 1, by omega⟩
    have a3 : 2 * (2 * r' + 1) ≤ u := by omega
    rw [k2, Rat.natCast_mul, Rat.natCast_add, Rat.natCast_mul] at a3
    rw [Rat.natCast_add]
    grind

/-- The choice among the whole numbers between two bounds. -/
theorem pick {a b c : Rat} {o dmin dmax dm : Nat} (ho : o < 2) (ha : 0 < a) (h1 : a < c) (h2 : c - a ≤ b - c) (h3 : b - c ≤ 2 * (c - a))
    (hw : 1 ≤ b - a) (hodd : o = 1 → b - a = 1 → ∀ n : Nat, (n : Rat) ≠ a)
    (e1 : dmin = (unr (4 * a) + o + 3) / 4) (e2 : dmax = (unr (4 * b) - o) / 4) (e3 : dm = rnd (unr (4 * c))) :
    ∃ d k : Nat, (if dmin ≤ dmax / 10 * 10 then (dmax / 10, 1) else if dmin < dmax then (dm, 0) else (dmin, 0)) = (d, k) ∧ k ≤ 1 ∧
      a ≤ (d * 10 ^ k : Nat) ∧ ((d * 10 ^ k : Nat) : Rat) ≤ b ∧ (o = 1 → a < (d * 10 ^ k : Nat) ∧ ((d * 10 ^ k : Nat) : Rat) < b) ∧ 0 < d := by
  have hmin : ∀ d : Nat, dmin ≤ d ↔ (a ≤ d ∧ (o = 1 → a < d)) := fun d => e1 ▸ ceil_iff (by grind) ho d
  have hmax : ∀ d : Nat, d ≤ dmax ↔ ((d : Rat) ≤ b ∧ (o = 1 → (d : Rat) < b)) := fun d => e2 ▸ floor_iff (by grind) ho d
  have c1 : ((1 : Nat) : Rat) = 1 := rfl
  have c2 : ((2 : Nat) : Rat) = 2 := rfl
  have c0 : ((0 : Nat) : Rat) = 0 := rfl
  have hpos : ∀ d : Nat, dmin ≤ d → 0 < d := by
    intro d hd
    have := ((hmin d).1 hd).1
    rcases Nat.eq_zero_or_pos d with h | h
    · subst h; exfalso; grind
    · exact h
  have inside : ∀ d : Nat, dmin ≤ d → d ≤ dmax → a ≤ d ∧ (d : Rat) ≤ b ∧ (o = 1 → a < d ∧ (d : Rat) < b) := by
    intro d hd1 hd2
    have g1 := (hmin d).1 hd1
    have g2 := (hmax d).1 hd2
    exact ⟨g1.1, g2.1, fun h => ⟨g1.2 h, g2.2 h⟩⟩
  have hmm : dmin ≤ dmax := by
    rw [hmax]
    have hp := hpos dmin (Nat.le_refl _)
    obtain ⟨n, hn⟩ : ∃ n, dmin = n + 1 := ⟨dmin - 1, by omega⟩
    have hnot : ¬ (a ≤ n ∧ (o = 1 → a < n)) := by rw [← hmin]; omega
    have cn : ((dmin : Nat) : Rat) = n + 1 := by rw [hn, Rat.natCast_add]; rfl
    rcases (show o = 0 ∨ o = 1 by omega) with rfl | rfl
    · have : ¬ a ≤ n := fun h => hnot ⟨h, fun h => by omega⟩
      have := Rat.not_le.1 this
      exact ⟨by grind, fun h => by omega⟩
    · have hle : (n : Rat) ≤ a := by
        have : ¬ a < n := fun h' => hnot ⟨Rat.le_of_lt h', fun _ => h'⟩
        exact Rat.not_lt.1 this
      have hlt : (dmin : Rat) < b := by
        by_cases hb : b - a = 1
        · have := hodd rfl hb n
          grind
        · grind
      exact ⟨Rat.le_of_lt hlt, fun _ => hlt⟩
  by_cases g : dmin ≤ dmax / 10 * 10
  · rw [if_pos g]
    refine ⟨dmax / 10, 1, rfl, Nat.le_refl _, ?_⟩
    have := inside (dmax / 10 * 10 ^ 1) (by simpa using g) (by omega)
    exact ⟨this.1, this.2.1, this.2.2, by have := hpos _ g; omega⟩
  · rw [if_neg g]
    by_cases g2 : dmin < dmax
    · rw [if_pos g2]
      refine ⟨dm, 0, rfl, by omega, ?_⟩
      have hn := rnd_near (c := c) (by grind)
      rw [← e3] at hn
      have hlo : dmin ≤ dm := by
        rcases Nat.lt_or_ge dm dmin with h | h
        · exfalso
          have g3 := ((hmax dmax).1 (Nat.le_refl _)).1
          have : dm + 2 ≤ dmax := by omega
          have := cast_le this
          rw [Rat.natCast_add] at this
          have hm := (hmin dm).2
          have : ¬ (a ≤ dm ∧ (o = 1 → a < dm)) := fun h' => by have := hm h'; omega
          by_cases h6 : a < dm
          · exact this ⟨Rat.le_of_lt h6, fun _ => h6⟩
          · have := Rat.not_lt.1 h6
            grind
        · exact h
      have hhi : dm ≤ dmax := by
        rcases Nat.lt_or_ge dmax dm with h | h
        · exfalso
          have g3 := ((hmin dmin).1 (Nat.le_refl _)).1
          have : dmin + 2 ≤ dm := by omega
          have := cast_le this
          rw [Rat.natCast_add] at this
          have hm := (hmax dm).2
          have : ¬ ((dm : Rat) ≤ b ∧ (o = 1 → (dm : Rat) < b)) := fun h' => by have := hm h'; omega
          by_cases h6 : (dm : Rat) < b
          · exact this ⟨Rat.le_of_lt h6, fun _ => h6⟩
          · have := Rat.not_lt.1 h6
            grind
        · exact h
      have := inside dm hlo hhi
      rw [show dm * 10 ^ 0 = dm by simp]
      exact ⟨this.1, this.2.1, this.2.2, hpos _ hlo⟩
    · rw [if_neg g2]
      refine ⟨dmin, 0, rfl, by omega, ?_⟩
      have := inside dmin (Nat.le_refl _) hmm
      rw [show dmin * 10 ^ 0 = dmin by simp]
      exact ⟨this.1, this.2.1, this.2.2, hpos _ (Nat.le_refl _)⟩

def shP (m : Nat) (q : Int) : Int := if skew m q then sp q else fp q
/-- The digits and the exponent, by the numbers that are meant. -/
def shortU (m : Nat) (q : Int) : Nat × Int :=
  let p := shP m q
  let dmin := (unr (4 * (low m q * 10 ^ p)) + m % 2 + 3) / 4
  let dmax := (unr (4 * (up m q * 10 ^ p)) - m % 2) / 4
  let dm := rnd (unr (4 * (m * 2 ^ q * 10 ^ p)))
  if dmin ≤ dmax / 10 * 10 then (dmax / 10, 1 - p) else if dmin < dmax then (dm, -p) else (dmin, -p)

theorem two_zpow_pred (q : Int) : (2 : Rat) ^ q = 2 * 2 ^ (q - 1) := by
  rw [show q = (q - 1) + 1 from by omega, Rat.zpow_add_one two_ne, show q - 1 + 1 - 1 = q - 1 from by omega]; grind

theorem shortU_ok {m : Nat} {q : Int} (h : Fits m q) :
    ∃ d e, shortU m q = (d, e) ∧ 0 < d ∧ d < 10 ^ 17 ∧ Within m q (d * 10 ^ e) := by
  obtain ⟨m0, m1, q0, q1, hn⟩ := h
  have hmod : m % 2 < 2 := Nat.mod_lt _ (by decide)
  have c1 : ((1 : Nat) : Rat) = 1 := rfl
  have m0R : (1 : Rat) ≤ m := by have := cast_le (show 1 ≤ m by omega); rwa [c1] at this
  have m1R : (m : Rat) + 1 ≤ 2 ^ 53 := by
    have := cast_le (show m + 1 ≤ 2 ^ 53 by omega)
    rw [Rat.natCast_add, cast_pow2] at this
    exact this
  have p2 := two_zpow_pred q
  have p4 := two_zpow_pred (q - 1)
  rw [show q - 1 - 1 = q - 2 from by omega] at p4
  have tpos : (0 : Rat) < 2 ^ (q - 2) := Rat.zpow_pos (by decide)
  -- the two bounds, scaled
  have key : ∀ (p : Int) (lo : Rat), shP m q = p → low m q = lo → 0 < lo → lo < m * 2 ^ q → m * 2 ^ q - lo ≤ up m q - m * 2 ^ q → up m q - m * 2 ^ q ≤ 2 * (m * 2 ^ q - lo) →
      1 ≤ up m q * 10 ^ p - lo * 10 ^ p → (m % 2 = 1 → up m q * 10 ^ p - lo * 10 ^ p = 1 → ∀ n : Nat, (n : Rat) ≠ lo * 10 ^ p) → up m q * 10 ^ p < 10 ^ 17 →
      ∃ d e, shortU m q = (d, e) ∧ 0 < d ∧ d < 10 ^ 17 ∧ Within m q (d * 10 ^ e) := by
    intro p lo hp hlo l0 l1 l2 l3 l4 l5 l6
    have tp : (0 : Rat) < 10 ^ p := Rat.zpow_pos (by decide)
    obtain ⟨d, k, hd, hk, g1, g2, g3, g4⟩ := pick (a := lo * 10 ^ p) (b := up m q * 10 ^ p) (c := m * 2 ^ q * 10 ^ p) hmod (Rat.mul_pos l0 tp) (Rat.mul_lt_mul_of_pos_right l1 tp)
      (by have := Rat.mul_le_mul_of_nonneg_right l2 (Rat.le_of_lt tp); grind) (by have := Rat.mul_le_mul_of_nonneg_right l3 (Rat.le_of_lt tp); grind) l4 l5 rfl rfl rfl
    have hs : shortU m q = (d, (k : Int) - p) := by
      unfold shortU
      simp only [hp, hlo]
      by_cases x1 : (unr (4 * (lo * 10 ^ p)) + m % 2 + 3) / 4 ≤ (unr (4 * (up m q * 10 ^ p)) - m % 2) / 4 / 10 * 10
      · rw [if_pos x1] at hd ⊢
        injection hd with a1 a2
        subst a1; subst a2; rfl
      · rw [if_neg x1] at hd ⊢
        by_cases x2 : (unr (4 * (lo * 10 ^ p)) + m % 2 + 3) / 4 < (unr (4 * (up m q * 10 ^ p)) - m % 2) / 4
        · rw [if_pos x2] at hd ⊢
          injection hd with a1 a2
          subst a1; subst a2; simp
        · rw [if_neg x2] at hd ⊢
          injection hd with a1 a2
          subst a1; subst a2; simp
    have hv : (d : Rat) * 10 ^ ((k : Int) - p) * 10 ^ p = (d * 10 ^ k : Nat) := by
      rw [Rat.natCast_mul, cast_pow10, Rat.mul_assoc, ← Rat.zpow_add ten_ne, show (k : Int) - p + p = k from by omega, Rat.zpow_natCast]
    rw [← hv] at g1 g2 g3
    refine ⟨d, _, hs, g4, ?_, ?_, ?_, ?_⟩
    · have : ((d * 10 ^ k : Nat) : Rat) < ((10 ^ 17 : Nat) : Rat) := by rw [← hv, cast_pow10]; grind
      have := Rat.natCast_lt_natCast.1 this
      have : d * 1 ≤ d * 10 ^ k := Nat.mul_le_mul_left _ (Nat.pow_pos (by decide))
      omega
    · rw [hlo]; exact Rat.le_of_mul_le_mul_right g1 tp
    · exact Rat.le_of_mul_le_mul_right g2 tp
    · intro ho
      have := g3 ho
      rw [hlo]
      exact ⟨Rat.lt_of_mul_lt_mul_right this.1 (Rat.le_of_lt tp), Rat.lt_of_mul_lt_mul_right this.2 (Rat.le_of_lt tp)⟩
  have q2 : (2 : Rat) ^ q = 4 * 2 ^ (q - 2) := by rw [p2, p4]; grind
  by_cases hs : skew m q = true
  · have hm : m = 2 ^ 52 := by unfold skew at hs; simp at hs; omega
    obtain ⟨u1, u2⟩ := unitS q0 q1
    have hmR : (m : Rat) = 2 ^ 52 := by rw [hm, cast_pow2]
    rw [q2] at u1 u2
    refine key (sp q) ((4 * m - 1) * 2 ^ (q - 2)) (by unfold shP; rw [if_pos hs]) (by unfold low; rw [if_pos hs]) ?_ ?_ ?_ ?_ ?_ ?_ ?_
    · exact Rat.mul_pos (by grind) tpos
    · rw [q2]; grind
    · unfold up; rw [q2, p4]; grind
    · unfold up; rw [q2, p4]; grind
    · unfold up
      rw [p4]; grind
    · intro ho; omega
    · unfold up
      rw [p4, hmR]
      grind
  · obtain ⟨u1, u2, u3⟩ := unitF q0 q1
    have t1 : (0 : Rat) < 2 ^ (q - 1) := Rat.zpow_pos (by decide)
    rw [p2] at u1 u2
    refine key (fp q) ((2 * m - 1) * 2 ^ (q - 1)) (by unfold shP; rw [if_neg hs]) (by unfold low; rw [if_neg hs]) ?_ ?_ ?_ ?_ ?_ ?_ ?_
    · exact Rat.mul_pos (by grind) (by grind)
    · rw [p2]; grind
    · unfold up; rw [p2]; grind
    · unfold up; rw [p2]; grind
    · unfold up; grind
    · intro ho hw n hn
      have hU : (2 : Rat) ^ q * 10 ^ fp q = 1 := by
        rw [p2, ← hw]; unfold up; grind
      have hq : q = 0 := by
        rcases Int.lt_trichotomy q 0 with h | h | h
        · have := u3 (by omega); grind
        · exact h
        · have := u3 (by omega); grind
      subst hq
      have e2 : ((2 : Nat) : Rat) = 2 := rfl
      have f0 : fp 0 = 0 := by decide
      have : 2 * (n : Rat) + 1 = 2 * m := by
        rw [hn, f0, Rat.zpow_zero, show (0 : Int) - 1 = -1 from rfl, Rat.zpow_neg, Rat.zpow_one]
        grind
      have : ((2 * n + 1 : Nat) : Rat) = ((2 * m : Nat) : Rat) := by
        rw [Rat.natCast_add, Rat.natCast_mul, Rat.natCast_mul]; exact this
      have := Rat.natCast_inj.1 this
      omega
    · unfold up
      have e : (2 * (m : Rat) + 1) * 2 ^ (q - 1) * 10 ^ fp q = (m + 1 / 2) * (2 * 2 ^ (q - 1) * 10 ^ fp q) := by grind
      rw [e]
      have : (m + 1 / 2 : Rat) * (2 * 2 ^ (q - 1) * 10 ^ fp q) < (m + 1 / 2) * 10 := Rat.mul_lt_mul_of_pos_left u2 (by grind)
      grind
end Pb

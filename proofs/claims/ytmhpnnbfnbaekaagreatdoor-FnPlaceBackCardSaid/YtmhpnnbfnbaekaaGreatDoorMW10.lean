/- Part of the proof of FnPlaceBack: walk: reading a float: the exact way. No condition. -/
import Derived.Test.YtmhpnnbfnbaekaaGreatDoorMPbLM
import Derived.Test.YtmhpnnbfnbaekaaGreatDoorMW8
import Derived.Laws.FloatArith
namespace Pb
open Ieee
/-- The library's powers of ten, as doubles' bits. -/
def p10 : List Nat := [4607182418800017408, 4621819117588971520, 4636737291354636288, 4652007308841189376, 4666723172467343360, 4681608360884174848, 4696837146684686336, 4711630319722168320, 4726483295884279808, 4741671816366391296, 4756540486875873280, 4771362005757984768, 4786511204640096256, 4801453603149578240, 4816244402031689728, 4831355200913801216, 4846369599423283200, 4861130398305394688, 4876203697187506176, 4891288408196988160, 4906019910204099648, 4921056587992461136, 4936209963552724370]
def p10ok (k : Nat) : Bool := match double.read (p10.getD k 0) with
  | .number false N j => decide (N ≠ 0) && decide (N * 2 ^ j.toNat = 10 ^ k * 2 ^ (-j).toNat)
  | _ => false
theorem p10_all : (List.range 23).all p10ok = true := by decide +kernel
theorem p10_read (k : Nat) (h : k < 23) : ∃ N j, double.read (p10.getD k 0) = .number false N j ∧ N ≠ 0 ∧ (N : Rat) * 2 ^ j = 10 ^ k := by
  have h1 := List.all_eq_true.1 p10_all k (List.mem_range.2 h)
  unfold p10ok at h1
  split at h1
  · rename_i N j he
    rw [Bool.and_eq_true, decide_eq_true_eq, decide_eq_true_eq] at h1
    refine ⟨N, j, he, h1.1, ?_⟩
    have h2 := congrArg (Nat.cast (R := Rat)) h1.2
    rw [Rat.natCast_mul, Rat.natCast_mul, cast_pow2, cast_pow2, Rat.natCast_pow] at h2
    have h3 := zpow_split two_ne j
    have hp : (2 : Rat) ^ (-j).toNat ≠ 0 := by
      have : (0 : Rat) < 2 ^ (-j).toNat := Rat.pow_pos (by decide)
      grind
    have e10 : ((10 : Nat) : Rat) = 10 := rfl
    rw [← h3, e10, ← Rat.mul_assoc] at h2
    have h4 : ((N : Rat) * 2 ^ j - 10 ^ k) * 2 ^ (-j).toNat = 0 := by grind
    rcases Rat.mul_eq_zero.1 h4 with h5 | h5
    · grind
    · exact absurd h5 hp
  · cases h1
theorem word_false (r : Nat) : double.word false r = r := rfl
theorem nearest_int {m d : Nat} {q : Int} (h : Fits m q) (hd : 0 < d) (hw : Within m q d) : Go.FloatKind.f64.nearest (d : Int) = Go.Proofs.Pb.word m q := by
  unfold Go.FloatKind.nearest Go.FloatKind.encode Format.write
  have e : decide ((d : Int) < 0) = false := decide_eq_false (by omega)
  have e2 : (d : Int).natAbs = d := Int.natAbs_natCast d
  rw [e, e2]
  show double.nearest false d 0 = _
  rw [nearest_word false h (by omega) (by rw [Rat.zpow_zero, Rat.mul_one]; exact hw), word_false]
  rfl
theorem div_p10 {m d k : Nat} {q : Int} (h : Fits m q) (hd : 0 < d) (hd2 : d < 9007199254740992) (hk : k < 23) (hw : Within m q (d * 10 ^ (-(k : Int)))) :
    Go.floatBits .quo .f64 (Go.FloatKind.f64.nearest (d : Int)) (p10.getD k 0) = some (Go.Proofs.Pb.word m q) := by
  obtain ⟨M, i, hF, hM⟩ := exact_nat d hd hd2
  obtain ⟨N, j, hr, hN, h10⟩ := p10_read k hk
  have hx : (d : Rat) * 10 ^ (-(k : Int)) * (N * 2 ^ j) = M * 2 ^ i := by
    rw [h10, hM, Rat.mul_assoc, ← Rat.zpow_natCast, ← Rat.zpow_add ten_ne, show -(k : Int) + k = 0 from by omega, Rat.zpow_zero, Rat.mul_one]
  have hm0 : 0 < M := hF.1
  obtain ⟨g1, g2⟩ := div_within (by omega) hN h hw hx _ rfl
  have hWM : Within M i (d : Rat) := by
    rw [← hM]
    have hp : (0 : Rat) < 2 ^ (i - 1) := Rat.zpow_pos (by decide)
    have hp2 := two_zpow_pred i
    have hp3 := two_zpow_pred (i - 1)
    rw [show i - 1 - 1 = i - 2 from by omega] at hp3
    have hq : (0 : Rat) < 2 ^ (i - 2) := Rat.zpow_pos (by decide)
    have l1 : low M i < M * 2 ^ i := by
      unfold low
      split
      · rw [hp2, hp3]
        have : (M : Rat) * (2 * (2 * 2 ^ (i - 2))) = (4 * M) * 2 ^ (i - 2) := by grind
        rw [this]
        exact Rat.mul_lt_mul_of_pos_right (by grind) hq
      · rw [hp2]
        have : (M : Rat) * (2 * 2 ^ (i - 1)) = (2 * M) * 2 ^ (i - 1) := by grind
        rw [this]
        exact Rat.mul_lt_mul_of_pos_right (by grind) hp
    have l2 : (M : Rat) * 2 ^ i < up M i := by
      unfold up
      rw [hp2]
      have : (M : Rat) * (2 * 2 ^ (i - 1)) = (2 * M) * 2 ^ (i - 1) := by grind
      rw [this]
      exact Rat.mul_lt_mul_of_pos_right (by grind) hp
    exact ⟨Rat.le_of_lt l1, Rat.le_of_lt l2, fun _ => ⟨l1, l2⟩⟩
  unfold Go.floatBits
  show Format.div double _ _ = _
  unfold Format.div
  rw [nearest_int hF hd hWM, hr]
  unfold Go.Proofs.Pb.word
  rw [read_word hF]
  have hfb : double.fractionBits + 2 = 54 := rfl
  rw [hfb]
  unfold Datum.quotient
  dsimp only
  rw [if_neg hN]
  dsimp only [Option.map_some]
  congr 1
  show double.nearest (false ^^ false) _ _ = _
  rw [show (false ^^ false) = false from rfl, nearest_word false h g1 g2, word_false]
end Pb
namespace Go.Proofs
open Go Go.RowKit
/-- The library's variables that the reader of floats reads. -/
def Pw.FloatVars (w : World) : Prop := w.cell? ⟨10, 0, none⟩ = some (.int .u64 52) ∧ w.cell? ⟨5, 0, none⟩ = some (.bool true) ∧
  ∃ tb off cap, w.cell? ⟨14, 0, none⟩ = some (.slice (some ⟨tb, off, none⟩) 23 cap) ∧ ∀ i, i < 23 → w.cell? ⟨tb, off + i, none⟩ = some (.float .f64 (Pb.p10.getD i 0))
def Pw.ExactEnd (m : Nat) (q : Int) (w : World) (e : Ending) (w' : World) : Prop := ∃ f ok, e = .returned (.tuple #[.float .f64 f, .bool ok]) ∧ w = w' ∧ (ok = true → f = Pb.word m q)
set_option maxRecDepth 100000 in
set_option maxHeartbeats 1000000 in
theorem Pw.exact (d m : Nat) (p q : Int) (w : World) (h : Pb.Fits m q) (hw : Pb.Within m q (d * 10 ^ p)) (hd0 : 0 < d) (hd64 : d < 18446744073709551616) (hX : 0 < p → 4503599627370496 ≤ d) (p0 : -1000 ≤ p) (p1 : p ≤ 1000) (hv : Pw.FloatVars w) :
    Calls Tryz.prog 106 #[.int .u64 d, .int .i64 p, .bool false] w (Pw.ExactEnd m q w) := by
  obtain ⟨v1, v2, tb, off, cap, v3, v4⟩ := hv
  by_cases hbig : 4503599627370496 ≤ d
  · have t1 : ((d : Int) / 4503599627370496 != 0) = true := by rw [bne_iff_ne]; omega
    clear v4 v2 v3 hX hw h
    go_enter Tryz.func106, Tryz.ntmps106
    go_wp2
    go_ret2
    exact ⟨_, _, rfl, rfl, fun h => by cases h⟩
  · have t1 : ((d : Int) / 4503599627370496 != 0) = false := by rw [bne_eq_false_iff_eq]; omega
    by_cases hp0 : p = 0
    · subst hp0
      have hf := Pb.nearest_int h hd0 (by rw [Rat.zpow_zero, Rat.mul_one] at hw; exact hw)
      clear v4 v2 v3 hX hw h
      go_enter Tryz.func106, Tryz.ntmps106
      go_wp2
      go_ret2
      exact ⟨_, _, rfl, rfl, fun _ => hf⟩
    · have t2 : (p == 0) = false := by rw [beq_eq_false_iff_ne]; exact hp0
      have t3 : decide (0 < p) = false := decide_eq_false (by omega)
      have t4 : decide (p < 0) = true := decide_eq_true (by omega)
      by_cases h22 : -22 ≤ p
      · have t5 : decide (-22 ≤ p) = true := decide_eq_true h22
        obtain ⟨k, hk, hk2⟩ : ∃ k : Nat, k < 23 ∧ -p = k := ⟨(-p).toNat, by omega, by omega⟩
        have hq := Pb.div_p10 (d := d) h hd0 (by omega) hk (by rw [← hk2, Int.neg_neg]; exact hw)
        have hc := v4 k hk
        obtain ⟨pb, hpb⟩ : ∃ pb, pb = Pb.p10.getD k 0 := ⟨_, rfl⟩
        rw [← hpb] at hc hq
        have hr := fun W => run_float_arith (P := Tryz.prog) W .quo 22 .f64 (floatOfInt .f64 (d : Int)) pb _ hq
        clear v4 v2 hX hw h hq hpb
        go_enter Tryz.func106, Tryz.ntmps106
        go_wp2
        go_ret2
        exact ⟨_, _, rfl, rfl, fun _ => rfl⟩
      · have t5 : decide (-22 ≤ p) = false := decide_eq_false h22
        clear v4 v2 v3 hX hw h
        go_enter Tryz.func106, Tryz.ntmps106
        go_wp2
        go_ret2
        exact ⟨_, _, rfl, rfl, fun h => by cases h⟩
end Go.Proofs

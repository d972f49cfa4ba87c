/- Part of the proof of FnPlaceBack: walk: math.IsNaN, math.Abs, math.IsInf. No condition. -/
import Derived.Test.YtmhpnnbfnbaekaaGreatDoorMW10
import Derived.Test.YtmhpnnbfnbaekaaGreatDoorMW6bc
import Derived.Test.YtmhpnnbfnbaekaaGreatDoorMW7
namespace Pb
open Ieee
theorem within_self {m : Nat} {q : Int} (h : Fits m q) : Within m q (m * 2 ^ q) := by
  have hm0 : 0 < m := h.1
  have hp : (0 : Rat) < 2 ^ (q - 1) := Rat.zpow_pos (by decide)
  have hp2 := two_zpow_pred q
  have hp3 := two_zpow_pred (q - 1)
  rw [show q - 1 - 1 = q - 2 from by omega] at hp3
  have hq : (0 : Rat) < 2 ^ (q - 2) := Rat.zpow_pos (by decide)
  have l1 : low m q < m * 2 ^ q := by
    unfold low
    split
    · rw [hp2, hp3]
      have : (m : Rat) * (2 * (2 * 2 ^ (q - 2))) = (4 * m) * 2 ^ (q - 2) := by grind
      rw [this]
      exact Rat.mul_lt_mul_of_pos_right (by grind) hq
    · rw [hp2]
      have : (m : Rat) * (2 * 2 ^ (q - 1)) = (2 * m) * 2 ^ (q - 1) := by grind
      rw [this]
      exact Rat.mul_lt_mul_of_pos_right (by grind) hp
  have l2 : (m : Rat) * 2 ^ q < up m q := by
    unfold up
    rw [hp2]
    have : (m : Rat) * (2 * 2 ^ (q - 1)) = (2 * m) * 2 ^ (q - 1) := by grind
    rw [this]
    exact Rat.mul_lt_mul_of_pos_right (by grind) hp
  exact ⟨Rat.le_of_lt l1, Rat.le_of_lt l2, fun _ => ⟨l1, l2⟩⟩
theorem read_minus : double.read 13830554455654793216 = .number true 4503599627370496 (-52) := by decide +kernel
theorem read_zero : double.read 0 = .number false 0 (-1074) := by decide +kernel
/-- Times minus one: the sign turned. -/
theorem mul_minus {m : Nat} {q : Int} (h : Fits m q) : Go.floatBits .mul .f64 (Go.Proofs.Pb.word m q) 13830554455654793216 = some (9223372036854775808 + Go.Proofs.Pb.word m q) := by
  unfold Go.floatBits
  show Format.mul double _ _ = _
  unfold Format.mul Go.Proofs.Pb.word
  rw [read_word h, read_minus]
  unfold Datum.product
  dsimp only [Option.map_some]
  congr 1
  show double.nearest (false ^^ true) _ _ = _
  have hm : m * 4503599627370496 ≠ 0 := Nat.ne_of_gt (Nat.mul_pos h.1 (by decide))
  have hW : Within m q (((m * 4503599627370496 : Nat) : Rat) * 2 ^ (q + -52)) := by
    have e : ((m * 4503599627370496 : Nat) : Rat) * 2 ^ (q + -52) = m * 2 ^ q := by
      rw [Rat.natCast_mul, Rat.zpow_add two_ne, show ((4503599627370496 : Nat) : Rat) = 4503599627370496 from rfl]
      have : (4503599627370496 : Rat) * 2 ^ (-52 : Int) = 1 := by decide +kernel
      grind
    rw [e]; exact within_self h
  rw [show (false ^^ true) = true from rfl, nearest_word true h hm hW]
  rfl
theorem mul_minus_zero : Go.floatBits .mul .f64 0 13830554455654793216 = some 9223372036854775808 := by decide +kernel
/-- A finite double stands to itself as equal, and is no infinity. -/
theorem order_self {b : Nat} {n : Bool} {m : Nat} {q : Int} (h : double.read b = .number n m q) : double.order b b = some .eq := by
  unfold Format.order
  rw [h]
  unfold Datum.order
  dsimp only
  congr 1
  rw [Int.compare_eq_eq] <;> rfl
end Pb
namespace Pb
open Ieee
theorem c1 : double.leastPlace = -1074 := by decide
theorem c2 : double.binade = 4503599627370496 := by decide
theorem c3 : double.infRung = 9218868437227405312 := by decide
theorem c4 : double.signWeight = 9223372036854775808 := by decide
theorem read_fin (b : Nat) (hfin : b / 4503599627370496 % 2048 ≠ 2047) : ∃ n, double.read b = .number n (mOf b) (qOf b) := by
  have hx : b % 9223372036854775808 < 9218868437227405312 := by omega
  have e52 : (2 : Nat) ^ 52 = 4503599627370496 := rfl
  refine ⟨b / double.signWeight % 2 == 1, ?_⟩
  unfold Format.read mOf qOf
  rw [c1, c2, c3, c4, e52]
  dsimp only
  by_cases h1 : b % 9223372036854775808 < 4503599627370496
  · have h2 : b / 4503599627370496 % 2048 = 0 := by omega
    have h3 : b % 9223372036854775808 = b % 4503599627370496 := by omega
    rw [if_pos h1, if_pos h2, if_pos h2, h3]
  · have h2 : b / 4503599627370496 % 2048 ≠ 0 := by omega
    rw [if_neg h1, if_pos hx, if_neg h2, if_neg h2]
    have t1 : b % 9223372036854775808 % 4503599627370496 = b % 4503599627370496 := by omega
    have t2 : (-1074 : Int) + ((b % 9223372036854775808 / 4503599627370496 - 1 : Nat) : Int) = ((b / 4503599627370496 % 2048 : Nat) : Int) - 1075 := by omega
    rw [t1, t2]
theorem read_max : double.read 9218868437227405311 = .number false 9007199254740991 971 := by decide +kernel
theorem read_inf : double.read 9218868437227405312 = .infinity false := by decide +kernel
theorem fin_nan {b : Nat} (hfin : b / 4503599627370496 % 2048 ≠ 2047) : (double.order b b != some .eq) = false := by
  obtain ⟨n, h⟩ := read_fin b hfin
  rw [order_self h]; rfl
theorem fin_inf {b : Nat} (hfin : b / 4503599627370496 % 2048 ≠ 2047) : (double.order (b % 9223372036854775808) 9218868437227405311 == some .gt) = false := by
  have hfin2 : b % 9223372036854775808 / 4503599627370496 % 2048 ≠ 2047 := by omega
  have e52 : (2 : Nat) ^ 52 = 4503599627370496 := rfl
  have hm : mOf (b % 9223372036854775808) ≤ 9007199254740991 ∧ qOf (b % 9223372036854775808) ≤ 971 ∧ -1074 ≤ qOf (b % 9223372036854775808) := by
    unfold mOf qOf
    rw [e52]
    by_cases h2 : b % 9223372036854775808 / 4503599627370496 % 2048 = 0
    · rw [if_pos h2, if_pos h2]; omega
    · rw [if_neg h2, if_neg h2]; omega
  obtain ⟨n, h⟩ := read_fin _ hfin2
  unfold Format.order
  rw [h, read_max]
  generalize mOf (b % 9223372036854775808) = m at *
  generalize qOf (b % 9223372036854775808) = q at *
  unfold Datum.order
  dsimp only
  have hle : signed n m (q - min q 971).toNat ≤ signed false 9007199254740991 (971 - min q 971).toNat := by
    have hq : min q 971 = q := by omega
    rw [hq, show q - q = 0 from by omega]
    unfold signed
    rw [Nat.shiftLeft_eq, Nat.shiftLeft_eq]
    have h1 : m * 2 ^ (0 : Int).toNat = m := by simp
    have h2 : 9007199254740991 * 1 ≤ 9007199254740991 * 2 ^ (971 - q).toNat := Nat.mul_le_mul_left _ (Nat.two_pow_pos _)
    rw [h1, if_neg (show ¬ (false = true) by decide)]
    split <;> omega
  have hne : compare (signed n m (q - min q 971).toNat) (signed false 9007199254740991 (971 - min q 971).toNat) ≠ .gt := by
    rw [ne_eq, Int.compare_eq_gt]
    omega
  rw [beq_eq_false_iff_ne]
  intro e
  injection e with e
  exact hne e
theorem fin_of {b : Nat} (_h : b < 18446744073709551616) (hg : (!(double.order b b != some .eq) && !(double.order (b % 9223372036854775808) 9218868437227405311 == some .gt)) = true) : b / 4503599627370496 % 2048 ≠ 2047 := by
  intro e
  rw [Bool.and_eq_true, Bool.not_eq_true', Bool.not_eq_true'] at hg
  obtain ⟨g1, g2⟩ := hg
  by_cases hi : b % 9223372036854775808 = 9218868437227405312
  · rw [hi] at g2
    revert g2
    unfold Format.order
    rw [read_inf, read_max]
    decide
  · have hn : ∃ n f, double.read b = .nan n f := by
      refine ⟨b / double.signWeight % 2 == 1, b % 9223372036854775808 - 9218868437227405312, ?_⟩
      unfold Format.read
      rw [c2, c3, c4]
      dsimp only
      rw [if_neg (by omega), if_neg (by omega), if_neg hi]
    obtain ⟨n, f, hn⟩ := hn
    unfold Format.order at g1
    rw [hn] at g1
    unfold Datum.order at g1
    dsimp only at g1
    cases g1
end Pb
namespace Go.Proofs
open Go Go.RowKit
theorem Pw.call21 (x : Int) (w : World) : (callFunc 21 #[.int .u64 x]).run Tryz.prog w = .ok (.value (.float .f64 x.toNat)) w := by kernel_rfl
theorem Pw.clear63 (b : Nat) (h : b < 18446744073709551616) : bits .andNot .u64 (b : Int) 9223372036854775808 = ((b % 9223372036854775808 : Nat) : Int) := by
  have h1 : (BitVec.ofInt 64 (b : Int)).toNat = b := by
    rw [BitVec.ofInt_natCast, BitVec.toNat_ofNat]; exact Nat.mod_eq_of_lt (by omega)
  have h3 : (~~~(BitVec.ofInt 64 9223372036854775808)).toNat = 2 ^ 63 - 1 := by decide
  show IntKind.u64.wrap ((BitVec.ofInt 64 (b : Int) &&& ~~~(BitVec.ofInt 64 9223372036854775808)).toNat : Int) = _
  rw [BitVec.toNat_and, h1, h3, Nat.and_two_pow_sub_one_eq_mod, IntKind_u64_wrap _ (by omega) (by omega)]
theorem Pw.isNaN (b : Nat) (w : World) : Calls Tryz.prog 10 #[.float .f64 b] w fun e w' => e = .returned (.bool (FloatKind.f64.format.order b b != some .eq)) ∧ w = w' := by
  go_enter Tryz.func10, Tryz.ntmps10
  go_wp2
  go_ret
  exact ⟨rfl, rfl⟩
theorem Pw.Abs (b : Nat) (h : b < 18446744073709551616) (w : World) : Calls Tryz.prog 17 #[.float .f64 b] w fun e w' => e = .returned (.float .f64 (b % 9223372036854775808)) ∧ w = w' := by
  have k16 := Pw.call16
  have k21 := Pw.call21
  have hc := Pw.clear63 b h
  obtain ⟨r, hr⟩ : ∃ r, r = b % 9223372036854775808 := ⟨_, rfl⟩
  rw [← hr] at hc ⊢
  clear hr h
  go_enter Tryz.func17, Tryz.ntmps17
  go_wp2
  go_ret
  exact ⟨rfl, rfl⟩
theorem Pw.isInf (b : Nat) (h : b < 18446744073709551616) (w : World) : Calls Tryz.prog 11 #[.float .f64 b, .int .i64 0] w fun e w' => e = .returned (.bool (FloatKind.f64.format.order (b % 9223372036854775808) 9218868437227405311 == some .gt)) ∧ w = w' := by
  have hA := Pw.Abs b h
  generalize b % 9223372036854775808 = r at *
  clear h
  go_enter Tryz.func11, Tryz.ntmps11
  go_wp2_with (go_at_call 17; refine (hA _).mono ?_; rintro e w1 ⟨rfl, rfl⟩)
  go_ret
  exact ⟨rfl, rfl⟩
theorem Pw.gFinite (b : Nat) (h : b < 18446744073709551616) (w : World) : Calls Tryz.prog 5 #[.float .f64 b] w fun e w' => e = .returned (.bool (!(FloatKind.f64.format.order b b != some .eq) && !(FloatKind.f64.format.order (b % 9223372036854775808) 9218868437227405311 == some .gt))) ∧ w = w' := by
  have hI := Pw.isInf b h
  have hN := Pw.isNaN b
  generalize (FloatKind.f64.format.order (b % 9223372036854775808) 9218868437227405311 == some Ordering.gt) = i at *
  generalize (FloatKind.f64.format.order b b != some Ordering.eq) = n at *
  clear h
  cases n
  all_goals
    go_enter Tryz.func5, Tryz.ntmps5
    go_wp2_with (first
      | (go_at_call 10; refine (hN _).mono ?_; rintro e w1 ⟨rfl, rfl⟩)
      | (go_at_call 11; refine (hI _).mono ?_; rintro e w1 ⟨rfl, rfl⟩))
    go_ret
    exact ⟨by simp, rfl⟩
end Go.Proofs

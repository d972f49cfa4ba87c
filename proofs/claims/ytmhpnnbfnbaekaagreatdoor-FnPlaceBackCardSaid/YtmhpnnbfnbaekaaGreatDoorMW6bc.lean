/- Part of the proof of FnPlaceBack: walk: writing a float: the text of a number. No condition. -/
import Derived.Test.YtmhpnnbfnbaekaaGreatDoorMW6
import Derived.Lib.ItoaNum
namespace Go.Proofs
open Go Go.RowKit Go.Sort
set_option maxRecDepth 100000 in
set_option maxHeartbeats 1000000 in
theorem Pw.ftoa64_sub (b m s : Nat) (q : Int) (neg : Bool) (hb : b < 18446744073709551616) (n0 : ((b : Int) / 9223372036854775808 != 0) = neg)
    (n1 : bits .and .i64 ((b : Int) / 4503599627370496) 2047 = 0) (n2 : bits .and .u64 (b : Int) 4503599627370495 = (m : Int))
    (hfit : Pb.Fits m q) (hm64 : m < 18446744073709551616) (n4 : ((m : Int) == 0) = false) (n5 : 64 - (Lib.bitLen m : Int) = (s : Int)) (hs : s < 64) (n6 : IntKind.u64.wrap ((m : Int) * 2 ^ s) = ((m * 2 ^ s : Nat) : Int))
    (g1 : 2 ^ 63 ≤ m * 2 ^ s) (g2 : m * 2 ^ s < 2 ^ 64) (hq : (-1022 : Int) - s - 52 = q - s)
    (d : Nat) (p : Int) (hsh : Pb.shortU m q = (d, p)) (hd0 : 0 < d) (hd17 : d < 100000000000000000) (hp0 : -380 ≤ p) (hp1 : p ≤ 380) (B : Nat) (v : Value) (xs : List UInt8) (w : World) (ht : Pw.PowTab w) (htab : Lib.TabIs Tryz.prog w "internal/strconv.uint64pow10" .u64 Lib.pow10Tab) (hd : Pw.Dst B v xs w) (hl : xs.length ≤ 90000) :
    Calls Tryz.prog 59 #[v, .float .f64 b, .int .u8 102, .int .i64 (-1)] w (Pw.Wrote B v xs (Pw.signed neg (Pw.plain (Pb.trim (Lib.decDigits d)) (Lib.nDigits d + p))) w) := by
  have k77 := Pw.call77
  have N6 := Lib.hid n6
  have HQ := Lib.hid hq
  have G1 := Lib.hid g1
  have G2 := Lib.hid g2
  have HF := Lib.hid hfit
  clear g1 g2 hfit hq
  go_enter Tryz.func59, Tryz.ntmps59
  go_wp2_with fail
  go_quiet (fail)
  go_wp2_with (go_at_call 81; refine (Pw.Len64 _ _ hm64).mono ?_; rintro e w1 ⟨rfl, rfl⟩)
  rw [HQ.out]
  refine (Pw.shortFloat m q s _ HF.out G1.out G2.out ?tt).mono ?kk
  case tt => exact Pw.PowTab.alloc (by exact ht) _
  case kk =>
    rintro e w1 ⟨rfl, hb1⟩
    rw [hsh]
    have hH := Pw.buf_holds 141 (Lib.nDigits d) (by have := Lib.nDigits_le20 d (by omega); omega) hb1
    have htab1 : Lib.TabIs Tryz.prog w1 "internal/strconv.uint64pow10" .u64 Lib.pow10Tab := by
      refine Go.Lib.tabBelow_of_tabIs htab w1 ?_
      refine Below.trans ?_ (hb1.mono (by simp))
      exact (below_drewN (Below.refl _ _) _).alloc (by simp) _
    have HT := Lib.hid htab1
    have HH := Lib.hid hH
    clear hH htab1
    go_wp2_with fail
    go_region_with ((first | (go_at_call 84; refine (Tryz.internal_strconv_numDigits d hd0 (by omega) _ (by exact HT.out)).mono ?_; rintro e w2 ⟨rfl, hw2⟩; subst hw2) | (go_at_call 83; refine (Pw.setDigits _ d p _ hd0 (by omega) (by omega) (by omega) (by exact HH.out)).mono ?_; rintro e w2 ⟨rfl, hD⟩)))

    obtain ⟨hgD, hcD⟩ := hD
    have hgw : w.grownBy w1 none := by
      refine Pw.grown_of_below (Nat.le_refl _) (Below.trans ?_ (hb1.mono (by simp)))
      exact (below_drewN (Below.refl _ _) _).alloc (by simp) _
    have hgw2 : w.grownBy w2 none := Pw.grown_trans hgw ⟨hgD.os, hgD.tape, hgD.output, hgD.size, hgD.block⟩ (by intro i hi; injection hi with hi; omega)
    have hdd := hd.keep hgw2
    obtain ⟨k, hk, -, hl1, -, -, hn⟩ := Pb.trim_facts d hd0
    have h17 : Lib.nDigits d ≤ 20 := Lib.nDigits_le20 d (by omega)
    have hl2 : (Pb.trim (Lib.decDigits d)).length ≤ 20 := by omega
    have hne : some w.heap.size ≠ v.ownBlock := by
      intro e
      have := hd.1.lt _ e.symm
      omega
    have hcT : ∀ i (h : i < (Pb.trim (Lib.decDigits d)).length), w2.cell? ⟨w.heap.size, i, none⟩ = some (.int .u8 ((Pb.trim (Lib.decDigits d))[i].toNat : Int)) := by
      intro i h
      have hlen := Lib.decDigits_length d
      rw [hcD i (by omega)]
      have : (Lib.decDigits d)[i]? = (Pb.trim (Lib.decDigits d))[i]? := by
        conv => lhs; rw [hk]
        rw [List.getElem?_append_left h]
      rw [List.getElem?_eq_getElem h, List.getElem?_eq_getElem (by omega)] at this
      injection this with this
      rw [this]
    have HC := Lib.hid hcT
    have HK := Lib.hid hgw2
    clear hcT hcD hk hgw2 hgD hb1 hn
    go_wp2_with (first | (go_at_call 80; go_must (refine (Pw.fmtEFG_all neg B v xs w.heap.size _ _ _ hdd hl hl1 (by omega) (by omega) (by omega) hne HC.out).mono ?_; rintro e w3 ⟨v3, rfl, hd3, ha3⟩)))
    go_ret
    exact ⟨v3, rfl, hd3, ha3.pre HK.out⟩
end Go.Proofs
namespace Pb
theorem shortU_e (m : Nat) (q : Int) (q0 : -1074 ≤ q) (q1 : q ≤ 971) : -325 ≤ (shortU m q).2 ∧ (shortU m q).2 ≤ 295 := by
  have hp : -293 ≤ shP m q ∧ shP m q ≤ 325 := by
    unfold shP sp fp
    split <;> omega
  have hs : (shortU m q).2 = 1 - shP m q ∨ (shortU m q).2 = - shP m q := by
    unfold shortU
    dsimp only
    split
    · exact .inl rfl
    · split <;> exact .inr rfl
  rcases hs with h | h <;> omega
/-- The mantissa and the exponent of a double's bits. -/
def mOf (b : Nat) : Nat := if b / 2 ^ 52 % 2048 = 0 then b % 2 ^ 52 else 2 ^ 52 + b % 2 ^ 52
def qOf (b : Nat) : Int := if b / 2 ^ 52 % 2048 = 0 then -1074 else (b / 2 ^ 52 % 2048 : Nat) - 1075
def neg (b : Nat) : Bool := decide (2 ^ 63 ≤ b)
theorem fits_of (b : Nat) (h : b / 2 ^ 52 % 2048 ≠ 2047) (h0 : mOf b ≠ 0) : Fits (mOf b) (qOf b) := by
  unfold Fits
  unfold mOf qOf at *
  have : b % 2 ^ 52 < 2 ^ 52 := Nat.mod_lt _ (by decide)
  have : b / 2 ^ 52 % 2048 < 2048 := Nat.mod_lt _ (by decide)
  split at h0
  · rename_i h1
    simp only [if_pos h1]
    refine ⟨by omega, by omega, by omega, by omega, by simp⟩
  · rename_i h1
    simp only [if_neg h1]
    refine ⟨by omega, by omega, by omega, by omega, .inr (by omega)⟩
theorem bits_back (b : Nat) (h : b < 2 ^ 64) : (if neg b then 2 ^ 63 else 0) + (((qOf b + 1074).toNat) * 2 ^ 52 + mOf b) = b := by
  unfold neg mOf qOf
  have e52 : (2 : Nat) ^ 52 = 4503599627370496 := by decide
  have e63 : (2 : Nat) ^ 63 = 9223372036854775808 := by decide
  have e64 : (2 : Nat) ^ 64 = 18446744073709551616 := by decide
  rw [e64] at h
  rw [e52, e63]
  have hs : (if decide (9223372036854775808 ≤ b) = true then 9223372036854775808 else 0) = b / 9223372036854775808 * 9223372036854775808 := by
    by_cases hn : 9223372036854775808 ≤ b
    · rw [if_pos (by simpa using hn)]; omega
    · rw [if_neg (by simpa using hn)]; omega
  rw [hs]
  have h3 : b / 9223372036854775808 = b / 4503599627370496 / 2048 := by rw [Nat.div_div_eq_div_mul]
  have h4 := Nat.div_add_mod b 4503599627370496
  rw [h3]
  generalize b / 4503599627370496 = x at *
  generalize b % 4503599627370496 = r at *
  have h5 := Nat.div_add_mod x 2048
  clear hs h3 e52 e63 e64 h
  generalize x / 2048 = y at *
  generalize x % 2048 = z at *
  by_cases h1 : z = 0
  · rw [if_pos h1, if_pos h1, show ((-1074 : Int) + 1074).toNat = 0 from rfl]; omega
  · rw [if_neg h1, if_neg h1, show ((z : Int) - 1075 + 1074).toNat = z - 1 from by omega]
    obtain ⟨z, rfl⟩ : ∃ t, z = t + 1 := ⟨z - 1, by omega⟩
    rw [Nat.add_sub_cancel]
    omega
end Pb
namespace Go.Proofs
open Go Go.RowKit Go.Sort
theorem Pw.bits_and_i64 (a b : Nat) (ha : a < 9223372036854775808) (hb : b < 9223372036854775808) : bits .and .i64 (a : Int) (b : Int) = ((a &&& b : Nat) : Int) := by
  have hx : a &&& b < 2 ^ 63 := Nat.and_lt_two_pow _ (by omega)
  have h1 : (BitVec.ofInt 64 (a : Int)).toNat = a := by
    rw [BitVec.ofInt_natCast, BitVec.toNat_ofNat]; exact Nat.mod_eq_of_lt (by omega)
  have h2 : (BitVec.ofInt 64 (b : Int)).toNat = b := by
    rw [BitVec.ofInt_natCast, BitVec.toNat_ofNat]; exact Nat.mod_eq_of_lt (by omega)
  show IntKind.i64.wrap ((BitVec.ofInt 64 (a : Int) &&& BitVec.ofInt 64 (b : Int)).toNat : Int) = _
  rw [BitVec.toNat_and, h1, h2, IntKind.wrap_i64]
  omega
/-- The text that a finite double's bits are written as. -/
def Pw.numText (b : Nat) : List UInt8 := Pw.signed (Pb.neg b) (if Pb.mOf b = 0 then [48] else
  Pw.plain (Pb.trim (Lib.decDigits (Pb.shortU (Pb.mOf b) (Pb.qOf b)).1)) (Lib.nDigits (Pb.shortU (Pb.mOf b) (Pb.qOf b)).1 + (Pb.shortU (Pb.mOf b) (Pb.qOf b)).2))
theorem Pw.ftoa64 (b : Nat) (hb : b < 18446744073709551616) (hfin : b / 2 ^ 52 % 2048 ≠ 2047) (B : Nat) (v : Value) (xs : List UInt8) (w : World) (ht : Pw.PowTab w) (htab : Lib.TabIs Tryz.prog w "internal/strconv.uint64pow10" .u64 Lib.pow10Tab) (hd : Pw.Dst B v xs w) (hl : xs.length ≤ 90000) :
    Calls Tryz.prog 59 #[v, .float .f64 b, .int .u8 102, .int .i64 (-1)] w (Pw.Wrote B v xs (Pw.numText b) w) := by
  unfold Pw.numText
  by_cases hm : Pb.mOf b = 0
  · rw [if_pos hm]
    have hz : b = if Pb.neg b then 9223372036854775808 else 0 := by
      have h := Pb.bits_back b hb
      rw [hm] at h
      have hq : Pb.qOf b = -1074 := by
        unfold Pb.mOf at hm
        unfold Pb.qOf
        split at hm
        · rw [if_pos (by assumption)]
        · omega
      rw [hq] at h
      split at h <;> rename_i hn <;> simp only [hn] <;> simp at h ⊢ <;> omega
    have h := Pw.ftoa64_zero (Pb.neg b) B v xs w hd hl
    rw [← hz] at h
    refine h.mono ?_
    intro e w' h2
    unfold Pw.signed
    cases hn : Pb.neg b <;> simpa [hn] using h2
  · rw [if_neg hm]
    have hF := Pb.fits_of b hfin hm
    obtain ⟨d, e, hsh, hd0, hd17, -⟩ := Pb.shortU_ok hF
    have he := Pb.shortU_e (Pb.mOf b) (Pb.qOf b) hF.2.2.1 hF.2.2.2.1
    rw [hsh] at he ⊢
    have hmlt := hF.2.1
    have hbl : 1 ≤ Lib.bitLen (Pb.mOf b) ∧ 2 ^ (Lib.bitLen (Pb.mOf b) - 1) ≤ Pb.mOf b ∧ Pb.mOf b < 2 ^ Lib.bitLen (Pb.mOf b) := Lib.bitLenAux_bounds 64 _ (by omega) hm
    have hb64 : Lib.bitLen (Pb.mOf b) ≤ 53 := Lib.bitLen_le _ 53 (by omega) hmlt
    obtain ⟨k, hk⟩ : ∃ k, Lib.bitLen (Pb.mOf b) = k := ⟨_, rfl⟩
    rw [hk] at hbl hb64
    have n0 : ((b : Int) / 9223372036854775808 != 0) = Pb.neg b := by
      unfold Pb.neg
      by_cases hn : 2 ^ 63 ≤ b
      · rw [decide_eq_true hn, bne_iff_ne]; omega
      · rw [decide_eq_false hn, bne_eq_false_iff_eq]; omega
    have n1 : bits .and .i64 ((b : Int) / 4503599627370496) 2047 = ((b / 2 ^ 52 % 2048 : Nat) : Int) := by
      rw [show (b : Int) / 4503599627370496 = ((b / 2 ^ 52 : Nat) : Int) from by omega, show (2047 : Int) = ((2 ^ 11 - 1 : Nat) : Int) from rfl, Pw.bits_and_i64 _ _ (by omega) (by decide), Nat.and_two_pow_sub_one_eq_mod]
    have n2 : bits .and .u64 (b : Int) 4503599627370495 = ((b % 2 ^ 52 : Nat) : Int) := by
      rw [show (4503599627370495 : Int) = ((2 ^ 52 - 1 : Nat) : Int) from rfl, bits_and_u64_nat _ _ hb (by decide), Nat.and_two_pow_sub_one_eq_mod]
    have n4 : ((Pb.mOf b : Int) == 0) = false := by rw [beq_eq_false_iff_ne]; omega
    have n5 : 64 - (Lib.bitLen (Pb.mOf b) : Int) = ((64 - k : Nat) : Int) := by rw [hk]; omega
    have g1 : 2 ^ 63 ≤ Pb.mOf b * 2 ^ (64 - k) := by
      refine Nat.le_trans ?_ (Nat.mul_le_mul_right _ hbl.2.1)
      rw [← Nat.pow_add, show k - 1 + (64 - k) = 63 from by omega]
      exact Nat.le_refl _
    have g2 : Pb.mOf b * 2 ^ (64 - k) < 2 ^ 64 := by
      refine Nat.lt_of_lt_of_le (Nat.mul_lt_mul_of_pos_right hbl.2.2 (Nat.two_pow_pos _)) ?_
      rw [← Nat.pow_add, show k + (64 - k) = 64 from by omega]
      exact Nat.le_refl _
    have n6 : IntKind.u64.wrap ((Pb.mOf b : Int) * 2 ^ (64 - k)) = ((Pb.mOf b * 2 ^ (64 - k) : Nat) : Int) := by
      rw [show ((Pb.mOf b : Int) * 2 ^ (64 - k)) = ((Pb.mOf b * 2 ^ (64 - k) : Nat) : Int) from by rw [Int.natCast_mul, Int.natCast_pow]; rfl]
      exact IntKind_u64_wrap _ (by omega) (by omega)
    by_cases h0 : b / 2 ^ 52 % 2048 = 0
    · rw [h0] at n1
      have hm2 : Pb.mOf b = b % 2 ^ 52 := by unfold Pb.mOf; rw [if_pos h0]
      have hq2 : Pb.qOf b = -1074 := by unfold Pb.qOf; rw [if_pos h0]
      rw [← hm2] at n2
      exact Pw.ftoa64_sub b (Pb.mOf b) (64 - k) (Pb.qOf b) (Pb.neg b) hb n0 n1 n2 hF (by omega) n4 n5 (by omega) n6 g1 g2 (by rw [hq2]; omega) d e hsh hd0 hd17 (by omega) (by omega) B v xs w ht htab hd hl
    · have hm2 : Pb.mOf b = 2 ^ 52 + b % 2 ^ 52 := by unfold Pb.mOf; rw [if_neg h0]
      have hq2 : Pb.qOf b = ((b / 2 ^ 52 % 2048 : Nat) : Int) - 1075 := by unfold Pb.qOf; rw [if_neg h0]
      have n3 : bits .or .u64 ((b % 2 ^ 52 : Nat) : Int) 4503599627370496 = (Pb.mOf b : Int) := by
        rw [show (4503599627370496 : Int) = ((2 ^ 52 : Nat) : Int) from rfl, bits_or_u64_nat _ _ (by omega) (by decide), Nat.or_comm, hm2]
        have := Nat.two_pow_add_eq_or_of_lt (i := 52) (b := b % 2 ^ 52) (Nat.mod_lt _ (by decide)) 1
        rw [Nat.mul_one] at this
        rw [this]
      have hl47 : b / 2 ^ 52 % 2048 < 2048 := Nat.mod_lt _ (by decide)
      exact Pw.ftoa64_norm b _ _ (Pb.mOf b) (64 - k) (Pb.qOf b) (Pb.neg b) hb n0 n1 n2 (by omega) (by omega) n3 hF (by omega) n4 n5 (by omega) n6 g1 g2 (by rw [hq2]; omega) d e hsh hd0 hd17 (by omega) (by omega) B v xs w ht htab hd hl
end Go.Proofs

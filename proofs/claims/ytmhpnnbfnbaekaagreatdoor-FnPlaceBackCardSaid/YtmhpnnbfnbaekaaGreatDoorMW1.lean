/- Part of the proof of FnPlaceBack: walk: writing a float, its parts. No condition. -/
import Derived.Test.YtmhpnnbfnbaekaaGreatDoorShelf
import Derived.Test.YtmhpnnbfnbaekaaGreatDoorMPbF
import Derived.WalkKit
import Derived.WalkLawsBesides
import Derived.WalkSpells
import Derived.BigQuiet
import Derived.Deep.QuietTactic
import Derived.Lib.Hide
namespace Go.Proofs
open Go Go.RowKit
theorem ret_num {k : IntKind} {a b : Int} (h : a = b) : Ending.returned (.int k a) = .returned (.int k b) := by rw [h]
theorem IntKind_u64_wrap (x : Int) (h0 : 0 ≤ x) (h1 : x < 18446744073709551616) : IntKind.u64.wrap x = x := by
  unfold IntKind.wrap
  simp [IntKind.bits, IntKind.signed]
  omega
theorem Pw.log2Pow10 (x : Int) (w : World) (h0 : -400 ≤ x) (h1 : x ≤ 400) :
    Calls Tryz.prog 114 #[.int .i64 x] w fun e w' => e = .returned (.int .i64 (Pb.lp x)) ∧ w = w' := by
  go_enter Tryz.func114, Tryz.ntmps114
  go_wp2
  go_ret
  exact ⟨rfl, rfl⟩
theorem Pw.log10Pow2 (x : Int) (w : World) (h0 : -4000 ≤ x) (h1 : x ≤ 4000) :
    Calls Tryz.prog 85 #[.int .i64 x] w fun e w' => e = .returned (.int .i64 (-(Pb.fp x))) ∧ w = w' := by
  go_enter Tryz.func85, Tryz.ntmps85
  go_wp2
  go_ret
  exact ⟨ret_num (by unfold Pb.fp; omega), rfl⟩
theorem Pw.skewed (x : Int) (w : World) (h0 : -4000 ≤ x) (h1 : x ≤ 4000) :
    Calls Tryz.prog 112 #[.int .i64 x] w fun e w' => e = .returned (.int .i64 (-(Pb.sp x))) ∧ w = w' := by
  go_enter Tryz.func112, Tryz.ntmps112
  go_wp2
  go_ret
  exact ⟨ret_num (by unfold Pb.sp; omega), rfl⟩
theorem Pw.bool2u (b : Bool) (w : World) :
    Calls Tryz.prog 104 #[.bool b] w fun e w' => e = .returned (.int .u64 (if b then 1 else 0)) ∧ w = w' := by
  cases b
  all_goals
    go_enter Tryz.func104, Tryz.ntmps104
    go_wp2
    go_ret
    exact ⟨rfl, rfl⟩
theorem Pw.floor (u : Int) (w : World) (h0 : 0 ≤ u) (h1 : u < 18446744073709551616) :
    Calls Tryz.prog 118 #[.int .u64 u] w fun e w' => e = .returned (.int .u64 (u / 4)) ∧ w = w' := by
  go_enter Tryz.func118, Tryz.ntmps118
  go_wp2
  go_ret
  exact ⟨rfl, rfl⟩
theorem Pw.ceil (u : Int) (w : World) (h0 : 0 ≤ u) (h1 : u < 18446744073709551613) :
    Calls Tryz.prog 117 #[.int .u64 u] w fun e w' => e = .returned (.int .u64 ((u + 3) / 4)) ∧ w = w' := by
  go_enter Tryz.func117, Tryz.ntmps117
  go_wp2
  go_ret
  exact ⟨rfl, rfl⟩
theorem Pw.round (u : Int) (w : World) (h0 : 0 ≤ u) (h1 : u < 18446744073709551613) :
    Calls Tryz.prog 119 #[.int .u64 u] w fun e w' => e = .returned (.int .u64 ((u + 1 + u / 4 % 2) / 4)) ∧ w = w' := by
  go_enter Tryz.func119, Tryz.ntmps119
  go_wp2
  go_ret
  refine ⟨ret_num ?_, rfl⟩
  rw [and_one_u64 _ (by omega) (by omega), IntKind_u64_wrap _ (by omega) (by omega)]
theorem Pw.nudge (u d : Int) (w : World) (h0 : 0 ≤ u) (h1 : u < 18446744073709551613) (h2 : -1 ≤ d) (h3 : d ≤ 1) (h4 : 0 ≤ u + d) :
    Calls Tryz.prog 116 #[.int .u64 u, .int .i64 d] w fun e w' => e = .returned (.int .u64 (u + d)) ∧ w = w' := by
  go_enter Tryz.func116, Tryz.ntmps116
  go_wp2
  go_ret
  refine ⟨ret_num ?_, rfl⟩
  unfold IntKind.wrap
  simp [IntKind.bits, IntKind.signed]
  omega
theorem Pw.unmin (x : Int) (w : World) (h0 : 1 ≤ x) (h1 : x < 4611686018427387904) :
    Calls Tryz.prog 122 #[.int .u64 x] w fun e w' => e = .returned (.int .u64 (x * 4 - 2)) ∧ w = w' := by
  go_enter Tryz.func122, Tryz.ntmps122
  go_wp2
  go_ret
  exact ⟨rfl, rfl⟩
theorem and63 (s : Nat) (h : s < 64) : bits .and .i64 (s : Int) 63 = s := by
  have h127 : (BitVec.ofInt 64 63).toNat = 2 ^ 6 - 1 := by decide
  have key : (BitVec.ofInt 64 (s : Int) &&& BitVec.ofInt 64 63).toNat = ((s : Int) % ((2 ^ 64 : Nat) : Int)).toNat % 2 ^ 6 := by
    rw [BitVec.toNat_and, BitVec.toNat_ofInt, h127, Nat.and_two_pow_sub_one_eq_mod]
  show IntKind.i64.wrap ((BitVec.ofInt 64 (s : Int) &&& BitVec.ofInt 64 63).toNat : Nat) = s
  rw [key, IntKind.wrap_i64]
  omega
def Pw.mh (x y : Nat) : Nat := x * y / 18446744073709551616
def Pw.ml (x y : Nat) : Nat := x * y % 18446744073709551616
theorem Pw.Mul64 (x y : Nat) (hx : x < 18446744073709551616) (hy : y < 18446744073709551616) (w : World) :
    Calls Tryz.prog 142 #[.int .u64 x, .int .u64 y] w fun e w' => e = .returned (.tuple #[.int .u64 (Pw.mh x y), .int .u64 (Pw.ml x y)]) ∧ w = w' :=
  (Tryz.bits_Mul64 x y hx hy w).mono fun _ _ ⟨a, b⟩ => ⟨a, b.symm⟩
theorem Pw.mh_lt {x y : Nat} (hx : x < 18446744073709551616) (hy : y < 18446744073709551616) : Pw.mh x y < 18446744073709551616 := by
  have := Pb.mul_bound hx hy
  unfold Pw.mh; omega
theorem Pw.ml_lt (x y : Nat) : Pw.ml x y < 18446744073709551616 := Nat.mod_lt _ (by decide)
theorem Pw.shr_shl {h s : Nat} (hh : h < 18446744073709551616) : IntKind.u64.wrap ((h : Int) / 2 ^ s * 2 ^ s) = ((h / 2 ^ s * 2 ^ s : Nat) : Int) := by
  have e : ((h : Int) / 2 ^ s * 2 ^ s) = ((h / 2 ^ s * 2 ^ s : Nat) : Int) := by simp
  have := Nat.div_mul_le_self h (2 ^ s)
  rw [e, IntKind_u64_wrap _ (by omega) (by omega)]
theorem Pw.mh_le {x y : Nat} (hx : x < 18446744073709551616) (hy : y < 18446744073709551616) : Pw.mh x y ≤ 18446744073709551614 := by
  have := Pb.mul_bound hx hy
  unfold Pw.mh; omega
theorem Pw.or1 (h : Nat) (hh : h < 18446744073709551616) (s : Nat) : bits .or .u64 ((h : Int) / 2 ^ s) 1 = ((h / 2 ^ s ||| 1 : Nat) : Int) := by
  have e : ((h : Int) / 2 ^ s) = ((h / 2 ^ s : Nat) : Int) := by simp
  have := Nat.div_le_self h (2 ^ s)
  rw [e, show (1 : Int) = ((1 : Nat) : Int) from rfl, u64_or_nat _ _ (by omega) (by decide)]
theorem Pw.or0 (h : Nat) (hh : h < 18446744073709551616) (s : Nat) : bits .or .u64 ((h : Int) / 2 ^ s) 0 = ((h / 2 ^ s : Nat) : Int) := by
  have e : ((h : Int) / 2 ^ s) = ((h / 2 ^ s : Nat) : Int) := by simp
  have := Nat.div_le_self h (2 ^ s)
  rw [e, show (0 : Int) = ((0 : Nat) : Int) from rfl, u64_or_nat _ _ (by omega) (by decide), Nat.or_zero]
theorem Pw.uscale (x hi lo s b o : Nat) (w : World) (hx : x < 18446744073709551616) (hhi : hi < 18446744073709551616) (hlo : lo < 18446744073709551616) (hs : s < 64)
    (h1 : x * hi / 18446744073709551616 = 0 → x * lo / 18446744073709551616 ≤ x * hi % 18446744073709551616)
    (c0 : w.cell? ⟨b, o, none⟩ = some (.int .u64 hi)) (c1 : w.cell? ⟨b, o + 1, none⟩ = some (.int .u64 lo)) (c2 : w.cell? ⟨b, o + 2, none⟩ = some (.int .i64 s)) :
    Calls Tryz.prog 115 #[.int .u64 x, .pointer (some ⟨b, o, none⟩)] w fun e w' => e = .returned (.int .u64 (Pb.us x hi lo s)) ∧ ∃ n, w' = w.drewN n := by
  have h63 := and63 s hs
  have l1 := Pw.mh_lt hx hhi
  have l2 := Pw.ml_lt x hi
  have l3 := Pw.mh_le hx hlo
  have l4 := Pw.ml_lt x lo
  by_cases g1 : Pw.mh x hi % 2 ^ s ≠ 0
  · have t1 : (IntKind.u64.wrap (↑(Pw.mh x hi) / 2 ^ s * 2 ^ s) != (Pw.mh x hi : Int)) = true := by
      rw [Pw.shr_shl l1, bne_iff_ne]
      have := Nat.div_add_mod (Pw.mh x hi) (2 ^ s)
      rw [Nat.mul_comm] at this
      omega
    have fin : Pb.us x hi lo s = (Pw.mh x hi) / 2 ^ s ||| 1 := by
      unfold Pb.us; exact if_pos g1
    have Fin := Lib.hid fin
    clear fin g1 h1
    go_enter Tryz.func115, Tryz.ntmps115
    go_wp2_with (go_at_call 142; refine (Pw.Mul64 _ _ (by omega) (by omega) _).mono ?_; rintro e w' ⟨rfl, rfl⟩)
    go_ret
    exact ⟨ret_num (by rw [Fin.out, Pw.or1 _ l1]), 0, rfl⟩
  · have t1 : (IntKind.u64.wrap (↑(Pw.mh x hi) / 2 ^ s * 2 ^ s) != (Pw.mh x hi : Int)) = false := by
      rw [Pw.shr_shl l1, bne_eq_false_iff_eq]
      have := Nat.div_add_mod (Pw.mh x hi) (2 ^ s)
      rw [Nat.mul_comm] at this
      omega
    by_cases g2 : Pw.ml x hi < Pw.mh x lo
    · have g2' : ((Pw.ml x hi : Int) < Pw.mh x lo) := by omega
      have g3 : (1 : Int) ≤ Pw.mh x hi := by
        rcases Nat.eq_zero_or_pos (Pw.mh x hi) with h0 | h0
        · have := h1 h0
          unfold Pw.mh Pw.ml at g2; omega
        · omega
      have fin : Pb.us x hi lo s = (Pw.mh x hi - 1) / 2 ^ s ||| 1 := by
        unfold Pb.us
        rw [if_neg (show ¬ (x * hi / 2 ^ 64 % 2 ^ s ≠ 0) from g1)]
        exact if_pos g2
      have Fin := Lib.hid fin
      have T1 := Lib.hid t1
      have fw : decide (1 < IntKind.u64.wrap ((Pw.ml x hi : Int) - Pw.mh x lo)) = true := by
        rw [decide_eq_true_eq]
        unfold IntKind.wrap
        simp [IntKind.bits, IntKind.signed]
        omega
      have Fw := Lib.hid fw
      clear g1 h1 g2 fin fw
      go_enter Tryz.func115, Tryz.ntmps115
      go_wp2_with (first | (go_at_call 142; refine (Pw.Mul64 _ _ (by omega) (by omega) _).mono ?_; rintro e w' ⟨rfl, rfl⟩) | (go_at_call 104; refine (Pw.bool2u _ _).mono ?_; rintro e w' ⟨rfl, rfl⟩))
      have E1 : ((Pw.mh x hi : Int) - 1) = ((Pw.mh x hi - 1 : Nat) : Int) := by omega
      have HE := Lib.hid E1
      clear E1
      go_quiet ((go_at_call 104; exact Calls.quiet_of_same ((Pw.bool2u _ _).mono fun _ _ ⟨a, b⟩ => ⟨a, b.symm⟩)))
      go_wp2
      · go_ret
        refine ⟨ret_num ?_, _, rfl⟩
        rw [HE.out, Fin.out]
        exact Pw.or1 _ (by omega) _
      · have := Fw.out
        rw [decide_eq_true_eq] at this
        exfalso; omega
    · have g2' : ¬ ((Pw.ml x hi : Int) < Pw.mh x lo) := by omega
      have wr : IntKind.u64.wrap ((Pw.ml x hi : Int) - Pw.mh x lo) = (Pw.ml x hi : Int) - Pw.mh x lo := IntKind_u64_wrap _ (by omega) (by omega)
      have fin : Pb.us x hi lo s = if 1 < Pw.ml x hi - Pw.mh x lo then Pw.mh x hi / 2 ^ s ||| 1 else Pw.mh x hi / 2 ^ s := by
        unfold Pb.us
        rw [if_neg (show ¬ (x * hi / 2 ^ 64 % 2 ^ s ≠ 0) from g1)]
        exact if_neg g2
      have Fin := Lib.hid fin
      clear g1 h1 g2 fin
      go_enter Tryz.func115, Tryz.ntmps115
      go_wp2_with (first | (go_at_call 142; refine (Pw.Mul64 _ _ (by omega) (by omega) _).mono ?_; rintro e w' ⟨rfl, rfl⟩) | (go_at_call 104; refine (Pw.bool2u _ _).mono ?_; rintro e w' ⟨rfl, rfl⟩))
      go_quiet ((go_at_call 104; exact Calls.quiet_of_same ((Pw.bool2u _ _).mono fun _ _ ⟨a, b⟩ => ⟨a, b.symm⟩)))
      go_wp2
      · rename_i h
        go_ret
        refine ⟨ret_num ?_, _, rfl⟩
        rw [Fin.out, if_pos (by omega)]
        exact Pw.or1 _ (by omega) _
      · rename_i h
        go_ret
        refine ⟨ret_num ?_, _, rfl⟩
        rw [Fin.out, if_neg (by omega)]
        exact Pw.or0 _ (by omega) _
theorem Pw.us_lt {x hi lo s : Nat} (hx : x < 18446744073709551616) (hhi : hi < 18446744073709551616) (hs : 3 ≤ s) : Pb.us x hi lo s ≤ 2305843009213693952 := by
  have l1 := Pw.mh_lt hx hhi
  have key : ∀ h : Nat, h < 18446744073709551616 → h / 2 ^ s ||| 1 ≤ 2305843009213693952 ∧ h / 2 ^ s ≤ 2305843009213693952 := by
    intro h hh
    have h8 : 2 ^ 3 ≤ 2 ^ s := Nat.pow_le_pow_right (by decide) hs
    have : h / 2 ^ s ≤ h / 2 ^ 3 := Nat.div_le_div_left h8 (by decide)
    rw [Pb.or_one]
    split <;> omega
  unfold Pb.us
  simp only []
  split
  · exact (key _ l1).1
  · split
    · exact (key _ (by have : x * hi / 2 ^ 64 < 18446744073709551616 := l1; omega)).1
    · split
      · exact (key _ l1).1
      · exact (key _ l1).2
/-- uscale over a scaler that lies in a block of three cells. -/
theorem Pw.uscaleU (x : Int) (p si : Int) (U b : Nat) (w : World) (hx : x < 18446744073709551616) (hx2 : 2 ≤ x) (h2 : -348 ≤ p) (h3 : p ≤ 347) (h0 : 0 ≤ si) (h1 : si < 64) (hU : Hid (Pb.us x.toNat (Pb.tabHi p) (Pb.tabLo p) si.toNat = U))
    (c0 : w.cell? ⟨b, 0, none⟩ = some (.int .u64 (Pb.tabHi p))) (c1 : w.cell? ⟨b, 1, none⟩ = some (.int .u64 (Pb.tabLo p))) (c2 : w.cell? ⟨b, 2, none⟩ = some (.int .i64 si)) :
    Calls Tryz.prog 115 #[.int .u64 x, .pointer (some ⟨b, 0, none⟩)] w fun e w' => e = .returned (.int .u64 U) ∧ ∃ n, w.drewN n = w' := by
  obtain ⟨-, -, t1, t2, t3, -⟩ := Pb.tab_facts h2 h3
  obtain ⟨s, rfl⟩ := Int.eq_ofNat_of_zero_le h0
  obtain ⟨x, rfl⟩ := Int.eq_ofNat_of_zero_le (show 0 ≤ x by omega)
  have hU := hU.out
  rw [Int.toNat_natCast, Int.toNat_natCast] at hU
  refine (Pw.uscale x _ _ s b 0 w (by omega) t2 t3 (by omega) ?_ c0 c1 c2).mono ?_
  · intro hz
    exfalso
    have : 2 * 2 ^ 63 ≤ x * Pb.tabHi p := Nat.mul_le_mul (by omega) t1
    omega
  · rintro e w' ⟨rfl, n, rfl⟩
    exact ⟨by rw [hU], n, rfl⟩
end Go.Proofs

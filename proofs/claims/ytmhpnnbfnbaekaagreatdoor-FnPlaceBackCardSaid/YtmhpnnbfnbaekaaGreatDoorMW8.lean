/- Part of the proof of FnPlaceBack: walk: reading a float: the fast way. No condition. -/
import Derived.Test.YtmhpnnbfnbaekaaGreatDoorMW6bc
import Derived.Test.YtmhpnnbfnbaekaaGreatDoorMPbF
import Derived.Test.YtmhpnnbfnbaekaaGreatDoorMW7
namespace Go.Proofs
open Go Go.RowKit
/-- The bits of a double. -/
def Pb.word (m : Nat) (q : Int) : Nat := (q + 1074).toNat * 4503599627370496 + m
theorem Pw.or52 (m : Nat) (h : m < 9007199254740992) (h2 : 4503599627370496 ≤ m) : m = 2 ^ 52 ||| (m - 4503599627370496) := by
  have := Nat.two_pow_add_eq_or_of_lt (i := 52) (b := m - 4503599627370496) (by omega) 1
  rw [Nat.mul_one] at this
  rw [← this]
  omega
theorem Pw.and52n (m : Nat) (h : m < 9007199254740992) : m &&& 2 ^ 52 = if 4503599627370496 ≤ m then 4503599627370496 else 0 := by
  by_cases h2 : 4503599627370496 ≤ m
  · rw [if_pos h2]
    conv => lhs; rw [Pw.or52 m h h2]
    have h3 : m - 4503599627370496 < 2 ^ 52 := by omega
    generalize m - 4503599627370496 = f at h3
    show _ = 2 ^ 52
    refine Nat.eq_of_testBit_eq fun i => ?_
    rw [Nat.testBit_and, Nat.testBit_or, Nat.testBit_two_pow]
    by_cases hi : 52 = i
    · simp [hi]
    · simp [hi]
  · rw [if_neg h2]
    refine Nat.eq_of_testBit_eq fun i => ?_
    rw [Nat.testBit_and, Nat.testBit_two_pow, Nat.zero_testBit]
    by_cases hi : 52 = i
    · subst hi
      rw [Nat.testBit_lt_two_pow (by omega)]; rfl
    · simp [hi]
theorem Pw.and52 (m : Nat) (h : m < 9007199254740992) : bits .and .u64 (m : Int) 4503599627370496 = if 4503599627370496 ≤ m then 4503599627370496 else 0 := by
  have e : (4503599627370496 : Int) = ((2 ^ 52 : Nat) : Int) := rfl
  rw [e, bits_and_u64_nat _ _ (by omega) (by decide), Pw.and52n m h]
  split <;> rfl
theorem Pw.clear52 (m : Nat) (h : m < 9007199254740992) (h2 : 4503599627370496 ≤ m) : bits .andNot .u64 (m : Int) 4503599627370496 = (m : Int) - 4503599627370496 := by
  have h1 : (BitVec.ofInt 64 (m : Int)).toNat = m := by
    rw [BitVec.ofInt_natCast, BitVec.toNat_ofNat]; exact Nat.mod_eq_of_lt (by omega)
  obtain ⟨K, hK⟩ : ∃ K, K = 2 ^ 64 - (2 ^ 52 + 1) := ⟨_, rfl⟩
  have h3 : (~~~(BitVec.ofInt 64 4503599627370496)).toNat = K := by rw [hK]; decide
  have hKb : ∀ i, K.testBit i = (decide (i < 64) && !(2 ^ 52).testBit i) := fun i => by rw [hK]; exact Nat.testBit_two_pow_sub_succ (by decide) i
  clear hK
  show IntKind.u64.wrap ((BitVec.ofInt 64 (m : Int) &&& ~~~(BitVec.ofInt 64 4503599627370496)).toNat : Int) = _
  rw [BitVec.toNat_and, h1, h3]
  have key : m &&& K = m - 4503599627370496 := by
    conv => lhs; rw [Pw.or52 m h h2]
    have h4 : m - 4503599627370496 < 2 ^ 52 := by omega
    generalize m - 4503599627370496 = f at h4
    refine Nat.eq_of_testBit_eq fun i => ?_
    rw [Nat.testBit_and, Nat.testBit_or, Nat.testBit_two_pow, hKb, Nat.testBit_two_pow]
    by_cases hi : 52 = i
    · subst hi
      rw [Nat.testBit_lt_two_pow h4]; rfl
    · by_cases hj : i < 64
      · simp [hi, hj]
      · have : f.testBit i = false := Nat.testBit_lt_two_pow (Nat.lt_of_lt_of_le h4 (Nat.pow_le_pow_right (by decide) (by omega)))
        simp [this, hi]
  rw [key, IntKind_u64_wrap _ (by omega) (by omega)]
  omega
theorem Pw.pack64 (m : Nat) (q : Int) (w : World) (h : Pb.Fits m q) :
    Calls Tryz.prog 138 #[.int .u64 m, .int .i64 q] w fun e w' => e = .returned (.tuple #[.float .f64 (Pb.word m q), .nilIface]) ∧ w = w' := by
  have k105 := Pw.call105
  obtain ⟨m0, m1, q0, q1, hn⟩ := h
  have hm := Pw.and52 m m1
  unfold Pb.word
  by_cases h2 : 4503599627370496 ≤ m
  · rw [if_pos h2] at hm
    have t1 : decide ((972 : Int) ≤ q) = false := by simp; omega
    obtain ⟨N, hN⟩ : ∃ N : Nat, N = (q + 1075).toNat * 4503599627370496 := ⟨_, rfl⟩
    obtain ⟨M, hM⟩ : ∃ M : Nat, M = (q + 1074).toNat * 4503599627370496 + m := ⟨_, rfl⟩
    rw [← hM]
    have hsh : IntKind.u64.wrap ((1075 + q) * 4503599627370496) = (N : Int) := by
      rw [IntKind_u64_wrap _ (by omega) (by omega)]; omega
    have hor : bits .or .u64 ((m : Int) - 4503599627370496) (N : Int) = (M : Int) := by
      rw [hN, hM, show (m : Int) - 4503599627370496 = ((m - 4503599627370496 : Nat) : Int) from by omega, bits_or_u64_nat _ _ (by omega) (by omega), Nat.or_comm]
      have := Nat.two_pow_add_eq_or_of_lt (i := 52) (b := m - 4503599627370496) (by omega) (q + 1075).toNat
      rw [Nat.mul_comm, show (4503599627370496 : Nat) = 2 ^ 52 from rfl, ← this]
      omega
    have hAN := Pw.clear52 m m1 h2
    clear hN hM
    go_enter Tryz.func138, Tryz.ntmps138
    go_wp2
    go_ret2
    exact ⟨rfl, rfl⟩
  · rw [if_neg h2] at hm
    have hq : q = -1074 := by omega
    subst hq
    go_enter Tryz.func138, Tryz.ntmps138
    go_wp2
    go_ret2
    exact ⟨by simp, rfl⟩
end Go.Proofs
namespace Go.Proofs
open Go Go.RowKit
theorem Pw.bool2int (b : Bool) (w : World) :
    Calls Tryz.prog 121 #[.bool b] w fun e w' => e = .returned (.int .i64 (if b then 1 else 0)) ∧ w = w' := by
  cases b
  all_goals
    go_enter Tryz.func121, Tryz.ntmps121
    go_wp2
    go_ret
    exact ⟨rfl, rfl⟩
theorem Pb.or_low (U : Nat) : U ||| U % 2 = U := by
  refine Nat.eq_of_testBit_eq fun i => ?_
  rw [Nat.testBit_or, show U % 2 = U % 2 ^ 1 from rfl, Nat.testBit_mod_two_pow]
  cases U.testBit i <;> simp
set_option maxRecDepth 100000 in
set_option maxHeartbeats 1000000 in
theorem Pw.parse64_walk (d s U m : Nat) (p l E si q : Int) (big : Bool) (w : World) (hm64 : d < 18446744073709551616) (n5 : 64 - (Lib.bitLen d : Int) = (s : Int)) (hs : s < 64) (X : Nat) (n6 : IntKind.u64.wrap ((d : Int) * 2 ^ s) = (X : Int)) (hX : 2 ≤ X) (hX2 : X < 18446744073709551616)
    (hl : Pb.lp p = l) (hl0 : -1200 ≤ l) (hl1 : l ≤ 1200) (p0 : -345 ≤ p) (p1 : p ≤ 310) (hE : min 1074 (53 - (Lib.bitLen d : Int) - l) = E) (hE0 : -1200 ≤ E) (hsi : E - s + l + 3 = -si) (hsi0 : 8 ≤ si) (hsi1 : si < 64)
    (hU : Hid (Pb.us X (Pb.tabHi p) (Pb.tabLo p) si.toNat = U)) (hUb : U ≤ 2305843009213693952) (hbig : decide ((36028797018963966 : Int) ≤ U) = big)
    (hm : Hid (Pb.rnd (if big then U / 2 ||| U % 2 else U) = m)) (hq : Hid (-(E - (if big then 1 else 0)) = q)) (hF : Pb.Fits m q) (ht : Pw.PowTab w) :
    Calls Tryz.prog 107 #[.int .u64 d, .int .i64 p, .int .u64 0] w fun e w' => e = .returned (.tuple #[.float .f64 (Pb.word m q), .nilIface]) ∧ w.grownBy w' none := by
  have k105 := Pw.call105
  have hE1 : E ≤ 1074 := by omega
  go_enter Tryz.func107, Tryz.ntmps107
  go_wp2_with (first
    | (go_at_call 81; refine (Pw.Len64 _ _ hm64).mono ?_; rintro e w1 ⟨rfl, rfl⟩)
    | (go_at_call 114; refine (Pw.log2Pow10 p _ (by omega) (by omega)).mono ?_; rintro e w1 ⟨rfl, rfl⟩)
    | (go_at_call 113; go_must (refine (Pw.prescale (E - s) p l _ (by omega) (by omega) (by omega) (by omega) (by omega) (by omega) (by exact ht)).mono ?_; rintro e w1 ⟨rfl, rfl⟩)))
  refine (Pw.uscaleU X p si U w.heap.size _ ?a1 ?a2 ?a3 ?a4 ?a5 ?a6 ?a7 ?a8 ?a9 ?a10).mono ?kk
  case a1 => omega
  case a2 => omega
  case a3 => omega
  case a4 => omega
  case a5 => omega
  case a6 => omega
  case a7 => rw [Int.toNat_natCast]; exact hU
  case a8 => simp
  case a9 => simp
  case a10 => simp
  case kk =>
    rintro e w1 ⟨rfl, nd, rfl⟩
    have hg : w.grownBy ((w.alloc (Obj.cells #[Value.int IntKind.u64 ↑(Pb.tabHi p), Value.int IntKind.u64 ↑(Pb.tabLo p), Value.int IntKind.i64 si] 190)).drewN nd) none := Pw.grown_of_below (Nat.le_refl _) (below_drewN ((Below.refl _ _).alloc (Nat.le_refl _) _) _)
    have HG := Lib.hid hg
    clear hg
    have hu0 : (0 : Int) ≤ U := by omega
    have hA : bits .and .u64 (U : Int) 1 = ((U % 2 : Nat) : Int) := by
      rw [show (1 : Int) = ((2 ^ 1 - 1 : Nat) : Int) from rfl, bits_and_u64_nat _ _ (by omega) (by decide), Nat.and_two_pow_sub_one_eq_mod]
    obtain ⟨V, hV⟩ : ∃ V, V = (if big then U / 2 ||| U % 2 else U) := ⟨_, rfl⟩
    have hVb : V ≤ 2305843009213693952 := by
      rw [hV]
      split
      · have h1 : U / 2 ||| U % 2 < 2 ^ 61 := Nat.or_lt_two_pow (by omega) (by omega)
        omega
      · exact hUb
    rw [← hV] at hm
    have hR : bits .or .u64 0 (((V : Int) + 1 + (V : Int) / 4 % 2) / 4) = (m : Int) := by
      rw [← hm.out, show (((V : Int) + 1 + (V : Int) / 4 % 2) / 4) = ((Pb.rnd V : Nat) : Int) from by unfold Pb.rnd; omega, show (0 : Int) = ((0 : Nat) : Int) from rfl, bits_or_u64_nat _ _ (by decide) (by have := hF.2.1; rw [hm.out]; omega), Nat.zero_or]
    have HF := Lib.hid hF
    obtain ⟨u2, hu2⟩ : ∃ u2, u2 = U % 2 := ⟨_, rfl⟩
    cases big
    · have hO : bits .or .u64 (U : Int) (u2 : Int) = (V : Int) := by
        rw [bits_or_u64_nat _ _ (by omega) (by omega), hV, if_neg (by decide), hu2, Pb.or_low]
      rw [← hu2] at hA
      clear hV hu2
      rw [if_neg (by decide), Int.sub_zero] at hq
      go_wp2_with (first
        | (go_at_call 122; refine (Pw.unmin 9007199254740992 _ (by decide) (by decide)).mono ?_; rintro e w1 ⟨rfl, rfl⟩)
        | (go_at_call 121; refine (Pw.bool2int _ _).mono ?_; rintro e w1 ⟨rfl, rfl⟩)
        | (go_at_call 119; refine (Pw.round V _ (by omega) (by omega)).mono ?_; rintro e w1 ⟨rfl, rfl⟩))
      rw [hq.out]
      refine (Pw.pack64 m q _ HF.out).mono ?_
      rintro e w1 ⟨rfl, rfl⟩
      go_wp2
      go_ret2
      exact ⟨rfl, HG.out⟩
    · have hO : bits .or .u64 ((U : Int) / 2) (u2 : Int) = (V : Int) := by
        rw [show (U : Int) / 2 = ((U / 2 : Nat) : Int) from by omega, bits_or_u64_nat _ _ (by omega) (by omega), hV, if_pos rfl, hu2]
      rw [← hu2] at hA
      clear hV hu2
      rw [if_pos rfl] at hq
      go_wp2_with (first
        | (go_at_call 122; refine (Pw.unmin 9007199254740992 _ (by decide) (by decide)).mono ?_; rintro e w1 ⟨rfl, rfl⟩)
        | (go_at_call 121; refine (Pw.bool2int _ _).mono ?_; rintro e w1 ⟨rfl, rfl⟩)
        | (go_at_call 119; refine (Pw.round V _ (by omega) (by omega)).mono ?_; rintro e w1 ⟨rfl, rfl⟩))
      rw [hq.out]
      refine (Pw.pack64 m q _ HF.out).mono ?_
      rintro e w1 ⟨rfl, rfl⟩
      go_wp2
      go_ret2
      exact ⟨rfl, HG.out⟩
theorem Pw.parse64 (m d : Nat) (q p : Int) (w : World) (h : Pb.Fits m q) (hd : 0 < d) (hd64 : d < 18446744073709551616) (p0 : -345 ≤ p) (p1 : p ≤ 310) (hc : d < 10 ^ 17 ∨ 100 ∣ d ∨ p = 0) (hw : Pb.Within m q (d * 10 ^ p)) (ht : Pw.PowTab w) :
    Calls Tryz.prog 107 #[.int .u64 d, .int .i64 p, .int .u64 0] w fun e w' => e = .returned (.tuple #[.float .f64 (Pb.word m q), .nilIface]) ∧ w.grownBy w' none := by
  have hbl : 1 ≤ Lib.bitLen d ∧ 2 ^ (Lib.bitLen d - 1) ≤ d ∧ d < 2 ^ Lib.bitLen d := Lib.bitLenAux_bounds 64 _ (by omega) (by omega)
  have hb64 : Lib.bitLen d ≤ 64 := Lib.bitLen_le _ 64 (by omega) hd64
  obtain ⟨e1, e2, e3⟩ := Pb.parse_ok h hd hbl.2.1 hbl.2.2 hbl.1 hb64 p0 p1 hc hw
  obtain ⟨b, hb⟩ : ∃ b, Lib.bitLen d = b := ⟨_, rfl⟩
  rw [hb] at hbl hb64 e1 e2 e3
  have g1 : 2 ^ 63 ≤ d * 2 ^ (64 - b) := by
    refine Nat.le_trans ?_ (Nat.mul_le_mul_right _ hbl.2.1)
    rw [← Nat.pow_add, show b - 1 + (64 - b) = 63 from by omega]
    exact Nat.le_refl _
  have g2 : d * 2 ^ (64 - b) < 2 ^ 64 := by
    refine Nat.lt_of_lt_of_le (Nat.mul_lt_mul_of_pos_right hbl.2.2 (Nat.two_pow_pos _)) ?_
    rw [← Nat.pow_add, show b + (64 - b) = 64 from by omega]
    exact Nat.le_refl _
  have n6 : IntKind.u64.wrap ((d : Int) * 2 ^ (64 - b)) = ((d * 2 ^ (64 - b) : Nat) : Int) := by
    rw [show ((d : Int) * 2 ^ (64 - b)) = ((d * 2 ^ (64 - b) : Nat) : Int) from by rw [Int.natCast_mul, Int.natCast_pow]; rfl]
    exact IntKind_u64_wrap _ (by omega) (by omega)
  have hlp : -1200 ≤ Pb.lp p ∧ Pb.lp p ≤ 1100 := by unfold Pb.lp; omega
  obtain ⟨-, -, t1, t2, t3, -⟩ := Pb.tab_facts (p := p) (by omega) (by omega)
  unfold Pb.parseM at e1
  dsimp only at e1
  rw [show (64 : Int) - (b : Int) = ((64 - b : Nat) : Int) from by omega] at e1 e2 e3
  obtain ⟨E, hE⟩ : ∃ E, min 1074 (53 - (b : Int) - Pb.lp p) = E := ⟨_, rfl⟩
  rw [hE] at e1 e2 e3
  obtain ⟨U, hU⟩ : ∃ U, Pb.us (d * 2 ^ (64 - b)) (Pb.tabHi p) (Pb.tabLo p) (-(E - ((64 - b : Nat) : Int) + Pb.lp p + 3)).toNat = U := ⟨_, rfl⟩
  rw [hU] at e1
  have hUb : U ≤ 2305843009213693952 := by
    rw [← hU]
    exact Pw.us_lt (by omega) t2 (by omega)
  have hbig : decide ((36028797018963966 : Int) ≤ U) = decide (2 ^ 55 - 2 ≤ U) := by
    congr 1
    apply propext
    omega
  refine Pw.parse64_walk d (64 - b) U m p (Pb.lp p) E _ q (decide (2 ^ 55 - 2 ≤ U)) w hd64 (by rw [hb]; omega) (by omega) (d * 2 ^ (64 - b)) n6 (by omega) (by omega) rfl hlp.1 (by omega) p0 p1 (by rw [hb]; exact hE) (by omega) (by rw [Int.neg_neg]) e2 e3 (Lib.hid hU) hUb hbig ?_ ?_ h ht
  · refine Lib.hid ?_
    by_cases hc : 2 ^ 55 - 2 ≤ U
    · rw [if_pos hc] at e1
      rw [if_pos (by simpa using hc)]
      exact congrArg Prod.fst e1
    · rw [if_neg hc] at e1
      rw [if_neg (by simpa using hc)]
      exact congrArg Prod.fst e1
  · refine Lib.hid ?_
    by_cases hc : 2 ^ 55 - 2 ≤ U
    · rw [if_pos hc] at e1
      rw [if_pos (by simpa using hc)]
      have := congrArg Prod.snd e1
      dsimp only at this
      omega
    · rw [if_neg hc] at e1
      rw [if_neg (by simpa using hc)]
      have := congrArg Prod.snd e1
      dsimp only at this
      omega
end Go.Proofs
namespace Go.Proofs
open Go Go.RowKit
theorem Pw.special (S : ByteArray) (hS : 0 < S.size) (c : UInt8) (hc : S[0] = c) (h0 : 48 ≤ c.toNat) (h1 : c.toNat ≤ 57) (w : World) :
    Calls Tryz.prog 95 #[.string S] w fun e w' => e = .returned (.tuple #[.float .f64 0, .int .i64 0, .bool false]) ∧ w = w' := by
  have t0 : ((S.size : Int) == 0) = false := by rw [beq_eq_false_iff_ne]; omega
  have t1 : ((c.toNat : Int) == 43) = false := by rw [beq_eq_false_iff_ne]; omega
  have t2 : ((c.toNat : Int) == 45) = false := by rw [beq_eq_false_iff_ne]; omega
  have t3 : ((c.toNat : Int) == 105) = false := by rw [beq_eq_false_iff_ne]; omega
  have t4 : ((c.toNat : Int) == 73) = false := by rw [beq_eq_false_iff_ne]; omega
  have t5 : ((c.toNat : Int) == 110) = false := by rw [beq_eq_false_iff_ne]; omega
  have t6 : ((c.toNat : Int) == 78) = false := by rw [beq_eq_false_iff_ne]; omega
  clear h0 h1
  go_enter Tryz.func95, Tryz.ntmps95
  go_wp2
  go_ret3
  exact ⟨rfl, rfl⟩
end Go.Proofs

/- Part of the proof of FnPlaceBack: walk: writing a float, its digits. No condition. -/
import Derived.Test.YtmhpnnbfnbaekaaGreatDoorMW2b
namespace Go.Proofs
open Go Go.RowKit
theorem Pw.div_half (X : Int) (s : Nat) (h : 0 ≤ X) (hs : 1 ≤ s) : X / 2 ^ s ≤ X / 2 := by
  obtain ⟨n, rfl⟩ := Int.eq_ofNat_of_zero_le h
  have : n / 2 ^ s ≤ n / 2 := Nat.div_le_div_left (by have := Nat.pow_le_pow_right (n := 2) (by decide) hs; omega) (by decide)
  have e : ((n : Int) / 2 ^ s) = ((n / 2 ^ s : Nat) : Int) := by simp
  rw [e]; omega
theorem Pw.shortFloat_4 (s : Nat) (P : Int) (hP : Hid (Pb.fp (-1074) = P)) (s0 : 12 ≤ s) (s1 : s ≤ 63) (U1 U2 U3 : Nat) (w : World) (X : Int) (o : Nat) (x0 : 9223372036854775808 < X) (x1 : X + 2 ^ (s - 1) < 18446744073709551616) (x2 : X < 18446744073709551616) (x3 : 2 ^ (s - 1) + 2 ≤ X) (ho2 : o < 2) (hU : 1 ≤ U2) (ho : bits .and .i64 (X / 2 ^ s) 1 = o) (ht : Pw.PowTab w) (p0 : -348 ≤ P) (p1 : P ≤ 347)
    (k1 : 3 ≤ -1074 + Pb.lp P + 3) (k2 : -1074 + Pb.lp P + 3 ≤ 6)
    (hU1 : Hid (Pb.us (X - 2 ^ (s - 1)).toNat (Pb.tabHi (P)) (Pb.tabLo (P)) ((s : Int) - (-1074 + Pb.lp P + 3)).toNat = U1))
    (hU2 : Hid (Pb.us (X + 2 ^ (s - 1)).toNat (Pb.tabHi (P)) (Pb.tabLo (P)) ((s : Int) - (-1074 + Pb.lp P + 3)).toNat = U2))
    (hU3 : Hid (Pb.us X.toNat (Pb.tabHi (P)) (Pb.tabLo (P)) ((s : Int) - (-1074 + Pb.lp P + 3)).toNat = U3))
    (b1 : U1 ≤ 2305843009213693952) (b2 : U2 ≤ 2305843009213693952) (b3 : U3 ≤ 2305843009213693952) :
    Calls Tryz.prog 90 #[.int .u64 X, .int .i64 (-1074 - s)] w (Pw.shortPost U1 U2 U3 o (P) w) := by
  have z0 : (X == 9223372036854775808) = false := by rw [beq_eq_false_iff_ne]; omega
  have x4 : (0 : Int) < 2 ^ (s - 1) := Int.pow_pos (by decide)
  have x5 : (0 : Int) < 2 ^ s := Int.pow_pos (by decide)
  have hw1 : IntKind.u64.wrap (2 ^ (s - 1)) = 2 ^ (s - 1) := IntKind_u64_wrap _ (by omega) (by omega)
  have hw2 : IntKind.u64.wrap (X - 2 ^ (s - 1)) = X - 2 ^ (s - 1) := IntKind_u64_wrap _ (by omega) (by omega)
  have hw3 : IntKind.u64.wrap (X + 2 ^ (s - 1)) = X + 2 ^ (s - 1) := IntKind_u64_wrap _ (by omega) (by omega)
  have hw4 : wrap64 (X / 2 ^ s) = X / 2 ^ s := by
    have h1 : X / 2 ^ s ≤ X / 2 := Pw.div_half X s (by omega) (by omega)
    have h2 : 0 ≤ X / 2 ^ s := Int.ediv_nonneg (by omega) (by omega)
    unfold wrap64; omega
  have hz1 : (11 + (-1085 - (-1074 - (s : Int)))) = s := by omega
  go_enter Tryz.func90, Tryz.ntmps90
  go_wp2_with (first | (go_at_call 85; refine (Pw.log10Pow2P _ P _ (by omega) (by omega) hP).mono ?_; rintro e w' ⟨rfl, rfl⟩) | (go_at_call 114; refine (Pw.log2Pow10 _ _ (by omega) (by omega)).mono ?_; rintro e w' ⟨rfl, rfl⟩) | (go_at_call 113; refine (Pw.prescale _ _ _ _ (by omega) (by omega) (by omega) (by omega) (by omega) (by omega) ht).mono ?_; rintro e w' ⟨rfl, rfl⟩))
  have ee : -(-1074 - s + Pb.lp P + 3) = (s : Int) - (-1074 + Pb.lp P + 3) := by omega
  have EE := Lib.hid ee
  clear ee
  refine (Pw.uscaleU _ (P) (-(-1074 - s + Pb.lp P + 3)) U1 _ _ ?x1 ?x2 p0 p1 ?x3 ?x4 ?x5 ?x6 ?x7 ?x8).mono ?k1
  case x1 => omega
  case x2 => omega
  case x3 => omega
  case x4 => omega
  case x5 => refine Lib.hid ?_; rw [EE.out]; exact hU1.out
  case x6 => go_simp
  case x7 => go_simp
  case x8 => go_simp
  case k1 =>
    rintro e w' ⟨rfl, n1, rfl⟩
    go_wp2_with (first | (go_at_call 116; refine (Pw.nudge _ _ _ (by omega) (by omega) (by omega) (by omega) (by omega)).mono ?_; rintro e w' ⟨rfl, rfl⟩) | (go_at_call 117; refine (Pw.ceil _ _ (by omega) (by omega)).mono ?_; rintro e w' ⟨rfl, rfl⟩))
    refine (Pw.uscaleU _ (P) (-(-1074 - s + Pb.lp P + 3)) U2 _ _ ?y1 ?y2 p0 p1 ?y3 ?y4 ?y5 ?y6 ?y7 ?y8).mono ?k2
    case y1 => omega
    case y2 => omega
    case y3 => omega
    case y4 => omega
    case y5 => refine Lib.hid ?_; rw [EE.out]; exact hU2.out
    case y6 => go_simp
    case y7 => go_simp
    case y8 => go_simp
    case k2 =>
      rintro e w' ⟨rfl, n2, rfl⟩
      go_wp2_with (first | (go_at_call 116; refine (Pw.nudge _ _ _ (by omega) (by omega) (by omega) (by omega) (by omega)).mono ?_; rintro e w' ⟨rfl, rfl⟩) | (go_at_call 118; refine (Pw.floor _ _ (by omega) (by omega)).mono ?_; rintro e w' ⟨rfl, rfl⟩))
      · go_ret2
        exact Pw.close_a (d1 := ((U1 : Int) + o + 3) / 4) (by omega) (by omega) (by assumption) (below_drewN ((Below.refl _ _).alloc (Nat.le_refl _) _) _)
      · refine (Pw.uscaleU _ (P) (-(-1074 - s + Pb.lp P + 3)) U3 _ _ ?z1 ?z2 p0 p1 ?z3 ?z4 ?z5 ?z6 ?z7 ?z8).mono ?k3
        case z1 => omega
        case z2 => omega
        case z3 => omega
        case z4 => omega
        case z5 => refine Lib.hid ?_; rw [EE.out]; exact hU3.out
        case z6 => go_simp
        case z7 => go_simp
        case z8 => go_simp
        case k3 =>
          rintro e w' ⟨rfl, n3, rfl⟩
          go_wp2_with (first | (go_at_call 119; refine (Pw.round _ _ (by omega) (by omega)).mono ?_; rintro e w' ⟨rfl, rfl⟩))
          go_ret2
          exact Pw.close_b (d1 := ((U1 : Int) + o + 3) / 4) (d2 := ((U2 : Int) - o) / 4) (by omega) (by omega) (by assumption) (by assumption) (below_drewN ((Below.refl _ _).alloc (Nat.le_refl _) _) _)
      · go_ret2
        exact Pw.close_c (d2 := ((U2 : Int) - o) / 4) (by omega) (by omega) (by assumption) (by assumption) (below_drewN ((Below.refl _ _).alloc (Nat.le_refl _) _) _)
theorem Pw.shortFloat_5 (s : Nat) (P : Int) (hP : Hid (Pb.fp (-1074) = P)) (s0 : 12 ≤ s) (s1 : s ≤ 63) (U1 U2 U3 : Nat) (w : World) (X : Int) (o : Nat) (z0 : (X == 9223372036854775808) = true) (x0 : 9223372036854775808 ≤ X) (x1 : X + 2 ^ (s - 1) < 18446744073709551616) (x2 : X < 18446744073709551616) (x3 : 2 ^ (s - 1) + 2 ≤ X) (ho2 : o < 2) (hU : 1 ≤ U2) (ho : bits .and .i64 (X / 2 ^ s) 1 = o) (ht : Pw.PowTab w) (p0 : -348 ≤ P) (p1 : P ≤ 347)
    (k1 : 3 ≤ -1074 + Pb.lp P + 3) (k2 : -1074 + Pb.lp P + 3 ≤ 6)
    (hU1 : Hid (Pb.us (X - 2 ^ (s - 1)).toNat (Pb.tabHi (P)) (Pb.tabLo (P)) ((s : Int) - (-1074 + Pb.lp P + 3)).toNat = U1))
    (hU2 : Hid (Pb.us (X + 2 ^ (s - 1)).toNat (Pb.tabHi (P)) (Pb.tabLo (P)) ((s : Int) - (-1074 + Pb.lp P + 3)).toNat = U2))
    (hU3 : Hid (Pb.us X.toNat (Pb.tabHi (P)) (Pb.tabLo (P)) ((s : Int) - (-1074 + Pb.lp P + 3)).toNat = U3))
    (b1 : U1 ≤ 2305843009213693952) (b2 : U2 ≤ 2305843009213693952) (b3 : U3 ≤ 2305843009213693952) :
    Calls Tryz.prog 90 #[.int .u64 X, .int .i64 (-1074 - s)] w (Pw.shortPost U1 U2 U3 o (P) w) := by
  have x4 : (0 : Int) < 2 ^ (s - 1) := Int.pow_pos (by decide)
  have x5 : (0 : Int) < 2 ^ s := Int.pow_pos (by decide)
  have hw1 : IntKind.u64.wrap (2 ^ (s - 1)) = 2 ^ (s - 1) := IntKind_u64_wrap _ (by omega) (by omega)
  have hw2 : IntKind.u64.wrap (X - 2 ^ (s - 1)) = X - 2 ^ (s - 1) := IntKind_u64_wrap _ (by omega) (by omega)
  have hw3 : IntKind.u64.wrap (X + 2 ^ (s - 1)) = X + 2 ^ (s - 1) := IntKind_u64_wrap _ (by omega) (by omega)
  have hw4 : wrap64 (X / 2 ^ s) = X / 2 ^ s := by
    have h1 : X / 2 ^ s ≤ X / 2 := Pw.div_half X s (by omega) (by omega)
    have h2 : 0 ≤ X / 2 ^ s := Int.ediv_nonneg (by omega) (by omega)
    unfold wrap64; omega
  have hz1 : (11 + (-1085 - (-1074 - (s : Int)))) = s := by omega
  go_enter Tryz.func90, Tryz.ntmps90
  go_wp2_with (first | (go_at_call 85; refine (Pw.log10Pow2P _ P _ (by omega) (by omega) hP).mono ?_; rintro e w' ⟨rfl, rfl⟩) | (go_at_call 114; refine (Pw.log2Pow10 _ _ (by omega) (by omega)).mono ?_; rintro e w' ⟨rfl, rfl⟩) | (go_at_call 113; refine (Pw.prescale _ _ _ _ (by omega) (by omega) (by omega) (by omega) (by omega) (by omega) ht).mono ?_; rintro e w' ⟨rfl, rfl⟩))
  have ee : -(-1074 - s + Pb.lp P + 3) = (s : Int) - (-1074 + Pb.lp P + 3) := by omega
  have EE := Lib.hid ee
  clear ee
  refine (Pw.uscaleU _ (P) (-(-1074 - s + Pb.lp P + 3)) U1 _ _ ?x1 ?x2 p0 p1 ?x3 ?x4 ?x5 ?x6 ?x7 ?x8).mono ?k1
  case x1 => omega
  case x2 => omega
  case x3 => omega
  case x4 => omega
  case x5 => refine Lib.hid ?_; rw [EE.out]; exact hU1.out
  case x6 => go_simp
  case x7 => go_simp
  case x8 => go_simp
  case k1 =>
    rintro e w' ⟨rfl, n1, rfl⟩
    go_wp2_with (first | (go_at_call 116; refine (Pw.nudge _ _ _ (by omega) (by omega) (by omega) (by omega) (by omega)).mono ?_; rintro e w' ⟨rfl, rfl⟩) | (go_at_call 117; refine (Pw.ceil _ _ (by omega) (by omega)).mono ?_; rintro e w' ⟨rfl, rfl⟩))
    refine (Pw.uscaleU _ (P) (-(-1074 - s + Pb.lp P + 3)) U2 _ _ ?y1 ?y2 p0 p1 ?y3 ?y4 ?y5 ?y6 ?y7 ?y8).mono ?k2
    case y1 => omega
    case y2 => omega
    case y3 => omega
    case y4 => omega
    case y5 => refine Lib.hid ?_; rw [EE.out]; exact hU2.out
    case y6 => go_simp
    case y7 => go_simp
    case y8 => go_simp
    case k2 =>
      rintro e w' ⟨rfl, n2, rfl⟩
      go_wp2_with (first | (go_at_call 116; refine (Pw.nudge _ _ _ (by omega) (by omega) (by omega) (by omega) (by omega)).mono ?_; rintro e w' ⟨rfl, rfl⟩) | (go_at_call 118; refine (Pw.floor _ _ (by omega) (by omega)).mono ?_; rintro e w' ⟨rfl, rfl⟩))
      · go_ret2
        exact Pw.close_a (d1 := ((U1 : Int) + o + 3) / 4) (by omega) (by omega) (by assumption) (below_drewN ((Below.refl _ _).alloc (Nat.le_refl _) _) _)
      · refine (Pw.uscaleU _ (P) (-(-1074 - s + Pb.lp P + 3)) U3 _ _ ?z1 ?z2 p0 p1 ?z3 ?z4 ?z5 ?z6 ?z7 ?z8).mono ?k3
        case z1 => omega
        case z2 => omega
        case z3 => omega
        case z4 => omega
        case z5 => refine Lib.hid ?_; rw [EE.out]; exact hU3.out
        case z6 => go_simp
        case z7 => go_simp
        case z8 => go_simp
        case k3 =>
          rintro e w' ⟨rfl, n3, rfl⟩
          go_wp2_with (first | (go_at_call 119; refine (Pw.round _ _ (by omega) (by omega)).mono ?_; rintro e w' ⟨rfl, rfl⟩))
          go_ret2
          exact Pw.close_b (d1 := ((U1 : Int) + o + 3) / 4) (d2 := ((U2 : Int) - o) / 4) (by omega) (by omega) (by assumption) (by assumption) (below_drewN ((Below.refl _ _).alloc (Nat.le_refl _) _) _)
      · go_ret2
        exact Pw.close_c (d2 := ((U2 : Int) - o) / 4) (by omega) (by omega) (by assumption) (by assumption) (below_drewN ((Below.refl _ _).alloc (Nat.le_refl _) _) _)
end Go.Proofs
namespace Go.Proofs
open Go Go.RowKit
theorem Pw.i64_and1 (i : Nat) (hi : i < 9223372036854775808) : bits BinOp.and IntKind.i64 (i : Int) 1 = ((i % 2 : Nat) : Int) := by
  have h127 : (BitVec.ofInt 64 1).toNat = 2 ^ 1 - 1 := by decide
  have key : (BitVec.ofInt 64 (i : Int) &&& BitVec.ofInt 64 1).toNat = ((i : Int) % ((2 ^ 64 : Nat) : Int)).toNat % 2 ^ 1 := by
    rw [BitVec.toNat_and, BitVec.toNat_ofInt, h127, Nat.and_two_pow_sub_one_eq_mod]
  show IntKind.i64.wrap ((BitVec.ofInt 64 (i : Int) &&& BitVec.ofInt 64 1).toNat : Nat) = _
  rw [key, IntKind.wrap_i64]
  omega
def Pw.shortEnd (m : Nat) (q : Int) (w : World) (e : Ending) (w' : World) : Prop :=
  e = .returned (.tuple #[.int .u64 (Pb.shortU m q).1, .int .i64 (Pb.shortU m q).2]) ∧ Below w.heap.size w w'
theorem Pw.unr_pos {w : Rat} (h : 0 < w) : 1 ≤ Pb.unr w := by
  have := Pb.unr_le (w := w) (by grind) 0
  rcases Nat.eq_zero_or_pos (Pb.unr w) with h0 | h0
  · exfalso
    have h2 := this.1 (by omega)
    have e0 : ((2 * 0 : Nat) : Rat) = 0 := rfl
    rw [e0] at h2; grind
  · exact h0
theorem Pw.shortFloat (m : Nat) (q : Int) (s : Nat) (w : World) (h : Pb.Fits m q) (g1 : 2 ^ 63 ≤ m * 2 ^ s) (g2 : m * 2 ^ s < 2 ^ 64) (ht : Pw.PowTab w) :
    Calls Tryz.prog 90 #[.int .u64 (m * 2 ^ s : Nat), .int .i64 (q - s)] w (Pw.shortEnd m q w) := by
  obtain ⟨⟨a1, a2⟩, a3, a4, a5, a6, u1, u2, u3, a7, a8⟩ := Pb.us_short h g1 g2
  have hup : 0 < Pb.up m q * 10 ^ Pb.shP m q := by
    unfold Pb.up
    have t1 : (0 : Rat) < 2 ^ (q - 1) := Rat.zpow_pos (by decide)
    have t2 : (0 : Rat) < 10 ^ Pb.shP m q := Rat.zpow_pos (by decide)
    have t3 : (0 : Rat) ≤ m := Rat.natCast_nonneg
    exact Rat.mul_pos (Rat.mul_pos (by grind) t1) t2
  have hU2 : 1 ≤ Pb.unr (4 * (Pb.up m q * 10 ^ Pb.shP m q)) := Pw.unr_pos (by grind)
  have hsh : Pb.shortU m q = Pw.pickN (Pb.unr (4 * (Pb.low m q * 10 ^ Pb.shP m q))) (Pb.unr (4 * (Pb.up m q * 10 ^ Pb.shP m q))) (Pb.unr (4 * (m * 2 ^ q * 10 ^ Pb.shP m q))) (m % 2) (Pb.shP m q) := rfl
  have hk : 3 ≤ ((s : Int) - (q + Pb.lp (Pb.shP m q) + 3)).toNat := by
    have hF := Pb.far_F h.2.2.1 h.2.2.2.1
    have hS := Pb.far_S h.2.2.1 h.2.2.2.1
    unfold Pb.shP
    split
    · have := hS.2.1; omega
    · have := hF.2.1; omega
  have hb : ∀ x U : Nat, x < 18446744073709551616 → Pb.us x (Pb.tabHi (Pb.shP m q)) (Pb.tabLo (Pb.shP m q)) ((s : Int) - (q + Pb.lp (Pb.shP m q) + 3)).toNat = U → U ≤ 2305843009213693952 := fun x U hx e => e ▸ Pw.us_lt hx (Pb.tab_facts a5 a6).2.2.2.1 hk
  have b1 := hb _ _ (by omega) u1
  have b2 := hb _ _ (by omega) u2
  have b3 := hb _ _ (by omega) u3
  have conv : ∀ {e : Ending} {w' : World}, Pw.shortPost (Pb.unr (4 * (Pb.low m q * 10 ^ Pb.shP m q))) (Pb.unr (4 * (Pb.up m q * 10 ^ Pb.shP m q))) (Pb.unr (4 * (m * 2 ^ q * 10 ^ Pb.shP m q))) (m % 2) (Pb.shP m q) w e w' → Pw.shortEnd m q w e w' := by
    intro e w' hp
    unfold Pw.shortEnd; rw [hsh]; exact hp
  obtain ⟨m0, m1, q0, q1, hn⟩ := h
  have a7' : m * 2 ^ s + 2 ^ (s - 1) < 18446744073709551616 := a7
  have g2' : m * 2 ^ s < 18446744073709551616 := g2
  have g1' : 9223372036854775808 ≤ m * 2 ^ s := g1
  clear hsh hb hup
  generalize Pb.unr (4 * (Pb.low m q * 10 ^ Pb.shP m q)) = U1 at *
  generalize Pb.unr (4 * (Pb.up m q * 10 ^ Pb.shP m q)) = U2 at *
  generalize Pb.unr (4 * (m * 2 ^ q * 10 ^ Pb.shP m q)) = U3 at *
  have hF := Pb.far_F q0 q1
  have hS := Pb.far_S q0 q1
  have hF1 := hF.1
  have hF2 := hF.2.1
  have hS1 := hS.1
  have hS2 := hS.2.1
  clear hF hS
  have s11 : 2 ^ 52 ≤ m → s = 11 := by
    intro h52
    rcases Nat.lt_or_ge s 12 with h | h'
    · omega
    · have : 2 ^ 52 * 2 ^ 12 ≤ m * 2 ^ s := Nat.mul_le_mul h52 (Nat.pow_le_pow_right (by decide) h')
      omega
  by_cases hs : Pb.skew m q = true
  · have hP : Pb.shP m q = Pb.sp q := by unfold Pb.shP; rw [if_pos hs]
    rw [if_pos hs] at u1
    rw [hP] at a5 a6 u1 u2 u3 conv a1 a2
    clear hk hP
    have hm : m = 2 ^ 52 ∧ -1074 < q := by unfold Pb.skew at hs; simp at hs; omega
    have := s11 (by omega)
    subst this
    have hx : m * 2 ^ 11 = 2 ^ 63 := by rw [hm.1]
    have ho : m % 2 = 0 := by rw [hm.1]
    rw [hx] at u1 u2 u3 ⊢
    rw [ho] at conv
    exact (Pw.shortFloat_1 q U1 U2 U3 w hm.2 q1 ht a5 a6 hS1 hS2 (Lib.hid u1) (Lib.hid u2) (Lib.hid u3) b1 b2 b3).mono fun _ _ hp => conv hp
  · have hP : Pb.shP m q = Pb.fp q := by unfold Pb.shP; rw [if_neg hs]
    rw [if_neg hs] at u1
    rw [hP] at a5 a6 u1 u2 u3 conv a1 a2
    clear hk hP
    by_cases h52 : 2 ^ 52 ≤ m
    · have := s11 h52
      subst this
      by_cases hx : m = 2 ^ 52
      · have hq : q = -1074 := by
          unfold Pb.skew at hs
          simp [hx] at hs
          omega
        subst hq
        have hx2 : m * 2 ^ 11 = 2 ^ 63 := by rw [hx]
        have ho : m % 2 = 0 := by rw [hx]
        rw [hx2] at u1 u2 u3 ⊢
        rw [ho] at conv
        exact (Pw.shortFloat_3 (Pb.fp (-1074)) (Lib.hid rfl) U1 U2 U3 w ht a5 a6 hF1 hF2 (Lib.hid u1) (Lib.hid u2) (Lib.hid u3) b1 b2 b3).mono fun _ _ hp => conv hp
      · have e1 : ((m * 2 ^ 11 : Nat) : Int) / 2048 = (m : Int) := by omega
        refine (Pw.shortFloat_2 q U1 U2 U3 w ((m * 2 ^ 11 : Nat) : Int) (m % 2) (by omega) (by omega) (Nat.mod_lt _ (by decide)) hU2 (by rw [e1]; exact Pw.i64_and1 m (by omega)) q0 q1 ht a5 a6 hF1 hF2 (Lib.hid ?_) (Lib.hid ?_) (Lib.hid ?_) b1 b2 b3).mono fun _ _ hp => conv hp
        · rw [show (((m * 2 ^ 11 : Nat) : Int) - 1024).toNat = m * 2 ^ 11 - 2 ^ (11 - 1) from by omega]; exact u1
        · rw [show (((m * 2 ^ 11 : Nat) : Int) + 1024).toNat = m * 2 ^ 11 + 2 ^ (11 - 1) from by omega]; exact u2
        · rw [Int.toNat_natCast]; exact u3
    · have hq : q = -1074 := by omega
      subst hq
      have hs12 : 12 ≤ s := by
        rcases Nat.lt_or_ge s 12 with h | h'
        · have : m * 2 ^ s ≤ (2 ^ 52 - 1) * 2 ^ 11 := Nat.mul_le_mul (by omega) (Nat.pow_le_pow_right (by decide) (by omega))
          omega
        · exact h'
      have e2 : ((2 ^ (s - 1) : Nat) : Int) = 2 ^ (s - 1) := by simp
      have e1 : ((m * 2 ^ s : Nat) : Int) / 2 ^ s = (m : Int) := by
        have : ((2 ^ s : Nat) : Int) = 2 ^ s := by simp
        rw [← this, ← Int.natCast_ediv, Nat.mul_div_cancel _ (Nat.two_pow_pos s)]
      have x3 : (2 : Int) ^ (s - 1) + 2 ≤ ((m * 2 ^ s : Nat) : Int) := by
        rw [← e2]
        have h1 : 1 * 2 ^ s ≤ m * 2 ^ s := Nat.mul_le_mul_right _ (by omega)
        have h2 : 2 ^ s = 2 * 2 ^ (s - 1) := by rw [← Nat.pow_succ']; congr 1; omega
        have h3 : 2 ^ 1 ≤ 2 ^ (s - 1) := Nat.pow_le_pow_right (by decide) (by omega)
        omega
      have v1 : Pb.us (((m * 2 ^ s : Nat) : Int) - 2 ^ (s - 1)).toNat (Pb.tabHi (Pb.fp (-1074))) (Pb.tabLo (Pb.fp (-1074))) ((s : Int) - (-1074 + Pb.lp (Pb.fp (-1074)) + 3)).toNat = U1 := by
        rw [← e2, show (((m * 2 ^ s : Nat) : Int) - ((2 ^ (s - 1) : Nat) : Int)).toNat = m * 2 ^ s - 2 ^ (s - 1) from by omega]; exact u1
      have v2 : Pb.us (((m * 2 ^ s : Nat) : Int) + 2 ^ (s - 1)).toNat (Pb.tabHi (Pb.fp (-1074))) (Pb.tabLo (Pb.fp (-1074))) ((s : Int) - (-1074 + Pb.lp (Pb.fp (-1074)) + 3)).toNat = U2 := by
        rw [← e2, show (((m * 2 ^ s : Nat) : Int) + ((2 ^ (s - 1) : Nat) : Int)).toNat = m * 2 ^ s + 2 ^ (s - 1) from by rw [← Int.natCast_add, Int.toNat_natCast]]; exact u2
      have x1 : ((m * 2 ^ s : Nat) : Int) + 2 ^ (s - 1) < 18446744073709551616 := by rw [← e2, ← Int.natCast_add]; exact Int.ofNat_lt.2 a7'
      have x2 : ((m * 2 ^ s : Nat) : Int) < 18446744073709551616 := by omega
      have x0 : 9223372036854775808 ≤ ((m * 2 ^ s : Nat) : Int) := by omega
      by_cases hx : m * 2 ^ s = 2 ^ 63
      · exact (Pw.shortFloat_5 s (Pb.fp (-1074)) (Lib.hid rfl) hs12 a4 U1 U2 U3 w ((m * 2 ^ s : Nat) : Int) (m % 2) (by rw [hx]; decide) x0 x1 x2 x3 (Nat.mod_lt _ (by decide)) hU2 (by rw [e1]; exact Pw.i64_and1 m (by omega)) ht a5 a6 hF1 hF2 (Lib.hid v1) (Lib.hid v2) (Lib.hid u3) b1 b2 b3).mono fun _ _ hp => conv hp
      · exact (Pw.shortFloat_4 s (Pb.fp (-1074)) (Lib.hid rfl) hs12 a4 U1 U2 U3 w ((m * 2 ^ s : Nat) : Int) (m % 2) (by omega) x1 x2 x3 (Nat.mod_lt _ (by decide)) hU2 (by rw [e1]; exact Pw.i64_and1 m (by omega)) ht a5 a6 hF1 hF2 (Lib.hid v1) (Lib.hid v2) (Lib.hid u3) b1 b2 b3).mono fun _ _ hp => conv hp
end Go.Proofs

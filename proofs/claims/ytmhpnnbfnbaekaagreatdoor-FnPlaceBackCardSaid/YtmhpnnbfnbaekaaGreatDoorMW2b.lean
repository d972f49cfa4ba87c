/- Part of the proof of FnPlaceBack: walk: writing a float, its parts. No condition. -/
import Derived.Test.YtmhpnnbfnbaekaaGreatDoorMW1
namespace Go.Proofs
open Go Go.RowKit
/-- The library's table of powers of ten, as it lies. -/
def Pw.PowTab (w : World) : Prop := 15 < w.heap.size ∧ ∀ p : Int, -348 ≤ p → p ≤ 347 →
  w.cell? ⟨15, (p + 348).toNat * 2, none⟩ = some (.int .u64 (Pb.tabHi p)) ∧ w.cell? ⟨15, (p + 348).toNat * 2 + 1, none⟩ = some (.int .u64 (Pb.tabLo p))
theorem Pw.prescale (e p l : Int) (w : World) (h0 : -2000 ≤ e) (h1 : e ≤ 2000) (h2 : -348 ≤ p) (h3 : p ≤ 347) (h4 : -2000 ≤ l) (h5 : l ≤ 2000) (ht : Pw.PowTab w) :
    Calls Tryz.prog 113 #[.pointer (some ⟨w.heap.size, 0, none⟩), .int .i64 e, .int .i64 p, .int .i64 l] (w.alloc (.cells #[.int .u64 0, .int .u64 0, .int .i64 0] 190)) fun e' w' => e' = .returned (.tuple #[]) ∧ w.alloc (.cells #[.int .u64 (Pb.tabHi p), .int .u64 (Pb.tabLo p), .int .i64 (-(e + l + 3))] 190) = w' := by
  obtain ⟨hz, ht⟩ := ht
  obtain ⟨c0, c1⟩ := ht p h2 h3
  clear ht
  go_enter Tryz.func113, Tryz.ntmps113
  go_wp2
  go_end0
  exact ⟨rfl, rfl⟩
theorem Pw.PowTab.alloc {w : World} (h : Pw.PowTab w) (o : Obj) : Pw.PowTab (w.alloc o) := by
  obtain ⟨hz, h⟩ := h
  refine ⟨by simp; omega, fun p h2 h3 => ?_⟩
  obtain ⟨a, b⟩ := h p h2 h3
  constructor
  · go_simp
  · go_simp
/-- The choice among the digits, by the unrounded numbers. -/
def Pw.pickN (U1 U2 U3 o : Nat) (p : Int) : Nat × Int :=
  if (U1 + o + 3) / 4 ≤ (U2 - o) / 4 / 10 * 10 then ((U2 - o) / 4 / 10, 1 - p) else if (U1 + o + 3) / 4 < (U2 - o) / 4 then (Pb.rnd U3, -p) else ((U1 + o + 3) / 4, -p)
def Pw.shortPost (U1 U2 U3 o : Nat) (p : Int) (w : World) (e : Ending) (w' : World) : Prop :=
  e = .returned (.tuple #[.int .u64 (Pw.pickN U1 U2 U3 o p).1, .int .i64 (Pw.pickN U1 U2 U3 o p).2]) ∧ Below w.heap.size w w'
theorem Pw.tuple2 {a b c d : Int} (h1 : a = c) (h2 : b = d) : Ending.returned (.tuple #[.int .u64 a, .int .i64 b]) = .returned (.tuple #[.int .u64 c, .int .i64 d]) := by rw [h1, h2]
theorem Pw.close_a {U1 U2 U3 o : Nat} {p d1 d2 : Int} {w w' : World} (h1 : d1 = ((U1 + o + 3) / 4 : Nat)) (h2 : d2 = ((U2 - o) / 4 : Nat)) (h : d1 ≤ d2 / 10 * 10) (hb : Below w.heap.size w w') :
    Pw.shortPost U1 U2 U3 o p w (.returned (.tuple #[.int .u64 (d2 / 10), .int .i64 (-(p - 1))])) w' := by
  have : Pw.pickN U1 U2 U3 o p = ((U2 - o) / 4 / 10, 1 - p) := by unfold Pw.pickN; rw [if_pos (by omega)]
  refine ⟨?_, hb⟩
  rw [this]
  exact Pw.tuple2 (by rw [h2]; simp) (by omega)
theorem Pw.close_b {U1 U2 U3 o : Nat} {p d1 d2 : Int} {w w' : World} (h1 : d1 = ((U1 + o + 3) / 4 : Nat)) (h2 : d2 = ((U2 - o) / 4 : Nat)) (h : d2 / 10 * 10 < d1) (h' : d1 < d2) (hb : Below w.heap.size w w') :
    Pw.shortPost U1 U2 U3 o p w (.returned (.tuple #[.int .u64 (((U3 : Int) + 1 + (U3 : Int) / 4 % 2) / 4), .int .i64 (-p)])) w' := by
  have : Pw.pickN U1 U2 U3 o p = (Pb.rnd U3, -p) := by unfold Pw.pickN; rw [if_neg (by omega), if_pos (by omega)]
  refine ⟨?_, hb⟩
  rw [this]
  exact Pw.tuple2 (by unfold Pb.rnd; simp) rfl
theorem Pw.close_c {U1 U2 U3 o : Nat} {p d1 d2 : Int} {w w' : World} (h1 : d1 = ((U1 + o + 3) / 4 : Nat)) (h2 : d2 = ((U2 - o) / 4 : Nat)) (h : d2 / 10 * 10 < d1) (h' : d2 ≤ d1) (hb : Below w.heap.size w w') :
    Pw.shortPost U1 U2 U3 o p w (.returned (.tuple #[.int .u64 d1, .int .i64 (-p)])) w' := by
  have : Pw.pickN U1 U2 U3 o p = ((U1 + o + 3) / 4, -p) := by unfold Pw.pickN; rw [if_neg (by omega), if_neg (by omega)]
  refine ⟨?_, hb⟩
  rw [this]
  exact Pw.tuple2 h1 rfl
theorem Pw.shortFloat_1 (q : Int) (U1 U2 U3 : Nat) (w : World) (q0 : -1074 < q) (q1 : q ≤ 971) (ht : Pw.PowTab w) (p0 : -348 ≤ Pb.sp q) (p1 : Pb.sp q ≤ 347)
    (k1 : 2 ≤ q + Pb.lp (Pb.sp q) + 3) (k2 : q + Pb.lp (Pb.sp q) + 3 ≤ 6)
    (hU1 : Hid (Pb.us (2 ^ 63 - 2 ^ 9) (Pb.tabHi (Pb.sp q)) (Pb.tabLo (Pb.sp q)) (11 - (q + Pb.lp (Pb.sp q) + 3)).toNat = U1))
    (hU2 : Hid (Pb.us (2 ^ 63 + 2 ^ 10) (Pb.tabHi (Pb.sp q)) (Pb.tabLo (Pb.sp q)) (11 - (q + Pb.lp (Pb.sp q) + 3)).toNat = U2))
    (hU3 : Hid (Pb.us (2 ^ 63) (Pb.tabHi (Pb.sp q)) (Pb.tabLo (Pb.sp q)) (11 - (q + Pb.lp (Pb.sp q) + 3)).toNat = U3))
    (b1 : U1 ≤ 2305843009213693952) (b2 : U2 ≤ 2305843009213693952) (b3 : U3 ≤ 2305843009213693952) :
    Calls Tryz.prog 90 #[.int .u64 9223372036854775808, .int .i64 (q - 11)] w (Pw.shortPost U1 U2 U3 0 (Pb.sp q) w) := by
  have z0 : bits .and .i64 4503599627370496 1 = 0 := by decide
  go_enter Tryz.func90, Tryz.ntmps90
  go_wp2_with (first | (go_at_call 112; refine (Pw.skewed _ _ (by omega) (by omega)).mono ?_; rintro e w' ⟨rfl, rfl⟩) | (go_at_call 114; refine (Pw.log2Pow10 _ _ (by omega) (by omega)).mono ?_; rintro e w' ⟨rfl, rfl⟩) | (go_at_call 113; refine (Pw.prescale _ _ _ _ (by omega) (by omega) (by omega) (by omega) (by omega) (by omega) ht).mono ?_; rintro e w' ⟨rfl, rfl⟩))
  have ee : -(q - 11 + Pb.lp (Pb.sp q) + 3) = 11 - (q + Pb.lp (Pb.sp q) + 3) := by omega
  have EE := Lib.hid ee
  clear ee
  refine (Pw.uscaleU _ (Pb.sp q) (-(q - 11 + Pb.lp (Pb.sp q) + 3)) U1 _ _ ?x1 ?x2 p0 p1 ?x3 ?x4 ?x5 ?x6 ?x7 ?x8).mono ?k1
  case x1 => omega
  case x2 => omega
  case x3 => omega
  case x4 => omega
  case x5 => refine Lib.hid ?_; rw [EE.out]; exact hU1.out
  case x6 => go_simp
  case x7 => go_simp
  case x8 => go_simp
  case k1 =>
    rintro e w' ⟨rfl, n1, rfl⟩
    go_wp2_with (first | (go_at_call 116; refine (Pw.nudge _ _ _ (by omega) (by omega) (by omega) (by omega) (by omega)).mono ?_; rintro e w' ⟨rfl, rfl⟩) | (go_at_call 117; refine (Pw.ceil _ _ (by omega) (by omega)).mono ?_; rintro e w' ⟨rfl, rfl⟩))
    refine (Pw.uscaleU _ (Pb.sp q) (-(q - 11 + Pb.lp (Pb.sp q) + 3)) U2 _ _ ?y1 ?y2 p0 p1 ?y3 ?y4 ?y5 ?y6 ?y7 ?y8).mono ?k2
    case y1 => omega
    case y2 => omega
    case y3 => omega
    case y4 => omega
    case y5 => refine Lib.hid ?_; rw [EE.out]; exact hU2.out
    case y6 => go_simp
    case y7 => go_simp
    case y8 => go_simp
    case k2 =>
      rintro e w' ⟨rfl, n2, rfl⟩
      go_wp2_with (first | (go_at_call 116; refine (Pw.nudge _ _ _ (by omega) (by omega) (by omega) (by omega) (by omega)).mono ?_; rintro e w' ⟨rfl, rfl⟩) | (go_at_call 118; refine (Pw.floor _ _ (by omega) (by omega)).mono ?_; rintro e w' ⟨rfl, rfl⟩))
      · go_ret2
        exact Pw.close_a (d1 := ((U1 : Int) + 3) / 4) (by omega) (by omega) (by assumption) (below_drewN ((Below.refl _ _).alloc (Nat.le_refl _) _) _)
      · refine (Pw.uscaleU _ (Pb.sp q) (-(q - 11 + Pb.lp (Pb.sp q) + 3)) U3 _ _ ?z1 ?z2 p0 p1 ?z3 ?z4 ?z5 ?z6 ?z7 ?z8).mono ?k3
        case z1 => omega
        case z2 => omega
        case z3 => omega
        case z4 => omega
        case z5 => refine Lib.hid ?_; rw [EE.out]; exact hU3.out
        case z6 => go_simp
        case z7 => go_simp
        case z8 => go_simp
        case k3 =>
          rintro e w' ⟨rfl, n3, rfl⟩
          go_wp2_with (first | (go_at_call 119; refine (Pw.round _ _ (by omega) (by omega)).mono ?_; rintro e w' ⟨rfl, rfl⟩))
          go_ret2
          exact Pw.close_b (d1 := ((U1 : Int) + 3) / 4) (d2 := (U2 : Int) / 4) (by omega) (by omega) (by assumption) (by assumption) (below_drewN ((Below.refl _ _).alloc (Nat.le_refl _) _) _)
      · go_ret2
        exact Pw.close_c (d2 := (U2 : Int) / 4) (by omega) (by omega) (by assumption) (by assumption) (below_drewN ((Below.refl _ _).alloc (Nat.le_refl _) _) _)
theorem Pw.shortFloat_2 (q : Int) (U1 U2 U3 : Nat) (w : World) (X : Int) (o : Nat) (x0 : 9223372036854775808 < X) (x1 : X + 1024 < 18446744073709551616) (ho2 : o < 2) (hU : 1 ≤ U2) (ho : bits .and .i64 (X / 2048) 1 = o) (q0 : -1074 ≤ q) (q1 : q ≤ 971) (ht : Pw.PowTab w) (p0 : -348 ≤ Pb.fp q) (p1 : Pb.fp q ≤ 347)
    (k1 : 3 ≤ q + Pb.lp (Pb.fp q) + 3) (k2 : q + Pb.lp (Pb.fp q) + 3 ≤ 6)
    (hU1 : Hid (Pb.us (X - 1024).toNat (Pb.tabHi (Pb.fp q)) (Pb.tabLo (Pb.fp q)) (11 - (q + Pb.lp (Pb.fp q) + 3)).toNat = U1))
    (hU2 : Hid (Pb.us (X + 1024).toNat (Pb.tabHi (Pb.fp q)) (Pb.tabLo (Pb.fp q)) (11 - (q + Pb.lp (Pb.fp q) + 3)).toNat = U2))
    (hU3 : Hid (Pb.us X.toNat (Pb.tabHi (Pb.fp q)) (Pb.tabLo (Pb.fp q)) (11 - (q + Pb.lp (Pb.fp q) + 3)).toNat = U3))
    (b1 : U1 ≤ 2305843009213693952) (b2 : U2 ≤ 2305843009213693952) (b3 : U3 ≤ 2305843009213693952) :
    Calls Tryz.prog 90 #[.int .u64 X, .int .i64 (q - 11)] w (Pw.shortPost U1 U2 U3 o (Pb.fp q) w) := by
  have z0 : (X == 9223372036854775808) = false := by rw [beq_eq_false_iff_ne]; omega
  go_enter Tryz.func90, Tryz.ntmps90
  go_wp2_with (first | (go_at_call 85; refine (Pw.log10Pow2 _ _ (by omega) (by omega)).mono ?_; rintro e w' ⟨rfl, rfl⟩) | (go_at_call 114; refine (Pw.log2Pow10 _ _ (by omega) (by omega)).mono ?_; rintro e w' ⟨rfl, rfl⟩) | (go_at_call 113; refine (Pw.prescale _ _ _ _ (by omega) (by omega) (by omega) (by omega) (by omega) (by omega) ht).mono ?_; rintro e w' ⟨rfl, rfl⟩))
  have ee : -(q - 11 + Pb.lp (Pb.fp q) + 3) = 11 - (q + Pb.lp (Pb.fp q) + 3) := by omega
  have EE := Lib.hid ee
  clear ee
  refine (Pw.uscaleU _ (Pb.fp q) (-(q - 11 + Pb.lp (Pb.fp q) + 3)) U1 _ _ ?x1 ?x2 p0 p1 ?x3 ?x4 ?x5 ?x6 ?x7 ?x8).mono ?k1
  case x1 => omega
  case x2 => omega
  case x3 => omega
  case x4 => omega
  case x5 => refine Lib.hid ?_; rw [EE.out]; exact hU1.out
  case x6 => go_simp
  case x7 => go_simp
  case x8 => go_simp
  case k1 =>
    rintro e w' ⟨rfl, n1, rfl⟩
    go_wp2_with (first | (go_at_call 116; refine (Pw.nudge _ _ _ (by omega) (by omega) (by omega) (by omega) (by omega)).mono ?_; rintro e w' ⟨rfl, rfl⟩) | (go_at_call 117; refine (Pw.ceil _ _ (by omega) (by omega)).mono ?_; rintro e w' ⟨rfl, rfl⟩))
    refine (Pw.uscaleU _ (Pb.fp q) (-(q - 11 + Pb.lp (Pb.fp q) + 3)) U2 _ _ ?y1 ?y2 p0 p1 ?y3 ?y4 ?y5 ?y6 ?y7 ?y8).mono ?k2
    case y1 => omega
    case y2 => omega
    case y3 => omega
    case y4 => omega
    case y5 => refine Lib.hid ?_; rw [EE.out]; exact hU2.out
    case y6 => go_simp
    case y7 => go_simp
    case y8 => go_simp
    case k2 =>
      rintro e w' ⟨rfl, n2, rfl⟩
      go_wp2_with (first | (go_at_call 116; refine (Pw.nudge _ _ _ (by omega) (by omega) (by omega) (by omega) (by omega)).mono ?_; rintro e w' ⟨rfl, rfl⟩) | (go_at_call 118; refine (Pw.floor _ _ (by omega) (by omega)).mono ?_; rintro e w' ⟨rfl, rfl⟩))
      · go_ret2
        exact Pw.close_a (d1 := ((U1 : Int) + o + 3) / 4) (by omega) (by omega) (by assumption) (below_drewN ((Below.refl _ _).alloc (Nat.le_refl _) _) _)
      · refine (Pw.uscaleU _ (Pb.fp q) (-(q - 11 + Pb.lp (Pb.fp q) + 3)) U3 _ _ ?z1 ?z2 p0 p1 ?z3 ?z4 ?z5 ?z6 ?z7 ?z8).mono ?k3
        case z1 => omega
        case z2 => omega
        case z3 => omega
        case z4 => omega
        case z5 => refine Lib.hid ?_; rw [EE.out]; exact hU3.out
        case z6 => go_simp
        case z7 => go_simp
        case z8 => go_simp
        case k3 =>
          rintro e w' ⟨rfl, n3, rfl⟩
          go_wp2_with (first | (go_at_call 119; refine (Pw.round _ _ (by omega) (by omega)).mono ?_; rintro e w' ⟨rfl, rfl⟩))
          go_ret2
          exact Pw.close_b (d1 := ((U1 : Int) + o + 3) / 4) (d2 := ((U2 : Int) - o) / 4) (by omega) (by omega) (by assumption) (by assumption) (below_drewN ((Below.refl _ _).alloc (Nat.le_refl _) _) _)
      · go_ret2
        exact Pw.close_c (d2 := ((U2 : Int) - o) / 4) (by omega) (by omega) (by assumption) (by assumption) (below_drewN ((Below.refl _ _).alloc (Nat.le_refl _) _) _)
theorem Pw.log10Pow2P (x P : Int) (w : World) (h0 : -4000 ≤ x) (h1 : x ≤ 4000) (hP : Hid (Pb.fp x = P)) :
    Calls Tryz.prog 85 #[.int .i64 x] w fun e w' => e = .returned (.int .i64 (-P)) ∧ w = w' := by
  rw [← hP.out]; exact Pw.log10Pow2 x w h0 h1
theorem Pw.shortFloat_3 (P : Int) (hP : Hid (Pb.fp (-1074) = P)) (U1 U2 U3 : Nat) (w : World) (ht : Pw.PowTab w) (p0 : -348 ≤ P) (p1 : P ≤ 347)
    (k1 : 3 ≤ -1074 + Pb.lp (P) + 3) (k2 : -1074 + Pb.lp (P) + 3 ≤ 6)
    (hU1 : Hid (Pb.us (2 ^ 63 - 2 ^ 10) (Pb.tabHi (P)) (Pb.tabLo (P)) (11 - (-1074 + Pb.lp (P) + 3)).toNat = U1))
    (hU2 : Hid (Pb.us (2 ^ 63 + 2 ^ 10) (Pb.tabHi (P)) (Pb.tabLo (P)) (11 - (-1074 + Pb.lp (P) + 3)).toNat = U2))
    (hU3 : Hid (Pb.us (2 ^ 63) (Pb.tabHi (P)) (Pb.tabLo (P)) (11 - (-1074 + Pb.lp (P) + 3)).toNat = U3))
    (b1 : U1 ≤ 2305843009213693952) (b2 : U2 ≤ 2305843009213693952) (b3 : U3 ≤ 2305843009213693952) :
    Calls Tryz.prog 90 #[.int .u64 9223372036854775808, .int .i64 (-1085)] w (Pw.shortPost U1 U2 U3 0 (P) w) := by
  have z0 : bits .and .i64 4503599627370496 1 = 0 := by decide
  go_enter Tryz.func90, Tryz.ntmps90
  go_wp2_with (first | (go_at_call 85; refine (Pw.log10Pow2P _ P _ (by omega) (by omega) hP).mono ?_; rintro e w' ⟨rfl, rfl⟩) | (go_at_call 114; refine (Pw.log2Pow10 _ _ (by omega) (by omega)).mono ?_; rintro e w' ⟨rfl, rfl⟩) | (go_at_call 113; refine (Pw.prescale _ _ _ _ (by omega) (by omega) (by omega) (by omega) (by omega) (by omega) ht).mono ?_; rintro e w' ⟨rfl, rfl⟩))
  have ee : -(-1085 + Pb.lp (P) + 3) = 11 - (-1074 + Pb.lp (P) + 3) := by omega
  have EE := Lib.hid ee
  clear ee
  refine (Pw.uscaleU _ (P) (-(-1085 + Pb.lp (P) + 3)) U1 _ _ ?x1 ?x2 p0 p1 ?x3 ?x4 ?x5 ?x6 ?x7 ?x8).mono ?k1
  case x1 => omega
  case x2 => omega
  case x3 => omega
  case x4 => omega
  case x5 => refine Lib.hid ?_; rw [EE.out]; exact hU1.out
  case x6 => go_simp
  case x7 => go_simp
  case x8 => go_simp
  case k1 =>
    rintro e w' ⟨rfl, n1, rfl⟩
    go_wp2_with (first | (go_at_call 116; refine (Pw.nudge _ _ _ (by omega) (by omega) (by omega) (by omega) (by omega)).mono ?_; rintro e w' ⟨rfl, rfl⟩) | (go_at_call 117; refine (Pw.ceil _ _ (by omega) (by omega)).mono ?_; rintro e w' ⟨rfl, rfl⟩))
    refine (Pw.uscaleU _ (P) (-(-1085 + Pb.lp (P) + 3)) U2 _ _ ?y1 ?y2 p0 p1 ?y3 ?y4 ?y5 ?y6 ?y7 ?y8).mono ?k2
    case y1 => omega
    case y2 => omega
    case y3 => omega
    case y4 => omega
    case y5 => refine Lib.hid ?_; rw [EE.out]; exact hU2.out
    case y6 => go_simp
    case y7 => go_simp
    case y8 => go_simp
    case k2 =>
      rintro e w' ⟨rfl, n2, rfl⟩
      go_wp2_with (first | (go_at_call 116; refine (Pw.nudge _ _ _ (by omega) (by omega) (by omega) (by omega) (by omega)).mono ?_; rintro e w' ⟨rfl, rfl⟩) | (go_at_call 118; refine (Pw.floor _ _ (by omega) (by omega)).mono ?_; rintro e w' ⟨rfl, rfl⟩))
      · go_ret2
        exact Pw.close_a (d1 := ((U1 : Int) + 3) / 4) (by omega) (by omega) (by assumption) (below_drewN ((Below.refl _ _).alloc (Nat.le_refl _) _) _)
      · refine (Pw.uscaleU _ (P) (-(-1085 + Pb.lp (P) + 3)) U3 _ _ ?z1 ?z2 p0 p1 ?z3 ?z4 ?z5 ?z6 ?z7 ?z8).mono ?k3
        case z1 => omega
        case z2 => omega
        case z3 => omega
        case z4 => omega
        case z5 => refine Lib.hid ?_; rw [EE.out]; exact hU3.out
        case z6 => go_simp
        case z7 => go_simp
        case z8 => go_simp
        case k3 =>
          rintro e w' ⟨rfl, n3, rfl⟩
          go_wp2_with (first | (go_at_call 119; refine (Pw.round _ _ (by omega) (by omega)).mono ?_; rintro e w' ⟨rfl, rfl⟩))
          go_ret2
          exact Pw.close_b (d1 := ((U1 : Int) + 3) / 4) (d2 := (U2 : Int) / 4) (by omega) (by omega) (by assumption) (by assumption) (below_drewN ((Below.refl _ _).alloc (Nat.le_refl _) _) _)
      · go_ret2
        exact Pw.close_c (d2 := (U2 : Int) / 4) (by omega) (by omega) (by assumption) (by assumption) (below_drewN ((Below.refl _ _).alloc (Nat.le_refl _) _) _)
end Go.Proofs

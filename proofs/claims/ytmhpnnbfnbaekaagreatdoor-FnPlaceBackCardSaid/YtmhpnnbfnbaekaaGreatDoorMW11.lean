/- Part of the proof of FnPlaceBack: walk: ParseFloat gives the number back. No condition. -/
import Derived.Test.YtmhpnnbfnbaekaaGreatDoorMW9b
import Derived.Test.YtmhpnnbfnbaekaaGreatDoorMW9c
import Derived.Test.YtmhpnnbfnbaekaaGreatDoorMW10
namespace Go.Proofs
open Go Go.RowKit
def Pw.AtofEnd (m : Nat) (q : Int) (n : Nat) (w : World) (e : Ending) (w' : World) : Prop := e = .returned (.tuple #[.float .f64 (Pb.word m q), .int .i64 n, .nilIface]) ∧ w.grownBy w' none
theorem Pw.grown_refl (w : World) : w.grownBy w none := ⟨rfl, rfl, rfl, Nat.le_refl _, fun _ _ _ => rfl⟩
set_option maxRecDepth 100000 in
set_option maxHeartbeats 1000000 in
theorem Pw.atof64 (D L : List UInt8) (dp q : Int) (m : Nat) (w : World) (hF : Pb.Fits m q) (hR : Pb.Reads D dp L) (hSh : Pb.Shape L) (hlen : L.length ≤ 2000) (hD0 : 0 < Pb.val D) (hW : Pb.Within m q (Pb.val D * 10 ^ (dp - D.length)))
    (ht : Pw.PowTab w) (hv : Pw.FloatVars w) : Calls Tryz.prog 72 #[.string ⟨L.toArray⟩] w (Pw.AtofEnd m q L.length w) := by
  obtain ⟨k, X, r1, r2, r3, r4, r5, r6, r7, ⟨r8, r9⟩, r10⟩ := hR
  obtain ⟨s1, ⟨c, l, hcl, hdig⟩, s3⟩ := hSh
  have hman0 : (Pb.rread L).man ≠ 0 := by
    rw [r1]
    exact Nat.ne_of_gt (Nat.mul_pos hD0 (Nat.pow_pos (by decide)))
  have hrf := Pw.readFloat ⟨L.toArray⟩ L rfl hlen s1 c l hcl hdig.1 s3 r5 hman0
  have hsp := Pw.special ⟨L.toArray⟩ (by rw [hcl]; simp [ByteArray.size]) c (by subst hcl; rfl) hdig.1 hdig.2
  unfold Pw.ReadEnd at hrf
  rw [r2, r4] at hrf
  have hval : (((Pb.rread L).man : Nat) : Rat) * 10 ^ X = Pb.val D * 10 ^ (dp - D.length) := by
    have e10 : ((10 : Nat) : Rat) = 10 := rfl
    rw [r1, Rat.natCast_mul, Rat.natCast_pow, e10, Rat.mul_assoc, ← Rat.zpow_natCast, ← Rat.zpow_add Pb.ten_ne, ← r3, Int.add_comm]
  rw [← hval] at hW
  obtain ⟨man, hm⟩ : ∃ man, man = (Pb.rread L).man := ⟨_, rfl⟩
  rw [← hm] at hman0 r6 r7 r10 hW hrf
  obtain ⟨N, hN⟩ : ∃ N, N = L.length := ⟨_, rfl⟩
  rw [← hN] at hrf ⊢
  have hex := Pw.exact man m X q w hF hW (by omega) (by omega) (fun h => by have := r10 h; omega) (by omega) (by omega) hv
  have hpa := Pw.parse64 m man q X w hF (by omega) (by omega) r8 r9 r6 hW ht
  have t1 : ((man : Int) == 0) = false := by rw [beq_eq_false_iff_ne]; omega
  have t2 : decide (310 < X) = false := decide_eq_false (by omega)
  have t3 : decide (X < -345) = false := decide_eq_false (by omega)
  obtain ⟨S, hS⟩ : ∃ S : ByteArray, S = ⟨L.toArray⟩ := ⟨_, rfl⟩
  rw [← hS] at hrf hsp ⊢
  have v2 := hv.2.1
  clear hS hcl hm hval r1 r2 r3 r5 s1 s3 hv ht hF hW hlen hD0 hN r6
  go_enter Tryz.func72, Tryz.ntmps72
  go_wp2_with (first
    | (go_at_call 95; refine (hsp _).mono ?_; rintro e w1 ⟨rfl, rfl⟩)
    | (go_at_call 96; refine (hrf _).mono ?_; rintro e w1 ⟨rfl, rfl⟩)
    | (go_at_call 104; refine (Pw.bool2u false _).mono ?_; rintro e w1 ⟨rfl, rfl⟩)
    | (go_at_call 106; refine hex.mono ?_; rintro e w1 ⟨f, ok, rfl, rfl, hok⟩; cases ok))
  · refine hpa.mono ?_
    rintro e w1 ⟨rfl, hg⟩
    go_wp2
    go_ret3
    exact ⟨rfl, hg⟩
  · go_ret3
    exact ⟨rfl, Pw.grown_refl _⟩
set_option maxRecDepth 100000 in
set_option maxHeartbeats 1000000 in
theorem Pw.readZero (S : ByteArray) (hS : S.size = 1) (hb : ∀ h : 0 < S.size, S[0] = 48) (w : World) : Calls Tryz.prog 96 #[.string S] w fun e w' => e = .returned (.tuple #[.int .u64 0, .int .i64 0, .bool false, .bool false, .bool false, .int .i64 1, .bool true]) ∧ w = w' := by
  have hS0 : 0 < S.size := by omega
  have hc := hb hS0
  clear hb
  go_enter Tryz.func96, Tryz.ntmps96
  go_wp2
  apply wp_scope_straight
  go_wp2
  apply wp_label
  go_wp2
  go_loopw [2, 5, 7, 9, 13, 14, 15, 16, 17] (fun m t i un dt dg n nm dp wr => wr = w ∧ un = .bool false ∧ m = .int .u64 0 ∧ t = .bool false ∧ dt = .bool false ∧ n = .int .i64 0 ∧ nm = .int .i64 0 ∧ ((i = .int .i64 0 ∧ dg = .bool false ∧ dp = .int .i64 0) ∨ (i = .int .i64 1 ∧ dg = .bool true ∧ dp = .int .i64 (-1)))) (fun _ _ i _ _ _ _ _ _ _ => 1 - (intOf i).toNat)
  case atStart => exact ⟨rfl, rfl, rfl, rfl, rfl, rfl, rfl, .inl ⟨rfl, rfl, rfl⟩⟩
  case round =>
    obtain ⟨rfl, rfl, rfl, rfl, rfl, rfl, rfl, ⟨rfl, rfl, rfl⟩ | ⟨rfl, rfl, rfl⟩⟩ := hrel
    · go_wp2
      go_roundw
      case rel => exact ⟨by first | rfl | trivial, by first | rfl | trivial, by first | rfl | trivial, by first | rfl | trivial, by first | rfl | trivial, by first | rfl | trivial, by first | rfl | trivial, .inr ⟨by first | rfl | trivial, by first | rfl | trivial, by first | rfl | trivial⟩⟩
      case measure => simp [intOf]
    · go_wp2
      rw [Exit.noGoto_ret]
      refine bodyPost_ret (Pw.results_tmp7 rfl _ _ _) rfl ?_
      exact ⟨rfl, rfl⟩
set_option maxRecDepth 100000 in
theorem Pw.atof64_zero (w : World) (hv : Pw.FloatVars w) : Calls Tryz.prog 72 #[.string ⟨#[48]⟩] w fun e w' => e = .returned (.tuple #[.float .f64 0, .int .i64 1, .nilIface]) ∧ w = w' := by
  have v2 := hv.2.1
  obtain ⟨S, hS⟩ : ∃ S : ByteArray, S = ⟨#[48]⟩ := ⟨_, rfl⟩
  rw [← hS]
  have hS1 : S.size = 1 := by rw [hS]; rfl
  have hb : ∀ h : 0 < S.size, S[0] = 48 := by subst hS; intro h; rfl
  have hsp := Pw.special S (by omega) 48 (hb _) (by decide) (by decide)
  have k105 := Pw.call105
  have hrf := Pw.readZero S hS1 hb
  clear hv hS hb
  go_enter Tryz.func72, Tryz.ntmps72
  go_wp2_with (first
    | (go_at_call 95; refine (hsp _).mono ?_; rintro e w1 ⟨rfl, rfl⟩)
    | (go_at_call 96; refine (hrf _).mono ?_; rintro e w1 ⟨rfl, rfl⟩)
    | (go_at_call 104; refine (Pw.bool2u false _).mono ?_; rintro e w1 ⟨rfl, rfl⟩))
  go_ret3
  exact ⟨rfl, rfl⟩
end Go.Proofs
namespace Go.Proofs
open Go Go.RowKit
/-- The digits' text of a double, without its sign. -/
def Pw.bareText (b : Nat) : List UInt8 := if Pb.mOf b = 0 then [48] else
  Pw.plain (Pb.trim (Lib.decDigits (Pb.shortU (Pb.mOf b) (Pb.qOf b)).1)) (Lib.nDigits (Pb.shortU (Pb.mOf b) (Pb.qOf b)).1 + (Pb.shortU (Pb.mOf b) (Pb.qOf b)).2)
theorem Pw.nd_le (k : Nat) : ∀ u, u < 10 ^ (k + 1) → Lib.nDigits u ≤ k + 1 := by
  induction k with
  | zero => intro u h; rw [Lib.nDigits_small (by simpa using h)]; exact Nat.le_refl _
  | succ k ih =>
    intro u h
    by_cases h10 : u < 10
    · rw [Lib.nDigits_small h10]; omega
    · rw [Lib.nDigits_big h10]
      have := ih (u / 10) (by rw [Nat.pow_succ] at h; omega)
      omega
theorem Pw.numText_eq (b : Nat) : Pw.numText b = Pw.signed (Pb.neg b) (Pw.bareText b) := rfl
def Pw.PEnd (b : Nat) (w : World) (e : Ending) (w' : World) : Prop := e = .returned (.tuple #[.float .f64 (b % 9223372036854775808), .nilIface]) ∧ w.grownBy w' none
theorem Pw.bare_len (b : Nat) (hfin : b / 2 ^ 52 % 2048 ≠ 2047) : (Pw.bareText b).length ≤ 800 := by
  have := Pw.txtLen b hfin
  rw [Pw.numText_eq] at this
  unfold Pw.signed at this
  split at this
  · simp at this; omega
  · exact this
theorem Pw.bare_shape (b : Nat) (hfin : b / 2 ^ 52 % 2048 ≠ 2047) : Pb.Shape (Pw.bareText b) := by
  unfold Pw.bareText
  by_cases hm : Pb.mOf b = 0
  · rw [if_pos hm]
    exact Pb.shape_digits _ (by intro c hc; rw [List.mem_singleton.1 hc]; exact ⟨by decide, by decide⟩) (by simp)
  · rw [if_neg hm]
    have hF := Pb.fits_of b hfin hm
    obtain ⟨d, e, hsh, hd0, hd17, hW⟩ := Pb.shortU_ok hF
    rw [hsh]
    obtain ⟨k, hk, hval, hl1, hdig, -, hn⟩ := Pb.trim_facts d hd0
    exact Pb.shape_plain _ _ hdig (by intro e; rw [e] at hl1; simp at hl1)
theorem Pw.atof64_bare (b : Nat) (hb : b < 18446744073709551616) (hfin : b / 2 ^ 52 % 2048 ≠ 2047) (w : World) (ht : Pw.PowTab w) (hv : Pw.FloatVars w) :
    Calls Tryz.prog 72 #[.string ⟨(Pw.bareText b).toArray⟩] w fun e w' => e = .returned (.tuple #[.float .f64 (b % 9223372036854775808), .int .i64 (Pw.bareText b).length, .nilIface]) ∧ w.grownBy w' none := by
  have hback := Pb.bits_back b hb
  have hlen := Pw.bare_len b hfin
  have hSh := Pw.bare_shape b hfin
  by_cases hm : Pb.mOf b = 0
  · have hz : b % 9223372036854775808 = 0 := by
      rw [hm] at hback
      have hq : Pb.qOf b = -1074 := by
        unfold Pb.mOf at hm
        unfold Pb.qOf
        split at hm
        · rw [if_pos (by assumption)]
        · omega
      rw [hq] at hback
      split at hback <;> simp at hback <;> omega
    unfold Pw.bareText
    rw [if_pos hm, hz]
    refine (Pw.atof64_zero w hv).mono ?_
    rintro e w' ⟨rfl, rfl⟩
    exact ⟨rfl, Pw.grown_refl _⟩
  · have hF := Pb.fits_of b hfin hm
    have hword : b % 9223372036854775808 = Pb.word (Pb.mOf b) (Pb.qOf b) := by
      unfold Pb.word
      have h1 : (Pb.qOf b + 1074).toNat * 4503599627370496 + Pb.mOf b < 9223372036854775808 := by
        have := hF.2.1
        have := hF.2.2.2.1
        omega
      have e1 : (2 : Nat) ^ 63 = 9223372036854775808 := by decide
      have e2 : (2 : Nat) ^ 52 = 4503599627370496 := by decide
      rw [e1, e2] at hback
      split at hback <;> omega
    rw [hword]
    unfold Pw.bareText at hlen hSh ⊢
    rw [if_neg hm] at hlen hSh ⊢
    obtain ⟨d, e, hsh, hd0, hd17, hW⟩ := Pb.shortU_ok hF
    have he := Pb.shortU_e (Pb.mOf b) (Pb.qOf b) hF.2.2.1 hF.2.2.2.1
    rw [hsh] at hlen hSh he ⊢
    dsimp only at hlen hSh he
    have h20 : Lib.nDigits d ≤ 17 := Pw.nd_le 16 d hd17
    obtain ⟨k, hk, hval, hl1, hdig, ⟨c, l, hcl, hc⟩, hn⟩ := Pb.trim_facts d hd0
    have hR := Pb.rread_plain (Pb.trim (Lib.decDigits d)) (Lib.nDigits d + e) hdig c l hcl hc (by omega) (by omega) (by omega)
    refine (Pw.atof64 _ _ _ (Pb.qOf b) (Pb.mOf b) w hF hR hSh (by omega) ?_ ?_ ht hv).mono ?_
    · rcases Nat.eq_zero_or_pos (Pb.val (Pb.trim (Lib.decDigits d))) with h0 | h0
      · rw [h0] at hval; omega
      · exact h0
    · have : ((Pb.val (Pb.trim (Lib.decDigits d)) : Nat) : Rat) * 10 ^ ((Lib.nDigits d : Int) + e - (Pb.trim (Lib.decDigits d)).length) = d * 10 ^ e := by
        have e10 : ((10 : Nat) : Rat) = 10 := rfl
        conv => rhs; rw [← hval, Rat.natCast_mul, Rat.natCast_pow, e10, Rat.mul_assoc, ← Rat.zpow_natCast, ← Rat.zpow_add Pb.ten_ne]
        congr 2
        omega
      rw [this]; exact hW
    · rintro e w' ⟨rfl, hg⟩
      exact ⟨rfl, hg⟩
theorem Pw.parseFloat (b : Nat) (hb : b < 18446744073709551616) (hfin : b / 2 ^ 52 % 2048 ≠ 2047) (w : World) (ht : Pw.PowTab w) (hv : Pw.FloatVars w) :
    Calls Tryz.prog 31 #[.string ⟨(Pw.bareText b).toArray⟩, .int .i64 64] w (Pw.PEnd b w) := by
  have h72 := Pw.atof64_bare b hb hfin w ht hv
  obtain ⟨N, hN⟩ : ∃ N, N = (Pw.bareText b).length := ⟨_, rfl⟩
  obtain ⟨S, hS⟩ : ∃ S : ByteArray, S = ⟨(Pw.bareText b).toArray⟩ := ⟨_, rfl⟩
  have hSN : S.size = N := by rw [hS, hN]; simp [ByteArray.size]
  rw [← hN, ← hS] at h72
  rw [← hS]
  obtain ⟨r, hr⟩ : ∃ r, r = b % 9223372036854775808 := ⟨_, rfl⟩
  unfold Pw.PEnd
  rw [← hr] at h72 ⊢
  clear hN hS hr ht hv hb hfin
  have h53 : Calls Tryz.prog 53 #[.string S, .int .i64 64] w fun e w' => e = .returned (.tuple #[.float .f64 r, .int .i64 N, .nilIface]) ∧ w.grownBy w' none := by
    go_enter Tryz.func53, Tryz.ntmps53
    go_wp2_with (go_at_call 72; refine h72.mono ?_; rintro e w1 ⟨rfl, hg⟩)
    go_ret3
    exact ⟨rfl, hg⟩
  clear h72
  have h36 : Calls Tryz.prog 36 #[.string S, .int .i64 64] w fun e w' => e = .returned (.tuple #[.float .f64 r, .nilIface]) ∧ w.grownBy w' none := by
    have t1 : ((N : Int) != (N : Int)) = false := by simp
    go_enter Tryz.func36, Tryz.ntmps36
    go_wp2_with (go_at_call 53; refine h53.mono ?_; rintro e w1 ⟨rfl, hg⟩)
    go_ret2
    exact ⟨rfl, hg⟩
  clear h53
  go_enter Tryz.func31, Tryz.ntmps31
  go_wp2_with (go_at_call 36; refine h36.mono ?_; rintro e w1 ⟨rfl, hg⟩)
  go_ret2
  exact ⟨rfl, hg⟩
end Go.Proofs

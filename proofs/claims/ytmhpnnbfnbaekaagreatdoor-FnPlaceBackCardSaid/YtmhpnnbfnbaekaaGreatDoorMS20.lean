/- Part of the proof of FnPlaceBack: walk: a number's literal. No condition. -/
import Derived.Test.YtmhpnnbfnbaekaaGreatDoorMS19
namespace Go.Proofs
open Go Go.RowKit
def Pw.LitEnd (E : Env) (V : Bs E.b) (c b : Nat) (e : Ending) (w' : World) : Prop :=
  ∃ (V' : Bs E.b) (s' : SS), e = .returned (.tuple #[.float .f64 b, .nilIface]) ∧ w' = St V' s' ∧ Gap E V' s' c ∧ s'.pk = .string ⟨#[]⟩ ∧ Kp E.B (some E.rb) V V'
/-- ParseFloat in a world that holds the scanner. -/
theorem Pw.parseAt (E : Env) (W0 : World) (hT : Tb E W0) (b : Nat) (hb : b < 18446744073709551616) (hfin : b / 2 ^ 52 % 2048 ≠ 2047) (V : Bs E.b) (s : SS) (hbl : Below E.B W0 V.1) :
    Calls Tryz.prog 31 #[.string ⟨(Pw.bareText b).toArray⟩, .int .i64 64] (St V s) fun e w' => ∃ V' : Bs E.b, e = .returned (.tuple #[.float .f64 (b % 9223372036854775808), .nilIface]) ∧ w' = St V' s ∧ (∀ k, k < V.1.heap.size → k ≠ E.b → V'.1.heap[k]? = V.1.heap[k]?) ∧ Kp E.B (some E.rb) V V' := by
  obtain ⟨h1, h2⟩ := hT.at hbl s
  refine (Pw.parseFloat b hb hfin (St V s) h1 h2).mono ?_
  rintro e w' ⟨rfl, hg⟩
  obtain ⟨V', rfl, h3, h4⟩ := St.grown hg
  exact ⟨V', rfl, rfl, h3, h4 _⟩
theorem Pw.nanAt (b : Nat) (hfin : b / 2 ^ 52 % 2048 ≠ 2047) (w : World) : Calls Tryz.prog 10 #[.float .f64 ((b % 9223372036854775808 : Nat))] w fun e w' => e = .returned (.bool false) ∧ w = w' := by
  have e52 : (2 : Nat) ^ 52 = 4503599627370496 := rfl
  rw [e52] at hfin
  refine (Pw.isNaN (b % 9223372036854775808) w).mono ?_
  rintro e w' ⟨rfl, h⟩
  have h2 : (FloatKind.f64.format.order (b % 9223372036854775808) (b % 9223372036854775808) != some .eq) = false := Pb.fin_nan (b := b % 9223372036854775808) (by omega)
  exact ⟨by rw [h2], h⟩
theorem Pw.infAt (b : Nat) (hfin : b / 2 ^ 52 % 2048 ≠ 2047) (w : World) : Calls Tryz.prog 11 #[.float .f64 ((b % 9223372036854775808 : Nat)), .int .i64 0] w fun e w' => e = .returned (.bool false) ∧ w = w' := by
  have e52 : (2 : Nat) ^ 52 = 4503599627370496 := rfl
  rw [e52] at hfin
  refine (Pw.isInf (b % 9223372036854775808) (by omega) w).mono ?_
  rintro e w' ⟨rfl, h⟩
  have h2 : (FloatKind.f64.format.order (b % 9223372036854775808 % 9223372036854775808) 9218868437227405311 == some .gt) = false := Pb.fin_inf (b := b % 9223372036854775808) (by omega)
  exact ⟨by rw [h2], h⟩
theorem Pw.notMinus (E : Env) (c L : Nat) (h : 48 ≤ E.at c) (h2 : E.at c ≤ 57) : ((E.text c L).toList == [45]) = false := by
  have e : (E.text c L).toList = E.seg c L := by rw [Lib.toList_data]; rfl
  rw [e, beq_eq_false_iff_ne]
  intro h3
  have hl := congrArg List.length h3
  unfold Env.seg at h3 hl
  simp at hl
  subst hl
  simp at h3
  have h4 := congrArg UInt8.toNat h3
  rw [UInt8.toNat_ofNat'] at h4
  have : (45 : UInt8).toNat = 45 := rfl
  omega
set_option maxRecDepth 100000 in
set_option maxHeartbeats 1000000 in
theorem Pw.litPos (E : Env) (W0 : World) (V : Bs E.b) (s : SS) (c k L b : Nat) (hT : Tb E W0) (hbl : Below E.B W0 V.1) (hG : Gap E V s c) (hp : s.pk = .string ⟨#[]⟩) (hsp : ∀ j, j < k → E.at (c + j) = 32) (hn : Pw.NumAt E (c + k) L) (htx : E.text (c + k) L = ⟨(Pw.bareText b).toArray⟩)
    (hb : b < 9223372036854775808) (hfin : b / 2 ^ 52 % 2048 ≠ 2047) : Calls Tryz.prog 24 #[.pointer (some ⟨E.b, 0, none⟩)] (St V s) (Pw.LitEnd E V (c + k + L) b) := by
  have hlx := Pw.lexNumber E V s c k L hG hp hsp hn
  have hnm := Pw.notMinus E (c + k) L hn.1.1 hn.1.2
  have hpf := fun V1 s1 h => Pw.parseAt E W0 hT b (by omega) hfin V1 s1 h
  have hnan := Pw.nanAt b hfin
  have hinf := Pw.infAt b hfin
  have hbb : b % 9223372036854775808 = b := Nat.mod_eq_of_lt hb
  rw [hbb] at hnan hinf hpf
  unfold Pw.LexEnd at hlx
  rw [htx] at hlx hnm
  obtain ⟨X, hX⟩ : ∃ X : ByteArray, X = ⟨(Pw.bareText b).toArray⟩ := ⟨_, rfl⟩
  rw [← hX] at hlx hpf hnm
  have H := Lib.hid (And.intro hpf hbl)
  unfold Pw.LitEnd
  clear hG hp hsp hn htx hX hb hfin hbb hpf hbl
  go_enter Tryz.func24, Tryz.ntmps24
  go_wp2_with (first
    | (go_at_call 30; go_must (refine hlx.mono ?_; rintro e W ⟨V1, s1, rfl, rfl, hG1, hp1, hK1⟩; have hp31 := H.out.1 V1 s1 (H.out.2.trans hK1.below); have H1 := Lib.hid (And.intro hG1 (And.intro hp1 hK1)); clear hG1 hp1 hK1 hlx))
    | (go_at_call 31; go_must (refine hp31.mono ?_; rintro e W ⟨V2, rfl, rfl, hx2, hK2⟩; have H2 := Lib.hid (And.intro hx2 hK2); clear hx2 hK2 hp31))
    | (go_at_call 10; refine (hnan _).mono ?_; rintro e w1 ⟨rfl, rfl⟩)
    | (go_at_call 11; refine (hinf _).mono ?_; rintro e w1 ⟨rfl, rfl⟩))
  go_ret2
  obtain ⟨hG1, hp1, hK1⟩ := H1.out
  obtain ⟨hx2, hK2⟩ := H2.out
  exact ⟨V2, s1, rfl, rfl, hG1.ext hx2, hp1, hK1.trans hK2⟩
end Go.Proofs
namespace Go.Proofs
open Go Go.RowKit
/-- Times minus one gives the number with its sign back. -/
theorem Pw.mulBack (b : Nat) (hb0 : 9223372036854775808 ≤ b) (hb : b < 18446744073709551616) (hfin : b / 2 ^ 52 % 2048 ≠ 2047) : floatBits .mul .f64 (b % 9223372036854775808) 13830554455654793216 = some b := by
  have hback := Pb.bits_back b hb
  have e2 : (2 : Nat) ^ 52 = 4503599627370496 := by decide
  by_cases hm : Pb.mOf b = 0
  · have hz : b % 9223372036854775808 = 0 := by
      rw [hm] at hback
      have hq : Pb.qOf b = -1074 := by
        unfold Pb.mOf at hm
        unfold Pb.qOf
        split at hm
        · rw [if_pos (by assumption)]
        · omega
      rw [hq] at hback
      split at hback <;> simp at hback <;> omega
    rw [hz, show b = 9223372036854775808 from by omega]
    exact Pb.mul_minus_zero
  · have hF := Pb.fits_of b hfin hm
    have hword : b % 9223372036854775808 = Pb.word (Pb.mOf b) (Pb.qOf b) := by
      unfold Pb.word
      have h1 : (Pb.qOf b + 1074).toNat * 4503599627370496 + Pb.mOf b < 9223372036854775808 := by
        have := hF.2.1
        have := hF.2.2.2.1
        omega
      have e1 : (2 : Nat) ^ 63 = 9223372036854775808 := by decide
      rw [e1, e2] at hback
      split at hback <;> omega
    have h := Pb.mul_minus hF
    rw [hword]
    rw [h, ← hword]
    congr 1
    omega
set_option maxRecDepth 100000 in
set_option maxHeartbeats 1000000 in
theorem Pw.litNeg (E : Env) (W0 : World) (V : Bs E.b) (s : SS) (c k L b : Nat) (hT : Tb E W0) (hbl : Below E.B W0 V.1) (hG : Gap E V s c) (hp : s.pk = .string ⟨#[]⟩) (hsp : ∀ j, j < k → E.at (c + j) = 32) (hm : E.at (c + k) = 45) (hn : Pw.NumAt E (c + k + 1) L) (htx : E.text (c + k + 1) L = ⟨(Pw.bareText b).toArray⟩)
    (hb0 : 9223372036854775808 ≤ b) (hb : b < 18446744073709551616) (hfin : b / 2 ^ 52 % 2048 ≠ 2047) : Calls Tryz.prog 24 #[.pointer (some ⟨E.b, 0, none⟩)] (St V s) (Pw.LitEnd E V (c + k + 1 + L) b) := by
  have hlx := Pw.lexMinus E V s c k hG hp hsp hm
  have hlx2 : ∀ (V1 : Bs E.b) (s1 : SS), Gap E V1 s1 (c + k + 1) → s1.pk = .string ⟨#[]⟩ → Calls Tryz.prog 30 #[.pointer (some ⟨E.b, 0, none⟩)] (St V1 s1) fun e w' => ∃ (V' : Bs E.b) (s' : SS), e = .returned (.tuple #[.string (E.text (c + k + 1) L), .nilIface]) ∧ w' = St V' s' ∧ Gap E V' s' (c + k + 1 + L) ∧ s'.pk = .string ⟨#[]⟩ ∧ Kp E.B (some E.rb) V1 V' := fun V1 s1 h1 h2 => Pw.lexNumber E V1 s1 (c + k + 1) 0 L h1 h2 (fun j hj => by omega) hn
  have hpf := fun V1 s1 h => Pw.parseAt E W0 hT b hb hfin V1 s1 h
  have hnan := Pw.nanAt b hfin
  have hinf := Pw.infAt b hfin
  have hmul := Pw.mulBack b hb0 hb hfin
  rw [htx] at hlx2
  obtain ⟨r, hr⟩ : ∃ r, r = b % 9223372036854775808 := ⟨_, rfl⟩
  rw [← hr] at hnan hinf hpf hmul
  have hrun : ∀ w, (binOp .mul 22 (.float .f64 r) (.float .f64 13830554455654793216)).run Tryz.prog w = .ok (.float .f64 b) w := fun w => run_float_arith w .mul 22 .f64 _ _ _ hmul
  clear hmul
  obtain ⟨X, hX⟩ : ∃ X : ByteArray, X = ⟨(Pw.bareText b).toArray⟩ := ⟨_, rfl⟩
  rw [← hX] at hlx2 hpf
  have H := Lib.hid (And.intro hpf (And.intro hbl hlx2))
  unfold Pw.LitEnd
  clear hG hp hsp hn htx hX hb hb0 hfin hpf hbl hlx2 hr hm
  go_enter Tryz.func24, Tryz.ntmps24
  go_wp2_with (first
    | (go_at_call 30; (refine hlx.mono ?_; rintro e W ⟨V1, s1, rfl, rfl, hG1, hp1, hK1⟩; have hly := H.out.2.2 V1 s1 hG1 hp1; have H1 := Lib.hid hK1; clear hG1 hp1 hK1 hlx))
    | (go_at_call 30; go_must (refine hly.mono ?_; rintro e W ⟨V2, s2, rfl, rfl, hG2, hp2, hK2⟩; have hp31 := H.out.1 V2 s2 (H.out.2.1.trans (H1.out.below.trans hK2.below)); have H2 := Lib.hid (And.intro hG2 (And.intro hp2 hK2)); clear hG2 hp2 hK2 hly))
    | (go_at_call 31; go_must (refine hp31.mono ?_; rintro e W ⟨V3, rfl, rfl, hx3, hK3⟩; have H3 := Lib.hid (And.intro hx3 hK3); clear hx3 hK3 hp31))
    | (go_at_call 10; refine (hnan _).mono ?_; rintro e w1 ⟨rfl, rfl⟩)
    | (go_at_call 11; refine (hinf _).mono ?_; rintro e w1 ⟨rfl, rfl⟩))
  go_ret2
  obtain ⟨hG2, hp2, hK2⟩ := H2.out
  obtain ⟨hx3, hK3⟩ := H3.out
  exact ⟨V3, s2, rfl, rfl, hG2.ext hx3, hp2, (H1.out.trans hK2).trans hK3⟩
end Go.Proofs

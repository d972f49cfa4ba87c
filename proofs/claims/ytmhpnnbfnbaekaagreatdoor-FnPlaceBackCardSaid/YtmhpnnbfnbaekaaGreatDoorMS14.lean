/- Part of the proof of FnPlaceBack: walk: the scanner's Scan. No condition. -/
import Derived.Test.YtmhpnnbfnbaekaaGreatDoorMS13bcd
namespace Go.Proofs
open Go Go.RowKit
theorem Sc.fix {E : Env} {V : Bs E.b} {s : SS} {p f o l : Nat} {tok : Option Nat} (h : Sc E V s p f o l tok) : ∃ s0 : SS, s = { s0 with pos := p, fin := f, off := o, lc := l, mode := 28, ws := 4294977024, idr := .nilFunc } := by
  refine ⟨s, ?_⟩
  cases s
  have := h.pos; have := h.fin; have := h.off; have := h.lc; have := h.mode; have := h.ws; have := h.idr
  simp_all
/-- No token is being kept. -/
theorem Look.drop {E : Env} {V : Bs E.b} {s : SS} {c : Nat} {tok : Option Nat} (h : Look E V s c tok) : Look E V { s with tp := -1 } c none := by
  obtain ⟨p, f, o, l, hS, g1, g2, g3, g4⟩ := h
  refine ⟨p, f, o, l, ?_, g1, g2, g3, by show (-1 : Int) + o ≤ c; omega⟩
  refine ⟨hS.src, hS.pos, hS.fin, hS.off, hS.lc, hS.pf, hS.f24, hS.oN, hS.lp, hS.l1, hS.bytes, hS.sent, hS.rd, hS.col0, hS.col1, hS.mode, hS.ws, hS.idr, ?_, hS.eofv, hS.tab⟩
  obtain ⟨bs, hb, e1, -, -⟩ := hS.buf
  exact ⟨bs, hb.one rfl rfl, e1, fun a ha => (by cases ha), fun _ => rfl⟩
/-- A token begins at the sign ahead. -/
theorem Sc.begin {E : Env} {V V' : Bs E.b} {s : SS} {p f o l c : Nat} {tok : Option Nat} (h : Sc E V s p f o l tok) (hc : c + l = o + p) {v : Value} {lr : Int} (hb : Bf E.B V' { s with buf := v, boff := 0, blr := lr } []) (hK : Kp E.B none V V') : Sc E V' { s with buf := v, boff := 0, blr := lr, tp := (p : Int) - l } p f o l (some c) := by
  have hlp := h.lp
  refine ⟨h.src, h.pos, h.fin, h.off, h.lc, h.pf, h.f24, h.oN, h.lp, h.l1, h.bytes, h.sent, h.row hK, h.col0, h.col1, h.mode, h.ws, h.idr, ?_, (h.tabs hK).1, (h.tabs hK).2⟩
  refine ⟨[], hb.one rfl rfl, by simp, fun a ha => ?_, fun h => by cases h⟩
  cases ha
  refine ⟨p - l, by show (p : Int) - l = ((p - l : Nat) : Int); omega, by omega, by omega, ?_⟩
  rw [show o + (p - l) - c = 0 from by omega]
  rfl
/-- Behind Scan: the token's text is T[a .. c). -/
def Done (E : Env) (V : Bs E.b) (s : SS) (a c : Nat) : Prop :=
  ∃ p f o l, Sc E V s p f o l (some a) ∧ c ≤ E.S.size ∧ o + p = min (c + 1) E.S.size ∧ c + l = o + p ∧ s.tp + o ≤ c ∧ s.te = (p : Int) - l ∧ s.ch = E.at c
theorem Done.look {E : Env} {V : Bs E.b} {s : SS} {a c : Nat} (h : Done E V s a c) : Look E V s c (some a) := by
  obtain ⟨p, f, o, l, hS, g1, g2, g3, g4, -⟩ := h
  exact ⟨p, f, o, l, hS, g1, g2, g3, g4⟩
end Go.Proofs
namespace Go.Proofs
open Go Go.RowKit
theorem Look.ws {E : Env} {V : Bs E.b} {s : SS} {c : Nat} {tok : Option Nat} (h : Look E V s c tok) : s.ws = 4294977024 := by
  obtain ⟨p, f, o, l, hS, -⟩ := h; exact hS.ws
theorem Pw.noBlank (x : Nat) (h0 : 33 ≤ x) (h1 : x < 64) : (bits .and .u64 4294977024 (IntKind.u64.wrap (2 ^ x)) != 0) = false := by
  have h2 : ∀ n, n < 31 → (bits .and .u64 4294977024 (IntKind.u64.wrap (2 ^ (33 + n))) != 0) = false := by decide +kernel
  obtain ⟨n, rfl⟩ : ∃ n, x = 33 + n := ⟨x - 33, by omega⟩
  exact h2 n (by omega)
set_option maxRecDepth 100000 in
set_option maxHeartbeats 2000000 in
theorem Pw.scanNum (E : Env) (V : Bs E.b) (s : SS) (c k L : Nat) (tok : Option Nat) (tv : Int) (hpk : Calls Tryz.prog 39 #[.pointer (some ⟨E.b, 0, none⟩)] (St V s) (Pw.PeekEnd E V s c tok)) (hsp : ∀ j, j < k → E.at (c + j) = 32)
    (hd : 48 ≤ E.at (c + k) ∧ E.at (c + k) ≤ 57) (hnum : ∀ (V' : Bs E.b) (s' : SS), Look E V' s' (c + k) (some (c + k)) → Calls Tryz.prog 45 #[.pointer (some ⟨E.b, 0, none⟩), .int .i32 (E.at (c + k)), .bool false] (St V' s') (Pw.NumEnd E V' s' (c + k) L (some (c + k)) tv)) :
    Calls Tryz.prog 34 #[.pointer (some ⟨E.b, 0, none⟩)] (St V s) fun e w' => ∃ (V' : Bs E.b) (s' : SS), e = .returned (.int .i32 tv) ∧ w' = St V' s' ∧ Done E V' s' (c + k) (c + k + L) ∧ s'.err = s.err ∧ s'.pk = s.pk ∧ Kp E.B (some E.rb) V V' := by
  unfold Pw.PeekEnd at hpk
  have HD := Lib.hid (And.intro hsp (And.intro hd hnum))
  clear hsp hd hnum
  obtain ⟨x, hx⟩ : ∃ x, x = E.at c := ⟨_, rfl⟩
  rw [← hx] at hpk
  have HX := Lib.hid hx
  clear hx
  go_enter Tryz.func34, Tryz.ntmps34
  go_wp2
  apply wp_scope_straight
  go_wp2_with (go_at_call 39; go_must (refine hpk.mono ?_; rintro e W ⟨V1, s1, rfl, rfl, hL1, hc1, he1, hp1, hK1⟩; have H1 := Lib.hid (And.intro hL1 (And.intro he1 (And.intro hp1 hK1))); clear hL1 hc1 he1 hp1 hK1 hpk))
  apply wp_label
  go_wp2
  go_loopg [3] k (fun g v wr => ∃ (j : Nat) (V2 : Bs E.b) (s2 : SS), g = k - j ∧ j ≤ k ∧ v = .int .i32 (E.at (c + j)) ∧ wr = St V2 s2 ∧ Look E V2 s2 (c + j) none ∧ s2.err = s.err ∧ s2.pk = s.pk ∧ Kp E.B (some E.rb) V V2)
  case atStart => exact ⟨0, V1, _, rfl, Nat.zero_le _, by rw [HX.out]; rfl, rfl, H1.out.1.drop.chg rfl rfl rfl rfl rfl rfl rfl rfl rfl rfl rfl rfl rfl rfl, H1.out.2.1, H1.out.2.2.1, H1.out.2.2.2⟩
  case round =>
    obtain ⟨j, V2, s2, rfl, hj, rfl, rfl, hL2, he2, hp2, hK2⟩ := hrel
    rcases Nat.lt_or_ge j k with hlt | hge
    · have hz := HD.out.1 j hlt
      have hN : c + j < E.S.size := by
        rcases Nat.lt_or_ge (c + j) E.S.size with h | h
        · exact h
        · rw [E.at_end h] at hz; omega
      have hnx := Pw.nextL E V2 s2 (c + j) none hL2 hN
      rw [hz]
      have hws := hL2.ws
      have HR := Lib.hid (And.intro he2 (And.intro hp2 (And.intro hK2 hlt)))
      clear hL2 he2 hp2 hK2 hz hN hj hlt
      go_wp2_with (go_at_call 40; refine hnx.mono ?_; rintro e W ⟨V3, s3, rfl, rfl, hL3, hS3, hK3⟩; have H3 := Lib.hid (And.intro hL3 (And.intro hS3 hK3)); clear hL3 hS3 hK3 hnx)
      go_roundg (k - (j + 1))
      case measure => have := HR.out.2.2.2; omega
      case rel => exact ⟨j + 1, V3, s3, rfl, HR.out.2.2.2, by rw [Nat.add_assoc], rfl, H3.out.1, H3.out.2.1.2.1.trans HR.out.1, H3.out.2.1.2.2.trans HR.out.2.1, HR.out.2.2.1.trans H3.out.2.2⟩
    · obtain rfl : j = k := by omega
      have hx := HD.out.2.1
      obtain ⟨x, hx2⟩ : ∃ x : Nat, E.at (c + j) = x := ⟨(E.at (c + j)).toNat, by omega⟩
      have hnum := HD.out.2.2
      rw [hx2] at hx hnum ⊢
      have hx3 : x < 64 := by omega
      have hnb := Pw.noBlank x (by omega) hx3
      have hdec := Pw.isDecimal
      have hid := fun V s hi => Pw.isIdent E V s hi x (.inr ⟨by omega, by omega⟩)
      have d0 : decide (48 ≤ (x : Int)) = true := decide_eq_true hx.1
      have d1 : decide ((x : Int) ≤ 57) = true := decide_eq_true hx.2
      obtain ⟨p, f, o, l, hS, g1, g2, g3, g4⟩ := hL2
      obtain ⟨s0, rfl⟩ := hS.fix
      obtain ⟨bs, hBf, -⟩ := hS.buf
      have hrs := Pw.reset V2 _ bs hBf
      have b1 := hS.f24
      have b2 := hS.pf
      have b3 := hS.l1
      have b4 := hS.lp
      have b5 := hS.oN
      have b6 := E.hN
      have b7 : (o : Int) + p ≤ 1000000 := by omega
      have HR := Lib.hid (And.intro he2 (And.intro hp2 (And.intro hK2 (And.intro hS (And.intro g1 (And.intro g2 (And.intro g3 (And.intro hnum hid))))))))
      clear hj hge hS g1 g2 g3 g4 he2 hp2 hK2 hBf hnum hid b5 b6 hx2
      go_wp2_with (go_at_call 41; refine hrs.mono ?_; rintro e W ⟨V3, v3, rfl, rfl, hB3, hK3⟩; have H3 := Lib.hid (And.intro hB3 hK3); clear hB3 hK3 hrs)
      have hLb : Look E V3 _ (c + j) (some (c + j)) := ⟨p, f, o, l, HR.out.2.2.2.1.begin HR.out.2.2.2.2.2.2.1 H3.out.1 H3.out.2, HR.out.2.2.2.2.1, HR.out.2.2.2.2.2.1, HR.out.2.2.2.2.2.2.1, by have := HR.out.2.2.2.2.2.2.1; show (p : Int) - l + o ≤ ((c + j : Nat) : Int); omega⟩
      have HLb := Lib.hid hLb
      clear hLb
      go_region
      go_wp2
      go_region
      go_wp2_with (first
        | (go_at_call 42; go_must (refine (HR.out.2.2.2.2.2.2.2.2 _ _ ?_).mono ?_; exact rfl; rintro e W ⟨rfl, rfl⟩))
        | (go_at_call 44; refine (hdec _ _).mono ?_; rintro e w1 ⟨rfl, rfl⟩)
        | (go_at_call 45; go_must (refine (HR.out.2.2.2.2.2.2.2.1 _ _ ?_).mono ?_; exact HLb.out.chg rfl rfl rfl rfl rfl rfl rfl rfl rfl rfl rfl rfl rfl rfl; rintro e W ⟨V5, s5, rfl, rfl, hL5, hS5, hK5⟩; obtain ⟨p5, f5, o5, l5, hC5, k1, k2, k3, k4⟩ := hL5; obtain ⟨s50, rfl⟩ := hC5.fix; have c1 := hC5.f24; have c2 := hC5.pf; have c3 := hC5.l1; have c4 := hC5.lp; have H5 := Lib.hid (And.intro hC5 (And.intro k1 (And.intro k2 (And.intro k3 (And.intro k4 (And.intro hS5 hK5)))))); clear hC5 k1 k2 k3 k4 hS5 hK5)))
      all_goals
        go_region
        go_wp2
        rw [Exit.noGoto_ret]
        go_ret
        obtain ⟨hC5, k1, k2, k3, k4, hS5, hK5⟩ := H5.out
        exact ⟨_, _, rfl, rfl, ⟨p5, f5, o5, l5, hC5.chg rfl rfl rfl rfl rfl rfl rfl rfl rfl rfl rfl rfl rfl rfl, k1, k2, k3, k4, rfl, rfl⟩, hS5.2.1.trans HR.out.1, hS5.2.2.trans HR.out.2.1, Kp.heap (Kp.via hK5 (HR.out.2.2.1.trans H3.out.2.more) rfl rfl rfl rfl) rfl rfl rfl rfl⟩
end Go.Proofs
namespace Go.Proofs
open Go Go.RowKit
set_option maxRecDepth 100000 in
set_option maxHeartbeats 2000000 in
theorem Pw.scanMinus (E : Env) (V : Bs E.b) (s : SS) (c k : Nat) (tok : Option Nat) (hpk : Calls Tryz.prog 39 #[.pointer (some ⟨E.b, 0, none⟩)] (St V s) (Pw.PeekEnd E V s c tok)) (hsp : ∀ j, j < k → E.at (c + j) = 32)
    (hd : E.at (c + k) = 45) :
    Calls Tryz.prog 34 #[.pointer (some ⟨E.b, 0, none⟩)] (St V s) fun e w' => ∃ (V' : Bs E.b) (s' : SS), e = .returned (.int .i32 45) ∧ w' = St V' s' ∧ Done E V' s' (c + k) (c + k + 1) ∧ s'.err = s.err ∧ s'.pk = s.pk ∧ Kp E.B (some E.rb) V V' := by
  unfold Pw.PeekEnd at hpk
  have HD := Lib.hid (And.intro hsp hd)
  clear hsp hd
  obtain ⟨x, hx⟩ : ∃ x, x = E.at c := ⟨_, rfl⟩
  rw [← hx] at hpk
  have HX := Lib.hid hx
  clear hx
  go_enter Tryz.func34, Tryz.ntmps34
  go_wp2
  apply wp_scope_straight
  go_wp2_with (go_at_call 39; go_must (refine hpk.mono ?_; rintro e W ⟨V1, s1, rfl, rfl, hL1, hc1, he1, hp1, hK1⟩; have H1 := Lib.hid (And.intro hL1 (And.intro he1 (And.intro hp1 hK1))); clear hL1 hc1 he1 hp1 hK1 hpk))
  apply wp_label
  go_wp2
  go_loopg [3] k (fun g v wr => ∃ (j : Nat) (V2 : Bs E.b) (s2 : SS), g = k - j ∧ j ≤ k ∧ v = .int .i32 (E.at (c + j)) ∧ wr = St V2 s2 ∧ Look E V2 s2 (c + j) none ∧ s2.err = s.err ∧ s2.pk = s.pk ∧ Kp E.B (some E.rb) V V2)
  case atStart => exact ⟨0, V1, _, rfl, Nat.zero_le _, by rw [HX.out]; rfl, rfl, H1.out.1.drop.chg rfl rfl rfl rfl rfl rfl rfl rfl rfl rfl rfl rfl rfl rfl, H1.out.2.1, H1.out.2.2.1, H1.out.2.2.2⟩
  case round =>
    obtain ⟨j, V2, s2, rfl, hj, rfl, rfl, hL2, he2, hp2, hK2⟩ := hrel
    rcases Nat.lt_or_ge j k with hlt | hge
    · have hz := HD.out.1 j hlt
      have hN : c + j < E.S.size := by
        rcases Nat.lt_or_ge (c + j) E.S.size with h | h
        · exact h
        · rw [E.at_end h] at hz; omega
      have hnx := Pw.nextL E V2 s2 (c + j) none hL2 hN
      rw [hz]
      have hws := hL2.ws
      have HR := Lib.hid (And.intro he2 (And.intro hp2 (And.intro hK2 hlt)))
      clear hL2 he2 hp2 hK2 hz hN hj hlt
      go_wp2_with (go_at_call 40; refine hnx.mono ?_; rintro e W ⟨V3, s3, rfl, rfl, hL3, hS3, hK3⟩; have H3 := Lib.hid (And.intro hL3 (And.intro hS3 hK3)); clear hL3 hS3 hK3 hnx)
      go_roundg (k - (j + 1))
      case measure => have := HR.out.2.2.2; omega
      case rel => exact ⟨j + 1, V3, s3, rfl, HR.out.2.2.2, by rw [Nat.add_assoc], rfl, H3.out.1, H3.out.2.1.2.1.trans HR.out.1, H3.out.2.1.2.2.trans HR.out.2.1, HR.out.2.2.1.trans H3.out.2.2⟩
    · obtain rfl : j = k := by omega
      have hx := HD.out.2
      have hN : c + j < E.S.size := by
        rcases Nat.lt_or_ge (c + j) E.S.size with h | h
        · exact h
        · rw [E.at_end h] at hx; omega
      have hnum := fun V s h => Pw.nextL E V s (c + j) (some (c + j)) h hN
      rw [hx]
      have hnb := Pw.noBlank 45 (by omega) (by omega)
      have hdec := Pw.isDecimal
      have hid := fun V s hi => Pw.isIdent E V s hi 45 (.inr ⟨by omega, by omega⟩)
      obtain ⟨p, f, o, l, hS, g1, g2, g3, g4⟩ := hL2
      obtain ⟨s0, rfl⟩ := hS.fix
      obtain ⟨bs, hBf, -⟩ := hS.buf
      have hrs := Pw.reset V2 _ bs hBf
      have b1 := hS.f24
      have b2 := hS.pf
      have b3 := hS.l1
      have b4 := hS.lp
      have b5 := hS.oN
      have b6 := E.hN
      have b7 : (o : Int) + p ≤ 1000000 := by omega
      have HR := Lib.hid (And.intro he2 (And.intro hp2 (And.intro hK2 (And.intro hS (And.intro g1 (And.intro g2 (And.intro g3 (And.intro hnum hid))))))))
      clear hj hge hS g1 g2 g3 g4 he2 hp2 hK2 hBf hnum hid b5 b6 hx hN
      go_wp2_with (go_at_call 41; refine hrs.mono ?_; rintro e W ⟨V3, v3, rfl, rfl, hB3, hK3⟩; have H3 := Lib.hid (And.intro hB3 hK3); clear hB3 hK3 hrs)
      have hLb : Look E V3 _ (c + j) (some (c + j)) := ⟨p, f, o, l, HR.out.2.2.2.1.begin HR.out.2.2.2.2.2.2.1 H3.out.1 H3.out.2, HR.out.2.2.2.2.1, HR.out.2.2.2.2.2.1, HR.out.2.2.2.2.2.2.1, by have := HR.out.2.2.2.2.2.2.1; show (p : Int) - l + o ≤ ((c + j : Nat) : Int); omega⟩
      have HLb := Lib.hid hLb
      clear hLb
      go_region
      go_wp2
      go_region
      go_wp2_with (first
        | (go_at_call 42; go_must (refine (HR.out.2.2.2.2.2.2.2.2 _ _ ?_).mono ?_; exact rfl; rintro e W ⟨rfl, rfl⟩))
        | (go_at_call 44; refine (hdec _ _).mono ?_; rintro e w1 ⟨rfl, rfl⟩)
        | (go_at_call 40; go_must (refine (HR.out.2.2.2.2.2.2.2.1 _ _ ?_).mono ?_; exact HLb.out.chg rfl rfl rfl rfl rfl rfl rfl rfl rfl rfl rfl rfl rfl rfl; rintro e W ⟨V5, s5, rfl, rfl, hL5, hS5, hK5⟩; obtain ⟨p5, f5, o5, l5, hC5, k1, k2, k3, k4⟩ := hL5; obtain ⟨s50, rfl⟩ := hC5.fix; have c1 := hC5.f24; have c2 := hC5.pf; have c3 := hC5.l1; have c4 := hC5.lp; have H5 := Lib.hid (And.intro hC5 (And.intro k1 (And.intro k2 (And.intro k3 (And.intro k4 (And.intro hS5 hK5)))))); clear hC5 k1 k2 k3 k4 hS5 hK5)))
      all_goals
        go_region
        go_wp2
        rw [Exit.noGoto_ret]
        go_ret
        obtain ⟨hC5, k1, k2, k3, k4, hS5, hK5⟩ := H5.out
        exact ⟨_, _, rfl, rfl, ⟨p5, f5, o5, l5, hC5.chg rfl rfl rfl rfl rfl rfl rfl rfl rfl rfl rfl rfl rfl rfl, k1, k2, k3, k4, rfl, rfl⟩, hS5.2.1.trans HR.out.1, hS5.2.2.trans HR.out.2.1, Kp.heap (Kp.via hK5 (HR.out.2.2.1.trans H3.out.2.more) rfl rfl rfl rfl) rfl rfl rfl rfl⟩
end Go.Proofs

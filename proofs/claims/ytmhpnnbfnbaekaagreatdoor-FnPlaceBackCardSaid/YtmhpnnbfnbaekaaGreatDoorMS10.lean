/- Part of the proof of FnPlaceBack: walk: the scanner's Peek. No condition. -/
import Derived.Test.YtmhpnnbfnbaekaaGreatDoorMS9
namespace Go.Proofs
open Go Go.RowKit
/-- The sign ahead is the one at c. -/
def Look (E : Env) (V : Bs E.b) (s : SS) (c : Nat) (tok : Option Nat) : Prop :=
  ∃ p f o l, Sc E V s p f o l tok ∧ c ≤ E.S.size ∧ o + p = min (c + 1) E.S.size ∧ c + l = o + p ∧ s.tp + o ≤ c
theorem Sc.chg {E : Env} {V V' : Bs E.b} {s s' : SS} {p f o l : Nat} {tok : Option Nat} (h : Sc E V s p f o l tok) (hh : V'.1.heap = V.1.heap) (h1 : s'.src = s.src) (h2 : s'.byte = s.byte) (h3 : s'.pos = s.pos) (h4 : s'.fin = s.fin) (h5 : s'.off = s.off) (h6 : s'.lc = s.lc) (h7 : s'.col = s.col)
    (h8 : s'.mode = s.mode) (h9 : s'.ws = s.ws) (h10 : s'.idr = s.idr) (h11 : s'.buf = s.buf) (h12 : s'.boff = s.boff) (h13 : s'.tp = s.tp) : Sc E V' s' p f o l tok := by
  refine ⟨h1.trans h.src, h3.trans h.pos, h4.trans h.fin, h5.trans h.off, h6.trans h.lc, h.pf, h.f24, h.oN, h.lp, h.l1, by rw [h2]; exact h.bytes, by rw [h2]; exact h.sent, by rw [hh]; exact h.rd, by rw [h7]; exact h.col0, by rw [h7]; exact h.col1, h8.trans h.mode, h9.trans h.ws, h10.trans h.idr, ?_, ?_, ?_⟩
  · obtain ⟨bs, hb, g1, g2, g3⟩ := h.buf
    exact ⟨bs, (hb.world fun k c hk _ => by rw [hh]; exact hk).one h11 h12, g1, by rw [h13]; exact g2, by rw [h13]; exact g3⟩
  · rw [World.cell?_of_block (w := V.1) (by rw [hh])]; exact h.eofv
  · intro c hc; rw [World.cell?_of_block (w := V.1) (by rw [hh])]; exact h.tab c hc
theorem Look.chg {E : Env} {V V' : Bs E.b} {s s' : SS} {c : Nat} {tok : Option Nat} (h : Look E V s c tok) (hh : V'.1.heap = V.1.heap) (h1 : s'.src = s.src) (h2 : s'.byte = s.byte) (h3 : s'.pos = s.pos) (h4 : s'.fin = s.fin) (h5 : s'.off = s.off) (h6 : s'.lc = s.lc) (h7 : s'.col = s.col)
    (h8 : s'.mode = s.mode) (h9 : s'.ws = s.ws) (h10 : s'.idr = s.idr) (h11 : s'.buf = s.buf) (h12 : s'.boff = s.boff) (h13 : s'.tp = s.tp) : Look E V' s' c tok := by
  obtain ⟨p, f, o, l, hS, g1, g2, g3, g4⟩ := h
  exact ⟨p, f, o, l, hS.chg hh h1 h2 h3 h4 h5 h6 h7 h8 h9 h10 h11 h12 h13, g1, g2, g3, by rw [h13]; exact g4⟩
theorem Look.heap {E : Env} {V V' : Bs E.b} {s : SS} {c : Nat} {tok : Option Nat} (h : Look E V s c tok) (hh : V'.1.heap = V.1.heap) : Look E V' s c tok := h.chg hh rfl rfl rfl rfl rfl rfl rfl rfl rfl rfl rfl rfl rfl
theorem Look.le {E : Env} {V : Bs E.b} {s : SS} {c : Nat} {tok : Option Nat} (h : Look E V s c tok) : c ≤ E.S.size := h.choose_spec.choose_spec.choose_spec.choose_spec.2.1
theorem Pw.nextL (E : Env) (V : Bs E.b) (s : SS) (c : Nat) (tok : Option Nat) (h : Look E V s c tok) (hc : c < E.S.size) :
    Calls Tryz.prog 40 #[.pointer (some ⟨E.b, 0, none⟩)] (St V s) fun e w' => ∃ (V' : Bs E.b) (s' : SS), e = .returned (.int .i32 (E.at (c + 1))) ∧ w' = St V' s' ∧ Look E V' s' (c + 1) tok ∧ s.Same s' ∧ Kp E.B (some E.rb) V V' := by
  obtain ⟨p, f, o, l, hS, g1, g2, g3, g4⟩ := h
  have hop : o + p = c + 1 := by omega
  refine (Pw.next E V s p f o l tok hS).mono ?_
  rintro e w' ⟨V', s', p', f', o', l', rfl, rfl, hS', k1, k2, k3, k4, k5⟩
  rw [hop] at k1 k2 k3 ⊢
  exact ⟨V', s', rfl, rfl, ⟨p', f', o', l', hS', by omega, k1, k2, k3⟩, k4, k5⟩
/-- The first sign. -/
theorem Pw.nextFirst (E : Env) (V : Bs E.b) (s : SS) (h : Sc E V s 0 0 0 0 none) :
    Calls Tryz.prog 40 #[.pointer (some ⟨E.b, 0, none⟩)] (St V s) fun e w' => ∃ (V' : Bs E.b) (s' : SS), e = .returned (.int .i32 (E.at 0)) ∧ w' = St V' s' ∧ Look E V' s' 0 none ∧ s.Same s' ∧ Kp E.B (some E.rb) V V' := by
  refine (Pw.next E V s 0 0 0 0 none h).mono ?_
  rintro e w' ⟨V', s', p', f', o', l', rfl, rfl, hS', k1, k2, k3, k4, k5⟩
  exact ⟨V', s', rfl, rfl, ⟨p', f', o', l', hS', by omega, k1, by omega, k3⟩, k4, k5⟩
theorem Pw.isDecimal (x : Int) (w : World) : Calls Tryz.prog 44 #[.int .i32 x] w fun e w' => e = .returned (.bool (decide (48 ≤ x) && decide (x ≤ 57))) ∧ w = w' := by
  by_cases h : 48 ≤ x
  · have h1 : decide (48 ≤ x) = true := decide_eq_true h
    go_enter Tryz.func44, Tryz.ntmps44
    go_wp2
    all_goals (go_ret; exact ⟨by simp [*], rfl⟩)
  · have h1 : decide (48 ≤ x) = false := decide_eq_false h
    go_enter Tryz.func44, Tryz.ntmps44
    go_wp2
    all_goals (go_ret; exact ⟨by simp [*], rfl⟩)
theorem Pw.or32 (x : Int) (h : x = -1 ∨ 32 ≤ x ∧ x < 64) : bits .or .i32 32 x = x := by
  have h2 : ∀ n, n < 32 → bits .or .i32 32 ((32 + n : Nat) : Int) = ((32 + n : Nat) : Int) := by decide
  rcases h with rfl | ⟨h0, h1⟩
  · decide
  · obtain ⟨n, hn⟩ : ∃ n : Nat, x = ((32 + n : Nat) : Int) := ⟨(x - 32).toNat, by omega⟩
    rw [hn]
    exact h2 n (by omega)
theorem Pw.lower (x : Int) (h : x = -1 ∨ 32 ≤ x ∧ x < 64) (w : World) : Calls Tryz.prog 63 #[.int .i32 x] w fun e w' => e = .returned (.int .i32 x) ∧ w = w' := by
  have h1 := Pw.or32 x h
  clear h
  go_enter Tryz.func63, Tryz.ntmps63
  go_wp2
  go_ret
  exact ⟨rfl, rfl⟩
set_option maxRecDepth 100000 in
theorem Pw.isIdent (E : Env) (V : Bs E.b) (s : SS) (hi : s.idr = .nilFunc) (x : Int) (h : x = -1 ∨ 32 ≤ x ∧ x < 64) :
    Calls Tryz.prog 42 #[.pointer (some ⟨E.b, 0, none⟩), .int .i32 x, .int .i64 0] (St V s) fun e w' => e = .returned (.bool false) ∧ w' = St V s := by
  have hq68 : ∀ w, (binOp .neq 68 .nilFunc .nilFunc).run Tryz.prog w = .ok (.bool false) w := fun _ => by kernel_rfl
  have hl := Pw.lower x h
  have hd := Pw.isDecimal x
  have t0 : (x == 95) = false := by simp; omega
  have t1 : decide (97 ≤ x) = false := decide_eq_false (by omega)
  have t2 : decide (x ≥ 97) = false := decide_eq_false (by omega)
  clear h
  obtain ⟨q, hq⟩ : ∃ q : Bool, q = (decide (48 ≤ x) && decide (x ≤ 57)) := ⟨_, rfl⟩
  rw [← hq] at hd
  clear hq
  cases q
  all_goals
    go_enter Tryz.func42, Tryz.ntmps42
    go_wp2_with (first
      | (go_at_call 63; refine (hl _).mono ?_; rintro e w1 ⟨rfl, rfl⟩)
      | (go_at_call 44; refine (hd _).mono ?_; rintro e w1 ⟨rfl, rfl⟩))
    go_ret
    exact ⟨rfl, rfl⟩
end Go.Proofs
namespace Go.Proofs
open Go Go.RowKit
def Pw.PeekEnd (E : Env) (V : Bs E.b) (s : SS) (c : Nat) (tok : Option Nat) (e : Ending) (w' : World) : Prop :=
  ∃ (V' : Bs E.b) (s' : SS), e = .returned (.int .i32 (E.at c)) ∧ w' = St V' s' ∧ Look E V' s' c tok ∧ s'.ch = E.at c ∧ s'.err = s.err ∧ s'.pk = s.pk ∧ Kp E.B (some E.rb) V V'
set_option maxRecDepth 100000 in
theorem Pw.peekFirst (E : Env) (V : Bs E.b) (s : SS) (h : Sc E V s 0 0 0 0 none) (hch : s.ch = -2) :
    Calls Tryz.prog 39 #[.pointer (some ⟨E.b, 0, none⟩)] (St V s) (Pw.PeekEnd E V s 0 none) := by
  have hn := Pw.nextFirst E V s h
  have hat := E.at_in 0
  unfold Pw.PeekEnd
  obtain ⟨x, hx⟩ : ∃ x, x = E.at 0 := ⟨_, rfl⟩
  rw [← hx] at hn hat ⊢
  clear hx h
  have t0 : (x == 65279) = false := by simp; omega
  clear hat
  go_enter Tryz.func39, Tryz.ntmps39
  go_wp2_with (go_at_call 40; refine hn.mono ?_; rintro e W ⟨V1, s1, rfl, rfl, hL, hS, hK⟩; have HL := Lib.hid (And.intro hL (And.intro hS hK)); clear hL hS hK)
  go_ret
  exact ⟨V1, _, rfl, rfl, HL.out.1.chg rfl rfl rfl rfl rfl rfl rfl rfl rfl rfl rfl rfl rfl rfl, rfl, HL.out.2.1.2.1, HL.out.2.1.2.2, HL.out.2.2⟩
set_option maxRecDepth 100000 in
theorem Pw.peekNext (E : Env) (V : Bs E.b) (s : SS) (c : Nat) (tok : Option Nat) (h : Look E V s c tok) (hch : s.ch = E.at c) :
    Calls Tryz.prog 39 #[.pointer (some ⟨E.b, 0, none⟩)] (St V s) (Pw.PeekEnd E V s c tok) := by
  have hat := E.at_in c
  unfold Pw.PeekEnd
  obtain ⟨x, hx⟩ : ∃ x, x = E.at c := ⟨_, rfl⟩
  rw [← hx] at hat hch ⊢
  clear hx
  have t0 : (x == -2) = false := by simp; omega
  clear hat
  have HL := Lib.hid h
  clear h
  go_enter Tryz.func39, Tryz.ntmps39
  go_wp2
  go_ret
  exact ⟨V, s, rfl, rfl, HL.out, hch, rfl, rfl, Kp.refl V⟩
end Go.Proofs

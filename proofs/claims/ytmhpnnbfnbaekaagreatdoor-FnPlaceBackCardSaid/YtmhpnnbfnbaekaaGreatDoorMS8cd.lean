/- Part of the proof of FnPlaceBack: walk: the scanner's next, its slow way. No condition. -/
import Derived.Test.YtmhpnnbfnbaekaaGreatDoorMS678
namespace Go.Proofs
open Go Go.RowKit
set_option maxRecDepth 100000 in
set_option maxHeartbeats 1000000 in
theorem Pw.next_more_none (E : Env) (V : Bs E.b) (s : SS) (p o l : Nat) (tok : Option Nat) (h : Sc E V s p p o l tok) (n : Nat)
    (hlt : o + p < E.S.size) (hn : n = min (E.S.size - (o + p)) 1024) (htok : s.tp = -1) :
    Calls Tryz.prog 40 #[.pointer (some ⟨E.b, 0, none⟩)] (St V s) fun e w' => ∃ (V' : Bs E.b) (f : Nat → Int), e = .returned (.int .i32 (E.at (o + p))) ∧ w' = St V' { s with byte := fun j => if j = n then 128 else f j, pos := 1, fin := n, off := o + p, lc := 1, col := s.col + 1 } ∧ (∀ k, k < n → f k = E.at (o + p + k)) ∧ (∀ k c, V.1.heap[k]? = some (.cells c 5 (0, 0)) → k ≠ E.b → V'.1.heap[k]? = some (.cells c 5 (0, 0))) ∧ V'.1.heap[E.rb]? = some (.cells #[.string E.S, .int .i64 ((o + p + n : Nat) : Int), .int .i64 (-1)] 96 (0, 0)) ∧ Kp E.B (some E.rb) V V' := by
  have hp := h.pos
  have hfin := h.fin
  have hoff := h.off
  have hsrc := h.src
  have hlc := h.lc
  have hcol0 := h.col0
  have hcol1 := h.col1
  have hf24 := h.f24
  have hN := E.hN
  have hl1 := h.l1
  have hoN := h.oN
  have hbyte : ∀ V : Bs E.b, (St V s).cell? ⟨E.b, 1 + p, none⟩ = some (.int .u8 128) := fun V => by rw [St.byteAt V s p (by omega), h.sent]
  have hop : (o : Int) + p ≤ 1000000 := by omega
  have hcc : s.col ≤ 4000000 := by omega
  have hg4 : decide ((p : Int) < p + 4) = true := decide_eq_true (by omega)
  have hw4 : IntKind.i64.wrap ((p : Int) + 4) = p + 4 := IntWalk.i64_in _ (by omega)
  have hp25 : (p : Int) ≤ 1025 := by omega
  have hp25n : p ≤ 1025 := by omega
  have hw44 : IntKind.i64.wrap 4 = 4 := by decide
  have hfr := Pw.fullRune0
  have hcp := Pw.copy0
  have hnil := Pw.nil_ahead
  have hmeth := Pw.method_read
  have h2b : 2 ≠ E.b := by have := E.h6; have := E.hB; omega
  have hn1 : 1 ≤ n := by omega
  have hn2 : n ≤ 1024 := by omega
  have hn3 : o + p + n ≤ E.S.size := by omega
  obtain ⟨x0, x1, x2⟩ := E.at_lt (i := o + p) (by omega)
  obtain ⟨x, hx⟩ : ∃ x : Nat, E.at (o + p) = x := ⟨(E.at (o + p)).toNat, by omega⟩
  have hx1 : x < 128 := by omega
  have t0 : ((x : Int) == 0) = false := by simp; omega
  have t1 : ((x : Int) == 10) = false := by simp; omega
  have t2 : ((n : Int) == 0) = false := by simp; omega
  obtain ⟨G, hG⟩ : ∃ G : (Nat → Int) → Nat → Int, G = fun f j => if j = n then 128 else f j := ⟨_, rfl⟩
  have hb0 : ∀ (V : Bs E.b) s, (St V s).cell? ⟨E.b, 1, none⟩ = some (.int .u8 (s.byte 0)) := fun V s => St.byteAt V s 0 (by decide)
  have hbn : ∀ (V : Bs E.b) s, (St V s).cell? ⟨E.b, 1 + n, none⟩ = some (.int .u8 (s.byte n)) := fun V s => St.byteAt V s n (by omega)
  have hb1 : ∀ (V : Bs E.b) s, (St V s).setCell ⟨E.b, 1 + n, none⟩ (.int .u8 128) = St V { s with byte := G s.byte } := fun V s => by rw [hG]; exact St.set_byte V s n (by omega) 128
  have hrd : ∀ (V' : Bs E.b) (s' : SS) (U : Bs E.b) (hk : Kp E.B none V U) (hV : V'.1.heap = U.1.heap), Calls Tryz.prog 169 #[.pointer (some ⟨E.rb, 0, none⟩), .slice (some ⟨E.b, 1, none⟩) 1024 1025] (St V' s') fun e w' => ∃ (V2 : Bs E.b) (f : Nat → Int), e = .returned (.tuple #[.int .i64 n, .nilIface]) ∧ w' = St V2 { s' with byte := f } ∧
      (∀ k, k < n → f k = E.at (o + p + k)) ∧ G f 0 = x ∧ Kp E.B (some E.rb) V' V2 ∧ V2.1.heap[E.rb]? = some (.cells #[.string E.S, .int .i64 ((o + p + n : Nat) : Int), .int .i64 (-1)] 96 (0, 0)) ∧ (∀ k, k ≠ E.rb → V2.1.heap[k]? = U.1.heap[k]?) := fun V' s' U hk hV => by
    obtain ⟨pr, hr⟩ := h.row hk
    rw [← hV] at hr
    refine (Pw.readSome V' s' E.rb E.S.size 1025 (o + p) n E.S pr E.hrb E.hne rfl E.hN hlt hn hr).mono ?_
    rintro e w' ⟨V2, f, rfl, rfl, hf, -, hK, hR, hO⟩
    have hf2 : ∀ k, k < n → f k = E.at (o + p + k) := fun k hk => by
      rw [hf k hk (by omega)]
      unfold Env.at
      rw [dif_pos (by omega)]
    refine ⟨V2, f, rfl, rfl, hf2, ?_, hK, ?_, fun k hk => by rw [hO k hk, hV]⟩
    · rw [hG]; dsimp only
      rw [if_neg (by omega), hf2 0 (by omega), Nat.add_zero, hx]
    · rw [hR]; simp
  have hfr1 : ∀ (U V' : Bs E.b), Kp E.B (some E.rb) V U → V'.1.heap = U.1.heap → ∀ s' : SS, s'.byte 0 = x → ∀ k, Calls Tryz.prog 60 #[.slice (some ⟨E.b, 1, none⟩) n 1025] ((St V' s').drewN k) fun e w' => e = .returned (.bool true) ∧ ((St V' s').drewN k) = w' := fun U V' hk hV s' hs k => by
    refine Pw.fullRune1 E.b 1 n 1025 x hx1 (by omega) (by omega) _ ?_ ?_
    · show (St V' s').cell? _ = _
      rw [hb0, hs]
    · show (St V' s').cell? _ = _
      rw [St.cell_other V' s' _ (by have := E.h6; have := E.hB; show 6 ≠ E.b; omega), World.cell?_of_block (w := U.1) (by rw [hV])]
      exact (h.tabs hk).2 x hx1
  have hg5 : decide ((n : Int) < 4) = true ∨ decide ((n : Int) < 4) = false := by cases decide ((n : Int) < 4) <;> simp
  have hn25 : (n : Int) ≤ 1025 := by omega
  have hn26 : n ≤ 1025 := by omega
  have HE := Lib.hid (And.intro hrd hfr1)
  have HG := Lib.hid hG
  rw [hx]
  have HX := Lib.hid hx
  clear h2b hrd hfr1 hG hx
  have HS := Lib.hid h
  clear h hoN hlt hn
  go_enter Tryz.func40, Tryz.ntmps40
  go_wp2
  go_region
  go_wp2
  refine wp_loop_rounds 2 ?_
  rw [rounds_succ]
  go_wp2
  go_quiet ((go_at_call 60; exact Calls.quiet_of_same ((hfr _ _ _).mono fun _ _ ⟨a, b⟩ => ⟨a, b.symm⟩)))
  rw [St.drewN]
  have hV1 : (V.drew.drewN nq).1.heap = V.1.heap := rfl
  have hK1 : Kp E.B none V (V.drew.drewN nq) := (Kp.drew V).trans (Kp.drewN _ nq)
  generalize V.drew.drewN nq = V1 at hV1 hK1 ⊢
  have HV1 := Lib.hid (And.intro hV1 hK1)
  clear hV1 hK1
  go_wp2
  have HKV := Lib.hid HV1.out.2
  obtain ⟨U, hU⟩ : ∃ U, U = V1 := ⟨_, rfl⟩
  subst hU
  go_region
  go_wp2
  go_region
  go_wp2
  go_region
  go_wp2
  go_region_with ((go_at_call 169; go_must (refine (HE.out.1 _ _ U HKV.out ?_).mono ?_; exact rfl; rintro e W ⟨V2, f, rfl, rfl, hf, hGf, hK2, hR2, hO2⟩; have HH2 := Lib.hid (And.intro hf (And.intro (Kp.via hK2 HKV.out.more rfl rfl rfl rfl) (And.intro hR2 hO2))); clear hf hK2 hR2 hO2)))
  go_wp2
  go_region
  go_wp2
  rw [rounds_succ]
  go_wp2
  rcases hg5 with hg6 | hg6
  all_goals
    go_quiet ((go_at_call 60; exact Calls.quiet_of_same ((HE.out.2 V2 V2.drew HH2.out.2.1 rfl _ hGf _).mono fun _ _ ⟨a, b⟩ => ⟨a, b.symm⟩)))
    rw [St.drewN]
    have hK3 : Kp E.B (some E.rb) V (V2.drew.drewN nq) := Kp.heap HH2.out.2.1 rfl rfl rfl rfl
    have hR3 : (V2.drew.drewN nq).1.heap = V2.1.heap := rfl
    generalize V2.drew.drewN nq = V3 at hK3 hR3 ⊢
    have HR3 := Lib.hid (And.intro hK3 hR3)
    clear hK3 hR3
    go_wp2
    go_region
    go_wp2
    go_ret
    refine ⟨_, f, rfl, congrArg (St _) ?_, HH2.out.1, fun k c hk h1 => ?_, by rw [← HH2.out.2.2.1]; exact congrArg (fun x : Array Obj => x[E.rb]?) HR3.out.2, Kp.heap HR3.out.1 rfl rfl rfl rfl⟩
    · rw [hsrc, HG.out, htok]
    · have hne : k ≠ E.rb := by
        rintro rfl
        obtain ⟨pr, hr⟩ := HS.out.row (Kp.refl V)
        rw [hr] at hk
        injection hk with hk
        injection hk with _ hk _
        exact absurd hk (by decide)
      show V3.1.heap[k]? = _
      rw [HR3.out.2, HH2.out.2.2.2 k hne]
      rw [HV1.out.1]
      exact hk
end Go.Proofs
namespace Go.Proofs
open Go Go.RowKit
set_option maxRecDepth 100000 in
set_option maxHeartbeats 1000000 in
theorem Pw.next_more_some (E : Env) (V : Bs E.b) (s : SS) (p o l t : Nat) (tok : Option Nat) (h : Sc E V s p p o l tok) (n : Nat)
    (hlt : o + p < E.S.size) (hn : n = min (E.S.size - (o + p)) 1024) (htok : s.tp = t) (htp : t ≤ p) (bs : List Value) (hbs : Bf E.B V s bs) (hone : ∀ v ∈ bs, v.oneCell' = true) (hbl : bs.length ≤ 1000000) :
    Calls Tryz.prog 40 #[.pointer (some ⟨E.b, 0, none⟩)] (St V s) fun e w' => ∃ (V' : Bs E.b) (f : Nat → Int) (v : Value) (lr : Int), e = .returned (.int .i32 (E.at (o + p))) ∧ w' = St V' { s with buf := v, boff := 0, blr := lr, tp := 0, byte := fun j => if j = n then 128 else f j, pos := 1, fin := n, off := o + p, lc := 1, col := s.col + 1 } ∧ (∀ k, k < n → f k = E.at (o + p + k)) ∧ (∃ U : Bs E.b, Bf E.B U { s with buf := v, boff := 0, blr := lr } (bs ++ E.cells (o + t) (p - t)) ∧ Kp E.B none V U ∧ ∀ k c, U.1.heap[k]? = some (.cells c 5 (0, 0)) → k ≠ E.b → V'.1.heap[k]? = some (.cells c 5 (0, 0))) ∧ V'.1.heap[E.rb]? = some (.cells #[.string E.S, .int .i64 ((o + p + n : Nat) : Int), .int .i64 (-1)] 96 (0, 0)) ∧ Kp E.B (some E.rb) V V' := by
  have hp := h.pos
  have hfin := h.fin
  have hoff := h.off
  have hsrc := h.src
  have hlc := h.lc
  have hcol0 := h.col0
  have hcol1 := h.col1
  have hf24 := h.f24
  have hN := E.hN
  have hl1 := h.l1
  have hoN := h.oN
  have hbyte : ∀ V : Bs E.b, (St V s).cell? ⟨E.b, 1 + p, none⟩ = some (.int .u8 128) := fun V => by rw [St.byteAt V s p (by omega), h.sent]
  have hop : (o : Int) + p ≤ 1000000 := by omega
  have hcc : s.col ≤ 4000000 := by omega
  have hg4 : decide ((p : Int) < p + 4) = true := decide_eq_true (by omega)
  have hw4 : IntKind.i64.wrap ((p : Int) + 4) = p + 4 := IntWalk.i64_in _ (by omega)
  have hp25 : (p : Int) ≤ 1025 := by omega
  have hp25n : p ≤ 1025 := by omega
  have hw44 : IntKind.i64.wrap 4 = 4 := by decide
  have hfr := Pw.fullRune0
  have hcp := Pw.copy0
  have hnil := Pw.nil_ahead
  have hmeth := Pw.method_read
  have h2b : 2 ≠ E.b := by have := E.h6; have := E.hB; omega
  have hn1 : 1 ≤ n := by omega
  have hn2 : n ≤ 1024 := by omega
  have hn3 : o + p + n ≤ E.S.size := by omega
  obtain ⟨x0, x1, x2⟩ := E.at_lt (i := o + p) (by omega)
  obtain ⟨x, hx⟩ : ∃ x : Nat, E.at (o + p) = x := ⟨(E.at (o + p)).toNat, by omega⟩
  have hx1 : x < 128 := by omega
  have t0 : ((x : Int) == 0) = false := by simp; omega
  have t1 : ((x : Int) == 10) = false := by simp; omega
  have t2 : ((n : Int) == 0) = false := by simp; omega
  obtain ⟨G, hG⟩ : ∃ G : (Nat → Int) → Nat → Int, G = fun f j => if j = n then 128 else f j := ⟨_, rfl⟩
  have hb0 : ∀ (V : Bs E.b) s, (St V s).cell? ⟨E.b, 1, none⟩ = some (.int .u8 (s.byte 0)) := fun V s => St.byteAt V s 0 (by decide)
  have hbn : ∀ (V : Bs E.b) s, (St V s).cell? ⟨E.b, 1 + n, none⟩ = some (.int .u8 (s.byte n)) := fun V s => St.byteAt V s n (by omega)
  have hb1 : ∀ (V : Bs E.b) s, (St V s).setCell ⟨E.b, 1 + n, none⟩ (.int .u8 128) = St V { s with byte := G s.byte } := fun V s => by rw [hG]; exact St.set_byte V s n (by omega) 128
  have hrd : ∀ (V' : Bs E.b) (s' : SS) (U : Bs E.b) (hk : Kp E.B none V U) (hV : V'.1.heap = U.1.heap), Calls Tryz.prog 169 #[.pointer (some ⟨E.rb, 0, none⟩), .slice (some ⟨E.b, 1, none⟩) 1024 1025] (St V' s') fun e w' => ∃ (V2 : Bs E.b) (f : Nat → Int), e = .returned (.tuple #[.int .i64 n, .nilIface]) ∧ w' = St V2 { s' with byte := f } ∧
      (∀ k, k < n → f k = E.at (o + p + k)) ∧ G f 0 = x ∧ Kp E.B (some E.rb) V' V2 ∧ V2.1.heap[E.rb]? = some (.cells #[.string E.S, .int .i64 ((o + p + n : Nat) : Int), .int .i64 (-1)] 96 (0, 0)) ∧ (∀ k, k ≠ E.rb → V2.1.heap[k]? = U.1.heap[k]?) := fun V' s' U hk hV => by
    obtain ⟨pr, hr⟩ := h.row hk
    rw [← hV] at hr
    refine (Pw.readSome V' s' E.rb E.S.size 1025 (o + p) n E.S pr E.hrb E.hne rfl E.hN hlt hn hr).mono ?_
    rintro e w' ⟨V2, f, rfl, rfl, hf, -, hK, hR, hO⟩
    have hf2 : ∀ k, k < n → f k = E.at (o + p + k) := fun k hk => by
      rw [hf k hk (by omega)]
      unfold Env.at
      rw [dif_pos (by omega)]
    refine ⟨V2, f, rfl, rfl, hf2, ?_, hK, ?_, fun k hk => by rw [hO k hk, hV]⟩
    · rw [hG]; dsimp only
      rw [if_neg (by omega), hf2 0 (by omega), Nat.add_zero, hx]
    · rw [hR]; simp
  have hfr1 : ∀ (U V' : Bs E.b), Kp E.B (some E.rb) V U → V'.1.heap = U.1.heap → ∀ s' : SS, s'.byte 0 = x → ∀ k, Calls Tryz.prog 60 #[.slice (some ⟨E.b, 1, none⟩) n 1025] ((St V' s').drewN k) fun e w' => e = .returned (.bool true) ∧ ((St V' s').drewN k) = w' := fun U V' hk hV s' hs k => by
    refine Pw.fullRune1 E.b 1 n 1025 x hx1 (by omega) (by omega) _ ?_ ?_
    · show (St V' s').cell? _ = _
      rw [hb0, hs]
    · show (St V' s').cell? _ = _
      rw [St.cell_other V' s' _ (by have := E.h6; have := E.hB; show 6 ≠ E.b; omega), World.cell?_of_block (w := U.1) (by rw [hV])]
      exact (h.tabs hk).2 x hx1
  have hg5 : decide ((n : Int) < 4) = true ∨ decide ((n : Int) < 4) = false := by cases decide ((n : Int) < 4) <;> simp
  have hn25 : (n : Int) ≤ 1025 := by omega
  have hn26 : n ≤ 1025 := by omega
  have HE := Lib.hid (And.intro hrd hfr1)
  have HG := Lib.hid hG
  rw [hx]
  have HX := Lib.hid hx
  clear h2b hrd hfr1 hG hx
  have hgt : decide (0 ≤ (t : Int)) = true := decide_eq_true (by omega)
  have htp1 : (t : Int) ≤ p := by omega
  have ht25 : ¬ (1025 = t) := by omega
  have hwr : ∀ (V' : Bs E.b) (hV : V'.1.heap = V.1.heap), Calls Tryz.prog 51 #[.pointer (some ⟨E.b, 1033, none⟩), .slice (some ⟨E.b, 1 + t, none⟩) (p - t) (1025 - t)] (St V' s) _ := fun V' hV =>
    Pw.stWrite (B := E.B) V' s bs (E.cells (o + t) (p - t)) t (p - t) (1025 - t) E.hB (hbs.world fun k c hk _ => by rw [hV]; exact hk) hone (Env.cells_length _ _ _) (by omega) (fun j v hj => by
      obtain ⟨hj1, rfl⟩ := Env.cells_get E hj
      rw [h.bytes (t + j) (by omega)]
      congr 2
      omega) (by omega)
  have HW := Lib.hid hwr
  clear hwr
  have HS := Lib.hid h
  clear h hoN hlt hn hbs hone hbl
  go_enter Tryz.func40, Tryz.ntmps40
  go_wp2
  go_region
  go_wp2
  refine wp_loop_rounds 2 ?_
  rw [rounds_succ]
  go_wp2
  go_quiet ((go_at_call 60; exact Calls.quiet_of_same ((hfr _ _ _).mono fun _ _ ⟨a, b⟩ => ⟨a, b.symm⟩)))
  rw [St.drewN]
  have hV1 : (V.drew.drewN nq).1.heap = V.1.heap := rfl
  have hK1 : Kp E.B none V (V.drew.drewN nq) := (Kp.drew V).trans (Kp.drewN _ nq)
  generalize V.drew.drewN nq = V1 at hV1 hK1 ⊢
  have HV1 := Lib.hid (And.intro hV1 hK1)
  clear hV1 hK1
  go_wp2
  refine Pw.stillTail 15 (by kernel_rfl) (by kernel_rfl) ?_
  simp only [List.take_succ_cons, List.take_zero, List.drop_succ_cons, List.drop_zero]
  repeat still_step
  refine wpStill_nil ?_
  rw [St.drew]
  go_wp2_with (go_at_call 51; go_must (refine (HW.out _ ?_).mono ?_; exact HV1.out.1; rintro e W ⟨U, v, lr, rfl, rfl, hBf, hKU⟩; have HU := Lib.hid (And.intro hBf hKU); clear hBf hKU))
  have hKV : Kp E.B none V U := HV1.out.2.trans ((Kp.drew V1).trans HU.out.2)
  have HKV := Lib.hid hKV
  clear hKV
  go_wp2
  go_region
  go_wp2
  go_region
  go_wp2
  go_region
  go_wp2
  go_region_with ((go_at_call 169; go_must (refine (HE.out.1 _ _ U HKV.out ?_).mono ?_; exact rfl; rintro e W ⟨V2, f, rfl, rfl, hf, hGf, hK2, hR2, hO2⟩; have HH2 := Lib.hid (And.intro hf (And.intro (Kp.via hK2 HKV.out.more rfl rfl rfl rfl) (And.intro hR2 hO2))); clear hf hK2 hR2 hO2)))
  go_wp2
  go_region
  go_wp2
  rw [rounds_succ]
  go_wp2
  rcases hg5 with hg6 | hg6
  all_goals
    go_quiet ((go_at_call 60; exact Calls.quiet_of_same ((HE.out.2 V2 V2.drew HH2.out.2.1 rfl _ hGf _).mono fun _ _ ⟨a, b⟩ => ⟨a, b.symm⟩)))
    rw [St.drewN]
    have hK3 : Kp E.B (some E.rb) V (V2.drew.drewN nq) := Kp.heap HH2.out.2.1 rfl rfl rfl rfl
    have hR3 : (V2.drew.drewN nq).1.heap = V2.1.heap := rfl
    generalize V2.drew.drewN nq = V3 at hK3 hR3 ⊢
    have HR3 := Lib.hid (And.intro hK3 hR3)
    clear hK3 hR3
    go_wp2
    go_region
    go_wp2
    go_ret
    refine ⟨_, f, v, lr, rfl, congrArg (St _) ?_, HH2.out.1, ⟨U, HU.out.1, HKV.out, fun k c hk h1 => ?_⟩, by rw [← HH2.out.2.2.1]; exact congrArg (fun x : Array Obj => x[E.rb]?) HR3.out.2, Kp.heap HR3.out.1 rfl rfl rfl rfl⟩
    · rw [hsrc, HG.out]
    · have hne : k ≠ E.rb := by
        rintro rfl
        obtain ⟨pr, hr⟩ := HS.out.row HKV.out
        rw [hr] at hk
        injection hk with hk
        injection hk with _ hk _
        exact absurd hk (by decide)
      show V3.1.heap[k]? = _
      rw [HR3.out.2, HH2.out.2.2.2 k hne]
      exact hk
end Go.Proofs

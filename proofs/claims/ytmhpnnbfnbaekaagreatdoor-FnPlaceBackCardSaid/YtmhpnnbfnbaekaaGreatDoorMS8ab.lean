/- Part of the proof of FnPlaceBack: walk: the scanner's next, its slow way. No condition. -/
import Derived.Test.YtmhpnnbfnbaekaaGreatDoorMS678
namespace Go.Proofs
open Go Go.RowKit
set_option maxRecDepth 100000 in
set_option maxHeartbeats 1000000 in
theorem Pw.next_end_none (E : Env) (V : Bs E.b) (s : SS) (p o l : Nat) (tok : Option Nat) (h : Sc E V s p p o l tok)
    (hend : o + p = E.S.size) (htok : s.tp = -1) :
    Calls Tryz.prog 40 #[.pointer (some ⟨E.b, 0, none⟩)] (St V s) fun e w' => ∃ (V' : Bs E.b) (c : Int), e = .returned (.int .i32 (-1)) ∧ w' = St V' { s with byte := fun j => if j = 0 then 128 else s.byte j, pos := 0, fin := 0, off := o + p, lc := 0, col := c } ∧ 0 ≤ c ∧ c ≤ s.col + l ∧ (∀ k c, V.1.heap[k]? = some (.cells c 5 (0, 0)) → k ≠ E.b → V'.1.heap[k]? = some (.cells c 5 (0, 0))) ∧ Kp E.B none V V' := by
  have hp := h.pos
  have hfin := h.fin
  have hoff := h.off
  have hsrc := h.src
  have hlc := h.lc
  have hcol0 := h.col0
  have hcol1 := h.col1
  have hf24 := h.f24
  have hN := E.hN
  have hl1 := h.l1
  have hoN := h.oN
  have hbyte : ∀ V : Bs E.b, (St V s).cell? ⟨E.b, 1 + p, none⟩ = some (.int .u8 128) := fun V => by rw [St.byteAt V s p (by omega), h.sent]
  have hop : (o : Int) + p ≤ 1000000 := by omega
  have hcc : s.col ≤ 4000000 := by omega
  have hg4 : decide ((p : Int) < p + 4) = true := decide_eq_true (by omega)
  have hw4 : IntKind.i64.wrap ((p : Int) + 4) = p + 4 := IntWalk.i64_in _ (by omega)
  have hp25 : (p : Int) ≤ 1025 := by omega
  have hp25n : p ≤ 1025 := by omega
  have hw44 : IntKind.i64.wrap 4 = 4 := by decide
  have hfr := Pw.fullRune0
  have hcp := Pw.copy0
  have hnil := Pw.nil_ahead
  have hmeth := Pw.method_read
  have h2b : 2 ≠ E.b := by have := E.h6; have := E.hB; omega
  have hneq := Pw.neq_eof E.eof
  have hb0 : ∀ (V : Bs E.b) s, (St V s).cell? ⟨E.b, 1, none⟩ = some (.int .u8 (s.byte 0)) := fun V s => St.byteAt V s 0 (by decide)
  have hb1 : ∀ (V : Bs E.b) s v, (St V s).setCell ⟨E.b, 1, none⟩ (.int .u8 v) = St V { s with byte := fun j => if j = 0 then v else s.byte j } := fun V s v => St.set_byte V s 0 (by decide) v
  have h2c : ∀ (V : Bs E.b) s, (St V s).cell? ⟨2, 0, none⟩ = V.1.cell? ⟨2, 0, none⟩ := fun V s => St.cell_other V s _ h2b
  have he2 : ∀ U : Bs E.b, Kp E.B none V U → ∀ V' : Bs E.b, V'.1.heap = U.1.heap → V'.1.cell? ⟨2, 0, none⟩ = some (.iface 183 (.pointer (some E.eof))) := fun U k V' e => by
    rw [World.cell?_of_block (w := U.1) (by rw [e])]
    exact (h.tabs k).1
  have hrd : ∀ (V' : Bs E.b) (s' : SS) (U : Bs E.b) (hk : Kp E.B none V U) (hV : V'.1.heap = U.1.heap), Calls Tryz.prog 169 #[.pointer (some ⟨E.rb, 0, none⟩), .slice (some ⟨E.b, 1, none⟩) 1024 1025] (St V' s') _ := fun V' s' U hk hV => by
    obtain ⟨pr, hr⟩ := h.row hk
    rw [hend, ← hV] at hr
    exact Pw.readEnd (B := E.B) V' s' E.rb E.S.size 1025 E.S (.iface 183 (.pointer (some E.eof))) E.hne h2b rfl E.hN (cell_of_row _ _ _ _ _ _ hr) (cell_of_row _ _ _ _ _ _ hr) (he2 U hk V' hV)
  have HE := Lib.hid (And.intro hrd he2)
  clear h2b hrd he2
  have HS := Lib.hid h
  clear h hoN hend
  go_enter Tryz.func40, Tryz.ntmps40
  go_wp2
  go_region
  go_wp2
  refine wp_loop_rounds 2 ?_
  rw [rounds_succ]
  go_wp2
  go_quiet ((go_at_call 60; exact Calls.quiet_of_same ((hfr _ _ _).mono fun _ _ ⟨a, b⟩ => ⟨a, b.symm⟩)))
  rw [St.drewN]
  have hV1 : (V.drew.drewN nq).1.heap = V.1.heap := rfl
  have hK1 : Kp E.B none V (V.drew.drewN nq) := (Kp.drew V).trans (Kp.drewN _ nq)
  generalize V.drew.drewN nq = V1 at hV1 hK1 ⊢
  have HV1 := Lib.hid (And.intro hV1 hK1)
  clear hV1 hK1
  go_wp2
  have HKV := Lib.hid HV1.out.2
  obtain ⟨U, hU⟩ : ∃ U, U = V1 := ⟨_, rfl⟩
  subst hU
  go_region
  go_wp2
  go_region
  go_wp2
  go_region
  go_wp2
  go_region_with ((go_at_call 169; go_must (refine (HE.out.1 _ _ U HKV.out ?_).mono ?_; exact rfl; rintro e W ⟨V2, rfl, rfl, hK2, hh2⟩; have he2 := HE.out.2 U HKV.out V2 (Eq.trans hh2 rfl); have HH2 := Lib.hid (And.intro hh2 (Kp.via hK2 HKV.out rfl rfl rfl rfl)); clear hh2 hK2)))
  go_wp2
  go_region
  go_wp2
  · go_ret
    refine ⟨_, s.col + 1, rfl, congrArg (St _) ?_, by omega, by omega, fun k c hk h1 => ?_, Kp.heap HH2.out.2 rfl rfl rfl rfl⟩
    · rw [hsrc, htok]
    · show V2.1.heap[k]? = _
      rw [HH2.out.1]
      show U.1.heap[k]? = _
      rw [HV1.out.1]
      exact hk
  · go_ret
    refine ⟨_, s.col, rfl, congrArg (St _) ?_, by omega, by omega, fun k c hk h1 => ?_, Kp.heap HH2.out.2 rfl rfl rfl rfl⟩
    · rw [hsrc, htok]
    · show V2.1.heap[k]? = _
      rw [HH2.out.1]
      show U.1.heap[k]? = _
      rw [HV1.out.1]
      exact hk
end Go.Proofs
namespace Go.Proofs
open Go Go.RowKit
set_option maxRecDepth 100000 in
set_option maxHeartbeats 1000000 in
theorem Pw.next_end_some (E : Env) (V : Bs E.b) (s : SS) (p o l t : Nat) (tok : Option Nat) (h : Sc E V s p p o l tok)
    (hend : o + p = E.S.size) (htok : s.tp = t) (htp : t ≤ p) (bs : List Value) (hbs : Bf E.B V s bs) (hone : ∀ v ∈ bs, v.oneCell' = true) (hbl : bs.length ≤ 1000000) :
    Calls Tryz.prog 40 #[.pointer (some ⟨E.b, 0, none⟩)] (St V s) fun e w' => ∃ (V' : Bs E.b) (c : Int) (v : Value) (lr : Int), e = .returned (.int .i32 (-1)) ∧ w' = St V' { s with buf := v, boff := 0, blr := lr, tp := 0, byte := fun j => if j = 0 then 128 else s.byte j, pos := 0, fin := 0, off := o + p, lc := 0, col := c } ∧ 0 ≤ c ∧ c ≤ s.col + l ∧ (∃ U : Bs E.b, Bf E.B U { s with buf := v, boff := 0, blr := lr } (bs ++ E.cells (o + t) (p - t)) ∧ Kp E.B none V U ∧ ∀ k c, U.1.heap[k]? = some (.cells c 5 (0, 0)) → k ≠ E.b → V'.1.heap[k]? = some (.cells c 5 (0, 0))) ∧ Kp E.B none V V' := by
  have hp := h.pos
  have hfin := h.fin
  have hoff := h.off
  have hsrc := h.src
  have hlc := h.lc
  have hcol0 := h.col0
  have hcol1 := h.col1
  have hf24 := h.f24
  have hN := E.hN
  have hl1 := h.l1
  have hoN := h.oN
  have hbyte : ∀ V : Bs E.b, (St V s).cell? ⟨E.b, 1 + p, none⟩ = some (.int .u8 128) := fun V => by rw [St.byteAt V s p (by omega), h.sent]
  have hop : (o : Int) + p ≤ 1000000 := by omega
  have hcc : s.col ≤ 4000000 := by omega
  have hg4 : decide ((p : Int) < p + 4) = true := decide_eq_true (by omega)
  have hw4 : IntKind.i64.wrap ((p : Int) + 4) = p + 4 := IntWalk.i64_in _ (by omega)
  have hp25 : (p : Int) ≤ 1025 := by omega
  have hp25n : p ≤ 1025 := by omega
  have hw44 : IntKind.i64.wrap 4 = 4 := by decide
  have hfr := Pw.fullRune0
  have hcp := Pw.copy0
  have hnil := Pw.nil_ahead
  have hmeth := Pw.method_read
  have h2b : 2 ≠ E.b := by have := E.h6; have := E.hB; omega
  have hneq := Pw.neq_eof E.eof
  have hb0 : ∀ (V : Bs E.b) s, (St V s).cell? ⟨E.b, 1, none⟩ = some (.int .u8 (s.byte 0)) := fun V s => St.byteAt V s 0 (by decide)
  have hb1 : ∀ (V : Bs E.b) s v, (St V s).setCell ⟨E.b, 1, none⟩ (.int .u8 v) = St V { s with byte := fun j => if j = 0 then v else s.byte j } := fun V s v => St.set_byte V s 0 (by decide) v
  have h2c : ∀ (V : Bs E.b) s, (St V s).cell? ⟨2, 0, none⟩ = V.1.cell? ⟨2, 0, none⟩ := fun V s => St.cell_other V s _ h2b
  have he2 : ∀ U : Bs E.b, Kp E.B none V U → ∀ V' : Bs E.b, V'.1.heap = U.1.heap → V'.1.cell? ⟨2, 0, none⟩ = some (.iface 183 (.pointer (some E.eof))) := fun U k V' e => by
    rw [World.cell?_of_block (w := U.1) (by rw [e])]
    exact (h.tabs k).1
  have hrd : ∀ (V' : Bs E.b) (s' : SS) (U : Bs E.b) (hk : Kp E.B none V U) (hV : V'.1.heap = U.1.heap), Calls Tryz.prog 169 #[.pointer (some ⟨E.rb, 0, none⟩), .slice (some ⟨E.b, 1, none⟩) 1024 1025] (St V' s') _ := fun V' s' U hk hV => by
    obtain ⟨pr, hr⟩ := h.row hk
    rw [hend, ← hV] at hr
    exact Pw.readEnd (B := E.B) V' s' E.rb E.S.size 1025 E.S (.iface 183 (.pointer (some E.eof))) E.hne h2b rfl E.hN (cell_of_row _ _ _ _ _ _ hr) (cell_of_row _ _ _ _ _ _ hr) (he2 U hk V' hV)
  have HE := Lib.hid (And.intro hrd he2)
  clear h2b hrd he2
  have hgt : decide (0 ≤ (t : Int)) = true := decide_eq_true (by omega)
  have htp1 : (t : Int) ≤ p := by omega
  have ht25 : ¬ (1025 = t) := by omega
  have hwr : ∀ (V' : Bs E.b) (hV : V'.1.heap = V.1.heap), Calls Tryz.prog 51 #[.pointer (some ⟨E.b, 1033, none⟩), .slice (some ⟨E.b, 1 + t, none⟩) (p - t) (1025 - t)] (St V' s) _ := fun V' hV =>
    Pw.stWrite (B := E.B) V' s bs (E.cells (o + t) (p - t)) t (p - t) (1025 - t) E.hB (hbs.world fun k c hk _ => by rw [hV]; exact hk) hone (Env.cells_length _ _ _) (by omega) (fun j v hj => by
      obtain ⟨hj1, rfl⟩ := Env.cells_get E hj
      rw [h.bytes (t + j) (by omega)]
      congr 2
      omega) (by omega)
  have HW := Lib.hid hwr
  clear hwr
  have HS := Lib.hid h
  clear h hoN hend hbs hone hbl
  go_enter Tryz.func40, Tryz.ntmps40
  go_wp2
  go_region
  go_wp2
  refine wp_loop_rounds 2 ?_
  rw [rounds_succ]
  go_wp2
  go_quiet ((go_at_call 60; exact Calls.quiet_of_same ((hfr _ _ _).mono fun _ _ ⟨a, b⟩ => ⟨a, b.symm⟩)))
  rw [St.drewN]
  have hV1 : (V.drew.drewN nq).1.heap = V.1.heap := rfl
  have hK1 : Kp E.B none V (V.drew.drewN nq) := (Kp.drew V).trans (Kp.drewN _ nq)
  generalize V.drew.drewN nq = V1 at hV1 hK1 ⊢
  have HV1 := Lib.hid (And.intro hV1 hK1)
  clear hV1 hK1
  go_wp2
  refine Pw.stillTail 15 (by kernel_rfl) (by kernel_rfl) ?_
  simp only [List.take_succ_cons, List.take_zero, List.drop_succ_cons, List.drop_zero]
  repeat still_step
  refine wpStill_nil ?_
  rw [St.drew]
  go_wp2_with (go_at_call 51; go_must (refine (HW.out _ ?_).mono ?_; exact HV1.out.1; rintro e W ⟨U, v, lr, rfl, rfl, hBf, hKU⟩; have HU := Lib.hid (And.intro hBf hKU); clear hBf hKU))
  have hKV : Kp E.B none V U := HV1.out.2.trans ((Kp.drew V1).trans HU.out.2)
  have HKV := Lib.hid hKV
  clear hKV
  go_wp2
  go_region
  go_wp2
  go_region
  go_wp2
  go_region
  go_wp2
  go_region_with ((go_at_call 169; go_must (refine (HE.out.1 _ _ U HKV.out ?_).mono ?_; exact rfl; rintro e W ⟨V2, rfl, rfl, hK2, hh2⟩; have he2 := HE.out.2 U HKV.out V2 (Eq.trans hh2 rfl); have HH2 := Lib.hid (And.intro hh2 (Kp.via hK2 HKV.out rfl rfl rfl rfl)); clear hh2 hK2)))
  go_wp2
  go_region
  go_wp2
  · go_ret
    refine ⟨_, s.col + 1, v, lr, rfl, congrArg (St _) ?_, by omega, by omega, ⟨U, HU.out.1, HKV.out, fun k c hk h1 => ?_⟩, Kp.heap HH2.out.2 rfl rfl rfl rfl⟩
    · rw [hsrc]
    · show V2.1.heap[k]? = _
      rw [HH2.out.1]
      exact hk
  · go_ret
    refine ⟨_, s.col, v, lr, rfl, congrArg (St _) ?_, by omega, by omega, ⟨U, HU.out.1, HKV.out, fun k c hk h1 => ?_⟩, Kp.heap HH2.out.2 rfl rfl rfl rfl⟩
    · rw [hsrc]
    · show V2.1.heap[k]? = _
      rw [HH2.out.1]
      exact hk
end Go.Proofs

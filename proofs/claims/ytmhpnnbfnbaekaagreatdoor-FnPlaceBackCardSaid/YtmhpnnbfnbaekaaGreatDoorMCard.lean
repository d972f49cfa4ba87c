/- PROVED: FnPlaceBack, its tied card (Rows.FnPlaceBackCardSaid): for every place the law returns true, and the place reads as it did. Conditions: the row's own alone: the listed package variables read as the row lays them when the call begins (the card ties them to the program's text). -/
import Derived.Test.YtmhpnnbfnbaekaaGreatDoorMS33
import Derived.Test.YtmhpnnbfnbaekaaGreatDoorRows
import Derived.Test.YtmhpnnbfnbaekaaGreatDoorCards
import Derived.Test.YtmhpnnbfnbaekaaGreatDoorTie
import Derived.ProofKit
import Derived.OpenShut
import Derived.LaidMore
import Derived.Lay
import Derived.SevenTiedAt
import Derived.LaidOnce
import Derived.Stop.Joined
import Derived.ChangeArms
import Derived.Laws.Cover2
import Derived.Deep.Fields
namespace Go.Proofs.YtmhpnnbfnbaekaaGreatDoor
open Go Go.ChangeShapes Go.WideShapes Go.ChangeAt Go.RowKit Go.Deep
namespace Pl
section
variable {H : Type} {enc : TypeId × Value → H} {P : Program} {w : World} {base : Nat} {spare : Nat → Bool} {held : Bool}
theorem trod_float {fuel : Nat} {t : TypeId} {cs : List Value} {x : DataW H × List MemPlace} {k : FloatKind} (ht : P.underlying t = some (.float k)) (h : DataW.trod enc P w base spare held fuel t cs = some x) :
    ∃ n, cs = [.float k n] ∧ x = (.lit (.float k n), []) ∧ (Lit.float k n).wf = true := by
  cases fuel with
  | zero => simp [DataW.trod] at h
  | succ n =>
    unfold DataW.trod at h
    rw [ht] at h
    split at h <;> simp_all
theorem array5 {α : Type} {cs : Array α} (h : cs.size = 5) : ∃ c0 c1 c2 c3 c4, cs = #[c0, c1, c2, c3, c4] := by
  obtain ⟨l⟩ := cs
  match l, h with
  | [c0, c1, c2, c3, c4], _ => exact ⟨c0, c1, c2, c3, c4, rfl⟩
/-- A place, opened: four floats and a whole number. -/
theorem opened {r : Reach} {b0 : Nat} {t : TypeId} {f0 f1 f2 f3 f4 : Field} {v : Value} {d : DataW H} {p : List MemPlace} (hs : P.underlying t = some (.struct #[f0, f1, f2, f3, f4])) (hone : oneCellFields P #[f0, f1, f2, f3, f4] = true) (hC : P.cellsOf t = 5)
    (h0 : P.underlying f0.type = some (.float .f64)) (h1 : P.underlying f1.type = some (.float .f64)) (h2 : P.underlying f2.type = some (.float .f64)) (h3 : P.underlying f3.type = some (.float .f64)) (h4 : P.underlying f4.type = some (.int .i64))
    (hv : Value.okWide P w r b0 t v) (h : DataW.Trod enc P w base spare held t v d p) :
    ∃ (x y z m : Nat) (k : Int), v = .agg #[.float .f64 x, .float .f64 y, .float .f64 z, .float .f64 m, .int .i64 k] ∧ d = .agg [.lit (.float .f64 x), .lit (.float .f64 y), .lit (.float .f64 z), .lit (.float .f64 m), .lit (.int .i64 k)] ∧ p = [] ∧
      (Lit.float .f64 x).wf = true ∧ (Lit.float .f64 y).wf = true ∧ (Lit.float .f64 z).wf = true ∧ (Lit.float .f64 m).wf = true ∧ (Lit.int .i64 k).wf = true := by
  obtain ⟨cs, rfl, hsz⟩ := okWide_struct hs hv
  obtain ⟨c0, c1, c2, c3, c4, rfl⟩ := array5 (hsz.trans hC)
  obtain ⟨fuel, hf⟩ := h
  obtain ⟨xs, n, _, hx, hl, hlen, hel⟩ := DataW.trod_struct hs hf
  obtain ⟨o0, k0⟩ := hone_of hone 0 f0 rfl
  obtain ⟨o1, k1⟩ := hone_of hone 1 f1 rfl
  obtain ⟨o2, k2⟩ := hone_of hone 2 f2 rfl
  obtain ⟨o3, k3⟩ := hone_of hone 3 f3 rfl
  obtain ⟨o4, k4⟩ := hone_of hone 4 f4 rfl
  match xs, hlen with
  | [y0, y1, y2, y3, y4], _ =>
    obtain ⟨a0, e0, q0, w0⟩ := trod_float h0 (by simpa [Value.cells, o0, k0] using hel 0 f0 rfl)
    obtain ⟨a1, e1, q1, w1⟩ := trod_float h1 (by simpa [Value.cells, o1, k1] using hel 1 f1 rfl)
    obtain ⟨a2, e2, q2, w2⟩ := trod_float h2 (by simpa [Value.cells, o2, k2] using hel 2 f2 rfl)
    obtain ⟨a3, e3, q3, w3⟩ := trod_float h3 (by simpa [Value.cells, o3, k3] using hel 3 f3 rfl)
    obtain ⟨a4, e4, q4, w4⟩ := DataW.trod_int h4 (by simpa [Value.cells, o4, k4] using hel 4 f4 rfl)
    obtain rfl := (List.cons.inj e0).1
    obtain rfl := (List.cons.inj e1).1
    obtain rfl := (List.cons.inj e2).1
    obtain rfl := (List.cons.inj e3).1
    obtain rfl := (List.cons.inj e4).1
    subst q0; subst q1; subst q2; subst q3; subst q4
    simp only [Prod.mk.injEq] at hx
    exact ⟨a0, a1, a2, a3, a4, rfl, hx.1, by simpa using hx.2, w0, w1, w2, w3, w4⟩
theorem shut {t : TypeId} {f0 f1 f2 f3 f4 : Field} {x y z m : Nat} {k : Int} (hs : P.underlying t = some (.struct #[f0, f1, f2, f3, f4])) (hone : oneCellFields P #[f0, f1, f2, f3, f4] = true) (hC : P.cellsOf t = 5)
    (h0 : P.underlying f0.type = some (.float .f64)) (h1 : P.underlying f1.type = some (.float .f64)) (h2 : P.underlying f2.type = some (.float .f64)) (h3 : P.underlying f3.type = some (.float .f64)) (h4 : P.underlying f4.type = some (.int .i64))
    (w0 : (Lit.float .f64 x).wf = true) (w1 : (Lit.float .f64 y).wf = true) (w2 : (Lit.float .f64 z).wf = true) (w3 : (Lit.float .f64 m).wf = true) (w4 : (Lit.int .i64 k).wf = true) :
    DataW.Trod enc P w base spare held t (.agg #[.float .f64 x, .float .f64 y, .float .f64 z, .float .f64 m, .int .i64 k]) (.agg [.lit (.float .f64 x), .lit (.float .f64 y), .lit (.float .f64 z), .lit (.float .f64 m), .lit (.int .i64 k)]) [] := by
  obtain ⟨o0, k0⟩ := hone_of hone 0 f0 rfl
  obtain ⟨o1, k1⟩ := hone_of hone 1 f1 rfl
  obtain ⟨o2, k2⟩ := hone_of hone 2 f2 rfl
  obtain ⟨o3, k3⟩ := hone_of hone 3 f3 rfl
  obtain ⟨o4, k4⟩ := hone_of hone 4 f4 rfl
  have a0 : DataW.trod enc P w base spare held 1 f0.type [.float .f64 x] = some (.lit (.float .f64 x), []) := by simp [DataW.trod, h0, w0]
  have a1 : DataW.trod enc P w base spare held 1 f1.type [.float .f64 y] = some (.lit (.float .f64 y), []) := by simp [DataW.trod, h1, w1]
  have a2 : DataW.trod enc P w base spare held 1 f2.type [.float .f64 z] = some (.lit (.float .f64 z), []) := by simp [DataW.trod, h2, w2]
  have a3 : DataW.trod enc P w base spare held 1 f3.type [.float .f64 m] = some (.lit (.float .f64 m), []) := by simp [DataW.trod, h3, w3]
  have a4 : DataW.trod enc P w base spare held 1 f4.type [.int .i64 k] = some (.lit (.int .i64 k), []) := by simp [DataW.trod, h4, w4]
  have := trod_struct_mk (enc := enc) (w := w) (base := base) (spare := spare) (held := held) (n := 1) (cs := [.float .f64 x, .float .f64 y, .float .f64 z, .float .f64 m, .int .i64 k])
    (xs := [(.lit (.float .f64 x), []), (.lit (.float .f64 y), []), (.lit (.float .f64 z), []), (.lit (.float .f64 m), []), (.lit (.int .i64 k), [])]) hs (by simp [hC])
    (by simp [o0, o1, o2, o3, o4, k0, k1, k2, k3, k4, a0, a1, a2, a3, a4])
  exact ⟨2, by simpa [Value.cells] using this⟩
end
theorem float_lt {b : Nat} (h : (Lit.float .f64 b).wf = true) : b < 18446744073709551616 := by
  simpa [Lit.wf] using h
theorem own : ownKnob Tryz.prog.godebug = none := by kernel_rfl
theorem frame {W W' : World} (h : W.grownBy W' none) (may : MemPlace → Prop) : W.keptBut W' may :=
  Below.frame ⟨h.os, h.tape, h.output, h.size, fun k hk => h.block k hk (by simp)⟩ may
set_option maxRecDepth 100000 in
theorem lifted (os : Os) (started : os.Started) (H : Type) (enc : TypeId × Value → H) :
    ReturnsInHanded {} Tryz.checked os 3 .any (fun w args => (Rows.fnPlaceBackSpec.pre enc Tryz.prog Tryz.f3 [] false w args ∧ laidMetH Tryz.prog Rows.fnPlaceBackRow.laid w) ∧ sizedMet enc Tryz.prog Tryz.f3 (OpenSpec.ofChange Rows.fnPlaceBackSpec) false w args)
      (Rows.fnPlaceBackSpec.post enc Tryz.prog Tryz.f3 false true false false) := by
  refine returnsInHanded_of_change_and (C := Tryz.checked) (X := fun w _ => laidMetH Tryz.prog Rows.fnPlaceBackRow.laid w) (fun _ _ _ hh h => h.of_heap hh) own started (by kernel_rfl) Tryz.func3
    (ChangeSpec.witness_shaped (enc := enc) (C := Tryz.checked) (os := os) (X := fun w _ => laidMetH Tryz.prog Rows.fnPlaceBackRow.laid w) false (World.laidAll Tryz.prog os Rows.fnPlaceBackRow.laid) #[.agg #[.float .f64 0, .float .f64 0, .float .f64 0, .float .f64 0, .int .i64 0]] 8 (World.laidAll_os _ _ _)
      (World.shaped_of_ZipB (by kernel_rfl) (by kernel_rfl)) (by kernel_rfl) (by kernel_rfl) (by kernel_rfl)
      (by rw [MakeChecks.laidMetH_plain _ _ _ (by kernel_rfl)]; exact laidMet_laidAll _ (by kernel_rfl) (by kernel_rfl))) ?_
  intro W base args ds gs before hval0 hW _ _ hL _
  have hval : ∀ (j : Nat) t v, Tryz.f3.params[j]? = some t → args[j]? = some v → Value.okWide Tryz.prog W .any base t v := hval0
  have hW' := hW
  obtain ⟨p, q, hA0, hV, rfl, _, _⟩ := hW
  have hA : DataW.TrodAll enc Tryz.prog W 0 (fun _ => true) true Tryz.f3.params.toList args.toList ds p := hA0
  rw [Tryz.params3] at hA hval
  obtain ⟨v0, d0, rfl, rfl, h0⟩ := trodAll_one hA
  obtain ⟨rfl, rfl⟩ := trodVars_none hV
  have hone : ∀ fs, Tryz.prog.underlying 24 = some (.struct fs) → oneCellFields Tryz.prog fs = true := fun fs e => by
    rw [Tryz.underlying24] at e
    cases e
    kernel_rfl
  obtain ⟨x, y, z, m, t, rfl, rfl, rfl, wx, wy, wz, wm, wt⟩ := opened Tryz.underlying24 (hone _ Tryz.underlying24) (by kernel_rfl) Tryz.underlying22 Tryz.underlying22 Tryz.underlying22 Tryz.underlying22 Tryz.underlying3 (hval 0 24 v0 rfl rfl) h0
  simp only [List.append_nil] at hW'
  rw [MakeChecks.laidMetH_plain _ _ _ (by kernel_rfl)] at hL
  obtain ⟨eb, hvars⟩ := Laid.vars hL (by simp [Rows.fnPlaceBackRow]) (by simp [Rows.fnPlaceBackRow]) (by simp [Rows.fnPlaceBackRow]) (by simp [Rows.fnPlaceBackRow]) (by simp [Rows.fnPlaceBackRow]) (by simp [Rows.fnPlaceBackRow]) (by simp [Rows.fnPlaceBackRow])
  have key : Calls Tryz.prog 3 #[.agg #[.float .f64 x, .float .f64 y, .float .f64 z, .float .f64 m, .int .i64 t]] W (Pw.LawEnd W) := by
    by_cases h3 : t < 0 ∨ 3 < t
    · exact Pw.lawOut x y z m t h3 W
    · obtain ⟨n, rfl⟩ : ∃ n : Nat, t = n := ⟨t.toNat, by omega⟩
      exact Pw.lawIn x y z m n (by omega) (float_lt wx) (float_lt wy) (float_lt wz) (float_lt wm) eb W hvars
  refine key.mono fun e W' ⟨he, hb⟩ => ?_
  subst he
  exact ⟨_, rfl, _, _, _, [], [], [], hW', trodAll_mk1 (shut_bool Tryz.underlying4 _), trodAll_mk1 (shut Tryz.underlying24 (hone _ Tryz.underlying24) (by kernel_rfl) Tryz.underlying22 Tryz.underlying22 Tryz.underlying22 Tryz.underlying22 Tryz.underlying3 wx wy wz wm wt), rfl, frame hb _, fun h => by cases h⟩
end Pl
theorem fnPlaceBack_holds : Rows.FnPlaceBackSaid :=
  OpenClaim.holds_of_wide 3 Tryz.f3 rfl rfl rfl rfl rfl rfl rfl ⟨rfl, rfl, rfl, rfl, rfl⟩ rfl rfl rfl rfl rfl (by kernel_rfl) Tryz.func3 (by kernel_rfl)
    (of_decide_eq_true (by kernel_rfl)) (by unfold Func.isWrapper; first | (rw [if_pos (by decide +kernel)]; kernel_rfl) | (rw [if_neg (by decide +kernel)]; exact ⟨rfl, rfl⟩))
    (fun os started H enc _ => Pl.lifted os started H enc)
theorem fnPlaceBackCard_holds : Rows.FnPlaceBackCardSaid :=
  Claim7.holds_tied_plain_at .later [] [.data, .data, .widerDeep, .widerDeep, .data, .data, .data, .data, .data, .data, .sentinel, .sentinel, .sentinel, .sentinel, .data, .pinned, .pinned, .pinned] true (true, "a40336b9c0623e6e1acde075005c74ecd8ea72d2b71a4dd17df3b1a5e6857482") true
    fnPlaceBack_holds (fun _ h => by cases h) (by kernel_rfl) (fun _ h => by cases h) fnPlaceBack_row_tie rfl ⟨rfl, rfl⟩ (by kernel_rfl) rfl
    (fun f fn hf hfn => by
      obtain rfl : f = 3 := Option.some.inj ((show Tryz.prog.funcNamed "pub-alidade/laws.FnPlaceBack" = some 3 by kernel_rfl).symm.trans hf) |>.symm
      obtain rfl : fn = Tryz.f3 := (Option.some.inj (Tryz.func3.symm.trans hfn)).symm
      exact ⟨by kernel_rfl, fun j t ht => by
        rw [Tryz.params3] at ht
        have h24 : t = 24 := by
          rcases j with _ | j
          · simpa using ht.symm
          · simp at ht
        subst h24
        exact (show Tryz.prog.wantsStandIn 24 = false by kernel_rfl)⟩)
    (by kernel_rfl)
end Go.Proofs.YtmhpnnbfnbaekaaGreatDoor
#print axioms Go.Proofs.YtmhpnnbfnbaekaaGreatDoor.fnPlaceBack_holds
#print axioms Go.Proofs.YtmhpnnbfnbaekaaGreatDoor.fnPlaceBackCard_holds

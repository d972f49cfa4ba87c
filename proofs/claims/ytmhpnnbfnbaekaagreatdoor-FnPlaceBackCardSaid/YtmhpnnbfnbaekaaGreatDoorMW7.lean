/- Part of the proof of FnPlaceBack: walk: writing a place. No condition. -/
import Derived.Test.YtmhpnnbfnbaekaaGreatDoorMW6bc
import Derived.StillTailTactics
namespace Go.Proofs
open Go Go.RowKit
theorem Pw.appendFloat (b : Nat) (hb : b < 18446744073709551616) (hfin : b / 2 ^ 52 % 2048 ≠ 2047) (B : Nat) (v : Value) (xs : List UInt8) (w : World) (ht : Pw.PowTab w) (htab : Lib.TabIs Tryz.prog w "internal/strconv.uint64pow10" .u64 Lib.pow10Tab) (hd : Pw.Dst B v xs w) (hl : xs.length ≤ 90000) :
    Calls Tryz.prog 25 #[v, .float .f64 b] w (Pw.Wrote B v xs (Pw.numText b) w) := by
  have h59 := Pw.ftoa64 b hb hfin B v xs w ht htab hd hl
  have h38 : Calls Tryz.prog 38 #[v, .float .f64 b, .int .u8 102, .int .i64 (-1), .int .i64 64] w (Pw.Wrote B v xs (Pw.numText b) w) := by
    go_enter Tryz.func38, Tryz.ntmps38
    go_wp2_with (go_at_call 59; refine h59.mono ?_; rintro e w1 ⟨v1, rfl, hd1, ha1⟩)
    go_ret
    exact ⟨v1, rfl, hd1, ha1⟩
  have h32 : Calls Tryz.prog 32 #[v, .float .f64 b, .int .u8 102, .int .i64 (-1), .int .i64 64] w (Pw.Wrote B v xs (Pw.numText b) w) := by
    clear h59
    go_enter Tryz.func32, Tryz.ntmps32
    go_wp2_with (go_at_call 38; refine h38.mono ?_; rintro e w1 ⟨v1, rfl, hd1, ha1⟩)
    go_ret
    exact ⟨v1, rfl, hd1, ha1⟩
  clear h59 h38
  go_enter Tryz.func25, Tryz.ntmps25
  go_wp2_with (go_at_call 32; refine h32.mono ?_; rintro e w1 ⟨v1, rfl, hd1, ha1⟩)
  go_ret
  exact ⟨v1, rfl, hd1, ha1⟩
end Go.Proofs
namespace Go.Proofs
open Go Go.RowKit
theorem Pw.dimOf (t : Nat) (h : t ≤ 3) (w : World) : Calls Tryz.prog 13 #[.int .i64 t] w fun e w' => e = .returned (.int .u8 t) ∧ w' = w := by
  have h3 : t = 0 ∨ t = 1 ∨ t = 2 ∨ t = 3 := by omega
  rcases h3 with rfl | rfl | rfl | rfl
  all_goals
    go_enter Tryz.func13, Tryz.ntmps13
    go_wp2
    go_ret
    exact ⟨rfl, rfl⟩
theorem Pw.cell2 (w : World) (A : Obj) (xs : Array Value) (T : TypeId) (j : Nat) : (((w.alloc A).alloc (.cells xs T)).drew).cell? ⟨w.heap.size + 1, j, none⟩ = xs[j]? := by
  have h := World.cell?_alloc_new (w.alloc A) xs T j
  rw [World.size_alloc] at h
  exact h
theorem Pw.frozen2 (w : World) (A : Obj) (xs : Array Value) (T : TypeId) (j : Nat) : (((w.alloc A).alloc (.cells xs T)).drew).frozen? ⟨w.heap.size + 1, j, none⟩ = false := by
  have h := World.frozen?_alloc_new (w.alloc A) xs T j
  rw [World.size_alloc] at h
  exact h
theorem Pw.still_tail {P : Program} {id : Nat} {Q : Exit → Act → World → Prop} {a : Act} {w : World} {l : List Oper} (n : Nat) (hm : P.follows .mixedOrders = true) (hB : Region.lexTailB .any l.toArray n = true)
    (h : wpStill P l.toArray w.drew (fun a' => wpList P l.toArray Q (l.drop n) a' w.drew) (l.take n) a) : (Code.region id l.toArray true).wp P Q a w := wp_region_still_tail n hm hB h
theorem Pw.store_float (P : Program) (W : World) (a : Addr) (b : Nat) (m : Mode) : (store a (.float .f64 b) m).run P W = _root_.Go.stored P W a (.float .f64 b) m := by
  have h : (Value.float .f64 b).oneCell' = true := rfl
  rw [_root_.Go.run_store P W a (.float .f64 b) m h]
  unfold _root_.Go.stored
  rfl
set_option maxRecDepth 100000 in
set_option maxHeartbeats 400000 in
theorem Pw.coordinates (x y z m t : Nat) (h : t ≤ 3) (w : World) :
   Calls Tryz.prog 15 #[.agg #[.float .f64 x, .float .f64 y, .float .f64 z, .float .f64 m, .int .i64 t]] w fun e w' => e = .returned (.agg #[.float .f64 x, .float .f64 y, .float .f64 z, .float .f64 m, .int .u8 t]) ∧ w.grownBy w' none := by
  have hc := Pw.dimOf t h
  go_enter Tryz.func15, Tryz.ntmps15
  go_wp2_with fail
  refine Pw.still_tail 13 (by kernel_rfl) (by kernel_rfl) ?_
  simp only [List.take_succ_cons, List.take_zero, List.drop_succ_cons, List.drop_zero]
  repeat still_step
  still_call (hc _)
  repeat still_step
  refine wpStill_nil ?_
  have hst := Pw.store_float Tryz.prog
  go_wp2
  try simp only [Exit.inBlock, Exit.then]
  refine bodyPost_ret (results_cell_row rfl _ _ (w.heap.size + 1) 49 _ (0, 0) _ rfl (heap_alloc2_new w _ _) Tryz.underlying49 rfl (by kernel_rfl)) rfl ?_
  refine ⟨rfl, Pw.grown_of_below (Nat.le_refl _) ?_⟩
  exact (((Below.refl _ _).alloc (Nat.le_refl _) _).alloc (by simp) _).drew
end Go.Proofs
namespace Go.Proofs
open Go Go.RowKit
theorem Pw.PowTab.keep {w w' : World} (h : Pw.PowTab w) (hg : w.grownBy w' none) : Pw.PowTab w' := by
  obtain ⟨hz, h⟩ := h
  refine ⟨Nat.lt_of_lt_of_le hz hg.size, fun p h2 h3 => ?_⟩
  obtain ⟨a, b⟩ := h p h2 h3
  exact ⟨hg.cell a (by simp), hg.cell b (by simp)⟩
theorem Pw.tabIs_keep {w w' : World} {name : String} {k : IntKind} {zs : List Int} (h : Lib.TabIs Tryz.prog w name k zs) (hg : w.grownBy w' none) : Lib.TabIs Tryz.prog w' name k zs :=
  Go.Lib.tabBelow_of_tabIs h w' ⟨hg.os, hg.tape, hg.output, hg.size, fun j hj => hg.block j hj (by simp)⟩
theorem Pw.txtLen (b : Nat) (hfin : b / 2 ^ 52 % 2048 ≠ 2047) : (Pw.numText b).length ≤ 800 := by
  unfold Pw.numText
  have hs : ∀ (n : Bool) (l : List UInt8), (Pw.signed n l).length ≤ l.length + 1 := by
    intro n l
    unfold Pw.signed
    cases n <;> simp
  refine Nat.le_trans (hs _ _) ?_
  by_cases hm : Pb.mOf b = 0
  · rw [if_pos hm]; simp
  · rw [if_neg hm]
    have hF := Pb.fits_of b hfin hm
    obtain ⟨d, e, hsh, hd0, hd17, -⟩ := Pb.shortU_ok hF
    have he := Pb.shortU_e (Pb.mOf b) (Pb.qOf b) hF.2.2.1 hF.2.2.2.1
    rw [hsh] at he ⊢
    have h20 := Lib.nDigits_le20 d (by omega)
    obtain ⟨k, hk, -, hl1, -, -, hn⟩ := Pb.trim_facts d hd0
    unfold Pw.plain
    split
    · simp; omega
    · split
      · simp; omega
      · simp; omega
/-- The writer's world: W0 kept, v holds xs. -/
def Pw.On (W0 : World) (v : Value) (xs : List UInt8) (w : World) : Prop := Pw.Dst W0.heap.size v xs w ∧ W0.grownBy w none
theorem Pw.On.step {W0 : World} {v v' : Value} {xs xs' : List UInt8} {w w' : World} (h : Pw.On W0 v xs w) (hd : Pw.Dst W0.heap.size v' xs' w') (ha : Pw.Adds w w' v v') : Pw.On W0 v' xs' w' :=
  ⟨hd, Pw.grown_trans h.2 ha.1 fun i hi => (h.1.1.lt i hi).1⟩
theorem Pw.On.nil (W0 : World) : Pw.On W0 (.slice none 0 0) [] W0 :=
  ⟨⟨World.ownsRow_nil W0 W0.heap.size 5 1, Nat.le_refl _⟩, ⟨rfl, rfl, rfl, Nat.le_refl _, fun _ _ _ => rfl⟩⟩
theorem Pw.On.cell {W0 : World} {v : Value} {xs : List UInt8} {w : World} (h : Pw.On W0 v xs w) {a : Addr} {u : Value} (hc : W0.cell? a = some u) : w.cell? a = some u := h.2.cell hc (by simp)
theorem Pw.On.float {W0 : World} (ht : Pw.PowTab W0) (htab : Lib.TabIs Tryz.prog W0 "internal/strconv.uint64pow10" .u64 Lib.pow10Tab) (b : Nat) (hb : b < 18446744073709551616) (hfin : b / 2 ^ 52 % 2048 ≠ 2047) {v : Value} {xs : List UInt8} {w : World} (h : Pw.On W0 v xs w) (hl : xs.length ≤ 90000) :
    Calls Tryz.prog 25 #[v, .float .f64 b] w fun e w' => ∃ v', e = .returned v' ∧ Pw.On W0 v' (xs ++ Pw.numText b) w' :=
  (Pw.appendFloat b hb hfin W0.heap.size v xs w (ht.keep h.2) (Pw.tabIs_keep htab h.2) h.1 hl).mono fun _ _ ⟨v', h1, h2, h3⟩ => ⟨v', h1, h.step h2 h3⟩
theorem Pw.is3D (t : Nat) (h : t ≤ 3) (w : World) : Calls Tryz.prog 26 #[.int .u8 t] w fun e w' => e = .returned (.bool (t % 2 == 1)) ∧ w' = w := by
  have h3 : t = 0 ∨ t = 1 ∨ t = 2 ∨ t = 3 := by omega
  rcases h3 with rfl | rfl | rfl | rfl
  all_goals
    go_enter Tryz.func26, Tryz.ntmps26
    go_wp2
    go_ret
    exact ⟨rfl, rfl⟩
theorem Pw.isMeasured (t : Nat) (h : t ≤ 3) (w : World) : Calls Tryz.prog 27 #[.int .u8 t] w fun e w' => e = .returned (.bool (t / 2 == 1)) ∧ w' = w := by
  have h3 : t = 0 ∨ t = 1 ∨ t = 2 ∨ t = 3 := by omega
  rcases h3 with rfl | rfl | rfl | rfl
  all_goals
    go_enter Tryz.func27, Tryz.ntmps27
    go_wp2
    go_ret
    exact ⟨rfl, rfl⟩
end Go.Proofs

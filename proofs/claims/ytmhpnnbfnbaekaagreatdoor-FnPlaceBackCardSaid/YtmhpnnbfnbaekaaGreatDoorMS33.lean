/- Part of the proof of FnPlaceBack: from the row's condition to what the walk asks of the library's variables. No condition. -/
import Derived.Test.YtmhpnnbfnbaekaaGreatDoorMW10
import Derived.Test.YtmhpnnbfnbaekaaGreatDoorRows
import Derived.PinnedBridge
import Derived.Lib.LaidU8
import Derived.LaidLaws
import Derived.ChangeArms
import Derived.Test.YtmhpnnbfnbaekaaGreatDoorMS31
namespace Go.Proofs
open Go Go.RowKit Go.Lib
namespace Laid
open Go.Proofs.YtmhpnnbfnbaekaaGreatDoor
variable {W : World}
theorem pow10_rows : ((List.range 696).all fun i => (Pb.tabHi ((i : Int) - 348), Pb.tabLo ((i : Int) - 348)) == Pinned.pow10Rows.getD i (0, 0)) = true := by decide +kernel
theorem pow10_at (i : Nat) (hi : i < 696) : Pb.tabHi ((i : Int) - 348) = (Pinned.pow10Rows.getD i (0, 0)).1 ∧ Pb.tabLo ((i : Int) - 348) = (Pinned.pow10Rows.getD i (0, 0)).2 := by
  have h := List.all_eq_true.1 pow10_rows i (List.mem_range.2 hi)
  rw [beq_iff_eq] at h
  rw [← h]
  exact ⟨rfl, rfl⟩
theorem uint64pow10 (h : VarReads Tryz.prog W "internal/strconv.uint64pow10" Rows.laid_internal_strconv_uint64pow10) : TabIs Tryz.prog W "internal/strconv.uint64pow10" .u64 Lib.pow10Tab := by
  have e : (Rows.laid_internal_strconv_uint64pow10 : DataW Unit) = tabData .u64 Lib.pow10Tab := by kernel_rfl
  rw [e] at h
  obtain ⟨g, t, cs, fuel, p, hg, hty, hvar, hd⟩ := h
  obtain rfl := Option.some.inj ((show Tryz.prog.globalNamed "internal/strconv.uint64pow10" = some 11 by kernel_rfl).symm.trans hg)
  obtain rfl := Option.some.inj ((show (Tryz.prog.globals[11]?).map (·.type) = some 199 by kernel_rfl).symm.trans hty)
  unfold TabIs
  rw [hvar, ← cells_of_tab (Tryz.underlying199 : Tryz.prog.underlying 199 = some (.array 20 51)) Tryz.underlying51 (by kernel_rfl) (by kernel_rfl) hd]
theorem utf8 (h : VarReads Tryz.prog W "unicode/utf8.first" Rows.laid_unicode_utf8_first) : ∀ c, c < 128 → W.cell? ⟨6, c, none⟩ = some (.int .u8 240) := by
  have e : Rows.laid_unicode_utf8_first = firstData := Pinned.utf8First_eq
  rw [e] at h
  obtain ⟨g, t, cs, fuel, p, hg, hty, hvar, hd⟩ := h
  obtain rfl := Option.some.inj ((show Tryz.prog.globalNamed "unicode/utf8.first" = some 6 by kernel_rfl).symm.trans hg)
  obtain rfl := Option.some.inj ((show (Tryz.prog.globals[6]?).map (·.type) = some 155 by kernel_rfl).symm.trans hty)
  have hcs := cells_of_tab (Tryz.underlying155 : Tryz.prog.underlying 155 = some (.array 256 5)) Tryz.underlying5 (by kernel_rfl) (by kernel_rfl) hd
  intro c hc
  have h2 : ∀ c, c < 128 → firstT c = 240 := by decide
  rw [World.var?_cell hg hvar c, ← Array.getElem?_toList, hcs]
  simp [firstTab, show c < 256 by omega, h2 c hc]
/-- One listed variable's reading, and its own places. -/
theorem row_in : ∀ {l : List (String × DataW Unit)} {ps : List MemPlace}, DataW.LaidVars Tryz.prog W l ps → ∀ n d, (n, d) ∈ l →
    ∃ g t cs fuel p, Tryz.prog.globalNamed n = some g ∧ (Tryz.prog.globals[g]?).map (·.type) = some t ∧ W.var? Tryz.prog n = some cs ∧ DataW.trod (fun _ => ()) Tryz.prog W 0 (fun _ => true) false fuel t cs.toList = some (d, p) ∧ ∀ x ∈ MemPlace.row ⟨g, 0, none⟩ cs.size, x ∈ ps
  | [], _, _, _, _, hm => by cases hm
  | (n', d') :: r, ps, h, n, d, hm => by
    obtain ⟨g, t, cs, fuel, p, q, h1, h2, h3, h4, h5, h6⟩ := h
    rcases List.mem_cons.1 hm with e | e
    · cases e
      exact ⟨g, t, cs, fuel, p, h1, h2, h3, h4, fun x hx => by rw [h6]; simp [hx]⟩
    · obtain ⟨g', t', cs', fuel', p', k1, k2, k3, k4, k5⟩ := row_in h5 n d e
      exact ⟨g', t', cs', fuel', p', k1, k2, k3, k4, fun x hx => by rw [h6]; simp [k5 x hx]⟩
theorem star : "*" ++ "errors.errorString" = "*errors.errorString" := by decide
set_option maxRecDepth 100000 in
theorem row183 (u : TypeId) (h : Tryz.prog.typeName? 3 u = some "*errors.errorString") : u = 183 :=
  typeName_ptr_named (nm := "errors.errorString") (by rw [star]; kernel_rfl) (by kernel_rfl) (by decide) u (by rw [star]; exact h)
set_option maxRecDepth 100000 in
theorem eofAt {l : List (String × DataW Unit)} (h : laidMet Tryz.prog l W) (hm : ("io.EOF", Rows.laid_io_EOF) ∈ l) : ∃ a : Addr, W.cell? ⟨2, 0, none⟩ = some (.iface 183 (.pointer (some a))) := by
  obtain ⟨ps, hv, hnd, hrows⟩ := h
  obtain ⟨g, t, cs, fuel, p, hg, hty, hvar, hd, hin⟩ := row_in hv _ _ hm
  obtain rfl := Option.some.inj ((show Tryz.prog.globalNamed "io.EOF" = some 2 by kernel_rfl).symm.trans hg)
  obtain rfl := Option.some.inj ((show (Tryz.prog.globals[2]?).map (·.type) = some 39 by kernel_rfl).symm.trans hty)
  have hc0 := World.var?_cell hg hvar 0
  obtain ⟨l0⟩ := cs
  have ok0 : ∀ u v, l0 = [.iface u v] → Value.okWide Tryz.prog W .any 0 u v := fun u v e => by
    subst e
    exact (hrows 2 0 (hin _ (by simp [MemPlace.row]))).2 u v (by simpa using hc0)
  obtain ⟨a0, s0, rfl, -⟩ := errorString_of_trod Tryz.underlying39 row183 Tryz.underlying183 Tryz.underlying185 rfl rfl Tryz.underlying9 (by kernel_rfl) (by kernel_rfl) hd ok0
  exact ⟨a0, by simpa using hc0⟩
theorem optimize (h : VarReads Tryz.prog W "internal/strconv.optimize" Rows.laid_internal_strconv_optimize) : W.cell? ⟨5, 0, none⟩ = some (.bool true) := by
  obtain ⟨g, t, cs, fuel, p, hg, hty, hvar, hd⟩ := h
  obtain rfl := Option.some.inj ((show Tryz.prog.globalNamed "internal/strconv.optimize" = some 5 by kernel_rfl).symm.trans hg)
  obtain rfl := Option.some.inj ((show (Tryz.prog.globals[5]?).map (·.type) = some 4 by kernel_rfl).symm.trans hty)
  obtain ⟨b, hb, hx⟩ := DataW.trod_bool Tryz.underlying4 hd
  have e : b = true := by
    have := congrArg Prod.fst hx
    simp only [Rows.laid_internal_strconv_optimize, DataW.lit.injEq, Lit.bool.injEq] at this
    exact this.symm
  rw [World.var?_cell hg hvar 0, ← Array.getElem?_toList, hb, e]
  rfl
theorem info64 (h : VarReads Tryz.prog W "internal/strconv.float64info" Rows.laid_internal_strconv_float64info) : W.cell? ⟨10, 0, none⟩ = some (.int .u64 52) := by
  obtain ⟨g, t, cs, fuel, p, hg, hty, hvar, hd⟩ := h
  obtain rfl := Option.some.inj ((show Tryz.prog.globalNamed "internal/strconv.float64info" = some 10 by kernel_rfl).symm.trans hg)
  obtain rfl := Option.some.inj ((show (Tryz.prog.globals[10]?).map (·.type) = some 168 by kernel_rfl).symm.trans hty)
  obtain ⟨xs, n, rfl, hx, hl, hxl, hall⟩ := DataW.trod_struct Tryz.underlying168 hd
  have h0 := hall 0 _ rfl
  have hx0 := congrArg Prod.fst hx
  simp only [Rows.laid_internal_strconv_float64info, DataW.agg.injEq] at hx0
  match xs, hx0 with
  | [], hx0 => simp at hx0
  | x :: xs, hx0 =>
    simp only [List.map_cons, List.cons.injEq] at hx0
    simp only [List.getElem?_cons_zero] at h0
    obtain ⟨z, e1, e2, -⟩ := DataW.trod_int (show Tryz.prog.underlying 67 = some (.int .u64) from Tryz.underlying67) h0
    rw [e2] at hx0
    simp only [DataW.lit.injEq, Lit.int.injEq, true_and] at hx0
    have hz : z = 52 := hx0.1.symm
    have hc1 : Tryz.prog.cellsOf 67 = 1 := by kernel_rfl
    have e3 : cs.toList[0]? = some (.int .u64 52) := by
      have h3 : ((cs.toList.drop 0).take (Tryz.prog.cellsOf 67))[0]? = some (.int .u64 z) := by
        have e1' : (cs.toList.drop 0).take (Tryz.prog.cellsOf 67) = [.int .u64 z] := e1
        rw [e1']; rfl
      rw [hc1, hz] at h3
      simpa using h3
    rw [World.var?_cell hg hvar 0, ← Array.getElem?_toList, e3]
end Laid
end Go.Proofs
namespace Go.Proofs
open Go Go.RowKit Go.Lib
namespace Laid
open Go.Proofs.YtmhpnnbfnbaekaaGreatDoor
variable {W : World}
theorem cell_lt {w : World} {g i : Nat} {v : Value} (h : w.cell? ⟨g, i, none⟩ = some v) : g < w.heap.size := by
  unfold World.cell? at h
  rcases Nat.lt_or_ge g w.heap.size with h2 | h2
  · exact h2
  · rw [Array.getElem?_eq_none h2] at h; cases h
set_option maxRecDepth 100000 in
theorem pow10 (h : VarReads Tryz.prog W "internal/strconv.pow10Tab" Rows.laid_internal_strconv_pow10Tab) : Pw.PowTab W := by
  obtain ⟨g, t, cs, fuel, p, hg, hty, hvar, hd⟩ := h
  obtain rfl := Option.some.inj ((show Tryz.prog.globalNamed "internal/strconv.pow10Tab" = some 15 by kernel_rfl).symm.trans hg)
  obtain rfl := Option.some.inj ((show (Tryz.prog.globals[15]?).map (·.type) = some 216 by kernel_rfl).symm.trans hty)
  have hc2 : Tryz.prog.cellsOf 215 = 2 := by kernel_rfl
  have hc1 : Tryz.prog.cellsOf 51 = 1 := by kernel_rfl
  have hlen : Pinned.pow10Rows.length = 696 := by kernel_rfl
  have hd' : DataW.trod (fun _ => ()) Tryz.prog W 0 (fun _ => true) false fuel 216 cs.toList = some (.agg (Pinned.pow10Rows.map fun x => .agg [.lit (.int .u64 x.1), .lit (.int .u64 x.2)]), p) := hd
  have key : ∀ i, i < 696 → W.cell? ⟨15, i * 2, none⟩ = some (.int .u64 ((Pinned.pow10Rows.getD i (0, 0)).1 : Int)) ∧ W.cell? ⟨15, i * 2 + 1, none⟩ = some (.int .u64 ((Pinned.pow10Rows.getD i (0, 0)).2 : Int)) := by
    intro i hi
    obtain ⟨fuel', d, q, hdi, he⟩ := array_elem (show Tryz.prog.underlying 216 = some (.array 696 215) from Tryz.underlying216) hd' i hi
    rw [List.getElem?_map, List.getElem?_eq_getElem (by omega)] at hdi
    have hdi2 := (Option.some.inj hdi).symm
    subst hdi2
    have hgd : Pinned.pow10Rows.getD i (0, 0) = Pinned.pow10Rows[i]'(by omega) := by rw [List.getD_eq_getElem?_getD, List.getElem?_eq_getElem (by omega)]; rfl
    rw [hgd]
    generalize Pinned.pow10Rows[i]'(by omega) = x at he
    rw [hc2] at he
    have hcs := ints_of_struct (zs := [(x.1 : Int), (x.2 : Int)]) Tryz.underlying215 (fun j f hj => by
      match j, hj with
      | 0, hj => cases hj; exact ⟨Tryz.underlying51, rfl, hc1⟩
      | 1, hj => cases hj; exact ⟨Tryz.underlying51, rfl, hc1⟩
      | j + 2, hj => simp at hj) hc2 he
    have e0 := congrArg (·[0]?) hcs
    have e1 := congrArg (·[1]?) hcs
    simp only [List.map_cons, List.map_nil, List.getElem?_cons_zero, List.getElem?_cons_succ] at e0 e1
    rw [List.getElem?_take, if_pos (by decide), List.getElem?_drop] at e0 e1
    refine ⟨?_, ?_⟩
    · rw [World.var?_cell hg hvar (i * 2), ← Array.getElem?_toList]; exact e0
    · rw [World.var?_cell hg hvar (i * 2 + 1), ← Array.getElem?_toList]; exact e1
  refine ⟨cell_lt (key 0 (by omega)).1, fun p h0 h1 => ?_⟩
  obtain ⟨i, hi, rfl⟩ : ∃ i : Nat, i < 696 ∧ p = (i : Int) - 348 := ⟨(p + 348).toNat, by omega, by omega⟩
  have e : ((i : Int) - 348 + 348).toNat = i := by omega
  rw [e]
  obtain ⟨q1, q2⟩ := pow10_at i hi
  rw [q1, q2]
  exact key i hi
theorem trod_float {fuel : Nat} {t : TypeId} {cs : List Value} {x : DataW Unit × List MemPlace} {k : FloatKind} (ht : Tryz.prog.underlying t = some (.float k)) (h : DataW.trod (fun _ => ()) Tryz.prog W 0 (fun _ => true) false fuel t cs = some x) : ∃ n, cs = [.float k n] ∧ x = (.lit (.float k n), []) := by
  cases fuel with
  | zero => simp [DataW.trod] at h
  | succ n =>
    unfold DataW.trod at h
    rw [ht] at h
    split at h <;> simp_all
set_option maxRecDepth 100000 in
theorem pow10f (h : VarReads Tryz.prog W "internal/strconv.float64pow10" Rows.laid_internal_strconv_float64pow10) :
    ∃ tb off cap, W.cell? ⟨14, 0, none⟩ = some (.slice (some ⟨tb, off, none⟩) 23 cap) ∧ ∀ i, i < 23 → W.cell? ⟨tb, off + i, none⟩ = some (.float .f64 (Pb.p10.getD i 0)) := by
  have e : (Rows.laid_internal_strconv_float64pow10 : DataW Unit) = .slice (Pb.p10.map fun b => .lit (.float .f64 b)) [] := by kernel_rfl
  rw [e] at h
  obtain ⟨g, t, cs, fuel, p, hg, hty, hvar, hd⟩ := h
  obtain rfl := Option.some.inj ((show Tryz.prog.globalNamed "internal/strconv.float64pow10" = some 14 by kernel_rfl).symm.trans hg)
  obtain rfl := Option.some.inj ((show (Tryz.prog.globals[14]?).map (·.type) = some 25 by kernel_rfl).symm.trans hty)
  have hl : Pb.p10.length = 23 := by decide
  have hc1 : Tryz.prog.cellsOf 22 = 1 := by kernel_rfl
  rcases DataW.trod_slice Tryz.underlying25 hd with ⟨-, hx⟩ | ⟨a, len, cap, elems, rest, n, rfl, hcs, hx, -, -, -, hel, hall, -, -⟩
  · have := congrArg Prod.fst hx
    cases this
  · have hx1 := congrArg Prod.fst hx
    simp only [DataW.slice.injEq] at hx1
    have hlen : len = 23 := by
      have := congrArg List.length hx1.1
      simp only [List.length_map] at this
      omega
    subst hlen
    have hcell : ∀ i, i < 23 → W.cell? (a.add i) = some (.float .f64 (Pb.p10.getD i 0)) := by
      intro i hi
      have h1 := hall i hi
      rw [hc1, Nat.mul_one] at h1
      have h2 : (elems.map (·.1))[i]? = (Pb.p10.map fun b => (DataW.lit (.float .f64 b) : DataW Unit))[i]? := by rw [hx1.1]
      rw [List.getElem?_map, List.getElem?_map, List.getElem?_eq_getElem (by omega), List.getElem?_eq_getElem (by omega)] at h2
      rw [List.getElem?_eq_getElem (by omega)] at h1
      obtain ⟨cs1, hq1, hq2⟩ := Option.bind_eq_some_iff.1 h1
      obtain ⟨b, rfl, hb⟩ := trod_float Tryz.underlying22 hq2
      rw [hb] at h2
      simp only [Option.map_some, Option.some.injEq, DataW.lit.injEq, Lit.float.injEq, true_and] at h2
      have hgd : Pb.p10.getD i 0 = Pb.p10[i]'(by omega) := by rw [List.getD_eq_getElem?_getD, List.getElem?_eq_getElem (by omega)]; rfl
      rw [hgd, ← h2]
      unfold World.cells? at hq1
      rw [if_pos (Nat.zero_le _)] at hq1
      have ha : (a.add i).add 0 = a.add i := by
        cases a with
        | mk b o sp => simp [Addr.add]
      simp only [List.range_succ, List.range_zero, List.nil_append, List.mapM_cons, List.mapM_nil, ha, Option.bind_eq_bind, Option.pure_def, Option.bind_some, Option.bind_eq_some_iff, Option.some.injEq, List.cons.injEq, and_true] at hq1
      obtain ⟨c, hc, hc2⟩ := hq1
      rw [hc, hc2]
    obtain ⟨tb, off, sp⟩ := a
    have hsp : sp = none := by
      have h0 := hcell 0 (by omega)
      have ha : (⟨tb, off, sp⟩ : Addr).add 0 = ⟨tb, off, sp⟩ := by simp [Addr.add]
      rw [ha] at h0
      exact cell_spot h0
    subst hsp
    refine ⟨tb, off, cap, ?_, fun i hi => ?_⟩
    · rw [World.var?_cell hg hvar 0, ← Array.getElem?_toList, hcs]; rfl
    · have := hcell i hi
      rwa [Pw.addAt] at this
theorem vars {l : List (String × DataW Unit)} (h : laidMet Tryz.prog l W) (h1 : ("internal/strconv.pow10Tab", Rows.laid_internal_strconv_pow10Tab) ∈ l) (h2 : ("internal/strconv.uint64pow10", Rows.laid_internal_strconv_uint64pow10) ∈ l) (h3 : ("internal/strconv.float64info", Rows.laid_internal_strconv_float64info) ∈ l)
    (h4 : ("internal/strconv.optimize", Rows.laid_internal_strconv_optimize) ∈ l) (h5 : ("internal/strconv.float64pow10", Rows.laid_internal_strconv_float64pow10) ∈ l) (h6 : ("io.EOF", Rows.laid_io_EOF) ∈ l) (h7 : ("unicode/utf8.first", Rows.laid_unicode_utf8_first) ∈ l) : ∃ eb, Pw.Vars eb W := by
  obtain ⟨a, ha⟩ := eofAt h h6
  exact ⟨a, pow10 (laidMet.reads h h1), uint64pow10 (laidMet.reads h h2), ⟨info64 (laidMet.reads h h3), optimize (laidMet.reads h h4), pow10f (laidMet.reads h h5)⟩, ha, utf8 (laidMet.reads h h7)⟩
end Laid
end Go.Proofs

/- Part of the proof of FnPlaceBack: walk: the parser's place. No condition. -/
import Derived.Test.YtmhpnnbfnbaekaaGreatDoorMS24
namespace Go.Proofs
open Go Go.RowKit
theorem Pw.newReader (S : ByteArray) (w : World) : Calls Tryz.prog 29 #[.string S] w fun e w' => e = .returned (.pointer (some ⟨w.heap.size, 0, none⟩)) ∧ w' = w.alloc (.cells #[.string S, .int .i64 0, .int .i64 (-1)] 96) := by
  go_enter Tryz.func29, Tryz.ntmps29
  go_wp2
  go_ret
  exact ⟨rfl, rfl⟩
/-- The scanner as newWKTLexer leaves it. -/
def SS.first (rb : Nat) : SS := { SS.start (.iface 85 (.pointer (some ⟨rb, 0, none⟩))) with mode := 28 }
theorem Pw.foldFill (l : List Value) : ∀ (n : Nat) (A : Array Value) (k : Nat), n + l.length ≤ A.size → ((l.zipIdx n).foldl (fun cs (x : Value × Nat) => cs.setIfInBounds (0 + x.2) x.1) A)[k]? = if n ≤ k ∧ k < n + l.length then l[k - n]? else A[k]? := by
  induction l with
  | nil => intro n A k _; rw [if_neg (by simp; try omega)]; rfl
  | cons x l ih =>
    intro n A k h
    simp only [List.length_cons] at h
    rw [List.zipIdx_cons, List.foldl_cons, ih (n + 1) _ k (by rw [Array.size_setIfInBounds]; omega)]
    simp only [List.length_cons]
    by_cases h1 : n = k
    · subst h1
      rw [if_neg (by omega), if_pos (by omega), Nat.sub_self, Array.getElem?_setIfInBounds, if_pos (by omega), if_pos (by omega)]
      rfl
    · by_cases h2 : n + 1 ≤ k ∧ k < n + 1 + l.length
      · rw [if_pos h2, if_pos (by omega), show k - n = (k - (n + 1)) + 1 from by omega, List.getElem?_cons_succ]
      · rw [if_neg h2, if_neg (by omega), Array.getElem?_setIfInBounds, if_neg (by omega)]
theorem Pw.built74 (A : Array Value) : Tryz.prog.built 74 [(0, .agg A)] = Instr.fill (fun i => (#[(0, 1048), (1048, 1)] : Array (Nat × Nat))[i]?) Tryz.zeroCells74 [(0, .agg A)] := by kernel_rfl
theorem Pw.built77 (A : Array Value) : Tryz.prog.built 77 [(0, .agg A)] = Instr.fill (fun i => (#[(0, 1049)] : Array (Nat × Nat))[i]?) Tryz.zeroCells77 [(0, .agg A)] := by kernel_rfl
/-- A part that covers the first places. -/
theorem Pw.fillFirst (place : Nat → Option (Nat × Nat)) (m : Nat) (hp : place 0 = some (0, m)) (A Z : Array Value) (hA : A.size = m) (hZ : m ≤ Z.size) : ∃ R : Array Value, Instr.fill place Z [(0, .agg A)] = some R ∧ ∀ k, R[k]? = if k < m then A[k]? else Z[k]? := by
  have hc : (Value.agg A).cells = A := rfl
  refine ⟨A.zipIdx.foldl (fun cs (x : Value × Nat) => cs.setIfInBounds (0 + x.2) x.1) Z, ?_, fun k => ?_⟩
  · unfold Instr.fill
    rw [hp]
    dsimp only
    rw [hc, if_neg (by simp [hA]; omega)]
    unfold Instr.fill
    exact rfl
  · rw [← Array.foldl_toList, Array.toList_zipIdx]
    refine (Pw.foldFill A.toList 0 Z k (by rw [Array.length_toList, hA]; omega)).trans ?_
    rw [Array.length_toList, hA, Nat.zero_add, Nat.sub_zero, Array.getElem?_toList]
    by_cases h : k < m
    · rw [if_pos ⟨Nat.zero_le _, h⟩, if_pos h]
    · rw [if_neg (fun e => h e.2), if_neg h]
theorem Pw.filled74 (s : SS) (h : s.pk = .string ⟨#[]⟩) : Tryz.prog.built 74 [(0, .agg s.arr2)] = some s.arr := by
  rw [Pw.built74, Pw.z74]
  obtain ⟨R, hR, hk⟩ := Pw.fillFirst (fun i => (#[(0, 1048), (1048, 1)] : Array (Nat × Nat))[i]?) 1048 rfl s.arr2 SS.zero.arr s.arr2_size (by rw [SS.arr_size]; omega)
  rw [hR]
  refine congrArg some (Array.ext_getElem? fun k => ?_)
  rw [hk]
  by_cases h1 : k < 1048
  · rw [if_pos h1, SS.arr2_at s k h1, SS.arr_at s k (by omega)]
  · rw [if_neg h1]
    by_cases h2 : k < 1049
    · obtain rfl : k = 1048 := by omega
      rw [SS.arr_at _ 1048 (by omega), SS.arr_at _ 1048 (by omega)]
      exact congrArg some h.symm
    · rw [Array.getElem?_eq_none (by rw [SS.arr_size]; omega), Array.getElem?_eq_none (by rw [SS.arr_size]; omega)]
theorem Pw.filled77 (s : SS) : Tryz.prog.built 77 [(0, .agg s.arr)] = some s.arr := by
  rw [Pw.built77, Pw.z77]
  obtain ⟨R, hR, hk⟩ := Pw.fillFirst (fun i => (#[(0, 1049)] : Array (Nat × Nat))[i]?) 1049 rfl s.arr SS.zero.arr s.arr_size (by rw [SS.arr_size]; omega)
  rw [hR]
  refine congrArg some (Array.ext_getElem? fun k => ?_)
  rw [hk]
  by_cases h1 : k < 1049
  · rw [if_pos h1]
  · rw [if_neg h1, Array.getElem?_eq_none (by rw [SS.arr_size]; omega), Array.getElem?_eq_none (by rw [SS.arr_size]; omega)]
end Go.Proofs
namespace Go.Proofs
open Go Go.RowKit
theorem Pw.info72 (s : SS) : (Tryz.prog.info? 72).map (·.size) = some s.arr2.size := by rw [SS.arr2_size]; kernel_rfl
theorem Pw.info74 (s : SS) : (Tryz.prog.info? 74).map (·.size) = some s.arr.size := by rw [SS.arr_size]; kernel_rfl
theorem SS.arr_one (s : SS) (h1 : s.src.oneCell' = true) (h2 : s.buf.oneCell' = true) (h3 : s.err.oneCell' = true) (h4 : s.idr.oneCell' = true) (h5 : s.pf.oneCell' = true) (h6 : s.pk.oneCell' = true) : s.arr.all (·.oneCell') = true := by
  rw [Array.all_eq_true]
  intro i hi
  rw [SS.arr_size] at hi
  have e : s.arr[i]'(by rw [SS.arr_size]; exact hi) = s.cell i := by
    have := SS.arr_at s i hi
    rw [Array.getElem?_eq_getElem (by rw [SS.arr_size]; exact hi)] at this
    exact Option.some.inj this
  rw [e]
  unfold SS.cell
  by_cases c0 : i = 0
  · rw [if_pos c0]; exact h1
  · rw [if_neg c0]
    by_cases c1 : i ≤ 1025
    · rw [if_pos c1]; rfl
    · rw [if_neg c1]
      generalize i - 1026 = j
      match j with
      | 0 | 1 | 2 | 3 | 4 | 5 | 6 => rfl
      | 7 => exact h2
      | 8 | 9 | 10 | 11 | 12 => rfl
      | 13 => exact h3
      | 14 | 15 | 16 => rfl
      | 17 => exact h4
      | 18 => exact h5
      | 19 | 20 | 21 => rfl
      | j + 22 => exact h6
theorem Pw.wp_load72 {ops : Array Oper} {rest : List Oper} {o : Oper} {a : Act} {Q : Exit → Act → World → Prop} (hgd : o.guard = none) (x : Operand) (ho : o.op = .load 72 x) {b : Nat} {W : World} (V : Bs b) (s : SS) (hx : a.eval x = .pointer (some ⟨b, 0, none⟩)) (hW : W = Sx V s)
    (h : wpList Tryz.prog ops Q rest (a.put o.dst (.agg s.arr2)) (Sx V s)) : wpList Tryz.prog ops Q (o :: rest) a W := by
  subst hW
  exact wpList_load_row hgd 72 x ho b hx 72 s.arr2 (0, 0) _ (Sx.block V s) Tryz.underlying72 rfl (Pw.info72 s) h
theorem Pw.parts1 (a : Act) (x : Operand) : ((#[(0, x)] : Array (Nat × Operand)).map fun (i, x) => (i, a.eval x)).toList = [(0, a.eval x)] := by simp
theorem Pw.wp_build74 {ops : Array Oper} {rest : List Oper} {o : Oper} {a : Act} {w : World} {Q : Exit → Act → World → Prop} (hgd : o.guard = none) (x : Operand) (ho : o.op = .build 74 #[(0, x)]) (s : SS) (hp : s.pk = .string ⟨#[]⟩) (hx : a.eval x = .agg s.arr2)
    (h : wpList Tryz.prog ops Q rest (a.put o.dst (.agg s.arr)) w) : wpList Tryz.prog ops Q (o :: rest) a w := by
  have e := Pw.parts1 a x
  rw [hx] at e
  refine wpList_build hgd 74 #[(0, x)] ho ?_ ?_
  · rw [e, Pw.filled74 s hp]; exact Option.isSome_some
  · rw [e, Pw.filled74 s hp, Option.getD_some]; exact h
theorem Pw.wp_build77 {ops : Array Oper} {rest : List Oper} {o : Oper} {a : Act} {w : World} {Q : Exit → Act → World → Prop} (hgd : o.guard = none) (x : Operand) (ho : o.op = .build 77 #[(0, x)]) (s : SS) (hx : a.eval x = .agg s.arr)
    (h : wpList Tryz.prog ops Q rest (a.put o.dst (.agg s.arr)) w) : wpList Tryz.prog ops Q (o :: rest) a w := by
  have e := Pw.parts1 a x
  rw [hx] at e
  refine wpList_build hgd 77 #[(0, x)] ho ?_ ?_
  · rw [e, Pw.filled77 s]; exact Option.isSome_some
  · rw [e, Pw.filled77 s, Option.getD_some]; exact h
theorem Pw.wp_store74 {ops : Array Oper} {rest : List Oper} {o : Oper} {a : Act} {w : World} {Q : Exit → Act → World → Prop} (hgd : o.guard = none) (x y : Operand) (ho : o.op = .store 74 x y) (n : Nat) (s : SS) (hs : s.arr.all (·.oneCell') = true) (hx : a.eval x = .pointer (some ⟨n, 0, none⟩)) (hy : a.eval y = .agg s.arr)
    (hg : w.heap[n]? = some (.cells SS.zero.arr 74 (0, 0))) (h : wpList Tryz.prog ops Q rest (a.put o.dst undef) (w.setRow n s.arr)) : wpList Tryz.prog ops Q (o :: rest) a w :=
  wpList_store_row hgd 74 x y ho n s.arr hx hy 74 SS.zero.arr hg (Pw.info74 s) (by rw [SS.arr_size, SS.arr_size]) hs h
end Go.Proofs

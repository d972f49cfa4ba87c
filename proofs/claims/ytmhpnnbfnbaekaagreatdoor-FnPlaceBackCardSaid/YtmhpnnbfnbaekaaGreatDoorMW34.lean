/- Part of the proof of FnPlaceBack: walk: writing a float, its format. No condition. -/
import Derived.Test.YtmhpnnbfnbaekaaGreatDoorMW2cd
import Derived.Maps.AppendAt
import Derived.Lib.UnsafeStr
namespace Go.Proofs
open Go Go.RowKit
theorem Tryz.info5 : (Tryz.prog.info? 5).map (fun i => (i.zero, i.size, i.bytes)) = some (some (.int .u8 0), 1, 1) := by kernel_rfl
/-- v is a slice of the call's own (from block B on) that holds the bytes xs. -/
def Pw.Dst (B : Nat) (v : Value) (xs : List UInt8) (w : World) : Prop := w.ownsRow B 5 1 v xs.length (Lib.byteCells xs) ∧ B ≤ w.heap.size
/-- Behind writes to v's row alone, which has become v'. -/
def Pw.Adds (w w' : World) (v v' : Value) : Prop := w.grownBy w' v.ownBlock ∧ (v'.ownBlock = v.ownBlock ∨ ∃ g, v'.ownBlock = some g ∧ w.heap.size ≤ g)
theorem Pw.Adds.refl (w : World) (v : Value) : Pw.Adds w w v v := ⟨⟨rfl, rfl, rfl, Nat.le_refl _, fun _ _ _ => rfl⟩, .inl rfl⟩
theorem Pw.Adds.trans {a b c : World} {u v x : Value} (h : Pw.Adds a b u v) (k : Pw.Adds b c v x) : Pw.Adds a c u x := by
  obtain ⟨h1, h2⟩ := h
  obtain ⟨k1, k2⟩ := k
  have hne : ∀ j, j < a.heap.size → some j ≠ u.ownBlock → some j ≠ v.ownBlock := by
    intro j hj hn
    rcases h2 with e | ⟨g, e, hg⟩
    · rw [e]; exact hn
    · rw [e]; intro e2; injection e2 with e2; omega
  refine ⟨⟨k1.os.trans h1.os, k1.tape.trans h1.tape, k1.output.trans h1.output, Nat.le_trans h1.size k1.size, fun j hj hn => ?_⟩, ?_⟩
  · rw [k1.block j (Nat.lt_of_lt_of_le hj h1.size) (hne j hj hn), h1.block j hj hn]
  · rcases k2 with e | ⟨g, e, hg⟩
    · rw [e]; exact h2
    · exact .inr ⟨g, e, Nat.le_trans h1.size hg⟩
theorem Pw.Adds.cell {w w' : World} {v v' : Value} (h : Pw.Adds w w' v v') {b o : Nat} {x : Value} (hb : some b ≠ v.ownBlock) (hc : w.cell? ⟨b, o, none⟩ = some x) : w'.cell? ⟨b, o, none⟩ = some x := h.1.cell hc hb
theorem Pw.Adds.ne {w w' : World} {v v' : Value} (h : Pw.Adds w w' v v') {b : Nat} (hb : some b ≠ v.ownBlock) (hlt : b < w.heap.size) : some b ≠ v'.ownBlock := by
  rcases h.2 with e | ⟨g, e, hg⟩
  · rw [e]; exact hb
  · rw [e]; intro e2; injection e2 with e2; omega
theorem Pw.cells_append (xs ys : List UInt8) : Lib.byteCells (xs ++ ys) = Lib.byteCells xs ++ Lib.byteCells ys := List.map_append
theorem Pw.cells_one (xs : List UInt8) : ∀ u ∈ Lib.byteCells xs, u.oneCell' = true := by
  intro u hu
  obtain ⟨b, -, rfl⟩ := List.mem_map.1 hu
  rfl
/-- dst = append(dst, c): the cell c lies in a block of its own. -/
theorem Pw.wp_app1 {ops : Array Oper} {rest : List Oper} {o : Oper} {a : Act} {Q : Exit → Act → World → Prop} {w : World} (hgd : o.guard = none) (s x : Operand)
    (ho : o.op = .call { callee := .builtin .append, args := #[s, x], argTypes := #[44, 44] })
    (B : Nat) (v : Value) (xs : List UInt8) (hown : Pw.Dst B v xs w) (hs : a.eval s = v) (c : UInt8) (cap : Nat)
    (hx : a.eval x = .slice (some ⟨w.heap.size, 0, none⟩) 1 cap) (hlen : xs.length ≤ 100000)
    (h : ∀ v' w', Pw.Dst B v' (xs ++ [c]) w' → Pw.Adds w w' v v' → wpList Tryz.prog ops Q rest (a.put o.dst v') w') :
    wpList Tryz.prog ops Q (o :: rest) a (w.alloc (.cells #[.int .u8 (c.toNat : Int)] 5)) := by
  obtain ⟨i0, hi, hz0, hz1, hz2⟩ := info_parts Tryz.info5
  obtain ⟨hown, hB⟩ := hown
  have hadd : (Value.int IntKind.u8 (c.toNat : Int)).oneCell' = true := rfl
  refine wpList_append_own_at _ hgd s x 44 ho B 5 i0 (.int .u8 0) 1 1 Tryz.underlying44 hi hz0 hz1 hz2 rfl (by decide) v xs.length (Lib.byteCells xs) hs (hown.alloc _) ⟨w.heap.size, 0, none⟩ 1 cap [.int .u8 (c.toNat : Int)] hx rfl ?_ ?_ ?_ ?_ ?_ ?_
  · exact cell_one_new _ _ _
  · intro u hu; simp at hu; subst hu; rfl
  · unfold maxLen; omega
  · omega
  · simp; omega
  · intro v' w' h1 h2 _ h4
    refine h v' w' ⟨by rw [Pw.cells_append, List.length_append]; exact h1, ?_⟩ ⟨⟨h2.os, h2.tape, h2.output, ?_, ?_⟩, ?_⟩
    · have := h2.size; simp at this; omega
    · have := h2.size; simp at this; omega
    · intro k hk hn
      rw [h2.block k (by simp; omega) hn]
      exact Below.heap_alloc w _ k hk
    · rcases h4 with e | e
      · exact .inl e
      · exact .inr ⟨_, e, by simp⟩
set_option maxRecDepth 100000 in
/-- Nought: '0', with its sign. -/
theorem Pw.fmtEFG_zero (neg : Bool) (B : Nat) (v : Value) (xs : List UInt8) (w : World) (hd : Pw.Dst B v xs w) (hl : xs.length ≤ 90000) :
    Calls Tryz.prog 80 #[v, .bool neg, .slice none 0 0, .int .i64 0, .int .i64 0, .int .i64 (-1), .int .u8 102, .bool true] w fun e w' => ∃ v', e = .returned v' ∧ Pw.Dst B v' (xs ++ (if neg then [45] else []) ++ [48]) w' ∧ Pw.Adds w w' v v' := by
  cases neg
  · go_enter Tryz.func80, Tryz.ntmps80
    go_wp2_with (first | (at_builtin; refine Pw.wp_app1 rfl _ _ rfl B v xs hd rfl 48 _ rfl (by omega) ?_; intro v1 w1 hd1 ha1))
    go_ret
    exact ⟨v1, rfl, hd1, ha1⟩
  · go_enter Tryz.func80, Tryz.ntmps80
    go_wp2_with (first | (at_builtin; refine Pw.wp_app1 rfl _ _ rfl B v xs hd rfl 45 _ rfl (by omega) ?_; intro v1 w1 hd1 ha1) | (at_builtin; refine Pw.wp_app1 rfl _ _ rfl B _ _ (by assumption) rfl 48 _ rfl (by simp; omega) ?_; intro v2 w2 hd2 ha2))
    go_ret
    exact ⟨v2, rfl, by simpa using hd2, ha1.trans ha2⟩
end Go.Proofs
namespace Go.Proofs
open Go Go.RowKit
/-- What a writer leaves: ys behind xs. -/
def Pw.Wrote (B : Nat) (v : Value) (xs ys : List UInt8) (w : World) (e : Ending) (w' : World) : Prop := ∃ v', e = .returned v' ∧ Pw.Dst B v' (xs ++ ys) w' ∧ Pw.Adds w w' v v'
set_option maxRecDepth 100000 in
theorem Pw.fmtEFG_1p (B : Nat) (v : Value) (xs : List UInt8) (bs : Nat) (D : List UInt8) (dp : Nat) (w : World) (hd : Pw.Dst B v xs w) (hl : xs.length ≤ 90000) (h1 : 1 ≤ D.length) (h2 : D.length ≤ dp) (h3 : dp ≤ 400) (h4 : D.length ≤ 32)
    (hb : some bs ≠ v.ownBlock) (hc : ∀ i (h : i < D.length), w.cell? ⟨bs, i, none⟩ = some (.int .u8 (D[i].toNat : Int))) :
    Calls Tryz.prog 80 #[v, .bool false, .slice (some ⟨bs, 0, none⟩) 32 32, .int .i64 dp, .int .i64 D.length, .int .i64 0, .int .u8 102, .bool true] w (Pw.Wrote B v xs ((D ++ List.replicate (dp - D.length) 48)) w) := by
  have e1 : decide (0 < dp) = true := by simp; omega
  have e2 : min (D.length : Int) dp = D.length := by omega
  have e3 : max (D.length : Int) 0 = D.length := by omega
  obtain ⟨wS, hwS⟩ : ∃ wS : World, wS = w := ⟨_, rfl⟩
  have hdS := hd
  have haS := Pw.Adds.refl w v
  clear hwS wS
  go_enter Tryz.func80, Tryz.ntmps80
  go_wp2
  go_loopw [0, 25, 191] (fun v' _ i wr => ∃ j : Nat, j ≤ D.length ∧ i = .int .i64 j ∧ Pw.Dst B v' (xs ++ (D.drop (0)).take j) wr ∧ Pw.Adds w wr v v') (fun _ _ i _ => D.length - (intOf i).toNat)
  case atStart => exact ⟨0, Nat.zero_le _, rfl, by simpa using hdS, haS⟩
  case round =>
    obtain ⟨j1, hj1, rfl, hdj1, haj1⟩ := hrel
    by_cases hlt1 : j1 < D.length
    · have hin1 : 0 + j1 < D.length := by omega
      obtain ⟨c, hcc⟩ : ∃ c, c = D[0 + j1] := ⟨_, rfl⟩
      have hcell : wr.cell? ⟨bs, j1, none⟩ = some (.int .u8 (c.toNat : Int)) := by rw [hcc]; have h0 := haj1.cell hb (hc _ hin1); first | exact h0 | (simpa using h0)
      have hlu1 : (j1 : Int) < D.length := by omega
      have hts : (D.drop (0)).take (j1 + 1) = (D.drop (0)).take j1 ++ [c] := by rw [List.take_succ_eq_append_getElem (by simp; omega), List.getElem_drop, hcc]
      have HTS := Lib.hid hts
      clear hts hcc
      go_wp2_with (first | (at_builtin; go_must (refine Pw.wp_app1 rfl _ _ rfl B _ _ hdj1 rfl c _ rfl (by simp; omega) ?_; intro v1 w1 hd1 ha1)))
      go_roundw
      case rel => exact ⟨j1 + 1, by omega, by go_num, by rw [HTS.out, ← List.append_assoc]; exact hd1, haj1.trans ha1⟩
      case measure => simp [intOf]; omega
    · have hlu1 : ¬ (j1 : Int) < D.length := by omega
      have hdz1 := hdj1
      rw [show j1 = D.length from by omega] at hdz1
      go_wp2
      obtain ⟨wo2, rfl⟩ : ∃ wo : World, wo = wr := ⟨_, rfl⟩
      go_loopw [0, 203] (fun v' i w2 => ∃ j : Nat, j ≤ dp - D.length ∧ i = .int .i64 j ∧ Pw.Dst B v' (xs ++ (D.drop (0)).take (D.length) ++ List.replicate j 48) w2 ∧ Pw.Adds w w2 v v') (fun _ i _ => dp - D.length - (intOf i).toNat)
      case atStart => exact ⟨0, Nat.zero_le _, rfl, by simpa using hdz1, haj1⟩
      case round =>
        obtain ⟨j2, hj2, rfl, hdj2, haj2⟩ := hrel
        by_cases hlt2 : j2 < dp - D.length
        · have hlu2 : (j2 : Int) < (dp : Int) - D.length := by omega
          go_wp2_with (first | (at_builtin; go_must (refine Pw.wp_app1 rfl _ _ rfl B _ _ hdj2 rfl 48 _ rfl (by simp; omega) ?_; intro v1 w1 hd1 ha1)))
          go_roundw
          case rel => exact ⟨j2 + 1, by omega, by go_num, by rw [List.replicate_succ', ← List.append_assoc]; exact hd1, haj2.trans ha1⟩
          case measure => simp [intOf]; omega
        · have hlu2 : ¬ (j2 : Int) < (dp : Int) - D.length := by omega
          have hdz2 := hdj2
          rw [show j2 = dp - D.length from by omega] at hdz2
          go_wp2
          go_ret
          refine ⟨_, rfl, ?_, haj2⟩
          have hfin := hdz2
          simp only [List.drop_zero, List.take_length, List.append_assoc] at hfin ⊢
          exact hfin
set_option maxRecDepth 100000 in
theorem Pw.fmtEFG_1n (B : Nat) (v : Value) (xs : List UInt8) (bs : Nat) (D : List UInt8) (dp : Nat) (w : World) (hd : Pw.Dst B v xs w) (hl : xs.length ≤ 90000) (h1 : 1 ≤ D.length) (h2 : D.length ≤ dp) (h3 : dp ≤ 400) (h4 : D.length ≤ 32)
    (hb : some bs ≠ v.ownBlock) (hc : ∀ i (h : i < D.length), w.cell? ⟨bs, i, none⟩ = some (.int .u8 (D[i].toNat : Int))) :
    Calls Tryz.prog 80 #[v, .bool true, .slice (some ⟨bs, 0, none⟩) 32 32, .int .i64 dp, .int .i64 D.length, .int .i64 0, .int .u8 102, .bool true] w (Pw.Wrote B v xs ([45] ++ (D ++ List.replicate (dp - D.length) 48)) w) := by
  have e1 : decide (0 < dp) = true := by simp; omega
  have e2 : min (D.length : Int) dp = D.length := by omega
  have e3 : max (D.length : Int) 0 = D.length := by omega
  go_enter Tryz.func80, Tryz.ntmps80
  go_wp2_with (first | (at_builtin; refine Pw.wp_app1 rfl _ _ rfl B v xs hd rfl 45 _ rfl (by omega) ?_; intro vS wS hdS haS))
  go_loopw [0, 25, 191] (fun v' _ i wr => ∃ j : Nat, j ≤ D.length ∧ i = .int .i64 j ∧ Pw.Dst B v' (xs ++ [45] ++ (D.drop (0)).take j) wr ∧ Pw.Adds w wr v v') (fun _ _ i _ => D.length - (intOf i).toNat)
  case atStart => exact ⟨0, Nat.zero_le _, rfl, by simpa using hdS, haS⟩
  case round =>
    obtain ⟨j1, hj1, rfl, hdj1, haj1⟩ := hrel
    by_cases hlt1 : j1 < D.length
    · have hin1 : 0 + j1 < D.length := by omega
      obtain ⟨c, hcc⟩ : ∃ c, c = D[0 + j1] := ⟨_, rfl⟩
      have hcell : wr.cell? ⟨bs, j1, none⟩ = some (.int .u8 (c.toNat : Int)) := by rw [hcc]; have h0 := haj1.cell hb (hc _ hin1); first | exact h0 | (simpa using h0)
      have hlu1 : (j1 : Int) < D.length := by omega
      have hts : (D.drop (0)).take (j1 + 1) = (D.drop (0)).take j1 ++ [c] := by rw [List.take_succ_eq_append_getElem (by simp; omega), List.getElem_drop, hcc]
      have HTS := Lib.hid hts
      clear hts hcc
      go_wp2_with (first | (at_builtin; go_must (refine Pw.wp_app1 rfl _ _ rfl B _ _ hdj1 rfl c _ rfl (by simp; omega) ?_; intro v1 w1 hd1 ha1)))
      go_roundw
      case rel => exact ⟨j1 + 1, by omega, by go_num, by rw [HTS.out, ← List.append_assoc]; exact hd1, haj1.trans ha1⟩
      case measure => simp [intOf]; omega
    · have hlu1 : ¬ (j1 : Int) < D.length := by omega
      have hdz1 := hdj1
      rw [show j1 = D.length from by omega] at hdz1
      go_wp2
      obtain ⟨wo2, rfl⟩ : ∃ wo : World, wo = wr := ⟨_, rfl⟩
      go_loopw [0, 203] (fun v' i w2 => ∃ j : Nat, j ≤ dp - D.length ∧ i = .int .i64 j ∧ Pw.Dst B v' (xs ++ [45] ++ (D.drop (0)).take (D.length) ++ List.replicate j 48) w2 ∧ Pw.Adds w w2 v v') (fun _ i _ => dp - D.length - (intOf i).toNat)
      case atStart => exact ⟨0, Nat.zero_le _, rfl, by simpa using hdz1, haj1⟩
      case round =>
        obtain ⟨j2, hj2, rfl, hdj2, haj2⟩ := hrel
        by_cases hlt2 : j2 < dp - D.length
        · have hlu2 : (j2 : Int) < (dp : Int) - D.length := by omega
          go_wp2_with (first | (at_builtin; go_must (refine Pw.wp_app1 rfl _ _ rfl B _ _ hdj2 rfl 48 _ rfl (by simp; omega) ?_; intro v1 w1 hd1 ha1)))
          go_roundw
          case rel => exact ⟨j2 + 1, by omega, by go_num, by rw [List.replicate_succ', ← List.append_assoc]; exact hd1, haj2.trans ha1⟩
          case measure => simp [intOf]; omega
        · have hlu2 : ¬ (j2 : Int) < (dp : Int) - D.length := by omega
          have hdz2 := hdj2
          rw [show j2 = dp - D.length from by omega] at hdz2
          go_wp2
          go_ret
          refine ⟨_, rfl, ?_, haj2⟩
          have hfin := hdz2
          simp only [List.drop_zero, List.take_length, List.append_assoc] at hfin ⊢
          exact hfin
end Go.Proofs

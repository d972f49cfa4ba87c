/- Part of the proof of FnPlaceBack: walk: the numbers of a place. No condition. -/
import Derived.Test.YtmhpnnbfnbaekaaGreatDoorMW12
import Derived.Test.YtmhpnnbfnbaekaaGreatDoorMW34
import Derived.Test.YtmhpnnbfnbaekaaGreatDoorMW7
namespace Go.Proofs
open Go Go.RowKit
theorem Tryz.info22 : (Tryz.prog.info? 22).map (fun i => (i.zero, i.size, i.bytes)) = some (some (.float .f64 0), 1, 8) := by kernel_rfl
def Pw.Fl (B : Nat) (v : Value) (xs : List Nat) (w : World) : Prop := w.ownsRow B 22 1 v xs.length (xs.map (Value.float .f64)) ∧ B ≤ w.heap.size
/-- out = append(out, a float or two). -/
theorem Pw.wp_appF {ops : Array Oper} {rest : List Oper} {o : Oper} {a : Act} {Q : Exit → Act → World → Prop} {w : World} (hgd : o.guard = none) (s x : Operand)
    (ho : o.op = .call { callee := .builtin .append, args := #[s, x], argTypes := #[25, 25] })
    (B : Nat) (v : Value) (xs : List Nat) (hown : Pw.Fl B v xs w) (hs : a.eval s = v) (ys : List Nat) (n cap : Nat) (hn : ys.length = n)
    (hx : a.eval x = .slice (some ⟨w.heap.size, 0, none⟩) n cap) (hlen : xs.length ≤ 10) (hy : ys.length ≤ 10) (W : World) (hW : W = w.alloc (.cells (ys.map (Value.float .f64)).toArray 22))
    (h : ∀ v' w', Pw.Fl B v' (xs ++ ys) w' → Pw.Adds w w' v v' → wpList Tryz.prog ops Q rest (a.put o.dst v') w') :
    wpList Tryz.prog ops Q (o :: rest) a W := by
  subst hW
  obtain ⟨i0, hi, hz0, hz1, hz2⟩ := info_parts Tryz.info22
  obtain ⟨hown, hB⟩ := hown
  refine wpList_append_own_at _ hgd s x 25 ho B 22 i0 (.float .f64 0) 1 8 Tryz.underlying25 hi hz0 hz1 hz2 rfl (by decide) v xs.length (xs.map (Value.float .f64)) hs (hown.alloc _) ⟨w.heap.size, 0, none⟩ n cap (ys.map (Value.float .f64)) hx ?_ ?_ ?_ ?_ ?_ ?_ ?_
  · simp [hn]
  · intro j u hj
    show (w.alloc _).cell? ((⟨w.heap.size, 0, none⟩ : Addr).add j) = some u
    have e : (⟨w.heap.size, 0, none⟩ : Addr).add j = ⟨w.heap.size, j, none⟩ := by unfold Addr.add; split <;> simp_all
    rw [e, World.cell?_alloc_new]
    simpa using hj
  · intro u hu
    obtain ⟨b, -, rfl⟩ := List.mem_map.1 hu
    rfl
  · unfold maxLen; omega
  · omega
  · simp; omega
  · intro v' w' h1 h2 _ h4
    refine h v' w' ⟨by rw [List.map_append, List.length_append, hn]; exact h1, ?_⟩ ⟨⟨h2.os, h2.tape, h2.output, ?_, ?_⟩, ?_⟩
    · have := h2.size; simp at this; omega
    · have := h2.size; simp at this; omega
    · intro k hk hn
      rw [h2.block k (by simp; omega) hn]
      exact Below.heap_alloc w _ k hk
    · rcases h4 with e | e
      · exact .inl e
      · exact .inr ⟨_, e, by simp⟩
end Go.Proofs
namespace Go.Proofs
open Go Go.RowKit
def Pw.numsOf (x y z m t : Nat) : List Nat := [x, y] ++ (if t % 2 = 1 then [z] else []) ++ (if t / 2 = 1 then [m] else [])
def Pw.OnF (W0 : World) (v : Value) (xs : List Nat) (w : World) : Prop := Pw.Fl W0.heap.size v xs w ∧ W0.grownBy w none
theorem Pw.OnF.step {W0 : World} {v v' : Value} {xs xs' : List Nat} {w w' : World} (h : Pw.OnF W0 v xs w) (hd : Pw.Fl W0.heap.size v' xs' w') (ha : Pw.Adds w w' v v') : Pw.OnF W0 v' xs' w' :=
  ⟨hd, Pw.grown_trans h.2 ha.1 fun i hi => (h.1.1.lt i hi).1⟩
theorem Pw.OnF.nil (W0 : World) : Pw.OnF W0 (.slice none 0 0) [] W0 :=
  ⟨⟨World.ownsRow_nil W0 W0.heap.size 22 1, Nat.le_refl _⟩, ⟨rfl, rfl, rfl, Nat.le_refl _, fun _ _ _ => rfl⟩⟩
theorem Pw.OnF.cell {W0 : World} {v : Value} {xs : List Nat} {w : World} (h : Pw.OnF W0 v xs w) {a : Addr} {u : Value} (hc : W0.cell? a = some u) : w.cell? a = some u := h.2.cell hc (by simp)
theorem Pw.wp_onF {ops : Array Oper} {rest : List Oper} {o : Oper} {a : Act} {Q : Exit → Act → World → Prop} {w : World} (hgd : o.guard = none) (s x : Operand)
    (ho : o.op = .call { callee := .builtin .append, args := #[s, x], argTypes := #[25, 25] })
    (W0 : World) (v : Value) (xs : List Nat) (hown : Pw.OnF W0 v xs w) (hs : a.eval s = v) (ys : List Nat) (n cap : Nat) (hn : ys.length = n)
    (hx : a.eval x = .slice (some ⟨w.heap.size, 0, none⟩) n cap) (hlen : xs.length ≤ 10) (hy : ys.length ≤ 10) (W : World) (hW : W = w.alloc (.cells (ys.map (Value.float .f64)).toArray 22))
    (h : ∀ v' w', Pw.OnF W0 v' (xs ++ ys) w' → wpList Tryz.prog ops Q rest (a.put o.dst v') w') :
    wpList Tryz.prog ops Q (o :: rest) a W :=
  Pw.wp_appF hgd s x ho W0.heap.size v xs hown.1 hs ys n cap hn hx hlen hy W hW fun v' w' h1 h2 => h v' w' (hown.step h1 h2)
set_option maxRecDepth 100000 in
set_option maxHeartbeats 2000000 in
theorem Pw.nums0 (x y z m sb : Nat) (w : World) (h0 : w.cell? ⟨sb, 0, none⟩ = some (.float .f64 x)) (h1 : w.cell? ⟨sb, 1, none⟩ = some (.float .f64 y)) (h2 : w.cell? ⟨sb, 2, none⟩ = some (.float .f64 z)) (h3 : w.cell? ⟨sb, 3, none⟩ = some (.float .f64 m)) :
    Calls Tryz.prog 9 #[.slice (some ⟨sb, 0, none⟩) 1 1, .int .i64 0] w fun e w' => ∃ v, e = .returned v ∧ Pw.Fl (w.heap.size + 1) v ([x, y]) w' ∧ w.grownBy w' none := by
  have hst := Pw.store_float Tryz.prog
  obtain ⟨W0, hW0⟩ : ∃ W0, W0 = w.alloc (.cells #[.float .f64 x, .float .f64 y, .float .f64 z, .float .f64 m] 35) := ⟨_, rfl⟩
  have hsz : W0.heap.size = w.heap.size + 1 := by rw [hW0]; simp
  have hgW : w.grownBy W0 none := by rw [hW0]; exact World.grownBy_alloc _ _ _
  have c0 : W0.cell? ⟨w.heap.size, 0, none⟩ = some (.float .f64 x) := by rw [hW0]; simp
  have c1 : W0.cell? ⟨w.heap.size, 1, none⟩ = some (.float .f64 y) := by rw [hW0]; simp
  have c2 : W0.cell? ⟨w.heap.size, 2, none⟩ = some (.float .f64 z) := by rw [hW0]; simp
  have c3 : W0.cell? ⟨w.heap.size, 3, none⟩ = some (.float .f64 m) := by rw [hW0]; simp
  have C := Lib.hid (And.intro c0 (And.intro c1 (And.intro c2 c3)))
  have HW := Lib.hid hW0
  have HG := Lib.hid (And.intro hsz hgW)
  have hOn0 := Pw.OnF.nil W0
  clear hW0 hsz hgW c0 c1 c2 c3
  go_enter Tryz.func9, Tryz.ntmps9
  go_wp2
  go_loopw [5, 7, 10] (fun v p i wr => (i = .int .i64 0 ∧ v = .slice none 0 0 ∧ wr = w) ∨ (i = .int .i64 1 ∧ Pw.Fl (w.heap.size + 1) v ([x, y]) wr ∧ w.grownBy wr none)) (fun _ _ i _ => 1 - (intOf i).toNat)
  case atStart => exact .inl ⟨rfl, rfl, rfl⟩
  case round =>
    rcases hrel with ⟨rfl, rfl, rfl⟩ | ⟨rfl, hF, hg⟩
    · go_wp2_with (first
        | (at_builtin; refine Pw.wp_onF rfl _ _ rfl W0 _ [] hOn0 rfl [x, y] 2 2 rfl (by rw [HG.out.1]; rfl) (by simp) (by simp) _ (by rw [HW.out]; rfl) ?_; intro v1 w1 hOn1; have ca := hOn1.cell C.out.1; have cb := hOn1.cell C.out.2.1; have cc := hOn1.cell C.out.2.2.1; have cd := hOn1.cell C.out.2.2.2))
      go_roundw
      case rel =>
        refine .inr ⟨rfl, ?_, ?_⟩
        · rw [← HG.out.1]; exact hOn1.1
        · exact Pw.grown_trans HG.out.2 hOn1.2 (by simp)
      case measure => simp [intOf]
    · go_wp2
      go_ret
      exact ⟨_, rfl, hF, hg⟩
set_option maxRecDepth 100000 in
set_option maxHeartbeats 2000000 in
theorem Pw.nums1 (x y z m sb : Nat) (w : World) (h0 : w.cell? ⟨sb, 0, none⟩ = some (.float .f64 x)) (h1 : w.cell? ⟨sb, 1, none⟩ = some (.float .f64 y)) (h2 : w.cell? ⟨sb, 2, none⟩ = some (.float .f64 z)) (h3 : w.cell? ⟨sb, 3, none⟩ = some (.float .f64 m)) :
    Calls Tryz.prog 9 #[.slice (some ⟨sb, 0, none⟩) 1 1, .int .i64 1] w fun e w' => ∃ v, e = .returned v ∧ Pw.Fl (w.heap.size + 1) v ([x, y] ++ [z]) w' ∧ w.grownBy w' none := by
  have hst := Pw.store_float Tryz.prog
  obtain ⟨W0, hW0⟩ : ∃ W0, W0 = w.alloc (.cells #[.float .f64 x, .float .f64 y, .float .f64 z, .float .f64 m] 35) := ⟨_, rfl⟩
  have hsz : W0.heap.size = w.heap.size + 1 := by rw [hW0]; simp
  have hgW : w.grownBy W0 none := by rw [hW0]; exact World.grownBy_alloc _ _ _
  have c0 : W0.cell? ⟨w.heap.size, 0, none⟩ = some (.float .f64 x) := by rw [hW0]; simp
  have c1 : W0.cell? ⟨w.heap.size, 1, none⟩ = some (.float .f64 y) := by rw [hW0]; simp
  have c2 : W0.cell? ⟨w.heap.size, 2, none⟩ = some (.float .f64 z) := by rw [hW0]; simp
  have c3 : W0.cell? ⟨w.heap.size, 3, none⟩ = some (.float .f64 m) := by rw [hW0]; simp
  have C := Lib.hid (And.intro c0 (And.intro c1 (And.intro c2 c3)))
  have HW := Lib.hid hW0
  have HG := Lib.hid (And.intro hsz hgW)
  have hOn0 := Pw.OnF.nil W0
  clear hW0 hsz hgW c0 c1 c2 c3
  go_enter Tryz.func9, Tryz.ntmps9
  go_wp2
  go_loopw [5, 7, 10] (fun v p i wr => (i = .int .i64 0 ∧ v = .slice none 0 0 ∧ wr = w) ∨ (i = .int .i64 1 ∧ Pw.Fl (w.heap.size + 1) v ([x, y] ++ [z]) wr ∧ w.grownBy wr none)) (fun _ _ i _ => 1 - (intOf i).toNat)
  case atStart => exact .inl ⟨rfl, rfl, rfl⟩
  case round =>
    rcases hrel with ⟨rfl, rfl, rfl⟩ | ⟨rfl, hF, hg⟩
    · go_wp2_with (first
        | (at_builtin; refine Pw.wp_onF rfl _ _ rfl W0 _ [] hOn0 rfl [x, y] 2 2 rfl (by rw [HG.out.1]; rfl) (by simp) (by simp) _ (by rw [HW.out]; rfl) ?_; intro v1 w1 hOn1; have ca := hOn1.cell C.out.1; have cb := hOn1.cell C.out.2.1; have cc := hOn1.cell C.out.2.2.1; have cd := hOn1.cell C.out.2.2.2)
        | (at_builtin; refine Pw.wp_onF rfl _ _ rfl W0 _ [x, y] (by assumption) rfl [z] 1 _ rfl rfl (by simp) (by simp) _ rfl ?_; intro v1 w1 hOn1; have ca := hOn1.cell C.out.1; have cb := hOn1.cell C.out.2.1; have cc := hOn1.cell C.out.2.2.1; have cd := hOn1.cell C.out.2.2.2))
      go_roundw
      case rel =>
        refine .inr ⟨rfl, ?_, ?_⟩
        · rw [← HG.out.1]; exact hOn1.1
        · exact Pw.grown_trans HG.out.2 hOn1.2 (by simp)
      case measure => simp [intOf]
    · go_wp2
      go_ret
      exact ⟨_, rfl, hF, hg⟩
set_option maxRecDepth 100000 in
set_option maxHeartbeats 2000000 in
theorem Pw.nums2 (x y z m sb : Nat) (w : World) (h0 : w.cell? ⟨sb, 0, none⟩ = some (.float .f64 x)) (h1 : w.cell? ⟨sb, 1, none⟩ = some (.float .f64 y)) (h2 : w.cell? ⟨sb, 2, none⟩ = some (.float .f64 z)) (h3 : w.cell? ⟨sb, 3, none⟩ = some (.float .f64 m)) :
    Calls Tryz.prog 9 #[.slice (some ⟨sb, 0, none⟩) 1 1, .int .i64 2] w fun e w' => ∃ v, e = .returned v ∧ Pw.Fl (w.heap.size + 1) v ([x, y] ++ [m]) w' ∧ w.grownBy w' none := by
  have hst := Pw.store_float Tryz.prog
  obtain ⟨W0, hW0⟩ : ∃ W0, W0 = w.alloc (.cells #[.float .f64 x, .float .f64 y, .float .f64 z, .float .f64 m] 35) := ⟨_, rfl⟩
  have hsz : W0.heap.size = w.heap.size + 1 := by rw [hW0]; simp
  have hgW : w.grownBy W0 none := by rw [hW0]; exact World.grownBy_alloc _ _ _
  have c0 : W0.cell? ⟨w.heap.size, 0, none⟩ = some (.float .f64 x) := by rw [hW0]; simp
  have c1 : W0.cell? ⟨w.heap.size, 1, none⟩ = some (.float .f64 y) := by rw [hW0]; simp
  have c2 : W0.cell? ⟨w.heap.size, 2, none⟩ = some (.float .f64 z) := by rw [hW0]; simp
  have c3 : W0.cell? ⟨w.heap.size, 3, none⟩ = some (.float .f64 m) := by rw [hW0]; simp
  have C := Lib.hid (And.intro c0 (And.intro c1 (And.intro c2 c3)))
  have HW := Lib.hid hW0
  have HG := Lib.hid (And.intro hsz hgW)
  have hOn0 := Pw.OnF.nil W0
  clear hW0 hsz hgW c0 c1 c2 c3
  go_enter Tryz.func9, Tryz.ntmps9
  go_wp2
  go_loopw [5, 7, 10] (fun v p i wr => (i = .int .i64 0 ∧ v = .slice none 0 0 ∧ wr = w) ∨ (i = .int .i64 1 ∧ Pw.Fl (w.heap.size + 1) v ([x, y] ++ [m]) wr ∧ w.grownBy wr none)) (fun _ _ i _ => 1 - (intOf i).toNat)
  case atStart => exact .inl ⟨rfl, rfl, rfl⟩
  case round =>
    rcases hrel with ⟨rfl, rfl, rfl⟩ | ⟨rfl, hF, hg⟩
    · go_wp2_with (first
        | (at_builtin; refine Pw.wp_onF rfl _ _ rfl W0 _ [] hOn0 rfl [x, y] 2 2 rfl (by rw [HG.out.1]; rfl) (by simp) (by simp) _ (by rw [HW.out]; rfl) ?_; intro v1 w1 hOn1; have ca := hOn1.cell C.out.1; have cb := hOn1.cell C.out.2.1; have cc := hOn1.cell C.out.2.2.1; have cd := hOn1.cell C.out.2.2.2)
        | (at_builtin; refine Pw.wp_onF rfl _ _ rfl W0 _ [x, y] (by assumption) rfl [m] 1 _ rfl rfl (by simp) (by simp) _ rfl ?_; intro v1 w1 hOn1; have ca := hOn1.cell C.out.1; have cb := hOn1.cell C.out.2.1; have cc := hOn1.cell C.out.2.2.1; have cd := hOn1.cell C.out.2.2.2))
      go_roundw
      case rel =>
        refine .inr ⟨rfl, ?_, ?_⟩
        · rw [← HG.out.1]; exact hOn1.1
        · exact Pw.grown_trans HG.out.2 hOn1.2 (by simp)
      case measure => simp [intOf]
    · go_wp2
      go_ret
      exact ⟨_, rfl, hF, hg⟩
set_option maxRecDepth 100000 in
set_option maxHeartbeats 2000000 in
theorem Pw.nums3 (x y z m sb : Nat) (w : World) (h0 : w.cell? ⟨sb, 0, none⟩ = some (.float .f64 x)) (h1 : w.cell? ⟨sb, 1, none⟩ = some (.float .f64 y)) (h2 : w.cell? ⟨sb, 2, none⟩ = some (.float .f64 z)) (h3 : w.cell? ⟨sb, 3, none⟩ = some (.float .f64 m)) :
    Calls Tryz.prog 9 #[.slice (some ⟨sb, 0, none⟩) 1 1, .int .i64 3] w fun e w' => ∃ v, e = .returned v ∧ Pw.Fl (w.heap.size + 1) v ([x, y] ++ [z] ++ [m]) w' ∧ w.grownBy w' none := by
  have hst := Pw.store_float Tryz.prog
  obtain ⟨W0, hW0⟩ : ∃ W0, W0 = w.alloc (.cells #[.float .f64 x, .float .f64 y, .float .f64 z, .float .f64 m] 35) := ⟨_, rfl⟩
  have hsz : W0.heap.size = w.heap.size + 1 := by rw [hW0]; simp
  have hgW : w.grownBy W0 none := by rw [hW0]; exact World.grownBy_alloc _ _ _
  have c0 : W0.cell? ⟨w.heap.size, 0, none⟩ = some (.float .f64 x) := by rw [hW0]; simp
  have c1 : W0.cell? ⟨w.heap.size, 1, none⟩ = some (.float .f64 y) := by rw [hW0]; simp
  have c2 : W0.cell? ⟨w.heap.size, 2, none⟩ = some (.float .f64 z) := by rw [hW0]; simp
  have c3 : W0.cell? ⟨w.heap.size, 3, none⟩ = some (.float .f64 m) := by rw [hW0]; simp
  have C := Lib.hid (And.intro c0 (And.intro c1 (And.intro c2 c3)))
  have HW := Lib.hid hW0
  have HG := Lib.hid (And.intro hsz hgW)
  have hOn0 := Pw.OnF.nil W0
  clear hW0 hsz hgW c0 c1 c2 c3
  go_enter Tryz.func9, Tryz.ntmps9
  go_wp2
  go_loopw [5, 7, 10] (fun v p i wr => (i = .int .i64 0 ∧ v = .slice none 0 0 ∧ wr = w) ∨ (i = .int .i64 1 ∧ Pw.Fl (w.heap.size + 1) v ([x, y] ++ [z] ++ [m]) wr ∧ w.grownBy wr none)) (fun _ _ i _ => 1 - (intOf i).toNat)
  case atStart => exact .inl ⟨rfl, rfl, rfl⟩
  case round =>
    rcases hrel with ⟨rfl, rfl, rfl⟩ | ⟨rfl, hF, hg⟩
    · go_wp2_with (first
        | (at_builtin; refine Pw.wp_onF rfl _ _ rfl W0 _ [] hOn0 rfl [x, y] 2 2 rfl (by rw [HG.out.1]; rfl) (by simp) (by simp) _ (by rw [HW.out]; rfl) ?_; intro v1 w1 hOn1; have ca := hOn1.cell C.out.1; have cb := hOn1.cell C.out.2.1; have cc := hOn1.cell C.out.2.2.1; have cd := hOn1.cell C.out.2.2.2)
        | (at_builtin; refine Pw.wp_onF rfl _ _ rfl W0 _ [x, y] (by assumption) rfl [z] 1 _ rfl rfl (by simp) (by simp) _ rfl ?_; intro v1 w1 hOn1; have ca := hOn1.cell C.out.1; have cb := hOn1.cell C.out.2.1; have cc := hOn1.cell C.out.2.2.1; have cd := hOn1.cell C.out.2.2.2)
        | (at_builtin; refine Pw.wp_onF rfl _ _ rfl W0 _ ([x, y] ++ [z]) (by assumption) rfl [m] 1 _ rfl rfl (by simp) (by simp) _ rfl ?_; intro v1 w1 hOn1; have ca := hOn1.cell C.out.1; have cb := hOn1.cell C.out.2.1; have cc := hOn1.cell C.out.2.2.1; have cd := hOn1.cell C.out.2.2.2))
      go_roundw
      case rel =>
        refine .inr ⟨rfl, ?_, ?_⟩
        · rw [← HG.out.1]; exact hOn1.1
        · exact Pw.grown_trans HG.out.2 hOn1.2 (by simp)
      case measure => simp [intOf]
    · go_wp2
      go_ret
      exact ⟨_, rfl, hF, hg⟩
end Go.Proofs

/- Part of the proof of FnPlaceBack: walk: writing a place: WritePlace. No condition. -/
import Derived.Test.YtmhpnnbfnbaekaaGreatDoorMW7
import Derived.Laws.IdiomStrings
namespace Go.Proofs
open Go Go.RowKit
theorem Pw.wp_on1 {ops : Array Oper} {rest : List Oper} {o : Oper} {a : Act} {Q : Exit → Act → World → Prop} {w : World} (hgd : o.guard = none) (s x : Operand)
    (ho : o.op = .call { callee := .builtin .append, args := #[s, x], argTypes := #[44, 44] })
    (W0 : World) (v : Value) (xs : List UInt8) (hown : Pw.On W0 v xs w) (hs : a.eval s = v) (c : UInt8) (cap : Nat)
    (hx : a.eval x = .slice (some ⟨w.heap.size, 0, none⟩) 1 cap) (hlen : xs.length ≤ 100000)
    (h : ∀ v' w', Pw.On W0 v' (xs ++ [c]) w' → wpList Tryz.prog ops Q rest (a.put o.dst v') w') :
    wpList Tryz.prog ops Q (o :: rest) a (w.alloc (.cells #[.int .u8 (c.toNat : Int)] 5)) :=
  Pw.wp_app1 hgd s x ho W0.heap.size v xs hown.1 hs c cap hx hlen fun v' w' h1 h2 => h v' w' (hown.step h1 h2)
def Pw.fin (b : Nat) : Prop := b < 18446744073709551616 ∧ b / 2 ^ 52 % 2048 ≠ 2047
set_option maxRecDepth 100000 in
set_option maxHeartbeats 2000000 in
theorem Pw.appendCoords0 (x y z m : Nat) (hx : Pw.fin x) (hy : Pw.fin y) (w : World) (ht : Pw.PowTab w) (htab : Lib.TabIs Tryz.prog w "internal/strconv.uint64pow10" .u64 Lib.pow10Tab) :
   Calls Tryz.prog 20 #[.slice none 0 0, .agg #[.float .f64 x, .float .f64 y, .float .f64 z, .float .f64 m, .int .u8 0], .bool false] w fun e w' => ∃ v, e = .returned v ∧ Pw.On (w.alloc (.cells #[.float .f64 x, .float .f64 y, .float .f64 z, .float .f64 m, .int .u8 0] 49)) v (Pw.numText x ++ [32] ++ Pw.numText y) w' := by
  obtain ⟨W0, hW0⟩ : ∃ W0, W0 = (w.alloc (.cells #[.float .f64 x, .float .f64 y, .float .f64 z, .float .f64 m, .int .u8 0] 49)) := ⟨_, rfl⟩
  rw [← hW0]
  have hOn0 := Pw.On.nil W0
  have ht0 : Pw.PowTab W0 := by rw [hW0]; exact ht.alloc _
  have htab0 : Lib.TabIs Tryz.prog W0 "internal/strconv.uint64pow10" .u64 Lib.pow10Tab := Pw.tabIs_keep htab (by rw [hW0]; exact World.grownBy_alloc _ _ _)
  have lx := Pw.txtLen x hx.2
  have ly := Pw.txtLen y hy.2
  have hf := fun b (hb : Pw.fin b) v xs w => Pw.On.float ht0 htab0 b hb.1 hb.2 (v := v) (xs := xs) (w := w)
  have h26 := Pw.is3D 0 (by decide)
  have h27 := Pw.isMeasured 0 (by decide)
  have c0 : W0.cell? ⟨w.heap.size, 0, none⟩ = some (.float .f64 x) := by rw [hW0]; simp
  have c1 : W0.cell? ⟨w.heap.size, 1, none⟩ = some (.float .f64 y) := by rw [hW0]; simp
  have c2 : W0.cell? ⟨w.heap.size, 2, none⟩ = some (.float .f64 z) := by rw [hW0]; simp
  have c3 : W0.cell? ⟨w.heap.size, 3, none⟩ = some (.float .f64 m) := by rw [hW0]; simp
  have c4 : W0.cell? ⟨w.heap.size, 4, none⟩ = some (.int .u8 0) := by rw [hW0]; simp
  have C := Lib.hid (And.intro c0 (And.intro c1 (And.intro c2 (And.intro c3 c4))))
  go_enter Tryz.func20, Tryz.ntmps20
  go_wp2_with fail
  rw [← hW0]
  clear hW0 ht htab ht0 htab0
  go_wp2_with (first
    | (go_at_call 25; refine (hf _ (by assumption) _ _ _ (by assumption) (by simp; try omega)).mono ?_; rintro e w1 ⟨v1, rfl, hOn1⟩; have ca := hOn1.cell C.out.1; have cb := hOn1.cell C.out.2.1; have cc := hOn1.cell C.out.2.2.1; have cd := hOn1.cell C.out.2.2.2.1; have ce := hOn1.cell C.out.2.2.2.2)
    | (at_builtin; refine Pw.wp_on1 rfl _ _ rfl W0 _ _ (by assumption) rfl 32 _ rfl (by simp; omega) ?_; intro v1 w1 hOn1; have ca := hOn1.cell C.out.1; have cb := hOn1.cell C.out.2.1; have cc := hOn1.cell C.out.2.2.1; have cd := hOn1.cell C.out.2.2.2.1; have ce := hOn1.cell C.out.2.2.2.2)
    | (go_at_call 26; refine (h26 _).mono ?_; rintro e w1 ⟨rfl, rfl⟩)
    | (go_at_call 27; refine (h27 _).mono ?_; rintro e w1 ⟨rfl, rfl⟩))
  go_ret
  exact ⟨_, rfl, by assumption⟩
set_option maxRecDepth 100000 in
set_option maxHeartbeats 2000000 in
theorem Pw.appendCoords1 (x y z m : Nat) (hx : Pw.fin x) (hy : Pw.fin y) (hz : Pw.fin z) (w : World) (ht : Pw.PowTab w) (htab : Lib.TabIs Tryz.prog w "internal/strconv.uint64pow10" .u64 Lib.pow10Tab) :
   Calls Tryz.prog 20 #[.slice none 0 0, .agg #[.float .f64 x, .float .f64 y, .float .f64 z, .float .f64 m, .int .u8 1], .bool false] w fun e w' => ∃ v, e = .returned v ∧ Pw.On (w.alloc (.cells #[.float .f64 x, .float .f64 y, .float .f64 z, .float .f64 m, .int .u8 1] 49)) v (Pw.numText x ++ [32] ++ Pw.numText y ++ [32] ++ Pw.numText z) w' := by
  obtain ⟨W0, hW0⟩ : ∃ W0, W0 = (w.alloc (.cells #[.float .f64 x, .float .f64 y, .float .f64 z, .float .f64 m, .int .u8 1] 49)) := ⟨_, rfl⟩
  rw [← hW0]
  have hOn0 := Pw.On.nil W0
  have ht0 : Pw.PowTab W0 := by rw [hW0]; exact ht.alloc _
  have htab0 : Lib.TabIs Tryz.prog W0 "internal/strconv.uint64pow10" .u64 Lib.pow10Tab := Pw.tabIs_keep htab (by rw [hW0]; exact World.grownBy_alloc _ _ _)
  have lx := Pw.txtLen x hx.2
  have ly := Pw.txtLen y hy.2
  have lz := Pw.txtLen z hz.2
  have hf := fun b (hb : Pw.fin b) v xs w => Pw.On.float ht0 htab0 b hb.1 hb.2 (v := v) (xs := xs) (w := w)
  have h26 := Pw.is3D 1 (by decide)
  have h27 := Pw.isMeasured 1 (by decide)
  have c0 : W0.cell? ⟨w.heap.size, 0, none⟩ = some (.float .f64 x) := by rw [hW0]; simp
  have c1 : W0.cell? ⟨w.heap.size, 1, none⟩ = some (.float .f64 y) := by rw [hW0]; simp
  have c2 : W0.cell? ⟨w.heap.size, 2, none⟩ = some (.float .f64 z) := by rw [hW0]; simp
  have c3 : W0.cell? ⟨w.heap.size, 3, none⟩ = some (.float .f64 m) := by rw [hW0]; simp
  have c4 : W0.cell? ⟨w.heap.size, 4, none⟩ = some (.int .u8 1) := by rw [hW0]; simp
  have C := Lib.hid (And.intro c0 (And.intro c1 (And.intro c2 (And.intro c3 c4))))
  go_enter Tryz.func20, Tryz.ntmps20
  go_wp2_with fail
  rw [← hW0]
  clear hW0 ht htab ht0 htab0
  go_wp2_with (first
    | (go_at_call 25; refine (hf _ (by assumption) _ _ _ (by assumption) (by simp; try omega)).mono ?_; rintro e w1 ⟨v1, rfl, hOn1⟩; have ca := hOn1.cell C.out.1; have cb := hOn1.cell C.out.2.1; have cc := hOn1.cell C.out.2.2.1; have cd := hOn1.cell C.out.2.2.2.1; have ce := hOn1.cell C.out.2.2.2.2)
    | (at_builtin; refine Pw.wp_on1 rfl _ _ rfl W0 _ _ (by assumption) rfl 32 _ rfl (by simp; omega) ?_; intro v1 w1 hOn1; have ca := hOn1.cell C.out.1; have cb := hOn1.cell C.out.2.1; have cc := hOn1.cell C.out.2.2.1; have cd := hOn1.cell C.out.2.2.2.1; have ce := hOn1.cell C.out.2.2.2.2)
    | (go_at_call 26; refine (h26 _).mono ?_; rintro e w1 ⟨rfl, rfl⟩)
    | (go_at_call 27; refine (h27 _).mono ?_; rintro e w1 ⟨rfl, rfl⟩))
  go_ret
  exact ⟨_, rfl, by assumption⟩
set_option maxRecDepth 100000 in
set_option maxHeartbeats 2000000 in
theorem Pw.appendCoords2 (x y z m : Nat) (hx : Pw.fin x) (hy : Pw.fin y) (hm : Pw.fin m) (w : World) (ht : Pw.PowTab w) (htab : Lib.TabIs Tryz.prog w "internal/strconv.uint64pow10" .u64 Lib.pow10Tab) :
   Calls Tryz.prog 20 #[.slice none 0 0, .agg #[.float .f64 x, .float .f64 y, .float .f64 z, .float .f64 m, .int .u8 2], .bool false] w fun e w' => ∃ v, e = .returned v ∧ Pw.On (w.alloc (.cells #[.float .f64 x, .float .f64 y, .float .f64 z, .float .f64 m, .int .u8 2] 49)) v (Pw.numText x ++ [32] ++ Pw.numText y ++ [32] ++ Pw.numText m) w' := by
  obtain ⟨W0, hW0⟩ : ∃ W0, W0 = (w.alloc (.cells #[.float .f64 x, .float .f64 y, .float .f64 z, .float .f64 m, .int .u8 2] 49)) := ⟨_, rfl⟩
  rw [← hW0]
  have hOn0 := Pw.On.nil W0
  have ht0 : Pw.PowTab W0 := by rw [hW0]; exact ht.alloc _
  have htab0 : Lib.TabIs Tryz.prog W0 "internal/strconv.uint64pow10" .u64 Lib.pow10Tab := Pw.tabIs_keep htab (by rw [hW0]; exact World.grownBy_alloc _ _ _)
  have lx := Pw.txtLen x hx.2
  have ly := Pw.txtLen y hy.2
  have lm := Pw.txtLen m hm.2
  have hf := fun b (hb : Pw.fin b) v xs w => Pw.On.float ht0 htab0 b hb.1 hb.2 (v := v) (xs := xs) (w := w)
  have h26 := Pw.is3D 2 (by decide)
  have h27 := Pw.isMeasured 2 (by decide)
  have c0 : W0.cell? ⟨w.heap.size, 0, none⟩ = some (.float .f64 x) := by rw [hW0]; simp
  have c1 : W0.cell? ⟨w.heap.size, 1, none⟩ = some (.float .f64 y) := by rw [hW0]; simp
  have c2 : W0.cell? ⟨w.heap.size, 2, none⟩ = some (.float .f64 z) := by rw [hW0]; simp
  have c3 : W0.cell? ⟨w.heap.size, 3, none⟩ = some (.float .f64 m) := by rw [hW0]; simp
  have c4 : W0.cell? ⟨w.heap.size, 4, none⟩ = some (.int .u8 2) := by rw [hW0]; simp
  have C := Lib.hid (And.intro c0 (And.intro c1 (And.intro c2 (And.intro c3 c4))))
  go_enter Tryz.func20, Tryz.ntmps20
  go_wp2_with fail
  rw [← hW0]
  clear hW0 ht htab ht0 htab0
  go_wp2_with (first
    | (go_at_call 25; refine (hf _ (by assumption) _ _ _ (by assumption) (by simp; try omega)).mono ?_; rintro e w1 ⟨v1, rfl, hOn1⟩; have ca := hOn1.cell C.out.1; have cb := hOn1.cell C.out.2.1; have cc := hOn1.cell C.out.2.2.1; have cd := hOn1.cell C.out.2.2.2.1; have ce := hOn1.cell C.out.2.2.2.2)
    | (at_builtin; refine Pw.wp_on1 rfl _ _ rfl W0 _ _ (by assumption) rfl 32 _ rfl (by simp; omega) ?_; intro v1 w1 hOn1; have ca := hOn1.cell C.out.1; have cb := hOn1.cell C.out.2.1; have cc := hOn1.cell C.out.2.2.1; have cd := hOn1.cell C.out.2.2.2.1; have ce := hOn1.cell C.out.2.2.2.2)
    | (go_at_call 26; refine (h26 _).mono ?_; rintro e w1 ⟨rfl, rfl⟩)
    | (go_at_call 27; refine (h27 _).mono ?_; rintro e w1 ⟨rfl, rfl⟩))
  go_ret
  exact ⟨_, rfl, by assumption⟩
set_option maxRecDepth 100000 in
set_option maxHeartbeats 2000000 in
theorem Pw.appendCoords3 (x y z m : Nat) (hx : Pw.fin x) (hy : Pw.fin y) (hz : Pw.fin z) (hm : Pw.fin m) (w : World) (ht : Pw.PowTab w) (htab : Lib.TabIs Tryz.prog w "internal/strconv.uint64pow10" .u64 Lib.pow10Tab) :
   Calls Tryz.prog 20 #[.slice none 0 0, .agg #[.float .f64 x, .float .f64 y, .float .f64 z, .float .f64 m, .int .u8 3], .bool false] w fun e w' => ∃ v, e = .returned v ∧ Pw.On (w.alloc (.cells #[.float .f64 x, .float .f64 y, .float .f64 z, .float .f64 m, .int .u8 3] 49)) v (Pw.numText x ++ [32] ++ Pw.numText y ++ [32] ++ Pw.numText z ++ [32] ++ Pw.numText m) w' := by
  obtain ⟨W0, hW0⟩ : ∃ W0, W0 = (w.alloc (.cells #[.float .f64 x, .float .f64 y, .float .f64 z, .float .f64 m, .int .u8 3] 49)) := ⟨_, rfl⟩
  rw [← hW0]
  have hOn0 := Pw.On.nil W0
  have ht0 : Pw.PowTab W0 := by rw [hW0]; exact ht.alloc _
  have htab0 : Lib.TabIs Tryz.prog W0 "internal/strconv.uint64pow10" .u64 Lib.pow10Tab := Pw.tabIs_keep htab (by rw [hW0]; exact World.grownBy_alloc _ _ _)
  have lx := Pw.txtLen x hx.2
  have ly := Pw.txtLen y hy.2
  have lz := Pw.txtLen z hz.2
  have lm := Pw.txtLen m hm.2
  have hf := fun b (hb : Pw.fin b) v xs w => Pw.On.float ht0 htab0 b hb.1 hb.2 (v := v) (xs := xs) (w := w)
  have h26 := Pw.is3D 3 (by decide)
  have h27 := Pw.isMeasured 3 (by decide)
  have c0 : W0.cell? ⟨w.heap.size, 0, none⟩ = some (.float .f64 x) := by rw [hW0]; simp
  have c1 : W0.cell? ⟨w.heap.size, 1, none⟩ = some (.float .f64 y) := by rw [hW0]; simp
  have c2 : W0.cell? ⟨w.heap.size, 2, none⟩ = some (.float .f64 z) := by rw [hW0]; simp
  have c3 : W0.cell? ⟨w.heap.size, 3, none⟩ = some (.float .f64 m) := by rw [hW0]; simp
  have c4 : W0.cell? ⟨w.heap.size, 4, none⟩ = some (.int .u8 3) := by rw [hW0]; simp
  have C := Lib.hid (And.intro c0 (And.intro c1 (And.intro c2 (And.intro c3 c4))))
  go_enter Tryz.func20, Tryz.ntmps20
  go_wp2_with fail
  rw [← hW0]
  clear hW0 ht htab ht0 htab0
  go_wp2_with (first
    | (go_at_call 25; refine (hf _ (by assumption) _ _ _ (by assumption) (by simp; try omega)).mono ?_; rintro e w1 ⟨v1, rfl, hOn1⟩; have ca := hOn1.cell C.out.1; have cb := hOn1.cell C.out.2.1; have cc := hOn1.cell C.out.2.2.1; have cd := hOn1.cell C.out.2.2.2.1; have ce := hOn1.cell C.out.2.2.2.2)
    | (at_builtin; refine Pw.wp_on1 rfl _ _ rfl W0 _ _ (by assumption) rfl 32 _ rfl (by simp; omega) ?_; intro v1 w1 hOn1; have ca := hOn1.cell C.out.1; have cb := hOn1.cell C.out.2.1; have cc := hOn1.cell C.out.2.2.1; have cd := hOn1.cell C.out.2.2.2.1; have ce := hOn1.cell C.out.2.2.2.2)
    | (go_at_call 26; refine (h26 _).mono ?_; rintro e w1 ⟨rfl, rfl⟩)
    | (go_at_call 27; refine (h27 _).mono ?_; rintro e w1 ⟨rfl, rfl⟩))
  go_ret
  exact ⟨_, rfl, by assumption⟩
end Go.Proofs
namespace Go.Proofs
open Go Go.RowKit
theorem Pw.On.convert {W0 : World} {v : Value} {xs : List UInt8} {w : World} (h : Pw.On W0 v xs w) (hne : xs ≠ []) :
    ∃ g cap, v = .slice (some ⟨g, 0, none⟩) xs.length cap ∧ (convert 44 9 (.slice (some ⟨g, 0, none⟩) xs.length cap)).run Tryz.prog w = .ok (.string ⟨xs.toArray⟩) w := by
  obtain ⟨⟨hown, -⟩, -⟩ := h
  have hcells := fun g hg => hown.cells (g := g) hg
  obtain ⟨-, hn | ⟨g, cap, cur, rfl, -, -, -, -, -, -⟩⟩ := hown
  · exact absurd (List.eq_nil_of_length_eq_zero hn.2) hne
  · refine ⟨g, cap, rfl, ?_⟩
    refine run_convert_bytes_back w 44 9 5 _ _ xs Tryz.underlying44 Tryz.underlying5 Tryz.underlying9 ?_
    intro j hj
    refine hcells g rfl j _ ?_
    unfold Lib.byteCells
    simp [hj]
/-- The text of a place. -/
def Pw.placeText (x y z m t : Nat) : List UInt8 :=
  Pw.numText x ++ [32] ++ Pw.numText y ++ (if t % 2 = 1 then [32] ++ Pw.numText z else []) ++ (if t / 2 = 1 then [32] ++ Pw.numText m else [])
theorem Pw.appendCoords (x y z m t : Nat) (ht3 : t ≤ 3) (hx : Pw.fin x) (hy : Pw.fin y) (hz : t % 2 = 1 → Pw.fin z) (hm : t / 2 = 1 → Pw.fin m) (w : World) (ht : Pw.PowTab w) (htab : Lib.TabIs Tryz.prog w "internal/strconv.uint64pow10" .u64 Lib.pow10Tab) :
   Calls Tryz.prog 20 #[.slice none 0 0, .agg #[.float .f64 x, .float .f64 y, .float .f64 z, .float .f64 m, .int .u8 t], .bool false] w fun e w' => ∃ v, e = .returned v ∧ Pw.On (w.alloc (.cells #[.float .f64 x, .float .f64 y, .float .f64 z, .float .f64 m, .int .u8 t] 49)) v (Pw.placeText x y z m t) w' := by
  have h3 : t = 0 ∨ t = 1 ∨ t = 2 ∨ t = 3 := by omega
  unfold Pw.placeText
  rcases h3 with rfl | rfl | rfl | rfl
  · simpa using Pw.appendCoords0 x y z m hx hy w ht htab
  · simpa using Pw.appendCoords1 x y z m hx hy (hz rfl) w ht htab
  · simpa using Pw.appendCoords2 x y z m hx hy (hm rfl) w ht htab
  · simpa using Pw.appendCoords3 x y z m hx hy (hz rfl) (hm rfl) w ht htab
theorem Pw.doorAppend (x y z m t : Nat) (ht3 : t ≤ 3) (hx : Pw.fin x) (hy : Pw.fin y) (hz : t % 2 = 1 → Pw.fin z) (hm : t / 2 = 1 → Pw.fin m) (w : World) (ht : Pw.PowTab w) (htab : Lib.TabIs Tryz.prog w "internal/strconv.uint64pow10" .u64 Lib.pow10Tab) :
   Calls Tryz.prog 14 #[.agg #[.float .f64 x, .float .f64 y, .float .f64 z, .float .f64 m, .int .u8 t], .bool false] w fun e w' => ∃ v W0, e = .returned v ∧ Pw.On W0 v (Pw.placeText x y z m t) w' ∧ w.grownBy W0 none := by
  have h20 := Pw.appendCoords x y z m t ht3 hx hy hz hm (w.alloc (.cells #[.float .f64 x, .float .f64 y, .float .f64 z, .float .f64 m, .int .u8 t] 49)) (ht.alloc _) (Pw.tabIs_keep htab (World.grownBy_alloc _ _ _))
  clear ht htab
  go_enter Tryz.func14, Tryz.ntmps14
  go_wp2_with (go_at_call 20; refine h20.mono ?_; rintro e w1 ⟨v1, rfl, hOn1⟩)
  go_ret
  exact ⟨v1, _, rfl, hOn1, Pw.grown_trans (World.grownBy_alloc _ _ _) (World.grownBy_alloc _ _ none) (by simp)⟩
theorem Pw.writePlace (x y z m t : Nat) (ht3 : t ≤ 3) (hx : Pw.fin x) (hy : Pw.fin y) (hz : t % 2 = 1 → Pw.fin z) (hm : t / 2 = 1 → Pw.fin m) (w : World) (ht : Pw.PowTab w) (htab : Lib.TabIs Tryz.prog w "internal/strconv.uint64pow10" .u64 Lib.pow10Tab) :
   Calls Tryz.prog 7 #[.agg #[.float .f64 x, .float .f64 y, .float .f64 z, .float .f64 m, .int .i64 t], .bool false] w fun e w' => e = .returned (.string ⟨(Pw.placeText x y z m t).toArray⟩) ∧ w.grownBy w' none := by
  have hgA : w.grownBy (w.alloc (.cells #[.float .f64 x, .float .f64 y, .float .f64 z, .float .f64 m, .int .i64 t] 24)) none := World.grownBy_alloc _ _ _
  have h15 := Pw.coordinates x y z m t ht3
  have h14 := Pw.doorAppend x y z m t ht3 hx hy hz hm
  have HT := Lib.hid (And.intro ht htab)
  have hne : Pw.placeText x y z m t ≠ [] := by simp [Pw.placeText]
  clear ht htab
  go_enter Tryz.func7, Tryz.ntmps7
  go_wp2_with (first
    | (go_at_call 15; refine (h15 _).mono ?_; rintro e w1 ⟨rfl, hg1⟩)
    | (go_at_call 14; refine (h14 _ (HT.out.1.keep (Pw.grown_trans hgA hg1 (by simp))) (Pw.tabIs_keep HT.out.2 (Pw.grown_trans hgA hg1 (by simp)))).mono ?_; rintro e w2 ⟨v2, W2, rfl, hOn2, hg2⟩; obtain ⟨g2, cap2, rfl, hcv⟩ := hOn2.convert hne))
  go_ret
  exact ⟨rfl, Pw.grown_trans hgA (Pw.grown_trans hg1 (Pw.grown_trans hg2 hOn2.2 (by simp)) (by simp)) (by simp)⟩
end Go.Proofs

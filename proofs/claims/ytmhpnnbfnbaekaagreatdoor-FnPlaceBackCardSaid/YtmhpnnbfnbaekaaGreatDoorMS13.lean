/- Part of the proof of FnPlaceBack: walk: the scanner's numbers. No condition. -/
import Derived.Test.YtmhpnnbfnbaekaaGreatDoorMS12
namespace Go.Proofs
open Go Go.RowKit
def Bs.alloc {b : Nat} (V : Bs b) (o : Obj) : Bs b := ⟨V.1.alloc o, by rw [World.size_alloc]; exact Nat.lt_succ_of_lt V.2⟩
theorem St.alloc {b : Nat} (V : Bs b) (s : SS) (o : Obj) : (St V s).alloc o = St (V.alloc o) s := by
  unfold St Bs.alloc World.alloc
  dsimp only
  congr 1
  refine Array.ext_getElem? fun j => ?_
  simp only [Array.getElem?_modify, Array.getElem?_push, Array.size_modify]
  have hb := V.2
  by_cases hj : j = V.1.heap.size
  · rw [if_pos hj, if_pos hj, if_neg (by omega)]
  · rw [if_neg hj, if_neg hj]
theorem Bf.ext {b B : Nat} {V V' : Bs b} {s : SS} {bs : List Value} (h : Bf B V s bs) (hk : ∀ k, k < V.1.heap.size → k ≠ b → V'.1.heap[k]? = V.1.heap[k]?) : Bf B V' s bs :=
  h.world fun k c hc hb => by rw [hk k (Lib.lt_of_heap hc) hb]; exact hc
theorem Look.ext {E : Env} {V V' : Bs E.b} {s : SS} {c : Nat} {tok : Option Nat} (h : Look E V s c tok) (hk : ∀ k, k < V.1.heap.size → k ≠ E.b → V'.1.heap[k]? = V.1.heap[k]?) : Look E V' s c tok := by
  obtain ⟨p, f, o, l, hS, g1, g2, g3, g4⟩ := h
  have hb := V.2
  have hB := E.hB
  have h6 := E.h6
  refine ⟨p, f, o, l, ?_, g1, g2, g3, g4⟩
  refine ⟨hS.src, hS.pos, hS.fin, hS.off, hS.lc, hS.pf, hS.f24, hS.oN, hS.lp, hS.l1, hS.bytes, hS.sent, ?_, hS.col0, hS.col1, hS.mode, hS.ws, hS.idr, ?_, ?_, ?_⟩
  · obtain ⟨pr, hr⟩ := hS.rd
    exact ⟨pr, by rw [hk _ (Lib.lt_of_heap hr) E.hne]; exact hr⟩
  · obtain ⟨bs, hb, e⟩ := hS.buf
    exact ⟨bs, hb.ext hk, e⟩
  · rw [World.cell?_of_block (w := V.1) (hk 2 (by omega) (by omega))]; exact hS.eofv
  · intro c hc; rw [World.cell?_of_block (w := V.1) (hk 6 (by omega) (by omega))]; exact hS.tab c hc
theorem Look.mode {E : Env} {V : Bs E.b} {s : SS} {c : Nat} {tok : Option Nat} (h : Look E V s c tok) : s.mode = 28 := by
  obtain ⟨p, f, o, l, hS, -⟩ := h; exact hS.mode
theorem Look.ne {E : Env} {V : Bs E.b} {s : SS} {c : Nat} {tok : Option Nat} (h : Look E V s c tok) : V.1.heap.size ≠ E.b ∧ V.1.heap.size ≠ E.rb ∧ E.B ≤ V.1.heap.size := by
  obtain ⟨p, f, o, l, hS, -⟩ := h
  obtain ⟨pr, hr⟩ := hS.rd
  have := Lib.lt_of_heap hr
  have := V.2
  have := E.hB
  refine ⟨by omega, by omega, by omega⟩
/-- The block of the variable 'invalid'. -/
def Bs.inv {b : Nat} (V : Bs b) : Bs b := (V.alloc (.cells #[.int .i32 0] 21)).put ⟨V.1.heap.size, 0, none⟩ (.int .i32 0)
theorem Bs.inv_old {b : Nat} (V : Bs b) (k : Nat) (hk : k < V.1.heap.size) : V.inv.1.heap[k]? = V.1.heap[k]? := by
  unfold Bs.inv
  rw [Bs.put_val, Below.heap_setCell _ _ _ _ (by show k ≠ V.1.heap.size; omega)]
  exact Below.heap_alloc _ _ k hk
theorem Bs.inv_new {b : Nat} (V : Bs b) : V.inv.1.heap[V.1.heap.size]? = some (.cells #[.int .i32 0] 21 (0, 0)) := by
  unfold Bs.inv
  exact Lib.heap_setCell_same (w := V.1.alloc (.cells #[.int .i32 0] 21)) (i := 0) (heap_alloc_new V.1 (.cells #[.int .i32 0] 21)) (.int .i32 0)
theorem Kx.old {E : Env} {V V' : Bs E.b} (hB : E.B ≤ V.1.heap.size) (h : Kx E V.1.heap.size V.inv V') : Kp E.B (some E.rb) V V' := by
  have hs : V.inv.1.heap.size = V.1.heap.size + 1 := by
    unfold Bs.inv; rw [Bs.put_val]; simp [Bs.alloc, World.setCell]
  refine ⟨⟨h.below.os, h.below.tape, h.below.output, by have := h.below.size; omega, fun k hk => ?_⟩, fun k o h1 h2 h3 h4 => ?_⟩
  · rw [h.below.block k hk, V.inv_old k (by omega)]
  · have hlt := (Array.getElem?_eq_some_iff.1 h1).1
    exact h.others k o (by rw [V.inv_old k hlt]; exact h1) h2 (by simpa using h3) (by omega) h4
def Pw.NumEnd (E : Env) (V : Bs E.b) (s : SS) (c L : Nat) (tok : Option Nat) (tv : Int) (e : Ending) (w' : World) : Prop :=
  ∃ (V' : Bs E.b) (s' : SS), e = .returned (.tuple #[.int .i32 tv, .int .i32 (E.at (c + L))]) ∧ w' = St V' s' ∧ Look E V' s' (c + L) tok ∧ s.Same s' ∧ Kp E.B (some E.rb) V V'
set_option maxRecDepth 100000 in
set_option maxHeartbeats 2000000 in
/-- A number without a point that begins with no nought. -/
theorem Pw.scanA (E : Env) (V : Bs E.b) (s : SS) (c n : Nat) (tok : Option Nat) (h : Look E V s c tok) (hd : ∀ j, j < n → 48 ≤ E.at (c + j) ∧ E.at (c + j) ≤ 57) (hn : 1 ≤ n) (h0 : E.at c ≠ 48) (he : E.at (c + n) = 32 ∨ E.at (c + n) = -1) :
    Calls Tryz.prog 45 #[.pointer (some ⟨E.b, 0, none⟩), .int .i32 (E.at c), .bool false] (St V s) (Pw.NumEnd E V s c n tok (-3)) := by
  have hne := h.ne
  have hal := fun o => St.alloc V s o
  obtain ⟨iv, hiv⟩ : ∃ iv, V.1.heap.size = iv := ⟨_, rfl⟩
  have hv0 := V.inv_new
  have hL0 : Look E V.inv s c tok := h.ext fun k hk _ => V.inv_old k hk
  have hKo := fun V' => Kx.old (E := E) (V := V) (V' := V') hne.2.2
  rw [hiv] at hne hv0 hKo
  have hin : (V.alloc (.cells #[.int .i32 0] 21)).put ⟨iv, 0, none⟩ (.int .i32 0) = V.inv := by unfold Bs.inv; rw [hiv]
  have hput : ∀ (V : Bs E.b) s v, (St V s).setCell ⟨iv, 0, none⟩ v = St (V.put ⟨iv, 0, none⟩ v) s := fun V s v => St.put V s _ v hne.1
  have hnew : (V.alloc (.cells #[.int .i32 0] 21)).1.heap[iv]? = some (.cells #[.int .i32 0] 21 (0, 0)) := by rw [← hiv]; exact heap_alloc_new V.1 _
  have hget0 : ∀ s, (St (V.alloc (.cells #[.int .i32 0] 21)) s).cell? ⟨iv, 0, none⟩ = some (.int .i32 0) := fun s => by rw [St.cell_other _ s _ hne.1]; exact cell_of_row _ _ _ _ _ _ hnew
  have hfro0 : ∀ s, (St (V.alloc (.cells #[.int .i32 0] 21)) s).frozen? ⟨iv, 0, none⟩ = false := fun s => by rw [St.frozen_other _ s _ hne.1]; exact Lib.frozen_of_heap hnew 0
  have hgetV : ∀ (V' : Bs E.b) s (y : Int), V'.1.heap[iv]? = some (.cells #[.int .i32 y] 21 (0, 0)) → (St V' s).cell? ⟨iv, 0, none⟩ = some (.int .i32 y) := fun V' s y hh => by rw [St.cell_other _ s _ hne.1]; exact cell_of_row _ _ _ _ _ _ hh
  have hd1 := Pw.digits10 E V.inv s c n tok iv 0 hL0 hd (by omega) hne.1 hne.2.1 hv0
  have t0 : (E.at c == 48) = false := by simpa using h0
  unfold Pw.NumEnd
  unfold Pw.DigEnd at hd1
  have hn0 : n ≠ 0 := by omega
  rw [if_neg hn0] at hd1
  generalize E.at c = x at t0 hd1 ⊢
  generalize E.at (c + n) = z at he hd1 ⊢
  have hlo := Pw.lower z (by omega)
  have z0 : (z == 46) = false := by simp; omega
  have z1 : (z == 101) = false := by simp; omega
  have z2 : (z == 112) = false := by simp; omega
  have H := Lib.hid (And.intro hgetV hKo)
  clear h hd hn h0 he hne hv0 hL0 hKo hnew hgetV
  go_enter Tryz.func45, Tryz.ntmps45
  go_wp2_with (first
    | (go_at_call 64; refine hd1.mono ?_; rintro e W ⟨V1, s1, y1, rfl, rfl, hL1, hS1, hi1, hy1, hK1⟩; obtain rfl := hy1 (.inl rfl); have hm1 := hL1.mode; have hg1 := H.out.1 V1 s1 _ hi1; have H1 := Lib.hid (And.intro hL1 (And.intro hS1 hK1)); clear hL1 hS1 hi1 hy1 hK1 hd1)
    | (go_at_call 63; refine (hlo _).mono ?_; rintro e w1 ⟨rfl, rfl⟩))
  go_ret2
  exact ⟨V1, s1, rfl, rfl, H1.out.1, H1.out.2.1, H.out.2 V1 H1.out.2.2⟩
end Go.Proofs

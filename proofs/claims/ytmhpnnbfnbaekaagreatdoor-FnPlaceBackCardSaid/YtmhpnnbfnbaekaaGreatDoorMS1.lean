/- Part of the proof of FnPlaceBack: the scanner as a record in one block of memory. No condition. -/
import Derived.Test.YtmhpnnbfnbaekaaGreatDoorProg
import Derived.WalkKit
import Derived.WalkLawsBesides
import Derived.WalkSpells
import Derived.BigQuiet
import Derived.Deep.QuietTactic
import Derived.Lib.Hide
import Derived.StillTailTactics
import Derived.WalkMore
namespace Go.Proofs
open Go Go.RowKit
/-- What the scanner's block holds. -/
structure SS where
  src : Value
  byte : Nat → Int
  pos : Int
  fin : Int
  off : Int
  line : Int
  col : Int
  ll : Int
  lc : Int
  buf : Value
  boff : Int
  blr : Int
  tp : Int
  te : Int
  ch : Int
  err : Value
  ec : Int
  mode : Int
  ws : Int
  idr : Value
  pf : Value
  po : Int
  pl : Int
  pc : Int
  pk : Value
def SS.tail (s : SS) : Nat → Value
  | 0 => .int .i64 s.pos
  | 1 => .int .i64 s.fin
  | 2 => .int .i64 s.off
  | 3 => .int .i64 s.line
  | 4 => .int .i64 s.col
  | 5 => .int .i64 s.ll
  | 6 => .int .i64 s.lc
  | 7 => s.buf
  | 8 => .int .i64 s.boff
  | 9 => .int .i8 s.blr
  | 10 => .int .i64 s.tp
  | 11 => .int .i64 s.te
  | 12 => .int .i32 s.ch
  | 13 => s.err
  | 14 => .int .i64 s.ec
  | 15 => .int .u64 s.mode
  | 16 => .int .u64 s.ws
  | 17 => s.idr
  | 18 => s.pf
  | 19 => .int .i64 s.po
  | 20 => .int .i64 s.pl
  | 21 => .int .i64 s.pc
  | _ => s.pk
def SS.cell (s : SS) (k : Nat) : Value := if k = 0 then s.src else if k ≤ 1025 then .int .u8 (s.byte (k - 1)) else s.tail (k - 1026)
def SS.arr (s : SS) : Array Value := Array.ofFn (n := 1049) fun k => s.cell k.val
/-- A world that has a block b. -/
def Bs (b : Nat) : Type := { w : World // b < w.heap.size }
variable {b : Nat}
/-- The world V with block b laid anew. -/
def St (V : Bs b) (s : SS) : World := { V.1 with heap := V.1.heap.modify b fun _ => .cells s.arr 77 (0, 0) }
@[simp] theorem St.size (V : Bs b) (s : SS) : (St V s).heap.size = V.1.heap.size := by simp [St]
theorem St.block (V : Bs b) (s : SS) : (St V s).heap[b]? = some (.cells s.arr 77 (0, 0)) := by
  unfold St
  simp only [Array.getElem?_modify, if_true]
  rw [Array.getElem?_eq_getElem V.2]
  rfl
theorem St.other (V : Bs b) (s : SS) (k : Nat) (h : k ≠ b) : (St V s).heap[k]? = V.1.heap[k]? := by
  unfold St
  simp only [Array.getElem?_modify]
  rw [if_neg (Ne.symm h)]
theorem St.eq {w : World} {s : SS} (h : w.heap[b]? = some (.cells s.arr 77 (0, 0))) (hb : b < w.heap.size) : w = St (⟨w, hb⟩ : Bs b) s := by
  unfold St
  cases w with
  | mk heap tape drawn os output =>
    dsimp only at h hb ⊢
    congr 1
    refine Array.ext_getElem? fun j => ?_
    simp only [Array.getElem?_modify]
    by_cases hj : b = j
    · subst hj
      rw [if_pos rfl, h]; rfl
    · rw [if_neg hj]
theorem St.lay {V : Bs b} {s s' : SS} (hb : b < (St V s).heap.size) : St (⟨St V s, hb⟩ : Bs b) s' = St V s' := by
  unfold St
  dsimp only
  congr 1
  refine Array.ext_getElem? fun j => ?_
  simp only [Array.getElem?_modify]
  by_cases hj : b = j
  · subst hj
    simp only [if_true, Option.map_map]
    cases V.1.heap[b]? with
    | none => rfl
    | some x => rfl
  · simp only [if_neg hj]
theorem St.cellAt (V : Bs b) (s : SS) (k : Nat) (hk : k < 1049) : (St V s).cell? ⟨b, k, none⟩ = some (s.cell k) := by
  rw [cell_of_row _ _ _ _ _ _ (St.block V s)]
  simp [SS.arr, hk]
theorem St.cell_other (V : Bs b) (s : SS) (a : Addr) (h : a.block ≠ b) : (St V s).cell? a = V.1.cell? a := World.cell?_of_block (w := V.1) (St.other V s a.block h)
theorem St.frozen_other (V : Bs b) (s : SS) (a : Addr) (h : a.block ≠ b) : (St V s).frozen? a = V.1.frozen? a := World.frozen?_of_block (w := V.1) (St.other V s a.block h)
@[simp] theorem St.frozen (V : Bs b) (s : SS) (k : Nat) : (St V s).frozen? ⟨b, k, none⟩ = false := by
  unfold World.frozen?
  rw [St.block V s]
  simp
theorem St.byteAt (V : Bs b) (s : SS) (j : Nat) (hj : j < 1025) : (St V s).cell? ⟨b, 1 + j, none⟩ = some (.int .u8 (s.byte j)) := by
  rw [St.cellAt V s (1 + j) (by omega)]
  unfold SS.cell
  rw [if_neg (by omega), if_pos (by omega), Nat.add_sub_cancel_left]
theorem St.setCell_laid (w : World) (k : Nat) (A : Array Value) (T : TypeId) (v : Value) :
    ({ w with heap := w.heap.modify b fun _ => .cells A T (0, 0) } : World).setCell ⟨b, k, none⟩ v = { w with heap := w.heap.modify b fun _ => .cells (A.setIfInBounds k v) T (0, 0) } := by
  unfold World.setCell
  congr 1
  refine Array.ext_getElem? fun j => ?_
  simp only [Array.getElem?_modify]
  by_cases hj : b = j
  · subst hj
    simp only [if_true, Option.map_map]
    cases w.heap[b]? with
    | none => rfl
    | some x => rfl
  · simp only [if_neg hj]
theorem St.arr_set {s s' : SS} (k : Nat) (v : Value) (h : ∀ j, s'.cell j = if j = k then v else s.cell j) : s.arr.setIfInBounds k v = s'.arr := by
  refine Array.ext_getElem? fun j => ?_
  rw [Array.getElem?_setIfInBounds]
  by_cases hj : k = j
  · subst hj
    by_cases hk : k < 1049
    · simp [SS.arr, hk, h]
    · simp [SS.arr, hk]
  · rw [if_neg hj]
    by_cases hk : j < 1049
    · simp [SS.arr, hk, h, Ne.symm hj]
    · simp [SS.arr, hk]
theorem St.set (V : Bs b) {s s' : SS} (k : Nat) (v : Value) (h : ∀ j, s'.cell j = if j = k then v else s.cell j) : (St V s).setCell ⟨b, k, none⟩ v = St V s' := by
  unfold St
  rw [St.setCell_laid, St.arr_set k v h]
theorem SS.upd {s s' : SS} (i : Nat) (v : Value) (h0 : s'.src = s.src) (h1 : s'.byte = s.byte) (h : ∀ j, s'.tail j = if j = i then v else s.tail j) : ∀ j, s'.cell j = if j = 1026 + i then v else s.cell j := by
  intro j
  unfold SS.cell
  rw [h0, h1]
  by_cases c0 : j = 0
  · rw [if_pos c0, if_pos c0, if_neg (by omega)]
  · rw [if_neg c0, if_neg c0]
    by_cases c1 : j ≤ 1025
    · rw [if_pos c1, if_pos c1, if_neg (by omega)]
    · rw [if_neg c1, if_neg c1, h]
      by_cases c2 : j = 1026 + i
      · rw [if_pos c2, if_pos (by omega)]
      · rw [if_neg c2, if_neg (by omega)]
theorem SS.tail_src (s : SS) (v : Value) (i : Nat) : ({ s with src := v } : SS).tail i = s.tail i := by unfold SS.tail; rfl
theorem SS.tail_byte (s : SS) (v : Nat → Int) (i : Nat) : ({ s with byte := v } : SS).tail i = s.tail i := by unfold SS.tail; rfl
@[simp] theorem St.get_src (V : Bs b) (s : SS) : (St V s).cell? ⟨b, 0, none⟩ = some s.src := St.cellAt V s 0 (by decide)
@[simp] theorem St.set_src (V : Bs b) (s : SS) (v : Value) : (St V s).setCell ⟨b, 0, none⟩ v = St V { s with src := v } := by
  refine St.set V 0 v fun j => ?_
  unfold SS.cell
  by_cases c0 : j = 0
  · rw [if_pos c0, if_pos c0]
  · rw [if_neg c0, if_neg c0, if_neg c0, SS.tail_src]
theorem St.set_byte (V : Bs b) (s : SS) (i : Nat) (hi : i < 1025) (v : Int) : (St V s).setCell ⟨b, 1 + i, none⟩ (.int .u8 v) = St V { s with byte := fun j => if j = i then v else s.byte j } := by
  refine St.set V (1 + i) _ fun j => ?_
  unfold SS.cell
  by_cases c0 : j = 0
  · rw [if_pos c0, if_pos c0, if_neg (by omega)]
  · rw [if_neg c0, if_neg c0]
    by_cases c1 : j ≤ 1025
    · rw [if_pos c1, if_pos c1]
      dsimp only
      by_cases c2 : j = 1 + i
      · rw [if_pos c2, if_pos (by omega)]
      · rw [if_neg c2, if_neg (by omega)]
    · rw [if_neg c1, if_neg c1, if_neg (by omega), SS.tail_byte]
@[simp] theorem St.get_pos (V : Bs b) (s : SS) : (St V s).cell? ⟨b, 1026, none⟩ = some (.int .i64 s.pos) := St.cellAt V s 1026 (by decide)
theorem SS.put_pos (s : SS) (v : Int) (j : Nat) : ({ s with pos := v } : SS).tail j = if j = 0 then (.int .i64 v) else s.tail j := by
  match j with
  | 0 => rfl
  | 1 => rfl
  | 2 => rfl
  | 3 => rfl
  | 4 => rfl
  | 5 => rfl
  | 6 => rfl
  | 7 => rfl
  | 8 => rfl
  | 9 => rfl
  | 10 => rfl
  | 11 => rfl
  | 12 => rfl
  | 13 => rfl
  | 14 => rfl
  | 15 => rfl
  | 16 => rfl
  | 17 => rfl
  | 18 => rfl
  | 19 => rfl
  | 20 => rfl
  | 21 => rfl
  | j + 22 => rw [if_neg (by omega)]; rfl
@[simp] theorem St.set_pos (V : Bs b) (s : SS) (v : Int) : (St V s).setCell ⟨b, 1026, none⟩ (.int .i64 v) = St V { s with pos := v } := St.set V 1026 _ (SS.upd 0 _ rfl rfl (SS.put_pos s v))
@[simp] theorem St.get_fin (V : Bs b) (s : SS) : (St V s).cell? ⟨b, 1027, none⟩ = some (.int .i64 s.fin) := St.cellAt V s 1027 (by decide)
theorem SS.put_fin (s : SS) (v : Int) (j : Nat) : ({ s with fin := v } : SS).tail j = if j = 1 then (.int .i64 v) else s.tail j := by
  match j with
  | 0 => rfl
  | 1 => rfl
  | 2 => rfl
  | 3 => rfl
  | 4 => rfl
  | 5 => rfl
  | 6 => rfl
  | 7 => rfl
  | 8 => rfl
  | 9 => rfl
  | 10 => rfl
  | 11 => rfl
  | 12 => rfl
  | 13 => rfl
  | 14 => rfl
  | 15 => rfl
  | 16 => rfl
  | 17 => rfl
  | 18 => rfl
  | 19 => rfl
  | 20 => rfl
  | 21 => rfl
  | j + 22 => rw [if_neg (by omega)]; rfl
@[simp] theorem St.set_fin (V : Bs b) (s : SS) (v : Int) : (St V s).setCell ⟨b, 1027, none⟩ (.int .i64 v) = St V { s with fin := v } := St.set V 1027 _ (SS.upd 1 _ rfl rfl (SS.put_fin s v))
@[simp] theorem St.get_off (V : Bs b) (s : SS) : (St V s).cell? ⟨b, 1028, none⟩ = some (.int .i64 s.off) := St.cellAt V s 1028 (by decide)
theorem SS.put_off (s : SS) (v : Int) (j : Nat) : ({ s with off := v } : SS).tail j = if j = 2 then (.int .i64 v) else s.tail j := by
  match j with
  | 0 => rfl
  | 1 => rfl
  | 2 => rfl
  | 3 => rfl
  | 4 => rfl
  | 5 => rfl
  | 6 => rfl
  | 7 => rfl
  | 8 => rfl
  | 9 => rfl
  | 10 => rfl
  | 11 => rfl
  | 12 => rfl
  | 13 => rfl
  | 14 => rfl
  | 15 => rfl
  | 16 => rfl
  | 17 => rfl
  | 18 => rfl
  | 19 => rfl
  | 20 => rfl
  | 21 => rfl
  | j + 22 => rw [if_neg (by omega)]; rfl
@[simp] theorem St.set_off (V : Bs b) (s : SS) (v : Int) : (St V s).setCell ⟨b, 1028, none⟩ (.int .i64 v) = St V { s with off := v } := St.set V 1028 _ (SS.upd 2 _ rfl rfl (SS.put_off s v))
@[simp] theorem St.get_line (V : Bs b) (s : SS) : (St V s).cell? ⟨b, 1029, none⟩ = some (.int .i64 s.line) := St.cellAt V s 1029 (by decide)
theorem SS.put_line (s : SS) (v : Int) (j : Nat) : ({ s with line := v } : SS).tail j = if j = 3 then (.int .i64 v) else s.tail j := by
  match j with
  | 0 => rfl
  | 1 => rfl
  | 2 => rfl
  | 3 => rfl
  | 4 => rfl
  | 5 => rfl
  | 6 => rfl
  | 7 => rfl
  | 8 => rfl
  | 9 => rfl
  | 10 => rfl
  | 11 => rfl
  | 12 => rfl
  | 13 => rfl
  | 14 => rfl
  | 15 => rfl
  | 16 => rfl
  | 17 => rfl
  | 18 => rfl
  | 19 => rfl
  | 20 => rfl
  | 21 => rfl
  | j + 22 => rw [if_neg (by omega)]; rfl
@[simp] theorem St.set_line (V : Bs b) (s : SS) (v : Int) : (St V s).setCell ⟨b, 1029, none⟩ (.int .i64 v) = St V { s with line := v } := St.set V 1029 _ (SS.upd 3 _ rfl rfl (SS.put_line s v))
@[simp] theorem St.get_col (V : Bs b) (s : SS) : (St V s).cell? ⟨b, 1030, none⟩ = some (.int .i64 s.col) := St.cellAt V s 1030 (by decide)
theorem SS.put_col (s : SS) (v : Int) (j : Nat) : ({ s with col := v } : SS).tail j = if j = 4 then (.int .i64 v) else s.tail j := by
  match j with
  | 0 => rfl
  | 1 => rfl
  | 2 => rfl
  | 3 => rfl
  | 4 => rfl
  | 5 => rfl
  | 6 => rfl
  | 7 => rfl
  | 8 => rfl
  | 9 => rfl
  | 10 => rfl
  | 11 => rfl
  | 12 => rfl
  | 13 => rfl
  | 14 => rfl
  | 15 => rfl
  | 16 => rfl
  | 17 => rfl
  | 18 => rfl
  | 19 => rfl
  | 20 => rfl
  | 21 => rfl
  | j + 22 => rw [if_neg (by omega)]; rfl
@[simp] theorem St.set_col (V : Bs b) (s : SS) (v : Int) : (St V s).setCell ⟨b, 1030, none⟩ (.int .i64 v) = St V { s with col := v } := St.set V 1030 _ (SS.upd 4 _ rfl rfl (SS.put_col s v))
@[simp] theorem St.get_ll (V : Bs b) (s : SS) : (St V s).cell? ⟨b, 1031, none⟩ = some (.int .i64 s.ll) := St.cellAt V s 1031 (by decide)
theorem SS.put_ll (s : SS) (v : Int) (j : Nat) : ({ s with ll := v } : SS).tail j = if j = 5 then (.int .i64 v) else s.tail j := by
  match j with
  | 0 => rfl
  | 1 => rfl
  | 2 => rfl
  | 3 => rfl
  | 4 => rfl
  | 5 => rfl
  | 6 => rfl
  | 7 => rfl
  | 8 => rfl
  | 9 => rfl
  | 10 => rfl
  | 11 => rfl
  | 12 => rfl
  | 13 => rfl
  | 14 => rfl
  | 15 => rfl
  | 16 => rfl
  | 17 => rfl
  | 18 => rfl
  | 19 => rfl
  | 20 => rfl
  | 21 => rfl
  | j + 22 => rw [if_neg (by omega)]; rfl
@[simp] theorem St.set_ll (V : Bs b) (s : SS) (v : Int) : (St V s).setCell ⟨b, 1031, none⟩ (.int .i64 v) = St V { s with ll := v } := St.set V 1031 _ (SS.upd 5 _ rfl rfl (SS.put_ll s v))
@[simp] theorem St.get_lc (V : Bs b) (s : SS) : (St V s).cell? ⟨b, 1032, none⟩ = some (.int .i64 s.lc) := St.cellAt V s 1032 (by decide)
theorem SS.put_lc (s : SS) (v : Int) (j : Nat) : ({ s with lc := v } : SS).tail j = if j = 6 then (.int .i64 v) else s.tail j := by
  match j with
  | 0 => rfl
  | 1 => rfl
  | 2 => rfl
  | 3 => rfl
  | 4 => rfl
  | 5 => rfl
  | 6 => rfl
  | 7 => rfl
  | 8 => rfl
  | 9 => rfl
  | 10 => rfl
  | 11 => rfl
  | 12 => rfl
  | 13 => rfl
  | 14 => rfl
  | 15 => rfl
  | 16 => rfl
  | 17 => rfl
  | 18 => rfl
  | 19 => rfl
  | 20 => rfl
  | 21 => rfl
  | j + 22 => rw [if_neg (by omega)]; rfl
@[simp] theorem St.set_lc (V : Bs b) (s : SS) (v : Int) : (St V s).setCell ⟨b, 1032, none⟩ (.int .i64 v) = St V { s with lc := v } := St.set V 1032 _ (SS.upd 6 _ rfl rfl (SS.put_lc s v))
@[simp] theorem St.get_buf (V : Bs b) (s : SS) : (St V s).cell? ⟨b, 1033, none⟩ = some s.buf := St.cellAt V s 1033 (by decide)
theorem SS.put_buf (s : SS) (v : Value) (j : Nat) : ({ s with buf := v } : SS).tail j = if j = 7 then v else s.tail j := by
  match j with
  | 0 => rfl
  | 1 => rfl
  | 2 => rfl
  | 3 => rfl
  | 4 => rfl
  | 5 => rfl
  | 6 => rfl
  | 7 => rfl
  | 8 => rfl
  | 9 => rfl
  | 10 => rfl
  | 11 => rfl
  | 12 => rfl
  | 13 => rfl
  | 14 => rfl
  | 15 => rfl
  | 16 => rfl
  | 17 => rfl
  | 18 => rfl
  | 19 => rfl
  | 20 => rfl
  | 21 => rfl
  | j + 22 => rw [if_neg (by omega)]; rfl
@[simp] theorem St.set_buf (V : Bs b) (s : SS) (v : Value) : (St V s).setCell ⟨b, 1033, none⟩ v = St V { s with buf := v } := St.set V 1033 _ (SS.upd 7 _ rfl rfl (SS.put_buf s v))
@[simp] theorem St.get_boff (V : Bs b) (s : SS) : (St V s).cell? ⟨b, 1034, none⟩ = some (.int .i64 s.boff) := St.cellAt V s 1034 (by decide)
theorem SS.put_boff (s : SS) (v : Int) (j : Nat) : ({ s with boff := v } : SS).tail j = if j = 8 then (.int .i64 v) else s.tail j := by
  match j with
  | 0 => rfl
  | 1 => rfl
  | 2 => rfl
  | 3 => rfl
  | 4 => rfl
  | 5 => rfl
  | 6 => rfl
  | 7 => rfl
  | 8 => rfl
  | 9 => rfl
  | 10 => rfl
  | 11 => rfl
  | 12 => rfl
  | 13 => rfl
  | 14 => rfl
  | 15 => rfl
  | 16 => rfl
  | 17 => rfl
  | 18 => rfl
  | 19 => rfl
  | 20 => rfl
  | 21 => rfl
  | j + 22 => rw [if_neg (by omega)]; rfl
@[simp] theorem St.set_boff (V : Bs b) (s : SS) (v : Int) : (St V s).setCell ⟨b, 1034, none⟩ (.int .i64 v) = St V { s with boff := v } := St.set V 1034 _ (SS.upd 8 _ rfl rfl (SS.put_boff s v))
@[simp] theorem St.get_blr (V : Bs b) (s : SS) : (St V s).cell? ⟨b, 1035, none⟩ = some (.int .i8 s.blr) := St.cellAt V s 1035 (by decide)
theorem SS.put_blr (s : SS) (v : Int) (j : Nat) : ({ s with blr := v } : SS).tail j = if j = 9 then (.int .i8 v) else s.tail j := by
  match j with
  | 0 => rfl
  | 1 => rfl
  | 2 => rfl
  | 3 => rfl
  | 4 => rfl
  | 5 => rfl
  | 6 => rfl
  | 7 => rfl
  | 8 => rfl
  | 9 => rfl
  | 10 => rfl
  | 11 => rfl
  | 12 => rfl
  | 13 => rfl
  | 14 => rfl
  | 15 => rfl
  | 16 => rfl
  | 17 => rfl
  | 18 => rfl
  | 19 => rfl
  | 20 => rfl
  | 21 => rfl
  | j + 22 => rw [if_neg (by omega)]; rfl
@[simp] theorem St.set_blr (V : Bs b) (s : SS) (v : Int) : (St V s).setCell ⟨b, 1035, none⟩ (.int .i8 v) = St V { s with blr := v } := St.set V 1035 _ (SS.upd 9 _ rfl rfl (SS.put_blr s v))
@[simp] theorem St.get_tp (V : Bs b) (s : SS) : (St V s).cell? ⟨b, 1036, none⟩ = some (.int .i64 s.tp) := St.cellAt V s 1036 (by decide)
theorem SS.put_tp (s : SS) (v : Int) (j : Nat) : ({ s with tp := v } : SS).tail j = if j = 10 then (.int .i64 v) else s.tail j := by
  match j with
  | 0 => rfl
  | 1 => rfl
  | 2 => rfl
  | 3 => rfl
  | 4 => rfl
  | 5 => rfl
  | 6 => rfl
  | 7 => rfl
  | 8 => rfl
  | 9 => rfl
  | 10 => rfl
  | 11 => rfl
  | 12 => rfl
  | 13 => rfl
  | 14 => rfl
  | 15 => rfl
  | 16 => rfl
  | 17 => rfl
  | 18 => rfl
  | 19 => rfl
  | 20 => rfl
  | 21 => rfl
  | j + 22 => rw [if_neg (by omega)]; rfl
@[simp] theorem St.set_tp (V : Bs b) (s : SS) (v : Int) : (St V s).setCell ⟨b, 1036, none⟩ (.int .i64 v) = St V { s with tp := v } := St.set V 1036 _ (SS.upd 10 _ rfl rfl (SS.put_tp s v))
@[simp] theorem St.get_te (V : Bs b) (s : SS) : (St V s).cell? ⟨b, 1037, none⟩ = some (.int .i64 s.te) := St.cellAt V s 1037 (by decide)
theorem SS.put_te (s : SS) (v : Int) (j : Nat) : ({ s with te := v } : SS).tail j = if j = 11 then (.int .i64 v) else s.tail j := by
  match j with
  | 0 => rfl
  | 1 => rfl
  | 2 => rfl
  | 3 => rfl
  | 4 => rfl
  | 5 => rfl
  | 6 => rfl
  | 7 => rfl
  | 8 => rfl
  | 9 => rfl
  | 10 => rfl
  | 11 => rfl
  | 12 => rfl
  | 13 => rfl
  | 14 => rfl
  | 15 => rfl
  | 16 => rfl
  | 17 => rfl
  | 18 => rfl
  | 19 => rfl
  | 20 => rfl
  | 21 => rfl
  | j + 22 => rw [if_neg (by omega)]; rfl
@[simp] theorem St.set_te (V : Bs b) (s : SS) (v : Int) : (St V s).setCell ⟨b, 1037, none⟩ (.int .i64 v) = St V { s with te := v } := St.set V 1037 _ (SS.upd 11 _ rfl rfl (SS.put_te s v))
@[simp] theorem St.get_ch (V : Bs b) (s : SS) : (St V s).cell? ⟨b, 1038, none⟩ = some (.int .i32 s.ch) := St.cellAt V s 1038 (by decide)
theorem SS.put_ch (s : SS) (v : Int) (j : Nat) : ({ s with ch := v } : SS).tail j = if j = 12 then (.int .i32 v) else s.tail j := by
  match j with
  | 0 => rfl
  | 1 => rfl
  | 2 => rfl
  | 3 => rfl
  | 4 => rfl
  | 5 => rfl
  | 6 => rfl
  | 7 => rfl
  | 8 => rfl
  | 9 => rfl
  | 10 => rfl
  | 11 => rfl
  | 12 => rfl
  | 13 => rfl
  | 14 => rfl
  | 15 => rfl
  | 16 => rfl
  | 17 => rfl
  | 18 => rfl
  | 19 => rfl
  | 20 => rfl
  | 21 => rfl
  | j + 22 => rw [if_neg (by omega)]; rfl
@[simp] theorem St.set_ch (V : Bs b) (s : SS) (v : Int) : (St V s).setCell ⟨b, 1038, none⟩ (.int .i32 v) = St V { s with ch := v } := St.set V 1038 _ (SS.upd 12 _ rfl rfl (SS.put_ch s v))
@[simp] theorem St.get_err (V : Bs b) (s : SS) : (St V s).cell? ⟨b, 1039, none⟩ = some s.err := St.cellAt V s 1039 (by decide)
theorem SS.put_err (s : SS) (v : Value) (j : Nat) : ({ s with err := v } : SS).tail j = if j = 13 then v else s.tail j := by
  match j with
  | 0 => rfl
  | 1 => rfl
  | 2 => rfl
  | 3 => rfl
  | 4 => rfl
  | 5 => rfl
  | 6 => rfl
  | 7 => rfl
  | 8 => rfl
  | 9 => rfl
  | 10 => rfl
  | 11 => rfl
  | 12 => rfl
  | 13 => rfl
  | 14 => rfl
  | 15 => rfl
  | 16 => rfl
  | 17 => rfl
  | 18 => rfl
  | 19 => rfl
  | 20 => rfl
  | 21 => rfl
  | j + 22 => rw [if_neg (by omega)]; rfl
@[simp] theorem St.set_err (V : Bs b) (s : SS) (v : Value) : (St V s).setCell ⟨b, 1039, none⟩ v = St V { s with err := v } := St.set V 1039 _ (SS.upd 13 _ rfl rfl (SS.put_err s v))
@[simp] theorem St.get_ec (V : Bs b) (s : SS) : (St V s).cell? ⟨b, 1040, none⟩ = some (.int .i64 s.ec) := St.cellAt V s 1040 (by decide)
theorem SS.put_ec (s : SS) (v : Int) (j : Nat) : ({ s with ec := v } : SS).tail j = if j = 14 then (.int .i64 v) else s.tail j := by
  match j with
  | 0 => rfl
  | 1 => rfl
  | 2 => rfl
  | 3 => rfl
  | 4 => rfl
  | 5 => rfl
  | 6 => rfl
  | 7 => rfl
  | 8 => rfl
  | 9 => rfl
  | 10 => rfl
  | 11 => rfl
  | 12 => rfl
  | 13 => rfl
  | 14 => rfl
  | 15 => rfl
  | 16 => rfl
  | 17 => rfl
  | 18 => rfl
  | 19 => rfl
  | 20 => rfl
  | 21 => rfl
  | j + 22 => rw [if_neg (by omega)]; rfl
@[simp] theorem St.set_ec (V : Bs b) (s : SS) (v : Int) : (St V s).setCell ⟨b, 1040, none⟩ (.int .i64 v) = St V { s with ec := v } := St.set V 1040 _ (SS.upd 14 _ rfl rfl (SS.put_ec s v))
@[simp] theorem St.get_mode (V : Bs b) (s : SS) : (St V s).cell? ⟨b, 1041, none⟩ = some (.int .u64 s.mode) := St.cellAt V s 1041 (by decide)
theorem SS.put_mode (s : SS) (v : Int) (j : Nat) : ({ s with mode := v } : SS).tail j = if j = 15 then (.int .u64 v) else s.tail j := by
  match j with
  | 0 => rfl
  | 1 => rfl
  | 2 => rfl
  | 3 => rfl
  | 4 => rfl
  | 5 => rfl
  | 6 => rfl
  | 7 => rfl
  | 8 => rfl
  | 9 => rfl
  | 10 => rfl
  | 11 => rfl
  | 12 => rfl
  | 13 => rfl
  | 14 => rfl
  | 15 => rfl
  | 16 => rfl
  | 17 => rfl
  | 18 => rfl
  | 19 => rfl
  | 20 => rfl
  | 21 => rfl
  | j + 22 => rw [if_neg (by omega)]; rfl
@[simp] theorem St.set_mode (V : Bs b) (s : SS) (v : Int) : (St V s).setCell ⟨b, 1041, none⟩ (.int .u64 v) = St V { s with mode := v } := St.set V 1041 _ (SS.upd 15 _ rfl rfl (SS.put_mode s v))
@[simp] theorem St.get_ws (V : Bs b) (s : SS) : (St V s).cell? ⟨b, 1042, none⟩ = some (.int .u64 s.ws) := St.cellAt V s 1042 (by decide)
theorem SS.put_ws (s : SS) (v : Int) (j : Nat) : ({ s with ws := v } : SS).tail j = if j = 16 then (.int .u64 v) else s.tail j := by
  match j with
  | 0 => rfl
  | 1 => rfl
  | 2 => rfl
  | 3 => rfl
  | 4 => rfl
  | 5 => rfl
  | 6 => rfl
  | 7 => rfl
  | 8 => rfl
  | 9 => rfl
  | 10 => rfl
  | 11 => rfl
  | 12 => rfl
  | 13 => rfl
  | 14 => rfl
  | 15 => rfl
  | 16 => rfl
  | 17 => rfl
  | 18 => rfl
  | 19 => rfl
  | 20 => rfl
  | 21 => rfl
  | j + 22 => rw [if_neg (by omega)]; rfl
@[simp] theorem St.set_ws (V : Bs b) (s : SS) (v : Int) : (St V s).setCell ⟨b, 1042, none⟩ (.int .u64 v) = St V { s with ws := v } := St.set V 1042 _ (SS.upd 16 _ rfl rfl (SS.put_ws s v))
@[simp] theorem St.get_idr (V : Bs b) (s : SS) : (St V s).cell? ⟨b, 1043, none⟩ = some s.idr := St.cellAt V s 1043 (by decide)
theorem SS.put_idr (s : SS) (v : Value) (j : Nat) : ({ s with idr := v } : SS).tail j = if j = 17 then v else s.tail j := by
  match j with
  | 0 => rfl
  | 1 => rfl
  | 2 => rfl
  | 3 => rfl
  | 4 => rfl
  | 5 => rfl
  | 6 => rfl
  | 7 => rfl
  | 8 => rfl
  | 9 => rfl
  | 10 => rfl
  | 11 => rfl
  | 12 => rfl
  | 13 => rfl
  | 14 => rfl
  | 15 => rfl
  | 16 => rfl
  | 17 => rfl
  | 18 => rfl
  | 19 => rfl
  | 20 => rfl
  | 21 => rfl
  | j + 22 => rw [if_neg (by omega)]; rfl
@[simp] theorem St.set_idr (V : Bs b) (s : SS) (v : Value) : (St V s).setCell ⟨b, 1043, none⟩ v = St V { s with idr := v } := St.set V 1043 _ (SS.upd 17 _ rfl rfl (SS.put_idr s v))
@[simp] theorem St.get_pf (V : Bs b) (s : SS) : (St V s).cell? ⟨b, 1044, none⟩ = some s.pf := St.cellAt V s 1044 (by decide)
theorem SS.put_pf (s : SS) (v : Value) (j : Nat) : ({ s with pf := v } : SS).tail j = if j = 18 then v else s.tail j := by
  match j with
  | 0 => rfl
  | 1 => rfl
  | 2 => rfl
  | 3 => rfl
  | 4 => rfl
  | 5 => rfl
  | 6 => rfl
  | 7 => rfl
  | 8 => rfl
  | 9 => rfl
  | 10 => rfl
  | 11 => rfl
  | 12 => rfl
  | 13 => rfl
  | 14 => rfl
  | 15 => rfl
  | 16 => rfl
  | 17 => rfl
  | 18 => rfl
  | 19 => rfl
  | 20 => rfl
  | 21 => rfl
  | j + 22 => rw [if_neg (by omega)]; rfl
@[simp] theorem St.set_pf (V : Bs b) (s : SS) (v : Value) : (St V s).setCell ⟨b, 1044, none⟩ v = St V { s with pf := v } := St.set V 1044 _ (SS.upd 18 _ rfl rfl (SS.put_pf s v))
@[simp] theorem St.get_po (V : Bs b) (s : SS) : (St V s).cell? ⟨b, 1045, none⟩ = some (.int .i64 s.po) := St.cellAt V s 1045 (by decide)
theorem SS.put_po (s : SS) (v : Int) (j : Nat) : ({ s with po := v } : SS).tail j = if j = 19 then (.int .i64 v) else s.tail j := by
  match j with
  | 0 => rfl
  | 1 => rfl
  | 2 => rfl
  | 3 => rfl
  | 4 => rfl
  | 5 => rfl
  | 6 => rfl
  | 7 => rfl
  | 8 => rfl
  | 9 => rfl
  | 10 => rfl
  | 11 => rfl
  | 12 => rfl
  | 13 => rfl
  | 14 => rfl
  | 15 => rfl
  | 16 => rfl
  | 17 => rfl
  | 18 => rfl
  | 19 => rfl
  | 20 => rfl
  | 21 => rfl
  | j + 22 => rw [if_neg (by omega)]; rfl
@[simp] theorem St.set_po (V : Bs b) (s : SS) (v : Int) : (St V s).setCell ⟨b, 1045, none⟩ (.int .i64 v) = St V { s with po := v } := St.set V 1045 _ (SS.upd 19 _ rfl rfl (SS.put_po s v))
@[simp] theorem St.get_pl (V : Bs b) (s : SS) : (St V s).cell? ⟨b, 1046, none⟩ = some (.int .i64 s.pl) := St.cellAt V s 1046 (by decide)
theorem SS.put_pl (s : SS) (v : Int) (j : Nat) : ({ s with pl := v } : SS).tail j = if j = 20 then (.int .i64 v) else s.tail j := by
  match j with
  | 0 => rfl
  | 1 => rfl
  | 2 => rfl
  | 3 => rfl
  | 4 => rfl
  | 5 => rfl
  | 6 => rfl
  | 7 => rfl
  | 8 => rfl
  | 9 => rfl
  | 10 => rfl
  | 11 => rfl
  | 12 => rfl
  | 13 => rfl
  | 14 => rfl
  | 15 => rfl
  | 16 => rfl
  | 17 => rfl
  | 18 => rfl
  | 19 => rfl
  | 20 => rfl
  | 21 => rfl
  | j + 22 => rw [if_neg (by omega)]; rfl
@[simp] theorem St.set_pl (V : Bs b) (s : SS) (v : Int) : (St V s).setCell ⟨b, 1046, none⟩ (.int .i64 v) = St V { s with pl := v } := St.set V 1046 _ (SS.upd 20 _ rfl rfl (SS.put_pl s v))
@[simp] theorem St.get_pc (V : Bs b) (s : SS) : (St V s).cell? ⟨b, 1047, none⟩ = some (.int .i64 s.pc) := St.cellAt V s 1047 (by decide)
theorem SS.put_pc (s : SS) (v : Int) (j : Nat) : ({ s with pc := v } : SS).tail j = if j = 21 then (.int .i64 v) else s.tail j := by
  match j with
  | 0 => rfl
  | 1 => rfl
  | 2 => rfl
  | 3 => rfl
  | 4 => rfl
  | 5 => rfl
  | 6 => rfl
  | 7 => rfl
  | 8 => rfl
  | 9 => rfl
  | 10 => rfl
  | 11 => rfl
  | 12 => rfl
  | 13 => rfl
  | 14 => rfl
  | 15 => rfl
  | 16 => rfl
  | 17 => rfl
  | 18 => rfl
  | 19 => rfl
  | 20 => rfl
  | 21 => rfl
  | j + 22 => rw [if_neg (by omega)]; rfl
@[simp] theorem St.set_pc (V : Bs b) (s : SS) (v : Int) : (St V s).setCell ⟨b, 1047, none⟩ (.int .i64 v) = St V { s with pc := v } := St.set V 1047 _ (SS.upd 21 _ rfl rfl (SS.put_pc s v))
@[simp] theorem St.get_pk (V : Bs b) (s : SS) : (St V s).cell? ⟨b, 1048, none⟩ = some s.pk := St.cellAt V s 1048 (by decide)
/-- A draw. -/
def Bs.drew (V : Bs b) : Bs b := ⟨V.1.drew, V.2⟩
@[simp] theorem St.drew (V : Bs b) (s : SS) : (St V s).drew = St V.drew s := rfl
end Go.Proofs

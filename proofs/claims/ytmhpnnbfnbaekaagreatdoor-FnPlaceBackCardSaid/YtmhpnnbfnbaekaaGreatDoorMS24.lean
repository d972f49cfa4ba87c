/- Part of the proof of FnPlaceBack: walk: the parser's start. No condition. -/
import Derived.Test.YtmhpnnbfnbaekaaGreatDoorMS22
namespace Go.Proofs
open Go Go.RowKit
/-- The scanner's zero value. -/
def SS.zero : SS := { src := .nilIface, byte := fun _ => 0, pos := 0, fin := 0, off := 0, line := 0, col := 0, ll := 0, lc := 0, buf := .slice none 0 0, boff := 0, blr := 0, tp := 0, te := 0, ch := 0, err := .nilFunc, ec := 0, mode := 0, ws := 0, idr := .nilFunc, pf := .string ⟨#[]⟩, po := 0, pl := 0, pc := 0, pk := .string ⟨#[]⟩ }
def SS.zeroTail : List Value := (List.range 22).map SS.zero.tail
theorem Pw.zero72 : Tryz.zeroCells72.toList = .nilIface :: (List.replicate 1025 (.int .u8 0) ++ SS.zeroTail) := by kernel_rfl
theorem Pw.zero74 : Tryz.zeroCells74.toList = .nilIface :: (List.replicate 1025 (.int .u8 0) ++ (SS.zeroTail ++ [.string ⟨#[]⟩])) := by kernel_rfl
theorem Pw.zero77 : Tryz.zeroCells77.toList = .nilIface :: (List.replicate 1025 (.int .u8 0) ++ (SS.zeroTail ++ [.string ⟨#[]⟩])) := by kernel_rfl
theorem Pw.zeroAt (R : List Value) (m : Nat) (_hR : R.length = m) (ht : ∀ k, k < m → R[k]? = some (SS.zero.tail k)) (k : Nat) (hk : k < 1026 + m) : (Value.nilIface :: (List.replicate 1025 (Value.int .u8 0) ++ R))[k]? = some (SS.zero.cell k) := by
  unfold SS.cell
  by_cases c0 : k = 0
  · subst c0; rfl
  · rw [if_neg c0]
    obtain ⟨j, rfl⟩ : ∃ j, k = j + 1 := ⟨k - 1, by omega⟩
    rw [List.getElem?_cons_succ]
    by_cases c1 : j + 1 ≤ 1025
    · rw [if_pos c1, List.getElem?_append_left (by rw [List.length_replicate]; omega), List.getElem?_replicate, if_pos (by omega)]
      rfl
    · rw [if_neg c1, List.getElem?_append_right (by rw [List.length_replicate]; omega), List.length_replicate, ht _ (by omega), show j + 1 - 1026 = j - 1025 from by omega]
theorem SS.zeroTail_at (k : Nat) (hk : k < 22) : SS.zeroTail[k]? = some (SS.zero.tail k) := by
  unfold SS.zeroTail
  rw [List.getElem?_map, List.getElem?_range hk]
  rfl
theorem SS.zeroTail_length : SS.zeroTail.length = 22 := by simp [SS.zeroTail]
def SS.arr2 (s : SS) : Array Value := Array.ofFn (n := 1048) fun k => s.cell k.val
theorem SS.arr2_at (s : SS) (k : Nat) (hk : k < 1048) : s.arr2[k]? = some (s.cell k) := by simp [SS.arr2, hk]
theorem SS.arr2_size (s : SS) : s.arr2.size = 1048 := by simp [SS.arr2]
theorem SS.arr_size (s : SS) : s.arr.size = 1049 := by simp [SS.arr]
theorem Pw.z72 : Tryz.zeroCells72 = SS.zero.arr2 := by
  refine Array.ext_getElem? fun k => ?_
  rw [← Array.getElem?_toList, Pw.zero72]
  by_cases hk : k < 1048
  · rw [SS.arr2_at _ k hk, Pw.zeroAt SS.zeroTail 22 SS.zeroTail_length SS.zeroTail_at k (by omega)]
  · rw [List.getElem?_eq_none, Array.getElem?_eq_none (by rw [SS.arr2_size]; omega)]
    rw [List.length_cons, List.length_append, List.length_replicate, SS.zeroTail_length]
    omega
theorem Pw.zTail (k : Nat) (hk : k < 23) : (SS.zeroTail ++ [Value.string ⟨#[]⟩])[k]? = some (SS.zero.tail k) := by
  by_cases h : k < 22
  · rw [List.getElem?_append_left (by rw [SS.zeroTail_length]; exact h), SS.zeroTail_at k h]
  · obtain rfl : k = 22 := by omega
    rw [List.getElem?_append_right (by rw [SS.zeroTail_length]; omega), SS.zeroTail_length]
    rfl
theorem Pw.z1049 (A : Array Value) (h : A.toList = .nilIface :: (List.replicate 1025 (.int .u8 0) ++ (SS.zeroTail ++ [.string ⟨#[]⟩]))) : A = SS.zero.arr := by
  refine Array.ext_getElem? fun k => ?_
  rw [← Array.getElem?_toList, h]
  have hl : (SS.zeroTail ++ [Value.string ⟨#[]⟩]).length = 23 := by rw [List.length_append, SS.zeroTail_length]; rfl
  by_cases hk : k < 1049
  · rw [SS.arr_at _ k hk, Pw.zeroAt _ 23 hl Pw.zTail k (by omega)]
  · rw [List.getElem?_eq_none, Array.getElem?_eq_none (by rw [SS.arr_size]; omega)]
    rw [List.length_cons, List.length_append, List.length_replicate, hl]
    omega
theorem Pw.z74 : Tryz.zeroCells74 = SS.zero.arr := Pw.z1049 _ Pw.zero74
theorem Pw.z77 : Tryz.zeroCells77 = SS.zero.arr := Pw.z1049 _ Pw.zero77
variable {b : Nat}
/-- The world V with block b laid anew as a scanner alone. -/
def Sx (V : Bs b) (s : SS) : World := { V.1 with heap := V.1.heap.modify b fun _ => .cells s.arr2 72 (0, 0) }
@[simp] theorem Sx.size (V : Bs b) (s : SS) : (Sx V s).heap.size = V.1.heap.size := by simp [Sx]
theorem Sx.block (V : Bs b) (s : SS) : (Sx V s).heap[b]? = some (.cells s.arr2 72 (0, 0)) := by
  unfold Sx
  simp only [Array.getElem?_modify, if_true]
  rw [Array.getElem?_eq_getElem V.2]
  rfl
theorem Sx.other (V : Bs b) (s : SS) (k : Nat) (h : k ≠ b) : (Sx V s).heap[k]? = V.1.heap[k]? := by
  unfold Sx
  simp only [Array.getElem?_modify]
  rw [if_neg (Ne.symm h)]
theorem Sx.eq {w : World} {s : SS} (h : w.heap[b]? = some (.cells s.arr2 72 (0, 0))) (hb : b < w.heap.size) : w = Sx (⟨w, hb⟩ : Bs b) s := by
  unfold Sx
  cases w with
  | mk heap tape drawn os output =>
    dsimp only at h hb ⊢
    congr 1
    refine Array.ext_getElem? fun j => ?_
    simp only [Array.getElem?_modify]
    by_cases hj : b = j
    · subst hj
      rw [if_pos rfl, h]; rfl
    · rw [if_neg hj]
theorem Sx.cellAt (V : Bs b) (s : SS) (k : Nat) (hk : k < 1048) : (Sx V s).cell? ⟨b, k, none⟩ = some (s.cell k) := by
  rw [cell_of_row _ _ _ _ _ _ (Sx.block V s)]
  simp [SS.arr2, hk]
@[simp] theorem Sx.frozen (V : Bs b) (s : SS) (k : Nat) : (Sx V s).frozen? ⟨b, k, none⟩ = false := by
  unfold World.frozen?
  rw [Sx.block V s]
  simp
theorem Sx.setCell_laid (w : World) (k : Nat) (A : Array Value) (T : TypeId) (v : Value) :
    ({ w with heap := w.heap.modify b fun _ => .cells A T (0, 0) } : World).setCell ⟨b, k, none⟩ v = { w with heap := w.heap.modify b fun _ => .cells (A.setIfInBounds k v) T (0, 0) } := St.setCell_laid w k A T v
theorem Sx.arr_set {s s' : SS} (k : Nat) (v : Value) (h : ∀ j, s'.cell j = if j = k then v else s.cell j) : s.arr2.setIfInBounds k v = s'.arr2 := by
  refine Array.ext_getElem? fun j => ?_
  rw [Array.getElem?_setIfInBounds]
  by_cases hj : k = j
  · subst hj
    by_cases hk : k < 1048
    · simp [SS.arr2, hk, h]
    · simp [SS.arr2, hk]
  · rw [if_neg hj]
    by_cases hk : j < 1048
    · simp [SS.arr2, hk, h, Ne.symm hj]
    · simp [SS.arr2, hk]
theorem Sx.set (V : Bs b) {s s' : SS} (k : Nat) (v : Value) (h : ∀ j, s'.cell j = if j = k then v else s.cell j) : (Sx V s).setCell ⟨b, k, none⟩ v = Sx V s' := by
  unfold Sx
  rw [Sx.setCell_laid, Sx.arr_set k v h]
@[simp] theorem Sx.get_src (V : Bs b) (s : SS) : (Sx V s).cell? ⟨b, 0, none⟩ = some s.src := Sx.cellAt V s 0 (by decide)
@[simp] theorem Sx.set_src (V : Bs b) (s : SS) (v : Value) : (Sx V s).setCell ⟨b, 0, none⟩ v = Sx V { s with src := v } := by
  refine Sx.set V 0 v fun j => ?_
  unfold SS.cell
  by_cases c0 : j = 0
  · rw [if_pos c0, if_pos c0]
  · rw [if_neg c0, if_neg c0, if_neg c0, SS.tail_src]
@[simp] theorem Sx.get_byte0 (V : Bs b) (s : SS) : (Sx V s).cell? ⟨b, 1, none⟩ = some (.int .u8 (s.byte 0)) := Sx.cellAt V s 1 (by decide)
@[simp] theorem Sx.set_byte0 (V : Bs b) (s : SS) (v : Int) : (Sx V s).setCell ⟨b, 1, none⟩ (.int .u8 v) = Sx V { s with byte := fun j => if j = 0 then v else s.byte j } := by
  refine Sx.set V 1 _ fun j => ?_
  unfold SS.cell
  by_cases c0 : j = 0
  · rw [if_pos c0, if_pos c0, if_neg (by omega)]
  · rw [if_neg c0, if_neg c0]
    by_cases c1 : j ≤ 1025
    · rw [if_pos c1, if_pos c1]
      dsimp only
      by_cases c2 : j = 1
      · rw [if_pos c2, if_pos (by omega)]
      · rw [if_neg c2, if_neg (by omega)]
    · rw [if_neg c1, if_neg c1, if_neg (by omega), SS.tail_byte]
@[simp] theorem Sx.get_pos (V : Bs b) (s : SS) : (Sx V s).cell? ⟨b, 1026, none⟩ = some (.int .i64 s.pos) := Sx.cellAt V s 1026 (by decide)
@[simp] theorem Sx.set_pos (V : Bs b) (s : SS) (v : Int) : (Sx V s).setCell ⟨b, 1026, none⟩ (.int .i64 v) = Sx V { s with pos := v } := Sx.set V 1026 _ (SS.upd 0 _ rfl rfl (SS.put_pos s v))
@[simp] theorem Sx.get_fin (V : Bs b) (s : SS) : (Sx V s).cell? ⟨b, 1027, none⟩ = some (.int .i64 s.fin) := Sx.cellAt V s 1027 (by decide)
@[simp] theorem Sx.set_fin (V : Bs b) (s : SS) (v : Int) : (Sx V s).setCell ⟨b, 1027, none⟩ (.int .i64 v) = Sx V { s with fin := v } := Sx.set V 1027 _ (SS.upd 1 _ rfl rfl (SS.put_fin s v))
@[simp] theorem Sx.get_off (V : Bs b) (s : SS) : (Sx V s).cell? ⟨b, 1028, none⟩ = some (.int .i64 s.off) := Sx.cellAt V s 1028 (by decide)
@[simp] theorem Sx.set_off (V : Bs b) (s : SS) (v : Int) : (Sx V s).setCell ⟨b, 1028, none⟩ (.int .i64 v) = Sx V { s with off := v } := Sx.set V 1028 _ (SS.upd 2 _ rfl rfl (SS.put_off s v))
@[simp] theorem Sx.get_line (V : Bs b) (s : SS) : (Sx V s).cell? ⟨b, 1029, none⟩ = some (.int .i64 s.line) := Sx.cellAt V s 1029 (by decide)
@[simp] theorem Sx.set_line (V : Bs b) (s : SS) (v : Int) : (Sx V s).setCell ⟨b, 1029, none⟩ (.int .i64 v) = Sx V { s with line := v } := Sx.set V 1029 _ (SS.upd 3 _ rfl rfl (SS.put_line s v))
@[simp] theorem Sx.get_col (V : Bs b) (s : SS) : (Sx V s).cell? ⟨b, 1030, none⟩ = some (.int .i64 s.col) := Sx.cellAt V s 1030 (by decide)
@[simp] theorem Sx.set_col (V : Bs b) (s : SS) (v : Int) : (Sx V s).setCell ⟨b, 1030, none⟩ (.int .i64 v) = Sx V { s with col := v } := Sx.set V 1030 _ (SS.upd 4 _ rfl rfl (SS.put_col s v))
@[simp] theorem Sx.get_ll (V : Bs b) (s : SS) : (Sx V s).cell? ⟨b, 1031, none⟩ = some (.int .i64 s.ll) := Sx.cellAt V s 1031 (by decide)
@[simp] theorem Sx.set_ll (V : Bs b) (s : SS) (v : Int) : (Sx V s).setCell ⟨b, 1031, none⟩ (.int .i64 v) = Sx V { s with ll := v } := Sx.set V 1031 _ (SS.upd 5 _ rfl rfl (SS.put_ll s v))
@[simp] theorem Sx.get_lc (V : Bs b) (s : SS) : (Sx V s).cell? ⟨b, 1032, none⟩ = some (.int .i64 s.lc) := Sx.cellAt V s 1032 (by decide)
@[simp] theorem Sx.set_lc (V : Bs b) (s : SS) (v : Int) : (Sx V s).setCell ⟨b, 1032, none⟩ (.int .i64 v) = Sx V { s with lc := v } := Sx.set V 1032 _ (SS.upd 6 _ rfl rfl (SS.put_lc s v))
@[simp] theorem Sx.get_tp (V : Bs b) (s : SS) : (Sx V s).cell? ⟨b, 1036, none⟩ = some (.int .i64 s.tp) := Sx.cellAt V s 1036 (by decide)
@[simp] theorem Sx.set_tp (V : Bs b) (s : SS) (v : Int) : (Sx V s).setCell ⟨b, 1036, none⟩ (.int .i64 v) = Sx V { s with tp := v } := Sx.set V 1036 _ (SS.upd 10 _ rfl rfl (SS.put_tp s v))
@[simp] theorem Sx.get_ch (V : Bs b) (s : SS) : (Sx V s).cell? ⟨b, 1038, none⟩ = some (.int .i32 s.ch) := Sx.cellAt V s 1038 (by decide)
@[simp] theorem Sx.set_ch (V : Bs b) (s : SS) (v : Int) : (Sx V s).setCell ⟨b, 1038, none⟩ (.int .i32 v) = Sx V { s with ch := v } := Sx.set V 1038 _ (SS.upd 12 _ rfl rfl (SS.put_ch s v))
@[simp] theorem Sx.get_err (V : Bs b) (s : SS) : (Sx V s).cell? ⟨b, 1039, none⟩ = some s.err := Sx.cellAt V s 1039 (by decide)
@[simp] theorem Sx.set_err (V : Bs b) (s : SS) (v : Value) : (Sx V s).setCell ⟨b, 1039, none⟩ v = Sx V { s with err := v } := Sx.set V 1039 _ (SS.upd 13 _ rfl rfl (SS.put_err s v))
@[simp] theorem Sx.get_ec (V : Bs b) (s : SS) : (Sx V s).cell? ⟨b, 1040, none⟩ = some (.int .i64 s.ec) := Sx.cellAt V s 1040 (by decide)
@[simp] theorem Sx.set_ec (V : Bs b) (s : SS) (v : Int) : (Sx V s).setCell ⟨b, 1040, none⟩ (.int .i64 v) = Sx V { s with ec := v } := Sx.set V 1040 _ (SS.upd 14 _ rfl rfl (SS.put_ec s v))
@[simp] theorem Sx.get_mode (V : Bs b) (s : SS) : (Sx V s).cell? ⟨b, 1041, none⟩ = some (.int .u64 s.mode) := Sx.cellAt V s 1041 (by decide)
@[simp] theorem Sx.set_mode (V : Bs b) (s : SS) (v : Int) : (Sx V s).setCell ⟨b, 1041, none⟩ (.int .u64 v) = Sx V { s with mode := v } := Sx.set V 1041 _ (SS.upd 15 _ rfl rfl (SS.put_mode s v))
@[simp] theorem Sx.get_ws (V : Bs b) (s : SS) : (Sx V s).cell? ⟨b, 1042, none⟩ = some (.int .u64 s.ws) := Sx.cellAt V s 1042 (by decide)
@[simp] theorem Sx.set_ws (V : Bs b) (s : SS) (v : Int) : (Sx V s).setCell ⟨b, 1042, none⟩ (.int .u64 v) = Sx V { s with ws := v } := Sx.set V 1042 _ (SS.upd 16 _ rfl rfl (SS.put_ws s v))
@[simp] theorem Sx.get_pl (V : Bs b) (s : SS) : (Sx V s).cell? ⟨b, 1046, none⟩ = some (.int .i64 s.pl) := Sx.cellAt V s 1046 (by decide)
@[simp] theorem Sx.set_pl (V : Bs b) (s : SS) (v : Int) : (Sx V s).setCell ⟨b, 1046, none⟩ (.int .i64 v) = Sx V { s with pl := v } := Sx.set V 1046 _ (SS.upd 20 _ rfl rfl (SS.put_pl s v))
/-- The scanner behind Init. -/
def SS.start (v : Value) : SS := { src := v, byte := fun j => if j = 0 then 128 else 0, pos := 0, fin := 0, off := 0, line := 1, col := 0, ll := 0, lc := 0, buf := .slice none 0 0, boff := 0, blr := 0, tp := -1, te := 0, ch := -2, err := .nilFunc, ec := 0, mode := 1012, ws := 4294977024, idr := .nilFunc, pf := .string ⟨#[]⟩, po := 0, pl := 0, pc := 0, pk := .string ⟨#[]⟩ }
set_option maxRecDepth 100000 in
/-- Init. -/
theorem Pw.init (V : Bs b) (v : Value) : Calls Tryz.prog 28 #[.pointer (some ⟨b, 0, none⟩), .iface 85 v] (Sx V SS.zero) fun e w' => e = .returned (.pointer (some ⟨b, 0, none⟩)) ∧ w' = Sx V (SS.start (.iface 85 v)) := by
  obtain ⟨z, hz⟩ : ∃ z : SS, z = SS.zero := ⟨_, rfl⟩
  rw [← hz]
  have HZ := Lib.hid hz
  clear hz
  go_enter Tryz.func28, Tryz.ntmps28
  go_wp2
  go_ret
  refine ⟨rfl, ?_⟩
  rw [HZ.out]
  rfl
end Go.Proofs

/- Part of the proof of FnPlaceBack: walk: the scanner's smaller callees. No condition. -/
import Derived.Test.YtmhpnnbfnbaekaaGreatDoorMS3
import Derived.Test.YtmhpnnbfnbaekaaGreatDoorShelf
namespace Go.Proofs
open Go Go.RowKit
theorem Pw.fullRune0 (a : Option Addr) (c : Nat) (w : World) : Calls Tryz.prog 60 #[.slice a 0 c] w fun e w' => e = .returned (.bool false) ∧ w = w' := by
  go_enter Tryz.func60, Tryz.ntmps60
  go_wp2
  go_ret
  exact ⟨rfl, rfl⟩
theorem Pw.fullRune1 (b i n c : Nat) (x : Nat) (hx : x < 128) (hn : 0 < n) (hnc : n ≤ 1000000) (w : World) (hc : w.cell? ⟨b, i, none⟩ = some (.int .u8 x)) (ht : w.cell? ⟨6, x, none⟩ = some (.int .u8 240)) :
    Calls Tryz.prog 60 #[.slice (some ⟨b, i, none⟩) n c] w fun e w' => e = .returned (.bool true) ∧ w = w' := by
  go_enter Tryz.func60, Tryz.ntmps60
  go_wp2
  go_ret
  exact ⟨rfl, rfl⟩
variable {b B : Nat} {r : Option Nat}
def Bs.drewN (V : Bs b) (n : Nat) : Bs b := ⟨V.1.drewN n, V.2⟩
theorem St.drewN (V : Bs b) (s : SS) (n : Nat) : (St V s).drewN n = St (V.drewN n) s := rfl
@[simp] theorem Bs.drew_val (V : Bs b) : V.drew.1 = V.1.drew := rfl
@[simp] theorem Bs.drewN_val (V : Bs b) (n : Nat) : (V.drewN n).1 = V.1.drewN n := rfl
theorem Kp.drewN (V : Bs b) (n : Nat) : Kp B r V (V.drewN n) := ⟨⟨rfl, rfl, rfl, Nat.le_refl _, fun _ _ => rfl⟩, fun _ _ h _ _ _ => h⟩
/-- A store into another block. -/
def Bs.put (V : Bs b) (a : Addr) (v : Value) : Bs b := ⟨V.1.setCell a v, by simpa [World.setCell] using V.2⟩
@[simp] theorem Bs.put_val (V : Bs b) (a : Addr) (v : Value) : (V.put a v).1 = V.1.setCell a v := rfl
theorem St.put (V : Bs b) (s : SS) (a : Addr) (v : Value) (h : a.block ≠ b) : (St V s).setCell a v = St (V.put a v) s := by
  unfold St Bs.put World.setCell
  dsimp only
  congr 1
  refine Array.ext_getElem? fun j => ?_
  simp only [Array.getElem?_modify]
  by_cases h1 : a.block = j
  · subst h1
    rw [if_neg (Ne.symm h), if_neg (Ne.symm h)]
  · rw [if_neg h1, if_neg h1]
theorem Kp.put (V : Bs b) (a : Addr) (v : Value) (hB : B ≤ a.block) : Kp B (some a.block) V (V.put a v) := by
  refine ⟨(Below.refl _ _).setCell hB v, fun k o hk _ h2 _ => ?_⟩
  rw [Bs.put_val, Below.heap_setCell _ _ _ _ (by simpa using h2)]
  exact hk
theorem St.setRow (V : Bs b) (s s' : SS) : (St V s).setRow b s'.arr = St V s' := by
  unfold St World.setRow
  dsimp only
  congr 1
  refine Array.ext_getElem? fun j => ?_
  simp only [Array.getElem?_modify]
  by_cases hj : b = j
  · subst hj
    simp only [if_true, Option.map_map]
    cases V.1.heap[b]? with
    | none => rfl
    | some x => rfl
  · simp only [if_neg hj]
/-- The reader's copy into srcBuf. -/
theorem St.copy (V : Bs b) (s : SS) (x : ByteArray) (n c : Nat) (hn : n = min x.size 1024) :
    (Builtin.copy_ #[44, 9] 3 #[.slice (some ⟨b, 1, none⟩) 1024 c, .string x]).run Tryz.prog (St V s) = .ok (goInt n) (St V { s with byte := fun k => if h : k < n then ((x[k]'(by omega)).toNat : Int) else s.byte k }) := by
  have hlen : (Lib.byteCells (x.data.toList.take n)).length = n := by rw [Lib.byteCells_length, List.length_take, ← Lib.size_eq]; omega
  have hst := run_storeCells_at Tryz.prog b 1 77 (Lib.byteCells (x.data.toList.take n)) 0 s.arr (St V s) (St.block V s) (by rw [hlen]; simp [SS.arr]; omega) (Lib.byteCells_one _)
  have hmin : Nat.min x.size 1024 = n := hn.symm
  have htk : List.take n (List.map (fun b : UInt8 => Value.int IntKind.u8 (b.toNat : Int)) x.data.toList) = Lib.byteCells (x.data.toList.take n) := by
    rw [← List.map_take]; rfl
  rw [hlen] at hst
  have hcells : ((List.take (1 + 0) s.arr.toList ++ Lib.byteCells (x.data.toList.take n) ++ List.drop (1 + 0 + n) s.arr.toList).toArray) = ({ s with byte := fun k => if h : k < n then ((x[k]'(by omega)).toNat : Int) else s.byte k } : SS).arr := by
    have hz : s.arr.size = 1049 := by simp [SS.arr]
    refine Array.ext_getElem? fun j => ?_
    rw [List.getElem?_toArray]
    by_cases hj : j < 1049
    · rw [SS.arr_at _ j hj]
      unfold SS.cell
      by_cases c0 : j = 0
      · subst c0
        rw [if_pos rfl, List.append_assoc, List.getElem?_append_left (by rw [List.length_take, Array.length_toList]; omega), List.getElem?_take, if_pos (by omega), Array.getElem?_toList, SS.arr_at s 0 (by omega)]
        rfl
      · rw [if_neg c0]
        by_cases c1 : j < 1 + n
        · rw [if_pos (by omega), List.append_assoc, List.getElem?_append_right (by rw [List.length_take, Array.length_toList]; omega), List.getElem?_append_left (by rw [hlen, List.length_take, Array.length_toList]; omega)]
          have e : j - (List.take (1 + 0) s.arr.toList).length = j - 1 := by rw [List.length_take, Array.length_toList]; omega
          dsimp only
          rw [e, dif_pos (by omega)]
          unfold Lib.byteCells
          rw [List.getElem?_map, List.getElem?_take, if_pos (by omega), Array.getElem?_toList]
          have hx : j - 1 < x.data.size := by have : x.data.size = x.size := rfl; omega
          rw [Array.getElem?_eq_getElem hx]
          rfl
        · rw [List.getElem?_append_right (by rw [List.length_append, hlen, List.length_take, Array.length_toList]; omega), List.getElem?_drop, Array.getElem?_toList]
          have e : 1 + 0 + n + (j - (List.take (1 + 0) s.arr.toList ++ Lib.byteCells (x.data.toList.take n)).length) = j := by rw [List.length_append, hlen, List.length_take, Array.length_toList]; omega
          rw [e, SS.arr_at s j hj]
          unfold SS.cell
          rw [if_neg c0]
          by_cases c2 : j ≤ 1025
          · rw [if_pos c2, if_pos c2]
            dsimp only
            rw [dif_neg (by omega)]
          · rw [if_neg c2, if_neg c2]
            exact congrArg some (SS.tail_byte s _ _).symm
    · rw [Array.getElem?_eq_none (by simp [SS.arr]; omega), List.getElem?_eq_none]
      rw [List.length_append, List.length_append, hlen, List.length_take, List.length_drop, Array.length_toList]
      omega
  rw [hcells, St.setRow] at hst
  obtain ⟨i, hq, hi⟩ := Option.map_eq_some_iff.1 Pw.info5
  simp [Builtin.copy_, run_underlying Tryz.underlying44, Builtin.lenOf, Builtin.firstCells, sizeOf, typeInfo, hq, hmin]
  rw [htk, hst]
  simp [Result.andThen]
end Go.Proofs
namespace Go.Proofs
open Go Go.RowKit
variable {b B : Nat} {r : Option Nat}
/-- Reset. -/
theorem Pw.reset (V : Bs b) (s : SS) (bs : List Value) (h : Bf B V s bs) :
    Calls Tryz.prog 41 #[.pointer (some ⟨b, 1033, none⟩)] (St V s) fun e w' => ∃ (V' : Bs b) (v : Value), e = .returned (.tuple #[]) ∧ w' = St V' { s with buf := v, boff := 0, blr := 0 } ∧ Bf B V' { s with buf := v, boff := 0, blr := 0 } [] ∧ Kp B none V V' := by
  obtain ⟨h0, ⟨-, h1⟩, h2⟩ := h
  rcases h1 with ⟨hv, -⟩ | ⟨g, cap, cur, hv, hBg, hg, hn, hcm, hcs, -⟩
  · go_enter Tryz.func41, Tryz.ntmps41
    go_wp2
    go_end0
    exact ⟨V, .slice none 0 0, rfl, rfl, ⟨rfl, World.ownsRow_nil _ _ _ _, by simp [Value.ownBlock]⟩, Kp.refl V⟩
  · obtain ⟨n, hnn⟩ : ∃ n, n = bs.length := ⟨_, rfl⟩
    rw [← hnn] at hv hn
    clear hnn
    have hcm' := hcm
    unfold maxLen at hcm'
    rw [hv] at h2
    go_enter Tryz.func41, Tryz.ntmps41
    go_wp2
    go_end0
    exact ⟨V, .slice (some ⟨g, 0, none⟩) 0 cap, rfl, rfl, ⟨rfl, ⟨rfl, .inr ⟨g, cap, cur, rfl, hBg, hg, Nat.zero_le _, hcm, hcs, rfl⟩⟩, h2⟩, Kp.refl V⟩
end Go.Proofs

/- Part of the proof of FnPlaceBack: what a call keeps. No condition. -/
import Derived.Test.YtmhpnnbfnbaekaaGreatDoorMS2
import Derived.LaidEql
namespace Go.Proofs
open Go Go.RowKit
/-- What a scan runs over: the text, where the scanner and the reader lie, and io.EOF's own address. -/
structure Env where
  B : Nat
  b : Nat
  rb : Nat
  S : ByteArray
  eof : Addr
  hB : B ≤ b
  hrb : B ≤ rb
  hne : rb ≠ b
  hN : S.size ≤ 1000000
  h6 : 6 < B
  signs : ∀ i (h : i < S.size), 32 ≤ (S[i]'h).toNat ∧ (S[i]'h).toNat < 64
/-- The sign at a place; -1 behind the end. -/
def Env.at (E : Env) (i : Nat) : Int := if h : i < E.S.size then ((E.S[i]'h).toNat : Int) else -1
def Env.cells (E : Env) (a n : Nat) : List Value := (List.range n).map fun i => .int .u8 (E.at (a + i))
theorem Env.at_lt (E : Env) {i : Nat} (h : i < E.S.size) : 1 ≤ E.at i ∧ E.at i < 128 ∧ E.at i ≠ 10 := by
  have := E.signs i h
  unfold Env.at
  rw [dif_pos h]
  omega
theorem Env.at_in (E : Env) (i : Nat) : E.at i = -1 ∨ 32 ≤ E.at i ∧ E.at i < 64 := by
  unfold Env.at
  split
  · rename_i h
    have := E.signs i h
    omega
  · exact .inl rfl
theorem Env.at_end (E : Env) {i : Nat} (h : E.S.size ≤ i) : E.at i = -1 := by
  unfold Env.at
  rw [dif_neg (by omega)]
theorem Env.cells_length (E : Env) (a n : Nat) : (E.cells a n).length = n := by simp [Env.cells]
theorem Env.cells_append (E : Env) (a n m : Nat) : E.cells a n ++ E.cells (a + n) m = E.cells a (n + m) := by
  unfold Env.cells
  rw [List.range_add, List.map_append, List.map_map]
  congr 1
  refine List.map_congr_left fun i _ => ?_
  show _ = Value.int .u8 (E.at (a + (n + i)))
  rw [Nat.add_assoc]
theorem Env.cells_one (E : Env) (a n : Nat) : ∀ v ∈ E.cells a n, v.oneCell' = true := by
  intro v hv
  obtain ⟨i, -, rfl⟩ := List.mem_map.1 hv
  rfl
theorem Env.cells_get (E : Env) {a n j : Nat} {v : Value} (h : (E.cells a n)[j]? = some v) : j < n ∧ v = .int .u8 (E.at (a + j)) := by
  have hj : j < n := by
    have := (List.getElem?_eq_some_iff.1 h).1
    rwa [Env.cells_length] at this
  refine ⟨hj, ?_⟩
  unfold Env.cells at h
  rw [List.getElem?_map, List.getElem?_range hj] at h
  exact (Option.some.inj h).symm
/-- All but block b, and but block r, and but rows of bytes, is as it was; below B all. -/
structure Kp {b : Nat} (B : Nat) (r : Option Nat) (V V' : Bs b) : Prop where
  below : Below B V.1 V'.1
  others : ∀ k o, V.1.heap[k]? = some o → k ≠ b → some k ≠ r → (∀ c fz, o ≠ .cells c 5 fz) → V'.1.heap[k]? = some o
section
variable {b B : Nat} {r : Option Nat}
theorem Kp.refl (V : Bs b) : Kp B r V V := ⟨Below.refl _ _, fun _ _ h _ _ _ => h⟩
theorem Kp.trans {U V W : Bs b} (h : Kp B r U V) (k : Kp B r V W) : Kp B r U W := ⟨h.below.trans k.below, fun j o hj h1 h2 h3 => k.others j o (h.others j o hj h1 h2 h3) h1 h2 h3⟩
theorem Kp.more {V W : Bs b} (h : Kp B none V W) : Kp B r V W := ⟨h.below, fun j o hj h1 _ h3 => h.others j o hj h1 (by simp) h3⟩
theorem Kp.drew (V : Bs b) : Kp B r V V.drew := ⟨(Below.refl _ _).drew, fun _ _ h _ _ _ => h⟩
theorem Kp.ofLaid {V : Bs b} {s s' : SS} {w' : World} {V' : Bs b} (hBb : B ≤ b) (e : w' = St V' s') (hb : Below B (St V s) w') (ho : Lib.OthersKept 5 (some b) (St V s) w') : Kp B none V V' := by
  subst e
  refine ⟨⟨hb.os, hb.tape, hb.output, by have := hb.size; simpa using this, fun k hk => ?_⟩, fun k o hk h1 _ h3 => ?_⟩
  · have := hb.block k hk
    rwa [St.other V s k (by omega), St.other V' s' k (by omega)] at this
  · have := ho k o (by rw [St.other V s k h1]; exact hk) (by simpa using h1) h3
    rwa [St.other V' s' k h1] at this
/-- The scanner's buffer holds bs. -/
def Bf (B : Nat) (V : Bs b) (s : SS) (bs : List Value) : Prop := s.boff = 0 ∧ V.1.ownsRow B 5 1 s.buf bs.length bs ∧ s.buf.ownBlock ≠ some b
def SS.R (s : SS) : Nat → Option Value := fun i => s.arr[i]?
theorem ownsRow_other {w w' : World} {e : TypeId} {v : Value} {n : Nat} {xs : List Value} (h : w.ownsRow B e 1 v n xs) (hne : v.ownBlock ≠ some b) (hk : ∀ k, k ≠ b → w'.heap[k]? = w.heap[k]?) : w'.ownsRow B e 1 v n xs := by
  refine ⟨h.1, ?_⟩
  rcases h.2 with h0 | ⟨g, cap, cur, hv, hBg, hg, rest⟩
  · exact .inl h0
  · refine .inr ⟨g, cap, cur, hv, hBg, ?_, rest⟩
    rw [hk g (by rw [hv] at hne; simp only [Value.ownBlock, ne_eq, Option.some.injEq] at hne; exact hne)]
    exact hg
theorem SS.arr_at (s : SS) (k : Nat) (hk : k < 1049) : s.arr[k]? = some (s.cell k) := by simp [SS.arr, hk]
theorem Bf.buffer {V : Bs b} {s : SS} {bs : List Value} (hB : B ≤ b) (h : Bf B V s bs) : LibA.IsBuffer 77 s.R 5 B b 1033 bs (St V s) := by
  obtain ⟨h1, h2, h3⟩ := h
  refine ⟨hB, s.buf, s.blr, ⟨s.arr, St.block V s, ?_, ?_, ?_, fun i _ => rfl⟩, ownsRow_other h2 h3 fun k hk => St.other V s k hk, h3⟩
  · exact SS.arr_at s 1033 (by decide)
  · rw [SS.arr_at s 1034 (by decide), ← h1]; rfl
  · exact SS.arr_at s 1035 (by decide)
theorem Bf.of {s : SS} {bs : List Value} {w : World} (h : LibA.IsBuffer 77 s.R 5 B b 1033 bs w) : ∃ (V : Bs b) (v : Value) (lr : Int), w = St V { s with buf := v, boff := 0, blr := lr } ∧ Bf B V { s with buf := v, boff := 0, blr := lr } bs := by
  obtain ⟨hB, v, lr, ⟨cs, hb, h0, h1, h2, hr⟩, hown, hne⟩ := h
  have hlt : b < w.heap.size := Lib.lt_of_heap hb
  have e : cs = ({ s with buf := v, boff := 0, blr := lr } : SS).arr := by
    have e1 : s.arr.setIfInBounds 1033 v = ({ s with buf := v } : SS).arr := St.arr_set 1033 v (SS.upd 7 _ rfl rfl (SS.put_buf s v))
    have e2 : ({ s with buf := v } : SS).arr.setIfInBounds 1034 (.int .i64 0) = ({ s with buf := v, boff := 0 } : SS).arr := St.arr_set 1034 _ (SS.upd 8 _ rfl rfl (SS.put_boff { s with buf := v } 0))
    have e3 : ({ s with buf := v, boff := 0 } : SS).arr.setIfInBounds 1035 (.int .i8 lr) = ({ s with buf := v, boff := 0, blr := lr } : SS).arr := St.arr_set 1035 _ (SS.upd 9 _ rfl rfl (SS.put_blr { s with buf := v, boff := 0 } lr))
    have hz : s.arr.size = 1049 := by simp [SS.arr]
    rw [← e3, ← e2, ← e1]
    refine Array.ext_getElem? fun j => ?_
    rw [Array.getElem?_setIfInBounds, Array.getElem?_setIfInBounds, Array.getElem?_setIfInBounds]
    by_cases j2 : 1035 = j
    · subst j2; simp [hz, h2]
    · rw [if_neg j2]
      by_cases j1 : 1034 = j
      · subst j1; simp [hz, h1]
      · rw [if_neg j1]
        by_cases j0 : 1033 = j
        · subst j0; simp [hz, h0]
        · rw [if_neg j0]
          exact hr j (by omega)
  refine ⟨⟨w, hlt⟩, v, lr, St.eq (by rw [hb, e]) hlt, rfl, hown, hne⟩
theorem Bf.one {V : Bs b} {s s' : SS} {bs : List Value} (h : Bf B V s bs) (h1 : s'.buf = s.buf) (h2 : s'.boff = s.boff) : Bf B V s' bs := ⟨h2.trans h.1, by rw [h1]; exact h.2.1, by rw [h1]; exact h.2.2⟩
theorem Bf.world {V V' : Bs b} {s : SS} {bs : List Value} (h : Bf B V s bs) (hk : ∀ k c, V.1.heap[k]? = some (.cells c 5 (0, 0)) → k ≠ b → V'.1.heap[k]? = some (.cells c 5 (0, 0))) : Bf B V' s bs := by
  refine ⟨h.1, ⟨h.2.1.1, ?_⟩, h.2.2⟩
  rcases h.2.1.2 with h0 | ⟨g, cap, cur, hv, hBg, hg, rest⟩
  · exact .inl h0
  · have hne := h.2.2
    rw [hv] at hne
    simp only [Value.ownBlock, ne_eq, Option.some.injEq] at hne
    exact .inr ⟨g, cap, cur, hv, hBg, hk g cur hg hne, rest⟩
theorem SS.R_byte (s : SS) (j : Nat) (hj : j < 1025) : s.R (1 + j) = some (.int .u8 (s.byte j)) := by
  unfold SS.R SS.arr
  rw [Array.getElem?_eq_getElem (by simp; omega)]
  simp only [Array.getElem_ofFn]
  unfold SS.cell
  rw [if_neg (by omega), if_pos (by omega), Nat.add_sub_cancel_left]
/-- Write, in the scanner's own words. -/
theorem Pw.stWrite (V : Bs b) (s : SS) (bs cs : List Value) (tp n c : Nat) (hB : B ≤ b) (h : Bf B V s bs) (h1 : ∀ v ∈ bs, v.oneCell' = true) (hn : cs.length = n) (hq : tp + n ≤ 1025) (hcs : ∀ j v, cs[j]? = some v → v = Value.int .u8 (s.byte (tp + j))) (hlim : bs.length + n ≤ 140737488355328) :
    Calls Tryz.prog 51 #[.pointer (some ⟨b, 1033, none⟩), .slice (some ⟨b, 1 + tp, none⟩) n c] (St V s) fun e w' => ∃ (V' : Bs b) (v : Value) (lr : Int), e = .returned (.tuple #[.int .i64 n, .nilIface]) ∧ w' = St V' { s with buf := v, boff := 0, blr := lr } ∧
      Bf B V' { s with buf := v, boff := 0, blr := lr } (bs ++ cs) ∧ Kp B none V V' := by
  refine (Pw.bufWrite 77 s.R B b 1033 bs cs (1 + tp) n c (St V s) (h.buffer hB) (by have := V.2; simp; omega) h1 hn (by omega) ?_ ?_ hlim).mono ?_
  · intro j v hj
    have hlt : j < cs.length := (List.getElem?_eq_some_iff.1 hj).1
    rw [hcs j v hj, Nat.add_assoc, SS.R_byte s (tp + j) (by omega)]
  · intro v hv
    obtain ⟨j, hj⟩ := List.getElem?_of_mem hv
    rw [hcs j v hj]; rfl
  · rintro e w' ⟨rfl, hI, hbel, hk⟩
    obtain ⟨V', v, lr, e1, hf⟩ := Bf.of hI
    exact ⟨V', v, lr, rfl, e1, hf, Kp.ofLaid hB e1 hbel hk⟩
end
theorem Pw.neq_eof (a : Addr) (w : World) : (binOp .neq 39 (.iface 183 (.pointer (some a))) (.iface 183 (.pointer (some a)))).run Tryz.prog w = .ok (.bool false) w := by
  have g1 : (Tryz.prog.info? 183).map (·.comparable) = some true := by kernel_rfl
  have g2 : (Tryz.prog.info? 185).isSome = true := by kernel_rfl
  obtain ⟨i, hi⟩ := Option.map_eq_some_iff.1 g1
  obtain ⟨j, hj⟩ := Option.isSome_iff_exists.1 g2
  have h := run_equalIn_iface_ptr_same (P := Tryz.prog) w 9998 (ti := 39) (tp := 183) (te := 185) a Tryz.underlying39 Tryz.underlying183 hi.1 hi.2 hj
  simp only [binOp]
  simp [Op.equal, Op.maxDepth, h]
end Go.Proofs

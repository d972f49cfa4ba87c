/- Part of the proof of FnPlaceBack: walk: a number's literal. No condition. -/
import Derived.Test.YtmhpnnbfnbaekaaGreatDoorMS17
import Derived.Test.YtmhpnnbfnbaekaaGreatDoorMW11
import Derived.Test.YtmhpnnbfnbaekaaGreatDoorMW12
namespace Go.Proofs
open Go Go.RowKit
/-- A number of L signs stands at c, and the scanner takes it. -/
def Pw.NumAt (E : Env) (c L : Nat) : Prop :=
  (48 ≤ E.at c ∧ E.at c ≤ 57) ∧ ∃ tv : Int, (tv == -1) = false ∧ ∀ (V : Bs E.b) (s : SS) (tok : Option Nat), Look E V s c tok → Calls Tryz.prog 45 #[.pointer (some ⟨E.b, 0, none⟩), .int .i32 (E.at c), .bool false] (St V s) (Pw.NumEnd E V s c L tok tv)
theorem Pw.numA (E : Env) (c n : Nat) (hd : ∀ j, j < n → 48 ≤ E.at (c + j) ∧ E.at (c + j) ≤ 57) (hn : 1 ≤ n) (h0 : E.at c ≠ 48) (he : E.at (c + n) = 32 ∨ E.at (c + n) = -1) : Pw.NumAt E c n :=
  ⟨hd 0 (by omega), -3, by decide, fun V s tok h => Pw.scanA E V s c n tok h hd hn h0 he⟩
theorem Pw.numB (E : Env) (c n m : Nat) (hd : ∀ j, j < n → 48 ≤ E.at (c + j) ∧ E.at (c + j) ≤ 57) (hn : 1 ≤ n) (h0 : E.at c ≠ 48) (hp : E.at (c + n) = 46) (hd2 : ∀ j, j < m → 48 ≤ E.at (c + n + 1 + j) ∧ E.at (c + n + 1 + j) ≤ 57) (hm : 1 ≤ m) (he : E.at (c + n + 1 + m) = 32 ∨ E.at (c + n + 1 + m) = -1) : Pw.NumAt E c (n + 1 + m) :=
  ⟨hd 0 (by omega), -4, by decide, fun V s tok h => Pw.scanB E V s c n m tok h hd hn h0 hp hd2 hm he⟩
theorem Pw.numC (E : Env) (c : Nat) (h0 : E.at c = 48) (he : E.at (c + 1) = 32 ∨ E.at (c + 1) = -1) : Pw.NumAt E c 1 :=
  ⟨by omega, -3, by decide, fun V s tok h => Pw.scanC E V s c tok h h0 he⟩
theorem Pw.numD (E : Env) (c m : Nat) (h0 : E.at c = 48) (hp : E.at (c + 1) = 46) (hd2 : ∀ j, j < m → 48 ≤ E.at (c + 1 + 1 + j) ∧ E.at (c + 1 + 1 + j) ≤ 57) (hm : 1 ≤ m) (he : E.at (c + 1 + 1 + m) = 32 ∨ E.at (c + 1 + 1 + m) = -1) : Pw.NumAt E c (1 + 1 + m) :=
  ⟨by omega, -4, by decide, fun V s tok h => Pw.scanD E V s c m tok h h0 hp hd2 hm he⟩
theorem Pw.lexNumber (E : Env) (V : Bs E.b) (s : SS) (c k L : Nat) (hG : Gap E V s c) (hp : s.pk = .string ⟨#[]⟩) (hsp : ∀ j, j < k → E.at (c + j) = 32) (hn : Pw.NumAt E (c + k) L) :
    Calls Tryz.prog 30 #[.pointer (some ⟨E.b, 0, none⟩)] (St V s) (Pw.LexEnd E V c k L) := by
  obtain ⟨hd, tv, htv, hnum⟩ := hn
  refine Pw.lexNext E V s c k L tv hG hp htv fun V' s' hG' => ?_
  obtain ⟨tok, hpk⟩ := hG'.peek
  exact Pw.scanNum E V' s' c k L tok tv hpk hsp hd fun V2 s2 h2 => hnum V2 s2 _ h2
theorem Pw.lexMinus (E : Env) (V : Bs E.b) (s : SS) (c k : Nat) (hG : Gap E V s c) (hp : s.pk = .string ⟨#[]⟩) (hsp : ∀ j, j < k → E.at (c + j) = 32) (hd : E.at (c + k) = 45) :
    Calls Tryz.prog 30 #[.pointer (some ⟨E.b, 0, none⟩)] (St V s) fun e w' => ∃ (V' : Bs E.b) (s' : SS), e = .returned (.tuple #[.string ⟨#[45]⟩, .nilIface]) ∧ w' = St V' s' ∧ Gap E V' s' (c + k + 1) ∧ s'.pk = .string ⟨#[]⟩ ∧ Kp E.B (some E.rb) V V' := by
  refine (Pw.lexNext E V s c k 1 45 hG hp (by decide) fun V' s' hG' => ?_).mono ?_
  · obtain ⟨tok, hpk⟩ := hG'.peek
    exact Pw.scanMinus E V' s' c k tok hpk hsp hd
  · rintro e w' ⟨V', s', rfl, rfl, h⟩
    refine ⟨V', s', ?_, rfl, h⟩
    have e1 : E.text (c + k) 1 = ⟨#[45]⟩ := by
      unfold Env.text Env.seg
      simp [hd]
    rw [e1]
/-- A world that has only grown behind a call. -/
theorem St.grown {E : Env} {V : Bs E.b} {s : SS} {w' : World} (h : (St V s).grownBy w' none) : ∃ V' : Bs E.b, w' = St V' s ∧ (∀ k, k < V.1.heap.size → k ≠ E.b → V'.1.heap[k]? = V.1.heap[k]?) ∧ ∀ r, Kp E.B r V V' := by
  have hsz : V.1.heap.size ≤ w'.heap.size := by have := h.size; simpa using this
  have hk : ∀ k, k < V.1.heap.size → w'.heap[k]? = (St V s).heap[k]? := fun k hk => h.block k (by simpa using hk) (by simp)
  have hb : w'.heap[E.b]? = some (.cells s.arr 77 (0, 0)) := by rw [hk _ V.2]; exact St.block V s
  have hlt : E.b < w'.heap.size := Nat.lt_of_lt_of_le V.2 hsz
  have h2 : ∀ k, k < V.1.heap.size → k ≠ E.b → w'.heap[k]? = V.1.heap[k]? := fun k h1 h2 => by rw [hk k h1, St.other V s k h2]
  refine ⟨⟨w', hlt⟩, St.eq hb hlt, h2, fun r => ⟨⟨h.os, h.tape, h.output, hsz, fun k h1 => ?_⟩, fun k o h1 h3 _ _ => ?_⟩⟩
  · have := E.hB
    have := V.2
    exact h2 k (by omega) (by omega)
  · rw [h2 k (Array.getElem?_eq_some_iff.1 h1).1 h3]; exact h1
/-- The library's tables, as they lay when the call began. -/
structure Tb (E : Env) (W0 : World) : Prop where
  pow : Pw.PowTab W0
  vars : Pw.FloatVars W0
  size : E.B = W0.heap.size
theorem Tb.cell {E : Env} {W0 : World} (h : Tb E W0) {V : Bs E.b} (hb : Below E.B W0 V.1) (s : SS) {a : Addr} {v : Value} (hc : W0.cell? a = some v) : (St V s).cell? a = some v := by
  have hlt : a.block < E.B := by
    rw [h.size]
    unfold World.cell? at hc
    rcases Nat.lt_or_ge a.block W0.heap.size with h | h
    · exact h
    · rw [Array.getElem?_eq_none h] at hc; cases hc
  rw [St.cell_other V s a (by have := E.hB; omega), hb.cell hlt]
  exact hc
theorem Tb.at {E : Env} {W0 : World} (h : Tb E W0) {V : Bs E.b} (hb : Below E.B W0 V.1) (s : SS) : Pw.PowTab (St V s) ∧ Pw.FloatVars (St V s) := by
  refine ⟨⟨?_, fun p h0 h1 => ⟨h.cell hb s (h.pow.2 p h0 h1).1, h.cell hb s (h.pow.2 p h0 h1).2⟩⟩, ?_⟩
  · have := h.pow.1
    have := hb.size
    simp only [St.size]
    omega
  · obtain ⟨h1, h2, tb, off, cap, h3, h4⟩ := h.vars
    exact ⟨h.cell hb s h1, h.cell hb s h2, tb, off, cap, h.cell hb s h3, fun i hi => h.cell hb s (h4 i hi)⟩
end Go.Proofs

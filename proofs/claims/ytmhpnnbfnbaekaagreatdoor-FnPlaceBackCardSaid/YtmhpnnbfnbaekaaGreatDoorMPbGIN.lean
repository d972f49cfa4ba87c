/- Part of the proof of FnPlaceBack: numbers: digits as text, and what reading a text of digits gives. No condition. -/
import Derived.Lib.ItoaNum
import Derived.Test.YtmhpnnbfnbaekaaGreatDoorMPbF
/- Digits: what lists of decimal digits say. -/
namespace Pb
open Go.Lib

/-- The list without the noughts at its end. -/
def trim (l : List UInt8) : List UInt8 := (l.reverse.dropWhile (· == 48)).reverse
def isDig (c : UInt8) : Prop := 48 ≤ c.toNat ∧ c.toNat ≤ 57
/-- What digits say. -/
def val (l : List UInt8) : Nat := l.foldl (fun a c => a * 10 + (c.toNat - 48)) 0

theorem takeWhile_rep (l : List UInt8) : l.takeWhile (· == 48) = List.replicate (l.takeWhile (· == 48)).length 48 := by
  induction l with
  | nil => rfl
  | cons c l ih =>
    by_cases h : (c == 48) = true
    · rw [List.takeWhile_cons_of_pos (p := (· == 48)) h, List.length_cons, List.replicate_succ, ← ih, beq_iff_eq.1 h]
    · rw [List.takeWhile_cons_of_neg (p := (· == 48)) h]; rfl

theorem trim_split (l : List UInt8) : ∃ k, l = trim l ++ List.replicate k 48 := by
  refine ⟨(l.reverse.takeWhile (· == 48)).length, ?_⟩
  have h := List.takeWhile_append_dropWhile (p := (· == 48)) (l := l.reverse)
  have h2 := congrArg List.reverse h
  rw [List.reverse_append, List.reverse_reverse] at h2
  rw [takeWhile_rep, List.reverse_replicate] at h2
  exact h2.symm

theorem trim_last (l : List UInt8) (h : trim l ≠ []) : ∀ c, (trim l)[(trim l).length - 1]? = some c → c ≠ 48 := by
  intro c hc e
  subst e
  unfold trim at *
  generalize hd : l.reverse.dropWhile (· == 48) = m at *
  cases m with
  | nil => exact h rfl
  | cons x m =>
    have hx : (x == 48) = false := by
      have := List.head?_dropWhile_not (p := (· == 48)) (l := l.reverse)
      rw [hd] at this
      simpa using this
    rw [List.reverse_cons] at hc
    simp at hc
    subst hc
    simp at hx

theorem val_append (l m : List UInt8) : val (l ++ m) = val l * 10 ^ m.length + val m := by
  unfold val
  rw [List.foldl_append]
  generalize l.foldl (fun a c => a * 10 + (c.toNat - 48)) 0 = a
  induction m generalizing a with
  | nil => simp
  | cons c m ih =>
    rw [List.foldl_cons, ih, List.foldl_cons, ih (0 * 10 + (c.toNat - 48)), List.length_cons, Nat.pow_succ, Nat.add_mul]
    have : a * 10 * 10 ^ m.length = a * (10 ^ m.length * 10) := by rw [Nat.mul_assoc, Nat.mul_comm 10]
    simp only [Nat.zero_mul, Nat.zero_add]
    omega

theorem val_zeros (k : Nat) : val (List.replicate k 48) = 0 := by
  induction k with
  | zero => rfl
  | succ k ih => rw [List.replicate_succ', val_append, ih]; rfl

theorem ofNat_toNat (n : Nat) (h : n < 256) : (UInt8.ofNat n).toNat = n := by
  simp [UInt8.toNat_ofNat']; omega

theorem dec_facts (u : Nat) : val (decDigits u) = u ∧ (∀ c ∈ decDigits u, isDig c) ∧ (0 < u → ∃ c l, decDigits u = c :: l ∧ c ≠ 48) := by
  induction u using Nat.strongRecOn with
  | ind u ih =>
    by_cases h : u < 10
    · rw [decDigits, dif_pos h]
      have e := ofNat_toNat (48 + u) (by omega)
      refine ⟨?_, ?_, ?_⟩
      · unfold val; simp only [List.foldl_cons, List.foldl_nil, e]; omega
      · intro c hc; simp only [List.mem_singleton] at hc; subst hc; unfold isDig; omega
      · intro h0
        refine ⟨_, _, rfl, ?_⟩
        intro e2
        have := congrArg UInt8.toNat e2
        rw [e] at this
        have h48 : (48 : UInt8).toNat = 48 := rfl
        omega
    · obtain ⟨i1, i2, i3⟩ := ih (u / 10) (by omega)
      rw [decDigits, dif_neg h]
      have e := ofNat_toNat (48 + u % 10) (by omega)
      refine ⟨?_, ?_, ?_⟩
      · rw [val_append, i1]
        unfold val; simp only [List.foldl_cons, List.foldl_nil, e, List.length_singleton]; omega
      · intro c hc
        rcases List.mem_append.1 hc with hc | hc
        · exact i2 c hc
        · simp only [List.mem_singleton] at hc; subst hc; unfold isDig; omega
      · intro _
        obtain ⟨c, l, e1, e2⟩ := i3 (by omega)
        exact ⟨c, l ++ [UInt8.ofNat (48 + u % 10)], by rw [e1]; rfl, e2⟩

/-- The digits that are written: not empty, neither end a nought. -/
theorem trim_facts (u : Nat) (h : 0 < u) :
    ∃ k, decDigits u = trim (decDigits u) ++ List.replicate k 48 ∧ val (trim (decDigits u)) * 10 ^ k = u ∧ 1 ≤ (trim (decDigits u)).length ∧
      (∀ c ∈ trim (decDigits u), isDig c) ∧ (∃ c l, trim (decDigits u) = c :: l ∧ c ≠ 48) ∧ nDigits u = (trim (decDigits u)).length + k := by
  obtain ⟨k, hk⟩ := trim_split (decDigits u)
  obtain ⟨f1, f2, f3⟩ := dec_facts u
  obtain ⟨c, l, e1, e2⟩ := f3 h
  have hv : val (trim (decDigits u)) * 10 ^ k = u := by
    have := val_append (trim (decDigits u)) (List.replicate k 48)
    rw [← hk, f1, val_zeros, List.length_replicate] at this
    omega
  have hne : trim (decDigits u) ≠ [] := by
    intro h0
    rw [h0] at hv
    have : val [] = 0 := rfl
    rw [this] at hv
    omega
  have hlen := decDigits_length u
  refine ⟨k, hk, hv, List.length_pos_iff.2 hne, ?_, ?_, ?_⟩
  · intro x hx
    refine f2 x ?_
    rw [hk]
    exact List.mem_append_left _ hx
  · cases ht : trim (decDigits u) with
    | nil => exact absurd ht hne
    | cons x m =>
      refine ⟨x, m, rfl, ?_⟩
      have : decDigits u = x :: (m ++ List.replicate k 48) := by
        have := hk
        rw [ht] at this
        exact this
      rw [e1] at this
      injection this with this
      rw [← this]; exact e2
  · rw [← hlen]
    have := congrArg List.length hk
    rw [List.length_append, List.length_replicate] at this
    exact this
end Pb
namespace Pb
/-- The reader of digits: what it holds. -/
structure RS where
  man : Nat
  nd : Nat
  nm : Nat
  dp : Int
  dot : Bool
  dig : Bool
  tr : Bool
def rs0 : RS := ⟨0, 0, 0, 0, false, false, false⟩
def rstep (s : RS) (c : Nat) : RS :=
  if c = 46 then { s with dot := true, dp := s.nd }
  else if c = 48 ∧ s.nd = 0 then { s with dig := true, dp := s.dp - 1 }
  else if s.nm < 19 then { s with dig := true, nd := s.nd + 1, man := s.man * 10 + (c - 48), nm := s.nm + 1 }
  else { s with dig := true, nd := s.nd + 1, tr := s.tr || c != 48 }
def rread (l : List UInt8) : RS := l.foldl (fun s c => rstep s c.toNat) rs0
theorem rread_snoc (l : List UInt8) (c : UInt8) : rread (l ++ [c]) = rstep (rread l) c.toNat := by
  unfold rread
  rw [List.foldl_append]
  rfl
def numCh (c : UInt8) : Prop := c.toNat = 46 ∨ isDig c
theorem snoc_ind {p : List UInt8 → Prop} (h0 : p []) (hs : ∀ l a, p l → p (l ++ [a])) (l : List UInt8) : p l := by
  rw [← List.reverse_reverse l]
  induction l.reverse with
  | nil => exact h0
  | cons a m ih => rw [List.reverse_cons]; exact hs _ _ ih
/-- The bounds on what is held. -/
theorem rread_bounds (l : List UInt8) (h : ∀ c ∈ l, numCh c) : (rread l).man < 10 ^ (rread l).nm ∧ (rread l).nm ≤ 19 ∧ (rread l).nm ≤ (rread l).nd ∧ (rread l).nd ≤ l.length ∧ -(l.length : Int) ≤ (rread l).dp ∧ (rread l).dp ≤ l.length := by
  revert h
  refine snoc_ind (p := fun l => (∀ c ∈ l, numCh c) → (rread l).man < 10 ^ (rread l).nm ∧ (rread l).nm ≤ 19 ∧ (rread l).nm ≤ (rread l).nd ∧ (rread l).nd ≤ l.length ∧ -(l.length : Int) ≤ (rread l).dp ∧ (rread l).dp ≤ l.length) ?_ ?_ l
  · intro _; simp [rread, rs0]
  · intro l c ih h
    obtain ⟨i1, i2, i3, i4, i5, i6⟩ := ih (fun c hc => h c (by simp [hc]))
    have hc := h c (by simp)
    unfold numCh isDig at hc
    rw [rread_snoc]
    generalize rread l = s at *
    unfold rstep
    rw [List.length_append, List.length_singleton]
    split
    · refine ⟨i1, i2, i3, by dsimp only; omega, by dsimp only; omega, by dsimp only; omega⟩
    · split
      · refine ⟨i1, i2, i3, by dsimp only; omega, by dsimp only; omega, by dsimp only; omega⟩
      · split
        · refine ⟨?_, by dsimp only; omega, by dsimp only; omega, by dsimp only; omega, by dsimp only; omega, by dsimp only; omega⟩
          dsimp only
          rw [Nat.pow_succ]
          omega
        · refine ⟨i1, i2, by dsimp only; omega, by dsimp only; omega, by dsimp only; omega, by dsimp only; omega⟩
end Pb
namespace Pb
def rfold (s : RS) (l : List UInt8) : RS := l.foldl (fun s c => rstep s c.toNat) s
theorem rfold_append (s : RS) (l m : List UInt8) : rfold s (l ++ m) = rfold (rfold s l) m := by
  unfold rfold; rw [List.foldl_append]
theorem rread_eq (l : List UInt8) : rread l = rfold rs0 l := rfl
/-- Digits that count: behind one that counted, or with one ahead that is no nought. -/
theorem rfold_digits (l : List UInt8) (s : RS) (h : ∀ c ∈ l, isDig c) (h1 : 0 < s.nd ∨ ∀ c ∈ l.head?, c ≠ 48) (h2 : s.nm + l.length ≤ 19) :
    rfold s l = { s with man := s.man * 10 ^ l.length + val l, nd := s.nd + l.length, nm := s.nm + l.length, dig := s.dig || !l.isEmpty } := by
  induction l generalizing s with
  | nil => simp [rfold, val]
  | cons c l ih =>
    have hc := h c (by simp)
    unfold isDig at hc
    have h48 : ¬ (c.toNat = 48 ∧ s.nd = 0) := by
      rintro ⟨a, b⟩
      rcases h1 with h1 | h1
      · omega
      · exact h1 c (by simp) (UInt8.toNat_inj.1 a)
    rw [List.length_cons] at h2
    have hstep : rstep s c.toNat = { s with man := s.man * 10 + (c.toNat - 48), nd := s.nd + 1, nm := s.nm + 1, dig := true } := by
      unfold rstep
      rw [if_neg (by omega), if_neg h48, if_pos (by omega)]
    show rfold (rstep s c.toNat) l = _
    rw [hstep, ih _ (fun c hc => h c (by simp [hc])) (.inl (by simp)) (by simp; omega)]
    have hv : val (c :: l) = (c.toNat - 48) * 10 ^ l.length + val l := by
      have := val_append [c] l
      rw [List.singleton_append] at this
      rw [this]
      simp [val]
    rw [hv, List.length_cons]
    simp only [RS.mk.injEq]
    refine ⟨?_, by omega, by omega, by first | rfl | trivial, by first | rfl | trivial, by simp, by first | rfl | trivial⟩
    rw [Nat.add_mul, Nat.mul_assoc, Nat.pow_succ, Nat.mul_comm 10]
    omega
/-- Noughts behind nineteen digits. -/
theorem rfold_rest (k : Nat) (s : RS) (h1 : 0 < s.nd) (h2 : s.nm = 19) (hd : s.dig = true) :
    rfold s (List.replicate k 48) = { s with nd := s.nd + k } := by
  induction k generalizing s with
  | zero => simp [rfold]
  | succ k ih =>
    rw [List.replicate_succ]
    have hstep : rstep s (48 : UInt8).toNat = { s with nd := s.nd + 1 } := by
      unfold rstep
      rw [if_neg (by decide), if_neg (by omega), if_neg (by omega), show ((48 : UInt8).toNat != 48) = false from rfl, Bool.or_false, ← hd]
    show rfold (rstep s (48 : UInt8).toNat) (List.replicate k 48) = _
    rw [hstep, ih { s with nd := s.nd + 1 } (Nat.succ_pos _) h2 hd]
    simp only [RS.mk.injEq]
    refine ⟨?_, ?_, ?_, ?_, ?_, ?_, ?_⟩ <;> first | rfl | trivial | omega
/-- Noughts ahead. -/
theorem rfold_lead (k : Nat) (s : RS) (h1 : s.nd = 0) (hd : s.dig = true) :
    rfold s (List.replicate k 48) = { s with dp := s.dp - k } := by
  induction k generalizing s with
  | zero => simp [rfold]
  | succ k ih =>
    rw [List.replicate_succ]
    have hstep : rstep s (48 : UInt8).toNat = { s with dp := s.dp - 1 } := by
      unfold rstep
      rw [if_neg (by decide), if_pos ⟨rfl, h1⟩, ← hd]
    show rfold (rstep s (48 : UInt8).toNat) (List.replicate k 48) = _
    rw [hstep, ih { s with dp := s.dp - 1 } h1 hd]
    simp only [RS.mk.injEq]
    refine ⟨?_, ?_, ?_, ?_, ?_, ?_, ?_⟩ <;> first | rfl | trivial | omega
end Pb

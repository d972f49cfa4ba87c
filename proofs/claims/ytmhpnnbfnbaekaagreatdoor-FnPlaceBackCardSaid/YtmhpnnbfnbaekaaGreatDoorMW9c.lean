/- Part of the proof of FnPlaceBack: plain law: the text of a number is read as its digits. No condition. -/
import Derived.Test.YtmhpnnbfnbaekaaGreatDoorMW6bc
import Derived.Test.YtmhpnnbfnbaekaaGreatDoorMPbGIN
namespace Pb
open Go.Proofs
theorem val_lt (l : List UInt8) (h : ∀ c ∈ l, isDig c) : val l < 10 ^ l.length := by
  revert h
  refine snoc_ind (p := fun l => (∀ c ∈ l, isDig c) → val l < 10 ^ l.length) ?_ ?_ l
  · intro _; decide
  · intro l c ih h
    have h1 := ih fun c hc => h c (by simp [hc])
    have h2 := h c (by simp)
    unfold isDig at h2
    rw [val_append, List.length_append, List.length_singleton, Nat.pow_succ]
    have h3 : val [c] = c.toNat - 48 := by simp [val]
    rw [h3]
    omega
/-- What the reader makes of a printed text. -/
def Reads (D : List UInt8) (dp : Int) (L : List UInt8) : Prop :=
  ∃ (k : Nat) (X : Int), (rread L).man = val D * 10 ^ k ∧ (if (rread L).dot then (rread L).dp else (rread L).nd) - (rread L).nm = X ∧ X + k = dp - D.length ∧ (rread L).tr = false ∧ (rread L).dig = true ∧
    ((rread L).man < 10 ^ 17 ∨ 100 ∣ (rread L).man ∨ X = 0) ∧ (rread L).man < 10 ^ 19 ∧ (-345 ≤ X ∧ X ≤ 310) ∧ (0 < X → 10 ^ 18 ≤ (rread L).man)
theorem rread_plain (D : List UInt8) (dp : Int) (hd : ∀ c ∈ D, isDig c) (c : UInt8) (l : List UInt8) (hcl : D = c :: l) (hc : c ≠ 48) (hl : D.length ≤ 17) (h1 : -345 ≤ dp - D.length) (h2 : dp ≤ 329) :
    Reads D dp (Pw.plain D dp) := by
  have hv := val_lt D hd
  have hhead : ∀ x ∈ D.head?, x ≠ 48 := by rw [hcl]; simp; exact hc
  have hlen : 1 ≤ D.length := by rw [hcl]; simp
  have h17 : val D < 10 ^ 17 := Nat.lt_of_lt_of_le hv (Nat.pow_le_pow_right (by decide) hl)
  have hvlo : 10 ^ (D.length - 1) ≤ val D := by
    have h3 := hd c (by rw [hcl]; simp)
    unfold isDig at h3
    have h4 : c.toNat ≠ 48 := fun e => hc (UInt8.toNat_inj.1 e)
    have h5 : val D = (c.toNat - 48) * 10 ^ l.length + val l := by
      have := val_append [c] l
      rw [List.singleton_append, ← hcl] at this
      rw [this]
      simp [val]
    rw [h5, hcl, List.length_cons, Nat.add_sub_cancel]
    have : 1 * 10 ^ l.length ≤ (c.toNat - 48) * 10 ^ l.length := Nat.mul_le_mul_right _ (by omega)
    omega
  have hrep : ∀ k, ∀ c ∈ List.replicate k (48 : UInt8), isDig c := by
    intro k c hc
    rw [(List.mem_replicate.1 hc).2]; exact ⟨by decide, by decide⟩
  have hempty : D.isEmpty = false := by rw [hcl]; rfl
  unfold Pw.plain
  by_cases c1 : (D.length : Int) ≤ dp
  · rw [if_pos c1]
    obtain ⟨z, hz⟩ : ∃ z : Nat, dp.toNat - D.length = z := ⟨_, rfl⟩
    rw [hz]
    by_cases c19 : D.length + z ≤ 19
    · have hr : rread (D ++ List.replicate z 48) = ⟨val D * 10 ^ z, D.length + z, D.length + z, 0, false, true, false⟩ := by
        rw [rread_eq, rfold_digits _ _ (by intro c hc; rcases List.mem_append.1 hc with h | h; exact hd c h; exact hrep z c h) (.inr (by rw [hcl]; simp; exact hc)) (by simp [rs0]; omega)]
        simp only [RS.mk.injEq, rs0, val_append, val_zeros, List.length_append, List.length_replicate, hcl]
        refine ⟨?_, ?_, ?_, ?_, ?_, ?_, ?_⟩ <;> first | rfl | trivial | simp
      unfold Reads
      rw [hr]
      refine ⟨z, 0, rfl, by simp, by omega, rfl, rfl, .inr (.inr rfl), ?_, by omega, by omega⟩
      have : val D * 10 ^ z < 10 ^ D.length * 10 ^ z := Nat.mul_lt_mul_of_pos_right hv (Nat.pow_pos (by decide))
      rw [← Nat.pow_add] at this
      exact Nat.lt_of_lt_of_le this (Nat.pow_le_pow_right (by decide) c19)
    · obtain ⟨r, hr⟩ : ∃ r, z = (19 - D.length) + r := ⟨z - (19 - D.length), by omega⟩
      have hsplit : D ++ List.replicate z 48 = (D ++ List.replicate (19 - D.length) 48) ++ List.replicate r 48 := by
        rw [hr, ← List.replicate_append_replicate, List.append_assoc]
      have hr : rread (D ++ List.replicate z 48) = ⟨val D * 10 ^ (19 - D.length), 19 + r, 19, 0, false, true, false⟩ := by
        rw [hsplit, rread_eq, rfold_append, rfold_digits (D ++ List.replicate (19 - D.length) 48) rs0 (by intro c hc; rcases List.mem_append.1 hc with h | h; exact hd c h; exact hrep _ c h) (.inr (by rw [hcl]; simp; exact hc)) (by simp [rs0]; omega)]
        have hln : (D ++ List.replicate (19 - D.length) (48 : UInt8)).length = 19 := by simp; omega
        rw [hln, rfold_rest]
        · simp only [RS.mk.injEq, rs0, val_append, val_zeros, List.length_replicate]
          refine ⟨?_, ?_, ?_, ?_, ?_, ?_, ?_⟩ <;> first | rfl | trivial | simp [hcl]
        · simp
        · rfl
        · simp [hcl]
      unfold Reads
      rw [hr]
      refine ⟨19 - D.length, (19 + r : Nat) - 19, rfl, by simp, by omega, rfl, rfl, .inr (.inl ?_), ?_, by omega, fun _ => ?_⟩
      · obtain ⟨y, hy⟩ : ∃ y, 19 - D.length = y + 2 := ⟨17 - D.length, by omega⟩
        rw [hy, Nat.pow_add]
        exact ⟨val D * 10 ^ y, by rw [show (10 : Nat) ^ 2 = 100 from rfl, ← Nat.mul_assoc, Nat.mul_comm]⟩
      · have : val D * 10 ^ (19 - D.length) < 10 ^ D.length * 10 ^ (19 - D.length) := Nat.mul_lt_mul_of_pos_right hv (Nat.pow_pos (by decide))
        rw [← Nat.pow_add, show D.length + (19 - D.length) = 19 from by omega] at this
        exact this
      · have : 10 ^ (D.length - 1) * 10 ^ (19 - D.length) ≤ val D * 10 ^ (19 - D.length) := Nat.mul_le_mul_right _ hvlo
        rw [← Nat.pow_add, show D.length - 1 + (19 - D.length) = 18 from by omega] at this
        exact this
  · rw [if_neg c1]
    have h46 : (46 : UInt8).toNat = 46 := rfl
    by_cases c2 : 0 < dp
    · rw [if_pos c2]
      obtain ⟨n, hn⟩ : ∃ n : Nat, dp = n := ⟨dp.toNat, by omega⟩
      subst hn
      rw [Int.toNat_natCast]
      have ht : (D.take n).length = n := by rw [List.length_take]; omega
      have hdr : (D.drop n).length = D.length - n := List.length_drop
      have hr : rread (D.take n ++ [46] ++ D.drop n) = ⟨val D, D.length, D.length, n, true, true, false⟩ := by
        rw [rread_eq, rfold_append, rfold_append, rfold_digits (D.take n) _ (fun c hc => hd c (List.mem_of_mem_take hc)) (.inr (by
          intro x hx
          refine hhead x ?_
          rw [hcl] at hx ⊢
          obtain ⟨n, rfl⟩ : ∃ m, n = m + 1 := ⟨n - 1, by omega⟩
          simpa using hx)) (by rw [ht]; simp [rs0]; omega)]
        rw [ht]
        show rfold (rstep _ 46) _ = _
        unfold rstep
        rw [if_pos rfl, rfold_digits (D.drop n) _ (fun c hc => hd c (List.mem_of_mem_drop hc)) (.inl (by simp [rs0]; omega)) (by rw [hdr]; simp [rs0]; omega)]
        rw [hdr]
        simp only [RS.mk.injEq, rs0]
        have hva : val D = val (D.take n) * 10 ^ (D.length - n) + val (D.drop n) := by
          have := val_append (D.take n) (D.drop n)
          rw [List.take_append_drop, hdr] at this
          exact this
        have hte : (D.take n).isEmpty = false := by
          rw [hcl]
          obtain ⟨n, rfl⟩ : ∃ m, n = m + 1 := ⟨n - 1, by omega⟩
          rfl
        refine ⟨by rw [hva]; simp, by omega, by omega, by simp, by first | rfl | trivial, by simp [hte], by first | rfl | trivial⟩
      unfold Reads
      rw [hr]
      refine ⟨0, n - D.length, by simp, by simp, by omega, rfl, rfl, .inl h17, Nat.lt_trans h17 (by decide), by omega, by omega⟩
    · rw [if_neg c2]
      obtain ⟨n, hn⟩ : ∃ n : Nat, (-dp).toNat = n := ⟨_, rfl⟩
      rw [hn]
      have hr : rread ([48, 46] ++ List.replicate n 48 ++ D) = ⟨val D, D.length, D.length, -n, true, true, false⟩ := by
        rw [rread_eq, rfold_append, rfold_append]
        have e0 : rfold rs0 [48, 46] = ⟨0, 0, 0, 0, true, true, false⟩ := by rfl
        rw [e0, rfold_lead n _ rfl rfl, rfold_digits D _ hd (.inr hhead) (by simp; omega)]
        simp only [RS.mk.injEq]
        refine ⟨?_, ?_, ?_, ?_, ?_, ?_, ?_⟩ <;> first | rfl | trivial | simp
      unfold Reads
      rw [hr]
      refine ⟨0, -n - D.length, by simp, by simp, by omega, rfl, rfl, .inl h17, Nat.lt_trans h17 (by decide), by omega, by omega⟩
theorem dot_digits (l : List UInt8) (h : ∀ c ∈ l, isDig c) : (rread l).dot = false := by
  revert h
  refine snoc_ind (p := fun l => (∀ c ∈ l, isDig c) → (rread l).dot = false) ?_ ?_ l
  · intro _; rfl
  · intro l c ih h
    have h1 := ih fun c hc => h c (by simp [hc])
    have h2 := h c (by simp)
    unfold isDig at h2
    rw [rread_snoc]
    unfold rstep
    rw [if_neg (by omega)]
    split
    · exact h1
    · split <;> exact h1
/-- A text that the reader takes. -/
def Shape (L : List UInt8) : Prop := (∀ c ∈ L, numCh c) ∧ (∃ c l, L = c :: l ∧ isDig c) ∧ ∀ j (h : j < L.length), L[j].toNat = 46 → (rread (L.take j)).dot = false
theorem shape_digits (L : List UInt8) (h : ∀ c ∈ L, isDig c) (h1 : L ≠ []) : Shape L := by
  refine ⟨fun c hc => .inr (h c hc), ?_, ?_⟩
  · cases L with
    | nil => exact absurd rfl h1
    | cons c l => exact ⟨c, l, rfl, h c (by simp)⟩
  · intro j hj e
    have := h _ (List.getElem_mem hj)
    unfold isDig at this
    omega
theorem shape_dot (A B : List UInt8) (hA : ∀ c ∈ A, isDig c) (hB : ∀ c ∈ B, isDig c) (h1 : A ≠ []) : Shape (A ++ [46] ++ B) := by
  refine ⟨?_, ?_, ?_⟩
  · intro c hc
    rcases List.mem_append.1 hc with h | h
    · rcases List.mem_append.1 h with h | h
      · exact .inr (hA c h)
      · rw [List.mem_singleton.1 h]; exact .inl rfl
    · exact .inr (hB c h)
  · cases A with
    | nil => exact absurd rfl h1
    | cons c l => exact ⟨c, l ++ [46] ++ B, rfl, hA c (by simp)⟩
  · intro j hj e
    rcases Nat.lt_trichotomy j A.length with h | h | h
    · exfalso
      rw [List.getElem_append_left (by simp; omega), List.getElem_append_left h] at e
      have := hA _ (List.getElem_mem h)
      unfold isDig at this
      omega
    · rw [List.append_assoc, h, List.take_left]
      exact dot_digits A hA
    · exfalso
      have hj2 : j - (A ++ [46]).length < B.length := by simp at hj ⊢; omega
      rw [List.getElem_append_right (by simp; omega)] at e
      have := hB _ (List.getElem_mem hj2)
      unfold isDig at this
      omega
theorem shape_plain (D : List UInt8) (dp : Int) (hd : ∀ c ∈ D, isDig c) (hne : D ≠ []) : Shape (Pw.plain D dp) := by
  have hrep : ∀ k, ∀ c ∈ List.replicate k (48 : UInt8), isDig c := by
    intro k c hc
    rw [(List.mem_replicate.1 hc).2]; exact ⟨by decide, by decide⟩
  have hlen : 0 < D.length := List.length_pos_iff.2 hne
  unfold Pw.plain
  split
  · refine shape_digits _ ?_ (by simp [hne])
    intro c hc
    rcases List.mem_append.1 hc with h | h
    · exact hd c h
    · exact hrep _ c h
  · split
    · refine shape_dot _ _ (fun c hc => hd c (List.mem_of_mem_take hc)) (fun c hc => hd c (List.mem_of_mem_drop hc)) ?_
      intro e
      have := congrArg List.length e
      rw [List.length_take, List.length_nil] at this
      omega
    · rw [show [48, 46] ++ List.replicate (-dp).toNat (48 : UInt8) ++ D = [48] ++ [46] ++ (List.replicate (-dp).toNat 48 ++ D) from by simp]
      refine shape_dot _ _ ?_ ?_ (by simp)
      · intro c hc; rw [List.mem_singleton.1 hc]; exact ⟨by decide, by decide⟩
      · intro c hc
        rcases List.mem_append.1 hc with h | h
        · exact hrep _ c h
        · exact hd c h
end Pb

/- Part of the proof of FnPlaceBack: plain law: the text of a place. No condition. -/
import Derived.Test.YtmhpnnbfnbaekaaGreatDoorMS27
import Derived.Test.YtmhpnnbfnbaekaaGreatDoorMW7de
import Derived.Test.YtmhpnnbfnbaekaaGreatDoorMW13cd
namespace Go.Proofs
open Go Go.RowKit
/-- The signs l stand at p. -/
def Pw.At (E : Env) (p : Nat) (l : List UInt8) : Prop := ∀ j (h : j < l.length), E.at (p + j) = ((l[j]'h).toNat : Int)
theorem Pw.at_list (E : Env) (T : List UInt8) (hT : E.S = ⟨T.toArray⟩) (i : Nat) : E.at i = if h : i < T.length then ((T[i]'h).toNat : Int) else -1 := by
  unfold Env.at
  have hs : E.S.size = T.length := by rw [hT]; simp [ByteArray.size]
  by_cases h : i < T.length
  · rw [dif_pos h, dif_pos (by omega)]
    have e : E.S[i]'(by omega) = T[i] := by
      simp only [hT]
      rfl
    rw [e]
  · rw [dif_neg h, dif_neg (by omega)]
theorem Pw.At.of_drop {E : Env} {T : List UInt8} (hT : E.S = ⟨T.toArray⟩) {p : Nat} {l r : List UInt8} (h : T.drop p = l ++ r) : Pw.At E p l := by
  intro j hj
  have h1 : (T.drop p)[j]? = some l[j] := by rw [h, List.getElem?_append_left hj, List.getElem?_eq_getElem hj]
  rw [List.getElem?_drop] at h1
  have h2 := (List.getElem?_eq_some_iff.1 h1)
  rw [Pw.at_list E T hT, dif_pos h2.1, h2.2]
theorem Pw.at_after {E : Env} {T : List UInt8} (hT : E.S = ⟨T.toArray⟩) {p : Nat} {l r : List UInt8} (h : T.drop p = l ++ r) (hr : r = [] ∨ ∃ r', r = 32 :: r') : E.at (p + l.length) = 32 ∨ E.at (p + l.length) = -1 := by
  have h1 : (T.drop p)[l.length]? = r[0]? := by rw [h, List.getElem?_append_right (Nat.le_refl _), Nat.sub_self]
  rw [List.getElem?_drop] at h1
  rw [Pw.at_list E T hT]
  rcases hr with rfl | ⟨r', rfl⟩
  · right
    have : ¬ (p + l.length < T.length) := by
      intro h2
      rw [List.getElem?_eq_getElem h2] at h1
      cases h1
    rw [dif_neg this]
  · left
    have h2 := List.getElem?_eq_some_iff.1 h1
    rw [dif_pos h2.1, h2.2]
    rfl
theorem Pw.At.text {E : Env} {p : Nat} {l : List UInt8} (h : Pw.At E p l) : E.text p l.length = ⟨l.toArray⟩ := by
  unfold Env.text
  congr 2
  unfold Env.seg
  refine List.ext_getElem (by simp) fun j h1 h2 => ?_
  rw [List.getElem_map, List.getElem_range, h j h2]
  simp
theorem Pw.At.left {E : Env} {p : Nat} {l r : List UInt8} (h : Pw.At E p (l ++ r)) : Pw.At E p l := fun j hj => by
  have := h j (by rw [List.length_append]; omega)
  rw [this, List.getElem_append_left hj]
theorem Pw.At.right {E : Env} {p : Nat} {l r : List UInt8} (h : Pw.At E p (l ++ r)) : Pw.At E (p + l.length) r := fun j hj => by
  have := h (l.length + j) (by rw [List.length_append]; omega)
  rw [Nat.add_assoc, this, List.getElem_append_right (by omega)]
  simp
theorem Pw.At.digits {E : Env} {p : Nat} {l : List UInt8} (h : Pw.At E p l) (hd : ∀ c ∈ l, Pb.isDig c) (j : Nat) (hj : j < l.length) : 48 ≤ E.at (p + j) ∧ E.at (p + j) ≤ 57 := by
  rw [h j hj]
  have := hd _ (List.getElem_mem hj)
  unfold Pb.isDig at this
  omega
theorem Pw.rep_dig (k : Nat) : ∀ c ∈ List.replicate k (48 : UInt8), Pb.isDig c := by
  intro c hc
  rw [(List.mem_replicate.1 hc).2]; exact ⟨by decide, by decide⟩
/-- The scanner takes the shortest digits' plain text. -/
theorem Pw.numPlain (E : Env) (p : Nat) (D : List UInt8) (dp : Int) (hd : ∀ c ∈ D, Pb.isDig c) (c0 : UInt8) (l0 : List UInt8) (hD : D = c0 :: l0) (h0 : c0 ≠ 48) (h : Pw.At E p (Pw.plain D dp)) (he : E.at (p + (Pw.plain D dp).length) = 32 ∨ E.at (p + (Pw.plain D dp).length) = -1) : Pw.NumAt E p (Pw.plain D dp).length := by
  have hl : 1 ≤ D.length := by rw [hD]; simp
  have hc0 : c0.toNat ≠ 48 := fun e => h0 (UInt8.toNat_inj.1 (by rw [e]; rfl))
  unfold Pw.plain at h he ⊢
  by_cases c1 : (D.length : Int) ≤ dp
  · rw [if_pos c1] at h he ⊢
    refine Pw.numA E p _ (fun j hj => h.digits (fun c hc => ?_) j hj) (by rw [List.length_append]; omega) ?_ he
    · rcases List.mem_append.1 hc with hc | hc
      · exact hd c hc
      · exact Pw.rep_dig _ c hc
    · have := h 0 (by rw [List.length_append]; omega)
      rw [Nat.add_zero] at this
      rw [this]
      simp only [hD, List.cons_append, List.getElem_cons_zero]
      omega
  · rw [if_neg c1] at h he ⊢
    by_cases c2 : 0 < dp
    · rw [if_pos c2] at h he ⊢
      have ht : (D.take dp.toNat).length = dp.toNat := by rw [List.length_take]; omega
      have hdr : (D.drop dp.toNat).length = D.length - dp.toNat := List.length_drop
      have hL : (D.take dp.toNat ++ [46] ++ D.drop dp.toNat).length = dp.toNat + 1 + (D.length - dp.toNat) := by rw [List.length_append, List.length_append, ht, hdr]; rfl
      rw [hL] at he ⊢
      have ha : Pw.At E p (D.take dp.toNat) := h.left.left
      have hb : Pw.At E (p + dp.toNat) [46] := by have := h.left.right; rwa [ht] at this
      have hc : Pw.At E (p + dp.toNat + 1) (D.drop dp.toNat) := by
        have := h.right
        rw [List.length_append, ht] at this
        exact this
      refine Pw.numB E p dp.toNat (D.length - dp.toNat) (fun j hj => ha.digits (fun c hc => hd c (List.mem_of_mem_take hc)) j (by omega)) (by omega) ?_ (hb 0 (by simp)) (fun j hj => hc.digits (fun c hc => hd c (List.mem_of_mem_drop hc)) j (by omega)) (by omega) ?_
      · have := ha 0 (by omega)
        rw [Nat.add_zero] at this
        rw [this]
        simp only [List.getElem_take, hD, List.getElem_cons_zero]
        omega
      · rw [show p + dp.toNat + 1 + (D.length - dp.toNat) = p + (dp.toNat + 1 + (D.length - dp.toNat)) from by omega]
        exact he
    · rw [if_neg c2] at h he ⊢
      have hL : ([48, 46] ++ List.replicate (-dp).toNat 48 ++ D).length = 1 + 1 + ((-dp).toNat + D.length) := by
        rw [List.length_append, List.length_append, List.length_replicate]; simp; omega
      rw [hL] at he ⊢
      rw [List.append_assoc] at h
      have ha : Pw.At E p [48, 46] := h.left
      have hc : Pw.At E (p + 1 + 1) (List.replicate (-dp).toNat 48 ++ D) := h.right
      refine Pw.numD E p ((-dp).toNat + D.length) (ha 0 (by simp)) (ha 1 (by simp)) (fun j hj => hc.digits (fun c hc => ?_) j (by rw [List.length_append, List.length_replicate]; omega)) (by omega) ?_
      · rcases List.mem_append.1 hc with hc | hc
        · exact Pw.rep_dig _ c hc
        · exact hd c hc
      · rw [show p + 1 + 1 + ((-dp).toNat + D.length) = p + (1 + 1 + ((-dp).toNat + D.length)) from by omega]
        exact he
theorem Pw.numBare (E : Env) (p b : Nat) (hfin : b / 2 ^ 52 % 2048 ≠ 2047) (h : Pw.At E p (Pw.bareText b)) (he : E.at (p + (Pw.bareText b).length) = 32 ∨ E.at (p + (Pw.bareText b).length) = -1) : Pw.NumAt E p (Pw.bareText b).length := by
  unfold Pw.bareText at h he ⊢
  by_cases hm : Pb.mOf b = 0
  · rw [if_pos hm] at h he ⊢
    exact Pw.numC E p (h 0 (by simp)) he
  · rw [if_neg hm] at h he ⊢
    have hF := Pb.fits_of b hfin hm
    obtain ⟨d, e, hsh, hd0, hd17, hW⟩ := Pb.shortU_ok hF
    rw [hsh] at h he ⊢
    obtain ⟨k, hk, hval, hl1, hdig, ⟨c, l, hcl, hc⟩, hn⟩ := Pb.trim_facts d hd0
    exact Pw.numPlain E p _ _ hdig c l hcl hc h he
end Go.Proofs
namespace Go.Proofs
open Go Go.RowKit
theorem Pw.drop_more {T l r : List UInt8} {p : Nat} (h : T.drop p = l ++ r) : T.drop (p + l.length) = r := by
  rw [← List.drop_drop, h, List.drop_left]
theorem Pw.lit1 (E : Env) (W0 : World) (T : List UInt8) (hT : E.S = ⟨T.toArray⟩) (hTb : Tb E W0) (c k b : Nat) (r : List UInt8) (hf : Pw.fin b) (h : T.drop c = List.replicate k 32 ++ (Pw.numText b ++ r)) (hr : r = [] ∨ ∃ r', r = 32 :: r') : Pw.Lit1 E W0 c b (c + k + (Pw.numText b).length) := by
  intro V s hbl hG hp
  have hsp : ∀ j, j < k → E.at (c + j) = 32 := fun j hj => by
    have := Pw.At.of_drop hT h j (by rw [List.length_replicate]; exact hj)
    rw [this, List.getElem_replicate]; rfl
  have h1 : T.drop (c + k) = Pw.numText b ++ r := by
    have := Pw.drop_more h
    rwa [List.length_replicate] at this
  have e63 : (2 : Nat) ^ 63 = 9223372036854775808 := by decide
  rw [Pw.numText_eq] at h1 ⊢
  unfold Pw.signed at h1 ⊢
  by_cases hn : Pb.neg b = true
  · rw [if_pos hn] at h1 ⊢
    rw [List.append_assoc] at h1
    have hm : E.at (c + k) = 45 := Pw.At.of_drop hT h1 0 (by simp)
    have h2 : T.drop (c + k + 1) = Pw.bareText b ++ r := Pw.drop_more h1
    have hA := Pw.At.of_drop hT h2
    have hL : ([45] ++ Pw.bareText b).length = 1 + (Pw.bareText b).length := by rw [List.length_append]; rfl
    rw [hL, ← Nat.add_assoc]
    have hb0 : 9223372036854775808 ≤ b := by
      have := of_decide_eq_true hn
      omega
    exact Pw.litNeg E W0 V s c k (Pw.bareText b).length b hTb hbl hG hp hsp hm (Pw.numBare E _ b hf.2 hA (Pw.at_after hT h2 hr)) hA.text hb0 hf.1 hf.2
  · rw [if_neg hn] at h1 ⊢
    have hA := Pw.At.of_drop hT h1
    have hb0 : b < 9223372036854775808 := by
      have := of_decide_eq_false (Bool.eq_false_iff.2 hn)
      omega
    exact Pw.litPos E W0 V s c k (Pw.bareText b).length b hTb hbl hG hp hsp (Pw.numBare E _ b hf.2 hA (Pw.at_after hT h1 hr)) hA.text hb0 hf.2
/-- Numbers, parted by blanks. -/
def Pw.joined : List Nat → List UInt8
  | [] => []
  | [b] => Pw.numText b
  | b :: c :: bs => Pw.numText b ++ (32 :: Pw.joined (c :: bs))
theorem Pw.lits (E : Env) (W0 : World) (T : List UInt8) (hT : E.S = ⟨T.toArray⟩) (hTb : Tb E W0) : ∀ (bs : List Nat) (c k : Nat), (∀ b ∈ bs, Pw.fin b) → T.drop c = List.replicate k 32 ++ Pw.joined bs → Pw.Lits E W0 c bs
  | [], _, _, _, _ => trivial
  | [b], c, k, hf, h => ⟨_, Pw.lit1 E W0 T hT hTb c k b [] (hf b (by simp)) (by rw [List.append_nil]; exact h) (.inl rfl), trivial⟩
  | b :: d :: bs, c, k, hf, h => by
    have h' : T.drop c = List.replicate k 32 ++ (Pw.numText b ++ (32 :: Pw.joined (d :: bs))) := h
    refine ⟨_, Pw.lit1 E W0 T hT hTb c k b _ (hf b (by simp)) h' (.inr ⟨_, rfl⟩), ?_⟩
    refine Pw.lits E W0 T hT hTb (d :: bs) _ 1 (fun x hx => hf x (List.mem_cons_of_mem _ hx)) ?_
    have h1 := Pw.drop_more h'
    rw [List.length_replicate] at h1
    exact Pw.drop_more h1
theorem Pw.placeText_eq (x y z m t : Nat) : Pw.placeText x y z m t = Pw.joined (Pw.numsOf x y z m t) := by
  unfold Pw.placeText Pw.numsOf
  by_cases h1 : t % 2 = 1 <;> by_cases h2 : t / 2 = 1 <;> simp [h1, h2, Pw.joined]
theorem Pw.numsOf_length (x y z m t : Nat) (ht : t ≤ 3) : (Pw.numsOf x y z m t).length = 2 + t % 2 + t / 2 := by
  have h3 : t = 0 ∨ t = 1 ∨ t = 2 ∨ t = 3 := by omega
  rcases h3 with rfl | rfl | rfl | rfl <;> rfl
/-- The signs of a number's text. -/
theorem Pw.plain_signs (D : List UInt8) (dp : Int) (hd : ∀ c ∈ D, Pb.isDig c) : ∀ c ∈ Pw.plain D dp, 32 ≤ c.toNat ∧ c.toNat < 64 := by
  have hdig : ∀ c : UInt8, Pb.isDig c → 32 ≤ c.toNat ∧ c.toNat < 64 := fun c h => by unfold Pb.isDig at h; omega
  intro c hc
  unfold Pw.plain at hc
  split at hc
  · rcases List.mem_append.1 hc with hc | hc
    · exact hdig c (hd c hc)
    · exact hdig c (Pw.rep_dig _ c hc)
  · split at hc
    · rcases List.mem_append.1 hc with hc | hc
      · rcases List.mem_append.1 hc with hc | hc
        · exact hdig c (hd c (List.mem_of_mem_take hc))
        · rw [List.mem_singleton.1 hc]; exact ⟨by decide, by decide⟩
      · exact hdig c (hd c (List.mem_of_mem_drop hc))
    · rcases List.mem_append.1 hc with hc | hc
      · rcases List.mem_append.1 hc with hc | hc
        · simp at hc
          rcases hc with rfl | rfl <;> exact ⟨by decide, by decide⟩
        · exact hdig c (Pw.rep_dig _ c hc)
      · exact hdig c (hd c hc)
theorem Pw.numText_signs (b : Nat) (hfin : b / 2 ^ 52 % 2048 ≠ 2047) : ∀ c ∈ Pw.numText b, 32 ≤ c.toNat ∧ c.toNat < 64 := by
  have hbare : ∀ c ∈ Pw.bareText b, 32 ≤ c.toNat ∧ c.toNat < 64 := by
    unfold Pw.bareText
    by_cases hm : Pb.mOf b = 0
    · rw [if_pos hm]
      intro c hc
      rw [List.mem_singleton.1 hc]; exact ⟨by decide, by decide⟩
    · rw [if_neg hm]
      have hF := Pb.fits_of b hfin hm
      obtain ⟨d, e, hsh, hd0, hd17, hW⟩ := Pb.shortU_ok hF
      rw [hsh]
      obtain ⟨k, hk, hval, hl1, hdig, -, hn⟩ := Pb.trim_facts d hd0
      exact Pw.plain_signs _ _ hdig
  rw [Pw.numText_eq]
  unfold Pw.signed
  intro c hc
  split at hc
  · rcases List.mem_append.1 hc with hc | hc
    · rw [List.mem_singleton.1 hc]; exact ⟨by decide, by decide⟩
    · exact hbare c hc
  · exact hbare c hc
theorem Pw.joined_signs : ∀ bs : List Nat, (∀ b ∈ bs, Pw.fin b) → ∀ c ∈ Pw.joined bs, 32 ≤ c.toNat ∧ c.toNat < 64
  | [], _, c, hc => by cases hc
  | [b], hf, c, hc => Pw.numText_signs b (hf b (by simp)).2 c hc
  | b :: d :: bs, hf, c, hc => by
    rcases List.mem_append.1 (show c ∈ Pw.numText b ++ (32 :: Pw.joined (d :: bs)) from hc) with hc | hc
    · exact Pw.numText_signs b (hf b (by simp)).2 c hc
    · rcases List.mem_cons.1 hc with rfl | hc
      · exact ⟨by decide, by decide⟩
      · exact Pw.joined_signs (d :: bs) (fun x hx => hf x (List.mem_cons_of_mem _ hx)) c hc
theorem Pw.joined_length : ∀ bs : List Nat, (∀ b ∈ bs, Pw.fin b) → (Pw.joined bs).length ≤ 801 * bs.length
  | [], _ => by simp [Pw.joined]
  | [b], hf => by have := Pw.txtLen b (hf b (by simp)).2; simp [Pw.joined]; omega
  | b :: d :: bs, hf => by
    have h1 := Pw.txtLen b (hf b (by simp)).2
    have h2 := Pw.joined_length (d :: bs) (fun x hx => hf x (List.mem_cons_of_mem _ hx))
    show (Pw.numText b ++ (32 :: Pw.joined (d :: bs))).length ≤ _
    rw [List.length_append, List.length_cons]
    simp only [List.length_cons] at h2 ⊢
    omega
end Go.Proofs

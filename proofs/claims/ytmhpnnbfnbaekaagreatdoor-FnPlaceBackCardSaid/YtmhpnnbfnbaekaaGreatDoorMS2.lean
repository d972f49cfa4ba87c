/- Part of the proof of FnPlaceBack: walk: bytes.Buffer's Write. No condition. -/
import Derived.Test.YtmhpnnbfnbaekaaGreatDoorMS1
import Derived.Test.YtmhpnnbfnbaekaaGreatDoorMSB
import Derived.Lib.BufferAt
import Derived.Lib.BufferWrite
import Derived.Laws.IdiomCopy
namespace Go.Proofs
open Go Go.RowKit
theorem Pw.info5 : (Tryz.prog.info? 5).map (·.size) = some 1 := by kernel_rfl
theorem Pw.addAt (b i j : Nat) : (⟨b, i, none⟩ : Addr).add j = ⟨b, i + j, none⟩ := by unfold Addr.add; split <;> simp_all
set_option maxHeartbeats 6400000 in
set_option maxRecDepth 100000 in
/-- (*bytes.Buffer).Write, its source lying ahead of the buffer in the buffer's own block. -/
theorem Pw.bufWrite (T : TypeId) (R : Nat → Option Value) (B b q : Nat) (bs cs : List Value) (i0 n c : Nat) (w : World) (h : LibA.IsBuffer T R 5 B b q bs w) (hBw : B ≤ w.heap.size) (h1 : ∀ v ∈ bs, v.oneCell' = true)
    (hn : cs.length = n) (hq : i0 + n ≤ q) (hsrc : ∀ j v, cs[j]? = some v → R (i0 + j) = some v) (h1c : ∀ v ∈ cs, v.oneCell' = true) (hlim : bs.length + n ≤ 140737488355328) :
    Calls Tryz.prog 51 #[.pointer (some ⟨b, q, none⟩), .slice (some ⟨b, i0, none⟩) n c] w fun e w' => e = .returned (.tuple #[.int .i64 n, .nilIface]) ∧ LibA.IsBuffer T R 5 B b q (bs ++ cs) w' ∧ Below B w w' ∧ Lib.OthersKept 5 (some b) w w' := by
  obtain ⟨hB, v0, lr, hbk, -, -⟩ := id h
  have c2 : w.cell? ⟨b, q + 2, none⟩ = some (.int .i8 lr) := hbk.c2
  have f2 : w.frozen? ⟨b, q + 2, none⟩ = false := hbk.f (q + 2)
  have h' := h.setLast 0
  have hbel0 : Below B w (w.setCell ⟨b, q + 2, none⟩ (.int .i8 0)) := (Below.refl B w).setCell (p := ⟨b, q + 2, none⟩) hB _
  have hk0 : Lib.OthersKept 5 (some b) w (w.setCell ⟨b, q + 2, none⟩ (.int .i8 0)) := (Lib.OthersKept.refl _ _ w).setCell ⟨b, q + 2, none⟩ rfl _
  have hBw' : B ≤ (w.setCell ⟨b, q + 2, none⟩ (.int .i8 0)).heap.size := by simpa [World.setCell] using hBw
  clear hbk v0
  have hinfo := Pw.info5
  by_cases hs0 : n = 0
  · subst hs0
    have hc0 : cs = [] := List.eq_nil_of_length_eq_zero hn
    subst hc0
    have hce : ∀ d dLen dCap W, (Builtin.copy_ #[44, 44] 3 #[.slice d dLen dCap, .slice (some ⟨b, i0, none⟩) 0 c]).run Tryz.prog W = .ok (goInt 0) W := fun d dLen dCap W => run_copy_none W 44 44 3 5 d (some ⟨b, i0, none⟩) dLen dCap 0 c Tryz.underlying44 hinfo (by simp)
    have hT : ∀ W, LibA.IsBuffer T R 5 B b q bs W → Calls Tryz.prog 69 #[.pointer (some ⟨b, q, none⟩), .int .i64 0] W _ := fun W hW => Tryz.Buffer_tryGrow_at T R B b q 0 bs W hW
    go_enter Tryz.func51, Tryz.ntmps51
    go_wp2_with (go_at_call 69; refine (hT _ ?_).mono ?_)
    · exact h'
    rintro e W1 (⟨rfl, xs, hxl, hI, hbel, hk, hg⟩ | ⟨rfl, rfl, hnr⟩)
    · clear h' c2 f2 hT
      have hx0 : xs = [] := List.eq_nil_of_length_eq_zero hxl
      subst hx0
      rw [List.append_nil] at hI
      obtain ⟨-, lr2, hc⟩ := hI.cases
      rcases hc with ⟨hb0, hbk2⟩ | ⟨g, cap, cur, hbk2, -, -, hnc, hcm, -, -, -⟩
      · subst hb0
        have d0 : W1.cell? ⟨b, q, none⟩ = some (.slice none 0 0) := hbk2.c0
        go_wp2
        all_goals (go_ret2; first | exact ⟨rfl, hI, hbel0.trans hbel, hk0.trans hk⟩ | exact ⟨by simp, by simpa using hI, hbel0.trans hbel, hk0.trans hk⟩)
      · have d0 : W1.cell? ⟨b, q, none⟩ = some (.slice (some ⟨g, 0, none⟩) bs.length cap) := hbk2.c0
        unfold maxLen at hcm
        go_wp2
        all_goals (go_ret2; first | exact ⟨rfl, hI, hbel0.trans hbel, hk0.trans hk⟩ | exact ⟨by simp, by simpa using hI, hbel0.trans hbel, hk0.trans hk⟩)
    · obtain ⟨_, _, _, _, hlt⟩ := hnr
      omega
  · have hsrcW : ∀ W xs, LibA.IsBuffer T R 5 B b q xs W → ∀ j v, cs[j]? = some v → W.cell? ((⟨b, i0, none⟩ : Addr).add j) = some v := fun W xs hW j v hj => by
      have hlt : j < cs.length := (List.getElem?_eq_some_iff.1 hj).1
      rw [Pw.addAt, hW.rest (i0 + j) (Or.inl (by omega))]
      exact hsrc j v hj
    go_enter Tryz.func51, Tryz.ntmps51
    go_wp2_with (go_at_call 69; refine (Tryz.Buffer_tryGrow_at T R B b q n bs _ ?_).mono ?_)
    · exact h'
    rintro e W1 (⟨rfl, xs, hxl, hI, hbel, hk, hg⟩ | ⟨rfl, rfl, hnr⟩)
    · have hbelW := hbel0.trans hbel
      have hkW := hk0.trans hk
      clear h' hbel hbel0 hBw' c2 f2 hg
      have hsrc1 := hsrcW _ _ hI
      obtain ⟨-, lr2, hc⟩ := hI.cases
      rcases hc with ⟨hnil, -⟩ | ⟨g, cap, cur, hbk2, hBg, hg, hnc, hcm, hcs, htk, hgb⟩
      · exact absurd (congrArg List.length hnil) (by rw [List.length_append, hxl, List.length_nil]; omega)
      · rw [List.length_append, hxl] at hbk2 hnc htk
        have d0 : W1.cell? ⟨b, q, none⟩ = some (.slice (some ⟨g, 0, none⟩) (bs.length + n) cap) := hbk2.c0
        have hne : ¬ cap = bs.length := by omega
        have hcp := run_copy_row (P := Tryz.prog) W1 44 44 3 5 g bs.length n (cap - bs.length) ⟨b, i0, none⟩ n c cur 5 cs Tryz.underlying44 hinfo hg (by rw [hn]; exact (Nat.min_self n).symm) hsrc1 (by rw [hn]; omega) h1c
        rw [hn] at hcp
        have hcm' := hcm
        unfold maxLen at hcm'
        clear hsrc1 hsrcW
        go_wp2
        go_ret2
        obtain ⟨r1, r2⟩ := LibA.written_end (news := cs) (l := bs.length) hB (by rw [hn]; exact hbk2) hBg hg hcm hcs hgb (by rw [hn]; exact hnc)
        have e1 : cur.toList.take bs.length = bs := by
          have h3 := congrArg (List.take bs.length) htk
          rwa [List.take_take, Nat.min_eq_left (Nat.le_add_right _ _), List.take_left' rfl] at h3
        rw [e1, hn] at r1 r2
        refine ⟨rfl, ?_, ?_, hkW.setRow hg _⟩ <;> rw [e1, ← List.append_assoc]
        · exact r1
        · exact hbelW.trans r2
    · go_wp2_with (go_at_call 70; refine (Tryz.Buffer_grow_at T R B b q n bs _ ?_ ?_ ?_ h1 hlim).mono ?_)
      · exact h'
      · exact hnr
      · exact hBw'
      rintro e W1 ⟨rfl, xs, hxl, hI, hbel, hk, hg⟩
      have hbelW := hbel0.trans hbel
      have hkW := hk0.trans hk
      clear h' hbel hbel0 hBw' c2 f2 hnr hg
      have hsrc1 := hsrcW _ _ hI
      obtain ⟨-, lr2, hc⟩ := hI.cases
      rcases hc with ⟨hnil, -⟩ | ⟨g, cap, cur, hbk2, hBg, hg, hnc, hcm, hcs, htk, hgb⟩
      · exact absurd (congrArg List.length hnil) (by rw [List.length_append, hxl, List.length_nil]; omega)
      · rw [List.length_append, hxl] at hbk2 hnc htk
        have d0 : W1.cell? ⟨b, q, none⟩ = some (.slice (some ⟨g, 0, none⟩) (bs.length + n) cap) := hbk2.c0
        have hne : ¬ cap = bs.length := by omega
        have hcp := run_copy_row (P := Tryz.prog) W1 44 44 3 5 g bs.length n (cap - bs.length) ⟨b, i0, none⟩ n c cur 5 cs Tryz.underlying44 hinfo hg (by rw [hn]; exact (Nat.min_self n).symm) hsrc1 (by rw [hn]; omega) h1c
        rw [hn] at hcp
        have hcm' := hcm
        unfold maxLen at hcm'
        clear hsrc1 hsrcW
        go_wp2
        go_ret2
        obtain ⟨r1, r2⟩ := LibA.written_end (news := cs) (l := bs.length) hB (by rw [hn]; exact hbk2) hBg hg hcm hcs hgb (by rw [hn]; exact hnc)
        have e1 : cur.toList.take bs.length = bs := by
          have h3 := congrArg (List.take bs.length) htk
          rwa [List.take_take, Nat.min_eq_left (Nat.le_add_right _ _), List.take_left' rfl] at h3
        rw [e1, hn] at r1 r2
        refine ⟨rfl, ?_, ?_, hkW.setRow hg _⟩ <;> rw [e1, ← List.append_assoc]
        · exact r1
        · exact hbelW.trans r2
end Go.Proofs

/- Part of the proof of FnPlaceBack: walk: the scanner's numbers. No condition. -/
import Derived.Test.YtmhpnnbfnbaekaaGreatDoorMS13
namespace Go.Proofs
open Go Go.RowKit
set_option maxRecDepth 100000 in
set_option maxHeartbeats 2000000 in
/-- A number with a point that begins with no nought. -/
theorem Pw.scanB (E : Env) (V : Bs E.b) (s : SS) (c n m : Nat) (tok : Option Nat) (h : Look E V s c tok) (hd : ∀ j, j < n → 48 ≤ E.at (c + j) ∧ E.at (c + j) ≤ 57) (hn : 1 ≤ n) (h0 : E.at c ≠ 48) (hp : E.at (c + n) = 46) (hd2 : ∀ j, j < m → 48 ≤ E.at (c + n + 1 + j) ∧ E.at (c + n + 1 + j) ≤ 57) (hm : 1 ≤ m) (he : E.at (c + n + 1 + m) = 32 ∨ E.at (c + n + 1 + m) = -1) :
    Calls Tryz.prog 45 #[.pointer (some ⟨E.b, 0, none⟩), .int .i32 (E.at c), .bool false] (St V s) (Pw.NumEnd E V s c (n + 1 + m) tok (-4)) := by
  have hne := h.ne
  have hal := fun o => St.alloc V s o
  obtain ⟨iv, hiv⟩ : ∃ iv, V.1.heap.size = iv := ⟨_, rfl⟩
  have hv0 := V.inv_new
  have hL0 : Look E V.inv s c tok := h.ext fun k hk _ => V.inv_old k hk
  have hKo := fun V' => Kx.old (E := E) (V := V) (V' := V') hne.2.2
  rw [hiv] at hne hv0 hKo
  have hin : (V.alloc (.cells #[.int .i32 0] 21)).put ⟨iv, 0, none⟩ (.int .i32 0) = V.inv := by unfold Bs.inv; rw [hiv]
  have hput : ∀ (V : Bs E.b) s v, (St V s).setCell ⟨iv, 0, none⟩ v = St (V.put ⟨iv, 0, none⟩ v) s := fun V s v => St.put V s _ v hne.1
  have hnew : (V.alloc (.cells #[.int .i32 0] 21)).1.heap[iv]? = some (.cells #[.int .i32 0] 21 (0, 0)) := by rw [← hiv]; exact heap_alloc_new V.1 _
  have hget0 : ∀ s, (St (V.alloc (.cells #[.int .i32 0] 21)) s).cell? ⟨iv, 0, none⟩ = some (.int .i32 0) := fun s => by rw [St.cell_other _ s _ hne.1]; exact cell_of_row _ _ _ _ _ _ hnew
  have hfro0 : ∀ s, (St (V.alloc (.cells #[.int .i32 0] 21)) s).frozen? ⟨iv, 0, none⟩ = false := fun s => by rw [St.frozen_other _ s _ hne.1]; exact Lib.frozen_of_heap hnew 0
  have hgetV : ∀ (V' : Bs E.b) s (y : Int), V'.1.heap[iv]? = some (.cells #[.int .i32 y] 21 (0, 0)) → (St V' s).cell? ⟨iv, 0, none⟩ = some (.int .i32 y) := fun V' s y hh => by rw [St.cell_other _ s _ hne.1]; exact cell_of_row _ _ _ _ _ _ hh
  have hd1 := Pw.digits10 E V.inv s c n tok iv 0 hL0 hd (by omega) hne.1 hne.2.1 hv0
  have t0 : (E.at c == 48) = false := by simpa using h0
  have hcn : c + n < E.S.size := by
    rcases Nat.lt_or_ge (c + n) E.S.size with g | g
    · exact g
    · rw [E.at_end g] at hp; omega
  unfold Pw.NumEnd
  unfold Pw.DigEnd at hd1
  have hn0 : n ≠ 0 := by omega
  have hm0 : m ≠ 0 := by omega
  rw [if_neg hn0, hp] at hd1
  have hnx := fun (V1 : Bs E.b) s1 h1 => Pw.nextL E V1 s1 (c + n) tok h1 hcn
  have hdB := fun (V1 : Bs E.b) s1 h1 y hi => Pw.digits10 E V1 s1 (c + n + 1) m tok iv y h1 hd2 (by omega) hne.1 hne.2.1 hi
  unfold Pw.DigEnd at hdB
  rw [if_neg hm0] at hdB
  rw [show c + (n + 1 + m) = c + n + 1 + m from by omega]
  generalize E.at c = x at t0 hd1 ⊢
  generalize E.at (c + n + 1) = x2 at hnx hdB ⊢
  generalize E.at (c + n + 1 + m) = z at he hdB ⊢
  have hlo := Pw.lower z (by omega)
  have z0 : (z == 46) = false := by simp; omega
  have z1 : (z == 101) = false := by simp; omega
  have z2 : (z == 112) = false := by simp; omega
  have H := Lib.hid (And.intro hgetV (And.intro hKo (And.intro hnx (And.intro hdB hne))))
  clear h hd hn h0 he hne hv0 hL0 hKo hnew hgetV hnx hdB hp hd2 hm hcn
  go_enter Tryz.func45, Tryz.ntmps45
  go_wp2_with (first
    | (go_at_call 64; refine hd1.mono ?_; rintro e W ⟨V1, s1, y1, rfl, rfl, hL1, hS1, hi1, hy1, hK1⟩; obtain rfl := hy1 (.inl rfl); have hm1 := hL1.mode; have hx1 := H.out.2.2.1 V1 s1 hL1; have H1 := Lib.hid (And.intro hS1 (And.intro hi1 hK1)); clear hL1 hS1 hi1 hy1 hK1 hd1)
    | (go_at_call 40; refine hx1.mono ?_; rintro e W ⟨V2, s2, rfl, rfl, hL2, hS2, hK2⟩; have hdb := H.out.2.2.2.1 V2 s2 hL2 _ (hK2.one H.out.2.2.2.2.1 H.out.2.2.2.2.2.1 (by decide) H1.out.2.1); have H2 := Lib.hid (And.intro hS2 hK2); clear hL2 hS2 hK2 hx1)
    | (go_at_call 64; refine hdb.mono ?_; rintro e W ⟨V3, s3, y3, rfl, rfl, hL3, hS3, hi3, hy3, hK3⟩; have hm3 := hL3.mode; have H3 := Lib.hid (And.intro hL3 (And.intro hS3 hK3)); clear hL3 hS3 hi3 hy3 hK3 hdb)
    | (go_at_call 63; refine (hlo _).mono ?_; rintro e w1 ⟨rfl, rfl⟩))
  go_ret2
  exact ⟨V3, s3, rfl, rfl, H3.out.1, (H1.out.1.trans H2.out.1).trans H3.out.2.1, H.out.2.1 V3 ((H1.out.2.2.trans H2.out.2.kx).trans H3.out.2.2)⟩
end Go.Proofs
namespace Go.Proofs
open Go Go.RowKit
set_option maxRecDepth 100000 in
set_option maxHeartbeats 2000000 in
/-- A lone nought. -/
theorem Pw.scanC (E : Env) (V : Bs E.b) (s : SS) (c : Nat) (tok : Option Nat) (h : Look E V s c tok) (h0 : E.at c = 48) (he : E.at (c + 1) = 32 ∨ E.at (c + 1) = -1) :
    Calls Tryz.prog 45 #[.pointer (some ⟨E.b, 0, none⟩), .int .i32 (E.at c), .bool false] (St V s) (Pw.NumEnd E V s c 1 tok (-3)) := by
  have hne := h.ne
  have hal := fun o => St.alloc V s o
  obtain ⟨iv, hiv⟩ : ∃ iv, V.1.heap.size = iv := ⟨_, rfl⟩
  have hv0 := V.inv_new
  have hL0 : Look E V.inv s c tok := h.ext fun k hk _ => V.inv_old k hk
  have hKo := fun V' => Kx.old (E := E) (V := V) (V' := V') hne.2.2
  rw [hiv] at hne hv0 hKo
  have hin : (V.alloc (.cells #[.int .i32 0] 21)).put ⟨iv, 0, none⟩ (.int .i32 0) = V.inv := by unfold Bs.inv; rw [hiv]
  have hput : ∀ (V : Bs E.b) s v, (St V s).setCell ⟨iv, 0, none⟩ v = St (V.put ⟨iv, 0, none⟩ v) s := fun V s v => St.put V s _ v hne.1
  have hnew : (V.alloc (.cells #[.int .i32 0] 21)).1.heap[iv]? = some (.cells #[.int .i32 0] 21 (0, 0)) := by rw [← hiv]; exact heap_alloc_new V.1 _
  have hget0 : ∀ s, (St (V.alloc (.cells #[.int .i32 0] 21)) s).cell? ⟨iv, 0, none⟩ = some (.int .i32 0) := fun s => by rw [St.cell_other _ s _ hne.1]; exact cell_of_row _ _ _ _ _ _ hnew
  have hfro0 : ∀ s, (St (V.alloc (.cells #[.int .i32 0] 21)) s).frozen? ⟨iv, 0, none⟩ = false := fun s => by rw [St.frozen_other _ s _ hne.1]; exact Lib.frozen_of_heap hnew 0
  have hgetV : ∀ (V' : Bs E.b) s (y : Int), V'.1.heap[iv]? = some (.cells #[.int .i32 y] 21 (0, 0)) → (St V' s).cell? ⟨iv, 0, none⟩ = some (.int .i32 y) := fun V' s y hh => by rw [St.cell_other _ s _ hne.1]; exact cell_of_row _ _ _ _ _ _ hh
  have hcn : c < E.S.size := by
    rcases Nat.lt_or_ge c E.S.size with g | g
    · exact g
    · rw [E.at_end g] at h0; omega
  unfold Pw.NumEnd
  have hx1 := Pw.nextL E V.inv s c tok hL0 hcn
  have hdB := fun (V1 : Bs E.b) s1 h1 y hi => Pw.digits8 E V1 s1 (c + 1) 0 tok iv y h1 (fun j hj => by omega) (by rw [Nat.add_zero]; omega) hne.1 hne.2.1 hne.2.2 hi
  unfold Pw.DigEnd at hdB
  rw [if_pos rfl] at hdB
  simp only [Nat.add_zero] at hdB
  rw [h0]
  generalize E.at (c + 1) = z at he hdB hx1 ⊢
  have hlo := Pw.lower z (by omega)
  have z0 : (z == 46) = false := by simp; omega
  have z1 : (z == 101) = false := by simp; omega
  have z2 : (z == 112) = false := by simp; omega
  have z3 : (z == 120) = false := by simp; omega
  have z4 : (z == 111) = false := by simp; omega
  have z5 : (z == 98) = false := by simp; omega
  have H := Lib.hid (And.intro hgetV (And.intro hKo (And.intro hdB (And.intro hv0 hne))))
  clear h h0 he hne hv0 hL0 hKo hnew hgetV hdB hcn
  go_enter Tryz.func45, Tryz.ntmps45
  go_wp2_with (first
    | (go_at_call 40; refine hx1.mono ?_; rintro e W ⟨V2, s2, rfl, rfl, hL2, hS2, hK2⟩; have hdb := H.out.2.2.1 V2 s2 hL2 _ (hK2.one H.out.2.2.2.2.1 H.out.2.2.2.2.2.1 (by decide) H.out.2.2.2.1); have H2 := Lib.hid (And.intro hS2 hK2); clear hL2 hS2 hK2 hx1)
    | (go_at_call 64; refine hdb.mono ?_; rintro e W ⟨V3, s3, y3, rfl, rfl, hL3, hS3, hi3, hy3, hK3⟩; obtain rfl := hy3 (.inr trivial); have hm3 := hL3.mode; have hg1 := H.out.1 V3 s3 _ hi3; have H3 := Lib.hid (And.intro hL3 (And.intro hS3 hK3)); clear hL3 hS3 hi3 hy3 hK3 hdb)
    | (go_at_call 63; refine (hlo _).mono ?_; rintro e w1 ⟨rfl, rfl⟩))
  go_ret2
  exact ⟨V3, s3, rfl, rfl, H3.out.1, H2.out.1.trans H3.out.2.1, H.out.2.1 V3 (H2.out.2.kx.trans H3.out.2.2)⟩
end Go.Proofs
namespace Go.Proofs
open Go Go.RowKit
set_option maxRecDepth 100000 in
set_option maxHeartbeats 2000000 in
/-- A nought, a point, digits. -/
theorem Pw.scanD (E : Env) (V : Bs E.b) (s : SS) (c m : Nat) (tok : Option Nat) (h : Look E V s c tok) (h0 : E.at c = 48) (hp : E.at (c + 1) = 46) (hd2 : ∀ j, j < m → 48 ≤ E.at (c + 1 + 1 + j) ∧ E.at (c + 1 + 1 + j) ≤ 57) (hm : 1 ≤ m) (he : E.at (c + 1 + 1 + m) = 32 ∨ E.at (c + 1 + 1 + m) = -1) :
    Calls Tryz.prog 45 #[.pointer (some ⟨E.b, 0, none⟩), .int .i32 (E.at c), .bool false] (St V s) (Pw.NumEnd E V s c (1 + 1 + m) tok (-4)) := by
  have hne := h.ne
  have hal := fun o => St.alloc V s o
  obtain ⟨iv, hiv⟩ : ∃ iv, V.1.heap.size = iv := ⟨_, rfl⟩
  have hv0 := V.inv_new
  have hL0 : Look E V.inv s c tok := h.ext fun k hk _ => V.inv_old k hk
  have hKo := fun V' => Kx.old (E := E) (V := V) (V' := V') hne.2.2
  rw [hiv] at hne hv0 hKo
  have hin : (V.alloc (.cells #[.int .i32 0] 21)).put ⟨iv, 0, none⟩ (.int .i32 0) = V.inv := by unfold Bs.inv; rw [hiv]
  have hput : ∀ (V : Bs E.b) s v, (St V s).setCell ⟨iv, 0, none⟩ v = St (V.put ⟨iv, 0, none⟩ v) s := fun V s v => St.put V s _ v hne.1
  have hnew : (V.alloc (.cells #[.int .i32 0] 21)).1.heap[iv]? = some (.cells #[.int .i32 0] 21 (0, 0)) := by rw [← hiv]; exact heap_alloc_new V.1 _
  have hget0 : ∀ s, (St (V.alloc (.cells #[.int .i32 0] 21)) s).cell? ⟨iv, 0, none⟩ = some (.int .i32 0) := fun s => by rw [St.cell_other _ s _ hne.1]; exact cell_of_row _ _ _ _ _ _ hnew
  have hfro0 : ∀ s, (St (V.alloc (.cells #[.int .i32 0] 21)) s).frozen? ⟨iv, 0, none⟩ = false := fun s => by rw [St.frozen_other _ s _ hne.1]; exact Lib.frozen_of_heap hnew 0
  have hgetV : ∀ (V' : Bs E.b) s (y : Int), V'.1.heap[iv]? = some (.cells #[.int .i32 y] 21 (0, 0)) → (St V' s).cell? ⟨iv, 0, none⟩ = some (.int .i32 y) := fun V' s y hh => by rw [St.cell_other _ s _ hne.1]; exact cell_of_row _ _ _ _ _ _ hh
  have hcn : c < E.S.size := by
    rcases Nat.lt_or_ge c E.S.size with g | g
    · exact g
    · rw [E.at_end g] at h0; omega
  have hcn1 : c + 1 < E.S.size := by
    rcases Nat.lt_or_ge (c + 1) E.S.size with g | g
    · exact g
    · rw [E.at_end g] at hp; omega
  unfold Pw.NumEnd
  have hm0 : m ≠ 0 := by omega
  have hx1 := Pw.nextL E V.inv s c tok hL0 hcn
  have hdA := fun (V1 : Bs E.b) s1 h1 y hi => Pw.digits8 E V1 s1 (c + 1) 0 tok iv y h1 (fun j hj => by omega) (by rw [Nat.add_zero]; omega) hne.1 hne.2.1 hne.2.2 hi
  unfold Pw.DigEnd at hdA
  rw [if_pos rfl] at hdA
  simp only [Nat.add_zero] at hdA
  have hnx := fun (V1 : Bs E.b) s1 h1 => Pw.nextL E V1 s1 (c + 1) tok h1 hcn1
  have hdB := fun (V1 : Bs E.b) s1 h1 y hi => Pw.digits8 E V1 s1 (c + 1 + 1) m tok iv y h1 hd2 (by omega) hne.1 hne.2.1 hne.2.2 hi
  unfold Pw.DigEnd at hdB
  rw [if_neg hm0] at hdB
  rw [show c + (1 + 1 + m) = c + 1 + 1 + m from by omega, h0]
  rw [hp] at hx1 hdA
  generalize E.at (c + 1 + 1) = x2 at hnx hdB ⊢
  generalize E.at (c + 1 + 1 + m) = z at he hdB ⊢
  have hlo4 := Pw.lower 46 (by omega)
  have hlo := Pw.lower z (by omega)
  have z0 : (z == 46) = false := by simp; omega
  have z1 : (z == 101) = false := by simp; omega
  have z2 : (z == 112) = false := by simp; omega
  have H := Lib.hid (And.intro hgetV (And.intro hKo (And.intro hnx (And.intro hdB (And.intro hdA (And.intro hv0 hne))))))
  clear h h0 he hne hv0 hL0 hKo hnew hgetV hnx hdB hdA hp hd2 hm hcn hcn1
  go_enter Tryz.func45, Tryz.ntmps45
  go_wp2_with (first
    | (go_at_call 40; refine hx1.mono ?_; rintro e W ⟨V2, s2, rfl, rfl, hL2, hS2, hK2⟩; have hi2 := hK2.one H.out.2.2.2.2.2.2.1 H.out.2.2.2.2.2.2.2.1 (by decide) H.out.2.2.2.2.2.1; have hdb := H.out.2.2.2.2.1 V2 s2 hL2 _ hi2; have H2 := Lib.hid (And.intro hS2 hK2); clear hL2 hS2 hK2 hx1 hi2)
    | (go_at_call 64; refine hdb.mono ?_; rintro e W ⟨V3, s3, y3, rfl, rfl, hL3, hS3, hi3, hy3, hK3⟩; have hm3 := hL3.mode; have hx3 := H.out.2.2.1 V3 s3 hL3; have H3 := Lib.hid (And.intro hS3 (And.intro hi3 hK3)); clear hL3 hS3 hi3 hy3 hK3 hdb)
    | (go_at_call 40; refine hx3.mono ?_; rintro e W ⟨V4, s4, rfl, rfl, hL4, hS4, hK4⟩; have hi4 := hK4.one H.out.2.2.2.2.2.2.1 H.out.2.2.2.2.2.2.2.1 (by decide) H3.out.2.1; have hde := H.out.2.2.2.1 V4 s4 hL4 _ hi4; have H4 := Lib.hid (And.intro hS4 hK4); clear hL4 hS4 hK4 hx3 hi4)
    | (go_at_call 64; refine hde.mono ?_; rintro e W ⟨V5, s5, y5, rfl, rfl, hL5, hS5, hi5, hy5, hK5⟩; have hm5 := hL5.mode; have H5 := Lib.hid (And.intro hL5 (And.intro hS5 hK5)); clear hL5 hS5 hi5 hy5 hK5 hde)
    | (go_at_call 63; refine (hlo4 _).mono ?_; rintro e w1 ⟨rfl, rfl⟩)
    | (go_at_call 63; refine (hlo _).mono ?_; rintro e w1 ⟨rfl, rfl⟩))
  go_ret2
  exact ⟨V5, s5, rfl, rfl, H5.out.1, ((H2.out.1.trans H3.out.1).trans H4.out.1).trans H5.out.2.1, H.out.2.1 V5 (((H2.out.2.kx.trans H3.out.2.2).trans H4.out.2.kx).trans H5.out.2.2)⟩
end Go.Proofs

/- Part of the proof of FnPlaceBack: walk: the numbers of a place, and two lists compared. No condition. -/
import Derived.Test.YtmhpnnbfnbaekaaGreatDoorMW13
import Derived.Test.YtmhpnnbfnbaekaaGreatDoorMW6bc
import Derived.BigQuiet
namespace Go.Proofs
open Go Go.RowKit
theorem Pw.nums (x y z m t sb : Nat) (ht : t ≤ 3) (w : World) (h0 : w.cell? ⟨sb, 0, none⟩ = some (.float .f64 x)) (h1 : w.cell? ⟨sb, 1, none⟩ = some (.float .f64 y)) (h2 : w.cell? ⟨sb, 2, none⟩ = some (.float .f64 z)) (h3 : w.cell? ⟨sb, 3, none⟩ = some (.float .f64 m)) :
    Calls Tryz.prog 9 #[.slice (some ⟨sb, 0, none⟩) 1 1, .int .i64 t] w fun e w' => ∃ v, e = .returned v ∧ Pw.Fl (w.heap.size + 1) v (Pw.numsOf x y z m t) w' ∧ w.grownBy w' none := by
  have h3' : t = 0 ∨ t = 1 ∨ t = 2 ∨ t = 3 := by omega
  unfold Pw.numsOf
  rcases h3' with rfl | rfl | rfl | rfl
  · simpa using Pw.nums0 x y z m sb w h0 h1 h2 h3
  · simpa using Pw.nums1 x y z m sb w h0 h1 h2 h3
  · simpa using Pw.nums2 x y z m sb w h0 h1 h2 h3
  · simpa using Pw.nums3 x y z m sb w h0 h1 h2 h3
set_option maxRecDepth 100000 in
theorem Pw.pNums (x y z m t : Nat) (ht : t ≤ 3) (w : World) :
    Calls Tryz.prog 4 #[.agg #[.float .f64 x, .float .f64 y, .float .f64 z, .float .f64 m, .int .i64 t]] w fun e w' => ∃ v, e = .returned v ∧ Pw.Fl w.heap.size v (Pw.numsOf x y z m t) w' ∧ w.grownBy w' none := by
  have hn := fun W sb => Pw.nums x y z m t sb ht W
  go_enter Tryz.func4, Tryz.ntmps4
  go_wp2_with (go_at_call 9; go_must (refine (hn _ (w.heap.size + 1) (Pw.cell2 w _ _ _ 0) (Pw.cell2 w _ _ _ 1) (Pw.cell2 w _ _ _ 2) (Pw.cell2 w _ _ _ 3)).mono ?_; rintro e w1 ⟨v1, rfl, hF, hg⟩))
  go_ret
  refine ⟨v1, rfl, ?_, Pw.grown_trans (Pw.grown_trans (World.grownBy_alloc _ _ _) (World.grownBy_alloc _ _ none) (by simp)) hg (by simp)⟩
  refine ⟨⟨hF.1.1, hF.1.2.imp id fun ⟨g, cap, cur, e, hb, r⟩ => ⟨g, cap, cur, e, by simp at hb; omega, r⟩⟩, ?_⟩
  have := hF.2
  simp at this
  omega
end Go.Proofs
namespace Go.Proofs
open Go Go.RowKit
set_option maxRecDepth 100000 in
theorem Pw.sameNums (ga gb n ca cb : Nat) (xs : Nat → Nat) (w : World) (hn : n ≤ 10) (ha : ∀ i, i < n → w.cell? ⟨ga, i, none⟩ = some (.float .f64 (xs i))) (hb : ∀ i, i < n → w.cell? ⟨gb, i, none⟩ = some (.float .f64 (xs i))) :
    Calls Tryz.prog 8 #[.slice (some ⟨ga, 0, none⟩) n ca, .slice (some ⟨gb, 0, none⟩) n cb] w fun e w' => e = .returned (.bool true) ∧ w.grownBy w' none := by
  have k16 := Pw.call16
  have HA := Lib.hid ha
  have HB := Lib.hid hb
  clear ha hb
  have t0 : ((n : Int) != (n : Int)) = false := by simp
  go_enter Tryz.func8, Tryz.ntmps8
  go_wp2
  go_loopw [5, 6, 14] (fun i v k wr => ∃ j d : Nat, j ≤ n ∧ k = .int .i64 j ∧ wr = w.drewN d) (fun _ _ k _ => n - (intOf k).toNat)
  case atStart => exact ⟨0, 0, Nat.zero_le _, rfl, rfl⟩
  case round =>
    obtain ⟨j, d, hj, rfl, rfl⟩ := hrel
    by_cases hlt : j < n
    · have h1 : w.cell? ⟨ga, j, none⟩ = some (.float .f64 (xs j)) := HA.out j hlt
      have h2 : w.cell? ⟨gb, j, none⟩ = some (.float .f64 (xs j)) := HB.out j hlt
      have hlu : decide ((j : Int) < n) = true := decide_eq_true (by omega)
      go_wp2_with fail
      go_region
      go_wp2
      go_roundw
      case rel => exact ⟨j + 1, d + 1, by omega, by go_num, by first | rfl | trivial⟩
      case measure => simp [intOf]; omega
    · have hlu : decide ((j : Int) < n) = false := decide_eq_false (by omega)
      go_wp2
      go_ret
      exact ⟨rfl, Pw.grown_of_below (Nat.le_refl _) (below_drewN (Below.refl _ _) _)⟩
end Go.Proofs

/- Part of the proof of FnPlaceBack: walk: writing a float, its format. No condition. -/
import Derived.Test.YtmhpnnbfnbaekaaGreatDoorMW34
namespace Go.Proofs
open Go Go.RowKit
set_option maxRecDepth 100000 in
set_option maxHeartbeats 1000000 in
theorem Pw.fmtEFG_3p (B : Nat) (v : Value) (xs : List UInt8) (bs : Nat) (D : List UInt8) (z : Nat) (w : World) (hd : Pw.Dst B v xs w) (hl : xs.length ≤ 90000) (h1 : 1 ≤ D.length) (h2 : z ≤ 400) (h4 : D.length ≤ 32)
    (hb : some bs ≠ v.ownBlock) (hc : ∀ i (h : i < D.length), w.cell? ⟨bs, i, none⟩ = some (.int .u8 (D[i].toNat : Int))) :
    Calls Tryz.prog 80 #[v, .bool false, .slice (some ⟨bs, 0, none⟩) 32 32, .int .i64 (-(z : Int)), .int .i64 D.length, .int .i64 ((D.length + z : Nat) : Int), .int .u8 102, .bool true] w (Pw.Wrote B v xs (([48] ++ [46] ++ List.replicate z 48 ++ D)) w) := by
  have e1 : decide (0 < -(z : Int)) = false := by simp
  obtain ⟨pr, hpr⟩ : ∃ pr, pr = D.length + z := ⟨_, rfl⟩
  rw [← hpr]
  have e4 : max 0 (z : Int) = z := by omega
  have e5 : min (pr : Int) z = z := by omega
  have e6 : max 0 (D.length : Int) = D.length := by omega
  have e7 : min ((pr : Int) - z) D.length = D.length := by omega
  have e9 : max 0 ((pr : Int) - z - D.length) = 0 := by omega
  have e10 : -(z : Int) + z = 0 := by omega
  have e8 : decide (0 < pr) = true := by simp; omega
  have hpr2 : D.length + z ≤ pr := by omega
  have hpr3 : pr ≤ D.length + z := by omega
  clear hpr
  go_enter Tryz.func80, Tryz.ntmps80
  go_wp2_with (first | (at_builtin; refine Pw.wp_app1 rfl _ _ rfl B v xs hd rfl 48 _ rfl (by omega) ?_; intro vT wT hdT haT) | (at_builtin; refine Pw.wp_app1 rfl _ _ rfl B _ (xs ++ [48]) (by assumption) rfl 46 _ rfl (by simp; omega) ?_; intro vU wU hdU haU))
  have haV := haT.trans haU
  go_loopw [0, 240] (fun v' i w2 => ∃ j : Nat, j ≤ z ∧ i = .int .i64 j ∧ Pw.Dst B v' (xs ++ [48] ++ [46] ++ List.replicate j 48) w2 ∧ Pw.Adds w w2 v v') (fun _ i _ => z - (intOf i).toNat)
  case atStart => exact ⟨0, Nat.zero_le _, rfl, by simpa using hdU, haV⟩
  case round =>
    obtain ⟨j1, hj1, rfl, hdj1, haj1⟩ := hrel
    by_cases hlt1 : j1 < z
    · have hlu1 : (j1 : Int) < (z : Int) := by omega
      go_wp2_with (first | (at_builtin; go_must (refine Pw.wp_app1 rfl _ _ rfl B _ _ hdj1 rfl 48 _ rfl (by simp; omega) ?_; intro v1 w1 hd1 ha1)))
      go_roundw
      case rel => exact ⟨j1 + 1, by omega, by go_num, by rw [List.replicate_succ', ← List.append_assoc]; exact hd1, haj1.trans ha1⟩
      case measure => simp [intOf]; omega
    · have hlu1 : ¬ (j1 : Int) < (z : Int) := by omega
      have hdz1 := hdj1
      rw [show j1 = z from by omega] at hdz1
      go_wp2
      obtain ⟨wo2, rfl⟩ : ∃ wo : World, wo = wr := ⟨_, rfl⟩
      go_loopw [0, 30, 247] (fun v' _ i wr => ∃ j : Nat, j ≤ D.length ∧ i = .int .i64 j ∧ Pw.Dst B v' (xs ++ [48] ++ [46] ++ List.replicate (z) 48 ++ (D.drop (0)).take j) wr ∧ Pw.Adds w wr v v') (fun _ _ i _ => D.length - (intOf i).toNat)
      case atStart => exact ⟨0, Nat.zero_le _, rfl, by simpa using hdz1, haj1⟩
      case round =>
        obtain ⟨j2, hj2, rfl, hdj2, haj2⟩ := hrel
        by_cases hlt2 : j2 < D.length
        · have hin2 : 0 + j2 < D.length := by omega
          obtain ⟨c, hcc⟩ : ∃ c, c = D[0 + j2] := ⟨_, rfl⟩
          have hcell : wr.cell? ⟨bs, j2, none⟩ = some (.int .u8 (c.toNat : Int)) := by rw [hcc]; have h0 := haj2.cell hb (hc _ hin2); first | exact h0 | (simpa using h0)
          have hlu2 : (j2 : Int) < D.length := by omega
          have hts : (D.drop (0)).take (j2 + 1) = (D.drop (0)).take j2 ++ [c] := by rw [List.take_succ_eq_append_getElem (by simp; omega), List.getElem_drop, hcc]
          have HTS := Lib.hid hts
          clear hts hcc
          go_wp2_with (first | (at_builtin; go_must (refine Pw.wp_app1 rfl _ _ rfl B _ _ hdj2 rfl c _ rfl (by simp; omega) ?_; intro v1 w1 hd1 ha1)))
          go_roundw
          case rel => exact ⟨j2 + 1, by omega, by go_num, by rw [HTS.out, ← List.append_assoc]; exact hd1, haj2.trans ha1⟩
          case measure => simp [intOf]; omega
        · have hlu2 : ¬ (j2 : Int) < D.length := by omega
          have hdz2 := hdj2
          rw [show j2 = D.length from by omega] at hdz2
          go_wp2
          obtain ⟨wo3, rfl⟩ : ∃ wo : World, wo = wr := ⟨_, rfl⟩
          go_loopw [0, 261] (fun v' i w2 => i = .int .i64 0 ∧ Pw.Dst B v' (xs ++ [48] ++ [46] ++ List.replicate (z) 48 ++ (D.drop (0)).take (D.length)) w2 ∧ Pw.Adds w w2 v v') (fun _ i _ => 0)
          case atStart => exact ⟨rfl, hdz2, haj2⟩
          case round =>
            obtain ⟨rfl, hdz3, haj3⟩ := hrel
            go_wp2
            go_ret
            refine ⟨_, rfl, ?_, haj3⟩
            have hfin := hdz3
            simp only [List.drop_zero, List.take_length, List.append_assoc] at hfin ⊢
            exact hfin
set_option maxRecDepth 100000 in
set_option maxHeartbeats 1000000 in
theorem Pw.fmtEFG_3n (B : Nat) (v : Value) (xs : List UInt8) (bs : Nat) (D : List UInt8) (z : Nat) (w : World) (hd : Pw.Dst B v xs w) (hl : xs.length ≤ 90000) (h1 : 1 ≤ D.length) (h2 : z ≤ 400) (h4 : D.length ≤ 32)
    (hb : some bs ≠ v.ownBlock) (hc : ∀ i (h : i < D.length), w.cell? ⟨bs, i, none⟩ = some (.int .u8 (D[i].toNat : Int))) :
    Calls Tryz.prog 80 #[v, .bool true, .slice (some ⟨bs, 0, none⟩) 32 32, .int .i64 (-(z : Int)), .int .i64 D.length, .int .i64 ((D.length + z : Nat) : Int), .int .u8 102, .bool true] w (Pw.Wrote B v xs ([45] ++ ([48] ++ [46] ++ List.replicate z 48 ++ D)) w) := by
  have e1 : decide (0 < -(z : Int)) = false := by simp
  obtain ⟨pr, hpr⟩ : ∃ pr, pr = D.length + z := ⟨_, rfl⟩
  rw [← hpr]
  have e4 : max 0 (z : Int) = z := by omega
  have e5 : min (pr : Int) z = z := by omega
  have e6 : max 0 (D.length : Int) = D.length := by omega
  have e7 : min ((pr : Int) - z) D.length = D.length := by omega
  have e9 : max 0 ((pr : Int) - z - D.length) = 0 := by omega
  have e10 : -(z : Int) + z = 0 := by omega
  have e8 : decide (0 < pr) = true := by simp; omega
  have hpr2 : D.length + z ≤ pr := by omega
  have hpr3 : pr ≤ D.length + z := by omega
  clear hpr
  go_enter Tryz.func80, Tryz.ntmps80
  go_wp2_with (first | (at_builtin; refine Pw.wp_app1 rfl _ _ rfl B v xs hd rfl 45 _ rfl (by omega) ?_; intro vS wS hdS haS) | (at_builtin; refine Pw.wp_app1 rfl _ _ rfl B _ (xs ++ [45]) (by assumption) rfl 48 _ rfl (by simp; omega) ?_; intro vT wT hdT haT) | (at_builtin; refine Pw.wp_app1 rfl _ _ rfl B _ (xs ++ [45] ++ [48]) (by assumption) rfl 46 _ rfl (by simp; omega) ?_; intro vU wU hdU haU))
  have haV := (haS.trans haT).trans haU
  go_loopw [0, 240] (fun v' i w2 => ∃ j : Nat, j ≤ z ∧ i = .int .i64 j ∧ Pw.Dst B v' (xs ++ [45] ++ [48] ++ [46] ++ List.replicate j 48) w2 ∧ Pw.Adds w w2 v v') (fun _ i _ => z - (intOf i).toNat)
  case atStart => exact ⟨0, Nat.zero_le _, rfl, by simpa using hdU, haV⟩
  case round =>
    obtain ⟨j1, hj1, rfl, hdj1, haj1⟩ := hrel
    by_cases hlt1 : j1 < z
    · have hlu1 : (j1 : Int) < (z : Int) := by omega
      go_wp2_with (first | (at_builtin; go_must (refine Pw.wp_app1 rfl _ _ rfl B _ _ hdj1 rfl 48 _ rfl (by simp; omega) ?_; intro v1 w1 hd1 ha1)))
      go_roundw
      case rel => exact ⟨j1 + 1, by omega, by go_num, by rw [List.replicate_succ', ← List.append_assoc]; exact hd1, haj1.trans ha1⟩
      case measure => simp [intOf]; omega
    · have hlu1 : ¬ (j1 : Int) < (z : Int) := by omega
      have hdz1 := hdj1
      rw [show j1 = z from by omega] at hdz1
      go_wp2
      obtain ⟨wo2, rfl⟩ : ∃ wo : World, wo = wr := ⟨_, rfl⟩
      go_loopw [0, 30, 247] (fun v' _ i wr => ∃ j : Nat, j ≤ D.length ∧ i = .int .i64 j ∧ Pw.Dst B v' (xs ++ [45] ++ [48] ++ [46] ++ List.replicate (z) 48 ++ (D.drop (0)).take j) wr ∧ Pw.Adds w wr v v') (fun _ _ i _ => D.length - (intOf i).toNat)
      case atStart => exact ⟨0, Nat.zero_le _, rfl, by simpa using hdz1, haj1⟩
      case round =>
        obtain ⟨j2, hj2, rfl, hdj2, haj2⟩ := hrel
        by_cases hlt2 : j2 < D.length
        · have hin2 : 0 + j2 < D.length := by omega
          obtain ⟨c, hcc⟩ : ∃ c, c = D[0 + j2] := ⟨_, rfl⟩
          have hcell : wr.cell? ⟨bs, j2, none⟩ = some (.int .u8 (c.toNat : Int)) := by rw [hcc]; have h0 := haj2.cell hb (hc _ hin2); first | exact h0 | (simpa using h0)
          have hlu2 : (j2 : Int) < D.length := by omega
          have hts : (D.drop (0)).take (j2 + 1) = (D.drop (0)).take j2 ++ [c] := by rw [List.take_succ_eq_append_getElem (by simp; omega), List.getElem_drop, hcc]
          have HTS := Lib.hid hts
          clear hts hcc
          go_wp2_with (first | (at_builtin; go_must (refine Pw.wp_app1 rfl _ _ rfl B _ _ hdj2 rfl c _ rfl (by simp; omega) ?_; intro v1 w1 hd1 ha1)))
          go_roundw
          case rel => exact ⟨j2 + 1, by omega, by go_num, by rw [HTS.out, ← List.append_assoc]; exact hd1, haj2.trans ha1⟩
          case measure => simp [intOf]; omega
        · have hlu2 : ¬ (j2 : Int) < D.length := by omega
          have hdz2 := hdj2
          rw [show j2 = D.length from by omega] at hdz2
          go_wp2
          obtain ⟨wo3, rfl⟩ : ∃ wo : World, wo = wr := ⟨_, rfl⟩
          go_loopw [0, 261] (fun v' i w2 => i = .int .i64 0 ∧ Pw.Dst B v' (xs ++ [45] ++ [48] ++ [46] ++ List.replicate (z) 48 ++ (D.drop (0)).take (D.length)) w2 ∧ Pw.Adds w w2 v v') (fun _ i _ => 0)
          case atStart => exact ⟨rfl, hdz2, haj2⟩
          case round =>
            obtain ⟨rfl, hdz3, haj3⟩ := hrel
            go_wp2
            go_ret
            refine ⟨_, rfl, ?_, haj3⟩
            have hfin := hdz3
            simp only [List.drop_zero, List.take_length, List.append_assoc] at hfin ⊢
            exact hfin
end Go.Proofs

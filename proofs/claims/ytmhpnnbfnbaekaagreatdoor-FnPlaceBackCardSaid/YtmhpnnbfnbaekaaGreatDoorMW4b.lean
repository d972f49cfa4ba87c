/- Part of the proof of FnPlaceBack: walk: writing a float, its format. No condition. -/
import Derived.Test.YtmhpnnbfnbaekaaGreatDoorMW34
namespace Go.Proofs
open Go Go.RowKit
set_option maxRecDepth 100000 in
set_option maxHeartbeats 1000000 in
theorem Pw.fmtEFG_2p (B : Nat) (v : Value) (xs : List UInt8) (bs : Nat) (D : List UInt8) (dp : Nat) (w : World) (hd : Pw.Dst B v xs w) (hl : xs.length ≤ 90000) (h1 : 1 ≤ dp) (h2 : dp < D.length) (h4 : D.length ≤ 32)
    (hb : some bs ≠ v.ownBlock) (hc : ∀ i (h : i < D.length), w.cell? ⟨bs, i, none⟩ = some (.int .u8 (D[i].toNat : Int))) :
    Calls Tryz.prog 80 #[v, .bool false, .slice (some ⟨bs, 0, none⟩) 32 32, .int .i64 dp, .int .i64 D.length, .int .i64 ((D.length - dp : Nat) : Int), .int .u8 102, .bool true] w (Pw.Wrote B v xs ((D.take dp ++ [46] ++ D.drop dp)) w) := by
  have e1 : decide (0 < dp) = true := by simp; omega
  have e2 : min (D.length : Int) dp = dp := by omega
  have e3 : max (dp : Int) 0 = dp := by omega
  obtain ⟨pr, hpr⟩ : ∃ pr, pr = D.length - dp := ⟨_, rfl⟩
  rw [← hpr]
  have e4 : max 0 (-(dp : Int)) = 0 := by omega
  have e5 : min (pr : Int) 0 = 0 := by omega
  have e6 : max 0 ((D.length : Int) - dp) = pr := by omega
  have e7 : min (pr : Int) pr = pr := by omega
  have e8 : decide ((0 : Int) < pr) = true := by simp; omega
  have HPR := Lib.hid hpr
  have hpr2 : dp + pr ≤ D.length := by omega
  have hpr3 : D.length ≤ dp + pr := by omega
  clear hpr
  obtain ⟨wS, hwS⟩ : ∃ wS : World, wS = w := ⟨_, rfl⟩
  have hdS := hd
  have haS := Pw.Adds.refl w v
  clear hwS wS
  go_enter Tryz.func80, Tryz.ntmps80
  go_wp2
  go_loopw [0, 25, 191] (fun v' _ i wr => ∃ j : Nat, j ≤ dp ∧ i = .int .i64 j ∧ Pw.Dst B v' (xs ++ (D.drop (0)).take j) wr ∧ Pw.Adds w wr v v') (fun _ _ i _ => dp - (intOf i).toNat)
  case atStart => exact ⟨0, Nat.zero_le _, rfl, by simpa using hdS, haS⟩
  case round =>
    obtain ⟨j1, hj1, rfl, hdj1, haj1⟩ := hrel
    by_cases hlt1 : j1 < dp
    · have hin1 : 0 + j1 < D.length := by omega
      obtain ⟨c, hcc⟩ : ∃ c, c = D[0 + j1] := ⟨_, rfl⟩
      have hcell : wr.cell? ⟨bs, j1, none⟩ = some (.int .u8 (c.toNat : Int)) := by rw [hcc]; have h0 := haj1.cell hb (hc _ hin1); first | exact h0 | (simpa using h0)
      have hlu1 : (j1 : Int) < dp := by omega
      have hts : (D.drop (0)).take (j1 + 1) = (D.drop (0)).take j1 ++ [c] := by rw [List.take_succ_eq_append_getElem (by simp; omega), List.getElem_drop, hcc]
      have HTS := Lib.hid hts
      clear hts hcc
      go_wp2_with (first | (at_builtin; go_must (refine Pw.wp_app1 rfl _ _ rfl B _ _ hdj1 rfl c _ rfl (by simp; omega) ?_; intro v1 w1 hd1 ha1)))
      go_roundw
      case rel => exact ⟨j1 + 1, by omega, by go_num, by rw [HTS.out, ← List.append_assoc]; exact hd1, haj1.trans ha1⟩
      case measure => simp [intOf]; omega
    · have hlu1 : ¬ (j1 : Int) < dp := by omega
      have hdz1 := hdj1
      rw [show j1 = dp from by omega] at hdz1
      go_wp2
      obtain ⟨wo2, rfl⟩ : ∃ wo : World, wo = wr := ⟨_, rfl⟩
      go_loopw [0, 203] (fun v' i w2 => i = .int .i64 0 ∧ Pw.Dst B v' (xs ++ (D.drop (0)).take (dp)) w2 ∧ Pw.Adds w w2 v v') (fun _ i _ => 0)
      case atStart => exact ⟨rfl, hdz1, haj1⟩
      case round =>
        obtain ⟨rfl, hdz2, haj2⟩ := hrel
        go_wp2_with (first | (at_builtin; go_must (refine Pw.wp_app1 rfl _ _ rfl B _ _ hdz2 rfl 46 _ rfl (by simp; omega) ?_; intro vo3 wp3 hdo3 hao3)))
        have hap3 := haj2.trans hao3
        go_loopw [0, 240] (fun v' i w2 => i = .int .i64 0 ∧ Pw.Dst B v' (xs ++ (D.drop (0)).take (dp) ++ [46]) w2 ∧ Pw.Adds w w2 v v') (fun _ i _ => 0)
        case atStart => exact ⟨rfl, hdo3, hap3⟩
        case round =>
          obtain ⟨rfl, hdz4, haj4⟩ := hrel
          go_wp2
          obtain ⟨wo5, rfl⟩ : ∃ wo : World, wo = wr := ⟨_, rfl⟩
          go_loopw [0, 30, 247] (fun v' _ i wr => ∃ j : Nat, j ≤ pr ∧ i = .int .i64 j ∧ Pw.Dst B v' (xs ++ (D.drop (0)).take (dp) ++ [46] ++ (D.drop (dp)).take j) wr ∧ Pw.Adds w wr v v') (fun _ _ i _ => pr - (intOf i).toNat)
          case atStart => exact ⟨0, Nat.zero_le _, rfl, by simpa using hdz4, haj4⟩
          case round =>
            obtain ⟨j5, hj5, rfl, hdj5, haj5⟩ := hrel
            by_cases hlt5 : j5 < pr
            · have hin5 : dp + j5 < D.length := by omega
              obtain ⟨c, hcc⟩ : ∃ c, c = D[dp + j5] := ⟨_, rfl⟩
              have hcell : wr.cell? ⟨bs, dp + j5, none⟩ = some (.int .u8 (c.toNat : Int)) := by rw [hcc]; have h0 := haj5.cell hb (hc _ hin5); first | exact h0 | (simpa using h0)
              have hlu5 : (j5 : Int) < (pr : Int) := by omega
              have hts : (D.drop (dp)).take (j5 + 1) = (D.drop (dp)).take j5 ++ [c] := by rw [List.take_succ_eq_append_getElem (by simp; omega), List.getElem_drop, hcc]
              have HTS := Lib.hid hts
              clear hts hcc
              go_wp2_with (first | (at_builtin; go_must (refine Pw.wp_app1 rfl _ _ rfl B _ _ hdj5 rfl c _ rfl (by simp; omega) ?_; intro v1 w1 hd1 ha1)))
              go_roundw
              case rel => exact ⟨j5 + 1, by omega, by go_num, by rw [HTS.out, ← List.append_assoc]; exact hd1, haj5.trans ha1⟩
              case measure => simp [intOf]; omega
            · have hlu5 : ¬ (j5 : Int) < (pr : Int) := by omega
              have hdz5 := hdj5
              rw [show j5 = pr from by omega] at hdz5
              go_wp2
              obtain ⟨wo6, rfl⟩ : ∃ wo : World, wo = wr := ⟨_, rfl⟩
              go_loopw [0, 261] (fun v' i w2 => i = .int .i64 0 ∧ Pw.Dst B v' (xs ++ (D.drop (0)).take (dp) ++ [46] ++ (D.drop (dp)).take (pr)) w2 ∧ Pw.Adds w w2 v v') (fun _ i _ => 0)
              case atStart => exact ⟨rfl, hdz5, haj5⟩
              case round =>
                obtain ⟨rfl, hdz6, haj6⟩ := hrel
                go_wp2
                go_ret
                refine ⟨_, rfl, ?_, haj6⟩
                have hfin := hdz6
                have ht : (D.drop dp).take pr = D.drop dp := List.take_of_length_le (by simp; omega)
                rw [ht] at hfin
                simp only [List.drop_zero, List.append_assoc] at hfin ⊢
                exact hfin
set_option maxRecDepth 100000 in
set_option maxHeartbeats 1000000 in
theorem Pw.fmtEFG_2n (B : Nat) (v : Value) (xs : List UInt8) (bs : Nat) (D : List UInt8) (dp : Nat) (w : World) (hd : Pw.Dst B v xs w) (hl : xs.length ≤ 90000) (h1 : 1 ≤ dp) (h2 : dp < D.length) (h4 : D.length ≤ 32)
    (hb : some bs ≠ v.ownBlock) (hc : ∀ i (h : i < D.length), w.cell? ⟨bs, i, none⟩ = some (.int .u8 (D[i].toNat : Int))) :
    Calls Tryz.prog 80 #[v, .bool true, .slice (some ⟨bs, 0, none⟩) 32 32, .int .i64 dp, .int .i64 D.length, .int .i64 ((D.length - dp : Nat) : Int), .int .u8 102, .bool true] w (Pw.Wrote B v xs ([45] ++ (D.take dp ++ [46] ++ D.drop dp)) w) := by
  have e1 : decide (0 < dp) = true := by simp; omega
  have e2 : min (D.length : Int) dp = dp := by omega
  have e3 : max (dp : Int) 0 = dp := by omega
  obtain ⟨pr, hpr⟩ : ∃ pr, pr = D.length - dp := ⟨_, rfl⟩
  rw [← hpr]
  have e4 : max 0 (-(dp : Int)) = 0 := by omega
  have e5 : min (pr : Int) 0 = 0 := by omega
  have e6 : max 0 ((D.length : Int) - dp) = pr := by omega
  have e7 : min (pr : Int) pr = pr := by omega
  have e8 : decide ((0 : Int) < pr) = true := by simp; omega
  have HPR := Lib.hid hpr
  have hpr2 : dp + pr ≤ D.length := by omega
  have hpr3 : D.length ≤ dp + pr := by omega
  clear hpr
  go_enter Tryz.func80, Tryz.ntmps80
  go_wp2_with (first | (at_builtin; refine Pw.wp_app1 rfl _ _ rfl B v xs hd rfl 45 _ rfl (by omega) ?_; intro vS wS hdS haS))
  go_loopw [0, 25, 191] (fun v' _ i wr => ∃ j : Nat, j ≤ dp ∧ i = .int .i64 j ∧ Pw.Dst B v' (xs ++ [45] ++ (D.drop (0)).take j) wr ∧ Pw.Adds w wr v v') (fun _ _ i _ => dp - (intOf i).toNat)
  case atStart => exact ⟨0, Nat.zero_le _, rfl, by simpa using hdS, haS⟩
  case round =>
    obtain ⟨j1, hj1, rfl, hdj1, haj1⟩ := hrel
    by_cases hlt1 : j1 < dp
    · have hin1 : 0 + j1 < D.length := by omega
      obtain ⟨c, hcc⟩ : ∃ c, c = D[0 + j1] := ⟨_, rfl⟩
      have hcell : wr.cell? ⟨bs, j1, none⟩ = some (.int .u8 (c.toNat : Int)) := by rw [hcc]; have h0 := haj1.cell hb (hc _ hin1); first | exact h0 | (simpa using h0)
      have hlu1 : (j1 : Int) < dp := by omega
      have hts : (D.drop (0)).take (j1 + 1) = (D.drop (0)).take j1 ++ [c] := by rw [List.take_succ_eq_append_getElem (by simp; omega), List.getElem_drop, hcc]
      have HTS := Lib.hid hts
      clear hts hcc
      go_wp2_with (first | (at_builtin; go_must (refine Pw.wp_app1 rfl _ _ rfl B _ _ hdj1 rfl c _ rfl (by simp; omega) ?_; intro v1 w1 hd1 ha1)))
      go_roundw
      case rel => exact ⟨j1 + 1, by omega, by go_num, by rw [HTS.out, ← List.append_assoc]; exact hd1, haj1.trans ha1⟩
      case measure => simp [intOf]; omega
    · have hlu1 : ¬ (j1 : Int) < dp := by omega
      have hdz1 := hdj1
      rw [show j1 = dp from by omega] at hdz1
      go_wp2
      obtain ⟨wo2, rfl⟩ : ∃ wo : World, wo = wr := ⟨_, rfl⟩
      go_loopw [0, 203] (fun v' i w2 => i = .int .i64 0 ∧ Pw.Dst B v' (xs ++ [45] ++ (D.drop (0)).take (dp)) w2 ∧ Pw.Adds w w2 v v') (fun _ i _ => 0)
      case atStart => exact ⟨rfl, hdz1, haj1⟩
      case round =>
        obtain ⟨rfl, hdz2, haj2⟩ := hrel
        go_wp2_with (first | (at_builtin; go_must (refine Pw.wp_app1 rfl _ _ rfl B _ _ hdz2 rfl 46 _ rfl (by simp; omega) ?_; intro vo3 wp3 hdo3 hao3)))
        have hap3 := haj2.trans hao3
        go_loopw [0, 240] (fun v' i w2 => i = .int .i64 0 ∧ Pw.Dst B v' (xs ++ [45] ++ (D.drop (0)).take (dp) ++ [46]) w2 ∧ Pw.Adds w w2 v v') (fun _ i _ => 0)
        case atStart => exact ⟨rfl, hdo3, hap3⟩
        case round =>
          obtain ⟨rfl, hdz4, haj4⟩ := hrel
          go_wp2
          obtain ⟨wo5, rfl⟩ : ∃ wo : World, wo = wr := ⟨_, rfl⟩
          go_loopw [0, 30, 247] (fun v' _ i wr => ∃ j : Nat, j ≤ pr ∧ i = .int .i64 j ∧ Pw.Dst B v' (xs ++ [45] ++ (D.drop (0)).take (dp) ++ [46] ++ (D.drop (dp)).take j) wr ∧ Pw.Adds w wr v v') (fun _ _ i _ => pr - (intOf i).toNat)
          case atStart => exact ⟨0, Nat.zero_le _, rfl, by simpa using hdz4, haj4⟩
          case round =>
            obtain ⟨j5, hj5, rfl, hdj5, haj5⟩ := hrel
            by_cases hlt5 : j5 < pr
            · have hin5 : dp + j5 < D.length := by omega
              obtain ⟨c, hcc⟩ : ∃ c, c = D[dp + j5] := ⟨_, rfl⟩
              have hcell : wr.cell? ⟨bs, dp + j5, none⟩ = some (.int .u8 (c.toNat : Int)) := by rw [hcc]; have h0 := haj5.cell hb (hc _ hin5); first | exact h0 | (simpa using h0)
              have hlu5 : (j5 : Int) < (pr : Int) := by omega
              have hts : (D.drop (dp)).take (j5 + 1) = (D.drop (dp)).take j5 ++ [c] := by rw [List.take_succ_eq_append_getElem (by simp; omega), List.getElem_drop, hcc]
              have HTS := Lib.hid hts
              clear hts hcc
              go_wp2_with (first | (at_builtin; go_must (refine Pw.wp_app1 rfl _ _ rfl B _ _ hdj5 rfl c _ rfl (by simp; omega) ?_; intro v1 w1 hd1 ha1)))
              go_roundw
              case rel => exact ⟨j5 + 1, by omega, by go_num, by rw [HTS.out, ← List.append_assoc]; exact hd1, haj5.trans ha1⟩
              case measure => simp [intOf]; omega
            · have hlu5 : ¬ (j5 : Int) < (pr : Int) := by omega
              have hdz5 := hdj5
              rw [show j5 = pr from by omega] at hdz5
              go_wp2
              obtain ⟨wo6, rfl⟩ : ∃ wo : World, wo = wr := ⟨_, rfl⟩
              go_loopw [0, 261] (fun v' i w2 => i = .int .i64 0 ∧ Pw.Dst B v' (xs ++ [45] ++ (D.drop (0)).take (dp) ++ [46] ++ (D.drop (dp)).take (pr)) w2 ∧ Pw.Adds w w2 v v') (fun _ i _ => 0)
              case atStart => exact ⟨rfl, hdz5, haj5⟩
              case round =>
                obtain ⟨rfl, hdz6, haj6⟩ := hrel
                go_wp2
                go_ret
                refine ⟨_, rfl, ?_, haj6⟩
                have hfin := hdz6
                have ht : (D.drop dp).take pr = D.drop dp := List.take_of_length_le (by simp; omega)
                rw [ht] at hfin
                simp only [List.drop_zero, List.append_assoc] at hfin ⊢
                exact hfin
end Go.Proofs

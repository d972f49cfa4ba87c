/- Part of the proof of FnPlaceBack: walk: reading a float: its digits. No condition. -/
import Derived.Test.YtmhpnnbfnbaekaaGreatDoorMW8
import Derived.Test.YtmhpnnbfnbaekaaGreatDoorMPbGIN
import Derived.WalkMore
namespace Go.Proofs
open Go Go.RowKit
theorem Pw.results_tmp7 {fn : Func} {a b c d e f g : Tmp} (h : fn.results = #[.tmp a, .tmp b, .tmp c, .tmp d, .tmp e, .tmp f, .tmp g]) (tmps : Array Value) (P : Program) (w : World) :
    (results fn tmps).run P w = .ok (.tuple #[tmps.getD a undef, tmps.getD b undef, tmps.getD c undef, tmps.getD d undef, tmps.getD e undef, tmps.getD f undef, tmps.getD g undef]) w := by
  simp [results, h]
/-- What the loop of readFloat holds. -/
def Pw.RL (L : List UInt8) (j : Nat) (m t dt dg n nm dp : Value) : Prop :=
  m = .int .u64 (Pb.rread (L.take j)).man ∧ t = .bool (Pb.rread (L.take j)).tr ∧ dt = .bool (Pb.rread (L.take j)).dot ∧ dg = .bool (Pb.rread (L.take j)).dig ∧ n = .int .i64 (Pb.rread (L.take j)).nd ∧ nm = .int .i64 (Pb.rread (L.take j)).nm ∧ dp = .int .i64 (Pb.rread (L.take j)).dp
theorem Pw.lower_num (c : UInt8) (h : Pb.numCh c) (w : World) : Calls Tryz.prog 111 #[.int .u8 (c.toNat : Int)] w fun e w' => e = .returned (.int .u8 (c.toNat : Int)) ∧ w = w' := by
  refine (Tryz.internal_strconv_lower _ w).mono ?_
  rintro e w' ⟨rfl, rfl⟩
  refine ⟨?_, rfl⟩
  have : ∀ n : Fin 256, (n.val = 46 ∨ 48 ≤ n.val ∧ n.val ≤ 57) → bits .or .u8 (n.val : Int) 32 = (n.val : Int) := by decide +kernel
  rw [this ⟨c.toNat, c.toNat_lt⟩ h]
def Pw.ReadEnd (L : List UInt8) (w : World) (e : Ending) (w' : World) : Prop :=
  e = .returned (.tuple #[.int .u64 (Pb.rread L).man, .int .i64 ((if (Pb.rread L).dot then (Pb.rread L).dp else (Pb.rread L).nd) - (Pb.rread L).nm), .bool false, .bool (Pb.rread L).tr, .bool false, .int .i64 L.length, .bool true]) ∧ w = w'
set_option maxRecDepth 100000 in
set_option maxHeartbeats 2000000 in
theorem Pw.readFloatC (S : ByteArray) (L : List UInt8) (N : Nat) (hN : N = L.length) (hS : S.size = N) (hb : ∀ j (h : j < L.length) (g : j < S.size), S[j] = L[j]) (hlen : N ≤ 2000) (hL : ∀ c ∈ L, Pb.numCh c) (hne : 0 < N) (h1 : ∀ h : 0 < L.length, 48 ≤ (L[0]).toNat) (hv : 2 < N) (hv0 : ∀ h : 0 < L.length, L[0].toNat = 48)
    (hdot : ∀ j (h : j < L.length), L[j].toNat = 46 → (Pb.rread (L.take j)).dot = false) (hdig : (Pb.rread L).dig = true) (hman : (Pb.rread L).man ≠ 0) (w : World) :
    Calls Tryz.prog 96 #[.string S] w (Pw.ReadEnd L w) := by
  have hchar : ∀ j (h : j < L.length), Pb.numCh L[j] := fun j h => hL _ (List.getElem_mem h)
  have hne2 : 0 < L.length := by omega
  have hneS : 0 < S.size := by omega
  have h0 := hb 0 hne2 hneS
  have k1 := hchar 0 hne2
  replace h1 := h1 hne2
  replace hv0 := hv0 hne2
  obtain ⟨c0, hc0⟩ : ∃ c0, c0 = L[0] := ⟨_, rfl⟩
  rw [← hc0] at h0 h1 k1 hv0
  have t0 : decide ((N : Int) ≤ 0) = false := decide_eq_false (by omega)
  have t1 : ((c0.toNat : Int) == 43) = false := by rw [beq_eq_false_iff_ne]; omega
  have t2 : ((c0.toNat : Int) == 45) = false := by rw [beq_eq_false_iff_ne]; omega
  have t3 : decide ((2 : Int) < (N : Int)) = true := decide_eq_true (by omega)
  have t4 : ((c0.toNat : Int) == 48) = true := by rw [beq_iff_eq]; omega
  have hl2 : 1 < L.length := by omega
  have hl3 : 1 < S.size := by omega
  have h2 := hb 1 hl2 hl3
  have k2 := hchar 1 hl2
  obtain ⟨c1, hc1⟩ : ∃ c1, c1 = L[1] := ⟨_, rfl⟩
  rw [← hc1] at h2 k2
  have t5 : ((c1.toNat : Int) == 120) = false := by rw [beq_eq_false_iff_ne]; obtain h | ⟨h, h'⟩ := k2 <;> omega
  have hlow := Pw.lower_num c1 k2
  clear hc1 k2 hl2
  have HC := Lib.hid hchar
  have HB := Lib.hid hb
  have HD := Lib.hid hdot
  have HV := Lib.hid (And.intro hdig hman)
  have HL := Lib.hid hL
  have HN := Lib.hid hN
  clear hN
  clear hc0 hne2 k1 h1 hchar hb hdot hdig hman hL hv hv0
  go_enter Tryz.func96, Tryz.ntmps96
  go_wp2
  apply wp_scope_straight
  go_wp2_with (go_at_call 111; refine (hlow _).mono ?_; rintro e w1 ⟨rfl, rfl⟩)
  apply wp_label
  go_wp2
  go_loopw [2, 5, 7, 9, 13, 14, 15, 16, 17] (fun m t i un dt dg n nm dp wr => ∃ j : Nat, j ≤ N ∧ i = .int .i64 j ∧ wr = w ∧ un = .bool false ∧ Pw.RL L j m t dt dg n nm dp) (fun _ _ i _ _ _ _ _ _ _ => N - (intOf i).toNat)
  case atStart => exact ⟨0, Nat.zero_le _, rfl, rfl, rfl, rfl, rfl, rfl, rfl, rfl, rfl, rfl⟩
  case round =>
    obtain ⟨j, hj, rfl, rfl, rfl, rfl, rfl, rfl, rfl, rfl, rfl, rfl⟩ := hrel
    by_cases hlt : j < N
    · have hjL : j < L.length := by rw [← HN.out]; exact hlt
      have hjS : j < S.size := by omega
      have hc := HB.out j hjL hjS
      have hk := HC.out j hjL
      have hdj := HD.out j hjL
      have hbd := Pb.rread_bounds (L.take j) (fun c hc => HL.out c (List.mem_of_mem_take hc))
      have htl : (L.take j).length = j := by rw [List.length_take]; omega
      rw [htl] at hbd
      have hsn : Pb.rread (L.take (j + 1)) = Pb.rstep (Pb.rread (L.take j)) L[j].toNat := by rw [List.take_succ_eq_append_getElem hjL, Pb.rread_snoc]
      obtain ⟨c, hcc⟩ : ∃ c, c = L[j] := ⟨_, rfl⟩
      rw [← hcc] at hc hk hdj hsn
      generalize Pb.rread (L.take j) = s at hbd hsn hdj ⊢
      obtain ⟨man, nd, nm, dp, dot, dig, tr⟩ := s
      dsimp only at hbd hdj ⊢
      obtain ⟨cn, hcn⟩ : ∃ cn, cn = c.toNat := ⟨_, rfl⟩
      have hlu : decide ((j : Int) < N) = true := decide_eq_true (by omega)
      have HSN := Lib.hid hsn
      clear hsn hcc htl hjL
      have t95 : ((c.toNat : Int) == 95) = false := by rw [beq_eq_false_iff_ne]; obtain h | ⟨h, h'⟩ := hk <;> omega
      have hk' : c.toNat = 46 ∨ (48 ≤ c.toNat ∧ c.toNat ≤ 57) := hk
      clear hk hcn cn
      rcases hk' with hk | ⟨hk1, hk2⟩
      · have t46 : ((c.toNat : Int) == 46) = true := by rw [beq_iff_eq]; omega
        have hd := hdj hk
        subst hd
        have HK := Lib.hid hk
        clear hdj hk
        go_wp2
        go_roundw
        case rel =>
          refine ⟨j + 1, by omega, by go_num, by first | rfl | trivial, by first | rfl | trivial, ?_⟩
          unfold Pw.RL
          rw [HSN.out]
          unfold Pb.rstep
          rw [if_pos HK.out]
          refine ⟨?_, ?_, ?_, ?_, ?_, ?_, ?_⟩ <;> first | rfl | trivial
        case measure => simp [intOf]; omega
      · have t46 : ((c.toNat : Int) == 46) = false := by rw [beq_eq_false_iff_ne]; omega
        have g46 : c.toNat ≠ 46 := by omega
        have t48 : decide ((48 : Int) ≤ c.toNat) = true := decide_eq_true (by omega)
        have t57 : decide ((c.toNat : Int) ≤ 57) = true := decide_eq_true (by omega)
        have hsub : IntKind.u8.wrap ((c.toNat : Int) - 48) = ((c.toNat - 48 : Nat) : Int) := by
          unfold IntKind.wrap
          simp [IntKind.bits, IntKind.signed]
          omega
        obtain ⟨e, he⟩ : ∃ e, e = c.toNat - 48 := ⟨_, rfl⟩
        have he9 : e ≤ 9 := by omega
        rw [← he] at hsub
        have HE := Lib.hid he
        clear he hdj hk1 hk2
        by_cases h48 : c.toNat = 48
        · have t48b : ((c.toNat : Int) == 48) = true := by rw [beq_iff_eq]; omega
          have t48c : ((c.toNat : Int) != 48) = false := by rw [bne_eq_false_iff_eq]; omega
          by_cases hnd : nd = 0
          · have tnd : ((nd : Int) == 0) = true := by rw [beq_iff_eq]; omega
            have HX := Lib.hid (And.intro g46 (And.intro h48 hnd))
            clear h48 g46 hnd
            go_wp2
            go_roundw
            case rel =>
              refine ⟨j + 1, by omega, by go_num, by first | rfl | trivial, by first | rfl | trivial, ?_⟩
              unfold Pw.RL
              rw [HSN.out]
              unfold Pb.rstep
              rw [if_neg HX.out.1, if_pos HX.out.2]
              refine ⟨?_, ?_, ?_, ?_, ?_, ?_, ?_⟩ <;> first | rfl | trivial | go_num
            case measure => simp [intOf]; omega
          · have tnd : ((nd : Int) == 0) = false := by rw [beq_eq_false_iff_ne]; omega
            by_cases hnm : nm < 19
            · have tnm : decide ((nm : Int) < 19) = true := decide_eq_true (by omega)
              have hm18 : man < 1000000000000000000 := Nat.lt_of_lt_of_le hbd.1 (Nat.le_trans (Nat.pow_le_pow_right (by decide) (show nm ≤ 18 by omega)) (by decide))
              have HX := Lib.hid (And.intro g46 (And.intro (show ¬ (c.toNat = 48 ∧ nd = 0) from fun h => hnd h.2) hnm))
              clear h48 g46 hnd hnm
              go_wp2
              go_roundw
              case rel =>
                refine ⟨j + 1, by omega, by go_num, by first | rfl | trivial, by first | rfl | trivial, ?_⟩
                unfold Pw.RL
                rw [HSN.out]
                unfold Pb.rstep
                rw [if_neg HX.out.1, if_neg HX.out.2.1, if_pos HX.out.2.2, ← HE.out]
                refine ⟨?_, ?_, ?_, ?_, ?_, ?_, ?_⟩ <;> first | rfl | trivial | go_num
              case measure => simp [intOf]; omega
            · have tnm : decide ((nm : Int) < 19) = false := decide_eq_false (by omega)
              have HX := Lib.hid (And.intro g46 (And.intro (show ¬ (c.toNat = 48 ∧ nd = 0) from fun h => hnd h.2) (And.intro hnm h48)))
              clear h48 g46 hnd hnm
              go_wp2
              go_roundw
              case rel =>
                refine ⟨j + 1, by omega, by go_num, by first | rfl | trivial, by first | rfl | trivial, ?_⟩
                unfold Pw.RL
                rw [HSN.out]
                unfold Pb.rstep
                rw [if_neg HX.out.1, if_neg HX.out.2.1, if_neg HX.out.2.2.1, HX.out.2.2.2, show ((48 : Nat) != 48) = false from rfl, Bool.or_false]
                refine ⟨?_, ?_, ?_, ?_, ?_, ?_, ?_⟩ <;> first | rfl | trivial | go_num
              case measure => simp [intOf]; omega
        · have t48b : ((c.toNat : Int) == 48) = false := by rw [beq_eq_false_iff_ne]; omega
          have t48c : ((c.toNat : Int) != 48) = true := by rw [bne_iff_ne]; omega
          by_cases hnm : nm < 19
          · have tnm : decide ((nm : Int) < 19) = true := decide_eq_true (by omega)
            have hm18 : man < 1000000000000000000 := Nat.lt_of_lt_of_le hbd.1 (Nat.le_trans (Nat.pow_le_pow_right (by decide) (show nm ≤ 18 by omega)) (by decide))
            have HX := Lib.hid (And.intro g46 (And.intro (show ¬ (c.toNat = 48 ∧ nd = 0) from fun h => h48 h.1) hnm))
            clear h48 g46 hnm
            go_wp2
            go_roundw
            case rel =>
              refine ⟨j + 1, by omega, by go_num, by first | rfl | trivial, by first | rfl | trivial, ?_⟩
              unfold Pw.RL
              rw [HSN.out]
              unfold Pb.rstep
              rw [if_neg HX.out.1, if_neg HX.out.2.1, if_pos HX.out.2.2, ← HE.out]
              refine ⟨?_, ?_, ?_, ?_, ?_, ?_, ?_⟩ <;> first | rfl | trivial | go_num
            case measure => simp [intOf]; omega
          · have tnm : decide ((nm : Int) < 19) = false := decide_eq_false (by omega)
            have hx : (c.toNat != 48) = true := by rw [bne_iff_ne]; exact h48
            have HX := Lib.hid (And.intro g46 (And.intro (show ¬ (c.toNat = 48 ∧ nd = 0) from fun h => h48 h.1) (And.intro hnm hx)))
            clear h48 g46 hnm hx
            go_wp2
            go_roundw
            case rel =>
              refine ⟨j + 1, by omega, by go_num, by first | rfl | trivial, by first | rfl | trivial, ?_⟩
              unfold Pw.RL
              rw [HSN.out]
              unfold Pb.rstep
              rw [if_neg HX.out.1, if_neg HX.out.2.1, if_neg HX.out.2.2.1, HX.out.2.2.2, Bool.or_true]
              refine ⟨?_, ?_, ?_, ?_, ?_, ?_, ?_⟩ <;> first | rfl | trivial | go_num
            case measure => simp [intOf]; omega
    · have hjN : j = N := by omega
      have htk : L.take j = L := List.take_of_length_le (by rw [← HN.out]; omega)
      rw [htk, hjN]
      obtain ⟨hdig, hman⟩ := HV.out
      have hbd := Pb.rread_bounds L HL.out
      rw [← HN.out] at hbd
      obtain ⟨s, hs⟩ : ∃ s, s = Pb.rread L := ⟨_, rfl⟩
      rw [← hs] at hbd hdig hman ⊢
      have HS := Lib.hid hs
      clear hs htk
      obtain ⟨man, nd, nm, dp, dot, dig, tr⟩ := s
      dsimp only at hbd hdig hman ⊢
      subst hdig
      have tman : ((man : Int) != 0) = true := by rw [bne_iff_ne]; omega
      have hlu : decide ((N : Int) < N) = false := decide_eq_false (by omega)
      cases dot
      · go_wp2
        rw [Exit.noGoto_ret]
        refine bodyPost_ret (Pw.results_tmp7 rfl _ _ _) rfl ?_
        unfold Pw.ReadEnd
        rw [← HS.out, ← HN.out]
        exact ⟨rfl, rfl⟩
      · go_wp2
        rw [Exit.noGoto_ret]
        refine bodyPost_ret (Pw.results_tmp7 rfl _ _ _) rfl ?_
        unfold Pw.ReadEnd
        rw [← HS.out, ← HN.out]
        exact ⟨rfl, rfl⟩
set_option maxRecDepth 100000 in
set_option maxHeartbeats 2000000 in
theorem Pw.readFloatB (S : ByteArray) (L : List UInt8) (N : Nat) (hN : N = L.length) (hS : S.size = N) (hb : ∀ j (h : j < L.length) (g : j < S.size), S[j] = L[j]) (hlen : N ≤ 2000) (hL : ∀ c ∈ L, Pb.numCh c) (hne : 0 < N) (h1 : ∀ h : 0 < L.length, 48 ≤ (L[0]).toNat) (hv : 2 < N) (hv0 : ∀ h : 0 < L.length, L[0].toNat ≠ 48)
    (hdot : ∀ j (h : j < L.length), L[j].toNat = 46 → (Pb.rread (L.take j)).dot = false) (hdig : (Pb.rread L).dig = true) (hman : (Pb.rread L).man ≠ 0) (w : World) :
    Calls Tryz.prog 96 #[.string S] w (Pw.ReadEnd L w) := by
  have hchar : ∀ j (h : j < L.length), Pb.numCh L[j] := fun j h => hL _ (List.getElem_mem h)
  have hne2 : 0 < L.length := by omega
  have hneS : 0 < S.size := by omega
  have h0 := hb 0 hne2 hneS
  have k1 := hchar 0 hne2
  replace h1 := h1 hne2
  replace hv0 := hv0 hne2
  obtain ⟨c0, hc0⟩ : ∃ c0, c0 = L[0] := ⟨_, rfl⟩
  rw [← hc0] at h0 h1 k1 hv0
  have t0 : decide ((N : Int) ≤ 0) = false := decide_eq_false (by omega)
  have t1 : ((c0.toNat : Int) == 43) = false := by rw [beq_eq_false_iff_ne]; omega
  have t2 : ((c0.toNat : Int) == 45) = false := by rw [beq_eq_false_iff_ne]; omega
  have t3 : decide ((2 : Int) < (N : Int)) = true := decide_eq_true (by omega)
  have t4 : ((c0.toNat : Int) == 48) = false := by rw [beq_eq_false_iff_ne]; omega
  have HC := Lib.hid hchar
  have HB := Lib.hid hb
  have HD := Lib.hid hdot
  have HV := Lib.hid (And.intro hdig hman)
  have HL := Lib.hid hL
  have HN := Lib.hid hN
  clear hN
  clear hc0 hne2 k1 h1 hchar hb hdot hdig hman hL hv hv0
  go_enter Tryz.func96, Tryz.ntmps96
  go_wp2
  apply wp_scope_straight
  go_wp2
  apply wp_label
  go_wp2
  go_loopw [2, 5, 7, 9, 13, 14, 15, 16, 17] (fun m t i un dt dg n nm dp wr => ∃ j : Nat, j ≤ N ∧ i = .int .i64 j ∧ wr = w ∧ un = .bool false ∧ Pw.RL L j m t dt dg n nm dp) (fun _ _ i _ _ _ _ _ _ _ => N - (intOf i).toNat)
  case atStart => exact ⟨0, Nat.zero_le _, rfl, rfl, rfl, rfl, rfl, rfl, rfl, rfl, rfl, rfl⟩
  case round =>
    obtain ⟨j, hj, rfl, rfl, rfl, rfl, rfl, rfl, rfl, rfl, rfl, rfl⟩ := hrel
    by_cases hlt : j < N
    · have hjL : j < L.length := by rw [← HN.out]; exact hlt
      have hjS : j < S.size := by omega
      have hc := HB.out j hjL hjS
      have hk := HC.out j hjL
      have hdj := HD.out j hjL
      have hbd := Pb.rread_bounds (L.take j) (fun c hc => HL.out c (List.mem_of_mem_take hc))
      have htl : (L.take j).length = j := by rw [List.length_take]; omega
      rw [htl] at hbd
      have hsn : Pb.rread (L.take (j + 1)) = Pb.rstep (Pb.rread (L.take j)) L[j].toNat := by rw [List.take_succ_eq_append_getElem hjL, Pb.rread_snoc]
      obtain ⟨c, hcc⟩ : ∃ c, c = L[j] := ⟨_, rfl⟩
      rw [← hcc] at hc hk hdj hsn
      generalize Pb.rread (L.take j) = s at hbd hsn hdj ⊢
      obtain ⟨man, nd, nm, dp, dot, dig, tr⟩ := s
      dsimp only at hbd hdj ⊢
      obtain ⟨cn, hcn⟩ : ∃ cn, cn = c.toNat := ⟨_, rfl⟩
      have hlu : decide ((j : Int) < N) = true := decide_eq_true (by omega)
      have HSN := Lib.hid hsn
      clear hsn hcc htl hjL
      have t95 : ((c.toNat : Int) == 95) = false := by rw [beq_eq_false_iff_ne]; obtain h | ⟨h, h'⟩ := hk <;> omega
      have hk' : c.toNat = 46 ∨ (48 ≤ c.toNat ∧ c.toNat ≤ 57) := hk
      clear hk hcn cn
      rcases hk' with hk | ⟨hk1, hk2⟩
      · have t46 : ((c.toNat : Int) == 46) = true := by rw [beq_iff_eq]; omega
        have hd := hdj hk
        subst hd
        have HK := Lib.hid hk
        clear hdj hk
        go_wp2
        go_roundw
        case rel =>
          refine ⟨j + 1, by omega, by go_num, by first | rfl | trivial, by first | rfl | trivial, ?_⟩
          unfold Pw.RL
          rw [HSN.out]
          unfold Pb.rstep
          rw [if_pos HK.out]
          refine ⟨?_, ?_, ?_, ?_, ?_, ?_, ?_⟩ <;> first | rfl | trivial
        case measure => simp [intOf]; omega
      · have t46 : ((c.toNat : Int) == 46) = false := by rw [beq_eq_false_iff_ne]; omega
        have g46 : c.toNat ≠ 46 := by omega
        have t48 : decide ((48 : Int) ≤ c.toNat) = true := decide_eq_true (by omega)
        have t57 : decide ((c.toNat : Int) ≤ 57) = true := decide_eq_true (by omega)
        have hsub : IntKind.u8.wrap ((c.toNat : Int) - 48) = ((c.toNat - 48 : Nat) : Int) := by
          unfold IntKind.wrap
          simp [IntKind.bits, IntKind.signed]
          omega
        obtain ⟨e, he⟩ : ∃ e, e = c.toNat - 48 := ⟨_, rfl⟩
        have he9 : e ≤ 9 := by omega
        rw [← he] at hsub
        have HE := Lib.hid he
        clear he hdj hk1 hk2
        by_cases h48 : c.toNat = 48
        · have t48b : ((c.toNat : Int) == 48) = true := by rw [beq_iff_eq]; omega
          have t48c : ((c.toNat : Int) != 48) = false := by rw [bne_eq_false_iff_eq]; omega
          by_cases hnd : nd = 0
          · have tnd : ((nd : Int) == 0) = true := by rw [beq_iff_eq]; omega
            have HX := Lib.hid (And.intro g46 (And.intro h48 hnd))
            clear h48 g46 hnd
            go_wp2
            go_roundw
            case rel =>
              refine ⟨j + 1, by omega, by go_num, by first | rfl | trivial, by first | rfl | trivial, ?_⟩
              unfold Pw.RL
              rw [HSN.out]
              unfold Pb.rstep
              rw [if_neg HX.out.1, if_pos HX.out.2]
              refine ⟨?_, ?_, ?_, ?_, ?_, ?_, ?_⟩ <;> first | rfl | trivial | go_num
            case measure => simp [intOf]; omega
          · have tnd : ((nd : Int) == 0) = false := by rw [beq_eq_false_iff_ne]; omega
            by_cases hnm : nm < 19
            · have tnm : decide ((nm : Int) < 19) = true := decide_eq_true (by omega)
              have hm18 : man < 1000000000000000000 := Nat.lt_of_lt_of_le hbd.1 (Nat.le_trans (Nat.pow_le_pow_right (by decide) (show nm ≤ 18 by omega)) (by decide))
              have HX := Lib.hid (And.intro g46 (And.intro (show ¬ (c.toNat = 48 ∧ nd = 0) from fun h => hnd h.2) hnm))
              clear h48 g46 hnd hnm
              go_wp2
              go_roundw
              case rel =>
                refine ⟨j + 1, by omega, by go_num, by first | rfl | trivial, by first | rfl | trivial, ?_⟩
                unfold Pw.RL
                rw [HSN.out]
                unfold Pb.rstep
                rw [if_neg HX.out.1, if_neg HX.out.2.1, if_pos HX.out.2.2, ← HE.out]
                refine ⟨?_, ?_, ?_, ?_, ?_, ?_, ?_⟩ <;> first | rfl | trivial | go_num
              case measure => simp [intOf]; omega
            · have tnm : decide ((nm : Int) < 19) = false := decide_eq_false (by omega)
              have HX := Lib.hid (And.intro g46 (And.intro (show ¬ (c.toNat = 48 ∧ nd = 0) from fun h => hnd h.2) (And.intro hnm h48)))
              clear h48 g46 hnd hnm
              go_wp2
              go_roundw
              case rel =>
                refine ⟨j + 1, by omega, by go_num, by first | rfl | trivial, by first | rfl | trivial, ?_⟩
                unfold Pw.RL
                rw [HSN.out]
                unfold Pb.rstep
                rw [if_neg HX.out.1, if_neg HX.out.2.1, if_neg HX.out.2.2.1, HX.out.2.2.2, show ((48 : Nat) != 48) = false from rfl, Bool.or_false]
                refine ⟨?_, ?_, ?_, ?_, ?_, ?_, ?_⟩ <;> first | rfl | trivial | go_num
              case measure => simp [intOf]; omega
        · have t48b : ((c.toNat : Int) == 48) = false := by rw [beq_eq_false_iff_ne]; omega
          have t48c : ((c.toNat : Int) != 48) = true := by rw [bne_iff_ne]; omega
          by_cases hnm : nm < 19
          · have tnm : decide ((nm : Int) < 19) = true := decide_eq_true (by omega)
            have hm18 : man < 1000000000000000000 := Nat.lt_of_lt_of_le hbd.1 (Nat.le_trans (Nat.pow_le_pow_right (by decide) (show nm ≤ 18 by omega)) (by decide))
            have HX := Lib.hid (And.intro g46 (And.intro (show ¬ (c.toNat = 48 ∧ nd = 0) from fun h => h48 h.1) hnm))
            clear h48 g46 hnm
            go_wp2
            go_roundw
            case rel =>
              refine ⟨j + 1, by omega, by go_num, by first | rfl | trivial, by first | rfl | trivial, ?_⟩
              unfold Pw.RL
              rw [HSN.out]
              unfold Pb.rstep
              rw [if_neg HX.out.1, if_neg HX.out.2.1, if_pos HX.out.2.2, ← HE.out]
              refine ⟨?_, ?_, ?_, ?_, ?_, ?_, ?_⟩ <;> first | rfl | trivial | go_num
            case measure => simp [intOf]; omega
          · have tnm : decide ((nm : Int) < 19) = false := decide_eq_false (by omega)
            have hx : (c.toNat != 48) = true := by rw [bne_iff_ne]; exact h48
            have HX := Lib.hid (And.intro g46 (And.intro (show ¬ (c.toNat = 48 ∧ nd = 0) from fun h => h48 h.1) (And.intro hnm hx)))
            clear h48 g46 hnm hx
            go_wp2
            go_roundw
            case rel =>
              refine ⟨j + 1, by omega, by go_num, by first | rfl | trivial, by first | rfl | trivial, ?_⟩
              unfold Pw.RL
              rw [HSN.out]
              unfold Pb.rstep
              rw [if_neg HX.out.1, if_neg HX.out.2.1, if_neg HX.out.2.2.1, HX.out.2.2.2, Bool.or_true]
              refine ⟨?_, ?_, ?_, ?_, ?_, ?_, ?_⟩ <;> first | rfl | trivial | go_num
            case measure => simp [intOf]; omega
    · have hjN : j = N := by omega
      have htk : L.take j = L := List.take_of_length_le (by rw [← HN.out]; omega)
      rw [htk, hjN]
      obtain ⟨hdig, hman⟩ := HV.out
      have hbd := Pb.rread_bounds L HL.out
      rw [← HN.out] at hbd
      obtain ⟨s, hs⟩ : ∃ s, s = Pb.rread L := ⟨_, rfl⟩
      rw [← hs] at hbd hdig hman ⊢
      have HS := Lib.hid hs
      clear hs htk
      obtain ⟨man, nd, nm, dp, dot, dig, tr⟩ := s
      dsimp only at hbd hdig hman ⊢
      subst hdig
      have tman : ((man : Int) != 0) = true := by rw [bne_iff_ne]; omega
      have hlu : decide ((N : Int) < N) = false := decide_eq_false (by omega)
      cases dot
      · go_wp2
        rw [Exit.noGoto_ret]
        refine bodyPost_ret (Pw.results_tmp7 rfl _ _ _) rfl ?_
        unfold Pw.ReadEnd
        rw [← HS.out, ← HN.out]
        exact ⟨rfl, rfl⟩
      · go_wp2
        rw [Exit.noGoto_ret]
        refine bodyPost_ret (Pw.results_tmp7 rfl _ _ _) rfl ?_
        unfold Pw.ReadEnd
        rw [← HS.out, ← HN.out]
        exact ⟨rfl, rfl⟩
set_option maxRecDepth 100000 in
set_option maxHeartbeats 2000000 in
theorem Pw.readFloatA (S : ByteArray) (L : List UInt8) (N : Nat) (hN : N = L.length) (hS : S.size = N) (hb : ∀ j (h : j < L.length) (g : j < S.size), S[j] = L[j]) (hlen : N ≤ 2000) (hL : ∀ c ∈ L, Pb.numCh c) (hne : 0 < N) (h1 : ∀ h : 0 < L.length, 48 ≤ (L[0]).toNat) (hv : N ≤ 2)
    (hdot : ∀ j (h : j < L.length), L[j].toNat = 46 → (Pb.rread (L.take j)).dot = false) (hdig : (Pb.rread L).dig = true) (hman : (Pb.rread L).man ≠ 0) (w : World) :
    Calls Tryz.prog 96 #[.string S] w (Pw.ReadEnd L w) := by
  have hchar : ∀ j (h : j < L.length), Pb.numCh L[j] := fun j h => hL _ (List.getElem_mem h)
  have hne2 : 0 < L.length := by omega
  have hneS : 0 < S.size := by omega
  have h0 := hb 0 hne2 hneS
  have k1 := hchar 0 hne2
  replace h1 := h1 hne2
  obtain ⟨c0, hc0⟩ : ∃ c0, c0 = L[0] := ⟨_, rfl⟩
  rw [← hc0] at h0 h1 k1
  have t0 : decide ((N : Int) ≤ 0) = false := decide_eq_false (by omega)
  have t1 : ((c0.toNat : Int) == 43) = false := by rw [beq_eq_false_iff_ne]; omega
  have t2 : ((c0.toNat : Int) == 45) = false := by rw [beq_eq_false_iff_ne]; omega
  have t3 : decide ((2 : Int) < (N : Int)) = false := decide_eq_false (by omega)
  have HC := Lib.hid hchar
  have HB := Lib.hid hb
  have HD := Lib.hid hdot
  have HV := Lib.hid (And.intro hdig hman)
  have HL := Lib.hid hL
  have HN := Lib.hid hN
  clear hN
  clear hc0 hne2 k1 h1 hchar hb hdot hdig hman hL hv
  go_enter Tryz.func96, Tryz.ntmps96
  go_wp2
  apply wp_scope_straight
  go_wp2
  apply wp_label
  go_wp2
  go_loopw [2, 5, 7, 9, 13, 14, 15, 16, 17] (fun m t i un dt dg n nm dp wr => ∃ j : Nat, j ≤ N ∧ i = .int .i64 j ∧ wr = w ∧ un = .bool false ∧ Pw.RL L j m t dt dg n nm dp) (fun _ _ i _ _ _ _ _ _ _ => N - (intOf i).toNat)
  case atStart => exact ⟨0, Nat.zero_le _, rfl, rfl, rfl, rfl, rfl, rfl, rfl, rfl, rfl, rfl⟩
  case round =>
    obtain ⟨j, hj, rfl, rfl, rfl, rfl, rfl, rfl, rfl, rfl, rfl, rfl⟩ := hrel
    by_cases hlt : j < N
    · have hjL : j < L.length := by rw [← HN.out]; exact hlt
      have hjS : j < S.size := by omega
      have hc := HB.out j hjL hjS
      have hk := HC.out j hjL
      have hdj := HD.out j hjL
      have hbd := Pb.rread_bounds (L.take j) (fun c hc => HL.out c (List.mem_of_mem_take hc))
      have htl : (L.take j).length = j := by rw [List.length_take]; omega
      rw [htl] at hbd
      have hsn : Pb.rread (L.take (j + 1)) = Pb.rstep (Pb.rread (L.take j)) L[j].toNat := by rw [List.take_succ_eq_append_getElem hjL, Pb.rread_snoc]
      obtain ⟨c, hcc⟩ : ∃ c, c = L[j] := ⟨_, rfl⟩
      rw [← hcc] at hc hk hdj hsn
      generalize Pb.rread (L.take j) = s at hbd hsn hdj ⊢
      obtain ⟨man, nd, nm, dp, dot, dig, tr⟩ := s
      dsimp only at hbd hdj ⊢
      obtain ⟨cn, hcn⟩ : ∃ cn, cn = c.toNat := ⟨_, rfl⟩
      have hlu : decide ((j : Int) < N) = true := decide_eq_true (by omega)
      have HSN := Lib.hid hsn
      clear hsn hcc htl hjL
      have t95 : ((c.toNat : Int) == 95) = false := by rw [beq_eq_false_iff_ne]; obtain h | ⟨h, h'⟩ := hk <;> omega
      have hk' : c.toNat = 46 ∨ (48 ≤ c.toNat ∧ c.toNat ≤ 57) := hk
      clear hk hcn cn
      rcases hk' with hk | ⟨hk1, hk2⟩
      · have t46 : ((c.toNat : Int) == 46) = true := by rw [beq_iff_eq]; omega
        have hd := hdj hk
        subst hd
        have HK := Lib.hid hk
        clear hdj hk
        go_wp2
        go_roundw
        case rel =>
          refine ⟨j + 1, by omega, by go_num, by first | rfl | trivial, by first | rfl | trivial, ?_⟩
          unfold Pw.RL
          rw [HSN.out]
          unfold Pb.rstep
          rw [if_pos HK.out]
          refine ⟨?_, ?_, ?_, ?_, ?_, ?_, ?_⟩ <;> first | rfl | trivial
        case measure => simp [intOf]; omega
      · have t46 : ((c.toNat : Int) == 46) = false := by rw [beq_eq_false_iff_ne]; omega
        have g46 : c.toNat ≠ 46 := by omega
        have t48 : decide ((48 : Int) ≤ c.toNat) = true := decide_eq_true (by omega)
        have t57 : decide ((c.toNat : Int) ≤ 57) = true := decide_eq_true (by omega)
        have hsub : IntKind.u8.wrap ((c.toNat : Int) - 48) = ((c.toNat - 48 : Nat) : Int) := by
          unfold IntKind.wrap
          simp [IntKind.bits, IntKind.signed]
          omega
        obtain ⟨e, he⟩ : ∃ e, e = c.toNat - 48 := ⟨_, rfl⟩
        have he9 : e ≤ 9 := by omega
        rw [← he] at hsub
        have HE := Lib.hid he
        clear he hdj hk1 hk2
        by_cases h48 : c.toNat = 48
        · have t48b : ((c.toNat : Int) == 48) = true := by rw [beq_iff_eq]; omega
          have t48c : ((c.toNat : Int) != 48) = false := by rw [bne_eq_false_iff_eq]; omega
          by_cases hnd : nd = 0
          · have tnd : ((nd : Int) == 0) = true := by rw [beq_iff_eq]; omega
            have HX := Lib.hid (And.intro g46 (And.intro h48 hnd))
            clear h48 g46 hnd
            go_wp2
            go_roundw
            case rel =>
              refine ⟨j + 1, by omega, by go_num, by first | rfl | trivial, by first | rfl | trivial, ?_⟩
              unfold Pw.RL
              rw [HSN.out]
              unfold Pb.rstep
              rw [if_neg HX.out.1, if_pos HX.out.2]
              refine ⟨?_, ?_, ?_, ?_, ?_, ?_, ?_⟩ <;> first | rfl | trivial | go_num
            case measure => simp [intOf]; omega
          · have tnd : ((nd : Int) == 0) = false := by rw [beq_eq_false_iff_ne]; omega
            by_cases hnm : nm < 19
            · have tnm : decide ((nm : Int) < 19) = true := decide_eq_true (by omega)
              have hm18 : man < 1000000000000000000 := Nat.lt_of_lt_of_le hbd.1 (Nat.le_trans (Nat.pow_le_pow_right (by decide) (show nm ≤ 18 by omega)) (by decide))
              have HX := Lib.hid (And.intro g46 (And.intro (show ¬ (c.toNat = 48 ∧ nd = 0) from fun h => hnd h.2) hnm))
              clear h48 g46 hnd hnm
              go_wp2
              go_roundw
              case rel =>
                refine ⟨j + 1, by omega, by go_num, by first | rfl | trivial, by first | rfl | trivial, ?_⟩
                unfold Pw.RL
                rw [HSN.out]
                unfold Pb.rstep
                rw [if_neg HX.out.1, if_neg HX.out.2.1, if_pos HX.out.2.2, ← HE.out]
                refine ⟨?_, ?_, ?_, ?_, ?_, ?_, ?_⟩ <;> first | rfl | trivial | go_num
              case measure => simp [intOf]; omega
            · have tnm : decide ((nm : Int) < 19) = false := decide_eq_false (by omega)
              have HX := Lib.hid (And.intro g46 (And.intro (show ¬ (c.toNat = 48 ∧ nd = 0) from fun h => hnd h.2) (And.intro hnm h48)))
              clear h48 g46 hnd hnm
              go_wp2
              go_roundw
              case rel =>
                refine ⟨j + 1, by omega, by go_num, by first | rfl | trivial, by first | rfl | trivial, ?_⟩
                unfold Pw.RL
                rw [HSN.out]
                unfold Pb.rstep
                rw [if_neg HX.out.1, if_neg HX.out.2.1, if_neg HX.out.2.2.1, HX.out.2.2.2, show ((48 : Nat) != 48) = false from rfl, Bool.or_false]
                refine ⟨?_, ?_, ?_, ?_, ?_, ?_, ?_⟩ <;> first | rfl | trivial | go_num
              case measure => simp [intOf]; omega
        · have t48b : ((c.toNat : Int) == 48) = false := by rw [beq_eq_false_iff_ne]; omega
          have t48c : ((c.toNat : Int) != 48) = true := by rw [bne_iff_ne]; omega
          by_cases hnm : nm < 19
          · have tnm : decide ((nm : Int) < 19) = true := decide_eq_true (by omega)
            have hm18 : man < 1000000000000000000 := Nat.lt_of_lt_of_le hbd.1 (Nat.le_trans (Nat.pow_le_pow_right (by decide) (show nm ≤ 18 by omega)) (by decide))
            have HX := Lib.hid (And.intro g46 (And.intro (show ¬ (c.toNat = 48 ∧ nd = 0) from fun h => h48 h.1) hnm))
            clear h48 g46 hnm
            go_wp2
            go_roundw
            case rel =>
              refine ⟨j + 1, by omega, by go_num, by first | rfl | trivial, by first | rfl | trivial, ?_⟩
              unfold Pw.RL
              rw [HSN.out]
              unfold Pb.rstep
              rw [if_neg HX.out.1, if_neg HX.out.2.1, if_pos HX.out.2.2, ← HE.out]
              refine ⟨?_, ?_, ?_, ?_, ?_, ?_, ?_⟩ <;> first | rfl | trivial | go_num
            case measure => simp [intOf]; omega
          · have tnm : decide ((nm : Int) < 19) = false := decide_eq_false (by omega)
            have hx : (c.toNat != 48) = true := by rw [bne_iff_ne]; exact h48
            have HX := Lib.hid (And.intro g46 (And.intro (show ¬ (c.toNat = 48 ∧ nd = 0) from fun h => h48 h.1) (And.intro hnm hx)))
            clear h48 g46 hnm hx
            go_wp2
            go_roundw
            case rel =>
              refine ⟨j + 1, by omega, by go_num, by first | rfl | trivial, by first | rfl | trivial, ?_⟩
              unfold Pw.RL
              rw [HSN.out]
              unfold Pb.rstep
              rw [if_neg HX.out.1, if_neg HX.out.2.1, if_neg HX.out.2.2.1, HX.out.2.2.2, Bool.or_true]
              refine ⟨?_, ?_, ?_, ?_, ?_, ?_, ?_⟩ <;> first | rfl | trivial | go_num
            case measure => simp [intOf]; omega
    · have hjN : j = N := by omega
      have htk : L.take j = L := List.take_of_length_le (by rw [← HN.out]; omega)
      rw [htk, hjN]
      obtain ⟨hdig, hman⟩ := HV.out
      have hbd := Pb.rread_bounds L HL.out
      rw [← HN.out] at hbd
      obtain ⟨s, hs⟩ : ∃ s, s = Pb.rread L := ⟨_, rfl⟩
      rw [← hs] at hbd hdig hman ⊢
      have HS := Lib.hid hs
      clear hs htk
      obtain ⟨man, nd, nm, dp, dot, dig, tr⟩ := s
      dsimp only at hbd hdig hman ⊢
      subst hdig
      have tman : ((man : Int) != 0) = true := by rw [bne_iff_ne]; omega
      have hlu : decide ((N : Int) < N) = false := decide_eq_false (by omega)
      cases dot
      · go_wp2
        rw [Exit.noGoto_ret]
        refine bodyPost_ret (Pw.results_tmp7 rfl _ _ _) rfl ?_
        unfold Pw.ReadEnd
        rw [← HS.out, ← HN.out]
        exact ⟨rfl, rfl⟩
      · go_wp2
        rw [Exit.noGoto_ret]
        refine bodyPost_ret (Pw.results_tmp7 rfl _ _ _) rfl ?_
        unfold Pw.ReadEnd
        rw [← HS.out, ← HN.out]
        exact ⟨rfl, rfl⟩
theorem Pw.readFloat (S : ByteArray) (L : List UInt8) (hSL : S = ⟨L.toArray⟩) (hlen : L.length ≤ 2000) (hL : ∀ c ∈ L, Pb.numCh c) (c : UInt8) (l : List UInt8) (hcl : L = c :: l) (h1 : 48 ≤ c.toNat)
    (hdot : ∀ j (h : j < L.length), L[j].toNat = 46 → (Pb.rread (L.take j)).dot = false) (hdig : (Pb.rread L).dig = true) (hman : (Pb.rread L).man ≠ 0) (w : World) :
    Calls Tryz.prog 96 #[.string S] w (Pw.ReadEnd L w) := by
  have hS : S.size = L.length := by rw [hSL]; simp [ByteArray.size]
  have hb : ∀ j (h : j < L.length) (g : j < S.size), S[j] = L[j] := by
    intro j h g
    subst hSL
    simp [ByteArray.getElem_eq_getElem_data]
  have hne : 0 < L.length := by rw [hcl]; simp
  have h0 : ∀ h : 0 < L.length, L[0] = c := by intro h; simp [hcl]
  by_cases h2 : 2 < L.length
  · by_cases h48 : c.toNat = 48
    · exact Pw.readFloatC S L _ rfl hS hb hlen hL hne (fun h => by rw [h0 h]; exact h1) h2 (fun h => by rw [h0 h]; exact h48) hdot hdig hman w
    · exact Pw.readFloatB S L _ rfl hS hb hlen hL hne (fun h => by rw [h0 h]; exact h1) h2 (fun h => by rw [h0 h]; exact h48) hdot hdig hman w
  · exact Pw.readFloatA S L _ rfl hS hb hlen hL hne (fun h => by rw [h0 h]; exact h1) (by omega) hdot hdig hman w
end Go.Proofs

/- Part of the proof of FnPlaceBack: walk: ReadPlace, and the law itself. No condition. -/
import Derived.Test.YtmhpnnbfnbaekaaGreatDoorMS29
import Derived.Test.YtmhpnnbfnbaekaaGreatDoorMW13cd
namespace Go.Proofs
open Go Go.RowKit
set_option maxRecDepth 100000 in
theorem Pw.readPlace (x y z m t : Nat) (ht : t ≤ 3) (hf : ∀ b ∈ Pw.numsOf x y z m t, Pw.fin b) (eb : Addr) (w : World) (hP : Pw.PowTab w) (hF : Pw.FloatVars w) (he : w.cell? ⟨2, 0, none⟩ = some (.iface 183 (.pointer (some eb)))) (h6 : ∀ c, c < 128 → w.cell? ⟨6, c, none⟩ = some (.int .u8 240)) :
    Calls Tryz.prog 6 #[.string ⟨(Pw.placeText x y z m t).toArray⟩, .int .i64 t] w fun e w' => ∃ v : Value, e = .returned (.tuple #[v, .bool true]) ∧ Pw.Fl w.heap.size v (Pw.numsOf x y z m t) w' ∧ Below w.heap.size w w' := by
  have hsz := hP.1
  have hlen := Pw.numsOf_length x y z m t ht
  have hjl := Pw.joined_length _ hf
  obtain ⟨bs, hbs⟩ : ∃ bs, bs = Pw.numsOf x y z m t := ⟨_, rfl⟩
  rw [Pw.placeText_eq]
  rw [← hbs] at hf hlen hjl ⊢
  have hsize : (⟨(Pw.joined bs).toArray⟩ : ByteArray).size = (Pw.joined bs).length := by simp [ByteArray.size]
  have hN : (⟨(Pw.joined bs).toArray⟩ : ByteArray).size ≤ 1000000 := by rw [hsize]; omega
  have hsg : ∀ i (h : i < (⟨(Pw.joined bs).toArray⟩ : ByteArray).size), 32 ≤ ((⟨(Pw.joined bs).toArray⟩ : ByteArray)[i]'h).toNat ∧ ((⟨(Pw.joined bs).toArray⟩ : ByteArray)[i]'h).toNat < 64 := fun i h => by
    have e : (⟨(Pw.joined bs).toArray⟩ : ByteArray)[i]'h = (Pw.joined bs)[i]'(by omega) := rfl
    rw [e]
    exact Pw.joined_signs bs hf _ (List.getElem_mem _)
  let E : Env := { B := w.heap.size, b := w.heap.size + 3, rb := w.heap.size + 2, S := ⟨(Pw.joined bs).toArray⟩, eof := eb, hB := by omega, hrb := by omega, hne := by omega, hN := hN, h6 := by omega, signs := hsg }
  have hTb : Tb E w := ⟨hP, hF, rfl⟩
  have hL : Pw.Lits E w 0 bs := Pw.lits E w (Pw.joined bs) rfl hTb bs 0 0 hf (by simp)
  have h12 := Pw.doorPlace E w hTb rfl rfl he h6 t ht bs hlen hL
  have h13 := Pw.dimOf t ht
  have hES : E.S = ⟨(Pw.joined bs).toArray⟩ := rfl
  rw [hES] at h12
  clear hL hTb hES
  clear E
  clear hf hlen hjl hbs hsize hN hsg hP hF he h6 hsz
  generalize (⟨(Pw.joined bs).toArray⟩ : ByteArray) = S at h12 ⊢
  unfold Pw.PlaceEnd at h12
  go_enter Tryz.func6, Tryz.ntmps6
  go_wp2_with (first
    | (go_at_call 13; refine (h13 _).mono ?_; rintro e w1 ⟨rfl, rfl⟩)
    | (go_at_call 12; refine h12.mono ?_; rintro e w1 ⟨v, rfl, hFl, hbl⟩; have H := Lib.hid (And.intro hFl hbl); clear hFl hbl h12))
  go_region
  go_wp2
  go_ret2
  exact ⟨v, rfl, H.out.1, H.out.2.drew⟩
/-- A row of floats, looked into. -/
theorem Pw.Fl.look {B n : Nat} {v : Value} {xs : List Nat} {w : World} (h : Pw.Fl B v xs w) (hne : xs ≠ []) (hn : n = xs.length) : ∃ g cap, v = .slice (some ⟨g, 0, none⟩) n cap ∧ B ≤ g ∧ g < w.heap.size ∧ ∀ i, i < n → w.cell? ⟨g, i, none⟩ = some (.float .f64 (xs.getD i 0)) := by
  subst hn
  obtain ⟨⟨h1, h2⟩, -⟩ := h
  rcases h2 with ⟨-, h0⟩ | ⟨g, cap, cur, rfl, hBg, hg, hn, -, hcs, htk⟩
  · exact absurd (List.eq_nil_of_length_eq_zero h0) hne
  · refine ⟨g, cap, rfl, hBg, Lib.lt_of_heap hg, fun i hi => ?_⟩
    rw [cell_of_row _ _ _ _ _ _ hg, ← Array.getElem?_toList]
    have e : (cur.toList.take (xs.length * 1))[i]? = (xs.map (Value.float .f64))[i]? := by rw [htk]
    rw [List.getElem?_take, if_pos (by omega)] at e
    rw [e, List.getElem?_map, List.getElem?_eq_getElem hi, List.getD_eq_getElem?_getD, List.getElem?_eq_getElem hi]
    rfl
end Go.Proofs
namespace Go.Proofs
open Go Go.RowKit
/-- What the law's callees read of the library's variables. -/
structure Pw.Vars (eb : Addr) (w : World) : Prop where
  pow : Pw.PowTab w
  tab : Lib.TabIs Tryz.prog w "internal/strconv.uint64pow10" .u64 Lib.pow10Tab
  flo : Pw.FloatVars w
  eof : w.cell? ⟨2, 0, none⟩ = some (.iface 183 (.pointer (some eb)))
  utf : ∀ c, c < 128 → w.cell? ⟨6, c, none⟩ = some (.int .u8 240)
theorem Pw.Vars.keep {eb : Addr} {w w' : World} (h : Pw.Vars eb w) (hg : w.grownBy w' none) : Pw.Vars eb w' := by
  refine ⟨h.pow.keep hg, Pw.tabIs_keep h.tab hg, ?_, hg.cell h.eof (by simp), fun c hc => hg.cell (h.utf c hc) (by simp)⟩
  obtain ⟨h1, h2, tb, off, cap, h3, h4⟩ := h.flo
  exact ⟨hg.cell h1 (by simp), hg.cell h2 (by simp), tb, off, cap, hg.cell h3 (by simp), fun i hi => hg.cell (h4 i hi) (by simp)⟩
/-- Finite, as the law's test says it. -/
def Pw.okB (b : Nat) : Bool := !(FloatKind.f64.format.order b b != some .eq) && !(FloatKind.f64.format.order (b % 9223372036854775808) 9218868437227405311 == some .gt)
theorem Pw.okB_fin {b : Nat} (h : b < 18446744073709551616) (hg : Pw.okB b = true) : Pw.fin b := ⟨h, by have e52 : (2 : Nat) ^ 52 = 4503599627370496 := rfl; rw [e52]; exact Pb.fin_of h hg⟩
def Pw.LawEnd (w : World) (e : Ending) (w' : World) : Prop := e = .returned (.bool true) ∧ w.grownBy w' none
set_option maxRecDepth 100000 in
theorem Pw.lawOut (x y z m : Nat) (t : Int) (ht : t < 0 ∨ 3 < t) (w : World) :
    Calls Tryz.prog 3 #[.agg #[.float .f64 x, .float .f64 y, .float .f64 z, .float .f64 m, .int .i64 t]] w (Pw.LawEnd w) := by
  unfold Pw.LawEnd
  rcases ht with ht | ht
  · have t1 : decide (t < 0) = true := decide_eq_true ht
    go_enter Tryz.func3, Tryz.ntmps3
    go_wp2
    go_ret
    exact ⟨rfl, World.grownBy_alloc _ _ _⟩
  · have t1 : decide (t < 0) = false := decide_eq_false (by omega)
    have t2 : decide (t > 3) = true := decide_eq_true (by omega)
    go_enter Tryz.func3, Tryz.ntmps3
    go_wp2
    go_ret
    exact ⟨rfl, World.grownBy_alloc _ _ _⟩
set_option maxRecDepth 100000 in
set_option maxHeartbeats 2000000 in
theorem Pw.lawIn (x y z m t : Nat) (ht : t ≤ 3) (hx : x < 18446744073709551616) (hy : y < 18446744073709551616) (hz : z < 18446744073709551616) (hm : m < 18446744073709551616) (eb : Addr) (w : World) (hV : Pw.Vars eb w) :
    Calls Tryz.prog 3 #[.agg #[.float .f64 x, .float .f64 y, .float .f64 z, .float .f64 m, .int .i64 t]] w (Pw.LawEnd w) := by
  have hlt64 : ∀ b ∈ Pw.numsOf x y z m t, b < 18446744073709551616 := by
    intro b hb
    unfold Pw.numsOf at hb
    simp only [List.mem_append, List.mem_cons, List.not_mem_nil, or_false] at hb
    rcases hb with (hb | hb) | hb
    · rcases hb with rfl | rfl <;> assumption
    · split at hb
      · rcases List.mem_cons.1 hb with rfl | hb
        · exact hz
        · cases hb
      · cases hb
    · split at hb
      · rcases List.mem_cons.1 hb with rfl | hb
        · exact hm
        · cases hb
      · cases hb
  have hlen := Pw.numsOf_length x y z m t ht
  have h4 := Pw.pNums x y z m t ht
  have h5 : ∀ b, b < 18446744073709551616 → ∀ w, Calls Tryz.prog 5 #[.float .f64 b] w fun e w' => e = .returned (.bool (Pw.okB b)) ∧ w = w' := fun b hb w => Pw.gFinite b hb w
  have h7 : (∀ b ∈ Pw.numsOf x y z m t, Pw.fin b) → ∀ w, Pw.Vars eb w → Calls Tryz.prog 7 #[.agg #[.float .f64 x, .float .f64 y, .float .f64 z, .float .f64 m, .int .i64 t], .bool false] w fun e w' => e = .returned (.string ⟨(Pw.placeText x y z m t).toArray⟩) ∧ w.grownBy w' none := fun hf w hV => by
    have h3 : t = 0 ∨ t = 1 ∨ t = 2 ∨ t = 3 := by omega
    refine Pw.writePlace x y z m t ht (hf x ?_) (hf y ?_) (fun h => hf z ?_) (fun h => hf m ?_) w hV.pow hV.tab <;> rcases h3 with rfl | rfl | rfl | rfl <;> simp_all [Pw.numsOf]
  have h6 := fun (hf : ∀ b ∈ Pw.numsOf x y z m t, Pw.fin b) w (hV : Pw.Vars eb w) => Pw.readPlace x y z m t ht hf eb w hV.pow hV.flo hV.eof hV.utf
  obtain ⟨xs, hxs⟩ : ∃ xs, xs = Pw.numsOf x y z m t := ⟨_, rfl⟩
  rw [← hxs] at hlt64 hlen h4 h7 h6
  generalize (⟨(Pw.placeText x y z m t).toArray⟩ : ByteArray) = TX at h7 h6
  unfold Pw.LawEnd
  obtain ⟨W0, hW0⟩ : ∃ W0, W0 = w.alloc (.cells #[.float .f64 x, .float .f64 y, .float .f64 z, .float .f64 m, .int .i64 t] 24) := ⟨_, rfl⟩
  have hg0 : w.grownBy W0 none := by rw [hW0]; exact World.grownBy_alloc _ _ _
  have hc : ∀ W', W0.grownBy W' none → W'.cell? ⟨w.heap.size, 0, none⟩ = some (.float .f64 x) ∧ W'.cell? ⟨w.heap.size, 1, none⟩ = some (.float .f64 y) ∧ W'.cell? ⟨w.heap.size, 2, none⟩ = some (.float .f64 z) ∧ W'.cell? ⟨w.heap.size, 3, none⟩ = some (.float .f64 m) ∧ W'.cell? ⟨w.heap.size, 4, none⟩ = some (.int .i64 t) := by
    intro W' hg
    refine ⟨hg.cell ?_ (by simp), hg.cell ?_ (by simp), hg.cell ?_ (by simp), hg.cell ?_ (by simp), hg.cell ?_ (by simp)⟩ <;> (rw [hW0]; simp)
  have hne : xs ≠ [] := by intro e; rw [e] at hlen; simp at hlen; omega
  obtain ⟨n, hn⟩ : ∃ n, n = xs.length := ⟨_, rfl⟩
  have hn10 : (n : Int) ≤ 10 := by omega
  have t0 : decide ((t : Int) < 0) = false := decide_eq_false (by omega)
  have t3 : decide ((t : Int) > 3) = false := decide_eq_false (by omega)
  have t4 : decide (t > 3) = false := decide_eq_false (by omega)
  have HW := Lib.hid hW0
  have H := Lib.hid (And.intro hlt64 (And.intro hV (And.intro hg0 (And.intro hc (And.intro hne (And.intro hn (And.intro h6 h7)))))))
  clear hlt64 hV hg0 hc hne h6 h7 hxs hlen hx hy hz hm ht hW0 hn
  go_enter Tryz.func3, Tryz.ntmps3
  go_wp2_with (go_at_call 4; refine (h4 _).mono ?_; rintro e w1 ⟨v1, rfl, hF1, hg1⟩; obtain ⟨g1, cap1, rfl, hge1, hlt1, hcl1⟩ := hF1.look (n := n) H.out.2.2.2.2.1 H.out.2.2.2.2.2.1; have H1 := Lib.hid (And.intro hg1 (And.intro hge1 (And.intro hlt1 hcl1))); clear hF1 hg1 hge1 hlt1 hcl1)
  go_loopw [18] (fun i wr => ∃ j : Nat, j ≤ n ∧ i = .int .i64 j ∧ wr = w1 ∧ ∀ k, k < j → Pw.okB (xs.getD k 0) = true) (fun i _ => n - (intOf i).toNat)
  case atStart => exact ⟨0, Nat.zero_le _, rfl, rfl, fun k hk => by omega⟩
  case round =>
    obtain ⟨j, hj, rfl, rfl, hok⟩ := hrel
    rcases Nat.lt_or_ge j n with hlt | hge
    · have hcell := H1.out.2.2.2 j hlt
      have hn := H.out.2.2.2.2.2.1
      have hyb : xs.getD j 0 < 18446744073709551616 := H.out.1 _ (by rw [List.getD_eq_getElem?_getD, List.getElem?_eq_getElem (by omega)]; exact List.getElem_mem _)
      have hy5 := h5 _ hyb
      have hlu : decide (j < n) = true := decide_eq_true hlt
      have HO := Lib.hid hok
      clear hok hn hyb hj
      generalize hq : Pw.okB (xs.getD j 0) = q at hy5
      have HQ := Lib.hid hq
      clear hq
      generalize hyy : xs.getD j 0 = yy at hcell hy5
      have HY := Lib.hid hyy
      clear hyy
      cases q
      · go_wp2_with (go_at_call 5; refine (hy5 _).mono ?_; rintro e w2 ⟨rfl, rfl⟩)
        go_ret
        have hg1 := H1.out.1
        rw [← HW.out] at hg1
        exact ⟨rfl, Pw.grown_trans H.out.2.2.1 hg1 (by simp)⟩
      · go_wp2_with (go_at_call 5; refine (hy5 _).mono ?_; rintro e w2 ⟨rfl, rfl⟩)
        go_roundw
        case rel =>
          refine ⟨j + 1, hlt, by go_num, by first | rfl | trivial, fun k hk => ?_⟩
          rcases Nat.lt_or_ge k j with h | h
          · exact HO.out k h
          · obtain rfl : k = j := by omega
            exact HQ.out
        case measure => simp [intOf]; omega
    · obtain rfl : j = n := by omega
      obtain ⟨hlt64, hV, hg0, hc, hne, hn, h6, h7⟩ := H.out
      obtain ⟨hg1, -, -, -⟩ := H1.out
      rw [← HW.out] at hg1
      have hf : ∀ b ∈ xs, Pw.fin b := fun b hb => by
        obtain ⟨i, hi, e⟩ := List.getElem_of_mem hb
        have := hok i (by omega)
        rw [List.getD_eq_getElem?_getD, List.getElem?_eq_getElem hi] at this
        rw [← e]
        exact Pw.okB_fin (hlt64 _ (List.getElem_mem hi)) this
      have h7w : ∀ W', W0.grownBy W' none → Calls Tryz.prog 7 #[.agg #[.float .f64 x, .float .f64 y, .float .f64 z, .float .f64 m, .int .i64 t], .bool false] W' fun e w2 => e = .returned (.string TX) ∧ W0.grownBy w2 none := fun W' hg => by
        refine (h7 hf W' (hV.keep (Pw.grown_trans hg0 hg (by simp)))).mono ?_
        rintro e w2 ⟨rfl, hg2⟩
        exact ⟨rfl, Pw.grown_trans hg hg2 (by simp)⟩
      have h6w : ∀ W', W0.grownBy W' none → Calls Tryz.prog 6 #[.string TX, .int .i64 t] W' fun e w3 => ∃ g2 cap2, e = .returned (.tuple #[.slice (some ⟨g2, 0, none⟩) j cap2, .bool true]) ∧ W0.grownBy w3 none ∧ ∀ i, i < j → w3.cell? ⟨g2, i, none⟩ = some (.float .f64 (xs.getD i 0)) := fun W' hg => by
        refine (h6 hf W' (hV.keep (Pw.grown_trans hg0 hg (by simp)))).mono ?_
        rintro e w3 ⟨v, rfl, hF3, hb3⟩
        obtain ⟨g2, cap2, rfl, -, -, hcl⟩ := hF3.look (n := j) hne hn
        exact ⟨g2, cap2, rfl, Pw.grown_trans hg (Pw.grown_of_below (Nat.le_refl _) hb3) (by simp), hcl⟩
      have h4w : ∀ W', W0.grownBy W' none → Calls Tryz.prog 4 #[.agg #[.float .f64 x, .float .f64 y, .float .f64 z, .float .f64 m, .int .i64 t]] W' fun e w3 => ∃ g2 cap2, e = .returned (.slice (some ⟨g2, 0, none⟩) j cap2) ∧ W0.grownBy w3 none ∧ W'.grownBy w3 none ∧ ∀ i, i < j → w3.cell? ⟨g2, i, none⟩ = some (.float .f64 (xs.getD i 0)) := fun W' hg => by
        refine (h4 W').mono ?_
        rintro e w3 ⟨v, rfl, hF3, hg3⟩
        obtain ⟨g2, cap2, rfl, -, -, hcl⟩ := hF3.look (n := j) hne hn
        exact ⟨g2, cap2, rfl, Pw.grown_trans hg hg3 (by simp), hg3, hcl⟩
      obtain ⟨c0, c1, c2, c3, c4⟩ := hc _ hg1
      have hlu : decide (j < j) = false := decide_eq_false (by omega)
      have hn10' : j ≤ 10 := by omega
      have HF := Lib.hid (And.intro hg1 (And.intro hc (And.intro h7w (And.intro h6w (And.intro h4w (And.intro hn10' hg0))))))
      clear hlt64 hV hg0 hc hne hn h6 h7 hg1 hf h7w h6w h4w hok hj hge hn10'
      clear H H1 h4 h5
      go_wp2_with fail
      go_region_with ((first
        | (go_at_call 7; go_must (refine (HF.out.2.2.1 _ ?_).mono ?_; exact ⟨HF.out.1.os, HF.out.1.tape, HF.out.1.output, HF.out.1.size, HF.out.1.block⟩; rintro e w2 ⟨rfl, hg2⟩; obtain ⟨d0, d1, d2, d3, d4⟩ := HF.out.2.1 _ hg2; have H2 := Lib.hid hg2; clear hg2))
        | (go_at_call 6; go_must (refine (HF.out.2.2.2.1 _ ?_).mono ?_; exact ⟨H2.out.os, H2.out.tape, H2.out.output, H2.out.size, H2.out.block⟩; rintro e w3 ⟨g2, cap2, rfl, hg3, hcl3⟩; obtain ⟨e0, e1, e2, e3, e4⟩ := HF.out.2.1 _ hg3; have H3 := Lib.hid (And.intro hg3 hcl3); clear hg3 hcl3))))
      all_goals
        go_wp2_with (first
          | (go_at_call 4; go_must (refine (HF.out.2.2.2.2.1 _ ?_).mono ?_; exact ⟨H3.out.1.os, H3.out.1.tape, H3.out.1.output, H3.out.1.size, H3.out.1.block⟩; rintro e w4 ⟨g4, cap4, rfl, hg4, hg34, hcl4⟩; have hs8 := Pw.sameNums g2 g4 j cap2 cap4 (fun i => xs.getD i 0) w4 HF.out.2.2.2.2.2.1 (fun i hi => hg34.cell (H3.out.2 i hi) (by simp)) hcl4; have H4 := Lib.hid hg4; clear hg4 hg34 hcl4))
          | (go_at_call 8; go_must (refine hs8.mono ?_; rintro e w5 ⟨rfl, hg5⟩)))
        go_ret
        exact ⟨rfl, Pw.grown_trans HF.out.2.2.2.2.2.2 (Pw.grown_trans H4.out hg5 (by simp)) (by simp)⟩
end Go.Proofs

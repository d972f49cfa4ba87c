/- Part of the proof of FnPlaceBack: walk: writing a float. No condition. -/
import Derived.Test.YtmhpnnbfnbaekaaGreatDoorMW5
import Derived.Lib.AppendIntMem
namespace Go.Proofs
open Go Go.RowKit Go.Sort
theorem Pw.call77 (b : Nat) (w : World) : (callFunc 77 #[.float .f64 b]).run Tryz.prog w = .ok (.value (.int .u64 b)) w := by kernel_rfl
theorem Pw.call16 (b : Nat) (w : World) : (callFunc 16 #[.float .f64 b]).run Tryz.prog w = .ok (.value (.int .u64 b)) w := by kernel_rfl
theorem Pw.call105 (x : Int) (w : World) : (callFunc 105 #[.int .u64 x]).run Tryz.prog w = .ok (.value (.float .f64 x.toNat)) w := by kernel_rfl
theorem Pw.Adds.of_drew {w w1 : World} {v v1 : Value} {n : Nat} (h : Pw.Adds (w.drewN n) w1 v v1) : Pw.Adds w w1 v v1 :=
  ⟨⟨h.1.os, h.1.tape, h.1.output, h.1.size, h.1.block⟩, h.2⟩
theorem Pw.fmtEFG_zero' (neg : Bool) (B : Nat) (v : Value) (xs : List UInt8) (w : World) (hd : Pw.Dst B v xs w) (hl : xs.length ≤ 90000) :
    Calls Tryz.prog 80 #[v, .bool neg, .slice none 0 0, .int .i64 0, .int .i64 0, .int .i64 (-1), .int .u8 102, .bool true] w (Pw.Wrote B v xs (if neg then [45, 48] else [48]) w) :=
  (Pw.fmtEFG_zero neg B v xs w hd hl).mono fun _ _ ⟨v', h1, h2, h3⟩ => ⟨v', h1, by cases neg <;> simpa using h2, h3⟩
set_option maxRecDepth 100000 in
theorem Pw.ftoa64_zero (neg : Bool) (B : Nat) (v : Value) (xs : List UInt8) (w : World) (hd : Pw.Dst B v xs w) (hl : xs.length ≤ 90000) :
    Calls Tryz.prog 59 #[v, .float .f64 (if neg then 9223372036854775808 else 0), .int .u8 102, .int .i64 (-1)] w (Pw.Wrote B v xs (if neg then [45, 48] else [48]) w) := by
  have k77 := Pw.call77
  have hfin := fun neg => Pw.fmtEFG_zero' neg B v xs
  cases neg
  all_goals
    go_enter Tryz.func59, Tryz.ntmps59
    go_wp2_with fail
    go_quiet (fail)
    go_wp2_with (first | (go_at_call 80; refine (hfin _ _ (by exact hd) hl).mono ?_; rintro e w1 ⟨v1, rfl, hd1, ha1⟩))
    go_ret
    exact ⟨v1, rfl, hd1, ha1.of_drew⟩
abbrev Pw.zeros32 : Array Value := #[.int .u8 0, .int .u8 0, .int .u8 0, .int .u8 0, .int .u8 0, .int .u8 0, .int .u8 0, .int .u8 0, .int .u8 0, .int .u8 0, .int .u8 0, .int .u8 0, .int .u8 0, .int .u8 0, .int .u8 0, .int .u8 0, .int .u8 0, .int .u8 0, .int .u8 0, .int .u8 0, .int .u8 0, .int .u8 0, .int .u8 0, .int .u8 0, .int .u8 0, .int .u8 0, .int .u8 0, .int .u8 0, .int .u8 0, .int .u8 0, .int .u8 0, .int .u8 0]
theorem Pw.zeros32_at {j : Nat} (h : j < 32) : Pw.zeros32[j]? = some (.int .u8 0) := by
  have e : Pw.zeros32 = Array.replicate 32 (.int .u8 0) := rfl
  rw [e, Array.getElem?_replicate, if_pos h]
theorem Pw.buf_holds {W w1 : World} (T : TypeId) (n : Nat) (hn : n ≤ 32) (hb : Below (W.alloc (.cells Pw.zeros32 T)).heap.size (W.alloc (.cells Pw.zeros32 T)) w1) :
    Holds Pw.enc8 w1 W.heap.size 0 (Array.replicate n (0 : UInt8)) := by
  intro j hj
  have hj' : j < n := by simpa using hj
  constructor
  · rw [hb.cell (by simp), World.cell?_alloc_new, Nat.zero_add, Pw.zeros32_at (by omega), getElem!_pos _ j hj]
    simp
  · rw [hb.frozen (by simp)]
    exact World.frozen?_alloc_new _ _ _ _
theorem Pw.Len64 (m : Nat) (w : World) (h : m < 18446744073709551616) :
    Calls Tryz.prog 81 #[.int .u64 m] w fun e w' => e = .returned (.int .i64 (Lib.bitLen m)) ∧ w = w' :=
  (Tryz.bits_Len64 m w (by omega) (by omega)).mono fun _ _ ⟨a, b⟩ => ⟨by rw [a, Int.toNat_natCast], b.symm⟩
theorem Pw.Dst.keep {B : Nat} {v : Value} {xs : List UInt8} {w wX : World} (h : Pw.Dst B v xs w) (hg : w.grownBy wX none) : Pw.Dst B v xs wX :=
  ⟨h.1.kept hg (by cases hv : v.ownBlock <;> simp), Nat.le_trans h.2 hg.size⟩
theorem Pw.Adds.pre {w wX w' : World} {v v' : Value} (hg : w.grownBy wX none) (h : Pw.Adds wX w' v v') : Pw.Adds w w' v v' :=
  ⟨⟨h.1.os.trans hg.os, h.1.tape.trans hg.tape, h.1.output.trans hg.output, Nat.le_trans hg.size h.1.size, fun k hk hn => (h.1.block k (Nat.lt_of_lt_of_le hk hg.size) hn).trans (hg.block k hk (by simp))⟩,
    h.2.imp id fun ⟨g, e, hg2⟩ => ⟨g, e, Nat.le_trans hg.size hg2⟩⟩
theorem Pw.Wrote.pre {B : Nat} {v : Value} {xs ys : List UInt8} {w wX : World} {e : Ending} {w' : World} (hg : w.grownBy wX none) (h : Pw.Wrote B v xs ys wX e w') : Pw.Wrote B v xs ys w e w' := by
  obtain ⟨v', h1, h2, h3⟩ := h
  exact ⟨v', h1, h2, h3.pre hg⟩
theorem Pw.grown_of_below {B : Nat} {w w' : World} (hB : w.heap.size ≤ B) (h : Below B w w') : w.grownBy w' none :=
  ⟨h.os, h.tape, h.output, h.size, fun k hk _ => h.block k (by omega)⟩
theorem Pw.grown_trans {a b c : World} {r : Option Nat} (h : a.grownBy b none) (k : b.grownBy c r) (hr : ∀ i, r = some i → a.heap.size ≤ i) : a.grownBy c none :=
  ⟨k.os.trans h.os, k.tape.trans h.tape, k.output.trans h.output, Nat.le_trans h.size k.size, fun j hj _ => (k.block j (Nat.lt_of_lt_of_le hj h.size) (fun e => by have := hr j e.symm; omega)).trans (h.block j hj (by simp))⟩
set_option maxRecDepth 100000 in
set_option maxHeartbeats 1000000 in
theorem Pw.ftoa64_norm (b ef f m s : Nat) (q : Int) (neg : Bool) (hb : b < 18446744073709551616) (n0 : ((b : Int) / 9223372036854775808 != 0) = neg)
    (n1 : bits .and .i64 ((b : Int) / 4503599627370496) 2047 = (ef : Int)) (n2 : bits .and .u64 (b : Int) 4503599627370495 = (f : Int)) (hef : 1 ≤ ef) (hef2 : ef < 2047)
    (n3 : bits .or .u64 (f : Int) 4503599627370496 = (m : Int)) (hfit : Pb.Fits m q) (hm64 : m < 18446744073709551616) (n4 : ((m : Int) == 0) = false) (n5 : 64 - (Lib.bitLen m : Int) = (s : Int)) (hs : s < 64) (n6 : IntKind.u64.wrap ((m : Int) * 2 ^ s) = ((m * 2 ^ s : Nat) : Int))
    (g1 : 2 ^ 63 ≤ m * 2 ^ s) (g2 : m * 2 ^ s < 2 ^ 64) (hq : (ef : Int) + -1023 - s - 52 = q - s)
    (d : Nat) (p : Int) (hsh : Pb.shortU m q = (d, p)) (hd0 : 0 < d) (hd17 : d < 100000000000000000) (hp0 : -380 ≤ p) (hp1 : p ≤ 380) (B : Nat) (v : Value) (xs : List UInt8) (w : World) (ht : Pw.PowTab w) (htab : Lib.TabIs Tryz.prog w "internal/strconv.uint64pow10" .u64 Lib.pow10Tab) (hd : Pw.Dst B v xs w) (hl : xs.length ≤ 90000) :
    Calls Tryz.prog 59 #[v, .float .f64 b, .int .u8 102, .int .i64 (-1)] w (Pw.Wrote B v xs (Pw.signed neg (Pw.plain (Pb.trim (Lib.decDigits d)) (Lib.nDigits d + p))) w) := by
  have k77 := Pw.call77
  have t1 : ((ef : Int) == 2047) = false := by rw [beq_eq_false_iff_ne]; omega
  have t2 : ((ef : Int) == 0) = false := by rw [beq_eq_false_iff_ne]; omega
  have N6 := Lib.hid n6
  have HQ := Lib.hid hq
  have G1 := Lib.hid g1
  have G2 := Lib.hid g2
  have HF := Lib.hid hfit
  clear g1 g2 hfit hq
  go_enter Tryz.func59, Tryz.ntmps59
  go_wp2_with fail
  go_quiet (fail)
  go_wp2_with (go_at_call 81; refine (Pw.Len64 _ _ hm64).mono ?_; rintro e w1 ⟨rfl, rfl⟩)
  rw [HQ.out]
  refine (Pw.shortFloat m q s _ HF.out G1.out G2.out ?tt).mono ?kk
  case tt => exact Pw.PowTab.alloc (by exact ht) _
  case kk =>
    rintro e w1 ⟨rfl, hb1⟩
    rw [hsh]
    have hH := Pw.buf_holds 141 (Lib.nDigits d) (by have := Lib.nDigits_le20 d (by omega); omega) hb1
    have htab1 : Lib.TabIs Tryz.prog w1 "internal/strconv.uint64pow10" .u64 Lib.pow10Tab := by
      refine Go.Lib.tabBelow_of_tabIs htab w1 ?_
      refine Below.trans ?_ (hb1.mono (by simp))
      exact (below_drewN (Below.refl _ _) _).alloc (by simp) _
    have HT := Lib.hid htab1
    have HH := Lib.hid hH
    clear hH htab1
    go_wp2_with fail
    go_region_with ((first | (go_at_call 84; refine (Tryz.internal_strconv_numDigits d hd0 (by omega) _ (by exact HT.out)).mono ?_; rintro e w2 ⟨rfl, hw2⟩; subst hw2) | (go_at_call 83; refine (Pw.setDigits _ d p _ hd0 (by omega) (by omega) (by omega) (by exact HH.out)).mono ?_; rintro e w2 ⟨rfl, hD⟩)))

    obtain ⟨hgD, hcD⟩ := hD
    have hgw : w.grownBy w1 none := by
      refine Pw.grown_of_below (Nat.le_refl _) (Below.trans ?_ (hb1.mono (by simp)))
      exact (below_drewN (Below.refl _ _) _).alloc (by simp) _
    have hgw2 : w.grownBy w2 none := Pw.grown_trans hgw ⟨hgD.os, hgD.tape, hgD.output, hgD.size, hgD.block⟩ (by intro i hi; injection hi with hi; omega)
    have hdd := hd.keep hgw2
    obtain ⟨k, hk, -, hl1, -, -, hn⟩ := Pb.trim_facts d hd0
    have h17 : Lib.nDigits d ≤ 20 := Lib.nDigits_le20 d (by omega)
    have hl2 : (Pb.trim (Lib.decDigits d)).length ≤ 20 := by omega
    have hne : some w.heap.size ≠ v.ownBlock := by
      intro e
      have := hd.1.lt _ e.symm
      omega
    have hcT : ∀ i (h : i < (Pb.trim (Lib.decDigits d)).length), w2.cell? ⟨w.heap.size, i, none⟩ = some (.int .u8 ((Pb.trim (Lib.decDigits d))[i].toNat : Int)) := by
      intro i h
      have hlen := Lib.decDigits_length d
      rw [hcD i (by omega)]
      have : (Lib.decDigits d)[i]? = (Pb.trim (Lib.decDigits d))[i]? := by
        conv => lhs; rw [hk]
        rw [List.getElem?_append_left h]
      rw [List.getElem?_eq_getElem h, List.getElem?_eq_getElem (by omega)] at this
      injection this with this
      rw [this]
    have HC := Lib.hid hcT
    have HK := Lib.hid hgw2
    clear hcT hcD hk hgw2 hgD hb1 hn
    go_wp2_with (first | (go_at_call 80; go_must (refine (Pw.fmtEFG_all neg B v xs w.heap.size _ _ _ hdd hl hl1 (by omega) (by omega) (by omega) hne HC.out).mono ?_; rintro e w3 ⟨v3, rfl, hd3, ha3⟩)))
    go_ret
    exact ⟨v3, rfl, hd3, ha3.pre HK.out⟩
end Go.Proofs

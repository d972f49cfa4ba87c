/- Part of the proof of FnPlaceBack: walk: writing a float, its format. No condition. -/
import Derived.Test.YtmhpnnbfnbaekaaGreatDoorMW4b
import Derived.Test.YtmhpnnbfnbaekaaGreatDoorMW4c
import Derived.Test.YtmhpnnbfnbaekaaGreatDoorMW34
import Derived.Test.YtmhpnnbfnbaekaaGreatDoorMPbGIN
import Derived.Lib.ItoaLen
namespace Go.Proofs
open Go Go.RowKit
/-- The digits D with the point at dp: the shortest text in '%f'. -/
def Pw.plain (D : List UInt8) (dp : Int) : List UInt8 :=
  if (D.length : Int) ≤ dp then D ++ List.replicate (dp.toNat - D.length) 48
  else if 0 < dp then D.take dp.toNat ++ [46] ++ D.drop dp.toNat
  else [48, 46] ++ List.replicate (-dp).toNat 48 ++ D
def Pw.signed (neg : Bool) (l : List UInt8) : List UInt8 := if neg then [45] ++ l else l
theorem Pw.fmtEFG_all (neg : Bool) (B : Nat) (v : Value) (xs : List UInt8) (bs : Nat) (D : List UInt8) (dp : Int) (w : World) (hd : Pw.Dst B v xs w) (hl : xs.length ≤ 90000) (h1 : 1 ≤ D.length) (h2 : -400 ≤ dp) (h3 : dp ≤ 400) (h4 : D.length ≤ 32)
    (hb : some bs ≠ v.ownBlock) (hc : ∀ i (h : i < D.length), w.cell? ⟨bs, i, none⟩ = some (.int .u8 (D[i].toNat : Int))) :
    Calls Tryz.prog 80 #[v, .bool neg, .slice (some ⟨bs, 0, none⟩) 32 32, .int .i64 dp, .int .i64 D.length, .int .i64 (max ((D.length : Int) - dp) 0), .int .u8 102, .bool true] w (Pw.Wrote B v xs (Pw.signed neg (Pw.plain D dp)) w) := by
  unfold Pw.plain Pw.signed
  by_cases c1 : (D.length : Int) ≤ dp
  · obtain ⟨n, rfl⟩ : ∃ n : Nat, dp = n := ⟨dp.toNat, by omega⟩
    rw [show max ((D.length : Int) - n) 0 = 0 from by omega, if_pos c1]
    cases neg
    · simpa using Pw.fmtEFG_1p B v xs bs D n w hd hl h1 (by omega) (by omega) h4 hb hc
    · simpa using Pw.fmtEFG_1n B v xs bs D n w hd hl h1 (by omega) (by omega) h4 hb hc
  · rw [if_neg c1]
    by_cases c2 : 0 < dp
    · obtain ⟨n, rfl⟩ : ∃ n : Nat, dp = n := ⟨dp.toNat, by omega⟩
      rw [show max ((D.length : Int) - n) 0 = ((D.length - n : Nat) : Int) from by omega, if_pos c2]
      cases neg
      · simpa using Pw.fmtEFG_2p B v xs bs D n w hd hl (by omega) (by omega) h4 hb hc
      · simpa using Pw.fmtEFG_2n B v xs bs D n w hd hl (by omega) (by omega) h4 hb hc
    · obtain ⟨n, rfl⟩ : ∃ n : Nat, dp = -(n : Int) := ⟨(-dp).toNat, by omega⟩
      rw [show max ((D.length : Int) - -(n : Int)) 0 = ((D.length + n : Nat) : Int) from by omega, if_neg c2]
      cases neg
      · simpa using Pw.fmtEFG_3p B v xs bs D n w hd hl h1 (by omega) h4 hb hc
      · simpa using Pw.fmtEFG_3n B v xs bs D n w hd hl h1 (by omega) h4 hb hc
end Go.Proofs
namespace Go.Proofs
open Go Go.RowKit Go.Sort Go.Lib
abbrev Pw.enc8 : UInt8 → Value := fun (b : UInt8) => Value.int .u8 (b.toNat : Int)
/-- Behind the digits' writing: block bs holds them, all else is as it was. -/
def Pw.Digits (bs d : Nat) (w w' : World) : Prop := w.grownBy w' (some bs) ∧ ∀ i (h : i < (decDigits d).length), w'.cell? ⟨bs, i, none⟩ = some (.int .u8 ((decDigits d)[i].toNat : Int))
theorem Pw.grownBy_putRow (w : World) (b o : Nat) (d : Array UInt8) : w.grownBy (putRow Pw.enc8 w b o d) (some b) := by
  refine ⟨rfl, rfl, rfl, ?_, ?_⟩
  · simp [putRow, mapBlock]
  · intro k _ hk
    simp only [putRow, mapBlock]
    rw [Array.getElem?_modify, if_neg (by intro e; exact hk (by rw [e]))]
theorem Pw.formatBase10 (bs d nd cap : Nat) (w : World) (hH : Holds Pw.enc8 w bs 0 (Array.replicate nd (0 : UInt8))) (hnd : nd = nDigits d) (hd64 : d < 18446744073709551616) :
    Calls Tryz.prog 120 #[.slice (some ⟨bs, 0, none⟩) nd cap, .int .u64 d] w fun e w' => e = .returned (.tuple #[]) ∧ Pw.Digits bs d w w' := by
  have h := Tryz.internal_strconv_formatBase10 bs 0 cap d (Array.replicate nd (0 : UInt8)) w hH (by rw [Array.size_replicate, hnd]; exact lt_pow_nDigits d) hd64 (by rw [Array.size_replicate, hnd]; have := nDigits_le20 d hd64; omega)
  rw [Array.size_replicate] at h
  refine h.mono ?_
  rintro e w' ⟨rfl, n, v', dk, rfl, hI⟩
  refine ⟨rfl, ?_, ?_⟩
  · have := Pw.grownBy_putRow w bs 0 dk
    exact ⟨this.os, this.tape, this.output, this.size, this.block⟩
  · intro i hi
    have hsz := hI.size
    have hlen := decDigits_length d
    have := cell?_putRow Pw.enc8 w bs 0 _ dk hH (by rw [hsz, Array.size_replicate]) i (by omega)
    rw [Nat.zero_add] at this
    rw [row_is_numeral (by rw [← hnd]; exact hI) i hi]
    exact this
theorem Pw.setDigits (bs d : Nat) (p : Int) (w : World) (hd0 : 0 < d) (hd64 : d < 18446744073709551616) (hp0 : -2000 ≤ p) (hp1 : p ≤ 2000)
    (hH : Holds Pw.enc8 w bs 0 (Array.replicate (nDigits d) (0 : UInt8))) :
    Calls Tryz.prog 83 #[.slice (some ⟨bs, 0, none⟩) 32 32, .int .u64 d, .int .i64 p, .int .i64 (nDigits d)] w fun e w' => e = .returned (.tuple #[.int .i64 (nDigits d + p), .int .i64 (Pb.trim (decDigits d)).length]) ∧ Pw.Digits bs d w w' := by
  have h20 := nDigits_le20 d hd64
  have hlen := decDigits_length d
  obtain ⟨k, hk, -, hl, -, -, hn⟩ := Pb.trim_facts d hd0
  have HN := Lib.hid hn
  have HL := Lib.hid hlen
  have hle : (Pb.trim (decDigits d)).length ≤ nDigits d := by omega
  have hne := Pb.trim_last (decDigits d) (List.length_pos_iff.1 hl)
  have tail : ∀ i (h : i < (decDigits d).length), (Pb.trim (decDigits d)).length ≤ i → (decDigits d)[i].toNat = 48 := by
    intro i h hi
    have : (decDigits d)[i]? = some 48 := by
      rw [hk, List.getElem?_append_right hi, List.getElem?_replicate, if_pos]
      have := congrArg List.length hk
      rw [List.length_append, List.length_replicate] at this
      omega
    rw [List.getElem?_eq_getElem h] at this
    injection this with this
    rw [this]; rfl
  have last : ∀ i (h : i < (decDigits d).length), i + 1 = (Pb.trim (decDigits d)).length → (decDigits d)[i].toNat ≠ 48 := by
    intro i h hi e
    have h2 : (Pb.trim (decDigits d))[(Pb.trim (decDigits d)).length - 1]? = some (decDigits d)[i] := by
      rw [show (Pb.trim (decDigits d)).length - 1 = i from by omega, ← List.getElem?_eq_getElem h]
      conv => rhs; rw [hk]
      rw [List.getElem?_append_left (by omega)]
    refine hne _ h2 ?_
    exact UInt8.toNat_inj.1 e
  clear hk hn hlen hne
  go_enter Tryz.func83, Tryz.ntmps83
  go_wp2_with (first | (go_at_call 120; refine (Pw.formatBase10 bs d (nDigits d) 32 _ hH rfl hd64).mono ?_; rintro e w1 ⟨rfl, hD⟩))
  obtain ⟨hg, hcD⟩ := hD
  go_loopw [3] (fun n wr => ∃ j : Nat, n = .int .i64 j ∧ (Pb.trim (decDigits d)).length ≤ j ∧ j ≤ nDigits d ∧ wr = w1) (fun n _ => (RowKit.intOf n).toNat)
  case atStart => exact ⟨nDigits d, rfl, hle, Nat.le_refl _, rfl⟩
  case round =>
    obtain ⟨j, rfl, hj1, hj2, rfl⟩ := hrel
    obtain ⟨j, rfl⟩ : ∃ i, j = i + 1 := ⟨j - 1, by omega⟩
    have hjl : j < (decDigits d).length := by rw [HL.out]; omega
    have hc := hcD j hjl
    have z0 : decide ((0 : Int) < ((j + 1 : Nat) : Int)) = true := by simp
    have z1 : (((j + 1 : Nat) : Int) - 1) = (j : Int) := by omega
    by_cases h48 : (decDigits d)[j].toNat = 48
    · have hb : (((decDigits d)[j].toNat : Int) == 48) = true := by rw [h48]; rfl
      obtain ⟨c, hcc⟩ : ∃ c, c = (decDigits d)[j].toNat := ⟨_, rfl⟩
      rw [← hcc] at hb hc
      have hj3 : (Pb.trim (decDigits d)).length ≤ j := by
        rcases Nat.lt_or_ge j (Pb.trim (decDigits d)).length with h | h
        · exact absurd (by omega : j + 1 = (Pb.trim (decDigits d)).length) (fun e => last j hjl e (by omega))
        · exact h
      clear hcD tail last h48 hcc
      go_wp2
      go_roundw
      case rel =>
        refine ⟨j, by first | rfl | trivial, ?_, by omega, by first | rfl | trivial⟩
        exact hj3
      case measure => simp [RowKit.intOf]
    · have hb : (((decDigits d)[j].toNat : Int) == 48) = false := by rw [beq_eq_false_iff_ne]; omega
      have hjj : j + 1 = (Pb.trim (decDigits d)).length := by
        rcases Nat.lt_or_ge j (Pb.trim (decDigits d)).length with h | h
        · omega
        · exact absurd (tail j hjl h) h48
      obtain ⟨c, hcc⟩ : ∃ c, c = (decDigits d)[j].toNat := ⟨_, rfl⟩
      rw [← hcc] at hb hc
      have HJ := Lib.hid hjj
      have HC := Lib.hid hcD
      clear hcD tail last h48 hcc hjj
      go_wp2
      go_ret2
      refine ⟨?_, hg, HC.out⟩
      show Ending.returned (.tuple #[.int .i64 _, .int .i64 ((j + 1 : Nat) : Int)]) = _
      rw [HJ.out]
end Go.Proofs

/- Part of the proof of FnPlaceBack: walk: the scanner's digits. No condition. -/
import Derived.Test.YtmhpnnbfnbaekaaGreatDoorMS10
import Derived.Deep.LoopGhost
namespace Go.Proofs
open Go Go.RowKit
/-- As Kp, and but block x. -/
structure Kx (E : Env) (x : Nat) (V V' : Bs E.b) : Prop where
  below : Below E.B V.1 V'.1
  others : ∀ k o, V.1.heap[k]? = some o → k ≠ E.b → k ≠ E.rb → k ≠ x → (∀ c fz, o ≠ .cells c 5 fz) → V'.1.heap[k]? = some o
theorem Kx.refl (E : Env) (x : Nat) (V : Bs E.b) : Kx E x V V := ⟨Below.refl _ _, fun _ _ h _ _ _ _ => h⟩
theorem Kp.kx {E : Env} {x : Nat} {V V' : Bs E.b} (h : Kp E.B (some E.rb) V V') : Kx E x V V' := ⟨h.below, fun k o h1 h2 h3 _ h5 => h.others k o h1 h2 (by simpa using h3) h5⟩
theorem Kx.trans {E : Env} {x : Nat} {U V W : Bs E.b} (h : Kx E x U V) (k : Kx E x V W) : Kx E x U W := ⟨h.below.trans k.below, fun j o hj h1 h2 h3 h4 => k.others j o (h.others j o hj h1 h2 h3 h4) h1 h2 h3 h4⟩
theorem Kx.put {E : Env} {x : Nat} (V : Bs E.b) (v : Value) (h : E.B ≤ x) : Kx E x V (V.put ⟨x, 0, none⟩ v) := by
  refine ⟨(Below.refl _ _).setCell (p := ⟨x, 0, none⟩) h v, fun k o hk _ _ h3 _ => ?_⟩
  rw [Bs.put_val, Below.heap_setCell _ _ _ _ h3]
  exact hk
theorem Kp.one {E : Env} {x : Nat} {V V' : Bs E.b} (h : Kp E.B (some E.rb) V V') (h1 : x ≠ E.b) (h2 : x ≠ E.rb) {v : Value} {T : TypeId} (hT : T ≠ 5) (hx : V.1.heap[x]? = some (.cells #[v] T (0, 0))) : V'.1.heap[x]? = some (.cells #[v] T (0, 0)) :=
  h.others x _ hx h1 (by simpa using h2) fun c fz e => by injection e with _ e _; exact hT e
theorem Look.put {E : Env} {V : Bs E.b} {s : SS} {c : Nat} {tok : Option Nat} (h : Look E V s c tok) {x : Nat} (hB : E.B ≤ x) (h1 : x ≠ E.b) (h2 : x ≠ E.rb) {w : Value} {T : TypeId} (hT : T ≠ 5) (hx : V.1.heap[x]? = some (.cells #[w] T (0, 0))) (v : Value) : Look E (V.put ⟨x, 0, none⟩ v) s c tok := by
  obtain ⟨p, f, o, l, hS, g1, g2, g3, g4⟩ := h
  refine ⟨p, f, o, l, ?_, g1, g2, g3, g4⟩
  have hk : ∀ k, k ≠ x → (V.put ⟨x, 0, none⟩ v).1.heap[k]? = V.1.heap[k]? := fun k hk => by rw [Bs.put_val]; exact Below.heap_setCell _ _ _ _ hk
  refine ⟨hS.src, hS.pos, hS.fin, hS.off, hS.lc, hS.pf, hS.f24, hS.oN, hS.lp, hS.l1, hS.bytes, hS.sent, by rw [hk _ (Ne.symm h2)]; exact hS.rd, hS.col0, hS.col1, hS.mode, hS.ws, hS.idr, ?_, ?_, ?_⟩
  · obtain ⟨bs, hb, e1, e2, e3⟩ := hS.buf
    refine ⟨bs, hb.world fun k c hk' _ => ?_, e1, e2, e3⟩
    rw [hk k ?_]; exact hk'
    rintro rfl
    rw [hx] at hk'
    injection hk' with hk'
    injection hk' with _ hk' _
    exact hT hk'
  · have := E.h6
    rw [World.cell?_of_block (w := V.1) (hk 2 (by omega))]; exact hS.eofv
  · have := E.h6
    intro c hc; rw [World.cell?_of_block (w := V.1) (hk 6 (by omega))]; exact hS.tab c hc
def Pw.DigEnd (E : Env) (V : Bs E.b) (s : SS) (c m : Nat) (tok : Option Nat) (base iv : Nat) (y : Int) (e : Ending) (w' : World) : Prop :=
  ∃ (V' : Bs E.b) (s' : SS) (y' : Int), e = .returned (.tuple #[.int .i32 (E.at (c + m)), .int .i64 (if m = 0 then 0 else 1)]) ∧ w' = St V' s' ∧ Look E V' s' (c + m) tok ∧ s.Same s' ∧ V'.1.heap[iv]? = some (.cells #[.int .i32 y'] 21 (0, 0)) ∧ (base = 10 ∨ m = 0 → y' = y) ∧ Kx E iv V V'
set_option maxRecDepth 100000 in
set_option maxHeartbeats 1000000 in
theorem Pw.digits10 (E : Env) (V : Bs E.b) (s : SS) (c m : Nat) (tok : Option Nat) (iv : Nat) (y : Int) (h : Look E V s c tok) (hm : ∀ j, j < m → 48 ≤ E.at (c + j) ∧ E.at (c + j) ≤ 57) (he : E.at (c + m) < 48) (h1 : iv ≠ E.b) (h2 : iv ≠ E.rb) (hiv : V.1.heap[iv]? = some (.cells #[.int .i32 y] 21 (0, 0))) :
    Calls Tryz.prog 64 #[.pointer (some ⟨E.b, 0, none⟩), .int .i32 (E.at c), .int .i64 10, .pointer (some ⟨iv, 0, none⟩)] (St V s) (Pw.DigEnd E V s c m tok 10 iv y) := by
  have hdec := Pw.isDecimal
  have hnx := fun V s c tok h hc => Pw.nextL E V s c tok h hc
  obtain ⟨x, hx⟩ : ∃ x, x = E.at c := ⟨_, rfl⟩
  rw [← hx]
  have HX := Lib.hid (And.intro hx (And.intro hm (And.intro he hnx)))
  have HV := Lib.hid (And.intro h hiv)
  clear hx h hiv hm he hnx
  go_enter Tryz.func64, Tryz.ntmps64
  go_wp2
  go_loopg [8, 9] m (fun k v d wr => ∃ (j : Nat) (V1 : Bs E.b) (s1 : SS), k = m - j ∧ j ≤ m ∧ v = .int .i32 (E.at (c + j)) ∧ d = .int .i64 (if j = 0 then 0 else 1) ∧ wr = St V1 s1 ∧ Look E V1 s1 (c + j) tok ∧ s.Same s1 ∧ V1.1.heap[iv]? = some (.cells #[.int .i32 y] 21 (0, 0)) ∧ Kx E iv V V1)
  case atStart => exact ⟨0, V, s, rfl, Nat.zero_le _, by rw [HX.out.1]; rfl, rfl, rfl, HV.out.1, SS.Same.refl s, HV.out.2, Kx.refl E iv V⟩
  case round =>
    obtain ⟨j, V1, s1, rfl, hj, rfl, rfl, rfl, hL, hS, hi, hK⟩ := hrel
    obtain ⟨D, hD⟩ : ∃ D : Int, D = if j = 0 then 0 else 1 := ⟨_, rfl⟩
    have hor : bits .or .i64 D 1 = 1 := by rw [hD]; split <;> decide
    rw [← hD]
    rcases Nat.lt_or_ge j m with hlt | hge
    · obtain ⟨z0, z1⟩ := HX.out.2.1 j hlt
      have hN : c + j < E.S.size := by
        rcases Nat.lt_or_ge (c + j) E.S.size with h | h
        · exact h
        · rw [E.at_end h] at z0; omega
      have hc := HX.out.2.2.2 V1 s1 (c + j) tok hL hN
      generalize E.at (c + j) = z at z0 z1 ⊢
      have d0 : decide (48 ≤ z) = true := decide_eq_true z0
      have d1 : decide (z ≤ 57) = true := decide_eq_true z1
      have HR := Lib.hid (And.intro hS (And.intro hi (And.intro hK (And.intro hj hlt))))
      clear hL hS hi hK hj hlt hD hN
      go_wp2_with (first
        | (go_at_call 44; refine (hdec z _).mono ?_; rintro e w1 ⟨rfl, rfl⟩)
        | (go_at_call 40; refine hc.mono ?_; rintro e W ⟨V2, s2, rfl, rfl, hL2, hS2, hK2⟩; have H2 := Lib.hid (And.intro hL2 (And.intro hS2 hK2)); clear hL2 hS2 hK2))
      go_roundg (m - (j + 1))
      case measure => have := HR.out.2.2.2.2; omega
      case rel =>
        obtain ⟨hS, hi, hK, hj, hlt⟩ := HR.out
        obtain ⟨hL2, hS2, hK2⟩ := H2.out
        exact ⟨j + 1, V2, s2, rfl, hlt, by rw [Nat.add_assoc], by simp, rfl, hL2, hS.trans hS2, hK2.one h1 h2 (by decide) hi, hK.trans hK2.kx⟩
    · obtain rfl : j = m := by omega
      have z0 := HX.out.2.2.1
      unfold Pw.DigEnd
      generalize hz : E.at (c + j) = z at z0 ⊢
      have HZ := Lib.hid hz
      clear hz
      have d0 : decide (48 ≤ z) = false := decide_eq_false (by omega)
      have d1 : (z == 95) = false := by simp; omega
      have HR := Lib.hid (And.intro hS (And.intro hi (And.intro hK (And.intro hL hD))))
      clear hL hS hi hK hj hge hD
      go_wp2_with (go_at_call 44; refine (hdec _ _).mono ?_; rintro e w1 ⟨rfl, rfl⟩)
      go_ret2
      obtain ⟨hS, hi, hK, hL, hD⟩ := HR.out
      subst hD
      exact ⟨V1, s1, y, by first | rfl | (rw [HZ.out]; rfl), rfl, hL, hS, hi, fun _ => rfl, hK⟩
set_option maxRecDepth 100000 in
set_option maxHeartbeats 1000000 in
theorem Pw.digits8 (E : Env) (V : Bs E.b) (s : SS) (c m : Nat) (tok : Option Nat) (iv : Nat) (y : Int) (h : Look E V s c tok) (hm : ∀ j, j < m → 48 ≤ E.at (c + j) ∧ E.at (c + j) ≤ 57) (he : E.at (c + m) < 48) (h1 : iv ≠ E.b) (h2 : iv ≠ E.rb) (h3 : E.B ≤ iv) (hiv : V.1.heap[iv]? = some (.cells #[.int .i32 y] 21 (0, 0))) :
    Calls Tryz.prog 64 #[.pointer (some ⟨E.b, 0, none⟩), .int .i32 (E.at c), .int .i64 8, .pointer (some ⟨iv, 0, none⟩)] (St V s) (Pw.DigEnd E V s c m tok 8 iv y) := by
  have hdec := Pw.isDecimal
  have hnx := fun V s c tok h hc => Pw.nextL E V s c tok h hc
  obtain ⟨x, hx⟩ : ∃ x, x = E.at c := ⟨_, rfl⟩
  rw [← hx]
  have HX := Lib.hid (And.intro hx (And.intro hm (And.intro he hnx)))
  have HV := Lib.hid (And.intro h hiv)
  have hput : ∀ (V : Bs E.b) s v, (St V s).setCell ⟨iv, 0, none⟩ v = St (V.put ⟨iv, 0, none⟩ v) s := fun V s v => St.put V s _ v h1
  clear hx h hiv hm he hnx
  go_enter Tryz.func64, Tryz.ntmps64
  go_wp2
  go_loopg [8, 9] m (fun k v d wr => ∃ (j : Nat) (V1 : Bs E.b) (s1 : SS) (y1 : Int), k = m - j ∧ j ≤ m ∧ v = .int .i32 (E.at (c + j)) ∧ d = .int .i64 (if j = 0 then 0 else 1) ∧ wr = St V1 s1 ∧ Look E V1 s1 (c + j) tok ∧ s.Same s1 ∧ V1.1.heap[iv]? = some (.cells #[.int .i32 y1] 21 (0, 0)) ∧ (j = 0 → y1 = y) ∧ Kx E iv V V1)
  case atStart => exact ⟨0, V, s, y, rfl, Nat.zero_le _, by rw [HX.out.1]; rfl, rfl, rfl, HV.out.1, SS.Same.refl s, HV.out.2, fun _ => rfl, Kx.refl E iv V⟩
  case round =>
    obtain ⟨j, V1, s1, y1, rfl, hj, rfl, rfl, rfl, hL, hS, hi, hy, hK⟩ := hrel
    obtain ⟨D, hD⟩ : ∃ D : Int, D = if j = 0 then 0 else 1 := ⟨_, rfl⟩
    have hor : bits .or .i64 D 1 = 1 := by rw [hD]; split <;> decide
    rw [← hD]
    rcases Nat.lt_or_ge j m with hlt | hge
    · obtain ⟨z0, z1⟩ := HX.out.2.1 j hlt
      have hN : c + j < E.S.size := by
        rcases Nat.lt_or_ge (c + j) E.S.size with h | h
        · exact h
        · rw [E.at_end h] at z0; omega
      generalize E.at (c + j) = z at z0 z1 ⊢
      have d0 : decide (48 ≤ z) = true := decide_eq_true z0
      have d1 : decide (z ≤ 57) = true := decide_eq_true z1
      have hget : (St V1 s1).cell? ⟨iv, 0, none⟩ = some (.int .i32 y1) := by rw [St.cell_other V1 s1 _ h1]; exact cell_of_row _ _ _ _ _ _ hi
      have hfro : (St V1 s1).frozen? ⟨iv, 0, none⟩ = false := by rw [St.frozen_other V1 s1 _ h1]; exact Lib.frozen_of_heap hi 0
      by_cases hst : 56 ≤ z ∧ y1 = 0
      · obtain ⟨z2, rfl⟩ := hst
        have hc := HX.out.2.2.2 (V1.put ⟨iv, 0, none⟩ (.int .i32 z)) s1 (c + j) tok (hL.put h3 h1 h2 (by decide) hi _) hN
        have hi2 : (V1.put ⟨iv, 0, none⟩ (.int .i32 z)).1.heap[iv]? = some (.cells #[.int .i32 z] 21 (0, 0)) := Lib.heap_setCell_same (i := 0) hi (.int .i32 z)
        have HR := Lib.hid (And.intro hS (And.intro hi2 (And.intro (hK.trans (Kx.put V1 (.int .i32 z) h3)) (And.intro hj hlt))))
        clear hL hS hi hK hj hlt hD hN hy hi2
        go_wp2_with (first
          | (go_at_call 44; refine (hdec z _).mono ?_; rintro e w1 ⟨rfl, rfl⟩)
          | (go_at_call 40; refine hc.mono ?_; rintro e W ⟨V2, s2, rfl, rfl, hL2, hS2, hK2⟩; have H2 := Lib.hid (And.intro hL2 (And.intro hS2 hK2)); clear hL2 hS2 hK2))
        go_roundg (m - (j + 1))
        case measure => have := HR.out.2.2.2.2; omega
        case rel =>
          obtain ⟨hS, hi, hK, hj, hlt⟩ := HR.out
          obtain ⟨hL2, hS2, hK2⟩ := H2.out
          exact ⟨j + 1, V2, s2, z, rfl, hlt, by rw [Nat.add_assoc], by simp, rfl, hL2, hS.trans hS2, hK2.one h1 h2 (by decide) hi, fun h => by omega, hK.trans hK2.kx⟩
      · have hc := HX.out.2.2.2 V1 s1 (c + j) tok hL hN
        have HR := Lib.hid (And.intro hS (And.intro hi (And.intro hK (And.intro hj hlt))))
        have g3 : decide (z ≥ 56) = true ∧ (y1 == 0) = false ∨ decide (z ≥ 56) = false := by
          by_cases hz : 56 ≤ z
          · exact .inl ⟨decide_eq_true hz, by simp; intro e; exact hst ⟨hz, e⟩⟩
          · exact .inr (decide_eq_false hz)
        clear hL hS hi hK hj hlt hD hN hy hst
        rcases g3 with ⟨g3, g4⟩ | g3
        all_goals
          go_wp2_with (first
            | (go_at_call 44; refine (hdec z _).mono ?_; rintro e w1 ⟨rfl, rfl⟩)
            | (go_at_call 40; refine hc.mono ?_; rintro e W ⟨V2, s2, rfl, rfl, hL2, hS2, hK2⟩; have H2 := Lib.hid (And.intro hL2 (And.intro hS2 hK2)); clear hL2 hS2 hK2))
          go_roundg (m - (j + 1))
          case measure => have := HR.out.2.2.2.2; omega
          case rel =>
            obtain ⟨hS, hi, hK, hj, hlt⟩ := HR.out
            obtain ⟨hL2, hS2, hK2⟩ := H2.out
            exact ⟨j + 1, V2, s2, y1, rfl, hlt, by rw [Nat.add_assoc], by simp, rfl, hL2, hS.trans hS2, hK2.one h1 h2 (by decide) hi, fun h => by omega, hK.trans hK2.kx⟩
    · obtain rfl : j = m := by omega
      have z0 := HX.out.2.2.1
      unfold Pw.DigEnd
      generalize hz : E.at (c + j) = z at z0 ⊢
      have HZ := Lib.hid hz
      clear hz
      have d0 : decide (48 ≤ z) = false := decide_eq_false (by omega)
      have d1 : (z == 95) = false := by simp; omega
      have HR := Lib.hid (And.intro hS (And.intro hi (And.intro hK (And.intro hL (And.intro hD hy)))))
      clear hL hS hi hK hj hge hD hy
      go_wp2_with (go_at_call 44; refine (hdec _ _).mono ?_; rintro e w1 ⟨rfl, rfl⟩)
      go_ret2
      obtain ⟨hS, hi, hK, hL, hD, hy⟩ := HR.out
      subst hD
      exact ⟨V1, s1, y1, by first | rfl | (rw [HZ.out]; rfl), rfl, hL, hS, hi, fun h => hy (by rcases h with h | h <;> omega), hK⟩
end Go.Proofs

/- Part of the proof of FnPlaceBack: walk: the scanner's next, its fast way. No condition. -/
import Derived.Test.YtmhpnnbfnbaekaaGreatDoorMS45
namespace Go.Proofs
open Go Go.RowKit
variable {b B : Nat} {r : Option Nat}
/-- strings.Reader.Read at the text's end. -/
theorem Pw.readEnd (V : Bs b) (s : SS) (rb N c : Nat) (S : ByteArray) (eof : Value) (hne : rb ≠ b) (h2 : 2 ≠ b) (hN : S.size = N) (_hN1 : N ≤ 1000000) (r0 : V.1.cell? ⟨rb, 0, none⟩ = some (.string S)) (r1 : V.1.cell? ⟨rb, 1, none⟩ = some (.int .i64 N)) (he : V.1.cell? ⟨2, 0, none⟩ = some eof) :
    Calls Tryz.prog 169 #[.pointer (some ⟨rb, 0, none⟩), .slice (some ⟨b, 1, none⟩) 1024 c] (St V s) fun e w' => ∃ V' : Bs b, e = .returned (.tuple #[.int .i64 0, eof]) ∧ w' = St V' s ∧ Kp B none V V' ∧ V'.1.heap = V.1.heap := by
  have k0 : ∀ (V : Bs b) s, (St V s).cell? ⟨rb, 0, none⟩ = V.1.cell? ⟨rb, 0, none⟩ := fun V s => St.cell_other V s _ hne
  have k1 : ∀ (V : Bs b) s, (St V s).cell? ⟨rb, 1, none⟩ = V.1.cell? ⟨rb, 1, none⟩ := fun V s => St.cell_other V s _ hne
  have k2 : ∀ (V : Bs b) s, (St V s).cell? ⟨2, 0, none⟩ = V.1.cell? ⟨2, 0, none⟩ := fun V s => St.cell_other V s _ h2
  clear hne h2
  go_enter Tryz.func169, Tryz.ntmps169
  go_wp2
  go_region
  go_wp2
  go_region
  go_wp2
  go_ret2
  exact ⟨_, rfl, rfl, ⟨⟨rfl, rfl, rfl, Nat.le_refl _, fun _ _ => rfl⟩, fun _ _ h _ _ _ => h⟩, rfl⟩
theorem Pw.extr (S : ByteArray) (i N k : Nat) (h : k < (S.extract i N).size) (h2 : i + k < S.size) : (S.extract i N)[k] = S[i + k] := by
  rw [ByteArray.getElem_extract]
/-- strings.Reader.Read ahead of the end. -/
theorem Pw.readSome (V : Bs b) (s : SS) (rb N c i n : Nat) (S : ByteArray) (pr : Int) (hB : B ≤ rb) (hne : rb ≠ b) (hN : S.size = N) (hN1 : N ≤ 1000000) (hi : i < N) (hn : n = min (N - i) 1024) (hr : V.1.heap[rb]? = some (.cells #[.string S, .int .i64 i, .int .i64 pr] 96 (0, 0))) :
    Calls Tryz.prog 169 #[.pointer (some ⟨rb, 0, none⟩), .slice (some ⟨b, 1, none⟩) 1024 c] (St V s) fun e w' => ∃ (V' : Bs b) (f : Nat → Int), e = .returned (.tuple #[.int .i64 n, .nilIface]) ∧ w' = St V' { s with byte := f } ∧
      (∀ k, k < n → ∀ h : i + k < S.size, f k = ((S[i + k]'h).toNat : Int)) ∧ (∀ k, n ≤ k → f k = s.byte k) ∧ Kp B (some rb) V V' ∧ V'.1.heap[rb]? = some (.cells #[.string S, .int .i64 (i + n), .int .i64 (-1)] 96 (0, 0)) ∧ (∀ k, k ≠ rb → V'.1.heap[k]? = V.1.heap[k]?) := by
  have r0 : V.1.cell? ⟨rb, 0, none⟩ = some (.string S) := cell_of_row _ _ _ _ _ _ hr
  have r1 : V.1.cell? ⟨rb, 1, none⟩ = some (.int .i64 i) := cell_of_row _ _ _ _ _ _ hr
  have r2 : V.1.cell? ⟨rb, 2, none⟩ = some (.int .i64 pr) := cell_of_row _ _ _ _ _ _ hr
  have f1 : V.1.frozen? ⟨rb, 1, none⟩ = false := Lib.frozen_of_heap hr 1
  have f2 : V.1.frozen? ⟨rb, 2, none⟩ = false := Lib.frozen_of_heap hr 2
  have k0 : ∀ (V : Bs b) s i, (St V s).cell? ⟨rb, i, none⟩ = V.1.cell? ⟨rb, i, none⟩ := fun V s i => St.cell_other V s _ hne
  have k1 : ∀ (V : Bs b) s i, (St V s).frozen? ⟨rb, i, none⟩ = V.1.frozen? ⟨rb, i, none⟩ := fun V s i => St.frozen_other V s _ hne
  have k2 : ∀ (V : Bs b) s i v, (St V s).setCell ⟨rb, i, none⟩ v = St (V.put ⟨rb, i, none⟩ v) s := fun V s i v => St.put V s _ v hne
  have hcp := fun V => St.copy (b := b) V s (S.extract i N) n c (by rw [ByteArray.size_extract]; omega)
  have hlu : decide ((i : Int) ≥ N) = false := decide_eq_false (by omega)
  obtain ⟨f, hf⟩ : ∃ f : Nat → Int, f = fun k => if h : k < n then (((S.extract i N)[k]'(by rw [ByteArray.size_extract]; omega)).toNat : Int) else s.byte k := ⟨_, rfl⟩
  have hcp2 : ∀ V : Bs b, (Builtin.copy_ #[44, 9] 3 #[.slice (some ⟨b, 1, none⟩) 1024 c, .string (S.extract i N)]).run Tryz.prog (St V s) = .ok (goInt n) (St V { s with byte := f }) := by
    intro V; rw [hf]; exact hcp V
  clear hcp
  have HF := Lib.hid (p := (∀ k, k < n → ∀ h : i + k < S.size, f k = ((S[i + k]'h).toNat : Int)) ∧ (∀ k, n ≤ k → f k = s.byte k)) ⟨fun k hk h => by
    rw [hf]; dsimp only
    rw [dif_pos hk, Pw.extr], fun k hk => by rw [hf]; dsimp only; rw [dif_neg (by omega)]⟩
  have HN := Lib.hid (And.intro hn hr)
  have hn1 : n ≤ 1024 := by omega
  clear hf hne hr hn
  go_enter Tryz.func169, Tryz.ntmps169
  go_wp2
  go_region
  go_wp2
  go_region
  go_wp2
  go_ret2
  refine ⟨_, f, rfl, rfl, HF.out.1, HF.out.2, ?_, ?_, fun k hk => ?_⟩
  · exact (Kp.drew V).trans ((Kp.put V.drew ⟨rb, 2, none⟩ _ hB).trans ((Kp.drew _).trans (Kp.put _ ⟨rb, 1, none⟩ _ hB)))
  · have h1 := Lib.heap_setCell_same (w := V.1.drew) (i := 2) HN.out.2 (.int .i64 (-1))
    have h2 := Lib.heap_setCell_same (i := 1) h1 (.int .i64 ((i : Int) + n))
    exact h2
  · rw [Bs.put_val, Below.heap_setCell _ _ _ _ hk]
    show (V.1.drew.setCell ⟨rb, 2, none⟩ _).heap[k]? = _
    rw [Below.heap_setCell _ _ _ _ hk]
    rfl
end Go.Proofs
namespace Go.Proofs
open Go Go.RowKit
/-- The scanner has handed on o + p signs of the text; the token begun at 'tok' is being kept. -/
structure Sc (E : Env) (V : Bs E.b) (s : SS) (p f o l : Nat) (tok : Option Nat) : Prop where
  src : s.src = .iface 85 (.pointer (some ⟨E.rb, 0, none⟩))
  pos : s.pos = p
  fin : s.fin = f
  off : s.off = o
  lc : s.lc = l
  pf : p ≤ f
  f24 : f ≤ 1024
  oN : o + f ≤ E.S.size
  lp : l ≤ p
  l1 : l ≤ 1
  bytes : ∀ k, k < f → s.byte k = E.at (o + k)
  sent : s.byte f = 128
  rd : ∃ pr : Int, V.1.heap[E.rb]? = some (.cells #[.string E.S, .int .i64 ((o + f : Nat) : Int), .int .i64 pr] 96 (0, 0))
  col0 : 0 ≤ s.col
  col1 : s.col + l ≤ 2 * (o + p : Nat) + 1
  mode : s.mode = 28
  ws : s.ws = 4294977024
  idr : s.idr = .nilFunc
  buf : ∃ bs, Bf E.B V s bs ∧ (∀ v ∈ bs, v.oneCell' = true) ∧ (∀ a, tok = some a → ∃ t : Nat, s.tp = t ∧ t ≤ p ∧ a ≤ o + t ∧ bs = E.cells a (o + t - a)) ∧ (tok = none → s.tp = -1)
  eofv : V.1.cell? ⟨2, 0, none⟩ = some (.iface 183 (.pointer (some E.eof)))
  tab : ∀ c, c < 128 → V.1.cell? ⟨6, c, none⟩ = some (.int .u8 240)
set_option maxRecDepth 100000 in
theorem Pw.next_fast (E : Env) (V : Bs E.b) (s : SS) (p f o l : Nat) (tok : Option Nat) (h : Sc E V s p f o l tok) (hlt : p < f) :
    Calls Tryz.prog 40 #[.pointer (some ⟨E.b, 0, none⟩)] (St V s) fun e w' => ∃ V' : Bs E.b, e = .returned (.int .i32 (E.at (o + p))) ∧ w' = St V' { s with pos := p + 1, lc := 1, col := s.col + 1 } ∧ V'.1.heap = V.1.heap ∧ Kp E.B none V V' := by
  have hp := h.pos
  have hcol0 := h.col0
  have hcol1 := h.col1
  have hf24 := h.f24
  have hoN := h.oN
  have hN := E.hN
  obtain ⟨x0, x1, x2⟩ := E.at_lt (i := o + p) (by omega)
  obtain ⟨x, hx⟩ : ∃ x, x = E.at (o + p) := ⟨_, rfl⟩
  have hb := h.bytes p hlt
  rw [← hx] at x0 x1 x2 hb ⊢
  have hbyte : ∀ V : Bs E.b, (St V s).cell? ⟨E.b, 1 + p, none⟩ = some (.int .u8 x) := fun V => by rw [St.byteAt V s p (by omega), hb]
  have t0 : (x == 0) = false := by simp; omega
  have t1 : (x == 10) = false := by simp; omega
  have hcc : s.col ≤ 4000000 := by omega
  clear h hx hb hN hoN
  go_enter Tryz.func40, Tryz.ntmps40
  go_wp2
  go_region
  go_wp2
  go_ret
  exact ⟨_, rfl, rfl, rfl, Kp.drew V⟩
end Go.Proofs
namespace Go.Proofs
open Go Go.RowKit
theorem Pw.nil_ahead (a : Addr) (w : World) : (nilAhead 353 85 (.pointer (some a)) "Read").run Tryz.prog w = .ok (some false) w := by kernel_rfl
theorem Pw.method_read (a : Addr) (w : World) : (method 353 85 (.pointer (some a)) "Read").run Tryz.prog w = .ok (169, .pointer (some a)) w := by kernel_rfl
theorem Pw.copy0 (d a : Option Addr) (dLen dCap c : Nat) (W : World) : (Builtin.copy_ #[44, 44] 3 #[.slice d dLen dCap, .slice a 0 c]).run Tryz.prog W = .ok (goInt 0) W := run_copy_none W 44 44 3 5 d a dLen dCap 0 c Tryz.underlying44 Pw.info5 (by simp)
theorem Pw.stillTail {P : Program} {id : Nat} {Q : Exit → Act → World → Prop} {a : Act} {w : World} {l : List Oper} (n : Nat) (hm : P.follows .mixedOrders = true) (hB : Region.lexTailB .any l.toArray n = true)
    (h : wpStill P l.toArray w.drew (fun a' => wpList P l.toArray Q (l.drop n) a' w.drew) (l.take n) a) : (Code.region id l.toArray true).wp P Q a w := wp_region_still_tail n hm hB h
theorem Kp.cell {b B : Nat} {r : Option Nat} {V V' : Bs b} (h : Kp B r V V') {k i : Nat} (hk : k < B) : V'.1.cell? ⟨k, i, none⟩ = V.1.cell? ⟨k, i, none⟩ := h.below.cell (p := ⟨k, i, none⟩) hk
theorem Kp.heap {b B : Nat} {r : Option Nat} {V U V' : Bs b} (h : Kp B r V U) (e : V'.1.heap = U.1.heap) (ho : V'.1.os = U.1.os) (ht : V'.1.tape = U.1.tape) (hp : V'.1.output = U.1.output) : Kp B r V V' :=
  ⟨⟨ho.trans h.below.os, ht.trans h.below.tape, hp.trans h.below.output, by rw [e]; exact h.below.size, fun k hk => by rw [e]; exact h.below.block k hk⟩, fun k o h1 h2 h3 h4 => by rw [e]; exact h.others k o h1 h2 h3 h4⟩
theorem Kp.via {b B : Nat} {r : Option Nat} {V U V' W : Bs b} (k : Kp B r V' W) (h : Kp B r V U) (e : V'.1.heap = U.1.heap) (ho : V'.1.os = U.1.os) (ht : V'.1.tape = U.1.tape) (hp : V'.1.output = U.1.output) : Kp B r V W := (Kp.heap h e ho ht hp).trans k
theorem Sc.row {E : Env} {V V' : Bs E.b} {s : SS} {p f o l : Nat} {tok : Option Nat} (h : Sc E V s p f o l tok) (k : Kp E.B none V V') : ∃ pr : Int, V'.1.heap[E.rb]? = some (.cells #[.string E.S, .int .i64 ((o + f : Nat) : Int), .int .i64 pr] 96 (0, 0)) := by
  obtain ⟨pr, hr⟩ := h.rd
  refine ⟨pr, k.others _ _ hr E.hne (by simp) fun c fz e => ?_⟩
  injection e with _ e _
  exact absurd e (by decide)
theorem Sc.tabs {E : Env} {V V' : Bs E.b} {s : SS} {p f o l : Nat} {tok : Option Nat} {r : Option Nat} (h : Sc E V s p f o l tok) (k : Kp E.B r V V') : V'.1.cell? ⟨2, 0, none⟩ = some (.iface 183 (.pointer (some E.eof))) ∧ ∀ c, c < 128 → V'.1.cell? ⟨6, c, none⟩ = some (.int .u8 240) :=
  ⟨(k.cell (by have := E.h6; omega)).trans h.eofv, fun c hc => (k.cell E.h6).trans (h.tab c hc)⟩
end Go.Proofs

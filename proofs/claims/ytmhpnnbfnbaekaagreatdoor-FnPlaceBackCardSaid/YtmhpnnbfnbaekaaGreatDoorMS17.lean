/- Part of the proof of FnPlaceBack: walk: TokenText and the lexer. No condition. -/
import Derived.Test.YtmhpnnbfnbaekaaGreatDoorMS14
import Derived.Laws.EntriesVeiled
namespace Go.Proofs
open Go Go.RowKit
/-- A stretch of the text. -/
def Env.seg (E : Env) (a n : Nat) : List UInt8 := (List.range n).map fun i => UInt8.ofNat (E.at (a + i)).toNat
def Env.text (E : Env) (a n : Nat) : ByteArray := ⟨(E.seg a n).toArray⟩
theorem Env.seg_cells (E : Env) (a n : Nat) (h : a + n ≤ E.S.size) : Lib.byteCells (E.seg a n) = E.cells a n := by
  unfold Lib.byteCells Env.seg Env.cells
  rw [List.map_map]
  refine List.map_congr_left fun i hi => ?_
  have hi2 := List.mem_range.1 hi
  have := E.at_lt (i := a + i) (by omega)
  show Value.int .u8 ((UInt8.ofNat (E.at (a + i)).toNat).toNat : Int) = _
  congr 1
  rw [UInt8.toNat_ofNat']
  omega
def Pw.TextEnd (E : Env) (V : Bs E.b) (s : SS) (a c : Nat) (e : Ending) (w' : World) : Prop :=
  ∃ (V' : Bs E.b) (s' : SS) (tok : Option Nat), e = .returned (.string (E.text a (c - a))) ∧ w' = St V' s' ∧ Look E V' s' c tok ∧ s'.ch = E.at c ∧ s'.err = s.err ∧ s'.pk = s.pk ∧ Kp E.B (some E.rb) V V'
set_option maxRecDepth 100000 in
set_option maxHeartbeats 2000000 in
theorem Pw.tokenText0 (E : Env) (V : Bs E.b) (s : SS) (a c p f o l t u : Nat) (hS : Sc E V s p f o l (some a)) (g1 : c ≤ E.S.size) (g2 : o + p = min (c + 1) E.S.size) (g3 : c + l = o + p) (g4 : s.te = u) (g5 : u + l = p) (g6 : s.ch = E.at c) (htp : s.tp = t) (htu : t ≤ u) (hb : Bf E.B V s []) (hao : a = o + t) :
    Calls Tryz.prog 35 #[.pointer (some ⟨E.b, 0, none⟩)] (St V s) (Pw.TextEnd E V s a c) := by
  have hlen : ∀ V' : Bs E.b, V'.1.heap = V.1.heap → Calls Tryz.prog 50 #[.pointer (some ⟨E.b, 1033, none⟩)] (St V' s) fun e w' => e = .returned (.int .i64 0) ∧ ∃ n, w' = St (V'.drewN n) s := fun V' hV => by
    have hb' : Bf E.B V' s [] := hb.world fun k c hk _ => by rw [hV]; exact hk
    refine (Tryz.Buffer_Len_at 77 s.R E.B E.b 1033 [] (St V' s) (hb'.buffer E.hB)).mono ?_
    rintro e w' ⟨rfl, n, rfl⟩
    exact ⟨rfl, n, rfl⟩
  have hf24 := hS.f24
  have hpf := hS.pf
  have hoN := hS.oN
  have hstr : ∀ V' : Bs E.b, (convert 44 9 (.slice (some ⟨E.b, 1 + t, none⟩) (u - t) (1025 - t))).run Tryz.prog (St V' s) = .ok (.string (E.text a (c - a))) (St V' s) := fun V' => by
    have hx := run_convert_bytes_arg (P := Tryz.prog) (St V' s) 44 5 Tryz.underlying44 Tryz.underlying5 E.b (1 + t) (u - t) (1025 - t) ((List.range (u - t)).map fun i => E.at (a + i)) (by simp) (fun i hi => by
      rw [show 1 + t + i = 1 + (t + i) from by omega, St.byteAt V' s (t + i) (by omega), hS.bytes (t + i) (by omega)]
      simp [hi, hao, Nat.add_assoc]) 9 Tryz.underlying9
    rw [hx]
    congr 2
    unfold strOfNums Env.text Env.seg
    rw [List.map_map, show c - a = u - t from by omega]
    rfl
  obtain ⟨X, hX⟩ : ∃ X, X = E.text a (c - a) := ⟨_, rfl⟩
  unfold Pw.TextEnd
  rw [← hX] at hstr ⊢
  clear hX
  have t0 : ¬ (1025 = t) := by omega
  have t1 : decide ((t : Int) < 0) = false := decide_eq_false (by omega)
  have t2 : decide ((u : Int) < t) = false := decide_eq_false (by omega)
  have b1 : u ≤ 1025 := by omega
  have b2 : (u : Int) ≤ 1025 := by omega
  have b3 : (t : Int) ≤ u := by omega
  have H := Lib.hid (And.intro hS (And.intro g1 (And.intro g2 (And.intro g3 (And.intro g6 hlen)))))
  have hlt : t + o ≤ c := by omega
  have hpk0 := Lib.hid hlt
  clear hS g1 g2 g3 g6 hlen hb hao hlt g5 hpf hoN
  go_enter Tryz.func35, Tryz.ntmps35
  go_wp2
  go_region
  go_wp2_with (go_at_call 50; go_must (refine (H.out.2.2.2.2.2 _ ?_).mono ?_; exact rfl; rintro e W ⟨rfl, n, rfl⟩))
  go_region
  go_wp2
  go_ret
  obtain ⟨hS, g1, g2, g3, g6, -⟩ := H.out
  exact ⟨_, s, some a, rfl, rfl, ⟨p, f, o, l, hS.chg rfl rfl rfl rfl rfl rfl rfl rfl rfl rfl rfl rfl rfl rfl, g1, g2, g3, by rw [htp]; have := hpk0.out; omega⟩, g6, rfl, rfl, Kp.heap (Kp.refl V) rfl rfl rfl rfl⟩
set_option maxRecDepth 100000 in
set_option maxHeartbeats 2000000 in
theorem Pw.tokenText1 (E : Env) (V : Bs E.b) (s : SS) (a c p f o l t u m : Nat) (bs : List Value) (hS : Sc E V s p f o l (some a)) (g1 : c ≤ E.S.size) (g2 : o + p = min (c + 1) E.S.size) (g3 : c + l = o + p) (g4 : s.te = u) (g5 : u + l = p) (g6 : s.ch = E.at c) (htp : s.tp = t) (htu : t ≤ u) (hb : Bf E.B V s bs) (hao : a ≤ o + t) (hbs : bs = E.cells a (o + t - a)) (hm : bs.length = m) (hm0 : m ≠ 0) :
    Calls Tryz.prog 35 #[.pointer (some ⟨E.b, 0, none⟩)] (St V s) (Pw.TextEnd E V s a c) := by
  have hlen : ∀ V' : Bs E.b, V'.1.heap = V.1.heap → Calls Tryz.prog 50 #[.pointer (some ⟨E.b, 1033, none⟩)] (St V' s) fun e w' => e = .returned (.int .i64 m) ∧ ∃ n, w' = St (V'.drewN n) s := fun V' hV => by
    have hb' : Bf E.B V' s bs := hb.world fun k c hk _ => by rw [hV]; exact hk
    refine (Tryz.Buffer_Len_at 77 s.R E.B E.b 1033 bs (St V' s) (hb'.buffer E.hB)).mono ?_
    rintro e w' ⟨rfl, n, rfl⟩
    exact ⟨by rw [hm], n, rfl⟩
  have hf24 := hS.f24
  have hpf := hS.pf
  have hoN := hS.oN
  have hN := E.hN
  have hone : ∀ v ∈ bs, v.oneCell' = true := by rw [hbs]; exact E.cells_one _ _
  have hml : m ≤ 1000000 := by rw [← hm, hbs, Env.cells_length]; omega
  have hwr : ∀ (V' : Bs E.b) (hV : V'.1.heap = V.1.heap), Calls Tryz.prog 51 #[.pointer (some ⟨E.b, 1033, none⟩), .slice (some ⟨E.b, 1 + t, none⟩) (u - t) (1025 - t)] (St V' s) fun e w' => ∃ (V2 : Bs E.b) (v : Value) (lr : Int), e = .returned (.tuple #[.int .i64 ((u - t : Nat) : Int), .nilIface]) ∧ w' = St V2 { s with buf := v, boff := 0, blr := lr } ∧
      Bf E.B V2 { s with buf := v, boff := 0, blr := lr } (E.cells a (c - a)) ∧ Kp E.B none V' V2 := fun V' hV => by
    refine (Pw.stWrite (B := E.B) V' s bs (E.cells (o + t) (u - t)) t (u - t) (1025 - t) E.hB (hb.world fun k c hk _ => by rw [hV]; exact hk) hone (Env.cells_length _ _ _) (by omega) (fun j v hj => by
      obtain ⟨hj1, rfl⟩ := Env.cells_get E hj
      rw [hS.bytes (t + j) (by omega)]
      congr 2
      omega) (by omega)).mono ?_
    rintro e w' ⟨V2, v, lr, rfl, rfl, hB2, hK2⟩
    refine ⟨V2, v, lr, rfl, rfl, ?_, ?_⟩
    · have e1 : bs ++ E.cells (o + t) (u - t) = E.cells a (c - a) := by
        rw [hbs, show o + t = a + (o + t - a) from by omega, show a + (o + t - a) - a = o + t - a from by omega, E.cells_append]
        congr 1
        omega
      rw [e1] at hB2
      exact hB2
    · exact hK2
  have hst : ∀ (V' : Bs E.b) (s' : SS), Bf E.B V' s' (E.cells a (c - a)) → Calls Tryz.prog 52 #[.pointer (some ⟨E.b, 1033, none⟩)] (St V' s') fun e w' => e = .returned (.string (E.text a (c - a))) ∧ ∃ n, w' = St (V'.drewN n) s' := fun V' s' hB' => by
    rw [← E.seg_cells a (c - a) (by omega)] at hB'
    refine (Tryz.Buffer_String_at 77 s'.R E.B E.b 1033 (E.seg a (c - a)) (St V' s') (hB'.buffer E.hB)).mono ?_
    rintro e w' ⟨rfl, n, rfl⟩
    exact ⟨rfl, n, rfl⟩
  obtain ⟨X, hX⟩ : ∃ X, X = E.text a (c - a) := ⟨_, rfl⟩
  unfold Pw.TextEnd
  rw [← hX] at hst ⊢
  clear hX
  have t0 : ¬ (1025 = t) := by omega
  have t1 : decide ((t : Int) < 0) = false := decide_eq_false (by omega)
  have t2 : decide ((u : Int) < t) = false := decide_eq_false (by omega)
  have t3 : ((m : Int) == 0) = false := by simp; omega
  have b1 : u ≤ 1025 := by omega
  have b2 : (u : Int) ≤ 1025 := by omega
  have b3 : (t : Int) ≤ u := by omega
  have H := Lib.hid (And.intro hS (And.intro g1 (And.intro g2 (And.intro g3 (And.intro g6 (And.intro hlen (And.intro hwr hst)))))))
  have hlt : u + o = c := by omega
  have hpk0 := Lib.hid (And.intro hlt (And.intro g5 hao))
  clear hS g1 g2 g3 g6 hlen hb hao hlt g5 hpf hoN hwr hst hbs hm hone
  go_enter Tryz.func35, Tryz.ntmps35
  go_wp2
  go_region
  go_wp2_with (go_at_call 50; go_must (refine (H.out.2.2.2.2.2.1 _ ?_).mono ?_; exact rfl; rintro e W ⟨rfl, n, rfl⟩))
  refine Pw.stillTail 15 (by kernel_rfl) (by kernel_rfl) ?_
  simp only [List.take_succ_cons, List.take_zero, List.drop_succ_cons, List.drop_zero]
  repeat still_step
  refine wpStill_nil ?_
  rw [St.drew]
  go_wp2_with (first
    | (go_at_call 51; go_must (refine (H.out.2.2.2.2.2.2.1 _ ?_).mono ?_; exact rfl; rintro e W ⟨V2, v, lr, rfl, rfl, hB2, hK2⟩; have H2 := Lib.hid (And.intro hB2 hK2); clear hB2 hK2))
    | (go_at_call 52; go_must (refine (H.out.2.2.2.2.2.2.2 _ _ ?_).mono ?_; exact H2.out.1.one rfl rfl; rintro e W ⟨rfl, n2, rfl⟩)))
  go_ret
  obtain ⟨hS, g1, g2, g3, g6, -⟩ := H.out
  obtain ⟨hB2, hK2⟩ := H2.out
  obtain ⟨q1, q2, q3⟩ := hpk0.out
  have hrow : ∀ k c, V2.1.heap[k]? = some (.cells c 5 (0, 0)) → k ≠ E.b → (V2.drewN n2).1.heap[k]? = some (.cells c 5 (0, 0)) := fun k c h _ => h
  have hK3 : Kp E.B none V (V2.drewN n2) := Kp.heap (Kp.via hK2 (Kp.refl V) rfl rfl rfl rfl) rfl rfl rfl rfl
  refine ⟨_, _, some a, rfl, rfl, ⟨p, f, o, l, ?_, g1, g2, g3, by show (u : Int) + o ≤ c; omega⟩, g6, rfl, rfl, hK3.more⟩
  refine ⟨hS.src, hS.pos, hS.fin, hS.off, hS.lc, hS.pf, hS.f24, hS.oN, hS.lp, hS.l1, hS.bytes, hS.sent, hS.row hK3, hS.col0, hS.col1, hS.mode, hS.ws, hS.idr, ?_, (hS.tabs hK3).1, (hS.tabs hK3).2⟩
  refine ⟨_, (hB2.world hrow).one rfl rfl, E.cells_one _ _, fun a' ha => ?_, fun h => by cases h⟩
  cases ha
  exact ⟨u, rfl, by omega, by omega, by rw [show o + u - a = c - a from by omega]⟩
end Go.Proofs
namespace Go.Proofs
open Go Go.RowKit
theorem Pw.tokenText (E : Env) (V : Bs E.b) (s : SS) (a c : Nat) (h : Done E V s a c) : Calls Tryz.prog 35 #[.pointer (some ⟨E.b, 0, none⟩)] (St V s) (Pw.TextEnd E V s a c) := by
  obtain ⟨p, f, o, l, hS, g1, g2, g3, g4, g5, g6⟩ := h
  obtain ⟨bs, hb, h1, h2, -⟩ := hS.buf
  obtain ⟨t, ht, htp, hat, hbs⟩ := h2 a rfl
  have hlp := hS.lp
  have hte : s.te = ((p - l : Nat) : Int) := by rw [g5]; omega
  by_cases hz : o + t - a = 0
  · have hb0 : bs = [] := by rw [hbs, hz]; rfl
    subst hb0
    exact Pw.tokenText0 E V s a c p f o l t (p - l) hS g1 g2 g3 hte (by omega) g6 ht (by omega) hb (by omega)
  · exact Pw.tokenText1 E V s a c p f o l t (p - l) bs.length bs hS g1 g2 g3 hte (by omega) g6 ht (by omega) hb hat hbs rfl (by rw [hbs, Env.cells_length]; exact hz)
/-- Between two tokens: the sign ahead is the one at c. -/
def Gap (E : Env) (V : Bs E.b) (s : SS) (c : Nat) : Prop := (c = 0 ∧ Sc E V s 0 0 0 0 none ∧ s.ch = -2) ∨ ∃ tok, Look E V s c tok ∧ s.ch = E.at c
theorem Gap.peek {E : Env} {V : Bs E.b} {s : SS} {c : Nat} (h : Gap E V s c) : ∃ tok, Calls Tryz.prog 39 #[.pointer (some ⟨E.b, 0, none⟩)] (St V s) (Pw.PeekEnd E V s c tok) := by
  rcases h with ⟨rfl, hS, hc⟩ | ⟨tok, hL, hc⟩
  · exact ⟨none, Pw.peekFirst E V s hS hc⟩
  · exact ⟨tok, Pw.peekNext E V s c tok hL hc⟩
theorem Gap.chg {E : Env} {V : Bs E.b} {s s' : SS} {c : Nat} (h : Gap E V s c) (h1 : s'.src = s.src) (h2 : s'.byte = s.byte) (h3 : s'.pos = s.pos) (h4 : s'.fin = s.fin) (h5 : s'.off = s.off) (h6 : s'.lc = s.lc) (h7 : s'.col = s.col)
    (h8 : s'.mode = s.mode) (h9 : s'.ws = s.ws) (h10 : s'.idr = s.idr) (h11 : s'.buf = s.buf) (h12 : s'.boff = s.boff) (h13 : s'.tp = s.tp) (h14 : s'.ch = s.ch) : Gap E V s' c := by
  rcases h with ⟨rfl, hS, hc⟩ | ⟨tok, hL, hc⟩
  · exact .inl ⟨rfl, hS.chg rfl h1 h2 h3 h4 h5 h6 h7 h8 h9 h10 h11 h12 h13, h14.trans hc⟩
  · exact .inr ⟨tok, hL.chg rfl h1 h2 h3 h4 h5 h6 h7 h8 h9 h10 h11 h12 h13, h14.trans hc⟩
theorem Sc.ext {E : Env} {V V' : Bs E.b} {s : SS} {p f o l : Nat} {tok : Option Nat} (hS : Sc E V s p f o l tok) (hk : ∀ k, k < V.1.heap.size → k ≠ E.b → V'.1.heap[k]? = V.1.heap[k]?) : Sc E V' s p f o l tok := by
  have hb := V.2
  have hB := E.hB
  have h6 := E.h6
  refine ⟨hS.src, hS.pos, hS.fin, hS.off, hS.lc, hS.pf, hS.f24, hS.oN, hS.lp, hS.l1, hS.bytes, hS.sent, ?_, hS.col0, hS.col1, hS.mode, hS.ws, hS.idr, ?_, ?_, ?_⟩
  · obtain ⟨pr, hr⟩ := hS.rd
    exact ⟨pr, by rw [hk _ (Lib.lt_of_heap hr) E.hne]; exact hr⟩
  · obtain ⟨bs, hb, e⟩ := hS.buf
    exact ⟨bs, hb.ext hk, e⟩
  · rw [World.cell?_of_block (w := V.1) (hk 2 (by omega) (by omega))]; exact hS.eofv
  · intro c hc; rw [World.cell?_of_block (w := V.1) (hk 6 (by omega) (by omega))]; exact hS.tab c hc
theorem Gap.ext {E : Env} {V V' : Bs E.b} {s : SS} {c : Nat} (h : Gap E V s c) (hk : ∀ k, k < V.1.heap.size → k ≠ E.b → V'.1.heap[k]? = V.1.heap[k]?) : Gap E V' s c := by
  rcases h with ⟨rfl, hS, hc⟩ | ⟨tok, hL, hc⟩
  · exact .inl ⟨rfl, hS.ext hk, hc⟩
  · exact .inr ⟨tok, hL.ext hk, hc⟩
theorem Gap.ne {E : Env} {V : Bs E.b} {s : SS} {c : Nat} (h : Gap E V s c) : V.1.heap.size ≠ E.b ∧ V.1.heap.size ≠ E.rb ∧ E.B ≤ V.1.heap.size := by
  have key : ∀ p f o l tok, Sc E V s p f o l tok → V.1.heap.size ≠ E.b ∧ V.1.heap.size ≠ E.rb ∧ E.B ≤ V.1.heap.size := fun p f o l tok hS => by
    obtain ⟨pr, hr⟩ := hS.rd
    have := Lib.lt_of_heap hr
    have := V.2
    have := E.hB
    refine ⟨by omega, by omega, by omega⟩
  rcases h with ⟨rfl, hS, hc⟩ | ⟨tok, ⟨p, f, o, l, hS, -⟩, hc⟩
  · exact key _ _ _ _ _ hS
  · exact key _ _ _ _ _ hS
def Pw.ScanEnd (E : Env) (V : Bs E.b) (s : SS) (c k L : Nat) (tv : Int) (e : Ending) (w' : World) : Prop :=
  ∃ (V' : Bs E.b) (s' : SS), e = .returned (.int .i32 tv) ∧ w' = St V' s' ∧ Done E V' s' (c + k) (c + k + L) ∧ s'.err = s.err ∧ s'.pk = s.pk ∧ Kp E.B (some E.rb) V V'
def Pw.LexEnd (E : Env) (V : Bs E.b) (c k L : Nat) (e : Ending) (w' : World) : Prop :=
  ∃ (V' : Bs E.b) (s' : SS), e = .returned (.tuple #[.string (E.text (c + k) L), .nilIface]) ∧ w' = St V' s' ∧ Gap E V' s' (c + k + L) ∧ s'.pk = .string ⟨#[]⟩ ∧ Kp E.B (some E.rb) V V'
set_option maxRecDepth 100000 in
set_option maxHeartbeats 2000000 in
theorem Pw.lexNext (E : Env) (V : Bs E.b) (s : SS) (c k L : Nat) (tv : Int) (hG : Gap E V s c) (hp : s.pk = .string ⟨#[]⟩) (htv : (tv == -1) = false) (hscan : ∀ (V' : Bs E.b) (s' : SS), Gap E V' s' c → Calls Tryz.prog 34 #[.pointer (some ⟨E.b, 0, none⟩)] (St V' s') (Pw.ScanEnd E V' s' c k L tv)) :
    Calls Tryz.prog 30 #[.pointer (some ⟨E.b, 0, none⟩)] (St V s) (Pw.LexEnd E V c k L) := by
  have hne := hG.ne
  have hal := fun o => St.alloc V s o
  obtain ⟨iv, hiv⟩ : ∃ iv, V.1.heap.size = iv := ⟨_, rfl⟩
  rw [hiv] at hne
  have hold : ∀ o k, k < V.1.heap.size → (V.alloc o).1.heap[k]? = V.1.heap[k]? := fun o k hk => Below.heap_alloc _ _ k hk
  have hnew : (V.alloc (.cells #[.nilIface] 39)).1.heap[iv]? = some (.cells #[.nilIface] 39 (0, 0)) := by rw [← hiv]; exact heap_alloc_new V.1 _
  have hget : ∀ (V' : Bs E.b) s, Kp E.B (some E.rb) (V.alloc (.cells #[.nilIface] 39)) V' → (St V' s).cell? ⟨iv, 0, none⟩ = some .nilIface := fun V' s hK => by
    rw [St.cell_other _ s _ hne.1]
    exact cell_of_row _ _ _ _ _ _ (hK.one hne.1 hne.2.1 (by decide) hnew)
  have hKa : ∀ V' : Bs E.b, Kp E.B (some E.rb) (V.alloc (.cells #[.nilIface] 39)) V' → Kp E.B (some E.rb) V V' := fun V' hK => by
    refine Kp.trans ⟨(Below.refl _ _).alloc (by rw [hiv]; exact hne.2.2) _, fun k o h1 _ _ _ => ?_⟩ hK
    rw [hold _ k (Array.getElem?_eq_some_iff.1 h1).1]; exact h1
  have H := Lib.hid (And.intro hG (And.intro hscan (And.intro hold (And.intro hget hKa))))
  clear hG hscan hold hnew hget hKa
  go_enter Tryz.func30, Tryz.ntmps30
  go_wp2_with (first
    | (go_at_call 34; go_must (refine (H.out.2.1 _ _ ?_).mono ?_; exact (H.out.1.ext (fun k hk _ => H.out.2.2.1 _ k hk)).chg rfl rfl rfl rfl rfl rfl rfl rfl rfl rfl rfl rfl rfl rfl; rintro e W ⟨V1, s1, rfl, rfl, hD1, he1, hp1, hK1⟩; have hg1 := H.out.2.2.2.1 V1 s1 hK1; have htx := Pw.tokenText E V1 s1 _ _ hD1; have H1 := Lib.hid (And.intro hp1 hK1); clear hD1 he1 hp1 hK1))
    | (go_at_call 35; go_must (refine htx.mono ?_; rintro e W ⟨V2, s2, tok2, rfl, rfl, hL2, hc2, he2, hp2, hK2⟩; have H2 := Lib.hid (And.intro hL2 (And.intro hc2 (And.intro hp2 hK2))); clear hL2 hc2 he2 hp2 hK2 htx)))
  go_ret2
  obtain ⟨hp1, hK1⟩ := H1.out
  obtain ⟨hL2, hc2, hp2, hK2⟩ := H2.out
  exact ⟨V2, s2, rfl, rfl, .inr ⟨tok2, hL2, hc2⟩, hp2.trans hp1, (H.out.2.2.2.2 V1 hK1).trans hK2⟩
end Go.Proofs

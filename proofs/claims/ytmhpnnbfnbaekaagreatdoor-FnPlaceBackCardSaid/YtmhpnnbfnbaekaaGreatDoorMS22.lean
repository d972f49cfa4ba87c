/- Part of the proof of FnPlaceBack: walk: a point's numbers. No condition. -/
import Derived.Test.YtmhpnnbfnbaekaaGreatDoorMS20
import Derived.Test.YtmhpnnbfnbaekaaGreatDoorMW13
namespace Go.Proofs
open Go Go.RowKit
/-- Rows of floats from B2 on, across a step of the scanner. -/
theorem Kp.fl {E : Env} {V V' : Bs E.b} {s s' : SS} {B2 : Nat} {v : Value} {xs : List Nat} (h : Pw.Fl B2 v xs (St V s)) (k : Kp E.B (some E.rb) V V') (hb : E.b < B2) (hr : E.rb < B2) : Pw.Fl B2 v xs (St V' s') := by
  obtain ⟨⟨h1, h2⟩, h3⟩ := h
  refine ⟨⟨h1, ?_⟩, by have := k.below.size; simp only [St.size] at h3 ⊢; omega⟩
  rcases h2 with h0 | ⟨g, cap, cur, hv, hBg, hg, rest⟩
  · exact .inl h0
  · refine .inr ⟨g, cap, cur, hv, hBg, ?_, rest⟩
    rw [St.other V s g (by omega)] at hg
    rw [St.other V' s' g (by omega)]
    exact k.others g _ hg (by omega) (by simp; omega) fun c fz e => by injection e with _ e _; exact absurd e (by decide)
theorem Sc.ext2 {E : Env} {V V' : Bs E.b} {s : SS} {p f o l : Nat} {tok : Option Nat} (hS : Sc E V s p f o l tok) (hb : Below E.B V.1 V'.1) (hk : ∀ k o, V.1.heap[k]? = some o → k ≠ E.b → (∀ c fz, o ≠ .cells c 22 fz) → V'.1.heap[k]? = some o) : Sc E V' s p f o l tok := by
  have h6 := E.h6
  refine ⟨hS.src, hS.pos, hS.fin, hS.off, hS.lc, hS.pf, hS.f24, hS.oN, hS.lp, hS.l1, hS.bytes, hS.sent, ?_, hS.col0, hS.col1, hS.mode, hS.ws, hS.idr, ?_, ?_, ?_⟩
  · obtain ⟨pr, hr⟩ := hS.rd
    exact ⟨pr, hk _ _ hr E.hne fun c fz e => by injection e with _ e _; exact absurd e (by decide)⟩
  · obtain ⟨bs, hb, e⟩ := hS.buf
    exact ⟨bs, hb.world fun k c hc hne => hk k _ hc hne fun c fz e => by injection e with _ e _; exact absurd e (by decide), e⟩
  · rw [World.cell?_of_block (w := V.1) (hb.block 2 (by omega))]; exact hS.eofv
  · intro c hc; rw [World.cell?_of_block (w := V.1) (hb.block 6 h6)]; exact hS.tab c hc
theorem Gap.ext2 {E : Env} {V V' : Bs E.b} {s : SS} {c : Nat} (h : Gap E V s c) (hb : Below E.B V.1 V'.1) (hk : ∀ k o, V.1.heap[k]? = some o → k ≠ E.b → (∀ c fz, o ≠ .cells c 22 fz) → V'.1.heap[k]? = some o) : Gap E V' s c := by
  rcases h with ⟨rfl, hS, hc⟩ | ⟨tok, ⟨p, f, o, l, hS, g⟩, hc⟩
  · exact .inl ⟨rfl, hS.ext2 hb hk, hc⟩
  · exact .inr ⟨tok, ⟨p, f, o, l, hS.ext2 hb hk, g⟩, hc⟩
/-- Behind an append of floats. -/
theorem St.adds {E : Env} {V : Bs E.b} {s : SS} {w' : World} {B2 : Nat} {v v' : Value} {xs : List Nat} (hF : Pw.Fl B2 v xs (St V s)) (hb : E.b < B2) (h : Pw.Adds (St V s) w' v v') :
    ∃ V' : Bs E.b, w' = St V' s ∧ Below E.B V.1 V'.1 ∧ ∀ k o, V.1.heap[k]? = some o → k ≠ E.b → (∀ c fz, o ≠ .cells c 22 fz) → V'.1.heap[k]? = some o := by
  obtain ⟨⟨ho, ht, hp, hsz, hbl⟩, -⟩ := h
  obtain ⟨⟨-, h2⟩, -⟩ := hF
  have hrow : ∀ g, v.ownBlock = some g → B2 ≤ g ∧ g ≠ E.b ∧ ∃ c fz, V.1.heap[g]? = some (.cells c 22 fz) := fun g hg => by
    rcases h2 with ⟨rfl, -⟩ | ⟨g', cap, cur, rfl, hBg, hg', rest⟩
    · cases hg
    · have e : g' = g := by simpa [Value.ownBlock] using hg
      subst e
      refine ⟨hBg, by omega, cur, (0, 0), ?_⟩
      rw [St.other V s g' (by omega)] at hg'
      exact hg'
  simp only [St.size] at hsz hbl
  have hlt : E.b < w'.heap.size := Nat.lt_of_lt_of_le V.2 hsz
  have hbw : w'.heap[E.b]? = some (.cells s.arr 77 (0, 0)) := by
    rw [hbl E.b V.2 fun e => (hrow E.b e.symm).2.1 rfl]; exact St.block V s
  refine ⟨⟨w', hlt⟩, St.eq hbw hlt, ⟨ho, ht, hp, hsz, fun k hk => ?_⟩, fun k o hk h1 h2 => ?_⟩
  · have h1 := E.hB
    have h2 := V.2
    rw [hbl k (by omega) fun e => by have := (hrow k e.symm).1; omega, St.other V s k (by omega)]
  · rw [hbl k (Array.getElem?_eq_some_iff.1 hk).1 fun e => ?_, St.other V s k h1]
    · exact hk
    · obtain ⟨-, -, c, fz, hc⟩ := hrow k e.symm
      rw [hc] at hk
      exact h2 c fz (Option.some.inj hk).symm
set_option maxRecDepth 100000 in
theorem Pw.dimension (t : Nat) (ht : t ≤ 3) (w : World) : Calls Tryz.prog 23 #[.int .u8 t] w fun e w' => e = .returned (.int .i64 ((2 + t % 2 + t / 2 : Nat) : Int)) ∧ w = w' := by
  have h3 : t = 0 ∨ t = 1 ∨ t = 2 ∨ t = 3 := by omega
  have i0 : ∀ w, (Instr.index 87 (.agg #[.int .i64 2, .int .i64 3, .int .i64 3, .int .i64 4]) (.int .u8 0)).run Tryz.prog w = .ok (.int .i64 2) w := fun _ => by kernel_rfl
  have i1 : ∀ w, (Instr.index 87 (.agg #[.int .i64 2, .int .i64 3, .int .i64 3, .int .i64 4]) (.int .u8 1)).run Tryz.prog w = .ok (.int .i64 3) w := fun _ => by kernel_rfl
  have i2 : ∀ w, (Instr.index 87 (.agg #[.int .i64 2, .int .i64 3, .int .i64 3, .int .i64 4]) (.int .u8 2)).run Tryz.prog w = .ok (.int .i64 3) w := fun _ => by kernel_rfl
  have i3 : ∀ w, (Instr.index 87 (.agg #[.int .i64 2, .int .i64 3, .int .i64 3, .int .i64 4]) (.int .u8 3)).run Tryz.prog w = .ok (.int .i64 4) w := fun _ => by kernel_rfl
  rcases h3 with rfl | rfl | rfl | rfl
  all_goals
    go_enter Tryz.func23, Tryz.ntmps23
    go_wp2
    go_ret
    exact ⟨rfl, rfl⟩
/-- The literal of one double stands at c, and is read. -/
def Pw.Lit1 (E : Env) (W0 : World) (c b c' : Nat) : Prop :=
  ∀ (V : Bs E.b) (s : SS), Below E.B W0 V.1 → Gap E V s c → s.pk = .string ⟨#[]⟩ → Calls Tryz.prog 24 #[.pointer (some ⟨E.b, 0, none⟩)] (St V s) (Pw.LitEnd E V c' b)
def Pw.Lits (E : Env) (W0 : World) : Nat → List Nat → Prop
  | _, [] => True
  | c, b :: bs => ∃ c', Pw.Lit1 E W0 c b c' ∧ Pw.Lits E W0 c' bs
end Go.Proofs
namespace Go.Proofs
open Go Go.RowKit
def Pw.PointEnd (E : Env) (W0 : World) (B2 : Nat) (bs : List Nat) (e : Ending) (w' : World) : Prop :=
  ∃ v : Value, e = .returned (.tuple #[v, .nilIface]) ∧ Pw.Fl B2 v bs w' ∧ ∃ (V' : Bs E.b) (s' : SS), w' = St V' s' ∧ Below E.B W0 V'.1
/-- out = append(out, a float), the scanner's block beside it. -/
theorem Pw.wp_appSt {E : Env} {ops : Array Oper} {rest : List Oper} {o : Oper} {a : Act} {Q : Exit → Act → World → Prop} {V : Bs E.b} {st : SS} (hgd : o.guard = none) (s x : Operand)
    (ho : o.op = .call { callee := .builtin .append, args := #[s, x], argTypes := #[25, 25] })
    (B2 : Nat) (hb2 : E.b < B2) (v : Value) (xs : List Nat) (hF : Pw.Fl B2 v xs (St V st)) (hs : a.eval s = v) (y : Nat) (cap : Nat)
    (hx : a.eval x = .slice (some ⟨V.1.heap.size, 0, none⟩) 1 cap) (hlen : xs.length ≤ 10) (W : World) (hW : W = (St V st).alloc (.cells #[.float .f64 y] 22))
    (h : ∀ (v' : Value) (V' : Bs E.b), Pw.Fl B2 v' (xs ++ [y]) (St V' st) → Below E.B V.1 V'.1 → (∀ k o, V.1.heap[k]? = some o → k ≠ E.b → (∀ c fz, o ≠ .cells c 22 fz) → V'.1.heap[k]? = some o) → wpList Tryz.prog ops Q rest (a.put o.dst v') (St V' st)) :
    wpList Tryz.prog ops Q (o :: rest) a W := by
  refine Pw.wp_appF hgd s x ho B2 v xs hF hs [y] 1 cap rfl (by rw [St.size]; exact hx) hlen (by simp) W (by rw [hW]; rfl) fun v' w' h1 h2 => ?_
  obtain ⟨V', rfl, h3, h4⟩ := St.adds hF hb2 h2
  exact h v' V' h1 h3 h4
set_option maxRecDepth 100000 in
set_option maxHeartbeats 2000000 in
theorem Pw.pointAppend (E : Env) (W0 : World) (V : Bs E.b) (s : SS) (t : Nat) (ht : t ≤ 3) (bs : List Nat) (hl : bs.length = 2 + t % 2 + t / 2) (hL : Pw.Lits E W0 0 bs) (hbl : Below E.B W0 V.1) (hG : Gap E V s 0) (hp : s.pk = .string ⟨#[]⟩) :
    Calls Tryz.prog 19 #[.pointer (some ⟨E.b, 0, none⟩), .slice none 0 0, .int .u8 t] (St V s) (Pw.PointEnd E W0 V.1.heap.size bs) := by
  have hdim := Pw.dimension t ht
  rw [← hl] at hdim
  obtain ⟨n, hn⟩ : ∃ n, n = bs.length := ⟨_, rfl⟩
  rw [← hn] at hdim
  have hn4 : n ≤ 4 := by omega
  have hne := hG.ne
  obtain ⟨B2, hB2⟩ : ∃ B2, V.1.heap.size = B2 := ⟨_, rfl⟩
  have hb2 : E.b < B2 := by rw [← hB2]; exact V.2
  have hr2 : E.rb < B2 := by
    have key : ∀ p f o l tok, Sc E V s p f o l tok → E.rb < V.1.heap.size := fun p f o l tok hS => by
      obtain ⟨pr, hr⟩ := hS.rd
      exact Lib.lt_of_heap hr
    rw [← hB2]
    rcases hG with ⟨-, hS, -⟩ | ⟨tok, ⟨p, f, o, l, hS, -⟩, -⟩
    · exact key _ _ _ _ _ hS
    · exact key _ _ _ _ _ hS
  have hst := Pw.store_float Tryz.prog
  have H := Lib.hid (And.intro hL (And.intro hbl (And.intro hG (And.intro hp (And.intro hn (And.intro hb2 (And.intro hr2 hB2)))))))
  rw [hB2]
  unfold Pw.PointEnd
  clear hL hbl hG hp hl hn hne hb2 hr2 hB2 ht
  go_enter Tryz.func19, Tryz.ntmps19
  go_wp2
  go_loopw [1, 8] (fun v i wr => ∃ (j c : Nat) (V1 : Bs E.b) (s1 : SS), j ≤ n ∧ i = .int .i64 j ∧ wr = St V1 s1 ∧ Pw.Lits E W0 c (bs.drop j) ∧ Below E.B W0 V1.1 ∧ Gap E V1 s1 c ∧ s1.pk = .string ⟨#[]⟩ ∧ Pw.Fl B2 v (bs.take j) wr) (fun _ i _ => n - (intOf i).toNat)
  case atStart =>
    obtain ⟨hL, hbl, hG, hp, hn, hb2, hr2, hB2⟩ := H.out
    exact ⟨0, 0, V, s, Nat.zero_le _, rfl, rfl, hL, hbl, hG, hp, ⟨World.ownsRow_nil _ _ _ _, by rw [← hB2]; simp⟩⟩
  case round =>
    obtain ⟨j, c, V1, s1, hj, rfl, rfl, hL1, hbl1, hG1, hp1, hF1⟩ := hrel
    obtain ⟨hL, hbl, hG, hp, hn, hb2, hr2, hB2⟩ := H.out
    have hj9 : (j : Int) ≤ 4 := by omega
    rcases Nat.lt_or_ge j n with hlt | hge
    · have hjb : j < bs.length := by omega
      rw [List.drop_eq_getElem_cons hjb] at hL1
      obtain ⟨c', h1, hL2⟩ := hL1
      have hlit := h1 V1 s1 hbl1 hG1 hp1
      have htk : bs.take j ++ [bs[j]] = bs.take (j + 1) := by rw [List.take_add_one, List.getElem?_eq_getElem hjb]; rfl
      have hlen : (bs.take j).length ≤ 10 := by rw [List.length_take]; omega
      generalize bs[j] = y at hlit htk
      have hlu : decide (j < n) = true := decide_eq_true hlt
      have H1 := Lib.hid (And.intro hbl1 (And.intro hL2 (And.intro hF1 (And.intro htk (And.intro hlen (And.intro hlt (And.intro hb2 hr2)))))))
      clear hbl1 hG1 hp1 hF1 hL2 htk hlen hj h1 hL hbl hG hp hn hb2 hr2 hB2 hlt hjb
      go_wp2_with (first
        | (go_at_call 23; refine (hdim _).mono ?_; rintro e w1 ⟨rfl, rfl⟩)
        | (go_at_call 24; go_must (refine hlit.mono ?_; rintro e W ⟨V2, s2, rfl, rfl, hG2, hp2, hK2⟩; have hF2 := hK2.fl (s' := s2) H1.out.2.2.1 H1.out.2.2.2.2.2.2.1 H1.out.2.2.2.2.2.2.2; have H2 := Lib.hid (And.intro hG2 (And.intro hp2 (And.intro hK2 hF2))); clear hG2 hp2 hK2 hF2 hlit))
        | (at_builtin; refine Pw.wp_appSt rfl _ _ rfl B2 H1.out.2.2.2.2.2.2.1 _ (bs.take j) H2.out.2.2.2 rfl y 1 rfl H1.out.2.2.2.2.1 _ rfl ?_; intro v3 V3 hF3 hb3 hk3; have H3 := Lib.hid (And.intro hF3 (And.intro hb3 hk3)); clear hF3 hb3 hk3))
      go_roundw
      case rel =>
        obtain ⟨hbl1, hL2, hF1, htk, hlen, hlt, hb2, hr2⟩ := H1.out
        obtain ⟨hG2, hp2, hK2, hF2⟩ := H2.out
        obtain ⟨hF3, hb3, hk3⟩ := H3.out
        rw [htk] at hF3
        exact ⟨j + 1, c', V3, s2, hlt, by go_num, rfl, hL2, (hbl1.trans hK2.below).trans hb3, hG2.ext2 hb3 hk3, hp2, hF3⟩
      case measure => have := H1.out.2.2.2.2.2.1; simp [intOf]; omega
    · have hlu : decide (j < n) = false := decide_eq_false (by omega)
      have H1 := Lib.hid (And.intro hbl1 (And.intro hF1 (And.intro hge (And.intro hn hj))))
      clear hbl1 hL1 hG1 hp1 hF1 hge hL hbl hG hp hn hb2 hr2 hB2 hj
      go_wp2_with (go_at_call 23; refine (hdim _).mono ?_; rintro e w1 ⟨rfl, rfl⟩)
      go_ret2
      obtain ⟨hbl1, hF1, hge, hn, hj⟩ := H1.out
      exact ⟨_, rfl, by rw [List.take_of_length_le (by omega)] at hF1; exact hF1, V1, s1, rfl, hbl1⟩
end Go.Proofs

/- Part of the proof of FnPlaceBack: walk: the parser's place. No condition. -/
import Derived.Test.YtmhpnnbfnbaekaaGreatDoorMS25
namespace Go.Proofs
open Go Go.RowKit
set_option maxRecDepth 100000 in
set_option maxHeartbeats 1000000 in
theorem Pw.newLexer (S : ByteArray) (w : World) : Calls Tryz.prog 22 #[.string S] w fun e w' => e = .returned (.agg (SS.first (w.heap.size + 2)).arr) ∧ Below w.heap.size w w' ∧ w'.heap.size = w.heap.size + 3 ∧ w'.heap[w.heap.size + 2]? = some (.cells #[.string S, .int .i64 0, .int .i64 (-1)] 96 (0, 0)) := by
  have hnr := Pw.newReader S
  obtain ⟨W3, hW3⟩ : ∃ W3, W3 = ((w.alloc (.cells Tryz.zeroCells74 74)).alloc (.cells Tryz.zeroCells72 72)).alloc (.cells #[.string S, .int .i64 0, .int .i64 (-1)] 96) := ⟨_, rfl⟩
  have hsz : W3.heap.size = w.heap.size + 3 := by rw [hW3]; simp
  have hlt : w.heap.size + 1 < W3.heap.size := by omega
  have hb1 : W3.heap[w.heap.size + 1]? = some (.cells SS.zero.arr2 72 (0, 0)) := by
    rw [hW3, Below.heap_alloc _ _ _ (by rw [World.size_alloc, World.size_alloc]; omega), ← Pw.z72]
    exact heap_alloc2_new w _ _
  have hrd : W3.heap[w.heap.size + 2]? = some (.cells #[.string S, .int .i64 0, .int .i64 (-1)] 96 (0, 0)) := by
    have h := heap_alloc_new ((w.alloc (.cells Tryz.zeroCells74 74)).alloc (.cells Tryz.zeroCells72 72)) (.cells #[.string S, .int .i64 0, .int .i64 (-1)] 96)
    rw [World.size_alloc, World.size_alloc] at h
    rw [hW3]; exact h
  have hn : W3.heap[w.heap.size]? = some (.cells SS.zero.arr 74 (0, 0)) := by
    rw [hW3, Below.heap_alloc _ _ _ (by rw [World.size_alloc, World.size_alloc]; omega), Below.heap_alloc _ _ _ (by rw [World.size_alloc]; omega), ← Pw.z74]
    exact heap_alloc_new w _
  have hbel : Below w.heap.size w W3 := by
    rw [hW3]
    exact (((Below.refl _ _).alloc (Nat.le_refl _) _).alloc (by rw [World.size_alloc]; omega) _).alloc (by rw [World.size_alloc, World.size_alloc]; omega) _
  have hini : Calls Tryz.prog 28 #[.pointer (some ⟨w.heap.size + 1, 0, none⟩), .iface 85 (.pointer (some ⟨w.heap.size + 1 + 1, 0, none⟩))] W3 fun e w' => ∃ V : Bs (w.heap.size + 1), e = .returned (.pointer (some ⟨w.heap.size + 1, 0, none⟩)) ∧ w' = Sx V (SS.start (.iface 85 (.pointer (some ⟨w.heap.size + 1 + 1, 0, none⟩)))) ∧ V.1.heap = W3.heap ∧ V.1.os = W3.os ∧ V.1.tape = W3.tape ∧ V.1.output = W3.output := by
    have h := Pw.init (⟨W3, hlt⟩ : Bs (w.heap.size + 1)) (.pointer (some ⟨w.heap.size + 1 + 1, 0, none⟩))
    rw [← Sx.eq hb1 hlt] at h
    refine h.mono ?_
    rintro e w' ⟨rfl, rfl⟩
    exact ⟨⟨W3, hlt⟩, rfl, rfl, rfl, rfl, rfl, rfl⟩
  have H := Lib.hid (And.intro hsz (And.intro hrd (And.intro hn hbel)))
  generalize hX : W3 = X at H hini
  rw [hW3] at hX
  subst hX
  clear hW3 hb1 hsz hrd hn hbel hlt
  go_enter Tryz.func22, Tryz.ntmps22
  go_wp2_with (first
    | (go_at_call 29; refine (hnr _).mono ?_; rintro e W ⟨rfl, rfl⟩)
    | (go_at_call 28; go_must (refine hini.mono ?_; rintro e W ⟨V, rfl, rfl, hV⟩; have HV := Lib.hid hV; clear hV))
    | (refine Pw.wp_load72 rfl _ rfl _ _ rfl rfl ?_)
    | (refine Pw.wp_build74 rfl _ rfl _ rfl rfl ?_)
    | (refine Pw.wp_store74 rfl _ _ rfl w.heap.size _ ?_ rfl rfl ?_ ?_; exact SS.arr_one _ rfl rfl rfl rfl rfl rfl; exact ((Sx.other _ _ _ (by omega)).trans (congrArg (fun x : Array Obj => x[w.heap.size]?) HV.out.1)).trans H.out.2.2.1))
  have hold : (Sx V (SS.first (w.heap.size + 1 + 1))).heap[w.heap.size]? = some (.cells SS.zero.arr 74 (0, 0)) := ((Sx.other _ _ _ (by omega)).trans (congrArg (fun x : Array Obj => x[w.heap.size]?) HV.out.1)).trans H.out.2.2.1
  have hrow := setRow_heap (Sx V (SS.first (w.heap.size + 1 + 1))) w.heap.size _ (SS.first (w.heap.size + 1 + 1)).arr 74 (0, 0) hold
  refine bodyPost_ret (results_cell_row rfl _ _ w.heap.size 74 (SS.first (w.heap.size + 1 + 1)).arr (0, 0) _ rfl hrow Tryz.underlying74 rfl (Pw.info74 _)) rfl ?_
  obtain ⟨hsz, hrd, hn, hbel⟩ := H.out
  obtain ⟨hv, ho, ht, hp⟩ := HV.out
  refine ⟨rfl, ⟨ho.trans hbel.os, ht.trans hbel.tape, hp.trans hbel.output, ?_, fun k hk => ?_⟩, ?_, ?_⟩
  · rw [setRow_size, Sx.size, hv]; omega
  · rw [setRow_other _ _ _ _ (by omega), Sx.other _ _ _ (by omega), hv]; exact hbel.block k hk
  · rw [setRow_size, Sx.size, hv]; exact hsz
  · rw [setRow_other _ _ _ _ (by omega), Sx.other _ _ _ (by omega), hv]; exact hrd
end Go.Proofs
namespace Go.Proofs
open Go Go.RowKit
set_option maxRecDepth 100000 in
theorem Pw.newParser (S : ByteArray) (w : World) : Calls Tryz.prog 18 #[.string S] w fun e w' => ∃ V : Bs (w.heap.size + 3), e = .returned (.pointer (some ⟨w.heap.size + 3, 0, none⟩)) ∧ w' = St V (SS.first (w.heap.size + 2)) ∧ Below w.heap.size w V.1 ∧ V.1.heap[w.heap.size + 2]? = some (.cells #[.string S, .int .i64 0, .int .i64 (-1)] 96 (0, 0)) := by
  have hlx := Pw.newLexer S w
  obtain ⟨X, hX⟩ : ∃ X, X = SS.first (w.heap.size + 2) := ⟨_, rfl⟩
  rw [← hX] at hlx ⊢
  clear hX
  go_enter Tryz.func18, Tryz.ntmps18
  go_wp2_with (first
    | (go_at_call 22; go_must (refine hlx.mono ?_; rintro e W ⟨rfl, h1, h2, h3⟩; have H := Lib.hid (And.intro h1 (And.intro h2 h3)); clear h1 h2 h3 hlx))
    | (refine Pw.wp_build77 rfl _ rfl _ rfl ?_))
  go_ret
  obtain ⟨hbel, hsz, hrd⟩ := H.out
  have hlt : w.heap.size + 3 < (W.alloc (.cells X.arr 77)).heap.size := by rw [World.size_alloc]; omega
  have hb : (W.alloc (.cells X.arr 77)).heap[w.heap.size + 3]? = some (.cells X.arr 77 (0, 0)) := by
    rw [← hsz]; exact heap_alloc_new W _
  refine ⟨⟨_, hlt⟩, by rw [← hsz]; rfl, St.eq hb hlt, hbel.alloc (by omega) _, ?_⟩
  show (W.alloc _).heap[w.heap.size + 2]? = _
  rw [Below.heap_alloc _ _ _ (by omega)]
  exact hrd
/-- The scanner of a fresh parser stands at the text's beginning. -/
theorem Gap.first {E : Env} {W0 : World} {V : Bs E.b} (hB : E.B = W0.heap.size) (hbl : Below E.B W0 V.1) (hr : V.1.heap[E.rb]? = some (.cells #[.string E.S, .int .i64 0, .int .i64 (-1)] 96 (0, 0))) (he : W0.cell? ⟨2, 0, none⟩ = some (.iface 183 (.pointer (some E.eof)))) (ht : ∀ c, c < 128 → W0.cell? ⟨6, c, none⟩ = some (.int .u8 240)) : Gap E V (SS.first E.rb) 0 := by
  have h6 := E.h6
  refine .inl ⟨rfl, ?_, rfl⟩
  refine ⟨rfl, rfl, rfl, rfl, rfl, Nat.le_refl _, by omega, by omega, Nat.le_refl _, by omega, fun k hk => by omega, rfl, ⟨-1, hr⟩, (show (0 : Int) ≤ 0 from by decide), (show (0 : Int) + ((0 : Nat) : Int) ≤ 2 * ((0 + 0 : Nat) : Int) + 1 from by decide), rfl, rfl, rfl, ?_, ?_, ?_⟩
  · exact ⟨[], ⟨rfl, World.ownsRow_nil _ _ _ _, by simp [SS.first, SS.start, Value.ownBlock]⟩, by simp, fun a ha => (by cases ha), fun _ => rfl⟩
  · rw [hbl.cell (p := ⟨2, 0, none⟩) (by show 2 < E.B; omega)]; exact he
  · intro c hc; rw [hbl.cell (p := ⟨6, c, none⟩) h6]; exact ht c hc
def Pw.PlaceEnd (w : World) (bs : List Nat) (e : Ending) (w' : World) : Prop := ∃ v : Value, e = .returned (.tuple #[v, .nilIface]) ∧ Pw.Fl w.heap.size v bs w' ∧ Below w.heap.size w w'
set_option maxRecDepth 100000 in
theorem Pw.doorPlace (E : Env) (w : World) (hT : Tb E w) (hb : E.b = w.heap.size + 3) (hrb : E.rb = w.heap.size + 2) (he : w.cell? ⟨2, 0, none⟩ = some (.iface 183 (.pointer (some E.eof)))) (ht6 : ∀ c, c < 128 → w.cell? ⟨6, c, none⟩ = some (.int .u8 240))
    (t : Nat) (ht : t ≤ 3) (bs : List Nat) (hl : bs.length = 2 + t % 2 + t / 2) (hL : Pw.Lits E w 0 bs) :
    Calls Tryz.prog 12 #[.string E.S, .int .u8 t] w (Pw.PlaceEnd w bs) := by
  have hB := hT.size
  have hnp := Pw.newParser E.S w
  rw [← hb, ← hrb, ← hB] at hnp
  have hpa := fun (V : Bs E.b) h1 h2 => Pw.pointAppend E w V (SS.first E.rb) t ht bs hl hL h1 (Gap.first hB h1 h2 he ht6) rfl
  obtain ⟨X, hX⟩ : ∃ X, X = SS.first E.rb := ⟨_, rfl⟩
  rw [← hX] at hnp hpa
  have H := Lib.hid (And.intro hpa hB)
  unfold Pw.PlaceEnd
  clear hX hT hb hrb he ht6 ht hl hL hpa hB
  go_enter Tryz.func12, Tryz.ntmps12
  go_wp2_with (first
    | (go_at_call 18; go_must (refine hnp.mono ?_; rintro e W ⟨V, rfl, rfl, h1, h2⟩; have hq := H.out.1 V h1 h2; have H1 := Lib.hid h1; clear h1 h2 hnp))
    | (go_at_call 19; go_must (refine hq.mono ?_; rintro e W ⟨v, rfl, hF, V2, s2, rfl, hb2⟩; have H2 := Lib.hid (And.intro hF hb2); clear hF hb2 hq)))
  go_ret2
  obtain ⟨hF, hb2⟩ := H2.out
  have hB := H.out.2
  have hEB := E.hB
  refine ⟨v, rfl, ⟨⟨hF.1.1, ?_⟩, ?_⟩, ?_⟩
  · rcases hF.1.2 with h0 | ⟨g, cap, cur, hv, hBg, rest⟩
    · exact .inl h0
    · exact .inr ⟨g, cap, cur, hv, by have := V.2; omega, rest⟩
  · have := hb2.size
    simp only [St.size]
    exact this
  · rw [← hB]
    exact ⟨hb2.os, hb2.tape, hb2.output, by simpa using hb2.size, fun k hk => by rw [St.other V2 s2 k (by omega)]; exact hb2.block k hk⟩
end Go.Proofs

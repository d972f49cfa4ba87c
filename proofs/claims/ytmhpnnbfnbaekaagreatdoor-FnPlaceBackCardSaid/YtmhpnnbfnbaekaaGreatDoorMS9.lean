/- Part of the proof of FnPlaceBack: walk: the scanner's next. No condition. -/
import Derived.Test.YtmhpnnbfnbaekaaGreatDoorMS8ab
import Derived.Test.YtmhpnnbfnbaekaaGreatDoorMS8cd
namespace Go.Proofs
open Go Go.RowKit
/-- What next leaves as it was, beside what Sc says. -/
def SS.Same (s s' : SS) : Prop := s'.ch = s.ch ∧ s'.err = s.err ∧ s'.pk = s.pk
theorem SS.Same.refl (s : SS) : s.Same s := ⟨rfl, rfl, rfl⟩
theorem SS.Same.trans {a b c : SS} (h : a.Same b) (k : b.Same c) : a.Same c := ⟨k.1.trans h.1, k.2.1.trans h.2.1, k.2.2.trans h.2.2⟩
theorem Sc.tp_le {E : Env} {V : Bs E.b} {s : SS} {p f o l : Nat} {tok : Option Nat} (h : Sc E V s p f o l tok) : s.tp ≤ p := by
  obtain ⟨bs, -, -, h2, h3⟩ := h.buf
  cases tok with
  | none => rw [h3 rfl]; omega
  | some a =>
    obtain ⟨t, ht, htp, -⟩ := h2 a rfl
    omega
def Pw.NextEnd (E : Env) (V : Bs E.b) (s : SS) (q : Nat) (tok : Option Nat) (e : Ending) (w' : World) : Prop :=
  ∃ (V' : Bs E.b) (s' : SS) (p' f' o' l' : Nat), e = .returned (.int .i32 (E.at q)) ∧ w' = St V' s' ∧ Sc E V' s' p' f' o' l' tok ∧ o' + p' = min (q + 1) E.S.size ∧ q + l' = o' + p' ∧ s'.tp + o' ≤ q ∧ s.Same s' ∧ Kp E.B (some E.rb) V V'
theorem Pw.next (E : Env) (V : Bs E.b) (s : SS) (p f o l : Nat) (tok : Option Nat) (h : Sc E V s p f o l tok) :
    Calls Tryz.prog 40 #[.pointer (some ⟨E.b, 0, none⟩)] (St V s) (Pw.NextEnd E V s (o + p) tok) := by
  have hoN := h.oN
  have hpf := h.pf
  have hf24 := h.f24
  have hl1 := h.l1
  have hN := E.hN
  rcases Nat.lt_or_ge p f with hlt | hge
  · refine (Pw.next_fast E V s p f o l tok h hlt).mono ?_
    rintro e w' ⟨V', rfl, rfl, hh, hK⟩
    refine ⟨V', _, p + 1, f, o, 1, rfl, rfl, ?_, by omega, by omega, ?_, ⟨rfl, rfl, rfl⟩, hK.more⟩
    rotate_left
    · show s.tp + ((o : Nat) : Int) ≤ ((o + p : Nat) : Int)
      have := h.tp_le
      omega
    refine ⟨h.src, by simp, h.fin, h.off, rfl, hlt, hf24, hoN, by omega, by omega, h.bytes, h.sent, ?_, ?_, ?_, h.mode, h.ws, h.idr, ?_, (h.tabs hK).1, (h.tabs hK).2⟩
    · exact h.row hK
    · have := h.col0
      show 0 ≤ s.col + 1
      omega
    · have := h.col1
      show s.col + 1 + ((1 : Nat) : Int) ≤ 2 * ((o + (p + 1) : Nat) : Int) + 1
      omega
    · obtain ⟨bs, hb, h1, h2, h3⟩ := h.buf
      refine ⟨bs, (hb.world fun k c hk _ => by rw [hh]; exact hk).one rfl rfl, h1, fun a ha => ?_, h3⟩
      obtain ⟨t, ht, htp, hat, hbs⟩ := h2 a ha
      exact ⟨t, ht, by omega, hat, hbs⟩
  · obtain rfl : p = f := by omega
    have hcol0 := h.col0
    have hcol1 := h.col1
    rcases Nat.lt_or_ge (o + p) E.S.size with hlt | hge
    · obtain ⟨n, hn⟩ : ∃ n, n = min (E.S.size - (o + p)) 1024 := ⟨_, rfl⟩
      have hn1 : 1 ≤ n := by omega
      cases tok with
      | none =>
        obtain ⟨bs, hb, h1, h2, h3⟩ := h.buf
        refine (Pw.next_more_none E V s p o l none h n hlt hn (h3 rfl)).mono ?_
        rintro e w' ⟨V', f, rfl, rfl, hf, hrow, hR, hK⟩
        refine ⟨V', _, 1, n, o + p, 1, rfl, rfl, ?_, by omega, by omega, ?_, ⟨rfl, rfl, rfl⟩, hK⟩
        rotate_left
        · show s.tp + ((o + p : Nat) : Int) ≤ ((o + p : Nat) : Int)
          have := h3 rfl
          omega
        refine ⟨h.src, by simp, rfl, by simp, rfl, hn1, by omega, by omega, by omega, by omega, ?_, ?_, ⟨-1, hR⟩, ?_, ?_, h.mode, h.ws, h.idr, ?_, (h.tabs hK).1, (h.tabs hK).2⟩
        · intro k hk
          show (if k = n then (128 : Int) else f k) = _
          rw [if_neg (by omega), hf k hk]
        · show (if n = n then (128 : Int) else f n) = _
          rw [if_pos rfl]
        · show 0 ≤ s.col + 1
          omega
        · show s.col + 1 + ((1 : Nat) : Int) ≤ 2 * ((o + p + 1 : Nat) : Int) + 1
          omega
        · exact ⟨bs, (hb.world hrow).one rfl rfl, h1, fun a ha => (by cases ha), fun _ => h3 rfl⟩
      | some a =>
        obtain ⟨bs, hb, h1, h2, h3⟩ := h.buf
        obtain ⟨t, ht, htp, hat, hbs⟩ := h2 a rfl
        have hbl : bs.length ≤ 1000000 := by rw [hbs, Env.cells_length]; omega
        refine (Pw.next_more_some E V s p o l t (some a) h n hlt hn ht htp bs hb h1 hbl).mono ?_
        rintro e w' ⟨V', f, v, lr, rfl, rfl, hf, ⟨U, hBf, hKU, hrow⟩, hR, hK⟩
        refine ⟨V', _, 1, n, o + p, 1, rfl, rfl, ?_, by omega, by omega, ?_, ⟨rfl, rfl, rfl⟩, hK⟩
        rotate_left
        · show (0 : Int) + ((o + p : Nat) : Int) ≤ ((o + p : Nat) : Int)
          omega
        refine ⟨h.src, by simp, rfl, by simp, rfl, hn1, by omega, by omega, by omega, by omega, ?_, ?_, ⟨-1, hR⟩, ?_, ?_, h.mode, h.ws, h.idr, ?_, (h.tabs hK).1, (h.tabs hK).2⟩
        · intro k hk
          show (if k = n then (128 : Int) else f k) = _
          rw [if_neg (by omega), hf k hk]
        · show (if n = n then (128 : Int) else f n) = _
          rw [if_pos rfl]
        · show 0 ≤ s.col + 1
          omega
        · show s.col + 1 + ((1 : Nat) : Int) ≤ 2 * ((o + p + 1 : Nat) : Int) + 1
          omega
        · refine ⟨bs ++ E.cells (o + t) (p - t), (hBf.world hrow).one rfl rfl, ?_, fun a' ha => ?_, fun h => by cases h⟩
          · intro v hv
            rcases List.mem_append.1 hv with hv | hv
            · exact h1 v hv
            · exact E.cells_one _ _ v hv
          · cases ha
            refine ⟨0, rfl, by omega, by omega, ?_⟩
            rw [hbs, show o + t = a + (o + t - a) from by omega, show a + (o + t - a) - a = o + t - a from by omega, E.cells_append]
            congr 1
            omega
    · have hend : o + p = E.S.size := by omega
      have hat : E.at (o + p) = -1 := E.at_end (by omega)
      unfold Pw.NextEnd
      rw [hat]
      cases tok with
      | none =>
        obtain ⟨bs, hb, h1, h2, h3⟩ := h.buf
        refine (Pw.next_end_none E V s p o l none h hend (h3 rfl)).mono ?_
        rintro e w' ⟨V', c, rfl, rfl, hc0, hc1, hrow, hK⟩
        refine ⟨V', _, 0, 0, o + p, 0, rfl, rfl, ?_, by omega, by omega, ?_, ⟨rfl, rfl, rfl⟩, hK.more⟩
        rotate_left
        · show s.tp + ((o + p : Nat) : Int) ≤ ((o + p : Nat) : Int)
          have := h3 rfl
          omega
        refine ⟨h.src, rfl, rfl, by simp, rfl, by omega, by omega, by omega, by omega, by omega, fun k hk => by omega, by simp, ?_, hc0, ?_, h.mode, h.ws, h.idr, ?_, (h.tabs hK).1, (h.tabs hK).2⟩
        · have := h.row hK
          exact this
        · show c + ((0 : Nat) : Int) ≤ 2 * ((o + p + 0 : Nat) : Int) + 1
          omega
        · exact ⟨bs, (hb.world hrow).one rfl rfl, h1, fun a ha => (by cases ha), fun _ => h3 rfl⟩
      | some a =>
        obtain ⟨bs, hb, h1, h2, h3⟩ := h.buf
        obtain ⟨t, ht, htp, hat, hbs⟩ := h2 a rfl
        have hbl : bs.length ≤ 1000000 := by rw [hbs, Env.cells_length]; omega
        refine (Pw.next_end_some E V s p o l t (some a) h hend ht htp bs hb h1 hbl).mono ?_
        rintro e w' ⟨V', c, v, lr, rfl, rfl, hc0, hc1, ⟨U, hBf, hKU, hrow⟩, hK⟩
        refine ⟨V', _, 0, 0, o + p, 0, rfl, rfl, ?_, by omega, by omega, ?_, ⟨rfl, rfl, rfl⟩, hK.more⟩
        rotate_left
        · show (0 : Int) + ((o + p : Nat) : Int) ≤ ((o + p : Nat) : Int)
          omega
        refine ⟨h.src, rfl, rfl, by simp, rfl, by omega, by omega, by omega, by omega, by omega, fun k hk => by omega, by simp, ?_, hc0, ?_, h.mode, h.ws, h.idr, ?_, (h.tabs hK).1, (h.tabs hK).2⟩
        · have := h.row hK
          exact this
        · show c + ((0 : Nat) : Int) ≤ 2 * ((o + p + 0 : Nat) : Int) + 1
          omega
        · refine ⟨bs ++ E.cells (o + t) (p - t), (hBf.world hrow).one rfl rfl, ?_, fun a' ha => ?_, fun h => by cases h⟩
          · intro v hv
            rcases List.mem_append.1 hv with hv | hv
            · exact h1 v hv
            · exact E.cells_one _ _ v hv
          · cases ha
            refine ⟨0, rfl, by omega, by omega, ?_⟩
            rw [hbs, show o + t = a + (o + t - a) from by omega, show a + (o + t - a) - a = o + t - a from by omega, E.cells_append]
            congr 1
            omega
end Go.Proofs

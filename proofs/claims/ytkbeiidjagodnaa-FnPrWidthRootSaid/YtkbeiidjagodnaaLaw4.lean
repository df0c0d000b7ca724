/- What the reader's success says of the text: plain Lean. -/
import Derived.Test.YtkbeiidjagodnaaLaw3
namespace Go.Proofs.Ytkbeiidjagodnaa.Pr
open Go.RowKit Go.Proofs.YtkbeiidjagodnaaW.PrintWords Go.Proofs.YtkbeiidjagodnaaW.PrintLast Go.Proofs.YtkbeiidjagodnaaW.PrintMore
set_option linter.unusedVariables false

/-- Blanks alone from i to j. -/
def Blanks (s : ByteArray) (i j : Int) : Prop := i ≤ j ∧ j ≤ s.size ∧ ∀ p, i ≤ p → p < j → isBlank (bt s p)
theorem blank_inv {c : Int} (h : spec_Blank.f c = some true) : isBlank c := by
  by_cases hb : isBlank c
  · exact hb
  · rw [blank_false hb] at h; simp at h
theorem blanks_inv (s : ByteArray) (hn : Small s) : ∀ (k : Nat) (i : Int) (s' : ByteArray) (j : Int), 0 ≤ i → i ≤ s.size → spec_reader_blanks.f k s i = some (s', j) → s' = s ∧ Blanks s i j
  | 0, i, s', j, h0, h1, h => by simp [spec_reader_blanks.f, spec_reader_blanks.l0] at h
  | k + 1, i, s', j, h0, h1, h => by
    have hn' : s.size ≤ 1048576 := hn
    unfold spec_reader_blanks.f at h
    rw [spec_reader_blanks.l0] at h
    by_cases c1 : i < (s.size : Int)
    · rw [if_pos c1, if_pos h0] at h
      replace h := Option.bind_eq_some_iff.mp h
      obtain ⟨b, hb, h⟩ := h
      cases b with
      | true =>
        rw [if_pos rfl, w64 (by omega) (by omega)] at h
        obtain ⟨e, g1, g2, g3⟩ := blanks_inv s hn k (i + 1) s' j (by omega) (by omega) h
        refine ⟨e, by omega, g2, fun p h2 h3 => ?_⟩
        by_cases h4 : p = i
        · subst h4; exact blank_inv hb
        · exact g3 p (by omega) h3
      | false =>
        rw [if_neg (by decide)] at h
        simp only [Option.some.injEq, Prod.mk.injEq] at h
        exact ⟨h.1.symm, by omega, by omega, fun p h2 h3 => by omega⟩
    · rw [if_neg c1] at h
      simp only [Option.some.injEq, Prod.mk.injEq] at h
      exact ⟨h.1.symm, by omega, by omega, fun p h2 h3 => by omega⟩
theorem take_inv {s : ByteArray} (hn : Small s) {i c : Int} {b : Bool} {s' : ByteArray} {j : Int} (h0 : 0 ≤ i) (h1 : i ≤ s.size) (h : spec_reader_take.f s i c = some (b, s', j)) :
    s' = s ∧ ((b = true ∧ i < s.size ∧ bt s i = c ∧ j = i + 1) ∨ (b = false ∧ j = i)) := by
  obtain ⟨b', j', e, g1, g2, g3, g4⟩ := take_tot s hn i c h0 h1
  rw [e] at h
  simp only [Option.some.injEq, Prod.mk.injEq] at h
  obtain ⟨rfl, rfl, rfl⟩ := h
  refine ⟨rfl, ?_⟩
  cases b' with
  | true => obtain ⟨a1, a2, a3⟩ := g3 rfl; exact .inl ⟨rfl, a2, a3, a1⟩
  | false => exact .inr ⟨rfl, (g4 rfl).1⟩
theorem word_inv {s : ByteArray} (hn : Small s) {i : Int} {w : ByteArray} {b : Bool} {s' : ByteArray} {j : Int} (h0 : 0 ≤ i) (h1 : i ≤ s.size) (hw : w.size ≤ 8) (h : spec_reader_word.f s i w = some (b, s', j)) :
    s' = s ∧ ((b = true ∧ j = i + w.size ∧ j ≤ s.size ∧ seg (bytesOf s) i j = bytesOf w) ∨ (b = false ∧ j = i)) := by
  obtain ⟨b', j', e, g1, g2, g3⟩ := word_tot s hn i h0 h1 w hw
  rw [e] at h
  simp only [Option.some.injEq, Prod.mk.injEq] at h
  obtain ⟨rfl, rfl, rfl⟩ := h
  refine ⟨rfl, ?_⟩
  cases b' with
  | true => obtain ⟨a1, a2⟩ := g2 rfl; exact .inl ⟨rfl, a1, g1, by rw [a1]; exact word_seg s w i h0 a2⟩
  | false => exact .inr ⟨rfl, g3 rfl⟩

/-- The bytes of numbers. -/
def NumCh (c : Int) : Prop := (48 ≤ c ∧ c ≤ 57) ∨ c = 43 ∨ c = 45 ∨ c = 46 ∨ c = 69 ∨ c = 101
def NumSeg (s : ByteArray) (i j : Int) : Prop := i ≤ j ∧ j ≤ s.size ∧ ∀ p, i ≤ p → p < j → NumCh (bt s p)
theorem NumSeg.refl {s : ByteArray} {i : Int} (h : i ≤ s.size) : NumSeg s i i := ⟨by omega, h, fun p h1 h2 => by omega⟩
theorem NumSeg.one {s : ByteArray} {i : Int} (h : i < s.size) (hc : NumCh (bt s i)) : NumSeg s i (i + 1) := ⟨by omega, by omega, fun p h1 h2 => by have e : p = i := (by omega); rw [e]; exact hc⟩
theorem NumSeg.trans {s : ByteArray} {i j k : Int} (h : NumSeg s i j) (h' : NumSeg s j k) : NumSeg s i k :=
  ⟨Int.le_trans h.1 h'.1, h'.2.1, fun p h1 h2 => by by_cases h3 : p < j; exact h.2.2 p h1 h3; exact h'.2.2 p (by omega) h2⟩
theorem take_num {s : ByteArray} (hn : Small s) {i c : Int} {b : Bool} {s' : ByteArray} {j : Int} (h0 : 0 ≤ i) (h1 : i ≤ s.size) (hc : NumCh c) (h : spec_reader_take.f s i c = some (b, s', j)) : s' = s ∧ NumSeg s i j ∧ 0 ≤ j := by
  obtain ⟨e, g | g⟩ := take_inv hn h0 h1 h
  · obtain ⟨g1, g2, g3, rfl⟩ := g
    exact ⟨e, NumSeg.one g2 (by rw [g3]; exact hc), by omega⟩
  · obtain ⟨g1, rfl⟩ := g
    exact ⟨e, NumSeg.refl h1, h0⟩
theorem digits_l (s : ByteArray) (hn : Small s) (b : Int) : ∀ (k : Nat) (i : Int) (r : Bool) (s' : ByteArray) (j : Int), 0 ≤ i → i ≤ s.size → spec_reader_digits.l0 k b (at0 s i) s i = some (r, s', j) → s' = s ∧ NumSeg s i j
  | 0, i, r, s', j, h0, h1, h => by simp [spec_reader_digits.l0] at h
  | k + 1, i, r, s', j, h0, h1, h => by
    have hn' : s.size ≤ 1048576 := hn
    rw [spec_reader_digits.l0] at h
    by_cases hi : i < (s.size : Int)
    · by_cases c1 : 48 ≤ at0 s i
      · by_cases c2 : at0 s i ≤ 57
        · rw [if_pos c1, if_pos c2, w64 (by omega) (by omega), here_eq s (i + 1) (by omega)] at h
          simp only [Option.bind_some] at h
          obtain ⟨e, g⟩ := digits_l s hn b k (i + 1) r s' j (by omega) (by omega) h
          rw [at0_at hi] at c1 c2
          exact ⟨e, (NumSeg.one hi (.inl ⟨c1, c2⟩)).trans g⟩
        · rw [if_pos c1, if_neg c2] at h
          simp only [Option.some.injEq, Prod.mk.injEq] at h
          obtain ⟨_, e, rfl⟩ := h
          exact ⟨e.symm, NumSeg.refl h1⟩
      · rw [if_neg c1] at h
        simp only [Option.some.injEq, Prod.mk.injEq] at h
        obtain ⟨_, e, rfl⟩ := h
        exact ⟨e.symm, NumSeg.refl h1⟩
    · rw [at0_zero hi, if_neg (by decide)] at h
      simp only [Option.some.injEq, Prod.mk.injEq] at h
      obtain ⟨_, e, rfl⟩ := h
      exact ⟨e.symm, NumSeg.refl h1⟩
theorem digits_inv {s : ByteArray} (hn : Small s) {k : Nat} {i : Int} {r : Bool} {s' : ByteArray} {j : Int} (h0 : 0 ≤ i) (h1 : i ≤ s.size) (h : spec_reader_digits.f k s i = some (r, s', j)) : s' = s ∧ NumSeg s i j ∧ 0 ≤ j := by
  unfold spec_reader_digits.f at h
  rw [here_eq s i h0] at h
  simp only [Option.bind_some] at h
  obtain ⟨e, g⟩ := digits_l s hn i k i r s' j h0 h1 h
  exact ⟨e, g, by have := g.1; omega⟩
theorem num2_inv {s : ByteArray} (hn : Small s) {k : Nat} {b : Bool} {i : Int} {r : Bool} {s' : ByteArray} {j : Int} (h0 : 0 ≤ i) (h1 : i ≤ s.size) (h : spec_reader_number.j2 k b s i = some (r, s', j)) : s' = s ∧ NumSeg s i j := by
  cases k with
  | zero => simp [spec_reader_number.j2] at h
  | succ k =>
    rw [spec_reader_number.j2] at h
    cases b with
    | false =>
      rw [if_neg (by decide)] at h
      simp only [Option.some.injEq, Prod.mk.injEq] at h
      obtain ⟨_, e, rfl⟩ := h
      exact ⟨e.symm, NumSeg.refl h1⟩
    | true =>
      rw [if_pos rfl] at h
      replace h := Option.bind_eq_some_iff.mp h
      obtain ⟨⟨b1, s1, j1⟩, e1, h⟩ := h
      obtain ⟨rfl, g1, z1⟩ := take_num hn h0 h1 (by unfold NumCh; omega) e1
      try dsimp only at h
      cases b1 with
      | true =>
        rw [if_pos rfl] at h
        replace h := Option.bind_eq_some_iff.mp h
        obtain ⟨⟨b2, s2, j2⟩, e2, h⟩ := h
        obtain ⟨rfl, g2, z2⟩ := digits_inv hn z1 g1.2.1 e2
        simp only [Option.some.injEq, Prod.mk.injEq] at h
        obtain ⟨_, e, rfl⟩ := h
        exact ⟨e.symm, g1.trans g2⟩
      | false =>
        rw [if_neg (by decide)] at h
        replace h := Option.bind_eq_some_iff.mp h
        obtain ⟨⟨b3, s3, j3⟩, e3, h⟩ := h
        obtain ⟨rfl, g3, z3⟩ := take_num hn z1 g1.2.1 (by unfold NumCh; omega) e3
        try dsimp only at h
        replace h := Option.bind_eq_some_iff.mp h
        obtain ⟨⟨b2, s2, j2⟩, e2, h⟩ := h
        obtain ⟨rfl, g2, z2⟩ := digits_inv hn z3 g3.2.1 e2
        simp only [Option.some.injEq, Prod.mk.injEq] at h
        obtain ⟨_, e, rfl⟩ := h
        exact ⟨e.symm, (g1.trans g3).trans g2⟩
theorem num1_inv {s : ByteArray} (hn : Small s) {k : Nat} {b : Bool} {i : Int} {r : Bool} {s' : ByteArray} {j : Int} (h0 : 0 ≤ i) (h1 : i ≤ s.size) (h : spec_reader_number.j1 k b s i = some (r, s', j)) : s' = s ∧ NumSeg s i j := by
  cases k with
  | zero => simp [spec_reader_number.j1] at h
  | succ k =>
    rw [spec_reader_number.j1] at h
    cases b with
    | true =>
      rw [if_pos rfl] at h
      simp only [Option.some.injEq, Prod.mk.injEq] at h
      obtain ⟨_, e, rfl⟩ := h
      exact ⟨e.symm, NumSeg.refl h1⟩
    | false =>
      rw [if_neg (by decide)] at h
      replace h := Option.bind_eq_some_iff.mp h
      obtain ⟨⟨b1, s1, j1⟩, e1, h⟩ := h
      obtain ⟨rfl, g1, z1⟩ := take_num hn h0 h1 (by unfold NumCh; omega) e1
      try dsimp only at h
      cases b1 with
      | true =>
        rw [if_pos rfl] at h
        obtain ⟨e, g2⟩ := num2_inv hn z1 g1.2.1 h
        exact ⟨e, g1.trans g2⟩
      | false =>
        rw [if_neg (by decide)] at h
        replace h := Option.bind_eq_some_iff.mp h
        obtain ⟨⟨b3, s3, j3⟩, e3, h⟩ := h
        obtain ⟨rfl, g3, z3⟩ := take_num hn z1 g1.2.1 (by unfold NumCh; omega) e3
        obtain ⟨e, g2⟩ := num2_inv hn z3 g3.2.1 h
        exact ⟨e, (g1.trans g3).trans g2⟩
theorem num0_inv {s : ByteArray} (hn : Small s) {k : Nat} {b : Bool} {i : Int} {r : Bool} {s' : ByteArray} {j : Int} (h0 : 0 ≤ i) (h1 : i ≤ s.size) (h : spec_reader_number.j0 k b s i = some (r, s', j)) : s' = s ∧ NumSeg s i j := by
  cases k with
  | zero => simp [spec_reader_number.j0] at h
  | succ k =>
    rw [spec_reader_number.j0] at h
    cases b with
    | true =>
      rw [if_pos rfl] at h
      simp only [Option.some.injEq, Prod.mk.injEq] at h
      obtain ⟨_, e, rfl⟩ := h
      exact ⟨e.symm, NumSeg.refl h1⟩
    | false =>
      rw [if_neg (by decide)] at h
      replace h := Option.bind_eq_some_iff.mp h
      obtain ⟨⟨b1, s1, j1⟩, e1, h⟩ := h
      obtain ⟨rfl, g1, z1⟩ := take_num hn h0 h1 (by unfold NumCh; omega) e1
      try dsimp only at h
      cases b1 with
      | true =>
        rw [if_pos rfl] at h
        replace h := Option.bind_eq_some_iff.mp h
        obtain ⟨⟨b2, s2, j2⟩, e2, h⟩ := h
        obtain ⟨rfl, g2, z2⟩ := digits_inv hn z1 g1.2.1 e2
        obtain ⟨e, g3⟩ := num1_inv hn z2 g2.2.1 h
        exact ⟨e, (g1.trans g2).trans g3⟩
      | false =>
        rw [if_neg (by decide)] at h
        obtain ⟨e, g2⟩ := num1_inv hn z1 g1.2.1 h
        exact ⟨e, g1.trans g2⟩
theorem number_inv {s : ByteArray} (hn : Small s) {k : Nat} {i : Int} {r : Bool} {s' : ByteArray} {j : Int} (h0 : 0 ≤ i) (h1 : i ≤ s.size) (h : spec_reader_number.f k s i = some (r, s', j)) : s' = s ∧ NumSeg s i j := by
  unfold spec_reader_number.f at h
  replace h := Option.bind_eq_some_iff.mp h
  obtain ⟨⟨b1, s1, j1⟩, e1, h⟩ := h
  obtain ⟨rfl, g1, z1⟩ := take_num hn h0 h1 (by unfold NumCh; omega) e1
  try dsimp only at h
  replace h := Option.bind_eq_some_iff.mp h
  obtain ⟨⟨b2, s2, j2⟩, e2, h⟩ := h
  obtain ⟨rfl, g2, z2⟩ := take_num hn z1 g1.2.1 (by unfold NumCh; omega) e2
  try dsimp only at h
  cases b2 with
  | true =>
    rw [if_pos rfl] at h
    obtain ⟨e, g3⟩ := num0_inv hn z2 g2.2.1 h
    exact ⟨e, (g1.trans g2).trans g3⟩
  | false =>
    rw [if_neg (by decide)] at h
    replace h := Option.bind_eq_some_iff.mp h
    obtain ⟨⟨b3, s3, j3⟩, e3, h⟩ := h
    obtain ⟨rfl, g3, z3⟩ := digits_inv hn z2 g2.2.1 e3
    obtain ⟨e, g4⟩ := num0_inv hn z3 g3.2.1 h
    exact ⟨e, ((g1.trans g2).trans g3).trans g4⟩
end Go.Proofs.Ytkbeiidjagodnaa.Pr
/- What the reader's success says of the text: strings, values, elements, members: plain Lean. -/
namespace Go.Proofs.Ytkbeiidjagodnaa.Pr
open Go.RowKit Go.Proofs.YtkbeiidjagodnaaW.PrintWords Go.Proofs.YtkbeiidjagodnaaW.PrintLast Go.Proofs.YtkbeiidjagodnaaW.PrintMore
set_option linter.unusedVariables false

def HexCh (c : Int) : Prop := (48 ≤ c ∧ c ≤ 57) ∨ (97 ≤ c ∧ c ≤ 102) ∨ (65 ≤ c ∧ c ≤ 70)
theorem hex_inv {k : Nat} {c v : Int} (h : spec_hexDigit.f k c = some (v, true)) : HexCh c := by
  unfold spec_hexDigit.f at h
  unfold HexCh
  have j0 : ∀ k b, (b = true → 48 ≤ c ∧ c ≤ 57) → spec_hexDigit.j0 k c b = some (v, true) → (48 ≤ c ∧ c ≤ 57) ∨ (97 ≤ c ∧ c ≤ 102) ∨ (65 ≤ c ∧ c ≤ 70) := by
    intro k b hb h
    cases k with
    | zero => simp [spec_hexDigit.j0] at h
    | succ k =>
      rw [spec_hexDigit.j0] at h
      cases b with
      | true => exact .inl (hb rfl)
      | false =>
        rw [if_neg (by decide)] at h
        have j1 : ∀ b, (b = true → 97 ≤ c ∧ c ≤ 102) → spec_hexDigit.j1 k c b = some (v, true) → (97 ≤ c ∧ c ≤ 102) ∨ (65 ≤ c ∧ c ≤ 70) := by
          intro b hb h
          cases k with
          | zero => simp [spec_hexDigit.j1] at h
          | succ k =>
            rw [spec_hexDigit.j1] at h
            cases b with
            | true => exact .inl (hb rfl)
            | false =>
              rw [if_neg (by decide)] at h
              by_cases c1 : 65 ≤ c
              · by_cases c2 : c ≤ 70
                · exact .inr ⟨c1, c2⟩
                · rw [if_pos c1, if_neg c2] at h; simp at h
              · rw [if_neg c1] at h; simp at h
        by_cases c1 : 97 ≤ c
        · rw [if_pos c1] at h; exact .inr (j1 _ (fun e => ⟨c1, of_decide_eq_true e⟩) h)
        · rw [if_neg c1] at h; exact .inr (j1 _ (fun e => by cases e) h)
  by_cases c1 : 48 ≤ c
  · rw [if_pos c1] at h; exact j0 _ _ (fun e => ⟨c1, of_decide_eq_true e⟩) h
  · rw [if_neg c1] at h; exact j0 _ _ (fun e => by cases e) h

theorem esc_l (s : ByteArray) (hn : Small s) : ∀ (k : Nat) (q i : Int) (s' : ByteArray) (j : Int), 0 ≤ i → i ≤ s.size → 0 ≤ q → q ≤ 4 → spec_reader_escape.l0 k q s i = some (true, s', j) →
    s' = s ∧ j = i + (4 - q) ∧ j ≤ s.size ∧ ∀ p, i ≤ p → p < j → HexCh (bt s p)
  | 0, q, i, s', j, h0, h1, h2, h3, h => by simp [spec_reader_escape.l0] at h
  | k + 1, q, i, s', j, h0, h1, h2, h3, h => by
    have hn' : s.size ≤ 1048576 := hn
    rw [spec_reader_escape.l0] at h
    by_cases c1 : q < 4
    · rw [if_pos c1, here_eq s i h0] at h
      simp only [Option.bind_some] at h
      replace h := Option.bind_eq_some_iff.mp h
      obtain ⟨⟨v, b⟩, e1, h⟩ := h
      dsimp only at h
      cases b with
      | false => rw [if_neg (by decide)] at h; simp at h
      | true =>
        have hx := hex_inv e1
        have hi : i < (s.size : Int) := by
          by_cases hi : i < (s.size : Int)
          · exact hi
          · rw [at0_zero hi] at hx; unfold HexCh at hx; omega
        rw [at0_at hi] at hx
        rw [if_pos rfl, w64 (by omega) (by omega), w64 (by omega) (by omega)] at h
        obtain ⟨g1, g2, g3, g4⟩ := esc_l s hn k (q + 1) (i + 1) s' j (by omega) (by omega) (by omega) (by omega) h
        refine ⟨g1, by omega, g3, fun p h5 h6 => ?_⟩
        by_cases h7 : p = i
        · rw [h7]; exact hx
        · exact g4 p (by omega) h6
    · rw [if_neg c1] at h
      simp only [Option.some.injEq, Prod.mk.injEq] at h
      obtain ⟨_, rfl, rfl⟩ := h
      exact ⟨rfl, by omega, h1, fun p h5 h6 => by omega⟩
/-- An escape behind its backslash: one byte, or u and four hexadecimal digits. -/
theorem escape_inv {s : ByteArray} (hn : Small s) {k : Nat} {i : Int} {s' : ByteArray} {j : Int} (h0 : 0 ≤ i) (h1 : i ≤ s.size) (h : spec_reader_escape.f k s i = some (true, s', j)) :
    s' = s ∧ i < s.size ∧ j ≤ s.size ∧ (j = i + 1 ∨ (bt s i = 117 ∧ j = i + 5 ∧ ∀ p, i + 1 ≤ p → p < j → HexCh (bt s p))) := by
  have hn' : s.size ≤ 1048576 := hn
  unfold spec_reader_escape.f at h
  rw [here_eq s i h0] at h
  simp only [Option.bind_some] at h
  have key : ∀ (k : Nat) (b : Bool), (b = true → at0 s i ≠ 0) → spec_reader_escape.j0 k (at0 s i) b s i = some (true, s', j) → s' = s ∧ i < s.size ∧ j ≤ s.size ∧ (j = i + 1 ∨ (bt s i = 117 ∧ j = i + 5 ∧ ∀ p, i + 1 ≤ p → p < j → HexCh (bt s p))) := by
    intro k b hb h
    have hlt : at0 s i ≠ 0 → i < (s.size : Int) := by
      intro h2
      by_cases hi : i < (s.size : Int)
      · exact hi
      · exact absurd (at0_zero hi) h2
    cases k with
    | zero => simp [spec_reader_escape.j0] at h
    | succ k =>
      rw [spec_reader_escape.j0] at h
      cases b with
      | true =>
        have hi := hlt (hb rfl)
        rw [if_pos rfl, w64 (by omega) (by omega)] at h
        simp only [Option.some.injEq, Prod.mk.injEq] at h
        obtain ⟨_, rfl, rfl⟩ := h
        exact ⟨rfl, hi, by omega, .inl rfl⟩
      | false =>
        rw [if_neg (by decide)] at h
        by_cases c1 : at0 s i = 117
        · have hi := hlt (by omega)
          rw [if_pos c1, w64 (by omega) (by omega)] at h
          rw [at0_at hi] at c1
          obtain ⟨g1, g2, g3, g4⟩ := esc_l s hn k 0 (i + 1) s' j (by omega) (by omega) (by omega) (by omega) h
          exact ⟨g1, hi, g3, .inr ⟨c1, by omega, g4⟩⟩
        · rw [if_neg c1] at h; simp at h
  have nz : ∀ c : Int, c ≠ 0 → ((at0 s i == c) = true → at0 s i ≠ 0) := fun c hc e => by rw [beq_iff_eq.mp e]; exact hc
  by_cases c1 : at0 s i = 34
  · rw [if_pos c1] at h; exact key k _ (nz 34 (by decide)) h
  · rw [if_neg c1] at h
    by_cases c2 : at0 s i = 92
    · rw [if_pos c2] at h; exact key k _ (nz 92 (by decide)) h
    · rw [if_neg c2] at h
      by_cases c3 : at0 s i = 47
      · rw [if_pos c3] at h; exact key k _ (nz 47 (by decide)) h
      · rw [if_neg c3] at h
        by_cases c4 : at0 s i = 98
        · rw [if_pos c4] at h; exact key k _ (nz 98 (by decide)) h
        · rw [if_neg c4] at h
          by_cases c5 : at0 s i = 102
          · rw [if_pos c5] at h; exact key k _ (nz 102 (by decide)) h
          · rw [if_neg c5] at h
            by_cases c6 : at0 s i = 110
            · rw [if_pos c6] at h; exact key k _ (nz 110 (by decide)) h
            · rw [if_neg c6] at h
              by_cases c7 : at0 s i = 114
              · rw [if_pos c7] at h; exact key k _ (nz 114 (by decide)) h
              · rw [if_neg c7] at h; exact key k _ (nz 116 (by decide)) h

/-- A string from i to j: it ends with the first byte that closes it. -/
def StrSeg (x : List Int) (i j : Int) : Prop := rd x i = 34 ∧ i + 1 < j ∧ j ≤ x.length ∧ Closes x i (j - 1) ∧ ∀ q, i + 1 ≤ q → q < j - 1 → ¬ Closes x i q
theorem not_closes {x : List Int} {s q m : Int} (h : Run x s q m) (hp : (q - 1 - m) % 2 = 1) : ¬ Closes x s q := by
  rintro ⟨_, m', h1, h2⟩
  have := h.unique h1
  subst this
  omega
theorem quoted_l (s : ByteArray) (hn : Small s) (s0 : Int) (hs0 : 0 ≤ s0) : ∀ (k : Nat) (i m : Int) (s' : ByteArray) (j : Int), s0 < i → i ≤ s.size → Run (bytesOf s) s0 i m → (i - 1 - m) % 2 = 0 → spec_reader_quoted.l0 k s i = some (true, s', j) →
    s' = s ∧ i < j ∧ j ≤ s.size ∧ Closes (bytesOf s) s0 (j - 1) ∧ ∀ q, i ≤ q → q < j - 1 → ¬ Closes (bytesOf s) s0 q
  | 0, i, m, s', j, h0, h1, hr, hp, h => by simp [spec_reader_quoted.l0] at h
  | k + 1, i, m, s', j, h0, h1, hr, hp, h => by
    have hn' : s.size ≤ 1048576 := hn
    have hr0 := hr
    obtain ⟨r1, r2, r3, r4⟩ := hr
    rw [spec_reader_quoted.l0] at h
    by_cases hi : i < (s.size : Int)
    · rw [if_pos hi, if_pos (by omega), w64 (by omega) (by omega)] at h
      by_cases hq : bt s i = 34
      · rw [if_pos hq] at h
        simp only [Option.some.injEq, Prod.mk.injEq] at h
        obtain ⟨_, rfl, rfl⟩ := h
        refine ⟨rfl, by omega, by omega, ?_, fun q h2 h3 => by omega⟩
        rw [show i + 1 - 1 = i by omega]
        exact ⟨by rw [rd_bytesOf]; exact hq, m, hr0, hp⟩
      · rw [if_neg hq] at h
        have nq : ¬ Closes (bytesOf s) s0 i := fun h2 => hq (by have := h2.1; rw [rd_bytesOf] at this; exact this)
        by_cases hc : bt s i < 32
        · rw [if_pos hc] at h; simp at h
        · rw [if_neg hc] at h
          by_cases he : bt s i = 92
          · rw [if_pos he] at h
            replace h := Option.bind_eq_some_iff.mp h
            obtain ⟨⟨b, s1, j1⟩, e1, h⟩ := h
            dsimp only at h
            cases b with
            | false => rw [if_neg (by decide)] at h; simp at h
            | true =>
              rw [if_pos rfl] at h
              obtain ⟨es, g1, g2, g3⟩ := escape_inv hn (by omega) (by omega) e1
              subst es
              -- the byte behind the backslash closes nothing
              have hrun1 : Run (bytesOf s1) s0 (i + 1) m := ⟨r1, by omega, (fun p h2 h3 => by by_cases h4 : p = i; rw [h4, rd_bytesOf]; exact he; exact r3 p h2 (by omega)), r4⟩
              have nq1 : ¬ Closes (bytesOf s1) s0 (i + 1) := not_closes hrun1 (by omega)
              rcases g3 with rfl | ⟨gu, rfl, gh⟩
              · obtain ⟨a1, a2, a3, a4, a5⟩ : s' = s1 ∧ i + 1 + 1 < j ∧ j ≤ s1.size ∧ Closes (bytesOf s1) s0 (j - 1) ∧ ∀ q, i + 1 + 1 ≤ q → q < j - 1 → ¬ Closes (bytesOf s1) s0 q := by
                  by_cases hb : bt s1 (i + 1) = 92
                  · exact quoted_l s1 hn s0 hs0 k (i + 1 + 1) m s' j (by omega) (by omega) ⟨r1, by omega, (fun p h2 h3 => by by_cases h4 : p = i + 1; rw [h4, rd_bytesOf]; exact hb; exact hrun1.2.2.1 p h2 (by omega)), r4⟩ (by omega) h
                  · exact quoted_l s1 hn s0 hs0 k (i + 1 + 1) (i + 1) s' j (by omega) (by omega) ⟨by omega, by omega, (fun p h2 h3 => by omega), .inr (by rw [rd_bytesOf]; exact hb)⟩ (by omega) h
                refine ⟨a1, by omega, a3, a4, fun q h2 h3 => ?_⟩
                by_cases h4 : q = i
                · rw [h4]; exact nq
                · by_cases h5 : q = i + 1
                  · rw [h5]; exact nq1
                  · exact a5 q (by omega) h3
              · obtain ⟨a1, a2, a3, a4, a5⟩ := quoted_l s1 hn s0 hs0 k (i + 1 + 5) (i + 1 + 5 - 1) s' j (by omega) (by omega) ⟨by omega, by omega, (fun p h2 h3 => by omega), .inr (by rw [rd_bytesOf]; have := gh (i + 1 + 5 - 1) (by omega) (by omega); unfold HexCh at this; omega)⟩ (by omega) h
                refine ⟨a1, by omega, a3, a4, fun q h2 h3 => ?_⟩
                by_cases h4 : q = i
                · rw [h4]; exact nq
                · by_cases h5 : q = i + 1
                  · rw [h5]; exact nq1
                  · by_cases h6 : q < i + 1 + 5
                    · rintro ⟨h7, _⟩
                      rw [rd_bytesOf] at h7
                      have := gh q (by omega) h6
                      unfold HexCh at this
                      omega
                    · exact a5 q (by omega) h3
          · rw [if_neg he] at h
            obtain ⟨a1, a2, a3, a4, a5⟩ := quoted_l s hn s0 hs0 k (i + 1) i s' j (by omega) (by omega) ⟨by omega, by omega, (fun p h2 h3 => by omega), .inr (by rw [rd_bytesOf]; exact he)⟩ (by omega) h
            refine ⟨a1, by omega, a3, a4, fun q h2 h3 => ?_⟩
            by_cases h4 : q = i
            · rw [h4]; exact nq
            · exact a5 q (by omega) h3
    · rw [if_neg hi] at h; simp at h
theorem quoted_inv {s : ByteArray} (hn : Small s) {k : Nat} {i : Int} {s' : ByteArray} {j : Int} (h0 : 0 ≤ i) (h1 : i < s.size) (hq : bt s i = 34) (h : spec_reader_quoted.f k s i = some (true, s', j)) : s' = s ∧ StrSeg (bytesOf s) i j := by
  have hn' : s.size ≤ 1048576 := hn
  unfold spec_reader_quoted.f at h
  rw [w64 (by omega) (by omega)] at h
  obtain ⟨a1, a2, a3, a4, a5⟩ := quoted_l s hn i h0 k (i + 1) i s' j (by omega) (by omega) ⟨by omega, by omega, (fun p h2 h3 => by omega), .inl rfl⟩ (by omega) h
  exact ⟨a1, by rw [rd_bytesOf]; exact hq, a2, by rw [bytesOf_length]; omega, a4, a5⟩
end Go.Proofs.Ytkbeiidjagodnaa.Pr
/- What the reader's success says of the text: values, with all that stands in them: plain Lean. -/
namespace Go.Proofs.Ytkbeiidjagodnaa.Pr
open Go.RowKit Go.Proofs.YtkbeiidjagodnaaW.PrintWords Go.Proofs.YtkbeiidjagodnaaW.PrintLast Go.Proofs.YtkbeiidjagodnaaW.PrintMore
set_option linter.unusedVariables false

/-- A place that the reader reads as it stands. -/
def VR (V : H_spec_reader_value) (s : ByteArray) (p : S25) : Prop := 0 ≤ p.f1 ∧ ∃ k, V.f k s p.f1 = some (p.f0, p.f1, p.f2, p.f3, p.f4, true, s, p.f2)
/-- The elements of an array, from the first one's begin to behind the bracket. -/
inductive Kids (V : H_spec_reader_value) (s : ByteArray) : List S25 → Int → Int → Prop where
  | last (p : S25) (i r : Int) : VR V s p → p.f1 = i → p.f1 < p.f2 → Blanks s p.f2 r → r < s.size → bt s r = 93 → Kids V s [p] i (r + 1)
  | more (p : S25) (i r t j : Int) (ks : List S25) : VR V s p → p.f1 = i → p.f1 < p.f2 → Blanks s p.f2 r → r < s.size → bt s r = 44 → Blanks s (r + 1) t → Kids V s ks t j → Kids V s (p :: ks) i j
/-- Places one behind the other. -/
inductive Chain (V : H_spec_reader_value) (s : ByteArray) : List S25 → Int → Int → Prop where
  | nil (i j : Int) : i ≤ j → Chain V s [] i j
  | cons (p : S25) (ks : List S25) (i j : Int) : VR V s p → i ≤ p.f1 → p.f1 < p.f2 → Chain V s ks (p.f2 + 1) j → Chain V s (p :: ks) i j
theorem Chain.le {V : H_spec_reader_value} {s : ByteArray} {ks : List S25} {i j : Int} (h : Chain V s ks i j) : i ≤ j := by
  induction h with
  | nil i j h => exact h
  | cons p ks i j h1 h2 h3 h4 ih => omega
theorem Chain.from {V : H_spec_reader_value} {s : ByteArray} {ks : List S25} {i i' j : Int} (h : Chain V s ks i j) (hi : i' ≤ i) : Chain V s ks i' j := by
  cases h with
  | nil _ _ h => exact .nil _ _ (by omega)
  | cons p ks _ _ h1 h2 h3 h4 => exact .cons p ks _ _ h1 (by omega) h3 h4
theorem Kids.chain {V : H_spec_reader_value} {s : ByteArray} {ks : List S25} {i j : Int} (h : Kids V s ks i j) : Chain V s ks i j := by
  induction h with
  | last p i r h1 h2 h3 h4 h5 h6 => exact .cons p [] _ _ h1 (by omega) h3 (.nil _ _ (by have := h4.1; omega))
  | more p i r t j ks h1 h2 h3 h4 h5 h6 h7 h8 ih => exact .cons p ks _ _ h1 (by omega) h3 (ih.from (by have := h4.1; have := h7.1; omega))

/-- What is known of all that a reader of values reads. -/
def InvV (V : H_spec_reader_value) (s : ByteArray) : Prop := ∀ (k : Nat) (i kd b j : Int) (ns : List S53) (ks : List S25) (s' : ByteArray) (j' : Int), 0 ≤ i → i ≤ s.size → V.f k s i = some (kd, b, j, ns, ks, true, s', j') →
  s' = s ∧ j' = j ∧ b = i ∧ i < j ∧ j ≤ s.size
def InvE (E : H_spec_reader_elements) (V : H_spec_reader_value) (s : ByteArray) : Prop := ∀ (k : Nat) (i : Int) (ks : List S25) (s' : ByteArray) (j : Int), 0 ≤ i → i < s.size → E.f k s i = some (ks, true, s', j) →
  s' = s ∧ i + 1 < j ∧ j ≤ s.size ∧ ((ks = [] ∧ ∃ p, Blanks s (i + 1) p ∧ p < s.size ∧ bt s p = 93 ∧ j = p + 1) ∨ ∃ p, Blanks s (i + 1) p ∧ Kids V s ks p j)
def InvM (M : H_spec_reader_members) (V : H_spec_reader_value) (s : ByteArray) : Prop := ∀ (k : Nat) (i : Int) (ns : List S53) (ks : List S25) (s' : ByteArray) (j : Int), 0 ≤ i → i < s.size → M.f k s i = some (ns, ks, true, s', j) →
  s' = s ∧ i + 1 < j ∧ j ≤ s.size ∧ Chain V s ks (i + 1) j

theorem elements_l {V : H_spec_reader_value} {s : ByteArray} (hn : Small s) (hV : InvV V s) : ∀ (k : Nat) (x4 : List S25) (i : Int) (ks : List S25) (s' : ByteArray) (j : Int), 0 ≤ i → i ≤ s.size → spec_reader_elements.l0 V k x4 s i = some (ks, true, s', j) →
    s' = s ∧ i < j ∧ j ≤ s.size ∧ ∃ ks', ks = x4 ++ ks' ∧ Kids V s ks' i j
  | 0, x4, i, ks, s', j, h0, h1, h => by simp [spec_reader_elements.l0] at h
  | k + 1, x4, i, ks, s', j, h0, h1, h => by
    have hn' : s.size ≤ 1048576 := hn
    rw [spec_reader_elements.l0] at h
    replace h := Option.bind_eq_some_iff.mp h
    obtain ⟨⟨kd, b, e, ns, gs, ok, s1, e'⟩, hv, h⟩ := h
    dsimp only at h
    cases ok with
    | false => rw [if_neg (by decide)] at h; simp at h
    | true =>
      rw [if_pos rfl] at h
      obtain ⟨rfl, rfl, rfl, a1, a2⟩ := hV k i kd b e ns gs s1 e' h0 h1 hv
      have hVR : VR V s1 ⟨kd, b, e', ns, gs⟩ := ⟨h0, k, hv⟩
      by_cases c1 : x4.length < 1954687338268
      · rw [if_pos c1] at h
        simp only [Option.bind_some] at h
        replace h := Option.bind_eq_some_iff.mp h
        obtain ⟨⟨s2, j1⟩, hb, h⟩ := h
        dsimp only at h
        obtain ⟨rfl, hb⟩ := blanks_inv s1 hn k e' s2 j1 (by omega) a2 hb
        have z1 : 0 ≤ j1 := by have := hb.1; omega
        replace h := Option.bind_eq_some_iff.mp h
        obtain ⟨⟨b2, s3, j2⟩, ht, h⟩ := h
        dsimp only at h
        obtain ⟨rfl, ht⟩ := take_inv hn z1 hb.2.1 ht
        cases b2 with
        | true =>
          rw [if_pos rfl] at h
          simp only [Option.some.injEq, Prod.mk.injEq] at h
          obtain ⟨rfl, _, rfl, rfl⟩ := h
          rcases ht with ⟨_, t1, t2, rfl⟩ | ⟨t1, _⟩
          · exact ⟨rfl, by have := hb.1; omega, by omega, _, rfl, .last ⟨kd, b, e', ns, gs⟩ b j1 hVR rfl a1 hb t1 t2⟩
          · cases t1
        | false =>
          rw [if_neg (by decide)] at h
          rcases ht with ⟨t1, _⟩ | ⟨_, rfl⟩
          · cases t1
          replace h := Option.bind_eq_some_iff.mp h
          obtain ⟨⟨b3, s4, j3⟩, ht, h⟩ := h
          dsimp only at h
          obtain ⟨rfl, ht⟩ := take_inv hn z1 hb.2.1 ht
          cases b3 with
          | false => rw [if_neg (by decide)] at h; simp at h
          | true =>
            rw [if_pos rfl] at h
            rcases ht with ⟨_, t1, t2, rfl⟩ | ⟨t1, _⟩
            · replace h := Option.bind_eq_some_iff.mp h
              obtain ⟨⟨s5, j4⟩, hb2, h⟩ := h
              dsimp only at h
              obtain ⟨rfl, hb2⟩ := blanks_inv s4 hn k (j2 + 1) s5 j4 (by omega) (by omega) hb2
              obtain ⟨e1, e2, e3, ks', rfl, hK⟩ := elements_l hn hV k _ j4 ks s' j (by have := hb2.1; omega) hb2.2.1 h
              refine ⟨e1, by have := hb2.1; have := hb.1; omega, e3, ⟨kd, b, e', ns, gs⟩ :: ks', by simp, .more ⟨kd, b, e', ns, gs⟩ b j2 j4 j ks' hVR rfl a1 hb t1 t2 hb2 hK⟩
            · cases t1
      · rw [if_neg c1] at h; simp at h
theorem elements_inv {V : H_spec_reader_value} {s : ByteArray} (hn : Small s) (hV : InvV V s) (k : Nat) (i : Int) (ks : List S25) (s' : ByteArray) (j : Int) (h0 : 0 ≤ i) (h1 : i < s.size) (h : spec_reader_elements.f V k s i = some (ks, true, s', j)) :
    s' = s ∧ i + 1 < j ∧ j ≤ s.size ∧ ((ks = [] ∧ ∃ p, Blanks s (i + 1) p ∧ p < s.size ∧ bt s p = 93 ∧ j = p + 1) ∨ ∃ p, Blanks s (i + 1) p ∧ Kids V s ks p j) := by
  have hn' : s.size ≤ 1048576 := hn
  unfold spec_reader_elements.f at h
  rw [w64 (by omega) (by omega)] at h
  replace h := Option.bind_eq_some_iff.mp h
  obtain ⟨⟨s1, p⟩, hb, h⟩ := h
  dsimp only at h
  obtain ⟨rfl, hb⟩ := blanks_inv s hn k (i + 1) s1 p (by omega) (by omega) hb
  have z1 : i + 1 ≤ p := hb.1
  replace h := Option.bind_eq_some_iff.mp h
  obtain ⟨⟨b, s2, q⟩, ht, h⟩ := h
  dsimp only at h
  obtain ⟨rfl, ht⟩ := take_inv hn (by omega) hb.2.1 ht
  cases b with
  | true =>
    rw [if_pos rfl] at h
    simp only [Option.some.injEq, Prod.mk.injEq] at h
    obtain ⟨rfl, _, rfl, rfl⟩ := h
    rcases ht with ⟨_, t1, t2, rfl⟩ | ⟨t1, _⟩
    · exact ⟨rfl, by omega, by omega, .inl ⟨rfl, p, hb, t1, t2, rfl⟩⟩
    · cases t1
  | false =>
    rw [if_neg (by decide)] at h
    rcases ht with ⟨t1, _⟩ | ⟨_, rfl⟩
    · cases t1
    obtain ⟨e1, e2, e3, ks', e4, hK⟩ := elements_l hn hV k [] q ks s' j (by omega) hb.2.1 h
    rw [List.nil_append] at e4
    subst e4
    exact ⟨e1, by omega, e3, .inr ⟨q, hb, hK⟩⟩

theorem members_l {V : H_spec_reader_value} {s : ByteArray} (hn : Small s) (hV : InvV V s) : ∀ (d : Nat) (k : Nat) (x5 : List S53) (x6 : List S25) (i : Int) (ns : List S53) (ks : List S25) (s' : ByteArray) (j : Int), k ≤ d → 0 ≤ i → i ≤ s.size → spec_reader_members.l0 V k x5 x6 s i = some (ns, ks, true, s', j) →
    s' = s ∧ i < j ∧ j ≤ s.size ∧ ∃ ks', ks = x6 ++ ks' ∧ Chain V s ks' i j := by
  intro d
  induction d with
  | zero =>
    intro k x5 x6 i ns ks s' j hd h0 h1 h
    obtain rfl : k = 0 := by omega
    simp [spec_reader_members.l0] at h
  | succ d members_ih =>
    intro k x5 x6 i ns ks s' j hd h0 h1 h
    have hn' : s.size ≤ 1048576 := hn
    cases k with
    | zero => simp [spec_reader_members.l0] at h
    | succ k =>
    rw [spec_reader_members.l0, here_eq s i h0] at h
    simp only [Option.bind_some] at h
    have bad : ∀ (k : Nat) (i' : Int) (r : List S53 × List S25 × Bool × ByteArray × Int), spec_reader_members.j1 V k x5 x6 i true s i' = some r → r.2.2.1 = false := by
      intro k i' r h
      cases k with
      | zero => simp [spec_reader_members.j1] at h
      | succ k => rw [spec_reader_members.j1, if_pos rfl] at h; simp only [Option.some.injEq] at h; rw [← h]
    by_cases c0 : at0 s i = 34
    · have hi : i < (s.size : Int) := by
        by_cases hi : i < (s.size : Int)
        · exact hi
        · rw [at0_zero hi] at c0; omega
      rw [if_pos c0] at h
      rw [at0_at hi] at c0
      replace h := Option.bind_eq_some_iff.mp h
      obtain ⟨⟨bq, sq, jq⟩, hq, h⟩ := h
      dsimp only at h
      cases bq with
      | false =>
        cases k with
        | zero => simp [spec_reader_members.j1] at h
        | succ k => rw [spec_reader_members.j1, Bool.not_false, if_pos rfl] at h; simp at h
      | true =>
        obtain ⟨rfl, q1, q2, q3, q4, q5⟩ := quoted_inv hn h0 hi c0 hq
        rw [bytesOf_length] at q3
        cases k with
        | zero => simp [spec_reader_members.j1] at h
        | succ k =>
        rw [spec_reader_members.j1, Bool.not_true, if_neg (by decide)] at h
        by_cases c1 : x5.length < 8796093022208
        · rw [if_pos c1] at h
          simp only [Option.bind_some] at h
          replace h := Option.bind_eq_some_iff.mp h
          obtain ⟨⟨s1, j1⟩, hb, h⟩ := h
          dsimp only at h
          obtain ⟨rfl, hb⟩ := blanks_inv sq hn k jq s1 j1 (by omega) (by omega) hb
          have z1 : jq ≤ j1 := hb.1
          replace h := Option.bind_eq_some_iff.mp h
          obtain ⟨⟨b2, s2, j2⟩, ht, h⟩ := h
          dsimp only at h
          obtain ⟨rfl, ht⟩ := take_inv hn (by omega) hb.2.1 ht
          cases b2 with
          | false => rw [if_neg (by decide)] at h; simp at h
          | true =>
            rcases ht with ⟨_, t1, t2, rfl⟩ | ⟨t1, _⟩
            case inr => cases t1
            rw [if_pos rfl] at h
            replace h := Option.bind_eq_some_iff.mp h
            obtain ⟨⟨s3, j3⟩, hb2, h⟩ := h
            dsimp only at h
            obtain ⟨rfl, hb2⟩ := blanks_inv s2 hn k (j1 + 1) s3 j3 (by omega) (by omega) hb2
            have z2 : j1 + 1 ≤ j3 := hb2.1
            replace h := Option.bind_eq_some_iff.mp h
            obtain ⟨⟨kd, b, e, ns', gs, ok, s4, e'⟩, hv, h⟩ := h
            dsimp only at h
            cases ok with
            | false => rw [if_neg (by decide)] at h; simp at h
            | true =>
              rw [if_pos rfl] at h
              obtain ⟨rfl, rfl, rfl, a1, a2⟩ := hV k j3 kd b e ns' gs s4 e' (by omega) hb2.2.1 hv
              have hVR : VR V s4 ⟨kd, b, e', ns', gs⟩ := ⟨by dsimp only; omega, k, hv⟩
              by_cases c2 : x6.length < 1954687338268
              · rw [if_pos c2] at h
                replace h := Option.bind_eq_some_iff.mp h
                obtain ⟨⟨s5, j5⟩, hb3, h⟩ := h
                dsimp only at h
                obtain ⟨rfl, hb3⟩ := blanks_inv s4 hn k e' s5 j5 (by omega) a2 hb3
                have z3 : e' ≤ j5 := hb3.1
                replace h := Option.bind_eq_some_iff.mp h
                obtain ⟨⟨b6, s6, j6⟩, ht, h⟩ := h
                dsimp only at h
                obtain ⟨rfl, ht⟩ := take_inv hn (by omega) hb3.2.1 ht
                cases b6 with
                | true =>
                  rw [if_pos rfl] at h
                  simp only [Option.some.injEq, Prod.mk.injEq] at h
                  obtain ⟨_, rfl, _, rfl, rfl⟩ := h
                  rcases ht with ⟨_, t3, t4, rfl⟩ | ⟨t3, _⟩
                  · exact ⟨rfl, by omega, by omega, _, rfl, .cons ⟨kd, b, e', ns', gs⟩ [] _ _ hVR (by dsimp only; omega) a1 (.nil _ _ (by dsimp only; omega))⟩
                  · cases t3
                | false =>
                  rw [if_neg (by decide)] at h
                  rcases ht with ⟨t3, _⟩ | ⟨_, rfl⟩
                  · cases t3
                  replace h := Option.bind_eq_some_iff.mp h
                  obtain ⟨⟨b7, s7, j7⟩, ht, h⟩ := h
                  dsimp only at h
                  obtain ⟨rfl, ht⟩ := take_inv hn (by omega) hb3.2.1 ht
                  cases b7 with
                  | false => rw [if_neg (by decide)] at h; simp at h
                  | true =>
                    rcases ht with ⟨_, t3, t4, rfl⟩ | ⟨t3, _⟩
                    case inr => cases t3
                    rw [if_pos rfl] at h
                    replace h := Option.bind_eq_some_iff.mp h
                    obtain ⟨⟨s8, j8⟩, hb4, h⟩ := h
                    dsimp only at h
                    obtain ⟨rfl, hb4⟩ := blanks_inv s7 hn k (j6 + 1) s8 j8 (by omega) (by omega) hb4
                    have z4 : j6 + 1 ≤ j8 := hb4.1
                    obtain ⟨e1, e2, e3, ks', rfl, hK⟩ := members_ih k _ _ j8 ns ks s' j (by omega) (by omega) hb4.2.1 h
                    exact ⟨e1, by omega, e3, ⟨kd, b, e', ns', gs⟩ :: ks', by simp, .cons ⟨kd, b, e', ns', gs⟩ ks' _ _ hVR (by dsimp only; omega) a1 (hK.from (by dsimp only; omega))⟩
              · rw [if_neg c2] at h; simp at h
        · rw [if_neg c1] at h; simp at h
    · rw [if_neg c0] at h
      exact absurd (bad k i _ h) (by simp)
theorem members_inv {V : H_spec_reader_value} {s : ByteArray} (hn : Small s) (hV : InvV V s) (k : Nat) (i : Int) (ns : List S53) (ks : List S25) (s' : ByteArray) (j : Int) (h0 : 0 ≤ i) (h1 : i < s.size) (h : spec_reader_members.f V k s i = some (ns, ks, true, s', j)) :
    s' = s ∧ i + 1 < j ∧ j ≤ s.size ∧ Chain V s ks (i + 1) j := by
  have hn' : s.size ≤ 1048576 := hn
  unfold spec_reader_members.f at h
  rw [w64 (by omega) (by omega)] at h
  replace h := Option.bind_eq_some_iff.mp h
  obtain ⟨⟨s1, p⟩, hb, h⟩ := h
  dsimp only at h
  obtain ⟨rfl, hb⟩ := blanks_inv s hn k (i + 1) s1 p (by omega) (by omega) hb
  have z1 : i + 1 ≤ p := hb.1
  replace h := Option.bind_eq_some_iff.mp h
  obtain ⟨⟨b, s2, q⟩, ht, h⟩ := h
  dsimp only at h
  obtain ⟨rfl, ht⟩ := take_inv hn (by omega) hb.2.1 ht
  cases b with
  | true =>
    rw [if_pos rfl] at h
    simp only [Option.some.injEq, Prod.mk.injEq] at h
    obtain ⟨_, rfl, _, rfl, rfl⟩ := h
    rcases ht with ⟨_, t1, t2, rfl⟩ | ⟨t1, _⟩
    · exact ⟨rfl, by omega, by omega, .nil _ _ (by omega)⟩
    · cases t1
  | false =>
    rw [if_neg (by decide)] at h
    rcases ht with ⟨t1, _⟩ | ⟨_, rfl⟩
    · cases t1
    obtain ⟨e1, e2, e3, ks', e4, hK⟩ := members_l hn hV k k [] [] q ns ks s' j (by omega) (by omega) hb.2.1 h
    rw [List.nil_append] at e4
    subst e4
    exact ⟨e1, by omega, e3, hK.from (by omega)⟩

/-- A word of JSON. -/
def WordSeg (s : ByteArray) (i j : Int) : Prop := i < j ∧ (seg (bytesOf s) i j = [110, 117, 108, 108] ∨ seg (bytesOf s) i j = [102, 97, 108, 115, 101] ∨ seg (bytesOf s) i j = [116, 114, 117, 101])
/-- What stands from i to j, by the kind that the reader told. -/
def ValOK (V0 : H_spec_reader_value) (s : ByteArray) (kd i j : Int) (ks : List S25) : Prop :=
  (kd = 6 ∧ Chain V0 s ks (i + 1) j) ∨
  (kd = 5 ∧ bt s i = 91 ∧ ((ks = [] ∧ ∃ p, Blanks s (i + 1) p ∧ p < s.size ∧ bt s p = 93 ∧ j = p + 1) ∨ ∃ p, Blanks s (i + 1) p ∧ Kids V0 s ks p j)) ∨
  (kd = 4 ∧ ks = [] ∧ StrSeg (bytesOf s) i j) ∨
  (kd = 3 ∧ ks = [] ∧ ((48 ≤ bt s i ∧ bt s i ≤ 57) ∨ bt s i = 45) ∧ NumSeg s i j) ∨
  (0 ≤ kd ∧ kd ≤ 2 ∧ ks = [] ∧ WordSeg s i j)

theorem value0_inv {M : H_spec_reader_members} {E : H_spec_reader_elements} {V0 : H_spec_reader_value} {s : ByteArray} (hn : Small s) {k : Nat} {num : Bool} {i kd b j : Int} {ns : List S53} {ks : List S25} {s' : ByteArray} {j' : Int}
    (h0 : 0 ≤ i) (h1 : i < s.size) (hnum : num = true → (48 ≤ bt s i ∧ bt s i ≤ 57) ∨ bt s i = 45) (h : spec_reader_value.j0 M E k true num s i 0 i 0 = some (kd, b, j, ns, ks, true, s', j')) :
    s' = s ∧ j' = j ∧ b = i ∧ j ≤ s.size ∧ ValOK V0 s kd i j ks := by
  have hn' : s.size ≤ 1048576 := hn
  cases k with
  | zero => simp [spec_reader_value.j0] at h
  | succ k =>
  rw [spec_reader_value.j0] at h
  cases num with
  | true =>
    rw [if_pos rfl] at h
    replace h := Option.bind_eq_some_iff.mp h
    obtain ⟨⟨b1, s1, j1⟩, e1, h⟩ := h
    simp only [Option.some.injEq, Prod.mk.injEq] at h
    obtain ⟨rfl, rfl, rfl, rfl, rfl, _, rfl, rfl⟩ := h
    obtain ⟨rfl, g⟩ := number_inv hn h0 (by omega) e1
    exact ⟨rfl, rfl, rfl, g.2.1, .inr (.inr (.inr (.inl ⟨rfl, rfl, hnum rfl, g⟩)))⟩
  | false =>
    rw [if_neg (by decide)] at h
    replace h := Option.bind_eq_some_iff.mp h
    obtain ⟨⟨b1, s1, j1⟩, e1, h⟩ := h
    dsimp only at h
    obtain ⟨rfl, g⟩ := word_inv hn h0 (by omega) (by decide) e1
    cases b1 with
    | true =>
      rw [if_pos rfl] at h
      simp only [Option.some.injEq, Prod.mk.injEq] at h
      obtain ⟨rfl, rfl, rfl, rfl, rfl, _, rfl, rfl⟩ := h
      rcases g with ⟨_, g1, g2, g3⟩ | ⟨g, _⟩
      · exact ⟨rfl, rfl, rfl, g2, .inr (.inr (.inr (.inr ⟨by decide, by decide, rfl, by have : (⟨#[110, 117, 108, 108]⟩ : ByteArray).size = 4 := rfl; omega, .inl (g3.trans rfl)⟩)))⟩
      · cases g
    | false =>
      rw [if_neg (by decide)] at h
      rcases g with ⟨g, _⟩ | ⟨_, rfl⟩
      · cases g
      replace h := Option.bind_eq_some_iff.mp h
      obtain ⟨⟨b2, s2, j2⟩, e2, h⟩ := h
      dsimp only at h
      obtain ⟨rfl, g⟩ := word_inv hn h0 (by omega) (by decide) e2
      cases b2 with
      | true =>
        rw [if_pos rfl] at h
        simp only [Option.some.injEq, Prod.mk.injEq] at h
        obtain ⟨rfl, rfl, rfl, rfl, rfl, _, rfl, rfl⟩ := h
        rcases g with ⟨_, g1, g2, g3⟩ | ⟨g, _⟩
        · exact ⟨rfl, rfl, rfl, g2, .inr (.inr (.inr (.inr ⟨by decide, by decide, rfl, by have : (⟨#[102, 97, 108, 115, 101]⟩ : ByteArray).size = 5 := rfl; omega, .inr (.inl (g3.trans rfl))⟩)))⟩
        · cases g
      | false =>
        rw [if_neg (by decide)] at h
        rcases g with ⟨g, _⟩ | ⟨_, rfl⟩
        · cases g
        replace h := Option.bind_eq_some_iff.mp h
        obtain ⟨⟨b3, s3, j3⟩, e3, h⟩ := h
        dsimp only at h
        obtain ⟨rfl, g⟩ := word_inv hn h0 (by omega) (by decide) e3
        cases b3 with
        | true =>
          rw [if_pos rfl] at h
          simp only [Option.some.injEq, Prod.mk.injEq] at h
          obtain ⟨rfl, rfl, rfl, rfl, rfl, _, rfl, rfl⟩ := h
          rcases g with ⟨_, g1, g2, g3⟩ | ⟨g, _⟩
          · exact ⟨rfl, rfl, rfl, g2, .inr (.inr (.inr (.inr ⟨by decide, by decide, rfl, by have : (⟨#[116, 114, 117, 101]⟩ : ByteArray).size = 4 := rfl; omega, .inr (.inr (g3.trans rfl))⟩)))⟩
          · cases g
        | false => rw [if_neg (by decide)] at h; simp at h

theorem value_inv {M : H_spec_reader_members} {E : H_spec_reader_elements} {V0 : H_spec_reader_value} {s : ByteArray} (hn : Small s) (hM : InvM M V0 s) (hE : InvE E V0 s) {k : Nat} {i kd b j : Int} {ns : List S53} {ks : List S25} {s' : ByteArray} {j' : Int}
    (h0 : 0 ≤ i) (h1 : i < s.size) (h : spec_reader_value.f M E k s i = some (kd, b, j, ns, ks, true, s', j')) :
    s' = s ∧ j' = j ∧ b = i ∧ j ≤ s.size ∧ ValOK V0 s kd i j ks := by
  have hn' : s.size ≤ 1048576 := hn
  unfold spec_reader_value.f at h
  rw [here_eq s i h0, at0_at h1] at h
  simp only [Option.bind_some] at h
  by_cases c1 : bt s i = 123
  · rw [if_pos c1] at h
    replace h := Option.bind_eq_some_iff.mp h
    obtain ⟨⟨ns1, ks1, ok, s1, j1⟩, e1, h⟩ := h
    simp only [Option.some.injEq, Prod.mk.injEq] at h
    obtain ⟨rfl, rfl, rfl, rfl, rfl, rfl, rfl, rfl⟩ := h
    obtain ⟨rfl, g1, g2, g3⟩ := hM k i _ _ _ _ h0 h1 e1
    exact ⟨rfl, rfl, rfl, g2, .inl ⟨rfl, g3⟩⟩
  · rw [if_neg c1] at h
    by_cases c2 : bt s i = 91
    · rw [if_pos c2] at h
      replace h := Option.bind_eq_some_iff.mp h
      obtain ⟨⟨ks1, ok, s1, j1⟩, e1, h⟩ := h
      simp only [Option.some.injEq, Prod.mk.injEq] at h
      obtain ⟨rfl, rfl, rfl, rfl, rfl, rfl, rfl, rfl⟩ := h
      obtain ⟨rfl, g1, g2, g3⟩ := hE k i _ _ _ h0 h1 e1
      exact ⟨rfl, rfl, rfl, g2, .inr (.inl ⟨rfl, c2, g3⟩)⟩
    · rw [if_neg c2] at h
      by_cases c3 : bt s i = 34
      · rw [if_pos c3] at h
        replace h := Option.bind_eq_some_iff.mp h
        obtain ⟨⟨ok, s1, j1⟩, e1, h⟩ := h
        simp only [Option.some.injEq, Prod.mk.injEq] at h
        obtain ⟨rfl, rfl, rfl, rfl, rfl, rfl, rfl, rfl⟩ := h
        obtain ⟨rfl, g⟩ := quoted_inv hn h0 h1 c3 e1
        exact ⟨rfl, rfl, rfl, by have := g.2.2.1; rw [bytesOf_length] at this; omega, .inr (.inr (.inl ⟨rfl, rfl, g⟩))⟩
      · rw [if_neg c3] at h
        by_cases c4 : bt s i = 45
        · rw [if_pos c4] at h; exact value0_inv hn h0 h1 (fun _ => .inr c4) h
        · rw [if_neg c4] at h
          by_cases c5 : 48 ≤ bt s i
          · rw [if_pos c5] at h; exact value0_inv hn h0 h1 (fun e => .inl ⟨c5, of_decide_eq_true e⟩) h
          · rw [if_neg c5] at h; exact value0_inv hn h0 h1 (fun e => by cases e) h
end Go.Proofs.Ytkbeiidjagodnaa.Pr
/- The reader's values, tied by their depth; the places of a JSON text, all of them, and the text's grammar where no object and no string stands in it: plain Lean. -/
namespace Go.Proofs.Ytkbeiidjagodnaa.Pr
open Go.RowKit Go.Proofs.YtkbeiidjagodnaaW.PrintWords Go.Proofs.YtkbeiidjagodnaaW.PrintLast Go.Proofs.YtkbeiidjagodnaaW.PrintMore
set_option linter.unusedVariables false

theorem digits_pos {s : ByteArray} (hn : Small s) {k : Nat} {i : Int} {r : Bool} {s' : ByteArray} {j : Int} (h0 : 0 ≤ i) (h1 : i < s.size) (hd : 48 ≤ bt s i ∧ bt s i ≤ 57) (h : spec_reader_digits.f k s i = some (r, s', j)) : i < j := by
  have hn' : s.size ≤ 1048576 := hn
  unfold spec_reader_digits.f at h
  rw [here_eq s i h0] at h
  simp only [Option.bind_some] at h
  cases k with
  | zero => simp [spec_reader_digits.l0] at h
  | succ k =>
    rw [spec_reader_digits.l0, at0_at h1, if_pos hd.1, if_pos hd.2, w64 (by omega) (by omega), here_eq s (i + 1) (by omega)] at h
    simp only [Option.bind_some] at h
    have := (digits_l s hn i k (i + 1) r s' j (by omega) (by omega) h).2.1
    omega
theorem number_pos {s : ByteArray} (hn : Small s) {k : Nat} {i : Int} {r : Bool} {s' : ByteArray} {j : Int} (h0 : 0 ≤ i) (h1 : i < s.size) (hd : (48 ≤ bt s i ∧ bt s i ≤ 57) ∨ bt s i = 45) (h : spec_reader_number.f k s i = some (r, s', j)) : i < j := by
  unfold spec_reader_number.f at h
  replace h := Option.bind_eq_some_iff.mp h
  obtain ⟨⟨b1, s1, j1⟩, e1, h⟩ := h
  obtain ⟨rfl, t1⟩ := take_inv hn h0 (by omega) e1
  obtain ⟨_, g1, z1⟩ := take_num hn h0 (by omega) (by unfold NumCh; omega) e1
  dsimp only at h
  replace h := Option.bind_eq_some_iff.mp h
  obtain ⟨⟨b2, s2, j2⟩, e2, h⟩ := h
  obtain ⟨rfl, t2⟩ := take_inv hn z1 g1.2.1 e2
  obtain ⟨_, g2, z2⟩ := take_num hn z1 g1.2.1 (by unfold NumCh; omega) e2
  dsimp only at h
  cases b2 with
  | true =>
    rw [if_pos rfl] at h
    have g3 := (num0_inv hn z2 g2.2.1 h).2.1
    have := g1.1
    rcases t2 with ⟨_, _, _, t3⟩ | ⟨t3, _⟩
    · omega
    · cases t3
  | false =>
    rw [if_neg (by decide)] at h
    rcases t2 with ⟨t3, _⟩ | ⟨_, rfl⟩
    · cases t3
    replace h := Option.bind_eq_some_iff.mp h
    obtain ⟨⟨b3, s3, j3⟩, e3, h⟩ := h
    obtain ⟨rfl, g3, z3⟩ := digits_inv hn z2 g2.2.1 e3
    have g4 := (num0_inv hn z3 g3.2.1 h).2.1
    have := g3.1
    rcases t1 with ⟨_, _, _, t4⟩ | ⟨_, t4⟩
    · omega
    · subst t4
      rcases hd with hd | hd
      · have := digits_pos hn h0 h1 hd e3
        omega
      · -- the minus sign is taken
        have : spec_reader_take.f s3 j2 45 = some (true, s3, j2 + 1) := take_yes s3 hn j2 45 h0 h1 hd
        rw [this] at e1
        simp only [Option.some.injEq, Prod.mk.injEq] at e1
        omega

/-- A place that a reader reads, and all that stands in it. -/
theorem value_known {s : ByteArray} (hn : Small s) : ∀ (D : Nat) (k : Nat) (i kd b j : Int) (ns : List S53) (ks : List S25) (s' : ByteArray) (j' : Int), 0 ≤ i → i ≤ s.size → (spec_reader_value.at_ (D + 1)).f k s i = some (kd, b, j, ns, ks, true, s', j') →
    s' = s ∧ j' = j ∧ b = i ∧ i < j ∧ j ≤ s.size ∧ ValOK (spec_reader_value.at_ (D - 1)) s kd i j ks := by
  intro D
  induction D using Nat.strongRecOn with
  | _ D ih =>
  intro k i kd b j ns ks s' j' h0 h1 h
  have hn' : s.size ≤ 1048576 := hn
  have hV : InvV (spec_reader_value.at_ (D - 1)) s := by
    intro k i kd b j ns ks s' j' h0 h1 h
    by_cases hD : D - 1 = 0
    · rw [hD] at h; cases h
    · obtain ⟨E, hE⟩ : ∃ E, D - 1 = E + 1 := ⟨D - 2, by omega⟩
      rw [hE] at h
      obtain ⟨a1, a2, a3, a4, a5, _⟩ := ih E (by omega) k i kd b j ns ks s' j' h0 h1 h
      exact ⟨a1, a2, a3, a4, a5⟩
  have hM : InvM (spec_reader_members.at_ D) (spec_reader_value.at_ (D - 1)) s := by
    intro k i ns ks s' j h0 h1 h
    cases D with
    | zero => cases h
    | succ E => exact members_inv hn hV k i ns ks s' j h0 h1 h
  have hE : InvE (spec_reader_elements.at_ D) (spec_reader_value.at_ (D - 1)) s := by
    intro k i ks s' j h0 h1 h
    cases D with
    | zero => cases h
    | succ E => exact elements_inv hn hV k i ks s' j h0 h1 h
  have h' : spec_reader_value.f (spec_reader_members.at_ D) (spec_reader_elements.at_ D) k s i = some (kd, b, j, ns, ks, true, s', j') := h
  by_cases hi : i < (s.size : Int)
  · obtain ⟨a1, a2, a3, a4, a5⟩ := value_inv (V0 := spec_reader_value.at_ (D - 1)) hn hM hE h0 hi h'
    refine ⟨a1, a2, a3, ?_, a4, a5⟩
    rcases a5 with ⟨_, g⟩ | ⟨_, _, ⟨_, p, g, _, _, rfl⟩ | ⟨p, g1, g2⟩⟩ | ⟨_, _, g⟩ | ⟨rfl, _, g, _⟩ | ⟨_, _, _, g, _⟩
    · have := g.le; omega
    · have := g.1; omega
    · have := g1.1; have := g2.chain.le; omega
    · have := g.2.1; omega
    · -- a number
      unfold spec_reader_value.f at h'
      rw [here_eq s i h0, at0_at hi] at h'
      simp only [Option.bind_some] at h'
      rw [if_neg (by omega), if_neg (by omega), if_neg (by omega)] at h'
      have key : ∀ k, spec_reader_value.j0 (spec_reader_members.at_ D) (spec_reader_elements.at_ D) k true true s i 0 i 0 = some (3, b, j, ns, ks, true, s', j') → i < j := by
        intro k h
        cases k with
        | zero => simp [spec_reader_value.j0] at h
        | succ k =>
          rw [spec_reader_value.j0, if_pos rfl] at h
          replace h := Option.bind_eq_some_iff.mp h
          obtain ⟨⟨b1, s1, j1⟩, e1, h⟩ := h
          simp only [Option.some.injEq, Prod.mk.injEq] at h
          have := number_pos hn h0 hi g e1
          omega
      by_cases c4 : bt s i = 45
      · rw [if_pos c4] at h'; exact key k h'
      · rw [if_neg c4, if_pos (by omega), decide_eq_true (show bt s i ≤ 57 by omega)] at h'; exact key k h'
    · exact g
  · -- at the text's end there is no value
    exfalso
    unfold spec_reader_value.f at h'
    rw [here_eq s i h0, at0_zero hi] at h'
    simp only [Option.bind_some] at h'
    rw [if_neg (by decide), if_neg (by decide), if_neg (by decide), if_neg (by decide), if_neg (by decide)] at h'
    cases k with
    | zero => simp [spec_reader_value.j0] at h'
    | succ k =>
      have nw : ∀ (w : ByteArray), 0 < w.size → spec_reader_word.f s i w = some (false, s, i) := by
        intro w hw
        unfold spec_reader_word.f
        rw [w64 (by omega) (by omega), if_pos (by omega)]
      rw [spec_reader_value.j0, if_neg (by decide), nw _ (by decide)] at h'
      simp only [Option.bind_some] at h'
      rw [if_neg (by decide), nw _ (by decide)] at h'
      simp only [Option.bind_some] at h'
      rw [if_neg (by decide), nw _ (by decide)] at h'
      simp only [Option.bind_some] at h'
      rw [if_neg (by decide)] at h'
      simp at h'

/-- Bytes up to the space alone from i to j. -/
def Gap (x : List Int) (i j : Int) : Prop := i ≤ j ∧ ∀ p, i ≤ p → p < j → rd x p ≤ 32
theorem Blanks.gap {s : ByteArray} {i j : Int} (h : Blanks s i j) : Gap (bytesOf s) i j := ⟨h.1, fun p h1 h2 => by rw [rd_bytesOf]; exact isBlank_le (h.2.2 p h1 h2)⟩
/-- The grammar without objects and strings: a value from i to j (false); what follows an element, to behind its array's bracket (true). -/
inductive G (x : List Int) : Bool → Int → Int → Prop where
  | num (i j : Int) : 0 ≤ i → i < j → j ≤ x.length → ((48 ≤ rd x i ∧ rd x i ≤ 57) ∨ rd x i = 45) → (∀ p, i ≤ p → p < j → NumCh (rd x p)) → G x false i j
  | word (i j : Int) : 0 ≤ i → i < j → j ≤ x.length → (seg x i j = [110, 117, 108, 108] ∨ seg x i j = [102, 97, 108, 115, 101] ∨ seg x i j = [116, 114, 117, 101]) → G x false i j
  | empty (i p : Int) : 0 ≤ i → rd x i = 91 → Gap x (i + 1) p → p < x.length → rd x p = 93 → G x false i (p + 1)
  | arr (i p u j : Int) : 0 ≤ i → rd x i = 91 → Gap x (i + 1) p → G x false p u → G x true u j → G x false i j
  | close (q r : Int) : Gap x q r → r < x.length → rd x r = 93 → G x true q (r + 1)
  | next (q r t u j : Int) : Gap x q r → r < x.length → rd x r = 44 → Gap x (r + 1) t → G x false t u → G x true u j → G x true q j
end Go.Proofs.Ytkbeiidjagodnaa.Pr

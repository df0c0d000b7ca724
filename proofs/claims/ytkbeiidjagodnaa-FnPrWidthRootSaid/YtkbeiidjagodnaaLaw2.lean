/- What the reader's functions answer, in plain Lean: where they end, and that they end. -/
import Derived.Test.YtkbeiidjagodnaaPrx4b
namespace Go.Proofs.Ytkbeiidjagodnaa.Pr
open Go.RowKit Go.Proofs.YtkbeiidjagodnaaW.PrintWords Go.Proofs.YtkbeiidjagodnaaW.PrintLast Go.Proofs.YtkbeiidjagodnaaW.PrintMore
set_option linter.unusedVariables false

theorem w64 {x : Int} (h0 : 0 ≤ x) (h1 : x ≤ 4611686018427387904) : wrap64 x = x := by unfold wrap64; omega

/-- The bound on texts under which nothing wraps. -/
abbrev Small (s : ByteArray) : Prop := s.size ≤ 1048576

def isBlank (c : Int) : Prop := c = 32 ∨ c = 9 ∨ c = 10 ∨ c = 13

theorem blank_true {c : Int} (h : isBlank c) : spec_Blank.f c = some true := by
  unfold spec_Blank.f
  rcases h with rfl | rfl | rfl | rfl <;> simp
theorem blank_false {c : Int} (h : ¬ isBlank c) : spec_Blank.f c = some false := by
  unfold spec_Blank.f
  unfold isBlank at h
  rw [if_neg (by omega), if_neg (by omega), if_neg (by omega)]
  have : (c == 13) = false := by rw [beq_eq_false_iff_ne]; omega
  rw [this]
open Classical in
theorem blanks_tot (s : ByteArray) (hn : Small s) (d : Nat) : ∀ (k : Nat) (i : Int), 0 ≤ i → i ≤ s.size → (s.size : Int) - i = d → d < k →
    ∃ j, spec_reader_blanks.f k s i = some (s, j) ∧ i ≤ j ∧ j ≤ s.size ∧ (∀ m, i ≤ m → m < j → isBlank (bt s m)) ∧ (j < s.size → ¬ isBlank (bt s j)) := by
  unfold Small at hn
  induction d with
  | zero =>
    intro k i h0 h1 hd hk
    obtain ⟨k, rfl⟩ : ∃ m, k = m + 1 := ⟨k - 1, by omega⟩
    refine ⟨i, ?_, by omega, h1, fun m h2 h3 => by omega, fun h => by omega⟩
    simp only [spec_reader_blanks.f, spec_reader_blanks.l0]
    rw [if_neg (by omega)]
  | succ d ih =>
    intro k i h0 h1 hd hk
    obtain ⟨k, rfl⟩ : ∃ m, k = m + 1 := ⟨k - 1, by omega⟩
    by_cases hb : isBlank (bt s i)
    · obtain ⟨j, hj, h2, h3, h4, h5⟩ := ih k (i + 1) (by omega) (by omega) (by omega) (by omega)
      refine ⟨j, ?_, by omega, h3, fun m h6 h7 => ?_, h5⟩
      · simp only [spec_reader_blanks.f, spec_reader_blanks.l0] at hj ⊢
        rw [if_pos (by omega), if_pos h0, blank_true hb, Option.bind_some, if_pos rfl, w64 (by omega) (by omega)]
        exact hj
      · by_cases h8 : m = i
        · subst h8; exact hb
        · exact h4 m (by omega) h7
    · refine ⟨i, ?_, by omega, h1, fun m h2 h3 => by omega, fun _ => hb⟩
      simp only [spec_reader_blanks.f, spec_reader_blanks.l0]
      rw [if_pos (by omega), if_pos h0, blank_false hb, Option.bind_some, if_neg (by decide)]

/-- The byte at a place, 0 behind the end. -/
def at0 (s : ByteArray) (i : Int) : Int := if i < (s.size : Int) then bt s i else 0
theorem here_eq (s : ByteArray) (i : Int) (h0 : 0 ≤ i) : spec_reader_here.f s i = some (at0 s i, s, i) := by
  unfold spec_reader_here.f at0
  by_cases h : i < (s.size : Int)
  · rw [if_pos h, if_pos h0, if_pos h]
  · rw [if_neg h, if_neg h]
theorem take_yes (s : ByteArray) (hn : Small s) (i c : Int) (h0 : 0 ≤ i) (h1 : i < s.size) (h : bt s i = c) : spec_reader_take.f s i c = some (true, s, i + 1) := by
  unfold Small at hn
  unfold spec_reader_take.f
  rw [if_pos h1, if_pos h0, if_pos h, w64 (by omega) (by omega)]
theorem take_no (s : ByteArray) (i c : Int) (h0 : 0 ≤ i) (h : ¬ (i < s.size ∧ bt s i = c)) : spec_reader_take.f s i c = some (false, s, i) := by
  unfold spec_reader_take.f
  by_cases h1 : i < (s.size : Int)
  · rw [if_pos h1, if_pos h0, if_neg (fun e => h ⟨h1, e⟩)]
  · rw [if_neg h1]
theorem take_tot (s : ByteArray) (hn : Small s) (i c : Int) (h0 : 0 ≤ i) (h1 : i ≤ s.size) : ∃ b j, spec_reader_take.f s i c = some (b, s, j) ∧ i ≤ j ∧ j ≤ s.size ∧ (b = true → j = i + 1 ∧ i < s.size ∧ bt s i = c) ∧ (b = false → j = i ∧ ¬ (i < s.size ∧ bt s i = c)) := by
  by_cases h : i < (s.size : Int) ∧ bt s i = c
  · exact ⟨true, i + 1, take_yes s hn i c h0 h.1 h.2, by omega, by omega, (fun _ => ⟨rfl, h⟩), fun e => by cases e⟩
  · exact ⟨false, i, take_no s i c h0 h, by omega, h1, (fun e => by cases e), fun _ => ⟨rfl, h⟩⟩

theorem hex_tot (k : Nat) (hk : 2 ≤ k) (c : Int) : ∃ v b, spec_hexDigit.f k c = some (v, b) := by
  obtain ⟨k, rfl⟩ : ∃ m, k = m + 2 := ⟨k - 2, by omega⟩
  unfold spec_hexDigit.f
  simp only [spec_hexDigit.j0, spec_hexDigit.j1]
  repeat' split
  all_goals exact ⟨_, _, rfl⟩
theorem at0_zero {s : ByteArray} {i : Int} (h : ¬ i < (s.size : Int)) : at0 s i = 0 := by unfold at0; rw [if_neg h]
theorem at0_at {s : ByteArray} {i : Int} (h : i < (s.size : Int)) : at0 s i = bt s i := by unfold at0; rw [if_pos h]
theorem hex_zero (k : Nat) (hk : 2 ≤ k) : spec_hexDigit.f k 0 = some (0, false) := by
  obtain ⟨k, rfl⟩ : ∃ m, k = m + 2 := ⟨k - 2, by omega⟩
  unfold spec_hexDigit.f
  simp [spec_hexDigit.j0, spec_hexDigit.j1]

theorem esc_loop (s : ByteArray) (hn : Small s) (d : Nat) : ∀ (k : Nat) (q i : Int), 0 ≤ i → i ≤ s.size → 0 ≤ q → q ≤ 4 → 4 - q = d → d + 3 ≤ k →
    ∃ b j, spec_reader_escape.l0 k q s i = some (b, s, j) ∧ i ≤ j ∧ j ≤ s.size := by
  unfold Small at hn
  induction d with
  | zero =>
    intro k q i h0 h1 h2 h3 hd hk
    obtain ⟨k, rfl⟩ : ∃ m, k = m + 1 := ⟨k - 1, by omega⟩
    exact ⟨true, i, by simp only [spec_reader_escape.l0]; rw [if_neg (by omega)], by omega, h1⟩
  | succ d ih =>
    intro k q i h0 h1 h2 h3 hd hk
    obtain ⟨k, rfl⟩ : ∃ m, k = m + 1 := ⟨k - 1, by omega⟩
    by_cases hi : i < (s.size : Int)
    · obtain ⟨v, b, hv⟩ := hex_tot k (by omega) (at0 s i)
      cases b with
      | true =>
        obtain ⟨b', j, hj, h4, h5⟩ := ih k (q + 1) (i + 1) (by omega) (by omega) (by omega) (by omega) (by omega) (by omega)
        refine ⟨b', j, ?_, by omega, h5⟩
        simp only [spec_reader_escape.l0]
        rw [if_pos (by omega), here_eq s i h0]
        simp only [Option.bind_some, hv, if_true]
        rw [w64 (by omega) (by omega), w64 (by omega) (by omega)]
        exact hj
      | false =>
        refine ⟨false, i, ?_, by omega, h1⟩
        simp only [spec_reader_escape.l0]
        rw [if_pos (by omega), here_eq s i h0]
        simp only [Option.bind_some, hv, Bool.false_eq_true, if_false]
    · refine ⟨false, i, ?_, by omega, h1⟩
      simp only [spec_reader_escape.l0]
      rw [if_pos (by omega), here_eq s i h0]
      simp only [Option.bind_some]
      rw [at0_zero hi, hex_zero k (by omega)]
      simp only [Option.bind_some, Bool.false_eq_true, if_false]
theorem esc_tot (s : ByteArray) (hn : Small s) (k : Nat) (i : Int) (h0 : 0 ≤ i) (h1 : i ≤ s.size) (hk : 9 ≤ k) :
    ∃ b j, spec_reader_escape.f k s i = some (b, s, j) ∧ i ≤ j ∧ j ≤ s.size := by
  have key : ∀ (k : Nat) (c : Int) (b : Bool), 8 ≤ k → (at0 s i = c) → (i < s.size ∨ (b = false ∧ c ≠ 117)) → ∃ b' j, spec_reader_escape.j0 k c b s i = some (b', s, j) ∧ i ≤ j ∧ j ≤ s.size := by
    intro k c b hk hc hb
    have hn' : s.size ≤ 1048576 := hn
    obtain ⟨k, rfl⟩ : ∃ m, k = m + 1 := ⟨k - 1, by omega⟩
    simp only [spec_reader_escape.j0]
    cases b with
    | true =>
      rw [if_pos rfl]
      rcases hb with hb | hb
      · exact ⟨true, i + 1, by rw [w64 (by omega) (by omega)], by omega, by omega⟩
      · exact absurd hb.1 (by decide)
    | false =>
      rw [if_neg (by decide)]
      by_cases hu : c = 117
      · rw [if_pos hu]
        rcases hb with hb | hb
        · rw [w64 (by omega) (by omega)]
          obtain ⟨b', j, hj, h2, h3⟩ := esc_loop s hn 4 k 0 (i + 1) (by omega) (by omega) (by omega) (by omega) (by omega) (by omega)
          exact ⟨b', j, hj, by omega, h3⟩
        · exact absurd hu hb.2
      · rw [if_neg hu]
        exact ⟨false, i, rfl, by omega, h1⟩
  unfold spec_reader_escape.f
  rw [here_eq s i h0]
  simp only [Option.bind_some]
  by_cases hi : i < (s.size : Int)
  · repeat' split
    all_goals exact key k _ _ (by omega) rfl (.inl hi)
  · rw [at0_zero hi]
    rw [if_neg (by decide), if_neg (by decide), if_neg (by decide), if_neg (by decide), if_neg (by decide), if_neg (by decide), if_neg (by decide)]
    exact key k _ _ (by omega) (at0_zero hi) (.inr ⟨rfl, by decide⟩)

theorem quoted_loop (s : ByteArray) (hn : Small s) (d : Nat) : ∀ (k : Nat) (i : Int), 0 ≤ i → i ≤ s.size → (s.size : Int) - i ≤ d → d + 10 ≤ k →
    ∃ b j, spec_reader_quoted.l0 k s i = some (b, s, j) ∧ i ≤ j ∧ j ≤ s.size ∧ (b = true → i < j) := by
  have hn' : s.size ≤ 1048576 := hn
  induction d with
  | zero =>
    intro k i h0 h1 hd hk
    obtain ⟨k, rfl⟩ : ∃ m, k = m + 1 := ⟨k - 1, by omega⟩
    exact ⟨false, i, by simp only [spec_reader_quoted.l0]; rw [if_neg (by omega)], by omega, h1, fun e => by cases e⟩
  | succ d ih =>
    intro k i h0 h1 hd hk
    obtain ⟨k, rfl⟩ : ∃ m, k = m + 1 := ⟨k - 1, by omega⟩
    simp only [spec_reader_quoted.l0]
    by_cases hi : i < (s.size : Int)
    · rw [if_pos hi, if_pos h0, w64 (by omega) (by omega)]
      by_cases hq : bt s i = 34
      · rw [if_pos hq]; exact ⟨true, i + 1, rfl, by omega, by omega, fun _ => by omega⟩
      · rw [if_neg hq]
        by_cases hc : bt s i < 32
        · rw [if_pos hc]; exact ⟨false, i + 1, rfl, by omega, by omega, fun e => by cases e⟩
        · rw [if_neg hc]
          by_cases he : bt s i = 92
          · rw [if_pos he]
            obtain ⟨b, j, hj, h2, h3⟩ := esc_tot s hn k (i + 1) (by omega) (by omega) (by omega)
            rw [hj]
            simp only [Option.bind_some]
            cases b with
            | true =>
              rw [if_pos rfl]
              obtain ⟨b', j', hj', h4, h5, h6⟩ := ih k j (by omega) h3 (by omega) (by omega)
              exact ⟨b', j', hj', by omega, h5, fun e => by have := h6 e; omega⟩
            | false => rw [if_neg (by decide)]; exact ⟨false, j, rfl, by omega, h3, fun e => by cases e⟩
          · rw [if_neg he]
            obtain ⟨b', j', hj', h4, h5, h6⟩ := ih k (i + 1) (by omega) (by omega) (by omega) (by omega)
            exact ⟨b', j', hj', by omega, h5, fun e => by have := h6 e; omega⟩
    · rw [if_neg hi]; exact ⟨false, i, rfl, by omega, h1, fun e => by cases e⟩
theorem quoted_tot (s : ByteArray) (hn : Small s) (k : Nat) (i : Int) (h0 : 0 ≤ i) (h1 : i < s.size) (hk : (s.size : Int) - i + 10 ≤ k) :
    ∃ b j, spec_reader_quoted.f k s i = some (b, s, j) ∧ i < j ∧ j ≤ s.size := by
  have hn' : s.size ≤ 1048576 := hn
  obtain ⟨b, j, hj, h2, h3, h4⟩ := quoted_loop s hn ((s.size : Int) - i).toNat k (i + 1) (by omega) (by omega) (by omega) (by omega)
  refine ⟨b, j, ?_, by omega, h3⟩
  unfold spec_reader_quoted.f
  rw [w64 (by omega) (by omega)]
  exact hj

theorem digits_loop (s : ByteArray) (hn : Small s) (b : Int) (d : Nat) : ∀ (k : Nat) (i : Int), 0 ≤ i → i ≤ s.size → (s.size : Int) - i ≤ d → d + 1 ≤ k →
    ∃ j, spec_reader_digits.l0 k b (at0 s i) s i = some (decide (j > b), s, j) ∧ i ≤ j ∧ j ≤ s.size := by
  have hn' : s.size ≤ 1048576 := hn
  induction d with
  | zero =>
    intro k i h0 h1 hd hk
    obtain ⟨k, rfl⟩ : ∃ m, k = m + 1 := ⟨k - 1, by omega⟩
    refine ⟨i, ?_, by omega, h1⟩
    simp only [spec_reader_digits.l0]
    rw [at0_zero (by omega), if_neg (by omega)]
  | succ d ih =>
    intro k i h0 h1 hd hk
    obtain ⟨k, rfl⟩ : ∃ m, k = m + 1 := ⟨k - 1, by omega⟩
    simp only [spec_reader_digits.l0]
    by_cases hi : i < (s.size : Int)
    · by_cases h2 : 48 ≤ at0 s i
      · by_cases h3 : at0 s i ≤ 57
        · obtain ⟨j, hj, h4, h5⟩ := ih k (i + 1) (by omega) (by omega) (by omega) (by omega)
          rw [if_pos h2, if_pos h3, w64 (by omega) (by omega), here_eq s (i + 1) (by omega)]
          simp only [Option.bind_some]
          exact ⟨j, hj, by omega, h5⟩
        · rw [if_pos h2, if_neg h3]; exact ⟨i, rfl, by omega, h1⟩
      · rw [if_neg h2]; exact ⟨i, rfl, by omega, h1⟩
    · rw [at0_zero hi, if_neg (by omega)]; exact ⟨i, rfl, by omega, h1⟩
theorem digits_tot (s : ByteArray) (hn : Small s) (k : Nat) (i : Int) (h0 : 0 ≤ i) (h1 : i ≤ s.size) (hk : (s.size : Int) - i + 1 ≤ k) :
    ∃ b j, spec_reader_digits.f k s i = some (b, s, j) ∧ i ≤ j ∧ j ≤ s.size ∧ (b = true → i < j) := by
  obtain ⟨j, hj, h2, h3⟩ := digits_loop s hn i ((s.size : Int) - i).toNat k i h0 h1 (by omega) (by omega)
  refine ⟨decide (j > i), j, ?_, h2, h3, fun e => by simpa using e⟩
  unfold spec_reader_digits.f
  rw [here_eq s i h0]
  simp only [Option.bind_some]
  exact hj
theorem num2_tot (s : ByteArray) (hn : Small s) (k : Nat) (b : Bool) (i : Int) (h0 : 0 ≤ i) (h1 : i ≤ s.size) (hk : (s.size : Int) - i + 2 ≤ k) :
    ∃ b' j, spec_reader_number.j2 k b s i = some (b', s, j) ∧ i ≤ j ∧ j ≤ s.size := by
  obtain ⟨k, rfl⟩ : ∃ m, k = m + 1 := ⟨k - 1, by omega⟩
  simp only [spec_reader_number.j2]
  cases b with
  | false => rw [if_neg (by decide)]; exact ⟨true, i, rfl, by omega, h1⟩
  | true =>
    rw [if_pos rfl]
    obtain ⟨b1, j1, e1, h2, h3, _⟩ := take_tot s hn i 43 h0 h1
    rw [e1]
    simp only [Option.bind_some]
    cases b1 with
    | true =>
      rw [if_pos rfl]
      obtain ⟨b2, j2, e2, h4, h5, _⟩ := digits_tot s hn k j1 (by omega) h3 (by omega)
      rw [e2]
      exact ⟨b2, j2, rfl, by omega, h5⟩
    | false =>
      rw [if_neg (by decide)]
      obtain ⟨b3, j3, e3, h6, h7, _⟩ := take_tot s hn j1 45 (by omega) h3
      rw [e3]
      simp only [Option.bind_some]
      obtain ⟨b2, j2, e2, h4, h5, _⟩ := digits_tot s hn k j3 (by omega) h7 (by omega)
      rw [e2]
      exact ⟨b2, j2, rfl, by omega, h5⟩
theorem num1_tot (s : ByteArray) (hn : Small s) (k : Nat) (b : Bool) (i : Int) (h0 : 0 ≤ i) (h1 : i ≤ s.size) (hk : (s.size : Int) - i + 3 ≤ k) :
    ∃ b' j, spec_reader_number.j1 k b s i = some (b', s, j) ∧ i ≤ j ∧ j ≤ s.size := by
  obtain ⟨k, rfl⟩ : ∃ m, k = m + 1 := ⟨k - 1, by omega⟩
  simp only [spec_reader_number.j1]
  cases b with
  | true => rw [if_pos rfl]; exact ⟨false, i, rfl, by omega, h1⟩
  | false =>
    rw [if_neg (by decide)]
    obtain ⟨b1, j1, e1, h2, h3, _⟩ := take_tot s hn i 101 h0 h1
    rw [e1]
    simp only [Option.bind_some]
    cases b1 with
    | true =>
      rw [if_pos rfl]
      obtain ⟨b2, j2, e2, h4, h5⟩ := num2_tot s hn k true j1 (by omega) h3 (by omega)
      exact ⟨b2, j2, e2, by omega, h5⟩
    | false =>
      rw [if_neg (by decide)]
      obtain ⟨b3, j3, e3, h6, h7, _⟩ := take_tot s hn j1 69 (by omega) h3
      rw [e3]
      simp only [Option.bind_some]
      obtain ⟨b2, j2, e2, h4, h5⟩ := num2_tot s hn k b3 j3 (by omega) h7 (by omega)
      exact ⟨b2, j2, e2, by omega, h5⟩
theorem num0_tot (s : ByteArray) (hn : Small s) (k : Nat) (b : Bool) (i : Int) (h0 : 0 ≤ i) (h1 : i ≤ s.size) (hk : (s.size : Int) - i + 4 ≤ k) :
    ∃ b' j, spec_reader_number.j0 k b s i = some (b', s, j) ∧ i ≤ j ∧ j ≤ s.size := by
  obtain ⟨k, rfl⟩ : ∃ m, k = m + 1 := ⟨k - 1, by omega⟩
  simp only [spec_reader_number.j0]
  cases b with
  | true => rw [if_pos rfl]; exact ⟨false, i, rfl, by omega, h1⟩
  | false =>
    rw [if_neg (by decide)]
    obtain ⟨b1, j1, e1, h2, h3, _⟩ := take_tot s hn i 46 h0 h1
    rw [e1]
    simp only [Option.bind_some]
    cases b1 with
    | true =>
      rw [if_pos rfl]
      obtain ⟨b2, j2, e2, h4, h5, _⟩ := digits_tot s hn k j1 (by omega) h3 (by omega)
      rw [e2]
      simp only [Option.bind_some]
      obtain ⟨b3, j3, e3, h6, h7⟩ := num1_tot s hn k (!b2) j2 (by omega) h5 (by omega)
      exact ⟨b3, j3, e3, by omega, h7⟩
    | false =>
      rw [if_neg (by decide)]
      obtain ⟨b3, j3, e3, h6, h7⟩ := num1_tot s hn k false j1 (by omega) h3 (by omega)
      exact ⟨b3, j3, e3, by omega, h7⟩
/-- A number's reading ends; if it begins with a digit or a minus sign it goes on by a byte at least. -/
theorem number_tot (s : ByteArray) (hn : Small s) (k : Nat) (i : Int) (h0 : 0 ≤ i) (h1 : i ≤ s.size) (hk : (s.size : Int) - i + 5 ≤ k) :
    ∃ b j, spec_reader_number.f k s i = some (b, s, j) ∧ i ≤ j ∧ j ≤ s.size ∧ (b = true → i < j) := by
  unfold spec_reader_number.f
  obtain ⟨b1, j1, e1, h2, h3, h2t, h2f⟩ := take_tot s hn i 45 h0 h1
  rw [e1]
  simp only [Option.bind_some]
  obtain ⟨b2, j2, e2, h4, h5, h4t, h4f⟩ := take_tot s hn j1 48 (by omega) h3
  rw [e2]
  simp only [Option.bind_some]
  cases b2 with
  | true =>
    rw [if_pos rfl]
    obtain ⟨b3, j3, e3, h6, h7⟩ := num0_tot s hn k false j2 (by omega) h5 (by omega)
    exact ⟨b3, j3, e3, by omega, h7, fun _ => by have := (h4t rfl).1; omega⟩
  | false =>
    rw [if_neg (by decide)]
    obtain ⟨b3, j3, e3, h6, h7, h8⟩ := digits_tot s hn k j2 (by omega) h5 (by omega)
    rw [e3]
    simp only [Option.bind_some]
    cases b3 with
    | true =>
      obtain ⟨b4, j4, e4, h9, h10⟩ := num0_tot s hn k (!true) j3 (by omega) h7 (by omega)
      exact ⟨b4, j4, e4, by omega, h10, fun _ => by have := h8 rfl; omega⟩
    | false =>
      obtain ⟨k, rfl⟩ : ∃ m, k = m + 1 := ⟨k - 1, by omega⟩
      refine ⟨false, j3, ?_, by omega, h7, fun e => by cases e⟩
      simp only [spec_reader_number.j0, Bool.not_false, if_true]
theorem word_tot (s : ByteArray) (hn : Small s) (i : Int) (h0 : 0 ≤ i) (h1 : i ≤ s.size) (w : ByteArray) (hw : w.size ≤ 8) :
    ∃ b j, spec_reader_word.f s i w = some (b, s, j) ∧ j ≤ s.size ∧ (b = true → j = i + w.size ∧ (s.extract i.toNat (i + w.size).toNat).toList = w.toList) ∧ (b = false → j = i) := by
  have hn' : s.size ≤ 1048576 := hn
  unfold spec_reader_word.f
  by_cases h : (s.size : Int) - i < w.size
  · rw [w64 (by omega) (by omega), if_pos h]
    exact ⟨false, i, rfl, h1, (fun e => by cases e), fun _ => rfl⟩
  · rw [w64 (by omega) (by omega), if_neg h, if_pos h0, w64 (by omega) (by omega), if_pos (by omega), if_pos (by omega)]
    by_cases he : (s.extract i.toNat (i + w.size).toNat).toList = w.toList
    · rw [if_pos he]; exact ⟨true, i + w.size, rfl, by omega, (fun _ => ⟨rfl, he⟩), fun e => by cases e⟩
    · rw [if_neg he]; exact ⟨false, i, rfl, h1, (fun e => by cases e), fun _ => rfl⟩
end Go.Proofs.Ytkbeiidjagodnaa.Pr
/- The reader's three functions that call each other end, whatever the text. -/
namespace Go.Proofs.Ytkbeiidjagodnaa.Pr
open Go.RowKit Go.Proofs.YtkbeiidjagodnaaW.PrintWords Go.Proofs.YtkbeiidjagodnaaW.PrintLast Go.Proofs.YtkbeiidjagodnaaW.PrintMore
set_option linter.unusedVariables false

def TotV (V : H_spec_reader_value) (s : ByteArray) (D : Int) : Prop := ∀ (k : Nat) (i : Int), 0 ≤ i → i ≤ s.size → 2 * ((s.size : Int) - i) + 1 ≤ D → (s.size : Int) - i + 13 ≤ k →
  ∃ kd ns ks ok j, V.f k s i = some (kd, i, j, ns, ks, ok, s, j) ∧ i ≤ j ∧ j ≤ s.size ∧ (ok = true → i < j)
def TotE (E : H_spec_reader_elements) (s : ByteArray) (D : Int) : Prop := ∀ (k : Nat) (i : Int), 0 ≤ i → i < s.size → 2 * ((s.size : Int) - i) ≤ D → (s.size : Int) - i + 13 ≤ k →
  ∃ ks ok j, E.f k s i = some (ks, ok, s, j) ∧ i < j ∧ j ≤ s.size
def TotM (M : H_spec_reader_members) (s : ByteArray) (D : Int) : Prop := ∀ (k : Nat) (i : Int), 0 ≤ i → i < s.size → 2 * ((s.size : Int) - i) ≤ D → (s.size : Int) - i + 13 ≤ k →
  ∃ ns ks ok j, M.f k s i = some (ns, ks, ok, s, j) ∧ i < j ∧ j ≤ s.size

theorem blanks_t (s : ByteArray) (hn : Small s) (k : Nat) (i : Int) (h0 : 0 ≤ i) (h1 : i ≤ s.size) (hk : (s.size : Int) - i < k) : ∃ j, spec_reader_blanks.f k s i = some (s, j) ∧ i ≤ j ∧ j ≤ s.size := by
  obtain ⟨j, hj, h2, h3, _⟩ := blanks_tot s hn ((s.size : Int) - i).toNat k i h0 h1 (by omega) (by omega)
  exact ⟨j, hj, h2, h3⟩

theorem elems_loop {V : H_spec_reader_value} {s : ByteArray} (hn : Small s) {D : Int} (hV : TotV V s D) (d : Nat) : ∀ (k : Nat) (x4 : List S25) (i : Int), 0 ≤ i → i ≤ s.size → (s.size : Int) - i ≤ d → d + 14 ≤ k →
    2 * ((s.size : Int) - i) + 1 ≤ D → (x4.length : Int) ≤ i → ∃ ks ok j, spec_reader_elements.l0 V k x4 s i = some (ks, ok, s, j) ∧ i ≤ j ∧ j ≤ s.size := by
  have hn' : s.size ≤ 1048576 := hn
  induction d with
  | zero =>
    intro k x4 i h0 h1 hd hk hD hx
    obtain ⟨k, rfl⟩ : ∃ m, k = m + 1 := ⟨k - 1, by omega⟩
    obtain ⟨kd, ns, ks, ok, j, hj, h2, h3, h4⟩ := hV k i h0 h1 hD (by omega)
    simp only [spec_reader_elements.l0]
    rw [hj]
    simp only [Option.bind_some]
    cases ok with
    | true => have := h4 rfl; omega
    | false => simp only [Bool.false_eq_true, if_false]; exact ⟨_, _, j, rfl, by omega, h3⟩
  | succ d ih =>
    intro k x4 i h0 h1 hd hk hD hx
    obtain ⟨k, rfl⟩ : ∃ m, k = m + 1 := ⟨k - 1, by omega⟩
    obtain ⟨kd, ns, ks, ok, j, hj, h2, h3, h4⟩ := hV k i h0 h1 hD (by omega)
    simp only [spec_reader_elements.l0]
    rw [hj]
    simp only [Option.bind_some]
    cases ok with
    | false => simp only [Bool.false_eq_true, if_false]; exact ⟨_, _, j, rfl, by omega, h3⟩
    | true =>
      have h5 := h4 rfl
      simp only [if_true]
      rw [if_pos (by omega)]
      obtain ⟨j1, e1, h6, h7⟩ := blanks_t s hn k j (by omega) h3 (by omega)
      rw [e1]
      simp only [Option.bind_some]
      obtain ⟨b2, j2, e2, h8, h9, _⟩ := take_tot s hn j1 93 (by omega) h7
      rw [e2]
      simp only [Option.bind_some]
      cases b2 with
      | true => simp only [if_true]; exact ⟨_, _, j2, rfl, by omega, h9⟩
      | false =>
        simp only [Bool.false_eq_true, if_false]
        obtain ⟨b3, j3, e3, h10, h11, _⟩ := take_tot s hn j2 44 (by omega) h9
        rw [e3]
        simp only [Option.bind_some]
        cases b3 with
        | false => simp only [Bool.false_eq_true, if_false]; exact ⟨_, _, j3, rfl, by omega, h11⟩
        | true =>
          simp only [if_true]
          obtain ⟨j4, e4, h12, h13⟩ := blanks_t s hn k j3 (by omega) h11 (by omega)
          rw [e4]
          simp only [Option.bind_some]
          obtain ⟨ks', ok', j5, e5, h14, h15⟩ := ih k (x4 ++ [⟨kd, i, j, ns, ks⟩]) j4 (by omega) h13 (by omega) (by omega) (by omega) (by rw [List.length_append, List.length_singleton]; omega)
          exact ⟨ks', ok', j5, e5, by omega, h15⟩
theorem elems_tot {V : H_spec_reader_value} {s : ByteArray} (hn : Small s) {D : Int} (hV : TotV V s D) (k : Nat) (i : Int) (h0 : 0 ≤ i) (h1 : i < s.size) (hD : 2 * ((s.size : Int) - i) ≤ D + 1) (hk : (s.size : Int) - i + 13 ≤ k) :
    ∃ ks ok j, spec_reader_elements.f V k s i = some (ks, ok, s, j) ∧ i < j ∧ j ≤ s.size := by
  have hn' : s.size ≤ 1048576 := hn
  unfold spec_reader_elements.f
  rw [w64 (by omega) (by omega)]
  obtain ⟨j1, e1, h6, h7⟩ := blanks_t s hn k (i + 1) (by omega) (by omega) (by omega)
  rw [e1]
  simp only [Option.bind_some]
  obtain ⟨b2, j2, e2, h8, h9, _⟩ := take_tot s hn j1 93 (by omega) h7
  rw [e2]
  simp only [Option.bind_some]
  cases b2 with
  | true => simp only [if_true]; exact ⟨_, _, j2, rfl, by omega, h9⟩
  | false =>
    simp only [Bool.false_eq_true, if_false]
    obtain ⟨ks', ok', j5, e5, h14, h15⟩ := elems_loop hn hV ((s.size : Int) - j2).toNat k [] j2 (by omega) h9 (by omega) (by omega) (by omega) (by simp; omega)
    exact ⟨ks', ok', j5, e5, by omega, h15⟩

theorem mems_end (V : H_spec_reader_value) (s : ByteArray) (k : Nat) (hk : 1 ≤ k) (x5 : List S53) (x6 : List S25) (x7 i : Int) : spec_reader_members.j1 V k x5 x6 x7 true s i = some ([], [], false, s, i) := by
  obtain ⟨k, rfl⟩ : ∃ m, k = m + 1 := ⟨k - 1, by omega⟩
  simp only [spec_reader_members.j1, if_true]
theorem mems_loop {V : H_spec_reader_value} {s : ByteArray} (hn : Small s) {D : Int} (hV : TotV V s D) (d : Nat) : ∀ (k : Nat) (x5 : List S53) (x6 : List S25) (i : Int), 0 ≤ i → i ≤ s.size → (s.size : Int) - i ≤ d → d + 14 ≤ k →
    2 * ((s.size : Int) - i) + 1 ≤ D → (x5.length : Int) ≤ i → (x6.length : Int) ≤ i → ∃ ns ks ok j, spec_reader_members.l0 V k x5 x6 s i = some (ns, ks, ok, s, j) ∧ i ≤ j ∧ j ≤ s.size := by
  have hn' : s.size ≤ 1048576 := hn
  induction d using Nat.strongRecOn with
  | _ d ih =>
  intro k x5 x6 i h0 h1 hd hk hD hx hy
  obtain ⟨k, rfl⟩ : ∃ m, k = m + 1 := ⟨k - 1, by omega⟩
  simp only [spec_reader_members.l0]
  rw [here_eq s i h0]
  simp only [Option.bind_some]
  by_cases hq : at0 s i = 34
  · have hi : i < (s.size : Int) := by
      by_cases h : i < (s.size : Int)
      · exact h
      · rw [at0_zero h] at hq; omega
    rw [if_pos hq]
    obtain ⟨b, j, ej, h2, h3⟩ := quoted_tot s hn k i h0 hi (by omega)
    rw [ej]
    simp only [Option.bind_some]
    cases b with
    | false => simp only [Bool.not_false]; rw [mems_end V s k (by omega)]; exact ⟨_, _, _, j, rfl, by omega, h3⟩
    | true =>
      obtain ⟨k, rfl⟩ : ∃ m, k = m + 1 := ⟨k - 1, by omega⟩
      simp only [spec_reader_members.j1, Bool.not_true, Bool.false_eq_true, if_false]
      rw [if_pos (by omega)]
      simp only [Option.bind_some]
      obtain ⟨j1, e1, h4, h5⟩ := blanks_t s hn k j (by omega) h3 (by omega)
      rw [e1]
      simp only [Option.bind_some]
      obtain ⟨b2, j2, e2, h6, h7, h6t, _⟩ := take_tot s hn j1 58 (by omega) h5
      rw [e2]
      simp only [Option.bind_some]
      cases b2 with
      | false => simp only [Bool.false_eq_true, if_false]; exact ⟨_, _, _, j2, rfl, by omega, h7⟩
      | true =>
        have := (h6t rfl).1
        simp only [if_true]
        obtain ⟨j3, e3, h8, h9⟩ := blanks_t s hn k j2 (by omega) h7 (by omega)
        rw [e3]
        simp only [Option.bind_some]
        obtain ⟨kd, ns, ks, ok, j4, e4, h10, h11, h12⟩ := hV k j3 (by omega) h9 (by omega) (by omega)
        rw [e4]
        simp only [Option.bind_some]
        cases ok with
        | false => simp only [Bool.false_eq_true, if_false]; exact ⟨_, _, _, j4, rfl, by omega, h11⟩
        | true =>
          have := h12 rfl
          simp only [if_true]
          rw [if_pos (by omega)]
          obtain ⟨j5, e5, h13, h14⟩ := blanks_t s hn k j4 (by omega) h11 (by omega)
          rw [e5]
          simp only [Option.bind_some]
          obtain ⟨b6, j6, e6, h15, h16, _⟩ := take_tot s hn j5 125 (by omega) h14
          rw [e6]
          simp only [Option.bind_some]
          cases b6 with
          | true => simp only [if_true]; exact ⟨_, _, _, j6, rfl, by omega, h16⟩
          | false =>
            simp only [Bool.false_eq_true, if_false]
            obtain ⟨b7, j7, e7, h17, h18, _⟩ := take_tot s hn j6 44 (by omega) h16
            rw [e7]
            simp only [Option.bind_some]
            cases b7 with
            | false => simp only [Bool.false_eq_true, if_false]; exact ⟨_, _, _, j7, rfl, by omega, h18⟩
            | true =>
              simp only [if_true]
              obtain ⟨j8, e8, h19, h20⟩ := blanks_t s hn k j7 (by omega) h18 (by omega)
              rw [e8]
              simp only [Option.bind_some]
              obtain ⟨ns', ks', ok', j9, e9, h21, h22⟩ := ih (d - 2) (by omega) k (x5 ++ [⟨i, j⟩]) (x6 ++ [⟨kd, j3, j4, ns, ks⟩]) j8 (by omega) h20 (by omega) (by omega) (by omega)
                (by rw [List.length_append, List.length_singleton]; omega) (by rw [List.length_append, List.length_singleton]; omega)
              exact ⟨ns', ks', ok', j9, e9, by omega, h22⟩
  · rw [if_neg hq, mems_end V s k (by omega)]
    exact ⟨_, _, _, i, rfl, by omega, h1⟩
theorem mems_tot {V : H_spec_reader_value} {s : ByteArray} (hn : Small s) {D : Int} (hV : TotV V s D) (k : Nat) (i : Int) (h0 : 0 ≤ i) (h1 : i < s.size) (hD : 2 * ((s.size : Int) - i) ≤ D + 1) (hk : (s.size : Int) - i + 13 ≤ k) :
    ∃ ns ks ok j, spec_reader_members.f V k s i = some (ns, ks, ok, s, j) ∧ i < j ∧ j ≤ s.size := by
  have hn' : s.size ≤ 1048576 := hn
  unfold spec_reader_members.f
  rw [w64 (by omega) (by omega)]
  obtain ⟨j1, e1, h6, h7⟩ := blanks_t s hn k (i + 1) (by omega) (by omega) (by omega)
  rw [e1]
  simp only [Option.bind_some]
  obtain ⟨b2, j2, e2, h8, h9, _⟩ := take_tot s hn j1 125 (by omega) h7
  rw [e2]
  simp only [Option.bind_some]
  cases b2 with
  | true => simp only [if_true]; exact ⟨_, _, _, j2, rfl, by omega, h9⟩
  | false =>
    simp only [Bool.false_eq_true, if_false]
    obtain ⟨ns', ks', ok', j5, e5, h14, h15⟩ := mems_loop hn hV ((s.size : Int) - j2).toNat k [] [] j2 (by omega) h9 (by omega) (by omega) (by omega) (by simp; omega) (by simp; omega)
    exact ⟨ns', ks', ok', j5, e5, by omega, h15⟩

theorem word_t (s : ByteArray) (hn : Small s) (i : Int) (h0 : 0 ≤ i) (h1 : i ≤ s.size) (w : ByteArray) (hw : w.size ≤ 8) (hw0 : 0 < w.size) :
    ∃ b j, spec_reader_word.f s i w = some (b, s, j) ∧ i ≤ j ∧ j ≤ s.size ∧ (b = true → i < j) ∧ (b = false → j = i) := by
  obtain ⟨b, j, e, h2, h3, h4⟩ := word_tot s hn i h0 h1 w hw
  cases b with
  | true => have := (h3 rfl).1; exact ⟨true, j, e, by omega, h2, (fun _ => by omega), fun e => by cases e⟩
  | false => have := h4 rfl; exact ⟨false, j, e, by omega, h2, (fun e => by cases e), h4⟩
theorem value0_tot (M : H_spec_reader_members) (E : H_spec_reader_elements) (s : ByteArray) (hn : Small s) (k : Nat) (b : Bool) (i : Int) (h0 : 0 ≤ i) (h1 : i ≤ s.size) (hk : (s.size : Int) - i + 8 ≤ k) :
    ∃ kd ns ks ok j, spec_reader_value.j0 M E k true b s i 0 i 0 = some (kd, i, j, ns, ks, ok, s, j) ∧ i ≤ j ∧ j ≤ s.size ∧ (ok = true → i < j) := by
  obtain ⟨k, rfl⟩ : ∃ m, k = m + 1 := ⟨k - 1, by omega⟩
  simp only [spec_reader_value.j0]
  cases b with
  | true =>
    simp only [if_true]
    obtain ⟨b1, j1, e1, h2, h3, h4⟩ := number_tot s hn k i h0 h1 (by omega)
    rw [e1]
    exact ⟨3, [], [], b1, j1, rfl, h2, h3, h4⟩
  | false =>
    simp only [Bool.false_eq_true, if_false]
    obtain ⟨b1, j1, e1, h2, h3, h4, h4f⟩ := word_t s hn i h0 h1 ⟨#[110, 117, 108, 108]⟩ (by decide) (by decide)
    rw [e1]
    simp only [Option.bind_some]
    cases b1 with
    | true => simp only [if_true]; exact ⟨0, [], [], true, j1, rfl, h2, h3, fun _ => h4 rfl⟩
    | false =>
      simp only [Bool.false_eq_true, if_false]
      obtain rfl := h4f rfl
      obtain ⟨b2, j2, e2, h5, h6, h7, h7f⟩ := word_t s hn j1 h0 h1 ⟨#[102, 97, 108, 115, 101]⟩ (by decide) (by decide)
      rw [e2]
      simp only [Option.bind_some]
      cases b2 with
      | true => simp only [if_true]; exact ⟨1, [], [], true, j2, rfl, h5, h6, fun _ => h7 rfl⟩
      | false =>
        simp only [Bool.false_eq_true, if_false]
        obtain rfl := h7f rfl
        obtain ⟨b3, j3, e3, h8, h9, h10, h10f⟩ := word_t s hn j2 h0 h1 ⟨#[116, 114, 117, 101]⟩ (by decide) (by decide)
        rw [e3]
        simp only [Option.bind_some]
        cases b3 with
        | true => simp only [if_true]; exact ⟨2, [], [], true, j3, rfl, h8, h9, fun _ => h10 rfl⟩
        | false => simp only [Bool.false_eq_true, if_false]; exact ⟨0, [], [], false, j3, rfl, h8, h9, fun e => by cases e⟩
theorem value_tot {M : H_spec_reader_members} {E : H_spec_reader_elements} {s : ByteArray} (hn : Small s) {D : Int} (hM : TotM M s D) (hE : TotE E s D) (k : Nat) (i : Int) (h0 : 0 ≤ i) (h1 : i ≤ s.size) (hD : 2 * ((s.size : Int) - i) ≤ D) (hk : (s.size : Int) - i + 13 ≤ k) :
    ∃ kd ns ks ok j, spec_reader_value.f M E k s i = some (kd, i, j, ns, ks, ok, s, j) ∧ i ≤ j ∧ j ≤ s.size ∧ (ok = true → i < j) := by
  unfold spec_reader_value.f
  rw [here_eq s i h0]
  simp only [Option.bind_some]
  by_cases hi : i < (s.size : Int)
  · by_cases c1 : at0 s i = 123
    · rw [if_pos c1]
      obtain ⟨ns, ks, ok, j, e, h2, h3⟩ := hM k i h0 hi hD (by omega)
      rw [e]
      exact ⟨6, ns, ks, ok, j, rfl, by omega, h3, fun _ => h2⟩
    · rw [if_neg c1]
      by_cases c2 : at0 s i = 91
      · rw [if_pos c2]
        obtain ⟨ks, ok, j, e, h2, h3⟩ := hE k i h0 hi hD (by omega)
        rw [e]
        exact ⟨5, [], ks, ok, j, rfl, by omega, h3, fun _ => h2⟩
      · rw [if_neg c2]
        by_cases c3 : at0 s i = 34
        · rw [if_pos c3]
          obtain ⟨b, j, e, h2, h3⟩ := quoted_tot s hn k i h0 hi (by omega)
          rw [e]
          exact ⟨4, [], [], b, j, rfl, by omega, h3, fun _ => h2⟩
        · rw [if_neg c3]
          repeat' split
          all_goals exact value0_tot M E s hn k _ i h0 h1 (by omega)
  · rw [at0_zero hi, if_neg (by decide), if_neg (by decide), if_neg (by decide), if_neg (by decide), if_neg (by decide)]
    exact value0_tot M E s hn k _ i h0 h1 (by omega)

theorem reader_tots {s : ByteArray} (hn : Small s) : ∀ D : Nat, TotV (spec_reader_value.at_ D) s D ∧ TotE (spec_reader_elements.at_ D) s D ∧ TotM (spec_reader_members.at_ D) s D
  | 0 => ⟨fun k i h0 h1 hD => by omega, fun k i h0 h1 hD => by omega, fun k i h0 h1 hD => by omega⟩
  | D + 1 => by
    obtain ⟨hV, hE, hM⟩ := reader_tots hn D
    refine ⟨fun k i h0 h1 hD hk => ?_, fun k i h0 h1 hD hk => ?_, fun k i h0 h1 hD hk => ?_⟩
    · exact value_tot hn hM hE k i h0 h1 (by omega) hk
    · exact elems_tot hn hV k i h0 h1 (by omega) hk
    · exact mems_tot hn hV k i h0 h1 (by omega) hk
end Go.Proofs.Ytkbeiidjagodnaa.Pr

/- The reader's three functions that call each other end, whatever the text. -/
import Derived.Test.YtkbeiidjagodnaaLawR
namespace Go.Proofs.Ytkbeiidjagodnaa.Pr
open Go.RowKit Go.Proofs.YtkbeiidjagodnaaW.PrintWords Go.Proofs.YtkbeiidjagodnaaW.PrintLast Go.Proofs.YtkbeiidjagodnaaW.PrintMore
set_option linter.unusedVariables false

def TotV (V : H_spec_reader_value) (s : ByteArray) (D : Int) : Prop := ∀ (k : Nat) (i : Int), 0 ≤ i → i ≤ s.size → 2 * ((s.size : Int) - i) + 1 ≤ D → (s.size : Int) - i + 13 ≤ k →
  ∃ kd ns ks ok j, V.f k s i = some (kd, i, j, ns, ks, ok, s, j) ∧ i ≤ j ∧ j ≤ s.size ∧ (ok = true → i < j)
def TotE (E : H_spec_reader_elements) (s : ByteArray) (D : Int) : Prop := ∀ (k : Nat) (i : Int), 0 ≤ i → i < s.size → 2 * ((s.size : Int) - i) ≤ D → (s.size : Int) - i + 13 ≤ k →
  ∃ ks ok j, E.f k s i = some (ks, ok, s, j) ∧ i < j ∧ j ≤ s.size
def TotM (M : H_spec_reader_members) (s : ByteArray) (D : Int) : Prop := ∀ (k : Nat) (i : Int), 0 ≤ i → i < s.size → 2 * ((s.size : Int) - i) ≤ D → (s.size : Int) - i + 13 ≤ k →
  ∃ ns ks ok j, M.f k s i = some (ns, ks, ok, s, j) ∧ i < j ∧ j ≤ s.size

theorem blanks_t (s : ByteArray) (hn : Small s) (k : Nat) (i : Int) (h0 : 0 ≤ i) (h1 : i ≤ s.size) (hk : (s.size : Int) - i < k) : ∃ j, spec_reader_blanks.f k s i = some (s, j) ∧ i ≤ j ∧ j ≤ s.size := by
  obtain ⟨j, hj, h2, h3, _⟩ := blanks_tot s hn ((s.size : Int) - i).toNat k i h0 h1 (by omega) (by omega)
  exact ⟨j, hj, h2, h3⟩

theorem elems_loop {V : H_spec_reader_value} {s : ByteArray} (hn : Small s) {D : Int} (hV : TotV V s D) (d : Nat) : ∀ (k : Nat) (x4 : List S25) (i : Int), 0 ≤ i → i ≤ s.size → (s.size : Int) - i ≤ d → d + 14 ≤ k →
    2 * ((s.size : Int) - i) + 1 ≤ D → (x4.length : Int) ≤ i → ∃ ks ok j, spec_reader_elements.l0 V k x4 s i = some (ks, ok, s, j) ∧ i ≤ j ∧ j ≤ s.size := by
  have hn' : s.size ≤ 1048576 := hn
  induction d with
  | zero =>
    intro k x4 i h0 h1 hd hk hD hx
    obtain ⟨k, rfl⟩ : ∃ m, k = m + 1 := ⟨k - 1, by omega⟩
    obtain ⟨kd, ns, ks, ok, j, hj, h2, h3, h4⟩ := hV k i h0 h1 hD (by omega)
    simp only [spec_reader_elements.l0]
    rw [hj]
    simp only [Option.bind_some]
    cases ok with
    | true => have := h4 rfl; omega
    | false => simp only [Bool.false_eq_true, if_false]; exact ⟨_, _, j, rfl, by omega, h3⟩
  | succ d ih =>
    intro k x4 i h0 h1 hd hk hD hx
    obtain ⟨k, rfl⟩ : ∃ m, k = m + 1 := ⟨k - 1, by omega⟩
    obtain ⟨kd, ns, ks, ok, j, hj, h2, h3, h4⟩ := hV k i h0 h1 hD (by omega)
    simp only [spec_reader_elements.l0]
    rw [hj]
    simp only [Option.bind_some]
    cases ok with
    | false => simp only [Bool.false_eq_true, if_false]; exact ⟨_, _, j, rfl, by omega, h3⟩
    | true =>
      have h5 := h4 rfl
      simp only [if_true]
      rw [if_pos (by omega)]
      obtain ⟨j1, e1, h6, h7⟩ := blanks_t s hn k j (by omega) h3 (by omega)
      rw [e1]
      simp only [Option.bind_some]
      obtain ⟨b2, j2, e2, h8, h9, _⟩ := take_tot s hn j1 93 (by omega) h7
      rw [e2]
      simp only [Option.bind_some]
      cases b2 with
      | true => simp only [if_true]; exact ⟨_, _, j2, rfl, by omega, h9⟩
      | false =>
        simp only [Bool.false_eq_true, if_false]
        obtain ⟨b3, j3, e3, h10, h11, _⟩ := take_tot s hn j2 44 (by omega) h9
        rw [e3]
        simp only [Option.bind_some]
        cases b3 with
        | false => simp only [Bool.false_eq_true, if_false]; exact ⟨_, _, j3, rfl, by omega, h11⟩
        | true =>
          simp only [if_true]
          obtain ⟨j4, e4, h12, h13⟩ := blanks_t s hn k j3 (by omega) h11 (by omega)
          rw [e4]
          simp only [Option.bind_some]
          obtain ⟨ks', ok', j5, e5, h14, h15⟩ := ih k (x4 ++ [⟨kd, i, j, ns, ks⟩]) j4 (by omega) h13 (by omega) (by omega) (by omega) (by rw [List.length_append, List.length_singleton]; omega)
          exact ⟨ks', ok', j5, e5, by omega, h15⟩
theorem elems_tot {V : H_spec_reader_value} {s : ByteArray} (hn : Small s) {D : Int} (hV : TotV V s D) (k : Nat) (i : Int) (h0 : 0 ≤ i) (h1 : i < s.size) (hD : 2 * ((s.size : Int) - i) ≤ D + 1) (hk : (s.size : Int) - i + 13 ≤ k) :
    ∃ ks ok j, spec_reader_elements.f V k s i = some (ks, ok, s, j) ∧ i < j ∧ j ≤ s.size := by
  have hn' : s.size ≤ 1048576 := hn
  unfold spec_reader_elements.f
  rw [w64 (by omega) (by omega)]
  obtain ⟨j1, e1, h6, h7⟩ := blanks_t s hn k (i + 1) (by omega) (by omega) (by omega)
  rw [e1]
  simp only [Option.bind_some]
  obtain ⟨b2, j2, e2, h8, h9, _⟩ := take_tot s hn j1 93 (by omega) h7
  rw [e2]
  simp only [Option.bind_some]
  cases b2 with
  | true => simp only [if_true]; exact ⟨_, _, j2, rfl, by omega, h9⟩
  | false =>
    simp only [Bool.false_eq_true, if_false]
    obtain ⟨ks', ok', j5, e5, h14, h15⟩ := elems_loop hn hV ((s.size : Int) - j2).toNat k [] j2 (by omega) h9 (by omega) (by omega) (by omega) (by simp; omega)
    exact ⟨ks', ok', j5, e5, by omega, h15⟩

theorem mems_end (V : H_spec_reader_value) (s : ByteArray) (k : Nat) (hk : 1 ≤ k) (x5 : List S53) (x6 : List S25) (x7 i : Int) : spec_reader_members.j1 V k x5 x6 x7 true s i = some ([], [], false, s, i) := by
  obtain ⟨k, rfl⟩ : ∃ m, k = m + 1 := ⟨k - 1, by omega⟩
  simp only [spec_reader_members.j1, if_true]
theorem mems_loop {V : H_spec_reader_value} {s : ByteArray} (hn : Small s) {D : Int} (hV : TotV V s D) (d : Nat) : ∀ (k : Nat) (x5 : List S53) (x6 : List S25) (i : Int), 0 ≤ i → i ≤ s.size → (s.size : Int) - i ≤ d → d + 14 ≤ k →
    2 * ((s.size : Int) - i) + 1 ≤ D → (x5.length : Int) ≤ i → (x6.length : Int) ≤ i → ∃ ns ks ok j, spec_reader_members.l0 V k x5 x6 s i = some (ns, ks, ok, s, j) ∧ i ≤ j ∧ j ≤ s.size := by
  have hn' : s.size ≤ 1048576 := hn
  induction d using Nat.strongRecOn with
  | _ d ih =>
  intro k x5 x6 i h0 h1 hd hk hD hx hy
  obtain ⟨k, rfl⟩ : ∃ m, k = m + 1 := ⟨k - 1, by omega⟩
  simp only [spec_reader_members.l0]
  rw [here_eq s i h0]
  simp only [Option.bind_some]
  by_cases hq : at0 s i = 34
  · have hi : i < (s.size : Int) := by
      by_cases h : i < (s.size : Int)
      · exact h
      · rw [at0_zero h] at hq; omega
    rw [if_pos hq]
    obtain ⟨b, j, ej, h2, h3⟩ := quoted_tot s hn k i h0 hi (by omega)
    rw [ej]
    simp only [Option.bind_some]
    cases b with
    | false => simp only [Bool.not_false]; rw [mems_end V s k (by omega)]; exact ⟨_, _, _, j, rfl, by omega, h3⟩
    | true =>
      obtain ⟨k, rfl⟩ : ∃ m, k = m + 1 := ⟨k - 1, by omega⟩
      simp only [spec_reader_members.j1, Bool.not_true, Bool.false_eq_true, if_false]
      rw [if_pos (by omega)]
      simp only [Option.bind_some]
      obtain ⟨j1, e1, h4, h5⟩ := blanks_t s hn k j (by omega) h3 (by omega)
      rw [e1]
      simp only [Option.bind_some]
      obtain ⟨b2, j2, e2, h6, h7, h6t, _⟩ := take_tot s hn j1 58 (by omega) h5
      rw [e2]
      simp only [Option.bind_some]
      cases b2 with
      | false => simp only [Bool.false_eq_true, if_false]; exact ⟨_, _, _, j2, rfl, by omega, h7⟩
      | true =>
        have := (h6t rfl).1
        simp only [if_true]
        obtain ⟨j3, e3, h8, h9⟩ := blanks_t s hn k j2 (by omega) h7 (by omega)
        rw [e3]
        simp only [Option.bind_some]
        obtain ⟨kd, ns, ks, ok, j4, e4, h10, h11, h12⟩ := hV k j3 (by omega) h9 (by omega) (by omega)
        rw [e4]
        simp only [Option.bind_some]
        cases ok with
        | false => simp only [Bool.false_eq_true, if_false]; exact ⟨_, _, _, j4, rfl, by omega, h11⟩
        | true =>
          have := h12 rfl
          simp only [if_true]
          rw [if_pos (by omega)]
          obtain ⟨j5, e5, h13, h14⟩ := blanks_t s hn k j4 (by omega) h11 (by omega)
          rw [e5]
          simp only [Option.bind_some]
          obtain ⟨b6, j6, e6, h15, h16, _⟩ := take_tot s hn j5 125 (by omega) h14
          rw [e6]
          simp only [Option.bind_some]
          cases b6 with
          | true => simp only [if_true]; exact ⟨_, _, _, j6, rfl, by omega, h16⟩
          | false =>
            simp only [Bool.false_eq_true, if_false]
            obtain ⟨b7, j7, e7, h17, h18, _⟩ := take_tot s hn j6 44 (by omega) h16
            rw [e7]
            simp only [Option.bind_some]
            cases b7 with
            | false => simp only [Bool.false_eq_true, if_false]; exact ⟨_, _, _, j7, rfl, by omega, h18⟩
            | true =>
              simp only [if_true]
              obtain ⟨j8, e8, h19, h20⟩ := blanks_t s hn k j7 (by omega) h18 (by omega)
              rw [e8]
              simp only [Option.bind_some]
              obtain ⟨ns', ks', ok', j9, e9, h21, h22⟩ := ih (d - 2) (by omega) k (x5 ++ [⟨i, j⟩]) (x6 ++ [⟨kd, j3, j4, ns, ks⟩]) j8 (by omega) h20 (by omega) (by omega) (by omega)
                (by rw [List.length_append, List.length_singleton]; omega) (by rw [List.length_append, List.length_singleton]; omega)
              exact ⟨ns', ks', ok', j9, e9, by omega, h22⟩
  · rw [if_neg hq, mems_end V s k (by omega)]
    exact ⟨_, _, _, i, rfl, by omega, h1⟩
theorem mems_tot {V : H_spec_reader_value} {s : ByteArray} (hn : Small s) {D : Int} (hV : TotV V s D) (k : Nat) (i : Int) (h0 : 0 ≤ i) (h1 : i < s.size) (hD : 2 * ((s.size : Int) - i) ≤ D + 1) (hk : (s.size : Int) - i + 13 ≤ k) :
    ∃ ns ks ok j, spec_reader_members.f V k s i = some (ns, ks, ok, s, j) ∧ i < j ∧ j ≤ s.size := by
  have hn' : s.size ≤ 1048576 := hn
  unfold spec_reader_members.f
  rw [w64 (by omega) (by omega)]
  obtain ⟨j1, e1, h6, h7⟩ := blanks_t s hn k (i + 1) (by omega) (by omega) (by omega)
  rw [e1]
  simp only [Option.bind_some]
  obtain ⟨b2, j2, e2, h8, h9, _⟩ := take_tot s hn j1 125 (by omega) h7
  rw [e2]
  simp only [Option.bind_some]
  cases b2 with
  | true => simp only [if_true]; exact ⟨_, _, _, j2, rfl, by omega, h9⟩
  | false =>
    simp only [Bool.false_eq_true, if_false]
    obtain ⟨ns', ks', ok', j5, e5, h14, h15⟩ := mems_loop hn hV ((s.size : Int) - j2).toNat k [] [] j2 (by omega) h9 (by omega) (by omega) (by omega) (by simp; omega) (by simp; omega)
    exact ⟨ns', ks', ok', j5, e5, by omega, h15⟩

theorem word_t (s : ByteArray) (hn : Small s) (i : Int) (h0 : 0 ≤ i) (h1 : i ≤ s.size) (w : ByteArray) (hw : w.size ≤ 8) (hw0 : 0 < w.size) :
    ∃ b j, spec_reader_word.f s i w = some (b, s, j) ∧ i ≤ j ∧ j ≤ s.size ∧ (b = true → i < j) ∧ (b = false → j = i) := by
  obtain ⟨b, j, e, h2, h3, h4⟩ := word_tot s hn i h0 h1 w hw
  cases b with
  | true => have := (h3 rfl).1; exact ⟨true, j, e, by omega, h2, (fun _ => by omega), fun e => by cases e⟩
  | false => have := h4 rfl; exact ⟨false, j, e, by omega, h2, (fun e => by cases e), h4⟩
theorem value0_tot (M : H_spec_reader_members) (E : H_spec_reader_elements) (s : ByteArray) (hn : Small s) (k : Nat) (b : Bool) (i : Int) (h0 : 0 ≤ i) (h1 : i ≤ s.size) (hk : (s.size : Int) - i + 8 ≤ k) :
    ∃ kd ns ks ok j, spec_reader_value.j0 M E k true b s i 0 i 0 = some (kd, i, j, ns, ks, ok, s, j) ∧ i ≤ j ∧ j ≤ s.size ∧ (ok = true → i < j) := by
  obtain ⟨k, rfl⟩ : ∃ m, k = m + 1 := ⟨k - 1, by omega⟩
  simp only [spec_reader_value.j0]
  cases b with
  | true =>
    simp only [if_true]
    obtain ⟨b1, j1, e1, h2, h3, h4⟩ := number_tot s hn k i h0 h1 (by omega)
    rw [e1]
    exact ⟨3, [], [], b1, j1, rfl, h2, h3, h4⟩
  | false =>
    simp only [Bool.false_eq_true, if_false]
    obtain ⟨b1, j1, e1, h2, h3, h4, h4f⟩ := word_t s hn i h0 h1 ⟨#[110, 117, 108, 108]⟩ (by decide) (by decide)
    rw [e1]
    simp only [Option.bind_some]
    cases b1 with
    | true => simp only [if_true]; exact ⟨0, [], [], true, j1, rfl, h2, h3, fun _ => h4 rfl⟩
    | false =>
      simp only [Bool.false_eq_true, if_false]
      obtain rfl := h4f rfl
      obtain ⟨b2, j2, e2, h5, h6, h7, h7f⟩ := word_t s hn j1 h0 h1 ⟨#[102, 97, 108, 115, 101]⟩ (by decide) (by decide)
      rw [e2]
      simp only [Option.bind_some]
      cases b2 with
      | true => simp only [if_true]; exact ⟨1, [], [], true, j2, rfl, h5, h6, fun _ => h7 rfl⟩
      | false =>
        simp only [Bool.false_eq_true, if_false]
        obtain rfl := h7f rfl
        obtain ⟨b3, j3, e3, h8, h9, h10, h10f⟩ := word_t s hn j2 h0 h1 ⟨#[116, 114, 117, 101]⟩ (by decide) (by decide)
        rw [e3]
        simp only [Option.bind_some]
        cases b3 with
        | true => simp only [if_true]; exact ⟨2, [], [], true, j3, rfl, h8, h9, fun _ => h10 rfl⟩
        | false => simp only [Bool.false_eq_true, if_false]; exact ⟨0, [], [], false, j3, rfl, h8, h9, fun e => by cases e⟩
theorem value_tot {M : H_spec_reader_members} {E : H_spec_reader_elements} {s : ByteArray} (hn : Small s) {D : Int} (hM : TotM M s D) (hE : TotE E s D) (k : Nat) (i : Int) (h0 : 0 ≤ i) (h1 : i ≤ s.size) (hD : 2 * ((s.size : Int) - i) ≤ D) (hk : (s.size : Int) - i + 13 ≤ k) :
    ∃ kd ns ks ok j, spec_reader_value.f M E k s i = some (kd, i, j, ns, ks, ok, s, j) ∧ i ≤ j ∧ j ≤ s.size ∧ (ok = true → i < j) := by
  unfold spec_reader_value.f
  rw [here_eq s i h0]
  simp only [Option.bind_some]
  by_cases hi : i < (s.size : Int)
  · by_cases c1 : at0 s i = 123
    · rw [if_pos c1]
      obtain ⟨ns, ks, ok, j, e, h2, h3⟩ := hM k i h0 hi hD (by omega)
      rw [e]
      exact ⟨6, ns, ks, ok, j, rfl, by omega, h3, fun _ => h2⟩
    · rw [if_neg c1]
      by_cases c2 : at0 s i = 91
      · rw [if_pos c2]
        obtain ⟨ks, ok, j, e, h2, h3⟩ := hE k i h0 hi hD (by omega)
        rw [e]
        exact ⟨5, [], ks, ok, j, rfl, by omega, h3, fun _ => h2⟩
      · rw [if_neg c2]
        by_cases c3 : at0 s i = 34
        · rw [if_pos c3]
          obtain ⟨b, j, e, h2, h3⟩ := quoted_tot s hn k i h0 hi (by omega)
          rw [e]
          exact ⟨4, [], [], b, j, rfl, by omega, h3, fun _ => h2⟩
        · rw [if_neg c3]
          repeat' split
          all_goals exact value0_tot M E s hn k _ i h0 h1 (by omega)
  · rw [at0_zero hi, if_neg (by decide), if_neg (by decide), if_neg (by decide), if_neg (by decide), if_neg (by decide)]
    exact value0_tot M E s hn k _ i h0 h1 (by omega)

theorem reader_tots {s : ByteArray} (hn : Small s) : ∀ D : Nat, TotV (spec_reader_value.at_ D) s D ∧ TotE (spec_reader_elements.at_ D) s D ∧ TotM (spec_reader_members.at_ D) s D
  | 0 => ⟨fun k i h0 h1 hD => by omega, fun k i h0 h1 hD => by omega, fun k i h0 h1 hD => by omega⟩
  | D + 1 => by
    obtain ⟨hV, hE, hM⟩ := reader_tots hn D
    refine ⟨fun k i h0 h1 hD hk => ?_, fun k i h0 h1 hD hk => ?_, fun k i h0 h1 hD hk => ?_⟩
    · exact value_tot hn hM hE k i h0 h1 (by omega) hk
    · exact elems_tot hn hV k i h0 h1 (by omega) hk
    · exact mems_tot hn hV k i h0 h1 (by omega) hk
end Go.Proofs.Ytkbeiidjagodnaa.Pr

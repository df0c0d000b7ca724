/- A JSON text, for the reader, begins with a byte that begins a value: plain Lean. -/
import Derived.Test.YtkbeiidjagodnaaLawV
import Derived.Test.YtkbeiidjagodnaaLawT
import Derived.Test.YtkbeiidjagodnaaHand2
import Derived.Lib.Strings
namespace Go.Proofs.Ytkbeiidjagodnaa.Pr
open Go.RowKit Go.Proofs.YtkbeiidjagodnaaW.PrintWords Go.Proofs.YtkbeiidjagodnaaW.PrintLast Go.Proofs.YtkbeiidjagodnaaW.PrintMore
set_option linter.unusedVariables false

theorem word_seg (s w : ByteArray) (i : Int) (h0 : 0 ≤ i) (h : (s.extract i.toNat (i + w.size).toNat).toList = w.toList) : seg (bytesOf s) i (i + w.size) = bytesOf w := by
  rw [Go.Lib.extract_toList, Go.Lib.toList_data] at h
  unfold seg bytesOf
  rw [List.drop_take, ← List.map_drop, ← List.map_take, h]
theorem seg_rd (x : List Int) (i j p : Int) (h0 : 0 ≤ i) (h1 : 0 ≤ p) (h2 : i + p < j) (h3 : j ≤ x.length) : rd (seg x i j) p = rd x (i + p) := by
  unfold seg rd
  rw [List.drop_take, List.getD_eq_getElem?_getD, List.getElem?_take, List.getElem?_drop, if_pos (by omega), List.getD_eq_getElem?_getD]
  congr 3
  omega
theorem word_first (s w : ByteArray) (i : Int) (h0 : 0 ≤ i) (hw : 0 < w.size) (h1 : i + w.size ≤ s.size) (h : (s.extract i.toNat (i + w.size).toNat).toList = w.toList) : bt s i = bt w 0 := by
  have e := word_seg s w i h0 h
  have e1 := seg_rd (bytesOf s) i (i + w.size) 0 h0 (by omega) (by omega) (by rw [bytesOf_length]; omega)
  rw [e, rd_bytesOf, rd_bytesOf] at e1
  rw [e1, show i + 0 = i by omega]

theorem value0_start (M : H_spec_reader_members) (E : H_spec_reader_elements) (s : ByteArray) (hn : Small s) (k : Nat) (i x2 x3 x4 : Int) (h0 : 0 ≤ i) (h1 : i ≤ s.size) (kd q j : Int) (ns : List S53) (ks : List S25) (s' : ByteArray) (j' : Int)
    (h : spec_reader_value.j0 M E k true false s i x2 x3 x4 = some (kd, q, j, ns, ks, true, s', j')) : bt s i = 110 ∨ bt s i = 102 ∨ bt s i = 116 := by
  cases k with
  | zero => simp [spec_reader_value.j0] at h
  | succ k =>
    rw [spec_reader_value.j0, if_neg (by decide)] at h
    obtain ⟨b1, j1, e1, h2, h3, h4⟩ := word_tot s hn i h0 h1 ⟨#[110, 117, 108, 108]⟩ (by decide)
    rw [e1] at h
    simp only [Option.bind_some] at h
    cases b1 with
    | true =>
      obtain ⟨g1, g2⟩ := h3 rfl
      exact .inl ((word_first s _ i h0 (by decide) (by omega) g2).trans (by decide))
    | false =>
      rw [if_neg (by decide)] at h
      obtain rfl := h4 rfl
      obtain ⟨b1, j2, e1, h2, h3, h4⟩ := word_tot s hn j1 h0 h1 ⟨#[102, 97, 108, 115, 101]⟩ (by decide)
      rw [e1] at h
      simp only [Option.bind_some] at h
      cases b1 with
      | true =>
        obtain ⟨g1, g2⟩ := h3 rfl
        exact .inr (.inl ((word_first s _ j1 h0 (by decide) (by omega) g2).trans (by decide)))
      | false =>
        rw [if_neg (by decide)] at h
        obtain rfl := h4 rfl
        obtain ⟨b1, j3, e1, h2, h3, h4⟩ := word_tot s hn j2 h0 h1 ⟨#[116, 114, 117, 101]⟩ (by decide)
        rw [e1] at h
        simp only [Option.bind_some] at h
        cases b1 with
        | true =>
          obtain ⟨g1, g2⟩ := h3 rfl
          exact .inr (.inr ((word_first s _ j2 h0 (by decide) (by omega) g2).trans (by decide)))
        | false =>
          rw [if_neg (by decide)] at h
          simp at h

theorem value_start (M : H_spec_reader_members) (E : H_spec_reader_elements) (s : ByteArray) (hn : Small s) (k : Nat) (i : Int) (h0 : 0 ≤ i) (h1 : i < s.size) (kd q j : Int) (ns : List S53) (ks : List S25) (s' : ByteArray) (j' : Int)
    (h : spec_reader_value.f M E k s i = some (kd, q, j, ns, ks, true, s', j')) : IsStart (bt s i) := by
  unfold spec_reader_value.f at h
  rw [here_eq s i h0, at0_at h1] at h
  simp only [Option.bind_some] at h
  unfold IsStart
  by_cases c1 : bt s i = 123
  · omega
  · rw [if_neg c1] at h
    by_cases c2 : bt s i = 91
    · omega
    · rw [if_neg c2] at h
      by_cases c3 : bt s i = 34
      · omega
      · rw [if_neg c3] at h
        by_cases c4 : bt s i = 45
        · omega
        · rw [if_neg c4] at h
          by_cases c5 : 48 ≤ bt s i
          · rw [if_pos c5] at h
            by_cases c6 : bt s i ≤ 57
            · omega
            · rw [decide_eq_false c6] at h
              have := value0_start M E s hn k i 0 i 0 h0 (by omega) kd q j ns ks s' j' h
              omega
          · rw [if_neg c5] at h
            have := value0_start M E s hn k i 0 i 0 h0 (by omega) kd q j ns ks s' j' h
            omega

theorem isBlank_le {c : Int} (h : isBlank c) : c ≤ 32 := by unfold isBlank at h; omega

/-- The reader ends on every text of at most 2^20 bytes; if it is a JSON text, its first byte that is no blank begins a value. -/
theorem places_tot (s : ByteArray) (hn : Small s) : ∃ r1 r2 r3 r4 r5 r6, places (spec_reader_value.at_ 2100000) 1050000 s = some (r1, r2, r3, r4, r5, r6) ∧ (r6 = true → Starts (bytesOf s) 0) := by
  have hn' : s.size ≤ 1048576 := hn
  obtain ⟨j, hj, g1, g2, g3, g4⟩ := blanks_tot s hn s.size 1050000 0 (by omega) (by omega) (by omega) (by omega)
  obtain ⟨kd, ns, ks, ok, j1, hv, g5, g6, g7⟩ := (reader_tots hn 2100000).1 1050000 j (by omega) g2 (by omega) (by omega)
  unfold places
  rw [hj]
  simp only [Option.bind_some]
  rw [hv]
  simp only [Option.bind_some]
  cases ok with
  | false => rw [if_neg (by decide)]; exact ⟨_, _, _, _, _, _, rfl, fun h => by cases h⟩
  | true =>
    rw [if_pos rfl]
    obtain ⟨j2, hj2, _, _⟩ := blanks_t s hn 1050000 j1 (by omega) g6 (by omega)
    rw [hj2]
    simp only [Option.bind_some]
    have hst : Starts (bytesOf s) 0 := by
      have h1 := g7 rfl
      refine ⟨j, g1, by rw [bytesOf_length]; omega, fun p h2 h3 => by rw [rd_bytesOf]; exact isBlank_le (g3 p h2 h3), ?_⟩
      rw [rd_bytesOf]
      exact value_start (spec_reader_members.at_ 2099999) (spec_reader_elements.at_ 2099999) s hn 1050000 j (by omega) (by omega) _ _ _ _ _ _ _ hv
    split
    · exact ⟨_, _, _, _, _, _, rfl, fun _ => hst⟩
    · exact ⟨_, _, _, _, _, _, rfl, fun h => by cases h⟩

theorem prPlacesF_tot (s : ByteArray) : ∃ r1 r2 r3 r4 r5 r6, prPlacesF (spec_reader_value.at_ 2100000) 1050000 s = some (r1, r2, r3, r4, r5, r6) ∧ (r6 = true → s.size ≤ 4096 ∧ Starts (bytesOf s) 0) := by
  unfold prPlacesF
  by_cases h : s.size ≤ 4096
  · rw [if_pos h]
    obtain ⟨r1, r2, r3, r4, r5, r6, e, h1⟩ := places_tot s (by unfold Small; omega)
    exact ⟨r1, r2, r3, r4, r5, r6, e, fun e => ⟨h, h1 e⟩⟩
  · rw [if_neg h]; exact ⟨_, _, _, _, _, _, rfl, fun h => by cases h⟩
end Go.Proofs.Ytkbeiidjagodnaa.Pr

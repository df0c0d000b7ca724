import Derived.Test.YtmpdhdnoohmndaaGreatDoorLr8
namespace Go.Proofs.YtmpdhdnoohmndaaGreatDoor.Gj
open Go.RowKit Go.Proofs.YtmpdhdnoohmndaaGreatDoorW.PrintWords Sp
set_option linter.unusedVariables false
set_option linter.unusedSimpArgs false
section
variable {s : au} (hn : Small s)
include hn
theorem char_l {i x8 : Int} (x9 : Int) (h0 : 0 ≤ i) (h8 : 1 ≤ x8 ∧ x8 ≤ 3) (h1 : i + x8 < s.size) : ∀ (d k : Nat) (x7 x10 : Int), x8 + 1 - x10 = d → 1 ≤ x10 → d + 1 ≤ k → ∃ c n ok, aJ.l0 k s i x7 x8 x9 x10 = some (c, n, ok) ∧ (ok = true → 1 ≤ n ∧ i + n ≤ s.size)
 | d, 0, x7, x10, hd, h10, hk => by omega
 | d, k + 1, x7, x10, hd, h10, hk => by
  simp only [aJ.l0]
  by_cases h : x10 ≤ x8
  ·rw [if_pos h, w64 (x := i + x10) (by omega) (by omega), if_pos (by omega), if_pos (by omega)]
   by_cases ha : wrap64 (bt s (i + x10)) < 128
   ·rw [if_pos ha]; exact ⟨_, _, _, rfl, by simp⟩
   ·rw [if_neg ha]
    by_cases hb : wrap64 (bt s (i + x10)) > 191
    ·rw [if_pos hb]; exact ⟨_, _, _, rfl, by simp⟩
    ·rw [if_neg hb, w64 (x := x10 + 1) (by omega) (by omega)]
     obtain ⟨d', rfl⟩ : ∃ d', d = d' + 1 := ⟨d - 1, by omega⟩
     exact char_l x9 h0 h8 h1 d' k _ _ (by omega) (by omega) (by omega)
  ·rw [if_neg h]
   by_cases ha : x7 < x9
   ·rw [if_pos ha]; exact ⟨_, _, _, rfl, by simp⟩
   ·rw [if_neg ha]
    by_cases hb : x7 > 1114111
    ·rw [if_pos hb]; exact ⟨_, _, _, rfl, by simp⟩
    ·rw [if_neg hb, high_eq, low_eq]
     simp only [ak]
     by_cases hc : decide (High x7) = true
     ·rw [if_pos hc]; exact ⟨_, _, _, rfl, by simp⟩
     ·rw [if_neg hc]
      by_cases hd2 : decide (Low x7) = true
      ·rw [if_pos hd2]; exact ⟨_, _, _, rfl, by simp⟩
      ·rw [if_neg hd2, w64 (x := x8 + 1) (by omega) (by omega)]
       exact ⟨_, _, _, rfl, fun _ => by omega⟩
theorem char_j2 {i x8 : Int} (x7 x9 : Int) (h0 : 0 ≤ i) (hi : i ≤ s.size) (h8 : 1 ≤ x8 ∧ x8 ≤ 3) (k : Nat) (hk : 6 ≤ k) : ∃ c n ok, aJ.j2 k s i x7 x8 x9 = some (c, n, ok) ∧ (ok = true → 1 ≤ n ∧ i + n ≤ s.size) := by
 obtain ⟨k, rfl⟩ : ∃ k', k = k' + 1 := ⟨k - 1, by omega⟩
 simp only [aJ.j2]
 rw [w64 (x := (s.size : Int) - i) (by omega) (by omega)]
 by_cases h : (s.size : Int) - i ≤ x8
 ·rw [if_pos h]; exact ⟨_, _, _, rfl, by simp⟩
 ·rw [if_neg h]
  exact char_l hn x9 h0 h8 (by omega) x8.toNat k x7 1 (by omega) (by omega) (by omega)
theorem char_tot {i : Int} (h0 : 0 ≤ i) (hi : i < s.size) (k : Nat) (hk : 8 ≤ k) : ∃ c n ok, aJ.f k s i = some (c, n, ok) ∧ (ok = true → 1 ≤ n ∧ i + n ≤ s.size) := by
 unfold aJ.f
 rw [if_pos h0, if_pos hi]
 by_cases h : wrap64 (bt s i) < 128
 ·rw [if_pos h]; exact ⟨_, _, _, rfl, fun _ => by omega⟩
 ·rw [if_neg h]
  have hj1 : ∀ x b, ∃ c n ok, aJ.j1 (k - 1) s i x b = some (c, n, ok) ∧ (ok = true → 1 ≤ n ∧ i + n ≤ s.size) := by
   intro x b
   obtain ⟨k, rfl⟩ : ∃ k', k = k' + 2 := ⟨k - 2, by omega⟩
   show ∃ c n ok, aJ.j1 (k + 1) s i x b = some (c, n, ok) ∧ _
   simp only [aJ.j1]
   split
   ·exact char_j2 hn _ _ h0 (by omega) (by omega) k (by omega)
   ·split
    ·split
     ·exact char_j2 hn _ _ h0 (by omega) (by omega) k (by omega)
     ·exact ⟨_, _, _, rfl, by simp⟩
    ·exact ⟨_, _, _, rfl, by simp⟩
  have hj0 : ∀ x b, ∃ c n ok, aJ.j0 k s i x b = some (c, n, ok) ∧ (ok = true → 1 ≤ n ∧ i + n ≤ s.size) := by
   intro x b
   obtain ⟨k, rfl⟩ : ∃ k', k = k' + 1 := ⟨k - 1, by omega⟩
   simp only [aJ.j0]
   split
   ·exact char_j2 hn _ _ h0 (by omega) (by omega) k (by omega)
   ·split
    ·exact hj1 _ _
    ·exact hj1 _ _
  split
  ·exact hj0 _ _
  ·exact hj0 _ _
theorem pO : ∀ (d k : Nat) (i : Int), 0 ≤ i → i ≤ s.size → (s.size : Int) - i ≤ d → d + 10 ≤ k → ∃ b, bI.l0 k s i = some b
 | d, 0, i, _, _, _, hk => by omega
 | d, k + 1, i, h0, h1, hd, hk => by
  simp only [bI.l0]
  by_cases h : i < s.size
  ·obtain ⟨c, n, ok, e, hok⟩ := char_tot hn h0 h k (by omega)
   rw [if_pos h, e]
   simp only [ak]
   cases ok with
   | false => exact ⟨false, by simp⟩
   | true =>
    have := hok rfl
    obtain ⟨d', rfl⟩ : ∃ d', d = d' + 1 := ⟨d - 1, by omega⟩
    rw [if_pos rfl, w64 (x := i + n) (by omega) (by omega)]
    exact pO d' k _ (by omega) (by omega) (by omega) (by omega)
  ·rw [if_neg h]; exact ⟨true, rfl⟩
theorem pN : ∃ K b, ∀ n, bI.f (K + n) s = some b := by
 obtain ⟨b, hb⟩ := pO hn s.size (s.size + 10) 0 (by omega) (by omega) (by omega) (by omega)
 refine ⟨s.size + 10, b, fun n => ?_⟩
 induction n with
 | zero => exact hb
 | succ n ih => exact bI.mono s (s.size + 10 + n) _ ih
end
end Go.Proofs.YtmpdhdnoohmndaaGreatDoor.Gj

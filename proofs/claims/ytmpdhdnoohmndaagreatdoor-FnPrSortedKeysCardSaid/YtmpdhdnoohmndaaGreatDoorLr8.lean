import Derived.Test.YtmpdhdnoohmndaaGreatDoorZip
import Derived.Test.YtmpdhdnoohmndaaGreatDoorQl
import Derived.Test.YtmpdhdnoohmndaaGreatDoorSpu
namespace Go.Proofs.YtmpdhdnoohmndaaGreatDoor.Sp
open Go.RowKit Go.Proofs.YtmpdhdnoohmndaaGreatDoorW.PrintWords Go.Proofs.YtmpdhdnoohmndaaGreatDoorW.PrintLast Go.Proofs.YtmpdhdnoohmndaaGreatDoorW.PrintMore Gj
set_option linter.unusedVariables false
def hv (c : Int) : Int := if c ≤ 57 then c - 48 else if 97 ≤ c then c - 87 else c - 55
theorem hv_range {c : Int} (h : HexCh c) : 0 ≤ hv c ∧ hv c ≤ 15 := by
 unfold HexCh at h
 unfold hv
 split
 ·omega
 ·split <;> omega
theorem hex_is {k : Nat} (hk : 2 ≤ k) {c : Int} (h : HexCh c) : aQ.f k c = some (hv c, true) := by
 obtain ⟨k, rfl⟩ : ∃ m, k = m + 2 := ⟨k - 2, by omega⟩
 unfold HexCh at h
 unfold aQ.f hv
 simp only [aQ.j0, aQ.j1]
 rcases h with h | h | h
 ·rw [if_pos (by omega), ac (by omega), if_pos rfl, if_pos (by omega), show (c - 48) % 256 = c - 48 by omega]
 ·rw [if_pos (by omega), ae (by omega), if_neg (by decide), if_pos (by omega), ac (by omega), if_pos rfl, if_neg (by omega), if_pos (by omega), show (c - 97) % 256 + 10 = c - 87 by omega]
 ·rw [if_pos (by omega), ae (by omega), if_neg (by decide), if_neg (by omega), if_neg (by decide), if_pos (by omega), if_pos (by omega), if_neg (by omega), if_neg (by omega), show (c - 65) % 256 + 10 = c - 55 by omega]
theorem hex_not {k : Nat} (hk : 2 ≤ k) {c : Int} (h : ¬ HexCh c) : ∃ v, aQ.f k c = some (v, false) := by
 obtain ⟨v, b, e⟩ := hex_tot k hk c
 cases b with
 | true => exact absurd (hex_inv e) h
 | false => exact ⟨v, e⟩
def IsU (s : au) (a : Int) : Prop := a + 6 ≤ s.size ∧ bt s a = 92 ∧ bt s (a + 1) = 117 ∧ ∀ p, a + 2 ≤ p → p < a + 6 → HexCh (bt s p)
def hex4 (s : au) (i : Int) : Int := ((hv (bt s i) * 16 + hv (bt s (i + 1))) * 16 + hv (bt s (i + 2))) * 16 + hv (bt s (i + 3))
theorem hex4_range {s : au} {a : Int} (h : IsU s a) : 0 ≤ hex4 s (a + 2) ∧ hex4 s (a + 2) ≤ 65535 := by
 have h0 := hv_range (h.2.2.2 (a + 2) (by omega) (by omega))
 have h1 := hv_range (h.2.2.2 (a + 2 + 1) (by omega) (by omega))
 have h2 := hv_range (h.2.2.2 (a + 2 + 2) (by omega) (by omega))
 have h3 := hv_range (h.2.2.2 (a + 2 + 3) (by omega) (by omega))
 unfold hex4
 omega
theorem unit_end {s : au} {a : Int} (k : Nat) (hk : 1 ≤ k) : aY.j0 k s a true = some (0, false) := by
 obtain ⟨k, rfl⟩ : ∃ m, k = m + 1 := ⟨k - 1, by omega⟩
 rw [aY.j0, if_pos rfl]
theorem unit_is {s : au} (hn : Small s) {k : Nat} (hk : 10 ≤ k) {a : Int} (h0 : 0 ≤ a) (h : IsU s a) : aY.f k s a = some (hex4 s (a + 2), true) := by
 have hn' : s.size ≤ 1048576 := hn
 have hsz := h.1
 have g0 := h.2.2.2 (a + 2) (by omega) (by omega)
 have g1 := h.2.2.2 (a + 2 + 1) (by omega) (by omega)
 have g2 := h.2.2.2 (a + 2 + 1 + 1) (by omega) (by omega)
 have g3 := h.2.2.2 (a + 2 + 1 + 1 + 1) (by omega) (by omega)
 have r0 := hv_range g0
 have r1 := hv_range g1
 have r2 := hv_range g2
 have r3 := hv_range g3
 obtain ⟨k, rfl⟩ : ∃ m, k = m + 10 := ⟨k - 10, by omega⟩
 unfold aY.f
 rw [w64 (by omega) (by omega), w64 (by omega) (by omega), if_neg (by omega), if_pos h0, if_pos (by omega), if_pos h.2.1, if_pos (by omega), if_pos (by omega), h.2.2.1]
 simp only [aY.j0]
 rw [if_neg (by decide), w64 (by omega) (by omega)]
 simp only [aY.l0]
 rw [w64 (x := a + 6) (by omega) (by omega), if_pos (by omega), if_pos (by omega), if_pos (by omega), hex_is (by omega) g0]
 simp only [ak, if_true]
 rw [w64 (x := a + 2 + 1) (by omega) (by omega), if_pos (by omega), if_pos (by omega), if_pos (by omega), hex_is (by omega) g1]
 simp only [ak, if_true]
 rw [w64 (x := a + 2 + 1 + 1) (by omega) (by omega), if_pos (by omega), if_pos (by omega), if_pos (by omega), hex_is (by omega) g2]
 simp only [ak, if_true]
 rw [w64 (x := a + 2 + 1 + 1 + 1) (by omega) (by omega), if_pos (by omega), if_pos (by omega), if_pos (by omega), hex_is (by omega) g3]
 simp only [ak, if_true]
 rw [w64 (x := a + 2 + 1 + 1 + 1 + 1) (by omega) (by omega), if_neg (by omega)]
 unfold hex4
 rw [show a + 2 + 2 = a + 2 + 1 + 1 by omega, show a + 2 + 3 = a + 2 + 1 + 1 + 1 by omega]
 generalize hv (bt s (a + 2)) = x0 at *
 generalize hv (bt s (a + 2 + 1)) = x1 at *
 generalize hv (bt s (a + 2 + 1 + 1)) = x2 at *
 generalize hv (bt s (a + 2 + 1 + 1 + 1)) = x3 at *
 have e0 : wrap64 (wrap64 (0 * 16) + x0) = x0 := by rw [w64 (x := 0 * 16) (by omega) (by omega), w64 (by omega) (by omega)]; omega
 rw [e0]
 have e1 : wrap64 (wrap64 (x0 * 16) + x1) = x0 * 16 + x1 := by rw [w64 (x := x0 * 16) (by omega) (by omega), w64 (by omega) (by omega)]
 rw [e1]
 have e2 : wrap64 (wrap64 ((x0 * 16 + x1) * 16) + x2) = (x0 * 16 + x1) * 16 + x2 := by rw [w64 (x := (x0 * 16 + x1) * 16) (by omega) (by omega), w64 (by omega) (by omega)]
 rw [e2]
 have e3 : wrap64 (wrap64 (((x0 * 16 + x1) * 16 + x2) * 16) + x3) = ((x0 * 16 + x1) * 16 + x2) * 16 + x3 := by rw [w64 (x := ((x0 * 16 + x1) * 16 + x2) * 16) (by omega) (by omega), w64 (by omega) (by omega)]
 rw [e3]
theorem unit_l {s : au} (hn : Small s) {a : Int} (h0 : 0 ≤ a) (h1 : a + 6 ≤ s.size) : ∀ (d k : Nat) (x q : Int), a + 6 - q = d → a + 2 ≤ q → d + 3 ≤ k → (∃ p, q ≤ p ∧ p < a + 6 ∧ ¬ HexCh (bt s p)) → ∃ n, aY.l0 k s a x q = some (n, false)
 | 0, k, x, q, hd, hq, hk, ⟨p, hp⟩ => by omega
 | d + 1, k, x, q, hd, hq, hk, ⟨p, hp1, hp2, hp3⟩ => by
  have hn' : s.size ≤ 1048576 := hn
  obtain ⟨k, rfl⟩ : ∃ m, k = m + 1 := ⟨k - 1, by omega⟩
  rw [aY.l0, w64 (x := a + 6) (by omega) (by omega), if_pos (by omega), if_pos (by omega), if_pos (by omega)]
  by_cases c : HexCh (bt s q)
  ·rw [hex_is (by omega) c]
   simp only [ak, if_true]
   rw [w64 (x := q + 1) (by omega) (by omega)]
   refine unit_l hn h0 h1 d k _ (q + 1) (by omega) (by omega) (by omega) ⟨p, ?_, hp2, hp3⟩
   have : q ≠ p := fun e => hp3 (e ▸ c)
   omega
  ·obtain ⟨v, e⟩ := hex_not (k := k) (by omega) c
   rw [e]
   simp only [ak]
   exact ⟨0, by rw [if_neg (by decide)]⟩
theorem unit_not {s : au} (hn : Small s) {k : Nat} (hk : 10 ≤ k) {a : Int} (h0 : 0 ≤ a) (ha : a ≤ 4194304) (h : ¬ IsU s a) : ∃ n, aY.f k s a = some (n, false) := by
 have hn' : s.size ≤ 1048576 := hn
 have hw : wrap64 ((s.size : Int) - a) = (s.size : Int) - a := by unfold wrap64; omega
 unfold aY.f
 rw [hw]
 by_cases c0 : (s.size : Int) - a < 6
 ·rw [if_pos c0]; exact ⟨0, unit_end k (by omega)⟩
 ·rw [if_neg c0, if_pos h0, if_pos (by omega)]
  by_cases c1 : bt s a = 92
  ·rw [if_pos c1, w64 (x := a + 1) (by omega) (by omega), if_pos (by omega), if_pos (by omega)]
   by_cases c2 : bt s (a + 1) = 117
   ·obtain ⟨k, rfl⟩ : ∃ m, k = m + 1 := ⟨k - 1, by omega⟩
    rw [c2, aY.j0, if_neg (by decide), w64 (x := a + 2) (by omega) (by omega)]
    refine unit_l hn h0 (by omega) 4 k _ (a + 2) (by omega) (by omega) (by omega) (Classical.byContradiction fun hno => h ⟨by omega, c1, c2, fun p h1 h2 => Classical.byContradiction fun h3 => hno ⟨p, h1, h2, h3⟩⟩)
   ·have : (bt s (a + 1) != 117) = true := by simpa using c2
    rw [this]
    exact ⟨0, unit_end k (by omega)⟩
  ·rw [if_neg c1]; exact ⟨0, unit_end k (by omega)⟩
theorem unit_up {s : au} {a : Int} {k : Nat} {r : Int × Bool} (h : aY.f k s a = some r) : ∀ n, aY.f (k + n) s a = some r
 | 0 => h
 | n + 1 => aY.mono s a (k + n) r (unit_up h n)
theorem unit_inv {s : au} (hn : Small s) {k : Nat} {a : Int} {r : Int × Bool} (h0 : 0 ≤ a) (ha : a ≤ 4194304) (h : aY.f k s a = some r) : (IsU s a ∧ r = (hex4 s (a + 2), true)) ∨ (¬ IsU s a ∧ r.2 = false) := by
 have h' := unit_up h 10
 by_cases c : IsU s a
 ·rw [unit_is hn (by omega) h0 c] at h'
  exact .inl ⟨c, (ar h').symm⟩
 ·obtain ⟨n, e⟩ := unit_not hn (k := k + 10) (by omega) h0 ha c
  rw [e] at h'
  exact .inr ⟨c, by rw [← ar h']⟩
def High (n : Int) : Prop := 55296 ≤ n ∧ n ≤ 56319
def Low (n : Int) : Prop := 56320 ≤ n ∧ n ≤ 57343
instance (n : Int) : Decidable (High n) := by unfold High; infer_instance
instance (n : Int) : Decidable (Low n) := by unfold Low; infer_instance
theorem high_eq (n : Int) : bW.f n = some (decide (High n)) := by
 unfold bW.f High
 by_cases c : 55296 ≤ n
 ·rw [if_pos c]; congr 1; simp [c]
 ·rw [if_neg c]; congr 1; simp [c]
theorem low_eq (n : Int) : cB.f n = some (decide (Low n)) := by
 unfold cB.f Low
 by_cases c : 56320 ≤ n
 ·rw [if_pos c]; congr 1; simp [c]
 ·rw [if_neg c]; congr 1; simp [c]
def PairedAt (s : au) (i : Int) : Prop := ∃ k, bB.l0 k s i = some true
section
variable {s : au} (hn : Small s) {i : Int}
include hn
theorem PairedAt.plain (h : PairedAt s i) (h0 : 0 ≤ i) (h1 : i < s.size) (h2 : bt s i ≠ 92) : PairedAt s (i + 1) := by
 have hn' : s.size ≤ 1048576 := hn
 obtain ⟨k, h⟩ := h
 cases k with
 | zero => simp [bB.l0] at h
 | succ k =>
  rw [bB.l0, if_pos h1, if_pos h0, if_neg h2, w64 (by omega) (by omega)] at h
  exact ⟨k, h⟩
theorem PairedAt.esc (h : PairedAt s i) (h0 : 0 ≤ i) (h1 : i < s.size) (h2 : bt s i = 92) (h3 : bt s (i + 1) ≠ 117) : PairedAt s (i + 2) := by
 have hn' : s.size ≤ 1048576 := hn
 obtain ⟨k, h⟩ := h
 cases k with
 | zero => simp [bB.l0] at h
 | succ k =>
  rw [bB.l0, if_pos h1, if_pos h0, if_pos h2, w64 (x := i + 2) (by omega) (by omega)] at h
  obtain ⟨r, hr, h⟩ := an h
  rcases unit_inv hn h0 (by omega) hr with ⟨g, _⟩ | ⟨_, g⟩
  ·exact absurd g.2.2.1 h3
  ·rw [g, if_neg (by decide)] at h
   exact ⟨k, h⟩
theorem PairedAt.uni (h : PairedAt s i) (h0 : 0 ≤ i) (hU : IsU s i) : (¬ High (hex4 s (i + 2)) ∧ ¬ Low (hex4 s (i + 2)) ∧ PairedAt s (i + 6)) ∨ (High (hex4 s (i + 2)) ∧ IsU s (i + 6) ∧ Low (hex4 s (i + 8)) ∧ PairedAt s (i + 12)) := by
 have hn' : s.size ≤ 1048576 := hn
 have h1 := hU.1
 obtain ⟨k, h⟩ := h
 cases k with
 | zero => simp [bB.l0] at h
 | succ k =>
  rw [bB.l0, if_pos (by omega), if_pos h0, if_pos hU.2.1, w64 (x := i + 6) (by omega) (by omega), w64 (x := i + 12) (by omega) (by omega)] at h
  obtain ⟨r, hr, h⟩ := an h
  rcases unit_inv hn h0 (by omega) hr with ⟨_, rfl⟩ | ⟨g, _⟩
  ·rw [if_pos rfl, high_eq] at h
   simp only [ak] at h
   by_cases c : High (hex4 s (i + 2))
   ·rw [if_pos (ac c)] at h
    obtain ⟨r2, hr2, h⟩ := an h
    rcases unit_inv hn (by omega) (by omega) hr2 with ⟨g2, rfl⟩ | ⟨_, g2⟩
    ·rw [if_pos rfl, low_eq] at h
     simp only [ak] at h
     rw [show i + 6 + 2 = i + 8 by omega] at h
     by_cases c2 : Low (hex4 s (i + 8))
     ·rw [if_pos (ac c2)] at h
      exact .inr ⟨c, g2, c2, k, h⟩
     ·rw [ae c2, if_neg (by decide)] at h
      simp at h
    ·rw [g2, if_neg (by decide)] at h
     simp at h
   ·rw [ae c, if_neg (by decide), low_eq] at h
    simp only [ak] at h
    by_cases c2 : Low (hex4 s (i + 2))
    ·rw [if_pos (ac c2)] at h
     simp at h
    ·rw [ae c2, if_neg (by decide)] at h
     exact .inl ⟨c, c2, k, h⟩
  ·exact absurd hU g
end
theorem paired_tot {s : au} (hn : Small s) : ∀ (d k : Nat) (i : Int), 0 ≤ i → i ≤ 2097152 → (s.size : Int) - i ≤ d → d + 12 ≤ k → ∃ b, bB.l0 k s i = some b := by
 have hn' : s.size ≤ 1048576 := hn
 intro d
 induction d with
 | zero =>
  intro k i h0 hi hd hk
  obtain ⟨k, rfl⟩ : ∃ m, k = m + 1 := ⟨k - 1, by omega⟩
  exact ⟨true, by rw [bB.l0, if_neg (by omega)]⟩
 | succ d ih =>
  intro k i h0 hi hd hk
  obtain ⟨k, rfl⟩ : ∃ m, k = m + 1 := ⟨k - 1, by omega⟩
  rw [bB.l0]
  by_cases c0 : i < (s.size : Int)
  ·rw [if_pos c0, if_pos h0]
   by_cases c1 : bt s i = 92
   ·rw [if_pos c1, w64 (x := i + 6) (by omega) (by omega), w64 (x := i + 12) (by omega) (by omega), w64 (x := i + 2) (by omega) (by omega)]
    by_cases c2 : IsU s i
    ·rw [unit_is hn (by omega) h0 c2]
     simp only [ak, if_true]
     rw [high_eq]
     simp only [ak]
     by_cases c3 : High (hex4 s (i + 2))
     ·rw [if_pos (ac c3)]
      by_cases c4 : IsU s (i + 6)
      ·rw [unit_is hn (by omega) (by omega) c4]
       simp only [ak, if_true]
       rw [low_eq]
       simp only [ak]
       by_cases c5 : Low (hex4 s (i + 6 + 2))
       ·rw [if_pos (ac c5)]; exact ih k _ (by omega) (by omega) (by omega) (by omega)
       ·rw [if_neg (by rw [ae c5]; decide)]; exact ⟨_, rfl⟩
      ·obtain ⟨n, e⟩ := unit_not hn (k := k) (by omega) (by omega) (by omega) c4
       rw [e]
       simp only [ak]
       exact ⟨false, by rw [if_neg (by decide)]⟩
     ·rw [if_neg (by rw [ae c3]; decide), low_eq]
      simp only [ak]
      by_cases c5 : Low (hex4 s (i + 2))
      ·rw [if_pos (ac c5)]; exact ⟨_, rfl⟩
      ·rw [if_neg (by rw [ae c5]; decide)]; exact ih k _ (by omega) (by omega) (by omega) (by omega)
    ·obtain ⟨n, e⟩ := unit_not hn (k := k) (by omega) h0 (by omega) c2
     rw [e]
     simp only [ak]
     rw [if_neg (by decide)]
     exact ih k _ (by omega) (by omega) (by omega) (by omega)
   ·rw [if_neg c1, w64 (x := i + 1) (by omega) (by omega)]
    exact ih k _ (by omega) (by omega) (by omega) (by omega)
  ·exact ⟨true, by rw [if_neg c0]⟩
def utf8 (c : Int) : List Int := if c < 128 then [c] else if c < 2048 then [192 + c / 64, 128 + c % 64] else if c < 65536 then [224 + c / 4096, 128 + c / 64 % 64, 128 + c % 64] else [240 + c / 262144, 128 + c / 4096 % 64, 128 + c / 64 % 64, 128 + c % 64]
theorem fI (c : Int) : (utf8 c).length ≤ 4 := by
 unfold utf8
 repeat' split
 all_goals simp
def shortc (c : Int) : Int := if c = 98 then 8 else if c = 102 then 12 else if c = 110 then 10 else if c = 114 then 13 else if c = 116 then 9 else c
theorem short_eq (c : Int) : cV.f c = some (shortc c) := by
 unfold cV.f shortc
 repeat' split
 all_goals rfl
theorem append_eq {k : Nat} (hk : 1 ≤ k) (l : List Int) (c : Int) (hl : l.length ≤ 100000000) (h0 : 0 ≤ c) (h1 : c ≤ 1114111) (h2 : ¬ High c) (h3 : ¬ Low c) : aX.f k l c = some (l ++ utf8 c) := by
 obtain ⟨k, rfl⟩ : ∃ m, k = m + 1 := ⟨k - 1, by omega⟩
 have d1 : Int.tdiv c 64 = c / 64 := Int.tdiv_eq_ediv_of_nonneg h0
 have d2 : Int.tdiv c 4096 = c / 4096 := Int.tdiv_eq_ediv_of_nonneg h0
 have d3 : Int.tdiv c 262144 = c / 262144 := Int.tdiv_eq_ediv_of_nonneg h0
 have m1 : Int.tmod c 64 = c % 64 := Int.tmod_eq_emod_of_nonneg h0
 have m2 : Int.tmod (c / 64) 64 = c / 64 % 64 := Int.tmod_eq_emod_of_nonneg (by omega)
 have m3 : Int.tmod (c / 4096) 64 = c / 4096 % 64 := Int.tmod_eq_emod_of_nonneg (by omega)
 have q1 : wrap64 (192 + c / 64) = 192 + c / 64 ∨ ¬ c < 2048 := by by_cases h : c < 2048; exact .inl (w64 (by omega) (by omega)); exact .inr h
 have q2 : wrap64 (128 + c % 64) = 128 + c % 64 := w64 (by omega) (by omega)
 have q3 : wrap64 (224 + c / 4096) = 224 + c / 4096 := w64 (by omega) (by omega)
 have q4 : wrap64 (128 + c / 64 % 64) = 128 + c / 64 % 64 := w64 (by omega) (by omega)
 have q5 : wrap64 (240 + c / 262144) = 240 + c / 262144 := w64 (by omega) (by omega)
 have q6 : wrap64 (128 + c / 4096 % 64) = 128 + c / 4096 % 64 := w64 (by omega) (by omega)
 have e1 : wrap64 (c / 64) = c / 64 := w64 (by omega) (by omega)
 have e2 : wrap64 (c / 4096) = c / 4096 := w64 (by omega) (by omega)
 have e3 : wrap64 (c / 262144) = c / 262144 := w64 (by omega) (by omega)
 unfold aX.f utf8
 rw [d1, m1, e1]
 by_cases c1 : c < 128
 ·rw [if_pos c1, if_pos (by omega), if_pos c1, show c % 256 = c by omega]
 ·rw [if_neg c1, if_neg c1]
  by_cases c2 : c < 2048
  ·rw [if_pos c2, if_pos c2, q2, w64 (x := 192 + c / 64) (by omega) (by omega), show (192 + c / 64) % 256 = 192 + c / 64 by omega, show (128 + c % 64) % 256 = 128 + c % 64 by omega]
   simp only [ak, List.length_cons, List.length_nil]
   rw [if_pos (by omega)]
  ·rw [if_neg c2, if_neg c2, high_eq]
   simp only [ak]
   rw [if_neg (by rw [ae h2]; decide), low_eq]
   simp only [ak]
   rw [ae h3, aX.j0, if_neg (by decide), d1, d2, d3, m1, e1, e2, e3, m2, m3, q2, q3, q4, q5, q6]
   by_cases c3 : c < 65536
   ·rw [if_pos c3, if_pos c3, show (224 + c / 4096) % 256 = 224 + c / 4096 by omega, show (128 + c / 64 % 64) % 256 = 128 + c / 64 % 64 by omega, show (128 + c % 64) % 256 = 128 + c % 64 by omega]
    simp only [ak, List.length_cons, List.length_nil]
    rw [if_pos (by omega)]
   ·rw [if_neg c3, if_neg c3, show (240 + c / 262144) % 256 = 240 + c / 262144 by omega, show (128 + c / 4096 % 64) % 256 = 128 + c / 4096 % 64 by omega, show (128 + c / 64 % 64) % 256 = 128 + c / 64 % 64 by omega, show (128 + c % 64) % 256 = 128 + c % 64 by omega]
    simp only [ak, List.length_cons, List.length_nil]
    rw [if_pos (by omega)]
def both (n m : Int) : Int := 65536 + (n - 55296) * 1024 + (m - 56320)
inductive Inner (t : au) : Int → List Int → Prop
 | done : Inner t t.size []
 | plain (i : Int) (o : List Int) : 0 ≤ i → i < t.size → 32 ≤ bt t i → bt t i ≠ 34 → bt t i ≠ 92 → Inner t (i + 1) o → Inner t i (bt t i :: o)
 | esc (i : Int) (o : List Int) : 0 ≤ i → i + 2 ≤ t.size → bt t i = 92 → Esc1 (bt t (i + 1)) → Inner t (i + 2) o → Inner t i (shortc (bt t (i + 1)) :: o)
 | uni (i : Int) (o : List Int) : 0 ≤ i → IsU t i → ¬ High (hex4 t (i + 2)) → ¬ Low (hex4 t (i + 2)) → Inner t (i + 6) o → Inner t i (utf8 (hex4 t (i + 2)) ++ o)
 | pair (i : Int) (o : List Int) : 0 ≤ i → IsU t i → High (hex4 t (i + 2)) → IsU t (i + 6) → Low (hex4 t (i + 8)) → Inner t (i + 12) o → Inner t i (utf8 (both (hex4 t (i + 2)) (hex4 t (i + 8))) ++ o)
theorem Inner.le {t : au} {i : Int} {o : List Int} (h : Inner t i o) : i ≤ t.size ∧ (o.length : Int) ≤ t.size - i := by
 have hu := fI
 induction h with
 | done => simp
 | plain i o _ _ _ _ _ _ ih => simp only [List.length_cons]; omega
 | esc i o _ _ _ _ _ ih => simp only [List.length_cons]; omega
 | uni i o _ _ _ _ _ ih => have := hu (hex4 t (i + 2)); simp only [List.length_append]; omega
 | pair i o _ _ _ _ _ _ ih => have := hu (both (hex4 t (i + 2)) (hex4 t (i + 8))); simp only [List.length_append]; omega
theorem unq_l {t : au} (hn : Small t) {i : Int} {o : List Int} (h : Inner t i o) : ∀ (x : List Int) (k : Nat), (x.length : Int) ≤ i → (t.size : Int) - i + 12 ≤ k → aW.l0 k x t i = some (strOfNums (x ++ o)) := by
 have hn' : t.size ≤ 1048576 := hn
 induction h with
 | done =>
  intro x k hx hk
  obtain ⟨k, rfl⟩ : ∃ m, k = m + 1 := ⟨k - 1, by omega⟩
  rw [aW.l0, if_neg (by omega), List.append_nil]
 | plain i o h0 h1 h2 h3 h4 _ ih =>
  intro x k hx hk
  obtain ⟨k, rfl⟩ : ∃ m, k = m + 1 := ⟨k - 1, by omega⟩
  rw [aW.l0, if_pos h1, if_pos h0, if_neg h4, if_pos (by omega), w64 (by omega) (by omega), ih _ _ (by simp only [List.length_append, List.length_cons, List.length_nil]; omega) (by omega)]
  simp
 | esc i o h0 h1 h2 h3 _ ih =>
  intro x k hx hk
  obtain ⟨k, rfl⟩ : ∃ m, k = m + 1 := ⟨k - 1, by omega⟩
  have hno : ¬ IsU t i := fun h => by have := h.2.2.1; unfold Esc1 at h3; omega
  obtain ⟨n, e⟩ := unit_not hn (k := k) (by omega) h0 (by omega) hno
  rw [aW.l0, if_pos (by omega), if_pos h0, if_pos h2, e]
  simp only [ak]
  rw [if_neg (by decide), w64 (x := i + 1) (by omega) (by omega), w64 (x := i + 2) (by omega) (by omega), if_pos (by omega), if_pos (by omega), short_eq]
  simp only [ak]
  rw [if_pos (by omega), ih _ _ (by simp only [List.length_append, List.length_cons, List.length_nil]; omega) (by omega)]
  simp
 | uni i o h0 hU h1 h2 _ ih =>
  intro x k hx hk
  have hs := hU.1
  have hr := hex4_range hU
  have hlen := fI (hex4 t (i + 2))
  obtain ⟨k, rfl⟩ : ∃ m, k = m + 1 := ⟨k - 1, by omega⟩
  have fin : aW.l0 k (x ++ utf8 (hex4 t (i + 2))) t (i + 6) = some (strOfNums (x ++ (utf8 (hex4 t (i + 2)) ++ o))) := by
   rw [ih _ _ (by simp only [List.length_append]; omega) (by omega), List.append_assoc]
  rw [aW.l0, if_pos (by omega), if_pos h0, if_pos hU.2.1, unit_is hn (by omega) h0 hU]
  simp only [ak, if_true]
  rw [w64 (x := i + 6) (by omega) (by omega), append_eq (by omega) x _ (by omega) hr.1 (by omega) h1 h2]
  by_cases c : IsU t (i + 6)
  ·rw [unit_is hn (by omega) (by omega) c]
   simp only [ak, if_true]
   rw [high_eq]
   simp only [ak]
   rw [if_neg (by rw [ae h1]; decide)]
   exact fin
  ·obtain ⟨n, e⟩ := unit_not hn (k := k) (by omega) (by omega) (by omega) c
   rw [e]
   simp only [ak]
   rw [if_neg (by decide)]
   exact fin
 | pair i o h0 hU h1 hU2 h2 _ ih =>
  intro x k hx hk
  have hs := hU2.1
  have hlen := fI (both (hex4 t (i + 2)) (hex4 t (i + 8)))
  obtain ⟨k, rfl⟩ : ∃ m, k = m + 1 := ⟨k - 1, by omega⟩
  rw [aW.l0, if_pos (by omega), if_pos h0, if_pos hU.2.1, unit_is hn (by omega) h0 hU]
  simp only [ak, if_true]
  rw [w64 (x := i + 6) (by omega) (by omega), unit_is hn (by omega) (by omega) hU2]
  simp only [ak, if_true]
  rw [show i + 6 + 2 = i + 8 by omega, show i + 6 + 6 = i + 12 by omega, high_eq, low_eq]
  simp only [ak]
  rw [if_pos (ac h1), if_pos (ac h2)]
  have e1 := h1.1
  have e2 := h1.2
  have e3 := h2.1
  have e4 := h2.2
  have hb : wrap64 (wrap64 (65536 + wrap64 (wrap64 (hex4 t (i + 2) - 55296) * 1024)) + wrap64 (hex4 t (i + 8) - 56320)) = both (hex4 t (i + 2)) (hex4 t (i + 8)) := by
   generalize hex4 t (i + 2) = n at *
   generalize hex4 t (i + 8) = m at *
   unfold both
   rw [w64 (x := n - 55296) (by omega) (by omega), w64 (x := (n - 55296) * 1024) (by omega) (by omega), w64 (x := 65536 + (n - 55296) * 1024) (by omega) (by omega), w64 (x := m - 56320) (by omega) (by omega), w64 (by omega) (by omega)]
  have hbr : 65536 ≤ both (hex4 t (i + 2)) (hex4 t (i + 8)) ∧ both (hex4 t (i + 2)) (hex4 t (i + 8)) ≤ 1114111 := by
   unfold both
   omega
  rw [hb, append_eq (by omega) x _ (by omega) (by omega) hbr.2 (fun h => by have := h.2; omega) (fun h => by have := h.2; omega)]
  simp only [ak]
  rw [w64 (x := i + 12) (by omega) (by omega), ih _ _ (by simp only [List.length_append]; omega) (by omega), List.append_assoc]
theorem bt_ext {s : au} {a b : Nat} {q : Int} (h0 : 0 ≤ q) (h1 : (a : Int) + q < b) (h2 : b ≤ s.size) : bt (s.extract a b) q = bt s (a + q) := by
 have hq : q.toNat < (s.extract a b).size := Z46
 have hq2 : ((a : Int) + q).toNat < s.size := by omega
 rw [← bt_at _ _ hq, ← bt_at _ _ hq2]
 simp only [ByteArray.getElem_extract]
 congr 3
 omega
theorem IsU.ext {s : au} {a b : Nat} {q : Int} (h0 : 0 ≤ q) (h2 : b ≤ s.size) (h : IsU s (a + q)) (h1 : (a : Int) + q + 6 ≤ b) : IsU (s.extract a b) q ∧ hex4 (s.extract a b) (q + 2) = hex4 s (a + q + 2) := by
 refine ⟨⟨Z46, ?_, ?_, fun p h3 h4 => ?_⟩, ?_⟩
 ·rw [bt_ext h0 (by omega) h2]; exact h.2.1
 ·rw [bt_ext (by omega) (by omega) h2, ← Int.add_assoc]; exact h.2.2.1
 ·rw [bt_ext (by omega) (by omega) h2]; exact h.2.2.2 _ (by omega) (by omega)
 ·unfold hex4
  rw [bt_ext (by omega) (by omega) h2, bt_ext (by omega) (by omega) h2, bt_ext (by omega) (by omega) h2, bt_ext (by omega) (by omega) h2]
  simp only [Int.add_assoc]
theorem Body.le {x : List Int} {i e : Int} (h : Body x i e) : i ≤ e := by
 induction h with
 | done => omega
 | plain _ _ _ _ _ _ ih => omega
 | esc _ _ _ _ _ ih => omega
 | uni _ _ _ _ _ _ ih => omega
theorem Body.uni_inv {x : List Int} {i e : Int} (h : Body x i e) (h1 : rd x i = 92) (h2 : rd x (i + 1) = 117) : Body x (i + 6) e := by
 cases h with
 | done _ h5 => omega
 | plain _ _ h5 h6 h7 h8 => exact absurd h1 h7
 | esc _ _ h5 h6 h7 => unfold Esc1 at h6; omega
 | uni _ _ h5 h6 h7 h8 => exact h8
theorem body_inner {s : au} (hn : Small s) {a b : Nat} (hb : b ≤ s.size) : ∀ (n : Nat) (i : Int), Body (bytesOf s) i b → b - i ≤ n → (a : Int) ≤ i → PairedAt s i → ∃ o, Inner (s.extract a b) (i - a) o ∧ PairedAt s b := by
 have hn' : s.size ≤ 1048576 := hn
 have hsz : (s.extract a b).size = b - a := Z46
 intro n
 induction n with
 | zero =>
  intro i h hd ha hp
  have hle := h.le
  obtain rfl : i = b := by omega
  exact ⟨[], by
   have := Inner.done (t := s.extract a b)
   rw [hsz] at this
   rwa [show (b : Int) - a = ((b - a : Nat) : Int) by omega], hp⟩
 | succ n ih =>
  intro i h hd ha hp
  cases h with
  | done _ h1 => exact ⟨[], by
    have := Inner.done (t := s.extract a b)
    rw [hsz] at this
    rwa [show (b : Int) - a = ((b - a : Nat) : Int) by omega], hp⟩
  | plain _ _ h1 h2 h3 h4 =>
   have hle := h4.le
   rw [rd_bytesOf] at h1 h2 h3
   obtain ⟨o, g1, g2⟩ := ih (i + 1) h4 (by omega) (by omega) (hp.plain hn (by omega) (by omega) h3)
   have e : bt (s.extract a b) (i - a) = bt s i := by rw [bt_ext (by omega) (by omega) hb]; congr 1; omega
   refine ⟨_, .plain (i - a) o (by omega) (by omega) (by rw [e]; exact h1) (by rw [e]; exact h2) (by rw [e]; exact h3) ?_, g2⟩
   rwa [show i - a + 1 = i + 1 - a by omega]
  | esc _ _ h1 h2 h3 =>
   have hle := h3.le
   rw [rd_bytesOf] at h1 h2
   obtain ⟨o, g1, g2⟩ := ih (i + 2) h3 (by omega) (by omega) (hp.esc hn (by omega) (by omega) h1 (fun e => by unfold Esc1 at h2; omega))
   have e : bt (s.extract a b) (i - a) = bt s i := by rw [bt_ext (by omega) (by omega) hb]; congr 1; omega
   have e1 : bt (s.extract a b) (i - a + 1) = bt s (i + 1) := by rw [bt_ext (by omega) (by omega) hb]; congr 1; omega
   refine ⟨_, .esc (i - a) o (by omega) (by omega) (by rw [e]; exact h1) (by rw [e1]; exact h2) ?_, g2⟩
   rwa [show i - a + 2 = i + 2 - a by omega]
  | uni _ _ h1 h2 h3 h4 =>
   have hle := h4.le
   rw [rd_bytesOf] at h1 h2
   have hU : IsU s i := ⟨by omega, h1, h2, fun p h5 h6 => by have := h3 p h5 h6; rwa [rd_bytesOf] at this⟩
   obtain ⟨u1, u2⟩ := IsU.ext (s := s) (a := a) (b := b) (q := i - a) (by omega) hb (by rwa [show (a : Int) + (i - a) = i by omega]) (by omega)
   rw [show (a : Int) + (i - a) = i by omega] at u2
   rcases hp.uni hn (by omega) hU with ⟨p1, p2, p3⟩ | ⟨p1, p2, p3, p4⟩
   ·obtain ⟨o, g1, g2⟩ := ih (i + 6) h4 (by omega) (by omega) p3
    refine ⟨_, .uni (i - a) o (by omega) u1 (by rwa [u2]) (by rwa [u2]) ?_, g2⟩
    rwa [show i - a + 6 = i + 6 - a by omega]
   ·
    have q92 := p2.2.1
    have q117 := p2.2.2.1
    have h8 := h4.uni_inv (by rw [rd_bytesOf]; exact q92) (by rw [rd_bytesOf]; exact q117)
    have hle2 := h8.le
    obtain ⟨v1, v2⟩ := IsU.ext (s := s) (a := a) (b := b) (q := i - a + 6) (by omega) hb (by rwa [show (a : Int) + (i - a + 6) = i + 6 by omega]) (by omega)
    rw [show (a : Int) + (i - a + 6) + 2 = i + 8 by omega, show i - (a : Int) + 6 + 2 = i - a + 8 by omega] at v2
    rw [show i + 6 + 6 = i + 12 by omega] at h8
    obtain ⟨o, g1, g2⟩ := ih (i + 12) h8 (by omega) (by omega) p4
    refine ⟨_, .pair (i - a) o (by omega) u1 (by rwa [u2]) v1 (by rwa [v2]) ?_, g2⟩
    rwa [show i - a + 12 = i + 12 - a by omega]
theorem seg_unq {s : au} (hn : Small s) {i j : Int} (h0 : 0 ≤ i) (h : StrSeg (bytesOf s) i j) (hp : PairedAt s i) : ∃ o, Inner (s.extract (i.toNat + 1) (j.toNat - 1)) 0 o ∧ PairedAt s j ∧ ∃ k, aW.f k (s.extract i.toNat j.toNat) = some (strOfNums o) := by
 have hn' : s.size ≤ 1048576 := hn
 obtain ⟨h1, h2, h3, h4, h5, h6⟩ := h
 have hcl := h4.1
 rw [bytesOf_length] at h3
 rw [rd_bytesOf] at h1 hcl
 have e1 : ((j.toNat - 1 : Nat) : Int) = j - 1 := by omega
 have e2 : ((i.toNat + 1 : Nat) : Int) = i + 1 := by omega
 obtain ⟨o, g1, g2⟩ := body_inner hn (a := i.toNat + 1) (b := j.toNat - 1) (by omega) (j - i).toNat (i + 1) (by rw [e1]; exact h6) (by omega) (by omega) (hp.plain hn h0 (by omega) (by rw [h1]; decide))
 rw [e1] at g2
 rw [e2, show i + 1 - (i + 1) = 0 by omega] at g1
 refine ⟨o, g1, ?_, ?_⟩
 ·have := g2.plain hn (by omega) (by omega) (by rw [hcl]; decide)
  rwa [show j - 1 + 1 = j by omega] at this
 ·have hx : (s.extract i.toNat j.toNat).extract 1 (j.toNat - i.toNat - 1) = s.extract (i.toNat + 1) (j.toNat - 1) := by
   rw [ByteArray.extract_extract]
   congr 1
   omega
  have hsz : (s.extract i.toNat j.toNat).size = j.toNat - i.toNat := Z46
  have hsz2 : (s.extract (i.toNat + 1) (j.toNat - 1)).size = j.toNat - 1 - (i.toNat + 1) := Z46
  refine ⟨s.size + 20, ?_⟩
  unfold aW.f
  rw [hsz, w64 (x := ((j.toNat - i.toNat : Nat) : Int) - 1) (by omega) (by omega), if_pos (by omega), if_pos (by omega), show (((j.toNat - i.toNat : Nat) : Int) - 1).toNat = j.toNat - i.toNat - 1 by omega, hx]
  have := unq_l (t := s.extract (i.toNat + 1) (j.toNat - 1)) (by show _ ≤ _; omega) g1 [] (s.size + 20) (by simp) (by omega)
  rw [this, List.nil_append]
theorem Lex.paired {s : au} (hn : Small s) {i j : Int} (h : Lex s i j) (hp : PairedAt s i) : PairedAt s j := by
 induction h with
 | nil i => exact hp
 | ch i j h0 h1 h2 _ ih => exact ih (hp.plain hn h0 h1 h2.2.1)
 | str i k j h0 h1 _ ih => exact ih (seg_unq hn h0 h1 hp).choose_spec.2.1
 | br i k j h0 h1 h2 h3 h4 h5 _ ih1 ih2 =>
  have hle := h3.le
  have h6 := ih1 (hp.plain hn h0 h1 (by rcases h2 with h2 | h2 <;> rw [h2] <;> decide))
  exact ih2 (h6.plain hn (by omega) h4 (by rcases h5 with h5 | h5 <;> rw [h5] <;> decide))
end Go.Proofs.YtmpdhdnoohmndaaGreatDoor.Sp

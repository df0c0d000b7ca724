import Derived.Test.YtmpdhdnoohmndaaGreatDoorZip
import Derived.Test.YtmpdhdnoohmndaaGreatDoorSpx5
import Derived.Lib.Strings
import Derived.Test.YtmpdhdnoohmndaaGreatDoorQg
namespace Go.Proofs.YtmpdhdnoohmndaaGreatDoor.Sp
open Go.RowKit Go.Proofs.YtmpdhdnoohmndaaGreatDoorW.PrintWords Go.Proofs.YtmpdhdnoohmndaaGreatDoorW.PrintLast Go.Proofs.YtmpdhdnoohmndaaGreatDoorW.PrintMore
set_option linter.unusedVariables false
theorem w64 {x : Int} (h0 : 0 ≤ x) (h1 : x ≤ 4611686018427387904) : wrap64 x = x := by unfold wrap64; omega
abbrev Small (s : au) : Prop := s.size ≤ 1048576
def isBlank (c : Int) : Prop := c = 32 ∨ c = 9 ∨ c = 10 ∨ c = 13
theorem blank_true {c : Int} (h : isBlank c) : bV.f c = some true := by
 unfold bV.f
 rcases h with rfl | rfl | rfl | rfl <;> simp
theorem blank_false {c : Int} (h : ¬ isBlank c) : bV.f c = some false := by
 unfold bV.f
 unfold isBlank at h
 rw [if_neg (by omega), if_neg (by omega), if_neg (by omega)]
 have : (c == 13) = false := by rw [beq_eq_false_iff_ne]; omega
 rw [this]
open Classical in
theorem blanks_tot (s : au) (hn : Small s) (d : Nat) : ∀ (k : Nat) (i : Int), 0 ≤ i → i ≤ s.size → (s.size : Int) - i = d → d < k →
  ∃ j, aA.f k s i = some (s, j) ∧ i ≤ j ∧ j ≤ s.size ∧ (∀ m, i ≤ m → m < j → isBlank (bt s m)) ∧ (j < s.size → ¬ isBlank (bt s j)) := by
 unfold Small at hn
 induction d with
 | zero =>
  intro k i h0 h1 hd hk
  obtain ⟨k, rfl⟩ : ∃ m, k = m + 1 := ⟨k - 1, by omega⟩
  refine ⟨i, ?_, by omega, h1, fun m h2 h3 => by omega, fun h => by omega⟩
  simp only [aA.f, aA.l0]
  rw [if_neg (by omega)]
 | succ d ih =>
  intro k i h0 h1 hd hk
  obtain ⟨k, rfl⟩ : ∃ m, k = m + 1 := ⟨k - 1, by omega⟩
  by_cases hb : isBlank (bt s i)
  ·obtain ⟨j, hj, h2, h3, h4, h5⟩ := ih k (i + 1) (by omega) (by omega) (by omega) (by omega)
   refine ⟨j, ?_, by omega, h3, fun m h6 h7 => ?_, h5⟩
   ·simp only [aA.f, aA.l0] at hj ⊢
    rw [if_pos (by omega), if_pos h0, blank_true hb, ak, if_pos rfl, w64 (by omega) (by omega)]
    exact hj
   ·by_cases h8 : m = i
    ·subst h8; exact hb
    ·exact h4 m (by omega) h7
  ·refine ⟨i, ?_, by omega, h1, fun m h2 h3 => by omega, fun _ => hb⟩
   simp only [aA.f, aA.l0]
   rw [if_pos (by omega), if_pos h0, blank_false hb, ak, if_neg (by decide)]
def at0 (s : au) (i : Int) : Int := if i < (s.size : Int) then bt s i else 0
theorem here_eq (s : au) (i : Int) (h0 : 0 ≤ i) : bG.f s i = some (at0 s i, s, i) := by
 unfold bG.f at0
 by_cases h : i < (s.size : Int)
 ·rw [if_pos h, if_pos h0, if_pos h]
 ·rw [if_neg h, if_neg h]
theorem take_yes (s : au) (hn : Small s) (i c : Int) (h0 : 0 ≤ i) (h1 : i < s.size) (h : bt s i = c) : aK.f s i c = some (true, s, i + 1) := by
 unfold Small at hn
 unfold aK.f
 rw [if_pos h1, if_pos h0, if_pos h, w64 (by omega) (by omega)]
theorem take_no (s : au) (i c : Int) (h0 : 0 ≤ i) (h : ¬ (i < s.size ∧ bt s i = c)) : aK.f s i c = some (false, s, i) := by
 unfold aK.f
 by_cases h1 : i < (s.size : Int)
 ·rw [if_pos h1, if_pos h0, if_neg (fun e => h ⟨h1, e⟩)]
 ·rw [if_neg h1]
theorem take_tot (s : au) (hn : Small s) (i c : Int) (h0 : 0 ≤ i) (h1 : i ≤ s.size) : ∃ b j, aK.f s i c = some (b, s, j) ∧ i ≤ j ∧ j ≤ s.size ∧ (b = true → j = i + 1 ∧ i < s.size ∧ bt s i = c) ∧ (b = false → j = i ∧ ¬ (i < s.size ∧ bt s i = c)) := by
 by_cases h : i < (s.size : Int) ∧ bt s i = c
 ·exact ⟨true, i + 1, take_yes s hn i c h0 h.1 h.2, by omega, by omega, (fun _ => ⟨rfl, h⟩), fun e => by cases e⟩
 ·exact ⟨false, i, take_no s i c h0 h, by omega, h1, (fun e => by cases e), fun _ => ⟨rfl, h⟩⟩
theorem hex_tot (k : Nat) (hk : 2 ≤ k) (c : Int) : ∃ v b, aQ.f k c = some (v, b) := by
 obtain ⟨k, rfl⟩ : ∃ m, k = m + 2 := ⟨k - 2, by omega⟩
 unfold aQ.f
 simp only [aQ.j0, aQ.j1]
 repeat' split
 all_goals exact ⟨_, _, rfl⟩
theorem at0_zero {s : au} {i : Int} (h : ¬ i < (s.size : Int)) : at0 s i = 0 := by unfold at0; rw [if_neg h]
theorem at0_at {s : au} {i : Int} (h : i < (s.size : Int)) : at0 s i = bt s i := by unfold at0; rw [if_pos h]
theorem hex_zero (k : Nat) (hk : 2 ≤ k) : aQ.f k 0 = some (0, false) := by
 obtain ⟨k, rfl⟩ : ∃ m, k = m + 2 := ⟨k - 2, by omega⟩
 unfold aQ.f
 simp [aQ.j0, aQ.j1]
theorem esc_loop (s : au) (hn : Small s) (d : Nat) : ∀ (k : Nat) (q i : Int), 0 ≤ i → i ≤ s.size → 0 ≤ q → q ≤ 4 → 4 - q = d → d + 3 ≤ k →
  ∃ b j, aE.l0 k q s i = some (b, s, j) ∧ i ≤ j ∧ j ≤ s.size := by
 unfold Small at hn
 induction d with
 | zero =>
  intro k q i h0 h1 h2 h3 hd hk
  obtain ⟨k, rfl⟩ : ∃ m, k = m + 1 := ⟨k - 1, by omega⟩
  exact ⟨true, i, by simp only [aE.l0]; rw [if_neg (by omega)], by omega, h1⟩
 | succ d ih =>
  intro k q i h0 h1 h2 h3 hd hk
  obtain ⟨k, rfl⟩ : ∃ m, k = m + 1 := ⟨k - 1, by omega⟩
  by_cases hi : i < (s.size : Int)
  ·obtain ⟨v, b, hv⟩ := hex_tot k (by omega) (at0 s i)
   cases b with
   | true =>
    obtain ⟨b', j, hj, h4, h5⟩ := ih k (q + 1) (i + 1) (by omega) (by omega) (by omega) (by omega) (by omega) (by omega)
    refine ⟨b', j, ?_, by omega, h5⟩
    simp only [aE.l0]
    rw [if_pos (by omega), here_eq s i h0]
    simp only [ak, hv, if_true]
    rw [w64 (by omega) (by omega), w64 (by omega) (by omega)]
    exact hj
   | false =>
    refine ⟨false, i, ?_, by omega, h1⟩
    simp only [aE.l0]
    rw [if_pos (by omega), here_eq s i h0]
    simp only [ak, hv, Bool.false_eq_true, if_false]
  ·refine ⟨false, i, ?_, by omega, h1⟩
   simp only [aE.l0]
   rw [if_pos (by omega), here_eq s i h0]
   simp only [ak]
   rw [at0_zero hi, hex_zero k (by omega)]
   simp only [ak, Bool.false_eq_true, if_false]
theorem esc_tot (s : au) (hn : Small s) (k : Nat) (i : Int) (h0 : 0 ≤ i) (h1 : i ≤ s.size) (hk : 9 ≤ k) :
  ∃ b j, aE.f k s i = some (b, s, j) ∧ i ≤ j ∧ j ≤ s.size := by
 have key : ∀ (k : Nat) (c : Int) (b : Bool), 8 ≤ k → (at0 s i = c) → (i < s.size ∨ (b = false ∧ c ≠ 117)) → ∃ b' j, aE.j0 k c b s i = some (b', s, j) ∧ i ≤ j ∧ j ≤ s.size := by
  intro k c b hk hc hb
  have hn' : s.size ≤ 1048576 := hn
  obtain ⟨k, rfl⟩ : ∃ m, k = m + 1 := ⟨k - 1, by omega⟩
  simp only [aE.j0]
  cases b with
  | true =>
   rw [if_pos rfl]
   rcases hb with hb | hb
   ·exact ⟨true, i + 1, by rw [w64 (by omega) (by omega)], by omega, by omega⟩
   ·exact absurd hb.1 (by decide)
  | false =>
   rw [if_neg (by decide)]
   by_cases hu : c = 117
   ·rw [if_pos hu]
    rcases hb with hb | hb
    ·rw [w64 (by omega) (by omega)]
     obtain ⟨b', j, hj, h2, h3⟩ := esc_loop s hn 4 k 0 (i + 1) (by omega) (by omega) (by omega) (by omega) (by omega) (by omega)
     exact ⟨b', j, hj, by omega, h3⟩
    ·exact absurd hu hb.2
   ·rw [if_neg hu]
    exact ⟨false, i, rfl, by omega, h1⟩
 unfold aE.f
 rw [here_eq s i h0]
 simp only [ak]
 by_cases hi : i < (s.size : Int)
 ·repeat' split
  all_goals exact key k _ _ (by omega) rfl (.inl hi)
 ·rw [at0_zero hi]
  rw [if_neg (by decide), if_neg (by decide), if_neg (by decide), if_neg (by decide), if_neg (by decide), if_neg (by decide), if_neg (by decide)]
  exact key k _ _ (by omega) (at0_zero hi) (.inr ⟨rfl, by decide⟩)
theorem quoted_loop (s : au) (hn : Small s) (d : Nat) : ∀ (k : Nat) (i : Int), 0 ≤ i → i ≤ s.size → (s.size : Int) - i ≤ d → d + 10 ≤ k →
  ∃ b j, aV.l0 k s i = some (b, s, j) ∧ i ≤ j ∧ j ≤ s.size ∧ (b = true → i < j) := by
 have hn' : s.size ≤ 1048576 := hn
 induction d with
 | zero =>
  intro k i h0 h1 hd hk
  obtain ⟨k, rfl⟩ : ∃ m, k = m + 1 := ⟨k - 1, by omega⟩
  exact ⟨false, i, by simp only [aV.l0]; rw [if_neg (by omega)], by omega, h1, fun e => by cases e⟩
 | succ d ih =>
  intro k i h0 h1 hd hk
  obtain ⟨k, rfl⟩ : ∃ m, k = m + 1 := ⟨k - 1, by omega⟩
  simp only [aV.l0]
  by_cases hi : i < (s.size : Int)
  ·rw [if_pos hi, if_pos h0, w64 (by omega) (by omega)]
   by_cases hq : bt s i = 34
   ·rw [if_pos hq]; exact ⟨true, i + 1, rfl, by omega, by omega, fun _ => by omega⟩
   ·rw [if_neg hq]
    by_cases hc : bt s i < 32
    ·rw [if_pos hc]; exact ⟨false, i + 1, rfl, by omega, by omega, fun e => by cases e⟩
    ·rw [if_neg hc]
     by_cases he : bt s i = 92
     ·rw [if_pos he]
      obtain ⟨b, j, hj, h2, h3⟩ := esc_tot s hn k (i + 1) (by omega) (by omega) (by omega)
      rw [hj]
      simp only [ak]
      cases b with
      | true =>
       rw [if_pos rfl]
       obtain ⟨b', j', hj', h4, h5, h6⟩ := ih k j (by omega) h3 (by omega) (by omega)
       exact ⟨b', j', hj', by omega, h5, fun e => by have := h6 e; omega⟩
      | false => rw [if_neg (by decide)]; exact ⟨false, j, rfl, by omega, h3, fun e => by cases e⟩
     ·rw [if_neg he]
      obtain ⟨b', j', hj', h4, h5, h6⟩ := ih k (i + 1) (by omega) (by omega) (by omega) (by omega)
      exact ⟨b', j', hj', by omega, h5, fun e => by have := h6 e; omega⟩
  ·rw [if_neg hi]; exact ⟨false, i, rfl, by omega, h1, fun e => by cases e⟩
theorem quoted_tot (s : au) (hn : Small s) (k : Nat) (i : Int) (h0 : 0 ≤ i) (h1 : i < s.size) (hk : (s.size : Int) - i + 10 ≤ k) :
  ∃ b j, aV.f k s i = some (b, s, j) ∧ i < j ∧ j ≤ s.size := by
 have hn' : s.size ≤ 1048576 := hn
 obtain ⟨b, j, hj, h2, h3, h4⟩ := quoted_loop s hn ((s.size : Int) - i).toNat k (i + 1) (by omega) (by omega) (by omega) (by omega)
 refine ⟨b, j, ?_, by omega, h3⟩
 unfold aV.f
 rw [w64 (by omega) (by omega)]
 exact hj
theorem digits_loop (s : au) (hn : Small s) (b : Int) (d : Nat) : ∀ (k : Nat) (i : Int), 0 ≤ i → i ≤ s.size → (s.size : Int) - i ≤ d → d + 1 ≤ k →
  ∃ j, aN.l0 k b (at0 s i) s i = some (decide (j > b), s, j) ∧ i ≤ j ∧ j ≤ s.size := by
 have hn' : s.size ≤ 1048576 := hn
 induction d with
 | zero =>
  intro k i h0 h1 hd hk
  obtain ⟨k, rfl⟩ : ∃ m, k = m + 1 := ⟨k - 1, by omega⟩
  refine ⟨i, ?_, by omega, h1⟩
  simp only [aN.l0]
  rw [at0_zero (by omega), if_neg (by omega)]
 | succ d ih =>
  intro k i h0 h1 hd hk
  obtain ⟨k, rfl⟩ : ∃ m, k = m + 1 := ⟨k - 1, by omega⟩
  simp only [aN.l0]
  by_cases hi : i < (s.size : Int)
  ·by_cases h2 : 48 ≤ at0 s i
   ·by_cases h3 : at0 s i ≤ 57
    ·obtain ⟨j, hj, h4, h5⟩ := ih k (i + 1) (by omega) (by omega) (by omega) (by omega)
     rw [if_pos h2, if_pos h3, w64 (by omega) (by omega), here_eq s (i + 1) (by omega)]
     simp only [ak]
     exact ⟨j, hj, by omega, h5⟩
    ·rw [if_pos h2, if_neg h3]; exact ⟨i, rfl, by omega, h1⟩
   ·rw [if_neg h2]; exact ⟨i, rfl, by omega, h1⟩
  ·rw [at0_zero hi, if_neg (by omega)]; exact ⟨i, rfl, by omega, h1⟩
theorem digits_tot (s : au) (hn : Small s) (k : Nat) (i : Int) (h0 : 0 ≤ i) (h1 : i ≤ s.size) (hk : (s.size : Int) - i + 1 ≤ k) :
  ∃ b j, aN.f k s i = some (b, s, j) ∧ i ≤ j ∧ j ≤ s.size ∧ (b = true → i < j) := by
 obtain ⟨j, hj, h2, h3⟩ := digits_loop s hn i ((s.size : Int) - i).toNat k i h0 h1 (by omega) (by omega)
 refine ⟨decide (j > i), j, ?_, h2, h3, fun e => by simpa using e⟩
 unfold aN.f
 rw [here_eq s i h0]
 simp only [ak]
 exact hj
theorem num2_tot (s : au) (hn : Small s) (k : Nat) (b : Bool) (i : Int) (h0 : 0 ≤ i) (h1 : i ≤ s.size) (hk : (s.size : Int) - i + 2 ≤ k) :
  ∃ b' j, aD.j2 k b s i = some (b', s, j) ∧ i ≤ j ∧ j ≤ s.size := by
 obtain ⟨k, rfl⟩ : ∃ m, k = m + 1 := ⟨k - 1, by omega⟩
 simp only [aD.j2]
 cases b with
 | false => rw [if_neg (by decide)]; exact ⟨true, i, rfl, by omega, h1⟩
 | true =>
  rw [if_pos rfl]
  obtain ⟨b1, j1, e1, h2, h3, _⟩ := take_tot s hn i 43 h0 h1
  rw [e1]
  simp only [ak]
  cases b1 with
  | true =>
   rw [if_pos rfl]
   obtain ⟨b2, j2, e2, h4, h5, _⟩ := digits_tot s hn k j1 (by omega) h3 (by omega)
   rw [e2]
   exact ⟨b2, j2, rfl, by omega, h5⟩
  | false =>
   rw [if_neg (by decide)]
   obtain ⟨b3, j3, e3, h6, h7, _⟩ := take_tot s hn j1 45 (by omega) h3
   rw [e3]
   simp only [ak]
   obtain ⟨b2, j2, e2, h4, h5, _⟩ := digits_tot s hn k j3 (by omega) h7 (by omega)
   rw [e2]
   exact ⟨b2, j2, rfl, by omega, h5⟩
theorem num1_tot (s : au) (hn : Small s) (k : Nat) (b : Bool) (i : Int) (h0 : 0 ≤ i) (h1 : i ≤ s.size) (hk : (s.size : Int) - i + 3 ≤ k) :
  ∃ b' j, aD.j1 k b s i = some (b', s, j) ∧ i ≤ j ∧ j ≤ s.size := by
 obtain ⟨k, rfl⟩ : ∃ m, k = m + 1 := ⟨k - 1, by omega⟩
 simp only [aD.j1]
 cases b with
 | true => rw [if_pos rfl]; exact ⟨false, i, rfl, by omega, h1⟩
 | false =>
  rw [if_neg (by decide)]
  obtain ⟨b1, j1, e1, h2, h3, _⟩ := take_tot s hn i 101 h0 h1
  rw [e1]
  simp only [ak]
  cases b1 with
  | true =>
   rw [if_pos rfl]
   obtain ⟨b2, j2, e2, h4, h5⟩ := num2_tot s hn k true j1 (by omega) h3 (by omega)
   exact ⟨b2, j2, e2, by omega, h5⟩
  | false =>
   rw [if_neg (by decide)]
   obtain ⟨b3, j3, e3, h6, h7, _⟩ := take_tot s hn j1 69 (by omega) h3
   rw [e3]
   simp only [ak]
   obtain ⟨b2, j2, e2, h4, h5⟩ := num2_tot s hn k b3 j3 (by omega) h7 (by omega)
   exact ⟨b2, j2, e2, by omega, h5⟩
theorem num0_tot (s : au) (hn : Small s) (k : Nat) (b : Bool) (i : Int) (h0 : 0 ≤ i) (h1 : i ≤ s.size) (hk : (s.size : Int) - i + 4 ≤ k) :
  ∃ b' j, aD.j0 k b s i = some (b', s, j) ∧ i ≤ j ∧ j ≤ s.size := by
 obtain ⟨k, rfl⟩ : ∃ m, k = m + 1 := ⟨k - 1, by omega⟩
 simp only [aD.j0]
 cases b with
 | true => rw [if_pos rfl]; exact ⟨false, i, rfl, by omega, h1⟩
 | false =>
  rw [if_neg (by decide)]
  obtain ⟨b1, j1, e1, h2, h3, _⟩ := take_tot s hn i 46 h0 h1
  rw [e1]
  simp only [ak]
  cases b1 with
  | true =>
   rw [if_pos rfl]
   obtain ⟨b2, j2, e2, h4, h5, _⟩ := digits_tot s hn k j1 (by omega) h3 (by omega)
   rw [e2]
   simp only [ak]
   obtain ⟨b3, j3, e3, h6, h7⟩ := num1_tot s hn k (!b2) j2 (by omega) h5 (by omega)
   exact ⟨b3, j3, e3, by omega, h7⟩
  | false =>
   rw [if_neg (by decide)]
   obtain ⟨b3, j3, e3, h6, h7⟩ := num1_tot s hn k false j1 (by omega) h3 (by omega)
   exact ⟨b3, j3, e3, by omega, h7⟩
theorem number_tot (s : au) (hn : Small s) (k : Nat) (i : Int) (h0 : 0 ≤ i) (h1 : i ≤ s.size) (hk : (s.size : Int) - i + 5 ≤ k) :
  ∃ b j, aD.f k s i = some (b, s, j) ∧ i ≤ j ∧ j ≤ s.size ∧ (b = true → i < j) := by
 unfold aD.f
 obtain ⟨b1, j1, e1, h2, h3, h2t, h2f⟩ := take_tot s hn i 45 h0 h1
 rw [e1]
 simp only [ak]
 obtain ⟨b2, j2, e2, h4, h5, h4t, h4f⟩ := take_tot s hn j1 48 (by omega) h3
 rw [e2]
 simp only [ak]
 cases b2 with
 | true =>
  rw [if_pos rfl]
  obtain ⟨b3, j3, e3, h6, h7⟩ := num0_tot s hn k false j2 (by omega) h5 (by omega)
  exact ⟨b3, j3, e3, by omega, h7, fun _ => by have := (h4t rfl).1; omega⟩
 | false =>
  rw [if_neg (by decide)]
  obtain ⟨b3, j3, e3, h6, h7, h8⟩ := digits_tot s hn k j2 (by omega) h5 (by omega)
  rw [e3]
  simp only [ak]
  cases b3 with
  | true =>
   obtain ⟨b4, j4, e4, h9, h10⟩ := num0_tot s hn k (!true) j3 (by omega) h7 (by omega)
   exact ⟨b4, j4, e4, by omega, h10, fun _ => by have := h8 rfl; omega⟩
  | false =>
   obtain ⟨k, rfl⟩ : ∃ m, k = m + 1 := ⟨k - 1, by omega⟩
   refine ⟨false, j3, ?_, by omega, h7, fun e => by cases e⟩
   simp only [aD.j0, Bool.not_false, if_true]
theorem word_tot (s : au) (hn : Small s) (i : Int) (h0 : 0 ≤ i) (h1 : i ≤ s.size) (w : au) (hw : w.size ≤ 8) :
  ∃ b j, bH.f s i w = some (b, s, j) ∧ j ≤ s.size ∧ (b = true → j = i + w.size ∧ (s.extract i.toNat (i + w.size).toNat).toList = w.toList) ∧ (b = false → j = i) := by
 have hn' : s.size ≤ 1048576 := hn
 unfold bH.f
 by_cases h : (s.size : Int) - i < w.size
 ·rw [w64 (by omega) (by omega), if_pos h]
  exact ⟨false, i, rfl, h1, (fun e => by cases e), fun _ => rfl⟩
 ·rw [w64 (by omega) (by omega), if_neg h, if_pos h0, w64 (by omega) (by omega), if_pos (by omega), if_pos (by omega)]
  by_cases he : (s.extract i.toNat (i + w.size).toNat).toList = w.toList
  ·rw [if_pos he]; exact ⟨true, i + w.size, rfl, by omega, (fun _ => ⟨rfl, he⟩), fun e => by cases e⟩
  ·rw [if_neg he]; exact ⟨false, i, rfl, h1, (fun e => by cases e), fun _ => rfl⟩
end Go.Proofs.YtmpdhdnoohmndaaGreatDoor.Sp
namespace Go.Proofs.YtmpdhdnoohmndaaGreatDoor.Sp
open Go.RowKit Go.Proofs.YtmpdhdnoohmndaaGreatDoorW.PrintWords Go.Proofs.YtmpdhdnoohmndaaGreatDoorW.PrintLast Go.Proofs.YtmpdhdnoohmndaaGreatDoorW.PrintMore
set_option linter.unusedVariables false
def TotV (V : aG) (s : au) (D : Int) : Prop := ∀ (k : Nat) (i : Int), 0 ≤ i → i ≤ s.size → 2 * ((s.size : Int) - i) + 1 ≤ D → (s.size : Int) - i + 13 ≤ k →
 ∃ kd ns ks ok j, V.f k s i = some (kd, i, j, ns, ks, ok, s, j) ∧ i ≤ j ∧ j ≤ s.size ∧ (ok = true → i < j)
def TotE (E : bD) (s : au) (D : Int) : Prop := ∀ (k : Nat) (i : Int), 0 ≤ i → i < s.size → 2 * ((s.size : Int) - i) ≤ D → (s.size : Int) - i + 13 ≤ k →
 ∃ ks ok j, E.f k s i = some (ks, ok, s, j) ∧ i < j ∧ j ≤ s.size
def TotM (M : bF) (s : au) (D : Int) : Prop := ∀ (k : Nat) (i : Int), 0 ≤ i → i < s.size → 2 * ((s.size : Int) - i) ≤ D → (s.size : Int) - i + 13 ≤ k →
 ∃ ns ks ok j, M.f k s i = some (ns, ks, ok, s, j) ∧ i < j ∧ j ≤ s.size
theorem blanks_t (s : au) (hn : Small s) (k : Nat) (i : Int) (h0 : 0 ≤ i) (h1 : i ≤ s.size) (hk : (s.size : Int) - i < k) : ∃ j, aA.f k s i = some (s, j) ∧ i ≤ j ∧ j ≤ s.size := by
 obtain ⟨j, hj, h2, h3, _⟩ := blanks_tot s hn ((s.size : Int) - i).toNat k i h0 h1 (by omega) (by omega)
 exact ⟨j, hj, h2, h3⟩
theorem elems_loop {V : aG} {s : au} (hn : Small s) {D : Int} (hV : TotV V s D) (d : Nat) : ∀ (k : Nat) (x4 : List S31) (i : Int), 0 ≤ i → i ≤ s.size → (s.size : Int) - i ≤ d → d + 14 ≤ k →
  2 * ((s.size : Int) - i) + 1 ≤ D → (x4.length : Int) ≤ i → ∃ ks ok j, aM.l0 V k x4 s i = some (ks, ok, s, j) ∧ i ≤ j ∧ j ≤ s.size := by
 have hn' : s.size ≤ 1048576 := hn
 induction d with
 | zero =>
  intro k x4 i h0 h1 hd hk hD hx
  obtain ⟨k, rfl⟩ : ∃ m, k = m + 1 := ⟨k - 1, by omega⟩
  obtain ⟨kd, ns, ks, ok, j, hj, h2, h3, h4⟩ := hV k i h0 h1 hD (by omega)
  simp only [aM.l0]
  rw [hj]
  simp only [ak]
  cases ok with
  | true => have := h4 rfl; omega
  | false => simp only [Bool.false_eq_true, if_false]; exact ⟨_, _, j, rfl, by omega, h3⟩
 | succ d ih =>
  intro k x4 i h0 h1 hd hk hD hx
  obtain ⟨k, rfl⟩ : ∃ m, k = m + 1 := ⟨k - 1, by omega⟩
  obtain ⟨kd, ns, ks, ok, j, hj, h2, h3, h4⟩ := hV k i h0 h1 hD (by omega)
  simp only [aM.l0]
  rw [hj]
  simp only [ak]
  cases ok with
  | false => simp only [Bool.false_eq_true, if_false]; exact ⟨_, _, j, rfl, by omega, h3⟩
  | true =>
   have h5 := h4 rfl
   simp only [if_true]
   rw [if_pos (by omega)]
   obtain ⟨j1, e1, h6, h7⟩ := blanks_t s hn k j (by omega) h3 (by omega)
   rw [e1]
   simp only [ak]
   obtain ⟨b2, j2, e2, h8, h9, _⟩ := take_tot s hn j1 93 (by omega) h7
   rw [e2]
   simp only [ak]
   cases b2 with
   | true => simp only [if_true]; exact ⟨_, _, j2, rfl, by omega, h9⟩
   | false =>
    simp only [Bool.false_eq_true, if_false]
    obtain ⟨b3, j3, e3, h10, h11, _⟩ := take_tot s hn j2 44 (by omega) h9
    rw [e3]
    simp only [ak]
    cases b3 with
    | false => simp only [Bool.false_eq_true, if_false]; exact ⟨_, _, j3, rfl, by omega, h11⟩
    | true =>
     simp only [if_true]
     obtain ⟨j4, e4, h12, h13⟩ := blanks_t s hn k j3 (by omega) h11 (by omega)
     rw [e4]
     simp only [ak]
     obtain ⟨ks', ok', j5, e5, h14, h15⟩ := ih k (x4 ++ [⟨kd, i, j, ns, ks⟩]) j4 (by omega) h13 (by omega) (by omega) (by omega) Z61
     exact ⟨ks', ok', j5, e5, by omega, h15⟩
theorem elems_tot {V : aG} {s : au} (hn : Small s) {D : Int} (hV : TotV V s D) (k : Nat) (i : Int) (h0 : 0 ≤ i) (h1 : i < s.size) (hD : 2 * ((s.size : Int) - i) ≤ D + 1) (hk : (s.size : Int) - i + 13 ≤ k) :
  ∃ ks ok j, aM.f V k s i = some (ks, ok, s, j) ∧ i < j ∧ j ≤ s.size := by
 have hn' : s.size ≤ 1048576 := hn
 unfold aM.f
 rw [w64 (by omega) (by omega)]
 obtain ⟨j1, e1, h6, h7⟩ := blanks_t s hn k (i + 1) (by omega) (by omega) (by omega)
 rw [e1]
 simp only [ak]
 obtain ⟨b2, j2, e2, h8, h9, _⟩ := take_tot s hn j1 93 (by omega) h7
 rw [e2]
 simp only [ak]
 cases b2 with
 | true => simp only [if_true]; exact ⟨_, _, j2, rfl, by omega, h9⟩
 | false =>
  simp only [Bool.false_eq_true, if_false]
  obtain ⟨ks', ok', j5, e5, h14, h15⟩ := elems_loop hn hV ((s.size : Int) - j2).toNat k [] j2 (by omega) h9 (by omega) (by omega) (by omega) (by simp; omega)
  exact ⟨ks', ok', j5, e5, by omega, h15⟩
theorem mems_end (V : aG) (s : au) (k : Nat) (hk : 1 ≤ k) (x5 : List S93) (x6 : List S31) (x7 i : Int) : aC.j1 V k x5 x6 x7 true s i = some ([], [], false, s, i) := by
 obtain ⟨k, rfl⟩ : ∃ m, k = m + 1 := ⟨k - 1, by omega⟩
 simp only [aC.j1, if_true]
theorem mems_loop {V : aG} {s : au} (hn : Small s) {D : Int} (hV : TotV V s D) (d : Nat) : ∀ (k : Nat) (x5 : List S93) (x6 : List S31) (i : Int), 0 ≤ i → i ≤ s.size → (s.size : Int) - i ≤ d → d + 14 ≤ k →
  2 * ((s.size : Int) - i) + 1 ≤ D → (x5.length : Int) ≤ i → (x6.length : Int) ≤ i → ∃ ns ks ok j, aC.l0 V k x5 x6 s i = some (ns, ks, ok, s, j) ∧ i ≤ j ∧ j ≤ s.size := by
 have hn' : s.size ≤ 1048576 := hn
 induction d using Nat.strongRecOn with
 | _ d ih =>
 intro k x5 x6 i h0 h1 hd hk hD hx hy
 obtain ⟨k, rfl⟩ : ∃ m, k = m + 1 := ⟨k - 1, by omega⟩
 simp only [aC.l0]
 rw [here_eq s i h0]
 simp only [ak]
 by_cases hq : at0 s i = 34
 ·have hi : i < (s.size : Int) := by
   by_cases h : i < (s.size : Int)
   ·exact h
   ·rw [at0_zero h] at hq; omega
  rw [if_pos hq]
  obtain ⟨b, j, ej, h2, h3⟩ := quoted_tot s hn k i h0 hi (by omega)
  rw [ej]
  simp only [ak]
  cases b with
  | false => simp only [Bool.not_false]; rw [mems_end V s k (by omega)]; exact ⟨_, _, _, j, rfl, by omega, h3⟩
  | true =>
   obtain ⟨k, rfl⟩ : ∃ m, k = m + 1 := ⟨k - 1, by omega⟩
   simp only [aC.j1, Bool.not_true, Bool.false_eq_true, if_false]
   rw [if_pos (by omega)]
   simp only [ak]
   obtain ⟨j1, e1, h4, h5⟩ := blanks_t s hn k j (by omega) h3 (by omega)
   rw [e1]
   simp only [ak]
   obtain ⟨b2, j2, e2, h6, h7, h6t, _⟩ := take_tot s hn j1 58 (by omega) h5
   rw [e2]
   simp only [ak]
   cases b2 with
   | false => simp only [Bool.false_eq_true, if_false]; exact ⟨_, _, _, j2, rfl, by omega, h7⟩
   | true =>
    have := (h6t rfl).1
    simp only [if_true]
    obtain ⟨j3, e3, h8, h9⟩ := blanks_t s hn k j2 (by omega) h7 (by omega)
    rw [e3]
    simp only [ak]
    obtain ⟨kd, ns, ks, ok, j4, e4, h10, h11, h12⟩ := hV k j3 (by omega) h9 (by omega) (by omega)
    rw [e4]
    simp only [ak]
    cases ok with
    | false => simp only [Bool.false_eq_true, if_false]; exact ⟨_, _, _, j4, rfl, by omega, h11⟩
    | true =>
     have := h12 rfl
     simp only [if_true]
     rw [if_pos (by omega)]
     obtain ⟨j5, e5, h13, h14⟩ := blanks_t s hn k j4 (by omega) h11 (by omega)
     rw [e5]
     simp only [ak]
     obtain ⟨b6, j6, e6, h15, h16, _⟩ := take_tot s hn j5 125 (by omega) h14
     rw [e6]
     simp only [ak]
     cases b6 with
     | true => simp only [if_true]; exact ⟨_, _, _, j6, rfl, by omega, h16⟩
     | false =>
      simp only [Bool.false_eq_true, if_false]
      obtain ⟨b7, j7, e7, h17, h18, _⟩ := take_tot s hn j6 44 (by omega) h16
      rw [e7]
      simp only [ak]
      cases b7 with
      | false => simp only [Bool.false_eq_true, if_false]; exact ⟨_, _, _, j7, rfl, by omega, h18⟩
      | true =>
       simp only [if_true]
       obtain ⟨j8, e8, h19, h20⟩ := blanks_t s hn k j7 (by omega) h18 (by omega)
       rw [e8]
       simp only [ak]
       obtain ⟨ns', ks', ok', j9, e9, h21, h22⟩ := ih (d - 2) (by omega) k (x5 ++ [⟨i, j⟩]) (x6 ++ [⟨kd, j3, j4, ns, ks⟩]) j8 (by omega) h20 (by omega) (by omega) (by omega)
        Z61 Z61
       exact ⟨ns', ks', ok', j9, e9, by omega, h22⟩
 ·rw [if_neg hq, mems_end V s k (by omega)]
  exact ⟨_, _, _, i, rfl, by omega, h1⟩
theorem mems_tot {V : aG} {s : au} (hn : Small s) {D : Int} (hV : TotV V s D) (k : Nat) (i : Int) (h0 : 0 ≤ i) (h1 : i < s.size) (hD : 2 * ((s.size : Int) - i) ≤ D + 1) (hk : (s.size : Int) - i + 13 ≤ k) :
  ∃ ns ks ok j, aC.f V k s i = some (ns, ks, ok, s, j) ∧ i < j ∧ j ≤ s.size := by
 have hn' : s.size ≤ 1048576 := hn
 unfold aC.f
 rw [w64 (by omega) (by omega)]
 obtain ⟨j1, e1, h6, h7⟩ := blanks_t s hn k (i + 1) (by omega) (by omega) (by omega)
 rw [e1]
 simp only [ak]
 obtain ⟨b2, j2, e2, h8, h9, _⟩ := take_tot s hn j1 125 (by omega) h7
 rw [e2]
 simp only [ak]
 cases b2 with
 | true => simp only [if_true]; exact ⟨_, _, _, j2, rfl, by omega, h9⟩
 | false =>
  simp only [Bool.false_eq_true, if_false]
  obtain ⟨ns', ks', ok', j5, e5, h14, h15⟩ := mems_loop hn hV ((s.size : Int) - j2).toNat k [] [] j2 (by omega) h9 (by omega) (by omega) (by omega) (by simp; omega) (by simp; omega)
  exact ⟨ns', ks', ok', j5, e5, by omega, h15⟩
theorem word_t (s : au) (hn : Small s) (i : Int) (h0 : 0 ≤ i) (h1 : i ≤ s.size) (w : au) (hw : w.size ≤ 8) (hw0 : 0 < w.size) :
  ∃ b j, bH.f s i w = some (b, s, j) ∧ i ≤ j ∧ j ≤ s.size ∧ (b = true → i < j) ∧ (b = false → j = i) := by
 obtain ⟨b, j, e, h2, h3, h4⟩ := word_tot s hn i h0 h1 w hw
 cases b with
 | true => have := (h3 rfl).1; exact ⟨true, j, e, by omega, h2, (fun _ => by omega), fun e => by cases e⟩
 | false => have := h4 rfl; exact ⟨false, j, e, by omega, h2, (fun e => by cases e), h4⟩
theorem value0_tot (M : bF) (E : bD) (s : au) (hn : Small s) (k : Nat) (b : Bool) (i : Int) (h0 : 0 ≤ i) (h1 : i ≤ s.size) (hk : (s.size : Int) - i + 8 ≤ k) :
  ∃ kd ns ks ok j, aH.j0 M E k true b s i 0 i 0 = some (kd, i, j, ns, ks, ok, s, j) ∧ i ≤ j ∧ j ≤ s.size ∧ (ok = true → i < j) := by
 obtain ⟨k, rfl⟩ : ∃ m, k = m + 1 := ⟨k - 1, by omega⟩
 simp only [aH.j0]
 cases b with
 | true =>
  simp only [if_true]
  obtain ⟨b1, j1, e1, h2, h3, h4⟩ := number_tot s hn k i h0 h1 (by omega)
  rw [e1]
  exact ⟨3, [], [], b1, j1, rfl, h2, h3, h4⟩
 | false =>
  simp only [Bool.false_eq_true, if_false]
  obtain ⟨b1, j1, e1, h2, h3, h4, h4f⟩ := word_t s hn i h0 h1 ⟨#[110, 117, 108, 108]⟩ (by decide) (by decide)
  rw [e1]
  simp only [ak]
  cases b1 with
  | true => simp only [if_true]; exact ⟨0, [], [], true, j1, rfl, h2, h3, fun _ => h4 rfl⟩
  | false =>
   simp only [Bool.false_eq_true, if_false]
   obtain rfl := h4f rfl
   obtain ⟨b2, j2, e2, h5, h6, h7, h7f⟩ := word_t s hn j1 h0 h1 ⟨#[102, 97, 108, 115, 101]⟩ (by decide) (by decide)
   rw [e2]
   simp only [ak]
   cases b2 with
   | true => simp only [if_true]; exact ⟨1, [], [], true, j2, rfl, h5, h6, fun _ => h7 rfl⟩
   | false =>
    simp only [Bool.false_eq_true, if_false]
    obtain rfl := h7f rfl
    obtain ⟨b3, j3, e3, h8, h9, h10, h10f⟩ := word_t s hn j2 h0 h1 ⟨#[116, 114, 117, 101]⟩ (by decide) (by decide)
    rw [e3]
    simp only [ak]
    cases b3 with
    | true => simp only [if_true]; exact ⟨2, [], [], true, j3, rfl, h8, h9, fun _ => h10 rfl⟩
    | false => simp only [Bool.false_eq_true, if_false]; exact ⟨0, [], [], false, j3, rfl, h8, h9, fun e => by cases e⟩
theorem value_tot {M : bF} {E : bD} {s : au} (hn : Small s) {D : Int} (hM : TotM M s D) (hE : TotE E s D) (k : Nat) (i : Int) (h0 : 0 ≤ i) (h1 : i ≤ s.size) (hD : 2 * ((s.size : Int) - i) ≤ D) (hk : (s.size : Int) - i + 13 ≤ k) :
  ∃ kd ns ks ok j, aH.f M E k s i = some (kd, i, j, ns, ks, ok, s, j) ∧ i ≤ j ∧ j ≤ s.size ∧ (ok = true → i < j) := by
 unfold aH.f
 rw [here_eq s i h0]
 simp only [ak]
 by_cases hi : i < (s.size : Int)
 ·by_cases c1 : at0 s i = 123
  ·rw [if_pos c1]
   obtain ⟨ns, ks, ok, j, e, h2, h3⟩ := hM k i h0 hi hD (by omega)
   rw [e]
   exact ⟨6, ns, ks, ok, j, rfl, by omega, h3, fun _ => h2⟩
  ·rw [if_neg c1]
   by_cases c2 : at0 s i = 91
   ·rw [if_pos c2]
    obtain ⟨ks, ok, j, e, h2, h3⟩ := hE k i h0 hi hD (by omega)
    rw [e]
    exact ⟨5, [], ks, ok, j, rfl, by omega, h3, fun _ => h2⟩
   ·rw [if_neg c2]
    by_cases c3 : at0 s i = 34
    ·rw [if_pos c3]
     obtain ⟨b, j, e, h2, h3⟩ := quoted_tot s hn k i h0 hi (by omega)
     rw [e]
     exact ⟨4, [], [], b, j, rfl, by omega, h3, fun _ => h2⟩
    ·rw [if_neg c3]
     repeat' split
     all_goals exact value0_tot M E s hn k _ i h0 h1 (by omega)
 ·rw [at0_zero hi, if_neg (by decide), if_neg (by decide), if_neg (by decide), if_neg (by decide), if_neg (by decide)]
  exact value0_tot M E s hn k _ i h0 h1 (by omega)
theorem reader_tots {s : au} (hn : Small s) : ∀ D : Nat, TotV (aH.at_ D) s D ∧ TotE (aM.at_ D) s D ∧ TotM (aC.at_ D) s D
 | 0 => ⟨fun k i h0 h1 hD => by omega, fun k i h0 h1 hD => by omega, fun k i h0 h1 hD => by omega⟩
 | D + 1 => by
  obtain ⟨hV, hE, hM⟩ := reader_tots hn D
  refine ⟨fun k i h0 h1 hD hk => ?_, fun k i h0 h1 hD hk => ?_, fun k i h0 h1 hD hk => ?_⟩
  ·exact value_tot hn hM hE k i h0 h1 (by omega) hk
  ·exact elems_tot hn hV k i h0 h1 (by omega) hk
  ·exact mems_tot hn hV k i h0 h1 (by omega) hk
end Go.Proofs.YtmpdhdnoohmndaaGreatDoor.Sp
namespace Go.Proofs.YtmpdhdnoohmndaaGreatDoor.Sp
open Go.RowKit Go.Proofs.YtmpdhdnoohmndaaGreatDoorW.PrintWords Go.Proofs.YtmpdhdnoohmndaaGreatDoorW.PrintLast Go.Proofs.YtmpdhdnoohmndaaGreatDoorW.PrintMore
set_option linter.unusedVariables false
def seg (x : List Int) (i j : Int) : List Int := (x.take j.toNat).drop i.toNat
theorem seg_len (x : List Int) (i j : Int) (h0 : 0 ≤ i) (h1 : i ≤ j) (h2 : j ≤ x.length) : ((seg x i j).length : Int) = j - i := by
 unfold seg
 rw [List.length_drop, List.length_take]
 omega
def Run (x : List Int) (s q m : Int) : Prop := s ≤ m ∧ m < q ∧ (∀ p, m < p → p < q → rd x p = 92) ∧ (m = s ∨ rd x m ≠ 92)
theorem Run.unique {x : List Int} {s q m m' : Int} (h : Run x s q m) (h' : Run x s q m') : m = m' := by
 obtain ⟨a, b, c, d⟩ := h
 obtain ⟨a', b', c', d'⟩ := h'
 by_cases h1 : m < m'
 ·have := c m' h1 b'
  rcases d' with d' | d'
  ·omega
  ·exact absurd this d'
 ·by_cases h2 : m' < m
  ·have := c' m h2 b
   rcases d with d | d
   ·omega
   ·exact absurd this d
  ·omega
def Closes (x : List Int) (s q : Int) : Prop := rd x q = 34 ∧ ∃ m, Run x s q m ∧ (q - 1 - m) % 2 = 0
theorem word_seg (s w : au) (i : Int) (h0 : 0 ≤ i) (h : (s.extract i.toNat (i + w.size).toNat).toList = w.toList) : seg (bytesOf s) i (i + w.size) = bytesOf w := by
 rw [Go.Lib.extract_toList, Go.Lib.toList_data] at h
 unfold seg bytesOf
 rw [List.drop_take, ← List.map_drop, ← List.map_take, h]
end Go.Proofs.YtmpdhdnoohmndaaGreatDoor.Sp
namespace Go.Proofs.YtmpdhdnoohmndaaGreatDoor.Sp
open Go.RowKit Go.Proofs.YtmpdhdnoohmndaaGreatDoorW.PrintWords Go.Proofs.YtmpdhdnoohmndaaGreatDoorW.PrintLast Go.Proofs.YtmpdhdnoohmndaaGreatDoorW.PrintMore
set_option linter.unusedVariables false
def Blanks (s : au) (i j : Int) : Prop := i ≤ j ∧ j ≤ s.size ∧ ∀ p, i ≤ p → p < j → isBlank (bt s p)
theorem blank_inv {c : Int} (h : bV.f c = some true) : isBlank c := by
 by_cases hb : isBlank c
 ·exact hb
 ·rw [blank_false hb] at h; simp at h
theorem blanks_inv (s : au) (hn : Small s) : ∀ (k : Nat) (i : Int) (s' : au) (j : Int), 0 ≤ i → i ≤ s.size → aA.f k s i = some (s', j) → s' = s ∧ Blanks s i j
 | 0, i, s', j, h0, h1, h => by simp [aA.f, aA.l0] at h
 | k + 1, i, s', j, h0, h1, h => by
  have hn' : s.size ≤ 1048576 := hn
  unfold aA.f at h
  rw [aA.l0] at h
  by_cases c1 : i < (s.size : Int)
  ·rw [if_pos c1, if_pos h0] at h
   replace h := an h
   obtain ⟨b, hb, h⟩ := h
   cases b with
   | true =>
    rw [if_pos rfl, w64 (by omega) (by omega)] at h
    obtain ⟨e, g1, g2, g3⟩ := blanks_inv s hn k (i + 1) s' j (by omega) (by omega) h
    refine ⟨e, by omega, g2, fun p h2 h3 => ?_⟩
    by_cases h4 : p = i
    ·subst h4; exact blank_inv hb
    ·exact g3 p (by omega) h3
   | false =>
    rw [if_neg (by decide)] at h
    simp only [al, am] at h
    exact ⟨h.1.symm, by omega, by omega, fun p h2 h3 => by omega⟩
  ·rw [if_neg c1] at h
   simp only [al, am] at h
   exact ⟨h.1.symm, by omega, by omega, fun p h2 h3 => by omega⟩
theorem take_inv {s : au} (hn : Small s) {i c : Int} {b : Bool} {s' : au} {j : Int} (h0 : 0 ≤ i) (h1 : i ≤ s.size) (h : aK.f s i c = some (b, s', j)) :
  s' = s ∧ ((b = true ∧ i < s.size ∧ bt s i = c ∧ j = i + 1) ∨ (b = false ∧ j = i)) := by
 obtain ⟨b', j', e, g1, g2, g3, g4⟩ := take_tot s hn i c h0 h1
 rw [e] at h
 simp only [al, am] at h
 obtain ⟨rfl, rfl, rfl⟩ := h
 refine ⟨rfl, ?_⟩
 cases b' with
 | true => obtain ⟨a1, a2, a3⟩ := g3 rfl; exact .inl ⟨rfl, a2, a3, a1⟩
 | false => exact .inr ⟨rfl, (g4 rfl).1⟩
theorem word_inv {s : au} (hn : Small s) {i : Int} {w : au} {b : Bool} {s' : au} {j : Int} (h0 : 0 ≤ i) (h1 : i ≤ s.size) (hw : w.size ≤ 8) (h : bH.f s i w = some (b, s', j)) :
  s' = s ∧ ((b = true ∧ j = i + w.size ∧ j ≤ s.size ∧ seg (bytesOf s) i j = bytesOf w) ∨ (b = false ∧ j = i)) := by
 obtain ⟨b', j', e, g1, g2, g3⟩ := word_tot s hn i h0 h1 w hw
 rw [e] at h
 simp only [al, am] at h
 obtain ⟨rfl, rfl, rfl⟩ := h
 refine ⟨rfl, ?_⟩
 cases b' with
 | true => obtain ⟨a1, a2⟩ := g2 rfl; exact .inl ⟨rfl, a1, g1, by rw [a1]; exact word_seg s w i h0 a2⟩
 | false => exact .inr ⟨rfl, g3 rfl⟩
def NumCh (c : Int) : Prop := (48 ≤ c ∧ c ≤ 57) ∨ c = 43 ∨ c = 45 ∨ c = 46 ∨ c = 69 ∨ c = 101
def NumSeg (s : au) (i j : Int) : Prop := i ≤ j ∧ j ≤ s.size ∧ ∀ p, i ≤ p → p < j → NumCh (bt s p)
theorem NumSeg.refl {s : au} {i : Int} (h : i ≤ s.size) : NumSeg s i i := ⟨by omega, h, fun p h1 h2 => by omega⟩
theorem NumSeg.one {s : au} {i : Int} (h : i < s.size) (hc : NumCh (bt s i)) : NumSeg s i (i + 1) := ⟨by omega, by omega, fun p h1 h2 => by have e : p = i := (by omega); rw [e]; exact hc⟩
theorem NumSeg.trans {s : au} {i j k : Int} (h : NumSeg s i j) (h' : NumSeg s j k) : NumSeg s i k :=
 ⟨Int.le_trans h.1 h'.1, h'.2.1, fun p h1 h2 => by by_cases h3 : p < j; exact h.2.2 p h1 h3; exact h'.2.2 p (by omega) h2⟩
theorem take_num {s : au} (hn : Small s) {i c : Int} {b : Bool} {s' : au} {j : Int} (h0 : 0 ≤ i) (h1 : i ≤ s.size) (hc : NumCh c) (h : aK.f s i c = some (b, s', j)) : s' = s ∧ NumSeg s i j ∧ 0 ≤ j := by
 obtain ⟨e, g | g⟩ := take_inv hn h0 h1 h
 ·obtain ⟨g1, g2, g3, rfl⟩ := g
  exact ⟨e, NumSeg.one g2 (by rw [g3]; exact hc), by omega⟩
 ·obtain ⟨g1, rfl⟩ := g
  exact ⟨e, NumSeg.refl h1, h0⟩
theorem digits_l (s : au) (hn : Small s) (b : Int) : ∀ (k : Nat) (i : Int) (r : Bool) (s' : au) (j : Int), 0 ≤ i → i ≤ s.size → aN.l0 k b (at0 s i) s i = some (r, s', j) → s' = s ∧ NumSeg s i j
 | 0, i, r, s', j, h0, h1, h => by simp [aN.l0] at h
 | k + 1, i, r, s', j, h0, h1, h => by
  have hn' : s.size ≤ 1048576 := hn
  rw [aN.l0] at h
  by_cases hi : i < (s.size : Int)
  ·by_cases c1 : 48 ≤ at0 s i
   ·by_cases c2 : at0 s i ≤ 57
    ·rw [if_pos c1, if_pos c2, w64 (by omega) (by omega), here_eq s (i + 1) (by omega)] at h
     simp only [ak] at h
     obtain ⟨e, g⟩ := digits_l s hn b k (i + 1) r s' j (by omega) (by omega) h
     rw [at0_at hi] at c1 c2
     exact ⟨e, (NumSeg.one hi (.inl ⟨c1, c2⟩)).trans g⟩
    ·rw [if_pos c1, if_neg c2] at h
     simp only [al, am] at h
     obtain ⟨_, e, rfl⟩ := h
     exact ⟨e.symm, NumSeg.refl h1⟩
   ·rw [if_neg c1] at h
    simp only [al, am] at h
    obtain ⟨_, e, rfl⟩ := h
    exact ⟨e.symm, NumSeg.refl h1⟩
  ·rw [at0_zero hi, if_neg (by decide)] at h
   simp only [al, am] at h
   obtain ⟨_, e, rfl⟩ := h
   exact ⟨e.symm, NumSeg.refl h1⟩
theorem digits_inv {s : au} (hn : Small s) {k : Nat} {i : Int} {r : Bool} {s' : au} {j : Int} (h0 : 0 ≤ i) (h1 : i ≤ s.size) (h : aN.f k s i = some (r, s', j)) : s' = s ∧ NumSeg s i j ∧ 0 ≤ j := by
 unfold aN.f at h
 rw [here_eq s i h0] at h
 simp only [ak] at h
 obtain ⟨e, g⟩ := digits_l s hn i k i r s' j h0 h1 h
 exact ⟨e, g, by have := g.1; omega⟩
theorem num2_inv {s : au} (hn : Small s) {k : Nat} {b : Bool} {i : Int} {r : Bool} {s' : au} {j : Int} (h0 : 0 ≤ i) (h1 : i ≤ s.size) (h : aD.j2 k b s i = some (r, s', j)) : s' = s ∧ NumSeg s i j := by
 cases k with
 | zero => simp [aD.j2] at h
 | succ k =>
  rw [aD.j2] at h
  cases b with
  | false =>
   rw [if_neg (by decide)] at h
   simp only [al, am] at h
   obtain ⟨_, e, rfl⟩ := h
   exact ⟨e.symm, NumSeg.refl h1⟩
  | true =>
   rw [if_pos rfl] at h
   replace h := an h
   obtain ⟨⟨b1, s1, j1⟩, e1, h⟩ := h
   obtain ⟨rfl, g1, z1⟩ := take_num hn h0 h1 (by unfold NumCh; omega) e1
   try dsimp only at h
   cases b1 with
   | true =>
    rw [if_pos rfl] at h
    replace h := an h
    obtain ⟨⟨b2, s2, j2⟩, e2, h⟩ := h
    obtain ⟨rfl, g2, z2⟩ := digits_inv hn z1 g1.2.1 e2
    simp only [al, am] at h
    obtain ⟨_, e, rfl⟩ := h
    exact ⟨e.symm, g1.trans g2⟩
   | false =>
    rw [if_neg (by decide)] at h
    replace h := an h
    obtain ⟨⟨b3, s3, j3⟩, e3, h⟩ := h
    obtain ⟨rfl, g3, z3⟩ := take_num hn z1 g1.2.1 (by unfold NumCh; omega) e3
    try dsimp only at h
    replace h := an h
    obtain ⟨⟨b2, s2, j2⟩, e2, h⟩ := h
    obtain ⟨rfl, g2, z2⟩ := digits_inv hn z3 g3.2.1 e2
    simp only [al, am] at h
    obtain ⟨_, e, rfl⟩ := h
    exact ⟨e.symm, (g1.trans g3).trans g2⟩
theorem num1_inv {s : au} (hn : Small s) {k : Nat} {b : Bool} {i : Int} {r : Bool} {s' : au} {j : Int} (h0 : 0 ≤ i) (h1 : i ≤ s.size) (h : aD.j1 k b s i = some (r, s', j)) : s' = s ∧ NumSeg s i j := by
 cases k with
 | zero => simp [aD.j1] at h
 | succ k =>
  rw [aD.j1] at h
  cases b with
  | true =>
   rw [if_pos rfl] at h
   simp only [al, am] at h
   obtain ⟨_, e, rfl⟩ := h
   exact ⟨e.symm, NumSeg.refl h1⟩
  | false =>
   rw [if_neg (by decide)] at h
   replace h := an h
   obtain ⟨⟨b1, s1, j1⟩, e1, h⟩ := h
   obtain ⟨rfl, g1, z1⟩ := take_num hn h0 h1 (by unfold NumCh; omega) e1
   try dsimp only at h
   cases b1 with
   | true =>
    rw [if_pos rfl] at h
    obtain ⟨e, g2⟩ := num2_inv hn z1 g1.2.1 h
    exact ⟨e, g1.trans g2⟩
   | false =>
    rw [if_neg (by decide)] at h
    replace h := an h
    obtain ⟨⟨b3, s3, j3⟩, e3, h⟩ := h
    obtain ⟨rfl, g3, z3⟩ := take_num hn z1 g1.2.1 (by unfold NumCh; omega) e3
    obtain ⟨e, g2⟩ := num2_inv hn z3 g3.2.1 h
    exact ⟨e, (g1.trans g3).trans g2⟩
theorem num0_inv {s : au} (hn : Small s) {k : Nat} {b : Bool} {i : Int} {r : Bool} {s' : au} {j : Int} (h0 : 0 ≤ i) (h1 : i ≤ s.size) (h : aD.j0 k b s i = some (r, s', j)) : s' = s ∧ NumSeg s i j := by
 cases k with
 | zero => simp [aD.j0] at h
 | succ k =>
  rw [aD.j0] at h
  cases b with
  | true =>
   rw [if_pos rfl] at h
   simp only [al, am] at h
   obtain ⟨_, e, rfl⟩ := h
   exact ⟨e.symm, NumSeg.refl h1⟩
  | false =>
   rw [if_neg (by decide)] at h
   replace h := an h
   obtain ⟨⟨b1, s1, j1⟩, e1, h⟩ := h
   obtain ⟨rfl, g1, z1⟩ := take_num hn h0 h1 (by unfold NumCh; omega) e1
   try dsimp only at h
   cases b1 with
   | true =>
    rw [if_pos rfl] at h
    replace h := an h
    obtain ⟨⟨b2, s2, j2⟩, e2, h⟩ := h
    obtain ⟨rfl, g2, z2⟩ := digits_inv hn z1 g1.2.1 e2
    obtain ⟨e, g3⟩ := num1_inv hn z2 g2.2.1 h
    exact ⟨e, (g1.trans g2).trans g3⟩
   | false =>
    rw [if_neg (by decide)] at h
    obtain ⟨e, g2⟩ := num1_inv hn z1 g1.2.1 h
    exact ⟨e, g1.trans g2⟩
theorem number_inv {s : au} (hn : Small s) {k : Nat} {i : Int} {r : Bool} {s' : au} {j : Int} (h0 : 0 ≤ i) (h1 : i ≤ s.size) (h : aD.f k s i = some (r, s', j)) : s' = s ∧ NumSeg s i j := by
 unfold aD.f at h
 replace h := an h
 obtain ⟨⟨b1, s1, j1⟩, e1, h⟩ := h
 obtain ⟨rfl, g1, z1⟩ := take_num hn h0 h1 (by unfold NumCh; omega) e1
 try dsimp only at h
 replace h := an h
 obtain ⟨⟨b2, s2, j2⟩, e2, h⟩ := h
 obtain ⟨rfl, g2, z2⟩ := take_num hn z1 g1.2.1 (by unfold NumCh; omega) e2
 try dsimp only at h
 cases b2 with
 | true =>
  rw [if_pos rfl] at h
  obtain ⟨e, g3⟩ := num0_inv hn z2 g2.2.1 h
  exact ⟨e, (g1.trans g2).trans g3⟩
 | false =>
  rw [if_neg (by decide)] at h
  replace h := an h
  obtain ⟨⟨b3, s3, j3⟩, e3, h⟩ := h
  obtain ⟨rfl, g3, z3⟩ := digits_inv hn z2 g2.2.1 e3
  obtain ⟨e, g4⟩ := num0_inv hn z3 g3.2.1 h
  exact ⟨e, ((g1.trans g2).trans g3).trans g4⟩
end Go.Proofs.YtmpdhdnoohmndaaGreatDoor.Sp
namespace Go.Proofs.YtmpdhdnoohmndaaGreatDoor.Sp
open Go.RowKit Go.Proofs.YtmpdhdnoohmndaaGreatDoorW.PrintWords Go.Proofs.YtmpdhdnoohmndaaGreatDoorW.PrintLast Go.Proofs.YtmpdhdnoohmndaaGreatDoorW.PrintMore
set_option linter.unusedVariables false
def HexCh (c : Int) : Prop := (48 ≤ c ∧ c ≤ 57) ∨ (97 ≤ c ∧ c ≤ 102) ∨ (65 ≤ c ∧ c ≤ 70)
theorem hex_inv {k : Nat} {c v : Int} (h : aQ.f k c = some (v, true)) : HexCh c := by
 unfold aQ.f at h
 unfold HexCh
 have j0 : ∀ k b, (b = true → 48 ≤ c ∧ c ≤ 57) → aQ.j0 k c b = some (v, true) → (48 ≤ c ∧ c ≤ 57) ∨ (97 ≤ c ∧ c ≤ 102) ∨ (65 ≤ c ∧ c ≤ 70) := by
  intro k b hb h
  cases k with
  | zero => simp [aQ.j0] at h
  | succ k =>
   rw [aQ.j0] at h
   cases b with
   | true => exact .inl (hb rfl)
   | false =>
    rw [if_neg (by decide)] at h
    have j1 : ∀ b, (b = true → 97 ≤ c ∧ c ≤ 102) → aQ.j1 k c b = some (v, true) → (97 ≤ c ∧ c ≤ 102) ∨ (65 ≤ c ∧ c ≤ 70) := by
     intro b hb h
     cases k with
     | zero => simp [aQ.j1] at h
     | succ k =>
      rw [aQ.j1] at h
      cases b with
      | true => exact .inl (hb rfl)
      | false =>
       rw [if_neg (by decide)] at h
       by_cases c1 : 65 ≤ c
       ·by_cases c2 : c ≤ 70
        ·exact .inr ⟨c1, c2⟩
        ·rw [if_pos c1, if_neg c2] at h; simp at h
       ·rw [if_neg c1] at h; simp at h
    by_cases c1 : 97 ≤ c
    ·rw [if_pos c1] at h; exact .inr (j1 _ (fun e => ⟨c1, ab e⟩) h)
    ·rw [if_neg c1] at h; exact .inr (j1 _ (fun e => by cases e) h)
 by_cases c1 : 48 ≤ c
 ·rw [if_pos c1] at h; exact j0 _ _ (fun e => ⟨c1, ab e⟩) h
 ·rw [if_neg c1] at h; exact j0 _ _ (fun e => by cases e) h
theorem esc_l (s : au) (hn : Small s) : ∀ (k : Nat) (q i : Int) (s' : au) (j : Int), 0 ≤ i → i ≤ s.size → 0 ≤ q → q ≤ 4 → aE.l0 k q s i = some (true, s', j) →
  s' = s ∧ j = i + (4 - q) ∧ j ≤ s.size ∧ ∀ p, i ≤ p → p < j → HexCh (bt s p)
 | 0, q, i, s', j, h0, h1, h2, h3, h => by simp [aE.l0] at h
 | k + 1, q, i, s', j, h0, h1, h2, h3, h => by
  have hn' : s.size ≤ 1048576 := hn
  rw [aE.l0] at h
  by_cases c1 : q < 4
  ·rw [if_pos c1, here_eq s i h0] at h
   simp only [ak] at h
   replace h := an h
   obtain ⟨⟨v, b⟩, e1, h⟩ := h
   dsimp only at h
   cases b with
   | false => rw [if_neg (by decide)] at h; simp at h
   | true =>
    have hx := hex_inv e1
    have hi : i < (s.size : Int) := by
     by_cases hi : i < (s.size : Int)
     ·exact hi
     ·rw [at0_zero hi] at hx; unfold HexCh at hx; omega
    rw [at0_at hi] at hx
    rw [if_pos rfl, w64 (by omega) (by omega), w64 (by omega) (by omega)] at h
    obtain ⟨g1, g2, g3, g4⟩ := esc_l s hn k (q + 1) (i + 1) s' j (by omega) (by omega) (by omega) (by omega) h
    refine ⟨g1, by omega, g3, fun p h5 h6 => ?_⟩
    by_cases h7 : p = i
    ·rw [h7]; exact hx
    ·exact g4 p (by omega) h6
  ·rw [if_neg c1] at h
   simp only [al, am] at h
   obtain ⟨_, rfl, rfl⟩ := h
   exact ⟨rfl, by omega, h1, fun p h5 h6 => by omega⟩
def Esc1 (c : Int) : Prop := c = 34 ∨ c = 92 ∨ c = 47 ∨ c = 98 ∨ c = 102 ∨ c = 110 ∨ c = 114 ∨ c = 116
theorem escape_inv {s : au} (hn : Small s) {k : Nat} {i : Int} {s' : au} {j : Int} (h0 : 0 ≤ i) (h1 : i ≤ s.size) (h : aE.f k s i = some (true, s', j)) :
  s' = s ∧ i < s.size ∧ j ≤ s.size ∧ ((Esc1 (bt s i) ∧ j = i + 1) ∨ (bt s i = 117 ∧ j = i + 5 ∧ ∀ p, i + 1 ≤ p → p < j → HexCh (bt s p))) := by
 have hn' : s.size ≤ 1048576 := hn
 unfold aE.f at h
 rw [here_eq s i h0] at h
 simp only [ak] at h
 have key : ∀ (k : Nat) (b : Bool), (b = true → Esc1 (at0 s i)) → aE.j0 k (at0 s i) b s i = some (true, s', j) → s' = s ∧ i < s.size ∧ j ≤ s.size ∧ ((Esc1 (bt s i) ∧ j = i + 1) ∨ (bt s i = 117 ∧ j = i + 5 ∧ ∀ p, i + 1 ≤ p → p < j → HexCh (bt s p))) := by
  intro k b hb h
  have hlt : at0 s i ≠ 0 → i < (s.size : Int) := by
   intro h2
   by_cases hi : i < (s.size : Int)
   ·exact hi
   ·exact absurd (at0_zero hi) h2
  cases k with
  | zero => simp [aE.j0] at h
  | succ k =>
   rw [aE.j0] at h
   cases b with
   | true =>
    have he := hb rfl
    have hi := hlt (by unfold Esc1 at he; omega)
    rw [if_pos rfl, w64 (by omega) (by omega)] at h
    rw [at0_at hi] at he
    simp only [al, am] at h
    obtain ⟨_, rfl, rfl⟩ := h
    exact ⟨rfl, hi, by omega, .inl ⟨he, rfl⟩⟩
   | false =>
    rw [if_neg (by decide)] at h
    by_cases c1 : at0 s i = 117
    ·have hi := hlt (by omega)
     rw [if_pos c1, w64 (by omega) (by omega)] at h
     rw [at0_at hi] at c1
     obtain ⟨g1, g2, g3, g4⟩ := esc_l s hn k 0 (i + 1) s' j (by omega) (by omega) (by omega) (by omega) h
     exact ⟨g1, hi, g3, .inr ⟨c1, by omega, g4⟩⟩
    ·rw [if_neg c1] at h; simp at h
 have nz : ∀ c : Int, Esc1 c → ((at0 s i == c) = true → Esc1 (at0 s i)) := fun c hc e => by rw [beq_iff_eq.mp e]; exact hc
 by_cases c1 : at0 s i = 34
 ·rw [if_pos c1] at h; exact key k _ (nz 34 (by unfold Esc1; omega)) h
 ·rw [if_neg c1] at h
  by_cases c2 : at0 s i = 92
  ·rw [if_pos c2] at h; exact key k _ (nz 92 (by unfold Esc1; omega)) h
  ·rw [if_neg c2] at h
   by_cases c3 : at0 s i = 47
   ·rw [if_pos c3] at h; exact key k _ (nz 47 (by unfold Esc1; omega)) h
   ·rw [if_neg c3] at h
    by_cases c4 : at0 s i = 98
    ·rw [if_pos c4] at h; exact key k _ (nz 98 (by unfold Esc1; omega)) h
    ·rw [if_neg c4] at h
     by_cases c5 : at0 s i = 102
     ·rw [if_pos c5] at h; exact key k _ (nz 102 (by unfold Esc1; omega)) h
     ·rw [if_neg c5] at h
      by_cases c6 : at0 s i = 110
      ·rw [if_pos c6] at h; exact key k _ (nz 110 (by unfold Esc1; omega)) h
      ·rw [if_neg c6] at h
       by_cases c7 : at0 s i = 114
       ·rw [if_pos c7] at h; exact key k _ (nz 114 (by unfold Esc1; omega)) h
       ·rw [if_neg c7] at h; exact key k _ (nz 116 (by unfold Esc1; omega)) h
inductive Body (x : List Int) : Int → Int → Prop
 | done (i : Int) : rd x i = 34 → Body x i i
 | plain (i e : Int) : 32 ≤ rd x i → rd x i ≠ 34 → rd x i ≠ 92 → Body x (i + 1) e → Body x i e
 | esc (i e : Int) : rd x i = 92 → Esc1 (rd x (i + 1)) → Body x (i + 2) e → Body x i e
 | uni (i e : Int) : rd x i = 92 → rd x (i + 1) = 117 → (∀ p, i + 2 ≤ p → p < i + 6 → HexCh (rd x p)) → Body x (i + 6) e → Body x i e
def StrSeg (x : List Int) (i j : Int) : Prop := rd x i = 34 ∧ i + 1 < j ∧ j ≤ x.length ∧ Closes x i (j - 1) ∧ (∀ q, i + 1 ≤ q → q < j - 1 → ¬ Closes x i q) ∧ Body x (i + 1) (j - 1)
theorem not_closes {x : List Int} {s q m : Int} (h : Run x s q m) (hp : (q - 1 - m) % 2 = 1) : ¬ Closes x s q := by
 rintro ⟨_, m', h1, h2⟩
 have := h.unique h1
 subst this
 omega
theorem quoted_l (s : au) (hn : Small s) (s0 : Int) (hs0 : 0 ≤ s0) : ∀ (k : Nat) (i m : Int) (s' : au) (j : Int), s0 < i → i ≤ s.size → Run (bytesOf s) s0 i m → (i - 1 - m) % 2 = 0 → aV.l0 k s i = some (true, s', j) →
  s' = s ∧ i < j ∧ j ≤ s.size ∧ Closes (bytesOf s) s0 (j - 1) ∧ (∀ q, i ≤ q → q < j - 1 → ¬ Closes (bytesOf s) s0 q) ∧ Body (bytesOf s) i (j - 1)
 | 0, i, m, s', j, h0, h1, hr, hp, h => by simp [aV.l0] at h
 | k + 1, i, m, s', j, h0, h1, hr, hp, h => by
  have hn' : s.size ≤ 1048576 := hn
  have hr0 := hr
  obtain ⟨r1, r2, r3, r4⟩ := hr
  rw [aV.l0] at h
  by_cases hi : i < (s.size : Int)
  ·rw [if_pos hi, if_pos (by omega), w64 (by omega) (by omega)] at h
   by_cases hq : bt s i = 34
   ·rw [if_pos hq] at h
    simp only [al, am] at h
    obtain ⟨_, rfl, rfl⟩ := h
    refine ⟨rfl, by omega, by omega, ?_, fun q h2 h3 => by omega, by rw [show i + 1 - 1 = i by omega]; exact .done i (by rw [rd_bytesOf]; exact hq)⟩
    rw [show i + 1 - 1 = i by omega]
    exact ⟨by rw [rd_bytesOf]; exact hq, m, hr0, hp⟩
   ·rw [if_neg hq] at h
    have nq : ¬ Closes (bytesOf s) s0 i := fun h2 => hq (by have := h2.1; rw [rd_bytesOf] at this; exact this)
    by_cases hc : bt s i < 32
    ·rw [if_pos hc] at h; simp at h
    ·rw [if_neg hc] at h
     by_cases he : bt s i = 92
     ·rw [if_pos he] at h
      replace h := an h
      obtain ⟨⟨b, s1, j1⟩, e1, h⟩ := h
      dsimp only at h
      cases b with
      | false => rw [if_neg (by decide)] at h; simp at h
      | true =>
       rw [if_pos rfl] at h
       obtain ⟨es, g1, g2, g3⟩ := escape_inv hn (by omega) (by omega) e1
       subst es
       have hrun1 : Run (bytesOf s1) s0 (i + 1) m := ⟨r1, by omega, (fun p h2 h3 => by by_cases h4 : p = i; rw [h4, rd_bytesOf]; exact he; exact r3 p h2 (by omega)), r4⟩
       have nq1 : ¬ Closes (bytesOf s1) s0 (i + 1) := not_closes hrun1 (by omega)
       rcases g3 with ⟨ge, rfl⟩ | ⟨gu, rfl, gh⟩
       ·obtain ⟨a1, a2, a3, a4, a5, a6⟩ : s' = s1 ∧ i + 1 + 1 < j ∧ j ≤ s1.size ∧ Closes (bytesOf s1) s0 (j - 1) ∧ (∀ q, i + 1 + 1 ≤ q → q < j - 1 → ¬ Closes (bytesOf s1) s0 q) ∧ Body (bytesOf s1) (i + 1 + 1) (j - 1) := by
         by_cases hb : bt s1 (i + 1) = 92
         ·exact quoted_l s1 hn s0 hs0 k (i + 1 + 1) m s' j (by omega) (by omega) ⟨r1, by omega, (fun p h2 h3 => by by_cases h4 : p = i + 1; rw [h4, rd_bytesOf]; exact hb; exact hrun1.2.2.1 p h2 (by omega)), r4⟩ (by omega) h
         ·exact quoted_l s1 hn s0 hs0 k (i + 1 + 1) (i + 1) s' j (by omega) (by omega) ⟨by omega, by omega, (fun p h2 h3 => by omega), .inr (by rw [rd_bytesOf]; exact hb)⟩ (by omega) h
        refine ⟨a1, by omega, a3, a4, fun q h2 h3 => ?_, .esc i _ (by rw [rd_bytesOf]; exact he) (by rw [rd_bytesOf]; exact ge) (by rw [show i + 2 = i + 1 + 1 by omega]; exact a6)⟩
        by_cases h4 : q = i
        ·rw [h4]; exact nq
        ·by_cases h5 : q = i + 1
         ·rw [h5]; exact nq1
         ·exact a5 q (by omega) h3
       ·obtain ⟨a1, a2, a3, a4, a5, a6⟩ := quoted_l s1 hn s0 hs0 k (i + 1 + 5) (i + 1 + 5 - 1) s' j (by omega) (by omega) ⟨by omega, by omega, (fun p h2 h3 => by omega), .inr (by rw [rd_bytesOf]; have := gh (i + 1 + 5 - 1) (by omega) (by omega); unfold HexCh at this; omega)⟩ (by omega) h
        refine ⟨a1, by omega, a3, a4, fun q h2 h3 => ?_, .uni i _ (by rw [rd_bytesOf]; exact he) (by rw [rd_bytesOf]; exact gu) (fun p h2 h3 => by rw [rd_bytesOf]; exact gh p (by omega) (by omega)) (by rw [show i + 6 = i + 1 + 5 by omega]; exact a6)⟩
        by_cases h4 : q = i
        ·rw [h4]; exact nq
        ·by_cases h5 : q = i + 1
         ·rw [h5]; exact nq1
         ·by_cases h6 : q < i + 1 + 5
          ·rintro ⟨h7, _⟩
           rw [rd_bytesOf] at h7
           have := gh q (by omega) h6
           unfold HexCh at this
           omega
          ·exact a5 q (by omega) h3
     ·rw [if_neg he] at h
      obtain ⟨a1, a2, a3, a4, a5, a6⟩ := quoted_l s hn s0 hs0 k (i + 1) i s' j (by omega) (by omega) ⟨by omega, by omega, (fun p h2 h3 => by omega), .inr (by rw [rd_bytesOf]; exact he)⟩ (by omega) h
      refine ⟨a1, by omega, a3, a4, fun q h2 h3 => ?_, .plain i _ (by rw [rd_bytesOf]; omega) (by rw [rd_bytesOf]; exact hq) (by rw [rd_bytesOf]; exact he) a6⟩
      by_cases h4 : q = i
      ·rw [h4]; exact nq
      ·exact a5 q (by omega) h3
  ·rw [if_neg hi] at h; simp at h
theorem quoted_inv {s : au} (hn : Small s) {k : Nat} {i : Int} {s' : au} {j : Int} (h0 : 0 ≤ i) (h1 : i < s.size) (hq : bt s i = 34) (h : aV.f k s i = some (true, s', j)) : s' = s ∧ StrSeg (bytesOf s) i j := by
 have hn' : s.size ≤ 1048576 := hn
 unfold aV.f at h
 rw [w64 (by omega) (by omega)] at h
 obtain ⟨a1, a2, a3, a4, a5, a6⟩ := quoted_l s hn i h0 k (i + 1) i s' j (by omega) (by omega) ⟨by omega, by omega, (fun p h2 h3 => by omega), .inl rfl⟩ (by omega) h
 exact ⟨a1, by rw [rd_bytesOf]; exact hq, a2, by rw [bytesOf_length]; omega, a4, a5, a6⟩
end Go.Proofs.YtmpdhdnoohmndaaGreatDoor.Sp
namespace Go.Proofs.YtmpdhdnoohmndaaGreatDoor.Sp
open Go.RowKit Go.Proofs.YtmpdhdnoohmndaaGreatDoorW.PrintWords Go.Proofs.YtmpdhdnoohmndaaGreatDoorW.PrintLast Go.Proofs.YtmpdhdnoohmndaaGreatDoorW.PrintMore
set_option linter.unusedVariables false
def VR (V : aG) (s : au) (p : S31) : Prop := 0 ≤ p.f1 ∧ ∃ k, V.f k s p.f1 = some (p.f0, p.f1, p.f2, p.f3, p.f4, true, s, p.f2)
inductive Kids (V : aG) (s : au) : List S31 → Int → Int → Prop where
 | last (p : S31) (i r : Int) : VR V s p → p.f1 = i → p.f1 < p.f2 → Blanks s p.f2 r → r < s.size → bt s r = 93 → Kids V s [p] i (r + 1)
 | more (p : S31) (i r t j : Int) (ks : List S31) : VR V s p → p.f1 = i → p.f1 < p.f2 → Blanks s p.f2 r → r < s.size → bt s r = 44 → Blanks s (r + 1) t → Kids V s ks t j → Kids V s (p :: ks) i j
inductive Chain (V : aG) (s : au) : List S31 → Int → Int → Prop where
 | nil (i j : Int) : i ≤ j → Chain V s [] i j
 | cons (p : S31) (ks : List S31) (i j : Int) : VR V s p → i ≤ p.f1 → p.f1 < p.f2 → Chain V s ks (p.f2 + 1) j → Chain V s (p :: ks) i j
theorem Chain.le {V : aG} {s : au} {ks : List S31} {i j : Int} (h : Chain V s ks i j) : i ≤ j := by
 induction h with
 | nil i j h => exact h
 | cons p ks i j h1 h2 h3 h4 ih => omega
theorem Chain.from {V : aG} {s : au} {ks : List S31} {i i' j : Int} (h : Chain V s ks i j) (hi : i' ≤ i) : Chain V s ks i' j := by
 cases h with
 | nil _ _ h => exact .nil _ _ (by omega)
 | cons p ks _ _ h1 h2 h3 h4 => exact .cons p ks _ _ h1 (by omega) h3 h4
theorem Kids.chain {V : aG} {s : au} {ks : List S31} {i j : Int} (h : Kids V s ks i j) : Chain V s ks i j := by
 induction h with
 | last p i r h1 h2 h3 h4 h5 h6 => exact .cons p [] _ _ h1 (by omega) h3 (.nil _ _ (by have := h4.1; omega))
 | more p i r t j ks h1 h2 h3 h4 h5 h6 h7 h8 ih => exact .cons p ks _ _ h1 (by omega) h3 (ih.from (by have := h4.1; have := h7.1; omega))
def InvV (V : aG) (s : au) : Prop := ∀ (k : Nat) (i kd b j : Int) (ns : List S93) (ks : List S31) (s' : au) (j' : Int), 0 ≤ i → i ≤ s.size → V.f k s i = some (kd, b, j, ns, ks, true, s', j') →
 s' = s ∧ j' = j ∧ b = i ∧ i < j ∧ j ≤ s.size
def InvE (E : bD) (V : aG) (s : au) : Prop := ∀ (k : Nat) (i : Int) (ks : List S31) (s' : au) (j : Int), 0 ≤ i → i < s.size → E.f k s i = some (ks, true, s', j) →
 s' = s ∧ i + 1 < j ∧ j ≤ s.size ∧ ((ks = [] ∧ ∃ p, Blanks s (i + 1) p ∧ p < s.size ∧ bt s p = 93 ∧ j = p + 1) ∨ ∃ p, Blanks s (i + 1) p ∧ Kids V s ks p j)
theorem elements_l {V : aG} {s : au} (hn : Small s) (hV : InvV V s) : ∀ (k : Nat) (x4 : List S31) (i : Int) (ks : List S31) (s' : au) (j : Int), 0 ≤ i → i ≤ s.size → aM.l0 V k x4 s i = some (ks, true, s', j) →
  s' = s ∧ i < j ∧ j ≤ s.size ∧ ∃ ks', ks = x4 ++ ks' ∧ Kids V s ks' i j
 | 0, x4, i, ks, s', j, h0, h1, h => by simp [aM.l0] at h
 | k + 1, x4, i, ks, s', j, h0, h1, h => by
  have hn' : s.size ≤ 1048576 := hn
  rw [aM.l0] at h
  replace h := an h
  obtain ⟨⟨kd, b, e, ns, gs, ok, s1, e'⟩, hv, h⟩ := h
  dsimp only at h
  cases ok with
  | false => rw [if_neg (by decide)] at h; simp at h
  | true =>
   rw [if_pos rfl] at h
   obtain ⟨rfl, rfl, rfl, a1, a2⟩ := hV k i kd b e ns gs s1 e' h0 h1 hv
   have hVR : VR V s1 ⟨kd, b, e', ns, gs⟩ := ⟨h0, k, hv⟩
   by_cases c1 : x4.length < 1954687338268
   ·rw [if_pos c1] at h
    simp only [ak] at h
    replace h := an h
    obtain ⟨⟨s2, j1⟩, hb, h⟩ := h
    dsimp only at h
    obtain ⟨rfl, hb⟩ := blanks_inv s1 hn k e' s2 j1 (by omega) a2 hb
    have z1 : 0 ≤ j1 := by have := hb.1; omega
    replace h := an h
    obtain ⟨⟨b2, s3, j2⟩, ht, h⟩ := h
    dsimp only at h
    obtain ⟨rfl, ht⟩ := take_inv hn z1 hb.2.1 ht
    cases b2 with
    | true =>
     rw [if_pos rfl] at h
     simp only [al, am] at h
     obtain ⟨rfl, _, rfl, rfl⟩ := h
     rcases ht with ⟨_, t1, t2, rfl⟩ | ⟨t1, _⟩
     ·exact ⟨rfl, by have := hb.1; omega, by omega, _, rfl, .last ⟨kd, b, e', ns, gs⟩ b j1 hVR rfl a1 hb t1 t2⟩
     ·cases t1
    | false =>
     rw [if_neg (by decide)] at h
     rcases ht with ⟨t1, _⟩ | ⟨_, rfl⟩
     ·cases t1
     replace h := an h
     obtain ⟨⟨b3, s4, j3⟩, ht, h⟩ := h
     dsimp only at h
     obtain ⟨rfl, ht⟩ := take_inv hn z1 hb.2.1 ht
     cases b3 with
     | false => rw [if_neg (by decide)] at h; simp at h
     | true =>
      rw [if_pos rfl] at h
      rcases ht with ⟨_, t1, t2, rfl⟩ | ⟨t1, _⟩
      ·replace h := an h
       obtain ⟨⟨s5, j4⟩, hb2, h⟩ := h
       dsimp only at h
       obtain ⟨rfl, hb2⟩ := blanks_inv s4 hn k (j2 + 1) s5 j4 (by omega) (by omega) hb2
       obtain ⟨e1, e2, e3, ks', rfl, hK⟩ := elements_l hn hV k _ j4 ks s' j (by have := hb2.1; omega) hb2.2.1 h
       refine ⟨e1, by have := hb2.1; have := hb.1; omega, e3, ⟨kd, b, e', ns, gs⟩ :: ks', by simp, .more ⟨kd, b, e', ns, gs⟩ b j2 j4 j ks' hVR rfl a1 hb t1 t2 hb2 hK⟩
      ·cases t1
   ·rw [if_neg c1] at h; simp at h
theorem elements_inv {V : aG} {s : au} (hn : Small s) (hV : InvV V s) (k : Nat) (i : Int) (ks : List S31) (s' : au) (j : Int) (h0 : 0 ≤ i) (h1 : i < s.size) (h : aM.f V k s i = some (ks, true, s', j)) :
  s' = s ∧ i + 1 < j ∧ j ≤ s.size ∧ ((ks = [] ∧ ∃ p, Blanks s (i + 1) p ∧ p < s.size ∧ bt s p = 93 ∧ j = p + 1) ∨ ∃ p, Blanks s (i + 1) p ∧ Kids V s ks p j) := by
 have hn' : s.size ≤ 1048576 := hn
 unfold aM.f at h
 rw [w64 (by omega) (by omega)] at h
 replace h := an h
 obtain ⟨⟨s1, p⟩, hb, h⟩ := h
 dsimp only at h
 obtain ⟨rfl, hb⟩ := blanks_inv s hn k (i + 1) s1 p (by omega) (by omega) hb
 have z1 : i + 1 ≤ p := hb.1
 replace h := an h
 obtain ⟨⟨b, s2, q⟩, ht, h⟩ := h
 dsimp only at h
 obtain ⟨rfl, ht⟩ := take_inv hn (by omega) hb.2.1 ht
 cases b with
 | true =>
  rw [if_pos rfl] at h
  simp only [al, am] at h
  obtain ⟨rfl, _, rfl, rfl⟩ := h
  rcases ht with ⟨_, t1, t2, rfl⟩ | ⟨t1, _⟩
  ·exact ⟨rfl, by omega, by omega, .inl ⟨rfl, p, hb, t1, t2, rfl⟩⟩
  ·cases t1
 | false =>
  rw [if_neg (by decide)] at h
  rcases ht with ⟨t1, _⟩ | ⟨_, rfl⟩
  ·cases t1
  obtain ⟨e1, e2, e3, ks', e4, hK⟩ := elements_l hn hV k [] q ks s' j (by omega) hb.2.1 h
  rw [List.nil_append] at e4
  subst e4
  exact ⟨e1, by omega, e3, .inr ⟨q, hb, hK⟩⟩
end Go.Proofs.YtmpdhdnoohmndaaGreatDoor.Sp
namespace Go.Proofs.YtmpdhdnoohmndaaGreatDoor.Sp
open Go.RowKit Go.Proofs.YtmpdhdnoohmndaaGreatDoorW.PrintWords Go.Proofs.YtmpdhdnoohmndaaGreatDoorW.PrintLast Go.Proofs.YtmpdhdnoohmndaaGreatDoorW.PrintMore
set_option linter.unusedVariables false
inductive Mems (V : aG) (s : au) : List S93 → List S31 → Int → Int → Prop where
 | last (nm : S93) (p : S31) (i c r : Int) : nm.f0 = i → StrSeg (bytesOf s) i nm.f1 → Blanks s nm.f1 c → c < s.size → bt s c = 58 → Blanks s (c + 1) p.f1 → VR V s p → p.f1 < p.f2 → Blanks s p.f2 r → r < s.size → bt s r = 125 → Mems V s [nm] [p] i (r + 1)
 | more (nm : S93) (p : S31) (i c r t j : Int) (ns : List S93) (ks : List S31) : nm.f0 = i → StrSeg (bytesOf s) i nm.f1 → Blanks s nm.f1 c → c < s.size → bt s c = 58 → Blanks s (c + 1) p.f1 → VR V s p → p.f1 < p.f2 → Blanks s p.f2 r → r < s.size → bt s r = 44 → Blanks s (r + 1) t → Mems V s ns ks t j → Mems V s (nm :: ns) (p :: ks) i j
theorem mems_l {V : aG} {s : au} (hn : Small s) (hV : InvV V s) : ∀ (d : Nat) (k : Nat) (x5 : List S93) (x6 : List S31) (i : Int) (ns : List S93) (ks : List S31) (s' : au) (j : Int), k ≤ d → 0 ≤ i → i ≤ s.size → aC.l0 V k x5 x6 s i = some (ns, ks, true, s', j) →
  s' = s ∧ i < j ∧ j ≤ s.size ∧ ∃ ns' ks', ns = x5 ++ ns' ∧ ks = x6 ++ ks' ∧ Mems V s ns' ks' i j := by
 intro d
 induction d with
 | zero =>
  intro k x5 x6 i ns ks s' j hd h0 h1 h
  obtain rfl : k = 0 := by omega
  simp [aC.l0] at h
 | succ d members_ih =>
  intro k x5 x6 i ns ks s' j hd h0 h1 h
  have hn' : s.size ≤ 1048576 := hn
  cases k with
  | zero => simp [aC.l0] at h
  | succ k =>
  rw [aC.l0, here_eq s i h0] at h
  simp only [ak] at h
  have bad : ∀ (k : Nat) (i' : Int) (r : List S93 × List S31 × Bool × au × Int), aC.j1 V k x5 x6 i true s i' = some r → r.2.2.1 = false := by
   intro k i' r h
   cases k with
   | zero => simp [aC.j1] at h
   | succ k => rw [aC.j1, if_pos rfl] at h; simp only [al] at h; rw [← h]
  by_cases c0 : at0 s i = 34
  ·have hi : i < (s.size : Int) := by
    by_cases hi : i < (s.size : Int)
    ·exact hi
    ·rw [at0_zero hi] at c0; omega
   rw [if_pos c0] at h
   rw [at0_at hi] at c0
   replace h := an h
   obtain ⟨⟨bq, sq, jq⟩, hq, h⟩ := h
   dsimp only at h
   cases bq with
   | false =>
    cases k with
    | zero => simp [aC.j1] at h
    | succ k => rw [aC.j1, Bool.not_false, if_pos rfl] at h; simp at h
   | true =>
    obtain ⟨rfl, q1, q2, q3, q4, q5, q6⟩ := quoted_inv hn h0 hi c0 hq
    have hSS : StrSeg (bytesOf sq) i jq := ⟨q1, q2, q3, q4, q5, q6⟩
    rw [bytesOf_length] at q3
    cases k with
    | zero => simp [aC.j1] at h
    | succ k =>
    rw [aC.j1, Bool.not_true, if_neg (by decide)] at h
    by_cases c1 : x5.length < 8796093022208
    ·rw [if_pos c1] at h
     simp only [ak] at h
     replace h := an h
     obtain ⟨⟨s1, j1⟩, hb, h⟩ := h
     dsimp only at h
     obtain ⟨rfl, hb⟩ := blanks_inv sq hn k jq s1 j1 (by omega) (by omega) hb
     have z1 : jq ≤ j1 := hb.1
     replace h := an h
     obtain ⟨⟨b2, s2, j2⟩, ht, h⟩ := h
     dsimp only at h
     obtain ⟨rfl, ht⟩ := take_inv hn (by omega) hb.2.1 ht
     cases b2 with
     | false => rw [if_neg (by decide)] at h; simp at h
     | true =>
      rcases ht with ⟨_, t1, t2, rfl⟩ | ⟨t1, _⟩
      case inr => cases t1
      rw [if_pos rfl] at h
      replace h := an h
      obtain ⟨⟨s3, j3⟩, hb2, h⟩ := h
      dsimp only at h
      obtain ⟨rfl, hb2⟩ := blanks_inv s2 hn k (j1 + 1) s3 j3 (by omega) (by omega) hb2
      have z2 : j1 + 1 ≤ j3 := hb2.1
      replace h := an h
      obtain ⟨⟨kd, b, e, ns', gs, ok, s4, e'⟩, hv, h⟩ := h
      dsimp only at h
      cases ok with
      | false => rw [if_neg (by decide)] at h; simp at h
      | true =>
       rw [if_pos rfl] at h
       obtain ⟨rfl, rfl, rfl, a1, a2⟩ := hV k j3 kd b e ns' gs s4 e' (by omega) hb2.2.1 hv
       have hVR : VR V s4 ⟨kd, b, e', ns', gs⟩ := ⟨by dsimp only; omega, k, hv⟩
       by_cases c2 : x6.length < 1954687338268
       ·rw [if_pos c2] at h
        replace h := an h
        obtain ⟨⟨s5, j5⟩, hb3, h⟩ := h
        dsimp only at h
        obtain ⟨rfl, hb3⟩ := blanks_inv s4 hn k e' s5 j5 (by omega) a2 hb3
        have z3 : e' ≤ j5 := hb3.1
        replace h := an h
        obtain ⟨⟨b6, s6, j6⟩, ht, h⟩ := h
        dsimp only at h
        obtain ⟨rfl, ht⟩ := take_inv hn (by omega) hb3.2.1 ht
        cases b6 with
        | true =>
         rw [if_pos rfl] at h
         simp only [al, am] at h
         obtain ⟨rfl, rfl, _, rfl, rfl⟩ := h
         rcases ht with ⟨_, t3, t4, rfl⟩ | ⟨t3, _⟩
         ·exact ⟨rfl, by omega, by omega, _, _, rfl, rfl, .last ⟨i, jq⟩ ⟨kd, b, e', ns', gs⟩ i j1 j5 rfl hSS hb t1 t2 hb2 hVR a1 hb3 t3 t4⟩
         ·cases t3
        | false =>
         rw [if_neg (by decide)] at h
         rcases ht with ⟨t3, _⟩ | ⟨_, rfl⟩
         ·cases t3
         replace h := an h
         obtain ⟨⟨b7, s7, j7⟩, ht, h⟩ := h
         dsimp only at h
         obtain ⟨rfl, ht⟩ := take_inv hn (by omega) hb3.2.1 ht
         cases b7 with
         | false => rw [if_neg (by decide)] at h; simp at h
         | true =>
          rcases ht with ⟨_, t3, t4, rfl⟩ | ⟨t3, _⟩
          case inr => cases t3
          rw [if_pos rfl] at h
          replace h := an h
          obtain ⟨⟨s8, j8⟩, hb4, h⟩ := h
          dsimp only at h
          obtain ⟨rfl, hb4⟩ := blanks_inv s7 hn k (j6 + 1) s8 j8 (by omega) (by omega) hb4
          have z4 : j6 + 1 ≤ j8 := hb4.1
          obtain ⟨e1, e2, e3, nn, ks', rfl, rfl, hK⟩ := members_ih k _ _ j8 ns ks s' j (by omega) (by omega) hb4.2.1 h
          exact ⟨e1, by omega, e3, ⟨i, jq⟩ :: nn, ⟨kd, b, e', ns', gs⟩ :: ks', by simp, by simp, .more ⟨i, jq⟩ ⟨kd, b, e', ns', gs⟩ i j1 _ j8 j nn ks' rfl hSS hb t1 t2 hb2 hVR a1 hb3 t3 t4 hb4 hK⟩
       ·rw [if_neg c2] at h; simp at h
    ·rw [if_neg c1] at h; simp at h
  ·rw [if_neg c0] at h
   exact absurd (bad k i _ h) (by simp)
theorem mems_inv {V : aG} {s : au} (hn : Small s) (hV : InvV V s) (k : Nat) (i : Int) (ns : List S93) (ks : List S31) (s' : au) (j : Int) (h0 : 0 ≤ i) (h1 : i < s.size) (h : aC.f V k s i = some (ns, ks, true, s', j)) :
  s' = s ∧ i + 1 < j ∧ j ≤ s.size ∧ ((ns = [] ∧ ks = [] ∧ ∃ p, Blanks s (i + 1) p ∧ p < s.size ∧ bt s p = 125 ∧ j = p + 1) ∨ ∃ p, Blanks s (i + 1) p ∧ Mems V s ns ks p j) := by
 have hn' : s.size ≤ 1048576 := hn
 unfold aC.f at h
 rw [w64 (by omega) (by omega)] at h
 replace h := an h
 obtain ⟨⟨s1, p⟩, hb, h⟩ := h
 dsimp only at h
 obtain ⟨rfl, hb⟩ := blanks_inv s hn k (i + 1) s1 p (by omega) (by omega) hb
 have z1 : i + 1 ≤ p := hb.1
 replace h := an h
 obtain ⟨⟨b, s2, q⟩, ht, h⟩ := h
 dsimp only at h
 obtain ⟨rfl, ht⟩ := take_inv hn (by omega) hb.2.1 ht
 cases b with
 | true =>
  rw [if_pos rfl] at h
  simp only [al, am] at h
  obtain ⟨rfl, rfl, _, rfl, rfl⟩ := h
  rcases ht with ⟨_, t1, t2, rfl⟩ | ⟨t1, _⟩
  ·exact ⟨rfl, by omega, by omega, .inl ⟨rfl, rfl, p, hb, t1, t2, rfl⟩⟩
  ·cases t1
 | false =>
  rw [if_neg (by decide)] at h
  rcases ht with ⟨t1, _⟩ | ⟨_, rfl⟩
  ·cases t1
  obtain ⟨e1, e2, e3, nn, ks', e4, e5, hK⟩ := mems_l hn hV k k [] [] q ns ks s' j (by omega) (by omega) hb.2.1 h
  rw [List.nil_append] at e4 e5
  subst e4 e5
  exact ⟨e1, by omega, e3, .inr ⟨q, hb, hK⟩⟩
def MemsAt (V : aG) (s : au) (i j : Int) (ns : List S93) (ks : List S31) : Prop := (ns = [] ∧ ks = [] ∧ ∃ p, Blanks s (i + 1) p ∧ p < s.size ∧ bt s p = 125 ∧ j = p + 1) ∨ ∃ p, Blanks s (i + 1) p ∧ Mems V s ns ks p j
def InvMM (M : bF) (V : aG) (s : au) : Prop := ∀ (k : Nat) (i : Int) (ns : List S93) (ks : List S31) (s' : au) (j : Int), 0 ≤ i → i < s.size → M.f k s i = some (ns, ks, true, s', j) →
 s' = s ∧ i + 1 < j ∧ j ≤ s.size ∧ MemsAt V s i j ns ks
def ValO (V0 : aG) (s : au) (kd i j : Int) (ns : List S93) (ks : List S31) : Prop :=
 (kd = 6 ∧ bt s i = 123 ∧ MemsAt V0 s i j ns ks) ∨
 (kd = 5 ∧ ns = [] ∧ bt s i = 91 ∧ ((ks = [] ∧ ∃ p, Blanks s (i + 1) p ∧ p < s.size ∧ bt s p = 93 ∧ j = p + 1) ∨ ∃ p, Blanks s (i + 1) p ∧ Kids V0 s ks p j)) ∨
 (kd = 4 ∧ ns = [] ∧ ks = [] ∧ StrSeg (bytesOf s) i j) ∨
 (kd = 3 ∧ ns = [] ∧ ks = [] ∧ ((48 ≤ bt s i ∧ bt s i ≤ 57) ∨ bt s i = 45) ∧ NumSeg s i j) ∨
 (ns = [] ∧ ks = [] ∧ i < j ∧ (kd = 0 ∧ seg (bytesOf s) i j = [110, 117, 108, 108] ∨ kd = 1 ∧ seg (bytesOf s) i j = [102, 97, 108, 115, 101] ∨ kd = 2 ∧ seg (bytesOf s) i j = [116, 114, 117, 101]))
theorem valo0_inv {M : bF} {E : bD} {V0 : aG} {s : au} (hn : Small s) {k : Nat} {num : Bool} {i kd b j : Int} {ns : List S93} {ks : List S31} {s' : au} {j' : Int}
  (h0 : 0 ≤ i) (h1 : i < s.size) (hnum : num = true → (48 ≤ bt s i ∧ bt s i ≤ 57) ∨ bt s i = 45) (h : aH.j0 M E k true num s i 0 i 0 = some (kd, b, j, ns, ks, true, s', j')) :
  s' = s ∧ j' = j ∧ b = i ∧ j ≤ s.size ∧ ValO V0 s kd i j ns ks := by
 have hn' : s.size ≤ 1048576 := hn
 cases k with
 | zero => simp [aH.j0] at h
 | succ k =>
 rw [aH.j0] at h
 cases num with
 | true =>
  rw [if_pos rfl] at h
  replace h := an h
  obtain ⟨⟨b1, s1, j1⟩, e1, h⟩ := h
  simp only [al, am] at h
  obtain ⟨rfl, rfl, rfl, rfl, rfl, _, rfl, rfl⟩ := h
  obtain ⟨rfl, g⟩ := number_inv hn h0 (by omega) e1
  exact ⟨rfl, rfl, rfl, g.2.1, .inr (.inr (.inr (.inl ⟨rfl, rfl, rfl, hnum rfl, g⟩)))⟩
 | false =>
  rw [if_neg (by decide)] at h
  replace h := an h
  obtain ⟨⟨b1, s1, j1⟩, e1, h⟩ := h
  dsimp only at h
  obtain ⟨rfl, g⟩ := word_inv hn h0 (by omega) (by decide) e1
  cases b1 with
  | true =>
   rw [if_pos rfl] at h
   simp only [al, am] at h
   obtain ⟨rfl, rfl, rfl, rfl, rfl, _, rfl, rfl⟩ := h
   rcases g with ⟨_, g1, g2, g3⟩ | ⟨g, _⟩
   ·exact ⟨rfl, rfl, rfl, g2, .inr (.inr (.inr (.inr ⟨rfl, rfl, by have : (⟨#[110, 117, 108, 108]⟩ : au).size = 4 := rfl; omega, .inl ⟨rfl, g3.trans rfl⟩⟩)))⟩
   ·cases g
  | false =>
   rw [if_neg (by decide)] at h
   rcases g with ⟨g, _⟩ | ⟨_, rfl⟩
   ·cases g
   replace h := an h
   obtain ⟨⟨b2, s2, j2⟩, e2, h⟩ := h
   dsimp only at h
   obtain ⟨rfl, g⟩ := word_inv hn h0 (by omega) (by decide) e2
   cases b2 with
   | true =>
    rw [if_pos rfl] at h
    simp only [al, am] at h
    obtain ⟨rfl, rfl, rfl, rfl, rfl, _, rfl, rfl⟩ := h
    rcases g with ⟨_, g1, g2, g3⟩ | ⟨g, _⟩
    ·exact ⟨rfl, rfl, rfl, g2, .inr (.inr (.inr (.inr ⟨rfl, rfl, by have : (⟨#[102, 97, 108, 115, 101]⟩ : au).size = 5 := rfl; omega, .inr (.inl ⟨rfl, g3.trans rfl⟩)⟩)))⟩
    ·cases g
   | false =>
    rw [if_neg (by decide)] at h
    rcases g with ⟨g, _⟩ | ⟨_, rfl⟩
    ·cases g
    replace h := an h
    obtain ⟨⟨b3, s3, j3⟩, e3, h⟩ := h
    dsimp only at h
    obtain ⟨rfl, g⟩ := word_inv hn h0 (by omega) (by decide) e3
    cases b3 with
    | true =>
     rw [if_pos rfl] at h
     simp only [al, am] at h
     obtain ⟨rfl, rfl, rfl, rfl, rfl, _, rfl, rfl⟩ := h
     rcases g with ⟨_, g1, g2, g3⟩ | ⟨g, _⟩
     ·exact ⟨rfl, rfl, rfl, g2, .inr (.inr (.inr (.inr ⟨rfl, rfl, by have : (⟨#[116, 114, 117, 101]⟩ : au).size = 4 := rfl; omega, .inr (.inr ⟨rfl, g3.trans rfl⟩)⟩)))⟩
     ·cases g
    | false => rw [if_neg (by decide)] at h; simp at h
theorem valo_inv {M : bF} {E : bD} {V0 : aG} {s : au} (hn : Small s) (hM : InvMM M V0 s) (hE : InvE E V0 s) {k : Nat} {i kd b j : Int} {ns : List S93} {ks : List S31} {s' : au} {j' : Int}
  (h0 : 0 ≤ i) (h1 : i < s.size) (h : aH.f M E k s i = some (kd, b, j, ns, ks, true, s', j')) :
  s' = s ∧ j' = j ∧ b = i ∧ j ≤ s.size ∧ ValO V0 s kd i j ns ks := by
 have hn' : s.size ≤ 1048576 := hn
 unfold aH.f at h
 rw [here_eq s i h0, at0_at h1] at h
 simp only [ak] at h
 by_cases c1 : bt s i = 123
 ·rw [if_pos c1] at h
  replace h := an h
  obtain ⟨⟨ns1, ks1, ok, s1, j1⟩, e1, h⟩ := h
  simp only [al, am] at h
  obtain ⟨rfl, rfl, rfl, rfl, rfl, rfl, rfl, rfl⟩ := h
  obtain ⟨rfl, g1, g2, g3⟩ := hM k i _ _ _ _ h0 h1 e1
  exact ⟨rfl, rfl, rfl, g2, .inl ⟨rfl, c1, g3⟩⟩
 ·rw [if_neg c1] at h
  by_cases c2 : bt s i = 91
  ·rw [if_pos c2] at h
   replace h := an h
   obtain ⟨⟨ks1, ok, s1, j1⟩, e1, h⟩ := h
   simp only [al, am] at h
   obtain ⟨rfl, rfl, rfl, rfl, rfl, rfl, rfl, rfl⟩ := h
   obtain ⟨rfl, g1, g2, g3⟩ := hE k i _ _ _ h0 h1 e1
   exact ⟨rfl, rfl, rfl, g2, .inr (.inl ⟨rfl, rfl, c2, g3⟩)⟩
  ·rw [if_neg c2] at h
   by_cases c3 : bt s i = 34
   ·rw [if_pos c3] at h
    replace h := an h
    obtain ⟨⟨ok, s1, j1⟩, e1, h⟩ := h
    simp only [al, am] at h
    obtain ⟨rfl, rfl, rfl, rfl, rfl, rfl, rfl, rfl⟩ := h
    obtain ⟨rfl, g⟩ := quoted_inv hn h0 h1 c3 e1
    exact ⟨rfl, rfl, rfl, by have := g.2.2.1; rw [bytesOf_length] at this; omega, .inr (.inr (.inl ⟨rfl, rfl, rfl, g⟩))⟩
   ·rw [if_neg c3] at h
    by_cases c4 : bt s i = 45
    ·rw [if_pos c4] at h; exact valo0_inv hn h0 h1 (fun _ => .inr c4) h
    ·rw [if_neg c4] at h
     by_cases c5 : 48 ≤ bt s i
     ·rw [if_pos c5] at h; exact valo0_inv hn h0 h1 (fun e => .inl ⟨c5, ab e⟩) h
     ·rw [if_neg c5] at h; exact valo0_inv hn h0 h1 (fun e => by cases e) h
end Go.Proofs.YtmpdhdnoohmndaaGreatDoor.Sp
namespace Go.Proofs.YtmpdhdnoohmndaaGreatDoor.Sp
open Go.RowKit Go.Proofs.YtmpdhdnoohmndaaGreatDoorW.PrintWords Go.Proofs.YtmpdhdnoohmndaaGreatDoorW.PrintLast Go.Proofs.YtmpdhdnoohmndaaGreatDoorW.PrintMore
set_option linter.unusedVariables false
theorem Mems.le {V : aG} {s : au} {ns : List S93} {ks : List S31} {i j : Int} (h : Mems V s ns ks i j) : i ≤ j := by
 induction h with
 | last nm p i c r h1 h2 h3 h4 h5 h6 h7 h8 h9 => have := h2.2.1; have := h3.1; have := h6.1; have := h9.1; omega
 | more nm p i c r t j ns ks h1 h2 h3 h4 h5 h6 h7 h8 h9 h10 h11 h12 h13 ih => have := h2.2.1; have := h3.1; have := h6.1; have := h9.1; have := h12.1; omega
theorem digits_pos {s : au} (hn : Small s) {k : Nat} {i : Int} {r : Bool} {s' : au} {j : Int} (h0 : 0 ≤ i) (h1 : i < s.size) (hd : 48 ≤ bt s i ∧ bt s i ≤ 57) (h : aN.f k s i = some (r, s', j)) : i < j := by
 have hn' : s.size ≤ 1048576 := hn
 unfold aN.f at h
 rw [here_eq s i h0] at h
 simp only [ak] at h
 cases k with
 | zero => simp [aN.l0] at h
 | succ k =>
  rw [aN.l0, at0_at h1, if_pos hd.1, if_pos hd.2, w64 (by omega) (by omega), here_eq s (i + 1) (by omega)] at h
  simp only [ak] at h
  have := (digits_l s hn i k (i + 1) r s' j (by omega) (by omega) h).2.1
  omega
theorem number_pos {s : au} (hn : Small s) {k : Nat} {i : Int} {r : Bool} {s' : au} {j : Int} (h0 : 0 ≤ i) (h1 : i < s.size) (hd : (48 ≤ bt s i ∧ bt s i ≤ 57) ∨ bt s i = 45) (h : aD.f k s i = some (r, s', j)) : i < j := by
 unfold aD.f at h
 replace h := an h
 obtain ⟨⟨b1, s1, j1⟩, e1, h⟩ := h
 obtain ⟨rfl, t1⟩ := take_inv hn h0 (by omega) e1
 obtain ⟨_, g1, z1⟩ := take_num hn h0 (by omega) (by unfold NumCh; omega) e1
 dsimp only at h
 replace h := an h
 obtain ⟨⟨b2, s2, j2⟩, e2, h⟩ := h
 obtain ⟨rfl, t2⟩ := take_inv hn z1 g1.2.1 e2
 obtain ⟨_, g2, z2⟩ := take_num hn z1 g1.2.1 (by unfold NumCh; omega) e2
 dsimp only at h
 cases b2 with
 | true =>
  rw [if_pos rfl] at h
  have g3 := (num0_inv hn z2 g2.2.1 h).2.1
  have := g1.1
  rcases t2 with ⟨_, _, _, t3⟩ | ⟨t3, _⟩
  ·omega
  ·cases t3
 | false =>
  rw [if_neg (by decide)] at h
  rcases t2 with ⟨t3, _⟩ | ⟨_, rfl⟩
  ·cases t3
  replace h := an h
  obtain ⟨⟨b3, s3, j3⟩, e3, h⟩ := h
  obtain ⟨rfl, g3, z3⟩ := digits_inv hn z2 g2.2.1 e3
  have g4 := (num0_inv hn z3 g3.2.1 h).2.1
  have := g3.1
  rcases t1 with ⟨_, _, _, t4⟩ | ⟨_, t4⟩
  ·omega
  ·subst t4
   rcases hd with hd | hd
   ·have := digits_pos hn h0 h1 hd e3
    omega
   ·
    have : aK.f s3 j2 45 = some (true, s3, j2 + 1) := take_yes s3 hn j2 45 h0 h1 hd
    rw [this] at e1
    simp only [al, am] at e1
    omega
theorem value_known {s : au} (hn : Small s) : ∀ (D : Nat) (k : Nat) (i kd b j : Int) (ns : List S93) (ks : List S31) (s' : au) (j' : Int), 0 ≤ i → i ≤ s.size → (aH.at_ (D + 1)).f k s i = some (kd, b, j, ns, ks, true, s', j') →
  s' = s ∧ j' = j ∧ b = i ∧ i < j ∧ j ≤ s.size ∧ ValO (aH.at_ (D - 1)) s kd i j ns ks := by
 intro D
 induction D using Nat.strongRecOn with
 | _ D ih =>
 intro k i kd b j ns ks s' j' h0 h1 h
 have hn' : s.size ≤ 1048576 := hn
 have hV : InvV (aH.at_ (D - 1)) s := by
  intro k i kd b j ns ks s' j' h0 h1 h
  by_cases hD : D - 1 = 0
  ·rw [hD] at h; cases h
  ·obtain ⟨E, hE⟩ : ∃ E, D - 1 = E + 1 := ⟨D - 2, by omega⟩
   rw [hE] at h
   obtain ⟨a1, a2, a3, a4, a5, _⟩ := ih E (by omega) k i kd b j ns ks s' j' h0 h1 h
   exact ⟨a1, a2, a3, a4, a5⟩
 have hM : InvMM (aC.at_ D) (aH.at_ (D - 1)) s := by
  intro k i ns ks s' j h0 h1 h
  cases D with
  | zero => cases h
  | succ E => exact mems_inv hn hV k i ns ks s' j h0 h1 h
 have hE : InvE (aM.at_ D) (aH.at_ (D - 1)) s := by
  intro k i ks s' j h0 h1 h
  cases D with
  | zero => cases h
  | succ E => exact elements_inv hn hV k i ks s' j h0 h1 h
 have h' : aH.f (aC.at_ D) (aM.at_ D) k s i = some (kd, b, j, ns, ks, true, s', j') := h
 by_cases hi : i < (s.size : Int)
 ·obtain ⟨a1, a2, a3, a4, a5⟩ := valo_inv (V0 := aH.at_ (D - 1)) hn hM hE h0 hi h'
  refine ⟨a1, a2, a3, ?_, a4, a5⟩
  rcases a5 with ⟨_, _, ⟨_, _, p, g, _, _, rfl⟩ | ⟨p, g1, g2⟩⟩ | ⟨_, _, _, ⟨_, p, g, _, _, rfl⟩ | ⟨p, g1, g2⟩⟩ | ⟨_, _, _, g⟩ | ⟨rfl, _, _, g, _⟩ | ⟨_, _, g, _⟩
  ·have := g.1; omega
  ·have := g1.1; have := g2.le; omega
  ·have := g.1; omega
  ·have := g1.1; have := g2.chain.le; omega
  ·have := g.2.1; omega
  ·
   unfold aH.f at h'
   rw [here_eq s i h0, at0_at hi] at h'
   simp only [ak] at h'
   rw [if_neg (by omega), if_neg (by omega), if_neg (by omega)] at h'
   have key : ∀ k, aH.j0 (aC.at_ D) (aM.at_ D) k true true s i 0 i 0 = some (3, b, j, ns, ks, true, s', j') → i < j := by
    intro k h
    cases k with
    | zero => simp [aH.j0] at h
    | succ k =>
     rw [aH.j0, if_pos rfl] at h
     replace h := an h
     obtain ⟨⟨b1, s1, j1⟩, e1, h⟩ := h
     simp only [al, am] at h
     have := number_pos hn h0 hi g e1
     omega
   by_cases c4 : bt s i = 45
   ·rw [if_pos c4] at h'; exact key k h'
   ·rw [if_neg c4, if_pos (by omega), ac (show bt s i ≤ 57 by omega)] at h'; exact key k h'
  ·exact g
 ·
  exfalso
  unfold aH.f at h'
  rw [here_eq s i h0, at0_zero hi] at h'
  simp only [ak] at h'
  rw [if_neg (by decide), if_neg (by decide), if_neg (by decide), if_neg (by decide), if_neg (by decide)] at h'
  cases k with
  | zero => simp [aH.j0] at h'
  | succ k =>
   have nw : ∀ (w : au), 0 < w.size → bH.f s i w = some (false, s, i) := by
    intro w hw
    unfold bH.f
    rw [w64 (by omega) (by omega), if_pos (by omega)]
   rw [aH.j0, if_neg (by decide), nw _ (by decide)] at h'
   simp only [ak] at h'
   rw [if_neg (by decide), nw _ (by decide)] at h'
   simp only [ak] at h'
   rw [if_neg (by decide), nw _ (by decide)] at h'
   simp only [ak] at h'
   rw [if_neg (by decide)] at h'
   simp at h'
end Go.Proofs.YtmpdhdnoohmndaaGreatDoor.Sp
namespace Go.Proofs.YtmpdhdnoohmndaaGreatDoor.Gj
open Go.RowKit Go.Proofs.YtmpdhdnoohmndaaGreatDoorW.PrintWords Sp
set_option linter.unusedVariables false
end Go.Proofs.YtmpdhdnoohmndaaGreatDoor.Gj
namespace Go.Proofs.YtmpdhdnoohmndaaGreatDoor.Sp
open Go.RowKit Go.Proofs.YtmpdhdnoohmndaaGreatDoorW.PrintWords Go.Proofs.YtmpdhdnoohmndaaGreatDoorW.PrintLast Go.Proofs.YtmpdhdnoohmndaaGreatDoorW.PrintMore Gj
set_option linter.unusedVariables false
def Plain (c : Int) : Prop := c ≠ 34 ∧ c ≠ 92 ∧ c ≠ 123 ∧ c ≠ 40 ∧ c ≠ 91 ∧ c ≠ 125 ∧ c ≠ 41 ∧ c ≠ 93
theorem Plain.vch {c : Int} (h : Plain c) : vch c = 0 := by
 obtain ⟨h1, h2, h3, h4, h5, h6, h7, h8⟩ := h
 unfold Gj.vch
 rw [if_neg h1, if_neg (by omega), if_neg (by omega)]
inductive Lex (s : au) : Int → Int → Prop
 | nil (i : Int) : Lex s i i
 | ch (i j : Int) : 0 ≤ i → i < s.size → Plain (bt s i) → Lex s (i + 1) j → Lex s i j
 | str (i k j : Int) : 0 ≤ i → StrSeg (bytesOf s) i k → Lex s k j → Lex s i j
 | br (i k j : Int) : 0 ≤ i → i < s.size → (bt s i = 123 ∨ bt s i = 91) → Lex s (i + 1) k → k < s.size → (bt s k = 125 ∨ bt s k = 93) → Lex s (k + 1) j → Lex s i j
theorem Lex.le {s : au} {i j : Int} (h : Lex s i j) : i ≤ j := by
 induction h with
 | nil i => omega
 | ch _ _ _ _ _ _ ih => omega
 | str _ _ _ _ h _ ih => have := h.2.1; omega
 | br _ _ _ _ _ _ _ _ _ _ ih1 ih2 => omega
theorem Lex.trans {s : au} {i j k : Int} (h : Lex s i j) (h' : Lex s j k) : Lex s i k := by
 induction h with
 | nil i => exact h'
 | ch i j h0 h1 h2 _ ih => exact .ch _ _ h0 h1 h2 (ih h')
 | str i k j h0 h1 _ ih => exact .str _ _ _ h0 h1 (ih h')
 | br i k j h0 h1 h2 h3 h4 h5 _ _ ih => exact .br _ _ _ h0 h1 h2 h3 h4 h5 (ih h')
theorem Lex.chars {s : au} : ∀ (n : Nat) {i : Int}, 0 ≤ i → i + n ≤ s.size → (∀ p, i ≤ p → p < i + n → Plain (bt s p)) → Lex s i (i + n)
 | 0, i, _, _, _ => by rw [show i + ((0 : Nat) : Int) = i by omega]; exact .nil i
 | n + 1, i, h0, h1, h => .ch _ _ h0 (by omega) (h i (by omega) (by omega)) (by
   have := Lex.chars n (i := i + 1) (by omega) (by omega) (fun p h2 h3 => h p (by omega) (by omega))
   rwa [show i + ((n + 1 : Nat) : Int) = i + 1 + (n : Int) by omega])
theorem Lex.plains {s : au} {i j : Int} (h0 : 0 ≤ i) (h1 : i ≤ j) (h2 : j ≤ s.size) (h : ∀ p, i ≤ p → p < j → Plain (bt s p)) : Lex s i j := by
 have := Lex.chars (s := s) (j - i).toNat h0 (by omega) (fun p h3 h4 => h p h3 (by omega))
 rwa [show i + (((j - i).toNat : Nat) : Int) = j by omega] at this
theorem blank_plain {c : Int} (h : isBlank c) : Plain c := by unfold isBlank at h; unfold Plain; omega
theorem num_plain {c : Int} (h : NumCh c) : Plain c := by unfold NumCh at h; unfold Plain; omega
theorem Blanks.lex {s : au} {i j : Int} (h0 : 0 ≤ i) (h : Blanks s i j) : Lex s i j := .plains h0 h.1 h.2.1 (fun p h1 h2 => blank_plain (h.2.2 p h1 h2))
theorem seg_at {x : List Int} {i j p : Int} {l : List Int} (h : seg x i j = l) (h0 : 0 ≤ i) (h1 : i ≤ p) (h2 : p < j) : rd x p = l.getD (p - i).toNat 0 := by
 subst h
 unfold seg rd
 simp only [List.getD_eq_getElem?_getD, List.getElem?_drop, List.getElem?_take]
 rw [show i.toNat + (p - i).toNat = p.toNat by omega, if_pos (by omega)]
theorem seg_size {x : List Int} {i j : Int} {l : List Int} (h : seg x i j = l) (h0 : 0 ≤ i) (h1 : i ≤ j) (h2 : j ≤ x.length) : j = i + l.length := by
 subst h
 rw [seg_len x i j h0 h1 h2]
 omega
theorem word_at {s : au} {i j : Int} {l : List Int} (h : seg (bytesOf s) i j = l) (h0 : 0 ≤ i) (h1 : i < j) (h2 : j ≤ s.size) : j = i + l.length ∧ ∀ q : Nat, q < l.length → bt s (i + q) = l.getD q 0 := by
 have e := seg_size h h0 (by omega) (by rw [bytesOf_length]; omega)
 refine ⟨e, fun q hq => ?_⟩
 have := seg_at (p := i + q) h h0 (by omega) (by omega)
 rw [rd_bytesOf] at this
 rw [this]
 congr 1
 omega
theorem word_lex {s : au} {i j : Int} {l : List Int} (h : seg (bytesOf s) i j = l) (h0 : 0 ≤ i) (h1 : i < j) (h2 : j ≤ s.size) (hl : ∀ q : Nat, q < l.length → 97 ≤ l.getD q 0 ∧ l.getD q 0 ≤ 122) : Lex s i j := by
 obtain ⟨e, g⟩ := word_at h h0 h1 h2
 refine .plains h0 (by omega) h2 (fun p h3 h4 => ?_)
 have h5 := g (p - i).toNat (by omega)
 have h6 := hl (p - i).toNat (by omega)
 rw [← h5, show i + (((p - i).toNat : Nat) : Int) = p by omega] at h6
 unfold Plain
 omega
def LexV (V : aG) (s : au) : Prop := ∀ p : S31, VR V s p → p.f1 ≤ s.size → Lex s p.f1 p.f2
theorem Kids.lex {V : aG} {s : au} (hV : LexV V s) {ks : List S31} {i j : Int} (h : Kids V s ks i j) (h0 : 0 ≤ i) : Lex s i (j - 1) ∧ bt s (j - 1) = 93 ∧ j - 1 < s.size := by
 induction h with
 | last p i r h1 h2 h3 h4 h5 h6 =>
  have b1 := h4.1
  have := hV p h1 (by omega)
  rw [h2] at this
  rw [show r + 1 - 1 = r by omega]
  exact ⟨this.trans (h4.lex (by omega)), h6, h5⟩
 | more p i r t j ks h1 h2 h3 h4 h5 h6 h7 h8 ih =>
  have b1 := h4.1
  have b2 := h7.1
  have := hV p h1 (by omega)
  rw [h2] at this
  obtain ⟨g1, g2, g3⟩ := ih (by omega)
  exact ⟨(this.trans (h4.lex (by omega))).trans (.ch _ _ (by omega) h5 (by rw [h6]; unfold Plain; omega) ((h7.lex (by omega)).trans g1)), g2, g3⟩
theorem Mems.lex {V : aG} {s : au} (hV : LexV V s) {ns : List S93} {ks : List S31} {i j : Int} (h : Mems V s ns ks i j) (h0 : 0 ≤ i) : Lex s i (j - 1) ∧ bt s (j - 1) = 125 ∧ j - 1 < s.size := by
 induction h with
 | last nm p i c r h1 h2 h3 h4 h5 h6 h7 h8 h9 h10 h11 =>
  have b1 := h2.2.1
  have b2 := h3.1
  have b3 := h6.1
  have b4 := h9.1
  have hp := hV p h7 (by omega)
  rw [show r + 1 - 1 = r by omega]
  exact ⟨.str _ _ _ h0 h2 ((h3.lex (by omega)).trans (.ch _ _ (by omega) h4 (by rw [h5]; unfold Plain; omega) ((h6.lex (by omega)).trans (hp.trans (h9.lex (by omega)))))), h11, h10⟩
 | more nm p i c r t j ns ks h1 h2 h3 h4 h5 h6 h7 h8 h9 h10 h11 h12 h13 ih =>
  have b1 := h2.2.1
  have b2 := h3.1
  have b3 := h6.1
  have b4 := h9.1
  have b5 := h12.1
  have hp := hV p h7 (by omega)
  obtain ⟨g1, g2, g3⟩ := ih (by omega)
  exact ⟨.str _ _ _ h0 h2 ((h3.lex (by omega)).trans (.ch _ _ (by omega) h4 (by rw [h5]; unfold Plain; omega) ((h6.lex (by omega)).trans (hp.trans ((h9.lex (by omega)).trans (.ch _ _ (by omega) h10 (by rw [h11]; unfold Plain; omega) ((h12.lex (by omega)).trans g1))))))), g2, g3⟩
theorem mems_at_lex {V : aG} {s : au} (hV : LexV V s) {ns : List S93} {ks : List S31} {i j : Int} (h : MemsAt V s i j ns ks) (h0 : 0 ≤ i) : Lex s (i + 1) (j - 1) ∧ bt s (j - 1) = 125 ∧ j - 1 < s.size := by
 rcases h with ⟨_, _, p, h1, h2, h3, rfl⟩ | ⟨p, h1, h2⟩
 ·rw [show p + 1 - 1 = p by omega]
  exact ⟨h1.lex (by omega), h3, h2⟩
 ·have b1 := h1.1
  obtain ⟨g1, g2, g3⟩ := h2.lex hV (by omega)
  exact ⟨(h1.lex (by omega)).trans g1, g2, g3⟩
theorem kids_at_lex {V : aG} {s : au} (hV : LexV V s) {ks : List S31} {i j : Int} (h : (ks = [] ∧ ∃ p, Blanks s (i + 1) p ∧ p < s.size ∧ bt s p = 93 ∧ j = p + 1) ∨ ∃ p, Blanks s (i + 1) p ∧ Kids V s ks p j) (h0 : 0 ≤ i) : Lex s (i + 1) (j - 1) ∧ bt s (j - 1) = 93 ∧ j - 1 < s.size := by
 rcases h with ⟨_, p, h1, h2, h3, rfl⟩ | ⟨p, h1, h2⟩
 ·rw [show p + 1 - 1 = p by omega]
  exact ⟨h1.lex (by omega), h3, h2⟩
 ·have b1 := h1.1
  obtain ⟨g1, g2, g3⟩ := h2.lex hV (by omega)
  exact ⟨(h1.lex (by omega)).trans g1, g2, g3⟩
theorem valo_lex {V : aG} {s : au} (hV : LexV V s) {kd i j : Int} {ns : List S93} {ks : List S31} (h : ValO V s kd i j ns ks) (h0 : 0 ≤ i) (h1 : i < s.size) (h2 : j ≤ s.size) : Lex s i j := by
 rcases h with ⟨_, g1, g2⟩ | ⟨_, _, g1, g2⟩ | ⟨_, _, _, g⟩ | ⟨_, _, _, _, g⟩ | ⟨_, _, g0, g⟩
 ·obtain ⟨g3, g4, g5⟩ := mems_at_lex hV g2 h0
  exact .br _ _ _ h0 h1 (.inl g1) g3 g5 (.inl g4) (by rw [show j - 1 + 1 = j by omega]; exact .nil _)
 ·obtain ⟨g3, g4, g5⟩ := kids_at_lex hV g2 h0
  exact .br _ _ _ h0 h1 (.inr g1) g3 g5 (.inr g4) (by rw [show j - 1 + 1 = j by omega]; exact .nil _)
 ·exact .str _ _ _ h0 g (.nil _)
 ·exact .plains h0 g.1 g.2.1 (fun p h3 h4 => num_plain (g.2.2 p h3 h4))
 ·rcases g with ⟨_, g⟩ | ⟨_, g⟩ | ⟨_, g⟩
  all_goals exact word_lex g h0 g0 h2 (by decide)
theorem value_lex {s : au} (hn : Small s) : ∀ D : Nat, LexV (aH.at_ D) s := by
 intro D
 induction D using Nat.strongRecOn with
 | _ D ih =>
 rintro p ⟨h0, k, h⟩ h1
 cases D with
 | zero => cases h
 | succ D =>
  obtain ⟨_, _, _, g1, g2, g3⟩ := value_known hn D k p.f1 p.f0 p.f1 p.f2 p.f3 p.f4 s p.f2 h0 h1 h
  exact valo_lex (ih (D - 1) (by omega)) g3 h0 (by omega) g2
end Go.Proofs.YtmpdhdnoohmndaaGreatDoor.Sp
namespace Go.Proofs.YtmpdhdnoohmndaaGreatDoor.Gj
open Go.RowKit Go.Proofs.YtmpdhdnoohmndaaGreatDoorW.PrintWords Sp
set_option linter.unusedVariables false
end Go.Proofs.YtmpdhdnoohmndaaGreatDoor.Gj

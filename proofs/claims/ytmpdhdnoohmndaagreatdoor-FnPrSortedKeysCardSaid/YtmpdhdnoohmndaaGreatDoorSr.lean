import Derived.Test.YtmpdhdnoohmndaaGreatDoorQa
import Derived.Shelf.Abstract
import Derived.Deep.LoopGhost
import Derived.Test.YtmpdhdnoohmndaaGreatDoorZip
namespace Go.Proofs.YtmpdhdnoohmndaaGreatDoor.So
set_option linter.unusedVariables false
structure Tot (lt : Nat → Nat → Bool) : Prop where
 tr : ∀ x y z, lt x y = true → lt y z = true → lt x z = true
 tq5 : ∀ x y, x ≠ y → lt x y = false → lt y x = true
 ir : ∀ x, lt x x = false
def swp (D : Nat → Nat) (i j : Nat) : Nat → Nat := fun k => if k = i then D j else if k = j then D i else D k
def rot (a m b : Nat) (D : Nat → Nat) : Nat → Nat := fun k => if a ≤ k ∧ k < a + (b - m) then D (k + (m - a)) else if a + (b - m) ≤ k ∧ k < b then D (k - (b - m)) else D k
structure Prm (a b : Nat) (D D' : Nat → Nat) : Prop where
 out : ∀ k, k < a ∨ b ≤ k → D' k = D k
 ins : ∃ p : Nat → Nat, (∀ k, a ≤ k → k < b → a ≤ p k ∧ p k < b ∧ D' k = D (p k)) ∧ (∀ k l, a ≤ k → k < b → a ≤ l → l < b → p k = p l → k = l)
def Inj (D : Nat → Nat) (n : Nat) : Prop := ∀ i j, i < n → j < n → D i = D j → i = j
def Srtd (lt : Nat → Nat → Bool) (D : Nat → Nat) (a b : Nat) : Prop := ∀ i j, a ≤ i → i < j → j < b → lt (D i) (D j) = true
theorem Prm.refl (a b : Nat) (D : Nat → Nat) : Prm a b D D := ⟨fun _ _ => rfl, id, fun k h1 h2 => ⟨h1, h2, rfl⟩, fun _ _ _ _ _ _ h => h⟩
theorem Prm.trans {a b : Nat} {D D1 D2 : Nat → Nat} (h : Prm a b D D1) (h' : Prm a b D1 D2) : Prm a b D D2 := by
 obtain ⟨o, p, hp, hi⟩ := h
 obtain ⟨o', p', hp', hi'⟩ := h'
 refine ⟨fun k hk => (o' k hk).trans (o k hk), fun k => p (p' k), fun k h1 h2 => ?_, fun k l h1 h2 h3 h4 e => ?_⟩
 ·obtain ⟨a1, a2, a3⟩ := hp' k h1 h2
  obtain ⟨b1, b2, b3⟩ := hp _ a1 a2
  exact ⟨b1, b2, a3.trans b3⟩
 ·obtain ⟨a1, a2, a3⟩ := hp' k h1 h2
  obtain ⟨b1, b2, b3⟩ := hp' l h3 h4
  exact hi' _ _ h1 h2 h3 h4 (hi _ _ a1 a2 b1 b2 e)
theorem Prm.wide {a b a' b' : Nat} {D D' : Nat → Nat} (h : Prm a b D D') (ha : a' ≤ a) (hb : b ≤ b') : Prm a' b' D D' := by
 obtain ⟨o, p, hp, hi⟩ := h
 refine ⟨fun k hk => o k (by omega), fun k => if a ≤ k ∧ k < b then p k else k, fun k h1 h2 => ?_, fun k l h1 h2 h3 h4 e => ?_⟩
 ·by_cases c : a ≤ k ∧ k < b
  ·obtain ⟨a1, a2, a3⟩ := hp k c.1 c.2
   simp only [if_pos c]
   exact ⟨by omega, by omega, a3⟩
  ·simp only [if_neg c]
   exact ⟨h1, h2, o k (by omega)⟩
 ·by_cases c : a ≤ k ∧ k < b <;> by_cases d : a ≤ l ∧ l < b <;> simp only [c, d, and_self, if_true, if_false] at e
  ·exact hi _ _ c.1 c.2 d.1 d.2 e
  ·obtain ⟨a1, a2, a3⟩ := hp k c.1 c.2; omega
  ·obtain ⟨a1, a2, a3⟩ := hp l d.1 d.2; omega
  ·exact e
theorem Prm.inj {a b n : Nat} {D D' : Nat → Nat} (h : Prm a b D D') (hb : b ≤ n) (hD : Inj D n) : Inj D' n := by
 have h0 := h.wide (Nat.zero_le a) hb
 obtain ⟨o, p, hp, hi⟩ := h0
 intro i j h1 h2 e
 obtain ⟨a1, a2, a3⟩ := hp i (Nat.zero_le _) h1
 obtain ⟨b1, b2, b3⟩ := hp j (Nat.zero_le _) h2
 exact hi _ _ (Nat.zero_le _) h1 (Nat.zero_le _) h2 (hD _ _ a2 b2 (by rw [← a3, ← b3]; exact e))
theorem Prm.rot {a m b : Nat} (D : Nat → Nat) (h1 : a ≤ m) (h2 : m ≤ b) : Prm a b D (rot a m b D) := by
 refine ⟨fun k hk => ?_, fun k => if k < a + (b - m) then k + (m - a) else k - (b - m), fun k h3 h4 => ?_, fun k l h3 h4 h5 h6 e => ?_⟩
 ·unfold So.rot; rw [if_neg (by omega), if_neg (by omega)]
 ·by_cases c : k < a + (b - m)
  ·simp only [if_pos c]; unfold So.rot; rw [if_pos (by omega)]; exact ⟨by omega, by omega, rfl⟩
  ·simp only [if_neg c]; unfold So.rot; rw [if_neg (by omega), if_pos (by omega)]; exact ⟨by omega, by omega, rfl⟩
 ·by_cases c : k < a + (b - m) <;> by_cases d : l < a + (b - m) <;> simp only [c, d, if_true, if_false] at e <;> omega
theorem rot_lo {a m b : Nat} (D : Nat → Nat) {k : Nat} (h : a ≤ k) (h1 : k < a + (b - m)) : rot a m b D k = D (k + (m - a)) := by unfold rot; rw [if_pos ⟨h, h1⟩]
theorem rot_hi {a m b : Nat} (D : Nat → Nat) {k : Nat} (h : a + (b - m) ≤ k) (h1 : k < b) : rot a m b D k = D (k - (b - m)) := by unfold rot; rw [if_neg (by omega), if_pos ⟨h, h1⟩]
theorem rot_out {a m b : Nat} (D : Nat → Nat) {k : Nat} (hm : a ≤ m) (hb : m ≤ b) (h : k < a ∨ b ≤ k) : rot a m b D k = D k := by unfold rot; rw [if_neg (by omega), if_neg (by omega)]
def All (lt : Nat → Nat → Bool) (D : Nat → Nat) (a m b : Nat) : Prop := ∀ i j, a ≤ i → i < m → m ≤ j → j < b → lt (D i) (D j) = true
theorem srt_join {lt : Nat → Nat → Bool} {D : Nat → Nat} {a m b : Nat} (h1 : Srtd lt D a m) (h2 : Srtd lt D m b) (h : All lt D a m b) : Srtd lt D a b := by
 intro i j g1 g2 g3
 by_cases c : j < m
 ·exact h1 i j g1 g2 c
 ·by_cases d : m ≤ i
  ·exact h2 i j d g2 g3
  ·exact h i j g1 (by omega) (by omega) g3
theorem All.prm {lt : Nat → Nat → Bool} {D D1 D2 : Nat → Nat} {a m b : Nat} (h : All lt D a m b) (h1 : Prm a m D D1) (h2 : Prm m b D1 D2) : All lt D2 a m b := by
 intro i j g1 g2 g3 g4
 obtain ⟨o1, p, hp, _⟩ := h1
 obtain ⟨o2, q, hq, _⟩ := h2
 obtain ⟨a1, a2, a3⟩ := hp i g1 g2
 obtain ⟨b1, b2, b3⟩ := hq j g3 g4
 rw [o2 i (.inl g2), a3, b3, o1 _ (.inr b1)]
 exact h _ _ a1 a2 b1 b2
theorem rot_all {lt : Nat → Nat → Bool} (T : Tot lt) {D : Nat → Nat} {a s m e b : Nat} (hL : Srtd lt D a m) (hR : Srtd lt D m b) (h1 : a ≤ s) (h2 : s ≤ m) (h3 : m ≤ e) (h4 : e ≤ b)
  (hA : a < s → e < b → lt (D (s - 1)) (D e) = true) (hB : s < m → m < e → lt (D (e - 1)) (D s) = true) : All lt (rot s m e D) a (s + (e - m)) b := by
 intro i j g1 g2 g3 g4
 have lei : ∀ i j k, a ≤ i → i ≤ j → j < m → lt (D j) k = true → lt (D i) k = true := fun i j k q1 q2 q3 q4 => by
  rcases Nat.lt_or_ge i j with c | c
  ·exact T.tr _ _ _ (hL i j q1 c q3) q4
  ·obtain rfl : i = j := by omega
   exact q4
 have ler : ∀ i j k, m ≤ i → i ≤ j → j < b → lt (D j) k = true → lt (D i) k = true := fun i j k q1 q2 q3 q4 => by
  rcases Nat.lt_or_ge i j with c | c
  ·exact T.tr _ _ _ (hR i j q1 c q3) q4
  ·obtain rfl : i = j := by omega
   exact q4
 have gel : ∀ i j k, a ≤ i → i ≤ j → j < m → lt k (D i) = true → lt k (D j) = true := fun i j k q1 q2 q3 q4 => by
  rcases Nat.lt_or_ge i j with c | c
  ·exact T.tr _ _ _ q4 (hL i j q1 c q3)
  ·obtain rfl : i = j := by omega
   exact q4
 have ger : ∀ i j k, m ≤ i → i ≤ j → j < b → lt k (D i) = true → lt k (D j) = true := fun i j k q1 q2 q3 q4 => by
  rcases Nat.lt_or_ge i j with c | c
  ·exact T.tr _ _ _ q4 (hR i j q1 c q3)
  ·obtain rfl : i = j := by omega
   exact q4
 by_cases ci : i < s
 ·rw [rot_out D h2 h3 (.inl ci)]
  by_cases cj : j < e
  ·rw [rot_hi D g3 cj]
   exact hL i _ g1 (by omega) (by omega)
  ·rw [rot_out D h2 h3 (.inr (by omega))]
   exact lei i (s - 1) _ g1 (by omega) (by omega) (ger e j _ h3 (by omega) g4 (hA (by omega) (by omega)))
 ·rw [rot_lo D (by omega) g2]
  by_cases cj : j < e
  ·rw [rot_hi D g3 cj]
   exact ler _ (e - 1) _ (by omega) (by omega) (by omega) (gel s _ _ h1 (by omega) (by omega) (hB (by omega) (by omega)))
  ·rw [rot_out D h2 h3 (.inr (by omega))]
   exact hR _ j (by omega) (by omega) g4
theorem rot_srt {lt : Nat → Nat → Bool} {D : Nat → Nat} {a s m e b : Nat} (hL : Srtd lt D a m) (hR : Srtd lt D m b) (h1 : a ≤ s) (h2 : s ≤ m) (h3 : m ≤ e) (h4 : e ≤ b) :
  Srtd lt (rot s m e D) a s ∧ Srtd lt (rot s m e D) s (s + (e - m)) ∧ Srtd lt (rot s m e D) (s + (e - m)) e ∧ Srtd lt (rot s m e D) e b := by
 refine ⟨fun i j g1 g2 g3 => ?_, fun i j g1 g2 g3 => ?_, fun i j g1 g2 g3 => ?_, fun i j g1 g2 g3 => ?_⟩
 ·rw [rot_out D h2 h3 (.inl (by omega)), rot_out D h2 h3 (.inl g3)]; exact hL i j g1 g2 (by omega)
 ·rw [rot_lo D g1 (by omega), rot_lo D (by omega) g3]; exact hR _ _ (by omega) (by omega) (by omega)
 ·rw [rot_hi D g1 (by omega), rot_hi D (by omega) g3]; exact hL _ _ (by omega) (by omega) (by omega)
 ·rw [rot_out D h2 h3 (.inr (by omega)), rot_out D h2 h3 (.inr (by omega))]; exact hR i j (by omega) g2 g3
theorem srt_small {lt : Nat → Nat → Bool} {D : Nat → Nat} {a b : Nat} (h : b ≤ a + 1) : Srtd lt D a b := fun i j g1 g2 g3 => by omega
theorem srt_eq {lt : Nat → Nat → Bool} {D D' : Nat → Nat} {a b : Nat} (h : Srtd lt D a b) (he : ∀ k, a ≤ k → k < b → D' k = D k) : Srtd lt D' a b := fun i j g1 g2 g3 => by
 rw [he i g1 (by omega), he j (by omega) g3]; exact h i j g1 g2 g3
theorem rot_up {a i : Nat} (D : Nat → Nat) (h : a ≤ i) : swp (rot a (a + 1) (i + 1) D) i (i + 1) = rot a (a + 1) (i + 2) D := by
 funext k
 unfold swp
 by_cases c1 : k = i
 ·subst c1
  rw [if_pos rfl, rot_lo (b := k + 2) D h (by omega), rot_out D (by omega) (by omega) (.inr (Nat.le_refl _))]
  congr 1; omega
 ·rw [if_neg c1]
  by_cases c2 : k = i + 1
  ·subst c2
   rw [if_pos rfl, rot_hi (b := i + 1) D (by omega) (by omega), rot_hi (b := i + 2) D (by omega) (by omega)]
   congr 1; omega
  ·rw [if_neg c2]
   by_cases c3 : a ≤ k ∧ k < i
   ·rw [rot_lo D c3.1 (by omega), rot_lo D c3.1 (by omega)]
   ·rw [rot_out D (by omega) (by omega) (by omega), rot_out D (by omega) (by omega) (by omega)]
theorem rot_down {j m : Nat} (D : Nat → Nat) (h0 : 0 < j) (h : j ≤ m) : swp (rot j m (m + 1) D) j (j - 1) = rot (j - 1) m (m + 1) D := by
 funext k
 unfold swp
 by_cases c1 : k = j
 ·subst c1
  rw [if_pos rfl, rot_out D h (by omega) (.inl (by omega)), rot_hi D (by omega) (by omega)]
  congr 1; omega
 ·rw [if_neg c1]
  by_cases c2 : k = j - 1
  ·subst c2
   rw [if_pos rfl, rot_lo D (Nat.le_refl _) (by omega), rot_lo D (Nat.le_refl _) (by omega)]
   congr 1; omega
  ·rw [if_neg c2]
   by_cases c3 : j < k ∧ k < m + 1
   ·rw [rot_hi D (by omega) c3.2, rot_hi D (by omega) c3.2]
   ·rw [rot_out D h (by omega) (by omega), rot_out D (by omega) (by omega) (by omega)]
theorem rot_none {a b : Nat} (D : Nat → Nat) (h : a ≤ b) : rot a a b D = D := by
 funext k
 unfold rot
 split
 ·congr 1; omega
 ·split
  ·omega
  ·rfl
theorem rot_none' {a b : Nat} (D : Nat → Nat) (h : a ≤ b) : rot a b b D = D := by
 funext k
 unfold rot
 split
 ·omega
 ·split
  ·congr 1; omega
  ·rfl
theorem srt_put {lt : Nat → Nat → Bool} (T : Tot lt) {D : Nat → Nat} {a j m : Nat} (hS : Srtd lt D a m) (h1 : a ≤ j) (h2 : j ≤ m) (hA : a < j → lt (D (j - 1)) (D m) = true) (hB : j < m → lt (D m) (D j) = true) : Srtd lt (rot j m (m + 1) D) a (m + 1) := by
 have hR : Srtd lt D m (m + 1) := srt_small (Nat.le_refl _)
 have hall := rot_all T hS hR h1 h2 (Nat.le_succ m) (Nat.le_refl _) (fun _ h => by omega) (fun h _ => hB h)
 obtain ⟨s1, s2, s3, _⟩ := rot_srt hS hR h1 h2 (Nat.le_succ m) (Nat.le_refl _)
 refine srt_join (srt_join s1 s2 fun i k g1 g2 g3 g4 => ?_) s3 hall
 obtain rfl : k = j := by omega
 rw [rot_out D h2 (by omega) (.inl g2), rot_lo D (Nat.le_refl _) (by omega), show k + (m - k) = m by omega]
 rcases Nat.lt_or_ge i (k - 1) with c | c
 ·exact T.tr _ _ _ (hS i (k - 1) g1 c (by omega)) (hA (by omega))
 ·obtain rfl : i = k - 1 := by omega
  exact hA (by omega)
def swr (a b n : Nat) (D : Nat → Nat) : Nat → Nat := fun k => if a ≤ k ∧ k < a + n then D (k - a + b) else if b ≤ k ∧ k < b + n then D (k - b + a) else D k
theorem swr_zero (a b : Nat) (D : Nat → Nat) : swr a b 0 D = D := by funext k; unfold swr; rw [if_neg (by omega), if_neg (by omega)]
theorem swr_step {a b i : Nat} (D : Nat → Nat) (h : a + i < b) : swp (swr a b i D) (a + i) (b + i) = swr a b (i + 1) D := by
 funext k
 unfold swp swr
 by_cases c1 : k = a + i
 ·subst c1
  rw [if_pos rfl, if_neg (by omega), if_neg (by omega), if_pos (by omega)]
  congr 1; omega
 ·rw [if_neg c1]
  by_cases c2 : k = b + i
  ·subst c2
   rw [if_pos rfl, if_neg (by omega), if_neg (by omega), if_neg (by omega), if_pos (by omega)]
   congr 1; omega
  ·rw [if_neg c2]
   by_cases c3 : a ≤ k ∧ k < a + i
   ·rw [if_pos c3, if_pos (by omega)]
   ·rw [if_neg c3, if_neg (show ¬ (a ≤ k ∧ k < a + (i + 1)) by omega)]
    by_cases c4 : b ≤ k ∧ k < b + i
    ·rw [if_pos c4, if_pos (by omega)]
    ·rw [if_neg c4, if_neg (by omega)]
theorem rot_same {m i : Nat} (D : Nat → Nat) (h : i ≤ m) : swr (m - i) m i D = rot (m - i) m (m + i) D := by
 funext k
 unfold swr rot
 by_cases c1 : m - i ≤ k ∧ k < m - i + i
 ·rw [if_pos c1, if_pos (by omega)]; congr 1; omega
 ·rw [if_neg c1, if_neg (show ¬ (m - i ≤ k ∧ k < m - i + (m + i - m)) by omega)]
  by_cases c2 : m ≤ k ∧ k < m + i
  ·rw [if_pos c2, if_pos (by omega)]; congr 1; omega
  ·rw [if_neg c2, if_neg (by omega)]
theorem rot_more {m i j : Nat} (D : Nat → Nat) (h : i ≤ m) (hj : j < i) : rot (m - (i - j)) m (m + j) (swr (m - i) m j D) = rot (m - i) m (m + j) D := by
 funext k
 unfold rot
 by_cases c1 : m - (i - j) ≤ k ∧ k < m - (i - j) + (m + j - m)
 ·rw [if_pos c1]
  unfold swr
  by_cases c2 : k < m - i + (m + j - m)
  ·rw [if_pos (show m - i ≤ k ∧ k < m - i + (m + j - m) by omega), if_neg (by omega), if_neg (by omega)]
   omega
  ·rw [if_neg (show ¬ (m - i ≤ k ∧ k < m - i + (m + j - m)) by omega), if_pos (show m - i + (m + j - m) ≤ k ∧ k < m + j by omega)]
   by_cases c3 : m ≤ k + (m - (m - (i - j)))
   ·rw [if_neg (by omega), if_pos (by omega)]; congr 1; omega
   ·rw [if_neg (by omega), if_neg (by omega)]; congr 1; omega
 ·rw [if_neg c1]
  by_cases c2 : m - (i - j) + (m + j - m) ≤ k ∧ k < m + j
  ·rw [if_pos c2, if_neg (by omega), if_pos (by omega)]
   unfold swr
   by_cases c3 : m ≤ k - (m + j - m)
   ·rw [if_neg (by omega), if_pos (by omega)]; congr 1; omega
   ·rw [if_neg (by omega), if_neg (by omega)]
  ·rw [if_neg c2]
   unfold swr
   by_cases c3 : m - i ≤ k ∧ k < m - i + j
   ·rw [if_pos c3, if_pos (by omega)]; congr 1; omega
   ·rw [if_neg c3, if_neg (by omega), if_neg (by omega), if_neg (by omega)]
theorem rot_less {m i j : Nat} (D : Nat → Nat) (h : i ≤ m) (hj : i < j) : rot (m - i) m (m + (j - i)) (swr (m - i) (m + j - i) i D) = rot (m - i) m (m + j) D := by
 funext k
 unfold rot
 by_cases c1 : m - i ≤ k ∧ k < m - i + (m + (j - i) - m)
 ·rw [if_pos c1, if_pos (by omega)]
  unfold swr
  rw [if_neg (by omega), if_neg (by omega)]
 ·rw [if_neg c1]
  by_cases c2 : m - i + (m + (j - i) - m) ≤ k ∧ k < m + (j - i)
  ·rw [if_pos c2, if_pos (by omega)]
   unfold swr
   rw [if_pos (by omega)]
   congr 1; omega
  ·rw [if_neg c2]
   unfold swr
   by_cases c3 : m + j - i ≤ k ∧ k < m + j
   ·rw [if_neg (by omega), if_pos (by omega), if_neg (by omega), if_pos (by omega)]; congr 1; omega
   ·rw [if_neg (by omega), if_neg (by omega), if_neg (by omega), if_neg (by omega)]
theorem merged {lt : Nat → Nat → Bool} (T : Tot lt) {D D1 D2 : Nat → Nat} {a s m e b mid : Nat} (hL : Srtd lt D a m) (hR : Srtd lt D m b) (h1 : a ≤ s) (h2 : s ≤ m) (h3 : m ≤ e) (h4 : e ≤ b) (hm : mid = s + (e - m))
  (hA : a < s → e < b → lt (D (s - 1)) (D e) = true) (hB : s < m → m < e → lt (D (e - 1)) (D s) = true)
  (p1 : Prm a mid (rot s m e D) D1) (s1 : Srtd lt D1 a mid) (p2 : Prm mid b D1 D2) (s2 : Srtd lt D2 mid b) : Prm a b D D2 ∧ Srtd lt D2 a b := by
 subst hm
 refine ⟨(((Prm.rot D h2 h3).wide h1 h4).trans (p1.wide (Nat.le_refl _) (by omega))).trans (p2.wide (by omega) (Nat.le_refl _)), srt_join (srt_eq s1 fun k g1 g2 => p2.out k (.inl g2)) s2 ((rot_all T hL hR h1 h2 h3 h4 hA hB).prm p1 p2)⟩
end Go.Proofs.YtmpdhdnoohmndaaGreatDoor.So
namespace Go.Proofs.YtmpdhdnoohmndaaGreatDoor.So
set_option maxHeartbeats 2000000
set_option maxRecDepth 100000
open Go.RowKit Go.Shelf Go.Proofs.YtmpdhdnoohmndaaGreatDoorW.PrintWords Go.Proofs.YtmpdhdnoohmndaaGreatDoorW.PrintLast Go.Proofs.YtmpdhdnoohmndaaGreatDoorW.PrintMore
set_option linter.unusedVariables false
set_option linter.unusedSimpArgs false
structure Sorter (rv : Value) (n : Nat) (lt : Nat → Nat → Bool) (St : (Nat → Nat) → World → Prop) : Prop where
 mS : ∀ w, Sem.run Tryz.prog (method 345 128 rv "Swap") w = .ok (156, rv) w
 mL : ∀ w, Sem.run Tryz.prog (method 345 128 rv "Less") w = .ok (155, rv) w
 mN : ∀ w, Sem.run Tryz.prog (method 345 128 rv "Len") w = .ok (154, rv) w
 drew : ∀ {D w} q, St D w → St D (w.drewN q)
 less : ∀ {D w} (i j : Nat) {x y : Int}, St D w → i < n → j < n → D i ≠ D j → x = i → y = j → Calls Tryz.prog 155 #[rv, .int .i64 x, .int .i64 y] w fun e w' => e = .returned (.bool (lt (D i) (D j))) ∧ St D w'
 swap : ∀ {D w} (i j : Nat) {x y : Int}, St D w → i < n → j < n → i ≠ j → x = i → y = j → Calls Tryz.prog 156 #[rv, .int .i64 x, .int .i64 y] w fun e w' => e = .returned (.tuple #[]) ∧ St (swp D i j) w'
 len : ∀ {D w}, St D w → Calls Tryz.prog 154 #[rv] w fun e w' => e = .returned (.int .i64 n) ∧ St D w'
 big : n ≤ 1000000
theorem eS : ∀ args w, (callFunc 156 args).run Tryz.prog w = .ok (.enter 156 args) w := enters_of Tryz.func156 (by kernel_rfl) rfl
theorem eL : ∀ args w, (callFunc 155 args).run Tryz.prog w = .ok (.enter 155 args) w := enters_of Tryz.func155 (by kernel_rfl) rfl
theorem eN : ∀ args w, (callFunc 154 args).run Tryz.prog w = .ok (.enter 154 args) w := enters_of Tryz.func154 (by kernel_rfl) rfl
section
variable {rv : Value} {n : Nat} {lt : Nat → Nat → Bool} {St : (Nat → Nat) → World → Prop}
theorem swapRange_calls (S : Sorter rv n lt St) (a b m : Nat) {x y z : Int} (D : Nat → Nat) (w : World) (h : St D w) (h1 : a + m ≤ b) (h2 : b + m ≤ n) (hx : x = a) (hy : y = b) (hz : z = m) :
  Calls Tryz.prog 123 #[.iface 128 rv, .int .i64 x, .int .i64 y, .int .i64 z] w fun e w' => e = .returned (.tuple #[]) ∧ St (swr a b m D) w' := by
 subst hx hy hz
 have mS := S.mS
 have eS := eS
 have hbig := S.big
 go_enter Tryz.func123, Tryz.ntmps123
 go_wp2
 go_loopg [8] m (fun k v8 wr => ∃ i : Nat, v8 = .int .i64 i ∧ i ≤ m ∧ m - i ≤ k ∧ St (swr a b i D) wr)
 case atStart => exact ⟨0, rfl, Nat.zero_le _, Nat.le_refl _, by rw [swr_zero]; exact h⟩
 case round =>
  obtain ⟨i, rfl, hi, hk, hs⟩ := hrel
  have HS := aa hs
  clear hs h
  go_wp2_with (go_at_fn 156; refine (S.swap (a + i) (b + i) HS.out (by omega) (by omega) (by omega) (by omega) (by omega)).mono ?_; rintro e w' ⟨rfl, hs⟩)
  ·go_roundg (m - (i + 1))
   case measure => omega
   case rel => exact ⟨i + 1, by simp, by omega, Nat.le_refl _, by rw [← swr_step D (by omega)]; exact hs⟩
  ·go_end0
   obtain rfl : i = m := by omega
   exact ⟨rfl, HS.out⟩
theorem rotate_calls (S : Sorter rv n lt St) (a m b : Nat) {x y z : Int} (D : Nat → Nat) (w : World) (h : St D w) (h1 : a < m) (h2 : m < b) (h3 : b ≤ n) (hx : x = a) (hy : y = m) (hz : z = b) :
  Calls Tryz.prog 114 #[.iface 128 rv, .int .i64 x, .int .i64 y, .int .i64 z] w fun e w' => e = .returned (.tuple #[]) ∧ St (rot a m b D) w' := by
 subst hx hy hz
 have hbig := S.big
 go_enter Tryz.func114, Tryz.ntmps114
 go_wp2
 go_loopg [8, 9] b (fun k v8 v9 wr => ∃ (i j : Nat) (x y : Int) (D' : Nat → Nat), v8 = .int .i64 x ∧ v9 = .int .i64 y ∧ x = i ∧ y = j ∧ 1 ≤ i ∧ 1 ≤ j ∧ a + i ≤ m ∧ m + j ≤ b ∧ i + j ≤ k ∧ Aside0 (rot (m - i) m (m + j) D' = rot a m b D) ∧ St D' wr)
 case atStart => exact ⟨m - a, b - m, _, _, D, rfl, rfl, by omega, by omega, by omega, by omega, by omega, by omega, by omega, ⟨by rw [show m - (m - a) = a by omega, show m + (b - m) = b by omega]⟩, h⟩
 case round =>
  obtain ⟨i, j, x, y, D', rfl, rfl, hx, hy, g1, g2, g3, g4, hk, HD, hs⟩ := hrel
  have HS := aa hs
  clear hs h
  rcases Nat.lt_trichotomy i j with c | c | c
  ·have c1 : (x != y) = true := ai (by omega)
   have c2 : decide (x > y) = false := ae (by omega)
   go_wp2_with (go_at_call 123; refine (swapRange_calls S (m - i) (m + j - i) i _ _ HS.out (by omega) (by omega) (by omega) (by omega) (by omega)).mono ?_; rintro e w' ⟨rfl, hs⟩)
   go_roundg (j)
   case measure => omega
   case rel => exact ⟨i, j - i, _, _, _, rfl, rfl, rfl, by omega, g1, by omega, g3, by omega, by omega, ⟨by rw [rot_less D' (by omega) c]; exact HD.out⟩, hs⟩
  ·have c1 : (x != y) = false := aj (by omega)
   go_wp2_with (go_at_call 123; refine (swapRange_calls S (m - i) m i _ _ HS.out (by omega) (by omega) (by omega) (by omega) (by omega)).mono ?_; rintro e w' ⟨rfl, hs⟩)
   go_end0
   subst c
   exact ⟨rfl, by rw [← HD.out, ← rot_same D' (by omega)]; exact hs⟩
  ·have c1 : (x != y) = true := ai (by omega)
   have c2 : decide (x > y) = true := ac (by omega)
   go_wp2_with (go_at_call 123; refine (swapRange_calls S (m - i) m j _ _ HS.out (by omega) (by omega) (by omega) (by omega) (by omega)).mono ?_; rintro e w' ⟨rfl, hs⟩)
   go_roundg (i)
   case measure => omega
   case rel => exact ⟨i - j, j, _, _, _, rfl, rfl, by omega, rfl, by omega, g2, by omega, g4, by omega, ⟨by rw [rot_more D' (by omega) c]; exact HD.out⟩, hs⟩
end
end Go.Proofs.YtmpdhdnoohmndaaGreatDoor.So
namespace Go.Proofs.YtmpdhdnoohmndaaGreatDoor.So
open Go.RowKit Go.Shelf Go.Proofs.YtmpdhdnoohmndaaGreatDoorW.PrintWords Go.Proofs.YtmpdhdnoohmndaaGreatDoorW.PrintLast Go.Proofs.YtmpdhdnoohmndaaGreatDoorW.PrintMore
set_option linter.unusedVariables false
set_option linter.unusedSimpArgs false
section
variable {rv : Value} {n : Nat} {lt : Nat → Nat → Bool} {St : (Nat → Nat) → World → Prop}
set_option maxHeartbeats 2000000 in
set_option maxRecDepth 100000 in
theorem insertion_calls (S : Sorter rv n lt St) (T : Tot lt) (a b : Nat) {x y : Int} (D : Nat → Nat) (w : World) (h : St D w) (hI : Inj D n) (h1 : a ≤ b) (h2 : b ≤ n) (hx : x = a) (hy : y = b) :
  Calls Tryz.prog 97 #[.iface 128 rv, .int .i64 x, .int .i64 y] w fun e w' => e = .returned (.tuple #[]) ∧ ∃ D', Prm a b D D' ∧ Srtd lt D' a b ∧ St D' w' := by
 subst hx hy
 have hbig := S.big
 have mS := S.mS
 have eS := eS
 have mL := S.mL
 have eL := eL
 go_enter Tryz.func97, Tryz.ntmps97
 go_wp2
 go_loopg [6] b (fun k v6 wr => ∃ (i : Nat) (D' : Nat → Nat), v6 = .int .i64 i ∧ a < i ∧ (i ≤ b ∨ i = a + 1) ∧ b - i ≤ k ∧ Aside0 (Srtd lt D' a i ∧ Prm a b D D') ∧ St D' wr)
 case atStart => exact ⟨a + 1, D, by simp, by omega, by omega, by omega, ⟨srt_small (Nat.le_refl _), Prm.refl _ _ _⟩, h⟩
 case round =>
  obtain ⟨i, D', rfl, g1, g2, hk, HD, hs⟩ := hrel
  have HS := aa hs
  clear hs h
  by_cases c : i < b
  ·have hI' := aa (HD.out.2.inj h2 hI)
   go_wp2
   go_loopg [7] (i - a) (fun k v7 wr => ∃ j : Nat, v7 = .int .i64 j ∧ a ≤ j ∧ j ≤ i ∧ j - a ≤ k ∧ Aside0 (j < i → lt (D' i) (D' j) = true) ∧ St (rot j i (i + 1) D') wr)
   case atStart => exact ⟨i, rfl, by omega, Nat.le_refl _, Nat.le_refl _, ⟨fun h => by omega⟩, by rw [rot_none D' (by omega)]; exact HS.out⟩
   case round =>
    obtain ⟨j, rfl, g3, g4, hk2, HL, hs⟩ := hrel
    have HS2 := aa hs
    clear hs HS
    have done : (a < j → lt (D' (j - 1)) (D' i) = true) → Srtd lt (rot j i (i + 1) D') a (i + 1) ∧ Prm a b D (rot j i (i + 1) D') := fun hA =>
     ⟨srt_put T HD.out.1 g3 g4 hA HL.out, HD.out.2.trans ((Prm.rot D' g4 (Nat.le_succ _)).wide g3 (by omega))⟩
    have DONE := aa done
    clear done
    by_cases cj : a < j
    ·have d1 : rot j i (i + 1) D' j = D' i := by rw [rot_lo D' (Nat.le_refl _) (by omega)]; congr 1; omega
     have d2 : rot j i (i + 1) D' (j - 1) = D' (j - 1) := rot_out D' g4 (Nat.le_succ _) (.inl (by omega))
     have hne : D' i ≠ D' (j - 1) := fun e => by have := hI'.out i (j - 1) (by omega) (by omega) e; omega
     have hl := fun y' (hy' : y' = ((j : Nat) : Int)) => S.less j (j - 1) (x := y') (y := y' - 1) HS2.out (by omega) (by omega) (by rw [d1, d2]; exact hne) hy' (by omega)
     rw [d1, d2] at hl
     have HN := aa hne
     have HW := aa hl
     clear d1 d2 hl hne
     cases hlv : lt (D' i) (D' (j - 1)) with
     | true =>
      rw [hlv] at HW
      go_wp2_with (first | (go_at_fn 155; refine (HW.out _ (by omega)).mono ?_; rintro e w' ⟨rfl, hs⟩) | (go_at_fn 156; refine (S.swap j (j - 1) hs (by omega) (by omega) (by omega) (by omega) (by omega)).mono ?_; rintro e w'' ⟨rfl, hs2⟩))
      go_roundg (j - 1 - a)
      case measure => omega
      case rel => exact ⟨j - 1, by congr 1; omega, by omega, by omega, Nat.le_refl _, ⟨fun _ => hlv⟩, by rw [← rot_down D' (by omega) g4]; exact hs2⟩
     | false =>
      rw [hlv] at HW
      go_wp2_with (go_at_fn 155; refine (HW.out _ (by omega)).mono ?_; rintro e w' ⟨rfl, hs⟩)
      go_roundg (b - (i + 1))
      case measure => omega
      case rel => exact ⟨i + 1, _, by simp, by omega, by omega, Nat.le_refl _, ⟨DONE.out fun _ => T.tq5 _ _ HN.out hlv⟩, hs⟩
    ·go_wp2
     go_roundg (b - (i + 1))
     case measure => omega
     case rel => exact ⟨i + 1, _, by simp, by omega, by omega, Nat.le_refl _, ⟨DONE.out fun h => by omega⟩, HS2.out⟩
  ·go_wp2
   go_end0
   refine ⟨rfl, D', HD.out.2, ?_, HS.out⟩
   rcases g2 with g2 | g2
   ·obtain rfl : i = b := by omega
    exact HD.out.1
   ·exact srt_small (by omega)
end
end Go.Proofs.YtmpdhdnoohmndaaGreatDoor.So
namespace Go.Proofs.YtmpdhdnoohmndaaGreatDoor.So
set_option maxHeartbeats 2000000
set_option maxRecDepth 100000
open Go.RowKit Go.Shelf Go.Proofs.YtmpdhdnoohmndaaGreatDoorW.PrintWords Go.Proofs.YtmpdhdnoohmndaaGreatDoorW.PrintLast Go.Proofs.YtmpdhdnoohmndaaGreatDoorW.PrintMore
set_option linter.unusedVariables false
set_option linter.unusedSimpArgs false
theorem ins_left {lt : Nat → Nat → Bool} (T : Tot lt) {D : Nat → Nat} {a i b : Nat} (hR : Srtd lt D (a + 1) b) (h1 : a + 1 ≤ i) (h2 : i ≤ b) (hA : a + 1 < i → lt (D (i - 1)) (D a) = true) (hB : i < b → lt (D a) (D i) = true) :
  Prm a b D (rot a (a + 1) i D) ∧ Srtd lt (rot a (a + 1) i D) a b := by
 have hL : Srtd lt D a (a + 1) := srt_small (Nat.le_refl _)
 have hs := rot_srt hL hR (Nat.le_refl a) (Nat.le_succ a) h1 h2
 refine merged T hL hR (Nat.le_refl a) (Nat.le_succ a) h1 h2 rfl (fun h _ => by omega) (fun _ h => hA h) (Prm.refl _ _ _) hs.2.1 (Prm.refl _ _ _) (srt_join hs.2.2.1 hs.2.2.2 fun x y g1 g2 g3 g4 => ?_)
 rw [rot_hi D g1 g2, rot_out D (by omega) h1 (.inr g3), show x - (i - (a + 1)) = a by omega]
 rcases Nat.lt_or_ge i y with c | c
 ·exact T.tr _ _ _ (hB (by omega)) (hR i y h1 c g4)
 ·obtain rfl : y = i := by omega
  exact hB g4
section
variable {rv : Value} {n : Nat} {lt : Nat → Nat → Bool} {St : (Nat → Nat) → World → Prop}
theorem sym_one (S : Sorter rv n lt St) (T : Tot lt) (a m b : Nat) {x y z : Int} (D : Nat → Nat) (w : World) (h : St D w) (hI : Inj D n) (hm : m = a + 1) (h1 : m < b) (h2 : b ≤ n) (hR : Srtd lt D m b) (hx : x = a) (hy : y = m) (hz : z = b) :
  Calls Tryz.prog 98 #[.iface 128 rv, .int .i64 x, .int .i64 y, .int .i64 z] w fun e w' => e = .returned (.tuple #[]) ∧ ∃ D', Prm a b D D' ∧ Srtd lt D' a b ∧ St D' w' := by
 subst hx hy hz
 have hbig := S.big
 have mS := S.mS
 have eS := eS
 have mL := S.mL
 have eL := eL
 have HM := aa hm
 have c0 : (m : Int) - (a : Int) = 1 := by omega
 clear hm
 go_enter Tryz.func98, Tryz.ntmps98
 go_wp2
 go_loopg [8, 9] b (fun k v8 v9 wr => ∃ i j : Nat, v8 = .int .i64 i ∧ v9 = .int .i64 j ∧ m ≤ i ∧ i ≤ j ∧ j ≤ b ∧ j - i ≤ k ∧ Aside0 ((m < i → lt (D (i - 1)) (D a) = true) ∧ (j < b → lt (D a) (D j) = true)) ∧ St D wr)
 case atStart => exact ⟨m, b, rfl, rfl, Nat.le_refl _, by omega, Nat.le_refl _, by omega, ⟨fun h => by omega, fun h => by omega⟩, h⟩
 case round =>
  obtain ⟨i, j, rfl, rfl, g1, g2, g3, hk, HA, hs⟩ := hrel
  have HS := aa hs
  clear hs h
  by_cases c : i < j
  ·have hne : D ((i + j) / 2) ≠ D a := fun e => by have := HM.out; have := hI ((i + j) / 2) a (by omega) (by omega) e; omega
   have HW := aa (fun y' (hy' : y' = ((((i + j) / 2 : Nat)) : Int)) => S.less ((i + j) / 2) a (x := y') (y := (a : Int)) HS.out (by omega) (by have := HM.out; omega) hne hy' rfl)
   cases hlv : lt (D ((i + j) / 2)) (D a) with
   | true =>
    rw [hlv] at HW
    go_wp2_with (go_at_fn 155; refine (HW.out _ (by omega)).mono ?_; rintro e w' ⟨rfl, hs⟩)
    go_roundg (j - ((i + j) / 2 + 1))
    case measure => omega
    case rel => exact ⟨(i + j) / 2 + 1, j, by congr 1, rfl, by omega, by omega, g3, Nat.le_refl _, ⟨fun _ => hlv, HA.out.2⟩, hs⟩
   | false =>
    rw [hlv] at HW
    go_wp2_with (go_at_fn 155; refine (HW.out _ (by omega)).mono ?_; rintro e w' ⟨rfl, hs⟩)
    go_roundg ((i + j) / 2 - i)
    case measure => omega
    case rel => exact ⟨i, (i + j) / 2, rfl, by congr 1, g1, by omega, by omega, Nat.le_refl _, ⟨HA.out.1, fun _ => T.tq5 _ _ hne hlv⟩, hs⟩
  ·obtain rfl : i = j := by omega
   have FIN := aa (show Prm a b D (rot a (a + 1) i D) ∧ Srtd lt (rot a (a + 1) i D) a b by have e := HM.out; subst e; exact ins_left T hR g1 g3 HA.out.1 HA.out.2)
   have g4 : a + 1 ≤ i := by have := HM.out; omega
   clear HA
   go_wp2
   go_loopg [11] (i - 1 - a) (fun k v11 wr => ∃ q : Nat, v11 = .int .i64 q ∧ a ≤ q ∧ q + 1 ≤ i ∧ i - 1 - q ≤ k ∧ St (rot a (a + 1) (q + 1) D) wr)
   case atStart => exact ⟨a, rfl, Nat.le_refl _, g4, Nat.le_refl _, by rw [rot_none' D (Nat.le_succ a)]; exact HS.out⟩
   case round =>
    obtain ⟨q, rfl, q1, q2, hk, hs⟩ := hrel
    have HS2 := aa hs
    clear hs HS
    by_cases cq : q < i - 1
    ·have d : decide ((q : Int) < (i : Int) - 1) = true := ac (by omega)
     go_wp2_with (go_at_fn 156; refine (S.swap q (q + 1) HS2.out (by omega) (by omega) (by omega) (by omega) (by omega)).mono ?_; rintro e w' ⟨rfl, hs⟩)
     go_roundg (i - 1 - (q + 1))
     case measure => omega
     case rel => exact ⟨q + 1, by simp, by omega, by omega, Nat.le_refl _, by rw [← rot_up D q1]; exact hs⟩
    ·have d : decide ((q : Int) < (i : Int) - 1) = false := ae (by omega)
     go_wp2
     refine bodyPost_ret (results_none rfl _ _ _) rfl ?_
     obtain rfl : i = q + 1 := by omega
     exact ⟨rfl, _, FIN.out.1, FIN.out.2, HS2.out⟩
theorem sym_last (S : Sorter rv n lt St) (T : Tot lt) (a m b : Nat) {x y z : Int} (D : Nat → Nat) (w : World) (h : St D w) (hI : Inj D n) (hb : b = m + 1) (h1 : a + 1 < m) (h2 : b ≤ n) (hL : Srtd lt D a m) (hx : x = a) (hy : y = m) (hz : z = b) :
  Calls Tryz.prog 98 #[.iface 128 rv, .int .i64 x, .int .i64 y, .int .i64 z] w fun e w' => e = .returned (.tuple #[]) ∧ ∃ D', Prm a b D D' ∧ Srtd lt D' a b ∧ St D' w' := by
 subst hx hy hz
 have hbig := S.big
 have mS := S.mS
 have eS := eS
 have mL := S.mL
 have eL := eL
 have HM := aa hb
 have c1 : (b : Int) - (m : Int) = 1 := by omega
 have h2' : m < n := by omega
 clear hb
 have c0 : ((m : Int) - (a : Int) == 1) = false := ag (by omega)
 go_enter Tryz.func98, Tryz.ntmps98
 go_wp2
 go_loopg [12, 13] m (fun k v12 v13 wr => ∃ i j : Nat, v12 = .int .i64 i ∧ v13 = .int .i64 j ∧ a ≤ i ∧ i ≤ j ∧ j ≤ m ∧ j - i ≤ k ∧ Aside0 ((a < i → lt (D (i - 1)) (D m) = true) ∧ (j < m → lt (D m) (D j) = true)) ∧ St D wr)
 case atStart => exact ⟨a, m, rfl, rfl, Nat.le_refl _, by omega, Nat.le_refl _, by omega, ⟨fun h => by omega, fun h => by omega⟩, h⟩
 case round =>
  obtain ⟨i, j, rfl, rfl, g1, g2, g3, hk, HA, hs⟩ := hrel
  have HS := aa hs
  clear hs h
  by_cases c : i < j
  ·have hne : D m ≠ D ((i + j) / 2) := fun e => by have := hI m ((i + j) / 2) (by omega) (by omega) e; omega
   have HW := aa (fun y' (hy' : y' = ((((i + j) / 2 : Nat)) : Int)) => S.less m ((i + j) / 2) (x := (m : Int)) (y := y') HS.out (by omega) (by omega) hne rfl hy')
   cases hlv : lt (D m) (D ((i + j) / 2)) with
   | true =>
    rw [hlv] at HW
    go_wp2_with (go_at_fn 155; refine (HW.out _ (by omega)).mono ?_; rintro e w' ⟨rfl, hs⟩)
    go_roundg ((i + j) / 2 - i)
    case measure => omega
    case rel => exact ⟨i, (i + j) / 2, rfl, by congr 1, g1, by omega, by omega, Nat.le_refl _, ⟨HA.out.1, fun _ => hlv⟩, hs⟩
   | false =>
    rw [hlv] at HW
    go_wp2_with (go_at_fn 155; refine (HW.out _ (by omega)).mono ?_; rintro e w' ⟨rfl, hs⟩)
    go_roundg (j - ((i + j) / 2 + 1))
    case measure => omega
    case rel => exact ⟨(i + j) / 2 + 1, j, by congr 1, rfl, by omega, by omega, g3, Nat.le_refl _, ⟨fun _ => T.tq5 _ _ hne hlv, HA.out.2⟩, hs⟩
  ·obtain rfl : i = j := by omega
   have FIN := aa (And.intro ((Prm.rot D g3 (Nat.le_succ m)).wide g1 (Nat.le_refl _)) (srt_put T hL g1 g3 HA.out.1 HA.out.2))
   clear HA
   go_wp2
   go_loopg [15] (m - i) (fun k v15 wr => ∃ q : Nat, v15 = .int .i64 q ∧ i ≤ q ∧ q ≤ m ∧ q - i ≤ k ∧ St (rot q m (m + 1) D) wr)
   case atStart => exact ⟨m, rfl, g3, Nat.le_refl _, Nat.le_refl _, by rw [rot_none D (Nat.le_succ m)]; exact HS.out⟩
   case round =>
    obtain ⟨q, rfl, q1, q2, hk, hs⟩ := hrel
    have HS2 := aa hs
    clear hs HS
    by_cases cq : i < q
    ·go_wp2_with (go_at_fn 156; refine (S.swap q (q - 1) HS2.out (by omega) (by omega) (by omega) (by omega) (by omega)).mono ?_; rintro e w' ⟨rfl, hs⟩)
     go_roundg (q - 1 - i)
     case measure => omega
     case rel => exact ⟨q - 1, by congr 1; omega, by omega, by omega, Nat.le_refl _, by rw [← rot_down D (by omega) q2]; exact hs⟩
    ·go_wp2
     refine bodyPost_ret (results_none rfl _ _ _) rfl ?_
     obtain rfl : i = q := by omega
     exact ⟨rfl, _, by rw [HM.out]; exact FIN.out.1, by rw [HM.out]; exact FIN.out.2, HS2.out⟩
end
end Go.Proofs.YtmpdhdnoohmndaaGreatDoor.So
namespace Go.Proofs.YtmpdhdnoohmndaaGreatDoor.So
open Go.RowKit Go.Shelf Go.Proofs.YtmpdhdnoohmndaaGreatDoorW.PrintWords Go.Proofs.YtmpdhdnoohmndaaGreatDoorW.PrintLast Go.Proofs.YtmpdhdnoohmndaaGreatDoorW.PrintMore
set_option linter.unusedVariables false
set_option linter.unusedSimpArgs false
structure Way (a m b mid s0 r0 : Nat) : Prop where
 le : a ≤ s0 ∧ s0 ≤ r0 ∧ r0 ≤ m
 md : r0 ≤ mid ∧ s0 ≤ mid
 p : ∀ c, s0 ≤ c → c < r0 → m + c + 1 ≤ mid + m ∧ mid + m < b + c + 1
 lo : s0 = a ∨ mid + m = b + s0
 hi : r0 = m ∨ r0 = mid
 e : mid + m ≤ b + s0
section
variable {rv : Value} {n : Nat} {lt : Nat → Nat → Bool} {St : (Nat → Nat) → World → Prop}
set_option maxHeartbeats 4000000 in
set_option maxRecDepth 100000 in
theorem sym_calls (S : Sorter rv n lt St) (T : Tot lt) : ∀ (d a m b : Nat) {x y z : Int} (D : Nat → Nat) (w : World), b - a ≤ d → St D w → Inj D n → a < m → m < b → b ≤ n → Srtd lt D a m → Srtd lt D m b → x = a → y = m → z = b →
  Calls Tryz.prog 98 #[.iface 128 rv, .int .i64 x, .int .i64 y, .int .i64 z] w fun e w' => e = .returned (.tuple #[]) ∧ ∃ D', Prm a b D D' ∧ Srtd lt D' a b ∧ St D' w' := by
 intro d
 induction d with
 | zero => intro a m b x y z D w hd h hI h1 h2; omega
 | succ d ih =>
  intro a m b x y z D w hd h hI h1 h2 h3 hL hR hx hy hz
  by_cases e1 : m = a + 1
  ·exact sym_one S T a m b D w h hI e1 h2 h3 hR hx hy hz
  by_cases e2 : b = m + 1
  ·exact sym_last S T a m b D w h hI e2 (by omega) h3 hL hx hy hz
  subst hx hy hz
  have hbig := S.big
  have mS := S.mS
  have eS := eS
  have mL := S.mL
  have eL := eL
  have c0 : ((m : Int) - (a : Int) == 1) = false := ag (by omega)
  have c1 : ((b : Int) - (m : Int) == 1) = false := ag (by omega)
  obtain ⟨mid, hmid⟩ : ∃ mid : Nat, (a + b) / 2 = mid := ⟨_, rfl⟩
  have f0 : ((a : Int) + (b : Int)) / 2 = (mid : Int) := by omega
  have q0 : a < mid ∧ mid < b := by omega
  obtain ⟨s0, r0, hway⟩ : ∃ s0 r0, Aside0 (Way a m b mid s0 r0) ∧ ((decide (mid < m) = true ∧ s0 = mid + m - b ∧ r0 = mid) ∨ (decide (mid < m) = false ∧ s0 = a ∧ r0 = m)) := by
   by_cases c : mid < m
   ·exact ⟨mid + m - b, mid, ⟨⟨by omega, by omega, fun c g1 g2 => by omega, by omega, by omega, by omega⟩⟩, .inl ⟨ac c, rfl, rfl⟩⟩
   ·exact ⟨a, m, ⟨⟨by omega, by omega, fun c g1 g2 => by omega, by omega, by omega, by omega⟩⟩, .inr ⟨ae c, rfl, rfl⟩⟩
  have HM := aa hmid
  clear hmid e1 e2
  have HWAY := hway.1
  rcases hway.2 with ⟨c2, cs, cr⟩ | ⟨c2, cs, cr⟩
  all_goals
   have HC := aa (And.intro cs cr)
   clear hway cs cr
   go_enter Tryz.func98, Tryz.ntmps98
   go_wp2
   have HC2 := aa (show (mid < m ∧ decide (mid < m) = true) ∨ (m ≤ mid ∧ decide (mid < m) = false) by rcases Nat.lt_or_ge mid m with v | v; exact .inl ⟨v, ac v⟩; exact .inr ⟨v, ae (by omega)⟩)
   rw [c2] at HC2
   simp only [and_true, and_false, or_false, false_or, Bool.false_eq_true, Bool.true_eq_false, reduceCtorEq] at HC2
   clear c0 c1 c2 f0
   go_loopg [18, 19] (r0 - s0) (fun k v18 v19 wr => ∃ s r : Nat, v18 = .int .i64 s ∧ v19 = .int .i64 r ∧ s0 ≤ s ∧ s ≤ r ∧ r ≤ r0 ∧ r - s ≤ k ∧ Aside0 ((s0 < s → lt (D (s - 1)) (D (mid + m - s)) = true) ∧ (r < r0 → lt (D (mid + m - 1 - r)) (D r) = true)) ∧ St D wr)
   case atStart => exact ⟨s0, r0, by congr 1; have := HC.out; have := HM.out; have := HC2.out; omega, by congr 1; have := HC.out; omega, Nat.le_refl _, HWAY.out.le.2.1, Nat.le_refl _, Nat.le_refl _, ⟨fun h => by omega, fun h => by omega⟩, h⟩
   case round =>
    obtain ⟨s, r, rfl, rfl, g1, g2, g3, hk, HA, hs⟩ := hrel
    have HS := aa hs
    clear hs h HC
    have hW0 := HWAY.out.le
    by_cases c : s < r
    ·have hp := HWAY.out.p ((s + r) / 2) (by omega) (by omega)
     have hne : D (mid + m - 1 - (s + r) / 2) ≠ D ((s + r) / 2) := fun e => by have := hI (mid + m - 1 - (s + r) / 2) ((s + r) / 2) (by omega) (by omega) e; omega
     have HW := aa (fun (x' y' : Int) (hx' : x' = ((mid + m - 1 - (s + r) / 2 : Nat) : Int)) (hy' : y' = ((((s + r) / 2 : Nat)) : Int)) => S.less (mid + m - 1 - (s + r) / 2) ((s + r) / 2) (x := x') (y := y') HS.out (by omega) (by omega) hne hx' hy')
     have HP := aa hp
     clear hp
     cases hlv : lt (D (mid + m - 1 - (s + r) / 2)) (D ((s + r) / 2)) with
     | true =>
      rw [hlv] at HW
      go_wp2_with (go_at_fn 155; refine (HW.out _ _ (by have := HP.out; omega) (by omega)).mono ?_; rintro e w' ⟨rfl, hs⟩)
      go_roundg ((s + r) / 2 - s)
      case measure => omega
      case rel => exact ⟨s, (s + r) / 2, rfl, by congr 1, g1, by omega, by omega, Nat.le_refl _, ⟨HA.out.1, fun _ => hlv⟩, hs⟩
     | false =>
      rw [hlv] at HW
      go_wp2_with (go_at_fn 155; refine (HW.out _ _ (by have := HP.out; omega) (by omega)).mono ?_; rintro e w' ⟨rfl, hs⟩)
      go_roundg (r - ((s + r) / 2 + 1))
      case measure => omega
      case rel => exact ⟨(s + r) / 2 + 1, r, by congr 1, rfl, by omega, by omega, g3, Nat.le_refl _, ⟨fun _ => by rw [show (s + r) / 2 + 1 - 1 = (s + r) / 2 by omega, show mid + m - ((s + r) / 2 + 1) = mid + m - 1 - (s + r) / 2 by omega]; exact T.tq5 _ _ hne hlv, HA.out.2⟩, hs⟩
    ·obtain rfl : s = r := by omega
     have hW1 := HWAY.out
     obtain ⟨e, he⟩ : ∃ e : Nat, mid + m - s = e := ⟨_, rfl⟩
     have k1 : s ≤ m := by omega
     have k2 : m ≤ e := by have := hW1.md; omega
     have k3 : e ≤ b := by have := hW1.e; omega
     have k4 : mid = s + (e - m) := by have := hW1.md; omega
     have k5 : (mid : Int) + (m : Int) - (s : Int) = (e : Int) := by have := hW1.md; omega
     have hA : a < s → e < b → lt (D (s - 1)) (D e) = true := fun u1 u2 => by
      have := HA.out.1 (by rcases hW1.lo with v | v <;> omega)
      rwa [he] at this
     have hB : s < m → m < e → lt (D (e - 1)) (D s) = true := fun u1 u2 => by
      have := HA.out.2 (by rcases hW1.hi with v | v <;> omega)
      rwa [show mid + m - 1 - s = e - 1 by omega] at this
     have hFIN : ∀ D2 D3, Prm a mid (rot s m e D) D2 → Srtd lt D2 a mid → Prm mid b D2 D3 → Srtd lt D3 mid b → Prm a b D D3 ∧ Srtd lt D3 a b := fun D2 D3 p1 s1 p2 s2 => merged T hL hR (by omega) k1 k2 k3 k4 hA hB p1 s1 p2 s2
     have hq := rot_srt hL hR (show a ≤ s by omega) k1 k2 k3
     rw [← k4] at hq
     obtain ⟨q1, q2, q3, q4⟩ := hq
     have FIN := aa hFIN
     have Q := aa (And.intro q1 (And.intro q2 (And.intro q3 q4)))
     have HI1 := aa (((Prm.rot D k1 k2).wide (Nat.zero_le _) k3).inj h3 hI)
     have K := aa (And.intro k1 (And.intro k2 (And.intro k3 (And.intro k4 hd))))
     have k6 : a ≤ s := by omega
     have k7 : mid ≤ e := by omega
     clear hFIN hA hB q1 q2 q3 q4 HA hW0 hW1 he hL hR HWAY hd k4 g1 g3
     have SL0 : ¬ (a < s ∧ s < mid) → Srtd lt (rot s m e D) a mid := fun u => by
      rcases Nat.lt_or_ge a s with v | v
      ·obtain rfl : s = mid := by have := K.out; omega
       exact Q.out.1
      ·obtain rfl : s = a := by omega
       exact Q.out.2.1
     have SR0 : ¬ (mid < e ∧ e < b) → Srtd lt (rot s m e D) mid b := fun u => by
      rcases Nat.lt_or_ge mid e with v | v
      ·obtain rfl : e = b := by omega
       exact Q.out.2.2.1
      ·obtain rfl : e = mid := by omega
       exact Q.out.2.2.2
     have AL := aa SL0
     have AR := aa SR0
     clear SL0 SR0
     by_cases u1 : s < m
     ·by_cases u2 : m < e
      ·have v2 : s < mid := by have := K.out; omega
       have v3 : mid < e := by have := K.out; omega
       by_cases v1 : a < s <;> by_cases v4 : e < b
       ·go_wp2_with (first
         | (go_at_call 114; refine (rotate_calls S s m e D _ HS.out (by omega) (by omega) (by omega) rfl rfl (by omega)).mono ?_; rintro e' w1 ⟨rfl, hs1⟩)
         | (go_at_call 98; with_reducible refine (ih a s mid (rot s m e D) _ (by have := K.out; omega) (by first | exact hs1 | exact HS1.out) HI1.out (by omega) (by omega) (by omega) Q.out.1 Q.out.2.1 rfl rfl (by omega)).mono ?_; rintro e' w2 ⟨rfl, D2, p2, t2, hs2⟩)
         | (go_at_call 98; with_reducible refine (ih mid e b D2 _ (by have := K.out; omega) hs2 (p2.inj (by omega) HI1.out) (by omega) (by omega) (by omega) (srt_eq Q.out.2.2.1 fun k g1 g2 => p2.out k (.inr g1)) (srt_eq Q.out.2.2.2 fun k g1 g2 => p2.out k (.inr (by omega))) (by omega) (by omega) rfl).mono ?_; rintro e' w3 ⟨rfl, D3, p3, t3, hs3⟩)
         | (go_at_call 98; with_reducible refine (ih mid e b (rot s m e D) _ (by have := K.out; omega) (by first | exact hs1 | exact HS1.out) HI1.out (by omega) (by omega) (by omega) Q.out.2.2.1 Q.out.2.2.2 (by omega) (by omega) rfl).mono ?_; rintro e' w3 ⟨rfl, D3, p3, t3, hs3⟩))
        go_end0
        first
         | exact ⟨rfl, D3, (FIN.out _ _ p2 t2 p3 t3).1, (FIN.out _ _ p2 t2 p3 t3).2, hs3⟩
         | exact ⟨rfl, D3, (FIN.out _ _ (Prm.refl _ _ _) SL.out p3 t3).1, (FIN.out _ _ (Prm.refl _ _ _) SL.out p3 t3).2, hs3⟩
         | exact ⟨rfl, D2, (FIN.out _ _ p2 t2 (Prm.refl _ _ _) (srt_eq SR.out fun k g1 g2 => p2.out k (.inr g1))).1, (FIN.out _ _ p2 t2 (Prm.refl _ _ _) (srt_eq SR.out fun k g1 g2 => p2.out k (.inr g1))).2, hs2⟩
         | exact ⟨rfl, _, (FIN.out _ _ (Prm.refl _ _ _) SL.out (Prm.refl _ _ _) SR.out).1, (FIN.out _ _ (Prm.refl _ _ _) SL.out (Prm.refl _ _ _) SR.out).2, (by first | exact hs1 | exact HS1.out)⟩
       ·have SR := aa (AR.out fun h => v4 h.2)
        go_wp2_with (first
         | (go_at_call 114; refine (rotate_calls S s m e D _ HS.out (by omega) (by omega) (by omega) rfl rfl (by omega)).mono ?_; rintro e' w1 ⟨rfl, hs1⟩)
         | (go_at_call 98; with_reducible refine (ih a s mid (rot s m e D) _ (by have := K.out; omega) (by first | exact hs1 | exact HS1.out) HI1.out (by omega) (by omega) (by omega) Q.out.1 Q.out.2.1 rfl rfl (by omega)).mono ?_; rintro e' w2 ⟨rfl, D2, p2, t2, hs2⟩)
         | (go_at_call 98; with_reducible refine (ih mid e b D2 _ (by have := K.out; omega) hs2 (p2.inj (by omega) HI1.out) (by omega) (by omega) (by omega) (srt_eq Q.out.2.2.1 fun k g1 g2 => p2.out k (.inr g1)) (srt_eq Q.out.2.2.2 fun k g1 g2 => p2.out k (.inr (by omega))) (by omega) (by omega) rfl).mono ?_; rintro e' w3 ⟨rfl, D3, p3, t3, hs3⟩)
         | (go_at_call 98; with_reducible refine (ih mid e b (rot s m e D) _ (by have := K.out; omega) (by first | exact hs1 | exact HS1.out) HI1.out (by omega) (by omega) (by omega) Q.out.2.2.1 Q.out.2.2.2 (by omega) (by omega) rfl).mono ?_; rintro e' w3 ⟨rfl, D3, p3, t3, hs3⟩))
        go_end0
        first
         | exact ⟨rfl, D3, (FIN.out _ _ p2 t2 p3 t3).1, (FIN.out _ _ p2 t2 p3 t3).2, hs3⟩
         | exact ⟨rfl, D3, (FIN.out _ _ (Prm.refl _ _ _) SL.out p3 t3).1, (FIN.out _ _ (Prm.refl _ _ _) SL.out p3 t3).2, hs3⟩
         | exact ⟨rfl, D2, (FIN.out _ _ p2 t2 (Prm.refl _ _ _) (srt_eq SR.out fun k g1 g2 => p2.out k (.inr g1))).1, (FIN.out _ _ p2 t2 (Prm.refl _ _ _) (srt_eq SR.out fun k g1 g2 => p2.out k (.inr g1))).2, hs2⟩
         | exact ⟨rfl, _, (FIN.out _ _ (Prm.refl _ _ _) SL.out (Prm.refl _ _ _) SR.out).1, (FIN.out _ _ (Prm.refl _ _ _) SL.out (Prm.refl _ _ _) SR.out).2, (by first | exact hs1 | exact HS1.out)⟩
       ·have SL := aa (AL.out fun h => v1 h.1)
        go_wp2_with (first
         | (go_at_call 114; refine (rotate_calls S s m e D _ HS.out (by omega) (by omega) (by omega) rfl rfl (by omega)).mono ?_; rintro e' w1 ⟨rfl, hs1⟩)
         | (go_at_call 98; with_reducible refine (ih a s mid (rot s m e D) _ (by have := K.out; omega) (by first | exact hs1 | exact HS1.out) HI1.out (by omega) (by omega) (by omega) Q.out.1 Q.out.2.1 rfl rfl (by omega)).mono ?_; rintro e' w2 ⟨rfl, D2, p2, t2, hs2⟩)
         | (go_at_call 98; with_reducible refine (ih mid e b D2 _ (by have := K.out; omega) hs2 (p2.inj (by omega) HI1.out) (by omega) (by omega) (by omega) (srt_eq Q.out.2.2.1 fun k g1 g2 => p2.out k (.inr g1)) (srt_eq Q.out.2.2.2 fun k g1 g2 => p2.out k (.inr (by omega))) (by omega) (by omega) rfl).mono ?_; rintro e' w3 ⟨rfl, D3, p3, t3, hs3⟩)
         | (go_at_call 98; with_reducible refine (ih mid e b (rot s m e D) _ (by have := K.out; omega) (by first | exact hs1 | exact HS1.out) HI1.out (by omega) (by omega) (by omega) Q.out.2.2.1 Q.out.2.2.2 (by omega) (by omega) rfl).mono ?_; rintro e' w3 ⟨rfl, D3, p3, t3, hs3⟩))
        go_end0
        first
         | exact ⟨rfl, D3, (FIN.out _ _ p2 t2 p3 t3).1, (FIN.out _ _ p2 t2 p3 t3).2, hs3⟩
         | exact ⟨rfl, D3, (FIN.out _ _ (Prm.refl _ _ _) SL.out p3 t3).1, (FIN.out _ _ (Prm.refl _ _ _) SL.out p3 t3).2, hs3⟩
         | exact ⟨rfl, D2, (FIN.out _ _ p2 t2 (Prm.refl _ _ _) (srt_eq SR.out fun k g1 g2 => p2.out k (.inr g1))).1, (FIN.out _ _ p2 t2 (Prm.refl _ _ _) (srt_eq SR.out fun k g1 g2 => p2.out k (.inr g1))).2, hs2⟩
         | exact ⟨rfl, _, (FIN.out _ _ (Prm.refl _ _ _) SL.out (Prm.refl _ _ _) SR.out).1, (FIN.out _ _ (Prm.refl _ _ _) SL.out (Prm.refl _ _ _) SR.out).2, (by first | exact hs1 | exact HS1.out)⟩
       ·have SL := aa (AL.out fun h => v1 h.1)
        have SR := aa (AR.out fun h => v4 h.2)
        go_wp2_with (first
         | (go_at_call 114; refine (rotate_calls S s m e D _ HS.out (by omega) (by omega) (by omega) rfl rfl (by omega)).mono ?_; rintro e' w1 ⟨rfl, hs1⟩)
         | (go_at_call 98; with_reducible refine (ih a s mid (rot s m e D) _ (by have := K.out; omega) (by first | exact hs1 | exact HS1.out) HI1.out (by omega) (by omega) (by omega) Q.out.1 Q.out.2.1 rfl rfl (by omega)).mono ?_; rintro e' w2 ⟨rfl, D2, p2, t2, hs2⟩)
         | (go_at_call 98; with_reducible refine (ih mid e b D2 _ (by have := K.out; omega) hs2 (p2.inj (by omega) HI1.out) (by omega) (by omega) (by omega) (srt_eq Q.out.2.2.1 fun k g1 g2 => p2.out k (.inr g1)) (srt_eq Q.out.2.2.2 fun k g1 g2 => p2.out k (.inr (by omega))) (by omega) (by omega) rfl).mono ?_; rintro e' w3 ⟨rfl, D3, p3, t3, hs3⟩)
         | (go_at_call 98; with_reducible refine (ih mid e b (rot s m e D) _ (by have := K.out; omega) (by first | exact hs1 | exact HS1.out) HI1.out (by omega) (by omega) (by omega) Q.out.2.2.1 Q.out.2.2.2 (by omega) (by omega) rfl).mono ?_; rintro e' w3 ⟨rfl, D3, p3, t3, hs3⟩))
        go_end0
        first
         | exact ⟨rfl, D3, (FIN.out _ _ p2 t2 p3 t3).1, (FIN.out _ _ p2 t2 p3 t3).2, hs3⟩
         | exact ⟨rfl, D3, (FIN.out _ _ (Prm.refl _ _ _) SL.out p3 t3).1, (FIN.out _ _ (Prm.refl _ _ _) SL.out p3 t3).2, hs3⟩
         | exact ⟨rfl, D2, (FIN.out _ _ p2 t2 (Prm.refl _ _ _) (srt_eq SR.out fun k g1 g2 => p2.out k (.inr g1))).1, (FIN.out _ _ p2 t2 (Prm.refl _ _ _) (srt_eq SR.out fun k g1 g2 => p2.out k (.inr g1))).2, hs2⟩
         | exact ⟨rfl, _, (FIN.out _ _ (Prm.refl _ _ _) SL.out (Prm.refl _ _ _) SR.out).1, (FIN.out _ _ (Prm.refl _ _ _) SL.out (Prm.refl _ _ _) SR.out).2, (by first | exact hs1 | exact HS1.out)⟩
      ·have HS1 : Aside0 (St (rot s m e D) wr) := ⟨by rw [show rot s m e D = rot s m m D by congr 1; omega, rot_none' D k1]; exact HS.out⟩
       have v1 : a < s := by have := K.out; omega
       have v2 : ¬ s < mid := by have := K.out; omega
       have v3 : mid < e := by have := K.out; omega
       have v4 : e < b := by omega
       have SL := aa (AL.out fun h => v2 h.2)
       go_wp2_with (first
        | (go_at_call 114; refine (rotate_calls S s m e D _ HS.out (by omega) (by omega) (by omega) rfl rfl (by omega)).mono ?_; rintro e' w1 ⟨rfl, hs1⟩)
        | (go_at_call 98; with_reducible refine (ih a s mid (rot s m e D) _ (by have := K.out; omega) (by first | exact hs1 | exact HS1.out) HI1.out (by omega) (by omega) (by omega) Q.out.1 Q.out.2.1 rfl rfl (by omega)).mono ?_; rintro e' w2 ⟨rfl, D2, p2, t2, hs2⟩)
        | (go_at_call 98; with_reducible refine (ih mid e b D2 _ (by have := K.out; omega) hs2 (p2.inj (by omega) HI1.out) (by omega) (by omega) (by omega) (srt_eq Q.out.2.2.1 fun k g1 g2 => p2.out k (.inr g1)) (srt_eq Q.out.2.2.2 fun k g1 g2 => p2.out k (.inr (by omega))) (by omega) (by omega) rfl).mono ?_; rintro e' w3 ⟨rfl, D3, p3, t3, hs3⟩)
        | (go_at_call 98; with_reducible refine (ih mid e b (rot s m e D) _ (by have := K.out; omega) (by first | exact hs1 | exact HS1.out) HI1.out (by omega) (by omega) (by omega) Q.out.2.2.1 Q.out.2.2.2 (by omega) (by omega) rfl).mono ?_; rintro e' w3 ⟨rfl, D3, p3, t3, hs3⟩))
       go_end0
       first
        | exact ⟨rfl, D3, (FIN.out _ _ p2 t2 p3 t3).1, (FIN.out _ _ p2 t2 p3 t3).2, hs3⟩
        | exact ⟨rfl, D3, (FIN.out _ _ (Prm.refl _ _ _) SL.out p3 t3).1, (FIN.out _ _ (Prm.refl _ _ _) SL.out p3 t3).2, hs3⟩
        | exact ⟨rfl, D2, (FIN.out _ _ p2 t2 (Prm.refl _ _ _) (srt_eq SR.out fun k g1 g2 => p2.out k (.inr g1))).1, (FIN.out _ _ p2 t2 (Prm.refl _ _ _) (srt_eq SR.out fun k g1 g2 => p2.out k (.inr g1))).2, hs2⟩
        | exact ⟨rfl, _, (FIN.out _ _ (Prm.refl _ _ _) SL.out (Prm.refl _ _ _) SR.out).1, (FIN.out _ _ (Prm.refl _ _ _) SL.out (Prm.refl _ _ _) SR.out).2, (by first | exact hs1 | exact HS1.out)⟩
     ·have HS1 : Aside0 (St (rot s m e D) wr) := ⟨by rw [show rot s m e D = rot m m e D by congr 1; omega, rot_none D k2]; exact HS.out⟩
      have v1 : a < s := by omega
      have v3 : ¬ mid < e := by have := K.out; omega
      have SR := aa (AR.out fun h => v3 h.1)
      by_cases u2 : m < e
      ·have v2 : s < mid := by have := K.out; omega
       go_wp2_with (first
        | (go_at_call 114; refine (rotate_calls S s m e D _ HS.out (by omega) (by omega) (by omega) rfl rfl (by omega)).mono ?_; rintro e' w1 ⟨rfl, hs1⟩)
        | (go_at_call 98; with_reducible refine (ih a s mid (rot s m e D) _ (by have := K.out; omega) (by first | exact hs1 | exact HS1.out) HI1.out (by omega) (by omega) (by omega) Q.out.1 Q.out.2.1 rfl rfl (by omega)).mono ?_; rintro e' w2 ⟨rfl, D2, p2, t2, hs2⟩)
        | (go_at_call 98; with_reducible refine (ih mid e b D2 _ (by have := K.out; omega) hs2 (p2.inj (by omega) HI1.out) (by omega) (by omega) (by omega) (srt_eq Q.out.2.2.1 fun k g1 g2 => p2.out k (.inr g1)) (srt_eq Q.out.2.2.2 fun k g1 g2 => p2.out k (.inr (by omega))) (by omega) (by omega) rfl).mono ?_; rintro e' w3 ⟨rfl, D3, p3, t3, hs3⟩)
        | (go_at_call 98; with_reducible refine (ih mid e b (rot s m e D) _ (by have := K.out; omega) (by first | exact hs1 | exact HS1.out) HI1.out (by omega) (by omega) (by omega) Q.out.2.2.1 Q.out.2.2.2 (by omega) (by omega) rfl).mono ?_; rintro e' w3 ⟨rfl, D3, p3, t3, hs3⟩))
       go_end0
       first
        | exact ⟨rfl, D3, (FIN.out _ _ p2 t2 p3 t3).1, (FIN.out _ _ p2 t2 p3 t3).2, hs3⟩
        | exact ⟨rfl, D3, (FIN.out _ _ (Prm.refl _ _ _) SL.out p3 t3).1, (FIN.out _ _ (Prm.refl _ _ _) SL.out p3 t3).2, hs3⟩
        | exact ⟨rfl, D2, (FIN.out _ _ p2 t2 (Prm.refl _ _ _) (srt_eq SR.out fun k g1 g2 => p2.out k (.inr g1))).1, (FIN.out _ _ p2 t2 (Prm.refl _ _ _) (srt_eq SR.out fun k g1 g2 => p2.out k (.inr g1))).2, hs2⟩
        | exact ⟨rfl, _, (FIN.out _ _ (Prm.refl _ _ _) SL.out (Prm.refl _ _ _) SR.out).1, (FIN.out _ _ (Prm.refl _ _ _) SL.out (Prm.refl _ _ _) SR.out).2, (by first | exact hs1 | exact HS1.out)⟩
      ·have v2 : ¬ s < mid := by have := K.out; omega
       have SL := aa (AL.out fun h => v2 h.2)
       go_wp2_with (first
        | (go_at_call 114; refine (rotate_calls S s m e D _ HS.out (by omega) (by omega) (by omega) rfl rfl (by omega)).mono ?_; rintro e' w1 ⟨rfl, hs1⟩)
        | (go_at_call 98; with_reducible refine (ih a s mid (rot s m e D) _ (by have := K.out; omega) (by first | exact hs1 | exact HS1.out) HI1.out (by omega) (by omega) (by omega) Q.out.1 Q.out.2.1 rfl rfl (by omega)).mono ?_; rintro e' w2 ⟨rfl, D2, p2, t2, hs2⟩)
        | (go_at_call 98; with_reducible refine (ih mid e b D2 _ (by have := K.out; omega) hs2 (p2.inj (by omega) HI1.out) (by omega) (by omega) (by omega) (srt_eq Q.out.2.2.1 fun k g1 g2 => p2.out k (.inr g1)) (srt_eq Q.out.2.2.2 fun k g1 g2 => p2.out k (.inr (by omega))) (by omega) (by omega) rfl).mono ?_; rintro e' w3 ⟨rfl, D3, p3, t3, hs3⟩)
        | (go_at_call 98; with_reducible refine (ih mid e b (rot s m e D) _ (by have := K.out; omega) (by first | exact hs1 | exact HS1.out) HI1.out (by omega) (by omega) (by omega) Q.out.2.2.1 Q.out.2.2.2 (by omega) (by omega) rfl).mono ?_; rintro e' w3 ⟨rfl, D3, p3, t3, hs3⟩))
       go_end0
       first
        | exact ⟨rfl, D3, (FIN.out _ _ p2 t2 p3 t3).1, (FIN.out _ _ p2 t2 p3 t3).2, hs3⟩
        | exact ⟨rfl, D3, (FIN.out _ _ (Prm.refl _ _ _) SL.out p3 t3).1, (FIN.out _ _ (Prm.refl _ _ _) SL.out p3 t3).2, hs3⟩
        | exact ⟨rfl, D2, (FIN.out _ _ p2 t2 (Prm.refl _ _ _) (srt_eq SR.out fun k g1 g2 => p2.out k (.inr g1))).1, (FIN.out _ _ p2 t2 (Prm.refl _ _ _) (srt_eq SR.out fun k g1 g2 => p2.out k (.inr g1))).2, hs2⟩
        | exact ⟨rfl, _, (FIN.out _ _ (Prm.refl _ _ _) SL.out (Prm.refl _ _ _) SR.out).1, (FIN.out _ _ (Prm.refl _ _ _) SL.out (Prm.refl _ _ _) SR.out).2, (by first | exact hs1 | exact HS1.out)⟩
end
end Go.Proofs.YtmpdhdnoohmndaaGreatDoor.So
namespace Go.Proofs.YtmpdhdnoohmndaaGreatDoor.So
set_option maxHeartbeats 4000000
set_option maxRecDepth 100000
open Go.RowKit Go.Shelf Go.Proofs.YtmpdhdnoohmndaaGreatDoorW.PrintWords Go.Proofs.YtmpdhdnoohmndaaGreatDoorW.PrintLast Go.Proofs.YtmpdhdnoohmndaaGreatDoorW.PrintMore
set_option linter.unusedVariables false
set_option linter.unusedSimpArgs false
def Bl (lt : Nat → Nat → Bool) (n bs a : Nat) (D : Nat → Nat) : Prop := ∀ k, Srtd lt D (a + k * bs) (min (a + k * bs + bs) n)
theorem blk_le {k q B : Nat} (h : k < q) : k * B + B ≤ q * B := by
 have := Nat.mul_le_mul_right B (show k + 1 ≤ q from h)
 rw [Nat.add_mul] at this
 omega
def Dn (lt : Nat → Nat → Bool) (q B : Nat) (D : Nat → Nat) : Prop := ∀ k, k < q → Srtd lt D (k * B) (k * B + B)
theorem Dn.zero (lt : Nat → Nat → Bool) (B : Nat) (D : Nat → Nat) : Dn lt 0 B D := fun k h => by omega
theorem Dn.prm {lt : Nat → Nat → Bool} {q B a b : Nat} {D D' : Nat → Nat} (h : Dn lt q B D) (ha : q * B = a) (p : Prm a b D D') : Dn lt q B D' := fun k hk => srt_eq (h k hk) fun x g1 g2 => p.out x (.inl (by have := blk_le (B := B) hk; omega))
theorem Dn.more {lt : Nat → Nat → Bool} {q B a b : Nat} {D D' : Nat → Nat} (h : Dn lt q B D) (ha : q * B = a) (hb : b = a + B) (p : Prm a b D D') (hs : Srtd lt D' a b) : Dn lt (q + 1) B D' := fun k hk => by
 rcases Nat.lt_or_ge k q with c | c
 ·exact h.prm ha p k c
 ·obtain rfl : k = q := by omega
  rw [ha, ← hb]; exact hs
theorem Dn.bl {lt : Nat → Nat → Bool} {n q B a : Nat} {D : Nat → Nat} (h : Dn lt q B D) (ha : q * B = a) (h1 : a ≤ n) (h2 : n < a + B) (hs : Srtd lt D a n) : Bl lt n B 0 D := fun k => by
 rw [Nat.zero_add]
 rcases Nat.lt_trichotomy k q with c | c | c
 ·have := blk_le (B := B) c
  rw [Nat.min_eq_left (by omega)]; exact h k c
 ·subst c
  rw [ha, Nat.min_eq_right (by omega)]; exact hs
 ·have := blk_le (B := B) c
  exact fun i j g1 g2 g3 => by omega
theorem Bl.next {lt : Nat → Nat → Bool} {n bs a b : Nat} {D D' : Nat → Nat} (h : Bl lt n bs a D) (hb : b = a + 2 * bs) (p : Prm a b D D') : Bl lt n bs b D' := fun k => by
 have := h (k + 2)
 rw [Nat.add_mul, ← Nat.add_assoc, show a + k * bs + 2 * bs = b + k * bs by omega] at this
 exact srt_eq this fun x g1 g2 => p.out x (.inr (by omega))
theorem Bl.one {lt : Nat → Nat → Bool} {n bs a : Nat} {D : Nat → Nat} (h : Bl lt n bs a D) : Srtd lt D a (min (a + bs) n) ∧ Srtd lt D (a + bs) (min (a + bs + bs) n) := by
 have h0 := h 0
 have h1 := h 1
 rw [Nat.zero_mul] at h0
 rw [Nat.one_mul] at h1
 exact ⟨h0, h1⟩
section
variable {rv : Value} {n : Nat} {lt : Nat → Nat → Bool} {St : (Nat → Nat) → World → Prop}
theorem stable_calls (S : Sorter rv n lt St) (T : Tot lt) (D : Nat → Nat) (w : World) (h : St D w) (hI : Inj D n) :
  Calls Tryz.prog 82 #[.iface 128 rv, .int .i64 n] w fun e w' => e = .returned (.tuple #[]) ∧ ∃ D', Prm 0 n D D' ∧ Srtd lt D' 0 n ∧ St D' w' := by
 have hbig := S.big
 go_enter Tryz.func82, Tryz.ntmps82
 go_wp2
 go_loopg [5, 6] n (fun k v5 v6 wr => ∃ (q a b : Nat) (D' : Nat → Nat), v5 = .int .i64 a ∧ v6 = .int .i64 b ∧ Aside0 (q * 20 = a ∧ b = a + 20) ∧ a ≤ n ∧ n - a ≤ k ∧ Aside0 (Dn lt q 20 D' ∧ Prm 0 n D D') ∧ St D' wr)
 case atStart => exact ⟨0, 0, 20, D, rfl, rfl, ⟨rfl, rfl⟩, Nat.zero_le _, Nat.le_refl _, ⟨Dn.zero _ _ _, Prm.refl _ _ _⟩, h⟩
 case round =>
  obtain ⟨q, a, b, D', rfl, rfl, HQ, g1, hk, HD, hs⟩ := hrel
  have HS := aa hs
  have HI := aa (HD.out.2.inj (Nat.le_refl _) hI)
  clear hs h
  by_cases c : b ≤ n
  ·go_wp2_with (go_at_call 97; with_reducible refine (insertion_calls S T a b D' _ HS.out HI.out (by have := HQ.out; omega) c rfl rfl).mono ?_; rintro e' w1 ⟨rfl, D1, p1, s1, hs1⟩)
   go_roundg (n - b)
   case measure => have := HQ.out; omega
   case rel => exact ⟨q + 1, b, b + 20, D1, rfl, by simp, ⟨by have := HQ.out; omega, rfl⟩, c, Nat.le_refl _, ⟨HD.out.1.more HQ.out.1 HQ.out.2 p1 s1, HD.out.2.trans (p1.wide (Nat.zero_le _) c)⟩, hs1⟩
  ·go_wp2_with (go_at_call 97; with_reducible refine (insertion_calls S T a n D' _ HS.out HI.out g1 (Nat.le_refl _) rfl rfl).mono ?_; rintro e' w1 ⟨rfl, D1, p1, s1, hs1⟩)
   have HB := aa ((HD.out.1.prm HQ.out.1 p1).bl HQ.out.1 g1 (by have := HQ.out; omega) s1)
   have HP := aa (HD.out.2.trans (p1.wide (Nat.zero_le _) (Nat.le_refl _)))
   clear HD HI HS HQ p1 s1 g1 c
   go_loopg [4] (2 * n + 20) (fun k v4 wr => ∃ (bs : Nat) (D' : Nat → Nat), v4 = .int .i64 bs ∧ 20 ≤ bs ∧ bs ≤ 2 * n + 20 ∧ 2 * n + 20 - bs ≤ k ∧ Aside0 (Bl lt n bs 0 D' ∧ Prm 0 n D D') ∧ St D' wr)
   case atStart => exact ⟨20, D1, rfl, Nat.le_refl _, by omega, by omega, ⟨HB.out, HP.out⟩, hs1⟩
   case round =>
    clear HB HP hs1
    obtain ⟨bs, D2, rfl, b1, b2, hk, HD, hs⟩ := hrel
    have HS := aa hs
    clear hs
    by_cases c : bs < n
    ·go_wp2
     go_loopg [5, 6] n (fun k v5 v6 wr => ∃ (q a b : Nat) (D' : Nat → Nat), v5 = .int .i64 a ∧ v6 = .int .i64 b ∧ Aside0 (q * (2 * bs) = a ∧ b = a + 2 * bs) ∧ a ≤ n ∧ n - a ≤ k ∧ Aside0 (Dn lt q (2 * bs) D' ∧ Bl lt n bs a D' ∧ Prm 0 n D D') ∧ St D' wr)
     case atStart => exact ⟨0, 0, 2 * bs, D2, rfl, by simp, ⟨by omega, by omega⟩, Nat.zero_le _, Nat.le_refl _, ⟨Dn.zero _ _ _, HD.out.1, HD.out.2⟩, HS.out⟩
     case round =>
      clear HS HD
      obtain ⟨q, a, b, D3, rfl, rfl, HQ, g1, hk2, HD, hs⟩ := hrel
      have HS := aa hs
      have HI := aa (HD.out.2.2.inj (Nat.le_refl _) hI)
      have ho := HD.out.2.1.one
      clear hs
      by_cases cb : b ≤ n
      ·rw [Nat.min_eq_left (by have := HQ.out; omega), Nat.min_eq_left (by have := HQ.out; omega), show a + bs + bs = b by have := HQ.out; omega] at ho
       have HO := aa ho
       clear ho
       go_wp2_with (go_at_call 98; with_reducible refine (sym_calls S T n a (a + bs) b D3 _ (by omega) HS.out HI.out (by omega) (by have := HQ.out; omega) cb HO.out.1 HO.out.2 rfl (by simp) rfl).mono ?_; rintro e' w1 ⟨rfl, D4, p1, s1, hs1⟩)
       go_roundg (n - b)
       case measure => have := HQ.out; omega
       case rel => exact ⟨q + 1, b, b + 2 * bs, D4, rfl, by simp, ⟨by rw [Nat.add_mul]; have := HQ.out; omega, rfl⟩, cb, Nat.le_refl _, ⟨HD.out.1.more HQ.out.1 HQ.out.2 p1 s1, HD.out.2.1.next HQ.out.2 p1, HD.out.2.2.trans (p1.wide (Nat.zero_le _) cb)⟩, hs1⟩
      ·by_cases cm : a + bs < n
       ·rw [Nat.min_eq_left (by omega), Nat.min_eq_right (by have := HQ.out; omega)] at ho
        have HO := aa ho
        clear ho
        have cm' : decide ((a : Int) + (bs : Int) < (n : Int)) = true := ac (by omega)
        go_wp2_with (go_at_call 98; with_reducible refine (sym_calls S T n a (a + bs) n D3 _ (by omega) HS.out HI.out (by omega) cm (Nat.le_refl _) HO.out.1 HO.out.2 rfl (by simp) rfl).mono ?_; rintro e' w1 ⟨rfl, D4, p1, s1, hs1⟩)
        go_roundg (2 * n + 20 - bs * 2)
        case measure => omega
        case rel => exact ⟨bs * 2, D4, by simp, by omega, by omega, Nat.le_refl _, ⟨by rw [Nat.mul_comm]; exact (HD.out.1.prm HQ.out.1 p1).bl HQ.out.1 g1 (by have := HQ.out; omega) s1, HD.out.2.2.trans (p1.wide (Nat.zero_le _) (Nat.le_refl _))⟩, hs1⟩
       ·rw [Nat.min_eq_right (by omega)] at ho
        have HO := aa ho
        clear ho
        have cm' : decide ((a : Int) + (bs : Int) < (n : Int)) = false := ae (by omega)
        go_wp2
        go_roundg (2 * n + 20 - bs * 2)
        case measure => omega
        case rel => exact ⟨bs * 2, D3, by simp, by omega, by omega, Nat.le_refl _, ⟨by rw [Nat.mul_comm]; exact HD.out.1.bl HQ.out.1 g1 (by have := HQ.out; omega) HO.out.1, HD.out.2.2⟩, HS.out⟩
    ·go_wp2
     go_end0
     have := HD.out.1.one.1
     rw [Nat.zero_add, Nat.min_eq_right (by omega)] at this
     exact ⟨rfl, D2, HD.out.2, this, HS.out⟩
theorem Stable_calls (S : Sorter rv n lt St) (T : Tot lt) (D : Nat → Nat) (w : World) (h : St D w) (hI : Inj D n) :
  Calls Tryz.prog 74 #[.iface 128 rv] w fun e w' => e = .returned (.tuple #[]) ∧ ∃ D', Prm 0 n D D' ∧ Srtd lt D' 0 n ∧ St D' w' := by
 have mN := S.mN
 have eN := eN
 go_enter Tryz.func74, Tryz.ntmps74
 go_wp2_with (first | (go_at_fn 154; refine (S.len h).mono ?_; rintro e w1 ⟨rfl, hs⟩) | (go_at_call 82; refine (stable_calls S T D _ hs hI).mono ?_; rintro e w2 ⟨rfl, hs2⟩))
 go_end0
 exact ⟨rfl, hs2⟩
end
end Go.Proofs.YtmpdhdnoohmndaaGreatDoor.So

import Derived.Test.YtkjnahgicfmicaaGreatDoorQg
import Derived.Test.YtkjnahgicfmicaaGreatDoorQi
namespace Go.Proofs.YtkjnahgicfmicaaGreatDoor.Gj
open Go.RowKit Go.PW Sp
set_option linter.unusedVariables false
section
theorem w64 {x : Int} (h0 : -4611686018427387904 ≤ x) (h1 : x ≤ 4611686018427387904) : wrap64 x = x := by unfold wrap64; omega
theorem StrAt.last {s : av} {b e i : Nat} (h : StrAt s b e) (hb : b < i) (he : i ≤ e) (hq : at_ s i = 34) : (run s (b + 1) i % 2 = 0 → i = e) ∧ (run s (b + 1) i % 2 = 1 → i < e) := by
 constructor
 ·intro h0
  refine Nat.le_antisymm he (Nat.le_of_not_lt (fun hlt => ?_))
  have := h.odd i hb hlt hq
  omega
 ·intro h1
  refine Nat.lt_of_le_of_ne he (fun h2 => ?_)
  have := h.even
  rw [← h2] at this
  omega
theorem wa2 {i : Nat} (h : i ≤ 1000000) : wrap64 (((i + 1 : Nat) : Int) + 1) = ((i + 2 : Nat) : Int) := by unfold wrap64; omega
theorem ws1 {i : Nat} (h : i ≤ 1000000) : wrap64 (((i + 1 : Nat) : Int) - 1) = (i : Int) := by unfold wrap64; omega
theorem ws2 {i : Nat} (h : i ≤ 1000000) : wrap64 (((i + 1 : Nat) : Int) - 2) = (i : Int) - 1 := by unfold wrap64; omega
theorem wp1 {i : Nat} (h : i ≤ 1000000) : wrap64 ((i : Int) + 1) = ((i + 1 : Nat) : Int) := by unfold wrap64; omega
theorem wm1 {i : Nat} (h : i ≤ 1000000) : wrap64 ((i : Int) - 1) = (i : Int) - 1 := by unfold wrap64; omega
theorem tmod2 (n : Nat) : ((n : Int).tmod 2 = 0) ↔ n % 2 = 0 := by
 rw [Int.tmod_eq_emod_of_nonneg (by omega)]; omega
theorem r92 {s : av} {lo m n R : Nat} (hn : n + run s lo (m + 1) = R) (h1 : at_ s m = 92) (h2 : lo ≤ m) : n + 1 + run s lo m = R := by
 rw [run_succ h2 h1] at hn
 rw [← hn, Nat.add_assoc, Nat.add_comm 1]
theorem rne {s : av} {lo m n R : Nat} (hn : n + run s lo (m + 1) = R) (h1 : at_ s m ≠ 92) : n = R := by
 rw [run_zero h1] at hn
 exact hn
theorem rlo {s : av} {lo m n R : Nat} (hn : n + run s lo m = R) (h1 : m ≤ lo) : n = R := by
 rw [run_lo h1] at hn
 exact hn
theorem rnb {s : av} {lo m n R : Nat} (hn : n + run s lo m = R) : n ≤ R := hn ▸ Nat.le_add_right _ _
section
variable {s : av} {b e : Nat} (h : StrAt s b e) (hs : s.size ≤ 1000000)
include h hs
theorem ps_l2 (i K R : Nat) (hb : b + 1 ≤ i) (he : i + 1 ≤ e) (hR : R ≤ 1000000) (hev : R % 2 = 1 → i + 1 = e) (hod : R % 2 = 0 → i + 1 < e)
  (ih : i + 1 < e → ∀ k, K ≤ k → aH.l1 k s ((i + 2 : Nat) : Int) ((b + 1 : Nat) : Int) = some (((e + 1 : Nat) : Int), s.extract b (e + 1), true, true)) :
  ∀ (m k n : Nat), b + 1 ≤ m → m ≤ i → n + run s (b + 1) m = R → K + m + 1 ≤ k →
   aH.l2 k s ((i + 1 : Nat) : Int) ((b + 1 : Nat) : Int) (n : Int) ((m : Int) - 1) = some (((e + 1 : Nat) : Int), s.extract b (e + 1), true, true) := by
 have hle := h.le
 have hop := h.op
 intro m
 induction m with
 | zero => intro k n hm; omega
 | succ m ihm =>
  intro k n hm hmi hn hk
  obtain ⟨k, rfl⟩ : ∃ k', k = k' + 1 := ⟨k - 1, by omega⟩
  have h92 : at_ s m = 92 → b + 1 ≤ m → n + 1 + run s (b + 1) m = R := fun h1 h2 => r92 hn h1 h2
  have hne : at_ s m ≠ 92 → n = R := fun h1 => rne hn h1
  have hlo : m + 1 ≤ b + 1 → n = R := fun h1 => rlo hn h1
  have hnb : n ≤ R := rnb hn
  clear hn
  have e1 : ((m + 1 : Nat) : Int) - 1 = (m : Int) := by omega
  have ew2 := ab (wa2 (i := i) (by omega))
  have ewb := ab (ws1 (i := b) (by omega))
  have stop : n = R → (if (n : Int).tmod 2 = 0 then aH.l1 k s (wrap64 (((i + 1 : Nat) : Int) + 1)) ((b + 1 : Nat) : Int) else if 0 ≤ wrap64 (((b + 1 : Nat) : Int) - 1) then if wrap64 (((b + 1 : Nat) : Int) - 1) ≤ wrap64 (((i + 1 : Nat) : Int) + 1) then if wrap64 (((i + 1 : Nat) : Int) + 1) ≤ (s.size : Int) then some (wrap64 (((i + 1 : Nat) : Int) + 1), s.extract (wrap64 (((b + 1 : Nat) : Int) - 1)).toNat (wrap64 (((i + 1 : Nat) : Int) + 1)).toNat, true, true) else none else none else none) = some (((e + 1 : Nat) : Int), s.extract b (e + 1), true, true) := by
   intro hnr
   by_cases c : n % 2 = 0
   ·rw [if_pos ((tmod2 n).mpr c), ew2.out]
    exact ih (hod (by omega)) k (by omega)
   ·have hend := hev (by omega)
    rw [if_neg (fun h => c ((tmod2 n).mp h)), ew2.out, ewb.out, if_pos (by omega), if_pos (by omega), if_pos (by omega)]
    subst hend
    rfl
  simp only [aH.l2]
  rw [e1]
  by_cases c1 : (m : Int) > 0
  ·rw [if_pos c1, if_pos (by omega), if_pos (by omega)]
   by_cases c2 : bt s (m : Int) = 92
   ·rw [if_pos c2, wp1 (i := n) (by omega), wm1 (i := m) (by omega)]
    have hmb : b + 1 ≤ m := by
     rcases Nat.lt_or_ge b m with h1 | h1
     ·omega
     ·obtain rfl : m = b := by omega
      unfold at_ at hop
      rw [hop] at c2
      exact absurd c2 (by decide)
    exact ihm k (n + 1) hmb (by omega) (h92 c2 hmb) (by omega)
   ·rw [if_neg c2]
    exact stop (hne c2)
  ·rw [if_neg c1]
   exact stop (hlo (by omega))
theorem ps_l1 : ∀ (d i k K : Nat), b + 1 < i → i ≤ e → e - i = d → (d + 1) * (e + 2) = K → K ≤ k →
  aH.l1 k s ((i : Nat) : Int) ((b + 1 : Nat) : Int) = some (((e + 1 : Nat) : Int), s.extract b (e + 1), true, true) := by
 have hle := h.le
 intro d
 induction d with
 | zero =>
  intro i k K hb he hd hK hk
  obtain rfl : i = e := by omega
  have hK2 : K = i + 2 := by rw [← hK]; omega
  clear hK
  obtain ⟨k, rfl⟩ : ∃ k', k = k' + 1 := ⟨k - 1, by omega⟩
  obtain ⟨i, rfl⟩ : ∃ i', i = i' + 1 := ⟨i - 1, by omega⟩
  have hq := h.cl
  unfold at_ at hq
  simp only [aH.l1]
  rw [if_pos (by omega), if_pos (by omega), if_neg (by omega), if_pos hq, ws1 (i := i) (by omega), if_pos (by omega), if_pos (by omega)]
  by_cases c : bt s (i : Int) = 92
  ·rw [if_pos c, ws2 (i := i) (by omega)]
   have hib : b + 1 ≤ i := by omega
   have hev := h.even
   rw [run_succ hib c] at hev
   have hrl := run_le (s := s) (lo := b + 1) i
   obtain ⟨R, hR⟩ : ∃ R, run s (b + 1) i = R := ⟨_, rfl⟩
   rw [hR] at hev hrl
   exact ps_l2 h hs i 0 R hib (Nat.le_refl _) (by omega) (fun _ => rfl) (fun h0 => absurd h0 (by omega)) (fun hlt => absurd hlt (by omega)) i k 0 hib (Nat.le_refl _) (by rw [hR, Nat.zero_add]) (by omega)
  ·rw [if_neg c, ws1 (i := b) (by omega), wa2 (i := i) (by omega), if_pos (by omega), if_pos (by omega), if_pos (by omega)]
   rfl
 | succ d ih =>
  intro i k K hb he hd hK hk
  have hK2 : (d + 1) * (e + 2) + (e + 2) = K := by rw [← hK, Nat.succ_mul (d + 1)]
  obtain ⟨K', hK'⟩ : ∃ K', (d + 1) * (e + 2) = K' := ⟨_, rfl⟩
  rw [hK'] at hK2
  clear hK
  obtain ⟨k, rfl⟩ : ∃ k', k = k' + 1 := ⟨k - 1, by omega⟩
  obtain ⟨i, rfl⟩ : ∃ i', i = i' + 1 := ⟨i - 1, by omega⟩
  have ew := ab (wa2 (i := i) (by omega))
  have next : ∀ k, K' ≤ k → aH.l1 k s ((i + 2 : Nat) : Int) ((b + 1 : Nat) : Int) = some (((e + 1 : Nat) : Int), s.extract b (e + 1), true, true) := fun k hk2 => ih (i + 2) k K' (by omega) (by omega) (by omega) hK' hk2
  simp only [aH.l1]
  rw [if_pos (by omega), if_pos (by omega), ew.out]
  by_cases c1 : bt s ((i + 1 : Nat) : Int) > 92
  ·rw [if_pos c1]
   exact next k (by omega)
  ·rw [if_neg c1]
   by_cases c2 : bt s ((i + 1 : Nat) : Int) = 34
   ·rw [if_pos c2, ws1 (i := i) (by omega), if_pos (by omega), if_pos (by omega)]
    have hod := h.odd (i + 1) (by omega) (by omega) c2
    have hc : bt s (i : Int) = 92 := by
     refine Decidable.byContradiction (fun hne => ?_)
     rw [run_zero (show at_ s i ≠ 92 from hne)] at hod
     exact absurd hod (by decide)
    have hib : b + 1 ≤ i := by
     rcases Nat.lt_or_ge b i with h1 | h1
     ·omega
     ·omega
    rw [if_pos hc, ws2 (i := i) (by omega)]
    rw [run_succ hib hc] at hod
    have hrl := run_le (s := s) (lo := b + 1) i
    obtain ⟨R, hR⟩ : ∃ R, run s (b + 1) i = R := ⟨_, rfl⟩
    rw [hR] at hod hrl
    exact ps_l2 h hs i K' R hib (by omega) (by omega) (fun h1 => absurd h1 (by omega)) (fun _ => by omega) (fun hlt k hk2 => next k hk2) i k 0 hib (Nat.le_refl _) (by rw [hR, Nat.zero_add]) (by omega)
   ·rw [if_neg c2]
    exact next k (by omega)
omit h hs in
theorem run_none {i : Nat} (hb : b < i) (hno : ∀ q, b < q → q < i → at_ s q ≠ 92) : run s (b + 1) i = 0 := by
 obtain ⟨i, rfl⟩ : ∃ i', i = i' + 1 := ⟨i - 1, by omega⟩
 rcases Nat.lt_or_ge b i with h1 | h1
 ·exact run_zero (hno i h1 (by omega))
 ·exact run_lo (by omega)
theorem ps_l0 : ∀ (d i k K : Nat), b < i → i ≤ e → e - i = d → (d + 1) * (e + 2) = K → K + 1 ≤ k → (∀ q, b < q → q < i → at_ s q ≠ 92) →
  ∃ vesc : Bool, aH.l0 k s ((i : Nat) : Int) ((b + 1 : Nat) : Int) = some (((e + 1 : Nat) : Int), s.extract b (e + 1), vesc, true) ∧ (vesc = false → ∀ q, b < q → q < e → at_ s q ≠ 92) := by
 have hle := h.le
 intro d
 induction d with
 | zero =>
  intro i k K hb he hd hK hk hno
  obtain rfl : i = e := by omega
  clear hK
  obtain ⟨k, rfl⟩ : ∃ k', k = k' + 1 := ⟨k - 1, by omega⟩
  have hq := h.cl
  unfold at_ at hq
  refine ⟨false, ?_, fun _ => hno⟩
  simp only [aH.l0]
  rw [if_pos (by omega), if_pos (by omega), if_neg (by omega), if_pos hq, ws1 (i := b) (by omega), wp1 (i := i) (by omega), if_pos (by omega), if_pos (by omega), if_pos (by omega)]
  rfl
 | succ d ih =>
  intro i k K hb he hd hK hk hno
  have hK2 : (d + 1) * (e + 2) + (e + 2) = K := by rw [← hK, Nat.succ_mul (d + 1)]
  obtain ⟨K', hK'⟩ : ∃ K', (d + 1) * (e + 2) = K' := ⟨_, rfl⟩
  rw [hK'] at hK2
  clear hK
  obtain ⟨k, rfl⟩ : ∃ k', k = k' + 1 := ⟨k - 1, by omega⟩
  have next : at_ s i ≠ 92 → ∃ vesc : Bool, aH.l0 k s ((i + 1 : Nat) : Int) ((b + 1 : Nat) : Int) = some (((e + 1 : Nat) : Int), s.extract b (e + 1), vesc, true) ∧ (vesc = false → ∀ q, b < q → q < e → at_ s q ≠ 92) := fun hne =>
   ih (i + 1) k K' (by omega) (by omega) (by omega) hK' (by omega) (fun q h1 h2 => by
    by_cases c : q = i
    ·rw [c]; exact hne
    ·exact hno q h1 (by omega))
  have ew := ab (wp1 (i := i) (by omega))
  simp only [aH.l0]
  rw [if_pos (by omega), if_pos (by omega), ew.out]
  by_cases c1 : bt s ((i : Nat) : Int) > 92
  ·rw [if_pos c1]
   exact next (by unfold at_; omega)
  ·rw [if_neg c1]
   have hn34 : ¬ bt s ((i : Nat) : Int) = 34 := fun c2 => by
    have h1 := h.odd i hb (by omega) c2
    rw [run_none hb hno] at h1
    exact absurd h1 (by decide)
   rw [if_neg hn34]
   by_cases c3 : bt s ((i : Nat) : Int) = 92
   ·rw [if_pos c3]
    refine ⟨true, ?_, fun h => absurd h (by decide)⟩
    exact ps_l1 h hs d (i + 1) k K' (by omega) (by omega) (by omega) hK' (by omega)
   ·rw [if_neg c3]
    exact next c3
theorem ps_tells : ∃ (k : Nat) (vesc : Bool), aH.f k s ((b + 1 : Nat) : Int) = some (((e + 1 : Nat) : Int), s.extract b (e + 1), vesc, true) ∧ (vesc = false → ∀ q, b < q → q < e → at_ s q ≠ 92) := by
 obtain ⟨v, h1, h2⟩ := ps_l0 h hs (e - (b + 1)) (b + 1) _ _ (by omega) (by have := h.lt; omega) rfl rfl (Nat.le_refl _) (fun q h1 h2 => by omega)
 exact ⟨_, v, h1, h2⟩
end
end
section
def NumStop (c : Int) : Prop := c ≤ 32 ∨ c = 44 ∨ c = 93 ∨ c = 125
theorem pn_l0 (s : av) (hs : s.size ≤ 1000000) (i0 j : Nat) (hj : j < s.size) (hst : NumStop (at_ s j)) : ∀ (d i k : Nat), i0 ≤ i → i ≤ j → j - i = d → d < k → (∀ q, i ≤ q → q < j → ¬ NumStop (at_ s q)) →
  bO.l0 k s ((i : Nat) : Int) ((i0 : Nat) : Int) = some ((j : Int), s.extract i0 j) := by
 intro d
 induction d with
 | zero =>
  intro i k h0 h1 hd hk hno
  obtain rfl : i = j := by omega
  obtain ⟨k, rfl⟩ : ∃ k', k = k' + 1 := ⟨k - 1, by omega⟩
  simp only [bO.l0]
  rw [if_pos (by omega), if_pos (by omega)]
  have fin : (if 0 ≤ ((i0 : Nat) : Int) then if ((i0 : Nat) : Int) ≤ ((i : Nat) : Int) then if ((i : Nat) : Int) ≤ (s.size : Int) then some (((i : Nat) : Int), s.extract (((i0 : Nat) : Int)).toNat (((i : Nat) : Int)).toNat) else none else none else none) = some ((i : Int), s.extract i0 i) := by
   rw [if_pos (by omega), if_pos (by omega), if_pos (by omega)]
   rfl
  unfold NumStop at_ at hst
  by_cases c1 : bt s (i : Int) ≤ 32
  ·rw [if_pos c1]; exact fin
  ·rw [if_neg c1]
   by_cases c2 : bt s (i : Int) = 44
   ·rw [if_pos c2]; exact fin
   ·rw [if_neg c2]
    by_cases c3 : bt s (i : Int) = 93
    ·rw [if_pos c3]; exact fin
    ·rw [if_neg c3, if_pos (by omega)]; exact fin
 | succ d ih =>
  intro i k h0 h1 hd hk hno
  obtain ⟨k, rfl⟩ : ∃ k', k = k' + 1 := ⟨k - 1, by omega⟩
  have hn := hno i (Nat.le_refl _) (by omega)
  unfold NumStop at_ at hn
  simp only [bO.l0]
  rw [if_pos (by omega), if_pos (by omega), if_neg (by omega), if_neg (by omega), if_neg (by omega), if_neg (by omega), wp1 (i := i) (by omega)]
  exact ih (i + 1) k (by omega) (by omega) (by omega) (by omega) (fun q h2 h3 => hno q (by omega) h3)
theorem pn_tells (s : av) (hs : s.size ≤ 1000000) (i j : Nat) (hij : i < j) (hj : j < s.size) (hst : NumStop (at_ s j)) (hno : ∀ q, i < q → q < j → ¬ NumStop (at_ s q)) : ∃ k, bO.f k s (i : Int) = some ((j : Int), s.extract i j) := by
 refine ⟨j - (i + 1) + 1, ?_⟩
 unfold bO.f
 rw [wp1 (i := i) (by omega)]
 exact pn_l0 s hs i j hj hst _ (i + 1) _ (by omega) (by omega) rfl (Nat.lt_succ_self _) (fun q h1 h2 => hno q (by omega) h2)
def LitStop (c : Int) : Prop := c < 97 ∨ 122 < c
theorem pl_l0 (s : av) (hs : s.size ≤ 1000000) (i0 j : Nat) (hj : j < s.size) (hst : LitStop (at_ s j)) : ∀ (d i k : Nat), i0 ≤ i → i ≤ j → j - i = d → d < k → (∀ q, i ≤ q → q < j → ¬ LitStop (at_ s q)) →
  bB.l0 k s ((i : Nat) : Int) ((i0 : Nat) : Int) = some ((j : Int), s.extract i0 j) := by
 intro d
 induction d with
 | zero =>
  intro i k h0 h1 hd hk hno
  obtain rfl : i = j := by omega
  obtain ⟨k, rfl⟩ : ∃ k', k = k' + 1 := ⟨k - 1, by omega⟩
  simp only [bB.l0]
  rw [if_pos (by omega), if_pos (by omega)]
  have fin : (if 0 ≤ ((i0 : Nat) : Int) then if ((i0 : Nat) : Int) ≤ ((i : Nat) : Int) then if ((i : Nat) : Int) ≤ (s.size : Int) then some (((i : Nat) : Int), s.extract (((i0 : Nat) : Int)).toNat (((i : Nat) : Int)).toNat) else none else none else none) = some ((i : Int), s.extract i0 i) := by
   rw [if_pos (by omega), if_pos (by omega), if_pos (by omega)]
   rfl
  unfold LitStop at_ at hst
  by_cases c1 : bt s (i : Int) < 97
  ·rw [if_pos c1]; exact fin
  ·rw [if_neg c1, if_pos (by omega)]; exact fin
 | succ d ih =>
  intro i k h0 h1 hd hk hno
  obtain ⟨k, rfl⟩ : ∃ k', k = k' + 1 := ⟨k - 1, by omega⟩
  have hn := hno i (Nat.le_refl _) (by omega)
  unfold LitStop at_ at hn
  simp only [bB.l0]
  rw [if_pos (by omega), if_pos (by omega), if_neg (by omega), if_neg (by omega), wp1 (i := i) (by omega)]
  exact ih (i + 1) k (by omega) (by omega) (by omega) (by omega) (fun q h2 h3 => hno q (by omega) h3)
theorem pl_tells (s : av) (hs : s.size ≤ 1000000) (i j : Nat) (hij : i < j) (hj : j < s.size) (hst : LitStop (at_ s j)) (hno : ∀ q, i < q → q < j → ¬ LitStop (at_ s q)) : ∃ k, bB.f k s (i : Int) = some ((j : Int), s.extract i j) := by
 refine ⟨j - (i + 1) + 1, ?_⟩
 unfold bB.f
 rw [wp1 (i := i) (by omega)]
 exact pl_l0 s hs i j hj hst _ (i + 1) _ (by omega) (by omega) rfl (Nat.lt_succ_self _) (fun q h1 h2 => hno q (by omega) h2)
end
end Go.Proofs.YtkjnahgicfmicaaGreatDoor.Gj

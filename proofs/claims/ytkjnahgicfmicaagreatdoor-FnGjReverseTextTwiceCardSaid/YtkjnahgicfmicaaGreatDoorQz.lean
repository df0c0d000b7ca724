import Derived.Test.YtkjnahgicfmicaaGreatDoorZip
import Derived.Test.YtkjnahgicfmicaaGreatDoorQu
namespace Go.Proofs.YtkjnahgicfmicaaGreatDoor.Sp
open Go.RowKit Go.PW Go.PL Go.PM Gj
set_option linter.unusedVariables false
set_option linter.unusedSimpArgs false
section
theorem paired_uni {s : av} {i j : Int} {k k2 : Nat} {b : Bool} (h : bD.l0 k s i = some true) (h2 : bD.l0 k2 s i = some b) : b = true := by
 have up : ∀ (m n : Nat) {r : Bool}, bD.l0 m s i = some r → bD.l0 (m + n) s i = some r := fun m n => by
  induction n with
  | zero => exact fun h => h
  | succ n ih => exact fun h => bD.mono_l (m + n) _ _ _ (ih h)
 have a := up k k2 h
 have c := up k2 k h2
 rw [Nat.add_comm k2 k, a] at c
 exact (au c).symm
section
variable {s : av} (hn : Small s) {i : Int}
include hn
theorem PairedAt.back1 (h : PairedAt s (i + 1)) (h0 : 0 ≤ i) (h1 : i < s.size) (h2 : bt s i ≠ 92) : PairedAt s i := by
 have hn' : s.size ≤ 1048576 := hn
 obtain ⟨k, h⟩ := h
 refine ⟨k + 1, ?_⟩
 rw [bD.l0, if_pos h1, if_pos h0, if_neg h2, w64 (by omega) (by omega)]
 exact h
omit hn in
theorem PairedAt.end_ (h : (s.size : Int) ≤ i) : PairedAt s i := ⟨1, by rw [bD.l0, if_neg (by omega)]⟩
theorem PairedAt.back2 (h : PairedAt s (i + 2)) (h0 : 0 ≤ i) (h1 : i < s.size) (h2 : bt s i = 92) (h3 : bt s (i + 1) ≠ 117) : PairedAt s i := by
 have hn' : s.size ≤ 1048576 := hn
 obtain ⟨b, hb⟩ := paired_tot hn s.size (s.size + 12) i h0 (by omega) (by omega) (Nat.le_refl _)
 obtain ⟨k, hk⟩ : ∃ k, s.size + 12 = k + 1 := ⟨s.size + 11, rfl⟩
 rw [hk] at hb
 have hb' := hb
 rw [bD.l0, if_pos h1, if_pos h0, if_pos h2, w64 (x := i + 2) (by omega) (by omega)] at hb
 obtain ⟨r, hr, hb⟩ := ao hb
 rcases unit_inv hn h0 (by omega) hr with ⟨g, _⟩ | ⟨_, g⟩
 ·exact absurd g.2.2.1 h3
 ·rw [g, if_neg (by decide)] at hb
  obtain ⟨k', h⟩ := h
  obtain rfl := paired_uni (j := 0) h hb
  exact ⟨k + 1, hb'⟩
theorem PairedAt.backU (h0 : 0 ≤ i) (hU : IsU s i) (h : (¬ High (hex4 s (i + 2)) ∧ ¬ Low (hex4 s (i + 2)) ∧ PairedAt s (i + 6)) ∨ (High (hex4 s (i + 2)) ∧ IsU s (i + 6) ∧ Low (hex4 s (i + 8)) ∧ PairedAt s (i + 12))) : PairedAt s i := by
 have hn' : s.size ≤ 1048576 := hn
 have h1 := hU.1
 obtain ⟨b, hb⟩ := paired_tot hn s.size (s.size + 12) i h0 (by omega) (by omega) (Nat.le_refl _)
 obtain ⟨k, hk⟩ : ∃ k, s.size + 12 = k + 1 := ⟨s.size + 11, rfl⟩
 rw [hk] at hb
 have hb' := hb
 rw [bD.l0, if_pos (by omega), if_pos h0, if_pos hU.2.1, w64 (x := i + 6) (by omega) (by omega), w64 (x := i + 12) (by omega) (by omega)] at hb
 obtain ⟨r, hr, hb⟩ := ao hb
 rcases unit_inv hn h0 (by omega) hr with ⟨_, rfl⟩ | ⟨g, _⟩
 ·rw [if_pos rfl, high_eq] at hb
  simp only [al] at hb
  rcases h with ⟨c, c2, k', h⟩ | ⟨c, g2, c2, k', h⟩
  ·rw [af c, if_neg (by decide), low_eq] at hb
   simp only [al] at hb
   rw [af c2, if_neg (by decide)] at hb
   obtain rfl := paired_uni (j := 0) h hb
   exact ⟨k + 1, hb'⟩
  ·rw [if_pos (ae c)] at hb
   obtain ⟨r2, hr2, hb⟩ := ao hb
   rcases unit_inv hn (by omega) (by have := g2.1; omega) hr2 with ⟨_, rfl⟩ | ⟨g, _⟩
   ·rw [if_pos rfl, low_eq] at hb
    simp only [al] at hb
    rw [show i + 6 + 2 = i + 8 by omega, if_pos (ae c2)] at hb
    obtain rfl := paired_uni (j := 0) h hb
    exact ⟨k + 1, hb'⟩
   ·exact absurd g2 g
 ·exact absurd hU g
theorem PairedAt.inner {e : Int} (h0 : 0 ≤ i) (he : e ≤ s.size) (h : PairedAt s e) {o : List Int} {q : Int} (hI : Inner (s.extract i.toNat e.toNat) q o) (hq : 0 ≤ q) (hie : i ≤ e) : PairedAt s (i + q) := by
 have hz : (s.extract i.toNat e.toNat).size = (e - i).toNat := Z34
 have hb : ∀ p : Int, 0 ≤ p → p < e - i → bt (s.extract i.toNat e.toNat) p = bt s (i + p) := fun p a b => by rw [bt_ext a (by omega) (by omega), show ((i.toNat : Nat) : Int) = i by omega]
 obtain ⟨T, hT⟩ : ∃ T, s.extract i.toNat e.toNat = T := ⟨_, rfl⟩
 rw [hT] at hI hz hb
 have hx : ∀ p : Int, 0 ≤ p → p + 4 ≤ e - i → hex4 T p = hex4 s (i + p) := fun p a b => by
  unfold hex4
  rw [hb p a (by omega), hb (p + 1) (by omega) (by omega), hb (p + 2) (by omega) (by omega), hb (p + 3) (by omega) (by omega), show i + (p + 1) = i + p + 1 by omega, show i + (p + 2) = i + p + 2 by omega, show i + (p + 3) = i + p + 3 by omega]
 have hu : ∀ p : Int, 0 ≤ p → IsU T p → IsU s (i + p) := fun p a ⟨u1, u2, u3, u4⟩ => by
  refine ⟨by omega, by rw [← hb p a (by omega)]; exact u2, by rw [show i + p + 1 = i + (p + 1) by omega, ← hb (p + 1) (by omega) (by omega)]; exact u3, fun m b c => ?_⟩
  rw [show m = i + (m - i) by omega, ← hb (m - i) (by omega) (by omega)]
  exact u4 (m - i) (by omega) (by omega)
 induction hI with
 | done => rw [hz, show i + ((e - i).toNat : Int) = e by omega]; exact h
 | plain q o a1 a2 a3 a4 a5 a6 ih =>
  refine PairedAt.back1 hn ?_ (by omega) (by omega) (by rw [← hb q a1 (by omega)]; exact a5)
  rw [show i + q + 1 = i + (q + 1) by omega]
  exact ih (by omega)
 | esc q o a1 a2 a3 a4 a5 ih =>
  refine PairedAt.back2 hn ?_ (by omega) (by omega) (by rw [← hb q a1 (by omega)]; exact a3) (by rw [show i + q + 1 = i + (q + 1) by omega, ← hb (q + 1) (by omega) (by omega)]; unfold Esc1 at a4; omega)
  rw [show i + q + 2 = i + (q + 2) by omega]
  exact ih (by omega)
 | uni q o a1 a2 a3 a4 a5 ih =>
  have u1 := a2.1
  refine PairedAt.backU hn (by omega) (hu q a1 a2) (.inl ⟨?_, ?_, ?_⟩)
  ·rw [show i + q + 2 = i + (q + 2) by omega, ← hx (q + 2) (by omega) (by omega)]; exact a3
  ·rw [show i + q + 2 = i + (q + 2) by omega, ← hx (q + 2) (by omega) (by omega)]; exact a4
  ·rw [show i + q + 6 = i + (q + 6) by omega]; exact ih (by omega)
 | pair q o a1 a2 a3 a4 a5 a6 ih =>
  have u1 := a2.1
  have u2 := a4.1
  refine PairedAt.backU hn (by omega) (hu q a1 a2) (.inr ⟨?_, ?_, ?_, ?_⟩)
  ·rw [show i + q + 2 = i + (q + 2) by omega, ← hx (q + 2) (by omega) (by omega)]; exact a3
  ·rw [show i + q + 6 = i + (q + 6) by omega]; exact hu (q + 6) (by omega) a4
  ·rw [show i + q + 8 = i + (q + 8) by omega, ← hx (q + 8) (by omega) (by omega)]; exact a5
  ·rw [show i + q + 12 = i + (q + 12) by omega]; exact ih (by omega)
end
theorem paired_mv {s s' : av} {d lo hi : Int} (hw : Win s s' d lo hi) {a b : Int} (h : Lex s a b) : lo ≤ a - d → b - d ≤ hi → PairedAt s a → PairedAt s' (b - d) → PairedAt s' (a - d) := by
 have hn := hw.sm
 have hn' := hw.sm'
 have z0 := hw.lo0; have z1 := hw.lod; have z2 := hw.hi'; have z3 := hw.hid
 induction h with
 | nil i => exact fun _ _ _ h => h
 | ch i j h0 h1 h2 h3 ih =>
  intro g0 g1 hp hq
  have hle := h3.le
  have h92 : bt s i ≠ 92 := by unfold Plain at h2; omega
  refine PairedAt.back1 hn' ?_ (by omega) (by omega) (by rw [hw.byte (i := i) rfl g0 (by omega)]; exact h92)
  rw [show i - d + 1 = i + 1 - d by omega]
  exact ih (by omega) g1 (hp.plain hn h0 h1 h92) hq
 | str i k j h0 h1 h2 ih =>
  intro g0 g1 hp hq
  have hle := h2.le
  obtain ⟨o, hI, hp2, _⟩ := seg_unq hn h0 h1 hp
  have hlt := h1.2.1
  have hk := h1.2.2.1
  rw [bytesOf_length] at hk
  have hend := ih (by omega) g1 hp2 hq
  have e34 : ∀ p : Int, lo ≤ p - d → p - d < hi → bt s p = 34 → bt s' (p - d) = 34 := fun p a b c => hw.byte c a b
  have q1 : bt s i = 34 := by rw [← rd_bytesOf]; exact h1.1
  have q2 : bt s (k - 1) = 34 := by
   rw [← rd_bytesOf]; exact h1.2.2.2.1.1
  have hx := hw.ext (a := i + 1) (b := k - 1) (by omega) (by omega) (by omega)
  have hI' : Inner (s'.extract (i + 1 - d).toNat (k - 1 - d).toNat) 0 o := by
   rw [hx, show (i + 1).toNat = i.toNat + 1 by omega, show (k - 1).toNat = k.toNat - 1 by omega]
   exact hI
  have hp3 := PairedAt.back1 hn' (i := k - 1 - d) (by rw [show k - 1 - d + 1 = k - d by omega]; exact hend) (by omega) (by omega) (by rw [e34 (k - 1) (by omega) (by omega) q2]; decide)
  have hp4 := PairedAt.inner hn' (i := i + 1 - d) (e := k - 1 - d) (by omega) (by omega) hp3 hI' (Int.le_refl _) (by omega)
  refine PairedAt.back1 hn' ?_ (by omega) (by omega) (by rw [e34 i g0 (by omega) q1]; decide)
  rw [show i - d + 1 = i + 1 - d + 0 by omega]
  exact hp4
 | br i k j h0 h1 h2 h3 h4 h5 h6 ih1 ih2 =>
  intro g0 g1 hp hq
  have l1 := h3.le
  have l2 := h6.le
  have c1 : bt s i ≠ 92 := by omega
  have c2 : bt s k ≠ 92 := by omega
  have hp1 := hp.plain hn h0 h1 c1
  have hpk := h3.paired hn hp1
  have hpk1 := hpk.plain hn (by omega) h4 c2
  have r := ih2 (by omega) g1 hpk1 hq
  have r1 := PairedAt.back1 hn' (i := k - d) (by rw [show k - d + 1 = k + 1 - d by omega]; exact r) (by omega) (by omega) (by rw [hw.byte (i := k) rfl (by omega) (by omega)]; exact c2)
  refine PairedAt.back1 hn' ?_ (by omega) (by omega) (by rw [hw.byte (i := i) rfl g0 (by omega)]; exact c1)
  rw [show i - d + 1 = i + 1 - d by omega]
  exact ih1 (by omega) (by omega) hp1 r1
end
section
def Piece (D : Nat) (s : av) (p : S31) : Prop := VR (aA.at_ D) s p ∧ PairedAt s p.f1 ∧ p.f1 < p.f2 ∧ p.f2 ≤ s.size ∧ ¬ NumCh (at0 s p.f2)
inductive Lay (s t : av) : List S31 → Int → Int → Prop
 | last (p : S31) (i : Int) : Win s t (p.f1 - i) i (i + (p.f2 - p.f1)) → i + (p.f2 - p.f1) < t.size → bt t (i + (p.f2 - p.f1)) = 93 → Lay s t [p] i (i + (p.f2 - p.f1) + 1)
 | more (p : S31) (i j : Int) (ps : List S31) : Win s t (p.f1 - i) i (i + (p.f2 - p.f1)) → i + (p.f2 - p.f1) < t.size → bt t (i + (p.f2 - p.f1)) = 44 → Lay s t ps (i + (p.f2 - p.f1) + 1) j → Lay s t (p :: ps) i j
def lays : List S31 → Int → List S31
 | [], _ => []
 | p :: ps, i => sh (p.f1 - i) p :: lays ps (i + (p.f2 - p.f1) + 1)
theorem no_blank (t : av) (i : Int) (h0 : 0 ≤ i) (h : i ≤ t.size) : Blanks t i i := ⟨Int.le_refl _, h, fun q a b => by omega⟩
section
variable {s t : av} {D D' : Nat}
theorem piece_vr (hD : D ≤ D') {p : S31} (hp : Piece D s p) {i : Int} (hw : Win s t (p.f1 - i) i (i + (p.f2 - p.f1))) {c : Int} (h1 : i + (p.f2 - p.f1) < t.size) (h2 : bt t (i + (p.f2 - p.f1)) = c) (hc : ¬ NumCh c) : VR (aA.at_ D') t (sh (p.f1 - i) p) := by
 obtain ⟨hv, hpa, hlt, hle, he⟩ := hp
 have z0 := hw.lo0
 obtain ⟨K, g⟩ := value_mv hw D D' hD p hv (by omega) hlt (by omega) he (by rw [show p.f2 - (p.f1 - i) = i + (p.f2 - p.f1) by omega, at0_at h1, h2]; exact hc)
 have := g 0
 rw [sh_eq]
 refine ⟨by show 0 ≤ p.f1 - (p.f1 - i); omega, K + 0, ?_⟩
 exact this
theorem lay_kids (hD : D ≤ D') {ps : List S31} {i j : Int} (h : Lay s t ps i j) : (∀ p ∈ ps, Piece D s p) → Kids (aA.at_ D') t (lays ps i) i j := by
 induction h with
 | last p i hw h1 h2 =>
  intro hp
  have hpp := hp p (List.mem_singleton.2 rfl)
  have hv := piece_vr hD hpp hw h1 h2 (by unfold NumCh; omega)
  have z0 := hw.lo0
  have hlt := hpp.2.2.1
  have e := sh_eq (p.f1 - i) p
  refine .last _ i _ hv (by rw [e]; show p.f1 - (p.f1 - i) = i; omega) (by rw [e]; show p.f1 - (p.f1 - i) < p.f2 - (p.f1 - i); omega) ?_ h1 h2
  rw [e]
  show Blanks t (p.f2 - (p.f1 - i)) _
  rw [show p.f2 - (p.f1 - i) = i + (p.f2 - p.f1) by omega]
  exact no_blank t _ (by omega) (by omega)
 | more p i j ps hw h1 h2 h3 ih =>
  intro hp
  have hpp := hp p (List.mem_cons_self ..)
  have hv := piece_vr hD hpp hw h1 h2 (by unfold NumCh; omega)
  have z0 := hw.lo0
  have hlt := hpp.2.2.1
  have e := sh_eq (p.f1 - i) p
  refine .more _ i (i + (p.f2 - p.f1)) (i + (p.f2 - p.f1) + 1) j _ hv (by rw [e]; show p.f1 - (p.f1 - i) = i; omega) (by rw [e]; show p.f1 - (p.f1 - i) < p.f2 - (p.f1 - i); omega) ?_ h1 h2 (no_blank t _ (by omega) (by omega)) (ih fun q hq => hp q (List.mem_cons_of_mem _ hq))
  rw [e]
  show Blanks t (p.f2 - (p.f1 - i)) _
  rw [show p.f2 - (p.f1 - i) = i + (p.f2 - p.f1) by omega]
  exact no_blank t _ (by omega) (by omega)
theorem lay_paired {ps : List S31} {i j : Int} (h : Lay s t ps i j) : (∀ p ∈ ps, Piece D s p) → PairedAt t j → PairedAt t i := by
 have one : ∀ {p : S31} {i : Int}, Piece D s p → Win s t (p.f1 - i) i (i + (p.f2 - p.f1)) → PairedAt t (i + (p.f2 - p.f1)) → PairedAt t i := fun {p i} hpp hw hq => by
  obtain ⟨hv, hpa, hlt, hle, he⟩ := hpp
  have hL := value_lex hw.sm D p hv (by omega)
  have := paired_mv hw hL (by omega) (by omega) hpa (by rw [show p.f2 - (p.f1 - i) = i + (p.f2 - p.f1) by omega]; exact hq)
  rwa [show p.f1 - (p.f1 - i) = i by omega] at this
 induction h with
 | last p i hw h1 h2 =>
  intro hp hq
  have hlt := (hp p (List.mem_singleton.2 rfl)).2.2.1
  have z0 := hw.lo0
  exact one (hp p (List.mem_singleton.2 rfl)) hw (PairedAt.back1 hw.sm' hq (by omega) h1 (by omega))
 | more p i j ps hw h1 h2 h3 ih =>
  intro hp hq
  have hlt := (hp p (List.mem_cons_self ..)).2.2.1
  have z0 := hw.lo0
  exact one (hp p (List.mem_cons_self ..)) hw (PairedAt.back1 hw.sm' (ih (fun q hq => hp q (List.mem_cons_of_mem _ hq)) hq) (by omega) h1 (by omega))
theorem shs_zero (ks : List S31) : shs 0 ks = ks := by
 have one : ∀ p : S31, sh 0 p = p := fun p => by
  induction p using S31.rec (motive_2 := fun l => shs 0 l = l) with
  | mk f0 f1 f2 f3 f4 ih =>
   rw [sh_eq]
   simp only [Int.sub_zero, ih]
   have : f3.map (shn 0) = f3 := by
    rw [show shn 0 = id from funext fun x => by cases x; simp [shn]]
    exact List.map_id _
   rw [this]
  | nil => rfl
  | cons a l ih1 ih2 =>
   show sh 0 a :: shs 0 l = _
   rw [ih1, ih2]
 rw [shs_map]
 conv => rhs; rw [← List.map_id ks]
 exact List.map_congr_left (fun p _ => one p)
theorem win_self (hn : Small t) : Win t t 0 0 t.size := ⟨hn, hn, Int.le_refl _, by omega, Int.le_refl _, by omega, fun q a b => by rw [Int.add_zero]⟩
theorem arr_vr (hn : Small t) {ks : List S31} {j : Int} (h0 : bt t 0 = 91) (hj : j ≤ t.size) (hj0 : 0 < j) (h : (ks = [] ∧ ∃ p, Blanks t (0 + 1) p ∧ p < t.size ∧ bt t p = 93 ∧ j = p + 1) ∨ ∃ p, Blanks t (0 + 1) p ∧ Kids (aA.at_ D) t ks p j) : VR (aA.at_ (D + 2)) t ⟨5, 0, j, [], ks⟩ := by
 obtain ⟨K, g⟩ := elements_mv (win_self hn) (value_mv (win_self hn) D D (Nat.le_refl _)) (first_at hn D) (i := 0) (j := j) h (by omega) (by omega)
 refine ⟨Int.le_refl _, K, ?_⟩
 show aA.f (aD.at_ (D + 1)) (aJ.at_ (D + 1)) K t 0 = _
 have g' := g 0
 rw [Nat.add_zero, shs_zero, Int.sub_zero, Int.sub_zero] at g'
 unfold aA.f
 rw [here_eq t _ (Int.le_refl _), at0_at (by omega), al]
 dsimp only
 rw [if_neg (by omega), if_pos h0]
 have g2 : (aJ.at_ (D + 1)).f K t 0 = some (ks, true, t, j) := g'
 rw [g2, al]
theorem places_all (hn : Small t) {p : S31} (hp : VR (aA.at_ D) t p) (h1 : p.f1 = 0) (h2 : p.f2 = t.size) (h3 : p.f1 < p.f2) : ∃ K, ∀ n, places (aA.at_ D) (K + n) t = some (p.f0, p.f1, p.f2, p.f3, p.f4, true) := by
 have hf := first_at hn D p hp (by omega)
 have hw := win_self hn
 obtain ⟨_, K, g⟩ := hp
 have gu : ∀ n, (aA.at_ D).f (K + n) t p.f1 = some (p.f0, p.f1, p.f2, p.f3, p.f4, true, t, p.f2) := fun n => by
  induction n with
  | zero => exact g
  | succ n ih => exact (aA.at_ D).mono _ _ _ _ ih
 have b1 := blanks_fwd hn (i := 0) (j := 0) (by omega) ⟨by omega, by omega, fun q a b => by omega⟩ (fun h => hf.1 (by rw [h1]; exact h.2))
 have b2 := blanks_fwd hn (i := p.f2) (j := p.f2) (by omega) ⟨by omega, by omega, fun q a b => by omega⟩ (fun h => by have := h.1; omega)
 refine ⟨K + t.size + 1, fun n => ?_⟩
 unfold places
 rw [show K + t.size + 1 + n = t.size + 1 + (K + n) by omega, b1, al]
 dsimp only
 rw [show t.size + 1 + (K + n) = K + (t.size + 1 + n) by omega]
 have := gu (t.size + 1 + n)
 rw [h1] at this
 rw [this, al]
 dsimp only
 rw [if_pos rfl, show K + (t.size + 1 + n) = t.size + 1 + (K + n) by omega, b2, al, if_pos (by omega), h1]
end
end
section
theorem str_mv {s t : av} {d lo hi : Int} (hw : Win s t d lo hi) {i j : Int} (h : StrSeg (bytesOf s) (i + d) (j + d)) (h0 : lo ≤ i) (h1 : j ≤ hi) : StrSeg (bytesOf t) i j := by
 obtain ⟨K, g⟩ := quoted_f_mv hw h h0 h1
 have z0 := hw.lo0
 have z2 := hw.hi'
 have hlt := h.2.1
 have e := hw.eq i h0 (by omega)
 have q := h.1
 rw [rd_bytesOf] at q
 exact (quoted_inv hw.sm' (by omega) (by omega) (by rw [e]; exact q) (g 0)).2
def PieceM (D : Nat) (s : av) (x : S93 × S31) : Prop := 0 ≤ x.1.f0 ∧ StrSeg (bytesOf s) x.1.f0 x.1.f1 ∧ PairedAt s x.1.f0 ∧ x.1.f1 ≤ s.size ∧ Piece D s x.2
def lenM (x : S93 × S31) : Int := x.1.f1 - x.1.f0 + 1 + (x.2.f2 - x.2.f1)
structure AtM (s t : av) (x : S93 × S31) (i : Int) : Prop where
 nm : Win s t (x.1.f0 - i) i (i + (x.1.f1 - x.1.f0))
 lt : i + (x.1.f1 - x.1.f0) < t.size
 col : bt t (i + (x.1.f1 - x.1.f0)) = 58
 val : Win s t (x.2.f1 - (i + (x.1.f1 - x.1.f0) + 1)) (i + (x.1.f1 - x.1.f0) + 1) (i + (x.1.f1 - x.1.f0) + 1 + (x.2.f2 - x.2.f1))
inductive LayM (s t : av) : List (S93 × S31) → Int → Int → Prop
 | last (x : S93 × S31) (i : Int) : AtM s t x i → i + lenM x < t.size → bt t (i + lenM x) = 125 → LayM s t [x] i (i + lenM x + 1)
 | more (x : S93 × S31) (i j : Int) (ps : List (S93 × S31)) : AtM s t x i → i + lenM x < t.size → bt t (i + lenM x) = 44 → LayM s t ps (i + lenM x + 1) j → LayM s t (x :: ps) i j
def layN : List (S93 × S31) → Int → List S93
 | [], _ => []
 | x :: ps, i => shn (x.1.f0 - i) x.1 :: layN ps (i + lenM x + 1)
def layV : List (S93 × S31) → Int → List S31
 | [], _ => []
 | x :: ps, i => sh (x.2.f1 - (i + (x.1.f1 - x.1.f0) + 1)) x.2 :: layV ps (i + lenM x + 1)
section
variable {s t : av} {D D' : Nat}
theorem laym_mems (hD : D ≤ D') {ps : List (S93 × S31)} {i j : Int} (h : LayM s t ps i j) : (∀ x ∈ ps, PieceM D s x) → Mems (aA.at_ D') t (layN ps i) (layV ps i) i j := by
 have one : ∀ {x : S93 × S31} {i c : Int}, PieceM D s x → AtM s t x i → i + lenM x < t.size → bt t (i + lenM x) = c → ¬ NumCh c → ∀ (p : S31), p = sh (x.2.f1 - (i + (x.1.f1 - x.1.f0) + 1)) x.2 →
   0 ≤ i ∧ StrSeg (bytesOf t) i (i + (x.1.f1 - x.1.f0)) ∧ Blanks t (i + (x.1.f1 - x.1.f0)) (i + (x.1.f1 - x.1.f0)) ∧ i + (x.1.f1 - x.1.f0) < t.size ∧ bt t (i + (x.1.f1 - x.1.f0)) = 58 ∧ Blanks t (i + (x.1.f1 - x.1.f0) + 1) p.f1 ∧ VR (aA.at_ D') t p ∧ p.f1 < p.f2 ∧ Blanks t p.f2 (i + lenM x) := by
  intro x i c hx ha h1 h2 hc p hp
  obtain ⟨g0, g1, g2, g3, g4⟩ := hx
  obtain ⟨a1, a2, a3, a4⟩ := ha
  have z0 := a1.lo0
  have hlt := g1.2.1
  have hl := g4.2.2.1
  have el : i + (x.1.f1 - x.1.f0) + 1 + (x.2.f2 - x.2.f1) = i + lenM x := by unfold lenM; omega
  have hv := piece_vr hD g4 a4 (by omega) (by rw [el]; exact h2) hc
  have e := sh_eq (x.2.f1 - (i + (x.1.f1 - x.1.f0) + 1)) x.2
  have e1 : p.f1 = i + (x.1.f1 - x.1.f0) + 1 := by rw [hp, e]; show x.2.f1 - _ = _; omega
  have e2 : p.f2 = i + lenM x := by rw [hp, e]; show x.2.f2 - _ = _; omega
  refine ⟨z0, str_mv a1 (by rwa [show i + (x.1.f0 - i) = x.1.f0 by omega, show i + (x.1.f1 - x.1.f0) + (x.1.f0 - i) = x.1.f1 by omega]) (Int.le_refl _) (Int.le_refl _), no_blank t _ (by omega) (by omega), a2, a3, by rw [e1]; exact no_blank t _ (by omega) (by omega), by rw [hp]; exact hv, by omega, by rw [e2]; exact no_blank t _ (by omega) (by omega)⟩
 have en : ∀ (x : S93 × S31) (i : Int), shn (x.1.f0 - i) x.1 = ⟨i, i + (x.1.f1 - x.1.f0)⟩ := fun x i => by
  show (⟨x.1.f0 - (x.1.f0 - i), x.1.f1 - (x.1.f0 - i)⟩ : S93) = _
  congr 1 <;> omega
 induction h with
 | last x i ha h1 h2 =>
  intro hp
  obtain ⟨b0, b1, b2, b3, b4, b5, b6, b7, b8⟩ := one (hp x (List.mem_singleton.2 rfl)) ha h1 h2 (by unfold NumCh; omega) _ rfl
  have e := en x i
  exact .last _ _ i _ _ (by rw [e]) (by rw [e]; exact b1) (by rw [e]; exact b2) b3 b4 b5 b6 b7 b8 h1 h2
 | more x i j ps ha h1 h2 h3 ih =>
  intro hp
  obtain ⟨b0, b1, b2, b3, b4, b5, b6, b7, b8⟩ := one (hp x (List.mem_cons_self ..)) ha h1 h2 (by unfold NumCh; omega) _ rfl
  have e := en x i
  have hl : 0 ≤ i + lenM x := by have hx := hp x (List.mem_cons_self ..); have := hx.2.1.2.1; have := hx.2.2.2.2.2.2.1; unfold lenM; omega
  exact .more _ _ i _ _ (i + lenM x + 1) j _ _ (by rw [e]) (by rw [e]; exact b1) (by rw [e]; exact b2) b3 b4 b5 b6 b7 b8 h1 h2 (no_blank t _ (by omega) (by omega)) (ih fun q hq => hp q (List.mem_cons_of_mem _ hq))
theorem laym_paired {ps : List (S93 × S31)} {i j : Int} (h : LayM s t ps i j) : (∀ x ∈ ps, PieceM D s x) → PairedAt t j → PairedAt t i := by
 have one : ∀ {x : S93 × S31} {i : Int}, PieceM D s x → AtM s t x i → PairedAt t (i + lenM x) → PairedAt t i := fun {x i} hx ha hq => by
  obtain ⟨g0, g1, g2, g3, hv, hpa, hlt, hle, he⟩ := hx
  obtain ⟨a1, a2, a3, a4⟩ := ha
  have z0 := a1.lo0
  have hl := g1.2.1
  have hL := value_lex a1.sm D x.2 hv (by omega)
  have q1 := paired_mv a4 hL (by omega) (by omega) hpa (by rw [show x.2.f2 - (x.2.f1 - (i + (x.1.f1 - x.1.f0) + 1)) = i + lenM x by unfold lenM; omega]; exact hq)
  rw [show x.2.f1 - (x.2.f1 - (i + (x.1.f1 - x.1.f0) + 1)) = i + (x.1.f1 - x.1.f0) + 1 by omega] at q1
  have q2 := PairedAt.back1 a1.sm' q1 (by omega) a2 (by omega)
  have := paired_mv a1 (Lex.str x.1.f0 x.1.f1 x.1.f1 g0 g1 (.nil _)) (by omega) (by omega) g2 (by rw [show x.1.f1 - (x.1.f0 - i) = i + (x.1.f1 - x.1.f0) by omega]; exact q2)
  rwa [show x.1.f0 - (x.1.f0 - i) = i by omega] at this
 induction h with
 | last x i ha h1 h2 =>
  intro hp hq
  have hx := hp x (List.mem_singleton.2 rfl)
  have z0 := ha.nm.lo0
  have hl := hx.2.1.2.1
  have hl2 := hx.2.2.2.2.2.2.1
  exact one hx ha (PairedAt.back1 ha.nm.sm' hq (by unfold lenM; omega) h1 (by omega))
 | more x i j ps ha h1 h2 h3 ih =>
  intro hp hq
  have hx := hp x (List.mem_cons_self ..)
  have z0 := ha.nm.lo0
  have hl := hx.2.1.2.1
  have hl2 := hx.2.2.2.2.2.2.1
  exact one hx ha (PairedAt.back1 ha.nm.sm' (ih (fun q hq => hp q (List.mem_cons_of_mem _ hq)) hq) (by unfold lenM; omega) h1 (by omega))
theorem obj_vr (hn : Small t) {ns : List S93} {ks : List S31} {j : Int} (h0 : bt t 0 = 123) (hj : j ≤ t.size) (hj0 : 0 < j) (h : MemsAt (aA.at_ D) t 0 j ns ks) : VR (aA.at_ (D + 2)) t ⟨6, 0, j, ns, ks⟩ := by
 obtain ⟨K, g⟩ := members_mv (win_self hn) (value_mv (win_self hn) D D (Nat.le_refl _)) (first_at hn D) (i := 0) (j := j) h (by omega) (by omega)
 refine ⟨Int.le_refl _, K, ?_⟩
 show aA.f (aD.at_ (D + 1)) (aJ.at_ (D + 1)) K t 0 = _
 have g' := g 0
 have e0 : ns.map (shn 0) = ns := by
  rw [show shn 0 = id from funext fun x => by cases x; simp [shn]]
  exact List.map_id _
 rw [Nat.add_zero, shs_zero, Int.sub_zero, Int.sub_zero, e0] at g'
 unfold aA.f
 rw [here_eq t _ (Int.le_refl _), at0_at (by omega), al]
 dsimp only
 rw [if_pos h0]
 have g2 : (aD.at_ (D + 1)).f K t 0 = some (ns, ks, true, t, j) := g'
 rw [g2, al]
end
end
section
def tailI : List (List Int) → List Int
 | [] => []
 | a :: l => 44 :: (a ++ tailI l)
def inter : List (List Int) → List Int
 | [] => []
 | a :: l => a ++ tailI l
theorem tailI_snoc (l : List (List Int)) (x : List Int) : tailI (l ++ [x]) = tailI l ++ 44 :: x := by
 induction l with
 | nil => simp [tailI]
 | cons a l ih => simp [tailI, ih]
theorem inter_snoc (l : List (List Int)) (x : List Int) : inter (l ++ [x]) = if l = [] then x else inter l ++ 44 :: x := by
 cases l with
 | nil => simp [inter, tailI]
 | cons a l => simp [inter, tailI_snoc]
def Byt (l : List Int) : Prop := ∀ x ∈ l, 0 ≤ x ∧ x ≤ 255
theorem bytesOf_byt (s : av) : Byt (bytesOf s) := fun x hx => by
 unfold bytesOf at hx
 obtain ⟨b, _, rfl⟩ := List.mem_map.1 hx
 have := b.toNat_lt
 omega
theorem bt_str {l : List Int} (h : Byt l) {q : Nat} (hq : q < l.length) : bt (strOfNums l) (q : Int) = l[q] := by
 have hz := strOfNums_size l
 have := h l[q] (List.getElem_mem hq)
 have hlt : ((q : Int)).toNat < (strOfNums l).size := by rw [hz]; omega
 rw [← bt_at _ _ hlt]
 show ((((strOfNums l).data[((q : Int)).toNat]'hlt).toNat : Nat) : Int) = _
 simp only [strOfNums, Int.toNat_natCast]
 rw [List.getElem_toArray, List.getElem_map]
 have : (UInt8.ofNat l[q].toNat).toNat = l[q].toNat := by
  rw [UInt8.toNat_ofNat']
  omega
 rw [this]
 omega
theorem drop_at {l r : List Int} {i : Nat} {c : Int} (h : l.drop i = c :: r) : ∃ hi : i < l.length, l[i] = c ∧ l.drop (i + 1) = r := by
 have hi : i < l.length := by
  rcases Nat.lt_or_ge i l.length with h1 | h1
  ·exact h1
  ·rw [List.drop_eq_nil_of_le h1] at h
   cases h
 rw [List.drop_eq_getElem_cons hi] at h
 injection h with h1 h2
 exact ⟨hi, h1, h2⟩
theorem drop_app {l a r : List Int} {i : Nat} (h : l.drop i = a ++ r) : l.drop (i + a.length) = r ∧ ∀ q, (hq : q < a.length) → ∃ hi : i + q < l.length, l[i + q] = a[q] := by
 refine ⟨?_, fun q hq => ?_⟩
 ·rw [← List.drop_drop, h, List.drop_left]
 ·have e : (l.drop i)[q]? = some a[q] := by rw [h, List.getElem?_append_left hq, List.getElem?_eq_getElem hq]
  rw [List.getElem?_drop] at e
  obtain ⟨hi, he⟩ := List.getElem?_eq_some_iff.1 e
  exact ⟨hi, he⟩
def raw (s : av) (a b : Int) : List Int := bytesOf (s.extract a.toNat b.toNat)
section
variable {s : av} {l : List Int} (hs : Small s) (hl : l.length ≤ 1048576) (hB : Byt l)
include hs hl hB
omit hs hl in
theorem byte_of {r : List Int} {i : Nat} {c : Int} (h : l.drop i = c :: r) : (i : Int) < (strOfNums l).size ∧ bt (strOfNums l) (i : Int) = c ∧ l.drop (i + 1) = r := by
 obtain ⟨hi, h1, h2⟩ := drop_at h
 refine ⟨by rw [strOfNums_size]; omega, ?_, h2⟩
 rw [bt_str hB hi]
 exact h1
theorem win_of {r : List Int} {i : Nat} {a b : Int} (h0 : 0 ≤ a) (h1 : a ≤ b) (h2 : b ≤ s.size) (hr : r ≠ []) (h : l.drop i = raw s a b ++ r) : Win s (strOfNums l) (a - i) i (i + (b - a)) ∧ l.drop (i + (b - a).toNat) = r := by
 have hs' : s.size ≤ 1048576 := hs
 have hz := strOfNums_size l
 have hraw : (raw s a b).length = (b - a).toNat := by unfold raw; rw [bytesOf_length, ByteArray.size_extract]; omega
 obtain ⟨g1, g2⟩ := drop_app h
 rw [hraw] at g1
 have hi2 : i + (b - a).toNat ≤ l.length := by
  rcases Nat.lt_or_ge l.length (i + (b - a).toNat) with hlt | hge
  ·rw [List.drop_eq_nil_of_le (by omega)] at g1
   exact absurd g1.symm hr
  ·exact hge
 refine ⟨⟨hs, by show (strOfNums l).size ≤ 1048576; omega, by omega, by omega, by omega, by omega, fun q q0 q1 => ?_⟩, g1⟩
 obtain ⟨hi3, he⟩ := g2 (q - i).toNat (by omega)
 have e1 : bt (strOfNums l) q = l[i + (q - i).toNat] := by rw [← bt_str hB hi3]; congr 1; omega
 rw [e1, he]
 have e2 : rd (raw s a b) (q - i) = (raw s a b)[(q - i).toNat]'(by omega) := by
  unfold rd
  rw [List.getD_eq_getElem?_getD, List.getElem?_eq_getElem (by omega)]
  rfl
 rw [← e2]
 unfold raw
 rw [rd_bytesOf, bt_ext (by omega) (by omega) (by omega)]
 congr 1
 omega
theorem lay_of : ∀ (ps : List S31) (i : Nat), (∀ p ∈ ps, 0 ≤ p.f1 ∧ p.f1 < p.f2 ∧ p.f2 ≤ s.size) → ps ≠ [] → l.drop i = inter (ps.map fun p => raw s p.f1 p.f2) ++ [93] → Lay s (strOfNums l) ps i l.length
 | [], i, _, hne, _ => absurd rfl hne
 | [p], i, hp, _, h => by
  obtain ⟨h0, h1, h2⟩ := hp p (List.mem_singleton.2 rfl)
  have h : l.drop i = raw s p.f1 p.f2 ++ [93] := by rw [h]; simp [inter, tailI]
  obtain ⟨w, hd⟩ := win_of hs hl hB h0 (by omega) h2 (by simp) h
  obtain ⟨b1, b2, b3⟩ := byte_of hB hd
  have e : ((i + (p.f2 - p.f1).toNat : Nat) : Int) = i + (p.f2 - p.f1) := by omega
  rw [e] at b1 b2
  have hlen : l.length = i + (p.f2 - p.f1).toNat + 1 := by
   have := congrArg List.length hd
   rw [List.length_drop] at this
   simp at this
   omega
  have := Lay.last p i w b1 b2
  rwa [show (i : Int) + (p.f2 - p.f1) + 1 = l.length by omega] at this
 | p :: p2 :: ps, i, hp, _, h => by
  obtain ⟨h0, h1, h2⟩ := hp p (List.mem_cons_self ..)
  have h : l.drop i = raw s p.f1 p.f2 ++ 44 :: (inter ((p2 :: ps).map fun p => raw s p.f1 p.f2) ++ [93]) := by rw [h]; simp [inter, tailI]
  obtain ⟨w, hd⟩ := win_of hs hl hB h0 (by omega) h2 (by simp) h
  obtain ⟨b1, b2, b3⟩ := byte_of hB hd
  have e : ((i + (p.f2 - p.f1).toNat : Nat) : Int) = i + (p.f2 - p.f1) := by omega
  rw [e] at b1 b2
  have ih := lay_of (p2 :: ps) _ (fun q hq => hp q (List.mem_cons_of_mem _ hq)) (by simp) b3
  exact .more p i _ _ w b1 b2 (by rwa [show ((i + (p.f2 - p.f1).toNat + 1 : Nat) : Int) = i + (p.f2 - p.f1) + 1 by omega] at ih)
def rawM (s : av) (x : S93 × S31) : List Int := raw s x.1.f0 x.1.f1 ++ 58 :: raw s x.2.f1 x.2.f2
theorem atm_of {r : List Int} {i : Nat} {x : S93 × S31} (h0 : 0 ≤ x.1.f0 ∧ x.1.f0 ≤ x.1.f1 ∧ x.1.f1 ≤ s.size) (h1 : 0 ≤ x.2.f1 ∧ x.2.f1 < x.2.f2 ∧ x.2.f2 ≤ s.size) (hr : r ≠ []) (h : l.drop i = rawM s x ++ r) : AtM s (strOfNums l) x i ∧ l.drop (i + (lenM x).toNat) = r := by
 obtain ⟨a0, a1, a2⟩ := h0
 obtain ⟨b0, b1, b2⟩ := h1
 have h : l.drop i = raw s x.1.f0 x.1.f1 ++ 58 :: (raw s x.2.f1 x.2.f2 ++ r) := by rw [h]; simp [rawM]
 obtain ⟨w, hd⟩ := win_of hs hl hB a0 a1 a2 (by simp) h
 obtain ⟨c1, c2, c3⟩ := byte_of hB hd
 obtain ⟨w2, hd2⟩ := win_of hs hl hB b0 (by omega) b2 hr c3
 have e : ((i + (x.1.f1 - x.1.f0).toNat : Nat) : Int) = i + (x.1.f1 - x.1.f0) := by omega
 have e2 : ((i + (x.1.f1 - x.1.f0).toNat + 1 : Nat) : Int) = i + (x.1.f1 - x.1.f0) + 1 := by omega
 rw [e] at c1 c2
 rw [e2] at w2
 refine ⟨⟨w, c1, c2, w2⟩, ?_⟩
 rw [← hd2]
 congr 1
 unfold lenM
 omega
theorem laym_of : ∀ (ps : List (S93 × S31)) (i : Nat), (∀ x ∈ ps, (0 ≤ x.1.f0 ∧ x.1.f0 ≤ x.1.f1 ∧ x.1.f1 ≤ s.size) ∧ 0 ≤ x.2.f1 ∧ x.2.f1 < x.2.f2 ∧ x.2.f2 ≤ s.size) → ps ≠ [] → l.drop i = inter (ps.map (rawM s)) ++ [125] → LayM s (strOfNums l) ps i l.length
 | [], i, _, hne, _ => absurd rfl hne
 | [x], i, hp, _, h => by
  obtain ⟨h0, h1⟩ := hp x (List.mem_singleton.2 rfl)
  have hm : 0 ≤ lenM x := by unfold lenM; omega
  have h : l.drop i = rawM s x ++ [125] := by rw [h]; simp [inter, tailI]
  obtain ⟨w, hd⟩ := atm_of hs hl hB h0 h1 (by simp) h
  obtain ⟨b1, b2, b3⟩ := byte_of hB hd
  have e : ((i + (lenM x).toNat : Nat) : Int) = i + lenM x := by omega
  rw [e] at b1 b2
  have hlen : l.length = i + (lenM x).toNat + 1 := by
   have := congrArg List.length hd
   rw [List.length_drop] at this
   simp at this
   omega
  have := LayM.last x i w b1 b2
  rwa [show (i : Int) + lenM x + 1 = l.length by omega] at this
 | x :: x2 :: ps, i, hp, _, h => by
  obtain ⟨h0, h1⟩ := hp x (List.mem_cons_self ..)
  have hm : 0 ≤ lenM x := by unfold lenM; omega
  have h : l.drop i = rawM s x ++ 44 :: (inter ((x2 :: ps).map (rawM s)) ++ [125]) := by rw [h]; simp [inter, tailI]
  obtain ⟨w, hd⟩ := atm_of hs hl hB h0 h1 (by simp) h
  obtain ⟨b1, b2, b3⟩ := byte_of hB hd
  have e : ((i + (lenM x).toNat : Nat) : Int) = i + lenM x := by omega
  rw [e] at b1 b2
  have ih := laym_of (x2 :: ps) _ (fun q hq => hp q (List.mem_cons_of_mem _ hq)) (by simp) b3
  exact .more x i _ _ w b1 b2 (by rwa [show ((i + (lenM x).toNat + 1 : Nat) : Int) = i + lenM x + 1 by omega] at ih)
end
end
section
structure Read1 (D : Nat) (t : av) (q : S31) : Prop where
 sm : Small t
 vr : VR (aA.at_ D) t q
 f1 : q.f1 = 0
 f2 : q.f2 = t.size
 pos : q.f1 < q.f2
 pair : PairedAt t 0
 pl : ∃ K, ∀ n, places (aA.at_ D) (K + n) t = some (q.f0, q.f1, q.f2, q.f3, q.f4, true)
theorem read1 {D : Nat} {t : av} {q : S31} (hn : Small t) (hv : VR (aA.at_ D) t q) (h1 : q.f1 = 0) (h2 : q.f2 = t.size) (h3 : q.f1 < q.f2) (hp : PairedAt t 0) : Read1 D t q := ⟨hn, hv, h1, h2, h3, hp, places_all hn hv h1 h2 h3⟩
theorem byt_inter {ls : List (List Int)} (h : ∀ a ∈ ls, Byt a) : Byt (inter ls) := by
 have ht : ∀ {ls : List (List Int)}, (∀ a ∈ ls, Byt a) → Byt (tailI ls) := fun {ls} => by
  induction ls with
  | nil => exact fun _ x hx => by cases hx
  | cons a l ih =>
   intro h x hx
   rcases List.mem_cons.1 hx with rfl | hx
   ·omega
   ·rcases List.mem_append.1 hx with hx | hx
    ·exact h a (List.mem_cons_self ..) x hx
    ·exact ih (fun b hb => h b (List.mem_cons_of_mem _ hb)) x hx
 cases ls with
 | nil => exact fun x hx => by cases hx
 | cons a l =>
  intro x hx
  rcases List.mem_append.1 hx with hx | hx
  ·exact h a (List.mem_cons_self ..) x hx
  ·exact ht (fun b hb => h b (List.mem_cons_of_mem _ hb)) x hx
def boxed (o c : Int) (ls : List (List Int)) : List Int := o :: (inter ls ++ [c])
theorem byt_boxed {o c : Int} {ls : List (List Int)} (ho : 0 ≤ o ∧ o ≤ 255) (hc : 0 ≤ c ∧ c ≤ 255) (h : ∀ a ∈ ls, Byt a) : Byt (boxed o c ls) := fun x hx => by
 rcases List.mem_cons.1 hx with rfl | hx
 ·exact ho
 ·rcases List.mem_append.1 hx with hx | hx
  ·exact byt_inter h x hx
  ·rw [List.mem_singleton.1 hx]; exact hc
section
variable {s : av} {D : Nat} (hs : Small s)
include hs
theorem arr_read {ps : List S31} (hp : ∀ p ∈ ps, Piece D s p) (hl : (boxed 91 93 (ps.map fun p => raw s p.f1 p.f2)).length ≤ 1048576) : Read1 (D + 2) (strOfNums (boxed 91 93 (ps.map fun p => raw s p.f1 p.f2))) ⟨5, 0, ((boxed 91 93 (ps.map fun p => raw s p.f1 p.f2)).length : Int), [], lays ps 1⟩ ∧
  (ps ≠ [] → Lay s (strOfNums (boxed 91 93 (ps.map fun p => raw s p.f1 p.f2))) ps 1 ((boxed 91 93 (ps.map fun p => raw s p.f1 p.f2)).length : Int)) := by
 have hB : Byt (boxed 91 93 (ps.map fun p => raw s p.f1 p.f2)) := byt_boxed (by decide) (by decide) (fun a ha => by
  obtain ⟨p, _, rfl⟩ := List.mem_map.1 ha
  exact bytesOf_byt _)
 obtain ⟨l, hl2⟩ : ∃ l, boxed 91 93 (ps.map fun p => raw s p.f1 p.f2) = l := ⟨_, rfl⟩
 have hd0 : l.drop 0 = 91 :: (inter (ps.map fun p => raw s p.f1 p.f2) ++ [93]) := by rw [List.drop_zero, ← hl2]; rfl
 rw [hl2] at hl hB ⊢
 have hz := strOfNums_size l
 have hn : Small (strOfNums l) := by show (strOfNums l).size ≤ 1048576; omega
 obtain ⟨b1, b2, b3⟩ := byte_of hB hd0
 have hLay : ps ≠ [] → Lay s (strOfNums l) ps 1 l.length := fun hne => lay_of hs hl hB ps 1 (fun p hq => ⟨(hp p hq).1.1, (hp p hq).2.2.1, (hp p hq).2.2.2.1⟩) hne b3
 have hpe : PairedAt (strOfNums l) (l.length : Int) := PairedAt.end_ (by omega)
 refine ⟨?_, hLay⟩
 by_cases hne : ps = []
 ·subst hne
  have hlen : l.length = 2 := by rw [← hl2]; rfl
  obtain ⟨c1, c2, c3⟩ := byte_of hB (show l.drop 1 = 93 :: [] from b3)
  refine read1 hn (arr_vr hn b2 (by omega) (by omega) (.inl ⟨rfl, 1, no_blank _ _ (by omega) (by omega), c1, c2, by omega⟩)) rfl (by show (l.length : Int) = _; omega) (by show (0 : Int) < l.length; omega) ?_
  exact PairedAt.back1 hn (PairedAt.back1 hn (by rw [show (0 : Int) + 1 + 1 = l.length by omega]; exact hpe) (by omega) c1 (by rw [show (0 : Int) + 1 = ((1 : Nat) : Int) by omega, c2]; decide)) (by omega) (by omega) Z67
 ·have hL := hLay hne
  have hk := lay_kids (Nat.le_refl D) hL hp
  have hlp : 0 < l.length := by omega
  refine read1 hn (arr_vr hn b2 (by omega) (by omega) (.inr ⟨1, no_blank _ _ (by omega) (by omega), hk⟩)) rfl (by show (l.length : Int) = _; omega) (by show (0 : Int) < l.length; omega) ?_
  exact PairedAt.back1 hn (by rw [show (0 : Int) + 1 = 1 by omega]; exact lay_paired hL hp hpe) (by omega) (by omega) Z67
theorem obj_read {ps : List (S93 × S31)} (hp : ∀ x ∈ ps, PieceM D s x) (hl : (boxed 123 125 (ps.map (rawM s))).length ≤ 1048576) : Read1 (D + 2) (strOfNums (boxed 123 125 (ps.map (rawM s)))) ⟨6, 0, ((boxed 123 125 (ps.map (rawM s))).length : Int), layN ps 1, layV ps 1⟩ ∧
  (ps ≠ [] → LayM s (strOfNums (boxed 123 125 (ps.map (rawM s)))) ps 1 ((boxed 123 125 (ps.map (rawM s))).length : Int)) := by
 have hB : Byt (boxed 123 125 (ps.map (rawM s))) := byt_boxed (by decide) (by decide) (fun a ha => by
  obtain ⟨p, _, rfl⟩ := List.mem_map.1 ha
  intro x hx
  rcases List.mem_append.1 hx with hx | hx
  ·exact bytesOf_byt _ x hx
  ·rcases List.mem_cons.1 hx with rfl | hx
   ·omega
   ·exact bytesOf_byt _ x hx)
 obtain ⟨l, hl2⟩ : ∃ l, boxed 123 125 (ps.map (rawM s)) = l := ⟨_, rfl⟩
 have hd0 : l.drop 0 = 123 :: (inter (ps.map (rawM s)) ++ [125]) := by rw [List.drop_zero, ← hl2]; rfl
 rw [hl2] at hl hB ⊢
 have hz := strOfNums_size l
 have hn : Small (strOfNums l) := by show (strOfNums l).size ≤ 1048576; omega
 obtain ⟨b1, b2, b3⟩ := byte_of hB hd0
 have hLay : ps ≠ [] → LayM s (strOfNums l) ps 1 l.length := fun hne => laym_of hs hl hB ps 1 (fun x hq => by
  obtain ⟨g0, g1, g2, g3, g4⟩ := hp x hq
  have := g1.2.1
  exact ⟨⟨g0, by omega, g3⟩, g4.1.1, g4.2.2.1, g4.2.2.2.1⟩) hne b3
 have hpe : PairedAt (strOfNums l) (l.length : Int) := PairedAt.end_ (by omega)
 refine ⟨?_, hLay⟩
 by_cases hne : ps = []
 ·subst hne
  have hlen : l.length = 2 := by rw [← hl2]; rfl
  obtain ⟨c1, c2, c3⟩ := byte_of hB (show l.drop 1 = 125 :: [] from b3)
  refine read1 hn (obj_vr hn b2 (by omega) (by omega) (.inl ⟨rfl, rfl, 1, no_blank _ _ (by omega) (by omega), c1, c2, by omega⟩)) rfl (by show (l.length : Int) = _; omega) (by show (0 : Int) < l.length; omega) ?_
  exact PairedAt.back1 hn (PairedAt.back1 hn (by rw [show (0 : Int) + 1 + 1 = l.length by omega]; exact hpe) (by omega) c1 (by rw [show (0 : Int) + 1 = ((1 : Nat) : Int) by omega, c2]; decide)) (by omega) (by omega) Z67
 ·have hL := hLay hne
  have hk := laym_mems (Nat.le_refl D) hL hp
  have hlp : 0 < l.length := by omega
  refine read1 hn (obj_vr hn b2 (by omega) (by omega) (.inr ⟨1, no_blank _ _ (by omega) (by omega), hk⟩)) rfl (by show (l.length : Int) = _; omega) (by show (0 : Int) < l.length; omega) ?_
  exact PairedAt.back1 hn (by rw [show (0 : Int) + 1 = 1 by omega]; exact laym_paired hL hp hpe) (by omega) (by omega) Z67
end
section
variable {s t : av} {D : Nat}
end
end
section
def sumL : List (List Int) → Nat
 | [] => 0
 | a :: l => a.length + 1 + sumL l
theorem sumL_app (l m : List (List Int)) : sumL (l ++ m) = sumL l + sumL m := by
 induction l with
 | nil => simp [sumL]
 | cons a l ih => rw [List.cons_append, sumL, ih, sumL]; omega
theorem sumL_rev (l : List (List Int)) : sumL l.reverse = sumL l := by
 induction l with
 | nil => rfl
 | cons a l ih => rw [List.reverse_cons, sumL_app, ih, sumL, sumL, sumL]; omega
theorem tail_len (l : List (List Int)) : (tailI l).length = sumL l := by
 induction l with
 | nil => rfl
 | cons a l ih => rw [tailI, sumL, List.length_cons, List.length_append, ih]; omega
theorem boxed_len (o c : Int) {l : List (List Int)} : (boxed o c l).length ≤ (if l = [] then 2 else sumL l + 1) := by
 unfold boxed
 rw [List.length_cons, List.length_append, List.length_singleton]
 cases l with
 | nil => exact Nat.le_refl _
 | cons a l =>
  rw [if_neg (by simp), inter, List.length_append, tail_len, sumL]
  omega
theorem raw_len {s : av} {a b : Int} (h0 : 0 ≤ a) (h1 : a ≤ b) (h2 : b ≤ s.size) : ((raw s a b).length : Int) = b - a := by
 unfold raw
 rw [bytesOf_length, ByteArray.size_extract]
 omega
theorem kids_sum {V : aE} {s : av} {ks : List S31} {i j : Int} (h : Kids V s ks i j) : 0 ≤ i → j ≤ s.size → (sumL (ks.map fun p => raw s p.f1 p.f2) : Int) ≤ j - i := by
 induction h with
 | last p i r _ h1 h2 h3 h4 _ =>
  intro h0 hj
  have := h3.1
  have e := raw_len (s := s) (a := p.f1) (b := p.f2) (by omega) (by omega) (by omega)
  simp only [List.map_cons, List.map_nil, sumL]
  omega
 | more p i r t j ks _ h1 h2 h3 h4 _ h5 h6 ih =>
  intro h0 hj
  have a1 := h3.1
  have a2 := h5.1
  have := ih (by omega) hj
  have e := raw_len (s := s) (a := p.f1) (b := p.f2) (by omega) (by omega) (by omega)
  simp only [List.map_cons, sumL]
  omega
theorem mems_sum {V : aE} {s : av} {ns : List S93} {ks : List S31} {i j : Int} (h : Mems V s ns ks i j) : 0 ≤ i → j ≤ s.size → (sumL ((ns.zip ks).map (rawM s)) : Int) ≤ j - i := by
 have one : ∀ (nm : S93) (p : S31) (i c r : Int), nm.f0 = i → StrSeg (bytesOf s) i nm.f1 → Blanks s nm.f1 c → Blanks s (c + 1) p.f1 → p.f1 < p.f2 → Blanks s p.f2 r → 0 ≤ i → r < s.size → ((rawM s (nm, p)).length : Int) + 1 ≤ r + 1 - i := by
  intro nm p i c r h1 h2 h3 h4 h5 h6 h0 hr
  have a1 := h3.1
  have a2 := h4.1
  have a3 := h6.1
  have a4 := h2.2.1
  have e1 := raw_len (s := s) (a := nm.f0) (b := nm.f1) (by omega) (by omega) (by omega)
  have e2 := raw_len (s := s) (a := p.f1) (b := p.f2) (by omega) (by omega) (by omega)
  show ((raw s nm.f0 nm.f1 ++ 58 :: raw s p.f1 p.f2).length : Int) + 1 ≤ _
  rw [List.length_append, List.length_cons]
  omega
 induction h with
 | last nm p i c r h1 h2 h3 _ _ h4 _ h5 h6 h7 _ =>
  intro h0 hj
  have := one nm p i c r h1 h2 h3 h4 h5 h6 h0 h7
  simp only [List.zip_cons_cons, List.zip_nil_right, List.map_cons, List.map_nil, sumL]
  omega
 | more nm p i c r t j ns ks h1 h2 h3 _ _ h4 _ h5 h6 h7 _ h8 h9 ih =>
  intro h0 hj
  have := one nm p i c r h1 h2 h3 h4 h5 h6 h0 h7
  have a1 := h3.1
  have a2 := h4.1
  have a3 := h6.1
  have a4 := h2.2.1
  have a5 := h8.1
  have := ih (by omega) hj
  simp only [List.zip_cons_cons, List.map_cons, sumL]
  omega
end
end Go.Proofs.YtkjnahgicfmicaaGreatDoor.Sp

import Derived.Test.YtkjnahgicfmicaaGreatDoorZip
import Derived.Test.YtkjnahgicfmicaaGreatDoorSpx14
import Derived.Test.YtkjnahgicfmicaaGreatDoorQj
import Derived.Test.YtkjnahgicfmicaaGreatDoorGj1
import Derived.Test.YtkjnahgicfmicaaGreatDoorUne
import Derived.Test.YtkjnahgicfmicaaGreatDoorQw
import Derived.Test.YtkjnahgicfmicaaGreatDoorFea
import Derived.Test.YtkjnahgicfmicaaGreatDoorLr8
import Derived.Test.YtkjnahgicfmicaaGreatDoorQl
import Derived.Test.YtkjnahgicfmicaaGreatDoorQc
import Derived.Test.YtkjnahgicfmicaaGreatDoorQh
import Derived.Test.YtkjnahgicfmicaaGreatDoorQa
namespace Go.Proofs.YtkjnahgicfmicaaGreatDoor.Gj
open Go.RowKit Go.PW Go.PL Go.PM Sp Dec
set_option linter.unusedVariables false
set_option linter.unusedSimpArgs false
section
set_option maxRecDepth 100000
open Classical in
noncomputable def V_un (O : List Int) : bP where
 f := fun k t => if t.size ≤ 1000000 ∧ Inner t 0 O then some (strOfNums O) else none
 mono := fun a0 k => LeO.refl _
 calls := fun k a0 r w h => by
  by_cases h1 : a0.size ≤ 1000000 ∧ Inner a0 0 O
  ·rw [if_pos h1] at h
   obtain rfl := au h
   exact unescape_calls a0 _ w h1.1 h1.2
  ·rw [if_neg h1] at h
   cases h
theorem un_f {t : av} (k : Nat) (hs : t.size ≤ 1000000) {O : List Int} (h : Inner t 0 O) : (V_un O).f k t = some (strOfNums O) := if_pos ⟨hs, h⟩
open Classical in
noncomputable def V_sq (a0 j : Nat) : bR where
 f := fun k s i => if s.size ≤ 1000000 ∧ i = a0 ∧ Sq s (a0 + 1) 1 j then some ((j : Int), s.extract a0 j) else none
 mono := fun a0 a1 k => LeO.refl _
 calls := fun k s a1 r1 r2 w h hW => by
  by_cases h1 : s.size ≤ 1000000 ∧ a1 = a0 ∧ Sq s (a0 + 1) 1 j
  ·rw [if_pos h1] at h
   simp only [am, an] at h
   obtain ⟨rfl, rfl⟩ := h
   exact squash_calls s a1 _ _ w h1.2.1 h1.1 hW.vtab h1.2.2
  ·rw [if_neg h1] at h
   cases h
theorem sq_f {s : av} (k : Nat) (hs : s.size ≤ 1000000) {i : Int} {a0 j : Nat} (hi : i = a0) (h : Sq s (a0 + 1) 1 j) : (V_sq a0 j).f k s i = some ((j : Int), s.extract a0 j) := if_pos ⟨hs, hi, h⟩
theorem pa_of {O : List Int} {a b : Nat} {R : av} {i : Int} {k : Nat} {r1 r2 : Int} {r3 r4 : av} {r5 : Nat} {r6 : Int} {r8 : Bool} (h : aK.f (V_un O) (V_sq a b) k R i true = some (r1, r2, r3, r4, r5, r6, [], r8)) :
  PA R i (fun ok j g => ok = r8 ∧ j = r1 ∧ g.ty = r2 ∧ g.raw = r3 ∧ g.str = r4) := fun w hW =>
 (aK.calls (V_un O) (V_sq a b) k R i true r1 r2 r3 r4 r5 r6 [] r8 w h hW).mono fun e w' ⟨v, he, ho, hb⟩ => by
  obtain ⟨A, c, rfl⟩ := Kd.R_slice ho
  exact ⟨r8, r1, ⟨r2, r3, r4, r5, r6, A, 0, c⟩, ⟨rfl, rfl, rfl, rfl, rfl⟩, he, hb⟩
structure Res (ty : Int) (T : av) (O : Option av) (g : GR) : Prop where
 ty : g.ty = ty
 raw : g.raw = T
 str : ∀ o, O = some o → g.str = o
def Ans (e : Nat) (ty : Int) (T : av) (O : Option av) (ok : Bool) (j : Int) (g : GR) : Prop := ok = true ∧ j = (e : Int) ∧ Res ty T O g
theorem inner_plain_l {t : av} (hno : ∀ q : Int, 0 ≤ q → q < t.size → bt t q ≠ 92) {i : Int} {o : List Int} (h : Inner t i o) : i + o.length = t.size ∧ ∀ q : Nat, q < o.length → o.getD q 0 = bt t (i + q) := by
 induction h with
 | done => exact ⟨by simp, fun q hq => by simp at hq⟩
 | plain i o h0 h1 h2 h3 h4 h5 ih =>
  refine ⟨by have := ih.1; simp only [List.length_cons]; omega, fun q hq => ?_⟩
  cases q with
  | zero => simp
  | succ q =>
   have := ih.2 q (by simp only [List.length_cons] at hq; omega)
   rw [List.getD_cons_succ, this]
   congr 1
   omega
 | esc i o h0 h1 h2 h3 h4 ih => exact absurd h2 (hno i h0 (by omega))
 | uni i o h0 h1 h2 h3 h4 ih => exact absurd h1.2.1 (hno i h0 (by have := h1.1; omega))
 | pair i o h0 h1 h2 h3 h4 h5 ih => exact absurd h1.2.1 (hno i h0 (by have := h1.1; omega))
theorem inner_plain {t : av} (hno : ∀ q : Int, 0 ≤ q → q < t.size → bt t q ≠ 92) {o : List Int} (h : Inner t 0 o) : strOfNums o = t := by
 obtain ⟨h1, h2⟩ := inner_plain_l hno h
 have hl : o.length = t.size := by omega
 apply ByteArray.ext
 apply Array.ext
 ·have := strOfNums_size o
  simp only [ByteArray.size] at this hl
  omega
 ·intro q hq hq'
  have hq2 : q < o.length := by
   have := strOfNums_size o
   simp only [ByteArray.size] at this
   omega
  have hb := h2 q hq2
  rw [show (0 : Int) + (q : Int) = (q : Int) by omega] at hb
  have hb2 := bt_at t (q : Int) (by simpa using (by omega : q < t.size))
  have e1 : (strOfNums o).data[q] = UInt8.ofNat (o[q]'hq2).toNat := by simp [strOfNums]
  rw [e1]
  have e2 : o[q]'hq2 = bt t (q : Int) := by rw [← hb]; simp [List.getD, hq2]
  rw [e2, ← hb2]
  simp
  rfl
variable {R : av} (hs : R.size ≤ 1000000)
include hs
theorem pa_squash {i j : Nat} (hi : i < R.size) (hc : at_ R i = 123 ∨ at_ R i = 91) (hq : Sq R (i + 1) 1 j) : PA R i (Ans j 5 (R.extract i j) (some ⟨#[]⟩)) := by
 have hle := hq.le
 have : ∃ r6, aK.f (V_un []) (V_sq i j) 3 R i true = some ((j : Int), 5, R.extract i j, ⟨#[]⟩, 0, r6, [], true) := by
  unfold aK.f
  simp only [aK.l0]
  rw [if_pos (show (i : Int) < R.size by omega), if_pos (show (0 : Int) ≤ i by omega)]
  have hb : bt R i = 123 ∨ bt R i = 91 := hc
  have hj : ∀ b : Bool, b = true → ∃ r6, aK.j1 (V_un []) (V_sq i j) 2 R i b 0 ⟨#[]⟩ ⟨#[]⟩ 0 0 = some ((j : Int), 5, R.extract i j, ⟨#[]⟩, 0, r6, [], true) := by
   rintro b rfl
   simp only [aK.j1, if_true]
   rw [sq_f _ hs rfl hq]
   exact ⟨_, rfl⟩
  rcases hb with hb | hb
  ·rw [if_pos hb]
   exact hj _ rfl
  ·rw [if_neg (by omega)]
   exact hj _ (by simp [hb])
 obtain ⟨r6, h⟩ := this
 exact (pa_of h).mono fun ok jj g ⟨h1, h2, h3, h4, h5⟩ => ⟨h1, h2, h3, h4, fun o ho => by cases ho; first | exact h5 | rfl⟩
theorem pa_str {b e : Nat} (hS : StrAt R b e) {O : List Int} (hI : Inner (R.extract (b + 1) e) 0 O) : PA R b (Ans (e + 1) 3 (R.extract b (e + 1)) (some (strOfNums O))) := by
 have hlt := hS.lt
 have hle := hS.le
 obtain ⟨k, vesc, hp, hno⟩ := ps_tells hS hs
 have hb : bt R b = 34 := hS.op
 have hz : (R.extract b (e + 1)).size = e + 1 - b := Z34
 have hw : wrap64 ((((R.extract b (e + 1)).size : Nat) : Int) - 1) = ((e - b : Nat) : Int) := by rw [hz, w64 (by omega) (by omega)]; omega
 have hx : (R.extract b (e + 1)).extract 1 (((e - b : Nat) : Int)).toNat = R.extract (b + 1) e := by rw [ByteArray.extract_extract]; congr 1 <;> omega
 have : aK.f (V_un O) (V_sq 0 0) (k + 2) R b true = some (((e + 1 : Nat) : Int), 3, R.extract b (e + 1), strOfNums O, 0, 0, [], true) := by
  unfold aK.f
  simp only [aK.l0]
  rw [if_pos (show (b : Int) < R.size by omega), if_pos (show (0 : Int) ≤ b by omega), if_neg (by omega), show (bt R b == 91) = false by simp [hb]]
  simp only [aK.j1, Bool.false_eq_true, if_false]
  rw [if_pos (show (0 : Int) ≤ b by omega), if_pos (show (b : Int) < R.size by omega), if_neg (by omega), if_pos hb, wp1 (by omega), hp]
  simp only [al, if_true]
  cases vesc with
  | true =>
   simp only [if_true]
   rw [hw, if_pos (show (1 : Int) ≤ ((e - b : Nat) : Int) by omega), if_pos (by rw [hz]; omega), hx]
   rw [un_f k Z34 hI]
   rfl
  | false =>
   simp only [Bool.false_eq_true, if_false]
   rw [hw, if_pos (show (1 : Int) ≤ ((e - b : Nat) : Int) by omega), if_pos (by rw [hz]; omega), hx]
   rw [inner_plain _ hI]
   intro q h0 h1
   have hn := hno rfl (b + 1 + q.toNat) (by omega)
   rw [ByteArray.size_extract] at h1
   have := hn (by omega)
   rw [show q = ((q.toNat : Nat) : Int) by omega, bt_ext (by omega) (by omega) (by omega)]
   have e1 : (((b + 1 : Nat) : Int) + ((q.toNat : Nat) : Int)) = ((b + 1 + q.toNat : Nat) : Int) := by omega
   rw [e1]
   exact this
 exact (pa_of this).mono fun ok jj g ⟨h1, h2, h3, h4, h5⟩ => ⟨h1, h2, h3, h4, fun o ho => by cases ho; exact h5⟩
theorem pa_num {i j : Nat} (hij : i < j) (hj : j < R.size) (h1 : (48 ≤ at_ R i ∧ at_ R i ≤ 57) ∨ at_ R i = 45) (hn : ∀ q, i ≤ q → q < j → NumCh (at_ R q)) (hst : NumStop (at_ R j)) (hl : j - i ≤ 100000) : PA R i (Ans j 2 (R.extract i j) (some ⟨#[]⟩)) := by
 obtain ⟨k, hp⟩ := pn_tells R hs i j hij hj hst (fun q h0 h1 => by
  have := hn q (by omega) h1
  unfold NumCh at this
  unfold NumStop
  omega)
 have hT : NumText (R.extract i j) := by
  refine ⟨Z34, Z34, fun q h0 h1 => ?_⟩
  rw [ByteArray.size_extract] at h1
  rw [bt_ext (by omega) (by omega) (by omega)]
  have h2 := hn (i + q.toNat) (by omega) (by omega)
  have e1 : ((i : Nat) : Int) + q = ((i + q.toNat : Nat) : Int) := by omega
  rw [e1]
  unfold NumCh at h2
  unfold NumByte
  unfold at_ at h2
  omega
 intro w hW
 refine (pany_num R (R.extract i j) i j (bt R i) k w hW (by omega) (by omega) rfl (by unfold at_ at h1; omega) hp hT).mono ?_
 rintro e w' ⟨f, rfl, hb⟩
 exact ⟨true, j, ⟨2, R.extract i j, ⟨#[]⟩, f, 0, none, 0, 0⟩, ⟨rfl, rfl, rfl, rfl, fun o ho => by cases ho; first | exact h5 | rfl⟩, rfl, hb⟩
theorem pa_lit {i j : Nat} (hij : i < j) (hj : j < R.size) (ty : Int) (h1 : (at_ R i = 110 ∧ at_ R (i + 1) = 117 ∧ ty = 0) ∨ (at_ R i = 116 ∧ ty = 4) ∨ (at_ R i = 102 ∧ ty = 1)) (hn : ∀ q, i ≤ q → q < j → ¬ LitStop (at_ R q)) (hst : LitStop (at_ R j)) : PA R i (Ans j ty (R.extract i j) (some ⟨#[]⟩)) := by
 obtain ⟨k, hp⟩ := pl_tells R hs i j hij hj hst (fun q h0 h1 => hn q (by omega) h1)
 have hj3 : aK.j3 (V_un []) (V_sq 0 0) (k + 1) R i 0 ⟨#[]⟩ ⟨#[]⟩ 0 0 = some ((j : Int), ty, R.extract i j, ⟨#[]⟩, 0, 0, [], true) := by
  simp only [aK.j3]
  rw [if_pos (show (0 : Int) ≤ i by omega), if_pos (show (i : Int) < R.size by omega), hp]
  simp only [al]
  rcases h1 with ⟨a, b, rfl⟩ | ⟨a, rfl⟩ | ⟨a, rfl⟩ <;> unfold at_ at a
  ·rw [if_neg (by omega), if_neg (by omega)]
  ·rw [if_pos a]
  ·rw [if_neg (by omega), if_pos a]
 have : ∃ K, aK.f (V_un []) (V_sq 0 0) K R i true = some ((j : Int), ty, R.extract i j, ⟨#[]⟩, 0, 0, [], true) := by
  rcases h1 with ⟨a, b, rfl⟩ | h1
  ·refine ⟨k + 3, ?_⟩
   unfold at_ at a b
   unfold aK.f
   simp only [aK.l0]
   rw [if_pos (show (i : Int) < R.size by omega), if_pos (show (0 : Int) ≤ i by omega), if_neg (by omega), show (bt R i == 91) = false by simp [a]]
   simp only [aK.j1, Bool.false_eq_true, if_false]
   rw [if_pos (show (0 : Int) ≤ i by omega), if_pos (show (i : Int) < R.size by omega), if_neg (by omega), if_neg (by omega), if_pos a, wp1 (by omega)]
   rw [if_pos (show ((i + 1 : Nat) : Int) < R.size by omega), if_pos (show (0 : Int) ≤ ((i + 1 : Nat) : Int) by omega), if_pos b]
   exact hj3
  ·refine ⟨k + 4, ?_⟩
   have hv : bt R i = 116 ∨ bt R i = 102 := by unfold at_ at h1; omega
   have hj2 : aK.j2 (V_un []) (V_sq 0 0) (k + 2) R i false (bt R i) true 0 ⟨#[]⟩ ⟨#[]⟩ 0 0 = some ((j : Int), ty, R.extract i j, ⟨#[]⟩, 0, 0, [], true) := by
    simp only [aK.j2, if_true]
    exact hj3
   unfold aK.f
   simp only [aK.l0]
   rw [if_pos (show (i : Int) < R.size by omega), if_pos (show (0 : Int) ≤ i by omega), if_neg (by omega), show (bt R i == 91) = false by rcases hv with h | h <;> simp [h]]
   simp only [aK.j1, Bool.false_eq_true, if_false]
   rw [if_pos (show (0 : Int) ≤ i by omega), if_pos (show (i : Int) < R.size by omega), if_neg (by omega), if_neg (by omega), if_neg (by omega)]
   rcases hv with h | h
   ·rw [if_pos h, show (bt R i == 116) = true by simp [h]]
    exact hj2
   ·rw [if_neg (by omega), show (bt R i == 102) = true by simp [h]]
    exact hj2
 obtain ⟨K, h⟩ := this
 exact (pa_of h).mono fun ok jj g ⟨h1, h2, h3, h4, h5⟩ => ⟨h1, h2, h3, h4, fun o ho => by cases ho; first | exact h5 | rfl⟩
theorem pa_none_l : ∀ (d i : Nat), i + d = R.size → (∀ q, i ≤ q → q < R.size → at_ R q ≤ 32 ∨ at_ R q = 93 ∨ at_ R q = 125) → aK.l0 (V_un []) (V_sq 0 0) (3 * d + 1) R i 0 ⟨#[]⟩ ⟨#[]⟩ 0 0 = some ((R.size : Int), 0, ⟨#[]⟩, ⟨#[]⟩, 0, 0, [], false)
 | 0, i, hd, h => by
  simp only [aK.l0]
  rw [if_neg (by omega), show (i : Int) = R.size by omega]
 | d + 1, i, hd, h => by
  have ih := pa_none_l d (i + 1) (by omega) (fun q h0 h1 => h q (by omega) h1)
  have hc := h i (Nat.le_refl _) (by omega)
  have hr := at_range R i
  unfold at_ at hc hr
  rw [show 3 * (d + 1) + 1 = (3 * d + 1) + 1 + 1 + 1 by omega]
  simp only [aK.l0]
  rw [if_pos (show (i : Int) < R.size by omega), if_pos (show (0 : Int) ≤ i by omega), if_neg (by omega), show (bt R i == 91) = false by simp; omega]
  simp only [aK.j1, Bool.false_eq_true, if_false]
  rw [if_pos (show (0 : Int) ≤ i by omega), if_pos (show (i : Int) < R.size by omega)]
  by_cases h32 : bt R i ≤ 32
  ·rw [if_pos h32, wp1 (by omega)]
   have := (aK.mono_l (V_un []) (V_sq 0 0) (3 * d + 1)).1 R ((i + 1 : Nat) : Int) 0 ⟨#[]⟩ ⟨#[]⟩ 0 0
   exact this _ ih
  ·rw [if_neg h32, if_neg (by omega), if_neg (by omega), if_neg (by omega), show (bt R i == 102) = false by simp; omega]
   simp only [aK.j2, Bool.false_eq_true, if_false]
   iterate 15 rw [if_neg (by omega)]
   rw [wp1 (by omega)]
   exact ih
theorem pa_none {i : Nat} (hi : i ≤ R.size) (h : ∀ q, i ≤ q → q < R.size → at_ R q ≤ 32 ∨ at_ R q = 93 ∨ at_ R q = 125) : PA R i (fun ok _ _ => ok = false) :=
 (pa_of (O := []) (a := 0) (b := 0) (pa_none_l hs (R.size - i) i (by omega) h)).mono fun ok jj g h => h.1
end
section
theorem bt_out {s : av} {q : Int} (h : ¬ q.toNat < s.size) : bt s q = 0 := by simp [bt, h]
theorem bt_sh {s : av} {b0 : Nat} (hb : b0 ≤ s.size) {q : Int} (hq : 0 ≤ q) : bt (s.extract b0 s.size) q = bt s (b0 + q) := by
 by_cases h : (b0 : Int) + q < s.size
 ·exact bt_ext hq h (Nat.le_refl _)
 ·rw [bt_out Z34, bt_out (by omega)]
theorem at_sh {s : av} {b0 : Nat} (hb : b0 ≤ s.size) (q : Nat) : at_ (s.extract b0 s.size) q = at_ s (b0 + q) := by
 unfold at_
 rw [bt_sh hb (by omega)]
 congr 1
theorem run_sh {s : av} {b0 : Nat} (hb : b0 ≤ s.size) (lo : Nat) : ∀ q, run (s.extract b0 s.size) lo q = run s (b0 + lo) (b0 + q)
 | 0 => by
  rw [run_lo (by omega), run_lo (by omega)]
 | q + 1 => by
  have ih := run_sh hb lo q
  rw [show b0 + (q + 1) = (b0 + q) + 1 by omega]
  show (if lo ≤ q ∧ at_ (s.extract b0 s.size) q = 92 then run (s.extract b0 s.size) lo q + 1 else 0) = (if b0 + lo ≤ b0 + q ∧ at_ s (b0 + q) = 92 then run s (b0 + lo) (b0 + q) + 1 else 0)
  rw [at_sh hb, ih]
  by_cases h : lo ≤ q
  ·simp [h]
  ·simp [h]
theorem sz_sh (s : av) (b0 : Nat) : (s.extract b0 s.size).size = s.size - b0 := by rw [ByteArray.size_extract]; omega
theorem StrAt.sh {s : av} {b0 b e : Nat} (hb : b0 ≤ s.size) (h : StrAt s (b0 + b) (b0 + e)) : StrAt (s.extract b0 s.size) b e where
 lt := by have := h.lt; omega
 le := by have := h.le; rw [sz_sh]; omega
 op := by rw [at_sh hb]; exact h.op
 cl := by rw [at_sh hb]; exact h.cl
 even := by rw [run_sh hb]; exact h.even
 odd := fun q h0 h1 h2 => by
  rw [run_sh hb]
  rw [at_sh hb] at h2
  exact h.odd (b0 + q) (by omega) (by omega) h2
theorem Sq.sh {s : av} {b0 : Nat} (hb : b0 ≤ s.size) {i d j : Nat} (h : Sq s i d j) : b0 ≤ i → Sq (s.extract b0 s.size) (i - b0) d (j - b0) := by
 induction h with
 | @skip i d j h1 h2 h3 ih =>
  intro h0
  refine .skip (by rw [sz_sh]; omega) ?_ Z91
  rw [at_sh hb, show b0 + (i - b0) = i by omega]
  exact h2
 | @str i d j e h1 h2 ih =>
  intro h0
  have hlt := h1.lt
  have h3 : StrAt s (b0 + (i - b0)) (b0 + (e - b0)) := by rw [show b0 + (i - b0) = i by omega, show b0 + (e - b0) = e by omega]; exact h1
  exact .str (h3.sh hb) (by rw [show e - b0 + 1 = e + 1 - b0 by omega]; exact ih (by omega))
 | @open_ i d j h1 h2 h3 ih =>
  intro h0
  refine .open_ (by rw [sz_sh]; omega) ?_ Z91
  rw [at_sh hb, show b0 + (i - b0) = i by omega]
  exact h2
 | @close i d j h1 h2 h3 h4 ih =>
  intro h0
  refine .close (by rw [sz_sh]; omega) ?_ h3 Z91
  rw [at_sh hb, show b0 + (i - b0) = i by omega]
  exact h2
 | @last i h1 h2 =>
  intro h0
  rw [show i + 1 - b0 = (i - b0) + 1 by omega]
  refine .last (by rw [sz_sh]; omega) ?_
  rw [at_sh hb, show b0 + (i - b0) = i by omega]
  exact h2
theorem ext_sh {s : av} {b0 i j : Nat} (h0 : b0 ≤ i) (h1 : i ≤ j) (h2 : j ≤ s.size) : (s.extract b0 s.size).extract (i - b0) (j - b0) = s.extract i j := by
 rw [ByteArray.extract_extract]
 congr 1 <;> omega
structure GjV (s : av) (p : S31) (g : GR) : Prop where
 kind : cF.f p.f0 = some g.ty
 raw : g.raw = s.extract p.f1.toNat p.f2.toNat
 str : p.f0 = 4 → ∃ k, aZ.f k (s.extract p.f1.toNat p.f2.toNat) = some g.str
 ty : g.ty = 0 → 0 < g.raw.size
 none : p.f0 ≠ 4 → g.str = ⟨#[]⟩
theorem GjV.idx {s : av} {p : S31} {g : GR} (h : GjV s p g) (i : Int) : GjV s p { g with idx := i } := ⟨h.kind, h.raw, h.str, h.ty, h.none⟩
theorem value_first {V : aE} {s : av} {kd i j : Int} {ns : List S93} {ks : List S31} (h : ValO V s kd i j ns ks) (h0 : 0 ≤ i) (h1 : i < s.size) (h2 : j ≤ s.size) : ¬ Skip (bt s i) := by
 unfold Skip
 rcases h with ⟨_, h, _⟩ | ⟨_, _, h, _⟩ | ⟨_, _, _, h⟩ | ⟨_, _, _, h, _⟩ | ⟨_, _, hl, h⟩
 ·omega
 ·omega
 ·have := h.1
  rw [rd_bytesOf] at this
  omega
 ·omega
 ·rcases h with ⟨_, h⟩ | ⟨_, h⟩ | ⟨_, h⟩ <;>
  ·have := (word_at h h0 hl h2).2 0 (by simp)
   simp at this
   omega
theorem value_pa {s : av} (hn : Small s) (hsz : s.size ≤ 65536) (D : Nat) (p : S31) (b0 : Nat) (hV : VR (aA.at_ D) s p) (hb : (b0 : Int) ≤ p.f1) (hpr : PairedAt s p.f1) (hlt : p.f1 < p.f2) (h2 : p.f2 < s.size) (hst : NumStop (bt s p.f2)) :
  PA (s.extract b0 s.size) (p.f1 - b0) (fun ok j g => ok = true ∧ j = p.f2 - b0 ∧ GjV s p g) ∧ ¬ Skip (bt s p.f1) ∧ PairedAt s p.f2 := by
 have hL := value_lex hn D p hV (by omega)
 refine ⟨?_, ?_, hL.paired hn hpr⟩
 ·obtain ⟨h0, k, h⟩ := hV
  cases D with
  | zero => cases h
  | succ D =>
   obtain ⟨_, _, _, g1, g2, g3⟩ := value_known hn D k p.f1 p.f0 p.f1 p.f2 p.f3 p.f4 s p.f2 h0 (by omega) h
   obtain ⟨kd, f1, f2, f3, f4⟩ := p
   simp only at *
   obtain ⟨i, rfl⟩ : ∃ i : Nat, f1 = i := ⟨f1.toNat, by omega⟩
   obtain ⟨j, rfl⟩ : ∃ j : Nat, f2 = j := ⟨f2.toNat, by omega⟩
   have hR : (s.extract b0 s.size).size ≤ 1000000 := by rw [sz_sh]; omega
   have hbs : b0 ≤ s.size := by omega
   have ei : b0 + (i - b0) = i := by omega
   have ej : b0 + (j - b0) = j := by omega
   have hraw : (s.extract b0 s.size).extract (i - b0) (j - b0) = s.extract i j := ext_sh (by omega) (by omega) (by omega)
   have hgo : ∀ (ty : Int) (O : Option av), cF.f kd = some ty → (kd = 4 → ∃ o k, O = some o ∧ aZ.f k (s.extract i j) = some o) → (kd ≠ 4 → O = some ⟨#[]⟩) → PA (s.extract b0 s.size) ((i - b0 : Nat) : Int) (Ans (j - b0) ty ((s.extract b0 s.size).extract (i - b0) (j - b0)) O) →
     PA (s.extract b0 s.size) ((i : Int) - b0) (fun ok j' g => ok = true ∧ j' = (j : Int) - b0 ∧ GjV s ⟨kd, i, j, f3, f4⟩ g) := by
    intro ty O hk hO hO4 hP
    rw [show (i : Int) - b0 = ((i - b0 : Nat) : Int) by omega]
    refine hP.mono fun ok j' g ⟨a1, a2, a3⟩ => ⟨a1, by omega, ⟨by rw [a3.ty]; exact hk, by rw [a3.raw, hraw]; rfl, fun h4 => ?_, fun _ => by rw [a3.raw, hraw, ByteArray.size_extract]; omega, fun h4 => a3.str _ (hO4 h4)⟩⟩
    obtain ⟨o, k, ho, hu⟩ := hO h4
    exact ⟨k, by rw [a3.str o ho]; exact hu⟩
   rcases g3 with ⟨rfl, hc, hm⟩ | ⟨rfl, _, hc, hm⟩ | ⟨rfl, _, _, hS⟩ | ⟨rfl, _, _, hc, hN⟩ | ⟨_, _, _, hw⟩
   ·obtain ⟨l1, l2, l3⟩ := mems_at_lex (value_lex hn (D - 1)) hm (by omega)
    have hq := (lex_last l1 (by omega) l3 (.inl l2)).sh hbs (by omega)
    refine hgo 5 (some ⟨#[]⟩) (by simp [cF.f]) (by omega) (fun _ => rfl) (pa_squash hR (by rw [sz_sh]; omega) (.inl (by rw [at_sh hbs, ei]; exact hc)) ?_)
    rw [show (i : Int).toNat + 1 - b0 = i - b0 + 1 by omega] at hq
    exact hq
   ·obtain ⟨l1, l2, l3⟩ := kids_at_lex (value_lex hn (D - 1)) hm (by omega)
    have hq := (lex_last l1 (by omega) l3 (.inr l2)).sh hbs (by omega)
    refine hgo 5 (some ⟨#[]⟩) (by simp [cF.f]) (by omega) (fun _ => rfl) (pa_squash hR (by rw [sz_sh]; omega) (.inr (by rw [at_sh hbs, ei]; exact hc)) ?_)
    rw [show (i : Int).toNat + 1 - b0 = i - b0 + 1 by omega] at hq
    exact hq
   ·obtain ⟨o, hI, _, k, hu⟩ := seg_unq hn (by omega) hS hpr
    have hA := str_at hS (bytesOf_length s)
    have hlt2 := hS.2.1
    have hA' : StrAt s (b0 + (i - b0)) (b0 + (j - 1 - b0)) := by rw [ei, show b0 + (j - 1 - b0) = j - 1 by omega]; exact hA
    have hI' : Inner ((s.extract b0 s.size).extract (i - b0 + 1) (j - 1 - b0)) 0 o := by
     rw [show i - b0 + 1 = (i + 1) - b0 by omega, ext_sh (by omega) (by omega) (by omega)]
     exact hI
    have := pa_str hR (hA'.sh hbs) hI'
    rw [show j - 1 - b0 + 1 = j - b0 by omega] at this
    exact hgo 3 (some (strOfNums o)) (by simp [cF.f]) (fun _ => ⟨_, k, rfl, hu⟩) (fun h => absurd rfl h) this
   ·refine hgo 2 (some ⟨#[]⟩) (by simp [cF.f]) (by omega) (fun _ => rfl) (pa_num hR (by omega) (by rw [sz_sh]; omega) (by rw [at_sh hbs, ei]; exact hc) (fun q a b => ?_) (by rw [at_sh hbs, ej]; exact hst) (by omega))
    rw [at_sh hbs]
    exact hN.2.2 ((b0 + q : Nat) : Int) (by omega) (by omega)
   ·have hls : LitStop (at_ (s.extract b0 s.size) (j - b0)) := by
     rw [at_sh hbs, ej]
     unfold NumStop at hst
     unfold LitStop
     unfold at_
     omega
    have hgo2 : ∀ (ty : Int) (l : List Int), cF.f kd = some ty → kd ≠ 4 → seg (bytesOf s) i j = l → (∀ q : Nat, q < l.length → 97 ≤ l.getD q 0 ∧ l.getD q 0 ≤ 122) → 2 ≤ l.length → ((l.getD 0 0 = 110 ∧ l.getD 1 0 = 117 ∧ ty = 0) ∨ (l.getD 0 0 = 116 ∧ ty = 4) ∨ (l.getD 0 0 = 102 ∧ ty = 1)) →
      PA (s.extract b0 s.size) ((i : Int) - b0) (fun ok j' g => ok = true ∧ j' = (j : Int) - b0 ∧ GjV s ⟨kd, i, j, f3, f4⟩ g) := by
     intro ty l hk h4 hsg hl hl2 hty
     obtain ⟨w1, w2⟩ := word_at hsg (by omega) hlt (by omega)
     have e0 := w2 0 (by omega)
     have e1 := w2 1 (by omega)
     refine hgo ty (some ⟨#[]⟩) hk (fun h => absurd h h4) (fun _ => rfl) (pa_lit hR (by omega) (by rw [sz_sh]; omega) ty ?_ (fun q a b => ?_) hls)
     ·have f0 : at_ (s.extract b0 s.size) (i - b0) = l.getD 0 0 := by rw [at_sh hbs, ei, ← e0]; unfold at_; congr 1
      have f1 : at_ (s.extract b0 s.size) (i - b0 + 1) = l.getD 1 0 := by rw [at_sh hbs, ← e1]; unfold at_; congr 1; omega
      rw [f0, f1]
      exact hty
     ·have e2 := w2 (b0 + q - i) (by omega)
      have := hl (b0 + q - i) (by omega)
      rw [← e2] at this
      rw [at_sh hbs]
      unfold LitStop at_
      rw [show (i : Int) + ((b0 + q - i : Nat) : Int) = ((b0 + q : Nat) : Int) by omega] at this
      omega
    have all : ∀ l : List Int, (∀ x ∈ l, 97 ≤ x ∧ x ≤ 122) → ∀ q : Nat, q < l.length → 97 ≤ l.getD q 0 ∧ l.getD q 0 ≤ 122 := by
     intro l h q hq
     rw [List.getD_eq_getElem?_getD, List.getElem?_eq_getElem hq]
     exact h _ (List.getElem_mem hq)
    rcases hw with ⟨rfl, hw⟩ | ⟨rfl, hw⟩ | ⟨rfl, hw⟩
    ·exact hgo2 0 _ (by simp [cF.f]) (by omega) hw (all _ (by decide)) (by simp) (by simp)
    ·exact hgo2 1 _ (by simp [cF.f]) (by omega) hw (all _ (by decide)) (by simp) (by simp)
    ·exact hgo2 4 _ (by simp [cF.f]) (by omega) hw (all _ (by decide)) (by simp) (by simp)
 ·obtain ⟨h0, k, h⟩ := hV
  cases D with
  | zero => cases h
  | succ D =>
   obtain ⟨_, _, _, g1, g2, g3⟩ := value_known hn D k p.f1 p.f0 p.f1 p.f2 p.f3 p.f4 s p.f2 h0 (by omega) h
   exact value_first g3 h0 (by omega) g2
end
end Go.Proofs.YtkjnahgicfmicaaGreatDoor.Gj
namespace Go.Proofs.YtkjnahgicfmicaaGreatDoor.Sp
open Go.RowKit Go.PW Go.PL Go.PM
attribute [local go_sem] max2_int min2_int max_two min_two max_three min_three max_four min_four
set_option linter.unusedVariables false
set_option linter.unusedSimpArgs false
mutual
def tostr46.l0 (aN : bP) : Nat → av → Int → Option (av × av)
 | 0, _, _ => none
 | k + 1, x0, x4 => if x4 < (x0.size : Int) then (if 0 ≤ x4 then (if (bt x0 x4) > 92 then (tostr46.l0 aN k x0 (wrap64 (x4 + 1))) else (if (bt x0 x4) = 34 then (if 0 ≤ (wrap64 (x4 + 1)) then (if (wrap64 (x4 + 1)) ≤ (x0.size : Int) then (if 1 ≤ x4 then (if x4 ≤ (x0.size : Int) then (some (x0.extract 0 ((wrap64 (x4 + 1)) : Int).toNat, x0.extract 1 (x4 : Int).toNat)) else (none)) else (none)) else (none)) else (none)) else (if (bt x0 x4) = 92 then (tostr46.l1 aN k x0 (wrap64 (x4 + 1))) else (tostr46.l0 aN k x0 (wrap64 (x4 + 1)))))) else (none)) else (none)
def tostr46.l1 (aN : bP) : Nat → av → Int → Option (av × av)
 | 0, _, _ => none
 | k + 1, x0, x4 => if x4 < (x0.size : Int) then (if 0 ≤ x4 then (if (bt x0 x4) > 92 then (tostr46.l1 aN k x0 (wrap64 (x4 + 1))) else (if (bt x0 x4) = 34 then (if 0 ≤ (wrap64 (x4 - 1)) then (if (wrap64 (x4 - 1)) < (x0.size : Int) then (if (bt x0 (wrap64 (x4 - 1))) = 92 then (tostr46.l2 aN k x0 x4 0 (wrap64 (x4 - 2))) else (if 0 ≤ (wrap64 (x4 + 1)) then (if (wrap64 (x4 + 1)) ≤ (x0.size : Int) then (if 1 ≤ x4 then (if x4 ≤ (x0.size : Int) then ((aN.f k (x0.extract 1 (x4 : Int).toNat)).bind fun mH => (some (x0.extract 0 ((wrap64 (x4 + 1)) : Int).toNat, mH))) else (none)) else (none)) else (none)) else (none))) else (none)) else (none)) else (tostr46.l1 aN k x0 (wrap64 (x4 + 1))))) else (none)) else (none)
def tostr46.l2 (aN : bP) : Nat → av → Int → Int → Int → Option (av × av)
 | 0, _, _, _, _ => none
 | k + 1, x0, x4, x5, x6 => if x6 > 0 then (if 0 ≤ x6 then (if x6 < (x0.size : Int) then (if (bt x0 x6) = 92 then (tostr46.l2 aN k x0 x4 (wrap64 (x5 + 1)) (wrap64 (x6 - 1))) else (if (Int.tmod x5 2) = 0 then (tostr46.l1 aN k x0 (wrap64 (x4 + 1))) else (if 0 ≤ (wrap64 (x4 + 1)) then (if (wrap64 (x4 + 1)) ≤ (x0.size : Int) then (if 1 ≤ x4 then (if x4 ≤ (x0.size : Int) then ((aN.f k (x0.extract 1 (x4 : Int).toNat)).bind fun lY => (some (x0.extract 0 ((wrap64 (x4 + 1)) : Int).toNat, lY))) else (none)) else (none)) else (none)) else (none)))) else (none)) else (none)) else (if (Int.tmod x5 2) = 0 then (tostr46.l1 aN k x0 (wrap64 (x4 + 1))) else (if 0 ≤ (wrap64 (x4 + 1)) then (if (wrap64 (x4 + 1)) ≤ (x0.size : Int) then (if 1 ≤ x4 then (if x4 ≤ (x0.size : Int) then ((aN.f k (x0.extract 1 (x4 : Int).toNat)).bind fun lZ => (some (x0.extract 0 ((wrap64 (x4 + 1)) : Int).toNat, lZ))) else (none)) else (none)) else (none)) else (none)))
end
def tostr46.f (aN : bP) (k : Nat) (a0 : av) : Option (av × av) := tostr46.l0 aN k a0 1
def tostr46.T6 : Bool × List (List Nat × List Nat) := (true, [([], []), ([], []), ([1], [1]), ([0, 2], [0, 2]), ([], []), ([], []), ([4, 5], [4, 5]), ([3, 0, 1, 2, 3], [3]), ([6, 7, 0, 1, 2, 3, 4, 5, 6, 7], [6])])
def tostr46.B6 : List Nat := [0, 0, 2, 7, 0, 0, 48, 15, 255]
theorem tostr46.tab6 : rtab .any (opsOf Tryz.f46 6) = tostr46.T6 := by kernel_rfl
theorem tostr46.bits6 : waitsOk tostr46.T6.2 tostr46.B6 = true := by kernel_rfl
def tostr46.T21 : Bool × List (List Nat × List Nat) := (true, [([], []), ([], []), ([1], [1]), ([0, 2], [0, 2]), ([], []), ([], []), ([4, 5], [4, 5]), ([6], [6]), ([3, 7, 0, 1, 2, 3], [3]), ([7, 8, 0, 1, 2, 3, 4, 5, 6, 7, 8], [7])])
def tostr46.B21 : List Nat := [0, 0, 2, 7, 0, 0, 48, 112, 255, 511]
theorem tostr46.tab21 : rtab .any (opsOf Tryz.f46 21) = tostr46.T21 := by kernel_rfl
theorem tostr46.bits21 : waitsOk tostr46.T21.2 tostr46.B21 = true := by kernel_rfl
set_option maxHeartbeats 8000000 in
set_option maxRecDepth 100000 in
theorem tostr46.calls (aN : bP) (k : Nat) (a0 : av) (r1 : av) (r2 : av) (w : World) (h : tostr46.f aN k a0 = some (r1, r2)) :
 Calls Tryz.prog 46 #[.string a0] w fun e w' => e = .returned (.tuple #[.string r1, .string r2]) ∧ Below w.heap.size w w' := by
 have HB := ab (Below.refl w.heap.size w)
 have H : (tostr46.l0 aN k a0 1) = some (r1, r2) := h
 clear h
 have H' := ab H
 clear H
 go_enter Tryz.func46, Tryz.ntmps46
 go_wp2
 (try simp only [Act.put, ap, aq, ar])
 go_loopg [4] k (fun kq v4 w' => ∃ (cU : Int), v4 = .int .i64 cU ∧ Aside0 (tostr46.l0 aN kq a0 cU = some (r1, r2)) ∧ Aside0 (kq ≤ k) ∧ Aside0 (Below w.heap.size w w'))
 case atStart => exact ⟨(1), Z7, H', ⟨Nat.le_refl _⟩, ⟨zB⟩⟩
 case round =>
  clear H'
  obtain ⟨cU, rfl, HA, HK1, HB⟩ := hrel
  cases gk with
  | zero => exact absurd HA.out (by simp [tostr46.l0])
  | succ k1 =>
   have H := HA.out
   clear HA
   simp only [tostr46.l0] at H
   revert H; refine sId1_d0 (fun gJ H => ?_) fun gJ H => ?_
   ·revert H; refine sNd1 fun dX H => ?_
    revert H; refine sIk_k (fun c5 H => ?_) fun c5 H => ?_
    ·have iJ : decide (92 < (bt a0 cU)) = true := ae c5
     clear c5
     focus
      have H' := ab H
      clear H
      have p4 := ag (ac Z6 : 0 ≤ (cU : Int))
      have q4 := ag (ac Z6 : cU < (a0.size : Int))
      have hx4 := bt_at a0 cU
      go_wp2
      go_roundg k1
      case measure => have := HK1.out; omega
      case rel => exact ⟨(wrap64 (cU + 1)), Z7, H', ⟨by have := HK1.out; omega⟩, ⟨zB⟩⟩
    have iJ : decide (92 < (bt a0 cU)) = false := af c5
    clear c5
    revert H; refine sIe1n0_e0n1k (fun iZ nF H => ?_) fun iZ nF c7 H => ?_
    ·obtain ⟨Nv, wQ⟩ : ∃ j_ : Int, (wrap64 (cU + 1)) = j_ := ⟨_, rfl⟩
     replace H : (if 0 ≤ (Nv) then (if (Nv) ≤ (a0.size : Int) then (if 1 ≤ cU then (if cU ≤ (a0.size : Int) then (some (a0.extract 0 ((Nv) : Int).toNat, a0.extract 1 (cU : Int).toNat)) else (none)) else (none)) else (none)) else (none)) = some (r1, r2) := by first | (rw [wQ] at H; exact H) | (simp only [wQ] at H ⊢; exact H)
     have hji8w : (IntKind.i64.wrap (cU + 1)) = Nv := (i64_w _).trans wQ
     revert H; refine sNt1d1 fun lB wG H => ?_
     revert H; refine sNt1d1 fun kS lO H => ?_
     revert H; refine sNt1d1 fun kT oP H => ?_
     revert H; refine sNt1d1 fun kA tN H => ?_
     focus
      simp only [am, an] at H
      obtain ⟨rfl, rfl⟩ := H
      have p4 := ag (ac Z6 : 0 ≤ (cU : Int))
      have q4 := ag (ac Z6 : cU < (a0.size : Int))
      have hx4 := bt_at a0 cU
      have p6 := ag (ac Z6 : 0 ≤ (cU : Int))
      have q6 := ag (ac Z6 : cU < (a0.size : Int))
      have hx6 := bt_at a0 cU
      try go_wp2
      replace HB := ab (below_drew1 HB.out)
      refine start_ (n := 9) (S := fun w' => True) (ds := []) #[false, false, false, false, false, false, false, false, false] (by kernel_rfl) rfl rfl trivial (fun hHeld => ?_); refine with_tabW tostr46.tab6 tostr46.bits6 (fun HT_ HW_ => ?_)
      generalize wr.drew = w13 at HB hHeld ⊢
      refine pz 0 22 ?_
      refine pz 1 23 ?_
      refine pz 2 24 ?_
      refine pz 3 25 ?_
      refine pz 4 26 ?_
      refine pz 5 27 ?_
      refine pz 6 28 ?_
      refine pz 7 2 ?_
      refine pz 8 3 ?_
      refine dn1 ?_
      try go_wp2
      go_ret2
      exact ⟨by first | rfl | (simp [errW_none, errW_some] <;> rfl) | (simp only [← wQ]; first | rfl | (simp [errW_none, errW_some] <;> rfl)) | (simp [*, errW_none, errW_some] <;> rfl), zB⟩
    revert H; refine sIe1n0_e0n1 (fun jG qY H => ?_) fun jG qY H => ?_
    ·have H' := ab H
     clear H
     have p4 := ag (ac Z6 : 0 ≤ (cU : Int))
     have q4 := ag (ac Z6 : cU < (a0.size : Int))
     have hx4 := bt_at a0 cU
     have p6 := ag (ac Z6 : 0 ≤ (cU : Int))
     have q6 := ag (ac Z6 : cU < (a0.size : Int))
     have hx6 := bt_at a0 cU
     have p14 := ag (ac Z6 : 0 ≤ (cU : Int))
     have q14 := ag (ac Z6 : cU < (a0.size : Int))
     have hx14 := bt_at a0 cU
     go_wp2
     (try simp only [Act.put, ap, aq, ar])
     go_loopg [4] k1 (fun kq v4 w' => ∃ (cR : Int), v4 = .int .i64 cR ∧ Aside0 (tostr46.l1 aN kq a0 cR = some (r1, r2)) ∧ Aside0 (kq ≤ k1) ∧ Aside0 (Below w.heap.size w w'))
     case atStart => exact ⟨(wrap64 (cU + 1)), Z7, H', ⟨Nat.le_refl _⟩, ⟨zB⟩⟩
     case round =>
      clear H'
      try clear gJ dX p4 q4 hx4 c5 iJ p6 q6 hx6 c7 iZ nF p14 q14 hx14 jG qY
      obtain ⟨cR, rfl, HA, HK2, HB⟩ := hrel
      cases gk with
      | zero => exact absurd HA.out (by simp [tostr46.l1])
      | succ k2 =>
       have H := HA.out
       clear HA
       simp only [tostr46.l1] at H
       revert H; refine sNd1 fun gY H => ?_
       revert H; refine sNd1 fun qP H => ?_
       revert H; refine sIk_k (fun c19 H => ?_) fun c19 H => ?_
       ·have qR : decide (92 < (bt a0 cR)) = true := ae c19
        clear c19
        focus
         have H' := ab H
         clear H
         have p18 := ag (ac Z6 : 0 ≤ (cR : Int))
         have q18 := ag (ac Z6 : cR < (a0.size : Int))
         have hx18 := bt_at a0 cR
         go_wp2
         go_roundg k2
         case measure => have := HK1.out; have := HK2.out; omega
         case rel => exact ⟨(wrap64 (cR + 1)), Z7, H', ⟨by have := HK1.out; have := HK2.out; omega⟩, ⟨zB⟩⟩
       have qR : decide (92 < (bt a0 cR)) = false := af c19
       clear c19
       revert H; refine sIe1n0_e0n1 (fun qZ rA H => ?_) fun qZ rA H => ?_
       ·obtain ⟨mI, mU⟩ : ∃ j_ : Int, (wrap64 (cR - 1)) = j_ := ⟨_, rfl⟩
        replace H : (if 0 ≤ (mI) then (if (mI) < (a0.size : Int) then (if (bt a0 (mI)) = 92 then (tostr46.l2 aN k2 a0 cR 0 (wrap64 (cR - 2))) else (if 0 ≤ (wrap64 (cR + 1)) then (if (wrap64 (cR + 1)) ≤ (a0.size : Int) then (if 1 ≤ cR then (if cR ≤ (a0.size : Int) then ((aN.f k2 (a0.extract 1 (cR : Int).toNat)).bind fun mH => (some (a0.extract 0 ((wrap64 (cR + 1)) : Int).toNat, mH))) else (none)) else (none)) else (none)) else (none))) else (none)) else (none)) = some (r1, r2) := by first | (rw [mU] at H; exact H) | (simp only [mU] at H ⊢; exact H)
        have hji22w : (IntKind.i64.wrap (cR - 1)) = mI := (i64_w _).trans mU
        revert H; refine sNd1 fun lN H => ?_
        revert H; refine sNd1 fun oO H => ?_
        revert H; refine sIe1n0_e0n1 (fun kU tU H => ?_) fun kU tU H => ?_
        ·have H' := ab H
         clear H
         have p18 := ag (ac Z6 : 0 ≤ (cR : Int))
         have q18 := ag (ac Z6 : cR < (a0.size : Int))
         have hx18 := bt_at a0 cR
         have p20 := ag (ac Z6 : 0 ≤ (cR : Int))
         have q20 := ag (ac Z6 : cR < (a0.size : Int))
         have hx20 := bt_at a0 cR
         have p25 := ag (ac Z6 : 0 ≤ ((mI) : Int))
         have q25 := ag (ac Z6 : (mI) < (a0.size : Int))
         have hx25 := bt_at a0 (mI)
         go_wp2
         (try simp only [Act.put, ap, aq, ar])
         go_loopg [5, 6] k2 (fun kq v5 v6 w' => ∃ (wR : Int) (jR : Int), v5 = .int .i64 wR ∧ v6 = .int .i64 jR ∧ Aside0 (tostr46.l2 aN kq a0 cR wR jR = some (r1, r2)) ∧ Aside0 (kq ≤ k2) ∧ Aside0 (Below w.heap.size w w'))
         case atStart => exact ⟨(0), (wrap64 (cR - 2)), Z7, Z7, H', ⟨Nat.le_refl _⟩, ⟨zB⟩⟩
         case round =>
          clear H'
          try clear gY qP p18 q18 hx18 c19 qR p20 q20 hx20 qZ rA lN oO p25 q25 hx25 kU tU
          obtain ⟨wR, jR, rfl, rfl, HA, HK3, HB⟩ := hrel
          cases gk with
          | zero => exact absurd HA.out (by simp [tostr46.l2])
          | succ k3 =>
           have H := HA.out
           clear HA
           simp only [tostr46.l2] at H
           revert H; refine sIk_k (fun c27 H => ?_) fun c27 H => ?_
           ·have Au : decide (0 < jR) = true := ae c27
            clear c27
            revert H; refine sNd1 fun oR H => ?_
            revert H; refine sNd1 fun Ei H => ?_
            revert H; refine sIe1n0_e0n1 (fun jI mT H => ?_) fun jI mT H => ?_
            ·focus
             have H' := ab H
             clear H
             have p30 := ag (ac Z6 : 0 ≤ (jR : Int))
             have q30 := ag (ac Z6 : jR < (a0.size : Int))
             have hx30 := bt_at a0 jR
             go_wp2
             go_roundg k3
             case measure => have := HK1.out; have := HK2.out; have := HK3.out; omega
             case rel => exact ⟨(wrap64 (wR + 1)), (wrap64 (jR - 1)), Z7, Z7, H', ⟨Z55⟩, ⟨zB⟩⟩
            revert H; refine sIe1n0_e0n1 (fun Gn Gp H => ?_) fun Gn Gp H => ?_
            ·focus
             have H' := ab H
             clear H
             have p30 := ag (ac Z6 : 0 ≤ (jR : Int))
             have q30 := ag (ac Z6 : jR < (a0.size : Int))
             have hx30 := bt_at a0 jR
             go_wp2
             go_roundg k3
             case measure => have := HK1.out; have := HK2.out; have := HK3.out; omega
             case rel => exact ⟨(wrap64 (cR + 1)), Z7, H', ⟨Z55⟩, ⟨zB⟩⟩
            obtain ⟨wS, rH⟩ : ∃ j_ : Int, (wrap64 (cR + 1)) = j_ := ⟨_, rfl⟩
            replace H : (if 0 ≤ (wS) then (if (wS) ≤ (a0.size : Int) then (if 1 ≤ cR then (if cR ≤ (a0.size : Int) then ((aN.f k3 (a0.extract 1 (cR : Int).toNat)).bind fun lY => (some (a0.extract 0 ((wS) : Int).toNat, lY))) else (none)) else (none)) else (none)) else (none)) = some (r1, r2) := by first | (rw [rH] at H; exact H) | (simp only [rH] at H ⊢; exact H)
            have hji33w : (IntKind.i64.wrap (cR + 1)) = wS := (i64_w _).trans rH
            revert H; refine sNt1d1 fun Av Ew H => ?_
            revert H; refine sNt1d1 fun tQ tR H => ?_
            revert H; refine sNt1d1 fun lP lQ H => ?_
            revert H; refine sNt1d1 fun Gq Gr H => ?_
            revert H; refine bnd ?_; rintro lY A38 H
            focus
             simp only [am, an] at H
             obtain ⟨rfl, rfl⟩ := H
             have p30 := ag (ac Z6 : 0 ≤ (jR : Int))
             have q30 := ag (ac Z6 : jR < (a0.size : Int))
             have hx30 := bt_at a0 jR
             try go_wp2
             replace HB := ab (below_drew1 HB.out)
             refine start_ (n := 10) (S := fun w' => True) (ds := []) #[false, false, false, false, false, false, false, false, false, false] (by kernel_rfl) rfl rfl trivial (fun hHeld => ?_); refine with_tabW tostr46.tab21 tostr46.bits21 (fun HT_ HW_ => ?_)
             generalize wr.drew = w39 at HB hHeld ⊢
             refine pz 0 69 ?_
             refine pz 1 70 ?_
             refine pz 2 71 ?_
             refine pz 3 72 ?_
             refine pz 4 73 ?_
             refine pz 5 74 ?_
             refine pz 6 75 ?_
             refine on1 7 (some 76) fun K hK => ?_
             refine goes_ Tryz.func49 (by kernel_rfl) rfl #[.string (a0.extract 1 (cR : Int).toNat)] (by rfl) rfl rfl Z15 ?_
             with_reducible refine (aN.calls k3 (a0.extract 1 (cR : Int).toNat) lY _ A38.out).mono ?_
             rintro e w40 ⟨rfl, hb⟩
             refine ⟨_, rfl, ?_⟩
             replace HB := ab (below_step (w := w) zB hb)
             try clear hb
             refine hK.out _ _ trivial (fun hHeld => ?_)
             clear hK K
             refine norm_ (a' := ?_) ?_ ?_
             rotate_left
             ·show Act.put _ (some 76) _ = _
              simp only [Act.put, ap, aq, ar, i64_w, i32_w]
              rfl
             refine pz 8 2 ?_
             refine pz 9 3 ?_
             refine dn1 ?_
             try go_wp2
             go_ret2
             exact ⟨by first | rfl | (simp [errW_none, errW_some] <;> rfl) | (simp only [← mU, ← rH]; first | rfl | (simp [errW_none, errW_some] <;> rfl)) | (simp [*, errW_none, errW_some] <;> rfl), zB⟩
           have Au : decide (0 < jR) = false := af c27
           clear c27
           revert H; refine sIe1n0_e0n1 (fun Gs Gt H => ?_) fun Gs Gt H => ?_
           ·focus
            have H' := ab H
            clear H
            go_wp2
            go_roundg k3
            case measure => have := HK1.out; have := HK2.out; have := HK3.out; omega
            case rel => exact ⟨(wrap64 (cR + 1)), Z7, H', ⟨Z55⟩, ⟨zB⟩⟩
           obtain ⟨wT, rI⟩ : ∃ j_ : Int, (wrap64 (cR + 1)) = j_ := ⟨_, rfl⟩
           replace H : (if 0 ≤ (wT) then (if (wT) ≤ (a0.size : Int) then (if 1 ≤ cR then (if cR ≤ (a0.size : Int) then ((aN.f k3 (a0.extract 1 (cR : Int).toNat)).bind fun lZ => (some (a0.extract 0 ((wT) : Int).toNat, lZ))) else (none)) else (none)) else (none)) else (none)) = some (r1, r2) := by first | (rw [rI] at H; exact H) | (simp only [rI] at H ⊢; exact H)
           have hji42w : (IntKind.i64.wrap (cR + 1)) = wT := (i64_w _).trans rI
           revert H; refine sNt1d1 fun Ex Ey H => ?_
           revert H; refine sNt1d1 fun Ez Fa H => ?_
           revert H; refine sNt1d1 fun agS agT H => ?_
           revert H; refine sNt1d1 fun Fb Fc H => ?_
           revert H; refine bnd ?_; rintro lZ Nw H
           focus
            simp only [am, an] at H
            obtain ⟨rfl, rfl⟩ := H
            try go_wp2
            replace HB := ab (below_drew1 HB.out)
            refine start_ (n := 10) (S := fun w' => True) (ds := []) #[false, false, false, false, false, false, false, false, false, false] (by kernel_rfl) rfl rfl trivial (fun hHeld => ?_); refine with_tabW tostr46.tab21 tostr46.bits21 (fun HT_ HW_ => ?_)
            generalize wr.drew = w48 at HB hHeld ⊢
            refine pz 0 69 ?_
            refine pz 1 70 ?_
            refine pz 2 71 ?_
            refine pz 3 72 ?_
            refine pz 4 73 ?_
            refine pz 5 74 ?_
            refine pz 6 75 ?_
            refine on1 7 (some 76) fun K hK => ?_
            refine goes_ Tryz.func49 (by kernel_rfl) rfl #[.string (a0.extract 1 (cR : Int).toNat)] (by rfl) rfl rfl Z15 ?_
            with_reducible refine (aN.calls k3 (a0.extract 1 (cR : Int).toNat) lZ _ Nw.out).mono ?_
            rintro e w49 ⟨rfl, hb⟩
            refine ⟨_, rfl, ?_⟩
            replace HB := ab (below_step (w := w) zB hb)
            try clear hb
            refine hK.out _ _ trivial (fun hHeld => ?_)
            clear hK K
            refine norm_ (a' := ?_) ?_ ?_
            rotate_left
            ·show Act.put _ (some 76) _ = _
             simp only [Act.put, ap, aq, ar, i64_w, i32_w]
             rfl
            refine pz 8 2 ?_
            refine pz 9 3 ?_
            refine dn1 ?_
            try go_wp2
            go_ret2
            exact ⟨by first | rfl | (simp [errW_none, errW_some] <;> rfl) | (simp only [← mU, ← rI]; first | rfl | (simp [errW_none, errW_some] <;> rfl)) | (simp [*, errW_none, errW_some] <;> rfl), zB⟩
        obtain ⟨wU, rJ⟩ : ∃ j_ : Int, (wrap64 (cR + 1)) = j_ := ⟨_, rfl⟩
        replace H : (if 0 ≤ (wU) then (if (wU) ≤ (a0.size : Int) then (if 1 ≤ cR then (if cR ≤ (a0.size : Int) then ((aN.f k2 (a0.extract 1 (cR : Int).toNat)).bind fun mH => (some (a0.extract 0 ((wU) : Int).toNat, mH))) else (none)) else (none)) else (none)) else (none)) = some (r1, r2) := by first | (rw [rJ] at H; exact H) | (simp only [rJ] at H ⊢; exact H)
        have hji50w : (IntKind.i64.wrap (cR + 1)) = wU := (i64_w _).trans rJ
        revert H; refine sNt1d1 fun tY Fj H => ?_
        revert H; refine sNt1d1 fun Gu agU H => ?_
        revert H; refine sNt1d1 fun agV agW H => ?_
        revert H; refine sNt1d1 fun agX agY H => ?_
        revert H; refine bnd ?_; rintro mH A55 H
        focus
         simp only [am, an] at H
         obtain ⟨rfl, rfl⟩ := H
         have p18 := ag (ac Z6 : 0 ≤ (cR : Int))
         have q18 := ag (ac Z6 : cR < (a0.size : Int))
         have hx18 := bt_at a0 cR
         have p20 := ag (ac Z6 : 0 ≤ (cR : Int))
         have q20 := ag (ac Z6 : cR < (a0.size : Int))
         have hx20 := bt_at a0 cR
         have p25 := ag (ac Z6 : 0 ≤ ((mI) : Int))
         have q25 := ag (ac Z6 : (mI) < (a0.size : Int))
         have hx25 := bt_at a0 (mI)
         try go_wp2
         replace HB := ab (below_drew1 HB.out)
         refine start_ (n := 10) (S := fun w' => True) (ds := []) #[false, false, false, false, false, false, false, false, false, false] (by kernel_rfl) rfl rfl trivial (fun hHeld => ?_); refine with_tabW tostr46.tab21 tostr46.bits21 (fun HT_ HW_ => ?_)
         generalize wr.drew = w56 at HB hHeld ⊢
         refine pz 0 69 ?_
         refine pz 1 70 ?_
         refine pz 2 71 ?_
         refine pz 3 72 ?_
         refine pz 4 73 ?_
         refine pz 5 74 ?_
         refine pz 6 75 ?_
         refine on1 7 (some 76) fun K hK => ?_
         refine goes_ Tryz.func49 (by kernel_rfl) rfl #[.string (a0.extract 1 (cR : Int).toNat)] (by rfl) rfl rfl Z15 ?_
         with_reducible refine (aN.calls k2 (a0.extract 1 (cR : Int).toNat) mH _ A55.out).mono ?_
         rintro e w57 ⟨rfl, hb⟩
         refine ⟨_, rfl, ?_⟩
         replace HB := ab (below_step (w := w) zB hb)
         try clear hb
         refine hK.out _ _ trivial (fun hHeld => ?_)
         clear hK K
         refine norm_ (a' := ?_) ?_ ?_
         rotate_left
         ·show Act.put _ (some 76) _ = _
          simp only [Act.put, ap, aq, ar, i64_w, i32_w]
          rfl
         refine pz 8 2 ?_
         refine pz 9 3 ?_
         refine dn1 ?_
         try go_wp2
         go_ret2
         exact ⟨by first | rfl | (simp [errW_none, errW_some] <;> rfl) | (simp only [← mU, ← rJ]; first | rfl | (simp [errW_none, errW_some] <;> rfl)) | (simp [*, errW_none, errW_some] <;> rfl), zB⟩
       focus
        have H' := ab H
        clear H
        have p18 := ag (ac Z6 : 0 ≤ (cR : Int))
        have q18 := ag (ac Z6 : cR < (a0.size : Int))
        have hx18 := bt_at a0 cR
        have p20 := ag (ac Z6 : 0 ≤ (cR : Int))
        have q20 := ag (ac Z6 : cR < (a0.size : Int))
        have hx20 := bt_at a0 cR
        go_wp2
        go_roundg k2
        case measure => have := HK1.out; have := HK2.out; omega
        case rel => exact ⟨(wrap64 (cR + 1)), Z7, H', ⟨by have := HK1.out; have := HK2.out; omega⟩, ⟨zB⟩⟩
    focus
     have H' := ab H
     clear H
     have p4 := ag (ac Z6 : 0 ≤ (cU : Int))
     have q4 := ag (ac Z6 : cU < (a0.size : Int))
     have hx4 := bt_at a0 cU
     have p6 := ag (ac Z6 : 0 ≤ (cU : Int))
     have q6 := ag (ac Z6 : cU < (a0.size : Int))
     have hx6 := bt_at a0 cU
     have p14 := ag (ac Z6 : 0 ≤ (cU : Int))
     have q14 := ag (ac Z6 : cU < (a0.size : Int))
     have hx14 := bt_at a0 cU
     go_wp2
     go_roundg k1
     case measure => have := HK1.out; omega
     case rel => exact ⟨(wrap64 (cU + 1)), Z7, H', ⟨by have := HK1.out; omega⟩, ⟨zB⟩⟩
   exact absurd H (by simp)
end Go.Proofs.YtkjnahgicfmicaaGreatDoor.Sp
namespace Go.Proofs.YtkjnahgicfmicaaGreatDoor.Gj
open Go.RowKit Go.PW Go.PL Go.PM Sp Dec
set_option linter.unusedVariables false
set_option linter.unusedSimpArgs false
section
variable {s : av} {e : Nat} {O : List Int} (hs : s.size ≤ 1000000) (he : e < s.size) (hI : Inner (s.extract 1 e) 0 O) (he1 : 1 ≤ e)
include hs he hI he1
theorem ts_ret {x1 : Int} {R : av} {u v : Bool} (h0 : 0 ≤ x1) (h1 : x1 < (s.size : Int)) (h : (if 0 ≤ wrap64 (1 - 1) then (if wrap64 (1 - 1) ≤ wrap64 (x1 + 1) then (if wrap64 (x1 + 1) ≤ (s.size : Int) then some (wrap64 (x1 + 1), s.extract (wrap64 (1 - 1)).toNat (wrap64 (x1 + 1)).toNat, u, true) else none) else none) else none) = some (((e + 1 : Nat) : Int), R, v, true)) (k : Nat) :
  x1 = e ∧ (if 0 ≤ wrap64 (x1 + 1) then (if wrap64 (x1 + 1) ≤ (s.size : Int) then (if 1 ≤ x1 then (if x1 ≤ (s.size : Int) then ((V_un O).f k (s.extract 1 x1.toNat)).bind fun t => some (s.extract 0 (wrap64 (x1 + 1)).toNat, t) else none) else none) else none) else none) = some (s.extract 0 (e + 1), strOfNums O) := by
 have hx : x1 = e := by
  split at h
  ·split at h
   ·split at h
    ·have := congrArg (fun o => o.map Prod.fst) h
     simp only [Option.map_some, am] at this
     unfold wrap64 at this
     omega
    ·cases h
   ·cases h
  ·cases h
 subst hx
 refine ⟨rfl, ?_⟩
 rw [wp1 (i := e) (by omega), if_pos (by omega), if_pos (by omega), if_pos (by omega), if_pos (by omega)]
 rw [show ((e : Nat) : Int).toNat = e by omega, un_f k Z34 hI]
 rfl
theorem ts_l {R : av} {v : Bool} : ∀ k : Nat, (∀ x1 : Int, aH.l1 k s x1 1 = some (((e + 1 : Nat) : Int), R, v, true) → tostr46.l1 (V_un O) k s x1 = some (s.extract 0 (e + 1), strOfNums O)) ∧
  (∀ x1 x9 x10 : Int, 0 ≤ x1 → x1 < (s.size : Int) → aH.l2 k s x1 1 x9 x10 = some (((e + 1 : Nat) : Int), R, v, true) → tostr46.l2 (V_un O) k s x1 x9 x10 = some (s.extract 0 (e + 1), strOfNums O))
 | 0 => ⟨fun _ h => by simp [aH.l1] at h, fun _ _ _ _ _ h => by simp [aH.l2] at h⟩
 | k + 1 => by
  obtain ⟨ih1, ih2⟩ := ts_l (R := R) (v := v) k
  refine ⟨fun x1 h => ?_, fun x1 x9 x10 h0 h1 h => ?_⟩
  ·simp only [aH.l1] at h
   simp only [tostr46.l1]
   by_cases c1 : x1 < (s.size : Int)
   ·rw [if_pos c1] at h ⊢
    by_cases c2 : 0 ≤ x1
    ·rw [if_pos c2] at h ⊢
     by_cases c3 : bt s x1 > 92
     ·rw [if_pos c3] at h ⊢
      exact ih1 _ h
     ·rw [if_neg c3] at h ⊢
      by_cases c4 : bt s x1 = 34
      ·rw [if_pos c4] at h ⊢
       by_cases c5 : 0 ≤ wrap64 (x1 - 1)
       ·rw [if_pos c5] at h ⊢
        by_cases c6 : wrap64 (x1 - 1) < (s.size : Int)
        ·rw [if_pos c6] at h ⊢
         by_cases c7 : bt s (wrap64 (x1 - 1)) = 92
         ·rw [if_pos c7] at h ⊢
          exact ih2 _ _ _ c2 c1 h
         ·rw [if_neg c7] at h ⊢
          exact (ts_ret hs he hI he1 c2 c1 h k).2
        ·rw [if_neg c6] at h
         cases h
       ·rw [if_neg c5] at h
        cases h
      ·rw [if_neg c4] at h ⊢
       exact ih1 _ h
    ·rw [if_neg c2] at h
     cases h
   ·rw [if_neg c1] at h
    split at h
    ·split at h
     ·simp at h
     ·cases h
    ·cases h
  ·simp only [aH.l2] at h
   simp only [tostr46.l2]
   have hstop : (if x9.tmod 2 = 0 then aH.l1 k s (wrap64 (x1 + 1)) 1 else if 0 ≤ wrap64 (1 - 1) then (if wrap64 (1 - 1) ≤ wrap64 (x1 + 1) then (if wrap64 (x1 + 1) ≤ (s.size : Int) then some (wrap64 (x1 + 1), s.extract (wrap64 (1 - 1)).toNat (wrap64 (x1 + 1)).toNat, true, true) else none) else none) else none) = some (((e + 1 : Nat) : Int), R, v, true) →
     (if x9.tmod 2 = 0 then tostr46.l1 (V_un O) k s (wrap64 (x1 + 1)) else if 0 ≤ wrap64 (x1 + 1) then (if wrap64 (x1 + 1) ≤ (s.size : Int) then (if 1 ≤ x1 then (if x1 ≤ (s.size : Int) then ((V_un O).f k (s.extract 1 x1.toNat)).bind fun t => some (s.extract 0 (wrap64 (x1 + 1)).toNat, t) else none) else none) else none) else none) = some (s.extract 0 (e + 1), strOfNums O) := fun h => by
    by_cases c : x9.tmod 2 = 0
    ·rw [if_pos c] at h ⊢
     exact ih1 _ h
    ·rw [if_neg c] at h ⊢
     exact (ts_ret hs he hI he1 h0 h1 h k).2
   by_cases c1 : x10 > 0
   ·rw [if_pos c1] at h ⊢
    by_cases c2 : 0 ≤ x10
    ·rw [if_pos c2] at h ⊢
     by_cases c3 : x10 < (s.size : Int)
     ·rw [if_pos c3] at h ⊢
      by_cases c4 : bt s x10 = 92
      ·rw [if_pos c4] at h ⊢
       exact ih2 _ _ _ h0 h1 h
      ·rw [if_neg c4] at h ⊢
       exact hstop h
     ·rw [if_neg c3] at h
      cases h
    ·rw [if_neg c2] at h
     cases h
   ·rw [if_neg c1] at h ⊢
    exact hstop h
theorem ts_l0 {R : av} {v : Bool} (hv : v = false → strOfNums O = s.extract 1 e) : ∀ (k : Nat) (x1 : Int), aH.l0 k s x1 1 = some (((e + 1 : Nat) : Int), R, v, true) → tostr46.l0 (V_un O) k s x1 = some (s.extract 0 (e + 1), strOfNums O)
 | 0, _, h => by simp [aH.l0] at h
 | k + 1, x1, h => by
  simp only [aH.l0] at h
  simp only [tostr46.l0]
  by_cases c1 : x1 < (s.size : Int)
  ·rw [if_pos c1] at h ⊢
   by_cases c2 : 0 ≤ x1
   ·rw [if_pos c2] at h ⊢
    by_cases c3 : bt s x1 > 92
    ·rw [if_pos c3] at h ⊢
     exact ts_l0 hv k _ h
    ·rw [if_neg c3] at h ⊢
     by_cases c4 : bt s x1 = 34
     ·rw [if_pos c4] at h ⊢
      have hv2 : v = false := by
       split at h
       ·split at h
        ·split at h
         ·simp at h
          exact h.2.2
         ·cases h
        ·cases h
       ·cases h
      subst hv2
      obtain ⟨rfl, _⟩ := ts_ret hs he hI he1 c2 c1 h k
      rw [wp1 (i := e) (by omega), if_pos (by omega), if_pos (by omega), if_pos (by omega), if_pos (by omega), hv rfl]
      rfl
     ·rw [if_neg c4] at h ⊢
      by_cases c5 : bt s x1 = 92
      ·rw [if_pos c5] at h ⊢
       exact (ts_l hs he hI he1 k).1 _ h
      ·rw [if_neg c5] at h ⊢
       exact ts_l0 hv k _ h
   ·rw [if_neg c2] at h
    cases h
  ·rw [if_neg c1] at h
   split at h
   ·split at h
    ·simp at h
    ·cases h
   ·cases h
end
theorem tostr_calls {s : av} (hs : s.size ≤ 1000000) {e : Nat} (hS : StrAt s 0 e) {O : List Int} (hI : Inner (s.extract 1 e) 0 O) (w : World) :
  Calls Tryz.prog 46 #[.string s] w fun r w' => r = .returned (.tuple #[.string (s.extract 0 (e + 1)), .string (strOfNums O)]) ∧ Below w.heap.size w w' := by
 have hlt := hS.lt
 have hle := hS.le
 obtain ⟨k, v, hp, hno⟩ := ps_tells hS hs
 refine tostr46.calls (V_un O) k s _ _ w (ts_l0 hs (by omega) hI (by omega) (fun hv => inner_plain (fun q h0 h1 => ?_) hI) k 1 hp)
 rw [ByteArray.size_extract] at h1
 have hn := hno hv (1 + q.toNat) (by omega) (by omega)
 rw [show q = ((q.toNat : Nat) : Int) by omega, bt_ext (by omega) (by omega) (by omega)]
 have e1 : (((1 : Nat) : Int) + ((q.toNat : Nat) : Int)) = ((1 + q.toNat : Nat) : Int) := by omega
 rw [e1]
 exact hn
end Go.Proofs.YtkjnahgicfmicaaGreatDoor.Gj

import Derived.Test.YtkjnahgicfmicaaGreatDoorZip
import Derived.Test.YtkjnahgicfmicaaGreatDoorSpx14
import Derived.Test.YtkjnahgicfmicaaGreatDoorQj
import Derived.Test.YtkjnahgicfmicaaGreatDoorGj1
import Derived.Test.YtkjnahgicfmicaaGreatDoorUne
import Derived.Test.YtkjnahgicfmicaaGreatDoorPan
import Derived.Test.YtkjnahgicfmicaaGreatDoorFea
namespace Go.Proofs.YtkjnahgicfmicaaGreatDoor.Gj
open Go.RowKit Go.Proofs.YtkjnahgicfmicaaGreatDoorW.PrintWords Go.Proofs.YtkjnahgicfmicaaGreatDoorW.PrintLast Go.Proofs.YtkjnahgicfmicaaGreatDoorW.PrintMore Sp Dec
set_option linter.unusedVariables false
set_option linter.unusedSimpArgs false
set_option maxRecDepth 100000
open Classical in
noncomputable def V_un (O : List Int) : cE where
 f := fun k t => if t.size ≤ 1000000 ∧ Inner t 0 O then some (strOfNums O) else none
 mono := fun a0 k => LeO.refl _
 calls := fun k a0 r w h => by
  by_cases h1 : a0.size ≤ 1000000 ∧ Inner a0 0 O
  ·rw [if_pos h1] at h
   obtain rfl := Option.some.inj h
   exact unescape_calls a0 _ w h1.1 h1.2
  ·rw [if_neg h1] at h
   cases h
theorem un_f {t : ByteArray} (k : Nat) (hs : t.size ≤ 1000000) {O : List Int} (h : Inner t 0 O) : (V_un O).f k t = some (strOfNums O) := if_pos ⟨hs, h⟩
open Classical in
noncomputable def V_sq (a0 j : Nat) : bV where
 f := fun k s i => if s.size ≤ 1000000 ∧ i = a0 ∧ Sq s (a0 + 1) 1 j then some ((j : Int), s.extract a0 j) else none
 mono := fun a0 a1 k => LeO.refl _
 calls := fun k s a1 r1 r2 w h hW => by
  by_cases h1 : s.size ≤ 1000000 ∧ a1 = a0 ∧ Sq s (a0 + 1) 1 j
  ·rw [if_pos h1] at h
   simp only [Option.some.injEq, Prod.mk.injEq] at h
   obtain ⟨rfl, rfl⟩ := h
   exact squash_calls s a1 _ _ w h1.2.1 h1.1 hW.vtab h1.2.2
  ·rw [if_neg h1] at h
   cases h
theorem sq_f {s : ByteArray} (k : Nat) (hs : s.size ≤ 1000000) {i : Int} {a0 j : Nat} (hi : i = a0) (h : Sq s (a0 + 1) 1 j) : (V_sq a0 j).f k s i = some ((j : Int), s.extract a0 j) := if_pos ⟨hs, hi, h⟩
theorem pa_of {O : List Int} {a b : Nat} {R : ByteArray} {i : Int} {k : Nat} {r1 r2 : Int} {r3 r4 : ByteArray} {r5 : Nat} {r6 : Int} {r8 : Bool} (h : aJ.f (V_un O) (V_sq a b) k R i true = some (r1, r2, r3, r4, r5, r6, [], r8)) :
  PA R i (fun ok j g => ok = r8 ∧ j = r1 ∧ g.ty = r2 ∧ g.raw = r3 ∧ g.str = r4) := fun w hW =>
 (aJ.calls (V_un O) (V_sq a b) k R i true r1 r2 r3 r4 r5 r6 [] r8 w h hW).mono fun e w' ⟨v, he, ho, hb⟩ => by
  obtain ⟨A, c, rfl⟩ := Kd.R_slice ho
  exact ⟨r8, r1, ⟨r2, r3, r4, r5, r6, A, 0, c⟩, ⟨rfl, rfl, rfl, rfl, rfl⟩, he, hb⟩
structure Res (ty : Int) (T : ByteArray) (O : Option ByteArray) (g : GR) : Prop where
 ty : g.ty = ty
 raw : g.raw = T
 str : ∀ o, O = some o → g.str = o
def Ans (e : Nat) (ty : Int) (T : ByteArray) (O : Option ByteArray) (ok : Bool) (j : Int) (g : GR) : Prop := ok = true ∧ j = (e : Int) ∧ Res ty T O g
theorem inner_plain_l {t : ByteArray} (hno : ∀ q : Int, 0 ≤ q → q < t.size → bt t q ≠ 92) {i : Int} {o : List Int} (h : Inner t i o) : i + o.length = t.size ∧ ∀ q : Nat, q < o.length → o.getD q 0 = bt t (i + q) := by
 induction h with
 | done => exact ⟨by simp, fun q hq => by simp at hq⟩
 | plain i o h0 h1 h2 h3 h4 h5 ih =>
  refine ⟨by have := ih.1; simp only [List.length_cons]; omega, fun q hq => ?_⟩
  cases q with
  | zero => simp
  | succ q =>
   have := ih.2 q (by simp only [List.length_cons] at hq; omega)
   rw [List.getD_cons_succ, this]
   congr 1
   omega
 | esc i o h0 h1 h2 h3 h4 ih => exact absurd h2 (hno i h0 (by omega))
 | uni i o h0 h1 h2 h3 h4 ih => exact absurd h1.2.1 (hno i h0 (by have := h1.1; omega))
 | pair i o h0 h1 h2 h3 h4 h5 ih => exact absurd h1.2.1 (hno i h0 (by have := h1.1; omega))
theorem inner_plain {t : ByteArray} (hno : ∀ q : Int, 0 ≤ q → q < t.size → bt t q ≠ 92) {o : List Int} (h : Inner t 0 o) : strOfNums o = t := by
 obtain ⟨h1, h2⟩ := inner_plain_l hno h
 have hl : o.length = t.size := by omega
 apply ByteArray.ext
 apply Array.ext
 ·have := strOfNums_size o
  simp only [ByteArray.size] at this hl
  omega
 ·intro q hq hq'
  have hq2 : q < o.length := by
   have := strOfNums_size o
   simp only [ByteArray.size] at this
   omega
  have hb := h2 q hq2
  rw [show (0 : Int) + (q : Int) = (q : Int) by omega] at hb
  have hb2 := bt_at t (q : Int) (by simpa using (by omega : q < t.size))
  have e1 : (strOfNums o).data[q] = UInt8.ofNat (o[q]'hq2).toNat := by simp [strOfNums]
  rw [e1]
  have e2 : o[q]'hq2 = bt t (q : Int) := by rw [← hb]; simp [List.getD, hq2]
  rw [e2, ← hb2]
  simp
  rfl
variable {R : ByteArray} (hs : R.size ≤ 1000000)
include hs
theorem pa_squash {i j : Nat} (hi : i < R.size) (hc : at_ R i = 123 ∨ at_ R i = 91) (hq : Sq R (i + 1) 1 j) : PA R i (Ans j 5 (R.extract i j) (some ⟨#[]⟩)) := by
 have hle := hq.le
 have : ∃ r6, aJ.f (V_un []) (V_sq i j) 3 R i true = some ((j : Int), 5, R.extract i j, ⟨#[]⟩, 0, r6, [], true) := by
  unfold aJ.f
  simp only [aJ.l0]
  rw [if_pos (show (i : Int) < R.size by omega), if_pos (show (0 : Int) ≤ i by omega)]
  have hb : bt R i = 123 ∨ bt R i = 91 := hc
  have hj : ∀ b : Bool, b = true → ∃ r6, aJ.j1 (V_un []) (V_sq i j) 2 R i b 0 ⟨#[]⟩ ⟨#[]⟩ 0 0 = some ((j : Int), 5, R.extract i j, ⟨#[]⟩, 0, r6, [], true) := by
   rintro b rfl
   simp only [aJ.j1, if_true]
   rw [sq_f _ hs rfl hq]
   exact ⟨_, rfl⟩
  rcases hb with hb | hb
  ·rw [if_pos hb]
   exact hj _ rfl
  ·rw [if_neg (by omega)]
   exact hj _ (by simp [hb])
 obtain ⟨r6, h⟩ := this
 exact (pa_of h).mono fun ok jj g ⟨h1, h2, h3, h4, h5⟩ => ⟨h1, h2, h3, h4, fun o ho => by cases ho; first | exact h5 | rfl⟩
theorem pa_str {b e : Nat} (hS : StrAt R b e) {O : List Int} (hI : Inner (R.extract (b + 1) e) 0 O) : PA R b (Ans (e + 1) 3 (R.extract b (e + 1)) (some (strOfNums O))) := by
 have hlt := hS.lt
 have hle := hS.le
 obtain ⟨k, vesc, hp, hno⟩ := ps_tells hS hs
 have hb : bt R b = 34 := hS.op
 have hz : (R.extract b (e + 1)).size = e + 1 - b := Z51
 have hw : wrap64 ((((R.extract b (e + 1)).size : Nat) : Int) - 1) = ((e - b : Nat) : Int) := by rw [hz, w64 (by omega) (by omega)]; omega
 have hx : (R.extract b (e + 1)).extract 1 (((e - b : Nat) : Int)).toNat = R.extract (b + 1) e := by rw [ByteArray.extract_extract]; congr 1 <;> omega
 have : aJ.f (V_un O) (V_sq 0 0) (k + 2) R b true = some (((e + 1 : Nat) : Int), 3, R.extract b (e + 1), strOfNums O, 0, 0, [], true) := by
  unfold aJ.f
  simp only [aJ.l0]
  rw [if_pos (show (b : Int) < R.size by omega), if_pos (show (0 : Int) ≤ b by omega), if_neg (by omega), show (bt R b == 91) = false by simp [hb]]
  simp only [aJ.j1, Bool.false_eq_true, if_false]
  rw [if_pos (show (0 : Int) ≤ b by omega), if_pos (show (b : Int) < R.size by omega), if_neg (by omega), if_pos hb, wp1 (by omega), hp]
  simp only [Option.bind_some, if_true]
  cases vesc with
  | true =>
   simp only [if_true]
   rw [hw, if_pos (show (1 : Int) ≤ ((e - b : Nat) : Int) by omega), if_pos (by rw [hz]; omega), hx]
   rw [un_f k Z51 hI]
   rfl
  | false =>
   simp only [Bool.false_eq_true, if_false]
   rw [hw, if_pos (show (1 : Int) ≤ ((e - b : Nat) : Int) by omega), if_pos (by rw [hz]; omega), hx]
   rw [inner_plain _ hI]
   intro q h0 h1
   have hn := hno rfl (b + 1 + q.toNat) (by omega)
   rw [ByteArray.size_extract] at h1
   have := hn (by omega)
   rw [show q = ((q.toNat : Nat) : Int) by omega, bt_ext (by omega) (by omega) (by omega)]
   have e1 : (((b + 1 : Nat) : Int) + ((q.toNat : Nat) : Int)) = ((b + 1 + q.toNat : Nat) : Int) := by omega
   rw [e1]
   exact this
 exact (pa_of this).mono fun ok jj g ⟨h1, h2, h3, h4, h5⟩ => ⟨h1, h2, h3, h4, fun o ho => by cases ho; exact h5⟩
theorem pa_num {i j : Nat} (hij : i < j) (hj : j < R.size) (h1 : (48 ≤ at_ R i ∧ at_ R i ≤ 57) ∨ at_ R i = 45) (hn : ∀ q, i ≤ q → q < j → NumCh (at_ R q)) (hst : NumStop (at_ R j)) (hl : j - i ≤ 100000) : PA R i (Ans j 2 (R.extract i j) (some ⟨#[]⟩)) := by
 obtain ⟨k, hp⟩ := pn_tells R hs i j hij hj hst (fun q h0 h1 => by
  have := hn q (by omega) h1
  unfold NumCh at this
  unfold NumStop
  omega)
 have hT : NumText (R.extract i j) := by
  refine ⟨Z51, Z51, fun q h0 h1 => ?_⟩
  rw [ByteArray.size_extract] at h1
  rw [bt_ext (by omega) (by omega) (by omega)]
  have h2 := hn (i + q.toNat) (by omega) (by omega)
  have e1 : ((i : Nat) : Int) + q = ((i + q.toNat : Nat) : Int) := by omega
  rw [e1]
  unfold NumCh at h2
  unfold NumByte
  unfold at_ at h2
  omega
 intro w hW
 refine (pany_num R (R.extract i j) i j (bt R i) k w hW (by omega) (by omega) rfl (by unfold at_ at h1; omega) hp hT).mono ?_
 rintro e w' ⟨f, rfl, hb⟩
 exact ⟨true, j, ⟨2, R.extract i j, ⟨#[]⟩, f, 0, none, 0, 0⟩, ⟨rfl, rfl, rfl, rfl, fun o ho => by cases ho; first | exact h5 | rfl⟩, rfl, hb⟩
theorem pa_lit {i j : Nat} (hij : i < j) (hj : j < R.size) (ty : Int) (h1 : (at_ R i = 110 ∧ at_ R (i + 1) = 117 ∧ ty = 0) ∨ (at_ R i = 116 ∧ ty = 4) ∨ (at_ R i = 102 ∧ ty = 1)) (hn : ∀ q, i ≤ q → q < j → ¬ LitStop (at_ R q)) (hst : LitStop (at_ R j)) : PA R i (Ans j ty (R.extract i j) (some ⟨#[]⟩)) := by
 obtain ⟨k, hp⟩ := pl_tells R hs i j hij hj hst (fun q h0 h1 => hn q (by omega) h1)
 have hj3 : aJ.j3 (V_un []) (V_sq 0 0) (k + 1) R i 0 ⟨#[]⟩ ⟨#[]⟩ 0 0 = some ((j : Int), ty, R.extract i j, ⟨#[]⟩, 0, 0, [], true) := by
  simp only [aJ.j3]
  rw [if_pos (show (0 : Int) ≤ i by omega), if_pos (show (i : Int) < R.size by omega), hp]
  simp only [Option.bind_some]
  rcases h1 with ⟨a, b, rfl⟩ | ⟨a, rfl⟩ | ⟨a, rfl⟩ <;> unfold at_ at a
  ·rw [if_neg (by omega), if_neg (by omega)]
  ·rw [if_pos a]
  ·rw [if_neg (by omega), if_pos a]
 have : ∃ K, aJ.f (V_un []) (V_sq 0 0) K R i true = some ((j : Int), ty, R.extract i j, ⟨#[]⟩, 0, 0, [], true) := by
  rcases h1 with ⟨a, b, rfl⟩ | h1
  ·refine ⟨k + 3, ?_⟩
   unfold at_ at a b
   unfold aJ.f
   simp only [aJ.l0]
   rw [if_pos (show (i : Int) < R.size by omega), if_pos (show (0 : Int) ≤ i by omega), if_neg (by omega), show (bt R i == 91) = false by simp [a]]
   simp only [aJ.j1, Bool.false_eq_true, if_false]
   rw [if_pos (show (0 : Int) ≤ i by omega), if_pos (show (i : Int) < R.size by omega), if_neg (by omega), if_neg (by omega), if_pos a, wp1 (by omega)]
   rw [if_pos (show ((i + 1 : Nat) : Int) < R.size by omega), if_pos (show (0 : Int) ≤ ((i + 1 : Nat) : Int) by omega), if_pos b]
   exact hj3
  ·refine ⟨k + 4, ?_⟩
   have hv : bt R i = 116 ∨ bt R i = 102 := by unfold at_ at h1; omega
   have hj2 : aJ.j2 (V_un []) (V_sq 0 0) (k + 2) R i false (bt R i) true 0 ⟨#[]⟩ ⟨#[]⟩ 0 0 = some ((j : Int), ty, R.extract i j, ⟨#[]⟩, 0, 0, [], true) := by
    simp only [aJ.j2, if_true]
    exact hj3
   unfold aJ.f
   simp only [aJ.l0]
   rw [if_pos (show (i : Int) < R.size by omega), if_pos (show (0 : Int) ≤ i by omega), if_neg (by omega), show (bt R i == 91) = false by rcases hv with h | h <;> simp [h]]
   simp only [aJ.j1, Bool.false_eq_true, if_false]
   rw [if_pos (show (0 : Int) ≤ i by omega), if_pos (show (i : Int) < R.size by omega), if_neg (by omega), if_neg (by omega), if_neg (by omega)]
   rcases hv with h | h
   ·rw [if_pos h, show (bt R i == 116) = true by simp [h]]
    exact hj2
   ·rw [if_neg (by omega), show (bt R i == 102) = true by simp [h]]
    exact hj2
 obtain ⟨K, h⟩ := this
 exact (pa_of h).mono fun ok jj g ⟨h1, h2, h3, h4, h5⟩ => ⟨h1, h2, h3, h4, fun o ho => by cases ho; first | exact h5 | rfl⟩
theorem pa_none_l : ∀ (d i : Nat), i + d = R.size → (∀ q, i ≤ q → q < R.size → at_ R q ≤ 32 ∨ at_ R q = 93 ∨ at_ R q = 125) → aJ.l0 (V_un []) (V_sq 0 0) (3 * d + 1) R i 0 ⟨#[]⟩ ⟨#[]⟩ 0 0 = some ((R.size : Int), 0, ⟨#[]⟩, ⟨#[]⟩, 0, 0, [], false)
 | 0, i, hd, h => by
  simp only [aJ.l0]
  rw [if_neg (by omega), show (i : Int) = R.size by omega]
 | d + 1, i, hd, h => by
  have ih := pa_none_l d (i + 1) (by omega) (fun q h0 h1 => h q (by omega) h1)
  have hc := h i (Nat.le_refl _) (by omega)
  have hr := at_range R i
  unfold at_ at hc hr
  rw [show 3 * (d + 1) + 1 = (3 * d + 1) + 1 + 1 + 1 by omega]
  simp only [aJ.l0]
  rw [if_pos (show (i : Int) < R.size by omega), if_pos (show (0 : Int) ≤ i by omega), if_neg (by omega), show (bt R i == 91) = false by simp; omega]
  simp only [aJ.j1, Bool.false_eq_true, if_false]
  rw [if_pos (show (0 : Int) ≤ i by omega), if_pos (show (i : Int) < R.size by omega)]
  by_cases h32 : bt R i ≤ 32
  ·rw [if_pos h32, wp1 (by omega)]
   have := (aJ.mono_l (V_un []) (V_sq 0 0) (3 * d + 1)).1 R ((i + 1 : Nat) : Int) 0 ⟨#[]⟩ ⟨#[]⟩ 0 0
   exact this _ ih
  ·rw [if_neg h32, if_neg (by omega), if_neg (by omega), if_neg (by omega), show (bt R i == 102) = false by simp; omega]
   simp only [aJ.j2, Bool.false_eq_true, if_false]
   iterate 15 rw [if_neg (by omega)]
   rw [wp1 (by omega)]
   exact ih
theorem pa_none {i : Nat} (hi : i ≤ R.size) (h : ∀ q, i ≤ q → q < R.size → at_ R q ≤ 32 ∨ at_ R q = 93 ∨ at_ R q = 125) : PA R i (fun ok _ _ => ok = false) :=
 (pa_of (O := []) (a := 0) (b := 0) (pa_none_l hs (R.size - i) i (by omega) h)).mono fun ok jj g h => h.1
end Go.Proofs.YtkjnahgicfmicaaGreatDoor.Gj

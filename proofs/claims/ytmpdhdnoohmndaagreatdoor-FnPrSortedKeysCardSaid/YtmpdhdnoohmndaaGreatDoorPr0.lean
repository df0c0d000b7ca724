import Derived.Test.YtmpdhdnoohmndaaGreatDoorQl
namespace Go.Proofs.YtmpdhdnoohmndaaGreatDoor.Pr
open Go.RowKit Go.Proofs.YtmpdhdnoohmndaaGreatDoorW.PrintWords Sp Gj
set_option linter.unusedVariables false
def By (c : Int) : Prop := 0 ≤ c ∧ c ≤ 255
def Nq (m : List Int) : Prop := ∀ c ∈ m, (c ≠ 34 ∧ c ≠ 92) ∧ By c
inductive LX : List Int → Prop
 | nil : LX []
 | ch (c : Int) (l : List Int) : Plain c ∧ By c → LX l → LX (c :: l)
 | str (m l : List Int) : Nq m → LX l → LX (34 :: (m ++ 34 :: l))
 | br (o : Int) (m : List Int) (c : Int) (l : List Int) : (o = 123 ∨ o = 91) → LX m → (c = 125 ∨ c = 93) → LX l → LX (o :: (m ++ c :: l))
theorem LX.app {a b : List Int} (h : LX a) (k : LX b) : LX (a ++ b) := by
 induction h with
 | nil => exact k
 | ch c l h1 h2 ih => exact .ch c _ h1 ih
 | str m l h1 h2 ih => rw [List.cons_append, List.append_assoc, List.cons_append]; exact .str m _ h1 ih
 | br o m c l h1 h2 h3 h4 _ ih => rw [List.cons_append, List.append_assoc, List.cons_append]; exact .br o m c _ h1 h2 h3 ih
theorem LX.plain : ∀ l : List Int, (∀ c ∈ l, Plain c ∧ By c) → LX l
 | [], _ => .nil
 | c :: l, h => .ch c l (h c (List.mem_cons_self)) (LX.plain l fun d hd => h d (List.mem_cons_of_mem _ hd))
inductive PO : List Int → Prop
 | str (m : List Int) : Nq m → m.length ≤ 4096 → PO (34 :: (m ++ [34]))
 | num (c : Int) (l : List Int) : ((48 ≤ c ∧ c ≤ 57) ∨ c = 45) → (∀ d ∈ c :: l, NumCh d) → l.length ≤ 4096 → PO (c :: l)
 | word (l : List Int) : (l = [116, 114, 117, 101] ∨ l = [102, 97, 108, 115, 101] ∨ l = [110, 117, 108, 108]) → PO l
 | cont (o : Int) (m : List Int) (c : Int) : (o = 123 ∨ o = 91) → LX m → (c = 125 ∨ c = 93) → PO (o :: (m ++ [c]))
theorem PO.lx {l : List Int} (h : PO l) : LX l := by
 cases h with
 | str m h1 h2 => exact .str m [] h1 .nil
 | num c l h1 h2 h3 => exact LX.plain _ fun d hd => ⟨num_plain (h2 d hd), by have := h2 d hd; unfold NumCh at this; unfold By; omega⟩
 | word l h =>
  refine LX.plain _ fun d hd => ?_
  rcases h with rfl | rfl | rfl <;> simp at hd <;> unfold Plain By <;> omega
 | cont o m c h1 h2 h3 => exact .br o m c [] h1 h2 h3 .nil
theorem LX.by_ {l : List Int} (h : LX l) : ∀ c ∈ l, By c := by
 induction h with
 | nil => intro c hc; cases hc
 | ch c l h1 h2 ih => intro d hd; rcases List.mem_cons.1 hd with rfl | hd; exact h1.2; exact ih d hd
 | str m l h1 h2 ih =>
  intro d hd
  simp only [List.mem_cons, List.mem_append] at hd
  rcases hd with rfl | hd | rfl | hd
  ·unfold By; omega
  ·exact (h1 d hd).2
  ·unfold By; omega
  ·exact ih d hd
 | br o m c l h1 h2 h3 h4 ih1 ih2 =>
  intro d hd
  simp only [List.mem_cons, List.mem_append] at hd
  rcases hd with rfl | hd | rfl | hd
  ·unfold By; omega
  ·exact ih1 d hd
  ·unfold By; omega
  ·exact ih2 d hd
theorem PO.last {l : List Int} (h : PO l) : ∃ (s : List Int) (c : Int), l = s ++ [c] ∧ 32 < c := by
 cases h with
 | str m h1 h2 => exact ⟨34 :: m, 34, by simp, by omega⟩
 | num c l h1 h2 h3 =>
  rcases List.eq_nil_or_concat l with rfl | ⟨s, d, rfl⟩
  ·exact ⟨[], c, rfl, by omega⟩
  ·have := h2 d (by simp)
   exact ⟨c :: s, d, by simp, by unfold NumCh at this; omega⟩
 | word l h =>
  rcases h with rfl | rfl | rfl
  ·exact ⟨[116, 114, 117], 101, rfl, by omega⟩
  ·exact ⟨[102, 97, 108, 115], 101, rfl, by omega⟩
  ·exact ⟨[110, 117, 108], 108, rfl, by omega⟩
 | cont o m c h1 h2 h3 => exact ⟨o :: m, c, by simp, by omega⟩
def AtL (S : au) (p : Nat) (l : List Int) : Prop := p + l.length ≤ S.size ∧ ∀ k, k < l.length → at_ S (p + k) = l.getD k 0
theorem AtL.head {S : au} {p : Nat} {c : Int} {l : List Int} (h : AtL S p (c :: l)) : p < S.size ∧ at_ S p = c ∧ AtL S (p + 1) l := by
 have h1 := h.1
 simp only [List.length_cons] at h1
 refine ⟨by omega, h.2 0 (by simp), by omega, fun k hk => ?_⟩
 have := h.2 (k + 1) (by simp; omega)
 rw [show p + 1 + k = p + (k + 1) by omega, this]
 simp
theorem AtL.split {S : au} {p : Nat} {a b : List Int} (h : AtL S p (a ++ b)) : AtL S p a ∧ AtL S (p + a.length) b := by
 have h1 := h.1
 rw [List.length_append] at h1
 refine ⟨⟨by omega, fun k hk => ?_⟩, by omega, fun k hk => ?_⟩
 ·rw [h.2 k (by rw [List.length_append]; omega)]
  simp [List.getD_eq_getElem?_getD, List.getElem?_append_left hk]
 ·rw [Nat.add_assoc, h.2 (a.length + k) (by rw [List.length_append]; omega), List.getD_eq_getElem?_getD, List.getElem?_append_right (Nat.le_add_right _ _), Nat.add_sub_cancel_left, List.getD_eq_getElem?_getD]
theorem nq_str {S : au} {p : Nat} {m : List Int} (hm : Nq m) (h : AtL S p (34 :: (m ++ [34]))) : StrAt S p (p + m.length + 1) := by
 obtain ⟨h0, h1, h2⟩ := h.head
 obtain ⟨h3, h4⟩ := h2.split
 obtain ⟨h5, h6, _⟩ := h4.head
 have hq : ∀ q, p < q → q < p + m.length + 1 → at_ S q ≠ 34 ∧ at_ S q ≠ 92 := fun q g1 g2 => by
  have := h3.2 (q - (p + 1)) (by omega)
  rw [show p + 1 + (q - (p + 1)) = q by omega] at this
  rw [this]
  refine (hm _ ?_).1
  rw [List.getD_eq_getElem?_getD, List.getElem?_eq_getElem (by omega)]
  exact List.getElem_mem _
 refine ⟨by omega, by omega, h1, by rw [show p + m.length + 1 = p + 1 + m.length by omega]; exact h6, ?_, fun q g1 g2 e => absurd e (hq q g1 g2).1⟩
 rcases Nat.eq_zero_or_pos m.length with h7 | h7
 ·rw [run_lo (by omega)]
 ·rw [show p + m.length + 1 = (p + m.length) + 1 by omega, run_zero (hq (p + m.length) (by omega) (by omega)).2]
theorem lx_sq {S : au} {l : List Int} (h : LX l) : ∀ (p d m : Nat), AtL S p l → 1 ≤ d → Sq S (p + l.length) d m → Sq S p d m := by
 induction h with
 | nil => intro p d m _ _ h; exact h
 | ch c l h1 h2 ih =>
  intro p d m hA hd h
  obtain ⟨a1, a2, a3⟩ := hA.head
  refine .skip a1 (by rw [a2]; exact h1.1.vch) (ih _ _ _ a3 hd ?_)
  rwa [show p + 1 + l.length = p + (c :: l).length by simp; omega]
 | str s l h1 h2 ih =>
  intro p d m hA hd h
  have hA' : AtL S p ((34 :: (s ++ [34])) ++ l) := by simpa using hA
  obtain ⟨a1, a2⟩ := hA'.split
  have hs := nq_str h1 a1
  refine .str hs (ih _ _ _ ?_ hd ?_)
  ·simpa [Nat.add_assoc] using a2
  ·simpa [Nat.add_assoc, Nat.add_comm, Nat.add_left_comm] using h
 | br o s c l h1 h2 h3 h4 ih1 ih2 =>
  intro p d m hA hd h
  obtain ⟨a1, a2, a3⟩ := hA.head
  obtain ⟨a4, a5⟩ := a3.split
  obtain ⟨a6, a7, a8⟩ := a5.head
  refine .open_ a1 (by rw [a2]; unfold vch; rcases h1 with rfl | rfl <;> decide) (ih1 _ _ _ a4 (by omega) ?_)
  refine .close a6 (by rw [a7]; unfold vch; rcases h3 with rfl | rfl <;> decide) hd (ih2 _ _ _ a8 hd ?_)
  simpa [Nat.add_assoc, Nat.add_comm, Nat.add_left_comm] using h
theorem cont_sq {S : au} {p : Nat} {o c : Int} {m : List Int} (hm : LX m) (hc : c = 125 ∨ c = 93) (h : AtL S p (o :: (m ++ [c]))) : Sq S (p + 1) 1 (p + m.length + 2) := by
 obtain ⟨a1, a2, a3⟩ := h.head
 obtain ⟨a4, a5⟩ := a3.split
 obtain ⟨a6, a7, a8⟩ := a5.head
 refine lx_sq hm _ _ _ a4 (Nat.le_refl _) ?_
 have := Sq.last (s := S) a6 (by rw [a7]; unfold vch; rcases hc with rfl | rfl <;> decide)
 rwa [show p + 1 + m.length + 1 = p + m.length + 2 by omega] at this
end Go.Proofs.YtmpdhdnoohmndaaGreatDoor.Pr

import Derived.Test.YtmpdhdnoohmndaaGreatDoorZip
import Derived.Test.YtmpdhdnoohmndaaGreatDoorPob1
import Derived.Test.YtmpdhdnoohmndaaGreatDoorIg
import Derived.Test.YtmpdhdnoohmndaaGreatDoorPo
namespace Go.Proofs.YtmpdhdnoohmndaaGreatDoor.Pr
open Go.RowKit Go.Proofs.YtmpdhdnoohmndaaGreatDoorW.PrintWords Go.Proofs.YtmpdhdnoohmndaaGreatDoorW.PrintLast Go.Proofs.YtmpdhdnoohmndaaGreatDoorW.PrintMore Sp Gj So Dec
set_option linter.unusedVariables false
set_option linter.unusedSimpArgs false
theorem at_str {l : List Int} (h : ∀ c ∈ l, By c) : AtL (strOfNums l) 0 l := by
 have hs := strOfNums_size l
 refine ⟨by omega, fun k hk => ?_⟩
 rw [Nat.zero_add]
 unfold at_
 have h0 : ((k : Nat) : Int).toNat < (strOfNums l).size := by omega
 rw [← bt_at _ _ h0]
 have e1 : l.getD k 0 = l[k] := by rw [List.getD_eq_getElem?_getD, List.getElem?_eq_getElem hk]; rfl
 have hb := h l[k] (List.getElem_mem hk)
 rw [e1]
 unfold By at hb
 have e2 : (strOfNums l)[((k : Nat) : Int).toNat]'h0 = UInt8.ofNat (l[k]).toNat := by show (strOfNums l).data[k]'_ = _; simp [strOfNums]
 rw [e2]
 simp
 omega
theorem ext_list {S : au} {p q : Nat} {l : List Int} (h : AtL S p l) (hb : ∀ c ∈ l, By c) (hq : q = p + l.length) : S.extract p q = strOfNums l := by
 subst hq
 have h1 := h.1
 apply ByteArray.ext
 apply Array.ext
 ·have := strOfNums_size l
  have h2 : (S.extract p (p + l.length)).size = l.length := Z46
  simp only [ByteArray.size] at this h2
  omega
 ·intro k hk hk'
  have h2 : (S.extract p (p + l.length)).size = l.length := Z46
  have hkl : k < l.length := by simp only [ByteArray.size] at h2; omega
  have a := h.2 k hkl
  have e1 : (strOfNums l).data[k] = UInt8.ofNat (l[k]'hkl).toNat := by simp [strOfNums]
  have e2 : l[k]'hkl = at_ S (p + k) := by rw [a, List.getD_eq_getElem?_getD, List.getElem?_eq_getElem hkl]; rfl
  have hb2 := bt_at S ((p + k : Nat) : Int) (by show ((p + k : Nat) : Int).toNat < S.size; omega)
  rw [e1, e2]
  unfold at_
  rw [← hb2]
  simp
  rfl
def jf (f : Nat → List Int) : Nat → Nat → List Int
 | k, 0 => []
 | k, r + 1 => f k ++ (if r = 0 then [] else [44, 10]) ++ jf f (k + 1) r
theorem jf_JJ (f : Nat → List Int) : ∀ r k, 0 < r → JJ k f ++ jf f k r = joinN (k + r) f
 | 0, k, h => by omega
 | r + 1, k, _ => by
  rw [jf]
  by_cases c : r = 0
  ·subst c
   rw [if_pos rfl, join_JJ, jf]
   simp
  ·rw [if_neg c, ← List.append_assoc, ← List.append_assoc]
   have := jf_JJ f r (k + 1) (by omega)
   rw [JJ_succ] at this
   rw [show k + (r + 1) = k + 1 + r by omega, ← this]
   simp
theorem po_kind {R : au} {b : Nat} {val tl : List Int} {c : Int} (h : PO val) (hA : AtL R b (val ++ (c :: tl))) (hc : c = 44 ∨ c = 10) : (∃ ty str, PKind R b (b + val.length) ty str) ∧ 0 < val.length ∧ ¬ Skip (at_ R b) := by
 obtain ⟨h1, h2⟩ := hA.split
 obtain ⟨h3, h4, _⟩ := h2.head
 have hch : ∀ q, b ≤ q → q < b + val.length → at_ R q = val.getD (q - b) 0 := fun q g1 g2 => by have := h1.2 (q - b) (by omega); rwa [show b + (q - b) = q by omega] at this
 have hmem : ∀ k, k < val.length → val.getD k 0 ∈ val := fun k hk => by rw [List.getD_eq_getElem?_getD, List.getElem?_eq_getElem hk]; exact List.getElem_mem hk
 cases h with
 | str m hm hl =>
  have hlen : (34 :: (m ++ [34])).length = m.length + 2 := by simp
  have e0 : at_ R b = 34 := by rw [hch b (Nat.le_refl _) (by omega), Nat.sub_self]; rfl
  refine ⟨⟨3, _, .inr (.inl ⟨rfl, rfl, by omega, e0, fun q g1 g2 => ?_, ?_⟩)⟩, by omega, by rw [e0]; unfold Skip; omega⟩
  ·rw [hch q (by omega) (by omega)]
   obtain ⟨k, hk⟩ : ∃ k, q - b = k + 1 := ⟨q - b - 1, by omega⟩
   rw [hk, List.getD_cons_succ, List.getD_eq_getElem?_getD, List.getElem?_append_left (by omega), List.getElem?_eq_getElem (by omega)]
   exact (hm _ (List.getElem_mem _)).1
  ·rw [hch _ (by omega) (by omega), show b + (34 :: (m ++ [34])).length - 1 - b = m.length + 1 by omega, List.getD_cons_succ, List.getD_eq_getElem?_getD, List.getElem?_append_right (Nat.le_refl _), Nat.sub_self]
   rfl
 | num d l hd hn hl =>
  have e0 : at_ R b = d := by rw [hch b (Nat.le_refl _) (by simp), Nat.sub_self]; rfl
  have hby : ∀ x ∈ d :: l, By x := fun x hx => by have := hn x hx; unfold NumCh at this; unfold By; omega
  refine ⟨⟨2, _, .inl ⟨rfl, rfl, by rw [e0]; exact hd, fun q g1 g2 => ?_, by rw [h4]; unfold Nums; omega, ?_⟩⟩, by simp, by rw [e0]; unfold Skip; omega⟩
  ·rw [hch q (by omega) (by omega)]
   have := hn _ (hmem (q - b) (by omega))
   unfold NumCh at this
   unfold Nums
   omega
  ·rw [ext_list h1 hby rfl]
   have hs := strOfNums_size (d :: l)
   refine ⟨by rw [hs]; simp only [List.length_cons]; omega, by rw [hs]; simp, fun i g1 g2 => ?_⟩
   have := (at_str hby).2 i.toNat (by omega)
   rw [Nat.zero_add] at this
   unfold at_ at this
   rw [show ((i.toNat : Nat) : Int) = i by omega] at this
   rw [this]
   have hk := hn _ (hmem i.toNat (by omega))
   unfold NumCh at hk
   unfold NumByte
   omega
 | word l hw =>
  have key : ∀ (ty : Int) (f : Int) (m : List Int), val = f :: m → ((ty = 4 ∧ f = 116) ∨ (ty = 1 ∧ f = 102) ∨ (ty = 0 ∧ f = 110 ∧ m.getD 0 0 = 117)) → 0 < m.length → (∀ x ∈ m, 97 ≤ x ∧ x ≤ 122) → (∃ ty str, PKind R b (b + val.length) ty str) ∧ 0 < val.length ∧ ¬ Skip (at_ R b) := by
   intro ty f m hv hty hm0 hm
   have hl : val.length = m.length + 1 := by rw [hv]; rfl
   have e0 : at_ R b = f := by rw [hch b (Nat.le_refl _) (by omega), Nat.sub_self, hv]; rfl
   have e1 : at_ R (b + 1) = m.getD 0 0 := by rw [hch (b + 1) (by omega) (by omega), Nat.add_sub_cancel_left, hv]; rfl
   refine ⟨⟨ty, _, .inr (.inr (.inl ⟨rfl, by rw [e0, e1]; exact hty, fun q g1 g2 => ?_, by rw [h4]; unfold Lits; omega⟩))⟩, by omega, by rw [e0]; unfold Skip; omega⟩
   rw [hch q (by omega) (by omega), hv]
   obtain ⟨k, hk⟩ : ∃ k, q - b = k + 1 := ⟨q - b - 1, by omega⟩
   rw [hk, List.getD_cons_succ, List.getD_eq_getElem?_getD, List.getElem?_eq_getElem (by omega)]
   have := hm _ (List.getElem_mem (l := m) (n := k) (by omega))
   unfold Lits
   simp only [Option.getD_some]
   omega
  rcases hw with rfl | rfl | rfl
  ·exact key 4 116 [114, 117, 101] rfl (.inl ⟨rfl, rfl⟩) (by decide) (by intro x hx; simp at hx; omega)
  ·exact key 1 102 [97, 108, 115, 101] rfl (.inr (.inl ⟨rfl, rfl⟩)) (by decide) (by intro x hx; simp at hx; omega)
  ·exact key 0 110 [117, 108, 108] rfl (.inr (.inr ⟨rfl, rfl, rfl⟩)) (by decide) (by intro x hx; simp at hx; omega)
 | cont o m c2 ho hm hc2 =>
  have e0 : at_ R b = o := by rw [hch b (Nat.le_refl _) (by simp), Nat.sub_self]; rfl
  have hlen : (o :: (m ++ [c2])).length = m.length + 2 := by simp
  refine ⟨⟨5, _, .inr (.inr (.inr ⟨rfl, rfl, by rw [e0]; exact ho, ?_⟩))⟩, by omega, by rw [e0]; unfold Skip; omega⟩
  rw [hlen, ← Nat.add_assoc]
  exact cont_sq hm hc2 h1
theorem str_eq0 {S : au} {p : Nat} {m : List Int} (hm : Nq m) (h : AtL S p (34 :: (m ++ [34]))) : at_ S p = 34 ∧ (∀ q, p < q → q < p + m.length + 1 → at_ S q ≠ 34 ∧ at_ S q ≠ 92) ∧ at_ S (p + m.length + 1) = 34 ∧ S.extract (p + 1) (p + m.length + 1) = strOfNums m := by
 obtain ⟨h0, h1, h2⟩ := h.head
 obtain ⟨h3, h4⟩ := h2.split
 obtain ⟨h5, h6, _⟩ := h4.head
 refine ⟨h1, fun q g1 g2 => ?_, by rw [show p + m.length + 1 = p + 1 + m.length by omega]; exact h6, ext_list h3 (fun c hc => (hm c hc).2) (by omega)⟩
 have := h3.2 (q - (p + 1)) (by omega)
 rw [show p + 1 + (q - (p + 1)) = q by omega] at this
 rw [this]
 refine (hm _ ?_).1
 rw [List.getD_eq_getElem?_getD, List.getElem?_eq_getElem (by omega)]
 exact List.getElem_mem _
def OnName (nm : List Int) : GR × GR → Prop := fun x => x.1.str = strOfNums nm
theorem pa_of {R : au} (hs : R.size ≤ 10000000000) {b e : Nat} {ty : Int} {str : au} (h1 : b < e) (h2 : e < R.size) (hK : PKind R b e ty str) : PA R b (fun ok j g => ok = true ∧ j = (e : Int) ∧ ∀ i : Int, (fun _ : GR => True) { g with idx := i }) := fun w hW =>
 (pany_calls R hs b e ty str w hW h1 h2 hK rfl).mono fun r w' ⟨f, j, hr, hb⟩ => ⟨true, e, ⟨ty, R.extract b e, str, f, j, none, 0, 0⟩, ⟨rfl, rfl, fun _ => trivial⟩, hr, hb⟩
theorem seg_lay {R : au} (hs : R.size ≤ 10000000000) {nm seg tl : List Int} {c : Int} (h : SegS nm seg) {i p : Nat} (hi : i ≤ p) (hq : ∀ q, i ≤ q → q < p → at_ R q ≠ 34) (hA : AtL R p (seg ++ (c :: tl))) (hc : c = 44 ∨ c = 10) {l : List (GR × GR → Prop)} (hl : OLay R (p + seg.length + 1) l) : OLay R i (OnName nm :: l) := by
 obtain ⟨t, val, rfl, h1, h2, h3, h4⟩ := h
 have hA' : AtL R p (t ++ ((34 :: (nm ++ [34])) ++ ([58, 32] ++ (val ++ (c :: tl))))) := by simpa using hA
 obtain ⟨a1, a2⟩ := hA'.split
 obtain ⟨a3, a4⟩ := a2.split
 obtain ⟨a5, a6⟩ := a4.split
 obtain ⟨⟨ty, str, hK⟩, hv0, hsk⟩ := po_kind h4 a6 hc
 have b1 := a3.1
 have b2 := a6.1
 simp only [List.length_cons, List.length_append, List.length_nil] at b1 b2 a5 a6 hK hsk
 have hb : p + t.length + (nm.length + 1 + 1) + 2 = p + t.length + nm.length + 4 := by omega
 have hnm := str_eq0 h2 a3
 obtain ⟨c1, c2, c3, c4⟩ := hnm
 have e58 : at_ R (p + t.length + (nm.length + 1 + 1)) = 58 := a5.head.2.1
 have e32 : at_ R (p + t.length + (nm.length + 1 + 1) + 1) = 32 := a5.head.2.2.head.2.1
 refine .item i (p + t.length) (p + t.length + nm.length + 1) (p + t.length + (nm.length + 1 + 1) + 2) (p + t.length + (nm.length + 1 + 1) + 2 + val.length) (strOfNums nm) _ (fun _ => True) l (by omega) (fun q g1 g2 => ?_) c1 ?_ (by omega) (by omega) (by omega) (fun q g1 g2 => ?_) hsk (pa_of hs (by omega) (by omega) hK) (fun zk v _ => rfl) ?_
 ·by_cases g : q < p
  ·exact hq q g1 g
  ·have := a1.2 (q - p) (by omega)
   rw [show p + (q - p) = q by omega] at this
   rw [this, List.getD_eq_getElem?_getD, List.getElem?_eq_getElem (by omega)]
   have := h1 _ (List.getElem_mem (l := t) (n := q - p) (by omega))
   simp only [Option.getD_some]
   omega
 ·refine ⟨by omega, by omega, false, fun w => ?_, fun h => by simp at h, fun _ => ?_⟩
  ·exact (pstring_calls hs w (by omega) (by omega) c2 c3 rfl).mono fun e w' hh => ⟨hh.1, hh.2.below⟩
  ·exact c4
 ·have : q = p + t.length + (nm.length + 1 + 1) ∨ q = p + t.length + (nm.length + 1 + 1) + 1 := by omega
  rcases this with rfl | rfl
  ·rw [e58]; unfold Skip; omega
  ·rw [e32]; unfold Skip; omega
 ·have : p + t.length + (nm.length + 1 + 1) + 2 + val.length + 1 = p + (t ++ (34 :: (nm ++ [34]) ++ ([58, 32] ++ val))).length + 1 := by simp only [List.length_cons, List.length_append, List.length_nil]; omega
  rw [this]; exact hl
end Go.Proofs.YtmpdhdnoohmndaaGreatDoor.Pr
namespace Go.Proofs.YtmpdhdnoohmndaaGreatDoor.Pr
open Go.RowKit Go.Proofs.YtmpdhdnoohmndaaGreatDoorW.PrintWords Go.Proofs.YtmpdhdnoohmndaaGreatDoorW.PrintLast Go.Proofs.YtmpdhdnoohmndaaGreatDoorW.PrintMore Sp Gj So Dec
set_option linter.unusedVariables false
set_option linter.unusedSimpArgs false
theorem lay_jf {R : au} (hs : R.size ≤ 10000000000) {f nm : Nat → List Int} {tl : List Int} : ∀ (r k i p : Nat), (∀ j, k ≤ j → j < k + r → SegS (nm j) (f j)) → i ≤ p → (∀ q, i ≤ q → q < p → at_ R q ≠ 34) → AtL R p (jf f k r ++ (10 :: tl)) → (∀ q, p + (jf f k r).length ≤ q → q < R.size → at_ R q ≠ 34) → OLay R i ((List.range' k r).map fun j => OnName (nm j))
 | 0, k, i, p, _, h1, h2, h3, h4 => .end_ i fun q g1 g2 => by
  by_cases g : q < p
  ·exact h2 q g1 g
  ·exact h4 q (by show p + 0 ≤ q; omega) g2
 | r + 1, k, i, p, h0, h1, h2, h3, h4 => by
  rw [List.range'_succ, List.map_cons]
  by_cases c : r = 0
  ·subst c
   have e : jf f k 1 = f k := by simp [jf]
   rw [e] at h3 h4
   exact seg_lay hs (h0 k (Nat.le_refl _) (by omega)) h1 h2 h3 (.inr rfl) (.end_ _ fun q g1 g2 => h4 q (by omega) g2)
  ·have e : jf f k (r + 1) = f k ++ (44 :: (10 :: jf f (k + 1) r)) := by rw [jf, if_neg c]; simp
   rw [e] at h3 h4
   have h5 : AtL R p (f k ++ (44 :: (10 :: (jf f (k + 1) r ++ (10 :: tl))))) := by simpa using h3
   refine seg_lay hs (h0 k (Nat.le_refl _) (by omega)) h1 h2 h5 (.inl rfl) ?_
   have h6 := h5.split.2.head.2.2.head
   refine lay_jf hs r (k + 1) _ (p + (f k).length + 2) (fun j g1 g2 => h0 j (by omega) (by omega)) (by omega) (fun q g1 g2 => ?_) h6.2.2 (fun q g1 g2 => h4 q (by simp only [List.length_append, List.length_cons]; omega) g2)
   obtain rfl : q = p + (f k).length + 1 := by omega
   rw [h6.2.1]
   omega
theorem ObjO.by_ {ns : List (List Int)} {out : List Int} (h : ObjO ns out) : ∀ c ∈ out, By c := h.po.lx.by_
theorem obj_lay {ns : List (List Int)} {out : List Int} (h : ObjO ns out) (hs : out.length ≤ 9000000000) : ∃ D : Nat → Nat, OLay (strOfNums (out ++ [10])) 1 ((List.range' 0 ns.length).map fun j => OnName (ns.getD (D j) [])) ∧ Srtd (ltN ns.length (fun i => ns.getD i [])) D 0 ns.length ∧ (∀ i, i < ns.length → D i < ns.length) ∧ at_ (strOfNums (out ++ [10])) 0 = 123 := by
 have hby : ∀ c ∈ out ++ [10], By c := fun c hc => by
  rcases List.mem_append.1 hc with hc | hc
  ·exact h.by_ c hc
  ·obtain rfl := List.mem_singleton.1 hc; unfold By; omega
 have hA := at_str hby
 have hsz := strOfNums_size (out ++ [10])
 have hss : (strOfNums (out ++ [10])).size ≤ 10000000000 := by rw [hsz, List.length_append, List.length_singleton]; omega
 generalize hR : strOfNums (out ++ [10]) = R at hA hsz hss ⊢
 rcases h with ⟨rfl, rfl⟩ | ⟨sg, D, t, h1, rfl, h3, h4, h5, h6⟩
 ·refine ⟨id, .end_ 1 fun q g1 g2 => ?_, fun i j _ _ hj => by simp at hj, fun i hi => by simp at hi, hA.head.2.1⟩
  have h1 := hA.head.2.2.head
  have h2 := h1.2.2.head
  have : q = 1 ∨ q = 2 := by rw [hsz] at g2; simp at g2; omega
  rcases this with rfl | rfl
  ·rw [h1.2.1]; omega
  ·rw [h2.2.1]; omega
 ·have hA2 : AtL R 0 (123 :: (10 :: (joinN ns.length (fun i => sg (D i)) ++ (10 :: (t ++ [125, 10]))))) := by simpa using hA
  have hB := hA2.head.2.2.head
  have hj : joinN ns.length (fun i => sg (D i)) = jf (fun i => sg (D i)) 0 ns.length := by
   have := jf_JJ (fun i => sg (D i)) ns.length 0 h1
   rw [Nat.zero_add] at this
   rw [← this]; rfl
  refine ⟨D, ?_, h6, fun i hi => prm_lt h5 hi, hA2.head.2.1⟩
  have hC := hB.2.2
  refine lay_jf hss (tl := t ++ [125, 10]) (f := fun i => sg (D i)) (nm := fun j => ns.getD (D j) []) ns.length 0 1 2 (fun j _ g2 => h4 _ (prm_lt h5 (by omega))) (by omega) (fun q g1 g2 => ?_) (by rw [← hj]; exact hC) (fun q g1 g2 => ?_)
  ·obtain rfl : q = 1 := by omega
   rw [hB.2.1]; omega
  ·rw [← hj] at g1
   have hD := hC.split.2
   have hz := hD.1
   have hsz2 := hA2.1
   have := hD.2 (q - (2 + (joinN ns.length (fun i => sg (D i))).length)) (by
    rw [hsz] at g2
    simp only [List.length_cons, List.length_append, List.length_nil] at g2 ⊢
    omega)
   rw [show 0 + 1 + 1 + (joinN ns.length (fun i => sg (D i))).length + (q - (2 + (joinN ns.length (fun i => sg (D i))).length)) = q by omega] at this
   rw [this]
   have hm : ∀ (l : List Int) (k : Nat), (∀ c ∈ l, c ≠ 34) → l.getD k 0 ≠ 34 := by
    intro l k hl
    rw [List.getD_eq_getElem?_getD]
    by_cases g : k < l.length
    ·rw [List.getElem?_eq_getElem g]; exact hl _ (List.getElem_mem g)
    ·rw [List.getElem?_eq_none (by omega)]; simp
   refine hm _ _ fun c hc => ?_
   simp only [List.mem_cons, List.mem_append, List.not_mem_nil, or_false] at hc
   rcases hc with rfl | hc | rfl | rfl
   ·omega
   ·have := h3 c hc; omega
   ·omega
   ·omega
theorem told_len {n : Nat} {ps : List (GR × GR → Prop)} {L : List (GR × GR)} (h : Gj.Told (fun _ => true) n ps L) : L.length = ps.length ∧ ∀ i (hi : i < L.length) (hi' : i < ps.length), ps[i] L[i] := by
 induction h with
 | done n => exact ⟨rfl, fun i hi => by simp at hi⟩
 | stop n P ps x h1 h2 => cases h2
 | more n P ps x xs h1 h2 h3 ih =>
  refine ⟨by simp [ih.1], fun i hi hi' => ?_⟩
  cases i with
  | zero => exact h1
  | succ i => exact ih.2 i (by simp at hi; omega) (by simp at hi'; omega)
theorem sorted_items {ns : List (List Int)} {out : List Int} {pre : au} (h : ObjO ns out) (hp : Ind pre) (hs : out.length ≤ 3500000000) (hn : ns.length ≤ 1000000) (w : World) (hW : Wok w) :
  Calls Tryz.prog 9 #[.string (strOfNums (bytesOf pre ++ out ++ [10]))] w fun e w' => ∃ (v : Value) (L : List (GR × GR)), e = .returned v ∧ L.length = ns.length ∧ (∀ i (hi : i + 1 < L.length), Op.bytesLess (L[i]'(by omega)).1.str.toList (L[i + 1]'hi).1.str.toList = true) ∧ k41.R 40 w' w.heap.size (fun _ => True) v (L.map toS) ∧ Below w.heap.size w w' := by
 obtain ⟨D, hL, hS, hD, h0⟩ := obj_lay h (by omega)
 have hpl : (bytesOf pre).length = pre.size := bytesOf_length pre
 have hpb : ∀ c ∈ bytesOf pre, By c := fun c hc => by have := hp.1 c hc; unfold By; omega
 have hby : ∀ c ∈ out ++ [10], By c := fun c hc => by
  rcases List.mem_append.1 hc with hc | hc
  ·exact h.by_ c hc
  ·obtain rfl := List.mem_singleton.1 hc; unfold By; omega
 have hA : AtL (strOfNums (bytesOf pre ++ out ++ [10])) 0 (bytesOf pre ++ (out ++ [10])) := by
  rw [List.append_assoc]
  exact at_str fun c hc => (List.mem_append.1 hc).elim (hpb c) (hby c)
 have hsz := strOfNums_size (bytesOf pre ++ out ++ [10])
 simp only [List.length_append, List.length_singleton] at hsz
 have hA2 := hA.split.2
 rw [Nat.zero_add] at hA2
 have hR := ext_list (q := (strOfNums (bytesOf pre ++ out ++ [10])).size) hA2 hby (by rw [hsz, List.length_append, List.length_singleton]; omega)
 have hv : at_ (strOfNums (bytesOf pre ++ out ++ [10])) (bytesOf pre).length = 123 := by
  obtain ⟨l, hl⟩ : ∃ l, out = 123 :: l := by rcases h with ⟨_, rfl⟩ | ⟨_, _, _, _, rfl, _⟩ <;> exact ⟨_, rfl⟩
  rw [hl] at hA2 ⊢
  exact hA2.head.2.1
 refine (items_calls _ _ (bytesOf pre).length _ w hW (by rw [hsz]; have := hp.2; omega) (by rw [hsz]; omega) hv hR (fun q hq => ?_) hL (by simp; exact hn)).mono ?_
 ·have := hA.split.1.2 q hq
  rw [Nat.zero_add] at this
  rw [this, List.getD_eq_getElem?_getD, List.getElem?_eq_getElem hq]
  have := hp.1 _ (List.getElem_mem hq)
  simp only [Option.getD_some]
  omega
 ·rintro e w' ⟨v, L, hT, rfl, hv, hb⟩
  obtain ⟨t1, t2⟩ := told_len hT
  rw [List.length_map, List.length_range'] at t1
  refine ⟨v, L, rfl, t1, fun i hi => ?_, hv, hb⟩
  have key : ∀ j (hj : j < L.length), (L[j]).1.str = strOfNums (ns.getD (D j) []) := fun j hj => by
   have := t2 j hj (by rw [List.length_map, List.length_range']; omega)
   rw [List.getElem_map, List.getElem_range'] at this
   simpa [OnName] using this
  rw [key i (by omega), key (i + 1) hi]
  have := hS i (i + 1) (Nat.zero_le _) (by omega) (by omega)
  unfold ltN at this
  rw [if_pos ⟨hD i (by omega), hD (i + 1) (by omega)⟩] at this
  exact this
end Go.Proofs.YtmpdhdnoohmndaaGreatDoor.Pr

import Derived.Test.YtmpdhdnoohmndaaGreatDoorPlc
import Derived.Test.YtmpdhdnoohmndaaGreatDoorUtf
import Derived.Test.YtmpdhdnoohmndaaGreatDoorSpx7
import Derived.Test.YtmpdhdnoohmndaaGreatDoorSpx8
import Derived.Test.YtmpdhdnoohmndaaGreatDoorLr8
namespace Go.Proofs.YtmpdhdnoohmndaaGreatDoor.Gj
open Go.RowKit Go.Proofs.YtmpdhdnoohmndaaGreatDoorW.PrintWords Go.Proofs.YtmpdhdnoohmndaaGreatDoorW.PrintLast Go.Proofs.YtmpdhdnoohmndaaGreatDoorW.PrintMore Sp Dec
set_option linter.unusedVariables false
set_option linter.unusedSimpArgs false
set_option maxRecDepth 100000
theorem wp1 {i : Nat} (h : i ≤ 10000000000) : wrap64 ((i : Int) + 1) = ((i + 1 : Nat) : Int) := by unfold wrap64; omega
theorem blank_num {c : Int} (h : isBlank c) : ¬ NumCh c := by unfold isBlank at h; unfold NumCh; omega
def Rest (s : au) (j : Int) : Prop := ∀ q, j ≤ q → q < s.size → isBlank (bt s q)
theorem places_inv {s : au} (hn : Small s) {D k : Nat} {kd b j : Int} {ns : List S93} {ks : List S31} (h : places (aH.at_ (D + 1)) k s = some (kd, b, j, ns, ks, true)) :
  0 ≤ b ∧ Blanks s 0 b ∧ b < j ∧ j ≤ s.size ∧ Rest s j ∧ ValO (aH.at_ (D - 1)) s kd b j ns ks ∧ VR (aH.at_ (D + 1)) s ⟨kd, b, j, ns, ks⟩ := by
 unfold places at h
 obtain ⟨⟨s1, a1⟩, h1, h⟩ := an h
 obtain ⟨rfl, hB⟩ := blanks_inv s hn k 0 s1 a1 (by omega) (by omega) h1
 obtain ⟨⟨v1, v2, v3, v4, v5, v6, v7, v8⟩, h2, h⟩ := an h
 simp only at h h2
 split at h
 case isFalse => cases h
 rename_i hv
 subst hv
 obtain ⟨⟨c1, c2⟩, h3, h⟩ := an h
 simp only at h
 split at h
 case isFalse => cases h
 rename_i hc
 simp only [al, am] at h
 obtain ⟨rfl, rfl, rfl, rfl, rfl, _⟩ := h
 obtain ⟨e1, e2, e3, g1, g2, g3⟩ := value_known hn D k a1 v1 v2 v3 v4 v5 v7 v8 (by have := hB.1; omega) hB.2.1 h2
 subst e1 e2 e3
 obtain ⟨_, hB2⟩ := blanks_inv v7 hn k v8 c1 c2 (by have := hB.1; omega) g2 h3
 have hb1 := hB.1
 refine ⟨hB.1, hB, g1, g2, fun q a b => hB2.2.2 q a (by omega), g3, by show 0 ≤ v2; omega, k, h2⟩
theorem kids_len {V : aG} {s : au} {ks : List S31} {i j : Int} (h : Sp.Kids V s ks i j) : (ks.length : Int) ≤ j - i := by
 induction h with
 | last p i r h1 h2 h3 h4 h5 h6 => have := h4.1; simp; omega
 | more p i r t j ks h1 h2 h3 h4 h5 h6 h7 h8 ih => have := h4.1; have := h7.1; simp; omega
theorem mems_len {V : aG} {s : au} {ns : List S93} {ks : List S31} {i j : Int} (h : Sp.Mems V s ns ks i j) : (ks.length : Int) ≤ j - i ∧ ns.length = ks.length := by
 induction h with
 | last nm p i c r h1 h2 h3 h4 h5 h6 h7 h8 h9 h10 h11 => have := h2.2.1; have := h3.1; have := h6.1; have := h9.1; simp; omega
 | more nm p i c r t j ns ks h1 h2 h3 h4 h5 h6 h7 h8 h9 h10 h11 h12 h13 ih => have := h2.2.1; have := h3.1; have := h6.1; have := h9.1; have := h12.1; have := ih.1; have := ih.2; simp; omega
theorem upk {α : Type} {f : Nat → Option α} (hm : ∀ k, LeO (f k) (f (k + 1))) {k : Nat} {r : α} (h : f k = some r) : ∀ n, f (k + n) = some r
 | 0 => h
 | n + 1 => hm (k + n) r (upk hm h n)
theorem unik {α : Type} {f : Nat → Option α} (hm : ∀ k, LeO (f k) (f (k + 1))) {k k' : Nat} {r r' : α} (h : f k = some r) (h' : f k' = some r') : r = r' := by
 have a := upk hm h k'
 have b := upk hm h' k
 rw [show k' + k = k + k' by omega, a] at b
 exact ar b
theorem bound {α : Type} {P : α → Nat → Prop} : ∀ (l : List α), (∀ x ∈ l, ∃ K, ∀ n, P x (K + n)) → ∃ K, ∀ x ∈ l, ∀ n, P x (K + n)
 | [], _ => ⟨0, fun x h => by simp at h⟩
 | a :: l, h => by
  obtain ⟨K1, h1⟩ := bound l (fun x hx => h x (List.mem_cons_of_mem _ hx))
  obtain ⟨K2, h2⟩ := h a (List.mem_cons_self ..)
  refine ⟨K1 + K2, fun x hx n => ?_⟩
  rcases List.mem_cons.1 hx with rfl | hx
  ·rw [show K1 + K2 + n = K2 + (K1 + n) by omega]; exact h2 _
  ·rw [show K1 + K2 + n = K1 + (K2 + n) by omega]; exact h1 x hx _
open Classical in
noncomputable def unqO (s : au) (a b : Int) : au := if h : ∃ o, ∃ k, aW.f k (s.extract a.toNat b.toNat) = some o then h.choose else ⟨#[]⟩
theorem unqO_eq {s : au} {a b : Int} {k : Nat} {o : au} (h : aW.f k (s.extract a.toNat b.toNat) = some o) : unqO s a b = o := by
 have hx : ∃ o, ∃ k, aW.f k (s.extract a.toNat b.toNat) = some o := ⟨o, k, h⟩
 unfold unqO
 rw [dif_pos hx]
 obtain ⟨k', hk⟩ := hx.choose_spec
 exact unik (f := fun k => aW.f k (s.extract a.toNat b.toNat)) (fun k => aW.mono _ k) hk h
theorem unqO_up {s : au} {a b : Int} {k : Nat} {o : au} (h : aW.f k (s.extract a.toNat b.toNat) = some o) (n : Nat) : aW.f (k + n) (s.extract a.toNat b.toNat) = some (unqO s a b) := by
 rw [unqO_eq h]
 exact upk (f := fun k => aW.f k (s.extract a.toNat b.toNat)) (fun k => aW.mono _ k) h n
def Ends (s : au) (j : Int) : Prop := j < s.size ∧ ¬ NumCh (bt s j)
theorem ends_of {s : au} {e r c : Int} (h : Blanks s e r) (hr : r < s.size) (hc : bt s r = c) (hn : ¬ NumCh c) : Ends s e := by
 have h1 := h.1
 refine ⟨by omega, ?_⟩
 by_cases he : e = r
 ·rw [he, hc]; exact hn
 ·exact blank_num (h.2.2 e (Int.le_refl _) (by omega))
def NmOK (s : au) (x : S93) : Prop := 0 ≤ x.f0 ∧ x.f0 ≤ x.f1 ∧ x.f1 ≤ s.size ∧ (∃ K, ∀ n, aW.f (K + n) (s.extract x.f0.toNat x.f1.toNat) = some (unqO s x.f0 x.f1)) ∧ StrSeg (bytesOf s) x.f0 x.f1 ∧ Ends s x.f1 ∧ PairedAt s x.f0
def KdOK (V : aG) (s : au) (p : S31) : Prop := VR V s p ∧ PairedAt s p.f1 ∧ p.f1 < p.f2 ∧ p.f2 ≤ s.size ∧ Ends s p.f2
section
variable {s : au} (hn : Small s)
include hn
theorem kids_each {V : aG} (hV : LexV V s) {ks : List S31} {i j : Int} (h : Sp.Kids V s ks i j) : PairedAt s i → ∀ p ∈ ks, KdOK V s p := by
 induction h with
 | last p i r h1 h2 h3 h4 h5 h6 =>
  intro hp q hq
  simp only [List.mem_singleton] at hq
  subst hq h2
  exact ⟨h1, hp, h3, by have := h4.1; omega, ends_of h4 h5 h6 (by unfold NumCh; omega)⟩
 | more p i r t j ks h1 h2 h3 h4 h5 h6 h7 h8 ih =>
  intro hp q hq
  subst h2
  have h41 := h4.1
  have h0 := h1.1
  have hL := hV p h1 (by omega)
  have p1 := (h4.lex (by omega)).paired hn (hL.paired hn hp)
  have p2 := PairedAt.plain hn p1 (by omega) h5 (by omega)
  rcases List.mem_cons.1 hq with rfl | hq
  ·exact ⟨h1, hp, h3, by omega, ends_of h4 h5 h6 (by unfold NumCh; omega)⟩
  ·exact ih ((h7.lex (by omega)).paired hn p2) q hq
theorem mems_each {V : aG} (hV : LexV V s) {ns : List S93} {ks : List S31} {i j : Int} (h : Sp.Mems V s ns ks i j) : 0 ≤ i → PairedAt s i → (∀ p ∈ ks, KdOK V s p) ∧ ∀ x ∈ ns, NmOK s x := by
 induction h with
 | last nm p i c r h1 h2 h3 h4 h5 h6 h7 h8 h9 h10 h11 =>
  intro hi hp
  have hb3 := h3.1
  have hb6 := h6.1
  have hb9 := h9.1
  have hlt := h2.2.1
  have h0 := h7.1
  obtain ⟨o, hI, hp1, k, hu⟩ := seg_unq hn hi h2 hp
  have hp2 := PairedAt.plain hn ((h3.lex (by omega)).paired hn hp1) (by omega) h4 (by omega)
  have hp3 := (h6.lex (by omega)).paired hn hp2
  subst h1
  refine ⟨fun q hq => ?_, fun q hq => ?_⟩
  ·simp only [List.mem_singleton] at hq
   subst hq
   exact ⟨h7, hp3, h8, by omega, ends_of h9 h10 h11 (by unfold NumCh; omega)⟩
  ·simp only [List.mem_singleton] at hq
   subst hq
   exact ⟨hi, by omega, by omega, ⟨k, unqO_up hu⟩, h2, ends_of h3 h4 h5 (by unfold NumCh; omega), hp⟩
 | more nm p i c r t j ns ks h1 h2 h3 h4 h5 h6 h7 h8 h9 h10 h11 h12 h13 ih =>
  intro hi hp
  have hb3 := h3.1
  have hb6 := h6.1
  have hb9 := h9.1
  have hb12 := h12.1
  have hlt := h2.2.1
  have h0 := h7.1
  obtain ⟨o, hI, hp1, k, hu⟩ := seg_unq hn hi h2 hp
  have hp2 := PairedAt.plain hn ((h3.lex (by omega)).paired hn hp1) (by omega) h4 (by omega)
  have hp3 := (h6.lex (by omega)).paired hn hp2
  have hL := hV p h7 (by omega)
  have p1 := (h9.lex (by omega)).paired hn (hL.paired hn hp3)
  have p2 := PairedAt.plain hn p1 (by omega) h10 (by omega)
  obtain ⟨i1, i2⟩ := ih (by omega) ((h12.lex (by omega)).paired hn p2)
  subst h1
  refine ⟨fun q hq => ?_, fun q hq => ?_⟩
  ·rcases List.mem_cons.1 hq with rfl | hq
   ·exact ⟨h7, hp3, h8, by omega, ends_of h9 h10 h11 (by unfold NumCh; omega)⟩
   ·exact i1 q hq
  ·rcases List.mem_cons.1 hq with rfl | hq
   ·exact ⟨hi, by omega, by omega, ⟨k, unqO_up hu⟩, h2, ends_of h3 h4 h5 (by unfold NumCh; omega), hp⟩
   ·exact i2 q hq
theorem valo_each {V : aG} (hV : LexV V s) {kd i j : Int} {ns : List S93} {ks : List S31} (h : ValO V s kd i j ns ks) (h0 : 0 ≤ i) (h1 : i < s.size) (h2 : j ≤ s.size) (hp : PairedAt s i) :
  (∀ p ∈ ks, KdOK V s p) ∧ (∀ x ∈ ns, NmOK s x) ∧ (ks.length : Int) ≤ s.size ∧ (ns.length : Int) ≤ s.size ∧ (kd = 6 → ns.length = ks.length) ∧ (kd = 4 → ∃ K, ∀ n, aW.f (K + n) (s.extract i.toNat j.toNat) = some (unqO s i j)) := by
 rcases h with ⟨rfl, hc, hm⟩ | ⟨rfl, rfl, hc, hm⟩ | ⟨rfl, rfl, rfl, hS⟩ | ⟨rfl, rfl, rfl, _⟩ | ⟨rfl, rfl, _, hw⟩
 ·have hp1 := PairedAt.plain hn hp h0 h1 (by omega)
  rcases hm with ⟨rfl, rfl, _⟩ | ⟨p, hb, hm⟩
  ·exact ⟨by simp, by simp, by simp, by simp, fun _ => rfl, by omega⟩
  ·have hb1 := hb.1
   obtain ⟨a1, a2⟩ := mems_each hn hV hm (by omega) ((hb.lex (by omega)).paired hn hp1)
   obtain ⟨l1, l2⟩ := mems_len hm
   exact ⟨a1, a2, by omega, by omega, fun _ => l2, by omega⟩
 ·have hp1 := PairedAt.plain hn hp h0 h1 (by omega)
  rcases hm with ⟨rfl, _⟩ | ⟨p, hb, hm⟩
  ·exact ⟨by simp, by simp, by simp, by simp, fun _ => rfl, by omega⟩
  ·have hb1 := hb.1
   have l1 := kids_len hm
   exact ⟨kids_each hn hV hm ((hb.lex (by omega)).paired hn hp1), by simp, by omega, by simp, by omega, by omega⟩
 ·obtain ⟨o, hI, hp1, k, hu⟩ := seg_unq hn h0 hS hp
  exact ⟨by simp, by simp, by simp, by simp, by omega, fun _ => ⟨k, unqO_up hu⟩⟩
 ·exact ⟨by simp, by simp, by simp, by simp, by omega, by omega⟩
 ·exact ⟨by simp, by simp, by simp, by simp, by omega, by omega⟩
end
theorem getD_at {α : Type} (z : α) (l : List α) (q : Nat) (h : q < l.length) : l.getD ((q : Int)).toNat z = l[q] := by
 rw [List.getD_eq_getElem?_getD]
 simp [h]
open Classical in
noncomputable def treeO (s : au) (p : S31) : S25 := if h : ∃ r : S25, ∃ K, aU.f K s p.f0 p.f1 p.f2 p.f3 p.f4 = some (r.f0, r.f1, r.f2, r.f3) then h.choose else ⟨0, ⟨#[]⟩, [], []⟩
theorem eta25 (t : S25) : (⟨t.f0, t.f1, t.f2, t.f3⟩ : S25) = t := by cases t; rfl
theorem treeO_eq {s : au} {p : S31} {K : Nat} {r0 : Int} {r1 : au} {r2 : List au} {r3 : List S25} (h : aU.f K s p.f0 p.f1 p.f2 p.f3 p.f4 = some (r0, r1, r2, r3)) : treeO s p = ⟨r0, r1, r2, r3⟩ := by
 have hx : ∃ r : S25, ∃ K, aU.f K s p.f0 p.f1 p.f2 p.f3 p.f4 = some (r.f0, r.f1, r.f2, r.f3) := ⟨⟨r0, r1, r2, r3⟩, K, h⟩
 unfold treeO
 rw [dif_pos hx]
 obtain ⟨K', hk⟩ := hx.choose_spec
 have := unik (f := fun k => aU.f k s p.f0 p.f1 p.f2 p.f3 p.f4) (fun k => aU.mono _ _ _ _ _ _ k) hk h
 simp only [am] at this
 obtain ⟨e0, e1, e2, e3⟩ := this
 rw [← eta25 hx.choose, e0, e1, e2, e3]
def TreeOK (s : au) (p : S31) (k : Nat) : Prop := aU.f k s p.f0 p.f1 p.f2 p.f3 p.f4 = some ((treeO s p).f0, (treeO s p).f1, (treeO s p).f2, (treeO s p).f3)
structure TreeIs (s : au) (p : S31) : Prop where
 f0 : (treeO s p).f0 = p.f0
 f1 : p.f0 = 4 → (treeO s p).f1 = unqO s p.f1 p.f2
 f2 : (treeO s p).f2 = p.f3.map (fun x => unqO s x.f0 x.f1)
 f3 : (treeO s p).f3 = p.f4.map (treeO s)
 f5 : p.f0 ≠ 3 → p.f0 ≠ 4 → (treeO s p).f1 = ⟨#[]⟩
theorem tree_ok {s : au} {p : S31} {K : Nat} {t : au} (h : aU.f K s p.f0 p.f1 p.f2 p.f3 p.f4 = some (p.f0, t, p.f3.map (fun x => unqO s x.f0 x.f1), p.f4.map (treeO s))) (h4 : p.f0 = 4 → t = unqO s p.f1 p.f2) (h5 : p.f0 ≠ 3 → p.f0 ≠ 4 → t = ⟨#[]⟩) : TreeIs s p ∧ TreeOK s p K := by
 have e := treeO_eq h
 refine ⟨⟨congrArg S25.f0 e, fun h => (congrArg S25.f1 e).trans (h4 h), congrArg S25.f2 e, congrArg S25.f3 e, fun h1 h2 => (congrArg S25.f1 e).trans (h5 h1 h2)⟩, ?_⟩
 unfold TreeOK
 rw [congrArg S25.f0 e, congrArg S25.f1 e, congrArg S25.f2 e, congrArg S25.f3 e]
 exact h
def UnqOK (s : au) (x : S93) (k : Nat) : Prop := aW.f k (s.extract x.f0.toNat x.f1.toNat) = some (unqO s x.f0 x.f1)
section
variable {s : au} {ks : List S31} {ns : List S93} {K : Nat}
theorem tree_l1 (hK : ∀ p ∈ ks, ∀ n, TreeOK s p (K + n)) (a b c : Int) (y0 : Int) (y1 : au) (y2 : List au) (hl : ks.length ≤ 1000000) : ∀ (d q k : Nat) (acc : List S25), q + d = ks.length → acc.length + d ≤ 1048576 → K + d + 1 ≤ k → aU.l1 k s (q : Int) a b c ns ks y0 y1 y2 acc = some (y0, y1, y2, acc ++ (ks.drop q).map (treeO s))
 | d, q, 0, acc, _, _, hk => by omega
 | 0, q, k + 1, acc, hq, _, hk => by
  simp only [aU.l1]
  rw [if_neg (by omega), List.drop_eq_nil_of_le (by omega), List.map_nil, List.append_nil]
 | d + 1, q, k + 1, acc, hq, ha, hk => by
  have e := hK ks[q] (List.getElem_mem (by omega)) (k - K)
  unfold TreeOK at e
  rw [show K + (k - K) = k by omega] at e
  simp only [aU.l1]
  rw [if_pos (by omega), if_pos (by omega), show rd_T31 ks (q : Int) = ks[q] from getD_at _ _ _ (by omega), e]
  simp only [ak]
  rw [if_pos (by omega), wp1 (by omega)]
  rw [tree_l1 hK a b c y0 y1 y2 hl d (q + 1) k _ (by omega) (by simp; omega) (by omega), List.append_assoc, List.drop_eq_getElem_cons (show q < ks.length by omega), eta25]
  rfl
theorem tree_l0 (hK : ∀ p ∈ ks, ∀ n, TreeOK s p (K + n)) (hN : ∀ x ∈ ns, NmOK s x) (hU : ∀ x ∈ ns, ∀ n, aW.f (K + n) (s.extract x.f0.toNat x.f1.toNat) = some (unqO s x.f0 x.f1)) (a b c : Int) (y0 : Int) (y1 : au) (hl : ks.length ≤ 1000000) (hl2 : ns.length ≤ 1000000) :
  ∀ (d q k : Nat) (acc : List au), q + d = ns.length → acc.length + d ≤ 1048576 → K + d + ks.length + 2 ≤ k → aU.l0 k s (q : Int) a b c ns ks y0 y1 acc = some (y0, y1, acc ++ (ns.drop q).map (fun x => unqO s x.f0 x.f1), ks.map (treeO s))
 | d, q, 0, acc, _, _, hk => by omega
 | 0, q, k + 1, acc, hq, _, hk => by
  simp only [aU.l0]
  rw [if_neg (by omega)]
  rw [List.drop_eq_nil_of_le (by omega), List.map_nil, List.append_nil]
  have := tree_l1 (ns := ns) hK a b c y0 y1 acc (by omega) ks.length 0 k [] (by omega) (by simp; omega) (by omega)
  rw [List.drop_zero, List.nil_append] at this
  exact this
 | d + 1, q, k + 1, acc, hq, ha, hk => by
  have hx := hN ns[q] (List.getElem_mem (by omega))
  have e := hU ns[q] (List.getElem_mem (by omega)) (k - K)
  rw [show K + (k - K) = k by omega] at e
  obtain ⟨x0, x1, x2, _⟩ := hx
  simp only [aU.l0]
  rw [if_pos (by omega), if_pos (by omega), show rd_T93 ns (q : Int) = ns[q] from getD_at _ _ _ (by omega), if_pos x0, if_pos x1, if_pos x2, e]
  simp only [ak]
  rw [if_pos (by omega), wp1 (by omega)]
  have h := tree_l0 hK hN hU a b c y0 y1 hl hl2 d (q + 1) k (acc ++ [unqO s ns[q].f0 ns[q].f1]) (by omega) (by simp; omega) (by omega)
  rw [h, List.append_assoc]
  congr 4
  rw [List.drop_eq_getElem_cons (show q < ns.length by omega)]
  rfl
end
theorem tree_up {s : au} {p : S31} {k : Nat} (h : TreeOK s p k) (n : Nat) : TreeOK s p (k + n) := upk (f := fun k => aU.f k s p.f0 p.f1 p.f2 p.f3 p.f4) (fun k => aU.mono _ _ _ _ _ _ k) h n
theorem tree_j0 {s : au} (hn : Small s) {p : S31} (hk : p.f4.length ≤ 1000000) (hl : p.f3.length ≤ 1000000) (hN : ∀ x ∈ p.f3, NmOK s x) {K1 K2 : Nat} (hK1 : ∀ q ∈ p.f4, ∀ n, TreeOK s q (K1 + n)) (hK2 : ∀ x ∈ p.f3, ∀ n, aW.f (K2 + n) (s.extract x.f0.toNat x.f1.toNat) = some (unqO s x.f0 x.f1)) (y1 : au) :
  ∃ K, ∀ n, aU.j0 (K + n) s p.f0 p.f1 p.f2 p.f3 p.f4 p.f0 y1 = some (p.f0, y1, p.f3.map (fun x => unqO s x.f0 x.f1), p.f4.map (treeO s)) := by
 obtain ⟨kd, a, b, ns, ks⟩ := p
 simp only at *
 have hA : ∀ q ∈ ks, ∀ n, TreeOK s q (K1 + K2 + n) := fun q hq n => by rw [Nat.add_assoc]; exact hK1 q hq _
 have hB : ∀ x ∈ ns, ∀ n, aW.f (K1 + K2 + n) (s.extract x.f0.toNat x.f1.toNat) = some (unqO s x.f0 x.f1) := fun x hx n => by rw [Nat.add_comm K1 K2, Nat.add_assoc]; exact hK2 x hx _
 obtain ⟨M, hM⟩ : ∃ M, K1 + K2 + ns.length + ks.length + 2 = M := ⟨_, rfl⟩
 have h := tree_l0 (K := K1 + K2) hA hN hB kd a b kd y1 hk hl ns.length 0 M [] (Nat.zero_add _) (by simp; omega) (by omega)
 refine ⟨M + 1, fun n => ?_⟩
 have hm : ∀ k, LeO (aU.l0 k s ((0 : Nat) : Int) kd a b ns ks kd y1 []) (aU.l0 (k + 1) s ((0 : Nat) : Int) kd a b ns ks kd y1 []) := fun k => (aU.mono_l k).2.2.1 _ _ _ _ _ _ _ _ _ _
 have h2 := upk (f := fun k => aU.l0 k s ((0 : Nat) : Int) kd a b ns ks kd y1 []) hm h n
 rw [List.drop_zero, List.nil_append] at h2
 rw [show M + 1 + n = (M + n) + 1 by omega]
 rw [aU.j0]
 exact h2
theorem tree_of {s : au} (hn : Small s) {p : S31} (h0 : 0 ≤ p.f1) (h1 : p.f1 ≤ p.f2) (h2 : p.f2 ≤ s.size) (hk : (p.f4.length : Int) ≤ 1000000) (hl : (p.f3.length : Int) ≤ 1000000) (hN : ∀ x ∈ p.f3, NmOK s x) (hT : ∀ q ∈ p.f4, ∃ K, ∀ n, TreeOK s q (K + n))
  (h4 : p.f0 = 4 → ∃ K, ∀ n, aW.f (K + n) (s.extract p.f1.toNat p.f2.toNat) = some (unqO s p.f1 p.f2)) : TreeIs s p ∧ ∃ K, TreeOK s p K := by
 have hb1 : ∃ K1, ∀ q ∈ p.f4, ∀ n, TreeOK s q (K1 + n) := bound (P := TreeOK s) p.f4 hT
 have hN2 : ∀ x ∈ p.f3, ∃ K, ∀ n, UnqOK s x (K + n) := fun x hx => by
  obtain ⟨_, _, _, h, _⟩ := hN x hx
  exact h
 have hb2 : ∃ K2, ∀ x ∈ p.f3, ∀ n, UnqOK s x (K2 + n) := bound (P := UnqOK s) p.f3 hN2
 obtain ⟨K1, hK1⟩ := hb1
 obtain ⟨K2, hK2⟩ := hb2
 have hj := tree_j0 hn (p := p) (by omega) (by omega) hN hK1 hK2
 obtain ⟨kd, a, b, ns, ks⟩ := p
 simp only at *
 have fin : ∀ (K : Nat) (t : au), aU.f K s kd a b ns ks = some (kd, t, ns.map (fun x => unqO s x.f0 x.f1), ks.map (treeO s)) → (kd = 4 → t = unqO s a b) → (kd ≠ 3 → kd ≠ 4 → t = ⟨#[]⟩) → TreeIs s ⟨kd, a, b, ns, ks⟩ ∧ ∃ K, TreeOK s ⟨kd, a, b, ns, ks⟩ K := fun K t h h4 h5 => by
  obtain ⟨e1, e2⟩ := tree_ok (p := ⟨kd, a, b, ns, ks⟩) h h4 h5
  exact ⟨e1, K, e2⟩
 by_cases c3 : kd = 3
 ·obtain ⟨K, h⟩ := hj (s.extract a.toNat b.toNat)
  have h := h 0
  rw [Nat.add_zero] at h
  refine fin (K + 1) (s.extract a.toNat b.toNat) ?_ (by omega) (fun h => absurd c3 h)
  rw [aU.f, if_pos c3, if_pos h0, if_pos h1, if_pos h2]
  exact h
 ·by_cases c4 : kd = 4
  ·obtain ⟨K3, hu⟩ := h4 c4
   obtain ⟨K, h⟩ := hj (unqO s a b)
   have h := h K3
   have hu := hu K
   rw [Nat.add_comm] at hu
   refine fin (K + K3 + 1) (unqO s a b) ?_ (fun _ => rfl) (fun _ h => absurd c4 h)
   rw [aU.f, if_neg c3, if_pos c4, if_pos h0, if_pos h1, if_pos h2, hu, ak]
   exact h
  ·obtain ⟨K, h⟩ := hj ⟨#[]⟩
   have h := h 0
   rw [Nat.add_zero] at h
   refine fin (K + 1) ⟨#[]⟩ ?_ (fun h => absurd h c4) (fun _ _ => rfl)
   rw [aU.f, if_neg c3, if_neg c4]
   exact h
theorem tree_tot {s : au} (hn : Small s) (hs : s.size ≤ 65536) : ∀ (D : Nat) (p : S31), VR (aH.at_ D) s p → PairedAt s p.f1 → p.f1 < p.f2 → p.f2 ≤ s.size → TreeIs s p ∧ ∃ K, TreeOK s p K := by
 intro D
 induction D using Nat.strongRecOn with
 | _ D ih =>
 rintro p ⟨h0, k, h⟩ hp hlt hle
 cases D with
 | zero => cases h
 | succ D =>
  obtain ⟨_, _, _, g1, g2, g3⟩ := value_known hn D k p.f1 p.f0 p.f1 p.f2 p.f3 p.f4 s p.f2 h0 (by omega) h
  obtain ⟨e1, e2, e3, e4, e5, e6⟩ := valo_each hn (value_lex hn (D - 1)) g3 h0 (by omega) g2 hp
  refine tree_of hn h0 (by omega) hle (by omega) (by omega) e2 (fun q hq => ?_) e6
  obtain ⟨a1, a2, a3, a4, _⟩ := e1 q hq
  obtain ⟨_, K, hK⟩ := ih (D - 1) (by omega) q a1 a2 a3 a4
  exact ⟨K, fun n => tree_up hK n⟩
def V_pl (D : Nat) : cO where
 f := fun k s => places (aH.at_ (D + 1)) k s
 mono := fun a0 k => by
  unfold places
  refine LeO.bind (aA.mono _ _ _) (fun b => LeO.bind ((aH.at_ (D + 1)).mono _ _ _) (fun v => LeO.ite (LeO.bind (aA.mono _ _ _) (fun c => LeO.refl _)) (LeO.refl _)))
 calls := fun k s r1 r2 r3 r4 r5 r6 w h => places_calls _ k s w r1 r2 r3 r4 r5 r6 h
theorem places_tot {s : au} (hn : Small s) : ∃ D K r, 1 ≤ D ∧ ∀ n, (V_pl D).f (K + n) s = some r := by
 obtain ⟨j, hb, h1, h2⟩ := blanks_t s hn (s.size + 20) 0 (by omega) (by omega) (by omega)
 have hT := (reader_tots hn (2 * s.size + 1 + 1)).1
 obtain ⟨kd, ns, ks, ok, j2, hv, h3, h4, h5⟩ := hT (s.size + 20) j (by omega) h2 (by omega) (by omega)
 have : ∃ r, (V_pl (2 * s.size + 1)).f (s.size + 20) s = some r := by
  show ∃ r, places _ _ s = some r
  unfold places
  rw [hb]
  simp only [ak]
  rw [hv]
  simp only [ak]
  cases ok with
  | false => exact ⟨_, rfl⟩
  | true =>
   obtain ⟨j3, hb3, _, _⟩ := blanks_t s hn (s.size + 20) j2 (by omega) h4 (by omega)
   rw [if_pos rfl, hb3]
   simp only [ak]
   split <;> exact ⟨_, rfl⟩
 obtain ⟨r, hr⟩ := this
 exact ⟨_, _, r, by omega, upk (f := fun k => (V_pl (2 * s.size + 1)).f k s) (fun k => (V_pl (2 * s.size + 1)).mono s k) hr⟩
theorem paired_up {s : au} (hn : Small s) : ∃ K b, ∀ n, bB.f (K + n) s = some b := by
 obtain ⟨b, hb⟩ := paired_tot hn s.size (s.size + 12) 0 (by omega) (by omega) (by omega) (by omega)
 exact ⟨s.size + 12, b, upk (f := fun k => bB.f k s) (fun k => bB.mono s k) hb⟩
theorem text_of {Vp : cO} {s : au} {k : Nat} {r : Int × au × List au × List S25 × Bool} (hs : s.size ≤ 65536) (hu : bI.f k s = some true) (hp : bB.f k s = some true) (hr : dJ.f Vp k s = some r) : bZ.f Vp k s = some r := by
 unfold bZ.f
 rw [if_neg (by omega), hu]
 simp only [ak]
 rw [if_pos trivial, hp]
 simp only [ak]
 rw [if_pos trivial, hr]
 rfl
theorem text_cases (s : au) : (∃ D K y0 y1 y2 y3, bZ.f (V_pl D) K s = some (y0, y1, y2, y3, false)) ∨ (s.size ≤ 65536 ∧ PairedAt s 0 ∧ ∃ (D K : Nat) (p : S31), 1 ≤ D ∧ places (aH.at_ (D + 1)) K s = some (p.f0, p.f1, p.f2, p.f3, p.f4, true) ∧ TreeIs s p ∧ (∃ K, TreeOK s p K) ∧
  ∃ K, bZ.f (V_pl D) K s = some ((treeO s p).f0, (treeO s p).f1, (treeO s p).f2, (treeO s p).f3, true)) := by
 by_cases hs : s.size ≤ 65536
 case neg =>
  refine .inl ⟨0, 0, 0, ⟨#[]⟩, [], [], ?_⟩
  unfold bZ.f
  rw [if_pos (by omega)]
 have hn : Small s := by unfold Small; omega
 obtain ⟨K1, b1, hu⟩ := pN hn
 obtain ⟨K2, b2, hp⟩ := paired_up hn
 obtain ⟨D, K3, ⟨kd, b, j, ns, ks, ok⟩, hD, hr⟩ := places_tot hn
 have hu : ∀ k, K1 ≤ k → bI.f k s = some b1 := fun k h => by have := hu (k - K1); rwa [show K1 + (k - K1) = k by omega] at this
 have hpp : ∀ k, K2 ≤ k → bB.f k s = some b2 := fun k h => by have := hp (k - K2); rwa [show K2 + (k - K2) = k by omega] at this
 have hrr : ∀ k, K3 ≤ k → (V_pl D).f k s = some (kd, b, j, ns, ks, ok) := fun k h => by have := hr (k - K3); rwa [show K3 + (k - K3) = k by omega] at this
 cases b1 with
 | false =>
  refine .inl ⟨D, K1 + 1, 0, ⟨#[]⟩, [], [], ?_⟩
  unfold bZ.f
  rw [if_neg (by omega), hu (K1 + 1) (by omega)]
  rfl
 | true =>
 cases b2 with
 | false =>
  refine .inl ⟨D, K1 + K2 + 1, 0, ⟨#[]⟩, [], [], ?_⟩
  unfold bZ.f
  rw [if_neg (by omega), hu (K1 + K2 + 1) (by omega)]
  simp only [ak]
  rw [if_pos trivial, hpp (K1 + K2 + 1) (by omega)]
  rfl
 | true =>
 cases ok with
 | false =>
  refine .inl ⟨D, K1 + K2 + K3 + 1, 0, ⟨#[]⟩, [], [], text_of hs (hu _ (by omega)) (hpp _ (by omega)) ?_⟩
  unfold dJ.f
  rw [hrr _ (by omega)]
  rfl
 | true =>
 have hP0 : PairedAt s 0 := ⟨K2, hpp K2 (Nat.le_refl _)⟩
 have hpl : places (aH.at_ (D + 1)) K3 s = some (kd, b, j, ns, ks, true) := hrr K3 (Nat.le_refl _)
 obtain ⟨h0, hB, hlt, hle, hR, hV, hVR⟩ := places_inv hn hpl
 have hpb := (hB.lex (by omega)).paired hn hP0
 obtain ⟨hTI, K4, hT⟩ := tree_tot hn hs (D + 1) ⟨kd, b, j, ns, ks⟩ hVR hpb hlt hle
 refine .inr ⟨hs, hP0, D, K3, ⟨kd, b, j, ns, ks⟩, hD, hpl, hTI, ⟨K4, hT⟩, K1 + K2 + K3 + K4, text_of hs (hu _ (by omega)) (hpp _ (by omega)) ?_⟩
 have hT' := tree_up hT (K1 + K2 + K3)
 unfold TreeOK at hT'
 unfold dJ.f
 rw [hrr _ (by omega)]
 simp only [ak]
 rw [if_pos trivial, show K1 + K2 + K3 + K4 = K4 + (K1 + K2 + K3) by omega, hT']
 rfl
end Go.Proofs.YtmpdhdnoohmndaaGreatDoor.Gj

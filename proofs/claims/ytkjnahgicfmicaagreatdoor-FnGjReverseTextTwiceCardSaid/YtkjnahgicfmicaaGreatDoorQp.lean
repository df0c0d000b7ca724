import Derived.Test.YtkjnahgicfmicaaGreatDoorQy
import Derived.Test.YtkjnahgicfmicaaGreatDoorQz
import Derived.Test.YtkjnahgicfmicaaGreatDoorQq
import Derived.Test.YtkjnahgicfmicaaGreatDoorQs
namespace Go.Proofs.YtkjnahgicfmicaaGreatDoor.Gj
open Go.RowKit Go.PW Go.PL Go.PM Sp Dec
set_option linter.unusedVariables false
set_option linter.unusedSimpArgs false
section
set_option maxRecDepth 100000
def V_pl (D : Nat) : dA where
 f := fun k s => places (aA.at_ (D + 1)) k s
 mono := fun a0 k => by
  unfold places
  refine LeO.bind (aI.mono _ _ _) (fun b => LeO.bind ((aA.at_ (D + 1)).mono _ _ _) (fun v => LeO.ite (LeO.bind (aI.mono _ _ _) (fun c => LeO.refl _)) (LeO.refl _)))
 calls := fun k s r1 r2 r3 r4 r5 r6 w h => places_calls _ k s w r1 r2 r3 r4 r5 r6 h
theorem places_tot {s : av} (hn : Small s) : ∃ D K r, 1 ≤ D ∧ ∀ n, (V_pl D).f (K + n) s = some r := by
 obtain ⟨j, hb, h1, h2⟩ := blanks_t s hn (s.size + 20) 0 (by omega) (by omega) (by omega)
 have hT := (reader_tots hn (2 * s.size + 1 + 1)).1
 obtain ⟨kd, ns, ks, ok, j2, hv, h3, h4, h5⟩ := hT (s.size + 20) j (by omega) h2 (by omega) (by omega)
 have : ∃ r, (V_pl (2 * s.size + 1)).f (s.size + 20) s = some r := by
  show ∃ r, places _ _ s = some r
  unfold places
  rw [hb]
  simp only [al]
  rw [hv]
  simp only [al]
  cases ok with
  | false => exact ⟨_, rfl⟩
  | true =>
   obtain ⟨j3, hb3, _, _⟩ := blanks_t s hn (s.size + 20) j2 (by omega) h4 (by omega)
   rw [if_pos rfl, hb3]
   simp only [al]
   split <;> exact ⟨_, rfl⟩
 obtain ⟨r, hr⟩ := this
 exact ⟨_, _, r, by omega, upk (f := fun k => (V_pl (2 * s.size + 1)).f k s) (fun k => (V_pl (2 * s.size + 1)).mono s k) hr⟩
theorem paired_up {s : av} (hn : Small s) : ∃ K b, ∀ n, bD.f (K + n) s = some b := by
 obtain ⟨b, hb⟩ := paired_tot hn s.size (s.size + 12) 0 (by omega) (by omega) (by omega) (by omega)
 exact ⟨s.size + 12, b, upk (f := fun k => bD.f k s) (fun k => bD.mono s k) hb⟩
theorem text_of {Vp : dA} {s : av} {k : Nat} {r : Int × av × List av × List S25 × Bool} (hs : s.size ≤ 65536) (hu : bS.f k s = some true) (hp : bD.f k s = some true) (hr : dR.f Vp k s = some r) : cT.f Vp k s = some r := by
 unfold cT.f
 rw [if_neg (by omega), hu]
 simp only [al]
 rw [if_pos trivial, hp]
 simp only [al]
 rw [if_pos trivial, hr]
 rfl
theorem text_cases (s : av) : (∃ D K y0 y1 y2 y3, cT.f (V_pl D) K s = some (y0, y1, y2, y3, false)) ∨ (s.size ≤ 65536 ∧ PairedAt s 0 ∧ ∃ (D K : Nat) (p : S31), 1 ≤ D ∧ places (aA.at_ (D + 1)) K s = some (p.f0, p.f1, p.f2, p.f3, p.f4, true) ∧ TreeIs s p ∧ (∃ K, TreeOK s p K) ∧
  ∃ K, cT.f (V_pl D) K s = some ((treeO s p).f0, (treeO s p).f1, (treeO s p).f2, (treeO s p).f3, true)) := by
 by_cases hs : s.size ≤ 65536
 case neg =>
  refine .inl ⟨0, 0, 0, ⟨#[]⟩, [], [], ?_⟩
  unfold cT.f
  rw [if_pos (by omega)]
 have hn : Small s := by unfold Small; omega
 obtain ⟨K1, b1, hu⟩ := tG hn
 obtain ⟨K2, b2, hp⟩ := paired_up hn
 obtain ⟨D, K3, ⟨kd, b, j, ns, ks, ok⟩, hD, hr⟩ := places_tot hn
 have hu : ∀ k, K1 ≤ k → bS.f k s = some b1 := fun k h => by have := hu (k - K1); rwa [show K1 + (k - K1) = k by omega] at this
 have hpp : ∀ k, K2 ≤ k → bD.f k s = some b2 := fun k h => by have := hp (k - K2); rwa [show K2 + (k - K2) = k by omega] at this
 have hrr : ∀ k, K3 ≤ k → (V_pl D).f k s = some (kd, b, j, ns, ks, ok) := fun k h => by have := hr (k - K3); rwa [show K3 + (k - K3) = k by omega] at this
 cases b1 with
 | false =>
  refine .inl ⟨D, K1 + 1, 0, ⟨#[]⟩, [], [], ?_⟩
  unfold cT.f
  rw [if_neg (by omega), hu (K1 + 1) (by omega)]
  rfl
 | true =>
 cases b2 with
 | false =>
  refine .inl ⟨D, K1 + K2 + 1, 0, ⟨#[]⟩, [], [], ?_⟩
  unfold cT.f
  rw [if_neg (by omega), hu (K1 + K2 + 1) (by omega)]
  simp only [al]
  rw [if_pos trivial, hpp (K1 + K2 + 1) (by omega)]
  rfl
 | true =>
 cases ok with
 | false =>
  refine .inl ⟨D, K1 + K2 + K3 + 1, 0, ⟨#[]⟩, [], [], text_of hs (hu _ (by omega)) (hpp _ (by omega)) ?_⟩
  unfold dR.f
  rw [hrr _ (by omega)]
  rfl
 | true =>
 have hP0 : PairedAt s 0 := ⟨K2, hpp K2 (Nat.le_refl _)⟩
 have hpl : places (aA.at_ (D + 1)) K3 s = some (kd, b, j, ns, ks, true) := hrr K3 (Nat.le_refl _)
 obtain ⟨h0, hB, hlt, hle, hR, hV, hVR⟩ := places_inv hn hpl
 have hpb := (hB.lex (by omega)).paired hn hP0
 obtain ⟨hTI, K4, hT⟩ := tree_tot hn hs (D + 1) ⟨kd, b, j, ns, ks⟩ hVR hpb hlt hle
 refine .inr ⟨hs, hP0, D, K3, ⟨kd, b, j, ns, ks⟩, hD, hpl, hTI, ⟨K4, hT⟩, K1 + K2 + K3 + K4, text_of hs (hu _ (by omega)) (hpp _ (by omega)) ?_⟩
 have hT' := tree_up hT (K1 + K2 + K3)
 unfold TreeOK at hT'
 unfold dR.f
 rw [hrr _ (by omega)]
 simp only [al]
 rw [if_pos trivial, show K1 + K2 + K3 + K4 = K4 + (K1 + K2 + K3) by omega, hT']
 rfl
structure RT (D : Nat) (s : av) (p : S31) : Prop where
 hs : s.size ≤ 65536
 hD : 1 ≤ D
 pair : PairedAt s 0
 pl : ∃ K, places (aA.at_ (D + 1)) K s = some (p.f0, p.f1, p.f2, p.f3, p.f4, true)
 f1 : p.f1 = 0
 f2 : p.f2 = s.size
def rev (n : S25) : S25 := if n.f0 = 5 ∨ n.f0 = 6 then ⟨n.f0, n.f1, n.f2.reverse, n.f3.reverse⟩ else n
theorem rev_rev (n : S25) : rev (rev n) = n := by
 unfold rev
 by_cases h : n.f0 = 5 ∨ n.f0 = 6
 ·rw [if_pos h, if_pos h, List.reverse_reverse, List.reverse_reverse]
  exact eta25 n
 ·rw [if_neg h, if_neg h]
theorem eta31' (p : S31) : (⟨p.f0, p.f1, p.f2, p.f3, p.f4⟩ : S31) = p := by cases p; rfl
theorem RT.tree {D : Nat} {s : av} {p : S31} (h : RT D s p) : TreeIs s p ∧ ∃ K, TreeOK s p K := by
 have hs := h.hs
 have hn : Small s := by unfold Small; omega
 obtain ⟨K, hp⟩ := h.pl
 obtain ⟨h0, hB, hlt, hle, hR, hV, hVR⟩ := places_inv hn hp
 rw [eta31'] at hVR
 exact tree_tot hn h.hs _ p hVR (by rw [h.f1]; exact h.pair) hlt hle
theorem RT.read {D : Nat} {s : av} {p : S31} (h : RT D s p) : ∃ K, dR.f (V_pl D) K s = some ((treeO s p).f0, (treeO s p).f1, (treeO s p).f2, (treeO s p).f3, true) := by
 obtain ⟨K, hp⟩ := h.pl
 obtain ⟨K4, hT⟩ := h.tree.2
 have hr : (V_pl D).f K s = some (p.f0, p.f1, p.f2, p.f3, p.f4, true) := hp
 refine ⟨K + K4, ?_⟩
 have hT' := tree_up hT K
 unfold TreeOK at hT'
 unfold dR.f
 rw [upk (f := fun k => (V_pl D).f k s) (fun k => (V_pl D).mono s k) hr K4]
 simp only [al]
 rw [if_pos trivial, Nat.add_comm, hT']
 rfl
open Classical in
theorem pick_congr {α : Type} {P Q : α → Prop} (z : α) (h : ∀ r, P r ↔ Q r) : (if h : ∃ r, P r then h.choose else z) = (if h : ∃ r, Q r then h.choose else z) := by
 have e : P = Q := funext fun r => propext (h r)
 subst e
 rfl
theorem treeO_mv {s t : av} {d : Int} {p : S31} (h : TreeEq s t d p) : treeO t (sh d p) = treeO s p := by
 unfold treeO
 rw [sh_eq]
 refine pick_congr _ (fun r => ?_)
 have e : ∀ K, aM.f K t p.f0 (p.f1 - d) (p.f2 - d) (p.f3.map (shn d)) (shs d p.f4) = aM.f K s p.f0 p.f1 p.f2 p.f3 p.f4 := h
 simp only [e]
theorem unqO_ext {s t : av} {a b c d : Int} (h : t.extract c.toNat d.toNat = s.extract a.toNat b.toNat) : unqO t c d = unqO s a b := by
 unfold unqO
 refine pick_congr _ (fun r => ?_)
 rw [h]
theorem lay_tree {s t : av} {D : Nat} {ps : List S31} {i j : Int} (h : Lay s t ps i j) : (∀ p ∈ ps, Piece D s p) → (lays ps i).map (treeO t) = ps.map (treeO s) := by
 have one : ∀ (p : S31) (i : Int), Piece D s p → Win s t (p.f1 - i) i (i + (p.f2 - p.f1)) → treeO t (sh (p.f1 - i) p) = treeO s p := fun p i hp hw =>
  treeO_mv (tree_mv hw D p hp.1 (by omega) hp.2.2.1 (by omega))
 induction h with
 | last p i hw _ _ =>
  intro hp
  rw [lays, lays, List.map_cons, List.map_cons, one p i (hp p (List.mem_cons_self ..)) hw]
  rfl
 | more p i j ps hw _ _ _ ih =>
  intro hp
  rw [lays, List.map_cons, List.map_cons, one p i (hp p (List.mem_cons_self ..)) hw, ih (fun q hq => hp q (List.mem_cons_of_mem _ hq))]
theorem laym_tree {s t : av} {D : Nat} {ps : List (S93 × S31)} {i j : Int} (h : LayM s t ps i j) : (∀ x ∈ ps, PieceM D s x) → (layV ps i).map (treeO t) = ps.map (fun x => treeO s x.2) ∧ (layN ps i).map (fun x => unqO t x.f0 x.f1) = ps.map (fun x => unqO s x.1.f0 x.1.f1) := by
 have one : ∀ (x : S93 × S31) (i : Int), PieceM D s x → AtM s t x i → treeO t (sh (x.2.f1 - (i + (x.1.f1 - x.1.f0) + 1)) x.2) = treeO s x.2 ∧ unqO t (shn (x.1.f0 - i) x.1).f0 (shn (x.1.f0 - i) x.1).f1 = unqO s x.1.f0 x.1.f1 := fun x i hp ha => by
  obtain ⟨h0, h1, _, h3, h4⟩ := hp
  have h5 := h1.2.1
  refine ⟨treeO_mv (tree_mv ha.val D x.2 h4.1 (by omega) h4.2.2.1 (by omega)), unqO_ext ?_⟩
  show t.extract (x.1.f0 - (x.1.f0 - i)).toNat (x.1.f1 - (x.1.f0 - i)).toNat = _
  exact ha.nm.ext (by omega) (by omega) (by omega)
 induction h with
 | last x i ha _ _ =>
  intro hp
  obtain ⟨e1, e2⟩ := one x i (hp x (List.mem_cons_self ..)) ha
  rw [layV, layV, layN, layN, List.map_cons, List.map_cons, List.map_cons, List.map_cons, e1, e2]
  exact ⟨rfl, rfl⟩
 | more x i j ps ha _ _ _ ih =>
  intro hp
  obtain ⟨e1, e2⟩ := one x i (hp x (List.mem_cons_self ..)) ha
  obtain ⟨i1, i2⟩ := ih (fun q hq => hp q (List.mem_cons_of_mem _ hq))
  rw [layV, layN, List.map_cons, List.map_cons, List.map_cons, List.map_cons, e1, e2, i1, i2]
  exact ⟨rfl, rfl⟩
end
section
set_option maxRecDepth 100000
theorem told_map {α β : Type} {F : α → GR × GR → Prop} {g : GR × GR → β} {f : α → β} (hF : ∀ x y, F x y → g y = f x) {n : Nat} {ps : List (GR × GR → Prop)} {L : List (GR × GR)} (h : Told (fun _ => true) n ps L) : ∀ xs : List α, ps = xs.map F → L.map g = xs.map f := by
 induction h with
 | done n =>
  intro xs e
  cases xs with
  | nil => rfl
  | cons a xs => cases e
 | stop n P ps x _ hc => cases hc
 | more n P ps x L hx _ _ ih =>
  intro xs e
  cases xs with
  | nil => cases e
  | cons a xs =>
   rw [List.map_cons] at e
   injection e with e1 e2
   subst e1
   rw [List.map_cons, List.map_cons, ih xs e2, hF a x hx]
theorem ext_size {s : av} {a b : Int} (h : s.size ≤ 65536) : (s.extract a.toNat b.toNat).size ≤ 1000000 := by
 rw [ByteArray.size_extract]
 omega
theorem kd_piece {s : av} {D : Nat} {p : S31} (h : KdOK (aA.at_ D) s p) : Piece D s p := ⟨h.1, h.2.1, h.2.2.1, h.2.2.2.1, by rw [at0_at h.2.2.2.2.1]; exact h.2.2.2.2.2⟩
theorem mems_pair {V : aE} {s : av} (hn : Small s) (hV : LexV V s) {ns : List S93} {ks : List S31} {i j : Int} (h : Sp.Mems V s ns ks i j) : 0 ≤ i → PairedAt s i → ∀ x ∈ ns, PairedAt s x.f0 := by
 induction h with
 | last nm p i c r h1 h2 h3 h4 h5 h6 h7 h8 h9 h10 h11 =>
  intro hi hp q hq
  obtain rfl : q = nm := by simpa using hq
  rw [h1]
  exact hp
 | more nm p i c r t j ns ks h1 h2 h3 h4 h5 h6 h7 h8 h9 h10 h11 h12 h13 ih =>
  intro hi hp q hq
  have hb3 := h3.1
  have hb6 := h6.1
  have hb9 := h9.1
  have hb12 := h12.1
  have hlt := h2.2.1
  have h0 := h7.1
  obtain ⟨o, hI, hp1, k, hu⟩ := seg_unq hn hi h2 hp
  have hp2 := PairedAt.plain hn ((h3.lex (by omega)).paired hn hp1) (by omega) h4 (by omega)
  have hp3 := (h6.lex (by omega)).paired hn hp2
  have hL := hV p h7 (by omega)
  have p1 := (h9.lex (by omega)).paired hn (hL.paired hn hp3)
  have p2 := PairedAt.plain hn p1 (by omega) h10 (by omega)
  rcases List.mem_cons.1 hq with rfl | hq
  ·rw [h1]
   exact hp
  ·exact ih (by omega) ((h12.lex (by omega)).paired hn p2) q hq
def Turns (D : Nat) (s : av) (p : S31) (t : av) : Prop := (∃ q, RT D t q ∧ treeO t q = rev (treeO s p)) ∧ ∀ (a1 : av) (w : World), Wok w → Calls Tryz.prog 54 #[.string s, .string a1] w fun e w' => e = .returned (.string t) ∧ Below w.heap.size w w'
theorem turn_arr {D : Nat} {s : av} {b j : Int} {ks : List S31} (h : RT D s ⟨5, b, j, [], ks⟩) (hV : (bt s b = 91 ∧ ((ks = [] ∧ ∃ p, Blanks s (b + 1) p ∧ p < s.size ∧ bt s p = 93 ∧ j = p + 1) ∨ ∃ p, Blanks s (b + 1) p ∧ Sp.Kids (aA.at_ (D - 1)) s ks p j)))
  (hK : ∀ p ∈ ks, KdOK (aA.at_ (D - 1)) s p) (hL : Lies s (psOf s 5 [] ks)) (hP : ∀ w, Wok w → Calls Tryz.prog 21 #[.string s] w (PrPost 5 s ⟨#[]⟩ w)) (h0 : 0 < s.size) : ∃ t, Turns D s ⟨5, b, j, [], ks⟩ t := by
 have hs := h.hs
 have hD := h.hD
 have hn : Small s := by unfold Small; omega
 have hb : b = 0 := h.f1
 have hj : j = s.size := h.f2
 have hlen : (boxed 91 93 (ks.reverse.map fun p => raw s p.f1 p.f2)).length ≤ 65536 := by
  have h1 := boxed_len 91 93 (l := ks.reverse.map fun p => raw s p.f1 p.f2)
  rw [List.map_reverse, sumL_rev] at h1
  rw [List.map_reverse]
  rcases hV.2 with ⟨rfl, _⟩ | ⟨p, hB, hk⟩
  ·exact Nat.le_trans h1 (by simp)
  ·have h2 := kids_sum hk (by have := hB.1; omega) (by omega)
   have := hB.1
   split at h1 <;> omega
 have hpc : ∀ p ∈ ks.reverse, Piece (D - 1) s p := fun p hp => kd_piece (hK p (List.mem_reverse.1 hp))
 obtain ⟨hR, hLay⟩ := arr_read hn hpc (by omega)
 have hsz : (strOfNums (boxed 91 93 (ks.reverse.map fun p => raw s p.f1 p.f2))).size = (boxed 91 93 (ks.reverse.map fun p => raw s p.f1 p.f2)).length := by have := hR.f2; simp only at this; omega
 have hT : RT D (strOfNums (boxed 91 93 (ks.reverse.map fun p => raw s p.f1 p.f2))) ⟨5, 0, ((boxed 91 93 (ks.reverse.map fun p => raw s p.f1 p.f2)).length : Int), [], lays ks.reverse 1⟩ :=
  ⟨by omega, hD, hR.pair, by
   obtain ⟨K, hp⟩ := hR.pl
   have := hp 0
   rw [show D - 1 + 2 = D + 1 by omega] at this
   exact ⟨_, this⟩, rfl, by rw [hsz]⟩
 refine ⟨_, ⟨_, hT, ?_⟩, fun a1 w hW => ?_⟩
 ·have t1 := hT.tree.1
  have t2 := h.tree.1
  have e3 : (lays ks.reverse 1).map (treeO (strOfNums (boxed 91 93 (ks.reverse.map fun p => raw s p.f1 p.f2)))) = ks.reverse.map (treeO s) := by
   by_cases c : ks.reverse = []
   ·rw [c]; rfl
   ·exact lay_tree (hLay c) hpc
  unfold rev
  rw [t2.f0, if_pos (.inl rfl), t2.f2, t2.f3, t2.f5 (show (5 : Int) ≠ 3 by decide) (show (5 : Int) ≠ 4 by decide), ← eta25 (treeO _ _), t1.f0, t1.f2, t1.f3, t1.f5 (show (5 : Int) ≠ 3 by decide) (show (5 : Int) ≠ 4 by decide)]
  rw [e3]
  simp only [List.map_nil, List.reverse_nil, List.map_reverse]
 ·refine (mr_calls s s ⟨#[]⟩ 5 a1 w (fun t => t = strOfNums (boxed 91 93 (ks.reverse.map fun p => raw s p.f1 p.f2))) (by omega) (by omega) h0 (fun w1 hb => hP w1 (hW.below hb)) (.inr ⟨rfl, rfl, hW, psOf s 5 [] ks, hL, .inl ⟨by unfold at_; rw [← hV.1, hb]; rfl, fun P hP x hx => ?_, fun L hT => ?_⟩⟩)).mono ?_
  ·unfold psOf at hP
   rw [if_pos rfl, List.map_map] at hP
   obtain ⟨p, hp, rfl⟩ := List.mem_map.1 hP
   rw [show x.2.raw = s.extract p.f1.toNat p.f2.toNat from hx.2.raw]
   exact ext_size hs
  ·have e : L.map (fun x => bytesOf x.2.raw) = ks.map (fun p => raw s p.f1 p.f2) := told_map (F := fun p => OnVal (GjV s p)) (fun p x hx => by rw [show x.2.raw = s.extract p.f1.toNat p.f2.toNat from hx.2.raw]; rfl) hT ks (by unfold psOf; rw [if_pos rfl, List.map_map]; rfl)
   rw [List.map_reverse, e, List.map_reverse]
  ·rintro e w' ⟨t, rfl, h, hb⟩
   exact ⟨h, hb⟩
theorem zip_fst {α β γ : Type} (f : α → γ) : ∀ (l : List α) (m : List β), l.length = m.length → (l.zip m).map (fun x => f x.1) = l.map f
 | [], _, _ => rfl
 | a :: l, [], h => by simp at h
 | a :: l, b :: m, h => by rw [List.zip_cons_cons, List.map_cons, List.map_cons, zip_fst f l m (by simpa using h)]
theorem zip_snd {α β γ : Type} (f : β → γ) : ∀ (l : List α) (m : List β), l.length = m.length → (l.zip m).map (fun x => f x.2) = m.map f
 | [], [], _ => rfl
 | [], b :: m, h => by simp at h
 | a :: l, [], h => by simp at h
 | a :: l, b :: m, h => by rw [List.zip_cons_cons, List.map_cons, List.map_cons, zip_snd f l m (by simpa using h)]
theorem turn_obj {D : Nat} {s : av} {b j : Int} {ns : List S93} {ks : List S31} (h : RT D s ⟨6, b, j, ns, ks⟩) (hc : bt s b = 123) (hV : MemsAt (aA.at_ (D - 1)) s b j ns ks)
  (hK : ∀ p ∈ ks, KdOK (aA.at_ (D - 1)) s p) (hN : ∀ x ∈ ns, NmOK s x) (hPn : ∀ x ∈ ns, PairedAt s x.f0) (hnk : ns.length = ks.length) (hL : Lies s (psOf s 6 ns ks)) (hP : ∀ w, Wok w → Calls Tryz.prog 21 #[.string s] w (PrPost 5 s ⟨#[]⟩ w)) (h0 : 0 < s.size) : ∃ t, Turns D s ⟨6, b, j, ns, ks⟩ t := by
 have hs := h.hs
 have hD := h.hD
 have hn : Small s := by unfold Small; omega
 have hb : b = 0 := h.f1
 have hj : j = s.size := h.f2
 obtain ⟨ps, hps⟩ : ∃ ps, (ns.zip ks).reverse = ps := ⟨_, rfl⟩
 have hlen : (boxed 123 125 (ps.map (rawM s))).length ≤ 65536 := by
  have h1 := boxed_len 123 125 (l := ps.map (rawM s))
  rw [← hps, List.map_reverse, sumL_rev] at h1
  rw [← hps, List.map_reverse]
  rcases hV with ⟨rfl, rfl, _⟩ | ⟨p, hB, hk⟩
  ·exact Nat.le_trans h1 (by simp)
  ·have h2 := mems_sum hk (by have := hB.1; omega) (by omega)
   have := hB.1
   split at h1 <;> omega
 have hpc : ∀ x ∈ ps, PieceM (D - 1) s x := fun x hx => by
  rw [← hps] at hx
  obtain ⟨m1, m2⟩ := List.of_mem_zip (List.mem_reverse.1 hx)
  obtain ⟨n1, n2, n3, _, n5, _⟩ := hN _ m1
  exact ⟨n1, n5, hPn _ m1, n3, kd_piece (hK _ m2)⟩
 obtain ⟨hR, hLay⟩ := obj_read hn hpc (by omega)
 have hsz : (strOfNums (boxed 123 125 (ps.map (rawM s)))).size = (boxed 123 125 (ps.map (rawM s))).length := by have := hR.f2; simp only at this; omega
 have hT : RT D (strOfNums (boxed 123 125 (ps.map (rawM s)))) ⟨6, 0, ((boxed 123 125 (ps.map (rawM s))).length : Int), layN ps 1, layV ps 1⟩ :=
  ⟨by omega, hD, hR.pair, by
   obtain ⟨K, hp⟩ := hR.pl
   have := hp 0
   rw [show D - 1 + 2 = D + 1 by omega] at this
   exact ⟨_, this⟩, rfl, by rw [hsz]⟩
 refine ⟨_, ⟨_, hT, ?_⟩, fun a1 w hW => ?_⟩
 ·have t1 := hT.tree.1
  have t2 := h.tree.1
  have e3 : (layV ps 1).map (treeO (strOfNums (boxed 123 125 (ps.map (rawM s))))) = ps.map (fun x => treeO s x.2) ∧ (layN ps 1).map (fun x => unqO (strOfNums (boxed 123 125 (ps.map (rawM s)))) x.f0 x.f1) = ps.map (fun x => unqO s x.1.f0 x.1.f1) := by
   by_cases c : ps = []
   ·rw [c]; exact ⟨rfl, rfl⟩
   ·exact laym_tree (hLay c) hpc
  have e4 : ps.map (fun x => treeO s x.2) = (ks.map (treeO s)).reverse := by rw [← hps, List.map_reverse, zip_snd _ _ _ hnk]
  have e5 : ps.map (fun x => unqO s x.1.f0 x.1.f1) = (ns.map (fun x => unqO s x.f0 x.f1)).reverse := by rw [← hps, List.map_reverse, zip_fst (fun x : S93 => unqO s x.f0 x.f1) _ _ hnk]
  unfold rev
  rw [t2.f0, if_pos (.inr rfl), t2.f2, t2.f3, t2.f5 (show (6 : Int) ≠ 3 by decide) (show (6 : Int) ≠ 4 by decide), ← eta25 (treeO _ _), t1.f0, t1.f2, t1.f3, t1.f5 (show (6 : Int) ≠ 3 by decide) (show (6 : Int) ≠ 4 by decide)]
  rw [e3.1, e3.2, e4, e5]
 ·refine (mr_calls s s ⟨#[]⟩ 5 a1 w (fun t => t = strOfNums (boxed 123 125 (ps.map (rawM s)))) (by omega) (by omega) h0 (fun w1 hb => hP w1 (hW.below hb)) (.inr ⟨rfl, rfl, hW, psOf s 6 ns ks, hL, .inr ⟨by unfold at_; rw [← hc, hb]; rfl, fun P hP x hx => ?_, fun L hT => ?_⟩⟩)).mono ?_
  ·unfold psOf at hP
   rw [if_neg (by decide)] at hP
   obtain ⟨p, hp, rfl⟩ := List.mem_map.1 hP
   rw [show x.1.raw = _ from hx.2.2.2, show x.2.raw = _ from hx.2.1.raw]
   exact ⟨ext_size hs, ext_size hs⟩
  ·have e : L.map rawP = (ns.zip ks).map (rawM s) := told_map (F := ItemOK s) (fun p x hx => by unfold rawP; rw [show x.1.raw = _ from hx.2.2.2, show x.2.raw = _ from hx.2.1.raw]; rfl) hT (ns.zip ks) (by unfold psOf; rw [if_neg (by decide)])
   rw [List.map_reverse, e, ← List.map_reverse, hps]
  ·rintro e w' ⟨t, rfl, h, hb⟩
   exact ⟨h, hb⟩
theorem turns {D : Nat} {s : av} {p : S31} (h : RT D s p) : ∃ t, Turns D s p t := by
 have hs := h.hs
 have hn : Small s := by unfold Small; omega
 obtain ⟨K, hpl⟩ := h.pl
 obtain ⟨h0, hB, hlt, hle, hR, hV, hVR⟩ := places_inv hn hpl
 have hz : 0 < s.size := by have := h.f2; have := h.f1; omega
 have hpb : PairedAt s p.f1 := by rw [h.f1]; exact h.pair
 obtain ⟨ty, raw, str, hLf, hr, hrs, hS⟩ := leaf_of hs h.pair hpl
 have hP : ∀ w, Wok w → Calls Tryz.prog 21 #[.string s] w (PrPost ty raw str w) := fun w hW =>
  parse_calls s _ raw str p.f1.toNat _ ty w hW (by omega) (by have := h.f1; omega) rfl rfl (fun q hq => by have := h.f1; omega) hLf hr
 rcases hS with ⟨rfl, hk, hraw⟩ | ⟨h5, hk, _⟩
 ·obtain ⟨hl, hnk, _⟩ := lies_of hs h.pair hpl hk
  obtain ⟨e1, e2, _⟩ := valo_each hn (value_lex hn (D - 1)) hV h0 (by omega) hle hpb
  have e0 : s.extract p.f1.toNat s.size = s := by rw [h.f1]; exact ByteArray.extract_zero_size
  rw [e0] at hraw hl
  subst hraw
  have hstr : str = ⟨#[]⟩ := by
   rcases hLf with ⟨_, h, _⟩ | ⟨_, _, h, _⟩ | ⟨h, _⟩ | ⟨_, h, _⟩
   ·exact absurd h (by decide)
   ·exact h
   ·rcases h with ⟨_, h⟩ | ⟨_, h⟩ | ⟨_, h⟩ <;> exact absurd h (by decide)
   ·exact absurd h (by decide)
  subst hstr
  obtain ⟨kd, b, j, ns, ks⟩ := p
  simp only at *
  rcases hV with ⟨rfl, hc, hm⟩ | ⟨rfl, rfl, hc, hm⟩ | ⟨rfl, _⟩ | ⟨rfl, _⟩ | ⟨_, _, _, hw⟩
  ·refine turn_obj h hc hm e1 e2 ?_ (hnk rfl) hl hP hz
   rcases hm with ⟨rfl, _⟩ | ⟨q, hq, hm⟩
   ·exact fun x hx => by cases hx
   ·have hp1 := PairedAt.plain hn hpb h0 (by omega) (by omega)
    exact mems_pair hn (value_lex hn (D - 1)) hm (by have := hq.1; omega) ((hq.lex (by omega)).paired hn hp1)
  ·exact turn_arr h ⟨hc, hm⟩ e1 hl hP hz
  ·exact absurd hk (by decide)
  ·exact absurd hk (by decide)
  ·rcases hw with ⟨rfl, _⟩ | ⟨rfl, _⟩ | ⟨rfl, _⟩ <;> exact absurd hk (by decide)
 ·refine ⟨s, ⟨p, h, ?_⟩, fun a1 w hW => (mr_calls s raw str ty a1 w (fun t => t = s) (by omega) (by omega) hr (fun w1 hb => hP w1 (hW.below hb)) (.inl ⟨h5, rfl⟩)).mono fun e w' ⟨t, h1, h2, hb⟩ => ⟨by rw [← h1]; exact h2, hb⟩⟩
  unfold rev
  rw [if_neg (by rw [h.tree.1.f0]; omega)]
end
section
set_option maxRecDepth 100000
theorem turned {s t : av} {w : World} (h : ∀ (a1 : av) (w : World), Wok w → Calls Tryz.prog 54 #[.string s, .string a1] w fun e w' => e = .returned (.string t) ∧ Below w.heap.size w w') (hW : Wok w) : Calls Tryz.prog 15 #[.string s] w fun e w' => e = .returned (.string t) ∧ Below w.heap.size w w' :=
 (gjrev_calls (Q := fun e w' => e = .returned (.string t) ∧ Below w.heap.size w w') ((h ⟨#[]⟩ w hW).mono fun e w' h => ⟨t, h.1, h⟩)).mono fun e w' ⟨_, _, h⟩ => h
theorem reverse_law (s : av) (w : World) (hW : Wok w) : Calls Tryz.prog 5 #[.string s] w fun e w' => e = .returned (.bool true) ∧ Below w.heap.size w w' := by
 by_cases hz : 2147483647 < (s.size : Int)
 ·exact law_big s w hz
 rcases text_cases s with ⟨D, K, y0, y1, y2, y3, h⟩ | ⟨hs, hP0, D, K, p, hD, hpl, hI, hT, K2, hg⟩
 ·exact law_calls s y0 y1 y2 y3 false w hW (by omega) (fun w => bare_calls _ K s _ _ _ _ false w h (fun h => by cases h) (fun h => by cases h)) (fun h => by cases h.1)
 have hn : Small s := by unfold Small; omega
 obtain ⟨h0, hB, hlt, hle, hR, hV, hVR⟩ := places_inv hn hpl
 obtain ⟨K0, hT0⟩ := hT
 have hF := tree_fit _ _ _ _ _ _ _ _ (Nat.le_refl _) hT0
 refine law_calls s _ _ _ _ true w hW (by omega) (fun w => bare_calls _ K2 s _ _ _ _ true w hg (fun _ A2 c2 A3 c3 w h1 h2 h3 h4 => uniq_calls hF A2 c2 A3 c3 w h1 h2 h3 h4) (fun _ => ⟨by omega, by omega⟩)) (fun hb => ?_)
 have hRT : RT D s p := by
  refine ⟨hs, hD, hP0, ⟨K, hpl⟩, ?_, ?_⟩
  ·rcases Int.lt_or_le 0 p.f1 with c | c
   ·exact absurd (hB.2.2 0 (Int.le_refl _) c) hb.2.1
   ·omega
  ·rcases Int.lt_or_le p.f2 s.size with c | c
   ·exact absurd (hR ((s.size : Int) - 1) (by omega) (by omega)) hb.2.2
   ·omega
 obtain ⟨t2, ⟨q2, hR2, e2⟩, c2⟩ := turns hRT
 obtain ⟨t3, ⟨q3, hR3, e3⟩, c3⟩ := turns hR2
 rw [e2, rev_rev] at e3
 obtain ⟨K5, hr⟩ := hR3.read
 rw [e3] at hr
 exact ⟨t2, t3, fun w hW => turned c2 hW, fun w hW => turned c3 hW, fun A2 c2 A3 c3 w h1 h2 => reads_calls (V_pl D) K5 t3 _ _ A2 c2 _ A3 c3 _ w h1 h2 hr (same_calls hF)⟩
end
end Go.Proofs.YtkjnahgicfmicaaGreatDoor.Gj

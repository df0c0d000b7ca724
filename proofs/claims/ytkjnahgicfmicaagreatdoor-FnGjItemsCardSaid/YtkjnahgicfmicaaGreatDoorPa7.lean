import Derived.Test.YtkjnahgicfmicaaGreatDoorQq
import Derived.Test.YtkjnahgicfmicaaGreatDoorSpx17
namespace Go.Proofs.YtkjnahgicfmicaaGreatDoor.Gj
open Go.RowKit Go.Proofs.YtkjnahgicfmicaaGreatDoorW.PrintWords Go.Proofs.YtkjnahgicfmicaaGreatDoorW.PrintLast Go.Proofs.YtkjnahgicfmicaaGreatDoorW.PrintMore Sp Dec
set_option linter.unusedVariables false
set_option linter.unusedSimpArgs false
set_option maxRecDepth 100000
noncomputable def itv (s : ByteArray) (p : S31) : S39 := ⟨(cK.f p.f0).getD 0, s.extract p.f1.toNat p.f2.toNat, if p.f0 = 4 then unqO s p.f1 p.f2 else ⟨#[]⟩, 0, true⟩
noncomputable def itA (s : ByteArray) (p : S31) : S41 := ⟨⟨0, ⟨#[]⟩, ⟨#[]⟩, 0, false⟩, itv s p⟩
noncomputable def itO (s : ByteArray) (x : S93 × S31) : S41 := ⟨⟨0, ⟨#[]⟩, unqO s x.1.f0 x.1.f1, 0, false⟩, itv s x.2⟩
noncomputable def itl (s : ByteArray) (kd : Int) (ns : List S93) (ks : List S31) : List S41 := if kd = 5 then ks.map (itA s) else (ns.zip ks).map (itO s)
theorem itv_er {s : ByteArray} {p : S31} {g : GR} (h : GjV s p g) : er39 (gjS g) = itv s p := by
 have h1 : (cK.f p.f0).getD 0 = g.ty := by rw [h.kind]; rfl
 have h2 : (if p.f0 = 4 then unqO s p.f1 p.f2 else ⟨#[]⟩) = g.str := by
  by_cases h4 : p.f0 = 4
  ·obtain ⟨k, hk⟩ := h.str h4
   rw [if_pos h4, unqO_eq hk]
  ·rw [if_neg h4, h.none h4]
 have h3 : (if g.ty = 0 then ((g.raw.size : Int) != 0) else true) = true := by
  by_cases h0 : g.ty = 0
  ·have := h.ty h0
   rw [if_pos h0, bne_iff_ne]
   omega
  ·rw [if_neg h0]
 unfold itv er39 gjS
 simp only
 rw [h1, h2, h3, ← h.raw]
theorem items_er {s : ByteArray} {kd : Int} {ns : List S93} {ks : List S31} {L : List (GR × GR)} (h : Told (fun _ => true) 0 (psOf s kd ns ks) L) : (L.map toS).map er41 = (itl s kd ns ks).map er41 := by
 obtain ⟨hl, ha⟩ := h.all
 unfold psOf at hl ha
 unfold itl
 by_cases h5 : kd = 5
 ·simp only [if_pos h5] at hl ha ⊢
  apply List.ext_getElem
  ·simp only [List.length_map] at hl ⊢; exact hl
  ·intro q hq hq'
   have hq1 : q < L.length := by simpa using hq
   have hq2 : q < ks.length := by simpa using hq'
   have := ha q (OnVal (GjV s ks[q])) L[q] (by simp [hq2]) (by simp [hq1])
   simp only [List.getElem_map]
   unfold er41 toS itA
   simp only
   rw [itv_er this.2]
   have hk : (gjS L[q].1).f2 = ⟨#[]⟩ := this.1
   rw [hk]
   rfl
 ·simp only [if_neg h5] at hl ha ⊢
  apply List.ext_getElem
  ·simp only [List.length_map] at hl ⊢; exact hl
  ·intro q hq hq'
   have hq1 : q < L.length := by simpa using hq
   have hq2 : q < (ns.zip ks).length := by simpa using hq'
   have := ha q (ItemOK s (ns.zip ks)[q]) L[q] (by rw [List.getElem?_map, List.getElem?_eq_getElem hq2]; rfl) (by simp [hq1])
   obtain ⟨⟨k, hk⟩, hv⟩ := this
   simp only [List.getElem_map]
   unfold er41 toS itO
   simp only
   rw [itv_er hv, unqO_eq hk]
   rfl
def V_pl (D : Nat) : cF where
 f := fun k s => places (aI.at_ (D + 1)) k s
 mono := fun a0 k => by
  unfold places
  refine LeO.bind (aA.mono _ _ _) (fun b => LeO.bind ((aI.at_ (D + 1)).mono _ _ _) (fun v => LeO.ite (LeO.bind (aA.mono _ _ _) (fun c => LeO.refl _)) (LeO.refl _)))
 calls := fun k s r1 r2 r3 r4 r5 r6 w h => places_calls _ k s w r1 r2 r3 r4 r5 r6 h
def V_no : cJ where
 f := fun _ _ => none
 mono := fun _ _ => LeO.none _
 calls := fun _ _ _ _ h => by cases h
noncomputable def V_it (s R : ByteArray) (kd : Int) (ns : List S93) (ks : List S31) (K : Nat) (r5 : Int) (hp : bL.f K s = some (5, R, ⟨#[]⟩, 0, r5, [])) (hs : R.size ≤ 1000000) (hr : 0 < R.size) (hL : Lies R (psOf s kd ns ks)) : cJ where
 f := fun k t => if t = s then some (itl s kd ns ks) else none
 mono := fun a0 k => LeO.refl _
 calls := fun k t r w h hW => by
  by_cases ht : t = s
  ·rw [if_pos ht] at h
   obtain rfl := Option.some.inj h
   subst ht
   refine (items_calls K t R ⟨#[]⟩ 0 r5 (psOf t kd ns ks) w hW hp hs hr hL).mono ?_
   rintro e w' ⟨v, L, hT, rfl, hR, hB⟩
   exact ⟨v, L.map toS, rfl, items_er hT, hR, hB⟩
  ·rw [if_neg ht] at h
   cases h
theorem kind_tot (k : Int) : ∃ v, cK.f k = some v := by
 unfold cK.f
 repeat' split
 all_goals exact ⟨_, rfl⟩
def UnqK (s : ByteArray) (p : S31) (k : Nat) : Prop := p.f0 = 4 → aX.f k (s.extract p.f1.toNat p.f2.toNat) = some (unqO s p.f1 p.f2)
theorem kid_unq {s : ByteArray} (hn : Small s) {D : Nat} {p : S31} (h : KdOK (aI.at_ D) s p) : ∃ K, ∀ n, UnqK s p (K + n) := by
 obtain ⟨⟨h0, k, h⟩, hp, hlt, hle⟩ := h
 cases D with
 | zero => cases h
 | succ D =>
  obtain ⟨_, _, _, g1, g2, g3⟩ := value_known hn D k p.f1 p.f0 p.f1 p.f2 p.f3 p.f4 s p.f2 h0 (by omega) h
  obtain ⟨e1, e2, e3, e4, e5, e6⟩ := valo_each hn (value_lex hn (D - 1)) g3 h0 (by omega) g2 hp
  by_cases h4 : p.f0 = 4
  ·obtain ⟨K, hK⟩ := e6 h4
   exact ⟨K, fun n _ => hK n⟩
  ·exact ⟨0, fun n h => absurd h h4⟩
theorem gjat_true {s : ByteArray} {p : S31} {k : Nat} (h0 : 0 ≤ p.f1) (h1 : p.f1 ≤ p.f2) (h2 : p.f2 ≤ s.size) (hU : UnqK s p k) :
  bZ.f k (itv s p).f0 (itv s p).f1 (itv s p).f2 (itv s p).f3 (itv s p).f4 s p.f0 p.f1 p.f2 p.f3 p.f4 = some true := by
 obtain ⟨v, hv⟩ := kind_tot p.f0
 unfold bZ.f itv
 simp only [if_true]
 rw [hv]
 simp only [Option.bind_some, Option.getD_some]
 simp only [if_true]
 rw [if_pos h0, if_pos h1, if_pos h2]
 by_cases h4 : p.f0 = 4
 ·rw [if_pos h4, if_pos h4, hU h4]
  simp
 ·rw [if_neg h4]
section
variable {s : ByteArray} (Vp : cF) (Vi : cJ) {kd : Int} {ns : List S93} {ks : List S31} {K : Nat}
theorem law_l0 (hk : kd = 5 ∨ kd = 6) (hlen : kd = 6 → ns.length = ks.length) (hks : ks.length ≤ 1000000) (hK : ∀ p ∈ ks, (0 ≤ p.f1 ∧ p.f1 ≤ p.f2 ∧ p.f2 ≤ s.size) ∧ ∀ n, UnqK s p (K + n)) (y1 : ByteArray) (y3 : List S25) (z0 z1 z2 : Int) :
  ∀ (d q k : Nat), q + d = ks.length → K + d + 1 ≤ k → bC.l0 Vp Vi k s (itl s kd ns ks) ((ks.length : Nat) : Int) (q : Int) kd y1 (ns.map fun x => unqO s x.f0 x.f1) y3 z0 z1 z2 ns ks = some true
 | d, q, 0, hq, hk => by omega
 | 0, q, k + 1, hq, hk => by
  rw [bC.l0, if_neg (by omega)]
 | d + 1, q, k + 1, hq, hkk => by
  have hqk : q < ks.length := by omega
  obtain ⟨⟨h0, h1, h2⟩, hU⟩ := hK ks[q] (List.getElem_mem hqk)
  have hU := hU (k - K)
  rw [show K + (k - K) = k by omega] at hU
  have hil : (itl s kd ns ks).length = ks.length := by
   unfold itl
   split
   ·simp
   ·have := hlen (by omega)
    simp; omega
  have ih := law_l0 hk hlen hks hK y1 y3 z0 z1 z2 d (q + 1) k (by omega) (by omega)
  have hr : rd_T31 ks (q : Int) = ks[q] := getD_at _ _ _ hqk
  have hv : (rd_T41 (itl s kd ns ks) (q : Int)).f1 = itv s ks[q] := by
   have e : rd_T41 (itl s kd ns ks) (q : Int) = (itl s kd ns ks)[q]'(by omega) := getD_at _ _ _ (by omega)
   rw [e]
   by_cases h5 : kd = 5
   ·simp only [itl, if_pos h5, List.getElem_map]; rfl
   ·simp only [itl, if_neg h5, List.getElem_map, List.getElem_zip]; rfl
  rw [bC.l0, if_pos (by omega), if_pos (by omega), if_pos (by omega), if_pos (by omega), hr, hv, gjat_true h0 h1 h2 hU, wp1 (by omega)]
  simp only [Option.bind_some, if_true]
  by_cases h6 : kd = 6
  ·have hl := hlen h6
   have hnm : (rd_T41 (itl s kd ns ks) (q : Int)).f0.f2 = rdOf ByteArray.empty (ns.map fun x => unqO s x.f0 x.f1) (q : Int) := by
    have e : rd_T41 (itl s kd ns ks) (q : Int) = (itl s kd ns ks)[q]'(by omega) := getD_at _ _ _ (by omega)
    have e2 : rdOf ByteArray.empty (ns.map fun x => unqO s x.f0 x.f1) (q : Int) = (ns.map fun x => unqO s x.f0 x.f1)[q]'(by simp; omega) := getD_at _ _ _ (by simp; omega)
    rw [e, e2]
    simp only [itl, if_neg (show ¬ kd = 5 by omega), List.getElem_map, List.getElem_zip]
    rfl
   rw [if_pos h6, if_pos (by rw [List.length_map]; omega), hnm, if_pos rfl]
   exact ih
  ·rw [if_neg h6]
   exact ih
end
theorem j0_true (Vp : cF) (Vi : cJ) (k : Nat) (s : ByteArray) (y0 : Int) (y1 : ByteArray) (y2 : List ByteArray) (y3 : List S25) : bC.j0 Vp Vi (k + 1) s true y0 y1 y2 y3 = some true := by
 rw [bC.j0, if_pos rfl]
theorem places_tot {s : ByteArray} (hn : Small s) : ∃ D K r, ∀ n, (V_pl D).f (K + n) s = some r := by
 obtain ⟨j, hb, h1, h2⟩ := blanks_t s hn (s.size + 20) 0 (by omega) (by omega) (by omega)
 have hT := (reader_tots hn (2 * s.size + 1 + 1)).1
 obtain ⟨kd, ns, ks, ok, j2, hv, h3, h4, h5⟩ := hT (s.size + 20) j (by omega) h2 (by omega) (by omega)
 have : ∃ r, (V_pl (2 * s.size + 1)).f (s.size + 20) s = some r := by
  show ∃ r, places _ _ s = some r
  unfold places
  rw [hb]
  simp only [Option.bind_some]
  rw [hv]
  simp only [Option.bind_some]
  cases ok with
  | false => exact ⟨_, rfl⟩
  | true =>
   obtain ⟨j3, hb3, _, _⟩ := blanks_t s hn (s.size + 20) j2 (by omega) h4 (by omega)
   rw [if_pos rfl, hb3]
   simp only [Option.bind_some]
   split <;> exact ⟨_, rfl⟩
 obtain ⟨r, hr⟩ := this
 exact ⟨_, _, r, upk (f := fun k => (V_pl (2 * s.size + 1)).f k s) (fun k => (V_pl (2 * s.size + 1)).mono s k) hr⟩
theorem paired_up {s : ByteArray} (hn : Small s) : ∃ K b, ∀ n, bM.f (K + n) s = some b := by
 obtain ⟨b, hb⟩ := paired_tot hn s.size (s.size + 12) 0 (by omega) (by omega) (by omega) (by omega)
 exact ⟨s.size + 12, b, upk (f := fun k => bM.f k s) (fun k => bM.mono s k) hb⟩
theorem text_of {Vp : cF} {s : ByteArray} {k : Nat} {r : Int × ByteArray × List ByteArray × List S25 × Bool} (hs : s.size ≤ 65536) (hu : cC.f k s = some true) (hp : bM.f k s = some true) (hr : fF.f Vp k s = some r) : dL.f Vp k s = some r := by
 unfold dL.f
 rw [if_neg (by omega), hu]
 simp only [Option.bind_some]
 rw [if_pos trivial, hp]
 simp only [Option.bind_some]
 rw [if_pos trivial, hr]
 rfl
theorem law_off {Vp : cF} {Vi : cJ} {s : ByteArray} {k : Nat} {y0 : Int} {y1 : ByteArray} {y2 : List ByteArray} {y3 : List S25} (h : dL.f Vp (k + 1) s = some (y0, y1, y2, y3, false)) : bC.f Vp Vi (k + 1) s = some true := by
 unfold bC.f
 by_cases h31 : (s.size : Int) > 2147483647
 ·rw [if_pos h31]
 ·rw [if_neg h31, h]
  simp only [Option.bind_some]
  rw [if_neg (by decide)]
  exact j0_true _ _ _ _ _ _ _ _
theorem law_true (s : ByteArray) : ∃ (Vp : cF) (Vi : cJ) (k : Nat), bC.f Vp Vi k s = some true := by
 by_cases hs : s.size ≤ 65536
 case neg =>
  refine ⟨V_pl 0, V_no, 1, law_off (y0 := 0) (y1 := ⟨#[]⟩) (y2 := []) (y3 := []) ?_⟩
  unfold dL.f
  rw [if_pos (by omega)]
 have hn : Small s := by unfold Small; omega
 obtain ⟨K1, b1, hu⟩ := wY hn
 obtain ⟨K2, b2, hp⟩ := paired_up hn
 obtain ⟨D, K3, ⟨kd, b, j, ns, ks, ok⟩, hr⟩ := places_tot hn
 have hu : ∀ k, K1 ≤ k → cC.f k s = some b1 := fun k h => by have := hu (k - K1); rwa [show K1 + (k - K1) = k by omega] at this
 have hpp : ∀ k, K2 ≤ k → bM.f k s = some b2 := fun k h => by have := hp (k - K2); rwa [show K2 + (k - K2) = k by omega] at this
 have hrr : ∀ k, K3 ≤ k → (V_pl D).f k s = some (kd, b, j, ns, ks, ok) := fun k h => by have := hr (k - K3); rwa [show K3 + (k - K3) = k by omega] at this
 cases b1 with
 | false =>
  refine ⟨V_pl D, V_no, K1 + 1, law_off (y0 := 0) (y1 := ⟨#[]⟩) (y2 := []) (y3 := []) ?_⟩
  unfold dL.f
  rw [if_neg (by omega), hu (K1 + 1) (by omega)]
  rfl
 | true =>
 cases b2 with
 | false =>
  refine ⟨V_pl D, V_no, K1 + K2 + 1, law_off (y0 := 0) (y1 := ⟨#[]⟩) (y2 := []) (y3 := []) ?_⟩
  unfold dL.f
  rw [if_neg (by omega), hu (K1 + K2 + 1) (by omega)]
  simp only [Option.bind_some]
  rw [if_pos trivial, hpp (K1 + K2 + 1) (by omega)]
  rfl
 | true =>
 cases ok with
 | false =>
  refine ⟨V_pl D, V_no, K1 + K2 + K3 + 1, law_off (y0 := 0) (y1 := ⟨#[]⟩) (y2 := []) (y3 := []) (text_of hs (hu _ (by omega)) (hpp _ (by omega)) ?_)⟩
  unfold fF.f
  rw [hrr _ (by omega)]
  rfl
 | true =>
 have hP0 : PairedAt s 0 := ⟨K2, hpp K2 (Nat.le_refl _)⟩
 have hpl : places (aI.at_ (D + 1)) K3 s = some (kd, b, j, ns, ks, true) := hrr K3 (Nat.le_refl _)
 obtain ⟨h0, hB, hlt, hle, hR, hV, hVR⟩ := places_inv hn hpl
 have hpb := (hB.lex (by omega)).paired hn hP0
 obtain ⟨K4, t, tks, hT⟩ := tree_tot hn hs (D + 1) ⟨kd, b, j, ns, ks⟩ hVR hpb hlt hle
 simp only at hT
 have hTT : ∀ k, K4 ≤ k → bB.f k s kd b j ns ks = some (kd, t, ns.map (fun x => unqO s x.f0 x.f1), tks) := fun k h => by
  have := upk (f := fun k => bB.f k s kd b j ns ks) (fun k => bB.mono _ _ _ _ _ _ k) hT (k - K4)
  rwa [show K4 + (k - K4) = k by omega] at this
 have hread : ∀ k, K3 + K4 ≤ k → fF.f (V_pl D) k s = some (kd, t, ns.map (fun x => unqO s x.f0 x.f1), tks, true) := fun k h => by
  unfold fF.f
  rw [hrr _ (by omega)]
  simp only [Option.bind_some]
  rw [if_pos trivial, hTT _ (by omega)]
  rfl
 have htext : ∀ k, K1 + K2 + K3 + K4 ≤ k → dL.f (V_pl D) k s = some (kd, t, ns.map (fun x => unqO s x.f0 x.f1), tks, true) := fun k h => text_of hs (hu _ (by omega)) (hpp _ (by omega)) (hread _ (by omega))
 by_cases hk : kd = 5 ∨ kd = 6
 case neg =>
  refine ⟨V_pl D, V_no, K1 + K2 + K3 + K4 + 1, ?_⟩
  unfold bC.f
  rw [if_neg (by omega), htext _ (by omega)]
  simp only [Option.bind_some]
  rw [if_pos trivial, if_neg (by omega), show (kd != 6) = true from bne_iff_ne.mpr (by omega)]
  exact j0_true _ _ _ _ _ _ _ _
 obtain ⟨hL, hlen, hks, K5, r5, hPa⟩ := lies_of hs hP0 hpl hk
 obtain ⟨e1, _⟩ := valo_each hn (value_lex hn (D - 1)) hV h0 (by omega) hle hpb
 obtain ⟨K6, hK6⟩ := bound (P := UnqK s) ks (fun p hq => kid_unq hn (e1 p hq))
 have hRs : (s.extract b.toNat s.size).size = s.size - b.toNat := sz_sh s b.toNat
 have hKK : ∀ p ∈ ks, (0 ≤ p.f1 ∧ p.f1 ≤ p.f2 ∧ p.f2 ≤ s.size) ∧ ∀ n, UnqK s p (K6 + n) := fun p hq => by
  obtain ⟨⟨a1, _⟩, a2, a3, a4⟩ := e1 p hq
  exact ⟨⟨a1, by omega, a4⟩, hK6 p hq⟩
 have hil : (itl s kd ns ks).length = ks.length := by
  unfold itl
  split
  ·simp
  ·have := hlen (by omega)
   simp; omega
 have hj : ∀ (Vi : cJ), (∀ k, Vi.f k s = some (itl s kd ns ks)) → ∀ k, K3 + K6 + ks.length + 1 ≤ k → bC.j0 (V_pl D) Vi (k + 1) s false kd t (ns.map fun x => unqO s x.f0 x.f1) tks = some true := by
  intro Vi hVi k hkk
  rw [bC.j0, if_neg (by decide), hrr _ (by omega)]
  simp only [Option.bind_some]
  rw [hVi]
  simp only [Option.bind_some]
  rw [if_pos (by omega), hil]
  exact law_l0 (V_pl D) Vi hk hlen (by omega) hKK t tks kd b j ks.length 0 k (by omega) (by omega)
 refine ⟨V_pl D, V_it s _ kd ns ks K5 r5 hPa (by omega) (by omega) hL, K1 + K2 + K3 + K4 + K6 + ks.length + 1 + 1, ?_⟩
 have hVi : ∀ k, (V_it s _ kd ns ks K5 r5 hPa (by omega) (by omega) hL).f k s = some (itl s kd ns ks) := fun k => if_pos rfl
 generalize V_it s _ kd ns ks K5 r5 hPa _ _ hL = Vi at hVi ⊢
 unfold bC.f
 rw [if_neg (by omega), htext _ (by omega)]
 simp only [Option.bind_some]
 rw [if_pos trivial]
 rcases hk with rfl | rfl
 ·rw [if_pos rfl]
  exact hj Vi hVi _ (by omega)
 ·rw [if_neg (by decide), show ((6 : Int) != 6) = false by decide]
  exact hj Vi hVi _ (by omega)
end Go.Proofs.YtkjnahgicfmicaaGreatDoor.Gj

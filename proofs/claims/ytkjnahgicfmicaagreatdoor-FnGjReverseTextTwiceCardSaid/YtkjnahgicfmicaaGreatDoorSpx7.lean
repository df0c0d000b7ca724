import Derived.Test.YtkjnahgicfmicaaGreatDoorZip
import Derived.Test.YtkjnahgicfmicaaGreatDoorQa
import Derived.Test.YtkjnahgicfmicaaGreatDoorQc
namespace Go.Proofs.YtkjnahgicfmicaaGreatDoor.Sp
open Go.RowKit Go.PW Go.PL Go.PM
attribute [local go_sem] max2_int min2_int max_two min_two max_three min_three max_four min_four
set_option linter.unusedVariables false
set_option linter.unusedSimpArgs false
mutual
def aM.j0 : Nat → av → Int → Int → Int → List (S93) → List (S31) → Int → av → Option (Int × av × List av × (List (S25)))
 | 0, _, _, _, _, _, _, _, _ => none
 | k + 1, x0, iV, iW, iX, eN, eU, iC, iD => aM.l0 k x0 0 iV iW iX eN eU iC iD ([] : List av)
def aM.l0 : Nat → av → Int → Int → Int → Int → List (S93) → List (S31) → Int → av → List av → Option (Int × av × List av × (List (S25)))
 | 0, _, _, _, _, _, _, _, _, _, _ => none
 | k + 1, x0, x6, iV, iW, iX, eN, eU, iC, iD, iY => if x6 < (eN.length : Int) then (if 0 ≤ x6 then (if 0 ≤ ((rd_T93 eN x6).f0) then (if ((rd_T93 eN x6).f0) ≤ ((rd_T93 eN x6).f1) then (if ((rd_T93 eN x6).f1) ≤ (x0.size : Int) then ((aZ.f k (x0.extract (((rd_T93 eN x6).f0) : Int).toNat (((rd_T93 eN x6).f1) : Int).toNat)).bind fun tC => (if iY.length < 8796093022208 then (aM.l0 k x0 (wrap64 (x6 + 1)) iV iW iX eN eU iC iD (iY ++ [tC])) else (none))) else (none)) else (none)) else (none)) else (none)) else (aM.l1 k x0 0 iV iW iX eN eU iC iD iY ([] : List (S25)))
def aM.l1 : Nat → av → Int → Int → Int → Int → List (S93) → List (S31) → Int → av → List av → List (S25) → Option (Int × av × List av × (List (S25)))
 | 0, _, _, _, _, _, _, _, _, _, _, _ => none
 | k + 1, x0, x7, iV, iW, iX, eN, eU, iC, iD, iY, oD => if x7 < (eU.length : Int) then (if 0 ≤ x7 then ((aM.f k x0 ((rd_T31 eU x7).f0) ((rd_T31 eU x7).f1) ((rd_T31 eU x7).f2) ((rd_T31 eU x7).f3) ((rd_T31 eU x7).f4)).bind fun bt344 => (if oD.length < 1954687338268 then (aM.l1 k x0 (wrap64 (x7 + 1)) iV iW iX eN eU iC iD iY (oD ++ [(⟨bt344.1, bt344.2.1, bt344.2.2.1, bt344.2.2.2⟩ : S25)])) else (none))) else (none)) else (some (iC, iD, iY, oD))
def aM.f : Nat → av → Int → Int → Int → List (S93) → List (S31) → Option (Int × av × List av × (List (S25)))
 | 0, _, _, _, _, _, _ => none
 | k + 1, a0, a1_0, a1_1, a1_2, l1_3, l1_4 => if a1_0 = 3 then (if 0 ≤ a1_1 then (if a1_1 ≤ a1_2 then (if a1_2 ≤ (a0.size : Int) then (aM.j0 k a0 a1_0 a1_1 a1_2 l1_3 l1_4 a1_0 (a0.extract (a1_1 : Int).toNat (a1_2 : Int).toNat)) else (none)) else (none)) else (none)) else (if a1_0 = 4 then (if 0 ≤ a1_1 then (if a1_1 ≤ a1_2 then (if a1_2 ≤ (a0.size : Int) then ((aZ.f k (a0.extract (a1_1 : Int).toNat (a1_2 : Int).toNat)).bind fun tD => (aM.j0 k a0 a1_0 a1_1 a1_2 l1_3 l1_4 a1_0 tD)) else (none)) else (none)) else (none)) else (aM.j0 k a0 a1_0 a1_1 a1_2 l1_3 l1_4 a1_0 (⟨#[]⟩ : av)))
end
theorem aM.mono_l : ∀ k, (∀ y0 y1 y2 y3 y4 y5, LeO (aM.f k y0 y1 y2 y3 y4 y5) (aM.f (k + 1) y0 y1 y2 y3 y4 y5)) ∧ (∀ y0 y1 y2 y3 y4 y5 y6 y7, LeO (aM.j0 k y0 y1 y2 y3 y4 y5 y6 y7) (aM.j0 (k + 1) y0 y1 y2 y3 y4 y5 y6 y7)) ∧ (∀ y0 y1 y2 y3 y4 y5 y6 y7 y8 y9, LeO (aM.l0 k y0 y1 y2 y3 y4 y5 y6 y7 y8 y9) (aM.l0 (k + 1) y0 y1 y2 y3 y4 y5 y6 y7 y8 y9)) ∧ (∀ y0 y1 y2 y3 y4 y5 y6 y7 y8 y9 y10, LeO (aM.l1 k y0 y1 y2 y3 y4 y5 y6 y7 y8 y9 y10) (aM.l1 (k + 1) y0 y1 y2 y3 y4 y5 y6 y7 y8 y9 y10))
 | 0 => ⟨fun _ _ _ _ _ _ r h => by simp [aM.f] at h, fun _ _ _ _ _ _ _ _ r h => by simp [aM.j0] at h, fun _ _ _ _ _ _ _ _ _ _ r h => by simp [aM.l0] at h, fun _ _ _ _ _ _ _ _ _ _ _ r h => by simp [aM.l1] at h⟩
 | k + 1 => by
  obtain ⟨ih0, ih1, ih2, ih3⟩ := aM.mono_l k
  refine ⟨?_, ?_, ?_, ?_⟩
  ·intro y0 y1 y2 y3 y4 y5
   unfold aM.f
   exact zM
  ·intro y0 y1 y2 y3 y4 y5 y6 y7
   unfold aM.j0
   exact zM
  ·intro y0 y1 y2 y3 y4 y5 y6 y7 y8 y9
   unfold aM.l0
   exact zM
  ·intro y0 y1 y2 y3 y4 y5 y6 y7 y8 y9 y10
   unfold aM.l1
   exact zM
theorem aM.mono : ∀ a0 a1 a2 a3 a4 a5 k, LeO (aM.f k a0 a1 a2 a3 a4 a5) (aM.f (k + 1) a0 a1 a2 a3 a4 a5) := by
 intro a0 a1 a2 a3 a4 a5 k
 obtain ⟨ih0, ih1, ih2, ih3⟩ := aM.mono_l k
 exact ih0 a0 a1 a2 a3 a4 a5
def aM.T10 : Bool × List (List Nat × List Nat) := (true, [([], []), ([0], [0]), ([], []), ([], []), ([3], [3]), ([], []), ([4, 5], [4, 5]), ([6], [6]), ([7], [7]), ([], []), ([9], [9]), ([], []), ([10, 11], [10, 11]), ([12], [12]), ([13], [13]), ([2, 8, 14], [2, 8, 14]), ([15], [15]), ([16], [16]), ([1, 17, 16], [1, 17]), ([0, 1, 2, 3, 4, 5, 6, 7, 8, 9, 10, 11, 12, 13, 14, 15, 16, 17, 18], []), ([19, 18, 18, 0, 1, 2, 3, 4, 5, 6, 7, 8, 9, 10, 11, 12, 13, 14, 15, 16, 17, 18], [18, 19])])
def aM.B10 : List Nat := [0, 1, 0, 0, 8, 0, 56, 120, 248, 0, 512, 0, 3584, 7680, 15872, 32764, 65532, 131068, 262143, 524287, 1048575]
theorem aM.tab10 : rtab .any (opsOf Tryz.f37 10) = aM.T10 := by kernel_rfl
theorem aM.bits10 : waitsOk aM.T10.2 aM.B10 = true := by kernel_rfl
def aM.T14 : Bool × List (List Nat × List Nat) := (true, [([], []), ([0], [0]), ([], []), ([], []), ([3], [3]), ([], []), ([4, 5], [4, 5]), ([6], [6]), ([2, 7], [2, 7]), ([8], [8]), ([1, 9, 8], [1, 9]), ([0, 1, 2, 3, 4, 5, 6, 7, 8, 9, 10], []), ([11, 10, 10, 0, 1, 2, 3, 4, 5, 6, 7, 8, 9, 10], [10, 11])])
def aM.B14 : List Nat := [0, 1, 0, 0, 8, 0, 56, 120, 252, 508, 1023, 2047, 4095]
theorem aM.tab14 : rtab .any (opsOf Tryz.f37 14) = aM.T14 := by kernel_rfl
theorem aM.bits14 : waitsOk aM.T14.2 aM.B14 = true := by kernel_rfl
set_option maxHeartbeats 8000000 in
set_option maxRecDepth 100000 in
theorem aM.calls (k : Nat) : ∀ (a0 : av) (a1_0 : Int) (a1_1 : Int) (a1_2 : Int) (A1_3 : Option Addr) (c1_3 : Nat) (l1_3 : List (S93)) (A1_4 : Option Addr) (c1_4 : Nat) (l1_4 : List (S31)) (r1 : Int) (r2 : av) (r3 : List av) (r4 : List (S25)) (w : World) (hr1_3 : Kd.C k93 w A1_3 l1_3.length l1_3) (hc1_3 : l1_3.length ≤ c1_3) (hr1_4 : Kd.C k31 w A1_4 l1_4.length l1_4) (hc1_4 : l1_4.length ≤ c1_4) (h : aM.f k a0 a1_0 a1_1 a1_2 l1_3 l1_4 = some (r1, r2, r3, r4)),
 Calls Tryz.prog 37 #[.string a0, .agg #[.int .i64 a1_0, .int .i64 a1_1, .int .i64 a1_2, .slice A1_3 l1_3.length c1_3, .slice A1_4 l1_4.length c1_4]] w fun e w' => ∃ v2_ v3_ : Value, e = .returned (.agg #[.int .i64 r1, .string r2, v2_, v3_]) ∧ Kd.R Kd.string 9 w' w.heap.size (fun _ => True) v2_ r3 ∧ Kd.R k25 25 w' w.heap.size (fun k_ => some k_ ≠ (v2_ : Value).ownBlock) v3_ r4 ∧ Below w.heap.size w w' := by
 induction k using Nat.strongRecOn with
 | _ k ih =>
 intro a0 a1_0 a1_1 a1_2 A1_3 c1_3 l1_3 A1_4 c1_4 l1_4 r1 r2 r3 r4 w hr1_3 hc1_3 hr1_4 hc1_4 h
 cases k with
 | zero => exact absurd h (by simp [aM.f])
 | succ k =>
 simp only [aM.f] at h
 have hu31 := Tryz.underlying31
 have hu25 := Tryz.underlying25
 have qI := ab hr1_3
 have HC1_3 := ab hc1_3
 clear hr1_3 hc1_3
 have Jc := ab hr1_4
 have HC1_4 := ab hc1_4
 clear hr1_4 hc1_4
 have HB := ab (Below.refl w.heap.size w)
 have H : (if a1_0 = 3 then (if 0 ≤ a1_1 then (if a1_1 ≤ a1_2 then (if a1_2 ≤ (a0.size : Int) then (aM.j0 k a0 a1_0 a1_1 a1_2 l1_3 l1_4 a1_0 (a0.extract (a1_1 : Int).toNat (a1_2 : Int).toNat)) else (none)) else (none)) else (none)) else (if a1_0 = 4 then (if 0 ≤ a1_1 then (if a1_1 ≤ a1_2 then (if a1_2 ≤ (a0.size : Int) then ((aZ.f k (a0.extract (a1_1 : Int).toNat (a1_2 : Int).toNat)).bind fun tD => (aM.j0 k a0 a1_0 a1_1 a1_2 l1_3 l1_4 a1_0 tD)) else (none)) else (none)) else (none)) else (aM.j0 k a0 a1_0 a1_1 a1_2 l1_3 l1_4 a1_0 (⟨#[]⟩ : av)))) = some (r1, r2, r3, r4) := h
 clear h
 have oJ := ab H
 clear H
 go_enter Tryz.func37, Tryz.ntmps37
 go_upto_block 0 with (first | (refine ax 3 #[.int .i64 a1_0, .int .i64 a1_1, .int .i64 a1_2, .slice A1_3 l1_3.length c1_3, .slice A1_4 l1_4.length c1_4] 31 ?_; intro eR hg w4 hbox hb; have bV := ab (hbox); have ahH : Aside0 (w.heap.size ≤ eR) := ⟨Z24⟩; have ahI : Aside0 (w.heap.size ≤ eR) := ⟨Z24⟩; replace HB := ab (below_step (w := w) zB hb); clear hb hbox hg) | (refine ax 4 #[.int .i64 0, .string (⟨#[]⟩ : av), .slice none 0 0, .slice none 0 0] 25 ?_; intro dJ hg w5 hbox hb; have fH := ab (hbox); have ahJ : Aside0 (w.heap.size ≤ dJ) := ⟨Z24⟩; have ahK : Aside0 (w.heap.size ≤ dJ) := ⟨Z24⟩; replace HB := ab (below_step (w := w) zB hb); have fR : Aside0 (eR ≠ dJ) := ⟨by rw [hg]; exact Nat.ne_of_lt (blk_lt (g := eR) zC)⟩; have fS : Aside0 (dJ ≠ eR) := ⟨by rw [hg]; exact Nat.ne_of_gt (blk_lt (g := eR) zC)⟩; replace bV := ab (blk_below (g := eR) zC hb); clear hb hbox hg; have amA := fR.out; have amB := fS.out; obtain ⟨nL, nM, Dc, Dd, De, nN, nO, Df, Dg, Dh⟩ := cz5 bV.out) | (refine ax 5 #[.int .i64 0, .string (⟨#[]⟩ : av), .slice none 0 0, .slice none 0 0] 25 ?_; intro dV hg w8 hbox hb; have cB := ab (hbox); have ahL : Aside0 (w.heap.size ≤ dV) := ⟨Z24⟩; have ahM : Aside0 (w.heap.size ≤ dV) := ⟨Z24⟩; replace HB := ab (below_step (w := w) zB hb); have eO : Aside0 (eR ≠ dV) := ⟨by rw [hg]; exact Nat.ne_of_lt (blk_lt (g := eR) zC)⟩; have eP : Aside0 (dV ≠ eR) := ⟨by rw [hg]; exact Nat.ne_of_gt (blk_lt (g := eR) zC)⟩; replace bV := ab (blk_below (g := eR) zC hb); have gN : Aside0 (dJ ≠ dV) := ⟨by rw [hg]; exact Nat.ne_of_lt (blk_lt (g := dJ) zC)⟩; have gO : Aside0 (dV ≠ dJ) := ⟨by rw [hg]; exact Nat.ne_of_gt (blk_lt (g := dJ) zC)⟩; replace fH := ab (blk_below (g := dJ) zC hb); clear hb hbox hg; have Ec := eP.out; have Ed := eO.out; have ahN := gO.out; have ahO := gN.out; obtain ⟨rK, rL, yI, yJ, rM, rN, yK, yL⟩ := cz4 cB.out; obtain ⟨kC, kD, oE, oF, rY, kE, kF, oG, oH, rZ⟩ := cz5 bV.out))
 (try simp only [Act.put, ap, aq, ar])
 go_cut [] (fun wc => ∃ (kq : Nat) (dE : av), Aside0 (aM.j0 kq a0 a1_0 a1_1 a1_2 l1_3 l1_4 a1_0 dE = some (r1, r2, r3, r4)) ∧ Aside0 (kq ≤ k) ∧ Aside0 (wc.heap[eR]? = some (.cells #[.int .i64 a1_0, .int .i64 a1_1, .int .i64 a1_2, (.slice A1_3 l1_3.length c1_3), (.slice A1_4 l1_4.length c1_4)] 31 (0, 0))) ∧ Aside0 (wc.heap[dJ]? = some (.cells #[.int .i64 0, .string (⟨#[]⟩ : av), (.slice none 0 0), (.slice none 0 0)] 25 (0, 0))) ∧ Aside0 (wc.heap[dV]? = some (.cells #[.int .i64 a1_0, .string dE, (.slice none 0 0), (.slice none 0 0)] 25 (0, 0))) ∧ Aside0 (Below w.heap.size w wc))
 case first =>
  have H := oJ.out
  clear oJ
  revert H; refine sIe1n0_e0n1 (fun lR tS H => ?_) fun lR tS H => ?_
  ·(first | rw [lR] | (simp only [i64_w, i32_w]; rw [lR]) | skip)
   revert H; refine sNt1d1 fun fK jH H => ?_
   revert H; refine sNt1d1 fun jG qY H => ?_
   revert H; refine sNt1d1 fun gY tT H => ?_
   as_aux_lemma =>
    have H' := ab H
    clear H
    have ahP := fR.out
    have ahQ := fS.out
    have Jd := eO.out
    have Je := eP.out
    obtain ⟨yM, yN, yO, yP, yQ, yR, yS, yT, yU, yV⟩ := cz5 bV.out
    have ahR := gO.out
    have ahS := gN.out
    obtain ⟨wY, wZ, Oy, Oz, xA, xB, Pa, Pb⟩ := cz4 cB.out
    go_wp2
    go_meet
    case rel => exact ⟨_, (a0.extract (a1_1 : Int).toNat (a1_2 : Int).toNat), H', ⟨Z27⟩, ⟨zC⟩, ⟨zC⟩, ⟨zC⟩, ⟨zB⟩⟩
  (first | rw [lR] | (simp only [i64_w, i32_w]; rw [lR]) | skip)
  revert H; refine sIe1n0_e0n1 (fun kR Aw H => ?_) fun kR Aw H => ?_
  ·revert H; refine sNt1d1 fun lN Ff H => ?_
   revert H; refine sNt1d1 fun oO Fg H => ?_
   revert H; refine sNt1d1 fun kB qS H => ?_
   revert H; refine bnd ?_; rintro tD Es H
   as_aux_lemma =>
    have H' := ab H
    clear H
    have ahT := fR.out
    have ahU := fS.out
    have ahV := eO.out
    have ahW := eP.out
    obtain ⟨Pc, Pd, Pe, Pf, Pg, Ph, Pi, Pj, Pk, Pl⟩ := cz5 bV.out
    go_wp2_with (first | (refine gl 26 (some 30) Tryz.func26 #[.string (a0.extract (a1_1 : Int).toNat (a1_2 : Int).toNat)] ?_; (with_reducible refine (aZ.calls k (a0.extract (a1_1 : Int).toNat (a1_2 : Int).toNat) tD _ Es.out).mono ?_); rintro e w30 ⟨rfl, hb⟩; refine ⟨_, rfl, ?_⟩; replace bV := ab (blk_below (g := eR) zC hb); replace fH := ab (blk_below (g := dJ) zC hb); replace cB := ab (blk_below (g := dV) (o := .cells #[.int .i64 a1_0, .string (⟨#[]⟩ : av), .slice none 0 0, .slice none 0 0] 25 (0, 0)) zC hb); replace HB := ab (below_step (w := w) zB hb); clear hb; have ahX := gO.out; have ahY := gN.out; obtain ⟨yW, yX, yY, yZ, zA, zD, zF, zG⟩ := cz4 cB.out))
    go_meet
    case rel => exact ⟨_, (tD), H', ⟨Z27⟩, ⟨zC⟩, ⟨zC⟩, ⟨zC⟩, ⟨zB⟩⟩
  as_aux_lemma =>
   have H' := ab H
   clear H
   go_wp2
   go_meet
   case rel => exact ⟨_, ((⟨#[]⟩ : av)), H', ⟨Z27⟩, ⟨zC⟩, ⟨zC⟩, ⟨zC⟩, ⟨zB⟩⟩
 case rest =>
  clear oJ
  try clear rK rL yI yJ kC kD oE oF rY nL nM Dc Dd De rM rN yK yL kE kF oG oH rZ nN nO Df Dg Dh
  obtain ⟨kq, dE, HA, HJ2, bV, fH, cB, HB⟩ := hcut
  cases kq with
  | zero => exact absurd HA.out (by simp [aM.j0])
  | succ kj2 =>
   have H := HA.out
   clear HA
   simp only [aM.j0] at H
   have H' := ab H
   clear H
   go_wp2
   (try simp only [Act.put, ap, aq, ar])
   go_loopg [6] kj2 (fun kq v6 w' => ∃ (fC : Int) (dW : List av) (u336002 : Value), v6 = .int .i64 fC ∧ Aside0 (aM.l0 kq a0 fC a1_0 a1_1 a1_2 l1_3 l1_4 a1_0 dE dW = some (r1, r2, r3, r4)) ∧ Aside0 (kq ≤ kj2) ∧ Aside0 (Kd.R Kd.string 9 w' w.heap.size (fun _ => True) u336002 dW) ∧ Aside0 (w'.heap[eR]? = some (.cells #[.int .i64 a1_0, .int .i64 a1_1, .int .i64 a1_2, (.slice A1_3 l1_3.length c1_3), (.slice A1_4 l1_4.length c1_4)] 31 (0, 0))) ∧ Aside0 (w'.heap[dJ]? = some (.cells #[.int .i64 0, .string (⟨#[]⟩ : av), (.slice none 0 0), (.slice none 0 0)] 25 (0, 0))) ∧ Aside0 (w'.heap[dV]? = some (.cells #[.int .i64 a1_0, .string dE, u336002, (.slice none 0 0)] 25 (0, 0))) ∧ Aside0 (Below w.heap.size w w'))
   case atStart => exact ⟨(0), (([] : List av)), (.slice none 0 0), Z7, H', ⟨Nat.le_refl _⟩, ⟨Z8⟩, ⟨zC⟩, ⟨zC⟩, ⟨zC⟩, ⟨zB⟩⟩
   case round =>
    clear H'
    obtain ⟨fC, dW, u336002, rfl, HA, HK2, cL, bV, fH, cB, HB⟩ := hrel
    cases gk with
    | zero => exact absurd HA.out (by simp [aM.l0])
    | succ k2 =>
     have H := HA.out
     clear HA
     simp only [aM.l0] at H
     revert H; refine sId1_d0 (fun tP H => ?_) fun tP H => ?_
     ·revert H; refine sNd1 fun Av H => ?_
      revert H; refine sNt1d1 fun tQ tR H => ?_
      revert H; refine sNt1d1 fun lP lQ H => ?_
      revert H; refine sNt1d1 fun Gq Gr H => ?_
      revert H; refine bnd ?_; rintro tC A38 H
      revert H; refine sNk fun c39 H => ?_
      have Jf := ab c39
      clear c39
      obtain ⟨zH, hy340⟩ : ∃ y_ : List av, y_ = (dW ++ [tC]) := ⟨_, rfl⟩
      replace H : (aM.l0 k2 a0 (wrap64 (fC + 1)) a1_0 a1_1 a1_2 l1_3 l1_4 a1_0 dE zH) = some (r1, r2, r3, r4) := by first | (rw [hy340]; with_reducible exact H) | (have H2_ := (al _ _).symm.trans H; rw [hy340]; with_reducible exact H2_) | (have H2_ := (al _ _).symm.trans H; with_reducible exact H2_) | with_reducible exact H | (rw [hy340]; exact H) | exact H
      have Jg := ab hy340
      clear hy340
      as_aux_lemma =>
       have H' := ab H
       clear H
       have ahZ := fR.out
       have aiA := fS.out
       have aiB := eO.out
       have aiC := eP.out
       obtain ⟨Pm, Pn, Po, Pp, Pq, Pr, Ps, Pt, Pu, Pv⟩ := cz5 bV.out
       try go_wp2
       replace cL := ab (Kd.R_drew cL.out)
       replace bV := ab (blk_drew bV.out)
       replace fH := ab (blk_drew fH.out)
       replace cB := ab (blk_drew cB.out)
       replace HB := ab (below_drew1 HB.out)
       have p337 : 0 ≤ (fC : Int) := ac Z6
       have q337 : fC < (l1_3.length : Int) := ac Z6
       obtain ⟨kW, e337, hx337_0, hx337_1⟩ := at_T93 qI.out fC p337 q337
       have fT := hx337_1
       have fU := hx337_0
       cases e337
       replace hx337_0 := aw HB.out hx337_0
       replace hx337_1 := aw HB.out hx337_1
       replace p337 := ag p337
       replace q337 := ag q337
       have p338 : 0 ≤ (fC : Int) := ac Z6
       have q338 : fC < (l1_3.length : Int) := ac Z6
       obtain ⟨Jh, e338, hx338_0, hx338_1⟩ := at_T93 qI.out fC p338 q338
       have fV := hx338_1
       have fW := hx338_0
       obtain rfl : kW = Jh := (by injection e338)
       replace hx338_0 := aw HB.out hx338_0
       replace hx338_1 := aw HB.out hx338_1
       replace p338 := ag p338
       replace q338 := ag q338
       refine st1 21 [20] (S := fun w' => G4 w' dV (.int .i64 a1_0) (.string dE) (u336002) (.slice none 0 0) (G5 w' eR (.int .i64 a1_0) (.int .i64 a1_1) (.int .i64 a1_2) (.slice (some kW) l1_3.length c1_3) (.slice A1_4 l1_4.length c1_4) (w'.cell? (kW.add ((fC).toNat * 2)) = some (.int .i64 ((rd_T93 l1_3 fC).f0)) ∧ w'.cell? ⟨(kW.add ((fC).toNat * 2)).block, (kW.add ((fC).toNat * 2)).off + 1, none⟩ = some (.int .i64 ((rd_T93 l1_3 fC).f1)) ∧ w'.cell? (kW.add ((fC).toNat * 2)) = some (.int .i64 ((rd_T93 l1_3 fC).f0)) ∧ w'.cell? ⟨(kW.add ((fC).toNat * 2)).block, (kW.add ((fC).toNat * 2)).off + 1, none⟩ = some (.int .i64 ((rd_T93 l1_3 fC).f1))))) (hS := ⟨(ay cB.out 0), (ay cB.out 1), (ay cB.out 2), (ay cB.out 3), (ay bV.out 0), (ay bV.out 1), (ay bV.out 2), (ay bV.out 3), (ay bV.out 4), (aw HB.out fU), (aw HB.out fT), (aw HB.out fW), (aw HB.out fV)⟩) (fun hHeld => ?_); refine with_tabW aM.tab10 aM.bits10 (fun HT_ HW_ => ?_)
       generalize wr.drew = w43 at cL bV fH cB HB hx337_0 hx337_1 hx338_0 hx338_1 hHeld ⊢
       refine pz 0 39 ?_
       refine pz 2 41 ?_
       refine pz 3 42 ?_
       refine pz 5 44 ?_
       refine pz 9 48 ?_
       refine pz 11 50 ?_
       refine tk13 1 40 ?_
       refine tk13 4 43 ?_
       refine pz 6 45 ?_
       refine pz 7 46 ?_
       refine tk13 8 47 ?_
       refine tk13 10 49 ?_
       refine pz 12 51 ?_
       refine pz 13 52 ?_
       refine tk13 14 53 ?_
       refine pz 15 54 ?_
       refine on1 16 (some 55) fun K hK => ?_
       refine goes_ Tryz.func26 (by kernel_rfl) rfl #[.string (a0.extract (((rd_T93 l1_3 fC).f0) : Int).toNat (((rd_T93 l1_3 fC).f1) : Int).toNat)] (by rfl) rfl rfl Z15 ?_
       with_reducible refine (aZ.calls k2 (a0.extract (((rd_T93 l1_3 fC).f0) : Int).toNat (((rd_T93 l1_3 fC).f1) : Int).toNat) tC _ A38.out).mono ?_
       rintro e w44 ⟨rfl, hb⟩
       refine ⟨_, rfl, ?_⟩
       replace cL := ab (Kd.R_below Z29 hb)
       replace bV := ab (blk_below (g := eR) zC hb)
       replace fH := ab (blk_below (g := dJ) zC hb)
       replace cB := ab (blk_below (g := dV) zC hb)
       replace HB := ab (below_step (w := w) zB hb)
       try clear hb
       refine hK.out _ _ ⟨(ay cB.out 0), (ay cB.out 1), (ay cB.out 2), (ay cB.out 3), (ay bV.out 0), (ay bV.out 1), (ay bV.out 2), (ay bV.out 3), (ay bV.out 4), (aw HB.out fU), (aw HB.out fT), (aw HB.out fW), (aw HB.out fV)⟩ (fun hHeld => ?_)
       clear hK K
       refine nz (N := some 55) ?_
       refine on1 17 (some 56) fun K hK => ?_
       refine value_ (w1 := ?_) (v := ?_) (by rfl) rfl ?_ ?_
       rotate_left 2
       ·go_simp
        constructor
        ·rfl
        ·rfl
       refine hK.out _ _ ⟨(ay (blk_alloc cB.out _) 0), (ay (blk_alloc cB.out _) 1), (ay (blk_alloc cB.out _) 2), (ay (blk_alloc cB.out _) 3), (ay (blk_alloc bV.out _) 0), (ay (blk_alloc bV.out _) 1), (ay (blk_alloc bV.out _) 2), (ay (blk_alloc bV.out _) 3), (ay (blk_alloc bV.out _) 4), (World.cell?_alloc_lt _ _ _ (World.block_lt_of_cell? _ _ ((aw HB.out fU)))).trans ((aw HB.out fU)), (World.cell?_alloc_lt _ _ _ (World.block_lt_of_cell? _ _ ((aw HB.out fT)))).trans ((aw HB.out fT)), (World.cell?_alloc_lt _ _ _ (World.block_lt_of_cell? _ _ ((aw HB.out fW)))).trans ((aw HB.out fW)), (World.cell?_alloc_lt _ _ _ (World.block_lt_of_cell? _ _ ((aw HB.out fV)))).trans ((aw HB.out fV))⟩ (fun hHeld => ?_)
       clear hK K
       refine nz (N := some 56) ?_
       refine on1 18 (some 57) fun K hK => ?_
       refine Kd.R_append_step Kd.string (w0 := w) w.heap.size (by rfl) (.tmp 40) (.tmp 56) 22 9 (.string ⟨#[]⟩) 16 rfl Tryz.underlying22 info9 rfl (by decide) (by omega) u336002 dW tC [.string tC] (fun _ => True) (fun _ => False) rfl rfl ?aP (fun _ hk => hk.elim) ?aF ?aO ?aB ?aS ?aL ?_
       (case aP => exact rfl)
       (case aB => exact zB)
       (case aF => exact (fun _ _ => trivial))
       (case aO => exact Z29)
       (case aS => exact (below_size zB))
       (case aL => have := Jf.out; omega)
       intro v341 w45 ho hb hg hat
       rw [← Jg.out] at ho
       replace bV := ab (blk_grown (g := eR) zC hg (Kd.R_ne cL.out bV.out (by decide)))
       replace fH := ab (blk_grown (g := dJ) zC hg (Kd.R_ne cL.out fH.out (by decide)))
       replace cB := ab (blk_grown (g := dV) zC hg (Kd.R_ne cL.out cB.out (by decide)))
       replace HB := ab (hb)
       have Bf := ab (ho)
       clear cL
       clear ho hb hg hat
       obtain ⟨Jj, co46, eo46⟩ := Kd.R_slice Bf.out
       (first | subst eo46 | (injection eo46 with f1_ f2_ f3_; have f4_ := f1_.symm; have f5_ := f3_.symm; clear f1_ f2_ f3_; subst f4_; subst f5_))
       refine hK.out _ _ ⟨(ay cB.out 0), (ay cB.out 1), (ay cB.out 2), (ay cB.out 3), (ay bV.out 0), (ay bV.out 1), (ay bV.out 2), (ay bV.out 3), (ay bV.out 4), (aw HB.out fU), (aw HB.out fT), (aw HB.out fW), (aw HB.out fV)⟩ (fun hHeld => ?_)
       clear hK K
       refine nz (N := some 57) ?_
       refine pz 19 58 ?_
       refine last_ (i := 20) (N := none) #[true, true, true, true, true, true, true, true, true, true, true, true, true, true, true, true, true, true, true, true, true] rfl rfl (one_of HT_.out (by kernel_rfl)) (by decide) (fun K hK => ?_)
       have Zc : w45.cell? ⟨dV, 2, none⟩ = some (u336002) := (ay cB.out 2)
       have Fi := blk_frozen cB.out 2
       have hns47_0 := eO.out
       have hns47_1 := gN.out
       have hms47_0 := eP.out
       have hms47_1 := gO.out
       refine sk1 ?_
       refine hK.out _ _ ?_
       clear hK K
       refine dn1 ?_
       try go_wp2
       go_roundg k2
       case measure => have := HJ2.out; have := HK2.out; omega
       case rel => exact ⟨(wrap64 (fC + 1)), (zH), (.slice Jj zH.length co46), Z7, H', ⟨by have := HJ2.out; have := HK2.out; omega⟩, ⟨by (with_reducible repeat (first | apply Kd.R_alloc | apply Kd.R_drewN | apply Kd.R_drew)); exact Kd.R_mono (Kd.R_far (p := ⟨dV, 2, none⟩) (Kd.R_types Bf.out cB.out (by decide)) (fun _ hk => hk.2) (.slice Jj zH.length co46)) (fun _ hk => trivial)⟩, ⟨zC⟩, ⟨zC⟩, ⟨zC⟩, ⟨zB⟩⟩
     have H' := ab H
     clear H
     have aiD := fR.out
     have aiE := fS.out
     have Jk := eO.out
     have Jl := eP.out
     obtain ⟨nZ, oA, sA, sC, sD, oB, oC, sE, sF, sG⟩ := cz5 bV.out
     go_wp2
     (try simp only [Act.put, ap, aq, ar])
     go_loopg [7] k2 (fun kq v7 w' => ∃ (eT : Int) (eZ : List (S25)) (u336003 : Value), v7 = .int .i64 eT ∧ Aside0 (aM.l1 kq a0 eT a1_0 a1_1 a1_2 l1_3 l1_4 a1_0 dE dW eZ = some (r1, r2, r3, r4)) ∧ Aside0 (kq ≤ k2) ∧ Aside0 (Kd.R Kd.string 9 w' w.heap.size (fun _ => True) u336002 dW) ∧ Aside0 (Kd.R k25 25 w' w.heap.size (fun k_ => some k_ ≠ (u336002 : Value).ownBlock ∧ k_ ≠ dJ ∧ k_ ≠ dV) u336003 eZ) ∧ Aside0 (w'.heap[eR]? = some (.cells #[.int .i64 a1_0, .int .i64 a1_1, .int .i64 a1_2, (.slice A1_3 l1_3.length c1_3), (.slice A1_4 l1_4.length c1_4)] 31 (0, 0))) ∧ Aside0 (w'.heap[dJ]? = some (.cells #[.int .i64 0, .string (⟨#[]⟩ : av), (.slice none 0 0), (.slice none 0 0)] 25 (0, 0))) ∧ Aside0 (w'.heap[dV]? = some (.cells #[.int .i64 a1_0, .string dE, u336002, u336003] 25 (0, 0))) ∧ Aside0 (Below w.heap.size w w'))
     case atStart => exact ⟨(0), (([] : List (S25))), (.slice none 0 0), Z7, H', ⟨Nat.le_refl _⟩, ⟨by (with_reducible repeat (first | apply Kd.R_alloc | apply Kd.R_drewN | apply Kd.R_drew)); first | exact cL.out | exact Kd.V_len cL.out⟩, ⟨Z8⟩, ⟨zC⟩, ⟨zC⟩, ⟨zC⟩, ⟨zB⟩⟩
     case round =>
      clear H'
      try clear tP nZ oA sA sC sD oB oC sE sF sG
      obtain ⟨eT, eZ, u336003, rfl, HA, HK3, cL, dM, bV, fH, cB, HB⟩ := hrel
      cases gk with
      | zero => exact absurd HA.out (by simp [aM.l1])
      | succ k3 =>
       have H := HA.out
       clear HA
       simp only [aM.l1] at H
       revert H; refine sId1_d0 (fun tY H => ?_) fun tY H => ?_
       ·revert H; refine sNd1 fun Gu H => ?_
        revert H; refine bnd ?_; rintro ⟨uT, uU, uV, uW⟩ A53 H; try dsimp only at H
        revert H; refine sNk fun c54 H => ?_
        have Jm := ab c54
        clear c54
        obtain ⟨uX, hy352⟩ : ∃ y_ : List (S25), y_ = (eZ ++ [(⟨uT, uU, uV, uW⟩ : S25)]) := ⟨_, rfl⟩
        replace H : (aM.l1 k3 a0 (wrap64 (eT + 1)) a1_0 a1_1 a1_2 l1_3 l1_4 a1_0 dE dW uX) = some (r1, r2, r3, r4) := by first | (rw [hy352]; with_reducible exact H) | (have H2_ := (al _ _).symm.trans H; rw [hy352]; with_reducible exact H2_) | (have H2_ := (al _ _).symm.trans H; with_reducible exact H2_) | with_reducible exact H | (rw [hy352]; exact H) | exact H
        have Jo := ab hy352
        clear hy352
        as_aux_lemma =>
         have H' := ab H
         clear H
         have Ib := fR.out
         have Ic := fS.out
         have Id := eO.out
         have Ie := eP.out
         obtain ⟨rO, rP, rQ, rR, rS, rT, rU, rV, rW, rX⟩ := cz5 bV.out
         try go_wp2
         replace cL := ab (Kd.R_drew cL.out)
         replace dM := ab (Kd.R_drew dM.out)
         replace bV := ab (blk_drew bV.out)
         replace fH := ab (blk_drew fH.out)
         replace cB := ab (blk_drew cB.out)
         replace HB := ab (below_drew1 HB.out)
         have p343 : 0 ≤ (eT : Int) := ac Z6
         have q343 : eT < (l1_4.length : Int) := ac Z6
         obtain ⟨jJ, A343_3, c343_3, A343_4, c343_4, e343, hx343_0, hx343_1, hx343_2, hx343_3, hx343_4, hl343_3, hi343_3, hl343_4, hi343_4⟩ := at_T31 Jc.out eT p343 q343
         have fY := hx343_4
         have gA := hx343_3
         have gB := hx343_2
         have gC := hx343_1
         have gD := hx343_0
         cases e343
         replace hx343_0 := aw HB.out hx343_0
         replace hx343_1 := aw HB.out hx343_1
         replace hx343_2 := aw HB.out hx343_2
         replace hx343_3 := aw HB.out hx343_3
         replace hx343_4 := aw HB.out hx343_4
         have sH := ab hi343_3
         have HC343_3 := ab hl343_3
         clear hi343_3 hl343_3
         have sI := ab hi343_4
         have HC343_4 := ab hl343_4
         clear hi343_4 hl343_4
         replace p343 := ag p343
         replace q343 := ag q343
         refine st1 13 [12] (S := fun w' => G4 w' dV (.int .i64 a1_0) (.string dE) (u336002) (u336003) (G5 w' eR (.int .i64 a1_0) (.int .i64 a1_1) (.int .i64 a1_2) (.slice A1_3 l1_3.length c1_3) (.slice (some jJ) l1_4.length c1_4) (w'.cell? (jJ.add ((eT).toNat * 5)) = some (.int .i64 ((rd_T31 l1_4 eT).f0)) ∧ w'.cell? ⟨(jJ.add ((eT).toNat * 5)).block, (jJ.add ((eT).toNat * 5)).off + 1, none⟩ = some (.int .i64 ((rd_T31 l1_4 eT).f1)) ∧ w'.cell? ⟨(jJ.add ((eT).toNat * 5)).block, (jJ.add ((eT).toNat * 5)).off + 2, none⟩ = some (.int .i64 ((rd_T31 l1_4 eT).f2)) ∧ w'.cell? ⟨(jJ.add ((eT).toNat * 5)).block, (jJ.add ((eT).toNat * 5)).off + 3, none⟩ = some (.slice A343_3 ((rd_T31 l1_4 eT).f3).length c343_3) ∧ w'.cell? ⟨(jJ.add ((eT).toNat * 5)).block, (jJ.add ((eT).toNat * 5)).off + 4, none⟩ = some (.slice A343_4 ((rd_T31 l1_4 eT).f4).length c343_4)))) (hS := ⟨(ay cB.out 0), (ay cB.out 1), (ay cB.out 2), (ay cB.out 3), (ay bV.out 0), (ay bV.out 1), (ay bV.out 2), (ay bV.out 3), (ay bV.out 4), (aw HB.out gD), (aw HB.out gC), (aw HB.out gB), (aw HB.out gA), (aw HB.out fY)⟩) (fun hHeld => ?_); refine with_tabW aM.tab14 aM.bits14 (fun HT_ HW_ => ?_)
         generalize wr.drew = w58 at cL dM bV fH cB HB sH sI hx343_0 hx343_1 hx343_2 hx343_3 hx343_4 hHeld ⊢
         refine pz 0 66 ?_
         refine pz 2 68 ?_
         refine pz 3 69 ?_
         refine pz 5 71 ?_
         refine tk14 1 67 ?_
         refine tk14 4 70 ?_
         refine pz 6 72 ?_
         refine tk14 7 73 ?_
         refine on1 8 (some 74) fun K hK => ?_
         refine goes_ Tryz.func37 (by kernel_rfl) rfl #[.string a0, .agg #[.int .i64 ((rd_T31 l1_4 eT).f0), .int .i64 ((rd_T31 l1_4 eT).f1), .int .i64 ((rd_T31 l1_4 eT).f2), .slice A343_3 ((rd_T31 l1_4 eT).f3).length c343_3, .slice A343_4 ((rd_T31 l1_4 eT).f4).length c343_4]] (by rfl) rfl rfl Z15 ?_
         with_reducible refine (ih k3 (by have := HJ2.out; have := HK2.out; have := HK3.out; omega) a0 ((rd_T31 l1_4 eT).f0) ((rd_T31 l1_4 eT).f1) ((rd_T31 l1_4 eT).f2) _ _ ((rd_T31 l1_4 eT).f3) _ _ ((rd_T31 l1_4 eT).f4) uT uU uV uW _ ?side1 ?side2 ?side3 ?side4 A53.out).mono ?_
         (case side1 => repeat (first | exact (Kd.C_below sH.out HB.out) | (with_reducible refine Kd.C_alloc ?_ _) | (with_reducible refine Kd.C_drewN ?_ _) | (with_reducible refine Kd.C_drew ?_)))
         (case side2 => exact HC343_3.out)
         (case side3 => repeat (first | exact (Kd.C_below sI.out HB.out) | (with_reducible refine Kd.C_alloc ?_ _) | (with_reducible refine Kd.C_drewN ?_ _) | (with_reducible refine Kd.C_drew ?_)))
         (case side4 => exact HC343_4.out)
         rintro e w59 ⟨v347, v350, rfl, ho0, ho1, hb⟩
         refine ⟨_, rfl, ?_⟩
         have uY := ab (Kd.R_lower (Kd.R_new' ho0 (Kd.R_lt Z29)) (below_size zB))
         have uZ := ab (Kd.R_lower (Kd.R_newB (Kd.R_newB (Kd.R_new' (Kd.R_new' ho1 (Kd.R_lt Z29)) (Kd.R_lt Z62)) (g := dJ) zC) (g := dV) zC) (below_size zB))
         replace cL := ab (Kd.R_elder' Z29 (Kd.R_base ho0) hb)
         replace dM := ab (Kd.R_mono (Kd.R_told (Kd.R_told (Kd.R_old Z62 hb) (Kd.R_base ho0)) (Kd.R_base ho1)) (fun _ h_ => h_.1))
         replace bV := ab (blk_below (g := eR) zC hb)
         replace fH := ab (blk_below (g := dJ) zC hb)
         replace cB := ab (blk_below (g := dV) zC hb)
         replace HB := ab (below_step (w := w) zB hb)
         try clear hb ho0 ho1
         obtain ⟨abF, co61, eo61⟩ := Kd.R_slice uY.out
         (first | subst eo61 | (injection eo61 with f1_ f2_ f3_; have f4_ := f1_.symm; have f5_ := f3_.symm; clear f1_ f2_ f3_; subst f4_; subst f5_))
         obtain ⟨abG, co62, eo62⟩ := Kd.R_slice uZ.out
         (first | subst eo62 | (injection eo62 with f1_ f2_ f3_; have f4_ := f1_.symm; have f5_ := f3_.symm; clear f1_ f2_ f3_; subst f4_; subst f5_))
         refine hK.out _ _ ⟨(ay cB.out 0), (ay cB.out 1), (ay cB.out 2), (ay cB.out 3), (ay bV.out 0), (ay bV.out 1), (ay bV.out 2), (ay bV.out 3), (ay bV.out 4), (aw HB.out gD), (aw HB.out gC), (aw HB.out gB), (aw HB.out gA), (aw HB.out fY)⟩ (fun hHeld => ?_)
         clear hK K
         refine nz (N := some 74) ?_
         refine on1 9 (some 75) fun K hK => ?_
         refine value_ (w1 := ?_) (v := ?_) (by rfl) rfl ?_ ?_
         rotate_left 2
         ·go_simp
          constructor
          ·rfl
          ·rfl
         refine hK.out _ _ ⟨(ay (blk_alloc cB.out _) 0), (ay (blk_alloc cB.out _) 1), (ay (blk_alloc cB.out _) 2), (ay (blk_alloc cB.out _) 3), (ay (blk_alloc bV.out _) 0), (ay (blk_alloc bV.out _) 1), (ay (blk_alloc bV.out _) 2), (ay (blk_alloc bV.out _) 3), (ay (blk_alloc bV.out _) 4), (World.cell?_alloc_lt _ _ _ (World.block_lt_of_cell? _ _ ((aw HB.out gD)))).trans ((aw HB.out gD)), (World.cell?_alloc_lt _ _ _ (World.block_lt_of_cell? _ _ ((aw HB.out gC)))).trans ((aw HB.out gC)), (World.cell?_alloc_lt _ _ _ (World.block_lt_of_cell? _ _ ((aw HB.out gB)))).trans ((aw HB.out gB)), (World.cell?_alloc_lt _ _ _ (World.block_lt_of_cell? _ _ ((aw HB.out gA)))).trans ((aw HB.out gA)), (World.cell?_alloc_lt _ _ _ (World.block_lt_of_cell? _ _ ((aw HB.out fY)))).trans ((aw HB.out fY))⟩ (fun hHeld => ?_)
         clear hK K
         refine nz (N := some 75) ?_
         refine on1 10 (some 76) fun K hK => ?_
         refine Kd.R_append_step k25 (w0 := w) w.heap.size (by rfl) (.tmp 67) (.tmp 75) 23 25 (.agg #[(.int .i64 0), (.string ⟨#[]⟩), (.slice none 0 0), (.slice none 0 0)]) 72 rfl Tryz.underlying23 info25 rfl (by decide) (by omega) u336003 eZ (⟨uT, uU, uV, uW⟩ : S25) [.int .i64 uT, .string uU, .slice abF uV.length co61, .slice abG uW.length co62] (fun k_ => some k_ ≠ (u336002 : Value).ownBlock ∧ k_ ≠ dJ ∧ k_ ≠ dV) (fun k_ => ((fun k_ => some k_ ≠ (u336002 : Value).ownBlock ∧ k_ ≠ dJ ∧ k_ ≠ dV)) k_ ∧ some k_ ≠ (u336003 : Value).ownBlock) rfl rfl ?aP (fun _ hk => hk) ?aF ?aO ?aB ?aS ?aL ?_
         (case aP => exact k25_mkM _ _ _ (⟨uT, uU, uV, uW⟩ : S25) (Kd.R_mono (Kd.R_types (Kd.R_types (Kd.R_apart' (uY.out) (Kd.R_typed dM.out) (by decide)) fH.out (by decide)) cB.out (by decide)) (fun k_ hk => ⟨⟨hk.1.1.1.2, ⟨hk.1.2, hk.2⟩⟩, hk.1.1.2⟩)) (Kd.R_mono (uZ.out) (fun k_ hk => ⟨⟨hk.1.1.1.2, ⟨hk.1.2, hk.2⟩⟩, hk.1.1.2⟩)))
         (case aB => exact zB)
         (case aF => exact (fun k_ hk => ⟨Kd.fresh' (Kd.R_lt Z29) k_ hk, Kd.freshB (g := dJ) zC k_ hk, Kd.freshB (g := dV) zC k_ hk⟩))
         (case aO => exact (by (with_reducible repeat (first | apply Kd.R_alloc | apply Kd.R_drewN | apply Kd.R_drew)); exact Kd.R_mono dM.out (fun _ hk => ⟨hk.1.1.1, ⟨hk.1.1.2.1, hk.1.1.2.2⟩⟩)))
         (case aS => exact (below_size zB))
         (case aL => have := Jm.out; omega)
         intro v353 w60 ho hb hg hat
         rw [← Jo.out] at ho
         replace cL := ab (Kd.R_over' Z29 (Kd.R_typed Z62) (by decide) hg)
         replace bV := ab (blk_grown (g := eR) zC hg (Kd.R_ne dM.out bV.out (by decide)))
         replace fH := ab (blk_grown (g := dJ) zC hg (Kd.R_away dM.out (fun _ hk => hk.1.1.2.1)))
         replace cB := ab (blk_grown (g := dV) zC hg (Kd.R_away dM.out (fun _ hk => hk.1.1.2.2)))
         replace HB := ab (hb)
         have Bg := ab (ho)
         clear dM uY uZ
         clear ho hb hg hat
         obtain ⟨Di, co63, eo63⟩ := Kd.R_slice Bg.out
         (first | subst eo63 | (injection eo63 with f1_ f2_ f3_; have f4_ := f1_.symm; have f5_ := f3_.symm; clear f1_ f2_ f3_; subst f4_; subst f5_))
         refine hK.out _ _ ⟨(ay cB.out 0), (ay cB.out 1), (ay cB.out 2), (ay cB.out 3), (ay bV.out 0), (ay bV.out 1), (ay bV.out 2), (ay bV.out 3), (ay bV.out 4), (aw HB.out gD), (aw HB.out gC), (aw HB.out gB), (aw HB.out gA), (aw HB.out fY)⟩ (fun hHeld => ?_)
         clear hK K
         refine nz (N := some 76) ?_
         refine pz 11 77 ?_
         refine last_ (i := 12) (N := none) #[true, true, true, true, true, true, true, true, true, true, true, true, true] rfl rfl (one_of HT_.out (by kernel_rfl)) (by decide) (fun K hK => ?_)
         have amD : w60.cell? ⟨dV, 3, none⟩ = some (u336003) := (ay cB.out 3)
         have aiF := blk_frozen cB.out 3
         have hns64_0 := eO.out
         have hns64_1 := gN.out
         have hms64_0 := eP.out
         have hms64_1 := gO.out
         refine sk1 ?_
         refine hK.out _ _ ?_
         clear hK K
         refine dn1 ?_
         try go_wp2
         go_roundg k3
         case measure => have := HJ2.out; have := HK2.out; have := HK3.out; omega
         case rel => exact ⟨(wrap64 (eT + 1)), (uX), (.slice Di uX.length co63), Z7, H', ⟨by have := HJ2.out; have := HK2.out; have := HK3.out; omega⟩, ⟨by (with_reducible repeat (first | apply Kd.R_alloc | apply Kd.R_drewN | apply Kd.R_drew)); exact Kd.R_mono (Kd.R_far (p := ⟨dV, 3, none⟩) (Kd.R_types cL.out cB.out (by decide)) (fun _ hk => hk.2) (.slice Di uX.length co63)) (fun _ hk => trivial)⟩, ⟨by (with_reducible repeat (first | apply Kd.R_alloc | apply Kd.R_drewN | apply Kd.R_drew)); exact Kd.R_mono (Kd.R_far (p := ⟨dV, 3, none⟩) (Kd.R_mono Bg.out (fun k_ hk => (⟨hk, hk.2.2⟩ : _ ∧ k_ ≠ dV))) (fun _ hk => hk.2) (.slice Di uX.length co63)) (fun _ hk => ⟨hk.1.1, ⟨hk.1.2.1, hk.1.2.2⟩⟩)⟩, ⟨zC⟩, ⟨zC⟩, ⟨zC⟩, ⟨zB⟩⟩
       as_aux_lemma =>
        simp only [am, an] at H
        obtain ⟨rfl, rfl, rfl, rfl⟩ := H
        have aiG := fR.out
        have aiH := fS.out
        have aiI := eO.out
        have aiJ := eP.out
        obtain ⟨zJ, zN, Pw, Px, Py, zO, zQ, Pz, Qa, Qb⟩ := cz5 bV.out
        have aiK := gO.out
        have aiL := gN.out
        obtain ⟨Qc, Qd, Qe, Qf, Qg, Qh, Qi, Qj⟩ := cz4 cB.out
        obtain ⟨zR, zT, zU, zV, zW, zX, zY, Aa⟩ := cz4 fH.out
        obtain ⟨Dj, co71, eo71⟩ := Kd.R_slice cL.out
        subst eo71
        obtain ⟨Dk, co72, eo72⟩ := Kd.R_slice dM.out
        subst eo72
        go_wp2
        refine bodyPost_ret (results_cell_row rfl _ _ dJ 25 #[.int .i64 a1_0, .string dE, .slice Dj dW.length co71, .slice Dk eZ.length co72] (0, 0) _ rfl zC Tryz.underlying25 rfl (by kernel_rfl)) rfl ?_
        exact ⟨_, _, Z9, by (with_reducible repeat (first | apply Kd.R_alloc | apply Kd.R_drewN | apply Kd.R_drew)); exact Kd.R_mono (Kd.R_far (p := ⟨dJ, 3, none⟩) (Kd.R_far (p := ⟨dJ, 2, none⟩) (Kd.R_far (p := ⟨dJ, 1, none⟩) (Kd.R_far (p := ⟨dJ, 0, none⟩) (Kd.R_types cL.out fH.out (by decide)) (fun _ hk => hk.2) (.int .i64 a1_0)) (fun _ hk => hk.2) (.string dE)) (fun _ hk => hk.2) (.slice Dj dW.length co71)) (fun _ hk => hk.2) (.slice Dk eZ.length co72)) (fun _ hk => trivial), by (with_reducible repeat (first | apply Kd.R_alloc | apply Kd.R_drewN | apply Kd.R_drew)); exact Kd.R_mono (Kd.R_far (p := ⟨dJ, 3, none⟩) (Kd.R_far (p := ⟨dJ, 2, none⟩) (Kd.R_far (p := ⟨dJ, 1, none⟩) (Kd.R_far (p := ⟨dJ, 0, none⟩) (Kd.R_mono dM.out (fun k_ hk => (⟨hk, hk.2.1⟩ : _ ∧ k_ ≠ dJ))) (fun _ hk => hk.2) (.int .i64 a1_0)) (fun _ hk => hk.2) (.string dE)) (fun _ hk => hk.2) (.slice Dj dW.length co71)) (fun _ hk => hk.2) (.slice Dk eZ.length co72)) (fun _ hk => hk.1.1), zB⟩
end Go.Proofs.YtkjnahgicfmicaaGreatDoor.Sp

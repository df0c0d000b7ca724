import Derived.Test.YtmpdhdnoohmndaaGreatDoorZip
import Derived.Test.YtmpdhdnoohmndaaGreatDoorQa
import Derived.Test.YtmpdhdnoohmndaaGreatDoorSpx6
import Derived.Test.YtmpdhdnoohmndaaGreatDoorSpu
namespace Go.Proofs.YtmpdhdnoohmndaaGreatDoor.Sp
open Go.RowKit Go.Proofs.YtmpdhdnoohmndaaGreatDoorW.PrintWords Go.Proofs.YtmpdhdnoohmndaaGreatDoorW.PrintLast Go.Proofs.YtmpdhdnoohmndaaGreatDoorW.PrintMore
attribute [local go_sem] max2_int min2_int max_two min_two max_three min_three max_four min_four
set_option linter.unusedVariables false
set_option linter.unusedSimpArgs false
mutual
def aU.j0 : Nat → au → Int → Int → Int → List (S93) → List (S31) → Int → au → Option (Int × au × List au × (List (S25)))
 | 0, _, _, _, _, _, _, _, _ => none
 | k + 1, x0, fP, fQ, fR, cY, dD, fB, fC => aU.l0 k x0 0 fP fQ fR cY dD fB fC ([] : List au)
def aU.l0 : Nat → au → Int → Int → Int → Int → List (S93) → List (S31) → Int → au → List au → Option (Int × au × List au × (List (S25)))
 | 0, _, _, _, _, _, _, _, _, _, _ => none
 | k + 1, x0, x6, fP, fQ, fR, cY, dD, fB, fC, fS => if x6 < (cY.length : Int) then (if 0 ≤ x6 then (if 0 ≤ ((rd_T93 cY x6).f0) then (if ((rd_T93 cY x6).f0) ≤ ((rd_T93 cY x6).f1) then (if ((rd_T93 cY x6).f1) ≤ (x0.size : Int) then ((aW.f k (x0.extract (((rd_T93 cY x6).f0) : Int).toNat (((rd_T93 cY x6).f1) : Int).toNat)).bind fun oA => (if fS.length < 8796093022208 then (aU.l0 k x0 (wrap64 (x6 + 1)) fP fQ fR cY dD fB fC (fS ++ [oA])) else (none))) else (none)) else (none)) else (none)) else (none)) else (aU.l1 k x0 0 fP fQ fR cY dD fB fC fS ([] : List (S25)))
def aU.l1 : Nat → au → Int → Int → Int → Int → List (S93) → List (S31) → Int → au → List au → List (S25) → Option (Int × au × List au × (List (S25)))
 | 0, _, _, _, _, _, _, _, _, _, _, _ => none
 | k + 1, x0, x7, fP, fQ, fR, cY, dD, fB, fC, fS, kC => if x7 < (dD.length : Int) then (if 0 ≤ x7 then ((aU.f k x0 ((rd_T31 dD x7).f0) ((rd_T31 dD x7).f1) ((rd_T31 dD x7).f2) ((rd_T31 dD x7).f3) ((rd_T31 dD x7).f4)).bind fun bt344 => (if kC.length < 1954687338268 then (aU.l1 k x0 (wrap64 (x7 + 1)) fP fQ fR cY dD fB fC fS (kC ++ [(⟨bt344.1, bt344.2.1, bt344.2.2.1, bt344.2.2.2⟩ : S25)])) else (none))) else (none)) else (some (fB, fC, fS, kC))
def aU.f : Nat → au → Int → Int → Int → List (S93) → List (S31) → Option (Int × au × List au × (List (S25)))
 | 0, _, _, _, _, _, _ => none
 | k + 1, a0, a1_0, a1_1, a1_2, l1_3, l1_4 => if a1_0 = 3 then (if 0 ≤ a1_1 then (if a1_1 ≤ a1_2 then (if a1_2 ≤ (a0.size : Int) then (aU.j0 k a0 a1_0 a1_1 a1_2 l1_3 l1_4 a1_0 (a0.extract (a1_1 : Int).toNat (a1_2 : Int).toNat)) else (none)) else (none)) else (none)) else (if a1_0 = 4 then (if 0 ≤ a1_1 then (if a1_1 ≤ a1_2 then (if a1_2 ≤ (a0.size : Int) then ((aW.f k (a0.extract (a1_1 : Int).toNat (a1_2 : Int).toNat)).bind fun oB => (aU.j0 k a0 a1_0 a1_1 a1_2 l1_3 l1_4 a1_0 oB)) else (none)) else (none)) else (none)) else (aU.j0 k a0 a1_0 a1_1 a1_2 l1_3 l1_4 a1_0 (⟨#[]⟩ : au)))
end
theorem aU.mono_l : ∀ k, (∀ y0 y1 y2 y3 y4 y5, LeO (aU.f k y0 y1 y2 y3 y4 y5) (aU.f (k + 1) y0 y1 y2 y3 y4 y5)) ∧ (∀ y0 y1 y2 y3 y4 y5 y6 y7, LeO (aU.j0 k y0 y1 y2 y3 y4 y5 y6 y7) (aU.j0 (k + 1) y0 y1 y2 y3 y4 y5 y6 y7)) ∧ (∀ y0 y1 y2 y3 y4 y5 y6 y7 y8 y9, LeO (aU.l0 k y0 y1 y2 y3 y4 y5 y6 y7 y8 y9) (aU.l0 (k + 1) y0 y1 y2 y3 y4 y5 y6 y7 y8 y9)) ∧ (∀ y0 y1 y2 y3 y4 y5 y6 y7 y8 y9 y10, LeO (aU.l1 k y0 y1 y2 y3 y4 y5 y6 y7 y8 y9 y10) (aU.l1 (k + 1) y0 y1 y2 y3 y4 y5 y6 y7 y8 y9 y10))
 | 0 => ⟨fun _ _ _ _ _ _ r h => by simp [aU.f] at h, fun _ _ _ _ _ _ _ _ r h => by simp [aU.j0] at h, fun _ _ _ _ _ _ _ _ _ _ r h => by simp [aU.l0] at h, fun _ _ _ _ _ _ _ _ _ _ _ r h => by simp [aU.l1] at h⟩
 | k + 1 => by
  obtain ⟨ih0, ih1, ih2, ih3⟩ := aU.mono_l k
  refine ⟨?_, ?_, ?_, ?_⟩
  ·intro y0 y1 y2 y3 y4 y5
   unfold aU.f
   exact zM
  ·intro y0 y1 y2 y3 y4 y5 y6 y7
   unfold aU.j0
   exact zM
  ·intro y0 y1 y2 y3 y4 y5 y6 y7 y8 y9
   unfold aU.l0
   exact zM
  ·intro y0 y1 y2 y3 y4 y5 y6 y7 y8 y9 y10
   unfold aU.l1
   exact zM
theorem aU.mono : ∀ a0 a1 a2 a3 a4 a5 k, LeO (aU.f k a0 a1 a2 a3 a4 a5) (aU.f (k + 1) a0 a1 a2 a3 a4 a5) := by
 intro a0 a1 a2 a3 a4 a5 k
 obtain ⟨ih0, ih1, ih2, ih3⟩ := aU.mono_l k
 exact ih0 a0 a1 a2 a3 a4 a5
def aU.T10 : Bool × List (List Nat × List Nat) := (true, [([], []), ([0], [0]), ([], []), ([], []), ([3], [3]), ([], []), ([4, 5], [4, 5]), ([6], [6]), ([7], [7]), ([], []), ([9], [9]), ([], []), ([10, 11], [10, 11]), ([12], [12]), ([13], [13]), ([2, 8, 14], [2, 8, 14]), ([15], [15]), ([16], [16]), ([1, 17, 16], [1, 17]), ([0, 1, 2, 3, 4, 5, 6, 7, 8, 9, 10, 11, 12, 13, 14, 15, 16, 17, 18], []), ([19, 18, 18, 0, 1, 2, 3, 4, 5, 6, 7, 8, 9, 10, 11, 12, 13, 14, 15, 16, 17, 18], [18, 19])])
def aU.B10 : List Nat := [0, 1, 0, 0, 8, 0, 56, 120, 248, 0, 512, 0, 3584, 7680, 15872, 32764, 65532, 131068, 262143, 524287, 1048575]
theorem aU.tab10 : rtab .any (opsOf Tryz.f25 10) = aU.T10 := by kernel_rfl
theorem aU.bits10 : waitsOk aU.T10.2 aU.B10 = true := by kernel_rfl
def aU.T14 : Bool × List (List Nat × List Nat) := (true, [([], []), ([0], [0]), ([], []), ([], []), ([3], [3]), ([], []), ([4, 5], [4, 5]), ([6], [6]), ([2, 7], [2, 7]), ([8], [8]), ([1, 9, 8], [1, 9]), ([0, 1, 2, 3, 4, 5, 6, 7, 8, 9, 10], []), ([11, 10, 10, 0, 1, 2, 3, 4, 5, 6, 7, 8, 9, 10], [10, 11])])
def aU.B14 : List Nat := [0, 1, 0, 0, 8, 0, 56, 120, 252, 508, 1023, 2047, 4095]
theorem aU.tab14 : rtab .any (opsOf Tryz.f25 14) = aU.T14 := by kernel_rfl
theorem aU.bits14 : waitsOk aU.T14.2 aU.B14 = true := by kernel_rfl
set_option maxHeartbeats 8000000 in
set_option maxRecDepth 100000 in
theorem aU.calls (k : Nat) : ∀ (a0 : au) (a1_0 : Int) (a1_1 : Int) (a1_2 : Int) (A1_3 : Option Addr) (c1_3 : Nat) (l1_3 : List (S93)) (A1_4 : Option Addr) (c1_4 : Nat) (l1_4 : List (S31)) (r1 : Int) (r2 : au) (r3 : List au) (r4 : List (S25)) (w : World) (hr1_3 : Kd.C k93 w A1_3 l1_3.length l1_3) (hc1_3 : l1_3.length ≤ c1_3) (hr1_4 : Kd.C k31 w A1_4 l1_4.length l1_4) (hc1_4 : l1_4.length ≤ c1_4) (h : aU.f k a0 a1_0 a1_1 a1_2 l1_3 l1_4 = some (r1, r2, r3, r4)),
 Calls Tryz.prog 25 #[.string a0, .agg #[.int .i64 a1_0, .int .i64 a1_1, .int .i64 a1_2, .slice A1_3 l1_3.length c1_3, .slice A1_4 l1_4.length c1_4]] w fun e w' => ∃ v2_ v3_ : Value, e = .returned (.agg #[.int .i64 r1, .string r2, v2_, v3_]) ∧ Kd.R Kd.string 9 w' w.heap.size (fun _ => True) v2_ r3 ∧ Kd.R k25 28 w' w.heap.size (fun k_ => some k_ ≠ (v2_ : Value).ownBlock) v3_ r4 ∧ Below w.heap.size w w' := by
 induction k using Nat.strongRecOn with
 | _ k ih =>
 intro a0 a1_0 a1_1 a1_2 A1_3 c1_3 l1_3 A1_4 c1_4 l1_4 r1 r2 r3 r4 w hr1_3 hc1_3 hr1_4 hc1_4 h
 cases k with
 | zero => exact absurd h (by simp [aU.f])
 | succ k =>
 simp only [aU.f] at h
 have hu31 := Tryz.underlying63
 have hu25 := Tryz.underlying28
 have uC := aa hr1_3
 have HC1_3 := aa hc1_3
 clear hr1_3 hc1_3
 have Af := aa hr1_4
 have HC1_4 := aa hc1_4
 clear hr1_4 hc1_4
 have HB := aa (Below.refl w.heap.size w)
 have H : (if a1_0 = 3 then (if 0 ≤ a1_1 then (if a1_1 ≤ a1_2 then (if a1_2 ≤ (a0.size : Int) then (aU.j0 k a0 a1_0 a1_1 a1_2 l1_3 l1_4 a1_0 (a0.extract (a1_1 : Int).toNat (a1_2 : Int).toNat)) else (none)) else (none)) else (none)) else (if a1_0 = 4 then (if 0 ≤ a1_1 then (if a1_1 ≤ a1_2 then (if a1_2 ≤ (a0.size : Int) then ((aW.f k (a0.extract (a1_1 : Int).toNat (a1_2 : Int).toNat)).bind fun oB => (aU.j0 k a0 a1_0 a1_1 a1_2 l1_3 l1_4 a1_0 oB)) else (none)) else (none)) else (none)) else (aU.j0 k a0 a1_0 a1_1 a1_2 l1_3 l1_4 a1_0 (⟨#[]⟩ : au)))) = some (r1, r2, r3, r4) := h
 clear h
 have jD := aa H
 clear H
 go_enter Tryz.func25, Tryz.ntmps25
 go_upto_block 0 with (first | (refine aw 3 #[.int .i64 a1_0, .int .i64 a1_1, .int .i64 a1_2, .slice A1_3 l1_3.length c1_3, .slice A1_4 l1_4.length c1_4] 63 ?_; intro dB hg w4 hbox hb; have bK := aa (hbox); have Sm : Aside0 (w.heap.size ≤ dB) := ⟨Z24⟩; have Sn : Aside0 (w.heap.size ≤ dB) := ⟨Z24⟩; replace HB := aa (below_step (w := w) zB hb); clear hb hbox hg) | (refine aw 4 #[.int .i64 0, .string (⟨#[]⟩ : au), .slice none 0 0, .slice none 0 0] 28 ?_; intro cI hg w5 hbox hb; have dP := aa (hbox); have Sr : Aside0 (w.heap.size ≤ cI) := ⟨Z24⟩; have Ss : Aside0 (w.heap.size ≤ cI) := ⟨Z24⟩; replace HB := aa (below_step (w := w) zB hb); have dT : Aside0 (dB ≠ cI) := ⟨by rw [hg]; exact Nat.ne_of_lt (blk_lt (g := dB) zC)⟩; have dU : Aside0 (cI ≠ dB) := ⟨by rw [hg]; exact Nat.ne_of_gt (blk_lt (g := dB) zC)⟩; replace bK := aa (blk_below (g := dB) zC hb); clear hb hbox hg; have Xb := dT.out; have Xc := dU.out; obtain ⟨jK, jL, vV, vW, vX, jM, jN, vY, vZ, wA⟩ := cz5 bK.out) | (refine aw 5 #[.int .i64 0, .string (⟨#[]⟩ : au), .slice none 0 0, .slice none 0 0] 28 ?_; intro cQ hg w8 hbox hb; have bN := aa (hbox); have Su : Aside0 (w.heap.size ≤ cQ) := ⟨Z24⟩; have Sv : Aside0 (w.heap.size ≤ cQ) := ⟨Z24⟩; replace HB := aa (below_step (w := w) zB hb); have cZ : Aside0 (dB ≠ cQ) := ⟨by rw [hg]; exact Nat.ne_of_lt (blk_lt (g := dB) zC)⟩; have dA : Aside0 (cQ ≠ dB) := ⟨by rw [hg]; exact Nat.ne_of_gt (blk_lt (g := dB) zC)⟩; replace bK := aa (blk_below (g := dB) zC hb); have eK : Aside0 (cI ≠ cQ) := ⟨by rw [hg]; exact Nat.ne_of_lt (blk_lt (g := cI) zC)⟩; have eM : Aside0 (cQ ≠ cI) := ⟨by rw [hg]; exact Nat.ne_of_gt (blk_lt (g := cI) zC)⟩; replace dP := aa (blk_below (g := cI) zC hb); clear hb hbox hg; have Qu := dA.out; have Qv := cZ.out; have Sw := eM.out; have Sx := eK.out; obtain ⟨mJ, mK, rV, rW, mM, mO, rX, rY⟩ := cz4 bN.out; obtain ⟨gO, gP, kD, kE, nA, gQ, gR, kF, kG, nB⟩ := cz5 bK.out))
 (try simp only [Act.put, ao, ap, aq])
 go_cut [] (fun wc => ∃ (kq : Nat) (cF : au), Aside0 (aU.j0 kq a0 a1_0 a1_1 a1_2 l1_3 l1_4 a1_0 cF = some (r1, r2, r3, r4)) ∧ Aside0 (kq ≤ k) ∧ Aside0 (wc.heap[dB]? = some (.cells #[.int .i64 a1_0, .int .i64 a1_1, .int .i64 a1_2, (.slice A1_3 l1_3.length c1_3), (.slice A1_4 l1_4.length c1_4)] 63 (0, 0))) ∧ Aside0 (wc.heap[cI]? = some (.cells #[.int .i64 0, .string (⟨#[]⟩ : au), (.slice none 0 0), (.slice none 0 0)] 28 (0, 0))) ∧ Aside0 (wc.heap[cQ]? = some (.cells #[.int .i64 a1_0, .string cF, (.slice none 0 0), (.slice none 0 0)] 28 (0, 0))) ∧ Aside0 (Below w.heap.size w wc))
 case first =>
  have H := jD.out
  clear jD
  revert H; refine sIe1n0_e0n1 (fun lB Ag H => ?_) fun lB Ag H => ?_
  ·(first | rw [lB] | (simp only [i64_w, i32_w]; rw [lB]) | skip)
   revert H; refine sNt1d1 fun eV kR H => ?_
   revert H; refine sNt1d1 fun oH Sy H => ?_
   revert H; refine sNt1d1 fun jF Sz H => ?_
   as_aux_lemma =>
    have H' := aa H
    clear H
    have Ta := dT.out
    have Tb := dU.out
    have Ah := cZ.out
    have Ai := dA.out
    obtain ⟨rZ, sA, sC, sD, sE, sF, sG, sH, sI, sJ⟩ := cz5 bK.out
    have Tc := eM.out
    have Td := eK.out
    obtain ⟨qI, qJ, Eb, Ec, qK, qL, Ed, Ee⟩ := cz4 bN.out
    go_wp2
    go_meet
    case rel => exact ⟨_, (a0.extract (a1_1 : Int).toNat (a1_2 : Int).toNat), H', ⟨Z23⟩, ⟨zC⟩, ⟨zC⟩, ⟨zC⟩, ⟨zB⟩⟩
  (first | rw [lB] | (simp only [i64_w, i32_w]; rw [lB]) | skip)
  revert H; refine sIe1n0_e0n1 (fun kP Aj H => ?_) fun kP Aj H => ?_
  ·revert H; refine sNt1d1 fun tR Te H => ?_
   revert H; refine sNt1d1 fun tS Tf H => ?_
   revert H; refine sNt1d1 fun tT Tg H => ?_
   revert H; refine bnd ?_; rintro oB xL H
   as_aux_lemma =>
    have H' := aa H
    clear H
    have Th := dT.out
    have Ti := dU.out
    have Tj := cZ.out
    have Tk := dA.out
    obtain ⟨Ef, Eg, Eh, Ei, Ej, Ek, El, Em, En, Eo⟩ := cz5 bK.out
    go_wp2_with (first | (refine gl 37 (some 30) Tryz.func37 #[.string (a0.extract (a1_1 : Int).toNat (a1_2 : Int).toNat)] ?_; (with_reducible refine (aW.calls k (a0.extract (a1_1 : Int).toNat (a1_2 : Int).toNat) oB _ xL.out).mono ?_); rintro e w30 ⟨rfl, hb⟩; refine ⟨_, rfl, ?_⟩; replace bK := aa (blk_below (g := dB) zC hb); replace dP := aa (blk_below (g := cI) zC hb); replace bN := aa (blk_below (g := cQ) (o := .cells #[.int .i64 a1_0, .string (⟨#[]⟩ : au), .slice none 0 0, .slice none 0 0] 28 (0, 0)) zC hb); replace HB := aa (below_step (w := w) zB hb); clear hb; have Tl := eM.out; have Tm := eK.out; obtain ⟨sK, sL, sM, sN, sO, sP, sQ, sR⟩ := cz4 bN.out))
    go_meet
    case rel => exact ⟨_, (oB), H', ⟨Z23⟩, ⟨zC⟩, ⟨zC⟩, ⟨zC⟩, ⟨zB⟩⟩
  as_aux_lemma =>
   have H' := aa H
   clear H
   go_wp2
   go_meet
   case rel => exact ⟨_, ((⟨#[]⟩ : au)), H', ⟨Z23⟩, ⟨zC⟩, ⟨zC⟩, ⟨zC⟩, ⟨zB⟩⟩
 case rest =>
  clear jD
  try clear mJ mK rV rW gO gP kD kE nA jK jL vV vW vX mM mO rX rY gQ gR kF kG nB jM jN vY vZ wA
  obtain ⟨kq, cF, HA, HJ2, bK, dP, bN, HB⟩ := hcut
  cases kq with
  | zero => exact absurd HA.out (by simp [aU.j0])
  | succ kj2 =>
   have H := HA.out
   clear HA
   simp only [aU.j0] at H
   have H' := aa H
   clear H
   go_wp2
   (try simp only [Act.put, ao, ap, aq])
   go_loopg [6] kj2 (fun kq v6 w' => ∃ (dL : Int) (cR : List au) (u336002 : Value), v6 = .int .i64 dL ∧ Aside0 (aU.l0 kq a0 dL a1_0 a1_1 a1_2 l1_3 l1_4 a1_0 cF cR = some (r1, r2, r3, r4)) ∧ Aside0 (kq ≤ kj2) ∧ Aside0 (Kd.R Kd.string 9 w' w.heap.size (fun _ => True) u336002 cR) ∧ Aside0 (w'.heap[dB]? = some (.cells #[.int .i64 a1_0, .int .i64 a1_1, .int .i64 a1_2, (.slice A1_3 l1_3.length c1_3), (.slice A1_4 l1_4.length c1_4)] 63 (0, 0))) ∧ Aside0 (w'.heap[cI]? = some (.cells #[.int .i64 0, .string (⟨#[]⟩ : au), (.slice none 0 0), (.slice none 0 0)] 28 (0, 0))) ∧ Aside0 (w'.heap[cQ]? = some (.cells #[.int .i64 a1_0, .string cF, u336002, (.slice none 0 0)] 28 (0, 0))) ∧ Aside0 (Below w.heap.size w w'))
   case atStart => exact ⟨(0), (([] : List au)), (.slice none 0 0), Z8, H', ⟨Nat.le_refl _⟩, ⟨Z7⟩, ⟨zC⟩, ⟨zC⟩, ⟨zC⟩, ⟨zB⟩⟩
   case round =>
    clear H'
    obtain ⟨dL, cR, u336002, rfl, HA, HK2, bR, bK, dP, bN, HB⟩ := hrel
    cases gk with
    | zero => exact absurd HA.out (by simp [aU.l0])
    | succ k2 =>
     have H := HA.out
     clear HA
     simp only [aU.l0] at H
     revert H; refine sId1_d0 (fun uD H => ?_) fun uD H => ?_
     ·revert H; refine sNd1 fun Tn H => ?_
      revert H; refine sNt1d1 fun To Tp H => ?_
      revert H; refine sNt1d1 fun oX oY H => ?_
      revert H; refine sNt1d1 fun Tq Ts H => ?_
      revert H; refine bnd ?_; rintro oA Xd H
      revert H; refine sNk fun c39 H => ?_
      have Ak := aa c39
      clear c39
      obtain ⟨sS, hy340⟩ : ∃ y_ : List au, y_ = (cR ++ [oA]) := ⟨_, rfl⟩
      replace H : (aU.l0 k2 a0 (wrap64 (dL + 1)) a1_0 a1_1 a1_2 l1_3 l1_4 a1_0 cF sS) = some (r1, r2, r3, r4) := by first | (rw [hy340]; with_reducible exact H) | (have H2_ := (ak _ _).symm.trans H; rw [hy340]; with_reducible exact H2_) | (have H2_ := (ak _ _).symm.trans H; with_reducible exact H2_) | with_reducible exact H | (rw [hy340]; exact H) | exact H
      have Al := aa hy340
      clear hy340
      as_aux_lemma =>
       have H' := aa H
       clear H
       have Tt := dT.out
       have Tu := dU.out
       have Tv := cZ.out
       have Tw := dA.out
       obtain ⟨Ep, Er, Es, Et, Eu, Ew, Ex, Ey, Ez, Fa⟩ := cz5 bK.out
       try go_wp2
       replace bR := aa (Kd.R_drew bR.out)
       replace bK := aa (blk_drew bK.out)
       replace dP := aa (blk_drew dP.out)
       replace bN := aa (blk_drew bN.out)
       replace HB := aa (below_drew1 HB.out)
       have p337 : 0 ≤ (dL : Int) := ab Z9
       have q337 : dL < (l1_3.length : Int) := ab Z9
       obtain ⟨iD, e337, hx337_0, hx337_1⟩ := at_T93 uC.out dL p337 q337
       have dV := hx337_1
       have dW := hx337_0
       cases e337
       replace hx337_0 := av HB.out hx337_0
       replace hx337_1 := av HB.out hx337_1
       replace p337 := af p337
       replace q337 := af q337
       have p338 : 0 ≤ (dL : Int) := ab Z9
       have q338 : dL < (l1_3.length : Int) := ab Z9
       obtain ⟨Am, e338, hx338_0, hx338_1⟩ := at_T93 uC.out dL p338 q338
       have dX := hx338_1
       have dY := hx338_0
       obtain rfl : iD = Am := (by injection e338)
       replace hx338_0 := av HB.out hx338_0
       replace hx338_1 := av HB.out hx338_1
       replace p338 := af p338
       replace q338 := af q338
       refine st1 21 [20] (S := fun w' => G4 w' cQ (.int .i64 a1_0) (.string cF) (u336002) (.slice none 0 0) (G5 w' dB (.int .i64 a1_0) (.int .i64 a1_1) (.int .i64 a1_2) (.slice (some iD) l1_3.length c1_3) (.slice A1_4 l1_4.length c1_4) (w'.cell? (iD.add ((dL).toNat * 2)) = some (.int .i64 ((rd_T93 l1_3 dL).f0)) ∧ w'.cell? ⟨(iD.add ((dL).toNat * 2)).block, (iD.add ((dL).toNat * 2)).off + 1, none⟩ = some (.int .i64 ((rd_T93 l1_3 dL).f1)) ∧ w'.cell? (iD.add ((dL).toNat * 2)) = some (.int .i64 ((rd_T93 l1_3 dL).f0)) ∧ w'.cell? ⟨(iD.add ((dL).toNat * 2)).block, (iD.add ((dL).toNat * 2)).off + 1, none⟩ = some (.int .i64 ((rd_T93 l1_3 dL).f1))))) (hS := ⟨(ax bN.out 0), (ax bN.out 1), (ax bN.out 2), (ax bN.out 3), (ax bK.out 0), (ax bK.out 1), (ax bK.out 2), (ax bK.out 3), (ax bK.out 4), (av HB.out dW), (av HB.out dV), (av HB.out dY), (av HB.out dX)⟩) (fun hHeld => ?_); refine with_tabW aU.tab10 aU.bits10 (fun HT_ HW_ => ?_)
       generalize wr.drew = w43 at bR bK dP bN HB hx337_0 hx337_1 hx338_0 hx338_1 hHeld ⊢
       refine pz 0 39 ?_
       refine pz 2 41 ?_
       refine pz 3 42 ?_
       refine pz 5 44 ?_
       refine pz 9 48 ?_
       refine pz 11 50 ?_
       refine tk13 1 40 ?_
       refine tk13 4 43 ?_
       refine pz 6 45 ?_
       refine pz 7 46 ?_
       refine tk13 8 47 ?_
       refine tk13 10 49 ?_
       refine pz 12 51 ?_
       refine pz 13 52 ?_
       refine tk13 14 53 ?_
       refine pz 15 54 ?_
       refine on1 16 (some 55) fun K hK => ?_
       refine goes_ Tryz.func37 (by kernel_rfl) rfl #[.string (a0.extract (((rd_T93 l1_3 dL).f0) : Int).toNat (((rd_T93 l1_3 dL).f1) : Int).toNat)] (by rfl) rfl rfl Z45 ?_
       with_reducible refine (aW.calls k2 (a0.extract (((rd_T93 l1_3 dL).f0) : Int).toNat (((rd_T93 l1_3 dL).f1) : Int).toNat) oA _ Xd.out).mono ?_
       rintro e w44 ⟨rfl, hb⟩
       refine ⟨_, rfl, ?_⟩
       replace bR := aa (Kd.R_below Z25 hb)
       replace bK := aa (blk_below (g := dB) zC hb)
       replace dP := aa (blk_below (g := cI) zC hb)
       replace bN := aa (blk_below (g := cQ) zC hb)
       replace HB := aa (below_step (w := w) zB hb)
       try clear hb
       refine hK.out _ _ ⟨(ax bN.out 0), (ax bN.out 1), (ax bN.out 2), (ax bN.out 3), (ax bK.out 0), (ax bK.out 1), (ax bK.out 2), (ax bK.out 3), (ax bK.out 4), (av HB.out dW), (av HB.out dV), (av HB.out dY), (av HB.out dX)⟩ (fun hHeld => ?_)
       clear hK K
       refine nz (N := some 55) ?_
       refine on1 17 (some 56) fun K hK => ?_
       refine value_ (w1 := ?_) (v := ?_) (by rfl) rfl ?_ ?_
       rotate_left 2
       ·go_simp
        constructor
        ·rfl
        ·rfl
       refine hK.out _ _ ⟨(ax (blk_alloc bN.out _) 0), (ax (blk_alloc bN.out _) 1), (ax (blk_alloc bN.out _) 2), (ax (blk_alloc bN.out _) 3), (ax (blk_alloc bK.out _) 0), (ax (blk_alloc bK.out _) 1), (ax (blk_alloc bK.out _) 2), (ax (blk_alloc bK.out _) 3), (ax (blk_alloc bK.out _) 4), (World.cell?_alloc_lt _ _ _ (World.block_lt_of_cell? _ _ ((av HB.out dW)))).trans ((av HB.out dW)), (World.cell?_alloc_lt _ _ _ (World.block_lt_of_cell? _ _ ((av HB.out dV)))).trans ((av HB.out dV)), (World.cell?_alloc_lt _ _ _ (World.block_lt_of_cell? _ _ ((av HB.out dY)))).trans ((av HB.out dY)), (World.cell?_alloc_lt _ _ _ (World.block_lt_of_cell? _ _ ((av HB.out dX)))).trans ((av HB.out dX))⟩ (fun hHeld => ?_)
       clear hK K
       refine nz (N := some 56) ?_
       refine on1 18 (some 57) fun K hK => ?_
       refine Kd.R_append_step Kd.string (w0 := w) w.heap.size (by rfl) (.tmp 40) (.tmp 56) 25 9 (.string ⟨#[]⟩) 16 rfl Tryz.underlying25 info9 rfl (by decide) (by omega) u336002 cR oA [.string oA] (fun _ => True) (fun _ => False) rfl rfl ?aP (fun _ hk => hk.elim) ?aF ?aO ?aB ?aS ?aL ?_
       (case aP => exact rfl)
       (case aB => exact zB)
       (case aF => exact (fun _ _ => trivial))
       (case aO => exact Z25)
       (case aS => exact (below_size zB))
       (case aL => have := Ak.out; omega)
       intro v341 w45 ho hb hg hat
       rw [← Al.out] at ho
       replace bK := aa (blk_grown (g := dB) zC hg (Kd.R_ne bR.out bK.out (by decide)))
       replace dP := aa (blk_grown (g := cI) zC hg (Kd.R_ne bR.out dP.out (by decide)))
       replace bN := aa (blk_grown (g := cQ) zC hg (Kd.R_ne bR.out bN.out (by decide)))
       replace HB := aa (hb)
       have uE := aa (ho)
       clear bR
       clear ho hb hg hat
       obtain ⟨Ao, co46, eo46⟩ := Kd.R_slice uE.out
       (first | subst eo46 | (injection eo46 with f1_ f2_ f3_; have f4_ := f1_.symm; have f5_ := f3_.symm; clear f1_ f2_ f3_; subst f4_; subst f5_))
       refine hK.out _ _ ⟨(ax bN.out 0), (ax bN.out 1), (ax bN.out 2), (ax bN.out 3), (ax bK.out 0), (ax bK.out 1), (ax bK.out 2), (ax bK.out 3), (ax bK.out 4), (av HB.out dW), (av HB.out dV), (av HB.out dY), (av HB.out dX)⟩ (fun hHeld => ?_)
       clear hK K
       refine nz (N := some 57) ?_
       refine pz 19 58 ?_
       refine last_ (i := 20) (N := none) #[true, true, true, true, true, true, true, true, true, true, true, true, true, true, true, true, true, true, true, true, true] rfl rfl (one_of HT_.out (by kernel_rfl)) (by decide) (fun K hK => ?_)
       have Xe : w45.cell? ⟨cQ, 2, none⟩ = some (u336002) := (ax bN.out 2)
       have Tx := blk_frozen bN.out 2
       have hns47_0 := cZ.out
       have hns47_1 := eK.out
       have hms47_0 := dA.out
       have hms47_1 := eM.out
       refine sk1 ?_
       refine hK.out _ _ ?_
       clear hK K
       refine dn1 ?_
       try go_wp2
       go_roundg k2
       case measure => have := HJ2.out; have := HK2.out; omega
       case rel => exact ⟨(wrap64 (dL + 1)), (sS), (.slice Ao sS.length co46), Z8, H', ⟨by have := HJ2.out; have := HK2.out; omega⟩, ⟨by (with_reducible repeat (first | apply Kd.R_alloc | apply Kd.R_drewN | apply Kd.R_drew)); exact Kd.R_mono (Kd.R_far (p := ⟨cQ, 2, none⟩) (Kd.R_types uE.out bN.out (by decide)) (fun _ hk => hk.2) (.slice Ao sS.length co46)) (fun _ hk => trivial)⟩, ⟨zC⟩, ⟨zC⟩, ⟨zC⟩, ⟨zB⟩⟩
     have H' := aa H
     clear H
     have Ty := dT.out
     have Tz := dU.out
     have Aq := cZ.out
     have Ar := dA.out
     obtain ⟨jY, jZ, nC, nD, nE, kA, kB, nF, nG, nH⟩ := cz5 bK.out
     go_wp2
     (try simp only [Act.put, ao, ap, aq])
     go_loopg [7] k2 (fun kq v7 w' => ∃ (dC : Int) (dI : List (S25)) (u336003 : Value), v7 = .int .i64 dC ∧ Aside0 (aU.l1 kq a0 dC a1_0 a1_1 a1_2 l1_3 l1_4 a1_0 cF cR dI = some (r1, r2, r3, r4)) ∧ Aside0 (kq ≤ k2) ∧ Aside0 (Kd.R Kd.string 9 w' w.heap.size (fun _ => True) u336002 cR) ∧ Aside0 (Kd.R k25 28 w' w.heap.size (fun k_ => some k_ ≠ (u336002 : Value).ownBlock ∧ k_ ≠ cI ∧ k_ ≠ cQ) u336003 dI) ∧ Aside0 (w'.heap[dB]? = some (.cells #[.int .i64 a1_0, .int .i64 a1_1, .int .i64 a1_2, (.slice A1_3 l1_3.length c1_3), (.slice A1_4 l1_4.length c1_4)] 63 (0, 0))) ∧ Aside0 (w'.heap[cI]? = some (.cells #[.int .i64 0, .string (⟨#[]⟩ : au), (.slice none 0 0), (.slice none 0 0)] 28 (0, 0))) ∧ Aside0 (w'.heap[cQ]? = some (.cells #[.int .i64 a1_0, .string cF, u336002, u336003] 28 (0, 0))) ∧ Aside0 (Below w.heap.size w w'))
     case atStart => exact ⟨(0), (([] : List (S25))), (.slice none 0 0), Z8, H', ⟨Nat.le_refl _⟩, ⟨by (with_reducible repeat (first | apply Kd.R_alloc | apply Kd.R_drewN | apply Kd.R_drew)); first | exact bR.out | exact Kd.V_len bR.out⟩, ⟨Z7⟩, ⟨zC⟩, ⟨zC⟩, ⟨zC⟩, ⟨zB⟩⟩
     case round =>
      clear H'
      try clear uD jY jZ nC nD nE kA kB nF nG nH
      obtain ⟨dC, dI, u336003, rfl, HA, HK3, bR, cJ, bK, dP, bN, HB⟩ := hrel
      cases gk with
      | zero => exact absurd HA.out (by simp [aU.l1])
      | succ k3 =>
       have H := HA.out
       clear HA
       simp only [aU.l1] at H
       revert H; refine sId1_d0 (fun Av H => ?_) fun Av H => ?_
       ·revert H; refine sNd1 fun Ua H => ?_
        revert H; refine bnd ?_; rintro ⟨pD, pE, pF, pG⟩ Xf H; try dsimp only at H
        revert H; refine sNk fun c54 H => ?_
        have Aw := aa c54
        clear c54
        obtain ⟨pH, hy352⟩ : ∃ y_ : List (S25), y_ = (dI ++ [(⟨pD, pE, pF, pG⟩ : S25)]) := ⟨_, rfl⟩
        replace H : (aU.l1 k3 a0 (wrap64 (dC + 1)) a1_0 a1_1 a1_2 l1_3 l1_4 a1_0 cF cR pH) = some (r1, r2, r3, r4) := by first | (rw [hy352]; with_reducible exact H) | (have H2_ := (ak _ _).symm.trans H; rw [hy352]; with_reducible exact H2_) | (have H2_ := (ak _ _).symm.trans H; with_reducible exact H2_) | with_reducible exact H | (rw [hy352]; exact H) | exact H
        have Ax := aa hy352
        clear hy352
        as_aux_lemma =>
         have H' := aa H
         clear H
         have yZ := dT.out
         have zA := dU.out
         have zD := cZ.out
         have zF := dA.out
         obtain ⟨mP, mQ, mR, mT, mU, mV, mW, mX, mY, mZ⟩ := cz5 bK.out
         try go_wp2
         replace bR := aa (Kd.R_drew bR.out)
         replace cJ := aa (Kd.R_drew cJ.out)
         replace bK := aa (blk_drew bK.out)
         replace dP := aa (blk_drew dP.out)
         replace bN := aa (blk_drew bN.out)
         replace HB := aa (below_drew1 HB.out)
         have p343 : 0 ≤ (dC : Int) := ab Z9
         have q343 : dC < (l1_4.length : Int) := ab Z9
         obtain ⟨fZ, A343_3, c343_3, A343_4, c343_4, e343, hx343_0, hx343_1, hx343_2, hx343_3, hx343_4, hl343_3, hi343_3, hl343_4, hi343_4⟩ := at_T31 Af.out dC p343 q343
         have dZ := hx343_4
         have eA := hx343_3
         have eB := hx343_2
         have eC := hx343_1
         have eD := hx343_0
         cases e343
         replace hx343_0 := av HB.out hx343_0
         replace hx343_1 := av HB.out hx343_1
         replace hx343_2 := av HB.out hx343_2
         replace hx343_3 := av HB.out hx343_3
         replace hx343_4 := av HB.out hx343_4
         have nI := aa hi343_3
         have HC343_3 := aa hl343_3
         clear hi343_3 hl343_3
         have nJ := aa hi343_4
         have HC343_4 := aa hl343_4
         clear hi343_4 hl343_4
         replace p343 := af p343
         replace q343 := af q343
         refine st1 13 [12] (S := fun w' => G4 w' cQ (.int .i64 a1_0) (.string cF) (u336002) (u336003) (G5 w' dB (.int .i64 a1_0) (.int .i64 a1_1) (.int .i64 a1_2) (.slice A1_3 l1_3.length c1_3) (.slice (some fZ) l1_4.length c1_4) (w'.cell? (fZ.add ((dC).toNat * 5)) = some (.int .i64 ((rd_T31 l1_4 dC).f0)) ∧ w'.cell? ⟨(fZ.add ((dC).toNat * 5)).block, (fZ.add ((dC).toNat * 5)).off + 1, none⟩ = some (.int .i64 ((rd_T31 l1_4 dC).f1)) ∧ w'.cell? ⟨(fZ.add ((dC).toNat * 5)).block, (fZ.add ((dC).toNat * 5)).off + 2, none⟩ = some (.int .i64 ((rd_T31 l1_4 dC).f2)) ∧ w'.cell? ⟨(fZ.add ((dC).toNat * 5)).block, (fZ.add ((dC).toNat * 5)).off + 3, none⟩ = some (.slice A343_3 ((rd_T31 l1_4 dC).f3).length c343_3) ∧ w'.cell? ⟨(fZ.add ((dC).toNat * 5)).block, (fZ.add ((dC).toNat * 5)).off + 4, none⟩ = some (.slice A343_4 ((rd_T31 l1_4 dC).f4).length c343_4)))) (hS := ⟨(ax bN.out 0), (ax bN.out 1), (ax bN.out 2), (ax bN.out 3), (ax bK.out 0), (ax bK.out 1), (ax bK.out 2), (ax bK.out 3), (ax bK.out 4), (av HB.out eD), (av HB.out eC), (av HB.out eB), (av HB.out eA), (av HB.out dZ)⟩) (fun hHeld => ?_); refine with_tabW aU.tab14 aU.bits14 (fun HT_ HW_ => ?_)
         generalize wr.drew = w58 at bR cJ bK dP bN HB nI nJ hx343_0 hx343_1 hx343_2 hx343_3 hx343_4 hHeld ⊢
         refine pz 0 66 ?_
         refine pz 2 68 ?_
         refine pz 3 69 ?_
         refine pz 5 71 ?_
         refine tk14 1 67 ?_
         refine tk14 4 70 ?_
         refine pz 6 72 ?_
         refine tk14 7 73 ?_
         refine on1 8 (some 74) fun K hK => ?_
         refine goes_ Tryz.func25 (by kernel_rfl) rfl #[.string a0, .agg #[.int .i64 ((rd_T31 l1_4 dC).f0), .int .i64 ((rd_T31 l1_4 dC).f1), .int .i64 ((rd_T31 l1_4 dC).f2), .slice A343_3 ((rd_T31 l1_4 dC).f3).length c343_3, .slice A343_4 ((rd_T31 l1_4 dC).f4).length c343_4]] (by rfl) rfl rfl Z45 ?_
         with_reducible refine (ih k3 (by have := HJ2.out; have := HK2.out; have := HK3.out; omega) a0 ((rd_T31 l1_4 dC).f0) ((rd_T31 l1_4 dC).f1) ((rd_T31 l1_4 dC).f2) _ _ ((rd_T31 l1_4 dC).f3) _ _ ((rd_T31 l1_4 dC).f4) pD pE pF pG _ ?side1 ?side2 ?side3 ?side4 Xf.out).mono ?_
         (case side1 => repeat (first | exact (Kd.C_below nI.out HB.out) | (with_reducible refine Kd.C_alloc ?_ _) | (with_reducible refine Kd.C_drewN ?_ _) | (with_reducible refine Kd.C_drew ?_)))
         (case side2 => exact HC343_3.out)
         (case side3 => repeat (first | exact (Kd.C_below nJ.out HB.out) | (with_reducible refine Kd.C_alloc ?_ _) | (with_reducible refine Kd.C_drewN ?_ _) | (with_reducible refine Kd.C_drew ?_)))
         (case side4 => exact HC343_4.out)
         rintro e w59 ⟨v347, v350, rfl, ho0, ho1, hb⟩
         refine ⟨_, rfl, ?_⟩
         have pI := aa (Kd.R_lower (Kd.R_new' ho0 (Kd.R_lt Z25)) (below_size zB))
         have pJ := aa (Kd.R_lower (Kd.R_newB (Kd.R_newB (Kd.R_new' (Kd.R_new' ho1 (Kd.R_lt Z25)) (Kd.R_lt Z51)) (g := cI) zC) (g := cQ) zC) (below_size zB))
         replace bR := aa (Kd.R_elder' Z25 (Kd.R_base ho0) hb)
         replace cJ := aa (Kd.R_mono (Kd.R_told (Kd.R_told (Kd.R_old Z51 hb) (Kd.R_base ho0)) (Kd.R_base ho1)) (fun _ h_ => h_.1))
         replace bK := aa (blk_below (g := dB) zC hb)
         replace dP := aa (blk_below (g := cI) zC hb)
         replace bN := aa (blk_below (g := cQ) zC hb)
         replace HB := aa (below_step (w := w) zB hb)
         try clear hb ho0 ho1
         obtain ⟨Qw, co61, eo61⟩ := Kd.R_slice pI.out
         (first | subst eo61 | (injection eo61 with f1_ f2_ f3_; have f4_ := f1_.symm; have f5_ := f3_.symm; clear f1_ f2_ f3_; subst f4_; subst f5_))
         obtain ⟨Qx, co62, eo62⟩ := Kd.R_slice pJ.out
         (first | subst eo62 | (injection eo62 with f1_ f2_ f3_; have f4_ := f1_.symm; have f5_ := f3_.symm; clear f1_ f2_ f3_; subst f4_; subst f5_))
         refine hK.out _ _ ⟨(ax bN.out 0), (ax bN.out 1), (ax bN.out 2), (ax bN.out 3), (ax bK.out 0), (ax bK.out 1), (ax bK.out 2), (ax bK.out 3), (ax bK.out 4), (av HB.out eD), (av HB.out eC), (av HB.out eB), (av HB.out eA), (av HB.out dZ)⟩ (fun hHeld => ?_)
         clear hK K
         refine nz (N := some 74) ?_
         refine on1 9 (some 75) fun K hK => ?_
         refine value_ (w1 := ?_) (v := ?_) (by rfl) rfl ?_ ?_
         rotate_left 2
         ·go_simp
          constructor
          ·rfl
          ·rfl
         refine hK.out _ _ ⟨(ax (blk_alloc bN.out _) 0), (ax (blk_alloc bN.out _) 1), (ax (blk_alloc bN.out _) 2), (ax (blk_alloc bN.out _) 3), (ax (blk_alloc bK.out _) 0), (ax (blk_alloc bK.out _) 1), (ax (blk_alloc bK.out _) 2), (ax (blk_alloc bK.out _) 3), (ax (blk_alloc bK.out _) 4), (World.cell?_alloc_lt _ _ _ (World.block_lt_of_cell? _ _ ((av HB.out eD)))).trans ((av HB.out eD)), (World.cell?_alloc_lt _ _ _ (World.block_lt_of_cell? _ _ ((av HB.out eC)))).trans ((av HB.out eC)), (World.cell?_alloc_lt _ _ _ (World.block_lt_of_cell? _ _ ((av HB.out eB)))).trans ((av HB.out eB)), (World.cell?_alloc_lt _ _ _ (World.block_lt_of_cell? _ _ ((av HB.out eA)))).trans ((av HB.out eA)), (World.cell?_alloc_lt _ _ _ (World.block_lt_of_cell? _ _ ((av HB.out dZ)))).trans ((av HB.out dZ))⟩ (fun hHeld => ?_)
         clear hK K
         refine nz (N := some 75) ?_
         refine on1 10 (some 76) fun K hK => ?_
         refine Kd.R_append_step k25 (w0 := w) w.heap.size (by rfl) (.tmp 67) (.tmp 75) 26 28 (.agg #[(.int .i64 0), (.string ⟨#[]⟩), (.slice none 0 0), (.slice none 0 0)]) 72 rfl Tryz.underlying26 info25 rfl (by decide) (by omega) u336003 dI (⟨pD, pE, pF, pG⟩ : S25) [.int .i64 pD, .string pE, .slice Qw pF.length co61, .slice Qx pG.length co62] (fun k_ => some k_ ≠ (u336002 : Value).ownBlock ∧ k_ ≠ cI ∧ k_ ≠ cQ) (fun k_ => ((fun k_ => some k_ ≠ (u336002 : Value).ownBlock ∧ k_ ≠ cI ∧ k_ ≠ cQ)) k_ ∧ some k_ ≠ (u336003 : Value).ownBlock) rfl rfl ?aP (fun _ hk => hk) ?aF ?aO ?aB ?aS ?aL ?_
         (case aP => exact k25_mkM _ _ _ (⟨pD, pE, pF, pG⟩ : S25) (Kd.R_mono (Kd.R_types (Kd.R_types (Kd.R_apart' (pI.out) (Kd.R_typed cJ.out) (by decide)) dP.out (by decide)) bN.out (by decide)) (fun k_ hk => ⟨⟨hk.1.1.1.2, ⟨hk.1.2, hk.2⟩⟩, hk.1.1.2⟩)) (Kd.R_mono (pJ.out) (fun k_ hk => ⟨⟨hk.1.1.1.2, ⟨hk.1.2, hk.2⟩⟩, hk.1.1.2⟩)))
         (case aB => exact zB)
         (case aF => exact (fun k_ hk => ⟨Kd.fresh' (Kd.R_lt Z25) k_ hk, Kd.freshB (g := cI) zC k_ hk, Kd.freshB (g := cQ) zC k_ hk⟩))
         (case aO => exact (by (with_reducible repeat (first | apply Kd.R_alloc | apply Kd.R_drewN | apply Kd.R_drew)); exact Kd.R_mono cJ.out (fun _ hk => ⟨hk.1.1.1, ⟨hk.1.1.2.1, hk.1.1.2.2⟩⟩)))
         (case aS => exact (below_size zB))
         (case aL => have := Aw.out; omega)
         intro v353 w60 ho hb hg hat
         rw [← Ax.out] at ho
         replace bR := aa (Kd.R_over' Z25 (Kd.R_typed Z51) (by decide) hg)
         replace bK := aa (blk_grown (g := dB) zC hg (Kd.R_ne cJ.out bK.out (by decide)))
         replace dP := aa (blk_grown (g := cI) zC hg (Kd.R_away cJ.out (fun _ hk => hk.1.1.2.1)))
         replace bN := aa (blk_grown (g := cQ) zC hg (Kd.R_away cJ.out (fun _ hk => hk.1.1.2.2)))
         replace HB := aa (hb)
         have uF := aa (ho)
         clear cJ pI pJ
         clear ho hb hg hat
         obtain ⟨wB, co63, eo63⟩ := Kd.R_slice uF.out
         (first | subst eo63 | (injection eo63 with f1_ f2_ f3_; have f4_ := f1_.symm; have f5_ := f3_.symm; clear f1_ f2_ f3_; subst f4_; subst f5_))
         refine hK.out _ _ ⟨(ax bN.out 0), (ax bN.out 1), (ax bN.out 2), (ax bN.out 3), (ax bK.out 0), (ax bK.out 1), (ax bK.out 2), (ax bK.out 3), (ax bK.out 4), (av HB.out eD), (av HB.out eC), (av HB.out eB), (av HB.out eA), (av HB.out dZ)⟩ (fun hHeld => ?_)
         clear hK K
         refine nz (N := some 76) ?_
         refine pz 11 77 ?_
         refine last_ (i := 12) (N := none) #[true, true, true, true, true, true, true, true, true, true, true, true, true] rfl rfl (one_of HT_.out (by kernel_rfl)) (by decide) (fun K hK => ?_)
         have Xg : w60.cell? ⟨cQ, 3, none⟩ = some (u336003) := (ax bN.out 3)
         have Ub := blk_frozen bN.out 3
         have hns64_0 := cZ.out
         have hns64_1 := eK.out
         have hms64_0 := dA.out
         have hms64_1 := eM.out
         refine sk1 ?_
         refine hK.out _ _ ?_
         clear hK K
         refine dn1 ?_
         try go_wp2
         go_roundg k3
         case measure => have := HJ2.out; have := HK2.out; have := HK3.out; omega
         case rel => exact ⟨(wrap64 (dC + 1)), (pH), (.slice wB pH.length co63), Z8, H', ⟨by have := HJ2.out; have := HK2.out; have := HK3.out; omega⟩, ⟨by (with_reducible repeat (first | apply Kd.R_alloc | apply Kd.R_drewN | apply Kd.R_drew)); exact Kd.R_mono (Kd.R_far (p := ⟨cQ, 3, none⟩) (Kd.R_types bR.out bN.out (by decide)) (fun _ hk => hk.2) (.slice wB pH.length co63)) (fun _ hk => trivial)⟩, ⟨by (with_reducible repeat (first | apply Kd.R_alloc | apply Kd.R_drewN | apply Kd.R_drew)); exact Kd.R_mono (Kd.R_far (p := ⟨cQ, 3, none⟩) (Kd.R_mono uF.out (fun k_ hk => (⟨hk, hk.2.2⟩ : _ ∧ k_ ≠ cQ))) (fun _ hk => hk.2) (.slice wB pH.length co63)) (fun _ hk => ⟨hk.1.1, ⟨hk.1.2.1, hk.1.2.2⟩⟩)⟩, ⟨zC⟩, ⟨zC⟩, ⟨zC⟩, ⟨zB⟩⟩
       as_aux_lemma =>
        simp only [al, am] at H
        obtain ⟨rfl, rfl, rfl, rfl⟩ := H
        have Uc := dT.out
        have Ud := dU.out
        have Ue := cZ.out
        have Uf := dA.out
        obtain ⟨sT, sU, Fb, Fc, Fd, sV, sW, Fe, Ff, Fg⟩ := cz5 bK.out
        have Ug := eM.out
        have Uh := eK.out
        obtain ⟨Fh, Fi, Fj, Fk, Fl, Fm, Fn, Fo⟩ := cz4 bN.out
        obtain ⟨sX, sY, sZ, tA, tB, tC, tD, tE⟩ := cz4 dP.out
        obtain ⟨wC, co71, eo71⟩ := Kd.R_slice bR.out
        subst eo71
        obtain ⟨wD, co72, eo72⟩ := Kd.R_slice cJ.out
        subst eo72
        go_wp2
        refine bodyPost_ret (results_cell_row rfl _ _ cI 28 #[.int .i64 a1_0, .string cF, .slice wC cR.length co71, .slice wD dI.length co72] (0, 0) _ rfl zC Tryz.underlying28 rfl (by kernel_rfl)) rfl ?_
        exact ⟨_, _, Z6, by (with_reducible repeat (first | apply Kd.R_alloc | apply Kd.R_drewN | apply Kd.R_drew)); exact Kd.R_mono (Kd.R_far (p := ⟨cI, 3, none⟩) (Kd.R_far (p := ⟨cI, 2, none⟩) (Kd.R_far (p := ⟨cI, 1, none⟩) (Kd.R_far (p := ⟨cI, 0, none⟩) (Kd.R_types bR.out dP.out (by decide)) (fun _ hk => hk.2) (.int .i64 a1_0)) (fun _ hk => hk.2) (.string cF)) (fun _ hk => hk.2) (.slice wC cR.length co71)) (fun _ hk => hk.2) (.slice wD dI.length co72)) (fun _ hk => trivial), by (with_reducible repeat (first | apply Kd.R_alloc | apply Kd.R_drewN | apply Kd.R_drew)); exact Kd.R_mono (Kd.R_far (p := ⟨cI, 3, none⟩) (Kd.R_far (p := ⟨cI, 2, none⟩) (Kd.R_far (p := ⟨cI, 1, none⟩) (Kd.R_far (p := ⟨cI, 0, none⟩) (Kd.R_mono cJ.out (fun k_ hk => (⟨hk, hk.2.1⟩ : _ ∧ k_ ≠ cI))) (fun _ hk => hk.2) (.int .i64 a1_0)) (fun _ hk => hk.2) (.string cF)) (fun _ hk => hk.2) (.slice wC cR.length co71)) (fun _ hk => hk.2) (.slice wD dI.length co72)) (fun _ hk => hk.1.1), zB⟩
end Go.Proofs.YtmpdhdnoohmndaaGreatDoor.Sp

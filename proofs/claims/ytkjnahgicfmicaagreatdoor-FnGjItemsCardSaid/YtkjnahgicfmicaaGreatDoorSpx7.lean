import Derived.Test.YtkjnahgicfmicaaGreatDoorZip
import Derived.Test.YtkjnahgicfmicaaGreatDoorQa
import Derived.Test.YtkjnahgicfmicaaGreatDoorQc
namespace Go.Proofs.YtkjnahgicfmicaaGreatDoor.Sp
open Go.RowKit Go.Proofs.YtkjnahgicfmicaaGreatDoorW.PrintWords Go.Proofs.YtkjnahgicfmicaaGreatDoorW.PrintLast Go.Proofs.YtkjnahgicfmicaaGreatDoorW.PrintMore
attribute [local go_sem] max2_int min2_int max_two min_two max_three min_three max_four min_four
set_option linter.unusedVariables false
set_option linter.unusedSimpArgs false
mutual
def bB.j0 : Nat → ByteArray → Int → Int → Int → List (S93) → List (S31) → Int → ByteArray → Option (Int × ByteArray × List ByteArray × (List (S25)))
 | 0, _, _, _, _, _, _, _, _ => none
 | k + 1, x0, kV, kW, kX, fP, gC, jT, jU => bB.l0 k x0 0 kV kW kX fP gC jT jU ([] : List ByteArray)
def bB.l0 : Nat → ByteArray → Int → Int → Int → Int → List (S93) → List (S31) → Int → ByteArray → List ByteArray → Option (Int × ByteArray × List ByteArray × (List (S25)))
 | 0, _, _, _, _, _, _, _, _, _, _ => none
 | k + 1, x0, x6, kV, kW, kX, fP, gC, jT, jU, kY => if x6 < (fP.length : Int) then (if 0 ≤ x6 then (if 0 ≤ ((rd_T93 fP x6).f0) then (if ((rd_T93 fP x6).f0) ≤ ((rd_T93 fP x6).f1) then (if ((rd_T93 fP x6).f1) ≤ (x0.size : Int) then ((aX.f k (x0.extract (((rd_T93 fP x6).f0) : Int).toNat (((rd_T93 fP x6).f1) : Int).toNat)).bind fun wL => (if kY.length < 8796093022208 then (bB.l0 k x0 (wrap64 (x6 + 1)) kV kW kX fP gC jT jU (kY ++ [wL])) else (none))) else (none)) else (none)) else (none)) else (none)) else (bB.l1 k x0 0 kV kW kX fP gC jT jU kY ([] : List (S25)))
def bB.l1 : Nat → ByteArray → Int → Int → Int → Int → List (S93) → List (S31) → Int → ByteArray → List ByteArray → List (S25) → Option (Int × ByteArray × List ByteArray × (List (S25)))
 | 0, _, _, _, _, _, _, _, _, _, _, _ => none
 | k + 1, x0, x7, kV, kW, kX, fP, gC, jT, jU, kY, qD => if x7 < (gC.length : Int) then (if 0 ≤ x7 then ((bB.f k x0 ((rd_T31 gC x7).f0) ((rd_T31 gC x7).f1) ((rd_T31 gC x7).f2) ((rd_T31 gC x7).f3) ((rd_T31 gC x7).f4)).bind fun bt344 => (if qD.length < 1954687338268 then (bB.l1 k x0 (wrap64 (x7 + 1)) kV kW kX fP gC jT jU kY (qD ++ [(⟨bt344.1, bt344.2.1, bt344.2.2.1, bt344.2.2.2⟩ : S25)])) else (none))) else (none)) else (some (jT, jU, kY, qD))
def bB.f : Nat → ByteArray → Int → Int → Int → List (S93) → List (S31) → Option (Int × ByteArray × List ByteArray × (List (S25)))
 | 0, _, _, _, _, _, _ => none
 | k + 1, a0, a1_0, a1_1, a1_2, l1_3, l1_4 => if a1_0 = 3 then (if 0 ≤ a1_1 then (if a1_1 ≤ a1_2 then (if a1_2 ≤ (a0.size : Int) then (bB.j0 k a0 a1_0 a1_1 a1_2 l1_3 l1_4 a1_0 (a0.extract (a1_1 : Int).toNat (a1_2 : Int).toNat)) else (none)) else (none)) else (none)) else (if a1_0 = 4 then (if 0 ≤ a1_1 then (if a1_1 ≤ a1_2 then (if a1_2 ≤ (a0.size : Int) then ((aX.f k (a0.extract (a1_1 : Int).toNat (a1_2 : Int).toNat)).bind fun wM => (bB.j0 k a0 a1_0 a1_1 a1_2 l1_3 l1_4 a1_0 wM)) else (none)) else (none)) else (none)) else (bB.j0 k a0 a1_0 a1_1 a1_2 l1_3 l1_4 a1_0 (⟨#[]⟩ : ByteArray)))
end
theorem bB.mono_l : ∀ k, (∀ y0 y1 y2 y3 y4 y5, LeO (bB.f k y0 y1 y2 y3 y4 y5) (bB.f (k + 1) y0 y1 y2 y3 y4 y5)) ∧ (∀ y0 y1 y2 y3 y4 y5 y6 y7, LeO (bB.j0 k y0 y1 y2 y3 y4 y5 y6 y7) (bB.j0 (k + 1) y0 y1 y2 y3 y4 y5 y6 y7)) ∧ (∀ y0 y1 y2 y3 y4 y5 y6 y7 y8 y9, LeO (bB.l0 k y0 y1 y2 y3 y4 y5 y6 y7 y8 y9) (bB.l0 (k + 1) y0 y1 y2 y3 y4 y5 y6 y7 y8 y9)) ∧ (∀ y0 y1 y2 y3 y4 y5 y6 y7 y8 y9 y10, LeO (bB.l1 k y0 y1 y2 y3 y4 y5 y6 y7 y8 y9 y10) (bB.l1 (k + 1) y0 y1 y2 y3 y4 y5 y6 y7 y8 y9 y10))
 | 0 => ⟨fun _ _ _ _ _ _ r h => by simp [bB.f] at h, fun _ _ _ _ _ _ _ _ r h => by simp [bB.j0] at h, fun _ _ _ _ _ _ _ _ _ _ r h => by simp [bB.l0] at h, fun _ _ _ _ _ _ _ _ _ _ _ r h => by simp [bB.l1] at h⟩
 | k + 1 => by
  obtain ⟨ih0, ih1, ih2, ih3⟩ := bB.mono_l k
  refine ⟨?_, ?_, ?_, ?_⟩
  ·intro y0 y1 y2 y3 y4 y5
   unfold bB.f
   repeat' first
   | (with_reducible exact ih0 _ _ _ _ _ _)
   | (with_reducible exact ih1 _ _ _ _ _ _ _ _)
   | (with_reducible exact ih2 _ _ _ _ _ _ _ _ _ _)
   | (with_reducible exact ih3 _ _ _ _ _ _ _ _ _ _ _)
   | (with_reducible exact aX.mono _ _)
   | (with_reducible exact LeO.refl _)
   | (with_reducible exact LeO.none _)
   | (with_reducible refine LeO.ite ?_ ?_)
   | (with_reducible refine LeO.bind ?_ (fun _ => ?_))
   | exact ih0 _ _ _ _ _ _
   | exact ih1 _ _ _ _ _ _ _ _
   | exact ih2 _ _ _ _ _ _ _ _ _ _
   | exact ih3 _ _ _ _ _ _ _ _ _ _ _
   | exact aX.mono _ _
   | exact LeO.none _
   | refine LeO.ite ?_ ?_
   | refine LeO.bind ?_ (fun _ => ?_)
  ·intro y0 y1 y2 y3 y4 y5 y6 y7
   unfold bB.j0
   repeat' first
   | (with_reducible exact ih0 _ _ _ _ _ _)
   | (with_reducible exact ih1 _ _ _ _ _ _ _ _)
   | (with_reducible exact ih2 _ _ _ _ _ _ _ _ _ _)
   | (with_reducible exact ih3 _ _ _ _ _ _ _ _ _ _ _)
   | (with_reducible exact aX.mono _ _)
   | (with_reducible exact LeO.refl _)
   | (with_reducible exact LeO.none _)
   | (with_reducible refine LeO.ite ?_ ?_)
   | (with_reducible refine LeO.bind ?_ (fun _ => ?_))
   | exact ih0 _ _ _ _ _ _
   | exact ih1 _ _ _ _ _ _ _ _
   | exact ih2 _ _ _ _ _ _ _ _ _ _
   | exact ih3 _ _ _ _ _ _ _ _ _ _ _
   | exact aX.mono _ _
   | exact LeO.none _
   | refine LeO.ite ?_ ?_
   | refine LeO.bind ?_ (fun _ => ?_)
  ·intro y0 y1 y2 y3 y4 y5 y6 y7 y8 y9
   unfold bB.l0
   repeat' first
   | (with_reducible exact ih0 _ _ _ _ _ _)
   | (with_reducible exact ih1 _ _ _ _ _ _ _ _)
   | (with_reducible exact ih2 _ _ _ _ _ _ _ _ _ _)
   | (with_reducible exact ih3 _ _ _ _ _ _ _ _ _ _ _)
   | (with_reducible exact aX.mono _ _)
   | (with_reducible exact LeO.refl _)
   | (with_reducible exact LeO.none _)
   | (with_reducible refine LeO.ite ?_ ?_)
   | (with_reducible refine LeO.bind ?_ (fun _ => ?_))
   | exact ih0 _ _ _ _ _ _
   | exact ih1 _ _ _ _ _ _ _ _
   | exact ih2 _ _ _ _ _ _ _ _ _ _
   | exact ih3 _ _ _ _ _ _ _ _ _ _ _
   | exact aX.mono _ _
   | exact LeO.none _
   | refine LeO.ite ?_ ?_
   | refine LeO.bind ?_ (fun _ => ?_)
  ·intro y0 y1 y2 y3 y4 y5 y6 y7 y8 y9 y10
   unfold bB.l1
   repeat' first
   | (with_reducible exact ih0 _ _ _ _ _ _)
   | (with_reducible exact ih1 _ _ _ _ _ _ _ _)
   | (with_reducible exact ih2 _ _ _ _ _ _ _ _ _ _)
   | (with_reducible exact ih3 _ _ _ _ _ _ _ _ _ _ _)
   | (with_reducible exact aX.mono _ _)
   | (with_reducible exact LeO.refl _)
   | (with_reducible exact LeO.none _)
   | (with_reducible refine LeO.ite ?_ ?_)
   | (with_reducible refine LeO.bind ?_ (fun _ => ?_))
   | exact ih0 _ _ _ _ _ _
   | exact ih1 _ _ _ _ _ _ _ _
   | exact ih2 _ _ _ _ _ _ _ _ _ _
   | exact ih3 _ _ _ _ _ _ _ _ _ _ _
   | exact aX.mono _ _
   | exact LeO.none _
   | refine LeO.ite ?_ ?_
   | refine LeO.bind ?_ (fun _ => ?_)
theorem bB.mono : ∀ a0 a1 a2 a3 a4 a5 k, LeO (bB.f k a0 a1 a2 a3 a4 a5) (bB.f (k + 1) a0 a1 a2 a3 a4 a5) := by
 intro a0 a1 a2 a3 a4 a5 k
 obtain ⟨ih0, ih1, ih2, ih3⟩ := bB.mono_l k
 exact ih0 a0 a1 a2 a3 a4 a5
def bB.T10 : Bool × List (List Nat × List Nat) := (true, [([], []), ([0], [0]), ([], []), ([], []), ([3], [3]), ([], []), ([4, 5], [4, 5]), ([6], [6]), ([7], [7]), ([], []), ([9], [9]), ([], []), ([10, 11], [10, 11]), ([12], [12]), ([13], [13]), ([2, 8, 14], [2, 8, 14]), ([15], [15]), ([16], [16]), ([1, 17, 16], [1, 17]), ([0, 1, 2, 3, 4, 5, 6, 7, 8, 9, 10, 11, 12, 13, 14, 15, 16, 17, 18], []), ([19, 18, 18, 0, 1, 2, 3, 4, 5, 6, 7, 8, 9, 10, 11, 12, 13, 14, 15, 16, 17, 18], [18, 19])])
def bB.B10 : List Nat := [0, 1, 0, 0, 8, 0, 56, 120, 248, 0, 512, 0, 3584, 7680, 15872, 32764, 65532, 131068, 262143, 524287, 1048575]
theorem bB.tab10 : rtab .any (opsOf Tryz.f37 10) = bB.T10 := by kernel_rfl
theorem bB.bits10 : waitsOk bB.T10.2 bB.B10 = true := by kernel_rfl
def bB.T14 : Bool × List (List Nat × List Nat) := (true, [([], []), ([0], [0]), ([], []), ([], []), ([3], [3]), ([], []), ([4, 5], [4, 5]), ([6], [6]), ([2, 7], [2, 7]), ([8], [8]), ([1, 9, 8], [1, 9]), ([0, 1, 2, 3, 4, 5, 6, 7, 8, 9, 10], []), ([11, 10, 10, 0, 1, 2, 3, 4, 5, 6, 7, 8, 9, 10], [10, 11])])
def bB.B14 : List Nat := [0, 1, 0, 0, 8, 0, 56, 120, 252, 508, 1023, 2047, 4095]
theorem bB.tab14 : rtab .any (opsOf Tryz.f37 14) = bB.T14 := by kernel_rfl
theorem bB.bits14 : waitsOk bB.T14.2 bB.B14 = true := by kernel_rfl
set_option maxHeartbeats 8000000 in
set_option maxRecDepth 100000 in
theorem bB.calls (k : Nat) : ∀ (a0 : ByteArray) (a1_0 : Int) (a1_1 : Int) (a1_2 : Int) (A1_3 : Option Addr) (c1_3 : Nat) (l1_3 : List (S93)) (A1_4 : Option Addr) (c1_4 : Nat) (l1_4 : List (S31)) (r1 : Int) (r2 : ByteArray) (r3 : List ByteArray) (r4 : List (S25)) (w : World) (hr1_3 : Kd.C k93 w A1_3 l1_3.length l1_3) (hc1_3 : l1_3.length ≤ c1_3) (hr1_4 : Kd.C k31 w A1_4 l1_4.length l1_4) (hc1_4 : l1_4.length ≤ c1_4) (h : bB.f k a0 a1_0 a1_1 a1_2 l1_3 l1_4 = some (r1, r2, r3, r4)),
 Calls Tryz.prog 37 #[.string a0, .agg #[.int .i64 a1_0, .int .i64 a1_1, .int .i64 a1_2, .slice A1_3 l1_3.length c1_3, .slice A1_4 l1_4.length c1_4]] w fun e w' => ∃ v2_ v3_ : Value, e = .returned (.agg #[.int .i64 r1, .string r2, v2_, v3_]) ∧ Kd.R Kd.string 9 w' w.heap.size (fun _ => True) v2_ r3 ∧ Kd.R k25 25 w' w.heap.size (fun k_ => some k_ ≠ (v2_ : Value).ownBlock) v3_ r4 ∧ Below w.heap.size w w' := by
 induction k using Nat.strongRecOn with
 | _ k ih =>
 intro a0 a1_0 a1_1 a1_2 A1_3 c1_3 l1_3 A1_4 c1_4 l1_4 r1 r2 r3 r4 w hr1_3 hc1_3 hr1_4 hc1_4 h
 cases k with
 | zero => exact absurd h (by simp [bB.f])
 | succ k =>
 simp only [bB.f] at h
 have hu31 := Tryz.underlying31
 have hu25 := Tryz.underlying25
 have Hd := Aside0.mk hr1_3
 have HC1_3 := Aside0.mk hc1_3
 clear hr1_3 hc1_3
 have Pj := Aside0.mk hr1_4
 have HC1_4 := Aside0.mk hc1_4
 clear hr1_4 hc1_4
 have HB := Aside0.mk (Below.refl w.heap.size w)
 have H : (if a1_0 = 3 then (if 0 ≤ a1_1 then (if a1_1 ≤ a1_2 then (if a1_2 ≤ (a0.size : Int) then (bB.j0 k a0 a1_0 a1_1 a1_2 l1_3 l1_4 a1_0 (a0.extract (a1_1 : Int).toNat (a1_2 : Int).toNat)) else (none)) else (none)) else (none)) else (if a1_0 = 4 then (if 0 ≤ a1_1 then (if a1_1 ≤ a1_2 then (if a1_2 ≤ (a0.size : Int) then ((aX.f k (a0.extract (a1_1 : Int).toNat (a1_2 : Int).toNat)).bind fun wM => (bB.j0 k a0 a1_0 a1_1 a1_2 l1_3 l1_4 a1_0 wM)) else (none)) else (none)) else (none)) else (bB.j0 k a0 a1_0 a1_1 a1_2 l1_3 l1_4 a1_0 (⟨#[]⟩ : ByteArray)))) = some (r1, r2, r3, r4) := h
 clear h
 have qF := Aside0.mk H
 clear H
 go_enter Tryz.func37, Tryz.ntmps37
 go_upto_block 0 with (first | ((with_reducible refine gate_dst (N := 3) rfl ?_); refine box_event ?hg (N := 3) ?hd (cs := #[.int .i64 a1_0, .int .i64 a1_1, .int .i64 a1_2, .slice A1_3 l1_3.length c1_3, .slice A1_4 l1_4.length c1_4]) (t := 31) ?hr ?_; (case hd => rfl); (case hg => rfl); (case hr => exact Z14); intro fT hg w4 hbox hb; have cH := Aside0.mk (hbox); have amP : Aside0 (w.heap.size ≤ fT) := ⟨Z21⟩; have amQ : Aside0 (w.heap.size ≤ fT) := ⟨Z21⟩; replace HB := Aside0.mk (below_step (w := w) zB hb); clear hb hbox hg) | ((with_reducible refine gate_dst (N := 4) rfl ?_); refine box_event ?hg (N := 4) ?hd (cs := #[.int .i64 0, .string (⟨#[]⟩ : ByteArray), .slice none 0 0, .slice none 0 0]) (t := 25) ?hr ?_; (case hd => rfl); (case hg => rfl); (case hr => exact Z14); intro eG hg w5 hbox hb; have gP := Aside0.mk (hbox); have amR : Aside0 (w.heap.size ≤ eG) := ⟨Z21⟩; have amS : Aside0 (w.heap.size ≤ eG) := ⟨Z21⟩; replace HB := Aside0.mk (below_step (w := w) zB hb); have hY : Aside0 (fT ≠ eG) := ⟨by rw [hg]; exact Nat.ne_of_lt (blk_lt (g := fT) zC)⟩; have hZ : Aside0 (eG ≠ fT) := ⟨by rw [hg]; exact Nat.ne_of_gt (blk_lt (g := fT) zC)⟩; replace cH := Aside0.mk (blk_below (g := fT) zC hb); clear hb hbox hg; have arF := hY.out; have arG := hZ.out; obtain ⟨mG, mH, rO, rP, Iy, mI, mJ, rQ, rR, Iz⟩ := cz5 cH.out) | ((with_reducible refine gate_dst (N := 5) rfl ?_); refine box_event ?hg (N := 5) ?hd (cs := #[.int .i64 0, .string (⟨#[]⟩ : ByteArray), .slice none 0 0, .slice none 0 0]) (t := 25) ?hr ?_; (case hd => rfl); (case hg => rfl); (case hr => exact Z14); intro eT hg w8 hbox hb; have cP := Aside0.mk (hbox); have amT : Aside0 (w.heap.size ≤ eT) := ⟨Z21⟩; have amU : Aside0 (w.heap.size ≤ eT) := ⟨Z21⟩; replace HB := Aside0.mk (below_step (w := w) zB hb); have fQ : Aside0 (fT ≠ eT) := ⟨by rw [hg]; exact Nat.ne_of_lt (blk_lt (g := fT) zC)⟩; have fR : Aside0 (eT ≠ fT) := ⟨by rw [hg]; exact Nat.ne_of_gt (blk_lt (g := fT) zC)⟩; replace cH := Aside0.mk (blk_below (g := fT) zC hb); have jA : Aside0 (eG ≠ eT) := ⟨by rw [hg]; exact Nat.ne_of_lt (blk_lt (g := eG) zC)⟩; have jB : Aside0 (eT ≠ eG) := ⟨by rw [hg]; exact Nat.ne_of_gt (blk_lt (g := eG) zC)⟩; replace gP := Aside0.mk (blk_below (g := eG) zC hb); clear hb hbox hg; have agM := fR.out; have agN := fQ.out; have amV := jB.out; have amW := jA.out; obtain ⟨uP, uQ, Fb, Fc, uR, uS, Fd, Fe⟩ := cz4 cP.out; obtain ⟨kR, kS, nL, nM, vD, kT, kU, nN, nO, vE⟩ := cz5 cH.out))
 (try simp only [Act.put, List.setIfInBounds_toArray, List.set_cons_zero, List.set_cons_succ])
 go_cut [] (fun wc => ∃ (kq : Nat) (dW : ByteArray), Aside0 (bB.j0 kq a0 a1_0 a1_1 a1_2 l1_3 l1_4 a1_0 dW = some (r1, r2, r3, r4)) ∧ Aside0 (kq ≤ k) ∧ Aside0 (wc.heap[fT]? = some (.cells #[.int .i64 a1_0, .int .i64 a1_1, .int .i64 a1_2, (.slice A1_3 l1_3.length c1_3), (.slice A1_4 l1_4.length c1_4)] 31 (0, 0))) ∧ Aside0 (wc.heap[eG]? = some (.cells #[.int .i64 0, .string (⟨#[]⟩ : ByteArray), (.slice none 0 0), (.slice none 0 0)] 25 (0, 0))) ∧ Aside0 (wc.heap[eT]? = some (.cells #[.int .i64 a1_0, .string dW, (.slice none 0 0), (.slice none 0 0)] 25 (0, 0))) ∧ Aside0 (Below w.heap.size w wc))
 case first =>
  have H := qF.out
  clear qF
  revert H; refine sIe1n0_e0n1 (fun nT xL H => ?_) fun nT xL H => ?_
  ·(first | rw [nT] | (simp only [i64_w, i32_w]; rw [nT]) | skip)
   revert H; refine sNt1d1 fun gR lJ H => ?_
   revert H; refine sNt1d1 fun nQ La H => ?_
   revert H; refine sNt1d1 fun kB xM H => ?_
   as_aux_lemma =>
    have H' := Aside0.mk H
    clear H
    have amX := hY.out
    have amY := hZ.out
    have Pk := fQ.out
    have Pl := fR.out
    obtain ⟨sY, sZ, tA, tB, tC, tD, tE, tF, tG, tH⟩ := cz5 cH.out
    have Gk := jB.out
    have Gl := jA.out
    obtain ⟨nF, nG, pF, pG, nH, nI, pH, pI⟩ := cz4 cP.out
    go_wp2
    go_meet
    case rel => exact ⟨_, (a0.extract (a1_1 : Int).toNat (a1_2 : Int).toNat), H', ⟨Z30⟩, ⟨zC⟩, ⟨zC⟩, ⟨zC⟩, ⟨zB⟩⟩
  (first | rw [nT] | (simp only [i64_w, i32_w]; rw [nT]) | skip)
  revert H; refine sIe1n0_e0n1 (fun mS Gq H => ?_) fun mS Gq H => ?_
  ·revert H; refine sNt1d1 fun qN Ld H => ?_
   revert H; refine sNt1d1 fun xF Le H => ?_
   revert H; refine sNt1d1 fun lH tS H => ?_
   revert H; refine bnd ?_; rintro wM Kn H
   as_aux_lemma =>
    have H' := Aside0.mk H
    clear H
    have amZ := hY.out
    have anA := hZ.out
    have anB := fQ.out
    have anC := fR.out
    obtain ⟨Vr, Vs, Vt, Vu, Vv, Vw, Vx, Vy, Vz, Wa⟩ := cz5 cH.out
    go_wp2_with (first | (refine gl 26 (some 30) Tryz.func26 #[.string (a0.extract (a1_1 : Int).toNat (a1_2 : Int).toNat)] ?_; (with_reducible refine (aX.calls k (a0.extract (a1_1 : Int).toNat (a1_2 : Int).toNat) wM _ Kn.out).mono ?_); rintro e w30 ⟨rfl, hb⟩; refine ⟨_, rfl, ?_⟩; replace cH := Aside0.mk (blk_below (g := fT) zC hb); replace gP := Aside0.mk (blk_below (g := eG) zC hb); replace cP := Aside0.mk (blk_below (g := eT) (o := .cells #[.int .i64 a1_0, .string (⟨#[]⟩ : ByteArray), .slice none 0 0, .slice none 0 0] 25 (0, 0)) zC hb); replace HB := Aside0.mk (below_step (w := w) zB hb); clear hb; have Kv := jB.out; have Kw := jA.out; obtain ⟨tK, tL, tM, tN, tO, tP, tQ, tR⟩ := cz4 cP.out))
    go_meet
    case rel => exact ⟨_, (wM), H', ⟨Z30⟩, ⟨zC⟩, ⟨zC⟩, ⟨zC⟩, ⟨zB⟩⟩
  as_aux_lemma =>
   have H' := Aside0.mk H
   clear H
   go_wp2
   go_meet
   case rel => exact ⟨_, ((⟨#[]⟩ : ByteArray)), H', ⟨Z30⟩, ⟨zC⟩, ⟨zC⟩, ⟨zC⟩, ⟨zB⟩⟩
 case rest =>
  clear qF
  try clear uP uQ Fb Fc kR kS nL nM vD mG mH rO rP Iy uR uS Fd Fe kT kU nN nO vE mI mJ rQ rR Iz
  obtain ⟨kq, dW, HA, HJ2, cH, gP, cP, HB⟩ := hcut
  cases kq with
  | zero => exact absurd HA.out (by simp [bB.j0])
  | succ kj2 =>
   have H := HA.out
   clear HA
   simp only [bB.j0] at H
   have H' := Aside0.mk H
   clear H
   go_wp2
   (try simp only [Act.put, List.setIfInBounds_toArray, List.set_cons_zero, List.set_cons_succ])
   go_loopg [6] kj2 (fun kq v6 w' => ∃ (gL : Int) (eU : List ByteArray) (u336002 : Value), v6 = .int .i64 gL ∧ Aside0 (bB.l0 kq a0 gL a1_0 a1_1 a1_2 l1_3 l1_4 a1_0 dW eU = some (r1, r2, r3, r4)) ∧ Aside0 (kq ≤ kj2) ∧ Aside0 (Kd.R Kd.string 9 w' w.heap.size (fun _ => True) u336002 eU) ∧ Aside0 (w'.heap[fT]? = some (.cells #[.int .i64 a1_0, .int .i64 a1_1, .int .i64 a1_2, (.slice A1_3 l1_3.length c1_3), (.slice A1_4 l1_4.length c1_4)] 31 (0, 0))) ∧ Aside0 (w'.heap[eG]? = some (.cells #[.int .i64 0, .string (⟨#[]⟩ : ByteArray), (.slice none 0 0), (.slice none 0 0)] 25 (0, 0))) ∧ Aside0 (w'.heap[eT]? = some (.cells #[.int .i64 a1_0, .string dW, u336002, (.slice none 0 0)] 25 (0, 0))) ∧ Aside0 (Below w.heap.size w w'))
   case atStart => exact ⟨(0), (([] : List ByteArray)), (.slice none 0 0), Z9, H', ⟨Nat.le_refl _⟩, ⟨Z12⟩, ⟨zC⟩, ⟨zC⟩, ⟨zC⟩, ⟨zB⟩⟩
   case round =>
    clear H'
    obtain ⟨gL, eU, u336002, rfl, HA, HK2, dA, cH, gP, cP, HB⟩ := hrel
    cases gk with
    | zero => exact absurd HA.out (by simp [bB.l0])
    | succ k2 =>
     have H := HA.out
     clear HA
     simp only [bB.l0] at H
     revert H; refine sId1_d0 (fun qP H => ?_) fun qP H => ?_
     ·revert H; refine sNd1 fun Gp H => ?_
      revert H; refine sNt1d1 fun xJ xK H => ?_
      revert H; refine sNt1d1 fun oY oZ H => ?_
      revert H; refine sNt1d1 fun anD anE H => ?_
      revert H; refine bnd ?_; rintro wL A38 H
      revert H; refine sNk fun c39 H => ?_
      have Pm := Aside0.mk c39
      clear c39
      obtain ⟨Ff, hy340⟩ : ∃ y_ : List ByteArray, y_ = (eU ++ [wL]) := ⟨_, rfl⟩
      replace H : (bB.l0 k2 a0 (wrap64 (gL + 1)) a1_0 a1_1 a1_2 l1_3 l1_4 a1_0 dW Ff) = some (r1, r2, r3, r4) := by first | (rw [hy340]; with_reducible exact H) | (have H2_ := (Option.bind_some _ _).symm.trans H; rw [hy340]; with_reducible exact H2_) | (have H2_ := (Option.bind_some _ _).symm.trans H; with_reducible exact H2_) | with_reducible exact H | (rw [hy340]; exact H) | exact H
      have Pn := Aside0.mk hy340
      clear hy340
      as_aux_lemma =>
       have H' := Aside0.mk H
       clear H
       have anF := hY.out
       have anG := hZ.out
       have anH := fQ.out
       have anI := fR.out
       obtain ⟨Wb, Wc, Wd, We, Wf, Wg, Wh, Wi, Wj, Wk⟩ := cz5 cH.out
       try go_wp2
       replace dA := Aside0.mk (Kd.R_drew dA.out)
       replace cH := Aside0.mk (blk_drew cH.out)
       replace gP := Aside0.mk (blk_drew gP.out)
       replace cP := Aside0.mk (blk_drew cP.out)
       replace HB := Aside0.mk (below_drew1 HB.out)
       have p337 : 0 ≤ (gL : Int) := of_decide_eq_true Z8
       have q337 : gL < (l1_3.length : Int) := of_decide_eq_true Z8
       obtain ⟨mW, e337, hx337_0, hx337_1⟩ := at_T93 Hd.out gL p337 q337
       have iC := hx337_1
       have iD := hx337_0
       cases e337
       replace hx337_0 := (HB.out.cell (World.block_lt_of_cell? w _ hx337_0)).trans hx337_0
       replace hx337_1 := (HB.out.cell (World.block_lt_of_cell? w _ hx337_1)).trans hx337_1
       replace p337 := eq_true p337
       replace q337 := eq_true q337
       have p338 : 0 ≤ (gL : Int) := of_decide_eq_true Z8
       have q338 : gL < (l1_3.length : Int) := of_decide_eq_true Z8
       obtain ⟨Po, e338, hx338_0, hx338_1⟩ := at_T93 Hd.out gL p338 q338
       have iE := hx338_1
       have iG := hx338_0
       obtain rfl : mW = Po := (by injection e338)
       replace hx338_0 := (HB.out.cell (World.block_lt_of_cell? w _ hx338_0)).trans hx338_0
       replace hx338_1 := (HB.out.cell (World.block_lt_of_cell? w _ hx338_1)).trans hx338_1
       replace p338 := eq_true p338
       replace q338 := eq_true q338
       refine st1 21 [20] (S := fun w' => G4 w' eT (.int .i64 a1_0) (.string dW) (u336002) (.slice none 0 0) (G5 w' fT (.int .i64 a1_0) (.int .i64 a1_1) (.int .i64 a1_2) (.slice (some mW) l1_3.length c1_3) (.slice A1_4 l1_4.length c1_4) (w'.cell? (mW.add ((gL).toNat * 2)) = some (.int .i64 ((rd_T93 l1_3 gL).f0)) ∧ w'.cell? ⟨(mW.add ((gL).toNat * 2)).block, (mW.add ((gL).toNat * 2)).off + 1, none⟩ = some (.int .i64 ((rd_T93 l1_3 gL).f1)) ∧ w'.cell? (mW.add ((gL).toNat * 2)) = some (.int .i64 ((rd_T93 l1_3 gL).f0)) ∧ w'.cell? ⟨(mW.add ((gL).toNat * 2)).block, (mW.add ((gL).toNat * 2)).off + 1, none⟩ = some (.int .i64 ((rd_T93 l1_3 gL).f1))))) (hS := ⟨(blk_cell cP.out 0).trans rfl, (blk_cell cP.out 1).trans rfl, (blk_cell cP.out 2).trans rfl, (blk_cell cP.out 3).trans rfl, (blk_cell cH.out 0).trans rfl, (blk_cell cH.out 1).trans rfl, (blk_cell cH.out 2).trans rfl, (blk_cell cH.out 3).trans rfl, (blk_cell cH.out 4).trans rfl, ((HB.out.cell (World.block_lt_of_cell? w _ iD)).trans iD), ((HB.out.cell (World.block_lt_of_cell? w _ iC)).trans iC), ((HB.out.cell (World.block_lt_of_cell? w _ iG)).trans iG), ((HB.out.cell (World.block_lt_of_cell? w _ iE)).trans iE)⟩) (fun hHeld => ?_); refine with_tabW bB.tab10 bB.bits10 (fun HT_ HW_ => ?_)
       generalize wr.drew = w43 at dA cH gP cP HB hx337_0 hx337_1 hx338_0 hx338_1 hHeld ⊢
       refine pz 0 39 ?_
       refine pz 2 41 ?_
       refine pz 3 42 ?_
       refine pz 5 44 ?_
       refine pz 9 48 ?_
       refine pz 11 50 ?_
       refine tk13 1 40 ?_
       refine tk13 4 43 ?_
       refine pz 6 45 ?_
       refine pz 7 46 ?_
       refine tk13 8 47 ?_
       refine tk13 10 49 ?_
       refine pz 12 51 ?_
       refine pz 13 52 ?_
       refine tk13 14 53 ?_
       refine pz 15 54 ?_
       refine on1 16 (some 55) fun K hK => ?_
       refine goes_ Tryz.func26 (by kernel_rfl) rfl #[.string (a0.extract (((rd_T93 l1_3 gL).f0) : Int).toNat (((rd_T93 l1_3 gL).f1) : Int).toNat)] (by rfl) rfl rfl Z28 ?_
       with_reducible refine (aX.calls k2 (a0.extract (((rd_T93 l1_3 gL).f0) : Int).toNat (((rd_T93 l1_3 gL).f1) : Int).toNat) wL _ A38.out).mono ?_
       rintro e w44 ⟨rfl, hb⟩
       refine ⟨_, rfl, ?_⟩
       replace dA := Aside0.mk (Kd.R_below Z33 hb)
       replace cH := Aside0.mk (blk_below (g := fT) zC hb)
       replace gP := Aside0.mk (blk_below (g := eG) zC hb)
       replace cP := Aside0.mk (blk_below (g := eT) zC hb)
       replace HB := Aside0.mk (below_step (w := w) zB hb)
       try clear hb
       refine hK.out _ _ ⟨(blk_cell cP.out 0).trans rfl, (blk_cell cP.out 1).trans rfl, (blk_cell cP.out 2).trans rfl, (blk_cell cP.out 3).trans rfl, (blk_cell cH.out 0).trans rfl, (blk_cell cH.out 1).trans rfl, (blk_cell cH.out 2).trans rfl, (blk_cell cH.out 3).trans rfl, (blk_cell cH.out 4).trans rfl, ((HB.out.cell (World.block_lt_of_cell? w _ iD)).trans iD), ((HB.out.cell (World.block_lt_of_cell? w _ iC)).trans iC), ((HB.out.cell (World.block_lt_of_cell? w _ iG)).trans iG), ((HB.out.cell (World.block_lt_of_cell? w _ iE)).trans iE)⟩ (fun hHeld => ?_)
       clear hK K
       refine nz (N := some 55) ?_
       refine on1 17 (some 56) fun K hK => ?_
       refine value_ (w1 := ?_) (v := ?_) (by rfl) rfl ?_ ?_
       rotate_left 2
       ·go_simp
        constructor
        ·rfl
        ·rfl
       refine hK.out _ _ ⟨(blk_cell (blk_alloc cP.out _) 0).trans rfl, (blk_cell (blk_alloc cP.out _) 1).trans rfl, (blk_cell (blk_alloc cP.out _) 2).trans rfl, (blk_cell (blk_alloc cP.out _) 3).trans rfl, (blk_cell (blk_alloc cH.out _) 0).trans rfl, (blk_cell (blk_alloc cH.out _) 1).trans rfl, (blk_cell (blk_alloc cH.out _) 2).trans rfl, (blk_cell (blk_alloc cH.out _) 3).trans rfl, (blk_cell (blk_alloc cH.out _) 4).trans rfl, (World.cell?_alloc_lt _ _ _ (World.block_lt_of_cell? _ _ (((HB.out.cell (World.block_lt_of_cell? w _ iD)).trans iD)))).trans (((HB.out.cell (World.block_lt_of_cell? w _ iD)).trans iD)), (World.cell?_alloc_lt _ _ _ (World.block_lt_of_cell? _ _ (((HB.out.cell (World.block_lt_of_cell? w _ iC)).trans iC)))).trans (((HB.out.cell (World.block_lt_of_cell? w _ iC)).trans iC)), (World.cell?_alloc_lt _ _ _ (World.block_lt_of_cell? _ _ (((HB.out.cell (World.block_lt_of_cell? w _ iG)).trans iG)))).trans (((HB.out.cell (World.block_lt_of_cell? w _ iG)).trans iG)), (World.cell?_alloc_lt _ _ _ (World.block_lt_of_cell? _ _ (((HB.out.cell (World.block_lt_of_cell? w _ iE)).trans iE)))).trans (((HB.out.cell (World.block_lt_of_cell? w _ iE)).trans iE))⟩ (fun hHeld => ?_)
       clear hK K
       refine nz (N := some 56) ?_
       refine on1 18 (some 57) fun K hK => ?_
       refine Kd.R_append_step Kd.string (w0 := w) w.heap.size (by rfl) (.tmp 40) (.tmp 56) 22 9 (.string ⟨#[]⟩) 16 rfl Tryz.underlying22 info9 rfl (by decide) (by omega) u336002 eU wL [.string wL] (fun _ => True) (fun _ => False) rfl rfl ?aP (fun _ hk => hk.elim) ?aF ?aO ?aB ?aS ?aL ?_
       (case aP => exact rfl)
       (case aB => exact zB)
       (case aF => exact (fun _ _ => trivial))
       (case aO => exact Z33)
       (case aS => exact (below_size zB))
       (case aL => have := Pm.out; omega)
       intro v341 w45 ho hb hg hat
       rw [← Pn.out] at ho
       replace cH := Aside0.mk (blk_grown (g := fT) zC hg (Kd.R_ne dA.out cH.out (by decide)))
       replace gP := Aside0.mk (blk_grown (g := eG) zC hg (Kd.R_ne dA.out gP.out (by decide)))
       replace cP := Aside0.mk (blk_grown (g := eT) zC hg (Kd.R_ne dA.out cP.out (by decide)))
       replace HB := Aside0.mk (hb)
       have He := Aside0.mk (ho)
       clear dA
       clear ho hb hg hat
       obtain ⟨Pp, co46, eo46⟩ := Kd.R_slice He.out
       (first | subst eo46 | (injection eo46 with f1_ f2_ f3_; have f4_ := f1_.symm; have f5_ := f3_.symm; clear f1_ f2_ f3_; subst f4_; subst f5_))
       refine hK.out _ _ ⟨(blk_cell cP.out 0).trans rfl, (blk_cell cP.out 1).trans rfl, (blk_cell cP.out 2).trans rfl, (blk_cell cP.out 3).trans rfl, (blk_cell cH.out 0).trans rfl, (blk_cell cH.out 1).trans rfl, (blk_cell cH.out 2).trans rfl, (blk_cell cH.out 3).trans rfl, (blk_cell cH.out 4).trans rfl, ((HB.out.cell (World.block_lt_of_cell? w _ iD)).trans iD), ((HB.out.cell (World.block_lt_of_cell? w _ iC)).trans iC), ((HB.out.cell (World.block_lt_of_cell? w _ iG)).trans iG), ((HB.out.cell (World.block_lt_of_cell? w _ iE)).trans iE)⟩ (fun hHeld => ?_)
       clear hK K
       refine nz (N := some 57) ?_
       refine pz 19 58 ?_
       refine last_ (i := 20) (N := none) #[true, true, true, true, true, true, true, true, true, true, true, true, true, true, true, true, true, true, true, true, true] rfl rfl (one_of HT_.out (by kernel_rfl)) (by decide) (fun K hK => ?_)
       have aeJ : w45.cell? ⟨eT, 2, none⟩ = some (u336002) := (blk_cell cP.out 2).trans rfl
       have Lg := blk_frozen cP.out 2
       have hns47_0 := fQ.out
       have hns47_1 := jA.out
       have hms47_0 := fR.out
       have hms47_1 := jB.out
       refine sk1 ?_
       refine hK.out _ _ ?_
       clear hK K
       refine dn1 ?_
       try go_wp2
       go_roundg k2
       case measure => have := HJ2.out; have := HK2.out; omega
       case rel => exact ⟨(wrap64 (gL + 1)), (Ff), (.slice Pp Ff.length co46), Z9, H', ⟨by have := HJ2.out; have := HK2.out; omega⟩, ⟨by (with_reducible repeat (first | apply Kd.R_alloc | apply Kd.R_drewN | apply Kd.R_drew)); exact Kd.R_mono (Kd.R_far (p := ⟨eT, 2, none⟩) (Kd.R_types He.out cP.out (by decide)) (fun _ hk => hk.2) (.slice Pp Ff.length co46)) (fun _ hk => trivial)⟩, ⟨zC⟩, ⟨zC⟩, ⟨zC⟩, ⟨zB⟩⟩
     have H' := Aside0.mk H
     clear H
     have anJ := hY.out
     have anK := hZ.out
     have Pq := fQ.out
     have Pr := fR.out
     obtain ⟨pZ, qA, vF, vG, vH, qB, qC, vI, vJ, vK⟩ := cz5 cH.out
     go_wp2
     (try simp only [Act.put, List.setIfInBounds_toArray, List.set_cons_zero, List.set_cons_succ])
     go_loopg [7] k2 (fun kq v7 w' => ∃ (fY : Int) (gJ : List (S25)) (u336003 : Value), v7 = .int .i64 fY ∧ Aside0 (bB.l1 kq a0 fY a1_0 a1_1 a1_2 l1_3 l1_4 a1_0 dW eU gJ = some (r1, r2, r3, r4)) ∧ Aside0 (kq ≤ k2) ∧ Aside0 (Kd.R Kd.string 9 w' w.heap.size (fun _ => True) u336002 eU) ∧ Aside0 (Kd.R k25 25 w' w.heap.size (fun k_ => some k_ ≠ (u336002 : Value).ownBlock ∧ k_ ≠ eG ∧ k_ ≠ eT) u336003 gJ) ∧ Aside0 (w'.heap[fT]? = some (.cells #[.int .i64 a1_0, .int .i64 a1_1, .int .i64 a1_2, (.slice A1_3 l1_3.length c1_3), (.slice A1_4 l1_4.length c1_4)] 31 (0, 0))) ∧ Aside0 (w'.heap[eG]? = some (.cells #[.int .i64 0, .string (⟨#[]⟩ : ByteArray), (.slice none 0 0), (.slice none 0 0)] 25 (0, 0))) ∧ Aside0 (w'.heap[eT]? = some (.cells #[.int .i64 a1_0, .string dW, u336002, u336003] 25 (0, 0))) ∧ Aside0 (Below w.heap.size w w'))
     case atStart => exact ⟨(0), (([] : List (S25))), (.slice none 0 0), Z9, H', ⟨Nat.le_refl _⟩, ⟨by (with_reducible repeat (first | apply Kd.R_alloc | apply Kd.R_drewN | apply Kd.R_drew)); first | exact dA.out | exact Kd.V_len dA.out⟩, ⟨Z12⟩, ⟨zC⟩, ⟨zC⟩, ⟨zC⟩, ⟨zB⟩⟩
     case round =>
      clear H'
      try clear qP pZ qA vF vG vH qB qC vI vJ vK
      obtain ⟨fY, gJ, u336003, rfl, HA, HK3, dA, eJ, cH, gP, cP, HB⟩ := hrel
      cases gk with
      | zero => exact absurd HA.out (by simp [bB.l1])
      | succ k3 =>
       have H := HA.out
       clear HA
       simp only [bB.l1] at H
       revert H; refine sId1_d0 (fun Gr H => ?_) fun Gr H => ?_
       ·revert H; refine sNd1 fun anL H => ?_
        revert H; refine bnd ?_; rintro ⟨zG, zH, zJ, zN⟩ A53 H; try dsimp only at H
        revert H; refine sNk fun c54 H => ?_
        have Ps := Aside0.mk c54
        clear c54
        obtain ⟨zO, hy352⟩ : ∃ y_ : List (S25), y_ = (gJ ++ [(⟨zG, zH, zJ, zN⟩ : S25)]) := ⟨_, rfl⟩
        replace H : (bB.l1 k3 a0 (wrap64 (fY + 1)) a1_0 a1_1 a1_2 l1_3 l1_4 a1_0 dW eU zO) = some (r1, r2, r3, r4) := by first | (rw [hy352]; with_reducible exact H) | (have H2_ := (Option.bind_some _ _).symm.trans H; rw [hy352]; with_reducible exact H2_) | (have H2_ := (Option.bind_some _ _).symm.trans H; with_reducible exact H2_) | with_reducible exact H | (rw [hy352]; exact H) | exact H
        have Pt := Aside0.mk hy352
        clear hy352
        as_aux_lemma =>
         have H' := Aside0.mk H
         clear H
         have Oj := hY.out
         have Ok := hZ.out
         have Ol := fQ.out
         have Om := fR.out
         obtain ⟨uT, uU, uV, uW, uX, uY, uZ, vA, vB, vC⟩ := cz5 cH.out
         try go_wp2
         replace dA := Aside0.mk (Kd.R_drew dA.out)
         replace eJ := Aside0.mk (Kd.R_drew eJ.out)
         replace cH := Aside0.mk (blk_drew cH.out)
         replace gP := Aside0.mk (blk_drew gP.out)
         replace cP := Aside0.mk (blk_drew cP.out)
         replace HB := Aside0.mk (below_drew1 HB.out)
         have p343 : 0 ≤ (fY : Int) := of_decide_eq_true Z8
         have q343 : fY < (l1_4.length : Int) := of_decide_eq_true Z8
         obtain ⟨lK, A343_3, c343_3, A343_4, c343_4, e343, hx343_0, hx343_1, hx343_2, hx343_3, hx343_4, hl343_3, hi343_3, hl343_4, hi343_4⟩ := at_T31 Pj.out fY p343 q343
         have iH := hx343_4
         have iI := hx343_3
         have iJ := hx343_2
         have iK := hx343_1
         have iL := hx343_0
         cases e343
         replace hx343_0 := (HB.out.cell (World.block_lt_of_cell? w _ hx343_0)).trans hx343_0
         replace hx343_1 := (HB.out.cell (World.block_lt_of_cell? w _ hx343_1)).trans hx343_1
         replace hx343_2 := (HB.out.cell (World.block_lt_of_cell? w _ hx343_2)).trans hx343_2
         replace hx343_3 := (HB.out.cell (World.block_lt_of_cell? w _ hx343_3)).trans hx343_3
         replace hx343_4 := (HB.out.cell (World.block_lt_of_cell? w _ hx343_4)).trans hx343_4
         have vL := Aside0.mk hi343_3
         have HC343_3 := Aside0.mk hl343_3
         clear hi343_3 hl343_3
         have vM := Aside0.mk hi343_4
         have HC343_4 := Aside0.mk hl343_4
         clear hi343_4 hl343_4
         replace p343 := eq_true p343
         replace q343 := eq_true q343
         refine st1 13 [12] (S := fun w' => G4 w' eT (.int .i64 a1_0) (.string dW) (u336002) (u336003) (G5 w' fT (.int .i64 a1_0) (.int .i64 a1_1) (.int .i64 a1_2) (.slice A1_3 l1_3.length c1_3) (.slice (some lK) l1_4.length c1_4) (w'.cell? (lK.add ((fY).toNat * 5)) = some (.int .i64 ((rd_T31 l1_4 fY).f0)) ∧ w'.cell? ⟨(lK.add ((fY).toNat * 5)).block, (lK.add ((fY).toNat * 5)).off + 1, none⟩ = some (.int .i64 ((rd_T31 l1_4 fY).f1)) ∧ w'.cell? ⟨(lK.add ((fY).toNat * 5)).block, (lK.add ((fY).toNat * 5)).off + 2, none⟩ = some (.int .i64 ((rd_T31 l1_4 fY).f2)) ∧ w'.cell? ⟨(lK.add ((fY).toNat * 5)).block, (lK.add ((fY).toNat * 5)).off + 3, none⟩ = some (.slice A343_3 ((rd_T31 l1_4 fY).f3).length c343_3) ∧ w'.cell? ⟨(lK.add ((fY).toNat * 5)).block, (lK.add ((fY).toNat * 5)).off + 4, none⟩ = some (.slice A343_4 ((rd_T31 l1_4 fY).f4).length c343_4)))) (hS := ⟨(blk_cell cP.out 0).trans rfl, (blk_cell cP.out 1).trans rfl, (blk_cell cP.out 2).trans rfl, (blk_cell cP.out 3).trans rfl, (blk_cell cH.out 0).trans rfl, (blk_cell cH.out 1).trans rfl, (blk_cell cH.out 2).trans rfl, (blk_cell cH.out 3).trans rfl, (blk_cell cH.out 4).trans rfl, ((HB.out.cell (World.block_lt_of_cell? w _ iL)).trans iL), ((HB.out.cell (World.block_lt_of_cell? w _ iK)).trans iK), ((HB.out.cell (World.block_lt_of_cell? w _ iJ)).trans iJ), ((HB.out.cell (World.block_lt_of_cell? w _ iI)).trans iI), ((HB.out.cell (World.block_lt_of_cell? w _ iH)).trans iH)⟩) (fun hHeld => ?_); refine with_tabW bB.tab14 bB.bits14 (fun HT_ HW_ => ?_)
         generalize wr.drew = w58 at dA eJ cH gP cP HB vL vM hx343_0 hx343_1 hx343_2 hx343_3 hx343_4 hHeld ⊢
         refine pz 0 66 ?_
         refine pz 2 68 ?_
         refine pz 3 69 ?_
         refine pz 5 71 ?_
         refine tk14 1 67 ?_
         refine tk14 4 70 ?_
         refine pz 6 72 ?_
         refine tk14 7 73 ?_
         refine on1 8 (some 74) fun K hK => ?_
         refine goes_ Tryz.func37 (by kernel_rfl) rfl #[.string a0, .agg #[.int .i64 ((rd_T31 l1_4 fY).f0), .int .i64 ((rd_T31 l1_4 fY).f1), .int .i64 ((rd_T31 l1_4 fY).f2), .slice A343_3 ((rd_T31 l1_4 fY).f3).length c343_3, .slice A343_4 ((rd_T31 l1_4 fY).f4).length c343_4]] (by rfl) rfl rfl Z28 ?_
         with_reducible refine (ih k3 (by have := HJ2.out; have := HK2.out; have := HK3.out; omega) a0 ((rd_T31 l1_4 fY).f0) ((rd_T31 l1_4 fY).f1) ((rd_T31 l1_4 fY).f2) _ _ ((rd_T31 l1_4 fY).f3) _ _ ((rd_T31 l1_4 fY).f4) zG zH zJ zN _ ?side1 ?side2 ?side3 ?side4 A53.out).mono ?_
         (case side1 => repeat (first | exact (Kd.C_below vL.out HB.out) | (with_reducible refine Kd.C_alloc ?_ _) | (with_reducible refine Kd.C_drewN ?_ _) | (with_reducible refine Kd.C_drew ?_)))
         (case side2 => exact HC343_3.out)
         (case side3 => repeat (first | exact (Kd.C_below vM.out HB.out) | (with_reducible refine Kd.C_alloc ?_ _) | (with_reducible refine Kd.C_drewN ?_ _) | (with_reducible refine Kd.C_drew ?_)))
         (case side4 => exact HC343_4.out)
         rintro e w59 ⟨v347, v350, rfl, ho0, ho1, hb⟩
         refine ⟨_, rfl, ?_⟩
         have zQ := Aside0.mk (Kd.R_lower (Kd.R_new' ho0 (Kd.R_lt Z33)) (below_size zB))
         have zR := Aside0.mk (Kd.R_lower (Kd.R_newB (Kd.R_newB (Kd.R_new' (Kd.R_new' ho1 (Kd.R_lt Z33)) (Kd.R_lt Z69)) (g := eG) zC) (g := eT) zC) (below_size zB))
         replace dA := Aside0.mk (Kd.R_elder' Z33 (Kd.R_base ho0) hb)
         replace eJ := Aside0.mk (Kd.R_mono (Kd.R_told (Kd.R_told (Kd.R_old Z69 hb) (Kd.R_base ho0)) (Kd.R_base ho1)) (fun _ h_ => h_.1))
         replace cH := Aside0.mk (blk_below (g := fT) zC hb)
         replace gP := Aside0.mk (blk_below (g := eG) zC hb)
         replace cP := Aside0.mk (blk_below (g := eT) zC hb)
         replace HB := Aside0.mk (below_step (w := w) zB hb)
         try clear hb ho0 ho1
         obtain ⟨agO, co61, eo61⟩ := Kd.R_slice zQ.out
         (first | subst eo61 | (injection eo61 with f1_ f2_ f3_; have f4_ := f1_.symm; have f5_ := f3_.symm; clear f1_ f2_ f3_; subst f4_; subst f5_))
         obtain ⟨agP, co62, eo62⟩ := Kd.R_slice zR.out
         (first | subst eo62 | (injection eo62 with f1_ f2_ f3_; have f4_ := f1_.symm; have f5_ := f3_.symm; clear f1_ f2_ f3_; subst f4_; subst f5_))
         refine hK.out _ _ ⟨(blk_cell cP.out 0).trans rfl, (blk_cell cP.out 1).trans rfl, (blk_cell cP.out 2).trans rfl, (blk_cell cP.out 3).trans rfl, (blk_cell cH.out 0).trans rfl, (blk_cell cH.out 1).trans rfl, (blk_cell cH.out 2).trans rfl, (blk_cell cH.out 3).trans rfl, (blk_cell cH.out 4).trans rfl, ((HB.out.cell (World.block_lt_of_cell? w _ iL)).trans iL), ((HB.out.cell (World.block_lt_of_cell? w _ iK)).trans iK), ((HB.out.cell (World.block_lt_of_cell? w _ iJ)).trans iJ), ((HB.out.cell (World.block_lt_of_cell? w _ iI)).trans iI), ((HB.out.cell (World.block_lt_of_cell? w _ iH)).trans iH)⟩ (fun hHeld => ?_)
         clear hK K
         refine nz (N := some 74) ?_
         refine on1 9 (some 75) fun K hK => ?_
         refine value_ (w1 := ?_) (v := ?_) (by rfl) rfl ?_ ?_
         rotate_left 2
         ·go_simp
          constructor
          ·rfl
          ·rfl
         refine hK.out _ _ ⟨(blk_cell (blk_alloc cP.out _) 0).trans rfl, (blk_cell (blk_alloc cP.out _) 1).trans rfl, (blk_cell (blk_alloc cP.out _) 2).trans rfl, (blk_cell (blk_alloc cP.out _) 3).trans rfl, (blk_cell (blk_alloc cH.out _) 0).trans rfl, (blk_cell (blk_alloc cH.out _) 1).trans rfl, (blk_cell (blk_alloc cH.out _) 2).trans rfl, (blk_cell (blk_alloc cH.out _) 3).trans rfl, (blk_cell (blk_alloc cH.out _) 4).trans rfl, (World.cell?_alloc_lt _ _ _ (World.block_lt_of_cell? _ _ (((HB.out.cell (World.block_lt_of_cell? w _ iL)).trans iL)))).trans (((HB.out.cell (World.block_lt_of_cell? w _ iL)).trans iL)), (World.cell?_alloc_lt _ _ _ (World.block_lt_of_cell? _ _ (((HB.out.cell (World.block_lt_of_cell? w _ iK)).trans iK)))).trans (((HB.out.cell (World.block_lt_of_cell? w _ iK)).trans iK)), (World.cell?_alloc_lt _ _ _ (World.block_lt_of_cell? _ _ (((HB.out.cell (World.block_lt_of_cell? w _ iJ)).trans iJ)))).trans (((HB.out.cell (World.block_lt_of_cell? w _ iJ)).trans iJ)), (World.cell?_alloc_lt _ _ _ (World.block_lt_of_cell? _ _ (((HB.out.cell (World.block_lt_of_cell? w _ iI)).trans iI)))).trans (((HB.out.cell (World.block_lt_of_cell? w _ iI)).trans iI)), (World.cell?_alloc_lt _ _ _ (World.block_lt_of_cell? _ _ (((HB.out.cell (World.block_lt_of_cell? w _ iH)).trans iH)))).trans (((HB.out.cell (World.block_lt_of_cell? w _ iH)).trans iH))⟩ (fun hHeld => ?_)
         clear hK K
         refine nz (N := some 75) ?_
         refine on1 10 (some 76) fun K hK => ?_
         refine Kd.R_append_step k25 (w0 := w) w.heap.size (by rfl) (.tmp 67) (.tmp 75) 23 25 (.agg #[(.int .i64 0), (.string ⟨#[]⟩), (.slice none 0 0), (.slice none 0 0)]) 72 rfl Tryz.underlying23 info25 rfl (by decide) (by omega) u336003 gJ (⟨zG, zH, zJ, zN⟩ : S25) [.int .i64 zG, .string zH, .slice agO zJ.length co61, .slice agP zN.length co62] (fun k_ => some k_ ≠ (u336002 : Value).ownBlock ∧ k_ ≠ eG ∧ k_ ≠ eT) (fun k_ => ((fun k_ => some k_ ≠ (u336002 : Value).ownBlock ∧ k_ ≠ eG ∧ k_ ≠ eT)) k_ ∧ some k_ ≠ (u336003 : Value).ownBlock) rfl rfl ?aP (fun _ hk => hk) ?aF ?aO ?aB ?aS ?aL ?_
         (case aP => exact k25_mkM _ _ _ (⟨zG, zH, zJ, zN⟩ : S25) (Kd.R_mono (Kd.R_types (Kd.R_types (Kd.R_apart' (zQ.out) (Kd.R_typed eJ.out) (by decide)) gP.out (by decide)) cP.out (by decide)) (fun k_ hk => ⟨⟨hk.1.1.1.2, ⟨hk.1.2, hk.2⟩⟩, hk.1.1.2⟩)) (Kd.R_mono (zR.out) (fun k_ hk => ⟨⟨hk.1.1.1.2, ⟨hk.1.2, hk.2⟩⟩, hk.1.1.2⟩)))
         (case aB => exact zB)
         (case aF => exact (fun k_ hk => ⟨Kd.fresh' (Kd.R_lt Z33) k_ hk, Kd.freshB (g := eG) zC k_ hk, Kd.freshB (g := eT) zC k_ hk⟩))
         (case aO => exact (by (with_reducible repeat (first | apply Kd.R_alloc | apply Kd.R_drewN | apply Kd.R_drew)); exact Kd.R_mono eJ.out (fun _ hk => ⟨hk.1.1.1, ⟨hk.1.1.2.1, hk.1.1.2.2⟩⟩)))
         (case aS => exact (below_size zB))
         (case aL => have := Ps.out; omega)
         intro v353 w60 ho hb hg hat
         rw [← Pt.out] at ho
         replace dA := Aside0.mk (Kd.R_over' Z33 (Kd.R_typed Z69) (by decide) hg)
         replace cH := Aside0.mk (blk_grown (g := fT) zC hg (Kd.R_ne eJ.out cH.out (by decide)))
         replace gP := Aside0.mk (blk_grown (g := eG) zC hg (Kd.R_away eJ.out (fun _ hk => hk.1.1.2.1)))
         replace cP := Aside0.mk (blk_grown (g := eT) zC hg (Kd.R_away eJ.out (fun _ hk => hk.1.1.2.2)))
         replace HB := Aside0.mk (hb)
         have Hf := Aside0.mk (ho)
         clear eJ zQ zR
         clear ho hb hg hat
         obtain ⟨Ja, co63, eo63⟩ := Kd.R_slice Hf.out
         (first | subst eo63 | (injection eo63 with f1_ f2_ f3_; have f4_ := f1_.symm; have f5_ := f3_.symm; clear f1_ f2_ f3_; subst f4_; subst f5_))
         refine hK.out _ _ ⟨(blk_cell cP.out 0).trans rfl, (blk_cell cP.out 1).trans rfl, (blk_cell cP.out 2).trans rfl, (blk_cell cP.out 3).trans rfl, (blk_cell cH.out 0).trans rfl, (blk_cell cH.out 1).trans rfl, (blk_cell cH.out 2).trans rfl, (blk_cell cH.out 3).trans rfl, (blk_cell cH.out 4).trans rfl, ((HB.out.cell (World.block_lt_of_cell? w _ iL)).trans iL), ((HB.out.cell (World.block_lt_of_cell? w _ iK)).trans iK), ((HB.out.cell (World.block_lt_of_cell? w _ iJ)).trans iJ), ((HB.out.cell (World.block_lt_of_cell? w _ iI)).trans iI), ((HB.out.cell (World.block_lt_of_cell? w _ iH)).trans iH)⟩ (fun hHeld => ?_)
         clear hK K
         refine nz (N := some 76) ?_
         refine pz 11 77 ?_
         refine last_ (i := 12) (N := none) #[true, true, true, true, true, true, true, true, true, true, true, true, true] rfl rfl (one_of HT_.out (by kernel_rfl)) (by decide) (fun K hK => ?_)
         have arJ : w60.cell? ⟨eT, 3, none⟩ = some (u336003) := (blk_cell cP.out 3).trans rfl
         have anM := blk_frozen cP.out 3
         have hns64_0 := fQ.out
         have hns64_1 := jA.out
         have hms64_0 := fR.out
         have hms64_1 := jB.out
         refine sk1 ?_
         refine hK.out _ _ ?_
         clear hK K
         refine dn1 ?_
         try go_wp2
         go_roundg k3
         case measure => have := HJ2.out; have := HK2.out; have := HK3.out; omega
         case rel => exact ⟨(wrap64 (fY + 1)), (zO), (.slice Ja zO.length co63), Z9, H', ⟨by have := HJ2.out; have := HK2.out; have := HK3.out; omega⟩, ⟨by (with_reducible repeat (first | apply Kd.R_alloc | apply Kd.R_drewN | apply Kd.R_drew)); exact Kd.R_mono (Kd.R_far (p := ⟨eT, 3, none⟩) (Kd.R_types dA.out cP.out (by decide)) (fun _ hk => hk.2) (.slice Ja zO.length co63)) (fun _ hk => trivial)⟩, ⟨by (with_reducible repeat (first | apply Kd.R_alloc | apply Kd.R_drewN | apply Kd.R_drew)); exact Kd.R_mono (Kd.R_far (p := ⟨eT, 3, none⟩) (Kd.R_mono Hf.out (fun k_ hk => (⟨hk, hk.2.2⟩ : _ ∧ k_ ≠ eT))) (fun _ hk => hk.2) (.slice Ja zO.length co63)) (fun _ hk => ⟨hk.1.1, ⟨hk.1.2.1, hk.1.2.2⟩⟩)⟩, ⟨zC⟩, ⟨zC⟩, ⟨zC⟩, ⟨zB⟩⟩
       as_aux_lemma =>
        simp only [Option.some.injEq, Prod.mk.injEq] at H
        obtain ⟨rfl, rfl, rfl, rfl⟩ := H
        have anN := hY.out
        have anO := hZ.out
        have anP := fQ.out
        have anQ := fR.out
        obtain ⟨Fg, Fh, Wl, Wm, Wn, Fi, Fj, Wo, Wp, Wq⟩ := cz5 cH.out
        have anR := jB.out
        have anS := jA.out
        obtain ⟨Wr, Ws, Wt, Wu, Wv, Ww, Wx, Wy⟩ := cz4 cP.out
        obtain ⟨Fk, Fl, Fm, Fn, Fo, Fp, Fq, Fr⟩ := cz4 gP.out
        obtain ⟨Jb, co71, eo71⟩ := Kd.R_slice dA.out
        subst eo71
        obtain ⟨Jc, co72, eo72⟩ := Kd.R_slice eJ.out
        subst eo72
        go_wp2
        refine bodyPost_ret (results_cell_row rfl _ _ eG 25 #[.int .i64 a1_0, .string dW, .slice Jb eU.length co71, .slice Jc gJ.length co72] (0, 0) _ rfl zC Tryz.underlying25 rfl (by kernel_rfl)) rfl ?_
        exact ⟨_, _, Z11, by (with_reducible repeat (first | apply Kd.R_alloc | apply Kd.R_drewN | apply Kd.R_drew)); exact Kd.R_mono (Kd.R_far (p := ⟨eG, 3, none⟩) (Kd.R_far (p := ⟨eG, 2, none⟩) (Kd.R_far (p := ⟨eG, 1, none⟩) (Kd.R_far (p := ⟨eG, 0, none⟩) (Kd.R_types dA.out gP.out (by decide)) (fun _ hk => hk.2) (.int .i64 a1_0)) (fun _ hk => hk.2) (.string dW)) (fun _ hk => hk.2) (.slice Jb eU.length co71)) (fun _ hk => hk.2) (.slice Jc gJ.length co72)) (fun _ hk => trivial), by (with_reducible repeat (first | apply Kd.R_alloc | apply Kd.R_drewN | apply Kd.R_drew)); exact Kd.R_mono (Kd.R_far (p := ⟨eG, 3, none⟩) (Kd.R_far (p := ⟨eG, 2, none⟩) (Kd.R_far (p := ⟨eG, 1, none⟩) (Kd.R_far (p := ⟨eG, 0, none⟩) (Kd.R_mono eJ.out (fun k_ hk => (⟨hk, hk.2.1⟩ : _ ∧ k_ ≠ eG))) (fun _ hk => hk.2) (.int .i64 a1_0)) (fun _ hk => hk.2) (.string dW)) (fun _ hk => hk.2) (.slice Jb eU.length co71)) (fun _ hk => hk.2) (.slice Jc gJ.length co72)) (fun _ hk => hk.1.1), zB⟩
end Go.Proofs.YtkjnahgicfmicaaGreatDoor.Sp

import Derived.Test.YtkjnahgicfmicaaGreatDoorZip
import Derived.Test.YtkjnahgicfmicaaGreatDoorQa
import Derived.Test.YtkjnahgicfmicaaGreatDoorQc
namespace Go.Proofs.YtkjnahgicfmicaaGreatDoor.Sp
open Go.RowKit Go.PW Go.PL Go.PM
attribute [local go_sem] max2_int min2_int max_two min_two max_three min_three max_four min_four
set_option linter.unusedVariables false
set_option linter.unusedSimpArgs false
mutual
def aQ.j0 : Nat → ByteArray → Int → Int → Int → List (S93) → List (S31) → Int → ByteArray → Option (Int × ByteArray × List ByteArray × (List (S25)))
 | 0, _, _, _, _, _, _, _, _ => none
 | k + 1, x0, jR, jS, jT, eU, fF, iY, iZ => aQ.l0 k x0 0 jR jS jT eU fF iY iZ ([] : List ByteArray)
def aQ.l0 : Nat → ByteArray → Int → Int → Int → Int → List (S93) → List (S31) → Int → ByteArray → List ByteArray → Option (Int × ByteArray × List ByteArray × (List (S25)))
 | 0, _, _, _, _, _, _, _, _, _, _ => none
 | k + 1, x0, x6, jR, jS, jT, eU, fF, iY, iZ, jU => if x6 < (eU.length : Int) then (if 0 ≤ x6 then (if 0 ≤ ((rd_T93 eU x6).f0) then (if ((rd_T93 eU x6).f0) ≤ ((rd_T93 eU x6).f1) then (if ((rd_T93 eU x6).f1) ≤ (x0.size : Int) then ((bA.f k (x0.extract (((rd_T93 eU x6).f0) : Int).toNat (((rd_T93 eU x6).f1) : Int).toNat)).bind fun wB => (if jU.length < 8796093022208 then (aQ.l0 k x0 (wrap64 (x6 + 1)) jR jS jT eU fF iY iZ (jU ++ [wB])) else (none))) else (none)) else (none)) else (none)) else (none)) else (aQ.l1 k x0 0 jR jS jT eU fF iY iZ jU ([] : List (S25)))
def aQ.l1 : Nat → ByteArray → Int → Int → Int → Int → List (S93) → List (S31) → Int → ByteArray → List ByteArray → List (S25) → Option (Int × ByteArray × List ByteArray × (List (S25)))
 | 0, _, _, _, _, _, _, _, _, _, _, _ => none
 | k + 1, x0, x7, jR, jS, jT, eU, fF, iY, iZ, jU, pZ => if x7 < (fF.length : Int) then (if 0 ≤ x7 then ((aQ.f k x0 ((rd_T31 fF x7).f0) ((rd_T31 fF x7).f1) ((rd_T31 fF x7).f2) ((rd_T31 fF x7).f3) ((rd_T31 fF x7).f4)).bind fun bt344 => (if pZ.length < 1954687338268 then (aQ.l1 k x0 (wrap64 (x7 + 1)) jR jS jT eU fF iY iZ jU (pZ ++ [(⟨bt344.1, bt344.2.1, bt344.2.2.1, bt344.2.2.2⟩ : S25)])) else (none))) else (none)) else (some (iY, iZ, jU, pZ))
def aQ.f : Nat → ByteArray → Int → Int → Int → List (S93) → List (S31) → Option (Int × ByteArray × List ByteArray × (List (S25)))
 | 0, _, _, _, _, _, _ => none
 | k + 1, a0, a1_0, a1_1, a1_2, l1_3, l1_4 => if a1_0 = 3 then (if 0 ≤ a1_1 then (if a1_1 ≤ a1_2 then (if a1_2 ≤ (a0.size : Int) then (aQ.j0 k a0 a1_0 a1_1 a1_2 l1_3 l1_4 a1_0 (a0.extract (a1_1 : Int).toNat (a1_2 : Int).toNat)) else (none)) else (none)) else (none)) else (if a1_0 = 4 then (if 0 ≤ a1_1 then (if a1_1 ≤ a1_2 then (if a1_2 ≤ (a0.size : Int) then ((bA.f k (a0.extract (a1_1 : Int).toNat (a1_2 : Int).toNat)).bind fun wC => (aQ.j0 k a0 a1_0 a1_1 a1_2 l1_3 l1_4 a1_0 wC)) else (none)) else (none)) else (none)) else (aQ.j0 k a0 a1_0 a1_1 a1_2 l1_3 l1_4 a1_0 (⟨#[]⟩ : ByteArray)))
end
theorem aQ.mono_l : ∀ k, (∀ y0 y1 y2 y3 y4 y5, LeO (aQ.f k y0 y1 y2 y3 y4 y5) (aQ.f (k + 1) y0 y1 y2 y3 y4 y5)) ∧ (∀ y0 y1 y2 y3 y4 y5 y6 y7, LeO (aQ.j0 k y0 y1 y2 y3 y4 y5 y6 y7) (aQ.j0 (k + 1) y0 y1 y2 y3 y4 y5 y6 y7)) ∧ (∀ y0 y1 y2 y3 y4 y5 y6 y7 y8 y9, LeO (aQ.l0 k y0 y1 y2 y3 y4 y5 y6 y7 y8 y9) (aQ.l0 (k + 1) y0 y1 y2 y3 y4 y5 y6 y7 y8 y9)) ∧ (∀ y0 y1 y2 y3 y4 y5 y6 y7 y8 y9 y10, LeO (aQ.l1 k y0 y1 y2 y3 y4 y5 y6 y7 y8 y9 y10) (aQ.l1 (k + 1) y0 y1 y2 y3 y4 y5 y6 y7 y8 y9 y10))
 | 0 => ⟨fun _ _ _ _ _ _ r h => by simp [aQ.f] at h, fun _ _ _ _ _ _ _ _ r h => by simp [aQ.j0] at h, fun _ _ _ _ _ _ _ _ _ _ r h => by simp [aQ.l0] at h, fun _ _ _ _ _ _ _ _ _ _ _ r h => by simp [aQ.l1] at h⟩
 | k + 1 => by
  obtain ⟨ih0, ih1, ih2, ih3⟩ := aQ.mono_l k
  refine ⟨?_, ?_, ?_, ?_⟩
  ·intro y0 y1 y2 y3 y4 y5
   unfold aQ.f
   repeat' first
   | (with_reducible exact ih0 _ _ _ _ _ _)
   | (with_reducible exact ih1 _ _ _ _ _ _ _ _)
   | (with_reducible exact ih2 _ _ _ _ _ _ _ _ _ _)
   | (with_reducible exact ih3 _ _ _ _ _ _ _ _ _ _ _)
   | (with_reducible exact bA.mono _ _)
   | (with_reducible exact LeO.refl _)
   | (with_reducible exact LeO.none _)
   | (with_reducible refine LeO.ite ?_ ?_)
   | (with_reducible refine LeO.bind ?_ (fun _ => ?_))
   | exact ih0 _ _ _ _ _ _
   | exact ih1 _ _ _ _ _ _ _ _
   | exact ih2 _ _ _ _ _ _ _ _ _ _
   | exact ih3 _ _ _ _ _ _ _ _ _ _ _
   | exact bA.mono _ _
   | exact LeO.none _
   | refine LeO.ite ?_ ?_
   | refine LeO.bind ?_ (fun _ => ?_)
  ·intro y0 y1 y2 y3 y4 y5 y6 y7
   unfold aQ.j0
   repeat' first
   | (with_reducible exact ih0 _ _ _ _ _ _)
   | (with_reducible exact ih1 _ _ _ _ _ _ _ _)
   | (with_reducible exact ih2 _ _ _ _ _ _ _ _ _ _)
   | (with_reducible exact ih3 _ _ _ _ _ _ _ _ _ _ _)
   | (with_reducible exact bA.mono _ _)
   | (with_reducible exact LeO.refl _)
   | (with_reducible exact LeO.none _)
   | (with_reducible refine LeO.ite ?_ ?_)
   | (with_reducible refine LeO.bind ?_ (fun _ => ?_))
   | exact ih0 _ _ _ _ _ _
   | exact ih1 _ _ _ _ _ _ _ _
   | exact ih2 _ _ _ _ _ _ _ _ _ _
   | exact ih3 _ _ _ _ _ _ _ _ _ _ _
   | exact bA.mono _ _
   | exact LeO.none _
   | refine LeO.ite ?_ ?_
   | refine LeO.bind ?_ (fun _ => ?_)
  ·intro y0 y1 y2 y3 y4 y5 y6 y7 y8 y9
   unfold aQ.l0
   repeat' first
   | (with_reducible exact ih0 _ _ _ _ _ _)
   | (with_reducible exact ih1 _ _ _ _ _ _ _ _)
   | (with_reducible exact ih2 _ _ _ _ _ _ _ _ _ _)
   | (with_reducible exact ih3 _ _ _ _ _ _ _ _ _ _ _)
   | (with_reducible exact bA.mono _ _)
   | (with_reducible exact LeO.refl _)
   | (with_reducible exact LeO.none _)
   | (with_reducible refine LeO.ite ?_ ?_)
   | (with_reducible refine LeO.bind ?_ (fun _ => ?_))
   | exact ih0 _ _ _ _ _ _
   | exact ih1 _ _ _ _ _ _ _ _
   | exact ih2 _ _ _ _ _ _ _ _ _ _
   | exact ih3 _ _ _ _ _ _ _ _ _ _ _
   | exact bA.mono _ _
   | exact LeO.none _
   | refine LeO.ite ?_ ?_
   | refine LeO.bind ?_ (fun _ => ?_)
  ·intro y0 y1 y2 y3 y4 y5 y6 y7 y8 y9 y10
   unfold aQ.l1
   repeat' first
   | (with_reducible exact ih0 _ _ _ _ _ _)
   | (with_reducible exact ih1 _ _ _ _ _ _ _ _)
   | (with_reducible exact ih2 _ _ _ _ _ _ _ _ _ _)
   | (with_reducible exact ih3 _ _ _ _ _ _ _ _ _ _ _)
   | (with_reducible exact bA.mono _ _)
   | (with_reducible exact LeO.refl _)
   | (with_reducible exact LeO.none _)
   | (with_reducible refine LeO.ite ?_ ?_)
   | (with_reducible refine LeO.bind ?_ (fun _ => ?_))
   | exact ih0 _ _ _ _ _ _
   | exact ih1 _ _ _ _ _ _ _ _
   | exact ih2 _ _ _ _ _ _ _ _ _ _
   | exact ih3 _ _ _ _ _ _ _ _ _ _ _
   | exact bA.mono _ _
   | exact LeO.none _
   | refine LeO.ite ?_ ?_
   | refine LeO.bind ?_ (fun _ => ?_)
theorem aQ.mono : ∀ a0 a1 a2 a3 a4 a5 k, LeO (aQ.f k a0 a1 a2 a3 a4 a5) (aQ.f (k + 1) a0 a1 a2 a3 a4 a5) := by
 intro a0 a1 a2 a3 a4 a5 k
 obtain ⟨ih0, ih1, ih2, ih3⟩ := aQ.mono_l k
 exact ih0 a0 a1 a2 a3 a4 a5
def aQ.T10 : Bool × List (List Nat × List Nat) := (true, [([], []), ([0], [0]), ([], []), ([], []), ([3], [3]), ([], []), ([4, 5], [4, 5]), ([6], [6]), ([7], [7]), ([], []), ([9], [9]), ([], []), ([10, 11], [10, 11]), ([12], [12]), ([13], [13]), ([2, 8, 14], [2, 8, 14]), ([15], [15]), ([16], [16]), ([1, 17, 16], [1, 17]), ([0, 1, 2, 3, 4, 5, 6, 7, 8, 9, 10, 11, 12, 13, 14, 15, 16, 17, 18], []), ([19, 18, 18, 0, 1, 2, 3, 4, 5, 6, 7, 8, 9, 10, 11, 12, 13, 14, 15, 16, 17, 18], [18, 19])])
def aQ.B10 : List Nat := [0, 1, 0, 0, 8, 0, 56, 120, 248, 0, 512, 0, 3584, 7680, 15872, 32764, 65532, 131068, 262143, 524287, 1048575]
theorem aQ.tab10 : rtab .any (opsOf Tryz.f37 10) = aQ.T10 := by kernel_rfl
theorem aQ.bits10 : waitsOk aQ.T10.2 aQ.B10 = true := by kernel_rfl
def aQ.T14 : Bool × List (List Nat × List Nat) := (true, [([], []), ([0], [0]), ([], []), ([], []), ([3], [3]), ([], []), ([4, 5], [4, 5]), ([6], [6]), ([2, 7], [2, 7]), ([8], [8]), ([1, 9, 8], [1, 9]), ([0, 1, 2, 3, 4, 5, 6, 7, 8, 9, 10], []), ([11, 10, 10, 0, 1, 2, 3, 4, 5, 6, 7, 8, 9, 10], [10, 11])])
def aQ.B14 : List Nat := [0, 1, 0, 0, 8, 0, 56, 120, 252, 508, 1023, 2047, 4095]
theorem aQ.tab14 : rtab .any (opsOf Tryz.f37 14) = aQ.T14 := by kernel_rfl
theorem aQ.bits14 : waitsOk aQ.T14.2 aQ.B14 = true := by kernel_rfl
set_option maxHeartbeats 8000000 in
set_option maxRecDepth 100000 in
theorem aQ.calls (k : Nat) : ∀ (a0 : ByteArray) (a1_0 : Int) (a1_1 : Int) (a1_2 : Int) (A1_3 : Option Addr) (c1_3 : Nat) (l1_3 : List (S93)) (A1_4 : Option Addr) (c1_4 : Nat) (l1_4 : List (S31)) (r1 : Int) (r2 : ByteArray) (r3 : List ByteArray) (r4 : List (S25)) (w : World) (hr1_3 : Kd.C k93 w A1_3 l1_3.length l1_3) (hc1_3 : l1_3.length ≤ c1_3) (hr1_4 : Kd.C k31 w A1_4 l1_4.length l1_4) (hc1_4 : l1_4.length ≤ c1_4) (h : aQ.f k a0 a1_0 a1_1 a1_2 l1_3 l1_4 = some (r1, r2, r3, r4)),
 Calls Tryz.prog 37 #[.string a0, .agg #[.int .i64 a1_0, .int .i64 a1_1, .int .i64 a1_2, .slice A1_3 l1_3.length c1_3, .slice A1_4 l1_4.length c1_4]] w fun e w' => ∃ v2_ v3_ : Value, e = .returned (.agg #[.int .i64 r1, .string r2, v2_, v3_]) ∧ Kd.R Kd.string 9 w' w.heap.size (fun _ => True) v2_ r3 ∧ Kd.R k25 25 w' w.heap.size (fun k_ => some k_ ≠ (v2_ : Value).ownBlock) v3_ r4 ∧ Below w.heap.size w w' := by
 induction k using Nat.strongRecOn with
 | _ k ih =>
 intro a0 a1_0 a1_1 a1_2 A1_3 c1_3 l1_3 A1_4 c1_4 l1_4 r1 r2 r3 r4 w hr1_3 hc1_3 hr1_4 hc1_4 h
 cases k with
 | zero => exact absurd h (by simp [aQ.f])
 | succ k =>
 simp only [aQ.f] at h
 have hu31 := Tryz.underlying31
 have hu25 := Tryz.underlying25
 have nK := ab hr1_3
 have HC1_3 := ab hc1_3
 clear hr1_3 hc1_3
 have Oh := ab hr1_4
 have HC1_4 := ab hc1_4
 clear hr1_4 hc1_4
 have HB := ab (Below.refl w.heap.size w)
 have H : (if a1_0 = 3 then (if 0 ≤ a1_1 then (if a1_1 ≤ a1_2 then (if a1_2 ≤ (a0.size : Int) then (aQ.j0 k a0 a1_0 a1_1 a1_2 l1_3 l1_4 a1_0 (a0.extract (a1_1 : Int).toNat (a1_2 : Int).toNat)) else (none)) else (none)) else (none)) else (if a1_0 = 4 then (if 0 ≤ a1_1 then (if a1_1 ≤ a1_2 then (if a1_2 ≤ (a0.size : Int) then ((bA.f k (a0.extract (a1_1 : Int).toNat (a1_2 : Int).toNat)).bind fun wC => (aQ.j0 k a0 a1_0 a1_1 a1_2 l1_3 l1_4 a1_0 wC)) else (none)) else (none)) else (none)) else (aQ.j0 k a0 a1_0 a1_1 a1_2 l1_3 l1_4 a1_0 (⟨#[]⟩ : ByteArray)))) = some (r1, r2, r3, r4) := h
 clear h
 have mW := ab H
 clear H
 go_enter Tryz.func37, Tryz.ntmps37
 go_upto_block 0 with (first | (refine aw 3 #[.int .i64 a1_0, .int .i64 a1_1, .int .i64 a1_2, .slice A1_3 l1_3.length c1_3, .slice A1_4 l1_4.length c1_4] 31 ?_; intro fB hg w4 hbox hb; have bX := ab (hbox); have anF : Aside0 (w.heap.size ≤ fB) := ⟨Z16⟩; have anG : Aside0 (w.heap.size ≤ fB) := ⟨Z16⟩; replace HB := ab (below_step (w := w) zB hb); clear hb hbox hg) | (refine aw 4 #[.int .i64 0, .string (⟨#[]⟩ : ByteArray), .slice none 0 0, .slice none 0 0] 25 ?_; intro dQ hg w5 hbox hb; have fV := ab (hbox); have anH : Aside0 (w.heap.size ≤ dQ) := ⟨Z16⟩; have anI : Aside0 (w.heap.size ≤ dQ) := ⟨Z16⟩; replace HB := ab (below_step (w := w) zB hb); have gG : Aside0 (fB ≠ dQ) := ⟨by rw [hg]; exact Nat.ne_of_lt (blk_lt (g := fB) zC)⟩; have gH : Aside0 (dQ ≠ fB) := ⟨by rw [hg]; exact Nat.ne_of_gt (blk_lt (g := fB) zC)⟩; replace bX := ab (blk_below (g := fB) zC hb); clear hb hbox hg; have arN := gG.out; have arO := gH.out; obtain ⟨pM, pN, Hd, He, Hf, pO, pP, Hg, Hh, Hi⟩ := cz5 bX.out) | (refine aw 5 #[.int .i64 0, .string (⟨#[]⟩ : ByteArray), .slice none 0 0, .slice none 0 0] 25 ?_; intro eE hg w8 hbox hb; have cE := ab (hbox); have anJ : Aside0 (w.heap.size ≤ eE) := ⟨Z16⟩; have anK : Aside0 (w.heap.size ≤ eE) := ⟨Z16⟩; replace HB := ab (below_step (w := w) zB hb); have eV : Aside0 (fB ≠ eE) := ⟨by rw [hg]; exact Nat.ne_of_lt (blk_lt (g := fB) zC)⟩; have eW : Aside0 (eE ≠ fB) := ⟨by rw [hg]; exact Nat.ne_of_gt (blk_lt (g := fB) zC)⟩; replace bX := ab (blk_below (g := fB) zC hb); have iA : Aside0 (dQ ≠ eE) := ⟨by rw [hg]; exact Nat.ne_of_lt (blk_lt (g := dQ) zC)⟩; have iB : Aside0 (eE ≠ dQ) := ⟨by rw [hg]; exact Nat.ne_of_gt (blk_lt (g := dQ) zC)⟩; replace fV := ab (blk_below (g := dQ) zC hb); clear hb hbox hg; have La := eW.out; have Lb := eV.out; have anL := iB.out; have anM := iA.out; obtain ⟨oV, oW, tL, tM, oX, oY, tN, tO⟩ := cz4 cE.out; obtain ⟨kZ, lA, qA, qB, uU, lB, lC, qC, qD, uV⟩ := cz5 bX.out))
 (try simp only [Act.put, ap, aq, ar])
 go_cut [] (fun wc => ∃ (kq : Nat) (dI : ByteArray), Aside0 (aQ.j0 kq a0 a1_0 a1_1 a1_2 l1_3 l1_4 a1_0 dI = some (r1, r2, r3, r4)) ∧ Aside0 (kq ≤ k) ∧ Aside0 (wc.heap[fB]? = some (.cells #[.int .i64 a1_0, .int .i64 a1_1, .int .i64 a1_2, (.slice A1_3 l1_3.length c1_3), (.slice A1_4 l1_4.length c1_4)] 31 (0, 0))) ∧ Aside0 (wc.heap[dQ]? = some (.cells #[.int .i64 0, .string (⟨#[]⟩ : ByteArray), (.slice none 0 0), (.slice none 0 0)] 25 (0, 0))) ∧ Aside0 (wc.heap[eE]? = some (.cells #[.int .i64 a1_0, .string dI, (.slice none 0 0), (.slice none 0 0)] 25 (0, 0))) ∧ Aside0 (Below w.heap.size w wc))
 case first =>
  have H := mW.out
  clear mW
  revert H; refine sIe1n0_e0n1 (fun nD xG H => ?_) fun nD xG H => ?_
  ·(first | rw [nD] | (simp only [i64_w, i32_w]; rw [nD]) | skip)
   revert H; refine sNt1d1 fun fY kD H => ?_
   revert H; refine sNt1d1 fun kA sL H => ?_
   revert H; refine sNt1d1 fun iP xH H => ?_
   as_aux_lemma =>
    have H' := ab H
    clear H
    have Lq := gG.out
    have Lr := gH.out
    have xU := eV.out
    have xV := eW.out
    obtain ⟨pD, pE, pF, pG, Da, pH, pI, pJ, pK, Db⟩ := cz5 bX.out
    have anN := iB.out
    have anO := iA.out
    obtain ⟨Bt, Bu, Vf, Vg, Bv, Bw, Vh, Vi⟩ := cz4 cE.out
    go_wp2
    go_meet
    case rel => exact ⟨_, (a0.extract (a1_1 : Int).toNat (a1_2 : Int).toNat), H', ⟨Z26⟩, ⟨zC⟩, ⟨zC⟩, ⟨zC⟩, ⟨zB⟩⟩
  (first | rw [nD] | (simp only [i64_w, i32_w]; rw [nD]) | skip)
  revert H; refine sIe1n0_e0n1 (fun jH Es H => ?_) fun jH Es H => ?_
  ·revert H; refine sNt1d1 fun mA Jp H => ?_
   revert H; refine sNt1d1 fun oG Jq H => ?_
   revert H; refine sNt1d1 fun kB qM H => ?_
   revert H; refine bnd ?_; rintro wC Jb H
   as_aux_lemma =>
    have H' := ab H
    clear H
    have anP := gG.out
    have anQ := gH.out
    have anR := eV.out
    have anS := eW.out
    obtain ⟨Vj, Vk, Vl, Vm, Vn, Vo, Vq, Vr, Vs, Vt⟩ := cz5 bX.out
    go_wp2_with (first | (refine gl 26 (some 30) Tryz.func26 #[.string (a0.extract (a1_1 : Int).toNat (a1_2 : Int).toNat)] ?_; (with_reducible refine (bA.calls k (a0.extract (a1_1 : Int).toNat (a1_2 : Int).toNat) wC _ Jb.out).mono ?_); rintro e w30 ⟨rfl, hb⟩; refine ⟨_, rfl, ?_⟩; replace bX := ab (blk_below (g := fB) zC hb); replace fV := ab (blk_below (g := dQ) zC hb); replace cE := ab (blk_below (g := eE) (o := .cells #[.int .i64 a1_0, .string (⟨#[]⟩ : ByteArray), .slice none 0 0, .slice none 0 0] 25 (0, 0)) zC hb); replace HB := ab (below_step (w := w) zB hb); clear hb; have anT := iB.out; have anU := iA.out; obtain ⟨Dc, Dd, De, Df, Dg, Dh, Di, Dj⟩ := cz4 cE.out))
    go_meet
    case rel => exact ⟨_, (wC), H', ⟨Z26⟩, ⟨zC⟩, ⟨zC⟩, ⟨zC⟩, ⟨zB⟩⟩
  as_aux_lemma =>
   have H' := ab H
   clear H
   go_wp2
   go_meet
   case rel => exact ⟨_, ((⟨#[]⟩ : ByteArray)), H', ⟨Z26⟩, ⟨zC⟩, ⟨zC⟩, ⟨zC⟩, ⟨zB⟩⟩
 case rest =>
  clear mW
  try clear oV oW tL tM kZ lA qA qB uU pM pN Hd He Hf oX oY tN tO lB lC qC qD uV pO pP Hg Hh Hi
  obtain ⟨kq, dI, HA, HJ2, bX, fV, cE, HB⟩ := hcut
  cases kq with
  | zero => exact absurd HA.out (by simp [aQ.j0])
  | succ kj2 =>
   have H := HA.out
   clear HA
   simp only [aQ.j0] at H
   have H' := ab H
   clear H
   go_wp2
   (try simp only [Act.put, ap, aq, ar])
   go_loopg [6] kj2 (fun kq v6 w' => ∃ (fQ : Int) (eF : List ByteArray) (u336002 : Value), v6 = .int .i64 fQ ∧ Aside0 (aQ.l0 kq a0 fQ a1_0 a1_1 a1_2 l1_3 l1_4 a1_0 dI eF = some (r1, r2, r3, r4)) ∧ Aside0 (kq ≤ kj2) ∧ Aside0 (Kd.R Kd.string 9 w' w.heap.size (fun _ => True) u336002 eF) ∧ Aside0 (w'.heap[fB]? = some (.cells #[.int .i64 a1_0, .int .i64 a1_1, .int .i64 a1_2, (.slice A1_3 l1_3.length c1_3), (.slice A1_4 l1_4.length c1_4)] 31 (0, 0))) ∧ Aside0 (w'.heap[dQ]? = some (.cells #[.int .i64 0, .string (⟨#[]⟩ : ByteArray), (.slice none 0 0), (.slice none 0 0)] 25 (0, 0))) ∧ Aside0 (w'.heap[eE]? = some (.cells #[.int .i64 a1_0, .string dI, u336002, (.slice none 0 0)] 25 (0, 0))) ∧ Aside0 (Below w.heap.size w w'))
   case atStart => exact ⟨(0), (([] : List ByteArray)), (.slice none 0 0), Z7, H', ⟨Nat.le_refl _⟩, ⟨Z9⟩, ⟨zC⟩, ⟨zC⟩, ⟨zC⟩, ⟨zB⟩⟩
   case round =>
    clear H'
    obtain ⟨fQ, eF, u336002, rfl, HA, HK2, cM, bX, fV, cE, HB⟩ := hrel
    cases gk with
    | zero => exact absurd HA.out (by simp [aQ.l0])
    | succ k2 =>
     have H := HA.out
     clear HA
     simp only [aQ.l0] at H
     revert H; refine sId1_d0 (fun sG H => ?_) fun sG H => ?_
     ·revert H; refine sNd1 fun Er H => ?_
      revert H; refine sNt1d1 fun xE xF H => ?_
      revert H; refine sNt1d1 fun nB nC H => ?_
      revert H; refine sNt1d1 fun Lx Ly H => ?_
      revert H; refine bnd ?_; rintro wB A38 H
      revert H; refine sNk fun c39 H => ?_
      have Oi := ab c39
      clear c39
      obtain ⟨Dk, hy340⟩ : ∃ y_ : List ByteArray, y_ = (eF ++ [wB]) := ⟨_, rfl⟩
      replace H : (aQ.l0 k2 a0 (wrap64 (fQ + 1)) a1_0 a1_1 a1_2 l1_3 l1_4 a1_0 dI Dk) = some (r1, r2, r3, r4) := by first | (rw [hy340]; with_reducible exact H) | (have H2_ := (al _ _).symm.trans H; rw [hy340]; with_reducible exact H2_) | (have H2_ := (al _ _).symm.trans H; with_reducible exact H2_) | with_reducible exact H | (rw [hy340]; exact H) | exact H
      have Oj := ab hy340
      clear hy340
      as_aux_lemma =>
       have H' := ab H
       clear H
       have Le := gG.out
       have Lf := gH.out
       have anV := eV.out
       have anW := eW.out
       obtain ⟨Vu, Vv, Vw, Vx, Vy, Vz, Wa, Wb, Wc, Wd⟩ := cz5 bX.out
       try go_wp2
       replace cM := ab (Kd.R_drew cM.out)
       replace bX := ab (blk_drew bX.out)
       replace fV := ab (blk_drew fV.out)
       replace cE := ab (blk_drew cE.out)
       replace HB := ab (below_drew1 HB.out)
       have p337 : 0 ≤ (fQ : Int) := ac Z6
       have q337 : fQ < (l1_3.length : Int) := ac Z6
       obtain ⟨mG, e337, hx337_0, hx337_1⟩ := at_T93 nK.out fQ p337 q337
       have gI := hx337_1
       have gJ := hx337_0
       cases e337
       replace hx337_0 := av HB.out hx337_0
       replace hx337_1 := av HB.out hx337_1
       replace p337 := ag p337
       replace q337 := ag q337
       have p338 : 0 ≤ (fQ : Int) := ac Z6
       have q338 : fQ < (l1_3.length : Int) := ac Z6
       obtain ⟨Ok, e338, hx338_0, hx338_1⟩ := at_T93 nK.out fQ p338 q338
       have gL := hx338_1
       have gM := hx338_0
       obtain rfl : mG = Ok := (by injection e338)
       replace hx338_0 := av HB.out hx338_0
       replace hx338_1 := av HB.out hx338_1
       replace p338 := ag p338
       replace q338 := ag q338
       refine st1 21 [20] (S := fun w' => G4 w' eE (.int .i64 a1_0) (.string dI) (u336002) (.slice none 0 0) (G5 w' fB (.int .i64 a1_0) (.int .i64 a1_1) (.int .i64 a1_2) (.slice (some mG) l1_3.length c1_3) (.slice A1_4 l1_4.length c1_4) (w'.cell? (mG.add ((fQ).toNat * 2)) = some (.int .i64 ((rd_T93 l1_3 fQ).f0)) ∧ w'.cell? ⟨(mG.add ((fQ).toNat * 2)).block, (mG.add ((fQ).toNat * 2)).off + 1, none⟩ = some (.int .i64 ((rd_T93 l1_3 fQ).f1)) ∧ w'.cell? (mG.add ((fQ).toNat * 2)) = some (.int .i64 ((rd_T93 l1_3 fQ).f0)) ∧ w'.cell? ⟨(mG.add ((fQ).toNat * 2)).block, (mG.add ((fQ).toNat * 2)).off + 1, none⟩ = some (.int .i64 ((rd_T93 l1_3 fQ).f1))))) (hS := ⟨(ax cE.out 0), (ax cE.out 1), (ax cE.out 2), (ax cE.out 3), (ax bX.out 0), (ax bX.out 1), (ax bX.out 2), (ax bX.out 3), (ax bX.out 4), (av HB.out gJ), (av HB.out gI), (av HB.out gM), (av HB.out gL)⟩) (fun hHeld => ?_); refine with_tabW aQ.tab10 aQ.bits10 (fun HT_ HW_ => ?_)
       generalize wr.drew = w43 at cM bX fV cE HB hx337_0 hx337_1 hx338_0 hx338_1 hHeld ⊢
       refine pz 0 39 ?_
       refine pz 2 41 ?_
       refine pz 3 42 ?_
       refine pz 5 44 ?_
       refine pz 9 48 ?_
       refine pz 11 50 ?_
       refine tk13 1 40 ?_
       refine tk13 4 43 ?_
       refine pz 6 45 ?_
       refine pz 7 46 ?_
       refine tk13 8 47 ?_
       refine tk13 10 49 ?_
       refine pz 12 51 ?_
       refine pz 13 52 ?_
       refine tk13 14 53 ?_
       refine pz 15 54 ?_
       refine on1 16 (some 55) fun K hK => ?_
       refine goes_ Tryz.func26 (by kernel_rfl) rfl #[.string (a0.extract (((rd_T93 l1_3 fQ).f0) : Int).toNat (((rd_T93 l1_3 fQ).f1) : Int).toNat)] (by rfl) rfl rfl Z15 ?_
       with_reducible refine (bA.calls k2 (a0.extract (((rd_T93 l1_3 fQ).f0) : Int).toNat (((rd_T93 l1_3 fQ).f1) : Int).toNat) wB _ A38.out).mono ?_
       rintro e w44 ⟨rfl, hb⟩
       refine ⟨_, rfl, ?_⟩
       replace cM := ab (Kd.R_below Z29 hb)
       replace bX := ab (blk_below (g := fB) zC hb)
       replace fV := ab (blk_below (g := dQ) zC hb)
       replace cE := ab (blk_below (g := eE) zC hb)
       replace HB := ab (below_step (w := w) zB hb)
       try clear hb
       refine hK.out _ _ ⟨(ax cE.out 0), (ax cE.out 1), (ax cE.out 2), (ax cE.out 3), (ax bX.out 0), (ax bX.out 1), (ax bX.out 2), (ax bX.out 3), (ax bX.out 4), (av HB.out gJ), (av HB.out gI), (av HB.out gM), (av HB.out gL)⟩ (fun hHeld => ?_)
       clear hK K
       refine nz (N := some 55) ?_
       refine on1 17 (some 56) fun K hK => ?_
       refine value_ (w1 := ?_) (v := ?_) (by rfl) rfl ?_ ?_
       rotate_left 2
       ·go_simp
        constructor
        ·rfl
        ·rfl
       refine hK.out _ _ ⟨(ax (blk_alloc cE.out _) 0), (ax (blk_alloc cE.out _) 1), (ax (blk_alloc cE.out _) 2), (ax (blk_alloc cE.out _) 3), (ax (blk_alloc bX.out _) 0), (ax (blk_alloc bX.out _) 1), (ax (blk_alloc bX.out _) 2), (ax (blk_alloc bX.out _) 3), (ax (blk_alloc bX.out _) 4), (World.cell?_alloc_lt _ _ _ (World.block_lt_of_cell? _ _ ((av HB.out gJ)))).trans ((av HB.out gJ)), (World.cell?_alloc_lt _ _ _ (World.block_lt_of_cell? _ _ ((av HB.out gI)))).trans ((av HB.out gI)), (World.cell?_alloc_lt _ _ _ (World.block_lt_of_cell? _ _ ((av HB.out gM)))).trans ((av HB.out gM)), (World.cell?_alloc_lt _ _ _ (World.block_lt_of_cell? _ _ ((av HB.out gL)))).trans ((av HB.out gL))⟩ (fun hHeld => ?_)
       clear hK K
       refine nz (N := some 56) ?_
       refine on1 18 (some 57) fun K hK => ?_
       refine Kd.R_append_step Kd.string (w0 := w) w.heap.size (by rfl) (.tmp 40) (.tmp 56) 22 9 (.string ⟨#[]⟩) 16 rfl Tryz.underlying22 info9 rfl (by decide) (by omega) u336002 eF wB [.string wB] (fun _ => True) (fun _ => False) rfl rfl ?aP (fun _ hk => hk.elim) ?aF ?aO ?aB ?aS ?aL ?_
       (case aP => exact rfl)
       (case aB => exact zB)
       (case aF => exact (fun _ _ => trivial))
       (case aO => exact Z29)
       (case aS => exact (below_size zB))
       (case aL => have := Oi.out; omega)
       intro v341 w45 ho hb hg hat
       rw [← Oj.out] at ho
       replace bX := ab (blk_grown (g := fB) zC hg (Kd.R_ne cM.out bX.out (by decide)))
       replace fV := ab (blk_grown (g := dQ) zC hg (Kd.R_ne cM.out fV.out (by decide)))
       replace cE := ab (blk_grown (g := eE) zC hg (Kd.R_ne cM.out cE.out (by decide)))
       replace HB := ab (hb)
       have Ff := ab (ho)
       clear cM
       clear ho hb hg hat
       obtain ⟨Ft, co46, eo46⟩ := Kd.R_slice Ff.out
       (first | subst eo46 | (injection eo46 with f1_ f2_ f3_; have f4_ := f1_.symm; have f5_ := f3_.symm; clear f1_ f2_ f3_; subst f4_; subst f5_))
       refine hK.out _ _ ⟨(ax cE.out 0), (ax cE.out 1), (ax cE.out 2), (ax cE.out 3), (ax bX.out 0), (ax bX.out 1), (ax bX.out 2), (ax bX.out 3), (ax bX.out 4), (av HB.out gJ), (av HB.out gI), (av HB.out gM), (av HB.out gL)⟩ (fun hHeld => ?_)
       clear hK K
       refine nz (N := some 57) ?_
       refine pz 19 58 ?_
       refine last_ (i := 20) (N := none) #[true, true, true, true, true, true, true, true, true, true, true, true, true, true, true, true, true, true, true, true, true] rfl rfl (one_of HT_.out (by kernel_rfl)) (by decide) (fun K hK => ?_)
       have afH : w45.cell? ⟨eE, 2, none⟩ = some (u336002) := (ax cE.out 2)
       have Jv := blk_frozen cE.out 2
       have hns47_0 := eV.out
       have hns47_1 := iA.out
       have hms47_0 := eW.out
       have hms47_1 := iB.out
       refine sk1 ?_
       refine hK.out _ _ ?_
       clear hK K
       refine dn1 ?_
       try go_wp2
       go_roundg k2
       case measure => have := HJ2.out; have := HK2.out; omega
       case rel => exact ⟨(wrap64 (fQ + 1)), (Dk), (.slice Ft Dk.length co46), Z7, H', ⟨by have := HJ2.out; have := HK2.out; omega⟩, ⟨by (with_reducible repeat (first | apply Kd.R_alloc | apply Kd.R_drewN | apply Kd.R_drew)); exact Kd.R_mono (Kd.R_far (p := ⟨eE, 2, none⟩) (Kd.R_types Ff.out cE.out (by decide)) (fun _ hk => hk.2) (.slice Ft Dk.length co46)) (fun _ hk => trivial)⟩, ⟨zC⟩, ⟨zC⟩, ⟨zC⟩, ⟨zB⟩⟩
     have H' := ab H
     clear H
     have anX := gG.out
     have anY := gH.out
     have Ol := eV.out
     have Om := eW.out
     obtain ⟨pV, pW, uW, uX, uY, pX, pY, uZ, vA, vB⟩ := cz5 bX.out
     go_wp2
     (try simp only [Act.put, ap, aq, ar])
     go_loopg [7] k2 (fun kq v7 w' => ∃ (fC : Int) (fP : List (S25)) (u336003 : Value), v7 = .int .i64 fC ∧ Aside0 (aQ.l1 kq a0 fC a1_0 a1_1 a1_2 l1_3 l1_4 a1_0 dI eF fP = some (r1, r2, r3, r4)) ∧ Aside0 (kq ≤ k2) ∧ Aside0 (Kd.R Kd.string 9 w' w.heap.size (fun _ => True) u336002 eF) ∧ Aside0 (Kd.R k25 25 w' w.heap.size (fun k_ => some k_ ≠ (u336002 : Value).ownBlock ∧ k_ ≠ dQ ∧ k_ ≠ eE) u336003 fP) ∧ Aside0 (w'.heap[fB]? = some (.cells #[.int .i64 a1_0, .int .i64 a1_1, .int .i64 a1_2, (.slice A1_3 l1_3.length c1_3), (.slice A1_4 l1_4.length c1_4)] 31 (0, 0))) ∧ Aside0 (w'.heap[dQ]? = some (.cells #[.int .i64 0, .string (⟨#[]⟩ : ByteArray), (.slice none 0 0), (.slice none 0 0)] 25 (0, 0))) ∧ Aside0 (w'.heap[eE]? = some (.cells #[.int .i64 a1_0, .string dI, u336002, u336003] 25 (0, 0))) ∧ Aside0 (Below w.heap.size w w'))
     case atStart => exact ⟨(0), (([] : List (S25))), (.slice none 0 0), Z7, H', ⟨Nat.le_refl _⟩, ⟨by (with_reducible repeat (first | apply Kd.R_alloc | apply Kd.R_drewN | apply Kd.R_drew)); first | exact cM.out | exact Kd.V_len cM.out⟩, ⟨Z9⟩, ⟨zC⟩, ⟨zC⟩, ⟨zC⟩, ⟨zB⟩⟩
     case round =>
      clear H'
      try clear sG pV pW uW uX uY pX pY uZ vA vB
      obtain ⟨fC, fP, u336003, rfl, HA, HK3, cM, dT, bX, fV, cE, HB⟩ := hrel
      cases gk with
      | zero => exact absurd HA.out (by simp [aQ.l1])
      | succ k3 =>
       have H := HA.out
       clear HA
       simp only [aQ.l1] at H
       revert H; refine sId1_d0 (fun xM H => ?_) fun xM H => ?_
       ·revert H; refine sNd1 fun Mb H => ?_
        revert H; refine bnd ?_; rintro ⟨yL, yM, yN, yO⟩ A53 H; try dsimp only at H
        revert H; refine sNk fun c54 H => ?_
        have Oo := ab c54
        clear c54
        obtain ⟨yP, hy352⟩ : ∃ y_ : List (S25), y_ = (fP ++ [(⟨yL, yM, yN, yO⟩ : S25)]) := ⟨_, rfl⟩
        replace H : (aQ.l1 k3 a0 (wrap64 (fC + 1)) a1_0 a1_1 a1_2 l1_3 l1_4 a1_0 dI eF yP) = some (r1, r2, r3, r4) := by first | (rw [hy352]; with_reducible exact H) | (have H2_ := (al _ _).symm.trans H; rw [hy352]; with_reducible exact H2_) | (have H2_ := (al _ _).symm.trans H; with_reducible exact H2_) | with_reducible exact H | (rw [hy352]; exact H) | exact H
        have Oq := ab hy352
        clear hy352
        as_aux_lemma =>
         have H' := ab H
         clear H
         have Nl := gG.out
         have Nm := gH.out
         have Nn := eV.out
         have Np := eW.out
         obtain ⟨uK, uL, uM, uN, uO, uP, uQ, uR, uS, uT⟩ := cz5 bX.out
         try go_wp2
         replace cM := ab (Kd.R_drew cM.out)
         replace dT := ab (Kd.R_drew dT.out)
         replace bX := ab (blk_drew bX.out)
         replace fV := ab (blk_drew fV.out)
         replace cE := ab (blk_drew cE.out)
         replace HB := ab (below_drew1 HB.out)
         have p343 : 0 ≤ (fC : Int) := ac Z6
         have q343 : fC < (l1_4.length : Int) := ac Z6
         obtain ⟨kF, A343_3, c343_3, A343_4, c343_4, e343, hx343_0, hx343_1, hx343_2, hx343_3, hx343_4, hl343_3, hi343_3, hl343_4, hi343_4⟩ := at_T31 Oh.out fC p343 q343
         have gN := hx343_4
         have gO := hx343_3
         have gP := hx343_2
         have gQ := hx343_1
         have gR := hx343_0
         cases e343
         replace hx343_0 := av HB.out hx343_0
         replace hx343_1 := av HB.out hx343_1
         replace hx343_2 := av HB.out hx343_2
         replace hx343_3 := av HB.out hx343_3
         replace hx343_4 := av HB.out hx343_4
         have vC := ab hi343_3
         have HC343_3 := ab hl343_3
         clear hi343_3 hl343_3
         have vD := ab hi343_4
         have HC343_4 := ab hl343_4
         clear hi343_4 hl343_4
         replace p343 := ag p343
         replace q343 := ag q343
         refine st1 13 [12] (S := fun w' => G4 w' eE (.int .i64 a1_0) (.string dI) (u336002) (u336003) (G5 w' fB (.int .i64 a1_0) (.int .i64 a1_1) (.int .i64 a1_2) (.slice A1_3 l1_3.length c1_3) (.slice (some kF) l1_4.length c1_4) (w'.cell? (kF.add ((fC).toNat * 5)) = some (.int .i64 ((rd_T31 l1_4 fC).f0)) ∧ w'.cell? ⟨(kF.add ((fC).toNat * 5)).block, (kF.add ((fC).toNat * 5)).off + 1, none⟩ = some (.int .i64 ((rd_T31 l1_4 fC).f1)) ∧ w'.cell? ⟨(kF.add ((fC).toNat * 5)).block, (kF.add ((fC).toNat * 5)).off + 2, none⟩ = some (.int .i64 ((rd_T31 l1_4 fC).f2)) ∧ w'.cell? ⟨(kF.add ((fC).toNat * 5)).block, (kF.add ((fC).toNat * 5)).off + 3, none⟩ = some (.slice A343_3 ((rd_T31 l1_4 fC).f3).length c343_3) ∧ w'.cell? ⟨(kF.add ((fC).toNat * 5)).block, (kF.add ((fC).toNat * 5)).off + 4, none⟩ = some (.slice A343_4 ((rd_T31 l1_4 fC).f4).length c343_4)))) (hS := ⟨(ax cE.out 0), (ax cE.out 1), (ax cE.out 2), (ax cE.out 3), (ax bX.out 0), (ax bX.out 1), (ax bX.out 2), (ax bX.out 3), (ax bX.out 4), (av HB.out gR), (av HB.out gQ), (av HB.out gP), (av HB.out gO), (av HB.out gN)⟩) (fun hHeld => ?_); refine with_tabW aQ.tab14 aQ.bits14 (fun HT_ HW_ => ?_)
         generalize wr.drew = w58 at cM dT bX fV cE HB vC vD hx343_0 hx343_1 hx343_2 hx343_3 hx343_4 hHeld ⊢
         refine pz 0 66 ?_
         refine pz 2 68 ?_
         refine pz 3 69 ?_
         refine pz 5 71 ?_
         refine tk14 1 67 ?_
         refine tk14 4 70 ?_
         refine pz 6 72 ?_
         refine tk14 7 73 ?_
         refine on1 8 (some 74) fun K hK => ?_
         refine goes_ Tryz.func37 (by kernel_rfl) rfl #[.string a0, .agg #[.int .i64 ((rd_T31 l1_4 fC).f0), .int .i64 ((rd_T31 l1_4 fC).f1), .int .i64 ((rd_T31 l1_4 fC).f2), .slice A343_3 ((rd_T31 l1_4 fC).f3).length c343_3, .slice A343_4 ((rd_T31 l1_4 fC).f4).length c343_4]] (by rfl) rfl rfl Z15 ?_
         with_reducible refine (ih k3 (by have := HJ2.out; have := HK2.out; have := HK3.out; omega) a0 ((rd_T31 l1_4 fC).f0) ((rd_T31 l1_4 fC).f1) ((rd_T31 l1_4 fC).f2) _ _ ((rd_T31 l1_4 fC).f3) _ _ ((rd_T31 l1_4 fC).f4) yL yM yN yO _ ?side1 ?side2 ?side3 ?side4 A53.out).mono ?_
         (case side1 => repeat (first | exact (Kd.C_below vC.out HB.out) | (with_reducible refine Kd.C_alloc ?_ _) | (with_reducible refine Kd.C_drewN ?_ _) | (with_reducible refine Kd.C_drew ?_)))
         (case side2 => exact HC343_3.out)
         (case side3 => repeat (first | exact (Kd.C_below vD.out HB.out) | (with_reducible refine Kd.C_alloc ?_ _) | (with_reducible refine Kd.C_drewN ?_ _) | (with_reducible refine Kd.C_drew ?_)))
         (case side4 => exact HC343_4.out)
         rintro e w59 ⟨v347, v350, rfl, ho0, ho1, hb⟩
         refine ⟨_, rfl, ?_⟩
         have yQ := ab (Kd.R_lower (Kd.R_new' ho0 (Kd.R_lt Z29)) (below_size zB))
         have yR := ab (Kd.R_lower (Kd.R_newB (Kd.R_newB (Kd.R_new' (Kd.R_new' ho1 (Kd.R_lt Z29)) (Kd.R_lt Z62)) (g := dQ) zC) (g := eE) zC) (below_size zB))
         replace cM := ab (Kd.R_elder' Z29 (Kd.R_base ho0) hb)
         replace dT := ab (Kd.R_mono (Kd.R_told (Kd.R_told (Kd.R_old Z62 hb) (Kd.R_base ho0)) (Kd.R_base ho1)) (fun _ h_ => h_.1))
         replace bX := ab (blk_below (g := fB) zC hb)
         replace fV := ab (blk_below (g := dQ) zC hb)
         replace cE := ab (blk_below (g := eE) zC hb)
         replace HB := ab (below_step (w := w) zB hb)
         try clear hb ho0 ho1
         obtain ⟨ahL, co61, eo61⟩ := Kd.R_slice yQ.out
         (first | subst eo61 | (injection eo61 with f1_ f2_ f3_; have f4_ := f1_.symm; have f5_ := f3_.symm; clear f1_ f2_ f3_; subst f4_; subst f5_))
         obtain ⟨ahM, co62, eo62⟩ := Kd.R_slice yR.out
         (first | subst eo62 | (injection eo62 with f1_ f2_ f3_; have f4_ := f1_.symm; have f5_ := f3_.symm; clear f1_ f2_ f3_; subst f4_; subst f5_))
         refine hK.out _ _ ⟨(ax cE.out 0), (ax cE.out 1), (ax cE.out 2), (ax cE.out 3), (ax bX.out 0), (ax bX.out 1), (ax bX.out 2), (ax bX.out 3), (ax bX.out 4), (av HB.out gR), (av HB.out gQ), (av HB.out gP), (av HB.out gO), (av HB.out gN)⟩ (fun hHeld => ?_)
         clear hK K
         refine nz (N := some 74) ?_
         refine on1 9 (some 75) fun K hK => ?_
         refine value_ (w1 := ?_) (v := ?_) (by rfl) rfl ?_ ?_
         rotate_left 2
         ·go_simp
          constructor
          ·rfl
          ·rfl
         refine hK.out _ _ ⟨(ax (blk_alloc cE.out _) 0), (ax (blk_alloc cE.out _) 1), (ax (blk_alloc cE.out _) 2), (ax (blk_alloc cE.out _) 3), (ax (blk_alloc bX.out _) 0), (ax (blk_alloc bX.out _) 1), (ax (blk_alloc bX.out _) 2), (ax (blk_alloc bX.out _) 3), (ax (blk_alloc bX.out _) 4), (World.cell?_alloc_lt _ _ _ (World.block_lt_of_cell? _ _ ((av HB.out gR)))).trans ((av HB.out gR)), (World.cell?_alloc_lt _ _ _ (World.block_lt_of_cell? _ _ ((av HB.out gQ)))).trans ((av HB.out gQ)), (World.cell?_alloc_lt _ _ _ (World.block_lt_of_cell? _ _ ((av HB.out gP)))).trans ((av HB.out gP)), (World.cell?_alloc_lt _ _ _ (World.block_lt_of_cell? _ _ ((av HB.out gO)))).trans ((av HB.out gO)), (World.cell?_alloc_lt _ _ _ (World.block_lt_of_cell? _ _ ((av HB.out gN)))).trans ((av HB.out gN))⟩ (fun hHeld => ?_)
         clear hK K
         refine nz (N := some 75) ?_
         refine on1 10 (some 76) fun K hK => ?_
         refine Kd.R_append_step k25 (w0 := w) w.heap.size (by rfl) (.tmp 67) (.tmp 75) 23 25 (.agg #[(.int .i64 0), (.string ⟨#[]⟩), (.slice none 0 0), (.slice none 0 0)]) 72 rfl Tryz.underlying23 info25 rfl (by decide) (by omega) u336003 fP (⟨yL, yM, yN, yO⟩ : S25) [.int .i64 yL, .string yM, .slice ahL yN.length co61, .slice ahM yO.length co62] (fun k_ => some k_ ≠ (u336002 : Value).ownBlock ∧ k_ ≠ dQ ∧ k_ ≠ eE) (fun k_ => ((fun k_ => some k_ ≠ (u336002 : Value).ownBlock ∧ k_ ≠ dQ ∧ k_ ≠ eE)) k_ ∧ some k_ ≠ (u336003 : Value).ownBlock) rfl rfl ?aP (fun _ hk => hk) ?aF ?aO ?aB ?aS ?aL ?_
         (case aP => exact k25_mkM _ _ _ (⟨yL, yM, yN, yO⟩ : S25) (Kd.R_mono (Kd.R_types (Kd.R_types (Kd.R_apart' (yQ.out) (Kd.R_typed dT.out) (by decide)) fV.out (by decide)) cE.out (by decide)) (fun k_ hk => ⟨⟨hk.1.1.1.2, ⟨hk.1.2, hk.2⟩⟩, hk.1.1.2⟩)) (Kd.R_mono (yR.out) (fun k_ hk => ⟨⟨hk.1.1.1.2, ⟨hk.1.2, hk.2⟩⟩, hk.1.1.2⟩)))
         (case aB => exact zB)
         (case aF => exact (fun k_ hk => ⟨Kd.fresh' (Kd.R_lt Z29) k_ hk, Kd.freshB (g := dQ) zC k_ hk, Kd.freshB (g := eE) zC k_ hk⟩))
         (case aO => exact (by (with_reducible repeat (first | apply Kd.R_alloc | apply Kd.R_drewN | apply Kd.R_drew)); exact Kd.R_mono dT.out (fun _ hk => ⟨hk.1.1.1, ⟨hk.1.1.2.1, hk.1.1.2.2⟩⟩)))
         (case aS => exact (below_size zB))
         (case aL => have := Oo.out; omega)
         intro v353 w60 ho hb hg hat
         rw [← Oq.out] at ho
         replace cM := ab (Kd.R_over' Z29 (Kd.R_typed Z62) (by decide) hg)
         replace bX := ab (blk_grown (g := fB) zC hg (Kd.R_ne dT.out bX.out (by decide)))
         replace fV := ab (blk_grown (g := dQ) zC hg (Kd.R_away dT.out (fun _ hk => hk.1.1.2.1)))
         replace cE := ab (blk_grown (g := eE) zC hg (Kd.R_away dT.out (fun _ hk => hk.1.1.2.2)))
         replace HB := ab (hb)
         have Fg := ab (ho)
         clear dT yQ yR
         clear ho hb hg hat
         obtain ⟨Hj, co63, eo63⟩ := Kd.R_slice Fg.out
         (first | subst eo63 | (injection eo63 with f1_ f2_ f3_; have f4_ := f1_.symm; have f5_ := f3_.symm; clear f1_ f2_ f3_; subst f4_; subst f5_))
         refine hK.out _ _ ⟨(ax cE.out 0), (ax cE.out 1), (ax cE.out 2), (ax cE.out 3), (ax bX.out 0), (ax bX.out 1), (ax bX.out 2), (ax bX.out 3), (ax bX.out 4), (av HB.out gR), (av HB.out gQ), (av HB.out gP), (av HB.out gO), (av HB.out gN)⟩ (fun hHeld => ?_)
         clear hK K
         refine nz (N := some 76) ?_
         refine pz 11 77 ?_
         refine last_ (i := 12) (N := none) #[true, true, true, true, true, true, true, true, true, true, true, true, true] rfl rfl (one_of HT_.out (by kernel_rfl)) (by decide) (fun K hK => ?_)
         have arQ : w60.cell? ⟨eE, 3, none⟩ = some (u336003) := (ax cE.out 3)
         have anZ := blk_frozen cE.out 3
         have hns64_0 := eV.out
         have hns64_1 := iA.out
         have hms64_0 := eW.out
         have hms64_1 := iB.out
         refine sk1 ?_
         refine hK.out _ _ ?_
         clear hK K
         refine dn1 ?_
         try go_wp2
         go_roundg k3
         case measure => have := HJ2.out; have := HK2.out; have := HK3.out; omega
         case rel => exact ⟨(wrap64 (fC + 1)), (yP), (.slice Hj yP.length co63), Z7, H', ⟨by have := HJ2.out; have := HK2.out; have := HK3.out; omega⟩, ⟨by (with_reducible repeat (first | apply Kd.R_alloc | apply Kd.R_drewN | apply Kd.R_drew)); exact Kd.R_mono (Kd.R_far (p := ⟨eE, 3, none⟩) (Kd.R_types cM.out cE.out (by decide)) (fun _ hk => hk.2) (.slice Hj yP.length co63)) (fun _ hk => trivial)⟩, ⟨by (with_reducible repeat (first | apply Kd.R_alloc | apply Kd.R_drewN | apply Kd.R_drew)); exact Kd.R_mono (Kd.R_far (p := ⟨eE, 3, none⟩) (Kd.R_mono Fg.out (fun k_ hk => (⟨hk, hk.2.2⟩ : _ ∧ k_ ≠ eE))) (fun _ hk => hk.2) (.slice Hj yP.length co63)) (fun _ hk => ⟨hk.1.1, ⟨hk.1.2.1, hk.1.2.2⟩⟩)⟩, ⟨zC⟩, ⟨zC⟩, ⟨zC⟩, ⟨zB⟩⟩
       as_aux_lemma =>
        simp only [am, an] at H
        obtain ⟨rfl, rfl, rfl, rfl⟩ := H
        have aoA := gG.out
        have aoB := gH.out
        have aoC := eV.out
        have aoD := eW.out
        obtain ⟨Dl, Dm, We, Wf, Wg, Dn, Dp, Wh, Wi, Wj⟩ := cz5 bX.out
        have aoE := iB.out
        have aoF := iA.out
        obtain ⟨Wk, Wl, Wm, Wn, Wo, Wp, Wq, Wr⟩ := cz4 cE.out
        obtain ⟨Dq, Dr, Ds, Dt, Du, Dv, Dw, Dx⟩ := cz4 fV.out
        obtain ⟨Hk, co71, eo71⟩ := Kd.R_slice cM.out
        subst eo71
        obtain ⟨Hl, co72, eo72⟩ := Kd.R_slice dT.out
        subst eo72
        go_wp2
        refine bodyPost_ret (results_cell_row rfl _ _ dQ 25 #[.int .i64 a1_0, .string dI, .slice Hk eF.length co71, .slice Hl fP.length co72] (0, 0) _ rfl zC Tryz.underlying25 rfl (by kernel_rfl)) rfl ?_
        exact ⟨_, _, Z8, by (with_reducible repeat (first | apply Kd.R_alloc | apply Kd.R_drewN | apply Kd.R_drew)); exact Kd.R_mono (Kd.R_far (p := ⟨dQ, 3, none⟩) (Kd.R_far (p := ⟨dQ, 2, none⟩) (Kd.R_far (p := ⟨dQ, 1, none⟩) (Kd.R_far (p := ⟨dQ, 0, none⟩) (Kd.R_types cM.out fV.out (by decide)) (fun _ hk => hk.2) (.int .i64 a1_0)) (fun _ hk => hk.2) (.string dI)) (fun _ hk => hk.2) (.slice Hk eF.length co71)) (fun _ hk => hk.2) (.slice Hl fP.length co72)) (fun _ hk => trivial), by (with_reducible repeat (first | apply Kd.R_alloc | apply Kd.R_drewN | apply Kd.R_drew)); exact Kd.R_mono (Kd.R_far (p := ⟨dQ, 3, none⟩) (Kd.R_far (p := ⟨dQ, 2, none⟩) (Kd.R_far (p := ⟨dQ, 1, none⟩) (Kd.R_far (p := ⟨dQ, 0, none⟩) (Kd.R_mono dT.out (fun k_ hk => (⟨hk, hk.2.1⟩ : _ ∧ k_ ≠ dQ))) (fun _ hk => hk.2) (.int .i64 a1_0)) (fun _ hk => hk.2) (.string dI)) (fun _ hk => hk.2) (.slice Hk eF.length co71)) (fun _ hk => hk.2) (.slice Hl fP.length co72)) (fun _ hk => hk.1.1), zB⟩
end Go.Proofs.YtkjnahgicfmicaaGreatDoor.Sp

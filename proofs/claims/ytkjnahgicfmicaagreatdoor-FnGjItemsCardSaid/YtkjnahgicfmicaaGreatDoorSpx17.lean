import Derived.Test.YtkjnahgicfmicaaGreatDoorZip
import Derived.Test.YtkjnahgicfmicaaGreatDoorQa
import Derived.Test.YtkjnahgicfmicaaGreatDoorQc
import Derived.Test.YtkjnahgicfmicaaGreatDoorQh
import Derived.Test.YtkjnahgicfmicaaGreatDoorSpx15
import Derived.Test.YtkjnahgicfmicaaGreatDoorQf
namespace Go.Proofs.YtkjnahgicfmicaaGreatDoor.Sp
open Go.RowKit Go.Proofs.YtkjnahgicfmicaaGreatDoorW.PrintWords Go.Proofs.YtkjnahgicfmicaaGreatDoorW.PrintLast Go.Proofs.YtkjnahgicfmicaaGreatDoorW.PrintMore
attribute [local go_sem] run_store_float max2_int min2_int max_two min_two max_three min_three max_four min_four
set_option linter.unusedVariables false
set_option linter.unusedSimpArgs false
mutual
def bC.j0 (bK : cF) (bT : cJ) : Nat → ByteArray → Bool → Int → ByteArray → List ByteArray → List (S25) → Option (Bool)
 | 0, _, _, _, _, _, _ => none
 | k + 1, x0, x28, lZ, nJ, kQ, nK => if x28 = true then (some true) else ((bK.f k x0).bind fun bt449 => ((bT.f k x0).bind fun dF => (if (dF.length : Int) = (bt449.2.2.2.2.1.length : Int) then (bC.l0 bK bT k x0 dF (dF.length : Int) 0 lZ nJ kQ nK bt449.1 bt449.2.1 bt449.2.2.1 bt449.2.2.2.1 bt449.2.2.2.2.1) else (none))))
def bC.l0 (bK : cF) (bT : cJ) : Nat → ByteArray → List (S41) → Int → Int → Int → ByteArray → List ByteArray → List (S25) → Int → Int → Int → List (S93) → List (S31) → Option (Bool)
 | 0, _, _, _, _, _, _, _, _, _, _, _, _, _ => none
 | k + 1, x0, x7, x43, x44, lZ, nJ, kQ, nK, uF, uG, uH, uI, jK => if x44 < x43 then (if 0 ≤ x44 then (if x44 < (x7.length : Int) then (if x44 < (jK.length : Int) then ((bZ.f k ((rd_T41 x7 x44).f1.f0) ((rd_T41 x7 x44).f1.f1) ((rd_T41 x7 x44).f1.f2) ((rd_T41 x7 x44).f1.f3) ((rd_T41 x7 x44).f1.f4) x0 ((rd_T31 jK x44).f0) ((rd_T31 jK x44).f1) ((rd_T31 jK x44).f2) ((rd_T31 jK x44).f3) ((rd_T31 jK x44).f4)).bind fun Mi => (if Mi = true then (if lZ = 6 then (if x44 < (kQ.length : Int) then (if ((rd_T41 x7 x44).f0.f2).toList = (rdOf ByteArray.empty kQ x44).toList then (bC.l0 bK bT k x0 x7 x43 (wrap64 (x44 + 1)) lZ nJ kQ nK uF uG uH uI jK) else (none)) else (none)) else (bC.l0 bK bT k x0 x7 x43 (wrap64 (x44 + 1)) lZ nJ kQ nK uF uG uH uI jK)) else (none))) else (none)) else (none)) else (none)) else (some true)
end
def bC.f (bK : cF) (bT : cJ) (k : Nat) (a0 : ByteArray) : Option (Bool) := if (a0.size : Int) > 2147483647 then (some true) else ((dL.f bK k a0).bind fun bt439 => (if bt439.2.2.2.2 = true then (if bt439.1 = 5 then (bC.j0 bK bT k a0 false bt439.1 bt439.2.1 bt439.2.2.1 bt439.2.2.2.1) else (bC.j0 bK bT k a0 (bt439.1 != 6) bt439.1 bt439.2.1 bt439.2.2.1 bt439.2.2.2.1)) else (bC.j0 bK bT k a0 true bt439.1 bt439.2.1 bt439.2.2.1 bt439.2.2.2.1)))
theorem rd_er {T T' : List S41} (h : T.map er41 = T'.map er41) (i : Int) : er41 (rd_T41 T i) = er41 (rd_T41 T' i) := by
 have h1 : (T.map er41)[i.toNat]? = (T'.map er41)[i.toNat]? := by rw [h]
 simp only [rd_T41, List.getD_eq_getElem?_getD]
 rw [List.getElem?_map, List.getElem?_map] at h1
 cases ha : T[i.toNat]? with
 | none => rw [ha] at h1; cases hb : T'[i.toNat]? with
  | none => rfl
  | some b => rw [hb] at h1; simp at h1
 | some a => rw [ha] at h1; cases hb : T'[i.toNat]? with
  | none => rw [hb] at h1; simp at h1
  | some b => rw [hb] at h1; simpa using h1
theorem gjAt_er (k : Nat) (a : Int) (b c : ByteArray) (f g : Nat) (e : Bool) (x : ByteArray) (p q r : Int) (l : List S93) (m : List S31) : bZ.f k a b c f e x p q r l m = bZ.f k a b c g e x p q r l m := by
 simp only [bZ.f]
theorem bC.l0_er (bK : cF) (bT : cJ) : ∀ (k : Nat) (x0 : ByteArray) (T T' : List S41) (x43 x44 y0 : Int) (y1 : ByteArray) (y2 : List ByteArray) (y3 : List S25) (z0 z1 z2 : Int) (z3 : List S93) (z4 : List S31), T.map er41 = T'.map er41 →
 bC.l0 bK bT k x0 T x43 x44 y0 y1 y2 y3 z0 z1 z2 z3 z4 = bC.l0 bK bT k x0 T' x43 x44 y0 y1 y2 y3 z0 z1 z2 z3 z4
 | 0, _, _, _, _, _, _, _, _, _, _, _, _, _, _, _ => by simp only [bC.l0]
 | k + 1, x0, T, T', x43, x44, y0, y1, y2, y3, z0, z1, z2, z3, z4, h => by
  have hl : T.length = T'.length := by simpa using congrArg List.length h
  have hr := rd_er h x44
  have ih := bC.l0_er bK bT k x0 T T' x43 (wrap64 (x44 + 1)) y0 y1 y2 y3 z0 z1 z2 z3 z4 h
  simp only [bC.l0]
  rw [ih, hl]
  clear ih
  generalize rd_T41 T x44 = u at hr ⊢
  generalize rd_T41 T' x44 = u' at hr ⊢
  obtain ⟨⟨a0, a1, a2, a3, a4⟩, ⟨b0, b1, b2, b3, b4⟩⟩ := u
  obtain ⟨⟨c0, c1, c2, c3, c4⟩, ⟨d0, d1, d2, d3, d4⟩⟩ := u'
  simp only [er41, er39, S41.mk.injEq, S39.mk.injEq, true_and, and_true] at hr
  obtain ⟨rfl, rfl, rfl, rfl, rfl⟩ := hr
  simp only [gjAt_er k b0 b1 b2 b3 d3]
def bC.T13 : Bool × List (List Nat × List Nat) := (true, [([], []), ([], []), ([0, 1], [0, 1]), ([2], [2]), ([3], [3]), ([], []), ([], []), ([6], [6]), ([], []), ([7, 8], [7, 8]), ([9], [9]), ([4, 5, 10], [4, 5, 10]), ([11], [11]), ([12, 11], [12]), ([13], [13]), ([14, 13], [13, 14]), ([15, 13], [13, 15]), ([16, 13, 13], [13, 16]), ([17], [17]), ([17], [17]), ([18, 19, 17], [17, 18, 19]), ([20, 17], [17, 20]), ([21, 17], [17, 21]), ([22, 17], [17, 22]), ([17], [17]), ([24, 17], [17, 24]), ([17], [17]), ([25, 26, 17], [17, 25, 26]), ([27, 17], [17, 27]), ([23, 28, 17], [17, 23, 28]), ([17, 29, 13], [13, 17, 29]), ([13, 30], [13, 30])])
def bC.B13 : List Nat := [0, 0, 3, 7, 15, 0, 0, 64, 0, 448, 960, 2047, 4095, 8191, 16383, 32767, 65535, 131071, 262143, 262143, 1048575, 2097151, 4194303, 8388607, 262143, 17039359, 262143, 117702655, 251920383, 536870911, 1073741823, 2147483647]
theorem bC.tab13 : rtab .any (opsOf Tryz.f3 13) = bC.T13 := by kernel_rfl
theorem bC.bits13 : waitsOk bC.T13.2 bC.B13 = true := by kernel_rfl
set_option maxHeartbeats 8000000 in
set_option maxRecDepth 100000 in
theorem bC.calls (bK : cF) (bT : cJ) (k : Nat) (a0 : ByteArray) (r : Bool) (w : World) (h : bC.f bK bT k a0 = some r) (hW : Wok w) :
 Calls Tryz.prog 3 #[.string a0] w fun e w' => e = .returned (.bool r) ∧ Below w.heap.size w w' := by
 have HWK := Aside0.mk hW
 clear hW
 have hu25 := Tryz.underlying25
 have hu31 := Tryz.underlying31
 have hu39 := Tryz.underlying39
 have HB := Aside0.mk (Below.refl w.heap.size w)
 have H : (if (a0.size : Int) > 2147483647 then (some true) else ((dL.f bK k a0).bind fun bt439 => (if bt439.2.2.2.2 = true then (if bt439.1 = 5 then (bC.j0 bK bT k a0 false bt439.1 bt439.2.1 bt439.2.2.1 bt439.2.2.2.1) else (bC.j0 bK bT k a0 (bt439.1 != 6) bt439.1 bt439.2.1 bt439.2.2.1 bt439.2.2.2.1)) else (bC.j0 bK bT k a0 true bt439.1 bt439.2.1 bt439.2.2.1 bt439.2.2.2.1)))) = some r := h
 clear h
 revert H; refine sIk_k (fun c2 H => ?_) fun c2 H => ?_
 ·have gQ : decide (2147483647 < (a0.size : Int)) = true := decide_eq_true c2
  have kZ : decide (2147483647 < a0.size) = true := decide_eq_true (by omega)
  clear c2
  focus
   obtain rfl := Option.some.inj H
   go_enter Tryz.func3, Tryz.ntmps3
   go_wp2
   go_ret
   exact ⟨Z11, zB⟩
 have gQ : decide (2147483647 < (a0.size : Int)) = false := decide_eq_false c2
 have kZ : decide (2147483647 < a0.size) = false := decide_eq_false (by omega)
 clear c2
 revert H; refine bnd ?_; rintro ⟨nZ, oL, iW, fO, qQ⟩ A3 H; try dsimp only at H
 have Jp := Aside0.mk H
 clear H
 go_enter Tryz.func3, Tryz.ntmps3
 go_upto_region 4 with (first | (refine gl 6 (some 14) Tryz.func6 #[.string a0] ?_; (with_reducible refine (dL.calls bK k a0 nZ oL iW fO qQ _ A3.out).mono ?_); rintro e w5 ⟨v442, v445, rfl, ho0, ho1, hb⟩; refine ⟨_, rfl, ?_⟩; have uJ := Aside0.mk (Kd.R_lower ho0 (below_size zB)); have uK := Aside0.mk (Kd.R_lower ho1 (below_size zB)); replace HB := Aside0.mk (below_step (w := w) zB hb); clear hb ho0 ho1) | ((with_reducible refine gate_dst (N := 3) rfl ?_); refine box_event ?hg (N := 3) ?hd (cs := #[.int .i64 0, .string (⟨#[]⟩ : ByteArray), .slice none 0 0, .slice none 0 0]) (t := 25) ?hr ?_; (case hd => rfl); (case hg => rfl); (case hr => exact Z14); intro eR hg w6 hbox hb; replace uJ := Aside0.mk (Kd.R_below (by (with_reducible repeat (first | apply Kd.R_alloc | apply Kd.R_drewN | apply Kd.R_drew)); exact uJ.out) hb); replace uK := Aside0.mk (Kd.R_below (Kd.R_elderB (by (with_reducible repeat (first | apply Kd.R_alloc | apply Kd.R_drewN | apply Kd.R_drew)); exact uK.out) eR (Nat.le_of_eq hg.symm)) hb); have dZ := Aside0.mk (hbox); have amC : Aside0 (w.heap.size ≤ eR) := ⟨Z21⟩; have amD : Aside0 (w.heap.size ≤ eR) := ⟨Z21⟩; replace HB := Aside0.mk (below_step (w := w) zB hb); clear hb hbox hg; obtain ⟨mG, mH, rO, rP, mI, mJ, rQ, rR⟩ := cz4 dZ.out; obtain ⟨zW, co8, eo8⟩ := Kd.R_slice uJ.out; subst eo8; obtain ⟨Gv, co9, eo9⟩ := Kd.R_slice uK.out; subst eo9))
 (try simp only [Act.put, List.setIfInBounds_toArray, List.set_cons_zero, List.set_cons_succ])
 go_cut [28] (fun v28 wc => ∃ (kq : Nat) (xX : Bool), v28 = .bool xX ∧ Aside0 (bC.j0 bK bT kq a0 xX nZ oL iW fO = some r) ∧ Aside0 (kq ≤ k) ∧ Aside0 (Kd.R Kd.string 9 wc w.heap.size (fun _ => True) (.slice zW iW.length co8) iW) ∧ Aside0 (Kd.R k25 25 wc w.heap.size (fun k_ => some k_ ≠ ((.slice zW iW.length co8) : Value).ownBlock ∧ k_ ≠ eR) (.slice Gv fO.length co9) fO) ∧ Aside0 (wc.heap[eR]? = some (.cells #[.int .i64 nZ, .string oL, (.slice zW iW.length co8), (.slice Gv fO.length co9)] 25 (0, 0))) ∧ Aside0 (Below w.heap.size w wc))
 case first =>
  have H := Jp.out
  clear Jp
  replace H := sB H
  obtain ⟨rfl, H⟩ | ⟨rfl, H⟩ := H
  ·revert H; refine sIe1n0_e0n1 (fun iR lY H => ?_) fun iR lY H => ?_
   ·(first | rw [iR] | (simp only [i64_w, i32_w]; rw [iR]) | skip)
    focus
     have H' := Aside0.mk H
     clear H
     obtain ⟨kR, kS, nL, nM, kT, kU, nN, nO⟩ := cz4 dZ.out
     go_wp2
     go_meet
     case rel => exact ⟨_, (false), Z9, H', ⟨Z30⟩, ⟨Z27⟩, ⟨Z26⟩, ⟨zC⟩, ⟨zB⟩⟩
   (first | rw [iR] | (simp only [i64_w, i32_w]; rw [iR]) | skip)
   focus
    have H' := Aside0.mk H
    clear H
    obtain ⟨pL, pM, De, Df, pN, pO, Dg, Dh⟩ := cz4 dZ.out
    go_wp2
    go_meet
    case rel => exact ⟨_, ((nZ != 6)), Z9, H', ⟨Z30⟩, ⟨Z27⟩, ⟨Z26⟩, ⟨zC⟩, ⟨zB⟩⟩
  focus
   have H' := Aside0.mk H
   clear H
   go_wp2
   go_meet
   case rel => exact ⟨_, (true), Z9, H', ⟨Z30⟩, ⟨Z27⟩, ⟨Z26⟩, ⟨zC⟩, ⟨zB⟩⟩
 case rest =>
  clear Jp
  try clear c2 gQ kZ mG mH rO rP mI mJ rQ rR
  obtain ⟨kq, xX, rfl, HA, HJ3, dH, dK, dZ, HB⟩ := hcut
  cases kq with
  | zero => exact absurd HA.out (by simp [bC.j0])
  | succ kj3 =>
   have H := HA.out
   clear HA
   simp only [bC.j0] at H
   replace H := sB H
   obtain ⟨rfl, H⟩ | ⟨rfl, H⟩ := H
   ·focus
     obtain rfl := Option.some.inj H
     go_wp2
     go_ret
     exact ⟨Z11, zB⟩
   revert H; refine bnd ?_; rintro ⟨iX, oA, oB, mA, eA, afI⟩ Aa H; try dsimp only at H
   revert H; refine bnd ?_; rintro dF A16 H
   revert H; refine sNe1n0k fun qM xN c17 H => ?_
   have Gw : (dF.length == eA.length) = true := by first | simpa using c17 | (simp at c17 ⊢; omega)
   clear c17
   have H' := Aside0.mk H
   clear H
   go_wp2_with (first | (refine gl 7 (some 31) Tryz.func7 #[.string a0] ?_; (with_reducible refine (bK.calls kj3 a0 iX oA oB mA eA afI _ Aa.out).mono ?_); rintro e w18 ⟨v453, v456, rfl, ho0, ho1, hb⟩; refine ⟨_, rfl, ?_⟩; replace dH := Aside0.mk (Kd.R_below Z54 hb); replace dK := Aside0.mk (Kd.R_below Z53 hb); have pA := Aside0.mk (Kd.R_lower ho0 (below_size zB)); have pB := Aside0.mk (Kd.R_lower ho1 (below_size zB)); replace dZ := Aside0.mk (blk_below (g := eR) zC hb); replace HB := Aside0.mk (below_step (w := w) zB hb); clear hb ho0 ho1) | ((with_reducible refine gate_dst (N := 5) rfl ?_); refine box_event ?hg (N := 5) ?hd (cs := #[.int .i64 0, .int .i64 0, .int .i64 0, .slice none 0 0, .slice none 0 0]) (t := 31) ?hr ?_; (case hd => rfl); (case hg => rfl); (case hr => exact Z14); intro eB hg w19 hbox hb; replace dH := Aside0.mk (Kd.R_below Z54 hb); replace dK := Aside0.mk (Kd.R_below Z53 hb); replace pA := Aside0.mk (Kd.R_below (by (with_reducible repeat (first | apply Kd.R_alloc | apply Kd.R_drewN | apply Kd.R_drew)); exact pA.out) hb); replace pB := Aside0.mk (Kd.R_below (Kd.R_elderB (by (with_reducible repeat (first | apply Kd.R_alloc | apply Kd.R_drewN | apply Kd.R_drew)); exact pB.out) eB (Nat.le_of_eq hg.symm)) hb); have dT := Aside0.mk (hbox); have amE : Aside0 (w.heap.size ≤ eB) := ⟨Z21⟩; have amF : Aside0 (w.heap.size ≤ eB) := ⟨Z21⟩; replace HB := Aside0.mk (below_step (w := w) zB hb); have vZ : Aside0 (eR ≠ eB) := ⟨by rw [hg]; exact Nat.ne_of_lt (blk_lt (g := eR) zC)⟩; have wA : Aside0 (eB ≠ eR) := ⟨by rw [hg]; exact Nat.ne_of_gt (blk_lt (g := eR) zC)⟩; replace dZ := Aside0.mk (blk_below (g := eR) zC hb); clear hb hbox hg; have Gk := wA.out; have Gl := vZ.out; obtain ⟨nF, nG, pF, pG, tI, nH, nI, pH, pI, tJ⟩ := cz5 dT.out; obtain ⟨oC, co22, eo22⟩ := Kd.R_slice pA.out; subst eo22; obtain ⟨oD, co23, eo23⟩ := Kd.R_slice pB.out; subst eo23) | (refine gl 8 (some 35) Tryz.func8 #[.string a0] ?_; (with_reducible refine (bT.calls kj3 a0 dF _ A16.out (HWK.out.below zB)).mono ?_); rintro e w24 ⟨v461, dF, rfl, hs_, ho0, hb⟩; have len_ : dF.length = _ := (by simpa using congrArg List.length hs_); (try replace H' := Aside0.mk ((congrArg (fun n_ : Nat => bC.l0 bK bT kj3 a0 dF (n_ : Int) 0 nZ oL iW fO iX oA oB mA eA) len_).trans ((bC.l0_er _ _ _ _ _ _ _ _ _ _ _ _ _ _ _ _ _ hs_).trans H'.out))); rw [← len_] at qM xN Gw; clear hs_ len_; refine ⟨_, rfl, ?_⟩; replace dH := Aside0.mk (Kd.R_below (by (with_reducible repeat (first | apply Kd.R_alloc | apply Kd.R_drewN | apply Kd.R_drew)); exact (Kd.R_mono (Kd.R_far (p := ⟨eB, 4, none⟩) (Kd.R_far (p := ⟨eB, 3, none⟩) (Kd.R_far (p := ⟨eB, 2, none⟩) (Kd.R_far (p := ⟨eB, 1, none⟩) (Kd.R_far (p := ⟨eB, 0, none⟩) (Kd.R_types dH.out dT.out (by decide)) (fun _ hk => hk.2) (.int .i64 iX)) (fun _ hk => hk.2) (.int .i64 oA)) (fun _ hk => hk.2) (.int .i64 oB)) (fun _ hk => hk.2) (.slice oC mA.length co22)) (fun _ hk => hk.2) (.slice oD eA.length co23)) (fun _ h_ => h_.1))) hb); replace dK := Aside0.mk (Kd.R_below (by (with_reducible repeat (first | apply Kd.R_alloc | apply Kd.R_drewN | apply Kd.R_drew)); exact (Kd.R_mono (Kd.R_far (p := ⟨eB, 4, none⟩) (Kd.R_far (p := ⟨eB, 3, none⟩) (Kd.R_far (p := ⟨eB, 2, none⟩) (Kd.R_far (p := ⟨eB, 1, none⟩) (Kd.R_far (p := ⟨eB, 0, none⟩) (Kd.R_types dK.out dT.out (by decide)) (fun _ hk => hk.2) (.int .i64 iX)) (fun _ hk => hk.2) (.int .i64 oA)) (fun _ hk => hk.2) (.int .i64 oB)) (fun _ hk => hk.2) (.slice oC mA.length co22)) (fun _ hk => hk.2) (.slice oD eA.length co23)) (fun _ h_ => h_.1))) hb); replace pA := Aside0.mk (Kd.R_below (by (with_reducible repeat (first | apply Kd.R_alloc | apply Kd.R_drewN | apply Kd.R_drew)); exact (Kd.R_mono (Kd.R_far (p := ⟨eB, 4, none⟩) (Kd.R_far (p := ⟨eB, 3, none⟩) (Kd.R_far (p := ⟨eB, 2, none⟩) (Kd.R_far (p := ⟨eB, 1, none⟩) (Kd.R_far (p := ⟨eB, 0, none⟩) (Kd.R_types pA.out dT.out (by decide)) (fun _ hk => hk.2) (.int .i64 iX)) (fun _ hk => hk.2) (.int .i64 oA)) (fun _ hk => hk.2) (.int .i64 oB)) (fun _ hk => hk.2) (.slice oC mA.length co22)) (fun _ hk => hk.2) (.slice oD eA.length co23)) (fun _ h_ => h_.1))) hb); replace pB := Aside0.mk (Kd.R_below (by (with_reducible repeat (first | apply Kd.R_alloc | apply Kd.R_drewN | apply Kd.R_drew)); exact (Kd.R_mono (Kd.R_far (p := ⟨eB, 4, none⟩) (Kd.R_far (p := ⟨eB, 3, none⟩) (Kd.R_far (p := ⟨eB, 2, none⟩) (Kd.R_far (p := ⟨eB, 1, none⟩) (Kd.R_far (p := ⟨eB, 0, none⟩) (Kd.R_mono pB.out (fun k_ hk => (⟨hk, hk.2⟩ : _ ∧ k_ ≠ eB))) (fun _ hk => hk.2) (.int .i64 iX)) (fun _ hk => hk.2) (.int .i64 oA)) (fun _ hk => hk.2) (.int .i64 oB)) (fun _ hk => hk.2) (.slice oC mA.length co22)) (fun _ hk => hk.2) (.slice oD eA.length co23)) (fun _ h_ => h_.1))) hb); have Gx := Aside0.mk (Kd.R_lower ho0 (below_size zB)); replace dZ := Aside0.mk (blk_below (g := eR) zC hb); replace dT := Aside0.mk (blk_below (g := eB) (o := .cells #[.int .i64 iX, .int .i64 oA, .int .i64 oB, .slice oC mA.length co22, .slice oD eA.length co23] 31 (0, 0)) zC hb); replace HB := Aside0.mk (below_step (w := w) zB hb); clear hb ho0; obtain ⟨afJ, co25, eo25⟩ := Kd.R_slice Gx.out; subst eo25; obtain ⟨Di, Dj, Dk, Dl, Dm, Dn, Dp, Dq, Dr, Ds⟩ := cz5 dT.out))
   (try simp only [Act.put, List.setIfInBounds_toArray, List.set_cons_zero, List.set_cons_succ])
   go_loopg [44] kj3 (fun kq v44 w' => ∃ (bE : Int), v44 = .int .i64 bE ∧ Aside0 (bC.l0 bK bT kq a0 dF (dF.length : Int) bE nZ oL iW fO iX oA oB mA eA = some r) ∧ Aside0 (kq ≤ kj3) ∧ Aside0 (Kd.R k41 41 w' w.heap.size (fun _ => True) (.slice afJ dF.length co25) dF) ∧ Aside0 (Kd.R Kd.string 9 w' w.heap.size (fun _ => True) (.slice zW iW.length co8) iW) ∧ Aside0 (Kd.R k25 25 w' w.heap.size (fun k_ => some k_ ≠ ((.slice zW iW.length co8) : Value).ownBlock ∧ k_ ≠ eR) (.slice Gv fO.length co9) fO) ∧ Aside0 (Kd.R k93 93 w' w.heap.size (fun _ => True) (.slice oC mA.length co22) mA) ∧ Aside0 (Kd.R k31 31 w' w.heap.size (fun k_ => some k_ ≠ ((.slice oC mA.length co22) : Value).ownBlock ∧ k_ ≠ eB) (.slice oD eA.length co23) eA) ∧ Aside0 (w'.heap[eR]? = some (.cells #[.int .i64 nZ, .string oL, (.slice zW iW.length co8), (.slice Gv fO.length co9)] 25 (0, 0))) ∧ Aside0 (w'.heap[eB]? = some (.cells #[.int .i64 iX, .int .i64 oA, .int .i64 oB, (.slice oC mA.length co22), (.slice oD eA.length co23)] 31 (0, 0))) ∧ Aside0 (Below w.heap.size w w'))
   case atStart => exact ⟨(0), Z9, H', ⟨Nat.le_refl _⟩, ⟨by (with_reducible repeat (first | apply Kd.R_alloc | apply Kd.R_drewN | apply Kd.R_drew)); exact Gx.out⟩, ⟨Z59⟩, ⟨Z58⟩, ⟨by (with_reducible repeat (first | apply Kd.R_alloc | apply Kd.R_drewN | apply Kd.R_drew)); exact pA.out⟩, ⟨by (with_reducible repeat (first | apply Kd.R_alloc | apply Kd.R_drewN | apply Kd.R_drew)); exact pB.out⟩, ⟨zC⟩, ⟨zC⟩, ⟨zB⟩⟩
   case round =>
    clear H'
    try clear c17 qM xN Gw nF nG pF pG tI Di Dj Dk Dl Dm nH nI pH pI tJ Dn Dp Dq Dr Ds
    obtain ⟨bE, rfl, HA, HK2, kD, dH, dK, dU, cZ, dZ, dT, HB⟩ := hrel
    cases gk with
    | zero => exact absurd HA.out (by simp [bC.l0])
    | succ k2 =>
     have H := HA.out
     clear HA
     simp only [bC.l0] at H
     revert H; refine sId1_d0 (fun Gm H => ?_) fun Gm H => ?_
     ·revert H; refine sNd1 fun oW H => ?_
      revert H; refine sNd1 fun Kb H => ?_
      revert H; refine sNd1 fun xB H => ?_
      revert H; refine bnd ?_; rintro Mi A31 H
      replace H := sB H
      obtain ⟨rfl, H⟩ | ⟨rfl, H⟩ := H
      ·revert H; refine sIe1n0_e0n1 (fun qP Gn H => ?_) fun qP Gn H => ?_
       ·revert H; refine sNd1 fun Gp H => ?_
        revert H; refine sNe1n0 fun xJ xK H => ?_
        focus
         have H' := Aside0.mk H
         clear H
         try go_wp2
         replace kD := Aside0.mk (Kd.R_drew kD.out)
         replace dH := Aside0.mk (Kd.R_drew dH.out)
         replace dK := Aside0.mk (Kd.R_drew dK.out)
         replace dU := Aside0.mk (Kd.R_drew dU.out)
         replace cZ := Aside0.mk (Kd.R_drew cZ.out)
         replace dZ := Aside0.mk (blk_drew dZ.out)
         replace dT := Aside0.mk (blk_drew dT.out)
         replace HB := Aside0.mk (below_drew1 HB.out)
         have p463 : 0 ≤ (bE : Int) := of_decide_eq_true Z8
         have q463 : bE < (dF.length : Int) := of_decide_eq_true Z8
         obtain ⟨cO, e463, hx463_0, hx463_1, hx463_2, hx463_3, hx463_4, hx463_5, hx463_6, hx463_7, hx463_8, hx463_9⟩ := at_T41 (Kd.R_reads' kD.out).2.2 bE p463 q463
         cases e463
         replace p463 := eq_true p463
         replace q463 := eq_true q463
         have p464 : 0 ≤ (bE : Int) := of_decide_eq_true Z8
         have q464 : bE < (eA.length : Int) := of_decide_eq_true Z8
         obtain ⟨fW, A464_3, c464_3, A464_4, c464_4, e464, hx464_0, hx464_1, hx464_2, hx464_3, hx464_4, hl464_3, hi464_3, hl464_4, hi464_4⟩ := at_T31 (Kd.R_reads' cZ.out).2.2 bE p464 q464
         cases e464
         obtain ⟨ce464, hce464, hMe464, hcc464⟩ := Kd.R_get cZ.out z31 bE p464 (by first | exact q464 | exact of_decide_eq_true Z8 | (have e_ := (Kd.R_reads' cZ.out).1; omega))
         obtain ⟨ve464_3, ve464_4, rfl, ge464_3, ge464_4⟩ := k31_openM hMe464
         have hv464_3 := hcc464 3 _ rfl
         rw [add_field _ _ 3 (by omega)] at hv464_3
         replace hv464_3 := Option.some.inj (hv464_3.symm.trans hx464_3)
         rw [hv464_3] at ge464_3
         have HL464_3 := Aside0.mk (show Kd.R k93 93 _ _ _ _ ((rd_T31 eA bE).f3) from ge464_3)
         clear hv464_3 ge464_3
         have hv464_4 := hcc464 4 _ rfl
         rw [add_field _ _ 4 (by omega)] at hv464_4
         replace hv464_4 := Option.some.inj (hv464_4.symm.trans hx464_4)
         rw [hv464_4] at ge464_4
         have HL464_4 := Aside0.mk (show Kd.R k31 31 _ _ _ _ ((rd_T31 eA bE).f4) from ge464_4)
         clear hv464_4 ge464_4
         clear hcc464 hce464
         have jQ := Aside0.mk hi464_3
         have HC464_3 := Aside0.mk hl464_3
         clear hi464_3 hl464_3
         have jR := Aside0.mk hi464_4
         have HC464_4 := Aside0.mk hl464_4
         clear hi464_4 hl464_4
         replace p464 := eq_true p464
         replace q464 := eq_true q464
         have p466 : 0 ≤ (bE : Int) := of_decide_eq_true Z8
         have q466 : bE < (dF.length : Int) := of_decide_eq_true Z8
         obtain ⟨Mj, e466, hx466_0, hx466_1, hx466_2, hx466_3, hx466_4, hx466_5, hx466_6, hx466_7, hx466_8, hx466_9⟩ := at_T41 (Kd.R_reads' kD.out).2.2 bE p466 q466
         obtain rfl : cO = Mj := (by injection e466)
         replace p466 := eq_true p466
         replace q466 := eq_true q466
         have p467 : 0 ≤ (bE : Int) := of_decide_eq_true Z8
         have q467 : bE < (iW.length : Int) := of_decide_eq_true Z8
         obtain ⟨Gy, e467, hx467_0⟩ := Kd.at_string (Kd.R_reads' dH.out).2.2 bE p467 q467
         cases e467
         replace p467 := eq_true p467
         replace q467 := eq_true q467
         refine st1 32 [] (S := fun w' => G5 w' eB (.int .i64 iX) (.int .i64 oA) (.int .i64 oB) (.slice oC mA.length co22) (.slice (some fW) eA.length co23) (G4 w' eR (.int .i64 nZ) (.string oL) (.slice (some Gy) iW.length co8) (.slice Gv fO.length co9) (w'.cell? (cO.add ((bE).toNat * 10)) = some (.int .i64 ((rd_T41 dF bE).f0.f0)) ∧ w'.cell? ⟨(cO.add ((bE).toNat * 10)).block, (cO.add ((bE).toNat * 10)).off + 1, none⟩ = some (.string ((rd_T41 dF bE).f0.f1)) ∧ w'.cell? ⟨(cO.add ((bE).toNat * 10)).block, (cO.add ((bE).toNat * 10)).off + 2, none⟩ = some (.string ((rd_T41 dF bE).f0.f2)) ∧ w'.cell? ⟨(cO.add ((bE).toNat * 10)).block, (cO.add ((bE).toNat * 10)).off + 3, none⟩ = some (.float .f64 ((rd_T41 dF bE).f0.f3)) ∧ w'.cell? ⟨(cO.add ((bE).toNat * 10)).block, (cO.add ((bE).toNat * 10)).off + 4, none⟩ = some (.bool ((rd_T41 dF bE).f0.f4)) ∧ w'.cell? ⟨(cO.add ((bE).toNat * 10)).block, (cO.add ((bE).toNat * 10)).off + 5, none⟩ = some (.int .i64 ((rd_T41 dF bE).f1.f0)) ∧ w'.cell? ⟨(cO.add ((bE).toNat * 10)).block, (cO.add ((bE).toNat * 10)).off + 6, none⟩ = some (.string ((rd_T41 dF bE).f1.f1)) ∧ w'.cell? ⟨(cO.add ((bE).toNat * 10)).block, (cO.add ((bE).toNat * 10)).off + 7, none⟩ = some (.string ((rd_T41 dF bE).f1.f2)) ∧ w'.cell? ⟨(cO.add ((bE).toNat * 10)).block, (cO.add ((bE).toNat * 10)).off + 8, none⟩ = some (.float .f64 ((rd_T41 dF bE).f1.f3)) ∧ w'.cell? ⟨(cO.add ((bE).toNat * 10)).block, (cO.add ((bE).toNat * 10)).off + 9, none⟩ = some (.bool ((rd_T41 dF bE).f1.f4)) ∧ w'.cell? (fW.add ((bE).toNat * 5)) = some (.int .i64 ((rd_T31 eA bE).f0)) ∧ w'.cell? ⟨(fW.add ((bE).toNat * 5)).block, (fW.add ((bE).toNat * 5)).off + 1, none⟩ = some (.int .i64 ((rd_T31 eA bE).f1)) ∧ w'.cell? ⟨(fW.add ((bE).toNat * 5)).block, (fW.add ((bE).toNat * 5)).off + 2, none⟩ = some (.int .i64 ((rd_T31 eA bE).f2)) ∧ w'.cell? ⟨(fW.add ((bE).toNat * 5)).block, (fW.add ((bE).toNat * 5)).off + 3, none⟩ = some (.slice A464_3 ((rd_T31 eA bE).f3).length c464_3) ∧ w'.cell? ⟨(fW.add ((bE).toNat * 5)).block, (fW.add ((bE).toNat * 5)).off + 4, none⟩ = some (.slice A464_4 ((rd_T31 eA bE).f4).length c464_4) ∧ w'.cell? (cO.add ((bE).toNat * 10)) = some (.int .i64 ((rd_T41 dF bE).f0.f0)) ∧ w'.cell? ⟨(cO.add ((bE).toNat * 10)).block, (cO.add ((bE).toNat * 10)).off + 1, none⟩ = some (.string ((rd_T41 dF bE).f0.f1)) ∧ w'.cell? ⟨(cO.add ((bE).toNat * 10)).block, (cO.add ((bE).toNat * 10)).off + 2, none⟩ = some (.string ((rd_T41 dF bE).f0.f2)) ∧ w'.cell? ⟨(cO.add ((bE).toNat * 10)).block, (cO.add ((bE).toNat * 10)).off + 3, none⟩ = some (.float .f64 ((rd_T41 dF bE).f0.f3)) ∧ w'.cell? ⟨(cO.add ((bE).toNat * 10)).block, (cO.add ((bE).toNat * 10)).off + 4, none⟩ = some (.bool ((rd_T41 dF bE).f0.f4)) ∧ w'.cell? ⟨(cO.add ((bE).toNat * 10)).block, (cO.add ((bE).toNat * 10)).off + 5, none⟩ = some (.int .i64 ((rd_T41 dF bE).f1.f0)) ∧ w'.cell? ⟨(cO.add ((bE).toNat * 10)).block, (cO.add ((bE).toNat * 10)).off + 6, none⟩ = some (.string ((rd_T41 dF bE).f1.f1)) ∧ w'.cell? ⟨(cO.add ((bE).toNat * 10)).block, (cO.add ((bE).toNat * 10)).off + 7, none⟩ = some (.string ((rd_T41 dF bE).f1.f2)) ∧ w'.cell? ⟨(cO.add ((bE).toNat * 10)).block, (cO.add ((bE).toNat * 10)).off + 8, none⟩ = some (.float .f64 ((rd_T41 dF bE).f1.f3)) ∧ w'.cell? ⟨(cO.add ((bE).toNat * 10)).block, (cO.add ((bE).toNat * 10)).off + 9, none⟩ = some (.bool ((rd_T41 dF bE).f1.f4)) ∧ w'.cell? (Gy.add (bE).toNat) = some (.string (rdOf ByteArray.empty iW bE))))) (hS := ⟨(blk_cell dT.out 0).trans rfl, (blk_cell dT.out 1).trans rfl, (blk_cell dT.out 2).trans rfl, (blk_cell dT.out 3).trans rfl, (blk_cell dT.out 4).trans rfl, (blk_cell dZ.out 0).trans rfl, (blk_cell dZ.out 1).trans rfl, (blk_cell dZ.out 2).trans rfl, (blk_cell dZ.out 3).trans rfl, hx463_0, hx463_1, hx463_2, hx463_3, hx463_4, hx463_5, hx463_6, hx463_7, hx463_8, hx463_9, hx464_0, hx464_1, hx464_2, hx464_3, hx464_4, hx466_0, hx466_1, hx466_2, hx466_3, hx466_4, hx466_5, hx466_6, hx466_7, hx466_8, hx466_9, hx467_0⟩) (fun hHeld => ?_); refine with_tabW bC.tab13 bC.bits13 (fun HT_ HW_ => ?_)
         generalize wr.drew = w36 at kD dH dK dU cZ dZ dT HB HL464_3 HL464_4 jQ jR hx463_0 hx463_1 hx463_2 hx463_3 hx463_4 hx463_5 hx463_6 hx463_7 hx463_8 hx463_9 hx464_0 hx464_1 hx464_2 hx464_3 hx464_4 hx466_0 hx466_1 hx466_2 hx466_3 hx466_4 hx466_5 hx466_6 hx466_7 hx466_8 hx466_9 hx467_0 hHeld ⊢
         refine pz 0 47 ?_
         refine pz 1 48 ?_
         refine pz 2 49 ?_
         refine pz 3 50 ?_
         refine pz 5 52 ?_
         refine pz 6 53 ?_
         refine pz 8 55 ?_
         refine tk35 4 51 ?_
         refine tk35 7 54 ?_
         refine pz 9 56 ?_
         refine tk35 10 57 ?_
         refine on1 11 (some 58) fun K hK => ?_
         refine goes_ Tryz.func9 (by kernel_rfl) rfl #[.agg #[.int .i64 ((rd_T41 dF bE).f1.f0), .string ((rd_T41 dF bE).f1.f1), .string ((rd_T41 dF bE).f1.f2), .float .f64 ((rd_T41 dF bE).f1.f3), .bool ((rd_T41 dF bE).f1.f4)], .string a0, .agg #[.int .i64 ((rd_T31 eA bE).f0), .int .i64 ((rd_T31 eA bE).f1), .int .i64 ((rd_T31 eA bE).f2), .slice A464_3 ((rd_T31 eA bE).f3).length c464_3, .slice A464_4 ((rd_T31 eA bE).f4).length c464_4]] (by rfl) rfl rfl Z28 ?_
         with_reducible refine (bZ.calls k2 ((rd_T41 dF bE).f1.f0) ((rd_T41 dF bE).f1.f1) ((rd_T41 dF bE).f1.f2) ((rd_T41 dF bE).f1.f3) ((rd_T41 dF bE).f1.f4) a0 ((rd_T31 eA bE).f0) ((rd_T31 eA bE).f1) ((rd_T31 eA bE).f2) _ _ ((rd_T31 eA bE).f3) _ _ ((rd_T31 eA bE).f4) true _ ?side1 ?side2 ?side3 ?side4 A31.out).mono ?_
         (case side1 => repeat (first | exact Z38 | (with_reducible refine Kd.C_alloc ?_ _) | (with_reducible refine Kd.C_drewN ?_ _) | (with_reducible refine Kd.C_drew ?_)))
         (case side2 => exact HC464_3.out)
         (case side3 => repeat (first | exact Z37 | (with_reducible refine Kd.C_alloc ?_ _) | (with_reducible refine Kd.C_drewN ?_ _) | (with_reducible refine Kd.C_drew ?_)))
         (case side4 => exact HC464_4.out)
         rintro e w37 ⟨rfl, hb⟩
         have Ia := (hb.cell (World.block_lt_of_cell? _ _ (hHeld.2.2.2.2.2.2.2.2.2.1))).trans (hHeld.2.2.2.2.2.2.2.2.2.1)
         have xY := (hb.cell (World.block_lt_of_cell? _ _ (hHeld.2.2.2.2.2.2.2.2.2.2.1))).trans (hHeld.2.2.2.2.2.2.2.2.2.2.1)
         have xZ := (hb.cell (World.block_lt_of_cell? _ _ (hHeld.2.2.2.2.2.2.2.2.2.2.2.1))).trans (hHeld.2.2.2.2.2.2.2.2.2.2.2.1)
         have yA := (hb.cell (World.block_lt_of_cell? _ _ (hHeld.2.2.2.2.2.2.2.2.2.2.2.2.1))).trans (hHeld.2.2.2.2.2.2.2.2.2.2.2.2.1)
         have yB := (hb.cell (World.block_lt_of_cell? _ _ (hHeld.2.2.2.2.2.2.2.2.2.2.2.2.2.1))).trans (hHeld.2.2.2.2.2.2.2.2.2.2.2.2.2.1)
         have yC := (hb.cell (World.block_lt_of_cell? _ _ (hHeld.2.2.2.2.2.2.2.2.2.2.2.2.2.2.1))).trans (hHeld.2.2.2.2.2.2.2.2.2.2.2.2.2.2.1)
         have yD := (hb.cell (World.block_lt_of_cell? _ _ (hHeld.2.2.2.2.2.2.2.2.2.2.2.2.2.2.2.1))).trans (hHeld.2.2.2.2.2.2.2.2.2.2.2.2.2.2.2.1)
         have yE := (hb.cell (World.block_lt_of_cell? _ _ (hHeld.2.2.2.2.2.2.2.2.2.2.2.2.2.2.2.2.1))).trans (hHeld.2.2.2.2.2.2.2.2.2.2.2.2.2.2.2.2.1)
         have yF := (hb.cell (World.block_lt_of_cell? _ _ (hHeld.2.2.2.2.2.2.2.2.2.2.2.2.2.2.2.2.2.1))).trans (hHeld.2.2.2.2.2.2.2.2.2.2.2.2.2.2.2.2.2.1)
         have yG := (hb.cell (World.block_lt_of_cell? _ _ (hHeld.2.2.2.2.2.2.2.2.2.2.2.2.2.2.2.2.2.2.1))).trans (hHeld.2.2.2.2.2.2.2.2.2.2.2.2.2.2.2.2.2.2.1)
         have yH := (hb.cell (World.block_lt_of_cell? _ _ (hHeld.2.2.2.2.2.2.2.2.2.2.2.2.2.2.2.2.2.2.2.1))).trans (hHeld.2.2.2.2.2.2.2.2.2.2.2.2.2.2.2.2.2.2.2.1)
         have yI := (hb.cell (World.block_lt_of_cell? _ _ (hHeld.2.2.2.2.2.2.2.2.2.2.2.2.2.2.2.2.2.2.2.2.1))).trans (hHeld.2.2.2.2.2.2.2.2.2.2.2.2.2.2.2.2.2.2.2.2.1)
         have yJ := (hb.cell (World.block_lt_of_cell? _ _ (hHeld.2.2.2.2.2.2.2.2.2.2.2.2.2.2.2.2.2.2.2.2.2.1))).trans (hHeld.2.2.2.2.2.2.2.2.2.2.2.2.2.2.2.2.2.2.2.2.2.1)
         have yK := (hb.cell (World.block_lt_of_cell? _ _ (hHeld.2.2.2.2.2.2.2.2.2.2.2.2.2.2.2.2.2.2.2.2.2.2.1))).trans (hHeld.2.2.2.2.2.2.2.2.2.2.2.2.2.2.2.2.2.2.2.2.2.2.1)
         have yL := (hb.cell (World.block_lt_of_cell? _ _ (hHeld.2.2.2.2.2.2.2.2.2.2.2.2.2.2.2.2.2.2.2.2.2.2.2.1))).trans (hHeld.2.2.2.2.2.2.2.2.2.2.2.2.2.2.2.2.2.2.2.2.2.2.2.1)
         have Mk := (hb.cell (World.block_lt_of_cell? _ _ (hHeld.2.2.2.2.2.2.2.2.2.2.2.2.2.2.2.2.2.2.2.2.2.2.2.2.1))).trans (hHeld.2.2.2.2.2.2.2.2.2.2.2.2.2.2.2.2.2.2.2.2.2.2.2.2.1)
         have Ml := (hb.cell (World.block_lt_of_cell? _ _ (hHeld.2.2.2.2.2.2.2.2.2.2.2.2.2.2.2.2.2.2.2.2.2.2.2.2.2.1))).trans (hHeld.2.2.2.2.2.2.2.2.2.2.2.2.2.2.2.2.2.2.2.2.2.2.2.2.2.1)
         have Mm := (hb.cell (World.block_lt_of_cell? _ _ (hHeld.2.2.2.2.2.2.2.2.2.2.2.2.2.2.2.2.2.2.2.2.2.2.2.2.2.2.1))).trans (hHeld.2.2.2.2.2.2.2.2.2.2.2.2.2.2.2.2.2.2.2.2.2.2.2.2.2.2.1)
         have Mo := (hb.cell (World.block_lt_of_cell? _ _ (hHeld.2.2.2.2.2.2.2.2.2.2.2.2.2.2.2.2.2.2.2.2.2.2.2.2.2.2.2.1))).trans (hHeld.2.2.2.2.2.2.2.2.2.2.2.2.2.2.2.2.2.2.2.2.2.2.2.2.2.2.2.1)
         have Mp := (hb.cell (World.block_lt_of_cell? _ _ (hHeld.2.2.2.2.2.2.2.2.2.2.2.2.2.2.2.2.2.2.2.2.2.2.2.2.2.2.2.2.1))).trans (hHeld.2.2.2.2.2.2.2.2.2.2.2.2.2.2.2.2.2.2.2.2.2.2.2.2.2.2.2.2.1)
         have Mq := (hb.cell (World.block_lt_of_cell? _ _ (hHeld.2.2.2.2.2.2.2.2.2.2.2.2.2.2.2.2.2.2.2.2.2.2.2.2.2.2.2.2.2.1))).trans (hHeld.2.2.2.2.2.2.2.2.2.2.2.2.2.2.2.2.2.2.2.2.2.2.2.2.2.2.2.2.2.1)
         have Mr := (hb.cell (World.block_lt_of_cell? _ _ (hHeld.2.2.2.2.2.2.2.2.2.2.2.2.2.2.2.2.2.2.2.2.2.2.2.2.2.2.2.2.2.2.1))).trans (hHeld.2.2.2.2.2.2.2.2.2.2.2.2.2.2.2.2.2.2.2.2.2.2.2.2.2.2.2.2.2.2.1)
         have Ms := (hb.cell (World.block_lt_of_cell? _ _ (hHeld.2.2.2.2.2.2.2.2.2.2.2.2.2.2.2.2.2.2.2.2.2.2.2.2.2.2.2.2.2.2.2.1))).trans (hHeld.2.2.2.2.2.2.2.2.2.2.2.2.2.2.2.2.2.2.2.2.2.2.2.2.2.2.2.2.2.2.2.1)
         have Mt := (hb.cell (World.block_lt_of_cell? _ _ (hHeld.2.2.2.2.2.2.2.2.2.2.2.2.2.2.2.2.2.2.2.2.2.2.2.2.2.2.2.2.2.2.2.2.1))).trans (hHeld.2.2.2.2.2.2.2.2.2.2.2.2.2.2.2.2.2.2.2.2.2.2.2.2.2.2.2.2.2.2.2.2.1)
         have Mu := (hb.cell (World.block_lt_of_cell? _ _ (hHeld.2.2.2.2.2.2.2.2.2.2.2.2.2.2.2.2.2.2.2.2.2.2.2.2.2.2.2.2.2.2.2.2.2.1))).trans (hHeld.2.2.2.2.2.2.2.2.2.2.2.2.2.2.2.2.2.2.2.2.2.2.2.2.2.2.2.2.2.2.2.2.2.1)
         have Mv := (hb.cell (World.block_lt_of_cell? _ _ (hHeld.2.2.2.2.2.2.2.2.2.2.2.2.2.2.2.2.2.2.2.2.2.2.2.2.2.2.2.2.2.2.2.2.2.2))).trans (hHeld.2.2.2.2.2.2.2.2.2.2.2.2.2.2.2.2.2.2.2.2.2.2.2.2.2.2.2.2.2.2.2.2.2.2)
         refine ⟨_, rfl, ?_⟩
         replace kD := Aside0.mk (Kd.R_below (by (with_reducible repeat (first | apply Kd.R_alloc | apply Kd.R_drewN | apply Kd.R_drew)); exact kD.out) hb)
         replace dH := Aside0.mk (Kd.R_below Z54 hb)
         replace dK := Aside0.mk (Kd.R_below Z53 hb)
         replace dU := Aside0.mk (Kd.R_below (by (with_reducible repeat (first | apply Kd.R_alloc | apply Kd.R_drewN | apply Kd.R_drew)); exact dU.out) hb)
         replace cZ := Aside0.mk (Kd.R_below (by (with_reducible repeat (first | apply Kd.R_alloc | apply Kd.R_drewN | apply Kd.R_drew)); exact cZ.out) hb)
         replace HL464_3 := Aside0.mk (Kd.R_below (by (with_reducible repeat (first | apply Kd.R_alloc | apply Kd.R_drewN | apply Kd.R_drew)); exact HL464_3.out) hb)
         replace HL464_4 := Aside0.mk (Kd.R_below (by (with_reducible repeat (first | apply Kd.R_alloc | apply Kd.R_drewN | apply Kd.R_drew)); exact HL464_4.out) hb)
         replace dZ := Aside0.mk (blk_below (g := eR) zC hb)
         replace dT := Aside0.mk (blk_below (g := eB) zC hb)
         replace jQ := Aside0.mk (Kd.C_below Z38 hb)
         replace jR := Aside0.mk (Kd.C_below Z37 hb)
         replace HB := Aside0.mk (below_step (w := w) zB hb)
         try clear hb hk
         refine hK.out _ _ ⟨(blk_cell dT.out 0).trans rfl, (blk_cell dT.out 1).trans rfl, (blk_cell dT.out 2).trans rfl, (blk_cell dT.out 3).trans rfl, (blk_cell dT.out 4).trans rfl, (blk_cell dZ.out 0).trans rfl, (blk_cell dZ.out 1).trans rfl, (blk_cell dZ.out 2).trans rfl, (blk_cell dZ.out 3).trans rfl, Ia, xY, xZ, yA, yB, yC, yD, yE, yF, yG, yH, yI, yJ, yK, yL, Mk, Ml, Mm, Mo, Mp, Mq, Mr, Ms, Mt, Mu, Mv⟩ (fun hHeld => ?_)
         clear hK K
         refine nz (N := some 58) ?_
         refine pz 12 59 ?_
         refine pz 13 60 ?_
         refine pz 14 61 ?_
         refine tk35 15 62 ?_
         refine pz 16 63 ?_
         refine pz 17 64 ?_
         refine pz 18 65 ?_
         refine pz 19 66 ?_
         refine pz 20 67 ?_
         refine pz 21 68 ?_
         refine pz 22 69 ?_
         refine pz 24 71 ?_
         refine pz 26 73 ?_
         refine tk35 23 70 ?_
         refine tk35 25 72 ?_
         refine pz 27 74 ?_
         refine tk35 28 75 ?_
         refine pz 29 76 ?_
         refine pz 30 77 ?_
         refine pz 31 78 ?_
         refine dn1 ?_
         try go_wp2
         go_roundg k2
         case measure => have := HJ3.out; have := HK2.out; omega
         case rel => exact ⟨(wrap64 (bE + 1)), Z9, H', ⟨by have := HJ3.out; have := HK2.out; omega⟩, ⟨by (with_reducible repeat (first | apply Kd.R_alloc | apply Kd.R_drewN | apply Kd.R_drew)); first | exact kD.out | exact Kd.V_len kD.out⟩, ⟨Z59⟩, ⟨Z58⟩, ⟨by (with_reducible repeat (first | apply Kd.R_alloc | apply Kd.R_drewN | apply Kd.R_drew)); first | exact dU.out | exact Kd.V_len dU.out⟩, ⟨by (with_reducible repeat (first | apply Kd.R_alloc | apply Kd.R_drewN | apply Kd.R_drew)); first | exact cZ.out | exact Kd.V_len cZ.out⟩, ⟨zC⟩, ⟨zC⟩, ⟨zB⟩⟩
       focus
        have H' := Aside0.mk H
        clear H
        try go_wp2
        replace kD := Aside0.mk (Kd.R_drew kD.out)
        replace dH := Aside0.mk (Kd.R_drew dH.out)
        replace dK := Aside0.mk (Kd.R_drew dK.out)
        replace dU := Aside0.mk (Kd.R_drew dU.out)
        replace cZ := Aside0.mk (Kd.R_drew cZ.out)
        replace dZ := Aside0.mk (blk_drew dZ.out)
        replace dT := Aside0.mk (blk_drew dT.out)
        replace HB := Aside0.mk (below_drew1 HB.out)
        have p463 : 0 ≤ (bE : Int) := of_decide_eq_true Z8
        have q463 : bE < (dF.length : Int) := of_decide_eq_true Z8
        obtain ⟨cO, e463, hx463_0, hx463_1, hx463_2, hx463_3, hx463_4, hx463_5, hx463_6, hx463_7, hx463_8, hx463_9⟩ := at_T41 (Kd.R_reads' kD.out).2.2 bE p463 q463
        cases e463
        replace p463 := eq_true p463
        replace q463 := eq_true q463
        have p464 : 0 ≤ (bE : Int) := of_decide_eq_true Z8
        have q464 : bE < (eA.length : Int) := of_decide_eq_true Z8
        obtain ⟨fW, A464_3, c464_3, A464_4, c464_4, e464, hx464_0, hx464_1, hx464_2, hx464_3, hx464_4, hl464_3, hi464_3, hl464_4, hi464_4⟩ := at_T31 (Kd.R_reads' cZ.out).2.2 bE p464 q464
        cases e464
        obtain ⟨ce464, hce464, hMe464, hcc464⟩ := Kd.R_get cZ.out z31 bE p464 (by first | exact q464 | exact of_decide_eq_true Z8 | (have e_ := (Kd.R_reads' cZ.out).1; omega))
        obtain ⟨ve464_3, ve464_4, rfl, ge464_3, ge464_4⟩ := k31_openM hMe464
        have hv464_3 := hcc464 3 _ rfl
        rw [add_field _ _ 3 (by omega)] at hv464_3
        replace hv464_3 := Option.some.inj (hv464_3.symm.trans hx464_3)
        rw [hv464_3] at ge464_3
        have HL464_3 := Aside0.mk (show Kd.R k93 93 _ _ _ _ ((rd_T31 eA bE).f3) from ge464_3)
        clear hv464_3 ge464_3
        have hv464_4 := hcc464 4 _ rfl
        rw [add_field _ _ 4 (by omega)] at hv464_4
        replace hv464_4 := Option.some.inj (hv464_4.symm.trans hx464_4)
        rw [hv464_4] at ge464_4
        have HL464_4 := Aside0.mk (show Kd.R k31 31 _ _ _ _ ((rd_T31 eA bE).f4) from ge464_4)
        clear hv464_4 ge464_4
        clear hcc464 hce464
        have jQ := Aside0.mk hi464_3
        have HC464_3 := Aside0.mk hl464_3
        clear hi464_3 hl464_3
        have jR := Aside0.mk hi464_4
        have HC464_4 := Aside0.mk hl464_4
        clear hi464_4 hl464_4
        replace p464 := eq_true p464
        replace q464 := eq_true q464
        refine st1 32 [] (S := fun w' => G5 w' eB (.int .i64 iX) (.int .i64 oA) (.int .i64 oB) (.slice oC mA.length co22) (.slice (some fW) eA.length co23) (G4 w' eR (.int .i64 nZ) (.string oL) (.slice zW iW.length co8) (.slice Gv fO.length co9) (w'.cell? (cO.add ((bE).toNat * 10)) = some (.int .i64 ((rd_T41 dF bE).f0.f0)) ∧ w'.cell? ⟨(cO.add ((bE).toNat * 10)).block, (cO.add ((bE).toNat * 10)).off + 1, none⟩ = some (.string ((rd_T41 dF bE).f0.f1)) ∧ w'.cell? ⟨(cO.add ((bE).toNat * 10)).block, (cO.add ((bE).toNat * 10)).off + 2, none⟩ = some (.string ((rd_T41 dF bE).f0.f2)) ∧ w'.cell? ⟨(cO.add ((bE).toNat * 10)).block, (cO.add ((bE).toNat * 10)).off + 3, none⟩ = some (.float .f64 ((rd_T41 dF bE).f0.f3)) ∧ w'.cell? ⟨(cO.add ((bE).toNat * 10)).block, (cO.add ((bE).toNat * 10)).off + 4, none⟩ = some (.bool ((rd_T41 dF bE).f0.f4)) ∧ w'.cell? ⟨(cO.add ((bE).toNat * 10)).block, (cO.add ((bE).toNat * 10)).off + 5, none⟩ = some (.int .i64 ((rd_T41 dF bE).f1.f0)) ∧ w'.cell? ⟨(cO.add ((bE).toNat * 10)).block, (cO.add ((bE).toNat * 10)).off + 6, none⟩ = some (.string ((rd_T41 dF bE).f1.f1)) ∧ w'.cell? ⟨(cO.add ((bE).toNat * 10)).block, (cO.add ((bE).toNat * 10)).off + 7, none⟩ = some (.string ((rd_T41 dF bE).f1.f2)) ∧ w'.cell? ⟨(cO.add ((bE).toNat * 10)).block, (cO.add ((bE).toNat * 10)).off + 8, none⟩ = some (.float .f64 ((rd_T41 dF bE).f1.f3)) ∧ w'.cell? ⟨(cO.add ((bE).toNat * 10)).block, (cO.add ((bE).toNat * 10)).off + 9, none⟩ = some (.bool ((rd_T41 dF bE).f1.f4)) ∧ w'.cell? (fW.add ((bE).toNat * 5)) = some (.int .i64 ((rd_T31 eA bE).f0)) ∧ w'.cell? ⟨(fW.add ((bE).toNat * 5)).block, (fW.add ((bE).toNat * 5)).off + 1, none⟩ = some (.int .i64 ((rd_T31 eA bE).f1)) ∧ w'.cell? ⟨(fW.add ((bE).toNat * 5)).block, (fW.add ((bE).toNat * 5)).off + 2, none⟩ = some (.int .i64 ((rd_T31 eA bE).f2)) ∧ w'.cell? ⟨(fW.add ((bE).toNat * 5)).block, (fW.add ((bE).toNat * 5)).off + 3, none⟩ = some (.slice A464_3 ((rd_T31 eA bE).f3).length c464_3) ∧ w'.cell? ⟨(fW.add ((bE).toNat * 5)).block, (fW.add ((bE).toNat * 5)).off + 4, none⟩ = some (.slice A464_4 ((rd_T31 eA bE).f4).length c464_4)))) (hS := ⟨(blk_cell dT.out 0).trans rfl, (blk_cell dT.out 1).trans rfl, (blk_cell dT.out 2).trans rfl, (blk_cell dT.out 3).trans rfl, (blk_cell dT.out 4).trans rfl, (blk_cell dZ.out 0).trans rfl, (blk_cell dZ.out 1).trans rfl, (blk_cell dZ.out 2).trans rfl, (blk_cell dZ.out 3).trans rfl, hx463_0, hx463_1, hx463_2, hx463_3, hx463_4, hx463_5, hx463_6, hx463_7, hx463_8, hx463_9, hx464_0, hx464_1, hx464_2, hx464_3, hx464_4⟩) (fun hHeld => ?_); refine with_tabW bC.tab13 bC.bits13 (fun HT_ HW_ => ?_)
        generalize wr.drew = w38 at kD dH dK dU cZ dZ dT HB HL464_3 HL464_4 jQ jR hx463_0 hx463_1 hx463_2 hx463_3 hx463_4 hx463_5 hx463_6 hx463_7 hx463_8 hx463_9 hx464_0 hx464_1 hx464_2 hx464_3 hx464_4 hHeld ⊢
        refine pz 0 47 ?_
        refine pz 1 48 ?_
        refine pz 2 49 ?_
        refine pz 3 50 ?_
        refine pz 5 52 ?_
        refine pz 6 53 ?_
        refine pz 8 55 ?_
        refine tk24 4 51 ?_
        refine tk24 7 54 ?_
        refine pz 9 56 ?_
        refine tk24 10 57 ?_
        refine on1 11 (some 58) fun K hK => ?_
        refine goes_ Tryz.func9 (by kernel_rfl) rfl #[.agg #[.int .i64 ((rd_T41 dF bE).f1.f0), .string ((rd_T41 dF bE).f1.f1), .string ((rd_T41 dF bE).f1.f2), .float .f64 ((rd_T41 dF bE).f1.f3), .bool ((rd_T41 dF bE).f1.f4)], .string a0, .agg #[.int .i64 ((rd_T31 eA bE).f0), .int .i64 ((rd_T31 eA bE).f1), .int .i64 ((rd_T31 eA bE).f2), .slice A464_3 ((rd_T31 eA bE).f3).length c464_3, .slice A464_4 ((rd_T31 eA bE).f4).length c464_4]] (by rfl) rfl rfl Z28 ?_
        with_reducible refine (bZ.calls k2 ((rd_T41 dF bE).f1.f0) ((rd_T41 dF bE).f1.f1) ((rd_T41 dF bE).f1.f2) ((rd_T41 dF bE).f1.f3) ((rd_T41 dF bE).f1.f4) a0 ((rd_T31 eA bE).f0) ((rd_T31 eA bE).f1) ((rd_T31 eA bE).f2) _ _ ((rd_T31 eA bE).f3) _ _ ((rd_T31 eA bE).f4) true _ ?side1 ?side2 ?side3 ?side4 A31.out).mono ?_
        (case side1 => repeat (first | exact Z38 | (with_reducible refine Kd.C_alloc ?_ _) | (with_reducible refine Kd.C_drewN ?_ _) | (with_reducible refine Kd.C_drew ?_)))
        (case side2 => exact HC464_3.out)
        (case side3 => repeat (first | exact Z37 | (with_reducible refine Kd.C_alloc ?_ _) | (with_reducible refine Kd.C_drewN ?_ _) | (with_reducible refine Kd.C_drew ?_)))
        (case side4 => exact HC464_4.out)
        rintro e w39 ⟨rfl, hb⟩
        have Ia := (hb.cell (World.block_lt_of_cell? _ _ (hHeld.2.2.2.2.2.2.2.2.2.1))).trans (hHeld.2.2.2.2.2.2.2.2.2.1)
        have xY := (hb.cell (World.block_lt_of_cell? _ _ (hHeld.2.2.2.2.2.2.2.2.2.2.1))).trans (hHeld.2.2.2.2.2.2.2.2.2.2.1)
        have xZ := (hb.cell (World.block_lt_of_cell? _ _ (hHeld.2.2.2.2.2.2.2.2.2.2.2.1))).trans (hHeld.2.2.2.2.2.2.2.2.2.2.2.1)
        have yA := (hb.cell (World.block_lt_of_cell? _ _ (hHeld.2.2.2.2.2.2.2.2.2.2.2.2.1))).trans (hHeld.2.2.2.2.2.2.2.2.2.2.2.2.1)
        have yB := (hb.cell (World.block_lt_of_cell? _ _ (hHeld.2.2.2.2.2.2.2.2.2.2.2.2.2.1))).trans (hHeld.2.2.2.2.2.2.2.2.2.2.2.2.2.1)
        have yC := (hb.cell (World.block_lt_of_cell? _ _ (hHeld.2.2.2.2.2.2.2.2.2.2.2.2.2.2.1))).trans (hHeld.2.2.2.2.2.2.2.2.2.2.2.2.2.2.1)
        have yD := (hb.cell (World.block_lt_of_cell? _ _ (hHeld.2.2.2.2.2.2.2.2.2.2.2.2.2.2.2.1))).trans (hHeld.2.2.2.2.2.2.2.2.2.2.2.2.2.2.2.1)
        have yE := (hb.cell (World.block_lt_of_cell? _ _ (hHeld.2.2.2.2.2.2.2.2.2.2.2.2.2.2.2.2.1))).trans (hHeld.2.2.2.2.2.2.2.2.2.2.2.2.2.2.2.2.1)
        have yF := (hb.cell (World.block_lt_of_cell? _ _ (hHeld.2.2.2.2.2.2.2.2.2.2.2.2.2.2.2.2.2.1))).trans (hHeld.2.2.2.2.2.2.2.2.2.2.2.2.2.2.2.2.2.1)
        have yG := (hb.cell (World.block_lt_of_cell? _ _ (hHeld.2.2.2.2.2.2.2.2.2.2.2.2.2.2.2.2.2.2.1))).trans (hHeld.2.2.2.2.2.2.2.2.2.2.2.2.2.2.2.2.2.2.1)
        have yH := (hb.cell (World.block_lt_of_cell? _ _ (hHeld.2.2.2.2.2.2.2.2.2.2.2.2.2.2.2.2.2.2.2.1))).trans (hHeld.2.2.2.2.2.2.2.2.2.2.2.2.2.2.2.2.2.2.2.1)
        have yI := (hb.cell (World.block_lt_of_cell? _ _ (hHeld.2.2.2.2.2.2.2.2.2.2.2.2.2.2.2.2.2.2.2.2.1))).trans (hHeld.2.2.2.2.2.2.2.2.2.2.2.2.2.2.2.2.2.2.2.2.1)
        have yJ := (hb.cell (World.block_lt_of_cell? _ _ (hHeld.2.2.2.2.2.2.2.2.2.2.2.2.2.2.2.2.2.2.2.2.2.1))).trans (hHeld.2.2.2.2.2.2.2.2.2.2.2.2.2.2.2.2.2.2.2.2.2.1)
        have yK := (hb.cell (World.block_lt_of_cell? _ _ (hHeld.2.2.2.2.2.2.2.2.2.2.2.2.2.2.2.2.2.2.2.2.2.2.1))).trans (hHeld.2.2.2.2.2.2.2.2.2.2.2.2.2.2.2.2.2.2.2.2.2.2.1)
        have yL := (hb.cell (World.block_lt_of_cell? _ _ (hHeld.2.2.2.2.2.2.2.2.2.2.2.2.2.2.2.2.2.2.2.2.2.2.2))).trans (hHeld.2.2.2.2.2.2.2.2.2.2.2.2.2.2.2.2.2.2.2.2.2.2.2)
        refine ⟨_, rfl, ?_⟩
        replace kD := Aside0.mk (Kd.R_below (by (with_reducible repeat (first | apply Kd.R_alloc | apply Kd.R_drewN | apply Kd.R_drew)); exact kD.out) hb)
        replace dH := Aside0.mk (Kd.R_below Z54 hb)
        replace dK := Aside0.mk (Kd.R_below Z53 hb)
        replace dU := Aside0.mk (Kd.R_below (by (with_reducible repeat (first | apply Kd.R_alloc | apply Kd.R_drewN | apply Kd.R_drew)); exact dU.out) hb)
        replace cZ := Aside0.mk (Kd.R_below (by (with_reducible repeat (first | apply Kd.R_alloc | apply Kd.R_drewN | apply Kd.R_drew)); exact cZ.out) hb)
        replace HL464_3 := Aside0.mk (Kd.R_below (by (with_reducible repeat (first | apply Kd.R_alloc | apply Kd.R_drewN | apply Kd.R_drew)); exact HL464_3.out) hb)
        replace HL464_4 := Aside0.mk (Kd.R_below (by (with_reducible repeat (first | apply Kd.R_alloc | apply Kd.R_drewN | apply Kd.R_drew)); exact HL464_4.out) hb)
        replace dZ := Aside0.mk (blk_below (g := eR) zC hb)
        replace dT := Aside0.mk (blk_below (g := eB) zC hb)
        replace jQ := Aside0.mk (Kd.C_below Z38 hb)
        replace jR := Aside0.mk (Kd.C_below Z37 hb)
        replace HB := Aside0.mk (below_step (w := w) zB hb)
        try clear hb hk
        refine hK.out _ _ ⟨(blk_cell dT.out 0).trans rfl, (blk_cell dT.out 1).trans rfl, (blk_cell dT.out 2).trans rfl, (blk_cell dT.out 3).trans rfl, (blk_cell dT.out 4).trans rfl, (blk_cell dZ.out 0).trans rfl, (blk_cell dZ.out 1).trans rfl, (blk_cell dZ.out 2).trans rfl, (blk_cell dZ.out 3).trans rfl, Ia, xY, xZ, yA, yB, yC, yD, yE, yF, yG, yH, yI, yJ, yK, yL⟩ (fun hHeld => ?_)
        clear hK K
        refine nz (N := some 58) ?_
        refine pz 12 59 ?_
        refine pz 13 60 ?_
        refine pz 14 61 ?_
        refine tk24 15 62 ?_
        refine pz 16 63 ?_
        refine pz 17 64 ?_
        refine pu 18 65 ?_
        refine pu 19 66 ?_
        refine pu 20 67 ?_
        refine pu 21 68 ?_
        refine pu 22 69 ?_
        refine pu 23 70 ?_
        refine pu 24 71 ?_
        refine pu 25 72 ?_
        refine pu 26 73 ?_
        refine pu 27 74 ?_
        refine pu 28 75 ?_
        refine pu 29 76 ?_
        refine pz 30 77 ?_
        refine pz 31 78 ?_
        refine dn1 ?_
        try go_wp2
        go_roundg k2
        case measure => have := HJ3.out; have := HK2.out; omega
        case rel => exact ⟨(wrap64 (bE + 1)), Z9, H', ⟨by have := HJ3.out; have := HK2.out; omega⟩, ⟨by (with_reducible repeat (first | apply Kd.R_alloc | apply Kd.R_drewN | apply Kd.R_drew)); first | exact kD.out | exact Kd.V_len kD.out⟩, ⟨Z59⟩, ⟨Z58⟩, ⟨by (with_reducible repeat (first | apply Kd.R_alloc | apply Kd.R_drewN | apply Kd.R_drew)); first | exact dU.out | exact Kd.V_len dU.out⟩, ⟨by (with_reducible repeat (first | apply Kd.R_alloc | apply Kd.R_drewN | apply Kd.R_drew)); first | exact cZ.out | exact Kd.V_len cZ.out⟩, ⟨zC⟩, ⟨zC⟩, ⟨zB⟩⟩
      exact absurd H (by simp)
     focus
      obtain rfl := Option.some.inj H
      go_wp2
      go_ret
      exact ⟨Z11, zB⟩
end Go.Proofs.YtkjnahgicfmicaaGreatDoor.Sp

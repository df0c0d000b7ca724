import Derived.Test.YtmpdhdnoohmndaaGreatDoorZip
import Derived.Test.YtmpdhdnoohmndaaGreatDoorQa
import Derived.Test.YtmpdhdnoohmndaaGreatDoorSpx1
import Derived.Test.YtmpdhdnoohmndaaGreatDoorSpx2
import Derived.Test.YtmpdhdnoohmndaaGreatDoorSpx6
import Derived.Test.YtmpdhdnoohmndaaGreatDoorSpx7
import Derived.Test.YtmpdhdnoohmndaaGreatDoorQf
namespace Go.Proofs.YtmpdhdnoohmndaaGreatDoor.Sp
set_option maxHeartbeats 8000000
set_option maxRecDepth 100000
open Go.RowKit Go.Proofs.YtmpdhdnoohmndaaGreatDoorW.PrintWords Go.Proofs.YtmpdhdnoohmndaaGreatDoorW.PrintLast Go.Proofs.YtmpdhdnoohmndaaGreatDoorW.PrintMore
attribute [local go_sem] run_store_float max2_int min2_int max_two min_two max_three min_three max_four min_four
set_option linter.unusedVariables false
set_option linter.unusedSimpArgs false
def dJ.f (bX : cO) (k : Nat) (a0 : au) : Option (Int × au × List au × (List (S25)) × Bool) := (bX.f k a0).bind fun bt356 => (if bt356.2.2.2.2.2 = true then ((aU.f k a0 bt356.1 bt356.2.1 bt356.2.2.1 bt356.2.2.2.1 bt356.2.2.2.2.1).bind fun bt367 => (some (bt367.1, bt367.2.1, bt367.2.2.1, bt367.2.2.2, true))) else (some (0, (⟨#[]⟩ : au), ([] : List au), ([] : List (S25)), false)))
theorem dJ.calls (bX : cO) (k : Nat) (a0 : au) (r1 : Int) (r2 : au) (r3 : List au) (r4 : List (S25)) (r5 : Bool) (w : World) (h : dJ.f bX k a0 = some (r1, r2, r3, r4, r5)) :
 Calls Tryz.prog 13 #[.string a0] w fun e w' => ∃ v2_ v3_ : Value, e = .returned (.tuple #[.agg #[.int .i64 r1, .string r2, v2_, v3_], .bool r5]) ∧ Kd.R Kd.string 9 w' w.heap.size (fun _ => True) v2_ r3 ∧ Kd.R k25 28 w' w.heap.size (fun k_ => some k_ ≠ (v2_ : Value).ownBlock) v3_ r4 ∧ Below w.heap.size w w' := by
 have hu25 := Tryz.underlying28
 have hu31 := Tryz.underlying63
 have HB := aa (Below.refl w.heap.size w)
 unfold dJ.f at h
 have H := h
 clear h
 revert H; refine bnd ?_; rintro ⟨lW, lX, lY, kH, lC, Xh⟩ A2 H; try dsimp only at H
 replace H := sB H
 obtain ⟨rfl, H⟩ | ⟨rfl, H⟩ := H
 ·revert H; refine bnd ?_; rintro ⟨tF, tG, tH, tI⟩ A4 H; try dsimp only at H
  focus
   simp only [al, am] at H
   obtain ⟨rfl, rfl, rfl, rfl, rfl⟩ := H
   go_enter Tryz.func13, Tryz.ntmps13
   go_wp2_with (first | (refine aw 2 #[.int .i64 0, .string (⟨#[]⟩ : au), .slice none 0 0, .slice none 0 0] 28 ?_; intro cM hg w5 hbox hb; have gU := aa (hbox); have Ay : Aside0 (w.heap.size ≤ cM) := ⟨Z24⟩; have Az : Aside0 (w.heap.size ≤ cM) := ⟨Z24⟩; replace HB := aa (below_step (w := w) zB hb); clear hb hbox hg) | (refine gl 24 (some 8) Tryz.func24 #[.string a0] ?_; (with_reducible refine (bX.calls k a0 lW lX lY kH lC true _ A2.out).mono ?_); rintro e w6 ⟨v360, v363, rfl, ho0, ho1, hb⟩; refine ⟨_, rfl, ?_⟩; have gB := aa (Kd.R_lower ho0 (below_size zB)); have gC := aa (Kd.R_lower ho1 (below_size zB)); replace gU := aa (blk_below (g := cM) zC hb); replace HB := aa (below_step (w := w) zB hb); clear hb ho0 ho1) | (refine aw 4 #[.int .i64 0, .int .i64 0, .int .i64 0, .slice none 0 0, .slice none 0 0] 63 ?_; intro cU hg w7 hbox hb; replace gB := aa (Kd.R_below (by (with_reducible repeat (first | apply Kd.R_alloc | apply Kd.R_drewN | apply Kd.R_drew)); exact gB.out) hb); replace gC := aa (Kd.R_below (Kd.R_elderB (by (with_reducible repeat (first | apply Kd.R_alloc | apply Kd.R_drewN | apply Kd.R_drew)); exact gC.out) cU (Nat.le_of_eq hg.symm)) hb); have lD := aa (hbox); have Ba : Aside0 (w.heap.size ≤ cU) := ⟨Z24⟩; have Bb : Aside0 (w.heap.size ≤ cU) := ⟨Z24⟩; replace HB := aa (below_step (w := w) zB hb); have hZ : Aside0 (cM ≠ cU) := ⟨by rw [hg]; exact Nat.ne_of_lt (blk_lt (g := cM) zC)⟩; have iA : Aside0 (cU ≠ cM) := ⟨by rw [hg]; exact Nat.ne_of_gt (blk_lt (g := cM) zC)⟩; replace gU := aa (blk_below (g := cM) zC hb); clear hb hbox hg; have Qy := iA.out; have Qz := hZ.out; obtain ⟨jO, jP, Ra, Rb, Rc, jQ, jR, Rd, Re, Rf⟩ := cz5 lD.out; obtain ⟨pK, co10, eo10⟩ := Kd.R_slice gB.out; subst eo10; obtain ⟨nZ, co11, eo11⟩ := Kd.R_slice gC.out; subst eo11) | (refine gl 25 (some 16) Tryz.func25 #[.string a0, .agg #[.int .i64 lW, .int .i64 lX, .int .i64 lY, .slice pK kH.length co10, .slice nZ lC.length co11]] ?_; (with_reducible refine (aU.calls k a0 lW lX lY _ _ kH _ _ lC tF tG tH tI _ ?side1 ?side2 ?side3 ?side4 A4.out).mono ?_); (case side1 => refine (Kd.R_reads' (e := 84) (base := w.heap.size) (ok := fun k_ => True) (n := kH.length) (c := co10) ?_).2.2; exact Z29); (case side2 => exact (Kd.R_reads' gB.out).2.1); (case side3 => refine (Kd.R_reads' (e := 63) (base := w.heap.size) (ok := fun k_ => (some k_ ≠ (.slice pK kH.length co10 : Value).ownBlock ∧ k_ ≠ cU)) (n := lC.length) (c := co11) ?_).2.2; exact Z27); (case side4 => exact (Kd.R_reads' gC.out).2.1); rintro e w12 ⟨v370, v373, rfl, ho0, ho1, hb⟩; refine ⟨_, rfl, ?_⟩; replace gB := aa (Kd.R_below Z29 hb); replace gC := aa (Kd.R_below Z27 hb); have uG := aa (Kd.R_lower ho0 (below_size zB)); have uH := aa (Kd.R_lower (Kd.R_newB ho1 (g := cM) zC) (below_size zB)); replace gU := aa (blk_below (g := cM) zC hb); replace lD := aa (blk_below (g := cU) (o := .cells #[.int .i64 lW, .int .i64 lX, .int .i64 lY, .slice pK kH.length co10, .slice nZ lC.length co11] 63 (0, 0)) zC hb); replace HB := aa (below_step (w := w) zB hb); clear hb ho0 ho1; obtain ⟨mB, mC, Fp, Fq, mD, mE, Fr, Ft⟩ := cz4 gU.out; obtain ⟨iB, co14, eo14⟩ := Kd.R_slice uG.out; subst eo14; obtain ⟨wE, co15, eo15⟩ := Kd.R_slice uH.out; subst eo15))
   refine bodyPost_ret (results_ct rfl _ _ cM 28 #[.int .i64 tF, .string tG, .slice iB tH.length co14, .slice wE tI.length co15] (0, 0) _ rfl zC Tryz.underlying28 rfl (by kernel_rfl)) rfl ?_
   exact ⟨_, _, Z6, by (with_reducible repeat (first | apply Kd.R_alloc | apply Kd.R_drewN | apply Kd.R_drew)); exact Kd.R_mono (Kd.R_far (p := ⟨cM, 3, none⟩) (Kd.R_far (p := ⟨cM, 2, none⟩) (Kd.R_far (p := ⟨cM, 1, none⟩) (Kd.R_far (p := ⟨cM, 0, none⟩) (Kd.R_types uG.out gU.out (by decide)) (fun _ hk => hk.2) (.int .i64 tF)) (fun _ hk => hk.2) (.string tG)) (fun _ hk => hk.2) (.slice iB tH.length co14)) (fun _ hk => hk.2) (.slice wE tI.length co15)) (fun _ hk => trivial), by (with_reducible repeat (first | apply Kd.R_alloc | apply Kd.R_drewN | apply Kd.R_drew)); exact Kd.R_mono (Kd.R_far (p := ⟨cM, 3, none⟩) (Kd.R_far (p := ⟨cM, 2, none⟩) (Kd.R_far (p := ⟨cM, 1, none⟩) (Kd.R_far (p := ⟨cM, 0, none⟩) (Kd.R_mono uH.out (fun k_ hk => (⟨hk, hk.2⟩ : _ ∧ k_ ≠ cM))) (fun _ hk => hk.2) (.int .i64 tF)) (fun _ hk => hk.2) (.string tG)) (fun _ hk => hk.2) (.slice iB tH.length co14)) (fun _ hk => hk.2) (.slice wE tI.length co15)) (fun _ hk => hk.1.1), zB⟩
 focus
  simp only [al, am] at H
  obtain ⟨rfl, rfl, rfl, rfl, rfl⟩ := H
  go_enter Tryz.func13, Tryz.ntmps13
  go_wp2_with (first | (refine aw 2 #[.int .i64 0, .string (⟨#[]⟩ : au), .slice none 0 0, .slice none 0 0] 28 ?_; intro cM hg w16 hbox hb; have gU := aa (hbox); have Ay : Aside0 (w.heap.size ≤ cM) := ⟨Z24⟩; have Az : Aside0 (w.heap.size ≤ cM) := ⟨Z24⟩; replace HB := aa (below_step (w := w) zB hb); clear hb hbox hg) | (refine gl 24 (some 8) Tryz.func24 #[.string a0] ?_; (with_reducible refine (bX.calls k a0 lW lX lY kH lC false _ A2.out).mono ?_); rintro e w17 ⟨v360, v363, rfl, ho0, ho1, hb⟩; refine ⟨_, rfl, ?_⟩; have gB := aa (Kd.R_lower ho0 (below_size zB)); have gC := aa (Kd.R_lower ho1 (below_size zB)); replace gU := aa (blk_below (g := cM) zC hb); replace HB := aa (below_step (w := w) zB hb); clear hb ho0 ho1) | (refine aw 4 #[.int .i64 0, .int .i64 0, .int .i64 0, .slice none 0 0, .slice none 0 0] 63 ?_; intro cU hg w18 hbox hb; replace gB := aa (Kd.R_below (by (with_reducible repeat (first | apply Kd.R_alloc | apply Kd.R_drewN | apply Kd.R_drew)); exact gB.out) hb); replace gC := aa (Kd.R_below (Kd.R_elderB (by (with_reducible repeat (first | apply Kd.R_alloc | apply Kd.R_drewN | apply Kd.R_drew)); exact gC.out) cU (Nat.le_of_eq hg.symm)) hb); have lD := aa (hbox); have Ba : Aside0 (w.heap.size ≤ cU) := ⟨Z24⟩; have Bb : Aside0 (w.heap.size ≤ cU) := ⟨Z24⟩; replace HB := aa (below_step (w := w) zB hb); have hZ : Aside0 (cM ≠ cU) := ⟨by rw [hg]; exact Nat.ne_of_lt (blk_lt (g := cM) zC)⟩; have iA : Aside0 (cU ≠ cM) := ⟨by rw [hg]; exact Nat.ne_of_gt (blk_lt (g := cM) zC)⟩; replace gU := aa (blk_below (g := cM) zC hb); clear hb hbox hg; have Ui := iA.out; have Uj := hZ.out; obtain ⟨Fu, Fv, Fw, Fx, Fy, Fz, Ga, Gb, Gc, Gd⟩ := cz5 lD.out; obtain ⟨zW, co21, eo21⟩ := Kd.R_slice gB.out; subst eo21; obtain ⟨Xi, co22, eo22⟩ := Kd.R_slice gC.out; subst eo22; obtain ⟨Ge, Gf, Gg, Gh, Gi, Gk, Gl, Gm⟩ := cz4 gU.out))
  refine bodyPost_ret (results_ct rfl _ _ cM 28 #[.int .i64 0, .string (⟨#[]⟩ : au), .slice none 0 0, .slice none 0 0] (0, 0) _ rfl zC Tryz.underlying28 rfl (by kernel_rfl)) rfl ?_
  exact ⟨_, _, Z6, Z7, Z7, zB⟩
def bZ.f (bX : cO) (k : Nat) (a0 : au) : Option (Int × au × List au × (List (S25)) × Bool) := if (a0.size : Int) > 65536 then (some (0, (⟨#[]⟩ : au), ([] : List au), ([] : List (S25)), false)) else ((bI.f k a0).bind fun Bc => (if Bc = true then ((bB.f k a0).bind fun Bd => (if Bd = true then ((dJ.f bX k a0).bind fun bt378 => (some (bt378.1, bt378.2.1, bt378.2.2.1, bt378.2.2.2.1, bt378.2.2.2.2))) else (some (0, (⟨#[]⟩ : au), ([] : List au), ([] : List (S25)), false)))) else (some (0, (⟨#[]⟩ : au), ([] : List au), ([] : List (S25)), false))))
theorem bZ.calls (bX : cO) (k : Nat) (a0 : au) (r1 : Int) (r2 : au) (r3 : List au) (r4 : List (S25)) (r5 : Bool) (w : World) (h : bZ.f bX k a0 = some (r1, r2, r3, r4, r5)) :
 Calls Tryz.prog 5 #[.string a0] w fun e w' => ∃ v2_ v3_ : Value, e = .returned (.tuple #[.agg #[.int .i64 r1, .string r2, v2_, v3_], .bool r5]) ∧ Kd.R Kd.string 9 w' w.heap.size (fun _ => True) v2_ r3 ∧ Kd.R k25 28 w' w.heap.size (fun k_ => some k_ ≠ (v2_ : Value).ownBlock) v3_ r4 ∧ Below w.heap.size w w' := by
 have hu25 := Tryz.underlying28
 have HB := aa (Below.refl w.heap.size w)
 unfold bZ.f at h
 have H := h
 clear h
 revert H; refine sIk_k (fun c2 H => ?_) fun c2 H => ?_
 ·have eY : decide (65536 < (a0.size : Int)) = true := ac c2
  have lF : decide (65536 < a0.size) = true := ac (by omega)
  clear c2
  focus
   simp only [al, am] at H
   obtain ⟨rfl, rfl, rfl, rfl, rfl⟩ := H
   go_enter Tryz.func5, Tryz.ntmps5
   go_wp2_with (first | (refine aw 2 #[.int .i64 0, .string (⟨#[]⟩ : au), .slice none 0 0, .slice none 0 0] 28 ?_; intro cS hg w3 hbox hb; have dQ := aa (hbox); have pL : Aside0 (w.heap.size ≤ cS) := ⟨Z24⟩; have pM : Aside0 (w.heap.size ≤ cS) := ⟨Z24⟩; replace HB := aa (below_step (w := w) zB hb); clear hb hbox hg; obtain ⟨vL, vM, Rg, Rh, vN, vO, Ri, Rj⟩ := cz4 dQ.out))
   refine bodyPost_ret (results_ct rfl _ _ cS 28 #[.int .i64 0, .string (⟨#[]⟩ : au), .slice none 0 0, .slice none 0 0] (0, 0) _ rfl zC Tryz.underlying28 rfl (by kernel_rfl)) rfl ?_
   exact ⟨_, _, Z6, Z7, Z7, zB⟩
 have eY : decide (65536 < (a0.size : Int)) = false := ae c2
 have lF : decide (65536 < a0.size) = false := ae (by omega)
 clear c2
 revert H; refine bnd ?_; rintro Bc A5 H
 replace H := sB H
 obtain ⟨rfl, H⟩ | ⟨rfl, H⟩ := H
 ·revert H; refine bnd ?_; rintro Bd A7 H
  replace H := sB H
  obtain ⟨rfl, H⟩ | ⟨rfl, H⟩ := H
  ·revert H; refine bnd ?_; rintro ⟨tJ, tK, tL, tM, Rk⟩ A9 H; try dsimp only at H
   focus
    simp only [al, am] at H
    obtain ⟨rfl, rfl, rfl, rfl, rfl⟩ := H
    go_enter Tryz.func5, Tryz.ntmps5
    go_wp2_with (first | (refine aw 2 #[.int .i64 0, .string (⟨#[]⟩ : au), .slice none 0 0, .slice none 0 0] 28 ?_; intro cS hg w10 hbox hb; have dQ := aa (hbox); have pL : Aside0 (w.heap.size ≤ cS) := ⟨Z24⟩; have pM : Aside0 (w.heap.size ≤ cS) := ⟨Z24⟩; replace HB := aa (below_step (w := w) zB hb); clear hb hbox hg) | (go_at_call 11; (with_reducible refine (bI.calls k a0 true _ A5.out).mono ?_); rintro e w' ⟨rfl, ⟨nd, rfl⟩⟩; (try (rw [drewN_self w10]; generalize hq_ : World.drewN w10 _ = w10; replace dQ := dqC hq_ dQ; replace HB := dqB hq_ HB; clear hq_))) | (go_at_call 12; (with_reducible refine (bB.calls k a0 true _ A7.out).mono ?_); rintro e w' ⟨rfl, ⟨nd, rfl⟩⟩; (try (rw [drewN_self w10]; generalize hq_ : World.drewN w10 _ = w10; replace dQ := dqC hq_ dQ; replace HB := dqB hq_ HB; clear hq_))) | (refine gl 13 (some 19) Tryz.func13 #[.string a0] ?_; (with_reducible refine (dJ.calls bX k a0 tJ tK tL tM Rk _ A9.out).mono ?_); rintro e w11 ⟨v381, v384, rfl, ho0, ho1, hb⟩; refine ⟨_, rfl, ?_⟩; have uI := aa (Kd.R_lower ho0 (below_size zB)); have uJ := aa (Kd.R_lower (Kd.R_newB ho1 (g := cS) zC) (below_size zB)); replace dQ := aa (blk_below (g := cS) zC hb); replace HB := aa (below_step (w := w) zB hb); clear hb ho0 ho1; obtain ⟨gO, gP, kD, kE, gQ, gR, kF, kG⟩ := cz4 dQ.out; obtain ⟨wF, co13, eo13⟩ := Kd.R_slice uI.out; subst eo13; obtain ⟨iB, co14, eo14⟩ := Kd.R_slice uJ.out; subst eo14))
    refine bodyPost_ret (results_ct rfl _ _ cS 28 #[.int .i64 tJ, .string tK, .slice wF tL.length co13, .slice iB tM.length co14] (0, 0) _ rfl zC Tryz.underlying28 rfl (by kernel_rfl)) rfl ?_
    exact ⟨_, _, Z6, by (with_reducible repeat (first | apply Kd.R_alloc | apply Kd.R_drewN | apply Kd.R_drew)); exact Kd.R_mono (Kd.R_far (p := ⟨cS, 3, none⟩) (Kd.R_far (p := ⟨cS, 2, none⟩) (Kd.R_far (p := ⟨cS, 1, none⟩) (Kd.R_far (p := ⟨cS, 0, none⟩) (Kd.R_types uI.out dQ.out (by decide)) (fun _ hk => hk.2) (.int .i64 tJ)) (fun _ hk => hk.2) (.string tK)) (fun _ hk => hk.2) (.slice wF tL.length co13)) (fun _ hk => hk.2) (.slice iB tM.length co14)) (fun _ hk => trivial), by (with_reducible repeat (first | apply Kd.R_alloc | apply Kd.R_drewN | apply Kd.R_drew)); exact Kd.R_mono (Kd.R_far (p := ⟨cS, 3, none⟩) (Kd.R_far (p := ⟨cS, 2, none⟩) (Kd.R_far (p := ⟨cS, 1, none⟩) (Kd.R_far (p := ⟨cS, 0, none⟩) (Kd.R_mono uJ.out (fun k_ hk => (⟨hk, hk.2⟩ : _ ∧ k_ ≠ cS))) (fun _ hk => hk.2) (.int .i64 tJ)) (fun _ hk => hk.2) (.string tK)) (fun _ hk => hk.2) (.slice wF tL.length co13)) (fun _ hk => hk.2) (.slice iB tM.length co14)) (fun _ hk => hk.1.1), zB⟩
  focus
   simp only [al, am] at H
   obtain ⟨rfl, rfl, rfl, rfl, rfl⟩ := H
   go_enter Tryz.func5, Tryz.ntmps5
   go_wp2_with (first | (refine aw 2 #[.int .i64 0, .string (⟨#[]⟩ : au), .slice none 0 0, .slice none 0 0] 28 ?_; intro cS hg w15 hbox hb; have dQ := aa (hbox); have pL : Aside0 (w.heap.size ≤ cS) := ⟨Z24⟩; have pM : Aside0 (w.heap.size ≤ cS) := ⟨Z24⟩; replace HB := aa (below_step (w := w) zB hb); clear hb hbox hg) | (go_at_call 11; (with_reducible refine (bI.calls k a0 true _ A5.out).mono ?_); rintro e w' ⟨rfl, ⟨nd, rfl⟩⟩; (try (rw [drewN_self w15]; generalize hq_ : World.drewN w15 _ = w15; replace dQ := dqC hq_ dQ; replace HB := dqB hq_ HB; clear hq_))) | (go_at_call 12; (with_reducible refine (bB.calls k a0 false _ A7.out).mono ?_); rintro e w' ⟨rfl, ⟨nd, rfl⟩⟩; (try (rw [drewN_self w15]; generalize hq_ : World.drewN w15 _ = w15; replace dQ := dqC hq_ dQ; replace HB := dqB hq_ HB; clear hq_)); obtain ⟨Gn, Gp, Gq, Gr, Gs, Gt, Gu, Gv⟩ := cz4 dQ.out))
   refine bodyPost_ret (results_ct rfl _ _ cS 28 #[.int .i64 0, .string (⟨#[]⟩ : au), .slice none 0 0, .slice none 0 0] (0, 0) _ rfl zC Tryz.underlying28 rfl (by kernel_rfl)) rfl ?_
   exact ⟨_, _, Z6, Z7, Z7, zB⟩
 focus
  simp only [al, am] at H
  obtain ⟨rfl, rfl, rfl, rfl, rfl⟩ := H
  go_enter Tryz.func5, Tryz.ntmps5
  go_wp2_with (first | (refine aw 2 #[.int .i64 0, .string (⟨#[]⟩ : au), .slice none 0 0, .slice none 0 0] 28 ?_; intro cS hg w17 hbox hb; have dQ := aa (hbox); have pL : Aside0 (w.heap.size ≤ cS) := ⟨Z24⟩; have pM : Aside0 (w.heap.size ≤ cS) := ⟨Z24⟩; replace HB := aa (below_step (w := w) zB hb); clear hb hbox hg) | (go_at_call 11; (with_reducible refine (bI.calls k a0 false _ A5.out).mono ?_); rintro e w' ⟨rfl, ⟨nd, rfl⟩⟩; (try (rw [drewN_self w17]; generalize hq_ : World.drewN w17 _ = w17; replace dQ := dqC hq_ dQ; replace HB := dqB hq_ HB; clear hq_)); obtain ⟨qQ, qR, Gw, Gx, qS, qT, Gy, Gz⟩ := cz4 dQ.out))
  refine bodyPost_ret (results_ct rfl _ _ cS 28 #[.int .i64 0, .string (⟨#[]⟩ : au), .slice none 0 0, .slice none 0 0] (0, 0) _ rfl zC Tryz.underlying28 rfl (by kernel_rfl)) rfl ?_
  exact ⟨_, _, Z6, Z7, Z7, zB⟩
structure eW where
 f : Nat → au → Int → Option (Nat × Option Int)
 mono : ∀ a0 a1 k, LeO (f k a0 a1) (f (k + 1) a0 a1)
 calls : ∀ (k : Nat) (a0 : au) (a1 : Int) (r1 : Nat) (r2 : Option Int) (w : World) (h : f k a0 a1 = some (r1, r2)) (hW : Wok w),
  Calls Tryz.prog 38 #[.string a0, .int .i64 a1] w fun e w' => ∃ (FL_ : Nat) (u_ : Value), e = .returned (.tuple #[.float .f64 FL_, u_]) ∧ Below w.heap.size w w'
structure iU where
 jG : eW
end Go.Proofs.YtmpdhdnoohmndaaGreatDoor.Sp

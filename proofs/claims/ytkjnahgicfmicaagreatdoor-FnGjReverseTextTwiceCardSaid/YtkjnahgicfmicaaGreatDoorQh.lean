import Derived.Test.YtkjnahgicfmicaaGreatDoorZip
import Derived.Test.YtkjnahgicfmicaaGreatDoorQa
import Derived.Test.YtkjnahgicfmicaaGreatDoorQb
import Derived.Test.YtkjnahgicfmicaaGreatDoorQc
import Derived.Test.YtkjnahgicfmicaaGreatDoorSpx7
import Derived.Test.YtkjnahgicfmicaaGreatDoorQf
namespace Go.Proofs.YtkjnahgicfmicaaGreatDoor.Sp
section
set_option maxHeartbeats 8000000
set_option maxRecDepth 100000
open Go.RowKit Go.PW Go.PL Go.PM
attribute [local go_sem] run_store_float max2_int min2_int max_two min_two max_three min_three max_four min_four
set_option linter.unusedVariables false
set_option linter.unusedSimpArgs false
def dR.f (bX : dA) (k : Nat) (a0 : av) : Option (Int × av × List av × (List (S25)) × Bool) := (bX.f k a0).bind fun bt356 => (if bt356.2.2.2.2.2 = true then ((aM.f k a0 bt356.1 bt356.2.1 bt356.2.2.1 bt356.2.2.2.1 bt356.2.2.2.2.1).bind fun bt367 => (some (bt367.1, bt367.2.1, bt367.2.2.1, bt367.2.2.2, true))) else (some (0, (⟨#[]⟩ : av), ([] : List av), ([] : List (S25)), false)))
theorem dR.calls (bX : dA) (k : Nat) (a0 : av) (r1 : Int) (r2 : av) (r3 : List av) (r4 : List (S25)) (r5 : Bool) (w : World) (h : dR.f bX k a0 = some (r1, r2, r3, r4, r5)) :
 Calls Tryz.prog 18 #[.string a0] w fun e w' => ∃ v2_ v3_ : Value, e = .returned (.tuple #[.agg #[.int .i64 r1, .string r2, v2_, v3_], .bool r5]) ∧ Kd.R Kd.string 9 w' w.heap.size (fun _ => True) v2_ r3 ∧ Kd.R k25 25 w' w.heap.size (fun k_ => some k_ ≠ (v2_ : Value).ownBlock) v3_ r4 ∧ Below w.heap.size w w' := by
 have hu25 := Tryz.underlying25
 have hu31 := Tryz.underlying31
 have HB := ab (Below.refl w.heap.size w)
 unfold dR.f at h
 have H := h
 clear h
 revert H; refine bnd ?_; rintro ⟨qD, qE, qF, oI, pE, amE⟩ A2 H; try dsimp only at H
 replace H := sB H
 obtain ⟨rfl, H⟩ | ⟨rfl, H⟩ := H
 ·revert H; refine bnd ?_; rintro ⟨Ab, Ac, Ad, Ae⟩ A4 H; try dsimp only at H
  focus
   simp only [am, an] at H
   obtain ⟨rfl, rfl, rfl, rfl, rfl⟩ := H
   go_enter Tryz.func18, Tryz.ntmps18
   go_wp2_with (first | (refine ax 2 #[.int .i64 0, .string (⟨#[]⟩ : av), .slice none 0 0, .slice none 0 0] 25 ?_; intro dQ hg w5 hbox hb; have kI := ab (hbox); have Jp : Aside0 (w.heap.size ≤ dQ) := ⟨Z24⟩; have Jq : Aside0 (w.heap.size ≤ dQ) := ⟨Z24⟩; replace HB := ab (below_step (w := w) zB hb); clear hb hbox hg) | (refine gl 7 (some 8) Tryz.func7 #[.string a0] ?_; (with_reducible refine (bX.calls k a0 qD qE qF oI pE true _ A2.out).mono ?_); rintro e w6 ⟨v360, v363, rfl, ho0, ho1, hb⟩; refine ⟨_, rfl, ?_⟩; have jK := ab (Kd.R_lower ho0 (below_size zB)); have jL := ab (Kd.R_lower ho1 (below_size zB)); replace kI := ab (blk_below (g := dQ) zC hb); replace HB := ab (below_step (w := w) zB hb); clear hb ho0 ho1) | (refine ax 4 #[.int .i64 0, .int .i64 0, .int .i64 0, .slice none 0 0, .slice none 0 0] 31 ?_; intro eD hg w7 hbox hb; replace jK := ab (Kd.R_below (by (with_reducible repeat (first | apply Kd.R_alloc | apply Kd.R_drewN | apply Kd.R_drew)); exact jK.out) hb); replace jL := ab (Kd.R_below (Kd.R_elderB (by (with_reducible repeat (first | apply Kd.R_alloc | apply Kd.R_drewN | apply Kd.R_drew)); exact jL.out) eD (Nat.le_of_eq hg.symm)) hb); have pF := ab (hbox); have Jr : Aside0 (w.heap.size ≤ eD) := ⟨Z24⟩; have Js : Aside0 (w.heap.size ≤ eD) := ⟨Z24⟩; replace HB := ab (below_step (w := w) zB hb); have kO : Aside0 (dQ ≠ eD) := ⟨by rw [hg]; exact Nat.ne_of_lt (blk_lt (g := dQ) zC)⟩; have kP : Aside0 (eD ≠ dQ) := ⟨by rw [hg]; exact Nat.ne_of_gt (blk_lt (g := dQ) zC)⟩; replace kI := ab (blk_below (g := dQ) zC hb); clear hb hbox hg; have abH := kP.out; have abI := kO.out; obtain ⟨nP, nQ, abJ, abK, abL, nR, nS, abM, abN, abO⟩ := cz5 pF.out; obtain ⟨vA, co10, eo10⟩ := Kd.R_slice jK.out; subst eo10; obtain ⟨iK, co11, eo11⟩ := Kd.R_slice jL.out; subst eo11) | (refine gl 37 (some 16) Tryz.func37 #[.string a0, .agg #[.int .i64 qD, .int .i64 qE, .int .i64 qF, .slice vA oI.length co10, .slice iK pE.length co11]] ?_; (with_reducible refine (aM.calls k a0 qD qE qF _ _ oI _ _ pE Ab Ac Ad Ae _ ?side1 ?side2 ?side3 ?side4 A4.out).mono ?_); (case side1 => refine (Kd.R_reads' (e := 93) (base := w.heap.size) (ok := fun k_ => True) (n := oI.length) (c := co10) ?_).2.2; exact Z33); (case side2 => exact (Kd.R_reads' jK.out).2.1); (case side3 => refine (Kd.R_reads' (e := 31) (base := w.heap.size) (ok := fun k_ => (some k_ ≠ (.slice vA oI.length co10 : Value).ownBlock ∧ k_ ≠ eD)) (n := pE.length) (c := co11) ?_).2.2; exact Z31); (case side4 => exact (Kd.R_reads' jL.out).2.1); rintro e w12 ⟨v370, v373, rfl, ho0, ho1, hb⟩; refine ⟨_, rfl, ?_⟩; replace jK := ab (Kd.R_below Z33 hb); replace jL := ab (Kd.R_below Z31 hb); have Bh := ab (Kd.R_lower ho0 (below_size zB)); have Bi := ab (Kd.R_lower (Kd.R_newB ho1 (g := dQ) zC) (below_size zB)); replace kI := ab (blk_below (g := dQ) zC hb); replace pF := ab (blk_below (g := eD) (o := .cells #[.int .i64 qD, .int .i64 qE, .int .i64 qF, .slice vA oI.length co10, .slice iK pE.length co11] 31 (0, 0)) zC hb); replace HB := ab (below_step (w := w) zB hb); clear hb ho0 ho1; obtain ⟨mX, mY, vN, vO, mZ, nA, vP, vQ⟩ := cz4 kI.out; obtain ⟨kQ, co14, eo14⟩ := Kd.R_slice Bh.out; subst eo14; obtain ⟨Dl, co15, eo15⟩ := Kd.R_slice Bi.out; subst eo15))
   refine bodyPost_ret (results_ct rfl _ _ dQ 25 #[.int .i64 Ab, .string Ac, .slice kQ Ad.length co14, .slice Dl Ae.length co15] (0, 0) _ rfl zC Tryz.underlying25 rfl (by kernel_rfl)) rfl ?_
   exact ⟨_, _, Z9, by (with_reducible repeat (first | apply Kd.R_alloc | apply Kd.R_drewN | apply Kd.R_drew)); exact Kd.R_mono (Kd.R_far (p := ⟨dQ, 3, none⟩) (Kd.R_far (p := ⟨dQ, 2, none⟩) (Kd.R_far (p := ⟨dQ, 1, none⟩) (Kd.R_far (p := ⟨dQ, 0, none⟩) (Kd.R_types Bh.out kI.out (by decide)) (fun _ hk => hk.2) (.int .i64 Ab)) (fun _ hk => hk.2) (.string Ac)) (fun _ hk => hk.2) (.slice kQ Ad.length co14)) (fun _ hk => hk.2) (.slice Dl Ae.length co15)) (fun _ hk => trivial), by (with_reducible repeat (first | apply Kd.R_alloc | apply Kd.R_drewN | apply Kd.R_drew)); exact Kd.R_mono (Kd.R_far (p := ⟨dQ, 3, none⟩) (Kd.R_far (p := ⟨dQ, 2, none⟩) (Kd.R_far (p := ⟨dQ, 1, none⟩) (Kd.R_far (p := ⟨dQ, 0, none⟩) (Kd.R_mono Bi.out (fun k_ hk => (⟨hk, hk.2⟩ : _ ∧ k_ ≠ dQ))) (fun _ hk => hk.2) (.int .i64 Ab)) (fun _ hk => hk.2) (.string Ac)) (fun _ hk => hk.2) (.slice kQ Ad.length co14)) (fun _ hk => hk.2) (.slice Dl Ae.length co15)) (fun _ hk => hk.1.1), zB⟩
 focus
  simp only [am, an] at H
  obtain ⟨rfl, rfl, rfl, rfl, rfl⟩ := H
  go_enter Tryz.func18, Tryz.ntmps18
  go_wp2_with (first | (refine ax 2 #[.int .i64 0, .string (⟨#[]⟩ : av), .slice none 0 0, .slice none 0 0] 25 ?_; intro dQ hg w16 hbox hb; have kI := ab (hbox); have Jp : Aside0 (w.heap.size ≤ dQ) := ⟨Z24⟩; have Jq : Aside0 (w.heap.size ≤ dQ) := ⟨Z24⟩; replace HB := ab (below_step (w := w) zB hb); clear hb hbox hg) | (refine gl 7 (some 8) Tryz.func7 #[.string a0] ?_; (with_reducible refine (bX.calls k a0 qD qE qF oI pE false _ A2.out).mono ?_); rintro e w17 ⟨v360, v363, rfl, ho0, ho1, hb⟩; refine ⟨_, rfl, ?_⟩; have jK := ab (Kd.R_lower ho0 (below_size zB)); have jL := ab (Kd.R_lower ho1 (below_size zB)); replace kI := ab (blk_below (g := dQ) zC hb); replace HB := ab (below_step (w := w) zB hb); clear hb ho0 ho1) | (refine ax 4 #[.int .i64 0, .int .i64 0, .int .i64 0, .slice none 0 0, .slice none 0 0] 31 ?_; intro eD hg w18 hbox hb; replace jK := ab (Kd.R_below (by (with_reducible repeat (first | apply Kd.R_alloc | apply Kd.R_drewN | apply Kd.R_drew)); exact jK.out) hb); replace jL := ab (Kd.R_below (Kd.R_elderB (by (with_reducible repeat (first | apply Kd.R_alloc | apply Kd.R_drewN | apply Kd.R_drew)); exact jL.out) eD (Nat.le_of_eq hg.symm)) hb); have pF := ab (hbox); have Jr : Aside0 (w.heap.size ≤ eD) := ⟨Z24⟩; have Js : Aside0 (w.heap.size ≤ eD) := ⟨Z24⟩; replace HB := ab (below_step (w := w) zB hb); have kO : Aside0 (dQ ≠ eD) := ⟨by rw [hg]; exact Nat.ne_of_lt (blk_lt (g := dQ) zC)⟩; have kP : Aside0 (eD ≠ dQ) := ⟨by rw [hg]; exact Nat.ne_of_gt (blk_lt (g := dQ) zC)⟩; replace kI := ab (blk_below (g := dQ) zC hb); clear hb hbox hg; have aiM := kP.out; have aiN := kO.out; obtain ⟨Qk, Ql, Qm, Qn, Qo, Qp, Qq, Qr, Qs, Qt⟩ := cz5 pF.out; obtain ⟨Iu, co21, eo21⟩ := Kd.R_slice jK.out; subst eo21; obtain ⟨amF, co22, eo22⟩ := Kd.R_slice jL.out; subst eo22; obtain ⟨Qu, Qv, Qw, Qx, Qy, Qz, Ra, Rb⟩ := cz4 kI.out))
  refine bodyPost_ret (results_ct rfl _ _ dQ 25 #[.int .i64 0, .string (⟨#[]⟩ : av), .slice none 0 0, .slice none 0 0] (0, 0) _ rfl zC Tryz.underlying25 rfl (by kernel_rfl)) rfl ?_
  exact ⟨_, _, Z9, Z8, Z8, zB⟩
def cT.f (bX : dA) (k : Nat) (a0 : av) : Option (Int × av × List av × (List (S25)) × Bool) := if (a0.size : Int) > 65536 then (some (0, (⟨#[]⟩ : av), ([] : List av), ([] : List (S25)), false)) else ((bS.f k a0).bind fun Ju => (if Ju = true then ((bD.f k a0).bind fun Jv => (if Jv = true then ((dR.f bX k a0).bind fun bt378 => (some (bt378.1, bt378.2.1, bt378.2.2.1, bt378.2.2.2.1, bt378.2.2.2.2))) else (some (0, (⟨#[]⟩ : av), ([] : List av), ([] : List (S25)), false)))) else (some (0, (⟨#[]⟩ : av), ([] : List av), ([] : List (S25)), false))))
theorem cT.calls (bX : dA) (k : Nat) (a0 : av) (r1 : Int) (r2 : av) (r3 : List av) (r4 : List (S25)) (r5 : Bool) (w : World) (h : cT.f bX k a0 = some (r1, r2, r3, r4, r5)) :
 Calls Tryz.prog 6 #[.string a0] w fun e w' => ∃ v2_ v3_ : Value, e = .returned (.tuple #[.agg #[.int .i64 r1, .string r2, v2_, v3_], .bool r5]) ∧ Kd.R Kd.string 9 w' w.heap.size (fun _ => True) v2_ r3 ∧ Kd.R k25 25 w' w.heap.size (fun k_ => some k_ ≠ (v2_ : Value).ownBlock) v3_ r4 ∧ Below w.heap.size w w' := by
 have hu25 := Tryz.underlying25
 have HB := ab (Below.refl w.heap.size w)
 unfold cT.f at h
 have H := h
 clear h
 revert H; refine sIk_k (fun c2 H => ?_) fun c2 H => ?_
 ·have gJ : decide (65536 < (a0.size : Int)) = true := ae c2
  have nD : decide (65536 < a0.size) = true := ae (by omega)
  clear c2
  focus
   simp only [am, an] at H
   obtain ⟨rfl, rfl, rfl, rfl, rfl⟩ := H
   go_enter Tryz.func6, Tryz.ntmps6
   go_wp2_with (first | (refine ax 2 #[.int .i64 0, .string (⟨#[]⟩ : av), .slice none 0 0, .slice none 0 0] 25 ?_; intro dZ hg w3 hbox hb; have fI := ab (hbox); have vB : Aside0 (w.heap.size ≤ dZ) := ⟨Z24⟩; have vC : Aside0 (w.heap.size ≤ dZ) := ⟨Z24⟩; replace HB := ab (below_step (w := w) zB hb); clear hb hbox hg; obtain ⟨Cr, Ct, abP, abQ, Cu, Cv, abR, abS⟩ := cz4 fI.out))
   refine bodyPost_ret (results_ct rfl _ _ dZ 25 #[.int .i64 0, .string (⟨#[]⟩ : av), .slice none 0 0, .slice none 0 0] (0, 0) _ rfl zC Tryz.underlying25 rfl (by kernel_rfl)) rfl ?_
   exact ⟨_, _, Z9, Z8, Z8, zB⟩
 have gJ : decide (65536 < (a0.size : Int)) = false := af c2
 have nD : decide (65536 < a0.size) = false := af (by omega)
 clear c2
 revert H; refine bnd ?_; rintro Ju A5 H
 replace H := sB H
 obtain ⟨rfl, H⟩ | ⟨rfl, H⟩ := H
 ·revert H; refine bnd ?_; rintro Jv A7 H
  replace H := sB H
  obtain ⟨rfl, H⟩ | ⟨rfl, H⟩ := H
  ·revert H; refine bnd ?_; rintro ⟨Af, Ag, Ah, Ai, abT⟩ A9 H; try dsimp only at H
   focus
    simp only [am, an] at H
    obtain ⟨rfl, rfl, rfl, rfl, rfl⟩ := H
    go_enter Tryz.func6, Tryz.ntmps6
    go_wp2_with (first | (refine ax 2 #[.int .i64 0, .string (⟨#[]⟩ : av), .slice none 0 0, .slice none 0 0] 25 ?_; intro dZ hg w10 hbox hb; have fI := ab (hbox); have vB : Aside0 (w.heap.size ≤ dZ) := ⟨Z24⟩; have vC : Aside0 (w.heap.size ≤ dZ) := ⟨Z24⟩; replace HB := ab (below_step (w := w) zB hb); clear hb hbox hg) | (go_at_call 16; (with_reducible refine (bS.calls k a0 true _ A5.out).mono ?_); rintro e w' ⟨rfl, ⟨nd, rfl⟩⟩; (try (rw [drewN_self w10]; generalize hq_ : World.drewN w10 _ = w10; replace fI := dqC hq_ fI; replace HB := dqB hq_ HB; clear hq_))) | (go_at_call 17; (with_reducible refine (bD.calls k a0 true _ A7.out).mono ?_); rintro e w' ⟨rfl, ⟨nd, rfl⟩⟩; (try (rw [drewN_self w10]; generalize hq_ : World.drewN w10 _ = w10; replace fI := dqC hq_ fI; replace HB := dqB hq_ HB; clear hq_))) | (refine gl 18 (some 19) Tryz.func18 #[.string a0] ?_; (with_reducible refine (dR.calls bX k a0 Af Ag Ah Ai abT _ A9.out).mono ?_); rintro e w11 ⟨v381, v384, rfl, ho0, ho1, hb⟩; refine ⟨_, rfl, ?_⟩; have Bj := ab (Kd.R_lower ho0 (below_size zB)); have Bk := ab (Kd.R_lower (Kd.R_newB ho1 (g := dZ) zC) (below_size zB)); replace fI := ab (blk_below (g := dZ) zC hb); replace HB := ab (below_step (w := w) zB hb); clear hb ho0 ho1; obtain ⟨kC, kD, oE, oF, kE, kF, oG, oH⟩ := cz4 fI.out; obtain ⟨Dm, co13, eo13⟩ := Kd.R_slice Bj.out; subst eo13; obtain ⟨kQ, co14, eo14⟩ := Kd.R_slice Bk.out; subst eo14))
    refine bodyPost_ret (results_ct rfl _ _ dZ 25 #[.int .i64 Af, .string Ag, .slice Dm Ah.length co13, .slice kQ Ai.length co14] (0, 0) _ rfl zC Tryz.underlying25 rfl (by kernel_rfl)) rfl ?_
    exact ⟨_, _, Z9, by (with_reducible repeat (first | apply Kd.R_alloc | apply Kd.R_drewN | apply Kd.R_drew)); exact Kd.R_mono (Kd.R_far (p := ⟨dZ, 3, none⟩) (Kd.R_far (p := ⟨dZ, 2, none⟩) (Kd.R_far (p := ⟨dZ, 1, none⟩) (Kd.R_far (p := ⟨dZ, 0, none⟩) (Kd.R_types Bj.out fI.out (by decide)) (fun _ hk => hk.2) (.int .i64 Af)) (fun _ hk => hk.2) (.string Ag)) (fun _ hk => hk.2) (.slice Dm Ah.length co13)) (fun _ hk => hk.2) (.slice kQ Ai.length co14)) (fun _ hk => trivial), by (with_reducible repeat (first | apply Kd.R_alloc | apply Kd.R_drewN | apply Kd.R_drew)); exact Kd.R_mono (Kd.R_far (p := ⟨dZ, 3, none⟩) (Kd.R_far (p := ⟨dZ, 2, none⟩) (Kd.R_far (p := ⟨dZ, 1, none⟩) (Kd.R_far (p := ⟨dZ, 0, none⟩) (Kd.R_mono Bk.out (fun k_ hk => (⟨hk, hk.2⟩ : _ ∧ k_ ≠ dZ))) (fun _ hk => hk.2) (.int .i64 Af)) (fun _ hk => hk.2) (.string Ag)) (fun _ hk => hk.2) (.slice Dm Ah.length co13)) (fun _ hk => hk.2) (.slice kQ Ai.length co14)) (fun _ hk => hk.1.1), zB⟩
  focus
   simp only [am, an] at H
   obtain ⟨rfl, rfl, rfl, rfl, rfl⟩ := H
   go_enter Tryz.func6, Tryz.ntmps6
   go_wp2_with (first | (refine ax 2 #[.int .i64 0, .string (⟨#[]⟩ : av), .slice none 0 0, .slice none 0 0] 25 ?_; intro dZ hg w15 hbox hb; have fI := ab (hbox); have vB : Aside0 (w.heap.size ≤ dZ) := ⟨Z24⟩; have vC : Aside0 (w.heap.size ≤ dZ) := ⟨Z24⟩; replace HB := ab (below_step (w := w) zB hb); clear hb hbox hg) | (go_at_call 16; (with_reducible refine (bS.calls k a0 true _ A5.out).mono ?_); rintro e w' ⟨rfl, ⟨nd, rfl⟩⟩; (try (rw [drewN_self w15]; generalize hq_ : World.drewN w15 _ = w15; replace fI := dqC hq_ fI; replace HB := dqB hq_ HB; clear hq_))) | (go_at_call 17; (with_reducible refine (bD.calls k a0 false _ A7.out).mono ?_); rintro e w' ⟨rfl, ⟨nd, rfl⟩⟩; (try (rw [drewN_self w15]; generalize hq_ : World.drewN w15 _ = w15; replace fI := dqC hq_ fI; replace HB := dqB hq_ HB; clear hq_)); obtain ⟨wH, wI, wJ, wK, wL, wM, wN, wO⟩ := cz4 fI.out))
   refine bodyPost_ret (results_ct rfl _ _ dZ 25 #[.int .i64 0, .string (⟨#[]⟩ : av), .slice none 0 0, .slice none 0 0] (0, 0) _ rfl zC Tryz.underlying25 rfl (by kernel_rfl)) rfl ?_
   exact ⟨_, _, Z9, Z8, Z8, zB⟩
 focus
  simp only [am, an] at H
  obtain ⟨rfl, rfl, rfl, rfl, rfl⟩ := H
  go_enter Tryz.func6, Tryz.ntmps6
  go_wp2_with (first | (refine ax 2 #[.int .i64 0, .string (⟨#[]⟩ : av), .slice none 0 0, .slice none 0 0] 25 ?_; intro dZ hg w17 hbox hb; have fI := ab (hbox); have vB : Aside0 (w.heap.size ≤ dZ) := ⟨Z24⟩; have vC : Aside0 (w.heap.size ≤ dZ) := ⟨Z24⟩; replace HB := ab (below_step (w := w) zB hb); clear hb hbox hg) | (go_at_call 16; (with_reducible refine (bS.calls k a0 false _ A5.out).mono ?_); rintro e w' ⟨rfl, ⟨nd, rfl⟩⟩; (try (rw [drewN_self w17]; generalize hq_ : World.drewN w17 _ = w17; replace fI := dqC hq_ fI; replace HB := dqB hq_ HB; clear hq_)); obtain ⟨xH, xI, Rc, Rd, xJ, xK, Re, Rf⟩ := cz4 fI.out))
  refine bodyPost_ret (results_ct rfl _ _ dZ 25 #[.int .i64 0, .string (⟨#[]⟩ : av), .slice none 0 0, .slice none 0 0] (0, 0) _ rfl zC Tryz.underlying25 rfl (by kernel_rfl)) rfl ?_
  exact ⟨_, _, Z9, Z8, Z8, zB⟩
structure gZ where
 f : Nat → av → Int → Option (Nat × Option Int)
 mono : ∀ a0 a1 k, LeO (f k a0 a1) (f (k + 1) a0 a1)
 calls : ∀ (k : Nat) (a0 : av) (a1 : Int) (r1 : Nat) (r2 : Option Int) (w : World) (h : f k a0 a1 = some (r1, r2)) (hW : Wok w),
  Calls Tryz.prog 59 #[.string a0, .int .i64 a1] w fun e w' => ∃ (FL_ : Nat) (u_ : Value), e = .returned (.tuple #[.float .f64 FL_, u_]) ∧ Below w.heap.size w w'
structure mD where
 mV : gZ
end
section
open Go.RowKit Go.PW Go.PL Go.PM
attribute [local go_sem] run_store_float max2_int min2_int max_two min_two max_three min_three max_four min_four
set_option linter.unusedVariables false
set_option linter.unusedSimpArgs false
structure bP where
 f : Nat → av → Option (av)
 mono : ∀ a0 k, LeO (f k a0) (f (k + 1) a0)
 calls : ∀ (k : Nat) (a0 : av) (r : av) (w : World) (h : f k a0 = some r),
  Calls Tryz.prog 49 #[.string a0] w fun e w' => e = .returned (.string r) ∧ Below w.heap.size w w'
instance bP.mi (V : bP) {a0 k} : LeI (V.f k a0) (V.f (k + 1) a0) := ⟨⟨V.mono a0 k⟩⟩
def cQ.f (k : Nat) (a0 : av) : Option (av) := none
theorem cQ.mono : ∀ a0 k, LeO (cQ.f k a0) (cQ.f (k + 1) a0) := by
 intro a0 k
 unfold cQ.f
 exact zM
instance cQ.mi  {a0 k} : LeI (cQ.f k a0) (cQ.f (k + 1) a0) := ⟨⟨cQ.mono a0 k⟩⟩
set_option maxHeartbeats 8000000 in
set_option maxRecDepth 100000 in
theorem cQ.calls (k : Nat) (a0 : av) (r : av) (w : World) (h : cQ.f k a0 = some r) :
 Calls Tryz.prog 49 #[.string a0] w fun e w' => e = .returned (.string r) ∧ Below w.heap.size w w' := by
 have HB := ab (Below.refl w.heap.size w)
 have H : (none) = some r := h
 clear h
 exact absurd H (by simp)
structure pH where
 sP : bP
def eS.f (a0_0 : Int) (a0_1 : av) (a0_2 : av) (a0_3 : Nat) (a0_4 : Int) (l0_5 : List Int) : Option (Bool) := if a0_0 = 0 then (some ((a0_1.size : Int) != 0)) else (some true)
end
end Go.Proofs.YtkjnahgicfmicaaGreatDoor.Sp

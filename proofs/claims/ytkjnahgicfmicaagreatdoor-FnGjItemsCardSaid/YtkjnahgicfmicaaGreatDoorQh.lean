import Derived.Test.YtkjnahgicfmicaaGreatDoorZip
import Derived.Test.YtkjnahgicfmicaaGreatDoorQa
import Derived.Test.YtkjnahgicfmicaaGreatDoorQb
import Derived.Test.YtkjnahgicfmicaaGreatDoorQc
import Derived.Test.YtkjnahgicfmicaaGreatDoorSpx7
import Derived.Test.YtkjnahgicfmicaaGreatDoorQf
namespace Go.Proofs.YtkjnahgicfmicaaGreatDoor.Sp
set_option maxHeartbeats 8000000
set_option maxRecDepth 100000
open Go.RowKit Go.Proofs.YtkjnahgicfmicaaGreatDoorW.PrintWords Go.Proofs.YtkjnahgicfmicaaGreatDoorW.PrintLast Go.Proofs.YtkjnahgicfmicaaGreatDoorW.PrintMore
attribute [local go_sem] run_store_float max2_int min2_int max_two min_two max_three min_three max_four min_four
set_option linter.unusedVariables false
set_option linter.unusedSimpArgs false
def fF.f (bK : cF) (k : Nat) (a0 : ByteArray) : Option (Int × ByteArray × List ByteArray × (List (S25)) × Bool) := (bK.f k a0).bind fun bt356 => (if bt356.2.2.2.2.2 = true then ((bB.f k a0 bt356.1 bt356.2.1 bt356.2.2.1 bt356.2.2.2.1 bt356.2.2.2.2.1).bind fun bt367 => (some (bt367.1, bt367.2.1, bt367.2.2.1, bt367.2.2.2, true))) else (some (0, (⟨#[]⟩ : ByteArray), ([] : List ByteArray), ([] : List (S25)), false)))
theorem fF.calls (bK : cF) (k : Nat) (a0 : ByteArray) (r1 : Int) (r2 : ByteArray) (r3 : List ByteArray) (r4 : List (S25)) (r5 : Bool) (w : World) (h : fF.f bK k a0 = some (r1, r2, r3, r4, r5)) :
 Calls Tryz.prog 18 #[.string a0] w fun e w' => ∃ v2_ v3_ : Value, e = .returned (.tuple #[.agg #[.int .i64 r1, .string r2, v2_, v3_], .bool r5]) ∧ Kd.R Kd.string 9 w' w.heap.size (fun _ => True) v2_ r3 ∧ Kd.R k25 25 w' w.heap.size (fun k_ => some k_ ≠ (v2_ : Value).ownBlock) v3_ r4 ∧ Below w.heap.size w w' := by
 have hu25 := Tryz.underlying25
 have hu31 := Tryz.underlying31
 have HB := Aside0.mk (Below.refl w.heap.size w)
 have H : ((bK.f k a0).bind fun bt356 => (if bt356.2.2.2.2.2 = true then ((bB.f k a0 bt356.1 bt356.2.1 bt356.2.2.1 bt356.2.2.2.1 bt356.2.2.2.2.1).bind fun bt367 => (some (bt367.1, bt367.2.1, bt367.2.2.1, bt367.2.2.2, true))) else (some (0, (⟨#[]⟩ : ByteArray), ([] : List ByteArray), ([] : List (S25)), false)))) = some (r1, r2, r3, r4, r5) := h
 clear h
 revert H; refine bnd ?_; rintro ⟨sH, sI, sJ, qE, rC, arK⟩ A2 H; try dsimp only at H
 replace H := sB H
 obtain ⟨rfl, H⟩ | ⟨rfl, H⟩ := H
 ·revert H; refine bnd ?_; rintro ⟨Ft, Fu, Fv, Fw⟩ A4 H; try dsimp only at H
  focus
   simp only [Option.some.injEq, Prod.mk.injEq] at H
   obtain ⟨rfl, rfl, rfl, rfl, rfl⟩ := H
   go_enter Tryz.func18, Tryz.ntmps18
   go_wp2_with (first | ((with_reducible refine gate_dst (N := 2) rfl ?_); refine box_event ?hg (N := 2) ?hd (cs := #[.int .i64 0, .string (⟨#[]⟩ : ByteArray), .slice none 0 0, .slice none 0 0]) (t := 25) ?hr ?_; (case hd => rfl); (case hg => rfl); (case hr => exact Z14); intro eV hg w5 hbox hb; have mZ := Aside0.mk (hbox); have aoV : Aside0 (w.heap.size ≤ eV) := ⟨Z21⟩; have aoW : Aside0 (w.heap.size ≤ eV) := ⟨Z21⟩; replace HB := Aside0.mk (below_step (w := w) zB hb); clear hb hbox hg) | (refine gl 7 (some 8) Tryz.func7 #[.string a0] ?_; (with_reducible refine (bK.calls k a0 sH sI sJ qE rC true _ A2.out).mono ?_); rintro e w6 ⟨v360, v363, rfl, ho0, ho1, hb⟩; refine ⟨_, rfl, ?_⟩; have lP := Aside0.mk (Kd.R_lower ho0 (below_size zB)); have lQ := Aside0.mk (Kd.R_lower ho1 (below_size zB)); replace mZ := Aside0.mk (blk_below (g := eV) zC hb); replace HB := Aside0.mk (below_step (w := w) zB hb); clear hb ho0 ho1) | ((with_reducible refine gate_dst (N := 4) rfl ?_); refine box_event ?hg (N := 4) ?hd (cs := #[.int .i64 0, .int .i64 0, .int .i64 0, .slice none 0 0, .slice none 0 0]) (t := 31) ?hr ?_; (case hd => rfl); (case hg => rfl); (case hr => exact Z14); intro fC hg w7 hbox hb; replace lP := Aside0.mk (Kd.R_below (by (with_reducible repeat (first | apply Kd.R_alloc | apply Kd.R_drewN | apply Kd.R_drew)); exact lP.out) hb); replace lQ := Aside0.mk (Kd.R_below (Kd.R_elderB (by (with_reducible repeat (first | apply Kd.R_alloc | apply Kd.R_drewN | apply Kd.R_drew)); exact lQ.out) fC (Nat.le_of_eq hg.symm)) hb); have rE := Aside0.mk (hbox); have Rk : Aside0 (w.heap.size ≤ fC) := ⟨Z21⟩; have Rl : Aside0 (w.heap.size ≤ fC) := ⟨Z21⟩; replace HB := Aside0.mk (below_step (w := w) zB hb); have mP : Aside0 (eV ≠ fC) := ⟨by rw [hg]; exact Nat.ne_of_lt (blk_lt (g := eV) zC)⟩; have mQ : Aside0 (fC ≠ eV) := ⟨by rw [hg]; exact Nat.ne_of_gt (blk_lt (g := eV) zC)⟩; replace mZ := Aside0.mk (blk_below (g := eV) zC hb); clear hb hbox hg; have agZ := mQ.out; have ahA := mP.out; obtain ⟨pQ, pR, ahB, ahC, ahD, pS, pT, ahE, ahF, ahG⟩ := cz5 rE.out; obtain ⟨zV, co10, eo10⟩ := Kd.R_slice lP.out; subst eo10; obtain ⟨wK, co11, eo11⟩ := Kd.R_slice lQ.out; subst eo11) | (refine gl 37 (some 16) Tryz.func37 #[.string a0, .agg #[.int .i64 sH, .int .i64 sI, .int .i64 sJ, .slice zV qE.length co10, .slice wK rC.length co11]] ?_; (with_reducible refine (bB.calls k a0 sH sI sJ _ _ qE _ _ rC Ft Fu Fv Fw _ ?side1 ?side2 ?side3 ?side4 A4.out).mono ?_); (case side1 => refine (Kd.R_reads' (e := 93) (base := w.heap.size) (ok := fun k_ => True) (n := qE.length) (c := co10) ?_).2.2; exact Z39); (case side2 => exact (Kd.R_reads' lP.out).2.1); (case side3 => refine (Kd.R_reads' (e := 31) (base := w.heap.size) (ok := fun k_ => (some k_ ≠ (.slice zV qE.length co10 : Value).ownBlock ∧ k_ ≠ fC)) (n := rC.length) (c := co11) ?_).2.2; exact Z35); (case side4 => exact (Kd.R_reads' lQ.out).2.1); rintro e w12 ⟨v370, v373, rfl, ho0, ho1, hb⟩; refine ⟨_, rfl, ?_⟩; replace lP := Aside0.mk (Kd.R_below Z39 hb); replace lQ := Aside0.mk (Kd.R_below Z35 hb); have Hl := Aside0.mk (Kd.R_lower ho0 (below_size zB)); have Hm := Aside0.mk (Kd.R_lower (Kd.R_newB ho1 (g := eV) zC) (below_size zB)); replace mZ := Aside0.mk (blk_below (g := eV) zC hb); replace rE := Aside0.mk (blk_below (g := fC) (o := .cells #[.int .i64 sH, .int .i64 sI, .int .i64 sJ, .slice zV qE.length co10, .slice wK rC.length co11] 31 (0, 0)) zC hb); replace HB := Aside0.mk (below_step (w := w) zB hb); clear hb ho0 ho1; obtain ⟨pL, pM, De, Df, pN, pO, Dg, Dh⟩ := cz4 mZ.out; obtain ⟨mO, co14, eo14⟩ := Kd.R_slice Hl.out; subst eo14; obtain ⟨Ji, co15, eo15⟩ := Kd.R_slice Hm.out; subst eo15))
   refine bodyPost_ret (results_ct rfl _ _ eV 25 #[.int .i64 Ft, .string Fu, .slice mO Fv.length co14, .slice Ji Fw.length co15] (0, 0) _ rfl zC Tryz.underlying25 rfl (by kernel_rfl)) rfl ?_
   exact ⟨_, _, Z11, by (with_reducible repeat (first | apply Kd.R_alloc | apply Kd.R_drewN | apply Kd.R_drew)); exact Kd.R_mono (Kd.R_far (p := ⟨eV, 3, none⟩) (Kd.R_far (p := ⟨eV, 2, none⟩) (Kd.R_far (p := ⟨eV, 1, none⟩) (Kd.R_far (p := ⟨eV, 0, none⟩) (Kd.R_types Hl.out mZ.out (by decide)) (fun _ hk => hk.2) (.int .i64 Ft)) (fun _ hk => hk.2) (.string Fu)) (fun _ hk => hk.2) (.slice mO Fv.length co14)) (fun _ hk => hk.2) (.slice Ji Fw.length co15)) (fun _ hk => trivial), by (with_reducible repeat (first | apply Kd.R_alloc | apply Kd.R_drewN | apply Kd.R_drew)); exact Kd.R_mono (Kd.R_far (p := ⟨eV, 3, none⟩) (Kd.R_far (p := ⟨eV, 2, none⟩) (Kd.R_far (p := ⟨eV, 1, none⟩) (Kd.R_far (p := ⟨eV, 0, none⟩) (Kd.R_mono Hm.out (fun k_ hk => (⟨hk, hk.2⟩ : _ ∧ k_ ≠ eV))) (fun _ hk => hk.2) (.int .i64 Ft)) (fun _ hk => hk.2) (.string Fu)) (fun _ hk => hk.2) (.slice mO Fv.length co14)) (fun _ hk => hk.2) (.slice Ji Fw.length co15)) (fun _ hk => hk.1.1), zB⟩
 focus
  simp only [Option.some.injEq, Prod.mk.injEq] at H
  obtain ⟨rfl, rfl, rfl, rfl, rfl⟩ := H
  go_enter Tryz.func18, Tryz.ntmps18
  go_wp2_with (first | ((with_reducible refine gate_dst (N := 2) rfl ?_); refine box_event ?hg (N := 2) ?hd (cs := #[.int .i64 0, .string (⟨#[]⟩ : ByteArray), .slice none 0 0, .slice none 0 0]) (t := 25) ?hr ?_; (case hd => rfl); (case hg => rfl); (case hr => exact Z14); intro eV hg w16 hbox hb; have mZ := Aside0.mk (hbox); have aoV : Aside0 (w.heap.size ≤ eV) := ⟨Z21⟩; have aoW : Aside0 (w.heap.size ≤ eV) := ⟨Z21⟩; replace HB := Aside0.mk (below_step (w := w) zB hb); clear hb hbox hg) | (refine gl 7 (some 8) Tryz.func7 #[.string a0] ?_; (with_reducible refine (bK.calls k a0 sH sI sJ qE rC false _ A2.out).mono ?_); rintro e w17 ⟨v360, v363, rfl, ho0, ho1, hb⟩; refine ⟨_, rfl, ?_⟩; have lP := Aside0.mk (Kd.R_lower ho0 (below_size zB)); have lQ := Aside0.mk (Kd.R_lower ho1 (below_size zB)); replace mZ := Aside0.mk (blk_below (g := eV) zC hb); replace HB := Aside0.mk (below_step (w := w) zB hb); clear hb ho0 ho1) | ((with_reducible refine gate_dst (N := 4) rfl ?_); refine box_event ?hg (N := 4) ?hd (cs := #[.int .i64 0, .int .i64 0, .int .i64 0, .slice none 0 0, .slice none 0 0]) (t := 31) ?hr ?_; (case hd => rfl); (case hg => rfl); (case hr => exact Z14); intro fC hg w18 hbox hb; replace lP := Aside0.mk (Kd.R_below (by (with_reducible repeat (first | apply Kd.R_alloc | apply Kd.R_drewN | apply Kd.R_drew)); exact lP.out) hb); replace lQ := Aside0.mk (Kd.R_below (Kd.R_elderB (by (with_reducible repeat (first | apply Kd.R_alloc | apply Kd.R_drewN | apply Kd.R_drew)); exact lQ.out) fC (Nat.le_of_eq hg.symm)) hb); have rE := Aside0.mk (hbox); have Rk : Aside0 (w.heap.size ≤ fC) := ⟨Z21⟩; have Rl : Aside0 (w.heap.size ≤ fC) := ⟨Z21⟩; replace HB := Aside0.mk (below_step (w := w) zB hb); have mP : Aside0 (eV ≠ fC) := ⟨by rw [hg]; exact Nat.ne_of_lt (blk_lt (g := eV) zC)⟩; have mQ : Aside0 (fC ≠ eV) := ⟨by rw [hg]; exact Nat.ne_of_gt (blk_lt (g := eV) zC)⟩; replace mZ := Aside0.mk (blk_below (g := eV) zC hb); clear hb hbox hg; have aoX := mQ.out; have aoY := mP.out; obtain ⟨adD, adE, adF, adG, adH, adI, adJ, adK, adL, adM⟩ := cz5 rE.out; obtain ⟨Pb, co21, eo21⟩ := Kd.R_slice lP.out; subst eo21; obtain ⟨oC, co22, eo22⟩ := Kd.R_slice lQ.out; subst eo22; obtain ⟨Av, Aw, Ax, Ay, Az, Ba, Bb, Bc⟩ := cz4 mZ.out))
  refine bodyPost_ret (results_ct rfl _ _ eV 25 #[.int .i64 0, .string (⟨#[]⟩ : ByteArray), .slice none 0 0, .slice none 0 0] (0, 0) _ rfl zC Tryz.underlying25 rfl (by kernel_rfl)) rfl ?_
  exact ⟨_, _, Z11, Z12, Z12, zB⟩
def dL.f (bK : cF) (k : Nat) (a0 : ByteArray) : Option (Int × ByteArray × List ByteArray × (List (S25)) × Bool) := if (a0.size : Int) > 65536 then (some (0, (⟨#[]⟩ : ByteArray), ([] : List ByteArray), ([] : List (S25)), false)) else ((cC.f k a0).bind fun Fx => (if Fx = true then ((bM.f k a0).bind fun Fy => (if Fy = true then ((fF.f bK k a0).bind fun bt378 => (some (bt378.1, bt378.2.1, bt378.2.2.1, bt378.2.2.2.1, bt378.2.2.2.2))) else (some (0, (⟨#[]⟩ : ByteArray), ([] : List ByteArray), ([] : List (S25)), false)))) else (some (0, (⟨#[]⟩ : ByteArray), ([] : List ByteArray), ([] : List (S25)), false))))
theorem dL.calls (bK : cF) (k : Nat) (a0 : ByteArray) (r1 : Int) (r2 : ByteArray) (r3 : List ByteArray) (r4 : List (S25)) (r5 : Bool) (w : World) (h : dL.f bK k a0 = some (r1, r2, r3, r4, r5)) :
 Calls Tryz.prog 6 #[.string a0] w fun e w' => ∃ v2_ v3_ : Value, e = .returned (.tuple #[.agg #[.int .i64 r1, .string r2, v2_, v3_], .bool r5]) ∧ Kd.R Kd.string 9 w' w.heap.size (fun _ => True) v2_ r3 ∧ Kd.R k25 25 w' w.heap.size (fun k_ => some k_ ≠ (v2_ : Value).ownBlock) v3_ r4 ∧ Below w.heap.size w w' := by
 have hu25 := Tryz.underlying25
 have HB := Aside0.mk (Below.refl w.heap.size w)
 have H : (if (a0.size : Int) > 65536 then (some (0, (⟨#[]⟩ : ByteArray), ([] : List ByteArray), ([] : List (S25)), false)) else ((cC.f k a0).bind fun Fx => (if Fx = true then ((bM.f k a0).bind fun Fy => (if Fy = true then ((fF.f bK k a0).bind fun bt378 => (some (bt378.1, bt378.2.1, bt378.2.2.1, bt378.2.2.2.1, bt378.2.2.2.2))) else (some (0, (⟨#[]⟩ : ByteArray), ([] : List ByteArray), ([] : List (S25)), false)))) else (some (0, (⟨#[]⟩ : ByteArray), ([] : List ByteArray), ([] : List (S25)), false))))) = some (r1, r2, r3, r4, r5) := h
 clear h
 revert H; refine sIk_k (fun c2 H => ?_) fun c2 H => ?_
 ·have gQ : decide (65536 < (a0.size : Int)) = true := decide_eq_true c2
  have kZ : decide (65536 < a0.size) = true := decide_eq_true (by omega)
  clear c2
  focus
   simp only [Option.some.injEq, Prod.mk.injEq] at H
   obtain ⟨rfl, rfl, rfl, rfl, rfl⟩ := H
   go_enter Tryz.func6, Tryz.ntmps6
   go_wp2_with (first | ((with_reducible refine gate_dst (N := 2) rfl ?_); refine box_event ?hg (N := 2) ?hd (cs := #[.int .i64 0, .string (⟨#[]⟩ : ByteArray), .slice none 0 0, .slice none 0 0]) (t := 25) ?hr ?_; (case hd => rfl); (case hg => rfl); (case hr => exact Z14); intro gU hg w3 hbox hb; have jG := Aside0.mk (hbox); have Ri : Aside0 (w.heap.size ≤ gU) := ⟨Z21⟩; have Rj : Aside0 (w.heap.size ≤ gU) := ⟨Z21⟩; replace HB := Aside0.mk (below_step (w := w) zB hb); clear hb hbox hg; obtain ⟨rH, rI, wQ, wR, rJ, rK, wS, wT⟩ := cz4 jG.out))
   refine bodyPost_ret (results_ct rfl _ _ gU 25 #[.int .i64 0, .string (⟨#[]⟩ : ByteArray), .slice none 0 0, .slice none 0 0] (0, 0) _ rfl zC Tryz.underlying25 rfl (by kernel_rfl)) rfl ?_
   exact ⟨_, _, Z11, Z12, Z12, zB⟩
 have gQ : decide (65536 < (a0.size : Int)) = false := decide_eq_false c2
 have kZ : decide (65536 < a0.size) = false := decide_eq_false (by omega)
 clear c2
 revert H; refine bnd ?_; rintro Fx A5 H
 replace H := sB H
 obtain ⟨rfl, H⟩ | ⟨rfl, H⟩ := H
 ·revert H; refine bnd ?_; rintro Fy A7 H
  replace H := sB H
  obtain ⟨rfl, H⟩ | ⟨rfl, H⟩ := H
  ·revert H; refine bnd ?_; rintro ⟨Fz, Ga, Gb, Gc, agQ⟩ A9 H; try dsimp only at H
   focus
    simp only [Option.some.injEq, Prod.mk.injEq] at H
    obtain ⟨rfl, rfl, rfl, rfl, rfl⟩ := H
    go_enter Tryz.func6, Tryz.ntmps6
    go_wp2_with (first | ((with_reducible refine gate_dst (N := 2) rfl ?_); refine box_event ?hg (N := 2) ?hd (cs := #[.int .i64 0, .string (⟨#[]⟩ : ByteArray), .slice none 0 0, .slice none 0 0]) (t := 25) ?hr ?_; (case hd => rfl); (case hg => rfl); (case hr => exact Z14); intro gU hg w10 hbox hb; have jG := Aside0.mk (hbox); have Ri : Aside0 (w.heap.size ≤ gU) := ⟨Z21⟩; have Rj : Aside0 (w.heap.size ≤ gU) := ⟨Z21⟩; replace HB := Aside0.mk (below_step (w := w) zB hb); clear hb hbox hg) | (go_at_call 16; (with_reducible refine (cC.calls k a0 true _ A5.out).mono ?_); rintro e w' ⟨rfl, ⟨nd, rfl⟩⟩; (try (rw [drewN_self w10]; generalize hq_ : World.drewN w10 _ = w10; replace jG := dqC hq_ jG; replace HB := dqB hq_ HB; clear hq_))) | (go_at_call 17; (with_reducible refine (bM.calls k a0 true _ A7.out).mono ?_); rintro e w' ⟨rfl, ⟨nd, rfl⟩⟩; (try (rw [drewN_self w10]; generalize hq_ : World.drewN w10 _ = w10; replace jG := dqC hq_ jG; replace HB := dqB hq_ HB; clear hq_))) | (refine gl 18 (some 19) Tryz.func18 #[.string a0] ?_; (with_reducible refine (fF.calls bK k a0 Fz Ga Gb Gc agQ _ A9.out).mono ?_); rintro e w11 ⟨v381, v384, rfl, ho0, ho1, hb⟩; refine ⟨_, rfl, ?_⟩; have Hj := Aside0.mk (Kd.R_lower ho0 (below_size zB)); have Hk := Aside0.mk (Kd.R_lower (Kd.R_newB ho1 (g := gU) zC) (below_size zB)); replace jG := Aside0.mk (blk_below (g := gU) zC hb); replace HB := Aside0.mk (below_step (w := w) zB hb); clear hb ho0 ho1; obtain ⟨kR, kS, nL, nM, kT, kU, nN, nO⟩ := cz4 jG.out; obtain ⟨Jh, co13, eo13⟩ := Kd.R_slice Hj.out; subst eo13; obtain ⟨mO, co14, eo14⟩ := Kd.R_slice Hk.out; subst eo14))
    refine bodyPost_ret (results_ct rfl _ _ gU 25 #[.int .i64 Fz, .string Ga, .slice Jh Gb.length co13, .slice mO Gc.length co14] (0, 0) _ rfl zC Tryz.underlying25 rfl (by kernel_rfl)) rfl ?_
    exact ⟨_, _, Z11, by (with_reducible repeat (first | apply Kd.R_alloc | apply Kd.R_drewN | apply Kd.R_drew)); exact Kd.R_mono (Kd.R_far (p := ⟨gU, 3, none⟩) (Kd.R_far (p := ⟨gU, 2, none⟩) (Kd.R_far (p := ⟨gU, 1, none⟩) (Kd.R_far (p := ⟨gU, 0, none⟩) (Kd.R_types Hj.out jG.out (by decide)) (fun _ hk => hk.2) (.int .i64 Fz)) (fun _ hk => hk.2) (.string Ga)) (fun _ hk => hk.2) (.slice Jh Gb.length co13)) (fun _ hk => hk.2) (.slice mO Gc.length co14)) (fun _ hk => trivial), by (with_reducible repeat (first | apply Kd.R_alloc | apply Kd.R_drewN | apply Kd.R_drew)); exact Kd.R_mono (Kd.R_far (p := ⟨gU, 3, none⟩) (Kd.R_far (p := ⟨gU, 2, none⟩) (Kd.R_far (p := ⟨gU, 1, none⟩) (Kd.R_far (p := ⟨gU, 0, none⟩) (Kd.R_mono Hk.out (fun k_ hk => (⟨hk, hk.2⟩ : _ ∧ k_ ≠ gU))) (fun _ hk => hk.2) (.int .i64 Fz)) (fun _ hk => hk.2) (.string Ga)) (fun _ hk => hk.2) (.slice Jh Gb.length co13)) (fun _ hk => hk.2) (.slice mO Gc.length co14)) (fun _ hk => hk.1.1), zB⟩
  focus
   simp only [Option.some.injEq, Prod.mk.injEq] at H
   obtain ⟨rfl, rfl, rfl, rfl, rfl⟩ := H
   go_enter Tryz.func6, Tryz.ntmps6
   go_wp2_with (first | ((with_reducible refine gate_dst (N := 2) rfl ?_); refine box_event ?hg (N := 2) ?hd (cs := #[.int .i64 0, .string (⟨#[]⟩ : ByteArray), .slice none 0 0, .slice none 0 0]) (t := 25) ?hr ?_; (case hd => rfl); (case hg => rfl); (case hr => exact Z14); intro gU hg w15 hbox hb; have jG := Aside0.mk (hbox); have Ri : Aside0 (w.heap.size ≤ gU) := ⟨Z21⟩; have Rj : Aside0 (w.heap.size ≤ gU) := ⟨Z21⟩; replace HB := Aside0.mk (below_step (w := w) zB hb); clear hb hbox hg) | (go_at_call 16; (with_reducible refine (cC.calls k a0 true _ A5.out).mono ?_); rintro e w' ⟨rfl, ⟨nd, rfl⟩⟩; (try (rw [drewN_self w15]; generalize hq_ : World.drewN w15 _ = w15; replace jG := dqC hq_ jG; replace HB := dqB hq_ HB; clear hq_))) | (go_at_call 17; (with_reducible refine (bM.calls k a0 false _ A7.out).mono ?_); rintro e w' ⟨rfl, ⟨nd, rfl⟩⟩; (try (rw [drewN_self w15]; generalize hq_ : World.drewN w15 _ = w15; replace jG := dqC hq_ jG; replace HB := dqB hq_ HB; clear hq_)); obtain ⟨sM, sN, sO, sP, sQ, sR, sS, sT⟩ := cz4 jG.out))
   refine bodyPost_ret (results_ct rfl _ _ gU 25 #[.int .i64 0, .string (⟨#[]⟩ : ByteArray), .slice none 0 0, .slice none 0 0] (0, 0) _ rfl zC Tryz.underlying25 rfl (by kernel_rfl)) rfl ?_
   exact ⟨_, _, Z11, Z12, Z12, zB⟩
 focus
  simp only [Option.some.injEq, Prod.mk.injEq] at H
  obtain ⟨rfl, rfl, rfl, rfl, rfl⟩ := H
  go_enter Tryz.func6, Tryz.ntmps6
  go_wp2_with (first | ((with_reducible refine gate_dst (N := 2) rfl ?_); refine box_event ?hg (N := 2) ?hd (cs := #[.int .i64 0, .string (⟨#[]⟩ : ByteArray), .slice none 0 0, .slice none 0 0]) (t := 25) ?hr ?_; (case hd => rfl); (case hg => rfl); (case hr => exact Z14); intro gU hg w17 hbox hb; have jG := Aside0.mk (hbox); have Ri : Aside0 (w.heap.size ≤ gU) := ⟨Z21⟩; have Rj : Aside0 (w.heap.size ≤ gU) := ⟨Z21⟩; replace HB := Aside0.mk (below_step (w := w) zB hb); clear hb hbox hg) | (go_at_call 16; (with_reducible refine (cC.calls k a0 false _ A5.out).mono ?_); rintro e w' ⟨rfl, ⟨nd, rfl⟩⟩; (try (rw [drewN_self w17]; generalize hq_ : World.drewN w17 _ = w17; replace jG := dqC hq_ jG; replace HB := dqB hq_ HB; clear hq_)); obtain ⟨sU, sV, Ap, Aq, sW, sX, Ar, Au⟩ := cz4 jG.out))
  refine bodyPost_ret (results_ct rfl _ _ gU 25 #[.int .i64 0, .string (⟨#[]⟩ : ByteArray), .slice none 0 0, .slice none 0 0] (0, 0) _ rfl zC Tryz.underlying25 rfl (by kernel_rfl)) rfl ?_
  exact ⟨_, _, Z11, Z12, Z12, zB⟩
structure dX where
 f : Nat → ByteArray → Int → Option (Nat × Option Int)
 mono : ∀ a0 a1 k, LeO (f k a0 a1) (f (k + 1) a0 a1)
 calls : ∀ (k : Nat) (a0 : ByteArray) (a1 : Int) (r1 : Nat) (r2 : Option Int) (w : World) (h : f k a0 a1 = some (r1, r2)) (hW : Wok w),
  Calls Tryz.prog 59 #[.string a0, .int .i64 a1] w fun e w' => ∃ (FL_ : Nat) (u_ : Value), e = .returned (.tuple #[.float .f64 FL_, u_]) ∧ Below w.heap.size w w'
instance dX.mi (V : dX) {a0 a1 k} : LeI (V.f k a0 a1) (V.f (k + 1) a0 a1) := ⟨⟨V.mono a0 a1 k⟩⟩
def bS.f (k : Nat) (a0 : ByteArray) (a1 : Int) : Option (Nat × Option Int) := none
theorem bS.mono : ∀ a0 a1 k, LeO (bS.f k a0 a1) (bS.f (k + 1) a0 a1) := by
 intro a0 a1 k
 unfold bS.f
 exact zM
instance bS.mi  {a0 a1 k} : LeI (bS.f k a0 a1) (bS.f (k + 1) a0 a1) := ⟨⟨bS.mono a0 a1 k⟩⟩
theorem bS.calls (k : Nat) (a0 : ByteArray) (a1 : Int) (r1 : Nat) (r2 : Option Int) (w : World) (h : bS.f k a0 a1 = some (r1, r2)) (hW : Wok w) :
 Calls Tryz.prog 59 #[.string a0, .int .i64 a1] w fun e w' => ∃ (FL_ : Nat) (u_ : Value), e = .returned (.tuple #[.float .f64 FL_, u_]) ∧ Below w.heap.size w w' := by
 have HWK := Aside0.mk hW
 clear hW
 have hu95 := Tryz.underlying95
 have HB := Aside0.mk (Below.refl w.heap.size w)
 have H : (none) = some (r1, r2) := h
 clear h
 exact absurd H (by simp)
structure jE where
 jM : dX
def fE : Nat → jE
 | 0 => ⟨⟨fun _ _ _ => none, fun _ _ _ _ h => (by cases h), by intros; rename_i h _; cases h⟩⟩
 | n + 1 => let K := fE n; ⟨⟨fun k => bS.f  k, bS.mono , bS.calls ⟩⟩
def bS.at_ (D : Nat) : dX := (fE D).jM
def mX.f (a0 : ByteArray) : Option (ByteArray × Nat) := none
theorem mX.calls (a0 : ByteArray) (r1 : ByteArray) (r2 : Nat) (w : World) (h : mX.f a0 = some (r1, r2)) :
 Calls Tryz.prog 44 #[.string a0] w fun e w' => e = .returned (.tuple #[.string r1, .float .f64 r2]) ∧ Below w.heap.size w w' := by
 have HB := Aside0.mk (Below.refl w.heap.size w)
 have H : (none) = some (r1, r2) := h
 clear h
 exact absurd H (by simp)
def mY.f (a0 : ByteArray) : Option (ByteArray) := none
theorem mY.calls (a0 : ByteArray) (r : ByteArray) (w : World) (h : mY.f a0 = some r) :
 Calls Tryz.prog 45 #[.string a0] w fun e w' => e = .returned (.string r) ∧ Drawn0 w w' := by
 have H : (none) = some r := h
 clear h
 exact absurd H (by simp)
end Go.Proofs.YtkjnahgicfmicaaGreatDoor.Sp
namespace Go.Proofs.YtkjnahgicfmicaaGreatDoor.Sp
set_option maxHeartbeats 8000000
set_option maxRecDepth 100000
open Go.RowKit Go.Proofs.YtkjnahgicfmicaaGreatDoorW.PrintWords Go.Proofs.YtkjnahgicfmicaaGreatDoorW.PrintLast Go.Proofs.YtkjnahgicfmicaaGreatDoorW.PrintMore
attribute [local go_sem] run_store_float max2_int min2_int max_two min_two max_three min_three max_four min_four
set_option linter.unusedVariables false
set_option linter.unusedSimpArgs false
structure cE where
 f : Nat → ByteArray → Option (ByteArray)
 mono : ∀ a0 k, LeO (f k a0) (f (k + 1) a0)
 calls : ∀ (k : Nat) (a0 : ByteArray) (r : ByteArray) (w : World) (h : f k a0 = some r),
  Calls Tryz.prog 49 #[.string a0] w fun e w' => e = .returned (.string r) ∧ Below w.heap.size w w'
instance cE.mi (V : cE) {a0 k} : LeI (V.f k a0) (V.f (k + 1) a0) := ⟨⟨V.mono a0 k⟩⟩
def cM.f (k : Nat) (a0 : ByteArray) : Option (ByteArray) := none
theorem cM.mono : ∀ a0 k, LeO (cM.f k a0) (cM.f (k + 1) a0) := by
 intro a0 k
 unfold cM.f
 exact zM
instance cM.mi  {a0 k} : LeI (cM.f k a0) (cM.f (k + 1) a0) := ⟨⟨cM.mono a0 k⟩⟩
theorem cM.calls (k : Nat) (a0 : ByteArray) (r : ByteArray) (w : World) (h : cM.f k a0 = some r) :
 Calls Tryz.prog 49 #[.string a0] w fun e w' => e = .returned (.string r) ∧ Below w.heap.size w w' := by
 have HB := Aside0.mk (Below.refl w.heap.size w)
 have H : (none) = some r := h
 clear h
 exact absurd H (by simp)
structure lB where
 mF : cE
def iQ : Nat → lB
 | 0 => ⟨⟨fun _ _ => none, fun _ _ _ h => (by cases h), by intros; rename_i h; cases h⟩⟩
 | n + 1 => let K := iQ n; ⟨⟨fun k => cM.f  k, cM.mono , cM.calls ⟩⟩
def cM.at_ (D : Nat) : cE := (iQ D).mF
def mT.f (a0 : ByteArray) : Option (ByteArray × ByteArray) := none
theorem mT.calls (a0 : ByteArray) (r1 : ByteArray) (r2 : ByteArray) (w : World) (h : mT.f a0 = some (r1, r2)) :
 Calls Tryz.prog 46 #[.string a0] w fun e w' => e = .returned (.tuple #[.string r1, .string r2]) ∧ Below w.heap.size w w' := by
 have HB := Aside0.mk (Below.refl w.heap.size w)
 have H : (none) = some (r1, r2) := h
 clear h
 exact absurd H (by simp)
def bU.f (a0_0 : Int) (a0_1 : ByteArray) (a0_2 : ByteArray) (a0_3 : Nat) (a0_4 : Int) (l0_5 : List Int) : Option (Bool) := if a0_0 = 0 then (some ((a0_1.size : Int) != 0)) else (some true)
theorem bU.calls (a0_0 : Int) (a0_1 : ByteArray) (a0_2 : ByteArray) (a0_3 : Nat) (a0_4 : Int) (A0_5 : Option Addr) (c0_5 : Nat) (l0_5 : List Int) (r : Bool) (w : World) (hr0_5 : Kd.C (Kd.int .i64) w A0_5 l0_5.length l0_5) (hc0_5 : l0_5.length ≤ c0_5) (h : bU.f a0_0 a0_1 a0_2 a0_3 a0_4 l0_5 = some r) :
 Calls Tryz.prog 47 #[.agg #[.int .i64 a0_0, .string a0_1, .string a0_2, .float .f64 a0_3, .int .i64 a0_4, .slice A0_5 l0_5.length c0_5]] w fun e w' => e = .returned (.bool r) ∧ Below w.heap.size w w' := by
 have hu55 := Tryz.underlying55
 have ahO := Aside0.mk hr0_5
 have HC0_5 := Aside0.mk hc0_5
 clear hr0_5 hc0_5
 have HB := Aside0.mk (Below.refl w.heap.size w)
 have H : (if a0_0 = 0 then (some ((a0_1.size : Int) != 0)) else (some true)) = some r := h
 clear h
 revert H; refine sIe1n0_e0n1 (fun gQ kZ H => ?_) fun gQ kZ H => ?_
 ·focus
   obtain rfl := Option.some.inj H
   go_enter Tryz.func47, Tryz.ntmps47
   go_wp2_with (first | ((with_reducible refine gate_dst (N := 1) rfl ?_); (try (refine gate_guard (by rfl) ?_; dsimp only)); refine box_event ?hg (N := 1) ?hd (cs := #[.int .i64 a0_0, .string a0_1, .string a0_2, .float .f64 a0_3, .int .i64 a0_4, .slice A0_5 l0_5.length c0_5]) (t := 55) ?hr ?_; (case hd => rfl); (case hg => rfl); (case hr => exact Z14); intro mR hg w3 hbox hb; have qG := Aside0.mk (hbox); have Gg : Aside0 (w.heap.size ≤ mR) := ⟨Z21⟩; have Gh : Aside0 (w.heap.size ≤ mR) := ⟨Z21⟩; replace HB := Aside0.mk (below_step (w := w) zB hb); clear hb hbox hg; obtain ⟨rH, rI, wQ, wR, Hn, Ho, rJ, rK, wS, wT, Hp, Hq⟩ := cz6 qG.out))
   go_ret
   exact ⟨Z11, zB⟩
 focus
  obtain rfl := Option.some.inj H
  go_enter Tryz.func47, Tryz.ntmps47
  go_wp2_with (first | ((with_reducible refine gate_dst (N := 1) rfl ?_); (try (refine gate_guard (by rfl) ?_; dsimp only)); refine box_event ?hg (N := 1) ?hd (cs := #[.int .i64 a0_0, .string a0_1, .string a0_2, .float .f64 a0_3, .int .i64 a0_4, .slice A0_5 l0_5.length c0_5]) (t := 55) ?hr ?_; (case hd => rfl); (case hg => rfl); (case hr => exact Z14); intro mR hg w5 hbox hb; have qG := Aside0.mk (hbox); have Gg : Aside0 (w.heap.size ≤ mR) := ⟨Z21⟩; have Gh : Aside0 (w.heap.size ≤ mR) := ⟨Z21⟩; replace HB := Aside0.mk (below_step (w := w) zB hb); clear hb hbox hg; obtain ⟨wU, wV, adP, adQ, adR, adS, wW, wX, adT, adU, adV, adW⟩ := cz6 qG.out))
  go_ret
  exact ⟨Z11, zB⟩
end Go.Proofs.YtkjnahgicfmicaaGreatDoor.Sp

import Derived.Test.YtkjnahgicfmicaaGreatDoorZip
import Derived.Test.YtkjnahgicfmicaaGreatDoorQa
import Derived.Test.YtkjnahgicfmicaaGreatDoorQb
import Derived.Test.YtkjnahgicfmicaaGreatDoorQc
import Derived.Test.YtkjnahgicfmicaaGreatDoorSpx7
import Derived.Test.YtkjnahgicfmicaaGreatDoorQf
namespace Go.Proofs.YtkjnahgicfmicaaGreatDoor.Sp
section
set_option maxHeartbeats 8000000
set_option maxRecDepth 100000
open Go.RowKit Go.PW Go.PL Go.PM
attribute [local go_sem] run_store_float max2_int min2_int max_two min_two max_three min_three max_four min_four
set_option linter.unusedVariables false
set_option linter.unusedSimpArgs false
def dA.f (bU : cH) (k : Nat) (a0 : ByteArray) : Option (Int × ByteArray × List ByteArray × (List (S25)) × Bool) := (bU.f k a0).bind fun bt356 => (if bt356.2.2.2.2.2 = true then ((aQ.f k a0 bt356.1 bt356.2.1 bt356.2.2.1 bt356.2.2.2.1 bt356.2.2.2.2.1).bind fun bt367 => (some (bt367.1, bt367.2.1, bt367.2.2.1, bt367.2.2.2, true))) else (some (0, (⟨#[]⟩ : ByteArray), ([] : List ByteArray), ([] : List (S25)), false)))
theorem dA.calls (bU : cH) (k : Nat) (a0 : ByteArray) (r1 : Int) (r2 : ByteArray) (r3 : List ByteArray) (r4 : List (S25)) (r5 : Bool) (w : World) (h : dA.f bU k a0 = some (r1, r2, r3, r4, r5)) :
 Calls Tryz.prog 18 #[.string a0] w fun e w' => ∃ v2_ v3_ : Value, e = .returned (.tuple #[.agg #[.int .i64 r1, .string r2, v2_, v3_], .bool r5]) ∧ Kd.R Kd.string 9 w' w.heap.size (fun _ => True) v2_ r3 ∧ Kd.R k25 25 w' w.heap.size (fun k_ => some k_ ≠ (v2_ : Value).ownBlock) v3_ r4 ∧ Below w.heap.size w w' := by
 have hu25 := Tryz.underlying25
 have hu31 := Tryz.underlying31
 have HB := ab (Below.refl w.heap.size w)
 have H : ((bU.f k a0).bind fun bt356 => (if bt356.2.2.2.2.2 = true then ((aQ.f k a0 bt356.1 bt356.2.1 bt356.2.2.1 bt356.2.2.2.1 bt356.2.2.2.2.1).bind fun bt367 => (some (bt367.1, bt367.2.1, bt367.2.2.1, bt367.2.2.2, true))) else (some (0, (⟨#[]⟩ : ByteArray), ([] : List ByteArray), ([] : List (S25)), false)))) = some (r1, r2, r3, r4, r5) := h
 clear h
 revert H; refine bnd ?_; rintro ⟨rY, rZ, sA, qE, qZ, arR⟩ A2 H; try dsimp only at H
 replace H := sB H
 obtain ⟨rfl, H⟩ | ⟨rfl, H⟩ := H
 ·revert H; refine bnd ?_; rintro ⟨Dy, Dz, Ea, Eb⟩ A4 H; try dsimp only at H
  focus
   simp only [am, an] at H
   obtain ⟨rfl, rfl, rfl, rfl, rfl⟩ := H
   go_enter Tryz.func18, Tryz.ntmps18
   go_wp2_with (first | (refine aw 2 #[.int .i64 0, .string (⟨#[]⟩ : ByteArray), .slice none 0 0, .slice none 0 0] 25 ?_; intro dZ hg w5 hbox hb; have lF := ab (hbox); have Ot : Aside0 (w.heap.size ≤ dZ) := ⟨Z16⟩; have Ou : Aside0 (w.heap.size ≤ dZ) := ⟨Z16⟩; replace HB := ab (below_step (w := w) zB hb); clear hb hbox hg) | (refine gl 7 (some 8) Tryz.func7 #[.string a0] ?_; (with_reducible refine (bU.calls k a0 rY rZ sA qE qZ true _ A2.out).mono ?_); rintro e w6 ⟨v360, v363, rfl, ho0, ho1, hb⟩; refine ⟨_, rfl, ?_⟩; have kG := ab (Kd.R_lower ho0 (below_size zB)); have kH := ab (Kd.R_lower ho1 (below_size zB)); replace lF := ab (blk_below (g := dZ) zC hb); replace HB := ab (below_step (w := w) zB hb); clear hb ho0 ho1) | (refine aw 4 #[.int .i64 0, .int .i64 0, .int .i64 0, .slice none 0 0, .slice none 0 0] 31 ?_; intro eM hg w7 hbox hb; replace kG := ab (Kd.R_below (by (with_reducible repeat (first | apply Kd.R_alloc | apply Kd.R_drewN | apply Kd.R_drew)); exact kG.out) hb); replace kH := ab (Kd.R_below (Kd.R_elderB (by (with_reducible repeat (first | apply Kd.R_alloc | apply Kd.R_drewN | apply Kd.R_drew)); exact kH.out) eM (Nat.le_of_eq hg.symm)) hb); have rA := ab (hbox); have Ov : Aside0 (w.heap.size ≤ eM) := ⟨Z16⟩; have Ow : Aside0 (w.heap.size ≤ eM) := ⟨Z16⟩; replace HB := ab (below_step (w := w) zB hb); have lW : Aside0 (dZ ≠ eM) := ⟨by rw [hg]; exact Nat.ne_of_lt (blk_lt (g := dZ) zC)⟩; have lX : Aside0 (eM ≠ dZ) := ⟨by rw [hg]; exact Nat.ne_of_gt (blk_lt (g := dZ) zC)⟩; replace lF := ab (blk_below (g := dZ) zC hb); clear hb hbox hg; have ahN := lX.out; have ahO := lW.out; obtain ⟨lI, lJ, wO, wP, ahP, lK, lL, wQ, wR, ahQ⟩ := cz5 rA.out; obtain ⟨yS, co10, eo10⟩ := Kd.R_slice kG.out; subst eo10; obtain ⟨wA, co11, eo11⟩ := Kd.R_slice kH.out; subst eo11) | (refine gl 37 (some 16) Tryz.func37 #[.string a0, .agg #[.int .i64 rY, .int .i64 rZ, .int .i64 sA, .slice yS qE.length co10, .slice wA qZ.length co11]] ?_; (with_reducible refine (aQ.calls k a0 rY rZ sA _ _ qE _ _ qZ Dy Dz Ea Eb _ ?side1 ?side2 ?side3 ?side4 A4.out).mono ?_); (case side1 => refine (Kd.R_reads' (e := 93) (base := w.heap.size) (ok := fun k_ => True) (n := qE.length) (c := co10) ?_).2.2; exact Z33); (case side2 => exact (Kd.R_reads' kG.out).2.1); (case side3 => refine (Kd.R_reads' (e := 31) (base := w.heap.size) (ok := fun k_ => (some k_ ≠ (.slice yS qE.length co10 : Value).ownBlock ∧ k_ ≠ eM)) (n := qZ.length) (c := co11) ?_).2.2; exact Z31); (case side4 => exact (Kd.R_reads' kH.out).2.1); rintro e w12 ⟨v370, v373, rfl, ho0, ho1, hb⟩; refine ⟨_, rfl, ?_⟩; replace kG := ab (Kd.R_below Z33 hb); replace kH := ab (Kd.R_below Z31 hb); have Fh := ab (Kd.R_lower ho0 (below_size zB)); have Fi := ab (Kd.R_lower (Kd.R_newB ho1 (g := dZ) zC) (below_size zB)); replace lF := ab (blk_below (g := dZ) zC hb); replace rA := ab (blk_below (g := eM) (o := .cells #[.int .i64 rY, .int .i64 rZ, .int .i64 sA, .slice yS qE.length co10, .slice wA qZ.length co11] 31 (0, 0)) zC hb); replace HB := ab (below_step (w := w) zB hb); clear hb ho0 ho1; obtain ⟨oZ, pA, Af, Ag, pB, pC, Ah, Ai⟩ := cz4 lF.out; obtain ⟨lY, co14, eo14⟩ := Kd.R_slice Fh.out; subst eo14; obtain ⟨Hm, co15, eo15⟩ := Kd.R_slice Fi.out; subst eo15))
   refine bodyPost_ret (results_ct rfl _ _ dZ 25 #[.int .i64 Dy, .string Dz, .slice lY Ea.length co14, .slice Hm Eb.length co15] (0, 0) _ rfl zC Tryz.underlying25 rfl (by kernel_rfl)) rfl ?_
   exact ⟨_, _, Z8, by (with_reducible repeat (first | apply Kd.R_alloc | apply Kd.R_drewN | apply Kd.R_drew)); exact Kd.R_mono (Kd.R_far (p := ⟨dZ, 3, none⟩) (Kd.R_far (p := ⟨dZ, 2, none⟩) (Kd.R_far (p := ⟨dZ, 1, none⟩) (Kd.R_far (p := ⟨dZ, 0, none⟩) (Kd.R_types Fh.out lF.out (by decide)) (fun _ hk => hk.2) (.int .i64 Dy)) (fun _ hk => hk.2) (.string Dz)) (fun _ hk => hk.2) (.slice lY Ea.length co14)) (fun _ hk => hk.2) (.slice Hm Eb.length co15)) (fun _ hk => trivial), by (with_reducible repeat (first | apply Kd.R_alloc | apply Kd.R_drewN | apply Kd.R_drew)); exact Kd.R_mono (Kd.R_far (p := ⟨dZ, 3, none⟩) (Kd.R_far (p := ⟨dZ, 2, none⟩) (Kd.R_far (p := ⟨dZ, 1, none⟩) (Kd.R_far (p := ⟨dZ, 0, none⟩) (Kd.R_mono Fi.out (fun k_ hk => (⟨hk, hk.2⟩ : _ ∧ k_ ≠ dZ))) (fun _ hk => hk.2) (.int .i64 Dy)) (fun _ hk => hk.2) (.string Dz)) (fun _ hk => hk.2) (.slice lY Ea.length co14)) (fun _ hk => hk.2) (.slice Hm Eb.length co15)) (fun _ hk => hk.1.1), zB⟩
 focus
  simp only [am, an] at H
  obtain ⟨rfl, rfl, rfl, rfl, rfl⟩ := H
  go_enter Tryz.func18, Tryz.ntmps18
  go_wp2_with (first | (refine aw 2 #[.int .i64 0, .string (⟨#[]⟩ : ByteArray), .slice none 0 0, .slice none 0 0] 25 ?_; intro dZ hg w16 hbox hb; have lF := ab (hbox); have Ot : Aside0 (w.heap.size ≤ dZ) := ⟨Z16⟩; have Ou : Aside0 (w.heap.size ≤ dZ) := ⟨Z16⟩; replace HB := ab (below_step (w := w) zB hb); clear hb hbox hg) | (refine gl 7 (some 8) Tryz.func7 #[.string a0] ?_; (with_reducible refine (bU.calls k a0 rY rZ sA qE qZ false _ A2.out).mono ?_); rintro e w17 ⟨v360, v363, rfl, ho0, ho1, hb⟩; refine ⟨_, rfl, ?_⟩; have kG := ab (Kd.R_lower ho0 (below_size zB)); have kH := ab (Kd.R_lower ho1 (below_size zB)); replace lF := ab (blk_below (g := dZ) zC hb); replace HB := ab (below_step (w := w) zB hb); clear hb ho0 ho1) | (refine aw 4 #[.int .i64 0, .int .i64 0, .int .i64 0, .slice none 0 0, .slice none 0 0] 31 ?_; intro eM hg w18 hbox hb; replace kG := ab (Kd.R_below (by (with_reducible repeat (first | apply Kd.R_alloc | apply Kd.R_drewN | apply Kd.R_drew)); exact kG.out) hb); replace kH := ab (Kd.R_below (Kd.R_elderB (by (with_reducible repeat (first | apply Kd.R_alloc | apply Kd.R_drewN | apply Kd.R_drew)); exact kH.out) eM (Nat.le_of_eq hg.symm)) hb); have rA := ab (hbox); have Ov : Aside0 (w.heap.size ≤ eM) := ⟨Z16⟩; have Ow : Aside0 (w.heap.size ≤ eM) := ⟨Z16⟩; replace HB := ab (below_step (w := w) zB hb); have lW : Aside0 (dZ ≠ eM) := ⟨by rw [hg]; exact Nat.ne_of_lt (blk_lt (g := dZ) zC)⟩; have lX : Aside0 (eM ≠ dZ) := ⟨by rw [hg]; exact Nat.ne_of_gt (blk_lt (g := dZ) zC)⟩; replace lF := ab (blk_below (g := dZ) zC hb); clear hb hbox hg; have aoG := lX.out; have aoH := lW.out; obtain ⟨Ar, Au, Av, Aw, Ws, Ax, Ay, Az, Ba, Wt⟩ := cz5 rA.out; obtain ⟨pL, co21, eo21⟩ := Kd.R_slice kG.out; subst eo21; obtain ⟨arS, co22, eo22⟩ := Kd.R_slice kH.out; subst eo22; obtain ⟨Wu, Wv, Ww, Wx, Wy, Wz, Xa, Xb⟩ := cz4 lF.out))
  refine bodyPost_ret (results_ct rfl _ _ dZ 25 #[.int .i64 0, .string (⟨#[]⟩ : ByteArray), .slice none 0 0, .slice none 0 0] (0, 0) _ rfl zC Tryz.underlying25 rfl (by kernel_rfl)) rfl ?_
  exact ⟨_, _, Z8, Z9, Z9, zB⟩
def cU.f (bU : cH) (k : Nat) (a0 : ByteArray) : Option (Int × ByteArray × List ByteArray × (List (S25)) × Bool) := if (a0.size : Int) > 65536 then (some (0, (⟨#[]⟩ : ByteArray), ([] : List ByteArray), ([] : List (S25)), false)) else ((bT.f k a0).bind fun Ec => (if Ec = true then ((bH.f k a0).bind fun Ed => (if Ed = true then ((dA.f bU k a0).bind fun bt378 => (some (bt378.1, bt378.2.1, bt378.2.2.1, bt378.2.2.2.1, bt378.2.2.2.2))) else (some (0, (⟨#[]⟩ : ByteArray), ([] : List ByteArray), ([] : List (S25)), false)))) else (some (0, (⟨#[]⟩ : ByteArray), ([] : List ByteArray), ([] : List (S25)), false))))
theorem cU.calls (bU : cH) (k : Nat) (a0 : ByteArray) (r1 : Int) (r2 : ByteArray) (r3 : List ByteArray) (r4 : List (S25)) (r5 : Bool) (w : World) (h : cU.f bU k a0 = some (r1, r2, r3, r4, r5)) :
 Calls Tryz.prog 6 #[.string a0] w fun e w' => ∃ v2_ v3_ : Value, e = .returned (.tuple #[.agg #[.int .i64 r1, .string r2, v2_, v3_], .bool r5]) ∧ Kd.R Kd.string 9 w' w.heap.size (fun _ => True) v2_ r3 ∧ Kd.R k25 25 w' w.heap.size (fun k_ => some k_ ≠ (v2_ : Value).ownBlock) v3_ r4 ∧ Below w.heap.size w w' := by
 have hu25 := Tryz.underlying25
 have HB := ab (Below.refl w.heap.size w)
 have H : (if (a0.size : Int) > 65536 then (some (0, (⟨#[]⟩ : ByteArray), ([] : List ByteArray), ([] : List (S25)), false)) else ((bT.f k a0).bind fun Ec => (if Ec = true then ((bH.f k a0).bind fun Ed => (if Ed = true then ((dA.f bU k a0).bind fun bt378 => (some (bt378.1, bt378.2.1, bt378.2.2.1, bt378.2.2.2.1, bt378.2.2.2.2))) else (some (0, (⟨#[]⟩ : ByteArray), ([] : List ByteArray), ([] : List (S25)), false)))) else (some (0, (⟨#[]⟩ : ByteArray), ([] : List ByteArray), ([] : List (S25)), false))))) = some (r1, r2, r3, r4, r5) := h
 clear h
 revert H; refine sIk_k (fun c2 H => ?_) fun c2 H => ?_
 ·have gS : decide (65536 < (a0.size : Int)) = true := ae c2
  have mX : decide (65536 < a0.size) = true := ae (by omega)
  clear c2
  focus
   simp only [am, an] at H
   obtain ⟨rfl, rfl, rfl, rfl, rfl⟩ := H
   go_enter Tryz.func6, Tryz.ntmps6
   go_wp2_with (first | (refine aw 2 #[.int .i64 0, .string (⟨#[]⟩ : ByteArray), .slice none 0 0, .slice none 0 0] 25 ?_; intro eH hg w3 hbox hb; have fW := ab (hbox); have yT : Aside0 (w.heap.size ≤ eH) := ⟨Z16⟩; have yU : Aside0 (w.heap.size ≤ eH) := ⟨Z16⟩; replace HB := ab (below_step (w := w) zB hb); clear hb hbox hg; obtain ⟨wG, wH, Fo, Fp, wI, wJ, Fq, Fr⟩ := cz4 fW.out))
   refine bodyPost_ret (results_ct rfl _ _ eH 25 #[.int .i64 0, .string (⟨#[]⟩ : ByteArray), .slice none 0 0, .slice none 0 0] (0, 0) _ rfl zC Tryz.underlying25 rfl (by kernel_rfl)) rfl ?_
   exact ⟨_, _, Z8, Z9, Z9, zB⟩
 have gS : decide (65536 < (a0.size : Int)) = false := af c2
 have mX : decide (65536 < a0.size) = false := af (by omega)
 clear c2
 revert H; refine bnd ?_; rintro Ec A5 H
 replace H := sB H
 obtain ⟨rfl, H⟩ | ⟨rfl, H⟩ := H
 ·revert H; refine bnd ?_; rintro Ed A7 H
  replace H := sB H
  obtain ⟨rfl, H⟩ | ⟨rfl, H⟩ := H
  ·revert H; refine bnd ?_; rintro ⟨Ee, Ef, Eg, Eh, ahR⟩ A9 H; try dsimp only at H
   focus
    simp only [am, an] at H
    obtain ⟨rfl, rfl, rfl, rfl, rfl⟩ := H
    go_enter Tryz.func6, Tryz.ntmps6
    go_wp2_with (first | (refine aw 2 #[.int .i64 0, .string (⟨#[]⟩ : ByteArray), .slice none 0 0, .slice none 0 0] 25 ?_; intro eH hg w10 hbox hb; have fW := ab (hbox); have yT : Aside0 (w.heap.size ≤ eH) := ⟨Z16⟩; have yU : Aside0 (w.heap.size ≤ eH) := ⟨Z16⟩; replace HB := ab (below_step (w := w) zB hb); clear hb hbox hg) | (go_at_call 16; (with_reducible refine (bT.calls k a0 true _ A5.out).mono ?_); rintro e w' ⟨rfl, ⟨nd, rfl⟩⟩; (try (rw [drewN_self w10]; generalize hq_ : World.drewN w10 _ = w10; replace fW := dqC hq_ fW; replace HB := dqB hq_ HB; clear hq_))) | (go_at_call 17; (with_reducible refine (bH.calls k a0 true _ A7.out).mono ?_); rintro e w' ⟨rfl, ⟨nd, rfl⟩⟩; (try (rw [drewN_self w10]; generalize hq_ : World.drewN w10 _ = w10; replace fW := dqC hq_ fW; replace HB := dqB hq_ HB; clear hq_))) | (refine gl 18 (some 19) Tryz.func18 #[.string a0] ?_; (with_reducible refine (dA.calls bU k a0 Ee Ef Eg Eh ahR _ A9.out).mono ?_); rintro e w11 ⟨v381, v384, rfl, ho0, ho1, hb⟩; refine ⟨_, rfl, ?_⟩; have Fj := ab (Kd.R_lower ho0 (below_size zB)); have Fk := ab (Kd.R_lower (Kd.R_newB ho1 (g := eH) zC) (below_size zB)); replace fW := ab (blk_below (g := eH) zC hb); replace HB := ab (below_step (w := w) zB hb); clear hb ho0 ho1; obtain ⟨kZ, lA, qA, qB, lB, lC, qC, qD⟩ := cz4 fW.out; obtain ⟨Hn, co13, eo13⟩ := Kd.R_slice Fj.out; subst eo13; obtain ⟨lY, co14, eo14⟩ := Kd.R_slice Fk.out; subst eo14))
    refine bodyPost_ret (results_ct rfl _ _ eH 25 #[.int .i64 Ee, .string Ef, .slice Hn Eg.length co13, .slice lY Eh.length co14] (0, 0) _ rfl zC Tryz.underlying25 rfl (by kernel_rfl)) rfl ?_
    exact ⟨_, _, Z8, by (with_reducible repeat (first | apply Kd.R_alloc | apply Kd.R_drewN | apply Kd.R_drew)); exact Kd.R_mono (Kd.R_far (p := ⟨eH, 3, none⟩) (Kd.R_far (p := ⟨eH, 2, none⟩) (Kd.R_far (p := ⟨eH, 1, none⟩) (Kd.R_far (p := ⟨eH, 0, none⟩) (Kd.R_types Fj.out fW.out (by decide)) (fun _ hk => hk.2) (.int .i64 Ee)) (fun _ hk => hk.2) (.string Ef)) (fun _ hk => hk.2) (.slice Hn Eg.length co13)) (fun _ hk => hk.2) (.slice lY Eh.length co14)) (fun _ hk => trivial), by (with_reducible repeat (first | apply Kd.R_alloc | apply Kd.R_drewN | apply Kd.R_drew)); exact Kd.R_mono (Kd.R_far (p := ⟨eH, 3, none⟩) (Kd.R_far (p := ⟨eH, 2, none⟩) (Kd.R_far (p := ⟨eH, 1, none⟩) (Kd.R_far (p := ⟨eH, 0, none⟩) (Kd.R_mono Fk.out (fun k_ hk => (⟨hk, hk.2⟩ : _ ∧ k_ ≠ eH))) (fun _ hk => hk.2) (.int .i64 Ee)) (fun _ hk => hk.2) (.string Ef)) (fun _ hk => hk.2) (.slice Hn Eg.length co13)) (fun _ hk => hk.2) (.slice lY Eh.length co14)) (fun _ hk => hk.1.1), zB⟩
  focus
   simp only [am, an] at H
   obtain ⟨rfl, rfl, rfl, rfl, rfl⟩ := H
   go_enter Tryz.func6, Tryz.ntmps6
   go_wp2_with (first | (refine aw 2 #[.int .i64 0, .string (⟨#[]⟩ : ByteArray), .slice none 0 0, .slice none 0 0] 25 ?_; intro eH hg w15 hbox hb; have fW := ab (hbox); have yT : Aside0 (w.heap.size ≤ eH) := ⟨Z16⟩; have yU : Aside0 (w.heap.size ≤ eH) := ⟨Z16⟩; replace HB := ab (below_step (w := w) zB hb); clear hb hbox hg) | (go_at_call 16; (with_reducible refine (bT.calls k a0 true _ A5.out).mono ?_); rintro e w' ⟨rfl, ⟨nd, rfl⟩⟩; (try (rw [drewN_self w15]; generalize hq_ : World.drewN w15 _ = w15; replace fW := dqC hq_ fW; replace HB := dqB hq_ HB; clear hq_))) | (go_at_call 17; (with_reducible refine (bH.calls k a0 false _ A7.out).mono ?_); rintro e w' ⟨rfl, ⟨nd, rfl⟩⟩; (try (rw [drewN_self w15]; generalize hq_ : World.drewN w15 _ = w15; replace fW := dqC hq_ fW; replace HB := dqB hq_ HB; clear hq_)); obtain ⟨sO, sP, sQ, sR, sS, sT, sU, sV⟩ := cz4 fW.out))
   refine bodyPost_ret (results_ct rfl _ _ eH 25 #[.int .i64 0, .string (⟨#[]⟩ : ByteArray), .slice none 0 0, .slice none 0 0] (0, 0) _ rfl zC Tryz.underlying25 rfl (by kernel_rfl)) rfl ?_
   exact ⟨_, _, Z8, Z9, Z9, zB⟩
 focus
  simp only [am, an] at H
  obtain ⟨rfl, rfl, rfl, rfl, rfl⟩ := H
  go_enter Tryz.func6, Tryz.ntmps6
  go_wp2_with (first | (refine aw 2 #[.int .i64 0, .string (⟨#[]⟩ : ByteArray), .slice none 0 0, .slice none 0 0] 25 ?_; intro eH hg w17 hbox hb; have fW := ab (hbox); have yT : Aside0 (w.heap.size ≤ eH) := ⟨Z16⟩; have yU : Aside0 (w.heap.size ≤ eH) := ⟨Z16⟩; replace HB := ab (below_step (w := w) zB hb); clear hb hbox hg) | (go_at_call 16; (with_reducible refine (bT.calls k a0 false _ A5.out).mono ?_); rintro e w' ⟨rfl, ⟨nd, rfl⟩⟩; (try (rw [drewN_self w17]; generalize hq_ : World.drewN w17 _ = w17; replace fW := dqC hq_ fW; replace HB := dqB hq_ HB; clear hq_)); obtain ⟨Bx, Bz, Xc, Xd, Ca, Cb, Xe, Xf⟩ := cz4 fW.out))
  refine bodyPost_ret (results_ct rfl _ _ eH 25 #[.int .i64 0, .string (⟨#[]⟩ : ByteArray), .slice none 0 0, .slice none 0 0] (0, 0) _ rfl zC Tryz.underlying25 rfl (by kernel_rfl)) rfl ?_
  exact ⟨_, _, Z8, Z9, Z9, zB⟩
structure iU where
 f : Nat → ByteArray → Int → Option (Nat × Option Int)
 mono : ∀ a0 a1 k, LeO (f k a0 a1) (f (k + 1) a0 a1)
 calls : ∀ (k : Nat) (a0 : ByteArray) (a1 : Int) (r1 : Nat) (r2 : Option Int) (w : World) (h : f k a0 a1 = some (r1, r2)) (hW : Wok w),
  Calls Tryz.prog 59 #[.string a0, .int .i64 a1] w fun e w' => ∃ (FL_ : Nat) (u_ : Value), e = .returned (.tuple #[.float .f64 FL_, u_]) ∧ Below w.heap.size w w'
structure nT where
 oK : iU
end
section
open Go.RowKit Go.PW Go.PL Go.PM
attribute [local go_sem] run_store_float max2_int min2_int max_two min_two max_three min_three max_four min_four
set_option linter.unusedVariables false
set_option linter.unusedSimpArgs false
structure bS where
 f : Nat → ByteArray → Option (ByteArray)
 mono : ∀ a0 k, LeO (f k a0) (f (k + 1) a0)
 calls : ∀ (k : Nat) (a0 : ByteArray) (r : ByteArray) (w : World) (h : f k a0 = some r),
  Calls Tryz.prog 49 #[.string a0] w fun e w' => e = .returned (.string r) ∧ Below w.heap.size w w'
def eC.f (k : Nat) (a0 : ByteArray) : Option (ByteArray) := none
theorem eC.mono : ∀ a0 k, LeO (eC.f k a0) (eC.f (k + 1) a0) := by
 intro a0 k
 unfold eC.f
 exact zM
set_option maxHeartbeats 8000000 in
set_option maxRecDepth 100000 in
theorem eC.calls (k : Nat) (a0 : ByteArray) (r : ByteArray) (w : World) (h : eC.f k a0 = some r) :
 Calls Tryz.prog 49 #[.string a0] w fun e w' => e = .returned (.string r) ∧ Below w.heap.size w w' := by
 have HB := ab (Below.refl w.heap.size w)
 have H : (none) = some r := h
 clear h
 exact absurd H (by simp)
structure rE where
 vL : bS
def dK.f (a0_0 : Int) (a0_1 : ByteArray) (a0_2 : ByteArray) (a0_3 : Nat) (a0_4 : Int) (l0_5 : List Int) : Option (Bool) := if a0_0 = 0 then (some ((a0_1.size : Int) != 0)) else (some true)
end
end Go.Proofs.YtkjnahgicfmicaaGreatDoor.Sp

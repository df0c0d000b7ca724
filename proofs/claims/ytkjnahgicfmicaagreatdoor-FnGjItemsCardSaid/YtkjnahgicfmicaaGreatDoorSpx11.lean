import Derived.Test.YtkjnahgicfmicaaGreatDoorZip
import Derived.Test.YtkjnahgicfmicaaGreatDoorQa
import Derived.Test.YtkjnahgicfmicaaGreatDoorQh
namespace Go.Proofs.YtkjnahgicfmicaaGreatDoor.Sp
open Go.RowKit Go.Proofs.YtkjnahgicfmicaaGreatDoorW.PrintWords Go.Proofs.YtkjnahgicfmicaaGreatDoorW.PrintLast Go.Proofs.YtkjnahgicfmicaaGreatDoorW.PrintMore
attribute [local go_sem] run_store_float max2_int min2_int max_two min_two max_three min_three max_four min_four
set_option linter.unusedVariables false
set_option linter.unusedSimpArgs false
mutual
def bL.l0 : Nat → ByteArray → Int → Int → ByteArray → ByteArray → Nat → Int → Option (Int × ByteArray × ByteArray × Nat × Int × List Int)
 | 0, _, _, _, _, _, _, _ => none
 | k + 1, x0, x4, jN, jO, iA, iB, jI => if x4 < (x0.size : Int) then (if 0 ≤ x4 then (if (bt x0 x4) = 123 then (bL.j1 k x0 x4 true jN jO iA iB jI) else (bL.j1 k x0 x4 ((bt x0 x4) == 91) jN jO iA iB jI)) else (none)) else ((bU.f jN jO iA iB jI ([] : List Int)).bind fun Kq => (if Kq = true then (some (jN, jO, iA, iB, x4, ([] : List Int))) else (some (jN, jO, iA, iB, jI, ([] : List Int)))))
def bL.j1 : Nat → ByteArray → Int → Bool → Int → ByteArray → ByteArray → Nat → Int → Option (Int × ByteArray × ByteArray × Nat × Int × List Int)
 | 0, _, _, _, _, _, _, _, _ => none
 | k + 1, x0, x4, x20, jN, jO, iA, iB, jI => if x20 = true then (if 0 ≤ x4 then (if x4 ≤ (x0.size : Int) then ((bU.f 5 (x0.extract (x4 : Int).toNat x0.size) iA iB jI ([] : List Int)).bind fun Kr => (if Kr = true then (some (5, x0.extract (x4 : Int).toNat x0.size, iA, iB, x4, ([] : List Int))) else (some (5, x0.extract (x4 : Int).toNat x0.size, iA, iB, jI, ([] : List Int))))) else (none)) else (none)) else (if 0 ≤ x4 then (if x4 < (x0.size : Int) then (if (bt x0 x4) ≤ 32 then (bL.l0 k x0 (wrap64 (x4 + 1)) jN jO iA iB jI) else (none)) else (none)) else (none))
end
def bL.f (k : Nat) (a0 : ByteArray) : Option (Int × ByteArray × ByteArray × Nat × Int × List Int) := bL.l0 k a0 0 0 (⟨#[]⟩ : ByteArray) (⟨#[]⟩ : ByteArray) (0 : Nat) 0
theorem bL.mono_l : ∀ k, (∀ y0 y1 y2 y3 y4 y5 y6, LeO (bL.l0 k y0 y1 y2 y3 y4 y5 y6) (bL.l0 (k + 1) y0 y1 y2 y3 y4 y5 y6)) ∧ (∀ y0 y1 y2 y3 y4 y5 y6 y7, LeO (bL.j1 k y0 y1 y2 y3 y4 y5 y6 y7) (bL.j1 (k + 1) y0 y1 y2 y3 y4 y5 y6 y7))
 | 0 => ⟨fun _ _ _ _ _ _ _ r h => by simp [bL.l0] at h, fun _ _ _ _ _ _ _ _ r h => by simp [bL.j1] at h⟩
 | k + 1 => by
  obtain ⟨ih0, ih1⟩ := bL.mono_l k
  refine ⟨?_, ?_⟩
  ·intro y0 y1 y2 y3 y4 y5 y6
   unfold bL.l0
   repeat' first
   | (with_reducible exact ih0 _ _ _ _ _ _ _)
   | (with_reducible exact ih1 _ _ _ _ _ _ _ _)
   | (with_reducible exact LeO.refl _)
   | (with_reducible exact LeO.none _)
   | (with_reducible refine LeO.ite ?_ ?_)
   | (with_reducible refine LeO.bind ?_ (fun _ => ?_))
   | exact ih0 _ _ _ _ _ _ _
   | exact ih1 _ _ _ _ _ _ _ _
   | exact LeO.none _
   | refine LeO.ite ?_ ?_
   | refine LeO.bind ?_ (fun _ => ?_)
  ·intro y0 y1 y2 y3 y4 y5 y6 y7
   unfold bL.j1
   repeat' first
   | (with_reducible exact ih0 _ _ _ _ _ _ _)
   | (with_reducible exact ih1 _ _ _ _ _ _ _ _)
   | (with_reducible exact LeO.refl _)
   | (with_reducible exact LeO.none _)
   | (with_reducible refine LeO.ite ?_ ?_)
   | (with_reducible refine LeO.bind ?_ (fun _ => ?_))
   | exact ih0 _ _ _ _ _ _ _
   | exact ih1 _ _ _ _ _ _ _ _
   | exact LeO.none _
   | refine LeO.ite ?_ ?_
   | refine LeO.bind ?_ (fun _ => ?_)
theorem bL.mono : ∀ a0 k, LeO (bL.f k a0) (bL.f (k + 1) a0) := by
 intro a0 k
 obtain ⟨ih0, ih1⟩ := bL.mono_l k
 unfold bL.f
 exact zM
instance bL.mi  {a0 k} : LeI (bL.f k a0) (bL.f (k + 1) a0) := ⟨⟨bL.mono a0 k⟩⟩
set_option maxHeartbeats 8000000 in
set_option maxRecDepth 100000 in
theorem bL.calls (k : Nat) (a0 : ByteArray) (r1 : Int) (r2 : ByteArray) (r3 : ByteArray) (r4 : Nat) (r5 : Int) (r6 : List Int) (w : World) (h : bL.f k a0 = some (r1, r2, r3, r4, r5, r6)) :
 Calls Tryz.prog 21 #[.string a0] w fun e w' => ∃ v5_ : Value, e = .returned (.agg #[.int .i64 r1, .string r2, .string r3, .float .f64 r4, .int .i64 r5, v5_]) ∧ (v5_ = .slice none 0 0 ∧ Kd.R (Kd.int .i64) 3 w' w.heap.size (fun _ => True) v5_ r6) ∧ Below w.heap.size w w' := by
 have hu55 := Tryz.underlying55
 have HB := Aside0.mk (Below.refl w.heap.size w)
 have H : (bL.l0 k a0 0 0 (⟨#[]⟩ : ByteArray) (⟨#[]⟩ : ByteArray) (0 : Nat) 0) = some (r1, r2, r3, r4, r5, r6) := h
 clear h
 have H' := Aside0.mk H
 clear H
 go_enter Tryz.func21, Tryz.ntmps21
 go_wp2_with (first | ((with_reducible refine gate_dst (N := 2) rfl ?_); refine box_event ?hg (N := 2) ?hd (cs := #[.int .i64 0, .string (⟨#[]⟩ : ByteArray), .string (⟨#[]⟩ : ByteArray), .float .f64 (0 : Nat), .int .i64 0, .slice none 0 0]) (t := 55) ?hr ?_; (case hd => rfl); (case hg => rfl); (case hr => exact Z14); intro iM hg w2 hbox hb; have kC := Aside0.mk (hbox); have ahP : Aside0 (w.heap.size ≤ iM) := ⟨Z21⟩; have ahQ : Aside0 (w.heap.size ≤ iM) := ⟨Z21⟩; replace HB := Aside0.mk (below_step (w := w) zB hb); clear hb hbox hg) | ((with_reducible refine gate_dst (N := 3) rfl ?_); refine box_event ?hg (N := 3) ?hd (cs := #[.int .i64 0, .string (⟨#[]⟩ : ByteArray), .string (⟨#[]⟩ : ByteArray), .float .f64 (0 : Nat), .int .i64 0, .slice none 0 0]) (t := 55) ?hr ?_; (case hd => rfl); (case hg => rfl); (case hr => exact Z14); intro lI hg w3 hbox hb; have jJ := Aside0.mk (hbox); have ahR : Aside0 (w.heap.size ≤ lI) := ⟨Z21⟩; have ahS : Aside0 (w.heap.size ≤ lI) := ⟨Z21⟩; replace HB := Aside0.mk (below_step (w := w) zB hb); have kJ : Aside0 (iM ≠ lI) := ⟨by rw [hg]; exact Nat.ne_of_lt (blk_lt (g := iM) zC)⟩; have kK : Aside0 (lI ≠ iM) := ⟨by rw [hg]; exact Nat.ne_of_gt (blk_lt (g := iM) zC)⟩; replace kC := Aside0.mk (blk_below (g := iM) zC hb); clear hb hbox hg))
 (try simp only [Act.put, List.setIfInBounds_toArray, List.set_cons_zero, List.set_cons_succ])
 go_loopg [4] k (fun kq v4 w' => ∃ (eM : Int) (kL : Int) (kM : ByteArray) (kN : ByteArray) (kO : Nat) (kP : Int) (eN : Int) (eO : ByteArray) (cV : ByteArray) (cW : Nat), v4 = .int .i64 eM ∧ Aside0 (bL.l0 kq a0 eM eN eO cV cW 0 = some (r1, r2, r3, r4, r5, r6)) ∧ Aside0 (kq ≤ k) ∧ Aside0 (w'.heap[iM]? = some (.cells #[.int .i64 kL, .string kM, .string kN, .float .f64 kO, .int .i64 kP, (.slice none 0 0)] 55 (0, 0))) ∧ Aside0 (w'.heap[lI]? = some (.cells #[.int .i64 eN, .string eO, .string cV, .float .f64 cW, .int .i64 0, (.slice none 0 0)] 55 (0, 0))) ∧ Aside0 (Below w.heap.size w w'))
 case atStart => exact ⟨(0), (0), ((⟨#[]⟩ : ByteArray)), ((⟨#[]⟩ : ByteArray)), ((0 : Nat)), (0), (0), ((⟨#[]⟩ : ByteArray)), ((⟨#[]⟩ : ByteArray)), ((0 : Nat)), Z9, H', ⟨Nat.le_refl _⟩, ⟨zC⟩, ⟨zC⟩, ⟨zB⟩⟩
 case round =>
  clear H'
  obtain ⟨eM, kL, kM, kN, kO, kP, eN, eO, cV, cW, rfl, HA, HK1, kC, jJ, HB⟩ := hrel
  cases gk with
  | zero => exact absurd HA.out (by simp [bL.l0])
  | succ k1 =>
   have H := HA.out
   clear HA
   simp only [bL.l0] at H
   revert H; refine sId1_d0 (fun gV H => ?_) fun gV H => ?_
   ·have wN := Aside0.mk H
    clear H
    go_upto_region 5 with (fail)
    go_cut [20] (fun v20 wc => ∃ (kq : Nat) (xG : Bool), v20 = .bool xG ∧ Aside0 (bL.j1 kq a0 eM xG eN eO cV cW 0 = some (r1, r2, r3, r4, r5, r6)) ∧ Aside0 (kq ≤ k1) ∧ Aside0 (wc.heap[iM]? = some (.cells #[.int .i64 kL, .string kM, .string kN, .float .f64 kO, .int .i64 kP, (.slice none 0 0)] 55 (0, 0))) ∧ Aside0 (wc.heap[lI]? = some (.cells #[.int .i64 eN, .string eO, .string cV, .float .f64 cW, .int .i64 0, (.slice none 0 0)] 55 (0, 0))) ∧ Aside0 (Below w.heap.size w wc))
    case first =>
     have H := wN.out
     clear wN
     revert H; refine sNd1 fun eX H => ?_
     (first | rw [eX] | (simp only [i64_w, i32_w]; rw [eX]) | skip)
     revert H; refine sIe1n0_e0n1 (fun jH lR H => ?_) fun jH lR H => ?_
     ·focus
       have H' := Aside0.mk H
       clear H
       have p7 := eq_true (of_decide_eq_true Z8 : 0 ≤ (eM : Int))
       have q7 := eq_true (of_decide_eq_true Z8 : eM < (a0.size : Int))
       have hx7 := bt_at a0 eM
       go_wp2
       go_meet
       case rel => exact ⟨_, (true), Z9, H', ⟨Z63⟩, ⟨zC⟩, ⟨zC⟩, ⟨zB⟩⟩
     focus
      have H' := Aside0.mk H
      clear H
      have p7 := eq_true (of_decide_eq_true Z8 : 0 ≤ (eM : Int))
      have q7 := eq_true (of_decide_eq_true Z8 : eM < (a0.size : Int))
      have hx7 := bt_at a0 eM
      have p9 := eq_true (of_decide_eq_true Z8 : 0 ≤ (eM : Int))
      have q9 := eq_true (of_decide_eq_true Z8 : eM < (a0.size : Int))
      have hx9 := bt_at a0 eM
      go_wp2
      go_meet
      case rel => exact ⟨_, (((bt a0 eM) == 91)), Z9, H', ⟨Z63⟩, ⟨zC⟩, ⟨zC⟩, ⟨zB⟩⟩
    case rest =>
     clear wN
     try clear gV
     obtain ⟨kq, xG, rfl, HA, HJ4, kC, jJ, HB⟩ := hcut
     cases kq with
     | zero => exact absurd HA.out (by simp [bL.j1])
     | succ kj4 =>
      have H := HA.out
      clear HA
      simp only [bL.j1] at H
      replace H := sB H
      obtain ⟨rfl, H⟩ | ⟨rfl, H⟩ := H
      ·revert H; refine sNt1d1 fun iR lY H => ?_
       revert H; refine sNt1d1 fun lX xH H => ?_
       revert H; refine bnd ?_; rintro Kr vT H
       replace H := sB H
       obtain ⟨rfl, H⟩ | ⟨rfl, H⟩ := H
       ·focus
         simp only [Option.some.injEq, Prod.mk.injEq] at H
         obtain ⟨rfl, rfl, rfl, rfl, rfl, rfl⟩ := H
         have Ks := kK.out
         have Kt := kJ.out
         obtain ⟨sM, sN, sO, sP, Al, Am, sQ, sR, sS, sT, An, Ao⟩ := cz6 jJ.out
         go_wp2_with (first | (refine gl 47 (some 119) Tryz.func47 #[.agg #[.int .i64 5, .string (a0.extract (eM : Int).toNat a0.size), .string cV, .float .f64 cW, .int .i64 0, .slice none 0 0]] ?_; (refine (bU.calls 5 (a0.extract (eM : Int).toNat a0.size) cV cW 0 _ _ ([] : List Int) true _ ?side1 ?side2 vT.out).mono ?_); (case side1 => exact Kd.C_nil _ _); (case side2 => exact Nat.le_refl _); rintro e w17 ⟨rfl, hb⟩; refine ⟨_, rfl, ?_⟩; replace kC := Aside0.mk (blk_below (g := iM) zC hb); replace jJ := Aside0.mk (blk_below (g := lI) (o := .cells #[.int .i64 5, .string (a0.extract (eM : Int).toNat a0.size), .string cV, .float .f64 cW, .int .i64 0, .slice none 0 0] 55 (0, 0)) zC hb); replace HB := Aside0.mk (below_step (w := w) zB hb); clear hb; obtain ⟨sU, sV, Ap, Aq, Rq, Rs, sW, sX, Ar, Au, Rt, Ru⟩ := cz6 jJ.out; obtain ⟨sY, sZ, tA, tB, tC, Rv, tD, tE, tF, tG, tH, Rw⟩ := cz6 kC.out))
         refine bodyPost_ret (results_cell_row rfl _ _ iM 55 #[.int .i64 5, .string (a0.extract (eM : Int).toNat a0.size), .string cV, .float .f64 cW, .int .i64 eM, .slice none 0 0] (0, 0) _ rfl zC Tryz.underlying55 rfl (by kernel_rfl)) rfl ?_
         exact ⟨_, Z11, ⟨rfl, Kd.R_nil _ _ _ _ _⟩, zB⟩
       focus
        simp only [Option.some.injEq, Prod.mk.injEq] at H
        obtain ⟨rfl, rfl, rfl, rfl, rfl, rfl⟩ := H
        have Gk := kK.out
        have Gl := kJ.out
        obtain ⟨nF, nG, pF, pG, tI, Rx, nH, nI, pH, pI, tJ, Ry⟩ := cz6 jJ.out
        go_wp2_with (first | (refine gl 47 (some 119) Tryz.func47 #[.agg #[.int .i64 5, .string (a0.extract (eM : Int).toNat a0.size), .string cV, .float .f64 cW, .int .i64 0, .slice none 0 0]] ?_; (refine (bU.calls 5 (a0.extract (eM : Int).toNat a0.size) cV cW 0 _ _ ([] : List Int) false _ ?side1 ?side2 vT.out).mono ?_); (case side1 => exact Kd.C_nil _ _); (case side2 => exact Nat.le_refl _); rintro e w22 ⟨rfl, hb⟩; refine ⟨_, rfl, ?_⟩; replace kC := Aside0.mk (blk_below (g := iM) zC hb); replace jJ := Aside0.mk (blk_below (g := lI) (o := .cells #[.int .i64 5, .string (a0.extract (eM : Int).toNat a0.size), .string cV, .float .f64 cW, .int .i64 0, .slice none 0 0] 55 (0, 0)) zC hb); replace HB := Aside0.mk (below_step (w := w) zB hb); clear hb; obtain ⟨Av, Aw, Ax, Ay, Rz, Sa, Az, Ba, Bb, Bc, Sb, Sc⟩ := cz6 jJ.out; obtain ⟨Bd, Be, Bf, Bg, Bh, Sd, Bi, Bj, Bk, Bl, Bm, Se⟩ := cz6 kC.out))
        refine bodyPost_ret (results_cell_row rfl _ _ iM 55 #[.int .i64 5, .string (a0.extract (eM : Int).toNat a0.size), .string cV, .float .f64 cW, .int .i64 0, .slice none 0 0] (0, 0) _ rfl zC Tryz.underlying55 rfl (by kernel_rfl)) rfl ?_
        exact ⟨_, Z11, ⟨rfl, Kd.R_nil _ _ _ _ _⟩, zB⟩
      revert H; refine sNd1 fun lH H => ?_
      revert H; refine sNd1 fun oV H => ?_
      revert H; refine sNd1 fun oW H => ?_
      focus
       have H' := Aside0.mk H
       clear H
       have p27 := eq_true (of_decide_eq_true Z8 : 0 ≤ (eM : Int))
       have q27 := eq_true (of_decide_eq_true Z8 : eM < (a0.size : Int))
       have hx27 := bt_at a0 eM
       go_wp2
       go_roundg kj4
       case measure => have := HK1.out; have := HJ4.out; omega
       case rel => exact ⟨(wrap64 (eM + 1)), (kL), (kM), (kN), (kO), (kP), (eN), (eO), (cV), (cW), Z9, H', ⟨by have := HK1.out; have := HJ4.out; omega⟩, ⟨zC⟩, ⟨zC⟩, ⟨zB⟩⟩
   revert H; refine bnd ?_; rintro Kq Ku H
   replace H := sB H
   obtain ⟨rfl, H⟩ | ⟨rfl, H⟩ := H
   ·focus
     simp only [Option.some.injEq, Prod.mk.injEq] at H
     obtain ⟨rfl, rfl, rfl, rfl, rfl, rfl⟩ := H
     have Kv := kK.out
     have Kw := kJ.out
     obtain ⟨tK, tL, tM, tN, Bn, Sf, tO, tP, tQ, tR, Bo, Sg⟩ := cz6 jJ.out
     go_wp2_with (first | (refine gl 47 (some 119) Tryz.func47 #[.agg #[.int .i64 eN, .string eO, .string cV, .float .f64 cW, .int .i64 0, .slice none 0 0]] ?_; (refine (bU.calls eN eO cV cW 0 _ _ ([] : List Int) true _ ?side1 ?side2 Ku.out).mono ?_); (case side1 => exact Kd.C_nil _ _); (case side2 => exact Nat.le_refl _); rintro e w33 ⟨rfl, hb⟩; refine ⟨_, rfl, ?_⟩; replace kC := Aside0.mk (blk_below (g := iM) zC hb); replace jJ := Aside0.mk (blk_below (g := lI) zC hb); replace HB := Aside0.mk (below_step (w := w) zB hb); clear hb; obtain ⟨Bp, Bq, Br, Bs, Bt, Sh, Bu, Bv, Bw, Bx, Bz, Si⟩ := cz6 jJ.out; obtain ⟨Ca, Cb, Cc, Cd, Ce, Sj, Cf, Cg, Ch, Ci, Cj, Sk⟩ := cz6 kC.out))
     refine bodyPost_ret (results_cell_row rfl _ _ iM 55 #[.int .i64 eN, .string eO, .string cV, .float .f64 cW, .int .i64 eM, .slice none 0 0] (0, 0) _ rfl zC Tryz.underlying55 rfl (by kernel_rfl)) rfl ?_
     exact ⟨_, Z11, ⟨rfl, Kd.R_nil _ _ _ _ _⟩, zB⟩
   focus
    simp only [Option.some.injEq, Prod.mk.injEq] at H
    obtain ⟨rfl, rfl, rfl, rfl, rfl, rfl⟩ := H
    have ahT := kK.out
    have ahU := kJ.out
    obtain ⟨Sl, Sm, Sn, So, Sr, Ss, St, Su, Sv, Sw, Sx, Sy⟩ := cz6 jJ.out
    go_wp2_with (first | (refine gl 47 (some 119) Tryz.func47 #[.agg #[.int .i64 eN, .string eO, .string cV, .float .f64 cW, .int .i64 0, .slice none 0 0]] ?_; (refine (bU.calls eN eO cV cW 0 _ _ ([] : List Int) false _ ?side1 ?side2 Ku.out).mono ?_); (case side1 => exact Kd.C_nil _ _); (case side2 => exact Nat.le_refl _); rintro e w38 ⟨rfl, hb⟩; refine ⟨_, rfl, ?_⟩; replace kC := Aside0.mk (blk_below (g := iM) zC hb); replace jJ := Aside0.mk (blk_below (g := lI) zC hb); replace HB := Aside0.mk (below_step (w := w) zB hb); clear hb; obtain ⟨Ck, Cl, Cm, Cn, Co, Cp, Cq, Cr, Ct, Cu, Cv, Cw⟩ := cz6 jJ.out; obtain ⟨Sz, Ta, Tb, Tc, Td, Te, Tf, Tg, Th, Ti, Tj, Tk⟩ := cz6 kC.out))
    refine bodyPost_ret (results_cell_row rfl _ _ iM 55 #[.int .i64 eN, .string eO, .string cV, .float .f64 cW, .int .i64 0, .slice none 0 0] (0, 0) _ rfl zC Tryz.underlying55 rfl (by kernel_rfl)) rfl ?_
    exact ⟨_, Z11, ⟨rfl, Kd.R_nil _ _ _ _ _⟩, zB⟩
end Go.Proofs.YtkjnahgicfmicaaGreatDoor.Sp

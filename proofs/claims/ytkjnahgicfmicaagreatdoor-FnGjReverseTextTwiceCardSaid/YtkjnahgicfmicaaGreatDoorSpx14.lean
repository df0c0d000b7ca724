import Derived.Test.YtkjnahgicfmicaaGreatDoorZip
import Derived.Test.YtkjnahgicfmicaaGreatDoorQa
import Derived.Test.YtkjnahgicfmicaaGreatDoorQh
import Derived.Test.YtkjnahgicfmicaaGreatDoorQi
import Derived.Test.YtkjnahgicfmicaaGreatDoorQf
namespace Go.Proofs.YtkjnahgicfmicaaGreatDoor.Sp
open Go.RowKit Go.PW Go.PL Go.PM
attribute [local go_sem] run_store_float max2_int min2_int max_two min_two max_three min_three max_four min_four
set_option linter.unusedVariables false
set_option linter.unusedSimpArgs false
mutual
def aK.l0 (aN : bP) (bA : bR) : Nat → av → Int → Int → av → av → Nat → Int → Option (Int × Int × av × av × Nat × Int × List Int × Bool)
 | 0, _, _, _, _, _, _, _ => none
 | k + 1, x0, x1, eC, eH, dT, dG, dN => if x1 < (x0.size : Int) then (if 0 ≤ x1 then (if (bt x0 x1) = 123 then (aK.j1 aN bA k x0 x1 true eC eH dT dG dN) else (aK.j1 aN bA k x0 x1 ((bt x0 x1) == 91) eC eH dT dG dN)) else (none)) else (some (x1, eC, eH, dT, dG, dN, ([] : List Int), false))
def aK.j1 (aN : bP) (bA : bR) : Nat → av → Int → Bool → Int → av → av → Nat → Int → Option (Int × Int × av × av × Nat × Int × List Int × Bool)
 | 0, _, _, _, _, _, _, _, _ => none
 | k + 1, x0, x1, x30, eC, eH, dT, dG, dN => if x30 = true then ((bA.f k x0 x1).bind fun bt441 => (some (bt441.1, 5, bt441.2, dT, dG, wrap64 ((mn bt441.1 (x0.size : Int)) - (bt441.2.size : Int)), ([] : List Int), true))) else (if 0 ≤ x1 then (if x1 < (x0.size : Int) then (if (bt x0 x1) ≤ 32 then (aK.l0 aN bA k x0 (wrap64 (x1 + 1)) eC eH dT dG dN) else (if (bt x0 x1) = 34 then ((aH.f k x0 (wrap64 (x1 + 1))).bind fun bt443 => (if bt443.2.2.2 = true then (if bt443.2.2.1 = true then (if 1 ≤ (wrap64 ((bt443.2.1.size : Int) - 1)) then (if (wrap64 ((bt443.2.1.size : Int) - 1)) ≤ (bt443.2.1.size : Int) then ((aN.f k (bt443.2.1.extract 1 ((wrap64 ((bt443.2.1.size : Int) - 1)) : Int).toNat)).bind fun sR => (some (bt443.1, 3, bt443.2.1, sR, dG, dN, ([] : List Int), true))) else (none)) else (none)) else (if 1 ≤ (wrap64 ((bt443.2.1.size : Int) - 1)) then (if (wrap64 ((bt443.2.1.size : Int) - 1)) ≤ (bt443.2.1.size : Int) then (some (bt443.1, 3, bt443.2.1, bt443.2.1.extract 1 ((wrap64 ((bt443.2.1.size : Int) - 1)) : Int).toNat, dG, dN, ([] : List Int), true)) else (none)) else (none))) else (none))) else (if (bt x0 x1) = 110 then (if (wrap64 (x1 + 1)) < (x0.size : Int) then (if 0 ≤ (wrap64 (x1 + 1)) then (if (bt x0 (wrap64 (x1 + 1))) = 117 then (aK.j3 aN bA k x0 x1 eC eH dT dG dN) else (none)) else (none)) else (aK.j3 aN bA k x0 x1 eC eH dT dG dN)) else (if (bt x0 x1) = 116 then (aK.j2 aN bA k x0 x1 false (bt x0 x1) ((bt x0 x1) == 116) eC eH dT dG dN) else (aK.j2 aN bA k x0 x1 false (bt x0 x1) ((bt x0 x1) == 102) eC eH dT dG dN))))) else (none)) else (none))
def aK.j3 (aN : bP) (bA : bR) : Nat → av → Int → Int → av → av → Nat → Int → Option (Int × Int × av × av × Nat × Int × List Int × Bool)
 | 0, _, _, _, _, _, _, _ => none
 | k + 1, x0, x1, eC, eH, dT, dG, dN => if 0 ≤ x1 then (if x1 < (x0.size : Int) then ((bB.f k x0 x1).bind fun bt448 => (if (bt x0 x1) = 116 then (some (bt448.1, 4, bt448.2, dT, dG, dN, ([] : List Int), true)) else (if (bt x0 x1) = 102 then (some (bt448.1, 1, bt448.2, dT, dG, dN, ([] : List Int), true)) else (some (bt448.1, eC, bt448.2, dT, dG, dN, ([] : List Int), true))))) else (none)) else (none)
def aK.j2 (aN : bP) (bA : bR) : Nat → av → Int → Bool → Int → Bool → Int → av → av → Nat → Int → Option (Int × Int × av × av × Nat × Int × List Int × Bool)
 | 0, _, _, _, _, _, _, _, _, _, _ => none
 | k + 1, x0, x1, x11, x58, x63, eC, eH, dT, dG, dN => if x63 = true then (aK.j3 aN bA k x0 x1 eC eH dT dG dN) else (if x58 = 43 then (none) else (if x58 = 45 then (none) else (if x58 = 48 then (none) else (if x58 = 49 then (none) else (if x58 = 50 then (none) else (if x58 = 51 then (none) else (if x58 = 52 then (none) else (if x58 = 53 then (none) else (if x58 = 54 then (none) else (if x58 = 55 then (none) else (if x58 = 56 then (none) else (if x58 = 57 then (none) else (if x58 = 105 then (none) else (if x58 = 73 then (none) else (if x58 = 78 then (none) else (if x11 = true then (none) else (aK.l0 aN bA k x0 (wrap64 (x1 + 1)) eC eH dT dG dN)))))))))))))))))
end
def aK.f (aN : bP) (bA : bR) (k : Nat) (a0 : av) (a1 : Int) (a2 : Bool) : Option (Int × Int × av × av × Nat × Int × List Int × Bool) := aK.l0 aN bA k a0 a1 0 (⟨#[]⟩ : av) (⟨#[]⟩ : av) (0 : Nat) 0
theorem aK.mono_l (aN : bP) (bA : bR) : ∀ k, (∀ y0 y1 y2 y3 y4 y5 y6, LeO (aK.l0 aN bA k y0 y1 y2 y3 y4 y5 y6) (aK.l0 aN bA (k + 1) y0 y1 y2 y3 y4 y5 y6)) ∧ (∀ y0 y1 y2 y3 y4 y5 y6 y7, LeO (aK.j1 aN bA k y0 y1 y2 y3 y4 y5 y6 y7) (aK.j1 aN bA (k + 1) y0 y1 y2 y3 y4 y5 y6 y7)) ∧ (∀ y0 y1 y2 y3 y4 y5 y6, LeO (aK.j3 aN bA k y0 y1 y2 y3 y4 y5 y6) (aK.j3 aN bA (k + 1) y0 y1 y2 y3 y4 y5 y6)) ∧ (∀ y0 y1 y2 y3 y4 y5 y6 y7 y8 y9, LeO (aK.j2 aN bA k y0 y1 y2 y3 y4 y5 y6 y7 y8 y9) (aK.j2 aN bA (k + 1) y0 y1 y2 y3 y4 y5 y6 y7 y8 y9))
 | 0 => ⟨fun _ _ _ _ _ _ _ r h => by simp [aK.l0] at h, fun _ _ _ _ _ _ _ _ r h => by simp [aK.j1] at h, fun _ _ _ _ _ _ _ r h => by simp [aK.j3] at h, fun _ _ _ _ _ _ _ _ _ _ r h => by simp [aK.j2] at h⟩
 | k + 1 => by
  obtain ⟨ih0, ih1, ih2, ih3⟩ := aK.mono_l aN bA k
  refine ⟨?_, ?_, ?_, ?_⟩
  ·intro y0 y1 y2 y3 y4 y5 y6
   unfold aK.l0
   exact zM
  ·intro y0 y1 y2 y3 y4 y5 y6 y7
   unfold aK.j1
   exact zM
  ·intro y0 y1 y2 y3 y4 y5 y6
   unfold aK.j3
   exact zM
  ·intro y0 y1 y2 y3 y4 y5 y6 y7 y8 y9
   unfold aK.j2
   exact zM
theorem aK.mono (aN : bP) (bA : bR) : ∀ a0 a1 a2 k, LeO (aK.f aN bA k a0 a1 a2) (aK.f aN bA (k + 1) a0 a1 a2) := by
 intro a0 a1 a2 k
 obtain ⟨ih0, ih1, ih2, ih3⟩ := aK.mono_l aN bA k
 unfold aK.f
 exact zM
set_option maxHeartbeats 8000000 in
set_option maxRecDepth 100000 in
theorem aK.calls (aN : bP) (bA : bR) (k : Nat) (a0 : av) (a1 : Int) (a2 : Bool) (r1 : Int) (r2 : Int) (r3 : av) (r4 : av) (r5 : Nat) (r6 : Int) (r7 : List Int) (r8 : Bool) (w : World) (h : aK.f aN bA k a0 a1 a2 = some (r1, r2, r3, r4, r5, r6, r7, r8)) (hW : Wok w) :
 Calls Tryz.prog 50 #[.string a0, .int .i64 a1, .bool true] w fun e w' => ∃ v6_ : Value, e = .returned (.tuple #[.int .i64 r1, .agg #[.int .i64 r2, .string r3, .string r4, .float .f64 r5, .int .i64 r6, v6_], .bool r8]) ∧ Kd.R (Kd.int .i64) 3 w' w.heap.size (fun _ => True) v6_ r7 ∧ Below w.heap.size w w' := by
 have HWK := ab hW
 clear hW
 have hu55 := Tryz.underlying55
 have HB := ab (Below.refl w.heap.size w)
 unfold aK.f at h
 have H := h
 clear h
 have H' := ab H
 clear H
 go_enter Tryz.func50, Tryz.ntmps50
 go_wp2_with (first | (refine ax 7 #[.int .i64 0, .string (⟨#[]⟩ : av), .string (⟨#[]⟩ : av), .float .f64 (0 : Nat), .int .i64 0, .slice none 0 0] 55 ?_; intro eA hg w4 hbox hb; have cH := ab (hbox); have adI : Aside0 (w.heap.size ≤ eA) := ⟨Z24⟩; have adJ : Aside0 (w.heap.size ≤ eA) := ⟨Z24⟩; replace HB := ab (below_step (w := w) zB hb); clear hb hbox hg) | (refine ax 9 #[.int .i64 0, .string (⟨#[]⟩ : av), .string (⟨#[]⟩ : av), .float .f64 (0 : Nat), .int .i64 0, .slice none 0 0] 55 ?_; intro eQ hg w5 hbox hb; have cJ := ab (hbox); have adK : Aside0 (w.heap.size ≤ eQ) := ⟨Z24⟩; have adL : Aside0 (w.heap.size ≤ eQ) := ⟨Z24⟩; replace HB := ab (below_step (w := w) zB hb); have dK : Aside0 (eA ≠ eQ) := ⟨by rw [hg]; exact Nat.ne_of_lt (blk_lt (g := eA) zC)⟩; have dL : Aside0 (eQ ≠ eA) := ⟨by rw [hg]; exact Nat.ne_of_gt (blk_lt (g := eA) zC)⟩; replace cH := ab (blk_below (g := eA) zC hb); clear hb hbox hg))
 (try simp only [Act.put, ap, aq, ar])
 go_loopg [1] k (fun kq v1 w' => ∃ (bM : Int) (eI : Int) (eJ : av) (eK : av) (eL : Nat) (eM : Int) (cW : Int) (cY : av) (cK : av) (bQ : Nat) (bT : Int), v1 = .int .i64 bM ∧ Aside0 (aK.l0 aN bA kq a0 bM cW cY cK bQ bT = some (r1, r2, r3, r4, r5, r6, r7, r8)) ∧ Aside0 (kq ≤ k) ∧ Aside0 (w'.heap[eA]? = some (.cells #[.int .i64 eI, .string eJ, .string eK, .float .f64 eL, .int .i64 eM, (.slice none 0 0)] 55 (0, 0))) ∧ Aside0 (w'.heap[eQ]? = some (.cells #[.int .i64 cW, .string cY, .string cK, .float .f64 bQ, .int .i64 bT, (.slice none 0 0)] 55 (0, 0))) ∧ Aside0 (Below w.heap.size w w'))
 case atStart => exact ⟨(a1), (0), ((⟨#[]⟩ : av)), ((⟨#[]⟩ : av)), ((0 : Nat)), (0), (0), ((⟨#[]⟩ : av)), ((⟨#[]⟩ : av)), ((0 : Nat)), (0), Z7, H', ⟨Nat.le_refl _⟩, ⟨zC⟩, ⟨zC⟩, ⟨zB⟩⟩
 case round =>
  clear H'
  obtain ⟨bM, eI, eJ, eK, eL, eM, cW, cY, cK, bQ, bT, rfl, HA, HK1, cH, cJ, HB⟩ := hrel
  cases gk with
  | zero => exact absurd HA.out (by simp [aK.l0])
  | succ k1 =>
   have H := HA.out
   clear HA
   simp only [aK.l0] at H
   revert H; refine sId1_d0 (fun eV H => ?_) fun eV H => ?_
   ·have Yz := ab H
    clear H
    go_upto_region 5 with (fail)
    go_cut [30] (fun v30 wc => ∃ (kq : Nat) (tV : Bool), v30 = .bool tV ∧ Aside0 (aK.j1 aN bA kq a0 bM tV cW cY cK bQ bT = some (r1, r2, r3, r4, r5, r6, r7, r8)) ∧ Aside0 (kq ≤ k1) ∧ Aside0 (wc.heap[eA]? = some (.cells #[.int .i64 eI, .string eJ, .string eK, .float .f64 eL, .int .i64 eM, (.slice none 0 0)] 55 (0, 0))) ∧ Aside0 (wc.heap[eQ]? = some (.cells #[.int .i64 cW, .string cY, .string cK, .float .f64 bQ, .int .i64 bT, (.slice none 0 0)] 55 (0, 0))) ∧ Aside0 (Below w.heap.size w wc))
    case first =>
     have H := Yz.out
     clear Yz
     revert H; refine sNd1 fun hY H => ?_
     (first | rw [hY] | (simp only [i64_w, i32_w]; rw [hY]) | skip)
     revert H; refine sIe1n0_e0n1 (fun kS lO H => ?_) fun kS lO H => ?_
     ·focus
       have H' := ab H
       clear H
       have p9 := ag (ac Z6 : 0 ≤ (bM : Int))
       have q9 := ag (ac Z6 : bM < (a0.size : Int))
       have hx9 := bt_at a0 bM
       go_wp2
       go_meet
       case rel => exact ⟨_, (true), Z7, H', ⟨Z76⟩, ⟨zC⟩, ⟨zC⟩, ⟨zB⟩⟩
     focus
      have H' := ab H
      clear H
      have p9 := ag (ac Z6 : 0 ≤ (bM : Int))
      have q9 := ag (ac Z6 : bM < (a0.size : Int))
      have hx9 := bt_at a0 bM
      have p11 := ag (ac Z6 : 0 ≤ (bM : Int))
      have q11 := ag (ac Z6 : bM < (a0.size : Int))
      have hx11 := bt_at a0 bM
      go_wp2
      go_meet
      case rel => exact ⟨_, (((bt a0 bM) == 91)), Z7, H', ⟨Z76⟩, ⟨zC⟩, ⟨zC⟩, ⟨zB⟩⟩
    case rest =>
     clear Yz
     try clear eV
     obtain ⟨kq, tV, rfl, HA, HJ6, cH, cJ, HB⟩ := hcut
     cases kq with
     | zero => exact absurd HA.out (by simp [aK.j1])
     | succ kj6 =>
      have H := HA.out
      clear HA
      simp only [aK.j1] at H
      replace H := sB H
      obtain ⟨rfl, H⟩ | ⟨rfl, H⟩ := H
      ·revert H; refine bnd ?_; rintro ⟨tW, nJ⟩ vH H; try dsimp only at H
       obtain ⟨tX, oS⟩ : ∃ j_ : Int, (mn tW (a0.size : Int)) = j_ := ⟨_, rfl⟩
       replace H : (some (tW, 5, nJ, cK, bQ, wrap64 ((tX) - (nJ.size : Int)), ([] : List Int), true)) = some (r1, r2, r3, r4, r5, r6, r7, r8) := by first | (rw [oS] at H; exact H) | (simp only [oS] at H ⊢; exact H)
       (try rw [oS] at vH)
       have Za : (if (a0.size : Int) < tW then (a0.size : Int) else tW) = tX := oS
       focus
        simp only [am, an] at H
        obtain ⟨rfl, rfl, rfl, rfl, rfl, rfl, rfl, rfl⟩ := H
        try go_wp2_with (first | (refine gl 64 (some 34) Tryz.func64 #[.string a0, .int .i64 bM] ?_; (with_reducible refine (bA.calls kj6 a0 bM tW nJ _ vH.out (HWK.out.below zB)).mono ?_); rintro e w' ⟨rfl, ⟨nd, rfl⟩⟩; refine ⟨_, rfl, ?_⟩; (try (rw [drewN_self wc]; generalize hq_ : World.drewN wc _ = wc; replace cH := dqC hq_ cH; replace cJ := dqC hq_ cJ; replace HB := dqB hq_ HB; clear hq_)); have adM := dL.out; have adN := dK.out; obtain ⟨wH, wI, wJ, wK, Lv, Lw, wL, wM, wN, wO, Lx, Ly⟩ := cz6 cJ.out))
        generalize hq_ : World.setCell _ _ _ = w17
        replace cH := sqC (g := eA) hq_ ⟨zC⟩
        replace cJ : Aside0 (w17.heap[eQ]? = some (.cells #[.int .i64 5, .string nJ, .string cK, .float .f64 bQ, .int .i64 (wrap64 ((tX) - (nJ.size : Int))), .slice none 0 0] 55 (0, 0))) := ⟨by subst hq_; exact zC⟩
        replace HB : Aside0 (Below w.heap.size w w17) := ⟨by subst hq_; exact zB⟩
        clear hq_
        replace cH := ab (blk_drew cH.out)
        replace cJ := ab (blk_drew cJ.out)
        replace HB := ab (below_drew1 HB.out)
        refine st1 5 [] (S := fun w' => H6 w' eQ (.int .i64 5) (.string nJ) (.string cK) (.float .f64 bQ) (.int .i64 (wrap64 ((tX) - (nJ.size : Int)))) (.slice none 0 0)) (fun hHeld => ?_)
        generalize w17.drew = w18 at cH cJ HB hHeld ⊢
        refine pz 0 50 ?_
        refine pz 2 6 ?_
        refine tk6 1 51 ?_
        refine on1 3 none fun K hK => ?_
        obtain ⟨akF, akG, akH, akI, akJ, akK, adO, adP, adQ, adR, adS, adT⟩ := cz6 cH.out
        have hns19_1 := dL.out
        have hms19_1 := dK.out
        refine sk1 ?_
        refine hK.out _ _ zS (fun hHeld => ?_)
        clear hK K
        refine pz 4 8 ?_
        refine dn1 ?_
        try go_wp2
        refine bodyPost_ret (results_list (rs := [.tmp 6, .cell 7 55, .tmp 8]) rfl (by simp) (.tmp (.cell eA 55 #[.int .i64 5, .string nJ, .string cK, .float .f64 bQ, .int .i64 (wrap64 ((tX) - (nJ.size : Int))), .slice none 0 0] (0, 0) _ rfl zC Tryz.underlying55 rfl (by kernel_rfl) (.tmp .nil)))) rfl ?_
        exact ⟨_, by first | rfl | (simp [errW_none, errW_some] <;> rfl) | (simp only [← oS]; first | rfl | (simp [errW_none, errW_some] <;> rfl)) | (simp [*, errW_none, errW_some] <;> rfl), Z8, zB⟩
      revert H; refine sNd1 fun kB H => ?_
      revert H; refine sNd1 fun kU H => ?_
      revert H; refine sId1_d0 (fun oR H => ?_) fun oR H => ?_
      ·focus
        have H' := ab H
        clear H
        have p27 := ag (ac Z6 : 0 ≤ (bM : Int))
        have q27 := ag (ac Z6 : bM < (a0.size : Int))
        have hx27 := bt_at a0 bM
        go_wp2
        go_roundg kj6
        case measure => have := HK1.out; have := HJ6.out; omega
        case rel => exact ⟨(wrap64 (bM + 1)), (eI), (eJ), (eK), (eL), (eM), (cW), (cY), (cK), (bQ), (bT), Z7, H', ⟨by have := HK1.out; have := HJ6.out; omega⟩, ⟨zC⟩, ⟨zC⟩, ⟨zB⟩⟩
      have Bt := ab H
      clear H
      have p27 := ag (ac Z6 : 0 ≤ (bM : Int))
      have q27 := ag (ac Z6 : bM < (a0.size : Int))
      have hx27 := bt_at a0 bM
      have p29 := ag (ac Z6 : 0 ≤ (bM : Int))
      have q29 := ag (ac Z6 : bM < (a0.size : Int))
      have hx29 := bt_at a0 bM
      go_upto_block 5 with (fail)
      go_cut [1] (fun v1 wc => ∃ (kq : Nat) (fN : Int) (lS : Int) (lT : av) (lU : av) (lV : Nat) (lW : Int) (fP : Int) (jQ : av) (dF : av), v1 = .int .i64 fN ∧ Aside0 (aK.j3 aN bA kq a0 fN fP jQ dF bQ bT = some (r1, r2, r3, r4, r5, r6, r7, r8)) ∧ Aside0 (kq ≤ kj6) ∧ Aside0 (wc.heap[eA]? = some (.cells #[.int .i64 lS, .string lT, .string lU, .float .f64 lV, .int .i64 lW, (.slice none 0 0)] 55 (0, 0))) ∧ Aside0 (wc.heap[eQ]? = some (.cells #[.int .i64 fP, .string jQ, .string dF, .float .f64 bQ, .int .i64 bT, (.slice none 0 0)] 55 (0, 0))) ∧ Aside0 (Below w.heap.size w wc))
      case first =>
       have H := Bt.out
       clear Bt
       revert H; refine sIe1n0_e0n1k (fun jI mT H => ?_) fun jI mT c31 H => ?_
       ·(first | rw [jI] | (simp only [i64_w, i32_w]; rw [jI]) | skip)
        revert H; refine bnd ?_; rintro ⟨Fh, iA, akL, akM⟩ Lu H; try dsimp only at H
        replace H := sB H
        obtain ⟨rfl, H⟩ | ⟨rfl, H⟩ := H
        ·replace H := sB H
         obtain ⟨rfl, H⟩ | ⟨rfl, H⟩ := H
         ·revert H; refine sNt1d1 fun tQ tR H => ?_
          revert H; refine sNt1d1 fun lP lQ H => ?_
          revert H; refine bnd ?_; rintro sR Zb H
          focus
           simp only [am, an] at H
           obtain ⟨rfl, rfl, rfl, rfl, rfl, rfl, rfl, rfl⟩ := H
           try go_wp2_with (first | (refine gl 48 (some 87) Tryz.func48 #[.string a0, .int .i64 (wrap64 (bM + 1))] ?_; (with_reducible refine (aH.calls kj6 a0 (wrap64 (bM + 1)) Fh iA true true _ Lu.out).mono ?_); rintro e w' ⟨rfl, ⟨nd, rfl⟩⟩; refine ⟨_, rfl, ?_⟩; (try (rw [drewN_self wc]; generalize hq_ : World.drewN wc _ = wc; replace cH := dqC hq_ cH; replace cJ := dqC hq_ cJ; replace HB := dqB hq_ HB; clear hq_)); have adU := dL.out; have adV := dK.out; obtain ⟨Lz, Ma, Mb, Mc, Md, Me, Mf, Mg, Mh, Mi, Mj, Mk⟩ := cz6 cJ.out) | (refine gl 49 (some 106) Tryz.func49 #[.string (iA.extract 1 ((wrap64 ((iA.size : Int) - 1)) : Int).toNat)] ?_; (with_reducible refine (aN.calls kj6 (iA.extract 1 ((wrap64 ((iA.size : Int) - 1)) : Int).toNat) sR _ Zb.out).mono ?_); rintro e w40 ⟨rfl, hb⟩; refine ⟨_, rfl, ?_⟩; replace cH := ab (blk_below (g := eA) zC hb); replace cJ := ab (blk_below (g := eQ) (o := .cells #[.int .i64 3, .string iA, .string cK, .float .f64 bQ, .int .i64 bT, .slice none 0 0] 55 (0, 0)) zC hb); replace HB := ab (below_step (w := w) zB hb); clear hb; obtain ⟨Ml, Mm, Mo, Mp, Mq, Mr, Ms, Mt, Mu, Mw, Mx, My⟩ := cz6 cJ.out))
           generalize hq_ : World.setCell _ _ _ = w42
           replace cH := sqC (g := eA) hq_ ⟨zC⟩
           replace cJ : Aside0 (w42.heap[eQ]? = some (.cells #[.int .i64 3, .string iA, .string sR, .float .f64 bQ, .int .i64 bT, .slice none 0 0] 55 (0, 0))) := ⟨by subst hq_; exact zC⟩
           replace HB : Aside0 (Below w.heap.size w w42) := ⟨by subst hq_; exact zB⟩
           clear hq_
           replace cH := ab (blk_drew cH.out)
           replace cJ := ab (blk_drew cJ.out)
           replace HB := ab (below_drew1 HB.out)
           refine st1 5 [] (S := fun w' => H6 w' eQ (.int .i64 3) (.string iA) (.string sR) (.float .f64 bQ) (.int .i64 bT) (.slice none 0 0)) (fun hHeld => ?_)
           generalize w42.drew = w43 at cH cJ HB hHeld ⊢
           refine pz 0 114 ?_
           refine pz 2 6 ?_
           refine tk6 1 115 ?_
           refine on1 3 none fun K hK => ?_
           obtain ⟨akN, akO, akP, Zc, akQ, akR, adW, adX, adY, Fi, adZ, aeA⟩ := cz6 cH.out
           have hns44_1 := dL.out
           have hms44_1 := dK.out
           refine sk1 ?_
           refine hK.out _ _ zS (fun hHeld => ?_)
           clear hK K
           refine pz 4 8 ?_
           refine dn1 ?_
           try go_wp2
           refine bodyPost_ret (results_list (rs := [.tmp 6, .cell 7 55, .tmp 8]) rfl (by simp) (.tmp (.cell eA 55 #[.int .i64 3, .string iA, .string sR, .float .f64 bQ, .int .i64 bT, .slice none 0 0] (0, 0) _ rfl zC Tryz.underlying55 rfl (by kernel_rfl) (.tmp .nil)))) rfl ?_
           exact ⟨_, Z9, Z8, zB⟩
         revert H; refine sNt1d1 fun Fd Fe H => ?_
         revert H; refine sNt1d1 fun tY Fj H => ?_
         focus
          simp only [am, an] at H
          obtain ⟨rfl, rfl, rfl, rfl, rfl, rfl, rfl, rfl⟩ := H
          try go_wp2_with (first | (refine gl 48 (some 87) Tryz.func48 #[.string a0, .int .i64 (wrap64 (bM + 1))] ?_; (with_reducible refine (aH.calls kj6 a0 (wrap64 (bM + 1)) Fh iA false true _ Lu.out).mono ?_); rintro e w' ⟨rfl, ⟨nd, rfl⟩⟩; refine ⟨_, rfl, ?_⟩; (try (rw [drewN_self wc]; generalize hq_ : World.drewN wc _ = wc; replace cH := dqC hq_ cH; replace cJ := dqC hq_ cJ; replace HB := dqB hq_ HB; clear hq_)); have aeB := dL.out; have aeC := dK.out; obtain ⟨rB, rC, Mz, Na, Nb, Nc, rD, rE, Nd, Nf, Ng, Nh⟩ := cz6 cJ.out))
          generalize hq_ : World.setCell _ _ _ = w54
          replace cH := sqC (g := eA) hq_ ⟨zC⟩
          replace cJ : Aside0 (w54.heap[eQ]? = some (.cells #[.int .i64 3, .string iA, .string (iA.extract 1 ((wrap64 ((iA.size : Int) - 1)) : Int).toNat), .float .f64 bQ, .int .i64 bT, .slice none 0 0] 55 (0, 0))) := ⟨by subst hq_; exact zC⟩
          replace HB : Aside0 (Below w.heap.size w w54) := ⟨by subst hq_; exact zB⟩
          clear hq_
          replace cH := ab (blk_drew cH.out)
          replace cJ := ab (blk_drew cJ.out)
          replace HB := ab (below_drew1 HB.out)
          refine st1 5 [] (S := fun w' => H6 w' eQ (.int .i64 3) (.string iA) (.string (iA.extract 1 ((wrap64 ((iA.size : Int) - 1)) : Int).toNat)) (.float .f64 bQ) (.int .i64 bT) (.slice none 0 0)) (fun hHeld => ?_)
          generalize w54.drew = w55 at cH cJ HB hHeld ⊢
          refine pz 0 114 ?_
          refine pz 2 6 ?_
          refine tk6 1 115 ?_
          refine on1 3 none fun K hK => ?_
          obtain ⟨akS, akT, akU, akV, akW, akX, aeD, aeE, aeF, aeG, aeH, aeI⟩ := cz6 cH.out
          have hns56_1 := dL.out
          have hms56_1 := dK.out
          refine sk1 ?_
          refine hK.out _ _ zS (fun hHeld => ?_)
          clear hK K
          refine pz 4 8 ?_
          refine dn1 ?_
          try go_wp2
          refine bodyPost_ret (results_list (rs := [.tmp 6, .cell 7 55, .tmp 8]) rfl (by simp) (.tmp (.cell eA 55 #[.int .i64 3, .string iA, .string (iA.extract 1 ((wrap64 ((iA.size : Int) - 1)) : Int).toNat), .float .f64 bQ, .int .i64 bT, .slice none 0 0] (0, 0) _ rfl zC Tryz.underlying55 rfl (by kernel_rfl) (.tmp .nil)))) rfl ?_
          exact ⟨_, Z9, Z8, zB⟩
        exact absurd H (by simp)
       (first | rw [jI] | (simp only [i64_w, i32_w]; rw [jI]) | skip)
       revert H; refine sIe1n0_e0n1k (fun Ax Ay H => ?_) fun Ax Ay c62 H => ?_
       ·revert H; refine sId1_d0 (fun Az H => ?_) fun Az H => ?_
        ·obtain ⟨sS, rF⟩ : ∃ j_ : Int, (wrap64 (bM + 1)) = j_ := ⟨_, rfl⟩
         replace H : (if 0 ≤ (sS) then (if (bt a0 (sS)) = 117 then (aK.j3 aN bA kj6 a0 bM cW cY cK bQ bT) else (none)) else (none)) = some (r1, r2, r3, r4, r5, r6, r7, r8) := by first | (rw [rF] at H; exact H) | (simp only [rF] at H ⊢; exact H)
         (try rw [rF] at Az)
         have hji64w : (IntKind.i64.wrap (bM + 1)) = sS := (i64_w _).trans rF
         revert H; refine sNd1 fun aeJ H => ?_
         revert H; refine sNe1n0 fun aeK aeL H => ?_
         focus
          have H' := ab H
          clear H
          have p66 := ag (ac Z6 : 0 ≤ ((sS) : Int))
          have q66 := ag (ac Z6 : (sS) < (a0.size : Int))
          have hx66 := bt_at a0 (sS)
          go_wp2
          go_meet
          case rel => exact ⟨_, (bM), (eI), (eJ), (eK), (eL), (eM), (cW), (cY), (cK), Z7, H', ⟨Z65⟩, ⟨zC⟩, ⟨zC⟩, ⟨zB⟩⟩
        focus
         have H' := ab H
         clear H
         go_wp2
         go_meet
         case rel => exact ⟨_, (bM), (eI), (eJ), (eK), (eL), (eM), (cW), (cY), (cK), Z7, H', ⟨Z65⟩, ⟨zC⟩, ⟨zC⟩, ⟨zB⟩⟩
       have Bu := ab H
       clear H
       go_upto_if 63 with (fail)
       go_cut [63] (fun v63 wc => ∃ (kq : Nat) (pN : Bool), v63 = .bool pN ∧ Aside0 (aK.j2 aN bA kq a0 bM false (bt a0 bM) pN cW cY cK bQ bT = some (r1, r2, r3, r4, r5, r6, r7, r8)) ∧ Aside0 (kq ≤ kj6) ∧ Aside0 (wc.heap[eA]? = some (.cells #[.int .i64 eI, .string eJ, .string eK, .float .f64 eL, .int .i64 eM, (.slice none 0 0)] 55 (0, 0))) ∧ Aside0 (wc.heap[eQ]? = some (.cells #[.int .i64 cW, .string cY, .string cK, .float .f64 bQ, .int .i64 bT, (.slice none 0 0)] 55 (0, 0))) ∧ Aside0 (Below w.heap.size w wc))
       case first =>
        have H := Bu.out
        clear Bu
        revert H; refine sIe1n0_e0n1 (fun oT Fk H => ?_) fun oT Fk H => ?_
        ·(first | rw [oT] | (simp only [i64_w, i32_w]; rw [oT]) | skip)
         focus
          have H' := ab H
          clear H
          go_wp2
          go_meet
          case rel => exact ⟨_, (((bt a0 bM) == 116)), Z7, H', ⟨Z65⟩, ⟨zC⟩, ⟨zC⟩, ⟨zB⟩⟩
        (first | rw [oT] | (simp only [i64_w, i32_w]; rw [oT]) | skip)
        focus
         have H' := ab H
         clear H
         go_wp2
         go_meet
         case rel => exact ⟨_, (((bt a0 bM) == 102)), Z7, H', ⟨Z65⟩, ⟨zC⟩, ⟨zC⟩, ⟨zB⟩⟩
       case rest =>
        clear Bu
        try clear kB kU p27 q27 hx27 oR p29 q29 hx29 c31 jI mT c62 Ax Ay
        obtain ⟨kq, pN, rfl, HA, HJ67, cH, cJ, HB⟩ := hcut
        cases kq with
        | zero => exact absurd HA.out (by simp [aK.j2])
        | succ kj67 =>
         have H := HA.out
         clear HA
         simp only [aK.j2] at H
         replace H := sB H
         obtain ⟨rfl, H⟩ | ⟨rfl, H⟩ := H
         ·focus
           have H' := ab H
           clear H
           go_wp2
           go_meet
           case rel => exact ⟨_, (bM), (eI), (eJ), (eK), (eL), (eM), (cW), (cY), (cK), Z7, H', ⟨by have := HK1.out; have := HJ6.out; have := HJ67.out; first | omega | exact Nat.le_refl _⟩, ⟨zC⟩, ⟨zC⟩, ⟨zB⟩⟩
         revert H; refine sI_e0n1 (fun H => ?_) fun aeM aeN H => ?_
         ·exact absurd H (by simp)
         revert H; refine sI_e0n1 (fun H => ?_) fun aeO aeP H => ?_
         ·exact absurd H (by simp)
         revert H; refine sI_e0n1 (fun H => ?_) fun aeQ aeR H => ?_
         ·exact absurd H (by simp)
         revert H; refine sI_e0n1 (fun H => ?_) fun aeS aeT H => ?_
         ·exact absurd H (by simp)
         revert H; refine sI_e0n1 (fun H => ?_) fun aeU aeV H => ?_
         ·exact absurd H (by simp)
         revert H; refine sI_e0n1 (fun H => ?_) fun aeW aeX H => ?_
         ·exact absurd H (by simp)
         revert H; refine sI_e0n1 (fun H => ?_) fun aeY aeZ H => ?_
         ·exact absurd H (by simp)
         revert H; refine sI_e0n1 (fun H => ?_) fun afA afB H => ?_
         ·exact absurd H (by simp)
         revert H; refine sI_e0n1 (fun H => ?_) fun afC afD H => ?_
         ·exact absurd H (by simp)
         revert H; refine sI_e0n1 (fun H => ?_) fun afE afF H => ?_
         ·exact absurd H (by simp)
         revert H; refine sI_e0n1 (fun H => ?_) fun afG afH H => ?_
         ·exact absurd H (by simp)
         revert H; refine sI_e0n1 (fun H => ?_) fun afI afJ H => ?_
         ·exact absurd H (by simp)
         revert H; refine sI_e0n1 (fun H => ?_) fun afK afL H => ?_
         ·exact absurd H (by simp)
         revert H; refine sI_e0n1 (fun H => ?_) fun afM afN H => ?_
         ·exact absurd H (by simp)
         revert H; refine sI_e0n1 (fun H => ?_) fun afO afP H => ?_
         ·exact absurd H (by simp)
         by_cases c86 : false = true
         ·exact absurd c86 (by decide)
         ·clear c86
          rw [if_neg (show ¬ (false = true) by decide)] at H
          focus
           have H' := ab H
           clear H
           go_wp2
           go_roundg kj67
           case measure => have := HK1.out; have := HJ6.out; have := HJ67.out; omega
           case rel => exact ⟨(wrap64 (bM + 1)), (eI), (eJ), (eK), (eL), (eM), (cW), (cY), (cK), (bQ), (bT), Z7, H', ⟨by have := HK1.out; have := HJ6.out; have := HJ67.out; omega⟩, ⟨zC⟩, ⟨zC⟩, ⟨zB⟩⟩
      case rest =>
       clear Bt
       try clear kB kU p27 q27 hx27 oR p29 q29 hx29
       obtain ⟨kq, fN, lS, lT, lU, lV, lW, fP, jQ, dF, rfl, HA, HJ29, cH, cJ, HB⟩ := hcut
       cases kq with
       | zero => exact absurd HA.out (by simp [aK.j3])
       | succ kj29 =>
        have H := HA.out
        clear HA
        simp only [aK.j3] at H
        revert H; refine sNd1 fun afQ H => ?_
        revert H; refine sNd1 fun afR H => ?_
        revert H; refine bnd ?_; rintro ⟨Bv, lC⟩ Dw H; try dsimp only at H
        revert H; refine sIe1n0_e0n1 (fun Fl Fm H => ?_) fun Fl Fm H => ?_
        ·focus
          simp only [am, an] at H
          obtain ⟨rfl, rfl, rfl, rfl, rfl, rfl, rfl, rfl⟩ := H
          have p89 := ag (ac Z6 : 0 ≤ (fN : Int))
          have q89 := ag (ac Z6 : fN < (a0.size : Int))
          have hx89 := bt_at a0 fN
          try go_wp2_with (first | (refine gl 65 (some 134) Tryz.func65 #[.string a0, .int .i64 fN] ?_; (with_reducible refine (bB.calls kj29 a0 fN Bv lC _ Dw.out).mono ?_); rintro e w' ⟨rfl, ⟨nd, rfl⟩⟩; refine ⟨_, rfl, ?_⟩; (try (rw [drewN_self wc]; generalize hq_ : World.drewN wc _ = wc; replace cH := dqC hq_ cH; replace cJ := dqC hq_ cJ; replace HB := dqB hq_ HB; clear hq_)); have afS := dL.out; have afT := dK.out; obtain ⟨Ni, Nj, Nk, Nl, Nm, Nn, Np, Nq, Nr, Ns, Nt, Nu⟩ := cz6 cJ.out))
          generalize hq_ : World.setCell _ _ _ = w94
          replace cH := sqC (g := eA) hq_ ⟨zC⟩
          replace cJ : Aside0 (w94.heap[eQ]? = some (.cells #[.int .i64 4, .string lC, .string dF, .float .f64 bQ, .int .i64 bT, .slice none 0 0] 55 (0, 0))) := ⟨by subst hq_; exact zC⟩
          replace HB : Aside0 (Below w.heap.size w w94) := ⟨by subst hq_; exact zB⟩
          clear hq_
          replace cH := ab (blk_drew cH.out)
          replace cJ := ab (blk_drew cJ.out)
          replace HB := ab (below_drew1 HB.out)
          refine st1 5 [] (S := fun w' => H6 w' eQ (.int .i64 4) (.string lC) (.string dF) (.float .f64 bQ) (.int .i64 bT) (.slice none 0 0)) (fun hHeld => ?_)
          generalize w94.drew = w95 at cH cJ HB hHeld ⊢
          refine pz 0 147 ?_
          refine pz 2 6 ?_
          refine tk6 1 148 ?_
          refine on1 3 none fun K hK => ?_
          obtain ⟨akY, akZ, alA, alB, afU, afV, afW, afX, afY, afZ, Zd, Ze⟩ := cz6 cH.out
          have hns96_1 := dL.out
          have hms96_1 := dK.out
          refine sk1 ?_
          refine hK.out _ _ zS (fun hHeld => ?_)
          clear hK K
          refine pz 4 8 ?_
          refine dn1 ?_
          try go_wp2
          refine bodyPost_ret (results_list (rs := [.tmp 6, .cell 7 55, .tmp 8]) rfl (by simp) (.tmp (.cell eA 55 #[.int .i64 4, .string lC, .string dF, .float .f64 bQ, .int .i64 bT, .slice none 0 0] (0, 0) _ rfl zC Tryz.underlying55 rfl (by kernel_rfl) (.tmp .nil)))) rfl ?_
          exact ⟨_, Z9, Z8, zB⟩
        revert H; refine sIe1n0_e0n1 (fun Bw Bx H => ?_) fun Bw Bx H => ?_
        ·focus
          simp only [am, an] at H
          obtain ⟨rfl, rfl, rfl, rfl, rfl, rfl, rfl, rfl⟩ := H
          have p89 := ag (ac Z6 : 0 ≤ (fN : Int))
          have q89 := ag (ac Z6 : fN < (a0.size : Int))
          have hx89 := bt_at a0 fN
          try go_wp2_with (first | (refine gl 65 (some 134) Tryz.func65 #[.string a0, .int .i64 fN] ?_; (with_reducible refine (bB.calls kj29 a0 fN Bv lC _ Dw.out).mono ?_); rintro e w' ⟨rfl, ⟨nd, rfl⟩⟩; refine ⟨_, rfl, ?_⟩; (try (rw [drewN_self wc]; generalize hq_ : World.drewN wc _ = wc; replace cH := dqC hq_ cH; replace cJ := dqC hq_ cJ; replace HB := dqB hq_ HB; clear hq_)); have Zf := dL.out; have Zg := dK.out; obtain ⟨tZ, uA, Fn, Fo, Fp, Fq, uB, uC, Fr, Ft, Fu, Fv⟩ := cz6 cJ.out))
          generalize hq_ : World.setCell _ _ _ = w105
          replace cH := sqC (g := eA) hq_ ⟨zC⟩
          replace cJ : Aside0 (w105.heap[eQ]? = some (.cells #[.int .i64 1, .string lC, .string dF, .float .f64 bQ, .int .i64 bT, .slice none 0 0] 55 (0, 0))) := ⟨by subst hq_; exact zC⟩
          replace HB : Aside0 (Below w.heap.size w w105) := ⟨by subst hq_; exact zB⟩
          clear hq_
          replace cH := ab (blk_drew cH.out)
          replace cJ := ab (blk_drew cJ.out)
          replace HB := ab (below_drew1 HB.out)
          refine st1 5 [] (S := fun w' => H6 w' eQ (.int .i64 1) (.string lC) (.string dF) (.float .f64 bQ) (.int .i64 bT) (.slice none 0 0)) (fun hHeld => ?_)
          generalize w105.drew = w106 at cH cJ HB hHeld ⊢
          refine pz 0 147 ?_
          refine pz 2 6 ?_
          refine tk6 1 148 ?_
          refine on1 3 none fun K hK => ?_
          obtain ⟨agA, agB, agC, agD, agE, agF, Zh, Zi, Zj, Zk, Zl, Zm⟩ := cz6 cH.out
          have hns107_1 := dL.out
          have hms107_1 := dK.out
          refine sk1 ?_
          refine hK.out _ _ zS (fun hHeld => ?_)
          clear hK K
          refine pz 4 8 ?_
          refine dn1 ?_
          try go_wp2
          refine bodyPost_ret (results_list (rs := [.tmp 6, .cell 7 55, .tmp 8]) rfl (by simp) (.tmp (.cell eA 55 #[.int .i64 1, .string lC, .string dF, .float .f64 bQ, .int .i64 bT, .slice none 0 0] (0, 0) _ rfl zC Tryz.underlying55 rfl (by kernel_rfl) (.tmp .nil)))) rfl ?_
          exact ⟨_, Z9, Z8, zB⟩
        focus
         simp only [am, an] at H
         obtain ⟨rfl, rfl, rfl, rfl, rfl, rfl, rfl, rfl⟩ := H
         have p89 := ag (ac Z6 : 0 ≤ (fN : Int))
         have q89 := ag (ac Z6 : fN < (a0.size : Int))
         have hx89 := bt_at a0 fN
         try go_wp2_with (first | (refine gl 65 (some 134) Tryz.func65 #[.string a0, .int .i64 fN] ?_; (with_reducible refine (bB.calls kj29 a0 fN Bv lC _ Dw.out).mono ?_); rintro e w' ⟨rfl, ⟨nd, rfl⟩⟩; refine ⟨_, rfl, ?_⟩; (try (rw [drewN_self wc]; generalize hq_ : World.drewN wc _ = wc; replace cH := dqC hq_ cH; replace cJ := dqC hq_ cJ; replace HB := dqB hq_ HB; clear hq_)); have Zn := dL.out; have Zo := dK.out; obtain ⟨Fw, Fx, Fy, Fz, Ga, Gb, Gc, Gd, Ge, Gf, Gg, Gh⟩ := cz6 cJ.out))
         generalize hq_ : World.setCell _ _ _ = w115
         replace cH := sqC (g := eA) hq_ ⟨zC⟩
         replace cJ : Aside0 (w115.heap[eQ]? = some (.cells #[.int .i64 fP, .string lC, .string dF, .float .f64 bQ, .int .i64 bT, .slice none 0 0] 55 (0, 0))) := ⟨by subst hq_; exact zC⟩
         replace HB : Aside0 (Below w.heap.size w w115) := ⟨by subst hq_; exact zB⟩
         clear hq_
         replace cH := ab (blk_drew cH.out)
         replace cJ := ab (blk_drew cJ.out)
         replace HB := ab (below_drew1 HB.out)
         refine st1 5 [] (S := fun w' => H6 w' eQ (.int .i64 fP) (.string lC) (.string dF) (.float .f64 bQ) (.int .i64 bT) (.slice none 0 0)) (fun hHeld => ?_)
         generalize w115.drew = w116 at cH cJ HB hHeld ⊢
         refine pz 0 147 ?_
         refine pz 2 6 ?_
         refine tk6 1 148 ?_
         refine on1 3 none fun K hK => ?_
         obtain ⟨agG, agH, agI, agJ, agK, agL, Zp, Zq, Zr, Zs, Zt, Zu⟩ := cz6 cH.out
         have hns117_1 := dL.out
         have hms117_1 := dK.out
         refine sk1 ?_
         refine hK.out _ _ zS (fun hHeld => ?_)
         clear hK K
         refine pz 4 8 ?_
         refine dn1 ?_
         try go_wp2
         refine bodyPost_ret (results_list (rs := [.tmp 6, .cell 7 55, .tmp 8]) rfl (by simp) (.tmp (.cell eA 55 #[.int .i64 fP, .string lC, .string dF, .float .f64 bQ, .int .i64 bT, .slice none 0 0] (0, 0) _ rfl zC Tryz.underlying55 rfl (by kernel_rfl) (.tmp .nil)))) rfl ?_
         exact ⟨_, Z9, Z8, zB⟩
   focus
    simp only [am, an] at H
    obtain ⟨rfl, rfl, rfl, rfl, rfl, rfl, rfl, rfl⟩ := H
    try go_wp2
    replace cH := ab (blk_drew cH.out)
    replace cJ := ab (blk_drew cJ.out)
    replace HB := ab (below_drew1 HB.out)
    refine st1 5 [] (S := fun w' => H6 w' eQ (.int .i64 cW) (.string cY) (.string cK) (.float .f64 bQ) (.int .i64 bT) (.slice none 0 0)) (fun hHeld => ?_)
    generalize wr.drew = w123 at cH cJ HB hHeld ⊢
    refine pz 0 168 ?_
    refine pz 2 6 ?_
    refine tk6 1 169 ?_
    refine on1 3 none fun K hK => ?_
    obtain ⟨agM, agN, agO, agP, agQ, agR, Zv, Zw, Zx, Zy, Zz, aaA⟩ := cz6 cH.out
    have hns124_1 := dL.out
    have hms124_1 := dK.out
    refine sk1 ?_
    refine hK.out _ _ zS (fun hHeld => ?_)
    clear hK K
    refine pz 4 8 ?_
    refine dn1 ?_
    try go_wp2
    refine bodyPost_ret (results_list (rs := [.tmp 6, .cell 7 55, .tmp 8]) rfl (by simp) (.tmp (.cell eA 55 #[.int .i64 cW, .string cY, .string cK, .float .f64 bQ, .int .i64 bT, .slice none 0 0] (0, 0) _ rfl zC Tryz.underlying55 rfl (by kernel_rfl) (.tmp .nil)))) rfl ?_
    exact ⟨_, Z9, Z8, zB⟩
end Go.Proofs.YtkjnahgicfmicaaGreatDoor.Sp

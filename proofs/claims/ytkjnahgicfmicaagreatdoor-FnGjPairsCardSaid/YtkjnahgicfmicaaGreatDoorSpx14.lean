import Derived.Test.YtkjnahgicfmicaaGreatDoorZip
import Derived.Test.YtkjnahgicfmicaaGreatDoorQa
import Derived.Test.YtkjnahgicfmicaaGreatDoorQh
import Derived.Test.YtkjnahgicfmicaaGreatDoorQi
import Derived.Test.YtkjnahgicfmicaaGreatDoorQf
namespace Go.Proofs.YtkjnahgicfmicaaGreatDoor.Sp
open Go.RowKit Go.PW Go.PL Go.PM
attribute [local go_sem] run_store_float max2_int min2_int max_two min_two max_three min_three max_four min_four
set_option linter.unusedVariables false
set_option linter.unusedSimpArgs false
mutual
def aN.l0 (aJ : bS) (aY : cB) : Nat → ByteArray → Int → Int → ByteArray → ByteArray → Nat → Int → Option (Int × Int × ByteArray × ByteArray × Nat × Int × List Int × Bool)
 | 0, _, _, _, _, _, _, _ => none
 | k + 1, x0, x1, eL, eO, eB, dM, dW => if x1 < (x0.size : Int) then (if 0 ≤ x1 then (if (bt x0 x1) = 123 then (aN.j1 aJ aY k x0 x1 true eL eO eB dM dW) else (aN.j1 aJ aY k x0 x1 ((bt x0 x1) == 91) eL eO eB dM dW)) else (none)) else (some (x1, eL, eO, eB, dM, dW, ([] : List Int), false))
def aN.j1 (aJ : bS) (aY : cB) : Nat → ByteArray → Int → Bool → Int → ByteArray → ByteArray → Nat → Int → Option (Int × Int × ByteArray × ByteArray × Nat × Int × List Int × Bool)
 | 0, _, _, _, _, _, _, _, _ => none
 | k + 1, x0, x1, x30, eL, eO, eB, dM, dW => if x30 = true then ((aY.f k x0 x1).bind fun bt441 => (some (bt441.1, 5, bt441.2, eB, dM, wrap64 ((mn bt441.1 (x0.size : Int)) - (bt441.2.size : Int)), ([] : List Int), true))) else (if 0 ≤ x1 then (if x1 < (x0.size : Int) then (if (bt x0 x1) ≤ 32 then (aN.l0 aJ aY k x0 (wrap64 (x1 + 1)) eL eO eB dM dW) else (if (bt x0 x1) = 34 then ((aH.f k x0 (wrap64 (x1 + 1))).bind fun bt443 => (if bt443.2.2.2 = true then (if bt443.2.2.1 = true then (if 1 ≤ (wrap64 ((bt443.2.1.size : Int) - 1)) then (if (wrap64 ((bt443.2.1.size : Int) - 1)) ≤ (bt443.2.1.size : Int) then ((aJ.f k (bt443.2.1.extract 1 ((wrap64 ((bt443.2.1.size : Int) - 1)) : Int).toNat)).bind fun vN => (some (bt443.1, 3, bt443.2.1, vN, dM, dW, ([] : List Int), true))) else (none)) else (none)) else (if 1 ≤ (wrap64 ((bt443.2.1.size : Int) - 1)) then (if (wrap64 ((bt443.2.1.size : Int) - 1)) ≤ (bt443.2.1.size : Int) then (some (bt443.1, 3, bt443.2.1, bt443.2.1.extract 1 ((wrap64 ((bt443.2.1.size : Int) - 1)) : Int).toNat, dM, dW, ([] : List Int), true)) else (none)) else (none))) else (none))) else (if (bt x0 x1) = 110 then (if (wrap64 (x1 + 1)) < (x0.size : Int) then (if 0 ≤ (wrap64 (x1 + 1)) then (if (bt x0 (wrap64 (x1 + 1))) = 117 then (aN.j3 aJ aY k x0 x1 eL eO eB dM dW) else (none)) else (none)) else (aN.j3 aJ aY k x0 x1 eL eO eB dM dW)) else (if (bt x0 x1) = 116 then (aN.j2 aJ aY k x0 x1 false (bt x0 x1) ((bt x0 x1) == 116) eL eO eB dM dW) else (aN.j2 aJ aY k x0 x1 false (bt x0 x1) ((bt x0 x1) == 102) eL eO eB dM dW))))) else (none)) else (none))
def aN.j3 (aJ : bS) (aY : cB) : Nat → ByteArray → Int → Int → ByteArray → ByteArray → Nat → Int → Option (Int × Int × ByteArray × ByteArray × Nat × Int × List Int × Bool)
 | 0, _, _, _, _, _, _, _ => none
 | k + 1, x0, x1, eL, eO, eB, dM, dW => if 0 ≤ x1 then (if x1 < (x0.size : Int) then ((bB.f k x0 x1).bind fun bt448 => (if (bt x0 x1) = 116 then (some (bt448.1, 4, bt448.2, eB, dM, dW, ([] : List Int), true)) else (if (bt x0 x1) = 102 then (some (bt448.1, 1, bt448.2, eB, dM, dW, ([] : List Int), true)) else (some (bt448.1, eL, bt448.2, eB, dM, dW, ([] : List Int), true))))) else (none)) else (none)
def aN.j2 (aJ : bS) (aY : cB) : Nat → ByteArray → Int → Bool → Int → Bool → Int → ByteArray → ByteArray → Nat → Int → Option (Int × Int × ByteArray × ByteArray × Nat × Int × List Int × Bool)
 | 0, _, _, _, _, _, _, _, _, _, _ => none
 | k + 1, x0, x1, x11, x58, x63, eL, eO, eB, dM, dW => if x63 = true then (aN.j3 aJ aY k x0 x1 eL eO eB dM dW) else (if x58 = 43 then (none) else (if x58 = 45 then (none) else (if x58 = 48 then (none) else (if x58 = 49 then (none) else (if x58 = 50 then (none) else (if x58 = 51 then (none) else (if x58 = 52 then (none) else (if x58 = 53 then (none) else (if x58 = 54 then (none) else (if x58 = 55 then (none) else (if x58 = 56 then (none) else (if x58 = 57 then (none) else (if x58 = 105 then (none) else (if x58 = 73 then (none) else (if x58 = 78 then (none) else (if x11 = true then (none) else (aN.l0 aJ aY k x0 (wrap64 (x1 + 1)) eL eO eB dM dW)))))))))))))))))
end
def aN.f (aJ : bS) (aY : cB) (k : Nat) (a0 : ByteArray) (a1 : Int) (a2 : Bool) : Option (Int × Int × ByteArray × ByteArray × Nat × Int × List Int × Bool) := aN.l0 aJ aY k a0 a1 0 (⟨#[]⟩ : ByteArray) (⟨#[]⟩ : ByteArray) (0 : Nat) 0
theorem aN.mono_l (aJ : bS) (aY : cB) : ∀ k, (∀ y0 y1 y2 y3 y4 y5 y6, LeO (aN.l0 aJ aY k y0 y1 y2 y3 y4 y5 y6) (aN.l0 aJ aY (k + 1) y0 y1 y2 y3 y4 y5 y6)) ∧ (∀ y0 y1 y2 y3 y4 y5 y6 y7, LeO (aN.j1 aJ aY k y0 y1 y2 y3 y4 y5 y6 y7) (aN.j1 aJ aY (k + 1) y0 y1 y2 y3 y4 y5 y6 y7)) ∧ (∀ y0 y1 y2 y3 y4 y5 y6, LeO (aN.j3 aJ aY k y0 y1 y2 y3 y4 y5 y6) (aN.j3 aJ aY (k + 1) y0 y1 y2 y3 y4 y5 y6)) ∧ (∀ y0 y1 y2 y3 y4 y5 y6 y7 y8 y9, LeO (aN.j2 aJ aY k y0 y1 y2 y3 y4 y5 y6 y7 y8 y9) (aN.j2 aJ aY (k + 1) y0 y1 y2 y3 y4 y5 y6 y7 y8 y9))
 | 0 => ⟨fun _ _ _ _ _ _ _ r h => by simp [aN.l0] at h, fun _ _ _ _ _ _ _ _ r h => by simp [aN.j1] at h, fun _ _ _ _ _ _ _ r h => by simp [aN.j3] at h, fun _ _ _ _ _ _ _ _ _ _ r h => by simp [aN.j2] at h⟩
 | k + 1 => by
  obtain ⟨ih0, ih1, ih2, ih3⟩ := aN.mono_l aJ aY k
  refine ⟨?_, ?_, ?_, ?_⟩
  ·intro y0 y1 y2 y3 y4 y5 y6
   unfold aN.l0
   repeat' first
   | (with_reducible exact ih0 _ _ _ _ _ _ _)
   | (with_reducible exact ih1 _ _ _ _ _ _ _ _)
   | (with_reducible exact ih2 _ _ _ _ _ _ _)
   | (with_reducible exact ih3 _ _ _ _ _ _ _ _ _ _)
   | (with_reducible exact aY.mono _ _ _)
   | (with_reducible exact aJ.mono _ _)
   | (with_reducible exact bB.mono _ _ _)
   | (with_reducible exact aH.mono _ _ _)
   | (with_reducible exact LeO.refl _)
   | (with_reducible exact LeO.none _)
   | (with_reducible refine LeO.ite ?_ ?_)
   | (with_reducible refine LeO.bind ?_ (fun _ => ?_))
   | exact ih0 _ _ _ _ _ _ _
   | exact ih1 _ _ _ _ _ _ _ _
   | exact ih2 _ _ _ _ _ _ _
   | exact ih3 _ _ _ _ _ _ _ _ _ _
   | exact aY.mono _ _ _
   | exact aJ.mono _ _
   | exact bB.mono _ _ _
   | exact aH.mono _ _ _
   | exact LeO.none _
   | refine LeO.ite ?_ ?_
   | refine LeO.bind ?_ (fun _ => ?_)
  ·intro y0 y1 y2 y3 y4 y5 y6 y7
   unfold aN.j1
   repeat' first
   | (with_reducible exact ih0 _ _ _ _ _ _ _)
   | (with_reducible exact ih1 _ _ _ _ _ _ _ _)
   | (with_reducible exact ih2 _ _ _ _ _ _ _)
   | (with_reducible exact ih3 _ _ _ _ _ _ _ _ _ _)
   | (with_reducible exact aY.mono _ _ _)
   | (with_reducible exact aJ.mono _ _)
   | (with_reducible exact bB.mono _ _ _)
   | (with_reducible exact aH.mono _ _ _)
   | (with_reducible exact LeO.refl _)
   | (with_reducible exact LeO.none _)
   | (with_reducible refine LeO.ite ?_ ?_)
   | (with_reducible refine LeO.bind ?_ (fun _ => ?_))
   | exact ih0 _ _ _ _ _ _ _
   | exact ih1 _ _ _ _ _ _ _ _
   | exact ih2 _ _ _ _ _ _ _
   | exact ih3 _ _ _ _ _ _ _ _ _ _
   | exact aY.mono _ _ _
   | exact aJ.mono _ _
   | exact bB.mono _ _ _
   | exact aH.mono _ _ _
   | exact LeO.none _
   | refine LeO.ite ?_ ?_
   | refine LeO.bind ?_ (fun _ => ?_)
  ·intro y0 y1 y2 y3 y4 y5 y6
   unfold aN.j3
   repeat' first
   | (with_reducible exact ih0 _ _ _ _ _ _ _)
   | (with_reducible exact ih1 _ _ _ _ _ _ _ _)
   | (with_reducible exact ih2 _ _ _ _ _ _ _)
   | (with_reducible exact ih3 _ _ _ _ _ _ _ _ _ _)
   | (with_reducible exact aY.mono _ _ _)
   | (with_reducible exact aJ.mono _ _)
   | (with_reducible exact bB.mono _ _ _)
   | (with_reducible exact aH.mono _ _ _)
   | (with_reducible exact LeO.refl _)
   | (with_reducible exact LeO.none _)
   | (with_reducible refine LeO.ite ?_ ?_)
   | (with_reducible refine LeO.bind ?_ (fun _ => ?_))
   | exact ih0 _ _ _ _ _ _ _
   | exact ih1 _ _ _ _ _ _ _ _
   | exact ih2 _ _ _ _ _ _ _
   | exact ih3 _ _ _ _ _ _ _ _ _ _
   | exact aY.mono _ _ _
   | exact aJ.mono _ _
   | exact bB.mono _ _ _
   | exact aH.mono _ _ _
   | exact LeO.none _
   | refine LeO.ite ?_ ?_
   | refine LeO.bind ?_ (fun _ => ?_)
  ·intro y0 y1 y2 y3 y4 y5 y6 y7 y8 y9
   unfold aN.j2
   repeat' first
   | (with_reducible exact ih0 _ _ _ _ _ _ _)
   | (with_reducible exact ih1 _ _ _ _ _ _ _ _)
   | (with_reducible exact ih2 _ _ _ _ _ _ _)
   | (with_reducible exact ih3 _ _ _ _ _ _ _ _ _ _)
   | (with_reducible exact aY.mono _ _ _)
   | (with_reducible exact aJ.mono _ _)
   | (with_reducible exact bB.mono _ _ _)
   | (with_reducible exact aH.mono _ _ _)
   | (with_reducible exact LeO.refl _)
   | (with_reducible exact LeO.none _)
   | (with_reducible refine LeO.ite ?_ ?_)
   | (with_reducible refine LeO.bind ?_ (fun _ => ?_))
   | exact ih0 _ _ _ _ _ _ _
   | exact ih1 _ _ _ _ _ _ _ _
   | exact ih2 _ _ _ _ _ _ _
   | exact ih3 _ _ _ _ _ _ _ _ _ _
   | exact aY.mono _ _ _
   | exact aJ.mono _ _
   | exact bB.mono _ _ _
   | exact aH.mono _ _ _
   | exact LeO.none _
   | refine LeO.ite ?_ ?_
   | refine LeO.bind ?_ (fun _ => ?_)
theorem aN.mono (aJ : bS) (aY : cB) : ∀ a0 a1 a2 k, LeO (aN.f aJ aY k a0 a1 a2) (aN.f aJ aY (k + 1) a0 a1 a2) := by
 intro a0 a1 a2 k
 obtain ⟨ih0, ih1, ih2, ih3⟩ := aN.mono_l aJ aY k
 unfold aN.f
 exact zM
set_option maxHeartbeats 8000000 in
set_option maxRecDepth 100000 in
theorem aN.calls (aJ : bS) (aY : cB) (k : Nat) (a0 : ByteArray) (a1 : Int) (a2 : Bool) (r1 : Int) (r2 : Int) (r3 : ByteArray) (r4 : ByteArray) (r5 : Nat) (r6 : Int) (r7 : List Int) (r8 : Bool) (w : World) (h : aN.f aJ aY k a0 a1 a2 = some (r1, r2, r3, r4, r5, r6, r7, r8)) (hW : Wok w) :
 Calls Tryz.prog 50 #[.string a0, .int .i64 a1, .bool true] w fun e w' => ∃ v6_ : Value, e = .returned (.tuple #[.int .i64 r1, .agg #[.int .i64 r2, .string r3, .string r4, .float .f64 r5, .int .i64 r6, v6_], .bool r8]) ∧ Kd.R (Kd.int .i64) 3 w' w.heap.size (fun _ => True) v6_ r7 ∧ Below w.heap.size w w' := by
 have HWK := ab hW
 clear hW
 have hu55 := Tryz.underlying55
 have HB := ab (Below.refl w.heap.size w)
 have H : (aN.l0 aJ aY k a0 a1 0 (⟨#[]⟩ : ByteArray) (⟨#[]⟩ : ByteArray) (0 : Nat) 0) = some (r1, r2, r3, r4, r5, r6, r7, r8) := h
 clear h
 have H' := ab H
 clear H
 go_enter Tryz.func50, Tryz.ntmps50
 go_wp2_with (first | (refine aw 7 #[.int .i64 0, .string (⟨#[]⟩ : ByteArray), .string (⟨#[]⟩ : ByteArray), .float .f64 (0 : Nat), .int .i64 0, .slice none 0 0] 55 ?_; intro eJ hg w4 hbox hb; have cI := ab (hbox); have aiX : Aside0 (w.heap.size ≤ eJ) := ⟨Z16⟩; have aiY : Aside0 (w.heap.size ≤ eJ) := ⟨Z16⟩; replace HB := ab (below_step (w := w) zB hb); clear hb hbox hg) | (refine aw 9 #[.int .i64 0, .string (⟨#[]⟩ : ByteArray), .string (⟨#[]⟩ : ByteArray), .float .f64 (0 : Nat), .int .i64 0, .slice none 0 0] 55 ?_; intro eX hg w5 hbox hb; have cK := ab (hbox); have aiZ : Aside0 (w.heap.size ≤ eX) := ⟨Z16⟩; have ajA : Aside0 (w.heap.size ≤ eX) := ⟨Z16⟩; replace HB := ab (below_step (w := w) zB hb); have dR : Aside0 (eJ ≠ eX) := ⟨by rw [hg]; exact Nat.ne_of_lt (blk_lt (g := eJ) zC)⟩; have dS : Aside0 (eX ≠ eJ) := ⟨by rw [hg]; exact Nat.ne_of_gt (blk_lt (g := eJ) zC)⟩; replace cI := ab (blk_below (g := eJ) zC hb); clear hb hbox hg))
 (try simp only [Act.put, ap, aq, ar])
 go_loopg [1] k (fun kq v1 w' => ∃ (bO : Int) (eP : Int) (eQ : ByteArray) (eR : ByteArray) (eS : Nat) (eT : Int) (dB : Int) (dC : ByteArray) (cL : ByteArray) (bQ : Nat) (bV : Int), v1 = .int .i64 bO ∧ Aside0 (aN.l0 aJ aY kq a0 bO dB dC cL bQ bV = some (r1, r2, r3, r4, r5, r6, r7, r8)) ∧ Aside0 (kq ≤ k) ∧ Aside0 (w'.heap[eJ]? = some (.cells #[.int .i64 eP, .string eQ, .string eR, .float .f64 eS, .int .i64 eT, (.slice none 0 0)] 55 (0, 0))) ∧ Aside0 (w'.heap[eX]? = some (.cells #[.int .i64 dB, .string dC, .string cL, .float .f64 bQ, .int .i64 bV, (.slice none 0 0)] 55 (0, 0))) ∧ Aside0 (Below w.heap.size w w'))
 case atStart => exact ⟨(a1), (0), ((⟨#[]⟩ : ByteArray)), ((⟨#[]⟩ : ByteArray)), ((0 : Nat)), (0), (0), ((⟨#[]⟩ : ByteArray)), ((⟨#[]⟩ : ByteArray)), ((0 : Nat)), (0), Z7, H', ⟨Nat.le_refl _⟩, ⟨zC⟩, ⟨zC⟩, ⟨zB⟩⟩
 case round =>
  clear H'
  obtain ⟨bO, eP, eQ, eR, eS, eT, dB, dC, cL, bQ, bV, rfl, HA, HK1, cI, cK, HB⟩ := hrel
  cases gk with
  | zero => exact absurd HA.out (by simp [aN.l0])
  | succ k1 =>
   have H := HA.out
   clear HA
   simp only [aN.l0] at H
   revert H; refine sId1_d0 (fun eI H => ?_) fun eI H => ?_
   ·have HC7 := ab H
    clear H
    go_upto_region 5 with (fail)
    go_cut [30] (fun v30 wc => ∃ (kq : Nat) (xJ : Bool), v30 = .bool xJ ∧ Aside0 (aN.j1 aJ aY kq a0 bO xJ dB dC cL bQ bV = some (r1, r2, r3, r4, r5, r6, r7, r8)) ∧ Aside0 (kq ≤ k1) ∧ Aside0 (wc.heap[eJ]? = some (.cells #[.int .i64 eP, .string eQ, .string eR, .float .f64 eS, .int .i64 eT, (.slice none 0 0)] 55 (0, 0))) ∧ Aside0 (wc.heap[eX]? = some (.cells #[.int .i64 dB, .string dC, .string cL, .float .f64 bQ, .int .i64 bV, (.slice none 0 0)] 55 (0, 0))) ∧ Aside0 (Below w.heap.size w wc))
    case first =>
     have H := HC7.out
     clear HC7
     revert H; refine sNd1 fun iL H => ?_
     (first | rw [iL] | (simp only [i64_w, i32_w]; rw [iL]) | skip)
     revert H; refine sIe1n0_e0n1 (fun kC kV H => ?_) fun kC kV H => ?_
     ·focus
       have H' := ab H
       clear H
       have p9 := ag (ac Z6 : 0 ≤ (bO : Int))
       have q9 := ag (ac Z6 : bO < (a0.size : Int))
       have hx9 := bt_at a0 bO
       go_wp2
       go_meet
       case rel => exact ⟨_, (true), Z7, H', ⟨by have := HK1.out; first | omega | exact Nat.le_refl _⟩, ⟨zC⟩, ⟨zC⟩, ⟨zB⟩⟩
     focus
      have H' := ab H
      clear H
      have p9 := ag (ac Z6 : 0 ≤ (bO : Int))
      have q9 := ag (ac Z6 : bO < (a0.size : Int))
      have hx9 := bt_at a0 bO
      have p11 := ag (ac Z6 : 0 ≤ (bO : Int))
      have q11 := ag (ac Z6 : bO < (a0.size : Int))
      have hx11 := bt_at a0 bO
      go_wp2
      go_meet
      case rel => exact ⟨_, (((bt a0 bO) == 91)), Z7, H', ⟨by have := HK1.out; first | omega | exact Nat.le_refl _⟩, ⟨zC⟩, ⟨zC⟩, ⟨zB⟩⟩
    case rest =>
     clear HC7
     try clear eI
     obtain ⟨kq, xJ, rfl, HA, HJ6, cI, cK, HB⟩ := hcut
     cases kq with
     | zero => exact absurd HA.out (by simp [aN.j1])
     | succ kj6 =>
      have H := HA.out
      clear HA
      simp only [aN.j1] at H
      replace H := sB H
      obtain ⟨rfl, H⟩ | ⟨rfl, H⟩ := H
      ·revert H; refine bnd ?_; rintro ⟨xK, oP⟩ yZ H; try dsimp only at H
       obtain ⟨xL, qO⟩ : ∃ j_ : Int, (mn xK (a0.size : Int)) = j_ := ⟨_, rfl⟩
       replace H : (some (xK, 5, oP, cL, bQ, wrap64 ((xL) - (oP.size : Int)), ([] : List Int), true)) = some (r1, r2, r3, r4, r5, r6, r7, r8) := by first | (rw [qO] at H; exact H) | (simp only [qO] at H ⊢; exact H)
       (try rw [qO] at yZ)
       have afF : (if (a0.size : Int) < xK then (a0.size : Int) else xK) = xL := qO
       focus
        simp only [am, an] at H
        obtain ⟨rfl, rfl, rfl, rfl, rfl, rfl, rfl, rfl⟩ := H
        try go_wp2_with (first | (refine gl 64 (some 34) Tryz.func64 #[.string a0, .int .i64 bO] ?_; (with_reducible refine (aY.calls kj6 a0 bO xK oP _ yZ.out (HWK.out.below zB)).mono ?_); rintro e w' ⟨rfl, ⟨nd, rfl⟩⟩; refine ⟨_, rfl, ?_⟩; (try (rw [drewN_self wc]; generalize hq_ : World.drewN wc _ = wc; replace cI := dqC hq_ cI; replace cK := dqC hq_ cK; replace HB := dqB hq_ HB; clear hq_)); have Jr := dS.out; have Js := dR.out; obtain ⟨sO, sP, sQ, sR, Qx, Qy, sS, sT, sU, sV, Qz, Ra⟩ := cz6 cK.out))
        generalize hq_ : World.setCell _ _ _ = w17
        replace cI := sqC (g := eJ) hq_ ⟨zC⟩
        replace cK : Aside0 (w17.heap[eX]? = some (.cells #[.int .i64 5, .string oP, .string cL, .float .f64 bQ, .int .i64 (wrap64 ((xL) - (oP.size : Int))), .slice none 0 0] 55 (0, 0))) := ⟨by subst hq_; exact zC⟩
        replace HB : Aside0 (Below w.heap.size w w17) := ⟨by subst hq_; exact zB⟩
        clear hq_
        replace cI := ab (blk_drew cI.out)
        replace cK := ab (blk_drew cK.out)
        replace HB := ab (below_drew1 HB.out)
        refine st1 5 [] (S := fun w' => H6 w' eX (.int .i64 5) (.string oP) (.string cL) (.float .f64 bQ) (.int .i64 (wrap64 ((xL) - (oP.size : Int)))) (.slice none 0 0)) (fun hHeld => ?_)
        generalize w17.drew = w18 at cI cK HB hHeld ⊢
        refine pz 0 50 ?_
        refine pz 2 6 ?_
        refine tk6 1 51 ?_
        refine on1 3 none fun K hK => ?_
        obtain ⟨apT, apU, apV, apW, apX, apY, ajB, ajC, ajD, ajE, ajF, ajG⟩ := cz6 cI.out
        have hns19_1 := dS.out
        have hms19_1 := dR.out
        refine sk1 ?_
        refine hK.out _ _ zS (fun hHeld => ?_)
        clear hK K
        refine pz 4 8 ?_
        refine dn1 ?_
        try go_wp2
        refine bodyPost_ret (results_list (rs := [.tmp 6, .cell 7 55, .tmp 8]) rfl (by simp) (.tmp (.cell eJ 55 #[.int .i64 5, .string oP, .string cL, .float .f64 bQ, .int .i64 (wrap64 ((xL) - (oP.size : Int))), .slice none 0 0] (0, 0) _ rfl zC Tryz.underlying55 rfl (by kernel_rfl) (.tmp .nil)))) rfl ?_
        exact ⟨_, by first | rfl | (simp [errW_none, errW_some] <;> rfl) | (simp only [← qO]; first | rfl | (simp [errW_none, errW_some] <;> rfl)) | (simp [*, errW_none, errW_some] <;> rfl), Z9, zB⟩
      revert H; refine sNd1 fun kB H => ?_
      revert H; refine sNd1 fun mC H => ?_
      revert H; refine sId1_d0 (fun qN H => ?_) fun qN H => ?_
      ·focus
        have H' := ab H
        clear H
        have p27 := ag (ac Z6 : 0 ≤ (bO : Int))
        have q27 := ag (ac Z6 : bO < (a0.size : Int))
        have hx27 := bt_at a0 bO
        go_wp2
        go_roundg kj6
        case measure => have := HK1.out; have := HJ6.out; omega
        case rel => exact ⟨(wrap64 (bO + 1)), (eP), (eQ), (eR), (eS), (eT), (dB), (dC), (cL), (bQ), (bV), Z7, H', ⟨by have := HK1.out; have := HJ6.out; omega⟩, ⟨zC⟩, ⟨zC⟩, ⟨zB⟩⟩
      have Gd := ab H
      clear H
      have p27 := ag (ac Z6 : 0 ≤ (bO : Int))
      have q27 := ag (ac Z6 : bO < (a0.size : Int))
      have hx27 := bt_at a0 bO
      have p29 := ag (ac Z6 : 0 ≤ (bO : Int))
      have q29 := ag (ac Z6 : bO < (a0.size : Int))
      have hx29 := bt_at a0 bO
      go_upto_block 5 with (fail)
      go_cut [1] (fun v1 wc => ∃ (kq : Nat) (gA : Int) (nE : Int) (nF : ByteArray) (nG : ByteArray) (nH : Nat) (nI : Int) (gC : Int) (kN : ByteArray) (dJ : ByteArray), v1 = .int .i64 gA ∧ Aside0 (aN.j3 aJ aY kq a0 gA gC kN dJ bQ bV = some (r1, r2, r3, r4, r5, r6, r7, r8)) ∧ Aside0 (kq ≤ kj6) ∧ Aside0 (wc.heap[eJ]? = some (.cells #[.int .i64 nE, .string nF, .string nG, .float .f64 nH, .int .i64 nI, (.slice none 0 0)] 55 (0, 0))) ∧ Aside0 (wc.heap[eX]? = some (.cells #[.int .i64 gC, .string kN, .string dJ, .float .f64 bQ, .int .i64 bV, (.slice none 0 0)] 55 (0, 0))) ∧ Aside0 (Below w.heap.size w wc))
      case first =>
       have H := Gd.out
       clear Gd
       revert H; refine sIe1n0_e0n1k (fun jD oI H => ?_) fun jD oI c31 H => ?_
       ·(first | rw [jD] | (simp only [i64_w, i32_w]; rw [jD]) | skip)
        revert H; refine bnd ?_; rintro ⟨Ju, iW, apZ, aqA⟩ Qw H; try dsimp only at H
        replace H := sB H
        obtain ⟨rfl, H⟩ | ⟨rfl, H⟩ := H
        ·replace H := sB H
         obtain ⟨rfl, H⟩ | ⟨rfl, H⟩ := H
         ·revert H; refine sNt1d1 fun xE xF H => ?_
          revert H; refine sNt1d1 fun nB nC H => ?_
          revert H; refine bnd ?_; rintro vN A37 H
          focus
           simp only [am, an] at H
           obtain ⟨rfl, rfl, rfl, rfl, rfl, rfl, rfl, rfl⟩ := H
           try go_wp2_with (first | (refine gl 48 (some 87) Tryz.func48 #[.string a0, .int .i64 (wrap64 (bO + 1))] ?_; (with_reducible refine (aH.calls kj6 a0 (wrap64 (bO + 1)) Ju iW true true _ Qw.out).mono ?_); rintro e w' ⟨rfl, ⟨nd, rfl⟩⟩; refine ⟨_, rfl, ?_⟩; (try (rw [drewN_self wc]; generalize hq_ : World.drewN wc _ = wc; replace cI := dqC hq_ cI; replace cK := dqC hq_ cK; replace HB := dqB hq_ HB; clear hq_)); have ajH := dS.out; have ajI := dR.out; obtain ⟨Rb, Rc, Rd, Re, Rf, Rg, Rh, Ri, Rj, Rk, Rl, Rm⟩ := cz6 cK.out) | (refine gl 49 (some 106) Tryz.func49 #[.string (iW.extract 1 ((wrap64 ((iW.size : Int) - 1)) : Int).toNat)] ?_; (with_reducible refine (aJ.calls kj6 (iW.extract 1 ((wrap64 ((iW.size : Int) - 1)) : Int).toNat) vN _ A37.out).mono ?_); rintro e w40 ⟨rfl, hb⟩; refine ⟨_, rfl, ?_⟩; replace cI := ab (blk_below (g := eJ) zC hb); replace cK := ab (blk_below (g := eX) (o := .cells #[.int .i64 3, .string iW, .string cL, .float .f64 bQ, .int .i64 bV, .slice none 0 0] 55 (0, 0)) zC hb); replace HB := ab (below_step (w := w) zB hb); clear hb; obtain ⟨sW, sX, sY, sZ, Rn, Ro, tA, tB, tC, tD, Rp, Rq⟩ := cz6 cK.out))
           generalize hq_ : World.setCell _ _ _ = w42
           replace cI := sqC (g := eJ) hq_ ⟨zC⟩
           replace cK : Aside0 (w42.heap[eX]? = some (.cells #[.int .i64 3, .string iW, .string vN, .float .f64 bQ, .int .i64 bV, .slice none 0 0] 55 (0, 0))) := ⟨by subst hq_; exact zC⟩
           replace HB : Aside0 (Below w.heap.size w w42) := ⟨by subst hq_; exact zB⟩
           clear hq_
           replace cI := ab (blk_drew cI.out)
           replace cK := ab (blk_drew cK.out)
           replace HB := ab (below_drew1 HB.out)
           refine st1 5 [] (S := fun w' => H6 w' eX (.int .i64 3) (.string iW) (.string vN) (.float .f64 bQ) (.int .i64 bV) (.slice none 0 0)) (fun hHeld => ?_)
           generalize w42.drew = w43 at cI cK HB hHeld ⊢
           refine pz 0 114 ?_
           refine pz 2 6 ?_
           refine tk6 1 115 ?_
           refine on1 3 none fun K hK => ?_
           obtain ⟨aqB, aqC, aqD, afH, aqE, aqF, ajJ, ajK, ajL, Jv, ajM, ajN⟩ := cz6 cI.out
           have hns44_1 := dS.out
           have hms44_1 := dR.out
           refine sk1 ?_
           refine hK.out _ _ zS (fun hHeld => ?_)
           clear hK K
           refine pz 4 8 ?_
           refine dn1 ?_
           try go_wp2
           refine bodyPost_ret (results_list (rs := [.tmp 6, .cell 7 55, .tmp 8]) rfl (by simp) (.tmp (.cell eJ 55 #[.int .i64 3, .string iW, .string vN, .float .f64 bQ, .int .i64 bV, .slice none 0 0] (0, 0) _ rfl zC Tryz.underlying55 rfl (by kernel_rfl) (.tmp .nil)))) rfl ?_
           exact ⟨_, Z8, Z9, zB⟩
         revert H; refine sNt1d1 fun Jm Jo H => ?_
         revert H; refine sNt1d1 fun xM Jw H => ?_
         focus
          simp only [am, an] at H
          obtain ⟨rfl, rfl, rfl, rfl, rfl, rfl, rfl, rfl⟩ := H
          try go_wp2_with (first | (refine gl 48 (some 87) Tryz.func48 #[.string a0, .int .i64 (wrap64 (bO + 1))] ?_; (with_reducible refine (aH.calls kj6 a0 (wrap64 (bO + 1)) Ju iW false true _ Qw.out).mono ?_); rintro e w' ⟨rfl, ⟨nd, rfl⟩⟩; refine ⟨_, rfl, ?_⟩; (try (rw [drewN_self wc]; generalize hq_ : World.drewN wc _ = wc; replace cI := dqC hq_ cI; replace cK := dqC hq_ cK; replace HB := dqB hq_ HB; clear hq_)); have ajO := dS.out; have ajP := dR.out; obtain ⟨tE, tF, Rs, Rt, Ru, Rv, tG, tH, Rw, Rx, Ry, Rz⟩ := cz6 cK.out))
          generalize hq_ : World.setCell _ _ _ = w54
          replace cI := sqC (g := eJ) hq_ ⟨zC⟩
          replace cK : Aside0 (w54.heap[eX]? = some (.cells #[.int .i64 3, .string iW, .string (iW.extract 1 ((wrap64 ((iW.size : Int) - 1)) : Int).toNat), .float .f64 bQ, .int .i64 bV, .slice none 0 0] 55 (0, 0))) := ⟨by subst hq_; exact zC⟩
          replace HB : Aside0 (Below w.heap.size w w54) := ⟨by subst hq_; exact zB⟩
          clear hq_
          replace cI := ab (blk_drew cI.out)
          replace cK := ab (blk_drew cK.out)
          replace HB := ab (below_drew1 HB.out)
          refine st1 5 [] (S := fun w' => H6 w' eX (.int .i64 3) (.string iW) (.string (iW.extract 1 ((wrap64 ((iW.size : Int) - 1)) : Int).toNat)) (.float .f64 bQ) (.int .i64 bV) (.slice none 0 0)) (fun hHeld => ?_)
          generalize w54.drew = w55 at cI cK HB hHeld ⊢
          refine pz 0 114 ?_
          refine pz 2 6 ?_
          refine tk6 1 115 ?_
          refine on1 3 none fun K hK => ?_
          obtain ⟨aqG, aqH, aqI, aqJ, aqK, aqL, ajQ, ajR, ajS, ajT, ajU, ajV⟩ := cz6 cI.out
          have hns56_1 := dS.out
          have hms56_1 := dR.out
          refine sk1 ?_
          refine hK.out _ _ zS (fun hHeld => ?_)
          clear hK K
          refine pz 4 8 ?_
          refine dn1 ?_
          try go_wp2
          refine bodyPost_ret (results_list (rs := [.tmp 6, .cell 7 55, .tmp 8]) rfl (by simp) (.tmp (.cell eJ 55 #[.int .i64 3, .string iW, .string (iW.extract 1 ((wrap64 ((iW.size : Int) - 1)) : Int).toNat), .float .f64 bQ, .int .i64 bV, .slice none 0 0] (0, 0) _ rfl zC Tryz.underlying55 rfl (by kernel_rfl) (.tmp .nil)))) rfl ?_
          exact ⟨_, Z8, Z9, zB⟩
        exact absurd H (by simp)
       (first | rw [jD] | (simp only [i64_w, i32_w]; rw [jD]) | skip)
       revert H; refine sIe1n0_e0n1k (fun Et Eu H => ?_) fun Et Eu c62 H => ?_
       ·revert H; refine sId1_d0 (fun Ew H => ?_) fun Ew H => ?_
        ·obtain ⟨vO, tI⟩ : ∃ j_ : Int, (wrap64 (bO + 1)) = j_ := ⟨_, rfl⟩
         replace H : (if 0 ≤ (vO) then (if (bt a0 (vO)) = 117 then (aN.j3 aJ aY kj6 a0 bO dB dC cL bQ bV) else (none)) else (none)) = some (r1, r2, r3, r4, r5, r6, r7, r8) := by first | (rw [tI] at H; exact H) | (simp only [tI] at H ⊢; exact H)
         (try rw [tI] at Ew)
         have hji64w : (IntKind.i64.wrap (bO + 1)) = vO := (i64_w _).trans tI
         revert H; refine sNd1 fun ajW H => ?_
         revert H; refine sNe1n0 fun ajX ajY H => ?_
         focus
          have H' := ab H
          clear H
          have p66 := ag (ac Z6 : 0 ≤ ((vO) : Int))
          have q66 := ag (ac Z6 : (vO) < (a0.size : Int))
          have hx66 := bt_at a0 (vO)
          go_wp2
          go_meet
          case rel => exact ⟨_, (bO), (eP), (eQ), (eR), (eS), (eT), (dB), (dC), (cL), Z7, H', ⟨Z65⟩, ⟨zC⟩, ⟨zC⟩, ⟨zB⟩⟩
        focus
         have H' := ab H
         clear H
         go_wp2
         go_meet
         case rel => exact ⟨_, (bO), (eP), (eQ), (eR), (eS), (eT), (dB), (dC), (cL), Z7, H', ⟨Z65⟩, ⟨zC⟩, ⟨zC⟩, ⟨zB⟩⟩
       have Ge := ab H
       clear H
       go_upto_if 63 with (fail)
       go_cut [63] (fun v63 wc => ∃ (kq : Nat) (rJ : Bool), v63 = .bool rJ ∧ Aside0 (aN.j2 aJ aY kq a0 bO false (bt a0 bO) rJ dB dC cL bQ bV = some (r1, r2, r3, r4, r5, r6, r7, r8)) ∧ Aside0 (kq ≤ kj6) ∧ Aside0 (wc.heap[eJ]? = some (.cells #[.int .i64 eP, .string eQ, .string eR, .float .f64 eS, .int .i64 eT, (.slice none 0 0)] 55 (0, 0))) ∧ Aside0 (wc.heap[eX]? = some (.cells #[.int .i64 dB, .string dC, .string cL, .float .f64 bQ, .int .i64 bV, (.slice none 0 0)] 55 (0, 0))) ∧ Aside0 (Below w.heap.size w wc))
       case first =>
        have H := Ge.out
        clear Ge
        revert H; refine sIe1n0_e0n1 (fun qP Jx H => ?_) fun qP Jx H => ?_
        ·(first | rw [qP] | (simp only [i64_w, i32_w]; rw [qP]) | skip)
         focus
          have H' := ab H
          clear H
          go_wp2
          go_meet
          case rel => exact ⟨_, (((bt a0 bO) == 116)), Z7, H', ⟨Z65⟩, ⟨zC⟩, ⟨zC⟩, ⟨zB⟩⟩
        (first | rw [qP] | (simp only [i64_w, i32_w]; rw [qP]) | skip)
        focus
         have H' := ab H
         clear H
         go_wp2
         go_meet
         case rel => exact ⟨_, (((bt a0 bO) == 102)), Z7, H', ⟨Z65⟩, ⟨zC⟩, ⟨zC⟩, ⟨zB⟩⟩
       case rest =>
        clear Ge
        try clear kB mC p27 q27 hx27 qN p29 q29 hx29 c31 jD oI c62 Et Eu
        obtain ⟨kq, rJ, rfl, HA, HJ67, cI, cK, HB⟩ := hcut
        cases kq with
        | zero => exact absurd HA.out (by simp [aN.j2])
        | succ kj67 =>
         have H := HA.out
         clear HA
         simp only [aN.j2] at H
         replace H := sB H
         obtain ⟨rfl, H⟩ | ⟨rfl, H⟩ := H
         ·focus
           have H' := ab H
           clear H
           go_wp2
           go_meet
           case rel => exact ⟨_, (bO), (eP), (eQ), (eR), (eS), (eT), (dB), (dC), (cL), Z7, H', ⟨by have := HK1.out; have := HJ6.out; have := HJ67.out; first | omega | exact Nat.le_refl _⟩, ⟨zC⟩, ⟨zC⟩, ⟨zB⟩⟩
         revert H; refine sI_e0n1 (fun H => ?_) fun ajZ akA H => ?_
         ·exact absurd H (by simp)
         revert H; refine sI_e0n1 (fun H => ?_) fun akB akC H => ?_
         ·exact absurd H (by simp)
         revert H; refine sI_e0n1 (fun H => ?_) fun akD akE H => ?_
         ·exact absurd H (by simp)
         revert H; refine sI_e0n1 (fun H => ?_) fun akF akG H => ?_
         ·exact absurd H (by simp)
         revert H; refine sI_e0n1 (fun H => ?_) fun akH akI H => ?_
         ·exact absurd H (by simp)
         revert H; refine sI_e0n1 (fun H => ?_) fun akJ akK H => ?_
         ·exact absurd H (by simp)
         revert H; refine sI_e0n1 (fun H => ?_) fun akL akM H => ?_
         ·exact absurd H (by simp)
         revert H; refine sI_e0n1 (fun H => ?_) fun akN akO H => ?_
         ·exact absurd H (by simp)
         revert H; refine sI_e0n1 (fun H => ?_) fun akP akQ H => ?_
         ·exact absurd H (by simp)
         revert H; refine sI_e0n1 (fun H => ?_) fun akR akS H => ?_
         ·exact absurd H (by simp)
         revert H; refine sI_e0n1 (fun H => ?_) fun akT akU H => ?_
         ·exact absurd H (by simp)
         revert H; refine sI_e0n1 (fun H => ?_) fun akV akW H => ?_
         ·exact absurd H (by simp)
         revert H; refine sI_e0n1 (fun H => ?_) fun akX akY H => ?_
         ·exact absurd H (by simp)
         revert H; refine sI_e0n1 (fun H => ?_) fun akZ alA H => ?_
         ·exact absurd H (by simp)
         revert H; refine sI_e0n1 (fun H => ?_) fun alB alC H => ?_
         ·exact absurd H (by simp)
         by_cases c86 : false = true
         ·exact absurd c86 (by decide)
         ·clear c86
          rw [if_neg (show ¬ (false = true) by decide)] at H
          focus
           have H' := ab H
           clear H
           go_wp2
           go_roundg kj67
           case measure => have := HK1.out; have := HJ6.out; have := HJ67.out; omega
           case rel => exact ⟨(wrap64 (bO + 1)), (eP), (eQ), (eR), (eS), (eT), (dB), (dC), (cL), (bQ), (bV), Z7, H', ⟨by have := HK1.out; have := HJ6.out; have := HJ67.out; omega⟩, ⟨zC⟩, ⟨zC⟩, ⟨zB⟩⟩
      case rest =>
       clear Gd
       try clear kB mC p27 q27 hx27 qN p29 q29 hx29
       obtain ⟨kq, gA, nE, nF, nG, nH, nI, gC, kN, dJ, rfl, HA, HJ29, cI, cK, HB⟩ := hcut
       cases kq with
       | zero => exact absurd HA.out (by simp [aN.j3])
       | succ kj29 =>
        have H := HA.out
        clear HA
        simp only [aN.j3] at H
        revert H; refine sNd1 fun alD H => ?_
        revert H; refine sNd1 fun alE H => ?_
        revert H; refine bnd ?_; rintro ⟨Gf, mK⟩ Hw H; try dsimp only at H
        revert H; refine sIe1n0_e0n1 (fun Jy Jz H => ?_) fun Jy Jz H => ?_
        ·focus
          simp only [am, an] at H
          obtain ⟨rfl, rfl, rfl, rfl, rfl, rfl, rfl, rfl⟩ := H
          have p89 := ag (ac Z6 : 0 ≤ (gA : Int))
          have q89 := ag (ac Z6 : gA < (a0.size : Int))
          have hx89 := bt_at a0 gA
          try go_wp2_with (first | (refine gl 65 (some 134) Tryz.func65 #[.string a0, .int .i64 gA] ?_; (with_reducible refine (bB.calls kj29 a0 gA Gf mK _ Hw.out).mono ?_); rintro e w' ⟨rfl, ⟨nd, rfl⟩⟩; refine ⟨_, rfl, ?_⟩; (try (rw [drewN_self wc]; generalize hq_ : World.drewN wc _ = wc; replace cI := dqC hq_ cI; replace cK := dqC hq_ cK; replace HB := dqB hq_ HB; clear hq_)); have alF := dS.out; have alG := dR.out; obtain ⟨Sa, Sb, Sc, Sd, Se, Sf, Sg, Sh, Si, Sj, Sk, Sl⟩ := cz6 cK.out))
          generalize hq_ : World.setCell _ _ _ = w94
          replace cI := sqC (g := eJ) hq_ ⟨zC⟩
          replace cK : Aside0 (w94.heap[eX]? = some (.cells #[.int .i64 4, .string mK, .string dJ, .float .f64 bQ, .int .i64 bV, .slice none 0 0] 55 (0, 0))) := ⟨by subst hq_; exact zC⟩
          replace HB : Aside0 (Below w.heap.size w w94) := ⟨by subst hq_; exact zB⟩
          clear hq_
          replace cI := ab (blk_drew cI.out)
          replace cK := ab (blk_drew cK.out)
          replace HB := ab (below_drew1 HB.out)
          refine st1 5 [] (S := fun w' => H6 w' eX (.int .i64 4) (.string mK) (.string dJ) (.float .f64 bQ) (.int .i64 bV) (.slice none 0 0)) (fun hHeld => ?_)
          generalize w94.drew = w95 at cI cK HB hHeld ⊢
          refine pz 0 147 ?_
          refine pz 2 6 ?_
          refine tk6 1 148 ?_
          refine on1 3 none fun K hK => ?_
          obtain ⟨aqM, aqN, aqO, aqP, alH, alI, alJ, alK, alL, alM, afI, afJ⟩ := cz6 cI.out
          have hns96_1 := dS.out
          have hms96_1 := dR.out
          refine sk1 ?_
          refine hK.out _ _ zS (fun hHeld => ?_)
          clear hK K
          refine pz 4 8 ?_
          refine dn1 ?_
          try go_wp2
          refine bodyPost_ret (results_list (rs := [.tmp 6, .cell 7 55, .tmp 8]) rfl (by simp) (.tmp (.cell eJ 55 #[.int .i64 4, .string mK, .string dJ, .float .f64 bQ, .int .i64 bV, .slice none 0 0] (0, 0) _ rfl zC Tryz.underlying55 rfl (by kernel_rfl) (.tmp .nil)))) rfl ?_
          exact ⟨_, Z8, Z9, zB⟩
        revert H; refine sIe1n0_e0n1 (fun Gg Gh H => ?_) fun Gg Gh H => ?_
        ·focus
          simp only [am, an] at H
          obtain ⟨rfl, rfl, rfl, rfl, rfl, rfl, rfl, rfl⟩ := H
          have p89 := ag (ac Z6 : 0 ≤ (gA : Int))
          have q89 := ag (ac Z6 : gA < (a0.size : Int))
          have hx89 := bt_at a0 gA
          try go_wp2_with (first | (refine gl 65 (some 134) Tryz.func65 #[.string a0, .int .i64 gA] ?_; (with_reducible refine (bB.calls kj29 a0 gA Gf mK _ Hw.out).mono ?_); rintro e w' ⟨rfl, ⟨nd, rfl⟩⟩; refine ⟨_, rfl, ?_⟩; (try (rw [drewN_self wc]; generalize hq_ : World.drewN wc _ = wc; replace cI := dqC hq_ cI; replace cK := dqC hq_ cK; replace HB := dqB hq_ HB; clear hq_)); have afK := dS.out; have afL := dR.out; obtain ⟨xN, xO, Ka, Kb, Ke, Kf, xP, xQ, Kg, Kh, Ki, Kj⟩ := cz6 cK.out))
          generalize hq_ : World.setCell _ _ _ = w105
          replace cI := sqC (g := eJ) hq_ ⟨zC⟩
          replace cK : Aside0 (w105.heap[eX]? = some (.cells #[.int .i64 1, .string mK, .string dJ, .float .f64 bQ, .int .i64 bV, .slice none 0 0] 55 (0, 0))) := ⟨by subst hq_; exact zC⟩
          replace HB : Aside0 (Below w.heap.size w w105) := ⟨by subst hq_; exact zB⟩
          clear hq_
          replace cI := ab (blk_drew cI.out)
          replace cK := ab (blk_drew cK.out)
          replace HB := ab (below_drew1 HB.out)
          refine st1 5 [] (S := fun w' => H6 w' eX (.int .i64 1) (.string mK) (.string dJ) (.float .f64 bQ) (.int .i64 bV) (.slice none 0 0)) (fun hHeld => ?_)
          generalize w105.drew = w106 at cI cK HB hHeld ⊢
          refine pz 0 147 ?_
          refine pz 2 6 ?_
          refine tk6 1 148 ?_
          refine on1 3 none fun K hK => ?_
          obtain ⟨alN, alO, alP, alQ, alR, alS, afM, afN, afO, afP, afQ, afR⟩ := cz6 cI.out
          have hns107_1 := dS.out
          have hms107_1 := dR.out
          refine sk1 ?_
          refine hK.out _ _ zS (fun hHeld => ?_)
          clear hK K
          refine pz 4 8 ?_
          refine dn1 ?_
          try go_wp2
          refine bodyPost_ret (results_list (rs := [.tmp 6, .cell 7 55, .tmp 8]) rfl (by simp) (.tmp (.cell eJ 55 #[.int .i64 1, .string mK, .string dJ, .float .f64 bQ, .int .i64 bV, .slice none 0 0] (0, 0) _ rfl zC Tryz.underlying55 rfl (by kernel_rfl) (.tmp .nil)))) rfl ?_
          exact ⟨_, Z8, Z9, zB⟩
        focus
         simp only [am, an] at H
         obtain ⟨rfl, rfl, rfl, rfl, rfl, rfl, rfl, rfl⟩ := H
         have p89 := ag (ac Z6 : 0 ≤ (gA : Int))
         have q89 := ag (ac Z6 : gA < (a0.size : Int))
         have hx89 := bt_at a0 gA
         try go_wp2_with (first | (refine gl 65 (some 134) Tryz.func65 #[.string a0, .int .i64 gA] ?_; (with_reducible refine (bB.calls kj29 a0 gA Gf mK _ Hw.out).mono ?_); rintro e w' ⟨rfl, ⟨nd, rfl⟩⟩; refine ⟨_, rfl, ?_⟩; (try (rw [drewN_self wc]; generalize hq_ : World.drewN wc _ = wc; replace cI := dqC hq_ cI; replace cK := dqC hq_ cK; replace HB := dqB hq_ HB; clear hq_)); have afS := dS.out; have afT := dR.out; obtain ⟨Kk, Kl, Km, Kn, Ko, Kq, Kr, Ks, Kt, Ku, Kv, Kw⟩ := cz6 cK.out))
         generalize hq_ : World.setCell _ _ _ = w115
         replace cI := sqC (g := eJ) hq_ ⟨zC⟩
         replace cK : Aside0 (w115.heap[eX]? = some (.cells #[.int .i64 gC, .string mK, .string dJ, .float .f64 bQ, .int .i64 bV, .slice none 0 0] 55 (0, 0))) := ⟨by subst hq_; exact zC⟩
         replace HB : Aside0 (Below w.heap.size w w115) := ⟨by subst hq_; exact zB⟩
         clear hq_
         replace cI := ab (blk_drew cI.out)
         replace cK := ab (blk_drew cK.out)
         replace HB := ab (below_drew1 HB.out)
         refine st1 5 [] (S := fun w' => H6 w' eX (.int .i64 gC) (.string mK) (.string dJ) (.float .f64 bQ) (.int .i64 bV) (.slice none 0 0)) (fun hHeld => ?_)
         generalize w115.drew = w116 at cI cK HB hHeld ⊢
         refine pz 0 147 ?_
         refine pz 2 6 ?_
         refine tk6 1 148 ?_
         refine on1 3 none fun K hK => ?_
         obtain ⟨alT, alU, alV, alW, alX, alY, afU, afV, afW, afX, afY, afZ⟩ := cz6 cI.out
         have hns117_1 := dS.out
         have hms117_1 := dR.out
         refine sk1 ?_
         refine hK.out _ _ zS (fun hHeld => ?_)
         clear hK K
         refine pz 4 8 ?_
         refine dn1 ?_
         try go_wp2
         refine bodyPost_ret (results_list (rs := [.tmp 6, .cell 7 55, .tmp 8]) rfl (by simp) (.tmp (.cell eJ 55 #[.int .i64 gC, .string mK, .string dJ, .float .f64 bQ, .int .i64 bV, .slice none 0 0] (0, 0) _ rfl zC Tryz.underlying55 rfl (by kernel_rfl) (.tmp .nil)))) rfl ?_
         exact ⟨_, Z8, Z9, zB⟩
   focus
    simp only [am, an] at H
    obtain ⟨rfl, rfl, rfl, rfl, rfl, rfl, rfl, rfl⟩ := H
    try go_wp2
    replace cI := ab (blk_drew cI.out)
    replace cK := ab (blk_drew cK.out)
    replace HB := ab (below_drew1 HB.out)
    refine st1 5 [] (S := fun w' => H6 w' eX (.int .i64 dB) (.string dC) (.string cL) (.float .f64 bQ) (.int .i64 bV) (.slice none 0 0)) (fun hHeld => ?_)
    generalize wr.drew = w123 at cI cK HB hHeld ⊢
    refine pz 0 168 ?_
    refine pz 2 6 ?_
    refine tk6 1 169 ?_
    refine on1 3 none fun K hK => ?_
    obtain ⟨alZ, amA, amB, amC, amD, amE, agA, agB, agC, agD, agE, agF⟩ := cz6 cI.out
    have hns124_1 := dS.out
    have hms124_1 := dR.out
    refine sk1 ?_
    refine hK.out _ _ zS (fun hHeld => ?_)
    clear hK K
    refine pz 4 8 ?_
    refine dn1 ?_
    try go_wp2
    refine bodyPost_ret (results_list (rs := [.tmp 6, .cell 7 55, .tmp 8]) rfl (by simp) (.tmp (.cell eJ 55 #[.int .i64 dB, .string dC, .string cL, .float .f64 bQ, .int .i64 bV, .slice none 0 0] (0, 0) _ rfl zC Tryz.underlying55 rfl (by kernel_rfl) (.tmp .nil)))) rfl ?_
    exact ⟨_, Z8, Z9, zB⟩
end Go.Proofs.YtkjnahgicfmicaaGreatDoor.Sp

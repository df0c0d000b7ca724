import Derived.Test.YtkjnahgicfmicaaGreatDoorZip
import Derived.Test.YtkjnahgicfmicaaGreatDoorQa
import Derived.Test.YtkjnahgicfmicaaGreatDoorQh
import Derived.Test.YtkjnahgicfmicaaGreatDoorQi
import Derived.Test.YtkjnahgicfmicaaGreatDoorQf
namespace Go.Proofs.YtkjnahgicfmicaaGreatDoor.Sp
open Go.RowKit Go.Proofs.YtkjnahgicfmicaaGreatDoorW.PrintWords Go.Proofs.YtkjnahgicfmicaaGreatDoorW.PrintLast Go.Proofs.YtkjnahgicfmicaaGreatDoorW.PrintMore
attribute [local go_sem] run_store_float max2_int min2_int max_two min_two max_three min_three max_four min_four
set_option linter.unusedVariables false
set_option linter.unusedSimpArgs false
mutual
def aJ.l0 (aZ : cE) (aM : bV) : Nat → ByteArray → Int → Int → ByteArray → ByteArray → Nat → Int → Option (Int × Int × ByteArray × ByteArray × Nat × Int × List Int × Bool)
 | 0, _, _, _, _, _, _, _ => none
 | k + 1, x0, x1, fB, fG, eQ, eC, eK => if x1 < (x0.size : Int) then (if 0 ≤ x1 then (if (bt x0 x1) = 123 then (aJ.j1 aZ aM k x0 x1 true fB fG eQ eC eK) else (aJ.j1 aZ aM k x0 x1 ((bt x0 x1) == 91) fB fG eQ eC eK)) else (none)) else (some (x1, fB, fG, eQ, eC, eK, ([] : List Int), false))
def aJ.j1 (aZ : cE) (aM : bV) : Nat → ByteArray → Int → Bool → Int → ByteArray → ByteArray → Nat → Int → Option (Int × Int × ByteArray × ByteArray × Nat × Int × List Int × Bool)
 | 0, _, _, _, _, _, _, _, _ => none
 | k + 1, x0, x1, x30, fB, fG, eQ, eC, eK => if x30 = true then ((aM.f k x0 x1).bind fun bt441 => (some (bt441.1, 5, bt441.2, eQ, eC, wrap64 ((mn bt441.1 (x0.size : Int)) - (bt441.2.size : Int)), ([] : List Int), true))) else (if 0 ≤ x1 then (if x1 < (x0.size : Int) then (if (bt x0 x1) ≤ 32 then (aJ.l0 aZ aM k x0 (wrap64 (x1 + 1)) fB fG eQ eC eK) else (if (bt x0 x1) = 34 then ((aC.f k x0 (wrap64 (x1 + 1))).bind fun bt443 => (if bt443.2.2.2 = true then (if bt443.2.2.1 = true then (if 1 ≤ (wrap64 ((bt443.2.1.size : Int) - 1)) then (if (wrap64 ((bt443.2.1.size : Int) - 1)) ≤ (bt443.2.1.size : Int) then ((aZ.f k (bt443.2.1.extract 1 ((wrap64 ((bt443.2.1.size : Int) - 1)) : Int).toNat)).bind fun qQ => (some (bt443.1, 3, bt443.2.1, qQ, eC, eK, ([] : List Int), true))) else (none)) else (none)) else (if 1 ≤ (wrap64 ((bt443.2.1.size : Int) - 1)) then (if (wrap64 ((bt443.2.1.size : Int) - 1)) ≤ (bt443.2.1.size : Int) then (some (bt443.1, 3, bt443.2.1, bt443.2.1.extract 1 ((wrap64 ((bt443.2.1.size : Int) - 1)) : Int).toNat, eC, eK, ([] : List Int), true)) else (none)) else (none))) else (none))) else (if (bt x0 x1) = 110 then (if (wrap64 (x1 + 1)) < (x0.size : Int) then (if 0 ≤ (wrap64 (x1 + 1)) then (if (bt x0 (wrap64 (x1 + 1))) = 117 then (aJ.j3 aZ aM k x0 x1 fB fG eQ eC eK) else (none)) else (none)) else (aJ.j3 aZ aM k x0 x1 fB fG eQ eC eK)) else (if (bt x0 x1) = 116 then (aJ.j2 aZ aM k x0 x1 false (bt x0 x1) ((bt x0 x1) == 116) fB fG eQ eC eK) else (aJ.j2 aZ aM k x0 x1 false (bt x0 x1) ((bt x0 x1) == 102) fB fG eQ eC eK))))) else (none)) else (none))
def aJ.j3 (aZ : cE) (aM : bV) : Nat → ByteArray → Int → Int → ByteArray → ByteArray → Nat → Int → Option (Int × Int × ByteArray × ByteArray × Nat × Int × List Int × Bool)
 | 0, _, _, _, _, _, _, _ => none
 | k + 1, x0, x1, fB, fG, eQ, eC, eK => if 0 ≤ x1 then (if x1 < (x0.size : Int) then ((bA.f k x0 x1).bind fun bt448 => (if (bt x0 x1) = 116 then (some (bt448.1, 4, bt448.2, eQ, eC, eK, ([] : List Int), true)) else (if (bt x0 x1) = 102 then (some (bt448.1, 1, bt448.2, eQ, eC, eK, ([] : List Int), true)) else (some (bt448.1, fB, bt448.2, eQ, eC, eK, ([] : List Int), true))))) else (none)) else (none)
def aJ.j2 (aZ : cE) (aM : bV) : Nat → ByteArray → Int → Bool → Int → Bool → Int → ByteArray → ByteArray → Nat → Int → Option (Int × Int × ByteArray × ByteArray × Nat × Int × List Int × Bool)
 | 0, _, _, _, _, _, _, _, _, _, _ => none
 | k + 1, x0, x1, x11, x58, x63, fB, fG, eQ, eC, eK => if x63 = true then (aJ.j3 aZ aM k x0 x1 fB fG eQ eC eK) else (if x58 = 43 then (none) else (if x58 = 45 then (none) else (if x58 = 48 then (none) else (if x58 = 49 then (none) else (if x58 = 50 then (none) else (if x58 = 51 then (none) else (if x58 = 52 then (none) else (if x58 = 53 then (none) else (if x58 = 54 then (none) else (if x58 = 55 then (none) else (if x58 = 56 then (none) else (if x58 = 57 then (none) else (if x58 = 105 then (none) else (if x58 = 73 then (none) else (if x58 = 78 then (none) else (if x11 = true then (none) else (aJ.l0 aZ aM k x0 (wrap64 (x1 + 1)) fB fG eQ eC eK)))))))))))))))))
end
def aJ.f (aZ : cE) (aM : bV) (k : Nat) (a0 : ByteArray) (a1 : Int) (a2 : Bool) : Option (Int × Int × ByteArray × ByteArray × Nat × Int × List Int × Bool) := aJ.l0 aZ aM k a0 a1 0 (⟨#[]⟩ : ByteArray) (⟨#[]⟩ : ByteArray) (0 : Nat) 0
theorem aJ.mono_l (aZ : cE) (aM : bV) : ∀ k, (∀ y0 y1 y2 y3 y4 y5 y6, LeO (aJ.l0 aZ aM k y0 y1 y2 y3 y4 y5 y6) (aJ.l0 aZ aM (k + 1) y0 y1 y2 y3 y4 y5 y6)) ∧ (∀ y0 y1 y2 y3 y4 y5 y6 y7, LeO (aJ.j1 aZ aM k y0 y1 y2 y3 y4 y5 y6 y7) (aJ.j1 aZ aM (k + 1) y0 y1 y2 y3 y4 y5 y6 y7)) ∧ (∀ y0 y1 y2 y3 y4 y5 y6, LeO (aJ.j3 aZ aM k y0 y1 y2 y3 y4 y5 y6) (aJ.j3 aZ aM (k + 1) y0 y1 y2 y3 y4 y5 y6)) ∧ (∀ y0 y1 y2 y3 y4 y5 y6 y7 y8 y9, LeO (aJ.j2 aZ aM k y0 y1 y2 y3 y4 y5 y6 y7 y8 y9) (aJ.j2 aZ aM (k + 1) y0 y1 y2 y3 y4 y5 y6 y7 y8 y9))
 | 0 => ⟨fun _ _ _ _ _ _ _ r h => by simp [aJ.l0] at h, fun _ _ _ _ _ _ _ _ r h => by simp [aJ.j1] at h, fun _ _ _ _ _ _ _ r h => by simp [aJ.j3] at h, fun _ _ _ _ _ _ _ _ _ _ r h => by simp [aJ.j2] at h⟩
 | k + 1 => by
  obtain ⟨ih0, ih1, ih2, ih3⟩ := aJ.mono_l aZ aM k
  refine ⟨?_, ?_, ?_, ?_⟩
  ·intro y0 y1 y2 y3 y4 y5 y6
   unfold aJ.l0
   repeat' first
   | (with_reducible exact ih0 _ _ _ _ _ _ _)
   | (with_reducible exact ih1 _ _ _ _ _ _ _ _)
   | (with_reducible exact ih2 _ _ _ _ _ _ _)
   | (with_reducible exact ih3 _ _ _ _ _ _ _ _ _ _)
   | (with_reducible exact aM.mono _ _ _)
   | (with_reducible exact aZ.mono _ _)
   | (with_reducible exact bA.mono _ _ _)
   | (with_reducible exact aC.mono _ _ _)
   | (with_reducible exact LeO.refl _)
   | (with_reducible exact LeO.none _)
   | (with_reducible refine LeO.ite ?_ ?_)
   | (with_reducible refine LeO.bind ?_ (fun _ => ?_))
   | exact ih0 _ _ _ _ _ _ _
   | exact ih1 _ _ _ _ _ _ _ _
   | exact ih2 _ _ _ _ _ _ _
   | exact ih3 _ _ _ _ _ _ _ _ _ _
   | exact aM.mono _ _ _
   | exact aZ.mono _ _
   | exact bA.mono _ _ _
   | exact aC.mono _ _ _
   | exact LeO.none _
   | refine LeO.ite ?_ ?_
   | refine LeO.bind ?_ (fun _ => ?_)
  ·intro y0 y1 y2 y3 y4 y5 y6 y7
   unfold aJ.j1
   repeat' first
   | (with_reducible exact ih0 _ _ _ _ _ _ _)
   | (with_reducible exact ih1 _ _ _ _ _ _ _ _)
   | (with_reducible exact ih2 _ _ _ _ _ _ _)
   | (with_reducible exact ih3 _ _ _ _ _ _ _ _ _ _)
   | (with_reducible exact aM.mono _ _ _)
   | (with_reducible exact aZ.mono _ _)
   | (with_reducible exact bA.mono _ _ _)
   | (with_reducible exact aC.mono _ _ _)
   | (with_reducible exact LeO.refl _)
   | (with_reducible exact LeO.none _)
   | (with_reducible refine LeO.ite ?_ ?_)
   | (with_reducible refine LeO.bind ?_ (fun _ => ?_))
   | exact ih0 _ _ _ _ _ _ _
   | exact ih1 _ _ _ _ _ _ _ _
   | exact ih2 _ _ _ _ _ _ _
   | exact ih3 _ _ _ _ _ _ _ _ _ _
   | exact aM.mono _ _ _
   | exact aZ.mono _ _
   | exact bA.mono _ _ _
   | exact aC.mono _ _ _
   | exact LeO.none _
   | refine LeO.ite ?_ ?_
   | refine LeO.bind ?_ (fun _ => ?_)
  ·intro y0 y1 y2 y3 y4 y5 y6
   unfold aJ.j3
   repeat' first
   | (with_reducible exact ih0 _ _ _ _ _ _ _)
   | (with_reducible exact ih1 _ _ _ _ _ _ _ _)
   | (with_reducible exact ih2 _ _ _ _ _ _ _)
   | (with_reducible exact ih3 _ _ _ _ _ _ _ _ _ _)
   | (with_reducible exact aM.mono _ _ _)
   | (with_reducible exact aZ.mono _ _)
   | (with_reducible exact bA.mono _ _ _)
   | (with_reducible exact aC.mono _ _ _)
   | (with_reducible exact LeO.refl _)
   | (with_reducible exact LeO.none _)
   | (with_reducible refine LeO.ite ?_ ?_)
   | (with_reducible refine LeO.bind ?_ (fun _ => ?_))
   | exact ih0 _ _ _ _ _ _ _
   | exact ih1 _ _ _ _ _ _ _ _
   | exact ih2 _ _ _ _ _ _ _
   | exact ih3 _ _ _ _ _ _ _ _ _ _
   | exact aM.mono _ _ _
   | exact aZ.mono _ _
   | exact bA.mono _ _ _
   | exact aC.mono _ _ _
   | exact LeO.none _
   | refine LeO.ite ?_ ?_
   | refine LeO.bind ?_ (fun _ => ?_)
  ·intro y0 y1 y2 y3 y4 y5 y6 y7 y8 y9
   unfold aJ.j2
   repeat' first
   | (with_reducible exact ih0 _ _ _ _ _ _ _)
   | (with_reducible exact ih1 _ _ _ _ _ _ _ _)
   | (with_reducible exact ih2 _ _ _ _ _ _ _)
   | (with_reducible exact ih3 _ _ _ _ _ _ _ _ _ _)
   | (with_reducible exact aM.mono _ _ _)
   | (with_reducible exact aZ.mono _ _)
   | (with_reducible exact bA.mono _ _ _)
   | (with_reducible exact aC.mono _ _ _)
   | (with_reducible exact LeO.refl _)
   | (with_reducible exact LeO.none _)
   | (with_reducible refine LeO.ite ?_ ?_)
   | (with_reducible refine LeO.bind ?_ (fun _ => ?_))
   | exact ih0 _ _ _ _ _ _ _
   | exact ih1 _ _ _ _ _ _ _ _
   | exact ih2 _ _ _ _ _ _ _
   | exact ih3 _ _ _ _ _ _ _ _ _ _
   | exact aM.mono _ _ _
   | exact aZ.mono _ _
   | exact bA.mono _ _ _
   | exact aC.mono _ _ _
   | exact LeO.none _
   | refine LeO.ite ?_ ?_
   | refine LeO.bind ?_ (fun _ => ?_)
theorem aJ.mono (aZ : cE) (aM : bV) : ∀ a0 a1 a2 k, LeO (aJ.f aZ aM k a0 a1 a2) (aJ.f aZ aM (k + 1) a0 a1 a2) := by
 intro a0 a1 a2 k
 obtain ⟨ih0, ih1, ih2, ih3⟩ := aJ.mono_l aZ aM k
 unfold aJ.f
 exact zM
instance aJ.mi (aZ : cE) (aM : bV) {a0 a1 a2 k} : LeI (aJ.f aZ aM k a0 a1 a2) (aJ.f aZ aM (k + 1) a0 a1 a2) := ⟨⟨aJ.mono aZ aM a0 a1 a2 k⟩⟩
set_option maxHeartbeats 8000000 in
set_option maxRecDepth 100000 in
theorem aJ.calls (aZ : cE) (aM : bV) (k : Nat) (a0 : ByteArray) (a1 : Int) (a2 : Bool) (r1 : Int) (r2 : Int) (r3 : ByteArray) (r4 : ByteArray) (r5 : Nat) (r6 : Int) (r7 : List Int) (r8 : Bool) (w : World) (h : aJ.f aZ aM k a0 a1 a2 = some (r1, r2, r3, r4, r5, r6, r7, r8)) (hW : Wok w) :
 Calls Tryz.prog 50 #[.string a0, .int .i64 a1, .bool true] w fun e w' => ∃ v6_ : Value, e = .returned (.tuple #[.int .i64 r1, .agg #[.int .i64 r2, .string r3, .string r4, .float .f64 r5, .int .i64 r6, v6_], .bool r8]) ∧ Kd.R (Kd.int .i64) 3 w' w.heap.size (fun _ => True) v6_ r7 ∧ Below w.heap.size w w' := by
 have HWK := Aside0.mk hW
 clear hW
 have hu55 := Tryz.underlying55
 have HB := Aside0.mk (Below.refl w.heap.size w)
 have H : (aJ.l0 aZ aM k a0 a1 0 (⟨#[]⟩ : ByteArray) (⟨#[]⟩ : ByteArray) (0 : Nat) 0) = some (r1, r2, r3, r4, r5, r6, r7, r8) := h
 clear h
 have H' := Aside0.mk H
 clear H
 go_enter Tryz.func50, Tryz.ntmps50
 go_wp2_with (first | ((with_reducible refine gate_dst (N := 7) rfl ?_); refine box_event ?hg (N := 7) ?hd (cs := #[.int .i64 0, .string (⟨#[]⟩ : ByteArray), .string (⟨#[]⟩ : ByteArray), .float .f64 (0 : Nat), .int .i64 0, .slice none 0 0]) (t := 55) ?hr ?_; (case hd => rfl); (case hg => rfl); (case hr => exact Z14); intro eY hg w4 hbox hb; have cS := Aside0.mk (hbox); have aiR : Aside0 (w.heap.size ≤ eY) := ⟨Z21⟩; have aiS : Aside0 (w.heap.size ≤ eY) := ⟨Z21⟩; replace HB := Aside0.mk (below_step (w := w) zB hb); clear hb hbox hg) | ((with_reducible refine gate_dst (N := 9) rfl ?_); refine box_event ?hg (N := 9) ?hd (cs := #[.int .i64 0, .string (⟨#[]⟩ : ByteArray), .string (⟨#[]⟩ : ByteArray), .float .f64 (0 : Nat), .int .i64 0, .slice none 0 0]) (t := 55) ?hr ?_; (case hd => rfl); (case hg => rfl); (case hr => exact Z14); intro fS hg w5 hbox hb; have cU := Aside0.mk (hbox); have aiT : Aside0 (w.heap.size ≤ fS) := ⟨Z21⟩; have aiU : Aside0 (w.heap.size ≤ fS) := ⟨Z21⟩; replace HB := Aside0.mk (below_step (w := w) zB hb); have eH : Aside0 (eY ≠ fS) := ⟨by rw [hg]; exact Nat.ne_of_lt (blk_lt (g := eY) zC)⟩; have eI : Aside0 (fS ≠ eY) := ⟨by rw [hg]; exact Nat.ne_of_gt (blk_lt (g := eY) zC)⟩; replace cS := Aside0.mk (blk_below (g := eY) zC hb); clear hb hbox hg))
 (try simp only [Act.put, List.setIfInBounds_toArray, List.set_cons_zero, List.set_cons_succ])
 go_loopg [1] k (fun kq v1 w' => ∃ (bR : Int) (fH : Int) (fI : ByteArray) (fJ : ByteArray) (fK : Nat) (fN : Int) (dM : Int) (dN : ByteArray) (cY : ByteArray) (bX : Nat) (cD : Int), v1 = .int .i64 bR ∧ Aside0 (aJ.l0 aZ aM kq a0 bR dM dN cY bX cD = some (r1, r2, r3, r4, r5, r6, r7, r8)) ∧ Aside0 (kq ≤ k) ∧ Aside0 (w'.heap[eY]? = some (.cells #[.int .i64 fH, .string fI, .string fJ, .float .f64 fK, .int .i64 fN, (.slice none 0 0)] 55 (0, 0))) ∧ Aside0 (w'.heap[fS]? = some (.cells #[.int .i64 dM, .string dN, .string cY, .float .f64 bX, .int .i64 cD, (.slice none 0 0)] 55 (0, 0))) ∧ Aside0 (Below w.heap.size w w'))
 case atStart => exact ⟨(a1), (0), ((⟨#[]⟩ : ByteArray)), ((⟨#[]⟩ : ByteArray)), ((0 : Nat)), (0), (0), ((⟨#[]⟩ : ByteArray)), ((⟨#[]⟩ : ByteArray)), ((0 : Nat)), (0), Z9, H', ⟨Nat.le_refl _⟩, ⟨zC⟩, ⟨zC⟩, ⟨zB⟩⟩
 case round =>
  clear H'
  obtain ⟨bR, fH, fI, fJ, fK, fN, dM, dN, cY, bX, cD, rfl, HA, HK1, cS, cU, HB⟩ := hrel
  cases gk with
  | zero => exact absurd HA.out (by simp [aJ.l0])
  | succ k1 =>
   have H := HA.out
   clear HA
   simp only [aJ.l0] at H
   revert H; refine sId1_d0 (fun eX H => ?_) fun eX H => ?_
   ·have HC7 := Aside0.mk H
    clear H
    go_upto_region 5 with (fail)
    go_cut [30] (fun v30 wc => ∃ (kq : Nat) (xO : Bool), v30 = .bool xO ∧ Aside0 (aJ.j1 aZ aM kq a0 bR xO dM dN cY bX cD = some (r1, r2, r3, r4, r5, r6, r7, r8)) ∧ Aside0 (kq ≤ k1) ∧ Aside0 (wc.heap[eY]? = some (.cells #[.int .i64 fH, .string fI, .string fJ, .float .f64 fK, .int .i64 fN, (.slice none 0 0)] 55 (0, 0))) ∧ Aside0 (wc.heap[fS]? = some (.cells #[.int .i64 dM, .string dN, .string cY, .float .f64 bX, .int .i64 cD, (.slice none 0 0)] 55 (0, 0))) ∧ Aside0 (Below w.heap.size w wc))
    case first =>
     have H := HC7.out
     clear HC7
     revert H; refine sNd1 fun jH H => ?_
     (first | rw [jH] | (simp only [i64_w, i32_w]; rw [jH]) | skip)
     revert H; refine sIe1n0_e0n1 (fun mU nS H => ?_) fun mU nS H => ?_
     ·focus
       have H' := Aside0.mk H
       clear H
       have p9 := eq_true (of_decide_eq_true Z8 : 0 ≤ (bR : Int))
       have q9 := eq_true (of_decide_eq_true Z8 : bR < (a0.size : Int))
       have hx9 := bt_at a0 bR
       go_wp2
       go_meet
       case rel => exact ⟨_, (true), Z9, H', ⟨Z63⟩, ⟨zC⟩, ⟨zC⟩, ⟨zB⟩⟩
     focus
      have H' := Aside0.mk H
      clear H
      have p9 := eq_true (of_decide_eq_true Z8 : 0 ≤ (bR : Int))
      have q9 := eq_true (of_decide_eq_true Z8 : bR < (a0.size : Int))
      have hx9 := bt_at a0 bR
      have p11 := eq_true (of_decide_eq_true Z8 : 0 ≤ (bR : Int))
      have q11 := eq_true (of_decide_eq_true Z8 : bR < (a0.size : Int))
      have hx11 := bt_at a0 bR
      go_wp2
      go_meet
      case rel => exact ⟨_, (((bt a0 bR) == 91)), Z9, H', ⟨Z63⟩, ⟨zC⟩, ⟨zC⟩, ⟨zB⟩⟩
    case rest =>
     clear HC7
     try clear eX
     obtain ⟨kq, xO, rfl, HA, HJ6, cS, cU, HB⟩ := hcut
     cases kq with
     | zero => exact absurd HA.out (by simp [aJ.j1])
     | succ kj6 =>
      have H := HA.out
      clear HA
      simp only [aJ.j1] at H
      replace H := sB H
      obtain ⟨rfl, H⟩ | ⟨rfl, H⟩ := H
      ·revert H; refine bnd ?_; rintro ⟨iW, pK⟩ vT H; try dsimp only at H
       obtain ⟨xP, qR⟩ : ∃ j_ : Int, (mn iW (a0.size : Int)) = j_ := ⟨_, rfl⟩
       replace H : (some (iW, 5, pK, cY, bX, wrap64 ((xP) - (pK.size : Int)), ([] : List Int), true)) = some (r1, r2, r3, r4, r5, r6, r7, r8) := by first | (rw [qR] at H; exact H) | (simp only [qR] at H ⊢; exact H)
       (try rw [qR] at vT)
       have aeH : (if (a0.size : Int) < iW then (a0.size : Int) else iW) = xP := qR
       focus
        simp only [Option.some.injEq, Prod.mk.injEq] at H
        obtain ⟨rfl, rfl, rfl, rfl, rfl, rfl, rfl, rfl⟩ := H
        try go_wp2_with (first | (refine gl 64 (some 34) Tryz.func64 #[.string a0, .int .i64 bR] ?_; (with_reducible refine (aM.calls kj6 a0 bR iW pK _ vT.out (HWK.out.below zB)).mono ?_); rintro e w' ⟨rfl, ⟨nd, rfl⟩⟩; refine ⟨_, rfl, ?_⟩; (try (rw [drewN_self wc]; generalize hq_ : World.drewN wc _ = wc; replace cS := dqC hq_ cS; replace cU := dqC hq_ cU; replace HB := dqB hq_ HB; clear hq_)); have Ks := eI.out; have Kt := eH.out; obtain ⟨sM, sN, sO, sP, Al, Am, sQ, sR, sS, sT, An, Ao⟩ := cz6 cU.out))
        generalize hq_ : World.setCell _ _ _ = w17
        replace cS := sqC (g := eY) hq_ ⟨zC⟩
        replace cU : Aside0 (w17.heap[fS]? = some (.cells #[.int .i64 5, .string pK, .string cY, .float .f64 bX, .int .i64 (wrap64 ((xP) - (pK.size : Int))), .slice none 0 0] 55 (0, 0))) := ⟨by subst hq_; exact zC⟩
        replace HB : Aside0 (Below w.heap.size w w17) := ⟨by subst hq_; exact zB⟩
        clear hq_
        replace cS := Aside0.mk (blk_drew cS.out)
        replace cU := Aside0.mk (blk_drew cU.out)
        replace HB := Aside0.mk (below_drew1 HB.out)
        refine st1 5 [] (S := fun w' => H6 w' fS (.int .i64 5) (.string pK) (.string cY) (.float .f64 bX) (.int .i64 (wrap64 ((xP) - (pK.size : Int)))) (.slice none 0 0)) (fun hHeld => ?_)
        generalize w17.drew = w18 at cS cU HB hHeld ⊢
        refine pz 0 50 ?_
        refine pz 2 6 ?_
        refine tk6 1 51 ?_
        refine on1 3 none fun K hK => ?_
        obtain ⟨apL, apM, apN, apO, apP, apQ, aiV, aiW, aiX, aiY, aiZ, ajA⟩ := cz6 cS.out
        have hns19_1 := eI.out
        have hms19_1 := eH.out
        refine sk1 ?_
        refine hK.out _ _ zS (fun hHeld => ?_)
        clear hK K
        refine pz 4 8 ?_
        refine dn1 ?_
        try go_wp2
        refine bodyPost_ret (results_list (rs := [.tmp 6, .cell 7 55, .tmp 8]) rfl (by simp) (.tmp (.cell eY 55 #[.int .i64 5, .string pK, .string cY, .float .f64 bX, .int .i64 (wrap64 ((xP) - (pK.size : Int))), .slice none 0 0] (0, 0) _ rfl zC Tryz.underlying55 rfl (by kernel_rfl) (.tmp .nil)))) rfl ?_
        exact ⟨_, by first | rfl | (simp [errW_none, errW_some] <;> rfl) | (simp only [← qR]; first | rfl | (simp [errW_none, errW_some] <;> rfl)) | (simp [*, errW_none, errW_some] <;> rfl), Z12, zB⟩
      revert H; refine sNd1 fun lH H => ?_
      revert H; refine sNd1 fun oV H => ?_
      revert H; refine sId1_d0 (fun oW H => ?_) fun oW H => ?_
      ·focus
        have H' := Aside0.mk H
        clear H
        have p27 := eq_true (of_decide_eq_true Z8 : 0 ≤ (bR : Int))
        have q27 := eq_true (of_decide_eq_true Z8 : bR < (a0.size : Int))
        have hx27 := bt_at a0 bR
        go_wp2
        go_roundg kj6
        case measure => have := HK1.out; have := HJ6.out; omega
        case rel => exact ⟨(wrap64 (bR + 1)), (fH), (fI), (fJ), (fK), (fN), (dM), (dN), (cY), (bX), (cD), Z9, H', ⟨by have := HK1.out; have := HJ6.out; omega⟩, ⟨zC⟩, ⟨zC⟩, ⟨zB⟩⟩
      have Hv := Aside0.mk H
      clear H
      have p27 := eq_true (of_decide_eq_true Z8 : 0 ≤ (bR : Int))
      have q27 := eq_true (of_decide_eq_true Z8 : bR < (a0.size : Int))
      have hx27 := bt_at a0 bR
      have p29 := eq_true (of_decide_eq_true Z8 : 0 ≤ (bR : Int))
      have q29 := eq_true (of_decide_eq_true Z8 : bR < (a0.size : Int))
      have hx29 := bt_at a0 bR
      go_upto_block 5 with (fail)
      go_cut [1] (fun v1 wc => ∃ (kq : Nat) (gS : Int) (nU : Int) (nV : ByteArray) (nW : ByteArray) (nX : Nat) (nY : Int) (gX : Int) (lS : ByteArray) (dY : ByteArray), v1 = .int .i64 gS ∧ Aside0 (aJ.j3 aZ aM kq a0 gS gX lS dY bX cD = some (r1, r2, r3, r4, r5, r6, r7, r8)) ∧ Aside0 (kq ≤ kj6) ∧ Aside0 (wc.heap[eY]? = some (.cells #[.int .i64 nU, .string nV, .string nW, .float .f64 nX, .int .i64 nY, (.slice none 0 0)] 55 (0, 0))) ∧ Aside0 (wc.heap[fS]? = some (.cells #[.int .i64 gX, .string lS, .string dY, .float .f64 bX, .int .i64 cD, (.slice none 0 0)] 55 (0, 0))) ∧ Aside0 (Below w.heap.size w wc))
      case first =>
       have H := Hv.out
       clear Hv
       revert H; refine sIe1n0_e0n1k (fun mV tT H => ?_) fun mV tT c31 H => ?_
       ·(first | rw [mV] | (simp only [i64_w, i32_w]; rw [mV]) | skip)
        revert H; refine bnd ?_; rintro ⟨Lf, fO, apR, apS⟩ Rp H; try dsimp only at H
        replace H := sB H
        obtain ⟨rfl, H⟩ | ⟨rfl, H⟩ := H
        ·replace H := sB H
         obtain ⟨rfl, H⟩ | ⟨rfl, H⟩ := H
         ·revert H; refine sNt1d1 fun xJ xK H => ?_
          revert H; refine sNt1d1 fun oY oZ H => ?_
          revert H; refine bnd ?_; rintro qQ A37 H
          focus
           simp only [Option.some.injEq, Prod.mk.injEq] at H
           obtain ⟨rfl, rfl, rfl, rfl, rfl, rfl, rfl, rfl⟩ := H
           try go_wp2_with (first | (refine gl 48 (some 87) Tryz.func48 #[.string a0, .int .i64 (wrap64 (bR + 1))] ?_; (with_reducible refine (aC.calls kj6 a0 (wrap64 (bR + 1)) Lf fO true true _ Rp.out).mono ?_); rintro e w' ⟨rfl, ⟨nd, rfl⟩⟩; refine ⟨_, rfl, ?_⟩; (try (rw [drewN_self wc]; generalize hq_ : World.drewN wc _ = wc; replace cS := dqC hq_ cS; replace cU := dqC hq_ cU; replace HB := dqB hq_ HB; clear hq_)); have ajB := eI.out; have ajC := eH.out; obtain ⟨Ck, Cl, Cm, Cn, Co, Cp, Cq, Cr, Ct, Cu, Cv, Cw⟩ := cz6 cU.out) | (refine gl 49 (some 106) Tryz.func49 #[.string (fO.extract 1 ((wrap64 ((fO.size : Int) - 1)) : Int).toNat)] ?_; (with_reducible refine (aZ.calls kj6 (fO.extract 1 ((wrap64 ((fO.size : Int) - 1)) : Int).toNat) qQ _ A37.out).mono ?_); rintro e w40 ⟨rfl, hb⟩; refine ⟨_, rfl, ?_⟩; replace cS := Aside0.mk (blk_below (g := eY) zC hb); replace cU := Aside0.mk (blk_below (g := fS) (o := .cells #[.int .i64 3, .string fO, .string cY, .float .f64 bX, .int .i64 cD, .slice none 0 0] 55 (0, 0)) zC hb); replace HB := Aside0.mk (below_step (w := w) zB hb); clear hb; obtain ⟨Tl, Tm, Tn, To, Tp, Tq, Ts, Tt, Tu, Tv, Tw, Tx⟩ := cz6 cU.out))
           generalize hq_ : World.setCell _ _ _ = w42
           replace cS := sqC (g := eY) hq_ ⟨zC⟩
           replace cU : Aside0 (w42.heap[fS]? = some (.cells #[.int .i64 3, .string fO, .string qQ, .float .f64 bX, .int .i64 cD, .slice none 0 0] 55 (0, 0))) := ⟨by subst hq_; exact zC⟩
           replace HB : Aside0 (Below w.heap.size w w42) := ⟨by subst hq_; exact zB⟩
           clear hq_
           replace cS := Aside0.mk (blk_drew cS.out)
           replace cU := Aside0.mk (blk_drew cU.out)
           replace HB := Aside0.mk (below_drew1 HB.out)
           refine st1 5 [] (S := fun w' => H6 w' fS (.int .i64 3) (.string fO) (.string qQ) (.float .f64 bX) (.int .i64 cD) (.slice none 0 0)) (fun hHeld => ?_)
           generalize w42.drew = w43 at cS cU HB hHeld ⊢
           refine pz 0 114 ?_
           refine pz 2 6 ?_
           refine tk6 1 115 ?_
           refine on1 3 none fun K hK => ?_
           obtain ⟨apT, apU, apV, aeJ, apW, apX, ajD, ajE, ajF, Lg, ajG, ajH⟩ := cz6 cS.out
           have hns44_1 := eI.out
           have hms44_1 := eH.out
           refine sk1 ?_
           refine hK.out _ _ zS (fun hHeld => ?_)
           clear hK K
           refine pz 4 8 ?_
           refine dn1 ?_
           try go_wp2
           refine bodyPost_ret (results_list (rs := [.tmp 6, .cell 7 55, .tmp 8]) rfl (by simp) (.tmp (.cell eY 55 #[.int .i64 3, .string fO, .string qQ, .float .f64 bX, .int .i64 cD, .slice none 0 0] (0, 0) _ rfl zC Tryz.underlying55 rfl (by kernel_rfl) (.tmp .nil)))) rfl ?_
           exact ⟨_, Z11, Z12, zB⟩
         revert H; refine sNt1d1 fun Ky Kz H => ?_
         revert H; refine sNt1d1 fun Gr ajI H => ?_
         focus
          simp only [Option.some.injEq, Prod.mk.injEq] at H
          obtain ⟨rfl, rfl, rfl, rfl, rfl, rfl, rfl, rfl⟩ := H
          try go_wp2_with (first | (refine gl 48 (some 87) Tryz.func48 #[.string a0, .int .i64 (wrap64 (bR + 1))] ?_; (with_reducible refine (aC.calls kj6 a0 (wrap64 (bR + 1)) Lf fO false true _ Rp.out).mono ?_); rintro e w' ⟨rfl, ⟨nd, rfl⟩⟩; refine ⟨_, rfl, ?_⟩; (try (rw [drewN_self wc]; generalize hq_ : World.drewN wc _ = wc; replace cS := dqC hq_ cS; replace cU := dqC hq_ cU; replace HB := dqB hq_ HB; clear hq_)); have ajJ := eI.out; have ajK := eH.out; obtain ⟨tZ, uA, Ty, Tz, Ua, Ub, uB, uC, Uc, Ud, Ue, Uf⟩ := cz6 cU.out))
          generalize hq_ : World.setCell _ _ _ = w54
          replace cS := sqC (g := eY) hq_ ⟨zC⟩
          replace cU : Aside0 (w54.heap[fS]? = some (.cells #[.int .i64 3, .string fO, .string (fO.extract 1 ((wrap64 ((fO.size : Int) - 1)) : Int).toNat), .float .f64 bX, .int .i64 cD, .slice none 0 0] 55 (0, 0))) := ⟨by subst hq_; exact zC⟩
          replace HB : Aside0 (Below w.heap.size w w54) := ⟨by subst hq_; exact zB⟩
          clear hq_
          replace cS := Aside0.mk (blk_drew cS.out)
          replace cU := Aside0.mk (blk_drew cU.out)
          replace HB := Aside0.mk (below_drew1 HB.out)
          refine st1 5 [] (S := fun w' => H6 w' fS (.int .i64 3) (.string fO) (.string (fO.extract 1 ((wrap64 ((fO.size : Int) - 1)) : Int).toNat)) (.float .f64 bX) (.int .i64 cD) (.slice none 0 0)) (fun hHeld => ?_)
          generalize w54.drew = w55 at cS cU HB hHeld ⊢
          refine pz 0 114 ?_
          refine pz 2 6 ?_
          refine tk6 1 115 ?_
          refine on1 3 none fun K hK => ?_
          obtain ⟨apY, apZ, aqA, aqB, aqC, aqD, ajL, ajM, ajN, ajO, ajP, ajQ⟩ := cz6 cS.out
          have hns56_1 := eI.out
          have hms56_1 := eH.out
          refine sk1 ?_
          refine hK.out _ _ zS (fun hHeld => ?_)
          clear hK K
          refine pz 4 8 ?_
          refine dn1 ?_
          try go_wp2
          refine bodyPost_ret (results_list (rs := [.tmp 6, .cell 7 55, .tmp 8]) rfl (by simp) (.tmp (.cell eY 55 #[.int .i64 3, .string fO, .string (fO.extract 1 ((wrap64 ((fO.size : Int) - 1)) : Int).toNat), .float .f64 bX, .int .i64 cD, .slice none 0 0] (0, 0) _ rfl zC Tryz.underlying55 rfl (by kernel_rfl) (.tmp .nil)))) rfl ?_
          exact ⟨_, Z11, Z12, zB⟩
        exact absurd H (by simp)
       (first | rw [mV] | (simp only [i64_w, i32_w]; rw [mV]) | skip)
       revert H; refine sIe1n0_e0n1k (fun Gs Gt H => ?_) fun Gs Gt c62 H => ?_
       ·revert H; refine sId1_d0 (fun Gu H => ?_) fun Gu H => ?_
        ·obtain ⟨vV, uD⟩ : ∃ j_ : Int, (wrap64 (bR + 1)) = j_ := ⟨_, rfl⟩
         replace H : (if 0 ≤ (vV) then (if (bt a0 (vV)) = 117 then (aJ.j3 aZ aM kj6 a0 bR dM dN cY bX cD) else (none)) else (none)) = some (r1, r2, r3, r4, r5, r6, r7, r8) := by first | (rw [uD] at H; exact H) | (simp only [uD] at H ⊢; exact H)
         (try rw [uD] at Gu)
         have hji64w : (IntKind.i64.wrap (bR + 1)) = vV := (i64_w _).trans uD
         revert H; refine sNd1 fun ajR H => ?_
         revert H; refine sNe1n0 fun ajS ajT H => ?_
         focus
          have H' := Aside0.mk H
          clear H
          have p66 := eq_true (of_decide_eq_true Z8 : 0 ≤ ((vV) : Int))
          have q66 := eq_true (of_decide_eq_true Z8 : (vV) < (a0.size : Int))
          have hx66 := bt_at a0 (vV)
          go_wp2
          go_meet
          case rel => exact ⟨_, (bR), (fH), (fI), (fJ), (fK), (fN), (dM), (dN), (cY), Z9, H', ⟨Z73⟩, ⟨zC⟩, ⟨zC⟩, ⟨zB⟩⟩
        focus
         have H' := Aside0.mk H
         clear H
         go_wp2
         go_meet
         case rel => exact ⟨_, (bR), (fH), (fI), (fJ), (fK), (fN), (dM), (dN), (cY), Z9, H', ⟨Z73⟩, ⟨zC⟩, ⟨zC⟩, ⟨zB⟩⟩
       have Hw := Aside0.mk H
       clear H
       go_upto_if 63 with (fail)
       go_cut [63] (fun v63 wc => ∃ (kq : Nat) (rN : Bool), v63 = .bool rN ∧ Aside0 (aJ.j2 aZ aM kq a0 bR false (bt a0 bR) rN dM dN cY bX cD = some (r1, r2, r3, r4, r5, r6, r7, r8)) ∧ Aside0 (kq ≤ kj6) ∧ Aside0 (wc.heap[eY]? = some (.cells #[.int .i64 fH, .string fI, .string fJ, .float .f64 fK, .int .i64 fN, (.slice none 0 0)] 55 (0, 0))) ∧ Aside0 (wc.heap[fS]? = some (.cells #[.int .i64 dM, .string dN, .string cY, .float .f64 bX, .int .i64 cD, (.slice none 0 0)] 55 (0, 0))) ∧ Aside0 (Below w.heap.size w wc))
       case first =>
        have H := Hw.out
        clear Hw
        revert H; refine sIe1n0_e0n1 (fun qS Lh H => ?_) fun qS Lh H => ?_
        ·(first | rw [qS] | (simp only [i64_w, i32_w]; rw [qS]) | skip)
         focus
          have H' := Aside0.mk H
          clear H
          go_wp2
          go_meet
          case rel => exact ⟨_, (((bt a0 bR) == 116)), Z9, H', ⟨Z73⟩, ⟨zC⟩, ⟨zC⟩, ⟨zB⟩⟩
        (first | rw [qS] | (simp only [i64_w, i32_w]; rw [qS]) | skip)
        focus
         have H' := Aside0.mk H
         clear H
         go_wp2
         go_meet
         case rel => exact ⟨_, (((bt a0 bR) == 102)), Z9, H', ⟨Z73⟩, ⟨zC⟩, ⟨zC⟩, ⟨zB⟩⟩
       case rest =>
        clear Hw
        try clear lH oV p27 q27 hx27 oW p29 q29 hx29 c31 mV tT c62 Gs Gt
        obtain ⟨kq, rN, rfl, HA, HJ67, cS, cU, HB⟩ := hcut
        cases kq with
        | zero => exact absurd HA.out (by simp [aJ.j2])
        | succ kj67 =>
         have H := HA.out
         clear HA
         simp only [aJ.j2] at H
         replace H := sB H
         obtain ⟨rfl, H⟩ | ⟨rfl, H⟩ := H
         ·focus
           have H' := Aside0.mk H
           clear H
           go_wp2
           go_meet
           case rel => exact ⟨_, (bR), (fH), (fI), (fJ), (fK), (fN), (dM), (dN), (cY), Z9, H', ⟨by have := HK1.out; have := HJ6.out; have := HJ67.out; first | omega | exact Nat.le_refl _⟩, ⟨zC⟩, ⟨zC⟩, ⟨zB⟩⟩
         revert H; refine sI_e0n1 (fun H => ?_) fun ajU ajV H => ?_
         ·exact absurd H (by simp)
         revert H; refine sI_e0n1 (fun H => ?_) fun ajW ajX H => ?_
         ·exact absurd H (by simp)
         revert H; refine sI_e0n1 (fun H => ?_) fun ajY ajZ H => ?_
         ·exact absurd H (by simp)
         revert H; refine sI_e0n1 (fun H => ?_) fun akA akB H => ?_
         ·exact absurd H (by simp)
         revert H; refine sI_e0n1 (fun H => ?_) fun akC akD H => ?_
         ·exact absurd H (by simp)
         revert H; refine sI_e0n1 (fun H => ?_) fun akE akF H => ?_
         ·exact absurd H (by simp)
         revert H; refine sI_e0n1 (fun H => ?_) fun akG akH H => ?_
         ·exact absurd H (by simp)
         revert H; refine sI_e0n1 (fun H => ?_) fun akI akJ H => ?_
         ·exact absurd H (by simp)
         revert H; refine sI_e0n1 (fun H => ?_) fun akK akL H => ?_
         ·exact absurd H (by simp)
         revert H; refine sI_e0n1 (fun H => ?_) fun akM akN H => ?_
         ·exact absurd H (by simp)
         revert H; refine sI_e0n1 (fun H => ?_) fun akO akP H => ?_
         ·exact absurd H (by simp)
         revert H; refine sI_e0n1 (fun H => ?_) fun akQ akR H => ?_
         ·exact absurd H (by simp)
         revert H; refine sI_e0n1 (fun H => ?_) fun akS akT H => ?_
         ·exact absurd H (by simp)
         revert H; refine sI_e0n1 (fun H => ?_) fun akU akV H => ?_
         ·exact absurd H (by simp)
         revert H; refine sI_e0n1 (fun H => ?_) fun akW akX H => ?_
         ·exact absurd H (by simp)
         by_cases c86 : false = true
         ·exact absurd c86 (by decide)
         ·clear c86
          rw [if_neg (show ¬ (false = true) by decide)] at H
          focus
           have H' := Aside0.mk H
           clear H
           go_wp2
           go_roundg kj67
           case measure => have := HK1.out; have := HJ6.out; have := HJ67.out; omega
           case rel => exact ⟨(wrap64 (bR + 1)), (fH), (fI), (fJ), (fK), (fN), (dM), (dN), (cY), (bX), (cD), Z9, H', ⟨by have := HK1.out; have := HJ6.out; have := HJ67.out; omega⟩, ⟨zC⟩, ⟨zC⟩, ⟨zB⟩⟩
      case rest =>
       clear Hv
       try clear lH oV p27 q27 hx27 oW p29 q29 hx29
       obtain ⟨kq, gS, nU, nV, nW, nX, nY, gX, lS, dY, rfl, HA, HJ29, cS, cU, HB⟩ := hcut
       cases kq with
       | zero => exact absurd HA.out (by simp [aJ.j3])
       | succ kj29 =>
        have H := HA.out
        clear HA
        simp only [aJ.j3] at H
        revert H; refine sNd1 fun akY H => ?_
        revert H; refine sNd1 fun akZ H => ?_
        revert H; refine bnd ?_; rintro ⟨Hx, iX⟩ Jl H; try dsimp only at H
        revert H; refine sIe1n0_e0n1 (fun Li Lj H => ?_) fun Li Lj H => ?_
        ·focus
          simp only [Option.some.injEq, Prod.mk.injEq] at H
          obtain ⟨rfl, rfl, rfl, rfl, rfl, rfl, rfl, rfl⟩ := H
          have p89 := eq_true (of_decide_eq_true Z8 : 0 ≤ (gS : Int))
          have q89 := eq_true (of_decide_eq_true Z8 : gS < (a0.size : Int))
          have hx89 := bt_at a0 gS
          try go_wp2_with (first | (refine gl 65 (some 134) Tryz.func65 #[.string a0, .int .i64 gS] ?_; (with_reducible refine (bA.calls kj29 a0 gS Hx iX _ Jl.out).mono ?_); rintro e w' ⟨rfl, ⟨nd, rfl⟩⟩; refine ⟨_, rfl, ?_⟩; (try (rw [drewN_self wc]; generalize hq_ : World.drewN wc _ = wc; replace cS := dqC hq_ cS; replace cU := dqC hq_ cU; replace HB := dqB hq_ HB; clear hq_)); have alA := eI.out; have alB := eH.out; obtain ⟨Ug, Uh, Ui, Uj, Uk, Ul, Um, Un, Uo, Up, Uq, Ur⟩ := cz6 cU.out))
          generalize hq_ : World.setCell _ _ _ = w94
          replace cS := sqC (g := eY) hq_ ⟨zC⟩
          replace cU : Aside0 (w94.heap[fS]? = some (.cells #[.int .i64 4, .string iX, .string dY, .float .f64 bX, .int .i64 cD, .slice none 0 0] 55 (0, 0))) := ⟨by subst hq_; exact zC⟩
          replace HB : Aside0 (Below w.heap.size w w94) := ⟨by subst hq_; exact zB⟩
          clear hq_
          replace cS := Aside0.mk (blk_drew cS.out)
          replace cU := Aside0.mk (blk_drew cU.out)
          replace HB := Aside0.mk (below_drew1 HB.out)
          refine st1 5 [] (S := fun w' => H6 w' fS (.int .i64 4) (.string iX) (.string dY) (.float .f64 bX) (.int .i64 cD) (.slice none 0 0)) (fun hHeld => ?_)
          generalize w94.drew = w95 at cS cU HB hHeld ⊢
          refine pz 0 147 ?_
          refine pz 2 6 ?_
          refine tk6 1 148 ?_
          refine on1 3 none fun K hK => ?_
          obtain ⟨aqE, aqF, aqG, aqH, alC, alD, alE, alF, alG, alH, aeK, aeL⟩ := cz6 cS.out
          have hns96_1 := eI.out
          have hms96_1 := eH.out
          refine sk1 ?_
          refine hK.out _ _ zS (fun hHeld => ?_)
          clear hK K
          refine pz 4 8 ?_
          refine dn1 ?_
          try go_wp2
          refine bodyPost_ret (results_list (rs := [.tmp 6, .cell 7 55, .tmp 8]) rfl (by simp) (.tmp (.cell eY 55 #[.int .i64 4, .string iX, .string dY, .float .f64 bX, .int .i64 cD, .slice none 0 0] (0, 0) _ rfl zC Tryz.underlying55 rfl (by kernel_rfl) (.tmp .nil)))) rfl ?_
          exact ⟨_, Z11, Z12, zB⟩
        revert H; refine sIe1n0_e0n1 (fun Hy Hz H => ?_) fun Hy Hz H => ?_
        ·focus
          simp only [Option.some.injEq, Prod.mk.injEq] at H
          obtain ⟨rfl, rfl, rfl, rfl, rfl, rfl, rfl, rfl⟩ := H
          have p89 := eq_true (of_decide_eq_true Z8 : 0 ≤ (gS : Int))
          have q89 := eq_true (of_decide_eq_true Z8 : gS < (a0.size : Int))
          have hx89 := bt_at a0 gS
          try go_wp2_with (first | (refine gl 65 (some 134) Tryz.func65 #[.string a0, .int .i64 gS] ?_; (with_reducible refine (bA.calls kj29 a0 gS Hx iX _ Jl.out).mono ?_); rintro e w' ⟨rfl, ⟨nd, rfl⟩⟩; refine ⟨_, rfl, ?_⟩; (try (rw [drewN_self wc]; generalize hq_ : World.drewN wc _ = wc; replace cS := dqC hq_ cS; replace cU := dqC hq_ cU; replace HB := dqB hq_ HB; clear hq_)); have aeM := eI.out; have aeN := eH.out; obtain ⟨xQ, xR, Lk, Ll, Lm, Ln, xS, xT, Lo, Lp, Lq, Lr⟩ := cz6 cU.out))
          generalize hq_ : World.setCell _ _ _ = w105
          replace cS := sqC (g := eY) hq_ ⟨zC⟩
          replace cU : Aside0 (w105.heap[fS]? = some (.cells #[.int .i64 1, .string iX, .string dY, .float .f64 bX, .int .i64 cD, .slice none 0 0] 55 (0, 0))) := ⟨by subst hq_; exact zC⟩
          replace HB : Aside0 (Below w.heap.size w w105) := ⟨by subst hq_; exact zB⟩
          clear hq_
          replace cS := Aside0.mk (blk_drew cS.out)
          replace cU := Aside0.mk (blk_drew cU.out)
          replace HB := Aside0.mk (below_drew1 HB.out)
          refine st1 5 [] (S := fun w' => H6 w' fS (.int .i64 1) (.string iX) (.string dY) (.float .f64 bX) (.int .i64 cD) (.slice none 0 0)) (fun hHeld => ?_)
          generalize w105.drew = w106 at cS cU HB hHeld ⊢
          refine pz 0 147 ?_
          refine pz 2 6 ?_
          refine tk6 1 148 ?_
          refine on1 3 none fun K hK => ?_
          obtain ⟨alI, alJ, alK, alL, alM, alN, aeO, aeP, aeQ, aeR, aeS, aeT⟩ := cz6 cS.out
          have hns107_1 := eI.out
          have hms107_1 := eH.out
          refine sk1 ?_
          refine hK.out _ _ zS (fun hHeld => ?_)
          clear hK K
          refine pz 4 8 ?_
          refine dn1 ?_
          try go_wp2
          refine bodyPost_ret (results_list (rs := [.tmp 6, .cell 7 55, .tmp 8]) rfl (by simp) (.tmp (.cell eY 55 #[.int .i64 1, .string iX, .string dY, .float .f64 bX, .int .i64 cD, .slice none 0 0] (0, 0) _ rfl zC Tryz.underlying55 rfl (by kernel_rfl) (.tmp .nil)))) rfl ?_
          exact ⟨_, Z11, Z12, zB⟩
        focus
         simp only [Option.some.injEq, Prod.mk.injEq] at H
         obtain ⟨rfl, rfl, rfl, rfl, rfl, rfl, rfl, rfl⟩ := H
         have p89 := eq_true (of_decide_eq_true Z8 : 0 ≤ (gS : Int))
         have q89 := eq_true (of_decide_eq_true Z8 : gS < (a0.size : Int))
         have hx89 := bt_at a0 gS
         try go_wp2_with (first | (refine gl 65 (some 134) Tryz.func65 #[.string a0, .int .i64 gS] ?_; (with_reducible refine (bA.calls kj29 a0 gS Hx iX _ Jl.out).mono ?_); rintro e w' ⟨rfl, ⟨nd, rfl⟩⟩; refine ⟨_, rfl, ?_⟩; (try (rw [drewN_self wc]; generalize hq_ : World.drewN wc _ = wc; replace cS := dqC hq_ cS; replace cU := dqC hq_ cU; replace HB := dqB hq_ HB; clear hq_)); have aeU := eI.out; have aeV := eH.out; obtain ⟨Ls, Lt, Lu, Lv, Lw, Lx, Ly, Lz, Ma, Mb, Mc, Md⟩ := cz6 cU.out))
         generalize hq_ : World.setCell _ _ _ = w115
         replace cS := sqC (g := eY) hq_ ⟨zC⟩
         replace cU : Aside0 (w115.heap[fS]? = some (.cells #[.int .i64 gX, .string iX, .string dY, .float .f64 bX, .int .i64 cD, .slice none 0 0] 55 (0, 0))) := ⟨by subst hq_; exact zC⟩
         replace HB : Aside0 (Below w.heap.size w w115) := ⟨by subst hq_; exact zB⟩
         clear hq_
         replace cS := Aside0.mk (blk_drew cS.out)
         replace cU := Aside0.mk (blk_drew cU.out)
         replace HB := Aside0.mk (below_drew1 HB.out)
         refine st1 5 [] (S := fun w' => H6 w' fS (.int .i64 gX) (.string iX) (.string dY) (.float .f64 bX) (.int .i64 cD) (.slice none 0 0)) (fun hHeld => ?_)
         generalize w115.drew = w116 at cS cU HB hHeld ⊢
         refine pz 0 147 ?_
         refine pz 2 6 ?_
         refine tk6 1 148 ?_
         refine on1 3 none fun K hK => ?_
         obtain ⟨alO, alP, alQ, alR, alS, alT, aeW, aeX, aeY, aeZ, afA, afB⟩ := cz6 cS.out
         have hns117_1 := eI.out
         have hms117_1 := eH.out
         refine sk1 ?_
         refine hK.out _ _ zS (fun hHeld => ?_)
         clear hK K
         refine pz 4 8 ?_
         refine dn1 ?_
         try go_wp2
         refine bodyPost_ret (results_list (rs := [.tmp 6, .cell 7 55, .tmp 8]) rfl (by simp) (.tmp (.cell eY 55 #[.int .i64 gX, .string iX, .string dY, .float .f64 bX, .int .i64 cD, .slice none 0 0] (0, 0) _ rfl zC Tryz.underlying55 rfl (by kernel_rfl) (.tmp .nil)))) rfl ?_
         exact ⟨_, Z11, Z12, zB⟩
   focus
    simp only [Option.some.injEq, Prod.mk.injEq] at H
    obtain ⟨rfl, rfl, rfl, rfl, rfl, rfl, rfl, rfl⟩ := H
    try go_wp2
    replace cS := Aside0.mk (blk_drew cS.out)
    replace cU := Aside0.mk (blk_drew cU.out)
    replace HB := Aside0.mk (below_drew1 HB.out)
    refine st1 5 [] (S := fun w' => H6 w' fS (.int .i64 dM) (.string dN) (.string cY) (.float .f64 bX) (.int .i64 cD) (.slice none 0 0)) (fun hHeld => ?_)
    generalize wr.drew = w123 at cS cU HB hHeld ⊢
    refine pz 0 168 ?_
    refine pz 2 6 ?_
    refine tk6 1 169 ?_
    refine on1 3 none fun K hK => ?_
    obtain ⟨alU, alV, alW, alX, alY, alZ, afC, afD, afE, afF, afG, afH⟩ := cz6 cS.out
    have hns124_1 := eI.out
    have hms124_1 := eH.out
    refine sk1 ?_
    refine hK.out _ _ zS (fun hHeld => ?_)
    clear hK K
    refine pz 4 8 ?_
    refine dn1 ?_
    try go_wp2
    refine bodyPost_ret (results_list (rs := [.tmp 6, .cell 7 55, .tmp 8]) rfl (by simp) (.tmp (.cell eY 55 #[.int .i64 dM, .string dN, .string cY, .float .f64 bX, .int .i64 cD, .slice none 0 0] (0, 0) _ rfl zC Tryz.underlying55 rfl (by kernel_rfl) (.tmp .nil)))) rfl ?_
    exact ⟨_, Z11, Z12, zB⟩
end Go.Proofs.YtkjnahgicfmicaaGreatDoor.Sp

import Derived.Test.YtkjnahgicfmicaaGreatDoorZip
import Derived.Test.YtkjnahgicfmicaaGreatDoorQa
import Derived.Test.YtkjnahgicfmicaaGreatDoorQf
namespace Go.Proofs.YtkjnahgicfmicaaGreatDoor.Sp
set_option maxHeartbeats 8000000
set_option maxRecDepth 100000
open Go.RowKit Go.Proofs.YtkjnahgicfmicaaGreatDoorW.PrintWords Go.Proofs.YtkjnahgicfmicaaGreatDoorW.PrintLast Go.Proofs.YtkjnahgicfmicaaGreatDoorW.PrintMore
attribute [local go_sem] run_store_float max2_int min2_int max_two min_two max_three min_three max_four min_four
set_option linter.unusedVariables false
set_option linter.unusedSimpArgs false
mutual
def aC.l0 : Nat → ByteArray → Int → Int → Option (Int × ByteArray × Bool × Bool)
 | 0, _, _, _ => none
 | k + 1, x0, x1, x8 => if x1 < (x0.size : Int) then (if 0 ≤ x1 then (if (bt x0 x1) > 92 then (aC.l0 k x0 (wrap64 (x1 + 1)) x8) else (if (bt x0 x1) = 34 then (if 0 ≤ (wrap64 (x8 - 1)) then (if (wrap64 (x8 - 1)) ≤ (wrap64 (x1 + 1)) then (if (wrap64 (x1 + 1)) ≤ (x0.size : Int) then (some (wrap64 (x1 + 1), x0.extract ((wrap64 (x8 - 1)) : Int).toNat ((wrap64 (x1 + 1)) : Int).toNat, false, true)) else (none)) else (none)) else (none)) else (if (bt x0 x1) = 92 then (aC.l1 k x0 (wrap64 (x1 + 1)) x8) else (aC.l0 k x0 (wrap64 (x1 + 1)) x8)))) else (none)) else (if 0 ≤ (wrap64 (x8 - 1)) then (if (wrap64 (x8 - 1)) ≤ (x0.size : Int) then (some (x1, x0.extract ((wrap64 (x8 - 1)) : Int).toNat x0.size, false, false)) else (none)) else (none))
def aC.l1 : Nat → ByteArray → Int → Int → Option (Int × ByteArray × Bool × Bool)
 | 0, _, _, _ => none
 | k + 1, x0, x1, x8 => if x1 < (x0.size : Int) then (if 0 ≤ x1 then (if (bt x0 x1) > 92 then (aC.l1 k x0 (wrap64 (x1 + 1)) x8) else (if (bt x0 x1) = 34 then (if 0 ≤ (wrap64 (x1 - 1)) then (if (wrap64 (x1 - 1)) < (x0.size : Int) then (if (bt x0 (wrap64 (x1 - 1))) = 92 then (aC.l2 k x0 x1 x8 0 (wrap64 (x1 - 2))) else (if 0 ≤ (wrap64 (x8 - 1)) then (if (wrap64 (x8 - 1)) ≤ (wrap64 (x1 + 1)) then (if (wrap64 (x1 + 1)) ≤ (x0.size : Int) then (some (wrap64 (x1 + 1), x0.extract ((wrap64 (x8 - 1)) : Int).toNat ((wrap64 (x1 + 1)) : Int).toNat, true, true)) else (none)) else (none)) else (none))) else (none)) else (none)) else (aC.l1 k x0 (wrap64 (x1 + 1)) x8))) else (none)) else (if 0 ≤ (wrap64 (x8 - 1)) then (if (wrap64 (x8 - 1)) ≤ (x0.size : Int) then (some (x1, x0.extract ((wrap64 (x8 - 1)) : Int).toNat x0.size, false, false)) else (none)) else (none))
def aC.l2 : Nat → ByteArray → Int → Int → Int → Int → Option (Int × ByteArray × Bool × Bool)
 | 0, _, _, _, _, _ => none
 | k + 1, x0, x1, x8, x9, x10 => if x10 > 0 then (if 0 ≤ x10 then (if x10 < (x0.size : Int) then (if (bt x0 x10) = 92 then (aC.l2 k x0 x1 x8 (wrap64 (x9 + 1)) (wrap64 (x10 - 1))) else (if (Int.tmod x9 2) = 0 then (aC.l1 k x0 (wrap64 (x1 + 1)) x8) else (if 0 ≤ (wrap64 (x8 - 1)) then (if (wrap64 (x8 - 1)) ≤ (wrap64 (x1 + 1)) then (if (wrap64 (x1 + 1)) ≤ (x0.size : Int) then (some (wrap64 (x1 + 1), x0.extract ((wrap64 (x8 - 1)) : Int).toNat ((wrap64 (x1 + 1)) : Int).toNat, true, true)) else (none)) else (none)) else (none)))) else (none)) else (none)) else (if (Int.tmod x9 2) = 0 then (aC.l1 k x0 (wrap64 (x1 + 1)) x8) else (if 0 ≤ (wrap64 (x8 - 1)) then (if (wrap64 (x8 - 1)) ≤ (wrap64 (x1 + 1)) then (if (wrap64 (x1 + 1)) ≤ (x0.size : Int) then (some (wrap64 (x1 + 1), x0.extract ((wrap64 (x8 - 1)) : Int).toNat ((wrap64 (x1 + 1)) : Int).toNat, true, true)) else (none)) else (none)) else (none)))
end
def aC.f (k : Nat) (a0 : ByteArray) (a1 : Int) : Option (Int × ByteArray × Bool × Bool) := aC.l0 k a0 a1 a1
theorem aC.mono_l : ∀ k, (∀ y0 y1 y2, LeO (aC.l0 k y0 y1 y2) (aC.l0 (k + 1) y0 y1 y2)) ∧ (∀ y0 y1 y2, LeO (aC.l1 k y0 y1 y2) (aC.l1 (k + 1) y0 y1 y2)) ∧ (∀ y0 y1 y2 y3 y4, LeO (aC.l2 k y0 y1 y2 y3 y4) (aC.l2 (k + 1) y0 y1 y2 y3 y4))
 | 0 => ⟨fun _ _ _ r h => by simp [aC.l0] at h, fun _ _ _ r h => by simp [aC.l1] at h, fun _ _ _ _ _ r h => by simp [aC.l2] at h⟩
 | k + 1 => by
  obtain ⟨ih0, ih1, ih2⟩ := aC.mono_l k
  refine ⟨?_, ?_, ?_⟩
  ·intro y0 y1 y2
   unfold aC.l0
   repeat' first
   | (with_reducible exact ih0 _ _ _)
   | (with_reducible exact ih1 _ _ _)
   | (with_reducible exact ih2 _ _ _ _ _)
   | (with_reducible exact LeO.refl _)
   | (with_reducible exact LeO.none _)
   | (with_reducible refine LeO.ite ?_ ?_)
   | (with_reducible refine LeO.bind ?_ (fun _ => ?_))
   | exact ih0 _ _ _
   | exact ih1 _ _ _
   | exact ih2 _ _ _ _ _
   | exact LeO.none _
   | refine LeO.ite ?_ ?_
   | refine LeO.bind ?_ (fun _ => ?_)
  ·intro y0 y1 y2
   unfold aC.l1
   repeat' first
   | (with_reducible exact ih0 _ _ _)
   | (with_reducible exact ih1 _ _ _)
   | (with_reducible exact ih2 _ _ _ _ _)
   | (with_reducible exact LeO.refl _)
   | (with_reducible exact LeO.none _)
   | (with_reducible refine LeO.ite ?_ ?_)
   | (with_reducible refine LeO.bind ?_ (fun _ => ?_))
   | exact ih0 _ _ _
   | exact ih1 _ _ _
   | exact ih2 _ _ _ _ _
   | exact LeO.none _
   | refine LeO.ite ?_ ?_
   | refine LeO.bind ?_ (fun _ => ?_)
  ·intro y0 y1 y2 y3 y4
   unfold aC.l2
   repeat' first
   | (with_reducible exact ih0 _ _ _)
   | (with_reducible exact ih1 _ _ _)
   | (with_reducible exact ih2 _ _ _ _ _)
   | (with_reducible exact LeO.refl _)
   | (with_reducible exact LeO.none _)
   | (with_reducible refine LeO.ite ?_ ?_)
   | (with_reducible refine LeO.bind ?_ (fun _ => ?_))
   | exact ih0 _ _ _
   | exact ih1 _ _ _
   | exact ih2 _ _ _ _ _
   | exact LeO.none _
   | refine LeO.ite ?_ ?_
   | refine LeO.bind ?_ (fun _ => ?_)
theorem aC.mono : ∀ a0 a1 k, LeO (aC.f k a0 a1) (aC.f (k + 1) a0 a1) := by
 intro a0 a1 k
 obtain ⟨ih0, ih1, ih2⟩ := aC.mono_l k
 unfold aC.f
 exact zM
instance aC.mi  {a0 a1 k} : LeI (aC.f k a0 a1) (aC.f (k + 1) a0 a1) := ⟨⟨aC.mono a0 a1 k⟩⟩
theorem aC.calls (k : Nat) (a0 : ByteArray) (a1 : Int) (r1 : Int) (r2 : ByteArray) (r3 : Bool) (r4 : Bool) (w : World) (h : aC.f k a0 a1 = some (r1, r2, r3, r4)) :
 Calls Tryz.prog 48 #[.string a0, .int .i64 a1] w fun e w' => e = .returned (.tuple #[.int .i64 r1, .string r2, .bool r3, .bool r4]) ∧ Drawn0 w w' := by
 have H : (aC.l0 k a0 a1 a1) = some (r1, r2, r3, r4) := h
 clear h
 have H' := Aside0.mk H
 clear H
 go_enter Tryz.func48, Tryz.ntmps48
 go_wp2
 repeat (go_quiet (fail); try go_wp2)
 (try simp only [Act.put, List.setIfInBounds_toArray, List.set_cons_zero, List.set_cons_succ])
 go_loopg [1] k (fun kq v1 w' => ∃ (bR : Int), v1 = .int .i64 bR ∧ Aside0 (aC.l0 kq a0 bR a1 = some (r1, r2, r3, r4)) ∧ Aside0 (kq ≤ k) ∧ Drawn0 w w')
 case atStart => exact ⟨(a1), Z9, H', ⟨Nat.le_refl _⟩, Z10⟩
 case round =>
  clear H'
  obtain ⟨bR, rfl, HA, HK1, ⟨m1, rfl⟩⟩ := hrel
  cases gk with
  | zero => exact absurd HA.out (by simp [aC.l0])
  | succ k1 =>
   have H := HA.out
   clear HA
   simp only [aC.l0] at H
   revert H; refine sId1_d0 (fun eW H => ?_) fun eW H => ?_
   ·revert H; refine sNd1 fun gV H => ?_
    revert H; refine sIk_k (fun c6 H => ?_) fun c6 H => ?_
    ·have eX : decide (92 < (bt a0 bR)) = true := decide_eq_true c6
     clear c6
     as_aux_lemma =>
      have H' := Aside0.mk H
      clear H
      have p5 := eq_true (of_decide_eq_true Z8 : 0 ≤ (bR : Int))
      have q5 := eq_true (of_decide_eq_true Z8 : bR < (a0.size : Int))
      have hx5 := bt_at a0 bR
      go_wp2
      repeat (go_quiet (fail); try go_wp2)
      go_roundg k1
      case measure => have := HK1.out; omega
      case rel => exact ⟨(wrap64 (bR + 1)), Z9, H', ⟨by have := HK1.out; omega⟩, Z10⟩
    have eX : decide (92 < (bt a0 bR)) = false := decide_eq_false c6
    clear c6
    revert H; refine sIe1n0_e0n1k (fun jH lR H => ?_) fun jH lR c8 H => ?_
    ·obtain ⟨vU, pJ⟩ : ∃ j_ : Int, (wrap64 (a1 - 1)) = j_ := ⟨_, rfl⟩
     replace H : (if 0 ≤ (vU) then (if (vU) ≤ (wrap64 (bR + 1)) then (if (wrap64 (bR + 1)) ≤ (a0.size : Int) then (some (wrap64 (bR + 1), a0.extract ((vU) : Int).toNat ((wrap64 (bR + 1)) : Int).toNat, false, true)) else (none)) else (none)) else (none)) = some (r1, r2, r3, r4) := by first | (rw [pJ] at H; exact H) | (simp only [pJ] at H ⊢; exact H)
     have hji9w : (IntKind.i64.wrap (a1 - 1)) = vU := (i64_w _).trans pJ
     revert H; refine sNt1d1 fun mU nS H => ?_
     revert H; refine sNt1d1 fun iR lY H => ?_
     revert H; refine sNt1d1 fun lX xH H => ?_
     as_aux_lemma =>
      simp only [Option.some.injEq, Prod.mk.injEq] at H
      obtain ⟨rfl, rfl, rfl, rfl⟩ := H
      have p5 := eq_true (of_decide_eq_true Z8 : 0 ≤ (bR : Int))
      have q5 := eq_true (of_decide_eq_true Z8 : bR < (a0.size : Int))
      have hx5 := bt_at a0 bR
      have p7 := eq_true (of_decide_eq_true Z8 : 0 ≤ (bR : Int))
      have q7 := eq_true (of_decide_eq_true Z8 : bR < (a0.size : Int))
      have hx7 := bt_at a0 bR
      go_wp2
      repeat (go_quiet (fail); try go_wp2)
      refine bodyPost_ret (results_list (rs := [.tmp 4, .tmp 5, .tmp 6, .tmp 7]) rfl (by simp) (.tmp (.tmp (.tmp (.tmp .nil))))) rfl ?_
      exact ⟨by first | rfl | (simp; done) | (simp only [← pJ] <;> (first | rfl | simp)) | (simp [*]; done), Z10⟩
    revert H; refine sIe1n0_e0n1 (fun gR lJ H => ?_) fun gR lJ H => ?_
    ·have H' := Aside0.mk H
     clear H
     have p5 := eq_true (of_decide_eq_true Z8 : 0 ≤ (bR : Int))
     have q5 := eq_true (of_decide_eq_true Z8 : bR < (a0.size : Int))
     have hx5 := bt_at a0 bR
     have p7 := eq_true (of_decide_eq_true Z8 : 0 ≤ (bR : Int))
     have q7 := eq_true (of_decide_eq_true Z8 : bR < (a0.size : Int))
     have hx7 := bt_at a0 bR
     have p13 := eq_true (of_decide_eq_true Z8 : 0 ≤ (bR : Int))
     have q13 := eq_true (of_decide_eq_true Z8 : bR < (a0.size : Int))
     have hx13 := bt_at a0 bR
     go_wp2
     repeat (go_quiet (fail); try go_wp2)
     (try simp only [Act.put, List.setIfInBounds_toArray, List.set_cons_zero, List.set_cons_succ])
     go_loopg [1] k1 (fun kq v1 w' => ∃ (dS : Int), v1 = .int .i64 dS ∧ Aside0 (aC.l1 kq a0 dS a1 = some (r1, r2, r3, r4)) ∧ Aside0 (kq ≤ k1) ∧ Drawn0 w w')
     case atStart => exact ⟨(wrap64 (bR + 1)), Z9, H', ⟨Nat.le_refl _⟩, Z10⟩
     case round =>
      clear H'
      try clear eW gV p5 q5 hx5 c6 eX p7 q7 hx7 c8 jH lR p13 q13 hx13 gR lJ
      obtain ⟨dS, rfl, HA, HK2, ⟨m2, rfl⟩⟩ := hrel
      cases gk with
      | zero => exact absurd HA.out (by simp [aC.l1])
      | succ k2 =>
       have H := HA.out
       clear HA
       simp only [aC.l1] at H
       revert H; refine sId1_d0 (fun nQ H => ?_) fun nQ H => ?_
       ·revert H; refine sNd1 fun kB H => ?_
        revert H; refine sIk_k (fun c18 H => ?_) fun c18 H => ?_
        ·have xI : decide (92 < (bt a0 dS)) = true := decide_eq_true c18
         clear c18
         as_aux_lemma =>
          have H' := Aside0.mk H
          clear H
          have p17 := eq_true (of_decide_eq_true Z8 : 0 ≤ (dS : Int))
          have q17 := eq_true (of_decide_eq_true Z8 : dS < (a0.size : Int))
          have hx17 := bt_at a0 dS
          go_wp2
          repeat (go_quiet (fail); try go_wp2)
          go_roundg k2
          case measure => have := HK1.out; have := HK2.out; omega
          case rel => exact ⟨(wrap64 (dS + 1)), Z9, H', ⟨by have := HK1.out; have := HK2.out; omega⟩, Z10⟩
        have xI : decide (92 < (bt a0 dS)) = false := decide_eq_false c18
        clear c18
        revert H; refine sIe1n0_e0n1 (fun oU qO H => ?_) fun oU qO H => ?_
        ·obtain ⟨oK, oX⟩ : ∃ j_ : Int, (wrap64 (dS - 1)) = j_ := ⟨_, rfl⟩
         replace H : (if 0 ≤ (oK) then (if (oK) < (a0.size : Int) then (if (bt a0 (oK)) = 92 then (aC.l2 k2 a0 dS a1 0 (wrap64 (dS - 2))) else (if 0 ≤ (wrap64 (a1 - 1)) then (if (wrap64 (a1 - 1)) ≤ (wrap64 (dS + 1)) then (if (wrap64 (dS + 1)) ≤ (a0.size : Int) then (some (wrap64 (dS + 1), a0.extract ((wrap64 (a1 - 1)) : Int).toNat ((wrap64 (dS + 1)) : Int).toNat, true, true)) else (none)) else (none)) else (none))) else (none)) else (none)) = some (r1, r2, r3, r4) := by first | (rw [oX] at H; exact H) | (simp only [oX] at H ⊢; exact H)
         have hji21w : (IntKind.i64.wrap (dS - 1)) = oK := (i64_w _).trans oX
         revert H; refine sNd1 fun mS H => ?_
         revert H; refine sNd1 fun qN H => ?_
         revert H; refine sIe1n0_e0n1 (fun lH tS H => ?_) fun lH tS H => ?_
         ·have H' := Aside0.mk H
          clear H
          have p17 := eq_true (of_decide_eq_true Z8 : 0 ≤ (dS : Int))
          have q17 := eq_true (of_decide_eq_true Z8 : dS < (a0.size : Int))
          have hx17 := bt_at a0 dS
          have p19 := eq_true (of_decide_eq_true Z8 : 0 ≤ (dS : Int))
          have q19 := eq_true (of_decide_eq_true Z8 : dS < (a0.size : Int))
          have hx19 := bt_at a0 dS
          have p24 := eq_true (of_decide_eq_true Z8 : 0 ≤ ((oK) : Int))
          have q24 := eq_true (of_decide_eq_true Z8 : (oK) < (a0.size : Int))
          have hx24 := bt_at a0 (oK)
          go_wp2
          repeat (go_quiet (fail); try go_wp2)
          (try simp only [Act.put, List.setIfInBounds_toArray, List.set_cons_zero, List.set_cons_succ])
          go_loopg [9, 10] k2 (fun kq v9 v10 w' => ∃ (Cx : Int) (jC : Int), v9 = .int .i64 Cx ∧ v10 = .int .i64 jC ∧ Aside0 (aC.l2 kq a0 dS a1 Cx jC = some (r1, r2, r3, r4)) ∧ Aside0 (kq ≤ k2) ∧ Drawn0 w w')
          case atStart => exact ⟨(0), (wrap64 (dS - 2)), Z9, Z9, H', ⟨Nat.le_refl _⟩, Z10⟩
          case round =>
           clear H'
           try clear nQ kB p17 q17 hx17 c18 xI p19 q19 hx19 oU qO mS qN p24 q24 hx24 lH tS
           obtain ⟨Cx, jC, rfl, rfl, HA, HK3, ⟨m3, rfl⟩⟩ := hrel
           cases gk with
           | zero => exact absurd HA.out (by simp [aC.l2])
           | succ k3 =>
            have H := HA.out
            clear HA
            simp only [aC.l2] at H
            revert H; refine sIk_k (fun c26 H => ?_) fun c26 H => ?_
            ·have oV : decide (0 < jC) = true := decide_eq_true c26
             clear c26
             revert H; refine sNd1 fun Gm H => ?_
             revert H; refine sNd1 fun oW H => ?_
             revert H; refine sIe1n0_e0n1 (fun xB Kx H => ?_) fun xB Kx H => ?_
             ·as_aux_lemma =>
               have H' := Aside0.mk H
               clear H
               have p29 := eq_true (of_decide_eq_true Z8 : 0 ≤ (jC : Int))
               have q29 := eq_true (of_decide_eq_true Z8 : jC < (a0.size : Int))
               have hx29 := bt_at a0 jC
               go_wp2
               repeat (go_quiet (fail); try go_wp2)
               go_roundg k3
               case measure => have := HK1.out; have := HK2.out; have := HK3.out; omega
               case rel => exact ⟨(wrap64 (Cx + 1)), (wrap64 (jC - 1)), Z9, Z9, H', ⟨by have := HK1.out; have := HK2.out; have := HK3.out; omega⟩, Z10⟩
             revert H; refine sIe1n0_e0n1 (fun mV tT H => ?_) fun mV tT H => ?_
             ·as_aux_lemma =>
               have H' := Aside0.mk H
               clear H
               have p29 := eq_true (of_decide_eq_true Z8 : 0 ≤ (jC : Int))
               have q29 := eq_true (of_decide_eq_true Z8 : jC < (a0.size : Int))
               have hx29 := bt_at a0 jC
               go_wp2
               repeat (go_quiet (fail); try go_wp2)
               go_roundg k3
               case measure => have := HK1.out; have := HK2.out; have := HK3.out; omega
               case rel => exact ⟨(wrap64 (dS + 1)), Z9, H', ⟨by have := HK1.out; have := HK2.out; have := HK3.out; omega⟩, Z10⟩
             obtain ⟨Cy, tU⟩ : ∃ j_ : Int, (wrap64 (a1 - 1)) = j_ := ⟨_, rfl⟩
             replace H : (if 0 ≤ (Cy) then (if (Cy) ≤ (wrap64 (dS + 1)) then (if (wrap64 (dS + 1)) ≤ (a0.size : Int) then (some (wrap64 (dS + 1), a0.extract ((Cy) : Int).toNat ((wrap64 (dS + 1)) : Int).toNat, true, true)) else (none)) else (none)) else (none)) = some (r1, r2, r3, r4) := by first | (rw [tU] at H; exact H) | (simp only [tU] at H ⊢; exact H)
             have hji32w : (IntKind.i64.wrap (a1 - 1)) = Cy := (i64_w _).trans tU
             revert H; refine sNt1d1 fun qP Gn H => ?_
             revert H; refine sNt1d1 fun Gp ahV H => ?_
             revert H; refine sNt1d1 fun xJ xK H => ?_
             as_aux_lemma =>
              simp only [Option.some.injEq, Prod.mk.injEq] at H
              obtain ⟨rfl, rfl, rfl, rfl⟩ := H
              have p29 := eq_true (of_decide_eq_true Z8 : 0 ≤ (jC : Int))
              have q29 := eq_true (of_decide_eq_true Z8 : jC < (a0.size : Int))
              have hx29 := bt_at a0 jC
              go_wp2
              repeat (go_quiet (fail); try go_wp2)
              refine bodyPost_ret (results_list (rs := [.tmp 4, .tmp 5, .tmp 6, .tmp 7]) rfl (by simp) (.tmp (.tmp (.tmp (.tmp .nil))))) rfl ?_
              exact ⟨by first | rfl | (simp; done) | (simp only [← oX, ← tU] <;> (first | rfl | simp)) | (simp [*]; done), Z10⟩
            have oV : decide (0 < jC) = false := decide_eq_false c26
            clear c26
            revert H; refine sIe1n0_e0n1 (fun oY oZ H => ?_) fun oY oZ H => ?_
            ·as_aux_lemma =>
              have H' := Aside0.mk H
              clear H
              go_wp2
              repeat (go_quiet (fail); try go_wp2)
              go_roundg k3
              case measure => have := HK1.out; have := HK2.out; have := HK3.out; omega
              case rel => exact ⟨(wrap64 (dS + 1)), Z9, H', ⟨by have := HK1.out; have := HK2.out; have := HK3.out; omega⟩, Z10⟩
            obtain ⟨Cz, tV⟩ : ∃ j_ : Int, (wrap64 (a1 - 1)) = j_ := ⟨_, rfl⟩
            replace H : (if 0 ≤ (Cz) then (if (Cz) ≤ (wrap64 (dS + 1)) then (if (wrap64 (dS + 1)) ≤ (a0.size : Int) then (some (wrap64 (dS + 1), a0.extract ((Cz) : Int).toNat ((wrap64 (dS + 1)) : Int).toNat, true, true)) else (none)) else (none)) else (none)) = some (r1, r2, r3, r4) := by first | (rw [tV] at H; exact H) | (simp only [tV] at H ⊢; exact H)
            have hji37w : (IntKind.i64.wrap (a1 - 1)) = Cz := (i64_w _).trans tV
            revert H; refine sNt1d1 fun ahW ahX H => ?_
            revert H; refine sNt1d1 fun ahY ahZ H => ?_
            revert H; refine sNt1d1 fun aiA aiB H => ?_
            as_aux_lemma =>
             simp only [Option.some.injEq, Prod.mk.injEq] at H
             obtain ⟨rfl, rfl, rfl, rfl⟩ := H
             go_wp2
             repeat (go_quiet (fail); try go_wp2)
             refine bodyPost_ret (results_list (rs := [.tmp 4, .tmp 5, .tmp 6, .tmp 7]) rfl (by simp) (.tmp (.tmp (.tmp (.tmp .nil))))) rfl ?_
             exact ⟨by first | rfl | (simp; done) | (simp only [← oX, ← tV] <;> (first | rfl | simp)) | (simp [*]; done), Z10⟩
         obtain ⟨Da, tW⟩ : ∃ j_ : Int, (wrap64 (a1 - 1)) = j_ := ⟨_, rfl⟩
         replace H : (if 0 ≤ (Da) then (if (Da) ≤ (wrap64 (dS + 1)) then (if (wrap64 (dS + 1)) ≤ (a0.size : Int) then (some (wrap64 (dS + 1), a0.extract ((Da) : Int).toNat ((wrap64 (dS + 1)) : Int).toNat, true, true)) else (none)) else (none)) else (none)) = some (r1, r2, r3, r4) := by first | (rw [tW] at H; exact H) | (simp only [tW] at H ⊢; exact H)
         have hji41w : (IntKind.i64.wrap (a1 - 1)) = Da := (i64_w _).trans tW
         revert H; refine sNt1d1 fun aiC aiD H => ?_
         revert H; refine sNt1d1 fun aiE aiF H => ?_
         revert H; refine sNt1d1 fun aiG aiH H => ?_
         as_aux_lemma =>
          simp only [Option.some.injEq, Prod.mk.injEq] at H
          obtain ⟨rfl, rfl, rfl, rfl⟩ := H
          have p17 := eq_true (of_decide_eq_true Z8 : 0 ≤ (dS : Int))
          have q17 := eq_true (of_decide_eq_true Z8 : dS < (a0.size : Int))
          have hx17 := bt_at a0 dS
          have p19 := eq_true (of_decide_eq_true Z8 : 0 ≤ (dS : Int))
          have q19 := eq_true (of_decide_eq_true Z8 : dS < (a0.size : Int))
          have hx19 := bt_at a0 dS
          have p24 := eq_true (of_decide_eq_true Z8 : 0 ≤ ((oK) : Int))
          have q24 := eq_true (of_decide_eq_true Z8 : (oK) < (a0.size : Int))
          have hx24 := bt_at a0 (oK)
          go_wp2
          repeat (go_quiet (fail); try go_wp2)
          refine bodyPost_ret (results_list (rs := [.tmp 4, .tmp 5, .tmp 6, .tmp 7]) rfl (by simp) (.tmp (.tmp (.tmp (.tmp .nil))))) rfl ?_
          exact ⟨by first | rfl | (simp; done) | (simp only [← oX, ← tW] <;> (first | rfl | simp)) | (simp [*]; done), Z10⟩
        as_aux_lemma =>
         have H' := Aside0.mk H
         clear H
         have p17 := eq_true (of_decide_eq_true Z8 : 0 ≤ (dS : Int))
         have q17 := eq_true (of_decide_eq_true Z8 : dS < (a0.size : Int))
         have hx17 := bt_at a0 dS
         have p19 := eq_true (of_decide_eq_true Z8 : 0 ≤ (dS : Int))
         have q19 := eq_true (of_decide_eq_true Z8 : dS < (a0.size : Int))
         have hx19 := bt_at a0 dS
         go_wp2
         repeat (go_quiet (fail); try go_wp2)
         go_roundg k2
         case measure => have := HK1.out; have := HK2.out; omega
         case rel => exact ⟨(wrap64 (dS + 1)), Z9, H', ⟨by have := HK1.out; have := HK2.out; omega⟩, Z10⟩
       obtain ⟨Db, tX⟩ : ∃ j_ : Int, (wrap64 (a1 - 1)) = j_ := ⟨_, rfl⟩
       replace H : (if 0 ≤ (Db) then (if (Db) ≤ (a0.size : Int) then (some (dS, a0.extract ((Db) : Int).toNat a0.size, false, false)) else (none)) else (none)) = some (r1, r2, r3, r4) := by first | (rw [tX] at H; exact H) | (simp only [tX] at H ⊢; exact H)
       have hji45w : (IntKind.i64.wrap (a1 - 1)) = Db := (i64_w _).trans tX
       revert H; refine sNt1d1 fun aiI aiJ H => ?_
       revert H; refine sNt1d1 fun aiK aiL H => ?_
       as_aux_lemma =>
        simp only [Option.some.injEq, Prod.mk.injEq] at H
        obtain ⟨rfl, rfl, rfl, rfl⟩ := H
        go_wp2
        repeat (go_quiet (fail); try go_wp2)
        refine bodyPost_ret (results_list (rs := [.tmp 4, .tmp 5, .tmp 6, .tmp 7]) rfl (by simp) (.tmp (.tmp (.tmp (.tmp .nil))))) rfl ?_
        exact ⟨by first | rfl | (simp; done) | (simp only [← tX] <;> (first | rfl | simp)) | (simp [*]; done), Z10⟩
    as_aux_lemma =>
     have H' := Aside0.mk H
     clear H
     have p5 := eq_true (of_decide_eq_true Z8 : 0 ≤ (bR : Int))
     have q5 := eq_true (of_decide_eq_true Z8 : bR < (a0.size : Int))
     have hx5 := bt_at a0 bR
     have p7 := eq_true (of_decide_eq_true Z8 : 0 ≤ (bR : Int))
     have q7 := eq_true (of_decide_eq_true Z8 : bR < (a0.size : Int))
     have hx7 := bt_at a0 bR
     have p13 := eq_true (of_decide_eq_true Z8 : 0 ≤ (bR : Int))
     have q13 := eq_true (of_decide_eq_true Z8 : bR < (a0.size : Int))
     have hx13 := bt_at a0 bR
     go_wp2
     repeat (go_quiet (fail); try go_wp2)
     go_roundg k1
     case measure => have := HK1.out; omega
     case rel => exact ⟨(wrap64 (bR + 1)), Z9, H', ⟨by have := HK1.out; omega⟩, Z10⟩
   obtain ⟨Dc, tY⟩ : ∃ j_ : Int, (wrap64 (a1 - 1)) = j_ := ⟨_, rfl⟩
   replace H : (if 0 ≤ (Dc) then (if (Dc) ≤ (a0.size : Int) then (some (bR, a0.extract ((Dc) : Int).toNat a0.size, false, false)) else (none)) else (none)) = some (r1, r2, r3, r4) := by first | (rw [tY] at H; exact H) | (simp only [tY] at H ⊢; exact H)
   have hji48w : (IntKind.i64.wrap (a1 - 1)) = Dc := (i64_w _).trans tY
   revert H; refine sNt1d1 fun aiM aiN H => ?_
   revert H; refine sNt1d1 fun Ky Kz H => ?_
   as_aux_lemma =>
    simp only [Option.some.injEq, Prod.mk.injEq] at H
    obtain ⟨rfl, rfl, rfl, rfl⟩ := H
    go_wp2
    repeat (go_quiet (fail); try go_wp2)
    refine bodyPost_ret (results_list (rs := [.tmp 4, .tmp 5, .tmp 6, .tmp 7]) rfl (by simp) (.tmp (.tmp (.tmp (.tmp .nil))))) rfl ?_
    exact ⟨by first | rfl | (simp; done) | (simp only [← tY] <;> (first | rfl | simp)) | (simp [*]; done), Z10⟩
structure bV where
 f : Nat → ByteArray → Int → Option (Int × ByteArray)
 mono : ∀ a0 a1 k, LeO (f k a0 a1) (f (k + 1) a0 a1)
 calls : ∀ (k : Nat) (a0 : ByteArray) (a1 : Int) (r1 : Int) (r2 : ByteArray) (w : World) (h : f k a0 a1 = some (r1, r2)) (hW : Wok w),
  Calls Tryz.prog 64 #[.string a0, .int .i64 a1] w fun e w' => e = .returned (.tuple #[.int .i64 r1, .string r2]) ∧ Drawn0 w w'
instance bV.mi (V : bV) {a0 a1 k} : LeI (V.f k a0 a1) (V.f (k + 1) a0 a1) := ⟨⟨V.mono a0 a1 k⟩⟩
def cB.f (k : Nat) (a0 : ByteArray) (a1 : Int) : Option (Int × ByteArray) := none
theorem cB.mono : ∀ a0 a1 k, LeO (cB.f k a0 a1) (cB.f (k + 1) a0 a1) := by
 intro a0 a1 k
 unfold cB.f
 exact zM
instance cB.mi  {a0 a1 k} : LeI (cB.f k a0 a1) (cB.f (k + 1) a0 a1) := ⟨⟨cB.mono a0 a1 k⟩⟩
theorem cB.calls (k : Nat) (a0 : ByteArray) (a1 : Int) (r1 : Int) (r2 : ByteArray) (w : World) (h : cB.f k a0 a1 = some (r1, r2)) (hW : Wok w) :
 Calls Tryz.prog 64 #[.string a0, .int .i64 a1] w fun e w' => e = .returned (.tuple #[.int .i64 r1, .string r2]) ∧ Drawn0 w w' := by
 have HWK := Aside0.mk hW
 clear hW
 have H : (none) = some (r1, r2) := h
 clear h
 exact absurd H (by simp)
structure jP where
 lC : bV
def gM : Nat → jP
 | 0 => ⟨⟨fun _ _ _ => none, fun _ _ _ _ h => (by cases h), by intros; rename_i h _; cases h⟩⟩
 | n + 1 => let K := gM n; ⟨⟨fun k => cB.f  k, cB.mono , cB.calls ⟩⟩
def cB.at_ (D : Nat) : bV := (gM D).lC
end Go.Proofs.YtkjnahgicfmicaaGreatDoor.Sp
namespace Go.Proofs.YtkjnahgicfmicaaGreatDoor.Sp
set_option maxHeartbeats 8000000
set_option maxRecDepth 100000
open Go.RowKit Go.Proofs.YtkjnahgicfmicaaGreatDoorW.PrintWords Go.Proofs.YtkjnahgicfmicaaGreatDoorW.PrintLast Go.Proofs.YtkjnahgicfmicaaGreatDoorW.PrintMore
attribute [local go_sem] run_store_float max2_int min2_int max_two min_two max_three min_three max_four min_four
set_option linter.unusedVariables false
set_option linter.unusedSimpArgs false
def bA.l0 : Nat → ByteArray → Int → Int → Option (Int × ByteArray)
 | 0, _, _, _ => none
 | k + 1, x0, x1, x6 => if x1 < (x0.size : Int) then (if 0 ≤ x1 then (if (bt x0 x1) < 97 then (if 0 ≤ x6 then (if x6 ≤ x1 then (if x1 ≤ (x0.size : Int) then (some (x1, x0.extract (x6 : Int).toNat (x1 : Int).toNat)) else (none)) else (none)) else (none)) else (if (bt x0 x1) > 122 then (if 0 ≤ x6 then (if x6 ≤ x1 then (if x1 ≤ (x0.size : Int) then (some (x1, x0.extract (x6 : Int).toNat (x1 : Int).toNat)) else (none)) else (none)) else (none)) else (bA.l0 k x0 (wrap64 (x1 + 1)) x6))) else (none)) else (if 0 ≤ x6 then (if x6 ≤ (x0.size : Int) then (some (x1, x0.extract (x6 : Int).toNat x0.size)) else (none)) else (none))
def bA.f (k : Nat) (a0 : ByteArray) (a1 : Int) : Option (Int × ByteArray) := bA.l0 k a0 (wrap64 (a1 + 1)) a1
theorem bA.mono_l : ∀ k, (∀ y0 y1 y2, LeO (bA.l0 k y0 y1 y2) (bA.l0 (k + 1) y0 y1 y2))
 | 0 => fun _ _ _ r h => by simp [bA.l0] at h
 | k + 1 => by
  have ih0 := bA.mono_l k
  ·intro y0 y1 y2
   unfold bA.l0
   repeat' first
   | (with_reducible exact ih0 _ _ _)
   | (with_reducible exact LeO.refl _)
   | (with_reducible exact LeO.none _)
   | (with_reducible refine LeO.ite ?_ ?_)
   | (with_reducible refine LeO.bind ?_ (fun _ => ?_))
   | exact ih0 _ _ _
   | exact LeO.none _
   | refine LeO.ite ?_ ?_
   | refine LeO.bind ?_ (fun _ => ?_)
theorem bA.mono : ∀ a0 a1 k, LeO (bA.f k a0 a1) (bA.f (k + 1) a0 a1) := by
 intro a0 a1 k
 have ih0 := bA.mono_l k
 unfold bA.f
 exact zM
instance bA.mi  {a0 a1 k} : LeI (bA.f k a0 a1) (bA.f (k + 1) a0 a1) := ⟨⟨bA.mono a0 a1 k⟩⟩
theorem bA.calls (k : Nat) (a0 : ByteArray) (a1 : Int) (r1 : Int) (r2 : ByteArray) (w : World) (h : bA.f k a0 a1 = some (r1, r2)) :
 Calls Tryz.prog 65 #[.string a0, .int .i64 a1] w fun e w' => e = .returned (.tuple #[.int .i64 r1, .string r2]) ∧ Drawn0 w w' := by
 have H : (bA.l0 k a0 (wrap64 (a1 + 1)) a1) = some (r1, r2) := h
 clear h
 have H' := Aside0.mk H
 clear H
 go_enter Tryz.func65, Tryz.ntmps65
 go_wp2
 repeat (go_quiet (fail); try go_wp2)
 (try simp only [Act.put, List.setIfInBounds_toArray, List.set_cons_zero, List.set_cons_succ])
 go_loopg [1] k (fun kq v1 w' => ∃ (bR : Int), v1 = .int .i64 bR ∧ Aside0 (bA.l0 kq a0 bR a1 = some (r1, r2)) ∧ Aside0 (kq ≤ k) ∧ Drawn0 w w')
 case atStart => exact ⟨(wrap64 (a1 + 1)), Z9, H', ⟨Nat.le_refl _⟩, Z10⟩
 case round =>
  clear H'
  obtain ⟨bR, rfl, HA, HK1, ⟨m1, rfl⟩⟩ := hrel
  cases gk with
  | zero => exact absurd HA.out (by simp [bA.l0])
  | succ k1 =>
   have H := HA.out
   clear HA
   simp only [bA.l0] at H
   revert H; refine sId1_d0 (fun eW H => ?_) fun eW H => ?_
   ·revert H; refine sNd1 fun gV H => ?_
    revert H; refine sId1_d0 (fun eX H => ?_) fun eX H => ?_
    ·revert H; refine sNt1d1 fun lA pD H => ?_
     revert H; refine sNt1d1 fun jH lR H => ?_
     revert H; refine sNt1d1 fun nC Dd H => ?_
     as_aux_lemma =>
      simp only [Option.some.injEq, Prod.mk.injEq] at H
      obtain ⟨rfl, rfl⟩ := H
      have p5 := eq_true (of_decide_eq_true Z8 : 0 ≤ (bR : Int))
      have q5 := eq_true (of_decide_eq_true Z8 : bR < (a0.size : Int))
      have hx5 := bt_at a0 bR
      go_wp2
      repeat (go_quiet (fail); try go_wp2)
      go_ret2
      exact ⟨Z9, Z10⟩
    revert H; refine sIk_k (fun c11 H => ?_) fun c11 H => ?_
    ·have iR : decide (122 < (bt a0 bR)) = true := decide_eq_true c11
     clear c11
     revert H; refine sNt1d1 fun lX xH H => ?_
     revert H; refine sNt1d1 fun nT xL H => ?_
     revert H; refine sNt1d1 fun gR lJ H => ?_
     as_aux_lemma =>
      simp only [Option.some.injEq, Prod.mk.injEq] at H
      obtain ⟨rfl, rfl⟩ := H
      have p5 := eq_true (of_decide_eq_true Z8 : 0 ≤ (bR : Int))
      have q5 := eq_true (of_decide_eq_true Z8 : bR < (a0.size : Int))
      have hx5 := bt_at a0 bR
      have p10 := eq_true (of_decide_eq_true Z8 : 0 ≤ (bR : Int))
      have q10 := eq_true (of_decide_eq_true Z8 : bR < (a0.size : Int))
      have hx10 := bt_at a0 bR
      go_wp2
      repeat (go_quiet (fail); try go_wp2)
      go_ret2
      exact ⟨Z9, Z10⟩
    have iR : decide (122 < (bt a0 bR)) = false := decide_eq_false c11
    clear c11
    as_aux_lemma =>
     have H' := Aside0.mk H
     clear H
     have p5 := eq_true (of_decide_eq_true Z8 : 0 ≤ (bR : Int))
     have q5 := eq_true (of_decide_eq_true Z8 : bR < (a0.size : Int))
     have hx5 := bt_at a0 bR
     have p10 := eq_true (of_decide_eq_true Z8 : 0 ≤ (bR : Int))
     have q10 := eq_true (of_decide_eq_true Z8 : bR < (a0.size : Int))
     have hx10 := bt_at a0 bR
     go_wp2
     repeat (go_quiet (fail); try go_wp2)
     go_roundg k1
     case measure => have := HK1.out; omega
     case rel => exact ⟨(wrap64 (bR + 1)), Z9, H', ⟨by have := HK1.out; omega⟩, Z10⟩
   revert H; refine sNt1d1 fun nQ La H => ?_
   revert H; refine sNt1d1 fun kB xM H => ?_
   as_aux_lemma =>
    simp only [Option.some.injEq, Prod.mk.injEq] at H
    obtain ⟨rfl, rfl⟩ := H
    go_wp2
    repeat (go_quiet (fail); try go_wp2)
    go_ret2
    exact ⟨Z9, Z10⟩
def bH.l0 : Nat → ByteArray → Int → Int → Option (Int × ByteArray)
 | 0, _, _, _ => none
 | k + 1, x0, x1, x6 => if x1 < (x0.size : Int) then (if 0 ≤ x1 then (if (bt x0 x1) ≤ 32 then (if 0 ≤ x6 then (if x6 ≤ x1 then (if x1 ≤ (x0.size : Int) then (some (x1, x0.extract (x6 : Int).toNat (x1 : Int).toNat)) else (none)) else (none)) else (none)) else (if (bt x0 x1) = 44 then (if 0 ≤ x6 then (if x6 ≤ x1 then (if x1 ≤ (x0.size : Int) then (some (x1, x0.extract (x6 : Int).toNat (x1 : Int).toNat)) else (none)) else (none)) else (none)) else (if (bt x0 x1) = 93 then (if 0 ≤ x6 then (if x6 ≤ x1 then (if x1 ≤ (x0.size : Int) then (some (x1, x0.extract (x6 : Int).toNat (x1 : Int).toNat)) else (none)) else (none)) else (none)) else (if (bt x0 x1) = 125 then (if 0 ≤ x6 then (if x6 ≤ x1 then (if x1 ≤ (x0.size : Int) then (some (x1, x0.extract (x6 : Int).toNat (x1 : Int).toNat)) else (none)) else (none)) else (none)) else (bH.l0 k x0 (wrap64 (x1 + 1)) x6))))) else (none)) else (if 0 ≤ x6 then (if x6 ≤ (x0.size : Int) then (some (x1, x0.extract (x6 : Int).toNat x0.size)) else (none)) else (none))
def bH.f (k : Nat) (a0 : ByteArray) (a1 : Int) : Option (Int × ByteArray) := bH.l0 k a0 (wrap64 (a1 + 1)) a1
theorem bH.mono_l : ∀ k, (∀ y0 y1 y2, LeO (bH.l0 k y0 y1 y2) (bH.l0 (k + 1) y0 y1 y2))
 | 0 => fun _ _ _ r h => by simp [bH.l0] at h
 | k + 1 => by
  have ih0 := bH.mono_l k
  ·intro y0 y1 y2
   unfold bH.l0
   repeat' first
   | (with_reducible exact ih0 _ _ _)
   | (with_reducible exact LeO.refl _)
   | (with_reducible exact LeO.none _)
   | (with_reducible refine LeO.ite ?_ ?_)
   | (with_reducible refine LeO.bind ?_ (fun _ => ?_))
   | exact ih0 _ _ _
   | exact LeO.none _
   | refine LeO.ite ?_ ?_
   | refine LeO.bind ?_ (fun _ => ?_)
theorem bH.mono : ∀ a0 a1 k, LeO (bH.f k a0 a1) (bH.f (k + 1) a0 a1) := by
 intro a0 a1 k
 have ih0 := bH.mono_l k
 unfold bH.f
 exact zM
instance bH.mi  {a0 a1 k} : LeI (bH.f k a0 a1) (bH.f (k + 1) a0 a1) := ⟨⟨bH.mono a0 a1 k⟩⟩
theorem bH.calls (k : Nat) (a0 : ByteArray) (a1 : Int) (r1 : Int) (r2 : ByteArray) (w : World) (h : bH.f k a0 a1 = some (r1, r2)) :
 Calls Tryz.prog 66 #[.string a0, .int .i64 a1] w fun e w' => e = .returned (.tuple #[.int .i64 r1, .string r2]) ∧ Drawn0 w w' := by
 have H : (bH.l0 k a0 (wrap64 (a1 + 1)) a1) = some (r1, r2) := h
 clear h
 have H' := Aside0.mk H
 clear H
 go_enter Tryz.func66, Tryz.ntmps66
 go_wp2
 repeat (go_quiet (fail); try go_wp2)
 (try simp only [Act.put, List.setIfInBounds_toArray, List.set_cons_zero, List.set_cons_succ])
 go_loopg [1] k (fun kq v1 w' => ∃ (bR : Int), v1 = .int .i64 bR ∧ Aside0 (bH.l0 kq a0 bR a1 = some (r1, r2)) ∧ Aside0 (kq ≤ k) ∧ Drawn0 w w')
 case atStart => exact ⟨(wrap64 (a1 + 1)), Z9, H', ⟨Nat.le_refl _⟩, Z10⟩
 case round =>
  clear H'
  obtain ⟨bR, rfl, HA, HK1, ⟨m1, rfl⟩⟩ := hrel
  cases gk with
  | zero => exact absurd HA.out (by simp [bH.l0])
  | succ k1 =>
   have H := HA.out
   clear HA
   simp only [bH.l0] at H
   revert H; refine sId1_d0 (fun eW H => ?_) fun eW H => ?_
   ·revert H; refine sNd1 fun gV H => ?_
    revert H; refine sId1_d0 (fun eX H => ?_) fun eX H => ?_
    ·revert H; refine sNt1d1 fun lA pD H => ?_
     revert H; refine sNt1d1 fun jH lR H => ?_
     revert H; refine sNt1d1 fun nC Dd H => ?_
     as_aux_lemma =>
      simp only [Option.some.injEq, Prod.mk.injEq] at H
      obtain ⟨rfl, rfl⟩ := H
      have p5 := eq_true (of_decide_eq_true Z8 : 0 ≤ (bR : Int))
      have q5 := eq_true (of_decide_eq_true Z8 : bR < (a0.size : Int))
      have hx5 := bt_at a0 bR
      go_wp2
      repeat (go_quiet (fail); try go_wp2)
      go_ret2
      exact ⟨Z9, Z10⟩
    revert H; refine sIe1n0_e0n1 (fun iR lY H => ?_) fun iR lY H => ?_
    ·revert H; refine sNt1d1 fun lX xH H => ?_
     revert H; refine sNt1d1 fun nT xL H => ?_
     revert H; refine sNt1d1 fun gR lJ H => ?_
     as_aux_lemma =>
      simp only [Option.some.injEq, Prod.mk.injEq] at H
      obtain ⟨rfl, rfl⟩ := H
      have p5 := eq_true (of_decide_eq_true Z8 : 0 ≤ (bR : Int))
      have q5 := eq_true (of_decide_eq_true Z8 : bR < (a0.size : Int))
      have hx5 := bt_at a0 bR
      have p10 := eq_true (of_decide_eq_true Z8 : 0 ≤ (bR : Int))
      have q10 := eq_true (of_decide_eq_true Z8 : bR < (a0.size : Int))
      have hx10 := bt_at a0 bR
      go_wp2
      repeat (go_quiet (fail); try go_wp2)
      go_ret2
      exact ⟨Z9, Z10⟩
    revert H; refine sIe1n0_e0n1 (fun kB xM H => ?_) fun kB xM H => ?_
    ·revert H; refine sNt1d1 fun qM xN H => ?_
     revert H; refine sNt1d1 fun xI aiO H => ?_
     revert H; refine sNt1d1 fun Km aiP H => ?_
     as_aux_lemma =>
      simp only [Option.some.injEq, Prod.mk.injEq] at H
      obtain ⟨rfl, rfl⟩ := H
      have p5 := eq_true (of_decide_eq_true Z8 : 0 ≤ (bR : Int))
      have q5 := eq_true (of_decide_eq_true Z8 : bR < (a0.size : Int))
      have hx5 := bt_at a0 bR
      have p10 := eq_true (of_decide_eq_true Z8 : 0 ≤ (bR : Int))
      have q10 := eq_true (of_decide_eq_true Z8 : bR < (a0.size : Int))
      have hx10 := bt_at a0 bR
      have p15 := eq_true (of_decide_eq_true Z8 : 0 ≤ (bR : Int))
      have q15 := eq_true (of_decide_eq_true Z8 : bR < (a0.size : Int))
      have hx15 := bt_at a0 bR
      go_wp2
      repeat (go_quiet (fail); try go_wp2)
      go_ret2
      exact ⟨Z9, Z10⟩
    revert H; refine sIe1n0_e0n1 (fun Lb Lc H => ?_) fun Lb Lc H => ?_
    ·revert H; refine sNt1d1 fun mS Gq H => ?_
     revert H; refine sNt1d1 fun qN Ld H => ?_
     revert H; refine sNt1d1 fun xF Le H => ?_
     as_aux_lemma =>
      simp only [Option.some.injEq, Prod.mk.injEq] at H
      obtain ⟨rfl, rfl⟩ := H
      have p5 := eq_true (of_decide_eq_true Z8 : 0 ≤ (bR : Int))
      have q5 := eq_true (of_decide_eq_true Z8 : bR < (a0.size : Int))
      have hx5 := bt_at a0 bR
      have p10 := eq_true (of_decide_eq_true Z8 : 0 ≤ (bR : Int))
      have q10 := eq_true (of_decide_eq_true Z8 : bR < (a0.size : Int))
      have hx10 := bt_at a0 bR
      have p15 := eq_true (of_decide_eq_true Z8 : 0 ≤ (bR : Int))
      have q15 := eq_true (of_decide_eq_true Z8 : bR < (a0.size : Int))
      have hx15 := bt_at a0 bR
      have p20 := eq_true (of_decide_eq_true Z8 : 0 ≤ (bR : Int))
      have q20 := eq_true (of_decide_eq_true Z8 : bR < (a0.size : Int))
      have hx20 := bt_at a0 bR
      go_wp2
      repeat (go_quiet (fail); try go_wp2)
      go_ret2
      exact ⟨Z9, Z10⟩
    as_aux_lemma =>
     have H' := Aside0.mk H
     clear H
     have p5 := eq_true (of_decide_eq_true Z8 : 0 ≤ (bR : Int))
     have q5 := eq_true (of_decide_eq_true Z8 : bR < (a0.size : Int))
     have hx5 := bt_at a0 bR
     have p10 := eq_true (of_decide_eq_true Z8 : 0 ≤ (bR : Int))
     have q10 := eq_true (of_decide_eq_true Z8 : bR < (a0.size : Int))
     have hx10 := bt_at a0 bR
     have p15 := eq_true (of_decide_eq_true Z8 : 0 ≤ (bR : Int))
     have q15 := eq_true (of_decide_eq_true Z8 : bR < (a0.size : Int))
     have hx15 := bt_at a0 bR
     have p20 := eq_true (of_decide_eq_true Z8 : 0 ≤ (bR : Int))
     have q20 := eq_true (of_decide_eq_true Z8 : bR < (a0.size : Int))
     have hx20 := bt_at a0 bR
     go_wp2
     repeat (go_quiet (fail); try go_wp2)
     go_roundg k1
     case measure => have := HK1.out; omega
     case rel => exact ⟨(wrap64 (bR + 1)), Z9, H', ⟨by have := HK1.out; omega⟩, Z10⟩
   revert H; refine sNt1d1 fun lH tS H => ?_
   revert H; refine sNt1d1 fun oV aiQ H => ?_
   as_aux_lemma =>
    simp only [Option.some.injEq, Prod.mk.injEq] at H
    obtain ⟨rfl, rfl⟩ := H
    go_wp2
    repeat (go_quiet (fail); try go_wp2)
    go_ret2
    exact ⟨Z9, Z10⟩
end Go.Proofs.YtkjnahgicfmicaaGreatDoor.Sp

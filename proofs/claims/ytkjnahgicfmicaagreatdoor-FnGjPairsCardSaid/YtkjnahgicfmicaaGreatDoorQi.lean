import Derived.Test.YtkjnahgicfmicaaGreatDoorZip
import Derived.Test.YtkjnahgicfmicaaGreatDoorQa
import Derived.Test.YtkjnahgicfmicaaGreatDoorQf
namespace Go.Proofs.YtkjnahgicfmicaaGreatDoor.Sp
section
set_option maxHeartbeats 8000000
set_option maxRecDepth 100000
open Go.RowKit Go.PW Go.PL Go.PM
attribute [local go_sem] run_store_float max2_int min2_int max_two min_two max_three min_three max_four min_four
set_option linter.unusedVariables false
set_option linter.unusedSimpArgs false
mutual
def aH.l0 : Nat → ByteArray → Int → Int → Option (Int × ByteArray × Bool × Bool)
 | 0, _, _, _ => none
 | k + 1, x0, x1, x8 => if x1 < (x0.size : Int) then (if 0 ≤ x1 then (if (bt x0 x1) > 92 then (aH.l0 k x0 (wrap64 (x1 + 1)) x8) else (if (bt x0 x1) = 34 then (if 0 ≤ (wrap64 (x8 - 1)) then (if (wrap64 (x8 - 1)) ≤ (wrap64 (x1 + 1)) then (if (wrap64 (x1 + 1)) ≤ (x0.size : Int) then (some (wrap64 (x1 + 1), x0.extract ((wrap64 (x8 - 1)) : Int).toNat ((wrap64 (x1 + 1)) : Int).toNat, false, true)) else (none)) else (none)) else (none)) else (if (bt x0 x1) = 92 then (aH.l1 k x0 (wrap64 (x1 + 1)) x8) else (aH.l0 k x0 (wrap64 (x1 + 1)) x8)))) else (none)) else (if 0 ≤ (wrap64 (x8 - 1)) then (if (wrap64 (x8 - 1)) ≤ (x0.size : Int) then (some (x1, x0.extract ((wrap64 (x8 - 1)) : Int).toNat x0.size, false, false)) else (none)) else (none))
def aH.l1 : Nat → ByteArray → Int → Int → Option (Int × ByteArray × Bool × Bool)
 | 0, _, _, _ => none
 | k + 1, x0, x1, x8 => if x1 < (x0.size : Int) then (if 0 ≤ x1 then (if (bt x0 x1) > 92 then (aH.l1 k x0 (wrap64 (x1 + 1)) x8) else (if (bt x0 x1) = 34 then (if 0 ≤ (wrap64 (x1 - 1)) then (if (wrap64 (x1 - 1)) < (x0.size : Int) then (if (bt x0 (wrap64 (x1 - 1))) = 92 then (aH.l2 k x0 x1 x8 0 (wrap64 (x1 - 2))) else (if 0 ≤ (wrap64 (x8 - 1)) then (if (wrap64 (x8 - 1)) ≤ (wrap64 (x1 + 1)) then (if (wrap64 (x1 + 1)) ≤ (x0.size : Int) then (some (wrap64 (x1 + 1), x0.extract ((wrap64 (x8 - 1)) : Int).toNat ((wrap64 (x1 + 1)) : Int).toNat, true, true)) else (none)) else (none)) else (none))) else (none)) else (none)) else (aH.l1 k x0 (wrap64 (x1 + 1)) x8))) else (none)) else (if 0 ≤ (wrap64 (x8 - 1)) then (if (wrap64 (x8 - 1)) ≤ (x0.size : Int) then (some (x1, x0.extract ((wrap64 (x8 - 1)) : Int).toNat x0.size, false, false)) else (none)) else (none))
def aH.l2 : Nat → ByteArray → Int → Int → Int → Int → Option (Int × ByteArray × Bool × Bool)
 | 0, _, _, _, _, _ => none
 | k + 1, x0, x1, x8, x9, x10 => if x10 > 0 then (if 0 ≤ x10 then (if x10 < (x0.size : Int) then (if (bt x0 x10) = 92 then (aH.l2 k x0 x1 x8 (wrap64 (x9 + 1)) (wrap64 (x10 - 1))) else (if (Int.tmod x9 2) = 0 then (aH.l1 k x0 (wrap64 (x1 + 1)) x8) else (if 0 ≤ (wrap64 (x8 - 1)) then (if (wrap64 (x8 - 1)) ≤ (wrap64 (x1 + 1)) then (if (wrap64 (x1 + 1)) ≤ (x0.size : Int) then (some (wrap64 (x1 + 1), x0.extract ((wrap64 (x8 - 1)) : Int).toNat ((wrap64 (x1 + 1)) : Int).toNat, true, true)) else (none)) else (none)) else (none)))) else (none)) else (none)) else (if (Int.tmod x9 2) = 0 then (aH.l1 k x0 (wrap64 (x1 + 1)) x8) else (if 0 ≤ (wrap64 (x8 - 1)) then (if (wrap64 (x8 - 1)) ≤ (wrap64 (x1 + 1)) then (if (wrap64 (x1 + 1)) ≤ (x0.size : Int) then (some (wrap64 (x1 + 1), x0.extract ((wrap64 (x8 - 1)) : Int).toNat ((wrap64 (x1 + 1)) : Int).toNat, true, true)) else (none)) else (none)) else (none)))
end
def aH.f (k : Nat) (a0 : ByteArray) (a1 : Int) : Option (Int × ByteArray × Bool × Bool) := aH.l0 k a0 a1 a1
theorem aH.mono_l : ∀ k, (∀ y0 y1 y2, LeO (aH.l0 k y0 y1 y2) (aH.l0 (k + 1) y0 y1 y2)) ∧ (∀ y0 y1 y2, LeO (aH.l1 k y0 y1 y2) (aH.l1 (k + 1) y0 y1 y2)) ∧ (∀ y0 y1 y2 y3 y4, LeO (aH.l2 k y0 y1 y2 y3 y4) (aH.l2 (k + 1) y0 y1 y2 y3 y4))
 | 0 => ⟨fun _ _ _ r h => by simp [aH.l0] at h, fun _ _ _ r h => by simp [aH.l1] at h, fun _ _ _ _ _ r h => by simp [aH.l2] at h⟩
 | k + 1 => by
  obtain ⟨ih0, ih1, ih2⟩ := aH.mono_l k
  refine ⟨?_, ?_, ?_⟩
  ·intro y0 y1 y2
   unfold aH.l0
   repeat' first
   | (with_reducible exact ih0 _ _ _)
   | (with_reducible exact ih1 _ _ _)
   | (with_reducible exact ih2 _ _ _ _ _)
   | (with_reducible exact LeO.refl _)
   | (with_reducible exact LeO.none _)
   | (with_reducible refine LeO.ite ?_ ?_)
   | (with_reducible refine LeO.bind ?_ (fun _ => ?_))
   | exact ih0 _ _ _
   | exact ih1 _ _ _
   | exact ih2 _ _ _ _ _
   | exact LeO.none _
   | refine LeO.ite ?_ ?_
   | refine LeO.bind ?_ (fun _ => ?_)
  ·intro y0 y1 y2
   unfold aH.l1
   repeat' first
   | (with_reducible exact ih0 _ _ _)
   | (with_reducible exact ih1 _ _ _)
   | (with_reducible exact ih2 _ _ _ _ _)
   | (with_reducible exact LeO.refl _)
   | (with_reducible exact LeO.none _)
   | (with_reducible refine LeO.ite ?_ ?_)
   | (with_reducible refine LeO.bind ?_ (fun _ => ?_))
   | exact ih0 _ _ _
   | exact ih1 _ _ _
   | exact ih2 _ _ _ _ _
   | exact LeO.none _
   | refine LeO.ite ?_ ?_
   | refine LeO.bind ?_ (fun _ => ?_)
  ·intro y0 y1 y2 y3 y4
   unfold aH.l2
   repeat' first
   | (with_reducible exact ih0 _ _ _)
   | (with_reducible exact ih1 _ _ _)
   | (with_reducible exact ih2 _ _ _ _ _)
   | (with_reducible exact LeO.refl _)
   | (with_reducible exact LeO.none _)
   | (with_reducible refine LeO.ite ?_ ?_)
   | (with_reducible refine LeO.bind ?_ (fun _ => ?_))
   | exact ih0 _ _ _
   | exact ih1 _ _ _
   | exact ih2 _ _ _ _ _
   | exact LeO.none _
   | refine LeO.ite ?_ ?_
   | refine LeO.bind ?_ (fun _ => ?_)
theorem aH.mono : ∀ a0 a1 k, LeO (aH.f k a0 a1) (aH.f (k + 1) a0 a1) := by
 intro a0 a1 k
 obtain ⟨ih0, ih1, ih2⟩ := aH.mono_l k
 unfold aH.f
 exact zM
theorem aH.calls (k : Nat) (a0 : ByteArray) (a1 : Int) (r1 : Int) (r2 : ByteArray) (r3 : Bool) (r4 : Bool) (w : World) (h : aH.f k a0 a1 = some (r1, r2, r3, r4)) :
 Calls Tryz.prog 48 #[.string a0, .int .i64 a1] w fun e w' => e = .returned (.tuple #[.int .i64 r1, .string r2, .bool r3, .bool r4]) ∧ Drawn0 w w' := by
 have H : (aH.l0 k a0 a1 a1) = some (r1, r2, r3, r4) := h
 clear h
 have H' := ab H
 clear H
 go_enter Tryz.func48, Tryz.ntmps48
 go_wp2
 repeat (go_quiet (fail); try go_wp2)
 (try simp only [Act.put, ap, aq, ar])
 go_loopg [1] k (fun kq v1 w' => ∃ (bO : Int), v1 = .int .i64 bO ∧ Aside0 (aH.l0 kq a0 bO a1 = some (r1, r2, r3, r4)) ∧ Aside0 (kq ≤ k) ∧ Drawn0 w w')
 case atStart => exact ⟨(a1), Z7, H', ⟨Nat.le_refl _⟩, Z10⟩
 case round =>
  clear H'
  obtain ⟨bO, rfl, HA, HK1, ⟨m1, rfl⟩⟩ := hrel
  cases gk with
  | zero => exact absurd HA.out (by simp [aH.l0])
  | succ k1 =>
   have H := HA.out
   clear HA
   simp only [aH.l0] at H
   revert H; refine sId1_d0 (fun dY H => ?_) fun dY H => ?_
   ·revert H; refine sNd1 fun gY H => ?_
    revert H; refine sIk_k (fun c6 H => ?_) fun c6 H => ?_
    ·have eI : decide (92 < (bt a0 bO)) = true := ae c6
     clear c6
     as_aux_lemma =>
      have H' := ab H
      clear H
      have p5 := ag (ac Z6 : 0 ≤ (bO : Int))
      have q5 := ag (ac Z6 : bO < (a0.size : Int))
      have hx5 := bt_at a0 bO
      go_wp2
      repeat (go_quiet (fail); try go_wp2)
      go_roundg k1
      case measure => have := HK1.out; omega
      case rel => exact ⟨(wrap64 (bO + 1)), Z7, H', ⟨by have := HK1.out; omega⟩, Z10⟩
    have eI : decide (92 < (bt a0 bO)) = false := af c6
    clear c6
    revert H; refine sIe1n0_e0n1k (fun iL kT H => ?_) fun iL kT c8 H => ?_
    ·obtain ⟨vM, oN⟩ : ∃ j_ : Int, (wrap64 (a1 - 1)) = j_ := ⟨_, rfl⟩
     replace H : (if 0 ≤ (vM) then (if (vM) ≤ (wrap64 (bO + 1)) then (if (wrap64 (bO + 1)) ≤ (a0.size : Int) then (some (wrap64 (bO + 1), a0.extract ((vM) : Int).toNat ((wrap64 (bO + 1)) : Int).toNat, false, true)) else (none)) else (none)) else (none)) = some (r1, r2, r3, r4) := by first | (rw [oN] at H; exact H) | (simp only [oN] at H ⊢; exact H)
     have hji9w : (IntKind.i64.wrap (a1 - 1)) = vM := (i64_w _).trans oN
     revert H; refine sNt1d1 fun kC kV H => ?_
     revert H; refine sNt1d1 fun mB qK H => ?_
     revert H; refine sNt1d1 fun kU xC H => ?_
     as_aux_lemma =>
      simp only [am, an] at H
      obtain ⟨rfl, rfl, rfl, rfl⟩ := H
      have p5 := ag (ac Z6 : 0 ≤ (bO : Int))
      have q5 := ag (ac Z6 : bO < (a0.size : Int))
      have hx5 := bt_at a0 bO
      have p7 := ag (ac Z6 : 0 ≤ (bO : Int))
      have q7 := ag (ac Z6 : bO < (a0.size : Int))
      have hx7 := bt_at a0 bO
      go_wp2
      repeat (go_quiet (fail); try go_wp2)
      refine bodyPost_ret (results_list (rs := [.tmp 4, .tmp 5, .tmp 6, .tmp 7]) rfl (by simp) (.tmp (.tmp (.tmp (.tmp .nil))))) rfl ?_
      exact ⟨by first | rfl | (simp; done) | (simp only [← oN] <;> (first | rfl | simp)) | (simp [*]; done), Z10⟩
    revert H; refine sIe1n0_e0n1 (fun fY kD H => ?_) fun fY kD H => ?_
    ·have H' := ab H
     clear H
     have p5 := ag (ac Z6 : 0 ≤ (bO : Int))
     have q5 := ag (ac Z6 : bO < (a0.size : Int))
     have hx5 := bt_at a0 bO
     have p7 := ag (ac Z6 : 0 ≤ (bO : Int))
     have q7 := ag (ac Z6 : bO < (a0.size : Int))
     have hx7 := bt_at a0 bO
     have p13 := ag (ac Z6 : 0 ≤ (bO : Int))
     have q13 := ag (ac Z6 : bO < (a0.size : Int))
     have hx13 := bt_at a0 bO
     go_wp2
     repeat (go_quiet (fail); try go_wp2)
     (try simp only [Act.put, ap, aq, ar])
     go_loopg [1] k1 (fun kq v1 w' => ∃ (dF : Int), v1 = .int .i64 dF ∧ Aside0 (aH.l1 kq a0 dF a1 = some (r1, r2, r3, r4)) ∧ Aside0 (kq ≤ k1) ∧ Drawn0 w w')
     case atStart => exact ⟨(wrap64 (bO + 1)), Z7, H', ⟨Nat.le_refl _⟩, Z10⟩
     case round =>
      clear H'
      try clear dY gY p5 q5 hx5 c6 eI p7 q7 hx7 c8 iL kT p13 q13 hx13 fY kD
      obtain ⟨dF, rfl, HA, HK2, ⟨m2, rfl⟩⟩ := hrel
      cases gk with
      | zero => exact absurd HA.out (by simp [aH.l1])
      | succ k2 =>
       have H := HA.out
       clear HA
       simp only [aH.l1] at H
       revert H; refine sId1_d0 (fun kA H => ?_) fun kA H => ?_
       ·revert H; refine sNd1 fun iP H => ?_
        revert H; refine sIk_k (fun c18 H => ?_) fun c18 H => ?_
        ·have xD : decide (92 < (bt a0 dF)) = true := ae c18
         clear c18
         as_aux_lemma =>
          have H' := ab H
          clear H
          have p17 := ag (ac Z6 : 0 ≤ (dF : Int))
          have q17 := ag (ac Z6 : dF < (a0.size : Int))
          have hx17 := bt_at a0 dF
          go_wp2
          repeat (go_quiet (fail); try go_wp2)
          go_roundg k2
          case measure => have := HK1.out; have := HK2.out; omega
          case rel => exact ⟨(wrap64 (dF + 1)), Z7, H', ⟨by have := HK1.out; have := HK2.out; omega⟩, Z10⟩
        have xD : decide (92 < (bt a0 dF)) = false := af c18
        clear c18
        revert H; refine sIe1n0_e0n1 (fun oF qL H => ?_) fun oF qL H => ?_
        ·obtain ⟨nU, oH⟩ : ∃ j_ : Int, (wrap64 (dF - 1)) = j_ := ⟨_, rfl⟩
         replace H : (if 0 ≤ (nU) then (if (nU) < (a0.size : Int) then (if (bt a0 (nU)) = 92 then (aH.l2 k2 a0 dF a1 0 (wrap64 (dF - 2))) else (if 0 ≤ (wrap64 (a1 - 1)) then (if (wrap64 (a1 - 1)) ≤ (wrap64 (dF + 1)) then (if (wrap64 (dF + 1)) ≤ (a0.size : Int) then (some (wrap64 (dF + 1), a0.extract ((wrap64 (a1 - 1)) : Int).toNat ((wrap64 (dF + 1)) : Int).toNat, true, true)) else (none)) else (none)) else (none))) else (none)) else (none)) = some (r1, r2, r3, r4) := by first | (rw [oH] at H; exact H) | (simp only [oH] at H ⊢; exact H)
         have hji21w : (IntKind.i64.wrap (dF - 1)) = nU := (i64_w _).trans oH
         revert H; refine sNd1 fun jH H => ?_
         revert H; refine sNd1 fun mA H => ?_
         revert H; refine sIe1n0_e0n1 (fun kB qM H => ?_) fun kB qM H => ?_
         ·have H' := ab H
          clear H
          have p17 := ag (ac Z6 : 0 ≤ (dF : Int))
          have q17 := ag (ac Z6 : dF < (a0.size : Int))
          have hx17 := bt_at a0 dF
          have p19 := ag (ac Z6 : 0 ≤ (dF : Int))
          have q19 := ag (ac Z6 : dF < (a0.size : Int))
          have hx19 := bt_at a0 dF
          have p24 := ag (ac Z6 : 0 ≤ ((nU) : Int))
          have q24 := ag (ac Z6 : (nU) < (a0.size : Int))
          have hx24 := bt_at a0 (nU)
          go_wp2
          repeat (go_quiet (fail); try go_wp2)
          (try simp only [Act.put, ap, aq, ar])
          go_loopg [9, 10] k2 (fun kq v9 v10 w' => ∃ (zT : Int) (iC : Int), v9 = .int .i64 zT ∧ v10 = .int .i64 iC ∧ Aside0 (aH.l2 kq a0 dF a1 zT iC = some (r1, r2, r3, r4)) ∧ Aside0 (kq ≤ k2) ∧ Drawn0 w w')
          case atStart => exact ⟨(0), (wrap64 (dF - 2)), Z7, Z7, H', ⟨Nat.le_refl _⟩, Z10⟩
          case round =>
           clear H'
           try clear kA iP p17 q17 hx17 c18 xD p19 q19 hx19 oF qL jH mA p24 q24 hx24 kB qM
           obtain ⟨zT, iC, rfl, rfl, HA, HK3, ⟨m3, rfl⟩⟩ := hrel
           cases gk with
           | zero => exact absurd HA.out (by simp [aH.l2])
           | succ k3 =>
            have H := HA.out
            clear HA
            simp only [aH.l2] at H
            revert H; refine sIk_k (fun c26 H => ?_) fun c26 H => ?_
            ·have mC : decide (0 < iC) = true := ae c26
             clear c26
             revert H; refine sNd1 fun Ep H => ?_
             revert H; refine sNd1 fun qN H => ?_
             revert H; refine sIe1n0_e0n1 (fun Eo Jd H => ?_) fun Eo Jd H => ?_
             ·as_aux_lemma =>
               have H' := ab H
               clear H
               have p29 := ag (ac Z6 : 0 ≤ (iC : Int))
               have q29 := ag (ac Z6 : iC < (a0.size : Int))
               have hx29 := bt_at a0 iC
               go_wp2
               repeat (go_quiet (fail); try go_wp2)
               go_roundg k3
               case measure => have := HK1.out; have := HK2.out; have := HK3.out; omega
               case rel => exact ⟨(wrap64 (zT + 1)), (wrap64 (iC - 1)), Z7, Z7, H', ⟨Z55⟩, Z10⟩
             revert H; refine sIe1n0_e0n1 (fun jD oI H => ?_) fun jD oI H => ?_
             ·as_aux_lemma =>
               have H' := ab H
               clear H
               have p29 := ag (ac Z6 : 0 ≤ (iC : Int))
               have q29 := ag (ac Z6 : iC < (a0.size : Int))
               have hx29 := bt_at a0 iC
               go_wp2
               repeat (go_quiet (fail); try go_wp2)
               go_roundg k3
               case measure => have := HK1.out; have := HK2.out; have := HK3.out; omega
               case rel => exact ⟨(wrap64 (dF + 1)), Z7, H', ⟨Z55⟩, Z10⟩
             obtain ⟨zU, sF⟩ : ∃ j_ : Int, (wrap64 (a1 - 1)) = j_ := ⟨_, rfl⟩
             replace H : (if 0 ≤ (zU) then (if (zU) ≤ (wrap64 (dF + 1)) then (if (wrap64 (dF + 1)) ≤ (a0.size : Int) then (some (wrap64 (dF + 1), a0.extract ((zU) : Int).toNat ((wrap64 (dF + 1)) : Int).toNat, true, true)) else (none)) else (none)) else (none)) = some (r1, r2, r3, r4) := by first | (rw [sF] at H; exact H) | (simp only [sF] at H ⊢; exact H)
             have hji32w : (IntKind.i64.wrap (a1 - 1)) = zU := (i64_w _).trans sF
             revert H; refine sNt1d1 fun sG aiH H => ?_
             revert H; refine sNt1d1 fun Er Je H => ?_
             revert H; refine sNt1d1 fun xE xF H => ?_
             as_aux_lemma =>
              simp only [am, an] at H
              obtain ⟨rfl, rfl, rfl, rfl⟩ := H
              have p29 := ag (ac Z6 : 0 ≤ (iC : Int))
              have q29 := ag (ac Z6 : iC < (a0.size : Int))
              have hx29 := bt_at a0 iC
              go_wp2
              repeat (go_quiet (fail); try go_wp2)
              refine bodyPost_ret (results_list (rs := [.tmp 4, .tmp 5, .tmp 6, .tmp 7]) rfl (by simp) (.tmp (.tmp (.tmp (.tmp .nil))))) rfl ?_
              exact ⟨by first | rfl | (simp; done) | (simp only [← oH, ← sF] <;> (first | rfl | simp)) | (simp [*]; done), Z10⟩
            have mC : decide (0 < iC) = false := af c26
            clear c26
            revert H; refine sIe1n0_e0n1 (fun nB nC H => ?_) fun nB nC H => ?_
            ·as_aux_lemma =>
              have H' := ab H
              clear H
              go_wp2
              repeat (go_quiet (fail); try go_wp2)
              go_roundg k3
              case measure => have := HK1.out; have := HK2.out; have := HK3.out; omega
              case rel => exact ⟨(wrap64 (dF + 1)), Z7, H', ⟨Z55⟩, Z10⟩
            obtain ⟨zV, sH⟩ : ∃ j_ : Int, (wrap64 (a1 - 1)) = j_ := ⟨_, rfl⟩
            replace H : (if 0 ≤ (zV) then (if (zV) ≤ (wrap64 (dF + 1)) then (if (wrap64 (dF + 1)) ≤ (a0.size : Int) then (some (wrap64 (dF + 1), a0.extract ((zV) : Int).toNat ((wrap64 (dF + 1)) : Int).toNat, true, true)) else (none)) else (none)) else (none)) = some (r1, r2, r3, r4) := by first | (rw [sH] at H; exact H) | (simp only [sH] at H ⊢; exact H)
            have hji37w : (IntKind.i64.wrap (a1 - 1)) = zV := (i64_w _).trans sH
            revert H; refine sNt1d1 fun aiI aiJ H => ?_
            revert H; refine sNt1d1 fun aiK aiL H => ?_
            revert H; refine sNt1d1 fun aiM aiN H => ?_
            as_aux_lemma =>
             simp only [am, an] at H
             obtain ⟨rfl, rfl, rfl, rfl⟩ := H
             go_wp2
             repeat (go_quiet (fail); try go_wp2)
             refine bodyPost_ret (results_list (rs := [.tmp 4, .tmp 5, .tmp 6, .tmp 7]) rfl (by simp) (.tmp (.tmp (.tmp (.tmp .nil))))) rfl ?_
             exact ⟨by first | rfl | (simp; done) | (simp only [← oH, ← sH] <;> (first | rfl | simp)) | (simp [*]; done), Z10⟩
         obtain ⟨zW, sI⟩ : ∃ j_ : Int, (wrap64 (a1 - 1)) = j_ := ⟨_, rfl⟩
         replace H : (if 0 ≤ (zW) then (if (zW) ≤ (wrap64 (dF + 1)) then (if (wrap64 (dF + 1)) ≤ (a0.size : Int) then (some (wrap64 (dF + 1), a0.extract ((zW) : Int).toNat ((wrap64 (dF + 1)) : Int).toNat, true, true)) else (none)) else (none)) else (none)) = some (r1, r2, r3, r4) := by first | (rw [sI] at H; exact H) | (simp only [sI] at H ⊢; exact H)
         have hji41w : (IntKind.i64.wrap (a1 - 1)) = zW := (i64_w _).trans sI
         revert H; refine sNt1d1 fun aiO aiP H => ?_
         revert H; refine sNt1d1 fun Jf Jg H => ?_
         revert H; refine sNt1d1 fun Jh Jj H => ?_
         as_aux_lemma =>
          simp only [am, an] at H
          obtain ⟨rfl, rfl, rfl, rfl⟩ := H
          have p17 := ag (ac Z6 : 0 ≤ (dF : Int))
          have q17 := ag (ac Z6 : dF < (a0.size : Int))
          have hx17 := bt_at a0 dF
          have p19 := ag (ac Z6 : 0 ≤ (dF : Int))
          have q19 := ag (ac Z6 : dF < (a0.size : Int))
          have hx19 := bt_at a0 dF
          have p24 := ag (ac Z6 : 0 ≤ ((nU) : Int))
          have q24 := ag (ac Z6 : (nU) < (a0.size : Int))
          have hx24 := bt_at a0 (nU)
          go_wp2
          repeat (go_quiet (fail); try go_wp2)
          refine bodyPost_ret (results_list (rs := [.tmp 4, .tmp 5, .tmp 6, .tmp 7]) rfl (by simp) (.tmp (.tmp (.tmp (.tmp .nil))))) rfl ?_
          exact ⟨by first | rfl | (simp; done) | (simp only [← oH, ← sI] <;> (first | rfl | simp)) | (simp [*]; done), Z10⟩
        as_aux_lemma =>
         have H' := ab H
         clear H
         have p17 := ag (ac Z6 : 0 ≤ (dF : Int))
         have q17 := ag (ac Z6 : dF < (a0.size : Int))
         have hx17 := bt_at a0 dF
         have p19 := ag (ac Z6 : 0 ≤ (dF : Int))
         have q19 := ag (ac Z6 : dF < (a0.size : Int))
         have hx19 := bt_at a0 dF
         go_wp2
         repeat (go_quiet (fail); try go_wp2)
         go_roundg k2
         case measure => have := HK1.out; have := HK2.out; omega
         case rel => exact ⟨(wrap64 (dF + 1)), Z7, H', ⟨by have := HK1.out; have := HK2.out; omega⟩, Z10⟩
       obtain ⟨zX, sJ⟩ : ∃ j_ : Int, (wrap64 (a1 - 1)) = j_ := ⟨_, rfl⟩
       replace H : (if 0 ≤ (zX) then (if (zX) ≤ (a0.size : Int) then (some (dF, a0.extract ((zX) : Int).toNat a0.size, false, false)) else (none)) else (none)) = some (r1, r2, r3, r4) := by first | (rw [sJ] at H; exact H) | (simp only [sJ] at H ⊢; exact H)
       have hji45w : (IntKind.i64.wrap (a1 - 1)) = zX := (i64_w _).trans sJ
       revert H; refine sNt1d1 fun Jk Jl H => ?_
       revert H; refine sNt1d1 fun aiQ aiR H => ?_
       as_aux_lemma =>
        simp only [am, an] at H
        obtain ⟨rfl, rfl, rfl, rfl⟩ := H
        go_wp2
        repeat (go_quiet (fail); try go_wp2)
        refine bodyPost_ret (results_list (rs := [.tmp 4, .tmp 5, .tmp 6, .tmp 7]) rfl (by simp) (.tmp (.tmp (.tmp (.tmp .nil))))) rfl ?_
        exact ⟨by first | rfl | (simp; done) | (simp only [← sJ] <;> (first | rfl | simp)) | (simp [*]; done), Z10⟩
    as_aux_lemma =>
     have H' := ab H
     clear H
     have p5 := ag (ac Z6 : 0 ≤ (bO : Int))
     have q5 := ag (ac Z6 : bO < (a0.size : Int))
     have hx5 := bt_at a0 bO
     have p7 := ag (ac Z6 : 0 ≤ (bO : Int))
     have q7 := ag (ac Z6 : bO < (a0.size : Int))
     have hx7 := bt_at a0 bO
     have p13 := ag (ac Z6 : 0 ≤ (bO : Int))
     have q13 := ag (ac Z6 : bO < (a0.size : Int))
     have hx13 := bt_at a0 bO
     go_wp2
     repeat (go_quiet (fail); try go_wp2)
     go_roundg k1
     case measure => have := HK1.out; omega
     case rel => exact ⟨(wrap64 (bO + 1)), Z7, H', ⟨by have := HK1.out; omega⟩, Z10⟩
   obtain ⟨zY, sK⟩ : ∃ j_ : Int, (wrap64 (a1 - 1)) = j_ := ⟨_, rfl⟩
   replace H : (if 0 ≤ (zY) then (if (zY) ≤ (a0.size : Int) then (some (bO, a0.extract ((zY) : Int).toNat a0.size, false, false)) else (none)) else (none)) = some (r1, r2, r3, r4) := by first | (rw [sK] at H; exact H) | (simp only [sK] at H ⊢; exact H)
   have hji48w : (IntKind.i64.wrap (a1 - 1)) = zY := (i64_w _).trans sK
   revert H; refine sNt1d1 fun aiS aiT H => ?_
   revert H; refine sNt1d1 fun Jm Jo H => ?_
   as_aux_lemma =>
    simp only [am, an] at H
    obtain ⟨rfl, rfl, rfl, rfl⟩ := H
    go_wp2
    repeat (go_quiet (fail); try go_wp2)
    refine bodyPost_ret (results_list (rs := [.tmp 4, .tmp 5, .tmp 6, .tmp 7]) rfl (by simp) (.tmp (.tmp (.tmp (.tmp .nil))))) rfl ?_
    exact ⟨by first | rfl | (simp; done) | (simp only [← sK] <;> (first | rfl | simp)) | (simp [*]; done), Z10⟩
structure cB where
 f : Nat → ByteArray → Int → Option (Int × ByteArray)
 mono : ∀ a0 a1 k, LeO (f k a0 a1) (f (k + 1) a0 a1)
 calls : ∀ (k : Nat) (a0 : ByteArray) (a1 : Int) (r1 : Int) (r2 : ByteArray) (w : World) (h : f k a0 a1 = some (r1, r2)) (hW : Wok w),
  Calls Tryz.prog 64 #[.string a0, .int .i64 a1] w fun e w' => e = .returned (.tuple #[.int .i64 r1, .string r2]) ∧ Drawn0 w w'
def dG.f (k : Nat) (a0 : ByteArray) (a1 : Int) : Option (Int × ByteArray) := none
theorem dG.mono : ∀ a0 a1 k, LeO (dG.f k a0 a1) (dG.f (k + 1) a0 a1) := by
 intro a0 a1 k
 unfold dG.f
 exact zM
theorem dG.calls (k : Nat) (a0 : ByteArray) (a1 : Int) (r1 : Int) (r2 : ByteArray) (w : World) (h : dG.f k a0 a1 = some (r1, r2)) (hW : Wok w) :
 Calls Tryz.prog 64 #[.string a0, .int .i64 a1] w fun e w' => e = .returned (.tuple #[.int .i64 r1, .string r2]) ∧ Drawn0 w w' := by
 have HWK := ab hW
 clear hW
 have H : (none) = some (r1, r2) := h
 clear h
 exact absurd H (by simp)
structure oO where
 rF : cB
end
section
set_option maxHeartbeats 8000000
set_option maxRecDepth 100000
open Go.RowKit Go.PW Go.PL Go.PM
attribute [local go_sem] run_store_float max2_int min2_int max_two min_two max_three min_three max_four min_four
set_option linter.unusedVariables false
set_option linter.unusedSimpArgs false
def bB.l0 : Nat → ByteArray → Int → Int → Option (Int × ByteArray)
 | 0, _, _, _ => none
 | k + 1, x0, x1, x6 => if x1 < (x0.size : Int) then (if 0 ≤ x1 then (if (bt x0 x1) < 97 then (if 0 ≤ x6 then (if x6 ≤ x1 then (if x1 ≤ (x0.size : Int) then (some (x1, x0.extract (x6 : Int).toNat (x1 : Int).toNat)) else (none)) else (none)) else (none)) else (if (bt x0 x1) > 122 then (if 0 ≤ x6 then (if x6 ≤ x1 then (if x1 ≤ (x0.size : Int) then (some (x1, x0.extract (x6 : Int).toNat (x1 : Int).toNat)) else (none)) else (none)) else (none)) else (bB.l0 k x0 (wrap64 (x1 + 1)) x6))) else (none)) else (if 0 ≤ x6 then (if x6 ≤ (x0.size : Int) then (some (x1, x0.extract (x6 : Int).toNat x0.size)) else (none)) else (none))
def bB.f (k : Nat) (a0 : ByteArray) (a1 : Int) : Option (Int × ByteArray) := bB.l0 k a0 (wrap64 (a1 + 1)) a1
theorem bB.mono_l : ∀ k, (∀ y0 y1 y2, LeO (bB.l0 k y0 y1 y2) (bB.l0 (k + 1) y0 y1 y2))
 | 0 => fun _ _ _ r h => by simp [bB.l0] at h
 | k + 1 => by
  have ih0 := bB.mono_l k
  ·intro y0 y1 y2
   unfold bB.l0
   repeat' first
   | (with_reducible exact ih0 _ _ _)
   | (with_reducible exact LeO.refl _)
   | (with_reducible exact LeO.none _)
   | (with_reducible refine LeO.ite ?_ ?_)
   | (with_reducible refine LeO.bind ?_ (fun _ => ?_))
   | exact ih0 _ _ _
   | exact LeO.none _
   | refine LeO.ite ?_ ?_
   | refine LeO.bind ?_ (fun _ => ?_)
theorem bB.mono : ∀ a0 a1 k, LeO (bB.f k a0 a1) (bB.f (k + 1) a0 a1) := by
 intro a0 a1 k
 have ih0 := bB.mono_l k
 unfold bB.f
 exact zM
theorem bB.calls (k : Nat) (a0 : ByteArray) (a1 : Int) (r1 : Int) (r2 : ByteArray) (w : World) (h : bB.f k a0 a1 = some (r1, r2)) :
 Calls Tryz.prog 65 #[.string a0, .int .i64 a1] w fun e w' => e = .returned (.tuple #[.int .i64 r1, .string r2]) ∧ Drawn0 w w' := by
 have H : (bB.l0 k a0 (wrap64 (a1 + 1)) a1) = some (r1, r2) := h
 clear h
 have H' := ab H
 clear H
 go_enter Tryz.func65, Tryz.ntmps65
 go_wp2
 repeat (go_quiet (fail); try go_wp2)
 (try simp only [Act.put, ap, aq, ar])
 go_loopg [1] k (fun kq v1 w' => ∃ (bO : Int), v1 = .int .i64 bO ∧ Aside0 (bB.l0 kq a0 bO a1 = some (r1, r2)) ∧ Aside0 (kq ≤ k) ∧ Drawn0 w w')
 case atStart => exact ⟨(wrap64 (a1 + 1)), Z7, H', ⟨Nat.le_refl _⟩, Z10⟩
 case round =>
  clear H'
  obtain ⟨bO, rfl, HA, HK1, ⟨m1, rfl⟩⟩ := hrel
  cases gk with
  | zero => exact absurd HA.out (by simp [bB.l0])
  | succ k1 =>
   have H := HA.out
   clear HA
   simp only [bB.l0] at H
   revert H; refine sId1_d0 (fun dY H => ?_) fun dY H => ?_
   ·revert H; refine sNd1 fun gY H => ?_
    revert H; refine sId1_d0 (fun eI H => ?_) fun eI H => ?_
    ·revert H; refine sNt1d1 fun iH kM H => ?_
     revert H; refine sNt1d1 fun iL kT H => ?_
     revert H; refine sNt1d1 fun mJ Aa H => ?_
     as_aux_lemma =>
      simp only [am, an] at H
      obtain ⟨rfl, rfl⟩ := H
      have p5 := ag (ac Z6 : 0 ≤ (bO : Int))
      have q5 := ag (ac Z6 : bO < (a0.size : Int))
      have hx5 := bt_at a0 bO
      go_wp2
      repeat (go_quiet (fail); try go_wp2)
      go_ret2
      exact ⟨Z7, Z10⟩
    revert H; refine sIk_k (fun c11 H => ?_) fun c11 H => ?_
    ·have mB : decide (122 < (bt a0 bO)) = true := ae c11
     clear c11
     revert H; refine sNt1d1 fun kU xC H => ?_
     revert H; refine sNt1d1 fun nD xG H => ?_
     revert H; refine sNt1d1 fun fY kD H => ?_
     as_aux_lemma =>
      simp only [am, an] at H
      obtain ⟨rfl, rfl⟩ := H
      have p5 := ag (ac Z6 : 0 ≤ (bO : Int))
      have q5 := ag (ac Z6 : bO < (a0.size : Int))
      have hx5 := bt_at a0 bO
      have p10 := ag (ac Z6 : 0 ≤ (bO : Int))
      have q10 := ag (ac Z6 : bO < (a0.size : Int))
      have hx10 := bt_at a0 bO
      go_wp2
      repeat (go_quiet (fail); try go_wp2)
      go_ret2
      exact ⟨Z7, Z10⟩
    have mB : decide (122 < (bt a0 bO)) = false := af c11
    clear c11
    as_aux_lemma =>
     have H' := ab H
     clear H
     have p5 := ag (ac Z6 : 0 ≤ (bO : Int))
     have q5 := ag (ac Z6 : bO < (a0.size : Int))
     have hx5 := bt_at a0 bO
     have p10 := ag (ac Z6 : 0 ≤ (bO : Int))
     have q10 := ag (ac Z6 : bO < (a0.size : Int))
     have hx10 := bt_at a0 bO
     go_wp2
     repeat (go_quiet (fail); try go_wp2)
     go_roundg k1
     case measure => have := HK1.out; omega
     case rel => exact ⟨(wrap64 (bO + 1)), Z7, H', ⟨by have := HK1.out; omega⟩, Z10⟩
   revert H; refine sNt1d1 fun kA sL H => ?_
   revert H; refine sNt1d1 fun iP xH H => ?_
   as_aux_lemma =>
    simp only [am, an] at H
    obtain ⟨rfl, rfl⟩ := H
    go_wp2
    repeat (go_quiet (fail); try go_wp2)
    go_ret2
    exact ⟨Z7, Z10⟩
def bP.l0 : Nat → ByteArray → Int → Int → Option (Int × ByteArray)
 | 0, _, _, _ => none
 | k + 1, x0, x1, x6 => if x1 < (x0.size : Int) then (if 0 ≤ x1 then (if (bt x0 x1) ≤ 32 then (if 0 ≤ x6 then (if x6 ≤ x1 then (if x1 ≤ (x0.size : Int) then (some (x1, x0.extract (x6 : Int).toNat (x1 : Int).toNat)) else (none)) else (none)) else (none)) else (if (bt x0 x1) = 44 then (if 0 ≤ x6 then (if x6 ≤ x1 then (if x1 ≤ (x0.size : Int) then (some (x1, x0.extract (x6 : Int).toNat (x1 : Int).toNat)) else (none)) else (none)) else (none)) else (if (bt x0 x1) = 93 then (if 0 ≤ x6 then (if x6 ≤ x1 then (if x1 ≤ (x0.size : Int) then (some (x1, x0.extract (x6 : Int).toNat (x1 : Int).toNat)) else (none)) else (none)) else (none)) else (if (bt x0 x1) = 125 then (if 0 ≤ x6 then (if x6 ≤ x1 then (if x1 ≤ (x0.size : Int) then (some (x1, x0.extract (x6 : Int).toNat (x1 : Int).toNat)) else (none)) else (none)) else (none)) else (bP.l0 k x0 (wrap64 (x1 + 1)) x6))))) else (none)) else (if 0 ≤ x6 then (if x6 ≤ (x0.size : Int) then (some (x1, x0.extract (x6 : Int).toNat x0.size)) else (none)) else (none))
def bP.f (k : Nat) (a0 : ByteArray) (a1 : Int) : Option (Int × ByteArray) := bP.l0 k a0 (wrap64 (a1 + 1)) a1
theorem bP.calls (k : Nat) (a0 : ByteArray) (a1 : Int) (r1 : Int) (r2 : ByteArray) (w : World) (h : bP.f k a0 a1 = some (r1, r2)) :
 Calls Tryz.prog 66 #[.string a0, .int .i64 a1] w fun e w' => e = .returned (.tuple #[.int .i64 r1, .string r2]) ∧ Drawn0 w w' := by
 have H : (bP.l0 k a0 (wrap64 (a1 + 1)) a1) = some (r1, r2) := h
 clear h
 have H' := ab H
 clear H
 go_enter Tryz.func66, Tryz.ntmps66
 go_wp2
 repeat (go_quiet (fail); try go_wp2)
 (try simp only [Act.put, ap, aq, ar])
 go_loopg [1] k (fun kq v1 w' => ∃ (bO : Int), v1 = .int .i64 bO ∧ Aside0 (bP.l0 kq a0 bO a1 = some (r1, r2)) ∧ Aside0 (kq ≤ k) ∧ Drawn0 w w')
 case atStart => exact ⟨(wrap64 (a1 + 1)), Z7, H', ⟨Nat.le_refl _⟩, Z10⟩
 case round =>
  clear H'
  obtain ⟨bO, rfl, HA, HK1, ⟨m1, rfl⟩⟩ := hrel
  cases gk with
  | zero => exact absurd HA.out (by simp [bP.l0])
  | succ k1 =>
   have H := HA.out
   clear HA
   simp only [bP.l0] at H
   revert H; refine sId1_d0 (fun dY H => ?_) fun dY H => ?_
   ·revert H; refine sNd1 fun gY H => ?_
    revert H; refine sId1_d0 (fun eI H => ?_) fun eI H => ?_
    ·revert H; refine sNt1d1 fun iH kM H => ?_
     revert H; refine sNt1d1 fun iL kT H => ?_
     revert H; refine sNt1d1 fun mJ Aa H => ?_
     as_aux_lemma =>
      simp only [am, an] at H
      obtain ⟨rfl, rfl⟩ := H
      have p5 := ag (ac Z6 : 0 ≤ (bO : Int))
      have q5 := ag (ac Z6 : bO < (a0.size : Int))
      have hx5 := bt_at a0 bO
      go_wp2
      repeat (go_quiet (fail); try go_wp2)
      go_ret2
      exact ⟨Z7, Z10⟩
    revert H; refine sIe1n0_e0n1 (fun mB qK H => ?_) fun mB qK H => ?_
    ·revert H; refine sNt1d1 fun kU xC H => ?_
     revert H; refine sNt1d1 fun nD xG H => ?_
     revert H; refine sNt1d1 fun fY kD H => ?_
     as_aux_lemma =>
      simp only [am, an] at H
      obtain ⟨rfl, rfl⟩ := H
      have p5 := ag (ac Z6 : 0 ≤ (bO : Int))
      have q5 := ag (ac Z6 : bO < (a0.size : Int))
      have hx5 := bt_at a0 bO
      have p10 := ag (ac Z6 : 0 ≤ (bO : Int))
      have q10 := ag (ac Z6 : bO < (a0.size : Int))
      have hx10 := bt_at a0 bO
      go_wp2
      repeat (go_quiet (fail); try go_wp2)
      go_ret2
      exact ⟨Z7, Z10⟩
    revert H; refine sIe1n0_e0n1 (fun iP xH H => ?_) fun iP xH H => ?_
    ·revert H; refine sNt1d1 fun sC aiU H => ?_
     revert H; refine sNt1d1 fun xD aiV H => ?_
     revert H; refine sNt1d1 fun sE aiW H => ?_
     as_aux_lemma =>
      simp only [am, an] at H
      obtain ⟨rfl, rfl⟩ := H
      have p5 := ag (ac Z6 : 0 ≤ (bO : Int))
      have q5 := ag (ac Z6 : bO < (a0.size : Int))
      have hx5 := bt_at a0 bO
      have p10 := ag (ac Z6 : 0 ≤ (bO : Int))
      have q10 := ag (ac Z6 : bO < (a0.size : Int))
      have hx10 := bt_at a0 bO
      have p15 := ag (ac Z6 : 0 ≤ (bO : Int))
      have q15 := ag (ac Z6 : bO < (a0.size : Int))
      have hx15 := bt_at a0 bO
      go_wp2
      repeat (go_quiet (fail); try go_wp2)
      go_ret2
      exact ⟨Z7, Z10⟩
    revert H; refine sIe1n0_e0n1 (fun sM sN H => ?_) fun sM sN H => ?_
    ·revert H; refine sNt1d1 fun jH Es H => ?_
     revert H; refine sNt1d1 fun mA Jp H => ?_
     revert H; refine sNt1d1 fun oG Jq H => ?_
     as_aux_lemma =>
      simp only [am, an] at H
      obtain ⟨rfl, rfl⟩ := H
      have p5 := ag (ac Z6 : 0 ≤ (bO : Int))
      have q5 := ag (ac Z6 : bO < (a0.size : Int))
      have hx5 := bt_at a0 bO
      have p10 := ag (ac Z6 : 0 ≤ (bO : Int))
      have q10 := ag (ac Z6 : bO < (a0.size : Int))
      have hx10 := bt_at a0 bO
      have p15 := ag (ac Z6 : 0 ≤ (bO : Int))
      have q15 := ag (ac Z6 : bO < (a0.size : Int))
      have hx15 := bt_at a0 bO
      have p20 := ag (ac Z6 : 0 ≤ (bO : Int))
      have q20 := ag (ac Z6 : bO < (a0.size : Int))
      have hx20 := bt_at a0 bO
      go_wp2
      repeat (go_quiet (fail); try go_wp2)
      go_ret2
      exact ⟨Z7, Z10⟩
    as_aux_lemma =>
     have H' := ab H
     clear H
     have p5 := ag (ac Z6 : 0 ≤ (bO : Int))
     have q5 := ag (ac Z6 : bO < (a0.size : Int))
     have hx5 := bt_at a0 bO
     have p10 := ag (ac Z6 : 0 ≤ (bO : Int))
     have q10 := ag (ac Z6 : bO < (a0.size : Int))
     have hx10 := bt_at a0 bO
     have p15 := ag (ac Z6 : 0 ≤ (bO : Int))
     have q15 := ag (ac Z6 : bO < (a0.size : Int))
     have hx15 := bt_at a0 bO
     have p20 := ag (ac Z6 : 0 ≤ (bO : Int))
     have q20 := ag (ac Z6 : bO < (a0.size : Int))
     have hx20 := bt_at a0 bO
     go_wp2
     repeat (go_quiet (fail); try go_wp2)
     go_roundg k1
     case measure => have := HK1.out; omega
     case rel => exact ⟨(wrap64 (bO + 1)), Z7, H', ⟨by have := HK1.out; omega⟩, Z10⟩
   revert H; refine sNt1d1 fun kB qM H => ?_
   revert H; refine sNt1d1 fun mC xI H => ?_
   as_aux_lemma =>
    simp only [am, an] at H
    obtain ⟨rfl, rfl⟩ := H
    go_wp2
    repeat (go_quiet (fail); try go_wp2)
    go_ret2
    exact ⟨Z7, Z10⟩
end
end Go.Proofs.YtkjnahgicfmicaaGreatDoor.Sp

import Derived.Test.YtkjnahgicfmicaaGreatDoorZip
import Derived.Test.YtkjnahgicfmicaaGreatDoorQa
import Derived.Test.YtkjnahgicfmicaaGreatDoorQf
namespace Go.Proofs.YtkjnahgicfmicaaGreatDoor.Sp
section
set_option maxHeartbeats 8000000
set_option maxRecDepth 100000
open Go.RowKit Go.PW Go.PL Go.PM
attribute [local go_sem] run_store_float max2_int min2_int max_two min_two max_three min_three max_four min_four
set_option linter.unusedVariables false
set_option linter.unusedSimpArgs false
mutual
def aH.l0 : Nat → av → Int → Int → Option (Int × av × Bool × Bool)
 | 0, _, _, _ => none
 | k + 1, x0, x1, x8 => if x1 < (x0.size : Int) then (if 0 ≤ x1 then (if (bt x0 x1) > 92 then (aH.l0 k x0 (wrap64 (x1 + 1)) x8) else (if (bt x0 x1) = 34 then (if 0 ≤ (wrap64 (x8 - 1)) then (if (wrap64 (x8 - 1)) ≤ (wrap64 (x1 + 1)) then (if (wrap64 (x1 + 1)) ≤ (x0.size : Int) then (some (wrap64 (x1 + 1), x0.extract ((wrap64 (x8 - 1)) : Int).toNat ((wrap64 (x1 + 1)) : Int).toNat, false, true)) else (none)) else (none)) else (none)) else (if (bt x0 x1) = 92 then (aH.l1 k x0 (wrap64 (x1 + 1)) x8) else (aH.l0 k x0 (wrap64 (x1 + 1)) x8)))) else (none)) else (if 0 ≤ (wrap64 (x8 - 1)) then (if (wrap64 (x8 - 1)) ≤ (x0.size : Int) then (some (x1, x0.extract ((wrap64 (x8 - 1)) : Int).toNat x0.size, false, false)) else (none)) else (none))
def aH.l1 : Nat → av → Int → Int → Option (Int × av × Bool × Bool)
 | 0, _, _, _ => none
 | k + 1, x0, x1, x8 => if x1 < (x0.size : Int) then (if 0 ≤ x1 then (if (bt x0 x1) > 92 then (aH.l1 k x0 (wrap64 (x1 + 1)) x8) else (if (bt x0 x1) = 34 then (if 0 ≤ (wrap64 (x1 - 1)) then (if (wrap64 (x1 - 1)) < (x0.size : Int) then (if (bt x0 (wrap64 (x1 - 1))) = 92 then (aH.l2 k x0 x1 x8 0 (wrap64 (x1 - 2))) else (if 0 ≤ (wrap64 (x8 - 1)) then (if (wrap64 (x8 - 1)) ≤ (wrap64 (x1 + 1)) then (if (wrap64 (x1 + 1)) ≤ (x0.size : Int) then (some (wrap64 (x1 + 1), x0.extract ((wrap64 (x8 - 1)) : Int).toNat ((wrap64 (x1 + 1)) : Int).toNat, true, true)) else (none)) else (none)) else (none))) else (none)) else (none)) else (aH.l1 k x0 (wrap64 (x1 + 1)) x8))) else (none)) else (if 0 ≤ (wrap64 (x8 - 1)) then (if (wrap64 (x8 - 1)) ≤ (x0.size : Int) then (some (x1, x0.extract ((wrap64 (x8 - 1)) : Int).toNat x0.size, false, false)) else (none)) else (none))
def aH.l2 : Nat → av → Int → Int → Int → Int → Option (Int × av × Bool × Bool)
 | 0, _, _, _, _, _ => none
 | k + 1, x0, x1, x8, x9, x10 => if x10 > 0 then (if 0 ≤ x10 then (if x10 < (x0.size : Int) then (if (bt x0 x10) = 92 then (aH.l2 k x0 x1 x8 (wrap64 (x9 + 1)) (wrap64 (x10 - 1))) else (if (Int.tmod x9 2) = 0 then (aH.l1 k x0 (wrap64 (x1 + 1)) x8) else (if 0 ≤ (wrap64 (x8 - 1)) then (if (wrap64 (x8 - 1)) ≤ (wrap64 (x1 + 1)) then (if (wrap64 (x1 + 1)) ≤ (x0.size : Int) then (some (wrap64 (x1 + 1), x0.extract ((wrap64 (x8 - 1)) : Int).toNat ((wrap64 (x1 + 1)) : Int).toNat, true, true)) else (none)) else (none)) else (none)))) else (none)) else (none)) else (if (Int.tmod x9 2) = 0 then (aH.l1 k x0 (wrap64 (x1 + 1)) x8) else (if 0 ≤ (wrap64 (x8 - 1)) then (if (wrap64 (x8 - 1)) ≤ (wrap64 (x1 + 1)) then (if (wrap64 (x1 + 1)) ≤ (x0.size : Int) then (some (wrap64 (x1 + 1), x0.extract ((wrap64 (x8 - 1)) : Int).toNat ((wrap64 (x1 + 1)) : Int).toNat, true, true)) else (none)) else (none)) else (none)))
end
def aH.f (k : Nat) (a0 : av) (a1 : Int) : Option (Int × av × Bool × Bool) := aH.l0 k a0 a1 a1
theorem aH.mono_l : ∀ k, (∀ y0 y1 y2, LeO (aH.l0 k y0 y1 y2) (aH.l0 (k + 1) y0 y1 y2)) ∧ (∀ y0 y1 y2, LeO (aH.l1 k y0 y1 y2) (aH.l1 (k + 1) y0 y1 y2)) ∧ (∀ y0 y1 y2 y3 y4, LeO (aH.l2 k y0 y1 y2 y3 y4) (aH.l2 (k + 1) y0 y1 y2 y3 y4))
 | 0 => ⟨fun _ _ _ r h => by simp [aH.l0] at h, fun _ _ _ r h => by simp [aH.l1] at h, fun _ _ _ _ _ r h => by simp [aH.l2] at h⟩
 | k + 1 => by
  obtain ⟨ih0, ih1, ih2⟩ := aH.mono_l k
  refine ⟨?_, ?_, ?_⟩
  ·intro y0 y1 y2
   unfold aH.l0
   exact zM
  ·intro y0 y1 y2
   unfold aH.l1
   exact zM
  ·intro y0 y1 y2 y3 y4
   unfold aH.l2
   exact zM
theorem aH.mono : ∀ a0 a1 k, LeO (aH.f k a0 a1) (aH.f (k + 1) a0 a1) := by
 intro a0 a1 k
 obtain ⟨ih0, ih1, ih2⟩ := aH.mono_l k
 unfold aH.f
 exact zM
instance aH.mi  {a0 a1 k} : LeI (aH.f k a0 a1) (aH.f (k + 1) a0 a1) := ⟨⟨aH.mono a0 a1 k⟩⟩
theorem aH.calls (k : Nat) (a0 : av) (a1 : Int) (r1 : Int) (r2 : av) (r3 : Bool) (r4 : Bool) (w : World) (h : aH.f k a0 a1 = some (r1, r2, r3, r4)) :
 Calls Tryz.prog 48 #[.string a0, .int .i64 a1] w fun e w' => e = .returned (.tuple #[.int .i64 r1, .string r2, .bool r3, .bool r4]) ∧ Drawn0 w w' := by
 have H : (aH.l0 k a0 a1 a1) = some (r1, r2, r3, r4) := h
 clear h
 have H' := ab H
 clear H
 go_enter Tryz.func48, Tryz.ntmps48
 go_wp2
 repeat (go_quiet (fail); try go_wp2)
 (try simp only [Act.put, ap, aq, ar])
 go_loopg [1] k (fun kq v1 w' => ∃ (bM : Int), v1 = .int .i64 bM ∧ Aside0 (aH.l0 kq a0 bM a1 = some (r1, r2, r3, r4)) ∧ Aside0 (kq ≤ k) ∧ Drawn0 w w')
 case atStart => exact ⟨(a1), Z7, H', ⟨Nat.le_refl _⟩, Z10⟩
 case round =>
  clear H'
  obtain ⟨bM, rfl, HA, HK1, ⟨m1, rfl⟩⟩ := hrel
  cases gk with
  | zero => exact absurd HA.out (by simp [aH.l0])
  | succ k1 =>
   have H := HA.out
   clear HA
   simp only [aH.l0] at H
   revert H; refine sId1_d0 (fun dX H => ?_) fun dX H => ?_
   ·revert H; refine sNd1 fun gT H => ?_
    revert H; refine sIk_k (fun c6 H => ?_) fun c6 H => ?_
    ·have eV : decide (92 < (bt a0 bM)) = true := ae c6
     clear c6
     as_aux_lemma =>
      have H' := ab H
      clear H
      have p5 := ag (ac Z6 : 0 ≤ (bM : Int))
      have q5 := ag (ac Z6 : bM < (a0.size : Int))
      have hx5 := bt_at a0 bM
      go_wp2
      repeat (go_quiet (fail); try go_wp2)
      go_roundg k1
      case measure => have := HK1.out; omega
      case rel => exact ⟨(wrap64 (bM + 1)), Z7, H', ⟨by have := HK1.out; omega⟩, Z10⟩
    have eV : decide (92 < (bt a0 bM)) = false := af c6
    clear c6
    revert H; refine sIe1n0_e0n1k (fun hY kZ H => ?_) fun hY kZ c8 H => ?_
    ·obtain ⟨sQ, nH⟩ : ∃ j_ : Int, (wrap64 (a1 - 1)) = j_ := ⟨_, rfl⟩
     replace H : (if 0 ≤ (sQ) then (if (sQ) ≤ (wrap64 (bM + 1)) then (if (wrap64 (bM + 1)) ≤ (a0.size : Int) then (some (wrap64 (bM + 1), a0.extract ((sQ) : Int).toNat ((wrap64 (bM + 1)) : Int).toNat, false, true)) else (none)) else (none)) else (none)) = some (r1, r2, r3, r4) := by first | (rw [nH] at H; exact H) | (simp only [nH] at H ⊢; exact H)
     have hji9w : (IntKind.i64.wrap (a1 - 1)) = sQ := (i64_w _).trans nH
     revert H; refine sNt1d1 fun kS lO H => ?_
     revert H; refine sNt1d1 fun kT oP H => ?_
     revert H; refine sNt1d1 fun kA tN H => ?_
     as_aux_lemma =>
      simp only [am, an] at H
      obtain ⟨rfl, rfl, rfl, rfl⟩ := H
      have p5 := ag (ac Z6 : 0 ≤ (bM : Int))
      have q5 := ag (ac Z6 : bM < (a0.size : Int))
      have hx5 := bt_at a0 bM
      have p7 := ag (ac Z6 : 0 ≤ (bM : Int))
      have q7 := ag (ac Z6 : bM < (a0.size : Int))
      have hx7 := bt_at a0 bM
      go_wp2
      repeat (go_quiet (fail); try go_wp2)
      refine bodyPost_ret (results_list (rs := [.tmp 4, .tmp 5, .tmp 6, .tmp 7]) rfl (by simp) (.tmp (.tmp (.tmp (.tmp .nil))))) rfl ?_
      exact ⟨by first | rfl | (simp; done) | (simp only [← nH] <;> (first | rfl | simp)) | (simp [*]; done), Z10⟩
    revert H; refine sIe1n0_e0n1 (fun fK jH H => ?_) fun fK jH H => ?_
    ·have H' := ab H
     clear H
     have p5 := ag (ac Z6 : 0 ≤ (bM : Int))
     have q5 := ag (ac Z6 : bM < (a0.size : Int))
     have hx5 := bt_at a0 bM
     have p7 := ag (ac Z6 : 0 ≤ (bM : Int))
     have q7 := ag (ac Z6 : bM < (a0.size : Int))
     have hx7 := bt_at a0 bM
     have p13 := ag (ac Z6 : 0 ≤ (bM : Int))
     have q13 := ag (ac Z6 : bM < (a0.size : Int))
     have hx13 := bt_at a0 bM
     go_wp2
     repeat (go_quiet (fail); try go_wp2)
     (try simp only [Act.put, ap, aq, ar])
     go_loopg [1] k1 (fun kq v1 w' => ∃ (dC : Int), v1 = .int .i64 dC ∧ Aside0 (aH.l1 kq a0 dC a1 = some (r1, r2, r3, r4)) ∧ Aside0 (kq ≤ k1) ∧ Drawn0 w w')
     case atStart => exact ⟨(wrap64 (bM + 1)), Z7, H', ⟨Nat.le_refl _⟩, Z10⟩
     case round =>
      clear H'
      try clear dX gT p5 q5 hx5 c6 eV p7 q7 hx7 c8 hY kZ p13 q13 hx13 fK jH
      obtain ⟨dC, rfl, HA, HK2, ⟨m2, rfl⟩⟩ := hrel
      cases gk with
      | zero => exact absurd HA.out (by simp [aH.l1])
      | succ k2 =>
       have H := HA.out
       clear HA
       simp only [aH.l1] at H
       revert H; refine sId1_d0 (fun jG H => ?_) fun jG H => ?_
       ·revert H; refine sNd1 fun gY H => ?_
        revert H; refine sIk_k (fun c18 H => ?_) fun c18 H => ?_
        ·have tO : decide (92 < (bt a0 dC)) = true := ae c18
         clear c18
         as_aux_lemma =>
          have H' := ab H
          clear H
          have p17 := ag (ac Z6 : 0 ≤ (dC : Int))
          have q17 := ag (ac Z6 : dC < (a0.size : Int))
          have hx17 := bt_at a0 dC
          go_wp2
          repeat (go_quiet (fail); try go_wp2)
          go_roundg k2
          case measure => have := HK1.out; have := HK2.out; omega
          case rel => exact ⟨(wrap64 (dC + 1)), Z7, H', ⟨by have := HK1.out; have := HK2.out; omega⟩, Z10⟩
        have tO : decide (92 < (bt a0 dC)) = false := af c18
        clear c18
        revert H; refine sIe1n0_e0n1 (fun mR oQ H => ?_) fun mR oQ H => ?_
        ·obtain ⟨mF, mS⟩ : ∃ j_ : Int, (wrap64 (dC - 1)) = j_ := ⟨_, rfl⟩
         replace H : (if 0 ≤ (mF) then (if (mF) < (a0.size : Int) then (if (bt a0 (mF)) = 92 then (aH.l2 k2 a0 dC a1 0 (wrap64 (dC - 2))) else (if 0 ≤ (wrap64 (a1 - 1)) then (if (wrap64 (a1 - 1)) ≤ (wrap64 (dC + 1)) then (if (wrap64 (dC + 1)) ≤ (a0.size : Int) then (some (wrap64 (dC + 1), a0.extract ((wrap64 (a1 - 1)) : Int).toNat ((wrap64 (dC + 1)) : Int).toNat, true, true)) else (none)) else (none)) else (none))) else (none)) else (none)) = some (r1, r2, r3, r4) := by first | (rw [mS] at H; exact H) | (simp only [mS] at H ⊢; exact H)
         have hji21w : (IntKind.i64.wrap (dC - 1)) = mF := (i64_w _).trans mS
         revert H; refine sNd1 fun kR H => ?_
         revert H; refine sNd1 fun lN H => ?_
         revert H; refine sIe1n0_e0n1 (fun kB qS H => ?_) fun kB qS H => ?_
         ·have H' := ab H
          clear H
          have p17 := ag (ac Z6 : 0 ≤ (dC : Int))
          have q17 := ag (ac Z6 : dC < (a0.size : Int))
          have hx17 := bt_at a0 dC
          have p19 := ag (ac Z6 : 0 ≤ (dC : Int))
          have q19 := ag (ac Z6 : dC < (a0.size : Int))
          have hx19 := bt_at a0 dC
          have p24 := ag (ac Z6 : 0 ≤ ((mF) : Int))
          have q24 := ag (ac Z6 : (mF) < (a0.size : Int))
          have hx24 := bt_at a0 (mF)
          go_wp2
          repeat (go_quiet (fail); try go_wp2)
          (try simp only [Act.put, ap, aq, ar])
          go_loopg [9, 10] k2 (fun kq v9 v10 w' => ∃ (wA : Int) (gQ : Int), v9 = .int .i64 wA ∧ v10 = .int .i64 gQ ∧ Aside0 (aH.l2 kq a0 dC a1 wA gQ = some (r1, r2, r3, r4)) ∧ Aside0 (kq ≤ k2) ∧ Drawn0 w w')
          case atStart => exact ⟨(0), (wrap64 (dC - 2)), Z7, Z7, H', ⟨Nat.le_refl _⟩, Z10⟩
          case round =>
           clear H'
           try clear jG gY p17 q17 hx17 c18 tO p19 q19 hx19 mR oQ kR lN p24 q24 hx24 kB qS
           obtain ⟨wA, gQ, rfl, rfl, HA, HK3, ⟨m3, rfl⟩⟩ := hrel
           cases gk with
           | zero => exact absurd HA.out (by simp [aH.l2])
           | succ k3 =>
            have H := HA.out
            clear HA
            simp only [aH.l2] at H
            revert H; refine sIk_k (fun c26 H => ?_) fun c26 H => ?_
            ·have kU : decide (0 < gQ) = true := ae c26
             clear c26
             revert H; refine sNd1 fun Au H => ?_
             revert H; refine sNd1 fun oR H => ?_
             revert H; refine sIe1n0_e0n1 (fun Ar Eu H => ?_) fun Ar Eu H => ?_
             ·as_aux_lemma =>
               have H' := ab H
               clear H
               have p29 := ag (ac Z6 : 0 ≤ (gQ : Int))
               have q29 := ag (ac Z6 : gQ < (a0.size : Int))
               have hx29 := bt_at a0 gQ
               go_wp2
               repeat (go_quiet (fail); try go_wp2)
               go_roundg k3
               case measure => have := HK1.out; have := HK2.out; have := HK3.out; omega
               case rel => exact ⟨(wrap64 (wA + 1)), (wrap64 (gQ - 1)), Z7, Z7, H', ⟨Z55⟩, Z10⟩
             revert H; refine sIe1n0_e0n1 (fun jI mT H => ?_) fun jI mT H => ?_
             ·as_aux_lemma =>
               have H' := ab H
               clear H
               have p29 := ag (ac Z6 : 0 ≤ (gQ : Int))
               have q29 := ag (ac Z6 : gQ < (a0.size : Int))
               have hx29 := bt_at a0 gQ
               go_wp2
               repeat (go_quiet (fail); try go_wp2)
               go_roundg k3
               case measure => have := HK1.out; have := HK2.out; have := HK3.out; omega
               case rel => exact ⟨(wrap64 (dC + 1)), Z7, H', ⟨Z55⟩, Z10⟩
             obtain ⟨wB, qT⟩ : ∃ j_ : Int, (wrap64 (a1 - 1)) = j_ := ⟨_, rfl⟩
             replace H : (if 0 ≤ (wB) then (if (wB) ≤ (wrap64 (dC + 1)) then (if (wrap64 (dC + 1)) ≤ (a0.size : Int) then (some (wrap64 (dC + 1), a0.extract ((wB) : Int).toNat ((wrap64 (dC + 1)) : Int).toNat, true, true)) else (none)) else (none)) else (none)) = some (r1, r2, r3, r4) := by first | (rw [qT] at H; exact H) | (simp only [qT] at H ⊢; exact H)
             have hji32w : (IntKind.i64.wrap (a1 - 1)) = wB := (i64_w _).trans qT
             revert H; refine sNt1d1 fun tP acS H => ?_
             revert H; refine sNt1d1 fun Av Ew H => ?_
             revert H; refine sNt1d1 fun tQ tR H => ?_
             as_aux_lemma =>
              simp only [am, an] at H
              obtain ⟨rfl, rfl, rfl, rfl⟩ := H
              have p29 := ag (ac Z6 : 0 ≤ (gQ : Int))
              have q29 := ag (ac Z6 : gQ < (a0.size : Int))
              have hx29 := bt_at a0 gQ
              go_wp2
              repeat (go_quiet (fail); try go_wp2)
              refine bodyPost_ret (results_list (rs := [.tmp 4, .tmp 5, .tmp 6, .tmp 7]) rfl (by simp) (.tmp (.tmp (.tmp (.tmp .nil))))) rfl ?_
              exact ⟨by first | rfl | (simp; done) | (simp only [← mS, ← qT] <;> (first | rfl | simp)) | (simp [*]; done), Z10⟩
            have kU : decide (0 < gQ) = false := af c26
            clear c26
            revert H; refine sIe1n0_e0n1 (fun lP lQ H => ?_) fun lP lQ H => ?_
            ·as_aux_lemma =>
              have H' := ab H
              clear H
              go_wp2
              repeat (go_quiet (fail); try go_wp2)
              go_roundg k3
              case measure => have := HK1.out; have := HK2.out; have := HK3.out; omega
              case rel => exact ⟨(wrap64 (dC + 1)), Z7, H', ⟨Z55⟩, Z10⟩
            obtain ⟨wC, qU⟩ : ∃ j_ : Int, (wrap64 (a1 - 1)) = j_ := ⟨_, rfl⟩
            replace H : (if 0 ≤ (wC) then (if (wC) ≤ (wrap64 (dC + 1)) then (if (wrap64 (dC + 1)) ≤ (a0.size : Int) then (some (wrap64 (dC + 1), a0.extract ((wC) : Int).toNat ((wrap64 (dC + 1)) : Int).toNat, true, true)) else (none)) else (none)) else (none)) = some (r1, r2, r3, r4) := by first | (rw [qU] at H; exact H) | (simp only [qU] at H ⊢; exact H)
            have hji37w : (IntKind.i64.wrap (a1 - 1)) = wC := (i64_w _).trans qU
            revert H; refine sNt1d1 fun acT acU H => ?_
            revert H; refine sNt1d1 fun acV acW H => ?_
            revert H; refine sNt1d1 fun acX acY H => ?_
            as_aux_lemma =>
             simp only [am, an] at H
             obtain ⟨rfl, rfl, rfl, rfl⟩ := H
             go_wp2
             repeat (go_quiet (fail); try go_wp2)
             refine bodyPost_ret (results_list (rs := [.tmp 4, .tmp 5, .tmp 6, .tmp 7]) rfl (by simp) (.tmp (.tmp (.tmp (.tmp .nil))))) rfl ?_
             exact ⟨by first | rfl | (simp; done) | (simp only [← mS, ← qU] <;> (first | rfl | simp)) | (simp [*]; done), Z10⟩
         obtain ⟨wD, qV⟩ : ∃ j_ : Int, (wrap64 (a1 - 1)) = j_ := ⟨_, rfl⟩
         replace H : (if 0 ≤ (wD) then (if (wD) ≤ (wrap64 (dC + 1)) then (if (wrap64 (dC + 1)) ≤ (a0.size : Int) then (some (wrap64 (dC + 1), a0.extract ((wD) : Int).toNat ((wrap64 (dC + 1)) : Int).toNat, true, true)) else (none)) else (none)) else (none)) = some (r1, r2, r3, r4) := by first | (rw [qV] at H; exact H) | (simp only [qV] at H ⊢; exact H)
         have hji41w : (IntKind.i64.wrap (a1 - 1)) = wD := (i64_w _).trans qV
         revert H; refine sNt1d1 fun acZ adA H => ?_
         revert H; refine sNt1d1 fun Ex Ey H => ?_
         revert H; refine sNt1d1 fun Ez Fa H => ?_
         as_aux_lemma =>
          simp only [am, an] at H
          obtain ⟨rfl, rfl, rfl, rfl⟩ := H
          have p17 := ag (ac Z6 : 0 ≤ (dC : Int))
          have q17 := ag (ac Z6 : dC < (a0.size : Int))
          have hx17 := bt_at a0 dC
          have p19 := ag (ac Z6 : 0 ≤ (dC : Int))
          have q19 := ag (ac Z6 : dC < (a0.size : Int))
          have hx19 := bt_at a0 dC
          have p24 := ag (ac Z6 : 0 ≤ ((mF) : Int))
          have q24 := ag (ac Z6 : (mF) < (a0.size : Int))
          have hx24 := bt_at a0 (mF)
          go_wp2
          repeat (go_quiet (fail); try go_wp2)
          refine bodyPost_ret (results_list (rs := [.tmp 4, .tmp 5, .tmp 6, .tmp 7]) rfl (by simp) (.tmp (.tmp (.tmp (.tmp .nil))))) rfl ?_
          exact ⟨by first | rfl | (simp; done) | (simp only [← mS, ← qV] <;> (first | rfl | simp)) | (simp [*]; done), Z10⟩
        as_aux_lemma =>
         have H' := ab H
         clear H
         have p17 := ag (ac Z6 : 0 ≤ (dC : Int))
         have q17 := ag (ac Z6 : dC < (a0.size : Int))
         have hx17 := bt_at a0 dC
         have p19 := ag (ac Z6 : 0 ≤ (dC : Int))
         have q19 := ag (ac Z6 : dC < (a0.size : Int))
         have hx19 := bt_at a0 dC
         go_wp2
         repeat (go_quiet (fail); try go_wp2)
         go_roundg k2
         case measure => have := HK1.out; have := HK2.out; omega
         case rel => exact ⟨(wrap64 (dC + 1)), Z7, H', ⟨by have := HK1.out; have := HK2.out; omega⟩, Z10⟩
       obtain ⟨wE, qW⟩ : ∃ j_ : Int, (wrap64 (a1 - 1)) = j_ := ⟨_, rfl⟩
       replace H : (if 0 ≤ (wE) then (if (wE) ≤ (a0.size : Int) then (some (dC, a0.extract ((wE) : Int).toNat a0.size, false, false)) else (none)) else (none)) = some (r1, r2, r3, r4) := by first | (rw [qW] at H; exact H) | (simp only [qW] at H ⊢; exact H)
       have hji45w : (IntKind.i64.wrap (a1 - 1)) = wE := (i64_w _).trans qW
       revert H; refine sNt1d1 fun Fb Fc H => ?_
       revert H; refine sNt1d1 fun adB adC H => ?_
       as_aux_lemma =>
        simp only [am, an] at H
        obtain ⟨rfl, rfl, rfl, rfl⟩ := H
        go_wp2
        repeat (go_quiet (fail); try go_wp2)
        refine bodyPost_ret (results_list (rs := [.tmp 4, .tmp 5, .tmp 6, .tmp 7]) rfl (by simp) (.tmp (.tmp (.tmp (.tmp .nil))))) rfl ?_
        exact ⟨by first | rfl | (simp; done) | (simp only [← qW] <;> (first | rfl | simp)) | (simp [*]; done), Z10⟩
    as_aux_lemma =>
     have H' := ab H
     clear H
     have p5 := ag (ac Z6 : 0 ≤ (bM : Int))
     have q5 := ag (ac Z6 : bM < (a0.size : Int))
     have hx5 := bt_at a0 bM
     have p7 := ag (ac Z6 : 0 ≤ (bM : Int))
     have q7 := ag (ac Z6 : bM < (a0.size : Int))
     have hx7 := bt_at a0 bM
     have p13 := ag (ac Z6 : 0 ≤ (bM : Int))
     have q13 := ag (ac Z6 : bM < (a0.size : Int))
     have hx13 := bt_at a0 bM
     go_wp2
     repeat (go_quiet (fail); try go_wp2)
     go_roundg k1
     case measure => have := HK1.out; omega
     case rel => exact ⟨(wrap64 (bM + 1)), Z7, H', ⟨by have := HK1.out; omega⟩, Z10⟩
   obtain ⟨wF, qX⟩ : ∃ j_ : Int, (wrap64 (a1 - 1)) = j_ := ⟨_, rfl⟩
   replace H : (if 0 ≤ (wF) then (if (wF) ≤ (a0.size : Int) then (some (bM, a0.extract ((wF) : Int).toNat a0.size, false, false)) else (none)) else (none)) = some (r1, r2, r3, r4) := by first | (rw [qX] at H; exact H) | (simp only [qX] at H ⊢; exact H)
   have hji48w : (IntKind.i64.wrap (a1 - 1)) = wF := (i64_w _).trans qX
   revert H; refine sNt1d1 fun adD adE H => ?_
   revert H; refine sNt1d1 fun Fd Fe H => ?_
   as_aux_lemma =>
    simp only [am, an] at H
    obtain ⟨rfl, rfl, rfl, rfl⟩ := H
    go_wp2
    repeat (go_quiet (fail); try go_wp2)
    refine bodyPost_ret (results_list (rs := [.tmp 4, .tmp 5, .tmp 6, .tmp 7]) rfl (by simp) (.tmp (.tmp (.tmp (.tmp .nil))))) rfl ?_
    exact ⟨by first | rfl | (simp; done) | (simp only [← qX] <;> (first | rfl | simp)) | (simp [*]; done), Z10⟩
structure bR where
 f : Nat → av → Int → Option (Int × av)
 mono : ∀ a0 a1 k, LeO (f k a0 a1) (f (k + 1) a0 a1)
 calls : ∀ (k : Nat) (a0 : av) (a1 : Int) (r1 : Int) (r2 : av) (w : World) (h : f k a0 a1 = some (r1, r2)) (hW : Wok w),
  Calls Tryz.prog 64 #[.string a0, .int .i64 a1] w fun e w' => e = .returned (.tuple #[.int .i64 r1, .string r2]) ∧ Drawn0 w w'
instance bR.mi (V : bR) {a0 a1 k} : LeI (V.f k a0 a1) (V.f (k + 1) a0 a1) := ⟨⟨V.mono a0 a1 k⟩⟩
def cE.f (k : Nat) (a0 : av) (a1 : Int) : Option (Int × av) := none
theorem cE.mono : ∀ a0 a1 k, LeO (cE.f k a0 a1) (cE.f (k + 1) a0 a1) := by
 intro a0 a1 k
 unfold cE.f
 exact zM
instance cE.mi  {a0 a1 k} : LeI (cE.f k a0 a1) (cE.f (k + 1) a0 a1) := ⟨⟨cE.mono a0 a1 k⟩⟩
theorem cE.calls (k : Nat) (a0 : av) (a1 : Int) (r1 : Int) (r2 : av) (w : World) (h : cE.f k a0 a1 = some (r1, r2)) (hW : Wok w) :
 Calls Tryz.prog 64 #[.string a0, .int .i64 a1] w fun e w' => e = .returned (.tuple #[.int .i64 r1, .string r2]) ∧ Drawn0 w w' := by
 have HWK := ab hW
 clear hW
 have H : (none) = some (r1, r2) := h
 clear h
 exact absurd H (by simp)
structure nI where
 pI : bR
end
section
set_option maxHeartbeats 8000000
set_option maxRecDepth 100000
open Go.RowKit Go.PW Go.PL Go.PM
attribute [local go_sem] run_store_float max2_int min2_int max_two min_two max_three min_three max_four min_four
set_option linter.unusedVariables false
set_option linter.unusedSimpArgs false
def bB.l0 : Nat → av → Int → Int → Option (Int × av)
 | 0, _, _, _ => none
 | k + 1, x0, x1, x6 => if x1 < (x0.size : Int) then (if 0 ≤ x1 then (if (bt x0 x1) < 97 then (if 0 ≤ x6 then (if x6 ≤ x1 then (if x1 ≤ (x0.size : Int) then (some (x1, x0.extract (x6 : Int).toNat (x1 : Int).toNat)) else (none)) else (none)) else (none)) else (if (bt x0 x1) > 122 then (if 0 ≤ x6 then (if x6 ≤ x1 then (if x1 ≤ (x0.size : Int) then (some (x1, x0.extract (x6 : Int).toNat (x1 : Int).toNat)) else (none)) else (none)) else (none)) else (bB.l0 k x0 (wrap64 (x1 + 1)) x6))) else (none)) else (if 0 ≤ x6 then (if x6 ≤ (x0.size : Int) then (some (x1, x0.extract (x6 : Int).toNat x0.size)) else (none)) else (none))
def bB.f (k : Nat) (a0 : av) (a1 : Int) : Option (Int × av) := bB.l0 k a0 (wrap64 (a1 + 1)) a1
theorem bB.mono_l : ∀ k, (∀ y0 y1 y2, LeO (bB.l0 k y0 y1 y2) (bB.l0 (k + 1) y0 y1 y2))
 | 0 => fun _ _ _ r h => by simp [bB.l0] at h
 | k + 1 => by
  have ih0 := bB.mono_l k
  ·intro y0 y1 y2
   unfold bB.l0
   exact zM
theorem bB.mono : ∀ a0 a1 k, LeO (bB.f k a0 a1) (bB.f (k + 1) a0 a1) := by
 intro a0 a1 k
 have ih0 := bB.mono_l k
 unfold bB.f
 exact zM
instance bB.mi  {a0 a1 k} : LeI (bB.f k a0 a1) (bB.f (k + 1) a0 a1) := ⟨⟨bB.mono a0 a1 k⟩⟩
theorem bB.calls (k : Nat) (a0 : av) (a1 : Int) (r1 : Int) (r2 : av) (w : World) (h : bB.f k a0 a1 = some (r1, r2)) :
 Calls Tryz.prog 65 #[.string a0, .int .i64 a1] w fun e w' => e = .returned (.tuple #[.int .i64 r1, .string r2]) ∧ Drawn0 w w' := by
 have H : (bB.l0 k a0 (wrap64 (a1 + 1)) a1) = some (r1, r2) := h
 clear h
 have H' := ab H
 clear H
 go_enter Tryz.func65, Tryz.ntmps65
 go_wp2
 repeat (go_quiet (fail); try go_wp2)
 (try simp only [Act.put, ap, aq, ar])
 go_loopg [1] k (fun kq v1 w' => ∃ (bM : Int), v1 = .int .i64 bM ∧ Aside0 (bB.l0 kq a0 bM a1 = some (r1, r2)) ∧ Aside0 (kq ≤ k) ∧ Drawn0 w w')
 case atStart => exact ⟨(wrap64 (a1 + 1)), Z7, H', ⟨Nat.le_refl _⟩, Z10⟩
 case round =>
  clear H'
  obtain ⟨bM, rfl, HA, HK1, ⟨m1, rfl⟩⟩ := hrel
  cases gk with
  | zero => exact absurd HA.out (by simp [bB.l0])
  | succ k1 =>
   have H := HA.out
   clear HA
   simp only [bB.l0] at H
   revert H; refine sId1_d0 (fun dX H => ?_) fun dX H => ?_
   ·revert H; refine sNd1 fun gT H => ?_
    revert H; refine sId1_d0 (fun eV H => ?_) fun eV H => ?_
    ·revert H; refine sNt1d1 fun iZ nF H => ?_
     revert H; refine sNt1d1 fun hY kZ H => ?_
     revert H; refine sNt1d1 fun lB wG H => ?_
     as_aux_lemma =>
      simp only [am, an] at H
      obtain ⟨rfl, rfl⟩ := H
      have p5 := ag (ac Z6 : 0 ≤ (bM : Int))
      have q5 := ag (ac Z6 : bM < (a0.size : Int))
      have hx5 := bt_at a0 bM
      go_wp2
      repeat (go_quiet (fail); try go_wp2)
      go_ret2
      exact ⟨Z7, Z10⟩
    revert H; refine sIk_k (fun c11 H => ?_) fun c11 H => ?_
    ·have kT : decide (122 < (bt a0 bM)) = true := ae c11
     clear c11
     revert H; refine sNt1d1 fun kA tN H => ?_
     revert H; refine sNt1d1 fun lR tS H => ?_
     revert H; refine sNt1d1 fun fK jH H => ?_
     as_aux_lemma =>
      simp only [am, an] at H
      obtain ⟨rfl, rfl⟩ := H
      have p5 := ag (ac Z6 : 0 ≤ (bM : Int))
      have q5 := ag (ac Z6 : bM < (a0.size : Int))
      have hx5 := bt_at a0 bM
      have p10 := ag (ac Z6 : 0 ≤ (bM : Int))
      have q10 := ag (ac Z6 : bM < (a0.size : Int))
      have hx10 := bt_at a0 bM
      go_wp2
      repeat (go_quiet (fail); try go_wp2)
      go_ret2
      exact ⟨Z7, Z10⟩
    have kT : decide (122 < (bt a0 bM)) = false := af c11
    clear c11
    as_aux_lemma =>
     have H' := ab H
     clear H
     have p5 := ag (ac Z6 : 0 ≤ (bM : Int))
     have q5 := ag (ac Z6 : bM < (a0.size : Int))
     have hx5 := bt_at a0 bM
     have p10 := ag (ac Z6 : 0 ≤ (bM : Int))
     have q10 := ag (ac Z6 : bM < (a0.size : Int))
     have hx10 := bt_at a0 bM
     go_wp2
     repeat (go_quiet (fail); try go_wp2)
     go_roundg k1
     case measure => have := HK1.out; omega
     case rel => exact ⟨(wrap64 (bM + 1)), Z7, H', ⟨by have := HK1.out; omega⟩, Z10⟩
   revert H; refine sNt1d1 fun jG qY H => ?_
   revert H; refine sNt1d1 fun gY tT H => ?_
   as_aux_lemma =>
    simp only [am, an] at H
    obtain ⟨rfl, rfl⟩ := H
    go_wp2
    repeat (go_quiet (fail); try go_wp2)
    go_ret2
    exact ⟨Z7, Z10⟩
def bO.l0 : Nat → av → Int → Int → Option (Int × av)
 | 0, _, _, _ => none
 | k + 1, x0, x1, x6 => if x1 < (x0.size : Int) then (if 0 ≤ x1 then (if (bt x0 x1) ≤ 32 then (if 0 ≤ x6 then (if x6 ≤ x1 then (if x1 ≤ (x0.size : Int) then (some (x1, x0.extract (x6 : Int).toNat (x1 : Int).toNat)) else (none)) else (none)) else (none)) else (if (bt x0 x1) = 44 then (if 0 ≤ x6 then (if x6 ≤ x1 then (if x1 ≤ (x0.size : Int) then (some (x1, x0.extract (x6 : Int).toNat (x1 : Int).toNat)) else (none)) else (none)) else (none)) else (if (bt x0 x1) = 93 then (if 0 ≤ x6 then (if x6 ≤ x1 then (if x1 ≤ (x0.size : Int) then (some (x1, x0.extract (x6 : Int).toNat (x1 : Int).toNat)) else (none)) else (none)) else (none)) else (if (bt x0 x1) = 125 then (if 0 ≤ x6 then (if x6 ≤ x1 then (if x1 ≤ (x0.size : Int) then (some (x1, x0.extract (x6 : Int).toNat (x1 : Int).toNat)) else (none)) else (none)) else (none)) else (bO.l0 k x0 (wrap64 (x1 + 1)) x6))))) else (none)) else (if 0 ≤ x6 then (if x6 ≤ (x0.size : Int) then (some (x1, x0.extract (x6 : Int).toNat x0.size)) else (none)) else (none))
def bO.f (k : Nat) (a0 : av) (a1 : Int) : Option (Int × av) := bO.l0 k a0 (wrap64 (a1 + 1)) a1
theorem bO.calls (k : Nat) (a0 : av) (a1 : Int) (r1 : Int) (r2 : av) (w : World) (h : bO.f k a0 a1 = some (r1, r2)) :
 Calls Tryz.prog 66 #[.string a0, .int .i64 a1] w fun e w' => e = .returned (.tuple #[.int .i64 r1, .string r2]) ∧ Drawn0 w w' := by
 have H : (bO.l0 k a0 (wrap64 (a1 + 1)) a1) = some (r1, r2) := h
 clear h
 have H' := ab H
 clear H
 go_enter Tryz.func66, Tryz.ntmps66
 go_wp2
 repeat (go_quiet (fail); try go_wp2)
 (try simp only [Act.put, ap, aq, ar])
 go_loopg [1] k (fun kq v1 w' => ∃ (bM : Int), v1 = .int .i64 bM ∧ Aside0 (bO.l0 kq a0 bM a1 = some (r1, r2)) ∧ Aside0 (kq ≤ k) ∧ Drawn0 w w')
 case atStart => exact ⟨(wrap64 (a1 + 1)), Z7, H', ⟨Nat.le_refl _⟩, Z10⟩
 case round =>
  clear H'
  obtain ⟨bM, rfl, HA, HK1, ⟨m1, rfl⟩⟩ := hrel
  cases gk with
  | zero => exact absurd HA.out (by simp [bO.l0])
  | succ k1 =>
   have H := HA.out
   clear HA
   simp only [bO.l0] at H
   revert H; refine sId1_d0 (fun dX H => ?_) fun dX H => ?_
   ·revert H; refine sNd1 fun gT H => ?_
    revert H; refine sId1_d0 (fun eV H => ?_) fun eV H => ?_
    ·revert H; refine sNt1d1 fun iZ nF H => ?_
     revert H; refine sNt1d1 fun hY kZ H => ?_
     revert H; refine sNt1d1 fun lB wG H => ?_
     as_aux_lemma =>
      simp only [am, an] at H
      obtain ⟨rfl, rfl⟩ := H
      have p5 := ag (ac Z6 : 0 ≤ (bM : Int))
      have q5 := ag (ac Z6 : bM < (a0.size : Int))
      have hx5 := bt_at a0 bM
      go_wp2
      repeat (go_quiet (fail); try go_wp2)
      go_ret2
      exact ⟨Z7, Z10⟩
    revert H; refine sIe1n0_e0n1 (fun kT oP H => ?_) fun kT oP H => ?_
    ·revert H; refine sNt1d1 fun kA tN H => ?_
     revert H; refine sNt1d1 fun lR tS H => ?_
     revert H; refine sNt1d1 fun fK jH H => ?_
     as_aux_lemma =>
      simp only [am, an] at H
      obtain ⟨rfl, rfl⟩ := H
      have p5 := ag (ac Z6 : 0 ≤ (bM : Int))
      have q5 := ag (ac Z6 : bM < (a0.size : Int))
      have hx5 := bt_at a0 bM
      have p10 := ag (ac Z6 : 0 ≤ (bM : Int))
      have q10 := ag (ac Z6 : bM < (a0.size : Int))
      have hx10 := bt_at a0 bM
      go_wp2
      repeat (go_quiet (fail); try go_wp2)
      go_ret2
      exact ⟨Z7, Z10⟩
    revert H; refine sIe1n0_e0n1 (fun gY tT H => ?_) fun gY tT H => ?_
    ·revert H; refine sNt1d1 fun qP adF H => ?_
     revert H; refine sNt1d1 fun tO adG H => ?_
     revert H; refine sNt1d1 fun qR adH H => ?_
     as_aux_lemma =>
      simp only [am, an] at H
      obtain ⟨rfl, rfl⟩ := H
      have p5 := ag (ac Z6 : 0 ≤ (bM : Int))
      have q5 := ag (ac Z6 : bM < (a0.size : Int))
      have hx5 := bt_at a0 bM
      have p10 := ag (ac Z6 : 0 ≤ (bM : Int))
      have q10 := ag (ac Z6 : bM < (a0.size : Int))
      have hx10 := bt_at a0 bM
      have p15 := ag (ac Z6 : 0 ≤ (bM : Int))
      have q15 := ag (ac Z6 : bM < (a0.size : Int))
      have hx15 := bt_at a0 bM
      go_wp2
      repeat (go_quiet (fail); try go_wp2)
      go_ret2
      exact ⟨Z7, Z10⟩
    revert H; refine sIe1n0_e0n1 (fun qZ rA H => ?_) fun qZ rA H => ?_
    ·revert H; refine sNt1d1 fun kR Aw H => ?_
     revert H; refine sNt1d1 fun lN Ff H => ?_
     revert H; refine sNt1d1 fun oO Fg H => ?_
     as_aux_lemma =>
      simp only [am, an] at H
      obtain ⟨rfl, rfl⟩ := H
      have p5 := ag (ac Z6 : 0 ≤ (bM : Int))
      have q5 := ag (ac Z6 : bM < (a0.size : Int))
      have hx5 := bt_at a0 bM
      have p10 := ag (ac Z6 : 0 ≤ (bM : Int))
      have q10 := ag (ac Z6 : bM < (a0.size : Int))
      have hx10 := bt_at a0 bM
      have p15 := ag (ac Z6 : 0 ≤ (bM : Int))
      have q15 := ag (ac Z6 : bM < (a0.size : Int))
      have hx15 := bt_at a0 bM
      have p20 := ag (ac Z6 : 0 ≤ (bM : Int))
      have q20 := ag (ac Z6 : bM < (a0.size : Int))
      have hx20 := bt_at a0 bM
      go_wp2
      repeat (go_quiet (fail); try go_wp2)
      go_ret2
      exact ⟨Z7, Z10⟩
    as_aux_lemma =>
     have H' := ab H
     clear H
     have p5 := ag (ac Z6 : 0 ≤ (bM : Int))
     have q5 := ag (ac Z6 : bM < (a0.size : Int))
     have hx5 := bt_at a0 bM
     have p10 := ag (ac Z6 : 0 ≤ (bM : Int))
     have q10 := ag (ac Z6 : bM < (a0.size : Int))
     have hx10 := bt_at a0 bM
     have p15 := ag (ac Z6 : 0 ≤ (bM : Int))
     have q15 := ag (ac Z6 : bM < (a0.size : Int))
     have hx15 := bt_at a0 bM
     have p20 := ag (ac Z6 : 0 ≤ (bM : Int))
     have q20 := ag (ac Z6 : bM < (a0.size : Int))
     have hx20 := bt_at a0 bM
     go_wp2
     repeat (go_quiet (fail); try go_wp2)
     go_roundg k1
     case measure => have := HK1.out; omega
     case rel => exact ⟨(wrap64 (bM + 1)), Z7, H', ⟨by have := HK1.out; omega⟩, Z10⟩
   revert H; refine sNt1d1 fun kB qS H => ?_
   revert H; refine sNt1d1 fun kU tU H => ?_
   as_aux_lemma =>
    simp only [am, an] at H
    obtain ⟨rfl, rfl⟩ := H
    go_wp2
    repeat (go_quiet (fail); try go_wp2)
    go_ret2
    exact ⟨Z7, Z10⟩
end
end Go.Proofs.YtkjnahgicfmicaaGreatDoor.Sp

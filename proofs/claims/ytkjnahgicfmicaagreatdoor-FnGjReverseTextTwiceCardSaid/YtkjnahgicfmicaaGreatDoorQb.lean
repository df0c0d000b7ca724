import Derived.Test.YtkjnahgicfmicaaGreatDoorZip
import Derived.Test.YtkjnahgicfmicaaGreatDoorQa
namespace Go.Proofs.YtkjnahgicfmicaaGreatDoor.Sp
section
set_option maxHeartbeats 8000000
set_option maxRecDepth 100000
open Go.RowKit Go.PW Go.PL Go.PM
attribute [local go_sem] max2_int min2_int max_two min_two max_three min_three max_four min_four
set_option linter.unusedVariables false
set_option linter.unusedSimpArgs false
def cS.f (a0 : Int) : Option (Bool) := if 55296 ≤ a0 then (some (decide (a0 ≤ 56319))) else (some false)
theorem cS.calls (a0 : Int) (r : Bool) (w : World) (h : cS.f a0 = some r) :
 Calls Tryz.prog 35 #[.int .i64 a0] w fun e w' => e = .returned (.bool r) ∧ Drawn0 w w' := by
 have H : (if 55296 ≤ a0 then (some (decide (a0 ≤ 56319))) else (some false)) = some r := h
 clear h
 revert H; refine sId1_d0 (fun gJ H => ?_) fun gJ H => ?_
 ·as_aux_lemma =>
   obtain rfl := au H
   go_enter Tryz.func35, Tryz.ntmps35
   go_wp2
   go_ret
   exact ⟨Z7, Z10⟩
 as_aux_lemma =>
  obtain rfl := au H
  go_enter Tryz.func35, Tryz.ntmps35
  go_wp2
  go_ret
  exact ⟨Z7, Z10⟩
def cV.f (a0 : Int) : Option (Bool) := if 56320 ≤ a0 then (some (decide (a0 ≤ 57343))) else (some false)
theorem cV.calls (a0 : Int) (r : Bool) (w : World) (h : cV.f a0 = some r) :
 Calls Tryz.prog 36 #[.int .i64 a0] w fun e w' => e = .returned (.bool r) ∧ Drawn0 w w' := by
 have H : (if 56320 ≤ a0 then (some (decide (a0 ≤ 57343))) else (some false)) = some r := h
 clear h
 revert H; refine sId1_d0 (fun gJ H => ?_) fun gJ H => ?_
 ·as_aux_lemma =>
   obtain rfl := au H
   go_enter Tryz.func36, Tryz.ntmps36
   go_wp2
   go_ret
   exact ⟨Z7, Z10⟩
 as_aux_lemma =>
  obtain rfl := au H
  go_enter Tryz.func36, Tryz.ntmps36
  go_wp2
  go_ret
  exact ⟨Z7, Z10⟩
mutual
def aV.j2 : Nat → av → Int → Int → Int → Int → Option (Int × Int × Bool)
 | 0, _, _, _, _, _ => none
 | k + 1, x0, x1, x7, x8, x9 => if (wrap64 ((x0.size : Int) - x1)) ≤ x8 then (some (65533, 1, false)) else (aV.l0 k x0 x1 x7 x8 x9 1)
def aV.l0 : Nat → av → Int → Int → Int → Int → Int → Option (Int × Int × Bool)
 | 0, _, _, _, _, _, _ => none
 | k + 1, x0, x1, x7, x8, x9, x10 => if x10 ≤ x8 then (if 0 ≤ (wrap64 (x1 + x10)) then (if (wrap64 (x1 + x10)) < (x0.size : Int) then (if (wrap64 (bt x0 (wrap64 (x1 + x10)))) < 128 then (some (65533, 1, false)) else (if (wrap64 (bt x0 (wrap64 (x1 + x10)))) > 191 then (some (65533, 1, false)) else (aV.l0 k x0 x1 (wrap64 ((wrap64 ((wrap64 (x7 * 64)) + (wrap64 (bt x0 (wrap64 (x1 + x10)))))) - 128)) x8 x9 (wrap64 (x10 + 1))))) else (none)) else (none)) else (if x7 < x9 then (some (65533, 1, false)) else (if x7 > 1114111 then (some (65533, 1, false)) else ((cS.f x7).bind fun Ep => (if Ep = true then (some (65533, 1, false)) else ((cV.f x7).bind fun Er => (if Er = true then (some (65533, 1, false)) else (some (x7, wrap64 (x8 + 1), true))))))))
def aV.j0 : Nat → av → Int → Int → Bool → Option (Int × Int × Bool)
 | 0, _, _, _, _ => none
 | k + 1, x0, x1, x7, x20 => if x20 = true then (aV.j2 k x0 x1 (wrap64 (x7 - 192)) 1 128) else (if 224 ≤ x7 then (aV.j1 k x0 x1 x7 (decide (x7 ≤ 239))) else (aV.j1 k x0 x1 x7 false))
def aV.j1 : Nat → av → Int → Int → Bool → Option (Int × Int × Bool)
 | 0, _, _, _, _ => none
 | k + 1, x0, x1, x7, x29 => if x29 = true then (aV.j2 k x0 x1 (wrap64 (x7 - 224)) 2 2048) else (if 240 ≤ x7 then (if x7 ≤ 244 then (aV.j2 k x0 x1 (wrap64 (x7 - 240)) 3 65536) else (some (65533, 1, false))) else (some (65533, 1, false)))
end
def aV.f (k : Nat) (a0 : av) (a1 : Int) : Option (Int × Int × Bool) := if 0 ≤ a1 then (if a1 < (a0.size : Int) then (if (wrap64 (bt a0 a1)) < 128 then (some (wrap64 (bt a0 a1), 1, true)) else (if 194 ≤ (wrap64 (bt a0 a1)) then (aV.j0 k a0 a1 (wrap64 (bt a0 a1)) (decide ((wrap64 (bt a0 a1)) ≤ 223))) else (aV.j0 k a0 a1 (wrap64 (bt a0 a1)) false))) else (none)) else (none)
theorem aV.mono_l : ∀ k, (∀ y0 y1 y2 y3 y4, LeO (aV.j2 k y0 y1 y2 y3 y4) (aV.j2 (k + 1) y0 y1 y2 y3 y4)) ∧ (∀ y0 y1 y2 y3 y4 y5, LeO (aV.l0 k y0 y1 y2 y3 y4 y5) (aV.l0 (k + 1) y0 y1 y2 y3 y4 y5)) ∧ (∀ y0 y1 y2 y3, LeO (aV.j0 k y0 y1 y2 y3) (aV.j0 (k + 1) y0 y1 y2 y3)) ∧ (∀ y0 y1 y2 y3, LeO (aV.j1 k y0 y1 y2 y3) (aV.j1 (k + 1) y0 y1 y2 y3))
 | 0 => ⟨fun _ _ _ _ _ r h => by simp [aV.j2] at h, fun _ _ _ _ _ _ r h => by simp [aV.l0] at h, fun _ _ _ _ r h => by simp [aV.j0] at h, fun _ _ _ _ r h => by simp [aV.j1] at h⟩
 | k + 1 => by
  obtain ⟨ih0, ih1, ih2, ih3⟩ := aV.mono_l k
  refine ⟨?_, ?_, ?_, ?_⟩
  ·intro y0 y1 y2 y3 y4
   unfold aV.j2
   exact zM
  ·intro y0 y1 y2 y3 y4 y5
   unfold aV.l0
   exact zM
  ·intro y0 y1 y2 y3
   unfold aV.j0
   exact zM
  ·intro y0 y1 y2 y3
   unfold aV.j1
   exact zM
theorem aV.mono : ∀ a0 a1 k, LeO (aV.f k a0 a1) (aV.f (k + 1) a0 a1) := by
 intro a0 a1 k
 obtain ⟨ih0, ih1, ih2, ih3⟩ := aV.mono_l k
 unfold aV.f
 exact zM
instance aV.mi  {a0 a1 k} : LeI (aV.f k a0 a1) (aV.f (k + 1) a0 a1) := ⟨⟨aV.mono a0 a1 k⟩⟩
theorem aV.calls (k : Nat) (a0 : av) (a1 : Int) (r1 : Int) (r2 : Int) (r3 : Bool) (w : World) (h : aV.f k a0 a1 = some (r1, r2, r3)) :
 Calls Tryz.prog 33 #[.string a0, .int .i64 a1] w fun e w' => e = .returned (.tuple #[.int .i64 r1, .int .i64 r2, .bool r3]) ∧ Drawn0 w w' := by
 unfold aV.f at h
 have H := h
 clear h
 revert H; refine sNd1 fun dX H => ?_
 revert H; refine sNd1 fun gT H => ?_
 have Yx := ab H
 clear H
 have p5 := ag (ac Z6 : 0 ≤ (a1 : Int))
 have q5 := ag (ac Z6 : a1 < (a0.size : Int))
 have hx5 := bt_at a0 a1
 go_enter Tryz.func33, Tryz.ntmps33
 go_upto_block 0 with (fail)
 go_cut [7, 8, 9] (fun v7 v8 v9 wc => ∃ (kq : Nat) (vZ : Int) (tK : Int) (tL : Int), v7 = .int .i64 vZ ∧ v8 = .int .i64 tK ∧ v9 = .int .i64 tL ∧ Aside0 (aV.j2 kq a0 a1 vZ tK tL = some (r1, r2, r3)) ∧ Aside0 (kq ≤ k) ∧ Drawn0 w wc)
 case first =>
  have H := Yx.out
  clear Yx
  revert H; refine sId1_d0 (fun iZ H => ?_) fun iZ H => ?_
  ·(first | rw [iZ] | (simp only [i64_w, i32_w]; rw [iZ]) | skip)
   as_aux_lemma =>
    simp only [am, an] at H
    obtain ⟨rfl, rfl, rfl⟩ := H
    go_wp2
    go_ret3
    exact ⟨Z7, Z10⟩
  (first | rw [iZ] | (simp only [i64_w, i32_w]; rw [iZ]) | skip)
  have Yy := ab H
  clear H
  go_upto_region 6 with (fail)
  go_cut [20] (fun v20 wc => ∃ (kq : Nat) (tM : Bool), v20 = .bool tM ∧ Aside0 (aV.j0 kq a0 a1 (wrap64 (bt a0 a1)) tM = some (r1, r2, r3)) ∧ Aside0 (kq ≤ k) ∧ Drawn0 w wc)
  case first =>
   have H := Yy.out
   clear Yy
   revert H; refine sId1_d0 (fun lB H => ?_) fun lB H => ?_
   ·(first | rw [lB] | (simp only [i64_w, i32_w]; rw [lB]) | skip)
    as_aux_lemma =>
     have H' := ab H
     clear H
     go_wp2
     go_meet
     case rel => exact ⟨_, (decide ((wrap64 (bt a0 a1)) ≤ 223)), Z7, H', ⟨Z27⟩, Z10⟩
   (first | rw [lB] | (simp only [i64_w, i32_w]; rw [lB]) | skip)
   as_aux_lemma =>
    have H' := ab H
    clear H
    go_wp2
    go_meet
    case rel => exact ⟨_, (false), Z7, H', ⟨Z27⟩, Z10⟩
  case rest =>
   clear Yy
   try clear dX gT p5 q5 hx5 iZ
   obtain ⟨kq, tM, rfl, HA, HJ7, ⟨mc7, rfl⟩⟩ := hcut
   cases kq with
   | zero => exact absurd HA.out (by simp [aV.j0])
   | succ kj7 =>
    have H := HA.out
    clear HA
    simp only [aV.j0] at H
    replace H := sB H
    obtain ⟨rfl, H⟩ | ⟨rfl, H⟩ := H
    ·as_aux_lemma =>
      have H' := ab H
      clear H
      go_wp2
      go_meet
      case rel => exact ⟨_, (wrap64 ((wrap64 (bt a0 a1)) - 192)), (1), (128), Z7, Z7, Z7, H', ⟨by have := HJ7.out; first | omega | exact Nat.le_refl _⟩, Z10⟩
    have pL := ab H
    clear H
    go_upto_region 8 with (fail)
    go_cut [29] (fun v29 wc => ∃ (kq : Nat) (pM : Bool), v29 = .bool pM ∧ Aside0 (aV.j1 kq a0 a1 (wrap64 (bt a0 a1)) pM = some (r1, r2, r3)) ∧ Aside0 (kq ≤ kj7) ∧ Drawn0 w wc)
    case first =>
     have H := pL.out
     clear pL
     revert H; refine sId1_d0 (fun kA H => ?_) fun kA H => ?_
     ·(first | rw [kA] | (simp only [i64_w, i32_w]; rw [kA]) | skip)
      as_aux_lemma =>
       have H' := ab H
       clear H
       go_wp2
       go_meet
       case rel => exact ⟨_, (decide ((wrap64 (bt a0 a1)) ≤ 239)), Z7, H', ⟨by have := HJ7.out; first | omega | exact Nat.le_refl _⟩, Z10⟩
     (first | rw [kA] | (simp only [i64_w, i32_w]; rw [kA]) | skip)
     as_aux_lemma =>
      have H' := ab H
      clear H
      go_wp2
      go_meet
      case rel => exact ⟨_, (false), Z7, H', ⟨by have := HJ7.out; first | omega | exact Nat.le_refl _⟩, Z10⟩
    case rest =>
     clear pL
     obtain ⟨kq, pM, rfl, HA, HJ10, ⟨mc10, rfl⟩⟩ := hcut
     cases kq with
     | zero => exact absurd HA.out (by simp [aV.j1])
     | succ kj10 =>
      have H := HA.out
      clear HA
      simp only [aV.j1] at H
      replace H := sB H
      obtain ⟨rfl, H⟩ | ⟨rfl, H⟩ := H
      ·as_aux_lemma =>
        have H' := ab H
        clear H
        go_wp2
        go_meet
        case rel => exact ⟨_, (wrap64 ((wrap64 (bt a0 a1)) - 224)), (2), (2048), Z7, Z7, Z7, H', ⟨by have := HJ7.out; have := HJ10.out; first | omega | exact Nat.le_refl _⟩, Z10⟩
      revert H; refine sId1_d0 (fun fK H => ?_) fun fK H => ?_
      ·revert H; refine sId1_d0 (fun jG H => ?_) fun jG H => ?_
       ·as_aux_lemma =>
         have H' := ab H
         clear H
         go_wp2
         go_meet
         case rel => exact ⟨_, (wrap64 ((wrap64 (bt a0 a1)) - 240)), (3), (65536), Z7, Z7, Z7, H', ⟨by have := HJ7.out; have := HJ10.out; first | omega | exact Nat.le_refl _⟩, Z10⟩
       as_aux_lemma =>
        simp only [am, an] at H
        obtain ⟨rfl, rfl, rfl⟩ := H
        go_wp2
        go_ret3
        exact ⟨Z7, Z10⟩
      as_aux_lemma =>
       simp only [am, an] at H
       obtain ⟨rfl, rfl, rfl⟩ := H
       go_wp2
       go_ret3
       exact ⟨Z7, Z10⟩
 case rest =>
  clear Yx
  try clear dX gT p5 q5 hx5
  obtain ⟨kq, vZ, tK, tL, rfl, rfl, rfl, HA, HJ5, ⟨mc5, rfl⟩⟩ := hcut
  cases kq with
  | zero => exact absurd HA.out (by simp [aV.j2])
  | succ kj5 =>
   have H := HA.out
   clear HA
   simp only [aV.j2] at H
   revert H; refine sId1_d0 (fun gY H => ?_) fun gY H => ?_
   ·as_aux_lemma =>
     simp only [am, an] at H
     obtain ⟨rfl, rfl, rfl⟩ := H
     go_wp2
     go_ret3
     exact ⟨Z7, Z10⟩
   have H' := ab H
   clear H
   go_wp2
   (try simp only [Act.put, ap, aq, ar])
   go_loopg [7, 10] kj5 (fun kq v7 v10 w' => ∃ (fO : Int) (lM : Int), v7 = .int .i64 fO ∧ v10 = .int .i64 lM ∧ Aside0 (aV.l0 kq a0 a1 fO tK tL lM = some (r1, r2, r3)) ∧ Aside0 (kq ≤ kj5) ∧ Drawn0 w w')
   case atStart => exact ⟨(vZ), (1), Z7, Z7, H', ⟨Nat.le_refl _⟩, Z10⟩
   case round =>
    clear H'
    try clear gY
    obtain ⟨fO, lM, rfl, rfl, HA, HK2, ⟨m2, rfl⟩⟩ := hrel
    cases gk with
    | zero => exact absurd HA.out (by simp [aV.l0])
    | succ k2 =>
     have H := HA.out
     clear HA
     simp only [aV.l0] at H
     revert H; refine sId1_d0 (fun qP H => ?_) fun qP H => ?_
     ·obtain ⟨iL, qQ⟩ : ∃ j_ : Int, (wrap64 (a1 + lM)) = j_ := ⟨_, rfl⟩
      replace H : (if 0 ≤ (iL) then (if (iL) < (a0.size : Int) then (if (wrap64 (bt a0 (iL))) < 128 then (some (65533, 1, false)) else (if (wrap64 (bt a0 (iL))) > 191 then (some (65533, 1, false)) else (aV.l0 k2 a0 a1 (wrap64 ((wrap64 ((wrap64 (fO * 64)) + (wrap64 (bt a0 (iL))))) - 128)) tK tL (wrap64 (lM + 1))))) else (none)) else (none)) = some (r1, r2, r3) := by first | (rw [qQ] at H; exact H) | (simp only [qQ] at H ⊢; exact H)
      have hji18w : (IntKind.i64.wrap (a1 + lM)) = iL := (i64_w _).trans qQ
      revert H; refine sNd1 fun qR H => ?_
      revert H; refine sNd1 fun mR H => ?_
      revert H; refine sId1_d0 (fun kR H => ?_) fun kR H => ?_
      ·as_aux_lemma =>
        simp only [am, an] at H
        obtain ⟨rfl, rfl, rfl⟩ := H
        have p21 := ag (ac Z6 : 0 ≤ ((iL) : Int))
        have q21 := ag (ac Z6 : (iL) < (a0.size : Int))
        have hx21 := bt_at a0 (iL)
        go_wp2
        go_ret3
        exact ⟨Z66, Z10⟩
      revert H; refine sIk_k (fun c23 H => ?_) fun c23 H => ?_
      ·have lN : decide (191 < (wrap64 (bt a0 (iL)))) = true := ae c23
       clear c23
       as_aux_lemma =>
        simp only [am, an] at H
        obtain ⟨rfl, rfl, rfl⟩ := H
        have p21 := ag (ac Z6 : 0 ≤ ((iL) : Int))
        have q21 := ag (ac Z6 : (iL) < (a0.size : Int))
        have hx21 := bt_at a0 (iL)
        go_wp2
        go_ret3
        exact ⟨Z66, Z10⟩
      have lN : decide (191 < (wrap64 (bt a0 (iL)))) = false := af c23
      clear c23
      as_aux_lemma =>
       have H' := ab H
       clear H
       have p21 := ag (ac Z6 : 0 ≤ ((iL) : Int))
       have q21 := ag (ac Z6 : (iL) < (a0.size : Int))
       have hx21 := bt_at a0 (iL)
       go_wp2
       go_roundg k2
       case measure => have := HJ5.out; have := HK2.out; omega
       case rel => exact ⟨(wrap64 ((wrap64 ((wrap64 (fO * 64)) + (wrap64 (bt a0 (iL))))) - 128)), (wrap64 (lM + 1)), Z66, Z7, H', ⟨by have := HJ5.out; have := HK2.out; omega⟩, Z10⟩
     revert H; refine sId1_d0 (fun oO H => ?_) fun oO H => ?_
     ·as_aux_lemma =>
       simp only [am, an] at H
       obtain ⟨rfl, rfl, rfl⟩ := H
       go_wp2
       go_ret3
       exact ⟨Z7, Z10⟩
     revert H; refine sIk_k (fun c25 H => ?_) fun c25 H => ?_
     ·have kB : decide (1114111 < fO) = true := ae c25
      clear c25
      as_aux_lemma =>
       simp only [am, an] at H
       obtain ⟨rfl, rfl, rfl⟩ := H
       go_wp2
       go_ret3
       exact ⟨Z7, Z10⟩
     have kB : decide (1114111 < fO) = false := af c25
     clear c25
     revert H; refine bnd ?_; rintro Ep Es H
     replace H := sB H
     obtain ⟨rfl, H⟩ | ⟨rfl, H⟩ := H
     ·as_aux_lemma =>
       simp only [am, an] at H
       obtain ⟨rfl, rfl, rfl⟩ := H
       go_wp2_with (first | (go_at_call 35; (with_reducible refine (cS.calls fO true _ Es.out).mono ?_); rintro e w' ⟨rfl, ⟨nd, rfl⟩⟩))
       go_ret3
       exact ⟨Z7, Z10⟩
     revert H; refine bnd ?_; rintro Er vG H
     replace H := sB H
     obtain ⟨rfl, H⟩ | ⟨rfl, H⟩ := H
     ·as_aux_lemma =>
       simp only [am, an] at H
       obtain ⟨rfl, rfl, rfl⟩ := H
       go_wp2_with (first | (go_at_call 35; (with_reducible refine (cS.calls fO false _ Es.out).mono ?_); rintro e w' ⟨rfl, ⟨nd, rfl⟩⟩) | (go_at_call 36; (with_reducible refine (cV.calls fO true _ vG.out).mono ?_); rintro e w' ⟨rfl, ⟨nd, rfl⟩⟩))
       go_ret3
       exact ⟨Z7, Z10⟩
     as_aux_lemma =>
      simp only [am, an] at H
      obtain ⟨rfl, rfl, rfl⟩ := H
      go_wp2_with (first | (go_at_call 35; (with_reducible refine (cS.calls fO false _ Es.out).mono ?_); rintro e w' ⟨rfl, ⟨nd, rfl⟩⟩) | (go_at_call 36; (with_reducible refine (cV.calls fO false _ vG.out).mono ?_); rintro e w' ⟨rfl, ⟨nd, rfl⟩⟩))
      go_ret3
      exact ⟨Z7, Z10⟩
def bS.l0 : Nat → av → Int → Option (Bool)
 | 0, _, _ => none
 | k + 1, x0, x3 => if x3 < (x0.size : Int) then ((aV.f k x0 x3).bind fun bt103 => (if bt103.2.2 = true then (bS.l0 k x0 (wrap64 (x3 + bt103.2.1))) else (some false))) else (some true)
def bS.f (k : Nat) (a0 : av) : Option (Bool) := bS.l0 k a0 0
theorem bS.mono_l : ∀ k, (∀ y0 y1, LeO (bS.l0 k y0 y1) (bS.l0 (k + 1) y0 y1))
 | 0 => fun _ _ r h => by simp [bS.l0] at h
 | k + 1 => by
  have ih0 := bS.mono_l k
  ·intro y0 y1
   unfold bS.l0
   exact zM
theorem bS.mono : ∀ a0 k, LeO (bS.f k a0) (bS.f (k + 1) a0) := by
 intro a0 k
 have ih0 := bS.mono_l k
 unfold bS.f
 exact zM
theorem bS.calls (k : Nat) (a0 : av) (r : Bool) (w : World) (h : bS.f k a0 = some r) :
 Calls Tryz.prog 16 #[.string a0] w fun e w' => e = .returned (.bool r) ∧ Drawn0 w w' := by
 have H : (bS.l0 k a0 0) = some r := h
 clear h
 have H' := ab H
 clear H
 go_enter Tryz.func16, Tryz.ntmps16
 go_wp2
 (try simp only [Act.put, ap, aq, ar])
 go_loopg [3] k (fun kq v3 w' => ∃ (cM : Int), v3 = .int .i64 cM ∧ Aside0 (bS.l0 kq a0 cM = some r) ∧ Aside0 (kq ≤ k) ∧ Drawn0 w w')
 case atStart => exact ⟨(0), Z7, H', ⟨Nat.le_refl _⟩, Z10⟩
 case round =>
  clear H'
  obtain ⟨cM, rfl, HA, HK1, ⟨m1, rfl⟩⟩ := hrel
  cases gk with
  | zero => exact absurd HA.out (by simp [bS.l0])
  | succ k1 =>
   have H := HA.out
   clear HA
   simp only [bS.l0] at H
   revert H; refine sId1_d0 (fun gJ H => ?_) fun gJ H => ?_
   ·revert H; refine bnd ?_; rintro ⟨Et, Bs, akE⟩ A3 H; try dsimp only at H
    replace H := sB H
    obtain ⟨rfl, H⟩ | ⟨rfl, H⟩ := H
    ·as_aux_lemma =>
      have H' := ab H
      clear H
      go_wp2_with (first | (refine gl 33 (some 14) Tryz.func33 #[.string a0, .int .i64 cM] ?_; (with_reducible refine (aV.calls k1 a0 cM Et Bs true _ A3.out).mono ?_); rintro e w' ⟨rfl, ⟨nd, rfl⟩⟩; refine ⟨_, rfl, ?_⟩))
      go_roundg k1
      case measure => have := HK1.out; omega
      case rel => exact ⟨(wrap64 (cM + Bs)), Z7, H', ⟨by have := HK1.out; omega⟩, Z10⟩
    as_aux_lemma =>
     obtain rfl := au H
     go_wp2_with (first | (refine gl 33 (some 14) Tryz.func33 #[.string a0, .int .i64 cM] ?_; (with_reducible refine (aV.calls k1 a0 cM Et Bs false _ A3.out).mono ?_); rintro e w' ⟨rfl, ⟨nd, rfl⟩⟩; refine ⟨_, rfl, ?_⟩))
     go_ret
     exact ⟨Z7, Z10⟩
   as_aux_lemma =>
    obtain rfl := au H
    go_wp2
    go_ret
    exact ⟨Z7, Z10⟩
end
section
set_option maxHeartbeats 8000000
set_option maxRecDepth 100000
open Go.RowKit Go.PW Go.PL Go.PM
attribute [local go_sem] max2_int min2_int max_two min_two max_three min_three max_four min_four
set_option linter.unusedVariables false
set_option linter.unusedSimpArgs false
mutual
def aY.j0 : Nat → Int → Bool → Option (Int × Bool)
 | 0, _, _ => none
 | k + 1, x0, x4 => if x4 = true then (some ((x0 - 48) % 256, true)) else (if 97 ≤ x0 then (aY.j1 k x0 (decide (x0 ≤ 102))) else (aY.j1 k x0 false))
def aY.j1 : Nat → Int → Bool → Option (Int × Bool)
 | 0, _, _ => none
 | k + 1, x0, x14 => if x14 = true then (some (((x0 - 97) % 256) + 10, true)) else (if 65 ≤ x0 then (if x0 ≤ 70 then (some (((x0 - 65) % 256) + 10, true)) else (some (0, false))) else (some (0, false)))
end
def aY.f (k : Nat) (a0 : Int) : Option (Int × Bool) := if 48 ≤ a0 then (aY.j0 k a0 (decide (a0 ≤ 57))) else (aY.j0 k a0 false)
theorem aY.mono_l : ∀ k, (∀ y0 y1, LeO (aY.j0 k y0 y1) (aY.j0 (k + 1) y0 y1)) ∧ (∀ y0 y1, LeO (aY.j1 k y0 y1) (aY.j1 (k + 1) y0 y1))
 | 0 => ⟨fun _ _ r h => by simp [aY.j0] at h, fun _ _ r h => by simp [aY.j1] at h⟩
 | k + 1 => by
  obtain ⟨ih0, ih1⟩ := aY.mono_l k
  refine ⟨?_, ?_⟩
  ·intro y0 y1
   unfold aY.j0
   exact zM
  ·intro y0 y1
   unfold aY.j1
   exact zM
theorem aY.mono : ∀ a0 k, LeO (aY.f k a0) (aY.f (k + 1) a0) := by
 intro a0 k
 obtain ⟨ih0, ih1⟩ := aY.mono_l k
 unfold aY.f
 exact zM
instance aY.mi  {a0 k} : LeI (aY.f k a0) (aY.f (k + 1) a0) := ⟨⟨aY.mono a0 k⟩⟩
theorem aY.calls (k : Nat) (a0 : Int) (r1 : Int) (r2 : Bool) (w : World) (h : aY.f k a0 = some (r1, r2)) :
 Calls Tryz.prog 55 #[.int .u8 a0] w fun e w' => e = .returned (.tuple #[.int .i64 r1, .bool r2]) ∧ Drawn0 w w' := by
 unfold aY.f at h
 have H := h
 clear h
 have qG := ab H
 clear H
 go_enter Tryz.func55, Tryz.ntmps55
 go_upto_region 1 with (fail)
 go_cut [4] (fun v4 wc => ∃ (kq : Nat) (cU : Bool), v4 = .bool cU ∧ Aside0 (aY.j0 kq a0 cU = some (r1, r2)) ∧ Aside0 (kq ≤ k) ∧ Drawn0 w wc)
 case first =>
  have H := qG.out
  clear qG
  revert H; refine sId1_d0 (fun dX H => ?_) fun dX H => ?_
  ·(first | rw [dX] | (simp only [i64_w, i32_w]; rw [dX]) | skip)
   as_aux_lemma =>
    have H' := ab H
    clear H
    go_wp2
    go_meet
    case rel => exact ⟨_, (decide (a0 ≤ 57)), Z7, H', ⟨Z27⟩, Z10⟩
  (first | rw [dX] | (simp only [i64_w, i32_w]; rw [dX]) | skip)
  as_aux_lemma =>
   have H' := ab H
   clear H
   go_wp2
   go_meet
   case rel => exact ⟨_, (false), Z7, H', ⟨Z27⟩, Z10⟩
 case rest =>
  clear qG
  obtain ⟨kq, cU, rfl, HA, HJ1, ⟨mc1, rfl⟩⟩ := hcut
  cases kq with
  | zero => exact absurd HA.out (by simp [aY.j0])
  | succ kj1 =>
   have H := HA.out
   clear HA
   simp only [aY.j0] at H
   replace H := sB H
   obtain ⟨rfl, H⟩ | ⟨rfl, H⟩ := H
   ·as_aux_lemma =>
     simp only [am, an] at H
     obtain ⟨rfl, rfl⟩ := H
     go_wp2
     go_ret2
     exact ⟨Z7, Z10⟩
   have Am := ab H
   clear H
   go_upto_region 3 with (fail)
   go_cut [14] (fun v14 wc => ∃ (kq : Nat) (uE : Bool), v14 = .bool uE ∧ Aside0 (aY.j1 kq a0 uE = some (r1, r2)) ∧ Aside0 (kq ≤ kj1) ∧ Drawn0 w wc)
   case first =>
    have H := Am.out
    clear Am
    revert H; refine sId1_d0 (fun eV H => ?_) fun eV H => ?_
    ·(first | rw [eV] | (simp only [i64_w, i32_w]; rw [eV]) | skip)
     as_aux_lemma =>
      have H' := ab H
      clear H
      go_wp2
      go_meet
      case rel => exact ⟨_, (decide (a0 ≤ 102)), Z7, H', ⟨by have := HJ1.out; first | omega | exact Nat.le_refl _⟩, Z10⟩
    (first | rw [eV] | (simp only [i64_w, i32_w]; rw [eV]) | skip)
    as_aux_lemma =>
     have H' := ab H
     clear H
     go_wp2
     go_meet
     case rel => exact ⟨_, (false), Z7, H', ⟨by have := HJ1.out; first | omega | exact Nat.le_refl _⟩, Z10⟩
   case rest =>
    clear Am
    obtain ⟨kq, uE, rfl, HA, HJ4, ⟨mc4, rfl⟩⟩ := hcut
    cases kq with
    | zero => exact absurd HA.out (by simp [aY.j1])
    | succ kj4 =>
     have H := HA.out
     clear HA
     simp only [aY.j1] at H
     replace H := sB H
     obtain ⟨rfl, H⟩ | ⟨rfl, H⟩ := H
     ·as_aux_lemma =>
       simp only [am, an] at H
       obtain ⟨rfl, rfl⟩ := H
       go_wp2
       go_ret2
       exact ⟨Z7, Z10⟩
     revert H; refine sId1_d0 (fun hY H => ?_) fun hY H => ?_
     ·revert H; refine sId1_d0 (fun lB H => ?_) fun lB H => ?_
      ·as_aux_lemma =>
        simp only [am, an] at H
        obtain ⟨rfl, rfl⟩ := H
        go_wp2
        go_ret2
        exact ⟨Z7, Z10⟩
      as_aux_lemma =>
       simp only [am, an] at H
       obtain ⟨rfl, rfl⟩ := H
       go_wp2
       go_ret2
       exact ⟨Z7, Z10⟩
     as_aux_lemma =>
      simp only [am, an] at H
      obtain ⟨rfl, rfl⟩ := H
      go_wp2
      go_ret2
      exact ⟨Z7, Z10⟩
mutual
def bE.j0 : Nat → av → Int → Bool → Option (Int × Bool)
 | 0, _, _, _ => none
 | k + 1, x0, x1, x27 => if x27 = true then (some (0, false)) else (bE.l0 k x0 x1 0 (wrap64 (x1 + 2)))
def bE.l0 : Nat → av → Int → Int → Int → Option (Int × Bool)
 | 0, _, _, _, _ => none
 | k + 1, x0, x1, x6, x7 => if x7 < (wrap64 (x1 + 6)) then (if 0 ≤ x7 then (if x7 < (x0.size : Int) then ((aY.f k (bt x0 x7)).bind fun bt106 => (if bt106.2 = true then (bE.l0 k x0 x1 (wrap64 ((wrap64 (x6 * 16)) + bt106.1)) (wrap64 (x7 + 1))) else (some (0, false)))) else (none)) else (none)) else (some (x6, true))
end
def bE.f (k : Nat) (a0 : av) (a1 : Int) : Option (Int × Bool) := if (wrap64 ((a0.size : Int) - a1)) < 6 then (bE.j0 k a0 a1 true) else (if 0 ≤ a1 then (if a1 < (a0.size : Int) then (if (bt a0 a1) = 92 then (if 0 ≤ (wrap64 (a1 + 1)) then (if (wrap64 (a1 + 1)) < (a0.size : Int) then (bE.j0 k a0 a1 ((bt a0 (wrap64 (a1 + 1))) != 117)) else (none)) else (none)) else (bE.j0 k a0 a1 true)) else (none)) else (none))
theorem bE.mono_l : ∀ k, (∀ y0 y1 y2, LeO (bE.j0 k y0 y1 y2) (bE.j0 (k + 1) y0 y1 y2)) ∧ (∀ y0 y1 y2 y3, LeO (bE.l0 k y0 y1 y2 y3) (bE.l0 (k + 1) y0 y1 y2 y3))
 | 0 => ⟨fun _ _ _ r h => by simp [bE.j0] at h, fun _ _ _ _ r h => by simp [bE.l0] at h⟩
 | k + 1 => by
  obtain ⟨ih0, ih1⟩ := bE.mono_l k
  refine ⟨?_, ?_⟩
  ·intro y0 y1 y2
   unfold bE.j0
   exact zM
  ·intro y0 y1 y2 y3
   unfold bE.l0
   exact zM
theorem bE.mono : ∀ a0 a1 k, LeO (bE.f k a0 a1) (bE.f (k + 1) a0 a1) := by
 intro a0 a1 k
 obtain ⟨ih0, ih1⟩ := bE.mono_l k
 unfold bE.f
 exact zM
instance bE.mi  {a0 a1 k} : LeI (bE.f k a0 a1) (bE.f (k + 1) a0 a1) := ⟨⟨bE.mono a0 a1 k⟩⟩
theorem bE.calls (k : Nat) (a0 : av) (a1 : Int) (r1 : Int) (r2 : Bool) (w : World) (h : bE.f k a0 a1 = some (r1, r2)) :
 Calls Tryz.prog 34 #[.string a0, .int .i64 a1] w fun e w' => e = .returned (.tuple #[.int .i64 r1, .bool r2]) ∧ Drawn0 w w' := by
 unfold bE.f at h
 have H := h
 clear h
 have oJ := ab H
 clear H
 go_enter Tryz.func34, Tryz.ntmps34
 go_upto_region 1 with (fail)
 go_cut [27] (fun v27 wc => ∃ (kq : Nat) (uF : Bool), v27 = .bool uF ∧ Aside0 (bE.j0 kq a0 a1 uF = some (r1, r2)) ∧ Aside0 (kq ≤ k) ∧ Drawn0 w wc)
 case first =>
  have H := oJ.out
  clear oJ
  revert H; refine sId1_d0 (fun gT H => ?_) fun gT H => ?_
  ·(first | rw [gT] | (simp only [i64_w, i32_w]; rw [gT]) | skip)
   as_aux_lemma =>
    have H' := ab H
    clear H
    go_wp2
    go_meet
    case rel => exact ⟨_, (true), Z7, H', ⟨Z27⟩, Z10⟩
  (first | rw [gT] | (simp only [i64_w, i32_w]; rw [gT]) | skip)
  revert H; refine sNd1 fun iJ H => ?_
  revert H; refine sNd1 fun eV H => ?_
  revert H; refine sIe1n0_e0n1 (fun hY kZ H => ?_) fun hY kZ H => ?_
  ·obtain ⟨sQ, nH⟩ : ∃ j_ : Int, (wrap64 (a1 + 1)) = j_ := ⟨_, rfl⟩
   replace H : (if 0 ≤ (sQ) then (if (sQ) < (a0.size : Int) then (bE.j0 k a0 a1 ((bt a0 (sQ)) != 117)) else (none)) else (none)) = some (r1, r2) := by first | (rw [nH] at H; exact H) | (simp only [nH] at H ⊢; exact H)
   have hji9w : (IntKind.i64.wrap (a1 + 1)) = sQ := (i64_w _).trans nH
   revert H; refine sNd1 fun kS H => ?_
   revert H; refine sNd1 fun kT H => ?_
   as_aux_lemma =>
    have H' := ab H
    clear H
    have p7 := ag (ac Z6 : 0 ≤ (a1 : Int))
    have q7 := ag (ac Z6 : a1 < (a0.size : Int))
    have hx7 := bt_at a0 a1
    have p12 := ag (ac Z6 : 0 ≤ ((sQ) : Int))
    have q12 := ag (ac Z6 : (sQ) < (a0.size : Int))
    have hx12 := bt_at a0 (sQ)
    go_wp2
    go_meet
    case rel => exact ⟨_, (((bt a0 (sQ)) != 117)), (by first | rfl | (simp; done) | (simp only [← nH] <;> (first | rfl | simp)) | (simp [*]; done)), H', ⟨Z27⟩, Z10⟩
  as_aux_lemma =>
   have H' := ab H
   clear H
   have p7 := ag (ac Z6 : 0 ≤ (a1 : Int))
   have q7 := ag (ac Z6 : a1 < (a0.size : Int))
   have hx7 := bt_at a0 a1
   go_wp2
   go_meet
   case rel => exact ⟨_, (true), Z7, H', ⟨Z27⟩, Z10⟩
 case rest =>
  clear oJ
  obtain ⟨kq, uF, rfl, HA, HJ2, ⟨mc2, rfl⟩⟩ := hcut
  cases kq with
  | zero => exact absurd HA.out (by simp [bE.j0])
  | succ kj2 =>
   have H := HA.out
   clear HA
   simp only [bE.j0] at H
   replace H := sB H
   obtain ⟨rfl, H⟩ | ⟨rfl, H⟩ := H
   ·as_aux_lemma =>
     simp only [am, an] at H
     obtain ⟨rfl, rfl⟩ := H
     go_wp2
     go_ret2
     exact ⟨Z7, Z10⟩
   have H' := ab H
   clear H
   go_wp2
   (try simp only [Act.put, ap, aq, ar])
   go_loopg [6, 7] kj2 (fun kq v6 v7 w' => ∃ (fC : Int) (fO : Int), v6 = .int .i64 fC ∧ v7 = .int .i64 fO ∧ Aside0 (bE.l0 kq a0 a1 fC fO = some (r1, r2)) ∧ Aside0 (kq ≤ kj2) ∧ Drawn0 w w')
   case atStart => exact ⟨(0), (wrap64 (a1 + 2)), Z7, Z7, H', ⟨Nat.le_refl _⟩, Z10⟩
   case round =>
    clear H'
    obtain ⟨fC, fO, rfl, rfl, HA, HK2, ⟨m2, rfl⟩⟩ := hrel
    cases gk with
    | zero => exact absurd HA.out (by simp [bE.l0])
    | succ k2 =>
     have H := HA.out
     clear HA
     simp only [bE.l0] at H
     revert H; refine sId1_d0 (fun fK H => ?_) fun fK H => ?_
     ·revert H; refine sNd1 fun jG H => ?_
      revert H; refine sNd1 fun gY H => ?_
      revert H; refine bnd ?_; rintro ⟨Bz, alC⟩ Gi H; try dsimp only at H
      replace H := sB H
      obtain ⟨rfl, H⟩ | ⟨rfl, H⟩ := H
      ·as_aux_lemma =>
        have H' := ab H
        clear H
        have p17 := ag (ac Z6 : 0 ≤ (fO : Int))
        have q17 := ag (ac Z6 : fO < (a0.size : Int))
        have hx17 := bt_at a0 fO
        go_wp2_with (first | (refine gl 55 (some 40) Tryz.func55 #[.int .u8 (bt a0 fO)] ?_; (with_reducible refine (aY.calls k2 (bt a0 fO) Bz true _ Gi.out).mono ?_); rintro e w' ⟨rfl, ⟨nd, rfl⟩⟩; refine ⟨_, rfl, ?_⟩))
        go_roundg k2
        case measure => have := HJ2.out; have := HK2.out; omega
        case rel => exact ⟨(wrap64 ((wrap64 (fC * 16)) + Bz)), (wrap64 (fO + 1)), Z7, Z7, H', ⟨by have := HJ2.out; have := HK2.out; omega⟩, Z10⟩
      as_aux_lemma =>
       simp only [am, an] at H
       obtain ⟨rfl, rfl⟩ := H
       have p17 := ag (ac Z6 : 0 ≤ (fO : Int))
       have q17 := ag (ac Z6 : fO < (a0.size : Int))
       have hx17 := bt_at a0 fO
       go_wp2_with (first | (refine gl 55 (some 40) Tryz.func55 #[.int .u8 (bt a0 fO)] ?_; (with_reducible refine (aY.calls k2 (bt a0 fO) Bz false _ Gi.out).mono ?_); rintro e w' ⟨rfl, ⟨nd, rfl⟩⟩; refine ⟨_, rfl, ?_⟩))
       go_ret2
       exact ⟨Z7, Z10⟩
     as_aux_lemma =>
      simp only [am, an] at H
      obtain ⟨rfl, rfl⟩ := H
      go_wp2
      go_ret2
      exact ⟨Z7, Z10⟩
def bD.l0 : Nat → av → Int → Option (Bool)
 | 0, _, _ => none
 | k + 1, x0, x3 => if x3 < (x0.size : Int) then (if 0 ≤ x3 then (if (bt x0 x3) = 92 then ((bE.f k x0 x3).bind fun bt108 => (if bt108.2 = true then ((cS.f bt108.1).bind fun Gk => (if Gk = true then ((bE.f k x0 (wrap64 (x3 + 6))).bind fun bt111 => (if bt111.2 = true then ((cV.f bt111.1).bind fun Gl => (if Gl = true then (bD.l0 k x0 (wrap64 (x3 + 12))) else (some false))) else (some false))) else ((cV.f bt108.1).bind fun Gm => (if Gm = true then (some false) else (bD.l0 k x0 (wrap64 (x3 + 6))))))) else (bD.l0 k x0 (wrap64 (x3 + 2))))) else (bD.l0 k x0 (wrap64 (x3 + 1)))) else (none)) else (some true)
def bD.f (k : Nat) (a0 : av) : Option (Bool) := bD.l0 k a0 0
theorem bD.mono_l : ∀ k, (∀ y0 y1, LeO (bD.l0 k y0 y1) (bD.l0 (k + 1) y0 y1))
 | 0 => fun _ _ r h => by simp [bD.l0] at h
 | k + 1 => by
  have ih0 := bD.mono_l k
  ·intro y0 y1
   unfold bD.l0
   exact zM
theorem bD.mono : ∀ a0 k, LeO (bD.f k a0) (bD.f (k + 1) a0) := by
 intro a0 k
 have ih0 := bD.mono_l k
 unfold bD.f
 exact zM
theorem bD.calls (k : Nat) (a0 : av) (r : Bool) (w : World) (h : bD.f k a0 = some r) :
 Calls Tryz.prog 17 #[.string a0] w fun e w' => e = .returned (.bool r) ∧ Drawn0 w w' := by
 have H : (bD.l0 k a0 0) = some r := h
 clear h
 have H' := ab H
 clear H
 go_enter Tryz.func17, Tryz.ntmps17
 go_wp2
 (try simp only [Act.put, ap, aq, ar])
 go_loopg [3] k (fun kq v3 w' => ∃ (cM : Int), v3 = .int .i64 cM ∧ Aside0 (bD.l0 kq a0 cM = some r) ∧ Aside0 (kq ≤ k) ∧ Drawn0 w w')
 case atStart => exact ⟨(0), Z7, H', ⟨Nat.le_refl _⟩, Z10⟩
 case round =>
  clear H'
  obtain ⟨cM, rfl, HA, HK1, ⟨m1, rfl⟩⟩ := hrel
  cases gk with
  | zero => exact absurd HA.out (by simp [bD.l0])
  | succ k1 =>
   have H := HA.out
   clear HA
   simp only [bD.l0] at H
   revert H; refine sId1_d0 (fun gJ H => ?_) fun gJ H => ?_
   ·revert H; refine sNd1 fun dX H => ?_
    revert H; refine sIe1n0_e0n1 (fun iJ sT H => ?_) fun iJ sT H => ?_
    ·revert H; refine bnd ?_; rintro ⟨mG, alD⟩ A6 H; try dsimp only at H
     replace H := sB H
     obtain ⟨rfl, H⟩ | ⟨rfl, H⟩ := H
     ·revert H; refine bnd ?_; rintro Gk A8 H
      replace H := sB H
      obtain ⟨rfl, H⟩ | ⟨rfl, H⟩ := H
      ·revert H; refine bnd ?_; rintro ⟨wP, alE⟩ Eg H; try dsimp only at H
       replace H := sB H
       obtain ⟨rfl, H⟩ | ⟨rfl, H⟩ := H
       ·revert H; refine bnd ?_; rintro Gl Eh H
        replace H := sB H
        obtain ⟨rfl, H⟩ | ⟨rfl, H⟩ := H
        ·as_aux_lemma =>
          have H' := ab H
          clear H
          have p4 := ag (ac Z6 : 0 ≤ (cM : Int))
          have q4 := ag (ac Z6 : cM < (a0.size : Int))
          have hx4 := bt_at a0 cM
          exact Z5
        as_aux_lemma =>
         obtain rfl := au H
         have p4 := ag (ac Z6 : 0 ≤ (cM : Int))
         have q4 := ag (ac Z6 : cM < (a0.size : Int))
         have hx4 := bt_at a0 cM
         exact Z5
       as_aux_lemma =>
        obtain rfl := au H
        have p4 := ag (ac Z6 : 0 ≤ (cM : Int))
        have q4 := ag (ac Z6 : cM < (a0.size : Int))
        have hx4 := bt_at a0 cM
        exact Z5
      revert H; refine bnd ?_; rintro Gm Br H
      replace H := sB H
      obtain ⟨rfl, H⟩ | ⟨rfl, H⟩ := H
      ·as_aux_lemma =>
        obtain rfl := au H
        have p4 := ag (ac Z6 : 0 ≤ (cM : Int))
        have q4 := ag (ac Z6 : cM < (a0.size : Int))
        have hx4 := bt_at a0 cM
        exact Z5
      as_aux_lemma =>
       have H' := ab H
       clear H
       have p4 := ag (ac Z6 : 0 ≤ (cM : Int))
       have q4 := ag (ac Z6 : cM < (a0.size : Int))
       have hx4 := bt_at a0 cM
       exact Z5
     as_aux_lemma =>
      have H' := ab H
      clear H
      have p4 := ag (ac Z6 : 0 ≤ (cM : Int))
      have q4 := ag (ac Z6 : cM < (a0.size : Int))
      have hx4 := bt_at a0 cM
      exact Z5
    as_aux_lemma =>
     have H' := ab H
     clear H
     have p4 := ag (ac Z6 : 0 ≤ (cM : Int))
     have q4 := ag (ac Z6 : cM < (a0.size : Int))
     have hx4 := bt_at a0 cM
     go_wp2
     go_roundg k1
     case measure => have := HK1.out; omega
     case rel => exact ⟨(wrap64 (cM + 1)), Z7, H', ⟨by have := HK1.out; omega⟩, Z10⟩
   as_aux_lemma =>
    obtain rfl := au H
    go_wp2
    go_ret
    exact ⟨Z7, Z10⟩
def cG.f (a0 : Int) : Option (Bool) := if a0 = 32 then (some true) else (if a0 = 9 then (some true) else (if a0 = 10 then (some true) else (some (a0 == 13))))
theorem cG.calls (a0 : Int) (r : Bool) (w : World) (h : cG.f a0 = some r) :
 Calls Tryz.prog 31 #[.int .u8 a0] w fun e w' => e = .returned (.bool r) ∧ Drawn0 w w' := by
 unfold cG.f at h
 have H := h
 clear h
 revert H; refine sIe1n0_e0n1 (fun gJ nD H => ?_) fun gJ nD H => ?_
 ·as_aux_lemma =>
   obtain rfl := au H
   go_enter Tryz.func31, Tryz.ntmps31
   go_wp2
   go_ret
   exact ⟨Z7, Z10⟩
 revert H; refine sIe1n0_e0n1 (fun dX oM H => ?_) fun dX oM H => ?_
 ·as_aux_lemma =>
   obtain rfl := au H
   go_enter Tryz.func31, Tryz.ntmps31
   go_wp2
   go_ret
   exact ⟨Z7, Z10⟩
 revert H; refine sIe1n0_e0n1 (fun gT Ca H => ?_) fun gT Ca H => ?_
 ·as_aux_lemma =>
   obtain rfl := au H
   go_enter Tryz.func31, Tryz.ntmps31
   go_wp2
   go_ret
   exact ⟨Z7, Z10⟩
 as_aux_lemma =>
  obtain rfl := au H
  go_enter Tryz.func31, Tryz.ntmps31
  go_wp2
  go_ret
  exact ⟨Z7, Z10⟩
end
end Go.Proofs.YtkjnahgicfmicaaGreatDoor.Sp

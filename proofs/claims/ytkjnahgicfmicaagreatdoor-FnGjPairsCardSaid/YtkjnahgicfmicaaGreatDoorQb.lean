import Derived.Test.YtkjnahgicfmicaaGreatDoorZip
import Derived.Test.YtkjnahgicfmicaaGreatDoorQa
namespace Go.Proofs.YtkjnahgicfmicaaGreatDoor.Sp
section
set_option maxHeartbeats 8000000
set_option maxRecDepth 100000
open Go.RowKit Go.PW Go.PL Go.PM
attribute [local go_sem] max2_int min2_int max_two min_two max_three min_three max_four min_four
set_option linter.unusedVariables false
set_option linter.unusedSimpArgs false
def cR.f (a0 : Int) : Option (Bool) := if 55296 ≤ a0 then (some (decide (a0 ≤ 56319))) else (some false)
theorem cR.calls (a0 : Int) (r : Bool) (w : World) (h : cR.f a0 = some r) :
 Calls Tryz.prog 35 #[.int .i64 a0] w fun e w' => e = .returned (.bool r) ∧ Drawn0 w w' := by
 have H : (if 55296 ≤ a0 then (some (decide (a0 ≤ 56319))) else (some false)) = some r := h
 clear h
 revert H; refine sId1_d0 (fun gS H => ?_) fun gS H => ?_
 ·as_aux_lemma =>
   obtain rfl := au H
   go_enter Tryz.func35, Tryz.ntmps35
   go_wp2
   go_ret
   exact ⟨Z7, Z10⟩
 as_aux_lemma =>
  obtain rfl := au H
  go_enter Tryz.func35, Tryz.ntmps35
  go_wp2
  go_ret
  exact ⟨Z7, Z10⟩
def cY.f (a0 : Int) : Option (Bool) := if 56320 ≤ a0 then (some (decide (a0 ≤ 57343))) else (some false)
theorem cY.calls (a0 : Int) (r : Bool) (w : World) (h : cY.f a0 = some r) :
 Calls Tryz.prog 36 #[.int .i64 a0] w fun e w' => e = .returned (.bool r) ∧ Drawn0 w w' := by
 have H : (if 56320 ≤ a0 then (some (decide (a0 ≤ 57343))) else (some false)) = some r := h
 clear h
 revert H; refine sId1_d0 (fun gS H => ?_) fun gS H => ?_
 ·as_aux_lemma =>
   obtain rfl := au H
   go_enter Tryz.func36, Tryz.ntmps36
   go_wp2
   go_ret
   exact ⟨Z7, Z10⟩
 as_aux_lemma =>
  obtain rfl := au H
  go_enter Tryz.func36, Tryz.ntmps36
  go_wp2
  go_ret
  exact ⟨Z7, Z10⟩
mutual
def aX.j2 : Nat → ByteArray → Int → Int → Int → Int → Option (Int × Int × Bool)
 | 0, _, _, _, _, _ => none
 | k + 1, x0, x1, x7, x8, x9 => if (wrap64 ((x0.size : Int) - x1)) ≤ x8 then (some (65533, 1, false)) else (aX.l0 k x0 x1 x7 x8 x9 1)
def aX.l0 : Nat → ByteArray → Int → Int → Int → Int → Int → Option (Int × Int × Bool)
 | 0, _, _, _, _, _, _ => none
 | k + 1, x0, x1, x7, x8, x9, x10 => if x10 ≤ x8 then (if 0 ≤ (wrap64 (x1 + x10)) then (if (wrap64 (x1 + x10)) < (x0.size : Int) then (if (wrap64 (bt x0 (wrap64 (x1 + x10)))) < 128 then (some (65533, 1, false)) else (if (wrap64 (bt x0 (wrap64 (x1 + x10)))) > 191 then (some (65533, 1, false)) else (aX.l0 k x0 x1 (wrap64 ((wrap64 ((wrap64 (x7 * 64)) + (wrap64 (bt x0 (wrap64 (x1 + x10)))))) - 128)) x8 x9 (wrap64 (x10 + 1))))) else (none)) else (none)) else (if x7 < x9 then (some (65533, 1, false)) else (if x7 > 1114111 then (some (65533, 1, false)) else ((cR.f x7).bind fun Iz => (if Iz = true then (some (65533, 1, false)) else ((cY.f x7).bind fun Ja => (if Ja = true then (some (65533, 1, false)) else (some (x7, wrap64 (x8 + 1), true))))))))
def aX.j0 : Nat → ByteArray → Int → Int → Bool → Option (Int × Int × Bool)
 | 0, _, _, _, _ => none
 | k + 1, x0, x1, x7, x20 => if x20 = true then (aX.j2 k x0 x1 (wrap64 (x7 - 192)) 1 128) else (if 224 ≤ x7 then (aX.j1 k x0 x1 x7 (decide (x7 ≤ 239))) else (aX.j1 k x0 x1 x7 false))
def aX.j1 : Nat → ByteArray → Int → Int → Bool → Option (Int × Int × Bool)
 | 0, _, _, _, _ => none
 | k + 1, x0, x1, x7, x29 => if x29 = true then (aX.j2 k x0 x1 (wrap64 (x7 - 224)) 2 2048) else (if 240 ≤ x7 then (if x7 ≤ 244 then (aX.j2 k x0 x1 (wrap64 (x7 - 240)) 3 65536) else (some (65533, 1, false))) else (some (65533, 1, false)))
end
def aX.f (k : Nat) (a0 : ByteArray) (a1 : Int) : Option (Int × Int × Bool) := if 0 ≤ a1 then (if a1 < (a0.size : Int) then (if (wrap64 (bt a0 a1)) < 128 then (some (wrap64 (bt a0 a1), 1, true)) else (if 194 ≤ (wrap64 (bt a0 a1)) then (aX.j0 k a0 a1 (wrap64 (bt a0 a1)) (decide ((wrap64 (bt a0 a1)) ≤ 223))) else (aX.j0 k a0 a1 (wrap64 (bt a0 a1)) false))) else (none)) else (none)
theorem aX.mono_l : ∀ k, (∀ y0 y1 y2 y3 y4, LeO (aX.j2 k y0 y1 y2 y3 y4) (aX.j2 (k + 1) y0 y1 y2 y3 y4)) ∧ (∀ y0 y1 y2 y3 y4 y5, LeO (aX.l0 k y0 y1 y2 y3 y4 y5) (aX.l0 (k + 1) y0 y1 y2 y3 y4 y5)) ∧ (∀ y0 y1 y2 y3, LeO (aX.j0 k y0 y1 y2 y3) (aX.j0 (k + 1) y0 y1 y2 y3)) ∧ (∀ y0 y1 y2 y3, LeO (aX.j1 k y0 y1 y2 y3) (aX.j1 (k + 1) y0 y1 y2 y3))
 | 0 => ⟨fun _ _ _ _ _ r h => by simp [aX.j2] at h, fun _ _ _ _ _ _ r h => by simp [aX.l0] at h, fun _ _ _ _ r h => by simp [aX.j0] at h, fun _ _ _ _ r h => by simp [aX.j1] at h⟩
 | k + 1 => by
  obtain ⟨ih0, ih1, ih2, ih3⟩ := aX.mono_l k
  refine ⟨?_, ?_, ?_, ?_⟩
  ·intro y0 y1 y2 y3 y4
   unfold aX.j2
   repeat' first
   | (with_reducible exact ih0 _ _ _ _ _)
   | (with_reducible exact ih1 _ _ _ _ _ _)
   | (with_reducible exact ih2 _ _ _ _)
   | (with_reducible exact ih3 _ _ _ _)
   | (with_reducible exact LeO.refl _)
   | (with_reducible exact LeO.none _)
   | (with_reducible refine LeO.ite ?_ ?_)
   | (with_reducible refine LeO.bind ?_ (fun _ => ?_))
   | exact ih0 _ _ _ _ _
   | exact ih1 _ _ _ _ _ _
   | exact ih2 _ _ _ _
   | exact ih3 _ _ _ _
   | exact LeO.none _
   | refine LeO.ite ?_ ?_
   | refine LeO.bind ?_ (fun _ => ?_)
  ·intro y0 y1 y2 y3 y4 y5
   unfold aX.l0
   repeat' first
   | (with_reducible exact ih0 _ _ _ _ _)
   | (with_reducible exact ih1 _ _ _ _ _ _)
   | (with_reducible exact ih2 _ _ _ _)
   | (with_reducible exact ih3 _ _ _ _)
   | (with_reducible exact LeO.refl _)
   | (with_reducible exact LeO.none _)
   | (with_reducible refine LeO.ite ?_ ?_)
   | (with_reducible refine LeO.bind ?_ (fun _ => ?_))
   | exact ih0 _ _ _ _ _
   | exact ih1 _ _ _ _ _ _
   | exact ih2 _ _ _ _
   | exact ih3 _ _ _ _
   | exact LeO.none _
   | refine LeO.ite ?_ ?_
   | refine LeO.bind ?_ (fun _ => ?_)
  ·intro y0 y1 y2 y3
   unfold aX.j0
   repeat' first
   | (with_reducible exact ih0 _ _ _ _ _)
   | (with_reducible exact ih1 _ _ _ _ _ _)
   | (with_reducible exact ih2 _ _ _ _)
   | (with_reducible exact ih3 _ _ _ _)
   | (with_reducible exact LeO.refl _)
   | (with_reducible exact LeO.none _)
   | (with_reducible refine LeO.ite ?_ ?_)
   | (with_reducible refine LeO.bind ?_ (fun _ => ?_))
   | exact ih0 _ _ _ _ _
   | exact ih1 _ _ _ _ _ _
   | exact ih2 _ _ _ _
   | exact ih3 _ _ _ _
   | exact LeO.none _
   | refine LeO.ite ?_ ?_
   | refine LeO.bind ?_ (fun _ => ?_)
  ·intro y0 y1 y2 y3
   unfold aX.j1
   repeat' first
   | (with_reducible exact ih0 _ _ _ _ _)
   | (with_reducible exact ih1 _ _ _ _ _ _)
   | (with_reducible exact ih2 _ _ _ _)
   | (with_reducible exact ih3 _ _ _ _)
   | (with_reducible exact LeO.refl _)
   | (with_reducible exact LeO.none _)
   | (with_reducible refine LeO.ite ?_ ?_)
   | (with_reducible refine LeO.bind ?_ (fun _ => ?_))
   | exact ih0 _ _ _ _ _
   | exact ih1 _ _ _ _ _ _
   | exact ih2 _ _ _ _
   | exact ih3 _ _ _ _
   | exact LeO.none _
   | refine LeO.ite ?_ ?_
   | refine LeO.bind ?_ (fun _ => ?_)
theorem aX.mono : ∀ a0 a1 k, LeO (aX.f k a0 a1) (aX.f (k + 1) a0 a1) := by
 intro a0 a1 k
 obtain ⟨ih0, ih1, ih2, ih3⟩ := aX.mono_l k
 unfold aX.f
 exact zM
theorem aX.calls (k : Nat) (a0 : ByteArray) (a1 : Int) (r1 : Int) (r2 : Int) (r3 : Bool) (w : World) (h : aX.f k a0 a1 = some (r1, r2, r3)) :
 Calls Tryz.prog 33 #[.string a0, .int .i64 a1] w fun e w' => e = .returned (.tuple #[.int .i64 r1, .int .i64 r2, .bool r3]) ∧ Drawn0 w w' := by
 have H : (if 0 ≤ a1 then (if a1 < (a0.size : Int) then (if (wrap64 (bt a0 a1)) < 128 then (some (wrap64 (bt a0 a1), 1, true)) else (if 194 ≤ (wrap64 (bt a0 a1)) then (aX.j0 k a0 a1 (wrap64 (bt a0 a1)) (decide ((wrap64 (bt a0 a1)) ≤ 223))) else (aX.j0 k a0 a1 (wrap64 (bt a0 a1)) false))) else (none)) else (none)) = some (r1, r2, r3) := h
 clear h
 revert H; refine sNd1 fun dY H => ?_
 revert H; refine sNd1 fun gY H => ?_
 have HC6 := ab H
 clear H
 have p5 := ag (ac Z6 : 0 ≤ (a1 : Int))
 have q5 := ag (ac Z6 : a1 < (a0.size : Int))
 have hx5 := bt_at a0 a1
 go_enter Tryz.func33, Tryz.ntmps33
 go_upto_block 0 with (fail)
 go_cut [7, 8, 9] (fun v7 v8 v9 wc => ∃ (kq : Nat) (zR : Int) (wZ : Int) (xA : Int), v7 = .int .i64 zR ∧ v8 = .int .i64 wZ ∧ v9 = .int .i64 xA ∧ Aside0 (aX.j2 kq a0 a1 zR wZ xA = some (r1, r2, r3)) ∧ Aside0 (kq ≤ k) ∧ Drawn0 w wc)
 case first =>
  have H := HC6.out
  clear HC6
  revert H; refine sId1_d0 (fun iH H => ?_) fun iH H => ?_
  ·(first | rw [iH] | (simp only [i64_w, i32_w]; rw [iH]) | skip)
   as_aux_lemma =>
    simp only [am, an] at H
    obtain ⟨rfl, rfl, rfl⟩ := H
    go_wp2
    go_ret3
    exact ⟨Z7, Z10⟩
  (first | rw [iH] | (simp only [i64_w, i32_w]; rw [iH]) | skip)
  have HC8 := ab H
  clear H
  go_upto_region 6 with (fail)
  go_cut [20] (fun v20 wc => ∃ (kq : Nat) (xB : Bool), v20 = .bool xB ∧ Aside0 (aX.j0 kq a0 a1 (wrap64 (bt a0 a1)) xB = some (r1, r2, r3)) ∧ Aside0 (kq ≤ k) ∧ Drawn0 w wc)
  case first =>
   have H := HC8.out
   clear HC8
   revert H; refine sId1_d0 (fun mJ H => ?_) fun mJ H => ?_
   ·(first | rw [mJ] | (simp only [i64_w, i32_w]; rw [mJ]) | skip)
    as_aux_lemma =>
     have H' := ab H
     clear H
     go_wp2
     go_meet
     case rel => exact ⟨_, (decide ((wrap64 (bt a0 a1)) ≤ 223)), Z7, H', ⟨Z26⟩, Z10⟩
   (first | rw [mJ] | (simp only [i64_w, i32_w]; rw [mJ]) | skip)
   as_aux_lemma =>
    have H' := ab H
    clear H
    go_wp2
    go_meet
    case rel => exact ⟨_, (false), Z7, H', ⟨Z26⟩, Z10⟩
  case rest =>
   clear HC8
   try clear dY gY p5 q5 hx5 iH
   obtain ⟨kq, xB, rfl, HA, HJ7, ⟨mc7, rfl⟩⟩ := hcut
   cases kq with
   | zero => exact absurd HA.out (by simp [aX.j0])
   | succ kj7 =>
    have H := HA.out
    clear HA
    simp only [aX.j0] at H
    replace H := sB H
    obtain ⟨rfl, H⟩ | ⟨rfl, H⟩ := H
    ·as_aux_lemma =>
      have H' := ab H
      clear H
      go_wp2
      go_meet
      case rel => exact ⟨_, (wrap64 ((wrap64 (bt a0 a1)) - 192)), (1), (128), Z7, Z7, Z7, H', ⟨by have := HJ7.out; first | omega | exact Nat.le_refl _⟩, Z10⟩
    have rH := ab H
    clear H
    go_upto_region 8 with (fail)
    go_cut [29] (fun v29 wc => ∃ (kq : Nat) (rI : Bool), v29 = .bool rI ∧ Aside0 (aX.j1 kq a0 a1 (wrap64 (bt a0 a1)) rI = some (r1, r2, r3)) ∧ Aside0 (kq ≤ kj7) ∧ Drawn0 w wc)
    case first =>
     have H := rH.out
     clear rH
     revert H; refine sId1_d0 (fun kU H => ?_) fun kU H => ?_
     ·(first | rw [kU] | (simp only [i64_w, i32_w]; rw [kU]) | skip)
      as_aux_lemma =>
       have H' := ab H
       clear H
       go_wp2
       go_meet
       case rel => exact ⟨_, (decide ((wrap64 (bt a0 a1)) ≤ 239)), Z7, H', ⟨by have := HJ7.out; first | omega | exact Nat.le_refl _⟩, Z10⟩
     (first | rw [kU] | (simp only [i64_w, i32_w]; rw [kU]) | skip)
     as_aux_lemma =>
      have H' := ab H
      clear H
      go_wp2
      go_meet
      case rel => exact ⟨_, (false), Z7, H', ⟨by have := HJ7.out; first | omega | exact Nat.le_refl _⟩, Z10⟩
    case rest =>
     clear rH
     obtain ⟨kq, rI, rfl, HA, HJ10, ⟨mc10, rfl⟩⟩ := hcut
     cases kq with
     | zero => exact absurd HA.out (by simp [aX.j1])
     | succ kj10 =>
      have H := HA.out
      clear HA
      simp only [aX.j1] at H
      replace H := sB H
      obtain ⟨rfl, H⟩ | ⟨rfl, H⟩ := H
      ·as_aux_lemma =>
        have H' := ab H
        clear H
        go_wp2
        go_meet
        case rel => exact ⟨_, (wrap64 ((wrap64 (bt a0 a1)) - 224)), (2), (2048), Z7, Z7, Z7, H', ⟨by have := HJ7.out; have := HJ10.out; first | omega | exact Nat.le_refl _⟩, Z10⟩
      revert H; refine sId1_d0 (fun fY H => ?_) fun fY H => ?_
      ·revert H; refine sId1_d0 (fun kA H => ?_) fun kA H => ?_
       ·as_aux_lemma =>
         have H' := ab H
         clear H
         go_wp2
         go_meet
         case rel => exact ⟨_, (wrap64 ((wrap64 (bt a0 a1)) - 240)), (3), (65536), Z7, Z7, Z7, H', ⟨by have := HJ7.out; have := HJ10.out; first | omega | exact Nat.le_refl _⟩, Z10⟩
       as_aux_lemma =>
        simp only [am, an] at H
        obtain ⟨rfl, rfl, rfl⟩ := H
        go_wp2
        go_ret3
        exact ⟨Z7, Z10⟩
      as_aux_lemma =>
       simp only [am, an] at H
       obtain ⟨rfl, rfl, rfl⟩ := H
       go_wp2
       go_ret3
       exact ⟨Z7, Z10⟩
 case rest =>
  clear HC6
  try clear dY gY p5 q5 hx5
  obtain ⟨kq, zR, wZ, xA, rfl, rfl, rfl, HA, HJ5, ⟨mc5, rfl⟩⟩ := hcut
  cases kq with
  | zero => exact absurd HA.out (by simp [aX.j2])
  | succ kj5 =>
   have H := HA.out
   clear HA
   simp only [aX.j2] at H
   revert H; refine sId1_d0 (fun iP H => ?_) fun iP H => ?_
   ·as_aux_lemma =>
     simp only [am, an] at H
     obtain ⟨rfl, rfl, rfl⟩ := H
     go_wp2
     go_ret3
     exact ⟨Z7, Z10⟩
   have H' := ab H
   clear H
   go_wp2
   (try simp only [Act.put, ap, aq, ar])
   go_loopg [7, 10] kj5 (fun kq v7 v10 w' => ∃ (gB : Int) (nA : Int), v7 = .int .i64 gB ∧ v10 = .int .i64 nA ∧ Aside0 (aX.l0 kq a0 a1 gB wZ xA nA = some (r1, r2, r3)) ∧ Aside0 (kq ≤ kj5) ∧ Drawn0 w w')
   case atStart => exact ⟨(zR), (1), Z7, Z7, H', ⟨Nat.le_refl _⟩, Z10⟩
   case round =>
    clear H'
    try clear iP
    obtain ⟨gB, nA, rfl, rfl, HA, HK2, ⟨m2, rfl⟩⟩ := hrel
    cases gk with
    | zero => exact absurd HA.out (by simp [aX.l0])
    | succ k2 =>
     have H := HA.out
     clear HA
     simp only [aX.l0] at H
     revert H; refine sId1_d0 (fun sC H => ?_) fun sC H => ?_
     ·obtain ⟨jE, sD⟩ : ∃ j_ : Int, (wrap64 (a1 + nA)) = j_ := ⟨_, rfl⟩
      replace H : (if 0 ≤ (jE) then (if (jE) < (a0.size : Int) then (if (wrap64 (bt a0 (jE))) < 128 then (some (65533, 1, false)) else (if (wrap64 (bt a0 (jE))) > 191 then (some (65533, 1, false)) else (aX.l0 k2 a0 a1 (wrap64 ((wrap64 ((wrap64 (gB * 64)) + (wrap64 (bt a0 (jE))))) - 128)) wZ xA (wrap64 (nA + 1))))) else (none)) else (none)) = some (r1, r2, r3) := by first | (rw [sD] at H; exact H) | (simp only [sD] at H ⊢; exact H)
      have hji18w : (IntKind.i64.wrap (a1 + nA)) = jE := (i64_w _).trans sD
      revert H; refine sNd1 fun sE H => ?_
      revert H; refine sNd1 fun oF H => ?_
      revert H; refine sId1_d0 (fun jH H => ?_) fun jH H => ?_
      ·as_aux_lemma =>
        simp only [am, an] at H
        obtain ⟨rfl, rfl, rfl⟩ := H
        have p21 := ag (ac Z6 : 0 ≤ ((jE) : Int))
        have q21 := ag (ac Z6 : (jE) < (a0.size : Int))
        have hx21 := bt_at a0 (jE)
        go_wp2
        go_ret3
        exact ⟨Z66, Z10⟩
      revert H; refine sIk_k (fun c23 H => ?_) fun c23 H => ?_
      ·have mA : decide (191 < (wrap64 (bt a0 (jE)))) = true := ae c23
       clear c23
       as_aux_lemma =>
        simp only [am, an] at H
        obtain ⟨rfl, rfl, rfl⟩ := H
        have p21 := ag (ac Z6 : 0 ≤ ((jE) : Int))
        have q21 := ag (ac Z6 : (jE) < (a0.size : Int))
        have hx21 := bt_at a0 (jE)
        go_wp2
        go_ret3
        exact ⟨Z66, Z10⟩
      have mA : decide (191 < (wrap64 (bt a0 (jE)))) = false := af c23
      clear c23
      as_aux_lemma =>
       have H' := ab H
       clear H
       have p21 := ag (ac Z6 : 0 ≤ ((jE) : Int))
       have q21 := ag (ac Z6 : (jE) < (a0.size : Int))
       have hx21 := bt_at a0 (jE)
       go_wp2
       go_roundg k2
       case measure => have := HJ5.out; have := HK2.out; omega
       case rel => exact ⟨(wrap64 ((wrap64 ((wrap64 (gB * 64)) + (wrap64 (bt a0 (jE))))) - 128)), (wrap64 (nA + 1)), Z66, Z7, H', ⟨by have := HJ5.out; have := HK2.out; omega⟩, Z10⟩
     revert H; refine sId1_d0 (fun oG H => ?_) fun oG H => ?_
     ·as_aux_lemma =>
       simp only [am, an] at H
       obtain ⟨rfl, rfl, rfl⟩ := H
       go_wp2
       go_ret3
       exact ⟨Z7, Z10⟩
     revert H; refine sIk_k (fun c25 H => ?_) fun c25 H => ?_
     ·have kB : decide (1114111 < gB) = true := ae c25
      clear c25
      as_aux_lemma =>
       simp only [am, an] at H
       obtain ⟨rfl, rfl, rfl⟩ := H
       go_wp2
       go_ret3
       exact ⟨Z7, Z10⟩
     have kB : decide (1114111 < gB) = false := af c25
     clear c25
     revert H; refine bnd ?_; rintro Iz Jb H
     replace H := sB H
     obtain ⟨rfl, H⟩ | ⟨rfl, H⟩ := H
     ·as_aux_lemma =>
       simp only [am, an] at H
       obtain ⟨rfl, rfl, rfl⟩ := H
       go_wp2_with (first | (go_at_call 35; (with_reducible refine (cR.calls gB true _ Jb.out).mono ?_); rintro e w' ⟨rfl, ⟨nd, rfl⟩⟩))
       go_ret3
       exact ⟨Z7, Z10⟩
     revert H; refine bnd ?_; rintro Ja yY H
     replace H := sB H
     obtain ⟨rfl, H⟩ | ⟨rfl, H⟩ := H
     ·as_aux_lemma =>
       simp only [am, an] at H
       obtain ⟨rfl, rfl, rfl⟩ := H
       go_wp2_with (first | (go_at_call 35; (with_reducible refine (cR.calls gB false _ Jb.out).mono ?_); rintro e w' ⟨rfl, ⟨nd, rfl⟩⟩) | (go_at_call 36; (with_reducible refine (cY.calls gB true _ yY.out).mono ?_); rintro e w' ⟨rfl, ⟨nd, rfl⟩⟩))
       go_ret3
       exact ⟨Z7, Z10⟩
     as_aux_lemma =>
      simp only [am, an] at H
      obtain ⟨rfl, rfl, rfl⟩ := H
      go_wp2_with (first | (go_at_call 35; (with_reducible refine (cR.calls gB false _ Jb.out).mono ?_); rintro e w' ⟨rfl, ⟨nd, rfl⟩⟩) | (go_at_call 36; (with_reducible refine (cY.calls gB false _ yY.out).mono ?_); rintro e w' ⟨rfl, ⟨nd, rfl⟩⟩))
      go_ret3
      exact ⟨Z7, Z10⟩
def bT.l0 : Nat → ByteArray → Int → Option (Bool)
 | 0, _, _ => none
 | k + 1, x0, x3 => if x3 < (x0.size : Int) then ((aX.f k x0 x3).bind fun bt103 => (if bt103.2.2 = true then (bT.l0 k x0 (wrap64 (x3 + bt103.2.1))) else (some false))) else (some true)
def bT.f (k : Nat) (a0 : ByteArray) : Option (Bool) := bT.l0 k a0 0
theorem bT.mono_l : ∀ k, (∀ y0 y1, LeO (bT.l0 k y0 y1) (bT.l0 (k + 1) y0 y1))
 | 0 => fun _ _ r h => by simp [bT.l0] at h
 | k + 1 => by
  have ih0 := bT.mono_l k
  ·intro y0 y1
   unfold bT.l0
   repeat' first
   | (with_reducible exact ih0 _ _)
   | (with_reducible exact aX.mono _ _ _)
   | (with_reducible exact LeO.refl _)
   | (with_reducible exact LeO.none _)
   | (with_reducible refine LeO.ite ?_ ?_)
   | (with_reducible refine LeO.bind ?_ (fun _ => ?_))
   | exact ih0 _ _
   | exact aX.mono _ _ _
   | exact LeO.none _
   | refine LeO.ite ?_ ?_
   | refine LeO.bind ?_ (fun _ => ?_)
theorem bT.mono : ∀ a0 k, LeO (bT.f k a0) (bT.f (k + 1) a0) := by
 intro a0 k
 have ih0 := bT.mono_l k
 unfold bT.f
 exact zM
theorem bT.calls (k : Nat) (a0 : ByteArray) (r : Bool) (w : World) (h : bT.f k a0 = some r) :
 Calls Tryz.prog 16 #[.string a0] w fun e w' => e = .returned (.bool r) ∧ Drawn0 w w' := by
 have H : (bT.l0 k a0 0) = some r := h
 clear h
 have H' := ab H
 clear H
 go_enter Tryz.func16, Tryz.ntmps16
 go_wp2
 (try simp only [Act.put, ap, aq, ar])
 go_loopg [3] k (fun kq v3 w' => ∃ (cO : Int), v3 = .int .i64 cO ∧ Aside0 (bT.l0 kq a0 cO = some r) ∧ Aside0 (kq ≤ k) ∧ Drawn0 w w')
 case atStart => exact ⟨(0), Z7, H', ⟨Nat.le_refl _⟩, Z10⟩
 case round =>
  clear H'
  obtain ⟨cO, rfl, HA, HK1, ⟨m1, rfl⟩⟩ := hrel
  cases gk with
  | zero => exact absurd HA.out (by simp [bT.l0])
  | succ k1 =>
   have H := HA.out
   clear HA
   simp only [bT.l0] at H
   revert H; refine sId1_d0 (fun gS H => ?_) fun gS H => ?_
   ·revert H; refine bnd ?_; rintro ⟨Jc, Gc, apS⟩ A3 H; try dsimp only at H
    replace H := sB H
    obtain ⟨rfl, H⟩ | ⟨rfl, H⟩ := H
    ·as_aux_lemma =>
      have H' := ab H
      clear H
      go_wp2_with (first | (refine gl 33 (some 14) Tryz.func33 #[.string a0, .int .i64 cO] ?_; (with_reducible refine (aX.calls k1 a0 cO Jc Gc true _ A3.out).mono ?_); rintro e w' ⟨rfl, ⟨nd, rfl⟩⟩; refine ⟨_, rfl, ?_⟩))
      go_roundg k1
      case measure => have := HK1.out; omega
      case rel => exact ⟨(wrap64 (cO + Gc)), Z7, H', ⟨by have := HK1.out; omega⟩, Z10⟩
    as_aux_lemma =>
     obtain rfl := au H
     go_wp2_with (first | (refine gl 33 (some 14) Tryz.func33 #[.string a0, .int .i64 cO] ?_; (with_reducible refine (aX.calls k1 a0 cO Jc Gc false _ A3.out).mono ?_); rintro e w' ⟨rfl, ⟨nd, rfl⟩⟩; refine ⟨_, rfl, ?_⟩))
     go_ret
     exact ⟨Z7, Z10⟩
   as_aux_lemma =>
    obtain rfl := au H
    go_wp2
    go_ret
    exact ⟨Z7, Z10⟩
end
section
set_option maxHeartbeats 8000000
set_option maxRecDepth 100000
open Go.RowKit Go.PW Go.PL Go.PM
attribute [local go_sem] max2_int min2_int max_two min_two max_three min_three max_four min_four
set_option linter.unusedVariables false
set_option linter.unusedSimpArgs false
mutual
def aZ.j0 : Nat → Int → Bool → Option (Int × Bool)
 | 0, _, _ => none
 | k + 1, x0, x4 => if x4 = true then (some ((x0 - 48) % 256, true)) else (if 97 ≤ x0 then (aZ.j1 k x0 (decide (x0 ≤ 102))) else (aZ.j1 k x0 false))
def aZ.j1 : Nat → Int → Bool → Option (Int × Bool)
 | 0, _, _ => none
 | k + 1, x0, x14 => if x14 = true then (some (((x0 - 97) % 256) + 10, true)) else (if 65 ≤ x0 then (if x0 ≤ 70 then (some (((x0 - 65) % 256) + 10, true)) else (some (0, false))) else (some (0, false)))
end
def aZ.f (k : Nat) (a0 : Int) : Option (Int × Bool) := if 48 ≤ a0 then (aZ.j0 k a0 (decide (a0 ≤ 57))) else (aZ.j0 k a0 false)
theorem aZ.mono_l : ∀ k, (∀ y0 y1, LeO (aZ.j0 k y0 y1) (aZ.j0 (k + 1) y0 y1)) ∧ (∀ y0 y1, LeO (aZ.j1 k y0 y1) (aZ.j1 (k + 1) y0 y1))
 | 0 => ⟨fun _ _ r h => by simp [aZ.j0] at h, fun _ _ r h => by simp [aZ.j1] at h⟩
 | k + 1 => by
  obtain ⟨ih0, ih1⟩ := aZ.mono_l k
  refine ⟨?_, ?_⟩
  ·intro y0 y1
   unfold aZ.j0
   repeat' first
   | (with_reducible exact ih0 _ _)
   | (with_reducible exact ih1 _ _)
   | (with_reducible exact LeO.refl _)
   | (with_reducible exact LeO.none _)
   | (with_reducible refine LeO.ite ?_ ?_)
   | (with_reducible refine LeO.bind ?_ (fun _ => ?_))
   | exact ih0 _ _
   | exact ih1 _ _
   | exact LeO.none _
   | refine LeO.ite ?_ ?_
   | refine LeO.bind ?_ (fun _ => ?_)
  ·intro y0 y1
   unfold aZ.j1
   repeat' first
   | (with_reducible exact ih0 _ _)
   | (with_reducible exact ih1 _ _)
   | (with_reducible exact LeO.refl _)
   | (with_reducible exact LeO.none _)
   | (with_reducible refine LeO.ite ?_ ?_)
   | (with_reducible refine LeO.bind ?_ (fun _ => ?_))
   | exact ih0 _ _
   | exact ih1 _ _
   | exact LeO.none _
   | refine LeO.ite ?_ ?_
   | refine LeO.bind ?_ (fun _ => ?_)
theorem aZ.mono : ∀ a0 k, LeO (aZ.f k a0) (aZ.f (k + 1) a0) := by
 intro a0 k
 obtain ⟨ih0, ih1⟩ := aZ.mono_l k
 unfold aZ.f
 exact zM
theorem aZ.calls (k : Nat) (a0 : Int) (r1 : Int) (r2 : Bool) (w : World) (h : aZ.f k a0 = some (r1, r2)) :
 Calls Tryz.prog 55 #[.int .u8 a0] w fun e w' => e = .returned (.tuple #[.int .i64 r1, .bool r2]) ∧ Drawn0 w w' := by
 have H : (if 48 ≤ a0 then (aZ.j0 k a0 (decide (a0 ≤ 57))) else (aZ.j0 k a0 false)) = some (r1, r2) := h
 clear h
 have rC := ab H
 clear H
 go_enter Tryz.func55, Tryz.ntmps55
 go_upto_region 1 with (fail)
 go_cut [4] (fun v4 wc => ∃ (kq : Nat) (cZ : Bool), v4 = .bool cZ ∧ Aside0 (aZ.j0 kq a0 cZ = some (r1, r2)) ∧ Aside0 (kq ≤ k) ∧ Drawn0 w wc)
 case first =>
  have H := rC.out
  clear rC
  revert H; refine sId1_d0 (fun dY H => ?_) fun dY H => ?_
  ·(first | rw [dY] | (simp only [i64_w, i32_w]; rw [dY]) | skip)
   as_aux_lemma =>
    have H' := ab H
    clear H
    go_wp2
    go_meet
    case rel => exact ⟨_, (decide (a0 ≤ 57)), Z7, H', ⟨Z26⟩, Z10⟩
  (first | rw [dY] | (simp only [i64_w, i32_w]; rw [dY]) | skip)
  as_aux_lemma =>
   have H' := ab H
   clear H
   go_wp2
   go_meet
   case rel => exact ⟨_, (false), Z7, H', ⟨Z26⟩, Z10⟩
 case rest =>
  clear rC
  obtain ⟨kq, cZ, rfl, HA, HJ1, ⟨mc1, rfl⟩⟩ := hcut
  cases kq with
  | zero => exact absurd HA.out (by simp [aZ.j0])
  | succ kj1 =>
   have H := HA.out
   clear HA
   simp only [aZ.j0] at H
   replace H := sB H
   obtain ⟨rfl, H⟩ | ⟨rfl, H⟩ := H
   ·as_aux_lemma =>
     simp only [am, an] at H
     obtain ⟨rfl, rfl⟩ := H
     go_wp2
     go_ret2
     exact ⟨Z7, Z10⟩
   have El := ab H
   clear H
   go_upto_region 3 with (fail)
   go_cut [14] (fun v14 wc => ∃ (kq : Nat) (xW : Bool), v14 = .bool xW ∧ Aside0 (aZ.j1 kq a0 xW = some (r1, r2)) ∧ Aside0 (kq ≤ kj1) ∧ Drawn0 w wc)
   case first =>
    have H := El.out
    clear El
    revert H; refine sId1_d0 (fun eI H => ?_) fun eI H => ?_
    ·(first | rw [eI] | (simp only [i64_w, i32_w]; rw [eI]) | skip)
     as_aux_lemma =>
      have H' := ab H
      clear H
      go_wp2
      go_meet
      case rel => exact ⟨_, (decide (a0 ≤ 102)), Z7, H', ⟨by have := HJ1.out; first | omega | exact Nat.le_refl _⟩, Z10⟩
    (first | rw [eI] | (simp only [i64_w, i32_w]; rw [eI]) | skip)
    as_aux_lemma =>
     have H' := ab H
     clear H
     go_wp2
     go_meet
     case rel => exact ⟨_, (false), Z7, H', ⟨by have := HJ1.out; first | omega | exact Nat.le_refl _⟩, Z10⟩
   case rest =>
    clear El
    obtain ⟨kq, xW, rfl, HA, HJ4, ⟨mc4, rfl⟩⟩ := hcut
    cases kq with
    | zero => exact absurd HA.out (by simp [aZ.j1])
    | succ kj4 =>
     have H := HA.out
     clear HA
     simp only [aZ.j1] at H
     replace H := sB H
     obtain ⟨rfl, H⟩ | ⟨rfl, H⟩ := H
     ·as_aux_lemma =>
       simp only [am, an] at H
       obtain ⟨rfl, rfl⟩ := H
       go_wp2
       go_ret2
       exact ⟨Z7, Z10⟩
     revert H; refine sId1_d0 (fun iL H => ?_) fun iL H => ?_
     ·revert H; refine sId1_d0 (fun mJ H => ?_) fun mJ H => ?_
      ·as_aux_lemma =>
        simp only [am, an] at H
        obtain ⟨rfl, rfl⟩ := H
        go_wp2
        go_ret2
        exact ⟨Z7, Z10⟩
      as_aux_lemma =>
       simp only [am, an] at H
       obtain ⟨rfl, rfl⟩ := H
       go_wp2
       go_ret2
       exact ⟨Z7, Z10⟩
     as_aux_lemma =>
      simp only [am, an] at H
      obtain ⟨rfl, rfl⟩ := H
      go_wp2
      go_ret2
      exact ⟨Z7, Z10⟩
mutual
def bD.j0 : Nat → ByteArray → Int → Bool → Option (Int × Bool)
 | 0, _, _, _ => none
 | k + 1, x0, x1, x27 => if x27 = true then (some (0, false)) else (bD.l0 k x0 x1 0 (wrap64 (x1 + 2)))
def bD.l0 : Nat → ByteArray → Int → Int → Int → Option (Int × Bool)
 | 0, _, _, _, _ => none
 | k + 1, x0, x1, x6, x7 => if x7 < (wrap64 (x1 + 6)) then (if 0 ≤ x7 then (if x7 < (x0.size : Int) then ((aZ.f k (bt x0 x7)).bind fun bt106 => (if bt106.2 = true then (bD.l0 k x0 x1 (wrap64 ((wrap64 (x6 * 16)) + bt106.1)) (wrap64 (x7 + 1))) else (some (0, false)))) else (none)) else (none)) else (some (x6, true))
end
def bD.f (k : Nat) (a0 : ByteArray) (a1 : Int) : Option (Int × Bool) := if (wrap64 ((a0.size : Int) - a1)) < 6 then (bD.j0 k a0 a1 true) else (if 0 ≤ a1 then (if a1 < (a0.size : Int) then (if (bt a0 a1) = 92 then (if 0 ≤ (wrap64 (a1 + 1)) then (if (wrap64 (a1 + 1)) < (a0.size : Int) then (bD.j0 k a0 a1 ((bt a0 (wrap64 (a1 + 1))) != 117)) else (none)) else (none)) else (bD.j0 k a0 a1 true)) else (none)) else (none))
theorem bD.mono_l : ∀ k, (∀ y0 y1 y2, LeO (bD.j0 k y0 y1 y2) (bD.j0 (k + 1) y0 y1 y2)) ∧ (∀ y0 y1 y2 y3, LeO (bD.l0 k y0 y1 y2 y3) (bD.l0 (k + 1) y0 y1 y2 y3))
 | 0 => ⟨fun _ _ _ r h => by simp [bD.j0] at h, fun _ _ _ _ r h => by simp [bD.l0] at h⟩
 | k + 1 => by
  obtain ⟨ih0, ih1⟩ := bD.mono_l k
  refine ⟨?_, ?_⟩
  ·intro y0 y1 y2
   unfold bD.j0
   repeat' first
   | (with_reducible exact ih0 _ _ _)
   | (with_reducible exact ih1 _ _ _ _)
   | (with_reducible exact aZ.mono _ _)
   | (with_reducible exact LeO.refl _)
   | (with_reducible exact LeO.none _)
   | (with_reducible refine LeO.ite ?_ ?_)
   | (with_reducible refine LeO.bind ?_ (fun _ => ?_))
   | exact ih0 _ _ _
   | exact ih1 _ _ _ _
   | exact aZ.mono _ _
   | exact LeO.none _
   | refine LeO.ite ?_ ?_
   | refine LeO.bind ?_ (fun _ => ?_)
  ·intro y0 y1 y2 y3
   unfold bD.l0
   repeat' first
   | (with_reducible exact ih0 _ _ _)
   | (with_reducible exact ih1 _ _ _ _)
   | (with_reducible exact aZ.mono _ _)
   | (with_reducible exact LeO.refl _)
   | (with_reducible exact LeO.none _)
   | (with_reducible refine LeO.ite ?_ ?_)
   | (with_reducible refine LeO.bind ?_ (fun _ => ?_))
   | exact ih0 _ _ _
   | exact ih1 _ _ _ _
   | exact aZ.mono _ _
   | exact LeO.none _
   | refine LeO.ite ?_ ?_
   | refine LeO.bind ?_ (fun _ => ?_)
theorem bD.mono : ∀ a0 a1 k, LeO (bD.f k a0 a1) (bD.f (k + 1) a0 a1) := by
 intro a0 a1 k
 obtain ⟨ih0, ih1⟩ := bD.mono_l k
 unfold bD.f
 exact zM
theorem bD.calls (k : Nat) (a0 : ByteArray) (a1 : Int) (r1 : Int) (r2 : Bool) (w : World) (h : bD.f k a0 a1 = some (r1, r2)) :
 Calls Tryz.prog 34 #[.string a0, .int .i64 a1] w fun e w' => e = .returned (.tuple #[.int .i64 r1, .bool r2]) ∧ Drawn0 w w' := by
 have H : (if (wrap64 ((a0.size : Int) - a1)) < 6 then (bD.j0 k a0 a1 true) else (if 0 ≤ a1 then (if a1 < (a0.size : Int) then (if (bt a0 a1) = 92 then (if 0 ≤ (wrap64 (a1 + 1)) then (if (wrap64 (a1 + 1)) < (a0.size : Int) then (bD.j0 k a0 a1 ((bt a0 (wrap64 (a1 + 1))) != 117)) else (none)) else (none)) else (bD.j0 k a0 a1 true)) else (none)) else (none))) = some (r1, r2) := h
 clear h
 have mW := ab H
 clear H
 go_enter Tryz.func34, Tryz.ntmps34
 go_upto_region 1 with (fail)
 go_cut [27] (fun v27 wc => ∃ (kq : Nat) (xX : Bool), v27 = .bool xX ∧ Aside0 (bD.j0 kq a0 a1 xX = some (r1, r2)) ∧ Aside0 (kq ≤ k) ∧ Drawn0 w wc)
 case first =>
  have H := mW.out
  clear mW
  revert H; refine sId1_d0 (fun gY H => ?_) fun gY H => ?_
  ·(first | rw [gY] | (simp only [i64_w, i32_w]; rw [gY]) | skip)
   as_aux_lemma =>
    have H' := ab H
    clear H
    go_wp2
    go_meet
    case rel => exact ⟨_, (true), Z7, H', ⟨Z26⟩, Z10⟩
  (first | rw [gY] | (simp only [i64_w, i32_w]; rw [gY]) | skip)
  revert H; refine sNd1 fun iO H => ?_
  revert H; refine sNd1 fun eI H => ?_
  revert H; refine sIe1n0_e0n1 (fun iL kT H => ?_) fun iL kT H => ?_
  ·obtain ⟨vM, oN⟩ : ∃ j_ : Int, (wrap64 (a1 + 1)) = j_ := ⟨_, rfl⟩
   replace H : (if 0 ≤ (vM) then (if (vM) < (a0.size : Int) then (bD.j0 k a0 a1 ((bt a0 (vM)) != 117)) else (none)) else (none)) = some (r1, r2) := by first | (rw [oN] at H; exact H) | (simp only [oN] at H ⊢; exact H)
   have hji9w : (IntKind.i64.wrap (a1 + 1)) = vM := (i64_w _).trans oN
   revert H; refine sNd1 fun kC H => ?_
   revert H; refine sNd1 fun mB H => ?_
   as_aux_lemma =>
    have H' := ab H
    clear H
    have p7 := ag (ac Z6 : 0 ≤ (a1 : Int))
    have q7 := ag (ac Z6 : a1 < (a0.size : Int))
    have hx7 := bt_at a0 a1
    have p12 := ag (ac Z6 : 0 ≤ ((vM) : Int))
    have q12 := ag (ac Z6 : (vM) < (a0.size : Int))
    have hx12 := bt_at a0 (vM)
    go_wp2
    go_meet
    case rel => exact ⟨_, (((bt a0 (vM)) != 117)), (by first | rfl | (simp; done) | (simp only [← oN] <;> (first | rfl | simp)) | (simp [*]; done)), H', ⟨Z26⟩, Z10⟩
  as_aux_lemma =>
   have H' := ab H
   clear H
   have p7 := ag (ac Z6 : 0 ≤ (a1 : Int))
   have q7 := ag (ac Z6 : a1 < (a0.size : Int))
   have hx7 := bt_at a0 a1
   go_wp2
   go_meet
   case rel => exact ⟨_, (true), Z7, H', ⟨Z26⟩, Z10⟩
 case rest =>
  clear mW
  obtain ⟨kq, xX, rfl, HA, HJ2, ⟨mc2, rfl⟩⟩ := hcut
  cases kq with
  | zero => exact absurd HA.out (by simp [bD.j0])
  | succ kj2 =>
   have H := HA.out
   clear HA
   simp only [bD.j0] at H
   replace H := sB H
   obtain ⟨rfl, H⟩ | ⟨rfl, H⟩ := H
   ·as_aux_lemma =>
     simp only [am, an] at H
     obtain ⟨rfl, rfl⟩ := H
     go_wp2
     go_ret2
     exact ⟨Z7, Z10⟩
   have H' := ab H
   clear H
   go_wp2
   (try simp only [Act.put, ap, aq, ar])
   go_loopg [6, 7] kj2 (fun kq v6 v7 w' => ∃ (fQ : Int) (gB : Int), v6 = .int .i64 fQ ∧ v7 = .int .i64 gB ∧ Aside0 (bD.l0 kq a0 a1 fQ gB = some (r1, r2)) ∧ Aside0 (kq ≤ kj2) ∧ Drawn0 w w')
   case atStart => exact ⟨(0), (wrap64 (a1 + 2)), Z7, Z7, H', ⟨Nat.le_refl _⟩, Z10⟩
   case round =>
    clear H'
    obtain ⟨fQ, gB, rfl, rfl, HA, HK2, ⟨m2, rfl⟩⟩ := hrel
    cases gk with
    | zero => exact absurd HA.out (by simp [bD.l0])
    | succ k2 =>
     have H := HA.out
     clear HA
     simp only [bD.l0] at H
     revert H; refine sId1_d0 (fun fY H => ?_) fun fY H => ?_
     ·revert H; refine sNd1 fun kA H => ?_
      revert H; refine sNd1 fun iP H => ?_
      revert H; refine bnd ?_; rintro ⟨Gi, aqQ⟩ Lg H; try dsimp only at H
      replace H := sB H
      obtain ⟨rfl, H⟩ | ⟨rfl, H⟩ := H
      ·as_aux_lemma =>
        have H' := ab H
        clear H
        have p17 := ag (ac Z6 : 0 ≤ (gB : Int))
        have q17 := ag (ac Z6 : gB < (a0.size : Int))
        have hx17 := bt_at a0 gB
        go_wp2_with (first | (refine gl 55 (some 40) Tryz.func55 #[.int .u8 (bt a0 gB)] ?_; (with_reducible refine (aZ.calls k2 (bt a0 gB) Gi true _ Lg.out).mono ?_); rintro e w' ⟨rfl, ⟨nd, rfl⟩⟩; refine ⟨_, rfl, ?_⟩))
        go_roundg k2
        case measure => have := HJ2.out; have := HK2.out; omega
        case rel => exact ⟨(wrap64 ((wrap64 (fQ * 16)) + Gi)), (wrap64 (gB + 1)), Z7, Z7, H', ⟨by have := HJ2.out; have := HK2.out; omega⟩, Z10⟩
      as_aux_lemma =>
       simp only [am, an] at H
       obtain ⟨rfl, rfl⟩ := H
       have p17 := ag (ac Z6 : 0 ≤ (gB : Int))
       have q17 := ag (ac Z6 : gB < (a0.size : Int))
       have hx17 := bt_at a0 gB
       go_wp2_with (first | (refine gl 55 (some 40) Tryz.func55 #[.int .u8 (bt a0 gB)] ?_; (with_reducible refine (aZ.calls k2 (bt a0 gB) Gi false _ Lg.out).mono ?_); rintro e w' ⟨rfl, ⟨nd, rfl⟩⟩; refine ⟨_, rfl, ?_⟩))
       go_ret2
       exact ⟨Z7, Z10⟩
     as_aux_lemma =>
      simp only [am, an] at H
      obtain ⟨rfl, rfl⟩ := H
      go_wp2
      go_ret2
      exact ⟨Z7, Z10⟩
def bH.l0 : Nat → ByteArray → Int → Option (Bool)
 | 0, _, _ => none
 | k + 1, x0, x3 => if x3 < (x0.size : Int) then (if 0 ≤ x3 then (if (bt x0 x3) = 92 then ((bD.f k x0 x3).bind fun bt108 => (if bt108.2 = true then ((cR.f bt108.1).bind fun Lh => (if Lh = true then ((bD.f k x0 (wrap64 (x3 + 6))).bind fun bt111 => (if bt111.2 = true then ((cY.f bt111.1).bind fun Li => (if Li = true then (bH.l0 k x0 (wrap64 (x3 + 12))) else (some false))) else (some false))) else ((cY.f bt108.1).bind fun Lj => (if Lj = true then (some false) else (bH.l0 k x0 (wrap64 (x3 + 6))))))) else (bH.l0 k x0 (wrap64 (x3 + 2))))) else (bH.l0 k x0 (wrap64 (x3 + 1)))) else (none)) else (some true)
def bH.f (k : Nat) (a0 : ByteArray) : Option (Bool) := bH.l0 k a0 0
theorem bH.mono_l : ∀ k, (∀ y0 y1, LeO (bH.l0 k y0 y1) (bH.l0 (k + 1) y0 y1))
 | 0 => fun _ _ r h => by simp [bH.l0] at h
 | k + 1 => by
  have ih0 := bH.mono_l k
  ·intro y0 y1
   unfold bH.l0
   repeat' first
   | (with_reducible exact ih0 _ _)
   | (with_reducible exact bD.mono _ _ _)
   | (with_reducible exact LeO.refl _)
   | (with_reducible exact LeO.none _)
   | (with_reducible refine LeO.ite ?_ ?_)
   | (with_reducible refine LeO.bind ?_ (fun _ => ?_))
   | exact ih0 _ _
   | exact bD.mono _ _ _
   | exact LeO.none _
   | refine LeO.ite ?_ ?_
   | refine LeO.bind ?_ (fun _ => ?_)
theorem bH.mono : ∀ a0 k, LeO (bH.f k a0) (bH.f (k + 1) a0) := by
 intro a0 k
 have ih0 := bH.mono_l k
 unfold bH.f
 exact zM
theorem bH.calls (k : Nat) (a0 : ByteArray) (r : Bool) (w : World) (h : bH.f k a0 = some r) :
 Calls Tryz.prog 17 #[.string a0] w fun e w' => e = .returned (.bool r) ∧ Drawn0 w w' := by
 have H : (bH.l0 k a0 0) = some r := h
 clear h
 have H' := ab H
 clear H
 go_enter Tryz.func17, Tryz.ntmps17
 go_wp2
 (try simp only [Act.put, ap, aq, ar])
 go_loopg [3] k (fun kq v3 w' => ∃ (cO : Int), v3 = .int .i64 cO ∧ Aside0 (bH.l0 kq a0 cO = some r) ∧ Aside0 (kq ≤ k) ∧ Drawn0 w w')
 case atStart => exact ⟨(0), Z7, H', ⟨Nat.le_refl _⟩, Z10⟩
 case round =>
  clear H'
  obtain ⟨cO, rfl, HA, HK1, ⟨m1, rfl⟩⟩ := hrel
  cases gk with
  | zero => exact absurd HA.out (by simp [bH.l0])
  | succ k1 =>
   have H := HA.out
   clear HA
   simp only [bH.l0] at H
   revert H; refine sId1_d0 (fun gS H => ?_) fun gS H => ?_
   ·revert H; refine sNd1 fun dY H => ?_
    revert H; refine sIe1n0_e0n1 (fun iO qQ H => ?_) fun iO qQ H => ?_
    ·revert H; refine bnd ?_; rintro ⟨nV, aqR⟩ A6 H; try dsimp only at H
     replace H := sB H
     obtain ⟨rfl, H⟩ | ⟨rfl, H⟩ := H
     ·revert H; refine bnd ?_; rintro Lh A8 H
      replace H := sB H
      obtain ⟨rfl, H⟩ | ⟨rfl, H⟩ := H
      ·revert H; refine bnd ?_; rintro ⟨Bb, aqS⟩ mN H; try dsimp only at H
       replace H := sB H
       obtain ⟨rfl, H⟩ | ⟨rfl, H⟩ := H
       ·revert H; refine bnd ?_; rintro Li Ip H
        replace H := sB H
        obtain ⟨rfl, H⟩ | ⟨rfl, H⟩ := H
        ·as_aux_lemma =>
          have H' := ab H
          clear H
          have p4 := ag (ac Z6 : 0 ≤ (cO : Int))
          have q4 := ag (ac Z6 : cO < (a0.size : Int))
          have hx4 := bt_at a0 cO
          exact Z5
        as_aux_lemma =>
         obtain rfl := au H
         have p4 := ag (ac Z6 : 0 ≤ (cO : Int))
         have q4 := ag (ac Z6 : cO < (a0.size : Int))
         have hx4 := bt_at a0 cO
         exact Z5
       as_aux_lemma =>
        obtain rfl := au H
        have p4 := ag (ac Z6 : 0 ≤ (cO : Int))
        have q4 := ag (ac Z6 : cO < (a0.size : Int))
        have hx4 := bt_at a0 cO
        exact Z5
      revert H; refine bnd ?_; rintro Lj Gb H
      replace H := sB H
      obtain ⟨rfl, H⟩ | ⟨rfl, H⟩ := H
      ·as_aux_lemma =>
        obtain rfl := au H
        have p4 := ag (ac Z6 : 0 ≤ (cO : Int))
        have q4 := ag (ac Z6 : cO < (a0.size : Int))
        have hx4 := bt_at a0 cO
        exact Z5
      as_aux_lemma =>
       have H' := ab H
       clear H
       have p4 := ag (ac Z6 : 0 ≤ (cO : Int))
       have q4 := ag (ac Z6 : cO < (a0.size : Int))
       have hx4 := bt_at a0 cO
       exact Z5
     as_aux_lemma =>
      have H' := ab H
      clear H
      have p4 := ag (ac Z6 : 0 ≤ (cO : Int))
      have q4 := ag (ac Z6 : cO < (a0.size : Int))
      have hx4 := bt_at a0 cO
      exact Z5
    as_aux_lemma =>
     have H' := ab H
     clear H
     have p4 := ag (ac Z6 : 0 ≤ (cO : Int))
     have q4 := ag (ac Z6 : cO < (a0.size : Int))
     have hx4 := bt_at a0 cO
     go_wp2
     go_roundg k1
     case measure => have := HK1.out; omega
     case rel => exact ⟨(wrap64 (cO + 1)), Z7, H', ⟨by have := HK1.out; omega⟩, Z10⟩
   as_aux_lemma =>
    obtain rfl := au H
    go_wp2
    go_ret
    exact ⟨Z7, Z10⟩
def cW.f (a0 : Int) : Option (Bool) := if a0 = 32 then (some true) else (if a0 = 9 then (some true) else (if a0 = 10 then (some true) else (some (a0 == 13))))
theorem cW.calls (a0 : Int) (r : Bool) (w : World) (h : cW.f a0 = some r) :
 Calls Tryz.prog 31 #[.int .u8 a0] w fun e w' => e = .returned (.bool r) ∧ Drawn0 w w' := by
 have H : (if a0 = 32 then (some true) else (if a0 = 9 then (some true) else (if a0 = 10 then (some true) else (some (a0 == 13))))) = some r := h
 clear h
 revert H; refine sIe1n0_e0n1 (fun gS mX H => ?_) fun gS mX H => ?_
 ·as_aux_lemma =>
   obtain rfl := au H
   go_enter Tryz.func31, Tryz.ntmps31
   go_wp2
   go_ret
   exact ⟨Z7, Z10⟩
 revert H; refine sIe1n0_e0n1 (fun dY kR H => ?_) fun dY kR H => ?_
 ·as_aux_lemma =>
   obtain rfl := au H
   go_enter Tryz.func31, Tryz.ntmps31
   go_wp2
   go_ret
   exact ⟨Z7, Z10⟩
 revert H; refine sIe1n0_e0n1 (fun gY xS H => ?_) fun gY xS H => ?_
 ·as_aux_lemma =>
   obtain rfl := au H
   go_enter Tryz.func31, Tryz.ntmps31
   go_wp2
   go_ret
   exact ⟨Z7, Z10⟩
 as_aux_lemma =>
  obtain rfl := au H
  go_enter Tryz.func31, Tryz.ntmps31
  go_wp2
  go_ret
  exact ⟨Z7, Z10⟩
end
end Go.Proofs.YtkjnahgicfmicaaGreatDoor.Sp

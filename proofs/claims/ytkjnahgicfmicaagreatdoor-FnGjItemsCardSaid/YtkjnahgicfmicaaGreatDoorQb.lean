import Derived.Test.YtkjnahgicfmicaaGreatDoorZip
import Derived.Test.YtkjnahgicfmicaaGreatDoorQa
namespace Go.Proofs.YtkjnahgicfmicaaGreatDoor.Sp
set_option maxHeartbeats 8000000
set_option maxRecDepth 100000
open Go.RowKit Go.Proofs.YtkjnahgicfmicaaGreatDoorW.PrintWords Go.Proofs.YtkjnahgicfmicaaGreatDoorW.PrintLast Go.Proofs.YtkjnahgicfmicaaGreatDoorW.PrintMore
attribute [local go_sem] max2_int min2_int max_two min_two max_three min_three max_four min_four
set_option linter.unusedVariables false
set_option linter.unusedSimpArgs false
def dG.f (a0 : Int) : Option (Bool) := if 55296 ≤ a0 then (some (decide (a0 ≤ 56319))) else (some false)
theorem dG.calls (a0 : Int) (r : Bool) (w : World) (h : dG.f a0 = some r) :
 Calls Tryz.prog 35 #[.int .i64 a0] w fun e w' => e = .returned (.bool r) ∧ Drawn0 w w' := by
 have H : (if 55296 ≤ a0 then (some (decide (a0 ≤ 56319))) else (some false)) = some r := h
 clear h
 revert H; refine sId1_d0 (fun gQ H => ?_) fun gQ H => ?_
 ·as_aux_lemma =>
   obtain rfl := Option.some.inj H
   go_enter Tryz.func35, Tryz.ntmps35
   go_wp2
   go_ret
   exact ⟨Z9, Z10⟩
 as_aux_lemma =>
  obtain rfl := Option.some.inj H
  go_enter Tryz.func35, Tryz.ntmps35
  go_wp2
  go_ret
  exact ⟨Z9, Z10⟩
def dJ.f (a0 : Int) : Option (Bool) := if 56320 ≤ a0 then (some (decide (a0 ≤ 57343))) else (some false)
theorem dJ.calls (a0 : Int) (r : Bool) (w : World) (h : dJ.f a0 = some r) :
 Calls Tryz.prog 36 #[.int .i64 a0] w fun e w' => e = .returned (.bool r) ∧ Drawn0 w w' := by
 have H : (if 56320 ≤ a0 then (some (decide (a0 ≤ 57343))) else (some false)) = some r := h
 clear h
 revert H; refine sId1_d0 (fun gQ H => ?_) fun gQ H => ?_
 ·as_aux_lemma =>
   obtain rfl := Option.some.inj H
   go_enter Tryz.func36, Tryz.ntmps36
   go_wp2
   go_ret
   exact ⟨Z9, Z10⟩
 as_aux_lemma =>
  obtain rfl := Option.some.inj H
  go_enter Tryz.func36, Tryz.ntmps36
  go_wp2
  go_ret
  exact ⟨Z9, Z10⟩
mutual
def aU.j2 : Nat → ByteArray → Int → Int → Int → Int → Option (Int × Int × Bool)
 | 0, _, _, _, _, _ => none
 | k + 1, x0, x1, x7, x8, x9 => if (wrap64 ((x0.size : Int) - x1)) ≤ x8 then (some (65533, 1, false)) else (aU.l0 k x0 x1 x7 x8 x9 1)
def aU.l0 : Nat → ByteArray → Int → Int → Int → Int → Int → Option (Int × Int × Bool)
 | 0, _, _, _, _, _, _ => none
 | k + 1, x0, x1, x7, x8, x9, x10 => if x10 ≤ x8 then (if 0 ≤ (wrap64 (x1 + x10)) then (if (wrap64 (x1 + x10)) < (x0.size : Int) then (if (wrap64 (bt x0 (wrap64 (x1 + x10)))) < 128 then (some (65533, 1, false)) else (if (wrap64 (bt x0 (wrap64 (x1 + x10)))) > 191 then (some (65533, 1, false)) else (aU.l0 k x0 x1 (wrap64 ((wrap64 ((wrap64 (x7 * 64)) + (wrap64 (bt x0 (wrap64 (x1 + x10)))))) - 128)) x8 x9 (wrap64 (x10 + 1))))) else (none)) else (none)) else (if x7 < x9 then (some (65533, 1, false)) else (if x7 > 1114111 then (some (65533, 1, false)) else ((dG.f x7).bind fun Kk => (if Kk = true then (some (65533, 1, false)) else ((dJ.f x7).bind fun Kl => (if Kl = true then (some (65533, 1, false)) else (some (x7, wrap64 (x8 + 1), true))))))))
def aU.j0 : Nat → ByteArray → Int → Int → Bool → Option (Int × Int × Bool)
 | 0, _, _, _, _ => none
 | k + 1, x0, x1, x7, x20 => if x20 = true then (aU.j2 k x0 x1 (wrap64 (x7 - 192)) 1 128) else (if 224 ≤ x7 then (aU.j1 k x0 x1 x7 (decide (x7 ≤ 239))) else (aU.j1 k x0 x1 x7 false))
def aU.j1 : Nat → ByteArray → Int → Int → Bool → Option (Int × Int × Bool)
 | 0, _, _, _, _ => none
 | k + 1, x0, x1, x7, x29 => if x29 = true then (aU.j2 k x0 x1 (wrap64 (x7 - 224)) 2 2048) else (if 240 ≤ x7 then (if x7 ≤ 244 then (aU.j2 k x0 x1 (wrap64 (x7 - 240)) 3 65536) else (some (65533, 1, false))) else (some (65533, 1, false)))
end
def aU.f (k : Nat) (a0 : ByteArray) (a1 : Int) : Option (Int × Int × Bool) := if 0 ≤ a1 then (if a1 < (a0.size : Int) then (if (wrap64 (bt a0 a1)) < 128 then (some (wrap64 (bt a0 a1), 1, true)) else (if 194 ≤ (wrap64 (bt a0 a1)) then (aU.j0 k a0 a1 (wrap64 (bt a0 a1)) (decide ((wrap64 (bt a0 a1)) ≤ 223))) else (aU.j0 k a0 a1 (wrap64 (bt a0 a1)) false))) else (none)) else (none)
theorem aU.mono_l : ∀ k, (∀ y0 y1 y2 y3 y4, LeO (aU.j2 k y0 y1 y2 y3 y4) (aU.j2 (k + 1) y0 y1 y2 y3 y4)) ∧ (∀ y0 y1 y2 y3 y4 y5, LeO (aU.l0 k y0 y1 y2 y3 y4 y5) (aU.l0 (k + 1) y0 y1 y2 y3 y4 y5)) ∧ (∀ y0 y1 y2 y3, LeO (aU.j0 k y0 y1 y2 y3) (aU.j0 (k + 1) y0 y1 y2 y3)) ∧ (∀ y0 y1 y2 y3, LeO (aU.j1 k y0 y1 y2 y3) (aU.j1 (k + 1) y0 y1 y2 y3))
 | 0 => ⟨fun _ _ _ _ _ r h => by simp [aU.j2] at h, fun _ _ _ _ _ _ r h => by simp [aU.l0] at h, fun _ _ _ _ r h => by simp [aU.j0] at h, fun _ _ _ _ r h => by simp [aU.j1] at h⟩
 | k + 1 => by
  obtain ⟨ih0, ih1, ih2, ih3⟩ := aU.mono_l k
  refine ⟨?_, ?_, ?_, ?_⟩
  ·intro y0 y1 y2 y3 y4
   unfold aU.j2
   repeat' first
   | (with_reducible exact ih0 _ _ _ _ _)
   | (with_reducible exact ih1 _ _ _ _ _ _)
   | (with_reducible exact ih2 _ _ _ _)
   | (with_reducible exact ih3 _ _ _ _)
   | (with_reducible exact LeO.refl _)
   | (with_reducible exact LeO.none _)
   | (with_reducible refine LeO.ite ?_ ?_)
   | (with_reducible refine LeO.bind ?_ (fun _ => ?_))
   | exact ih0 _ _ _ _ _
   | exact ih1 _ _ _ _ _ _
   | exact ih2 _ _ _ _
   | exact ih3 _ _ _ _
   | exact LeO.none _
   | refine LeO.ite ?_ ?_
   | refine LeO.bind ?_ (fun _ => ?_)
  ·intro y0 y1 y2 y3 y4 y5
   unfold aU.l0
   repeat' first
   | (with_reducible exact ih0 _ _ _ _ _)
   | (with_reducible exact ih1 _ _ _ _ _ _)
   | (with_reducible exact ih2 _ _ _ _)
   | (with_reducible exact ih3 _ _ _ _)
   | (with_reducible exact LeO.refl _)
   | (with_reducible exact LeO.none _)
   | (with_reducible refine LeO.ite ?_ ?_)
   | (with_reducible refine LeO.bind ?_ (fun _ => ?_))
   | exact ih0 _ _ _ _ _
   | exact ih1 _ _ _ _ _ _
   | exact ih2 _ _ _ _
   | exact ih3 _ _ _ _
   | exact LeO.none _
   | refine LeO.ite ?_ ?_
   | refine LeO.bind ?_ (fun _ => ?_)
  ·intro y0 y1 y2 y3
   unfold aU.j0
   repeat' first
   | (with_reducible exact ih0 _ _ _ _ _)
   | (with_reducible exact ih1 _ _ _ _ _ _)
   | (with_reducible exact ih2 _ _ _ _)
   | (with_reducible exact ih3 _ _ _ _)
   | (with_reducible exact LeO.refl _)
   | (with_reducible exact LeO.none _)
   | (with_reducible refine LeO.ite ?_ ?_)
   | (with_reducible refine LeO.bind ?_ (fun _ => ?_))
   | exact ih0 _ _ _ _ _
   | exact ih1 _ _ _ _ _ _
   | exact ih2 _ _ _ _
   | exact ih3 _ _ _ _
   | exact LeO.none _
   | refine LeO.ite ?_ ?_
   | refine LeO.bind ?_ (fun _ => ?_)
  ·intro y0 y1 y2 y3
   unfold aU.j1
   repeat' first
   | (with_reducible exact ih0 _ _ _ _ _)
   | (with_reducible exact ih1 _ _ _ _ _ _)
   | (with_reducible exact ih2 _ _ _ _)
   | (with_reducible exact ih3 _ _ _ _)
   | (with_reducible exact LeO.refl _)
   | (with_reducible exact LeO.none _)
   | (with_reducible refine LeO.ite ?_ ?_)
   | (with_reducible refine LeO.bind ?_ (fun _ => ?_))
   | exact ih0 _ _ _ _ _
   | exact ih1 _ _ _ _ _ _
   | exact ih2 _ _ _ _
   | exact ih3 _ _ _ _
   | exact LeO.none _
   | refine LeO.ite ?_ ?_
   | refine LeO.bind ?_ (fun _ => ?_)
theorem aU.mono : ∀ a0 a1 k, LeO (aU.f k a0 a1) (aU.f (k + 1) a0 a1) := by
 intro a0 a1 k
 obtain ⟨ih0, ih1, ih2, ih3⟩ := aU.mono_l k
 unfold aU.f
 exact zM
theorem aU.calls (k : Nat) (a0 : ByteArray) (a1 : Int) (r1 : Int) (r2 : Int) (r3 : Bool) (w : World) (h : aU.f k a0 a1 = some (r1, r2, r3)) :
 Calls Tryz.prog 33 #[.string a0, .int .i64 a1] w fun e w' => e = .returned (.tuple #[.int .i64 r1, .int .i64 r2, .bool r3]) ∧ Drawn0 w w' := by
 have H : (if 0 ≤ a1 then (if a1 < (a0.size : Int) then (if (wrap64 (bt a0 a1)) < 128 then (some (wrap64 (bt a0 a1), 1, true)) else (if 194 ≤ (wrap64 (bt a0 a1)) then (aU.j0 k a0 a1 (wrap64 (bt a0 a1)) (decide ((wrap64 (bt a0 a1)) ≤ 223))) else (aU.j0 k a0 a1 (wrap64 (bt a0 a1)) false))) else (none)) else (none)) = some (r1, r2, r3) := h
 clear h
 revert H; refine sNd1 fun eW H => ?_
 revert H; refine sNd1 fun gV H => ?_
 have HC6 := Aside0.mk H
 clear H
 have p5 := eq_true (of_decide_eq_true Z8 : 0 ≤ (a1 : Int))
 have q5 := eq_true (of_decide_eq_true Z8 : a1 < (a0.size : Int))
 have hx5 := bt_at a0 a1
 go_enter Tryz.func33, Tryz.ntmps33
 go_upto_block 0 with (fail)
 go_cut [7, 8, 9] (fun v7 v8 v9 wc => ∃ (kq : Nat) (Ak : Int) (xC : Int) (xD : Int), v7 = .int .i64 Ak ∧ v8 = .int .i64 xC ∧ v9 = .int .i64 xD ∧ Aside0 (aU.j2 kq a0 a1 Ak xC xD = some (r1, r2, r3)) ∧ Aside0 (kq ≤ k) ∧ Drawn0 w wc)
 case first =>
  have H := HC6.out
  clear HC6
  revert H; refine sId1_d0 (fun lA H => ?_) fun lA H => ?_
  ·(first | rw [lA] | (simp only [i64_w, i32_w]; rw [lA]) | skip)
   as_aux_lemma =>
    simp only [Option.some.injEq, Prod.mk.injEq] at H
    obtain ⟨rfl, rfl, rfl⟩ := H
    go_wp2
    go_ret3
    exact ⟨Z9, Z10⟩
  (first | rw [lA] | (simp only [i64_w, i32_w]; rw [lA]) | skip)
  have HC8 := Aside0.mk H
  clear H
  go_upto_region 6 with (fail)
  go_cut [20] (fun v20 wc => ∃ (kq : Nat) (xE : Bool), v20 = .bool xE ∧ Aside0 (aU.j0 kq a0 a1 (wrap64 (bt a0 a1)) xE = some (r1, r2, r3)) ∧ Aside0 (kq ≤ k) ∧ Drawn0 w wc)
  case first =>
   have H := HC8.out
   clear HC8
   revert H; refine sId1_d0 (fun nC H => ?_) fun nC H => ?_
   ·(first | rw [nC] | (simp only [i64_w, i32_w]; rw [nC]) | skip)
    as_aux_lemma =>
     have H' := Aside0.mk H
     clear H
     go_wp2
     go_meet
     case rel => exact ⟨_, (decide ((wrap64 (bt a0 a1)) ≤ 223)), Z9, H', ⟨Z30⟩, Z10⟩
   (first | rw [nC] | (simp only [i64_w, i32_w]; rw [nC]) | skip)
   as_aux_lemma =>
    have H' := Aside0.mk H
    clear H
    go_wp2
    go_meet
    case rel => exact ⟨_, (false), Z9, H', ⟨Z30⟩, Z10⟩
  case rest =>
   clear HC8
   try clear eW gV p5 q5 hx5 lA
   obtain ⟨kq, xE, rfl, HA, HJ7, ⟨mc7, rfl⟩⟩ := hcut
   cases kq with
   | zero => exact absurd HA.out (by simp [aU.j0])
   | succ kj7 =>
    have H := HA.out
    clear HA
    simp only [aU.j0] at H
    replace H := sB H
    obtain ⟨rfl, H⟩ | ⟨rfl, H⟩ := H
    ·as_aux_lemma =>
      have H' := Aside0.mk H
      clear H
      go_wp2
      go_meet
      case rel => exact ⟨_, (wrap64 ((wrap64 (bt a0 a1)) - 192)), (1), (128), Z9, Z9, Z9, H', ⟨by have := HJ7.out; first | omega | exact Nat.le_refl _⟩, Z10⟩
    have rL := Aside0.mk H
    clear H
    go_upto_region 8 with (fail)
    go_cut [29] (fun v29 wc => ∃ (kq : Nat) (rM : Bool), v29 = .bool rM ∧ Aside0 (aU.j1 kq a0 a1 (wrap64 (bt a0 a1)) rM = some (r1, r2, r3)) ∧ Aside0 (kq ≤ kj7) ∧ Drawn0 w wc)
    case first =>
     have H := rL.out
     clear rL
     revert H; refine sId1_d0 (fun lX H => ?_) fun lX H => ?_
     ·(first | rw [lX] | (simp only [i64_w, i32_w]; rw [lX]) | skip)
      as_aux_lemma =>
       have H' := Aside0.mk H
       clear H
       go_wp2
       go_meet
       case rel => exact ⟨_, (decide ((wrap64 (bt a0 a1)) ≤ 239)), Z9, H', ⟨by have := HJ7.out; first | omega | exact Nat.le_refl _⟩, Z10⟩
     (first | rw [lX] | (simp only [i64_w, i32_w]; rw [lX]) | skip)
     as_aux_lemma =>
      have H' := Aside0.mk H
      clear H
      go_wp2
      go_meet
      case rel => exact ⟨_, (false), Z9, H', ⟨by have := HJ7.out; first | omega | exact Nat.le_refl _⟩, Z10⟩
    case rest =>
     clear rL
     obtain ⟨kq, rM, rfl, HA, HJ10, ⟨mc10, rfl⟩⟩ := hcut
     cases kq with
     | zero => exact absurd HA.out (by simp [aU.j1])
     | succ kj10 =>
      have H := HA.out
      clear HA
      simp only [aU.j1] at H
      replace H := sB H
      obtain ⟨rfl, H⟩ | ⟨rfl, H⟩ := H
      ·as_aux_lemma =>
        have H' := Aside0.mk H
        clear H
        go_wp2
        go_meet
        case rel => exact ⟨_, (wrap64 ((wrap64 (bt a0 a1)) - 224)), (2), (2048), Z9, Z9, Z9, H', ⟨by have := HJ7.out; have := HJ10.out; first | omega | exact Nat.le_refl _⟩, Z10⟩
      revert H; refine sId1_d0 (fun gR H => ?_) fun gR H => ?_
      ·revert H; refine sId1_d0 (fun nQ H => ?_) fun nQ H => ?_
       ·as_aux_lemma =>
         have H' := Aside0.mk H
         clear H
         go_wp2
         go_meet
         case rel => exact ⟨_, (wrap64 ((wrap64 (bt a0 a1)) - 240)), (3), (65536), Z9, Z9, Z9, H', ⟨by have := HJ7.out; have := HJ10.out; first | omega | exact Nat.le_refl _⟩, Z10⟩
       as_aux_lemma =>
        simp only [Option.some.injEq, Prod.mk.injEq] at H
        obtain ⟨rfl, rfl, rfl⟩ := H
        go_wp2
        go_ret3
        exact ⟨Z9, Z10⟩
      as_aux_lemma =>
       simp only [Option.some.injEq, Prod.mk.injEq] at H
       obtain ⟨rfl, rfl, rfl⟩ := H
       go_wp2
       go_ret3
       exact ⟨Z9, Z10⟩
 case rest =>
  clear HC6
  try clear eW gV p5 q5 hx5
  obtain ⟨kq, Ak, xC, xD, rfl, rfl, rfl, HA, HJ5, ⟨mc5, rfl⟩⟩ := hcut
  cases kq with
  | zero => exact absurd HA.out (by simp [aU.j2])
  | succ kj5 =>
   have H := HA.out
   clear HA
   simp only [aU.j2] at H
   revert H; refine sId1_d0 (fun kB H => ?_) fun kB H => ?_
   ·as_aux_lemma =>
     simp only [Option.some.injEq, Prod.mk.injEq] at H
     obtain ⟨rfl, rfl, rfl⟩ := H
     go_wp2
     go_ret3
     exact ⟨Z9, Z10⟩
   have H' := Aside0.mk H
   clear H
   go_wp2
   (try simp only [Act.put, List.setIfInBounds_toArray, List.set_cons_zero, List.set_cons_succ])
   go_loopg [7, 10] kj5 (fun kq v7 v10 w' => ∃ (gW : Int) (nR : Int), v7 = .int .i64 gW ∧ v10 = .int .i64 nR ∧ Aside0 (aU.l0 kq a0 a1 gW xC xD nR = some (r1, r2, r3)) ∧ Aside0 (kq ≤ kj5) ∧ Drawn0 w w')
   case atStart => exact ⟨(Ak), (1), Z9, Z9, H', ⟨Nat.le_refl _⟩, Z10⟩
   case round =>
    clear H'
    try clear kB
    obtain ⟨gW, nR, rfl, rfl, HA, HK2, ⟨m2, rfl⟩⟩ := hrel
    cases gk with
    | zero => exact absurd HA.out (by simp [aU.l0])
    | succ k2 =>
     have H := HA.out
     clear HA
     simp only [aU.l0] at H
     revert H; refine sId1_d0 (fun qM H => ?_) fun qM H => ?_
     ·obtain ⟨jY, sL⟩ : ∃ j_ : Int, (wrap64 (a1 + nR)) = j_ := ⟨_, rfl⟩
      replace H : (if 0 ≤ (jY) then (if (jY) < (a0.size : Int) then (if (wrap64 (bt a0 (jY))) < 128 then (some (65533, 1, false)) else (if (wrap64 (bt a0 (jY))) > 191 then (some (65533, 1, false)) else (aU.l0 k2 a0 a1 (wrap64 ((wrap64 ((wrap64 (gW * 64)) + (wrap64 (bt a0 (jY))))) - 128)) xC xD (wrap64 (nR + 1))))) else (none)) else (none)) = some (r1, r2, r3) := by first | (rw [sL] at H; exact H) | (simp only [sL] at H ⊢; exact H)
      have hji18w : (IntKind.i64.wrap (a1 + nR)) = jY := (i64_w _).trans sL
      revert H; refine sNd1 fun Km H => ?_
      revert H; refine sNd1 fun oU H => ?_
      revert H; refine sId1_d0 (fun mS H => ?_) fun mS H => ?_
      ·as_aux_lemma =>
        simp only [Option.some.injEq, Prod.mk.injEq] at H
        obtain ⟨rfl, rfl, rfl⟩ := H
        have p21 := eq_true (of_decide_eq_true Z8 : 0 ≤ ((jY) : Int))
        have q21 := eq_true (of_decide_eq_true Z8 : (jY) < (a0.size : Int))
        have hx21 := bt_at a0 (jY)
        go_wp2
        go_ret3
        exact ⟨Z74, Z10⟩
      revert H; refine sIk_k (fun c23 H => ?_) fun c23 H => ?_
      ·have qN : decide (191 < (wrap64 (bt a0 (jY)))) = true := decide_eq_true c23
       clear c23
       as_aux_lemma =>
        simp only [Option.some.injEq, Prod.mk.injEq] at H
        obtain ⟨rfl, rfl, rfl⟩ := H
        have p21 := eq_true (of_decide_eq_true Z8 : 0 ≤ ((jY) : Int))
        have q21 := eq_true (of_decide_eq_true Z8 : (jY) < (a0.size : Int))
        have hx21 := bt_at a0 (jY)
        go_wp2
        go_ret3
        exact ⟨Z74, Z10⟩
      have qN : decide (191 < (wrap64 (bt a0 (jY)))) = false := decide_eq_false c23
      clear c23
      as_aux_lemma =>
       have H' := Aside0.mk H
       clear H
       have p21 := eq_true (of_decide_eq_true Z8 : 0 ≤ ((jY) : Int))
       have q21 := eq_true (of_decide_eq_true Z8 : (jY) < (a0.size : Int))
       have hx21 := bt_at a0 (jY)
       go_wp2
       go_roundg k2
       case measure => have := HJ5.out; have := HK2.out; omega
       case rel => exact ⟨(wrap64 ((wrap64 ((wrap64 (gW * 64)) + (wrap64 (bt a0 (jY))))) - 128)), (wrap64 (nR + 1)), Z74, Z9, H', ⟨by have := HJ5.out; have := HK2.out; omega⟩, Z10⟩
     revert H; refine sId1_d0 (fun xF H => ?_) fun xF H => ?_
     ·as_aux_lemma =>
       simp only [Option.some.injEq, Prod.mk.injEq] at H
       obtain ⟨rfl, rfl, rfl⟩ := H
       go_wp2
       go_ret3
       exact ⟨Z9, Z10⟩
     revert H; refine sIk_k (fun c25 H => ?_) fun c25 H => ?_
     ·have lH : decide (1114111 < gW) = true := decide_eq_true c25
      clear c25
      as_aux_lemma =>
       simp only [Option.some.injEq, Prod.mk.injEq] at H
       obtain ⟨rfl, rfl, rfl⟩ := H
       go_wp2
       go_ret3
       exact ⟨Z9, Z10⟩
     have lH : decide (1114111 < gW) = false := decide_eq_false c25
     clear c25
     revert H; refine bnd ?_; rintro Kk Kn H
     replace H := sB H
     obtain ⟨rfl, H⟩ | ⟨rfl, H⟩ := H
     ·as_aux_lemma =>
       simp only [Option.some.injEq, Prod.mk.injEq] at H
       obtain ⟨rfl, rfl, rfl⟩ := H
       go_wp2_with (first | (go_at_call 35; (with_reducible refine (dG.calls gW true _ Kn.out).mono ?_); rintro e w' ⟨rfl, ⟨nd, rfl⟩⟩))
       go_ret3
       exact ⟨Z9, Z10⟩
     revert H; refine bnd ?_; rintro Kl zY H
     replace H := sB H
     obtain ⟨rfl, H⟩ | ⟨rfl, H⟩ := H
     ·as_aux_lemma =>
       simp only [Option.some.injEq, Prod.mk.injEq] at H
       obtain ⟨rfl, rfl, rfl⟩ := H
       go_wp2_with (first | (go_at_call 35; (with_reducible refine (dG.calls gW false _ Kn.out).mono ?_); rintro e w' ⟨rfl, ⟨nd, rfl⟩⟩) | (go_at_call 36; (with_reducible refine (dJ.calls gW true _ zY.out).mono ?_); rintro e w' ⟨rfl, ⟨nd, rfl⟩⟩))
       go_ret3
       exact ⟨Z9, Z10⟩
     as_aux_lemma =>
      simp only [Option.some.injEq, Prod.mk.injEq] at H
      obtain ⟨rfl, rfl, rfl⟩ := H
      go_wp2_with (first | (go_at_call 35; (with_reducible refine (dG.calls gW false _ Kn.out).mono ?_); rintro e w' ⟨rfl, ⟨nd, rfl⟩⟩) | (go_at_call 36; (with_reducible refine (dJ.calls gW false _ zY.out).mono ?_); rintro e w' ⟨rfl, ⟨nd, rfl⟩⟩))
      go_ret3
      exact ⟨Z9, Z10⟩
def cC.l0 : Nat → ByteArray → Int → Option (Bool)
 | 0, _, _ => none
 | k + 1, x0, x3 => if x3 < (x0.size : Int) then ((aU.f k x0 x3).bind fun bt103 => (if bt103.2.2 = true then (cC.l0 k x0 (wrap64 (x3 + bt103.2.1))) else (some false))) else (some true)
def cC.f (k : Nat) (a0 : ByteArray) : Option (Bool) := cC.l0 k a0 0
theorem cC.mono_l : ∀ k, (∀ y0 y1, LeO (cC.l0 k y0 y1) (cC.l0 (k + 1) y0 y1))
 | 0 => fun _ _ r h => by simp [cC.l0] at h
 | k + 1 => by
  have ih0 := cC.mono_l k
  ·intro y0 y1
   unfold cC.l0
   repeat' first
   | (with_reducible exact ih0 _ _)
   | (with_reducible exact aU.mono _ _ _)
   | (with_reducible exact LeO.refl _)
   | (with_reducible exact LeO.none _)
   | (with_reducible refine LeO.ite ?_ ?_)
   | (with_reducible refine LeO.bind ?_ (fun _ => ?_))
   | exact ih0 _ _
   | exact aU.mono _ _ _
   | exact LeO.none _
   | refine LeO.ite ?_ ?_
   | refine LeO.bind ?_ (fun _ => ?_)
theorem cC.mono : ∀ a0 k, LeO (cC.f k a0) (cC.f (k + 1) a0) := by
 intro a0 k
 have ih0 := cC.mono_l k
 unfold cC.f
 exact zM
theorem cC.calls (k : Nat) (a0 : ByteArray) (r : Bool) (w : World) (h : cC.f k a0 = some r) :
 Calls Tryz.prog 16 #[.string a0] w fun e w' => e = .returned (.bool r) ∧ Drawn0 w w' := by
 have H : (cC.l0 k a0 0) = some r := h
 clear h
 have H' := Aside0.mk H
 clear H
 go_enter Tryz.func16, Tryz.ntmps16
 go_wp2
 (try simp only [Act.put, List.setIfInBounds_toArray, List.set_cons_zero, List.set_cons_succ])
 go_loopg [3] k (fun kq v3 w' => ∃ (dB : Int), v3 = .int .i64 dB ∧ Aside0 (cC.l0 kq a0 dB = some r) ∧ Aside0 (kq ≤ k) ∧ Drawn0 w w')
 case atStart => exact ⟨(0), Z9, H', ⟨Nat.le_refl _⟩, Z10⟩
 case round =>
  clear H'
  obtain ⟨dB, rfl, HA, HK1, ⟨m1, rfl⟩⟩ := hrel
  cases gk with
  | zero => exact absurd HA.out (by simp [cC.l0])
  | succ k1 =>
   have H := HA.out
   clear HA
   simp only [cC.l0] at H
   revert H; refine sId1_d0 (fun gQ H => ?_) fun gQ H => ?_
   ·revert H; refine bnd ?_; rintro ⟨Ko, Hu, apK⟩ A3 H; try dsimp only at H
    replace H := sB H
    obtain ⟨rfl, H⟩ | ⟨rfl, H⟩ := H
    ·as_aux_lemma =>
      have H' := Aside0.mk H
      clear H
      go_wp2_with (first | (refine gl 33 (some 14) Tryz.func33 #[.string a0, .int .i64 dB] ?_; (with_reducible refine (aU.calls k1 a0 dB Ko Hu true _ A3.out).mono ?_); rintro e w' ⟨rfl, ⟨nd, rfl⟩⟩; refine ⟨_, rfl, ?_⟩))
      go_roundg k1
      case measure => have := HK1.out; omega
      case rel => exact ⟨(wrap64 (dB + Hu)), Z9, H', ⟨by have := HK1.out; omega⟩, Z10⟩
    as_aux_lemma =>
     obtain rfl := Option.some.inj H
     go_wp2_with (first | (refine gl 33 (some 14) Tryz.func33 #[.string a0, .int .i64 dB] ?_; (with_reducible refine (aU.calls k1 a0 dB Ko Hu false _ A3.out).mono ?_); rintro e w' ⟨rfl, ⟨nd, rfl⟩⟩; refine ⟨_, rfl, ?_⟩))
     go_ret
     exact ⟨Z9, Z10⟩
   as_aux_lemma =>
    obtain rfl := Option.some.inj H
    go_wp2
    go_ret
    exact ⟨Z9, Z10⟩
end Go.Proofs.YtkjnahgicfmicaaGreatDoor.Sp
namespace Go.Proofs.YtkjnahgicfmicaaGreatDoor.Sp
set_option maxHeartbeats 8000000
set_option maxRecDepth 100000
open Go.RowKit Go.Proofs.YtkjnahgicfmicaaGreatDoorW.PrintWords Go.Proofs.YtkjnahgicfmicaaGreatDoorW.PrintLast Go.Proofs.YtkjnahgicfmicaaGreatDoorW.PrintMore
attribute [local go_sem] max2_int min2_int max_two min_two max_three min_three max_four min_four
set_option linter.unusedVariables false
set_option linter.unusedSimpArgs false
mutual
def aY.j0 : Nat → Int → Bool → Option (Int × Bool)
 | 0, _, _ => none
 | k + 1, x0, x4 => if x4 = true then (some ((x0 - 48) % 256, true)) else (if 97 ≤ x0 then (aY.j1 k x0 (decide (x0 ≤ 102))) else (aY.j1 k x0 false))
def aY.j1 : Nat → Int → Bool → Option (Int × Bool)
 | 0, _, _ => none
 | k + 1, x0, x14 => if x14 = true then (some (((x0 - 97) % 256) + 10, true)) else (if 65 ≤ x0 then (if x0 ≤ 70 then (some (((x0 - 65) % 256) + 10, true)) else (some (0, false))) else (some (0, false)))
end
def aY.f (k : Nat) (a0 : Int) : Option (Int × Bool) := if 48 ≤ a0 then (aY.j0 k a0 (decide (a0 ≤ 57))) else (aY.j0 k a0 false)
theorem aY.mono_l : ∀ k, (∀ y0 y1, LeO (aY.j0 k y0 y1) (aY.j0 (k + 1) y0 y1)) ∧ (∀ y0 y1, LeO (aY.j1 k y0 y1) (aY.j1 (k + 1) y0 y1))
 | 0 => ⟨fun _ _ r h => by simp [aY.j0] at h, fun _ _ r h => by simp [aY.j1] at h⟩
 | k + 1 => by
  obtain ⟨ih0, ih1⟩ := aY.mono_l k
  refine ⟨?_, ?_⟩
  ·intro y0 y1
   unfold aY.j0
   repeat' first
   | (with_reducible exact ih0 _ _)
   | (with_reducible exact ih1 _ _)
   | (with_reducible exact LeO.refl _)
   | (with_reducible exact LeO.none _)
   | (with_reducible refine LeO.ite ?_ ?_)
   | (with_reducible refine LeO.bind ?_ (fun _ => ?_))
   | exact ih0 _ _
   | exact ih1 _ _
   | exact LeO.none _
   | refine LeO.ite ?_ ?_
   | refine LeO.bind ?_ (fun _ => ?_)
  ·intro y0 y1
   unfold aY.j1
   repeat' first
   | (with_reducible exact ih0 _ _)
   | (with_reducible exact ih1 _ _)
   | (with_reducible exact LeO.refl _)
   | (with_reducible exact LeO.none _)
   | (with_reducible refine LeO.ite ?_ ?_)
   | (with_reducible refine LeO.bind ?_ (fun _ => ?_))
   | exact ih0 _ _
   | exact ih1 _ _
   | exact LeO.none _
   | refine LeO.ite ?_ ?_
   | refine LeO.bind ?_ (fun _ => ?_)
theorem aY.mono : ∀ a0 k, LeO (aY.f k a0) (aY.f (k + 1) a0) := by
 intro a0 k
 obtain ⟨ih0, ih1⟩ := aY.mono_l k
 unfold aY.f
 exact zM
theorem aY.calls (k : Nat) (a0 : Int) (r1 : Int) (r2 : Bool) (w : World) (h : aY.f k a0 = some (r1, r2)) :
 Calls Tryz.prog 55 #[.int .u8 a0] w fun e w' => e = .returned (.tuple #[.int .i64 r1, .bool r2]) ∧ Drawn0 w w' := by
 have H : (if 48 ≤ a0 then (aY.j0 k a0 (decide (a0 ≤ 57))) else (aY.j0 k a0 false)) = some (r1, r2) := h
 clear h
 have sK := Aside0.mk H
 clear H
 go_enter Tryz.func55, Tryz.ntmps55
 go_upto_region 1 with (fail)
 go_cut [4] (fun v4 wc => ∃ (kq : Nat) (eM : Bool), v4 = .bool eM ∧ Aside0 (aY.j0 kq a0 eM = some (r1, r2)) ∧ Aside0 (kq ≤ k) ∧ Drawn0 w wc)
 case first =>
  have H := sK.out
  clear sK
  revert H; refine sId1_d0 (fun eW H => ?_) fun eW H => ?_
  ·(first | rw [eW] | (simp only [i64_w, i32_w]; rw [eW]) | skip)
   as_aux_lemma =>
    have H' := Aside0.mk H
    clear H
    go_wp2
    go_meet
    case rel => exact ⟨_, (decide (a0 ≤ 57)), Z9, H', ⟨Z30⟩, Z10⟩
  (first | rw [eW] | (simp only [i64_w, i32_w]; rw [eW]) | skip)
  as_aux_lemma =>
   have H' := Aside0.mk H
   clear H
   go_wp2
   go_meet
   case rel => exact ⟨_, (false), Z9, H', ⟨Z30⟩, Z10⟩
 case rest =>
  clear sK
  obtain ⟨kq, eM, rfl, HA, HJ1, ⟨mc1, rfl⟩⟩ := hcut
  cases kq with
  | zero => exact absurd HA.out (by simp [aY.j0])
  | succ kj1 =>
   have H := HA.out
   clear HA
   simp only [aY.j0] at H
   replace H := sB H
   obtain ⟨rfl, H⟩ | ⟨rfl, H⟩ := H
   ·as_aux_lemma =>
     simp only [Option.some.injEq, Prod.mk.injEq] at H
     obtain ⟨rfl, rfl⟩ := H
     go_wp2
     go_ret2
     exact ⟨Z9, Z10⟩
   have wN := Aside0.mk H
   clear H
   go_upto_region 3 with (fail)
   go_cut [14] (fun v14 wc => ∃ (kq : Nat) (yM : Bool), v14 = .bool yM ∧ Aside0 (aY.j1 kq a0 yM = some (r1, r2)) ∧ Aside0 (kq ≤ kj1) ∧ Drawn0 w wc)
   case first =>
    have H := wN.out
    clear wN
    revert H; refine sId1_d0 (fun eX H => ?_) fun eX H => ?_
    ·(first | rw [eX] | (simp only [i64_w, i32_w]; rw [eX]) | skip)
     as_aux_lemma =>
      have H' := Aside0.mk H
      clear H
      go_wp2
      go_meet
      case rel => exact ⟨_, (decide (a0 ≤ 102)), Z9, H', ⟨by have := HJ1.out; first | omega | exact Nat.le_refl _⟩, Z10⟩
    (first | rw [eX] | (simp only [i64_w, i32_w]; rw [eX]) | skip)
    as_aux_lemma =>
     have H' := Aside0.mk H
     clear H
     go_wp2
     go_meet
     case rel => exact ⟨_, (false), Z9, H', ⟨by have := HJ1.out; first | omega | exact Nat.le_refl _⟩, Z10⟩
   case rest =>
    clear wN
    obtain ⟨kq, yM, rfl, HA, HJ4, ⟨mc4, rfl⟩⟩ := hcut
    cases kq with
    | zero => exact absurd HA.out (by simp [aY.j1])
    | succ kj4 =>
     have H := HA.out
     clear HA
     simp only [aY.j1] at H
     replace H := sB H
     obtain ⟨rfl, H⟩ | ⟨rfl, H⟩ := H
     ·as_aux_lemma =>
       simp only [Option.some.injEq, Prod.mk.injEq] at H
       obtain ⟨rfl, rfl⟩ := H
       go_wp2
       go_ret2
       exact ⟨Z9, Z10⟩
     revert H; refine sId1_d0 (fun jH H => ?_) fun jH H => ?_
     ·revert H; refine sId1_d0 (fun nC H => ?_) fun nC H => ?_
      ·as_aux_lemma =>
        simp only [Option.some.injEq, Prod.mk.injEq] at H
        obtain ⟨rfl, rfl⟩ := H
        go_wp2
        go_ret2
        exact ⟨Z9, Z10⟩
      as_aux_lemma =>
       simp only [Option.some.injEq, Prod.mk.injEq] at H
       obtain ⟨rfl, rfl⟩ := H
       go_wp2
       go_ret2
       exact ⟨Z9, Z10⟩
     as_aux_lemma =>
      simp only [Option.some.injEq, Prod.mk.injEq] at H
      obtain ⟨rfl, rfl⟩ := H
      go_wp2
      go_ret2
      exact ⟨Z9, Z10⟩
mutual
def bI.j0 : Nat → ByteArray → Int → Bool → Option (Int × Bool)
 | 0, _, _, _ => none
 | k + 1, x0, x1, x27 => if x27 = true then (some (0, false)) else (bI.l0 k x0 x1 0 (wrap64 (x1 + 2)))
def bI.l0 : Nat → ByteArray → Int → Int → Int → Option (Int × Bool)
 | 0, _, _, _, _ => none
 | k + 1, x0, x1, x6, x7 => if x7 < (wrap64 (x1 + 6)) then (if 0 ≤ x7 then (if x7 < (x0.size : Int) then ((aY.f k (bt x0 x7)).bind fun bt106 => (if bt106.2 = true then (bI.l0 k x0 x1 (wrap64 ((wrap64 (x6 * 16)) + bt106.1)) (wrap64 (x7 + 1))) else (some (0, false)))) else (none)) else (none)) else (some (x6, true))
end
def bI.f (k : Nat) (a0 : ByteArray) (a1 : Int) : Option (Int × Bool) := if (wrap64 ((a0.size : Int) - a1)) < 6 then (bI.j0 k a0 a1 true) else (if 0 ≤ a1 then (if a1 < (a0.size : Int) then (if (bt a0 a1) = 92 then (if 0 ≤ (wrap64 (a1 + 1)) then (if (wrap64 (a1 + 1)) < (a0.size : Int) then (bI.j0 k a0 a1 ((bt a0 (wrap64 (a1 + 1))) != 117)) else (none)) else (none)) else (bI.j0 k a0 a1 true)) else (none)) else (none))
theorem bI.mono_l : ∀ k, (∀ y0 y1 y2, LeO (bI.j0 k y0 y1 y2) (bI.j0 (k + 1) y0 y1 y2)) ∧ (∀ y0 y1 y2 y3, LeO (bI.l0 k y0 y1 y2 y3) (bI.l0 (k + 1) y0 y1 y2 y3))
 | 0 => ⟨fun _ _ _ r h => by simp [bI.j0] at h, fun _ _ _ _ r h => by simp [bI.l0] at h⟩
 | k + 1 => by
  obtain ⟨ih0, ih1⟩ := bI.mono_l k
  refine ⟨?_, ?_⟩
  ·intro y0 y1 y2
   unfold bI.j0
   repeat' first
   | (with_reducible exact ih0 _ _ _)
   | (with_reducible exact ih1 _ _ _ _)
   | (with_reducible exact aY.mono _ _)
   | (with_reducible exact LeO.refl _)
   | (with_reducible exact LeO.none _)
   | (with_reducible refine LeO.ite ?_ ?_)
   | (with_reducible refine LeO.bind ?_ (fun _ => ?_))
   | exact ih0 _ _ _
   | exact ih1 _ _ _ _
   | exact aY.mono _ _
   | exact LeO.none _
   | refine LeO.ite ?_ ?_
   | refine LeO.bind ?_ (fun _ => ?_)
  ·intro y0 y1 y2 y3
   unfold bI.l0
   repeat' first
   | (with_reducible exact ih0 _ _ _)
   | (with_reducible exact ih1 _ _ _ _)
   | (with_reducible exact aY.mono _ _)
   | (with_reducible exact LeO.refl _)
   | (with_reducible exact LeO.none _)
   | (with_reducible refine LeO.ite ?_ ?_)
   | (with_reducible refine LeO.bind ?_ (fun _ => ?_))
   | exact ih0 _ _ _
   | exact ih1 _ _ _ _
   | exact aY.mono _ _
   | exact LeO.none _
   | refine LeO.ite ?_ ?_
   | refine LeO.bind ?_ (fun _ => ?_)
theorem bI.mono : ∀ a0 a1 k, LeO (bI.f k a0 a1) (bI.f (k + 1) a0 a1) := by
 intro a0 a1 k
 obtain ⟨ih0, ih1⟩ := bI.mono_l k
 unfold bI.f
 exact zM
theorem bI.calls (k : Nat) (a0 : ByteArray) (a1 : Int) (r1 : Int) (r2 : Bool) (w : World) (h : bI.f k a0 a1 = some (r1, r2)) :
 Calls Tryz.prog 34 #[.string a0, .int .i64 a1] w fun e w' => e = .returned (.tuple #[.int .i64 r1, .bool r2]) ∧ Drawn0 w w' := by
 have H : (if (wrap64 ((a0.size : Int) - a1)) < 6 then (bI.j0 k a0 a1 true) else (if 0 ≤ a1 then (if a1 < (a0.size : Int) then (if (bt a0 a1) = 92 then (if 0 ≤ (wrap64 (a1 + 1)) then (if (wrap64 (a1 + 1)) < (a0.size : Int) then (bI.j0 k a0 a1 ((bt a0 (wrap64 (a1 + 1))) != 117)) else (none)) else (none)) else (bI.j0 k a0 a1 true)) else (none)) else (none))) = some (r1, r2) := h
 clear h
 have qF := Aside0.mk H
 clear H
 go_enter Tryz.func34, Tryz.ntmps34
 go_upto_region 1 with (fail)
 go_cut [27] (fun v27 wc => ∃ (kq : Nat) (yN : Bool), v27 = .bool yN ∧ Aside0 (bI.j0 kq a0 a1 yN = some (r1, r2)) ∧ Aside0 (kq ≤ k) ∧ Drawn0 w wc)
 case first =>
  have H := qF.out
  clear qF
  revert H; refine sId1_d0 (fun gV H => ?_) fun gV H => ?_
  ·(first | rw [gV] | (simp only [i64_w, i32_w]; rw [gV]) | skip)
   as_aux_lemma =>
    have H' := Aside0.mk H
    clear H
    go_wp2
    go_meet
    case rel => exact ⟨_, (true), Z9, H', ⟨Z30⟩, Z10⟩
  (first | rw [gV] | (simp only [i64_w, i32_w]; rw [gV]) | skip)
  revert H; refine sNd1 fun jZ H => ?_
  revert H; refine sNd1 fun eX H => ?_
  revert H; refine sIe1n0_e0n1 (fun jH lR H => ?_) fun jH lR H => ?_
  ·obtain ⟨vU, pJ⟩ : ∃ j_ : Int, (wrap64 (a1 + 1)) = j_ := ⟨_, rfl⟩
   replace H : (if 0 ≤ (vU) then (if (vU) < (a0.size : Int) then (bI.j0 k a0 a1 ((bt a0 (vU)) != 117)) else (none)) else (none)) = some (r1, r2) := by first | (rw [pJ] at H; exact H) | (simp only [pJ] at H ⊢; exact H)
   have hji9w : (IntKind.i64.wrap (a1 + 1)) = vU := (i64_w _).trans pJ
   revert H; refine sNd1 fun mU H => ?_
   revert H; refine sNd1 fun iR H => ?_
   as_aux_lemma =>
    have H' := Aside0.mk H
    clear H
    have p7 := eq_true (of_decide_eq_true Z8 : 0 ≤ (a1 : Int))
    have q7 := eq_true (of_decide_eq_true Z8 : a1 < (a0.size : Int))
    have hx7 := bt_at a0 a1
    have p12 := eq_true (of_decide_eq_true Z8 : 0 ≤ ((vU) : Int))
    have q12 := eq_true (of_decide_eq_true Z8 : (vU) < (a0.size : Int))
    have hx12 := bt_at a0 (vU)
    go_wp2
    go_meet
    case rel => exact ⟨_, (((bt a0 (vU)) != 117)), (by first | rfl | (simp; done) | (simp only [← pJ] <;> (first | rfl | simp)) | (simp [*]; done)), H', ⟨Z30⟩, Z10⟩
  as_aux_lemma =>
   have H' := Aside0.mk H
   clear H
   have p7 := eq_true (of_decide_eq_true Z8 : 0 ≤ (a1 : Int))
   have q7 := eq_true (of_decide_eq_true Z8 : a1 < (a0.size : Int))
   have hx7 := bt_at a0 a1
   go_wp2
   go_meet
   case rel => exact ⟨_, (true), Z9, H', ⟨Z30⟩, Z10⟩
 case rest =>
  clear qF
  obtain ⟨kq, yN, rfl, HA, HJ2, ⟨mc2, rfl⟩⟩ := hcut
  cases kq with
  | zero => exact absurd HA.out (by simp [bI.j0])
  | succ kj2 =>
   have H := HA.out
   clear HA
   simp only [bI.j0] at H
   replace H := sB H
   obtain ⟨rfl, H⟩ | ⟨rfl, H⟩ := H
   ·as_aux_lemma =>
     simp only [Option.some.injEq, Prod.mk.injEq] at H
     obtain ⟨rfl, rfl⟩ := H
     go_wp2
     go_ret2
     exact ⟨Z9, Z10⟩
   have H' := Aside0.mk H
   clear H
   go_wp2
   (try simp only [Act.put, List.setIfInBounds_toArray, List.set_cons_zero, List.set_cons_succ])
   go_loopg [6, 7] kj2 (fun kq v6 v7 w' => ∃ (gL : Int) (gW : Int), v6 = .int .i64 gL ∧ v7 = .int .i64 gW ∧ Aside0 (bI.l0 kq a0 a1 gL gW = some (r1, r2)) ∧ Aside0 (kq ≤ kj2) ∧ Drawn0 w w')
   case atStart => exact ⟨(0), (wrap64 (a1 + 2)), Z9, Z9, H', ⟨Nat.le_refl _⟩, Z10⟩
   case round =>
    clear H'
    obtain ⟨gL, gW, rfl, rfl, HA, HK2, ⟨m2, rfl⟩⟩ := hrel
    cases gk with
    | zero => exact absurd HA.out (by simp [bI.l0])
    | succ k2 =>
     have H := HA.out
     clear HA
     simp only [bI.l0] at H
     revert H; refine sId1_d0 (fun gR H => ?_) fun gR H => ?_
     ·revert H; refine sNd1 fun nQ H => ?_
      revert H; refine sNd1 fun kB H => ?_
      revert H; refine bnd ?_; rintro ⟨Ib, aqI⟩ Mw H; try dsimp only at H
      replace H := sB H
      obtain ⟨rfl, H⟩ | ⟨rfl, H⟩ := H
      ·as_aux_lemma =>
        have H' := Aside0.mk H
        clear H
        have p17 := eq_true (of_decide_eq_true Z8 : 0 ≤ (gW : Int))
        have q17 := eq_true (of_decide_eq_true Z8 : gW < (a0.size : Int))
        have hx17 := bt_at a0 gW
        go_wp2_with (first | (refine gl 55 (some 40) Tryz.func55 #[.int .u8 (bt a0 gW)] ?_; (with_reducible refine (aY.calls k2 (bt a0 gW) Ib true _ Mw.out).mono ?_); rintro e w' ⟨rfl, ⟨nd, rfl⟩⟩; refine ⟨_, rfl, ?_⟩))
        go_roundg k2
        case measure => have := HJ2.out; have := HK2.out; omega
        case rel => exact ⟨(wrap64 ((wrap64 (gL * 16)) + Ib)), (wrap64 (gW + 1)), Z9, Z9, H', ⟨by have := HJ2.out; have := HK2.out; omega⟩, Z10⟩
      as_aux_lemma =>
       simp only [Option.some.injEq, Prod.mk.injEq] at H
       obtain ⟨rfl, rfl⟩ := H
       have p17 := eq_true (of_decide_eq_true Z8 : 0 ≤ (gW : Int))
       have q17 := eq_true (of_decide_eq_true Z8 : gW < (a0.size : Int))
       have hx17 := bt_at a0 gW
       go_wp2_with (first | (refine gl 55 (some 40) Tryz.func55 #[.int .u8 (bt a0 gW)] ?_; (with_reducible refine (aY.calls k2 (bt a0 gW) Ib false _ Mw.out).mono ?_); rintro e w' ⟨rfl, ⟨nd, rfl⟩⟩; refine ⟨_, rfl, ?_⟩))
       go_ret2
       exact ⟨Z9, Z10⟩
     as_aux_lemma =>
      simp only [Option.some.injEq, Prod.mk.injEq] at H
      obtain ⟨rfl, rfl⟩ := H
      go_wp2
      go_ret2
      exact ⟨Z9, Z10⟩
def bM.l0 : Nat → ByteArray → Int → Option (Bool)
 | 0, _, _ => none
 | k + 1, x0, x3 => if x3 < (x0.size : Int) then (if 0 ≤ x3 then (if (bt x0 x3) = 92 then ((bI.f k x0 x3).bind fun bt108 => (if bt108.2 = true then ((dG.f bt108.1).bind fun Mx => (if Mx = true then ((bI.f k x0 (wrap64 (x3 + 6))).bind fun bt111 => (if bt111.2 = true then ((dJ.f bt111.1).bind fun My => (if My = true then (bM.l0 k x0 (wrap64 (x3 + 12))) else (some false))) else (some false))) else ((dJ.f bt108.1).bind fun Mz => (if Mz = true then (some false) else (bM.l0 k x0 (wrap64 (x3 + 6))))))) else (bM.l0 k x0 (wrap64 (x3 + 2))))) else (bM.l0 k x0 (wrap64 (x3 + 1)))) else (none)) else (some true)
def bM.f (k : Nat) (a0 : ByteArray) : Option (Bool) := bM.l0 k a0 0
theorem bM.mono_l : ∀ k, (∀ y0 y1, LeO (bM.l0 k y0 y1) (bM.l0 (k + 1) y0 y1))
 | 0 => fun _ _ r h => by simp [bM.l0] at h
 | k + 1 => by
  have ih0 := bM.mono_l k
  ·intro y0 y1
   unfold bM.l0
   repeat' first
   | (with_reducible exact ih0 _ _)
   | (with_reducible exact bI.mono _ _ _)
   | (with_reducible exact LeO.refl _)
   | (with_reducible exact LeO.none _)
   | (with_reducible refine LeO.ite ?_ ?_)
   | (with_reducible refine LeO.bind ?_ (fun _ => ?_))
   | exact ih0 _ _
   | exact bI.mono _ _ _
   | exact LeO.none _
   | refine LeO.ite ?_ ?_
   | refine LeO.bind ?_ (fun _ => ?_)
theorem bM.mono : ∀ a0 k, LeO (bM.f k a0) (bM.f (k + 1) a0) := by
 intro a0 k
 have ih0 := bM.mono_l k
 unfold bM.f
 exact zM
theorem bM.calls (k : Nat) (a0 : ByteArray) (r : Bool) (w : World) (h : bM.f k a0 = some r) :
 Calls Tryz.prog 17 #[.string a0] w fun e w' => e = .returned (.bool r) ∧ Drawn0 w w' := by
 have H : (bM.l0 k a0 0) = some r := h
 clear h
 have H' := Aside0.mk H
 clear H
 go_enter Tryz.func17, Tryz.ntmps17
 go_wp2
 (try simp only [Act.put, List.setIfInBounds_toArray, List.set_cons_zero, List.set_cons_succ])
 go_loopg [3] k (fun kq v3 w' => ∃ (dB : Int), v3 = .int .i64 dB ∧ Aside0 (bM.l0 kq a0 dB = some r) ∧ Aside0 (kq ≤ k) ∧ Drawn0 w w')
 case atStart => exact ⟨(0), Z9, H', ⟨Nat.le_refl _⟩, Z10⟩
 case round =>
  clear H'
  obtain ⟨dB, rfl, HA, HK1, ⟨m1, rfl⟩⟩ := hrel
  cases gk with
  | zero => exact absurd HA.out (by simp [bM.l0])
  | succ k1 =>
   have H := HA.out
   clear HA
   simp only [bM.l0] at H
   revert H; refine sId1_d0 (fun gQ H => ?_) fun gQ H => ?_
   ·revert H; refine sNd1 fun eW H => ?_
    revert H; refine sIe1n0_e0n1 (fun jZ qT H => ?_) fun jZ qT H => ?_
    ·revert H; refine bnd ?_; rintro ⟨oM, aqJ⟩ A6 H; try dsimp only at H
     replace H := sB H
     obtain ⟨rfl, H⟩ | ⟨rfl, H⟩ := H
     ·revert H; refine bnd ?_; rintro Mx A8 H
      replace H := sB H
      obtain ⟨rfl, H⟩ | ⟨rfl, H⟩ := H
      ·revert H; refine bnd ?_; rintro ⟨Dt, aqK⟩ Ka H; try dsimp only at H
       replace H := sB H
       obtain ⟨rfl, H⟩ | ⟨rfl, H⟩ := H
       ·revert H; refine bnd ?_; rintro My Hs H
        replace H := sB H
        obtain ⟨rfl, H⟩ | ⟨rfl, H⟩ := H
        ·as_aux_lemma =>
          have H' := Aside0.mk H
          clear H
          have p4 := eq_true (of_decide_eq_true Z8 : 0 ≤ (dB : Int))
          have q4 := eq_true (of_decide_eq_true Z8 : dB < (a0.size : Int))
          have hx4 := bt_at a0 dB
          exact Z6
        as_aux_lemma =>
         obtain rfl := Option.some.inj H
         have p4 := eq_true (of_decide_eq_true Z8 : 0 ≤ (dB : Int))
         have q4 := eq_true (of_decide_eq_true Z8 : dB < (a0.size : Int))
         have hx4 := bt_at a0 dB
         exact Z6
       as_aux_lemma =>
        obtain rfl := Option.some.inj H
        have p4 := eq_true (of_decide_eq_true Z8 : 0 ≤ (dB : Int))
        have q4 := eq_true (of_decide_eq_true Z8 : dB < (a0.size : Int))
        have hx4 := bt_at a0 dB
        exact Z6
      revert H; refine bnd ?_; rintro Mz Ht H
      replace H := sB H
      obtain ⟨rfl, H⟩ | ⟨rfl, H⟩ := H
      ·as_aux_lemma =>
        obtain rfl := Option.some.inj H
        have p4 := eq_true (of_decide_eq_true Z8 : 0 ≤ (dB : Int))
        have q4 := eq_true (of_decide_eq_true Z8 : dB < (a0.size : Int))
        have hx4 := bt_at a0 dB
        exact Z6
      as_aux_lemma =>
       have H' := Aside0.mk H
       clear H
       have p4 := eq_true (of_decide_eq_true Z8 : 0 ≤ (dB : Int))
       have q4 := eq_true (of_decide_eq_true Z8 : dB < (a0.size : Int))
       have hx4 := bt_at a0 dB
       exact Z6
     as_aux_lemma =>
      have H' := Aside0.mk H
      clear H
      have p4 := eq_true (of_decide_eq_true Z8 : 0 ≤ (dB : Int))
      have q4 := eq_true (of_decide_eq_true Z8 : dB < (a0.size : Int))
      have hx4 := bt_at a0 dB
      exact Z6
    as_aux_lemma =>
     have H' := Aside0.mk H
     clear H
     have p4 := eq_true (of_decide_eq_true Z8 : 0 ≤ (dB : Int))
     have q4 := eq_true (of_decide_eq_true Z8 : dB < (a0.size : Int))
     have hx4 := bt_at a0 dB
     go_wp2
     go_roundg k1
     case measure => have := HK1.out; omega
     case rel => exact ⟨(wrap64 (dB + 1)), Z9, H', ⟨by have := HK1.out; omega⟩, Z10⟩
   as_aux_lemma =>
    obtain rfl := Option.some.inj H
    go_wp2
    go_ret
    exact ⟨Z9, Z10⟩
def dI.f (a0 : Int) : Option (Bool) := if a0 = 32 then (some true) else (if a0 = 9 then (some true) else (if a0 = 10 then (some true) else (some (a0 == 13))))
theorem dI.calls (a0 : Int) (r : Bool) (w : World) (h : dI.f a0 = some r) :
 Calls Tryz.prog 31 #[.int .u8 a0] w fun e w' => e = .returned (.bool r) ∧ Drawn0 w w' := by
 have H : (if a0 = 32 then (some true) else (if a0 = 9 then (some true) else (if a0 = 10 then (some true) else (some (a0 == 13))))) = some r := h
 clear h
 revert H; refine sIe1n0_e0n1 (fun gQ kZ H => ?_) fun gQ kZ H => ?_
 ·as_aux_lemma =>
   obtain rfl := Option.some.inj H
   go_enter Tryz.func31, Tryz.ntmps31
   go_wp2
   go_ret
   exact ⟨Z9, Z10⟩
 revert H; refine sIe1n0_e0n1 (fun eW oJ H => ?_) fun eW oJ H => ?_
 ·as_aux_lemma =>
   obtain rfl := Option.some.inj H
   go_enter Tryz.func31, Tryz.ntmps31
   go_wp2
   go_ret
   exact ⟨Z9, Z10⟩
 revert H; refine sIe1n0_e0n1 (fun gV xV H => ?_) fun gV xV H => ?_
 ·as_aux_lemma =>
   obtain rfl := Option.some.inj H
   go_enter Tryz.func31, Tryz.ntmps31
   go_wp2
   go_ret
   exact ⟨Z9, Z10⟩
 as_aux_lemma =>
  obtain rfl := Option.some.inj H
  go_enter Tryz.func31, Tryz.ntmps31
  go_wp2
  go_ret
  exact ⟨Z9, Z10⟩
end Go.Proofs.YtkjnahgicfmicaaGreatDoor.Sp

import Derived.Test.YtmpdhdnoohmndaaGreatDoorZip
import Derived.Test.YtmpdhdnoohmndaaGreatDoorQa
namespace Go.Proofs.YtmpdhdnoohmndaaGreatDoor.Sp
set_option maxHeartbeats 8000000
set_option maxRecDepth 100000
open Go.RowKit Go.Proofs.YtmpdhdnoohmndaaGreatDoorW.PrintWords Go.Proofs.YtmpdhdnoohmndaaGreatDoorW.PrintLast Go.Proofs.YtmpdhdnoohmndaaGreatDoorW.PrintMore
attribute [local go_sem] max2_int min2_int max_two min_two max_three min_three max_four min_four
set_option linter.unusedVariables false
set_option linter.unusedSimpArgs false
def bW.f (a0 : Int) : Option (Bool) := if 55296 ≤ a0 then (some (decide (a0 ≤ 56319))) else (some false)
theorem bW.calls (a0 : Int) (r : Bool) (w : World) (h : bW.f a0 = some r) :
 Calls Tryz.prog 22 #[.int .i64 a0] w fun e w' => e = .returned (.bool r) ∧ Drawn0 w w' := by
 have H : (if 55296 ≤ a0 then (some (decide (a0 ≤ 56319))) else (some false)) = some r := h
 clear h
 revert H; refine sId1_d0 (fun eY H => ?_) fun eY H => ?_
 ·as_aux_lemma =>
   obtain rfl := ar H
   go_enter Tryz.func22, Tryz.ntmps22
   go_wp2
   go_ret
   exact ⟨Z8, Z10⟩
 as_aux_lemma =>
  obtain rfl := ar H
  go_enter Tryz.func22, Tryz.ntmps22
  go_wp2
  go_ret
  exact ⟨Z8, Z10⟩
def cB.f (a0 : Int) : Option (Bool) := if 56320 ≤ a0 then (some (decide (a0 ≤ 57343))) else (some false)
theorem cB.calls (a0 : Int) (r : Bool) (w : World) (h : cB.f a0 = some r) :
 Calls Tryz.prog 23 #[.int .i64 a0] w fun e w' => e = .returned (.bool r) ∧ Drawn0 w w' := by
 have H : (if 56320 ≤ a0 then (some (decide (a0 ≤ 57343))) else (some false)) = some r := h
 clear h
 revert H; refine sId1_d0 (fun eY H => ?_) fun eY H => ?_
 ·as_aux_lemma =>
   obtain rfl := ar H
   go_enter Tryz.func23, Tryz.ntmps23
   go_wp2
   go_ret
   exact ⟨Z8, Z10⟩
 as_aux_lemma =>
  obtain rfl := ar H
  go_enter Tryz.func23, Tryz.ntmps23
  go_wp2
  go_ret
  exact ⟨Z8, Z10⟩
mutual
def aJ.j2 : Nat → au → Int → Int → Int → Int → Option (Int × Int × Bool)
 | 0, _, _, _, _, _ => none
 | k + 1, x0, x1, x7, x8, x9 => if (wrap64 ((x0.size : Int) - x1)) ≤ x8 then (some (65533, 1, false)) else (aJ.l0 k x0 x1 x7 x8 x9 1)
def aJ.l0 : Nat → au → Int → Int → Int → Int → Int → Option (Int × Int × Bool)
 | 0, _, _, _, _, _, _ => none
 | k + 1, x0, x1, x7, x8, x9, x10 => if x10 ≤ x8 then (if 0 ≤ (wrap64 (x1 + x10)) then (if (wrap64 (x1 + x10)) < (x0.size : Int) then (if (wrap64 (bt x0 (wrap64 (x1 + x10)))) < 128 then (some (65533, 1, false)) else (if (wrap64 (bt x0 (wrap64 (x1 + x10)))) > 191 then (some (65533, 1, false)) else (aJ.l0 k x0 x1 (wrap64 ((wrap64 ((wrap64 (x7 * 64)) + (wrap64 (bt x0 (wrap64 (x1 + x10)))))) - 128)) x8 x9 (wrap64 (x10 + 1))))) else (none)) else (none)) else (if x7 < x9 then (some (65533, 1, false)) else (if x7 > 1114111 then (some (65533, 1, false)) else ((bW.f x7).bind fun xI => (if xI = true then (some (65533, 1, false)) else ((cB.f x7).bind fun xJ => (if xJ = true then (some (65533, 1, false)) else (some (x7, wrap64 (x8 + 1), true))))))))
def aJ.j0 : Nat → au → Int → Int → Bool → Option (Int × Int × Bool)
 | 0, _, _, _, _ => none
 | k + 1, x0, x1, x7, x20 => if x20 = true then (aJ.j2 k x0 x1 (wrap64 (x7 - 192)) 1 128) else (if 224 ≤ x7 then (aJ.j1 k x0 x1 x7 (decide (x7 ≤ 239))) else (aJ.j1 k x0 x1 x7 false))
def aJ.j1 : Nat → au → Int → Int → Bool → Option (Int × Int × Bool)
 | 0, _, _, _, _ => none
 | k + 1, x0, x1, x7, x29 => if x29 = true then (aJ.j2 k x0 x1 (wrap64 (x7 - 224)) 2 2048) else (if 240 ≤ x7 then (if x7 ≤ 244 then (aJ.j2 k x0 x1 (wrap64 (x7 - 240)) 3 65536) else (some (65533, 1, false))) else (some (65533, 1, false)))
end
def aJ.f (k : Nat) (a0 : au) (a1 : Int) : Option (Int × Int × Bool) := if 0 ≤ a1 then (if a1 < (a0.size : Int) then (if (wrap64 (bt a0 a1)) < 128 then (some (wrap64 (bt a0 a1), 1, true)) else (if 194 ≤ (wrap64 (bt a0 a1)) then (aJ.j0 k a0 a1 (wrap64 (bt a0 a1)) (decide ((wrap64 (bt a0 a1)) ≤ 223))) else (aJ.j0 k a0 a1 (wrap64 (bt a0 a1)) false))) else (none)) else (none)
theorem aJ.mono_l : ∀ k, (∀ y0 y1 y2 y3 y4, LeO (aJ.j2 k y0 y1 y2 y3 y4) (aJ.j2 (k + 1) y0 y1 y2 y3 y4)) ∧ (∀ y0 y1 y2 y3 y4 y5, LeO (aJ.l0 k y0 y1 y2 y3 y4 y5) (aJ.l0 (k + 1) y0 y1 y2 y3 y4 y5)) ∧ (∀ y0 y1 y2 y3, LeO (aJ.j0 k y0 y1 y2 y3) (aJ.j0 (k + 1) y0 y1 y2 y3)) ∧ (∀ y0 y1 y2 y3, LeO (aJ.j1 k y0 y1 y2 y3) (aJ.j1 (k + 1) y0 y1 y2 y3))
 | 0 => ⟨fun _ _ _ _ _ r h => by simp [aJ.j2] at h, fun _ _ _ _ _ _ r h => by simp [aJ.l0] at h, fun _ _ _ _ r h => by simp [aJ.j0] at h, fun _ _ _ _ r h => by simp [aJ.j1] at h⟩
 | k + 1 => by
  obtain ⟨ih0, ih1, ih2, ih3⟩ := aJ.mono_l k
  refine ⟨?_, ?_, ?_, ?_⟩
  ·intro y0 y1 y2 y3 y4
   unfold aJ.j2
   exact zM
  ·intro y0 y1 y2 y3 y4 y5
   unfold aJ.l0
   exact zM
  ·intro y0 y1 y2 y3
   unfold aJ.j0
   exact zM
  ·intro y0 y1 y2 y3
   unfold aJ.j1
   exact zM
theorem aJ.mono : ∀ a0 a1 k, LeO (aJ.f k a0 a1) (aJ.f (k + 1) a0 a1) := by
 intro a0 a1 k
 obtain ⟨ih0, ih1, ih2, ih3⟩ := aJ.mono_l k
 unfold aJ.f
 exact zM
instance aJ.mi  {a0 a1 k} : LeI (aJ.f k a0 a1) (aJ.f (k + 1) a0 a1) := ⟨⟨aJ.mono a0 a1 k⟩⟩
theorem aJ.calls (k : Nat) (a0 : au) (a1 : Int) (r1 : Int) (r2 : Int) (r3 : Bool) (w : World) (h : aJ.f k a0 a1 = some (r1, r2, r3)) :
 Calls Tryz.prog 20 #[.string a0, .int .i64 a1] w fun e w' => e = .returned (.tuple #[.int .i64 r1, .int .i64 r2, .bool r3]) ∧ Drawn0 w w' := by
 unfold aJ.f at h
 have H := h
 clear h
 revert H; refine sNd1 fun dE H => ?_
 revert H; refine sNd1 fun fG H => ?_
 have Pn := aa H
 clear H
 have p5 := af (ab Z9 : 0 ≤ (a1 : Int))
 have q5 := af (ab Z9 : a1 < (a0.size : Int))
 have hx5 := bt_at a0 a1
 go_enter Tryz.func20, Tryz.ntmps20
 go_upto_block 0 with (fail)
 go_cut [7, 8, 9] (fun v7 v8 v9 wc => ∃ (kq : Nat) (qC : Int) (oE : Int) (oF : Int), v7 = .int .i64 qC ∧ v8 = .int .i64 oE ∧ v9 = .int .i64 oF ∧ Aside0 (aJ.j2 kq a0 a1 qC oE oF = some (r1, r2, r3)) ∧ Aside0 (kq ≤ k) ∧ Drawn0 w wc)
 case first =>
  have H := Pn.out
  clear Pn
  revert H; refine sId1_d0 (fun iM H => ?_) fun iM H => ?_
  ·(first | rw [iM] | (simp only [i64_w, i32_w]; rw [iM]) | skip)
   as_aux_lemma =>
    simp only [al, am] at H
    obtain ⟨rfl, rfl, rfl⟩ := H
    go_wp2
    go_ret3
    exact ⟨Z8, Z10⟩
  (first | rw [iM] | (simp only [i64_w, i32_w]; rw [iM]) | skip)
  have Po := aa H
  clear H
  go_upto_region 6 with (fail)
  go_cut [20] (fun v20 wc => ∃ (kq : Nat) (oG : Bool), v20 = .bool oG ∧ Aside0 (aJ.j0 kq a0 a1 (wrap64 (bt a0 a1)) oG = some (r1, r2, r3)) ∧ Aside0 (kq ≤ k) ∧ Drawn0 w wc)
  case first =>
   have H := Po.out
   clear Po
   revert H; refine sId1_d0 (fun jJ H => ?_) fun jJ H => ?_
   ·(first | rw [jJ] | (simp only [i64_w, i32_w]; rw [jJ]) | skip)
    as_aux_lemma =>
     have H' := aa H
     clear H
     go_wp2
     go_meet
     case rel => exact ⟨_, (decide ((wrap64 (bt a0 a1)) ≤ 223)), Z8, H', ⟨Z23⟩, Z10⟩
   (first | rw [jJ] | (simp only [i64_w, i32_w]; rw [jJ]) | skip)
   as_aux_lemma =>
    have H' := aa H
    clear H
    go_wp2
    go_meet
    case rel => exact ⟨_, (false), Z8, H', ⟨Z23⟩, Z10⟩
  case rest =>
   clear Po
   try clear dE fG p5 q5 hx5 iM
   obtain ⟨kq, oG, rfl, HA, HJ7, ⟨mc7, rfl⟩⟩ := hcut
   cases kq with
   | zero => exact absurd HA.out (by simp [aJ.j0])
   | succ kj7 =>
    have H := HA.out
    clear HA
    simp only [aJ.j0] at H
    replace H := sB H
    obtain ⟨rfl, H⟩ | ⟨rfl, H⟩ := H
    ·as_aux_lemma =>
      have H' := aa H
      clear H
      go_wp2
      go_meet
      case rel => exact ⟨_, (wrap64 ((wrap64 (bt a0 a1)) - 192)), (1), (128), Z8, Z8, Z8, H', ⟨by have := HJ7.out; first | omega | exact Nat.le_refl _⟩, Z10⟩
    have lG := aa H
    clear H
    go_upto_region 8 with (fail)
    go_cut [29] (fun v29 wc => ∃ (kq : Nat) (lH : Bool), v29 = .bool lH ∧ Aside0 (aJ.j1 kq a0 a1 (wrap64 (bt a0 a1)) lH = some (r1, r2, r3)) ∧ Aside0 (kq ≤ kj7) ∧ Drawn0 w wc)
    case first =>
     have H := lG.out
     clear lG
     revert H; refine sId1_d0 (fun kO H => ?_) fun kO H => ?_
     ·(first | rw [kO] | (simp only [i64_w, i32_w]; rw [kO]) | skip)
      as_aux_lemma =>
       have H' := aa H
       clear H
       go_wp2
       go_meet
       case rel => exact ⟨_, (decide ((wrap64 (bt a0 a1)) ≤ 239)), Z8, H', ⟨by have := HJ7.out; first | omega | exact Nat.le_refl _⟩, Z10⟩
     (first | rw [kO] | (simp only [i64_w, i32_w]; rw [kO]) | skip)
     as_aux_lemma =>
      have H' := aa H
      clear H
      go_wp2
      go_meet
      case rel => exact ⟨_, (false), Z8, H', ⟨by have := HJ7.out; first | omega | exact Nat.le_refl _⟩, Z10⟩
    case rest =>
     clear lG
     obtain ⟨kq, lH, rfl, HA, HJ10, ⟨mc10, rfl⟩⟩ := hcut
     cases kq with
     | zero => exact absurd HA.out (by simp [aJ.j1])
     | succ kj10 =>
      have H := HA.out
      clear HA
      simp only [aJ.j1] at H
      replace H := sB H
      obtain ⟨rfl, H⟩ | ⟨rfl, H⟩ := H
      ·as_aux_lemma =>
        have H' := aa H
        clear H
        go_wp2
        go_meet
        case rel => exact ⟨_, (wrap64 ((wrap64 (bt a0 a1)) - 224)), (2), (2048), Z8, Z8, Z8, H', ⟨by have := HJ7.out; have := HJ10.out; first | omega | exact Nat.le_refl _⟩, Z10⟩
      revert H; refine sId1_d0 (fun eV H => ?_) fun eV H => ?_
      ·revert H; refine sId1_d0 (fun oH H => ?_) fun oH H => ?_
       ·as_aux_lemma =>
         have H' := aa H
         clear H
         go_wp2
         go_meet
         case rel => exact ⟨_, (wrap64 ((wrap64 (bt a0 a1)) - 240)), (3), (65536), Z8, Z8, Z8, H', ⟨by have := HJ7.out; have := HJ10.out; first | omega | exact Nat.le_refl _⟩, Z10⟩
       as_aux_lemma =>
        simp only [al, am] at H
        obtain ⟨rfl, rfl, rfl⟩ := H
        go_wp2
        go_ret3
        exact ⟨Z8, Z10⟩
      as_aux_lemma =>
       simp only [al, am] at H
       obtain ⟨rfl, rfl, rfl⟩ := H
       go_wp2
       go_ret3
       exact ⟨Z8, Z10⟩
 case rest =>
  clear Pn
  try clear dE fG p5 q5 hx5
  obtain ⟨kq, qC, oE, oF, rfl, rfl, rfl, HA, HJ5, ⟨mc5, rfl⟩⟩ := hcut
  cases kq with
  | zero => exact absurd HA.out (by simp [aJ.j2])
  | succ kj5 =>
   have H := HA.out
   clear HA
   simp only [aJ.j2] at H
   revert H; refine sId1_d0 (fun jF H => ?_) fun jF H => ?_
   ·as_aux_lemma =>
     simp only [al, am] at H
     obtain ⟨rfl, rfl, rfl⟩ := H
     go_wp2
     go_ret3
     exact ⟨Z8, Z10⟩
   have H' := aa H
   clear H
   go_wp2
   (try simp only [Act.put, ao, ap, aq])
   go_loopg [7, 10] kj5 (fun kq v7 v10 w' => ∃ (dR : Int) (iO : Int), v7 = .int .i64 dR ∧ v10 = .int .i64 iO ∧ Aside0 (aJ.l0 kq a0 a1 dR oE oF iO = some (r1, r2, r3)) ∧ Aside0 (kq ≤ kj5) ∧ Drawn0 w w')
   case atStart => exact ⟨(qC), (1), Z8, Z8, H', ⟨Nat.le_refl _⟩, Z10⟩
   case round =>
    clear H'
    try clear jF
    obtain ⟨dR, iO, rfl, rfl, HA, HK2, ⟨m2, rfl⟩⟩ := hrel
    cases gk with
    | zero => exact absurd HA.out (by simp [aJ.l0])
    | succ k2 =>
     have H := HA.out
     clear HA
     simp only [aJ.l0] at H
     revert H; refine sId1_d0 (fun xK H => ?_) fun xK H => ?_
     ·obtain ⟨fH, lZ⟩ : ∃ j_ : Int, (wrap64 (a1 + iO)) = j_ := ⟨_, rfl⟩
      replace H : (if 0 ≤ (fH) then (if (fH) < (a0.size : Int) then (if (wrap64 (bt a0 (fH))) < 128 then (some (65533, 1, false)) else (if (wrap64 (bt a0 (fH))) > 191 then (some (65533, 1, false)) else (aJ.l0 k2 a0 a1 (wrap64 ((wrap64 ((wrap64 (dR * 64)) + (wrap64 (bt a0 (fH))))) - 128)) oE oF (wrap64 (iO + 1))))) else (none)) else (none)) = some (r1, r2, r3) := by first | (rw [lZ] at H; exact H) | (simp only [lZ] at H ⊢; exact H)
      have hji18w : (IntKind.i64.wrap (a1 + iO)) = fH := (i64_w _).trans lZ
      revert H; refine sNd1 fun Sb H => ?_
      revert H; refine sNd1 fun oI H => ?_
      revert H; refine sId1_d0 (fun kP H => ?_) fun kP H => ?_
      ·as_aux_lemma =>
        simp only [al, am] at H
        obtain ⟨rfl, rfl, rfl⟩ := H
        have p21 := af (ab Z9 : 0 ≤ ((fH) : Int))
        have q21 := af (ab Z9 : (fH) < (a0.size : Int))
        have hx21 := bt_at a0 (fH)
        go_wp2
        go_ret3
        exact ⟨Z57, Z10⟩
      revert H; refine sIk_k (fun c23 H => ?_) fun c23 H => ?_
      ·have tR : decide (191 < (wrap64 (bt a0 (fH)))) = true := ac c23
       clear c23
       as_aux_lemma =>
        simp only [al, am] at H
        obtain ⟨rfl, rfl, rfl⟩ := H
        have p21 := af (ab Z9 : 0 ≤ ((fH) : Int))
        have q21 := af (ab Z9 : (fH) < (a0.size : Int))
        have hx21 := bt_at a0 (fH)
        go_wp2
        go_ret3
        exact ⟨Z57, Z10⟩
      have tR : decide (191 < (wrap64 (bt a0 (fH)))) = false := ae c23
      clear c23
      as_aux_lemma =>
       have H' := aa H
       clear H
       have p21 := af (ab Z9 : 0 ≤ ((fH) : Int))
       have q21 := af (ab Z9 : (fH) < (a0.size : Int))
       have hx21 := bt_at a0 (fH)
       go_wp2
       go_roundg k2
       case measure => have := HJ5.out; have := HK2.out; omega
       case rel => exact ⟨(wrap64 ((wrap64 ((wrap64 (dR * 64)) + (wrap64 (bt a0 (fH))))) - 128)), (wrap64 (iO + 1)), Z57, Z8, H', ⟨by have := HJ5.out; have := HK2.out; omega⟩, Z10⟩
     revert H; refine sId1_d0 (fun tS H => ?_) fun tS H => ?_
     ·as_aux_lemma =>
       simp only [al, am] at H
       obtain ⟨rfl, rfl, rfl⟩ := H
       go_wp2
       go_ret3
       exact ⟨Z8, Z10⟩
     revert H; refine sIk_k (fun c25 H => ?_) fun c25 H => ?_
     ·have tT : decide (1114111 < dR) = true := ac c25
      clear c25
      as_aux_lemma =>
       simp only [al, am] at H
       obtain ⟨rfl, rfl, rfl⟩ := H
       go_wp2
       go_ret3
       exact ⟨Z8, Z10⟩
     have tT : decide (1114111 < dR) = false := ae c25
     clear c25
     revert H; refine bnd ?_; rintro xI xL H
     replace H := sB H
     obtain ⟨rfl, H⟩ | ⟨rfl, H⟩ := H
     ·as_aux_lemma =>
       simp only [al, am] at H
       obtain ⟨rfl, rfl, rfl⟩ := H
       go_wp2_with (first | (go_at_call 22; (with_reducible refine (bW.calls dR true _ xL.out).mono ?_); rintro e w' ⟨rfl, ⟨nd, rfl⟩⟩))
       go_ret3
       exact ⟨Z8, Z10⟩
     revert H; refine bnd ?_; rintro xJ pR H
     replace H := sB H
     obtain ⟨rfl, H⟩ | ⟨rfl, H⟩ := H
     ·as_aux_lemma =>
       simp only [al, am] at H
       obtain ⟨rfl, rfl, rfl⟩ := H
       go_wp2_with (first | (go_at_call 22; (with_reducible refine (bW.calls dR false _ xL.out).mono ?_); rintro e w' ⟨rfl, ⟨nd, rfl⟩⟩) | (go_at_call 23; (with_reducible refine (cB.calls dR true _ pR.out).mono ?_); rintro e w' ⟨rfl, ⟨nd, rfl⟩⟩))
       go_ret3
       exact ⟨Z8, Z10⟩
     as_aux_lemma =>
      simp only [al, am] at H
      obtain ⟨rfl, rfl, rfl⟩ := H
      go_wp2_with (first | (go_at_call 22; (with_reducible refine (bW.calls dR false _ xL.out).mono ?_); rintro e w' ⟨rfl, ⟨nd, rfl⟩⟩) | (go_at_call 23; (with_reducible refine (cB.calls dR false _ pR.out).mono ?_); rintro e w' ⟨rfl, ⟨nd, rfl⟩⟩))
      go_ret3
      exact ⟨Z8, Z10⟩
def bI.l0 : Nat → au → Int → Option (Bool)
 | 0, _, _ => none
 | k + 1, x0, x3 => if x3 < (x0.size : Int) then ((aJ.f k x0 x3).bind fun bt103 => (if bt103.2.2 = true then (bI.l0 k x0 (wrap64 (x3 + bt103.2.1))) else (some false))) else (some true)
def bI.f (k : Nat) (a0 : au) : Option (Bool) := bI.l0 k a0 0
theorem bI.mono_l : ∀ k, (∀ y0 y1, LeO (bI.l0 k y0 y1) (bI.l0 (k + 1) y0 y1))
 | 0 => fun _ _ r h => by simp [bI.l0] at h
 | k + 1 => by
  have ih0 := bI.mono_l k
  ·intro y0 y1
   unfold bI.l0
   exact zM
theorem bI.mono : ∀ a0 k, LeO (bI.f k a0) (bI.f (k + 1) a0) := by
 intro a0 k
 have ih0 := bI.mono_l k
 unfold bI.f
 exact zM
theorem bI.calls (k : Nat) (a0 : au) (r : Bool) (w : World) (h : bI.f k a0 = some r) :
 Calls Tryz.prog 11 #[.string a0] w fun e w' => e = .returned (.bool r) ∧ Drawn0 w w' := by
 have H : (bI.l0 k a0 0) = some r := h
 clear h
 have H' := aa H
 clear H
 go_enter Tryz.func11, Tryz.ntmps11
 go_wp2
 (try simp only [Act.put, ao, ap, aq])
 go_loopg [3] k (fun kq v3 w' => ∃ (bS : Int), v3 = .int .i64 bS ∧ Aside0 (bI.l0 kq a0 bS = some r) ∧ Aside0 (kq ≤ k) ∧ Drawn0 w w')
 case atStart => exact ⟨(0), Z8, H', ⟨Nat.le_refl _⟩, Z10⟩
 case round =>
  clear H'
  obtain ⟨bS, rfl, HA, HK1, ⟨m1, rfl⟩⟩ := hrel
  cases gk with
  | zero => exact absurd HA.out (by simp [bI.l0])
  | succ k1 =>
   have H := HA.out
   clear HA
   simp only [bI.l0] at H
   revert H; refine sId1_d0 (fun eY H => ?_) fun eY H => ?_
   ·revert H; refine bnd ?_; rintro ⟨xM, uR, Wc⟩ A3 H; try dsimp only at H
    replace H := sB H
    obtain ⟨rfl, H⟩ | ⟨rfl, H⟩ := H
    ·as_aux_lemma =>
      have H' := aa H
      clear H
      go_wp2_with (first | (refine gl 20 (some 14) Tryz.func20 #[.string a0, .int .i64 bS] ?_; (with_reducible refine (aJ.calls k1 a0 bS xM uR true _ A3.out).mono ?_); rintro e w' ⟨rfl, ⟨nd, rfl⟩⟩; refine ⟨_, rfl, ?_⟩))
      go_roundg k1
      case measure => have := HK1.out; omega
      case rel => exact ⟨(wrap64 (bS + uR)), Z8, H', ⟨by have := HK1.out; omega⟩, Z10⟩
    as_aux_lemma =>
     obtain rfl := ar H
     go_wp2_with (first | (refine gl 20 (some 14) Tryz.func20 #[.string a0, .int .i64 bS] ?_; (with_reducible refine (aJ.calls k1 a0 bS xM uR false _ A3.out).mono ?_); rintro e w' ⟨rfl, ⟨nd, rfl⟩⟩; refine ⟨_, rfl, ?_⟩))
     go_ret
     exact ⟨Z8, Z10⟩
   as_aux_lemma =>
    obtain rfl := ar H
    go_wp2
    go_ret
    exact ⟨Z8, Z10⟩
end Go.Proofs.YtmpdhdnoohmndaaGreatDoor.Sp

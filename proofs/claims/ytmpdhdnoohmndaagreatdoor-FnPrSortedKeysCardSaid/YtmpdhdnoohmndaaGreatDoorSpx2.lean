import Derived.Test.YtmpdhdnoohmndaaGreatDoorZip
import Derived.Test.YtmpdhdnoohmndaaGreatDoorQa
import Derived.Test.YtmpdhdnoohmndaaGreatDoorSpx1
namespace Go.Proofs.YtmpdhdnoohmndaaGreatDoor.Sp
set_option maxHeartbeats 8000000
set_option maxRecDepth 100000
open Go.RowKit Go.Proofs.YtmpdhdnoohmndaaGreatDoorW.PrintWords Go.Proofs.YtmpdhdnoohmndaaGreatDoorW.PrintLast Go.Proofs.YtmpdhdnoohmndaaGreatDoorW.PrintMore
attribute [local go_sem] max2_int min2_int max_two min_two max_three min_three max_four min_four
set_option linter.unusedVariables false
set_option linter.unusedSimpArgs false
mutual
def aQ.j0 : Nat → Int → Bool → Option (Int × Bool)
 | 0, _, _ => none
 | k + 1, x0, x4 => if x4 = true then (some ((x0 - 48) % 256, true)) else (if 97 ≤ x0 then (aQ.j1 k x0 (decide (x0 ≤ 102))) else (aQ.j1 k x0 false))
def aQ.j1 : Nat → Int → Bool → Option (Int × Bool)
 | 0, _, _ => none
 | k + 1, x0, x14 => if x14 = true then (some (((x0 - 97) % 256) + 10, true)) else (if 65 ≤ x0 then (if x0 ≤ 70 then (some (((x0 - 65) % 256) + 10, true)) else (some (0, false))) else (some (0, false)))
end
def aQ.f (k : Nat) (a0 : Int) : Option (Int × Bool) := if 48 ≤ a0 then (aQ.j0 k a0 (decide (a0 ≤ 57))) else (aQ.j0 k a0 false)
theorem aQ.mono_l : ∀ k, (∀ y0 y1, LeO (aQ.j0 k y0 y1) (aQ.j0 (k + 1) y0 y1)) ∧ (∀ y0 y1, LeO (aQ.j1 k y0 y1) (aQ.j1 (k + 1) y0 y1))
 | 0 => ⟨fun _ _ r h => by simp [aQ.j0] at h, fun _ _ r h => by simp [aQ.j1] at h⟩
 | k + 1 => by
  obtain ⟨ih0, ih1⟩ := aQ.mono_l k
  refine ⟨?_, ?_⟩
  ·intro y0 y1
   unfold aQ.j0
   exact zM
  ·intro y0 y1
   unfold aQ.j1
   exact zM
theorem aQ.mono : ∀ a0 k, LeO (aQ.f k a0) (aQ.f (k + 1) a0) := by
 intro a0 k
 obtain ⟨ih0, ih1⟩ := aQ.mono_l k
 unfold aQ.f
 exact zM
instance aQ.mi  {a0 k} : LeI (aQ.f k a0) (aQ.f (k + 1) a0) := ⟨⟨aQ.mono a0 k⟩⟩
theorem aQ.calls (k : Nat) (a0 : Int) (r1 : Int) (r2 : Bool) (w : World) (h : aQ.f k a0 = some (r1, r2)) :
 Calls Tryz.prog 34 #[.int .u8 a0] w fun e w' => e = .returned (.tuple #[.int .i64 r1, .bool r2]) ∧ Drawn0 w w' := by
 unfold aQ.f at h
 have H := h
 clear h
 have iV := aa H
 clear H
 go_enter Tryz.func34, Tryz.ntmps34
 go_upto_region 1 with (fail)
 go_cut [4] (fun v4 wc => ∃ (kq : Nat) (fT : Bool), v4 = .bool fT ∧ Aside0 (aQ.j0 kq a0 fT = some (r1, r2)) ∧ Aside0 (kq ≤ k) ∧ Drawn0 w wc)
 case first =>
  have H := iV.out
  clear iV
  revert H; refine sId1_d0 (fun dE H => ?_) fun dE H => ?_
  ·(first | rw [dE] | (simp only [i64_w, i32_w]; rw [dE]) | skip)
   as_aux_lemma =>
    have H' := aa H
    clear H
    go_wp2
    go_meet
    case rel => exact ⟨_, (decide (a0 ≤ 57)), Z8, H', ⟨Z23⟩, Z10⟩
  (first | rw [dE] | (simp only [i64_w, i32_w]; rw [dE]) | skip)
  as_aux_lemma =>
   have H' := aa H
   clear H
   go_wp2
   go_meet
   case rel => exact ⟨_, (false), Z8, H', ⟨Z23⟩, Z10⟩
 case rest =>
  clear iV
  obtain ⟨kq, fT, rfl, HA, HJ1, ⟨mc1, rfl⟩⟩ := hcut
  cases kq with
  | zero => exact absurd HA.out (by simp [aQ.j0])
  | succ kj1 =>
   have H := HA.out
   clear HA
   simp only [aQ.j0] at H
   replace H := sB H
   obtain ⟨rfl, H⟩ | ⟨rfl, H⟩ := H
   ·as_aux_lemma =>
     simp only [al, am] at H
     obtain ⟨rfl, rfl⟩ := H
     go_wp2
     go_ret2
     exact ⟨Z8, Z10⟩
   have tP := aa H
   clear H
   go_upto_region 3 with (fail)
   go_cut [14] (fun v14 wc => ∃ (kq : Nat) (oJ : Bool), v14 = .bool oJ ∧ Aside0 (aQ.j1 kq a0 oJ = some (r1, r2)) ∧ Aside0 (kq ≤ kj1) ∧ Drawn0 w wc)
   case first =>
    have H := tP.out
    clear tP
    revert H; refine sId1_d0 (fun eU H => ?_) fun eU H => ?_
    ·(first | rw [eU] | (simp only [i64_w, i32_w]; rw [eU]) | skip)
     as_aux_lemma =>
      have H' := aa H
      clear H
      go_wp2
      go_meet
      case rel => exact ⟨_, (decide (a0 ≤ 102)), Z8, H', ⟨by have := HJ1.out; first | omega | exact Nat.le_refl _⟩, Z10⟩
    (first | rw [eU] | (simp only [i64_w, i32_w]; rw [eU]) | skip)
    as_aux_lemma =>
     have H' := aa H
     clear H
     go_wp2
     go_meet
     case rel => exact ⟨_, (false), Z8, H', ⟨by have := HJ1.out; first | omega | exact Nat.le_refl _⟩, Z10⟩
   case rest =>
    clear tP
    obtain ⟨kq, oJ, rfl, HA, HJ4, ⟨mc4, rfl⟩⟩ := hcut
    cases kq with
    | zero => exact absurd HA.out (by simp [aQ.j1])
    | succ kj4 =>
     have H := HA.out
     clear HA
     simp only [aQ.j1] at H
     replace H := sB H
     obtain ⟨rfl, H⟩ | ⟨rfl, H⟩ := H
     ·as_aux_lemma =>
       simp only [al, am] at H
       obtain ⟨rfl, rfl⟩ := H
       go_wp2
       go_ret2
       exact ⟨Z8, Z10⟩
     revert H; refine sId1_d0 (fun iK H => ?_) fun iK H => ?_
     ·revert H; refine sId1_d0 (fun jJ H => ?_) fun jJ H => ?_
      ·as_aux_lemma =>
        simp only [al, am] at H
        obtain ⟨rfl, rfl⟩ := H
        go_wp2
        go_ret2
        exact ⟨Z8, Z10⟩
      as_aux_lemma =>
       simp only [al, am] at H
       obtain ⟨rfl, rfl⟩ := H
       go_wp2
       go_ret2
       exact ⟨Z8, Z10⟩
     as_aux_lemma =>
      simp only [al, am] at H
      obtain ⟨rfl, rfl⟩ := H
      go_wp2
      go_ret2
      exact ⟨Z8, Z10⟩
mutual
def aY.j0 : Nat → au → Int → Bool → Option (Int × Bool)
 | 0, _, _, _ => none
 | k + 1, x0, x1, x27 => if x27 = true then (some (0, false)) else (aY.l0 k x0 x1 0 (wrap64 (x1 + 2)))
def aY.l0 : Nat → au → Int → Int → Int → Option (Int × Bool)
 | 0, _, _, _, _ => none
 | k + 1, x0, x1, x6, x7 => if x7 < (wrap64 (x1 + 6)) then (if 0 ≤ x7 then (if x7 < (x0.size : Int) then ((aQ.f k (bt x0 x7)).bind fun bt106 => (if bt106.2 = true then (aY.l0 k x0 x1 (wrap64 ((wrap64 (x6 * 16)) + bt106.1)) (wrap64 (x7 + 1))) else (some (0, false)))) else (none)) else (none)) else (some (x6, true))
end
def aY.f (k : Nat) (a0 : au) (a1 : Int) : Option (Int × Bool) := if (wrap64 ((a0.size : Int) - a1)) < 6 then (aY.j0 k a0 a1 true) else (if 0 ≤ a1 then (if a1 < (a0.size : Int) then (if (bt a0 a1) = 92 then (if 0 ≤ (wrap64 (a1 + 1)) then (if (wrap64 (a1 + 1)) < (a0.size : Int) then (aY.j0 k a0 a1 ((bt a0 (wrap64 (a1 + 1))) != 117)) else (none)) else (none)) else (aY.j0 k a0 a1 true)) else (none)) else (none))
theorem aY.mono_l : ∀ k, (∀ y0 y1 y2, LeO (aY.j0 k y0 y1 y2) (aY.j0 (k + 1) y0 y1 y2)) ∧ (∀ y0 y1 y2 y3, LeO (aY.l0 k y0 y1 y2 y3) (aY.l0 (k + 1) y0 y1 y2 y3))
 | 0 => ⟨fun _ _ _ r h => by simp [aY.j0] at h, fun _ _ _ _ r h => by simp [aY.l0] at h⟩
 | k + 1 => by
  obtain ⟨ih0, ih1⟩ := aY.mono_l k
  refine ⟨?_, ?_⟩
  ·intro y0 y1 y2
   unfold aY.j0
   exact zM
  ·intro y0 y1 y2 y3
   unfold aY.l0
   exact zM
theorem aY.mono : ∀ a0 a1 k, LeO (aY.f k a0 a1) (aY.f (k + 1) a0 a1) := by
 intro a0 a1 k
 obtain ⟨ih0, ih1⟩ := aY.mono_l k
 unfold aY.f
 exact zM
instance aY.mi  {a0 a1 k} : LeI (aY.f k a0 a1) (aY.f (k + 1) a0 a1) := ⟨⟨aY.mono a0 a1 k⟩⟩
theorem aY.calls (k : Nat) (a0 : au) (a1 : Int) (r1 : Int) (r2 : Bool) (w : World) (h : aY.f k a0 a1 = some (r1, r2)) :
 Calls Tryz.prog 21 #[.string a0, .int .i64 a1] w fun e w' => e = .returned (.tuple #[.int .i64 r1, .bool r2]) ∧ Drawn0 w w' := by
 unfold aY.f at h
 have H := h
 clear h
 have jD := aa H
 clear H
 go_enter Tryz.func21, Tryz.ntmps21
 go_upto_region 1 with (fail)
 go_cut [27] (fun v27 wc => ∃ (kq : Nat) (oK : Bool), v27 = .bool oK ∧ Aside0 (aY.j0 kq a0 a1 oK = some (r1, r2)) ∧ Aside0 (kq ≤ k) ∧ Drawn0 w wc)
 case first =>
  have H := jD.out
  clear jD
  revert H; refine sId1_d0 (fun fG H => ?_) fun fG H => ?_
  ·(first | rw [fG] | (simp only [i64_w, i32_w]; rw [fG]) | skip)
   as_aux_lemma =>
    have H' := aa H
    clear H
    go_wp2
    go_meet
    case rel => exact ⟨_, (true), Z8, H', ⟨Z23⟩, Z10⟩
  (first | rw [fG] | (simp only [i64_w, i32_w]; rw [fG]) | skip)
  revert H; refine sNd1 fun gI H => ?_
  revert H; refine sNd1 fun eU H => ?_
  revert H; refine sIe1n0_e0n1 (fun iK lE H => ?_) fun iK lE H => ?_
  ·obtain ⟨tU, qD⟩ : ∃ j_ : Int, (wrap64 (a1 + 1)) = j_ := ⟨_, rfl⟩
   replace H : (if 0 ≤ (tU) then (if (tU) < (a0.size : Int) then (aY.j0 k a0 a1 ((bt a0 (tU)) != 117)) else (none)) else (none)) = some (r1, r2) := by first | (rw [qD] at H; exact H) | (simp only [qD] at H ⊢; exact H)
   have hji9w : (IntKind.i64.wrap (a1 + 1)) = tU := (i64_w _).trans qD
   revert H; refine sNd1 fun mA H => ?_
   revert H; refine sNd1 fun tV H => ?_
   as_aux_lemma =>
    have H' := aa H
    clear H
    have p7 := af (ab Z9 : 0 ≤ (a1 : Int))
    have q7 := af (ab Z9 : a1 < (a0.size : Int))
    have hx7 := bt_at a0 a1
    have p12 := af (ab Z9 : 0 ≤ ((tU) : Int))
    have q12 := af (ab Z9 : (tU) < (a0.size : Int))
    have hx12 := bt_at a0 (tU)
    go_wp2
    go_meet
    case rel => exact ⟨_, (((bt a0 (tU)) != 117)), (by first | rfl | (simp; done) | (simp only [← qD] <;> (first | rfl | simp)) | (simp [*]; done)), H', ⟨Z23⟩, Z10⟩
  as_aux_lemma =>
   have H' := aa H
   clear H
   have p7 := af (ab Z9 : 0 ≤ (a1 : Int))
   have q7 := af (ab Z9 : a1 < (a0.size : Int))
   have hx7 := bt_at a0 a1
   go_wp2
   go_meet
   case rel => exact ⟨_, (true), Z8, H', ⟨Z23⟩, Z10⟩
 case rest =>
  clear jD
  obtain ⟨kq, oK, rfl, HA, HJ2, ⟨mc2, rfl⟩⟩ := hcut
  cases kq with
  | zero => exact absurd HA.out (by simp [aY.j0])
  | succ kj2 =>
   have H := HA.out
   clear HA
   simp only [aY.j0] at H
   replace H := sB H
   obtain ⟨rfl, H⟩ | ⟨rfl, H⟩ := H
   ·as_aux_lemma =>
     simp only [al, am] at H
     obtain ⟨rfl, rfl⟩ := H
     go_wp2
     go_ret2
     exact ⟨Z8, Z10⟩
   have H' := aa H
   clear H
   go_wp2
   (try simp only [Act.put, ao, ap, aq])
   go_loopg [6, 7] kj2 (fun kq v6 v7 w' => ∃ (dL : Int) (dR : Int), v6 = .int .i64 dL ∧ v7 = .int .i64 dR ∧ Aside0 (aY.l0 kq a0 a1 dL dR = some (r1, r2)) ∧ Aside0 (kq ≤ kj2) ∧ Drawn0 w w')
   case atStart => exact ⟨(0), (wrap64 (a1 + 2)), Z8, Z8, H', ⟨Nat.le_refl _⟩, Z10⟩
   case round =>
    clear H'
    obtain ⟨dL, dR, rfl, rfl, HA, HK2, ⟨m2, rfl⟩⟩ := hrel
    cases gk with
    | zero => exact absurd HA.out (by simp [aY.l0])
    | succ k2 =>
     have H := HA.out
     clear HA
     simp only [aY.l0] at H
     revert H; refine sId1_d0 (fun eV H => ?_) fun eV H => ?_
     ·revert H; refine sNd1 fun oH H => ?_
      revert H; refine sNd1 fun jF H => ?_
      revert H; refine bnd ?_; rintro ⟨uS, Wd⟩ xN H; try dsimp only at H
      replace H := sB H
      obtain ⟨rfl, H⟩ | ⟨rfl, H⟩ := H
      ·as_aux_lemma =>
        have H' := aa H
        clear H
        have p17 := af (ab Z9 : 0 ≤ (dR : Int))
        have q17 := af (ab Z9 : dR < (a0.size : Int))
        have hx17 := bt_at a0 dR
        go_wp2_with (first | (refine gl 34 (some 40) Tryz.func34 #[.int .u8 (bt a0 dR)] ?_; (with_reducible refine (aQ.calls k2 (bt a0 dR) uS true _ xN.out).mono ?_); rintro e w' ⟨rfl, ⟨nd, rfl⟩⟩; refine ⟨_, rfl, ?_⟩))
        go_roundg k2
        case measure => have := HJ2.out; have := HK2.out; omega
        case rel => exact ⟨(wrap64 ((wrap64 (dL * 16)) + uS)), (wrap64 (dR + 1)), Z8, Z8, H', ⟨by have := HJ2.out; have := HK2.out; omega⟩, Z10⟩
      as_aux_lemma =>
       simp only [al, am] at H
       obtain ⟨rfl, rfl⟩ := H
       have p17 := af (ab Z9 : 0 ≤ (dR : Int))
       have q17 := af (ab Z9 : dR < (a0.size : Int))
       have hx17 := bt_at a0 dR
       go_wp2_with (first | (refine gl 34 (some 40) Tryz.func34 #[.int .u8 (bt a0 dR)] ?_; (with_reducible refine (aQ.calls k2 (bt a0 dR) uS false _ xN.out).mono ?_); rintro e w' ⟨rfl, ⟨nd, rfl⟩⟩; refine ⟨_, rfl, ?_⟩))
       go_ret2
       exact ⟨Z8, Z10⟩
     as_aux_lemma =>
      simp only [al, am] at H
      obtain ⟨rfl, rfl⟩ := H
      go_wp2
      go_ret2
      exact ⟨Z8, Z10⟩
def bB.l0 : Nat → au → Int → Option (Bool)
 | 0, _, _ => none
 | k + 1, x0, x3 => if x3 < (x0.size : Int) then (if 0 ≤ x3 then (if (bt x0 x3) = 92 then ((aY.f k x0 x3).bind fun bt108 => (if bt108.2 = true then ((bW.f bt108.1).bind fun xO => (if xO = true then ((aY.f k x0 (wrap64 (x3 + 6))).bind fun bt111 => (if bt111.2 = true then ((cB.f bt111.1).bind fun xP => (if xP = true then (bB.l0 k x0 (wrap64 (x3 + 12))) else (some false))) else (some false))) else ((cB.f bt108.1).bind fun xQ => (if xQ = true then (some false) else (bB.l0 k x0 (wrap64 (x3 + 6))))))) else (bB.l0 k x0 (wrap64 (x3 + 2))))) else (bB.l0 k x0 (wrap64 (x3 + 1)))) else (none)) else (some true)
def bB.f (k : Nat) (a0 : au) : Option (Bool) := bB.l0 k a0 0
theorem bB.mono_l : ∀ k, (∀ y0 y1, LeO (bB.l0 k y0 y1) (bB.l0 (k + 1) y0 y1))
 | 0 => fun _ _ r h => by simp [bB.l0] at h
 | k + 1 => by
  have ih0 := bB.mono_l k
  ·intro y0 y1
   unfold bB.l0
   exact zM
theorem bB.mono : ∀ a0 k, LeO (bB.f k a0) (bB.f (k + 1) a0) := by
 intro a0 k
 have ih0 := bB.mono_l k
 unfold bB.f
 exact zM
theorem bB.calls (k : Nat) (a0 : au) (r : Bool) (w : World) (h : bB.f k a0 = some r) :
 Calls Tryz.prog 12 #[.string a0] w fun e w' => e = .returned (.bool r) ∧ Drawn0 w w' := by
 have H : (bB.l0 k a0 0) = some r := h
 clear h
 have H' := aa H
 clear H
 go_enter Tryz.func12, Tryz.ntmps12
 go_wp2
 (try simp only [Act.put, ao, ap, aq])
 go_loopg [3] k (fun kq v3 w' => ∃ (bS : Int), v3 = .int .i64 bS ∧ Aside0 (bB.l0 kq a0 bS = some r) ∧ Aside0 (kq ≤ k) ∧ Drawn0 w w')
 case atStart => exact ⟨(0), Z8, H', ⟨Nat.le_refl _⟩, Z10⟩
 case round =>
  clear H'
  obtain ⟨bS, rfl, HA, HK1, ⟨m1, rfl⟩⟩ := hrel
  cases gk with
  | zero => exact absurd HA.out (by simp [bB.l0])
  | succ k1 =>
   have H := HA.out
   clear HA
   simp only [bB.l0] at H
   revert H; refine sId1_d0 (fun eY H => ?_) fun eY H => ?_
   ·revert H; refine sNd1 fun dE H => ?_
    revert H; refine sIe1n0_e0n1 (fun gI nQ H => ?_) fun gI nQ H => ?_
    ·revert H; refine bnd ?_; rintro ⟨iW, We⟩ A6 H; try dsimp only at H
     replace H := sB H
     obtain ⟨rfl, H⟩ | ⟨rfl, H⟩ := H
     ·revert H; refine bnd ?_; rintro xO A8 H
      replace H := sB H
      obtain ⟨rfl, H⟩ | ⟨rfl, H⟩ := H
      ·revert H; refine bnd ?_; rintro ⟨qE, Wf⟩ xA H; try dsimp only at H
       replace H := sB H
       obtain ⟨rfl, H⟩ | ⟨rfl, H⟩ := H
       ·revert H; refine bnd ?_; rintro xP xB H
        replace H := sB H
        obtain ⟨rfl, H⟩ | ⟨rfl, H⟩ := H
        ·as_aux_lemma =>
          have H' := aa H
          clear H
          have p4 := af (ab Z9 : 0 ≤ (bS : Int))
          have q4 := af (ab Z9 : bS < (a0.size : Int))
          have hx4 := bt_at a0 bS
          exact Z5
        as_aux_lemma =>
         obtain rfl := ar H
         have p4 := af (ab Z9 : 0 ≤ (bS : Int))
         have q4 := af (ab Z9 : bS < (a0.size : Int))
         have hx4 := bt_at a0 bS
         exact Z5
       as_aux_lemma =>
        obtain rfl := ar H
        have p4 := af (ab Z9 : 0 ≤ (bS : Int))
        have q4 := af (ab Z9 : bS < (a0.size : Int))
        have hx4 := bt_at a0 bS
        exact Z5
      revert H; refine bnd ?_; rintro xQ uQ H
      replace H := sB H
      obtain ⟨rfl, H⟩ | ⟨rfl, H⟩ := H
      ·as_aux_lemma =>
        obtain rfl := ar H
        have p4 := af (ab Z9 : 0 ≤ (bS : Int))
        have q4 := af (ab Z9 : bS < (a0.size : Int))
        have hx4 := bt_at a0 bS
        exact Z5
      as_aux_lemma =>
       have H' := aa H
       clear H
       have p4 := af (ab Z9 : 0 ≤ (bS : Int))
       have q4 := af (ab Z9 : bS < (a0.size : Int))
       have hx4 := bt_at a0 bS
       exact Z5
     as_aux_lemma =>
      have H' := aa H
      clear H
      have p4 := af (ab Z9 : 0 ≤ (bS : Int))
      have q4 := af (ab Z9 : bS < (a0.size : Int))
      have hx4 := bt_at a0 bS
      exact Z5
    as_aux_lemma =>
     have H' := aa H
     clear H
     have p4 := af (ab Z9 : 0 ≤ (bS : Int))
     have q4 := af (ab Z9 : bS < (a0.size : Int))
     have hx4 := bt_at a0 bS
     go_wp2
     go_roundg k1
     case measure => have := HK1.out; omega
     case rel => exact ⟨(wrap64 (bS + 1)), Z8, H', ⟨by have := HK1.out; omega⟩, Z10⟩
   as_aux_lemma =>
    obtain rfl := ar H
    go_wp2
    go_ret
    exact ⟨Z8, Z10⟩
def bV.f (a0 : Int) : Option (Bool) := if a0 = 32 then (some true) else (if a0 = 9 then (some true) else (if a0 = 10 then (some true) else (some (a0 == 13))))
theorem bV.calls (a0 : Int) (r : Bool) (w : World) (h : bV.f a0 = some r) :
 Calls Tryz.prog 50 #[.int .u8 a0] w fun e w' => e = .returned (.bool r) ∧ Drawn0 w w' := by
 unfold bV.f at h
 have H := h
 clear h
 revert H; refine sIe1n0_e0n1 (fun eY lF H => ?_) fun eY lF H => ?_
 ·as_aux_lemma =>
   obtain rfl := ar H
   go_enter Tryz.func50, Tryz.ntmps50
   go_wp2
   go_ret
   exact ⟨Z8, Z10⟩
 revert H; refine sIe1n0_e0n1 (fun dE kM H => ?_) fun dE kM H => ?_
 ·as_aux_lemma =>
   obtain rfl := ar H
   go_enter Tryz.func50, Tryz.ntmps50
   go_wp2
   go_ret
   exact ⟨Z8, Z10⟩
 revert H; refine sIe1n0_e0n1 (fun fG uT H => ?_) fun fG uT H => ?_
 ·as_aux_lemma =>
   obtain rfl := ar H
   go_enter Tryz.func50, Tryz.ntmps50
   go_wp2
   go_ret
   exact ⟨Z8, Z10⟩
 as_aux_lemma =>
  obtain rfl := ar H
  go_enter Tryz.func50, Tryz.ntmps50
  go_wp2
  go_ret
  exact ⟨Z8, Z10⟩
end Go.Proofs.YtmpdhdnoohmndaaGreatDoor.Sp

import Derived.Test.YtmpdhdnoohmndaaGreatDoorZip
import Derived.Test.YtmpdhdnoohmndaaGreatDoorQa
import Derived.Test.YtmpdhdnoohmndaaGreatDoorSpx1
import Derived.Test.YtmpdhdnoohmndaaGreatDoorSpx2
import Derived.Test.YtmpdhdnoohmndaaGreatDoorSpx6
namespace Go.Proofs.YtmpdhdnoohmndaaGreatDoor.Sp
open Go.RowKit Go.Proofs.YtmpdhdnoohmndaaGreatDoorW.PrintWords Go.Proofs.YtmpdhdnoohmndaaGreatDoorW.PrintLast Go.Proofs.YtmpdhdnoohmndaaGreatDoorW.PrintMore
attribute [local go_sem] max2_int min2_int max_two min_two max_three min_three max_four min_four
set_option linter.unusedVariables false
set_option linter.unusedSimpArgs false
def aW.l0 : Nat → List Int → au → Int → Option (au)
 | 0, _, _, _ => none
 | k + 1, x3, x4, x5 => if x5 < (x4.size : Int) then (if 0 ≤ x5 then (if (bt x4 x5) = 92 then ((aY.f k x4 x5).bind fun bt311 => (if bt311.2 = true then ((aY.f k x4 (wrap64 (x5 + 6))).bind fun bt317 => (if bt317.2 = true then ((bW.f bt311.1).bind fun wY => (if wY = true then ((cB.f bt317.1).bind fun wZ => (if wZ = true then ((aX.f k x3 (wrap64 ((wrap64 (65536 + (wrap64 ((wrap64 (bt311.1 - 55296)) * 1024)))) + (wrap64 (bt317.1 - 56320))))).bind fun pX => (aW.l0 k pX x4 (wrap64 ((wrap64 (x5 + 6)) + 6)))) else ((aX.f k x3 bt311.1).bind fun pY => (aW.l0 k pY x4 (wrap64 (x5 + 6)))))) else ((aX.f k x3 bt311.1).bind fun pZ => (aW.l0 k pZ x4 (wrap64 (x5 + 6)))))) else ((aX.f k x3 bt311.1).bind fun qA => (aW.l0 k qA x4 (wrap64 (x5 + 6)))))) else (if 0 ≤ (wrap64 (x5 + 1)) then (if (wrap64 (x5 + 1)) < (x4.size : Int) then ((cV.f (bt x4 (wrap64 (x5 + 1)))).bind fun kL => (if x3.length < 140737488355328 then (aW.l0 k (x3 ++ [kL]) x4 (wrap64 (x5 + 2))) else (none))) else (none)) else (none)))) else (if x3.length < 140737488355328 then (aW.l0 k (x3 ++ [bt x4 x5]) x4 (wrap64 (x5 + 1))) else (none))) else (none)) else (some (strOfNums x3))
def aW.f (k : Nat) (a0 : au) : Option (au) := if 1 ≤ (wrap64 ((a0.size : Int) - 1)) then (if (wrap64 ((a0.size : Int) - 1)) ≤ (a0.size : Int) then (aW.l0 k ([] : List Int) (a0.extract 1 ((wrap64 ((a0.size : Int) - 1)) : Int).toNat) 0) else (none)) else (none)
theorem aW.mono_l : ∀ k, (∀ y0 y1 y2, LeO (aW.l0 k y0 y1 y2) (aW.l0 (k + 1) y0 y1 y2))
 | 0 => fun _ _ _ r h => by simp [aW.l0] at h
 | k + 1 => by
  have ih0 := aW.mono_l k
  ·intro y0 y1 y2
   unfold aW.l0
   exact zM
theorem aW.mono : ∀ a0 k, LeO (aW.f k a0) (aW.f (k + 1) a0) := by
 intro a0 k
 have ih0 := aW.mono_l k
 unfold aW.f
 exact zM
instance aW.mi  {a0 k} : LeI (aW.f k a0) (aW.f (k + 1) a0) := ⟨⟨aW.mono a0 k⟩⟩
set_option maxHeartbeats 8000000 in
set_option maxRecDepth 100000 in
theorem aW.calls (k : Nat) (a0 : au) (r : au) (w : World) (h : aW.f k a0 = some r) :
 Calls Tryz.prog 37 #[.string a0] w fun e w' => e = .returned (.string r) ∧ Below w.heap.size w w' := by
 have HB := aa (Below.refl w.heap.size w)
 unfold aW.f at h
 have H := h
 clear h
 revert H; refine sNt1d1 fun eY lF H => ?_
 revert H; refine sNt1d1 fun dE kM H => ?_
 obtain ⟨S4, hS4⟩ : ∃ S4, a0.extract 1 ((wrap64 ((a0.size : Int) - 1)) : Int).toNat = S4 := ⟨_, rfl⟩
 rw [hS4] at H
 have H' := aa H
 clear H
 go_enter Tryz.func37, Tryz.ntmps37
 go_wp2
 (try simp only [Act.put, ao, ap, aq])
 go_loopg [3, 5] k (fun kq v3 v5 w' => ∃ (bS : List Int) (bL : Int), v5 = .int .i64 bL ∧ Aside0 (aW.l0 kq bS S4 bL = some r) ∧ Aside0 (kq ≤ k) ∧ Aside0 (Kd.R (Kd.int .u8) 5 w' w.heap.size (fun _ => True) v3 bS) ∧ Aside0 (Below w.heap.size w w'))
 case atStart => exact ⟨(([] : List Int)), (0), Z8, H', ⟨Nat.le_refl _⟩, ⟨Z7⟩, ⟨zB⟩⟩
 case round =>
  clear H'
  try clear eY lF dE kM
  obtain ⟨bS, bL, rfl, HA, HK1, fJ, HB⟩ := hrel
  cases gk with
  | zero => exact absurd HA.out (by simp [aW.l0])
  | succ k1 =>
   have H := HA.out
   clear HA
   simp only [aW.l0] at H
   revert H; refine sId1_d0 (fun fG H => ?_) fun fG H => ?_
   ·revert H; refine sNd1 fun gI H => ?_
    revert H; refine sIe1n0_e0n1 (fun iM qB H => ?_) fun iM qB H => ?_
    ·revert H; refine bnd ?_; rintro ⟨iI, Vx⟩ A8 H; try dsimp only at H
     replace H := sB H
     obtain ⟨rfl, H⟩ | ⟨rfl, H⟩ := H
     ·revert H; refine bnd ?_; rintro ⟨nP, Vy⟩ xA H; try dsimp only at H
      replace H := sB H
      obtain ⟨rfl, H⟩ | ⟨rfl, H⟩ := H
      ·revert H; refine bnd ?_; rintro wY xB H
       replace H := sB H
       obtain ⟨rfl, H⟩ | ⟨rfl, H⟩ := H
       ·revert H; refine bnd ?_; rintro wZ uQ H
        replace H := sB H
        obtain ⟨rfl, H⟩ | ⟨rfl, H⟩ := H
        ·revert H; refine bnd ?_; rintro pX Vz H
         focus
          have H' := aa H
          clear H
          have p6 := af (ab Z9 : 0 ≤ (bL : Int))
          have q6 := af (ab Z9 : bL < (S4.size : Int))
          have hx6 := bt_at S4 bL
          exact Z2
        revert H; refine bnd ?_; rintro pY Wa H
        focus
         have H' := aa H
         clear H
         have p6 := af (ab Z9 : 0 ≤ (bL : Int))
         have q6 := af (ab Z9 : bL < (S4.size : Int))
         have hx6 := bt_at S4 bL
         exact Z2
       revert H; refine bnd ?_; rintro pZ Da H
       focus
        have H' := aa H
        clear H
        have p6 := af (ab Z9 : 0 ≤ (bL : Int))
        have q6 := af (ab Z9 : bL < (S4.size : Int))
        have hx6 := bt_at S4 bL
        exact Z2
      revert H; refine bnd ?_; rintro qA Db H
      focus
       have H' := aa H
       clear H
       have p6 := af (ab Z9 : 0 ≤ (bL : Int))
       have q6 := af (ab Z9 : bL < (S4.size : Int))
       have hx6 := bt_at S4 bL
       exact Z2
     obtain ⟨jI, kN⟩ : ∃ j_ : Int, (wrap64 (bL + 1)) = j_ := ⟨_, rfl⟩
     replace H : (if 0 ≤ (jI) then (if (jI) < (S4.size : Int) then ((cV.f (bt S4 (jI))).bind fun kL => (if bS.length < 140737488355328 then (aW.l0 k1 (bS ++ [kL]) S4 (wrap64 (bL + 2))) else (none))) else (none)) else (none)) = some r := by first | (rw [kN] at H; exact H) | (simp only [kN] at H ⊢; exact H)
     (try rw [kN] at A8)
     have hji28w : (IntKind.i64.wrap (bL + 1)) = jI := (i64_w _).trans kN
     revert H; refine sNd1 fun Rz H => ?_
     revert H; refine sNd1 fun Sa H => ?_
     revert H; refine bnd ?_; rintro kL Wb H
     revert H; refine sNk fun c33 H => ?_
     have xC := aa c33
     clear c33
     obtain ⟨xD, hy314⟩ : ∃ y_ : List Int, y_ = (bS ++ [kL]) := ⟨_, rfl⟩
     replace H : (aW.l0 k1 xD S4 (wrap64 (bL + 2))) = some r := by first | (rw [hy314]; with_reducible exact H) | (have H2_ := (ak _ _).symm.trans H; rw [hy314]; with_reducible exact H2_) | (have H2_ := (ak _ _).symm.trans H; with_reducible exact H2_) | with_reducible exact H | (rw [hy314]; exact H) | exact H
     have xE := aa hy314
     clear hy314
     focus
      have H' := aa H
      clear H
      have p6 := af (ab Z9 : 0 ≤ (bL : Int))
      have q6 := af (ab Z9 : bL < (S4.size : Int))
      have hx6 := bt_at S4 bL
      exact Z2
    revert H; refine sNk fun c36 H => ?_
    have xF := aa c36
    clear c36
    obtain ⟨xG, hy308⟩ : ∃ y_ : List Int, y_ = (bS ++ [bt S4 bL]) := ⟨_, rfl⟩
    replace H : (aW.l0 k1 xG S4 (wrap64 (bL + 1))) = some r := by first | (rw [hy308]; with_reducible exact H) | (have H2_ := (ak _ _).symm.trans H; rw [hy308]; with_reducible exact H2_) | (have H2_ := (ak _ _).symm.trans H; with_reducible exact H2_) | with_reducible exact H | (rw [hy308]; exact H) | exact H
    have xH := aa hy308
    clear hy308
    focus
     have H' := aa H
     clear H
     have p6 := af (ab Z9 : 0 ≤ (bL : Int))
     have q6 := af (ab Z9 : bL < (S4.size : Int))
     have hx6 := bt_at S4 bL
     have p35 := af (ab Z9 : 0 ≤ (bL : Int))
     have q35 := af (ab Z9 : bL < (S4.size : Int))
     have hx35 := bt_at S4 bL
     exact Z2
   focus
    obtain rfl := ar H
    have hcv38 := own_string (P := Tryz.prog) Tryz.underlying51 Tryz.underlying5 Tryz.underlying9 (Kd.own_of_R fJ.out)
    go_wp2
    go_ret
    exact ⟨Z6, zB⟩
end Go.Proofs.YtmpdhdnoohmndaaGreatDoor.Sp

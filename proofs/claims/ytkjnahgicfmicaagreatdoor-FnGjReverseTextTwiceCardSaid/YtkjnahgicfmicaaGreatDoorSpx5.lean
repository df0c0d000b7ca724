import Derived.Test.YtkjnahgicfmicaaGreatDoorZip
import Derived.Test.YtkjnahgicfmicaaGreatDoorQa
import Derived.Test.YtkjnahgicfmicaaGreatDoorQk
namespace Go.Proofs.YtkjnahgicfmicaaGreatDoor.Sp
set_option maxHeartbeats 8000000
set_option maxRecDepth 100000
open Go.RowKit Go.PW Go.PL Go.PM
attribute [local go_sem] max2_int min2_int max_two min_two max_three min_three max_four min_four
set_option linter.unusedVariables false
set_option linter.unusedSimpArgs false
structure bI where
 f : Nat → av → Int → Option ((List (S93)) × (List (S31)) × Bool × av × Int)
 mono : ∀ a0 a1 k, LeO (f k a0 a1) (f (k + 1) a0 a1)
 calls : ∀ (k : Nat) (g : Nat) (s0_0 : av) (s0_1 : Int) (r1 : List (S93)) (r2 : List (S31)) (r3 : Bool) (r4 : av) (r5 : Int) (w0 w : World) (hI : IsS50 w0 w g s0_0 s0_1) (hB : Below w0.heap.size w0 w) (h : f k s0_0 s0_1 = some (r1, r2, r3, r4, r5)),
  Calls Tryz.prog 39 #[.pointer (some ⟨g, 0, none⟩)] w fun e w' => ∃ v0_ v1_ : Value, e = .returned (.tuple #[v0_, v1_, .bool r3]) ∧ Kd.R k93 93 w' w.heap.size (fun _ => True) v0_ r1 ∧ Kd.R k31 31 w' w.heap.size (fun k_ => some k_ ≠ (v0_ : Value).ownBlock) v1_ r2 ∧ IsS50 w0 w' g r4 r5 ∧ Below w0.heap.size w0 w' ∧ KeepBut w w' g none
instance bI.mi (V : bI) {a0 a1 k} : LeI (V.f k a0 a1) (V.f (k + 1) a0 a1) := ⟨⟨V.mono a0 a1 k⟩⟩
structure bH where
 f : Nat → av → Int → Option ((List (S31)) × Bool × av × Int)
 mono : ∀ a0 a1 k, LeO (f k a0 a1) (f (k + 1) a0 a1)
 calls : ∀ (k : Nat) (g : Nat) (s0_0 : av) (s0_1 : Int) (r1 : List (S31)) (r2 : Bool) (r3 : av) (r4 : Int) (w0 w : World) (hI : IsS50 w0 w g s0_0 s0_1) (hB : Below w0.heap.size w0 w) (h : f k s0_0 s0_1 = some (r1, r2, r3, r4)),
  Calls Tryz.prog 40 #[.pointer (some ⟨g, 0, none⟩)] w fun e w' => ∃ v0_ : Value, e = .returned (.tuple #[v0_, .bool r2]) ∧ Kd.R k31 31 w' w.heap.size (fun _ => True) v0_ r1 ∧ IsS50 w0 w' g r3 r4 ∧ Below w0.heap.size w0 w' ∧ KeepBut w w' g none
instance bH.mi (V : bH) {a0 a1 k} : LeI (V.f k a0 a1) (V.f (k + 1) a0 a1) := ⟨⟨V.mono a0 a1 k⟩⟩
structure aE where
 f : Nat → av → Int → Option (Int × Int × Int × (List (S93)) × (List (S31)) × Bool × av × Int)
 mono : ∀ a0 a1 k, LeO (f k a0 a1) (f (k + 1) a0 a1)
 calls : ∀ (k : Nat) (g : Nat) (s0_0 : av) (s0_1 : Int) (r1 : Int) (r2 : Int) (r3 : Int) (r4 : List (S93)) (r5 : List (S31)) (r6 : Bool) (r7 : av) (r8 : Int) (w0 w : World) (hI : IsS50 w0 w g s0_0 s0_1) (hB : Below w0.heap.size w0 w) (h : f k s0_0 s0_1 = some (r1, r2, r3, r4, r5, r6, r7, r8)),
  Calls Tryz.prog 20 #[.pointer (some ⟨g, 0, none⟩)] w fun e w' => ∃ v3_ v4_ : Value, e = .returned (.tuple #[.agg #[.int .i64 r1, .int .i64 r2, .int .i64 r3, v3_, v4_], .bool r6]) ∧ Kd.R k93 93 w' w.heap.size (fun _ => True) v3_ r4 ∧ Kd.R k31 31 w' w.heap.size (fun k_ => some k_ ≠ (v3_ : Value).ownBlock) v4_ r5 ∧ IsS50 w0 w' g r7 r8 ∧ Below w0.heap.size w0 w' ∧ KeepBut w w' g none
instance aE.mi (V : aE) {a0 a1 k} : LeI (V.f k a0 a1) (V.f (k + 1) a0 a1) := ⟨⟨V.mono a0 a1 k⟩⟩
mutual
def aD.l0 (aQ : aE) : Nat → List (S93) → List (S31) → av → Int → Option ((List (S93)) × (List (S31)) × Bool × av × Int)
 | 0, _, _, _, _ => none
 | k + 1, x5, x6, cO, cI => (bN.f cO cI).bind fun bt132 => (if bt132.1 = 34 then ((aX.f k bt132.2.1 bt132.2.2).bind fun bt135 => (aD.j1 aQ k x5 x6 cI (!bt135.1) bt135.2.1 bt135.2.2)) else (aD.j1 aQ k x5 x6 cI true bt132.2.1 bt132.2.2))
def aD.j1 (aQ : aE) : Nat → List (S93) → List (S31) → Int → Bool → av → Int → Option ((List (S93)) × (List (S31)) × Bool × av × Int)
 | 0, _, _, _, _, _, _ => none
 | k + 1, x5, x6, x7, x32, cO, cI => if x32 = true then (some (([] : List (S93)), ([] : List (S31)), false, cO, cI)) else (if x5.length < 8796093022208 then ((some (x5 ++ [(⟨x7, cI⟩ : S93)] : List (S93))).bind fun mA => ((aI.f k cO cI).bind fun bt141 => ((aW.f bt141.1 bt141.2 58).bind fun bt143 => (if bt143.1 = true then ((aI.f k bt143.2.1 bt143.2.2).bind fun bt146 => ((aQ.f k bt146.1 bt146.2).bind fun bt148 => (if bt148.2.2.2.2.2.1 = true then (if x6.length < 1954687338268 then ((some (x6 ++ [(⟨bt148.1, bt148.2.1, bt148.2.2.1, bt148.2.2.2.1, bt148.2.2.2.2.1⟩ : S31)] : List (S31))).bind fun nX => ((aI.f k bt148.2.2.2.2.2.2.1 bt148.2.2.2.2.2.2.2).bind fun bt164 => ((aW.f bt164.1 bt164.2 125).bind fun bt166 => (if bt166.1 = true then (some (mA, nX, true, bt166.2.1, bt166.2.2)) else ((aW.f bt166.2.1 bt166.2.2 44).bind fun bt169 => (if bt169.1 = true then ((aI.f k bt169.2.1 bt169.2.2).bind fun bt172 => (aD.l0 aQ k mA nX bt172.1 bt172.2)) else (some (([] : List (S93)), ([] : List (S31)), false, bt169.2.1, bt169.2.2)))))))) else (none)) else (some (([] : List (S93)), ([] : List (S31)), false, bt148.2.2.2.2.2.2.1, bt148.2.2.2.2.2.2.2))))) else (some (([] : List (S93)), ([] : List (S31)), false, bt143.2.1, bt143.2.2)))))) else (none))
end
def aD.f (aQ : aE) (k : Nat) (s0_0 : av) (s0_1 : Int) : Option ((List (S93)) × (List (S31)) × Bool × av × Int) := (aI.f k s0_0 (wrap64 (s0_1 + 1))).bind fun bt127 => ((aW.f bt127.1 bt127.2 125).bind fun bt129 => (if bt129.1 = true then (some (([] : List (S93)), ([] : List (S31)), true, bt129.2.1, bt129.2.2)) else (aD.l0 aQ k ([] : List (S93)) ([] : List (S31)) bt129.2.1 bt129.2.2)))
theorem aD.mono_l (aQ : aE) : ∀ k, (∀ y0 y1 y2 y3, LeO (aD.l0 aQ k y0 y1 y2 y3) (aD.l0 aQ (k + 1) y0 y1 y2 y3)) ∧ (∀ y0 y1 y2 y3 y4 y5, LeO (aD.j1 aQ k y0 y1 y2 y3 y4 y5) (aD.j1 aQ (k + 1) y0 y1 y2 y3 y4 y5))
 | 0 => ⟨fun _ _ _ _ r h => by simp [aD.l0] at h, fun _ _ _ _ _ _ r h => by simp [aD.j1] at h⟩
 | k + 1 => by
  obtain ⟨ih0, ih1⟩ := aD.mono_l aQ k
  refine ⟨?_, ?_⟩
  ·intro y0 y1 y2 y3
   unfold aD.l0
   exact zM
  ·intro y0 y1 y2 y3 y4 y5
   unfold aD.j1
   exact zM
theorem aD.mono (aQ : aE) : ∀ a0 a1 k, LeO (aD.f aQ k a0 a1) (aD.f aQ (k + 1) a0 a1) := by
 intro a0 a1 k
 obtain ⟨ih0, ih1⟩ := aD.mono_l aQ k
 unfold aD.f
 exact zM
instance aD.mi (aQ : aE) {a0 a1 k} : LeI (aD.f aQ k a0 a1) (aD.f aQ (k + 1) a0 a1) := ⟨⟨aD.mono aQ a0 a1 k⟩⟩
theorem aD.calls (aQ : aE) (k : Nat) (g : Nat) (s0_0 : av) (s0_1 : Int) (r1 : List (S93)) (r2 : List (S31)) (r3 : Bool) (r4 : av) (r5 : Int) (w0 w : World) (hI : IsS50 w0 w g s0_0 s0_1) (hB : Below w0.heap.size w0 w) (h : aD.f aQ k s0_0 s0_1 = some (r1, r2, r3, r4, r5)) :
 Calls Tryz.prog 39 #[.pointer (some ⟨g, 0, none⟩)] w fun e w' => ∃ v0_ v1_ : Value, e = .returned (.tuple #[v0_, v1_, .bool r3]) ∧ Kd.R k93 93 w' w.heap.size (fun _ => True) v0_ r1 ∧ Kd.R k31 31 w' w.heap.size (fun k_ => some k_ ≠ (v0_ : Value).ownBlock) v1_ r2 ∧ IsS50 w0 w' g r4 r5 ∧ Below w0.heap.size w0 w' ∧ KeepBut w w' g none := by
 have hu93 := Tryz.underlying93
 have hu31 := Tryz.underlying31
 have HI0 := ab hI
 have HK := ab (KeepBut.refl w g none)
 have HL := ab hB.size
 clear hI
 have HW0 := ab hB.size
 have HB := ab hB
 clear hB
 unfold aD.f at h
 have H := h
 clear h
 revert H; refine bnd ?_; rintro ⟨oK, xS⟩ A2 H; try dsimp only at H
 revert H; refine bnd ?_; rintro ⟨alN, Cw, Cx⟩ A3 H; try dsimp only at H
 replace H := sB H
 obtain ⟨rfl, H⟩ | ⟨rfl, H⟩ := H
 ·focus
   simp only [am, an] at H
   obtain ⟨rfl, rfl, rfl, rfl, rfl⟩ := H
   obtain ⟨uG, uH, uI, uJ⟩ := cx_cellS50 HI0.out
   go_enter Tryz.func39, Tryz.ntmps39
   go_wp2_with (first | (refine gl 19 (some 18) Tryz.func19 #[.pointer (some ⟨g, 0, none⟩)] ?_; (with_reducible refine (aI.calls k g s0_0 (wrap64 (s0_1 + 1)) oK xS w0 _ zI zE A2.out).mono ?_); rintro e w6 ⟨rfl, hi, hb, hk⟩; refine ⟨_, rfl, ?_⟩; replace HK := ab (KeepBut.trans (w := w) zK hk (.inl rfl)); replace HB := ab (hb); replace HI0 := ab (hi); clear hb hk hi) | (refine gl 56 (some 20) Tryz.func56 #[.pointer (some ⟨g, 0, none⟩), .int .u8 125] ?_; (with_reducible refine (aW.calls g oK xS 125 true Cw Cx w0 _ zI zE A3.out).mono ?_); rintro e w7 ⟨rfl, hi, hb, hk⟩; refine ⟨_, rfl, ?_⟩; replace HK := ab (KeepBut.trans (w := w) zK hk (.inl rfl)); replace HB := ab (hb); replace HI0 := ab (hi); clear hb hk hi))
   go_ret3
   exact ⟨_, _, Z9, Z8, Z8, zI, zE, zK⟩
 have H' := ab H
 clear H
 obtain ⟨kK, kL, kM, kN⟩ := cx_cellS50 HI0.out
 go_enter Tryz.func39, Tryz.ntmps39
 go_wp2_with (first | (refine gl 19 (some 18) Tryz.func19 #[.pointer (some ⟨g, 0, none⟩)] ?_; (with_reducible refine (aI.calls k g s0_0 (wrap64 (s0_1 + 1)) oK xS w0 _ zI zE A2.out).mono ?_); rintro e w9 ⟨rfl, hi, hb, hk⟩; refine ⟨_, rfl, ?_⟩; replace HK := ab (KeepBut.trans (w := w) zK hk (.inl rfl)); replace HB := ab (hb); replace HI0 := ab (hi); clear hb hk hi) | (refine gl 56 (some 20) Tryz.func56 #[.pointer (some ⟨g, 0, none⟩), .int .u8 125] ?_; (with_reducible refine (aW.calls g oK xS 125 false Cw Cx w0 _ zI zE A3.out).mono ?_); rintro e w10 ⟨rfl, hi, hb, hk⟩; refine ⟨_, rfl, ?_⟩; replace HK := ab (KeepBut.trans (w := w) zK hk (.inl rfl)); replace HB := ab (hb); replace HI0 := ab (hi); clear hb hk hi))
 (try simp only [Act.put, ap, aq, ar])
 go_loopg [5, 6] k (fun kq v5 v6 w' => ∃ (bW : List (S93)) (lD : List (S31)) (bU : av) (bK : Int), Aside0 (aD.l0 aQ kq bW lD bU bK = some (r1, r2, r3, r4, r5)) ∧ Aside0 (kq ≤ k) ∧ Aside0 (Kd.R k93 93 w' w.heap.size (fun _ => True) v5 bW) ∧ Aside0 (Kd.R k31 31 w' w.heap.size (fun k_ => some k_ ≠ (v5 : Value).ownBlock) v6 lD) ∧ Aside0 (IsS50 w0 w' g bU bK) ∧ Aside0 (KeepBut w w' g none) ∧ Aside0 (Below w0.heap.size w0 w'))
 case atStart => exact ⟨(([] : List (S93))), (([] : List (S31))), (Cw), (Cx), H', ⟨Nat.le_refl _⟩, ⟨Z8⟩, ⟨Z8⟩, ⟨zI⟩, ⟨zK⟩, ⟨zE⟩⟩
 case round =>
  clear H'
  try clear kK kL kM kN
  obtain ⟨bW, lD, bU, bK, HA, HK1, nY, gG, HI0, HK, HB⟩ := hrel
  cases gk with
  | zero => exact absurd HA.out (by simp [aD.l0])
  | succ k1 =>
   have H := HA.out
   clear HA
   simp only [aD.l0] at H
   have pL := ab H
   clear H
   obtain ⟨kC, kD, kE, kF⟩ := cx_cellS50 HI0.out
   go_upto_region 8 with (fail)
   go_cut [32] (fun v32 wc => ∃ (kq : Nat) (pT : Bool) (gR : av) (eG : Int), v32 = .bool pT ∧ Aside0 (aD.j1 aQ kq bW lD bK pT gR eG = some (r1, r2, r3, r4, r5)) ∧ Aside0 (kq ≤ k1) ∧ Aside0 (Kd.R k93 93 wc w.heap.size (fun _ => True) u5 bW) ∧ Aside0 (Kd.R k31 31 wc w.heap.size (fun k_ => some k_ ≠ (u5 : Value).ownBlock) u6 lD) ∧ Aside0 (IsS50 w0 wc g gR eG) ∧ Aside0 (KeepBut w wc g none) ∧ Aside0 (Below w0.heap.size w0 wc))
   case first =>
    have H := pL.out
    clear pL
    revert H; refine bnd ?_; rintro ⟨aaN, lY, lZ⟩ vH H; try dsimp only at H
    revert H; refine sIe1n0_e0n1 (fun fK jH H => ?_) fun fK jH H => ?_
    ·(first | rw [fK] | (simp only [i64_w, i32_w]; rw [fK]) | skip)
     revert H; refine bnd ?_; rintro ⟨mH, Hn, Ho⟩ Ba H; try dsimp only at H
     focus
      have H' := ab H
      clear H
      exact Z12
    (first | rw [fK] | (simp only [i64_w, i32_w]; rw [fK]) | skip)
    focus
     have H' := ab H
     clear H
     exact Z12
   case rest =>
    clear pL
    try clear kC kD kE kF
    obtain ⟨kq, pT, gR, eG, rfl, HA, HJ10, nY, gG, HI0, HK, HB⟩ := hcut
    cases kq with
    | zero => exact absurd HA.out (by simp [aD.j1])
    | succ kj10 =>
     have H := HA.out
     clear HA
     simp only [aD.j1] at H
     replace H := sB H
     obtain ⟨rfl, H⟩ | ⟨rfl, H⟩ := H
     ·focus
       simp only [am, an] at H
       obtain ⟨rfl, rfl, rfl, rfl, rfl⟩ := H
       go_wp2
       go_ret3
       exact ⟨_, _, Z9, Z8, Z8, zI, zE, zK⟩
     revert H; refine sNk fun c20 H => ?_
     have Hp := ab c20
     clear c20
     obtain ⟨mA, hy138⟩ : ∃ y_ : List (S93), y_ = (bW ++ [(⟨bK, eG⟩ : S93)]) := ⟨_, rfl⟩
     replace H : ((aI.f kj10 gR eG).bind fun bt141 => ((aW.f bt141.1 bt141.2 58).bind fun bt143 => (if bt143.1 = true then ((aI.f kj10 bt143.2.1 bt143.2.2).bind fun bt146 => ((aQ.f kj10 bt146.1 bt146.2).bind fun bt148 => (if bt148.2.2.2.2.2.1 = true then (if lD.length < 1954687338268 then ((some (lD ++ [(⟨bt148.1, bt148.2.1, bt148.2.2.1, bt148.2.2.2.1, bt148.2.2.2.2.1⟩ : S31)] : List (S31))).bind fun nX => ((aI.f kj10 bt148.2.2.2.2.2.2.1 bt148.2.2.2.2.2.2.2).bind fun bt164 => ((aW.f bt164.1 bt164.2 125).bind fun bt166 => (if bt166.1 = true then (some (mA, nX, true, bt166.2.1, bt166.2.2)) else ((aW.f bt166.2.1 bt166.2.2 44).bind fun bt169 => (if bt169.1 = true then ((aI.f kj10 bt169.2.1 bt169.2.2).bind fun bt172 => (aD.l0 aQ kj10 mA nX bt172.1 bt172.2)) else (some (([] : List (S93)), ([] : List (S31)), false, bt169.2.1, bt169.2.2)))))))) else (none)) else (some (([] : List (S93)), ([] : List (S31)), false, bt148.2.2.2.2.2.2.1, bt148.2.2.2.2.2.2.2))))) else (some (([] : List (S93)), ([] : List (S31)), false, bt143.2.1, bt143.2.2))))) = some (r1, r2, r3, r4, r5) := by first | (rw [hy138]; with_reducible exact H) | (have H2_ := (al _ _).symm.trans H; rw [hy138]; with_reducible exact H2_) | (have H2_ := (al _ _).symm.trans H; with_reducible exact H2_) | with_reducible exact H | (rw [hy138]; exact H) | exact H
     have Hq := ab hy138
     clear hy138
     revert H; refine bnd ?_; rintro ⟨pU, pW⟩ Ap H; try dsimp only at H
     revert H; refine bnd ?_; rintro ⟨Yv, uL, sM⟩ Dv H; try dsimp only at H
     replace H := sB H
     obtain ⟨rfl, H⟩ | ⟨rfl, H⟩ := H
     ·revert H; refine bnd ?_; rintro ⟨pX, pY⟩ A24 H; try dsimp only at H
      revert H; refine bnd ?_; rintro ⟨jB, jC, jD, eW, gH, alO, mB, mC⟩ Lt H; try dsimp only at H
      replace H := sB H
      obtain ⟨rfl, H⟩ | ⟨rfl, H⟩ := H
      ·revert H; refine sNk fun c27 H => ?_
       have Hr := ab c27
       clear c27
       obtain ⟨nX, hy161⟩ : ∃ y_ : List (S31), y_ = (lD ++ [(⟨jB, jC, jD, eW, gH⟩ : S31)]) := ⟨_, rfl⟩
       replace H : ((aI.f kj10 mB mC).bind fun bt164 => ((aW.f bt164.1 bt164.2 125).bind fun bt166 => (if bt166.1 = true then (some (mA, nX, true, bt166.2.1, bt166.2.2)) else ((aW.f bt166.2.1 bt166.2.2 44).bind fun bt169 => (if bt169.1 = true then ((aI.f kj10 bt169.2.1 bt169.2.2).bind fun bt172 => (aD.l0 aQ kj10 mA nX bt172.1 bt172.2)) else (some (([] : List (S93)), ([] : List (S31)), false, bt169.2.1, bt169.2.2))))))) = some (r1, r2, r3, r4, r5) := by first | (rw [hy161]; with_reducible exact H) | (have H2_ := (al _ _).symm.trans H; rw [hy161]; with_reducible exact H2_) | (have H2_ := (al _ _).symm.trans H; with_reducible exact H2_) | with_reducible exact H | (rw [hy161]; exact H) | exact H
       have Hs := ab hy161
       clear hy161
       revert H; refine bnd ?_; rintro ⟨pZ, qA⟩ vG H; try dsimp only at H
       revert H; refine bnd ?_; rintro ⟨alP, nE, lL⟩ A29 H; try dsimp only at H
       replace H := sB H
       obtain ⟨rfl, H⟩ | ⟨rfl, H⟩ := H
       ·focus
         simp only [am, an] at H
         obtain ⟨rfl, rfl, rfl, rfl, rfl⟩ := H
         obtain ⟨Nx, Ny, Nz, Oa⟩ := cx_cellS50 HI0.out
         exact Z0
       revert H; refine bnd ?_; rintro ⟨alQ, uM, sN⟩ Nw H; try dsimp only at H
       replace H := sB H
       obtain ⟨rfl, H⟩ | ⟨rfl, H⟩ := H
       ·revert H; refine bnd ?_; rintro ⟨Ht, Bq⟩ A49 H; try dsimp only at H
        focus
         have H' := ab H
         clear H
         obtain ⟨nZ, oA, oB, oC⟩ := cx_cellS50 HI0.out
         exact Z0
       focus
        simp only [am, an] at H
        obtain ⟨rfl, rfl, rfl, rfl, rfl⟩ := H
        obtain ⟨xT, xU, xV, xW⟩ := cx_cellS50 HI0.out
        exact Z0
      focus
       simp only [am, an] at H
       obtain ⟨rfl, rfl, rfl, rfl, rfl⟩ := H
       obtain ⟨Ob, Oc, Od, Oe⟩ := cx_cellS50 HI0.out
       exact Z0
     focus
      simp only [am, an] at H
      obtain ⟨rfl, rfl, rfl, rfl, rfl⟩ := H
      obtain ⟨Of, Og, Oh, Oi⟩ := cx_cellS50 HI0.out
      exact Z0
def aJ.l0 (aQ : aE) : Nat → List (S31) → av → Int → Option ((List (S31)) × Bool × av × Int)
 | 0, _, _, _ => none
 | k + 1, x4, cO, cI => (aQ.f k cO cI).bind fun bt179 => (if bt179.2.2.2.2.2.1 = true then (if x4.length < 1954687338268 then ((some (x4 ++ [(⟨bt179.1, bt179.2.1, bt179.2.2.1, bt179.2.2.2.1, bt179.2.2.2.2.1⟩ : S31)] : List (S31))).bind fun sV => ((aI.f k bt179.2.2.2.2.2.2.1 bt179.2.2.2.2.2.2.2).bind fun bt195 => ((aW.f bt195.1 bt195.2 93).bind fun bt197 => (if bt197.1 = true then (some (sV, true, bt197.2.1, bt197.2.2)) else ((aW.f bt197.2.1 bt197.2.2 44).bind fun bt200 => (if bt200.1 = true then ((aI.f k bt200.2.1 bt200.2.2).bind fun bt203 => (aJ.l0 aQ k sV bt203.1 bt203.2)) else (some (([] : List (S31)), false, bt200.2.1, bt200.2.2)))))))) else (none)) else (some (([] : List (S31)), false, bt179.2.2.2.2.2.2.1, bt179.2.2.2.2.2.2.2)))
def aJ.f (aQ : aE) (k : Nat) (s0_0 : av) (s0_1 : Int) : Option ((List (S31)) × Bool × av × Int) := (aI.f k s0_0 (wrap64 (s0_1 + 1))).bind fun bt174 => ((aW.f bt174.1 bt174.2 93).bind fun bt176 => (if bt176.1 = true then (some (([] : List (S31)), true, bt176.2.1, bt176.2.2)) else (aJ.l0 aQ k ([] : List (S31)) bt176.2.1 bt176.2.2)))
theorem aJ.mono_l (aQ : aE) : ∀ k, (∀ y0 y1 y2, LeO (aJ.l0 aQ k y0 y1 y2) (aJ.l0 aQ (k + 1) y0 y1 y2))
 | 0 => fun _ _ _ r h => by simp [aJ.l0] at h
 | k + 1 => by
  have ih0 := aJ.mono_l aQ k
  ·intro y0 y1 y2
   unfold aJ.l0
   exact zM
theorem aJ.mono (aQ : aE) : ∀ a0 a1 k, LeO (aJ.f aQ k a0 a1) (aJ.f aQ (k + 1) a0 a1) := by
 intro a0 a1 k
 have ih0 := aJ.mono_l aQ k
 unfold aJ.f
 exact zM
instance aJ.mi (aQ : aE) {a0 a1 k} : LeI (aJ.f aQ k a0 a1) (aJ.f aQ (k + 1) a0 a1) := ⟨⟨aJ.mono aQ a0 a1 k⟩⟩
theorem aJ.calls (aQ : aE) (k : Nat) (g : Nat) (s0_0 : av) (s0_1 : Int) (r1 : List (S31)) (r2 : Bool) (r3 : av) (r4 : Int) (w0 w : World) (hI : IsS50 w0 w g s0_0 s0_1) (hB : Below w0.heap.size w0 w) (h : aJ.f aQ k s0_0 s0_1 = some (r1, r2, r3, r4)) :
 Calls Tryz.prog 40 #[.pointer (some ⟨g, 0, none⟩)] w fun e w' => ∃ v0_ : Value, e = .returned (.tuple #[v0_, .bool r2]) ∧ Kd.R k31 31 w' w.heap.size (fun _ => True) v0_ r1 ∧ IsS50 w0 w' g r3 r4 ∧ Below w0.heap.size w0 w' ∧ KeepBut w w' g none := by
 have hu31 := Tryz.underlying31
 have HI0 := ab hI
 have HK := ab (KeepBut.refl w g none)
 have HL := ab hB.size
 clear hI
 have HW0 := ab hB.size
 have HB := ab hB
 clear hB
 unfold aJ.f at h
 have H := h
 clear h
 revert H; refine bnd ?_; rintro ⟨xX, xY⟩ A2 H; try dsimp only at H
 revert H; refine bnd ?_; rintro ⟨alS, Cy, Cz⟩ A3 H; try dsimp only at H
 replace H := sB H
 obtain ⟨rfl, H⟩ | ⟨rfl, H⟩ := H
 ·focus
   simp only [am, an] at H
   obtain ⟨rfl, rfl, rfl, rfl⟩ := H
   obtain ⟨uG, uH, uI, uJ⟩ := cx_cellS50 HI0.out
   go_enter Tryz.func40, Tryz.ntmps40
   go_wp2_with (first | (refine gl 19 (some 15) Tryz.func19 #[.pointer (some ⟨g, 0, none⟩)] ?_; (with_reducible refine (aI.calls k g s0_0 (wrap64 (s0_1 + 1)) xX xY w0 _ zI zE A2.out).mono ?_); rintro e w6 ⟨rfl, hi, hb, hk⟩; refine ⟨_, rfl, ?_⟩; replace HK := ab (KeepBut.trans (w := w) zK hk (.inl rfl)); replace HB := ab (hb); replace HI0 := ab (hi); clear hb hk hi) | (refine gl 56 (some 17) Tryz.func56 #[.pointer (some ⟨g, 0, none⟩), .int .u8 93] ?_; (with_reducible refine (aW.calls g xX xY 93 true Cy Cz w0 _ zI zE A3.out).mono ?_); rintro e w7 ⟨rfl, hi, hb, hk⟩; refine ⟨_, rfl, ?_⟩; replace HK := ab (KeepBut.trans (w := w) zK hk (.inl rfl)); replace HB := ab (hb); replace HI0 := ab (hi); clear hb hk hi))
   go_ret2
   exact ⟨_, Z9, Z8, zI, zE, zK⟩
 have H' := ab H
 clear H
 obtain ⟨kK, kL, kM, kN⟩ := cx_cellS50 HI0.out
 go_enter Tryz.func40, Tryz.ntmps40
 go_wp2_with (first | (refine gl 19 (some 15) Tryz.func19 #[.pointer (some ⟨g, 0, none⟩)] ?_; (with_reducible refine (aI.calls k g s0_0 (wrap64 (s0_1 + 1)) xX xY w0 _ zI zE A2.out).mono ?_); rintro e w9 ⟨rfl, hi, hb, hk⟩; refine ⟨_, rfl, ?_⟩; replace HK := ab (KeepBut.trans (w := w) zK hk (.inl rfl)); replace HB := ab (hb); replace HI0 := ab (hi); clear hb hk hi) | (refine gl 56 (some 17) Tryz.func56 #[.pointer (some ⟨g, 0, none⟩), .int .u8 93] ?_; (with_reducible refine (aW.calls g xX xY 93 false Cy Cz w0 _ zI zE A3.out).mono ?_); rintro e w10 ⟨rfl, hi, hb, hk⟩; refine ⟨_, rfl, ?_⟩; replace HK := ab (KeepBut.trans (w := w) zK hk (.inl rfl)); replace HB := ab (hb); replace HI0 := ab (hi); clear hb hk hi))
 (try simp only [Act.put, ap, aq, ar])
 go_loopg [4] k (fun kq v4 w' => ∃ (cU : List (S31)) (bU : av) (bK : Int), Aside0 (aJ.l0 aQ kq cU bU bK = some (r1, r2, r3, r4)) ∧ Aside0 (kq ≤ k) ∧ Aside0 (Kd.R k31 31 w' w.heap.size (fun _ => True) v4 cU) ∧ Aside0 (IsS50 w0 w' g bU bK) ∧ Aside0 (KeepBut w w' g none) ∧ Aside0 (Below w0.heap.size w0 w'))
 case atStart => exact ⟨(([] : List (S31))), (Cy), (Cz), H', ⟨Nat.le_refl _⟩, ⟨Z8⟩, ⟨zI⟩, ⟨zK⟩, ⟨zE⟩⟩
 case round =>
  clear H'
  try clear kK kL kM kN
  obtain ⟨cU, bU, bK, HA, HK1, kG, HI0, HK, HB⟩ := hrel
  cases gk with
  | zero => exact absurd HA.out (by simp [aJ.l0])
  | succ k1 =>
   have H := HA.out
   clear HA
   simp only [aJ.l0] at H
   revert H; refine bnd ?_; rintro ⟨jS, jT, jU, fQ, gL, alT, mK, mL⟩ xC H; try dsimp only at H
   replace H := sB H
   obtain ⟨rfl, H⟩ | ⟨rfl, H⟩ := H
   ·revert H; refine sNk fun c13 H => ?_
    have Hu := ab c13
    clear c13
    obtain ⟨sV, hy192⟩ : ∃ y_ : List (S31), y_ = (cU ++ [(⟨jS, jT, jU, fQ, gL⟩ : S31)]) := ⟨_, rfl⟩
    replace H : ((aI.f k1 mK mL).bind fun bt195 => ((aW.f bt195.1 bt195.2 93).bind fun bt197 => (if bt197.1 = true then (some (sV, true, bt197.2.1, bt197.2.2)) else ((aW.f bt197.2.1 bt197.2.2 44).bind fun bt200 => (if bt200.1 = true then ((aI.f k1 bt200.2.1 bt200.2.2).bind fun bt203 => (aJ.l0 aQ k1 sV bt203.1 bt203.2)) else (some (([] : List (S31)), false, bt200.2.1, bt200.2.2))))))) = some (r1, r2, r3, r4) := by first | (rw [hy192]; with_reducible exact H) | (have H2_ := (al _ _).symm.trans H; rw [hy192]; with_reducible exact H2_) | (have H2_ := (al _ _).symm.trans H; with_reducible exact H2_) | with_reducible exact H | (rw [hy192]; exact H) | exact H
    have Hv := ab hy192
    clear hy192
    revert H; refine bnd ?_; rintro ⟨uN, uO⟩ Br H; try dsimp only at H
    revert H; refine bnd ?_; rintro ⟨alU, sW, sX⟩ Ba H; try dsimp only at H
    replace H := sB H
    obtain ⟨rfl, H⟩ | ⟨rfl, H⟩ := H
    ·focus
      simp only [am, an] at H
      obtain ⟨rfl, rfl, rfl, rfl⟩ := H
      exact Z1
    revert H; refine bnd ?_; rintro ⟨alV, xZ, yA⟩ vG H; try dsimp only at H
    replace H := sB H
    obtain ⟨rfl, H⟩ | ⟨rfl, H⟩ := H
    ·revert H; refine bnd ?_; rintro ⟨Hw, Hx⟩ A30 H; try dsimp only at H
     focus
      have H' := ab H
      clear H
      exact Z1
    focus
     simp only [am, an] at H
     obtain ⟨rfl, rfl, rfl, rfl⟩ := H
     exact Z1
   focus
    simp only [am, an] at H
    obtain ⟨rfl, rfl, rfl, rfl⟩ := H
    exact Z1
def aA.j0 (bG : bI) (bF : bH) : Nat → Bool → Bool → av → Int → Int → Int → Int → Option (Int × Int × Int × (List (S93)) × (List (S31)) × Bool × av × Int)
 | 0, _, _, _, _, _, _, _ => none
 | k + 1, x5, x42, cO, cI, yB, kH, Oj => if x42 = true then ((aC.f k cO cI).bind fun bt267 => (some (3, kH, bt267.2.2, ([] : List (S93)), ([] : List (S31)), bt267.1, bt267.2.1, bt267.2.2))) else ((bL.f cO cI (⟨#[110, 117, 108, 108]⟩ : av)).bind fun bt270 => (if bt270.1 = true then (some (0, kH, bt270.2.2, ([] : List (S93)), ([] : List (S31)), x5, bt270.2.1, bt270.2.2)) else ((bL.f bt270.2.1 bt270.2.2 (⟨#[102, 97, 108, 115, 101]⟩ : av)).bind fun bt273 => (if bt273.1 = true then (some (1, kH, bt273.2.2, ([] : List (S93)), ([] : List (S31)), x5, bt273.2.1, bt273.2.2)) else ((bL.f bt273.2.1 bt273.2.2 (⟨#[116, 114, 117, 101]⟩ : av)).bind fun bt276 => (if bt276.1 = true then (some (2, kH, bt276.2.2, ([] : List (S93)), ([] : List (S31)), x5, bt276.2.1, bt276.2.2)) else (some (yB, kH, bt276.2.2, ([] : List (S93)), ([] : List (S31)), false, bt276.2.1, bt276.2.2))))))))
def aA.f (bG : bI) (bF : bH) (k : Nat) (s0_0 : av) (s0_1 : Int) : Option (Int × Int × Int × (List (S93)) × (List (S31)) × Bool × av × Int) := (bN.f s0_0 s0_1).bind fun bt246 => (if bt246.1 = 123 then ((bG.f k bt246.2.1 bt246.2.2).bind fun bt249 => (some (6, s0_1, bt249.2.2.2.2, bt249.1, bt249.2.1, bt249.2.2.1, bt249.2.2.2.1, bt249.2.2.2.2))) else (if bt246.1 = 91 then ((bF.f k bt246.2.1 bt246.2.2).bind fun bt258 => (some (5, s0_1, bt258.2.2.2, ([] : List (S93)), bt258.1, bt258.2.1, bt258.2.2.1, bt258.2.2.2))) else (if bt246.1 = 34 then ((aX.f k bt246.2.1 bt246.2.2).bind fun bt264 => (some (4, s0_1, bt264.2.2, ([] : List (S93)), ([] : List (S31)), bt264.1, bt264.2.1, bt264.2.2))) else (if bt246.1 = 45 then (aA.j0 bG bF k true true bt246.2.1 bt246.2.2 0 s0_1 0) else (if 48 ≤ bt246.1 then (aA.j0 bG bF k true (decide (bt246.1 ≤ 57)) bt246.2.1 bt246.2.2 0 s0_1 0) else (aA.j0 bG bF k true false bt246.2.1 bt246.2.2 0 s0_1 0))))))
theorem aA.mono_l (bG : bI) (bF : bH) : ∀ k, (∀ y0 y1 y2 y3 y4 y5 y6, LeO (aA.j0 bG bF k y0 y1 y2 y3 y4 y5 y6) (aA.j0 bG bF (k + 1) y0 y1 y2 y3 y4 y5 y6))
 | 0 => fun _ _ _ _ _ _ _ r h => by simp [aA.j0] at h
 | k + 1 => by
  have ih0 := aA.mono_l bG bF k
  ·intro y0 y1 y2 y3 y4 y5 y6
   unfold aA.j0
   exact zM
theorem aA.mono (bG : bI) (bF : bH) : ∀ a0 a1 k, LeO (aA.f bG bF k a0 a1) (aA.f bG bF (k + 1) a0 a1) := by
 intro a0 a1 k
 have ih0 := aA.mono_l bG bF k
 unfold aA.f
 exact zM
instance aA.mi (bG : bI) (bF : bH) {a0 a1 k} : LeI (aA.f bG bF k a0 a1) (aA.f bG bF (k + 1) a0 a1) := ⟨⟨aA.mono bG bF a0 a1 k⟩⟩
theorem aA.calls (bG : bI) (bF : bH) (k : Nat) (g : Nat) (s0_0 : av) (s0_1 : Int) (r1 : Int) (r2 : Int) (r3 : Int) (r4 : List (S93)) (r5 : List (S31)) (r6 : Bool) (r7 : av) (r8 : Int) (w0 w : World) (hI : IsS50 w0 w g s0_0 s0_1) (hB : Below w0.heap.size w0 w) (h : aA.f bG bF k s0_0 s0_1 = some (r1, r2, r3, r4, r5, r6, r7, r8)) :
 Calls Tryz.prog 20 #[.pointer (some ⟨g, 0, none⟩)] w fun e w' => ∃ v3_ v4_ : Value, e = .returned (.tuple #[.agg #[.int .i64 r1, .int .i64 r2, .int .i64 r3, v3_, v4_], .bool r6]) ∧ Kd.R k93 93 w' w.heap.size (fun _ => True) v3_ r4 ∧ Kd.R k31 31 w' w.heap.size (fun k_ => some k_ ≠ (v3_ : Value).ownBlock) v4_ r5 ∧ IsS50 w0 w' g r7 r8 ∧ Below w0.heap.size w0 w' ∧ KeepBut w w' g none := by
 have hu31 := Tryz.underlying31
 have HI0 := ab hI
 have HK := ab (KeepBut.refl w g none)
 have HL := ab hB.size
 clear hI
 have HW0 := ab hB.size
 have HB := ab hB
 clear hB
 unfold aA.f at h
 have H := h
 clear h
 revert H; refine bnd ?_; rintro ⟨Da, mM, mN⟩ A2 H; try dsimp only at H
 revert H; refine sIe1n0_e0n1k (fun dX oM H => ?_) fun dX oM c3 H => ?_
 ·revert H; refine bnd ?_; rintro ⟨sY, sZ, aaO, aaP, tA⟩ A4 H; try dsimp only at H
  focus
   simp only [am, an] at H
   obtain ⟨rfl, rfl, rfl, rfl, rfl, rfl, rfl, rfl⟩ := H
   exact Z4
 revert H; refine sIe1n0_e0n1k (fun mR oQ H => ?_) fun mR oQ c20 H => ?_
 ·revert H; refine bnd ?_; rintro ⟨yC, aaQ, aaR, yD⟩ Ap H; try dsimp only at H
  focus
   simp only [am, an] at H
   obtain ⟨rfl, rfl, rfl, rfl, rfl, rfl, rfl, rfl⟩ := H
   exact Z4
 revert H; refine sIe1n0_e0n1k (fun lP lQ H => ?_) fun lP lQ c36 H => ?_
 ·revert H; refine bnd ?_; rintro ⟨aaS, aaT, Hy⟩ Zb H; try dsimp only at H
  focus
   simp only [am, an] at H
   obtain ⟨rfl, rfl, rfl, rfl, rfl, rfl, rfl, rfl⟩ := H
   exact Z4
 have Db := ab H
 clear H
 go_enter Tryz.func20, Tryz.ntmps20
 go_upto_region 14 with (first | (refine ax 2 #[.int .i64 0, .int .i64 0, .int .i64 0, .slice none 0 0, .slice none 0 0] 31 ?_; intro cC hg w52 hbox hb; replace HB := ab (below_step (w := w0) zE hb); have eB := ab (hbox); have uP := ab ((by rw [hg]; exact (keep_size (w := w) (g := g) (row := none) zK) : w.heap.size ≤ cC)); have Hz := ab (Nat.le_trans HW0.out uP.out); replace HK := ab (KeepBut.trans (w := w) zK (KeepBut.of_below hb g none) (.inl rfl)); have gM : Aside0 (g ≠ cC) := ⟨Z58⟩; have dB : Aside0 (cC ≠ g) := ⟨Z59⟩; replace HI0 := ab (IsS50.below zI hb); clear hb hbox hg; obtain ⟨rB, rC, rD, rE⟩ := cx_cellS50 HI0.out) | (refine ax 4 #[.int .i64 0, .int .i64 0, .int .i64 0, .slice none 0 0, .slice none 0 0] 31 ?_; intro cZ hg w54 hbox hb; replace HB := ab (below_step (w := w0) zE hb); have dU := ab (hbox); have uQ := ab ((by rw [hg]; exact (keep_size (w := w) (g := g) (row := none) zK) : w.heap.size ≤ cZ)); have Ia := ab (Nat.le_trans HW0.out uQ.out); replace HK := ab (KeepBut.trans (w := w) zK (KeepBut.of_below hb g none) (.inl rfl)); have eX : Aside0 (cC ≠ cZ) := ⟨by rw [hg]; exact Nat.ne_of_lt (blk_lt (g := cC) zC)⟩; have eY : Aside0 (cZ ≠ cC) := ⟨by rw [hg]; exact Nat.ne_of_gt (blk_lt (g := cC) zC)⟩; replace eB := ab (blk_below (g := cC) zC hb); have gV : Aside0 (g ≠ cZ) := ⟨Z58⟩; have dD : Aside0 (cZ ≠ g) := ⟨Z59⟩; replace HI0 := ab (IsS50.below zI hb); clear hb hbox hg; have Ib := eY.out; have Ic := eX.out; have Id := dD.out; have Ie := gV.out; obtain ⟨rO, rP, rQ, rR, rS, rT, rU, rV, rW, rX⟩ := cz5 dU.out) | (refine gl 38 (some 13) Tryz.func38 #[.pointer (some ⟨g, 0, none⟩)] ?_; (with_reducible refine (bN.calls g s0_0 s0_1 Da mM mN w0 _ zI zE A2.out).mono ?_); rintro e w58 ⟨rfl, hi, hb, hk⟩; refine ⟨_, rfl, ?_⟩; replace eB := ab (KeepBut.blk hk (g' := cC) zC dB.out (by simp)); replace dU := ab (KeepBut.blk hk (g' := cZ) (o := .cells #[.int .i64 0, .int .i64 s0_1, .int .i64 0, .slice none 0 0, .slice none 0 0] 31 (0, 0)) zC dD.out (by simp)); replace HK := ab (KeepBut.trans (w := w) zK hk (.inl rfl)); replace HB := ab (hb); replace HI0 := ab (hi); clear hb hk hi))
 (try simp only [Act.put, ap, aq, ar])
 go_cut [42] (fun v42 wc => ∃ (kq : Nat) (qB : Bool), v42 = .bool qB ∧ Aside0 (aA.j0 bG bF kq true qB mM mN 0 s0_1 0 = some (r1, r2, r3, r4, r5, r6, r7, r8)) ∧ Aside0 (kq ≤ k) ∧ Aside0 (wc.heap[cC]? = some (.cells #[.int .i64 0, .int .i64 0, .int .i64 0, (.slice none 0 0), (.slice none 0 0)] 31 (0, 0))) ∧ Aside0 (wc.heap[cZ]? = some (.cells #[.int .i64 0, .int .i64 s0_1, .int .i64 0, (.slice none 0 0), (.slice none 0 0)] 31 (0, 0))) ∧ Aside0 (IsS50 w0 wc g mM mN) ∧ Aside0 (KeepBut w wc g none) ∧ Aside0 (Below w0.heap.size w0 wc))
 case first =>
  have H := Db.out
  clear Db
  revert H; refine sIe1n0_e0n1 (fun oV Ig H => ?_) fun oV Ig H => ?_
  ·(first | rw [oV] | (simp only [i64_w, i32_w]; rw [oV]) | skip)
   focus
    have H' := ab H
    clear H
    go_wp2
    go_meet
    case rel => exact ⟨_, (true), Z7, H', ⟨Z27⟩, ⟨zC⟩, ⟨zC⟩, ⟨zI⟩, ⟨zK⟩, ⟨zE⟩⟩
  (first | rw [oV] | (simp only [i64_w, i32_w]; rw [oV]) | skip)
  revert H; refine sId1_d0 (fun Ih H => ?_) fun Ih H => ?_
  ·focus
    have H' := ab H
    clear H
    go_wp2
    go_meet
    case rel => exact ⟨_, (decide (Da ≤ 57)), Z7, H', ⟨Z27⟩, ⟨zC⟩, ⟨zC⟩, ⟨zI⟩, ⟨zK⟩, ⟨zE⟩⟩
  focus
   have H' := ab H
   clear H
   go_wp2
   go_meet
   case rel => exact ⟨_, (false), Z7, H', ⟨Z27⟩, ⟨zC⟩, ⟨zC⟩, ⟨zI⟩, ⟨zK⟩, ⟨zE⟩⟩
 case rest =>
  clear Db
  try clear c3 dX oM c20 mR oQ c36 lP lQ rB rC rO rP rQ rR rS rD rE rT rU rV rW rX
  obtain ⟨kq, qB, rfl, HA, HJ50, eB, dU, HI0, HK, HB⟩ := hcut
  cases kq with
  | zero => exact absurd HA.out (by simp [aA.j0])
  | succ kj50 =>
   have H := HA.out
   clear HA
   simp only [aA.j0] at H
   replace H := sB H
   obtain ⟨rfl, H⟩ | ⟨rfl, H⟩ := H
   ·revert H; refine bnd ?_; rintro ⟨aaU, aaV, Ii⟩ A62 H; try dsimp only at H
    focus
     simp only [am, an] at H
     obtain ⟨rfl, rfl, rfl, rfl, rfl, rfl, rfl, rfl⟩ := H
     have ahB := eY.out
     have ahC := eX.out
     have ahD := dD.out
     have ahE := gV.out
     obtain ⟨Ok, Ol, Om, Oo, Oq, Ot, Ou, Ov, Ow, Ox⟩ := cz5 dU.out
     exact Z3
   revert H; refine bnd ?_; rintro ⟨alX, yE, uR⟩ A71 H; try dsimp only at H
   replace H := sB H
   obtain ⟨rfl, H⟩ | ⟨rfl, H⟩ := H
   ·focus
     simp only [am, an] at H
     obtain ⟨rfl, rfl, rfl, rfl, rfl, rfl, rfl, rfl⟩ := H
     exact Z3
   revert H; refine bnd ?_; rintro ⟨alY, yF, uS⟩ A80 H; try dsimp only at H
   replace H := sB H
   obtain ⟨rfl, H⟩ | ⟨rfl, H⟩ := H
   ·focus
     simp only [am, an] at H
     obtain ⟨rfl, rfl, rfl, rfl, rfl, rfl, rfl, rfl⟩ := H
     exact Z3
   revert H; refine bnd ?_; rintro ⟨alZ, Ij, yG⟩ Dw H; try dsimp only at H
   replace H := sB H
   obtain ⟨rfl, H⟩ | ⟨rfl, H⟩ := H
   ·focus
     simp only [am, an] at H
     obtain ⟨rfl, rfl, rfl, rfl, rfl, rfl, rfl, rfl⟩ := H
     exact Z3
   focus
    simp only [am, an] at H
    obtain ⟨rfl, rfl, rfl, rfl, rfl, rfl, rfl, rfl⟩ := H
    exact Z3
structure iB where
 dP : bI
 dH : bH
 cP : aE
def dI : Nat → iB
 | 0 => ⟨⟨fun _ _ _ => none, fun _ _ _ _ h => (by cases h), by intros; rename_i h; cases h⟩, ⟨fun _ _ _ => none, fun _ _ _ _ h => (by cases h), by intros; rename_i h; cases h⟩, ⟨fun _ _ _ => none, fun _ _ _ _ h => (by cases h), by intros; rename_i h; cases h⟩⟩
 | n + 1 => let K := dI n; ⟨⟨fun k => aD.f K.cP k, aD.mono K.cP, aD.calls K.cP⟩, ⟨fun k => aJ.f K.cP k, aJ.mono K.cP, aJ.calls K.cP⟩, ⟨fun k => aA.f K.dP K.dH k, aA.mono K.dP K.dH, aA.calls K.dP K.dH⟩⟩
def aD.at_ (D : Nat) : bI := (dI D).dP
def aJ.at_ (D : Nat) : bH := (dI D).dH
def aA.at_ (D : Nat) : aE := (dI D).cP
end Go.Proofs.YtkjnahgicfmicaaGreatDoor.Sp

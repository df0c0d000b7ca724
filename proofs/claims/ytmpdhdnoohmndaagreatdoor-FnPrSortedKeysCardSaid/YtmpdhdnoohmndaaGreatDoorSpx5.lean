import Derived.Test.YtmpdhdnoohmndaaGreatDoorZip
import Derived.Test.YtmpdhdnoohmndaaGreatDoorQa
import Derived.Test.YtmpdhdnoohmndaaGreatDoorSpx3
import Derived.Test.YtmpdhdnoohmndaaGreatDoorSpx4
namespace Go.Proofs.YtmpdhdnoohmndaaGreatDoor.Sp
set_option maxHeartbeats 8000000
set_option maxRecDepth 100000
open Go.RowKit Go.Proofs.YtmpdhdnoohmndaaGreatDoorW.PrintWords Go.Proofs.YtmpdhdnoohmndaaGreatDoorW.PrintLast Go.Proofs.YtmpdhdnoohmndaaGreatDoorW.PrintMore
attribute [local go_sem] max2_int min2_int max_two min_two max_three min_three max_four min_four
set_option linter.unusedVariables false
set_option linter.unusedSimpArgs false
structure bF where
 f : Nat → au → Int → Option ((List (S93)) × (List (S31)) × Bool × au × Int)
 mono : ∀ a0 a1 k, LeO (f k a0 a1) (f (k + 1) a0 a1)
 calls : ∀ (k : Nat) (g : Nat) (s0_0 : au) (s0_1 : Int) (r1 : List (S93)) (r2 : List (S31)) (r3 : Bool) (r4 : au) (r5 : Int) (w0 w : World) (hI : IsS50 w0 w g s0_0 s0_1) (hB : Below w0.heap.size w0 w) (h : f k s0_0 s0_1 = some (r1, r2, r3, r4, r5)),
  Calls Tryz.prog 52 #[.pointer (some ⟨g, 0, none⟩)] w fun e w' => ∃ v0_ v1_ : Value, e = .returned (.tuple #[v0_, v1_, .bool r3]) ∧ Kd.R k93 84 w' w.heap.size (fun _ => True) v0_ r1 ∧ Kd.R k31 63 w' w.heap.size (fun k_ => some k_ ≠ (v0_ : Value).ownBlock) v1_ r2 ∧ IsS50 w0 w' g r4 r5 ∧ Below w0.heap.size w0 w' ∧ KeepBut w w' g none
instance bF.mi (V : bF) {a0 a1 k} : LeI (V.f k a0 a1) (V.f (k + 1) a0 a1) := ⟨⟨V.mono a0 a1 k⟩⟩
structure bD where
 f : Nat → au → Int → Option ((List (S31)) × Bool × au × Int)
 mono : ∀ a0 a1 k, LeO (f k a0 a1) (f (k + 1) a0 a1)
 calls : ∀ (k : Nat) (g : Nat) (s0_0 : au) (s0_1 : Int) (r1 : List (S31)) (r2 : Bool) (r3 : au) (r4 : Int) (w0 w : World) (hI : IsS50 w0 w g s0_0 s0_1) (hB : Below w0.heap.size w0 w) (h : f k s0_0 s0_1 = some (r1, r2, r3, r4)),
  Calls Tryz.prog 53 #[.pointer (some ⟨g, 0, none⟩)] w fun e w' => ∃ v0_ : Value, e = .returned (.tuple #[v0_, .bool r2]) ∧ Kd.R k31 63 w' w.heap.size (fun _ => True) v0_ r1 ∧ IsS50 w0 w' g r3 r4 ∧ Below w0.heap.size w0 w' ∧ KeepBut w w' g none
instance bD.mi (V : bD) {a0 a1 k} : LeI (V.f k a0 a1) (V.f (k + 1) a0 a1) := ⟨⟨V.mono a0 a1 k⟩⟩
structure aG where
 f : Nat → au → Int → Option (Int × Int × Int × (List (S93)) × (List (S31)) × Bool × au × Int)
 mono : ∀ a0 a1 k, LeO (f k a0 a1) (f (k + 1) a0 a1)
 calls : ∀ (k : Nat) (g : Nat) (s0_0 : au) (s0_1 : Int) (r1 : Int) (r2 : Int) (r3 : Int) (r4 : List (S93)) (r5 : List (S31)) (r6 : Bool) (r7 : au) (r8 : Int) (w0 w : World) (hI : IsS50 w0 w g s0_0 s0_1) (hB : Below w0.heap.size w0 w) (h : f k s0_0 s0_1 = some (r1, r2, r3, r4, r5, r6, r7, r8)),
  Calls Tryz.prog 36 #[.pointer (some ⟨g, 0, none⟩)] w fun e w' => ∃ v3_ v4_ : Value, e = .returned (.tuple #[.agg #[.int .i64 r1, .int .i64 r2, .int .i64 r3, v3_, v4_], .bool r6]) ∧ Kd.R k93 84 w' w.heap.size (fun _ => True) v3_ r4 ∧ Kd.R k31 63 w' w.heap.size (fun k_ => some k_ ≠ (v3_ : Value).ownBlock) v4_ r5 ∧ IsS50 w0 w' g r7 r8 ∧ Below w0.heap.size w0 w' ∧ KeepBut w w' g none
instance aG.mi (V : aG) {a0 a1 k} : LeI (V.f k a0 a1) (V.f (k + 1) a0 a1) := ⟨⟨V.mono a0 a1 k⟩⟩
mutual
def aC.l0 (aI : aG) : Nat → List (S93) → List (S31) → au → Int → Option ((List (S93)) × (List (S31)) × Bool × au × Int)
 | 0, _, _, _, _ => none
 | k + 1, x5, x6, bT, bQ => (bG.f bT bQ).bind fun bt132 => (if bt132.1 = 34 then ((aV.f k bt132.2.1 bt132.2.2).bind fun bt135 => (aC.j1 aI k x5 x6 bQ (!bt135.1) bt135.2.1 bt135.2.2)) else (aC.j1 aI k x5 x6 bQ true bt132.2.1 bt132.2.2))
def aC.j1 (aI : aG) : Nat → List (S93) → List (S31) → Int → Bool → au → Int → Option ((List (S93)) × (List (S31)) × Bool × au × Int)
 | 0, _, _, _, _, _, _ => none
 | k + 1, x5, x6, x7, x32, bT, bQ => if x32 = true then (some (([] : List (S93)), ([] : List (S31)), false, bT, bQ)) else (if x5.length < 8796093022208 then ((some (x5 ++ [(⟨x7, bQ⟩ : S93)] : List (S93))).bind fun iP => ((aA.f k bT bQ).bind fun bt141 => ((aK.f bt141.1 bt141.2 58).bind fun bt143 => (if bt143.1 = true then ((aA.f k bt143.2.1 bt143.2.2).bind fun bt146 => ((aI.f k bt146.1 bt146.2).bind fun bt148 => (if bt148.2.2.2.2.2.1 = true then (if x6.length < 1954687338268 then ((some (x6 ++ [(⟨bt148.1, bt148.2.1, bt148.2.2.1, bt148.2.2.2.1, bt148.2.2.2.2.1⟩ : S31)] : List (S31))).bind fun jW => ((aA.f k bt148.2.2.2.2.2.2.1 bt148.2.2.2.2.2.2.2).bind fun bt164 => ((aK.f bt164.1 bt164.2 125).bind fun bt166 => (if bt166.1 = true then (some (iP, jW, true, bt166.2.1, bt166.2.2)) else ((aK.f bt166.2.1 bt166.2.2 44).bind fun bt169 => (if bt169.1 = true then ((aA.f k bt169.2.1 bt169.2.2).bind fun bt172 => (aC.l0 aI k iP jW bt172.1 bt172.2)) else (some (([] : List (S93)), ([] : List (S31)), false, bt169.2.1, bt169.2.2)))))))) else (none)) else (some (([] : List (S93)), ([] : List (S31)), false, bt148.2.2.2.2.2.2.1, bt148.2.2.2.2.2.2.2))))) else (some (([] : List (S93)), ([] : List (S31)), false, bt143.2.1, bt143.2.2)))))) else (none))
end
def aC.f (aI : aG) (k : Nat) (s0_0 : au) (s0_1 : Int) : Option ((List (S93)) × (List (S31)) × Bool × au × Int) := (aA.f k s0_0 (wrap64 (s0_1 + 1))).bind fun bt127 => ((aK.f bt127.1 bt127.2 125).bind fun bt129 => (if bt129.1 = true then (some (([] : List (S93)), ([] : List (S31)), true, bt129.2.1, bt129.2.2)) else (aC.l0 aI k ([] : List (S93)) ([] : List (S31)) bt129.2.1 bt129.2.2)))
theorem aC.mono_l (aI : aG) : ∀ k, (∀ y0 y1 y2 y3, LeO (aC.l0 aI k y0 y1 y2 y3) (aC.l0 aI (k + 1) y0 y1 y2 y3)) ∧ (∀ y0 y1 y2 y3 y4 y5, LeO (aC.j1 aI k y0 y1 y2 y3 y4 y5) (aC.j1 aI (k + 1) y0 y1 y2 y3 y4 y5))
 | 0 => ⟨fun _ _ _ _ r h => by simp [aC.l0] at h, fun _ _ _ _ _ _ r h => by simp [aC.j1] at h⟩
 | k + 1 => by
  obtain ⟨ih0, ih1⟩ := aC.mono_l aI k
  refine ⟨?_, ?_⟩
  ·intro y0 y1 y2 y3
   unfold aC.l0
   exact zM
  ·intro y0 y1 y2 y3 y4 y5
   unfold aC.j1
   exact zM
theorem aC.mono (aI : aG) : ∀ a0 a1 k, LeO (aC.f aI k a0 a1) (aC.f aI (k + 1) a0 a1) := by
 intro a0 a1 k
 obtain ⟨ih0, ih1⟩ := aC.mono_l aI k
 unfold aC.f
 exact zM
instance aC.mi (aI : aG) {a0 a1 k} : LeI (aC.f aI k a0 a1) (aC.f aI (k + 1) a0 a1) := ⟨⟨aC.mono aI a0 a1 k⟩⟩
theorem aC.calls (aI : aG) (k : Nat) (g : Nat) (s0_0 : au) (s0_1 : Int) (r1 : List (S93)) (r2 : List (S31)) (r3 : Bool) (r4 : au) (r5 : Int) (w0 w : World) (hI : IsS50 w0 w g s0_0 s0_1) (hB : Below w0.heap.size w0 w) (h : aC.f aI k s0_0 s0_1 = some (r1, r2, r3, r4, r5)) :
 Calls Tryz.prog 52 #[.pointer (some ⟨g, 0, none⟩)] w fun e w' => ∃ v0_ v1_ : Value, e = .returned (.tuple #[v0_, v1_, .bool r3]) ∧ Kd.R k93 84 w' w.heap.size (fun _ => True) v0_ r1 ∧ Kd.R k31 63 w' w.heap.size (fun k_ => some k_ ≠ (v0_ : Value).ownBlock) v1_ r2 ∧ IsS50 w0 w' g r4 r5 ∧ Below w0.heap.size w0 w' ∧ KeepBut w w' g none := by
 have hu93 := Tryz.underlying84
 have hu31 := Tryz.underlying63
 have HI0 := aa hI
 have HK := aa (KeepBut.refl w g none)
 have HL := aa hB.size
 clear hI
 have HW0 := aa hB.size
 have HB := aa hB
 clear hB
 unfold aC.f at h
 have H := h
 clear h
 revert H; refine bnd ?_; rintro ⟨kK, rB⟩ A2 H; try dsimp only at H
 revert H; refine bnd ?_; rintro ⟨Wn, vP, vQ⟩ A3 H; try dsimp only at H
 replace H := sB H
 obtain ⟨rfl, H⟩ | ⟨rfl, H⟩ := H
 ·focus
   simp only [al, am] at H
   obtain ⟨rfl, rfl, rfl, rfl, rfl⟩ := H
   obtain ⟨oL, oM, oN, oO⟩ := cx_cellS50 HI0.out
   go_enter Tryz.func52, Tryz.ntmps52
   go_wp2_with (first | (refine gl 35 (some 18) Tryz.func35 #[.pointer (some ⟨g, 0, none⟩)] ?_; (with_reducible refine (aA.calls k g s0_0 (wrap64 (s0_1 + 1)) kK rB w0 _ zI zE A2.out).mono ?_); rintro e w6 ⟨rfl, hi, hb, hk⟩; refine ⟨_, rfl, ?_⟩; replace HK := aa (KeepBut.trans (w := w) zK hk (.inl rfl)); replace HB := aa (hb); replace HI0 := aa (hi); clear hb hk hi) | (refine gl 65 (some 20) Tryz.func65 #[.pointer (some ⟨g, 0, none⟩), .int .u8 125] ?_; (with_reducible refine (aK.calls g kK rB 125 true vP vQ w0 _ zI zE A3.out).mono ?_); rintro e w7 ⟨rfl, hi, hb, hk⟩; refine ⟨_, rfl, ?_⟩; replace HK := aa (KeepBut.trans (w := w) zK hk (.inl rfl)); replace HB := aa (hb); replace HI0 := aa (hi); clear hb hk hi))
   go_ret3
   exact ⟨_, _, Z6, Z7, Z7, zI, zE, zK⟩
 have H' := aa H
 clear H
 obtain ⟨gW, gX, gY, gZ⟩ := cx_cellS50 HI0.out
 go_enter Tryz.func52, Tryz.ntmps52
 go_wp2_with (first | (refine gl 35 (some 18) Tryz.func35 #[.pointer (some ⟨g, 0, none⟩)] ?_; (with_reducible refine (aA.calls k g s0_0 (wrap64 (s0_1 + 1)) kK rB w0 _ zI zE A2.out).mono ?_); rintro e w9 ⟨rfl, hi, hb, hk⟩; refine ⟨_, rfl, ?_⟩; replace HK := aa (KeepBut.trans (w := w) zK hk (.inl rfl)); replace HB := aa (hb); replace HI0 := aa (hi); clear hb hk hi) | (refine gl 65 (some 20) Tryz.func65 #[.pointer (some ⟨g, 0, none⟩), .int .u8 125] ?_; (with_reducible refine (aK.calls g kK rB 125 false vP vQ w0 _ zI zE A3.out).mono ?_); rintro e w10 ⟨rfl, hi, hb, hk⟩; refine ⟨_, rfl, ?_⟩; replace HK := aa (KeepBut.trans (w := w) zK hk (.inl rfl)); replace HB := aa (hb); replace HI0 := aa (hi); clear hb hk hi))
 (try simp only [Act.put, ao, ap, aq])
 go_loopg [5, 6] k (fun kq v5 v6 w' => ∃ (bL : List (S93)) (iJ : List (S31)) (bJ : au) (bE : Int), Aside0 (aC.l0 aI kq bL iJ bJ bE = some (r1, r2, r3, r4, r5)) ∧ Aside0 (kq ≤ k) ∧ Aside0 (Kd.R k93 84 w' w.heap.size (fun _ => True) v5 bL) ∧ Aside0 (Kd.R k31 63 w' w.heap.size (fun k_ => some k_ ≠ (v5 : Value).ownBlock) v6 iJ) ∧ Aside0 (IsS50 w0 w' g bJ bE) ∧ Aside0 (KeepBut w w' g none) ∧ Aside0 (Below w0.heap.size w0 w'))
 case atStart => exact ⟨(([] : List (S93))), (([] : List (S31))), (vP), (vQ), H', ⟨Nat.le_refl _⟩, ⟨Z7⟩, ⟨Z7⟩, ⟨zI⟩, ⟨zK⟩, ⟨zE⟩⟩
 case round =>
  clear H'
  try clear gW gX gY gZ
  obtain ⟨bL, iJ, bJ, bE, HA, HK1, jX, eF, HI0, HK, HB⟩ := hrel
  cases gk with
  | zero => exact absurd HA.out (by simp [aC.l0])
  | succ k1 =>
   have H := HA.out
   clear HA
   simp only [aC.l0] at H
   have lG := aa H
   clear H
   obtain ⟨gO, gP, gQ, gR⟩ := cx_cellS50 HI0.out
   go_upto_region 8 with (fail)
   go_cut [32] (fun v32 wc => ∃ (kq : Nat) (lN : Bool) (eO : au) (cW : Int), v32 = .bool lN ∧ Aside0 (aC.j1 aI kq bL iJ bE lN eO cW = some (r1, r2, r3, r4, r5)) ∧ Aside0 (kq ≤ k1) ∧ Aside0 (Kd.R k93 84 wc w.heap.size (fun _ => True) u5 bL) ∧ Aside0 (Kd.R k31 63 wc w.heap.size (fun k_ => some k_ ≠ (u5 : Value).ownBlock) u6 iJ) ∧ Aside0 (IsS50 w0 wc g eO cW) ∧ Aside0 (KeepBut w wc g none) ∧ Aside0 (Below w0.heap.size w0 wc))
   case first =>
    have H := lG.out
    clear lG
    revert H; refine bnd ?_; rintro ⟨Qc, oR, oS⟩ vJ H; try dsimp only at H
    revert H; refine sIe1n0_e0n1 (fun eV kR H => ?_) fun eV kR H => ?_
    ·(first | rw [eV] | (simp only [i64_w, i32_w]; rw [eV]) | skip)
     revert H; refine bnd ?_; rintro ⟨yK, yL, yM⟩ tW H; try dsimp only at H
     focus
      have H' := aa H
      clear H
      exact Z13
    (first | rw [eV] | (simp only [i64_w, i32_w]; rw [eV]) | skip)
    focus
     have H' := aa H
     clear H
     exact Z13
   case rest =>
    clear lG
    try clear gO gP gQ gR
    obtain ⟨kq, lN, eO, cW, rfl, HA, HJ10, jX, eF, HI0, HK, HB⟩ := hcut
    cases kq with
    | zero => exact absurd HA.out (by simp [aC.j1])
    | succ kj10 =>
     have H := HA.out
     clear HA
     simp only [aC.j1] at H
     replace H := sB H
     obtain ⟨rfl, H⟩ | ⟨rfl, H⟩ := H
     ·focus
       simp only [al, am] at H
       obtain ⟨rfl, rfl, rfl, rfl, rfl⟩ := H
       go_wp2
       go_ret3
       exact ⟨_, _, Z6, Z7, Z7, zI, zE, zK⟩
     revert H; refine sNk fun c20 H => ?_
     have yN := aa c20
     clear c20
     obtain ⟨iP, hy138⟩ : ∃ y_ : List (S93), y_ = (bL ++ [(⟨bE, cW⟩ : S93)]) := ⟨_, rfl⟩
     replace H : ((aA.f kj10 eO cW).bind fun bt141 => ((aK.f bt141.1 bt141.2 58).bind fun bt143 => (if bt143.1 = true then ((aA.f kj10 bt143.2.1 bt143.2.2).bind fun bt146 => ((aI.f kj10 bt146.1 bt146.2).bind fun bt148 => (if bt148.2.2.2.2.2.1 = true then (if iJ.length < 1954687338268 then ((some (iJ ++ [(⟨bt148.1, bt148.2.1, bt148.2.2.1, bt148.2.2.2.1, bt148.2.2.2.2.1⟩ : S31)] : List (S31))).bind fun jW => ((aA.f kj10 bt148.2.2.2.2.2.2.1 bt148.2.2.2.2.2.2.2).bind fun bt164 => ((aK.f bt164.1 bt164.2 125).bind fun bt166 => (if bt166.1 = true then (some (iP, jW, true, bt166.2.1, bt166.2.2)) else ((aK.f bt166.2.1 bt166.2.2 44).bind fun bt169 => (if bt169.1 = true then ((aA.f kj10 bt169.2.1 bt169.2.2).bind fun bt172 => (aC.l0 aI kj10 iP jW bt172.1 bt172.2)) else (some (([] : List (S93)), ([] : List (S31)), false, bt169.2.1, bt169.2.2)))))))) else (none)) else (some (([] : List (S93)), ([] : List (S31)), false, bt148.2.2.2.2.2.2.1, bt148.2.2.2.2.2.2.2))))) else (some (([] : List (S93)), ([] : List (S31)), false, bt143.2.1, bt143.2.2))))) = some (r1, r2, r3, r4, r5) := by first | (rw [hy138]; with_reducible exact H) | (have H2_ := (ak _ _).symm.trans H; rw [hy138]; with_reducible exact H2_) | (have H2_ := (ak _ _).symm.trans H; with_reducible exact H2_) | with_reducible exact H | (rw [hy138]; exact H) | exact H
     have yO := aa hy138
     clear hy138
     revert H; refine bnd ?_; rintro ⟨lO, lP⟩ wN H; try dsimp only at H
     revert H; refine bnd ?_; rintro ⟨Pl, oT, nN⟩ Da H; try dsimp only at H
     replace H := sB H
     obtain ⟨rfl, H⟩ | ⟨rfl, H⟩ := H
     ·revert H; refine bnd ?_; rintro ⟨lQ, lR⟩ Ps H; try dsimp only at H
      revert H; refine bnd ?_; rintro ⟨fU, fV, fW, dF, eG, Wo, iQ, iR⟩ Db H; try dsimp only at H
      replace H := sB H
      obtain ⟨rfl, H⟩ | ⟨rfl, H⟩ := H
      ·revert H; refine sNk fun c27 H => ?_
       have yP := aa c27
       clear c27
       obtain ⟨jW, hy161⟩ : ∃ y_ : List (S31), y_ = (iJ ++ [(⟨fU, fV, fW, dF, eG⟩ : S31)]) := ⟨_, rfl⟩
       replace H : ((aA.f kj10 iQ iR).bind fun bt164 => ((aK.f bt164.1 bt164.2 125).bind fun bt166 => (if bt166.1 = true then (some (iP, jW, true, bt166.2.1, bt166.2.2)) else ((aK.f bt166.2.1 bt166.2.2 44).bind fun bt169 => (if bt169.1 = true then ((aA.f kj10 bt169.2.1 bt169.2.2).bind fun bt172 => (aC.l0 aI kj10 iP jW bt172.1 bt172.2)) else (some (([] : List (S93)), ([] : List (S31)), false, bt169.2.1, bt169.2.2))))))) = some (r1, r2, r3, r4, r5) := by first | (rw [hy161]; with_reducible exact H) | (have H2_ := (ak _ _).symm.trans H; rw [hy161]; with_reducible exact H2_) | (have H2_ := (ak _ _).symm.trans H; with_reducible exact H2_) | with_reducible exact H | (rw [hy161]; exact H) | exact H
       have yQ := aa hy161
       clear hy161
       revert H; refine bnd ?_; rintro ⟨lS, lT⟩ pR H; try dsimp only at H
       revert H; refine bnd ?_; rintro ⟨Wp, jH, iL⟩ Sd H; try dsimp only at H
       replace H := sB H
       obtain ⟨rfl, H⟩ | ⟨rfl, H⟩ := H
       ·focus
         simp only [al, am] at H
         obtain ⟨rfl, rfl, rfl, rfl, rfl⟩ := H
         obtain ⟨Dc, Dd, De, Df⟩ := cx_cellS50 HI0.out
         exact Z0
       revert H; refine bnd ?_; rintro ⟨Wq, oU, nO⟩ Se H; try dsimp only at H
       replace H := sB H
       obtain ⟨rfl, H⟩ | ⟨rfl, H⟩ := H
       ·revert H; refine bnd ?_; rintro ⟨yR, uP⟩ Wr H; try dsimp only at H
        focus
         have H' := aa H
         clear H
         obtain ⟨jY, jZ, kA, kB⟩ := cx_cellS50 HI0.out
         exact Z0
       focus
        simp only [al, am] at H
        obtain ⟨rfl, rfl, rfl, rfl, rfl⟩ := H
        obtain ⟨rC, rD, rE, rF⟩ := cx_cellS50 HI0.out
        exact Z0
      focus
       simp only [al, am] at H
       obtain ⟨rfl, rfl, rfl, rfl, rfl⟩ := H
       obtain ⟨Dg, Dh, Di, Dj⟩ := cx_cellS50 HI0.out
       exact Z0
     focus
      simp only [al, am] at H
      obtain ⟨rfl, rfl, rfl, rfl, rfl⟩ := H
      obtain ⟨Dk, Dl, Dm, Dp⟩ := cx_cellS50 HI0.out
      exact Z0
def aM.l0 (aI : aG) : Nat → List (S31) → au → Int → Option ((List (S31)) × Bool × au × Int)
 | 0, _, _, _ => none
 | k + 1, x4, bT, bQ => (aI.f k bT bQ).bind fun bt179 => (if bt179.2.2.2.2.2.1 = true then (if x4.length < 1954687338268 then ((some (x4 ++ [(⟨bt179.1, bt179.2.1, bt179.2.2.1, bt179.2.2.2.1, bt179.2.2.2.2.1⟩ : S31)] : List (S31))).bind fun nS => ((aA.f k bt179.2.2.2.2.2.2.1 bt179.2.2.2.2.2.2.2).bind fun bt195 => ((aK.f bt195.1 bt195.2 93).bind fun bt197 => (if bt197.1 = true then (some (nS, true, bt197.2.1, bt197.2.2)) else ((aK.f bt197.2.1 bt197.2.2 44).bind fun bt200 => (if bt200.1 = true then ((aA.f k bt200.2.1 bt200.2.2).bind fun bt203 => (aM.l0 aI k nS bt203.1 bt203.2)) else (some (([] : List (S31)), false, bt200.2.1, bt200.2.2)))))))) else (none)) else (some (([] : List (S31)), false, bt179.2.2.2.2.2.2.1, bt179.2.2.2.2.2.2.2)))
def aM.f (aI : aG) (k : Nat) (s0_0 : au) (s0_1 : Int) : Option ((List (S31)) × Bool × au × Int) := (aA.f k s0_0 (wrap64 (s0_1 + 1))).bind fun bt174 => ((aK.f bt174.1 bt174.2 93).bind fun bt176 => (if bt176.1 = true then (some (([] : List (S31)), true, bt176.2.1, bt176.2.2)) else (aM.l0 aI k ([] : List (S31)) bt176.2.1 bt176.2.2)))
theorem aM.mono_l (aI : aG) : ∀ k, (∀ y0 y1 y2, LeO (aM.l0 aI k y0 y1 y2) (aM.l0 aI (k + 1) y0 y1 y2))
 | 0 => fun _ _ _ r h => by simp [aM.l0] at h
 | k + 1 => by
  have ih0 := aM.mono_l aI k
  ·intro y0 y1 y2
   unfold aM.l0
   exact zM
theorem aM.mono (aI : aG) : ∀ a0 a1 k, LeO (aM.f aI k a0 a1) (aM.f aI (k + 1) a0 a1) := by
 intro a0 a1 k
 have ih0 := aM.mono_l aI k
 unfold aM.f
 exact zM
instance aM.mi (aI : aG) {a0 a1 k} : LeI (aM.f aI k a0 a1) (aM.f aI (k + 1) a0 a1) := ⟨⟨aM.mono aI a0 a1 k⟩⟩
theorem aM.calls (aI : aG) (k : Nat) (g : Nat) (s0_0 : au) (s0_1 : Int) (r1 : List (S31)) (r2 : Bool) (r3 : au) (r4 : Int) (w0 w : World) (hI : IsS50 w0 w g s0_0 s0_1) (hB : Below w0.heap.size w0 w) (h : aM.f aI k s0_0 s0_1 = some (r1, r2, r3, r4)) :
 Calls Tryz.prog 53 #[.pointer (some ⟨g, 0, none⟩)] w fun e w' => ∃ v0_ : Value, e = .returned (.tuple #[v0_, .bool r2]) ∧ Kd.R k31 63 w' w.heap.size (fun _ => True) v0_ r1 ∧ IsS50 w0 w' g r3 r4 ∧ Below w0.heap.size w0 w' ∧ KeepBut w w' g none := by
 have hu31 := Tryz.underlying63
 have HI0 := aa hI
 have HK := aa (KeepBut.refl w g none)
 have HL := aa hB.size
 clear hI
 have HW0 := aa hB.size
 have HB := aa hB
 clear hB
 unfold aM.f at h
 have H := h
 clear h
 revert H; refine bnd ?_; rintro ⟨rG, rH⟩ A2 H; try dsimp only at H
 revert H; refine bnd ?_; rintro ⟨Ws, vR, vS⟩ A3 H; try dsimp only at H
 replace H := sB H
 obtain ⟨rfl, H⟩ | ⟨rfl, H⟩ := H
 ·focus
   simp only [al, am] at H
   obtain ⟨rfl, rfl, rfl, rfl⟩ := H
   obtain ⟨oL, oM, oN, oO⟩ := cx_cellS50 HI0.out
   go_enter Tryz.func53, Tryz.ntmps53
   go_wp2_with (first | (refine gl 35 (some 15) Tryz.func35 #[.pointer (some ⟨g, 0, none⟩)] ?_; (with_reducible refine (aA.calls k g s0_0 (wrap64 (s0_1 + 1)) rG rH w0 _ zI zE A2.out).mono ?_); rintro e w6 ⟨rfl, hi, hb, hk⟩; refine ⟨_, rfl, ?_⟩; replace HK := aa (KeepBut.trans (w := w) zK hk (.inl rfl)); replace HB := aa (hb); replace HI0 := aa (hi); clear hb hk hi) | (refine gl 65 (some 17) Tryz.func65 #[.pointer (some ⟨g, 0, none⟩), .int .u8 93] ?_; (with_reducible refine (aK.calls g rG rH 93 true vR vS w0 _ zI zE A3.out).mono ?_); rintro e w7 ⟨rfl, hi, hb, hk⟩; refine ⟨_, rfl, ?_⟩; replace HK := aa (KeepBut.trans (w := w) zK hk (.inl rfl)); replace HB := aa (hb); replace HI0 := aa (hi); clear hb hk hi))
   go_ret2
   exact ⟨_, Z6, Z7, zI, zE, zK⟩
 have H' := aa H
 clear H
 obtain ⟨gW, gX, gY, gZ⟩ := cx_cellS50 HI0.out
 go_enter Tryz.func53, Tryz.ntmps53
 go_wp2_with (first | (refine gl 35 (some 15) Tryz.func35 #[.pointer (some ⟨g, 0, none⟩)] ?_; (with_reducible refine (aA.calls k g s0_0 (wrap64 (s0_1 + 1)) rG rH w0 _ zI zE A2.out).mono ?_); rintro e w9 ⟨rfl, hi, hb, hk⟩; refine ⟨_, rfl, ?_⟩; replace HK := aa (KeepBut.trans (w := w) zK hk (.inl rfl)); replace HB := aa (hb); replace HI0 := aa (hi); clear hb hk hi) | (refine gl 65 (some 17) Tryz.func65 #[.pointer (some ⟨g, 0, none⟩), .int .u8 93] ?_; (with_reducible refine (aK.calls g rG rH 93 false vR vS w0 _ zI zE A3.out).mono ?_); rintro e w10 ⟨rfl, hi, hb, hk⟩; refine ⟨_, rfl, ?_⟩; replace HK := aa (KeepBut.trans (w := w) zK hk (.inl rfl)); replace HB := aa (hb); replace HI0 := aa (hi); clear hb hk hi))
 (try simp only [Act.put, ao, ap, aq])
 go_loopg [4] k (fun kq v4 w' => ∃ (fT : List (S31)) (bJ : au) (bE : Int), Aside0 (aM.l0 aI kq fT bJ bE = some (r1, r2, r3, r4)) ∧ Aside0 (kq ≤ k) ∧ Aside0 (Kd.R k31 63 w' w.heap.size (fun _ => True) v4 fT) ∧ Aside0 (IsS50 w0 w' g bJ bE) ∧ Aside0 (KeepBut w w' g none) ∧ Aside0 (Below w0.heap.size w0 w'))
 case atStart => exact ⟨(([] : List (S31))), (vR), (vS), H', ⟨Nat.le_refl _⟩, ⟨Z7⟩, ⟨zI⟩, ⟨zK⟩, ⟨zE⟩⟩
 case round =>
  clear H'
  try clear gW gX gY gZ
  obtain ⟨fT, bJ, bE, HA, HK1, gS, HI0, HK, HB⟩ := hrel
  cases gk with
  | zero => exact absurd HA.out (by simp [aM.l0])
  | succ k1 =>
   have H := HA.out
   clear HA
   simp only [aM.l0] at H
   revert H; refine bnd ?_; rintro ⟨gJ, gL, gM, dS, eI, Wt, iY, iZ⟩ pQ H; try dsimp only at H
   replace H := sB H
   obtain ⟨rfl, H⟩ | ⟨rfl, H⟩ := H
   ·revert H; refine sNk fun c13 H => ?_
    have yS := aa c13
    clear c13
    obtain ⟨nS, hy192⟩ : ∃ y_ : List (S31), y_ = (fT ++ [(⟨gJ, gL, gM, dS, eI⟩ : S31)]) := ⟨_, rfl⟩
    replace H : ((aA.f k1 iY iZ).bind fun bt195 => ((aK.f bt195.1 bt195.2 93).bind fun bt197 => (if bt197.1 = true then (some (nS, true, bt197.2.1, bt197.2.2)) else ((aK.f bt197.2.1 bt197.2.2 44).bind fun bt200 => (if bt200.1 = true then ((aA.f k1 bt200.2.1 bt200.2.2).bind fun bt203 => (aM.l0 aI k1 nS bt203.1 bt203.2)) else (some (([] : List (S31)), false, bt200.2.1, bt200.2.2))))))) = some (r1, r2, r3, r4) := by first | (rw [hy192]; with_reducible exact H) | (have H2_ := (ak _ _).symm.trans H; rw [hy192]; with_reducible exact H2_) | (have H2_ := (ak _ _).symm.trans H; with_reducible exact H2_) | with_reducible exact H | (rw [hy192]; exact H) | exact H
    have yT := aa hy192
    clear hy192
    revert H; refine bnd ?_; rintro ⟨oV, oW⟩ uQ H; try dsimp only at H
    revert H; refine bnd ?_; rintro ⟨Wu, nT, nU⟩ tW H; try dsimp only at H
    replace H := sB H
    obtain ⟨rfl, H⟩ | ⟨rfl, H⟩ := H
    ·focus
      simp only [al, am] at H
      obtain ⟨rfl, rfl, rfl, rfl⟩ := H
      exact Z1
    revert H; refine bnd ?_; rintro ⟨Wv, rI, rJ⟩ pR H; try dsimp only at H
    replace H := sB H
    obtain ⟨rfl, H⟩ | ⟨rfl, H⟩ := H
    ·revert H; refine bnd ?_; rintro ⟨yU, yV⟩ Px H; try dsimp only at H
     focus
      have H' := aa H
      clear H
      exact Z1
    focus
     simp only [al, am] at H
     obtain ⟨rfl, rfl, rfl, rfl⟩ := H
     exact Z1
   focus
    simp only [al, am] at H
    obtain ⟨rfl, rfl, rfl, rfl⟩ := H
    exact Z1
def aH.j0 (bA : bF) (aZ : bD) : Nat → Bool → Bool → au → Int → Int → Int → Int → Option (Int × Int × Int × (List (S93)) × (List (S31)) × Bool × au × Int)
 | 0, _, _, _, _, _, _, _ => none
 | k + 1, x5, x42, bT, bQ, rK, gT, Dq => if x42 = true then ((aD.f k bT bQ).bind fun bt267 => (some (3, gT, bt267.2.2, ([] : List (S93)), ([] : List (S31)), bt267.1, bt267.2.1, bt267.2.2))) else ((bH.f bT bQ (⟨#[110, 117, 108, 108]⟩ : au)).bind fun bt270 => (if bt270.1 = true then (some (0, gT, bt270.2.2, ([] : List (S93)), ([] : List (S31)), x5, bt270.2.1, bt270.2.2)) else ((bH.f bt270.2.1 bt270.2.2 (⟨#[102, 97, 108, 115, 101]⟩ : au)).bind fun bt273 => (if bt273.1 = true then (some (1, gT, bt273.2.2, ([] : List (S93)), ([] : List (S31)), x5, bt273.2.1, bt273.2.2)) else ((bH.f bt273.2.1 bt273.2.2 (⟨#[116, 114, 117, 101]⟩ : au)).bind fun bt276 => (if bt276.1 = true then (some (2, gT, bt276.2.2, ([] : List (S93)), ([] : List (S31)), x5, bt276.2.1, bt276.2.2)) else (some (rK, gT, bt276.2.2, ([] : List (S93)), ([] : List (S31)), false, bt276.2.1, bt276.2.2))))))))
def aH.f (bA : bF) (aZ : bD) (k : Nat) (s0_0 : au) (s0_1 : Int) : Option (Int × Int × Int × (List (S93)) × (List (S31)) × Bool × au × Int) := (bG.f s0_0 s0_1).bind fun bt246 => (if bt246.1 = 123 then ((bA.f k bt246.2.1 bt246.2.2).bind fun bt249 => (some (6, s0_1, bt249.2.2.2.2, bt249.1, bt249.2.1, bt249.2.2.1, bt249.2.2.2.1, bt249.2.2.2.2))) else (if bt246.1 = 91 then ((aZ.f k bt246.2.1 bt246.2.2).bind fun bt258 => (some (5, s0_1, bt258.2.2.2, ([] : List (S93)), bt258.1, bt258.2.1, bt258.2.2.1, bt258.2.2.2))) else (if bt246.1 = 34 then ((aV.f k bt246.2.1 bt246.2.2).bind fun bt264 => (some (4, s0_1, bt264.2.2, ([] : List (S93)), ([] : List (S31)), bt264.1, bt264.2.1, bt264.2.2))) else (if bt246.1 = 45 then (aH.j0 bA aZ k true true bt246.2.1 bt246.2.2 0 s0_1 0) else (if 48 ≤ bt246.1 then (aH.j0 bA aZ k true (decide (bt246.1 ≤ 57)) bt246.2.1 bt246.2.2 0 s0_1 0) else (aH.j0 bA aZ k true false bt246.2.1 bt246.2.2 0 s0_1 0))))))
theorem aH.mono_l (bA : bF) (aZ : bD) : ∀ k, (∀ y0 y1 y2 y3 y4 y5 y6, LeO (aH.j0 bA aZ k y0 y1 y2 y3 y4 y5 y6) (aH.j0 bA aZ (k + 1) y0 y1 y2 y3 y4 y5 y6))
 | 0 => fun _ _ _ _ _ _ _ r h => by simp [aH.j0] at h
 | k + 1 => by
  have ih0 := aH.mono_l bA aZ k
  ·intro y0 y1 y2 y3 y4 y5 y6
   unfold aH.j0
   exact zM
theorem aH.mono (bA : bF) (aZ : bD) : ∀ a0 a1 k, LeO (aH.f bA aZ k a0 a1) (aH.f bA aZ (k + 1) a0 a1) := by
 intro a0 a1 k
 have ih0 := aH.mono_l bA aZ k
 unfold aH.f
 exact zM
instance aH.mi (bA : bF) (aZ : bD) {a0 a1 k} : LeI (aH.f bA aZ k a0 a1) (aH.f bA aZ (k + 1) a0 a1) := ⟨⟨aH.mono bA aZ a0 a1 k⟩⟩
theorem aH.calls (bA : bF) (aZ : bD) (k : Nat) (g : Nat) (s0_0 : au) (s0_1 : Int) (r1 : Int) (r2 : Int) (r3 : Int) (r4 : List (S93)) (r5 : List (S31)) (r6 : Bool) (r7 : au) (r8 : Int) (w0 w : World) (hI : IsS50 w0 w g s0_0 s0_1) (hB : Below w0.heap.size w0 w) (h : aH.f bA aZ k s0_0 s0_1 = some (r1, r2, r3, r4, r5, r6, r7, r8)) :
 Calls Tryz.prog 36 #[.pointer (some ⟨g, 0, none⟩)] w fun e w' => ∃ v3_ v4_ : Value, e = .returned (.tuple #[.agg #[.int .i64 r1, .int .i64 r2, .int .i64 r3, v3_, v4_], .bool r6]) ∧ Kd.R k93 84 w' w.heap.size (fun _ => True) v3_ r4 ∧ Kd.R k31 63 w' w.heap.size (fun k_ => some k_ ≠ (v3_ : Value).ownBlock) v4_ r5 ∧ IsS50 w0 w' g r7 r8 ∧ Below w0.heap.size w0 w' ∧ KeepBut w w' g none := by
 have hu31 := Tryz.underlying63
 have HI0 := aa hI
 have HK := aa (KeepBut.refl w g none)
 have HL := aa hB.size
 clear hI
 have HW0 := aa hB.size
 have HB := aa hB
 clear hB
 unfold aH.f at h
 have H := h
 clear h
 revert H; refine bnd ?_; rintro ⟨vT, jA, jB⟩ A2 H; try dsimp only at H
 revert H; refine sIe1n0_e0n1k (fun dE kM H => ?_) fun dE kM c3 H => ?_
 ·revert H; refine bnd ?_; rintro ⟨nV, nW, Qd, Qe, nX⟩ A4 H; try dsimp only at H
  focus
   simp only [al, am] at H
   obtain ⟨rfl, rfl, rfl, rfl, rfl, rfl, rfl, rfl⟩ := H
   exact Z4
 revert H; refine sIe1n0_e0n1k (fun oI tX H => ?_) fun oI tX c20 H => ?_
 ·revert H; refine bnd ?_; rintro ⟨rL, Qf, Qg, rM⟩ wN H; try dsimp only at H
  focus
   simp only [al, am] at H
   obtain ⟨rfl, rfl, rfl, rfl, rfl, rfl, rfl, rfl⟩ := H
   exact Z4
 revert H; refine sIe1n0_e0n1k (fun oX oY H => ?_) fun oX oY c36 H => ?_
 ·revert H; refine bnd ?_; rintro ⟨Qh, Qi, yW⟩ Ww H; try dsimp only at H
  focus
   simp only [al, am] at H
   obtain ⟨rfl, rfl, rfl, rfl, rfl, rfl, rfl, rfl⟩ := H
   exact Z4
 have vU := aa H
 clear H
 go_enter Tryz.func36, Tryz.ntmps36
 go_upto_region 14 with (first | (refine aw 2 #[.int .i64 0, .int .i64 0, .int .i64 0, .slice none 0 0, .slice none 0 0] 63 ?_; intro bO hg w52 hbox hb; replace HB := aa (below_step (w := w0) zE hb); have cT := aa (hbox); have oZ := aa ((by rw [hg]; exact (keep_size (w := w) (g := g) (row := none) zK) : w.heap.size ≤ bO)); have yX := aa (Nat.le_trans HW0.out oZ.out); replace HK := aa (KeepBut.trans (w := w) zK (KeepBut.of_below hb g none) (.inl rfl)); have eJ : Aside0 (g ≠ bO) := ⟨Z49⟩; have cD : Aside0 (bO ≠ g) := ⟨Z50⟩; replace HI0 := aa (IsS50.below zI hb); clear hb hbox hg; obtain ⟨rN, rO, rP, rQ⟩ := cx_cellS50 HI0.out) | (refine aw 4 #[.int .i64 0, .int .i64 0, .int .i64 0, .slice none 0 0, .slice none 0 0] 63 ?_; intro cC hg w54 hbox hb; replace HB := aa (below_step (w := w0) zE hb); have cP := aa (hbox); have pA := aa ((by rw [hg]; exact (keep_size (w := w) (g := g) (row := none) zK) : w.heap.size ≤ cC)); have yY := aa (Nat.le_trans HW0.out pA.out); replace HK := aa (KeepBut.trans (w := w) zK (KeepBut.of_below hb g none) (.inl rfl)); have dG : Aside0 (bO ≠ cC) := ⟨by rw [hg]; exact Nat.ne_of_lt (blk_lt (g := bO) zC)⟩; have dH : Aside0 (cC ≠ bO) := ⟨by rw [hg]; exact Nat.ne_of_gt (blk_lt (g := bO) zC)⟩; replace cT := aa (blk_below (g := bO) zC hb); have eR : Aside0 (g ≠ cC) := ⟨Z49⟩; have cE : Aside0 (cC ≠ g) := ⟨Z50⟩; replace HI0 := aa (IsS50.below zI hb); clear hb hbox hg; have yZ := dH.out; have zA := dG.out; have zD := cE.out; have zF := eR.out; obtain ⟨mP, mQ, mR, mT, mU, mV, mW, mX, mY, mZ⟩ := cz5 cP.out) | (refine gl 51 (some 13) Tryz.func51 #[.pointer (some ⟨g, 0, none⟩)] ?_; (with_reducible refine (bG.calls g s0_0 s0_1 vT jA jB w0 _ zI zE A2.out).mono ?_); rintro e w58 ⟨rfl, hi, hb, hk⟩; refine ⟨_, rfl, ?_⟩; replace cT := aa (KeepBut.blk hk (g' := bO) zC cD.out (by simp)); replace cP := aa (KeepBut.blk hk (g' := cC) (o := .cells #[.int .i64 0, .int .i64 s0_1, .int .i64 0, .slice none 0 0, .slice none 0 0] 63 (0, 0)) zC cE.out (by simp)); replace HK := aa (KeepBut.trans (w := w) zK hk (.inl rfl)); replace HB := aa (hb); replace HI0 := aa (hi); clear hb hk hi))
 (try simp only [Act.put, ao, ap, aq])
 go_cut [42] (fun v42 wc => ∃ (kq : Nat) (lU : Bool), v42 = .bool lU ∧ Aside0 (aH.j0 bA aZ kq true lU jA jB 0 s0_1 0 = some (r1, r2, r3, r4, r5, r6, r7, r8)) ∧ Aside0 (kq ≤ k) ∧ Aside0 (wc.heap[bO]? = some (.cells #[.int .i64 0, .int .i64 0, .int .i64 0, (.slice none 0 0), (.slice none 0 0)] 63 (0, 0))) ∧ Aside0 (wc.heap[cC]? = some (.cells #[.int .i64 0, .int .i64 s0_1, .int .i64 0, (.slice none 0 0), (.slice none 0 0)] 63 (0, 0))) ∧ Aside0 (IsS50 w0 wc g jA jB) ∧ Aside0 (KeepBut w wc g none) ∧ Aside0 (Below w0.heap.size w0 wc))
 case first =>
  have H := vU.out
  clear vU
  revert H; refine sIe1n0_e0n1 (fun kS zG H => ?_) fun kS zG H => ?_
  ·(first | rw [kS] | (simp only [i64_w, i32_w]; rw [kS]) | skip)
   focus
    have H' := aa H
    clear H
    go_wp2
    go_meet
    case rel => exact ⟨_, (true), Z8, H', ⟨Z23⟩, ⟨zC⟩, ⟨zC⟩, ⟨zI⟩, ⟨zK⟩, ⟨zE⟩⟩
  (first | rw [kS] | (simp only [i64_w, i32_w]; rw [kS]) | skip)
  revert H; refine sId1_d0 (fun zH H => ?_) fun zH H => ?_
  ·focus
    have H' := aa H
    clear H
    go_wp2
    go_meet
    case rel => exact ⟨_, (decide (vT ≤ 57)), Z8, H', ⟨Z23⟩, ⟨zC⟩, ⟨zC⟩, ⟨zI⟩, ⟨zK⟩, ⟨zE⟩⟩
  focus
   have H' := aa H
   clear H
   go_wp2
   go_meet
   case rel => exact ⟨_, (false), Z8, H', ⟨Z23⟩, ⟨zC⟩, ⟨zC⟩, ⟨zI⟩, ⟨zK⟩, ⟨zE⟩⟩
 case rest =>
  clear vU
  try clear c3 dE kM c20 oI tX c36 oX oY rN rO mP mQ mR mT mU rP rQ mV mW mX mY mZ
  obtain ⟨kq, lU, rfl, HA, HJ50, cT, cP, HI0, HK, HB⟩ := hcut
  cases kq with
  | zero => exact absurd HA.out (by simp [aH.j0])
  | succ kj50 =>
   have H := HA.out
   clear HA
   simp only [aH.j0] at H
   replace H := sB H
   obtain ⟨rfl, H⟩ | ⟨rfl, H⟩ := H
   ·revert H; refine bnd ?_; rintro ⟨Qj, Qk, zJ⟩ Wx H; try dsimp only at H
    focus
     simp only [al, am] at H
     obtain ⟨rfl, rfl, rfl, rfl, rfl, rfl, rfl, rfl⟩ := H
     have Sf := dH.out
     have Sg := dG.out
     have Sh := cE.out
     have Si := eR.out
     obtain ⟨Dr, Ds, Dt, Du, Dv, Dw, Dx, Dy, Dz, Ea⟩ := cz5 cP.out
     exact Z3
   revert H; refine bnd ?_; rintro ⟨Wy, rR, pB⟩ Sj H; try dsimp only at H
   replace H := sB H
   obtain ⟨rfl, H⟩ | ⟨rfl, H⟩ := H
   ·focus
     simp only [al, am] at H
     obtain ⟨rfl, rfl, rfl, rfl, rfl, rfl, rfl, rfl⟩ := H
     exact Z3
   revert H; refine bnd ?_; rintro ⟨Wz, rS, pC⟩ Sk H; try dsimp only at H
   replace H := sB H
   obtain ⟨rfl, H⟩ | ⟨rfl, H⟩ := H
   ·focus
     simp only [al, am] at H
     obtain ⟨rfl, rfl, rfl, rfl, rfl, rfl, rfl, rfl⟩ := H
     exact Z3
   revert H; refine bnd ?_; rintro ⟨Xa, zL, rT⟩ Sl H; try dsimp only at H
   replace H := sB H
   obtain ⟨rfl, H⟩ | ⟨rfl, H⟩ := H
   ·focus
     simp only [al, am] at H
     obtain ⟨rfl, rfl, rfl, rfl, rfl, rfl, rfl, rfl⟩ := H
     exact Z3
   focus
    simp only [al, am] at H
    obtain ⟨rfl, rfl, rfl, rfl, rfl, rfl, rfl, rfl⟩ := H
    exact Z3
structure eZ where
 cK : bF
 cG : bD
 bU : aG
def cH : Nat → eZ
 | 0 => ⟨⟨fun _ _ _ => none, fun _ _ _ _ h => (by cases h), by intros; rename_i h; cases h⟩, ⟨fun _ _ _ => none, fun _ _ _ _ h => (by cases h), by intros; rename_i h; cases h⟩, ⟨fun _ _ _ => none, fun _ _ _ _ h => (by cases h), by intros; rename_i h; cases h⟩⟩
 | n + 1 => let K := cH n; ⟨⟨fun k => aC.f K.bU k, aC.mono K.bU, aC.calls K.bU⟩, ⟨fun k => aM.f K.bU k, aM.mono K.bU, aM.calls K.bU⟩, ⟨fun k => aH.f K.cK K.cG k, aH.mono K.cK K.cG, aH.calls K.cK K.cG⟩⟩
def aC.at_ (D : Nat) : bF := (cH D).cK
def aM.at_ (D : Nat) : bD := (cH D).cG
def aH.at_ (D : Nat) : aG := (cH D).bU
end Go.Proofs.YtmpdhdnoohmndaaGreatDoor.Sp

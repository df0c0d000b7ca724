import Derived.Test.YtkjnahgicfmicaaGreatDoorZip
import Derived.Test.YtkjnahgicfmicaaGreatDoorQa
import Derived.Test.YtkjnahgicfmicaaGreatDoorQk
namespace Go.Proofs.YtkjnahgicfmicaaGreatDoor.Sp
set_option maxHeartbeats 8000000
set_option maxRecDepth 100000
open Go.RowKit Go.PW Go.PL Go.PM
attribute [local go_sem] max2_int min2_int max_two min_two max_three min_three max_four min_four
set_option linter.unusedVariables false
set_option linter.unusedSimpArgs false
structure bJ where
 f : Nat → ByteArray → Int → Option ((List (S93)) × (List (S31)) × Bool × ByteArray × Int)
 mono : ∀ a0 a1 k, LeO (f k a0 a1) (f (k + 1) a0 a1)
 calls : ∀ (k : Nat) (g : Nat) (s0_0 : ByteArray) (s0_1 : Int) (r1 : List (S93)) (r2 : List (S31)) (r3 : Bool) (r4 : ByteArray) (r5 : Int) (w0 w : World) (hI : IsS50 w0 w g s0_0 s0_1) (hB : Below w0.heap.size w0 w) (h : f k s0_0 s0_1 = some (r1, r2, r3, r4, r5)),
  Calls Tryz.prog 39 #[.pointer (some ⟨g, 0, none⟩)] w fun e w' => ∃ v0_ v1_ : Value, e = .returned (.tuple #[v0_, v1_, .bool r3]) ∧ Kd.R k93 93 w' w.heap.size (fun _ => True) v0_ r1 ∧ Kd.R k31 31 w' w.heap.size (fun k_ => some k_ ≠ (v0_ : Value).ownBlock) v1_ r2 ∧ IsS50 w0 w' g r4 r5 ∧ Below w0.heap.size w0 w' ∧ KeepBut w w' g none
instance bJ.mi (V : bJ) {a0 a1 k} : LeI (V.f k a0 a1) (V.f (k + 1) a0 a1) := ⟨⟨V.mono a0 a1 k⟩⟩
structure bI where
 f : Nat → ByteArray → Int → Option ((List (S31)) × Bool × ByteArray × Int)
 mono : ∀ a0 a1 k, LeO (f k a0 a1) (f (k + 1) a0 a1)
 calls : ∀ (k : Nat) (g : Nat) (s0_0 : ByteArray) (s0_1 : Int) (r1 : List (S31)) (r2 : Bool) (r3 : ByteArray) (r4 : Int) (w0 w : World) (hI : IsS50 w0 w g s0_0 s0_1) (hB : Below w0.heap.size w0 w) (h : f k s0_0 s0_1 = some (r1, r2, r3, r4)),
  Calls Tryz.prog 40 #[.pointer (some ⟨g, 0, none⟩)] w fun e w' => ∃ v0_ : Value, e = .returned (.tuple #[v0_, .bool r2]) ∧ Kd.R k31 31 w' w.heap.size (fun _ => True) v0_ r1 ∧ IsS50 w0 w' g r3 r4 ∧ Below w0.heap.size w0 w' ∧ KeepBut w w' g none
instance bI.mi (V : bI) {a0 a1 k} : LeI (V.f k a0 a1) (V.f (k + 1) a0 a1) := ⟨⟨V.mono a0 a1 k⟩⟩
structure aI where
 f : Nat → ByteArray → Int → Option (Int × Int × Int × (List (S93)) × (List (S31)) × Bool × ByteArray × Int)
 mono : ∀ a0 a1 k, LeO (f k a0 a1) (f (k + 1) a0 a1)
 calls : ∀ (k : Nat) (g : Nat) (s0_0 : ByteArray) (s0_1 : Int) (r1 : Int) (r2 : Int) (r3 : Int) (r4 : List (S93)) (r5 : List (S31)) (r6 : Bool) (r7 : ByteArray) (r8 : Int) (w0 w : World) (hI : IsS50 w0 w g s0_0 s0_1) (hB : Below w0.heap.size w0 w) (h : f k s0_0 s0_1 = some (r1, r2, r3, r4, r5, r6, r7, r8)),
  Calls Tryz.prog 20 #[.pointer (some ⟨g, 0, none⟩)] w fun e w' => ∃ v3_ v4_ : Value, e = .returned (.tuple #[.agg #[.int .i64 r1, .int .i64 r2, .int .i64 r3, v3_, v4_], .bool r6]) ∧ Kd.R k93 93 w' w.heap.size (fun _ => True) v3_ r4 ∧ Kd.R k31 31 w' w.heap.size (fun k_ => some k_ ≠ (v3_ : Value).ownBlock) v4_ r5 ∧ IsS50 w0 w' g r7 r8 ∧ Below w0.heap.size w0 w' ∧ KeepBut w w' g none
mutual
def aD.l0 (aK : aI) : Nat → List (S93) → List (S31) → ByteArray → Int → Option ((List (S93)) × (List (S31)) × Bool × ByteArray × Int)
 | 0, _, _, _, _ => none
 | k + 1, x5, x6, cP, cJ => (bM.f cP cJ).bind fun bt132 => (if bt132.1 = 34 then ((aV.f k bt132.2.1 bt132.2.2).bind fun bt135 => (aD.j1 aK k x5 x6 cJ (!bt135.1) bt135.2.1 bt135.2.2)) else (aD.j1 aK k x5 x6 cJ true bt132.2.1 bt132.2.2))
def aD.j1 (aK : aI) : Nat → List (S93) → List (S31) → Int → Bool → ByteArray → Int → Option ((List (S93)) × (List (S31)) × Bool × ByteArray × Int)
 | 0, _, _, _, _, _, _ => none
 | k + 1, x5, x6, x7, x32, cP, cJ => if x32 = true then (some (([] : List (S93)), ([] : List (S31)), false, cP, cJ)) else (if x5.length < 8796093022208 then ((some (x5 ++ [(⟨x7, cJ⟩ : S93)] : List (S93))).bind fun nO => ((aE.f k cP cJ).bind fun bt141 => ((aW.f bt141.1 bt141.2 58).bind fun bt143 => (if bt143.1 = true then ((aE.f k bt143.2.1 bt143.2.2).bind fun bt146 => ((aK.f k bt146.1 bt146.2).bind fun bt148 => (if bt148.2.2.2.2.2.1 = true then (if x6.length < 1954687338268 then ((some (x6 ++ [(⟨bt148.1, bt148.2.1, bt148.2.2.1, bt148.2.2.2.1, bt148.2.2.2.2.1⟩ : S31)] : List (S31))).bind fun pU => ((aE.f k bt148.2.2.2.2.2.2.1 bt148.2.2.2.2.2.2.2).bind fun bt164 => ((aW.f bt164.1 bt164.2 125).bind fun bt166 => (if bt166.1 = true then (some (nO, pU, true, bt166.2.1, bt166.2.2)) else ((aW.f bt166.2.1 bt166.2.2 44).bind fun bt169 => (if bt169.1 = true then ((aE.f k bt169.2.1 bt169.2.2).bind fun bt172 => (aD.l0 aK k nO pU bt172.1 bt172.2)) else (some (([] : List (S93)), ([] : List (S31)), false, bt169.2.1, bt169.2.2)))))))) else (none)) else (some (([] : List (S93)), ([] : List (S31)), false, bt148.2.2.2.2.2.2.1, bt148.2.2.2.2.2.2.2))))) else (some (([] : List (S93)), ([] : List (S31)), false, bt143.2.1, bt143.2.2)))))) else (none))
end
def aD.f (aK : aI) (k : Nat) (s0_0 : ByteArray) (s0_1 : Int) : Option ((List (S93)) × (List (S31)) × Bool × ByteArray × Int) := (aE.f k s0_0 (wrap64 (s0_1 + 1))).bind fun bt127 => ((aW.f bt127.1 bt127.2 125).bind fun bt129 => (if bt129.1 = true then (some (([] : List (S93)), ([] : List (S31)), true, bt129.2.1, bt129.2.2)) else (aD.l0 aK k ([] : List (S93)) ([] : List (S31)) bt129.2.1 bt129.2.2)))
theorem aD.mono_l (aK : aI) : ∀ k, (∀ y0 y1 y2 y3, LeO (aD.l0 aK k y0 y1 y2 y3) (aD.l0 aK (k + 1) y0 y1 y2 y3)) ∧ (∀ y0 y1 y2 y3 y4 y5, LeO (aD.j1 aK k y0 y1 y2 y3 y4 y5) (aD.j1 aK (k + 1) y0 y1 y2 y3 y4 y5))
 | 0 => ⟨fun _ _ _ _ r h => by simp [aD.l0] at h, fun _ _ _ _ _ _ r h => by simp [aD.j1] at h⟩
 | k + 1 => by
  obtain ⟨ih0, ih1⟩ := aD.mono_l aK k
  refine ⟨?_, ?_⟩
  ·intro y0 y1 y2 y3
   unfold aD.l0
   repeat' first
   | (with_reducible exact ih0 _ _ _ _)
   | (with_reducible exact ih1 _ _ _ _ _ _)
   | (with_reducible exact aK.mono _ _ _)
   | (with_reducible exact aE.mono _ _ _)
   | (with_reducible exact aV.mono _ _ _)
   | (with_reducible exact LeO.refl _)
   | (with_reducible exact LeO.none _)
   | (with_reducible refine LeO.ite ?_ ?_)
   | (with_reducible refine LeO.bind ?_ (fun _ => ?_))
   | exact ih0 _ _ _ _
   | exact ih1 _ _ _ _ _ _
   | exact aK.mono _ _ _
   | exact aE.mono _ _ _
   | exact aV.mono _ _ _
   | exact LeO.none _
   | refine LeO.ite ?_ ?_
   | refine LeO.bind ?_ (fun _ => ?_)
  ·intro y0 y1 y2 y3 y4 y5
   unfold aD.j1
   repeat' first
   | (with_reducible exact ih0 _ _ _ _)
   | (with_reducible exact ih1 _ _ _ _ _ _)
   | (with_reducible exact aK.mono _ _ _)
   | (with_reducible exact aE.mono _ _ _)
   | (with_reducible exact aV.mono _ _ _)
   | (with_reducible exact LeO.refl _)
   | (with_reducible exact LeO.none _)
   | (with_reducible refine LeO.ite ?_ ?_)
   | (with_reducible refine LeO.bind ?_ (fun _ => ?_))
   | exact ih0 _ _ _ _
   | exact ih1 _ _ _ _ _ _
   | exact aK.mono _ _ _
   | exact aE.mono _ _ _
   | exact aV.mono _ _ _
   | exact LeO.none _
   | refine LeO.ite ?_ ?_
   | refine LeO.bind ?_ (fun _ => ?_)
theorem aD.mono (aK : aI) : ∀ a0 a1 k, LeO (aD.f aK k a0 a1) (aD.f aK (k + 1) a0 a1) := by
 intro a0 a1 k
 obtain ⟨ih0, ih1⟩ := aD.mono_l aK k
 unfold aD.f
 exact zM
instance aD.mi (aK : aI) {a0 a1 k} : LeI (aD.f aK k a0 a1) (aD.f aK (k + 1) a0 a1) := ⟨⟨aD.mono aK a0 a1 k⟩⟩
theorem aD.calls (aK : aI) (k : Nat) (g : Nat) (s0_0 : ByteArray) (s0_1 : Int) (r1 : List (S93)) (r2 : List (S31)) (r3 : Bool) (r4 : ByteArray) (r5 : Int) (w0 w : World) (hI : IsS50 w0 w g s0_0 s0_1) (hB : Below w0.heap.size w0 w) (h : aD.f aK k s0_0 s0_1 = some (r1, r2, r3, r4, r5)) :
 Calls Tryz.prog 39 #[.pointer (some ⟨g, 0, none⟩)] w fun e w' => ∃ v0_ v1_ : Value, e = .returned (.tuple #[v0_, v1_, .bool r3]) ∧ Kd.R k93 93 w' w.heap.size (fun _ => True) v0_ r1 ∧ Kd.R k31 31 w' w.heap.size (fun k_ => some k_ ≠ (v0_ : Value).ownBlock) v1_ r2 ∧ IsS50 w0 w' g r4 r5 ∧ Below w0.heap.size w0 w' ∧ KeepBut w w' g none := by
 have hu93 := Tryz.underlying93
 have hu31 := Tryz.underlying31
 have HI0 := ab hI
 have HK := ab (KeepBut.refl w g none)
 have HL := ab hB.size
 clear hI
 have HW0 := ab hB.size
 have HB := ab hB
 clear hB
 have H : ((aE.f k s0_0 (wrap64 (s0_1 + 1))).bind fun bt127 => ((aW.f bt127.1 bt127.2 125).bind fun bt129 => (if bt129.1 = true then (some (([] : List (S93)), ([] : List (S31)), true, bt129.2.1, bt129.2.2)) else (aD.l0 aK k ([] : List (S93)) ([] : List (S31)) bt129.2.1 bt129.2.2)))) = some (r1, r2, r3, r4, r5) := h
 clear h
 revert H; refine bnd ?_; rintro ⟨qH, Cj⟩ A2 H; try dsimp only at H
 revert H; refine bnd ?_; rintro ⟨arA, Gx, Gy⟩ A3 H; try dsimp only at H
 replace H := sB H
 obtain ⟨rfl, H⟩ | ⟨rfl, H⟩ := H
 ·focus
   simp only [am, an] at H
   obtain ⟨rfl, rfl, rfl, rfl, rfl⟩ := H
   obtain ⟨xY, xZ, yA, yB⟩ := cx_cellS50 HI0.out
   go_enter Tryz.func39, Tryz.ntmps39
   go_wp2_with (first | (refine gl 19 (some 18) Tryz.func19 #[.pointer (some ⟨g, 0, none⟩)] ?_; (with_reducible refine (aE.calls k g s0_0 (wrap64 (s0_1 + 1)) qH Cj w0 _ zI zE A2.out).mono ?_); rintro e w6 ⟨rfl, hi, hb, hk⟩; refine ⟨_, rfl, ?_⟩; replace HK := ab (KeepBut.trans (w := w) zK hk (.inl rfl)); replace HB := ab (hb); replace HI0 := ab (hi); clear hb hk hi) | (refine gl 56 (some 20) Tryz.func56 #[.pointer (some ⟨g, 0, none⟩), .int .u8 125] ?_; (with_reducible refine (aW.calls g qH Cj 125 true Gx Gy w0 _ zI zE A3.out).mono ?_); rintro e w7 ⟨rfl, hi, hb, hk⟩; refine ⟨_, rfl, ?_⟩; replace HK := ab (KeepBut.trans (w := w) zK hk (.inl rfl)); replace HB := ab (hb); replace HI0 := ab (hi); clear hb hk hi))
   go_ret3
   exact ⟨_, _, Z8, Z9, Z9, zI, zE, zK⟩
 have H' := ab H
 clear H
 obtain ⟨lS, lT, lU, lV⟩ := cx_cellS50 HI0.out
 go_enter Tryz.func39, Tryz.ntmps39
 go_wp2_with (first | (refine gl 19 (some 18) Tryz.func19 #[.pointer (some ⟨g, 0, none⟩)] ?_; (with_reducible refine (aE.calls k g s0_0 (wrap64 (s0_1 + 1)) qH Cj w0 _ zI zE A2.out).mono ?_); rintro e w9 ⟨rfl, hi, hb, hk⟩; refine ⟨_, rfl, ?_⟩; replace HK := ab (KeepBut.trans (w := w) zK hk (.inl rfl)); replace HB := ab (hb); replace HI0 := ab (hi); clear hb hk hi) | (refine gl 56 (some 20) Tryz.func56 #[.pointer (some ⟨g, 0, none⟩), .int .u8 125] ?_; (with_reducible refine (aW.calls g qH Cj 125 false Gx Gy w0 _ zI zE A3.out).mono ?_); rintro e w10 ⟨rfl, hi, hb, hk⟩; refine ⟨_, rfl, ?_⟩; replace HK := ab (KeepBut.trans (w := w) zK hk (.inl rfl)); replace HB := ab (hb); replace HI0 := ab (hi); clear hb hk hi))
 (try simp only [Act.put, ap, aq, ar])
 go_loopg [5, 6] k (fun kq v5 v6 w' => ∃ (bZ : List (S93)) (mM : List (S31)) (bW : ByteArray) (bL : Int), Aside0 (aD.l0 aK kq bZ mM bW bL = some (r1, r2, r3, r4, r5)) ∧ Aside0 (kq ≤ k) ∧ Aside0 (Kd.R k93 93 w' w.heap.size (fun _ => True) v5 bZ) ∧ Aside0 (Kd.R k31 31 w' w.heap.size (fun k_ => some k_ ≠ (v5 : Value).ownBlock) v6 mM) ∧ Aside0 (IsS50 w0 w' g bW bL) ∧ Aside0 (KeepBut w w' g none) ∧ Aside0 (Below w0.heap.size w0 w'))
 case atStart => exact ⟨(([] : List (S93))), (([] : List (S31))), (Gx), (Gy), H', ⟨Nat.le_refl _⟩, ⟨Z9⟩, ⟨Z9⟩, ⟨zI⟩, ⟨zK⟩, ⟨zE⟩⟩
 case round =>
  clear H'
  try clear lS lT lU lV
  obtain ⟨bZ, mM, bW, bL, HA, HK1, nP, gD, HI0, HK, HB⟩ := hrel
  cases gk with
  | zero => exact absurd HA.out (by simp [aD.l0])
  | succ k1 =>
   have H := HA.out
   clear HA
   simp only [aD.l0] at H
   have rH := ab H
   clear H
   obtain ⟨kZ, lA, lB, lC⟩ := cx_cellS50 HI0.out
   go_upto_region 8 with (fail)
   go_cut [32] (fun v32 wc => ∃ (kq : Nat) (rP : Bool) (iE : ByteArray) (eN : Int), v32 = .bool rP ∧ Aside0 (aD.j1 aK kq bZ mM bL rP iE eN = some (r1, r2, r3, r4, r5)) ∧ Aside0 (kq ≤ k1) ∧ Aside0 (Kd.R k93 93 wc w.heap.size (fun _ => True) u5 bZ) ∧ Aside0 (Kd.R k31 31 wc w.heap.size (fun k_ => some k_ ≠ (u5 : Value).ownBlock) u6 mM) ∧ Aside0 (IsS50 w0 wc g iE eN) ∧ Aside0 (KeepBut w wc g none) ∧ Aside0 (Below w0.heap.size w0 wc))
   case first =>
    have H := rH.out
    clear rH
    revert H; refine bnd ?_; rintro ⟨agT, nM, nN⟩ yZ H; try dsimp only at H
    revert H; refine sIe1n0_e0n1 (fun fY kD H => ?_) fun fY kD H => ?_
    ·(first | rw [fY] | (simp only [i64_w, i32_w]; rw [fY]) | skip)
     revert H; refine bnd ?_; rintro ⟨nW, Mw, Mx⟩ Fa H; try dsimp only at H
     focus
      have H' := ab H
      clear H
      exact Z12
    (first | rw [fY] | (simp only [i64_w, i32_w]; rw [fY]) | skip)
    focus
     have H' := ab H
     clear H
     exact Z12
   case rest =>
    clear rH
    try clear kZ lA lB lC
    obtain ⟨kq, rP, iE, eN, rfl, HA, HJ10, nP, gD, HI0, HK, HB⟩ := hcut
    cases kq with
    | zero => exact absurd HA.out (by simp [aD.j1])
    | succ kj10 =>
     have H := HA.out
     clear HA
     simp only [aD.j1] at H
     replace H := sB H
     obtain ⟨rfl, H⟩ | ⟨rfl, H⟩ := H
     ·focus
       simp only [am, an] at H
       obtain ⟨rfl, rfl, rfl, rfl, rfl⟩ := H
       go_wp2
       go_ret3
       exact ⟨_, _, Z8, Z9, Z9, zI, zE, zK⟩
     revert H; refine sNk fun c20 H => ?_
     have My := ab c20
     clear c20
     obtain ⟨nO, hy138⟩ : ∃ y_ : List (S93), y_ = (bZ ++ [(⟨bL, eN⟩ : S93)]) := ⟨_, rfl⟩
     replace H : ((aE.f kj10 iE eN).bind fun bt141 => ((aW.f bt141.1 bt141.2 58).bind fun bt143 => (if bt143.1 = true then ((aE.f kj10 bt143.2.1 bt143.2.2).bind fun bt146 => ((aK.f kj10 bt146.1 bt146.2).bind fun bt148 => (if bt148.2.2.2.2.2.1 = true then (if mM.length < 1954687338268 then ((some (mM ++ [(⟨bt148.1, bt148.2.1, bt148.2.2.1, bt148.2.2.2.1, bt148.2.2.2.2.1⟩ : S31)] : List (S31))).bind fun pU => ((aE.f kj10 bt148.2.2.2.2.2.2.1 bt148.2.2.2.2.2.2.2).bind fun bt164 => ((aW.f bt164.1 bt164.2 125).bind fun bt166 => (if bt166.1 = true then (some (nO, pU, true, bt166.2.1, bt166.2.2)) else ((aW.f bt166.2.1 bt166.2.2 44).bind fun bt169 => (if bt169.1 = true then ((aE.f kj10 bt169.2.1 bt169.2.2).bind fun bt172 => (aD.l0 aK kj10 nO pU bt172.1 bt172.2)) else (some (([] : List (S93)), ([] : List (S31)), false, bt169.2.1, bt169.2.2)))))))) else (none)) else (some (([] : List (S93)), ([] : List (S31)), false, bt148.2.2.2.2.2.2.1, bt148.2.2.2.2.2.2.2))))) else (some (([] : List (S93)), ([] : List (S31)), false, bt143.2.1, bt143.2.2))))) = some (r1, r2, r3, r4, r5) := by first | (rw [hy138]; with_reducible exact H) | (have H2_ := (al _ _).symm.trans H; rw [hy138]; with_reducible exact H2_) | (have H2_ := (al _ _).symm.trans H; with_reducible exact H2_) | with_reducible exact H | (rw [hy138]; exact H) | exact H
     have Mz := ab hy138
     clear hy138
     revert H; refine bnd ?_; rintro ⟨rQ, rR⟩ Hx H; try dsimp only at H
     revert H; refine bnd ?_; rintro ⟨afA, yD, vI⟩ Qu H; try dsimp only at H
     replace H := sB H
     obtain ⟨rfl, H⟩ | ⟨rfl, H⟩ := H
     ·revert H; refine bnd ?_; rintro ⟨rS, rT⟩ A24 H; try dsimp only at H
      revert H; refine bnd ?_; rintro ⟨jW, jX, jY, fH, gW, arB, nQ, nR⟩ Qv H; try dsimp only at H
      replace H := sB H
      obtain ⟨rfl, H⟩ | ⟨rfl, H⟩ := H
      ·revert H; refine sNk fun c27 H => ?_
       have Na := ab c27
       clear c27
       obtain ⟨pU, hy161⟩ : ∃ y_ : List (S31), y_ = (mM ++ [(⟨jW, jX, jY, fH, gW⟩ : S31)]) := ⟨_, rfl⟩
       replace H : ((aE.f kj10 nQ nR).bind fun bt164 => ((aW.f bt164.1 bt164.2 125).bind fun bt166 => (if bt166.1 = true then (some (nO, pU, true, bt166.2.1, bt166.2.2)) else ((aW.f bt166.2.1 bt166.2.2 44).bind fun bt169 => (if bt169.1 = true then ((aE.f kj10 bt169.2.1 bt169.2.2).bind fun bt172 => (aD.l0 aK kj10 nO pU bt172.1 bt172.2)) else (some (([] : List (S93)), ([] : List (S31)), false, bt169.2.1, bt169.2.2))))))) = some (r1, r2, r3, r4, r5) := by first | (rw [hy161]; with_reducible exact H) | (have H2_ := (al _ _).symm.trans H; rw [hy161]; with_reducible exact H2_) | (have H2_ := (al _ _).symm.trans H; with_reducible exact H2_) | with_reducible exact H | (rw [hy161]; exact H) | exact H
       have Nb := ab hy161
       clear hy161
       revert H; refine bnd ?_; rintro ⟨rU, rV⟩ yY H; try dsimp only at H
       revert H; refine bnd ?_; rintro ⟨arC, oL, mZ⟩ Ht H; try dsimp only at H
       replace H := sB H
       obtain ⟨rfl, H⟩ | ⟨rfl, H⟩ := H
       ·focus
         simp only [am, an] at H
         obtain ⟨rfl, rfl, rfl, rfl, rfl⟩ := H
         obtain ⟨Uh, Ui, Uj, Uk⟩ := cx_cellS50 HI0.out
         exact Z0
       revert H; refine bnd ?_; rintro ⟨arD, yE, vJ⟩ Ug H; try dsimp only at H
       replace H := sB H
       obtain ⟨rfl, H⟩ | ⟨rfl, H⟩ := H
       ·revert H; refine bnd ?_; rintro ⟨Nc, Ga⟩ A49 H; try dsimp only at H
        focus
         have H' := ab H
         clear H
         obtain ⟨pV, pW, pX, pY⟩ := cx_cellS50 HI0.out
         exact Z0
       focus
        simp only [am, an] at H
        obtain ⟨rfl, rfl, rfl, rfl, rfl⟩ := H
        obtain ⟨Ck, Cl, Cm, Cn⟩ := cx_cellS50 HI0.out
        exact Z0
      focus
       simp only [am, an] at H
       obtain ⟨rfl, rfl, rfl, rfl, rfl⟩ := H
       obtain ⟨Ul, Um, Un, Uo⟩ := cx_cellS50 HI0.out
       exact Z0
     focus
      simp only [am, an] at H
      obtain ⟨rfl, rfl, rfl, rfl, rfl⟩ := H
      obtain ⟨Up, Uq, Ur, Ut⟩ := cx_cellS50 HI0.out
      exact Z0
def aU.l0 (aK : aI) : Nat → List (S31) → ByteArray → Int → Option ((List (S31)) × Bool × ByteArray × Int)
 | 0, _, _, _ => none
 | k + 1, x4, cP, cJ => (aK.f k cP cJ).bind fun bt179 => (if bt179.2.2.2.2.2.1 = true then (if x4.length < 1954687338268 then ((some (x4 ++ [(⟨bt179.1, bt179.2.1, bt179.2.2.1, bt179.2.2.2.1, bt179.2.2.2.2.1⟩ : S31)] : List (S31))).bind fun vS => ((aE.f k bt179.2.2.2.2.2.2.1 bt179.2.2.2.2.2.2.2).bind fun bt195 => ((aW.f bt195.1 bt195.2 93).bind fun bt197 => (if bt197.1 = true then (some (vS, true, bt197.2.1, bt197.2.2)) else ((aW.f bt197.2.1 bt197.2.2 44).bind fun bt200 => (if bt200.1 = true then ((aE.f k bt200.2.1 bt200.2.2).bind fun bt203 => (aU.l0 aK k vS bt203.1 bt203.2)) else (some (([] : List (S31)), false, bt200.2.1, bt200.2.2)))))))) else (none)) else (some (([] : List (S31)), false, bt179.2.2.2.2.2.2.1, bt179.2.2.2.2.2.2.2)))
def aU.f (aK : aI) (k : Nat) (s0_0 : ByteArray) (s0_1 : Int) : Option ((List (S31)) × Bool × ByteArray × Int) := (aE.f k s0_0 (wrap64 (s0_1 + 1))).bind fun bt174 => ((aW.f bt174.1 bt174.2 93).bind fun bt176 => (if bt176.1 = true then (some (([] : List (S31)), true, bt176.2.1, bt176.2.2)) else (aU.l0 aK k ([] : List (S31)) bt176.2.1 bt176.2.2)))
theorem aU.mono_l (aK : aI) : ∀ k, (∀ y0 y1 y2, LeO (aU.l0 aK k y0 y1 y2) (aU.l0 aK (k + 1) y0 y1 y2))
 | 0 => fun _ _ _ r h => by simp [aU.l0] at h
 | k + 1 => by
  have ih0 := aU.mono_l aK k
  ·intro y0 y1 y2
   unfold aU.l0
   repeat' first
   | (with_reducible exact ih0 _ _ _)
   | (with_reducible exact aK.mono _ _ _)
   | (with_reducible exact aE.mono _ _ _)
   | (with_reducible exact LeO.refl _)
   | (with_reducible exact LeO.none _)
   | (with_reducible refine LeO.ite ?_ ?_)
   | (with_reducible refine LeO.bind ?_ (fun _ => ?_))
   | exact ih0 _ _ _
   | exact aK.mono _ _ _
   | exact aE.mono _ _ _
   | exact LeO.none _
   | refine LeO.ite ?_ ?_
   | refine LeO.bind ?_ (fun _ => ?_)
theorem aU.mono (aK : aI) : ∀ a0 a1 k, LeO (aU.f aK k a0 a1) (aU.f aK (k + 1) a0 a1) := by
 intro a0 a1 k
 have ih0 := aU.mono_l aK k
 unfold aU.f
 exact zM
instance aU.mi (aK : aI) {a0 a1 k} : LeI (aU.f aK k a0 a1) (aU.f aK (k + 1) a0 a1) := ⟨⟨aU.mono aK a0 a1 k⟩⟩
theorem aU.calls (aK : aI) (k : Nat) (g : Nat) (s0_0 : ByteArray) (s0_1 : Int) (r1 : List (S31)) (r2 : Bool) (r3 : ByteArray) (r4 : Int) (w0 w : World) (hI : IsS50 w0 w g s0_0 s0_1) (hB : Below w0.heap.size w0 w) (h : aU.f aK k s0_0 s0_1 = some (r1, r2, r3, r4)) :
 Calls Tryz.prog 40 #[.pointer (some ⟨g, 0, none⟩)] w fun e w' => ∃ v0_ : Value, e = .returned (.tuple #[v0_, .bool r2]) ∧ Kd.R k31 31 w' w.heap.size (fun _ => True) v0_ r1 ∧ IsS50 w0 w' g r3 r4 ∧ Below w0.heap.size w0 w' ∧ KeepBut w w' g none := by
 have hu31 := Tryz.underlying31
 have HI0 := ab hI
 have HK := ab (KeepBut.refl w g none)
 have HL := ab hB.size
 clear hI
 have HW0 := ab hB.size
 have HB := ab hB
 clear hB
 have H : ((aE.f k s0_0 (wrap64 (s0_1 + 1))).bind fun bt174 => ((aW.f bt174.1 bt174.2 93).bind fun bt176 => (if bt176.1 = true then (some (([] : List (S31)), true, bt176.2.1, bt176.2.2)) else (aU.l0 aK k ([] : List (S31)) bt176.2.1 bt176.2.2)))) = some (r1, r2, r3, r4) := h
 clear h
 revert H; refine bnd ?_; rintro ⟨Co, Cp⟩ A2 H; try dsimp only at H
 revert H; refine bnd ?_; rintro ⟨arF, Gz, Ha⟩ A3 H; try dsimp only at H
 replace H := sB H
 obtain ⟨rfl, H⟩ | ⟨rfl, H⟩ := H
 ·focus
   simp only [am, an] at H
   obtain ⟨rfl, rfl, rfl, rfl⟩ := H
   obtain ⟨xY, xZ, yA, yB⟩ := cx_cellS50 HI0.out
   go_enter Tryz.func40, Tryz.ntmps40
   go_wp2_with (first | (refine gl 19 (some 15) Tryz.func19 #[.pointer (some ⟨g, 0, none⟩)] ?_; (with_reducible refine (aE.calls k g s0_0 (wrap64 (s0_1 + 1)) Co Cp w0 _ zI zE A2.out).mono ?_); rintro e w6 ⟨rfl, hi, hb, hk⟩; refine ⟨_, rfl, ?_⟩; replace HK := ab (KeepBut.trans (w := w) zK hk (.inl rfl)); replace HB := ab (hb); replace HI0 := ab (hi); clear hb hk hi) | (refine gl 56 (some 17) Tryz.func56 #[.pointer (some ⟨g, 0, none⟩), .int .u8 93] ?_; (with_reducible refine (aW.calls g Co Cp 93 true Gz Ha w0 _ zI zE A3.out).mono ?_); rintro e w7 ⟨rfl, hi, hb, hk⟩; refine ⟨_, rfl, ?_⟩; replace HK := ab (KeepBut.trans (w := w) zK hk (.inl rfl)); replace HB := ab (hb); replace HI0 := ab (hi); clear hb hk hi))
   go_ret2
   exact ⟨_, Z8, Z9, zI, zE, zK⟩
 have H' := ab H
 clear H
 obtain ⟨lS, lT, lU, lV⟩ := cx_cellS50 HI0.out
 go_enter Tryz.func40, Tryz.ntmps40
 go_wp2_with (first | (refine gl 19 (some 15) Tryz.func19 #[.pointer (some ⟨g, 0, none⟩)] ?_; (with_reducible refine (aE.calls k g s0_0 (wrap64 (s0_1 + 1)) Co Cp w0 _ zI zE A2.out).mono ?_); rintro e w9 ⟨rfl, hi, hb, hk⟩; refine ⟨_, rfl, ?_⟩; replace HK := ab (KeepBut.trans (w := w) zK hk (.inl rfl)); replace HB := ab (hb); replace HI0 := ab (hi); clear hb hk hi) | (refine gl 56 (some 17) Tryz.func56 #[.pointer (some ⟨g, 0, none⟩), .int .u8 93] ?_; (with_reducible refine (aW.calls g Co Cp 93 false Gz Ha w0 _ zI zE A3.out).mono ?_); rintro e w10 ⟨rfl, hi, hb, hk⟩; refine ⟨_, rfl, ?_⟩; replace HK := ab (KeepBut.trans (w := w) zK hk (.inl rfl)); replace HB := ab (hb); replace HI0 := ab (hi); clear hb hk hi))
 (try simp only [Act.put, ap, aq, ar])
 go_loopg [4] k (fun kq v4 w' => ∃ (cZ : List (S31)) (bW : ByteArray) (bL : Int), Aside0 (aU.l0 aK kq cZ bW bL = some (r1, r2, r3, r4)) ∧ Aside0 (kq ≤ k) ∧ Aside0 (Kd.R k31 31 w' w.heap.size (fun _ => True) v4 cZ) ∧ Aside0 (IsS50 w0 w' g bW bL) ∧ Aside0 (KeepBut w w' g none) ∧ Aside0 (Below w0.heap.size w0 w'))
 case atStart => exact ⟨(([] : List (S31))), (Gz), (Ha), H', ⟨Nat.le_refl _⟩, ⟨Z9⟩, ⟨zI⟩, ⟨zK⟩, ⟨zE⟩⟩
 case round =>
  clear H'
  try clear lS lT lU lV
  obtain ⟨cZ, bW, bL, HA, HK1, lD, HI0, HK, HB⟩ := hrel
  cases gk with
  | zero => exact absurd HA.out (by simp [aU.l0])
  | succ k1 =>
   have H := HA.out
   clear HA
   simp only [aU.l0] at H
   revert H; refine bnd ?_; rintro ⟨kO, kP, kQ, gF, hY, arG, nZ, oA⟩ lZ H; try dsimp only at H
   replace H := sB H
   obtain ⟨rfl, H⟩ | ⟨rfl, H⟩ := H
   ·revert H; refine sNk fun c13 H => ?_
    have Nd := ab c13
    clear c13
    obtain ⟨vS, hy192⟩ : ∃ y_ : List (S31), y_ = (cZ ++ [(⟨kO, kP, kQ, gF, hY⟩ : S31)]) := ⟨_, rfl⟩
    replace H : ((aE.f k1 nZ oA).bind fun bt195 => ((aW.f bt195.1 bt195.2 93).bind fun bt197 => (if bt197.1 = true then (some (vS, true, bt197.2.1, bt197.2.2)) else ((aW.f bt197.2.1 bt197.2.2 44).bind fun bt200 => (if bt200.1 = true then ((aE.f k1 bt200.2.1 bt200.2.2).bind fun bt203 => (aU.l0 aK k1 vS bt203.1 bt203.2)) else (some (([] : List (S31)), false, bt200.2.1, bt200.2.2))))))) = some (r1, r2, r3, r4) := by first | (rw [hy192]; with_reducible exact H) | (have H2_ := (al _ _).symm.trans H; rw [hy192]; with_reducible exact H2_) | (have H2_ := (al _ _).symm.trans H; with_reducible exact H2_) | with_reducible exact H | (rw [hy192]; exact H) | exact H
    have Nf := ab hy192
    clear hy192
    revert H; refine bnd ?_; rintro ⟨yF, yG⟩ Gb H; try dsimp only at H
    revert H; refine bnd ?_; rintro ⟨arH, vT, vU⟩ Fa H; try dsimp only at H
    replace H := sB H
    obtain ⟨rfl, H⟩ | ⟨rfl, H⟩ := H
    ·focus
      simp only [am, an] at H
      obtain ⟨rfl, rfl, rfl, rfl⟩ := H
      exact Z1
    revert H; refine bnd ?_; rintro ⟨arI, Cq, Cr⟩ yY H; try dsimp only at H
    replace H := sB H
    obtain ⟨rfl, H⟩ | ⟨rfl, H⟩ := H
    ·revert H; refine bnd ?_; rintro ⟨Ng, Nh⟩ A30 H; try dsimp only at H
     focus
      have H' := ab H
      clear H
      exact Z1
    focus
     simp only [am, an] at H
     obtain ⟨rfl, rfl, rfl, rfl⟩ := H
     exact Z1
   focus
    simp only [am, an] at H
    obtain ⟨rfl, rfl, rfl, rfl⟩ := H
    exact Z1
def aA.j0 (bE : bJ) (bC : bI) : Nat → Bool → Bool → ByteArray → Int → Int → Int → Int → Option (Int × Int × Int × (List (S93)) × (List (S31)) × Bool × ByteArray × Int)
 | 0, _, _, _, _, _, _, _ => none
 | k + 1, x5, x42, cP, cJ, Ct, lE, Uu => if x42 = true then ((aC.f k cP cJ).bind fun bt267 => (some (3, lE, bt267.2.2, ([] : List (S93)), ([] : List (S31)), bt267.1, bt267.2.1, bt267.2.2))) else ((bN.f cP cJ (⟨#[110, 117, 108, 108]⟩ : ByteArray)).bind fun bt270 => (if bt270.1 = true then (some (0, lE, bt270.2.2, ([] : List (S93)), ([] : List (S31)), x5, bt270.2.1, bt270.2.2)) else ((bN.f bt270.2.1 bt270.2.2 (⟨#[102, 97, 108, 115, 101]⟩ : ByteArray)).bind fun bt273 => (if bt273.1 = true then (some (1, lE, bt273.2.2, ([] : List (S93)), ([] : List (S31)), x5, bt273.2.1, bt273.2.2)) else ((bN.f bt273.2.1 bt273.2.2 (⟨#[116, 114, 117, 101]⟩ : ByteArray)).bind fun bt276 => (if bt276.1 = true then (some (2, lE, bt276.2.2, ([] : List (S93)), ([] : List (S31)), x5, bt276.2.1, bt276.2.2)) else (some (Ct, lE, bt276.2.2, ([] : List (S93)), ([] : List (S31)), false, bt276.2.1, bt276.2.2))))))))
def aA.f (bE : bJ) (bC : bI) (k : Nat) (s0_0 : ByteArray) (s0_1 : Int) : Option (Int × Int × Int × (List (S93)) × (List (S31)) × Bool × ByteArray × Int) := (bM.f s0_0 s0_1).bind fun bt246 => (if bt246.1 = 123 then ((bE.f k bt246.2.1 bt246.2.2).bind fun bt249 => (some (6, s0_1, bt249.2.2.2.2, bt249.1, bt249.2.1, bt249.2.2.1, bt249.2.2.2.1, bt249.2.2.2.2))) else (if bt246.1 = 91 then ((bC.f k bt246.2.1 bt246.2.2).bind fun bt258 => (some (5, s0_1, bt258.2.2.2, ([] : List (S93)), bt258.1, bt258.2.1, bt258.2.2.1, bt258.2.2.2))) else (if bt246.1 = 34 then ((aV.f k bt246.2.1 bt246.2.2).bind fun bt264 => (some (4, s0_1, bt264.2.2, ([] : List (S93)), ([] : List (S31)), bt264.1, bt264.2.1, bt264.2.2))) else (if bt246.1 = 45 then (aA.j0 bE bC k true true bt246.2.1 bt246.2.2 0 s0_1 0) else (if 48 ≤ bt246.1 then (aA.j0 bE bC k true (decide (bt246.1 ≤ 57)) bt246.2.1 bt246.2.2 0 s0_1 0) else (aA.j0 bE bC k true false bt246.2.1 bt246.2.2 0 s0_1 0))))))
theorem aA.mono_l (bE : bJ) (bC : bI) : ∀ k, (∀ y0 y1 y2 y3 y4 y5 y6, LeO (aA.j0 bE bC k y0 y1 y2 y3 y4 y5 y6) (aA.j0 bE bC (k + 1) y0 y1 y2 y3 y4 y5 y6))
 | 0 => fun _ _ _ _ _ _ _ r h => by simp [aA.j0] at h
 | k + 1 => by
  have ih0 := aA.mono_l bE bC k
  ·intro y0 y1 y2 y3 y4 y5 y6
   unfold aA.j0
   repeat' first
   | (with_reducible exact ih0 _ _ _ _ _ _ _)
   | (with_reducible exact bC.mono _ _ _)
   | (with_reducible exact bE.mono _ _ _)
   | (with_reducible exact aC.mono _ _ _)
   | (with_reducible exact aV.mono _ _ _)
   | (with_reducible exact LeO.refl _)
   | (with_reducible exact LeO.none _)
   | (with_reducible refine LeO.ite ?_ ?_)
   | (with_reducible refine LeO.bind ?_ (fun _ => ?_))
   | exact ih0 _ _ _ _ _ _ _
   | exact bC.mono _ _ _
   | exact bE.mono _ _ _
   | exact aC.mono _ _ _
   | exact aV.mono _ _ _
   | exact LeO.none _
   | refine LeO.ite ?_ ?_
   | refine LeO.bind ?_ (fun _ => ?_)
theorem aA.mono (bE : bJ) (bC : bI) : ∀ a0 a1 k, LeO (aA.f bE bC k a0 a1) (aA.f bE bC (k + 1) a0 a1) := by
 intro a0 a1 k
 have ih0 := aA.mono_l bE bC k
 unfold aA.f
 exact zM
theorem aA.calls (bE : bJ) (bC : bI) (k : Nat) (g : Nat) (s0_0 : ByteArray) (s0_1 : Int) (r1 : Int) (r2 : Int) (r3 : Int) (r4 : List (S93)) (r5 : List (S31)) (r6 : Bool) (r7 : ByteArray) (r8 : Int) (w0 w : World) (hI : IsS50 w0 w g s0_0 s0_1) (hB : Below w0.heap.size w0 w) (h : aA.f bE bC k s0_0 s0_1 = some (r1, r2, r3, r4, r5, r6, r7, r8)) :
 Calls Tryz.prog 20 #[.pointer (some ⟨g, 0, none⟩)] w fun e w' => ∃ v3_ v4_ : Value, e = .returned (.tuple #[.agg #[.int .i64 r1, .int .i64 r2, .int .i64 r3, v3_, v4_], .bool r6]) ∧ Kd.R k93 93 w' w.heap.size (fun _ => True) v3_ r4 ∧ Kd.R k31 31 w' w.heap.size (fun k_ => some k_ ≠ (v3_ : Value).ownBlock) v4_ r5 ∧ IsS50 w0 w' g r7 r8 ∧ Below w0.heap.size w0 w' ∧ KeepBut w w' g none := by
 have hu31 := Tryz.underlying31
 have HI0 := ab hI
 have HK := ab (KeepBut.refl w g none)
 have HL := ab hB.size
 clear hI
 have HW0 := ab hB.size
 have HB := ab hB
 clear hB
 have H : ((bM.f s0_0 s0_1).bind fun bt246 => (if bt246.1 = 123 then ((bE.f k bt246.2.1 bt246.2.2).bind fun bt249 => (some (6, s0_1, bt249.2.2.2.2, bt249.1, bt249.2.1, bt249.2.2.1, bt249.2.2.2.1, bt249.2.2.2.2))) else (if bt246.1 = 91 then ((bC.f k bt246.2.1 bt246.2.2).bind fun bt258 => (some (5, s0_1, bt258.2.2.2, ([] : List (S93)), bt258.1, bt258.2.1, bt258.2.2.1, bt258.2.2.2))) else (if bt246.1 = 34 then ((aV.f k bt246.2.1 bt246.2.2).bind fun bt264 => (some (4, s0_1, bt264.2.2, ([] : List (S93)), ([] : List (S31)), bt264.1, bt264.2.1, bt264.2.2))) else (if bt246.1 = 45 then (aA.j0 bE bC k true true bt246.2.1 bt246.2.2 0 s0_1 0) else (if 48 ≤ bt246.1 then (aA.j0 bE bC k true (decide (bt246.1 ≤ 57)) bt246.2.1 bt246.2.2 0 s0_1 0) else (aA.j0 bE bC k true false bt246.2.1 bt246.2.2 0 s0_1 0))))))) = some (r1, r2, r3, r4, r5, r6, r7, r8) := h
 clear h
 revert H; refine bnd ?_; rintro ⟨Hb, oB, oC⟩ A2 H; try dsimp only at H
 revert H; refine sIe1n0_e0n1k (fun dY kR H => ?_) fun dY kR c3 H => ?_
 ·revert H; refine bnd ?_; rintro ⟨vV, vW, agU, agV, vX⟩ A4 H; try dsimp only at H
  focus
   simp only [am, an] at H
   obtain ⟨rfl, rfl, rfl, rfl, rfl, rfl, rfl, rfl⟩ := H
   exact Z4
 revert H; refine sIe1n0_e0n1k (fun oF qL H => ?_) fun oF qL c20 H => ?_
 ·revert H; refine bnd ?_; rintro ⟨Cu, agW, agX, Cv⟩ Hx H; try dsimp only at H
  focus
   simp only [am, an] at H
   obtain ⟨rfl, rfl, rfl, rfl, rfl, rfl, rfl, rfl⟩ := H
   exact Z4
 revert H; refine sIe1n0_e0n1k (fun nB nC H => ?_) fun nB nC c36 H => ?_
 ·revert H; refine bnd ?_; rintro ⟨agY, agZ, Ni⟩ A37 H; try dsimp only at H
  focus
   simp only [am, an] at H
   obtain ⟨rfl, rfl, rfl, rfl, rfl, rfl, rfl, rfl⟩ := H
   exact Z4
 have Hc := ab H
 clear H
 go_enter Tryz.func20, Tryz.ntmps20
 go_upto_region 14 with (first | (refine aw 2 #[.int .i64 0, .int .i64 0, .int .i64 0, .slice none 0 0, .slice none 0 0] 31 ?_; intro cF hg w52 hbox hb; replace HB := ab (below_step (w := w0) zE hb); have eK := ab (hbox); have yH := ab ((by rw [hg]; exact (keep_size (w := w) (g := g) (row := none) zK) : w.heap.size ≤ cF)); have Nj := ab (Nat.le_trans HW0.out yH.out); replace HK := ab (KeepBut.trans (w := w) zK (KeepBut.of_below hb g none) (.inl rfl)); have hZ : Aside0 (g ≠ cF) := ⟨Z58⟩; have dE : Aside0 (cF ≠ g) := ⟨Z59⟩; replace HI0 := ab (IsS50.below zI hb); clear hb hbox hg; obtain ⟨tE, tF, tG, tH⟩ := cx_cellS50 HI0.out) | (refine aw 4 #[.int .i64 0, .int .i64 0, .int .i64 0, .slice none 0 0, .slice none 0 0] 31 ?_; intro dD hg w54 hbox hb; replace HB := ab (below_step (w := w0) zE hb); have eD := ab (hbox); have yI := ab ((by rw [hg]; exact (keep_size (w := w) (g := g) (row := none) zK) : w.heap.size ≤ dD)); have Nk := ab (Nat.le_trans HW0.out yI.out); replace HK := ab (KeepBut.trans (w := w) zK (KeepBut.of_below hb g none) (.inl rfl)); have fN : Aside0 (cF ≠ dD) := ⟨by rw [hg]; exact Nat.ne_of_lt (blk_lt (g := cF) zC)⟩; have fO : Aside0 (dD ≠ cF) := ⟨by rw [hg]; exact Nat.ne_of_gt (blk_lt (g := cF) zC)⟩; replace eK := ab (blk_below (g := cF) zC hb); have iK : Aside0 (g ≠ dD) := ⟨Z58⟩; have dH : Aside0 (dD ≠ g) := ⟨Z59⟩; replace HI0 := ab (IsS50.below zI hb); clear hb hbox hg; have Nl := fO.out; have Nm := fN.out; have Nn := dH.out; have Np := iK.out; obtain ⟨uK, uL, uM, uN, uO, uP, uQ, uR, uS, uT⟩ := cz5 eD.out) | (refine gl 38 (some 13) Tryz.func38 #[.pointer (some ⟨g, 0, none⟩)] ?_; (with_reducible refine (bM.calls g s0_0 s0_1 Hb oB oC w0 _ zI zE A2.out).mono ?_); rintro e w58 ⟨rfl, hi, hb, hk⟩; refine ⟨_, rfl, ?_⟩; replace eK := ab (KeepBut.blk hk (g' := cF) zC dE.out (by simp)); replace eD := ab (KeepBut.blk hk (g' := dD) (o := .cells #[.int .i64 0, .int .i64 s0_1, .int .i64 0, .slice none 0 0, .slice none 0 0] 31 (0, 0)) zC dH.out (by simp)); replace HK := ab (KeepBut.trans (w := w) zK hk (.inl rfl)); replace HB := ab (hb); replace HI0 := ab (hi); clear hb hk hi))
 (try simp only [Act.put, ap, aq, ar])
 go_cut [42] (fun v42 wc => ∃ (kq : Nat) (rW : Bool), v42 = .bool rW ∧ Aside0 (aA.j0 bE bC kq true rW oB oC 0 s0_1 0 = some (r1, r2, r3, r4, r5, r6, r7, r8)) ∧ Aside0 (kq ≤ k) ∧ Aside0 (wc.heap[cF]? = some (.cells #[.int .i64 0, .int .i64 0, .int .i64 0, (.slice none 0 0), (.slice none 0 0)] 31 (0, 0))) ∧ Aside0 (wc.heap[dD]? = some (.cells #[.int .i64 0, .int .i64 s0_1, .int .i64 0, (.slice none 0 0), (.slice none 0 0)] 31 (0, 0))) ∧ Aside0 (IsS50 w0 wc g oB oC) ∧ Aside0 (KeepBut w wc g none) ∧ Aside0 (Below w0.heap.size w0 wc))
 case first =>
  have H := Hc.out
  clear Hc
  revert H; refine sIe1n0_e0n1 (fun qR Nq H => ?_) fun qR Nq H => ?_
  ·(first | rw [qR] | (simp only [i64_w, i32_w]; rw [qR]) | skip)
   focus
    have H' := ab H
    clear H
    go_wp2
    go_meet
    case rel => exact ⟨_, (true), Z7, H', ⟨Z26⟩, ⟨zC⟩, ⟨zC⟩, ⟨zI⟩, ⟨zK⟩, ⟨zE⟩⟩
  (first | rw [qR] | (simp only [i64_w, i32_w]; rw [qR]) | skip)
  revert H; refine sId1_d0 (fun Nr H => ?_) fun Nr H => ?_
  ·focus
    have H' := ab H
    clear H
    go_wp2
    go_meet
    case rel => exact ⟨_, (decide (Hb ≤ 57)), Z7, H', ⟨Z26⟩, ⟨zC⟩, ⟨zC⟩, ⟨zI⟩, ⟨zK⟩, ⟨zE⟩⟩
  focus
   have H' := ab H
   clear H
   go_wp2
   go_meet
   case rel => exact ⟨_, (false), Z7, H', ⟨Z26⟩, ⟨zC⟩, ⟨zC⟩, ⟨zI⟩, ⟨zK⟩, ⟨zE⟩⟩
 case rest =>
  clear Hc
  try clear c3 dY kR c20 oF qL c36 nB nC tE tF uK uL uM uN uO tG tH uP uQ uR uS uT
  obtain ⟨kq, rW, rfl, HA, HJ50, eK, eD, HI0, HK, HB⟩ := hcut
  cases kq with
  | zero => exact absurd HA.out (by simp [aA.j0])
  | succ kj50 =>
   have H := HA.out
   clear HA
   simp only [aA.j0] at H
   replace H := sB H
   obtain ⟨rfl, H⟩ | ⟨rfl, H⟩ := H
   ·revert H; refine bnd ?_; rintro ⟨ahA, ahB, Ns⟩ A62 H; try dsimp only at H
    focus
     simp only [am, an] at H
     obtain ⟨rfl, rfl, rfl, rfl, rfl, rfl, rfl, rfl⟩ := H
     have amZ := fO.out
     have anA := fN.out
     have anB := dH.out
     have anC := iK.out
     obtain ⟨Uv, Uw, Ux, Uy, Uz, Va, Vb, Vc, Vd, Ve⟩ := cz5 eD.out
     exact Z3
   revert H; refine bnd ?_; rintro ⟨arK, Cw, yJ⟩ A71 H; try dsimp only at H
   replace H := sB H
   obtain ⟨rfl, H⟩ | ⟨rfl, H⟩ := H
   ·focus
     simp only [am, an] at H
     obtain ⟨rfl, rfl, rfl, rfl, rfl, rfl, rfl, rfl⟩ := H
     exact Z3
   revert H; refine bnd ?_; rintro ⟨arL, Cx, yK⟩ A80 H; try dsimp only at H
   replace H := sB H
   obtain ⟨rfl, H⟩ | ⟨rfl, H⟩ := H
   ·focus
     simp only [am, an] at H
     obtain ⟨rfl, rfl, rfl, rfl, rfl, rfl, rfl, rfl⟩ := H
     exact Z3
   revert H; refine bnd ?_; rintro ⟨arM, Nt, Cy⟩ Hw H; try dsimp only at H
   replace H := sB H
   obtain ⟨rfl, H⟩ | ⟨rfl, H⟩ := H
   ·focus
     simp only [am, an] at H
     obtain ⟨rfl, rfl, rfl, rfl, rfl, rfl, rfl, rfl⟩ := H
     exact Z3
   focus
    simp only [am, an] at H
    obtain ⟨rfl, rfl, rfl, rfl, rfl, rfl, rfl, rfl⟩ := H
    exact Z3
structure iX where
 dX : bJ
 dN : bI
 cQ : aI
def dP : Nat → iX
 | 0 => ⟨⟨fun _ _ _ => none, fun _ _ _ _ h => (by cases h), by intros; rename_i h; cases h⟩, ⟨fun _ _ _ => none, fun _ _ _ _ h => (by cases h), by intros; rename_i h; cases h⟩, ⟨fun _ _ _ => none, fun _ _ _ _ h => (by cases h), by intros; rename_i h; cases h⟩⟩
 | n + 1 => let K := dP n; ⟨⟨fun k => aD.f K.cQ k, aD.mono K.cQ, aD.calls K.cQ⟩, ⟨fun k => aU.f K.cQ k, aU.mono K.cQ, aU.calls K.cQ⟩, ⟨fun k => aA.f K.dX K.dN k, aA.mono K.dX K.dN, aA.calls K.dX K.dN⟩⟩
def aD.at_ (D : Nat) : bJ := (dP D).dX
def aU.at_ (D : Nat) : bI := (dP D).dN
def aA.at_ (D : Nat) : aI := (dP D).cQ
end Go.Proofs.YtkjnahgicfmicaaGreatDoor.Sp

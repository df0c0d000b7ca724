import Derived.Test.YtkjnahgicfmicaaGreatDoorZip
import Derived.Test.YtkjnahgicfmicaaGreatDoorQa
import Derived.Test.YtkjnahgicfmicaaGreatDoorQk
namespace Go.Proofs.YtkjnahgicfmicaaGreatDoor.Sp
set_option maxHeartbeats 8000000
set_option maxRecDepth 100000
open Go.RowKit Go.Proofs.YtkjnahgicfmicaaGreatDoorW.PrintWords Go.Proofs.YtkjnahgicfmicaaGreatDoorW.PrintLast Go.Proofs.YtkjnahgicfmicaaGreatDoorW.PrintMore
attribute [local go_sem] max2_int min2_int max_two min_two max_three min_three max_four min_four
set_option linter.unusedVariables false
set_option linter.unusedSimpArgs false
structure bP where
 f : Nat → ByteArray → Int → Option ((List (S93)) × (List (S31)) × Bool × ByteArray × Int)
 mono : ∀ a0 a1 k, LeO (f k a0 a1) (f (k + 1) a0 a1)
 calls : ∀ (k : Nat) (g : Nat) (s0_0 : ByteArray) (s0_1 : Int) (r1 : List (S93)) (r2 : List (S31)) (r3 : Bool) (r4 : ByteArray) (r5 : Int) (w0 w : World) (hI : IsS50 w0 w g s0_0 s0_1) (hB : Below w0.heap.size w0 w) (h : f k s0_0 s0_1 = some (r1, r2, r3, r4, r5)),
  Calls Tryz.prog 39 #[.pointer (some ⟨g, 0, none⟩)] w fun e w' => ∃ v0_ v1_ : Value, e = .returned (.tuple #[v0_, v1_, .bool r3]) ∧ Kd.R k93 93 w' w.heap.size (fun _ => True) v0_ r1 ∧ Kd.R k31 31 w' w.heap.size (fun k_ => some k_ ≠ (v0_ : Value).ownBlock) v1_ r2 ∧ IsS50 w0 w' g r4 r5 ∧ Below w0.heap.size w0 w' ∧ KeepBut w w' g none
instance bP.mi (V : bP) {a0 a1 k} : LeI (V.f k a0 a1) (V.f (k + 1) a0 a1) := ⟨⟨V.mono a0 a1 k⟩⟩
structure bN where
 f : Nat → ByteArray → Int → Option ((List (S31)) × Bool × ByteArray × Int)
 mono : ∀ a0 a1 k, LeO (f k a0 a1) (f (k + 1) a0 a1)
 calls : ∀ (k : Nat) (g : Nat) (s0_0 : ByteArray) (s0_1 : Int) (r1 : List (S31)) (r2 : Bool) (r3 : ByteArray) (r4 : Int) (w0 w : World) (hI : IsS50 w0 w g s0_0 s0_1) (hB : Below w0.heap.size w0 w) (h : f k s0_0 s0_1 = some (r1, r2, r3, r4)),
  Calls Tryz.prog 40 #[.pointer (some ⟨g, 0, none⟩)] w fun e w' => ∃ v0_ : Value, e = .returned (.tuple #[v0_, .bool r2]) ∧ Kd.R k31 31 w' w.heap.size (fun _ => True) v0_ r1 ∧ IsS50 w0 w' g r3 r4 ∧ Below w0.heap.size w0 w' ∧ KeepBut w w' g none
instance bN.mi (V : bN) {a0 a1 k} : LeI (V.f k a0 a1) (V.f (k + 1) a0 a1) := ⟨⟨V.mono a0 a1 k⟩⟩
structure aK where
 f : Nat → ByteArray → Int → Option (Int × Int × Int × (List (S93)) × (List (S31)) × Bool × ByteArray × Int)
 mono : ∀ a0 a1 k, LeO (f k a0 a1) (f (k + 1) a0 a1)
 calls : ∀ (k : Nat) (g : Nat) (s0_0 : ByteArray) (s0_1 : Int) (r1 : Int) (r2 : Int) (r3 : Int) (r4 : List (S93)) (r5 : List (S31)) (r6 : Bool) (r7 : ByteArray) (r8 : Int) (w0 w : World) (hI : IsS50 w0 w g s0_0 s0_1) (hB : Below w0.heap.size w0 w) (h : f k s0_0 s0_1 = some (r1, r2, r3, r4, r5, r6, r7, r8)),
  Calls Tryz.prog 20 #[.pointer (some ⟨g, 0, none⟩)] w fun e w' => ∃ v3_ v4_ : Value, e = .returned (.tuple #[.agg #[.int .i64 r1, .int .i64 r2, .int .i64 r3, v3_, v4_], .bool r6]) ∧ Kd.R k93 93 w' w.heap.size (fun _ => True) v3_ r4 ∧ Kd.R k31 31 w' w.heap.size (fun k_ => some k_ ≠ (v3_ : Value).ownBlock) v4_ r5 ∧ IsS50 w0 w' g r7 r8 ∧ Below w0.heap.size w0 w' ∧ KeepBut w w' g none
instance aK.mi (V : aK) {a0 a1 k} : LeI (V.f k a0 a1) (V.f (k + 1) a0 a1) := ⟨⟨V.mono a0 a1 k⟩⟩
mutual
def aE.l0 (aH : aK) : Nat → List (S93) → List (S31) → ByteArray → Int → Option ((List (S93)) × (List (S31)) × Bool × ByteArray × Int)
 | 0, _, _, _, _ => none
 | k + 1, x5, x6, dC, cT => (bQ.f dC cT).bind fun bt132 => (if bt132.1 = 34 then ((aW.f k bt132.2.1 bt132.2.2).bind fun bt135 => (aE.j1 aH k x5 x6 cT (!bt135.1) bt135.2.1 bt135.2.2)) else (aE.j1 aH k x5 x6 cT true bt132.2.1 bt132.2.2))
def aE.j1 (aH : aK) : Nat → List (S93) → List (S31) → Int → Bool → ByteArray → Int → Option ((List (S93)) × (List (S31)) × Bool × ByteArray × Int)
 | 0, _, _, _, _, _, _ => none
 | k + 1, x5, x6, x7, x32, dC, cT => if x32 = true then (some (([] : List (S93)), ([] : List (S31)), false, dC, cT)) else (if x5.length < 8796093022208 then ((some (x5 ++ [(⟨x7, cT⟩ : S93)] : List (S93))).bind fun oE => ((aA.f k dC cT).bind fun bt141 => ((aQ.f bt141.1 bt141.2 58).bind fun bt143 => (if bt143.1 = true then ((aA.f k bt143.2.1 bt143.2.2).bind fun bt146 => ((aH.f k bt146.1 bt146.2).bind fun bt148 => (if bt148.2.2.2.2.2.1 = true then (if x6.length < 1954687338268 then ((some (x6 ++ [(⟨bt148.1, bt148.2.1, bt148.2.2.1, bt148.2.2.2.1, bt148.2.2.2.2.1⟩ : S31)] : List (S31))).bind fun pY => ((aA.f k bt148.2.2.2.2.2.2.1 bt148.2.2.2.2.2.2.2).bind fun bt164 => ((aQ.f bt164.1 bt164.2 125).bind fun bt166 => (if bt166.1 = true then (some (oE, pY, true, bt166.2.1, bt166.2.2)) else ((aQ.f bt166.2.1 bt166.2.2 44).bind fun bt169 => (if bt169.1 = true then ((aA.f k bt169.2.1 bt169.2.2).bind fun bt172 => (aE.l0 aH k oE pY bt172.1 bt172.2)) else (some (([] : List (S93)), ([] : List (S31)), false, bt169.2.1, bt169.2.2)))))))) else (none)) else (some (([] : List (S93)), ([] : List (S31)), false, bt148.2.2.2.2.2.2.1, bt148.2.2.2.2.2.2.2))))) else (some (([] : List (S93)), ([] : List (S31)), false, bt143.2.1, bt143.2.2)))))) else (none))
end
def aE.f (aH : aK) (k : Nat) (s0_0 : ByteArray) (s0_1 : Int) : Option ((List (S93)) × (List (S31)) × Bool × ByteArray × Int) := (aA.f k s0_0 (wrap64 (s0_1 + 1))).bind fun bt127 => ((aQ.f bt127.1 bt127.2 125).bind fun bt129 => (if bt129.1 = true then (some (([] : List (S93)), ([] : List (S31)), true, bt129.2.1, bt129.2.2)) else (aE.l0 aH k ([] : List (S93)) ([] : List (S31)) bt129.2.1 bt129.2.2)))
theorem aE.mono_l (aH : aK) : ∀ k, (∀ y0 y1 y2 y3, LeO (aE.l0 aH k y0 y1 y2 y3) (aE.l0 aH (k + 1) y0 y1 y2 y3)) ∧ (∀ y0 y1 y2 y3 y4 y5, LeO (aE.j1 aH k y0 y1 y2 y3 y4 y5) (aE.j1 aH (k + 1) y0 y1 y2 y3 y4 y5))
 | 0 => ⟨fun _ _ _ _ r h => by simp [aE.l0] at h, fun _ _ _ _ _ _ r h => by simp [aE.j1] at h⟩
 | k + 1 => by
  obtain ⟨ih0, ih1⟩ := aE.mono_l aH k
  refine ⟨?_, ?_⟩
  ·intro y0 y1 y2 y3
   unfold aE.l0
   repeat' first
   | (with_reducible exact ih0 _ _ _ _)
   | (with_reducible exact ih1 _ _ _ _ _ _)
   | (with_reducible exact aH.mono _ _ _)
   | (with_reducible exact aA.mono _ _ _)
   | (with_reducible exact aW.mono _ _ _)
   | (with_reducible exact LeO.refl _)
   | (with_reducible exact LeO.none _)
   | (with_reducible refine LeO.ite ?_ ?_)
   | (with_reducible refine LeO.bind ?_ (fun _ => ?_))
   | exact ih0 _ _ _ _
   | exact ih1 _ _ _ _ _ _
   | exact aH.mono _ _ _
   | exact aA.mono _ _ _
   | exact aW.mono _ _ _
   | exact LeO.none _
   | refine LeO.ite ?_ ?_
   | refine LeO.bind ?_ (fun _ => ?_)
  ·intro y0 y1 y2 y3 y4 y5
   unfold aE.j1
   repeat' first
   | (with_reducible exact ih0 _ _ _ _)
   | (with_reducible exact ih1 _ _ _ _ _ _)
   | (with_reducible exact aH.mono _ _ _)
   | (with_reducible exact aA.mono _ _ _)
   | (with_reducible exact aW.mono _ _ _)
   | (with_reducible exact LeO.refl _)
   | (with_reducible exact LeO.none _)
   | (with_reducible refine LeO.ite ?_ ?_)
   | (with_reducible refine LeO.bind ?_ (fun _ => ?_))
   | exact ih0 _ _ _ _
   | exact ih1 _ _ _ _ _ _
   | exact aH.mono _ _ _
   | exact aA.mono _ _ _
   | exact aW.mono _ _ _
   | exact LeO.none _
   | refine LeO.ite ?_ ?_
   | refine LeO.bind ?_ (fun _ => ?_)
theorem aE.mono (aH : aK) : ∀ a0 a1 k, LeO (aE.f aH k a0 a1) (aE.f aH (k + 1) a0 a1) := by
 intro a0 a1 k
 obtain ⟨ih0, ih1⟩ := aE.mono_l aH k
 unfold aE.f
 exact zM
instance aE.mi (aH : aK) {a0 a1 k} : LeI (aE.f aH k a0 a1) (aE.f aH (k + 1) a0 a1) := ⟨⟨aE.mono aH a0 a1 k⟩⟩
theorem aE.calls (aH : aK) (k : Nat) (g : Nat) (s0_0 : ByteArray) (s0_1 : Int) (r1 : List (S93)) (r2 : List (S31)) (r3 : Bool) (r4 : ByteArray) (r5 : Int) (w0 w : World) (hI : IsS50 w0 w g s0_0 s0_1) (hB : Below w0.heap.size w0 w) (h : aE.f aH k s0_0 s0_1 = some (r1, r2, r3, r4, r5)) :
 Calls Tryz.prog 39 #[.pointer (some ⟨g, 0, none⟩)] w fun e w' => ∃ v0_ v1_ : Value, e = .returned (.tuple #[v0_, v1_, .bool r3]) ∧ Kd.R k93 93 w' w.heap.size (fun _ => True) v0_ r1 ∧ Kd.R k31 31 w' w.heap.size (fun k_ => some k_ ≠ (v0_ : Value).ownBlock) v1_ r2 ∧ IsS50 w0 w' g r4 r5 ∧ Below w0.heap.size w0 w' ∧ KeepBut w w' g none := by
 have hu93 := Tryz.underlying93
 have hu31 := Tryz.underlying31
 have HI0 := Aside0.mk hI
 have HK := Aside0.mk (KeepBut.refl w g none)
 have HL := Aside0.mk hB.size
 clear hI
 have HW0 := Aside0.mk hB.size
 have HB := Aside0.mk hB
 clear hB
 have H : ((aA.f k s0_0 (wrap64 (s0_1 + 1))).bind fun bt127 => ((aQ.f bt127.1 bt127.2 125).bind fun bt129 => (if bt129.1 = true then (some (([] : List (S93)), ([] : List (S31)), true, bt129.2.1, bt129.2.2)) else (aE.l0 aH k ([] : List (S93)) ([] : List (S31)) bt129.2.1 bt129.2.2)))) = some (r1, r2, r3, r4, r5) := h
 clear h
 revert H; refine bnd ?_; rintro ⟨qJ, Ej⟩ A2 H; try dsimp only at H
 revert H; refine bnd ?_; rintro ⟨aqS, Iq, Ir⟩ A3 H; try dsimp only at H
 replace H := sB H
 obtain ⟨rfl, H⟩ | ⟨rfl, H⟩ := H
 ·focus
   simp only [Option.some.injEq, Prod.mk.injEq] at H
   obtain ⟨rfl, rfl, rfl, rfl, rfl⟩ := H
   obtain ⟨yO, yP, yQ, yR⟩ := cx_cellS50 HI0.out
   go_enter Tryz.func39, Tryz.ntmps39
   go_wp2_with (first | (refine gl 19 (some 18) Tryz.func19 #[.pointer (some ⟨g, 0, none⟩)] ?_; (with_reducible refine (aA.calls k g s0_0 (wrap64 (s0_1 + 1)) qJ Ej w0 _ zI zE A2.out).mono ?_); rintro e w6 ⟨rfl, hi, hb, hk⟩; refine ⟨_, rfl, ?_⟩; replace HK := Aside0.mk (KeepBut.trans (w := w) zK hk (.inl rfl)); replace HB := Aside0.mk (hb); replace HI0 := Aside0.mk (hi); clear hb hk hi) | (refine gl 56 (some 20) Tryz.func56 #[.pointer (some ⟨g, 0, none⟩), .int .u8 125] ?_; (with_reducible refine (aQ.calls g qJ Ej 125 true Iq Ir w0 _ zI zE A3.out).mono ?_); rintro e w7 ⟨rfl, hi, hb, hk⟩; refine ⟨_, rfl, ?_⟩; replace HK := Aside0.mk (KeepBut.trans (w := w) zK hk (.inl rfl)); replace HB := Aside0.mk (hb); replace HI0 := Aside0.mk (hi); clear hb hk hi))
   go_ret3
   exact ⟨_, _, Z11, Z12, Z12, zI, zE, zK⟩
 have H' := Aside0.mk H
 clear H
 obtain ⟨mK, mL, mM, mN⟩ := cx_cellS50 HI0.out
 go_enter Tryz.func39, Tryz.ntmps39
 go_wp2_with (first | (refine gl 19 (some 18) Tryz.func19 #[.pointer (some ⟨g, 0, none⟩)] ?_; (with_reducible refine (aA.calls k g s0_0 (wrap64 (s0_1 + 1)) qJ Ej w0 _ zI zE A2.out).mono ?_); rintro e w9 ⟨rfl, hi, hb, hk⟩; refine ⟨_, rfl, ?_⟩; replace HK := Aside0.mk (KeepBut.trans (w := w) zK hk (.inl rfl)); replace HB := Aside0.mk (hb); replace HI0 := Aside0.mk (hi); clear hb hk hi) | (refine gl 56 (some 20) Tryz.func56 #[.pointer (some ⟨g, 0, none⟩), .int .u8 125] ?_; (with_reducible refine (aQ.calls g qJ Ej 125 false Iq Ir w0 _ zI zE A3.out).mono ?_); rintro e w10 ⟨rfl, hi, hb, hk⟩; refine ⟨_, rfl, ?_⟩; replace HK := Aside0.mk (KeepBut.trans (w := w) zK hk (.inl rfl)); replace HB := Aside0.mk (hb); replace HI0 := Aside0.mk (hi); clear hb hk hi))
 (try simp only [Act.put, List.setIfInBounds_toArray, List.set_cons_zero, List.set_cons_succ])
 go_loopg [5, 6] k (fun kq v5 v6 w' => ∃ (cI : List (S93)) (nE : List (S31)) (cG : ByteArray) (bO : Int), Aside0 (aE.l0 aH kq cI nE cG bO = some (r1, r2, r3, r4, r5)) ∧ Aside0 (kq ≤ k) ∧ Aside0 (Kd.R k93 93 w' w.heap.size (fun _ => True) v5 cI) ∧ Aside0 (Kd.R k31 31 w' w.heap.size (fun k_ => some k_ ≠ (v5 : Value).ownBlock) v6 nE) ∧ Aside0 (IsS50 w0 w' g cG bO) ∧ Aside0 (KeepBut w w' g none) ∧ Aside0 (Below w0.heap.size w0 w'))
 case atStart => exact ⟨(([] : List (S93))), (([] : List (S31))), (Iq), (Ir), H', ⟨Nat.le_refl _⟩, ⟨Z12⟩, ⟨Z12⟩, ⟨zI⟩, ⟨zK⟩, ⟨zE⟩⟩
 case round =>
  clear H'
  try clear mK mL mM mN
  obtain ⟨cI, nE, cG, bO, HA, HK1, oF, gY, HI0, HK, HB⟩ := hrel
  cases gk with
  | zero => exact absurd HA.out (by simp [aE.l0])
  | succ k1 =>
   have H := HA.out
   clear HA
   simp only [aE.l0] at H
   have rL := Aside0.mk H
   clear H
   obtain ⟨kR, kS, kT, kU⟩ := cx_cellS50 HI0.out
   go_upto_region 8 with (fail)
   go_cut [32] (fun v32 wc => ∃ (kq : Nat) (rX : Bool) (jD : ByteArray) (fD : Int), v32 = .bool rX ∧ Aside0 (aE.j1 aH kq cI nE bO rX jD fD = some (r1, r2, r3, r4, r5)) ∧ Aside0 (kq ≤ k1) ∧ Aside0 (Kd.R k93 93 wc w.heap.size (fun _ => True) u5 cI) ∧ Aside0 (Kd.R k31 31 wc w.heap.size (fun k_ => some k_ ≠ (u5 : Value).ownBlock) u6 nE) ∧ Aside0 (IsS50 w0 wc g jD fD) ∧ Aside0 (KeepBut w wc g none) ∧ Aside0 (Below w0.heap.size w0 wc))
   case first =>
    have H := rL.out
    clear rL
    revert H; refine bnd ?_; rintro ⟨afU, yT, yU⟩ vT H; try dsimp only at H
    revert H; refine sIe1n0_e0n1 (fun gR lJ H => ?_) fun gR lJ H => ?_
    ·(first | rw [gR] | (simp only [i64_w, i32_w]; rw [gR]) | skip)
     revert H; refine bnd ?_; rintro ⟨Nu, Nv, Nw⟩ Aa H; try dsimp only at H
     focus
      have H' := Aside0.mk H
      clear H
      exact Z13
    (first | rw [gR] | (simp only [i64_w, i32_w]; rw [gR]) | skip)
    focus
     have H' := Aside0.mk H
     clear H
     exact Z13
   case rest =>
    clear rL
    try clear kR kS kT kU
    obtain ⟨kq, rX, jD, fD, rfl, HA, HJ10, oF, gY, HI0, HK, HB⟩ := hcut
    cases kq with
    | zero => exact absurd HA.out (by simp [aE.j1])
    | succ kj10 =>
     have H := HA.out
     clear HA
     simp only [aE.j1] at H
     replace H := sB H
     obtain ⟨rfl, H⟩ | ⟨rfl, H⟩ := H
     ·focus
       simp only [Option.some.injEq, Prod.mk.injEq] at H
       obtain ⟨rfl, rfl, rfl, rfl, rfl⟩ := H
       go_wp2
       go_ret3
       exact ⟨_, _, Z11, Z12, Z12, zI, zE, zK⟩
     revert H; refine sNk fun c20 H => ?_
     have Nx := Aside0.mk c20
     clear c20
     obtain ⟨oE, hy138⟩ : ∃ y_ : List (S93), y_ = (cI ++ [(⟨bO, fD⟩ : S93)]) := ⟨_, rfl⟩
     replace H : ((aA.f kj10 jD fD).bind fun bt141 => ((aQ.f bt141.1 bt141.2 58).bind fun bt143 => (if bt143.1 = true then ((aA.f kj10 bt143.2.1 bt143.2.2).bind fun bt146 => ((aH.f kj10 bt146.1 bt146.2).bind fun bt148 => (if bt148.2.2.2.2.2.1 = true then (if nE.length < 1954687338268 then ((some (nE ++ [(⟨bt148.1, bt148.2.1, bt148.2.2.1, bt148.2.2.2.1, bt148.2.2.2.2.1⟩ : S31)] : List (S31))).bind fun pY => ((aA.f kj10 bt148.2.2.2.2.2.2.1 bt148.2.2.2.2.2.2.2).bind fun bt164 => ((aQ.f bt164.1 bt164.2 125).bind fun bt166 => (if bt166.1 = true then (some (oE, pY, true, bt166.2.1, bt166.2.2)) else ((aQ.f bt166.2.1 bt166.2.2 44).bind fun bt169 => (if bt169.1 = true then ((aA.f kj10 bt169.2.1 bt169.2.2).bind fun bt172 => (aE.l0 aH kj10 oE pY bt172.1 bt172.2)) else (some (([] : List (S93)), ([] : List (S31)), false, bt169.2.1, bt169.2.2)))))))) else (none)) else (some (([] : List (S93)), ([] : List (S31)), false, bt148.2.2.2.2.2.2.1, bt148.2.2.2.2.2.2.2))))) else (some (([] : List (S93)), ([] : List (S31)), false, bt143.2.1, bt143.2.2))))) = some (r1, r2, r3, r4, r5) := by first | (rw [hy138]; with_reducible exact H) | (have H2_ := (Option.bind_some _ _).symm.trans H; rw [hy138]; with_reducible exact H2_) | (have H2_ := (Option.bind_some _ _).symm.trans H; with_reducible exact H2_) | with_reducible exact H | (rw [hy138]; exact H) | exact H
     have Ny := Aside0.mk hy138
     clear hy138
     revert H; refine bnd ?_; rintro ⟨rY, rZ⟩ Jm H; try dsimp only at H
     revert H; refine bnd ?_; rintro ⟨aeB, yV, vQ⟩ Rn H; try dsimp only at H
     replace H := sB H
     obtain ⟨rfl, H⟩ | ⟨rfl, H⟩ := H
     ·revert H; refine bnd ?_; rintro ⟨sA, sC⟩ A24 H; try dsimp only at H
      revert H; refine bnd ?_; rintro ⟨lD, lE, lF, gF, iP, aqT, oG, oH⟩ Ro H; try dsimp only at H
      replace H := sB H
      obtain ⟨rfl, H⟩ | ⟨rfl, H⟩ := H
      ·revert H; refine sNk fun c27 H => ?_
       have Nz := Aside0.mk c27
       clear c27
       obtain ⟨pY, hy161⟩ : ∃ y_ : List (S31), y_ = (nE ++ [(⟨lD, lE, lF, gF, iP⟩ : S31)]) := ⟨_, rfl⟩
       replace H : ((aA.f kj10 oG oH).bind fun bt164 => ((aQ.f bt164.1 bt164.2 125).bind fun bt166 => (if bt166.1 = true then (some (oE, pY, true, bt166.2.1, bt166.2.2)) else ((aQ.f bt166.2.1 bt166.2.2 44).bind fun bt169 => (if bt169.1 = true then ((aA.f kj10 bt169.2.1 bt169.2.2).bind fun bt172 => (aE.l0 aH kj10 oE pY bt172.1 bt172.2)) else (some (([] : List (S93)), ([] : List (S31)), false, bt169.2.1, bt169.2.2))))))) = some (r1, r2, r3, r4, r5) := by first | (rw [hy161]; with_reducible exact H) | (have H2_ := (Option.bind_some _ _).symm.trans H; rw [hy161]; with_reducible exact H2_) | (have H2_ := (Option.bind_some _ _).symm.trans H; with_reducible exact H2_) | with_reducible exact H | (rw [hy161]; exact H) | exact H
       have Oa := Aside0.mk hy161
       clear hy161
       revert H; refine bnd ?_; rintro ⟨sD, sE⟩ zY H; try dsimp only at H
       revert H; refine bnd ?_; rintro ⟨aqU, pC, nP⟩ Ku H; try dsimp only at H
       replace H := sB H
       obtain ⟨rfl, H⟩ | ⟨rfl, H⟩ := H
       ·focus
         simp only [Option.some.injEq, Prod.mk.injEq] at H
         obtain ⟨rfl, rfl, rfl, rfl, rfl⟩ := H
         obtain ⟨Us, Ut, Uu, Uv⟩ := cx_cellS50 HI0.out
         exact Z0
       revert H; refine bnd ?_; rintro ⟨aqV, yW, vR⟩ A47 H; try dsimp only at H
       replace H := sB H
       obtain ⟨rfl, H⟩ | ⟨rfl, H⟩ := H
       ·revert H; refine bnd ?_; rintro ⟨Ob, Hr⟩ A49 H; try dsimp only at H
        focus
         have H' := Aside0.mk H
         clear H
         obtain ⟨pZ, qA, qB, qC⟩ := cx_cellS50 HI0.out
         exact Z0
       focus
        simp only [Option.some.injEq, Prod.mk.injEq] at H
        obtain ⟨rfl, rfl, rfl, rfl, rfl⟩ := H
        obtain ⟨Ek, El, Em, En⟩ := cx_cellS50 HI0.out
        exact Z0
      focus
       simp only [Option.some.injEq, Prod.mk.injEq] at H
       obtain ⟨rfl, rfl, rfl, rfl, rfl⟩ := H
       obtain ⟨Uw, Ux, Uy, Uz⟩ := cx_cellS50 HI0.out
       exact Z0
     focus
      simp only [Option.some.injEq, Prod.mk.injEq] at H
      obtain ⟨rfl, rfl, rfl, rfl, rfl⟩ := H
      obtain ⟨Va, Vb, Vc, Vd⟩ := cx_cellS50 HI0.out
      exact Z0
def aV.l0 (aH : aK) : Nat → List (S31) → ByteArray → Int → Option ((List (S31)) × Bool × ByteArray × Int)
 | 0, _, _, _ => none
 | k + 1, x4, dC, cT => (aH.f k dC cT).bind fun bt179 => (if bt179.2.2.2.2.2.1 = true then (if x4.length < 1954687338268 then ((some (x4 ++ [(⟨bt179.1, bt179.2.1, bt179.2.2.1, bt179.2.2.2.1, bt179.2.2.2.2.1⟩ : S31)] : List (S31))).bind fun wC => ((aA.f k bt179.2.2.2.2.2.2.1 bt179.2.2.2.2.2.2.2).bind fun bt195 => ((aQ.f bt195.1 bt195.2 93).bind fun bt197 => (if bt197.1 = true then (some (wC, true, bt197.2.1, bt197.2.2)) else ((aQ.f bt197.2.1 bt197.2.2 44).bind fun bt200 => (if bt200.1 = true then ((aA.f k bt200.2.1 bt200.2.2).bind fun bt203 => (aV.l0 aH k wC bt203.1 bt203.2)) else (some (([] : List (S31)), false, bt200.2.1, bt200.2.2)))))))) else (none)) else (some (([] : List (S31)), false, bt179.2.2.2.2.2.2.1, bt179.2.2.2.2.2.2.2)))
def aV.f (aH : aK) (k : Nat) (s0_0 : ByteArray) (s0_1 : Int) : Option ((List (S31)) × Bool × ByteArray × Int) := (aA.f k s0_0 (wrap64 (s0_1 + 1))).bind fun bt174 => ((aQ.f bt174.1 bt174.2 93).bind fun bt176 => (if bt176.1 = true then (some (([] : List (S31)), true, bt176.2.1, bt176.2.2)) else (aV.l0 aH k ([] : List (S31)) bt176.2.1 bt176.2.2)))
theorem aV.mono_l (aH : aK) : ∀ k, (∀ y0 y1 y2, LeO (aV.l0 aH k y0 y1 y2) (aV.l0 aH (k + 1) y0 y1 y2))
 | 0 => fun _ _ _ r h => by simp [aV.l0] at h
 | k + 1 => by
  have ih0 := aV.mono_l aH k
  ·intro y0 y1 y2
   unfold aV.l0
   repeat' first
   | (with_reducible exact ih0 _ _ _)
   | (with_reducible exact aH.mono _ _ _)
   | (with_reducible exact aA.mono _ _ _)
   | (with_reducible exact LeO.refl _)
   | (with_reducible exact LeO.none _)
   | (with_reducible refine LeO.ite ?_ ?_)
   | (with_reducible refine LeO.bind ?_ (fun _ => ?_))
   | exact ih0 _ _ _
   | exact aH.mono _ _ _
   | exact aA.mono _ _ _
   | exact LeO.none _
   | refine LeO.ite ?_ ?_
   | refine LeO.bind ?_ (fun _ => ?_)
theorem aV.mono (aH : aK) : ∀ a0 a1 k, LeO (aV.f aH k a0 a1) (aV.f aH (k + 1) a0 a1) := by
 intro a0 a1 k
 have ih0 := aV.mono_l aH k
 unfold aV.f
 exact zM
instance aV.mi (aH : aK) {a0 a1 k} : LeI (aV.f aH k a0 a1) (aV.f aH (k + 1) a0 a1) := ⟨⟨aV.mono aH a0 a1 k⟩⟩
theorem aV.calls (aH : aK) (k : Nat) (g : Nat) (s0_0 : ByteArray) (s0_1 : Int) (r1 : List (S31)) (r2 : Bool) (r3 : ByteArray) (r4 : Int) (w0 w : World) (hI : IsS50 w0 w g s0_0 s0_1) (hB : Below w0.heap.size w0 w) (h : aV.f aH k s0_0 s0_1 = some (r1, r2, r3, r4)) :
 Calls Tryz.prog 40 #[.pointer (some ⟨g, 0, none⟩)] w fun e w' => ∃ v0_ : Value, e = .returned (.tuple #[v0_, .bool r2]) ∧ Kd.R k31 31 w' w.heap.size (fun _ => True) v0_ r1 ∧ IsS50 w0 w' g r3 r4 ∧ Below w0.heap.size w0 w' ∧ KeepBut w w' g none := by
 have hu31 := Tryz.underlying31
 have HI0 := Aside0.mk hI
 have HK := Aside0.mk (KeepBut.refl w g none)
 have HL := Aside0.mk hB.size
 clear hI
 have HW0 := Aside0.mk hB.size
 have HB := Aside0.mk hB
 clear hB
 have H : ((aA.f k s0_0 (wrap64 (s0_1 + 1))).bind fun bt174 => ((aQ.f bt174.1 bt174.2 93).bind fun bt176 => (if bt176.1 = true then (some (([] : List (S31)), true, bt176.2.1, bt176.2.2)) else (aV.l0 aH k ([] : List (S31)) bt176.2.1 bt176.2.2)))) = some (r1, r2, r3, r4) := h
 clear h
 revert H; refine bnd ?_; rintro ⟨Eo, Ep⟩ A2 H; try dsimp only at H
 revert H; refine bnd ?_; rintro ⟨aqX, Iu, Iv⟩ A3 H; try dsimp only at H
 replace H := sB H
 obtain ⟨rfl, H⟩ | ⟨rfl, H⟩ := H
 ·focus
   simp only [Option.some.injEq, Prod.mk.injEq] at H
   obtain ⟨rfl, rfl, rfl, rfl⟩ := H
   obtain ⟨yO, yP, yQ, yR⟩ := cx_cellS50 HI0.out
   go_enter Tryz.func40, Tryz.ntmps40
   go_wp2_with (first | (refine gl 19 (some 15) Tryz.func19 #[.pointer (some ⟨g, 0, none⟩)] ?_; (with_reducible refine (aA.calls k g s0_0 (wrap64 (s0_1 + 1)) Eo Ep w0 _ zI zE A2.out).mono ?_); rintro e w6 ⟨rfl, hi, hb, hk⟩; refine ⟨_, rfl, ?_⟩; replace HK := Aside0.mk (KeepBut.trans (w := w) zK hk (.inl rfl)); replace HB := Aside0.mk (hb); replace HI0 := Aside0.mk (hi); clear hb hk hi) | (refine gl 56 (some 17) Tryz.func56 #[.pointer (some ⟨g, 0, none⟩), .int .u8 93] ?_; (with_reducible refine (aQ.calls g Eo Ep 93 true Iu Iv w0 _ zI zE A3.out).mono ?_); rintro e w7 ⟨rfl, hi, hb, hk⟩; refine ⟨_, rfl, ?_⟩; replace HK := Aside0.mk (KeepBut.trans (w := w) zK hk (.inl rfl)); replace HB := Aside0.mk (hb); replace HI0 := Aside0.mk (hi); clear hb hk hi))
   go_ret2
   exact ⟨_, Z11, Z12, zI, zE, zK⟩
 have H' := Aside0.mk H
 clear H
 obtain ⟨mK, mL, mM, mN⟩ := cx_cellS50 HI0.out
 go_enter Tryz.func40, Tryz.ntmps40
 go_wp2_with (first | (refine gl 19 (some 15) Tryz.func19 #[.pointer (some ⟨g, 0, none⟩)] ?_; (with_reducible refine (aA.calls k g s0_0 (wrap64 (s0_1 + 1)) Eo Ep w0 _ zI zE A2.out).mono ?_); rintro e w9 ⟨rfl, hi, hb, hk⟩; refine ⟨_, rfl, ?_⟩; replace HK := Aside0.mk (KeepBut.trans (w := w) zK hk (.inl rfl)); replace HB := Aside0.mk (hb); replace HI0 := Aside0.mk (hi); clear hb hk hi) | (refine gl 56 (some 17) Tryz.func56 #[.pointer (some ⟨g, 0, none⟩), .int .u8 93] ?_; (with_reducible refine (aQ.calls g Eo Ep 93 false Iu Iv w0 _ zI zE A3.out).mono ?_); rintro e w10 ⟨rfl, hi, hb, hk⟩; refine ⟨_, rfl, ?_⟩; replace HK := Aside0.mk (KeepBut.trans (w := w) zK hk (.inl rfl)); replace HB := Aside0.mk (hb); replace HI0 := Aside0.mk (hi); clear hb hk hi))
 (try simp only [Act.put, List.setIfInBounds_toArray, List.set_cons_zero, List.set_cons_succ])
 go_loopg [4] k (fun kq v4 w' => ∃ (eM : List (S31)) (cG : ByteArray) (bO : Int), Aside0 (aV.l0 aH kq eM cG bO = some (r1, r2, r3, r4)) ∧ Aside0 (kq ≤ k) ∧ Aside0 (Kd.R k31 31 w' w.heap.size (fun _ => True) v4 eM) ∧ Aside0 (IsS50 w0 w' g cG bO) ∧ Aside0 (KeepBut w w' g none) ∧ Aside0 (Below w0.heap.size w0 w'))
 case atStart => exact ⟨(([] : List (S31))), (Iu), (Iv), H', ⟨Nat.le_refl _⟩, ⟨Z12⟩, ⟨zI⟩, ⟨zK⟩, ⟨zE⟩⟩
 case round =>
  clear H'
  try clear mK mL mM mN
  obtain ⟨eM, cG, bO, HA, HK1, mB, HI0, HK, HB⟩ := hrel
  cases gk with
  | zero => exact absurd HA.out (by simp [aV.l0])
  | succ k1 =>
   have H := HA.out
   clear HA
   simp only [aV.l0] at H
   revert H; refine bnd ?_; rintro ⟨lT, lU, lV, gZ, iY, aqY, oO, oP⟩ Dx H; try dsimp only at H
   replace H := sB H
   obtain ⟨rfl, H⟩ | ⟨rfl, H⟩ := H
   ·revert H; refine sNk fun c13 H => ?_
    have Oc := Aside0.mk c13
    clear c13
    obtain ⟨wC, hy192⟩ : ∃ y_ : List (S31), y_ = (eM ++ [(⟨lT, lU, lV, gZ, iY⟩ : S31)]) := ⟨_, rfl⟩
    replace H : ((aA.f k1 oO oP).bind fun bt195 => ((aQ.f bt195.1 bt195.2 93).bind fun bt197 => (if bt197.1 = true then (some (wC, true, bt197.2.1, bt197.2.2)) else ((aQ.f bt197.2.1 bt197.2.2 44).bind fun bt200 => (if bt200.1 = true then ((aA.f k1 bt200.2.1 bt200.2.2).bind fun bt203 => (aV.l0 aH k1 wC bt203.1 bt203.2)) else (some (([] : List (S31)), false, bt200.2.1, bt200.2.2))))))) = some (r1, r2, r3, r4) := by first | (rw [hy192]; with_reducible exact H) | (have H2_ := (Option.bind_some _ _).symm.trans H; rw [hy192]; with_reducible exact H2_) | (have H2_ := (Option.bind_some _ _).symm.trans H; with_reducible exact H2_) | with_reducible exact H | (rw [hy192]; exact H) | exact H
    have Od := Aside0.mk hy192
    clear hy192
    revert H; refine bnd ?_; rintro ⟨yX, yY⟩ Ht H; try dsimp only at H
    revert H; refine bnd ?_; rintro ⟨aqZ, wD, wE⟩ Aa H; try dsimp only at H
    replace H := sB H
    obtain ⟨rfl, H⟩ | ⟨rfl, H⟩ := H
    ·focus
      simp only [Option.some.injEq, Prod.mk.injEq] at H
      obtain ⟨rfl, rfl, rfl, rfl⟩ := H
      exact Z1
    revert H; refine bnd ?_; rintro ⟨arA, Er, Es⟩ zY H; try dsimp only at H
    replace H := sB H
    obtain ⟨rfl, H⟩ | ⟨rfl, H⟩ := H
    ·revert H; refine bnd ?_; rintro ⟨Oe, Of⟩ A30 H; try dsimp only at H
     focus
      have H' := Aside0.mk H
      clear H
      exact Z1
    focus
     simp only [Option.some.injEq, Prod.mk.injEq] at H
     obtain ⟨rfl, rfl, rfl, rfl⟩ := H
     exact Z1
   focus
    simp only [Option.some.injEq, Prod.mk.injEq] at H
    obtain ⟨rfl, rfl, rfl, rfl⟩ := H
    exact Z1
def aI.j0 (bG : bP) (bF : bN) : Nat → Bool → Bool → ByteArray → Int → Int → Int → Int → Option (Int × Int × Int × (List (S93)) × (List (S31)) × Bool × ByteArray × Int)
 | 0, _, _, _, _, _, _, _ => none
 | k + 1, x5, x42, dC, cT, Et, mC, Ve => if x42 = true then ((aG.f k dC cT).bind fun bt267 => (some (3, mC, bt267.2.2, ([] : List (S93)), ([] : List (S31)), bt267.1, bt267.2.1, bt267.2.2))) else ((bW.f dC cT (⟨#[110, 117, 108, 108]⟩ : ByteArray)).bind fun bt270 => (if bt270.1 = true then (some (0, mC, bt270.2.2, ([] : List (S93)), ([] : List (S31)), x5, bt270.2.1, bt270.2.2)) else ((bW.f bt270.2.1 bt270.2.2 (⟨#[102, 97, 108, 115, 101]⟩ : ByteArray)).bind fun bt273 => (if bt273.1 = true then (some (1, mC, bt273.2.2, ([] : List (S93)), ([] : List (S31)), x5, bt273.2.1, bt273.2.2)) else ((bW.f bt273.2.1 bt273.2.2 (⟨#[116, 114, 117, 101]⟩ : ByteArray)).bind fun bt276 => (if bt276.1 = true then (some (2, mC, bt276.2.2, ([] : List (S93)), ([] : List (S31)), x5, bt276.2.1, bt276.2.2)) else (some (Et, mC, bt276.2.2, ([] : List (S93)), ([] : List (S31)), false, bt276.2.1, bt276.2.2))))))))
def aI.f (bG : bP) (bF : bN) (k : Nat) (s0_0 : ByteArray) (s0_1 : Int) : Option (Int × Int × Int × (List (S93)) × (List (S31)) × Bool × ByteArray × Int) := (bQ.f s0_0 s0_1).bind fun bt246 => (if bt246.1 = 123 then ((bG.f k bt246.2.1 bt246.2.2).bind fun bt249 => (some (6, s0_1, bt249.2.2.2.2, bt249.1, bt249.2.1, bt249.2.2.1, bt249.2.2.2.1, bt249.2.2.2.2))) else (if bt246.1 = 91 then ((bF.f k bt246.2.1 bt246.2.2).bind fun bt258 => (some (5, s0_1, bt258.2.2.2, ([] : List (S93)), bt258.1, bt258.2.1, bt258.2.2.1, bt258.2.2.2))) else (if bt246.1 = 34 then ((aW.f k bt246.2.1 bt246.2.2).bind fun bt264 => (some (4, s0_1, bt264.2.2, ([] : List (S93)), ([] : List (S31)), bt264.1, bt264.2.1, bt264.2.2))) else (if bt246.1 = 45 then (aI.j0 bG bF k true true bt246.2.1 bt246.2.2 0 s0_1 0) else (if 48 ≤ bt246.1 then (aI.j0 bG bF k true (decide (bt246.1 ≤ 57)) bt246.2.1 bt246.2.2 0 s0_1 0) else (aI.j0 bG bF k true false bt246.2.1 bt246.2.2 0 s0_1 0))))))
theorem aI.mono_l (bG : bP) (bF : bN) : ∀ k, (∀ y0 y1 y2 y3 y4 y5 y6, LeO (aI.j0 bG bF k y0 y1 y2 y3 y4 y5 y6) (aI.j0 bG bF (k + 1) y0 y1 y2 y3 y4 y5 y6))
 | 0 => fun _ _ _ _ _ _ _ r h => by simp [aI.j0] at h
 | k + 1 => by
  have ih0 := aI.mono_l bG bF k
  ·intro y0 y1 y2 y3 y4 y5 y6
   unfold aI.j0
   repeat' first
   | (with_reducible exact ih0 _ _ _ _ _ _ _)
   | (with_reducible exact bF.mono _ _ _)
   | (with_reducible exact bG.mono _ _ _)
   | (with_reducible exact aG.mono _ _ _)
   | (with_reducible exact aW.mono _ _ _)
   | (with_reducible exact LeO.refl _)
   | (with_reducible exact LeO.none _)
   | (with_reducible refine LeO.ite ?_ ?_)
   | (with_reducible refine LeO.bind ?_ (fun _ => ?_))
   | exact ih0 _ _ _ _ _ _ _
   | exact bF.mono _ _ _
   | exact bG.mono _ _ _
   | exact aG.mono _ _ _
   | exact aW.mono _ _ _
   | exact LeO.none _
   | refine LeO.ite ?_ ?_
   | refine LeO.bind ?_ (fun _ => ?_)
theorem aI.mono (bG : bP) (bF : bN) : ∀ a0 a1 k, LeO (aI.f bG bF k a0 a1) (aI.f bG bF (k + 1) a0 a1) := by
 intro a0 a1 k
 have ih0 := aI.mono_l bG bF k
 unfold aI.f
 exact zM
instance aI.mi (bG : bP) (bF : bN) {a0 a1 k} : LeI (aI.f bG bF k a0 a1) (aI.f bG bF (k + 1) a0 a1) := ⟨⟨aI.mono bG bF a0 a1 k⟩⟩
theorem aI.calls (bG : bP) (bF : bN) (k : Nat) (g : Nat) (s0_0 : ByteArray) (s0_1 : Int) (r1 : Int) (r2 : Int) (r3 : Int) (r4 : List (S93)) (r5 : List (S31)) (r6 : Bool) (r7 : ByteArray) (r8 : Int) (w0 w : World) (hI : IsS50 w0 w g s0_0 s0_1) (hB : Below w0.heap.size w0 w) (h : aI.f bG bF k s0_0 s0_1 = some (r1, r2, r3, r4, r5, r6, r7, r8)) :
 Calls Tryz.prog 20 #[.pointer (some ⟨g, 0, none⟩)] w fun e w' => ∃ v3_ v4_ : Value, e = .returned (.tuple #[.agg #[.int .i64 r1, .int .i64 r2, .int .i64 r3, v3_, v4_], .bool r6]) ∧ Kd.R k93 93 w' w.heap.size (fun _ => True) v3_ r4 ∧ Kd.R k31 31 w' w.heap.size (fun k_ => some k_ ≠ (v3_ : Value).ownBlock) v4_ r5 ∧ IsS50 w0 w' g r7 r8 ∧ Below w0.heap.size w0 w' ∧ KeepBut w w' g none := by
 have hu31 := Tryz.underlying31
 have HI0 := Aside0.mk hI
 have HK := Aside0.mk (KeepBut.refl w g none)
 have HL := Aside0.mk hB.size
 clear hI
 have HW0 := Aside0.mk hB.size
 have HB := Aside0.mk hB
 clear hB
 have H : ((bQ.f s0_0 s0_1).bind fun bt246 => (if bt246.1 = 123 then ((bG.f k bt246.2.1 bt246.2.2).bind fun bt249 => (some (6, s0_1, bt249.2.2.2.2, bt249.1, bt249.2.1, bt249.2.2.1, bt249.2.2.2.1, bt249.2.2.2.2))) else (if bt246.1 = 91 then ((bF.f k bt246.2.1 bt246.2.2).bind fun bt258 => (some (5, s0_1, bt258.2.2.2, ([] : List (S93)), bt258.1, bt258.2.1, bt258.2.2.1, bt258.2.2.2))) else (if bt246.1 = 34 then ((aW.f k bt246.2.1 bt246.2.2).bind fun bt264 => (some (4, s0_1, bt264.2.2, ([] : List (S93)), ([] : List (S31)), bt264.1, bt264.2.1, bt264.2.2))) else (if bt246.1 = 45 then (aI.j0 bG bF k true true bt246.2.1 bt246.2.2 0 s0_1 0) else (if 48 ≤ bt246.1 then (aI.j0 bG bF k true (decide (bt246.1 ≤ 57)) bt246.2.1 bt246.2.2 0 s0_1 0) else (aI.j0 bG bF k true false bt246.2.1 bt246.2.2 0 s0_1 0))))))) = some (r1, r2, r3, r4, r5, r6, r7, r8) := h
 clear h
 revert H; refine bnd ?_; rintro ⟨Iw, oQ, oR⟩ A2 H; try dsimp only at H
 revert H; refine sIe1n0_e0n1k (fun eW oJ H => ?_) fun eW oJ c3 H => ?_
 ·revert H; refine bnd ?_; rintro ⟨wF, wG, afV, afW, wH⟩ A4 H; try dsimp only at H
  focus
   simp only [Option.some.injEq, Prod.mk.injEq] at H
   obtain ⟨rfl, rfl, rfl, rfl, rfl, rfl, rfl, rfl⟩ := H
   exact Z4
 revert H; refine sIe1n0_e0n1k (fun oU qO H => ?_) fun oU qO c20 H => ?_
 ·revert H; refine bnd ?_; rintro ⟨Eu, afX, afY, Ew⟩ Jm H; try dsimp only at H
  focus
   simp only [Option.some.injEq, Prod.mk.injEq] at H
   obtain ⟨rfl, rfl, rfl, rfl, rfl, rfl, rfl, rfl⟩ := H
   exact Z4
 revert H; refine sIe1n0_e0n1k (fun oY oZ H => ?_) fun oY oZ c36 H => ?_
 ·revert H; refine bnd ?_; rintro ⟨afZ, agA, Og⟩ A37 H; try dsimp only at H
  focus
   simp only [Option.some.injEq, Prod.mk.injEq] at H
   obtain ⟨rfl, rfl, rfl, rfl, rfl, rfl, rfl, rfl⟩ := H
   exact Z4
 have Ix := Aside0.mk H
 clear H
 go_enter Tryz.func20, Tryz.ntmps20
 go_upto_region 14 with (first | ((with_reducible refine gate_dst (N := 2) rfl ?_); refine box_event ?hg (N := 2) ?hd (cs := #[.int .i64 0, .int .i64 0, .int .i64 0, .slice none 0 0, .slice none 0 0]) (t := 31) ?hr ?_; (case hd => rfl); (case hg => rfl); (case hr => exact Z14); intro cQ hg w52 hbox hb; replace HB := Aside0.mk (below_step (w := w0) zE hb); have eZ := Aside0.mk (hbox); have yZ := Aside0.mk ((by rw [hg]; exact (keep_size (w := w) (g := g) (row := none) zK) : w.heap.size ≤ cQ)); have Oh := Aside0.mk (Nat.le_trans HW0.out yZ.out); replace HK := Aside0.mk (KeepBut.trans (w := w) zK (KeepBut.of_below hb g none) (.inl rfl)); have iZ : Aside0 (g ≠ cQ) := ⟨Z66⟩; have dR : Aside0 (cQ ≠ g) := ⟨Z67⟩; replace HI0 := Aside0.mk (IsS50.below zI hb); clear hb hbox hg; obtain ⟨tZ, uA, uB, uC⟩ := cx_cellS50 HI0.out) | ((with_reducible refine gate_dst (N := 4) rfl ?_); refine box_event ?hg (N := 4) ?hd (cs := #[.int .i64 0, .int .i64 0, .int .i64 0, .slice none 0 0, .slice none 0 0]) (t := 31) ?hr ?_; (case hd => rfl); (case hg => rfl); (case hr => exact Z14); intro dP hg w54 hbox hb; replace HB := Aside0.mk (below_step (w := w0) zE hb); have eS := Aside0.mk (hbox); have zA := Aside0.mk ((by rw [hg]; exact (keep_size (w := w) (g := g) (row := none) zK) : w.heap.size ≤ dP)); have Oi := Aside0.mk (Nat.le_trans HW0.out zA.out); replace HK := Aside0.mk (KeepBut.trans (w := w) zK (KeepBut.of_below hb g none) (.inl rfl)); have gH : Aside0 (cQ ≠ dP) := ⟨by rw [hg]; exact Nat.ne_of_lt (blk_lt (g := cQ) zC)⟩; have gI : Aside0 (dP ≠ cQ) := ⟨by rw [hg]; exact Nat.ne_of_gt (blk_lt (g := cQ) zC)⟩; replace eZ := Aside0.mk (blk_below (g := cQ) zC hb); have jL : Aside0 (g ≠ dP) := ⟨Z66⟩; have dV : Aside0 (dP ≠ g) := ⟨Z67⟩; replace HI0 := Aside0.mk (IsS50.below zI hb); clear hb hbox hg; have Oj := gI.out; have Ok := gH.out; have Ol := dV.out; have Om := jL.out; obtain ⟨uT, uU, uV, uW, uX, uY, uZ, vA, vB, vC⟩ := cz5 eS.out) | (refine gl 38 (some 13) Tryz.func38 #[.pointer (some ⟨g, 0, none⟩)] ?_; (with_reducible refine (bQ.calls g s0_0 s0_1 Iw oQ oR w0 _ zI zE A2.out).mono ?_); rintro e w58 ⟨rfl, hi, hb, hk⟩; refine ⟨_, rfl, ?_⟩; replace eZ := Aside0.mk (KeepBut.blk hk (g' := cQ) zC dR.out (by simp)); replace eS := Aside0.mk (KeepBut.blk hk (g' := dP) (o := .cells #[.int .i64 0, .int .i64 s0_1, .int .i64 0, .slice none 0 0, .slice none 0 0] 31 (0, 0)) zC dV.out (by simp)); replace HK := Aside0.mk (KeepBut.trans (w := w) zK hk (.inl rfl)); replace HB := Aside0.mk (hb); replace HI0 := Aside0.mk (hi); clear hb hk hi))
 (try simp only [Act.put, List.setIfInBounds_toArray, List.set_cons_zero, List.set_cons_succ])
 go_cut [42] (fun v42 wc => ∃ (kq : Nat) (sF : Bool), v42 = .bool sF ∧ Aside0 (aI.j0 bG bF kq true sF oQ oR 0 s0_1 0 = some (r1, r2, r3, r4, r5, r6, r7, r8)) ∧ Aside0 (kq ≤ k) ∧ Aside0 (wc.heap[cQ]? = some (.cells #[.int .i64 0, .int .i64 0, .int .i64 0, (.slice none 0 0), (.slice none 0 0)] 31 (0, 0))) ∧ Aside0 (wc.heap[dP]? = some (.cells #[.int .i64 0, .int .i64 s0_1, .int .i64 0, (.slice none 0 0), (.slice none 0 0)] 31 (0, 0))) ∧ Aside0 (IsS50 w0 wc g oQ oR) ∧ Aside0 (KeepBut w wc g none) ∧ Aside0 (Below w0.heap.size w0 wc))
 case first =>
  have H := Ix.out
  clear Ix
  revert H; refine sIe1n0_e0n1 (fun qU Oo H => ?_) fun qU Oo H => ?_
  ·(first | rw [qU] | (simp only [i64_w, i32_w]; rw [qU]) | skip)
   focus
    have H' := Aside0.mk H
    clear H
    go_wp2
    go_meet
    case rel => exact ⟨_, (true), Z9, H', ⟨Z30⟩, ⟨zC⟩, ⟨zC⟩, ⟨zI⟩, ⟨zK⟩, ⟨zE⟩⟩
  (first | rw [qU] | (simp only [i64_w, i32_w]; rw [qU]) | skip)
  revert H; refine sId1_d0 (fun Oq H => ?_) fun Oq H => ?_
  ·focus
    have H' := Aside0.mk H
    clear H
    go_wp2
    go_meet
    case rel => exact ⟨_, (decide (Iw ≤ 57)), Z9, H', ⟨Z30⟩, ⟨zC⟩, ⟨zC⟩, ⟨zI⟩, ⟨zK⟩, ⟨zE⟩⟩
  focus
   have H' := Aside0.mk H
   clear H
   go_wp2
   go_meet
   case rel => exact ⟨_, (false), Z9, H', ⟨Z30⟩, ⟨zC⟩, ⟨zC⟩, ⟨zI⟩, ⟨zK⟩, ⟨zE⟩⟩
 case rest =>
  clear Ix
  try clear c3 eW oJ c20 oU qO c36 oY oZ tZ uA uT uU uV uW uX uB uC uY uZ vA vB vC
  obtain ⟨kq, sF, rfl, HA, HJ50, eZ, eS, HI0, HK, HB⟩ := hcut
  cases kq with
  | zero => exact absurd HA.out (by simp [aI.j0])
  | succ kj50 =>
   have H := HA.out
   clear HA
   simp only [aI.j0] at H
   replace H := sB H
   obtain ⟨rfl, H⟩ | ⟨rfl, H⟩ := H
   ·revert H; refine bnd ?_; rintro ⟨agB, agC, Ot⟩ A62 H; try dsimp only at H
    focus
     simp only [Option.some.injEq, Prod.mk.injEq] at H
     obtain ⟨rfl, rfl, rfl, rfl, rfl, rfl, rfl, rfl⟩ := H
     have amJ := gI.out
     have amK := gH.out
     have amL := dV.out
     have amM := jL.out
     obtain ⟨Vf, Vg, Vh, Vj, Vk, Vl, Vm, Vn, Vo, Vq⟩ := cz5 eS.out
     exact Z3
   revert H; refine bnd ?_; rintro ⟨arC, Ex, zD⟩ A71 H; try dsimp only at H
   replace H := sB H
   obtain ⟨rfl, H⟩ | ⟨rfl, H⟩ := H
   ·focus
     simp only [Option.some.injEq, Prod.mk.injEq] at H
     obtain ⟨rfl, rfl, rfl, rfl, rfl, rfl, rfl, rfl⟩ := H
     exact Z3
   revert H; refine bnd ?_; rintro ⟨arD, Ey, zF⟩ A80 H; try dsimp only at H
   replace H := sB H
   obtain ⟨rfl, H⟩ | ⟨rfl, H⟩ := H
   ·focus
     simp only [Option.some.injEq, Prod.mk.injEq] at H
     obtain ⟨rfl, rfl, rfl, rfl, rfl, rfl, rfl, rfl⟩ := H
     exact Z3
   revert H; refine bnd ?_; rintro ⟨arE, Ou, Ez⟩ Jl H; try dsimp only at H
   replace H := sB H
   obtain ⟨rfl, H⟩ | ⟨rfl, H⟩ := H
   ·focus
     simp only [Option.some.injEq, Prod.mk.injEq] at H
     obtain ⟨rfl, rfl, rfl, rfl, rfl, rfl, rfl, rfl⟩ := H
     exact Z3
   focus
    simp only [Option.some.injEq, Prod.mk.injEq] at H
    obtain ⟨rfl, rfl, rfl, rfl, rfl, rfl, rfl, rfl⟩ := H
    exact Z3
structure jS where
 eL : bP
 eD : bN
 dD : aK
def eE : Nat → jS
 | 0 => ⟨⟨fun _ _ _ => none, fun _ _ _ _ h => (by cases h), by intros; rename_i h; cases h⟩, ⟨fun _ _ _ => none, fun _ _ _ _ h => (by cases h), by intros; rename_i h; cases h⟩, ⟨fun _ _ _ => none, fun _ _ _ _ h => (by cases h), by intros; rename_i h; cases h⟩⟩
 | n + 1 => let K := eE n; ⟨⟨fun k => aE.f K.dD k, aE.mono K.dD, aE.calls K.dD⟩, ⟨fun k => aV.f K.dD k, aV.mono K.dD, aV.calls K.dD⟩, ⟨fun k => aI.f K.eL K.eD k, aI.mono K.eL K.eD, aI.calls K.eL K.eD⟩⟩
def aE.at_ (D : Nat) : bP := (eE D).eL
def aV.at_ (D : Nat) : bN := (eE D).eD
def aI.at_ (D : Nat) : aK := (eE D).dD
end Go.Proofs.YtkjnahgicfmicaaGreatDoor.Sp

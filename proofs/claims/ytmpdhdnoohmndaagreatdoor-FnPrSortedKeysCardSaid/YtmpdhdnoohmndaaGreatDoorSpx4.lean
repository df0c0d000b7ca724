import Derived.Test.YtmpdhdnoohmndaaGreatDoorZip
import Derived.Test.YtmpdhdnoohmndaaGreatDoorQa
import Derived.Test.YtmpdhdnoohmndaaGreatDoorSpx3
namespace Go.Proofs.YtmpdhdnoohmndaaGreatDoor.Sp
set_option maxHeartbeats 8000000
set_option maxRecDepth 100000
open Go.RowKit Go.Proofs.YtmpdhdnoohmndaaGreatDoorW.PrintWords Go.Proofs.YtmpdhdnoohmndaaGreatDoorW.PrintLast Go.Proofs.YtmpdhdnoohmndaaGreatDoorW.PrintMore
attribute [local go_sem] max2_int min2_int max_two min_two max_three min_three max_four min_four
set_option linter.unusedVariables false
set_option linter.unusedSimpArgs false
def aK.f (s0_0 : au) (s0_1 : Int) (a1 : Int) : Option (Bool × au × Int) := if s0_1 < (s0_0.size : Int) then (if 0 ≤ s0_1 then (if (bt s0_0 s0_1) = a1 then (some (true, s0_0, wrap64 (s0_1 + 1))) else (some (false, s0_0, s0_1))) else (none)) else (some (false, s0_0, s0_1))
theorem aK.calls (g : Nat) (s0_0 : au) (s0_1 : Int) (a1 : Int) (r1 : Bool) (r2 : au) (r3 : Int) (w0 w : World) (hI : IsS50 w0 w g s0_0 s0_1) (hB : Below w0.heap.size w0 w) (h : aK.f s0_0 s0_1 a1 = some (r1, r2, r3)) :
 Calls Tryz.prog 65 #[.pointer (some ⟨g, 0, none⟩), .int .u8 a1] w fun e w' => e = .returned (.bool r1) ∧ IsS50 w0 w' g r2 r3 ∧ Below w0.heap.size w0 w' ∧ KeepBut w w' g none := by
 have HI0 := aa hI
 have HK := aa (KeepBut.refl w g none)
 have HL := aa hB.size
 clear hI
 have HW0 := aa hB.size
 have HB := aa hB
 clear hB
 unfold aK.f at h
 have H := h
 clear h
 revert H; refine sId1_d0 (fun dE H => ?_) fun dE H => ?_
 ·revert H; refine sNd1 fun fG H => ?_
  revert H; refine sIe1n0_e0n1 (fun eU kQ H => ?_) fun eU kQ H => ?_
  ·as_aux_lemma =>
    simp only [al, am] at H
    obtain ⟨rfl, rfl, rfl⟩ := H
    obtain ⟨jK, jL, jM, jN⟩ := cx_cellS50 HI0.out
    have p5 := af (ab Z9 : 0 ≤ (s0_1 : Int))
    have q5 := af (ab Z9 : s0_1 < (s0_0.size : Int))
    have hx5 := bt_at s0_0 s0_1
    go_enter Tryz.func65, Tryz.ntmps65
    go_wp2
    repeat (go_quiet (fail); try go_wp2)
    go_ret
    exact ⟨Z6, zI, zE, zK⟩
  as_aux_lemma =>
   simp only [al, am] at H
   obtain ⟨rfl, rfl, rfl⟩ := H
   obtain ⟨gW, gX, gY, gZ⟩ := cx_cellS50 HI0.out
   have p5 := af (ab Z9 : 0 ≤ (s0_1 : Int))
   have q5 := af (ab Z9 : s0_1 < (s0_0.size : Int))
   have hx5 := bt_at s0_0 s0_1
   go_enter Tryz.func65, Tryz.ntmps65
   go_wp2
   repeat (go_quiet (fail); try go_wp2)
   go_ret
   exact ⟨Z6, zI, zE, zK⟩
 as_aux_lemma =>
  simp only [al, am] at H
  obtain ⟨rfl, rfl, rfl⟩ := H
  obtain ⟨jO, jP, jQ, jR⟩ := cx_cellS50 HI0.out
  go_enter Tryz.func65, Tryz.ntmps65
  go_wp2
  repeat (go_quiet (fail); try go_wp2)
  go_ret
  exact ⟨Z6, zI, zE, zK⟩
def aN.l0 : Nat → Int → Int → au → Int → Option (Bool × au × Int)
 | 0, _, _, _, _ => none
 | k + 1, x3, x4, bT, bQ => if 48 ≤ x4 then (if x4 ≤ 57 then ((bG.f bT (wrap64 (bQ + 1))).bind fun bt208 => (aN.l0 k x3 bt208.1 bt208.2.1 bt208.2.2)) else (some (decide (bQ > x3), bT, bQ))) else (some (decide (bQ > x3), bT, bQ))
def aN.f (k : Nat) (s0_0 : au) (s0_1 : Int) : Option (Bool × au × Int) := (bG.f s0_0 s0_1).bind fun bt205 => (aN.l0 k s0_1 bt205.1 bt205.2.1 bt205.2.2)
theorem aN.mono_l : ∀ k, (∀ y0 y1 y2 y3, LeO (aN.l0 k y0 y1 y2 y3) (aN.l0 (k + 1) y0 y1 y2 y3))
 | 0 => fun _ _ _ _ r h => by simp [aN.l0] at h
 | k + 1 => by
  have ih0 := aN.mono_l k
  ·intro y0 y1 y2 y3
   unfold aN.l0
   exact zM
theorem aN.mono : ∀ a0 a1 k, LeO (aN.f k a0 a1) (aN.f (k + 1) a0 a1) := by
 intro a0 a1 k
 have ih0 := aN.mono_l k
 unfold aN.f
 exact zM
instance aN.mi  {a0 a1 k} : LeI (aN.f k a0 a1) (aN.f (k + 1) a0 a1) := ⟨⟨aN.mono a0 a1 k⟩⟩
theorem aN.calls (k : Nat) (g : Nat) (s0_0 : au) (s0_1 : Int) (r1 : Bool) (r2 : au) (r3 : Int) (w0 w : World) (hI : IsS50 w0 w g s0_0 s0_1) (hB : Below w0.heap.size w0 w) (h : aN.f k s0_0 s0_1 = some (r1, r2, r3)) :
 Calls Tryz.prog 67 #[.pointer (some ⟨g, 0, none⟩)] w fun e w' => e = .returned (.bool r1) ∧ IsS50 w0 w' g r2 r3 ∧ Below w0.heap.size w0 w' ∧ KeepBut w w' g none := by
 have HI0 := aa hI
 have HK := aa (KeepBut.refl w g none)
 have HL := aa hB.size
 clear hI
 have HW0 := aa hB.size
 have HB := aa hB
 clear hB
 unfold aN.f at h
 have H := h
 clear h
 revert H; refine bnd ?_; rintro ⟨xU, xV, xW⟩ A2 H; try dsimp only at H
 have H' := aa H
 clear H
 obtain ⟨vF, vG, vH, vI⟩ := cx_cellS50 HI0.out
 go_enter Tryz.func67, Tryz.ntmps67
 go_wp2_with (first | (refine gl 51 (some 10) Tryz.func51 #[.pointer (some ⟨g, 0, none⟩)] ?_; (with_reducible refine (bG.calls g s0_0 s0_1 xU xV xW w0 _ zI zE A2.out).mono ?_); rintro e w4 ⟨rfl, hi, hb, hk⟩; refine ⟨_, rfl, ?_⟩; replace HK := aa (KeepBut.trans (w := w) zK hk (.inl rfl)); replace HB := aa (hb); replace HI0 := aa (hi); clear hb hk hi))
 (try simp only [Act.put, ao, ap, aq])
 go_loopg [4] k (fun kq v4 w' => ∃ (fT : Int) (bJ : au) (bE : Int), v4 = .int .u8 fT ∧ Aside0 (aN.l0 kq s0_1 fT bJ bE = some (r1, r2, r3)) ∧ Aside0 (kq ≤ k) ∧ Aside0 (IsS50 w0 w' g bJ bE) ∧ Aside0 (KeepBut w w' g none) ∧ Aside0 (Below w0.heap.size w0 w'))
 case atStart => exact ⟨(xU), (xV), (xW), Z8, H', ⟨Nat.le_refl _⟩, ⟨zI⟩, ⟨zK⟩, ⟨zE⟩⟩
 case round =>
  clear H'
  try clear vF vG vH vI
  obtain ⟨fT, bJ, bE, rfl, HA, HK1, HI0, HK, HB⟩ := hrel
  cases gk with
  | zero => exact absurd HA.out (by simp [aN.l0])
  | succ k1 =>
   have H := HA.out
   clear HA
   simp only [aN.l0] at H
   revert H; refine sId1_d0 (fun gI H => ?_) fun gI H => ?_
   ·revert H; refine sId1_d0 (fun eU H => ?_) fun eU H => ?_
    ·revert H; refine bnd ?_; rintro ⟨xX, xY, oC⟩ A7 H; try dsimp only at H
     as_aux_lemma =>
      have H' := aa H
      clear H
      obtain ⟨gW, gX, gY, gZ⟩ := cx_cellS50 HI0.out
      go_wp2_with (first | (refine gl 51 (some 18) Tryz.func51 #[.pointer (some ⟨g, 0, none⟩)] ?_; (with_reducible refine (bG.calls g bJ (wrap64 (bE + 1)) xX xY oC w0 _ zI zE A7.out).mono ?_); rintro e w9 ⟨rfl, hi, hb, hk⟩; refine ⟨_, rfl, ?_⟩; replace HK := aa (KeepBut.trans (w := w) zK hk (.inl rfl)); replace HB := aa (hb); replace HI0 := aa (hi); clear hb hk hi))
      go_roundg k1
      case measure => have := HK1.out; omega
      case rel => exact ⟨(xX), (xY), (oC), Z8, H', ⟨by have := HK1.out; omega⟩, ⟨zI⟩, ⟨zK⟩, ⟨zE⟩⟩
    as_aux_lemma =>
     simp only [al, am] at H
     obtain ⟨rfl, rfl, rfl⟩ := H
     obtain ⟨mF, mG, mH, mI⟩ := cx_cellS50 HI0.out
     go_wp2
     go_ret
     exact ⟨Z6, zI, zE, zK⟩
   as_aux_lemma =>
    simp only [al, am] at H
    obtain ⟨rfl, rfl, rfl⟩ := H
    obtain ⟨mJ, mK, mM, mO⟩ := cx_cellS50 HI0.out
    go_wp2
    go_ret
    exact ⟨Z6, zI, zE, zK⟩
mutual
def aD.j0 : Nat → Bool → au → Int → Option (Bool × au × Int)
 | 0, _, _, _ => none
 | k + 1, x12, bT, bQ => if x12 = true then (some (false, bT, bQ)) else ((aK.f bT bQ 46).bind fun bt220 => (if bt220.1 = true then ((aN.f k bt220.2.1 bt220.2.2).bind fun bt223 => (aD.j1 k (!bt223.1) bt223.2.1 bt223.2.2)) else (aD.j1 k false bt220.2.1 bt220.2.2)))
def aD.j1 : Nat → Bool → au → Int → Option (Bool × au × Int)
 | 0, _, _, _ => none
 | k + 1, x19, bT, bQ => if x19 = true then (some (false, bT, bQ)) else ((aK.f bT bQ 101).bind fun bt226 => (if bt226.1 = true then (aD.j2 k true bt226.2.1 bt226.2.2) else ((aK.f bt226.2.1 bt226.2.2 69).bind fun bt229 => (aD.j2 k bt229.1 bt229.2.1 bt229.2.2))))
def aD.j2 : Nat → Bool → au → Int → Option (Bool × au × Int)
 | 0, _, _, _ => none
 | k + 1, x25, bT, bQ => if x25 = true then ((aK.f bT bQ 43).bind fun bt232 => (if bt232.1 = true then ((aN.f k bt232.2.1 bt232.2.2).bind fun bt235 => (some (bt235.1, bt235.2.1, bt235.2.2))) else ((aK.f bt232.2.1 bt232.2.2 45).bind fun bt238 => ((aN.f k bt238.2.1 bt238.2.2).bind fun bt241 => (some (bt241.1, bt241.2.1, bt241.2.2)))))) else (some (true, bT, bQ))
end
def aD.f (k : Nat) (s0_0 : au) (s0_1 : Int) : Option (Bool × au × Int) := (aK.f s0_0 s0_1 45).bind fun bt211 => ((aK.f bt211.2.1 bt211.2.2 48).bind fun bt214 => (if bt214.1 = true then (aD.j0 k false bt214.2.1 bt214.2.2) else ((aN.f k bt214.2.1 bt214.2.2).bind fun bt217 => (aD.j0 k (!bt217.1) bt217.2.1 bt217.2.2))))
theorem aD.mono_l : ∀ k, (∀ y0 y1 y2, LeO (aD.j0 k y0 y1 y2) (aD.j0 (k + 1) y0 y1 y2)) ∧ (∀ y0 y1 y2, LeO (aD.j1 k y0 y1 y2) (aD.j1 (k + 1) y0 y1 y2)) ∧ (∀ y0 y1 y2, LeO (aD.j2 k y0 y1 y2) (aD.j2 (k + 1) y0 y1 y2))
 | 0 => ⟨fun _ _ _ r h => by simp [aD.j0] at h, fun _ _ _ r h => by simp [aD.j1] at h, fun _ _ _ r h => by simp [aD.j2] at h⟩
 | k + 1 => by
  obtain ⟨ih0, ih1, ih2⟩ := aD.mono_l k
  refine ⟨?_, ?_, ?_⟩
  ·intro y0 y1 y2
   unfold aD.j0
   exact zM
  ·intro y0 y1 y2
   unfold aD.j1
   exact zM
  ·intro y0 y1 y2
   unfold aD.j2
   exact zM
theorem aD.mono : ∀ a0 a1 k, LeO (aD.f k a0 a1) (aD.f (k + 1) a0 a1) := by
 intro a0 a1 k
 obtain ⟨ih0, ih1, ih2⟩ := aD.mono_l k
 unfold aD.f
 exact zM
instance aD.mi  {a0 a1 k} : LeI (aD.f k a0 a1) (aD.f (k + 1) a0 a1) := ⟨⟨aD.mono a0 a1 k⟩⟩
theorem aD.calls (k : Nat) (g : Nat) (s0_0 : au) (s0_1 : Int) (r1 : Bool) (r2 : au) (r3 : Int) (w0 w : World) (hI : IsS50 w0 w g s0_0 s0_1) (hB : Below w0.heap.size w0 w) (h : aD.f k s0_0 s0_1 = some (r1, r2, r3)) :
 Calls Tryz.prog 55 #[.pointer (some ⟨g, 0, none⟩)] w fun e w' => e = .returned (.bool r1) ∧ IsS50 w0 w' g r2 r3 ∧ Below w0.heap.size w0 w' ∧ KeepBut w w' g none := by
 have HI0 := aa hI
 have HK := aa (KeepBut.refl w g none)
 have HL := aa hB.size
 clear hI
 have HW0 := aa hB.size
 have HB := aa hB
 clear hB
 unfold aD.f at h
 have H := h
 clear h
 revert H; refine bnd ?_; rintro ⟨Pq, pV, pW⟩ A2 H; try dsimp only at H
 have jD := aa H
 clear H
 go_enter Tryz.func55, Tryz.ntmps55
 go_upto_region 2 with (first | (refine gl 65 (some 4) Tryz.func65 #[.pointer (some ⟨g, 0, none⟩), .int .u8 45] ?_; (with_reducible refine (aK.calls g s0_0 s0_1 45 Pq pV pW w0 _ zI zE A2.out).mono ?_); rintro e w4 ⟨rfl, hi, hb, hk⟩; refine ⟨_, rfl, ?_⟩; replace HK := aa (KeepBut.trans (w := w) zK hk (.inl rfl)); replace HB := aa (hb); replace HI0 := aa (hi); clear hb hk hi))
 (try simp only [Act.put, ao, ap, aq])
 go_cut [12] (fun v12 wc => ∃ (kq : Nat) (oQ : Bool) (dM : au) (dN : Int), v12 = .bool oQ ∧ Aside0 (aD.j0 kq oQ dM dN = some (r1, r2, r3)) ∧ Aside0 (kq ≤ k) ∧ Aside0 (IsS50 w0 wc g dM dN) ∧ Aside0 (KeepBut w wc g none) ∧ Aside0 (Below w0.heap.size w0 wc))
 case first =>
  have H := jD.out
  clear jD
  revert H; refine bnd ?_; rintro ⟨Wi, qU, qV⟩ A5 H; try dsimp only at H
  replace H := sB H
  obtain ⟨rfl, H⟩ | ⟨rfl, H⟩ := H
  ·as_aux_lemma =>
    have H' := aa H
    clear H
    go_wp2_with (first | (refine gl 65 (some 6) Tryz.func65 #[.pointer (some ⟨g, 0, none⟩), .int .u8 48] ?_; (with_reducible refine (aK.calls g pV pW 48 true qU qV w0 _ zI zE A5.out).mono ?_); rintro e w7 ⟨rfl, hi, hb, hk⟩; refine ⟨_, rfl, ?_⟩; replace HK := aa (KeepBut.trans (w := w) zK hk (.inl rfl)); replace HB := aa (hb); replace HI0 := aa (hi); clear hb hk hi))
    go_meet
    case rel => exact ⟨_, (false), (qU), (qV), Z8, H', ⟨Z23⟩, ⟨zI⟩, ⟨zK⟩, ⟨zE⟩⟩
  revert H; refine bnd ?_; rintro ⟨xZ, yA, yB⟩ A8 H; try dsimp only at H
  as_aux_lemma =>
   have H' := aa H
   clear H
   go_wp2_with (first | (refine gl 65 (some 6) Tryz.func65 #[.pointer (some ⟨g, 0, none⟩), .int .u8 48] ?_; (with_reducible refine (aK.calls g pV pW 48 false qU qV w0 _ zI zE A5.out).mono ?_); rintro e w9 ⟨rfl, hi, hb, hk⟩; refine ⟨_, rfl, ?_⟩; replace HK := aa (KeepBut.trans (w := w) zK hk (.inl rfl)); replace HB := aa (hb); replace HI0 := aa (hi); clear hb hk hi) | (go_at_call 67; (with_reducible refine (aN.calls k g qU qV xZ yA yB w0 _ zI zE A8.out).mono ?_); rintro e w10 ⟨rfl, hi, hb, hk⟩; replace HK := aa (KeepBut.trans (w := w) zK hk (.inl rfl)); replace HB := aa (hb); replace HI0 := aa (hi); clear hb hk hi))
   go_meet
   case rel => exact ⟨_, (!xZ), (yA), (yB), Z8, H', ⟨Z23⟩, ⟨zI⟩, ⟨zK⟩, ⟨zE⟩⟩
 case rest =>
  clear jD
  obtain ⟨kq, oQ, dM, dN, rfl, HA, HJ2, HI0, HK, HB⟩ := hcut
  cases kq with
  | zero => exact absurd HA.out (by simp [aD.j0])
  | succ kj2 =>
   have H := HA.out
   clear HA
   simp only [aD.j0] at H
   replace H := sB H
   obtain ⟨rfl, H⟩ | ⟨rfl, H⟩ := H
   ·as_aux_lemma =>
     simp only [al, am] at H
     obtain ⟨rfl, rfl, rfl⟩ := H
     go_wp2
     go_ret
     exact ⟨Z6, zI, zE, zK⟩
   have lK := aa H
   clear H
   go_upto_region 4 with (fail)
   go_cut [19] (fun v19 wc => ∃ (kq : Nat) (lL : Bool) (fK : au) (fL : Int), v19 = .bool lL ∧ Aside0 (aD.j1 kq lL fK fL = some (r1, r2, r3)) ∧ Aside0 (kq ≤ kj2) ∧ Aside0 (IsS50 w0 wc g fK fL) ∧ Aside0 (KeepBut w wc g none) ∧ Aside0 (Below w0.heap.size w0 wc))
   case first =>
    have H := lK.out
    clear lK
    revert H; refine bnd ?_; rintro ⟨Wj, qW, qX⟩ vJ H; try dsimp only at H
    replace H := sB H
    obtain ⟨rfl, H⟩ | ⟨rfl, H⟩ := H
    ·revert H; refine bnd ?_; rintro ⟨yC, yD, yE⟩ tW H; try dsimp only at H
     as_aux_lemma =>
      have H' := aa H
      clear H
      go_wp2_with (first | (refine gl 65 (some 14) Tryz.func65 #[.pointer (some ⟨g, 0, none⟩), .int .u8 46] ?_; (with_reducible refine (aK.calls g dM dN 46 true qW qX w0 _ zI zE vJ.out).mono ?_); rintro e w16 ⟨rfl, hi, hb, hk⟩; refine ⟨_, rfl, ?_⟩; replace HK := aa (KeepBut.trans (w := w) zK hk (.inl rfl)); replace HB := aa (hb); replace HI0 := aa (hi); clear hb hk hi) | (go_at_call 67; (with_reducible refine (aN.calls kj2 g qW qX yC yD yE w0 _ zI zE tW.out).mono ?_); rintro e w17 ⟨rfl, hi, hb, hk⟩; replace HK := aa (KeepBut.trans (w := w) zK hk (.inl rfl)); replace HB := aa (hb); replace HI0 := aa (hi); clear hb hk hi))
      go_meet
      case rel => exact ⟨_, (!yC), (yD), (yE), Z8, H', ⟨by have := HJ2.out; first | omega | exact Nat.le_refl _⟩, ⟨zI⟩, ⟨zK⟩, ⟨zE⟩⟩
    as_aux_lemma =>
     have H' := aa H
     clear H
     go_wp2_with (first | (refine gl 65 (some 14) Tryz.func65 #[.pointer (some ⟨g, 0, none⟩), .int .u8 46] ?_; (with_reducible refine (aK.calls g dM dN 46 false qW qX w0 _ zI zE vJ.out).mono ?_); rintro e w18 ⟨rfl, hi, hb, hk⟩; refine ⟨_, rfl, ?_⟩; replace HK := aa (KeepBut.trans (w := w) zK hk (.inl rfl)); replace HB := aa (hb); replace HI0 := aa (hi); clear hb hk hi))
     go_meet
     case rel => exact ⟨_, (false), (qW), (qX), Z8, H', ⟨by have := HJ2.out; first | omega | exact Nat.le_refl _⟩, ⟨zI⟩, ⟨zK⟩, ⟨zE⟩⟩
   case rest =>
    clear lK
    obtain ⟨kq, lL, fK, fL, rfl, HA, HJ11, HI0, HK, HB⟩ := hcut
    cases kq with
    | zero => exact absurd HA.out (by simp [aD.j1])
    | succ kj11 =>
     have H := HA.out
     clear HA
     simp only [aD.j1] at H
     replace H := sB H
     obtain ⟨rfl, H⟩ | ⟨rfl, H⟩ := H
     ·as_aux_lemma =>
       simp only [al, am] at H
       obtain ⟨rfl, rfl, rfl⟩ := H
       go_wp2
       go_ret
       exact ⟨Z6, zI, zE, zK⟩
     have vK := aa H
     clear H
     go_upto_region 6 with (fail)
     go_cut [25] (fun v25 wc => ∃ (kq : Nat) (lM : Bool) (fM : au) (fN : Int), v25 = .bool lM ∧ Aside0 (aD.j2 kq lM fM fN = some (r1, r2, r3)) ∧ Aside0 (kq ≤ kj11) ∧ Aside0 (IsS50 w0 wc g fM fN) ∧ Aside0 (KeepBut w wc g none) ∧ Aside0 (Below w0.heap.size w0 wc))
     case first =>
      have H := vK.out
      clear vK
      revert H; refine bnd ?_; rintro ⟨Wk, qY, qZ⟩ wN H; try dsimp only at H
      replace H := sB H
      obtain ⟨rfl, H⟩ | ⟨rfl, H⟩ := H
      ·as_aux_lemma =>
        have H' := aa H
        clear H
        go_wp2_with (first | (refine gl 65 (some 21) Tryz.func65 #[.pointer (some ⟨g, 0, none⟩), .int .u8 101] ?_; (with_reducible refine (aK.calls g fK fL 101 true qY qZ w0 _ zI zE wN.out).mono ?_); rintro e w23 ⟨rfl, hi, hb, hk⟩; refine ⟨_, rfl, ?_⟩; replace HK := aa (KeepBut.trans (w := w) zK hk (.inl rfl)); replace HB := aa (hb); replace HI0 := aa (hi); clear hb hk hi))
        go_meet
        case rel => exact ⟨_, (true), (qY), (qZ), Z8, H', ⟨by have := HJ2.out; have := HJ11.out; first | omega | exact Nat.le_refl _⟩, ⟨zI⟩, ⟨zK⟩, ⟨zE⟩⟩
      revert H; refine bnd ?_; rintro ⟨yF, yG, yH⟩ Ps H; try dsimp only at H
      as_aux_lemma =>
       have H' := aa H
       clear H
       go_wp2_with (first | (refine gl 65 (some 21) Tryz.func65 #[.pointer (some ⟨g, 0, none⟩), .int .u8 101] ?_; (with_reducible refine (aK.calls g fK fL 101 false qY qZ w0 _ zI zE wN.out).mono ?_); rintro e w25 ⟨rfl, hi, hb, hk⟩; refine ⟨_, rfl, ?_⟩; replace HK := aa (KeepBut.trans (w := w) zK hk (.inl rfl)); replace HB := aa (hb); replace HI0 := aa (hi); clear hb hk hi) | (go_at_call 65; (with_reducible refine (aK.calls g qY qZ 69 yF yG yH w0 _ zI zE Ps.out).mono ?_); rintro e w26 ⟨rfl, hi, hb, hk⟩; replace HK := aa (KeepBut.trans (w := w) zK hk (.inl rfl)); replace HB := aa (hb); replace HI0 := aa (hi); clear hb hk hi))
       go_meet
       case rel => exact ⟨_, (yF), (yG), (yH), Z8, H', ⟨by have := HJ2.out; have := HJ11.out; first | omega | exact Nat.le_refl _⟩, ⟨zI⟩, ⟨zK⟩, ⟨zE⟩⟩
     case rest =>
      clear vK
      obtain ⟨kq, lM, fM, fN, rfl, HA, HJ19, HI0, HK, HB⟩ := hcut
      cases kq with
      | zero => exact absurd HA.out (by simp [aD.j2])
      | succ kj19 =>
       have H := HA.out
       clear HA
       simp only [aD.j2] at H
       replace H := sB H
       obtain ⟨rfl, H⟩ | ⟨rfl, H⟩ := H
       ·revert H; refine bnd ?_; rintro ⟨Pm, oD, rA⟩ pR H; try dsimp only at H
        replace H := sB H
        obtain ⟨rfl, H⟩ | ⟨rfl, H⟩ := H
        ·revert H; refine bnd ?_; rintro ⟨Pt, Pu, Pw⟩ Px H; try dsimp only at H
         as_aux_lemma =>
          simp only [al, am] at H
          obtain ⟨rfl, rfl, rfl⟩ := H
          go_wp2_with (first | (refine gl 65 (some 27) Tryz.func65 #[.pointer (some ⟨g, 0, none⟩), .int .u8 43] ?_; (with_reducible refine (aK.calls g fM fN 43 true oD rA w0 _ zI zE pR.out).mono ?_); rintro e w31 ⟨rfl, hi, hb, hk⟩; refine ⟨_, rfl, ?_⟩; replace HK := aa (KeepBut.trans (w := w) zK hk (.inl rfl)); replace HB := aa (hb); replace HI0 := aa (hi); clear hb hk hi) | (refine gl 67 (some 32) Tryz.func67 #[.pointer (some ⟨g, 0, none⟩)] ?_; (with_reducible refine (aN.calls kj19 g oD rA Pt Pu Pw w0 _ zI zE Px.out).mono ?_); rintro e w32 ⟨rfl, hi, hb, hk⟩; refine ⟨_, rfl, ?_⟩; replace HK := aa (KeepBut.trans (w := w) zK hk (.inl rfl)); replace HB := aa (hb); replace HI0 := aa (hi); clear hb hk hi))
          go_ret
          exact ⟨Z6, zI, zE, zK⟩
        revert H; refine bnd ?_; rintro ⟨Py, yI, yJ⟩ Wl H; try dsimp only at H
        revert H; refine bnd ?_; rintro ⟨Pz, Qa, Qb⟩ Wm H; try dsimp only at H
        as_aux_lemma =>
         simp only [al, am] at H
         obtain ⟨rfl, rfl, rfl⟩ := H
         go_wp2_with (first | (refine gl 65 (some 27) Tryz.func65 #[.pointer (some ⟨g, 0, none⟩), .int .u8 43] ?_; (with_reducible refine (aK.calls g fM fN 43 false oD rA w0 _ zI zE pR.out).mono ?_); rintro e w35 ⟨rfl, hi, hb, hk⟩; refine ⟨_, rfl, ?_⟩; replace HK := aa (KeepBut.trans (w := w) zK hk (.inl rfl)); replace HB := aa (hb); replace HI0 := aa (hi); clear hb hk hi) | (refine gl 65 (some 30) Tryz.func65 #[.pointer (some ⟨g, 0, none⟩), .int .u8 45] ?_; (with_reducible refine (aK.calls g oD rA 45 Py yI yJ w0 _ zI zE Wl.out).mono ?_); rintro e w36 ⟨rfl, hi, hb, hk⟩; refine ⟨_, rfl, ?_⟩; replace HK := aa (KeepBut.trans (w := w) zK hk (.inl rfl)); replace HB := aa (hb); replace HI0 := aa (hi); clear hb hk hi) | (refine gl 67 (some 32) Tryz.func67 #[.pointer (some ⟨g, 0, none⟩)] ?_; (with_reducible refine (aN.calls kj19 g yI yJ Pz Qa Qb w0 _ zI zE Wm.out).mono ?_); rintro e w37 ⟨rfl, hi, hb, hk⟩; refine ⟨_, rfl, ?_⟩; replace HK := aa (KeepBut.trans (w := w) zK hk (.inl rfl)); replace HB := aa (hb); replace HI0 := aa (hi); clear hb hk hi))
         go_ret
         exact ⟨Z6, zI, zE, zK⟩
       as_aux_lemma =>
        simp only [al, am] at H
        obtain ⟨rfl, rfl, rfl⟩ := H
        go_wp2
        go_ret
        exact ⟨Z6, zI, zE, zK⟩
def bH.f (s0_0 : au) (s0_1 : Int) (a1 : au) : Option (Bool × au × Int) := if (wrap64 ((s0_0.size : Int) - s0_1)) < (a1.size : Int) then (some (false, s0_0, s0_1)) else (if 0 ≤ s0_1 then (if s0_1 ≤ (wrap64 (s0_1 + (a1.size : Int))) then (if (wrap64 (s0_1 + (a1.size : Int))) ≤ (s0_0.size : Int) then (if (s0_0.extract (s0_1 : Int).toNat ((wrap64 (s0_1 + (a1.size : Int))) : Int).toNat).toList = a1.toList then (some (true, s0_0, wrap64 (s0_1 + (a1.size : Int)))) else (some (false, s0_0, s0_1))) else (none)) else (none)) else (none))
theorem bH.calls (g : Nat) (s0_0 : au) (s0_1 : Int) (a1 : au) (r1 : Bool) (r2 : au) (r3 : Int) (w0 w : World) (hI : IsS50 w0 w g s0_0 s0_1) (hB : Below w0.heap.size w0 w) (h : bH.f s0_0 s0_1 a1 = some (r1, r2, r3)) :
 Calls Tryz.prog 56 #[.pointer (some ⟨g, 0, none⟩), .string a1] w fun e w' => e = .returned (.bool r1) ∧ IsS50 w0 w' g r2 r3 ∧ Below w0.heap.size w0 w' ∧ KeepBut w w' g none := by
 have HI0 := aa hI
 have HK := aa (KeepBut.refl w g none)
 have HL := aa hB.size
 clear hI
 have HW0 := aa hB.size
 have HB := aa hB
 clear hB
 unfold bH.f at h
 have H := h
 clear h
 revert H; refine sId1_d0 (fun dE H => ?_) fun dE H => ?_
 ·as_aux_lemma =>
   simp only [al, am] at H
   obtain ⟨rfl, rfl, rfl⟩ := H
   obtain ⟨vL, vM, vN, vO⟩ := cx_cellS50 HI0.out
   go_enter Tryz.func56, Tryz.ntmps56
   go_wp2
   repeat (go_quiet (fail); try go_wp2)
   go_ret
   exact ⟨Z6, zI, zE, zK⟩
 revert H; refine sNt1d1 fun gI nQ H => ?_
 revert H; refine sNt1d1 fun eU kQ H => ?_
 revert H; refine sNt1d1 fun iM qB H => ?_
 revert H; refine sIe1n0_e0n1 (fun iK lE H => ?_) fun iK lE H => ?_
 ·as_aux_lemma =>
   simp only [al, am] at H
   obtain ⟨rfl, rfl, rfl⟩ := H
   obtain ⟨jO, jP, jQ, jR⟩ := cx_cellS50 HI0.out
   go_enter Tryz.func56, Tryz.ntmps56
   go_wp2
   repeat (go_quiet (fail); try go_wp2)
   go_ret
   exact ⟨Z6, zI, zE, zK⟩
 as_aux_lemma =>
  simp only [al, am] at H
  obtain ⟨rfl, rfl, rfl⟩ := H
  obtain ⟨mF, mG, mH, mI⟩ := cx_cellS50 HI0.out
  go_enter Tryz.func56, Tryz.ntmps56
  go_wp2
  repeat (go_quiet (fail); try go_wp2)
  go_ret
  exact ⟨Z6, zI, zE, zK⟩
end Go.Proofs.YtmpdhdnoohmndaaGreatDoor.Sp

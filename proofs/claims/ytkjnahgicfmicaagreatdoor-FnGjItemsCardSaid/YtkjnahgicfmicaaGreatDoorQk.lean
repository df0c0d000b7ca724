import Derived.Test.YtkjnahgicfmicaaGreatDoorZip
import Derived.Test.YtkjnahgicfmicaaGreatDoorQa
import Derived.Test.YtkjnahgicfmicaaGreatDoorQb
namespace Go.Proofs.YtkjnahgicfmicaaGreatDoor.Sp
set_option maxHeartbeats 8000000
set_option maxRecDepth 100000
open Go.RowKit Go.Proofs.YtkjnahgicfmicaaGreatDoorW.PrintWords Go.Proofs.YtkjnahgicfmicaaGreatDoorW.PrintLast Go.Proofs.YtkjnahgicfmicaaGreatDoorW.PrintMore
attribute [local go_sem] max2_int min2_int max_two min_two max_three min_three max_four min_four
set_option linter.unusedVariables false
set_option linter.unusedSimpArgs false
def IsS50 (w0 W : World) (g : Nat) (f0 : ByteArray) (f1 : Int) : Prop := W.heap[g]? = some (.cells #[.string f0, .int .i64 f1] 50 (0, 0)) ∧ w0.heap.size ≤ g
theorem IsS50.grown {w0 W : World} {g : Nat} {f0 : ByteArray} {f1 : Int} {W1 : World} {row : Option Nat} (h : IsS50 w0 W g f0 f1) (hw : W.grownBy W1 row) (hne : some g ≠ row) : IsS50 w0 W1 g f0 f1 := by
 obtain ⟨hb, hg⟩ := h
 exact ⟨blk_grown hb hw hne, hg⟩
theorem IsS50.kept {w0 W : World} {g : Nat} {f0 : ByteArray} {f1 : Int} {W1 : World} {S : Nat → Prop} (h : IsS50 w0 W g f0 f1) (hk : Kept W W1 S) (hne : ¬ S g) : IsS50 w0 W1 g f0 f1 := by
 obtain ⟨hb, hg⟩ := h
 exact ⟨blk_kept hb hk hne, hg⟩
theorem IsS50.below {w0 W : World} {g : Nat} {f0 : ByteArray} {f1 : Int} {W1 : World} (h : IsS50 w0 W g f0 f1) (hw : Below W.heap.size W W1) : IsS50 w0 W1 g f0 f1 := h.grown (grown_of_below hw none) (by simp)
theorem IsS50.alloc {w0 W : World} {g : Nat} {f0 : ByteArray} {f1 : Int} (h : IsS50 w0 W g f0 f1) (o : Obj) : IsS50 w0 (W.alloc o) g f0 f1 := h.below (below_alloc (Below.refl _ _) o)
theorem IsS50.drewN {w0 W : World} {g : Nat} {f0 : ByteArray} {f1 : Int} (h : IsS50 w0 W g f0 f1) (m : Nat) : IsS50 w0 (W.drewN m) g f0 f1 := h
theorem IsS50.drew {w0 W : World} {g : Nat} {f0 : ByteArray} {f1 : Int} (h : IsS50 w0 W g f0 f1) : IsS50 w0 W.drew g f0 f1 := h
theorem IsS50.at_ {w0 W : World} {g : Nat} {f0 : ByteArray} {f1 : Int} {w' : World} {m : Nat} (hq : W.drewN m = w') (h : IsS50 w0 W g f0 f1) : IsS50 w0 w' g f0 f1 := by subst hq; exact IsS50.drewN h m
theorem IsS50.apart {w0 W : World} {g : Nat} {f0 : ByteArray} {f1 : Int} {α : Type} {d : Kd α} {e : Nat} {base : Nat} {ok : Nat → Prop} {v : Value} {xs : List α} (h : IsS50 w0 W g f0 f1) (ho : d.R e W base ok v xs) (ht : ∀ q, q ∈ e :: d.E → q ≠ 50) : d.R e W base (fun k => ok k ∧ k ≠ g) v xs := by
 obtain ⟨hb, hg⟩ := h
 exact Kd.R_types ho hb ht
theorem IsS50.own_ne {w0 W : World} {g : Nat} {f0 : ByteArray} {f1 : Int} {α : Type} {d : Kd α} {e : Nat} {base : Nat} {ok : Nat → Prop} {v : Value} {xs : List α} (h : IsS50 w0 W g f0 f1) (ho : d.R e W base ok v xs) (ht : e ≠ 50) : some g ≠ v.ownBlock := by
 obtain ⟨hb, hg⟩ := h
 exact Kd.R_ne ho hb ht
theorem IsS50.lt {w0 W : World} {g : Nat} {f0 : ByteArray} {f1 : Int} (h : IsS50 w0 W g f0 f1) : g < W.heap.size := by
 obtain ⟨hb, hg⟩ := h
 exact blk_lt hb
theorem IsS50.ge {w0 W : World} {g : Nat} {f0 : ByteArray} {f1 : Int} (h : IsS50 w0 W g f0 f1) : w0.heap.size ≤ g := by
 obtain ⟨hb, hg⟩ := h
 exact hg
theorem IsS50.far {w0 W : World} {g : Nat} {f0 : ByteArray} {f1 : Int} {p : Addr} (h : IsS50 w0 W g f0 f1) (hne : g ≠ p.block) (u : Value) : IsS50 w0 (W.setCell p u) g f0 f1 := by
 obtain ⟨hb, hg⟩ := h
 exact ⟨blk_far hb hne u, hg⟩
theorem cellS50_0 {W : World} {g : Nat} {f0 : ByteArray} {f1 : Int} (h : W.heap[g]? = some (.cells #[.string f0, .int .i64 f1] 50 (0, 0))) : W.cell? ⟨g, 0, none⟩ = some (.string f0) := (blk_cell h 0).trans rfl
theorem IsS50.set_0 {w0 W : World} {g : Nat} {f0 : ByteArray} {f1 : Int} (h : IsS50 w0 W g f0 f1) (x : ByteArray) : IsS50 w0 (W.setCell ⟨g, 0, none⟩ (.string x)) g x f1 := by
 obtain ⟨hb, hg⟩ := h
 exact ⟨by simpa using blk_set hb 0 (.string x), hg⟩
theorem cellS50_1 {W : World} {g : Nat} {f0 : ByteArray} {f1 : Int} (h : W.heap[g]? = some (.cells #[.string f0, .int .i64 f1] 50 (0, 0))) : W.cell? ⟨g, 1, none⟩ = some (.int .i64 f1) := (blk_cell h 1).trans rfl
theorem IsS50.set_1 {w0 W : World} {g : Nat} {f0 : ByteArray} {f1 : Int} (h : IsS50 w0 W g f0 f1) (x : Int) : IsS50 w0 (W.setCell ⟨g, 1, none⟩ (.int .i64 x)) g f0 x := by
 obtain ⟨hb, hg⟩ := h
 exact ⟨by simpa using blk_set hb 1 (.int .i64 x), hg⟩
theorem IsS50.new (w0 W : World) (f0 : ByteArray) (f1 : Int) (hB : Below w0.heap.size w0 W) : IsS50 w0 (W.alloc (.cells #[.string f0, .int .i64 f1] 50)) W.heap.size f0 f1 := ⟨by simpa using heap_alloc_new W _, hB.size⟩
theorem cx_cellS50 {w0 W : World} {g : Nat} {f0 : ByteArray} {f1 : Int} (h : IsS50 w0 W g f0 f1) : W.cell? ⟨g, 0, none⟩ = some (.string f0) ∧ W.cell? ⟨g, 1, none⟩ = some (.int .i64 f1) ∧ W.frozen? ⟨g, 0, none⟩ = false ∧ W.frozen? ⟨g, 1, none⟩ = false :=
 ⟨cellS50_0 h.1, cellS50_1 h.1, blk_frozen h.1 0, blk_frozen h.1 1⟩
theorem zE {p : Prop} (h : p := by repeat (first | (with_reducible first | exact Aside0.out (by assumption) | apply below_alloc | apply pw_below_drewN | apply below_drew1 | refine below_set ?_ (IsS50.ge (Aside0.out (by assumption))) | refine below_set ?_ (Aside0.out (by assumption))) | exact Aside0.out (by assumption))) : p := h
theorem zI {p : Prop} (h : p := by repeat (first | (with_reducible first | exact Aside0.out (by assumption) | apply IsS50.alloc | apply IsS50.drewN | apply IsS50.drew | apply IsS50.set_0 | apply IsS50.set_1 | refine IsS50.far ?_ (Aside0.out (by assumption)) _) | exact Aside0.out (by assumption))) : p := h
def aA.l0 : Nat → ByteArray → Int → Option (ByteArray × Int)
 | 0, _, _ => none
 | k + 1, dC, cT => if cT < (dC.size : Int) then (if 0 ≤ cT then ((dI.f (bt dC cT)).bind fun Na => (if Na = true then (aA.l0 k dC (wrap64 (cT + 1))) else (some (dC, cT)))) else (none)) else (some (dC, cT))
def aA.f (k : Nat) (s0_0 : ByteArray) (s0_1 : Int) : Option (ByteArray × Int) := aA.l0 k s0_0 s0_1
theorem aA.mono_l : ∀ k, (∀ y0 y1, LeO (aA.l0 k y0 y1) (aA.l0 (k + 1) y0 y1))
 | 0 => fun _ _ r h => by simp [aA.l0] at h
 | k + 1 => by
  have ih0 := aA.mono_l k
  ·intro y0 y1
   unfold aA.l0
   repeat' first
   | (with_reducible exact ih0 _ _)
   | (with_reducible exact LeO.refl _)
   | (with_reducible exact LeO.none _)
   | (with_reducible refine LeO.ite ?_ ?_)
   | (with_reducible refine LeO.bind ?_ (fun _ => ?_))
   | exact ih0 _ _
   | exact LeO.none _
   | refine LeO.ite ?_ ?_
   | refine LeO.bind ?_ (fun _ => ?_)
theorem aA.mono : ∀ a0 a1 k, LeO (aA.f k a0 a1) (aA.f (k + 1) a0 a1) := by
 intro a0 a1 k
 have ih0 := aA.mono_l k
 unfold aA.f
 exact zM
instance aA.mi  {a0 a1 k} : LeI (aA.f k a0 a1) (aA.f (k + 1) a0 a1) := ⟨⟨aA.mono a0 a1 k⟩⟩
theorem aA.calls (k : Nat) (g : Nat) (s0_0 : ByteArray) (s0_1 : Int) (r1 : ByteArray) (r2 : Int) (w0 w : World) (hI : IsS50 w0 w g s0_0 s0_1) (hB : Below w0.heap.size w0 w) (h : aA.f k s0_0 s0_1 = some (r1, r2)) :
 Calls Tryz.prog 19 #[.pointer (some ⟨g, 0, none⟩)] w fun e w' => e = .returned (.tuple #[]) ∧ IsS50 w0 w' g r1 r2 ∧ Below w0.heap.size w0 w' ∧ KeepBut w w' g none := by
 have HI0 := Aside0.mk hI
 have HK := Aside0.mk (KeepBut.refl w g none)
 have HL := Aside0.mk hB.size
 clear hI
 have HW0 := Aside0.mk hB.size
 have HB := Aside0.mk hB
 clear hB
 have H : (aA.l0 k s0_0 s0_1) = some (r1, r2) := h
 clear h
 have H' := Aside0.mk H
 clear H
 go_enter Tryz.func19, Tryz.ntmps19
 go_wp2
 repeat (go_quiet (fail); try go_wp2)
 (try simp only [Act.put, List.setIfInBounds_toArray, List.set_cons_zero, List.set_cons_succ])
 go_loopg [] k (fun kq w' => ∃ (bO : Int), Aside0 (aA.l0 kq s0_0 bO = some (r1, r2)) ∧ Aside0 (kq ≤ k) ∧ Aside0 (IsS50 w0 w' g s0_0 bO) ∧ Aside0 (KeepBut w w' g none) ∧ Aside0 (Below w0.heap.size w0 w'))
 case atStart => exact ⟨(s0_1), H', ⟨Nat.le_refl _⟩, ⟨zI⟩, ⟨zK⟩, ⟨zE⟩⟩
 case round =>
  clear H'
  obtain ⟨bO, HA, HK1, HI0, HK, HB⟩ := hrel
  cases gk with
  | zero => exact absurd HA.out (by simp [aA.l0])
  | succ k1 =>
   have H := HA.out
   clear HA
   simp only [aA.l0] at H
   revert H; refine sId1_d0 (fun gQ H => ?_) fun gQ H => ?_
   ·revert H; refine sNd1 fun eW H => ?_
    revert H; refine bnd ?_; rintro Na A5 H
    replace H := sB H
    obtain ⟨rfl, H⟩ | ⟨rfl, H⟩ := H
    ·as_aux_lemma =>
      have H' := Aside0.mk H
      clear H
      obtain ⟨mG, mH, mI, mJ⟩ := cx_cellS50 HI0.out
      have p4 := eq_true (of_decide_eq_true Z8 : 0 ≤ (bO : Int))
      have q4 := eq_true (of_decide_eq_true Z8 : bO < (s0_0.size : Int))
      have hx4 := bt_at s0_0 bO
      go_wp2_with (first | (go_at_call 31; (with_reducible refine (dI.calls (bt s0_0 bO) true _ A5.out).mono ?_); rintro e w' ⟨rfl, ⟨nd, rfl⟩⟩; (try first | exact ⟨rfl, _, World.drewN_drewN _ _ _⟩ | exact ⟨rfl, _, Eq.trans (World.drewN_drewN _ _ _) (congrArg (World.drewN _) (Nat.add_assoc _ _ _))⟩)))
      repeat (go_quiet (first | (go_at_call 31; (with_reducible refine (dI.calls (bt s0_0 bO) true _ A5.out).mono ?_); rintro e w' ⟨rfl, ⟨nd, rfl⟩⟩; (try first | exact ⟨rfl, _, World.drewN_drewN _ _ _⟩ | exact ⟨rfl, _, Eq.trans (World.drewN_drewN _ _ _) (congrArg (World.drewN _) (Nat.add_assoc _ _ _))⟩))); try go_wp2_with (first | (go_at_call 31; (with_reducible refine (dI.calls (bt s0_0 bO) true _ A5.out).mono ?_); rintro e w' ⟨rfl, ⟨nd, rfl⟩⟩; (try first | exact ⟨rfl, _, World.drewN_drewN _ _ _⟩ | exact ⟨rfl, _, Eq.trans (World.drewN_drewN _ _ _) (congrArg (World.drewN _) (Nat.add_assoc _ _ _))⟩))))
      go_roundg k1
      case measure => have := HK1.out; omega
      case rel => exact ⟨(wrap64 (bO + 1)), H', ⟨by have := HK1.out; omega⟩, ⟨zI⟩, ⟨zK⟩, ⟨zE⟩⟩
    as_aux_lemma =>
     simp only [Option.some.injEq, Prod.mk.injEq] at H
     obtain ⟨rfl, rfl⟩ := H
     obtain ⟨mK, mL, mM, mN⟩ := cx_cellS50 HI0.out
     have p4 := eq_true (of_decide_eq_true Z8 : 0 ≤ (bO : Int))
     have q4 := eq_true (of_decide_eq_true Z8 : bO < (s0_0.size : Int))
     have hx4 := bt_at s0_0 bO
     go_wp2_with (first | (go_at_call 31; (with_reducible refine (dI.calls (bt s0_0 bO) false _ A5.out).mono ?_); rintro e w' ⟨rfl, ⟨nd, rfl⟩⟩; (try first | exact ⟨rfl, _, World.drewN_drewN _ _ _⟩ | exact ⟨rfl, _, Eq.trans (World.drewN_drewN _ _ _) (congrArg (World.drewN _) (Nat.add_assoc _ _ _))⟩)))
     repeat (go_quiet (first | (go_at_call 31; (with_reducible refine (dI.calls (bt s0_0 bO) false _ A5.out).mono ?_); rintro e w' ⟨rfl, ⟨nd, rfl⟩⟩; (try first | exact ⟨rfl, _, World.drewN_drewN _ _ _⟩ | exact ⟨rfl, _, Eq.trans (World.drewN_drewN _ _ _) (congrArg (World.drewN _) (Nat.add_assoc _ _ _))⟩))); try go_wp2_with (first | (go_at_call 31; (with_reducible refine (dI.calls (bt s0_0 bO) false _ A5.out).mono ?_); rintro e w' ⟨rfl, ⟨nd, rfl⟩⟩; (try first | exact ⟨rfl, _, World.drewN_drewN _ _ _⟩ | exact ⟨rfl, _, Eq.trans (World.drewN_drewN _ _ _) (congrArg (World.drewN _) (Nat.add_assoc _ _ _))⟩))))
     first | go_end0 | ((try simp only [Exit.inBlock, Exit.then]); refine bodyPost_ret (results_none rfl _ _ _) rfl ?_)
     exact ⟨Z11, zI, zE, zK⟩
   as_aux_lemma =>
    simp only [Option.some.injEq, Prod.mk.injEq] at H
    obtain ⟨rfl, rfl⟩ := H
    obtain ⟨pQ, pR, pS, pT⟩ := cx_cellS50 HI0.out
    go_wp2
    repeat (go_quiet (fail); try go_wp2)
    first | go_end0 | ((try simp only [Exit.inBlock, Exit.then]); refine bodyPost_ret (results_none rfl _ _ _) rfl ?_)
    exact ⟨Z11, zI, zE, zK⟩
def bQ.f (s0_0 : ByteArray) (s0_1 : Int) : Option (Int × ByteArray × Int) := if s0_1 < (s0_0.size : Int) then (if 0 ≤ s0_1 then (some (bt s0_0 s0_1, s0_0, s0_1)) else (none)) else (some (0, s0_0, s0_1))
theorem bQ.calls (g : Nat) (s0_0 : ByteArray) (s0_1 : Int) (r1 : Int) (r2 : ByteArray) (r3 : Int) (w0 w : World) (hI : IsS50 w0 w g s0_0 s0_1) (hB : Below w0.heap.size w0 w) (h : bQ.f s0_0 s0_1 = some (r1, r2, r3)) :
 Calls Tryz.prog 38 #[.pointer (some ⟨g, 0, none⟩)] w fun e w' => e = .returned (.int .u8 r1) ∧ IsS50 w0 w' g r2 r3 ∧ Below w0.heap.size w0 w' ∧ KeepBut w w' g none := by
 have HI0 := Aside0.mk hI
 have HK := Aside0.mk (KeepBut.refl w g none)
 have HL := Aside0.mk hB.size
 clear hI
 have HW0 := Aside0.mk hB.size
 have HB := Aside0.mk hB
 clear hB
 have H : (if s0_1 < (s0_0.size : Int) then (if 0 ≤ s0_1 then (some (bt s0_0 s0_1, s0_0, s0_1)) else (none)) else (some (0, s0_0, s0_1))) = some (r1, r2, r3) := h
 clear h
 revert H; refine sId1_d0 (fun gQ H => ?_) fun gQ H => ?_
 ·revert H; refine sNd1 fun eW H => ?_
  as_aux_lemma =>
   simp only [Option.some.injEq, Prod.mk.injEq] at H
   obtain ⟨rfl, rfl, rfl⟩ := H
   obtain ⟨yO, yP, yQ, yR⟩ := cx_cellS50 HI0.out
   have p4 := eq_true (of_decide_eq_true Z8 : 0 ≤ (s0_1 : Int))
   have q4 := eq_true (of_decide_eq_true Z8 : s0_1 < (s0_0.size : Int))
   have hx4 := bt_at s0_0 s0_1
   go_enter Tryz.func38, Tryz.ntmps38
   go_wp2
   repeat (go_quiet (fail); try go_wp2)
   go_ret
   exact ⟨Z11, zI, zE, zK⟩
 as_aux_lemma =>
  simp only [Option.some.injEq, Prod.mk.injEq] at H
  obtain ⟨rfl, rfl, rfl⟩ := H
  obtain ⟨wU, wV, wW, wX⟩ := cx_cellS50 HI0.out
  go_enter Tryz.func38, Tryz.ntmps38
  go_wp2
  repeat (go_quiet (fail); try go_wp2)
  go_ret
  exact ⟨Z11, zI, zE, zK⟩
mutual
def aD.j0 : Nat → Int → Bool → ByteArray → Int → Option (Bool × ByteArray × Int)
 | 0, _, _, _, _ => none
 | k + 1, x7, x8, dC, cT => if x8 = true then (some (true, dC, wrap64 (cT + 1))) else (if x7 = 117 then (aD.l0 k 0 dC (wrap64 (cT + 1))) else (some (false, dC, cT)))
def aD.l0 : Nat → Int → ByteArray → Int → Option (Bool × ByteArray × Int)
 | 0, _, _, _ => none
 | k + 1, x3, dC, cT => if x3 < 4 then ((bQ.f dC cT).bind fun bt119 => ((aY.f k bt119.1).bind fun bt122 => (if bt122.2 = true then (aD.l0 k (wrap64 (x3 + 1)) bt119.2.1 (wrap64 (bt119.2.2 + 1))) else (some (false, bt119.2.1, bt119.2.2))))) else (some (true, dC, cT))
end
def aD.f (k : Nat) (s0_0 : ByteArray) (s0_1 : Int) : Option (Bool × ByteArray × Int) := (bQ.f s0_0 s0_1).bind fun bt116 => (if bt116.1 = 34 then (aD.j0 k bt116.1 (bt116.1 == 34) bt116.2.1 bt116.2.2) else (if bt116.1 = 92 then (aD.j0 k bt116.1 (bt116.1 == 92) bt116.2.1 bt116.2.2) else (if bt116.1 = 47 then (aD.j0 k bt116.1 (bt116.1 == 47) bt116.2.1 bt116.2.2) else (if bt116.1 = 98 then (aD.j0 k bt116.1 (bt116.1 == 98) bt116.2.1 bt116.2.2) else (if bt116.1 = 102 then (aD.j0 k bt116.1 (bt116.1 == 102) bt116.2.1 bt116.2.2) else (if bt116.1 = 110 then (aD.j0 k bt116.1 (bt116.1 == 110) bt116.2.1 bt116.2.2) else (if bt116.1 = 114 then (aD.j0 k bt116.1 (bt116.1 == 114) bt116.2.1 bt116.2.2) else (aD.j0 k bt116.1 (bt116.1 == 116) bt116.2.1 bt116.2.2))))))))
theorem aD.mono_l : ∀ k, (∀ y0 y1 y2 y3, LeO (aD.j0 k y0 y1 y2 y3) (aD.j0 (k + 1) y0 y1 y2 y3)) ∧ (∀ y0 y1 y2, LeO (aD.l0 k y0 y1 y2) (aD.l0 (k + 1) y0 y1 y2))
 | 0 => ⟨fun _ _ _ _ r h => by simp [aD.j0] at h, fun _ _ _ r h => by simp [aD.l0] at h⟩
 | k + 1 => by
  obtain ⟨ih0, ih1⟩ := aD.mono_l k
  refine ⟨?_, ?_⟩
  ·intro y0 y1 y2 y3
   unfold aD.j0
   repeat' first
   | (with_reducible exact ih0 _ _ _ _)
   | (with_reducible exact ih1 _ _ _)
   | (with_reducible exact aY.mono _ _)
   | (with_reducible exact LeO.refl _)
   | (with_reducible exact LeO.none _)
   | (with_reducible refine LeO.ite ?_ ?_)
   | (with_reducible refine LeO.bind ?_ (fun _ => ?_))
   | exact ih0 _ _ _ _
   | exact ih1 _ _ _
   | exact aY.mono _ _
   | exact LeO.none _
   | refine LeO.ite ?_ ?_
   | refine LeO.bind ?_ (fun _ => ?_)
  ·intro y0 y1 y2
   unfold aD.l0
   repeat' first
   | (with_reducible exact ih0 _ _ _ _)
   | (with_reducible exact ih1 _ _ _)
   | (with_reducible exact aY.mono _ _)
   | (with_reducible exact LeO.refl _)
   | (with_reducible exact LeO.none _)
   | (with_reducible refine LeO.ite ?_ ?_)
   | (with_reducible refine LeO.bind ?_ (fun _ => ?_))
   | exact ih0 _ _ _ _
   | exact ih1 _ _ _
   | exact aY.mono _ _
   | exact LeO.none _
   | refine LeO.ite ?_ ?_
   | refine LeO.bind ?_ (fun _ => ?_)
theorem aD.mono : ∀ a0 a1 k, LeO (aD.f k a0 a1) (aD.f (k + 1) a0 a1) := by
 intro a0 a1 k
 obtain ⟨ih0, ih1⟩ := aD.mono_l k
 unfold aD.f
 exact zM
theorem aD.calls (k : Nat) (g : Nat) (s0_0 : ByteArray) (s0_1 : Int) (r1 : Bool) (r2 : ByteArray) (r3 : Int) (w0 w : World) (hI : IsS50 w0 w g s0_0 s0_1) (hB : Below w0.heap.size w0 w) (h : aD.f k s0_0 s0_1 = some (r1, r2, r3)) :
 Calls Tryz.prog 57 #[.pointer (some ⟨g, 0, none⟩)] w fun e w' => e = .returned (.bool r1) ∧ IsS50 w0 w' g r2 r3 ∧ Below w0.heap.size w0 w' ∧ KeepBut w w' g none := by
 have HI0 := Aside0.mk hI
 have HK := Aside0.mk (KeepBut.refl w g none)
 have HL := Aside0.mk hB.size
 clear hI
 have HW0 := Aside0.mk hB.size
 have HB := Aside0.mk hB
 clear hB
 have H : ((bQ.f s0_0 s0_1).bind fun bt116 => (if bt116.1 = 34 then (aD.j0 k bt116.1 (bt116.1 == 34) bt116.2.1 bt116.2.2) else (if bt116.1 = 92 then (aD.j0 k bt116.1 (bt116.1 == 92) bt116.2.1 bt116.2.2) else (if bt116.1 = 47 then (aD.j0 k bt116.1 (bt116.1 == 47) bt116.2.1 bt116.2.2) else (if bt116.1 = 98 then (aD.j0 k bt116.1 (bt116.1 == 98) bt116.2.1 bt116.2.2) else (if bt116.1 = 102 then (aD.j0 k bt116.1 (bt116.1 == 102) bt116.2.1 bt116.2.2) else (if bt116.1 = 110 then (aD.j0 k bt116.1 (bt116.1 == 110) bt116.2.1 bt116.2.2) else (if bt116.1 = 114 then (aD.j0 k bt116.1 (bt116.1 == 114) bt116.2.1 bt116.2.2) else (aD.j0 k bt116.1 (bt116.1 == 116) bt116.2.1 bt116.2.2))))))))) = some (r1, r2, r3) := h
 clear h
 revert H; refine bnd ?_; rintro ⟨oN, Du, Dv⟩ A2 H; try dsimp only at H
 have qF := Aside0.mk H
 clear H
 go_enter Tryz.func57, Tryz.ntmps57
 go_upto_if 8 with (first | (refine gl 38 (some 7) Tryz.func38 #[.pointer (some ⟨g, 0, none⟩)] ?_; (with_reducible refine (bQ.calls g s0_0 s0_1 oN Du Dv w0 _ zI zE A2.out).mono ?_); rintro e w4 ⟨rfl, hi, hb, hk⟩; refine ⟨_, rfl, ?_⟩; replace HK := Aside0.mk (KeepBut.trans (w := w) zK hk (.inl rfl)); replace HB := Aside0.mk (hb); replace HI0 := Aside0.mk (hi); clear hb hk hi))
 (try simp only [Act.put, List.setIfInBounds_toArray, List.set_cons_zero, List.set_cons_succ])
 go_cut [8] (fun v8 wc => ∃ (kq : Nat) (Ic : Bool), v8 = .bool Ic ∧ Aside0 (aD.j0 kq oN Ic Du Dv = some (r1, r2, r3)) ∧ Aside0 (kq ≤ k) ∧ Aside0 (IsS50 w0 wc g Du Dv) ∧ Aside0 (KeepBut w wc g none) ∧ Aside0 (Below w0.heap.size w0 wc))
 case first =>
  have H := qF.out
  clear qF
  revert H; refine sIe1n0_e0n1 (fun jZ qT H => ?_) fun jZ qT H => ?_
  ·(first | rw [jZ] | (simp only [i64_w, i32_w]; rw [jZ]) | skip)
   as_aux_lemma =>
    have H' := Aside0.mk H
    clear H
    go_wp2
    go_meet
    case rel => exact ⟨_, ((oN == 34)), Z9, H', ⟨Z30⟩, ⟨zI⟩, ⟨zK⟩, ⟨zE⟩⟩
  (first | rw [jZ] | (simp only [i64_w, i32_w]; rw [jZ]) | skip)
  revert H; refine sIe1n0_e0n1 (fun eX nD H => ?_) fun eX nD H => ?_
  ·as_aux_lemma =>
    have H' := Aside0.mk H
    clear H
    go_wp2
    go_meet
    case rel => exact ⟨_, ((oN == 92)), Z9, H', ⟨Z30⟩, ⟨zI⟩, ⟨zK⟩, ⟨zE⟩⟩
  revert H; refine sIe1n0_e0n1 (fun lA pD H => ?_) fun lA pD H => ?_
  ·as_aux_lemma =>
    have H' := Aside0.mk H
    clear H
    go_wp2
    go_meet
    case rel => exact ⟨_, ((oN == 47)), Z9, H', ⟨Z30⟩, ⟨zI⟩, ⟨zK⟩, ⟨zE⟩⟩
  revert H; refine sIe1n0_e0n1 (fun jH lR H => ?_) fun jH lR H => ?_
  ·as_aux_lemma =>
    have H' := Aside0.mk H
    clear H
    go_wp2
    go_meet
    case rel => exact ⟨_, ((oN == 98)), Z9, H', ⟨Z30⟩, ⟨zI⟩, ⟨zK⟩, ⟨zE⟩⟩
  revert H; refine sIe1n0_e0n1 (fun nC Dd H => ?_) fun nC Dd H => ?_
  ·as_aux_lemma =>
    have H' := Aside0.mk H
    clear H
    go_wp2
    go_meet
    case rel => exact ⟨_, ((oN == 102)), Z9, H', ⟨Z30⟩, ⟨zI⟩, ⟨zK⟩, ⟨zE⟩⟩
  revert H; refine sIe1n0_e0n1 (fun mU nS H => ?_) fun mU nS H => ?_
  ·as_aux_lemma =>
    have H' := Aside0.mk H
    clear H
    go_wp2
    go_meet
    case rel => exact ⟨_, ((oN == 110)), Z9, H', ⟨Z30⟩, ⟨zI⟩, ⟨zK⟩, ⟨zE⟩⟩
  revert H; refine sIe1n0_e0n1 (fun iR lY H => ?_) fun iR lY H => ?_
  ·as_aux_lemma =>
    have H' := Aside0.mk H
    clear H
    go_wp2
    go_meet
    case rel => exact ⟨_, ((oN == 114)), Z9, H', ⟨Z30⟩, ⟨zI⟩, ⟨zK⟩, ⟨zE⟩⟩
  as_aux_lemma =>
   have H' := Aside0.mk H
   clear H
   go_wp2
   go_meet
   case rel => exact ⟨_, ((oN == 116)), Z9, H', ⟨Z30⟩, ⟨zI⟩, ⟨zK⟩, ⟨zE⟩⟩
 case rest =>
  clear qF
  obtain ⟨kq, Ic, rfl, HA, HJ2, HI0, HK, HB⟩ := hcut
  cases kq with
  | zero => exact absurd HA.out (by simp [aD.j0])
  | succ kj2 =>
   have H := HA.out
   clear HA
   simp only [aD.j0] at H
   replace H := sB H
   obtain ⟨rfl, H⟩ | ⟨rfl, H⟩ := H
   ·as_aux_lemma =>
     simp only [Option.some.injEq, Prod.mk.injEq] at H
     obtain ⟨rfl, rfl, rfl⟩ := H
     obtain ⟨pL, pM, pN, pO⟩ := cx_cellS50 HI0.out
     go_wp2
     go_ret
     exact ⟨Z11, zI, zE, zK⟩
   revert H; refine sIe1n0_e0n1 (fun gR lJ H => ?_) fun gR lJ H => ?_
   ·have H' := Aside0.mk H
    clear H
    obtain ⟨pU, pV, pW, pX⟩ := cx_cellS50 HI0.out
    go_wp2
    (try simp only [Act.put, List.setIfInBounds_toArray, List.set_cons_zero, List.set_cons_succ])
    go_loopg [3] kj2 (fun kq v3 w' => ∃ (Dw : Int) (gN : ByteArray) (gO : Int), v3 = .int .i64 Dw ∧ Aside0 (aD.l0 kq Dw gN gO = some (r1, r2, r3)) ∧ Aside0 (kq ≤ kj2) ∧ Aside0 (IsS50 w0 w' g gN gO) ∧ Aside0 (KeepBut w w' g none) ∧ Aside0 (Below w0.heap.size w0 w'))
    case atStart => exact ⟨(0), (Du), (wrap64 (Dv + 1)), Z9, H', ⟨Nat.le_refl _⟩, ⟨zI⟩, ⟨zK⟩, ⟨zE⟩⟩
    case round =>
     clear H'
     try clear gR lJ pU pV pW pX
     obtain ⟨Dw, gN, gO, rfl, HA, HK2, HI0, HK, HB⟩ := hrel
     cases gk with
     | zero => exact absurd HA.out (by simp [aD.l0])
     | succ k2 =>
      have H := HA.out
      clear HA
      simp only [aD.l0] at H
      revert H; refine sId1_d0 (fun kB H => ?_) fun kB H => ?_
      ·revert H; refine bnd ?_; rintro ⟨wB, Id, Ie⟩ A17 H; try dsimp only at H
       revert H; refine bnd ?_; rintro ⟨Nb, aqL⟩ Mw H; try dsimp only at H
       replace H := sB H
       obtain ⟨rfl, H⟩ | ⟨rfl, H⟩ := H
       ·as_aux_lemma =>
         have H' := Aside0.mk H
         clear H
         go_wp2_with (first | (refine gl 38 (some 39) Tryz.func38 #[.pointer (some ⟨g, 0, none⟩)] ?_; (with_reducible refine (bQ.calls g gN gO wB Id Ie w0 _ zI zE A17.out).mono ?_); rintro e w20 ⟨rfl, hi, hb, hk⟩; refine ⟨_, rfl, ?_⟩; replace HK := Aside0.mk (KeepBut.trans (w := w) zK hk (.inl rfl)); replace HB := Aside0.mk (hb); replace HI0 := Aside0.mk (hi); clear hb hk hi) | (refine gl 55 (some 40) Tryz.func55 #[.int .u8 wB] ?_; (with_reducible refine (aY.calls k2 wB Nb true _ Mw.out).mono ?_); rintro e w' ⟨rfl, ⟨nd, rfl⟩⟩; refine ⟨_, rfl, ?_⟩; (try (rw [drewN_self w20]; generalize hq_ : World.drewN w20 _ = w20; replace HK : Aside0 (KeepBut w w20 g none) := ⟨by rw [← hq_]; exact zK⟩; replace HB : Aside0 (Below w0.heap.size w0 w20) := ⟨by rw [← hq_]; exact zE⟩; replace HI0 := dqI hq_ HI0; clear hq_)); obtain ⟨nF, nG, nH, nI⟩ := cx_cellS50 HI0.out))
         go_roundg k2
         case measure => have := HJ2.out; have := HK2.out; omega
         case rel => exact ⟨(wrap64 (Dw + 1)), (Id), (wrap64 (Ie + 1)), Z9, H', ⟨by have := HJ2.out; have := HK2.out; omega⟩, ⟨zI⟩, ⟨zK⟩, ⟨zE⟩⟩
       as_aux_lemma =>
        simp only [Option.some.injEq, Prod.mk.injEq] at H
        obtain ⟨rfl, rfl, rfl⟩ := H
        go_wp2_with (first | (refine gl 38 (some 39) Tryz.func38 #[.pointer (some ⟨g, 0, none⟩)] ?_; (with_reducible refine (bQ.calls g gN gO wB Id Ie w0 _ zI zE A17.out).mono ?_); rintro e w22 ⟨rfl, hi, hb, hk⟩; refine ⟨_, rfl, ?_⟩; replace HK := Aside0.mk (KeepBut.trans (w := w) zK hk (.inl rfl)); replace HB := Aside0.mk (hb); replace HI0 := Aside0.mk (hi); clear hb hk hi) | (refine gl 55 (some 40) Tryz.func55 #[.int .u8 wB] ?_; (with_reducible refine (aY.calls k2 wB Nb false _ Mw.out).mono ?_); rintro e w' ⟨rfl, ⟨nd, rfl⟩⟩; refine ⟨_, rfl, ?_⟩))
        go_ret
        exact ⟨Z11, zI, zE, zK⟩
      as_aux_lemma =>
       simp only [Option.some.injEq, Prod.mk.injEq] at H
       obtain ⟨rfl, rfl, rfl⟩ := H
       go_wp2
       go_ret
       exact ⟨Z11, zI, zE, zK⟩
   as_aux_lemma =>
    simp only [Option.some.injEq, Prod.mk.injEq] at H
    obtain ⟨rfl, rfl, rfl⟩ := H
    go_wp2
    go_ret
    exact ⟨Z11, zI, zE, zK⟩
def aW.l0 : Nat → ByteArray → Int → Option (Bool × ByteArray × Int)
 | 0, _, _ => none
 | k + 1, dC, cT => if cT < (dC.size : Int) then (if 0 ≤ cT then (if (bt dC cT) = 34 then (some (true, dC, wrap64 (cT + 1))) else (if (bt dC cT) < 32 then (some (false, dC, wrap64 (cT + 1))) else (if (bt dC cT) = 92 then ((aD.f k dC (wrap64 (cT + 1))).bind fun bt124 => (if bt124.1 = true then (aW.l0 k bt124.2.1 bt124.2.2) else (some (false, bt124.2.1, bt124.2.2)))) else (aW.l0 k dC (wrap64 (cT + 1)))))) else (none)) else (some (false, dC, cT))
def aW.f (k : Nat) (s0_0 : ByteArray) (s0_1 : Int) : Option (Bool × ByteArray × Int) := aW.l0 k s0_0 (wrap64 (s0_1 + 1))
theorem aW.mono_l : ∀ k, (∀ y0 y1, LeO (aW.l0 k y0 y1) (aW.l0 (k + 1) y0 y1))
 | 0 => fun _ _ r h => by simp [aW.l0] at h
 | k + 1 => by
  have ih0 := aW.mono_l k
  ·intro y0 y1
   unfold aW.l0
   repeat' first
   | (with_reducible exact ih0 _ _)
   | (with_reducible exact aD.mono _ _ _)
   | (with_reducible exact LeO.refl _)
   | (with_reducible exact LeO.none _)
   | (with_reducible refine LeO.ite ?_ ?_)
   | (with_reducible refine LeO.bind ?_ (fun _ => ?_))
   | exact ih0 _ _
   | exact aD.mono _ _ _
   | exact LeO.none _
   | refine LeO.ite ?_ ?_
   | refine LeO.bind ?_ (fun _ => ?_)
theorem aW.mono : ∀ a0 a1 k, LeO (aW.f k a0 a1) (aW.f (k + 1) a0 a1) := by
 intro a0 a1 k
 have ih0 := aW.mono_l k
 unfold aW.f
 exact zM
instance aW.mi  {a0 a1 k} : LeI (aW.f k a0 a1) (aW.f (k + 1) a0 a1) := ⟨⟨aW.mono a0 a1 k⟩⟩
theorem aW.calls (k : Nat) (g : Nat) (s0_0 : ByteArray) (s0_1 : Int) (r1 : Bool) (r2 : ByteArray) (r3 : Int) (w0 w : World) (hI : IsS50 w0 w g s0_0 s0_1) (hB : Below w0.heap.size w0 w) (h : aW.f k s0_0 s0_1 = some (r1, r2, r3)) :
 Calls Tryz.prog 41 #[.pointer (some ⟨g, 0, none⟩)] w fun e w' => e = .returned (.bool r1) ∧ IsS50 w0 w' g r2 r3 ∧ Below w0.heap.size w0 w' ∧ KeepBut w w' g none := by
 have HI0 := Aside0.mk hI
 have HK := Aside0.mk (KeepBut.refl w g none)
 have HL := Aside0.mk hB.size
 clear hI
 have HW0 := Aside0.mk hB.size
 have HB := Aside0.mk hB
 clear hB
 have H : (aW.l0 k s0_0 (wrap64 (s0_1 + 1))) = some (r1, r2, r3) := h
 clear h
 have H' := Aside0.mk H
 clear H
 obtain ⟨Ig, Ih, Ii, Ij⟩ := cx_cellS50 HI0.out
 go_enter Tryz.func41, Tryz.ntmps41
 go_wp2
 repeat (go_quiet (fail); try go_wp2)
 (try simp only [Act.put, List.setIfInBounds_toArray, List.set_cons_zero, List.set_cons_succ])
 go_loopg [] k (fun kq w' => ∃ (cG : ByteArray) (bO : Int), Aside0 (aW.l0 kq cG bO = some (r1, r2, r3)) ∧ Aside0 (kq ≤ k) ∧ Aside0 (IsS50 w0 w' g cG bO) ∧ Aside0 (KeepBut w w' g none) ∧ Aside0 (Below w0.heap.size w0 w'))
 case atStart => exact ⟨(s0_0), (wrap64 (s0_1 + 1)), H', ⟨Nat.le_refl _⟩, ⟨zI⟩, ⟨zK⟩, ⟨zE⟩⟩
 case round =>
  clear H'
  try clear Ig Ih Ii Ij
  obtain ⟨cG, bO, HA, HK1, HI0, HK, HB⟩ := hrel
  cases gk with
  | zero => exact absurd HA.out (by simp [aW.l0])
  | succ k1 =>
   have H := HA.out
   clear HA
   simp only [aW.l0] at H
   revert H; refine sId1_d0 (fun eW H => ?_) fun eW H => ?_
   ·revert H; refine sNd1 fun gV H => ?_
    revert H; refine sIe1n0_e0n1 (fun eX nD H => ?_) fun eX nD H => ?_
    ·as_aux_lemma =>
      simp only [Option.some.injEq, Prod.mk.injEq] at H
      obtain ⟨rfl, rfl, rfl⟩ := H
      obtain ⟨mG, mH, mI, mJ⟩ := cx_cellS50 HI0.out
      have p5 := eq_true (of_decide_eq_true Z8 : 0 ≤ (bO : Int))
      have q5 := eq_true (of_decide_eq_true Z8 : bO < (cG.size : Int))
      have hx5 := bt_at cG bO
      go_wp2
      repeat (go_quiet (fail); try go_wp2)
      go_ret
      exact ⟨Z11, zI, zE, zK⟩
    revert H; refine sId1_d0 (fun jH H => ?_) fun jH H => ?_
    ·as_aux_lemma =>
      simp only [Option.some.injEq, Prod.mk.injEq] at H
      obtain ⟨rfl, rfl, rfl⟩ := H
      obtain ⟨pQ, pR, pS, pT⟩ := cx_cellS50 HI0.out
      have p5 := eq_true (of_decide_eq_true Z8 : 0 ≤ (bO : Int))
      have q5 := eq_true (of_decide_eq_true Z8 : bO < (cG.size : Int))
      have hx5 := bt_at cG bO
      go_wp2
      repeat (go_quiet (fail); try go_wp2)
      go_ret
      exact ⟨Z11, zI, zE, zK⟩
    revert H; refine sIe1n0_e0n1 (fun mU nS H => ?_) fun mU nS H => ?_
    ·revert H; refine bnd ?_; rintro ⟨aqM, rS, rT⟩ Dx H; try dsimp only at H
     replace H := sB H
     obtain ⟨rfl, H⟩ | ⟨rfl, H⟩ := H
     ·as_aux_lemma =>
       have H' := Aside0.mk H
       clear H
       obtain ⟨pL, pM, pN, pO⟩ := cx_cellS50 HI0.out
       have p5 := eq_true (of_decide_eq_true Z8 : 0 ≤ (bO : Int))
       have q5 := eq_true (of_decide_eq_true Z8 : bO < (cG.size : Int))
       have hx5 := bt_at cG bO
       go_wp2_with (first | (go_at_call 57; (with_reducible refine (aD.calls k1 g cG (wrap64 (bO + 1)) true rS rT w0 _ zI zE Dx.out).mono ?_); rintro e w14 ⟨rfl, hi, hb, hk⟩; replace HK := Aside0.mk (KeepBut.trans (w := w) zK hk (.inl rfl)); replace HB := Aside0.mk (hb); replace HI0 := Aside0.mk (hi); clear hb hk hi))
       repeat (go_quiet (first | (go_at_call 57; (with_reducible refine (aD.calls k1 g cG (wrap64 (bO + 1)) true rS rT w0 _ zI zE Dx.out).mono ?_); rintro e w14 ⟨rfl, hi, hb, hk⟩; replace HK := Aside0.mk (KeepBut.trans (w := w) zK hk (.inl rfl)); replace HB := Aside0.mk (hb); replace HI0 := Aside0.mk (hi); clear hb hk hi)); try go_wp2_with (first | (go_at_call 57; (with_reducible refine (aD.calls k1 g cG (wrap64 (bO + 1)) true rS rT w0 _ zI zE Dx.out).mono ?_); rintro e w14 ⟨rfl, hi, hb, hk⟩; replace HK := Aside0.mk (KeepBut.trans (w := w) zK hk (.inl rfl)); replace HB := Aside0.mk (hb); replace HI0 := Aside0.mk (hi); clear hb hk hi)))
       go_roundg k1
       case measure => have := HK1.out; omega
       case rel => exact ⟨(rS), (rT), H', ⟨by have := HK1.out; omega⟩, ⟨zI⟩, ⟨zK⟩, ⟨zE⟩⟩
     as_aux_lemma =>
      simp only [Option.some.injEq, Prod.mk.injEq] at H
      obtain ⟨rfl, rfl, rfl⟩ := H
      obtain ⟨pU, pV, pW, pX⟩ := cx_cellS50 HI0.out
      have p5 := eq_true (of_decide_eq_true Z8 : 0 ≤ (bO : Int))
      have q5 := eq_true (of_decide_eq_true Z8 : bO < (cG.size : Int))
      have hx5 := bt_at cG bO
      go_wp2_with (first | (go_at_call 57; (with_reducible refine (aD.calls k1 g cG (wrap64 (bO + 1)) false rS rT w0 _ zI zE Dx.out).mono ?_); rintro e w16 ⟨rfl, hi, hb, hk⟩; replace HK := Aside0.mk (KeepBut.trans (w := w) zK hk (.inl rfl)); replace HB := Aside0.mk (hb); replace HI0 := Aside0.mk (hi); clear hb hk hi))
      repeat (go_quiet (first | (go_at_call 57; (with_reducible refine (aD.calls k1 g cG (wrap64 (bO + 1)) false rS rT w0 _ zI zE Dx.out).mono ?_); rintro e w16 ⟨rfl, hi, hb, hk⟩; replace HK := Aside0.mk (KeepBut.trans (w := w) zK hk (.inl rfl)); replace HB := Aside0.mk (hb); replace HI0 := Aside0.mk (hi); clear hb hk hi)); try go_wp2_with (first | (go_at_call 57; (with_reducible refine (aD.calls k1 g cG (wrap64 (bO + 1)) false rS rT w0 _ zI zE Dx.out).mono ?_); rintro e w16 ⟨rfl, hi, hb, hk⟩; replace HK := Aside0.mk (KeepBut.trans (w := w) zK hk (.inl rfl)); replace HB := Aside0.mk (hb); replace HI0 := Aside0.mk (hi); clear hb hk hi)))
      go_ret
      exact ⟨Z11, zI, zE, zK⟩
    as_aux_lemma =>
     have H' := Aside0.mk H
     clear H
     obtain ⟨Dy, Dz, Ea, Eb⟩ := cx_cellS50 HI0.out
     have p5 := eq_true (of_decide_eq_true Z8 : 0 ≤ (bO : Int))
     have q5 := eq_true (of_decide_eq_true Z8 : bO < (cG.size : Int))
     have hx5 := bt_at cG bO
     go_wp2
     repeat (go_quiet (fail); try go_wp2)
     go_roundg k1
     case measure => have := HK1.out; omega
     case rel => exact ⟨(cG), (wrap64 (bO + 1)), H', ⟨by have := HK1.out; omega⟩, ⟨zI⟩, ⟨zK⟩, ⟨zE⟩⟩
   as_aux_lemma =>
    simp only [Option.some.injEq, Prod.mk.injEq] at H
    obtain ⟨rfl, rfl, rfl⟩ := H
    obtain ⟨sU, sV, sW, sX⟩ := cx_cellS50 HI0.out
    go_wp2
    repeat (go_quiet (fail); try go_wp2)
    go_ret
    exact ⟨Z11, zI, zE, zK⟩
end Go.Proofs.YtkjnahgicfmicaaGreatDoor.Sp
namespace Go.Proofs.YtkjnahgicfmicaaGreatDoor.Sp
set_option maxHeartbeats 8000000
set_option maxRecDepth 100000
open Go.RowKit Go.Proofs.YtkjnahgicfmicaaGreatDoorW.PrintWords Go.Proofs.YtkjnahgicfmicaaGreatDoorW.PrintLast Go.Proofs.YtkjnahgicfmicaaGreatDoorW.PrintMore
attribute [local go_sem] max2_int min2_int max_two min_two max_three min_three max_four min_four
set_option linter.unusedVariables false
set_option linter.unusedSimpArgs false
def aQ.f (s0_0 : ByteArray) (s0_1 : Int) (a1 : Int) : Option (Bool × ByteArray × Int) := if s0_1 < (s0_0.size : Int) then (if 0 ≤ s0_1 then (if (bt s0_0 s0_1) = a1 then (some (true, s0_0, wrap64 (s0_1 + 1))) else (some (false, s0_0, s0_1))) else (none)) else (some (false, s0_0, s0_1))
theorem aQ.calls (g : Nat) (s0_0 : ByteArray) (s0_1 : Int) (a1 : Int) (r1 : Bool) (r2 : ByteArray) (r3 : Int) (w0 w : World) (hI : IsS50 w0 w g s0_0 s0_1) (hB : Below w0.heap.size w0 w) (h : aQ.f s0_0 s0_1 a1 = some (r1, r2, r3)) :
 Calls Tryz.prog 56 #[.pointer (some ⟨g, 0, none⟩), .int .u8 a1] w fun e w' => e = .returned (.bool r1) ∧ IsS50 w0 w' g r2 r3 ∧ Below w0.heap.size w0 w' ∧ KeepBut w w' g none := by
 have HI0 := Aside0.mk hI
 have HK := Aside0.mk (KeepBut.refl w g none)
 have HL := Aside0.mk hB.size
 clear hI
 have HW0 := Aside0.mk hB.size
 have HB := Aside0.mk hB
 clear hB
 have H : (if s0_1 < (s0_0.size : Int) then (if 0 ≤ s0_1 then (if (bt s0_0 s0_1) = a1 then (some (true, s0_0, wrap64 (s0_1 + 1))) else (some (false, s0_0, s0_1))) else (none)) else (some (false, s0_0, s0_1))) = some (r1, r2, r3) := h
 clear h
 revert H; refine sId1_d0 (fun eW H => ?_) fun eW H => ?_
 ·revert H; refine sNd1 fun gV H => ?_
  revert H; refine sIe1n0_e0n1 (fun eX nD H => ?_) fun eX nD H => ?_
  ·as_aux_lemma =>
    simp only [Option.some.injEq, Prod.mk.injEq] at H
    obtain ⟨rfl, rfl, rfl⟩ := H
    obtain ⟨mG, mH, mI, mJ⟩ := cx_cellS50 HI0.out
    have p5 := eq_true (of_decide_eq_true Z8 : 0 ≤ (s0_1 : Int))
    have q5 := eq_true (of_decide_eq_true Z8 : s0_1 < (s0_0.size : Int))
    have hx5 := bt_at s0_0 s0_1
    go_enter Tryz.func56, Tryz.ntmps56
    go_wp2
    repeat (go_quiet (fail); try go_wp2)
    go_ret
    exact ⟨Z11, zI, zE, zK⟩
  as_aux_lemma =>
   simp only [Option.some.injEq, Prod.mk.injEq] at H
   obtain ⟨rfl, rfl, rfl⟩ := H
   obtain ⟨mK, mL, mM, mN⟩ := cx_cellS50 HI0.out
   have p5 := eq_true (of_decide_eq_true Z8 : 0 ≤ (s0_1 : Int))
   have q5 := eq_true (of_decide_eq_true Z8 : s0_1 < (s0_0.size : Int))
   have hx5 := bt_at s0_0 s0_1
   go_enter Tryz.func56, Tryz.ntmps56
   go_wp2
   repeat (go_quiet (fail); try go_wp2)
   go_ret
   exact ⟨Z11, zI, zE, zK⟩
 as_aux_lemma =>
  simp only [Option.some.injEq, Prod.mk.injEq] at H
  obtain ⟨rfl, rfl, rfl⟩ := H
  obtain ⟨pQ, pR, pS, pT⟩ := cx_cellS50 HI0.out
  go_enter Tryz.func56, Tryz.ntmps56
  go_wp2
  repeat (go_quiet (fail); try go_wp2)
  go_ret
  exact ⟨Z11, zI, zE, zK⟩
def aN.l0 : Nat → Int → Int → ByteArray → Int → Option (Bool × ByteArray × Int)
 | 0, _, _, _, _ => none
 | k + 1, x3, x4, dC, cT => if 48 ≤ x4 then (if x4 ≤ 57 then ((bQ.f dC (wrap64 (cT + 1))).bind fun bt208 => (aN.l0 k x3 bt208.1 bt208.2.1 bt208.2.2)) else (some (decide (cT > x3), dC, cT))) else (some (decide (cT > x3), dC, cT))
def aN.f (k : Nat) (s0_0 : ByteArray) (s0_1 : Int) : Option (Bool × ByteArray × Int) := (bQ.f s0_0 s0_1).bind fun bt205 => (aN.l0 k s0_1 bt205.1 bt205.2.1 bt205.2.2)
theorem aN.mono_l : ∀ k, (∀ y0 y1 y2 y3, LeO (aN.l0 k y0 y1 y2 y3) (aN.l0 (k + 1) y0 y1 y2 y3))
 | 0 => fun _ _ _ _ r h => by simp [aN.l0] at h
 | k + 1 => by
  have ih0 := aN.mono_l k
  ·intro y0 y1 y2 y3
   unfold aN.l0
   repeat' first
   | (with_reducible exact ih0 _ _ _ _)
   | (with_reducible exact LeO.refl _)
   | (with_reducible exact LeO.none _)
   | (with_reducible refine LeO.ite ?_ ?_)
   | (with_reducible refine LeO.bind ?_ (fun _ => ?_))
   | exact ih0 _ _ _ _
   | exact LeO.none _
   | refine LeO.ite ?_ ?_
   | refine LeO.bind ?_ (fun _ => ?_)
theorem aN.mono : ∀ a0 a1 k, LeO (aN.f k a0 a1) (aN.f (k + 1) a0 a1) := by
 intro a0 a1 k
 have ih0 := aN.mono_l k
 unfold aN.f
 exact zM
instance aN.mi  {a0 a1 k} : LeI (aN.f k a0 a1) (aN.f (k + 1) a0 a1) := ⟨⟨aN.mono a0 a1 k⟩⟩
theorem aN.calls (k : Nat) (g : Nat) (s0_0 : ByteArray) (s0_1 : Int) (r1 : Bool) (r2 : ByteArray) (r3 : Int) (w0 w : World) (hI : IsS50 w0 w g s0_0 s0_1) (hB : Below w0.heap.size w0 w) (h : aN.f k s0_0 s0_1 = some (r1, r2, r3)) :
 Calls Tryz.prog 58 #[.pointer (some ⟨g, 0, none⟩)] w fun e w' => e = .returned (.bool r1) ∧ IsS50 w0 w' g r2 r3 ∧ Below w0.heap.size w0 w' ∧ KeepBut w w' g none := by
 have HI0 := Aside0.mk hI
 have HK := Aside0.mk (KeepBut.refl w g none)
 have HL := Aside0.mk hB.size
 clear hI
 have HW0 := Aside0.mk hB.size
 have HB := Aside0.mk hB
 clear hB
 have H : ((bQ.f s0_0 s0_1).bind fun bt205 => (aN.l0 k s0_1 bt205.1 bt205.2.1 bt205.2.2)) = some (r1, r2, r3) := h
 clear h
 revert H; refine bnd ?_; rintro ⟨Nc, Nd, Nf⟩ A2 H; try dsimp only at H
 have H' := Aside0.mk H
 clear H
 obtain ⟨Ik, Il, Im, Io⟩ := cx_cellS50 HI0.out
 go_enter Tryz.func58, Tryz.ntmps58
 go_wp2_with (first | (refine gl 38 (some 10) Tryz.func38 #[.pointer (some ⟨g, 0, none⟩)] ?_; (with_reducible refine (bQ.calls g s0_0 s0_1 Nc Nd Nf w0 _ zI zE A2.out).mono ?_); rintro e w4 ⟨rfl, hi, hb, hk⟩; refine ⟨_, rfl, ?_⟩; replace HK := Aside0.mk (KeepBut.trans (w := w) zK hk (.inl rfl)); replace HB := Aside0.mk (hb); replace HI0 := Aside0.mk (hi); clear hb hk hi))
 (try simp only [Act.put, List.setIfInBounds_toArray, List.set_cons_zero, List.set_cons_succ])
 go_loopg [4] k (fun kq v4 w' => ∃ (eM : Int) (cG : ByteArray) (bO : Int), v4 = .int .u8 eM ∧ Aside0 (aN.l0 kq s0_1 eM cG bO = some (r1, r2, r3)) ∧ Aside0 (kq ≤ k) ∧ Aside0 (IsS50 w0 w' g cG bO) ∧ Aside0 (KeepBut w w' g none) ∧ Aside0 (Below w0.heap.size w0 w'))
 case atStart => exact ⟨(Nc), (Nd), (Nf), Z9, H', ⟨Nat.le_refl _⟩, ⟨zI⟩, ⟨zK⟩, ⟨zE⟩⟩
 case round =>
  clear H'
  try clear Ik Il Im Io
  obtain ⟨eM, cG, bO, rfl, HA, HK1, HI0, HK, HB⟩ := hrel
  cases gk with
  | zero => exact absurd HA.out (by simp [aN.l0])
  | succ k1 =>
   have H := HA.out
   clear HA
   simp only [aN.l0] at H
   revert H; refine sId1_d0 (fun jZ H => ?_) fun jZ H => ?_
   ·revert H; refine sId1_d0 (fun eX H => ?_) fun eX H => ?_
    ·revert H; refine bnd ?_; rintro ⟨Ng, Nh, wZ⟩ A7 H; try dsimp only at H
     as_aux_lemma =>
      have H' := Aside0.mk H
      clear H
      obtain ⟨mK, mL, mM, mN⟩ := cx_cellS50 HI0.out
      go_wp2_with (first | (refine gl 38 (some 18) Tryz.func38 #[.pointer (some ⟨g, 0, none⟩)] ?_; (with_reducible refine (bQ.calls g cG (wrap64 (bO + 1)) Ng Nh wZ w0 _ zI zE A7.out).mono ?_); rintro e w9 ⟨rfl, hi, hb, hk⟩; refine ⟨_, rfl, ?_⟩; replace HK := Aside0.mk (KeepBut.trans (w := w) zK hk (.inl rfl)); replace HB := Aside0.mk (hb); replace HI0 := Aside0.mk (hi); clear hb hk hi))
      go_roundg k1
      case measure => have := HK1.out; omega
      case rel => exact ⟨(Ng), (Nh), (wZ), Z9, H', ⟨by have := HK1.out; omega⟩, ⟨zI⟩, ⟨zK⟩, ⟨zE⟩⟩
    as_aux_lemma =>
     simp only [Option.some.injEq, Prod.mk.injEq] at H
     obtain ⟨rfl, rfl, rfl⟩ := H
     obtain ⟨uL, uM, uN, uO⟩ := cx_cellS50 HI0.out
     go_wp2
     go_ret
     exact ⟨Z11, zI, zE, zK⟩
   as_aux_lemma =>
    simp only [Option.some.injEq, Prod.mk.injEq] at H
    obtain ⟨rfl, rfl, rfl⟩ := H
    obtain ⟨uP, uQ, uR, uS⟩ := cx_cellS50 HI0.out
    go_wp2
    go_ret
    exact ⟨Z11, zI, zE, zK⟩
mutual
def aG.j0 : Nat → Bool → ByteArray → Int → Option (Bool × ByteArray × Int)
 | 0, _, _, _ => none
 | k + 1, x12, dC, cT => if x12 = true then (some (false, dC, cT)) else ((aQ.f dC cT 46).bind fun bt220 => (if bt220.1 = true then ((aN.f k bt220.2.1 bt220.2.2).bind fun bt223 => (aG.j1 k (!bt223.1) bt223.2.1 bt223.2.2)) else (aG.j1 k false bt220.2.1 bt220.2.2)))
def aG.j1 : Nat → Bool → ByteArray → Int → Option (Bool × ByteArray × Int)
 | 0, _, _, _ => none
 | k + 1, x19, dC, cT => if x19 = true then (some (false, dC, cT)) else ((aQ.f dC cT 101).bind fun bt226 => (if bt226.1 = true then (aG.j2 k true bt226.2.1 bt226.2.2) else ((aQ.f bt226.2.1 bt226.2.2 69).bind fun bt229 => (aG.j2 k bt229.1 bt229.2.1 bt229.2.2))))
def aG.j2 : Nat → Bool → ByteArray → Int → Option (Bool × ByteArray × Int)
 | 0, _, _, _ => none
 | k + 1, x25, dC, cT => if x25 = true then ((aQ.f dC cT 43).bind fun bt232 => (if bt232.1 = true then ((aN.f k bt232.2.1 bt232.2.2).bind fun bt235 => (some (bt235.1, bt235.2.1, bt235.2.2))) else ((aQ.f bt232.2.1 bt232.2.2 45).bind fun bt238 => ((aN.f k bt238.2.1 bt238.2.2).bind fun bt241 => (some (bt241.1, bt241.2.1, bt241.2.2)))))) else (some (true, dC, cT))
end
def aG.f (k : Nat) (s0_0 : ByteArray) (s0_1 : Int) : Option (Bool × ByteArray × Int) := (aQ.f s0_0 s0_1 45).bind fun bt211 => ((aQ.f bt211.2.1 bt211.2.2 48).bind fun bt214 => (if bt214.1 = true then (aG.j0 k false bt214.2.1 bt214.2.2) else ((aN.f k bt214.2.1 bt214.2.2).bind fun bt217 => (aG.j0 k (!bt217.1) bt217.2.1 bt217.2.2))))
theorem aG.mono_l : ∀ k, (∀ y0 y1 y2, LeO (aG.j0 k y0 y1 y2) (aG.j0 (k + 1) y0 y1 y2)) ∧ (∀ y0 y1 y2, LeO (aG.j1 k y0 y1 y2) (aG.j1 (k + 1) y0 y1 y2)) ∧ (∀ y0 y1 y2, LeO (aG.j2 k y0 y1 y2) (aG.j2 (k + 1) y0 y1 y2))
 | 0 => ⟨fun _ _ _ r h => by simp [aG.j0] at h, fun _ _ _ r h => by simp [aG.j1] at h, fun _ _ _ r h => by simp [aG.j2] at h⟩
 | k + 1 => by
  obtain ⟨ih0, ih1, ih2⟩ := aG.mono_l k
  refine ⟨?_, ?_, ?_⟩
  ·intro y0 y1 y2
   unfold aG.j0
   repeat' first
   | (with_reducible exact ih0 _ _ _)
   | (with_reducible exact ih1 _ _ _)
   | (with_reducible exact ih2 _ _ _)
   | (with_reducible exact aN.mono _ _ _)
   | (with_reducible exact LeO.refl _)
   | (with_reducible exact LeO.none _)
   | (with_reducible refine LeO.ite ?_ ?_)
   | (with_reducible refine LeO.bind ?_ (fun _ => ?_))
   | exact ih0 _ _ _
   | exact ih1 _ _ _
   | exact ih2 _ _ _
   | exact aN.mono _ _ _
   | exact LeO.none _
   | refine LeO.ite ?_ ?_
   | refine LeO.bind ?_ (fun _ => ?_)
  ·intro y0 y1 y2
   unfold aG.j1
   repeat' first
   | (with_reducible exact ih0 _ _ _)
   | (with_reducible exact ih1 _ _ _)
   | (with_reducible exact ih2 _ _ _)
   | (with_reducible exact aN.mono _ _ _)
   | (with_reducible exact LeO.refl _)
   | (with_reducible exact LeO.none _)
   | (with_reducible refine LeO.ite ?_ ?_)
   | (with_reducible refine LeO.bind ?_ (fun _ => ?_))
   | exact ih0 _ _ _
   | exact ih1 _ _ _
   | exact ih2 _ _ _
   | exact aN.mono _ _ _
   | exact LeO.none _
   | refine LeO.ite ?_ ?_
   | refine LeO.bind ?_ (fun _ => ?_)
  ·intro y0 y1 y2
   unfold aG.j2
   repeat' first
   | (with_reducible exact ih0 _ _ _)
   | (with_reducible exact ih1 _ _ _)
   | (with_reducible exact ih2 _ _ _)
   | (with_reducible exact aN.mono _ _ _)
   | (with_reducible exact LeO.refl _)
   | (with_reducible exact LeO.none _)
   | (with_reducible refine LeO.ite ?_ ?_)
   | (with_reducible refine LeO.bind ?_ (fun _ => ?_))
   | exact ih0 _ _ _
   | exact ih1 _ _ _
   | exact ih2 _ _ _
   | exact aN.mono _ _ _
   | exact LeO.none _
   | refine LeO.ite ?_ ?_
   | refine LeO.bind ?_ (fun _ => ?_)
theorem aG.mono : ∀ a0 a1 k, LeO (aG.f k a0 a1) (aG.f (k + 1) a0 a1) := by
 intro a0 a1 k
 obtain ⟨ih0, ih1, ih2⟩ := aG.mono_l k
 unfold aG.f
 exact zM
theorem aG.calls (k : Nat) (g : Nat) (s0_0 : ByteArray) (s0_1 : Int) (r1 : Bool) (r2 : ByteArray) (r3 : Int) (w0 w : World) (hI : IsS50 w0 w g s0_0 s0_1) (hB : Below w0.heap.size w0 w) (h : aG.f k s0_0 s0_1 = some (r1, r2, r3)) :
 Calls Tryz.prog 42 #[.pointer (some ⟨g, 0, none⟩)] w fun e w' => e = .returned (.bool r1) ∧ IsS50 w0 w' g r2 r3 ∧ Below w0.heap.size w0 w' ∧ KeepBut w w' g none := by
 have HI0 := Aside0.mk hI
 have HK := Aside0.mk (KeepBut.refl w g none)
 have HL := Aside0.mk hB.size
 clear hI
 have HW0 := Aside0.mk hB.size
 have HB := Aside0.mk hB
 clear hB
 have H : ((aQ.f s0_0 s0_1 45).bind fun bt211 => ((aQ.f bt211.2.1 bt211.2.2 48).bind fun bt214 => (if bt214.1 = true then (aG.j0 k false bt214.2.1 bt214.2.2) else ((aN.f k bt214.2.1 bt214.2.2).bind fun bt217 => (aG.j0 k (!bt217.1) bt217.2.1 bt217.2.2))))) = some (r1, r2, r3) := h
 clear h
 revert H; refine bnd ?_; rintro ⟨afK, Ae, Af⟩ A2 H; try dsimp only at H
 have qF := Aside0.mk H
 clear H
 go_enter Tryz.func42, Tryz.ntmps42
 go_upto_region 2 with (first | (refine gl 56 (some 4) Tryz.func56 #[.pointer (some ⟨g, 0, none⟩), .int .u8 45] ?_; (with_reducible refine (aQ.calls g s0_0 s0_1 45 afK Ae Af w0 _ zI zE A2.out).mono ?_); rintro e w4 ⟨rfl, hi, hb, hk⟩; refine ⟨_, rfl, ?_⟩; replace HK := Aside0.mk (KeepBut.trans (w := w) zK hk (.inl rfl)); replace HB := Aside0.mk (hb); replace HI0 := Aside0.mk (hi); clear hb hk hi))
 (try simp only [Act.put, List.setIfInBounds_toArray, List.set_cons_zero, List.set_cons_succ])
 go_cut [12] (fun v12 wc => ∃ (kq : Nat) (yS : Bool) (gN : ByteArray) (gO : Int), v12 = .bool yS ∧ Aside0 (aG.j0 kq yS gN gO = some (r1, r2, r3)) ∧ Aside0 (kq ≤ k) ∧ Aside0 (IsS50 w0 wc g gN gO) ∧ Aside0 (KeepBut w wc g none) ∧ Aside0 (Below w0.heap.size w0 wc))
 case first =>
  have H := qF.out
  clear qF
  revert H; refine bnd ?_; rintro ⟨aqN, Ec, Ed⟩ A5 H; try dsimp only at H
  replace H := sB H
  obtain ⟨rfl, H⟩ | ⟨rfl, H⟩ := H
  ·as_aux_lemma =>
    have H' := Aside0.mk H
    clear H
    go_wp2_with (first | (refine gl 56 (some 6) Tryz.func56 #[.pointer (some ⟨g, 0, none⟩), .int .u8 48] ?_; (with_reducible refine (aQ.calls g Ae Af 48 true Ec Ed w0 _ zI zE A5.out).mono ?_); rintro e w7 ⟨rfl, hi, hb, hk⟩; refine ⟨_, rfl, ?_⟩; replace HK := Aside0.mk (KeepBut.trans (w := w) zK hk (.inl rfl)); replace HB := Aside0.mk (hb); replace HI0 := Aside0.mk (hi); clear hb hk hi))
    go_meet
    case rel => exact ⟨_, (false), (Ec), (Ed), Z9, H', ⟨Z30⟩, ⟨zI⟩, ⟨zK⟩, ⟨zE⟩⟩
  revert H; refine bnd ?_; rintro ⟨Ni, Nj, Nk⟩ A8 H; try dsimp only at H
  as_aux_lemma =>
   have H' := Aside0.mk H
   clear H
   go_wp2_with (first | (refine gl 56 (some 6) Tryz.func56 #[.pointer (some ⟨g, 0, none⟩), .int .u8 48] ?_; (with_reducible refine (aQ.calls g Ae Af 48 false Ec Ed w0 _ zI zE A5.out).mono ?_); rintro e w9 ⟨rfl, hi, hb, hk⟩; refine ⟨_, rfl, ?_⟩; replace HK := Aside0.mk (KeepBut.trans (w := w) zK hk (.inl rfl)); replace HB := Aside0.mk (hb); replace HI0 := Aside0.mk (hi); clear hb hk hi) | (go_at_call 58; (with_reducible refine (aN.calls k g Ec Ed Ni Nj Nk w0 _ zI zE A8.out).mono ?_); rintro e w10 ⟨rfl, hi, hb, hk⟩; replace HK := Aside0.mk (KeepBut.trans (w := w) zK hk (.inl rfl)); replace HB := Aside0.mk (hb); replace HI0 := Aside0.mk (hi); clear hb hk hi))
   go_meet
   case rel => exact ⟨_, (!Ni), (Nj), (Nk), Z9, H', ⟨Z30⟩, ⟨zI⟩, ⟨zK⟩, ⟨zE⟩⟩
 case rest =>
  clear qF
  obtain ⟨kq, yS, gN, gO, rfl, HA, HJ2, HI0, HK, HB⟩ := hcut
  cases kq with
  | zero => exact absurd HA.out (by simp [aG.j0])
  | succ kj2 =>
   have H := HA.out
   clear HA
   simp only [aG.j0] at H
   replace H := sB H
   obtain ⟨rfl, H⟩ | ⟨rfl, H⟩ := H
   ·as_aux_lemma =>
     simp only [Option.some.injEq, Prod.mk.injEq] at H
     obtain ⟨rfl, rfl, rfl⟩ := H
     go_wp2
     go_ret
     exact ⟨Z11, zI, zE, zK⟩
   have rU := Aside0.mk H
   clear H
   go_upto_region 4 with (fail)
   go_cut [19] (fun v19 wc => ∃ (kq : Nat) (rV : Bool) (kE : ByteArray) (kF : Int), v19 = .bool rV ∧ Aside0 (aG.j1 kq rV kE kF = some (r1, r2, r3)) ∧ Aside0 (kq ≤ kj2) ∧ Aside0 (IsS50 w0 wc g kE kF) ∧ Aside0 (KeepBut w wc g none) ∧ Aside0 (Below w0.heap.size w0 wc))
   case first =>
    have H := rU.out
    clear rU
    revert H; refine bnd ?_; rintro ⟨aqO, Ee, Ef⟩ vT H; try dsimp only at H
    replace H := sB H
    obtain ⟨rfl, H⟩ | ⟨rfl, H⟩ := H
    ·revert H; refine bnd ?_; rintro ⟨Nl, Nm, Nn⟩ Aa H; try dsimp only at H
     as_aux_lemma =>
      have H' := Aside0.mk H
      clear H
      go_wp2_with (first | (refine gl 56 (some 14) Tryz.func56 #[.pointer (some ⟨g, 0, none⟩), .int .u8 46] ?_; (with_reducible refine (aQ.calls g gN gO 46 true Ee Ef w0 _ zI zE vT.out).mono ?_); rintro e w16 ⟨rfl, hi, hb, hk⟩; refine ⟨_, rfl, ?_⟩; replace HK := Aside0.mk (KeepBut.trans (w := w) zK hk (.inl rfl)); replace HB := Aside0.mk (hb); replace HI0 := Aside0.mk (hi); clear hb hk hi) | (go_at_call 58; (with_reducible refine (aN.calls kj2 g Ee Ef Nl Nm Nn w0 _ zI zE Aa.out).mono ?_); rintro e w17 ⟨rfl, hi, hb, hk⟩; replace HK := Aside0.mk (KeepBut.trans (w := w) zK hk (.inl rfl)); replace HB := Aside0.mk (hb); replace HI0 := Aside0.mk (hi); clear hb hk hi))
      go_meet
      case rel => exact ⟨_, (!Nl), (Nm), (Nn), Z9, H', ⟨by have := HJ2.out; first | omega | exact Nat.le_refl _⟩, ⟨zI⟩, ⟨zK⟩, ⟨zE⟩⟩
    as_aux_lemma =>
     have H' := Aside0.mk H
     clear H
     go_wp2_with (first | (refine gl 56 (some 14) Tryz.func56 #[.pointer (some ⟨g, 0, none⟩), .int .u8 46] ?_; (with_reducible refine (aQ.calls g gN gO 46 false Ee Ef w0 _ zI zE vT.out).mono ?_); rintro e w18 ⟨rfl, hi, hb, hk⟩; refine ⟨_, rfl, ?_⟩; replace HK := Aside0.mk (KeepBut.trans (w := w) zK hk (.inl rfl)); replace HB := Aside0.mk (hb); replace HI0 := Aside0.mk (hi); clear hb hk hi))
     go_meet
     case rel => exact ⟨_, (false), (Ee), (Ef), Z9, H', ⟨by have := HJ2.out; first | omega | exact Nat.le_refl _⟩, ⟨zI⟩, ⟨zK⟩, ⟨zE⟩⟩
   case rest =>
    clear rU
    obtain ⟨kq, rV, kE, kF, rfl, HA, HJ11, HI0, HK, HB⟩ := hcut
    cases kq with
    | zero => exact absurd HA.out (by simp [aG.j1])
    | succ kj11 =>
     have H := HA.out
     clear HA
     simp only [aG.j1] at H
     replace H := sB H
     obtain ⟨rfl, H⟩ | ⟨rfl, H⟩ := H
     ·as_aux_lemma =>
       simp only [Option.some.injEq, Prod.mk.injEq] at H
       obtain ⟨rfl, rfl, rfl⟩ := H
       go_wp2
       go_ret
       exact ⟨Z11, zI, zE, zK⟩
     have Ip := Aside0.mk H
     clear H
     go_upto_region 6 with (fail)
     go_cut [25] (fun v25 wc => ∃ (kq : Nat) (rW : Bool) (kG : ByteArray) (kH : Int), v25 = .bool rW ∧ Aside0 (aG.j2 kq rW kG kH = some (r1, r2, r3)) ∧ Aside0 (kq ≤ kj11) ∧ Aside0 (IsS50 w0 wc g kG kH) ∧ Aside0 (KeepBut w wc g none) ∧ Aside0 (Below w0.heap.size w0 wc))
     case first =>
      have H := Ip.out
      clear Ip
      revert H; refine bnd ?_; rintro ⟨aqP, Eg, Eh⟩ Jm H; try dsimp only at H
      replace H := sB H
      obtain ⟨rfl, H⟩ | ⟨rfl, H⟩ := H
      ·as_aux_lemma =>
        have H' := Aside0.mk H
        clear H
        go_wp2_with (first | (refine gl 56 (some 21) Tryz.func56 #[.pointer (some ⟨g, 0, none⟩), .int .u8 101] ?_; (with_reducible refine (aQ.calls g kE kF 101 true Eg Eh w0 _ zI zE Jm.out).mono ?_); rintro e w23 ⟨rfl, hi, hb, hk⟩; refine ⟨_, rfl, ?_⟩; replace HK := Aside0.mk (KeepBut.trans (w := w) zK hk (.inl rfl)); replace HB := Aside0.mk (hb); replace HI0 := Aside0.mk (hi); clear hb hk hi))
        go_meet
        case rel => exact ⟨_, (true), (Eg), (Eh), Z9, H', ⟨by have := HJ2.out; have := HJ11.out; first | omega | exact Nat.le_refl _⟩, ⟨zI⟩, ⟨zK⟩, ⟨zE⟩⟩
      revert H; refine bnd ?_; rintro ⟨Np, Nq, Nr⟩ A24 H; try dsimp only at H
      as_aux_lemma =>
       have H' := Aside0.mk H
       clear H
       go_wp2_with (first | (refine gl 56 (some 21) Tryz.func56 #[.pointer (some ⟨g, 0, none⟩), .int .u8 101] ?_; (with_reducible refine (aQ.calls g kE kF 101 false Eg Eh w0 _ zI zE Jm.out).mono ?_); rintro e w25 ⟨rfl, hi, hb, hk⟩; refine ⟨_, rfl, ?_⟩; replace HK := Aside0.mk (KeepBut.trans (w := w) zK hk (.inl rfl)); replace HB := Aside0.mk (hb); replace HI0 := Aside0.mk (hi); clear hb hk hi) | (go_at_call 56; (with_reducible refine (aQ.calls g Eg Eh 69 Np Nq Nr w0 _ zI zE A24.out).mono ?_); rintro e w26 ⟨rfl, hi, hb, hk⟩; replace HK := Aside0.mk (KeepBut.trans (w := w) zK hk (.inl rfl)); replace HB := Aside0.mk (hb); replace HI0 := Aside0.mk (hi); clear hb hk hi))
       go_meet
       case rel => exact ⟨_, (Np), (Nq), (Nr), Z9, H', ⟨by have := HJ2.out; have := HJ11.out; first | omega | exact Nat.le_refl _⟩, ⟨zI⟩, ⟨zK⟩, ⟨zE⟩⟩
     case rest =>
      clear Ip
      obtain ⟨kq, rW, kG, kH, rfl, HA, HJ19, HI0, HK, HB⟩ := hcut
      cases kq with
      | zero => exact absurd HA.out (by simp [aG.j2])
      | succ kj19 =>
       have H := HA.out
       clear HA
       simp only [aG.j2] at H
       replace H := sB H
       obtain ⟨rfl, H⟩ | ⟨rfl, H⟩ := H
       ·revert H; refine bnd ?_; rintro ⟨aeC, xA, Ei⟩ zY H; try dsimp only at H
        replace H := sB H
        obtain ⟨rfl, H⟩ | ⟨rfl, H⟩ := H
        ·revert H; refine bnd ?_; rintro ⟨afM, afN, afO⟩ A30 H; try dsimp only at H
         as_aux_lemma =>
          simp only [Option.some.injEq, Prod.mk.injEq] at H
          obtain ⟨rfl, rfl, rfl⟩ := H
          go_wp2_with (first | (refine gl 56 (some 27) Tryz.func56 #[.pointer (some ⟨g, 0, none⟩), .int .u8 43] ?_; (with_reducible refine (aQ.calls g kG kH 43 true xA Ei w0 _ zI zE zY.out).mono ?_); rintro e w31 ⟨rfl, hi, hb, hk⟩; refine ⟨_, rfl, ?_⟩; replace HK := Aside0.mk (KeepBut.trans (w := w) zK hk (.inl rfl)); replace HB := Aside0.mk (hb); replace HI0 := Aside0.mk (hi); clear hb hk hi) | (refine gl 58 (some 32) Tryz.func58 #[.pointer (some ⟨g, 0, none⟩)] ?_; (with_reducible refine (aN.calls kj19 g xA Ei afM afN afO w0 _ zI zE A30.out).mono ?_); rintro e w32 ⟨rfl, hi, hb, hk⟩; refine ⟨_, rfl, ?_⟩; replace HK := Aside0.mk (KeepBut.trans (w := w) zK hk (.inl rfl)); replace HB := Aside0.mk (hb); replace HI0 := Aside0.mk (hi); clear hb hk hi))
          go_ret
          exact ⟨Z11, zI, zE, zK⟩
        revert H; refine bnd ?_; rintro ⟨afQ, Ns, Nt⟩ A33 H; try dsimp only at H
        revert H; refine bnd ?_; rintro ⟨afR, afS, afT⟩ A34 H; try dsimp only at H
        as_aux_lemma =>
         simp only [Option.some.injEq, Prod.mk.injEq] at H
         obtain ⟨rfl, rfl, rfl⟩ := H
         go_wp2_with (first | (refine gl 56 (some 27) Tryz.func56 #[.pointer (some ⟨g, 0, none⟩), .int .u8 43] ?_; (with_reducible refine (aQ.calls g kG kH 43 false xA Ei w0 _ zI zE zY.out).mono ?_); rintro e w35 ⟨rfl, hi, hb, hk⟩; refine ⟨_, rfl, ?_⟩; replace HK := Aside0.mk (KeepBut.trans (w := w) zK hk (.inl rfl)); replace HB := Aside0.mk (hb); replace HI0 := Aside0.mk (hi); clear hb hk hi) | (refine gl 56 (some 30) Tryz.func56 #[.pointer (some ⟨g, 0, none⟩), .int .u8 45] ?_; (with_reducible refine (aQ.calls g xA Ei 45 afQ Ns Nt w0 _ zI zE A33.out).mono ?_); rintro e w36 ⟨rfl, hi, hb, hk⟩; refine ⟨_, rfl, ?_⟩; replace HK := Aside0.mk (KeepBut.trans (w := w) zK hk (.inl rfl)); replace HB := Aside0.mk (hb); replace HI0 := Aside0.mk (hi); clear hb hk hi) | (refine gl 58 (some 32) Tryz.func58 #[.pointer (some ⟨g, 0, none⟩)] ?_; (with_reducible refine (aN.calls kj19 g Ns Nt afR afS afT w0 _ zI zE A34.out).mono ?_); rintro e w37 ⟨rfl, hi, hb, hk⟩; refine ⟨_, rfl, ?_⟩; replace HK := Aside0.mk (KeepBut.trans (w := w) zK hk (.inl rfl)); replace HB := Aside0.mk (hb); replace HI0 := Aside0.mk (hi); clear hb hk hi))
         go_ret
         exact ⟨Z11, zI, zE, zK⟩
       as_aux_lemma =>
        simp only [Option.some.injEq, Prod.mk.injEq] at H
        obtain ⟨rfl, rfl, rfl⟩ := H
        go_wp2
        go_ret
        exact ⟨Z11, zI, zE, zK⟩
def bW.f (s0_0 : ByteArray) (s0_1 : Int) (a1 : ByteArray) : Option (Bool × ByteArray × Int) := if (wrap64 ((s0_0.size : Int) - s0_1)) < (a1.size : Int) then (some (false, s0_0, s0_1)) else (if 0 ≤ s0_1 then (if s0_1 ≤ (wrap64 (s0_1 + (a1.size : Int))) then (if (wrap64 (s0_1 + (a1.size : Int))) ≤ (s0_0.size : Int) then (if (s0_0.extract (s0_1 : Int).toNat ((wrap64 (s0_1 + (a1.size : Int))) : Int).toNat).toList = a1.toList then (some (true, s0_0, wrap64 (s0_1 + (a1.size : Int)))) else (some (false, s0_0, s0_1))) else (none)) else (none)) else (none))
theorem bW.calls (g : Nat) (s0_0 : ByteArray) (s0_1 : Int) (a1 : ByteArray) (r1 : Bool) (r2 : ByteArray) (r3 : Int) (w0 w : World) (hI : IsS50 w0 w g s0_0 s0_1) (hB : Below w0.heap.size w0 w) (h : bW.f s0_0 s0_1 a1 = some (r1, r2, r3)) :
 Calls Tryz.prog 43 #[.pointer (some ⟨g, 0, none⟩), .string a1] w fun e w' => e = .returned (.bool r1) ∧ IsS50 w0 w' g r2 r3 ∧ Below w0.heap.size w0 w' ∧ KeepBut w w' g none := by
 have HI0 := Aside0.mk hI
 have HK := Aside0.mk (KeepBut.refl w g none)
 have HL := Aside0.mk hB.size
 clear hI
 have HW0 := Aside0.mk hB.size
 have HB := Aside0.mk hB
 clear hB
 have H : (if (wrap64 ((s0_0.size : Int) - s0_1)) < (a1.size : Int) then (some (false, s0_0, s0_1)) else (if 0 ≤ s0_1 then (if s0_1 ≤ (wrap64 (s0_1 + (a1.size : Int))) then (if (wrap64 (s0_1 + (a1.size : Int))) ≤ (s0_0.size : Int) then (if (s0_0.extract (s0_1 : Int).toNat ((wrap64 (s0_1 + (a1.size : Int))) : Int).toNat).toList = a1.toList then (some (true, s0_0, wrap64 (s0_1 + (a1.size : Int)))) else (some (false, s0_0, s0_1))) else (none)) else (none)) else (none))) = some (r1, r2, r3) := h
 clear h
 revert H; refine sId1_d0 (fun eW H => ?_) fun eW H => ?_
 ·as_aux_lemma =>
   simp only [Option.some.injEq, Prod.mk.injEq] at H
   obtain ⟨rfl, rfl, rfl⟩ := H
   obtain ⟨rH, rI, rJ, rK⟩ := cx_cellS50 HI0.out
   go_enter Tryz.func43, Tryz.ntmps43
   go_wp2
   repeat (go_quiet (fail); try go_wp2)
   go_ret
   exact ⟨Z11, zI, zE, zK⟩
 revert H; refine sNt1d1 fun jZ qT H => ?_
 revert H; refine sNt1d1 fun eX nD H => ?_
 revert H; refine sNt1d1 fun lA pD H => ?_
 revert H; refine sIe1n0_e0n1 (fun jH lR H => ?_) fun jH lR H => ?_
 ·as_aux_lemma =>
   simp only [Option.some.injEq, Prod.mk.injEq] at H
   obtain ⟨rfl, rfl, rfl⟩ := H
   obtain ⟨pQ, pR, pS, pT⟩ := cx_cellS50 HI0.out
   go_enter Tryz.func43, Tryz.ntmps43
   go_wp2
   repeat (go_quiet (fail); try go_wp2)
   go_ret
   exact ⟨Z11, zI, zE, zK⟩
 as_aux_lemma =>
  simp only [Option.some.injEq, Prod.mk.injEq] at H
  obtain ⟨rfl, rfl, rfl⟩ := H
  obtain ⟨uL, uM, uN, uO⟩ := cx_cellS50 HI0.out
  go_enter Tryz.func43, Tryz.ntmps43
  go_wp2
  repeat (go_quiet (fail); try go_wp2)
  go_ret
  exact ⟨Z11, zI, zE, zK⟩
end Go.Proofs.YtkjnahgicfmicaaGreatDoor.Sp

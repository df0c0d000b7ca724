import Derived.Test.YtkjnahgicfmicaaGreatDoorZip
import Derived.Test.YtkjnahgicfmicaaGreatDoorQa
import Derived.Test.YtkjnahgicfmicaaGreatDoorQb
namespace Go.Proofs.YtkjnahgicfmicaaGreatDoor.Sp
section
set_option maxHeartbeats 8000000
set_option maxRecDepth 100000
open Go.RowKit Go.PW Go.PL Go.PM
attribute [local go_sem] max2_int min2_int max_two min_two max_three min_three max_four min_four
set_option linter.unusedVariables false
set_option linter.unusedSimpArgs false
def IsS50 (w0 W : World) (g : Nat) (f0 : av) (f1 : Int) : Prop := W.heap[g]? = some (.cells #[.string f0, .int .i64 f1] 50 (0, 0)) ∧ w0.heap.size ≤ g
theorem IsS50.grown {w0 W : World} {g : Nat} {f0 : av} {f1 : Int} {W1 : World} {row : Option Nat} (h : IsS50 w0 W g f0 f1) (hw : W.grownBy W1 row) (hne : some g ≠ row) : IsS50 w0 W1 g f0 f1 := by
 obtain ⟨hb, hg⟩ := h
 exact ⟨blk_grown hb hw hne, hg⟩
theorem IsS50.kept {w0 W : World} {g : Nat} {f0 : av} {f1 : Int} {W1 : World} {S : Nat → Prop} (h : IsS50 w0 W g f0 f1) (hk : Kept W W1 S) (hne : ¬ S g) : IsS50 w0 W1 g f0 f1 := by
 obtain ⟨hb, hg⟩ := h
 exact ⟨blk_kept hb hk hne, hg⟩
theorem IsS50.below {w0 W : World} {g : Nat} {f0 : av} {f1 : Int} {W1 : World} (h : IsS50 w0 W g f0 f1) (hw : Below W.heap.size W W1) : IsS50 w0 W1 g f0 f1 := h.grown (grown_of_below hw none) (by simp)
theorem IsS50.alloc {w0 W : World} {g : Nat} {f0 : av} {f1 : Int} (h : IsS50 w0 W g f0 f1) (o : Obj) : IsS50 w0 (W.alloc o) g f0 f1 := h.below (below_alloc (Below.refl _ _) o)
theorem IsS50.drewN {w0 W : World} {g : Nat} {f0 : av} {f1 : Int} (h : IsS50 w0 W g f0 f1) (m : Nat) : IsS50 w0 (W.drewN m) g f0 f1 := h
theorem IsS50.drew {w0 W : World} {g : Nat} {f0 : av} {f1 : Int} (h : IsS50 w0 W g f0 f1) : IsS50 w0 W.drew g f0 f1 := h
theorem IsS50.apart {w0 W : World} {g : Nat} {f0 : av} {f1 : Int} {α : Type} {d : Kd α} {e : Nat} {base : Nat} {ok : Nat → Prop} {v : Value} {xs : List α} (h : IsS50 w0 W g f0 f1) (ho : d.R e W base ok v xs) (ht : ∀ q, q ∈ e :: d.E → q ≠ 50) : d.R e W base (fun k => ok k ∧ k ≠ g) v xs := by
 obtain ⟨hb, hg⟩ := h
 exact Kd.R_types ho hb ht
theorem IsS50.own_ne {w0 W : World} {g : Nat} {f0 : av} {f1 : Int} {α : Type} {d : Kd α} {e : Nat} {base : Nat} {ok : Nat → Prop} {v : Value} {xs : List α} (h : IsS50 w0 W g f0 f1) (ho : d.R e W base ok v xs) (ht : e ≠ 50) : some g ≠ v.ownBlock := by
 obtain ⟨hb, hg⟩ := h
 exact Kd.R_ne ho hb ht
theorem IsS50.lt {w0 W : World} {g : Nat} {f0 : av} {f1 : Int} (h : IsS50 w0 W g f0 f1) : g < W.heap.size := by
 obtain ⟨hb, hg⟩ := h
 exact blk_lt hb
theorem IsS50.ge {w0 W : World} {g : Nat} {f0 : av} {f1 : Int} (h : IsS50 w0 W g f0 f1) : w0.heap.size ≤ g := by
 obtain ⟨hb, hg⟩ := h
 exact hg
theorem IsS50.far {w0 W : World} {g : Nat} {f0 : av} {f1 : Int} {p : Addr} (h : IsS50 w0 W g f0 f1) (hne : g ≠ p.block) (u : Value) : IsS50 w0 (W.setCell p u) g f0 f1 := by
 obtain ⟨hb, hg⟩ := h
 exact ⟨blk_far hb hne u, hg⟩
theorem cellS50_0 {W : World} {g : Nat} {f0 : av} {f1 : Int} (h : W.heap[g]? = some (.cells #[.string f0, .int .i64 f1] 50 (0, 0))) : W.cell? ⟨g, 0, none⟩ = some (.string f0) := (ay h 0)
theorem IsS50.set_0 {w0 W : World} {g : Nat} {f0 : av} {f1 : Int} (h : IsS50 w0 W g f0 f1) (x : av) : IsS50 w0 (W.setCell ⟨g, 0, none⟩ (.string x)) g x f1 := by
 obtain ⟨hb, hg⟩ := h
 exact ⟨by simpa using blk_set hb 0 (.string x), hg⟩
theorem cellS50_1 {W : World} {g : Nat} {f0 : av} {f1 : Int} (h : W.heap[g]? = some (.cells #[.string f0, .int .i64 f1] 50 (0, 0))) : W.cell? ⟨g, 1, none⟩ = some (.int .i64 f1) := (ay h 1)
theorem IsS50.set_1 {w0 W : World} {g : Nat} {f0 : av} {f1 : Int} (h : IsS50 w0 W g f0 f1) (x : Int) : IsS50 w0 (W.setCell ⟨g, 1, none⟩ (.int .i64 x)) g f0 x := by
 obtain ⟨hb, hg⟩ := h
 exact ⟨by simpa using blk_set hb 1 (.int .i64 x), hg⟩
theorem IsS50.new (w0 W : World) (f0 : av) (f1 : Int) (hB : Below w0.heap.size w0 W) : IsS50 w0 (W.alloc (.cells #[.string f0, .int .i64 f1] 50)) W.heap.size f0 f1 := ⟨by simpa using heap_alloc_new W _, hB.size⟩
theorem cx_cellS50 {w0 W : World} {g : Nat} {f0 : av} {f1 : Int} (h : IsS50 w0 W g f0 f1) : W.cell? ⟨g, 0, none⟩ = some (.string f0) ∧ W.cell? ⟨g, 1, none⟩ = some (.int .i64 f1) ∧ W.frozen? ⟨g, 0, none⟩ = false ∧ W.frozen? ⟨g, 1, none⟩ = false :=
 ⟨cellS50_0 h.1, cellS50_1 h.1, blk_frozen h.1 0, blk_frozen h.1 1⟩
theorem zE {p : Prop} (h : p := by repeat (first | (with_reducible first | exact Aside0.out (by assumption) | apply below_alloc | apply pw_below_drewN | apply below_drew1 | refine below_set ?_ (IsS50.ge (Aside0.out (by assumption))) | refine below_set ?_ (Aside0.out (by assumption))) | exact Aside0.out (by assumption))) : p := h
theorem zI {p : Prop} (h : p := by repeat (first | (with_reducible first | exact Aside0.out (by assumption) | apply IsS50.alloc | apply IsS50.drewN | apply IsS50.drew | apply IsS50.set_0 | apply IsS50.set_1 | refine IsS50.far ?_ (Aside0.out (by assumption)) _) | exact Aside0.out (by assumption))) : p := h
def aI.l0 : Nat → av → Int → Option (av × Int)
 | 0, _, _ => none
 | k + 1, cO, cI => if cI < (cO.size : Int) then (if 0 ≤ cI then ((cG.f (bt cO cI)).bind fun Gv => (if Gv = true then (aI.l0 k cO (wrap64 (cI + 1))) else (some (cO, cI)))) else (none)) else (some (cO, cI))
def aI.f (k : Nat) (s0_0 : av) (s0_1 : Int) : Option (av × Int) := aI.l0 k s0_0 s0_1
theorem aI.mono_l : ∀ k, (∀ y0 y1, LeO (aI.l0 k y0 y1) (aI.l0 (k + 1) y0 y1))
 | 0 => fun _ _ r h => by simp [aI.l0] at h
 | k + 1 => by
  have ih0 := aI.mono_l k
  ·intro y0 y1
   unfold aI.l0
   exact zM
theorem aI.mono : ∀ a0 a1 k, LeO (aI.f k a0 a1) (aI.f (k + 1) a0 a1) := by
 intro a0 a1 k
 have ih0 := aI.mono_l k
 unfold aI.f
 exact zM
instance aI.mi  {a0 a1 k} : LeI (aI.f k a0 a1) (aI.f (k + 1) a0 a1) := ⟨⟨aI.mono a0 a1 k⟩⟩
theorem aI.calls (k : Nat) (g : Nat) (s0_0 : av) (s0_1 : Int) (r1 : av) (r2 : Int) (w0 w : World) (hI : IsS50 w0 w g s0_0 s0_1) (hB : Below w0.heap.size w0 w) (h : aI.f k s0_0 s0_1 = some (r1, r2)) :
 Calls Tryz.prog 19 #[.pointer (some ⟨g, 0, none⟩)] w fun e w' => e = .returned (.tuple #[]) ∧ IsS50 w0 w' g r1 r2 ∧ Below w0.heap.size w0 w' ∧ KeepBut w w' g none := by
 have HI0 := ab hI
 have HK := ab (KeepBut.refl w g none)
 have HL := ab hB.size
 clear hI
 have HW0 := ab hB.size
 have HB := ab hB
 clear hB
 have H : (aI.l0 k s0_0 s0_1) = some (r1, r2) := h
 clear h
 have H' := ab H
 clear H
 go_enter Tryz.func19, Tryz.ntmps19
 go_wp2
 repeat (go_quiet (fail); try go_wp2)
 (try simp only [Act.put, ap, aq, ar])
 go_loopg [] k (fun kq w' => ∃ (bK : Int), Aside0 (aI.l0 kq s0_0 bK = some (r1, r2)) ∧ Aside0 (kq ≤ k) ∧ Aside0 (IsS50 w0 w' g s0_0 bK) ∧ Aside0 (KeepBut w w' g none) ∧ Aside0 (Below w0.heap.size w0 w'))
 case atStart => exact ⟨(s0_1), H', ⟨Nat.le_refl _⟩, ⟨zI⟩, ⟨zK⟩, ⟨zE⟩⟩
 case round =>
  clear H'
  obtain ⟨bK, HA, HK1, HI0, HK, HB⟩ := hrel
  cases gk with
  | zero => exact absurd HA.out (by simp [aI.l0])
  | succ k1 =>
   have H := HA.out
   clear HA
   simp only [aI.l0] at H
   revert H; refine sId1_d0 (fun gJ H => ?_) fun gJ H => ?_
   ·revert H; refine sNd1 fun dX H => ?_
    revert H; refine bnd ?_; rintro Gv A5 H
    replace H := sB H
    obtain ⟨rfl, H⟩ | ⟨rfl, H⟩ := H
    ·as_aux_lemma =>
      have H' := ab H
      clear H
      obtain ⟨nL, nM, nN, nO⟩ := cx_cellS50 HI0.out
      have p4 := ag (ac Z6 : 0 ≤ (bK : Int))
      have q4 := ag (ac Z6 : bK < (s0_0.size : Int))
      have hx4 := bt_at s0_0 bK
      go_wp2_with (first | (go_at_call 31; (with_reducible refine (cG.calls (bt s0_0 bK) true _ A5.out).mono ?_); rintro e w' ⟨rfl, ⟨nd, rfl⟩⟩; (try first | exact ⟨rfl, _, World.drewN_drewN _ _ _⟩ | exact ⟨rfl, _, Eq.trans (World.drewN_drewN _ _ _) (congrArg (World.drewN _) (Nat.add_assoc _ _ _))⟩)))
      repeat (go_quiet (first | (go_at_call 31; (with_reducible refine (cG.calls (bt s0_0 bK) true _ A5.out).mono ?_); rintro e w' ⟨rfl, ⟨nd, rfl⟩⟩; (try first | exact ⟨rfl, _, World.drewN_drewN _ _ _⟩ | exact ⟨rfl, _, Eq.trans (World.drewN_drewN _ _ _) (congrArg (World.drewN _) (Nat.add_assoc _ _ _))⟩))); try go_wp2_with (first | (go_at_call 31; (with_reducible refine (cG.calls (bt s0_0 bK) true _ A5.out).mono ?_); rintro e w' ⟨rfl, ⟨nd, rfl⟩⟩; (try first | exact ⟨rfl, _, World.drewN_drewN _ _ _⟩ | exact ⟨rfl, _, Eq.trans (World.drewN_drewN _ _ _) (congrArg (World.drewN _) (Nat.add_assoc _ _ _))⟩))))
      go_roundg k1
      case measure => have := HK1.out; omega
      case rel => exact ⟨(wrap64 (bK + 1)), H', ⟨by have := HK1.out; omega⟩, ⟨zI⟩, ⟨zK⟩, ⟨zE⟩⟩
    as_aux_lemma =>
     simp only [am, an] at H
     obtain ⟨rfl, rfl⟩ := H
     obtain ⟨kK, kL, kM, kN⟩ := cx_cellS50 HI0.out
     have p4 := ag (ac Z6 : 0 ≤ (bK : Int))
     have q4 := ag (ac Z6 : bK < (s0_0.size : Int))
     have hx4 := bt_at s0_0 bK
     go_wp2_with (first | (go_at_call 31; (with_reducible refine (cG.calls (bt s0_0 bK) false _ A5.out).mono ?_); rintro e w' ⟨rfl, ⟨nd, rfl⟩⟩; (try first | exact ⟨rfl, _, World.drewN_drewN _ _ _⟩ | exact ⟨rfl, _, Eq.trans (World.drewN_drewN _ _ _) (congrArg (World.drewN _) (Nat.add_assoc _ _ _))⟩)))
     repeat (go_quiet (first | (go_at_call 31; (with_reducible refine (cG.calls (bt s0_0 bK) false _ A5.out).mono ?_); rintro e w' ⟨rfl, ⟨nd, rfl⟩⟩; (try first | exact ⟨rfl, _, World.drewN_drewN _ _ _⟩ | exact ⟨rfl, _, Eq.trans (World.drewN_drewN _ _ _) (congrArg (World.drewN _) (Nat.add_assoc _ _ _))⟩))); try go_wp2_with (first | (go_at_call 31; (with_reducible refine (cG.calls (bt s0_0 bK) false _ A5.out).mono ?_); rintro e w' ⟨rfl, ⟨nd, rfl⟩⟩; (try first | exact ⟨rfl, _, World.drewN_drewN _ _ _⟩ | exact ⟨rfl, _, Eq.trans (World.drewN_drewN _ _ _) (congrArg (World.drewN _) (Nat.add_assoc _ _ _))⟩))))
     first | go_end0 | ((try simp only [Exit.inBlock, Exit.then]); refine bodyPost_ret (results_none rfl _ _ _) rfl ?_)
     exact ⟨Z9, zI, zE, zK⟩
   as_aux_lemma =>
    simp only [am, an] at H
    obtain ⟨rfl, rfl⟩ := H
    obtain ⟨nP, nQ, nR, nS⟩ := cx_cellS50 HI0.out
    go_wp2
    repeat (go_quiet (fail); try go_wp2)
    first | go_end0 | ((try simp only [Exit.inBlock, Exit.then]); refine bodyPost_ret (results_none rfl _ _ _) rfl ?_)
    exact ⟨Z9, zI, zE, zK⟩
def bN.f (s0_0 : av) (s0_1 : Int) : Option (Int × av × Int) := if s0_1 < (s0_0.size : Int) then (if 0 ≤ s0_1 then (some (bt s0_0 s0_1, s0_0, s0_1)) else (none)) else (some (0, s0_0, s0_1))
theorem bN.calls (g : Nat) (s0_0 : av) (s0_1 : Int) (r1 : Int) (r2 : av) (r3 : Int) (w0 w : World) (hI : IsS50 w0 w g s0_0 s0_1) (hB : Below w0.heap.size w0 w) (h : bN.f s0_0 s0_1 = some (r1, r2, r3)) :
 Calls Tryz.prog 38 #[.pointer (some ⟨g, 0, none⟩)] w fun e w' => e = .returned (.int .u8 r1) ∧ IsS50 w0 w' g r2 r3 ∧ Below w0.heap.size w0 w' ∧ KeepBut w w' g none := by
 have HI0 := ab hI
 have HK := ab (KeepBut.refl w g none)
 have HL := ab hB.size
 clear hI
 have HW0 := ab hB.size
 have HB := ab hB
 clear hB
 unfold bN.f at h
 have H := h
 clear h
 revert H; refine sId1_d0 (fun gJ H => ?_) fun gJ H => ?_
 ·revert H; refine sNd1 fun dX H => ?_
  as_aux_lemma =>
   simp only [am, an] at H
   obtain ⟨rfl, rfl, rfl⟩ := H
   obtain ⟨uG, uH, uI, uJ⟩ := cx_cellS50 HI0.out
   have p4 := ag (ac Z6 : 0 ≤ (s0_1 : Int))
   have q4 := ag (ac Z6 : s0_1 < (s0_0.size : Int))
   have hx4 := bt_at s0_0 s0_1
   go_enter Tryz.func38, Tryz.ntmps38
   go_wp2
   repeat (go_quiet (fail); try go_wp2)
   go_ret
   exact ⟨Z9, zI, zE, zK⟩
 as_aux_lemma =>
  simp only [am, an] at H
  obtain ⟨rfl, rfl, rfl⟩ := H
  obtain ⟨Cb, Cc, Cd, Ce⟩ := cx_cellS50 HI0.out
  go_enter Tryz.func38, Tryz.ntmps38
  go_wp2
  repeat (go_quiet (fail); try go_wp2)
  go_ret
  exact ⟨Z9, zI, zE, zK⟩
mutual
def aG.j0 : Nat → Int → Bool → av → Int → Option (Bool × av × Int)
 | 0, _, _, _, _ => none
 | k + 1, x7, x8, cO, cI => if x8 = true then (some (true, cO, wrap64 (cI + 1))) else (if x7 = 117 then (aG.l0 k 0 cO (wrap64 (cI + 1))) else (some (false, cO, cI)))
def aG.l0 : Nat → Int → av → Int → Option (Bool × av × Int)
 | 0, _, _, _ => none
 | k + 1, x3, cO, cI => if x3 < 4 then ((bN.f cO cI).bind fun bt119 => ((aY.f k bt119.1).bind fun bt122 => (if bt122.2 = true then (aG.l0 k (wrap64 (x3 + 1)) bt119.2.1 (wrap64 (bt119.2.2 + 1))) else (some (false, bt119.2.1, bt119.2.2))))) else (some (true, cO, cI))
end
def aG.f (k : Nat) (s0_0 : av) (s0_1 : Int) : Option (Bool × av × Int) := (bN.f s0_0 s0_1).bind fun bt116 => (if bt116.1 = 34 then (aG.j0 k bt116.1 (bt116.1 == 34) bt116.2.1 bt116.2.2) else (if bt116.1 = 92 then (aG.j0 k bt116.1 (bt116.1 == 92) bt116.2.1 bt116.2.2) else (if bt116.1 = 47 then (aG.j0 k bt116.1 (bt116.1 == 47) bt116.2.1 bt116.2.2) else (if bt116.1 = 98 then (aG.j0 k bt116.1 (bt116.1 == 98) bt116.2.1 bt116.2.2) else (if bt116.1 = 102 then (aG.j0 k bt116.1 (bt116.1 == 102) bt116.2.1 bt116.2.2) else (if bt116.1 = 110 then (aG.j0 k bt116.1 (bt116.1 == 110) bt116.2.1 bt116.2.2) else (if bt116.1 = 114 then (aG.j0 k bt116.1 (bt116.1 == 114) bt116.2.1 bt116.2.2) else (aG.j0 k bt116.1 (bt116.1 == 116) bt116.2.1 bt116.2.2))))))))
theorem aG.mono_l : ∀ k, (∀ y0 y1 y2 y3, LeO (aG.j0 k y0 y1 y2 y3) (aG.j0 (k + 1) y0 y1 y2 y3)) ∧ (∀ y0 y1 y2, LeO (aG.l0 k y0 y1 y2) (aG.l0 (k + 1) y0 y1 y2))
 | 0 => ⟨fun _ _ _ _ r h => by simp [aG.j0] at h, fun _ _ _ r h => by simp [aG.l0] at h⟩
 | k + 1 => by
  obtain ⟨ih0, ih1⟩ := aG.mono_l k
  refine ⟨?_, ?_⟩
  ·intro y0 y1 y2 y3
   unfold aG.j0
   exact zM
  ·intro y0 y1 y2
   unfold aG.l0
   exact zM
theorem aG.mono : ∀ a0 a1 k, LeO (aG.f k a0 a1) (aG.f (k + 1) a0 a1) := by
 intro a0 a1 k
 obtain ⟨ih0, ih1⟩ := aG.mono_l k
 unfold aG.f
 exact zM
instance aG.mi  {a0 a1 k} : LeI (aG.f k a0 a1) (aG.f (k + 1) a0 a1) := ⟨⟨aG.mono a0 a1 k⟩⟩
theorem aG.calls (k : Nat) (g : Nat) (s0_0 : av) (s0_1 : Int) (r1 : Bool) (r2 : av) (r3 : Int) (w0 w : World) (hI : IsS50 w0 w g s0_0 s0_1) (hB : Below w0.heap.size w0 w) (h : aG.f k s0_0 s0_1 = some (r1, r2, r3)) :
 Calls Tryz.prog 57 #[.pointer (some ⟨g, 0, none⟩)] w fun e w' => e = .returned (.bool r1) ∧ IsS50 w0 w' g r2 r3 ∧ Below w0.heap.size w0 w' ∧ KeepBut w w' g none := by
 have HI0 := ab hI
 have HK := ab (KeepBut.refl w g none)
 have HL := ab hB.size
 clear hI
 have HW0 := ab hB.size
 have HB := ab hB
 clear hB
 unfold aG.f at h
 have H := h
 clear h
 revert H; refine bnd ?_; rintro ⟨mJ, wV, wW⟩ A2 H; try dsimp only at H
 have oJ := ab H
 clear H
 go_enter Tryz.func57, Tryz.ntmps57
 go_upto_if 8 with (first | (refine gl 38 (some 7) Tryz.func38 #[.pointer (some ⟨g, 0, none⟩)] ?_; (with_reducible refine (bN.calls g s0_0 s0_1 mJ wV wW w0 _ zI zE A2.out).mono ?_); rintro e w4 ⟨rfl, hi, hb, hk⟩; refine ⟨_, rfl, ?_⟩; replace HK := ab (KeepBut.trans (w := w) zK hk (.inl rfl)); replace HB := ab (hb); replace HI0 := ab (hi); clear hb hk hi))
 (try simp only [Act.put, ap, aq, ar])
 go_cut [8] (fun v8 wc => ∃ (kq : Nat) (Cf : Bool), v8 = .bool Cf ∧ Aside0 (aG.j0 kq mJ Cf wV wW = some (r1, r2, r3)) ∧ Aside0 (kq ≤ k) ∧ Aside0 (IsS50 w0 wc g wV wW) ∧ Aside0 (KeepBut w wc g none) ∧ Aside0 (Below w0.heap.size w0 wc))
 case first =>
  have H := oJ.out
  clear oJ
  revert H; refine sIe1n0_e0n1 (fun iJ sT H => ?_) fun iJ sT H => ?_
  ·(first | rw [iJ] | (simp only [i64_w, i32_w]; rw [iJ]) | skip)
   as_aux_lemma =>
    have H' := ab H
    clear H
    go_wp2
    go_meet
    case rel => exact ⟨_, ((mJ == 34)), Z7, H', ⟨Z27⟩, ⟨zI⟩, ⟨zK⟩, ⟨zE⟩⟩
  (first | rw [iJ] | (simp only [i64_w, i32_w]; rw [iJ]) | skip)
  revert H; refine sIe1n0_e0n1 (fun eV oU H => ?_) fun eV oU H => ?_
  ·as_aux_lemma =>
    have H' := ab H
    clear H
    go_wp2
    go_meet
    case rel => exact ⟨_, ((mJ == 92)), Z7, H', ⟨Z27⟩, ⟨zI⟩, ⟨zK⟩, ⟨zE⟩⟩
  revert H; refine sIe1n0_e0n1 (fun iZ nF H => ?_) fun iZ nF H => ?_
  ·as_aux_lemma =>
    have H' := ab H
    clear H
    go_wp2
    go_meet
    case rel => exact ⟨_, ((mJ == 47)), Z7, H', ⟨Z27⟩, ⟨zI⟩, ⟨zK⟩, ⟨zE⟩⟩
  revert H; refine sIe1n0_e0n1 (fun hY kZ H => ?_) fun hY kZ H => ?_
  ·as_aux_lemma =>
    have H' := ab H
    clear H
    go_wp2
    go_meet
    case rel => exact ⟨_, ((mJ == 98)), Z7, H', ⟨Z27⟩, ⟨zI⟩, ⟨zK⟩, ⟨zE⟩⟩
  revert H; refine sIe1n0_e0n1 (fun lB wG H => ?_) fun lB wG H => ?_
  ·as_aux_lemma =>
    have H' := ab H
    clear H
    go_wp2
    go_meet
    case rel => exact ⟨_, ((mJ == 102)), Z7, H', ⟨Z27⟩, ⟨zI⟩, ⟨zK⟩, ⟨zE⟩⟩
  revert H; refine sIe1n0_e0n1 (fun kS lO H => ?_) fun kS lO H => ?_
  ·as_aux_lemma =>
    have H' := ab H
    clear H
    go_wp2
    go_meet
    case rel => exact ⟨_, ((mJ == 110)), Z7, H', ⟨Z27⟩, ⟨zI⟩, ⟨zK⟩, ⟨zE⟩⟩
  revert H; refine sIe1n0_e0n1 (fun kT oP H => ?_) fun kT oP H => ?_
  ·as_aux_lemma =>
    have H' := ab H
    clear H
    go_wp2
    go_meet
    case rel => exact ⟨_, ((mJ == 114)), Z7, H', ⟨Z27⟩, ⟨zI⟩, ⟨zK⟩, ⟨zE⟩⟩
  as_aux_lemma =>
   have H' := ab H
   clear H
   go_wp2
   go_meet
   case rel => exact ⟨_, ((mJ == 116)), Z7, H', ⟨Z27⟩, ⟨zI⟩, ⟨zK⟩, ⟨zE⟩⟩
 case rest =>
  clear oJ
  obtain ⟨kq, Cf, rfl, HA, HJ2, HI0, HK, HB⟩ := hcut
  cases kq with
  | zero => exact absurd HA.out (by simp [aG.j0])
  | succ kj2 =>
   have H := HA.out
   clear HA
   simp only [aG.j0] at H
   replace H := sB H
   obtain ⟨rfl, H⟩ | ⟨rfl, H⟩ := H
   ·as_aux_lemma =>
     simp only [am, an] at H
     obtain ⟨rfl, rfl, rfl⟩ := H
     obtain ⟨mX, mY, mZ, nA⟩ := cx_cellS50 HI0.out
     go_wp2
     go_ret
     exact ⟨Z9, zI, zE, zK⟩
   revert H; refine sIe1n0_e0n1 (fun fK jH H => ?_) fun fK jH H => ?_
   ·have H' := ab H
    clear H
    obtain ⟨nT, nU, nV, nW⟩ := cx_cellS50 HI0.out
    go_wp2
    (try simp only [Act.put, ap, aq, ar])
    go_loopg [3] kj2 (fun kq v3 w' => ∃ (wX : Int) (fF : av) (fG : Int), v3 = .int .i64 wX ∧ Aside0 (aG.l0 kq wX fF fG = some (r1, r2, r3)) ∧ Aside0 (kq ≤ kj2) ∧ Aside0 (IsS50 w0 w' g fF fG) ∧ Aside0 (KeepBut w w' g none) ∧ Aside0 (Below w0.heap.size w0 w'))
    case atStart => exact ⟨(0), (wV), (wrap64 (wW + 1)), Z7, H', ⟨Nat.le_refl _⟩, ⟨zI⟩, ⟨zK⟩, ⟨zE⟩⟩
    case round =>
     clear H'
     try clear fK jH nT nU nV nW
     obtain ⟨wX, fF, fG, rfl, HA, HK2, HI0, HK, HB⟩ := hrel
     cases gk with
     | zero => exact absurd HA.out (by simp [aG.l0])
     | succ k2 =>
      have H := HA.out
      clear HA
      simp only [aG.l0] at H
      revert H; refine sId1_d0 (fun gY H => ?_) fun gY H => ?_
      ·revert H; refine bnd ?_; rintro ⟨sU, Cg, Ch⟩ A17 H; try dsimp only at H
       revert H; refine bnd ?_; rintro ⟨Gw, alG⟩ Gi H; try dsimp only at H
       replace H := sB H
       obtain ⟨rfl, H⟩ | ⟨rfl, H⟩ := H
       ·as_aux_lemma =>
         have H' := ab H
         clear H
         go_wp2_with (first | (refine gl 38 (some 39) Tryz.func38 #[.pointer (some ⟨g, 0, none⟩)] ?_; (with_reducible refine (bN.calls g fF fG sU Cg Ch w0 _ zI zE A17.out).mono ?_); rintro e w20 ⟨rfl, hi, hb, hk⟩; refine ⟨_, rfl, ?_⟩; replace HK := ab (KeepBut.trans (w := w) zK hk (.inl rfl)); replace HB := ab (hb); replace HI0 := ab (hi); clear hb hk hi) | (refine gl 55 (some 40) Tryz.func55 #[.int .u8 sU] ?_; (with_reducible refine (aY.calls k2 sU Gw true _ Gi.out).mono ?_); rintro e w' ⟨rfl, ⟨nd, rfl⟩⟩; refine ⟨_, rfl, ?_⟩; (try (rw [drewN_self w20]; generalize hq_ : World.drewN w20 _ = w20; replace HK : Aside0 (KeepBut w w20 g none) := ⟨by rw [← hq_]; exact zK⟩; replace HB : Aside0 (Below w0.heap.size w0 w20) := ⟨by rw [← hq_]; exact zE⟩; replace HI0 := dqI hq_ HI0; clear hq_)); obtain ⟨wY, wZ, xA, xB⟩ := cx_cellS50 HI0.out))
         go_roundg k2
         case measure => have := HJ2.out; have := HK2.out; omega
         case rel => exact ⟨(wrap64 (wX + 1)), (Cg), (wrap64 (Ch + 1)), Z7, H', ⟨by have := HJ2.out; have := HK2.out; omega⟩, ⟨zI⟩, ⟨zK⟩, ⟨zE⟩⟩
       as_aux_lemma =>
        simp only [am, an] at H
        obtain ⟨rfl, rfl, rfl⟩ := H
        go_wp2_with (first | (refine gl 38 (some 39) Tryz.func38 #[.pointer (some ⟨g, 0, none⟩)] ?_; (with_reducible refine (bN.calls g fF fG sU Cg Ch w0 _ zI zE A17.out).mono ?_); rintro e w22 ⟨rfl, hi, hb, hk⟩; refine ⟨_, rfl, ?_⟩; replace HK := ab (KeepBut.trans (w := w) zK hk (.inl rfl)); replace HB := ab (hb); replace HI0 := ab (hi); clear hb hk hi) | (refine gl 55 (some 40) Tryz.func55 #[.int .u8 sU] ?_; (with_reducible refine (aY.calls k2 sU Gw false _ Gi.out).mono ?_); rintro e w' ⟨rfl, ⟨nd, rfl⟩⟩; refine ⟨_, rfl, ?_⟩))
        go_ret
        exact ⟨Z9, zI, zE, zK⟩
      as_aux_lemma =>
       simp only [am, an] at H
       obtain ⟨rfl, rfl, rfl⟩ := H
       go_wp2
       go_ret
       exact ⟨Z9, zI, zE, zK⟩
   as_aux_lemma =>
    simp only [am, an] at H
    obtain ⟨rfl, rfl, rfl⟩ := H
    go_wp2
    go_ret
    exact ⟨Z9, zI, zE, zK⟩
def aX.l0 : Nat → av → Int → Option (Bool × av × Int)
 | 0, _, _ => none
 | k + 1, cO, cI => if cI < (cO.size : Int) then (if 0 ≤ cI then (if (bt cO cI) = 34 then (some (true, cO, wrap64 (cI + 1))) else (if (bt cO cI) < 32 then (some (false, cO, wrap64 (cI + 1))) else (if (bt cO cI) = 92 then ((aG.f k cO (wrap64 (cI + 1))).bind fun bt124 => (if bt124.1 = true then (aX.l0 k bt124.2.1 bt124.2.2) else (some (false, bt124.2.1, bt124.2.2)))) else (aX.l0 k cO (wrap64 (cI + 1)))))) else (none)) else (some (false, cO, cI))
def aX.f (k : Nat) (s0_0 : av) (s0_1 : Int) : Option (Bool × av × Int) := aX.l0 k s0_0 (wrap64 (s0_1 + 1))
theorem aX.mono_l : ∀ k, (∀ y0 y1, LeO (aX.l0 k y0 y1) (aX.l0 (k + 1) y0 y1))
 | 0 => fun _ _ r h => by simp [aX.l0] at h
 | k + 1 => by
  have ih0 := aX.mono_l k
  ·intro y0 y1
   unfold aX.l0
   exact zM
theorem aX.mono : ∀ a0 a1 k, LeO (aX.f k a0 a1) (aX.f (k + 1) a0 a1) := by
 intro a0 a1 k
 have ih0 := aX.mono_l k
 unfold aX.f
 exact zM
instance aX.mi  {a0 a1 k} : LeI (aX.f k a0 a1) (aX.f (k + 1) a0 a1) := ⟨⟨aX.mono a0 a1 k⟩⟩
theorem aX.calls (k : Nat) (g : Nat) (s0_0 : av) (s0_1 : Int) (r1 : Bool) (r2 : av) (r3 : Int) (w0 w : World) (hI : IsS50 w0 w g s0_0 s0_1) (hB : Below w0.heap.size w0 w) (h : aX.f k s0_0 s0_1 = some (r1, r2, r3)) :
 Calls Tryz.prog 41 #[.pointer (some ⟨g, 0, none⟩)] w fun e w' => e = .returned (.bool r1) ∧ IsS50 w0 w' g r2 r3 ∧ Below w0.heap.size w0 w' ∧ KeepBut w w' g none := by
 have HI0 := ab hI
 have HK := ab (KeepBut.refl w g none)
 have HL := ab hB.size
 clear hI
 have HW0 := ab hB.size
 have HB := ab hB
 clear hB
 have H : (aX.l0 k s0_0 (wrap64 (s0_1 + 1))) = some (r1, r2, r3) := h
 clear h
 have H' := ab H
 clear H
 obtain ⟨Ci, Cj, Ck, Cl⟩ := cx_cellS50 HI0.out
 go_enter Tryz.func41, Tryz.ntmps41
 go_wp2
 repeat (go_quiet (fail); try go_wp2)
 (try simp only [Act.put, ap, aq, ar])
 go_loopg [] k (fun kq w' => ∃ (bU : av) (bK : Int), Aside0 (aX.l0 kq bU bK = some (r1, r2, r3)) ∧ Aside0 (kq ≤ k) ∧ Aside0 (IsS50 w0 w' g bU bK) ∧ Aside0 (KeepBut w w' g none) ∧ Aside0 (Below w0.heap.size w0 w'))
 case atStart => exact ⟨(s0_0), (wrap64 (s0_1 + 1)), H', ⟨Nat.le_refl _⟩, ⟨zI⟩, ⟨zK⟩, ⟨zE⟩⟩
 case round =>
  clear H'
  try clear Ci Cj Ck Cl
  obtain ⟨bU, bK, HA, HK1, HI0, HK, HB⟩ := hrel
  cases gk with
  | zero => exact absurd HA.out (by simp [aX.l0])
  | succ k1 =>
   have H := HA.out
   clear HA
   simp only [aX.l0] at H
   revert H; refine sId1_d0 (fun dX H => ?_) fun dX H => ?_
   ·revert H; refine sNd1 fun gT H => ?_
    revert H; refine sIe1n0_e0n1 (fun eV oU H => ?_) fun eV oU H => ?_
    ·as_aux_lemma =>
      simp only [am, an] at H
      obtain ⟨rfl, rfl, rfl⟩ := H
      obtain ⟨nL, nM, nN, nO⟩ := cx_cellS50 HI0.out
      have p5 := ag (ac Z6 : 0 ≤ (bK : Int))
      have q5 := ag (ac Z6 : bK < (bU.size : Int))
      have hx5 := bt_at bU bK
      go_wp2
      repeat (go_quiet (fail); try go_wp2)
      go_ret
      exact ⟨Z9, zI, zE, zK⟩
    revert H; refine sId1_d0 (fun hY H => ?_) fun hY H => ?_
    ·as_aux_lemma =>
      simp only [am, an] at H
      obtain ⟨rfl, rfl, rfl⟩ := H
      obtain ⟨nP, nQ, nR, nS⟩ := cx_cellS50 HI0.out
      have p5 := ag (ac Z6 : 0 ≤ (bK : Int))
      have q5 := ag (ac Z6 : bK < (bU.size : Int))
      have hx5 := bt_at bU bK
      go_wp2
      repeat (go_quiet (fail); try go_wp2)
      go_ret
      exact ⟨Z9, zI, zE, zK⟩
    revert H; refine sIe1n0_e0n1 (fun kS lO H => ?_) fun kS lO H => ?_
    ·revert H; refine bnd ?_; rintro ⟨alH, pO, pP⟩ xC H; try dsimp only at H
     replace H := sB H
     obtain ⟨rfl, H⟩ | ⟨rfl, H⟩ := H
     ·as_aux_lemma =>
       have H' := ab H
       clear H
       obtain ⟨mX, mY, mZ, nA⟩ := cx_cellS50 HI0.out
       have p5 := ag (ac Z6 : 0 ≤ (bK : Int))
       have q5 := ag (ac Z6 : bK < (bU.size : Int))
       have hx5 := bt_at bU bK
       go_wp2_with (first | (go_at_call 57; (with_reducible refine (aG.calls k1 g bU (wrap64 (bK + 1)) true pO pP w0 _ zI zE xC.out).mono ?_); rintro e w14 ⟨rfl, hi, hb, hk⟩; replace HK := ab (KeepBut.trans (w := w) zK hk (.inl rfl)); replace HB := ab (hb); replace HI0 := ab (hi); clear hb hk hi))
       repeat (go_quiet (first | (go_at_call 57; (with_reducible refine (aG.calls k1 g bU (wrap64 (bK + 1)) true pO pP w0 _ zI zE xC.out).mono ?_); rintro e w14 ⟨rfl, hi, hb, hk⟩; replace HK := ab (KeepBut.trans (w := w) zK hk (.inl rfl)); replace HB := ab (hb); replace HI0 := ab (hi); clear hb hk hi)); try go_wp2_with (first | (go_at_call 57; (with_reducible refine (aG.calls k1 g bU (wrap64 (bK + 1)) true pO pP w0 _ zI zE xC.out).mono ?_); rintro e w14 ⟨rfl, hi, hb, hk⟩; replace HK := ab (KeepBut.trans (w := w) zK hk (.inl rfl)); replace HB := ab (hb); replace HI0 := ab (hi); clear hb hk hi)))
       go_roundg k1
       case measure => have := HK1.out; omega
       case rel => exact ⟨(pO), (pP), H', ⟨by have := HK1.out; omega⟩, ⟨zI⟩, ⟨zK⟩, ⟨zE⟩⟩
     as_aux_lemma =>
      simp only [am, an] at H
      obtain ⟨rfl, rfl, rfl⟩ := H
      obtain ⟨nT, nU, nV, nW⟩ := cx_cellS50 HI0.out
      have p5 := ag (ac Z6 : 0 ≤ (bK : Int))
      have q5 := ag (ac Z6 : bK < (bU.size : Int))
      have hx5 := bt_at bU bK
      go_wp2_with (first | (go_at_call 57; (with_reducible refine (aG.calls k1 g bU (wrap64 (bK + 1)) false pO pP w0 _ zI zE xC.out).mono ?_); rintro e w16 ⟨rfl, hi, hb, hk⟩; replace HK := ab (KeepBut.trans (w := w) zK hk (.inl rfl)); replace HB := ab (hb); replace HI0 := ab (hi); clear hb hk hi))
      repeat (go_quiet (first | (go_at_call 57; (with_reducible refine (aG.calls k1 g bU (wrap64 (bK + 1)) false pO pP w0 _ zI zE xC.out).mono ?_); rintro e w16 ⟨rfl, hi, hb, hk⟩; replace HK := ab (KeepBut.trans (w := w) zK hk (.inl rfl)); replace HB := ab (hb); replace HI0 := ab (hi); clear hb hk hi)); try go_wp2_with (first | (go_at_call 57; (with_reducible refine (aG.calls k1 g bU (wrap64 (bK + 1)) false pO pP w0 _ zI zE xC.out).mono ?_); rintro e w16 ⟨rfl, hi, hb, hk⟩; replace HK := ab (KeepBut.trans (w := w) zK hk (.inl rfl)); replace HB := ab (hb); replace HI0 := ab (hi); clear hb hk hi)))
      go_ret
      exact ⟨Z9, zI, zE, zK⟩
    as_aux_lemma =>
     have H' := ab H
     clear H
     obtain ⟨xD, xE, xF, xG⟩ := cx_cellS50 HI0.out
     have p5 := ag (ac Z6 : 0 ≤ (bK : Int))
     have q5 := ag (ac Z6 : bK < (bU.size : Int))
     have hx5 := bt_at bU bK
     go_wp2
     repeat (go_quiet (fail); try go_wp2)
     go_roundg k1
     case measure => have := HK1.out; omega
     case rel => exact ⟨(bU), (wrap64 (bK + 1)), H', ⟨by have := HK1.out; omega⟩, ⟨zI⟩, ⟨zK⟩, ⟨zE⟩⟩
   as_aux_lemma =>
    simp only [am, an] at H
    obtain ⟨rfl, rfl, rfl⟩ := H
    obtain ⟨xH, xI, xJ, xK⟩ := cx_cellS50 HI0.out
    go_wp2
    repeat (go_quiet (fail); try go_wp2)
    go_ret
    exact ⟨Z9, zI, zE, zK⟩
end
section
set_option maxHeartbeats 8000000
set_option maxRecDepth 100000
open Go.RowKit Go.PW Go.PL Go.PM
attribute [local go_sem] max2_int min2_int max_two min_two max_three min_three max_four min_four
set_option linter.unusedVariables false
set_option linter.unusedSimpArgs false
def aW.f (s0_0 : av) (s0_1 : Int) (a1 : Int) : Option (Bool × av × Int) := if s0_1 < (s0_0.size : Int) then (if 0 ≤ s0_1 then (if (bt s0_0 s0_1) = a1 then (some (true, s0_0, wrap64 (s0_1 + 1))) else (some (false, s0_0, s0_1))) else (none)) else (some (false, s0_0, s0_1))
theorem aW.calls (g : Nat) (s0_0 : av) (s0_1 : Int) (a1 : Int) (r1 : Bool) (r2 : av) (r3 : Int) (w0 w : World) (hI : IsS50 w0 w g s0_0 s0_1) (hB : Below w0.heap.size w0 w) (h : aW.f s0_0 s0_1 a1 = some (r1, r2, r3)) :
 Calls Tryz.prog 56 #[.pointer (some ⟨g, 0, none⟩), .int .u8 a1] w fun e w' => e = .returned (.bool r1) ∧ IsS50 w0 w' g r2 r3 ∧ Below w0.heap.size w0 w' ∧ KeepBut w w' g none := by
 have HI0 := ab hI
 have HK := ab (KeepBut.refl w g none)
 have HL := ab hB.size
 clear hI
 have HW0 := ab hB.size
 have HB := ab hB
 clear hB
 unfold aW.f at h
 have H := h
 clear h
 revert H; refine sId1_d0 (fun dX H => ?_) fun dX H => ?_
 ·revert H; refine sNd1 fun gT H => ?_
  revert H; refine sIe1n0_e0n1 (fun eV oU H => ?_) fun eV oU H => ?_
  ·as_aux_lemma =>
    simp only [am, an] at H
    obtain ⟨rfl, rfl, rfl⟩ := H
    obtain ⟨nL, nM, nN, nO⟩ := cx_cellS50 HI0.out
    have p5 := ag (ac Z6 : 0 ≤ (s0_1 : Int))
    have q5 := ag (ac Z6 : s0_1 < (s0_0.size : Int))
    have hx5 := bt_at s0_0 s0_1
    go_enter Tryz.func56, Tryz.ntmps56
    go_wp2
    repeat (go_quiet (fail); try go_wp2)
    go_ret
    exact ⟨Z9, zI, zE, zK⟩
  as_aux_lemma =>
   simp only [am, an] at H
   obtain ⟨rfl, rfl, rfl⟩ := H
   obtain ⟨kK, kL, kM, kN⟩ := cx_cellS50 HI0.out
   have p5 := ag (ac Z6 : 0 ≤ (s0_1 : Int))
   have q5 := ag (ac Z6 : s0_1 < (s0_0.size : Int))
   have hx5 := bt_at s0_0 s0_1
   go_enter Tryz.func56, Tryz.ntmps56
   go_wp2
   repeat (go_quiet (fail); try go_wp2)
   go_ret
   exact ⟨Z9, zI, zE, zK⟩
 as_aux_lemma =>
  simp only [am, an] at H
  obtain ⟨rfl, rfl, rfl⟩ := H
  obtain ⟨nP, nQ, nR, nS⟩ := cx_cellS50 HI0.out
  go_enter Tryz.func56, Tryz.ntmps56
  go_wp2
  repeat (go_quiet (fail); try go_wp2)
  go_ret
  exact ⟨Z9, zI, zE, zK⟩
def aU.l0 : Nat → Int → Int → av → Int → Option (Bool × av × Int)
 | 0, _, _, _, _ => none
 | k + 1, x3, x4, cO, cI => if 48 ≤ x4 then (if x4 ≤ 57 then ((bN.f cO (wrap64 (cI + 1))).bind fun bt208 => (aU.l0 k x3 bt208.1 bt208.2.1 bt208.2.2)) else (some (decide (cI > x3), cO, cI))) else (some (decide (cI > x3), cO, cI))
def aU.f (k : Nat) (s0_0 : av) (s0_1 : Int) : Option (Bool × av × Int) := (bN.f s0_0 s0_1).bind fun bt205 => (aU.l0 k s0_1 bt205.1 bt205.2.1 bt205.2.2)
theorem aU.mono_l : ∀ k, (∀ y0 y1 y2 y3, LeO (aU.l0 k y0 y1 y2 y3) (aU.l0 (k + 1) y0 y1 y2 y3))
 | 0 => fun _ _ _ _ r h => by simp [aU.l0] at h
 | k + 1 => by
  have ih0 := aU.mono_l k
  ·intro y0 y1 y2 y3
   unfold aU.l0
   exact zM
theorem aU.mono : ∀ a0 a1 k, LeO (aU.f k a0 a1) (aU.f (k + 1) a0 a1) := by
 intro a0 a1 k
 have ih0 := aU.mono_l k
 unfold aU.f
 exact zM
instance aU.mi  {a0 a1 k} : LeI (aU.f k a0 a1) (aU.f (k + 1) a0 a1) := ⟨⟨aU.mono a0 a1 k⟩⟩
theorem aU.calls (k : Nat) (g : Nat) (s0_0 : av) (s0_1 : Int) (r1 : Bool) (r2 : av) (r3 : Int) (w0 w : World) (hI : IsS50 w0 w g s0_0 s0_1) (hB : Below w0.heap.size w0 w) (h : aU.f k s0_0 s0_1 = some (r1, r2, r3)) :
 Calls Tryz.prog 58 #[.pointer (some ⟨g, 0, none⟩)] w fun e w' => e = .returned (.bool r1) ∧ IsS50 w0 w' g r2 r3 ∧ Below w0.heap.size w0 w' ∧ KeepBut w w' g none := by
 have HI0 := ab hI
 have HK := ab (KeepBut.refl w g none)
 have HL := ab hB.size
 clear hI
 have HW0 := ab hB.size
 have HB := ab hB
 clear hB
 unfold aU.f at h
 have H := h
 clear h
 revert H; refine bnd ?_; rintro ⟨Gx, Gy, Gz⟩ A2 H; try dsimp only at H
 have H' := ab H
 clear H
 obtain ⟨Cm, Cn, Co, Cp⟩ := cx_cellS50 HI0.out
 go_enter Tryz.func58, Tryz.ntmps58
 go_wp2_with (first | (refine gl 38 (some 10) Tryz.func38 #[.pointer (some ⟨g, 0, none⟩)] ?_; (with_reducible refine (bN.calls g s0_0 s0_1 Gx Gy Gz w0 _ zI zE A2.out).mono ?_); rintro e w4 ⟨rfl, hi, hb, hk⟩; refine ⟨_, rfl, ?_⟩; replace HK := ab (KeepBut.trans (w := w) zK hk (.inl rfl)); replace HB := ab (hb); replace HI0 := ab (hi); clear hb hk hi))
 (try simp only [Act.put, ap, aq, ar])
 go_loopg [4] k (fun kq v4 w' => ∃ (cU : Int) (bU : av) (bK : Int), v4 = .int .u8 cU ∧ Aside0 (aU.l0 kq s0_1 cU bU bK = some (r1, r2, r3)) ∧ Aside0 (kq ≤ k) ∧ Aside0 (IsS50 w0 w' g bU bK) ∧ Aside0 (KeepBut w w' g none) ∧ Aside0 (Below w0.heap.size w0 w'))
 case atStart => exact ⟨(Gx), (Gy), (Gz), Z7, H', ⟨Nat.le_refl _⟩, ⟨zI⟩, ⟨zK⟩, ⟨zE⟩⟩
 case round =>
  clear H'
  try clear Cm Cn Co Cp
  obtain ⟨cU, bU, bK, rfl, HA, HK1, HI0, HK, HB⟩ := hrel
  cases gk with
  | zero => exact absurd HA.out (by simp [aU.l0])
  | succ k1 =>
   have H := HA.out
   clear HA
   simp only [aU.l0] at H
   revert H; refine sId1_d0 (fun iJ H => ?_) fun iJ H => ?_
   ·revert H; refine sId1_d0 (fun eV H => ?_) fun eV H => ?_
    ·revert H; refine bnd ?_; rintro ⟨Ha, Hb, tI⟩ A7 H; try dsimp only at H
     as_aux_lemma =>
      have H' := ab H
      clear H
      obtain ⟨kK, kL, kM, kN⟩ := cx_cellS50 HI0.out
      go_wp2_with (first | (refine gl 38 (some 18) Tryz.func38 #[.pointer (some ⟨g, 0, none⟩)] ?_; (with_reducible refine (bN.calls g bU (wrap64 (bK + 1)) Ha Hb tI w0 _ zI zE A7.out).mono ?_); rintro e w9 ⟨rfl, hi, hb, hk⟩; refine ⟨_, rfl, ?_⟩; replace HK := ab (KeepBut.trans (w := w) zK hk (.inl rfl)); replace HB := ab (hb); replace HI0 := ab (hi); clear hb hk hi))
      go_roundg k1
      case measure => have := HK1.out; omega
      case rel => exact ⟨(Ha), (Hb), (tI), Z7, H', ⟨by have := HK1.out; omega⟩, ⟨zI⟩, ⟨zK⟩, ⟨zE⟩⟩
    as_aux_lemma =>
     simp only [am, an] at H
     obtain ⟨rfl, rfl, rfl⟩ := H
     obtain ⟨lE, lF, lG, lH⟩ := cx_cellS50 HI0.out
     go_wp2
     go_ret
     exact ⟨Z9, zI, zE, zK⟩
   as_aux_lemma =>
    simp only [am, an] at H
    obtain ⟨rfl, rfl, rfl⟩ := H
    obtain ⟨rK, rL, rM, rN⟩ := cx_cellS50 HI0.out
    go_wp2
    go_ret
    exact ⟨Z9, zI, zE, zK⟩
mutual
def aC.j0 : Nat → Bool → av → Int → Option (Bool × av × Int)
 | 0, _, _, _ => none
 | k + 1, x12, cO, cI => if x12 = true then (some (false, cO, cI)) else ((aW.f cO cI 46).bind fun bt220 => (if bt220.1 = true then ((aU.f k bt220.2.1 bt220.2.2).bind fun bt223 => (aC.j1 k (!bt223.1) bt223.2.1 bt223.2.2)) else (aC.j1 k false bt220.2.1 bt220.2.2)))
def aC.j1 : Nat → Bool → av → Int → Option (Bool × av × Int)
 | 0, _, _, _ => none
 | k + 1, x19, cO, cI => if x19 = true then (some (false, cO, cI)) else ((aW.f cO cI 101).bind fun bt226 => (if bt226.1 = true then (aC.j2 k true bt226.2.1 bt226.2.2) else ((aW.f bt226.2.1 bt226.2.2 69).bind fun bt229 => (aC.j2 k bt229.1 bt229.2.1 bt229.2.2))))
def aC.j2 : Nat → Bool → av → Int → Option (Bool × av × Int)
 | 0, _, _, _ => none
 | k + 1, x25, cO, cI => if x25 = true then ((aW.f cO cI 43).bind fun bt232 => (if bt232.1 = true then ((aU.f k bt232.2.1 bt232.2.2).bind fun bt235 => (some (bt235.1, bt235.2.1, bt235.2.2))) else ((aW.f bt232.2.1 bt232.2.2 45).bind fun bt238 => ((aU.f k bt238.2.1 bt238.2.2).bind fun bt241 => (some (bt241.1, bt241.2.1, bt241.2.2)))))) else (some (true, cO, cI))
end
def aC.f (k : Nat) (s0_0 : av) (s0_1 : Int) : Option (Bool × av × Int) := (aW.f s0_0 s0_1 45).bind fun bt211 => ((aW.f bt211.2.1 bt211.2.2 48).bind fun bt214 => (if bt214.1 = true then (aC.j0 k false bt214.2.1 bt214.2.2) else ((aU.f k bt214.2.1 bt214.2.2).bind fun bt217 => (aC.j0 k (!bt217.1) bt217.2.1 bt217.2.2))))
theorem aC.mono_l : ∀ k, (∀ y0 y1 y2, LeO (aC.j0 k y0 y1 y2) (aC.j0 (k + 1) y0 y1 y2)) ∧ (∀ y0 y1 y2, LeO (aC.j1 k y0 y1 y2) (aC.j1 (k + 1) y0 y1 y2)) ∧ (∀ y0 y1 y2, LeO (aC.j2 k y0 y1 y2) (aC.j2 (k + 1) y0 y1 y2))
 | 0 => ⟨fun _ _ _ r h => by simp [aC.j0] at h, fun _ _ _ r h => by simp [aC.j1] at h, fun _ _ _ r h => by simp [aC.j2] at h⟩
 | k + 1 => by
  obtain ⟨ih0, ih1, ih2⟩ := aC.mono_l k
  refine ⟨?_, ?_, ?_⟩
  ·intro y0 y1 y2
   unfold aC.j0
   exact zM
  ·intro y0 y1 y2
   unfold aC.j1
   exact zM
  ·intro y0 y1 y2
   unfold aC.j2
   exact zM
theorem aC.mono : ∀ a0 a1 k, LeO (aC.f k a0 a1) (aC.f (k + 1) a0 a1) := by
 intro a0 a1 k
 obtain ⟨ih0, ih1, ih2⟩ := aC.mono_l k
 unfold aC.f
 exact zM
instance aC.mi  {a0 a1 k} : LeI (aC.f k a0 a1) (aC.f (k + 1) a0 a1) := ⟨⟨aC.mono a0 a1 k⟩⟩
theorem aC.calls (k : Nat) (g : Nat) (s0_0 : av) (s0_1 : Int) (r1 : Bool) (r2 : av) (r3 : Int) (w0 w : World) (hI : IsS50 w0 w g s0_0 s0_1) (hB : Below w0.heap.size w0 w) (h : aC.f k s0_0 s0_1 = some (r1, r2, r3)) :
 Calls Tryz.prog 42 #[.pointer (some ⟨g, 0, none⟩)] w fun e w' => e = .returned (.bool r1) ∧ IsS50 w0 w' g r2 r3 ∧ Below w0.heap.size w0 w' ∧ KeepBut w w' g none := by
 have HI0 := ab hI
 have HK := ab (KeepBut.refl w g none)
 have HL := ab hB.size
 clear hI
 have HW0 := ab hB.size
 have HB := ab hB
 clear hB
 unfold aC.f at h
 have H := h
 clear h
 revert H; refine bnd ?_; rintro ⟨aaD, vT, vU⟩ A2 H; try dsimp only at H
 have oJ := ab H
 clear H
 go_enter Tryz.func42, Tryz.ntmps42
 go_upto_region 2 with (first | (refine gl 56 (some 4) Tryz.func56 #[.pointer (some ⟨g, 0, none⟩), .int .u8 45] ?_; (with_reducible refine (aW.calls g s0_0 s0_1 45 aaD vT vU w0 _ zI zE A2.out).mono ?_); rintro e w4 ⟨rfl, hi, hb, hk⟩; refine ⟨_, rfl, ?_⟩; replace HK := ab (KeepBut.trans (w := w) zK hk (.inl rfl)); replace HB := ab (hb); replace HI0 := ab (hi); clear hb hk hi))
 (try simp only [Act.put, ap, aq, ar])
 go_cut [12] (fun v12 wc => ∃ (kq : Nat) (uK : Bool) (fF : av) (fG : Int), v12 = .bool uK ∧ Aside0 (aC.j0 kq uK fF fG = some (r1, r2, r3)) ∧ Aside0 (kq ≤ k) ∧ Aside0 (IsS50 w0 wc g fF fG) ∧ Aside0 (KeepBut w wc g none) ∧ Aside0 (Below w0.heap.size w0 wc))
 case first =>
  have H := oJ.out
  clear oJ
  revert H; refine bnd ?_; rintro ⟨alI, xL, xM⟩ A5 H; try dsimp only at H
  replace H := sB H
  obtain ⟨rfl, H⟩ | ⟨rfl, H⟩ := H
  ·as_aux_lemma =>
    have H' := ab H
    clear H
    go_wp2_with (first | (refine gl 56 (some 6) Tryz.func56 #[.pointer (some ⟨g, 0, none⟩), .int .u8 48] ?_; (with_reducible refine (aW.calls g vT vU 48 true xL xM w0 _ zI zE A5.out).mono ?_); rintro e w7 ⟨rfl, hi, hb, hk⟩; refine ⟨_, rfl, ?_⟩; replace HK := ab (KeepBut.trans (w := w) zK hk (.inl rfl)); replace HB := ab (hb); replace HI0 := ab (hi); clear hb hk hi))
    go_meet
    case rel => exact ⟨_, (false), (xL), (xM), Z7, H', ⟨Z27⟩, ⟨zI⟩, ⟨zK⟩, ⟨zE⟩⟩
  revert H; refine bnd ?_; rintro ⟨Hc, Hd, He⟩ A8 H; try dsimp only at H
  as_aux_lemma =>
   have H' := ab H
   clear H
   go_wp2_with (first | (refine gl 56 (some 6) Tryz.func56 #[.pointer (some ⟨g, 0, none⟩), .int .u8 48] ?_; (with_reducible refine (aW.calls g vT vU 48 false xL xM w0 _ zI zE A5.out).mono ?_); rintro e w9 ⟨rfl, hi, hb, hk⟩; refine ⟨_, rfl, ?_⟩; replace HK := ab (KeepBut.trans (w := w) zK hk (.inl rfl)); replace HB := ab (hb); replace HI0 := ab (hi); clear hb hk hi) | (go_at_call 58; (with_reducible refine (aU.calls k g xL xM Hc Hd He w0 _ zI zE A8.out).mono ?_); rintro e w10 ⟨rfl, hi, hb, hk⟩; replace HK := ab (KeepBut.trans (w := w) zK hk (.inl rfl)); replace HB := ab (hb); replace HI0 := ab (hi); clear hb hk hi))
   go_meet
   case rel => exact ⟨_, (!Hc), (Hd), (He), Z7, H', ⟨Z27⟩, ⟨zI⟩, ⟨zK⟩, ⟨zE⟩⟩
 case rest =>
  clear oJ
  obtain ⟨kq, uK, fF, fG, rfl, HA, HJ2, HI0, HK, HB⟩ := hcut
  cases kq with
  | zero => exact absurd HA.out (by simp [aC.j0])
  | succ kj2 =>
   have H := HA.out
   clear HA
   simp only [aC.j0] at H
   replace H := sB H
   obtain ⟨rfl, H⟩ | ⟨rfl, H⟩ := H
   ·as_aux_lemma =>
     simp only [am, an] at H
     obtain ⟨rfl, rfl, rfl⟩ := H
     go_wp2
     go_ret
     exact ⟨Z9, zI, zE, zK⟩
   have pQ := ab H
   clear H
   go_upto_region 4 with (fail)
   go_cut [19] (fun v19 wc => ∃ (kq : Nat) (pR : Bool) (iO : av) (iP : Int), v19 = .bool pR ∧ Aside0 (aC.j1 kq pR iO iP = some (r1, r2, r3)) ∧ Aside0 (kq ≤ kj2) ∧ Aside0 (IsS50 w0 wc g iO iP) ∧ Aside0 (KeepBut w wc g none) ∧ Aside0 (Below w0.heap.size w0 wc))
   case first =>
    have H := pQ.out
    clear pQ
    revert H; refine bnd ?_; rintro ⟨alJ, xN, xO⟩ vH H; try dsimp only at H
    replace H := sB H
    obtain ⟨rfl, H⟩ | ⟨rfl, H⟩ := H
    ·revert H; refine bnd ?_; rintro ⟨Hf, Hg, Hh⟩ Ba H; try dsimp only at H
     as_aux_lemma =>
      have H' := ab H
      clear H
      go_wp2_with (first | (refine gl 56 (some 14) Tryz.func56 #[.pointer (some ⟨g, 0, none⟩), .int .u8 46] ?_; (with_reducible refine (aW.calls g fF fG 46 true xN xO w0 _ zI zE vH.out).mono ?_); rintro e w16 ⟨rfl, hi, hb, hk⟩; refine ⟨_, rfl, ?_⟩; replace HK := ab (KeepBut.trans (w := w) zK hk (.inl rfl)); replace HB := ab (hb); replace HI0 := ab (hi); clear hb hk hi) | (go_at_call 58; (with_reducible refine (aU.calls kj2 g xN xO Hf Hg Hh w0 _ zI zE Ba.out).mono ?_); rintro e w17 ⟨rfl, hi, hb, hk⟩; replace HK := ab (KeepBut.trans (w := w) zK hk (.inl rfl)); replace HB := ab (hb); replace HI0 := ab (hi); clear hb hk hi))
      go_meet
      case rel => exact ⟨_, (!Hf), (Hg), (Hh), Z7, H', ⟨by have := HJ2.out; first | omega | exact Nat.le_refl _⟩, ⟨zI⟩, ⟨zK⟩, ⟨zE⟩⟩
    as_aux_lemma =>
     have H' := ab H
     clear H
     go_wp2_with (first | (refine gl 56 (some 14) Tryz.func56 #[.pointer (some ⟨g, 0, none⟩), .int .u8 46] ?_; (with_reducible refine (aW.calls g fF fG 46 false xN xO w0 _ zI zE vH.out).mono ?_); rintro e w18 ⟨rfl, hi, hb, hk⟩; refine ⟨_, rfl, ?_⟩; replace HK := ab (KeepBut.trans (w := w) zK hk (.inl rfl)); replace HB := ab (hb); replace HI0 := ab (hi); clear hb hk hi))
     go_meet
     case rel => exact ⟨_, (false), (xN), (xO), Z7, H', ⟨by have := HJ2.out; first | omega | exact Nat.le_refl _⟩, ⟨zI⟩, ⟨zK⟩, ⟨zE⟩⟩
   case rest =>
    clear pQ
    obtain ⟨kq, pR, iO, iP, rfl, HA, HJ11, HI0, HK, HB⟩ := hcut
    cases kq with
    | zero => exact absurd HA.out (by simp [aC.j1])
    | succ kj11 =>
     have H := HA.out
     clear HA
     simp only [aC.j1] at H
     replace H := sB H
     obtain ⟨rfl, H⟩ | ⟨rfl, H⟩ := H
     ·as_aux_lemma =>
       simp only [am, an] at H
       obtain ⟨rfl, rfl, rfl⟩ := H
       go_wp2
       go_ret
       exact ⟨Z9, zI, zE, zK⟩
     have Cq := ab H
     clear H
     go_upto_region 6 with (fail)
     go_cut [25] (fun v25 wc => ∃ (kq : Nat) (pS : Bool) (iQ : av) (iR : Int), v25 = .bool pS ∧ Aside0 (aC.j2 kq pS iQ iR = some (r1, r2, r3)) ∧ Aside0 (kq ≤ kj11) ∧ Aside0 (IsS50 w0 wc g iQ iR) ∧ Aside0 (KeepBut w wc g none) ∧ Aside0 (Below w0.heap.size w0 wc))
     case first =>
      have H := Cq.out
      clear Cq
      revert H; refine bnd ?_; rintro ⟨alK, xP, xQ⟩ Ap H; try dsimp only at H
      replace H := sB H
      obtain ⟨rfl, H⟩ | ⟨rfl, H⟩ := H
      ·as_aux_lemma =>
        have H' := ab H
        clear H
        go_wp2_with (first | (refine gl 56 (some 21) Tryz.func56 #[.pointer (some ⟨g, 0, none⟩), .int .u8 101] ?_; (with_reducible refine (aW.calls g iO iP 101 true xP xQ w0 _ zI zE Ap.out).mono ?_); rintro e w23 ⟨rfl, hi, hb, hk⟩; refine ⟨_, rfl, ?_⟩; replace HK := ab (KeepBut.trans (w := w) zK hk (.inl rfl)); replace HB := ab (hb); replace HI0 := ab (hi); clear hb hk hi))
        go_meet
        case rel => exact ⟨_, (true), (xP), (xQ), Z7, H', ⟨by have := HJ2.out; have := HJ11.out; first | omega | exact Nat.le_refl _⟩, ⟨zI⟩, ⟨zK⟩, ⟨zE⟩⟩
      revert H; refine bnd ?_; rintro ⟨Hi, Hj, Hk⟩ A24 H; try dsimp only at H
      as_aux_lemma =>
       have H' := ab H
       clear H
       go_wp2_with (first | (refine gl 56 (some 21) Tryz.func56 #[.pointer (some ⟨g, 0, none⟩), .int .u8 101] ?_; (with_reducible refine (aW.calls g iO iP 101 false xP xQ w0 _ zI zE Ap.out).mono ?_); rintro e w25 ⟨rfl, hi, hb, hk⟩; refine ⟨_, rfl, ?_⟩; replace HK := ab (KeepBut.trans (w := w) zK hk (.inl rfl)); replace HB := ab (hb); replace HI0 := ab (hi); clear hb hk hi) | (go_at_call 56; (with_reducible refine (aW.calls g xP xQ 69 Hi Hj Hk w0 _ zI zE A24.out).mono ?_); rintro e w26 ⟨rfl, hi, hb, hk⟩; replace HK := ab (KeepBut.trans (w := w) zK hk (.inl rfl)); replace HB := ab (hb); replace HI0 := ab (hi); clear hb hk hi))
       go_meet
       case rel => exact ⟨_, (Hi), (Hj), (Hk), Z7, H', ⟨by have := HJ2.out; have := HJ11.out; first | omega | exact Nat.le_refl _⟩, ⟨zI⟩, ⟨zK⟩, ⟨zE⟩⟩
     case rest =>
      clear Cq
      obtain ⟨kq, pS, iQ, iR, rfl, HA, HJ19, HI0, HK, HB⟩ := hcut
      cases kq with
      | zero => exact absurd HA.out (by simp [aC.j2])
      | succ kj19 =>
       have H := HA.out
       clear HA
       simp only [aC.j2] at H
       replace H := sB H
       obtain ⟨rfl, H⟩ | ⟨rfl, H⟩ := H
       ·revert H; refine bnd ?_; rintro ⟨Yw, tJ, xR⟩ vG H; try dsimp only at H
        replace H := sB H
        obtain ⟨rfl, H⟩ | ⟨rfl, H⟩ := H
        ·revert H; refine bnd ?_; rintro ⟨aaF, aaG, aaH⟩ A30 H; try dsimp only at H
         as_aux_lemma =>
          simp only [am, an] at H
          obtain ⟨rfl, rfl, rfl⟩ := H
          go_wp2_with (first | (refine gl 56 (some 27) Tryz.func56 #[.pointer (some ⟨g, 0, none⟩), .int .u8 43] ?_; (with_reducible refine (aW.calls g iQ iR 43 true tJ xR w0 _ zI zE vG.out).mono ?_); rintro e w31 ⟨rfl, hi, hb, hk⟩; refine ⟨_, rfl, ?_⟩; replace HK := ab (KeepBut.trans (w := w) zK hk (.inl rfl)); replace HB := ab (hb); replace HI0 := ab (hi); clear hb hk hi) | (refine gl 58 (some 32) Tryz.func58 #[.pointer (some ⟨g, 0, none⟩)] ?_; (with_reducible refine (aU.calls kj19 g tJ xR aaF aaG aaH w0 _ zI zE A30.out).mono ?_); rintro e w32 ⟨rfl, hi, hb, hk⟩; refine ⟨_, rfl, ?_⟩; replace HK := ab (KeepBut.trans (w := w) zK hk (.inl rfl)); replace HB := ab (hb); replace HI0 := ab (hi); clear hb hk hi))
          go_ret
          exact ⟨Z9, zI, zE, zK⟩
        revert H; refine bnd ?_; rintro ⟨aaJ, Hl, Hm⟩ A33 H; try dsimp only at H
        revert H; refine bnd ?_; rintro ⟨aaK, aaL, aaM⟩ A34 H; try dsimp only at H
        as_aux_lemma =>
         simp only [am, an] at H
         obtain ⟨rfl, rfl, rfl⟩ := H
         go_wp2_with (first | (refine gl 56 (some 27) Tryz.func56 #[.pointer (some ⟨g, 0, none⟩), .int .u8 43] ?_; (with_reducible refine (aW.calls g iQ iR 43 false tJ xR w0 _ zI zE vG.out).mono ?_); rintro e w35 ⟨rfl, hi, hb, hk⟩; refine ⟨_, rfl, ?_⟩; replace HK := ab (KeepBut.trans (w := w) zK hk (.inl rfl)); replace HB := ab (hb); replace HI0 := ab (hi); clear hb hk hi) | (refine gl 56 (some 30) Tryz.func56 #[.pointer (some ⟨g, 0, none⟩), .int .u8 45] ?_; (with_reducible refine (aW.calls g tJ xR 45 aaJ Hl Hm w0 _ zI zE A33.out).mono ?_); rintro e w36 ⟨rfl, hi, hb, hk⟩; refine ⟨_, rfl, ?_⟩; replace HK := ab (KeepBut.trans (w := w) zK hk (.inl rfl)); replace HB := ab (hb); replace HI0 := ab (hi); clear hb hk hi) | (refine gl 58 (some 32) Tryz.func58 #[.pointer (some ⟨g, 0, none⟩)] ?_; (with_reducible refine (aU.calls kj19 g Hl Hm aaK aaL aaM w0 _ zI zE A34.out).mono ?_); rintro e w37 ⟨rfl, hi, hb, hk⟩; refine ⟨_, rfl, ?_⟩; replace HK := ab (KeepBut.trans (w := w) zK hk (.inl rfl)); replace HB := ab (hb); replace HI0 := ab (hi); clear hb hk hi))
         go_ret
         exact ⟨Z9, zI, zE, zK⟩
       as_aux_lemma =>
        simp only [am, an] at H
        obtain ⟨rfl, rfl, rfl⟩ := H
        go_wp2
        go_ret
        exact ⟨Z9, zI, zE, zK⟩
def bL.f (s0_0 : av) (s0_1 : Int) (a1 : av) : Option (Bool × av × Int) := if (wrap64 ((s0_0.size : Int) - s0_1)) < (a1.size : Int) then (some (false, s0_0, s0_1)) else (if 0 ≤ s0_1 then (if s0_1 ≤ (wrap64 (s0_1 + (a1.size : Int))) then (if (wrap64 (s0_1 + (a1.size : Int))) ≤ (s0_0.size : Int) then (if (s0_0.extract (s0_1 : Int).toNat ((wrap64 (s0_1 + (a1.size : Int))) : Int).toNat).toList = a1.toList then (some (true, s0_0, wrap64 (s0_1 + (a1.size : Int)))) else (some (false, s0_0, s0_1))) else (none)) else (none)) else (none))
theorem bL.calls (g : Nat) (s0_0 : av) (s0_1 : Int) (a1 : av) (r1 : Bool) (r2 : av) (r3 : Int) (w0 w : World) (hI : IsS50 w0 w g s0_0 s0_1) (hB : Below w0.heap.size w0 w) (h : bL.f s0_0 s0_1 a1 = some (r1, r2, r3)) :
 Calls Tryz.prog 43 #[.pointer (some ⟨g, 0, none⟩), .string a1] w fun e w' => e = .returned (.bool r1) ∧ IsS50 w0 w' g r2 r3 ∧ Below w0.heap.size w0 w' ∧ KeepBut w w' g none := by
 have HI0 := ab hI
 have HK := ab (KeepBut.refl w g none)
 have HL := ab hB.size
 clear hI
 have HW0 := ab hB.size
 have HB := ab hB
 clear hB
 unfold bL.f at h
 have H := h
 clear h
 revert H; refine sId1_d0 (fun dX H => ?_) fun dX H => ?_
 ·as_aux_lemma =>
   simp only [am, an] at H
   obtain ⟨rfl, rfl, rfl⟩ := H
   obtain ⟨Cr, Ct, Cu, Cv⟩ := cx_cellS50 HI0.out
   go_enter Tryz.func43, Tryz.ntmps43
   go_wp2
   repeat (go_quiet (fail); try go_wp2)
   go_ret
   exact ⟨Z9, zI, zE, zK⟩
 revert H; refine sNt1d1 fun iJ sT H => ?_
 revert H; refine sNt1d1 fun eV oU H => ?_
 revert H; refine sNt1d1 fun iZ nF H => ?_
 revert H; refine sIe1n0_e0n1 (fun hY kZ H => ?_) fun hY kZ H => ?_
 ·as_aux_lemma =>
   simp only [am, an] at H
   obtain ⟨rfl, rfl, rfl⟩ := H
   obtain ⟨nP, nQ, nR, nS⟩ := cx_cellS50 HI0.out
   go_enter Tryz.func43, Tryz.ntmps43
   go_wp2
   repeat (go_quiet (fail); try go_wp2)
   go_ret
   exact ⟨Z9, zI, zE, zK⟩
 as_aux_lemma =>
  simp only [am, an] at H
  obtain ⟨rfl, rfl, rfl⟩ := H
  obtain ⟨lE, lF, lG, lH⟩ := cx_cellS50 HI0.out
  go_enter Tryz.func43, Tryz.ntmps43
  go_wp2
  repeat (go_quiet (fail); try go_wp2)
  go_ret
  exact ⟨Z9, zI, zE, zK⟩
end
end Go.Proofs.YtkjnahgicfmicaaGreatDoor.Sp

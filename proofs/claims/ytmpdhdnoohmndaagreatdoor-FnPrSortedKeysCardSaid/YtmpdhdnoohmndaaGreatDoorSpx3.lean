import Derived.Test.YtmpdhdnoohmndaaGreatDoorZip
import Derived.Test.YtmpdhdnoohmndaaGreatDoorQa
import Derived.Test.YtmpdhdnoohmndaaGreatDoorSpx2
namespace Go.Proofs.YtmpdhdnoohmndaaGreatDoor.Sp
set_option maxHeartbeats 8000000
set_option maxRecDepth 100000
open Go.RowKit Go.Proofs.YtmpdhdnoohmndaaGreatDoorW.PrintWords Go.Proofs.YtmpdhdnoohmndaaGreatDoorW.PrintLast Go.Proofs.YtmpdhdnoohmndaaGreatDoorW.PrintMore
attribute [local go_sem] max2_int min2_int max_two min_two max_three min_three max_four min_four
set_option linter.unusedVariables false
set_option linter.unusedSimpArgs false
def IsS50 (w0 W : World) (g : Nat) (f0 : au) (f1 : Int) : Prop := W.heap[g]? = some (.cells #[.string f0, .int .i64 f1] 81 (0, 0)) ∧ w0.heap.size ≤ g
theorem IsS50.grown {w0 W : World} {g : Nat} {f0 : au} {f1 : Int} {W1 : World} {row : Option Nat} (h : IsS50 w0 W g f0 f1) (hw : W.grownBy W1 row) (hne : some g ≠ row) : IsS50 w0 W1 g f0 f1 := by
 obtain ⟨hb, hg⟩ := h
 exact ⟨blk_grown hb hw hne, hg⟩
theorem IsS50.kept {w0 W : World} {g : Nat} {f0 : au} {f1 : Int} {W1 : World} {S : Nat → Prop} (h : IsS50 w0 W g f0 f1) (hk : Kept W W1 S) (hne : ¬ S g) : IsS50 w0 W1 g f0 f1 := by
 obtain ⟨hb, hg⟩ := h
 exact ⟨blk_kept hb hk hne, hg⟩
theorem IsS50.below {w0 W : World} {g : Nat} {f0 : au} {f1 : Int} {W1 : World} (h : IsS50 w0 W g f0 f1) (hw : Below W.heap.size W W1) : IsS50 w0 W1 g f0 f1 := h.grown (grown_of_below hw none) (by simp)
theorem IsS50.alloc {w0 W : World} {g : Nat} {f0 : au} {f1 : Int} (h : IsS50 w0 W g f0 f1) (o : Obj) : IsS50 w0 (W.alloc o) g f0 f1 := h.below (below_alloc (Below.refl _ _) o)
theorem IsS50.drewN {w0 W : World} {g : Nat} {f0 : au} {f1 : Int} (h : IsS50 w0 W g f0 f1) (m : Nat) : IsS50 w0 (W.drewN m) g f0 f1 := h
theorem IsS50.drew {w0 W : World} {g : Nat} {f0 : au} {f1 : Int} (h : IsS50 w0 W g f0 f1) : IsS50 w0 W.drew g f0 f1 := h
theorem IsS50.apart {w0 W : World} {g : Nat} {f0 : au} {f1 : Int} {α : Type} {d : Kd α} {e : Nat} {base : Nat} {ok : Nat → Prop} {v : Value} {xs : List α} (h : IsS50 w0 W g f0 f1) (ho : d.R e W base ok v xs) (ht : ∀ q, q ∈ e :: d.E → q ≠ 81) : d.R e W base (fun k => ok k ∧ k ≠ g) v xs := by
 obtain ⟨hb, hg⟩ := h
 exact Kd.R_types ho hb ht
theorem IsS50.own_ne {w0 W : World} {g : Nat} {f0 : au} {f1 : Int} {α : Type} {d : Kd α} {e : Nat} {base : Nat} {ok : Nat → Prop} {v : Value} {xs : List α} (h : IsS50 w0 W g f0 f1) (ho : d.R e W base ok v xs) (ht : e ≠ 81) : some g ≠ v.ownBlock := by
 obtain ⟨hb, hg⟩ := h
 exact Kd.R_ne ho hb ht
theorem IsS50.lt {w0 W : World} {g : Nat} {f0 : au} {f1 : Int} (h : IsS50 w0 W g f0 f1) : g < W.heap.size := by
 obtain ⟨hb, hg⟩ := h
 exact blk_lt hb
theorem IsS50.ge {w0 W : World} {g : Nat} {f0 : au} {f1 : Int} (h : IsS50 w0 W g f0 f1) : w0.heap.size ≤ g := by
 obtain ⟨hb, hg⟩ := h
 exact hg
theorem IsS50.far {w0 W : World} {g : Nat} {f0 : au} {f1 : Int} {p : Addr} (h : IsS50 w0 W g f0 f1) (hne : g ≠ p.block) (u : Value) : IsS50 w0 (W.setCell p u) g f0 f1 := by
 obtain ⟨hb, hg⟩ := h
 exact ⟨blk_far hb hne u, hg⟩
theorem cellS50_0 {W : World} {g : Nat} {f0 : au} {f1 : Int} (h : W.heap[g]? = some (.cells #[.string f0, .int .i64 f1] 81 (0, 0))) : W.cell? ⟨g, 0, none⟩ = some (.string f0) := (ax h 0)
theorem IsS50.set_0 {w0 W : World} {g : Nat} {f0 : au} {f1 : Int} (h : IsS50 w0 W g f0 f1) (x : au) : IsS50 w0 (W.setCell ⟨g, 0, none⟩ (.string x)) g x f1 := by
 obtain ⟨hb, hg⟩ := h
 exact ⟨by simpa using blk_set hb 0 (.string x), hg⟩
theorem cellS50_1 {W : World} {g : Nat} {f0 : au} {f1 : Int} (h : W.heap[g]? = some (.cells #[.string f0, .int .i64 f1] 81 (0, 0))) : W.cell? ⟨g, 1, none⟩ = some (.int .i64 f1) := (ax h 1)
theorem IsS50.set_1 {w0 W : World} {g : Nat} {f0 : au} {f1 : Int} (h : IsS50 w0 W g f0 f1) (x : Int) : IsS50 w0 (W.setCell ⟨g, 1, none⟩ (.int .i64 x)) g f0 x := by
 obtain ⟨hb, hg⟩ := h
 exact ⟨by simpa using blk_set hb 1 (.int .i64 x), hg⟩
theorem IsS50.new (w0 W : World) (f0 : au) (f1 : Int) (hB : Below w0.heap.size w0 W) : IsS50 w0 (W.alloc (.cells #[.string f0, .int .i64 f1] 81)) W.heap.size f0 f1 := ⟨by simpa using heap_alloc_new W _, hB.size⟩
theorem cx_cellS50 {w0 W : World} {g : Nat} {f0 : au} {f1 : Int} (h : IsS50 w0 W g f0 f1) : W.cell? ⟨g, 0, none⟩ = some (.string f0) ∧ W.cell? ⟨g, 1, none⟩ = some (.int .i64 f1) ∧ W.frozen? ⟨g, 0, none⟩ = false ∧ W.frozen? ⟨g, 1, none⟩ = false :=
 ⟨cellS50_0 h.1, cellS50_1 h.1, blk_frozen h.1 0, blk_frozen h.1 1⟩
theorem zE {p : Prop} (h : p := by repeat (first | (with_reducible first | exact Aside0.out (by assumption) | apply below_alloc | apply pw_below_drewN | apply below_drew1 | refine below_set ?_ (IsS50.ge (Aside0.out (by assumption))) | refine below_set ?_ (Aside0.out (by assumption))) | exact Aside0.out (by assumption))) : p := h
theorem zI {p : Prop} (h : p := by repeat (first | (with_reducible first | exact Aside0.out (by assumption) | apply IsS50.alloc | apply IsS50.drewN | apply IsS50.drew | apply IsS50.set_0 | apply IsS50.set_1 | refine IsS50.far ?_ (Aside0.out (by assumption)) _) | exact Aside0.out (by assumption))) : p := h
def aA.l0 : Nat → au → Int → Option (au × Int)
 | 0, _, _ => none
 | k + 1, bT, bQ => if bQ < (bT.size : Int) then (if 0 ≤ bQ then ((bV.f (bt bT bQ)).bind fun xR => (if xR = true then (aA.l0 k bT (wrap64 (bQ + 1))) else (some (bT, bQ)))) else (none)) else (some (bT, bQ))
def aA.f (k : Nat) (s0_0 : au) (s0_1 : Int) : Option (au × Int) := aA.l0 k s0_0 s0_1
theorem aA.mono_l : ∀ k, (∀ y0 y1, LeO (aA.l0 k y0 y1) (aA.l0 (k + 1) y0 y1))
 | 0 => fun _ _ r h => by simp [aA.l0] at h
 | k + 1 => by
  have ih0 := aA.mono_l k
  ·intro y0 y1
   unfold aA.l0
   exact zM
theorem aA.mono : ∀ a0 a1 k, LeO (aA.f k a0 a1) (aA.f (k + 1) a0 a1) := by
 intro a0 a1 k
 have ih0 := aA.mono_l k
 unfold aA.f
 exact zM
instance aA.mi  {a0 a1 k} : LeI (aA.f k a0 a1) (aA.f (k + 1) a0 a1) := ⟨⟨aA.mono a0 a1 k⟩⟩
theorem aA.calls (k : Nat) (g : Nat) (s0_0 : au) (s0_1 : Int) (r1 : au) (r2 : Int) (w0 w : World) (hI : IsS50 w0 w g s0_0 s0_1) (hB : Below w0.heap.size w0 w) (h : aA.f k s0_0 s0_1 = some (r1, r2)) :
 Calls Tryz.prog 35 #[.pointer (some ⟨g, 0, none⟩)] w fun e w' => e = .returned (.tuple #[]) ∧ IsS50 w0 w' g r1 r2 ∧ Below w0.heap.size w0 w' ∧ KeepBut w w' g none := by
 have HI0 := aa hI
 have HK := aa (KeepBut.refl w g none)
 have HL := aa hB.size
 clear hI
 have HW0 := aa hB.size
 have HB := aa hB
 clear hB
 have H : (aA.l0 k s0_0 s0_1) = some (r1, r2) := h
 clear h
 have H' := aa H
 clear H
 go_enter Tryz.func35, Tryz.ntmps35
 go_wp2
 repeat (go_quiet (fail); try go_wp2)
 (try simp only [Act.put, ao, ap, aq])
 go_loopg [] k (fun kq w' => ∃ (bE : Int), Aside0 (aA.l0 kq s0_0 bE = some (r1, r2)) ∧ Aside0 (kq ≤ k) ∧ Aside0 (IsS50 w0 w' g s0_0 bE) ∧ Aside0 (KeepBut w w' g none) ∧ Aside0 (Below w0.heap.size w0 w'))
 case atStart => exact ⟨(s0_1), H', ⟨Nat.le_refl _⟩, ⟨zI⟩, ⟨zK⟩, ⟨zE⟩⟩
 case round =>
  clear H'
  obtain ⟨bE, HA, HK1, HI0, HK, HB⟩ := hrel
  cases gk with
  | zero => exact absurd HA.out (by simp [aA.l0])
  | succ k1 =>
   have H := HA.out
   clear HA
   simp only [aA.l0] at H
   revert H; refine sId1_d0 (fun eY H => ?_) fun eY H => ?_
   ·revert H; refine sNd1 fun dE H => ?_
    revert H; refine bnd ?_; rintro xR A5 H
    replace H := sB H
    obtain ⟨rfl, H⟩ | ⟨rfl, H⟩ := H
    ·as_aux_lemma =>
      have H' := aa H
      clear H
      obtain ⟨jK, jL, jM, jN⟩ := cx_cellS50 HI0.out
      have p4 := af (ab Z9 : 0 ≤ (bE : Int))
      have q4 := af (ab Z9 : bE < (s0_0.size : Int))
      have hx4 := bt_at s0_0 bE
      go_wp2_with (first | (go_at_call 50; (with_reducible refine (bV.calls (bt s0_0 bE) true _ A5.out).mono ?_); rintro e w' ⟨rfl, ⟨nd, rfl⟩⟩; (try first | exact ⟨rfl, _, World.drewN_drewN _ _ _⟩ | exact ⟨rfl, _, Eq.trans (World.drewN_drewN _ _ _) (congrArg (World.drewN _) (Nat.add_assoc _ _ _))⟩)))
      repeat (go_quiet (first | (go_at_call 50; (with_reducible refine (bV.calls (bt s0_0 bE) true _ A5.out).mono ?_); rintro e w' ⟨rfl, ⟨nd, rfl⟩⟩; (try first | exact ⟨rfl, _, World.drewN_drewN _ _ _⟩ | exact ⟨rfl, _, Eq.trans (World.drewN_drewN _ _ _) (congrArg (World.drewN _) (Nat.add_assoc _ _ _))⟩))); try go_wp2_with (first | (go_at_call 50; (with_reducible refine (bV.calls (bt s0_0 bE) true _ A5.out).mono ?_); rintro e w' ⟨rfl, ⟨nd, rfl⟩⟩; (try first | exact ⟨rfl, _, World.drewN_drewN _ _ _⟩ | exact ⟨rfl, _, Eq.trans (World.drewN_drewN _ _ _) (congrArg (World.drewN _) (Nat.add_assoc _ _ _))⟩))))
      go_roundg k1
      case measure => have := HK1.out; omega
      case rel => exact ⟨(wrap64 (bE + 1)), H', ⟨by have := HK1.out; omega⟩, ⟨zI⟩, ⟨zK⟩, ⟨zE⟩⟩
    as_aux_lemma =>
     simp only [al, am] at H
     obtain ⟨rfl, rfl⟩ := H
     obtain ⟨gW, gX, gY, gZ⟩ := cx_cellS50 HI0.out
     have p4 := af (ab Z9 : 0 ≤ (bE : Int))
     have q4 := af (ab Z9 : bE < (s0_0.size : Int))
     have hx4 := bt_at s0_0 bE
     go_wp2_with (first | (go_at_call 50; (with_reducible refine (bV.calls (bt s0_0 bE) false _ A5.out).mono ?_); rintro e w' ⟨rfl, ⟨nd, rfl⟩⟩; (try first | exact ⟨rfl, _, World.drewN_drewN _ _ _⟩ | exact ⟨rfl, _, Eq.trans (World.drewN_drewN _ _ _) (congrArg (World.drewN _) (Nat.add_assoc _ _ _))⟩)))
     repeat (go_quiet (first | (go_at_call 50; (with_reducible refine (bV.calls (bt s0_0 bE) false _ A5.out).mono ?_); rintro e w' ⟨rfl, ⟨nd, rfl⟩⟩; (try first | exact ⟨rfl, _, World.drewN_drewN _ _ _⟩ | exact ⟨rfl, _, Eq.trans (World.drewN_drewN _ _ _) (congrArg (World.drewN _) (Nat.add_assoc _ _ _))⟩))); try go_wp2_with (first | (go_at_call 50; (with_reducible refine (bV.calls (bt s0_0 bE) false _ A5.out).mono ?_); rintro e w' ⟨rfl, ⟨nd, rfl⟩⟩; (try first | exact ⟨rfl, _, World.drewN_drewN _ _ _⟩ | exact ⟨rfl, _, Eq.trans (World.drewN_drewN _ _ _) (congrArg (World.drewN _) (Nat.add_assoc _ _ _))⟩))))
     first | go_end0 | ((try simp only [Exit.inBlock, Exit.then]); refine bodyPost_ret (results_none rfl _ _ _) rfl ?_)
     exact ⟨Z6, zI, zE, zK⟩
   as_aux_lemma =>
    simp only [al, am] at H
    obtain ⟨rfl, rfl⟩ := H
    obtain ⟨jO, jP, jQ, jR⟩ := cx_cellS50 HI0.out
    go_wp2
    repeat (go_quiet (fail); try go_wp2)
    first | go_end0 | ((try simp only [Exit.inBlock, Exit.then]); refine bodyPost_ret (results_none rfl _ _ _) rfl ?_)
    exact ⟨Z6, zI, zE, zK⟩
def bG.f (s0_0 : au) (s0_1 : Int) : Option (Int × au × Int) := if s0_1 < (s0_0.size : Int) then (if 0 ≤ s0_1 then (some (bt s0_0 s0_1, s0_0, s0_1)) else (none)) else (some (0, s0_0, s0_1))
theorem bG.calls (g : Nat) (s0_0 : au) (s0_1 : Int) (r1 : Int) (r2 : au) (r3 : Int) (w0 w : World) (hI : IsS50 w0 w g s0_0 s0_1) (hB : Below w0.heap.size w0 w) (h : bG.f s0_0 s0_1 = some (r1, r2, r3)) :
 Calls Tryz.prog 51 #[.pointer (some ⟨g, 0, none⟩)] w fun e w' => e = .returned (.int .u8 r1) ∧ IsS50 w0 w' g r2 r3 ∧ Below w0.heap.size w0 w' ∧ KeepBut w w' g none := by
 have HI0 := aa hI
 have HK := aa (KeepBut.refl w g none)
 have HL := aa hB.size
 clear hI
 have HW0 := aa hB.size
 have HB := aa hB
 clear hB
 unfold bG.f at h
 have H := h
 clear h
 revert H; refine sId1_d0 (fun eY H => ?_) fun eY H => ?_
 ·revert H; refine sNd1 fun dE H => ?_
  as_aux_lemma =>
   simp only [al, am] at H
   obtain ⟨rfl, rfl, rfl⟩ := H
   obtain ⟨oL, oM, oN, oO⟩ := cx_cellS50 HI0.out
   have p4 := af (ab Z9 : 0 ≤ (s0_1 : Int))
   have q4 := af (ab Z9 : s0_1 < (s0_0.size : Int))
   have hx4 := bt_at s0_0 s0_1
   go_enter Tryz.func51, Tryz.ntmps51
   go_wp2
   repeat (go_quiet (fail); try go_wp2)
   go_ret
   exact ⟨Z6, zI, zE, zK⟩
 as_aux_lemma =>
  simp only [al, am] at H
  obtain ⟨rfl, rfl, rfl⟩ := H
  obtain ⟨uU, uV, uW, uX⟩ := cx_cellS50 HI0.out
  go_enter Tryz.func51, Tryz.ntmps51
  go_wp2
  repeat (go_quiet (fail); try go_wp2)
  go_ret
  exact ⟨Z6, zI, zE, zK⟩
mutual
def aE.j0 : Nat → Int → Bool → au → Int → Option (Bool × au × Int)
 | 0, _, _, _, _ => none
 | k + 1, x7, x8, bT, bQ => if x8 = true then (some (true, bT, wrap64 (bQ + 1))) else (if x7 = 117 then (aE.l0 k 0 bT (wrap64 (bQ + 1))) else (some (false, bT, bQ)))
def aE.l0 : Nat → Int → au → Int → Option (Bool × au × Int)
 | 0, _, _, _ => none
 | k + 1, x3, bT, bQ => if x3 < 4 then ((bG.f bT bQ).bind fun bt119 => ((aQ.f k bt119.1).bind fun bt122 => (if bt122.2 = true then (aE.l0 k (wrap64 (x3 + 1)) bt119.2.1 (wrap64 (bt119.2.2 + 1))) else (some (false, bt119.2.1, bt119.2.2))))) else (some (true, bT, bQ))
end
def aE.f (k : Nat) (s0_0 : au) (s0_1 : Int) : Option (Bool × au × Int) := (bG.f s0_0 s0_1).bind fun bt116 => (if bt116.1 = 34 then (aE.j0 k bt116.1 (bt116.1 == 34) bt116.2.1 bt116.2.2) else (if bt116.1 = 92 then (aE.j0 k bt116.1 (bt116.1 == 92) bt116.2.1 bt116.2.2) else (if bt116.1 = 47 then (aE.j0 k bt116.1 (bt116.1 == 47) bt116.2.1 bt116.2.2) else (if bt116.1 = 98 then (aE.j0 k bt116.1 (bt116.1 == 98) bt116.2.1 bt116.2.2) else (if bt116.1 = 102 then (aE.j0 k bt116.1 (bt116.1 == 102) bt116.2.1 bt116.2.2) else (if bt116.1 = 110 then (aE.j0 k bt116.1 (bt116.1 == 110) bt116.2.1 bt116.2.2) else (if bt116.1 = 114 then (aE.j0 k bt116.1 (bt116.1 == 114) bt116.2.1 bt116.2.2) else (aE.j0 k bt116.1 (bt116.1 == 116) bt116.2.1 bt116.2.2))))))))
theorem aE.mono_l : ∀ k, (∀ y0 y1 y2 y3, LeO (aE.j0 k y0 y1 y2 y3) (aE.j0 (k + 1) y0 y1 y2 y3)) ∧ (∀ y0 y1 y2, LeO (aE.l0 k y0 y1 y2) (aE.l0 (k + 1) y0 y1 y2))
 | 0 => ⟨fun _ _ _ _ r h => by simp [aE.j0] at h, fun _ _ _ r h => by simp [aE.l0] at h⟩
 | k + 1 => by
  obtain ⟨ih0, ih1⟩ := aE.mono_l k
  refine ⟨?_, ?_⟩
  ·intro y0 y1 y2 y3
   unfold aE.j0
   exact zM
  ·intro y0 y1 y2
   unfold aE.l0
   exact zM
theorem aE.mono : ∀ a0 a1 k, LeO (aE.f k a0 a1) (aE.f (k + 1) a0 a1) := by
 intro a0 a1 k
 obtain ⟨ih0, ih1⟩ := aE.mono_l k
 unfold aE.f
 exact zM
instance aE.mi  {a0 a1 k} : LeI (aE.f k a0 a1) (aE.f (k + 1) a0 a1) := ⟨⟨aE.mono a0 a1 k⟩⟩
theorem aE.calls (k : Nat) (g : Nat) (s0_0 : au) (s0_1 : Int) (r1 : Bool) (r2 : au) (r3 : Int) (w0 w : World) (hI : IsS50 w0 w g s0_0 s0_1) (hB : Below w0.heap.size w0 w) (h : aE.f k s0_0 s0_1 = some (r1, r2, r3)) :
 Calls Tryz.prog 66 #[.pointer (some ⟨g, 0, none⟩)] w fun e w' => e = .returned (.bool r1) ∧ IsS50 w0 w' g r2 r3 ∧ Below w0.heap.size w0 w' ∧ KeepBut w w' g none := by
 have HI0 := aa hI
 have HK := aa (KeepBut.refl w g none)
 have HL := aa hB.size
 clear hI
 have HW0 := aa hB.size
 have HB := aa hB
 clear hB
 unfold aE.f at h
 have H := h
 clear h
 revert H; refine bnd ?_; rintro ⟨iX, qF, qG⟩ A2 H; try dsimp only at H
 have jD := aa H
 clear H
 go_enter Tryz.func66, Tryz.ntmps66
 go_upto_if 8 with (first | (refine gl 51 (some 7) Tryz.func51 #[.pointer (some ⟨g, 0, none⟩)] ?_; (with_reducible refine (bG.calls g s0_0 s0_1 iX qF qG w0 _ zI zE A2.out).mono ?_); rintro e w4 ⟨rfl, hi, hb, hk⟩; refine ⟨_, rfl, ?_⟩; replace HK := aa (KeepBut.trans (w := w) zK hk (.inl rfl)); replace HB := aa (hb); replace HI0 := aa (hi); clear hb hk hi))
 (try simp only [Act.put, ao, ap, aq])
 go_cut [8] (fun v8 wc => ∃ (kq : Nat) (uY : Bool), v8 = .bool uY ∧ Aside0 (aE.j0 kq iX uY qF qG = some (r1, r2, r3)) ∧ Aside0 (kq ≤ k) ∧ Aside0 (IsS50 w0 wc g qF qG) ∧ Aside0 (KeepBut w wc g none) ∧ Aside0 (Below w0.heap.size w0 wc))
 case first =>
  have H := jD.out
  clear jD
  revert H; refine sIe1n0_e0n1 (fun gI nQ H => ?_) fun gI nQ H => ?_
  ·(first | rw [gI] | (simp only [i64_w, i32_w]; rw [gI]) | skip)
   as_aux_lemma =>
    have H' := aa H
    clear H
    go_wp2
    go_meet
    case rel => exact ⟨_, ((iX == 34)), Z8, H', ⟨Z23⟩, ⟨zI⟩, ⟨zK⟩, ⟨zE⟩⟩
  (first | rw [gI] | (simp only [i64_w, i32_w]; rw [gI]) | skip)
  revert H; refine sIe1n0_e0n1 (fun eU kQ H => ?_) fun eU kQ H => ?_
  ·as_aux_lemma =>
    have H' := aa H
    clear H
    go_wp2
    go_meet
    case rel => exact ⟨_, ((iX == 92)), Z8, H', ⟨Z23⟩, ⟨zI⟩, ⟨zK⟩, ⟨zE⟩⟩
  revert H; refine sIe1n0_e0n1 (fun iM qB H => ?_) fun iM qB H => ?_
  ·as_aux_lemma =>
    have H' := aa H
    clear H
    go_wp2
    go_meet
    case rel => exact ⟨_, ((iX == 47)), Z8, H', ⟨Z23⟩, ⟨zI⟩, ⟨zK⟩, ⟨zE⟩⟩
  revert H; refine sIe1n0_e0n1 (fun iK lE H => ?_) fun iK lE H => ?_
  ·as_aux_lemma =>
    have H' := aa H
    clear H
    go_wp2
    go_meet
    case rel => exact ⟨_, ((iX == 98)), Z8, H', ⟨Z23⟩, ⟨zI⟩, ⟨zK⟩, ⟨zE⟩⟩
  revert H; refine sIe1n0_e0n1 (fun jJ Pp H => ?_) fun jJ Pp H => ?_
  ·as_aux_lemma =>
    have H' := aa H
    clear H
    go_wp2
    go_meet
    case rel => exact ⟨_, ((iX == 102)), Z8, H', ⟨Z23⟩, ⟨zI⟩, ⟨zK⟩, ⟨zE⟩⟩
  revert H; refine sIe1n0_e0n1 (fun mA oP H => ?_) fun mA oP H => ?_
  ·as_aux_lemma =>
    have H' := aa H
    clear H
    go_wp2
    go_meet
    case rel => exact ⟨_, ((iX == 110)), Z8, H', ⟨Z23⟩, ⟨zI⟩, ⟨zK⟩, ⟨zE⟩⟩
  revert H; refine sIe1n0_e0n1 (fun tV xS H => ?_) fun tV xS H => ?_
  ·as_aux_lemma =>
    have H' := aa H
    clear H
    go_wp2
    go_meet
    case rel => exact ⟨_, ((iX == 114)), Z8, H', ⟨Z23⟩, ⟨zI⟩, ⟨zK⟩, ⟨zE⟩⟩
  as_aux_lemma =>
   have H' := aa H
   clear H
   go_wp2
   go_meet
   case rel => exact ⟨_, ((iX == 116)), Z8, H', ⟨Z23⟩, ⟨zI⟩, ⟨zK⟩, ⟨zE⟩⟩
 case rest =>
  clear jD
  obtain ⟨kq, uY, rfl, HA, HJ2, HI0, HK, HB⟩ := hcut
  cases kq with
  | zero => exact absurd HA.out (by simp [aE.j0])
  | succ kj2 =>
   have H := HA.out
   clear HA
   simp only [aE.j0] at H
   replace H := sB H
   obtain ⟨rfl, H⟩ | ⟨rfl, H⟩ := H
   ·as_aux_lemma =>
     simp only [al, am] at H
     obtain ⟨rfl, rfl, rfl⟩ := H
     obtain ⟨mB, mC, mD, mE⟩ := cx_cellS50 HI0.out
     go_wp2
     go_ret
     exact ⟨Z6, zI, zE, zK⟩
   revert H; refine sIe1n0_e0n1 (fun eV kR H => ?_) fun eV kR H => ?_
   ·have H' := aa H
    clear H
    obtain ⟨jS, jT, jU, jV⟩ := cx_cellS50 HI0.out
    go_wp2
    (try simp only [Act.put, ao, ap, aq])
    go_loopg [3] kj2 (fun kq v3 w' => ∃ (qH : Int) (dM : au) (dN : Int), v3 = .int .i64 qH ∧ Aside0 (aE.l0 kq qH dM dN = some (r1, r2, r3)) ∧ Aside0 (kq ≤ kj2) ∧ Aside0 (IsS50 w0 w' g dM dN) ∧ Aside0 (KeepBut w w' g none) ∧ Aside0 (Below w0.heap.size w0 w'))
    case atStart => exact ⟨(0), (qF), (wrap64 (qG + 1)), Z8, H', ⟨Nat.le_refl _⟩, ⟨zI⟩, ⟨zK⟩, ⟨zE⟩⟩
    case round =>
     clear H'
     try clear eV kR jS jT jU jV
     obtain ⟨qH, dM, dN, rfl, HA, HK2, HI0, HK, HB⟩ := hrel
     cases gk with
     | zero => exact absurd HA.out (by simp [aE.l0])
     | succ k2 =>
      have H := HA.out
      clear HA
      simp only [aE.l0] at H
      revert H; refine sId1_d0 (fun jF H => ?_) fun jF H => ?_
      ·revert H; refine bnd ?_; rintro ⟨nR, uZ, vA⟩ Sc H; try dsimp only at H
       revert H; refine bnd ?_; rintro ⟨xT, Wg⟩ xN H; try dsimp only at H
       replace H := sB H
       obtain ⟨rfl, H⟩ | ⟨rfl, H⟩ := H
       ·as_aux_lemma =>
         have H' := aa H
         clear H
         go_wp2_with (first | (refine gl 51 (some 39) Tryz.func51 #[.pointer (some ⟨g, 0, none⟩)] ?_; (with_reducible refine (bG.calls g dM dN nR uZ vA w0 _ zI zE Sc.out).mono ?_); rintro e w20 ⟨rfl, hi, hb, hk⟩; refine ⟨_, rfl, ?_⟩; replace HK := aa (KeepBut.trans (w := w) zK hk (.inl rfl)); replace HB := aa (hb); replace HI0 := aa (hi); clear hb hk hi) | (refine gl 34 (some 40) Tryz.func34 #[.int .u8 nR] ?_; (with_reducible refine (aQ.calls k2 nR xT true _ xN.out).mono ?_); rintro e w' ⟨rfl, ⟨nd, rfl⟩⟩; refine ⟨_, rfl, ?_⟩; (try (rw [drewN_self w20]; generalize hq_ : World.drewN w20 _ = w20; replace HK : Aside0 (KeepBut w w20 g none) := ⟨by rw [← hq_]; exact zK⟩; replace HB : Aside0 (Below w0.heap.size w0 w20) := ⟨by rw [← hq_]; exact zE⟩; replace HI0 := dqI hq_ HI0; clear hq_)); obtain ⟨qI, qJ, qK, qL⟩ := cx_cellS50 HI0.out))
         go_roundg k2
         case measure => have := HJ2.out; have := HK2.out; omega
         case rel => exact ⟨(wrap64 (qH + 1)), (uZ), (wrap64 (vA + 1)), Z8, H', ⟨by have := HJ2.out; have := HK2.out; omega⟩, ⟨zI⟩, ⟨zK⟩, ⟨zE⟩⟩
       as_aux_lemma =>
        simp only [al, am] at H
        obtain ⟨rfl, rfl, rfl⟩ := H
        go_wp2_with (first | (refine gl 51 (some 39) Tryz.func51 #[.pointer (some ⟨g, 0, none⟩)] ?_; (with_reducible refine (bG.calls g dM dN nR uZ vA w0 _ zI zE Sc.out).mono ?_); rintro e w22 ⟨rfl, hi, hb, hk⟩; refine ⟨_, rfl, ?_⟩; replace HK := aa (KeepBut.trans (w := w) zK hk (.inl rfl)); replace HB := aa (hb); replace HI0 := aa (hi); clear hb hk hi) | (refine gl 34 (some 40) Tryz.func34 #[.int .u8 nR] ?_; (with_reducible refine (aQ.calls k2 nR xT false _ xN.out).mono ?_); rintro e w' ⟨rfl, ⟨nd, rfl⟩⟩; refine ⟨_, rfl, ?_⟩))
        go_ret
        exact ⟨Z6, zI, zE, zK⟩
      as_aux_lemma =>
       simp only [al, am] at H
       obtain ⟨rfl, rfl, rfl⟩ := H
       go_wp2
       go_ret
       exact ⟨Z6, zI, zE, zK⟩
   as_aux_lemma =>
    simp only [al, am] at H
    obtain ⟨rfl, rfl, rfl⟩ := H
    go_wp2
    go_ret
    exact ⟨Z6, zI, zE, zK⟩
def aV.l0 : Nat → au → Int → Option (Bool × au × Int)
 | 0, _, _ => none
 | k + 1, bT, bQ => if bQ < (bT.size : Int) then (if 0 ≤ bQ then (if (bt bT bQ) = 34 then (some (true, bT, wrap64 (bQ + 1))) else (if (bt bT bQ) < 32 then (some (false, bT, wrap64 (bQ + 1))) else (if (bt bT bQ) = 92 then ((aE.f k bT (wrap64 (bQ + 1))).bind fun bt124 => (if bt124.1 = true then (aV.l0 k bt124.2.1 bt124.2.2) else (some (false, bt124.2.1, bt124.2.2)))) else (aV.l0 k bT (wrap64 (bQ + 1)))))) else (none)) else (some (false, bT, bQ))
def aV.f (k : Nat) (s0_0 : au) (s0_1 : Int) : Option (Bool × au × Int) := aV.l0 k s0_0 (wrap64 (s0_1 + 1))
theorem aV.mono_l : ∀ k, (∀ y0 y1, LeO (aV.l0 k y0 y1) (aV.l0 (k + 1) y0 y1))
 | 0 => fun _ _ r h => by simp [aV.l0] at h
 | k + 1 => by
  have ih0 := aV.mono_l k
  ·intro y0 y1
   unfold aV.l0
   exact zM
theorem aV.mono : ∀ a0 a1 k, LeO (aV.f k a0 a1) (aV.f (k + 1) a0 a1) := by
 intro a0 a1 k
 have ih0 := aV.mono_l k
 unfold aV.f
 exact zM
instance aV.mi  {a0 a1 k} : LeI (aV.f k a0 a1) (aV.f (k + 1) a0 a1) := ⟨⟨aV.mono a0 a1 k⟩⟩
theorem aV.calls (k : Nat) (g : Nat) (s0_0 : au) (s0_1 : Int) (r1 : Bool) (r2 : au) (r3 : Int) (w0 w : World) (hI : IsS50 w0 w g s0_0 s0_1) (hB : Below w0.heap.size w0 w) (h : aV.f k s0_0 s0_1 = some (r1, r2, r3)) :
 Calls Tryz.prog 54 #[.pointer (some ⟨g, 0, none⟩)] w fun e w' => e = .returned (.bool r1) ∧ IsS50 w0 w' g r2 r3 ∧ Below w0.heap.size w0 w' ∧ KeepBut w w' g none := by
 have HI0 := aa hI
 have HK := aa (KeepBut.refl w g none)
 have HL := aa hB.size
 clear hI
 have HW0 := aa hB.size
 have HB := aa hB
 clear hB
 have H : (aV.l0 k s0_0 (wrap64 (s0_1 + 1))) = some (r1, r2, r3) := h
 clear h
 have H' := aa H
 clear H
 obtain ⟨vB, vC, vD, vE⟩ := cx_cellS50 HI0.out
 go_enter Tryz.func54, Tryz.ntmps54
 go_wp2
 repeat (go_quiet (fail); try go_wp2)
 (try simp only [Act.put, ao, ap, aq])
 go_loopg [] k (fun kq w' => ∃ (bJ : au) (bE : Int), Aside0 (aV.l0 kq bJ bE = some (r1, r2, r3)) ∧ Aside0 (kq ≤ k) ∧ Aside0 (IsS50 w0 w' g bJ bE) ∧ Aside0 (KeepBut w w' g none) ∧ Aside0 (Below w0.heap.size w0 w'))
 case atStart => exact ⟨(s0_0), (wrap64 (s0_1 + 1)), H', ⟨Nat.le_refl _⟩, ⟨zI⟩, ⟨zK⟩, ⟨zE⟩⟩
 case round =>
  clear H'
  try clear vB vC vD vE
  obtain ⟨bJ, bE, HA, HK1, HI0, HK, HB⟩ := hrel
  cases gk with
  | zero => exact absurd HA.out (by simp [aV.l0])
  | succ k1 =>
   have H := HA.out
   clear HA
   simp only [aV.l0] at H
   revert H; refine sId1_d0 (fun dE H => ?_) fun dE H => ?_
   ·revert H; refine sNd1 fun fG H => ?_
    revert H; refine sIe1n0_e0n1 (fun eU kQ H => ?_) fun eU kQ H => ?_
    ·as_aux_lemma =>
      simp only [al, am] at H
      obtain ⟨rfl, rfl, rfl⟩ := H
      obtain ⟨jK, jL, jM, jN⟩ := cx_cellS50 HI0.out
      have p5 := af (ab Z9 : 0 ≤ (bE : Int))
      have q5 := af (ab Z9 : bE < (bJ.size : Int))
      have hx5 := bt_at bJ bE
      go_wp2
      repeat (go_quiet (fail); try go_wp2)
      go_ret
      exact ⟨Z6, zI, zE, zK⟩
    revert H; refine sId1_d0 (fun iK H => ?_) fun iK H => ?_
    ·as_aux_lemma =>
      simp only [al, am] at H
      obtain ⟨rfl, rfl, rfl⟩ := H
      obtain ⟨jO, jP, jQ, jR⟩ := cx_cellS50 HI0.out
      have p5 := af (ab Z9 : 0 ≤ (bE : Int))
      have q5 := af (ab Z9 : bE < (bJ.size : Int))
      have hx5 := bt_at bJ bE
      go_wp2
      repeat (go_quiet (fail); try go_wp2)
      go_ret
      exact ⟨Z6, zI, zE, zK⟩
    revert H; refine sIe1n0_e0n1 (fun mA oP H => ?_) fun mA oP H => ?_
    ·revert H; refine bnd ?_; rintro ⟨Wh, lI, lJ⟩ pQ H; try dsimp only at H
     replace H := sB H
     obtain ⟨rfl, H⟩ | ⟨rfl, H⟩ := H
     ·as_aux_lemma =>
       have H' := aa H
       clear H
       obtain ⟨mB, mC, mD, mE⟩ := cx_cellS50 HI0.out
       have p5 := af (ab Z9 : 0 ≤ (bE : Int))
       have q5 := af (ab Z9 : bE < (bJ.size : Int))
       have hx5 := bt_at bJ bE
       go_wp2_with (first | (go_at_call 66; (with_reducible refine (aE.calls k1 g bJ (wrap64 (bE + 1)) true lI lJ w0 _ zI zE pQ.out).mono ?_); rintro e w14 ⟨rfl, hi, hb, hk⟩; replace HK := aa (KeepBut.trans (w := w) zK hk (.inl rfl)); replace HB := aa (hb); replace HI0 := aa (hi); clear hb hk hi))
       repeat (go_quiet (first | (go_at_call 66; (with_reducible refine (aE.calls k1 g bJ (wrap64 (bE + 1)) true lI lJ w0 _ zI zE pQ.out).mono ?_); rintro e w14 ⟨rfl, hi, hb, hk⟩; replace HK := aa (KeepBut.trans (w := w) zK hk (.inl rfl)); replace HB := aa (hb); replace HI0 := aa (hi); clear hb hk hi)); try go_wp2_with (first | (go_at_call 66; (with_reducible refine (aE.calls k1 g bJ (wrap64 (bE + 1)) true lI lJ w0 _ zI zE pQ.out).mono ?_); rintro e w14 ⟨rfl, hi, hb, hk⟩; replace HK := aa (KeepBut.trans (w := w) zK hk (.inl rfl)); replace HB := aa (hb); replace HI0 := aa (hi); clear hb hk hi)))
       go_roundg k1
       case measure => have := HK1.out; omega
       case rel => exact ⟨(lI), (lJ), H', ⟨by have := HK1.out; omega⟩, ⟨zI⟩, ⟨zK⟩, ⟨zE⟩⟩
     as_aux_lemma =>
      simp only [al, am] at H
      obtain ⟨rfl, rfl, rfl⟩ := H
      obtain ⟨jS, jT, jU, jV⟩ := cx_cellS50 HI0.out
      have p5 := af (ab Z9 : 0 ≤ (bE : Int))
      have q5 := af (ab Z9 : bE < (bJ.size : Int))
      have hx5 := bt_at bJ bE
      go_wp2_with (first | (go_at_call 66; (with_reducible refine (aE.calls k1 g bJ (wrap64 (bE + 1)) false lI lJ w0 _ zI zE pQ.out).mono ?_); rintro e w16 ⟨rfl, hi, hb, hk⟩; replace HK := aa (KeepBut.trans (w := w) zK hk (.inl rfl)); replace HB := aa (hb); replace HI0 := aa (hi); clear hb hk hi))
      repeat (go_quiet (first | (go_at_call 66; (with_reducible refine (aE.calls k1 g bJ (wrap64 (bE + 1)) false lI lJ w0 _ zI zE pQ.out).mono ?_); rintro e w16 ⟨rfl, hi, hb, hk⟩; replace HK := aa (KeepBut.trans (w := w) zK hk (.inl rfl)); replace HB := aa (hb); replace HI0 := aa (hi); clear hb hk hi)); try go_wp2_with (first | (go_at_call 66; (with_reducible refine (aE.calls k1 g bJ (wrap64 (bE + 1)) false lI lJ w0 _ zI zE pQ.out).mono ?_); rintro e w16 ⟨rfl, hi, hb, hk⟩; replace HK := aa (KeepBut.trans (w := w) zK hk (.inl rfl)); replace HB := aa (hb); replace HI0 := aa (hi); clear hb hk hi)))
      go_ret
      exact ⟨Z6, zI, zE, zK⟩
    as_aux_lemma =>
     have H' := aa H
     clear H
     obtain ⟨qM, qN, qO, qP⟩ := cx_cellS50 HI0.out
     have p5 := af (ab Z9 : 0 ≤ (bE : Int))
     have q5 := af (ab Z9 : bE < (bJ.size : Int))
     have hx5 := bt_at bJ bE
     go_wp2
     repeat (go_quiet (fail); try go_wp2)
     go_roundg k1
     case measure => have := HK1.out; omega
     case rel => exact ⟨(bJ), (wrap64 (bE + 1)), H', ⟨by have := HK1.out; omega⟩, ⟨zI⟩, ⟨zK⟩, ⟨zE⟩⟩
   as_aux_lemma =>
    simp only [al, am] at H
    obtain ⟨rfl, rfl, rfl⟩ := H
    obtain ⟨qQ, qR, qS, qT⟩ := cx_cellS50 HI0.out
    go_wp2
    repeat (go_quiet (fail); try go_wp2)
    go_ret
    exact ⟨Z6, zI, zE, zK⟩
end Go.Proofs.YtmpdhdnoohmndaaGreatDoor.Sp

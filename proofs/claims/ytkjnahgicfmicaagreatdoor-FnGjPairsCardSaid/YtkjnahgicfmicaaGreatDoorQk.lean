import Derived.Test.YtkjnahgicfmicaaGreatDoorZip
import Derived.Test.YtkjnahgicfmicaaGreatDoorQa
import Derived.Test.YtkjnahgicfmicaaGreatDoorQb
namespace Go.Proofs.YtkjnahgicfmicaaGreatDoor.Sp
section
set_option maxHeartbeats 8000000
set_option maxRecDepth 100000
open Go.RowKit Go.PW Go.PL Go.PM
attribute [local go_sem] max2_int min2_int max_two min_two max_three min_three max_four min_four
set_option linter.unusedVariables false
set_option linter.unusedSimpArgs false
def IsS50 (w0 W : World) (g : Nat) (f0 : ByteArray) (f1 : Int) : Prop := W.heap[g]? = some (.cells #[.string f0, .int .i64 f1] 50 (0, 0)) ∧ w0.heap.size ≤ g
theorem IsS50.grown {w0 W : World} {g : Nat} {f0 : ByteArray} {f1 : Int} {W1 : World} {row : Option Nat} (h : IsS50 w0 W g f0 f1) (hw : W.grownBy W1 row) (hne : some g ≠ row) : IsS50 w0 W1 g f0 f1 := by
 obtain ⟨hb, hg⟩ := h
 exact ⟨blk_grown hb hw hne, hg⟩
theorem IsS50.kept {w0 W : World} {g : Nat} {f0 : ByteArray} {f1 : Int} {W1 : World} {S : Nat → Prop} (h : IsS50 w0 W g f0 f1) (hk : Kept W W1 S) (hne : ¬ S g) : IsS50 w0 W1 g f0 f1 := by
 obtain ⟨hb, hg⟩ := h
 exact ⟨blk_kept hb hk hne, hg⟩
theorem IsS50.below {w0 W : World} {g : Nat} {f0 : ByteArray} {f1 : Int} {W1 : World} (h : IsS50 w0 W g f0 f1) (hw : Below W.heap.size W W1) : IsS50 w0 W1 g f0 f1 := h.grown (grown_of_below hw none) (by simp)
theorem IsS50.alloc {w0 W : World} {g : Nat} {f0 : ByteArray} {f1 : Int} (h : IsS50 w0 W g f0 f1) (o : Obj) : IsS50 w0 (W.alloc o) g f0 f1 := h.below (below_alloc (Below.refl _ _) o)
theorem IsS50.drewN {w0 W : World} {g : Nat} {f0 : ByteArray} {f1 : Int} (h : IsS50 w0 W g f0 f1) (m : Nat) : IsS50 w0 (W.drewN m) g f0 f1 := h
theorem IsS50.drew {w0 W : World} {g : Nat} {f0 : ByteArray} {f1 : Int} (h : IsS50 w0 W g f0 f1) : IsS50 w0 W.drew g f0 f1 := h
theorem IsS50.apart {w0 W : World} {g : Nat} {f0 : ByteArray} {f1 : Int} {α : Type} {d : Kd α} {e : Nat} {base : Nat} {ok : Nat → Prop} {v : Value} {xs : List α} (h : IsS50 w0 W g f0 f1) (ho : d.R e W base ok v xs) (ht : ∀ q, q ∈ e :: d.E → q ≠ 50) : d.R e W base (fun k => ok k ∧ k ≠ g) v xs := by
 obtain ⟨hb, hg⟩ := h
 exact Kd.R_types ho hb ht
theorem IsS50.own_ne {w0 W : World} {g : Nat} {f0 : ByteArray} {f1 : Int} {α : Type} {d : Kd α} {e : Nat} {base : Nat} {ok : Nat → Prop} {v : Value} {xs : List α} (h : IsS50 w0 W g f0 f1) (ho : d.R e W base ok v xs) (ht : e ≠ 50) : some g ≠ v.ownBlock := by
 obtain ⟨hb, hg⟩ := h
 exact Kd.R_ne ho hb ht
theorem IsS50.lt {w0 W : World} {g : Nat} {f0 : ByteArray} {f1 : Int} (h : IsS50 w0 W g f0 f1) : g < W.heap.size := by
 obtain ⟨hb, hg⟩ := h
 exact blk_lt hb
theorem IsS50.ge {w0 W : World} {g : Nat} {f0 : ByteArray} {f1 : Int} (h : IsS50 w0 W g f0 f1) : w0.heap.size ≤ g := by
 obtain ⟨hb, hg⟩ := h
 exact hg
theorem IsS50.far {w0 W : World} {g : Nat} {f0 : ByteArray} {f1 : Int} {p : Addr} (h : IsS50 w0 W g f0 f1) (hne : g ≠ p.block) (u : Value) : IsS50 w0 (W.setCell p u) g f0 f1 := by
 obtain ⟨hb, hg⟩ := h
 exact ⟨blk_far hb hne u, hg⟩
theorem cellS50_0 {W : World} {g : Nat} {f0 : ByteArray} {f1 : Int} (h : W.heap[g]? = some (.cells #[.string f0, .int .i64 f1] 50 (0, 0))) : W.cell? ⟨g, 0, none⟩ = some (.string f0) := (ax h 0)
theorem IsS50.set_0 {w0 W : World} {g : Nat} {f0 : ByteArray} {f1 : Int} (h : IsS50 w0 W g f0 f1) (x : ByteArray) : IsS50 w0 (W.setCell ⟨g, 0, none⟩ (.string x)) g x f1 := by
 obtain ⟨hb, hg⟩ := h
 exact ⟨by simpa using blk_set hb 0 (.string x), hg⟩
theorem cellS50_1 {W : World} {g : Nat} {f0 : ByteArray} {f1 : Int} (h : W.heap[g]? = some (.cells #[.string f0, .int .i64 f1] 50 (0, 0))) : W.cell? ⟨g, 1, none⟩ = some (.int .i64 f1) := (ax h 1)
theorem IsS50.set_1 {w0 W : World} {g : Nat} {f0 : ByteArray} {f1 : Int} (h : IsS50 w0 W g f0 f1) (x : Int) : IsS50 w0 (W.setCell ⟨g, 1, none⟩ (.int .i64 x)) g f0 x := by
 obtain ⟨hb, hg⟩ := h
 exact ⟨by simpa using blk_set hb 1 (.int .i64 x), hg⟩
theorem IsS50.new (w0 W : World) (f0 : ByteArray) (f1 : Int) (hB : Below w0.heap.size w0 W) : IsS50 w0 (W.alloc (.cells #[.string f0, .int .i64 f1] 50)) W.heap.size f0 f1 := ⟨by simpa using heap_alloc_new W _, hB.size⟩
theorem cx_cellS50 {w0 W : World} {g : Nat} {f0 : ByteArray} {f1 : Int} (h : IsS50 w0 W g f0 f1) : W.cell? ⟨g, 0, none⟩ = some (.string f0) ∧ W.cell? ⟨g, 1, none⟩ = some (.int .i64 f1) ∧ W.frozen? ⟨g, 0, none⟩ = false ∧ W.frozen? ⟨g, 1, none⟩ = false :=
 ⟨cellS50_0 h.1, cellS50_1 h.1, blk_frozen h.1 0, blk_frozen h.1 1⟩
theorem zE {p : Prop} (h : p := by repeat (first | (with_reducible first | exact Aside0.out (by assumption) | apply below_alloc | apply pw_below_drewN | apply below_drew1 | refine below_set ?_ (IsS50.ge (Aside0.out (by assumption))) | refine below_set ?_ (Aside0.out (by assumption))) | exact Aside0.out (by assumption))) : p := h
theorem zI {p : Prop} (h : p := by repeat (first | (with_reducible first | exact Aside0.out (by assumption) | apply IsS50.alloc | apply IsS50.drewN | apply IsS50.drew | apply IsS50.set_0 | apply IsS50.set_1 | refine IsS50.far ?_ (Aside0.out (by assumption)) _) | exact Aside0.out (by assumption))) : p := h
def aE.l0 : Nat → ByteArray → Int → Option (ByteArray × Int)
 | 0, _, _ => none
 | k + 1, cP, cJ => if cJ < (cP.size : Int) then (if 0 ≤ cJ then ((cW.f (bt cP cJ)).bind fun Mc => (if Mc = true then (aE.l0 k cP (wrap64 (cJ + 1))) else (some (cP, cJ)))) else (none)) else (some (cP, cJ))
def aE.f (k : Nat) (s0_0 : ByteArray) (s0_1 : Int) : Option (ByteArray × Int) := aE.l0 k s0_0 s0_1
theorem aE.mono_l : ∀ k, (∀ y0 y1, LeO (aE.l0 k y0 y1) (aE.l0 (k + 1) y0 y1))
 | 0 => fun _ _ r h => by simp [aE.l0] at h
 | k + 1 => by
  have ih0 := aE.mono_l k
  ·intro y0 y1
   unfold aE.l0
   repeat' first
   | (with_reducible exact ih0 _ _)
   | (with_reducible exact LeO.refl _)
   | (with_reducible exact LeO.none _)
   | (with_reducible refine LeO.ite ?_ ?_)
   | (with_reducible refine LeO.bind ?_ (fun _ => ?_))
   | exact ih0 _ _
   | exact LeO.none _
   | refine LeO.ite ?_ ?_
   | refine LeO.bind ?_ (fun _ => ?_)
theorem aE.mono : ∀ a0 a1 k, LeO (aE.f k a0 a1) (aE.f (k + 1) a0 a1) := by
 intro a0 a1 k
 have ih0 := aE.mono_l k
 unfold aE.f
 exact zM
instance aE.mi  {a0 a1 k} : LeI (aE.f k a0 a1) (aE.f (k + 1) a0 a1) := ⟨⟨aE.mono a0 a1 k⟩⟩
theorem aE.calls (k : Nat) (g : Nat) (s0_0 : ByteArray) (s0_1 : Int) (r1 : ByteArray) (r2 : Int) (w0 w : World) (hI : IsS50 w0 w g s0_0 s0_1) (hB : Below w0.heap.size w0 w) (h : aE.f k s0_0 s0_1 = some (r1, r2)) :
 Calls Tryz.prog 19 #[.pointer (some ⟨g, 0, none⟩)] w fun e w' => e = .returned (.tuple #[]) ∧ IsS50 w0 w' g r1 r2 ∧ Below w0.heap.size w0 w' ∧ KeepBut w w' g none := by
 have HI0 := ab hI
 have HK := ab (KeepBut.refl w g none)
 have HL := ab hB.size
 clear hI
 have HW0 := ab hB.size
 have HB := ab hB
 clear hB
 have H : (aE.l0 k s0_0 s0_1) = some (r1, r2) := h
 clear h
 have H' := ab H
 clear H
 go_enter Tryz.func19, Tryz.ntmps19
 go_wp2
 repeat (go_quiet (fail); try go_wp2)
 (try simp only [Act.put, ap, aq, ar])
 go_loopg [] k (fun kq w' => ∃ (bL : Int), Aside0 (aE.l0 kq s0_0 bL = some (r1, r2)) ∧ Aside0 (kq ≤ k) ∧ Aside0 (IsS50 w0 w' g s0_0 bL) ∧ Aside0 (KeepBut w w' g none) ∧ Aside0 (Below w0.heap.size w0 w'))
 case atStart => exact ⟨(s0_1), H', ⟨Nat.le_refl _⟩, ⟨zI⟩, ⟨zK⟩, ⟨zE⟩⟩
 case round =>
  clear H'
  obtain ⟨bL, HA, HK1, HI0, HK, HB⟩ := hrel
  cases gk with
  | zero => exact absurd HA.out (by simp [aE.l0])
  | succ k1 =>
   have H := HA.out
   clear HA
   simp only [aE.l0] at H
   revert H; refine sId1_d0 (fun gS H => ?_) fun gS H => ?_
   ·revert H; refine sNd1 fun dY H => ?_
    revert H; refine bnd ?_; rintro Mc A5 H
    replace H := sB H
    obtain ⟨rfl, H⟩ | ⟨rfl, H⟩ := H
    ·as_aux_lemma =>
      have H' := ab H
      clear H
      obtain ⟨pM, pN, pO, pP⟩ := cx_cellS50 HI0.out
      have p4 := ag (ac Z6 : 0 ≤ (bL : Int))
      have q4 := ag (ac Z6 : bL < (s0_0.size : Int))
      have hx4 := bt_at s0_0 bL
      go_wp2_with (first | (go_at_call 31; (with_reducible refine (cW.calls (bt s0_0 bL) true _ A5.out).mono ?_); rintro e w' ⟨rfl, ⟨nd, rfl⟩⟩; (try first | exact ⟨rfl, _, World.drewN_drewN _ _ _⟩ | exact ⟨rfl, _, Eq.trans (World.drewN_drewN _ _ _) (congrArg (World.drewN _) (Nat.add_assoc _ _ _))⟩)))
      repeat (go_quiet (first | (go_at_call 31; (with_reducible refine (cW.calls (bt s0_0 bL) true _ A5.out).mono ?_); rintro e w' ⟨rfl, ⟨nd, rfl⟩⟩; (try first | exact ⟨rfl, _, World.drewN_drewN _ _ _⟩ | exact ⟨rfl, _, Eq.trans (World.drewN_drewN _ _ _) (congrArg (World.drewN _) (Nat.add_assoc _ _ _))⟩))); try go_wp2_with (first | (go_at_call 31; (with_reducible refine (cW.calls (bt s0_0 bL) true _ A5.out).mono ?_); rintro e w' ⟨rfl, ⟨nd, rfl⟩⟩; (try first | exact ⟨rfl, _, World.drewN_drewN _ _ _⟩ | exact ⟨rfl, _, Eq.trans (World.drewN_drewN _ _ _) (congrArg (World.drewN _) (Nat.add_assoc _ _ _))⟩))))
      go_roundg k1
      case measure => have := HK1.out; omega
      case rel => exact ⟨(wrap64 (bL + 1)), H', ⟨by have := HK1.out; omega⟩, ⟨zI⟩, ⟨zK⟩, ⟨zE⟩⟩
    as_aux_lemma =>
     simp only [am, an] at H
     obtain ⟨rfl, rfl⟩ := H
     obtain ⟨lS, lT, lU, lV⟩ := cx_cellS50 HI0.out
     have p4 := ag (ac Z6 : 0 ≤ (bL : Int))
     have q4 := ag (ac Z6 : bL < (s0_0.size : Int))
     have hx4 := bt_at s0_0 bL
     go_wp2_with (first | (go_at_call 31; (with_reducible refine (cW.calls (bt s0_0 bL) false _ A5.out).mono ?_); rintro e w' ⟨rfl, ⟨nd, rfl⟩⟩; (try first | exact ⟨rfl, _, World.drewN_drewN _ _ _⟩ | exact ⟨rfl, _, Eq.trans (World.drewN_drewN _ _ _) (congrArg (World.drewN _) (Nat.add_assoc _ _ _))⟩)))
     repeat (go_quiet (first | (go_at_call 31; (with_reducible refine (cW.calls (bt s0_0 bL) false _ A5.out).mono ?_); rintro e w' ⟨rfl, ⟨nd, rfl⟩⟩; (try first | exact ⟨rfl, _, World.drewN_drewN _ _ _⟩ | exact ⟨rfl, _, Eq.trans (World.drewN_drewN _ _ _) (congrArg (World.drewN _) (Nat.add_assoc _ _ _))⟩))); try go_wp2_with (first | (go_at_call 31; (with_reducible refine (cW.calls (bt s0_0 bL) false _ A5.out).mono ?_); rintro e w' ⟨rfl, ⟨nd, rfl⟩⟩; (try first | exact ⟨rfl, _, World.drewN_drewN _ _ _⟩ | exact ⟨rfl, _, Eq.trans (World.drewN_drewN _ _ _) (congrArg (World.drewN _) (Nat.add_assoc _ _ _))⟩))))
     first | go_end0 | ((try simp only [Exit.inBlock, Exit.then]); refine bodyPost_ret (results_none rfl _ _ _) rfl ?_)
     exact ⟨Z8, zI, zE, zK⟩
   as_aux_lemma =>
    simp only [am, an] at H
    obtain ⟨rfl, rfl⟩ := H
    obtain ⟨lI, lJ, lK, lL⟩ := cx_cellS50 HI0.out
    go_wp2
    repeat (go_quiet (fail); try go_wp2)
    first | go_end0 | ((try simp only [Exit.inBlock, Exit.then]); refine bodyPost_ret (results_none rfl _ _ _) rfl ?_)
    exact ⟨Z8, zI, zE, zK⟩
def bM.f (s0_0 : ByteArray) (s0_1 : Int) : Option (Int × ByteArray × Int) := if s0_1 < (s0_0.size : Int) then (if 0 ≤ s0_1 then (some (bt s0_0 s0_1, s0_0, s0_1)) else (none)) else (some (0, s0_0, s0_1))
theorem bM.calls (g : Nat) (s0_0 : ByteArray) (s0_1 : Int) (r1 : Int) (r2 : ByteArray) (r3 : Int) (w0 w : World) (hI : IsS50 w0 w g s0_0 s0_1) (hB : Below w0.heap.size w0 w) (h : bM.f s0_0 s0_1 = some (r1, r2, r3)) :
 Calls Tryz.prog 38 #[.pointer (some ⟨g, 0, none⟩)] w fun e w' => e = .returned (.int .u8 r1) ∧ IsS50 w0 w' g r2 r3 ∧ Below w0.heap.size w0 w' ∧ KeepBut w w' g none := by
 have HI0 := ab hI
 have HK := ab (KeepBut.refl w g none)
 have HL := ab hB.size
 clear hI
 have HW0 := ab hB.size
 have HB := ab hB
 clear hB
 have H : (if s0_1 < (s0_0.size : Int) then (if 0 ≤ s0_1 then (some (bt s0_0 s0_1, s0_0, s0_1)) else (none)) else (some (0, s0_0, s0_1))) = some (r1, r2, r3) := h
 clear h
 revert H; refine sId1_d0 (fun gS H => ?_) fun gS H => ?_
 ·revert H; refine sNd1 fun dY H => ?_
  as_aux_lemma =>
   simp only [am, an] at H
   obtain ⟨rfl, rfl, rfl⟩ := H
   obtain ⟨xY, xZ, yA, yB⟩ := cx_cellS50 HI0.out
   have p4 := ag (ac Z6 : 0 ≤ (s0_1 : Int))
   have q4 := ag (ac Z6 : s0_1 < (s0_0.size : Int))
   have hx4 := bt_at s0_0 s0_1
   go_enter Tryz.func38, Tryz.ntmps38
   go_wp2
   repeat (go_quiet (fail); try go_wp2)
   go_ret
   exact ⟨Z8, zI, zE, zK⟩
 as_aux_lemma =>
  simp only [am, an] at H
  obtain ⟨rfl, rfl, rfl⟩ := H
  obtain ⟨wK, wL, wM, wN⟩ := cx_cellS50 HI0.out
  go_enter Tryz.func38, Tryz.ntmps38
  go_wp2
  repeat (go_quiet (fail); try go_wp2)
  go_ret
  exact ⟨Z8, zI, zE, zK⟩
mutual
def aG.j0 : Nat → Int → Bool → ByteArray → Int → Option (Bool × ByteArray × Int)
 | 0, _, _, _, _ => none
 | k + 1, x7, x8, cP, cJ => if x8 = true then (some (true, cP, wrap64 (cJ + 1))) else (if x7 = 117 then (aG.l0 k 0 cP (wrap64 (cJ + 1))) else (some (false, cP, cJ)))
def aG.l0 : Nat → Int → ByteArray → Int → Option (Bool × ByteArray × Int)
 | 0, _, _, _ => none
 | k + 1, x3, cP, cJ => if x3 < 4 then ((bM.f cP cJ).bind fun bt119 => ((aZ.f k bt119.1).bind fun bt122 => (if bt122.2 = true then (aG.l0 k (wrap64 (x3 + 1)) bt119.2.1 (wrap64 (bt119.2.2 + 1))) else (some (false, bt119.2.1, bt119.2.2))))) else (some (true, cP, cJ))
end
def aG.f (k : Nat) (s0_0 : ByteArray) (s0_1 : Int) : Option (Bool × ByteArray × Int) := (bM.f s0_0 s0_1).bind fun bt116 => (if bt116.1 = 34 then (aG.j0 k bt116.1 (bt116.1 == 34) bt116.2.1 bt116.2.2) else (if bt116.1 = 92 then (aG.j0 k bt116.1 (bt116.1 == 92) bt116.2.1 bt116.2.2) else (if bt116.1 = 47 then (aG.j0 k bt116.1 (bt116.1 == 47) bt116.2.1 bt116.2.2) else (if bt116.1 = 98 then (aG.j0 k bt116.1 (bt116.1 == 98) bt116.2.1 bt116.2.2) else (if bt116.1 = 102 then (aG.j0 k bt116.1 (bt116.1 == 102) bt116.2.1 bt116.2.2) else (if bt116.1 = 110 then (aG.j0 k bt116.1 (bt116.1 == 110) bt116.2.1 bt116.2.2) else (if bt116.1 = 114 then (aG.j0 k bt116.1 (bt116.1 == 114) bt116.2.1 bt116.2.2) else (aG.j0 k bt116.1 (bt116.1 == 116) bt116.2.1 bt116.2.2))))))))
theorem aG.mono_l : ∀ k, (∀ y0 y1 y2 y3, LeO (aG.j0 k y0 y1 y2 y3) (aG.j0 (k + 1) y0 y1 y2 y3)) ∧ (∀ y0 y1 y2, LeO (aG.l0 k y0 y1 y2) (aG.l0 (k + 1) y0 y1 y2))
 | 0 => ⟨fun _ _ _ _ r h => by simp [aG.j0] at h, fun _ _ _ r h => by simp [aG.l0] at h⟩
 | k + 1 => by
  obtain ⟨ih0, ih1⟩ := aG.mono_l k
  refine ⟨?_, ?_⟩
  ·intro y0 y1 y2 y3
   unfold aG.j0
   repeat' first
   | (with_reducible exact ih0 _ _ _ _)
   | (with_reducible exact ih1 _ _ _)
   | (with_reducible exact aZ.mono _ _)
   | (with_reducible exact LeO.refl _)
   | (with_reducible exact LeO.none _)
   | (with_reducible refine LeO.ite ?_ ?_)
   | (with_reducible refine LeO.bind ?_ (fun _ => ?_))
   | exact ih0 _ _ _ _
   | exact ih1 _ _ _
   | exact aZ.mono _ _
   | exact LeO.none _
   | refine LeO.ite ?_ ?_
   | refine LeO.bind ?_ (fun _ => ?_)
  ·intro y0 y1 y2
   unfold aG.l0
   repeat' first
   | (with_reducible exact ih0 _ _ _ _)
   | (with_reducible exact ih1 _ _ _)
   | (with_reducible exact aZ.mono _ _)
   | (with_reducible exact LeO.refl _)
   | (with_reducible exact LeO.none _)
   | (with_reducible refine LeO.ite ?_ ?_)
   | (with_reducible refine LeO.bind ?_ (fun _ => ?_))
   | exact ih0 _ _ _ _
   | exact ih1 _ _ _
   | exact aZ.mono _ _
   | exact LeO.none _
   | refine LeO.ite ?_ ?_
   | refine LeO.bind ?_ (fun _ => ?_)
theorem aG.mono : ∀ a0 a1 k, LeO (aG.f k a0 a1) (aG.f (k + 1) a0 a1) := by
 intro a0 a1 k
 obtain ⟨ih0, ih1⟩ := aG.mono_l k
 unfold aG.f
 exact zM
theorem aG.calls (k : Nat) (g : Nat) (s0_0 : ByteArray) (s0_1 : Int) (r1 : Bool) (r2 : ByteArray) (r3 : Int) (w0 w : World) (hI : IsS50 w0 w g s0_0 s0_1) (hB : Below w0.heap.size w0 w) (h : aG.f k s0_0 s0_1 = some (r1, r2, r3)) :
 Calls Tryz.prog 57 #[.pointer (some ⟨g, 0, none⟩)] w fun e w' => e = .returned (.bool r1) ∧ IsS50 w0 w' g r2 r3 ∧ Below w0.heap.size w0 w' ∧ KeepBut w w' g none := by
 have HI0 := ab hI
 have HK := ab (KeepBut.refl w g none)
 have HL := ab hB.size
 clear hI
 have HW0 := ab hB.size
 have HB := ab hB
 clear hB
 have H : ((bM.f s0_0 s0_1).bind fun bt116 => (if bt116.1 = 34 then (aG.j0 k bt116.1 (bt116.1 == 34) bt116.2.1 bt116.2.2) else (if bt116.1 = 92 then (aG.j0 k bt116.1 (bt116.1 == 92) bt116.2.1 bt116.2.2) else (if bt116.1 = 47 then (aG.j0 k bt116.1 (bt116.1 == 47) bt116.2.1 bt116.2.2) else (if bt116.1 = 98 then (aG.j0 k bt116.1 (bt116.1 == 98) bt116.2.1 bt116.2.2) else (if bt116.1 = 102 then (aG.j0 k bt116.1 (bt116.1 == 102) bt116.2.1 bt116.2.2) else (if bt116.1 = 110 then (aG.j0 k bt116.1 (bt116.1 == 110) bt116.2.1 bt116.2.2) else (if bt116.1 = 114 then (aG.j0 k bt116.1 (bt116.1 == 114) bt116.2.1 bt116.2.2) else (aG.j0 k bt116.1 (bt116.1 == 116) bt116.2.1 bt116.2.2))))))))) = some (r1, r2, r3) := h
 clear h
 revert H; refine bnd ?_; rintro ⟨nY, Bq, Br⟩ A2 H; try dsimp only at H
 have mW := ab H
 clear H
 go_enter Tryz.func57, Tryz.ntmps57
 go_upto_if 8 with (first | (refine gl 38 (some 7) Tryz.func38 #[.pointer (some ⟨g, 0, none⟩)] ?_; (with_reducible refine (bM.calls g s0_0 s0_1 nY Bq Br w0 _ zI zE A2.out).mono ?_); rintro e w4 ⟨rfl, hi, hb, hk⟩; refine ⟨_, rfl, ?_⟩; replace HK := ab (KeepBut.trans (w := w) zK hk (.inl rfl)); replace HB := ab (hb); replace HI0 := ab (hi); clear hb hk hi))
 (try simp only [Act.put, ap, aq, ar])
 go_cut [8] (fun v8 wc => ∃ (kq : Nat) (Gk : Bool), v8 = .bool Gk ∧ Aside0 (aG.j0 kq nY Gk Bq Br = some (r1, r2, r3)) ∧ Aside0 (kq ≤ k) ∧ Aside0 (IsS50 w0 wc g Bq Br) ∧ Aside0 (KeepBut w wc g none) ∧ Aside0 (Below w0.heap.size w0 wc))
 case first =>
  have H := mW.out
  clear mW
  revert H; refine sIe1n0_e0n1 (fun iO qQ H => ?_) fun iO qQ H => ?_
  ·(first | rw [iO] | (simp only [i64_w, i32_w]; rw [iO]) | skip)
   as_aux_lemma =>
    have H' := ab H
    clear H
    go_wp2
    go_meet
    case rel => exact ⟨_, ((nY == 34)), Z7, H', ⟨Z26⟩, ⟨zI⟩, ⟨zK⟩, ⟨zE⟩⟩
  (first | rw [iO] | (simp only [i64_w, i32_w]; rw [iO]) | skip)
  revert H; refine sIe1n0_e0n1 (fun eI mL H => ?_) fun eI mL H => ?_
  ·as_aux_lemma =>
    have H' := ab H
    clear H
    go_wp2
    go_meet
    case rel => exact ⟨_, ((nY == 92)), Z7, H', ⟨Z26⟩, ⟨zI⟩, ⟨zK⟩, ⟨zE⟩⟩
  revert H; refine sIe1n0_e0n1 (fun iH kM H => ?_) fun iH kM H => ?_
  ·as_aux_lemma =>
    have H' := ab H
    clear H
    go_wp2
    go_meet
    case rel => exact ⟨_, ((nY == 47)), Z7, H', ⟨Z26⟩, ⟨zI⟩, ⟨zK⟩, ⟨zE⟩⟩
  revert H; refine sIe1n0_e0n1 (fun iL kT H => ?_) fun iL kT H => ?_
  ·as_aux_lemma =>
    have H' := ab H
    clear H
    go_wp2
    go_meet
    case rel => exact ⟨_, ((nY == 98)), Z7, H', ⟨Z26⟩, ⟨zI⟩, ⟨zK⟩, ⟨zE⟩⟩
  revert H; refine sIe1n0_e0n1 (fun mJ Aa H => ?_) fun mJ Aa H => ?_
  ·as_aux_lemma =>
    have H' := ab H
    clear H
    go_wp2
    go_meet
    case rel => exact ⟨_, ((nY == 102)), Z7, H', ⟨Z26⟩, ⟨zI⟩, ⟨zK⟩, ⟨zE⟩⟩
  revert H; refine sIe1n0_e0n1 (fun kC kV H => ?_) fun kC kV H => ?_
  ·as_aux_lemma =>
    have H' := ab H
    clear H
    go_wp2
    go_meet
    case rel => exact ⟨_, ((nY == 110)), Z7, H', ⟨Z26⟩, ⟨zI⟩, ⟨zK⟩, ⟨zE⟩⟩
  revert H; refine sIe1n0_e0n1 (fun mB qK H => ?_) fun mB qK H => ?_
  ·as_aux_lemma =>
    have H' := ab H
    clear H
    go_wp2
    go_meet
    case rel => exact ⟨_, ((nY == 114)), Z7, H', ⟨Z26⟩, ⟨zI⟩, ⟨zK⟩, ⟨zE⟩⟩
  as_aux_lemma =>
   have H' := ab H
   clear H
   go_wp2
   go_meet
   case rel => exact ⟨_, ((nY == 116)), Z7, H', ⟨Z26⟩, ⟨zI⟩, ⟨zK⟩, ⟨zE⟩⟩
 case rest =>
  clear mW
  obtain ⟨kq, Gk, rfl, HA, HJ2, HI0, HK, HB⟩ := hcut
  cases kq with
  | zero => exact absurd HA.out (by simp [aG.j0])
  | succ kj2 =>
   have H := HA.out
   clear HA
   simp only [aG.j0] at H
   replace H := sB H
   obtain ⟨rfl, H⟩ | ⟨rfl, H⟩ := H
   ·as_aux_lemma =>
     simp only [am, an] at H
     obtain ⟨rfl, rfl, rfl⟩ := H
     obtain ⟨oZ, pA, pB, pC⟩ := cx_cellS50 HI0.out
     go_wp2
     go_ret
     exact ⟨Z8, zI, zE, zK⟩
   revert H; refine sIe1n0_e0n1 (fun fY kD H => ?_) fun fY kD H => ?_
   ·have H' := ab H
    clear H
    obtain ⟨pQ, pR, pS, pT⟩ := cx_cellS50 HI0.out
    go_wp2
    (try simp only [Act.put, ap, aq, ar])
    go_loopg [3] kj2 (fun kq v3 w' => ∃ (Bs : Int) (fT : ByteArray) (fU : Int), v3 = .int .i64 Bs ∧ Aside0 (aG.l0 kq Bs fT fU = some (r1, r2, r3)) ∧ Aside0 (kq ≤ kj2) ∧ Aside0 (IsS50 w0 w' g fT fU) ∧ Aside0 (KeepBut w w' g none) ∧ Aside0 (Below w0.heap.size w0 w'))
    case atStart => exact ⟨(0), (Bq), (wrap64 (Br + 1)), Z7, H', ⟨Nat.le_refl _⟩, ⟨zI⟩, ⟨zK⟩, ⟨zE⟩⟩
    case round =>
     clear H'
     try clear fY kD pQ pR pS pT
     obtain ⟨Bs, fT, fU, rfl, HA, HK2, HI0, HK, HB⟩ := hrel
     cases gk with
     | zero => exact absurd HA.out (by simp [aG.l0])
     | succ k2 =>
      have H := HA.out
      clear HA
      simp only [aG.l0] at H
      revert H; refine sId1_d0 (fun iP H => ?_) fun iP H => ?_
      ·revert H; refine bnd ?_; rintro ⟨vR, Gl, Gm⟩ A17 H; try dsimp only at H
       revert H; refine bnd ?_; rintro ⟨Md, aqV⟩ Lg H; try dsimp only at H
       replace H := sB H
       obtain ⟨rfl, H⟩ | ⟨rfl, H⟩ := H
       ·as_aux_lemma =>
         have H' := ab H
         clear H
         go_wp2_with (first | (refine gl 38 (some 39) Tryz.func38 #[.pointer (some ⟨g, 0, none⟩)] ?_; (with_reducible refine (bM.calls g fT fU vR Gl Gm w0 _ zI zE A17.out).mono ?_); rintro e w20 ⟨rfl, hi, hb, hk⟩; refine ⟨_, rfl, ?_⟩; replace HK := ab (KeepBut.trans (w := w) zK hk (.inl rfl)); replace HB := ab (hb); replace HI0 := ab (hi); clear hb hk hi) | (refine gl 55 (some 40) Tryz.func55 #[.int .u8 vR] ?_; (with_reducible refine (aZ.calls k2 vR Md true _ Lg.out).mono ?_); rintro e w' ⟨rfl, ⟨nd, rfl⟩⟩; refine ⟨_, rfl, ?_⟩; (try (rw [drewN_self w20]; generalize hq_ : World.drewN w20 _ = w20; replace HK : Aside0 (KeepBut w w20 g none) := ⟨by rw [← hq_]; exact zK⟩; replace HB : Aside0 (Below w0.heap.size w0 w20) := ⟨by rw [← hq_]; exact zE⟩; replace HI0 := dqI hq_ HI0; clear hq_)); obtain ⟨Bt, Bu, Bv, Bw⟩ := cx_cellS50 HI0.out))
         go_roundg k2
         case measure => have := HJ2.out; have := HK2.out; omega
         case rel => exact ⟨(wrap64 (Bs + 1)), (Gl), (wrap64 (Gm + 1)), Z7, H', ⟨by have := HJ2.out; have := HK2.out; omega⟩, ⟨zI⟩, ⟨zK⟩, ⟨zE⟩⟩
       as_aux_lemma =>
        simp only [am, an] at H
        obtain ⟨rfl, rfl, rfl⟩ := H
        go_wp2_with (first | (refine gl 38 (some 39) Tryz.func38 #[.pointer (some ⟨g, 0, none⟩)] ?_; (with_reducible refine (bM.calls g fT fU vR Gl Gm w0 _ zI zE A17.out).mono ?_); rintro e w22 ⟨rfl, hi, hb, hk⟩; refine ⟨_, rfl, ?_⟩; replace HK := ab (KeepBut.trans (w := w) zK hk (.inl rfl)); replace HB := ab (hb); replace HI0 := ab (hi); clear hb hk hi) | (refine gl 55 (some 40) Tryz.func55 #[.int .u8 vR] ?_; (with_reducible refine (aZ.calls k2 vR Md false _ Lg.out).mono ?_); rintro e w' ⟨rfl, ⟨nd, rfl⟩⟩; refine ⟨_, rfl, ?_⟩))
        go_ret
        exact ⟨Z8, zI, zE, zK⟩
      as_aux_lemma =>
       simp only [am, an] at H
       obtain ⟨rfl, rfl, rfl⟩ := H
       go_wp2
       go_ret
       exact ⟨Z8, zI, zE, zK⟩
   as_aux_lemma =>
    simp only [am, an] at H
    obtain ⟨rfl, rfl, rfl⟩ := H
    go_wp2
    go_ret
    exact ⟨Z8, zI, zE, zK⟩
def aV.l0 : Nat → ByteArray → Int → Option (Bool × ByteArray × Int)
 | 0, _, _ => none
 | k + 1, cP, cJ => if cJ < (cP.size : Int) then (if 0 ≤ cJ then (if (bt cP cJ) = 34 then (some (true, cP, wrap64 (cJ + 1))) else (if (bt cP cJ) < 32 then (some (false, cP, wrap64 (cJ + 1))) else (if (bt cP cJ) = 92 then ((aG.f k cP (wrap64 (cJ + 1))).bind fun bt124 => (if bt124.1 = true then (aV.l0 k bt124.2.1 bt124.2.2) else (some (false, bt124.2.1, bt124.2.2)))) else (aV.l0 k cP (wrap64 (cJ + 1)))))) else (none)) else (some (false, cP, cJ))
def aV.f (k : Nat) (s0_0 : ByteArray) (s0_1 : Int) : Option (Bool × ByteArray × Int) := aV.l0 k s0_0 (wrap64 (s0_1 + 1))
theorem aV.mono_l : ∀ k, (∀ y0 y1, LeO (aV.l0 k y0 y1) (aV.l0 (k + 1) y0 y1))
 | 0 => fun _ _ r h => by simp [aV.l0] at h
 | k + 1 => by
  have ih0 := aV.mono_l k
  ·intro y0 y1
   unfold aV.l0
   repeat' first
   | (with_reducible exact ih0 _ _)
   | (with_reducible exact aG.mono _ _ _)
   | (with_reducible exact LeO.refl _)
   | (with_reducible exact LeO.none _)
   | (with_reducible refine LeO.ite ?_ ?_)
   | (with_reducible refine LeO.bind ?_ (fun _ => ?_))
   | exact ih0 _ _
   | exact aG.mono _ _ _
   | exact LeO.none _
   | refine LeO.ite ?_ ?_
   | refine LeO.bind ?_ (fun _ => ?_)
theorem aV.mono : ∀ a0 a1 k, LeO (aV.f k a0 a1) (aV.f (k + 1) a0 a1) := by
 intro a0 a1 k
 have ih0 := aV.mono_l k
 unfold aV.f
 exact zM
instance aV.mi  {a0 a1 k} : LeI (aV.f k a0 a1) (aV.f (k + 1) a0 a1) := ⟨⟨aV.mono a0 a1 k⟩⟩
theorem aV.calls (k : Nat) (g : Nat) (s0_0 : ByteArray) (s0_1 : Int) (r1 : Bool) (r2 : ByteArray) (r3 : Int) (w0 w : World) (hI : IsS50 w0 w g s0_0 s0_1) (hB : Below w0.heap.size w0 w) (h : aV.f k s0_0 s0_1 = some (r1, r2, r3)) :
 Calls Tryz.prog 41 #[.pointer (some ⟨g, 0, none⟩)] w fun e w' => e = .returned (.bool r1) ∧ IsS50 w0 w' g r2 r3 ∧ Below w0.heap.size w0 w' ∧ KeepBut w w' g none := by
 have HI0 := ab hI
 have HK := ab (KeepBut.refl w g none)
 have HL := ab hB.size
 clear hI
 have HW0 := ab hB.size
 have HB := ab hB
 clear hB
 have H : (aV.l0 k s0_0 (wrap64 (s0_1 + 1))) = some (r1, r2, r3) := h
 clear h
 have H' := ab H
 clear H
 obtain ⟨Gn, Gp, Gq, Gr⟩ := cx_cellS50 HI0.out
 go_enter Tryz.func41, Tryz.ntmps41
 go_wp2
 repeat (go_quiet (fail); try go_wp2)
 (try simp only [Act.put, ap, aq, ar])
 go_loopg [] k (fun kq w' => ∃ (bW : ByteArray) (bL : Int), Aside0 (aV.l0 kq bW bL = some (r1, r2, r3)) ∧ Aside0 (kq ≤ k) ∧ Aside0 (IsS50 w0 w' g bW bL) ∧ Aside0 (KeepBut w w' g none) ∧ Aside0 (Below w0.heap.size w0 w'))
 case atStart => exact ⟨(s0_0), (wrap64 (s0_1 + 1)), H', ⟨Nat.le_refl _⟩, ⟨zI⟩, ⟨zK⟩, ⟨zE⟩⟩
 case round =>
  clear H'
  try clear Gn Gp Gq Gr
  obtain ⟨bW, bL, HA, HK1, HI0, HK, HB⟩ := hrel
  cases gk with
  | zero => exact absurd HA.out (by simp [aV.l0])
  | succ k1 =>
   have H := HA.out
   clear HA
   simp only [aV.l0] at H
   revert H; refine sId1_d0 (fun dY H => ?_) fun dY H => ?_
   ·revert H; refine sNd1 fun gY H => ?_
    revert H; refine sIe1n0_e0n1 (fun eI mL H => ?_) fun eI mL H => ?_
    ·as_aux_lemma =>
      simp only [am, an] at H
      obtain ⟨rfl, rfl, rfl⟩ := H
      obtain ⟨pM, pN, pO, pP⟩ := cx_cellS50 HI0.out
      have p5 := ag (ac Z6 : 0 ≤ (bL : Int))
      have q5 := ag (ac Z6 : bL < (bW.size : Int))
      have hx5 := bt_at bW bL
      go_wp2
      repeat (go_quiet (fail); try go_wp2)
      go_ret
      exact ⟨Z8, zI, zE, zK⟩
    revert H; refine sId1_d0 (fun iL H => ?_) fun iL H => ?_
    ·as_aux_lemma =>
      simp only [am, an] at H
      obtain ⟨rfl, rfl, rfl⟩ := H
      obtain ⟨lI, lJ, lK, lL⟩ := cx_cellS50 HI0.out
      have p5 := ag (ac Z6 : 0 ≤ (bL : Int))
      have q5 := ag (ac Z6 : bL < (bW.size : Int))
      have hx5 := bt_at bW bL
      go_wp2
      repeat (go_quiet (fail); try go_wp2)
      go_ret
      exact ⟨Z8, zI, zE, zK⟩
    revert H; refine sIe1n0_e0n1 (fun kC kV H => ?_) fun kC kV H => ?_
    ·revert H; refine bnd ?_; rintro ⟨aqW, rK, rL⟩ lZ H; try dsimp only at H
     replace H := sB H
     obtain ⟨rfl, H⟩ | ⟨rfl, H⟩ := H
     ·as_aux_lemma =>
       have H' := ab H
       clear H
       obtain ⟨oZ, pA, pB, pC⟩ := cx_cellS50 HI0.out
       have p5 := ag (ac Z6 : 0 ≤ (bL : Int))
       have q5 := ag (ac Z6 : bL < (bW.size : Int))
       have hx5 := bt_at bW bL
       go_wp2_with (first | (go_at_call 57; (with_reducible refine (aG.calls k1 g bW (wrap64 (bL + 1)) true rK rL w0 _ zI zE lZ.out).mono ?_); rintro e w14 ⟨rfl, hi, hb, hk⟩; replace HK := ab (KeepBut.trans (w := w) zK hk (.inl rfl)); replace HB := ab (hb); replace HI0 := ab (hi); clear hb hk hi))
       repeat (go_quiet (first | (go_at_call 57; (with_reducible refine (aG.calls k1 g bW (wrap64 (bL + 1)) true rK rL w0 _ zI zE lZ.out).mono ?_); rintro e w14 ⟨rfl, hi, hb, hk⟩; replace HK := ab (KeepBut.trans (w := w) zK hk (.inl rfl)); replace HB := ab (hb); replace HI0 := ab (hi); clear hb hk hi)); try go_wp2_with (first | (go_at_call 57; (with_reducible refine (aG.calls k1 g bW (wrap64 (bL + 1)) true rK rL w0 _ zI zE lZ.out).mono ?_); rintro e w14 ⟨rfl, hi, hb, hk⟩; replace HK := ab (KeepBut.trans (w := w) zK hk (.inl rfl)); replace HB := ab (hb); replace HI0 := ab (hi); clear hb hk hi)))
       go_roundg k1
       case measure => have := HK1.out; omega
       case rel => exact ⟨(rK), (rL), H', ⟨by have := HK1.out; omega⟩, ⟨zI⟩, ⟨zK⟩, ⟨zE⟩⟩
     as_aux_lemma =>
      simp only [am, an] at H
      obtain ⟨rfl, rfl, rfl⟩ := H
      obtain ⟨pQ, pR, pS, pT⟩ := cx_cellS50 HI0.out
      have p5 := ag (ac Z6 : 0 ≤ (bL : Int))
      have q5 := ag (ac Z6 : bL < (bW.size : Int))
      have hx5 := bt_at bW bL
      go_wp2_with (first | (go_at_call 57; (with_reducible refine (aG.calls k1 g bW (wrap64 (bL + 1)) false rK rL w0 _ zI zE lZ.out).mono ?_); rintro e w16 ⟨rfl, hi, hb, hk⟩; replace HK := ab (KeepBut.trans (w := w) zK hk (.inl rfl)); replace HB := ab (hb); replace HI0 := ab (hi); clear hb hk hi))
      repeat (go_quiet (first | (go_at_call 57; (with_reducible refine (aG.calls k1 g bW (wrap64 (bL + 1)) false rK rL w0 _ zI zE lZ.out).mono ?_); rintro e w16 ⟨rfl, hi, hb, hk⟩; replace HK := ab (KeepBut.trans (w := w) zK hk (.inl rfl)); replace HB := ab (hb); replace HI0 := ab (hi); clear hb hk hi)); try go_wp2_with (first | (go_at_call 57; (with_reducible refine (aG.calls k1 g bW (wrap64 (bL + 1)) false rK rL w0 _ zI zE lZ.out).mono ?_); rintro e w16 ⟨rfl, hi, hb, hk⟩; replace HK := ab (KeepBut.trans (w := w) zK hk (.inl rfl)); replace HB := ab (hb); replace HI0 := ab (hi); clear hb hk hi)))
      go_ret
      exact ⟨Z8, zI, zE, zK⟩
    as_aux_lemma =>
     have H' := ab H
     clear H
     obtain ⟨tP, tQ, tR, tS⟩ := cx_cellS50 HI0.out
     have p5 := ag (ac Z6 : 0 ≤ (bL : Int))
     have q5 := ag (ac Z6 : bL < (bW.size : Int))
     have hx5 := bt_at bW bL
     go_wp2
     repeat (go_quiet (fail); try go_wp2)
     go_roundg k1
     case measure => have := HK1.out; omega
     case rel => exact ⟨(bW), (wrap64 (bL + 1)), H', ⟨by have := HK1.out; omega⟩, ⟨zI⟩, ⟨zK⟩, ⟨zE⟩⟩
   as_aux_lemma =>
    simp only [am, an] at H
    obtain ⟨rfl, rfl, rfl⟩ := H
    obtain ⟨Bx, Bz, Ca, Cb⟩ := cx_cellS50 HI0.out
    go_wp2
    repeat (go_quiet (fail); try go_wp2)
    go_ret
    exact ⟨Z8, zI, zE, zK⟩
end
section
set_option maxHeartbeats 8000000
set_option maxRecDepth 100000
open Go.RowKit Go.PW Go.PL Go.PM
attribute [local go_sem] max2_int min2_int max_two min_two max_three min_three max_four min_four
set_option linter.unusedVariables false
set_option linter.unusedSimpArgs false
def aW.f (s0_0 : ByteArray) (s0_1 : Int) (a1 : Int) : Option (Bool × ByteArray × Int) := if s0_1 < (s0_0.size : Int) then (if 0 ≤ s0_1 then (if (bt s0_0 s0_1) = a1 then (some (true, s0_0, wrap64 (s0_1 + 1))) else (some (false, s0_0, s0_1))) else (none)) else (some (false, s0_0, s0_1))
theorem aW.calls (g : Nat) (s0_0 : ByteArray) (s0_1 : Int) (a1 : Int) (r1 : Bool) (r2 : ByteArray) (r3 : Int) (w0 w : World) (hI : IsS50 w0 w g s0_0 s0_1) (hB : Below w0.heap.size w0 w) (h : aW.f s0_0 s0_1 a1 = some (r1, r2, r3)) :
 Calls Tryz.prog 56 #[.pointer (some ⟨g, 0, none⟩), .int .u8 a1] w fun e w' => e = .returned (.bool r1) ∧ IsS50 w0 w' g r2 r3 ∧ Below w0.heap.size w0 w' ∧ KeepBut w w' g none := by
 have HI0 := ab hI
 have HK := ab (KeepBut.refl w g none)
 have HL := ab hB.size
 clear hI
 have HW0 := ab hB.size
 have HB := ab hB
 clear hB
 have H : (if s0_1 < (s0_0.size : Int) then (if 0 ≤ s0_1 then (if (bt s0_0 s0_1) = a1 then (some (true, s0_0, wrap64 (s0_1 + 1))) else (some (false, s0_0, s0_1))) else (none)) else (some (false, s0_0, s0_1))) = some (r1, r2, r3) := h
 clear h
 revert H; refine sId1_d0 (fun dY H => ?_) fun dY H => ?_
 ·revert H; refine sNd1 fun gY H => ?_
  revert H; refine sIe1n0_e0n1 (fun eI mL H => ?_) fun eI mL H => ?_
  ·as_aux_lemma =>
    simp only [am, an] at H
    obtain ⟨rfl, rfl, rfl⟩ := H
    obtain ⟨pM, pN, pO, pP⟩ := cx_cellS50 HI0.out
    have p5 := ag (ac Z6 : 0 ≤ (s0_1 : Int))
    have q5 := ag (ac Z6 : s0_1 < (s0_0.size : Int))
    have hx5 := bt_at s0_0 s0_1
    go_enter Tryz.func56, Tryz.ntmps56
    go_wp2
    repeat (go_quiet (fail); try go_wp2)
    go_ret
    exact ⟨Z8, zI, zE, zK⟩
  as_aux_lemma =>
   simp only [am, an] at H
   obtain ⟨rfl, rfl, rfl⟩ := H
   obtain ⟨lS, lT, lU, lV⟩ := cx_cellS50 HI0.out
   have p5 := ag (ac Z6 : 0 ≤ (s0_1 : Int))
   have q5 := ag (ac Z6 : s0_1 < (s0_0.size : Int))
   have hx5 := bt_at s0_0 s0_1
   go_enter Tryz.func56, Tryz.ntmps56
   go_wp2
   repeat (go_quiet (fail); try go_wp2)
   go_ret
   exact ⟨Z8, zI, zE, zK⟩
 as_aux_lemma =>
  simp only [am, an] at H
  obtain ⟨rfl, rfl, rfl⟩ := H
  obtain ⟨lI, lJ, lK, lL⟩ := cx_cellS50 HI0.out
  go_enter Tryz.func56, Tryz.ntmps56
  go_wp2
  repeat (go_quiet (fail); try go_wp2)
  go_ret
  exact ⟨Z8, zI, zE, zK⟩
def aM.l0 : Nat → Int → Int → ByteArray → Int → Option (Bool × ByteArray × Int)
 | 0, _, _, _, _ => none
 | k + 1, x3, x4, cP, cJ => if 48 ≤ x4 then (if x4 ≤ 57 then ((bM.f cP (wrap64 (cJ + 1))).bind fun bt208 => (aM.l0 k x3 bt208.1 bt208.2.1 bt208.2.2)) else (some (decide (cJ > x3), cP, cJ))) else (some (decide (cJ > x3), cP, cJ))
def aM.f (k : Nat) (s0_0 : ByteArray) (s0_1 : Int) : Option (Bool × ByteArray × Int) := (bM.f s0_0 s0_1).bind fun bt205 => (aM.l0 k s0_1 bt205.1 bt205.2.1 bt205.2.2)
theorem aM.mono_l : ∀ k, (∀ y0 y1 y2 y3, LeO (aM.l0 k y0 y1 y2 y3) (aM.l0 (k + 1) y0 y1 y2 y3))
 | 0 => fun _ _ _ _ r h => by simp [aM.l0] at h
 | k + 1 => by
  have ih0 := aM.mono_l k
  ·intro y0 y1 y2 y3
   unfold aM.l0
   repeat' first
   | (with_reducible exact ih0 _ _ _ _)
   | (with_reducible exact LeO.refl _)
   | (with_reducible exact LeO.none _)
   | (with_reducible refine LeO.ite ?_ ?_)
   | (with_reducible refine LeO.bind ?_ (fun _ => ?_))
   | exact ih0 _ _ _ _
   | exact LeO.none _
   | refine LeO.ite ?_ ?_
   | refine LeO.bind ?_ (fun _ => ?_)
theorem aM.mono : ∀ a0 a1 k, LeO (aM.f k a0 a1) (aM.f (k + 1) a0 a1) := by
 intro a0 a1 k
 have ih0 := aM.mono_l k
 unfold aM.f
 exact zM
instance aM.mi  {a0 a1 k} : LeI (aM.f k a0 a1) (aM.f (k + 1) a0 a1) := ⟨⟨aM.mono a0 a1 k⟩⟩
theorem aM.calls (k : Nat) (g : Nat) (s0_0 : ByteArray) (s0_1 : Int) (r1 : Bool) (r2 : ByteArray) (r3 : Int) (w0 w : World) (hI : IsS50 w0 w g s0_0 s0_1) (hB : Below w0.heap.size w0 w) (h : aM.f k s0_0 s0_1 = some (r1, r2, r3)) :
 Calls Tryz.prog 58 #[.pointer (some ⟨g, 0, none⟩)] w fun e w' => e = .returned (.bool r1) ∧ IsS50 w0 w' g r2 r3 ∧ Below w0.heap.size w0 w' ∧ KeepBut w w' g none := by
 have HI0 := ab hI
 have HK := ab (KeepBut.refl w g none)
 have HL := ab hB.size
 clear hI
 have HW0 := ab hB.size
 have HB := ab hB
 clear hB
 have H : ((bM.f s0_0 s0_1).bind fun bt205 => (aM.l0 k s0_1 bt205.1 bt205.2.1 bt205.2.2)) = some (r1, r2, r3) := h
 clear h
 revert H; refine bnd ?_; rintro ⟨Me, Mf, Mg⟩ A2 H; try dsimp only at H
 have H' := ab H
 clear H
 obtain ⟨Gs, Gt, Gu, Gv⟩ := cx_cellS50 HI0.out
 go_enter Tryz.func58, Tryz.ntmps58
 go_wp2_with (first | (refine gl 38 (some 10) Tryz.func38 #[.pointer (some ⟨g, 0, none⟩)] ?_; (with_reducible refine (bM.calls g s0_0 s0_1 Me Mf Mg w0 _ zI zE A2.out).mono ?_); rintro e w4 ⟨rfl, hi, hb, hk⟩; refine ⟨_, rfl, ?_⟩; replace HK := ab (KeepBut.trans (w := w) zK hk (.inl rfl)); replace HB := ab (hb); replace HI0 := ab (hi); clear hb hk hi))
 (try simp only [Act.put, ap, aq, ar])
 go_loopg [4] k (fun kq v4 w' => ∃ (cZ : Int) (bW : ByteArray) (bL : Int), v4 = .int .u8 cZ ∧ Aside0 (aM.l0 kq s0_1 cZ bW bL = some (r1, r2, r3)) ∧ Aside0 (kq ≤ k) ∧ Aside0 (IsS50 w0 w' g bW bL) ∧ Aside0 (KeepBut w w' g none) ∧ Aside0 (Below w0.heap.size w0 w'))
 case atStart => exact ⟨(Me), (Mf), (Mg), Z7, H', ⟨Nat.le_refl _⟩, ⟨zI⟩, ⟨zK⟩, ⟨zE⟩⟩
 case round =>
  clear H'
  try clear Gs Gt Gu Gv
  obtain ⟨cZ, bW, bL, rfl, HA, HK1, HI0, HK, HB⟩ := hrel
  cases gk with
  | zero => exact absurd HA.out (by simp [aM.l0])
  | succ k1 =>
   have H := HA.out
   clear HA
   simp only [aM.l0] at H
   revert H; refine sId1_d0 (fun iO H => ?_) fun iO H => ?_
   ·revert H; refine sId1_d0 (fun eI H => ?_) fun eI H => ?_
    ·revert H; refine bnd ?_; rintro ⟨Mh, Mi, wX⟩ A7 H; try dsimp only at H
     as_aux_lemma =>
      have H' := ab H
      clear H
      obtain ⟨lS, lT, lU, lV⟩ := cx_cellS50 HI0.out
      go_wp2_with (first | (refine gl 38 (some 18) Tryz.func38 #[.pointer (some ⟨g, 0, none⟩)] ?_; (with_reducible refine (bM.calls g bW (wrap64 (bL + 1)) Mh Mi wX w0 _ zI zE A7.out).mono ?_); rintro e w9 ⟨rfl, hi, hb, hk⟩; refine ⟨_, rfl, ?_⟩; replace HK := ab (KeepBut.trans (w := w) zK hk (.inl rfl)); replace HB := ab (hb); replace HI0 := ab (hi); clear hb hk hi))
      go_roundg k1
      case measure => have := HK1.out; omega
      case rel => exact ⟨(Mh), (Mi), (wX), Z7, H', ⟨by have := HK1.out; omega⟩, ⟨zI⟩, ⟨zK⟩, ⟨zE⟩⟩
    as_aux_lemma =>
     simp only [am, an] at H
     obtain ⟨rfl, rfl, rfl⟩ := H
     obtain ⟨oR, oS, oT, oU⟩ := cx_cellS50 HI0.out
     go_wp2
     go_ret
     exact ⟨Z8, zI, zE, zK⟩
   as_aux_lemma =>
    simp only [am, an] at H
    obtain ⟨rfl, rfl, rfl⟩ := H
    obtain ⟨oV, oW, oX, oY⟩ := cx_cellS50 HI0.out
    go_wp2
    go_ret
    exact ⟨Z8, zI, zE, zK⟩
mutual
def aC.j0 : Nat → Bool → ByteArray → Int → Option (Bool × ByteArray × Int)
 | 0, _, _, _ => none
 | k + 1, x12, cP, cJ => if x12 = true then (some (false, cP, cJ)) else ((aW.f cP cJ 46).bind fun bt220 => (if bt220.1 = true then ((aM.f k bt220.2.1 bt220.2.2).bind fun bt223 => (aC.j1 k (!bt223.1) bt223.2.1 bt223.2.2)) else (aC.j1 k false bt220.2.1 bt220.2.2)))
def aC.j1 : Nat → Bool → ByteArray → Int → Option (Bool × ByteArray × Int)
 | 0, _, _, _ => none
 | k + 1, x19, cP, cJ => if x19 = true then (some (false, cP, cJ)) else ((aW.f cP cJ 101).bind fun bt226 => (if bt226.1 = true then (aC.j2 k true bt226.2.1 bt226.2.2) else ((aW.f bt226.2.1 bt226.2.2 69).bind fun bt229 => (aC.j2 k bt229.1 bt229.2.1 bt229.2.2))))
def aC.j2 : Nat → Bool → ByteArray → Int → Option (Bool × ByteArray × Int)
 | 0, _, _, _ => none
 | k + 1, x25, cP, cJ => if x25 = true then ((aW.f cP cJ 43).bind fun bt232 => (if bt232.1 = true then ((aM.f k bt232.2.1 bt232.2.2).bind fun bt235 => (some (bt235.1, bt235.2.1, bt235.2.2))) else ((aW.f bt232.2.1 bt232.2.2 45).bind fun bt238 => ((aM.f k bt238.2.1 bt238.2.2).bind fun bt241 => (some (bt241.1, bt241.2.1, bt241.2.2)))))) else (some (true, cP, cJ))
end
def aC.f (k : Nat) (s0_0 : ByteArray) (s0_1 : Int) : Option (Bool × ByteArray × Int) := (aW.f s0_0 s0_1 45).bind fun bt211 => ((aW.f bt211.2.1 bt211.2.2 48).bind fun bt214 => (if bt214.1 = true then (aC.j0 k false bt214.2.1 bt214.2.2) else ((aM.f k bt214.2.1 bt214.2.2).bind fun bt217 => (aC.j0 k (!bt217.1) bt217.2.1 bt217.2.2))))
theorem aC.mono_l : ∀ k, (∀ y0 y1 y2, LeO (aC.j0 k y0 y1 y2) (aC.j0 (k + 1) y0 y1 y2)) ∧ (∀ y0 y1 y2, LeO (aC.j1 k y0 y1 y2) (aC.j1 (k + 1) y0 y1 y2)) ∧ (∀ y0 y1 y2, LeO (aC.j2 k y0 y1 y2) (aC.j2 (k + 1) y0 y1 y2))
 | 0 => ⟨fun _ _ _ r h => by simp [aC.j0] at h, fun _ _ _ r h => by simp [aC.j1] at h, fun _ _ _ r h => by simp [aC.j2] at h⟩
 | k + 1 => by
  obtain ⟨ih0, ih1, ih2⟩ := aC.mono_l k
  refine ⟨?_, ?_, ?_⟩
  ·intro y0 y1 y2
   unfold aC.j0
   repeat' first
   | (with_reducible exact ih0 _ _ _)
   | (with_reducible exact ih1 _ _ _)
   | (with_reducible exact ih2 _ _ _)
   | (with_reducible exact aM.mono _ _ _)
   | (with_reducible exact LeO.refl _)
   | (with_reducible exact LeO.none _)
   | (with_reducible refine LeO.ite ?_ ?_)
   | (with_reducible refine LeO.bind ?_ (fun _ => ?_))
   | exact ih0 _ _ _
   | exact ih1 _ _ _
   | exact ih2 _ _ _
   | exact aM.mono _ _ _
   | exact LeO.none _
   | refine LeO.ite ?_ ?_
   | refine LeO.bind ?_ (fun _ => ?_)
  ·intro y0 y1 y2
   unfold aC.j1
   repeat' first
   | (with_reducible exact ih0 _ _ _)
   | (with_reducible exact ih1 _ _ _)
   | (with_reducible exact ih2 _ _ _)
   | (with_reducible exact aM.mono _ _ _)
   | (with_reducible exact LeO.refl _)
   | (with_reducible exact LeO.none _)
   | (with_reducible refine LeO.ite ?_ ?_)
   | (with_reducible refine LeO.bind ?_ (fun _ => ?_))
   | exact ih0 _ _ _
   | exact ih1 _ _ _
   | exact ih2 _ _ _
   | exact aM.mono _ _ _
   | exact LeO.none _
   | refine LeO.ite ?_ ?_
   | refine LeO.bind ?_ (fun _ => ?_)
  ·intro y0 y1 y2
   unfold aC.j2
   repeat' first
   | (with_reducible exact ih0 _ _ _)
   | (with_reducible exact ih1 _ _ _)
   | (with_reducible exact ih2 _ _ _)
   | (with_reducible exact aM.mono _ _ _)
   | (with_reducible exact LeO.refl _)
   | (with_reducible exact LeO.none _)
   | (with_reducible refine LeO.ite ?_ ?_)
   | (with_reducible refine LeO.bind ?_ (fun _ => ?_))
   | exact ih0 _ _ _
   | exact ih1 _ _ _
   | exact ih2 _ _ _
   | exact aM.mono _ _ _
   | exact LeO.none _
   | refine LeO.ite ?_ ?_
   | refine LeO.bind ?_ (fun _ => ?_)
theorem aC.mono : ∀ a0 a1 k, LeO (aC.f k a0 a1) (aC.f (k + 1) a0 a1) := by
 intro a0 a1 k
 obtain ⟨ih0, ih1, ih2⟩ := aC.mono_l k
 unfold aC.f
 exact zM
theorem aC.calls (k : Nat) (g : Nat) (s0_0 : ByteArray) (s0_1 : Int) (r1 : Bool) (r2 : ByteArray) (r3 : Int) (w0 w : World) (hI : IsS50 w0 w g s0_0 s0_1) (hB : Below w0.heap.size w0 w) (h : aC.f k s0_0 s0_1 = some (r1, r2, r3)) :
 Calls Tryz.prog 42 #[.pointer (some ⟨g, 0, none⟩)] w fun e w' => e = .returned (.bool r1) ∧ IsS50 w0 w' g r2 r3 ∧ Below w0.heap.size w0 w' ∧ KeepBut w w' g none := by
 have HI0 := ab hI
 have HK := ab (KeepBut.refl w g none)
 have HL := ab hB.size
 clear hI
 have HW0 := ab hB.size
 have HB := ab hB
 clear hB
 have H : ((aW.f s0_0 s0_1 45).bind fun bt211 => ((aW.f bt211.2.1 bt211.2.2 48).bind fun bt214 => (if bt214.1 = true then (aC.j0 k false bt214.2.1 bt214.2.2) else ((aM.f k bt214.2.1 bt214.2.2).bind fun bt217 => (aC.j0 k (!bt217.1) bt217.2.1 bt217.2.2))))) = some (r1, r2, r3) := h
 clear h
 revert H; refine bnd ?_; rintro ⟨agJ, zG, zH⟩ A2 H; try dsimp only at H
 have mW := ab H
 clear H
 go_enter Tryz.func42, Tryz.ntmps42
 go_upto_region 2 with (first | (refine gl 56 (some 4) Tryz.func56 #[.pointer (some ⟨g, 0, none⟩), .int .u8 45] ?_; (with_reducible refine (aW.calls g s0_0 s0_1 45 agJ zG zH w0 _ zI zE A2.out).mono ?_); rintro e w4 ⟨rfl, hi, hb, hk⟩; refine ⟨_, rfl, ?_⟩; replace HK := ab (KeepBut.trans (w := w) zK hk (.inl rfl)); replace HB := ab (hb); replace HI0 := ab (hi); clear hb hk hi))
 (try simp only [Act.put, ap, aq, ar])
 go_cut [12] (fun v12 wc => ∃ (kq : Nat) (yC : Bool) (fT : ByteArray) (fU : Int), v12 = .bool yC ∧ Aside0 (aC.j0 kq yC fT fU = some (r1, r2, r3)) ∧ Aside0 (kq ≤ k) ∧ Aside0 (IsS50 w0 wc g fT fU) ∧ Aside0 (KeepBut w wc g none) ∧ Aside0 (Below w0.heap.size w0 wc))
 case first =>
  have H := mW.out
  clear mW
  revert H; refine bnd ?_; rintro ⟨aqX, Cc, Cd⟩ A5 H; try dsimp only at H
  replace H := sB H
  obtain ⟨rfl, H⟩ | ⟨rfl, H⟩ := H
  ·as_aux_lemma =>
    have H' := ab H
    clear H
    go_wp2_with (first | (refine gl 56 (some 6) Tryz.func56 #[.pointer (some ⟨g, 0, none⟩), .int .u8 48] ?_; (with_reducible refine (aW.calls g zG zH 48 true Cc Cd w0 _ zI zE A5.out).mono ?_); rintro e w7 ⟨rfl, hi, hb, hk⟩; refine ⟨_, rfl, ?_⟩; replace HK := ab (KeepBut.trans (w := w) zK hk (.inl rfl)); replace HB := ab (hb); replace HI0 := ab (hi); clear hb hk hi))
    go_meet
    case rel => exact ⟨_, (false), (Cc), (Cd), Z7, H', ⟨Z26⟩, ⟨zI⟩, ⟨zK⟩, ⟨zE⟩⟩
  revert H; refine bnd ?_; rintro ⟨Mj, Mk, Ml⟩ A8 H; try dsimp only at H
  as_aux_lemma =>
   have H' := ab H
   clear H
   go_wp2_with (first | (refine gl 56 (some 6) Tryz.func56 #[.pointer (some ⟨g, 0, none⟩), .int .u8 48] ?_; (with_reducible refine (aW.calls g zG zH 48 false Cc Cd w0 _ zI zE A5.out).mono ?_); rintro e w9 ⟨rfl, hi, hb, hk⟩; refine ⟨_, rfl, ?_⟩; replace HK := ab (KeepBut.trans (w := w) zK hk (.inl rfl)); replace HB := ab (hb); replace HI0 := ab (hi); clear hb hk hi) | (go_at_call 58; (with_reducible refine (aM.calls k g Cc Cd Mj Mk Ml w0 _ zI zE A8.out).mono ?_); rintro e w10 ⟨rfl, hi, hb, hk⟩; replace HK := ab (KeepBut.trans (w := w) zK hk (.inl rfl)); replace HB := ab (hb); replace HI0 := ab (hi); clear hb hk hi))
   go_meet
   case rel => exact ⟨_, (!Mj), (Mk), (Ml), Z7, H', ⟨Z26⟩, ⟨zI⟩, ⟨zK⟩, ⟨zE⟩⟩
 case rest =>
  clear mW
  obtain ⟨kq, yC, fT, fU, rfl, HA, HJ2, HI0, HK, HB⟩ := hcut
  cases kq with
  | zero => exact absurd HA.out (by simp [aC.j0])
  | succ kj2 =>
   have H := HA.out
   clear HA
   simp only [aC.j0] at H
   replace H := sB H
   obtain ⟨rfl, H⟩ | ⟨rfl, H⟩ := H
   ·as_aux_lemma =>
     simp only [am, an] at H
     obtain ⟨rfl, rfl, rfl⟩ := H
     go_wp2
     go_ret
     exact ⟨Z8, zI, zE, zK⟩
   have rM := ab H
   clear H
   go_upto_region 4 with (fail)
   go_cut [19] (fun v19 wc => ∃ (kq : Nat) (rN : Bool) (jI : ByteArray) (jJ : Int), v19 = .bool rN ∧ Aside0 (aC.j1 kq rN jI jJ = some (r1, r2, r3)) ∧ Aside0 (kq ≤ kj2) ∧ Aside0 (IsS50 w0 wc g jI jJ) ∧ Aside0 (KeepBut w wc g none) ∧ Aside0 (Below w0.heap.size w0 wc))
   case first =>
    have H := rM.out
    clear rM
    revert H; refine bnd ?_; rintro ⟨aqY, Ce, Cf⟩ yZ H; try dsimp only at H
    replace H := sB H
    obtain ⟨rfl, H⟩ | ⟨rfl, H⟩ := H
    ·revert H; refine bnd ?_; rintro ⟨Mm, Mo, Mp⟩ Fa H; try dsimp only at H
     as_aux_lemma =>
      have H' := ab H
      clear H
      go_wp2_with (first | (refine gl 56 (some 14) Tryz.func56 #[.pointer (some ⟨g, 0, none⟩), .int .u8 46] ?_; (with_reducible refine (aW.calls g fT fU 46 true Ce Cf w0 _ zI zE yZ.out).mono ?_); rintro e w16 ⟨rfl, hi, hb, hk⟩; refine ⟨_, rfl, ?_⟩; replace HK := ab (KeepBut.trans (w := w) zK hk (.inl rfl)); replace HB := ab (hb); replace HI0 := ab (hi); clear hb hk hi) | (go_at_call 58; (with_reducible refine (aM.calls kj2 g Ce Cf Mm Mo Mp w0 _ zI zE Fa.out).mono ?_); rintro e w17 ⟨rfl, hi, hb, hk⟩; replace HK := ab (KeepBut.trans (w := w) zK hk (.inl rfl)); replace HB := ab (hb); replace HI0 := ab (hi); clear hb hk hi))
      go_meet
      case rel => exact ⟨_, (!Mm), (Mo), (Mp), Z7, H', ⟨by have := HJ2.out; first | omega | exact Nat.le_refl _⟩, ⟨zI⟩, ⟨zK⟩, ⟨zE⟩⟩
    as_aux_lemma =>
     have H' := ab H
     clear H
     go_wp2_with (first | (refine gl 56 (some 14) Tryz.func56 #[.pointer (some ⟨g, 0, none⟩), .int .u8 46] ?_; (with_reducible refine (aW.calls g fT fU 46 false Ce Cf w0 _ zI zE yZ.out).mono ?_); rintro e w18 ⟨rfl, hi, hb, hk⟩; refine ⟨_, rfl, ?_⟩; replace HK := ab (KeepBut.trans (w := w) zK hk (.inl rfl)); replace HB := ab (hb); replace HI0 := ab (hi); clear hb hk hi))
     go_meet
     case rel => exact ⟨_, (false), (Ce), (Cf), Z7, H', ⟨by have := HJ2.out; first | omega | exact Nat.le_refl _⟩, ⟨zI⟩, ⟨zK⟩, ⟨zE⟩⟩
   case rest =>
    clear rM
    obtain ⟨kq, rN, jI, jJ, rfl, HA, HJ11, HI0, HK, HB⟩ := hcut
    cases kq with
    | zero => exact absurd HA.out (by simp [aC.j1])
    | succ kj11 =>
     have H := HA.out
     clear HA
     simp only [aC.j1] at H
     replace H := sB H
     obtain ⟨rfl, H⟩ | ⟨rfl, H⟩ := H
     ·as_aux_lemma =>
       simp only [am, an] at H
       obtain ⟨rfl, rfl, rfl⟩ := H
       go_wp2
       go_ret
       exact ⟨Z8, zI, zE, zK⟩
     have Gw := ab H
     clear H
     go_upto_region 6 with (fail)
     go_cut [25] (fun v25 wc => ∃ (kq : Nat) (rO : Bool) (jK : ByteArray) (jL : Int), v25 = .bool rO ∧ Aside0 (aC.j2 kq rO jK jL = some (r1, r2, r3)) ∧ Aside0 (kq ≤ kj11) ∧ Aside0 (IsS50 w0 wc g jK jL) ∧ Aside0 (KeepBut w wc g none) ∧ Aside0 (Below w0.heap.size w0 wc))
     case first =>
      have H := Gw.out
      clear Gw
      revert H; refine bnd ?_; rintro ⟨aqZ, Cg, Ch⟩ Hx H; try dsimp only at H
      replace H := sB H
      obtain ⟨rfl, H⟩ | ⟨rfl, H⟩ := H
      ·as_aux_lemma =>
        have H' := ab H
        clear H
        go_wp2_with (first | (refine gl 56 (some 21) Tryz.func56 #[.pointer (some ⟨g, 0, none⟩), .int .u8 101] ?_; (with_reducible refine (aW.calls g jI jJ 101 true Cg Ch w0 _ zI zE Hx.out).mono ?_); rintro e w23 ⟨rfl, hi, hb, hk⟩; refine ⟨_, rfl, ?_⟩; replace HK := ab (KeepBut.trans (w := w) zK hk (.inl rfl)); replace HB := ab (hb); replace HI0 := ab (hi); clear hb hk hi))
        go_meet
        case rel => exact ⟨_, (true), (Cg), (Ch), Z7, H', ⟨by have := HJ2.out; have := HJ11.out; first | omega | exact Nat.le_refl _⟩, ⟨zI⟩, ⟨zK⟩, ⟨zE⟩⟩
      revert H; refine bnd ?_; rintro ⟨Mq, Mr, Ms⟩ A24 H; try dsimp only at H
      as_aux_lemma =>
       have H' := ab H
       clear H
       go_wp2_with (first | (refine gl 56 (some 21) Tryz.func56 #[.pointer (some ⟨g, 0, none⟩), .int .u8 101] ?_; (with_reducible refine (aW.calls g jI jJ 101 false Cg Ch w0 _ zI zE Hx.out).mono ?_); rintro e w25 ⟨rfl, hi, hb, hk⟩; refine ⟨_, rfl, ?_⟩; replace HK := ab (KeepBut.trans (w := w) zK hk (.inl rfl)); replace HB := ab (hb); replace HI0 := ab (hi); clear hb hk hi) | (go_at_call 56; (with_reducible refine (aW.calls g Cg Ch 69 Mq Mr Ms w0 _ zI zE A24.out).mono ?_); rintro e w26 ⟨rfl, hi, hb, hk⟩; replace HK := ab (KeepBut.trans (w := w) zK hk (.inl rfl)); replace HB := ab (hb); replace HI0 := ab (hi); clear hb hk hi))
       go_meet
       case rel => exact ⟨_, (Mq), (Mr), (Ms), Z7, H', ⟨by have := HJ2.out; have := HJ11.out; first | omega | exact Nat.le_refl _⟩, ⟨zI⟩, ⟨zK⟩, ⟨zE⟩⟩
     case rest =>
      clear Gw
      obtain ⟨kq, rO, jK, jL, rfl, HA, HJ19, HI0, HK, HB⟩ := hcut
      cases kq with
      | zero => exact absurd HA.out (by simp [aC.j2])
      | succ kj19 =>
       have H := HA.out
       clear HA
       simp only [aC.j2] at H
       replace H := sB H
       obtain ⟨rfl, H⟩ | ⟨rfl, H⟩ := H
       ·revert H; refine bnd ?_; rintro ⟨afB, wY, Ci⟩ yY H; try dsimp only at H
        replace H := sB H
        obtain ⟨rfl, H⟩ | ⟨rfl, H⟩ := H
        ·revert H; refine bnd ?_; rintro ⟨agL, agM, agN⟩ A30 H; try dsimp only at H
         as_aux_lemma =>
          simp only [am, an] at H
          obtain ⟨rfl, rfl, rfl⟩ := H
          go_wp2_with (first | (refine gl 56 (some 27) Tryz.func56 #[.pointer (some ⟨g, 0, none⟩), .int .u8 43] ?_; (with_reducible refine (aW.calls g jK jL 43 true wY Ci w0 _ zI zE yY.out).mono ?_); rintro e w31 ⟨rfl, hi, hb, hk⟩; refine ⟨_, rfl, ?_⟩; replace HK := ab (KeepBut.trans (w := w) zK hk (.inl rfl)); replace HB := ab (hb); replace HI0 := ab (hi); clear hb hk hi) | (refine gl 58 (some 32) Tryz.func58 #[.pointer (some ⟨g, 0, none⟩)] ?_; (with_reducible refine (aM.calls kj19 g wY Ci agL agM agN w0 _ zI zE A30.out).mono ?_); rintro e w32 ⟨rfl, hi, hb, hk⟩; refine ⟨_, rfl, ?_⟩; replace HK := ab (KeepBut.trans (w := w) zK hk (.inl rfl)); replace HB := ab (hb); replace HI0 := ab (hi); clear hb hk hi))
          go_ret
          exact ⟨Z8, zI, zE, zK⟩
        revert H; refine bnd ?_; rintro ⟨agP, Mt, Mu⟩ Id H; try dsimp only at H
        revert H; refine bnd ?_; rintro ⟨agQ, agR, agS⟩ A34 H; try dsimp only at H
        as_aux_lemma =>
         simp only [am, an] at H
         obtain ⟨rfl, rfl, rfl⟩ := H
         go_wp2_with (first | (refine gl 56 (some 27) Tryz.func56 #[.pointer (some ⟨g, 0, none⟩), .int .u8 43] ?_; (with_reducible refine (aW.calls g jK jL 43 false wY Ci w0 _ zI zE yY.out).mono ?_); rintro e w35 ⟨rfl, hi, hb, hk⟩; refine ⟨_, rfl, ?_⟩; replace HK := ab (KeepBut.trans (w := w) zK hk (.inl rfl)); replace HB := ab (hb); replace HI0 := ab (hi); clear hb hk hi) | (refine gl 56 (some 30) Tryz.func56 #[.pointer (some ⟨g, 0, none⟩), .int .u8 45] ?_; (with_reducible refine (aW.calls g wY Ci 45 agP Mt Mu w0 _ zI zE Id.out).mono ?_); rintro e w36 ⟨rfl, hi, hb, hk⟩; refine ⟨_, rfl, ?_⟩; replace HK := ab (KeepBut.trans (w := w) zK hk (.inl rfl)); replace HB := ab (hb); replace HI0 := ab (hi); clear hb hk hi) | (refine gl 58 (some 32) Tryz.func58 #[.pointer (some ⟨g, 0, none⟩)] ?_; (with_reducible refine (aM.calls kj19 g Mt Mu agQ agR agS w0 _ zI zE A34.out).mono ?_); rintro e w37 ⟨rfl, hi, hb, hk⟩; refine ⟨_, rfl, ?_⟩; replace HK := ab (KeepBut.trans (w := w) zK hk (.inl rfl)); replace HB := ab (hb); replace HI0 := ab (hi); clear hb hk hi))
         go_ret
         exact ⟨Z8, zI, zE, zK⟩
       as_aux_lemma =>
        simp only [am, an] at H
        obtain ⟨rfl, rfl, rfl⟩ := H
        go_wp2
        go_ret
        exact ⟨Z8, zI, zE, zK⟩
def bN.f (s0_0 : ByteArray) (s0_1 : Int) (a1 : ByteArray) : Option (Bool × ByteArray × Int) := if (wrap64 ((s0_0.size : Int) - s0_1)) < (a1.size : Int) then (some (false, s0_0, s0_1)) else (if 0 ≤ s0_1 then (if s0_1 ≤ (wrap64 (s0_1 + (a1.size : Int))) then (if (wrap64 (s0_1 + (a1.size : Int))) ≤ (s0_0.size : Int) then (if (s0_0.extract (s0_1 : Int).toNat ((wrap64 (s0_1 + (a1.size : Int))) : Int).toNat).toList = a1.toList then (some (true, s0_0, wrap64 (s0_1 + (a1.size : Int)))) else (some (false, s0_0, s0_1))) else (none)) else (none)) else (none))
theorem bN.calls (g : Nat) (s0_0 : ByteArray) (s0_1 : Int) (a1 : ByteArray) (r1 : Bool) (r2 : ByteArray) (r3 : Int) (w0 w : World) (hI : IsS50 w0 w g s0_0 s0_1) (hB : Below w0.heap.size w0 w) (h : bN.f s0_0 s0_1 a1 = some (r1, r2, r3)) :
 Calls Tryz.prog 43 #[.pointer (some ⟨g, 0, none⟩), .string a1] w fun e w' => e = .returned (.bool r1) ∧ IsS50 w0 w' g r2 r3 ∧ Below w0.heap.size w0 w' ∧ KeepBut w w' g none := by
 have HI0 := ab hI
 have HK := ab (KeepBut.refl w g none)
 have HL := ab hB.size
 clear hI
 have HW0 := ab hB.size
 have HB := ab hB
 clear hB
 have H : (if (wrap64 ((s0_0.size : Int) - s0_1)) < (a1.size : Int) then (some (false, s0_0, s0_1)) else (if 0 ≤ s0_1 then (if s0_1 ≤ (wrap64 (s0_1 + (a1.size : Int))) then (if (wrap64 (s0_1 + (a1.size : Int))) ≤ (s0_0.size : Int) then (if (s0_0.extract (s0_1 : Int).toNat ((wrap64 (s0_1 + (a1.size : Int))) : Int).toNat).toList = a1.toList then (some (true, s0_0, wrap64 (s0_1 + (a1.size : Int)))) else (some (false, s0_0, s0_1))) else (none)) else (none)) else (none))) = some (r1, r2, r3) := h
 clear h
 revert H; refine sId1_d0 (fun dY H => ?_) fun dY H => ?_
 ·as_aux_lemma =>
   simp only [am, an] at H
   obtain ⟨rfl, rfl, rfl⟩ := H
   obtain ⟨wG, wH, wI, wJ⟩ := cx_cellS50 HI0.out
   go_enter Tryz.func43, Tryz.ntmps43
   go_wp2
   repeat (go_quiet (fail); try go_wp2)
   go_ret
   exact ⟨Z8, zI, zE, zK⟩
 revert H; refine sNt1d1 fun iO qQ H => ?_
 revert H; refine sNt1d1 fun eI mL H => ?_
 revert H; refine sNt1d1 fun iH kM H => ?_
 revert H; refine sIe1n0_e0n1 (fun iL kT H => ?_) fun iL kT H => ?_
 ·as_aux_lemma =>
   simp only [am, an] at H
   obtain ⟨rfl, rfl, rfl⟩ := H
   obtain ⟨lI, lJ, lK, lL⟩ := cx_cellS50 HI0.out
   go_enter Tryz.func43, Tryz.ntmps43
   go_wp2
   repeat (go_quiet (fail); try go_wp2)
   go_ret
   exact ⟨Z8, zI, zE, zK⟩
 as_aux_lemma =>
  simp only [am, an] at H
  obtain ⟨rfl, rfl, rfl⟩ := H
  obtain ⟨oR, oS, oT, oU⟩ := cx_cellS50 HI0.out
  go_enter Tryz.func43, Tryz.ntmps43
  go_wp2
  repeat (go_quiet (fail); try go_wp2)
  go_ret
  exact ⟨Z8, zI, zE, zK⟩
end
end Go.Proofs.YtkjnahgicfmicaaGreatDoor.Sp

-- written by a program of this session (wip/tools), for this seat
import Derived.Test.YtkbeiidjagodnaaPrx0
namespace Go.Proofs.YtkbeiidjagodnaaW.PrintWords.Kd
open Go.RowKit
theorem heap_int (k : IntKind) : Heap (Kd.int k) := ⟨fun _ h => h⟩
theorem heap_slice {α : Type} {d : Kd α} (e : Nat) (hd : Heap d) : Heap (slice e d) := ⟨by
  rintro w w1 x cs hb ⟨A, c, rfl, hl, hr⟩
  exact ⟨A, c, rfl, hl, hd.C hb hr⟩⟩
theorem heap_pair {α β : Type} {a : Kd α} {b : Kd β} (ha : Heap a) (hb' : Heap b) : Heap (pair a b) := ⟨by
  rintro w w1 x cs hb ⟨c0, c1, rfl, h0, h1⟩
  exact ⟨c0, c1, rfl, ha.K hb h0, hb'.K hb h1⟩⟩
theorem heap_iso {α β : Type} {d : Kd α} (f : β → α) (hd : Heap d) : Heap (iso d f) := ⟨fun hb h => hd.K hb h⟩
theorem heap_bot {α : Type} (sz : Nat) (E : List Nat) : Heap (bot sz E : Kd α) := ⟨fun _ h => h⟩
theorem heap_upto {α : Type} {F : Kd α → Kd α} {sz : Nat} {E : List Nat} (hF : ∀ d, Heap d → Heap (F d)) : ∀ n, Heap (upto F sz E n)
  | 0 => heap_bot sz E
  | n + 1 => hF _ (heap_upto hF n)
theorem heap_fix {α : Type} {F : Kd α → Kd α} {sz : Nat} {E : List Nat} {hs : ∀ n, (upto F sz E n).sz = sz} {hE : ∀ n q, q ∈ (upto F sz E n).E → q ∈ E} (hF : ∀ d, Heap d → Heap (F d)) : Heap (fix F sz E hs hE) := ⟨by
  rintro w w1 x cs hb ⟨n, h⟩
  exact ⟨n, (heap_upto hF n).K hb h⟩⟩
end Go.Proofs.YtkbeiidjagodnaaW.PrintWords.Kd
namespace Go.Proofs.Ytkbeiidjagodnaa.Pr
open Go.RowKit Go.Proofs.YtkbeiidjagodnaaW.PrintWords Go.Proofs.YtkbeiidjagodnaaW.PrintLast Go.Proofs.YtkbeiidjagodnaaW.PrintMore
attribute [local go_sem] max2_int min2_int max_two min_two max_three min_three max_four min_four   -- for this text's walks alone
set_option linter.unusedVariables false
set_option linter.unusedSimpArgs false
structure H_spec_bareTo where
 f : Nat → List Int → ByteArray → Int → Int → Int → List (S53) → List (S25) → Option (List Int)
 mono : ∀ a0 a1 a2 a3 a4 a5 a6 k, LeO (f k a0 a1 a2 a3 a4 a5 a6) (f (k + 1) a0 a1 a2 a3 a4 a5 a6)
 calls : ∀ (k : Nat) (P0_ : Nat → Prop) (u9000_ : Value) (l0 : List Int) (a1 : ByteArray) (a2_0 : Int) (a2_1 : Int) (a2_2 : Int) (P2_3_ : Nat → Prop) (A2_3 : Option Addr) (c2_3 : Nat) (l2_3 : List (S53)) (P2_4_ : Nat → Prop) (A2_4 : Option Addr) (c2_4 : Nat) (l2_4 : List (S25)) (r : List Int) (w0 w : World) (hB : Below w0.heap.size w0 w) (ho0 : Kd.R (Kd.int .u8) 5 w w0.heap.size P0_ u9000_ l0) (hs2_3 : Kd.V k53 53 w w0.heap.size (fun k_ => P2_3_ k_ ∧ some k_ ≠ (u9000_ : Value).ownBlock) (.slice A2_3 l2_3.length c2_3) l2_3) (hs2_4 : Kd.V k25 25 w w0.heap.size (fun k_ => P2_4_ k_ ∧ some k_ ≠ (u9000_ : Value).ownBlock) (.slice A2_4 l2_4.length c2_4) l2_4) (h : f k l0 a1 a2_0 a2_1 a2_2 l2_3 l2_4 = some r),
  Calls Try.prog 22 #[u9000_, .string a1, .agg #[.int .i64 a2_0, .int .i64 a2_1, .int .i64 a2_2, .slice A2_3 l2_3.length c2_3, .slice A2_4 l2_4.length c2_4]] w fun e w' => ∃ v0_ : Value, e = .returned (v0_) ∧ Kd.R (Kd.int .u8) 5 w' w0.heap.size (fun k_ => (P0_ k_ ∨ w.heap.size ≤ k_)) v0_ r ∧ Below w0.heap.size w0 w' ∧ Kept w w' (fun k_ => P0_ k_)
theorem k53_heap : Kd.Heap k53 := Kd.heap_iso _ (Kd.heap_pair (Kd.heap_int .i64) (Kd.heap_int .i64))
theorem k25_heap : Kd.Heap k25 := Kd.heap_fix (fun _ h_ => Kd.heap_iso _ (Kd.heap_pair (Kd.heap_int .i64) (Kd.heap_pair (Kd.heap_int .i64) (Kd.heap_pair (Kd.heap_int .i64) (Kd.heap_pair (Kd.heap_slice 53 k53_heap) (Kd.heap_slice 25 h_))))))
/-! ### spec_bareTo: function 22 -/
def spec_bareTo.j0 : Nat → List Int → ByteArray → Bool → Int → Int → Int → List (S53) → List (S25) → Option (List Int)
 | 0, _, _, _, _, _, _, _, _ => none
 | k + 1, x0, x1, x17, x102000, x102001, x102002, x102003, x102004 => if x17 = true then (if 0 ≤ x102001 then (if x102001 ≤ x102002 then (if x102002 ≤ (x1.size : Int) then (if x0.length + (x1.extract (x102001 : Int).toNat (x102002 : Int).toNat).size < 140737488355328 then (some (x0 ++ bytesOf (x1.extract (x102001 : Int).toNat (x102002 : Int).toNat))) else (none)) else (none)) else (none)) else (none)) else (none)
def spec_bareTo.f (k : Nat) (l0 : List Int) (a1 : ByteArray) (a2_0 : Int) (a2_1 : Int) (a2_2 : Int) (l2_3 : List (S53)) (l2_4 : List (S25)) : Option (List Int) := if a2_0 = 5 then (spec_bareTo.j0 k l0 a1 false a2_0 a2_1 a2_2 l2_3 l2_4) else (spec_bareTo.j0 k l0 a1 (a2_0 != 6) a2_0 a2_1 a2_2 l2_3 l2_4)
theorem spec_bareTo.mono_l : ∀ k, (∀ y0 y1 y2 y3 y4 y5 y6 y7, LeO (spec_bareTo.j0 k y0 y1 y2 y3 y4 y5 y6 y7) (spec_bareTo.j0 (k + 1) y0 y1 y2 y3 y4 y5 y6 y7))
 | 0 => fun _ _ _ _ _ _ _ _ r h => by simp [spec_bareTo.j0] at h
 | k + 1 => by
  have ih0 := spec_bareTo.mono_l k
  ·intro y0 y1 y2 y3 y4 y5 y6 y7
   unfold spec_bareTo.j0
   repeat' first
   | (with_reducible exact ih0 _ _ _ _ _ _ _ _)
   | (with_reducible exact LeO.refl _)
   | (with_reducible exact LeO.none _)
   | (with_reducible refine LeO.ite ?_ ?_)
   | (with_reducible refine LeO.bind ?_ (fun _ => ?_))
   | exact ih0 _ _ _ _ _ _ _ _
   | exact LeO.none _
   | refine LeO.ite ?_ ?_
   | refine LeO.bind ?_ (fun _ => ?_)
theorem spec_bareTo.mono : ∀ a0 a1 a2 a3 a4 a5 a6 k, LeO (spec_bareTo.f k a0 a1 a2 a3 a4 a5 a6) (spec_bareTo.f (k + 1) a0 a1 a2 a3 a4 a5 a6) := by
 intro a0 a1 a2 a3 a4 a5 a6 k
 have ih0 := spec_bareTo.mono_l k
 unfold spec_bareTo.f
 repeat' first
   | (with_reducible exact ih0 _ _ _ _ _ _ _ _)
   | (with_reducible exact LeO.refl _)
   | (with_reducible exact LeO.none _)
   | (with_reducible refine LeO.ite ?_ ?_)
   | (with_reducible refine LeO.bind ?_ (fun _ => ?_))
   | exact ih0 _ _ _ _ _ _ _ _
   | exact LeO.none _
   | refine LeO.ite ?_ ?_
   | refine LeO.bind ?_ (fun _ => ?_)
set_option maxHeartbeats 8000000 in
set_option maxRecDepth 100000 in
theorem spec_bareTo.calls (k : Nat) (P0_ : Nat → Prop) (u9000_ : Value) (l0 : List Int) (a1 : ByteArray) (a2_0 : Int) (a2_1 : Int) (a2_2 : Int) (P2_3_ : Nat → Prop) (A2_3 : Option Addr) (c2_3 : Nat) (l2_3 : List (S53)) (P2_4_ : Nat → Prop) (A2_4 : Option Addr) (c2_4 : Nat) (l2_4 : List (S25)) (r : List Int) (w0 w : World) (hB : Below w0.heap.size w0 w) (ho0 : Kd.R (Kd.int .u8) 5 w w0.heap.size P0_ u9000_ l0) (hs2_3 : Kd.V k53 53 w w0.heap.size (fun k_ => P2_3_ k_ ∧ some k_ ≠ (u9000_ : Value).ownBlock) (.slice A2_3 l2_3.length c2_3) l2_3) (hs2_4 : Kd.V k25 25 w w0.heap.size (fun k_ => P2_4_ k_ ∧ some k_ ≠ (u9000_ : Value).ownBlock) (.slice A2_4 l2_4.length c2_4) l2_4) (h : spec_bareTo.f k l0 a1 a2_0 a2_1 a2_2 l2_3 l2_4 = some r) :
  Calls Try.prog 22 #[u9000_, .string a1, .agg #[.int .i64 a2_0, .int .i64 a2_1, .int .i64 a2_2, .slice A2_3 l2_3.length c2_3, .slice A2_4 l2_4.length c2_4]] w fun e w' => ∃ v0_ : Value, e = .returned (v0_) ∧ Kd.R (Kd.int .u8) 5 w' w0.heap.size (fun k_ => (P0_ k_ ∨ w.heap.size ≤ k_)) v0_ r ∧ Below w0.heap.size w0 w' ∧ Kept w w' (fun k_ => P0_ k_) := by
 have hu25 := Try.underlying25
 have HO0 := Aside0.mk (show Kd.R (Kd.int .u8) 5 w w0.heap.size (fun k_ => (P0_ k_ ∨ w.heap.size ≤ k_)) u9000_ l0 from Kd.R_mono ho0 (fun k_ hk => (.inl hk)))
 have HO2_3 := Aside0.mk (show Kd.V k53 53 w w0.heap.size (fun k_ => ((P0_ k_ ∨ P2_3_ k_ ∨ P2_4_ k_) ∨ w.heap.size ≤ k_) ∧ some k_ ≠ (u9000_ : Value).ownBlock) (.slice A2_3 l2_3.length c2_3) l2_3 from Kd.V_mono hs2_3 (fun k_ hk => ⟨.inl (.inr (.inl hk.1)), hk.2⟩))
 have HO2_4 := Aside0.mk (show Kd.V k25 25 w w0.heap.size (fun k_ => ((P0_ k_ ∨ P2_3_ k_ ∨ P2_4_ k_) ∨ w.heap.size ≤ k_) ∧ some k_ ≠ (u9000_ : Value).ownBlock) (.slice A2_4 l2_4.length c2_4) l2_4 from Kd.V_mono hs2_4 (fun k_ hk => ⟨.inl (.inr (.inr hk.1)), hk.2⟩))
 have HK := Aside0.mk (Kept.refl w (fun k_ => P0_ k_))
 have HW0 := Aside0.mk hB.size
 have HB := Aside0.mk hB
 clear hB
 have H : (if a2_0 = 5 then (spec_bareTo.j0 k l0 a1 false a2_0 a2_1 a2_2 l2_3 l2_4) else (spec_bareTo.j0 k l0 a1 (a2_0 != 6) a2_0 a2_1 a2_2 l2_3 l2_4)) = some r := h
 clear h
 have HC4 := Aside0.mk H
 clear H
 go_enter Try.func22, Try.ntmps22
 go_upto_region 1 with (first | ((with_reducible refine gate_dst (N := 5) rfl ?_); refine box_event ?hg (N := 5) ?hd (cs := #[.int .i64 a2_0, .int .i64 a2_1, .int .i64 a2_2, .slice A2_3 l2_3.length c2_3, .slice A2_4 l2_4.length c2_4]) (t := 25) ?hr ?_; (case hd => rfl); (case hg => rfl); (case hr => exact Z62); intro gb101 hg w5 hbox hb; have n0_ := Aside0.mk (Kd.R_below Z54 hb); have n1_ := Aside0.mk (Kd.V_below (Kd.V_elderB Z117 gb101 (Nat.le_of_eq hg.symm)) hb); have n2_ := Aside0.mk (Kd.V_below (Kd.V_elderB Z116 gb101 (Nat.le_of_eq hg.symm)) hb); have n3_ := Aside0.mk (Kept.below (S := (fun k_ => P0_ k_)) Z7 hb); have n4_ := Aside0.mk (below_step Z5 hb); have n5_ := Aside0.mk (hbox); have n6_ := Aside0.mk ((by rw [hg]; exact Z35 : w.heap.size ≤ gb101)); have n7_ := Aside0.mk ((by rw [hg]; exact (below_size Z5) : w0.heap.size ≤ gb101)); clear HO0; clear HO2_3; clear HO2_4; clear HK; clear HB; have HO0 := n0_; have HO2_3 := n1_; have HO2_4 := n2_; have HK := n3_; have HB := n4_; have BK101 := n5_; have GW101 := n6_; have GE101 := n7_; clear n0_ n1_ n2_ n3_ n4_ n5_ n6_ n7_; clear hb hbox hg))
 (try simp only [Act.put, List.setIfInBounds_toArray, List.set_cons_zero, List.set_cons_succ])
 go_cut [17] from 1 to 0 (fun v17 wc => ∃ (kq : Nat) (x17_3 : Bool), v17 = .bool x17_3 ∧ Aside0 (spec_bareTo.j0 kq l0 a1 x17_3 a2_0 a2_1 a2_2 l2_3 l2_4 = some r) ∧ Aside0 (kq ≤ k) ∧ Aside0 (Kd.R (Kd.int .u8) 5 wc w0.heap.size (fun k_ => (P0_ k_ ∨ w.heap.size ≤ k_)) u9000_ l0) ∧ Aside0 (Kd.V k53 53 wc w0.heap.size (fun k_ => ((P0_ k_ ∨ P2_3_ k_ ∨ P2_4_ k_) ∨ w.heap.size ≤ k_) ∧ some k_ ≠ (u9000_ : Value).ownBlock ∧ k_ ≠ gb101) (.slice A2_3 l2_3.length c2_3) l2_3) ∧ Aside0 (Kd.V k25 25 wc w0.heap.size (fun k_ => ((P0_ k_ ∨ P2_3_ k_ ∨ P2_4_ k_) ∨ w.heap.size ≤ k_) ∧ some k_ ≠ (u9000_ : Value).ownBlock ∧ k_ ≠ gb101) (.slice A2_4 l2_4.length c2_4) l2_4) ∧ Aside0 (wc.heap[gb101]? = some (.cells #[.int .i64 a2_0, .int .i64 a2_1, .int .i64 a2_2, (.slice A2_3 l2_3.length c2_3), (.slice A2_4 l2_4.length c2_4)] 25 (0, 0))) ∧ Aside0 (Kept w wc (fun k_ => P0_ k_)) ∧ Aside0 (Below w0.heap.size w0 wc))
 case first =>
  have H := HC4.out
  clear HC4
  by_cases c6 : a2_0 = 5
  ·rw [if_pos c6] at H
   have c6b0 : (a2_0 == 5) = true := beq_iff_eq.mpr c6
   have c6b1 : (a2_0 != 5) = false := bne_eq_false_iff_eq.mpr c6
   clear c6
   (first | rw [c6b0] | (simp only [i64_w, i32_w]; rw [c6b0]) | skip)
   ·
    have H' := Aside0.mk H
    clear H
    have hcz7_0 : w5.cell? ⟨gb101, 0, none⟩ = some (.int .i64 a2_0) := (blk_cell BK101.out 0).trans rfl
    have hcz7_1 : w5.cell? ⟨gb101, 1, none⟩ = some (.int .i64 a2_1) := (blk_cell BK101.out 1).trans rfl
    have hcz7_2 : w5.cell? ⟨gb101, 2, none⟩ = some (.int .i64 a2_2) := (blk_cell BK101.out 2).trans rfl
    have hcz7_3 : w5.cell? ⟨gb101, 3, none⟩ = some (.slice A2_3 l2_3.length c2_3) := (blk_cell BK101.out 3).trans rfl
    have hcz7_4 : w5.cell? ⟨gb101, 4, none⟩ = some (.slice A2_4 l2_4.length c2_4) := (blk_cell BK101.out 4).trans rfl
    have hfz7_0 := blk_frozen BK101.out 0
    have hfz7_1 := blk_frozen BK101.out 1
    have hfz7_2 := blk_frozen BK101.out 2
    have hfz7_3 := blk_frozen BK101.out 3
    have hfz7_4 := blk_frozen BK101.out 4
    go_wp2
    go_meet
    case rel => exact ⟨_, (false), Z16, H', ⟨Z88⟩, ⟨Z54⟩, ⟨Z126⟩, ⟨Z125⟩, ⟨Z154⟩, ⟨Z99⟩, ⟨Z103⟩⟩
  ·rw [if_neg c6] at H
   have c6b0 : (a2_0 == 5) = false := beq_eq_false_iff_ne.mpr c6
   have c6b1 : (a2_0 != 5) = true := bne_iff_ne.mpr c6
   (first | rw [c6b0] | (simp only [i64_w, i32_w]; rw [c6b0]) | skip)
   ·
    have H' := Aside0.mk H
    clear H
    have hcz8_0 : w5.cell? ⟨gb101, 0, none⟩ = some (.int .i64 a2_0) := (blk_cell BK101.out 0).trans rfl
    have hcz8_1 : w5.cell? ⟨gb101, 1, none⟩ = some (.int .i64 a2_1) := (blk_cell BK101.out 1).trans rfl
    have hcz8_2 : w5.cell? ⟨gb101, 2, none⟩ = some (.int .i64 a2_2) := (blk_cell BK101.out 2).trans rfl
    have hcz8_3 : w5.cell? ⟨gb101, 3, none⟩ = some (.slice A2_3 l2_3.length c2_3) := (blk_cell BK101.out 3).trans rfl
    have hcz8_4 : w5.cell? ⟨gb101, 4, none⟩ = some (.slice A2_4 l2_4.length c2_4) := (blk_cell BK101.out 4).trans rfl
    have hfz8_0 := blk_frozen BK101.out 0
    have hfz8_1 := blk_frozen BK101.out 1
    have hfz8_2 := blk_frozen BK101.out 2
    have hfz8_3 := blk_frozen BK101.out 3
    have hfz8_4 := blk_frozen BK101.out 4
    go_wp2
    go_meet
    case rel => exact ⟨_, ((a2_0 != 6)), Z16, H', ⟨Z88⟩, ⟨Z54⟩, ⟨Z126⟩, ⟨Z125⟩, ⟨Z154⟩, ⟨Z99⟩, ⟨Z103⟩⟩
 case rest =>
  clear HC4
  obtain ⟨kq, x17_3, rfl, HA, HJ3, HO_0, HO_102003, HO_102004, BK101, HK, HB⟩ := hcut
  cases kq with
  | zero => exact absurd HA.out (by simp [spec_bareTo.j0])
  | succ kj3 =>
   have H := HA.out
   clear HA
   simp only [spec_bareTo.j0] at H
   by_cases c9 : x17_3 = true
   ·subst c9
    have H1 : (if 0 ≤ a2_1 then (if a2_1 ≤ a2_2 then (if a2_2 ≤ (a1.size : Int) then (if l0.length + (a1.extract (a2_1 : Int).toNat (a2_2 : Int).toNat).size < 140737488355328 then (some (l0 ++ bytesOf (a1.extract (a2_1 : Int).toNat (a2_2 : Int).toNat))) else (none)) else (none)) else (none)) else (none)) = some r := Z61
    clear H
    have H := H1
    clear H1
    by_cases c10 : 0 ≤ a2_1
    ·rw [if_pos c10] at H
     have c10b0 := eq_true c10
     have c10b1 : decide (0 ≤ a2_1) = true := decide_eq_true c10
     clear c10
     by_cases c11 : a2_1 ≤ a2_2
     ·rw [if_pos c11] at H
      have c11b0 := eq_true c11
      have c11b1 : decide (a2_1 ≤ a2_2) = true := decide_eq_true c11
      clear c11
      by_cases c12 : a2_2 ≤ (a1.size : Int)
      ·rw [if_pos c12] at H
       have c12b0 := eq_true c12
       have c12b1 : decide (a2_2 ≤ (a1.size : Int)) = true := decide_eq_true c12
       clear c12
       by_cases c13 : l0.length + (a1.extract (a2_1 : Int).toNat (a2_2 : Int).toNat).size < 140737488355328
       ·rw [if_pos c13] at H
        have LMc13 := Aside0.mk c13
        clear c13
        obtain ⟨y102, hy102⟩ : ∃ y_ : List Int, y_ = (l0 ++ bytesOf (a1.extract (a2_1 : Int).toNat (a2_2 : Int).toNat)) := ⟨_, rfl⟩
        replace H : (some y102) = some r := by first | (rw [hy102]; with_reducible exact H) | (have H2_ := (Option.bind_some _ _).symm.trans H; rw [hy102]; with_reducible exact H2_) | (have H2_ := (Option.bind_some _ _).symm.trans H; with_reducible exact H2_) | with_reducible exact H | (rw [hy102]; exact H) | exact H
        have Ny102 := Aside0.mk hy102
        clear hy102
        ·
         obtain rfl := Option.some.inj H
         have hcz14_0 : wc.cell? ⟨gb101, 0, none⟩ = some (.int .i64 a2_0) := (blk_cell BK101.out 0).trans rfl
         have hcz14_1 : wc.cell? ⟨gb101, 1, none⟩ = some (.int .i64 a2_1) := (blk_cell BK101.out 1).trans rfl
         have hcz14_2 : wc.cell? ⟨gb101, 2, none⟩ = some (.int .i64 a2_2) := (blk_cell BK101.out 2).trans rfl
         have hcz14_3 : wc.cell? ⟨gb101, 3, none⟩ = some (.slice A2_3 l2_3.length c2_3) := (blk_cell BK101.out 3).trans rfl
         have hcz14_4 : wc.cell? ⟨gb101, 4, none⟩ = some (.slice A2_4 l2_4.length c2_4) := (blk_cell BK101.out 4).trans rfl
         have hfz14_0 := blk_frozen BK101.out 0
         have hfz14_1 := blk_frozen BK101.out 1
         have hfz14_2 := blk_frozen BK101.out 2
         have hfz14_3 := blk_frozen BK101.out 3
         have hfz14_4 := blk_frozen BK101.out 4
         go_wp2_with (first | (at_builtin; refine Kd.R_append_str (w0 := w0) w0.heap.size rfl (.tmp 18) _ 39 9 5 rfl Try.underlying39 Try.underlying9 info5 u9000_ l0 (a1.extract (a2_1 : Int).toNat (a2_2 : Int).toNat) (fun k_ => (P0_ k_ ∨ w.heap.size ≤ k_)) rfl rfl ?aF ?aO ?aB ?aS ?aL ?_; (case aB => exact Z103); (case aF => exact (fun k_ hk => (.inr (Nat.le_trans (by first | exact HK.out.1 | exact (show Kept w _ (fun k_ => P0_ k_) from Z99).1) hk)))); (case aO => exact Z25); (case aS => exact (below_size Z103)); (case aL => have := LMc13.out; omega); intro v103 w15 ho hb hg hat; rw [← Ny102.out] at ho; have n0_ := Aside0.mk (Kd.V_afterv (ok := (fun k_ => ((P0_ k_ ∨ P2_3_ k_ ∨ P2_4_ k_) ∨ w.heap.size ≤ k_) ∧ k_ ≠ gb101)) (by (with_reducible repeat (first | apply Kd.V_alloc | apply Kd.V_drewN | apply Kd.V_drew)); exact Kd.V_mono HO_102003.out (fun _ hk => ⟨⟨hk.1, hk.2.2⟩, hk.2.1⟩)) hg hat); have n1_ := Aside0.mk (Kd.V_afterv (ok := (fun k_ => ((P0_ k_ ∨ P2_3_ k_ ∨ P2_4_ k_) ∨ w.heap.size ≤ k_) ∧ k_ ≠ gb101)) (by (with_reducible repeat (first | apply Kd.V_alloc | apply Kd.V_drewN | apply Kd.V_drew)); exact Kd.V_mono HO_102004.out (fun _ hk => ⟨⟨hk.1, hk.2.2⟩, hk.2.1⟩)) hg hat); have n2_ := Aside0.mk (blk_grown (g := gb101) (o := .cells #[.int .i64 a2_0, .int .i64 a2_1, .int .i64 a2_2, .slice A2_3 l2_3.length c2_3, .slice A2_4 l2_4.length c2_4] 25 (0, 0)) Z154 hg (Kd.R_ne HO_0.out BK101.out (by decide))); have n3_ := Aside0.mk (hb); have n4_ := Aside0.mk (Kept.of_grown (S := (fun k_ => P0_ k_)) hg Z99 (fun k_ e_ => (HO_0.out.1 k_ e_))); have n5_ := Aside0.mk (ho); clear HO_102003; clear HO_102004; clear BK101; clear HB; clear HK; clear HO_0; have HO_102003 := n0_; have HO_102004 := n1_; have BK101 := n2_; have HB := n3_; have HK := n4_; have HO104 := n5_; clear n0_ n1_ n2_ n3_ n4_ n5_; clear ho hb hg hat))
         go_ret
         exact ⟨_, Z15, by (with_reducible repeat (first | apply Kd.R_alloc | apply Kd.R_drewN | apply Kd.R_drew)); exact HO104.out, Z103, Z99⟩
       ·rw [if_neg c13] at H
        exact absurd H (by simp)
      ·rw [if_neg c12] at H
       exact absurd H (by simp)
     ·rw [if_neg c11] at H
      exact absurd H (by simp)
    ·rw [if_neg c10] at H
     exact absurd H (by simp)
   ·replace c9 := Bool.eq_false_iff.mpr c9
    subst c9
    have H1 : (none) = some r := Z34
    clear H
    have H := H1
    clear H1
    exact absurd H (by simp)
structure Knot_spec_bareTo where
 k_spec_bareTo : H_spec_bareTo
def knot_spec_bareTo : Nat → Knot_spec_bareTo
 | 0 => ⟨⟨fun _ _ _ _ _ _ _ _ => none, fun _ _ _ _ _ _ _ _ _ h => (by cases h), by intros; rename_i h; cases h⟩⟩
 | n + 1 => let K := knot_spec_bareTo n; ⟨⟨fun k => spec_bareTo.f  k, spec_bareTo.mono , spec_bareTo.calls ⟩⟩
def spec_bareTo.at_ (D : Nat) : H_spec_bareTo := (knot_spec_bareTo D).k_spec_bareTo
/-! ### spec_objects: function 23 -/
mutual
def spec_objects.l0 : Nat → Bool → Int → Int → Int → Int → Int → List (S53) → List (S25) → Option (Bool)
 | 0, _, _, _, _, _, _, _, _ => none
 | k + 1, x3, x10, x11, x106000, x106001, x106002, x106003, x106004 => if x11 < x10 then (if x3 = true then (spec_objects.l0 k true x10 (wrap64 (x11 + 1)) x106000 x106001 x106002 x106003 x106004) else (if 0 ≤ x11 then (if x11 < (x106004.length : Int) then ((spec_objects.f k ((rd_T25 x106004 x11).f0) ((rd_T25 x106004 x11).f1) ((rd_T25 x106004 x11).f2) ((rd_T25 x106004 x11).f3) ((rd_T25 x106004 x11).f4)).bind fun t107 => (spec_objects.l0 k t107 x10 (wrap64 (x11 + 1)) x106000 x106001 x106002 x106003 x106004)) else (none)) else (none))) else (some x3)
def spec_objects.f : Nat → Int → Int → Int → List (S53) → List (S25) → Option (Bool)
 | 0, _, _, _, _, _ => none
 | k + 1, a0_0, a0_1, a0_2, l0_3, l0_4 => spec_objects.l0 k (a0_0 == 6) (l0_4.length : Int) 0 a0_0 a0_1 a0_2 l0_3 l0_4
end
theorem spec_objects.mono_l : ∀ k, (∀ y0 y1 y2 y3 y4, LeO (spec_objects.f k y0 y1 y2 y3 y4) (spec_objects.f (k + 1) y0 y1 y2 y3 y4)) ∧ (∀ y0 y1 y2 y3 y4 y5 y6 y7, LeO (spec_objects.l0 k y0 y1 y2 y3 y4 y5 y6 y7) (spec_objects.l0 (k + 1) y0 y1 y2 y3 y4 y5 y6 y7))
 | 0 => ⟨fun _ _ _ _ _ r h => by simp [spec_objects.f] at h, fun _ _ _ _ _ _ _ _ r h => by simp [spec_objects.l0] at h⟩
 | k + 1 => by
  obtain ⟨ih0, ih1⟩ := spec_objects.mono_l k
  refine ⟨?_, ?_⟩ <;> intros <;> first | unfold spec_objects.f | unfold spec_objects.l0
  all_goals
   repeat' first
   | (with_reducible exact ih0 _ _ _ _ _)
   | (with_reducible exact ih1 _ _ _ _ _ _ _ _)
   | (with_reducible exact LeO.refl _)
   | (with_reducible exact LeO.none _)
   | (with_reducible refine LeO.ite ?_ ?_)
   | (with_reducible refine LeO.bind ?_ (fun _ => ?_))
   | exact ih0 _ _ _ _ _
   | exact ih1 _ _ _ _ _ _ _ _
   | exact LeO.none _
   | refine LeO.ite ?_ ?_
   | refine LeO.bind ?_ (fun _ => ?_)
theorem spec_objects.mono : ∀ a0 a1 a2 a3 a4 k, LeO (spec_objects.f k a0 a1 a2 a3 a4) (spec_objects.f (k + 1) a0 a1 a2 a3 a4) := by
 intro a0 a1 a2 a3 a4 k
 obtain ⟨ih0, ih1⟩ := spec_objects.mono_l k
 exact ih0 a0 a1 a2 a3 a4
set_option maxHeartbeats 8000000 in
set_option maxRecDepth 100000 in
theorem spec_objects.calls (k : Nat) : ∀ (a0_0 : Int) (a0_1 : Int) (a0_2 : Int) (A0_3 : Option Addr) (c0_3 : Nat) (l0_3 : List (S53)) (A0_4 : Option Addr) (c0_4 : Nat) (l0_4 : List (S25)) (r : Bool) (w : World) (hr0_3 : Kd.C k53 w A0_3 l0_3.length l0_3) (hc0_3 : l0_3.length ≤ c0_3) (hr0_4 : Kd.C k25 w A0_4 l0_4.length l0_4) (hc0_4 : l0_4.length ≤ c0_4) (h : spec_objects.f k a0_0 a0_1 a0_2 l0_3 l0_4 = some r),
  Calls Try.prog 23 #[.agg #[.int .i64 a0_0, .int .i64 a0_1, .int .i64 a0_2, .slice A0_3 l0_3.length c0_3, .slice A0_4 l0_4.length c0_4]] w fun e w' => e = .returned (.bool r) ∧ Below w.heap.size w w' := by
 induction k using Nat.strongRecOn with
 | _ k ih =>
 intro a0_0 a0_1 a0_2 A0_3 c0_3 l0_3 A0_4 c0_4 l0_4 r w hr0_3 hc0_3 hr0_4 hc0_4 h
 cases k with
 | zero => exact absurd h (by simp [spec_objects.f])
 | succ k =>
 simp only [spec_objects.f] at h
 have hu25 := Try.underlying25
 have HR0_3 := Aside0.mk hr0_3
 have HC0_3 := Aside0.mk hc0_3
 clear hr0_3 hc0_3
 have HR0_4 := Aside0.mk hr0_4
 have HC0_4 := Aside0.mk hc0_4
 clear hr0_4 hc0_4
 have HB := Aside0.mk (Below.refl w.heap.size w)
 have H : (spec_objects.l0 k (a0_0 == 6) (l0_4.length : Int) 0 a0_0 a0_1 a0_2 l0_3 l0_4) = some r := h
 clear h
 have H' := Aside0.mk H
 clear H
 go_enter Try.func23, Try.ntmps23
 go_wp2_with (first | ((with_reducible refine gate_dst (N := 1) rfl ?_); refine box_event ?hg (N := 1) ?hd (cs := #[.int .i64 a0_0, .int .i64 a0_1, .int .i64 a0_2, .slice A0_3 l0_3.length c0_3, .slice A0_4 l0_4.length c0_4]) (t := 25) ?hr ?_; (case hd => rfl); (case hg => rfl); (case hr => exact Z62); intro gb105 hg w2 hbox hb; have n0_ := Aside0.mk (below_step Z5 hb); have n1_ := Aside0.mk (hbox); have n2_ := Aside0.mk ((by rw [hg]; exact (below_size Z5) : w.heap.size ≤ gb105)); have n3_ := Aside0.mk ((by rw [hg]; exact (below_size Z5) : w.heap.size ≤ gb105)); clear HB; have HB := n0_; have BK105 := n1_; have GW105 := n2_; have GE105 := n3_; clear n0_ n1_ n2_ n3_; clear hb hbox hg; have hcz3_0 : w2.cell? ⟨gb105, 0, none⟩ = some (.int .i64 a0_0) := (blk_cell BK105.out 0).trans rfl; have hcz3_1 : w2.cell? ⟨gb105, 1, none⟩ = some (.int .i64 a0_1) := (blk_cell BK105.out 1).trans rfl; have hcz3_2 : w2.cell? ⟨gb105, 2, none⟩ = some (.int .i64 a0_2) := (blk_cell BK105.out 2).trans rfl; have hcz3_3 : w2.cell? ⟨gb105, 3, none⟩ = some (.slice A0_3 l0_3.length c0_3) := (blk_cell BK105.out 3).trans rfl; have hcz3_4 : w2.cell? ⟨gb105, 4, none⟩ = some (.slice A0_4 l0_4.length c0_4) := (blk_cell BK105.out 4).trans rfl; have hfz3_0 := blk_frozen BK105.out 0; have hfz3_1 := blk_frozen BK105.out 1; have hfz3_2 := blk_frozen BK105.out 2; have hfz3_3 := blk_frozen BK105.out 3; have hfz3_4 := blk_frozen BK105.out 4))
 (try simp only [Act.put, List.setIfInBounds_toArray, List.set_cons_zero, List.set_cons_succ])
 go_loopg [3, 11] k (fun kq v3 v11 w' => ∃ (x3_1 : Bool) (x11_1 : Int), v3 = .bool x3_1 ∧ v11 = .int .i64 x11_1 ∧ Aside0 (spec_objects.l0 kq x3_1 (l0_4.length : Int) x11_1 a0_0 a0_1 a0_2 l0_3 l0_4 = some r) ∧ Aside0 (kq ≤ k) ∧ Aside0 (w'.heap[gb105]? = some (.cells #[.int .i64 a0_0, .int .i64 a0_1, .int .i64 a0_2, (.slice A0_3 l0_3.length c0_3), (.slice A0_4 l0_4.length c0_4)] 25 (0, 0))) ∧ Aside0 (Below w.heap.size w w'))
 case atStart => exact ⟨((a0_0 == 6)), (0), Z16, Z16, H', ⟨Nat.le_refl _⟩, ⟨Z139⟩, ⟨Z102⟩⟩
 case round =>
  clear H'
  try clear hcz3_0
  try clear hcz3_1
  try clear hcz3_2
  try clear hcz3_3
  try clear hcz3_4
  try clear hfz3_0
  try clear hfz3_1
  try clear hfz3_2
  try clear hfz3_3
  try clear hfz3_4
  obtain ⟨x3_1, x11_1, rfl, rfl, HA, HK1, BK105, HB⟩ := hrel
  cases gk with
  | zero => exact absurd HA.out (by simp [spec_objects.l0])
  | succ k1 =>
   have H := HA.out
   clear HA
   simp only [spec_objects.l0] at H
   by_cases c4 : x11_1 < (l0_4.length : Int)
   ·rw [if_pos c4] at H
    have c4b0 : decide (x11_1 < (l0_4.length : Int)) = true := decide_eq_true c4
    clear c4
    by_cases c5 : x3_1 = true
    ·subst c5
     have H1 : (spec_objects.l0 k1 true (l0_4.length : Int) (wrap64 (x11_1 + 1)) a0_0 a0_1 a0_2 l0_3 l0_4) = some r := Z61
     clear H
     have H := H1
     clear H1
     ·
      have H' := Aside0.mk H
      clear H
      go_wp2
      go_roundg k1
      case measure => have := HK1.out; omega
      case rel => exact ⟨(true), (wrap64 (x11_1 + 1)), Z16, Z16, H', ⟨by have := HK1.out; omega⟩, ⟨Z139⟩, ⟨Z102⟩⟩
    ·replace c5 := Bool.eq_false_iff.mpr c5
     subst c5
     have H1 : (if 0 ≤ x11_1 then (if x11_1 < (l0_4.length : Int) then ((spec_objects.f k1 ((rd_T25 l0_4 x11_1).f0) ((rd_T25 l0_4 x11_1).f1) ((rd_T25 l0_4 x11_1).f2) ((rd_T25 l0_4 x11_1).f3) ((rd_T25 l0_4 x11_1).f4)).bind fun t107 => (spec_objects.l0 k1 t107 (l0_4.length : Int) (wrap64 (x11_1 + 1)) a0_0 a0_1 a0_2 l0_3 l0_4)) else (none)) else (none)) = some r := Z34
     clear H
     have H := H1
     clear H1
     by_cases c6 : 0 ≤ x11_1
     ·rw [if_pos c6] at H
      have c6b0 : decide (0 ≤ x11_1) = true := decide_eq_true c6
      clear c6
      by_cases c7 : x11_1 < (l0_4.length : Int)
      ·rw [if_pos c7] at H
       have c7b0 : decide (x11_1 < (l0_4.length : Int)) = true := decide_eq_true c7
       clear c7
       replace H := Option.bind_eq_some_iff.mp H
       obtain ⟨t107, A80, H⟩ := H
       replace H : (spec_objects.l0 k1 t107 (l0_4.length : Int) (wrap64 (x11_1 + 1)) a0_0 a0_1 a0_2 l0_3 l0_4) = some r := H
       have A8 := Aside0.mk A80
       clear A80
       ·
        have H' := Aside0.mk H
        clear H
        have hcz9_0 : wr.cell? ⟨gb105, 0, none⟩ = some (.int .i64 a0_0) := (blk_cell BK105.out 0).trans rfl
        have hcz9_1 : wr.cell? ⟨gb105, 1, none⟩ = some (.int .i64 a0_1) := (blk_cell BK105.out 1).trans rfl
        have hcz9_2 : wr.cell? ⟨gb105, 2, none⟩ = some (.int .i64 a0_2) := (blk_cell BK105.out 2).trans rfl
        have hcz9_3 : wr.cell? ⟨gb105, 3, none⟩ = some (.slice A0_3 l0_3.length c0_3) := (blk_cell BK105.out 3).trans rfl
        have hcz9_4 : wr.cell? ⟨gb105, 4, none⟩ = some (.slice A0_4 l0_4.length c0_4) := (blk_cell BK105.out 4).trans rfl
        have hfz9_0 := blk_frozen BK105.out 0
        have hfz9_1 := blk_frozen BK105.out 1
        have hfz9_2 := blk_frozen BK105.out 2
        have hfz9_3 := blk_frozen BK105.out 3
        have hfz9_4 := blk_frozen BK105.out 4
        have p106 : 0 ≤ (x11_1 : Int) := of_decide_eq_true Z11
        have q106 : x11_1 < (l0_4.length : Int) := of_decide_eq_true Z11
        obtain ⟨ad106, A106_3, c106_3, A106_4, c106_4, e106, hx106_0, hx106_1, hx106_2, hx106_3, hx106_4, hl106_3, hi106_3, hl106_4, hi106_4⟩ := at_T25 HR0_4.out x11_1 p106 q106
        cases e106
        replace hx106_0 := (HB.out.cell (World.block_lt_of_cell? w _ hx106_0)).trans hx106_0
        replace hx106_1 := (HB.out.cell (World.block_lt_of_cell? w _ hx106_1)).trans hx106_1
        replace hx106_2 := (HB.out.cell (World.block_lt_of_cell? w _ hx106_2)).trans hx106_2
        replace hx106_3 := (HB.out.cell (World.block_lt_of_cell? w _ hx106_3)).trans hx106_3
        replace hx106_4 := (HB.out.cell (World.block_lt_of_cell? w _ hx106_4)).trans hx106_4
        have HR106_3 := Aside0.mk hi106_3
        have HC106_3 := Aside0.mk hl106_3
        clear hi106_3 hl106_3
        have HR106_4 := Aside0.mk hi106_4
        have HC106_4 := Aside0.mk hl106_4
        clear hi106_4 hl106_4
        replace p106 := eq_true p106
        replace q106 := eq_true q106
        go_wp2_with (first | (go_at_call 23; (with_reducible refine (ih k1 (by have := HK1.out; omega) ((rd_T25 l0_4 x11_1).f0) ((rd_T25 l0_4 x11_1).f1) ((rd_T25 l0_4 x11_1).f2) _ _ ((rd_T25 l0_4 x11_1).f3) _ _ ((rd_T25 l0_4 x11_1).f4) t107 _ ?side1 ?side2 ?side3 ?side4 A8.out).mono ?_); (case side1 => repeat (first | exact (Kd.C_below HR106_3.out HB.out) | (with_reducible refine Kd.C_alloc ?_ _) | (with_reducible refine Kd.C_drewN ?_ _) | (with_reducible refine Kd.C_drew ?_))); (case side2 => exact HC106_3.out); (case side3 => repeat (first | exact (Kd.C_below HR106_4.out HB.out) | (with_reducible refine Kd.C_alloc ?_ _) | (with_reducible refine Kd.C_drewN ?_ _) | (with_reducible refine Kd.C_drew ?_))); (case side4 => exact HC106_4.out); rintro e w10 ⟨rfl, hb⟩; have n0_ := Aside0.mk (blk_below (g := gb105) (o := .cells #[.int .i64 a0_0, .int .i64 a0_1, .int .i64 a0_2, .slice A0_3 l0_3.length c0_3, .slice (some ad106) l0_4.length c0_4] 25 (0, 0)) Z139 hb); have n1_ := Aside0.mk (below_step Z102 hb); clear BK105; clear HB; have BK105 := n0_; have HB := n1_; clear n0_ n1_; (try clear hb); (try clear hb2); (try clear hk); (try clear hi)))
        go_roundg k1
        case measure => have := HK1.out; omega
        case rel => exact ⟨(t107), (wrap64 (x11_1 + 1)), Z16, Z16, H', ⟨by have := HK1.out; omega⟩, ⟨Z139⟩, ⟨Z102⟩⟩
      ·rw [if_neg c7] at H
       exact absurd H (by simp)
     ·rw [if_neg c6] at H
      exact absurd H (by simp)
   ·rw [if_neg c4] at H
    have c4b0 : decide (x11_1 < (l0_4.length : Int)) = false := decide_eq_false c4
    clear c4
    ·
     obtain rfl := Option.some.inj H
     go_wp2
     go_ret
     exact ⟨Z15, Z102⟩
structure H_spec_lineTo where
 f : Nat → List Int → ByteArray → Int → Int → Int → List (S53) → List (S25) → Option (List Int)
 mono : ∀ a0 a1 a2 a3 a4 a5 a6 k, LeO (f k a0 a1 a2 a3 a4 a5 a6) (f (k + 1) a0 a1 a2 a3 a4 a5 a6)
 calls : ∀ (k : Nat) (P0_ : Nat → Prop) (u9000_ : Value) (l0 : List Int) (a1 : ByteArray) (a2_0 : Int) (a2_1 : Int) (a2_2 : Int) (P2_3_ : Nat → Prop) (A2_3 : Option Addr) (c2_3 : Nat) (l2_3 : List (S53)) (P2_4_ : Nat → Prop) (A2_4 : Option Addr) (c2_4 : Nat) (l2_4 : List (S25)) (r : List Int) (w0 w : World) (hB : Below w0.heap.size w0 w) (ho0 : Kd.R (Kd.int .u8) 5 w w0.heap.size P0_ u9000_ l0) (hs2_3 : Kd.V k53 53 w w0.heap.size (fun k_ => P2_3_ k_ ∧ some k_ ≠ (u9000_ : Value).ownBlock) (.slice A2_3 l2_3.length c2_3) l2_3) (hs2_4 : Kd.V k25 25 w w0.heap.size (fun k_ => P2_4_ k_ ∧ some k_ ≠ (u9000_ : Value).ownBlock) (.slice A2_4 l2_4.length c2_4) l2_4) (h : f k l0 a1 a2_0 a2_1 a2_2 l2_3 l2_4 = some r),
  Calls Try.prog 24 #[u9000_, .string a1, .agg #[.int .i64 a2_0, .int .i64 a2_1, .int .i64 a2_2, .slice A2_3 l2_3.length c2_3, .slice A2_4 l2_4.length c2_4]] w fun e w' => ∃ v0_ : Value, e = .returned (v0_) ∧ Kd.R (Kd.int .u8) 5 w' w0.heap.size (fun k_ => (P0_ k_ ∨ w.heap.size ≤ k_)) v0_ r ∧ Below w0.heap.size w0 w' ∧ Kept w w' (fun k_ => P0_ k_)
/-! ### spec_lineTo: function 24 -/
def spec_lineTo.l0 (V_spec_lineTo : H_spec_lineTo) : Nat → List Int → ByteArray → Int → Int → Int → Int → Int → List (S53) → List (S25) → Option (List Int)
 | 0, _, _, _, _, _, _, _, _, _ => none
 | k + 1, x0, x1, x24, x25, x109000, x109001, x109002, x109003, x109004 => if x25 < x24 then (if x25 > 0 then ((some (([44, 32] : List Int) : List Int)).bind fun y115 => (if x0.length + y115.length < 140737488355328 then (if 0 ≤ x25 then (if x25 < (x109004.length : Int) then ((V_spec_lineTo.f k (x0 ++ y115) x1 ((rd_T25 x109004 x25).f0) ((rd_T25 x109004 x25).f1) ((rd_T25 x109004 x25).f2) ((rd_T25 x109004 x25).f3) ((rd_T25 x109004 x25).f4)).bind fun t122 => (spec_lineTo.l0 V_spec_lineTo k t122 x1 x24 (wrap64 (x25 + 1)) x109000 x109001 x109002 x109003 x109004)) else (none)) else (none)) else (none))) else (if 0 ≤ x25 then (if x25 < (x109004.length : Int) then ((V_spec_lineTo.f k x0 x1 ((rd_T25 x109004 x25).f0) ((rd_T25 x109004 x25).f1) ((rd_T25 x109004 x25).f2) ((rd_T25 x109004 x25).f3) ((rd_T25 x109004 x25).f4)).bind fun t126 => (spec_lineTo.l0 V_spec_lineTo k t126 x1 x24 (wrap64 (x25 + 1)) x109000 x109001 x109002 x109003 x109004)) else (none)) else (none))) else (if x0.length < 140737488355328 then (some (x0 ++ [93])) else (none))
def spec_lineTo.f (V_spec_lineTo : H_spec_lineTo) (k : Nat) (l0 : List Int) (a1 : ByteArray) (a2_0 : Int) (a2_1 : Int) (a2_2 : Int) (l2_3 : List (S53)) (l2_4 : List (S25)) : Option (List Int) := if a2_0 = 5 then (if l0.length < 140737488355328 then (spec_lineTo.l0 V_spec_lineTo k (l0 ++ [91]) a1 (l2_4.length : Int) 0 a2_0 a2_1 a2_2 l2_3 l2_4) else (none)) else (if 0 ≤ a2_1 then (if a2_1 ≤ a2_2 then (if a2_2 ≤ (a1.size : Int) then (if l0.length + (a1.extract (a2_1 : Int).toNat (a2_2 : Int).toNat).size < 140737488355328 then (some (l0 ++ bytesOf (a1.extract (a2_1 : Int).toNat (a2_2 : Int).toNat))) else (none)) else (none)) else (none)) else (none))
theorem spec_lineTo.mono_l (V_spec_lineTo : H_spec_lineTo) : ∀ k, (∀ y0 y1 y2 y3 y4 y5 y6 y7 y8, LeO (spec_lineTo.l0 V_spec_lineTo k y0 y1 y2 y3 y4 y5 y6 y7 y8) (spec_lineTo.l0 V_spec_lineTo (k + 1) y0 y1 y2 y3 y4 y5 y6 y7 y8))
 | 0 => fun _ _ _ _ _ _ _ _ _ r h => by simp [spec_lineTo.l0] at h
 | k + 1 => by
  have ih0 := spec_lineTo.mono_l V_spec_lineTo k
  ·intro y0 y1 y2 y3 y4 y5 y6 y7 y8
   unfold spec_lineTo.l0
   repeat' first
   | (with_reducible exact ih0 _ _ _ _ _ _ _ _ _)
   | (with_reducible exact V_spec_lineTo.mono _ _ _ _ _ _ _ _)
   | (with_reducible exact LeO.refl _)
   | (with_reducible exact LeO.none _)
   | (with_reducible refine LeO.ite ?_ ?_)
   | (with_reducible refine LeO.bind ?_ (fun _ => ?_))
   | exact ih0 _ _ _ _ _ _ _ _ _
   | exact V_spec_lineTo.mono _ _ _ _ _ _ _ _
   | exact LeO.none _
   | refine LeO.ite ?_ ?_
   | refine LeO.bind ?_ (fun _ => ?_)
theorem spec_lineTo.mono (V_spec_lineTo : H_spec_lineTo) : ∀ a0 a1 a2 a3 a4 a5 a6 k, LeO (spec_lineTo.f V_spec_lineTo k a0 a1 a2 a3 a4 a5 a6) (spec_lineTo.f V_spec_lineTo (k + 1) a0 a1 a2 a3 a4 a5 a6) := by
 intro a0 a1 a2 a3 a4 a5 a6 k
 have ih0 := spec_lineTo.mono_l V_spec_lineTo k
 unfold spec_lineTo.f
 repeat' first
   | (with_reducible exact ih0 _ _ _ _ _ _ _ _ _)
   | (with_reducible exact V_spec_lineTo.mono _ _ _ _ _ _ _ _)
   | (with_reducible exact LeO.refl _)
   | (with_reducible exact LeO.none _)
   | (with_reducible refine LeO.ite ?_ ?_)
   | (with_reducible refine LeO.bind ?_ (fun _ => ?_))
   | exact ih0 _ _ _ _ _ _ _ _ _
   | exact V_spec_lineTo.mono _ _ _ _ _ _ _ _
   | exact LeO.none _
   | refine LeO.ite ?_ ?_
   | refine LeO.bind ?_ (fun _ => ?_)
set_option maxHeartbeats 8000000 in
set_option maxRecDepth 100000 in
theorem spec_lineTo.calls (V_spec_lineTo : H_spec_lineTo) (k : Nat) (P0_ : Nat → Prop) (u9000_ : Value) (l0 : List Int) (a1 : ByteArray) (a2_0 : Int) (a2_1 : Int) (a2_2 : Int) (P2_3_ : Nat → Prop) (A2_3 : Option Addr) (c2_3 : Nat) (l2_3 : List (S53)) (P2_4_ : Nat → Prop) (A2_4 : Option Addr) (c2_4 : Nat) (l2_4 : List (S25)) (r : List Int) (w0 w : World) (hB : Below w0.heap.size w0 w) (ho0 : Kd.R (Kd.int .u8) 5 w w0.heap.size P0_ u9000_ l0) (hs2_3 : Kd.V k53 53 w w0.heap.size (fun k_ => P2_3_ k_ ∧ some k_ ≠ (u9000_ : Value).ownBlock) (.slice A2_3 l2_3.length c2_3) l2_3) (hs2_4 : Kd.V k25 25 w w0.heap.size (fun k_ => P2_4_ k_ ∧ some k_ ≠ (u9000_ : Value).ownBlock) (.slice A2_4 l2_4.length c2_4) l2_4) (h : spec_lineTo.f V_spec_lineTo k l0 a1 a2_0 a2_1 a2_2 l2_3 l2_4 = some r) :
  Calls Try.prog 24 #[u9000_, .string a1, .agg #[.int .i64 a2_0, .int .i64 a2_1, .int .i64 a2_2, .slice A2_3 l2_3.length c2_3, .slice A2_4 l2_4.length c2_4]] w fun e w' => ∃ v0_ : Value, e = .returned (v0_) ∧ Kd.R (Kd.int .u8) 5 w' w0.heap.size (fun k_ => (P0_ k_ ∨ w.heap.size ≤ k_)) v0_ r ∧ Below w0.heap.size w0 w' ∧ Kept w w' (fun k_ => P0_ k_) := by
 have hu25 := Try.underlying25
 have HO0 := Aside0.mk (show Kd.R (Kd.int .u8) 5 w w0.heap.size (fun k_ => (P0_ k_ ∨ w.heap.size ≤ k_)) u9000_ l0 from Kd.R_mono ho0 (fun k_ hk => (.inl hk)))
 have HO2_3 := Aside0.mk (show Kd.V k53 53 w w0.heap.size (fun k_ => ((P0_ k_ ∨ P2_3_ k_ ∨ P2_4_ k_) ∨ w.heap.size ≤ k_) ∧ some k_ ≠ (u9000_ : Value).ownBlock) (.slice A2_3 l2_3.length c2_3) l2_3 from Kd.V_mono hs2_3 (fun k_ hk => ⟨.inl (.inr (.inl hk.1)), hk.2⟩))
 have HO2_4 := Aside0.mk (show Kd.V k25 25 w w0.heap.size (fun k_ => ((P0_ k_ ∨ P2_3_ k_ ∨ P2_4_ k_) ∨ w.heap.size ≤ k_) ∧ some k_ ≠ (u9000_ : Value).ownBlock) (.slice A2_4 l2_4.length c2_4) l2_4 from Kd.V_mono hs2_4 (fun k_ hk => ⟨.inl (.inr (.inr hk.1)), hk.2⟩))
 have HK := Aside0.mk (Kept.refl w (fun k_ => P0_ k_))
 have HW0 := Aside0.mk hB.size
 have HB := Aside0.mk hB
 clear hB
 have H : (if a2_0 = 5 then (if l0.length < 140737488355328 then (spec_lineTo.l0 V_spec_lineTo k (l0 ++ [91]) a1 (l2_4.length : Int) 0 a2_0 a2_1 a2_2 l2_3 l2_4) else (none)) else (if 0 ≤ a2_1 then (if a2_1 ≤ a2_2 then (if a2_2 ≤ (a1.size : Int) then (if l0.length + (a1.extract (a2_1 : Int).toNat (a2_2 : Int).toNat).size < 140737488355328 then (some (l0 ++ bytesOf (a1.extract (a2_1 : Int).toNat (a2_2 : Int).toNat))) else (none)) else (none)) else (none)) else (none))) = some r := h
 clear h
 by_cases c4 : a2_0 = 5
 ·rw [if_pos c4] at H
  have c4b0 : (a2_0 == 5) = true := beq_iff_eq.mpr c4
  have c4b1 : (a2_0 != 5) = false := bne_eq_false_iff_eq.mpr c4
  clear c4
  by_cases c5 : l0.length < 140737488355328
  ·rw [if_pos c5] at H
   have LMc5 := Aside0.mk c5
   clear c5
   obtain ⟨y112, hy112⟩ : ∃ y_ : List Int, y_ = (l0 ++ [91]) := ⟨_, rfl⟩
   replace H : (spec_lineTo.l0 V_spec_lineTo k y112 a1 (l2_4.length : Int) 0 a2_0 a2_1 a2_2 l2_3 l2_4) = some r := by first | (rw [hy112]; with_reducible exact H) | (have H2_ := (Option.bind_some _ _).symm.trans H; rw [hy112]; with_reducible exact H2_) | (have H2_ := (Option.bind_some _ _).symm.trans H; with_reducible exact H2_) | with_reducible exact H | (rw [hy112]; exact H) | exact H
   have Ny112 := Aside0.mk hy112
   clear hy112
   have H' := Aside0.mk H
   clear H
   go_enter Try.func24, Try.ntmps24
   go_wp2_with (first | ((with_reducible refine gate_dst (N := 5) rfl ?_); refine box_event ?hg (N := 5) ?hd (cs := #[.int .i64 a2_0, .int .i64 a2_1, .int .i64 a2_2, .slice A2_3 l2_3.length c2_3, .slice A2_4 l2_4.length c2_4]) (t := 25) ?hr ?_; (case hd => rfl); (case hg => rfl); (case hr => exact Z62); intro gb108 hg w6 hbox hb; have n0_ := Aside0.mk (Kd.R_below Z54 hb); have n1_ := Aside0.mk (Kd.V_below (Kd.V_elderB Z117 gb108 (Nat.le_of_eq hg.symm)) hb); have n2_ := Aside0.mk (Kd.V_below (Kd.V_elderB Z116 gb108 (Nat.le_of_eq hg.symm)) hb); have n3_ := Aside0.mk (Kept.below (S := (fun k_ => P0_ k_)) Z7 hb); have n4_ := Aside0.mk (below_step Z5 hb); have n5_ := Aside0.mk (hbox); have n6_ := Aside0.mk ((by rw [hg]; exact Z35 : w.heap.size ≤ gb108)); have n7_ := Aside0.mk ((by rw [hg]; exact (below_size Z5) : w0.heap.size ≤ gb108)); clear HO0; clear HO2_3; clear HO2_4; clear HK; clear HB; have HO0 := n0_; have HO2_3 := n1_; have HO2_4 := n2_; have HK := n3_; have HB := n4_; have BK108 := n5_; have GW108 := n6_; have GE108 := n7_; clear n0_ n1_ n2_ n3_ n4_ n5_ n6_ n7_; clear hb hbox hg; have hcz7_0 : w6.cell? ⟨gb108, 0, none⟩ = some (.int .i64 a2_0) := (blk_cell BK108.out 0).trans rfl; have hcz7_1 : w6.cell? ⟨gb108, 1, none⟩ = some (.int .i64 a2_1) := (blk_cell BK108.out 1).trans rfl; have hcz7_2 : w6.cell? ⟨gb108, 2, none⟩ = some (.int .i64 a2_2) := (blk_cell BK108.out 2).trans rfl; have hcz7_3 : w6.cell? ⟨gb108, 3, none⟩ = some (.slice A2_3 l2_3.length c2_3) := (blk_cell BK108.out 3).trans rfl; have hcz7_4 : w6.cell? ⟨gb108, 4, none⟩ = some (.slice A2_4 l2_4.length c2_4) := (blk_cell BK108.out 4).trans rfl; have hfz7_0 := blk_frozen BK108.out 0; have hfz7_1 := blk_frozen BK108.out 1; have hfz7_2 := blk_frozen BK108.out 2; have hfz7_3 := blk_frozen BK108.out 3; have hfz7_4 := blk_frozen BK108.out 4) | ((with_reducible refine gate_builtin (b := .append) (xs := #[.tmp 19, .tmp 20]) rfl ?_); at_builtin; refine Kd.R_append (Kd.int .u8) (w0 := w0) w0.heap.size rfl (.tmp 19) (.tmp 20) 39 5 (.int .u8 0) 1 rfl Try.underlying39 info5 rfl (by decide) (by omega) u9000_ l0 91 [.int .u8 91] (fun k_ => (P0_ k_ ∨ w.heap.size ≤ k_)) (fun _ => False) rfl rfl ?aP (fun _ hk => hk.elim) ?aF ?aO ?aB ?aS ?aL ?_; (case aP => exact rfl); (case aB => exact Z42); (case aF => exact (fun k_ hk => (.inr (Nat.le_trans Z127 hk)))); (case aO => exact Z54); (case aS => exact (below_size Z42)); (case aL => have := LMc5.out; omega); intro v113 w8 ho hb hg hat; rw [← Ny112.out] at ho; have n0_ := Aside0.mk (Kd.V_afterv (ok := (fun k_ => ((P0_ k_ ∨ P2_3_ k_ ∨ P2_4_ k_) ∨ w.heap.size ≤ k_) ∧ k_ ≠ gb108)) (by (with_reducible repeat (first | apply Kd.V_alloc | apply Kd.V_drewN | apply Kd.V_drew)); exact Kd.V_mono HO2_3.out (fun _ hk => ⟨⟨hk.1.1, hk.2⟩, hk.1.2⟩)) hg hat); have n1_ := Aside0.mk (Kd.V_afterv (ok := (fun k_ => ((P0_ k_ ∨ P2_3_ k_ ∨ P2_4_ k_) ∨ w.heap.size ≤ k_) ∧ k_ ≠ gb108)) (by (with_reducible repeat (first | apply Kd.V_alloc | apply Kd.V_drewN | apply Kd.V_drew)); exact Kd.V_mono HO2_4.out (fun _ hk => ⟨⟨hk.1.1, hk.2⟩, hk.1.2⟩)) hg hat); have n2_ := Aside0.mk (blk_grown (g := gb108) (o := .cells #[.int .i64 a2_0, .int .i64 a2_1, .int .i64 a2_2, .slice A2_3 l2_3.length c2_3, .slice A2_4 l2_4.length c2_4] 25 (0, 0)) Z85 hg (Kd.R_ne HO0.out BK108.out (by decide))); have n3_ := Aside0.mk (hb); have n4_ := Aside0.mk (Kept.of_grown (S := (fun k_ => P0_ k_)) hg Z39 (fun k_ e_ => (HO0.out.1 k_ e_))); have n5_ := Aside0.mk (ho); clear HO2_3; clear HO2_4; clear BK108; clear HB; clear HK; clear HO0; have HO2_3 := n0_; have HO2_4 := n1_; have BK108 := n2_; have HB := n3_; have HK := n4_; have HO114 := n5_; clear n0_ n1_ n2_ n3_ n4_ n5_; clear ho hb hg hat; have hcz9_0 : w8.cell? ⟨gb108, 0, none⟩ = some (.int .i64 a2_0) := (blk_cell BK108.out 0).trans rfl; have hcz9_1 : w8.cell? ⟨gb108, 1, none⟩ = some (.int .i64 a2_1) := (blk_cell BK108.out 1).trans rfl; have hcz9_2 : w8.cell? ⟨gb108, 2, none⟩ = some (.int .i64 a2_2) := (blk_cell BK108.out 2).trans rfl; have hcz9_3 : w8.cell? ⟨gb108, 3, none⟩ = some (.slice A2_3 l2_3.length c2_3) := (blk_cell BK108.out 3).trans rfl; have hcz9_4 : w8.cell? ⟨gb108, 4, none⟩ = some (.slice A2_4 l2_4.length c2_4) := (blk_cell BK108.out 4).trans rfl; have hfz9_0 := blk_frozen BK108.out 0; have hfz9_1 := blk_frozen BK108.out 1; have hfz9_2 := blk_frozen BK108.out 2; have hfz9_3 := blk_frozen BK108.out 3; have hfz9_4 := blk_frozen BK108.out 4))
   (try simp only [Act.put, List.setIfInBounds_toArray, List.set_cons_zero, List.set_cons_succ])
   go_loopg [0, 25] k (fun kq v0 v25 w' => ∃ (x0_1 : List Int) (x25_1 : Int), v25 = .int .i64 x25_1 ∧ Aside0 (spec_lineTo.l0 V_spec_lineTo kq x0_1 a1 (l2_4.length : Int) x25_1 a2_0 a2_1 a2_2 l2_3 l2_4 = some r) ∧ Aside0 (kq ≤ k) ∧ Aside0 (Kd.R (Kd.int .u8) 5 w' w0.heap.size (fun k_ => (P0_ k_ ∨ w.heap.size ≤ k_)) v0 x0_1) ∧ Aside0 (Kd.V k53 53 w' w0.heap.size (fun k_ => ((P0_ k_ ∨ P2_3_ k_ ∨ P2_4_ k_) ∨ w.heap.size ≤ k_) ∧ some k_ ≠ (v0 : Value).ownBlock ∧ k_ ≠ gb108) (.slice A2_3 l2_3.length c2_3) l2_3) ∧ Aside0 (Kd.V k25 25 w' w0.heap.size (fun k_ => ((P0_ k_ ∨ P2_3_ k_ ∨ P2_4_ k_) ∨ w.heap.size ≤ k_) ∧ some k_ ≠ (v0 : Value).ownBlock ∧ k_ ≠ gb108) (.slice A2_4 l2_4.length c2_4) l2_4) ∧ Aside0 (w'.heap[gb108]? = some (.cells #[.int .i64 a2_0, .int .i64 a2_1, .int .i64 a2_2, (.slice A2_3 l2_3.length c2_3), (.slice A2_4 l2_4.length c2_4)] 25 (0, 0))) ∧ Aside0 (Kept w w' (fun k_ => P0_ k_)) ∧ Aside0 (Below w0.heap.size w0 w'))
   case atStart => exact ⟨(y112), (0), Z16, H', ⟨Nat.le_refl _⟩, ⟨by (with_reducible repeat (first | apply Kd.R_alloc | apply Kd.R_drewN | apply Kd.R_drew)); exact HO114.out⟩, ⟨by (with_reducible repeat (first | apply Kd.V_alloc | apply Kd.V_drewN | apply Kd.V_drew)); exact Kd.V_mono HO2_3.out (fun _ hk => ⟨hk.1.1, ⟨hk.2, hk.1.2⟩⟩)⟩, ⟨by (with_reducible repeat (first | apply Kd.V_alloc | apply Kd.V_drewN | apply Kd.V_drew)); exact Kd.V_mono HO2_4.out (fun _ hk => ⟨hk.1.1, ⟨hk.2, hk.1.2⟩⟩)⟩, ⟨Z85⟩, ⟨Z39⟩, ⟨Z42⟩⟩
   case round =>
    clear H'
    try clear c4
    try clear c4b0
    try clear c4b1
    try clear c5
    try clear hcz7_0
    try clear hcz7_1
    try clear hcz7_2
    try clear hcz7_3
    try clear hcz7_4
    try clear hcz9_0
    try clear hcz9_1
    try clear hcz9_2
    try clear hcz9_3
    try clear hcz9_4
    try clear hfz7_0
    try clear hfz7_1
    try clear hfz7_2
    try clear hfz7_3
    try clear hfz7_4
    try clear hfz9_0
    try clear hfz9_1
    try clear hfz9_2
    try clear hfz9_3
    try clear hfz9_4
    obtain ⟨x0_1, x25_1, rfl, HA, HK1, HO_0, HO_109003, HO_109004, BK108, HK, HB⟩ := hrel
    cases gk with
    | zero => exact absurd HA.out (by simp [spec_lineTo.l0])
    | succ k1 =>
     have H := HA.out
     clear HA
     simp only [spec_lineTo.l0] at H
     by_cases c10 : x25_1 < (l2_4.length : Int)
     ·rw [if_pos c10] at H
      have c10b0 : decide (x25_1 < (l2_4.length : Int)) = true := decide_eq_true c10
      clear c10
      by_cases c11 : x25_1 > 0
      ·rw [if_pos c11] at H
       have c11b0 : decide (0 < x25_1) = true := decide_eq_true c11
       clear c11
       obtain ⟨y115, hy115⟩ : ∃ y_ : List Int, y_ = (([44, 32] : List Int)) := ⟨_, rfl⟩
       replace H : (if x0_1.length + y115.length < 140737488355328 then (if 0 ≤ x25_1 then (if x25_1 < (l2_4.length : Int) then ((V_spec_lineTo.f k1 (x0_1 ++ y115) a1 ((rd_T25 l2_4 x25_1).f0) ((rd_T25 l2_4 x25_1).f1) ((rd_T25 l2_4 x25_1).f2) ((rd_T25 l2_4 x25_1).f3) ((rd_T25 l2_4 x25_1).f4)).bind fun t122 => (spec_lineTo.l0 V_spec_lineTo k1 t122 a1 (l2_4.length : Int) (wrap64 (x25_1 + 1)) a2_0 a2_1 a2_2 l2_3 l2_4)) else (none)) else (none)) else (none)) = some r := by first | (rw [hy115]; with_reducible exact H) | (have H2_ := (Option.bind_some _ _).symm.trans H; rw [hy115]; with_reducible exact H2_) | (have H2_ := (Option.bind_some _ _).symm.trans H; with_reducible exact H2_) | with_reducible exact H | (rw [hy115]; exact H) | exact H
       have Ny115 := Aside0.mk hy115
       clear hy115
       by_cases c12 : x0_1.length + y115.length < 140737488355328
       ·rw [if_pos c12] at H
        have LMc12 := Aside0.mk c12
        clear c12
        obtain ⟨y118, hy118⟩ : ∃ y_ : List Int, y_ = (x0_1 ++ y115) := ⟨_, rfl⟩
        replace H : (if 0 ≤ x25_1 then (if x25_1 < (l2_4.length : Int) then ((V_spec_lineTo.f k1 y118 a1 ((rd_T25 l2_4 x25_1).f0) ((rd_T25 l2_4 x25_1).f1) ((rd_T25 l2_4 x25_1).f2) ((rd_T25 l2_4 x25_1).f3) ((rd_T25 l2_4 x25_1).f4)).bind fun t122 => (spec_lineTo.l0 V_spec_lineTo k1 t122 a1 (l2_4.length : Int) (wrap64 (x25_1 + 1)) a2_0 a2_1 a2_2 l2_3 l2_4)) else (none)) else (none)) = some r := by first | (rw [hy118]; with_reducible exact H) | (have H2_ := (Option.bind_some _ _).symm.trans H; rw [hy118]; with_reducible exact H2_) | (have H2_ := (Option.bind_some _ _).symm.trans H; with_reducible exact H2_) | with_reducible exact H | (rw [hy118]; exact H) | exact H
        have Ny118 := Aside0.mk hy118
        clear hy118
        by_cases c13 : 0 ≤ x25_1
        ·rw [if_pos c13] at H
         have c13b0 : decide (0 ≤ x25_1) = true := decide_eq_true c13
         clear c13
         by_cases c14 : x25_1 < (l2_4.length : Int)
         ·rw [if_pos c14] at H
          have c14b0 : decide (x25_1 < (l2_4.length : Int)) = true := decide_eq_true c14
          clear c14
          replace H := Option.bind_eq_some_iff.mp H
          obtain ⟨t122, A150, H⟩ := H
          replace H : (spec_lineTo.l0 V_spec_lineTo k1 t122 a1 (l2_4.length : Int) (wrap64 (x25_1 + 1)) a2_0 a2_1 a2_2 l2_3 l2_4) = some r := H
          have A15 := Aside0.mk A150
          clear A150
          ·
           have H' := Aside0.mk H
           clear H
           go_wp2_with (first | ((with_reducible refine gate_dst (N := 31) rfl ?_); refine Kd.R_lit (Kd.int .u8) _ 5 ?hg (N := 31) ?hd (xs := ([44, 32] : List Int)) (inner := [.int .u8 44, .int .u8 32]) (ok := fun _ => True) (okp := fun _ => True) ?hr ?hp (fun _ hk => hk) trivial (Below.refl _ _) (Nat.le_refl _) (by simp) ?_; (case hd => rfl); (case hg => rfl); (case hr => exact Z62); (case hp => exact (Reps.one (show Kd.M (Kd.int .u8) _ _ _ 44 [.int .u8 44] from rfl) (Reps.one (show Kd.M (Kd.int .u8) _ _ _ 32 [.int .u8 32] from rfl) (Reps.none _ _)))); intro v116 w16 ho17 hb hg_ hnew_; clear hg_ hnew_; (first | rw [← Ny115.out] at ho17 | (simp only [Int.reduceToNat] at ho17; rw [← Ny115.out] at ho17)); have n0_ := Aside0.mk (Kd.R_elder' Z25 (Kd.R_base ho17) hb); have n1_ := Aside0.mk (Kd.V_elder' (by (with_reducible repeat (first | apply Kd.V_alloc | apply Kd.V_drewN | apply Kd.V_drew)); exact HO_109003.out) (Kd.R_base ho17) hb); have n2_ := Aside0.mk (Kd.V_elder' (by (with_reducible repeat (first | apply Kd.V_alloc | apply Kd.V_drewN | apply Kd.V_drew)); exact HO_109004.out) (Kd.R_base ho17) hb); have n3_ := Aside0.mk (Kd.R_lower (Kd.R_new' (Kd.R_newM (M := fun k_ => (P0_ k_ ∨ w.heap.size ≤ k_)) ho17 Z127 (fun k_ h_ => .inr h_)) (Kd.R_lt Z25)) (below_size Z42)); have n4_ := Aside0.mk (blk_below (g := gb108) (o := .cells #[.int .i64 a2_0, .int .i64 a2_1, .int .i64 a2_2, .slice A2_3 l2_3.length c2_3, .slice A2_4 l2_4.length c2_4] 25 (0, 0)) Z85 hb); have n5_ := Aside0.mk (Kept.below (S := (fun k_ => P0_ k_)) Z39 hb); have n6_ := Aside0.mk (below_step Z42 hb); clear HO_0; clear HO_109003; clear HO_109004; clear BK108; clear HK; clear HB; have HO_0 := n0_; have HO_109003 := n1_; have HO_109004 := n2_; have HO117 := n3_; have BK108 := n4_; have HK := n5_; have HB := n6_; clear n0_ n1_ n2_ n3_ n4_ n5_ n6_; clear hb ho17; obtain ⟨Ao19, co19, eo19⟩ := Kd.R_slice HO117.out; subst eo19) | ((with_reducible refine gate_builtin (b := .append) (xs := #[.tmp 30, .tmp 31]) rfl ?_); at_builtin; refine Kd.R_append_rows (Kd.int .u8) (w0 := w0) w0.heap.size rfl (.tmp 30) (.tmp 31) 39 5 (.int .u8 0) 1 rfl Try.underlying39 info5 rfl (by decide) (by omega) u0 x0_1 y115 _ _ _ (fun k_ => (P0_ k_ ∨ w.heap.size ≤ k_) ∧ some k_ ≠ (.slice Ao19 y115.length co19 : Value).ownBlock) (fun _ => False) rfl rfl ?aO ?aR (fun _ _ h => h) (fun _ h => h.elim) ?aF ?aB ?aS ?aL ?_; (case aR => repeat (first | exact (Kd.R_reads' HO117.out).2.2 | (with_reducible refine Kd.C_alloc ?_ _) | (with_reducible refine Kd.C_drewN ?_ _) | (with_reducible refine Kd.C_drew ?_))); (case aB => exact Z42); (case aF => exact (fun k_ hk => ⟨(.inr (Nat.le_trans Z127 hk)), Kd.fresh' (Kd.R_lt (by (with_reducible repeat (first | apply Kd.R_alloc | apply Kd.R_drewN | apply Kd.R_drew)); exact HO117.out)) k_ hk⟩)); (case aO => exact Z25); (case aS => exact (below_size Z42)); (case aL => have := LMc12.out; omega); intro v119 w18 ho hb hg hat; rw [← Ny118.out] at ho; have n0_ := Aside0.mk (Kd.V_afterv (ok := (fun k_ => ((P0_ k_ ∨ P2_3_ k_ ∨ P2_4_ k_) ∨ w.heap.size ≤ k_) ∧ some k_ ≠ (.slice Ao19 y115.length co19 : Value).ownBlock ∧ k_ ≠ gb108)) (by (with_reducible repeat (first | apply Kd.V_alloc | apply Kd.V_drewN | apply Kd.V_drew)); exact Kd.V_mono HO_109003.out (fun _ hk => ⟨⟨hk.1.1, ⟨hk.2, hk.1.2.2⟩⟩, hk.1.2.1⟩)) hg hat); have n1_ := Aside0.mk (Kd.V_afterv (ok := (fun k_ => ((P0_ k_ ∨ P2_3_ k_ ∨ P2_4_ k_) ∨ w.heap.size ≤ k_) ∧ some k_ ≠ (.slice Ao19 y115.length co19 : Value).ownBlock ∧ k_ ≠ gb108)) (by (with_reducible repeat (first | apply Kd.V_alloc | apply Kd.V_drewN | apply Kd.V_drew)); exact Kd.V_mono HO_109004.out (fun _ hk => ⟨⟨hk.1.1, ⟨hk.2, hk.1.2.2⟩⟩, hk.1.2.1⟩)) hg hat); have n2_ := Aside0.mk (blk_grown (g := gb108) (o := .cells #[.int .i64 a2_0, .int .i64 a2_1, .int .i64 a2_2, .slice A2_3 l2_3.length c2_3, .slice A2_4 l2_4.length c2_4] 25 (0, 0)) Z85 hg (Kd.R_ne HO_0.out BK108.out (by decide))); have n3_ := Aside0.mk (Kd.R_after (ok := (fun k_ => (P0_ k_ ∨ w.heap.size ≤ k_))) (by (with_reducible repeat (first | apply Kd.R_alloc | apply Kd.R_drewN | apply Kd.R_drew)); exact Kd.R_mono HO117.out (fun _ hk => ⟨hk.1.1, hk.2⟩)) hg hat); have n4_ := Aside0.mk (hb); have n5_ := Aside0.mk (Kept.of_grown (S := (fun k_ => P0_ k_)) hg Z39 (fun k_ e_ => (HO_0.out.1 k_ e_).1)); have n6_ := Aside0.mk (ho); clear HO_109003; clear HO_109004; clear BK108; clear HO117; clear HB; clear HK; clear HO_0; have HO_109003 := n0_; have HO_109004 := n1_; have BK108 := n2_; have HO117 := n3_; have HB := n4_; have HK := n5_; have HO120 := n6_; clear n0_ n1_ n2_ n3_ n4_ n5_ n6_; clear ho hb hg hat; have hcz20_0 : w18.cell? ⟨gb108, 0, none⟩ = some (.int .i64 a2_0) := (blk_cell BK108.out 0).trans rfl; have hcz20_1 : w18.cell? ⟨gb108, 1, none⟩ = some (.int .i64 a2_1) := (blk_cell BK108.out 1).trans rfl; have hcz20_2 : w18.cell? ⟨gb108, 2, none⟩ = some (.int .i64 a2_2) := (blk_cell BK108.out 2).trans rfl; have hcz20_3 : w18.cell? ⟨gb108, 3, none⟩ = some (.slice A2_3 l2_3.length c2_3) := (blk_cell BK108.out 3).trans rfl; have hcz20_4 : w18.cell? ⟨gb108, 4, none⟩ = some (.slice A2_4 l2_4.length c2_4) := (blk_cell BK108.out 4).trans rfl; have hfz20_0 := blk_frozen BK108.out 0; have hfz20_1 := blk_frozen BK108.out 1; have hfz20_2 := blk_frozen BK108.out 2; have hfz20_3 := blk_frozen BK108.out 3; have hfz20_4 := blk_frozen BK108.out 4; have p121 : 0 ≤ (x25_1 : Int) := of_decide_eq_true Z11; have q121 : x25_1 < (l2_4.length : Int) := of_decide_eq_true Z11; obtain ⟨ad121, A121_3, c121_3, A121_4, c121_4, e121, hx121_0, hx121_1, hx121_2, hx121_3, hx121_4, hl121_3, hi121_3, hl121_4, hi121_4⟩ := at_T25 (Kd.V_reads' HO_109004.out).2.2 x25_1 p121 q121; cases e121; obtain ⟨ce121, hce121, hMe121, hcc121⟩ := Kd.V_get HO_109004.out z25 x25_1 p121 (by first | exact q121 | exact of_decide_eq_true Z11 | (have e_ := (Kd.V_reads' HO_109004.out).1; omega)); obtain ⟨ua121_3, uc121_3, ua121_4, uc121_4, rfl, ul121_3, ge121_3, ul121_4, ge121_4⟩ := k25_openF hMe121; have hv121_3 := hcc121 3 _ rfl; rw [add_field _ _ 3 (by omega)] at hv121_3; replace hv121_3 := Option.some.inj (hv121_3.symm.trans hx121_3); injection hv121_3 with hva_ hvn_ hvc_; rw [hva_] at ge121_3; rw [hvc_] at ul121_3; have HL121_3 := Aside0.mk (show Kd.V k53 53 _ w0.heap.size _ _ ((rd_T25 l2_4 x25_1).f3) from Kd.V_mk ul121_3 ge121_3); clear hva_ hvn_ hvc_ ge121_3 ul121_3; have hv121_4 := hcc121 4 _ rfl; rw [add_field _ _ 4 (by omega)] at hv121_4; replace hv121_4 := Option.some.inj (hv121_4.symm.trans hx121_4); injection hv121_4 with hva_ hvn_ hvc_; rw [hva_] at ge121_4; rw [hvc_] at ul121_4; have HL121_4 := Aside0.mk (show Kd.V k25 25 _ w0.heap.size _ _ ((rd_T25 l2_4 x25_1).f4) from Kd.V_mk ul121_4 ge121_4); clear hva_ hvn_ hvc_ ge121_4 ul121_4; clear hcc121 hce121; have HR121_3 := Aside0.mk hi121_3; have HC121_3 := Aside0.mk hl121_3; clear hi121_3 hl121_3; have HR121_4 := Aside0.mk hi121_4; have HC121_4 := Aside0.mk hl121_4; clear hi121_4 hl121_4; replace p121 := eq_true p121; replace q121 := eq_true q121; obtain ⟨Ao21, co21, eo21⟩ := Kd.R_slice HO120.out; subst eo21) | ((with_reducible refine gate_callee (f := 24) rfl ?_); refine goesL_ (some 40) rfl rfl Try.func24 (by kernel_rfl) rfl #[.slice Ao21 y118.length co21, .string a1, .agg #[.int .i64 ((rd_T25 l2_4 x25_1).f0), .int .i64 ((rd_T25 l2_4 x25_1).f1), .int .i64 ((rd_T25 l2_4 x25_1).f2), .slice A121_3 ((rd_T25 l2_4 x25_1).f3).length c121_3, .slice A121_4 ((rd_T25 l2_4 x25_1).f4).length c121_4]] rfl Z13 ?_; (with_reducible refine (V_spec_lineTo.calls k1 (fun k_ => some k_ = (.slice Ao21 y118.length co21 : Value).ownBlock) (.slice Ao21 y118.length co21) y118 a1 ((rd_T25 l2_4 x25_1).f0) ((rd_T25 l2_4 x25_1).f1) ((rd_T25 l2_4 x25_1).f2) (fun k_ => ((((P0_ k_ ∨ P2_3_ k_ ∨ P2_4_ k_) ∨ w.heap.size ≤ k_) ∧ (some k_ ≠ (.slice Ao19 y115.length co19 : Value).ownBlock ∧ k_ ≠ gb108)) ∧ some k_ ≠ (.slice Ao21 y118.length co21 : Value).ownBlock)) _ _ ((rd_T25 l2_4 x25_1).f3) (fun k_ => ((((P0_ k_ ∨ P2_3_ k_ ∨ P2_4_ k_) ∨ w.heap.size ≤ k_) ∧ (some k_ ≠ (.slice Ao19 y115.length co19 : Value).ownBlock ∧ k_ ≠ gb108)) ∧ some k_ ≠ (.slice Ao21 y118.length co21 : Value).ownBlock)) _ _ ((rd_T25 l2_4 x25_1).f4) t122 w0 _ ?side1 ?side2 ?side3 ?side4 A15.out).mono ?_); (case side1 => exact Z42); (case side2 => exact Kd.R_tight rfl HO120.out); (case side3 => exact Kd.V_mono (HL121_3.out) (fun k_ hk_ => ⟨hk_, hk_.2⟩)); (case side4 => exact Kd.V_mono (HL121_4.out) (fun k_ hk_ => ⟨hk_, hk_.2⟩)); rintro e w22 ⟨v123, rfl, ho0, hb, hkp⟩; refine ⟨_, rfl, ?_⟩; have n0_ := Aside0.mk (Kd.V_mono (ok' := fun k_ => ((P0_ k_ ∨ P2_3_ k_ ∨ P2_4_ k_) ∨ w.heap.size ≤ k_) ∧ some k_ ≠ (.slice Ao19 y115.length co19 : Value).ownBlock ∧ k_ ≠ gb108 ∧ some k_ ≠ (v123 : Value).ownBlock) (Kd.V_keptB (HO_109003.out) hkp (fun k_ hk_ hs_ => (hk_.2) hs_)) (fun k_ hk_ => ⟨hk_.1.1.1, hk_.1.1.2.1, hk_.1.1.2.2, fun e_ => Or.elim (ho0.1 k_ e_.symm) (fun hs_ => hk_.2.1 hs_) (fun hn_ => Nat.not_le.2 hk_.2.2 hn_)⟩)); have n1_ := Aside0.mk (Kd.V_mono (ok' := fun k_ => ((P0_ k_ ∨ P2_3_ k_ ∨ P2_4_ k_) ∨ w.heap.size ≤ k_) ∧ some k_ ≠ (.slice Ao19 y115.length co19 : Value).ownBlock ∧ k_ ≠ gb108 ∧ some k_ ≠ (v123 : Value).ownBlock) (Kd.V_keptB (HO_109004.out) hkp (fun k_ hk_ hs_ => (hk_.2) hs_)) (fun k_ hk_ => ⟨hk_.1.1.1, hk_.1.1.2.1, hk_.1.1.2.2, fun e_ => Or.elim (ho0.1 k_ e_.symm) (fun hs_ => hk_.2.1 hs_) (fun hn_ => Nat.not_le.2 hk_.2.2 hn_)⟩)); have n2_ := Aside0.mk (blk_kept Z85 hkp (fun hs_ => (fun e_ => (Kd.R_ne HO120.out BK108.out (by decide)) e_) hs_)); have n3_ := Aside0.mk (Kd.R_mono (ok' := fun k_ => (P0_ k_ ∨ w.heap.size ≤ k_) ∧ some k_ ≠ (v123 : Value).ownBlock) (Kd.R_keptB (HO117.out) hkp (fun k_ hk_ hs_ => (hk_.2) hs_)) (fun k_ hk_ => ⟨hk_.1.1, fun e_ => Or.elim (ho0.1 k_ e_.symm) (fun hs_ => hk_.2.1 hs_) (fun hn_ => Nat.not_le.2 hk_.2.2 hn_)⟩)); have n4_ := Aside0.mk (Kd.R_mono (ok' := fun k_ => (P0_ k_ ∨ w.heap.size ≤ k_) ∧ some k_ ≠ (.slice Ao19 y115.length co19 : Value).ownBlock) ho0 (fun k_ hk_ => ⟨Or.elim hk_ (fun hs_ => (HO120.out.1 k_ (hs_).symm).1) (fun hn_ => (.inr (Nat.le_trans Z127 hn_))), Or.elim hk_ (fun hs_ => fun e_ => (((HO117.out).1 k_ e_.symm).2) hs_) (fun hn_ => (Kd.fresh' (Kd.R_lt (by (with_reducible repeat (first | apply Kd.R_alloc | apply Kd.R_drewN | apply Kd.R_drew)); exact HO117.out)) k_ hn_))⟩)); have n5_ := Aside0.mk (Kept.then_ (S := (fun k_ => P0_ k_)) Z39 hkp (fun k_ hs_ => (fun e_ => (HO120.out.1 k_ e_.symm).1) hs_)); have n6_ := Aside0.mk (hb); clear HO_109003; clear HO_109004; clear BK108; clear HO117; clear HK; clear HB; clear HO120; clear HL121_3; clear HL121_4; have HO_109003 := n0_; have HO_109004 := n1_; have BK108 := n2_; have HO117 := n3_; have HO124 := n4_; have HK := n5_; have HB := n6_; clear n0_ n1_ n2_ n3_ n4_ n5_ n6_; (try clear hb); (try clear hkp); (try clear ho0)))
           go_roundg k1
           case measure => have := HK1.out; omega
           case rel => exact ⟨(t122), (wrap64 (x25_1 + 1)), Z16, H', ⟨by have := HK1.out; omega⟩, ⟨by (with_reducible repeat (first | apply Kd.R_alloc | apply Kd.R_drewN | apply Kd.R_drew)); exact Kd.R_mono HO124.out (fun _ hk => hk.1)⟩, ⟨by (with_reducible repeat (first | apply Kd.V_alloc | apply Kd.V_drewN | apply Kd.V_drew)); exact Kd.V_mono HO_109003.out (fun _ hk => ⟨hk.1, ⟨hk.2.2.2, hk.2.2.1⟩⟩)⟩, ⟨by (with_reducible repeat (first | apply Kd.V_alloc | apply Kd.V_drewN | apply Kd.V_drew)); exact Kd.V_mono HO_109004.out (fun _ hk => ⟨hk.1, ⟨hk.2.2.2, hk.2.2.1⟩⟩)⟩, ⟨Z85⟩, ⟨Z39⟩, ⟨Z42⟩⟩
         ·rw [if_neg c14] at H
          exact absurd H (by simp)
        ·rw [if_neg c13] at H
         exact absurd H (by simp)
       ·rw [if_neg c12] at H
        exact absurd H (by simp)
      ·rw [if_neg c11] at H
       have c11b0 : decide (0 < x25_1) = false := decide_eq_false c11
       clear c11
       by_cases c23 : 0 ≤ x25_1
       ·rw [if_pos c23] at H
        have c23b0 : decide (0 ≤ x25_1) = true := decide_eq_true c23
        clear c23
        by_cases c24 : x25_1 < (l2_4.length : Int)
        ·rw [if_pos c24] at H
         have c24b0 : decide (x25_1 < (l2_4.length : Int)) = true := decide_eq_true c24
         clear c24
         replace H := Option.bind_eq_some_iff.mp H
         obtain ⟨t126, A250, H⟩ := H
         replace H : (spec_lineTo.l0 V_spec_lineTo k1 t126 a1 (l2_4.length : Int) (wrap64 (x25_1 + 1)) a2_0 a2_1 a2_2 l2_3 l2_4) = some r := H
         have A25 := Aside0.mk A250
         clear A250
         ·
          have H' := Aside0.mk H
          clear H
          have hcz26_0 : wr.cell? ⟨gb108, 0, none⟩ = some (.int .i64 a2_0) := (blk_cell BK108.out 0).trans rfl
          have hcz26_1 : wr.cell? ⟨gb108, 1, none⟩ = some (.int .i64 a2_1) := (blk_cell BK108.out 1).trans rfl
          have hcz26_2 : wr.cell? ⟨gb108, 2, none⟩ = some (.int .i64 a2_2) := (blk_cell BK108.out 2).trans rfl
          have hcz26_3 : wr.cell? ⟨gb108, 3, none⟩ = some (.slice A2_3 l2_3.length c2_3) := (blk_cell BK108.out 3).trans rfl
          have hcz26_4 : wr.cell? ⟨gb108, 4, none⟩ = some (.slice A2_4 l2_4.length c2_4) := (blk_cell BK108.out 4).trans rfl
          have hfz26_0 := blk_frozen BK108.out 0
          have hfz26_1 := blk_frozen BK108.out 1
          have hfz26_2 := blk_frozen BK108.out 2
          have hfz26_3 := blk_frozen BK108.out 3
          have hfz26_4 := blk_frozen BK108.out 4
          have p125 : 0 ≤ (x25_1 : Int) := of_decide_eq_true Z11
          have q125 : x25_1 < (l2_4.length : Int) := of_decide_eq_true Z11
          obtain ⟨ad125, A125_3, c125_3, A125_4, c125_4, e125, hx125_0, hx125_1, hx125_2, hx125_3, hx125_4, hl125_3, hi125_3, hl125_4, hi125_4⟩ := at_T25 (Kd.V_reads' HO_109004.out).2.2 x25_1 p125 q125
          cases e125
          obtain ⟨ce125, hce125, hMe125, hcc125⟩ := Kd.V_get HO_109004.out z25 x25_1 p125 (by first | exact q125 | exact of_decide_eq_true Z11 | (have e_ := (Kd.V_reads' HO_109004.out).1; omega))
          obtain ⟨ua125_3, uc125_3, ua125_4, uc125_4, rfl, ul125_3, ge125_3, ul125_4, ge125_4⟩ := k25_openF hMe125
          have hv125_3 := hcc125 3 _ rfl
          rw [add_field _ _ 3 (by omega)] at hv125_3
          replace hv125_3 := Option.some.inj (hv125_3.symm.trans hx125_3)
          injection hv125_3 with hva_ hvn_ hvc_
          rw [hva_] at ge125_3
          rw [hvc_] at ul125_3
          have HL125_3 := Aside0.mk (show Kd.V k53 53 _ w0.heap.size _ _ ((rd_T25 l2_4 x25_1).f3) from Kd.V_mk ul125_3 ge125_3)
          clear hva_ hvn_ hvc_ ge125_3 ul125_3
          have hv125_4 := hcc125 4 _ rfl
          rw [add_field _ _ 4 (by omega)] at hv125_4
          replace hv125_4 := Option.some.inj (hv125_4.symm.trans hx125_4)
          injection hv125_4 with hva_ hvn_ hvc_
          rw [hva_] at ge125_4
          rw [hvc_] at ul125_4
          have HL125_4 := Aside0.mk (show Kd.V k25 25 _ w0.heap.size _ _ ((rd_T25 l2_4 x25_1).f4) from Kd.V_mk ul125_4 ge125_4)
          clear hva_ hvn_ hvc_ ge125_4 ul125_4
          clear hcc125 hce125
          have HR125_3 := Aside0.mk hi125_3
          have HC125_3 := Aside0.mk hl125_3
          clear hi125_3 hl125_3
          have HR125_4 := Aside0.mk hi125_4
          have HC125_4 := Aside0.mk hl125_4
          clear hi125_4 hl125_4
          replace p125 := eq_true p125
          replace q125 := eq_true q125
          obtain ⟨Ao27, co27, eo27⟩ := Kd.R_slice HO_0.out
          subst eo27
          go_wp2_with (first | ((with_reducible refine gate_callee (f := 24) rfl ?_); refine goesL_ (some 40) rfl rfl Try.func24 (by kernel_rfl) rfl #[.slice Ao27 x0_1.length co27, .string a1, .agg #[.int .i64 ((rd_T25 l2_4 x25_1).f0), .int .i64 ((rd_T25 l2_4 x25_1).f1), .int .i64 ((rd_T25 l2_4 x25_1).f2), .slice A125_3 ((rd_T25 l2_4 x25_1).f3).length c125_3, .slice A125_4 ((rd_T25 l2_4 x25_1).f4).length c125_4]] rfl Z13 ?_; (with_reducible refine (V_spec_lineTo.calls k1 (fun k_ => some k_ = (.slice Ao27 x0_1.length co27 : Value).ownBlock) (.slice Ao27 x0_1.length co27) x0_1 a1 ((rd_T25 l2_4 x25_1).f0) ((rd_T25 l2_4 x25_1).f1) ((rd_T25 l2_4 x25_1).f2) (fun k_ => (((P0_ k_ ∨ P2_3_ k_ ∨ P2_4_ k_) ∨ w.heap.size ≤ k_) ∧ (some k_ ≠ (.slice Ao27 x0_1.length co27 : Value).ownBlock ∧ k_ ≠ gb108))) _ _ ((rd_T25 l2_4 x25_1).f3) (fun k_ => (((P0_ k_ ∨ P2_3_ k_ ∨ P2_4_ k_) ∨ w.heap.size ≤ k_) ∧ (some k_ ≠ (.slice Ao27 x0_1.length co27 : Value).ownBlock ∧ k_ ≠ gb108))) _ _ ((rd_T25 l2_4 x25_1).f4) t126 w0 _ ?side1 ?side2 ?side3 ?side4 A25.out).mono ?_); (case side1 => exact Z42); (case side2 => exact Kd.R_tight rfl HO_0.out); (case side3 => exact Kd.V_mono (HL125_3.out) (fun k_ hk_ => ⟨hk_, hk_.2.1⟩)); (case side4 => exact Kd.V_mono (HL125_4.out) (fun k_ hk_ => ⟨hk_, hk_.2.1⟩)); rintro e w28 ⟨v127, rfl, ho0, hb, hkp⟩; refine ⟨_, rfl, ?_⟩; have n0_ := Aside0.mk (Kd.V_mono (ok' := fun k_ => ((P0_ k_ ∨ P2_3_ k_ ∨ P2_4_ k_) ∨ w.heap.size ≤ k_) ∧ k_ ≠ gb108 ∧ some k_ ≠ (v127 : Value).ownBlock) (Kd.V_keptB (HO_109003.out) hkp (fun k_ hk_ hs_ => (hk_.2.1) hs_)) (fun k_ hk_ => ⟨hk_.1.1, hk_.1.2.2, fun e_ => Or.elim (ho0.1 k_ e_.symm) (fun hs_ => hk_.2.1 hs_) (fun hn_ => Nat.not_le.2 hk_.2.2 hn_)⟩)); have n1_ := Aside0.mk (Kd.V_mono (ok' := fun k_ => ((P0_ k_ ∨ P2_3_ k_ ∨ P2_4_ k_) ∨ w.heap.size ≤ k_) ∧ k_ ≠ gb108 ∧ some k_ ≠ (v127 : Value).ownBlock) (Kd.V_keptB (HO_109004.out) hkp (fun k_ hk_ hs_ => (hk_.2.1) hs_)) (fun k_ hk_ => ⟨hk_.1.1, hk_.1.2.2, fun e_ => Or.elim (ho0.1 k_ e_.symm) (fun hs_ => hk_.2.1 hs_) (fun hn_ => Nat.not_le.2 hk_.2.2 hn_)⟩)); have n2_ := Aside0.mk (blk_kept Z85 hkp (fun hs_ => (fun e_ => (Kd.R_ne HO_0.out BK108.out (by decide)) e_) hs_)); have n3_ := Aside0.mk (Kd.R_mono (ok' := fun k_ => (P0_ k_ ∨ w.heap.size ≤ k_)) ho0 (fun k_ hk_ => Or.elim hk_ (fun hs_ => (HO_0.out.1 k_ (hs_).symm)) (fun hn_ => (.inr (Nat.le_trans Z127 hn_))))); have n4_ := Aside0.mk (Kept.then_ (S := (fun k_ => P0_ k_)) Z39 hkp (fun k_ hs_ => (fun e_ => (HO_0.out.1 k_ e_.symm)) hs_)); have n5_ := Aside0.mk (hb); clear HO_109003; clear HO_109004; clear BK108; clear HK; clear HB; clear HO_0; clear HL125_3; clear HL125_4; have HO_109003 := n0_; have HO_109004 := n1_; have BK108 := n2_; have HO128 := n3_; have HK := n4_; have HB := n5_; clear n0_ n1_ n2_ n3_ n4_ n5_; (try clear hb); (try clear hkp); (try clear ho0)))
          go_roundg k1
          case measure => have := HK1.out; omega
          case rel => exact ⟨(t126), (wrap64 (x25_1 + 1)), Z16, H', ⟨by have := HK1.out; omega⟩, ⟨by (with_reducible repeat (first | apply Kd.R_alloc | apply Kd.R_drewN | apply Kd.R_drew)); exact HO128.out⟩, ⟨by (with_reducible repeat (first | apply Kd.V_alloc | apply Kd.V_drewN | apply Kd.V_drew)); exact Kd.V_mono HO_109003.out (fun _ hk => ⟨hk.1, ⟨hk.2.2, hk.2.1⟩⟩)⟩, ⟨by (with_reducible repeat (first | apply Kd.V_alloc | apply Kd.V_drewN | apply Kd.V_drew)); exact Kd.V_mono HO_109004.out (fun _ hk => ⟨hk.1, ⟨hk.2.2, hk.2.1⟩⟩)⟩, ⟨Z85⟩, ⟨Z39⟩, ⟨Z42⟩⟩
        ·rw [if_neg c24] at H
         exact absurd H (by simp)
       ·rw [if_neg c23] at H
        exact absurd H (by simp)
     ·rw [if_neg c10] at H
      have c10b0 : decide (x25_1 < (l2_4.length : Int)) = false := decide_eq_false c10
      clear c10
      by_cases c29 : x0_1.length < 140737488355328
      ·rw [if_pos c29] at H
       have LMc29 := Aside0.mk c29
       clear c29
       obtain ⟨y129, hy129⟩ : ∃ y_ : List Int, y_ = (x0_1 ++ [93]) := ⟨_, rfl⟩
       replace H : (some y129) = some r := by first | (rw [hy129]; with_reducible exact H) | (have H2_ := (Option.bind_some _ _).symm.trans H; rw [hy129]; with_reducible exact H2_) | (have H2_ := (Option.bind_some _ _).symm.trans H; with_reducible exact H2_) | with_reducible exact H | (rw [hy129]; exact H) | exact H
       have Ny129 := Aside0.mk hy129
       clear hy129
       ·
        obtain rfl := Option.some.inj H
        go_wp2_with (first | ((with_reducible refine gate_builtin (b := .append) (xs := #[.tmp 42, .tmp 43]) rfl ?_); at_builtin; refine Kd.R_append (Kd.int .u8) (w0 := w0) w0.heap.size rfl (.tmp 42) (.tmp 43) 39 5 (.int .u8 0) 1 rfl Try.underlying39 info5 rfl (by decide) (by omega) u0 x0_1 93 [.int .u8 93] (fun k_ => (P0_ k_ ∨ w.heap.size ≤ k_)) (fun _ => False) rfl rfl ?aP (fun _ hk => hk.elim) ?aF ?aO ?aB ?aS ?aL ?_; (case aP => exact rfl); (case aB => exact Z42); (case aF => exact (fun k_ hk => (.inr (Nat.le_trans Z127 hk)))); (case aO => exact Z25); (case aS => exact (below_size Z42)); (case aL => have := LMc29.out; omega); intro v130 w30 ho hb hg hat; rw [← Ny129.out] at ho; have n0_ := Aside0.mk (Kd.V_afterv (ok := (fun k_ => ((P0_ k_ ∨ P2_3_ k_ ∨ P2_4_ k_) ∨ w.heap.size ≤ k_) ∧ k_ ≠ gb108)) (by (with_reducible repeat (first | apply Kd.V_alloc | apply Kd.V_drewN | apply Kd.V_drew)); exact Kd.V_mono HO_109003.out (fun _ hk => ⟨⟨hk.1, hk.2.2⟩, hk.2.1⟩)) hg hat); have n1_ := Aside0.mk (Kd.V_afterv (ok := (fun k_ => ((P0_ k_ ∨ P2_3_ k_ ∨ P2_4_ k_) ∨ w.heap.size ≤ k_) ∧ k_ ≠ gb108)) (by (with_reducible repeat (first | apply Kd.V_alloc | apply Kd.V_drewN | apply Kd.V_drew)); exact Kd.V_mono HO_109004.out (fun _ hk => ⟨⟨hk.1, hk.2.2⟩, hk.2.1⟩)) hg hat); have n2_ := Aside0.mk (blk_grown (g := gb108) (o := .cells #[.int .i64 a2_0, .int .i64 a2_1, .int .i64 a2_2, .slice A2_3 l2_3.length c2_3, .slice A2_4 l2_4.length c2_4] 25 (0, 0)) Z85 hg (Kd.R_ne HO_0.out BK108.out (by decide))); have n3_ := Aside0.mk (hb); have n4_ := Aside0.mk (Kept.of_grown (S := (fun k_ => P0_ k_)) hg Z39 (fun k_ e_ => (HO_0.out.1 k_ e_))); have n5_ := Aside0.mk (ho); clear HO_109003; clear HO_109004; clear BK108; clear HB; clear HK; clear HO_0; have HO_109003 := n0_; have HO_109004 := n1_; have BK108 := n2_; have HB := n3_; have HK := n4_; have HO131 := n5_; clear n0_ n1_ n2_ n3_ n4_ n5_; clear ho hb hg hat))
        go_ret
        exact ⟨_, Z15, by (with_reducible repeat (first | apply Kd.R_alloc | apply Kd.R_drewN | apply Kd.R_drew)); exact HO131.out, Z42, Z39⟩
      ·rw [if_neg c29] at H
       exact absurd H (by simp)
  ·rw [if_neg c5] at H
   exact absurd H (by simp)
 ·rw [if_neg c4] at H
  have c4b0 : (a2_0 == 5) = false := beq_eq_false_iff_ne.mpr c4
  have c4b1 : (a2_0 != 5) = true := bne_iff_ne.mpr c4
  by_cases c31 : 0 ≤ a2_1
  ·rw [if_pos c31] at H
   have c31b0 := eq_true c31
   have c31b1 : decide (0 ≤ a2_1) = true := decide_eq_true c31
   clear c31
   by_cases c32 : a2_1 ≤ a2_2
   ·rw [if_pos c32] at H
    have c32b0 := eq_true c32
    have c32b1 : decide (a2_1 ≤ a2_2) = true := decide_eq_true c32
    clear c32
    by_cases c33 : a2_2 ≤ (a1.size : Int)
    ·rw [if_pos c33] at H
     have c33b0 := eq_true c33
     have c33b1 : decide (a2_2 ≤ (a1.size : Int)) = true := decide_eq_true c33
     clear c33
     by_cases c34 : l0.length + (a1.extract (a2_1 : Int).toNat (a2_2 : Int).toNat).size < 140737488355328
     ·rw [if_pos c34] at H
      have LMc34 := Aside0.mk c34
      clear c34
      obtain ⟨y109, hy109⟩ : ∃ y_ : List Int, y_ = (l0 ++ bytesOf (a1.extract (a2_1 : Int).toNat (a2_2 : Int).toNat)) := ⟨_, rfl⟩
      replace H : (some y109) = some r := by first | (rw [hy109]; with_reducible exact H) | (have H2_ := (Option.bind_some _ _).symm.trans H; rw [hy109]; with_reducible exact H2_) | (have H2_ := (Option.bind_some _ _).symm.trans H; with_reducible exact H2_) | with_reducible exact H | (rw [hy109]; exact H) | exact H
      have Ny109 := Aside0.mk hy109
      clear hy109
      ·
       obtain rfl := Option.some.inj H
       go_enter Try.func24, Try.ntmps24
       go_wp2_with (first | ((with_reducible refine gate_dst (N := 5) rfl ?_); refine box_event ?hg (N := 5) ?hd (cs := #[.int .i64 a2_0, .int .i64 a2_1, .int .i64 a2_2, .slice A2_3 l2_3.length c2_3, .slice A2_4 l2_4.length c2_4]) (t := 25) ?hr ?_; (case hd => rfl); (case hg => rfl); (case hr => exact Z62); intro gb108 hg w35 hbox hb; have n0_ := Aside0.mk (Kd.R_below Z54 hb); have n1_ := Aside0.mk (Kd.V_below (Kd.V_elderB Z117 gb108 (Nat.le_of_eq hg.symm)) hb); have n2_ := Aside0.mk (Kd.V_below (Kd.V_elderB Z116 gb108 (Nat.le_of_eq hg.symm)) hb); have n3_ := Aside0.mk (Kept.below (S := (fun k_ => P0_ k_)) Z7 hb); have n4_ := Aside0.mk (below_step Z5 hb); have n5_ := Aside0.mk (hbox); have n6_ := Aside0.mk ((by rw [hg]; exact Z35 : w.heap.size ≤ gb108)); have n7_ := Aside0.mk ((by rw [hg]; exact (below_size Z5) : w0.heap.size ≤ gb108)); clear HO0; clear HO2_3; clear HO2_4; clear HK; clear HB; have HO0 := n0_; have HO2_3 := n1_; have HO2_4 := n2_; have HK := n3_; have HB := n4_; have BK108 := n5_; have GW108 := n6_; have GE108 := n7_; clear n0_ n1_ n2_ n3_ n4_ n5_ n6_ n7_; clear hb hbox hg; have hcz36_0 : w35.cell? ⟨gb108, 0, none⟩ = some (.int .i64 a2_0) := (blk_cell BK108.out 0).trans rfl; have hcz36_1 : w35.cell? ⟨gb108, 1, none⟩ = some (.int .i64 a2_1) := (blk_cell BK108.out 1).trans rfl; have hcz36_2 : w35.cell? ⟨gb108, 2, none⟩ = some (.int .i64 a2_2) := (blk_cell BK108.out 2).trans rfl; have hcz36_3 : w35.cell? ⟨gb108, 3, none⟩ = some (.slice A2_3 l2_3.length c2_3) := (blk_cell BK108.out 3).trans rfl; have hcz36_4 : w35.cell? ⟨gb108, 4, none⟩ = some (.slice A2_4 l2_4.length c2_4) := (blk_cell BK108.out 4).trans rfl; have hfz36_0 := blk_frozen BK108.out 0; have hfz36_1 := blk_frozen BK108.out 1; have hfz36_2 := blk_frozen BK108.out 2; have hfz36_3 := blk_frozen BK108.out 3; have hfz36_4 := blk_frozen BK108.out 4) | (at_builtin; refine Kd.R_append_str (w0 := w0) w0.heap.size rfl (.tmp 11) _ 39 9 5 rfl Try.underlying39 Try.underlying9 info5 u9000_ l0 (a1.extract (a2_1 : Int).toNat (a2_2 : Int).toNat) (fun k_ => (P0_ k_ ∨ w.heap.size ≤ k_)) rfl rfl ?aF ?aO ?aB ?aS ?aL ?_; (case aB => exact Z42); (case aF => exact (fun k_ hk => (.inr (Nat.le_trans Z127 hk)))); (case aO => exact Z54); (case aS => exact (below_size Z42)); (case aL => have := LMc34.out; omega); intro v110 w37 ho hb hg hat; rw [← Ny109.out] at ho; have n0_ := Aside0.mk (Kd.V_afterv (ok := (fun k_ => ((P0_ k_ ∨ P2_3_ k_ ∨ P2_4_ k_) ∨ w.heap.size ≤ k_) ∧ k_ ≠ gb108)) (by (with_reducible repeat (first | apply Kd.V_alloc | apply Kd.V_drewN | apply Kd.V_drew)); exact Kd.V_mono HO2_3.out (fun _ hk => ⟨⟨hk.1.1, hk.2⟩, hk.1.2⟩)) hg hat); have n1_ := Aside0.mk (Kd.V_afterv (ok := (fun k_ => ((P0_ k_ ∨ P2_3_ k_ ∨ P2_4_ k_) ∨ w.heap.size ≤ k_) ∧ k_ ≠ gb108)) (by (with_reducible repeat (first | apply Kd.V_alloc | apply Kd.V_drewN | apply Kd.V_drew)); exact Kd.V_mono HO2_4.out (fun _ hk => ⟨⟨hk.1.1, hk.2⟩, hk.1.2⟩)) hg hat); have n2_ := Aside0.mk (blk_grown (g := gb108) (o := .cells #[.int .i64 a2_0, .int .i64 a2_1, .int .i64 a2_2, .slice A2_3 l2_3.length c2_3, .slice A2_4 l2_4.length c2_4] 25 (0, 0)) Z85 hg (Kd.R_ne HO0.out BK108.out (by decide))); have n3_ := Aside0.mk (hb); have n4_ := Aside0.mk (Kept.of_grown (S := (fun k_ => P0_ k_)) hg Z39 (fun k_ e_ => (HO0.out.1 k_ e_))); have n5_ := Aside0.mk (ho); clear HO2_3; clear HO2_4; clear BK108; clear HB; clear HK; clear HO0; have HO2_3 := n0_; have HO2_4 := n1_; have BK108 := n2_; have HB := n3_; have HK := n4_; have HO111 := n5_; clear n0_ n1_ n2_ n3_ n4_ n5_; clear ho hb hg hat))
       go_ret
       exact ⟨_, Z15, by (with_reducible repeat (first | apply Kd.R_alloc | apply Kd.R_drewN | apply Kd.R_drew)); exact HO111.out, Z42, Z39⟩
     ·rw [if_neg c34] at H
      exact absurd H (by simp)
    ·rw [if_neg c33] at H
     exact absurd H (by simp)
   ·rw [if_neg c32] at H
    exact absurd H (by simp)
  ·rw [if_neg c31] at H
   exact absurd H (by simp)
structure Knot_spec_lineTo where
 k_spec_lineTo : H_spec_lineTo
def knot_spec_lineTo : Nat → Knot_spec_lineTo
 | 0 => ⟨⟨fun _ _ _ _ _ _ _ _ => none, fun _ _ _ _ _ _ _ _ _ h => (by cases h), by intros; rename_i h; cases h⟩⟩
 | n + 1 => let K := knot_spec_lineTo n; ⟨⟨fun k => spec_lineTo.f K.k_spec_lineTo k, spec_lineTo.mono K.k_spec_lineTo, spec_lineTo.calls K.k_spec_lineTo⟩⟩
def spec_lineTo.at_ (D : Nat) : H_spec_lineTo := (knot_spec_lineTo D).k_spec_lineTo
end Go.Proofs.Ytkbeiidjagodnaa.Pr

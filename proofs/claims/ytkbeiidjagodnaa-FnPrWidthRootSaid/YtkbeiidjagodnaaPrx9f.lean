-- written by a program of this session (wip/tools), for this seat
import Derived.Test.YtkbeiidjagodnaaPrx0
namespace Go.Proofs.Ytkbeiidjagodnaa.Pr
open Go.RowKit Go.Proofs.YtkbeiidjagodnaaW.PrintWords Go.Proofs.YtkbeiidjagodnaaW.PrintLast Go.Proofs.YtkbeiidjagodnaaW.PrintMore
attribute [local go_sem] max2_int min2_int max_two min_two max_three min_three max_four min_four   -- for this text's walks alone
set_option linter.unusedVariables false
set_option linter.unusedSimpArgs false
/-! ### laws_prFlatArray: function 11 -/
def laws_prFlatArray.l0 : Nat → Int → Int → Int → Int → Int → List (S53) → List (S25) → Option (Bool)
 | 0, _, _, _, _, _, _, _ => none
 | k + 1, x6, x7, x702000, x702001, x702002, x702003, x702004 => if x7 < x6 then (if 0 ≤ x7 then (if x7 < (x702004.length : Int) then (if ((rd_T25 x702004 x7).f0) ≥ 5 then (some false) else (laws_prFlatArray.l0 k x6 (wrap64 (x7 + 1)) x702000 x702001 x702002 x702003 x702004)) else (none)) else (none)) else (if x702000 = 5 then (some (decide ((x702004.length : Int) > 0))) else (some false))
def laws_prFlatArray.f (k : Nat) (a0_0 : Int) (a0_1 : Int) (a0_2 : Int) (l0_3 : List (S53)) (l0_4 : List (S25)) : Option (Bool) := laws_prFlatArray.l0 k (l0_4.length : Int) 0 a0_0 a0_1 a0_2 l0_3 l0_4
theorem laws_prFlatArray.mono_l : ∀ k, (∀ y0 y1 y2 y3 y4 y5 y6, LeO (laws_prFlatArray.l0 k y0 y1 y2 y3 y4 y5 y6) (laws_prFlatArray.l0 (k + 1) y0 y1 y2 y3 y4 y5 y6))
 | 0 => fun _ _ _ _ _ _ _ r h => by simp [laws_prFlatArray.l0] at h
 | k + 1 => by
  have ih0 := laws_prFlatArray.mono_l k
  ·intro y0 y1 y2 y3 y4 y5 y6
   unfold laws_prFlatArray.l0
   repeat' first
   | (with_reducible exact ih0 _ _ _ _ _ _ _)
   | (with_reducible exact LeO.refl _)
   | (with_reducible exact LeO.none _)
   | (with_reducible refine LeO.ite ?_ ?_)
   | (with_reducible refine LeO.bind ?_ (fun _ => ?_))
   | exact ih0 _ _ _ _ _ _ _
   | exact LeO.none _
   | refine LeO.ite ?_ ?_
   | refine LeO.bind ?_ (fun _ => ?_)
theorem laws_prFlatArray.mono : ∀ a0 a1 a2 a3 a4 k, LeO (laws_prFlatArray.f k a0 a1 a2 a3 a4) (laws_prFlatArray.f (k + 1) a0 a1 a2 a3 a4) := by
 intro a0 a1 a2 a3 a4 k
 have ih0 := laws_prFlatArray.mono_l k
 unfold laws_prFlatArray.f
 repeat' first
   | (with_reducible exact ih0 _ _ _ _ _ _ _)
   | (with_reducible exact LeO.refl _)
   | (with_reducible exact LeO.none _)
   | (with_reducible refine LeO.ite ?_ ?_)
   | (with_reducible refine LeO.bind ?_ (fun _ => ?_))
   | exact ih0 _ _ _ _ _ _ _
   | exact LeO.none _
   | refine LeO.ite ?_ ?_
   | refine LeO.bind ?_ (fun _ => ?_)
set_option maxHeartbeats 8000000 in
set_option maxRecDepth 100000 in
theorem laws_prFlatArray.calls (k : Nat) (a0_0 : Int) (a0_1 : Int) (a0_2 : Int) (A0_3 : Option Addr) (c0_3 : Nat) (l0_3 : List (S53)) (A0_4 : Option Addr) (c0_4 : Nat) (l0_4 : List (S25)) (r : Bool) (w : World) (hr0_3 : Kd.C k53 w A0_3 l0_3.length l0_3) (hc0_3 : l0_3.length ≤ c0_3) (hr0_4 : Kd.C k25 w A0_4 l0_4.length l0_4) (hc0_4 : l0_4.length ≤ c0_4) (h : laws_prFlatArray.f k a0_0 a0_1 a0_2 l0_3 l0_4 = some r) :
  Calls Try.prog 11 #[.agg #[.int .i64 a0_0, .int .i64 a0_1, .int .i64 a0_2, .slice A0_3 l0_3.length c0_3, .slice A0_4 l0_4.length c0_4]] w fun e w' => e = .returned (.bool r) ∧ Below w.heap.size w w' := by
 have hu25 := Try.underlying25
 have HR0_3 := Aside0.mk hr0_3
 have HC0_3 := Aside0.mk hc0_3
 clear hr0_3 hc0_3
 have HR0_4 := Aside0.mk hr0_4
 have HC0_4 := Aside0.mk hc0_4
 clear hr0_4 hc0_4
 have HB := Aside0.mk (Below.refl w.heap.size w)
 have H : (laws_prFlatArray.l0 k (l0_4.length : Int) 0 a0_0 a0_1 a0_2 l0_3 l0_4) = some r := h
 clear h
 have H' := Aside0.mk H
 clear H
 go_enter Try.func11, Try.ntmps11
 go_wp2_with (first | ((with_reducible refine gate_dst (N := 1) rfl ?_); (try (refine gate_guard (by rfl) ?_; dsimp only)); refine box_event ?hg (N := 1) ?hd (cs := #[.int .i64 a0_0, .int .i64 a0_1, .int .i64 a0_2, .slice A0_3 l0_3.length c0_3, .slice A0_4 l0_4.length c0_4]) (t := 25) ?hr ?_; (case hd => rfl); (case hg => rfl); (case hr => exact Z62); intro gb701 hg w2 hbox hb; have n0_ := Aside0.mk (below_step Z5 hb); have n1_ := Aside0.mk (hbox); have n2_ := Aside0.mk ((by rw [hg]; exact (below_size Z5) : w.heap.size ≤ gb701)); have n3_ := Aside0.mk ((by rw [hg]; exact (below_size Z5) : w.heap.size ≤ gb701)); clear HB; have HB := n0_; have BK701 := n1_; have GW701 := n2_; have GE701 := n3_; clear n0_ n1_ n2_ n3_; clear hb hbox hg; have hcz3_0 : w2.cell? ⟨gb701, 0, none⟩ = some (.int .i64 a0_0) := (blk_cell BK701.out 0).trans rfl; have hcz3_1 : w2.cell? ⟨gb701, 1, none⟩ = some (.int .i64 a0_1) := (blk_cell BK701.out 1).trans rfl; have hcz3_2 : w2.cell? ⟨gb701, 2, none⟩ = some (.int .i64 a0_2) := (blk_cell BK701.out 2).trans rfl; have hcz3_3 : w2.cell? ⟨gb701, 3, none⟩ = some (.slice A0_3 l0_3.length c0_3) := (blk_cell BK701.out 3).trans rfl; have hcz3_4 : w2.cell? ⟨gb701, 4, none⟩ = some (.slice A0_4 l0_4.length c0_4) := (blk_cell BK701.out 4).trans rfl; have hfz3_0 := blk_frozen BK701.out 0; have hfz3_1 := blk_frozen BK701.out 1; have hfz3_2 := blk_frozen BK701.out 2; have hfz3_3 := blk_frozen BK701.out 3; have hfz3_4 := blk_frozen BK701.out 4))
 (try simp only [Act.put, List.setIfInBounds_toArray, List.set_cons_zero, List.set_cons_succ])
 go_loopg [7] k (fun kq v7 w' => ∃ (x7_1 : Int), v7 = .int .i64 x7_1 ∧ Aside0 (laws_prFlatArray.l0 kq (l0_4.length : Int) x7_1 a0_0 a0_1 a0_2 l0_3 l0_4 = some r) ∧ Aside0 (kq ≤ k) ∧ Aside0 (w'.heap[gb701]? = some (.cells #[.int .i64 a0_0, .int .i64 a0_1, .int .i64 a0_2, (.slice A0_3 l0_3.length c0_3), (.slice A0_4 l0_4.length c0_4)] 25 (0, 0))) ∧ Aside0 (Below w.heap.size w w'))
 case atStart => exact ⟨(0), Z16, H', ⟨Nat.le_refl _⟩, ⟨by (with_reducible repeat (first | refine blk_drewN ?_ _ | refine blk_drew ?_ | refine blk_alloc ?_ _)); exact BK701.out⟩, ⟨Z100⟩⟩
 case round =>
  clear H'
  try clear hcz3_0
  try clear hcz3_1
  try clear hcz3_2
  try clear hcz3_3
  try clear hcz3_4
  try clear hfz3_0
  try clear hfz3_1
  try clear hfz3_2
  try clear hfz3_3
  try clear hfz3_4
  obtain ⟨x7_1, rfl, HA, HK1, BK701, HB⟩ := hrel
  cases gk with
  | zero => exact absurd HA.out (by simp [laws_prFlatArray.l0])
  | succ k1 =>
   have H := HA.out
   clear HA
   simp only [laws_prFlatArray.l0] at H
   by_cases c4 : x7_1 < (l0_4.length : Int)
   ·rw [if_pos c4] at H
    have c4b0 : decide (x7_1 < (l0_4.length : Int)) = true := decide_eq_true c4
    clear c4
    by_cases c5 : 0 ≤ x7_1
    ·rw [if_pos c5] at H
     have c5b0 : decide (0 ≤ x7_1) = true := decide_eq_true c5
     clear c5
     by_cases c6 : x7_1 < (l0_4.length : Int)
     ·rw [if_pos c6] at H
      have c6b0 : decide (x7_1 < (l0_4.length : Int)) = true := decide_eq_true c6
      clear c6
      by_cases c7 : ((rd_T25 l0_4 x7_1).f0) ≥ 5
      ·rw [if_pos c7] at H
       have c7b0 : decide (5 ≤ ((rd_T25 l0_4 x7_1).f0)) = true := decide_eq_true c7
       clear c7
       ·
        obtain rfl := Option.some.inj H
        have hcz8_0 : wr.cell? ⟨gb701, 0, none⟩ = some (.int .i64 a0_0) := (blk_cell BK701.out 0).trans rfl
        have hcz8_1 : wr.cell? ⟨gb701, 1, none⟩ = some (.int .i64 a0_1) := (blk_cell BK701.out 1).trans rfl
        have hcz8_2 : wr.cell? ⟨gb701, 2, none⟩ = some (.int .i64 a0_2) := (blk_cell BK701.out 2).trans rfl
        have hcz8_3 : wr.cell? ⟨gb701, 3, none⟩ = some (.slice A0_3 l0_3.length c0_3) := (blk_cell BK701.out 3).trans rfl
        have hcz8_4 : wr.cell? ⟨gb701, 4, none⟩ = some (.slice A0_4 l0_4.length c0_4) := (blk_cell BK701.out 4).trans rfl
        have hfz8_0 := blk_frozen BK701.out 0
        have hfz8_1 := blk_frozen BK701.out 1
        have hfz8_2 := blk_frozen BK701.out 2
        have hfz8_3 := blk_frozen BK701.out 3
        have hfz8_4 := blk_frozen BK701.out 4
        have p702 : 0 ≤ (x7_1 : Int) := of_decide_eq_true Z11
        have q702 : x7_1 < (l0_4.length : Int) := of_decide_eq_true Z11
        obtain ⟨ad702, A702_3, c702_3, A702_4, c702_4, e702, hx702_0, hx702_1, hx702_2, hx702_3, hx702_4, hl702_3, hi702_3, hl702_4, hi702_4⟩ := at_T25 HR0_4.out x7_1 p702 q702
        cases e702
        replace hx702_0 := (HB.out.cell (World.block_lt_of_cell? w _ hx702_0)).trans hx702_0
        replace hx702_1 := (HB.out.cell (World.block_lt_of_cell? w _ hx702_1)).trans hx702_1
        replace hx702_2 := (HB.out.cell (World.block_lt_of_cell? w _ hx702_2)).trans hx702_2
        replace hx702_3 := (HB.out.cell (World.block_lt_of_cell? w _ hx702_3)).trans hx702_3
        replace hx702_4 := (HB.out.cell (World.block_lt_of_cell? w _ hx702_4)).trans hx702_4
        have HR702_3 := Aside0.mk hi702_3
        have HC702_3 := Aside0.mk hl702_3
        clear hi702_3 hl702_3
        have HR702_4 := Aside0.mk hi702_4
        have HC702_4 := Aside0.mk hl702_4
        clear hi702_4 hl702_4
        replace p702 := eq_true p702
        replace q702 := eq_true q702
        go_wp2
        go_ret
        exact ⟨Z15, Z100⟩
      ·rw [if_neg c7] at H
       have c7b0 : decide (5 ≤ ((rd_T25 l0_4 x7_1).f0)) = false := decide_eq_false c7
       clear c7
       ·
        have H' := Aside0.mk H
        clear H
        have hcz9_0 : wr.cell? ⟨gb701, 0, none⟩ = some (.int .i64 a0_0) := (blk_cell BK701.out 0).trans rfl
        have hcz9_1 : wr.cell? ⟨gb701, 1, none⟩ = some (.int .i64 a0_1) := (blk_cell BK701.out 1).trans rfl
        have hcz9_2 : wr.cell? ⟨gb701, 2, none⟩ = some (.int .i64 a0_2) := (blk_cell BK701.out 2).trans rfl
        have hcz9_3 : wr.cell? ⟨gb701, 3, none⟩ = some (.slice A0_3 l0_3.length c0_3) := (blk_cell BK701.out 3).trans rfl
        have hcz9_4 : wr.cell? ⟨gb701, 4, none⟩ = some (.slice A0_4 l0_4.length c0_4) := (blk_cell BK701.out 4).trans rfl
        have hfz9_0 := blk_frozen BK701.out 0
        have hfz9_1 := blk_frozen BK701.out 1
        have hfz9_2 := blk_frozen BK701.out 2
        have hfz9_3 := blk_frozen BK701.out 3
        have hfz9_4 := blk_frozen BK701.out 4
        have p702 : 0 ≤ (x7_1 : Int) := of_decide_eq_true Z11
        have q702 : x7_1 < (l0_4.length : Int) := of_decide_eq_true Z11
        obtain ⟨ad702, A702_3, c702_3, A702_4, c702_4, e702, hx702_0, hx702_1, hx702_2, hx702_3, hx702_4, hl702_3, hi702_3, hl702_4, hi702_4⟩ := at_T25 HR0_4.out x7_1 p702 q702
        cases e702
        replace hx702_0 := (HB.out.cell (World.block_lt_of_cell? w _ hx702_0)).trans hx702_0
        replace hx702_1 := (HB.out.cell (World.block_lt_of_cell? w _ hx702_1)).trans hx702_1
        replace hx702_2 := (HB.out.cell (World.block_lt_of_cell? w _ hx702_2)).trans hx702_2
        replace hx702_3 := (HB.out.cell (World.block_lt_of_cell? w _ hx702_3)).trans hx702_3
        replace hx702_4 := (HB.out.cell (World.block_lt_of_cell? w _ hx702_4)).trans hx702_4
        have HR702_3 := Aside0.mk hi702_3
        have HC702_3 := Aside0.mk hl702_3
        clear hi702_3 hl702_3
        have HR702_4 := Aside0.mk hi702_4
        have HC702_4 := Aside0.mk hl702_4
        clear hi702_4 hl702_4
        replace p702 := eq_true p702
        replace q702 := eq_true q702
        go_wp2
        go_roundg k1
        case measure => have := HK1.out; omega
        case rel => exact ⟨(wrap64 (x7_1 + 1)), Z16, H', ⟨by have := HK1.out; omega⟩, ⟨by (with_reducible repeat (first | refine blk_drewN ?_ _ | refine blk_drew ?_ | refine blk_alloc ?_ _)); exact BK701.out⟩, ⟨Z100⟩⟩
     ·rw [if_neg c6] at H
      exact absurd H (by simp)
    ·rw [if_neg c5] at H
     exact absurd H (by simp)
   ·rw [if_neg c4] at H
    have c4b0 : decide (x7_1 < (l0_4.length : Int)) = false := decide_eq_false c4
    clear c4
    by_cases c10 : a0_0 = 5
    ·rw [if_pos c10] at H
     have c10b0 : (a0_0 == 5) = true := beq_iff_eq.mpr c10
     have c10b1 : (a0_0 != 5) = false := bne_eq_false_iff_eq.mpr c10
     clear c10
     ·
      obtain rfl := Option.some.inj H
      have hcz11_0 : wr.cell? ⟨gb701, 0, none⟩ = some (.int .i64 a0_0) := (blk_cell BK701.out 0).trans rfl
      have hcz11_1 : wr.cell? ⟨gb701, 1, none⟩ = some (.int .i64 a0_1) := (blk_cell BK701.out 1).trans rfl
      have hcz11_2 : wr.cell? ⟨gb701, 2, none⟩ = some (.int .i64 a0_2) := (blk_cell BK701.out 2).trans rfl
      have hcz11_3 : wr.cell? ⟨gb701, 3, none⟩ = some (.slice A0_3 l0_3.length c0_3) := (blk_cell BK701.out 3).trans rfl
      have hcz11_4 : wr.cell? ⟨gb701, 4, none⟩ = some (.slice A0_4 l0_4.length c0_4) := (blk_cell BK701.out 4).trans rfl
      have hfz11_0 := blk_frozen BK701.out 0
      have hfz11_1 := blk_frozen BK701.out 1
      have hfz11_2 := blk_frozen BK701.out 2
      have hfz11_3 := blk_frozen BK701.out 3
      have hfz11_4 := blk_frozen BK701.out 4
      go_wp2
      go_ret
      exact ⟨Z15, Z100⟩
    ·rw [if_neg c10] at H
     have c10b0 : (a0_0 == 5) = false := beq_eq_false_iff_ne.mpr c10
     have c10b1 : (a0_0 != 5) = true := bne_iff_ne.mpr c10
     ·
      obtain rfl := Option.some.inj H
      have hcz12_0 : wr.cell? ⟨gb701, 0, none⟩ = some (.int .i64 a0_0) := (blk_cell BK701.out 0).trans rfl
      have hcz12_1 : wr.cell? ⟨gb701, 1, none⟩ = some (.int .i64 a0_1) := (blk_cell BK701.out 1).trans rfl
      have hcz12_2 : wr.cell? ⟨gb701, 2, none⟩ = some (.int .i64 a0_2) := (blk_cell BK701.out 2).trans rfl
      have hcz12_3 : wr.cell? ⟨gb701, 3, none⟩ = some (.slice A0_3 l0_3.length c0_3) := (blk_cell BK701.out 3).trans rfl
      have hcz12_4 : wr.cell? ⟨gb701, 4, none⟩ = some (.slice A0_4 l0_4.length c0_4) := (blk_cell BK701.out 4).trans rfl
      have hfz12_0 := blk_frozen BK701.out 0
      have hfz12_1 := blk_frozen BK701.out 1
      have hfz12_2 := blk_frozen BK701.out 2
      have hfz12_3 := blk_frozen BK701.out 3
      have hfz12_4 := blk_frozen BK701.out 4
      go_wp2
      go_ret
      exact ⟨Z15, Z100⟩
end Go.Proofs.Ytkbeiidjagodnaa.Pr

-- written by a program of this session (wip/tools), for this seat
import Derived.Test.YtkbeiidjagodnaaPrx0
import Derived.Test.YtkbeiidjagodnaaPlz1
namespace Go.Proofs.Ytkbeiidjagodnaa.Pr
open Go.RowKit Go.Proofs.YtkbeiidjagodnaaW.PrintWords Go.Proofs.YtkbeiidjagodnaaW.PrintLast Go.Proofs.YtkbeiidjagodnaaW.PrintMore
attribute [local go_sem] max2_int min2_int max_two min_two max_three min_three max_four min_four   -- for this text's walks alone
set_option linter.unusedVariables false
set_option linter.unusedSimpArgs false
structure H_spec_laidTo where
 f : Nat → List Int → ByteArray → Int → Int → Int → List (S53) → List (S25) → ByteArray → ByteArray → Bool → Option (List Int)
 mono : ∀ a0 a1 a2 a3 a4 a5 a6 a7 a8 a9 k, LeO (f k a0 a1 a2 a3 a4 a5 a6 a7 a8 a9) (f (k + 1) a0 a1 a2 a3 a4 a5 a6 a7 a8 a9)
 calls : ∀ (k : Nat) (P0_ : Nat → Prop) (u9000_ : Value) (l0 : List Int) (a1 : ByteArray) (a2_0 : Int) (a2_1 : Int) (a2_2 : Int) (P2_3_ : Nat → Prop) (A2_3 : Option Addr) (c2_3 : Nat) (l2_3 : List (S53)) (P2_4_ : Nat → Prop) (A2_4 : Option Addr) (c2_4 : Nat) (l2_4 : List (S25)) (a3 : ByteArray) (a4 : ByteArray) (a5 : Bool) (r : List Int) (w0 w : World) (hB : Below w0.heap.size w0 w) (ho0 : Kd.R (Kd.int .u8) 5 w w0.heap.size P0_ u9000_ l0) (hs2_3 : Kd.V k53 53 w w0.heap.size (fun k_ => P2_3_ k_ ∧ some k_ ≠ (u9000_ : Value).ownBlock) (.slice A2_3 l2_3.length c2_3) l2_3) (hs2_4 : Kd.V k25 25 w w0.heap.size (fun k_ => P2_4_ k_ ∧ some k_ ≠ (u9000_ : Value).ownBlock) (.slice A2_4 l2_4.length c2_4) l2_4) (h : f k l0 a1 a2_0 a2_1 a2_2 l2_3 l2_4 a3 a4 a5 = some r),
  Calls Try.prog 17 #[u9000_, .string a1, .agg #[.int .i64 a2_0, .int .i64 a2_1, .int .i64 a2_2, .slice A2_3 l2_3.length c2_3, .slice A2_4 l2_4.length c2_4], .string a3, .string a4, .bool a5] w fun e w' => ∃ v0_ : Value, e = .returned (v0_) ∧ Kd.R (Kd.int .u8) 5 w' w0.heap.size (fun k_ => (P0_ k_ ∨ w.heap.size ≤ k_)) v0_ r ∧ Below w0.heap.size w0 w' ∧ Kept w w' (fun k_ => P0_ k_)
/-! ### spec_laidTo: function 17 -/
mutual
def spec_laidTo.j0 (V_spec_laidTo : H_spec_laidTo) (V_spec_lineTo : H_spec_lineTo) (V_spec_bareTo : H_spec_bareTo) : Nat → List Int → ByteArray → ByteArray → ByteArray → Bool → Int → Int → Int → List (S53) → List (S25) → Option (List Int)
 | 0, _, _, _, _, _, _, _, _, _, _ => none
 | k + 1, x0, x1, x3, x4, x5, x133000, x133001, x133002, x133003, x133004 => if x133000 = 6 then (none) else (if x0.length < 140737488355328 then (spec_laidTo.l0 V_spec_laidTo V_spec_lineTo V_spec_bareTo k (x0 ++ [91]) x1 x3 x4 x5 93 (x133004.length : Int) 0 x133000 x133001 x133002 x133003 x133004) else (none))
def spec_laidTo.l0 (V_spec_laidTo : H_spec_laidTo) (V_spec_lineTo : H_spec_lineTo) (V_spec_bareTo : H_spec_bareTo) : Nat → List Int → ByteArray → ByteArray → ByteArray → Bool → Int → Int → Int → Int → Int → Int → List (S53) → List (S25) → Option (List Int)
 | 0, _, _, _, _, _, _, _, _, _, _, _, _, _ => none
 | k + 1, x0, x1, x3, x4, x5, x14, x45, x46, x133000, x133001, x133002, x133003, x133004 => if x46 < x45 then (if x46 > 0 then (if x0.length < 140737488355328 then ((some (x0 ++ [44] : List Int)).bind fun y152 => (if y152.length < 140737488355328 then ((some (y152 ++ [10] : List Int)).bind fun y155 => (if y155.length + x3.size < 140737488355328 then ((some (y155 ++ bytesOf x3 : List Int)).bind fun y158 => (if y158.length + x4.size < 140737488355328 then (if x133000 = 6 then (none) else (if 0 ≤ x46 then (if x46 < (x133004.length : Int) then (if x3.size + x4.size ≤ 9223372036854775807 then ((V_spec_laidTo.f k (y158 ++ bytesOf x4) x1 ((rd_T25 x133004 x46).f0) ((rd_T25 x133004 x46).f1) ((rd_T25 x133004 x46).f2) ((rd_T25 x133004 x46).f3) ((rd_T25 x133004 x46).f4) (x3 ++ x4) x4 x5).bind fun t165 => (spec_laidTo.l0 V_spec_laidTo V_spec_lineTo V_spec_bareTo k t165 x1 x3 x4 x5 x14 x45 (wrap64 (x46 + 1)) x133000 x133001 x133002 x133003 x133004)) else (none)) else (none)) else (none))) else (none))) else (none))) else (none))) else (none)) else (if x0.length < 140737488355328 then ((some (x0 ++ [10] : List Int)).bind fun y168 => (if y168.length + x3.size < 140737488355328 then ((some (y168 ++ bytesOf x3 : List Int)).bind fun y171 => (if y171.length + x4.size < 140737488355328 then (if x133000 = 6 then (none) else (if 0 ≤ x46 then (if x46 < (x133004.length : Int) then (if x3.size + x4.size ≤ 9223372036854775807 then ((V_spec_laidTo.f k (y171 ++ bytesOf x4) x1 ((rd_T25 x133004 x46).f0) ((rd_T25 x133004 x46).f1) ((rd_T25 x133004 x46).f2) ((rd_T25 x133004 x46).f3) ((rd_T25 x133004 x46).f4) (x3 ++ x4) x4 x5).bind fun t178 => (spec_laidTo.l0 V_spec_laidTo V_spec_lineTo V_spec_bareTo k t178 x1 x3 x4 x5 x14 x45 (wrap64 (x46 + 1)) x133000 x133001 x133002 x133003 x133004)) else (none)) else (none)) else (none))) else (none))) else (none))) else (none))) else (if x0.length < 140737488355328 then ((some (x0 ++ [10] : List Int)).bind fun y143 => (if y143.length + x3.size < 140737488355328 then ((some (y143 ++ bytesOf x3 : List Int)).bind fun y146 => (if y146.length < 140737488355328 then (some (y146 ++ [x14])) else (none))) else (none))) else (none))
end
def spec_laidTo.f (V_spec_laidTo : H_spec_laidTo) (V_spec_lineTo : H_spec_lineTo) (V_spec_bareTo : H_spec_bareTo) (k : Nat) (l0 : List Int) (a1 : ByteArray) (a2_0 : Int) (a2_1 : Int) (a2_2 : Int) (l2_3 : List (S53)) (l2_4 : List (S25)) (a3 : ByteArray) (a4 : ByteArray) (a5 : Bool) : Option (List Int) := if (l2_4.length : Int) = 0 then ((V_spec_bareTo.f k l0 a1 a2_0 a2_1 a2_2 l2_3 l2_4).bind fun t133 => (some t133)) else (if a5 = true then ((spec_objects.f k a2_0 a2_1 a2_2 l2_3 l2_4).bind fun t136 => (if t136 = true then (spec_laidTo.j0 V_spec_laidTo V_spec_lineTo V_spec_bareTo k l0 a1 a3 a4 a5 a2_0 a2_1 a2_2 l2_3 l2_4) else ((V_spec_lineTo.f k l0 a1 a2_0 a2_1 a2_2 l2_3 l2_4).bind fun t137 => (some t137)))) else (spec_laidTo.j0 V_spec_laidTo V_spec_lineTo V_spec_bareTo k l0 a1 a3 a4 a5 a2_0 a2_1 a2_2 l2_3 l2_4))
theorem spec_laidTo.mono_l (V_spec_laidTo : H_spec_laidTo) (V_spec_lineTo : H_spec_lineTo) (V_spec_bareTo : H_spec_bareTo) : ∀ k, (∀ y0 y1 y2 y3 y4 y5 y6 y7 y8 y9, LeO (spec_laidTo.j0 V_spec_laidTo V_spec_lineTo V_spec_bareTo k y0 y1 y2 y3 y4 y5 y6 y7 y8 y9) (spec_laidTo.j0 V_spec_laidTo V_spec_lineTo V_spec_bareTo (k + 1) y0 y1 y2 y3 y4 y5 y6 y7 y8 y9)) ∧ (∀ y0 y1 y2 y3 y4 y5 y6 y7 y8 y9 y10 y11 y12, LeO (spec_laidTo.l0 V_spec_laidTo V_spec_lineTo V_spec_bareTo k y0 y1 y2 y3 y4 y5 y6 y7 y8 y9 y10 y11 y12) (spec_laidTo.l0 V_spec_laidTo V_spec_lineTo V_spec_bareTo (k + 1) y0 y1 y2 y3 y4 y5 y6 y7 y8 y9 y10 y11 y12))
 | 0 => ⟨fun _ _ _ _ _ _ _ _ _ _ r h => by simp [spec_laidTo.j0] at h, fun _ _ _ _ _ _ _ _ _ _ _ _ _ r h => by simp [spec_laidTo.l0] at h⟩
 | k + 1 => by
  obtain ⟨ih0, ih1⟩ := spec_laidTo.mono_l V_spec_laidTo V_spec_lineTo V_spec_bareTo k
  refine ⟨?_, ?_⟩ <;> intros <;> first | unfold spec_laidTo.j0 | unfold spec_laidTo.l0
  all_goals
   repeat' first
   | (with_reducible exact ih0 _ _ _ _ _ _ _ _ _ _)
   | (with_reducible exact ih1 _ _ _ _ _ _ _ _ _ _ _ _ _)
   | (with_reducible exact V_spec_bareTo.mono _ _ _ _ _ _ _ _)
   | (with_reducible exact V_spec_laidTo.mono _ _ _ _ _ _ _ _ _ _ _)
   | (with_reducible exact V_spec_lineTo.mono _ _ _ _ _ _ _ _)
   | (with_reducible exact spec_objects.mono _ _ _ _ _ _)
   | (with_reducible exact LeO.refl _)
   | (with_reducible exact LeO.none _)
   | (with_reducible refine LeO.ite ?_ ?_)
   | (with_reducible refine LeO.bind ?_ (fun _ => ?_))
   | exact ih0 _ _ _ _ _ _ _ _ _ _
   | exact ih1 _ _ _ _ _ _ _ _ _ _ _ _ _
   | exact V_spec_bareTo.mono _ _ _ _ _ _ _ _
   | exact V_spec_laidTo.mono _ _ _ _ _ _ _ _ _ _ _
   | exact V_spec_lineTo.mono _ _ _ _ _ _ _ _
   | exact spec_objects.mono _ _ _ _ _ _
   | exact LeO.none _
   | refine LeO.ite ?_ ?_
   | refine LeO.bind ?_ (fun _ => ?_)
theorem spec_laidTo.mono (V_spec_laidTo : H_spec_laidTo) (V_spec_lineTo : H_spec_lineTo) (V_spec_bareTo : H_spec_bareTo) : ∀ a0 a1 a2 a3 a4 a5 a6 a7 a8 a9 k, LeO (spec_laidTo.f V_spec_laidTo V_spec_lineTo V_spec_bareTo k a0 a1 a2 a3 a4 a5 a6 a7 a8 a9) (spec_laidTo.f V_spec_laidTo V_spec_lineTo V_spec_bareTo (k + 1) a0 a1 a2 a3 a4 a5 a6 a7 a8 a9) := by
 intro a0 a1 a2 a3 a4 a5 a6 a7 a8 a9 k
 obtain ⟨ih0, ih1⟩ := spec_laidTo.mono_l V_spec_laidTo V_spec_lineTo V_spec_bareTo k
 unfold spec_laidTo.f
 repeat' first
   | (with_reducible exact ih0 _ _ _ _ _ _ _ _ _ _)
   | (with_reducible exact ih1 _ _ _ _ _ _ _ _ _ _ _ _ _)
   | (with_reducible exact V_spec_bareTo.mono _ _ _ _ _ _ _ _)
   | (with_reducible exact V_spec_laidTo.mono _ _ _ _ _ _ _ _ _ _ _)
   | (with_reducible exact V_spec_lineTo.mono _ _ _ _ _ _ _ _)
   | (with_reducible exact spec_objects.mono _ _ _ _ _ _)
   | (with_reducible exact LeO.refl _)
   | (with_reducible exact LeO.none _)
   | (with_reducible refine LeO.ite ?_ ?_)
   | (with_reducible refine LeO.bind ?_ (fun _ => ?_))
   | exact ih0 _ _ _ _ _ _ _ _ _ _
   | exact ih1 _ _ _ _ _ _ _ _ _ _ _ _ _
   | exact V_spec_bareTo.mono _ _ _ _ _ _ _ _
   | exact V_spec_laidTo.mono _ _ _ _ _ _ _ _ _ _ _
   | exact V_spec_lineTo.mono _ _ _ _ _ _ _ _
   | exact spec_objects.mono _ _ _ _ _ _
   | exact LeO.none _
   | refine LeO.ite ?_ ?_
   | refine LeO.bind ?_ (fun _ => ?_)
set_option maxHeartbeats 8000000 in
set_option maxRecDepth 100000 in
theorem spec_laidTo.calls (V_spec_laidTo : H_spec_laidTo) (V_spec_lineTo : H_spec_lineTo) (V_spec_bareTo : H_spec_bareTo) (k : Nat) (P0_ : Nat → Prop) (u9000_ : Value) (l0 : List Int) (a1 : ByteArray) (a2_0 : Int) (a2_1 : Int) (a2_2 : Int) (P2_3_ : Nat → Prop) (A2_3 : Option Addr) (c2_3 : Nat) (l2_3 : List (S53)) (P2_4_ : Nat → Prop) (A2_4 : Option Addr) (c2_4 : Nat) (l2_4 : List (S25)) (a3 : ByteArray) (a4 : ByteArray) (a5 : Bool) (r : List Int) (w0 w : World) (hB : Below w0.heap.size w0 w) (ho0 : Kd.R (Kd.int .u8) 5 w w0.heap.size P0_ u9000_ l0) (hs2_3 : Kd.V k53 53 w w0.heap.size (fun k_ => P2_3_ k_ ∧ some k_ ≠ (u9000_ : Value).ownBlock) (.slice A2_3 l2_3.length c2_3) l2_3) (hs2_4 : Kd.V k25 25 w w0.heap.size (fun k_ => P2_4_ k_ ∧ some k_ ≠ (u9000_ : Value).ownBlock) (.slice A2_4 l2_4.length c2_4) l2_4) (h : spec_laidTo.f V_spec_laidTo V_spec_lineTo V_spec_bareTo k l0 a1 a2_0 a2_1 a2_2 l2_3 l2_4 a3 a4 a5 = some r) :
  Calls Try.prog 17 #[u9000_, .string a1, .agg #[.int .i64 a2_0, .int .i64 a2_1, .int .i64 a2_2, .slice A2_3 l2_3.length c2_3, .slice A2_4 l2_4.length c2_4], .string a3, .string a4, .bool a5] w fun e w' => ∃ v0_ : Value, e = .returned (v0_) ∧ Kd.R (Kd.int .u8) 5 w' w0.heap.size (fun k_ => (P0_ k_ ∨ w.heap.size ≤ k_)) v0_ r ∧ Below w0.heap.size w0 w' ∧ Kept w w' (fun k_ => P0_ k_) := by
 have hu25 := Try.underlying25
 have HO0 := Aside0.mk (show Kd.R (Kd.int .u8) 5 w w0.heap.size (fun k_ => (P0_ k_ ∨ w.heap.size ≤ k_)) u9000_ l0 from Kd.R_mono ho0 (fun k_ hk => (.inl hk)))
 have HO2_3 := Aside0.mk (show Kd.V k53 53 w w0.heap.size (fun k_ => ((P0_ k_ ∨ P2_3_ k_ ∨ P2_4_ k_) ∨ w.heap.size ≤ k_) ∧ some k_ ≠ (u9000_ : Value).ownBlock) (.slice A2_3 l2_3.length c2_3) l2_3 from Kd.V_mono hs2_3 (fun k_ hk => ⟨.inl (.inr (.inl hk.1)), hk.2⟩))
 have HO2_4 := Aside0.mk (show Kd.V k25 25 w w0.heap.size (fun k_ => ((P0_ k_ ∨ P2_3_ k_ ∨ P2_4_ k_) ∨ w.heap.size ≤ k_) ∧ some k_ ≠ (u9000_ : Value).ownBlock) (.slice A2_4 l2_4.length c2_4) l2_4 from Kd.V_mono hs2_4 (fun k_ hk => ⟨.inl (.inr (.inr hk.1)), hk.2⟩))
 have HK := Aside0.mk (Kept.refl w (fun k_ => P0_ k_))
 have HW0 := Aside0.mk hB.size
 have HB := Aside0.mk hB
 clear hB
 have H : (if (l2_4.length : Int) = 0 then ((V_spec_bareTo.f k l0 a1 a2_0 a2_1 a2_2 l2_3 l2_4).bind fun t133 => (some t133)) else (if a5 = true then ((spec_objects.f k a2_0 a2_1 a2_2 l2_3 l2_4).bind fun t136 => (if t136 = true then (spec_laidTo.j0 V_spec_laidTo V_spec_lineTo V_spec_bareTo k l0 a1 a3 a4 a5 a2_0 a2_1 a2_2 l2_3 l2_4) else ((V_spec_lineTo.f k l0 a1 a2_0 a2_1 a2_2 l2_3 l2_4).bind fun t137 => (some t137)))) else (spec_laidTo.j0 V_spec_laidTo V_spec_lineTo V_spec_bareTo k l0 a1 a3 a4 a5 a2_0 a2_1 a2_2 l2_3 l2_4))) = some r := h
 clear h
 have HC7 := Aside0.mk H
 clear H
 go_enter Try.func17, Try.ntmps17
 go_upto_block 0 with (first | ((with_reducible refine gate_dst (N := 8) rfl ?_); refine box_event ?hg (N := 8) ?hd (cs := #[.int .i64 a2_0, .int .i64 a2_1, .int .i64 a2_2, .slice A2_3 l2_3.length c2_3, .slice A2_4 l2_4.length c2_4]) (t := 25) ?hr ?_; (case hd => rfl); (case hg => rfl); (case hr => exact Z62); intro gb132 hg w8 hbox hb; have n0_ := Aside0.mk (Kd.R_below Z54 hb); have n1_ := Aside0.mk (Kd.V_below (Kd.V_elderB Z117 gb132 (Nat.le_of_eq hg.symm)) hb); have n2_ := Aside0.mk (Kd.V_below (Kd.V_elderB Z116 gb132 (Nat.le_of_eq hg.symm)) hb); have n3_ := Aside0.mk (Kept.below (S := (fun k_ => P0_ k_)) Z7 hb); have n4_ := Aside0.mk (below_step Z5 hb); have n5_ := Aside0.mk (hbox); have n6_ := Aside0.mk ((by rw [hg]; exact Z35 : w.heap.size ≤ gb132)); have n7_ := Aside0.mk ((by rw [hg]; exact (below_size Z5) : w0.heap.size ≤ gb132)); clear HO0; clear HO2_3; clear HO2_4; clear HK; clear HB; have HO0 := n0_; have HO2_3 := n1_; have HO2_4 := n2_; have HK := n3_; have HB := n4_; have BK132 := n5_; have GW132 := n6_; have GE132 := n7_; clear n0_ n1_ n2_ n3_ n4_ n5_ n6_ n7_; clear hb hbox hg))
 (try simp only [Act.put, List.setIfInBounds_toArray, List.set_cons_zero, List.set_cons_succ])
 go_cut [] from 1 to 0 (fun wc => ∃ (kq : Nat), Aside0 (spec_laidTo.j0 V_spec_laidTo V_spec_lineTo V_spec_bareTo kq l0 a1 a3 a4 a5 a2_0 a2_1 a2_2 l2_3 l2_4 = some r) ∧ Aside0 (kq ≤ k) ∧ Aside0 (Kd.R (Kd.int .u8) 5 wc w0.heap.size (fun k_ => (P0_ k_ ∨ w.heap.size ≤ k_)) u9000_ l0) ∧ Aside0 (Kd.V k53 53 wc w0.heap.size (fun k_ => ((P0_ k_ ∨ P2_3_ k_ ∨ P2_4_ k_) ∨ w.heap.size ≤ k_) ∧ some k_ ≠ (u9000_ : Value).ownBlock ∧ k_ ≠ gb132) (.slice A2_3 l2_3.length c2_3) l2_3) ∧ Aside0 (Kd.V k25 25 wc w0.heap.size (fun k_ => ((P0_ k_ ∨ P2_3_ k_ ∨ P2_4_ k_) ∨ w.heap.size ≤ k_) ∧ some k_ ≠ (u9000_ : Value).ownBlock ∧ k_ ≠ gb132) (.slice A2_4 l2_4.length c2_4) l2_4) ∧ Aside0 (wc.heap[gb132]? = some (.cells #[.int .i64 a2_0, .int .i64 a2_1, .int .i64 a2_2, (.slice A2_3 l2_3.length c2_3), (.slice A2_4 l2_4.length c2_4)] 25 (0, 0))) ∧ Aside0 (Kept w wc (fun k_ => P0_ k_)) ∧ Aside0 (Below w0.heap.size w0 wc))
 case first =>
  have H := HC7.out
  clear HC7
  by_cases c9 : (l2_4.length : Int) = 0
  ·rw [if_pos c9] at H
   have c9b0 : ((l2_4.length : Int) == 0) = true := beq_iff_eq.mpr c9
   have c9b1 : ((l2_4.length : Int) != 0) = false := bne_eq_false_iff_eq.mpr c9
   clear c9
   (first | rw [c9b0] | (simp only [i64_w, i32_w]; rw [c9b0]) | skip)
   replace H := Option.bind_eq_some_iff.mp H
   obtain ⟨t133, A100, H⟩ := H
   replace H : (some t133) = some r := H
   have A10 := Aside0.mk A100
   clear A100
   ·
    obtain rfl := Option.some.inj H
    have hcz11_0 : w8.cell? ⟨gb132, 0, none⟩ = some (.int .i64 a2_0) := (blk_cell BK132.out 0).trans rfl
    have hcz11_1 : w8.cell? ⟨gb132, 1, none⟩ = some (.int .i64 a2_1) := (blk_cell BK132.out 1).trans rfl
    have hcz11_2 : w8.cell? ⟨gb132, 2, none⟩ = some (.int .i64 a2_2) := (blk_cell BK132.out 2).trans rfl
    have hcz11_3 : w8.cell? ⟨gb132, 3, none⟩ = some (.slice A2_3 l2_3.length c2_3) := (blk_cell BK132.out 3).trans rfl
    have hcz11_4 : w8.cell? ⟨gb132, 4, none⟩ = some (.slice A2_4 l2_4.length c2_4) := (blk_cell BK132.out 4).trans rfl
    have hfz11_0 := blk_frozen BK132.out 0
    have hfz11_1 := blk_frozen BK132.out 1
    have hfz11_2 := blk_frozen BK132.out 2
    have hfz11_3 := blk_frozen BK132.out 3
    have hfz11_4 := blk_frozen BK132.out 4
    obtain ⟨Ao12, co12, eo12⟩ := Kd.R_slice HO0.out
    subst eo12
    go_wp2_with (first | ((with_reducible refine gate_callee (f := 22) rfl ?_); refine goesL_ (some 24) rfl rfl Try.func22 (by kernel_rfl) rfl #[.slice Ao12 l0.length co12, .string a1, .agg #[.int .i64 a2_0, .int .i64 a2_1, .int .i64 a2_2, .slice A2_3 l2_3.length c2_3, .slice A2_4 l2_4.length c2_4]] rfl Z13 ?_; (with_reducible refine (V_spec_bareTo.calls k (fun k_ => some k_ = (.slice Ao12 l0.length co12 : Value).ownBlock) (.slice Ao12 l0.length co12) l0 a1 a2_0 a2_1 a2_2 (fun k_ => ((((P0_ k_ ∨ P2_3_ k_ ∨ P2_4_ k_) ∨ w.heap.size ≤ k_) ∧ some k_ ≠ (.slice Ao12 l0.length co12 : Value).ownBlock) ∧ k_ ≠ gb132)) _ _ l2_3 (fun k_ => ((((P0_ k_ ∨ P2_3_ k_ ∨ P2_4_ k_) ∨ w.heap.size ≤ k_) ∧ some k_ ≠ (.slice Ao12 l0.length co12 : Value).ownBlock) ∧ k_ ≠ gb132)) _ _ l2_4 t133 w0 _ ?side1 ?side2 ?side3 ?side4 A10.out).mono ?_); (case side1 => exact Z19); (case side2 => exact Kd.R_tight rfl HO0.out); (case side3 => exact Kd.V_mono (HO2_3.out) (fun k_ hk_ => ⟨hk_, hk_.1.2⟩)); (case side4 => exact Kd.V_mono (HO2_4.out) (fun k_ hk_ => ⟨hk_, hk_.1.2⟩)); rintro e w13 ⟨v134, rfl, ho0, hb, hkp⟩; refine ⟨_, rfl, ?_⟩; have n0_ := Aside0.mk (Kd.V_mono (ok' := fun k_ => ((P0_ k_ ∨ P2_3_ k_ ∨ P2_4_ k_) ∨ w.heap.size ≤ k_) ∧ k_ ≠ gb132 ∧ some k_ ≠ (v134 : Value).ownBlock) (Kd.V_keptB (HO2_3.out) hkp (fun k_ hk_ hs_ => (hk_.1.2) hs_)) (fun k_ hk_ => ⟨hk_.1.1.1, hk_.1.2, fun e_ => Or.elim (ho0.1 k_ e_.symm) (fun hs_ => hk_.2.1 hs_) (fun hn_ => Nat.not_le.2 hk_.2.2 hn_)⟩)); have n1_ := Aside0.mk (Kd.V_mono (ok' := fun k_ => ((P0_ k_ ∨ P2_3_ k_ ∨ P2_4_ k_) ∨ w.heap.size ≤ k_) ∧ k_ ≠ gb132 ∧ some k_ ≠ (v134 : Value).ownBlock) (Kd.V_keptB (HO2_4.out) hkp (fun k_ hk_ hs_ => (hk_.1.2) hs_)) (fun k_ hk_ => ⟨hk_.1.1.1, hk_.1.2, fun e_ => Or.elim (ho0.1 k_ e_.symm) (fun hs_ => hk_.2.1 hs_) (fun hn_ => Nat.not_le.2 hk_.2.2 hn_)⟩)); have n2_ := Aside0.mk (blk_kept Z48 hkp (fun hs_ => (fun e_ => (Kd.R_ne HO0.out BK132.out (by decide)) e_) hs_)); have n3_ := Aside0.mk (Kd.R_mono (ok' := fun k_ => (P0_ k_ ∨ w.heap.size ≤ k_)) ho0 (fun k_ hk_ => Or.elim hk_ (fun hs_ => (HO0.out.1 k_ (hs_).symm)) (fun hn_ => (.inr (Nat.le_trans Z148 hn_))))); have n4_ := Aside0.mk (Kept.then_ (S := (fun k_ => P0_ k_)) Z18 hkp (fun k_ hs_ => (fun e_ => (HO0.out.1 k_ e_.symm)) hs_)); have n5_ := Aside0.mk (hb); clear HO2_3; clear HO2_4; clear BK132; clear HK; clear HB; clear HO0; have HO2_3 := n0_; have HO2_4 := n1_; have BK132 := n2_; have HO135 := n3_; have HK := n4_; have HB := n5_; clear n0_ n1_ n2_ n3_ n4_ n5_; (try clear hb); (try clear hkp); (try clear ho0)))
    go_ret
    exact ⟨_, Z15, by (with_reducible repeat (first | apply Kd.R_alloc | apply Kd.R_drewN | apply Kd.R_drew)); exact HO135.out, Z19, Z18⟩
  ·rw [if_neg c9] at H
   have c9b0 : ((l2_4.length : Int) == 0) = false := beq_eq_false_iff_ne.mpr c9
   have c9b1 : ((l2_4.length : Int) != 0) = true := bne_iff_ne.mpr c9
   have c9b2 : ¬ (l2_4 = []) := fun h_ => c9 (by rw [h_]; rfl)
   (first | rw [c9b0] | (simp only [i64_w, i32_w]; rw [c9b0]) | skip)
   by_cases c14 : a5 = true
   ·subst c14
    have H1 : ((spec_objects.f k a2_0 a2_1 a2_2 l2_3 l2_4).bind fun t136 => (if t136 = true then (spec_laidTo.j0 V_spec_laidTo V_spec_lineTo V_spec_bareTo k l0 a1 a3 a4 true a2_0 a2_1 a2_2 l2_3 l2_4) else ((V_spec_lineTo.f k l0 a1 a2_0 a2_1 a2_2 l2_3 l2_4).bind fun t137 => (some t137)))) = some r := Z61
    clear H
    have H := H1
    clear H1
    replace H := Option.bind_eq_some_iff.mp H
    obtain ⟨t136, A150, H⟩ := H
    replace H : (if t136 = true then (spec_laidTo.j0 V_spec_laidTo V_spec_lineTo V_spec_bareTo k l0 a1 a3 a4 true a2_0 a2_1 a2_2 l2_3 l2_4) else ((V_spec_lineTo.f k l0 a1 a2_0 a2_1 a2_2 l2_3 l2_4).bind fun t137 => (some t137))) = some r := H
    have A15 := Aside0.mk A150
    clear A150
    by_cases c16 : t136 = true
    ·subst c16
     have H1 : (spec_laidTo.j0 V_spec_laidTo V_spec_lineTo V_spec_bareTo k l0 a1 a3 a4 true a2_0 a2_1 a2_2 l2_3 l2_4) = some r := Z61
     clear H
     have H := H1
     clear H1
     ·
      have H' := Aside0.mk H
      clear H
      have hcz17_0 : w8.cell? ⟨gb132, 0, none⟩ = some (.int .i64 a2_0) := (blk_cell BK132.out 0).trans rfl
      have hcz17_1 : w8.cell? ⟨gb132, 1, none⟩ = some (.int .i64 a2_1) := (blk_cell BK132.out 1).trans rfl
      have hcz17_2 : w8.cell? ⟨gb132, 2, none⟩ = some (.int .i64 a2_2) := (blk_cell BK132.out 2).trans rfl
      have hcz17_3 : w8.cell? ⟨gb132, 3, none⟩ = some (.slice A2_3 l2_3.length c2_3) := (blk_cell BK132.out 3).trans rfl
      have hcz17_4 : w8.cell? ⟨gb132, 4, none⟩ = some (.slice A2_4 l2_4.length c2_4) := (blk_cell BK132.out 4).trans rfl
      have hfz17_0 := blk_frozen BK132.out 0
      have hfz17_1 := blk_frozen BK132.out 1
      have hfz17_2 := blk_frozen BK132.out 2
      have hfz17_3 := blk_frozen BK132.out 3
      have hfz17_4 := blk_frozen BK132.out 4
      go_wp2_with (first | (go_at_call 23; (with_reducible refine (spec_objects.calls k a2_0 a2_1 a2_2 _ _ l2_3 _ _ l2_4 true _ ?side1 ?side2 ?side3 ?side4 A15.out).mono ?_); (case side1 => repeat (first | exact (Kd.V_reads' HO2_3.out).2.2 | (with_reducible refine Kd.C_alloc ?_ _) | (with_reducible refine Kd.C_drewN ?_ _) | (with_reducible refine Kd.C_drew ?_))); (case side2 => exact (Kd.V_reads' HO2_3.out).2.1); (case side3 => repeat (first | exact (Kd.V_reads' HO2_4.out).2.2 | (with_reducible refine Kd.C_alloc ?_ _) | (with_reducible refine Kd.C_drewN ?_ _) | (with_reducible refine Kd.C_drew ?_))); (case side4 => exact (Kd.V_reads' HO2_4.out).2.1); rintro e w18 ⟨rfl, hb⟩; have n0_ := Aside0.mk (Kd.R_below Z54 hb); have n1_ := Aside0.mk (Kd.V_below Z117 hb); have n2_ := Aside0.mk (Kd.V_below Z116 hb); have n3_ := Aside0.mk (blk_below (g := gb132) (o := .cells #[.int .i64 a2_0, .int .i64 a2_1, .int .i64 a2_2, .slice A2_3 l2_3.length c2_3, .slice A2_4 l2_4.length c2_4] 25 (0, 0)) Z48 hb); have n4_ := Aside0.mk (Kept.below (S := (fun k_ => P0_ k_)) Z18 hb); have n5_ := Aside0.mk (below_step Z19 hb); clear HO0; clear HO2_3; clear HO2_4; clear BK132; clear HK; clear HB; have HO0 := n0_; have HO2_3 := n1_; have HO2_4 := n2_; have BK132 := n3_; have HK := n4_; have HB := n5_; clear n0_ n1_ n2_ n3_ n4_ n5_; (try clear hb); (try clear hb2); (try clear hk); (try clear hi)))
      go_meet
      case rel => exact ⟨_, H', ⟨Z88⟩, ⟨Z54⟩, ⟨Z126⟩, ⟨Z125⟩, ⟨Z48⟩, ⟨Z18⟩, ⟨Z19⟩⟩
    ·replace c16 := Bool.eq_false_iff.mpr c16
     subst c16
     have H1 : ((V_spec_lineTo.f k l0 a1 a2_0 a2_1 a2_2 l2_3 l2_4).bind fun t137 => (some t137)) = some r := Z34
     clear H
     have H := H1
     clear H1
     replace H := Option.bind_eq_some_iff.mp H
     obtain ⟨t137, A190, H⟩ := H
     replace H : (some t137) = some r := H
     have A19 := Aside0.mk A190
     clear A190
     ·
      obtain rfl := Option.some.inj H
      have hcz20_0 : w8.cell? ⟨gb132, 0, none⟩ = some (.int .i64 a2_0) := (blk_cell BK132.out 0).trans rfl
      have hcz20_1 : w8.cell? ⟨gb132, 1, none⟩ = some (.int .i64 a2_1) := (blk_cell BK132.out 1).trans rfl
      have hcz20_2 : w8.cell? ⟨gb132, 2, none⟩ = some (.int .i64 a2_2) := (blk_cell BK132.out 2).trans rfl
      have hcz20_3 : w8.cell? ⟨gb132, 3, none⟩ = some (.slice A2_3 l2_3.length c2_3) := (blk_cell BK132.out 3).trans rfl
      have hcz20_4 : w8.cell? ⟨gb132, 4, none⟩ = some (.slice A2_4 l2_4.length c2_4) := (blk_cell BK132.out 4).trans rfl
      have hfz20_0 := blk_frozen BK132.out 0
      have hfz20_1 := blk_frozen BK132.out 1
      have hfz20_2 := blk_frozen BK132.out 2
      have hfz20_3 := blk_frozen BK132.out 3
      have hfz20_4 := blk_frozen BK132.out 4
      go_wp2_with (first | (go_at_call 23; (with_reducible refine (spec_objects.calls k a2_0 a2_1 a2_2 _ _ l2_3 _ _ l2_4 false _ ?side1 ?side2 ?side3 ?side4 A15.out).mono ?_); (case side1 => repeat (first | exact (Kd.V_reads' HO2_3.out).2.2 | (with_reducible refine Kd.C_alloc ?_ _) | (with_reducible refine Kd.C_drewN ?_ _) | (with_reducible refine Kd.C_drew ?_))); (case side2 => exact (Kd.V_reads' HO2_3.out).2.1); (case side3 => repeat (first | exact (Kd.V_reads' HO2_4.out).2.2 | (with_reducible refine Kd.C_alloc ?_ _) | (with_reducible refine Kd.C_drewN ?_ _) | (with_reducible refine Kd.C_drew ?_))); (case side4 => exact (Kd.V_reads' HO2_4.out).2.1); rintro e w21 ⟨rfl, hb⟩; have n0_ := Aside0.mk (Kd.R_below Z54 hb); have n1_ := Aside0.mk (Kd.V_below Z117 hb); have n2_ := Aside0.mk (Kd.V_below Z116 hb); have n3_ := Aside0.mk (blk_below (g := gb132) (o := .cells #[.int .i64 a2_0, .int .i64 a2_1, .int .i64 a2_2, .slice A2_3 l2_3.length c2_3, .slice A2_4 l2_4.length c2_4] 25 (0, 0)) Z48 hb); have n4_ := Aside0.mk (Kept.below (S := (fun k_ => P0_ k_)) Z18 hb); have n5_ := Aside0.mk (below_step Z19 hb); clear HO0; clear HO2_3; clear HO2_4; clear BK132; clear HK; clear HB; have HO0 := n0_; have HO2_3 := n1_; have HO2_4 := n2_; have BK132 := n3_; have HK := n4_; have HB := n5_; clear n0_ n1_ n2_ n3_ n4_ n5_; (try clear hb); (try clear hb2); (try clear hk); (try clear hi); have hcz22_0 : w21.cell? ⟨gb132, 0, none⟩ = some (.int .i64 a2_0) := (blk_cell BK132.out 0).trans rfl; have hcz22_1 : w21.cell? ⟨gb132, 1, none⟩ = some (.int .i64 a2_1) := (blk_cell BK132.out 1).trans rfl; have hcz22_2 : w21.cell? ⟨gb132, 2, none⟩ = some (.int .i64 a2_2) := (blk_cell BK132.out 2).trans rfl; have hcz22_3 : w21.cell? ⟨gb132, 3, none⟩ = some (.slice A2_3 l2_3.length c2_3) := (blk_cell BK132.out 3).trans rfl; have hcz22_4 : w21.cell? ⟨gb132, 4, none⟩ = some (.slice A2_4 l2_4.length c2_4) := (blk_cell BK132.out 4).trans rfl; have hfz22_0 := blk_frozen BK132.out 0; have hfz22_1 := blk_frozen BK132.out 1; have hfz22_2 := blk_frozen BK132.out 2; have hfz22_3 := blk_frozen BK132.out 3; have hfz22_4 := blk_frozen BK132.out 4; obtain ⟨Ao23, co23, eo23⟩ := Kd.R_slice HO0.out; subst eo23) | ((with_reducible refine gate_callee (f := 24) rfl ?_); refine goesL_ (some 35) rfl rfl Try.func24 (by kernel_rfl) rfl #[.slice Ao23 l0.length co23, .string a1, .agg #[.int .i64 a2_0, .int .i64 a2_1, .int .i64 a2_2, .slice A2_3 l2_3.length c2_3, .slice A2_4 l2_4.length c2_4]] rfl Z13 ?_; (with_reducible refine (V_spec_lineTo.calls k (fun k_ => some k_ = (.slice Ao23 l0.length co23 : Value).ownBlock) (.slice Ao23 l0.length co23) l0 a1 a2_0 a2_1 a2_2 (fun k_ => ((((P0_ k_ ∨ P2_3_ k_ ∨ P2_4_ k_) ∨ w.heap.size ≤ k_) ∧ some k_ ≠ (.slice Ao23 l0.length co23 : Value).ownBlock) ∧ k_ ≠ gb132)) _ _ l2_3 (fun k_ => ((((P0_ k_ ∨ P2_3_ k_ ∨ P2_4_ k_) ∨ w.heap.size ≤ k_) ∧ some k_ ≠ (.slice Ao23 l0.length co23 : Value).ownBlock) ∧ k_ ≠ gb132)) _ _ l2_4 t137 w0 _ ?side1 ?side2 ?side3 ?side4 A19.out).mono ?_); (case side1 => exact Z19); (case side2 => exact Kd.R_tight rfl HO0.out); (case side3 => exact Kd.V_mono (HO2_3.out) (fun k_ hk_ => ⟨hk_, hk_.1.2⟩)); (case side4 => exact Kd.V_mono (HO2_4.out) (fun k_ hk_ => ⟨hk_, hk_.1.2⟩)); rintro e w24 ⟨v138, rfl, ho0, hb, hkp⟩; refine ⟨_, rfl, ?_⟩; have n0_ := Aside0.mk (Kd.V_mono (ok' := fun k_ => ((P0_ k_ ∨ P2_3_ k_ ∨ P2_4_ k_) ∨ w.heap.size ≤ k_) ∧ k_ ≠ gb132 ∧ some k_ ≠ (v138 : Value).ownBlock) (Kd.V_keptB (HO2_3.out) hkp (fun k_ hk_ hs_ => (hk_.1.2) hs_)) (fun k_ hk_ => ⟨hk_.1.1.1, hk_.1.2, fun e_ => Or.elim (ho0.1 k_ e_.symm) (fun hs_ => hk_.2.1 hs_) (fun hn_ => Nat.not_le.2 hk_.2.2 hn_)⟩)); have n1_ := Aside0.mk (Kd.V_mono (ok' := fun k_ => ((P0_ k_ ∨ P2_3_ k_ ∨ P2_4_ k_) ∨ w.heap.size ≤ k_) ∧ k_ ≠ gb132 ∧ some k_ ≠ (v138 : Value).ownBlock) (Kd.V_keptB (HO2_4.out) hkp (fun k_ hk_ hs_ => (hk_.1.2) hs_)) (fun k_ hk_ => ⟨hk_.1.1.1, hk_.1.2, fun e_ => Or.elim (ho0.1 k_ e_.symm) (fun hs_ => hk_.2.1 hs_) (fun hn_ => Nat.not_le.2 hk_.2.2 hn_)⟩)); have n2_ := Aside0.mk (blk_kept Z48 hkp (fun hs_ => (fun e_ => (Kd.R_ne HO0.out BK132.out (by decide)) e_) hs_)); have n3_ := Aside0.mk (Kd.R_mono (ok' := fun k_ => (P0_ k_ ∨ w.heap.size ≤ k_)) ho0 (fun k_ hk_ => Or.elim hk_ (fun hs_ => (HO0.out.1 k_ (hs_).symm)) (fun hn_ => (.inr (Nat.le_trans Z148 hn_))))); have n4_ := Aside0.mk (Kept.then_ (S := (fun k_ => P0_ k_)) Z18 hkp (fun k_ hs_ => (fun e_ => (HO0.out.1 k_ e_.symm)) hs_)); have n5_ := Aside0.mk (hb); clear HO2_3; clear HO2_4; clear BK132; clear HK; clear HB; clear HO0; have HO2_3 := n0_; have HO2_4 := n1_; have BK132 := n2_; have HO139 := n3_; have HK := n4_; have HB := n5_; clear n0_ n1_ n2_ n3_ n4_ n5_; (try clear hb); (try clear hkp); (try clear ho0)))
      go_ret
      exact ⟨_, Z15, by (with_reducible repeat (first | apply Kd.R_alloc | apply Kd.R_drewN | apply Kd.R_drew)); exact HO139.out, Z19, Z18⟩
   ·replace c14 := Bool.eq_false_iff.mpr c14
    subst c14
    have H1 : (spec_laidTo.j0 V_spec_laidTo V_spec_lineTo V_spec_bareTo k l0 a1 a3 a4 false a2_0 a2_1 a2_2 l2_3 l2_4) = some r := Z34
    clear H
    have H := H1
    clear H1
    ·
     have H' := Aside0.mk H
     clear H
     have hcz25_0 : w8.cell? ⟨gb132, 0, none⟩ = some (.int .i64 a2_0) := (blk_cell BK132.out 0).trans rfl
     have hcz25_1 : w8.cell? ⟨gb132, 1, none⟩ = some (.int .i64 a2_1) := (blk_cell BK132.out 1).trans rfl
     have hcz25_2 : w8.cell? ⟨gb132, 2, none⟩ = some (.int .i64 a2_2) := (blk_cell BK132.out 2).trans rfl
     have hcz25_3 : w8.cell? ⟨gb132, 3, none⟩ = some (.slice A2_3 l2_3.length c2_3) := (blk_cell BK132.out 3).trans rfl
     have hcz25_4 : w8.cell? ⟨gb132, 4, none⟩ = some (.slice A2_4 l2_4.length c2_4) := (blk_cell BK132.out 4).trans rfl
     have hfz25_0 := blk_frozen BK132.out 0
     have hfz25_1 := blk_frozen BK132.out 1
     have hfz25_2 := blk_frozen BK132.out 2
     have hfz25_3 := blk_frozen BK132.out 3
     have hfz25_4 := blk_frozen BK132.out 4
     go_wp2
     go_meet
     case rel => exact ⟨_, H', ⟨Z88⟩, ⟨Z54⟩, ⟨Z126⟩, ⟨Z125⟩, ⟨Z48⟩, ⟨Z18⟩, ⟨Z19⟩⟩
 case rest =>
  clear HC7
  obtain ⟨kq, HA, HJ6, HO_0, HO_133003, HO_133004, BK132, HK, HB⟩ := hcut
  cases kq with
  | zero => exact absurd HA.out (by simp [spec_laidTo.j0])
  | succ kj6 =>
   have H := HA.out
   clear HA
   simp only [spec_laidTo.j0] at H
   by_cases c26 : a2_0 = 6
   ·rw [if_pos c26] at H
    exact absurd H (by simp)
   ·rw [if_neg c26] at H
    have c26b0 : (a2_0 == 6) = false := beq_eq_false_iff_ne.mpr c26
    have c26b1 : (a2_0 != 6) = true := bne_iff_ne.mpr c26
    by_cases c27 : l0.length < 140737488355328
    ·rw [if_pos c27] at H
     have LMc27 := Aside0.mk c27
     clear c27
     obtain ⟨y140, hy140⟩ : ∃ y_ : List Int, y_ = (l0 ++ [91]) := ⟨_, rfl⟩
     replace H : (spec_laidTo.l0 V_spec_laidTo V_spec_lineTo V_spec_bareTo kj6 y140 a1 a3 a4 a5 93 (l2_4.length : Int) 0 a2_0 a2_1 a2_2 l2_3 l2_4) = some r := by first | (rw [hy140]; with_reducible exact H) | (have H2_ := (Option.bind_some _ _).symm.trans H; rw [hy140]; with_reducible exact H2_) | (have H2_ := (Option.bind_some _ _).symm.trans H; with_reducible exact H2_) | with_reducible exact H | (rw [hy140]; exact H) | exact H
     have Ny140 := Aside0.mk hy140
     clear hy140
     have H' := Aside0.mk H
     clear H
     have hcz28_0 : wc.cell? ⟨gb132, 0, none⟩ = some (.int .i64 a2_0) := (blk_cell BK132.out 0).trans rfl
     have hcz28_1 : wc.cell? ⟨gb132, 1, none⟩ = some (.int .i64 a2_1) := (blk_cell BK132.out 1).trans rfl
     have hcz28_2 : wc.cell? ⟨gb132, 2, none⟩ = some (.int .i64 a2_2) := (blk_cell BK132.out 2).trans rfl
     have hcz28_3 : wc.cell? ⟨gb132, 3, none⟩ = some (.slice A2_3 l2_3.length c2_3) := (blk_cell BK132.out 3).trans rfl
     have hcz28_4 : wc.cell? ⟨gb132, 4, none⟩ = some (.slice A2_4 l2_4.length c2_4) := (blk_cell BK132.out 4).trans rfl
     have hfz28_0 := blk_frozen BK132.out 0
     have hfz28_1 := blk_frozen BK132.out 1
     have hfz28_2 := blk_frozen BK132.out 2
     have hfz28_3 := blk_frozen BK132.out 3
     have hfz28_4 := blk_frozen BK132.out 4
     go_wp2_with (first | ((with_reducible refine gate_builtin (b := .append) (xs := #[.tmp 39, .tmp 41]) rfl ?_); at_builtin; refine Kd.R_append (Kd.int .u8) (w0 := w0) w0.heap.size rfl (.tmp 39) (.tmp 41) 39 5 (.int .u8 0) 1 rfl Try.underlying39 info5 rfl (by decide) (by omega) u9000_ l0 91 [.int .u8 91] (fun k_ => (P0_ k_ ∨ w.heap.size ≤ k_)) (fun _ => False) rfl rfl ?aP (fun _ hk => hk.elim) ?aF ?aO ?aB ?aS ?aL ?_; (case aP => exact rfl); (case aB => exact Z19); (case aF => exact Z74); (case aO => exact Z25); (case aS => exact (below_size Z19)); (case aL => have := LMc27.out; omega); intro v141 w29 ho hb hg hat; rw [← Ny140.out] at ho; have n0_ := Aside0.mk (Kd.V_afterv (ok := (fun k_ => ((P0_ k_ ∨ P2_3_ k_ ∨ P2_4_ k_) ∨ w.heap.size ≤ k_) ∧ k_ ≠ gb132)) Z123 hg hat); have n1_ := Aside0.mk (Kd.V_afterv (ok := (fun k_ => ((P0_ k_ ∨ P2_3_ k_ ∨ P2_4_ k_) ∨ w.heap.size ≤ k_) ∧ k_ ≠ gb132)) Z122 hg hat); have n2_ := Aside0.mk (blk_grown (g := gb132) (o := .cells #[.int .i64 a2_0, .int .i64 a2_1, .int .i64 a2_2, .slice A2_3 l2_3.length c2_3, .slice A2_4 l2_4.length c2_4] 25 (0, 0)) Z48 hg (Kd.R_ne HO_0.out BK132.out (by decide))); have n3_ := Aside0.mk (hb); have n4_ := Aside0.mk (Kept.of_grown (S := (fun k_ => P0_ k_)) hg Z18 (fun k_ e_ => (HO_0.out.1 k_ e_))); have n5_ := Aside0.mk (ho); clear HO_133003; clear HO_133004; clear BK132; clear HB; clear HK; clear HO_0; have HO_133003 := n0_; have HO_133004 := n1_; have BK132 := n2_; have HB := n3_; have HK := n4_; have HO142 := n5_; clear n0_ n1_ n2_ n3_ n4_ n5_; clear ho hb hg hat; have hcz30_0 : w29.cell? ⟨gb132, 0, none⟩ = some (.int .i64 a2_0) := (blk_cell BK132.out 0).trans rfl; have hcz30_1 : w29.cell? ⟨gb132, 1, none⟩ = some (.int .i64 a2_1) := (blk_cell BK132.out 1).trans rfl; have hcz30_2 : w29.cell? ⟨gb132, 2, none⟩ = some (.int .i64 a2_2) := (blk_cell BK132.out 2).trans rfl; have hcz30_3 : w29.cell? ⟨gb132, 3, none⟩ = some (.slice A2_3 l2_3.length c2_3) := (blk_cell BK132.out 3).trans rfl; have hcz30_4 : w29.cell? ⟨gb132, 4, none⟩ = some (.slice A2_4 l2_4.length c2_4) := (blk_cell BK132.out 4).trans rfl; have hfz30_0 := blk_frozen BK132.out 0; have hfz30_1 := blk_frozen BK132.out 1; have hfz30_2 := blk_frozen BK132.out 2; have hfz30_3 := blk_frozen BK132.out 3; have hfz30_4 := blk_frozen BK132.out 4))
     (try simp only [Act.put, List.setIfInBounds_toArray, List.set_cons_zero, List.set_cons_succ])
     go_loopg [0, 46] kj6 (fun kq v0 v46 w' => ∃ (x0_2 : List Int) (x46_2 : Int), v46 = .int .i64 x46_2 ∧ Aside0 (spec_laidTo.l0 V_spec_laidTo V_spec_lineTo V_spec_bareTo kq x0_2 a1 a3 a4 a5 93 (l2_4.length : Int) x46_2 a2_0 a2_1 a2_2 l2_3 l2_4 = some r) ∧ Aside0 (kq ≤ kj6) ∧ Aside0 (Kd.R (Kd.int .u8) 5 w' w0.heap.size (fun k_ => (P0_ k_ ∨ w.heap.size ≤ k_)) v0 x0_2) ∧ Aside0 (Kd.V k53 53 w' w0.heap.size (fun k_ => ((P0_ k_ ∨ P2_3_ k_ ∨ P2_4_ k_) ∨ w.heap.size ≤ k_) ∧ some k_ ≠ (v0 : Value).ownBlock ∧ k_ ≠ gb132) (.slice A2_3 l2_3.length c2_3) l2_3) ∧ Aside0 (Kd.V k25 25 w' w0.heap.size (fun k_ => ((P0_ k_ ∨ P2_3_ k_ ∨ P2_4_ k_) ∨ w.heap.size ≤ k_) ∧ some k_ ≠ (v0 : Value).ownBlock ∧ k_ ≠ gb132) (.slice A2_4 l2_4.length c2_4) l2_4) ∧ Aside0 (w'.heap[gb132]? = some (.cells #[.int .i64 a2_0, .int .i64 a2_1, .int .i64 a2_2, (.slice A2_3 l2_3.length c2_3), (.slice A2_4 l2_4.length c2_4)] 25 (0, 0))) ∧ Aside0 (Kept w w' (fun k_ => P0_ k_)) ∧ Aside0 (Below w0.heap.size w0 w'))
     case atStart => exact ⟨(y140), (0), Z16, H', ⟨Nat.le_refl _⟩, ⟨by (with_reducible repeat (first | apply Kd.R_alloc | apply Kd.R_drewN | apply Kd.R_drew)); exact HO142.out⟩, ⟨by (with_reducible repeat (first | apply Kd.V_alloc | apply Kd.V_drewN | apply Kd.V_drew)); exact Kd.V_mono HO_133003.out (fun _ hk => ⟨hk.1.1, ⟨hk.2, hk.1.2⟩⟩)⟩, ⟨by (with_reducible repeat (first | apply Kd.V_alloc | apply Kd.V_drewN | apply Kd.V_drew)); exact Kd.V_mono HO_133004.out (fun _ hk => ⟨hk.1.1, ⟨hk.2, hk.1.2⟩⟩)⟩, ⟨Z48⟩, ⟨Z18⟩, ⟨Z19⟩⟩
     case round =>
      clear H'
      try clear c26
      try clear c26b0
      try clear c26b1
      try clear c27
      try clear hcz28_0
      try clear hcz28_1
      try clear hcz28_2
      try clear hcz28_3
      try clear hcz28_4
      try clear hcz30_0
      try clear hcz30_1
      try clear hcz30_2
      try clear hcz30_3
      try clear hcz30_4
      try clear hfz28_0
      try clear hfz28_1
      try clear hfz28_2
      try clear hfz28_3
      try clear hfz28_4
      try clear hfz30_0
      try clear hfz30_1
      try clear hfz30_2
      try clear hfz30_3
      try clear hfz30_4
      obtain ⟨x0_2, x46_2, rfl, HA, HK2, HO_0, HO_133003, HO_133004, BK132, HK, HB⟩ := hrel
      cases gk with
      | zero => exact absurd HA.out (by simp [spec_laidTo.l0])
      | succ k2 =>
       have H := HA.out
       clear HA
       simp only [spec_laidTo.l0] at H
       by_cases c31 : x46_2 < (l2_4.length : Int)
       ·rw [if_pos c31] at H
        have c31b0 : decide (x46_2 < (l2_4.length : Int)) = true := decide_eq_true c31
        clear c31
        by_cases c32 : x46_2 > 0
        ·rw [if_pos c32] at H
         have c32b0 : decide (0 < x46_2) = true := decide_eq_true c32
         clear c32
         by_cases c33 : x0_2.length < 140737488355328
         ·rw [if_pos c33] at H
          have LMc33 := Aside0.mk c33
          clear c33
          obtain ⟨y152, hy152⟩ : ∃ y_ : List Int, y_ = (x0_2 ++ [44]) := ⟨_, rfl⟩
          replace H : (if y152.length < 140737488355328 then ((some (y152 ++ [10] : List Int)).bind fun y155 => (if y155.length + a3.size < 140737488355328 then ((some (y155 ++ bytesOf a3 : List Int)).bind fun y158 => (if y158.length + a4.size < 140737488355328 then (if a2_0 = 6 then (none) else (if 0 ≤ x46_2 then (if x46_2 < (l2_4.length : Int) then (if a3.size + a4.size ≤ 9223372036854775807 then ((V_spec_laidTo.f k2 (y158 ++ bytesOf a4) a1 ((rd_T25 l2_4 x46_2).f0) ((rd_T25 l2_4 x46_2).f1) ((rd_T25 l2_4 x46_2).f2) ((rd_T25 l2_4 x46_2).f3) ((rd_T25 l2_4 x46_2).f4) (a3 ++ a4) a4 a5).bind fun t165 => (spec_laidTo.l0 V_spec_laidTo V_spec_lineTo V_spec_bareTo k2 t165 a1 a3 a4 a5 93 (l2_4.length : Int) (wrap64 (x46_2 + 1)) a2_0 a2_1 a2_2 l2_3 l2_4)) else (none)) else (none)) else (none))) else (none))) else (none))) else (none)) = some r := by first | (rw [hy152]; with_reducible exact H) | (have H2_ := (Option.bind_some _ _).symm.trans H; rw [hy152]; with_reducible exact H2_) | (have H2_ := (Option.bind_some _ _).symm.trans H; with_reducible exact H2_) | with_reducible exact H | (rw [hy152]; exact H) | exact H
          have Ny152 := Aside0.mk hy152
          clear hy152
          by_cases c34 : y152.length < 140737488355328
          ·rw [if_pos c34] at H
           have LMc34 := Aside0.mk c34
           clear c34
           obtain ⟨y155, hy155⟩ : ∃ y_ : List Int, y_ = (y152 ++ [10]) := ⟨_, rfl⟩
           replace H : (if y155.length + a3.size < 140737488355328 then ((some (y155 ++ bytesOf a3 : List Int)).bind fun y158 => (if y158.length + a4.size < 140737488355328 then (if a2_0 = 6 then (none) else (if 0 ≤ x46_2 then (if x46_2 < (l2_4.length : Int) then (if a3.size + a4.size ≤ 9223372036854775807 then ((V_spec_laidTo.f k2 (y158 ++ bytesOf a4) a1 ((rd_T25 l2_4 x46_2).f0) ((rd_T25 l2_4 x46_2).f1) ((rd_T25 l2_4 x46_2).f2) ((rd_T25 l2_4 x46_2).f3) ((rd_T25 l2_4 x46_2).f4) (a3 ++ a4) a4 a5).bind fun t165 => (spec_laidTo.l0 V_spec_laidTo V_spec_lineTo V_spec_bareTo k2 t165 a1 a3 a4 a5 93 (l2_4.length : Int) (wrap64 (x46_2 + 1)) a2_0 a2_1 a2_2 l2_3 l2_4)) else (none)) else (none)) else (none))) else (none))) else (none)) = some r := by first | (rw [hy155]; with_reducible exact H) | (have H2_ := (Option.bind_some _ _).symm.trans H; rw [hy155]; with_reducible exact H2_) | (have H2_ := (Option.bind_some _ _).symm.trans H; with_reducible exact H2_) | with_reducible exact H | (rw [hy155]; exact H) | exact H
           have Ny155 := Aside0.mk hy155
           clear hy155
           by_cases c35 : y155.length + a3.size < 140737488355328
           ·rw [if_pos c35] at H
            have LMc35 := Aside0.mk c35
            clear c35
            obtain ⟨y158, hy158⟩ : ∃ y_ : List Int, y_ = (y155 ++ bytesOf a3) := ⟨_, rfl⟩
            replace H : (if y158.length + a4.size < 140737488355328 then (if a2_0 = 6 then (none) else (if 0 ≤ x46_2 then (if x46_2 < (l2_4.length : Int) then (if a3.size + a4.size ≤ 9223372036854775807 then ((V_spec_laidTo.f k2 (y158 ++ bytesOf a4) a1 ((rd_T25 l2_4 x46_2).f0) ((rd_T25 l2_4 x46_2).f1) ((rd_T25 l2_4 x46_2).f2) ((rd_T25 l2_4 x46_2).f3) ((rd_T25 l2_4 x46_2).f4) (a3 ++ a4) a4 a5).bind fun t165 => (spec_laidTo.l0 V_spec_laidTo V_spec_lineTo V_spec_bareTo k2 t165 a1 a3 a4 a5 93 (l2_4.length : Int) (wrap64 (x46_2 + 1)) a2_0 a2_1 a2_2 l2_3 l2_4)) else (none)) else (none)) else (none))) else (none)) = some r := by first | (rw [hy158]; with_reducible exact H) | (have H2_ := (Option.bind_some _ _).symm.trans H; rw [hy158]; with_reducible exact H2_) | (have H2_ := (Option.bind_some _ _).symm.trans H; with_reducible exact H2_) | with_reducible exact H | (rw [hy158]; exact H) | exact H
            have Ny158 := Aside0.mk hy158
            clear hy158
            by_cases c36 : y158.length + a4.size < 140737488355328
            ·rw [if_pos c36] at H
             have LMc36 := Aside0.mk c36
             clear c36
             obtain ⟨y161, hy161⟩ : ∃ y_ : List Int, y_ = (y158 ++ bytesOf a4) := ⟨_, rfl⟩
             replace H : (if a2_0 = 6 then (none) else (if 0 ≤ x46_2 then (if x46_2 < (l2_4.length : Int) then (if a3.size + a4.size ≤ 9223372036854775807 then ((V_spec_laidTo.f k2 y161 a1 ((rd_T25 l2_4 x46_2).f0) ((rd_T25 l2_4 x46_2).f1) ((rd_T25 l2_4 x46_2).f2) ((rd_T25 l2_4 x46_2).f3) ((rd_T25 l2_4 x46_2).f4) (a3 ++ a4) a4 a5).bind fun t165 => (spec_laidTo.l0 V_spec_laidTo V_spec_lineTo V_spec_bareTo k2 t165 a1 a3 a4 a5 93 (l2_4.length : Int) (wrap64 (x46_2 + 1)) a2_0 a2_1 a2_2 l2_3 l2_4)) else (none)) else (none)) else (none))) = some r := by first | (rw [hy161]; with_reducible exact H) | (have H2_ := (Option.bind_some _ _).symm.trans H; rw [hy161]; with_reducible exact H2_) | (have H2_ := (Option.bind_some _ _).symm.trans H; with_reducible exact H2_) | with_reducible exact H | (rw [hy161]; exact H) | exact H
             have Ny161 := Aside0.mk hy161
             clear hy161
             by_cases c37 : a2_0 = 6
             ·rw [if_pos c37] at H
              have c37b0 : (a2_0 == 6) = true := beq_iff_eq.mpr c37
              have c37b1 : (a2_0 != 6) = false := bne_eq_false_iff_eq.mpr c37
              clear c37
              exact absurd H (by simp)
             ·rw [if_neg c37] at H
              have c37b0 : (a2_0 == 6) = false := beq_eq_false_iff_ne.mpr c37
              have c37b1 : (a2_0 != 6) = true := bne_iff_ne.mpr c37
              by_cases c38 : 0 ≤ x46_2
              ·rw [if_pos c38] at H
               have c38b0 : decide (0 ≤ x46_2) = true := decide_eq_true c38
               clear c38
               by_cases c39 : x46_2 < (l2_4.length : Int)
               ·rw [if_pos c39] at H
                have c39b0 : decide (x46_2 < (l2_4.length : Int)) = true := decide_eq_true c39
                clear c39
                by_cases c40 : a3.size + a4.size ≤ 9223372036854775807
                ·rw [if_pos c40] at H
                 have c40b0 := eq_true c40
                 have c40b1 : decide (a3.size + a4.size ≤ 9223372036854775807) = true := decide_eq_true c40
                 try have c40b2 : (9223372036854775807 < a3.size + a4.size) = False := eq_false (Nat.not_lt.2 c40)
                 replace H := Option.bind_eq_some_iff.mp H
                 obtain ⟨t165, A410, H⟩ := H
                 replace H : (spec_laidTo.l0 V_spec_laidTo V_spec_lineTo V_spec_bareTo k2 t165 a1 a3 a4 a5 93 (l2_4.length : Int) (wrap64 (x46_2 + 1)) a2_0 a2_1 a2_2 l2_3 l2_4) = some r := H
                 have A41 := Aside0.mk A410
                 clear A410
                 ·
                  have H' := Aside0.mk H
                  clear H
                  go_wp2_with (first | ((with_reducible refine gate_builtin (b := .append) (xs := #[.tmp 51, .tmp 52]) rfl ?_); at_builtin; refine Kd.R_append (Kd.int .u8) (w0 := w0) w0.heap.size rfl (.tmp 51) (.tmp 52) 39 5 (.int .u8 0) 1 rfl Try.underlying39 info5 rfl (by decide) (by omega) u0 x0_2 44 [.int .u8 44] (fun k_ => (P0_ k_ ∨ w.heap.size ≤ k_)) (fun _ => False) rfl rfl ?aP (fun _ hk => hk.elim) ?aF ?aO ?aB ?aS ?aL ?_; (case aP => exact rfl); (case aB => exact Z19); (case aF => exact Z74); (case aO => exact Z25); (case aS => exact (below_size Z19)); (case aL => have := LMc33.out; omega); intro v153 w42 ho hb hg hat; rw [← Ny152.out] at ho; have n0_ := Aside0.mk (Kd.V_afterv (ok := (fun k_ => ((P0_ k_ ∨ P2_3_ k_ ∨ P2_4_ k_) ∨ w.heap.size ≤ k_) ∧ k_ ≠ gb132)) Z123 hg hat); have n1_ := Aside0.mk (Kd.V_afterv (ok := (fun k_ => ((P0_ k_ ∨ P2_3_ k_ ∨ P2_4_ k_) ∨ w.heap.size ≤ k_) ∧ k_ ≠ gb132)) Z122 hg hat); have n2_ := Aside0.mk (blk_grown (g := gb132) (o := .cells #[.int .i64 a2_0, .int .i64 a2_1, .int .i64 a2_2, .slice A2_3 l2_3.length c2_3, .slice A2_4 l2_4.length c2_4] 25 (0, 0)) Z48 hg (Kd.R_ne HO_0.out BK132.out (by decide))); have n3_ := Aside0.mk (hb); have n4_ := Aside0.mk (Kept.of_grown (S := (fun k_ => P0_ k_)) hg Z18 (fun k_ e_ => (HO_0.out.1 k_ e_))); have n5_ := Aside0.mk (ho); clear HO_133003; clear HO_133004; clear BK132; clear HB; clear HK; clear HO_0; have HO_133003 := n0_; have HO_133004 := n1_; have BK132 := n2_; have HB := n3_; have HK := n4_; have HO154 := n5_; clear n0_ n1_ n2_ n3_ n4_ n5_; clear ho hb hg hat) | ((with_reducible refine gate_builtin (b := .append) (xs := #[.tmp 54, .tmp 55]) rfl ?_); at_builtin; refine Kd.R_append (Kd.int .u8) (w0 := w0) w0.heap.size rfl (.tmp 54) (.tmp 55) 39 5 (.int .u8 0) 1 rfl Try.underlying39 info5 rfl (by decide) (by omega) v153 y152 10 [.int .u8 10] (fun k_ => (P0_ k_ ∨ w.heap.size ≤ k_)) (fun _ => False) rfl rfl ?aP (fun _ hk => hk.elim) ?aF ?aO ?aB ?aS ?aL ?_; (case aP => exact rfl); (case aB => exact Z19); (case aF => exact Z74); (case aO => exact (by (with_reducible repeat (first | apply Kd.R_alloc | apply Kd.R_drewN | apply Kd.R_drew)); exact HO154.out)); (case aS => exact (below_size Z19)); (case aL => have := LMc34.out; omega); intro v156 w43 ho hb hg hat; rw [← Ny155.out] at ho; have n0_ := Aside0.mk (Kd.V_afterv (ok := (fun k_ => ((P0_ k_ ∨ P2_3_ k_ ∨ P2_4_ k_) ∨ w.heap.size ≤ k_) ∧ k_ ≠ gb132)) Z105 hg hat); have n1_ := Aside0.mk (Kd.V_afterv (ok := (fun k_ => ((P0_ k_ ∨ P2_3_ k_ ∨ P2_4_ k_) ∨ w.heap.size ≤ k_) ∧ k_ ≠ gb132)) Z104 hg hat); have n2_ := Aside0.mk (blk_grown (g := gb132) (o := .cells #[.int .i64 a2_0, .int .i64 a2_1, .int .i64 a2_2, .slice A2_3 l2_3.length c2_3, .slice A2_4 l2_4.length c2_4] 25 (0, 0)) Z48 hg (Kd.R_ne HO154.out BK132.out (by decide))); have n3_ := Aside0.mk (hb); have n4_ := Aside0.mk (Kept.of_grown (S := (fun k_ => P0_ k_)) hg Z18 (fun k_ e_ => (HO154.out.1 k_ e_))); have n5_ := Aside0.mk (ho); clear HO_133003; clear HO_133004; clear BK132; clear HB; clear HK; clear HO154; have HO_133003 := n0_; have HO_133004 := n1_; have BK132 := n2_; have HB := n3_; have HK := n4_; have HO157 := n5_; clear n0_ n1_ n2_ n3_ n4_ n5_; clear ho hb hg hat) | (at_builtin; refine Kd.R_append_str (w0 := w0) w0.heap.size rfl (.tmp 57) _ 39 9 5 rfl Try.underlying39 Try.underlying9 info5 v156 y155 a3 (fun k_ => (P0_ k_ ∨ w.heap.size ≤ k_)) rfl rfl ?aF ?aO ?aB ?aS ?aL ?_; (case aB => exact Z19); (case aF => exact Z74); (case aO => exact (by (with_reducible repeat (first | apply Kd.R_alloc | apply Kd.R_drewN | apply Kd.R_drew)); exact HO157.out)); (case aS => exact (below_size Z19)); (case aL => have := LMc35.out; omega); intro v159 w44 ho hb hg hat; rw [← Ny158.out] at ho; have n0_ := Aside0.mk (Kd.V_afterv (ok := (fun k_ => ((P0_ k_ ∨ P2_3_ k_ ∨ P2_4_ k_) ∨ w.heap.size ≤ k_) ∧ k_ ≠ gb132)) Z105 hg hat); have n1_ := Aside0.mk (Kd.V_afterv (ok := (fun k_ => ((P0_ k_ ∨ P2_3_ k_ ∨ P2_4_ k_) ∨ w.heap.size ≤ k_) ∧ k_ ≠ gb132)) Z104 hg hat); have n2_ := Aside0.mk (blk_grown (g := gb132) (o := .cells #[.int .i64 a2_0, .int .i64 a2_1, .int .i64 a2_2, .slice A2_3 l2_3.length c2_3, .slice A2_4 l2_4.length c2_4] 25 (0, 0)) Z48 hg (Kd.R_ne HO157.out BK132.out (by decide))); have n3_ := Aside0.mk (hb); have n4_ := Aside0.mk (Kept.of_grown (S := (fun k_ => P0_ k_)) hg Z18 (fun k_ e_ => (HO157.out.1 k_ e_))); have n5_ := Aside0.mk (ho); clear HO_133003; clear HO_133004; clear BK132; clear HB; clear HK; clear HO157; have HO_133003 := n0_; have HO_133004 := n1_; have BK132 := n2_; have HB := n3_; have HK := n4_; have HO160 := n5_; clear n0_ n1_ n2_ n3_ n4_ n5_; clear ho hb hg hat) | (at_builtin; refine Kd.R_append_str (w0 := w0) w0.heap.size rfl (.tmp 60) _ 39 9 5 rfl Try.underlying39 Try.underlying9 info5 v159 y158 a4 (fun k_ => (P0_ k_ ∨ w.heap.size ≤ k_)) rfl rfl ?aF ?aO ?aB ?aS ?aL ?_; (case aB => exact Z19); (case aF => exact Z74); (case aO => exact (by (with_reducible repeat (first | apply Kd.R_alloc | apply Kd.R_drewN | apply Kd.R_drew)); exact HO160.out)); (case aS => exact (below_size Z19)); (case aL => have := LMc36.out; omega); intro v162 w45 ho hb hg hat; rw [← Ny161.out] at ho; have n0_ := Aside0.mk (Kd.V_afterv (ok := (fun k_ => ((P0_ k_ ∨ P2_3_ k_ ∨ P2_4_ k_) ∨ w.heap.size ≤ k_) ∧ k_ ≠ gb132)) Z105 hg hat); have n1_ := Aside0.mk (Kd.V_afterv (ok := (fun k_ => ((P0_ k_ ∨ P2_3_ k_ ∨ P2_4_ k_) ∨ w.heap.size ≤ k_) ∧ k_ ≠ gb132)) Z104 hg hat); have n2_ := Aside0.mk (blk_grown (g := gb132) (o := .cells #[.int .i64 a2_0, .int .i64 a2_1, .int .i64 a2_2, .slice A2_3 l2_3.length c2_3, .slice A2_4 l2_4.length c2_4] 25 (0, 0)) Z48 hg (Kd.R_ne HO160.out BK132.out (by decide))); have n3_ := Aside0.mk (hb); have n4_ := Aside0.mk (Kept.of_grown (S := (fun k_ => P0_ k_)) hg Z18 (fun k_ e_ => (HO160.out.1 k_ e_))); have n5_ := Aside0.mk (ho); clear HO_133003; clear HO_133004; clear BK132; clear HB; clear HK; clear HO160; have HO_133003 := n0_; have HO_133004 := n1_; have BK132 := n2_; have HB := n3_; have HK := n4_; have HO163 := n5_; clear n0_ n1_ n2_ n3_ n4_ n5_; clear ho hb hg hat; have hcz46_0 : w45.cell? ⟨gb132, 0, none⟩ = some (.int .i64 a2_0) := (blk_cell BK132.out 0).trans rfl; have hcz46_1 : w45.cell? ⟨gb132, 1, none⟩ = some (.int .i64 a2_1) := (blk_cell BK132.out 1).trans rfl; have hcz46_2 : w45.cell? ⟨gb132, 2, none⟩ = some (.int .i64 a2_2) := (blk_cell BK132.out 2).trans rfl; have hcz46_3 : w45.cell? ⟨gb132, 3, none⟩ = some (.slice A2_3 l2_3.length c2_3) := (blk_cell BK132.out 3).trans rfl; have hcz46_4 : w45.cell? ⟨gb132, 4, none⟩ = some (.slice A2_4 l2_4.length c2_4) := (blk_cell BK132.out 4).trans rfl; have hfz46_0 := blk_frozen BK132.out 0; have hfz46_1 := blk_frozen BK132.out 1; have hfz46_2 := blk_frozen BK132.out 2; have hfz46_3 := blk_frozen BK132.out 3; have hfz46_4 := blk_frozen BK132.out 4; have p164 : 0 ≤ (x46_2 : Int) := of_decide_eq_true Z11; have q164 : x46_2 < (l2_4.length : Int) := of_decide_eq_true Z11; obtain ⟨ad164, A164_3, c164_3, A164_4, c164_4, e164, hx164_0, hx164_1, hx164_2, hx164_3, hx164_4, hl164_3, hi164_3, hl164_4, hi164_4⟩ := at_T25 (Kd.V_reads' HO_133004.out).2.2 x46_2 p164 q164; cases e164; obtain ⟨ce164, hce164, hMe164, hcc164⟩ := Kd.V_get HO_133004.out z25 x46_2 p164 (by first | exact q164 | exact of_decide_eq_true Z11 | (have e_ := (Kd.V_reads' HO_133004.out).1; omega)); obtain ⟨ua164_3, uc164_3, ua164_4, uc164_4, rfl, ul164_3, ge164_3, ul164_4, ge164_4⟩ := k25_openF hMe164; have hv164_3 := hcc164 3 _ rfl; rw [add_field _ _ 3 (by omega)] at hv164_3; replace hv164_3 := Option.some.inj (hv164_3.symm.trans hx164_3); injection hv164_3 with hva_ hvn_ hvc_; rw [hva_] at ge164_3; rw [hvc_] at ul164_3; have HL164_3 := Aside0.mk (show Kd.V k53 53 _ w0.heap.size _ _ ((rd_T25 l2_4 x46_2).f3) from Kd.V_mk ul164_3 ge164_3); clear hva_ hvn_ hvc_ ge164_3 ul164_3; have hv164_4 := hcc164 4 _ rfl; rw [add_field _ _ 4 (by omega)] at hv164_4; replace hv164_4 := Option.some.inj (hv164_4.symm.trans hx164_4); injection hv164_4 with hva_ hvn_ hvc_; rw [hva_] at ge164_4; rw [hvc_] at ul164_4; have HL164_4 := Aside0.mk (show Kd.V k25 25 _ w0.heap.size _ _ ((rd_T25 l2_4 x46_2).f4) from Kd.V_mk ul164_4 ge164_4); clear hva_ hvn_ hvc_ ge164_4 ul164_4; clear hcc164 hce164; have HR164_3 := Aside0.mk hi164_3; have HC164_3 := Aside0.mk hl164_3; clear hi164_3 hl164_3; have HR164_4 := Aside0.mk hi164_4; have HC164_4 := Aside0.mk hl164_4; clear hi164_4 hl164_4; replace p164 := eq_true p164; replace q164 := eq_true q164; obtain ⟨Ao47, co47, eo47⟩ := Kd.R_slice HO163.out; subst eo47) | ((with_reducible refine gate_callee (f := 17) rfl ?_); refine goesL_ (some 97) rfl rfl Try.func17 (by kernel_rfl) rfl #[.slice Ao47 y161.length co47, .string a1, .agg #[.int .i64 ((rd_T25 l2_4 x46_2).f0), .int .i64 ((rd_T25 l2_4 x46_2).f1), .int .i64 ((rd_T25 l2_4 x46_2).f2), .slice A164_3 ((rd_T25 l2_4 x46_2).f3).length c164_3, .slice A164_4 ((rd_T25 l2_4 x46_2).f4).length c164_4], .string (a3 ++ a4), .string a4, .bool a5] rfl Z13 ?_; (with_reducible refine (V_spec_laidTo.calls k2 (fun k_ => some k_ = (.slice Ao47 y161.length co47 : Value).ownBlock) (.slice Ao47 y161.length co47) y161 a1 ((rd_T25 l2_4 x46_2).f0) ((rd_T25 l2_4 x46_2).f1) ((rd_T25 l2_4 x46_2).f2) (fun k_ => ((((P0_ k_ ∨ P2_3_ k_ ∨ P2_4_ k_) ∨ w.heap.size ≤ k_) ∧ k_ ≠ gb132) ∧ some k_ ≠ (.slice Ao47 y161.length co47 : Value).ownBlock)) _ _ ((rd_T25 l2_4 x46_2).f3) (fun k_ => ((((P0_ k_ ∨ P2_3_ k_ ∨ P2_4_ k_) ∨ w.heap.size ≤ k_) ∧ k_ ≠ gb132) ∧ some k_ ≠ (.slice Ao47 y161.length co47 : Value).ownBlock)) _ _ ((rd_T25 l2_4 x46_2).f4) (a3 ++ a4) a4 a5 t165 w0 _ ?side1 ?side2 ?side3 ?side4 A41.out).mono ?_); (case side1 => exact Z19); (case side2 => exact Kd.R_tight rfl HO163.out); (case side3 => exact Kd.V_mono (HL164_3.out) (fun k_ hk_ => ⟨hk_, hk_.2⟩)); (case side4 => exact Kd.V_mono (HL164_4.out) (fun k_ hk_ => ⟨hk_, hk_.2⟩)); rintro e w48 ⟨v166, rfl, ho0, hb, hkp⟩; refine ⟨_, rfl, ?_⟩; have n0_ := Aside0.mk (Kd.V_mono (ok' := fun k_ => ((P0_ k_ ∨ P2_3_ k_ ∨ P2_4_ k_) ∨ w.heap.size ≤ k_) ∧ k_ ≠ gb132 ∧ some k_ ≠ (v166 : Value).ownBlock) (Kd.V_keptB (HO_133003.out) hkp (fun k_ hk_ hs_ => (hk_.2) hs_)) (fun k_ hk_ => ⟨hk_.1.1.1, hk_.1.1.2, fun e_ => Or.elim (ho0.1 k_ e_.symm) (fun hs_ => hk_.2.1 hs_) (fun hn_ => Nat.not_le.2 hk_.2.2 hn_)⟩)); have n1_ := Aside0.mk (Kd.V_mono (ok' := fun k_ => ((P0_ k_ ∨ P2_3_ k_ ∨ P2_4_ k_) ∨ w.heap.size ≤ k_) ∧ k_ ≠ gb132 ∧ some k_ ≠ (v166 : Value).ownBlock) (Kd.V_keptB (HO_133004.out) hkp (fun k_ hk_ hs_ => (hk_.2) hs_)) (fun k_ hk_ => ⟨hk_.1.1.1, hk_.1.1.2, fun e_ => Or.elim (ho0.1 k_ e_.symm) (fun hs_ => hk_.2.1 hs_) (fun hn_ => Nat.not_le.2 hk_.2.2 hn_)⟩)); have n2_ := Aside0.mk (blk_kept Z48 hkp (fun hs_ => (fun e_ => (Kd.R_ne HO163.out BK132.out (by decide)) e_) hs_)); have n3_ := Aside0.mk (Kd.R_mono (ok' := fun k_ => (P0_ k_ ∨ w.heap.size ≤ k_)) ho0 (fun k_ hk_ => Or.elim hk_ (fun hs_ => (HO163.out.1 k_ (hs_).symm)) (fun hn_ => (.inr (Nat.le_trans Z148 hn_))))); have n4_ := Aside0.mk (Kept.then_ (S := (fun k_ => P0_ k_)) Z18 hkp (fun k_ hs_ => (fun e_ => (HO163.out.1 k_ e_.symm)) hs_)); have n5_ := Aside0.mk (hb); clear HO_133003; clear HO_133004; clear BK132; clear HK; clear HB; clear HO163; clear HL164_3; clear HL164_4; have HO_133003 := n0_; have HO_133004 := n1_; have BK132 := n2_; have HO167 := n3_; have HK := n4_; have HB := n5_; clear n0_ n1_ n2_ n3_ n4_ n5_; (try clear hb); (try clear hkp); (try clear ho0)))
                  go_roundg k2
                  case measure => have := HJ6.out; have := HK2.out; omega
                  case rel => exact ⟨(t165), (wrap64 (x46_2 + 1)), Z16, H', ⟨by have := HJ6.out; have := HK2.out; omega⟩, ⟨by (with_reducible repeat (first | apply Kd.R_alloc | apply Kd.R_drewN | apply Kd.R_drew)); exact HO167.out⟩, ⟨by (with_reducible repeat (first | apply Kd.V_alloc | apply Kd.V_drewN | apply Kd.V_drew)); exact Kd.V_mono HO_133003.out (fun _ hk => ⟨hk.1, ⟨hk.2.2, hk.2.1⟩⟩)⟩, ⟨by (with_reducible repeat (first | apply Kd.V_alloc | apply Kd.V_drewN | apply Kd.V_drew)); exact Kd.V_mono HO_133004.out (fun _ hk => ⟨hk.1, ⟨hk.2.2, hk.2.1⟩⟩)⟩, ⟨Z48⟩, ⟨Z18⟩, ⟨Z19⟩⟩
                ·rw [if_neg c40] at H
                 exact absurd H (by simp)
               ·rw [if_neg c39] at H
                exact absurd H (by simp)
              ·rw [if_neg c38] at H
               exact absurd H (by simp)
            ·rw [if_neg c36] at H
             exact absurd H (by simp)
           ·rw [if_neg c35] at H
            exact absurd H (by simp)
          ·rw [if_neg c34] at H
           exact absurd H (by simp)
         ·rw [if_neg c33] at H
          exact absurd H (by simp)
        ·rw [if_neg c32] at H
         have c32b0 : decide (0 < x46_2) = false := decide_eq_false c32
         clear c32
         by_cases c49 : x0_2.length < 140737488355328
         ·rw [if_pos c49] at H
          have LMc49 := Aside0.mk c49
          clear c49
          obtain ⟨y168, hy168⟩ : ∃ y_ : List Int, y_ = (x0_2 ++ [10]) := ⟨_, rfl⟩
          replace H : (if y168.length + a3.size < 140737488355328 then ((some (y168 ++ bytesOf a3 : List Int)).bind fun y171 => (if y171.length + a4.size < 140737488355328 then (if a2_0 = 6 then (none) else (if 0 ≤ x46_2 then (if x46_2 < (l2_4.length : Int) then (if a3.size + a4.size ≤ 9223372036854775807 then ((V_spec_laidTo.f k2 (y171 ++ bytesOf a4) a1 ((rd_T25 l2_4 x46_2).f0) ((rd_T25 l2_4 x46_2).f1) ((rd_T25 l2_4 x46_2).f2) ((rd_T25 l2_4 x46_2).f3) ((rd_T25 l2_4 x46_2).f4) (a3 ++ a4) a4 a5).bind fun t178 => (spec_laidTo.l0 V_spec_laidTo V_spec_lineTo V_spec_bareTo k2 t178 a1 a3 a4 a5 93 (l2_4.length : Int) (wrap64 (x46_2 + 1)) a2_0 a2_1 a2_2 l2_3 l2_4)) else (none)) else (none)) else (none))) else (none))) else (none)) = some r := by first | (rw [hy168]; with_reducible exact H) | (have H2_ := (Option.bind_some _ _).symm.trans H; rw [hy168]; with_reducible exact H2_) | (have H2_ := (Option.bind_some _ _).symm.trans H; with_reducible exact H2_) | with_reducible exact H | (rw [hy168]; exact H) | exact H
          have Ny168 := Aside0.mk hy168
          clear hy168
          by_cases c50 : y168.length + a3.size < 140737488355328
          ·rw [if_pos c50] at H
           have LMc50 := Aside0.mk c50
           clear c50
           obtain ⟨y171, hy171⟩ : ∃ y_ : List Int, y_ = (y168 ++ bytesOf a3) := ⟨_, rfl⟩
           replace H : (if y171.length + a4.size < 140737488355328 then (if a2_0 = 6 then (none) else (if 0 ≤ x46_2 then (if x46_2 < (l2_4.length : Int) then (if a3.size + a4.size ≤ 9223372036854775807 then ((V_spec_laidTo.f k2 (y171 ++ bytesOf a4) a1 ((rd_T25 l2_4 x46_2).f0) ((rd_T25 l2_4 x46_2).f1) ((rd_T25 l2_4 x46_2).f2) ((rd_T25 l2_4 x46_2).f3) ((rd_T25 l2_4 x46_2).f4) (a3 ++ a4) a4 a5).bind fun t178 => (spec_laidTo.l0 V_spec_laidTo V_spec_lineTo V_spec_bareTo k2 t178 a1 a3 a4 a5 93 (l2_4.length : Int) (wrap64 (x46_2 + 1)) a2_0 a2_1 a2_2 l2_3 l2_4)) else (none)) else (none)) else (none))) else (none)) = some r := by first | (rw [hy171]; with_reducible exact H) | (have H2_ := (Option.bind_some _ _).symm.trans H; rw [hy171]; with_reducible exact H2_) | (have H2_ := (Option.bind_some _ _).symm.trans H; with_reducible exact H2_) | with_reducible exact H | (rw [hy171]; exact H) | exact H
           have Ny171 := Aside0.mk hy171
           clear hy171
           by_cases c51 : y171.length + a4.size < 140737488355328
           ·rw [if_pos c51] at H
            have LMc51 := Aside0.mk c51
            clear c51
            obtain ⟨y174, hy174⟩ : ∃ y_ : List Int, y_ = (y171 ++ bytesOf a4) := ⟨_, rfl⟩
            replace H : (if a2_0 = 6 then (none) else (if 0 ≤ x46_2 then (if x46_2 < (l2_4.length : Int) then (if a3.size + a4.size ≤ 9223372036854775807 then ((V_spec_laidTo.f k2 y174 a1 ((rd_T25 l2_4 x46_2).f0) ((rd_T25 l2_4 x46_2).f1) ((rd_T25 l2_4 x46_2).f2) ((rd_T25 l2_4 x46_2).f3) ((rd_T25 l2_4 x46_2).f4) (a3 ++ a4) a4 a5).bind fun t178 => (spec_laidTo.l0 V_spec_laidTo V_spec_lineTo V_spec_bareTo k2 t178 a1 a3 a4 a5 93 (l2_4.length : Int) (wrap64 (x46_2 + 1)) a2_0 a2_1 a2_2 l2_3 l2_4)) else (none)) else (none)) else (none))) = some r := by first | (rw [hy174]; with_reducible exact H) | (have H2_ := (Option.bind_some _ _).symm.trans H; rw [hy174]; with_reducible exact H2_) | (have H2_ := (Option.bind_some _ _).symm.trans H; with_reducible exact H2_) | with_reducible exact H | (rw [hy174]; exact H) | exact H
            have Ny174 := Aside0.mk hy174
            clear hy174
            by_cases c52 : a2_0 = 6
            ·rw [if_pos c52] at H
             have c52b0 : (a2_0 == 6) = true := beq_iff_eq.mpr c52
             have c52b1 : (a2_0 != 6) = false := bne_eq_false_iff_eq.mpr c52
             clear c52
             exact absurd H (by simp)
            ·rw [if_neg c52] at H
             have c52b0 : (a2_0 == 6) = false := beq_eq_false_iff_ne.mpr c52
             have c52b1 : (a2_0 != 6) = true := bne_iff_ne.mpr c52
             by_cases c53 : 0 ≤ x46_2
             ·rw [if_pos c53] at H
              have c53b0 : decide (0 ≤ x46_2) = true := decide_eq_true c53
              clear c53
              by_cases c54 : x46_2 < (l2_4.length : Int)
              ·rw [if_pos c54] at H
               have c54b0 : decide (x46_2 < (l2_4.length : Int)) = true := decide_eq_true c54
               clear c54
               by_cases c55 : a3.size + a4.size ≤ 9223372036854775807
               ·rw [if_pos c55] at H
                have c55b0 := eq_true c55
                have c55b1 : decide (a3.size + a4.size ≤ 9223372036854775807) = true := decide_eq_true c55
                try have c55b2 : (9223372036854775807 < a3.size + a4.size) = False := eq_false (Nat.not_lt.2 c55)
                replace H := Option.bind_eq_some_iff.mp H
                obtain ⟨t178, A560, H⟩ := H
                replace H : (spec_laidTo.l0 V_spec_laidTo V_spec_lineTo V_spec_bareTo k2 t178 a1 a3 a4 a5 93 (l2_4.length : Int) (wrap64 (x46_2 + 1)) a2_0 a2_1 a2_2 l2_3 l2_4) = some r := H
                have A56 := Aside0.mk A560
                clear A560
                ·
                 have H' := Aside0.mk H
                 clear H
                 go_wp2_with (first | ((with_reducible refine gate_builtin (b := .append) (xs := #[.tmp 54, .tmp 55]) rfl ?_); at_builtin; refine Kd.R_append (Kd.int .u8) (w0 := w0) w0.heap.size rfl (.tmp 54) (.tmp 55) 39 5 (.int .u8 0) 1 rfl Try.underlying39 info5 rfl (by decide) (by omega) u0 x0_2 10 [.int .u8 10] (fun k_ => (P0_ k_ ∨ w.heap.size ≤ k_)) (fun _ => False) rfl rfl ?aP (fun _ hk => hk.elim) ?aF ?aO ?aB ?aS ?aL ?_; (case aP => exact rfl); (case aB => exact Z19); (case aF => exact Z74); (case aO => exact Z25); (case aS => exact (below_size Z19)); (case aL => have := LMc49.out; omega); intro v169 w57 ho hb hg hat; rw [← Ny168.out] at ho; have n0_ := Aside0.mk (Kd.V_afterv (ok := (fun k_ => ((P0_ k_ ∨ P2_3_ k_ ∨ P2_4_ k_) ∨ w.heap.size ≤ k_) ∧ k_ ≠ gb132)) Z123 hg hat); have n1_ := Aside0.mk (Kd.V_afterv (ok := (fun k_ => ((P0_ k_ ∨ P2_3_ k_ ∨ P2_4_ k_) ∨ w.heap.size ≤ k_) ∧ k_ ≠ gb132)) Z122 hg hat); have n2_ := Aside0.mk (blk_grown (g := gb132) (o := .cells #[.int .i64 a2_0, .int .i64 a2_1, .int .i64 a2_2, .slice A2_3 l2_3.length c2_3, .slice A2_4 l2_4.length c2_4] 25 (0, 0)) Z48 hg (Kd.R_ne HO_0.out BK132.out (by decide))); have n3_ := Aside0.mk (hb); have n4_ := Aside0.mk (Kept.of_grown (S := (fun k_ => P0_ k_)) hg Z18 (fun k_ e_ => (HO_0.out.1 k_ e_))); have n5_ := Aside0.mk (ho); clear HO_133003; clear HO_133004; clear BK132; clear HB; clear HK; clear HO_0; have HO_133003 := n0_; have HO_133004 := n1_; have BK132 := n2_; have HB := n3_; have HK := n4_; have HO170 := n5_; clear n0_ n1_ n2_ n3_ n4_ n5_; clear ho hb hg hat) | (at_builtin; refine Kd.R_append_str (w0 := w0) w0.heap.size rfl (.tmp 57) _ 39 9 5 rfl Try.underlying39 Try.underlying9 info5 v169 y168 a3 (fun k_ => (P0_ k_ ∨ w.heap.size ≤ k_)) rfl rfl ?aF ?aO ?aB ?aS ?aL ?_; (case aB => exact Z19); (case aF => exact Z74); (case aO => exact (by (with_reducible repeat (first | apply Kd.R_alloc | apply Kd.R_drewN | apply Kd.R_drew)); exact HO170.out)); (case aS => exact (below_size Z19)); (case aL => have := LMc50.out; omega); intro v172 w58 ho hb hg hat; rw [← Ny171.out] at ho; have n0_ := Aside0.mk (Kd.V_afterv (ok := (fun k_ => ((P0_ k_ ∨ P2_3_ k_ ∨ P2_4_ k_) ∨ w.heap.size ≤ k_) ∧ k_ ≠ gb132)) Z105 hg hat); have n1_ := Aside0.mk (Kd.V_afterv (ok := (fun k_ => ((P0_ k_ ∨ P2_3_ k_ ∨ P2_4_ k_) ∨ w.heap.size ≤ k_) ∧ k_ ≠ gb132)) Z104 hg hat); have n2_ := Aside0.mk (blk_grown (g := gb132) (o := .cells #[.int .i64 a2_0, .int .i64 a2_1, .int .i64 a2_2, .slice A2_3 l2_3.length c2_3, .slice A2_4 l2_4.length c2_4] 25 (0, 0)) Z48 hg (Kd.R_ne HO170.out BK132.out (by decide))); have n3_ := Aside0.mk (hb); have n4_ := Aside0.mk (Kept.of_grown (S := (fun k_ => P0_ k_)) hg Z18 (fun k_ e_ => (HO170.out.1 k_ e_))); have n5_ := Aside0.mk (ho); clear HO_133003; clear HO_133004; clear BK132; clear HB; clear HK; clear HO170; have HO_133003 := n0_; have HO_133004 := n1_; have BK132 := n2_; have HB := n3_; have HK := n4_; have HO173 := n5_; clear n0_ n1_ n2_ n3_ n4_ n5_; clear ho hb hg hat) | (at_builtin; refine Kd.R_append_str (w0 := w0) w0.heap.size rfl (.tmp 60) _ 39 9 5 rfl Try.underlying39 Try.underlying9 info5 v172 y171 a4 (fun k_ => (P0_ k_ ∨ w.heap.size ≤ k_)) rfl rfl ?aF ?aO ?aB ?aS ?aL ?_; (case aB => exact Z19); (case aF => exact Z74); (case aO => exact (by (with_reducible repeat (first | apply Kd.R_alloc | apply Kd.R_drewN | apply Kd.R_drew)); exact HO173.out)); (case aS => exact (below_size Z19)); (case aL => have := LMc51.out; omega); intro v175 w59 ho hb hg hat; rw [← Ny174.out] at ho; have n0_ := Aside0.mk (Kd.V_afterv (ok := (fun k_ => ((P0_ k_ ∨ P2_3_ k_ ∨ P2_4_ k_) ∨ w.heap.size ≤ k_) ∧ k_ ≠ gb132)) Z105 hg hat); have n1_ := Aside0.mk (Kd.V_afterv (ok := (fun k_ => ((P0_ k_ ∨ P2_3_ k_ ∨ P2_4_ k_) ∨ w.heap.size ≤ k_) ∧ k_ ≠ gb132)) Z104 hg hat); have n2_ := Aside0.mk (blk_grown (g := gb132) (o := .cells #[.int .i64 a2_0, .int .i64 a2_1, .int .i64 a2_2, .slice A2_3 l2_3.length c2_3, .slice A2_4 l2_4.length c2_4] 25 (0, 0)) Z48 hg (Kd.R_ne HO173.out BK132.out (by decide))); have n3_ := Aside0.mk (hb); have n4_ := Aside0.mk (Kept.of_grown (S := (fun k_ => P0_ k_)) hg Z18 (fun k_ e_ => (HO173.out.1 k_ e_))); have n5_ := Aside0.mk (ho); clear HO_133003; clear HO_133004; clear BK132; clear HB; clear HK; clear HO173; have HO_133003 := n0_; have HO_133004 := n1_; have BK132 := n2_; have HB := n3_; have HK := n4_; have HO176 := n5_; clear n0_ n1_ n2_ n3_ n4_ n5_; clear ho hb hg hat; have hcz60_0 : w59.cell? ⟨gb132, 0, none⟩ = some (.int .i64 a2_0) := (blk_cell BK132.out 0).trans rfl; have hcz60_1 : w59.cell? ⟨gb132, 1, none⟩ = some (.int .i64 a2_1) := (blk_cell BK132.out 1).trans rfl; have hcz60_2 : w59.cell? ⟨gb132, 2, none⟩ = some (.int .i64 a2_2) := (blk_cell BK132.out 2).trans rfl; have hcz60_3 : w59.cell? ⟨gb132, 3, none⟩ = some (.slice A2_3 l2_3.length c2_3) := (blk_cell BK132.out 3).trans rfl; have hcz60_4 : w59.cell? ⟨gb132, 4, none⟩ = some (.slice A2_4 l2_4.length c2_4) := (blk_cell BK132.out 4).trans rfl; have hfz60_0 := blk_frozen BK132.out 0; have hfz60_1 := blk_frozen BK132.out 1; have hfz60_2 := blk_frozen BK132.out 2; have hfz60_3 := blk_frozen BK132.out 3; have hfz60_4 := blk_frozen BK132.out 4; have p177 : 0 ≤ (x46_2 : Int) := of_decide_eq_true Z11; have q177 : x46_2 < (l2_4.length : Int) := of_decide_eq_true Z11; obtain ⟨ad177, A177_3, c177_3, A177_4, c177_4, e177, hx177_0, hx177_1, hx177_2, hx177_3, hx177_4, hl177_3, hi177_3, hl177_4, hi177_4⟩ := at_T25 (Kd.V_reads' HO_133004.out).2.2 x46_2 p177 q177; cases e177; obtain ⟨ce177, hce177, hMe177, hcc177⟩ := Kd.V_get HO_133004.out z25 x46_2 p177 (by first | exact q177 | exact of_decide_eq_true Z11 | (have e_ := (Kd.V_reads' HO_133004.out).1; omega)); obtain ⟨ua177_3, uc177_3, ua177_4, uc177_4, rfl, ul177_3, ge177_3, ul177_4, ge177_4⟩ := k25_openF hMe177; have hv177_3 := hcc177 3 _ rfl; rw [add_field _ _ 3 (by omega)] at hv177_3; replace hv177_3 := Option.some.inj (hv177_3.symm.trans hx177_3); injection hv177_3 with hva_ hvn_ hvc_; rw [hva_] at ge177_3; rw [hvc_] at ul177_3; have HL177_3 := Aside0.mk (show Kd.V k53 53 _ w0.heap.size _ _ ((rd_T25 l2_4 x46_2).f3) from Kd.V_mk ul177_3 ge177_3); clear hva_ hvn_ hvc_ ge177_3 ul177_3; have hv177_4 := hcc177 4 _ rfl; rw [add_field _ _ 4 (by omega)] at hv177_4; replace hv177_4 := Option.some.inj (hv177_4.symm.trans hx177_4); injection hv177_4 with hva_ hvn_ hvc_; rw [hva_] at ge177_4; rw [hvc_] at ul177_4; have HL177_4 := Aside0.mk (show Kd.V k25 25 _ w0.heap.size _ _ ((rd_T25 l2_4 x46_2).f4) from Kd.V_mk ul177_4 ge177_4); clear hva_ hvn_ hvc_ ge177_4 ul177_4; clear hcc177 hce177; have HR177_3 := Aside0.mk hi177_3; have HC177_3 := Aside0.mk hl177_3; clear hi177_3 hl177_3; have HR177_4 := Aside0.mk hi177_4; have HC177_4 := Aside0.mk hl177_4; clear hi177_4 hl177_4; replace p177 := eq_true p177; replace q177 := eq_true q177; obtain ⟨Ao61, co61, eo61⟩ := Kd.R_slice HO176.out; subst eo61) | ((with_reducible refine gate_callee (f := 17) rfl ?_); refine goesL_ (some 97) rfl rfl Try.func17 (by kernel_rfl) rfl #[.slice Ao61 y174.length co61, .string a1, .agg #[.int .i64 ((rd_T25 l2_4 x46_2).f0), .int .i64 ((rd_T25 l2_4 x46_2).f1), .int .i64 ((rd_T25 l2_4 x46_2).f2), .slice A177_3 ((rd_T25 l2_4 x46_2).f3).length c177_3, .slice A177_4 ((rd_T25 l2_4 x46_2).f4).length c177_4], .string (a3 ++ a4), .string a4, .bool a5] rfl Z13 ?_; (with_reducible refine (V_spec_laidTo.calls k2 (fun k_ => some k_ = (.slice Ao61 y174.length co61 : Value).ownBlock) (.slice Ao61 y174.length co61) y174 a1 ((rd_T25 l2_4 x46_2).f0) ((rd_T25 l2_4 x46_2).f1) ((rd_T25 l2_4 x46_2).f2) (fun k_ => ((((P0_ k_ ∨ P2_3_ k_ ∨ P2_4_ k_) ∨ w.heap.size ≤ k_) ∧ k_ ≠ gb132) ∧ some k_ ≠ (.slice Ao61 y174.length co61 : Value).ownBlock)) _ _ ((rd_T25 l2_4 x46_2).f3) (fun k_ => ((((P0_ k_ ∨ P2_3_ k_ ∨ P2_4_ k_) ∨ w.heap.size ≤ k_) ∧ k_ ≠ gb132) ∧ some k_ ≠ (.slice Ao61 y174.length co61 : Value).ownBlock)) _ _ ((rd_T25 l2_4 x46_2).f4) (a3 ++ a4) a4 a5 t178 w0 _ ?side1 ?side2 ?side3 ?side4 A56.out).mono ?_); (case side1 => exact Z19); (case side2 => exact Kd.R_tight rfl HO176.out); (case side3 => exact Kd.V_mono (HL177_3.out) (fun k_ hk_ => ⟨hk_, hk_.2⟩)); (case side4 => exact Kd.V_mono (HL177_4.out) (fun k_ hk_ => ⟨hk_, hk_.2⟩)); rintro e w62 ⟨v179, rfl, ho0, hb, hkp⟩; refine ⟨_, rfl, ?_⟩; have n0_ := Aside0.mk (Kd.V_mono (ok' := fun k_ => ((P0_ k_ ∨ P2_3_ k_ ∨ P2_4_ k_) ∨ w.heap.size ≤ k_) ∧ k_ ≠ gb132 ∧ some k_ ≠ (v179 : Value).ownBlock) (Kd.V_keptB (HO_133003.out) hkp (fun k_ hk_ hs_ => (hk_.2) hs_)) (fun k_ hk_ => ⟨hk_.1.1.1, hk_.1.1.2, fun e_ => Or.elim (ho0.1 k_ e_.symm) (fun hs_ => hk_.2.1 hs_) (fun hn_ => Nat.not_le.2 hk_.2.2 hn_)⟩)); have n1_ := Aside0.mk (Kd.V_mono (ok' := fun k_ => ((P0_ k_ ∨ P2_3_ k_ ∨ P2_4_ k_) ∨ w.heap.size ≤ k_) ∧ k_ ≠ gb132 ∧ some k_ ≠ (v179 : Value).ownBlock) (Kd.V_keptB (HO_133004.out) hkp (fun k_ hk_ hs_ => (hk_.2) hs_)) (fun k_ hk_ => ⟨hk_.1.1.1, hk_.1.1.2, fun e_ => Or.elim (ho0.1 k_ e_.symm) (fun hs_ => hk_.2.1 hs_) (fun hn_ => Nat.not_le.2 hk_.2.2 hn_)⟩)); have n2_ := Aside0.mk (blk_kept Z48 hkp (fun hs_ => (fun e_ => (Kd.R_ne HO176.out BK132.out (by decide)) e_) hs_)); have n3_ := Aside0.mk (Kd.R_mono (ok' := fun k_ => (P0_ k_ ∨ w.heap.size ≤ k_)) ho0 (fun k_ hk_ => Or.elim hk_ (fun hs_ => (HO176.out.1 k_ (hs_).symm)) (fun hn_ => (.inr (Nat.le_trans Z148 hn_))))); have n4_ := Aside0.mk (Kept.then_ (S := (fun k_ => P0_ k_)) Z18 hkp (fun k_ hs_ => (fun e_ => (HO176.out.1 k_ e_.symm)) hs_)); have n5_ := Aside0.mk (hb); clear HO_133003; clear HO_133004; clear BK132; clear HK; clear HB; clear HO176; clear HL177_3; clear HL177_4; have HO_133003 := n0_; have HO_133004 := n1_; have BK132 := n2_; have HO180 := n3_; have HK := n4_; have HB := n5_; clear n0_ n1_ n2_ n3_ n4_ n5_; (try clear hb); (try clear hkp); (try clear ho0)))
                 go_roundg k2
                 case measure => have := HJ6.out; have := HK2.out; omega
                 case rel => exact ⟨(t178), (wrap64 (x46_2 + 1)), Z16, H', ⟨by have := HJ6.out; have := HK2.out; omega⟩, ⟨Z106⟩, ⟨by (with_reducible repeat (first | apply Kd.V_alloc | apply Kd.V_drewN | apply Kd.V_drew)); exact Kd.V_mono HO_133003.out (fun _ hk => ⟨hk.1, ⟨hk.2.2, hk.2.1⟩⟩)⟩, ⟨by (with_reducible repeat (first | apply Kd.V_alloc | apply Kd.V_drewN | apply Kd.V_drew)); exact Kd.V_mono HO_133004.out (fun _ hk => ⟨hk.1, ⟨hk.2.2, hk.2.1⟩⟩)⟩, ⟨Z48⟩, ⟨Z18⟩, ⟨Z19⟩⟩
               ·rw [if_neg c55] at H
                exact absurd H (by simp)
              ·rw [if_neg c54] at H
               exact absurd H (by simp)
             ·rw [if_neg c53] at H
              exact absurd H (by simp)
           ·rw [if_neg c51] at H
            exact absurd H (by simp)
          ·rw [if_neg c50] at H
           exact absurd H (by simp)
         ·rw [if_neg c49] at H
          exact absurd H (by simp)
       ·rw [if_neg c31] at H
        have c31b0 : decide (x46_2 < (l2_4.length : Int)) = false := decide_eq_false c31
        clear c31
        by_cases c63 : x0_2.length < 140737488355328
        ·rw [if_pos c63] at H
         have LMc63 := Aside0.mk c63
         clear c63
         obtain ⟨y143, hy143⟩ : ∃ y_ : List Int, y_ = (x0_2 ++ [10]) := ⟨_, rfl⟩
         replace H : (if y143.length + a3.size < 140737488355328 then ((some (y143 ++ bytesOf a3 : List Int)).bind fun y146 => (if y146.length < 140737488355328 then (some (y146 ++ [93])) else (none))) else (none)) = some r := by first | (rw [hy143]; with_reducible exact H) | (have H2_ := (Option.bind_some _ _).symm.trans H; rw [hy143]; with_reducible exact H2_) | (have H2_ := (Option.bind_some _ _).symm.trans H; with_reducible exact H2_) | with_reducible exact H | (rw [hy143]; exact H) | exact H
         have Ny143 := Aside0.mk hy143
         clear hy143
         by_cases c64 : y143.length + a3.size < 140737488355328
         ·rw [if_pos c64] at H
          have LMc64 := Aside0.mk c64
          clear c64
          obtain ⟨y146, hy146⟩ : ∃ y_ : List Int, y_ = (y143 ++ bytesOf a3) := ⟨_, rfl⟩
          replace H : (if y146.length < 140737488355328 then (some (y146 ++ [93])) else (none)) = some r := by first | (rw [hy146]; with_reducible exact H) | (have H2_ := (Option.bind_some _ _).symm.trans H; rw [hy146]; with_reducible exact H2_) | (have H2_ := (Option.bind_some _ _).symm.trans H; with_reducible exact H2_) | with_reducible exact H | (rw [hy146]; exact H) | exact H
          have Ny146 := Aside0.mk hy146
          clear hy146
          by_cases c65 : y146.length < 140737488355328
          ·rw [if_pos c65] at H
           have LMc65 := Aside0.mk c65
           clear c65
           obtain ⟨y149, hy149⟩ : ∃ y_ : List Int, y_ = (y146 ++ [93]) := ⟨_, rfl⟩
           replace H : (some y149) = some r := by first | (rw [hy149]; with_reducible exact H) | (have H2_ := (Option.bind_some _ _).symm.trans H; rw [hy149]; with_reducible exact H2_) | (have H2_ := (Option.bind_some _ _).symm.trans H; with_reducible exact H2_) | with_reducible exact H | (rw [hy149]; exact H) | exact H
           have Ny149 := Aside0.mk hy149
           clear hy149
           ·
            obtain rfl := Option.some.inj H
            go_wp2_with (first | ((with_reducible refine gate_builtin (b := .append) (xs := #[.tmp 99, .tmp 100]) rfl ?_); at_builtin; refine Kd.R_append (Kd.int .u8) (w0 := w0) w0.heap.size rfl (.tmp 99) (.tmp 100) 39 5 (.int .u8 0) 1 rfl Try.underlying39 info5 rfl (by decide) (by omega) u0 x0_2 10 [.int .u8 10] (fun k_ => (P0_ k_ ∨ w.heap.size ≤ k_)) (fun _ => False) rfl rfl ?aP (fun _ hk => hk.elim) ?aF ?aO ?aB ?aS ?aL ?_; (case aP => exact rfl); (case aB => exact Z19); (case aF => exact Z74); (case aO => exact Z25); (case aS => exact (below_size Z19)); (case aL => have := LMc63.out; omega); intro v144 w66 ho hb hg hat; rw [← Ny143.out] at ho; have n0_ := Aside0.mk (Kd.V_afterv (ok := (fun k_ => ((P0_ k_ ∨ P2_3_ k_ ∨ P2_4_ k_) ∨ w.heap.size ≤ k_) ∧ k_ ≠ gb132)) Z123 hg hat); have n1_ := Aside0.mk (Kd.V_afterv (ok := (fun k_ => ((P0_ k_ ∨ P2_3_ k_ ∨ P2_4_ k_) ∨ w.heap.size ≤ k_) ∧ k_ ≠ gb132)) Z122 hg hat); have n2_ := Aside0.mk (blk_grown (g := gb132) (o := .cells #[.int .i64 a2_0, .int .i64 a2_1, .int .i64 a2_2, .slice A2_3 l2_3.length c2_3, .slice A2_4 l2_4.length c2_4] 25 (0, 0)) Z48 hg (Kd.R_ne HO_0.out BK132.out (by decide))); have n3_ := Aside0.mk (hb); have n4_ := Aside0.mk (Kept.of_grown (S := (fun k_ => P0_ k_)) hg Z18 (fun k_ e_ => (HO_0.out.1 k_ e_))); have n5_ := Aside0.mk (ho); clear HO_133003; clear HO_133004; clear BK132; clear HB; clear HK; clear HO_0; have HO_133003 := n0_; have HO_133004 := n1_; have BK132 := n2_; have HB := n3_; have HK := n4_; have HO145 := n5_; clear n0_ n1_ n2_ n3_ n4_ n5_; clear ho hb hg hat) | (at_builtin; refine Kd.R_append_str (w0 := w0) w0.heap.size rfl (.tmp 102) _ 39 9 5 rfl Try.underlying39 Try.underlying9 info5 v144 y143 a3 (fun k_ => (P0_ k_ ∨ w.heap.size ≤ k_)) rfl rfl ?aF ?aO ?aB ?aS ?aL ?_; (case aB => exact Z19); (case aF => exact Z74); (case aO => exact (by (with_reducible repeat (first | apply Kd.R_alloc | apply Kd.R_drewN | apply Kd.R_drew)); exact HO145.out)); (case aS => exact (below_size Z19)); (case aL => have := LMc64.out; omega); intro v147 w67 ho hb hg hat; rw [← Ny146.out] at ho; have n0_ := Aside0.mk (Kd.V_afterv (ok := (fun k_ => ((P0_ k_ ∨ P2_3_ k_ ∨ P2_4_ k_) ∨ w.heap.size ≤ k_) ∧ k_ ≠ gb132)) Z105 hg hat); have n1_ := Aside0.mk (Kd.V_afterv (ok := (fun k_ => ((P0_ k_ ∨ P2_3_ k_ ∨ P2_4_ k_) ∨ w.heap.size ≤ k_) ∧ k_ ≠ gb132)) Z104 hg hat); have n2_ := Aside0.mk (blk_grown (g := gb132) (o := .cells #[.int .i64 a2_0, .int .i64 a2_1, .int .i64 a2_2, .slice A2_3 l2_3.length c2_3, .slice A2_4 l2_4.length c2_4] 25 (0, 0)) Z48 hg (Kd.R_ne HO145.out BK132.out (by decide))); have n3_ := Aside0.mk (hb); have n4_ := Aside0.mk (Kept.of_grown (S := (fun k_ => P0_ k_)) hg Z18 (fun k_ e_ => (HO145.out.1 k_ e_))); have n5_ := Aside0.mk (ho); clear HO_133003; clear HO_133004; clear BK132; clear HB; clear HK; clear HO145; have HO_133003 := n0_; have HO_133004 := n1_; have BK132 := n2_; have HB := n3_; have HK := n4_; have HO148 := n5_; clear n0_ n1_ n2_ n3_ n4_ n5_; clear ho hb hg hat) | ((with_reducible refine gate_builtin (b := .append) (xs := #[.tmp 105, .tmp 107]) rfl ?_); at_builtin; refine Kd.R_append (Kd.int .u8) (w0 := w0) w0.heap.size rfl (.tmp 105) (.tmp 107) 39 5 (.int .u8 0) 1 rfl Try.underlying39 info5 rfl (by decide) (by omega) v147 y146 93 [.int .u8 93] (fun k_ => (P0_ k_ ∨ w.heap.size ≤ k_)) (fun _ => False) rfl rfl ?aP (fun _ hk => hk.elim) ?aF ?aO ?aB ?aS ?aL ?_; (case aP => exact rfl); (case aB => exact Z19); (case aF => exact Z74); (case aO => exact (by (with_reducible repeat (first | apply Kd.R_alloc | apply Kd.R_drewN | apply Kd.R_drew)); exact HO148.out)); (case aS => exact (below_size Z19)); (case aL => have := LMc65.out; omega); intro v150 w68 ho hb hg hat; rw [← Ny149.out] at ho; have n0_ := Aside0.mk (Kd.V_afterv (ok := (fun k_ => ((P0_ k_ ∨ P2_3_ k_ ∨ P2_4_ k_) ∨ w.heap.size ≤ k_) ∧ k_ ≠ gb132)) Z105 hg hat); have n1_ := Aside0.mk (Kd.V_afterv (ok := (fun k_ => ((P0_ k_ ∨ P2_3_ k_ ∨ P2_4_ k_) ∨ w.heap.size ≤ k_) ∧ k_ ≠ gb132)) Z104 hg hat); have n2_ := Aside0.mk (blk_grown (g := gb132) (o := .cells #[.int .i64 a2_0, .int .i64 a2_1, .int .i64 a2_2, .slice A2_3 l2_3.length c2_3, .slice A2_4 l2_4.length c2_4] 25 (0, 0)) Z48 hg (Kd.R_ne HO148.out BK132.out (by decide))); have n3_ := Aside0.mk (hb); have n4_ := Aside0.mk (Kept.of_grown (S := (fun k_ => P0_ k_)) hg Z18 (fun k_ e_ => (HO148.out.1 k_ e_))); have n5_ := Aside0.mk (ho); clear HO_133003; clear HO_133004; clear BK132; clear HB; clear HK; clear HO148; have HO_133003 := n0_; have HO_133004 := n1_; have BK132 := n2_; have HB := n3_; have HK := n4_; have HO151 := n5_; clear n0_ n1_ n2_ n3_ n4_ n5_; clear ho hb hg hat))
            go_ret
            exact ⟨_, Z15, by (with_reducible repeat (first | apply Kd.R_alloc | apply Kd.R_drewN | apply Kd.R_drew)); exact HO151.out, Z19, Z18⟩
          ·rw [if_neg c65] at H
           exact absurd H (by simp)
         ·rw [if_neg c64] at H
          exact absurd H (by simp)
        ·rw [if_neg c63] at H
         exact absurd H (by simp)
    ·rw [if_neg c27] at H
     exact absurd H (by simp)
structure Knot_spec_laidTo where
 k_spec_laidTo : H_spec_laidTo
def knot_spec_laidTo (V_spec_lineTo : H_spec_lineTo) (V_spec_bareTo : H_spec_bareTo) : Nat → Knot_spec_laidTo
 | 0 => ⟨⟨fun _ _ _ _ _ _ _ _ _ _ _ => none, fun _ _ _ _ _ _ _ _ _ _ _ _ h => (by cases h), by intros; rename_i h; cases h⟩⟩
 | n + 1 => let K := knot_spec_laidTo V_spec_lineTo V_spec_bareTo n; ⟨⟨fun k => spec_laidTo.f K.k_spec_laidTo V_spec_lineTo V_spec_bareTo k, spec_laidTo.mono K.k_spec_laidTo V_spec_lineTo V_spec_bareTo, spec_laidTo.calls K.k_spec_laidTo V_spec_lineTo V_spec_bareTo⟩⟩
def spec_laidTo.at_ (V_spec_lineTo : H_spec_lineTo) (V_spec_bareTo : H_spec_bareTo) (D : Nat) : H_spec_laidTo := (knot_spec_laidTo V_spec_lineTo V_spec_bareTo D).k_spec_laidTo
/-! ### spec_Laid: function 13 -/
def spec_Laid.f (V_spec_laidTo : H_spec_laidTo) (k : Nat) (a0 : ByteArray) (a1_0 : Int) (a1_1 : Int) (a1_2 : Int) (l1_3 : List (S53)) (l1_4 : List (S25)) (a2 : ByteArray) (a3 : ByteArray) (a4 : Bool) : Option (ByteArray) := (V_spec_laidTo.f k ([] : List Int) a0 a1_0 a1_1 a1_2 l1_3 l1_4 a2 a3 a4).bind fun t182 => (if a2.size + (strOfNums t182).size ≤ 9223372036854775807 then (if (a2 ++ (strOfNums t182)).size + 1 ≤ 9223372036854775807 then (some ((a2 ++ (strOfNums t182)) ++ (⟨#[10]⟩ : ByteArray))) else (none)) else (none))
theorem spec_Laid.mono (V_spec_laidTo : H_spec_laidTo) : ∀ a0 a1 a2 a3 a4 a5 a6 a7 a8 k, LeO (spec_Laid.f V_spec_laidTo k a0 a1 a2 a3 a4 a5 a6 a7 a8) (spec_Laid.f V_spec_laidTo (k + 1) a0 a1 a2 a3 a4 a5 a6 a7 a8) := by
 intro a0 a1 a2 a3 a4 a5 a6 a7 a8 k
 unfold spec_Laid.f
 repeat' first
   | (with_reducible exact V_spec_laidTo.mono _ _ _ _ _ _ _ _ _ _ _)
   | (with_reducible exact LeO.refl _)
   | (with_reducible exact LeO.none _)
   | (with_reducible refine LeO.ite ?_ ?_)
   | (with_reducible refine LeO.bind ?_ (fun _ => ?_))
   | exact V_spec_laidTo.mono _ _ _ _ _ _ _ _ _ _ _
   | exact LeO.none _
   | refine LeO.ite ?_ ?_
   | refine LeO.bind ?_ (fun _ => ?_)
set_option maxHeartbeats 8000000 in
set_option maxRecDepth 100000 in
theorem spec_Laid.calls (V_spec_laidTo : H_spec_laidTo) (k : Nat) (a0 : ByteArray) (a1_0 : Int) (a1_1 : Int) (a1_2 : Int) (A1_3 : Option Addr) (c1_3 : Nat) (l1_3 : List (S53)) (A1_4 : Option Addr) (c1_4 : Nat) (l1_4 : List (S25)) (a2 : ByteArray) (a3 : ByteArray) (a4 : Bool) (r : ByteArray) (w : World) (hr1_3 : Kd.C k53 w A1_3 l1_3.length l1_3) (hc1_3 : l1_3.length ≤ c1_3) (hr1_4 : Kd.C k25 w A1_4 l1_4.length l1_4) (hc1_4 : l1_4.length ≤ c1_4) (h : spec_Laid.f V_spec_laidTo k a0 a1_0 a1_1 a1_2 l1_3 l1_4 a2 a3 a4 = some r) :
  Calls Try.prog 13 #[.string a0, .agg #[.int .i64 a1_0, .int .i64 a1_1, .int .i64 a1_2, .slice A1_3 l1_3.length c1_3, .slice A1_4 l1_4.length c1_4], .string a2, .string a3, .bool a4] w fun e w' => e = .returned (.string r) ∧ Below w.heap.size w w' := by
 have hu25 := Try.underlying25
 have HR1_3 := Aside0.mk hr1_3
 have HC1_3 := Aside0.mk hc1_3
 clear hr1_3 hc1_3
 have HR1_4 := Aside0.mk hr1_4
 have HC1_4 := Aside0.mk hc1_4
 clear hr1_4 hc1_4
 have HB := Aside0.mk (Below.refl w.heap.size w)
 have H : ((V_spec_laidTo.f k ([] : List Int) a0 a1_0 a1_1 a1_2 l1_3 l1_4 a2 a3 a4).bind fun t182 => (if a2.size + (strOfNums t182).size ≤ 9223372036854775807 then (if (a2 ++ (strOfNums t182)).size + 1 ≤ 9223372036854775807 then (some ((a2 ++ (strOfNums t182)) ++ (⟨#[10]⟩ : ByteArray))) else (none)) else (none))) = some r := h
 clear h
 replace H := Option.bind_eq_some_iff.mp H
 obtain ⟨t182, A60, H⟩ := H
 replace H : (if a2.size + (strOfNums t182).size ≤ 9223372036854775807 then (if (a2 ++ (strOfNums t182)).size + 1 ≤ 9223372036854775807 then (some ((a2 ++ (strOfNums t182)) ++ (⟨#[10]⟩ : ByteArray))) else (none)) else (none)) = some r := H
 have A6 := Aside0.mk A60
 clear A60
 by_cases c7 : a2.size + (strOfNums t182).size ≤ 9223372036854775807
 ·rw [if_pos c7] at H
  have c7b0 := eq_true c7
  have c7b1 : decide (a2.size + (strOfNums t182).size ≤ 9223372036854775807) = true := decide_eq_true c7
  try have c7b2 : (9223372036854775807 < a2.size + (strOfNums t182).size) = False := eq_false (Nat.not_lt.2 c7)
  by_cases c8 : (a2 ++ (strOfNums t182)).size + 1 ≤ 9223372036854775807
  ·rw [if_pos c8] at H
   have c8b0 := eq_true c8
   have c8b1 : decide ((a2 ++ (strOfNums t182)).size + 1 ≤ 9223372036854775807) = true := decide_eq_true c8
   try have c8b2 : (9223372036854775807 < (a2 ++ (strOfNums t182)).size + 1) = False := eq_false (Nat.not_lt.2 c8)
   have c8b3 : (9223372036854775807 < a2.size + (strOfNums t182).size + 1) = False := by rw [← ByteArray.size_append]; exact c8b2
   ·
    obtain rfl := Option.some.inj H
    go_enter Try.func13, Try.ntmps13
    go_wp2_with (first | ((with_reducible refine gate_dst (N := 6) rfl ?_); refine box_event ?hg (N := 6) ?hd (cs := #[.int .i64 a1_0, .int .i64 a1_1, .int .i64 a1_2, .slice A1_3 l1_3.length c1_3, .slice A1_4 l1_4.length c1_4]) (t := 25) ?hr ?_; (case hd => rfl); (case hg => rfl); (case hr => exact Z62); intro gb181 hg w9 hbox hb; have n0_ := Aside0.mk (below_step Z5 hb); have n1_ := Aside0.mk (hbox); have n2_ := Aside0.mk ((by rw [hg]; exact (below_size Z5) : w.heap.size ≤ gb181)); have n3_ := Aside0.mk ((by rw [hg]; exact (below_size Z5) : w.heap.size ≤ gb181)); clear HB; have HB := n0_; have BK181 := n1_; have GW181 := n2_; have GE181 := n3_; clear n0_ n1_ n2_ n3_; clear hb hbox hg; have hcz10_0 : w9.cell? ⟨gb181, 0, none⟩ = some (.int .i64 a1_0) := (blk_cell BK181.out 0).trans rfl; have hcz10_1 : w9.cell? ⟨gb181, 1, none⟩ = some (.int .i64 a1_1) := (blk_cell BK181.out 1).trans rfl; have hcz10_2 : w9.cell? ⟨gb181, 2, none⟩ = some (.int .i64 a1_2) := (blk_cell BK181.out 2).trans rfl; have hcz10_3 : w9.cell? ⟨gb181, 3, none⟩ = some (.slice A1_3 l1_3.length c1_3) := (blk_cell BK181.out 3).trans rfl; have hcz10_4 : w9.cell? ⟨gb181, 4, none⟩ = some (.slice A1_4 l1_4.length c1_4) := (blk_cell BK181.out 4).trans rfl; have hfz10_0 := blk_frozen BK181.out 0; have hfz10_1 := blk_frozen BK181.out 1; have hfz10_2 := blk_frozen BK181.out 2; have hfz10_3 := blk_frozen BK181.out 3; have hfz10_4 := blk_frozen BK181.out 4) | ((with_reducible refine gate_callee (f := 17) rfl ?_); refine goesL_ (some 17) rfl rfl Try.func17 (by kernel_rfl) rfl #[.slice none 0 0, .string a0, .agg #[.int .i64 a1_0, .int .i64 a1_1, .int .i64 a1_2, .slice A1_3 l1_3.length c1_3, .slice A1_4 l1_4.length c1_4], .string a2, .string a3, .bool a4] rfl Z13 ?_; (refine (V_spec_laidTo.calls k (fun k_ => some k_ = (.slice none 0 0 : Value).ownBlock) (.slice none 0 0) ([] : List Int) a0 a1_0 a1_1 a1_2 (fun k_ => k_ < w.heap.size) _ _ l1_3 (fun k_ => k_ < w.heap.size) _ _ l1_4 a2 a3 a4 t182 w _ ?side1 ?side2 ?side3 ?side4 A6.out).mono ?_); (case side1 => exact Z124); (case side2 => exact Kd.R_nil _ _ _ _ _); (case side3 => exact Kd.V_mono (Kd.V_mk HC1_3.out (Kd.F_below (Kd.C_F k53_heap HR1_3.out) Z124)) (fun k_ hk_ => ⟨hk_, (by simp [Value.ownBlock])⟩)); (case side4 => exact Kd.V_mono (Kd.V_mk HC1_4.out (Kd.F_below (Kd.C_F k25_heap HR1_4.out) Z124)) (fun k_ hk_ => ⟨hk_, (by simp [Value.ownBlock])⟩)); rintro e w11 ⟨v183, rfl, ho0, hb, hkp⟩; refine ⟨_, rfl, ?_⟩; have n0_ := Aside0.mk (blk_kept (by (with_reducible repeat (first | refine blk_drewN ?_ _ | refine blk_drew ?_ | refine blk_alloc ?_ _)); exact BK181.out) hkp (fun hs_ => (fun e_ => by simp [Value.ownBlock] at e_) hs_)); have n1_ := Aside0.mk (Kd.R_mono (ok' := fun k_ => True) ho0 (fun k_ hk_ => trivial)); have n2_ := Aside0.mk (hb); clear BK181; clear HB; have BK181 := n0_; have HO184 := n1_; have HB := n2_; clear n0_ n1_ n2_; (try clear hb); (try clear hkp); (try clear ho0); have hcv12 := own_string (P := Try.prog) Try.underlying39 Try.underlying5 Try.underlying9 (Kd.own_of_R HO184.out)))
    go_ret
    exact ⟨Z15, Z124⟩
  ·rw [if_neg c8] at H
   exact absurd H (by simp)
 ·rw [if_neg c7] at H
  exact absurd H (by simp)
end Go.Proofs.Ytkbeiidjagodnaa.Pr

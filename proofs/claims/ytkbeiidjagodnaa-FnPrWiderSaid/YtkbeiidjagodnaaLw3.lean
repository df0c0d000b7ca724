-- written by a program of this session (wip/tools), for this seat
import Derived.Test.YtkbeiidjagodnaaPrx0
import Derived.Test.YtkbeiidjagodnaaHa
import Derived.Test.YtkbeiidjagodnaaPrx9a
import Derived.Test.YtkbeiidjagodnaaPrx9h
namespace Go.Proofs.Ytkbeiidjagodnaa.Pr
open Go.RowKit Go.Proofs.YtkbeiidjagodnaaW.PrintWords Go.Proofs.YtkbeiidjagodnaaW.PrintLast Go.Proofs.YtkbeiidjagodnaaW.PrintMore
set_option linter.unusedVariables false
set_option linter.unusedSimpArgs false
attribute [local go_sem] max2_int min2_int max_two min_two max_three min_three max_four min_four   -- for this text's walks alone
/-! ### laws_FnPrWider: function 3 -/
mutual
def laws_FnPrWider.j0 (V_laws_prPlaces : H_laws_prPlaces) (V_impl_PrPretty : H_impl_PrPretty) : Nat → ByteArray → Int → Int → Bool → Int → Int → Int → List (S53) → List (S25) → Option (Bool)
 | 0, _, _, _, _, _, _, _, _, _ => none
 | k + 1, x0, x1, x2, x39, x567000, x567001, x567002, x567003, x567004 => if x39 = true then (some true) else ((spec_All.f k x567000 x567001 x567002 x567003 x567004).bind fun t567 => (laws_FnPrWider.l0 V_laws_prPlaces V_impl_PrPretty k x0 x1 x2 t567 (t567.length : Int) 0))
def laws_FnPrWider.l0 (V_laws_prPlaces : H_laws_prPlaces) (V_impl_PrPretty : H_impl_PrPretty) : Nat → ByteArray → Int → Int → List (S25) → Int → Int → Option (Bool)
 | 0, _, _, _, _, _, _ => none
 | k + 1, x0, x1, x2, x41, x42, x43 => if x43 < x42 then (if 0 ≤ x43 then (if x43 < (x41.length : Int) then (if ((rd_T25 x41 x43).f0) = 6 then (some true) else (if ((rd_T25 x41 x43).f0) = 4 then (some true) else (laws_FnPrWider.l0 V_laws_prPlaces V_impl_PrPretty k x0 x1 x2 x41 x42 (wrap64 (x43 + 1))))) else (none)) else (none)) else (if 0 ≤ x2 then (if x2 ≤ 4 then ((V_impl_PrPretty.f k x0 x1 (⟨#[]⟩ : ByteArray) ((⟨#[32, 32, 32, 32]⟩ : ByteArray).extract 0 (x2 : Int).toNat) false).bind fun t572 => (laws_FnPrWider.l1 V_laws_prPlaces V_impl_PrPretty k x1 t572 0 0)) else (none)) else (none))
def laws_FnPrWider.l1 (V_laws_prPlaces : H_laws_prPlaces) (V_impl_PrPretty : H_impl_PrPretty) : Nat → Int → ByteArray → Int → Int → Option (Bool)
 | 0, _, _, _, _ => none
 | k + 1, x1, x11, x12, x13 => if x13 < (x11.size : Int) then (if 0 ≤ x13 then (if (bt x11 x13) = 10 then (if (wrap64 (x13 - x12)) > (wrap64 (x1 + 1)) then (if 0 ≤ x12 then (if x12 ≤ x13 then (if x13 ≤ (x11.size : Int) then ((laws_prHasArray.f k (x11.extract (x12 : Int).toNat (x13 : Int).toNat)).bind fun t573 => (if t573 = true then (some false) else (laws_FnPrWider.l1 V_laws_prPlaces V_impl_PrPretty k x1 x11 (wrap64 (x13 + 1)) (wrap64 (x13 + 1))))) else (none)) else (none)) else (none)) else (laws_FnPrWider.l1 V_laws_prPlaces V_impl_PrPretty k x1 x11 (wrap64 (x13 + 1)) (wrap64 (x13 + 1)))) else (laws_FnPrWider.l1 V_laws_prPlaces V_impl_PrPretty k x1 x11 x12 (wrap64 (x13 + 1)))) else (none)) else (if x11.toList = ([] : List UInt8) then (some false) else (some (x12 == (x11.size : Int))))
end
def laws_FnPrWider.f (V_laws_prPlaces : H_laws_prPlaces) (V_impl_PrPretty : H_impl_PrPretty) (k : Nat) (a0 : ByteArray) (a1 : Int) (a2 : Int) : Option (Bool) := if (a0.size : Int) > 2147483647 then (some true) else ((V_laws_prPlaces.f k a0).bind fun bt556 => (if bt556.2.2.2.2.2 = true then (if a1 < 8 then (laws_FnPrWider.j0 V_laws_prPlaces V_impl_PrPretty k a0 a1 a2 true bt556.1 bt556.2.1 bt556.2.2.1 bt556.2.2.2.1 bt556.2.2.2.2.1) else (if a1 > 1073741824 then (laws_FnPrWider.j0 V_laws_prPlaces V_impl_PrPretty k a0 a1 a2 true bt556.1 bt556.2.1 bt556.2.2.1 bt556.2.2.2.1 bt556.2.2.2.2.1) else (if a2 < 0 then (laws_FnPrWider.j0 V_laws_prPlaces V_impl_PrPretty k a0 a1 a2 true bt556.1 bt556.2.1 bt556.2.2.1 bt556.2.2.2.1 bt556.2.2.2.2.1) else (laws_FnPrWider.j0 V_laws_prPlaces V_impl_PrPretty k a0 a1 a2 (decide (a2 > 4)) bt556.1 bt556.2.1 bt556.2.2.1 bt556.2.2.2.1 bt556.2.2.2.2.1)))) else (laws_FnPrWider.j0 V_laws_prPlaces V_impl_PrPretty k a0 a1 a2 true bt556.1 bt556.2.1 bt556.2.2.1 bt556.2.2.2.1 bt556.2.2.2.2.1)))
theorem laws_FnPrWider.mono_l (V_laws_prPlaces : H_laws_prPlaces) (V_impl_PrPretty : H_impl_PrPretty) : ∀ k, (∀ y0 y1 y2 y3 y4 y5 y6 y7 y8, LeO (laws_FnPrWider.j0 V_laws_prPlaces V_impl_PrPretty k y0 y1 y2 y3 y4 y5 y6 y7 y8) (laws_FnPrWider.j0 V_laws_prPlaces V_impl_PrPretty (k + 1) y0 y1 y2 y3 y4 y5 y6 y7 y8)) ∧ (∀ y0 y1 y2 y3 y4 y5, LeO (laws_FnPrWider.l0 V_laws_prPlaces V_impl_PrPretty k y0 y1 y2 y3 y4 y5) (laws_FnPrWider.l0 V_laws_prPlaces V_impl_PrPretty (k + 1) y0 y1 y2 y3 y4 y5)) ∧ (∀ y0 y1 y2 y3, LeO (laws_FnPrWider.l1 V_laws_prPlaces V_impl_PrPretty k y0 y1 y2 y3) (laws_FnPrWider.l1 V_laws_prPlaces V_impl_PrPretty (k + 1) y0 y1 y2 y3))
 | 0 => ⟨fun _ _ _ _ _ _ _ _ _ r h => by simp [laws_FnPrWider.j0] at h, fun _ _ _ _ _ _ r h => by simp [laws_FnPrWider.l0] at h, fun _ _ _ _ r h => by simp [laws_FnPrWider.l1] at h⟩
 | k + 1 => by
  obtain ⟨ih0, ih1, ih2⟩ := laws_FnPrWider.mono_l V_laws_prPlaces V_impl_PrPretty k
  refine ⟨?_, ?_, ?_⟩ <;> intros <;> first | unfold laws_FnPrWider.j0 | unfold laws_FnPrWider.l0 | unfold laws_FnPrWider.l1
  all_goals
   repeat' first
   | (with_reducible exact ih0 _ _ _ _ _ _ _ _ _)
   | (with_reducible exact ih1 _ _ _ _ _ _)
   | (with_reducible exact ih2 _ _ _ _)
   | (with_reducible exact V_impl_PrPretty.mono _ _ _ _ _ _)
   | (with_reducible exact V_laws_prPlaces.mono _ _)
   | (with_reducible exact laws_prHasArray.mono _ _)
   | (with_reducible exact spec_All.mono _ _ _ _ _ _)
   | (with_reducible exact LeO.refl _)
   | (with_reducible exact LeO.none _)
   | (with_reducible refine LeO.ite ?_ ?_)
   | (with_reducible refine LeO.bind ?_ (fun _ => ?_))
   | exact ih0 _ _ _ _ _ _ _ _ _
   | exact ih1 _ _ _ _ _ _
   | exact ih2 _ _ _ _
   | exact V_impl_PrPretty.mono _ _ _ _ _ _
   | exact V_laws_prPlaces.mono _ _
   | exact laws_prHasArray.mono _ _
   | exact spec_All.mono _ _ _ _ _ _
   | exact LeO.none _
   | refine LeO.ite ?_ ?_
   | refine LeO.bind ?_ (fun _ => ?_)
theorem laws_FnPrWider.mono (V_laws_prPlaces : H_laws_prPlaces) (V_impl_PrPretty : H_impl_PrPretty) : ∀ a0 a1 a2 k, LeO (laws_FnPrWider.f V_laws_prPlaces V_impl_PrPretty k a0 a1 a2) (laws_FnPrWider.f V_laws_prPlaces V_impl_PrPretty (k + 1) a0 a1 a2) := by
 intro a0 a1 a2 k
 obtain ⟨ih0, ih1, ih2⟩ := laws_FnPrWider.mono_l V_laws_prPlaces V_impl_PrPretty k
 unfold laws_FnPrWider.f
 repeat' first
   | (with_reducible exact ih0 _ _ _ _ _ _ _ _ _)
   | (with_reducible exact ih1 _ _ _ _ _ _)
   | (with_reducible exact ih2 _ _ _ _)
   | (with_reducible exact V_impl_PrPretty.mono _ _ _ _ _ _)
   | (with_reducible exact V_laws_prPlaces.mono _ _)
   | (with_reducible exact laws_prHasArray.mono _ _)
   | (with_reducible exact spec_All.mono _ _ _ _ _ _)
   | (with_reducible exact LeO.refl _)
   | (with_reducible exact LeO.none _)
   | (with_reducible refine LeO.ite ?_ ?_)
   | (with_reducible refine LeO.bind ?_ (fun _ => ?_))
   | exact ih0 _ _ _ _ _ _ _ _ _
   | exact ih1 _ _ _ _ _ _
   | exact ih2 _ _ _ _
   | exact V_impl_PrPretty.mono _ _ _ _ _ _
   | exact V_laws_prPlaces.mono _ _
   | exact laws_prHasArray.mono _ _
   | exact spec_All.mono _ _ _ _ _ _
   | exact LeO.none _
   | refine LeO.ite ?_ ?_
   | refine LeO.bind ?_ (fun _ => ?_)
set_option maxHeartbeats 8000000 in
set_option maxRecDepth 100000 in
theorem laws_FnPrWider.calls (V_laws_prPlaces : H_laws_prPlaces) (V_impl_PrPretty : H_impl_PrPretty) (k : Nat) (a0 : ByteArray) (a1 : Int) (a2 : Int) (r : Bool) (w : World) (h : laws_FnPrWider.f V_laws_prPlaces V_impl_PrPretty k a0 a1 a2 = some r) :
  Calls Try.prog 3 #[.string a0, .int .i64 a1, .int .i64 a2] w fun e w' => e = .returned (.bool r) ∧ Below w.heap.size w w' := by
 have hu25 := Try.underlying25
 have hu31 := Try.underlying31
 have HB := Aside0.mk (Below.refl w.heap.size w)
 have H : (if (a0.size : Int) > 2147483647 then (some true) else ((V_laws_prPlaces.f k a0).bind fun bt556 => (if bt556.2.2.2.2.2 = true then (if a1 < 8 then (laws_FnPrWider.j0 V_laws_prPlaces V_impl_PrPretty k a0 a1 a2 true bt556.1 bt556.2.1 bt556.2.2.1 bt556.2.2.2.1 bt556.2.2.2.2.1) else (if a1 > 1073741824 then (laws_FnPrWider.j0 V_laws_prPlaces V_impl_PrPretty k a0 a1 a2 true bt556.1 bt556.2.1 bt556.2.2.1 bt556.2.2.2.1 bt556.2.2.2.2.1) else (if a2 < 0 then (laws_FnPrWider.j0 V_laws_prPlaces V_impl_PrPretty k a0 a1 a2 true bt556.1 bt556.2.1 bt556.2.2.1 bt556.2.2.2.1 bt556.2.2.2.2.1) else (laws_FnPrWider.j0 V_laws_prPlaces V_impl_PrPretty k a0 a1 a2 (decide (a2 > 4)) bt556.1 bt556.2.1 bt556.2.2.1 bt556.2.2.2.1 bt556.2.2.2.2.1)))) else (laws_FnPrWider.j0 V_laws_prPlaces V_impl_PrPretty k a0 a1 a2 true bt556.1 bt556.2.1 bt556.2.2.1 bt556.2.2.2.1 bt556.2.2.2.2.1)))) = some r := h
 clear h
 by_cases c4 : (a0.size : Int) > 2147483647
 ·rw [if_pos c4] at H
  have c4b0 : decide (2147483647 < (a0.size : Int)) = true := decide_eq_true c4
  have c4b1 : decide (2147483647 < a0.size) = true := decide_eq_true (by omega)
  clear c4
  ·
   obtain rfl := Option.some.inj H
   go_enter Try.func3, Try.ntmps3
   go_wp2
   go_ret
   exact ⟨Z7, Z2⟩
 ·rw [if_neg c4] at H
  have c4b0 : decide (2147483647 < (a0.size : Int)) = false := decide_eq_false c4
  have c4b1 : decide (2147483647 < a0.size) = false := decide_eq_false (by omega)
  clear c4
  replace H := Option.bind_eq_some_iff.mp H
  obtain ⟨⟨t556, t557, t558, t559, t562, t565⟩, A50, H⟩ := H
  replace H : (if t565 = true then (if a1 < 8 then (laws_FnPrWider.j0 V_laws_prPlaces V_impl_PrPretty k a0 a1 a2 true t556 t557 t558 t559 t562) else (if a1 > 1073741824 then (laws_FnPrWider.j0 V_laws_prPlaces V_impl_PrPretty k a0 a1 a2 true t556 t557 t558 t559 t562) else (if a2 < 0 then (laws_FnPrWider.j0 V_laws_prPlaces V_impl_PrPretty k a0 a1 a2 true t556 t557 t558 t559 t562) else (laws_FnPrWider.j0 V_laws_prPlaces V_impl_PrPretty k a0 a1 a2 (decide (a2 > 4)) t556 t557 t558 t559 t562)))) else (laws_FnPrWider.j0 V_laws_prPlaces V_impl_PrPretty k a0 a1 a2 true t556 t557 t558 t559 t562)) = some r := H
  have A5 := Aside0.mk A50
  clear A50
  have HC6 := Aside0.mk H
  clear H
  go_enter Try.func3, Try.ntmps3
  go_upto_region 4 with (first | ((with_reducible refine gate_callee (f := 6) rfl ?_); refine goesL_ (some 19) rfl rfl Try.func6 (by kernel_rfl) rfl #[.string a0] rfl Z5 ?_; (with_reducible refine (V_laws_prPlaces.calls k a0 t556 t557 t558 t559 t562 t565 _ A5.out).mono ?_); rintro e w7 ⟨v560, v563, rfl, ho0, ho1, hb⟩; refine ⟨_, rfl, ?_⟩; have n0_ := Aside0.mk (Kd.R_lower ho0 (below_size Z2)); have n1_ := Aside0.mk (Kd.N_lower (Kd.N_mono (ok' := fun k_ => some k_ ≠ (v560 : Value).ownBlock) (Kd.R_N (Kd.R_bound ho1)) (fun k_ hk_ => hk_.1)) (below_size Z2)); have n2_ := Aside0.mk (below_step Z2 hb); clear HB; have HO561 := n0_; have HO564 := n1_; have HB := n2_; clear n0_ n1_ n2_; (try clear hb); (try clear hb2); (try clear hk); (try clear hi); (try clear ho0); (try clear ho1)) | ((with_reducible refine gate_dst (N := 7) rfl ?_); (try (refine gate_guard (by rfl) ?_; dsimp only)); refine box_event ?hg (N := 7) ?hd (cs := #[.int .i64 0, .int .i64 0, .int .i64 0, .slice none 0 0, .slice none 0 0]) (t := 25) ?hr ?_; (case hd => rfl); (case hg => rfl); (case hr => exact Z44); intro gb566 hg w8 hbox hb; have n0_ := Aside0.mk (Kd.R_below (by (with_reducible repeat (first | apply Kd.R_alloc | apply Kd.R_drewN | apply Kd.R_drew)); exact HO561.out) hb); have n1_ := Aside0.mk (Kd.N_below (Kd.N_elderB (by (with_reducible repeat (first | apply Kd.N_alloc | apply Kd.N_drewN | apply Kd.N_drew)); exact HO564.out) gb566 (Nat.le_of_eq hg.symm)) hb); have n2_ := Aside0.mk (below_step Z2 hb); have n3_ := Aside0.mk (hbox); have n4_ := Aside0.mk ((by rw [hg]; exact (below_size Z2) : w.heap.size ≤ gb566)); have n5_ := Aside0.mk ((by rw [hg]; exact (below_size Z2) : w.heap.size ≤ gb566)); clear HO561; clear HO564; clear HB; have HO561 := n0_; have HO564 := n1_; have HB := n2_; have BK566 := n3_; have GW566 := n4_; have GE566 := n5_; clear n0_ n1_ n2_ n3_ n4_ n5_; clear hb hbox hg; have hcz9_0 : w8.cell? ⟨gb566, 0, none⟩ = some (.int .i64 0) := (blk_cell BK566.out 0).trans rfl; have hcz9_1 : w8.cell? ⟨gb566, 1, none⟩ = some (.int .i64 0) := (blk_cell BK566.out 1).trans rfl; have hcz9_2 : w8.cell? ⟨gb566, 2, none⟩ = some (.int .i64 0) := (blk_cell BK566.out 2).trans rfl; have hcz9_3 : w8.cell? ⟨gb566, 3, none⟩ = some (.slice none 0 0) := (blk_cell BK566.out 3).trans rfl; have hcz9_4 : w8.cell? ⟨gb566, 4, none⟩ = some (.slice none 0 0) := (blk_cell BK566.out 4).trans rfl; have hfz9_0 := blk_frozen BK566.out 0; have hfz9_1 := blk_frozen BK566.out 1; have hfz9_2 := blk_frozen BK566.out 2; have hfz9_3 := blk_frozen BK566.out 3; have hfz9_4 := blk_frozen BK566.out 4; obtain ⟨Ao10, co10, eo10⟩ := Kd.R_slice HO561.out; subst eo10; obtain ⟨Ao11, co11, eo11⟩ := Kd.N_slice HO564.out; subst eo11))
  (try simp only [Act.put, List.setIfInBounds_toArray, List.set_cons_zero, List.set_cons_succ])
  go_cut [39] from 14 to 21 (fun v39 wc => ∃ (kq : Nat) (x39_5 : Bool), v39 = .bool x39_5 ∧ Aside0 (laws_FnPrWider.j0 V_laws_prPlaces V_impl_PrPretty kq a0 a1 a2 x39_5 t556 t557 t558 t559 t562 = some r) ∧ Aside0 (kq ≤ k) ∧ Aside0 (Kd.R k53 53 wc w.heap.size (fun _ => True) (.slice Ao10 t559.length co10) t559) ∧ Aside0 (Kd.N k25 25 wc w.heap.size (fun k_ => some k_ ≠ ((.slice Ao10 t559.length co10) : Value).ownBlock ∧ k_ ≠ gb566) (.slice Ao11 t562.length co11) t562) ∧ Aside0 (wc.heap[gb566]? = some (.cells #[.int .i64 t556, .int .i64 t557, .int .i64 t558, (.slice Ao10 t559.length co10), (.slice Ao11 t562.length co11)] 25 (0, 0))) ∧ Aside0 (Below w.heap.size w wc))
  case first =>
   have H := HC6.out
   clear HC6
   by_cases c12 : t565 = true
   ·subst c12
    have H1 : (if a1 < 8 then (laws_FnPrWider.j0 V_laws_prPlaces V_impl_PrPretty k a0 a1 a2 true t556 t557 t558 t559 t562) else (if a1 > 1073741824 then (laws_FnPrWider.j0 V_laws_prPlaces V_impl_PrPretty k a0 a1 a2 true t556 t557 t558 t559 t562) else (if a2 < 0 then (laws_FnPrWider.j0 V_laws_prPlaces V_impl_PrPretty k a0 a1 a2 true t556 t557 t558 t559 t562) else (laws_FnPrWider.j0 V_laws_prPlaces V_impl_PrPretty k a0 a1 a2 (decide (a2 > 4)) t556 t557 t558 t559 t562)))) = some r := Z52
    clear H
    have H := H1
    clear H1
    by_cases c13 : a1 < 8
    ·rw [if_pos c13] at H
     have c13b0 : decide (a1 < 8) = true := decide_eq_true c13
     clear c13
     (first | rw [c13b0] | (simp only [i64_w, i32_w]; rw [c13b0]) | skip)
     ·
      have H' := Aside0.mk H
      clear H
      go_wp2
      go_meet
      case rel => exact ⟨_, (true), Z8, H', ⟨Z71⟩, ⟨Z38⟩, ⟨Z36⟩, ⟨Z19⟩, ⟨Z24⟩⟩
    ·rw [if_neg c13] at H
     have c13b0 : decide (a1 < 8) = false := decide_eq_false c13
     clear c13
     (first | rw [c13b0] | (simp only [i64_w, i32_w]; rw [c13b0]) | skip)
     by_cases c14 : a1 > 1073741824
     ·rw [if_pos c14] at H
      have c14b0 : decide (1073741824 < a1) = true := decide_eq_true c14
      clear c14
      ·
       have H' := Aside0.mk H
       clear H
       go_wp2
       go_meet
       case rel => exact ⟨_, (true), Z8, H', ⟨Z71⟩, ⟨Z38⟩, ⟨Z36⟩, ⟨Z19⟩, ⟨Z24⟩⟩
     ·rw [if_neg c14] at H
      have c14b0 : decide (1073741824 < a1) = false := decide_eq_false c14
      clear c14
      by_cases c15 : a2 < 0
      ·rw [if_pos c15] at H
       have c15b0 : decide (a2 < 0) = true := decide_eq_true c15
       clear c15
       ·
        have H' := Aside0.mk H
        clear H
        go_wp2
        go_meet
        case rel => exact ⟨_, (true), Z8, H', ⟨Z71⟩, ⟨Z38⟩, ⟨Z36⟩, ⟨Z19⟩, ⟨Z24⟩⟩
      ·rw [if_neg c15] at H
       have c15b0 : decide (a2 < 0) = false := decide_eq_false c15
       clear c15
       ·
        have H' := Aside0.mk H
        clear H
        go_wp2
        go_meet
        case rel => exact ⟨_, (decide (a2 > 4)), Z8, H', ⟨Z71⟩, ⟨Z38⟩, ⟨Z36⟩, ⟨Z19⟩, ⟨Z24⟩⟩
   ·replace c12 := Bool.eq_false_iff.mpr c12
    subst c12
    have H1 : (laws_FnPrWider.j0 V_laws_prPlaces V_impl_PrPretty k a0 a1 a2 true t556 t557 t558 t559 t562) = some r := Z31
    clear H
    have H := H1
    clear H1
    ·
     have H' := Aside0.mk H
     clear H
     go_wp2
     go_meet
     case rel => exact ⟨_, (true), Z8, H', ⟨Z71⟩, ⟨Z38⟩, ⟨Z36⟩, ⟨Z19⟩, ⟨Z24⟩⟩
  case rest =>
   clear HC6
   try clear c4
   try clear c4b0
   try clear c4b1
   try clear hcz9_0
   try clear hcz9_1
   try clear hcz9_2
   try clear hcz9_3
   try clear hcz9_4
   try clear hfz9_0
   try clear hfz9_1
   try clear hfz9_2
   try clear hfz9_3
   try clear hfz9_4
   obtain ⟨kq, x39_5, rfl, HA, HJ5, HO_567003, HO_567004, BK566, HB⟩ := hcut
   cases kq with
   | zero => exact absurd HA.out (by simp [laws_FnPrWider.j0])
   | succ kj5 =>
    have H := HA.out
    clear HA
    simp only [laws_FnPrWider.j0] at H
    by_cases c16 : x39_5 = true
    ·subst c16
     have H1 : (some true) = some r := Z52
     clear H
     have H := H1
     clear H1
     ·
      obtain rfl := Option.some.inj H
      go_wp2
      go_ret
      exact ⟨Z7, Z24⟩
    ·replace c16 := Bool.eq_false_iff.mpr c16
     subst c16
     have H1 : ((spec_All.f kj5 t556 t557 t558 t559 t562).bind fun t567 => (laws_FnPrWider.l0 V_laws_prPlaces V_impl_PrPretty kj5 a0 a1 a2 t567 (t567.length : Int) 0)) = some r := Z31
     clear H
     have H := H1
     clear H1
     replace H := Option.bind_eq_some_iff.mp H
     obtain ⟨t567, A170, H⟩ := H
     replace H : (laws_FnPrWider.l0 V_laws_prPlaces V_impl_PrPretty kj5 a0 a1 a2 t567 (t567.length : Int) 0) = some r := H
     have A17 := Aside0.mk A170
     clear A170
     have H' := Aside0.mk H
     clear H
     have hcz18_0 : wc.cell? ⟨gb566, 0, none⟩ = some (.int .i64 t556) := (blk_cell BK566.out 0).trans rfl
     have hcz18_1 : wc.cell? ⟨gb566, 1, none⟩ = some (.int .i64 t557) := (blk_cell BK566.out 1).trans rfl
     have hcz18_2 : wc.cell? ⟨gb566, 2, none⟩ = some (.int .i64 t558) := (blk_cell BK566.out 2).trans rfl
     have hcz18_3 : wc.cell? ⟨gb566, 3, none⟩ = some (.slice Ao10 t559.length co10) := (blk_cell BK566.out 3).trans rfl
     have hcz18_4 : wc.cell? ⟨gb566, 4, none⟩ = some (.slice Ao11 t562.length co11) := (blk_cell BK566.out 4).trans rfl
     have hfz18_0 := blk_frozen BK566.out 0
     have hfz18_1 := blk_frozen BK566.out 1
     have hfz18_2 := blk_frozen BK566.out 2
     have hfz18_3 := blk_frozen BK566.out 3
     have hfz18_4 := blk_frozen BK566.out 4
     go_wp2_with (first | ((with_reducible refine gate_callee (f := 7) rfl ?_); refine goesL_ (some 41) rfl rfl Try.func7 (by kernel_rfl) rfl #[.agg #[.int .i64 t556, .int .i64 t557, .int .i64 t558, .slice Ao10 t559.length co10, .slice Ao11 t562.length co11]] rfl Z5 ?_; (with_reducible refine (spec_All.calls kj5 t556 t557 t558 (fun k_ => some k_ = (.slice Ao10 t559.length co10 : Value).ownBlock) _ _ t559 (fun k_ => (some k_ ≠ (.slice Ao10 t559.length co10 : Value).ownBlock ∧ k_ ≠ gb566)) _ _ t562 t567 _ ?side1 ?side2 A17.out).mono ?_); (case side1 => exact Kd.R_V (Kd.R_tight rfl (Kd.R_types (Kd.R_apart' (HO_567003.out) (Kd.N_typed HO_567004.out) (by decide)) BK566.out (by decide)))); (case side2 => exact Kd.N_V (HO_567004.out)); rintro e w19 ⟨v568, rfl, ho0, hb⟩; refine ⟨_, rfl, ?_⟩; have n0_ := Aside0.mk (Kd.R_below Z96 hb); have n1_ := Aside0.mk (Kd.N_elder' Z97 (Kd.N_base ho0) hb); have n2_ := Aside0.mk (Kd.N_lower (Kd.N_mono (ok' := fun k_ => k_ ≠ gb566) ho0 (fun k_ hk_ => Or.elim hk_ (fun hs_ => Or.elim hs_ (fun hs_ => ((Kd.R_types (Kd.R_apart' (HO_567003.out) (Kd.N_typed HO_567004.out) (by decide)) BK566.out (by decide)).1 k_ hs_.symm).2) (fun hs_ => hs_.2)) (fun hn_ => (Kd.freshB (g := gb566) (o := .cells #[.int .i64 t556, .int .i64 t557, .int .i64 t558, .slice Ao10 t559.length co10, .slice Ao11 t562.length co11] 25 (0, 0)) Z42 k_ hn_)))) (below_size Z24)); have n3_ := Aside0.mk (blk_below (g := gb566) (o := .cells #[.int .i64 t556, .int .i64 t557, .int .i64 t558, .slice Ao10 t559.length co10, .slice Ao11 t562.length co11] 25 (0, 0)) Z42 hb); have n4_ := Aside0.mk (below_step Z24 hb); clear HO_567003; clear HO_567004; clear BK566; clear HB; have HO_567003 := n0_; have HO_567004 := n1_; have HO569 := n2_; have BK566 := n3_; have HB := n4_; clear n0_ n1_ n2_ n3_ n4_; (try clear hb); (try clear hb2); (try clear hk); (try clear hi); (try clear ho0); obtain ⟨Ao20, co20, eo20⟩ := Kd.N_slice HO569.out; subst eo20))
     (try simp only [Act.put, List.setIfInBounds_toArray, List.set_cons_zero, List.set_cons_succ])
     go_loopg [43] kj5 (fun kq v43 w' => ∃ (x43_2 : Int), v43 = .int .i64 x43_2 ∧ Aside0 (laws_FnPrWider.l0 V_laws_prPlaces V_impl_PrPretty kq a0 a1 a2 t567 (t567.length : Int) x43_2 = some r) ∧ Aside0 (kq ≤ kj5) ∧ Aside0 (Kd.N k25 25 w' w.heap.size (fun k_ => k_ ≠ gb566) (.slice Ao20 t567.length co20) t567) ∧ Aside0 (Kd.R k53 53 w' w.heap.size (fun _ => True) (.slice Ao10 t559.length co10) t559) ∧ Aside0 (Kd.N k25 25 w' w.heap.size (fun k_ => some k_ ≠ ((.slice Ao20 t567.length co20) : Value).ownBlock ∧ some k_ ≠ ((.slice Ao10 t559.length co10) : Value).ownBlock ∧ k_ ≠ gb566) (.slice Ao11 t562.length co11) t562) ∧ Aside0 (w'.heap[gb566]? = some (.cells #[.int .i64 t556, .int .i64 t557, .int .i64 t558, (.slice Ao10 t559.length co10), (.slice Ao11 t562.length co11)] 25 (0, 0))) ∧ Aside0 (Below w.heap.size w w'))
     case atStart => exact ⟨(0), Z8, H', ⟨Nat.le_refl _⟩, ⟨by (with_reducible repeat (first | apply Kd.N_alloc | apply Kd.N_drewN | apply Kd.N_drew)); exact HO569.out⟩, ⟨Z84⟩, ⟨by (with_reducible repeat (first | apply Kd.N_alloc | apply Kd.N_drewN | apply Kd.N_drew)); exact Kd.N_mono HO_567004.out (fun _ hk => ⟨hk.2, ⟨hk.1.1, hk.1.2⟩⟩)⟩, ⟨Z42⟩, ⟨Z24⟩⟩
     case round =>
      clear H'
      try clear c4
      try clear c4b0
      try clear c4b1
      try clear c16
      try clear hcz18_0
      try clear hcz18_1
      try clear hcz18_2
      try clear hcz18_3
      try clear hcz18_4
      try clear hcz9_0
      try clear hcz9_1
      try clear hcz9_2
      try clear hcz9_3
      try clear hcz9_4
      try clear hfz18_0
      try clear hfz18_1
      try clear hfz18_2
      try clear hfz18_3
      try clear hfz18_4
      try clear hfz9_0
      try clear hfz9_1
      try clear hfz9_2
      try clear hfz9_3
      try clear hfz9_4
      obtain ⟨x43_2, rfl, HA, HK2, HO_41, HO_567003, HO_567004, BK566, HB⟩ := hrel
      cases gk with
      | zero => exact absurd HA.out (by simp [laws_FnPrWider.l0])
      | succ k2 =>
       have H := HA.out
       clear HA
       simp only [laws_FnPrWider.l0] at H
       by_cases c21 : x43_2 < (t567.length : Int)
       ·rw [if_pos c21] at H
        have c21b0 : decide (x43_2 < (t567.length : Int)) = true := decide_eq_true c21
        clear c21
        by_cases c22 : 0 ≤ x43_2
        ·rw [if_pos c22] at H
         have c22b0 : decide (0 ≤ x43_2) = true := decide_eq_true c22
         clear c22
         by_cases c23 : x43_2 < (t567.length : Int)
         ·rw [if_pos c23] at H
          have c23b0 : decide (x43_2 < (t567.length : Int)) = true := decide_eq_true c23
          clear c23
          by_cases c24 : ((rd_T25 t567 x43_2).f0) = 6
          ·rw [if_pos c24] at H
           have c24b0 : (((rd_T25 t567 x43_2).f0) == 6) = true := beq_iff_eq.mpr c24
           have c24b1 : (((rd_T25 t567 x43_2).f0) != 6) = false := bne_eq_false_iff_eq.mpr c24
           clear c24
           ·
            obtain rfl := Option.some.inj H
            have p570 : 0 ≤ (x43_2 : Int) := of_decide_eq_true Z6
            have q570 : x43_2 < (t567.length : Int) := of_decide_eq_true Z6
            obtain ⟨ad570, A570_3, c570_3, A570_4, c570_4, e570, hx570_0, hx570_1, hx570_2, hx570_3, hx570_4, hl570_3, hi570_3, hl570_4, hi570_4⟩ := at_T25 (Kd.N_reads' HO_41.out).2.2 x43_2 p570 q570
            cases e570
            obtain ⟨ce570, hce570, hMe570, hcc570⟩ := Kd.N_get HO_41.out z25 x43_2 p570 Z145
            obtain ⟨ua570_3, uc570_3, ua570_4, uc570_4, rfl, ul570_3, ge570_3, ul570_4, ge570_4⟩ := k25_openF hMe570
            have hv570_3 := hcc570 3 _ rfl
            rw [add_field _ _ 3 (by omega)] at hv570_3
            replace hv570_3 := Option.some.inj (hv570_3.symm.trans hx570_3)
            injection hv570_3 with hva_ hvn_ hvc_
            rw [hva_] at ge570_3
            rw [hvc_] at ul570_3
            have HL570_3 := Aside0.mk (show Kd.V k53 53 _ w.heap.size _ _ ((rd_T25 t567 x43_2).f3) from Kd.V_mk ul570_3 ge570_3)
            clear hva_ hvn_ hvc_ ge570_3 ul570_3
            have hv570_4 := hcc570 4 _ rfl
            rw [add_field _ _ 4 (by omega)] at hv570_4
            replace hv570_4 := Option.some.inj (hv570_4.symm.trans hx570_4)
            injection hv570_4 with hva_ hvn_ hvc_
            rw [hva_] at ge570_4
            rw [hvc_] at ul570_4
            have HL570_4 := Aside0.mk (show Kd.V k25 25 _ w.heap.size _ _ ((rd_T25 t567 x43_2).f4) from Kd.V_mk ul570_4 ge570_4)
            clear hva_ hvn_ hvc_ ge570_4 ul570_4
            clear hcc570 hce570
            have HR570_3 := Aside0.mk hi570_3
            have HC570_3 := Aside0.mk hl570_3
            clear hi570_3 hl570_3
            have HR570_4 := Aside0.mk hi570_4
            have HC570_4 := Aside0.mk hl570_4
            clear hi570_4 hl570_4
            replace p570 := eq_true p570
            replace q570 := eq_true q570
            go_wp2_with (first | ((with_reducible refine gate_dst (N := 10) rfl ?_); (try (refine gate_guard (by rfl) ?_; dsimp only)); refine box_event ?hg (N := 10) ?hd (cs := #[.int .i64 0, .int .i64 0, .int .i64 0, .slice none 0 0, .slice none 0 0]) (t := 25) ?hr ?_; (case hd => rfl); (case hg => rfl); (case hr => exact Z44); intro gb571 hg w25 hbox hb; have n0_ := Aside0.mk (Kd.N_below (Kd.N_elderB Z126 gb571 (Nat.le_of_eq hg.symm)) hb); have n1_ := Aside0.mk (Kd.R_below Z96 hb); have n2_ := Aside0.mk (Kd.N_below (Kd.N_elderB Z97 gb571 (Nat.le_of_eq hg.symm)) hb); have n3_ := Aside0.mk (Kd.V_below (Kd.V_elderB Z139 gb571 (Nat.le_of_eq hg.symm)) hb); have n4_ := Aside0.mk (Kd.V_below (Kd.V_elderB Z138 gb571 (Nat.le_of_eq hg.symm)) hb); have n5_ := Aside0.mk (blk_below (g := gb566) (o := .cells #[.int .i64 t556, .int .i64 t557, .int .i64 t558, .slice Ao10 t559.length co10, .slice Ao11 t562.length co11] 25 (0, 0)) Z42 hb); have n6_ := Aside0.mk (Kd.C_below Z103 hb); have n7_ := Aside0.mk (Kd.C_below Z102 hb); have n8_ := Aside0.mk (below_step Z24 hb); have n9_ := Aside0.mk (hbox); have n10_ := Aside0.mk ((by rw [hg]; exact (below_size Z24) : w.heap.size ≤ gb571)); have n11_ := Aside0.mk ((by rw [hg]; exact (below_size Z24) : w.heap.size ≤ gb571)); have n12_ := Aside0.mk ((by rw [hg]; exact Nat.ne_of_lt (blk_lt (g := gb566) (o := .cells #[.int .i64 t556, .int .i64 t557, .int .i64 t558, .slice Ao10 t559.length co10, .slice Ao11 t562.length co11] 25 (0, 0)) Z42) : gb566 ≠ gb571)); have n13_ := Aside0.mk ((by rw [hg]; exact Nat.ne_of_gt (blk_lt (g := gb566) (o := .cells #[.int .i64 t556, .int .i64 t557, .int .i64 t558, .slice Ao10 t559.length co10, .slice Ao11 t562.length co11] 25 (0, 0)) Z42) : gb571 ≠ gb566)); clear HO_41; clear HO_567003; clear HO_567004; clear HL570_3; clear HL570_4; clear BK566; clear HR570_3; clear HR570_4; clear HB; have HO_41 := n0_; have HO_567003 := n1_; have HO_567004 := n2_; have HL570_3 := n3_; have HL570_4 := n4_; have BK566 := n5_; have HR570_3 := n6_; have HR570_4 := n7_; have HB := n8_; have BK571 := n9_; have GW571 := n10_; have GE571 := n11_; have NB566_571 := n12_; have NB571_566 := n13_; clear n0_ n1_ n2_ n3_ n4_ n5_ n6_ n7_ n8_ n9_ n10_ n11_ n12_ n13_; clear hb hbox hg; have hnb26 := NB571_566.out; have hnc26 := NB566_571.out; have hcz27_0 : w25.cell? ⟨gb571, 0, none⟩ = some (.int .i64 0) := (blk_cell BK571.out 0).trans rfl; have hcz27_1 : w25.cell? ⟨gb571, 1, none⟩ = some (.int .i64 0) := (blk_cell BK571.out 1).trans rfl; have hcz27_2 : w25.cell? ⟨gb571, 2, none⟩ = some (.int .i64 0) := (blk_cell BK571.out 2).trans rfl; have hcz27_3 : w25.cell? ⟨gb571, 3, none⟩ = some (.slice none 0 0) := (blk_cell BK571.out 3).trans rfl; have hcz27_4 : w25.cell? ⟨gb571, 4, none⟩ = some (.slice none 0 0) := (blk_cell BK571.out 4).trans rfl; have hfz27_0 := blk_frozen BK571.out 0; have hfz27_1 := blk_frozen BK571.out 1; have hfz27_2 := blk_frozen BK571.out 2; have hfz27_3 := blk_frozen BK571.out 3; have hfz27_4 := blk_frozen BK571.out 4))
            go_ret
            exact ⟨Z7, Z100⟩
          ·rw [if_neg c24] at H
           have c24b0 : (((rd_T25 t567 x43_2).f0) == 6) = false := beq_eq_false_iff_ne.mpr c24
           have c24b1 : (((rd_T25 t567 x43_2).f0) != 6) = true := bne_iff_ne.mpr c24
           by_cases c28 : ((rd_T25 t567 x43_2).f0) = 4
           ·rw [if_pos c28] at H
            have c28b0 : (((rd_T25 t567 x43_2).f0) == 4) = true := beq_iff_eq.mpr c28
            have c28b1 : (((rd_T25 t567 x43_2).f0) != 4) = false := bne_eq_false_iff_eq.mpr c28
            clear c28
            ·
             obtain rfl := Option.some.inj H
             have p570 : 0 ≤ (x43_2 : Int) := of_decide_eq_true Z6
             have q570 : x43_2 < (t567.length : Int) := of_decide_eq_true Z6
             obtain ⟨ad570, A570_3, c570_3, A570_4, c570_4, e570, hx570_0, hx570_1, hx570_2, hx570_3, hx570_4, hl570_3, hi570_3, hl570_4, hi570_4⟩ := at_T25 (Kd.N_reads' HO_41.out).2.2 x43_2 p570 q570
             cases e570
             obtain ⟨ce570, hce570, hMe570, hcc570⟩ := Kd.N_get HO_41.out z25 x43_2 p570 Z145
             obtain ⟨ua570_3, uc570_3, ua570_4, uc570_4, rfl, ul570_3, ge570_3, ul570_4, ge570_4⟩ := k25_openF hMe570
             have hv570_3 := hcc570 3 _ rfl
             rw [add_field _ _ 3 (by omega)] at hv570_3
             replace hv570_3 := Option.some.inj (hv570_3.symm.trans hx570_3)
             injection hv570_3 with hva_ hvn_ hvc_
             rw [hva_] at ge570_3
             rw [hvc_] at ul570_3
             have HL570_3 := Aside0.mk (show Kd.V k53 53 _ w.heap.size _ _ ((rd_T25 t567 x43_2).f3) from Kd.V_mk ul570_3 ge570_3)
             clear hva_ hvn_ hvc_ ge570_3 ul570_3
             have hv570_4 := hcc570 4 _ rfl
             rw [add_field _ _ 4 (by omega)] at hv570_4
             replace hv570_4 := Option.some.inj (hv570_4.symm.trans hx570_4)
             injection hv570_4 with hva_ hvn_ hvc_
             rw [hva_] at ge570_4
             rw [hvc_] at ul570_4
             have HL570_4 := Aside0.mk (show Kd.V k25 25 _ w.heap.size _ _ ((rd_T25 t567 x43_2).f4) from Kd.V_mk ul570_4 ge570_4)
             clear hva_ hvn_ hvc_ ge570_4 ul570_4
             clear hcc570 hce570
             have HR570_3 := Aside0.mk hi570_3
             have HC570_3 := Aside0.mk hl570_3
             clear hi570_3 hl570_3
             have HR570_4 := Aside0.mk hi570_4
             have HC570_4 := Aside0.mk hl570_4
             clear hi570_4 hl570_4
             replace p570 := eq_true p570
             replace q570 := eq_true q570
             go_wp2_with (first | ((with_reducible refine gate_dst (N := 10) rfl ?_); (try (refine gate_guard (by rfl) ?_; dsimp only)); refine box_event ?hg (N := 10) ?hd (cs := #[.int .i64 0, .int .i64 0, .int .i64 0, .slice none 0 0, .slice none 0 0]) (t := 25) ?hr ?_; (case hd => rfl); (case hg => rfl); (case hr => exact Z44); intro gb571 hg w29 hbox hb; have n0_ := Aside0.mk (Kd.N_below (Kd.N_elderB Z126 gb571 (Nat.le_of_eq hg.symm)) hb); have n1_ := Aside0.mk (Kd.R_below Z96 hb); have n2_ := Aside0.mk (Kd.N_below (Kd.N_elderB Z97 gb571 (Nat.le_of_eq hg.symm)) hb); have n3_ := Aside0.mk (Kd.V_below (Kd.V_elderB Z139 gb571 (Nat.le_of_eq hg.symm)) hb); have n4_ := Aside0.mk (Kd.V_below (Kd.V_elderB Z138 gb571 (Nat.le_of_eq hg.symm)) hb); have n5_ := Aside0.mk (blk_below (g := gb566) (o := .cells #[.int .i64 t556, .int .i64 t557, .int .i64 t558, .slice Ao10 t559.length co10, .slice Ao11 t562.length co11] 25 (0, 0)) Z42 hb); have n6_ := Aside0.mk (Kd.C_below Z103 hb); have n7_ := Aside0.mk (Kd.C_below Z102 hb); have n8_ := Aside0.mk (below_step Z24 hb); have n9_ := Aside0.mk (hbox); have n10_ := Aside0.mk ((by rw [hg]; exact (below_size Z24) : w.heap.size ≤ gb571)); have n11_ := Aside0.mk ((by rw [hg]; exact (below_size Z24) : w.heap.size ≤ gb571)); have n12_ := Aside0.mk ((by rw [hg]; exact Nat.ne_of_lt (blk_lt (g := gb566) (o := .cells #[.int .i64 t556, .int .i64 t557, .int .i64 t558, .slice Ao10 t559.length co10, .slice Ao11 t562.length co11] 25 (0, 0)) Z42) : gb566 ≠ gb571)); have n13_ := Aside0.mk ((by rw [hg]; exact Nat.ne_of_gt (blk_lt (g := gb566) (o := .cells #[.int .i64 t556, .int .i64 t557, .int .i64 t558, .slice Ao10 t559.length co10, .slice Ao11 t562.length co11] 25 (0, 0)) Z42) : gb571 ≠ gb566)); clear HO_41; clear HO_567003; clear HO_567004; clear HL570_3; clear HL570_4; clear BK566; clear HR570_3; clear HR570_4; clear HB; have HO_41 := n0_; have HO_567003 := n1_; have HO_567004 := n2_; have HL570_3 := n3_; have HL570_4 := n4_; have BK566 := n5_; have HR570_3 := n6_; have HR570_4 := n7_; have HB := n8_; have BK571 := n9_; have GW571 := n10_; have GE571 := n11_; have NB566_571 := n12_; have NB571_566 := n13_; clear n0_ n1_ n2_ n3_ n4_ n5_ n6_ n7_ n8_ n9_ n10_ n11_ n12_ n13_; clear hb hbox hg; have hnb30 := NB571_566.out; have hnc30 := NB566_571.out; have hcz31_0 : w29.cell? ⟨gb571, 0, none⟩ = some (.int .i64 0) := (blk_cell BK571.out 0).trans rfl; have hcz31_1 : w29.cell? ⟨gb571, 1, none⟩ = some (.int .i64 0) := (blk_cell BK571.out 1).trans rfl; have hcz31_2 : w29.cell? ⟨gb571, 2, none⟩ = some (.int .i64 0) := (blk_cell BK571.out 2).trans rfl; have hcz31_3 : w29.cell? ⟨gb571, 3, none⟩ = some (.slice none 0 0) := (blk_cell BK571.out 3).trans rfl; have hcz31_4 : w29.cell? ⟨gb571, 4, none⟩ = some (.slice none 0 0) := (blk_cell BK571.out 4).trans rfl; have hfz31_0 := blk_frozen BK571.out 0; have hfz31_1 := blk_frozen BK571.out 1; have hfz31_2 := blk_frozen BK571.out 2; have hfz31_3 := blk_frozen BK571.out 3; have hfz31_4 := blk_frozen BK571.out 4))
             go_ret
             exact ⟨Z7, Z100⟩
           ·rw [if_neg c28] at H
            have c28b0 : (((rd_T25 t567 x43_2).f0) == 4) = false := beq_eq_false_iff_ne.mpr c28
            have c28b1 : (((rd_T25 t567 x43_2).f0) != 4) = true := bne_iff_ne.mpr c28
            ·
             have H' := Aside0.mk H
             clear H
             have p570 : 0 ≤ (x43_2 : Int) := of_decide_eq_true Z6
             have q570 : x43_2 < (t567.length : Int) := of_decide_eq_true Z6
             obtain ⟨ad570, A570_3, c570_3, A570_4, c570_4, e570, hx570_0, hx570_1, hx570_2, hx570_3, hx570_4, hl570_3, hi570_3, hl570_4, hi570_4⟩ := at_T25 (Kd.N_reads' HO_41.out).2.2 x43_2 p570 q570
             cases e570
             obtain ⟨ce570, hce570, hMe570, hcc570⟩ := Kd.N_get HO_41.out z25 x43_2 p570 Z145
             obtain ⟨ua570_3, uc570_3, ua570_4, uc570_4, rfl, ul570_3, ge570_3, ul570_4, ge570_4⟩ := k25_openF hMe570
             have hv570_3 := hcc570 3 _ rfl
             rw [add_field _ _ 3 (by omega)] at hv570_3
             replace hv570_3 := Option.some.inj (hv570_3.symm.trans hx570_3)
             injection hv570_3 with hva_ hvn_ hvc_
             rw [hva_] at ge570_3
             rw [hvc_] at ul570_3
             have HL570_3 := Aside0.mk (show Kd.V k53 53 _ w.heap.size _ _ ((rd_T25 t567 x43_2).f3) from Kd.V_mk ul570_3 ge570_3)
             clear hva_ hvn_ hvc_ ge570_3 ul570_3
             have hv570_4 := hcc570 4 _ rfl
             rw [add_field _ _ 4 (by omega)] at hv570_4
             replace hv570_4 := Option.some.inj (hv570_4.symm.trans hx570_4)
             injection hv570_4 with hva_ hvn_ hvc_
             rw [hva_] at ge570_4
             rw [hvc_] at ul570_4
             have HL570_4 := Aside0.mk (show Kd.V k25 25 _ w.heap.size _ _ ((rd_T25 t567 x43_2).f4) from Kd.V_mk ul570_4 ge570_4)
             clear hva_ hvn_ hvc_ ge570_4 ul570_4
             clear hcc570 hce570
             have HR570_3 := Aside0.mk hi570_3
             have HC570_3 := Aside0.mk hl570_3
             clear hi570_3 hl570_3
             have HR570_4 := Aside0.mk hi570_4
             have HC570_4 := Aside0.mk hl570_4
             clear hi570_4 hl570_4
             replace p570 := eq_true p570
             replace q570 := eq_true q570
             go_wp2_with (first | ((with_reducible refine gate_dst (N := 10) rfl ?_); (try (refine gate_guard (by rfl) ?_; dsimp only)); refine box_event ?hg (N := 10) ?hd (cs := #[.int .i64 0, .int .i64 0, .int .i64 0, .slice none 0 0, .slice none 0 0]) (t := 25) ?hr ?_; (case hd => rfl); (case hg => rfl); (case hr => exact Z44); intro gb571 hg w32 hbox hb; have n0_ := Aside0.mk (Kd.N_below (Kd.N_elderB Z126 gb571 (Nat.le_of_eq hg.symm)) hb); have n1_ := Aside0.mk (Kd.R_below Z96 hb); have n2_ := Aside0.mk (Kd.N_below (Kd.N_elderB Z97 gb571 (Nat.le_of_eq hg.symm)) hb); have n3_ := Aside0.mk (Kd.V_below (Kd.V_elderB Z139 gb571 (Nat.le_of_eq hg.symm)) hb); have n4_ := Aside0.mk (Kd.V_below (Kd.V_elderB Z138 gb571 (Nat.le_of_eq hg.symm)) hb); have n5_ := Aside0.mk (blk_below (g := gb566) (o := .cells #[.int .i64 t556, .int .i64 t557, .int .i64 t558, .slice Ao10 t559.length co10, .slice Ao11 t562.length co11] 25 (0, 0)) Z42 hb); have n6_ := Aside0.mk (Kd.C_below Z103 hb); have n7_ := Aside0.mk (Kd.C_below Z102 hb); have n8_ := Aside0.mk (below_step Z24 hb); have n9_ := Aside0.mk (hbox); have n10_ := Aside0.mk ((by rw [hg]; exact (below_size Z24) : w.heap.size ≤ gb571)); have n11_ := Aside0.mk ((by rw [hg]; exact (below_size Z24) : w.heap.size ≤ gb571)); have n12_ := Aside0.mk ((by rw [hg]; exact Nat.ne_of_lt (blk_lt (g := gb566) (o := .cells #[.int .i64 t556, .int .i64 t557, .int .i64 t558, .slice Ao10 t559.length co10, .slice Ao11 t562.length co11] 25 (0, 0)) Z42) : gb566 ≠ gb571)); have n13_ := Aside0.mk ((by rw [hg]; exact Nat.ne_of_gt (blk_lt (g := gb566) (o := .cells #[.int .i64 t556, .int .i64 t557, .int .i64 t558, .slice Ao10 t559.length co10, .slice Ao11 t562.length co11] 25 (0, 0)) Z42) : gb571 ≠ gb566)); clear HO_41; clear HO_567003; clear HO_567004; clear HL570_3; clear HL570_4; clear BK566; clear HR570_3; clear HR570_4; clear HB; have HO_41 := n0_; have HO_567003 := n1_; have HO_567004 := n2_; have HL570_3 := n3_; have HL570_4 := n4_; have BK566 := n5_; have HR570_3 := n6_; have HR570_4 := n7_; have HB := n8_; have BK571 := n9_; have GW571 := n10_; have GE571 := n11_; have NB566_571 := n12_; have NB571_566 := n13_; clear n0_ n1_ n2_ n3_ n4_ n5_ n6_ n7_ n8_ n9_ n10_ n11_ n12_ n13_; clear hb hbox hg; have hnb33 := NB571_566.out; have hnc33 := NB566_571.out; have hcz34_0 : w32.cell? ⟨gb571, 0, none⟩ = some (.int .i64 0) := (blk_cell BK571.out 0).trans rfl; have hcz34_1 : w32.cell? ⟨gb571, 1, none⟩ = some (.int .i64 0) := (blk_cell BK571.out 1).trans rfl; have hcz34_2 : w32.cell? ⟨gb571, 2, none⟩ = some (.int .i64 0) := (blk_cell BK571.out 2).trans rfl; have hcz34_3 : w32.cell? ⟨gb571, 3, none⟩ = some (.slice none 0 0) := (blk_cell BK571.out 3).trans rfl; have hcz34_4 : w32.cell? ⟨gb571, 4, none⟩ = some (.slice none 0 0) := (blk_cell BK571.out 4).trans rfl; have hfz34_0 := blk_frozen BK571.out 0; have hfz34_1 := blk_frozen BK571.out 1; have hfz34_2 := blk_frozen BK571.out 2; have hfz34_3 := blk_frozen BK571.out 3; have hfz34_4 := blk_frozen BK571.out 4))
             go_roundg k2
             case measure => have := HJ5.out; have := HK2.out; omega
             case rel => exact ⟨(wrap64 (x43_2 + 1)), Z8, H', ⟨by have := HJ5.out; have := HK2.out; omega⟩, ⟨by (with_reducible repeat (first | apply Kd.N_alloc | apply Kd.N_drewN | apply Kd.N_drew)); exact Kd.N_mono (Kd.N_far (p := ⟨gb571, 4, none⟩) (Kd.N_far (p := ⟨gb571, 3, none⟩) (Kd.N_far (p := ⟨gb571, 2, none⟩) (Kd.N_far (p := ⟨gb571, 1, none⟩) (Kd.N_far (p := ⟨gb571, 0, none⟩) (Kd.N_mono HO_41.out (fun k_ hk => (⟨hk, hk.2⟩ : _ ∧ k_ ≠ gb571))) (fun _ hk => hk.2) (.int .i64 ((rd_T25 t567 x43_2).f0))) (fun _ hk => hk.2) (.int .i64 ((rd_T25 t567 x43_2).f1))) (fun _ hk => hk.2) (.int .i64 ((rd_T25 t567 x43_2).f2))) (fun _ hk => hk.2) (.slice A570_3 ((rd_T25 t567 x43_2).f3).length c570_3)) (fun _ hk => hk.2) (.slice A570_4 ((rd_T25 t567 x43_2).f4).length c570_4)) (fun _ hk => hk.1.1)⟩, ⟨by (with_reducible repeat (first | apply Kd.R_alloc | apply Kd.R_drewN | apply Kd.R_drew)); exact Kd.R_mono (Kd.R_far (p := ⟨gb571, 4, none⟩) (Kd.R_far (p := ⟨gb571, 3, none⟩) (Kd.R_far (p := ⟨gb571, 2, none⟩) (Kd.R_far (p := ⟨gb571, 1, none⟩) (Kd.R_far (p := ⟨gb571, 0, none⟩) (Kd.R_types HO_567003.out BK571.out (by decide)) (fun _ hk => hk.2) (.int .i64 ((rd_T25 t567 x43_2).f0))) (fun _ hk => hk.2) (.int .i64 ((rd_T25 t567 x43_2).f1))) (fun _ hk => hk.2) (.int .i64 ((rd_T25 t567 x43_2).f2))) (fun _ hk => hk.2) (.slice A570_3 ((rd_T25 t567 x43_2).f3).length c570_3)) (fun _ hk => hk.2) (.slice A570_4 ((rd_T25 t567 x43_2).f4).length c570_4)) (fun _ hk => trivial)⟩, ⟨by (with_reducible repeat (first | apply Kd.N_alloc | apply Kd.N_drewN | apply Kd.N_drew)); exact Kd.N_mono (Kd.N_far (p := ⟨gb571, 4, none⟩) (Kd.N_far (p := ⟨gb571, 3, none⟩) (Kd.N_far (p := ⟨gb571, 2, none⟩) (Kd.N_far (p := ⟨gb571, 1, none⟩) (Kd.N_far (p := ⟨gb571, 0, none⟩) (Kd.N_mono HO_567004.out (fun k_ hk => (⟨hk, hk.2⟩ : _ ∧ k_ ≠ gb571))) (fun _ hk => hk.2) (.int .i64 ((rd_T25 t567 x43_2).f0))) (fun _ hk => hk.2) (.int .i64 ((rd_T25 t567 x43_2).f1))) (fun _ hk => hk.2) (.int .i64 ((rd_T25 t567 x43_2).f2))) (fun _ hk => hk.2) (.slice A570_3 ((rd_T25 t567 x43_2).f3).length c570_3)) (fun _ hk => hk.2) (.slice A570_4 ((rd_T25 t567 x43_2).f4).length c570_4)) (fun _ hk => ⟨hk.1.1.1, ⟨hk.1.1.2.1, hk.1.1.2.2⟩⟩)⟩, ⟨by (with_reducible repeat (first | refine blk_drewN ?_ _ | refine blk_drew ?_ | refine blk_alloc ?_ _)); refine blk_far ?_ NB566_571.out _; (with_reducible repeat (first | refine blk_drewN ?_ _ | refine blk_drew ?_ | refine blk_alloc ?_ _)); refine blk_far ?_ NB566_571.out _; (with_reducible repeat (first | refine blk_drewN ?_ _ | refine blk_drew ?_ | refine blk_alloc ?_ _)); refine blk_far ?_ NB566_571.out _; (with_reducible repeat (first | refine blk_drewN ?_ _ | refine blk_drew ?_ | refine blk_alloc ?_ _)); refine blk_far ?_ NB566_571.out _; (with_reducible repeat (first | refine blk_drewN ?_ _ | refine blk_drew ?_ | refine blk_alloc ?_ _)); refine blk_far ?_ NB566_571.out _; (with_reducible repeat (first | refine blk_drewN ?_ _ | refine blk_drew ?_ | refine blk_alloc ?_ _)); exact BK566.out⟩, ⟨Z100⟩⟩
         ·rw [if_neg c23] at H
          exact absurd H (by simp)
        ·rw [if_neg c22] at H
         exact absurd H (by simp)
       ·rw [if_neg c21] at H
        have c21b0 : decide (x43_2 < (t567.length : Int)) = false := decide_eq_false c21
        clear c21
        by_cases c35 : 0 ≤ a2
        ·rw [if_pos c35] at H
         have c35b0 := eq_true c35
         have c35b1 : decide (0 ≤ a2) = true := decide_eq_true c35
         clear c35
         by_cases c36 : a2 ≤ 4
         ·rw [if_pos c36] at H
          have c36b0 := eq_true c36
          have c36b1 : decide (a2 ≤ 4) = true := decide_eq_true c36
          clear c36
          replace H := Option.bind_eq_some_iff.mp H
          obtain ⟨t572, A370, H⟩ := H
          replace H : (laws_FnPrWider.l1 V_laws_prPlaces V_impl_PrPretty k2 a1 t572 0 0) = some r := H
          have A37 := Aside0.mk A370
          clear A370
          have H' := Aside0.mk H
          clear H
          go_wp2_with (first | ((with_reducible refine gate_callee (f := 8) rfl ?_); refine goesL_ (some 61) rfl rfl Try.func8 (by kernel_rfl) rfl #[.string a0, .agg #[.int .i64 a1, .string (⟨#[]⟩ : ByteArray), .string ((⟨#[32, 32, 32, 32]⟩ : ByteArray).extract 0 (a2 : Int).toNat), .bool false]] rfl Z5 ?_; (with_reducible refine (V_impl_PrPretty.calls k2 a0 a1 (⟨#[]⟩ : ByteArray) ((⟨#[32, 32, 32, 32]⟩ : ByteArray).extract 0 (a2 : Int).toNat) false t572 _ A37.out).mono ?_); rintro e w38 ⟨rfl, hb⟩; refine ⟨_, rfl, ?_⟩; have n0_ := Aside0.mk (Kd.N_below Z126 hb); have n1_ := Aside0.mk (Kd.R_below Z96 hb); have n2_ := Aside0.mk (Kd.N_below Z97 hb); have n3_ := Aside0.mk (blk_below (g := gb566) (o := .cells #[.int .i64 t556, .int .i64 t557, .int .i64 t558, .slice Ao10 t559.length co10, .slice Ao11 t562.length co11] 25 (0, 0)) Z42 hb); have n4_ := Aside0.mk (below_step Z24 hb); clear HO_41; clear HO_567003; clear HO_567004; clear BK566; clear HB; have HO_41 := n0_; have HO_567003 := n1_; have HO_567004 := n2_; have BK566 := n3_; have HB := n4_; clear n0_ n1_ n2_ n3_ n4_; (try clear hb); (try clear hb2); (try clear hk); (try clear hi)))
          (try simp only [Act.put, List.setIfInBounds_toArray, List.set_cons_zero, List.set_cons_succ])
          go_loopg [12, 13] k2 (fun kq v12 v13 w' => ∃ (x12_3 : Int) (x13_3 : Int), v12 = .int .i64 x12_3 ∧ v13 = .int .i64 x13_3 ∧ Aside0 (laws_FnPrWider.l1 V_laws_prPlaces V_impl_PrPretty kq a1 t572 x12_3 x13_3 = some r) ∧ Aside0 (kq ≤ k2) ∧ Aside0 (Kd.R k53 53 w' w.heap.size (fun _ => True) (.slice Ao10 t559.length co10) t559) ∧ Aside0 (Kd.N k25 25 w' w.heap.size (fun k_ => some k_ ≠ ((.slice Ao10 t559.length co10) : Value).ownBlock ∧ k_ ≠ gb566) (.slice Ao11 t562.length co11) t562) ∧ Aside0 (w'.heap[gb566]? = some (.cells #[.int .i64 t556, .int .i64 t557, .int .i64 t558, (.slice Ao10 t559.length co10), (.slice Ao11 t562.length co11)] 25 (0, 0))) ∧ Aside0 (Below w.heap.size w w'))
          case atStart => exact ⟨(0), (0), Z8, Z8, H', ⟨Nat.le_refl _⟩, ⟨Z84⟩, ⟨by (with_reducible repeat (first | apply Kd.N_alloc | apply Kd.N_drewN | apply Kd.N_drew)); exact Kd.N_mono HO_567004.out (fun _ hk => ⟨hk.2.1, hk.2.2⟩)⟩, ⟨Z42⟩, ⟨Z24⟩⟩
          case round =>
           clear H'
           try clear c4
           try clear c4b0
           try clear c4b1
           try clear c16
           try clear c21
           try clear c21b0
           try clear c35
           try clear c35b0
           try clear c35b1
           try clear c36
           try clear c36b0
           try clear c36b1
           try clear hcz18_0
           try clear hcz18_1
           try clear hcz18_2
           try clear hcz18_3
           try clear hcz18_4
           try clear hcz9_0
           try clear hcz9_1
           try clear hcz9_2
           try clear hcz9_3
           try clear hcz9_4
           try clear hfz18_0
           try clear hfz18_1
           try clear hfz18_2
           try clear hfz18_3
           try clear hfz18_4
           try clear hfz9_0
           try clear hfz9_1
           try clear hfz9_2
           try clear hfz9_3
           try clear hfz9_4
           obtain ⟨x12_3, x13_3, rfl, rfl, HA, HK3, HO_567003, HO_567004, BK566, HB⟩ := hrel
           cases gk with
           | zero => exact absurd HA.out (by simp [laws_FnPrWider.l1])
           | succ k3 =>
            have H := HA.out
            clear HA
            simp only [laws_FnPrWider.l1] at H
            by_cases c39 : x13_3 < (t572.size : Int)
            ·rw [if_pos c39] at H
             have c39b0 : decide (x13_3 < (t572.size : Int)) = true := decide_eq_true c39
             clear c39
             by_cases c40 : 0 ≤ x13_3
             ·rw [if_pos c40] at H
              have c40b0 : decide (0 ≤ x13_3) = true := decide_eq_true c40
              clear c40
              by_cases c42 : (bt t572 x13_3) = 10
              ·rw [if_pos c42] at H
               have c42b0 : ((bt t572 x13_3) == 10) = true := beq_iff_eq.mpr c42
               have c42b1 : ((bt t572 x13_3) != 10) = false := bne_eq_false_iff_eq.mpr c42
               clear c42
               by_cases c43 : (wrap64 (x13_3 - x12_3)) > (wrap64 (a1 + 1))
               ·rw [if_pos c43] at H
                have c43b0 : decide ((wrap64 (a1 + 1)) < (wrap64 (x13_3 - x12_3))) = true := decide_eq_true c43
                clear c43
                by_cases c44 : 0 ≤ x12_3
                ·rw [if_pos c44] at H
                 have c44b0 := eq_true c44
                 have c44b1 : decide (0 ≤ x12_3) = true := decide_eq_true c44
                 clear c44
                 by_cases c45 : x12_3 ≤ x13_3
                 ·rw [if_pos c45] at H
                  have c45b0 := eq_true c45
                  have c45b1 : decide (x12_3 ≤ x13_3) = true := decide_eq_true c45
                  clear c45
                  by_cases c46 : x13_3 ≤ (t572.size : Int)
                  ·rw [if_pos c46] at H
                   have c46b0 := eq_true c46
                   have c46b1 : decide (x13_3 ≤ (t572.size : Int)) = true := decide_eq_true c46
                   clear c46
                   replace H := Option.bind_eq_some_iff.mp H
                   obtain ⟨t573, A470, H⟩ := H
                   replace H : (if t573 = true then (some false) else (laws_FnPrWider.l1 V_laws_prPlaces V_impl_PrPretty k3 a1 t572 (wrap64 (x13_3 + 1)) (wrap64 (x13_3 + 1)))) = some r := H
                   have A47 := Aside0.mk A470
                   clear A470
                   by_cases c48 : t573 = true
                   ·subst c48
                    have H1 : (some false) = some r := Z52
                    clear H
                    have H := H1
                    clear H1
                    ·
                     obtain rfl := Option.some.inj H
                     have p41 : 0 ≤ (x13_3 : Int) := of_decide_eq_true Z6
                     have q41 : x13_3 < (t572.size : Int) := of_decide_eq_true Z6
                     have hx41 := bt_at t572 x13_3
                     replace p41 := eq_true p41
                     replace q41 := eq_true q41
                     go_wp2_with (first | (go_at_call 9; (with_reducible refine (laws_prHasArray.calls k3 (t572.extract (x12_3 : Int).toNat (x13_3 : Int).toNat) true _ A47.out).mono ?_); rintro e w' ⟨rfl, ⟨nd, rfl⟩⟩))
                     go_ret
                     exact ⟨Z7, Z24⟩
                   ·replace c48 := Bool.eq_false_iff.mpr c48
                    subst c48
                    have H1 : (laws_FnPrWider.l1 V_laws_prPlaces V_impl_PrPretty k3 a1 t572 (wrap64 (x13_3 + 1)) (wrap64 (x13_3 + 1))) = some r := Z31
                    clear H
                    have H := H1
                    clear H1
                    ·
                     have H' := Aside0.mk H
                     clear H
                     have p41 : 0 ≤ (x13_3 : Int) := of_decide_eq_true Z6
                     have q41 : x13_3 < (t572.size : Int) := of_decide_eq_true Z6
                     have hx41 := bt_at t572 x13_3
                     replace p41 := eq_true p41
                     replace q41 := eq_true q41
                     go_wp2_with (first | (go_at_call 9; (with_reducible refine (laws_prHasArray.calls k3 (t572.extract (x12_3 : Int).toNat (x13_3 : Int).toNat) false _ A47.out).mono ?_); rintro e w' ⟨rfl, ⟨nd, rfl⟩⟩))
                     go_roundg k3
                     case measure => have := HJ5.out; have := HK2.out; have := HK3.out; omega
                     case rel => exact ⟨(wrap64 (x13_3 + 1)), (wrap64 (x13_3 + 1)), Z8, Z8, H', ⟨by have := HJ5.out; have := HK2.out; have := HK3.out; omega⟩, ⟨Z84⟩, ⟨Z128⟩, ⟨Z42⟩, ⟨Z24⟩⟩
                  ·rw [if_neg c46] at H
                   exact absurd H (by simp)
                 ·rw [if_neg c45] at H
                  exact absurd H (by simp)
                ·rw [if_neg c44] at H
                 exact absurd H (by simp)
               ·rw [if_neg c43] at H
                have c43b0 : decide ((wrap64 (a1 + 1)) < (wrap64 (x13_3 - x12_3))) = false := decide_eq_false c43
                clear c43
                ·
                 have H' := Aside0.mk H
                 clear H
                 have p41 : 0 ≤ (x13_3 : Int) := of_decide_eq_true Z6
                 have q41 : x13_3 < (t572.size : Int) := of_decide_eq_true Z6
                 have hx41 := bt_at t572 x13_3
                 replace p41 := eq_true p41
                 replace q41 := eq_true q41
                 go_wp2
                 go_roundg k3
                 case measure => have := HJ5.out; have := HK2.out; have := HK3.out; omega
                 case rel => exact ⟨(wrap64 (x13_3 + 1)), (wrap64 (x13_3 + 1)), Z8, Z8, H', ⟨by have := HJ5.out; have := HK2.out; have := HK3.out; omega⟩, ⟨Z84⟩, ⟨Z128⟩, ⟨Z42⟩, ⟨Z24⟩⟩
              ·rw [if_neg c42] at H
               have c42b0 : ((bt t572 x13_3) == 10) = false := beq_eq_false_iff_ne.mpr c42
               have c42b1 : ((bt t572 x13_3) != 10) = true := bne_iff_ne.mpr c42
               ·
                have H' := Aside0.mk H
                clear H
                have p41 : 0 ≤ (x13_3 : Int) := of_decide_eq_true Z6
                have q41 : x13_3 < (t572.size : Int) := of_decide_eq_true Z6
                have hx41 := bt_at t572 x13_3
                replace p41 := eq_true p41
                replace q41 := eq_true q41
                go_wp2
                go_roundg k3
                case measure => have := HJ5.out; have := HK2.out; have := HK3.out; omega
                case rel => exact ⟨(x12_3), (wrap64 (x13_3 + 1)), Z8, Z8, H', ⟨by have := HJ5.out; have := HK2.out; have := HK3.out; omega⟩, ⟨Z84⟩, ⟨Z128⟩, ⟨Z42⟩, ⟨Z24⟩⟩
             ·rw [if_neg c40] at H
              exact absurd H (by simp)
            ·rw [if_neg c39] at H
             have c39b0 : decide (x13_3 < (t572.size : Int)) = false := decide_eq_false c39
             clear c39
             by_cases c49 : t572.toList = ([] : List UInt8)
             ·rw [if_pos c49] at H
              have c49b0 : (t572.toList == ([] : List UInt8)) = true := beq_iff_eq.mpr c49
              have c49b1 : (t572.toList != ([] : List UInt8)) = false := bne_eq_false_iff_eq.mpr c49
              clear c49
              ·
               obtain rfl := Option.some.inj H
               go_wp2
               go_ret
               exact ⟨Z7, Z24⟩
             ·rw [if_neg c49] at H
              have c49b0 : (t572.toList == ([] : List UInt8)) = false := beq_eq_false_iff_ne.mpr c49
              have c49b1 : (t572.toList != ([] : List UInt8)) = true := bne_iff_ne.mpr c49
              ·
               obtain rfl := Option.some.inj H
               go_wp2
               go_ret
               exact ⟨Z7, Z24⟩
         ·rw [if_neg c36] at H
          exact absurd H (by simp)
        ·rw [if_neg c35] at H
         exact absurd H (by simp)
end Go.Proofs.Ytkbeiidjagodnaa.Pr

-- written by a program of this session (wip/tools), for this seat
import Derived.Test.YtkbeiidjagodnaaVall
import Derived.Test.YtkbeiidjagodnaaPrx0
import Derived.Test.YtkbeiidjagodnaaHa
import Derived.Test.YtkbeiidjagodnaaPrx9f
import Derived.Test.YtkbeiidjagodnaaPrx10
import Derived.Test.YtkbeiidjagodnaaPrx9z
namespace Go.Proofs.Ytkbeiidjagodnaa.Pr
open Go.RowKit Go.Proofs.YtkbeiidjagodnaaW.PrintWords Go.Proofs.YtkbeiidjagodnaaW.PrintLast Go.Proofs.YtkbeiidjagodnaaW.PrintMore
set_option linter.unusedVariables false
set_option linter.unusedSimpArgs false
attribute [local go_sem] max2_int min2_int max_two min_two max_three min_three max_four min_four   -- for this text's walks alone
/-! ### laws_FnPrWidthRoot: function 4 -/
mutual
def laws_FnPrWidthRoot.j0 (V_laws_prPlaces : H_laws_prPlaces) (V_impl_PrPretty : H_impl_PrPretty) (V_spec_Laid : H_spec_Laid) : Nat → ByteArray → Bool → Int → ByteArray → ByteArray → Bool → Option (Bool)
 | 0, _, _, _, _, _, _ => none
 | k + 1, x0, x16, x699000, x699001, x699002, x699003 => if x16 = true then (some true) else ((V_laws_prPlaces.f k x0).bind fun bt700 => (if bt700.2.2.2.2.2 = true then ((laws_prFlatArray.f k bt700.1 bt700.2.1 bt700.2.2.1 bt700.2.2.2.1 bt700.2.2.2.2.1).bind fun t711 => (if t711 = true then ((laws_prBlank.f k x699000 x699001 x699002 x699003).bind fun t712 => (if t712 = true then (if x699003 = true then (laws_FnPrWidthRoot.j1 V_laws_prPlaces V_impl_PrPretty V_spec_Laid k x0 true x699000 x699001 x699002 x699003 bt700.1 bt700.2.1 bt700.2.2.1 bt700.2.2.2.1 bt700.2.2.2.2.1) else (if x699000 > 1073741824 then (laws_FnPrWidthRoot.j1 V_laws_prPlaces V_impl_PrPretty V_spec_Laid k x0 true x699000 x699001 x699002 x699003 bt700.1 bt700.2.1 bt700.2.2.1 bt700.2.2.2.1 bt700.2.2.2.2.1) else (laws_FnPrWidthRoot.j1 V_laws_prPlaces V_impl_PrPretty V_spec_Laid k x0 (decide (x699000 < 0)) x699000 x699001 x699002 x699003 bt700.1 bt700.2.1 bt700.2.2.1 bt700.2.2.2.1 bt700.2.2.2.2.1))) else (laws_FnPrWidthRoot.j1 V_laws_prPlaces V_impl_PrPretty V_spec_Laid k x0 true x699000 x699001 x699002 x699003 bt700.1 bt700.2.1 bt700.2.2.1 bt700.2.2.2.1 bt700.2.2.2.2.1))) else (laws_FnPrWidthRoot.j1 V_laws_prPlaces V_impl_PrPretty V_spec_Laid k x0 true x699000 x699001 x699002 x699003 bt700.1 bt700.2.1 bt700.2.2.1 bt700.2.2.2.1 bt700.2.2.2.2.1))) else (laws_FnPrWidthRoot.j1 V_laws_prPlaces V_impl_PrPretty V_spec_Laid k x0 true x699000 x699001 x699002 x699003 bt700.1 bt700.2.1 bt700.2.2.1 bt700.2.2.2.1 bt700.2.2.2.2.1)))
def laws_FnPrWidthRoot.j1 (V_laws_prPlaces : H_laws_prPlaces) (V_impl_PrPretty : H_impl_PrPretty) (V_spec_Laid : H_spec_Laid) : Nat → ByteArray → Bool → Int → ByteArray → ByteArray → Bool → Int → Int → Int → List (S53) → List (S25) → Option (Bool)
 | 0, _, _, _, _, _, _, _, _, _, _, _ => none
 | k + 1, x0, x47, x699000, x699001, x699002, x699003, x711000, x711001, x711002, x711003, x711004 => if x47 = true then (some true) else ((V_spec_Laid.f k x0 x711000 x711001 x711002 x711003 x711004 (⟨#[]⟩ : ByteArray) (⟨#[]⟩ : ByteArray) true).bind fun t713 => (if (wrap64 (x699000 - (x699001.size : Int))) > 3 then (laws_FnPrWidthRoot.j2 V_laws_prPlaces V_impl_PrPretty V_spec_Laid k x0 t713 (decide ((wrap64 ((t713.size : Int) - 1)) ≤ (wrap64 (x699000 - (x699001.size : Int))))) x699000 x699001 x699002 x699003 x711000 x711001 x711002 x711003 x711004) else (laws_FnPrWidthRoot.j2 V_laws_prPlaces V_impl_PrPretty V_spec_Laid k x0 t713 false x699000 x699001 x699002 x699003 x711000 x711001 x711002 x711003 x711004)))
def laws_FnPrWidthRoot.j2 (V_laws_prPlaces : H_laws_prPlaces) (V_impl_PrPretty : H_impl_PrPretty) (V_spec_Laid : H_spec_Laid) : Nat → ByteArray → ByteArray → Bool → Int → ByteArray → ByteArray → Bool → Int → Int → Int → List (S53) → List (S25) → Option (Bool)
 | 0, _, _, _, _, _, _, _, _, _, _, _, _ => none
 | k + 1, x0, x8, x65, x699000, x699001, x699002, x699003, x711000, x711001, x711002, x711003, x711004 => if x65 = true then ((V_impl_PrPretty.f k x0 x699000 x699001 x699002 x699003).bind fun t714 => (if x699001.size + x8.size ≤ 9223372036854775807 then (some (t714.toList == (x699001 ++ x8).toList)) else (none))) else ((V_impl_PrPretty.f k x0 x699000 x699001 x699002 x699003).bind fun t715 => ((V_spec_Laid.f k x0 x711000 x711001 x711002 x711003 x711004 x699001 x699002 false).bind fun t716 => (some (t715.toList == t716.toList))))
end
def laws_FnPrWidthRoot.f (V_laws_prPlaces : H_laws_prPlaces) (V_impl_PrPretty : H_impl_PrPretty) (V_spec_Laid : H_spec_Laid) (k : Nat) (a0 : ByteArray) (a1_0 : Int) (a1_1 : ByteArray) (a1_2 : ByteArray) (a1_3 : Bool) : Option (Bool) := if (a0.size : Int) > 2147483647 then (laws_FnPrWidthRoot.j0 V_laws_prPlaces V_impl_PrPretty V_spec_Laid k a0 true a1_0 a1_1 a1_2 a1_3) else ((laws_zzFits7.f a1_0 a1_1 a1_2 a1_3).bind fun t699 => (laws_FnPrWidthRoot.j0 V_laws_prPlaces V_impl_PrPretty V_spec_Laid k a0 (!t699) a1_0 a1_1 a1_2 a1_3))
def laws_FnPrWidthRoot.T9 : Bool × List (List Nat × List Nat) := (true, [([], []), ([], []), ([0, 1], [0, 1]), ([], []), ([3], [3]), ([], []), ([4, 5], [4, 5]), ([2, 6], [2, 6]), ([7, 2, 0, 1, 2, 3, 4, 5, 6, 7], [7])])
def laws_FnPrWidthRoot.B9 : List Nat := [0, 0, 3, 0, 8, 0, 56, 127, 255]
theorem laws_FnPrWidthRoot.tab9 : rtab .any (opsOf Try.f4 9) = laws_FnPrWidthRoot.T9 := by kernel_rfl
theorem laws_FnPrWidthRoot.bits9 : waitsOk laws_FnPrWidthRoot.T9.2 laws_FnPrWidthRoot.B9 = true := by kernel_rfl
def laws_FnPrWidthRoot.T10 : Bool × List (List Nat × List Nat) := (true, [([], []), ([], []), ([0, 1], [0, 1]), ([], []), ([], []), ([], []), ([5], [5]), ([], []), ([7], [7]), ([3, 4, 6, 8, 2], [3, 4, 6, 8]), ([2, 9], [2, 9]), ([10, 9, 0, 1, 2, 3, 4, 5, 6, 7, 8, 9, 10], [10])])
def laws_FnPrWidthRoot.B10 : List Nat := [0, 0, 3, 0, 0, 0, 32, 0, 128, 511, 1023, 2047]
theorem laws_FnPrWidthRoot.tab10 : rtab .any (opsOf Try.f4 10) = laws_FnPrWidthRoot.T10 := by kernel_rfl
theorem laws_FnPrWidthRoot.bits10 : waitsOk laws_FnPrWidthRoot.T10.2 laws_FnPrWidthRoot.B10 = true := by kernel_rfl
set_option maxHeartbeats 8000000 in
set_option maxRecDepth 100000 in
theorem laws_FnPrWidthRoot.calls (V_laws_prPlaces : H_laws_prPlaces) (V_impl_PrPretty : H_impl_PrPretty) (V_spec_Laid : H_spec_Laid) (k : Nat) (a0 : ByteArray) (a1_0 : Int) (a1_1 : ByteArray) (a1_2 : ByteArray) (a1_3 : Bool) (r : Bool) (w : World) (h : laws_FnPrWidthRoot.f V_laws_prPlaces V_impl_PrPretty V_spec_Laid k a0 a1_0 a1_1 a1_2 a1_3 = some r) :
  Calls Try.prog 4 #[.string a0, .agg #[.int .i64 a1_0, .string a1_1, .string a1_2, .bool a1_3]] w fun e w' => e = .returned (.bool r) ∧ Below w.heap.size w w' := by
 have hu31 := Try.underlying31
 have hu25 := Try.underlying25
 have HB := Aside0.mk (Below.refl w.heap.size w)
 have H : (if (a0.size : Int) > 2147483647 then (laws_FnPrWidthRoot.j0 V_laws_prPlaces V_impl_PrPretty V_spec_Laid k a0 true a1_0 a1_1 a1_2 a1_3) else ((laws_zzFits7.f a1_0 a1_1 a1_2 a1_3).bind fun t699 => (laws_FnPrWidthRoot.j0 V_laws_prPlaces V_impl_PrPretty V_spec_Laid k a0 (!t699) a1_0 a1_1 a1_2 a1_3))) = some r := h
 clear h
 have HC3 := Aside0.mk H
 clear H
 go_enter Try.func4, Try.ntmps4
 go_upto_region 1 with (first | ((with_reducible refine gate_dst (N := 3) rfl ?_); (try (refine gate_guard (by rfl) ?_; dsimp only)); refine box_event ?hg (N := 3) ?hd (cs := #[.int .i64 a1_0, .string a1_1, .string a1_2, .bool a1_3]) (t := 31) ?hr ?_; (case hd => rfl); (case hg => rfl); (case hr => exact Z62); intro gb698 hg w4 hbox hb; have n0_ := Aside0.mk (below_step Z5 hb); have n1_ := Aside0.mk (hbox); have n2_ := Aside0.mk ((by rw [hg]; exact (below_size Z5) : w.heap.size ≤ gb698)); have n3_ := Aside0.mk ((by rw [hg]; exact (below_size Z5) : w.heap.size ≤ gb698)); clear HB; have HB := n0_; have BK698 := n1_; have GW698 := n2_; have GE698 := n3_; clear n0_ n1_ n2_ n3_; clear hb hbox hg))
 (try simp only [Act.put, List.setIfInBounds_toArray, List.set_cons_zero, List.set_cons_succ])
 go_cut [16] from 1 to 0 (fun v16 wc => ∃ (kq : Nat) (x16_2 : Bool), v16 = .bool x16_2 ∧ Aside0 (laws_FnPrWidthRoot.j0 V_laws_prPlaces V_impl_PrPretty V_spec_Laid kq a0 x16_2 a1_0 a1_1 a1_2 a1_3 = some r) ∧ Aside0 (kq ≤ k) ∧ Aside0 (wc.heap[gb698]? = some (.cells #[.int .i64 a1_0, .string a1_1, .string a1_2, .bool a1_3] 31 (0, 0))) ∧ Aside0 (Below w.heap.size w wc))
 case first =>
  have H := HC3.out
  clear HC3
  by_cases c5 : (a0.size : Int) > 2147483647
  ·rw [if_pos c5] at H
   have c5b0 : decide (2147483647 < (a0.size : Int)) = true := decide_eq_true c5
   have c5b1 : decide (2147483647 < a0.size) = true := decide_eq_true (by omega)
   clear c5
   (first | rw [c5b0] | (simp only [i64_w, i32_w]; rw [c5b0]) | skip)
   ·
    have H' := Aside0.mk H
    clear H
    go_wp2
    go_meet
    case rel => exact ⟨_, (true), Z16, H', ⟨Z88⟩, ⟨Z55⟩, ⟨Z64⟩⟩
  ·rw [if_neg c5] at H
   have c5b0 : decide (2147483647 < (a0.size : Int)) = false := decide_eq_false c5
   have c5b1 : decide (2147483647 < a0.size) = false := decide_eq_false (by omega)
   clear c5
   (first | rw [c5b0] | (simp only [i64_w, i32_w]; rw [c5b0]) | skip)
   replace H := Option.bind_eq_some_iff.mp H
   obtain ⟨t699, A60, H⟩ := H
   replace H : (laws_FnPrWidthRoot.j0 V_laws_prPlaces V_impl_PrPretty V_spec_Laid k a0 (!t699) a1_0 a1_1 a1_2 a1_3) = some r := H
   have A6 := Aside0.mk A60
   clear A60
   ·
    have H' := Aside0.mk H
    clear H
    have hcz7_0 : w4.cell? ⟨gb698, 0, none⟩ = some (.int .i64 a1_0) := (blk_cell BK698.out 0).trans rfl
    have hcz7_1 : w4.cell? ⟨gb698, 1, none⟩ = some (.string a1_1) := (blk_cell BK698.out 1).trans rfl
    have hcz7_2 : w4.cell? ⟨gb698, 2, none⟩ = some (.string a1_2) := (blk_cell BK698.out 2).trans rfl
    have hcz7_3 : w4.cell? ⟨gb698, 3, none⟩ = some (.bool a1_3) := (blk_cell BK698.out 3).trans rfl
    have hfz7_0 := blk_frozen BK698.out 0
    have hfz7_1 := blk_frozen BK698.out 1
    have hfz7_2 := blk_frozen BK698.out 2
    have hfz7_3 := blk_frozen BK698.out 3
    go_wp2_with (first | (go_at_call 10; (with_reducible refine (laws_zzFits7.calls a1_0 a1_1 a1_2 a1_3 t699 _ A6.out).mono ?_); rintro e w8 ⟨rfl, hb⟩; have n0_ := Aside0.mk (blk_below (g := gb698) (o := .cells #[.int .i64 a1_0, .string a1_1, .string a1_2, .bool a1_3] 31 (0, 0)) Z55 hb); have n1_ := Aside0.mk (below_step Z64 hb); clear BK698; clear HB; have BK698 := n0_; have HB := n1_; clear n0_ n1_; (try clear hb); (try clear hb2); (try clear hk); (try clear hi)))
    go_meet
    case rel => exact ⟨_, (!t699), Z16, H', ⟨Z88⟩, ⟨Z55⟩, ⟨Z64⟩⟩
 case rest =>
  clear HC3
  obtain ⟨kq, x16_2, rfl, HA, HJ2, BK698, HB⟩ := hcut
  cases kq with
  | zero => exact absurd HA.out (by simp [laws_FnPrWidthRoot.j0])
  | succ kj2 =>
   have H := HA.out
   clear HA
   simp only [laws_FnPrWidthRoot.j0] at H
   by_cases c9 : x16_2 = true
   ·subst c9
    have H1 : (some true) = some r := Z61
    clear H
    have H := H1
    clear H1
    ·
     obtain rfl := Option.some.inj H
     go_wp2
     go_ret
     exact ⟨Z15, Z64⟩
   ·replace c9 := Bool.eq_false_iff.mpr c9
    subst c9
    have H1 : ((V_laws_prPlaces.f kj2 a0).bind fun bt700 => (if bt700.2.2.2.2.2 = true then ((laws_prFlatArray.f kj2 bt700.1 bt700.2.1 bt700.2.2.1 bt700.2.2.2.1 bt700.2.2.2.2.1).bind fun t711 => (if t711 = true then ((laws_prBlank.f kj2 a1_0 a1_1 a1_2 a1_3).bind fun t712 => (if t712 = true then (if a1_3 = true then (laws_FnPrWidthRoot.j1 V_laws_prPlaces V_impl_PrPretty V_spec_Laid kj2 a0 true a1_0 a1_1 a1_2 a1_3 bt700.1 bt700.2.1 bt700.2.2.1 bt700.2.2.2.1 bt700.2.2.2.2.1) else (if a1_0 > 1073741824 then (laws_FnPrWidthRoot.j1 V_laws_prPlaces V_impl_PrPretty V_spec_Laid kj2 a0 true a1_0 a1_1 a1_2 a1_3 bt700.1 bt700.2.1 bt700.2.2.1 bt700.2.2.2.1 bt700.2.2.2.2.1) else (laws_FnPrWidthRoot.j1 V_laws_prPlaces V_impl_PrPretty V_spec_Laid kj2 a0 (decide (a1_0 < 0)) a1_0 a1_1 a1_2 a1_3 bt700.1 bt700.2.1 bt700.2.2.1 bt700.2.2.2.1 bt700.2.2.2.2.1))) else (laws_FnPrWidthRoot.j1 V_laws_prPlaces V_impl_PrPretty V_spec_Laid kj2 a0 true a1_0 a1_1 a1_2 a1_3 bt700.1 bt700.2.1 bt700.2.2.1 bt700.2.2.2.1 bt700.2.2.2.2.1))) else (laws_FnPrWidthRoot.j1 V_laws_prPlaces V_impl_PrPretty V_spec_Laid kj2 a0 true a1_0 a1_1 a1_2 a1_3 bt700.1 bt700.2.1 bt700.2.2.1 bt700.2.2.2.1 bt700.2.2.2.2.1))) else (laws_FnPrWidthRoot.j1 V_laws_prPlaces V_impl_PrPretty V_spec_Laid kj2 a0 true a1_0 a1_1 a1_2 a1_3 bt700.1 bt700.2.1 bt700.2.2.1 bt700.2.2.2.1 bt700.2.2.2.2.1))) = some r := Z34
    clear H
    have H := H1
    clear H1
    replace H := Option.bind_eq_some_iff.mp H
    obtain ⟨⟨t700, t701, t702, t703, t706, t709⟩, A100, H⟩ := H
    replace H : (if t709 = true then ((laws_prFlatArray.f kj2 t700 t701 t702 t703 t706).bind fun t711 => (if t711 = true then ((laws_prBlank.f kj2 a1_0 a1_1 a1_2 a1_3).bind fun t712 => (if t712 = true then (if a1_3 = true then (laws_FnPrWidthRoot.j1 V_laws_prPlaces V_impl_PrPretty V_spec_Laid kj2 a0 true a1_0 a1_1 a1_2 a1_3 t700 t701 t702 t703 t706) else (if a1_0 > 1073741824 then (laws_FnPrWidthRoot.j1 V_laws_prPlaces V_impl_PrPretty V_spec_Laid kj2 a0 true a1_0 a1_1 a1_2 a1_3 t700 t701 t702 t703 t706) else (laws_FnPrWidthRoot.j1 V_laws_prPlaces V_impl_PrPretty V_spec_Laid kj2 a0 (decide (a1_0 < 0)) a1_0 a1_1 a1_2 a1_3 t700 t701 t702 t703 t706))) else (laws_FnPrWidthRoot.j1 V_laws_prPlaces V_impl_PrPretty V_spec_Laid kj2 a0 true a1_0 a1_1 a1_2 a1_3 t700 t701 t702 t703 t706))) else (laws_FnPrWidthRoot.j1 V_laws_prPlaces V_impl_PrPretty V_spec_Laid kj2 a0 true a1_0 a1_1 a1_2 a1_3 t700 t701 t702 t703 t706))) else (laws_FnPrWidthRoot.j1 V_laws_prPlaces V_impl_PrPretty V_spec_Laid kj2 a0 true a1_0 a1_1 a1_2 a1_3 t700 t701 t702 t703 t706)) = some r := H
    have A10 := Aside0.mk A100
    clear A100
    have HC11 := Aside0.mk H
    clear H
    go_upto_region 4 with (first | ((with_reducible refine gate_callee (f := 6) rfl ?_); refine goesL_ (some 19) rfl rfl Try.func6 (by kernel_rfl) rfl #[.string a0] rfl Z13 ?_; (with_reducible refine (V_laws_prPlaces.calls kj2 a0 t700 t701 t702 t703 t706 t709 _ A10.out).mono ?_); rintro e w12 ⟨v704, v707, rfl, ho0, ho1, hb⟩; refine ⟨_, rfl, ?_⟩; have n0_ := Aside0.mk (Kd.R_lower ho0 (below_size Z64)); have n1_ := Aside0.mk (Kd.R_lower ho1 (below_size Z64)); have n2_ := Aside0.mk (blk_below (g := gb698) (o := .cells #[.int .i64 a1_0, .string a1_1, .string a1_2, .bool a1_3] 31 (0, 0)) Z55 hb); have n3_ := Aside0.mk (below_step Z64 hb); clear BK698; clear HB; have HO705 := n0_; have HO708 := n1_; have BK698 := n2_; have HB := n3_; clear n0_ n1_ n2_ n3_; (try clear hb); (try clear hb2); (try clear hk); (try clear hi); (try clear ho0); (try clear ho1)) | ((with_reducible refine gate_dst (N := 5) rfl ?_); (try (refine gate_guard (by rfl) ?_; dsimp only)); refine box_event ?hg (N := 5) ?hd (cs := #[.int .i64 0, .int .i64 0, .int .i64 0, .slice none 0 0, .slice none 0 0]) (t := 25) ?hr ?_; (case hd => rfl); (case hg => rfl); (case hr => exact Z62); intro gb710 hg w13 hbox hb; have n0_ := Aside0.mk (Kd.R_below Z119 hb); have n1_ := Aside0.mk (Kd.R_below (Kd.R_elderB Z118 gb710 (Nat.le_of_eq hg.symm)) hb); have n2_ := Aside0.mk (blk_below (g := gb698) (o := .cells #[.int .i64 a1_0, .string a1_1, .string a1_2, .bool a1_3] 31 (0, 0)) Z55 hb); have n3_ := Aside0.mk (below_step Z64 hb); have n4_ := Aside0.mk (hbox); have n5_ := Aside0.mk ((by rw [hg]; exact (below_size Z64) : w.heap.size ≤ gb710)); have n6_ := Aside0.mk ((by rw [hg]; exact (below_size Z64) : w.heap.size ≤ gb710)); have n7_ := Aside0.mk ((by rw [hg]; exact Nat.ne_of_lt (blk_lt (g := gb698) (o := .cells #[.int .i64 a1_0, .string a1_1, .string a1_2, .bool a1_3] 31 (0, 0)) Z55) : gb698 ≠ gb710)); have n8_ := Aside0.mk ((by rw [hg]; exact Nat.ne_of_gt (blk_lt (g := gb698) (o := .cells #[.int .i64 a1_0, .string a1_1, .string a1_2, .bool a1_3] 31 (0, 0)) Z55) : gb710 ≠ gb698)); clear HO705; clear HO708; clear BK698; clear HB; have HO705 := n0_; have HO708 := n1_; have BK698 := n2_; have HB := n3_; have BK710 := n4_; have GW710 := n5_; have GE710 := n6_; have NB698_710 := n7_; have NB710_698 := n8_; clear n0_ n1_ n2_ n3_ n4_ n5_ n6_ n7_ n8_; clear hb hbox hg; have hnb14 := NB710_698.out; have hnc14 := NB698_710.out; have hcz15_0 : w13.cell? ⟨gb710, 0, none⟩ = some (.int .i64 0) := (blk_cell BK710.out 0).trans rfl; have hcz15_1 : w13.cell? ⟨gb710, 1, none⟩ = some (.int .i64 0) := (blk_cell BK710.out 1).trans rfl; have hcz15_2 : w13.cell? ⟨gb710, 2, none⟩ = some (.int .i64 0) := (blk_cell BK710.out 2).trans rfl; have hcz15_3 : w13.cell? ⟨gb710, 3, none⟩ = some (.slice none 0 0) := (blk_cell BK710.out 3).trans rfl; have hcz15_4 : w13.cell? ⟨gb710, 4, none⟩ = some (.slice none 0 0) := (blk_cell BK710.out 4).trans rfl; have hfz15_0 := blk_frozen BK710.out 0; have hfz15_1 := blk_frozen BK710.out 1; have hfz15_2 := blk_frozen BK710.out 2; have hfz15_3 := blk_frozen BK710.out 3; have hfz15_4 := blk_frozen BK710.out 4; obtain ⟨Ao16, co16, eo16⟩ := Kd.R_slice HO705.out; subst eo16; obtain ⟨Ao17, co17, eo17⟩ := Kd.R_slice HO708.out; subst eo17))
    (try simp only [Act.put, List.setIfInBounds_toArray, List.set_cons_zero, List.set_cons_succ])
    go_cut [47] from 17 to 21 (fun v47 wc => ∃ (kq : Nat) (x47_10 : Bool), v47 = .bool x47_10 ∧ Aside0 (laws_FnPrWidthRoot.j1 V_laws_prPlaces V_impl_PrPretty V_spec_Laid kq a0 x47_10 a1_0 a1_1 a1_2 a1_3 t700 t701 t702 t703 t706 = some r) ∧ Aside0 (kq ≤ kj2) ∧ Aside0 (Kd.R k53 53 wc w.heap.size (fun _ => True) (.slice Ao16 t703.length co16) t703) ∧ Aside0 (Kd.R k25 25 wc w.heap.size (fun k_ => some k_ ≠ ((.slice Ao16 t703.length co16) : Value).ownBlock ∧ k_ ≠ gb710) (.slice Ao17 t706.length co17) t706) ∧ Aside0 (wc.heap[gb698]? = some (.cells #[.int .i64 a1_0, .string a1_1, .string a1_2, .bool a1_3] 31 (0, 0))) ∧ Aside0 (wc.heap[gb710]? = some (.cells #[.int .i64 t700, .int .i64 t701, .int .i64 t702, (.slice Ao16 t703.length co16), (.slice Ao17 t706.length co17)] 25 (0, 0))) ∧ Aside0 (Below w.heap.size w wc))
    case first =>
     have H := HC11.out
     clear HC11
     by_cases c18 : t709 = true
     ·subst c18
      have H1 : ((laws_prFlatArray.f kj2 t700 t701 t702 t703 t706).bind fun t711 => (if t711 = true then ((laws_prBlank.f kj2 a1_0 a1_1 a1_2 a1_3).bind fun t712 => (if t712 = true then (if a1_3 = true then (laws_FnPrWidthRoot.j1 V_laws_prPlaces V_impl_PrPretty V_spec_Laid kj2 a0 true a1_0 a1_1 a1_2 a1_3 t700 t701 t702 t703 t706) else (if a1_0 > 1073741824 then (laws_FnPrWidthRoot.j1 V_laws_prPlaces V_impl_PrPretty V_spec_Laid kj2 a0 true a1_0 a1_1 a1_2 a1_3 t700 t701 t702 t703 t706) else (laws_FnPrWidthRoot.j1 V_laws_prPlaces V_impl_PrPretty V_spec_Laid kj2 a0 (decide (a1_0 < 0)) a1_0 a1_1 a1_2 a1_3 t700 t701 t702 t703 t706))) else (laws_FnPrWidthRoot.j1 V_laws_prPlaces V_impl_PrPretty V_spec_Laid kj2 a0 true a1_0 a1_1 a1_2 a1_3 t700 t701 t702 t703 t706))) else (laws_FnPrWidthRoot.j1 V_laws_prPlaces V_impl_PrPretty V_spec_Laid kj2 a0 true a1_0 a1_1 a1_2 a1_3 t700 t701 t702 t703 t706))) = some r := Z61
      clear H
      have H := H1
      clear H1
      replace H := Option.bind_eq_some_iff.mp H
      obtain ⟨t711, A190, H⟩ := H
      replace H : (if t711 = true then ((laws_prBlank.f kj2 a1_0 a1_1 a1_2 a1_3).bind fun t712 => (if t712 = true then (if a1_3 = true then (laws_FnPrWidthRoot.j1 V_laws_prPlaces V_impl_PrPretty V_spec_Laid kj2 a0 true a1_0 a1_1 a1_2 a1_3 t700 t701 t702 t703 t706) else (if a1_0 > 1073741824 then (laws_FnPrWidthRoot.j1 V_laws_prPlaces V_impl_PrPretty V_spec_Laid kj2 a0 true a1_0 a1_1 a1_2 a1_3 t700 t701 t702 t703 t706) else (laws_FnPrWidthRoot.j1 V_laws_prPlaces V_impl_PrPretty V_spec_Laid kj2 a0 (decide (a1_0 < 0)) a1_0 a1_1 a1_2 a1_3 t700 t701 t702 t703 t706))) else (laws_FnPrWidthRoot.j1 V_laws_prPlaces V_impl_PrPretty V_spec_Laid kj2 a0 true a1_0 a1_1 a1_2 a1_3 t700 t701 t702 t703 t706))) else (laws_FnPrWidthRoot.j1 V_laws_prPlaces V_impl_PrPretty V_spec_Laid kj2 a0 true a1_0 a1_1 a1_2 a1_3 t700 t701 t702 t703 t706)) = some r := H
      have A19 := Aside0.mk A190
      clear A190
      by_cases c20 : t711 = true
      ·subst c20
       have H1 : ((laws_prBlank.f kj2 a1_0 a1_1 a1_2 a1_3).bind fun t712 => (if t712 = true then (if a1_3 = true then (laws_FnPrWidthRoot.j1 V_laws_prPlaces V_impl_PrPretty V_spec_Laid kj2 a0 true a1_0 a1_1 a1_2 a1_3 t700 t701 t702 t703 t706) else (if a1_0 > 1073741824 then (laws_FnPrWidthRoot.j1 V_laws_prPlaces V_impl_PrPretty V_spec_Laid kj2 a0 true a1_0 a1_1 a1_2 a1_3 t700 t701 t702 t703 t706) else (laws_FnPrWidthRoot.j1 V_laws_prPlaces V_impl_PrPretty V_spec_Laid kj2 a0 (decide (a1_0 < 0)) a1_0 a1_1 a1_2 a1_3 t700 t701 t702 t703 t706))) else (laws_FnPrWidthRoot.j1 V_laws_prPlaces V_impl_PrPretty V_spec_Laid kj2 a0 true a1_0 a1_1 a1_2 a1_3 t700 t701 t702 t703 t706))) = some r := Z61
       clear H
       have H := H1
       clear H1
       replace H := Option.bind_eq_some_iff.mp H
       obtain ⟨t712, A210, H⟩ := H
       replace H : (if t712 = true then (if a1_3 = true then (laws_FnPrWidthRoot.j1 V_laws_prPlaces V_impl_PrPretty V_spec_Laid kj2 a0 true a1_0 a1_1 a1_2 a1_3 t700 t701 t702 t703 t706) else (if a1_0 > 1073741824 then (laws_FnPrWidthRoot.j1 V_laws_prPlaces V_impl_PrPretty V_spec_Laid kj2 a0 true a1_0 a1_1 a1_2 a1_3 t700 t701 t702 t703 t706) else (laws_FnPrWidthRoot.j1 V_laws_prPlaces V_impl_PrPretty V_spec_Laid kj2 a0 (decide (a1_0 < 0)) a1_0 a1_1 a1_2 a1_3 t700 t701 t702 t703 t706))) else (laws_FnPrWidthRoot.j1 V_laws_prPlaces V_impl_PrPretty V_spec_Laid kj2 a0 true a1_0 a1_1 a1_2 a1_3 t700 t701 t702 t703 t706)) = some r := H
       have A21 := Aside0.mk A210
       clear A210
       by_cases c22 : t712 = true
       ·subst c22
        have H1 : (if a1_3 = true then (laws_FnPrWidthRoot.j1 V_laws_prPlaces V_impl_PrPretty V_spec_Laid kj2 a0 true a1_0 a1_1 a1_2 a1_3 t700 t701 t702 t703 t706) else (if a1_0 > 1073741824 then (laws_FnPrWidthRoot.j1 V_laws_prPlaces V_impl_PrPretty V_spec_Laid kj2 a0 true a1_0 a1_1 a1_2 a1_3 t700 t701 t702 t703 t706) else (laws_FnPrWidthRoot.j1 V_laws_prPlaces V_impl_PrPretty V_spec_Laid kj2 a0 (decide (a1_0 < 0)) a1_0 a1_1 a1_2 a1_3 t700 t701 t702 t703 t706))) = some r := Z61
        clear H
        have H := H1
        clear H1
        by_cases c23 : a1_3 = true
        ·subst c23
         have H1 : (laws_FnPrWidthRoot.j1 V_laws_prPlaces V_impl_PrPretty V_spec_Laid kj2 a0 true a1_0 a1_1 a1_2 true t700 t701 t702 t703 t706) = some r := Z61
         clear H
         have H := H1
         clear H1
         ·
          have H' := Aside0.mk H
          clear H
          have hnb24 := NB710_698.out
          have hnc24 := NB698_710.out
          have hcz25_0 : w13.cell? ⟨gb710, 0, none⟩ = some (.int .i64 0) := (blk_cell BK710.out 0).trans rfl
          have hcz25_1 : w13.cell? ⟨gb710, 1, none⟩ = some (.int .i64 0) := (blk_cell BK710.out 1).trans rfl
          have hcz25_2 : w13.cell? ⟨gb710, 2, none⟩ = some (.int .i64 0) := (blk_cell BK710.out 2).trans rfl
          have hcz25_3 : w13.cell? ⟨gb710, 3, none⟩ = some (.slice none 0 0) := (blk_cell BK710.out 3).trans rfl
          have hcz25_4 : w13.cell? ⟨gb710, 4, none⟩ = some (.slice none 0 0) := (blk_cell BK710.out 4).trans rfl
          have hfz25_0 := blk_frozen BK710.out 0
          have hfz25_1 := blk_frozen BK710.out 1
          have hfz25_2 := blk_frozen BK710.out 2
          have hfz25_3 := blk_frozen BK710.out 3
          have hfz25_4 := blk_frozen BK710.out 4
          exact Z3
        ·replace c23 := Bool.eq_false_iff.mpr c23
         subst c23
         have H1 : (if a1_0 > 1073741824 then (laws_FnPrWidthRoot.j1 V_laws_prPlaces V_impl_PrPretty V_spec_Laid kj2 a0 true a1_0 a1_1 a1_2 false t700 t701 t702 t703 t706) else (laws_FnPrWidthRoot.j1 V_laws_prPlaces V_impl_PrPretty V_spec_Laid kj2 a0 (decide (a1_0 < 0)) a1_0 a1_1 a1_2 false t700 t701 t702 t703 t706)) = some r := Z34
         clear H
         have H := H1
         clear H1
         by_cases c30 : a1_0 > 1073741824
         ·rw [if_pos c30] at H
          have c30b0 : decide (1073741824 < a1_0) = true := decide_eq_true c30
          clear c30
          (first | rw [c30b0] | (simp only [i64_w, i32_w]; rw [c30b0]) | skip)
          ·
           have H' := Aside0.mk H
           clear H
           have hnb31 := NB710_698.out
           have hnc31 := NB698_710.out
           have hcz32_0 : w13.cell? ⟨gb710, 0, none⟩ = some (.int .i64 0) := (blk_cell BK710.out 0).trans rfl
           have hcz32_1 : w13.cell? ⟨gb710, 1, none⟩ = some (.int .i64 0) := (blk_cell BK710.out 1).trans rfl
           have hcz32_2 : w13.cell? ⟨gb710, 2, none⟩ = some (.int .i64 0) := (blk_cell BK710.out 2).trans rfl
           have hcz32_3 : w13.cell? ⟨gb710, 3, none⟩ = some (.slice none 0 0) := (blk_cell BK710.out 3).trans rfl
           have hcz32_4 : w13.cell? ⟨gb710, 4, none⟩ = some (.slice none 0 0) := (blk_cell BK710.out 4).trans rfl
           have hfz32_0 := blk_frozen BK710.out 0
           have hfz32_1 := blk_frozen BK710.out 1
           have hfz32_2 := blk_frozen BK710.out 2
           have hfz32_3 := blk_frozen BK710.out 3
           have hfz32_4 := blk_frozen BK710.out 4
           exact Z3
         ·rw [if_neg c30] at H
          have c30b0 : decide (1073741824 < a1_0) = false := decide_eq_false c30
          clear c30
          (first | rw [c30b0] | (simp only [i64_w, i32_w]; rw [c30b0]) | skip)
          ·
           have H' := Aside0.mk H
           clear H
           have hnb37 := NB710_698.out
           have hnc37 := NB698_710.out
           have hcz38_0 : w13.cell? ⟨gb710, 0, none⟩ = some (.int .i64 0) := (blk_cell BK710.out 0).trans rfl
           have hcz38_1 : w13.cell? ⟨gb710, 1, none⟩ = some (.int .i64 0) := (blk_cell BK710.out 1).trans rfl
           have hcz38_2 : w13.cell? ⟨gb710, 2, none⟩ = some (.int .i64 0) := (blk_cell BK710.out 2).trans rfl
           have hcz38_3 : w13.cell? ⟨gb710, 3, none⟩ = some (.slice none 0 0) := (blk_cell BK710.out 3).trans rfl
           have hcz38_4 : w13.cell? ⟨gb710, 4, none⟩ = some (.slice none 0 0) := (blk_cell BK710.out 4).trans rfl
           have hfz38_0 := blk_frozen BK710.out 0
           have hfz38_1 := blk_frozen BK710.out 1
           have hfz38_2 := blk_frozen BK710.out 2
           have hfz38_3 := blk_frozen BK710.out 3
           have hfz38_4 := blk_frozen BK710.out 4
           exact Z3
       ·replace c22 := Bool.eq_false_iff.mpr c22
        subst c22
        have H1 : (laws_FnPrWidthRoot.j1 V_laws_prPlaces V_impl_PrPretty V_spec_Laid kj2 a0 true a1_0 a1_1 a1_2 a1_3 t700 t701 t702 t703 t706) = some r := Z34
        clear H
        have H := H1
        clear H1
        ·
         have H' := Aside0.mk H
         clear H
         have hnb43 := NB710_698.out
         have hnc43 := NB698_710.out
         have hcz44_0 : w13.cell? ⟨gb710, 0, none⟩ = some (.int .i64 0) := (blk_cell BK710.out 0).trans rfl
         have hcz44_1 : w13.cell? ⟨gb710, 1, none⟩ = some (.int .i64 0) := (blk_cell BK710.out 1).trans rfl
         have hcz44_2 : w13.cell? ⟨gb710, 2, none⟩ = some (.int .i64 0) := (blk_cell BK710.out 2).trans rfl
         have hcz44_3 : w13.cell? ⟨gb710, 3, none⟩ = some (.slice none 0 0) := (blk_cell BK710.out 3).trans rfl
         have hcz44_4 : w13.cell? ⟨gb710, 4, none⟩ = some (.slice none 0 0) := (blk_cell BK710.out 4).trans rfl
         have hfz44_0 := blk_frozen BK710.out 0
         have hfz44_1 := blk_frozen BK710.out 1
         have hfz44_2 := blk_frozen BK710.out 2
         have hfz44_3 := blk_frozen BK710.out 3
         have hfz44_4 := blk_frozen BK710.out 4
         exact Z3
      ·replace c20 := Bool.eq_false_iff.mpr c20
       subst c20
       have H1 : (laws_FnPrWidthRoot.j1 V_laws_prPlaces V_impl_PrPretty V_spec_Laid kj2 a0 true a1_0 a1_1 a1_2 a1_3 t700 t701 t702 t703 t706) = some r := Z34
       clear H
       have H := H1
       clear H1
       ·
        have H' := Aside0.mk H
        clear H
        have hnb48 := NB710_698.out
        have hnc48 := NB698_710.out
        have hcz49_0 : w13.cell? ⟨gb710, 0, none⟩ = some (.int .i64 0) := (blk_cell BK710.out 0).trans rfl
        have hcz49_1 : w13.cell? ⟨gb710, 1, none⟩ = some (.int .i64 0) := (blk_cell BK710.out 1).trans rfl
        have hcz49_2 : w13.cell? ⟨gb710, 2, none⟩ = some (.int .i64 0) := (blk_cell BK710.out 2).trans rfl
        have hcz49_3 : w13.cell? ⟨gb710, 3, none⟩ = some (.slice none 0 0) := (blk_cell BK710.out 3).trans rfl
        have hcz49_4 : w13.cell? ⟨gb710, 4, none⟩ = some (.slice none 0 0) := (blk_cell BK710.out 4).trans rfl
        have hfz49_0 := blk_frozen BK710.out 0
        have hfz49_1 := blk_frozen BK710.out 1
        have hfz49_2 := blk_frozen BK710.out 2
        have hfz49_3 := blk_frozen BK710.out 3
        have hfz49_4 := blk_frozen BK710.out 4
        exact Z3
     ·replace c18 := Bool.eq_false_iff.mpr c18
      subst c18
      have H1 : (laws_FnPrWidthRoot.j1 V_laws_prPlaces V_impl_PrPretty V_spec_Laid kj2 a0 true a1_0 a1_1 a1_2 a1_3 t700 t701 t702 t703 t706) = some r := Z34
      clear H
      have H := H1
      clear H1
      ·
       have H' := Aside0.mk H
       clear H
       go_wp2
       go_meet
       case rel => exact ⟨_, (true), Z16, H', ⟨Z167⟩, ⟨by (with_reducible repeat (first | apply Kd.R_alloc | apply Kd.R_drewN | apply Kd.R_drew)); exact Kd.R_mono (Kd.R_far (p := ⟨gb710, 4, none⟩) (Kd.R_far (p := ⟨gb710, 3, none⟩) (Kd.R_far (p := ⟨gb710, 2, none⟩) (Kd.R_far (p := ⟨gb710, 1, none⟩) (Kd.R_far (p := ⟨gb710, 0, none⟩) (Kd.R_types HO705.out BK710.out (by decide)) (fun _ hk => hk.2) (.int .i64 t700)) (fun _ hk => hk.2) (.int .i64 t701)) (fun _ hk => hk.2) (.int .i64 t702)) (fun _ hk => hk.2) (.slice Ao16 t703.length co16)) (fun _ hk => hk.2) (.slice Ao17 t706.length co17)) (fun _ hk => trivial)⟩, ⟨by (with_reducible repeat (first | apply Kd.R_alloc | apply Kd.R_drewN | apply Kd.R_drew)); exact Kd.R_mono (Kd.R_far (p := ⟨gb710, 4, none⟩) (Kd.R_far (p := ⟨gb710, 3, none⟩) (Kd.R_far (p := ⟨gb710, 2, none⟩) (Kd.R_far (p := ⟨gb710, 1, none⟩) (Kd.R_far (p := ⟨gb710, 0, none⟩) (Kd.R_mono HO708.out (fun k_ hk => (⟨hk, hk.2⟩ : _ ∧ k_ ≠ gb710))) (fun _ hk => hk.2) (.int .i64 t700)) (fun _ hk => hk.2) (.int .i64 t701)) (fun _ hk => hk.2) (.int .i64 t702)) (fun _ hk => hk.2) (.slice Ao16 t703.length co16)) (fun _ hk => hk.2) (.slice Ao17 t706.length co17)) (fun _ hk => ⟨hk.1.1, hk.1.2⟩)⟩, ⟨Z37⟩, ⟨Z26⟩, ⟨Z33⟩⟩
    case rest =>
     clear HC11
     try clear c9
     try clear hcz15_0
     try clear hcz15_1
     try clear hcz15_2
     try clear hcz15_3
     try clear hcz15_4
     try clear hfz15_0
     try clear hfz15_1
     try clear hfz15_2
     try clear hfz15_3
     try clear hfz15_4
     obtain ⟨kq, x47_10, rfl, HA, HJ10, HO_711003, HO_711004, BK698, BK710, HB⟩ := hcut
     cases kq with
     | zero => exact absurd HA.out (by simp [laws_FnPrWidthRoot.j1])
     | succ kj10 =>
      have H := HA.out
      clear HA
      simp only [laws_FnPrWidthRoot.j1] at H
      by_cases c51 : x47_10 = true
      ·subst c51
       have H1 : (some true) = some r := Z61
       clear H
       have H := H1
       clear H1
       ·
        obtain rfl := Option.some.inj H
        go_wp2
        go_ret
        exact ⟨Z15, Z33⟩
      ·replace c51 := Bool.eq_false_iff.mpr c51
       subst c51
       have H1 : ((V_spec_Laid.f kj10 a0 t700 t701 t702 t703 t706 (⟨#[]⟩ : ByteArray) (⟨#[]⟩ : ByteArray) true).bind fun t713 => (if (wrap64 (a1_0 - (a1_1.size : Int))) > 3 then (laws_FnPrWidthRoot.j2 V_laws_prPlaces V_impl_PrPretty V_spec_Laid kj10 a0 t713 (decide ((wrap64 ((t713.size : Int) - 1)) ≤ (wrap64 (a1_0 - (a1_1.size : Int))))) a1_0 a1_1 a1_2 a1_3 t700 t701 t702 t703 t706) else (laws_FnPrWidthRoot.j2 V_laws_prPlaces V_impl_PrPretty V_spec_Laid kj10 a0 t713 false a1_0 a1_1 a1_2 a1_3 t700 t701 t702 t703 t706))) = some r := Z34
       clear H
       have H := H1
       clear H1
       replace H := Option.bind_eq_some_iff.mp H
       obtain ⟨t713, A520, H⟩ := H
       replace H : (if (wrap64 (a1_0 - (a1_1.size : Int))) > 3 then (laws_FnPrWidthRoot.j2 V_laws_prPlaces V_impl_PrPretty V_spec_Laid kj10 a0 t713 (decide ((wrap64 ((t713.size : Int) - 1)) ≤ (wrap64 (a1_0 - (a1_1.size : Int))))) a1_0 a1_1 a1_2 a1_3 t700 t701 t702 t703 t706) else (laws_FnPrWidthRoot.j2 V_laws_prPlaces V_impl_PrPretty V_spec_Laid kj10 a0 t713 false a1_0 a1_1 a1_2 a1_3 t700 t701 t702 t703 t706)) = some r := H
       have A52 := Aside0.mk A520
       clear A520
       have HC53 := Aside0.mk H
       clear H
       have hnb54 := NB698_710.out
       have hnc54 := NB710_698.out
       have hcz55_0 : wc.cell? ⟨gb698, 0, none⟩ = some (.int .i64 a1_0) := (blk_cell BK698.out 0).trans rfl
       have hcz55_1 : wc.cell? ⟨gb698, 1, none⟩ = some (.string a1_1) := (blk_cell BK698.out 1).trans rfl
       have hcz55_2 : wc.cell? ⟨gb698, 2, none⟩ = some (.string a1_2) := (blk_cell BK698.out 2).trans rfl
       have hcz55_3 : wc.cell? ⟨gb698, 3, none⟩ = some (.bool a1_3) := (blk_cell BK698.out 3).trans rfl
       have hfz55_0 := blk_frozen BK698.out 0
       have hfz55_1 := blk_frozen BK698.out 1
       have hfz55_2 := blk_frozen BK698.out 2
       have hfz55_3 := blk_frozen BK698.out 3
       have hcz56_0 : wc.cell? ⟨gb710, 0, none⟩ = some (.int .i64 t700) := (blk_cell BK710.out 0).trans rfl
       have hcz56_1 : wc.cell? ⟨gb710, 1, none⟩ = some (.int .i64 t701) := (blk_cell BK710.out 1).trans rfl
       have hcz56_2 : wc.cell? ⟨gb710, 2, none⟩ = some (.int .i64 t702) := (blk_cell BK710.out 2).trans rfl
       have hcz56_3 : wc.cell? ⟨gb710, 3, none⟩ = some (.slice Ao16 t703.length co16) := (blk_cell BK710.out 3).trans rfl
       have hcz56_4 : wc.cell? ⟨gb710, 4, none⟩ = some (.slice Ao17 t706.length co17) := (blk_cell BK710.out 4).trans rfl
       have hfz56_0 := blk_frozen BK710.out 0
       have hfz56_1 := blk_frozen BK710.out 1
       have hfz56_2 := blk_frozen BK710.out 2
       have hfz56_3 := blk_frozen BK710.out 3
       have hfz56_4 := blk_frozen BK710.out 4
       go_upto_region 8 with (first | ((with_reducible refine gate_callee (f := 13) rfl ?_); refine goesL_ (some 56) rfl rfl Try.func13 (by kernel_rfl) rfl #[.string a0, .agg #[.int .i64 t700, .int .i64 t701, .int .i64 t702, .slice Ao16 t703.length co16, .slice Ao17 t706.length co17], .string (⟨#[]⟩ : ByteArray), .string (⟨#[]⟩ : ByteArray), .bool true] rfl Z13 ?_; (with_reducible refine (V_spec_Laid.calls kj10 a0 t700 t701 t702 _ _ t703 _ _ t706 (⟨#[]⟩ : ByteArray) (⟨#[]⟩ : ByteArray) true t713 _ ?side1 ?side2 ?side3 ?side4 A52.out).mono ?_); (case side1 => exact Z175); (case side2 => exact (Kd.R_reads' HO_711003.out).2.1); (case side3 => exact Z174); (case side4 => exact (Kd.R_reads' HO_711004.out).2.1); rintro e w57 ⟨rfl, hb⟩; refine ⟨_, rfl, ?_⟩; have n0_ := Aside0.mk (Kd.R_below Z143 hb); have n1_ := Aside0.mk (Kd.R_below Z142 hb); have n2_ := Aside0.mk (blk_below (g := gb698) (o := .cells #[.int .i64 a1_0, .string a1_1, .string a1_2, .bool a1_3] 31 (0, 0)) Z55 hb); have n3_ := Aside0.mk (blk_below (g := gb710) (o := .cells #[.int .i64 t700, .int .i64 t701, .int .i64 t702, .slice Ao16 t703.length co16, .slice Ao17 t706.length co17] 25 (0, 0)) Z80 hb); have n4_ := Aside0.mk (below_step Z33 hb); clear HO_711003; clear HO_711004; clear BK698; clear BK710; clear HB; have HO_711003 := n0_; have HO_711004 := n1_; have BK698 := n2_; have BK710 := n3_; have HB := n4_; clear n0_ n1_ n2_ n3_ n4_; (try clear hb); (try clear hb2); (try clear hk); (try clear hi)))
       (try simp only [Act.put, List.setIfInBounds_toArray, List.set_cons_zero, List.set_cons_succ])
       go_cut [65] from 48 to 56 (fun v65 wc => ∃ (kq : Nat) (x65_52 : Bool), v65 = .bool x65_52 ∧ Aside0 (laws_FnPrWidthRoot.j2 V_laws_prPlaces V_impl_PrPretty V_spec_Laid kq a0 t713 x65_52 a1_0 a1_1 a1_2 a1_3 t700 t701 t702 t703 t706 = some r) ∧ Aside0 (kq ≤ kj10) ∧ Aside0 (Kd.R k53 53 wc w.heap.size (fun _ => True) (.slice Ao16 t703.length co16) t703) ∧ Aside0 (Kd.R k25 25 wc w.heap.size (fun k_ => some k_ ≠ ((.slice Ao16 t703.length co16) : Value).ownBlock ∧ k_ ≠ gb710) (.slice Ao17 t706.length co17) t706) ∧ Aside0 (wc.heap[gb698]? = some (.cells #[.int .i64 a1_0, .string a1_1, .string a1_2, .bool a1_3] 31 (0, 0))) ∧ Aside0 (wc.heap[gb710]? = some (.cells #[.int .i64 t700, .int .i64 t701, .int .i64 t702, (.slice Ao16 t703.length co16), (.slice Ao17 t706.length co17)] 25 (0, 0))) ∧ Aside0 (Below w.heap.size w wc))
       case first =>
        have H := HC53.out
        clear HC53
        by_cases c58 : (wrap64 (a1_0 - (a1_1.size : Int))) > 3
        ·rw [if_pos c58] at H
         have c58b0 : decide (3 < (wrap64 (a1_0 - (a1_1.size : Int)))) = true := decide_eq_true c58
         clear c58
         (first | rw [c58b0] | (simp only [i64_w, i32_w]; rw [c58b0]) | skip)
         ·
          have H' := Aside0.mk H
          clear H
          go_wp2
          go_meet
          case rel => exact ⟨_, (decide ((wrap64 ((t713.size : Int) - 1)) ≤ (wrap64 (a1_0 - (a1_1.size : Int))))), Z16, H', ⟨by have := HJ2.out; have := HJ10.out; first | omega | exact Nat.le_refl _⟩, ⟨by (with_reducible repeat (first | apply Kd.R_alloc | apply Kd.R_drewN | apply Kd.R_drew)); first | exact HO_711003.out | exact Kd.V_len HO_711003.out⟩, ⟨by (with_reducible repeat (first | apply Kd.R_alloc | apply Kd.R_drewN | apply Kd.R_drew)); first | exact HO_711004.out | exact Kd.V_len HO_711004.out⟩, ⟨Z55⟩, ⟨Z80⟩, ⟨Z33⟩⟩
        ·rw [if_neg c58] at H
         have c58b0 : decide (3 < (wrap64 (a1_0 - (a1_1.size : Int)))) = false := decide_eq_false c58
         clear c58
         (first | rw [c58b0] | (simp only [i64_w, i32_w]; rw [c58b0]) | skip)
         ·
          have H' := Aside0.mk H
          clear H
          go_wp2
          go_meet
          case rel => exact ⟨_, (false), Z16, H', ⟨by have := HJ2.out; have := HJ10.out; first | omega | exact Nat.le_refl _⟩, ⟨by (with_reducible repeat (first | apply Kd.R_alloc | apply Kd.R_drewN | apply Kd.R_drew)); first | exact HO_711003.out | exact Kd.V_len HO_711003.out⟩, ⟨by (with_reducible repeat (first | apply Kd.R_alloc | apply Kd.R_drewN | apply Kd.R_drew)); first | exact HO_711004.out | exact Kd.V_len HO_711004.out⟩, ⟨Z55⟩, ⟨Z80⟩, ⟨Z33⟩⟩
       case rest =>
        clear HC53
        try clear c9
        try clear c51
        try clear hcz15_0
        try clear hcz15_1
        try clear hcz15_2
        try clear hcz15_3
        try clear hcz15_4
        try clear hcz55_0
        try clear hcz55_1
        try clear hcz55_2
        try clear hcz55_3
        try clear hcz56_0
        try clear hcz56_1
        try clear hcz56_2
        try clear hcz56_3
        try clear hcz56_4
        try clear hfz15_0
        try clear hfz15_1
        try clear hfz15_2
        try clear hfz15_3
        try clear hfz15_4
        try clear hfz55_0
        try clear hfz55_1
        try clear hfz55_2
        try clear hfz55_3
        try clear hfz56_0
        try clear hfz56_1
        try clear hfz56_2
        try clear hfz56_3
        try clear hfz56_4
        obtain ⟨kq, x65_52, rfl, HA, HJ52, HO_711003, HO_711004, BK698, BK710, HB⟩ := hcut
        cases kq with
        | zero => exact absurd HA.out (by simp [laws_FnPrWidthRoot.j2])
        | succ kj52 =>
         have H := HA.out
         clear HA
         simp only [laws_FnPrWidthRoot.j2] at H
         by_cases c59 : x65_52 = true
         ·subst c59
          have H1 : ((V_impl_PrPretty.f kj52 a0 a1_0 a1_1 a1_2 a1_3).bind fun t714 => (if a1_1.size + t713.size ≤ 9223372036854775807 then (some (t714.toList == (a1_1 ++ t713).toList)) else (none))) = some r := Z61
          clear H
          have H := H1
          clear H1
          replace H := Option.bind_eq_some_iff.mp H
          obtain ⟨t714, A600, H⟩ := H
          replace H : (if a1_1.size + t713.size ≤ 9223372036854775807 then (some (t714.toList == (a1_1 ++ t713).toList)) else (none)) = some r := H
          have A60 := Aside0.mk A600
          clear A600
          by_cases c61 : a1_1.size + t713.size ≤ 9223372036854775807
          ·rw [if_pos c61] at H
           have c61b0 := eq_true c61
           have c61b1 : decide (a1_1.size + t713.size ≤ 9223372036854775807) = true := decide_eq_true c61
           try have c61b2 : (9223372036854775807 < a1_1.size + t713.size) = False := eq_false (Nat.not_lt.2 c61)
           ·
            obtain rfl := Option.some.inj H
            try go_wp2
            have n0_ := Aside0.mk (Kd.R_drew HO_711003.out)
            have n1_ := Aside0.mk (Kd.R_drew HO_711004.out)
            have n2_ := Aside0.mk (blk_drew BK698.out)
            have n3_ := Aside0.mk (blk_drew BK710.out)
            have n4_ := Aside0.mk (below_drew1 HB.out)
            clear HO_711003
            clear HO_711004
            clear BK698
            clear BK710
            clear HB
            have HO_711003 := n0_
            have HO_711004 := n1_
            have BK698 := n2_
            have BK710 := n3_
            have HB := n4_
            clear n0_ n1_ n2_ n3_ n4_
            refine start_ (n := 9) (S := fun w' => w'.cell? ⟨gb698, 0, none⟩ = some (.int .i64 a1_0) ∧ w'.cell? ⟨gb698, 1, none⟩ = some (.string a1_1) ∧ w'.cell? ⟨gb698, 2, none⟩ = some (.string a1_2) ∧ w'.cell? ⟨gb698, 3, none⟩ = some (.bool a1_3)) (ds := []) #[false, false, false, false, false, false, false, false, false] (by kernel_rfl) rfl rfl ⟨(blk_cell BK698.out 0).trans rfl, (blk_cell BK698.out 1).trans rfl, (blk_cell BK698.out 2).trans rfl, (blk_cell BK698.out 3).trans rfl⟩ (fun hHeld => ?_); refine with_tabW laws_FnPrWidthRoot.tab9 laws_FnPrWidthRoot.bits9 (fun HT_ HW_ => ?_)
            generalize wc.drew = w62 at HO_711003 HO_711004 BK698 BK710 HB hHeld ⊢
            refine pure_ (i := 0) (N := some 66) (v := ?_) (a' := ?_) #[true, false, false, false, false, false, false, false, false] rfl rfl (any_of HT_.out (by kernel_rfl)) (fun _ _ _ h => h) (Or.inl ⟨by rfl, ?_⟩) ?_ ?_
            rotate_left
            ·intro w'
             go_simp
             with_reducible rfl
            rotate_left
            ·simp only [Act.put, List.setIfInBounds_toArray, List.set_cons_zero, List.set_cons_succ, i64_w, i32_w]
             rfl
            refine pure_ (i := 3) (N := some 69) (v := ?_) (a' := ?_) #[true, false, false, true, false, false, false, false, false] rfl rfl (any_of HT_.out (by kernel_rfl)) (fun _ _ _ h => h) (Or.inl ⟨by rfl, ?_⟩) ?_ ?_
            rotate_left
            ·intro w'
             go_simp
             with_reducible rfl
            rotate_left
            ·simp only [Act.put, List.setIfInBounds_toArray, List.set_cons_zero, List.set_cons_succ, i64_w, i32_w]
             rfl
            refine pure_ (i := 5) (N := some 71) (v := ?_) (a' := ?_) #[true, false, false, true, false, true, false, false, false] rfl rfl (any_of HT_.out (by kernel_rfl)) (fun _ _ _ h => h) (Or.inl ⟨by rfl, ?_⟩) ?_ ?_
            rotate_left
            ·intro w'
             go_simp
             with_reducible rfl
            rotate_left
            ·simp only [Act.put, List.setIfInBounds_toArray, List.set_cons_zero, List.set_cons_succ, i64_w, i32_w]
             rfl
            refine take_ (i := 1) (N := some 67) (v := ?_) (a' := ?_) #[true, true, false, true, false, true, false, false, false] rfl rfl (take_ofW HT_.out HW_.out (by kernel_rfl)) (fun _ _ _ h => h) (Or.inl ⟨by rfl, ?_⟩) hHeld ?_ ?_
            rotate_left
            ·rintro w' ⟨s0, s1, s2, s3⟩
             go_simp
             with_reducible rfl
            rotate_left
            ·simp only [Act.put, List.setIfInBounds_toArray, List.set_cons_zero, List.set_cons_succ, i64_w, i32_w]
             rfl
            refine take_ (i := 4) (N := some 70) (v := ?_) (a' := ?_) #[true, true, false, true, true, true, false, false, false] rfl rfl (take_ofW HT_.out HW_.out (by kernel_rfl)) (fun _ _ _ h => h) (Or.inl ⟨by rfl, ?_⟩) hHeld ?_ ?_
            rotate_left
            ·rintro w' ⟨s0, s1, s2, s3⟩
             go_simp
             with_reducible rfl
            rotate_left
            ·simp only [Act.put, List.setIfInBounds_toArray, List.set_cons_zero, List.set_cons_succ, i64_w, i32_w]
             rfl
            refine pure_ (i := 6) (N := some 72) (v := ?_) (a' := ?_) #[true, true, false, true, true, true, true, false, false] rfl rfl (any_of HT_.out (by kernel_rfl)) (fun _ _ _ h => h) (Or.inl ⟨by rfl, ?_⟩) ?_ ?_
            rotate_left
            ·intro w'
             go_simp
             with_reducible rfl
            rotate_left
            ·simp only [Act.put, List.setIfInBounds_toArray, List.set_cons_zero, List.set_cons_succ, i64_w, i32_w]
             rfl
            refine one_ (i := 2) (N := some 68) #[true, true, true, true, true, true, true, false, false] rfl rfl (one_of HT_.out (by kernel_rfl)) (by decide) (fun K hK => ?_)
            refine goes_ Try.func8 (by kernel_rfl) rfl #[.string a0, .agg #[.int .i64 a1_0, .string a1_1, .string a1_2, .bool a1_3]] (by rfl) rfl rfl Z13 ?_
            with_reducible refine (V_impl_PrPretty.calls kj52 a0 a1_0 a1_1 a1_2 a1_3 t714 _ A60.out).mono ?_
            rintro e w63 ⟨rfl, hb⟩
            refine ⟨_, rfl, ?_⟩
            have n0_ := Aside0.mk (Kd.R_below Z143 hb)
            have n1_ := Aside0.mk (Kd.R_below Z142 hb)
            have n2_ := Aside0.mk (blk_below (g := gb698) (o := .cells #[.int .i64 a1_0, .string a1_1, .string a1_2, .bool a1_3] 31 (0, 0)) Z55 hb)
            have n3_ := Aside0.mk (blk_below (g := gb710) (o := .cells #[.int .i64 t700, .int .i64 t701, .int .i64 t702, .slice Ao16 t703.length co16, .slice Ao17 t706.length co17] 25 (0, 0)) Z80 hb)
            have n4_ := Aside0.mk (below_step Z33 hb)
            clear HO_711003
            clear HO_711004
            clear BK698
            clear BK710
            clear HB
            have HO_711003 := n0_
            have HO_711004 := n1_
            have BK698 := n2_
            have BK710 := n3_
            have HB := n4_
            clear n0_ n1_ n2_ n3_ n4_
            (try clear hb)
            (try clear hb2)
            (try clear hk)
            (try clear hi)
            refine hK.out _ _ ⟨(blk_cell BK698.out 0).trans rfl, (blk_cell BK698.out 1).trans rfl, (blk_cell BK698.out 2).trans rfl, (blk_cell BK698.out 3).trans rfl⟩ (fun hHeld => ?_)
            clear hK K
            refine norm_ (a' := ?_) ?_ ?_
            rotate_left
            ·show Act.put _ (some 68) _ = _
             simp only [Act.put, List.setIfInBounds_toArray, List.set_cons_zero, List.set_cons_succ, i64_w, i32_w]
             rfl
            refine pure_ (i := 7) (N := some 73) (v := ?_) (a' := ?_) #[true, true, true, true, true, true, true, true, false] rfl rfl (any_of HT_.out (by kernel_rfl)) (fun _ _ _ h => h) (Or.inl ⟨by rfl, ?_⟩) ?_ ?_
            rotate_left
            ·intro w'
             go_simp
             with_reducible rfl
            rotate_left
            ·simp only [Act.put, List.setIfInBounds_toArray, List.set_cons_zero, List.set_cons_succ, i64_w, i32_w]
             rfl
            refine pure_ (i := 8) (N := some 4) (v := ?_) (a' := ?_) #[true, true, true, true, true, true, true, true, true] rfl rfl (any_of HT_.out (by kernel_rfl)) (fun _ _ _ h => h) (Or.inl ⟨by rfl, ?_⟩) ?_ ?_
            rotate_left
            ·intro w'
             go_simp
             with_reducible rfl
            rotate_left
            ·simp only [Act.put, List.setIfInBounds_toArray, List.set_cons_zero, List.set_cons_succ, i64_w, i32_w]
             rfl
            refine done_ (done_of HT_.out (by kernel_rfl)) ?_
            try go_wp2
            go_ret
            exact ⟨Z15, Z33⟩
          ·rw [if_neg c61] at H
           exact absurd H (by simp)
         ·replace c59 := Bool.eq_false_iff.mpr c59
          subst c59
          have H1 : ((V_impl_PrPretty.f kj52 a0 a1_0 a1_1 a1_2 a1_3).bind fun t715 => ((V_spec_Laid.f kj52 a0 t700 t701 t702 t703 t706 a1_1 a1_2 false).bind fun t716 => (some (t715.toList == t716.toList)))) = some r := Z34
          clear H
          have H := H1
          clear H1
          replace H := Option.bind_eq_some_iff.mp H
          obtain ⟨t715, A640, H⟩ := H
          replace H : ((V_spec_Laid.f kj52 a0 t700 t701 t702 t703 t706 a1_1 a1_2 false).bind fun t716 => (some (t715.toList == t716.toList))) = some r := H
          have A64 := Aside0.mk A640
          clear A640
          replace H := Option.bind_eq_some_iff.mp H
          obtain ⟨t716, A650, H⟩ := H
          replace H : (some (t715.toList == t716.toList)) = some r := H
          have A65 := Aside0.mk A650
          clear A650
          ·
           obtain rfl := Option.some.inj H
           try go_wp2
           have n0_ := Aside0.mk (Kd.R_drew HO_711003.out)
           have n1_ := Aside0.mk (Kd.R_drew HO_711004.out)
           have n2_ := Aside0.mk (blk_drew BK698.out)
           have n3_ := Aside0.mk (blk_drew BK710.out)
           have n4_ := Aside0.mk (below_drew1 HB.out)
           clear HO_711003
           clear HO_711004
           clear BK698
           clear BK710
           clear HB
           have HO_711003 := n0_
           have HO_711004 := n1_
           have BK698 := n2_
           have BK710 := n3_
           have HB := n4_
           clear n0_ n1_ n2_ n3_ n4_
           refine start_ (n := 12) (S := fun w' => w'.cell? ⟨gb698, 0, none⟩ = some (.int .i64 a1_0) ∧ w'.cell? ⟨gb698, 1, none⟩ = some (.string a1_1) ∧ w'.cell? ⟨gb698, 2, none⟩ = some (.string a1_2) ∧ w'.cell? ⟨gb698, 3, none⟩ = some (.bool a1_3) ∧ w'.cell? ⟨gb710, 0, none⟩ = some (.int .i64 t700) ∧ w'.cell? ⟨gb710, 1, none⟩ = some (.int .i64 t701) ∧ w'.cell? ⟨gb710, 2, none⟩ = some (.int .i64 t702) ∧ w'.cell? ⟨gb710, 3, none⟩ = some (.slice Ao16 t703.length co16) ∧ w'.cell? ⟨gb710, 4, none⟩ = some (.slice Ao17 t706.length co17)) (ds := []) #[false, false, false, false, false, false, false, false, false, false, false, false] (by kernel_rfl) rfl rfl ⟨(blk_cell BK698.out 0).trans rfl, (blk_cell BK698.out 1).trans rfl, (blk_cell BK698.out 2).trans rfl, (blk_cell BK698.out 3).trans rfl, (blk_cell BK710.out 0).trans rfl, (blk_cell BK710.out 1).trans rfl, (blk_cell BK710.out 2).trans rfl, (blk_cell BK710.out 3).trans rfl, (blk_cell BK710.out 4).trans rfl⟩ (fun hHeld => ?_); refine with_tabW laws_FnPrWidthRoot.tab10 laws_FnPrWidthRoot.bits10 (fun HT_ HW_ => ?_)
           generalize wc.drew = w66 at HO_711003 HO_711004 BK698 BK710 HB hHeld ⊢
           refine pure_ (i := 0) (N := some 74) (v := ?_) (a' := ?_) #[true, false, false, false, false, false, false, false, false, false, false, false] rfl rfl (any_of HT_.out (by kernel_rfl)) (fun _ _ _ h => h) (Or.inl ⟨by rfl, ?_⟩) ?_ ?_
           rotate_left
           ·intro w'
            go_simp
            with_reducible rfl
           rotate_left
           ·simp only [Act.put, List.setIfInBounds_toArray, List.set_cons_zero, List.set_cons_succ, i64_w, i32_w]
            rfl
           refine pure_ (i := 3) (N := some 77) (v := ?_) (a' := ?_) #[true, false, false, true, false, false, false, false, false, false, false, false] rfl rfl (any_of HT_.out (by kernel_rfl)) (fun _ _ _ h => h) (Or.inl ⟨by rfl, ?_⟩) ?_ ?_
           rotate_left
           ·intro w'
            go_simp
            with_reducible rfl
           rotate_left
           ·simp only [Act.put, List.setIfInBounds_toArray, List.set_cons_zero, List.set_cons_succ, i64_w, i32_w]
            rfl
           refine pure_ (i := 5) (N := some 79) (v := ?_) (a' := ?_) #[true, false, false, true, false, true, false, false, false, false, false, false] rfl rfl (any_of HT_.out (by kernel_rfl)) (fun _ _ _ h => h) (Or.inl ⟨by rfl, ?_⟩) ?_ ?_
           rotate_left
           ·intro w'
            go_simp
            with_reducible rfl
           rotate_left
           ·simp only [Act.put, List.setIfInBounds_toArray, List.set_cons_zero, List.set_cons_succ, i64_w, i32_w]
            rfl
           refine pure_ (i := 7) (N := some 81) (v := ?_) (a' := ?_) #[true, false, false, true, false, true, false, true, false, false, false, false] rfl rfl (any_of HT_.out (by kernel_rfl)) (fun _ _ _ h => h) (Or.inl ⟨by rfl, ?_⟩) ?_ ?_
           rotate_left
           ·intro w'
            go_simp
            with_reducible rfl
           rotate_left
           ·simp only [Act.put, List.setIfInBounds_toArray, List.set_cons_zero, List.set_cons_succ, i64_w, i32_w]
            rfl
           refine take_ (i := 1) (N := some 75) (v := ?_) (a' := ?_) #[true, true, false, true, false, true, false, true, false, false, false, false] rfl rfl (take_ofW HT_.out HW_.out (by kernel_rfl)) (fun _ _ _ h => h) (Or.inl ⟨by rfl, ?_⟩) hHeld ?_ ?_
           rotate_left
           ·rintro w' ⟨s0, s1, s2, s3, s4, s5, s6, s7, s8⟩
            go_simp
            with_reducible rfl
           rotate_left
           ·simp only [Act.put, List.setIfInBounds_toArray, List.set_cons_zero, List.set_cons_succ, i64_w, i32_w]
            rfl
           refine take_ (i := 4) (N := some 78) (v := ?_) (a' := ?_) #[true, true, false, true, true, true, false, true, false, false, false, false] rfl rfl (take_ofW HT_.out HW_.out (by kernel_rfl)) (fun _ _ _ h => h) (Or.inl ⟨by rfl, ?_⟩) hHeld ?_ ?_
           rotate_left
           ·rintro w' ⟨s0, s1, s2, s3, s4, s5, s6, s7, s8⟩
            go_simp
            with_reducible rfl
           rotate_left
           ·simp only [Act.put, List.setIfInBounds_toArray, List.set_cons_zero, List.set_cons_succ, i64_w, i32_w]
            rfl
           refine take_ (i := 6) (N := some 80) (v := ?_) (a' := ?_) #[true, true, false, true, true, true, true, true, false, false, false, false] rfl rfl (take_ofW HT_.out HW_.out (by kernel_rfl)) (fun _ _ _ h => h) (Or.inl ⟨by rfl, ?_⟩) hHeld ?_ ?_
           rotate_left
           ·rintro w' ⟨s0, s1, s2, s3, s4, s5, s6, s7, s8⟩
            go_simp
            with_reducible rfl
           rotate_left
           ·simp only [Act.put, List.setIfInBounds_toArray, List.set_cons_zero, List.set_cons_succ, i64_w, i32_w]
            rfl
           refine take_ (i := 8) (N := some 82) (v := ?_) (a' := ?_) #[true, true, false, true, true, true, true, true, true, false, false, false] rfl rfl (take_ofW HT_.out HW_.out (by kernel_rfl)) (fun _ _ _ h => h) (Or.inl ⟨by rfl, ?_⟩) hHeld ?_ ?_
           rotate_left
           ·rintro w' ⟨s0, s1, s2, s3, s4, s5, s6, s7, s8⟩
            go_simp
            with_reducible rfl
           rotate_left
           ·simp only [Act.put, List.setIfInBounds_toArray, List.set_cons_zero, List.set_cons_succ, i64_w, i32_w]
            rfl
           refine one_ (i := 2) (N := some 76) #[true, true, true, true, true, true, true, true, true, false, false, false] rfl rfl (one_of HT_.out (by kernel_rfl)) (by decide) (fun K hK => ?_)
           refine goes_ Try.func8 (by kernel_rfl) rfl #[.string a0, .agg #[.int .i64 a1_0, .string a1_1, .string a1_2, .bool a1_3]] (by rfl) rfl rfl Z13 ?_
           with_reducible refine (V_impl_PrPretty.calls kj52 a0 a1_0 a1_1 a1_2 a1_3 t715 _ A64.out).mono ?_
           rintro e w67 ⟨rfl, hb⟩
           refine ⟨_, rfl, ?_⟩
           have n0_ := Aside0.mk (Kd.R_below Z143 hb)
           have n1_ := Aside0.mk (Kd.R_below Z142 hb)
           have n2_ := Aside0.mk (blk_below (g := gb698) (o := .cells #[.int .i64 a1_0, .string a1_1, .string a1_2, .bool a1_3] 31 (0, 0)) Z55 hb)
           have n3_ := Aside0.mk (blk_below (g := gb710) (o := .cells #[.int .i64 t700, .int .i64 t701, .int .i64 t702, .slice Ao16 t703.length co16, .slice Ao17 t706.length co17] 25 (0, 0)) Z80 hb)
           have n4_ := Aside0.mk (below_step Z33 hb)
           clear HO_711003
           clear HO_711004
           clear BK698
           clear BK710
           clear HB
           have HO_711003 := n0_
           have HO_711004 := n1_
           have BK698 := n2_
           have BK710 := n3_
           have HB := n4_
           clear n0_ n1_ n2_ n3_ n4_
           (try clear hb)
           (try clear hb2)
           (try clear hk)
           (try clear hi)
           refine hK.out _ _ ⟨(blk_cell BK698.out 0).trans rfl, (blk_cell BK698.out 1).trans rfl, (blk_cell BK698.out 2).trans rfl, (blk_cell BK698.out 3).trans rfl, (blk_cell BK710.out 0).trans rfl, (blk_cell BK710.out 1).trans rfl, (blk_cell BK710.out 2).trans rfl, (blk_cell BK710.out 3).trans rfl, (blk_cell BK710.out 4).trans rfl⟩ (fun hHeld => ?_)
           clear hK K
           refine norm_ (a' := ?_) ?_ ?_
           rotate_left
           ·show Act.put _ (some 76) _ = _
            simp only [Act.put, List.setIfInBounds_toArray, List.set_cons_zero, List.set_cons_succ, i64_w, i32_w]
            rfl
           refine one_ (i := 9) (N := some 83) #[true, true, true, true, true, true, true, true, true, true, false, false] rfl rfl (one_of HT_.out (by kernel_rfl)) (by decide) (fun K hK => ?_)
           refine goes_ Try.func13 (by kernel_rfl) rfl #[.string a0, .agg #[.int .i64 t700, .int .i64 t701, .int .i64 t702, .slice Ao16 t703.length co16, .slice Ao17 t706.length co17], .string a1_1, .string a1_2, .bool false] (by rfl) rfl rfl Z13 ?_
           with_reducible refine (V_spec_Laid.calls kj52 a0 t700 t701 t702 _ _ t703 _ _ t706 a1_1 a1_2 false t716 _ ?side1 ?side2 ?side3 ?side4 A65.out).mono ?_
           (case side1 => exact Z175)
           (case side2 => exact (Kd.R_reads' HO_711003.out).2.1)
           (case side3 => exact Z174)
           (case side4 => exact (Kd.R_reads' HO_711004.out).2.1)
           rintro e w68 ⟨rfl, hb⟩
           refine ⟨_, rfl, ?_⟩
           have n0_ := Aside0.mk (Kd.R_below Z143 hb)
           have n1_ := Aside0.mk (Kd.R_below Z142 hb)
           have n2_ := Aside0.mk (blk_below (g := gb698) (o := .cells #[.int .i64 a1_0, .string a1_1, .string a1_2, .bool a1_3] 31 (0, 0)) Z55 hb)
           have n3_ := Aside0.mk (blk_below (g := gb710) (o := .cells #[.int .i64 t700, .int .i64 t701, .int .i64 t702, .slice Ao16 t703.length co16, .slice Ao17 t706.length co17] 25 (0, 0)) Z80 hb)
           have n4_ := Aside0.mk (below_step Z33 hb)
           clear HO_711003
           clear HO_711004
           clear BK698
           clear BK710
           clear HB
           have HO_711003 := n0_
           have HO_711004 := n1_
           have BK698 := n2_
           have BK710 := n3_
           have HB := n4_
           clear n0_ n1_ n2_ n3_ n4_
           (try clear hb)
           (try clear hb2)
           (try clear hk)
           (try clear hi)
           refine hK.out _ _ ⟨(blk_cell BK698.out 0).trans rfl, (blk_cell BK698.out 1).trans rfl, (blk_cell BK698.out 2).trans rfl, (blk_cell BK698.out 3).trans rfl, (blk_cell BK710.out 0).trans rfl, (blk_cell BK710.out 1).trans rfl, (blk_cell BK710.out 2).trans rfl, (blk_cell BK710.out 3).trans rfl, (blk_cell BK710.out 4).trans rfl⟩ (fun hHeld => ?_)
           clear hK K
           refine norm_ (a' := ?_) ?_ ?_
           rotate_left
           ·show Act.put _ (some 83) _ = _
            simp only [Act.put, List.setIfInBounds_toArray, List.set_cons_zero, List.set_cons_succ, i64_w, i32_w]
            rfl
           refine pure_ (i := 10) (N := some 84) (v := ?_) (a' := ?_) #[true, true, true, true, true, true, true, true, true, true, true, false] rfl rfl (any_of HT_.out (by kernel_rfl)) (fun _ _ _ h => h) (Or.inl ⟨by rfl, ?_⟩) ?_ ?_
           rotate_left
           ·intro w'
            go_simp
            with_reducible rfl
           rotate_left
           ·simp only [Act.put, List.setIfInBounds_toArray, List.set_cons_zero, List.set_cons_succ, i64_w, i32_w]
            rfl
           refine pure_ (i := 11) (N := some 4) (v := ?_) (a' := ?_) #[true, true, true, true, true, true, true, true, true, true, true, true] rfl rfl (any_of HT_.out (by kernel_rfl)) (fun _ _ _ h => h) (Or.inl ⟨by rfl, ?_⟩) ?_ ?_
           rotate_left
           ·intro w'
            go_simp
            with_reducible rfl
           rotate_left
           ·simp only [Act.put, List.setIfInBounds_toArray, List.set_cons_zero, List.set_cons_succ, i64_w, i32_w]
            rfl
           refine done_ (done_of HT_.out (by kernel_rfl)) ?_
           try go_wp2
           go_ret
           exact ⟨Z15, Z33⟩
end Go.Proofs.Ytkbeiidjagodnaa.Pr

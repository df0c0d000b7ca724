-- written by a program of this session (wip/tools), for this seat
import Derived.Test.YtkbeiidjagodnaaPrx0
import Derived.Test.YtkbeiidjagodnaaPrx1
import Derived.Test.YtkbeiidjagodnaaPrx2
import Derived.Test.YtkbeiidjagodnaaPrx3
import Derived.Test.YtkbeiidjagodnaaPrx4a
namespace Go.Proofs.Ytkbeiidjagodnaa.Pr
open Go.RowKit Go.Proofs.YtkbeiidjagodnaaW.PrintWords Go.Proofs.YtkbeiidjagodnaaW.PrintLast Go.Proofs.YtkbeiidjagodnaaW.PrintMore
attribute [local go_sem] max2_int min2_int max_two min_two max_three min_three max_four min_four   -- for this text's walks alone
set_option linter.unusedVariables false
set_option linter.unusedSimpArgs false
/-! ### spec_reader_value: function 20 -/
def spec_reader_value.j0 (V_spec_reader_members : H_spec_reader_members) (V_spec_reader_elements : H_spec_reader_elements) : Nat → Bool → Bool → ByteArray → Int → Int → Int → Int → Option (Int × Int × Int × (List (S53)) × (List (S25)) × Bool × ByteArray × Int)
 | 0, _, _, _, _, _, _, _ => none
 | k + 1, x5, x42, x1000, x1001, x232000, x232001, x232002 => if x42 = true then ((spec_reader_number.f k x1000 x1001).bind fun bt253 => (some (3, x232001, bt253.2.2, ([] : List (S53)), ([] : List (S25)), bt253.1, bt253.2.1, bt253.2.2))) else ((spec_reader_word.f x1000 x1001 (⟨#[110, 117, 108, 108]⟩ : ByteArray)).bind fun bt256 => (if bt256.1 = true then (some (0, x232001, bt256.2.2, ([] : List (S53)), ([] : List (S25)), x5, bt256.2.1, bt256.2.2)) else ((spec_reader_word.f bt256.2.1 bt256.2.2 (⟨#[102, 97, 108, 115, 101]⟩ : ByteArray)).bind fun bt259 => (if bt259.1 = true then (some (1, x232001, bt259.2.2, ([] : List (S53)), ([] : List (S25)), x5, bt259.2.1, bt259.2.2)) else ((spec_reader_word.f bt259.2.1 bt259.2.2 (⟨#[116, 114, 117, 101]⟩ : ByteArray)).bind fun bt262 => (if bt262.1 = true then (some (2, x232001, bt262.2.2, ([] : List (S53)), ([] : List (S25)), x5, bt262.2.1, bt262.2.2)) else (some (x232000, x232001, bt262.2.2, ([] : List (S53)), ([] : List (S25)), false, bt262.2.1, bt262.2.2))))))))
def spec_reader_value.f (V_spec_reader_members : H_spec_reader_members) (V_spec_reader_elements : H_spec_reader_elements) (k : Nat) (s0_0 : ByteArray) (s0_1 : Int) : Option (Int × Int × Int × (List (S53)) × (List (S25)) × Bool × ByteArray × Int) := (spec_reader_here.f s0_0 s0_1).bind fun bt232 => (if bt232.1 = 123 then ((V_spec_reader_members.f k bt232.2.1 bt232.2.2).bind fun bt235 => (some (6, s0_1, bt235.2.2.2.2, bt235.1, bt235.2.1, bt235.2.2.1, bt235.2.2.2.1, bt235.2.2.2.2))) else (if bt232.1 = 91 then ((V_spec_reader_elements.f k bt232.2.1 bt232.2.2).bind fun bt244 => (some (5, s0_1, bt244.2.2.2, ([] : List (S53)), bt244.1, bt244.2.1, bt244.2.2.1, bt244.2.2.2))) else (if bt232.1 = 34 then ((spec_reader_quoted.f k bt232.2.1 bt232.2.2).bind fun bt250 => (some (4, s0_1, bt250.2.2, ([] : List (S53)), ([] : List (S25)), bt250.1, bt250.2.1, bt250.2.2))) else (if bt232.1 = 45 then (spec_reader_value.j0 V_spec_reader_members V_spec_reader_elements k true true bt232.2.1 bt232.2.2 0 s0_1 0) else (if 48 ≤ bt232.1 then (spec_reader_value.j0 V_spec_reader_members V_spec_reader_elements k true (decide (bt232.1 ≤ 57)) bt232.2.1 bt232.2.2 0 s0_1 0) else (spec_reader_value.j0 V_spec_reader_members V_spec_reader_elements k true false bt232.2.1 bt232.2.2 0 s0_1 0))))))
theorem spec_reader_value.mono_l (V_spec_reader_members : H_spec_reader_members) (V_spec_reader_elements : H_spec_reader_elements) : ∀ k, (∀ y0 y1 y2 y3 y4 y5 y6, LeO (spec_reader_value.j0 V_spec_reader_members V_spec_reader_elements k y0 y1 y2 y3 y4 y5 y6) (spec_reader_value.j0 V_spec_reader_members V_spec_reader_elements (k + 1) y0 y1 y2 y3 y4 y5 y6))
 | 0 => fun _ _ _ _ _ _ _ r h => by simp [spec_reader_value.j0] at h
 | k + 1 => by
  have ih0 := spec_reader_value.mono_l V_spec_reader_members V_spec_reader_elements k
  ·intro y0 y1 y2 y3 y4 y5 y6
   unfold spec_reader_value.j0
   repeat' first
   | (with_reducible exact ih0 _ _ _ _ _ _ _)
   | (with_reducible exact V_spec_reader_elements.mono _ _ _)
   | (with_reducible exact V_spec_reader_members.mono _ _ _)
   | (with_reducible exact spec_reader_number.mono _ _ _)
   | (with_reducible exact spec_reader_quoted.mono _ _ _)
   | (with_reducible exact LeO.refl _)
   | (with_reducible exact LeO.none _)
   | (with_reducible refine LeO.ite ?_ ?_)
   | (with_reducible refine LeO.bind ?_ (fun _ => ?_))
   | exact ih0 _ _ _ _ _ _ _
   | exact V_spec_reader_elements.mono _ _ _
   | exact V_spec_reader_members.mono _ _ _
   | exact spec_reader_number.mono _ _ _
   | exact spec_reader_quoted.mono _ _ _
   | exact LeO.none _
   | refine LeO.ite ?_ ?_
   | refine LeO.bind ?_ (fun _ => ?_)
theorem spec_reader_value.mono (V_spec_reader_members : H_spec_reader_members) (V_spec_reader_elements : H_spec_reader_elements) : ∀ a0 a1 k, LeO (spec_reader_value.f V_spec_reader_members V_spec_reader_elements k a0 a1) (spec_reader_value.f V_spec_reader_members V_spec_reader_elements (k + 1) a0 a1) := by
 intro a0 a1 k
 have ih0 := spec_reader_value.mono_l V_spec_reader_members V_spec_reader_elements k
 unfold spec_reader_value.f
 repeat' first
   | (with_reducible exact ih0 _ _ _ _ _ _ _)
   | (with_reducible exact V_spec_reader_elements.mono _ _ _)
   | (with_reducible exact V_spec_reader_members.mono _ _ _)
   | (with_reducible exact spec_reader_number.mono _ _ _)
   | (with_reducible exact spec_reader_quoted.mono _ _ _)
   | (with_reducible exact LeO.refl _)
   | (with_reducible exact LeO.none _)
   | (with_reducible refine LeO.ite ?_ ?_)
   | (with_reducible refine LeO.bind ?_ (fun _ => ?_))
   | exact ih0 _ _ _ _ _ _ _
   | exact V_spec_reader_elements.mono _ _ _
   | exact V_spec_reader_members.mono _ _ _
   | exact spec_reader_number.mono _ _ _
   | exact spec_reader_quoted.mono _ _ _
   | exact LeO.none _
   | refine LeO.ite ?_ ?_
   | refine LeO.bind ?_ (fun _ => ?_)
set_option maxHeartbeats 8000000 in
set_option maxRecDepth 100000 in
theorem spec_reader_value.calls (V_spec_reader_members : H_spec_reader_members) (V_spec_reader_elements : H_spec_reader_elements) (k : Nat) (g : Nat) (s0_0 : ByteArray) (s0_1 : Int) (r1 : Int) (r2 : Int) (r3 : Int) (r4 : List (S53)) (r5 : List (S25)) (r6 : Bool) (r7 : ByteArray) (r8 : Int) (w0 w : World) (hI : IsS47 w0 w g s0_0 s0_1) (hB : Below w0.heap.size w0 w) (h : spec_reader_value.f V_spec_reader_members V_spec_reader_elements k s0_0 s0_1 = some (r1, r2, r3, r4, r5, r6, r7, r8)) :
  Calls Try.prog 20 #[.pointer (some ⟨g, 0, none⟩)] w fun e w' => ∃ v3_ v4_ : Value, e = .returned (.tuple #[.agg #[.int .i64 r1, .int .i64 r2, .int .i64 r3, v3_, v4_], .bool r6]) ∧ Kd.R k53 53 w' w.heap.size (fun _ => True) v3_ r4 ∧ Kd.R k25 25 w' w.heap.size (fun k_ => some k_ ≠ (v3_ : Value).ownBlock) v4_ r5 ∧ IsS47 w0 w' g r7 r8 ∧ Below w0.heap.size w0 w' ∧ KeepBut w w' g none := by
 have hu25 := Try.underlying25
 have HI0 := Aside0.mk hI
 have HK := Aside0.mk (KeepBut.refl w g none)
 have HL := Aside0.mk hB.size
 clear hI
 have HW0 := Aside0.mk hB.size
 have HB := Aside0.mk hB
 clear hB
 have H : ((spec_reader_here.f s0_0 s0_1).bind fun bt232 => (if bt232.1 = 123 then ((V_spec_reader_members.f k bt232.2.1 bt232.2.2).bind fun bt235 => (some (6, s0_1, bt235.2.2.2.2, bt235.1, bt235.2.1, bt235.2.2.1, bt235.2.2.2.1, bt235.2.2.2.2))) else (if bt232.1 = 91 then ((V_spec_reader_elements.f k bt232.2.1 bt232.2.2).bind fun bt244 => (some (5, s0_1, bt244.2.2.2, ([] : List (S53)), bt244.1, bt244.2.1, bt244.2.2.1, bt244.2.2.2))) else (if bt232.1 = 34 then ((spec_reader_quoted.f k bt232.2.1 bt232.2.2).bind fun bt250 => (some (4, s0_1, bt250.2.2, ([] : List (S53)), ([] : List (S25)), bt250.1, bt250.2.1, bt250.2.2))) else (if bt232.1 = 45 then (spec_reader_value.j0 V_spec_reader_members V_spec_reader_elements k true true bt232.2.1 bt232.2.2 0 s0_1 0) else (if 48 ≤ bt232.1 then (spec_reader_value.j0 V_spec_reader_members V_spec_reader_elements k true (decide (bt232.1 ≤ 57)) bt232.2.1 bt232.2.2 0 s0_1 0) else (spec_reader_value.j0 V_spec_reader_members V_spec_reader_elements k true false bt232.2.1 bt232.2.2 0 s0_1 0))))))) = some (r1, r2, r3, r4, r5, r6, r7, r8) := h
 clear h
 replace H := Option.bind_eq_some_iff.mp H
 obtain ⟨⟨t232, t233, t234⟩, A20, H⟩ := H
 replace H : (if t232 = 123 then ((V_spec_reader_members.f k t233 t234).bind fun bt235 => (some (6, s0_1, bt235.2.2.2.2, bt235.1, bt235.2.1, bt235.2.2.1, bt235.2.2.2.1, bt235.2.2.2.2))) else (if t232 = 91 then ((V_spec_reader_elements.f k t233 t234).bind fun bt244 => (some (5, s0_1, bt244.2.2.2, ([] : List (S53)), bt244.1, bt244.2.1, bt244.2.2.1, bt244.2.2.2))) else (if t232 = 34 then ((spec_reader_quoted.f k t233 t234).bind fun bt250 => (some (4, s0_1, bt250.2.2, ([] : List (S53)), ([] : List (S25)), bt250.1, bt250.2.1, bt250.2.2))) else (if t232 = 45 then (spec_reader_value.j0 V_spec_reader_members V_spec_reader_elements k true true t233 t234 0 s0_1 0) else (if 48 ≤ t232 then (spec_reader_value.j0 V_spec_reader_members V_spec_reader_elements k true (decide (t232 ≤ 57)) t233 t234 0 s0_1 0) else (spec_reader_value.j0 V_spec_reader_members V_spec_reader_elements k true false t233 t234 0 s0_1 0)))))) = some (r1, r2, r3, r4, r5, r6, r7, r8) := H
 have A2 := Aside0.mk A20
 clear A20
 by_cases c3 : t232 = 123
 ·rw [if_pos c3] at H
  have c3b0 : (t232 == 123) = true := beq_iff_eq.mpr c3
  have c3b1 : (t232 != 123) = false := bne_eq_false_iff_eq.mpr c3
  clear c3
  replace H := Option.bind_eq_some_iff.mp H
  obtain ⟨⟨t235, t238, t241, t242, t243⟩, A40, H⟩ := H
  replace H : (some (6, s0_1, t243, t235, t238, t241, t242, t243)) = some (r1, r2, r3, r4, r5, r6, r7, r8) := H
  have A4 := Aside0.mk A40
  clear A40
  ·
   simp only [Option.some.injEq, Prod.mk.injEq] at H
   obtain ⟨rfl, rfl, rfl, rfl, rfl, rfl, rfl, rfl⟩ := H
   exact Z4
 ·rw [if_neg c3] at H
  have c3b0 : (t232 == 123) = false := beq_eq_false_iff_ne.mpr c3
  have c3b1 : (t232 != 123) = true := bne_iff_ne.mpr c3
  by_cases c20 : t232 = 91
  ·rw [if_pos c20] at H
   have c20b0 : (t232 == 91) = true := beq_iff_eq.mpr c20
   have c20b1 : (t232 != 91) = false := bne_eq_false_iff_eq.mpr c20
   clear c20
   replace H := Option.bind_eq_some_iff.mp H
   obtain ⟨⟨t244, t247, t248, t249⟩, A210, H⟩ := H
   replace H : (some (5, s0_1, t249, ([] : List (S53)), t244, t247, t248, t249)) = some (r1, r2, r3, r4, r5, r6, r7, r8) := H
   have A21 := Aside0.mk A210
   clear A210
   ·
    simp only [Option.some.injEq, Prod.mk.injEq] at H
    obtain ⟨rfl, rfl, rfl, rfl, rfl, rfl, rfl, rfl⟩ := H
    exact Z4
  ·rw [if_neg c20] at H
   have c20b0 : (t232 == 91) = false := beq_eq_false_iff_ne.mpr c20
   have c20b1 : (t232 != 91) = true := bne_iff_ne.mpr c20
   by_cases c36 : t232 = 34
   ·rw [if_pos c36] at H
    have c36b0 : (t232 == 34) = true := beq_iff_eq.mpr c36
    have c36b1 : (t232 != 34) = false := bne_eq_false_iff_eq.mpr c36
    clear c36
    replace H := Option.bind_eq_some_iff.mp H
    obtain ⟨⟨t250, t251, t252⟩, A370, H⟩ := H
    replace H : (some (4, s0_1, t252, ([] : List (S53)), ([] : List (S25)), t250, t251, t252)) = some (r1, r2, r3, r4, r5, r6, r7, r8) := H
    have A37 := Aside0.mk A370
    clear A370
    ·
     simp only [Option.some.injEq, Prod.mk.injEq] at H
     obtain ⟨rfl, rfl, rfl, rfl, rfl, rfl, rfl, rfl⟩ := H
     exact Z4
   ·rw [if_neg c36] at H
    have c36b0 : (t232 == 34) = false := beq_eq_false_iff_ne.mpr c36
    have c36b1 : (t232 != 34) = true := bne_iff_ne.mpr c36
    have HC51 := Aside0.mk H
    clear H
    go_enter Try.func20, Try.ntmps20
    go_upto_region 14 with (first | ((with_reducible refine gate_dst (N := 2) rfl ?_); refine box_event ?hg (N := 2) ?hd (cs := #[.int .i64 0, .int .i64 0, .int .i64 0, .slice none 0 0, .slice none 0 0]) (t := 25) ?hr ?_; (case hd => rfl); (case hg => rfl); (case hr => exact Z62); intro gb230 hg w52 hbox hb; have n0_ := Aside0.mk (IsS47.below Z6 hb); have n1_ := Aside0.mk (KeepBut.trans Z9 (KeepBut.of_below hb g none) (.inl rfl)); have n2_ := Aside0.mk (below_step Z8 hb); have n3_ := Aside0.mk (hbox); have n4_ := Aside0.mk ((by rw [hg]; exact (keep_size (w := w) (g := g) (row := none) Z9) : w.heap.size ≤ gb230)); have n5_ := Aside0.mk ((Nat.le_trans HW0.out (by rw [hg]; exact (keep_size (w := w) (g := g) (row := none) Z9) : w.heap.size ≤ gb230) : w0.heap.size ≤ gb230)); have n6_ := Aside0.mk ((by rw [hg]; exact Nat.ne_of_lt (IsS47.lt (show IsS47 w0 _ g s0_0 s0_1 from Z6)) : g ≠ gb230)); have n7_ := Aside0.mk ((by rw [hg]; exact Nat.ne_of_gt (IsS47.lt (show IsS47 w0 _ g s0_0 s0_1 from Z6)) : gb230 ≠ g)); clear HI0; clear HK; clear HB; have HI0 := n0_; have HK := n1_; have HB := n2_; have BK230 := n3_; have GW230 := n4_; have GE230 := n5_; have NB0_230 := n6_; have NB230_0 := n7_; clear n0_ n1_ n2_ n3_ n4_ n5_ n6_ n7_; clear hb hbox hg; obtain ⟨HGz53, hgz53⟩ := HI0.out; have hcz53_0 := cellS47_0 HGz53; have hcz53_1 := cellS47_1 HGz53; have hfz53_0 := blk_frozen HGz53 0; have hfz53_1 := blk_frozen HGz53 1; clear HGz53 hgz53) | ((with_reducible refine gate_dst (N := 4) rfl ?_); refine box_event ?hg (N := 4) ?hd (cs := #[.int .i64 0, .int .i64 0, .int .i64 0, .slice none 0 0, .slice none 0 0]) (t := 25) ?hr ?_; (case hd => rfl); (case hg => rfl); (case hr => exact Z62); intro gb231 hg w54 hbox hb; have n0_ := Aside0.mk (IsS47.below Z86 hb); have n1_ := Aside0.mk (blk_below (g := gb230) (o := .cells #[.int .i64 0, .int .i64 0, .int .i64 0, .slice none 0 0, .slice none 0 0] 25 (0, 0)) Z59 hb); have n2_ := Aside0.mk (KeepBut.trans Z94 (KeepBut.of_below hb g none) (.inl rfl)); have n3_ := Aside0.mk (below_step Z162 hb); have n4_ := Aside0.mk (hbox); have n5_ := Aside0.mk ((by rw [hg]; exact (keep_size (w := w) (g := g) (row := none) Z94) : w.heap.size ≤ gb231)); have n6_ := Aside0.mk ((Nat.le_trans HW0.out (by rw [hg]; exact (keep_size (w := w) (g := g) (row := none) Z94) : w.heap.size ≤ gb231) : w0.heap.size ≤ gb231)); have n7_ := Aside0.mk ((by rw [hg]; exact Nat.ne_of_lt (blk_lt (g := gb230) (o := .cells #[.int .i64 0, .int .i64 0, .int .i64 0, .slice none 0 0, .slice none 0 0] 25 (0, 0)) Z59) : gb230 ≠ gb231)); have n8_ := Aside0.mk ((by rw [hg]; exact Nat.ne_of_gt (blk_lt (g := gb230) (o := .cells #[.int .i64 0, .int .i64 0, .int .i64 0, .slice none 0 0, .slice none 0 0] 25 (0, 0)) Z59) : gb231 ≠ gb230)); have n9_ := Aside0.mk ((by rw [hg]; exact Nat.ne_of_lt (IsS47.lt (show IsS47 w0 _ g s0_0 s0_1 from Z86)) : g ≠ gb231)); have n10_ := Aside0.mk ((by rw [hg]; exact Nat.ne_of_gt (IsS47.lt (show IsS47 w0 _ g s0_0 s0_1 from Z86)) : gb231 ≠ g)); clear HI0; clear BK230; clear HK; clear HB; have HI0 := n0_; have BK230 := n1_; have HK := n2_; have HB := n3_; have BK231 := n4_; have GW231 := n5_; have GE231 := n6_; have NB230_231 := n7_; have NB231_230 := n8_; have NB0_231 := n9_; have NB231_0 := n10_; clear n0_ n1_ n2_ n3_ n4_ n5_ n6_ n7_ n8_ n9_ n10_; clear hb hbox hg; have hnb55 := NB231_230.out; have hnc55 := NB230_231.out; have hnb56 := NB231_0.out; have hnc56 := NB0_231.out; have hcz57_0 : w54.cell? ⟨gb231, 0, none⟩ = some (.int .i64 0) := (blk_cell BK231.out 0).trans rfl; have hcz57_1 : w54.cell? ⟨gb231, 1, none⟩ = some (.int .i64 0) := (blk_cell BK231.out 1).trans rfl; have hcz57_2 : w54.cell? ⟨gb231, 2, none⟩ = some (.int .i64 0) := (blk_cell BK231.out 2).trans rfl; have hcz57_3 : w54.cell? ⟨gb231, 3, none⟩ = some (.slice none 0 0) := (blk_cell BK231.out 3).trans rfl; have hcz57_4 : w54.cell? ⟨gb231, 4, none⟩ = some (.slice none 0 0) := (blk_cell BK231.out 4).trans rfl; have hfz57_0 := blk_frozen BK231.out 0; have hfz57_1 := blk_frozen BK231.out 1; have hfz57_2 := blk_frozen BK231.out 2; have hfz57_3 := blk_frozen BK231.out 3; have hfz57_4 := blk_frozen BK231.out 4) | ((with_reducible refine gate_callee (f := 26) rfl ?_); refine goesL_ (some 13) rfl rfl Try.func26 (by kernel_rfl) rfl #[.pointer (some ⟨g, 0, none⟩)] rfl Z13 ?_; (with_reducible refine (spec_reader_here.calls g s0_0 s0_1 t232 t233 t234 w0 _ ?side1 ?side2 A2.out).mono ?_); (case side1 => exact Z21); (case side2 => exact Z23); rintro e w58 ⟨rfl, hi, hb, hk⟩; refine ⟨_, rfl, ?_⟩; have n0_ := Aside0.mk (KeepBut.blk hk (g' := gb230) (o := .cells #[.int .i64 0, .int .i64 0, .int .i64 0, .slice none 0 0, .slice none 0 0] 25 (0, 0)) Z95 NB230_0.out (by simp)); have n1_ := Aside0.mk (KeepBut.blk hk (g' := gb231) (o := .cells #[.int .i64 0, .int .i64 s0_1, .int .i64 0, .slice none 0 0, .slice none 0 0] 25 (0, 0)) Z75 NB231_0.out (by simp)); have n2_ := Aside0.mk (KeepBut.trans Z22 hk (.inl rfl)); have n3_ := Aside0.mk (hb); have n4_ := Aside0.mk (hi); clear BK230; clear BK231; clear HK; clear HB; clear HI0; have BK230 := n0_; have BK231 := n1_; have HK := n2_; have HB := n3_; have HI0 := n4_; clear n0_ n1_ n2_ n3_ n4_; (try clear hb); (try clear hb2); (try clear hk); (try clear hi)))
    (try simp only [Act.put, List.setIfInBounds_toArray, List.set_cons_zero, List.set_cons_succ])
    go_cut [42] from 7 to 37 (fun v42 wc => ∃ (kq : Nat) (x42_50 : Bool), v42 = .bool x42_50 ∧ Aside0 (spec_reader_value.j0 V_spec_reader_members V_spec_reader_elements kq true x42_50 t233 t234 0 s0_1 0 = some (r1, r2, r3, r4, r5, r6, r7, r8)) ∧ Aside0 (kq ≤ k) ∧ Aside0 (wc.heap[gb230]? = some (.cells #[.int .i64 0, .int .i64 0, .int .i64 0, (.slice none 0 0), (.slice none 0 0)] 25 (0, 0))) ∧ Aside0 (wc.heap[gb231]? = some (.cells #[.int .i64 0, .int .i64 s0_1, .int .i64 0, (.slice none 0 0), (.slice none 0 0)] 25 (0, 0))) ∧ Aside0 (IsS47 w0 wc g t233 t234) ∧ Aside0 (KeepBut w wc g none) ∧ Aside0 (Below w0.heap.size w0 wc))
    case first =>
     have H := HC51.out
     clear HC51
     by_cases c59 : t232 = 45
     ·rw [if_pos c59] at H
      have c59b0 : (t232 == 45) = true := beq_iff_eq.mpr c59
      have c59b1 : (t232 != 45) = false := bne_eq_false_iff_eq.mpr c59
      clear c59
      (first | rw [c59b0] | (simp only [i64_w, i32_w]; rw [c59b0]) | skip)
      ·
       have H' := Aside0.mk H
       clear H
       go_wp2
       go_meet
       case rel => exact ⟨_, (true), Z16, H', ⟨Z88⟩, ⟨Z59⟩, ⟨Z92⟩, ⟨Z21⟩, ⟨Z22⟩, ⟨Z23⟩⟩
     ·rw [if_neg c59] at H
      have c59b0 : (t232 == 45) = false := beq_eq_false_iff_ne.mpr c59
      have c59b1 : (t232 != 45) = true := bne_iff_ne.mpr c59
      (first | rw [c59b0] | (simp only [i64_w, i32_w]; rw [c59b0]) | skip)
      by_cases c60 : 48 ≤ t232
      ·rw [if_pos c60] at H
       have c60b0 : decide (48 ≤ t232) = true := decide_eq_true c60
       clear c60
       ·
        have H' := Aside0.mk H
        clear H
        go_wp2
        go_meet
        case rel => exact ⟨_, (decide (t232 ≤ 57)), Z16, H', ⟨Z88⟩, ⟨Z59⟩, ⟨Z92⟩, ⟨Z21⟩, ⟨Z22⟩, ⟨Z23⟩⟩
      ·rw [if_neg c60] at H
       have c60b0 : decide (48 ≤ t232) = false := decide_eq_false c60
       clear c60
       ·
        have H' := Aside0.mk H
        clear H
        go_wp2
        go_meet
        case rel => exact ⟨_, (false), Z16, H', ⟨Z88⟩, ⟨Z59⟩, ⟨Z92⟩, ⟨Z21⟩, ⟨Z22⟩, ⟨Z23⟩⟩
    case rest =>
     clear HC51
     try clear c3
     try clear c3b0
     try clear c3b1
     try clear c20
     try clear c20b0
     try clear c20b1
     try clear c36
     try clear c36b0
     try clear c36b1
     try clear hcz53_0
     try clear hcz53_1
     try clear hcz57_0
     try clear hcz57_1
     try clear hcz57_2
     try clear hcz57_3
     try clear hcz57_4
     try clear hfz53_0
     try clear hfz53_1
     try clear hfz57_0
     try clear hfz57_1
     try clear hfz57_2
     try clear hfz57_3
     try clear hfz57_4
     obtain ⟨kq, x42_50, rfl, HA, HJ50, BK230, BK231, HI0, HK, HB⟩ := hcut
     cases kq with
     | zero => exact absurd HA.out (by simp [spec_reader_value.j0])
     | succ kj50 =>
      have H := HA.out
      clear HA
      simp only [spec_reader_value.j0] at H
      by_cases c61 : x42_50 = true
      ·subst c61
       have H1 : ((spec_reader_number.f kj50 t233 t234).bind fun bt253 => (some (3, s0_1, bt253.2.2, ([] : List (S53)), ([] : List (S25)), bt253.1, bt253.2.1, bt253.2.2))) = some (r1, r2, r3, r4, r5, r6, r7, r8) := Z61
       clear H
       have H := H1
       clear H1
       replace H := Option.bind_eq_some_iff.mp H
       obtain ⟨⟨t253, t254, t255⟩, A620, H⟩ := H
       replace H : (some (3, s0_1, t255, ([] : List (S53)), ([] : List (S25)), t253, t254, t255)) = some (r1, r2, r3, r4, r5, r6, r7, r8) := H
       have A62 := Aside0.mk A620
       clear A620
       ·
        simp only [Option.some.injEq, Prod.mk.injEq] at H
        obtain ⟨rfl, rfl, rfl, rfl, rfl, rfl, rfl, rfl⟩ := H
        have hnb63 := NB231_230.out
        have hnc63 := NB230_231.out
        have hnb64 := NB231_0.out
        have hnc64 := NB0_231.out
        have hcz65_0 : wc.cell? ⟨gb231, 0, none⟩ = some (.int .i64 0) := (blk_cell BK231.out 0).trans rfl
        have hcz65_1 : wc.cell? ⟨gb231, 1, none⟩ = some (.int .i64 s0_1) := (blk_cell BK231.out 1).trans rfl
        have hcz65_2 : wc.cell? ⟨gb231, 2, none⟩ = some (.int .i64 0) := (blk_cell BK231.out 2).trans rfl
        have hcz65_3 : wc.cell? ⟨gb231, 3, none⟩ = some (.slice none 0 0) := (blk_cell BK231.out 3).trans rfl
        have hcz65_4 : wc.cell? ⟨gb231, 4, none⟩ = some (.slice none 0 0) := (blk_cell BK231.out 4).trans rfl
        have hfz65_0 := blk_frozen BK231.out 0
        have hfz65_1 := blk_frozen BK231.out 1
        have hfz65_2 := blk_frozen BK231.out 2
        have hfz65_3 := blk_frozen BK231.out 3
        have hfz65_4 := blk_frozen BK231.out 4
        exact Z1
      ·replace c61 := Bool.eq_false_iff.mpr c61
       subst c61
       have H1 : ((spec_reader_word.f t233 t234 (⟨#[110, 117, 108, 108]⟩ : ByteArray)).bind fun bt256 => (if bt256.1 = true then (some (0, s0_1, bt256.2.2, ([] : List (S53)), ([] : List (S25)), true, bt256.2.1, bt256.2.2)) else ((spec_reader_word.f bt256.2.1 bt256.2.2 (⟨#[102, 97, 108, 115, 101]⟩ : ByteArray)).bind fun bt259 => (if bt259.1 = true then (some (1, s0_1, bt259.2.2, ([] : List (S53)), ([] : List (S25)), true, bt259.2.1, bt259.2.2)) else ((spec_reader_word.f bt259.2.1 bt259.2.2 (⟨#[116, 114, 117, 101]⟩ : ByteArray)).bind fun bt262 => (if bt262.1 = true then (some (2, s0_1, bt262.2.2, ([] : List (S53)), ([] : List (S25)), true, bt262.2.1, bt262.2.2)) else (some (0, s0_1, bt262.2.2, ([] : List (S53)), ([] : List (S25)), false, bt262.2.1, bt262.2.2)))))))) = some (r1, r2, r3, r4, r5, r6, r7, r8) := Z34
       clear H
       have H := H1
       clear H1
       replace H := Option.bind_eq_some_iff.mp H
       obtain ⟨⟨t256, t257, t258⟩, A710, H⟩ := H
       replace H : (if t256 = true then (some (0, s0_1, t258, ([] : List (S53)), ([] : List (S25)), true, t257, t258)) else ((spec_reader_word.f t257 t258 (⟨#[102, 97, 108, 115, 101]⟩ : ByteArray)).bind fun bt259 => (if bt259.1 = true then (some (1, s0_1, bt259.2.2, ([] : List (S53)), ([] : List (S25)), true, bt259.2.1, bt259.2.2)) else ((spec_reader_word.f bt259.2.1 bt259.2.2 (⟨#[116, 114, 117, 101]⟩ : ByteArray)).bind fun bt262 => (if bt262.1 = true then (some (2, s0_1, bt262.2.2, ([] : List (S53)), ([] : List (S25)), true, bt262.2.1, bt262.2.2)) else (some (0, s0_1, bt262.2.2, ([] : List (S53)), ([] : List (S25)), false, bt262.2.1, bt262.2.2))))))) = some (r1, r2, r3, r4, r5, r6, r7, r8) := H
       have A71 := Aside0.mk A710
       clear A710
       by_cases c72 : t256 = true
       ·subst c72
        have H1 : (some (0, s0_1, t258, ([] : List (S53)), ([] : List (S25)), true, t257, t258)) = some (r1, r2, r3, r4, r5, r6, r7, r8) := Z61
        clear H
        have H := H1
        clear H1
        ·
         simp only [Option.some.injEq, Prod.mk.injEq] at H
         obtain ⟨rfl, rfl, rfl, rfl, rfl, rfl, rfl, rfl⟩ := H
         exact Z1
       ·replace c72 := Bool.eq_false_iff.mpr c72
        subst c72
        have H1 : ((spec_reader_word.f t257 t258 (⟨#[102, 97, 108, 115, 101]⟩ : ByteArray)).bind fun bt259 => (if bt259.1 = true then (some (1, s0_1, bt259.2.2, ([] : List (S53)), ([] : List (S25)), true, bt259.2.1, bt259.2.2)) else ((spec_reader_word.f bt259.2.1 bt259.2.2 (⟨#[116, 114, 117, 101]⟩ : ByteArray)).bind fun bt262 => (if bt262.1 = true then (some (2, s0_1, bt262.2.2, ([] : List (S53)), ([] : List (S25)), true, bt262.2.1, bt262.2.2)) else (some (0, s0_1, bt262.2.2, ([] : List (S53)), ([] : List (S25)), false, bt262.2.1, bt262.2.2)))))) = some (r1, r2, r3, r4, r5, r6, r7, r8) := Z34
        clear H
        have H := H1
        clear H1
        replace H := Option.bind_eq_some_iff.mp H
        obtain ⟨⟨t259, t260, t261⟩, A800, H⟩ := H
        replace H : (if t259 = true then (some (1, s0_1, t261, ([] : List (S53)), ([] : List (S25)), true, t260, t261)) else ((spec_reader_word.f t260 t261 (⟨#[116, 114, 117, 101]⟩ : ByteArray)).bind fun bt262 => (if bt262.1 = true then (some (2, s0_1, bt262.2.2, ([] : List (S53)), ([] : List (S25)), true, bt262.2.1, bt262.2.2)) else (some (0, s0_1, bt262.2.2, ([] : List (S53)), ([] : List (S25)), false, bt262.2.1, bt262.2.2))))) = some (r1, r2, r3, r4, r5, r6, r7, r8) := H
        have A80 := Aside0.mk A800
        clear A800
        by_cases c81 : t259 = true
        ·subst c81
         have H1 : (some (1, s0_1, t261, ([] : List (S53)), ([] : List (S25)), true, t260, t261)) = some (r1, r2, r3, r4, r5, r6, r7, r8) := Z61
         clear H
         have H := H1
         clear H1
         ·
          simp only [Option.some.injEq, Prod.mk.injEq] at H
          obtain ⟨rfl, rfl, rfl, rfl, rfl, rfl, rfl, rfl⟩ := H
          exact Z1
        ·replace c81 := Bool.eq_false_iff.mpr c81
         subst c81
         have H1 : ((spec_reader_word.f t260 t261 (⟨#[116, 114, 117, 101]⟩ : ByteArray)).bind fun bt262 => (if bt262.1 = true then (some (2, s0_1, bt262.2.2, ([] : List (S53)), ([] : List (S25)), true, bt262.2.1, bt262.2.2)) else (some (0, s0_1, bt262.2.2, ([] : List (S53)), ([] : List (S25)), false, bt262.2.1, bt262.2.2)))) = some (r1, r2, r3, r4, r5, r6, r7, r8) := Z34
         clear H
         have H := H1
         clear H1
         replace H := Option.bind_eq_some_iff.mp H
         obtain ⟨⟨t262, t263, t264⟩, A900, H⟩ := H
         replace H : (if t262 = true then (some (2, s0_1, t264, ([] : List (S53)), ([] : List (S25)), true, t263, t264)) else (some (0, s0_1, t264, ([] : List (S53)), ([] : List (S25)), false, t263, t264))) = some (r1, r2, r3, r4, r5, r6, r7, r8) := H
         have A90 := Aside0.mk A900
         clear A900
         by_cases c91 : t262 = true
         ·subst c91
          have H1 : (some (2, s0_1, t264, ([] : List (S53)), ([] : List (S25)), true, t263, t264)) = some (r1, r2, r3, r4, r5, r6, r7, r8) := Z61
          clear H
          have H := H1
          clear H1
          ·
           simp only [Option.some.injEq, Prod.mk.injEq] at H
           obtain ⟨rfl, rfl, rfl, rfl, rfl, rfl, rfl, rfl⟩ := H
           exact Z1
         ·replace c91 := Bool.eq_false_iff.mpr c91
          subst c91
          have H1 : (some (0, s0_1, t264, ([] : List (S53)), ([] : List (S25)), false, t263, t264)) = some (r1, r2, r3, r4, r5, r6, r7, r8) := Z34
          clear H
          have H := H1
          clear H1
          ·
           simp only [Option.some.injEq, Prod.mk.injEq] at H
           obtain ⟨rfl, rfl, rfl, rfl, rfl, rfl, rfl, rfl⟩ := H
           exact Z1
structure Knot_spec_reader_value where
 k_spec_reader_members : H_spec_reader_members
 k_spec_reader_elements : H_spec_reader_elements
 k_spec_reader_value : H_spec_reader_value
def knot_spec_reader_value : Nat → Knot_spec_reader_value
 | 0 => ⟨⟨fun _ _ _ => none, fun _ _ _ _ h => (by cases h), by intros; rename_i h; cases h⟩, ⟨fun _ _ _ => none, fun _ _ _ _ h => (by cases h), by intros; rename_i h; cases h⟩, ⟨fun _ _ _ => none, fun _ _ _ _ h => (by cases h), by intros; rename_i h; cases h⟩⟩
 | n + 1 => let K := knot_spec_reader_value n; ⟨⟨fun k => spec_reader_members.f K.k_spec_reader_value k, spec_reader_members.mono K.k_spec_reader_value, spec_reader_members.calls K.k_spec_reader_value⟩, ⟨fun k => spec_reader_elements.f K.k_spec_reader_value k, spec_reader_elements.mono K.k_spec_reader_value, spec_reader_elements.calls K.k_spec_reader_value⟩, ⟨fun k => spec_reader_value.f K.k_spec_reader_members K.k_spec_reader_elements k, spec_reader_value.mono K.k_spec_reader_members K.k_spec_reader_elements, spec_reader_value.calls K.k_spec_reader_members K.k_spec_reader_elements⟩⟩
def spec_reader_members.at_ (D : Nat) : H_spec_reader_members := (knot_spec_reader_value D).k_spec_reader_members
def spec_reader_elements.at_ (D : Nat) : H_spec_reader_elements := (knot_spec_reader_value D).k_spec_reader_elements
def spec_reader_value.at_ (D : Nat) : H_spec_reader_value := (knot_spec_reader_value D).k_spec_reader_value
end Go.Proofs.Ytkbeiidjagodnaa.Pr

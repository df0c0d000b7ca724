-- written by a program of this session (wip/tools), for this seat
import Derived.Test.YtkbeiidjagodnaaPrx0
import Derived.Test.YtkbeiidjagodnaaPrx1
import Derived.Test.YtkbeiidjagodnaaPrx2
import Derived.Test.YtkbeiidjagodnaaPrx3
namespace Go.Proofs.Ytkbeiidjagodnaa.Pr
open Go.RowKit Go.Proofs.YtkbeiidjagodnaaW.PrintWords Go.Proofs.YtkbeiidjagodnaaW.PrintLast Go.Proofs.YtkbeiidjagodnaaW.PrintMore
attribute [local go_sem] max2_int min2_int max_two min_two max_three min_three max_four min_four   -- for this text's walks alone
set_option linter.unusedVariables false
set_option linter.unusedSimpArgs false
structure H_spec_reader_members where
 f : Nat → ByteArray → Int → Option ((List (S53)) × (List (S25)) × Bool × ByteArray × Int)
 mono : ∀ a0 a1 k, LeO (f k a0 a1) (f (k + 1) a0 a1)
 calls : ∀ (k : Nat) (g : Nat) (s0_0 : ByteArray) (s0_1 : Int) (r1 : List (S53)) (r2 : List (S25)) (r3 : Bool) (r4 : ByteArray) (r5 : Int) (w0 w : World) (hI : IsS47 w0 w g s0_0 s0_1) (hB : Below w0.heap.size w0 w) (h : f k s0_0 s0_1 = some (r1, r2, r3, r4, r5)),
  Calls Try.prog 27 #[.pointer (some ⟨g, 0, none⟩)] w fun e w' => ∃ v0_ v1_ : Value, e = .returned (.tuple #[v0_, v1_, .bool r3]) ∧ Kd.R k53 53 w' w.heap.size (fun _ => True) v0_ r1 ∧ Kd.R k25 25 w' w.heap.size (fun k_ => some k_ ≠ (v0_ : Value).ownBlock) v1_ r2 ∧ IsS47 w0 w' g r4 r5 ∧ Below w0.heap.size w0 w' ∧ KeepBut w w' g none
structure H_spec_reader_elements where
 f : Nat → ByteArray → Int → Option ((List (S25)) × Bool × ByteArray × Int)
 mono : ∀ a0 a1 k, LeO (f k a0 a1) (f (k + 1) a0 a1)
 calls : ∀ (k : Nat) (g : Nat) (s0_0 : ByteArray) (s0_1 : Int) (r1 : List (S25)) (r2 : Bool) (r3 : ByteArray) (r4 : Int) (w0 w : World) (hI : IsS47 w0 w g s0_0 s0_1) (hB : Below w0.heap.size w0 w) (h : f k s0_0 s0_1 = some (r1, r2, r3, r4)),
  Calls Try.prog 28 #[.pointer (some ⟨g, 0, none⟩)] w fun e w' => ∃ v0_ : Value, e = .returned (.tuple #[v0_, .bool r2]) ∧ Kd.R k25 25 w' w.heap.size (fun _ => True) v0_ r1 ∧ IsS47 w0 w' g r3 r4 ∧ Below w0.heap.size w0 w' ∧ KeepBut w w' g none
structure H_spec_reader_value where
 f : Nat → ByteArray → Int → Option (Int × Int × Int × (List (S53)) × (List (S25)) × Bool × ByteArray × Int)
 mono : ∀ a0 a1 k, LeO (f k a0 a1) (f (k + 1) a0 a1)
 calls : ∀ (k : Nat) (g : Nat) (s0_0 : ByteArray) (s0_1 : Int) (r1 : Int) (r2 : Int) (r3 : Int) (r4 : List (S53)) (r5 : List (S25)) (r6 : Bool) (r7 : ByteArray) (r8 : Int) (w0 w : World) (hI : IsS47 w0 w g s0_0 s0_1) (hB : Below w0.heap.size w0 w) (h : f k s0_0 s0_1 = some (r1, r2, r3, r4, r5, r6, r7, r8)),
  Calls Try.prog 20 #[.pointer (some ⟨g, 0, none⟩)] w fun e w' => ∃ v3_ v4_ : Value, e = .returned (.tuple #[.agg #[.int .i64 r1, .int .i64 r2, .int .i64 r3, v3_, v4_], .bool r6]) ∧ Kd.R k53 53 w' w.heap.size (fun _ => True) v3_ r4 ∧ Kd.R k25 25 w' w.heap.size (fun k_ => some k_ ≠ (v3_ : Value).ownBlock) v4_ r5 ∧ IsS47 w0 w' g r7 r8 ∧ Below w0.heap.size w0 w' ∧ KeepBut w w' g none
/-! ### spec_reader_members: function 27 -/
mutual
def spec_reader_members.l0 (V_spec_reader_value : H_spec_reader_value) : Nat → List (S53) → List (S25) → ByteArray → Int → Option ((List (S53)) × (List (S25)) × Bool × ByteArray × Int)
 | 0, _, _, _, _ => none
 | k + 1, x5, x6, x1000, x1001 => (spec_reader_here.f x1000 x1001).bind fun bt118 => (if bt118.1 = 34 then ((spec_reader_quoted.f k bt118.2.1 bt118.2.2).bind fun bt121 => (spec_reader_members.j1 V_spec_reader_value k x5 x6 x1001 (!bt121.1) bt121.2.1 bt121.2.2)) else (spec_reader_members.j1 V_spec_reader_value k x5 x6 x1001 true bt118.2.1 bt118.2.2))
def spec_reader_members.j1 (V_spec_reader_value : H_spec_reader_value) : Nat → List (S53) → List (S25) → Int → Bool → ByteArray → Int → Option ((List (S53)) × (List (S25)) × Bool × ByteArray × Int)
 | 0, _, _, _, _, _, _ => none
 | k + 1, x5, x6, x7, x32, x1000, x1001 => if x32 = true then (some (([] : List (S53)), ([] : List (S25)), false, x1000, x1001)) else (if x5.length < 8796093022208 then ((some (x5 ++ [(⟨x7, x1001⟩ : S53)] : List (S53))).bind fun y124 => ((spec_reader_blanks.f k x1000 x1001).bind fun bt127 => ((spec_reader_take.f bt127.1 bt127.2 58).bind fun bt129 => (if bt129.1 = true then ((spec_reader_blanks.f k bt129.2.1 bt129.2.2).bind fun bt132 => ((V_spec_reader_value.f k bt132.1 bt132.2).bind fun bt134 => (if bt134.2.2.2.2.2.1 = true then (if x6.length < 1954687338268 then ((some (x6 ++ [(⟨bt134.1, bt134.2.1, bt134.2.2.1, bt134.2.2.2.1, bt134.2.2.2.2.1⟩ : S25)] : List (S25))).bind fun y147 => ((spec_reader_blanks.f k bt134.2.2.2.2.2.2.1 bt134.2.2.2.2.2.2.2).bind fun bt150 => ((spec_reader_take.f bt150.1 bt150.2 125).bind fun bt152 => (if bt152.1 = true then (some (y124, y147, true, bt152.2.1, bt152.2.2)) else ((spec_reader_take.f bt152.2.1 bt152.2.2 44).bind fun bt155 => (if bt155.1 = true then ((spec_reader_blanks.f k bt155.2.1 bt155.2.2).bind fun bt158 => (spec_reader_members.l0 V_spec_reader_value k y124 y147 bt158.1 bt158.2)) else (some (([] : List (S53)), ([] : List (S25)), false, bt155.2.1, bt155.2.2)))))))) else (none)) else (some (([] : List (S53)), ([] : List (S25)), false, bt134.2.2.2.2.2.2.1, bt134.2.2.2.2.2.2.2))))) else (some (([] : List (S53)), ([] : List (S25)), false, bt129.2.1, bt129.2.2)))))) else (none))
end
def spec_reader_members.f (V_spec_reader_value : H_spec_reader_value) (k : Nat) (s0_0 : ByteArray) (s0_1 : Int) : Option ((List (S53)) × (List (S25)) × Bool × ByteArray × Int) := (spec_reader_blanks.f k s0_0 (wrap64 (s0_1 + 1))).bind fun bt113 => ((spec_reader_take.f bt113.1 bt113.2 125).bind fun bt115 => (if bt115.1 = true then (some (([] : List (S53)), ([] : List (S25)), true, bt115.2.1, bt115.2.2)) else (spec_reader_members.l0 V_spec_reader_value k ([] : List (S53)) ([] : List (S25)) bt115.2.1 bt115.2.2)))
theorem spec_reader_members.mono_l (V_spec_reader_value : H_spec_reader_value) : ∀ k, (∀ y0 y1 y2 y3, LeO (spec_reader_members.l0 V_spec_reader_value k y0 y1 y2 y3) (spec_reader_members.l0 V_spec_reader_value (k + 1) y0 y1 y2 y3)) ∧ (∀ y0 y1 y2 y3 y4 y5, LeO (spec_reader_members.j1 V_spec_reader_value k y0 y1 y2 y3 y4 y5) (spec_reader_members.j1 V_spec_reader_value (k + 1) y0 y1 y2 y3 y4 y5))
 | 0 => ⟨fun _ _ _ _ r h => by simp [spec_reader_members.l0] at h, fun _ _ _ _ _ _ r h => by simp [spec_reader_members.j1] at h⟩
 | k + 1 => by
  obtain ⟨ih0, ih1⟩ := spec_reader_members.mono_l V_spec_reader_value k
  refine ⟨?_, ?_⟩ <;> intros <;> first | unfold spec_reader_members.l0 | unfold spec_reader_members.j1
  all_goals
   repeat' first
   | (with_reducible exact ih0 _ _ _ _)
   | (with_reducible exact ih1 _ _ _ _ _ _)
   | (with_reducible exact V_spec_reader_value.mono _ _ _)
   | (with_reducible exact spec_reader_blanks.mono _ _ _)
   | (with_reducible exact spec_reader_quoted.mono _ _ _)
   | (with_reducible exact LeO.refl _)
   | (with_reducible exact LeO.none _)
   | (with_reducible refine LeO.ite ?_ ?_)
   | (with_reducible refine LeO.bind ?_ (fun _ => ?_))
   | exact ih0 _ _ _ _
   | exact ih1 _ _ _ _ _ _
   | exact V_spec_reader_value.mono _ _ _
   | exact spec_reader_blanks.mono _ _ _
   | exact spec_reader_quoted.mono _ _ _
   | exact LeO.none _
   | refine LeO.ite ?_ ?_
   | refine LeO.bind ?_ (fun _ => ?_)
theorem spec_reader_members.mono (V_spec_reader_value : H_spec_reader_value) : ∀ a0 a1 k, LeO (spec_reader_members.f V_spec_reader_value k a0 a1) (spec_reader_members.f V_spec_reader_value (k + 1) a0 a1) := by
 intro a0 a1 k
 obtain ⟨ih0, ih1⟩ := spec_reader_members.mono_l V_spec_reader_value k
 unfold spec_reader_members.f
 repeat' first
   | (with_reducible exact ih0 _ _ _ _)
   | (with_reducible exact ih1 _ _ _ _ _ _)
   | (with_reducible exact V_spec_reader_value.mono _ _ _)
   | (with_reducible exact spec_reader_blanks.mono _ _ _)
   | (with_reducible exact spec_reader_quoted.mono _ _ _)
   | (with_reducible exact LeO.refl _)
   | (with_reducible exact LeO.none _)
   | (with_reducible refine LeO.ite ?_ ?_)
   | (with_reducible refine LeO.bind ?_ (fun _ => ?_))
   | exact ih0 _ _ _ _
   | exact ih1 _ _ _ _ _ _
   | exact V_spec_reader_value.mono _ _ _
   | exact spec_reader_blanks.mono _ _ _
   | exact spec_reader_quoted.mono _ _ _
   | exact LeO.none _
   | refine LeO.ite ?_ ?_
   | refine LeO.bind ?_ (fun _ => ?_)
set_option maxHeartbeats 8000000 in
set_option maxRecDepth 100000 in
theorem spec_reader_members.calls (V_spec_reader_value : H_spec_reader_value) (k : Nat) (g : Nat) (s0_0 : ByteArray) (s0_1 : Int) (r1 : List (S53)) (r2 : List (S25)) (r3 : Bool) (r4 : ByteArray) (r5 : Int) (w0 w : World) (hI : IsS47 w0 w g s0_0 s0_1) (hB : Below w0.heap.size w0 w) (h : spec_reader_members.f V_spec_reader_value k s0_0 s0_1 = some (r1, r2, r3, r4, r5)) :
  Calls Try.prog 27 #[.pointer (some ⟨g, 0, none⟩)] w fun e w' => ∃ v0_ v1_ : Value, e = .returned (.tuple #[v0_, v1_, .bool r3]) ∧ Kd.R k53 53 w' w.heap.size (fun _ => True) v0_ r1 ∧ Kd.R k25 25 w' w.heap.size (fun k_ => some k_ ≠ (v0_ : Value).ownBlock) v1_ r2 ∧ IsS47 w0 w' g r4 r5 ∧ Below w0.heap.size w0 w' ∧ KeepBut w w' g none := by
 have hu53 := Try.underlying53
 have hu25 := Try.underlying25
 have HI0 := Aside0.mk hI
 have HK := Aside0.mk (KeepBut.refl w g none)
 have HL := Aside0.mk hB.size
 clear hI
 have HW0 := Aside0.mk hB.size
 have HB := Aside0.mk hB
 clear hB
 have H : ((spec_reader_blanks.f k s0_0 (wrap64 (s0_1 + 1))).bind fun bt113 => ((spec_reader_take.f bt113.1 bt113.2 125).bind fun bt115 => (if bt115.1 = true then (some (([] : List (S53)), ([] : List (S25)), true, bt115.2.1, bt115.2.2)) else (spec_reader_members.l0 V_spec_reader_value k ([] : List (S53)) ([] : List (S25)) bt115.2.1 bt115.2.2)))) = some (r1, r2, r3, r4, r5) := h
 clear h
 replace H := Option.bind_eq_some_iff.mp H
 obtain ⟨⟨t113, t114⟩, A20, H⟩ := H
 replace H : ((spec_reader_take.f t113 t114 125).bind fun bt115 => (if bt115.1 = true then (some (([] : List (S53)), ([] : List (S25)), true, bt115.2.1, bt115.2.2)) else (spec_reader_members.l0 V_spec_reader_value k ([] : List (S53)) ([] : List (S25)) bt115.2.1 bt115.2.2))) = some (r1, r2, r3, r4, r5) := H
 have A2 := Aside0.mk A20
 clear A20
 replace H := Option.bind_eq_some_iff.mp H
 obtain ⟨⟨t115, t116, t117⟩, A30, H⟩ := H
 replace H : (if t115 = true then (some (([] : List (S53)), ([] : List (S25)), true, t116, t117)) else (spec_reader_members.l0 V_spec_reader_value k ([] : List (S53)) ([] : List (S25)) t116 t117)) = some (r1, r2, r3, r4, r5) := H
 have A3 := Aside0.mk A30
 clear A30
 by_cases c4 : t115 = true
 ·subst c4
  have H1 : (some (([] : List (S53)), ([] : List (S25)), true, t116, t117)) = some (r1, r2, r3, r4, r5) := Z61
  clear H
  have H := H1
  clear H1
  ·
   simp only [Option.some.injEq, Prod.mk.injEq] at H
   obtain ⟨rfl, rfl, rfl, rfl, rfl⟩ := H
   obtain ⟨HGz5, hgz5⟩ := HI0.out
   have hcz5_0 := cellS47_0 HGz5
   have hcz5_1 := cellS47_1 HGz5
   have hfz5_0 := blk_frozen HGz5 0
   have hfz5_1 := blk_frozen HGz5 1
   clear HGz5 hgz5
   go_enter Try.func27, Try.ntmps27
   go_wp2_with (first | ((with_reducible refine gate_callee (f := 19) rfl ?_); refine goesL_ (some 18) rfl rfl Try.func19 (by kernel_rfl) rfl #[.pointer (some ⟨g, 0, none⟩)] rfl Z13 ?_; (with_reducible refine (spec_reader_blanks.calls k g s0_0 (wrap64 (s0_1 + 1)) t113 t114 w0 _ ?side1 ?side2 A2.out).mono ?_); (case side1 => exact Z6); (case side2 => exact Z8); rintro e w6 ⟨rfl, hi, hb, hk⟩; refine ⟨_, rfl, ?_⟩; have n0_ := Aside0.mk (KeepBut.trans Z9 hk (.inl rfl)); have n1_ := Aside0.mk (hb); have n2_ := Aside0.mk (hi); clear HK; clear HB; clear HI0; have HK := n0_; have HB := n1_; have HI0 := n2_; clear n0_ n1_ n2_; (try clear hb); (try clear hb2); (try clear hk); (try clear hi)) | ((with_reducible refine gate_callee (f := 36) rfl ?_); refine goesL_ (some 20) rfl rfl Try.func36 (by kernel_rfl) rfl #[.pointer (some ⟨g, 0, none⟩), .int .u8 125] rfl Z13 ?_; (with_reducible refine (spec_reader_take.calls g t113 t114 125 true t116 t117 w0 _ ?side1 ?side2 A3.out).mono ?_); (case side1 => exact Z6); (case side2 => exact Z8); rintro e w7 ⟨rfl, hi, hb, hk⟩; refine ⟨_, rfl, ?_⟩; have n0_ := Aside0.mk (KeepBut.trans Z9 hk (.inl rfl)); have n1_ := Aside0.mk (hb); have n2_ := Aside0.mk (hi); clear HK; clear HB; clear HI0; have HK := n0_; have HB := n1_; have HI0 := n2_; clear n0_ n1_ n2_; (try clear hb); (try clear hb2); (try clear hk); (try clear hi)))
   go_ret3
   exact ⟨_, _, Z15, Z30, Z30, Z6, Z8, Z9⟩
 ·replace c4 := Bool.eq_false_iff.mpr c4
  subst c4
  have H1 : (spec_reader_members.l0 V_spec_reader_value k ([] : List (S53)) ([] : List (S25)) t116 t117) = some (r1, r2, r3, r4, r5) := Z34
  clear H
  have H := H1
  clear H1
  have H' := Aside0.mk H
  clear H
  obtain ⟨HGz8, hgz8⟩ := HI0.out
  have hcz8_0 := cellS47_0 HGz8
  have hcz8_1 := cellS47_1 HGz8
  have hfz8_0 := blk_frozen HGz8 0
  have hfz8_1 := blk_frozen HGz8 1
  clear HGz8 hgz8
  go_enter Try.func27, Try.ntmps27
  go_wp2_with (first | ((with_reducible refine gate_callee (f := 19) rfl ?_); refine goesL_ (some 18) rfl rfl Try.func19 (by kernel_rfl) rfl #[.pointer (some ⟨g, 0, none⟩)] rfl Z13 ?_; (with_reducible refine (spec_reader_blanks.calls k g s0_0 (wrap64 (s0_1 + 1)) t113 t114 w0 _ ?side1 ?side2 A2.out).mono ?_); (case side1 => exact Z6); (case side2 => exact Z8); rintro e w9 ⟨rfl, hi, hb, hk⟩; refine ⟨_, rfl, ?_⟩; have n0_ := Aside0.mk (KeepBut.trans Z9 hk (.inl rfl)); have n1_ := Aside0.mk (hb); have n2_ := Aside0.mk (hi); clear HK; clear HB; clear HI0; have HK := n0_; have HB := n1_; have HI0 := n2_; clear n0_ n1_ n2_; (try clear hb); (try clear hb2); (try clear hk); (try clear hi)) | ((with_reducible refine gate_callee (f := 36) rfl ?_); refine goesL_ (some 20) rfl rfl Try.func36 (by kernel_rfl) rfl #[.pointer (some ⟨g, 0, none⟩), .int .u8 125] rfl Z13 ?_; (with_reducible refine (spec_reader_take.calls g t113 t114 125 false t116 t117 w0 _ ?side1 ?side2 A3.out).mono ?_); (case side1 => exact Z6); (case side2 => exact Z8); rintro e w10 ⟨rfl, hi, hb, hk⟩; refine ⟨_, rfl, ?_⟩; have n0_ := Aside0.mk (KeepBut.trans Z9 hk (.inl rfl)); have n1_ := Aside0.mk (hb); have n2_ := Aside0.mk (hi); clear HK; clear HB; clear HI0; have HK := n0_; have HB := n1_; have HI0 := n2_; clear n0_ n1_ n2_; (try clear hb); (try clear hb2); (try clear hk); (try clear hi)))
  (try simp only [Act.put, List.setIfInBounds_toArray, List.set_cons_zero, List.set_cons_succ])
  go_loopg [5, 6] k (fun kq v5 v6 w' => ∃ (x5_1 : List (S53)) (x6_1 : List (S25)) (x1000_1 : ByteArray) (x1001_1 : Int), Aside0 (spec_reader_members.l0 V_spec_reader_value kq x5_1 x6_1 x1000_1 x1001_1 = some (r1, r2, r3, r4, r5)) ∧ Aside0 (kq ≤ k) ∧ Aside0 (Kd.R k53 53 w' w.heap.size (fun _ => True) v5 x5_1) ∧ Aside0 (Kd.R k25 25 w' w.heap.size (fun k_ => some k_ ≠ (v5 : Value).ownBlock) v6 x6_1) ∧ Aside0 (IsS47 w0 w' g x1000_1 x1001_1) ∧ Aside0 (KeepBut w w' g none) ∧ Aside0 (Below w0.heap.size w0 w'))
  case atStart => exact ⟨(([] : List (S53))), (([] : List (S25))), (t116), (t117), H', ⟨Nat.le_refl _⟩, ⟨Z30⟩, ⟨Z30⟩, ⟨Z6⟩, ⟨Z9⟩, ⟨Z8⟩⟩
  case round =>
   clear H'
   try clear c4
   try clear hcz8_0
   try clear hcz8_1
   try clear hfz8_0
   try clear hfz8_1
   obtain ⟨x5_1, x6_1, x1000_1, x1001_1, HA, HK1, HO_5, HO_6, HI0, HK, HB⟩ := hrel
   cases gk with
   | zero => exact absurd HA.out (by simp [spec_reader_members.l0])
   | succ k1 =>
    have H := HA.out
    clear HA
    simp only [spec_reader_members.l0] at H
    have HC11 := Aside0.mk H
    clear H
    obtain ⟨HGz12, hgz12⟩ := HI0.out
    have hcz12_0 := cellS47_0 HGz12
    have hcz12_1 := cellS47_1 HGz12
    have hfz12_0 := blk_frozen HGz12 0
    have hfz12_1 := blk_frozen HGz12 1
    clear HGz12 hgz12
    go_upto_region 8 with (fail)
    go_cut [32] from 21 to 24 (fun v32 wc => ∃ (kq : Nat) (x32_10 : Bool) (x1000_10 : ByteArray) (x1001_10 : Int), v32 = .bool x32_10 ∧ Aside0 (spec_reader_members.j1 V_spec_reader_value kq x5_1 x6_1 x1001_1 x32_10 x1000_10 x1001_10 = some (r1, r2, r3, r4, r5)) ∧ Aside0 (kq ≤ k1) ∧ Aside0 (Kd.R k53 53 wc w.heap.size (fun _ => True) u5 x5_1) ∧ Aside0 (Kd.R k25 25 wc w.heap.size (fun k_ => some k_ ≠ (u5 : Value).ownBlock) u6 x6_1) ∧ Aside0 (IsS47 w0 wc g x1000_10 x1001_10) ∧ Aside0 (KeepBut w wc g none) ∧ Aside0 (Below w0.heap.size w0 wc))
    case first =>
     have H := HC11.out
     clear HC11
     replace H := Option.bind_eq_some_iff.mp H
     obtain ⟨⟨t118, t119, t120⟩, A130, H⟩ := H
     replace H : (if t118 = 34 then ((spec_reader_quoted.f k1 t119 t120).bind fun bt121 => (spec_reader_members.j1 V_spec_reader_value k1 x5_1 x6_1 x1001_1 (!bt121.1) bt121.2.1 bt121.2.2)) else (spec_reader_members.j1 V_spec_reader_value k1 x5_1 x6_1 x1001_1 true t119 t120)) = some (r1, r2, r3, r4, r5) := H
     have A13 := Aside0.mk A130
     clear A130
     by_cases c14 : t118 = 34
     ·rw [if_pos c14] at H
      have c14b0 : (t118 == 34) = true := beq_iff_eq.mpr c14
      have c14b1 : (t118 != 34) = false := bne_eq_false_iff_eq.mpr c14
      clear c14
      (first | rw [c14b0] | (simp only [i64_w, i32_w]; rw [c14b0]) | skip)
      replace H := Option.bind_eq_some_iff.mp H
      obtain ⟨⟨t121, t122, t123⟩, A150, H⟩ := H
      replace H : (spec_reader_members.j1 V_spec_reader_value k1 x5_1 x6_1 x1001_1 (!t121) t122 t123) = some (r1, r2, r3, r4, r5) := H
      have A15 := Aside0.mk A150
      clear A150
      ·
       have H' := Aside0.mk H
       clear H
       exact Z36
     ·rw [if_neg c14] at H
      have c14b0 : (t118 == 34) = false := beq_eq_false_iff_ne.mpr c14
      have c14b1 : (t118 != 34) = true := bne_iff_ne.mpr c14
      (first | rw [c14b0] | (simp only [i64_w, i32_w]; rw [c14b0]) | skip)
      ·
       have H' := Aside0.mk H
       clear H
       exact Z36
    case rest =>
     clear HC11
     try clear c4
     try clear hcz12_0
     try clear hcz12_1
     try clear hcz8_0
     try clear hcz8_1
     try clear hfz12_0
     try clear hfz12_1
     try clear hfz8_0
     try clear hfz8_1
     obtain ⟨kq, x32_10, x1000_10, x1001_10, rfl, HA, HJ10, HO_5, HO_6, HI0, HK, HB⟩ := hcut
     cases kq with
     | zero => exact absurd HA.out (by simp [spec_reader_members.j1])
     | succ kj10 =>
      have H := HA.out
      clear HA
      simp only [spec_reader_members.j1] at H
      by_cases c19 : x32_10 = true
      ·subst c19
       have H1 : (some (([] : List (S53)), ([] : List (S25)), false, x1000_10, x1001_10)) = some (r1, r2, r3, r4, r5) := Z61
       clear H
       have H := H1
       clear H1
       ·
        simp only [Option.some.injEq, Prod.mk.injEq] at H
        obtain ⟨rfl, rfl, rfl, rfl, rfl⟩ := H
        go_wp2
        go_ret3
        exact ⟨_, _, Z15, Z30, Z30, Z6, Z8, Z9⟩
      ·replace c19 := Bool.eq_false_iff.mpr c19
       subst c19
       have H1 : (if x5_1.length < 8796093022208 then ((some (x5_1 ++ [(⟨x1001_1, x1001_10⟩ : S53)] : List (S53))).bind fun y124 => ((spec_reader_blanks.f kj10 x1000_10 x1001_10).bind fun bt127 => ((spec_reader_take.f bt127.1 bt127.2 58).bind fun bt129 => (if bt129.1 = true then ((spec_reader_blanks.f kj10 bt129.2.1 bt129.2.2).bind fun bt132 => ((V_spec_reader_value.f kj10 bt132.1 bt132.2).bind fun bt134 => (if bt134.2.2.2.2.2.1 = true then (if x6_1.length < 1954687338268 then ((some (x6_1 ++ [(⟨bt134.1, bt134.2.1, bt134.2.2.1, bt134.2.2.2.1, bt134.2.2.2.2.1⟩ : S25)] : List (S25))).bind fun y147 => ((spec_reader_blanks.f kj10 bt134.2.2.2.2.2.2.1 bt134.2.2.2.2.2.2.2).bind fun bt150 => ((spec_reader_take.f bt150.1 bt150.2 125).bind fun bt152 => (if bt152.1 = true then (some (y124, y147, true, bt152.2.1, bt152.2.2)) else ((spec_reader_take.f bt152.2.1 bt152.2.2 44).bind fun bt155 => (if bt155.1 = true then ((spec_reader_blanks.f kj10 bt155.2.1 bt155.2.2).bind fun bt158 => (spec_reader_members.l0 V_spec_reader_value kj10 y124 y147 bt158.1 bt158.2)) else (some (([] : List (S53)), ([] : List (S25)), false, bt155.2.1, bt155.2.2)))))))) else (none)) else (some (([] : List (S53)), ([] : List (S25)), false, bt134.2.2.2.2.2.2.1, bt134.2.2.2.2.2.2.2))))) else (some (([] : List (S53)), ([] : List (S25)), false, bt129.2.1, bt129.2.2)))))) else (none)) = some (r1, r2, r3, r4, r5) := Z34
       clear H
       have H := H1
       clear H1
       by_cases c20 : x5_1.length < 8796093022208
       ·rw [if_pos c20] at H
        have LMc20 := Aside0.mk c20
        clear c20
        obtain ⟨y124, hy124⟩ : ∃ y_ : List (S53), y_ = (x5_1 ++ [(⟨x1001_1, x1001_10⟩ : S53)]) := ⟨_, rfl⟩
        replace H : ((spec_reader_blanks.f kj10 x1000_10 x1001_10).bind fun bt127 => ((spec_reader_take.f bt127.1 bt127.2 58).bind fun bt129 => (if bt129.1 = true then ((spec_reader_blanks.f kj10 bt129.2.1 bt129.2.2).bind fun bt132 => ((V_spec_reader_value.f kj10 bt132.1 bt132.2).bind fun bt134 => (if bt134.2.2.2.2.2.1 = true then (if x6_1.length < 1954687338268 then ((some (x6_1 ++ [(⟨bt134.1, bt134.2.1, bt134.2.2.1, bt134.2.2.2.1, bt134.2.2.2.2.1⟩ : S25)] : List (S25))).bind fun y147 => ((spec_reader_blanks.f kj10 bt134.2.2.2.2.2.2.1 bt134.2.2.2.2.2.2.2).bind fun bt150 => ((spec_reader_take.f bt150.1 bt150.2 125).bind fun bt152 => (if bt152.1 = true then (some (y124, y147, true, bt152.2.1, bt152.2.2)) else ((spec_reader_take.f bt152.2.1 bt152.2.2 44).bind fun bt155 => (if bt155.1 = true then ((spec_reader_blanks.f kj10 bt155.2.1 bt155.2.2).bind fun bt158 => (spec_reader_members.l0 V_spec_reader_value kj10 y124 y147 bt158.1 bt158.2)) else (some (([] : List (S53)), ([] : List (S25)), false, bt155.2.1, bt155.2.2)))))))) else (none)) else (some (([] : List (S53)), ([] : List (S25)), false, bt134.2.2.2.2.2.2.1, bt134.2.2.2.2.2.2.2))))) else (some (([] : List (S53)), ([] : List (S25)), false, bt129.2.1, bt129.2.2))))) = some (r1, r2, r3, r4, r5) := by first | (rw [hy124]; with_reducible exact H) | (have H2_ := (Option.bind_some _ _).symm.trans H; rw [hy124]; with_reducible exact H2_) | (have H2_ := (Option.bind_some _ _).symm.trans H; with_reducible exact H2_) | with_reducible exact H | (rw [hy124]; exact H) | exact H
        have Ny124 := Aside0.mk hy124
        clear hy124
        replace H := Option.bind_eq_some_iff.mp H
        obtain ⟨⟨t127, t128⟩, A210, H⟩ := H
        replace H : ((spec_reader_take.f t127 t128 58).bind fun bt129 => (if bt129.1 = true then ((spec_reader_blanks.f kj10 bt129.2.1 bt129.2.2).bind fun bt132 => ((V_spec_reader_value.f kj10 bt132.1 bt132.2).bind fun bt134 => (if bt134.2.2.2.2.2.1 = true then (if x6_1.length < 1954687338268 then ((some (x6_1 ++ [(⟨bt134.1, bt134.2.1, bt134.2.2.1, bt134.2.2.2.1, bt134.2.2.2.2.1⟩ : S25)] : List (S25))).bind fun y147 => ((spec_reader_blanks.f kj10 bt134.2.2.2.2.2.2.1 bt134.2.2.2.2.2.2.2).bind fun bt150 => ((spec_reader_take.f bt150.1 bt150.2 125).bind fun bt152 => (if bt152.1 = true then (some (y124, y147, true, bt152.2.1, bt152.2.2)) else ((spec_reader_take.f bt152.2.1 bt152.2.2 44).bind fun bt155 => (if bt155.1 = true then ((spec_reader_blanks.f kj10 bt155.2.1 bt155.2.2).bind fun bt158 => (spec_reader_members.l0 V_spec_reader_value kj10 y124 y147 bt158.1 bt158.2)) else (some (([] : List (S53)), ([] : List (S25)), false, bt155.2.1, bt155.2.2)))))))) else (none)) else (some (([] : List (S53)), ([] : List (S25)), false, bt134.2.2.2.2.2.2.1, bt134.2.2.2.2.2.2.2))))) else (some (([] : List (S53)), ([] : List (S25)), false, bt129.2.1, bt129.2.2)))) = some (r1, r2, r3, r4, r5) := H
        have A21 := Aside0.mk A210
        clear A210
        replace H := Option.bind_eq_some_iff.mp H
        obtain ⟨⟨t129, t130, t131⟩, A220, H⟩ := H
        replace H : (if t129 = true then ((spec_reader_blanks.f kj10 t130 t131).bind fun bt132 => ((V_spec_reader_value.f kj10 bt132.1 bt132.2).bind fun bt134 => (if bt134.2.2.2.2.2.1 = true then (if x6_1.length < 1954687338268 then ((some (x6_1 ++ [(⟨bt134.1, bt134.2.1, bt134.2.2.1, bt134.2.2.2.1, bt134.2.2.2.2.1⟩ : S25)] : List (S25))).bind fun y147 => ((spec_reader_blanks.f kj10 bt134.2.2.2.2.2.2.1 bt134.2.2.2.2.2.2.2).bind fun bt150 => ((spec_reader_take.f bt150.1 bt150.2 125).bind fun bt152 => (if bt152.1 = true then (some (y124, y147, true, bt152.2.1, bt152.2.2)) else ((spec_reader_take.f bt152.2.1 bt152.2.2 44).bind fun bt155 => (if bt155.1 = true then ((spec_reader_blanks.f kj10 bt155.2.1 bt155.2.2).bind fun bt158 => (spec_reader_members.l0 V_spec_reader_value kj10 y124 y147 bt158.1 bt158.2)) else (some (([] : List (S53)), ([] : List (S25)), false, bt155.2.1, bt155.2.2)))))))) else (none)) else (some (([] : List (S53)), ([] : List (S25)), false, bt134.2.2.2.2.2.2.1, bt134.2.2.2.2.2.2.2))))) else (some (([] : List (S53)), ([] : List (S25)), false, t130, t131))) = some (r1, r2, r3, r4, r5) := H
        have A22 := Aside0.mk A220
        clear A220
        by_cases c23 : t129 = true
        ·subst c23
         have H1 : ((spec_reader_blanks.f kj10 t130 t131).bind fun bt132 => ((V_spec_reader_value.f kj10 bt132.1 bt132.2).bind fun bt134 => (if bt134.2.2.2.2.2.1 = true then (if x6_1.length < 1954687338268 then ((some (x6_1 ++ [(⟨bt134.1, bt134.2.1, bt134.2.2.1, bt134.2.2.2.1, bt134.2.2.2.2.1⟩ : S25)] : List (S25))).bind fun y147 => ((spec_reader_blanks.f kj10 bt134.2.2.2.2.2.2.1 bt134.2.2.2.2.2.2.2).bind fun bt150 => ((spec_reader_take.f bt150.1 bt150.2 125).bind fun bt152 => (if bt152.1 = true then (some (y124, y147, true, bt152.2.1, bt152.2.2)) else ((spec_reader_take.f bt152.2.1 bt152.2.2 44).bind fun bt155 => (if bt155.1 = true then ((spec_reader_blanks.f kj10 bt155.2.1 bt155.2.2).bind fun bt158 => (spec_reader_members.l0 V_spec_reader_value kj10 y124 y147 bt158.1 bt158.2)) else (some (([] : List (S53)), ([] : List (S25)), false, bt155.2.1, bt155.2.2)))))))) else (none)) else (some (([] : List (S53)), ([] : List (S25)), false, bt134.2.2.2.2.2.2.1, bt134.2.2.2.2.2.2.2))))) = some (r1, r2, r3, r4, r5) := Z61
         clear H
         have H := H1
         clear H1
         replace H := Option.bind_eq_some_iff.mp H
         obtain ⟨⟨t132, t133⟩, A240, H⟩ := H
         replace H : ((V_spec_reader_value.f kj10 t132 t133).bind fun bt134 => (if bt134.2.2.2.2.2.1 = true then (if x6_1.length < 1954687338268 then ((some (x6_1 ++ [(⟨bt134.1, bt134.2.1, bt134.2.2.1, bt134.2.2.2.1, bt134.2.2.2.2.1⟩ : S25)] : List (S25))).bind fun y147 => ((spec_reader_blanks.f kj10 bt134.2.2.2.2.2.2.1 bt134.2.2.2.2.2.2.2).bind fun bt150 => ((spec_reader_take.f bt150.1 bt150.2 125).bind fun bt152 => (if bt152.1 = true then (some (y124, y147, true, bt152.2.1, bt152.2.2)) else ((spec_reader_take.f bt152.2.1 bt152.2.2 44).bind fun bt155 => (if bt155.1 = true then ((spec_reader_blanks.f kj10 bt155.2.1 bt155.2.2).bind fun bt158 => (spec_reader_members.l0 V_spec_reader_value kj10 y124 y147 bt158.1 bt158.2)) else (some (([] : List (S53)), ([] : List (S25)), false, bt155.2.1, bt155.2.2)))))))) else (none)) else (some (([] : List (S53)), ([] : List (S25)), false, bt134.2.2.2.2.2.2.1, bt134.2.2.2.2.2.2.2)))) = some (r1, r2, r3, r4, r5) := H
         have A24 := Aside0.mk A240
         clear A240
         replace H := Option.bind_eq_some_iff.mp H
         obtain ⟨⟨t134, t135, t136, t137, t140, t143, t144, t145⟩, A250, H⟩ := H
         replace H : (if t143 = true then (if x6_1.length < 1954687338268 then ((some (x6_1 ++ [(⟨t134, t135, t136, t137, t140⟩ : S25)] : List (S25))).bind fun y147 => ((spec_reader_blanks.f kj10 t144 t145).bind fun bt150 => ((spec_reader_take.f bt150.1 bt150.2 125).bind fun bt152 => (if bt152.1 = true then (some (y124, y147, true, bt152.2.1, bt152.2.2)) else ((spec_reader_take.f bt152.2.1 bt152.2.2 44).bind fun bt155 => (if bt155.1 = true then ((spec_reader_blanks.f kj10 bt155.2.1 bt155.2.2).bind fun bt158 => (spec_reader_members.l0 V_spec_reader_value kj10 y124 y147 bt158.1 bt158.2)) else (some (([] : List (S53)), ([] : List (S25)), false, bt155.2.1, bt155.2.2)))))))) else (none)) else (some (([] : List (S53)), ([] : List (S25)), false, t144, t145))) = some (r1, r2, r3, r4, r5) := H
         have A25 := Aside0.mk A250
         clear A250
         by_cases c26 : t143 = true
         ·subst c26
          have H1 : (if x6_1.length < 1954687338268 then ((some (x6_1 ++ [(⟨t134, t135, t136, t137, t140⟩ : S25)] : List (S25))).bind fun y147 => ((spec_reader_blanks.f kj10 t144 t145).bind fun bt150 => ((spec_reader_take.f bt150.1 bt150.2 125).bind fun bt152 => (if bt152.1 = true then (some (y124, y147, true, bt152.2.1, bt152.2.2)) else ((spec_reader_take.f bt152.2.1 bt152.2.2 44).bind fun bt155 => (if bt155.1 = true then ((spec_reader_blanks.f kj10 bt155.2.1 bt155.2.2).bind fun bt158 => (spec_reader_members.l0 V_spec_reader_value kj10 y124 y147 bt158.1 bt158.2)) else (some (([] : List (S53)), ([] : List (S25)), false, bt155.2.1, bt155.2.2)))))))) else (none)) = some (r1, r2, r3, r4, r5) := Z61
          clear H
          have H := H1
          clear H1
          by_cases c27 : x6_1.length < 1954687338268
          ·rw [if_pos c27] at H
           have LMc27 := Aside0.mk c27
           clear c27
           obtain ⟨y147, hy147⟩ : ∃ y_ : List (S25), y_ = (x6_1 ++ [(⟨t134, t135, t136, t137, t140⟩ : S25)]) := ⟨_, rfl⟩
           replace H : ((spec_reader_blanks.f kj10 t144 t145).bind fun bt150 => ((spec_reader_take.f bt150.1 bt150.2 125).bind fun bt152 => (if bt152.1 = true then (some (y124, y147, true, bt152.2.1, bt152.2.2)) else ((spec_reader_take.f bt152.2.1 bt152.2.2 44).bind fun bt155 => (if bt155.1 = true then ((spec_reader_blanks.f kj10 bt155.2.1 bt155.2.2).bind fun bt158 => (spec_reader_members.l0 V_spec_reader_value kj10 y124 y147 bt158.1 bt158.2)) else (some (([] : List (S53)), ([] : List (S25)), false, bt155.2.1, bt155.2.2))))))) = some (r1, r2, r3, r4, r5) := by first | (rw [hy147]; with_reducible exact H) | (have H2_ := (Option.bind_some _ _).symm.trans H; rw [hy147]; with_reducible exact H2_) | (have H2_ := (Option.bind_some _ _).symm.trans H; with_reducible exact H2_) | with_reducible exact H | (rw [hy147]; exact H) | exact H
           have Ny147 := Aside0.mk hy147
           clear hy147
           replace H := Option.bind_eq_some_iff.mp H
           obtain ⟨⟨t150, t151⟩, A280, H⟩ := H
           replace H : ((spec_reader_take.f t150 t151 125).bind fun bt152 => (if bt152.1 = true then (some (y124, y147, true, bt152.2.1, bt152.2.2)) else ((spec_reader_take.f bt152.2.1 bt152.2.2 44).bind fun bt155 => (if bt155.1 = true then ((spec_reader_blanks.f kj10 bt155.2.1 bt155.2.2).bind fun bt158 => (spec_reader_members.l0 V_spec_reader_value kj10 y124 y147 bt158.1 bt158.2)) else (some (([] : List (S53)), ([] : List (S25)), false, bt155.2.1, bt155.2.2)))))) = some (r1, r2, r3, r4, r5) := H
           have A28 := Aside0.mk A280
           clear A280
           replace H := Option.bind_eq_some_iff.mp H
           obtain ⟨⟨t152, t153, t154⟩, A290, H⟩ := H
           replace H : (if t152 = true then (some (y124, y147, true, t153, t154)) else ((spec_reader_take.f t153 t154 44).bind fun bt155 => (if bt155.1 = true then ((spec_reader_blanks.f kj10 bt155.2.1 bt155.2.2).bind fun bt158 => (spec_reader_members.l0 V_spec_reader_value kj10 y124 y147 bt158.1 bt158.2)) else (some (([] : List (S53)), ([] : List (S25)), false, bt155.2.1, bt155.2.2))))) = some (r1, r2, r3, r4, r5) := H
           have A29 := Aside0.mk A290
           clear A290
           by_cases c30 : t152 = true
           ·subst c30
            have H1 : (some (y124, y147, true, t153, t154)) = some (r1, r2, r3, r4, r5) := Z61
            clear H
            have H := H1
            clear H1
            ·
             simp only [Option.some.injEq, Prod.mk.injEq] at H
             obtain ⟨rfl, rfl, rfl, rfl, rfl⟩ := H
             obtain ⟨HGz31, hgz31⟩ := HI0.out
             have hcz31_0 := cellS47_0 HGz31
             have hcz31_1 := cellS47_1 HGz31
             have hfz31_0 := blk_frozen HGz31 0
             have hfz31_1 := blk_frozen HGz31 1
             clear HGz31 hgz31
             exact Z0
           ·replace c30 := Bool.eq_false_iff.mpr c30
            subst c30
            have H1 : ((spec_reader_take.f t153 t154 44).bind fun bt155 => (if bt155.1 = true then ((spec_reader_blanks.f kj10 bt155.2.1 bt155.2.2).bind fun bt158 => (spec_reader_members.l0 V_spec_reader_value kj10 y124 y147 bt158.1 bt158.2)) else (some (([] : List (S53)), ([] : List (S25)), false, bt155.2.1, bt155.2.2)))) = some (r1, r2, r3, r4, r5) := Z34
            clear H
            have H := H1
            clear H1
            replace H := Option.bind_eq_some_iff.mp H
            obtain ⟨⟨t155, t156, t157⟩, A470, H⟩ := H
            replace H : (if t155 = true then ((spec_reader_blanks.f kj10 t156 t157).bind fun bt158 => (spec_reader_members.l0 V_spec_reader_value kj10 y124 y147 bt158.1 bt158.2)) else (some (([] : List (S53)), ([] : List (S25)), false, t156, t157))) = some (r1, r2, r3, r4, r5) := H
            have A47 := Aside0.mk A470
            clear A470
            by_cases c48 : t155 = true
            ·subst c48
             have H1 : ((spec_reader_blanks.f kj10 t156 t157).bind fun bt158 => (spec_reader_members.l0 V_spec_reader_value kj10 y124 y147 bt158.1 bt158.2)) = some (r1, r2, r3, r4, r5) := Z61
             clear H
             have H := H1
             clear H1
             replace H := Option.bind_eq_some_iff.mp H
             obtain ⟨⟨t158, t159⟩, A490, H⟩ := H
             replace H : (spec_reader_members.l0 V_spec_reader_value kj10 y124 y147 t158 t159) = some (r1, r2, r3, r4, r5) := H
             have A49 := Aside0.mk A490
             clear A490
             ·
              have H' := Aside0.mk H
              clear H
              obtain ⟨HGz50, hgz50⟩ := HI0.out
              have hcz50_0 := cellS47_0 HGz50
              have hcz50_1 := cellS47_1 HGz50
              have hfz50_0 := blk_frozen HGz50 0
              have hfz50_1 := blk_frozen HGz50 1
              clear HGz50 hgz50
              exact Z0
            ·replace c48 := Bool.eq_false_iff.mpr c48
             subst c48
             have H1 : (some (([] : List (S53)), ([] : List (S25)), false, t156, t157)) = some (r1, r2, r3, r4, r5) := Z34
             clear H
             have H := H1
             clear H1
             ·
              simp only [Option.some.injEq, Prod.mk.injEq] at H
              obtain ⟨rfl, rfl, rfl, rfl, rfl⟩ := H
              obtain ⟨HGz68, hgz68⟩ := HI0.out
              have hcz68_0 := cellS47_0 HGz68
              have hcz68_1 := cellS47_1 HGz68
              have hfz68_0 := blk_frozen HGz68 0
              have hfz68_1 := blk_frozen HGz68 1
              clear HGz68 hgz68
              exact Z0
          ·rw [if_neg c27] at H
           exact absurd H (by simp)
         ·replace c26 := Bool.eq_false_iff.mpr c26
          subst c26
          have H1 : (some (([] : List (S53)), ([] : List (S25)), false, t144, t145)) = some (r1, r2, r3, r4, r5) := Z34
          clear H
          have H := H1
          clear H1
          ·
           simp only [Option.some.injEq, Prod.mk.injEq] at H
           obtain ⟨rfl, rfl, rfl, rfl, rfl⟩ := H
           obtain ⟨HGz85, hgz85⟩ := HI0.out
           have hcz85_0 := cellS47_0 HGz85
           have hcz85_1 := cellS47_1 HGz85
           have hfz85_0 := blk_frozen HGz85 0
           have hfz85_1 := blk_frozen HGz85 1
           clear HGz85 hgz85
           exact Z0
        ·replace c23 := Bool.eq_false_iff.mpr c23
         subst c23
         have H1 : (some (([] : List (S53)), ([] : List (S25)), false, t130, t131)) = some (r1, r2, r3, r4, r5) := Z34
         clear H
         have H := H1
         clear H1
         ·
          simp only [Option.some.injEq, Prod.mk.injEq] at H
          obtain ⟨rfl, rfl, rfl, rfl, rfl⟩ := H
          obtain ⟨HGz96, hgz96⟩ := HI0.out
          have hcz96_0 := cellS47_0 HGz96
          have hcz96_1 := cellS47_1 HGz96
          have hfz96_0 := blk_frozen HGz96 0
          have hfz96_1 := blk_frozen HGz96 1
          clear HGz96 hgz96
          exact Z0
       ·rw [if_neg c20] at H
        exact absurd H (by simp)
/-! ### spec_reader_elements: function 28 -/
def spec_reader_elements.l0 (V_spec_reader_value : H_spec_reader_value) : Nat → List (S25) → ByteArray → Int → Option ((List (S25)) × Bool × ByteArray × Int)
 | 0, _, _, _ => none
 | k + 1, x4, x1000, x1001 => (V_spec_reader_value.f k x1000 x1001).bind fun bt165 => (if bt165.2.2.2.2.2.1 = true then (if x4.length < 1954687338268 then ((some (x4 ++ [(⟨bt165.1, bt165.2.1, bt165.2.2.1, bt165.2.2.2.1, bt165.2.2.2.2.1⟩ : S25)] : List (S25))).bind fun y178 => ((spec_reader_blanks.f k bt165.2.2.2.2.2.2.1 bt165.2.2.2.2.2.2.2).bind fun bt181 => ((spec_reader_take.f bt181.1 bt181.2 93).bind fun bt183 => (if bt183.1 = true then (some (y178, true, bt183.2.1, bt183.2.2)) else ((spec_reader_take.f bt183.2.1 bt183.2.2 44).bind fun bt186 => (if bt186.1 = true then ((spec_reader_blanks.f k bt186.2.1 bt186.2.2).bind fun bt189 => (spec_reader_elements.l0 V_spec_reader_value k y178 bt189.1 bt189.2)) else (some (([] : List (S25)), false, bt186.2.1, bt186.2.2)))))))) else (none)) else (some (([] : List (S25)), false, bt165.2.2.2.2.2.2.1, bt165.2.2.2.2.2.2.2)))
def spec_reader_elements.f (V_spec_reader_value : H_spec_reader_value) (k : Nat) (s0_0 : ByteArray) (s0_1 : Int) : Option ((List (S25)) × Bool × ByteArray × Int) := (spec_reader_blanks.f k s0_0 (wrap64 (s0_1 + 1))).bind fun bt160 => ((spec_reader_take.f bt160.1 bt160.2 93).bind fun bt162 => (if bt162.1 = true then (some (([] : List (S25)), true, bt162.2.1, bt162.2.2)) else (spec_reader_elements.l0 V_spec_reader_value k ([] : List (S25)) bt162.2.1 bt162.2.2)))
theorem spec_reader_elements.mono_l (V_spec_reader_value : H_spec_reader_value) : ∀ k, (∀ y0 y1 y2, LeO (spec_reader_elements.l0 V_spec_reader_value k y0 y1 y2) (spec_reader_elements.l0 V_spec_reader_value (k + 1) y0 y1 y2))
 | 0 => fun _ _ _ r h => by simp [spec_reader_elements.l0] at h
 | k + 1 => by
  have ih0 := spec_reader_elements.mono_l V_spec_reader_value k
  ·intro y0 y1 y2
   unfold spec_reader_elements.l0
   repeat' first
   | (with_reducible exact ih0 _ _ _)
   | (with_reducible exact V_spec_reader_value.mono _ _ _)
   | (with_reducible exact spec_reader_blanks.mono _ _ _)
   | (with_reducible exact LeO.refl _)
   | (with_reducible exact LeO.none _)
   | (with_reducible refine LeO.ite ?_ ?_)
   | (with_reducible refine LeO.bind ?_ (fun _ => ?_))
   | exact ih0 _ _ _
   | exact V_spec_reader_value.mono _ _ _
   | exact spec_reader_blanks.mono _ _ _
   | exact LeO.none _
   | refine LeO.ite ?_ ?_
   | refine LeO.bind ?_ (fun _ => ?_)
theorem spec_reader_elements.mono (V_spec_reader_value : H_spec_reader_value) : ∀ a0 a1 k, LeO (spec_reader_elements.f V_spec_reader_value k a0 a1) (spec_reader_elements.f V_spec_reader_value (k + 1) a0 a1) := by
 intro a0 a1 k
 have ih0 := spec_reader_elements.mono_l V_spec_reader_value k
 unfold spec_reader_elements.f
 repeat' first
   | (with_reducible exact ih0 _ _ _)
   | (with_reducible exact V_spec_reader_value.mono _ _ _)
   | (with_reducible exact spec_reader_blanks.mono _ _ _)
   | (with_reducible exact LeO.refl _)
   | (with_reducible exact LeO.none _)
   | (with_reducible refine LeO.ite ?_ ?_)
   | (with_reducible refine LeO.bind ?_ (fun _ => ?_))
   | exact ih0 _ _ _
   | exact V_spec_reader_value.mono _ _ _
   | exact spec_reader_blanks.mono _ _ _
   | exact LeO.none _
   | refine LeO.ite ?_ ?_
   | refine LeO.bind ?_ (fun _ => ?_)
set_option maxHeartbeats 8000000 in
set_option maxRecDepth 100000 in
theorem spec_reader_elements.calls (V_spec_reader_value : H_spec_reader_value) (k : Nat) (g : Nat) (s0_0 : ByteArray) (s0_1 : Int) (r1 : List (S25)) (r2 : Bool) (r3 : ByteArray) (r4 : Int) (w0 w : World) (hI : IsS47 w0 w g s0_0 s0_1) (hB : Below w0.heap.size w0 w) (h : spec_reader_elements.f V_spec_reader_value k s0_0 s0_1 = some (r1, r2, r3, r4)) :
  Calls Try.prog 28 #[.pointer (some ⟨g, 0, none⟩)] w fun e w' => ∃ v0_ : Value, e = .returned (.tuple #[v0_, .bool r2]) ∧ Kd.R k25 25 w' w.heap.size (fun _ => True) v0_ r1 ∧ IsS47 w0 w' g r3 r4 ∧ Below w0.heap.size w0 w' ∧ KeepBut w w' g none := by
 have hu25 := Try.underlying25
 have HI0 := Aside0.mk hI
 have HK := Aside0.mk (KeepBut.refl w g none)
 have HL := Aside0.mk hB.size
 clear hI
 have HW0 := Aside0.mk hB.size
 have HB := Aside0.mk hB
 clear hB
 have H : ((spec_reader_blanks.f k s0_0 (wrap64 (s0_1 + 1))).bind fun bt160 => ((spec_reader_take.f bt160.1 bt160.2 93).bind fun bt162 => (if bt162.1 = true then (some (([] : List (S25)), true, bt162.2.1, bt162.2.2)) else (spec_reader_elements.l0 V_spec_reader_value k ([] : List (S25)) bt162.2.1 bt162.2.2)))) = some (r1, r2, r3, r4) := h
 clear h
 replace H := Option.bind_eq_some_iff.mp H
 obtain ⟨⟨t160, t161⟩, A20, H⟩ := H
 replace H : ((spec_reader_take.f t160 t161 93).bind fun bt162 => (if bt162.1 = true then (some (([] : List (S25)), true, bt162.2.1, bt162.2.2)) else (spec_reader_elements.l0 V_spec_reader_value k ([] : List (S25)) bt162.2.1 bt162.2.2))) = some (r1, r2, r3, r4) := H
 have A2 := Aside0.mk A20
 clear A20
 replace H := Option.bind_eq_some_iff.mp H
 obtain ⟨⟨t162, t163, t164⟩, A30, H⟩ := H
 replace H : (if t162 = true then (some (([] : List (S25)), true, t163, t164)) else (spec_reader_elements.l0 V_spec_reader_value k ([] : List (S25)) t163 t164)) = some (r1, r2, r3, r4) := H
 have A3 := Aside0.mk A30
 clear A30
 by_cases c4 : t162 = true
 ·subst c4
  have H1 : (some (([] : List (S25)), true, t163, t164)) = some (r1, r2, r3, r4) := Z61
  clear H
  have H := H1
  clear H1
  ·
   simp only [Option.some.injEq, Prod.mk.injEq] at H
   obtain ⟨rfl, rfl, rfl, rfl⟩ := H
   obtain ⟨HGz5, hgz5⟩ := HI0.out
   have hcz5_0 := cellS47_0 HGz5
   have hcz5_1 := cellS47_1 HGz5
   have hfz5_0 := blk_frozen HGz5 0
   have hfz5_1 := blk_frozen HGz5 1
   clear HGz5 hgz5
   go_enter Try.func28, Try.ntmps28
   go_wp2_with (first | ((with_reducible refine gate_callee (f := 19) rfl ?_); refine goesL_ (some 15) rfl rfl Try.func19 (by kernel_rfl) rfl #[.pointer (some ⟨g, 0, none⟩)] rfl Z13 ?_; (with_reducible refine (spec_reader_blanks.calls k g s0_0 (wrap64 (s0_1 + 1)) t160 t161 w0 _ ?side1 ?side2 A2.out).mono ?_); (case side1 => exact Z6); (case side2 => exact Z8); rintro e w6 ⟨rfl, hi, hb, hk⟩; refine ⟨_, rfl, ?_⟩; have n0_ := Aside0.mk (KeepBut.trans Z9 hk (.inl rfl)); have n1_ := Aside0.mk (hb); have n2_ := Aside0.mk (hi); clear HK; clear HB; clear HI0; have HK := n0_; have HB := n1_; have HI0 := n2_; clear n0_ n1_ n2_; (try clear hb); (try clear hb2); (try clear hk); (try clear hi)) | ((with_reducible refine gate_callee (f := 36) rfl ?_); refine goesL_ (some 17) rfl rfl Try.func36 (by kernel_rfl) rfl #[.pointer (some ⟨g, 0, none⟩), .int .u8 93] rfl Z13 ?_; (with_reducible refine (spec_reader_take.calls g t160 t161 93 true t163 t164 w0 _ ?side1 ?side2 A3.out).mono ?_); (case side1 => exact Z6); (case side2 => exact Z8); rintro e w7 ⟨rfl, hi, hb, hk⟩; refine ⟨_, rfl, ?_⟩; have n0_ := Aside0.mk (KeepBut.trans Z9 hk (.inl rfl)); have n1_ := Aside0.mk (hb); have n2_ := Aside0.mk (hi); clear HK; clear HB; clear HI0; have HK := n0_; have HB := n1_; have HI0 := n2_; clear n0_ n1_ n2_; (try clear hb); (try clear hb2); (try clear hk); (try clear hi)))
   go_ret2
   exact ⟨_, Z15, Z30, Z6, Z8, Z9⟩
 ·replace c4 := Bool.eq_false_iff.mpr c4
  subst c4
  have H1 : (spec_reader_elements.l0 V_spec_reader_value k ([] : List (S25)) t163 t164) = some (r1, r2, r3, r4) := Z34
  clear H
  have H := H1
  clear H1
  have H' := Aside0.mk H
  clear H
  obtain ⟨HGz8, hgz8⟩ := HI0.out
  have hcz8_0 := cellS47_0 HGz8
  have hcz8_1 := cellS47_1 HGz8
  have hfz8_0 := blk_frozen HGz8 0
  have hfz8_1 := blk_frozen HGz8 1
  clear HGz8 hgz8
  go_enter Try.func28, Try.ntmps28
  go_wp2_with (first | ((with_reducible refine gate_callee (f := 19) rfl ?_); refine goesL_ (some 15) rfl rfl Try.func19 (by kernel_rfl) rfl #[.pointer (some ⟨g, 0, none⟩)] rfl Z13 ?_; (with_reducible refine (spec_reader_blanks.calls k g s0_0 (wrap64 (s0_1 + 1)) t160 t161 w0 _ ?side1 ?side2 A2.out).mono ?_); (case side1 => exact Z6); (case side2 => exact Z8); rintro e w9 ⟨rfl, hi, hb, hk⟩; refine ⟨_, rfl, ?_⟩; have n0_ := Aside0.mk (KeepBut.trans Z9 hk (.inl rfl)); have n1_ := Aside0.mk (hb); have n2_ := Aside0.mk (hi); clear HK; clear HB; clear HI0; have HK := n0_; have HB := n1_; have HI0 := n2_; clear n0_ n1_ n2_; (try clear hb); (try clear hb2); (try clear hk); (try clear hi)) | ((with_reducible refine gate_callee (f := 36) rfl ?_); refine goesL_ (some 17) rfl rfl Try.func36 (by kernel_rfl) rfl #[.pointer (some ⟨g, 0, none⟩), .int .u8 93] rfl Z13 ?_; (with_reducible refine (spec_reader_take.calls g t160 t161 93 false t163 t164 w0 _ ?side1 ?side2 A3.out).mono ?_); (case side1 => exact Z6); (case side2 => exact Z8); rintro e w10 ⟨rfl, hi, hb, hk⟩; refine ⟨_, rfl, ?_⟩; have n0_ := Aside0.mk (KeepBut.trans Z9 hk (.inl rfl)); have n1_ := Aside0.mk (hb); have n2_ := Aside0.mk (hi); clear HK; clear HB; clear HI0; have HK := n0_; have HB := n1_; have HI0 := n2_; clear n0_ n1_ n2_; (try clear hb); (try clear hb2); (try clear hk); (try clear hi)))
  (try simp only [Act.put, List.setIfInBounds_toArray, List.set_cons_zero, List.set_cons_succ])
  go_loopg [4] k (fun kq v4 w' => ∃ (x4_1 : List (S25)) (x1000_1 : ByteArray) (x1001_1 : Int), Aside0 (spec_reader_elements.l0 V_spec_reader_value kq x4_1 x1000_1 x1001_1 = some (r1, r2, r3, r4)) ∧ Aside0 (kq ≤ k) ∧ Aside0 (Kd.R k25 25 w' w.heap.size (fun _ => True) v4 x4_1) ∧ Aside0 (IsS47 w0 w' g x1000_1 x1001_1) ∧ Aside0 (KeepBut w w' g none) ∧ Aside0 (Below w0.heap.size w0 w'))
  case atStart => exact ⟨(([] : List (S25))), (t163), (t164), H', ⟨Nat.le_refl _⟩, ⟨Z30⟩, ⟨Z6⟩, ⟨Z9⟩, ⟨Z8⟩⟩
  case round =>
   clear H'
   try clear c4
   try clear hcz8_0
   try clear hcz8_1
   try clear hfz8_0
   try clear hfz8_1
   obtain ⟨x4_1, x1000_1, x1001_1, HA, HK1, HO_4, HI0, HK, HB⟩ := hrel
   cases gk with
   | zero => exact absurd HA.out (by simp [spec_reader_elements.l0])
   | succ k1 =>
    have H := HA.out
    clear HA
    simp only [spec_reader_elements.l0] at H
    replace H := Option.bind_eq_some_iff.mp H
    obtain ⟨⟨t165, t166, t167, t168, t171, t174, t175, t176⟩, A110, H⟩ := H
    replace H : (if t174 = true then (if x4_1.length < 1954687338268 then ((some (x4_1 ++ [(⟨t165, t166, t167, t168, t171⟩ : S25)] : List (S25))).bind fun y178 => ((spec_reader_blanks.f k1 t175 t176).bind fun bt181 => ((spec_reader_take.f bt181.1 bt181.2 93).bind fun bt183 => (if bt183.1 = true then (some (y178, true, bt183.2.1, bt183.2.2)) else ((spec_reader_take.f bt183.2.1 bt183.2.2 44).bind fun bt186 => (if bt186.1 = true then ((spec_reader_blanks.f k1 bt186.2.1 bt186.2.2).bind fun bt189 => (spec_reader_elements.l0 V_spec_reader_value k1 y178 bt189.1 bt189.2)) else (some (([] : List (S25)), false, bt186.2.1, bt186.2.2)))))))) else (none)) else (some (([] : List (S25)), false, t175, t176))) = some (r1, r2, r3, r4) := H
    have A11 := Aside0.mk A110
    clear A110
    by_cases c12 : t174 = true
    ·subst c12
     have H1 : (if x4_1.length < 1954687338268 then ((some (x4_1 ++ [(⟨t165, t166, t167, t168, t171⟩ : S25)] : List (S25))).bind fun y178 => ((spec_reader_blanks.f k1 t175 t176).bind fun bt181 => ((spec_reader_take.f bt181.1 bt181.2 93).bind fun bt183 => (if bt183.1 = true then (some (y178, true, bt183.2.1, bt183.2.2)) else ((spec_reader_take.f bt183.2.1 bt183.2.2 44).bind fun bt186 => (if bt186.1 = true then ((spec_reader_blanks.f k1 bt186.2.1 bt186.2.2).bind fun bt189 => (spec_reader_elements.l0 V_spec_reader_value k1 y178 bt189.1 bt189.2)) else (some (([] : List (S25)), false, bt186.2.1, bt186.2.2)))))))) else (none)) = some (r1, r2, r3, r4) := Z61
     clear H
     have H := H1
     clear H1
     by_cases c13 : x4_1.length < 1954687338268
     ·rw [if_pos c13] at H
      have LMc13 := Aside0.mk c13
      clear c13
      obtain ⟨y178, hy178⟩ : ∃ y_ : List (S25), y_ = (x4_1 ++ [(⟨t165, t166, t167, t168, t171⟩ : S25)]) := ⟨_, rfl⟩
      replace H : ((spec_reader_blanks.f k1 t175 t176).bind fun bt181 => ((spec_reader_take.f bt181.1 bt181.2 93).bind fun bt183 => (if bt183.1 = true then (some (y178, true, bt183.2.1, bt183.2.2)) else ((spec_reader_take.f bt183.2.1 bt183.2.2 44).bind fun bt186 => (if bt186.1 = true then ((spec_reader_blanks.f k1 bt186.2.1 bt186.2.2).bind fun bt189 => (spec_reader_elements.l0 V_spec_reader_value k1 y178 bt189.1 bt189.2)) else (some (([] : List (S25)), false, bt186.2.1, bt186.2.2))))))) = some (r1, r2, r3, r4) := by first | (rw [hy178]; with_reducible exact H) | (have H2_ := (Option.bind_some _ _).symm.trans H; rw [hy178]; with_reducible exact H2_) | (have H2_ := (Option.bind_some _ _).symm.trans H; with_reducible exact H2_) | with_reducible exact H | (rw [hy178]; exact H) | exact H
      have Ny178 := Aside0.mk hy178
      clear hy178
      replace H := Option.bind_eq_some_iff.mp H
      obtain ⟨⟨t181, t182⟩, A140, H⟩ := H
      replace H : ((spec_reader_take.f t181 t182 93).bind fun bt183 => (if bt183.1 = true then (some (y178, true, bt183.2.1, bt183.2.2)) else ((spec_reader_take.f bt183.2.1 bt183.2.2 44).bind fun bt186 => (if bt186.1 = true then ((spec_reader_blanks.f k1 bt186.2.1 bt186.2.2).bind fun bt189 => (spec_reader_elements.l0 V_spec_reader_value k1 y178 bt189.1 bt189.2)) else (some (([] : List (S25)), false, bt186.2.1, bt186.2.2)))))) = some (r1, r2, r3, r4) := H
      have A14 := Aside0.mk A140
      clear A140
      replace H := Option.bind_eq_some_iff.mp H
      obtain ⟨⟨t183, t184, t185⟩, A150, H⟩ := H
      replace H : (if t183 = true then (some (y178, true, t184, t185)) else ((spec_reader_take.f t184 t185 44).bind fun bt186 => (if bt186.1 = true then ((spec_reader_blanks.f k1 bt186.2.1 bt186.2.2).bind fun bt189 => (spec_reader_elements.l0 V_spec_reader_value k1 y178 bt189.1 bt189.2)) else (some (([] : List (S25)), false, bt186.2.1, bt186.2.2))))) = some (r1, r2, r3, r4) := H
      have A15 := Aside0.mk A150
      clear A150
      by_cases c16 : t183 = true
      ·subst c16
       have H1 : (some (y178, true, t184, t185)) = some (r1, r2, r3, r4) := Z61
       clear H
       have H := H1
       clear H1
       ·
        simp only [Option.some.injEq, Prod.mk.injEq] at H
        obtain ⟨rfl, rfl, rfl, rfl⟩ := H
        exact Z2
      ·replace c16 := Bool.eq_false_iff.mpr c16
       subst c16
       have H1 : ((spec_reader_take.f t184 t185 44).bind fun bt186 => (if bt186.1 = true then ((spec_reader_blanks.f k1 bt186.2.1 bt186.2.2).bind fun bt189 => (spec_reader_elements.l0 V_spec_reader_value k1 y178 bt189.1 bt189.2)) else (some (([] : List (S25)), false, bt186.2.1, bt186.2.2)))) = some (r1, r2, r3, r4) := Z34
       clear H
       have H := H1
       clear H1
       replace H := Option.bind_eq_some_iff.mp H
       obtain ⟨⟨t186, t187, t188⟩, A280, H⟩ := H
       replace H : (if t186 = true then ((spec_reader_blanks.f k1 t187 t188).bind fun bt189 => (spec_reader_elements.l0 V_spec_reader_value k1 y178 bt189.1 bt189.2)) else (some (([] : List (S25)), false, t187, t188))) = some (r1, r2, r3, r4) := H
       have A28 := Aside0.mk A280
       clear A280
       by_cases c29 : t186 = true
       ·subst c29
        have H1 : ((spec_reader_blanks.f k1 t187 t188).bind fun bt189 => (spec_reader_elements.l0 V_spec_reader_value k1 y178 bt189.1 bt189.2)) = some (r1, r2, r3, r4) := Z61
        clear H
        have H := H1
        clear H1
        replace H := Option.bind_eq_some_iff.mp H
        obtain ⟨⟨t189, t190⟩, A300, H⟩ := H
        replace H : (spec_reader_elements.l0 V_spec_reader_value k1 y178 t189 t190) = some (r1, r2, r3, r4) := H
        have A30 := Aside0.mk A300
        clear A300
        ·
         have H' := Aside0.mk H
         clear H
         exact Z2
       ·replace c29 := Bool.eq_false_iff.mpr c29
        subst c29
        have H1 : (some (([] : List (S25)), false, t187, t188)) = some (r1, r2, r3, r4) := Z34
        clear H
        have H := H1
        clear H1
        ·
         simp only [Option.some.injEq, Prod.mk.injEq] at H
         obtain ⟨rfl, rfl, rfl, rfl⟩ := H
         exact Z2
     ·rw [if_neg c13] at H
      exact absurd H (by simp)
    ·replace c12 := Bool.eq_false_iff.mpr c12
     subst c12
     have H1 : (some (([] : List (S25)), false, t175, t176)) = some (r1, r2, r3, r4) := Z34
     clear H
     have H := H1
     clear H1
     ·
      simp only [Option.some.injEq, Prod.mk.injEq] at H
      obtain ⟨rfl, rfl, rfl, rfl⟩ := H
      exact Z2
end Go.Proofs.Ytkbeiidjagodnaa.Pr

-- written by a program of this session (wip/tools), for this seat
import Derived.Test.YtkbeiidjagodnaaPrx0
import Derived.Test.YtkbeiidjagodnaaPrx1
import Derived.Test.YtkbeiidjagodnaaPrx2
namespace Go.Proofs.Ytkbeiidjagodnaa.Pr
open Go.RowKit Go.Proofs.YtkbeiidjagodnaaW.PrintWords Go.Proofs.YtkbeiidjagodnaaW.PrintLast Go.Proofs.YtkbeiidjagodnaaW.PrintMore
attribute [local go_sem] max2_int min2_int max_two min_two max_three min_three max_four min_four   -- for this text's walks alone
set_option linter.unusedVariables false
set_option linter.unusedSimpArgs false
/-! ### spec_reader_number: function 30 -/
mutual
def spec_reader_number.j0 : Nat → Bool → ByteArray → Int → Option (Bool × ByteArray × Int)
 | 0, _, _, _ => none
 | k + 1, x12, x1000, x1001 => if x12 = true then (some (false, x1000, x1001)) else ((spec_reader_take.f x1000 x1001 46).bind fun bt206 => (if bt206.1 = true then ((spec_reader_digits.f k bt206.2.1 bt206.2.2).bind fun bt209 => (spec_reader_number.j1 k (!bt209.1) bt209.2.1 bt209.2.2)) else (spec_reader_number.j1 k false bt206.2.1 bt206.2.2)))
def spec_reader_number.j1 : Nat → Bool → ByteArray → Int → Option (Bool × ByteArray × Int)
 | 0, _, _, _ => none
 | k + 1, x19, x1000, x1001 => if x19 = true then (some (false, x1000, x1001)) else ((spec_reader_take.f x1000 x1001 101).bind fun bt212 => (if bt212.1 = true then (spec_reader_number.j2 k true bt212.2.1 bt212.2.2) else ((spec_reader_take.f bt212.2.1 bt212.2.2 69).bind fun bt215 => (spec_reader_number.j2 k bt215.1 bt215.2.1 bt215.2.2))))
def spec_reader_number.j2 : Nat → Bool → ByteArray → Int → Option (Bool × ByteArray × Int)
 | 0, _, _, _ => none
 | k + 1, x25, x1000, x1001 => if x25 = true then ((spec_reader_take.f x1000 x1001 43).bind fun bt218 => (if bt218.1 = true then ((spec_reader_digits.f k bt218.2.1 bt218.2.2).bind fun bt221 => (some (bt221.1, bt221.2.1, bt221.2.2))) else ((spec_reader_take.f bt218.2.1 bt218.2.2 45).bind fun bt224 => ((spec_reader_digits.f k bt224.2.1 bt224.2.2).bind fun bt227 => (some (bt227.1, bt227.2.1, bt227.2.2)))))) else (some (true, x1000, x1001))
end
def spec_reader_number.f (k : Nat) (s0_0 : ByteArray) (s0_1 : Int) : Option (Bool × ByteArray × Int) := (spec_reader_take.f s0_0 s0_1 45).bind fun bt197 => ((spec_reader_take.f bt197.2.1 bt197.2.2 48).bind fun bt200 => (if bt200.1 = true then (spec_reader_number.j0 k false bt200.2.1 bt200.2.2) else ((spec_reader_digits.f k bt200.2.1 bt200.2.2).bind fun bt203 => (spec_reader_number.j0 k (!bt203.1) bt203.2.1 bt203.2.2))))
theorem spec_reader_number.mono_l : ∀ k, (∀ y0 y1 y2, LeO (spec_reader_number.j0 k y0 y1 y2) (spec_reader_number.j0 (k + 1) y0 y1 y2)) ∧ (∀ y0 y1 y2, LeO (spec_reader_number.j1 k y0 y1 y2) (spec_reader_number.j1 (k + 1) y0 y1 y2)) ∧ (∀ y0 y1 y2, LeO (spec_reader_number.j2 k y0 y1 y2) (spec_reader_number.j2 (k + 1) y0 y1 y2))
 | 0 => ⟨fun _ _ _ r h => by simp [spec_reader_number.j0] at h, fun _ _ _ r h => by simp [spec_reader_number.j1] at h, fun _ _ _ r h => by simp [spec_reader_number.j2] at h⟩
 | k + 1 => by
  obtain ⟨ih0, ih1, ih2⟩ := spec_reader_number.mono_l k
  refine ⟨?_, ?_, ?_⟩ <;> intros <;> first | unfold spec_reader_number.j0 | unfold spec_reader_number.j1 | unfold spec_reader_number.j2
  all_goals
   repeat' first
   | (with_reducible exact ih0 _ _ _)
   | (with_reducible exact ih1 _ _ _)
   | (with_reducible exact ih2 _ _ _)
   | (with_reducible exact spec_reader_digits.mono _ _ _)
   | (with_reducible exact LeO.refl _)
   | (with_reducible exact LeO.none _)
   | (with_reducible refine LeO.ite ?_ ?_)
   | (with_reducible refine LeO.bind ?_ (fun _ => ?_))
   | exact ih0 _ _ _
   | exact ih1 _ _ _
   | exact ih2 _ _ _
   | exact spec_reader_digits.mono _ _ _
   | exact LeO.none _
   | refine LeO.ite ?_ ?_
   | refine LeO.bind ?_ (fun _ => ?_)
theorem spec_reader_number.mono : ∀ a0 a1 k, LeO (spec_reader_number.f k a0 a1) (spec_reader_number.f (k + 1) a0 a1) := by
 intro a0 a1 k
 obtain ⟨ih0, ih1, ih2⟩ := spec_reader_number.mono_l k
 unfold spec_reader_number.f
 repeat' first
   | (with_reducible exact ih0 _ _ _)
   | (with_reducible exact ih1 _ _ _)
   | (with_reducible exact ih2 _ _ _)
   | (with_reducible exact spec_reader_digits.mono _ _ _)
   | (with_reducible exact LeO.refl _)
   | (with_reducible exact LeO.none _)
   | (with_reducible refine LeO.ite ?_ ?_)
   | (with_reducible refine LeO.bind ?_ (fun _ => ?_))
   | exact ih0 _ _ _
   | exact ih1 _ _ _
   | exact ih2 _ _ _
   | exact spec_reader_digits.mono _ _ _
   | exact LeO.none _
   | refine LeO.ite ?_ ?_
   | refine LeO.bind ?_ (fun _ => ?_)
set_option maxHeartbeats 8000000 in
set_option maxRecDepth 100000 in
theorem spec_reader_number.calls (k : Nat) (g : Nat) (s0_0 : ByteArray) (s0_1 : Int) (r1 : Bool) (r2 : ByteArray) (r3 : Int) (w0 w : World) (hI : IsS47 w0 w g s0_0 s0_1) (hB : Below w0.heap.size w0 w) (h : spec_reader_number.f k s0_0 s0_1 = some (r1, r2, r3)) :
  Calls Try.prog 30 #[.pointer (some ⟨g, 0, none⟩)] w fun e w' => e = .returned (.bool r1) ∧ IsS47 w0 w' g r2 r3 ∧ Below w0.heap.size w0 w' ∧ KeepBut w w' g none := by
 have HI0 := Aside0.mk hI
 have HK := Aside0.mk (KeepBut.refl w g none)
 have HL := Aside0.mk hB.size
 clear hI
 have HW0 := Aside0.mk hB.size
 have HB := Aside0.mk hB
 clear hB
 have H : ((spec_reader_take.f s0_0 s0_1 45).bind fun bt197 => ((spec_reader_take.f bt197.2.1 bt197.2.2 48).bind fun bt200 => (if bt200.1 = true then (spec_reader_number.j0 k false bt200.2.1 bt200.2.2) else ((spec_reader_digits.f k bt200.2.1 bt200.2.2).bind fun bt203 => (spec_reader_number.j0 k (!bt203.1) bt203.2.1 bt203.2.2))))) = some (r1, r2, r3) := h
 clear h
 replace H := Option.bind_eq_some_iff.mp H
 obtain ⟨⟨t197, t198, t199⟩, A20, H⟩ := H
 replace H : ((spec_reader_take.f t198 t199 48).bind fun bt200 => (if bt200.1 = true then (spec_reader_number.j0 k false bt200.2.1 bt200.2.2) else ((spec_reader_digits.f k bt200.2.1 bt200.2.2).bind fun bt203 => (spec_reader_number.j0 k (!bt203.1) bt203.2.1 bt203.2.2)))) = some (r1, r2, r3) := H
 have A2 := Aside0.mk A20
 clear A20
 have HC3 := Aside0.mk H
 clear H
 go_enter Try.func30, Try.ntmps30
 go_upto_region 2 with (first | ((with_reducible refine gate_callee (f := 36) rfl ?_); refine goesL_ (some 4) rfl rfl Try.func36 (by kernel_rfl) rfl #[.pointer (some ⟨g, 0, none⟩), .int .u8 45] rfl Z13 ?_; (with_reducible refine (spec_reader_take.calls g s0_0 s0_1 45 t197 t198 t199 w0 _ ?side1 ?side2 A2.out).mono ?_); (case side1 => exact Z6); (case side2 => exact Z8); rintro e w4 ⟨rfl, hi, hb, hk⟩; refine ⟨_, rfl, ?_⟩; have n0_ := Aside0.mk (KeepBut.trans Z9 hk (.inl rfl)); have n1_ := Aside0.mk (hb); have n2_ := Aside0.mk (hi); clear HK; clear HB; clear HI0; have HK := n0_; have HB := n1_; have HI0 := n2_; clear n0_ n1_ n2_; (try clear hb); (try clear hb2); (try clear hk); (try clear hi)))
 (try simp only [Act.put, List.setIfInBounds_toArray, List.set_cons_zero, List.set_cons_succ])
 go_cut [12] (fun v12 wc => ∃ (kq : Nat) (x12_2 : Bool) (x1000_2 : ByteArray) (x1001_2 : Int), v12 = .bool x12_2 ∧ Aside0 (spec_reader_number.j0 kq x12_2 x1000_2 x1001_2 = some (r1, r2, r3)) ∧ Aside0 (kq ≤ k) ∧ Aside0 (IsS47 w0 wc g x1000_2 x1001_2) ∧ Aside0 (KeepBut w wc g none) ∧ Aside0 (Below w0.heap.size w0 wc))
 case first =>
  have H := HC3.out
  clear HC3
  replace H := Option.bind_eq_some_iff.mp H
  obtain ⟨⟨t200, t201, t202⟩, A50, H⟩ := H
  replace H : (if t200 = true then (spec_reader_number.j0 k false t201 t202) else ((spec_reader_digits.f k t201 t202).bind fun bt203 => (spec_reader_number.j0 k (!bt203.1) bt203.2.1 bt203.2.2))) = some (r1, r2, r3) := H
  have A5 := Aside0.mk A50
  clear A50
  by_cases c6 : t200 = true
  ·subst c6
   have H1 : (spec_reader_number.j0 k false t201 t202) = some (r1, r2, r3) := Z61
   clear H
   have H := H1
   clear H1
   ·
    have H' := Aside0.mk H
    clear H
    go_wp2_with (first | ((with_reducible refine gate_callee (f := 36) rfl ?_); refine goesL_ (some 6) rfl rfl Try.func36 (by kernel_rfl) rfl #[.pointer (some ⟨g, 0, none⟩), .int .u8 48] rfl Z13 ?_; (with_reducible refine (spec_reader_take.calls g t198 t199 48 true t201 t202 w0 _ ?side1 ?side2 A5.out).mono ?_); (case side1 => exact Z6); (case side2 => exact Z8); rintro e w7 ⟨rfl, hi, hb, hk⟩; refine ⟨_, rfl, ?_⟩; have n0_ := Aside0.mk (KeepBut.trans Z9 hk (.inl rfl)); have n1_ := Aside0.mk (hb); have n2_ := Aside0.mk (hi); clear HK; clear HB; clear HI0; have HK := n0_; have HB := n1_; have HI0 := n2_; clear n0_ n1_ n2_; (try clear hb); (try clear hb2); (try clear hk); (try clear hi)))
    go_meet
    case rel => exact ⟨_, (false), (t201), (t202), Z16, H', ⟨Z88⟩, ⟨Z6⟩, ⟨Z9⟩, ⟨Z8⟩⟩
  ·replace c6 := Bool.eq_false_iff.mpr c6
   subst c6
   have H1 : ((spec_reader_digits.f k t201 t202).bind fun bt203 => (spec_reader_number.j0 k (!bt203.1) bt203.2.1 bt203.2.2)) = some (r1, r2, r3) := Z34
   clear H
   have H := H1
   clear H1
   replace H := Option.bind_eq_some_iff.mp H
   obtain ⟨⟨t203, t204, t205⟩, A80, H⟩ := H
   replace H : (spec_reader_number.j0 k (!t203) t204 t205) = some (r1, r2, r3) := H
   have A8 := Aside0.mk A80
   clear A80
   ·
    have H' := Aside0.mk H
    clear H
    go_wp2_with (first | ((with_reducible refine gate_callee (f := 36) rfl ?_); refine goesL_ (some 6) rfl rfl Try.func36 (by kernel_rfl) rfl #[.pointer (some ⟨g, 0, none⟩), .int .u8 48] rfl Z13 ?_; (with_reducible refine (spec_reader_take.calls g t198 t199 48 false t201 t202 w0 _ ?side1 ?side2 A5.out).mono ?_); (case side1 => exact Z6); (case side2 => exact Z8); rintro e w9 ⟨rfl, hi, hb, hk⟩; refine ⟨_, rfl, ?_⟩; have n0_ := Aside0.mk (KeepBut.trans Z9 hk (.inl rfl)); have n1_ := Aside0.mk (hb); have n2_ := Aside0.mk (hi); clear HK; clear HB; clear HI0; have HK := n0_; have HB := n1_; have HI0 := n2_; clear n0_ n1_ n2_; (try clear hb); (try clear hb2); (try clear hk); (try clear hi)) | (go_at_call 38; (with_reducible refine (spec_reader_digits.calls k g t201 t202 t203 t204 t205 w0 _ ?side1 ?side2 A8.out).mono ?_); (case side1 => exact Z6); (case side2 => exact Z8); rintro e w10 ⟨rfl, hi, hb, hk⟩; have n0_ := Aside0.mk (KeepBut.trans Z9 hk (.inl rfl)); have n1_ := Aside0.mk (hb); have n2_ := Aside0.mk (hi); clear HK; clear HB; clear HI0; have HK := n0_; have HB := n1_; have HI0 := n2_; clear n0_ n1_ n2_; (try clear hb); (try clear hb2); (try clear hk); (try clear hi)))
    go_meet
    case rel => exact ⟨_, (!t203), (t204), (t205), Z16, H', ⟨Z88⟩, ⟨Z6⟩, ⟨Z9⟩, ⟨Z8⟩⟩
 case rest =>
  clear HC3
  obtain ⟨kq, x12_2, x1000_2, x1001_2, rfl, HA, HJ2, HI0, HK, HB⟩ := hcut
  cases kq with
  | zero => exact absurd HA.out (by simp [spec_reader_number.j0])
  | succ kj2 =>
   have H := HA.out
   clear HA
   simp only [spec_reader_number.j0] at H
   by_cases c11 : x12_2 = true
   ·subst c11
    have H1 : (some (false, x1000_2, x1001_2)) = some (r1, r2, r3) := Z61
    clear H
    have H := H1
    clear H1
    ·
     simp only [Option.some.injEq, Prod.mk.injEq] at H
     obtain ⟨rfl, rfl, rfl⟩ := H
     go_wp2
     go_ret
     exact ⟨Z15, Z6, Z8, Z9⟩
   ·replace c11 := Bool.eq_false_iff.mpr c11
    subst c11
    have H1 : ((spec_reader_take.f x1000_2 x1001_2 46).bind fun bt206 => (if bt206.1 = true then ((spec_reader_digits.f kj2 bt206.2.1 bt206.2.2).bind fun bt209 => (spec_reader_number.j1 kj2 (!bt209.1) bt209.2.1 bt209.2.2)) else (spec_reader_number.j1 kj2 false bt206.2.1 bt206.2.2))) = some (r1, r2, r3) := Z34
    clear H
    have H := H1
    clear H1
    have HC12 := Aside0.mk H
    clear H
    go_upto_region 4 with (fail)
    go_cut [19] (fun v19 wc => ∃ (kq : Nat) (x19_11 : Bool) (x1000_11 : ByteArray) (x1001_11 : Int), v19 = .bool x19_11 ∧ Aside0 (spec_reader_number.j1 kq x19_11 x1000_11 x1001_11 = some (r1, r2, r3)) ∧ Aside0 (kq ≤ kj2) ∧ Aside0 (IsS47 w0 wc g x1000_11 x1001_11) ∧ Aside0 (KeepBut w wc g none) ∧ Aside0 (Below w0.heap.size w0 wc))
    case first =>
     have H := HC12.out
     clear HC12
     replace H := Option.bind_eq_some_iff.mp H
     obtain ⟨⟨t206, t207, t208⟩, A130, H⟩ := H
     replace H : (if t206 = true then ((spec_reader_digits.f kj2 t207 t208).bind fun bt209 => (spec_reader_number.j1 kj2 (!bt209.1) bt209.2.1 bt209.2.2)) else (spec_reader_number.j1 kj2 false t207 t208)) = some (r1, r2, r3) := H
     have A13 := Aside0.mk A130
     clear A130
     by_cases c14 : t206 = true
     ·subst c14
      have H1 : ((spec_reader_digits.f kj2 t207 t208).bind fun bt209 => (spec_reader_number.j1 kj2 (!bt209.1) bt209.2.1 bt209.2.2)) = some (r1, r2, r3) := Z61
      clear H
      have H := H1
      clear H1
      replace H := Option.bind_eq_some_iff.mp H
      obtain ⟨⟨t209, t210, t211⟩, A150, H⟩ := H
      replace H : (spec_reader_number.j1 kj2 (!t209) t210 t211) = some (r1, r2, r3) := H
      have A15 := Aside0.mk A150
      clear A150
      ·
       have H' := Aside0.mk H
       clear H
       go_wp2_with (first | ((with_reducible refine gate_callee (f := 36) rfl ?_); refine goesL_ (some 14) rfl rfl Try.func36 (by kernel_rfl) rfl #[.pointer (some ⟨g, 0, none⟩), .int .u8 46] rfl Z13 ?_; (with_reducible refine (spec_reader_take.calls g x1000_2 x1001_2 46 true t207 t208 w0 _ ?side1 ?side2 A13.out).mono ?_); (case side1 => exact Z6); (case side2 => exact Z8); rintro e w16 ⟨rfl, hi, hb, hk⟩; refine ⟨_, rfl, ?_⟩; have n0_ := Aside0.mk (KeepBut.trans Z9 hk (.inl rfl)); have n1_ := Aside0.mk (hb); have n2_ := Aside0.mk (hi); clear HK; clear HB; clear HI0; have HK := n0_; have HB := n1_; have HI0 := n2_; clear n0_ n1_ n2_; (try clear hb); (try clear hb2); (try clear hk); (try clear hi)) | (go_at_call 38; (with_reducible refine (spec_reader_digits.calls kj2 g t207 t208 t209 t210 t211 w0 _ ?side1 ?side2 A15.out).mono ?_); (case side1 => exact Z6); (case side2 => exact Z8); rintro e w17 ⟨rfl, hi, hb, hk⟩; have n0_ := Aside0.mk (KeepBut.trans Z9 hk (.inl rfl)); have n1_ := Aside0.mk (hb); have n2_ := Aside0.mk (hi); clear HK; clear HB; clear HI0; have HK := n0_; have HB := n1_; have HI0 := n2_; clear n0_ n1_ n2_; (try clear hb); (try clear hb2); (try clear hk); (try clear hi)))
       go_meet
       case rel => exact ⟨_, (!t209), (t210), (t211), Z16, H', ⟨Z167⟩, ⟨Z6⟩, ⟨Z9⟩, ⟨Z8⟩⟩
     ·replace c14 := Bool.eq_false_iff.mpr c14
      subst c14
      have H1 : (spec_reader_number.j1 kj2 false t207 t208) = some (r1, r2, r3) := Z34
      clear H
      have H := H1
      clear H1
      ·
       have H' := Aside0.mk H
       clear H
       go_wp2_with (first | ((with_reducible refine gate_callee (f := 36) rfl ?_); refine goesL_ (some 14) rfl rfl Try.func36 (by kernel_rfl) rfl #[.pointer (some ⟨g, 0, none⟩), .int .u8 46] rfl Z13 ?_; (with_reducible refine (spec_reader_take.calls g x1000_2 x1001_2 46 false t207 t208 w0 _ ?side1 ?side2 A13.out).mono ?_); (case side1 => exact Z6); (case side2 => exact Z8); rintro e w18 ⟨rfl, hi, hb, hk⟩; refine ⟨_, rfl, ?_⟩; have n0_ := Aside0.mk (KeepBut.trans Z9 hk (.inl rfl)); have n1_ := Aside0.mk (hb); have n2_ := Aside0.mk (hi); clear HK; clear HB; clear HI0; have HK := n0_; have HB := n1_; have HI0 := n2_; clear n0_ n1_ n2_; (try clear hb); (try clear hb2); (try clear hk); (try clear hi)))
       go_meet
       case rel => exact ⟨_, (false), (t207), (t208), Z16, H', ⟨Z167⟩, ⟨Z6⟩, ⟨Z9⟩, ⟨Z8⟩⟩
    case rest =>
     clear HC12
     try clear c11
     obtain ⟨kq, x19_11, x1000_11, x1001_11, rfl, HA, HJ11, HI0, HK, HB⟩ := hcut
     cases kq with
     | zero => exact absurd HA.out (by simp [spec_reader_number.j1])
     | succ kj11 =>
      have H := HA.out
      clear HA
      simp only [spec_reader_number.j1] at H
      by_cases c19 : x19_11 = true
      ·subst c19
       have H1 : (some (false, x1000_11, x1001_11)) = some (r1, r2, r3) := Z61
       clear H
       have H := H1
       clear H1
       ·
        simp only [Option.some.injEq, Prod.mk.injEq] at H
        obtain ⟨rfl, rfl, rfl⟩ := H
        go_wp2
        go_ret
        exact ⟨Z15, Z6, Z8, Z9⟩
      ·replace c19 := Bool.eq_false_iff.mpr c19
       subst c19
       have H1 : ((spec_reader_take.f x1000_11 x1001_11 101).bind fun bt212 => (if bt212.1 = true then (spec_reader_number.j2 kj11 true bt212.2.1 bt212.2.2) else ((spec_reader_take.f bt212.2.1 bt212.2.2 69).bind fun bt215 => (spec_reader_number.j2 kj11 bt215.1 bt215.2.1 bt215.2.2)))) = some (r1, r2, r3) := Z34
       clear H
       have H := H1
       clear H1
       have HC20 := Aside0.mk H
       clear H
       go_upto_region 6 with (fail)
       go_cut [25] (fun v25 wc => ∃ (kq : Nat) (x25_19 : Bool) (x1000_19 : ByteArray) (x1001_19 : Int), v25 = .bool x25_19 ∧ Aside0 (spec_reader_number.j2 kq x25_19 x1000_19 x1001_19 = some (r1, r2, r3)) ∧ Aside0 (kq ≤ kj11) ∧ Aside0 (IsS47 w0 wc g x1000_19 x1001_19) ∧ Aside0 (KeepBut w wc g none) ∧ Aside0 (Below w0.heap.size w0 wc))
       case first =>
        have H := HC20.out
        clear HC20
        replace H := Option.bind_eq_some_iff.mp H
        obtain ⟨⟨t212, t213, t214⟩, A210, H⟩ := H
        replace H : (if t212 = true then (spec_reader_number.j2 kj11 true t213 t214) else ((spec_reader_take.f t213 t214 69).bind fun bt215 => (spec_reader_number.j2 kj11 bt215.1 bt215.2.1 bt215.2.2))) = some (r1, r2, r3) := H
        have A21 := Aside0.mk A210
        clear A210
        by_cases c22 : t212 = true
        ·subst c22
         have H1 : (spec_reader_number.j2 kj11 true t213 t214) = some (r1, r2, r3) := Z61
         clear H
         have H := H1
         clear H1
         ·
          have H' := Aside0.mk H
          clear H
          go_wp2_with (first | ((with_reducible refine gate_callee (f := 36) rfl ?_); refine goesL_ (some 21) rfl rfl Try.func36 (by kernel_rfl) rfl #[.pointer (some ⟨g, 0, none⟩), .int .u8 101] rfl Z13 ?_; (with_reducible refine (spec_reader_take.calls g x1000_11 x1001_11 101 true t213 t214 w0 _ ?side1 ?side2 A21.out).mono ?_); (case side1 => exact Z6); (case side2 => exact Z8); rintro e w23 ⟨rfl, hi, hb, hk⟩; refine ⟨_, rfl, ?_⟩; have n0_ := Aside0.mk (KeepBut.trans Z9 hk (.inl rfl)); have n1_ := Aside0.mk (hb); have n2_ := Aside0.mk (hi); clear HK; clear HB; clear HI0; have HK := n0_; have HB := n1_; have HI0 := n2_; clear n0_ n1_ n2_; (try clear hb); (try clear hb2); (try clear hk); (try clear hi)))
          go_meet
          case rel => exact ⟨_, (true), (t213), (t214), Z16, H', ⟨by have := HJ2.out; have := HJ11.out; first | omega | exact Nat.le_refl _⟩, ⟨Z6⟩, ⟨Z9⟩, ⟨Z8⟩⟩
        ·replace c22 := Bool.eq_false_iff.mpr c22
         subst c22
         have H1 : ((spec_reader_take.f t213 t214 69).bind fun bt215 => (spec_reader_number.j2 kj11 bt215.1 bt215.2.1 bt215.2.2)) = some (r1, r2, r3) := Z34
         clear H
         have H := H1
         clear H1
         replace H := Option.bind_eq_some_iff.mp H
         obtain ⟨⟨t215, t216, t217⟩, A240, H⟩ := H
         replace H : (spec_reader_number.j2 kj11 t215 t216 t217) = some (r1, r2, r3) := H
         have A24 := Aside0.mk A240
         clear A240
         ·
          have H' := Aside0.mk H
          clear H
          go_wp2_with (first | ((with_reducible refine gate_callee (f := 36) rfl ?_); refine goesL_ (some 21) rfl rfl Try.func36 (by kernel_rfl) rfl #[.pointer (some ⟨g, 0, none⟩), .int .u8 101] rfl Z13 ?_; (with_reducible refine (spec_reader_take.calls g x1000_11 x1001_11 101 false t213 t214 w0 _ ?side1 ?side2 A21.out).mono ?_); (case side1 => exact Z6); (case side2 => exact Z8); rintro e w25 ⟨rfl, hi, hb, hk⟩; refine ⟨_, rfl, ?_⟩; have n0_ := Aside0.mk (KeepBut.trans Z9 hk (.inl rfl)); have n1_ := Aside0.mk (hb); have n2_ := Aside0.mk (hi); clear HK; clear HB; clear HI0; have HK := n0_; have HB := n1_; have HI0 := n2_; clear n0_ n1_ n2_; (try clear hb); (try clear hb2); (try clear hk); (try clear hi)) | (go_at_call 36; (with_reducible refine (spec_reader_take.calls g t213 t214 69 t215 t216 t217 w0 _ ?side1 ?side2 A24.out).mono ?_); (case side1 => exact Z6); (case side2 => exact Z8); rintro e w26 ⟨rfl, hi, hb, hk⟩; have n0_ := Aside0.mk (KeepBut.trans Z9 hk (.inl rfl)); have n1_ := Aside0.mk (hb); have n2_ := Aside0.mk (hi); clear HK; clear HB; clear HI0; have HK := n0_; have HB := n1_; have HI0 := n2_; clear n0_ n1_ n2_; (try clear hb); (try clear hb2); (try clear hk); (try clear hi)))
          go_meet
          case rel => exact ⟨_, (t215), (t216), (t217), Z16, H', ⟨by have := HJ2.out; have := HJ11.out; first | omega | exact Nat.le_refl _⟩, ⟨Z6⟩, ⟨Z9⟩, ⟨Z8⟩⟩
       case rest =>
        clear HC20
        try clear c11
        try clear c19
        obtain ⟨kq, x25_19, x1000_19, x1001_19, rfl, HA, HJ19, HI0, HK, HB⟩ := hcut
        cases kq with
        | zero => exact absurd HA.out (by simp [spec_reader_number.j2])
        | succ kj19 =>
         have H := HA.out
         clear HA
         simp only [spec_reader_number.j2] at H
         by_cases c27 : x25_19 = true
         ·subst c27
          have H1 : ((spec_reader_take.f x1000_19 x1001_19 43).bind fun bt218 => (if bt218.1 = true then ((spec_reader_digits.f kj19 bt218.2.1 bt218.2.2).bind fun bt221 => (some (bt221.1, bt221.2.1, bt221.2.2))) else ((spec_reader_take.f bt218.2.1 bt218.2.2 45).bind fun bt224 => ((spec_reader_digits.f kj19 bt224.2.1 bt224.2.2).bind fun bt227 => (some (bt227.1, bt227.2.1, bt227.2.2)))))) = some (r1, r2, r3) := Z61
          clear H
          have H := H1
          clear H1
          replace H := Option.bind_eq_some_iff.mp H
          obtain ⟨⟨t218, t219, t220⟩, A280, H⟩ := H
          replace H : (if t218 = true then ((spec_reader_digits.f kj19 t219 t220).bind fun bt221 => (some (bt221.1, bt221.2.1, bt221.2.2))) else ((spec_reader_take.f t219 t220 45).bind fun bt224 => ((spec_reader_digits.f kj19 bt224.2.1 bt224.2.2).bind fun bt227 => (some (bt227.1, bt227.2.1, bt227.2.2))))) = some (r1, r2, r3) := H
          have A28 := Aside0.mk A280
          clear A280
          by_cases c29 : t218 = true
          ·subst c29
           have H1 : ((spec_reader_digits.f kj19 t219 t220).bind fun bt221 => (some (bt221.1, bt221.2.1, bt221.2.2))) = some (r1, r2, r3) := Z61
           clear H
           have H := H1
           clear H1
           replace H := Option.bind_eq_some_iff.mp H
           obtain ⟨⟨t221, t222, t223⟩, A300, H⟩ := H
           replace H : (some (t221, t222, t223)) = some (r1, r2, r3) := H
           have A30 := Aside0.mk A300
           clear A300
           ·
            simp only [Option.some.injEq, Prod.mk.injEq] at H
            obtain ⟨rfl, rfl, rfl⟩ := H
            exact Z32
          ·replace c29 := Bool.eq_false_iff.mpr c29
           subst c29
           have H1 : ((spec_reader_take.f t219 t220 45).bind fun bt224 => ((spec_reader_digits.f kj19 bt224.2.1 bt224.2.2).bind fun bt227 => (some (bt227.1, bt227.2.1, bt227.2.2)))) = some (r1, r2, r3) := Z34
           clear H
           have H := H1
           clear H1
           replace H := Option.bind_eq_some_iff.mp H
           obtain ⟨⟨t224, t225, t226⟩, A330, H⟩ := H
           replace H : ((spec_reader_digits.f kj19 t225 t226).bind fun bt227 => (some (bt227.1, bt227.2.1, bt227.2.2))) = some (r1, r2, r3) := H
           have A33 := Aside0.mk A330
           clear A330
           replace H := Option.bind_eq_some_iff.mp H
           obtain ⟨⟨t227, t228, t229⟩, A340, H⟩ := H
           replace H : (some (t227, t228, t229)) = some (r1, r2, r3) := H
           have A34 := Aside0.mk A340
           clear A340
           ·
            simp only [Option.some.injEq, Prod.mk.injEq] at H
            obtain ⟨rfl, rfl, rfl⟩ := H
            exact Z32
         ·replace c27 := Bool.eq_false_iff.mpr c27
          subst c27
          have H1 : (some (true, x1000_19, x1001_19)) = some (r1, r2, r3) := Z34
          clear H
          have H := H1
          clear H1
          ·
           simp only [Option.some.injEq, Prod.mk.injEq] at H
           obtain ⟨rfl, rfl, rfl⟩ := H
           go_wp2
           go_ret
           exact ⟨Z15, Z6, Z8, Z9⟩
/-! ### spec_reader_word: function 31 -/
def spec_reader_word.f (s0_0 : ByteArray) (s0_1 : Int) (a1 : ByteArray) : Option (Bool × ByteArray × Int) := if (wrap64 ((s0_0.size : Int) - s0_1)) < (a1.size : Int) then (some (false, s0_0, s0_1)) else (if 0 ≤ s0_1 then (if s0_1 ≤ (wrap64 (s0_1 + (a1.size : Int))) then (if (wrap64 (s0_1 + (a1.size : Int))) ≤ (s0_0.size : Int) then (if (s0_0.extract (s0_1 : Int).toNat ((wrap64 (s0_1 + (a1.size : Int))) : Int).toNat).toList = a1.toList then (some (true, s0_0, wrap64 (s0_1 + (a1.size : Int)))) else (some (false, s0_0, s0_1))) else (none)) else (none)) else (none))
set_option maxHeartbeats 8000000 in
set_option maxRecDepth 100000 in
theorem spec_reader_word.calls (g : Nat) (s0_0 : ByteArray) (s0_1 : Int) (a1 : ByteArray) (r1 : Bool) (r2 : ByteArray) (r3 : Int) (w0 w : World) (hI : IsS47 w0 w g s0_0 s0_1) (hB : Below w0.heap.size w0 w) (h : spec_reader_word.f s0_0 s0_1 a1 = some (r1, r2, r3)) :
  Calls Try.prog 31 #[.pointer (some ⟨g, 0, none⟩), .string a1] w fun e w' => e = .returned (.bool r1) ∧ IsS47 w0 w' g r2 r3 ∧ Below w0.heap.size w0 w' ∧ KeepBut w w' g none := by
 have HI0 := Aside0.mk hI
 have HK := Aside0.mk (KeepBut.refl w g none)
 have HL := Aside0.mk hB.size
 clear hI
 have HW0 := Aside0.mk hB.size
 have HB := Aside0.mk hB
 clear hB
 have H : (if (wrap64 ((s0_0.size : Int) - s0_1)) < (a1.size : Int) then (some (false, s0_0, s0_1)) else (if 0 ≤ s0_1 then (if s0_1 ≤ (wrap64 (s0_1 + (a1.size : Int))) then (if (wrap64 (s0_1 + (a1.size : Int))) ≤ (s0_0.size : Int) then (if (s0_0.extract (s0_1 : Int).toNat ((wrap64 (s0_1 + (a1.size : Int))) : Int).toNat).toList = a1.toList then (some (true, s0_0, wrap64 (s0_1 + (a1.size : Int)))) else (some (false, s0_0, s0_1))) else (none)) else (none)) else (none))) = some (r1, r2, r3) := h
 clear h
 by_cases c3 : (wrap64 ((s0_0.size : Int) - s0_1)) < (a1.size : Int)
 ·rw [if_pos c3] at H
  have c3b0 : decide ((wrap64 ((s0_0.size : Int) - s0_1)) < (a1.size : Int)) = true := decide_eq_true c3
  clear c3
  ·
   simp only [Option.some.injEq, Prod.mk.injEq] at H
   obtain ⟨rfl, rfl, rfl⟩ := H
   obtain ⟨HGz4, hgz4⟩ := HI0.out
   have hcz4_0 := cellS47_0 HGz4
   have hcz4_1 := cellS47_1 HGz4
   have hfz4_0 := blk_frozen HGz4 0
   have hfz4_1 := blk_frozen HGz4 1
   clear HGz4 hgz4
   go_enter Try.func31, Try.ntmps31
   go_wp2
   repeat (go_quiet (fail); try go_wp2)
   go_ret
   exact ⟨Z15, Z6, Z8, Z9⟩
 ·rw [if_neg c3] at H
  have c3b0 : decide ((wrap64 ((s0_0.size : Int) - s0_1)) < (a1.size : Int)) = false := decide_eq_false c3
  clear c3
  by_cases c5 : 0 ≤ s0_1
  ·rw [if_pos c5] at H
   have c5b0 := eq_true c5
   have c5b1 : decide (0 ≤ s0_1) = true := decide_eq_true c5
   clear c5
   by_cases c6 : s0_1 ≤ (wrap64 (s0_1 + (a1.size : Int)))
   ·rw [if_pos c6] at H
    have c6b0 := eq_true c6
    have c6b1 : decide (s0_1 ≤ (wrap64 (s0_1 + (a1.size : Int)))) = true := decide_eq_true c6
    by_cases c7 : (wrap64 (s0_1 + (a1.size : Int))) ≤ (s0_0.size : Int)
    ·rw [if_pos c7] at H
     have c7b0 := eq_true c7
     have c7b1 : decide ((wrap64 (s0_1 + (a1.size : Int))) ≤ (s0_0.size : Int)) = true := decide_eq_true c7
     by_cases c8 : (s0_0.extract (s0_1 : Int).toNat ((wrap64 (s0_1 + (a1.size : Int))) : Int).toNat).toList = a1.toList
     ·rw [if_pos c8] at H
      have c8b0 : ((s0_0.extract (s0_1 : Int).toNat ((wrap64 (s0_1 + (a1.size : Int))) : Int).toNat).toList == a1.toList) = true := beq_iff_eq.mpr c8
      have c8b1 : ((s0_0.extract (s0_1 : Int).toNat ((wrap64 (s0_1 + (a1.size : Int))) : Int).toNat).toList != a1.toList) = false := bne_eq_false_iff_eq.mpr c8
      clear c8
      ·
       simp only [Option.some.injEq, Prod.mk.injEq] at H
       obtain ⟨rfl, rfl, rfl⟩ := H
       obtain ⟨HGz9, hgz9⟩ := HI0.out
       have hcz9_0 := cellS47_0 HGz9
       have hcz9_1 := cellS47_1 HGz9
       have hfz9_0 := blk_frozen HGz9 0
       have hfz9_1 := blk_frozen HGz9 1
       clear HGz9 hgz9
       go_enter Try.func31, Try.ntmps31
       go_wp2
       repeat (go_quiet (fail); try go_wp2)
       go_ret
       exact ⟨Z15, Z6, Z8, Z9⟩
     ·rw [if_neg c8] at H
      have c8b0 : ((s0_0.extract (s0_1 : Int).toNat ((wrap64 (s0_1 + (a1.size : Int))) : Int).toNat).toList == a1.toList) = false := beq_eq_false_iff_ne.mpr c8
      have c8b1 : ((s0_0.extract (s0_1 : Int).toNat ((wrap64 (s0_1 + (a1.size : Int))) : Int).toNat).toList != a1.toList) = true := bne_iff_ne.mpr c8
      ·
       simp only [Option.some.injEq, Prod.mk.injEq] at H
       obtain ⟨rfl, rfl, rfl⟩ := H
       obtain ⟨HGz10, hgz10⟩ := HI0.out
       have hcz10_0 := cellS47_0 HGz10
       have hcz10_1 := cellS47_1 HGz10
       have hfz10_0 := blk_frozen HGz10 0
       have hfz10_1 := blk_frozen HGz10 1
       clear HGz10 hgz10
       go_enter Try.func31, Try.ntmps31
       go_wp2
       repeat (go_quiet (fail); try go_wp2)
       go_ret
       exact ⟨Z15, Z6, Z8, Z9⟩
    ·rw [if_neg c7] at H
     exact absurd H (by simp)
   ·rw [if_neg c6] at H
    exact absurd H (by simp)
  ·rw [if_neg c5] at H
   exact absurd H (by simp)
end Go.Proofs.Ytkbeiidjagodnaa.Pr

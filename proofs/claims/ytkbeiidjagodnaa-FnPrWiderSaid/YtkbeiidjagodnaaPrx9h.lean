-- written by a program of this session (wip/tools), for this seat
import Derived.Test.YtkbeiidjagodnaaPrx0
namespace Go.Proofs.Ytkbeiidjagodnaa.Pr
open Go.RowKit Go.Proofs.YtkbeiidjagodnaaW.PrintWords Go.Proofs.YtkbeiidjagodnaaW.PrintLast Go.Proofs.YtkbeiidjagodnaaW.PrintMore
attribute [local go_sem] max2_int min2_int max_two min_two max_three min_three max_four min_four   -- for this text's walks alone
set_option linter.unusedVariables false
set_option linter.unusedSimpArgs false
/-! ### laws_prHasArray: function 9 -/
def laws_prHasArray.l0 : Nat → ByteArray → Bool → Bool → Int → Option (Bool)
 | 0, _, _, _, _ => none
 | k + 1, x0, x3, x4, x5 => if x5 < (x0.size : Int) then (if x3 = true then (if x4 = true then (laws_prHasArray.l0 k x0 true true (wrap64 (x5 + 1))) else (if 0 ≤ x5 then (laws_prHasArray.l0 k x0 true ((bt x0 x5) == 93) (wrap64 (x5 + 1))) else (none))) else (if 0 ≤ x5 then (if (bt x0 x5) = 91 then (if (wrap64 (x5 + 1)) < (x0.size : Int) then (if 0 ≤ (wrap64 (x5 + 1)) then (if x4 = true then (laws_prHasArray.l0 k x0 ((bt x0 (wrap64 (x5 + 1))) != 93) true (wrap64 (x5 + 1))) else (if (bt x0 (wrap64 (x5 + 1))) = 93 then (laws_prHasArray.l0 k x0 ((bt x0 (wrap64 (x5 + 1))) != 93) false (wrap64 (x5 + 1))) else (laws_prHasArray.l0 k x0 ((bt x0 (wrap64 (x5 + 1))) != 93) ((bt x0 x5) == 93) (wrap64 (x5 + 1))))) else (none)) else (if x4 = true then (laws_prHasArray.l0 k x0 false true (wrap64 (x5 + 1))) else (laws_prHasArray.l0 k x0 false false (wrap64 (x5 + 1))))) else (if x4 = true then (laws_prHasArray.l0 k x0 false true (wrap64 (x5 + 1))) else (laws_prHasArray.l0 k x0 false false (wrap64 (x5 + 1))))) else (none))) else (some x4)
def laws_prHasArray.f (k : Nat) (a0 : ByteArray) : Option (Bool) := laws_prHasArray.l0 k a0 false false 0
theorem laws_prHasArray.mono_l : ∀ k, (∀ y0 y1 y2 y3, LeO (laws_prHasArray.l0 k y0 y1 y2 y3) (laws_prHasArray.l0 (k + 1) y0 y1 y2 y3))
 | 0 => fun _ _ _ _ r h => by simp [laws_prHasArray.l0] at h
 | k + 1 => by
  have ih0 := laws_prHasArray.mono_l k
  ·intro y0 y1 y2 y3
   unfold laws_prHasArray.l0
   repeat' first
   | (with_reducible exact ih0 _ _ _ _)
   | (with_reducible exact LeO.refl _)
   | (with_reducible exact LeO.none _)
   | (with_reducible refine LeO.ite ?_ ?_)
   | (with_reducible refine LeO.bind ?_ (fun _ => ?_))
   | exact ih0 _ _ _ _
   | exact LeO.none _
   | refine LeO.ite ?_ ?_
   | refine LeO.bind ?_ (fun _ => ?_)
theorem laws_prHasArray.mono : ∀ a0 k, LeO (laws_prHasArray.f k a0) (laws_prHasArray.f (k + 1) a0) := by
 intro a0 k
 have ih0 := laws_prHasArray.mono_l k
 unfold laws_prHasArray.f
 repeat' first
   | (with_reducible exact ih0 _ _ _ _)
   | (with_reducible exact LeO.refl _)
   | (with_reducible exact LeO.none _)
   | (with_reducible refine LeO.ite ?_ ?_)
   | (with_reducible refine LeO.bind ?_ (fun _ => ?_))
   | exact ih0 _ _ _ _
   | exact LeO.none _
   | refine LeO.ite ?_ ?_
   | refine LeO.bind ?_ (fun _ => ?_)
set_option maxHeartbeats 8000000 in
set_option maxRecDepth 100000 in
theorem laws_prHasArray.calls (k : Nat) (a0 : ByteArray) (r : Bool) (w : World) (h : laws_prHasArray.f k a0 = some r) :
  Calls Try.prog 9 #[.string a0] w fun e w' => e = .returned (.bool r) ∧ Drawn0 w w' := by
 have H : (laws_prHasArray.l0 k a0 false false 0) = some r := h
 clear h
 have H' := Aside0.mk H
 clear H
 go_enter Try.func9, Try.ntmps9
 go_wp2
 (try simp only [Act.put, List.setIfInBounds_toArray, List.set_cons_zero, List.set_cons_succ])
 go_loopg [3, 4, 5] k (fun kq v3 v4 v5 w' => ∃ (x3_1 : Bool) (x4_1 : Bool) (x5_1 : Int), v3 = .bool x3_1 ∧ v4 = .bool x4_1 ∧ v5 = .int .i64 x5_1 ∧ Aside0 (laws_prHasArray.l0 kq a0 x3_1 x4_1 x5_1 = some r) ∧ Aside0 (kq ≤ k) ∧ Drawn0 w w')
 case atStart => exact ⟨(false), (false), (0), Z8, Z8, Z8, H', ⟨Nat.le_refl _⟩, Z50⟩
 case round =>
  clear H'
  obtain ⟨x3_1, x4_1, x5_1, rfl, rfl, rfl, HA, HK1, ⟨m1, rfl⟩⟩ := hrel
  cases gk with
  | zero => exact absurd HA.out (by simp [laws_prHasArray.l0])
  | succ k1 =>
   have H := HA.out
   clear HA
   simp only [laws_prHasArray.l0] at H
   by_cases c2 : x5_1 < (a0.size : Int)
   ·rw [if_pos c2] at H
    have c2b0 : decide (x5_1 < (a0.size : Int)) = true := decide_eq_true c2
    clear c2
    by_cases c3 : x3_1 = true
    ·subst c3
     have H1 : (if x4_1 = true then (laws_prHasArray.l0 k1 a0 true true (wrap64 (x5_1 + 1))) else (if 0 ≤ x5_1 then (laws_prHasArray.l0 k1 a0 true ((bt a0 x5_1) == 93) (wrap64 (x5_1 + 1))) else (none))) = some r := Z52
     clear H
     have H := H1
     clear H1
     by_cases c4 : x4_1 = true
     ·subst c4
      have H1 : (laws_prHasArray.l0 k1 a0 true true (wrap64 (x5_1 + 1))) = some r := Z52
      clear H
      have H := H1
      clear H1
      ·
       have H' := Aside0.mk H
       clear H
       go_wp2
       go_roundg k1
       case measure => have := HK1.out; omega
       case rel => exact ⟨(true), (true), (wrap64 (x5_1 + 1)), Z8, Z8, Z8, H', ⟨by have := HK1.out; omega⟩, Z50⟩
     ·replace c4 := Bool.eq_false_iff.mpr c4
      subst c4
      have H1 : (if 0 ≤ x5_1 then (laws_prHasArray.l0 k1 a0 true ((bt a0 x5_1) == 93) (wrap64 (x5_1 + 1))) else (none)) = some r := Z31
      clear H
      have H := H1
      clear H1
      by_cases c5 : 0 ≤ x5_1
      ·rw [if_pos c5] at H
       have c5b0 : decide (0 ≤ x5_1) = true := decide_eq_true c5
       clear c5
       ·
        have H' := Aside0.mk H
        clear H
        have p6 : 0 ≤ (x5_1 : Int) := of_decide_eq_true Z6
        have q6 : x5_1 < (a0.size : Int) := of_decide_eq_true Z6
        have hx6 := bt_at a0 x5_1
        replace p6 := eq_true p6
        replace q6 := eq_true q6
        go_wp2
        go_roundg k1
        case measure => have := HK1.out; omega
        case rel => exact ⟨(true), (((bt a0 x5_1) == 93)), (wrap64 (x5_1 + 1)), Z8, Z8, Z8, H', ⟨by have := HK1.out; omega⟩, Z50⟩
      ·rw [if_neg c5] at H
       exact absurd H (by simp)
    ·replace c3 := Bool.eq_false_iff.mpr c3
     subst c3
     have H1 : (if 0 ≤ x5_1 then (if (bt a0 x5_1) = 91 then (if (wrap64 (x5_1 + 1)) < (a0.size : Int) then (if 0 ≤ (wrap64 (x5_1 + 1)) then (if x4_1 = true then (laws_prHasArray.l0 k1 a0 ((bt a0 (wrap64 (x5_1 + 1))) != 93) true (wrap64 (x5_1 + 1))) else (if (bt a0 (wrap64 (x5_1 + 1))) = 93 then (laws_prHasArray.l0 k1 a0 ((bt a0 (wrap64 (x5_1 + 1))) != 93) false (wrap64 (x5_1 + 1))) else (laws_prHasArray.l0 k1 a0 ((bt a0 (wrap64 (x5_1 + 1))) != 93) ((bt a0 x5_1) == 93) (wrap64 (x5_1 + 1))))) else (none)) else (if x4_1 = true then (laws_prHasArray.l0 k1 a0 false true (wrap64 (x5_1 + 1))) else (laws_prHasArray.l0 k1 a0 false false (wrap64 (x5_1 + 1))))) else (if x4_1 = true then (laws_prHasArray.l0 k1 a0 false true (wrap64 (x5_1 + 1))) else (laws_prHasArray.l0 k1 a0 false false (wrap64 (x5_1 + 1))))) else (none)) = some r := Z31
     clear H
     have H := H1
     clear H1
     by_cases c7 : 0 ≤ x5_1
     ·rw [if_pos c7] at H
      have c7b0 : decide (0 ≤ x5_1) = true := decide_eq_true c7
      clear c7
      by_cases c9 : (bt a0 x5_1) = 91
      ·rw [if_pos c9] at H
       have c9b0 : ((bt a0 x5_1) == 91) = true := beq_iff_eq.mpr c9
       have c9b1 : ((bt a0 x5_1) != 91) = false := bne_eq_false_iff_eq.mpr c9
       clear c9
       by_cases c10 : (wrap64 (x5_1 + 1)) < (a0.size : Int)
       ·rw [if_pos c10] at H
        have c10b0 : decide ((wrap64 (x5_1 + 1)) < (a0.size : Int)) = true := decide_eq_true c10
        clear c10
        obtain ⟨ji11, hji11⟩ : ∃ j_ : Int, (wrap64 (x5_1 + 1)) = j_ := ⟨_, rfl⟩
        replace H : (if 0 ≤ (ji11) then (if x4_1 = true then (laws_prHasArray.l0 k1 a0 ((bt a0 (ji11)) != 93) true ji11) else (if (bt a0 (ji11)) = 93 then (laws_prHasArray.l0 k1 a0 ((bt a0 (ji11)) != 93) false ji11) else (laws_prHasArray.l0 k1 a0 ((bt a0 (ji11)) != 93) ((bt a0 x5_1) == 93) ji11))) else (none)) = some r := by first | (rw [hji11] at H; exact H) | (simp only [hji11] at H ⊢; exact H)
        (try rw [hji11] at c10b0)
        have hji11w : (IntKind.i64.wrap (x5_1 + 1)) = ji11 := (i64_w _).trans hji11
        by_cases c12 : 0 ≤ (ji11)
        ·rw [if_pos c12] at H
         have c12b0 : decide (0 ≤ (ji11)) = true := decide_eq_true c12
         clear c12
         by_cases c14 : x4_1 = true
         ·subst c14
          have H1 : (laws_prHasArray.l0 k1 a0 ((bt a0 (ji11)) != 93) true ji11) = some r := Z52
          clear H
          have H := H1
          clear H1
          ·
           have H' := Aside0.mk H
           clear H
           have p8 : 0 ≤ (x5_1 : Int) := of_decide_eq_true Z6
           have q8 : x5_1 < (a0.size : Int) := of_decide_eq_true Z6
           have hx8 := bt_at a0 x5_1
           replace p8 := eq_true p8
           replace q8 := eq_true q8
           have p13 : 0 ≤ ((ji11) : Int) := of_decide_eq_true Z6
           have q13 : (ji11) < (a0.size : Int) := of_decide_eq_true Z6
           have hx13 := bt_at a0 (ji11)
           replace p13 := eq_true p13
           replace q13 := eq_true q13
           go_wp2
           go_roundg k1
           case measure => have := HK1.out; omega
           case rel => exact ⟨(((bt a0 (ji11)) != 93)), (true), (ji11), Z120, Z8, Z120, H', ⟨by have := HK1.out; omega⟩, Z50⟩
         ·replace c14 := Bool.eq_false_iff.mpr c14
          subst c14
          have H1 : (if (bt a0 (ji11)) = 93 then (laws_prHasArray.l0 k1 a0 ((bt a0 (ji11)) != 93) false ji11) else (laws_prHasArray.l0 k1 a0 ((bt a0 (ji11)) != 93) ((bt a0 x5_1) == 93) ji11)) = some r := Z31
          clear H
          have H := H1
          clear H1
          by_cases c15 : (bt a0 (ji11)) = 93
          ·rw [if_pos c15] at H
           have c15b0 : ((bt a0 (ji11)) == 93) = true := beq_iff_eq.mpr c15
           have c15b1 : ((bt a0 (ji11)) != 93) = false := bne_eq_false_iff_eq.mpr c15
           clear c15
           ·
            have H' := Aside0.mk H
            clear H
            have p8 : 0 ≤ (x5_1 : Int) := of_decide_eq_true Z6
            have q8 : x5_1 < (a0.size : Int) := of_decide_eq_true Z6
            have hx8 := bt_at a0 x5_1
            replace p8 := eq_true p8
            replace q8 := eq_true q8
            have p13 : 0 ≤ ((ji11) : Int) := of_decide_eq_true Z6
            have q13 : (ji11) < (a0.size : Int) := of_decide_eq_true Z6
            have hx13 := bt_at a0 (ji11)
            replace p13 := eq_true p13
            replace q13 := eq_true q13
            go_wp2
            go_roundg k1
            case measure => have := HK1.out; omega
            case rel => exact ⟨(((bt a0 (ji11)) != 93)), (false), (ji11), Z120, Z8, Z120, H', ⟨by have := HK1.out; omega⟩, Z50⟩
          ·rw [if_neg c15] at H
           have c15b0 : ((bt a0 (ji11)) == 93) = false := beq_eq_false_iff_ne.mpr c15
           have c15b1 : ((bt a0 (ji11)) != 93) = true := bne_iff_ne.mpr c15
           ·
            have H' := Aside0.mk H
            clear H
            have p8 : 0 ≤ (x5_1 : Int) := of_decide_eq_true Z6
            have q8 : x5_1 < (a0.size : Int) := of_decide_eq_true Z6
            have hx8 := bt_at a0 x5_1
            replace p8 := eq_true p8
            replace q8 := eq_true q8
            have p13 : 0 ≤ ((ji11) : Int) := of_decide_eq_true Z6
            have q13 : (ji11) < (a0.size : Int) := of_decide_eq_true Z6
            have hx13 := bt_at a0 (ji11)
            replace p13 := eq_true p13
            replace q13 := eq_true q13
            have p16 : 0 ≤ (x5_1 : Int) := of_decide_eq_true Z6
            have q16 : x5_1 < (a0.size : Int) := of_decide_eq_true Z6
            have hx16 := bt_at a0 x5_1
            replace p16 := eq_true p16
            replace q16 := eq_true q16
            go_wp2
            go_roundg k1
            case measure => have := HK1.out; omega
            case rel => exact ⟨(((bt a0 (ji11)) != 93)), (((bt a0 x5_1) == 93)), (ji11), Z120, Z8, Z120, H', ⟨by have := HK1.out; omega⟩, Z50⟩
        ·rw [if_neg c12] at H
         exact absurd H (by simp)
       ·rw [if_neg c10] at H
        have c10b0 : decide ((wrap64 (x5_1 + 1)) < (a0.size : Int)) = false := decide_eq_false c10
        clear c10
        by_cases c17 : x4_1 = true
        ·subst c17
         have H1 : (laws_prHasArray.l0 k1 a0 false true (wrap64 (x5_1 + 1))) = some r := Z52
         clear H
         have H := H1
         clear H1
         ·
          have H' := Aside0.mk H
          clear H
          have p8 : 0 ≤ (x5_1 : Int) := of_decide_eq_true Z6
          have q8 : x5_1 < (a0.size : Int) := of_decide_eq_true Z6
          have hx8 := bt_at a0 x5_1
          replace p8 := eq_true p8
          replace q8 := eq_true q8
          go_wp2
          go_roundg k1
          case measure => have := HK1.out; omega
          case rel => exact ⟨(false), (true), (wrap64 (x5_1 + 1)), Z8, Z8, Z8, H', ⟨by have := HK1.out; omega⟩, Z50⟩
        ·replace c17 := Bool.eq_false_iff.mpr c17
         subst c17
         have H1 : (laws_prHasArray.l0 k1 a0 false false (wrap64 (x5_1 + 1))) = some r := Z31
         clear H
         have H := H1
         clear H1
         ·
          have H' := Aside0.mk H
          clear H
          have p8 : 0 ≤ (x5_1 : Int) := of_decide_eq_true Z6
          have q8 : x5_1 < (a0.size : Int) := of_decide_eq_true Z6
          have hx8 := bt_at a0 x5_1
          replace p8 := eq_true p8
          replace q8 := eq_true q8
          go_wp2
          go_roundg k1
          case measure => have := HK1.out; omega
          case rel => exact ⟨(false), (false), (wrap64 (x5_1 + 1)), Z8, Z8, Z8, H', ⟨by have := HK1.out; omega⟩, Z50⟩
      ·rw [if_neg c9] at H
       have c9b0 : ((bt a0 x5_1) == 91) = false := beq_eq_false_iff_ne.mpr c9
       have c9b1 : ((bt a0 x5_1) != 91) = true := bne_iff_ne.mpr c9
       by_cases c18 : x4_1 = true
       ·subst c18
        have H1 : (laws_prHasArray.l0 k1 a0 false true (wrap64 (x5_1 + 1))) = some r := Z52
        clear H
        have H := H1
        clear H1
        ·
         have H' := Aside0.mk H
         clear H
         have p8 : 0 ≤ (x5_1 : Int) := of_decide_eq_true Z6
         have q8 : x5_1 < (a0.size : Int) := of_decide_eq_true Z6
         have hx8 := bt_at a0 x5_1
         replace p8 := eq_true p8
         replace q8 := eq_true q8
         go_wp2
         go_roundg k1
         case measure => have := HK1.out; omega
         case rel => exact ⟨(false), (true), (wrap64 (x5_1 + 1)), Z8, Z8, Z8, H', ⟨by have := HK1.out; omega⟩, Z50⟩
       ·replace c18 := Bool.eq_false_iff.mpr c18
        subst c18
        have H1 : (laws_prHasArray.l0 k1 a0 false false (wrap64 (x5_1 + 1))) = some r := Z31
        clear H
        have H := H1
        clear H1
        ·
         have H' := Aside0.mk H
         clear H
         have p8 : 0 ≤ (x5_1 : Int) := of_decide_eq_true Z6
         have q8 : x5_1 < (a0.size : Int) := of_decide_eq_true Z6
         have hx8 := bt_at a0 x5_1
         replace p8 := eq_true p8
         replace q8 := eq_true q8
         go_wp2
         go_roundg k1
         case measure => have := HK1.out; omega
         case rel => exact ⟨(false), (false), (wrap64 (x5_1 + 1)), Z8, Z8, Z8, H', ⟨by have := HK1.out; omega⟩, Z50⟩
     ·rw [if_neg c7] at H
      exact absurd H (by simp)
   ·rw [if_neg c2] at H
    have c2b0 : decide (x5_1 < (a0.size : Int)) = false := decide_eq_false c2
    clear c2
    ·
     obtain rfl := Option.some.inj H
     go_wp2
     go_ret
     exact ⟨Z8, Z50⟩
-- NOT PRINTED: function 22 (spec_bareTo)
end Go.Proofs.Ytkbeiidjagodnaa.Pr

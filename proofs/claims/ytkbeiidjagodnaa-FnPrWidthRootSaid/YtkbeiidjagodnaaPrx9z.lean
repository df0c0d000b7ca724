-- written by a program of this session (wip/tools), for this seat
import Derived.Test.YtkbeiidjagodnaaPrx0
namespace Go.Proofs.Ytkbeiidjagodnaa.Pr
open Go.RowKit Go.Proofs.YtkbeiidjagodnaaW.PrintWords Go.Proofs.YtkbeiidjagodnaaW.PrintLast Go.Proofs.YtkbeiidjagodnaaW.PrintMore
set_option linter.unusedVariables false
set_option linter.unusedSimpArgs false
attribute [local go_sem] max2_int min2_int max_two min_two max_three min_three max_four min_four   -- for this text's walks alone
/-! ### laws_zzFits7: function 10 -/
def laws_zzFits7.f (a0_0 : Int) (a0_1 : ByteArray) (a0_2 : ByteArray) (a0_3 : Bool) : Option (Bool) := if (a0_1.size : Int) > 2147483647 then (some false) else (if (a0_2.size : Int) > 2147483647 then (some false) else (some true))
set_option maxHeartbeats 8000000 in
set_option maxRecDepth 100000 in
theorem laws_zzFits7.calls (a0_0 : Int) (a0_1 : ByteArray) (a0_2 : ByteArray) (a0_3 : Bool) (r : Bool) (w : World) (h : laws_zzFits7.f a0_0 a0_1 a0_2 a0_3 = some r) :
  Calls Try.prog 10 #[.agg #[.int .i64 a0_0, .string a0_1, .string a0_2, .bool a0_3]] w fun e w' => e = .returned (.bool r) ∧ Below w.heap.size w w' := by
 have hu31 := Try.underlying31
 have HB := Aside0.mk (Below.refl w.heap.size w)
 have H : (if (a0_1.size : Int) > 2147483647 then (some false) else (if (a0_2.size : Int) > 2147483647 then (some false) else (some true))) = some r := h
 clear h
 by_cases c2 : (a0_1.size : Int) > 2147483647
 ·rw [if_pos c2] at H
  have c2b0 : decide (2147483647 < (a0_1.size : Int)) = true := decide_eq_true c2
  have c2b1 : decide (2147483647 < a0_1.size) = true := decide_eq_true (by omega)
  clear c2
  ·
   obtain rfl := Option.some.inj H
   exact Z40
 ·rw [if_neg c2] at H
  have c2b0 : decide (2147483647 < (a0_1.size : Int)) = false := decide_eq_false c2
  have c2b1 : decide (2147483647 < a0_1.size) = false := decide_eq_false (by omega)
  clear c2
  by_cases c5 : (a0_2.size : Int) > 2147483647
  ·rw [if_pos c5] at H
   have c5b0 : decide (2147483647 < (a0_2.size : Int)) = true := decide_eq_true c5
   have c5b1 : decide (2147483647 < a0_2.size) = true := decide_eq_true (by omega)
   clear c5
   ·
    obtain rfl := Option.some.inj H
    exact Z40
  ·rw [if_neg c5] at H
   have c5b0 : decide (2147483647 < (a0_2.size : Int)) = false := decide_eq_false c5
   have c5b1 : decide (2147483647 < a0_2.size) = false := decide_eq_false (by omega)
   clear c5
   ·
    obtain rfl := Option.some.inj H
    exact Z40
end Go.Proofs.Ytkbeiidjagodnaa.Pr

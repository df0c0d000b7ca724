/- laws.FnPrDefault, walked. -/
import Derived.Test.YtkbeiidjagodnaaHand5
import Derived.Test.YtkbeiidjagodnaaHand2
namespace Go.Proofs.Ytkbeiidjagodnaa.Pr
open Go.RowKit Go.Proofs.YtkbeiidjagodnaaW.PrintWords Go.Proofs.YtkbeiidjagodnaaW.PrintLast Go.Proofs.YtkbeiidjagodnaaW.PrintMore
set_option linter.unusedVariables false
set_option maxHeartbeats 2000000 in
set_option maxRecDepth 100000 in
theorem law5_big (s : ByteArray) (w : World) (hs : 2147483647 < s.size) : Calls Try.prog 5 #[.string s] w fun e w' => e = .returned (.bool true) ∧ Below w.heap.size w w' := by
  have hc : decide ((2147483647 : Int) < (s.size : Int)) = true := decide_eq_true (by omega)
  have hc' : decide (2147483647 < s.size) = true := decide_eq_true (by omega)
  clear hs
  go_enter Try.func5, Try.ntmps5
  go_wp2_with (fail)
  first | go_ret | skip
  exact ⟨rfl, Below.refl _ _⟩
set_option maxHeartbeats 2000000 in
set_option maxRecDepth 100000 in
theorem law5_no (s : ByteArray) (w : World) (hs : s.size ≤ 2147483647) (r1 r2 r3 : Int) (r4 : List S53) (r5 : List S25)
    (hp : ∀ W, Calls Try.prog 6 #[.string s] W (PlacesPost W r1 r2 r3 r4 r5 false)) : Calls Try.prog 5 #[.string s] w fun e w' => e = .returned (.bool true) ∧ Below w.heap.size w w' := by
  have hc : decide ((2147483647 : Int) < (s.size : Int)) = false := decide_eq_false (by omega)
  have hc' : decide (2147483647 < s.size) = false := decide_eq_false (by omega)
  have HP := Aside0.mk hp
  clear hs hp
  go_enter Try.func5, Try.ntmps5
  go_wp2_with (first | (refine (HP.out _).mono ?_; rintro e w1 ⟨v3, v4, rfl, ho3, ho4, hb⟩; have HB1 := Aside0.mk hb; obtain ⟨A3, c3, e3_⟩ := Kd.R_slice ho3; obtain ⟨A4, c4, e4_⟩ := Kd.R_slice ho4; subst e3_ e4_; clear ho3 ho4 hb))
  first | go_ret | skip
  exact ⟨rfl, by repeat (first | exact HB1.out | apply below_alloc | refine below_set ?_ (below_size HB1.out))⟩
set_option maxHeartbeats 2000000 in
set_option maxRecDepth 100000 in
theorem law5_yes (s one : ByteArray) (w : World) (hs : s.size ≤ 2147483647) (r1 r2 r3 : Int) (r4 : List S53) (r5 : List S25) (h0 : 0 < one.size) (h1 : one.size ≤ 140737488355328) (hl : bt one ((one.size : Int) - 1) = 10)
    (hp : ∀ W, Calls Try.prog 6 #[.string s] W (PlacesPost W r1 r2 r3 r4 r5 true))
    (hd : ∀ W, Calls Try.prog 14 #[.string s] W fun e w' => e = .returned (.string one) ∧ Below W.heap.size W w')
    (ho : ∀ W, Calls Try.prog 8 #[.string s, .agg #[.int .i64 80, .string ⟨#[]⟩, .string ⟨#[32, 32]⟩, .bool false]] W fun e w' => e = .returned (.string one) ∧ Below W.heap.size W w') :
    Calls Try.prog 5 #[.string s] w fun e w' => e = .returned (.bool true) ∧ Below w.heap.size w w' := by
  have hc : decide ((2147483647 : Int) < (s.size : Int)) = false := decide_eq_false (by omega)
  have hc' : decide (2147483647 < s.size) = false := decide_eq_false (by omega)
  have hc1 : decide ((0 : Int) < (one.size : Int)) = true := decide_eq_true (by omega)
  have hc2 : decide (0 < one.size) = true := decide_eq_true h0
  have hw1 : wrap64 ((one.size : Int) - 1) = (one.size : Int) - 1 := by unfold wrap64; omega
  have hlt : one.size - 1 < one.size := by omega
  have hix : ∀ h : one.size - 1 < one.size, ((one[one.size - 1]'h).toNat : Int) = 10 := fun h => by have e := bt_at one ((one.size : Int) - 1) (by omega); rw [hl] at e; rw [← e]; congr 3; omega
  have HP := Aside0.mk hp
  have HD := Aside0.mk hd
  have HO := Aside0.mk ho
  clear hs hp hd ho h0
  go_enter Try.func5, Try.ntmps5
  go_wp2_with (first | (refine (HP.out _).mono ?_; rintro e w1 ⟨v3, v4, rfl, ho3, ho4, hb⟩; have HB1 := Aside0.mk hb; obtain ⟨A3, c3, e3_⟩ := Kd.R_slice ho3; obtain ⟨A4, c4, e4_⟩ := Kd.R_slice ho4; subst e3_ e4_; clear ho3 ho4 hb) | (refine (HD.out _).mono ?_; rintro e w2 ⟨rfl, hb⟩; have HB2 := Aside0.mk hb; clear hb) | (refine (HO.out _).mono ?_; rintro e w3 ⟨rfl, hb⟩; have HB3 := Aside0.mk hb; clear hb))
  first | go_ret | skip
  exact ⟨rfl, below_step (below_step (below_alloc HB1.out _) HB2.out) HB3.out⟩
end Go.Proofs.Ytkbeiidjagodnaa.Pr

import Derived.Test.YtmpdhdnoohmndaaGreatDoorZip
import Derived.Test.YtmpdhdnoohmndaaGreatDoorQg
import Derived.Test.YtmpdhdnoohmndaaGreatDoorQa
namespace Go.Proofs.YtmpdhdnoohmndaaGreatDoor.Gj
set_option maxHeartbeats 4000000
set_option maxRecDepth 100000
open Go.RowKit Go.Proofs.YtmpdhdnoohmndaaGreatDoorW.PrintWords Go.Proofs.YtmpdhdnoohmndaaGreatDoorW.PrintLast Go.Proofs.YtmpdhdnoohmndaaGreatDoorW.PrintMore Sp
set_option linter.unusedVariables false
set_option linter.unusedSimpArgs false
theorem at_gt (s : au) (z : Int) (q : Nat) (hz : z = q) (h : z.toNat < s.size) : ((s[z.toNat]'h).toNat : Int) = at_ s q := by
 subst hz; exact bt_at s _ h
theorem wr1 {z : Int} {q : Nat} (hz : z = q) (hq : q ≤ 10000000000) : ∃ y, IntKind.i64.wrap (z + 1) = y ∧ Aside0 (y = ((q + 1 : Nat) : Int)) :=
 ⟨z + 1, (i64_w _).trans (by unfold wrap64; omega), ⟨by omega⟩⟩
section
variable {S : au} (hs : S.size ≤ 10000000000) (w : World)
include hs
theorem pstring_calls {b e : Nat} (h1 : b < e) (h2 : e < S.size) (hm : ∀ q, b < q → q < e → at_ S q ≠ 34 ∧ at_ S q ≠ 92) (he : at_ S e = 34) {x : Int} (hx : x = ((b + 1 : Nat) : Int)) :
  Calls Tryz.prog 30 #[.string S, .int .i64 x] w fun r w' => r = .returned (.tuple #[.int .i64 ((e + 1 : Nat) : Int), .string (S.extract b (e + 1)), .bool false, .bool true]) ∧ Drawn0 w w' := by
 have HS := aa (And.intro hs (And.intro h1 h2))
 have HM := aa (And.intro hm he)
 have HX := aa hx
 obtain ⟨B0, hB0, HB0⟩ : ∃ y, IntKind.i64.wrap (x - 1) = y ∧ Aside0 (y = (b : Int)) := ⟨x - 1, (i64_w _).trans (by unfold wrap64; omega), ⟨by omega⟩⟩
 have g0 : (0 ≤ B0) = True := af (by have := HB0.out; omega)
 obtain ⟨T, hT⟩ : ∃ T, S.extract b (e + 1) = T := ⟨_, rfl⟩
 have HT := aa hT
 rw [hT]
 clear hs h1 h2 hm he hx hT
 go_enter Tryz.func30, Tryz.ntmps30
 go_wp2_with (fail)
 go_loopg [1] e (fun kq v1 wd => ∃ (z : Int) (q : Nat), v1 = .int .i64 z ∧ Aside0 (z = q ∧ b < q ∧ q ≤ e ∧ e - q ≤ kq) ∧ Aside0 (w = wd))
 case atStart => exact ⟨x, b + 1, rfl, ⟨HX.out, by omega, by have := HS.out; omega, by omega⟩, ⟨rfl⟩⟩
 case round =>
  obtain ⟨z, q, rfl, HQ, ⟨rfl⟩⟩ := hrel
  have h60 : (0 ≤ z) = True := af (by have := HQ.out.1; omega)
  have c1 : decide (z < (S.size : Int)) = true := ac Z44
  have h61 : (z < (S.size : Int)) = True := af (ab c1)
  obtain ⟨y, f0, HY⟩ := wr1 HQ.out.1 Z44
  by_cases hqe : q < e
  ·obtain ⟨v, hv⟩ : ∃ v, at_ S q = v := ⟨_, rfl⟩
   have hx : ∀ h : z.toNat < S.size, ((S[z.toNat]'h).toNat : Int) = v := fun h => by rw [← hv]; exact at_gt S z q HQ.out.1 h
   have hr := HM.out.1 q HQ.out.2.1 hqe
   rw [hv] at hr
   have d1 : (v == 34) = false := ag hr.1
   have d2 : (v == 92) = false := ag hr.2
   obtain ⟨b3, d3⟩ : ∃ b3 : Bool, decide (v > 92) = b3 := ⟨_, rfl⟩
   clear hr hv
   cases b3
   all_goals
    go_wp2_with (fail)
    go_roundg (e - (q + 1))
    case measure => have := HQ.out; omega
    case rel => exact ⟨_, q + 1, rfl, ⟨HY.out, by have := HQ.out; omega, by omega, Nat.le_refl _⟩, ⟨rfl⟩⟩
  ·obtain rfl : q = e := by have := HQ.out; omega
   have hx : ∀ h : z.toNat < S.size, ((S[z.toNat]'h).toNat : Int) = 34 := fun h => by rw [← HM.out.2]; exact at_gt S z q HQ.out.1 h
   have g1 : (B0 ≤ y) = True := af (by have := HB0.out; have := HY.out; have := HS.out; omega)
   have g2 : (y ≤ (S.size : Int)) = True := af (by have := HY.out; have := HS.out; omega)
   have hz : S.extract B0.toNat y.toNat = T := by rw [← HT.out]; congr 1; have := HB0.out; omega; have := HY.out; omega
   go_wp2_with (fail)
   repeat (go_quiet (fail); try go_wp2)
   refine bodyPost_ret (results_list (rs := [.tmp 4, .tmp 5, .tmp 6, .tmp 7]) rfl (by simp) (.tmp (.tmp (.tmp (.tmp .nil))))) rfl ?_
   exact ⟨by rw [HY.out]; rfl, Z10⟩
def Lits (c : Int) : Prop := c < 97 ∨ 122 < c
theorem plit_calls {b e : Nat} (h1 : b < e) (h2 : e < S.size) (hm : ∀ q, b < q → q < e → ¬ Lits (at_ S q)) (he : Lits (at_ S e)) {x : Int} (hx : x = (b : Int)) :
  Calls Tryz.prog 44 #[.string S, .int .i64 x] w fun r w' => r = .returned (.tuple #[.int .i64 (e : Int), .string (S.extract b e)]) ∧ Drawn0 w w' := by
 have HS := aa (And.intro hs (And.intro h1 h2))
 have HM := aa (And.intro hm he)
 have HX := aa hx
 obtain ⟨x1, hB0, HB0⟩ := wr1 hx (by omega)
 have g0 : (0 ≤ x) = True := af (by omega)
 obtain ⟨T, hT⟩ : ∃ T, S.extract b e = T := ⟨_, rfl⟩
 have HT := aa hT
 rw [hT]
 clear hs h1 h2 hm he hx hT
 go_enter Tryz.func44, Tryz.ntmps44
 go_wp2_with (fail)
 go_loopg [1] e (fun kq v1 wd => ∃ (z : Int) (q : Nat), v1 = .int .i64 z ∧ Aside0 (z = q ∧ b < q ∧ q ≤ e ∧ e - q ≤ kq) ∧ Aside0 (w = wd))
 case atStart => exact ⟨x1, b + 1, rfl, ⟨HB0.out, by omega, by have := HS.out; omega, by omega⟩, ⟨rfl⟩⟩
 case round =>
  obtain ⟨z, q, rfl, HQ, ⟨rfl⟩⟩ := hrel
  have h60 : (0 ≤ z) = True := af (by have := HQ.out.1; omega)
  have c1 : decide (z < (S.size : Int)) = true := ac Z44
  have h61 : (z < (S.size : Int)) = True := af (ab c1)
  obtain ⟨y, f0, HY⟩ := wr1 HQ.out.1 Z44
  obtain ⟨v, hv⟩ : ∃ v, at_ S q = v := ⟨_, rfl⟩
  have hx : ∀ h : z.toNat < S.size, ((S[z.toNat]'h).toNat : Int) = v := fun h => by rw [← hv]; exact at_gt S z q HQ.out.1 h
  by_cases hqe : q < e
  ·have hr := HM.out.1 q HQ.out.2.1 hqe
   rw [hv] at hr
   unfold Lits at hr
   have d1 : decide (v < 97) = false := ae (by omega)
   have d2 : decide (v > 122) = false := ae (by omega)
   clear hr hv
   go_wp2_with (fail)
   go_roundg (e - (q + 1))
   case measure => have := HQ.out; omega
   case rel => exact ⟨_, q + 1, rfl, ⟨HY.out, by have := HQ.out; omega, by omega, Nat.le_refl _⟩, ⟨rfl⟩⟩
  ·obtain rfl : q = e := by have := HQ.out; omega
   have hr := HM.out.2
   rw [hv] at hr
   have g1 : (x ≤ z) = True := af (by have := HX.out; have := HQ.out; omega)
   have g2 : (z ≤ (S.size : Int)) = True := af Z44
   have hz : S.extract x.toNat z.toNat = T := by rw [← HT.out]; congr 1; have := HX.out; omega; have := HQ.out; omega
   obtain ⟨d, d1⟩ : ∃ d : Bool, decide (v < 97) = d := ⟨_, rfl⟩
   have d2 : d = false → decide (v > 122) = true := fun h => ac (by rw [h] at d1; have := of_decide_eq_false d1; unfold Lits at hr; omega)
   clear hr hv
   cases d
   ·replace d2 := d2 rfl
    go_wp2_with (fail)
    repeat (go_quiet (fail); try go_wp2)
    refine bodyPost_ret (results_list (rs := [.tmp 4, .tmp 5]) rfl (by simp) (.tmp (.tmp .nil))) rfl ?_
    exact ⟨by rw [HQ.out.1]; rfl, Z10⟩
   ·clear d2
    go_wp2_with (fail)
    repeat (go_quiet (fail); try go_wp2)
    refine bodyPost_ret (results_list (rs := [.tmp 4, .tmp 5]) rfl (by simp) (.tmp (.tmp .nil))) rfl ?_
    exact ⟨by rw [HQ.out.1]; rfl, Z10⟩
def Nums (c : Int) : Prop := c ≤ 32 ∨ c = 44 ∨ c = 93 ∨ c = 125
theorem pnumb_calls {b e : Nat} (h1 : b < e) (h2 : e < S.size) (hm : ∀ q, b < q → q < e → ¬ Nums (at_ S q)) (he : Nums (at_ S e)) {x : Int} (hx : x = (b : Int)) :
  Calls Tryz.prog 45 #[.string S, .int .i64 x] w fun r w' => r = .returned (.tuple #[.int .i64 (e : Int), .string (S.extract b e)]) ∧ Drawn0 w w' := by
 have HS := aa (And.intro hs (And.intro h1 h2))
 have HM := aa (And.intro hm he)
 have HX := aa hx
 obtain ⟨x1, hB0, HB0⟩ := wr1 hx (by omega)
 have g0 : (0 ≤ x) = True := af (by omega)
 obtain ⟨T, hT⟩ : ∃ T, S.extract b e = T := ⟨_, rfl⟩
 have HT := aa hT
 rw [hT]
 clear hs h1 h2 hm he hx hT
 go_enter Tryz.func45, Tryz.ntmps45
 go_wp2_with (fail)
 go_loopg [1] e (fun kq v1 wd => ∃ (z : Int) (q : Nat), v1 = .int .i64 z ∧ Aside0 (z = q ∧ b < q ∧ q ≤ e ∧ e - q ≤ kq) ∧ Aside0 (w = wd))
 case atStart => exact ⟨x1, b + 1, rfl, ⟨HB0.out, by omega, by have := HS.out; omega, by omega⟩, ⟨rfl⟩⟩
 case round =>
  obtain ⟨z, q, rfl, HQ, ⟨rfl⟩⟩ := hrel
  have h60 : (0 ≤ z) = True := af (by have := HQ.out.1; omega)
  have c1 : decide (z < (S.size : Int)) = true := ac Z44
  have h61 : (z < (S.size : Int)) = True := af (ab c1)
  obtain ⟨y, f0, HY⟩ := wr1 HQ.out.1 Z44
  obtain ⟨v, hv⟩ : ∃ v, at_ S q = v := ⟨_, rfl⟩
  have hx : ∀ h : z.toNat < S.size, ((S[z.toNat]'h).toNat : Int) = v := fun h => by rw [← hv]; exact at_gt S z q HQ.out.1 h
  by_cases hqe : q < e
  ·have hr := HM.out.1 q HQ.out.2.1 hqe
   rw [hv] at hr
   unfold Nums at hr
   have d1 : decide (v ≤ 32) = false := ae (by omega)
   have d2 : (v == 44) = false := ag (by omega)
   have d3 : (v == 93) = false := ag (by omega)
   have d4 : (v == 125) = false := ag (by omega)
   clear hr hv
   go_wp2_with (fail)
   go_roundg (e - (q + 1))
   case measure => have := HQ.out; omega
   case rel => exact ⟨_, q + 1, rfl, ⟨HY.out, by have := HQ.out; omega, by omega, Nat.le_refl _⟩, ⟨rfl⟩⟩
  ·obtain rfl : q = e := by have := HQ.out; omega
   have hr := HM.out.2
   rw [hv] at hr
   have g1 : (x ≤ z) = True := af (by have := HX.out; have := HQ.out; omega)
   have g2 : (z ≤ (S.size : Int)) = True := af Z44
   have hz : S.extract x.toNat z.toNat = T := by rw [← HT.out]; congr 1; have := HX.out; omega; have := HQ.out; omega
   have wP : ∀ w', Drawn0 w w' → (Ending.returned (.tuple #[.int .i64 z, .string T]) = .returned (.tuple #[.int .i64 (q : Int), .string T]) ∧ Drawn0 w w') := fun w' h => ⟨by rw [HQ.out.1], h⟩
   clear hv
   by_cases k1 : v ≤ 32
   ·have d1 : decide (v ≤ 32) = true := ac k1
    clear hr k1
    go_wp2_with (fail)
    repeat (go_quiet (fail); try go_wp2)
    refine bodyPost_ret (results_list (rs := [.tmp 4, .tmp 5]) rfl (by simp) (.tmp (.tmp .nil))) rfl ?_
    exact wP _ Z10
   ·have d1 : decide (v ≤ 32) = false := ae k1
    rcases hr with hr | rfl | rfl | rfl
    ·exact absurd hr k1
    all_goals
     clear k1
     go_wp2_with (fail)
     repeat (go_quiet (fail); try go_wp2)
     refine bodyPost_ret (results_list (rs := [.tmp 4, .tmp 5]) rfl (by simp) (.tmp (.tmp .nil))) rfl ?_
     exact wP _ Z10
end
end Go.Proofs.YtmpdhdnoohmndaaGreatDoor.Gj

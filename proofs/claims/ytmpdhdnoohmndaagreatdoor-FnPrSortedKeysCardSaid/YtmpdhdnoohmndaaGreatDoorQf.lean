import Derived.Test.YtmpdhdnoohmndaaGreatDoorZip
import Derived.Test.YtmpdhdnoohmndaaGreatDoorDec10
import Derived.Shelf.Strconv.Itoa0
import Derived.Shelf.Strconv.Itoa1
import Derived.Shelf.LaysM
import Derived.Shelf.Strconv.Itoa2
import Derived.Shelf.Strconv.Itoa3
import Derived.Shelf.Strconv.Clone
import Derived.Shelf.Strconv.SyntaxError
import Derived.Shelf.LaysC
import Derived.Shelf.Strconv.ToError
import Derived.Shelf.Strconv.RangeError
import Derived.Shelf.Strconv.ToErrorRange
import Derived.Shelf.Bits.Mul64
import Derived.Test.YtmpdhdnoohmndaaGreatDoorProg
import Derived.Laws.Bits128
import Derived.Laws.FloatArith
import Derived.RowKit
import Derived.WalkLawsBesides
import Derived.Test.YtmpdhdnoohmndaaGreatDoorQg
namespace Go.Proofs.YtmpdhdnoohmndaaGreatDoor.Dec
open Go.RowKit Go.Proofs.YtmpdhdnoohmndaaGreatDoorW.PrintWords Go.Proofs.YtmpdhdnoohmndaaGreatDoorW.PrintLast Go.Proofs.YtmpdhdnoohmndaaGreatDoorW.PrintMore PFnGjItems
attribute [local go_sem] max2_int min2_int max_two min_two max_three min_three max_four min_four
set_option linter.unusedVariables false
set_option linter.unusedSimpArgs false
def NumByte (v : Int) : Prop := v = 43 ∨ v = 45 ∨ v = 46 ∨ (48 ≤ v ∧ v ≤ 57) ∨ v = 69 ∨ v = 101
def NumText (s : au) : Prop := s.size ≤ 100000 ∧ 0 < s.size ∧ ∀ i : Int, 0 ≤ i → i < s.size → NumByte (bt s i)
def Rng (x : Int) : Prop := 0 ≤ x ∧ x < 18446744073709551616
theorem rng_wrap (x : Int) : Rng (IntKind.u64.wrap x) := by
 unfold Rng IntKind.wrap
 simp only [IntKind.bits, IntKind.signed]
 simp
 omega
theorem num_lower {v : Int} (h : NumByte v) : (bits BinOp.or .u8 v 32 == 120) = false := by
 have key : ∀ k : Fin 10, (bits BinOp.or .u8 (48 + (k.val : Int)) 32 == 120) = false := by decide
 rcases h with rfl | rfl | rfl | ⟨h1, h2⟩ | rfl | rfl
 ·decide
 ·decide
 ·decide
 ·have := key ⟨(v - 48).toNat, by omega⟩
  rw [show (48 : Int) + ((v - 48).toNat : Int) = v by omega] at this
  exact this
 ·decide
 ·decide
def ReadPost (s : au) (w : World) (e : Ending) (w' : World) : Prop := ∃ (m x : Int) (ng tr : Bool) (n : Int) (ok : Bool), e = .returned (.tuple #[.int .u64 m, .int .i64 x, .bool ng, .bool tr, .bool false, .int .i64 n, .bool ok]) ∧ (0 ≤ n ∧ n ≤ s.size) ∧ Rng m ∧ w' = w
set_option maxHeartbeats 40000000 in
set_option maxRecDepth 100000 in
theorem read_calls (s : au) (w : World) (hs : NumText s) : Calls Tryz.prog 84 #[.string s] w (ReadPost s w) := by
 have HS := aa hs.1
 have HN := aa hs.2.2
 have HE1 := aa hs.2.1
 have e0 : (s = ByteArray.empty) = False := eq_false (fun h => by have := hs.2.1; rw [h] at this; exact absurd this (by decide))
 have e1 : (0 < s.size) = True := af hs.2.1
 obtain ⟨v, hv⟩ : ∃ v, bt s 0 = v := ⟨_, rfl⟩
 have hx : ∀ h : 0 < s.size, ((s[0]'h).toNat : Int) = v := fun h => by rw [← hv]; exact bt_at s 0 h
 have hcase : v = 43 ∨ v = 45 ∨ ((v == 43) = false ∧ (v == 45) = false) := by
  by_cases h1 : v = 43
  ·exact .inl h1
  by_cases h2 : v = 45
  ·exact .inr (.inl h2)
  exact .inr (.inr ⟨ag h1, ag h2⟩)
 clear hs hv
 go_enter Tryz.func84, Tryz.ntmps84
 go_wp2_with (fail)
 go_step3
 go_upto_block 0 with (fail)
 clear hx e0 e1
 go_cut [4, 7] from 28 to 35 (fun v4 v7 wc => ∃ (x7 : Int) (ng : Bool), v7 = .int .i64 x7 ∧ v4 = .bool ng ∧ Aside0 (0 ≤ x7 ∧ x7 ≤ 1) ∧ Aside0 (wc = w))
 case first =>
  rcases hcase with rfl | rfl | ⟨h43, h45⟩
  all_goals
   go_wp2_with (fail)
   go_meet
   case rel => exact ⟨_, _, rfl, rfl, ⟨by omega⟩, ⟨rfl⟩⟩
 case rest =>
 clear hcase
 obtain ⟨x7, ng, rfl, rfl, HM, ⟨rfl⟩⟩ := hcut
 go_upto_region 12 with (fail)
 go_cut [54] from 36 to 53 (fun v54 wd => v54 = .bool false ∧ Aside0 (wd = wc))
 case first =>
  obtain ⟨z2, f2, hz2⟩ : ∃ z, IntKind.i64.wrap (x7 + 2) = z ∧ z = x7 + 2 := ⟨_, wrp (by have := HM.out; omega) (by have := HM.out; omega), rfl⟩
  obtain ⟨z1, f1, hz1⟩ : ∃ z, IntKind.i64.wrap (x7 + 1) = z ∧ z = x7 + 1 := ⟨_, wrp (by have := HM.out; omega) (by have := HM.out; omega), rfl⟩
  by_cases c1 : z2 < (s.size : Int)
  ·have c1' : decide (z2 < (s.size : Int)) = true := ac c1
   have c7 : x7 < (s.size : Int) := by omega
   have c8 : z1 < (s.size : Int) := by omega
   have p0 : (0 ≤ x7) = True := af (by have := HM.out; omega)
   have p1 : (x7 < (s.size : Int)) = True := af c7
   obtain ⟨v0, hv0⟩ : ∃ v, bt s x7 = v := ⟨_, rfl⟩
   have hxv0 : ∀ h : (x7).toNat < s.size, ((s[(x7).toNat]'h).toNat : Int) = v0 := fun h => by rw [bt_at, hv0]
   have q0 : (0 ≤ z1) = True := af (by have := HM.out; omega)
   have q1 : (z1 < (s.size : Int)) = True := af c8
   obtain ⟨v1, hv1⟩ : ∃ v, bt s z1 = v := ⟨_, rfl⟩
   have hxv1 : ∀ h : (z1).toNat < s.size, ((s[(z1).toNat]'h).toNat : Int) = v1 := fun h => by rw [bt_at, hv1]
   have hb := num_lower (HN.out z1 (of_eq_true q0) c8)
   rw [hv1] at hb
   obtain ⟨l, hl⟩ : ∃ l, bits BinOp.or .u8 v1 32 = l := ⟨_, rfl⟩
   rw [hl] at hb
   clear c1 c7 c8 hz1 hz2 hv0 hv1
   by_cases c2 : v0 = 48
   ·have c2' : (v0 == 48) = true := ah c2
    clear c2
    go_wp2_with (go_at_call 80; refine (lower_calls _ _).mono ?_; rintro e w' ⟨rfl, rfl⟩)
    go_meet
    case rel => exact ⟨rfl, ⟨rfl⟩⟩
   ·have c2' : (v0 == 48) = false := ag c2
    clear c2
    go_wp2_with (go_at_call 80; refine (lower_calls _ _).mono ?_; rintro e w' ⟨rfl, rfl⟩)
    go_meet
    case rel => exact ⟨rfl, ⟨rfl⟩⟩
  ·have c1' : decide (z2 < (s.size : Int)) = false := ae c1
   clear c1 hz1 hz2
   go_wp2_with (go_at_call 80; refine (lower_calls _ _).mono ?_; rintro e w' ⟨rfl, rfl⟩)
   go_meet
   case rel => exact ⟨rfl, ⟨rfl⟩⟩
 case rest =>
 obtain ⟨rfl, ⟨rfl⟩⟩ := hcut
 go_wp2_with (fail)
 go_step3
 go_upto_block 1 with (fail)
 go_cut [2, 5, 7, 9, 13, 14, 15, 16, 17] from 57 to 138 (fun v2 v5 v7 v9 v13 v14 v15 v16 v17 wd => ∃ (x2 : Int) (tr : Bool) (x7 : Int) (sd ss : Bool) (x15 x16 x17 : Int), v2 = .int .u64 x2 ∧ v5 = .bool tr ∧ v7 = .int .i64 x7 ∧ v9 = .bool false ∧ v13 = .bool sd ∧ v14 = .bool ss ∧ v15 = .int .i64 x15 ∧ v16 = .int .i64 x16 ∧ v17 = .int .i64 x17 ∧ Aside0 (0 ≤ x7 ∧ x7 ≤ s.size) ∧ Aside0 (Rng x2) ∧ Aside0 (wd = wc))
 case first =>
  go_wp2_with (fail)
  go_loopg [2, 5, 7, 9, 13, 14, 15, 16, 17] s.size (fun kq v2 v5 v7 v9 v13 v14 v15 v16 v17 wd => ∃ (x2 : Int) (tr : Bool) (x7 : Int) (sd ss : Bool) (x15 x16 x17 : Int), v2 = .int .u64 x2 ∧ v5 = .bool tr ∧ v7 = .int .i64 x7 ∧ v9 = .bool false ∧ v13 = .bool sd ∧ v14 = .bool ss ∧ v15 = .int .i64 x15 ∧ v16 = .int .i64 x16 ∧ v17 = .int .i64 x17 ∧ Aside0 (0 ≤ x7 ∧ x7 ≤ s.size ∧ (s.size : Int) - x7 ≤ kq) ∧ Aside0 (Rng x2) ∧ Aside0 (wd = wc))
  case atStart => exact ⟨_, _, _, _, _, _, _, _, rfl, rfl, rfl, rfl, rfl, rfl, rfl, rfl, rfl, ⟨by have := HM.out; omega, by have := HM.out; have := HE1.out; omega, by have := HM.out; omega⟩, ⟨⟨Int.le_refl _, by decide⟩⟩, ⟨rfl⟩⟩
  case round =>
   clear HM
   obtain ⟨x2, tr, x7, sd, ss, x15, x16, x17, rfl, rfl, rfl, rfl, rfl, rfl, rfl, rfl, rfl, HM, HR, ⟨rfl⟩⟩ := hrel
   obtain ⟨wo, rfl⟩ : ∃ wo : World, wo = wr := ⟨_, rfl⟩
   by_cases c1 : x7 < (s.size : Int)
   rotate_left
   ·have c1' : decide (x7 < (s.size : Int)) = false := ae c1
    clear c1
    go_wp2_with (fail)
    go_meet
    case rel => exact ⟨_, _, _, _, _, _, _, _, rfl, rfl, rfl, rfl, rfl, rfl, rfl, rfl, rfl, ⟨by have := HM.out; omega, by have := HM.out; omega⟩, HR, ⟨rfl⟩⟩
   have c1' : decide (x7 < (s.size : Int)) = true := ac c1
   have p0 : (0 ≤ x7) = True := af (by have := HM.out; omega)
   have p1 : (x7 < (s.size : Int)) = True := af c1
   obtain ⟨v, hv⟩ : ∃ v, bt s x7 = v := ⟨_, rfl⟩
   have hxv : ∀ h : (x7).toNat < s.size, ((s[(x7).toNat]'h).toNat : Int) = v := fun h => by rw [bt_at, hv]
   have hb := HN.out x7 (of_eq_true p0) c1
   rw [hv] at hb
   have HB := aa hb
   have HC := aa c1
   obtain ⟨z, f1, hz⟩ : ∃ z, IntKind.i64.wrap (x7 + 1) = z ∧ Aside0 (z = x7 + 1) := ⟨_, wrp (by have := HM.out; omega) Z58, ⟨rfl⟩⟩
   clear hv hb c1
   by_cases c2 : 48 ≤ v ∧ v ≤ 57
   ·have d0 : (v == 95) = false := ag (by omega)
    have d1 : (v == 46) = false := ag (by omega)
    have d2 : decide (48 ≤ v) = true := ac c2.1
    have d3 : decide (v ≤ 57) = true := ac c2.2
    obtain ⟨a1, g1⟩ : ∃ a, IntKind.i64.wrap (x17 - 1) = a := ⟨_, rfl⟩
    obtain ⟨a2, g2⟩ : ∃ a, IntKind.i64.wrap (x15 + 1) = a := ⟨_, rfl⟩
    obtain ⟨a3, g3⟩ : ∃ a, IntKind.u64.wrap (x2 * 10) = a := ⟨_, rfl⟩
    obtain ⟨a4, g4, ha4⟩ : ∃ a, IntKind.u8.wrap (v - 48) = a ∧ IntKind.u64.wrap a = a := ⟨v - 48, wb (by omega) (by omega), wu (by omega) (by omega)⟩
    obtain ⟨a5, g5⟩ : ∃ a, IntKind.u64.wrap (a3 + a4) = a := ⟨_, rfl⟩
    obtain ⟨a6, g6⟩ : ∃ a, IntKind.i64.wrap (x16 + 1) = a := ⟨_, rfl⟩
    have hways : ((v == 48) = true ∧ (x15 == 0) = true) ∨ (((v == 48) = false ∧ (v != 48) = true ∨ (v == 48) = true ∧ (v != 48) = false ∧ (x15 == 0) = false) ∧ (decide (x16 < 19) = true ∨ decide (x16 < 19) = false)) := by
     have h19 : decide (x16 < 19) = true ∨ decide (x16 < 19) = false := by cases decide (x16 < 19) <;> simp
     by_cases h1 : v = 48
     ·by_cases h2 : x15 = 0
      ·exact .inl ⟨ah h1, ah h2⟩
      ·exact .inr ⟨.inr ⟨ah h1, by rw [h1]; rfl, ag h2⟩, h19⟩
     ·exact .inr ⟨.inl ⟨ag h1, ai h1⟩, h19⟩
    clear c2
    rcases hways with ⟨h1, h2⟩ | ⟨⟨h1, h2⟩ | ⟨h1, h2, h3⟩, h4 | h4⟩
    all_goals
     go_wp2_with (fail)
     go_roundg (gk - 1)
     case measure => have := HM.out; have := HC.out; omega
     case rel => exact ⟨_, _, _, _, _, _, _, _, rfl, rfl, rfl, rfl, rfl, rfl, rfl, rfl, rfl, ⟨Z47, Z48, Z38⟩, (by first | exact HR | exact ⟨by rw [← g5]; exact rng_wrap _⟩), ⟨rfl⟩⟩
   ·by_cases c3 : v = 46
    ·subst c3
     cases sd
     ·go_wp2_with (fail)
      go_roundg (gk - 1)
      case measure => have := HM.out; have := HC.out; omega
      case rel => exact ⟨_, _, _, _, _, _, _, _, rfl, rfl, rfl, rfl, rfl, rfl, rfl, rfl, rfl, ⟨Z47, Z48, Z38⟩, (by first | exact HR | exact ⟨by rw [← g5]; exact rng_wrap _⟩), ⟨rfl⟩⟩
     ·go_wp2_with (fail)
      go_meet
      case rel => exact ⟨_, _, _, _, _, _, _, _, rfl, rfl, rfl, rfl, rfl, rfl, rfl, rfl, rfl, ⟨by have := HM.out; omega, by have := HM.out; omega⟩, HR, ⟨rfl⟩⟩
    ·have d0 : (v == 95) = false := ag (by rcases HB.out with h | h | h | h | h | h <;> omega)
     have d1 : (v == 46) = false := ag c3
     have d2 : decide (48 ≤ v) = false ∨ decide (48 ≤ v) = true ∧ decide (v ≤ 57) = false := by
      by_cases c4 : 48 ≤ v
      ·exact .inr ⟨ac c4, ae (fun h => c2 ⟨c4, h⟩)⟩
      ·exact .inl (ae c4)
     clear c2 c3
     rcases d2 with d2 | ⟨d2, d3⟩
     all_goals
      go_wp2_with (fail)
      go_meet
      case rel => exact ⟨_, _, _, _, _, _, _, _, rfl, rfl, rfl, rfl, rfl, rfl, rfl, rfl, rfl, ⟨by have := HM.out; omega, by have := HM.out; omega⟩, HR, ⟨rfl⟩⟩
 case rest =>
 clear HM
 obtain ⟨x2, tr, x7, sd, ss, x15, x16, x17, rfl, rfl, rfl, rfl, rfl, rfl, rfl, rfl, rfl, HM, HR, ⟨rfl⟩⟩ := hcut
 cases ss
 ·go_wp2_with (fail)
  try simp only [Exit.noGoto_ret]
  refine bodyPost_ret (v := .tuple #[.int .u64 x2, .int .i64 0, .bool ng, .bool tr, .bool false, .int .i64 x7, .bool false]) Z35 rfl ?_
  exact ⟨_, _, _, _, _, _, rfl, HM.out, HR.out, rfl⟩
 go_upto_if 142 with (fail)
 go_cut [17] from 140 to 143 (fun v17 wd => ∃ (x17 : Int), v17 = .int .i64 x17 ∧ Aside0 (wd = wc))
 case first =>
  cases sd
  all_goals
   go_wp2_with (fail)
   go_meet
   case rel => exact ⟨_, rfl, ⟨rfl⟩⟩
 case rest =>
 obtain ⟨y17, rfl, ⟨rfl⟩⟩ := hcut
 obtain ⟨ex, gx⟩ : ∃ a, IntKind.i64.wrap (y17 - x16) = a := ⟨_, rfl⟩
 by_cases c1 : x7 < (s.size : Int)
 rotate_left
 ·have c1' : decide (x7 < (s.size : Int)) = false := ae c1
  clear c1
  have hm : (x2 != 0) = true ∨ (x2 != 0) = false := by cases (x2 != 0) <;> simp
  rcases hm with hm | hm
  ·go_wp2_with (fail)
   try simp only [Exit.noGoto_ret]
   refine bodyPost_ret (v := .tuple #[.int .u64 x2, .int .i64 ex, .bool ng, .bool tr, .bool false, .int .i64 x7, .bool true]) Z35 rfl ?_
   exact ⟨_, _, _, _, _, _, rfl, HM.out, HR.out, rfl⟩
  ·go_wp2_with (fail)
   try simp only [Exit.noGoto_ret]
   refine bodyPost_ret (v := .tuple #[.int .u64 x2, .int .i64 0, .bool ng, .bool tr, .bool false, .int .i64 x7, .bool true]) Z35 rfl ?_
   exact ⟨_, _, _, _, _, _, rfl, HM.out, HR.out, rfl⟩
 have c1' : decide (x7 < (s.size : Int)) = true := ac c1
 have p0 : (0 ≤ x7) = True := af (by have := HM.out; omega)
 have p1 : (x7 < (s.size : Int)) = True := af c1
 obtain ⟨v, hv⟩ : ∃ v, bt s x7 = v := ⟨_, rfl⟩
 have hxv : ∀ h : (x7).toNat < s.size, ((s[(x7).toNat]'h).toNat : Int) = v := fun h => by rw [bt_at, hv]
 obtain ⟨l, hl⟩ : ∃ l, bits BinOp.or .u8 v 32 = l := ⟨_, rfl⟩
 have Cy := aa c1
 clear hv
 by_cases cl : l = 101
 rotate_left
 ·have cl' : (l == 101) = false := ag cl
  clear cl c1
  have hm : (x2 != 0) = true ∨ (x2 != 0) = false := by cases (x2 != 0) <;> simp
  rcases hm with hm | hm
  ·go_wp2_with (go_at_call 80; refine (lower_calls _ _).mono ?_; rintro e w' ⟨rfl, rfl⟩)
   try simp only [Exit.noGoto_ret]
   refine bodyPost_ret (v := .tuple #[.int .u64 x2, .int .i64 ex, .bool ng, .bool tr, .bool false, .int .i64 x7, .bool true]) Z35 rfl ?_
   exact ⟨_, _, _, _, _, _, rfl, HM.out, HR.out, rfl⟩
  ·go_wp2_with (go_at_call 80; refine (lower_calls _ _).mono ?_; rintro e w' ⟨rfl, rfl⟩)
   try simp only [Exit.noGoto_ret]
   refine bodyPost_ret (v := .tuple #[.int .u64 x2, .int .i64 0, .bool ng, .bool tr, .bool false, .int .i64 x7, .bool true]) Z35 rfl ?_
   exact ⟨_, _, _, _, _, _, rfl, HM.out, HR.out, rfl⟩
 subst cl
 obtain ⟨z, f1, hz⟩ : ∃ z, IntKind.i64.wrap (x7 + 1) = z ∧ z = x7 + 1 := ⟨_, wrp (by have := HM.out; omega) Z58, rfl⟩
 by_cases c2 : z < (s.size : Int)
 rotate_left
 ·have c2' : decide (z ≥ (s.size : Int)) = true := ac (by omega)
  have HZ := aa hz
  clear c2 c1 hz
  go_wp2_with (go_at_call 80; refine (lower_calls _ _).mono ?_; rintro e w' ⟨rfl, rfl⟩)
  try simp only [Exit.noGoto_ret]
  refine bodyPost_ret (v := .tuple #[.int .u64 x2, .int .i64 0, .bool ng, .bool tr, .bool false, .int .i64 z, .bool false]) Z35 rfl ?_
  exact ⟨_, _, _, _, _, _, rfl, ⟨by have := HM.out; have := HZ.out; omega, by have := HZ.out; have := Cy.out; omega⟩, HR.out, rfl⟩
 have c2' : decide (z ≥ (s.size : Int)) = false := ae (by omega)
 have q0 : (0 ≤ z) = True := af (by have := HM.out; omega)
 have q1 : (z < (s.size : Int)) = True := af c2
 obtain ⟨u, hu⟩ : ∃ v, bt s z = v := ⟨_, rfl⟩
 have hxu : ∀ h : (z).toNat < s.size, ((s[(z).toNat]'h).toNat : Int) = u := fun h => by rw [bt_at, hu]
 have iV := aa c2
 have HZ := aa hz
 clear c1 c2 hz hu
 go_upto_block 4 with (go_at_call 80; refine (lower_calls _ _).mono ?_; rintro e w' ⟨rfl, rfl⟩)
 go_cut [7, 19] from 171 to 178 (fun v7 v19 wd => ∃ (y x19 : Int), v7 = .int .i64 y ∧ v19 = .int .i64 x19 ∧ Aside0 (0 ≤ y ∧ y ≤ s.size) ∧ Aside0 (wd = wc))
 case first =>
  have hu : u = 43 ∨ u = 45 ∨ ((u == 43) = false ∧ (u == 45) = false) := by
   by_cases h1 : u = 43
   ·exact .inl h1
   by_cases h2 : u = 45
   ·exact .inr (.inl h2)
   exact .inr (.inr ⟨ag h1, ag h2⟩)
  obtain ⟨z1, f2, hz1⟩ : ∃ z1, IntKind.i64.wrap (z + 1) = z1 ∧ Aside0 (z1 = z + 1) := ⟨_, wrp (by have := HM.out; have := HZ.out; omega) (by have := iV.out; have := HS.out; omega), ⟨rfl⟩⟩
  rcases hu with rfl | rfl | ⟨h43, h45⟩
  all_goals
   go_wp2_with (fail)
   go_meet
   case rel => exact ⟨_, _, rfl, rfl, ⟨by have := hz1.out; have := HM.out; have := HZ.out; omega, by have := hz1.out; have := iV.out; omega⟩, ⟨rfl⟩⟩
 case rest =>
 clear HM p0 p1 hxv q0 q1 hxu f1 hl c1' c2' HZ Cy iV
 obtain ⟨y, x19, rfl, rfl, HM, ⟨rfl⟩⟩ := hcut
 by_cases c3 : y < (s.size : Int)
 rotate_left
 ·have c3' : decide (y ≥ (s.size : Int)) = true := ac (by omega)
  clear c3
  go_wp2_with (fail)
  try simp only [Exit.noGoto_ret]
  refine bodyPost_ret (v := .tuple #[.int .u64 x2, .int .i64 0, .bool ng, .bool tr, .bool false, .int .i64 y, .bool false]) Z35 rfl ?_
  exact ⟨_, _, _, _, _, _, rfl, HM.out, HR.out, rfl⟩
 have c3' : decide (y ≥ (s.size : Int)) = false := ae (by omega)
 have p0 : (0 ≤ y) = True := af (by have := HM.out; omega)
 have p1 : (y < (s.size : Int)) = True := af c3
 obtain ⟨v1, hv1⟩ : ∃ v, bt s y = v := ⟨_, rfl⟩
 have hxv1 : ∀ h : (y).toNat < s.size, ((s[(y).toNat]'h).toNat : Int) = v1 := fun h => by rw [bt_at, hv1]
 clear c3 hv1
 by_cases c4 : v1 < 48
 ·have c4' : decide (v1 < 48) = true := ac c4
  clear c4
  go_wp2_with (fail)
  try simp only [Exit.noGoto_ret]
  refine bodyPost_ret (v := .tuple #[.int .u64 x2, .int .i64 0, .bool ng, .bool tr, .bool false, .int .i64 y, .bool false]) Z35 rfl ?_
  exact ⟨_, _, _, _, _, _, rfl, HM.out, HR.out, rfl⟩
 have c4' : decide (v1 < 48) = false := ae c4
 by_cases c5 : v1 > 57
 ·have c5' : decide (v1 > 57) = true := ac c5
  clear c4 c5
  go_wp2_with (fail)
  try simp only [Exit.noGoto_ret]
  refine bodyPost_ret (v := .tuple #[.int .u64 x2, .int .i64 0, .bool ng, .bool tr, .bool false, .int .i64 y, .bool false]) Z35 rfl ?_
  exact ⟨_, _, _, _, _, _, rfl, HM.out, HR.out, rfl⟩
 have c5' : decide (v1 > 57) = false := ae c5
 clear c4 c5
 go_wp2_with (fail)
 clear c3' c4' c5' p0 p1 hxv1
 go_loopg [7, 9, 20] s.size (fun kq v7 v9 v20 wd => ∃ (x7 x20 : Int), v7 = .int .i64 x7 ∧ v9 = .bool false ∧ v20 = .int .i64 x20 ∧ Aside0 (0 ≤ x7 ∧ x7 ≤ s.size ∧ (s.size : Int) - x7 ≤ kq) ∧ Aside0 (wd = wc))
 case atStart => exact ⟨_, _, rfl, rfl, rfl, ⟨by have := HM.out; omega, by have := HM.out; omega, by have := HM.out; omega⟩, ⟨rfl⟩⟩
 case round =>
  clear HM
  obtain ⟨x7, x20, rfl, rfl, rfl, HM, ⟨rfl⟩⟩ := hrel
  obtain ⟨wo, rfl⟩ : ∃ wo : World, wo = wr := ⟨_, rfl⟩
  obtain ⟨m, g5⟩ : ∃ m, IntKind.i64.wrap (x20 * x19) = m := ⟨_, rfl⟩
  obtain ⟨D, g6⟩ : ∃ D, IntKind.i64.wrap (y17 + m) = D := ⟨_, rfl⟩
  obtain ⟨ey, gy⟩ : ∃ a, IntKind.i64.wrap (D - x16) = a := ⟨_, rfl⟩
  have hm : (x2 != 0) = true ∨ (x2 != 0) = false := by cases (x2 != 0) <;> simp
  by_cases c1 : x7 < (s.size : Int)
  rotate_left
  ·have c1' : decide (x7 < (s.size : Int)) = false := ae c1
   clear c1
   rcases hm with hm | hm
   ·go_wp2_with (fail)
    try simp only [Exit.noGoto_ret]
    refine bodyPost_ret (v := .tuple #[.int .u64 x2, .int .i64 ey, .bool ng, .bool tr, .bool false, .int .i64 x7, .bool true]) Z35 rfl ?_
    exact ⟨_, _, _, _, _, _, rfl, ⟨HM.out.1, HM.out.2.1⟩, HR.out, rfl⟩
   ·go_wp2_with (fail)
    try simp only [Exit.noGoto_ret]
    refine bodyPost_ret (v := .tuple #[.int .u64 x2, .int .i64 0, .bool ng, .bool tr, .bool false, .int .i64 x7, .bool true]) Z35 rfl ?_
    exact ⟨_, _, _, _, _, _, rfl, ⟨HM.out.1, HM.out.2.1⟩, HR.out, rfl⟩
  have c1' : decide (x7 < (s.size : Int)) = true := ac c1
  have p0 : (0 ≤ x7) = True := af (by have := HM.out; omega)
  have p1 : (x7 < (s.size : Int)) = True := af c1
  obtain ⟨v, hv⟩ : ∃ v, bt s x7 = v := ⟨_, rfl⟩
  have hxv : ∀ h : (x7).toNat < s.size, ((s[(x7).toNat]'h).toNat : Int) = v := fun h => by rw [bt_at, hv]
  have hb := HN.out x7 (of_eq_true p0) c1
  rw [hv] at hb
  have HC := aa c1
  have d0 : (v == 95) = false := ag (by rcases hb with h | h | h | h | h | h <;> omega)
  obtain ⟨z, f1, hz⟩ : ∃ z, IntKind.i64.wrap (x7 + 1) = z ∧ Aside0 (z = x7 + 1) := ⟨_, wrp (by have := HM.out; omega) Z58, ⟨rfl⟩⟩
  clear hv hb c1
  by_cases c2 : 48 ≤ v ∧ v ≤ 57
  ·have d2 : decide (48 ≤ v) = true := ac c2.1
   have d3 : decide (v ≤ 57) = true := ac c2.2
   obtain ⟨a, g1⟩ : ∃ a, IntKind.i64.wrap (x20 * 10) = a := ⟨_, rfl⟩
   have g2 : IntKind.i64.wrap v = v := wrp (by omega) (by omega)
   obtain ⟨c, g3⟩ : ∃ c, IntKind.i64.wrap (a + v) = c := ⟨_, rfl⟩
   obtain ⟨d, g4⟩ : ∃ d, IntKind.i64.wrap (c - 48) = d := ⟨_, rfl⟩
   have h19 : decide (x20 < 10000) = true ∨ decide (x20 < 10000) = false := by cases decide (x20 < 10000) <;> simp
   clear c2 hm
   rcases h19 with h19 | h19
   all_goals
    go_wp2_with (fail)
    go_roundg (gk - 1)
    case measure => have := HM.out; have := HC.out; omega
    case rel => exact ⟨z, _, rfl, rfl, rfl, ⟨Z47, Z48, Z38⟩, ⟨rfl⟩⟩
  ·have d2 : decide (48 ≤ v) = false ∨ decide (48 ≤ v) = true ∧ decide (v ≤ 57) = false := by
    by_cases c4 : 48 ≤ v
    ·exact .inr ⟨ac c4, ae (fun h => c2 ⟨c4, h⟩)⟩
    ·exact .inl (ae c4)
   clear c2
   rcases hm with hm | hm <;> rcases d2 with d2 | ⟨d2, d3⟩
   iterate 2
    ·go_wp2_with (fail)
     try simp only [Exit.noGoto_ret]
     refine bodyPost_ret (v := .tuple #[.int .u64 x2, .int .i64 ey, .bool ng, .bool tr, .bool false, .int .i64 x7, .bool true]) Z35 rfl ?_
     exact ⟨_, _, _, _, _, _, rfl, ⟨HM.out.1, HM.out.2.1⟩, HR.out, rfl⟩
   iterate 2
    ·go_wp2_with (fail)
     try simp only [Exit.noGoto_ret]
     refine bodyPost_ret (v := .tuple #[.int .u64 x2, .int .i64 0, .bool ng, .bool tr, .bool false, .int .i64 x7, .bool true]) Z35 rfl ?_
     exact ⟨_, _, _, _, _, _, rfl, ⟨HM.out.1, HM.out.2.1⟩, HR.out, rfl⟩
end Go.Proofs.YtmpdhdnoohmndaaGreatDoor.Dec
namespace Go.Proofs
open Go.Shelf
def Tryz.lays129_ren : Go.Shelf.Ren := ⟨fun | 129 => 102 | n => n, fun | 53 => 108 | 3 => 3 | 4 => 4 | 46 => 111 | 5 => 5 | 9 => 9 | n => n, fun | n => n⟩
theorem Tryz.lays129 : Go.Proofs.Lays.n129 Tryz.prog Tryz.lays129_ren := {
 mixed := by kernel_rfl
 f129 := Tryz.func102.trans (congrArg some (by kernel_rfl))
 t3 := Tryz.underlying3
 a3 := Tryz.isAgg3
 z3 := Tryz.sizeOf3
 v3 := Tryz.zeroValue3
 t4 := Tryz.underlying4
 a4 := Tryz.isAgg4
 z4 := Tryz.sizeOf4
 v4 := Tryz.zeroValue4
 t5 := Tryz.underlying5
 a5 := Tryz.isAgg5
 z5 := Tryz.sizeOf5
 v5 := Tryz.zeroValue5
 t9 := Tryz.underlying9
 a9 := Tryz.isAgg9
 z9 := Tryz.sizeOf9
 v9 := Tryz.zeroValue9
 t46 := Tryz.underlying111
 a46 := Tryz.isAgg111
 z46 := Tryz.sizeOf111
 v46 := Tryz.zeroValue111
 t53 := Tryz.underlying108
 a53 := Tryz.isAgg108
 z53 := Tryz.sizeOf108
 v53 := Tryz.zeroValue108 }
theorem Tryz.bits_Len64 (x : Int) (w : World) (h0 : 0 ≤ x) (h1 : x ≤ 18446744073709551615) :
  Calls Tryz.prog 102 #[.int .u64 x] w fun e w' => e = .returned (.int .i64 (Lib.bitLen x.toNat)) ∧ w' = w := Any.bits_Len64 Tryz.lays129 x w h0 h1
def Tryz.laysM316_ren : Go.Shelf.Ren := ⟨fun | 316 => 77 | n => n, fun | 9 => 9 | 3 => 3 | 4 => 4 | 37 => 51 | 0 => 0 | 127 => 165 | 5 => 5 | n => n, fun | n => n⟩
theorem Tryz.laysM316 : Go.Proofs.LaysM.n316 Tryz.prog Tryz.laysM316_ren := {
 mixed := by kernel_rfl
 f316 := Tryz.func77.trans (congrArg some (by kernel_rfl))
 t0 := Tryz.underlying0
 a0 := Tryz.isAgg0
 z0 := Tryz.sizeOf0
 v0 := Tryz.zeroValue0
 t3 := Tryz.underlying3
 a3 := Tryz.isAgg3
 z3 := Tryz.sizeOf3
 v3 := Tryz.zeroValue3
 t4 := Tryz.underlying4
 a4 := Tryz.isAgg4
 z4 := Tryz.sizeOf4
 v4 := Tryz.zeroValue4
 t9 := Tryz.underlying9
 a9 := Tryz.isAgg9
 z9 := Tryz.sizeOf9
 v9 := Tryz.zeroValue9
 t37 := Tryz.underlying51
 a37 := Tryz.isAgg51
 z37 := Tryz.sizeOf51
 v37 := Tryz.zeroValue51
 t127 := Tryz.underlying165
 a127 := Tryz.isAgg165
 z127 := Tryz.sizeOf165
 v127 := Tryz.zeroValue165
 t5 := Tryz.underlying5
 a5 := Tryz.isAgg5
 z5 := Tryz.sizeOf5
 v5 := Tryz.zeroValue5
 i0 := by kernel_rfl
 i3 := by kernel_rfl
 i4 := by kernel_rfl
 i5 := by kernel_rfl
 i9 := by kernel_rfl
 i37 := by kernel_rfl
 i127 := by kernel_rfl }
open Go.RowKit in
theorem Tryz.stringslite_Clone (s : ByteArray) (w : World) (hlim : s.size ≤ 281474976710656) :
  Calls Tryz.prog 77 #[.string s] w fun e w' => e = .returned (.string s) ∧ Below w.heap.size w w' := Any.stringslite_Clone Tryz.laysM316 s w hlim
def Tryz.laysM279_ren : Go.Shelf.Ren := ⟨fun | 279 => 69 | 316 => 77 | n => n, fun | 9 => 9 | 168 => 122 | 75 => 86 | 210 => 134 | 3 => 3 | 4 => 4 | 37 => 51 | 0 => 0 | 127 => 165 | 80 => 216 | 5 => 5 | n => n, fun | 15 => 1 | n => n⟩
theorem Tryz.laysM279 : Go.Proofs.LaysM.n279 Tryz.prog Tryz.laysM279_ren := {
 mixed := by kernel_rfl
 f279 := Tryz.func69.trans (congrArg some (by kernel_rfl))
 f316 := Tryz.func77.trans (congrArg some (by kernel_rfl))
 t0 := Tryz.underlying0
 a0 := Tryz.isAgg0
 z0 := Tryz.sizeOf0
 v0 := Tryz.zeroValue0
 t3 := Tryz.underlying3
 a3 := Tryz.isAgg3
 z3 := Tryz.sizeOf3
 v3 := Tryz.zeroValue3
 t4 := Tryz.underlying4
 a4 := Tryz.isAgg4
 z4 := Tryz.sizeOf4
 v4 := Tryz.zeroValue4
 t9 := Tryz.underlying9
 a9 := Tryz.isAgg9
 z9 := Tryz.sizeOf9
 v9 := Tryz.zeroValue9
 t37 := Tryz.underlying51
 a37 := Tryz.isAgg51
 z37 := Tryz.sizeOf51
 v37 := Tryz.zeroValue51
 t75 := Tryz.underlying86
 a75 := Tryz.isAgg86
 z75 := Tryz.sizeOf86
 v75 := Tryz.zeroValue86
 t127 := Tryz.underlying165
 a127 := Tryz.isAgg165
 z127 := Tryz.sizeOf165
 v127 := Tryz.zeroValue165
 t168 := Tryz.underlying122
 a168 := Tryz.isAgg122
 z168 := Tryz.sizeOf122
 v168 := Tryz.zeroValue122
 t210 := Tryz.underlying134
 a210 := Tryz.isAgg134
 z210 := Tryz.sizeOf134
 v210 := Tryz.zeroValue134
 g15 := by kernel_rfl
 t5 := Tryz.underlying5
 a5 := Tryz.isAgg5
 z5 := Tryz.sizeOf5
 v5 := Tryz.zeroValue5
 t80 := Tryz.underlying216
 a80 := Tryz.isAgg216
 z80 := Tryz.sizeOf216
 v80 := Tryz.zeroValue216
 i0 := by kernel_rfl
 i3 := by kernel_rfl
 i4 := by kernel_rfl
 i5 := by kernel_rfl
 i9 := by kernel_rfl
 i37 := by kernel_rfl
 i75 := by kernel_rfl
 i80 := by kernel_rfl
 i127 := by kernel_rfl
 i168 := by kernel_rfl
 i210 := by kernel_rfl
 m15 := by kernel_rfl }
open Go.RowKit in
theorem Tryz.strconv_syntaxError (fn s : ByteArray) (ev : Value) (w : World) (hlim : s.size ≤ 281474976710656) (hv : w.cell? ⟨1, 0, none⟩ = some ev) (hev : ev = .nilIface ∨ ∃ te pe, ev = .iface te pe) :
  Calls Tryz.prog 69 #[.string fn, .string s] w fun e w' => ∃ N, e = .returned (.pointer (some ⟨N, 0, none⟩)) ∧ w.heap.size ≤ N ∧ w'.heap[N]? = some (.cells #[.string fn, .string s, ev] 134 (0, 0)) ∧ Below w.heap.size w w' := Any.strconv_syntaxError Tryz.laysM279 fn s ev w hlim hv hev
def Tryz.laysC245_ren : Go.Shelf.Ren := ⟨fun | 245 => 60 | 279 => 69 | 280 => 70 | 281 => 71 | 282 => 72 | 316 => 77 | 171 => 79 | 205 => 78 | 243 => 96 | 246 => 113 | 283 => 119 | 284 => 120 | 285 => 121 | 286 => 122 | 129 => 102 | 317 => 126 | 318 => 106 | 319 => 127 | 320 => 128 | 337 => 129 | 338 => 130 | n => n, fun | 9 => 9 | 3 => 3 | 75 => 86 | 167 => 121 | 4 => 4 | 168 => 122 | 210 => 134 | 37 => 51 | 0 => 0 | 127 => 165 | 145 => 168 | 143 => 166 | 2 => 2 | 171 => 201 | 53 => 108 | 5 => 5 | 173 => 203 | 212 => 210 | 51 => 112 | 20 => 20 | 213 => 211 | 46 => 111 | 232 => 214 | 233 => 215 | 80 => 216 | n => n, fun | 15 => 1 | 16 => 2 | 17 => 11 | 18 => 12 | 19 => 13 | n => n⟩
theorem Tryz.laysC245 : Go.Proofs.LaysC.n245 Tryz.prog Tryz.laysC245_ren := {
 mixed := by kernel_rfl
 f129 := Tryz.func102.trans (congrArg some (by kernel_rfl))
 f171 := Tryz.func79.trans (congrArg some (by kernel_rfl))
 f205 := Tryz.func78.trans (congrArg some (by kernel_rfl))
 f243 := Tryz.func96.trans (congrArg some (by kernel_rfl))
 f245 := Tryz.func60.trans (congrArg some (by kernel_rfl))
 f246 := Tryz.func113.trans (congrArg some (by kernel_rfl))
 f279 := Tryz.func69.trans (congrArg some (by kernel_rfl))
 f280 := Tryz.func70.trans (congrArg some (by kernel_rfl))
 f281 := Tryz.func71.trans (congrArg some (by kernel_rfl))
 f282 := Tryz.func72.trans (congrArg some (by kernel_rfl))
 f283 := Tryz.func119.trans (congrArg some (by kernel_rfl))
 f284 := Tryz.func120.trans (congrArg some (by kernel_rfl))
 f285 := Tryz.func121.trans (congrArg some (by kernel_rfl))
 f286 := Tryz.func122.trans (congrArg some (by kernel_rfl))
 f316 := Tryz.func77.trans (congrArg some (by kernel_rfl))
 f317 := Tryz.func126.trans (congrArg some (by kernel_rfl))
 f318 := Tryz.func106.trans (congrArg some (by kernel_rfl))
 f319 := Tryz.func127.trans (congrArg some (by kernel_rfl))
 f320 := Tryz.func128.trans (congrArg some (by kernel_rfl))
 f337 := Tryz.func129.trans (congrArg some (by kernel_rfl))
 f338 := Tryz.func130.trans (congrArg some (by kernel_rfl))
 t0 := Tryz.underlying0
 a0 := Tryz.isAgg0
 z0 := Tryz.sizeOf0
 v0 := Tryz.zeroValue0
 t2 := Tryz.underlying2
 a2 := Tryz.isAgg2
 z2 := Tryz.sizeOf2
 v2 := Tryz.zeroValue2
 t3 := Tryz.underlying3
 a3 := Tryz.isAgg3
 z3 := Tryz.sizeOf3
 v3 := Tryz.zeroValue3
 t4 := Tryz.underlying4
 a4 := Tryz.isAgg4
 z4 := Tryz.sizeOf4
 v4 := Tryz.zeroValue4
 t5 := Tryz.underlying5
 a5 := Tryz.isAgg5
 z5 := Tryz.sizeOf5
 v5 := Tryz.zeroValue5
 t9 := Tryz.underlying9
 a9 := Tryz.isAgg9
 z9 := Tryz.sizeOf9
 v9 := Tryz.zeroValue9
 t20 := Tryz.underlying20
 a20 := Tryz.isAgg20
 z20 := Tryz.sizeOf20
 v20 := Tryz.zeroValue20
 t37 := Tryz.underlying51
 a37 := Tryz.isAgg51
 z37 := Tryz.sizeOf51
 v37 := Tryz.zeroValue51
 t46 := Tryz.underlying111
 a46 := Tryz.isAgg111
 z46 := Tryz.sizeOf111
 v46 := Tryz.zeroValue111
 t51 := Tryz.underlying112
 a51 := Tryz.isAgg112
 z51 := Tryz.sizeOf112
 v51 := Tryz.zeroValue112
 t53 := Tryz.underlying108
 a53 := Tryz.isAgg108
 z53 := Tryz.sizeOf108
 v53 := Tryz.zeroValue108
 t75 := Tryz.underlying86
 a75 := Tryz.isAgg86
 z75 := Tryz.sizeOf86
 v75 := Tryz.zeroValue86
 t127 := Tryz.underlying165
 a127 := Tryz.isAgg165
 z127 := Tryz.sizeOf165
 v127 := Tryz.zeroValue165
 t143 := Tryz.underlying166
 a143 := Tryz.isAgg166
 z143 := Tryz.sizeOf166
 v143 := Tryz.zeroValue166
 t145 := Tryz.underlying168
 a145 := Tryz.isAgg168
 z145 := Tryz.sizeOf168
 v145 := Tryz.zeroValue168
 t167 := Tryz.underlying121
 a167 := Tryz.isAgg121
 z167 := Tryz.sizeOf121
 v167 := Tryz.zeroValue121
 t168 := Tryz.underlying122
 a168 := Tryz.isAgg122
 z168 := Tryz.sizeOf122
 v168 := Tryz.zeroValue122
 t171 := Tryz.underlying201
 a171 := Tryz.isAgg201
 z171 := Tryz.sizeOf201
 v171 := Tryz.zeroValue201
 t173 := Tryz.underlying203
 a173 := Tryz.isAgg203
 z173 := Tryz.sizeOf203
 v173 := Tryz.zeroValue203
 t210 := Tryz.underlying134
 a210 := Tryz.isAgg134
 z210 := Tryz.sizeOf134
 v210 := Tryz.zeroValue134
 t212 := Tryz.underlying210
 a212 := Tryz.isAgg210
 z212 := Tryz.sizeOf210
 v212 := Tryz.zeroValue210
 t213 := Tryz.underlying211
 a213 := Tryz.isAgg211
 z213 := Tryz.sizeOf211
 t232 := Tryz.underlying214
 a232 := Tryz.isAgg214
 z232 := Tryz.sizeOf214
 v232 := Tryz.zeroValue214
 t233 := Tryz.underlying215
 a233 := Tryz.isAgg215
 z233 := Tryz.sizeOf215
 v233 := Tryz.zeroValue215
 g15 := by kernel_rfl
 g16 := by kernel_rfl
 g17 := by kernel_rfl
 g18 := by kernel_rfl
 g19 := by kernel_rfl
 t80 := Tryz.underlying216
 a80 := Tryz.isAgg216
 z80 := Tryz.sizeOf216
 v80 := Tryz.zeroValue216
 i0 := by kernel_rfl
 i2 := by kernel_rfl
 i3 := by kernel_rfl
 i4 := by kernel_rfl
 i5 := by kernel_rfl
 i9 := by kernel_rfl
 i20 := by kernel_rfl
 i37 := by kernel_rfl
 i46 := by kernel_rfl
 i51 := by kernel_rfl
 i53 := by kernel_rfl
 i75 := by kernel_rfl
 i80 := by kernel_rfl
 i127 := by kernel_rfl
 i143 := by kernel_rfl
 i145 := by kernel_rfl
 i167 := by kernel_rfl
 i168 := by kernel_rfl
 i171 := by kernel_rfl
 i173 := by kernel_rfl
 i210 := by kernel_rfl
 i212 := by kernel_rfl
 i232 := by kernel_rfl
 i233 := by kernel_rfl
 m15 := by kernel_rfl
 m16 := by kernel_rfl
 m17 := by kernel_rfl
 m18 := by kernel_rfl
 m19 := by kernel_rfl
 c0 := by kernel_rfl
 c2 := by kernel_rfl
 c3 := by kernel_rfl
 c4 := by kernel_rfl
 c5 := by kernel_rfl
 c9 := by kernel_rfl
 c20 := by kernel_rfl
 c37 := by kernel_rfl
 c46 := by kernel_rfl
 c51 := by kernel_rfl
 c53 := by kernel_rfl
 c75 := by kernel_rfl
 c80 := by kernel_rfl
 c127 := by kernel_rfl
 c143 := by kernel_rfl
 c145 := by kernel_rfl
 c167 := by kernel_rfl
 c168 := by kernel_rfl
 c171 := by kernel_rfl
 c173 := by kernel_rfl
 c210 := by kernel_rfl
 c212 := by kernel_rfl
 c213 := by kernel_rfl
 c232 := by kernel_rfl
 c233 := by kernel_rfl }
open Go.RowKit in
theorem Tryz.strconv_toError_syntax (fn s : ByteArray) (base bits : Int) (ev : Value) (w : World) (hlim : s.size ≤ 281474976710656) (hv : w.cell? ⟨1, 0, none⟩ = some ev) (hev : ev = .nilIface ∨ ∃ te pe, ev = .iface te pe) :
  Calls Tryz.prog 60 #[.string fn, .string s, .int .i64 base, .int .i64 bits, .iface 121 (.int .i64 2)] w fun e w' => ∃ N, e = .returned (.iface 122 (.pointer (some ⟨N, 0, none⟩))) ∧ w.heap.size ≤ N ∧ w'.heap[N]? = some (.cells #[.string fn, .string s, ev] 134 (0, 0)) ∧ Below w.heap.size w w' := Any.strconv_toError_syntax Tryz.laysC245 fn s base bits ev w hlim hv hev
def Tryz.laysM280_ren : Go.Shelf.Ren := ⟨fun | 280 => 70 | 316 => 77 | n => n, fun | 9 => 9 | 168 => 122 | 75 => 86 | 210 => 134 | 3 => 3 | 4 => 4 | 37 => 51 | 0 => 0 | 127 => 165 | 80 => 216 | 5 => 5 | n => n, fun | 16 => 2 | n => n⟩
theorem Tryz.laysM280 : Go.Proofs.LaysM.n280 Tryz.prog Tryz.laysM280_ren := {
 mixed := by kernel_rfl
 f280 := Tryz.func70.trans (congrArg some (by kernel_rfl))
 f316 := Tryz.func77.trans (congrArg some (by kernel_rfl))
 t0 := Tryz.underlying0
 a0 := Tryz.isAgg0
 z0 := Tryz.sizeOf0
 v0 := Tryz.zeroValue0
 t3 := Tryz.underlying3
 a3 := Tryz.isAgg3
 z3 := Tryz.sizeOf3
 v3 := Tryz.zeroValue3
 t4 := Tryz.underlying4
 a4 := Tryz.isAgg4
 z4 := Tryz.sizeOf4
 v4 := Tryz.zeroValue4
 t9 := Tryz.underlying9
 a9 := Tryz.isAgg9
 z9 := Tryz.sizeOf9
 v9 := Tryz.zeroValue9
 t37 := Tryz.underlying51
 a37 := Tryz.isAgg51
 z37 := Tryz.sizeOf51
 v37 := Tryz.zeroValue51
 t75 := Tryz.underlying86
 a75 := Tryz.isAgg86
 z75 := Tryz.sizeOf86
 v75 := Tryz.zeroValue86
 t127 := Tryz.underlying165
 a127 := Tryz.isAgg165
 z127 := Tryz.sizeOf165
 v127 := Tryz.zeroValue165
 t168 := Tryz.underlying122
 a168 := Tryz.isAgg122
 z168 := Tryz.sizeOf122
 v168 := Tryz.zeroValue122
 t210 := Tryz.underlying134
 a210 := Tryz.isAgg134
 z210 := Tryz.sizeOf134
 v210 := Tryz.zeroValue134
 g16 := by kernel_rfl
 t5 := Tryz.underlying5
 a5 := Tryz.isAgg5
 z5 := Tryz.sizeOf5
 v5 := Tryz.zeroValue5
 t80 := Tryz.underlying216
 a80 := Tryz.isAgg216
 z80 := Tryz.sizeOf216
 v80 := Tryz.zeroValue216
 i0 := by kernel_rfl
 i3 := by kernel_rfl
 i4 := by kernel_rfl
 i5 := by kernel_rfl
 i9 := by kernel_rfl
 i37 := by kernel_rfl
 i75 := by kernel_rfl
 i80 := by kernel_rfl
 i127 := by kernel_rfl
 i168 := by kernel_rfl
 i210 := by kernel_rfl
 m16 := by kernel_rfl }
open Go.RowKit in
theorem Tryz.strconv_rangeError (fn s : ByteArray) (ev : Value) (w : World) (hlim : s.size ≤ 281474976710656) (hv : w.cell? ⟨2, 0, none⟩ = some ev) (hev : ev = .nilIface ∨ ∃ te pe, ev = .iface te pe) :
  Calls Tryz.prog 70 #[.string fn, .string s] w fun e w' => ∃ N, e = .returned (.pointer (some ⟨N, 0, none⟩)) ∧ w.heap.size ≤ N ∧ w'.heap[N]? = some (.cells #[.string fn, .string s, ev] 134 (0, 0)) ∧ Below w.heap.size w w' := Any.strconv_rangeError Tryz.laysM280 fn s ev w hlim hv hev
open Go.RowKit in
theorem Tryz.strconv_toError_range (fn s : ByteArray) (base bits : Int) (ev : Value) (w : World) (hlim : s.size ≤ 281474976710656) (hv : w.cell? ⟨2, 0, none⟩ = some ev) (hev : ev = .nilIface ∨ ∃ te pe, ev = .iface te pe) :
  Calls Tryz.prog 60 #[.string fn, .string s, .int .i64 base, .int .i64 bits, .iface 121 (.int .i64 1)] w fun e w' => ∃ N, e = .returned (.iface 122 (.pointer (some ⟨N, 0, none⟩))) ∧ w.heap.size ≤ N ∧ w'.heap[N]? = some (.cells #[.string fn, .string s, ev] 134 (0, 0)) ∧ Below w.heap.size w w' := Any.strconv_toError_range Tryz.laysC245 fn s base bits ev w hlim hv hev
def Tryz.lays264_ren : Go.Shelf.Ren := ⟨fun | 264 => 115 | n => n, fun | 53 => 108 | 46 => 111 | n => n, fun | n => n⟩
theorem Tryz.lays264 : Go.Proofs.Lays.n264 Tryz.prog Tryz.lays264_ren := {
 mixed := by kernel_rfl
 f264 := Tryz.func115.trans (congrArg some (by kernel_rfl))
 t46 := Tryz.underlying111
 a46 := Tryz.isAgg111
 z46 := Tryz.sizeOf111
 v46 := Tryz.zeroValue111
 t53 := Tryz.underlying108
 a53 := Tryz.isAgg108
 z53 := Tryz.sizeOf108
 v53 := Tryz.zeroValue108 }
open Go.RowKit Go.Lib in
theorem Tryz.bits_Mul64 (x y : Nat) (hx : x < 18446744073709551616) (hy : y < 18446744073709551616) (w : World) :
  Calls Tryz.prog 115 #[.int .u64 x, .int .u64 y] w fun e w' => e = .returned (.tuple #[.int .u64 ((x * y / 18446744073709551616 : Nat) : Int), .int .u64 ((x * y % 18446744073709551616 : Nat) : Int)]) ∧ w' = w := Any.bits_Mul64 Tryz.lays264 x y hx hy w
end Go.Proofs
namespace Go.Proofs.YtmpdhdnoohmndaaGreatDoor.Dec
set_option maxHeartbeats 4000000
set_option maxRecDepth 100000
open Go.RowKit Go.Proofs.YtmpdhdnoohmndaaGreatDoorW.PrintWords Go.Proofs.YtmpdhdnoohmndaaGreatDoorW.PrintLast Go.Proofs.YtmpdhdnoohmndaaGreatDoorW.PrintMore PFnGjItems
attribute [local go_sem] max2_int min2_int max_two min_two max_three min_three max_four min_four
set_option linter.unusedVariables false
set_option linter.unusedSimpArgs false
theorem bitLenAux_le : ∀ f x : Nat, Lib.bitLenAux f x ≤ f
 | 0, _ => Nat.le_refl _
 | f + 1, x => by
  unfold Lib.bitLenAux
  split
  ·omega
  ·have := bitLenAux_le f (x / 2); omega
theorem len64_any (x : Int) (w : World) (hx : Rng x) : Calls Tryz.prog 102 #[.int .u64 x] w fun e w' => ∃ n : Int, e = .returned (.int .i64 n) ∧ (0 ≤ n ∧ n ≤ 64) ∧ w = w' :=
 (Tryz.bits_Len64 x w hx.1 (by have := hx.2; omega)).mono fun e w' h => ⟨_, h.1, ⟨by omega, by have := bitLenAux_le 64 x.toNat; unfold Lib.bitLen; omega⟩, h.2.symm⟩
theorem mul64_any (x y : Int) (w : World) (hx : Rng x) (hy : Rng y) : Calls Tryz.prog 115 #[.int .u64 x, .int .u64 y] w fun e w' => ∃ a b : Int, e = .returned (.tuple #[.int .u64 a, .int .u64 b]) ∧ w = w' := by
 obtain ⟨x, rfl⟩ := Int.eq_ofNat_of_zero_le hx.1
 obtain ⟨y, rfl⟩ := Int.eq_ofNat_of_zero_le hy.1
 exact (Tryz.bits_Mul64 x y (by have := hx.2; omega) (by have := hy.2; omega) w).mono fun e w' h => ⟨_, _, h.1, h.2.symm⟩
theorem log2_any (x : Int) (w : World) : Calls Tryz.prog 103 #[.int .i64 x] w fun e w' => ∃ n : Int, e = .returned (.int .i64 n) ∧ w = w' := by
 go_enter Tryz.func103, Tryz.ntmps103
 go_wp2_with (fail)
 go_ret
 exact ⟨_, rfl, rfl⟩
def b2 (b : Bool) : Int := if b = true then 1 else 0
theorem bool2u_any (b : Bool) (w : World) : Calls Tryz.prog 92 #[.bool b] w fun e w' => e = .returned (.int .u64 (b2 b)) ∧ w' = w := by
 cases b
 all_goals
  go_enter Tryz.func92, Tryz.ntmps92
  go_wp2_with (fail)
  go_ret
  exact ⟨rfl, rfl⟩
theorem bool2i_any (b : Bool) (w : World) : Calls Tryz.prog 106 #[.bool b] w fun e w' => ∃ n : Int, e = .returned (.int .i64 n) ∧ (0 ≤ n ∧ n ≤ 1) ∧ w = w' := by
 cases b
 all_goals
  go_enter Tryz.func106, Tryz.ntmps106
  go_wp2_with (fail)
  go_ret
  exact ⟨_, rfl, by omega, rfl⟩
theorem round_any (u : Int) (w : World) : Calls Tryz.prog 109 #[.int .u64 u] w fun e w' => ∃ n : Int, e = .returned (.int .u64 n) ∧ w = w' := by
 go_enter Tryz.func109, Tryz.ntmps109
 go_wp2_with (fail)
 go_ret
 exact ⟨_, rfl, rfl⟩
theorem unmin_any (w : World) : Calls Tryz.prog 107 #[.int .u64 9007199254740992] w fun e w' => ∃ n : Int, e = .returned (.int .u64 n) ∧ w = w' := by
 go_enter Tryz.func107, Tryz.ntmps107
 go_wp2_with (fail)
 go_ret
 exact ⟨_, rfl, rfl⟩
theorem i64_and63 (n : Int) : 0 ≤ bits .and .i64 n 63 ∧ bits .and .i64 n 63 ≤ 63 := by
 have h127 : (BitVec.ofInt 64 63).toNat = 2 ^ 6 - 1 := by decide
 have key : (BitVec.ofInt 64 n &&& BitVec.ofInt 64 63).toNat = (n % ((2 ^ 64 : Nat) : Int)).toNat % 2 ^ 6 := by
  rw [BitVec.toNat_and, BitVec.toNat_ofInt, h127, Nat.and_two_pow_sub_one_eq_mod]
 have e : bits .and .i64 n 63 = n % 64 := by
  show IntKind.i64.wrap ((BitVec.ofInt 64 n &&& BitVec.ofInt 64 63).toNat : Nat) = n % 64
  rw [key, IntKind.wrap_i64]
  omega
 rw [e]
 omega
theorem uscale_any (x : Int) (g : Nat) (hi lo s : Int) (w : World) (hx : Rng x) (hh : Rng hi) (hl : Rng lo) (h0 : w.cell? ⟨g, 0, none⟩ = some (.int .u64 hi)) (h1 : w.cell? ⟨g, 1, none⟩ = some (.int .u64 lo)) (h2 : w.cell? ⟨g, 2, none⟩ = some (.int .i64 s)) :
  Calls Tryz.prog 105 #[.int .u64 x, .pointer (some ⟨g, 0, none⟩)] w fun e w' => ∃ (n : Int) (m : Nat), e = .returned (.int .u64 n) ∧ w' = w.drewN m := by
 obtain ⟨c, hc⟩ : ∃ c, bits BinOp.and .i64 s 63 = c := ⟨_, rfl⟩
 have hcr := i64_and63 s
 rw [hc] at hcr
 have HX := aa hx
 have HH := aa hh
 have HL := aa hl
 clear hx hh hl
 go_enter Tryz.func105, Tryz.ntmps105
 go_wp2_with (fail)
 refine (mul64_any _ _ _ HX.out HH.out).mono ?_
 rintro e w' ⟨a1, b1, rfl, rfl⟩
 obtain ⟨t, ht⟩ : ∃ t : Bool, (IntKind.u64.wrap (a1 / 2 ^ c.toNat * 2 ^ c.toNat) != a1) = t := ⟨_, rfl⟩
 cases t
 rotate_left
 ·go_wp2_with (fail)
  go_ret
  exact ⟨_, 0, rfl, rfl⟩
 go_wp2_with (fail)
 refine (mul64_any _ _ _ HX.out HL.out).mono ?_
 rintro e w' ⟨a2, b3, rfl, rfl⟩
 go_wp2_with (fail)
 refine (bool2u_any _ _).mono ?_
 rintro e w' ⟨rfl, rfl⟩
 go_wp2_with (fail)
 go_quiet ((go_at_call 92; exact Calls.quiet_of_same (bool2u_any _ _)))
 go_wp2_with (fail)
 go_ret
 exact ⟨_, _, rfl, rfl⟩
def Pow10 (w : World) : Prop := ∀ i : Nat, i < 696 → ∃ hi lo : Int, w.cell? ⟨9, i * 2, none⟩ = some (.int .u64 hi) ∧ w.cell? ⟨9, i * 2 + 1, none⟩ = some (.int .u64 lo) ∧ Rng hi ∧ Rng lo
def PrePost (w0 w : World) (g : Nat) (e : Ending) (w' : World) : Prop := e = .returned (.tuple #[]) ∧ ∃ hi lo s : Int, Rng hi ∧ Rng lo ∧ w'.cell? ⟨g, 0, none⟩ = some (.int .u64 hi) ∧ w'.cell? ⟨g, 1, none⟩ = some (.int .u64 lo) ∧ w'.cell? ⟨g, 2, none⟩ = some (.int .i64 s) ∧ On w0 w w' g
theorem three {w : World} {g : Nat} {cs : Array Value} {t : TypeId} (hb : w.heap[g]? = some (.cells cs t (0, 0))) (hs : cs.size = 3) (a b c : Value) :
  (((w.setCell ⟨g, 0, none⟩ a).setCell ⟨g, 1, none⟩ b).setCell ⟨g, 2, none⟩ c).cell? ⟨g, 0, none⟩ = some a ∧ (((w.setCell ⟨g, 0, none⟩ a).setCell ⟨g, 1, none⟩ b).setCell ⟨g, 2, none⟩ c).cell? ⟨g, 1, none⟩ = some b ∧ (((w.setCell ⟨g, 0, none⟩ a).setCell ⟨g, 1, none⟩ b).setCell ⟨g, 2, none⟩ c).cell? ⟨g, 2, none⟩ = some c := by
 have h3 := blk_set (blk_set (blk_set hb 0 a) 1 b) 2 c
 rw [blk_cell h3, blk_cell h3, blk_cell h3]
 match cs, hs with
 | ⟨[x, y, z]⟩, _ => simp
theorem prescale_calls (g : Nat) (e p lp q : Int) (w0 w : World) (hq : IntKind.i64.wrap (p - -348) = q) (hq2 : IntKind.i64.wrap (p + 348) = q) (h0 : 0 ≤ q) (h1 : q < 696) (hP : Pow10 w) (hg9 : g ≠ 9) (cs : Array Value) (t : TypeId) (hb : w.heap[g]? = some (.cells cs t (0, 0))) (hs : cs.size = 3) (hB : On w0 w w g) (hg : w0.heap.size ≤ g) :
  Calls Tryz.prog 104 #[.pointer (some ⟨g, 0, none⟩), .int .i64 e, .int .i64 p, .int .i64 lp] w (PrePost w0 w g) := by
 obtain ⟨hi, lo, c0, c1, r0, r1⟩ := hP q.toNat (by omega)
 have p0 : (0 ≤ q) = True := af h0
 have p1 : (q < 696) = True := af h1
 have g0 : (g = 9) = False := eq_false hg9
 have g1 : (9 = g) = False := eq_false (fun h => hg9 h.symm)
 have f0 := blk_frozen hb 0
 have f1 := blk_frozen hb 1
 have f2 := blk_frozen hb 2
 obtain ⟨x, d0⟩ : ∃ x, w.cell? ⟨g, 0, none⟩ = some x := Z68
 obtain ⟨y, d1⟩ : ∃ x, w.cell? ⟨g, 1, none⟩ = some x := Z68
 obtain ⟨z, d2⟩ : ∃ x, w.cell? ⟨g, 2, none⟩ = some x := Z68
 have HH := aa (And.intro hb (And.intro hs (And.intro hB (And.intro hg (And.intro r0 r1)))))
 clear hb hs hB hg r0 r1 h0 h1 hg9 hP
 go_enter Tryz.func104, Tryz.ntmps104
 go_wp2_with (fail)
 first | go_end0 | ((try simp only [Exit.inBlock, Exit.then]); refine bodyPost_ret (results_none rfl _ _ _) rfl ?_)
 obtain ⟨hb, hs, hB, hg, r0, r1⟩ := HH.out
 have h3 := three hb hs (.int .u64 hi) (.int .u64 lo)
 exact ⟨rfl, hi, lo, _, r0, r1, (h3 _).1, (h3 _).2.1, (h3 _).2.2, ((hB.set hg 0 _).set hg 1 _).set hg 2 _⟩
theorem frombits_run (x : Int) (w : World) : (callFunc 93 #[.int .u64 x]).run Tryz.prog w = .ok (.value (.float .f64 x.toNat)) w := by kernel_rfl
theorem pack64_any (m e : Int) (w : World) : Calls Tryz.prog 112 #[.int .u64 m, .int .i64 e] w fun e w' => ∃ f v, e = .returned (.tuple #[.float .f64 f, v]) ∧ (v = .nilIface ∨ v = .iface 121 (.int .i64 1)) ∧ w = w' := by
 have hfb := fun (x : Int) (w : World) => frombits_run x w
 obtain ⟨t, ht⟩ : ∃ t : Bool, (bits BinOp.and .u64 m 4503599627370496 == 0) = t := ⟨_, rfl⟩
 obtain ⟨t2, ht2⟩ : ∃ t : Bool, decide (e ≥ 972) = t := ⟨_, rfl⟩
 cases t
 ·cases t2
  all_goals
   go_enter Tryz.func112, Tryz.ntmps112
   go_wp2_with (fail)
   go_ret2
   exact ⟨_, _, rfl, (by first | exact .inl rfl | exact .inr rfl), rfl⟩
 ·go_enter Tryz.func112, Tryz.ntmps112
  go_wp2_with (fail)
  go_ret2
  exact ⟨_, _, rfl, (by first | exact .inl rfl | exact .inr rfl), rfl⟩
theorem parse64_any (d p sg : Int) (w : World) (hd : Rng d) (hp : -348 ≤ p ∧ p ≤ 347) (hP : Pow10 w) (h9 : 9 < w.heap.size) :
  Calls Tryz.prog 95 #[.int .u64 d, .int .i64 p, .int .u64 sg] w fun e w' => ∃ f v, e = .returned (.tuple #[.float .f64 f, v]) ∧ (v = .nilIface ∨ v = .iface 121 (.int .i64 1)) ∧ Below w.heap.size w w' := by
 have hfb := fun (x : Int) (w : World) => frombits_run x w
 have HD := aa hd
 have HP := aa hP
 have H9 := aa h9
 have HQ := aa hp
 clear hd hP h9 hp
 go_enter Tryz.func95, Tryz.ntmps95
 go_wp2_with (fail)
 refine (len64_any _ _ HD.out).mono ?_
 rintro e w' ⟨b, rfl, hb, rfl⟩
 have HB := aa hb
 clear hb
 go_wp2_with (fail)
 refine (log2_any _ _).mono ?_
 rintro e w' ⟨lp, rfl, rfl⟩
 obtain ⟨B, g1, hB2⟩ : ∃ B, IntKind.i64.wrap (64 - b) = B ∧ Aside0 (0 ≤ B ∧ B ≤ 64) := ⟨64 - b, wrp (by have := HB.out; omega) (by have := HB.out; omega), ⟨by have := HB.out; omega⟩⟩
 have hB0 : (0 ≤ B) = True := af hB2.out.1
 go_wp2_with (fail)
 all_goals
  have hbel : Below w.heap.size w (w.alloc (Obj.cells #[Value.int IntKind.u64 0, Value.int IntKind.u64 0, Value.int IntKind.i64 0] 178)) := (Below.refl _ _).alloc (Nat.le_refl _) _
  have hP2 : Pow10 (w.alloc (Obj.cells #[Value.int IntKind.u64 0, Value.int IntKind.u64 0, Value.int IntKind.i64 0] 178)) := fun i hi => by
   rw [hbel.cell (p := ⟨9, i * 2, none⟩) H9.out, hbel.cell (p := ⟨9, i * 2 + 1, none⟩) H9.out]
   exact HP.out i hi
  refine (prescale_calls w.heap.size _ p lp (p + 348) w _ (by rw [show p - -348 = p + 348 by omega]; exact wrp (by have := HQ.out; omega) (by have := HQ.out; omega)) (wrp (by have := HQ.out; omega) (by have := HQ.out; omega)) (by have := HQ.out; omega) (by have := HQ.out; omega) hP2 (by have := H9.out; omega) _ _ (blk_new _ _) rfl (On.refl _ hbel) (Nat.le_refl _)).mono ?_
  rintro e w' ⟨rfl, hi, lo, s, r0, r1, c0, c1, c2, hO⟩
  have HR := aa (And.intro r0 r1)
  have HO := aa hO
  clear r0 r1 hO hbel hP2
  by_cases cs : s ≥ 64
  ·have cs' : decide (s ≥ 64) = true := ac cs
   clear cs
   go_wp2_with (fail)
   go_ret2
   exact ⟨_, _, rfl, .inl rfl, HO.out.below⟩
  ·have cs' : decide (s ≥ 64) = false := ae cs
   clear cs
   go_wp2_with (fail)
   refine (uscale_any _ _ hi lo s _ (rng_wrap _) HR.out.1 HR.out.2 c0 c1 c2).mono ?_
   rintro e w' ⟨u, m, rfl, rfl⟩
   clear c0 c1 c2
   go_wp2_with (fail)
   refine (unmin_any _).mono ?_
   rintro e w' ⟨u2, rfl, rfl⟩
   go_wp2_with (fail)
   refine (bool2i_any _ _).mono ?_
   rintro e w' ⟨u3, rfl, hu3, rfl⟩
   have u30 : (0 ≤ u3) = True := af hu3.1
   clear hu3
   go_wp2_with (fail)
   refine (round_any _ _).mono ?_
   rintro e w' ⟨u4, rfl, rfl⟩
   go_wp2_with (fail)
   refine (pack64_any _ _ _).mono ?_
   rintro e w' ⟨f, v, rfl, hv, rfl⟩
   have HV := aa hv
   clear hv
   go_wp2_with (fail)
   go_ret2
   exact ⟨_, _, rfl, HV.out, (HO.out.drewN _).below⟩
end Go.Proofs.YtmpdhdnoohmndaaGreatDoor.Dec
namespace Go.Proofs.YtmpdhdnoohmndaaGreatDoor.Dec
set_option maxHeartbeats 4000000
set_option maxRecDepth 100000
open Go.RowKit Go.Proofs.YtmpdhdnoohmndaaGreatDoorW.PrintWords Go.Proofs.YtmpdhdnoohmndaaGreatDoorW.PrintLast Go.Proofs.YtmpdhdnoohmndaaGreatDoorW.PrintMore PFnGjItems
attribute [local go_sem] max2_int min2_int max_two min_two max_three min_three max_four min_four
set_option linter.unusedVariables false
set_option linter.unusedSimpArgs false
theorem prefix_calls (t : au) (w : World) (ht : t.size ≤ 100000) (hb : t.size = 0 ∨ 0 < t.size ∧ NumByte (bt t 0)) :
  Calls Tryz.prog 99 #[.string t, .string ⟨#[105, 110, 102, 105, 110, 105, 116, 121]⟩] w fun e w' => e = .returned (.int .i64 0) ∧ w' = w := by
 rcases hb with h0 | ⟨h0, hb⟩
 ·have hE : (t = ByteArray.empty) := by
   cases t with | mk d => simp [ByteArray.size] at h0; subst h0; rfl
  subst hE
  clear h0 ht
  go_enter Tryz.func99, Tryz.ntmps99
  go_wp2_with (fail)
  go_loopg [6] 0 (fun kq v6 w' => v6 = .int .i64 0 ∧ Aside0 (w' = w))
  case atStart => exact ⟨rfl, ⟨rfl⟩⟩
  case round =>
   obtain ⟨rfl, ⟨rfl⟩⟩ := hrel
   go_wp2_with (fail)
   go_ret
   exact ⟨rfl, rfl⟩
 ·have e0 : (t = ByteArray.empty) = False := eq_false (fun h => by rw [h] at h0; exact absurd h0 (by decide))
  have e1 : (0 < t.size) = True := af h0
  obtain ⟨v, hv⟩ : ∃ v, bt t 0 = v := ⟨_, rfl⟩
  have hx : ∀ h : 0 < t.size, ((t[0]'h).toNat : Int) = v := fun h => by rw [← hv]; exact bt_at t 0 h
  rw [hv] at hb
  clear hv
  have hways : v = 43 ∨ v = 45 ∨ v = 46 ∨ (decide (65 ≤ v) = false ∧ (v != 105) = true) ∨ v = 69 ∨ v = 101 := by
   rcases hb with h | h | h | h | h | h
   ·exact .inl h
   ·exact .inr (.inl h)
   ·exact .inr (.inr (.inl h))
   ·exact .inr (.inr (.inr (.inl ⟨ae (by omega), ai (by omega)⟩)))
   ·exact .inr (.inr (.inr (.inr (.inl h))))
   ·exact .inr (.inr (.inr (.inr (.inr h))))
  clear hb h0 ht
  go_enter Tryz.func99, Tryz.ntmps99
  go_wp2_with (fail)
  all_goals
   go_loopg [6] 0 (fun kq v6 w' => v6 = .int .i64 0 ∧ Aside0 (w' = w))
   case atStart => exact ⟨rfl, ⟨rfl⟩⟩
   case round =>
    obtain ⟨rfl, ⟨rfl⟩⟩ := hrel
    have hk : (((⟨#[105, 110, 102, 105, 110, 105, 116, 121]⟩ : au)[0]'(by decide)).toNat : Int) = 105 := by decide
    rcases hways with rfl | rfl | rfl | ⟨h1, h2⟩ | rfl | rfl
    all_goals
     go_wp2_with (fail)
     go_ret
     exact ⟨rfl, rfl⟩
theorem special_calls (s : au) (w : World) (hs : NumText s) :
  Calls Tryz.prog 83 #[.string s] w fun e w' => e = .returned (.tuple #[.float .f64 0, .int .i64 0, .bool false]) ∧ w' = w := by
 have h0 := hs.2.1
 have e0 : (s = ByteArray.empty) = False := eq_false (fun h => by rw [h] at h0; exact absurd h0 (by decide))
 have e1 : (0 < s.size) = True := af h0
 have e2 : ((s.size : Int) == 0) = false := ag (by omega)
 have e3 : (s.size == 0) = false := ag (by omega)
 have e4 : (1 ≤ s.size) = True := af h0
 have e5 : (1 ≤ (s.size : Int)) = True := af (by omega)
 obtain ⟨v, hv⟩ : ∃ v, bt s 0 = v := ⟨_, rfl⟩
 have hb := hs.2.2 0 (by omega) (by omega)
 have hx : ∀ h : 0 < s.size, ((s[0]'h).toNat : Int) = v := fun h => by rw [← hv]; exact bt_at s 0 h
 rw [hv] at hb
 have HS := aa hs
 have hways : v = 43 ∨ v = 45 ∨ v = 46 ∨ ((v == 43) = false ∧ (v == 45) = false ∧ (v == 105) = false ∧ (v == 73) = false ∧ (v == 110) = false ∧ (v == 78) = false) ∨ v = 69 ∨ v = 101 := by
  rcases hb with h | h | h | h | h | h
  ·exact .inl h
  ·exact .inr (.inl h)
  ·exact .inr (.inr (.inl h))
  ·refine .inr (.inr (.inr (.inl ⟨?_, ?_, ?_, ?_, ?_, ?_⟩))) <;> exact ag (by omega)
  ·exact .inr (.inr (.inr (.inr (.inl h))))
  ·exact .inr (.inr (.inr (.inr (.inr h))))
 clear hb h0 hv hs
 rcases hways with rfl | rfl | rfl | ⟨h1, h2, h3, h4, h5, h6⟩ | rfl | rfl
 all_goals
  go_enter Tryz.func83, Tryz.ntmps83
  go_wp2_with (fail)
  first | (go_ret3; exact ⟨rfl, rfl⟩) | skip
 all_goals
  refine (prefix_calls (s.extract 1 s.size) _ (by have := HS.out.1; rw [ByteArray.size_extract]; omega) ?_).mono ?_
  ·by_cases c : 1 < s.size
   ·refine .inr ⟨Z46, ?_⟩
    have := HS.out.2.2 1 (by omega) (by omega)
    rwa [show bt (s.extract 1 s.size) 0 = bt s 1 by
     unfold bt
     rw [dif_pos (by rw [ByteArray.size_extract]; simp; omega), dif_pos (by simpa using c)]
     simp [ByteArray.getElem_extract]]
   ·exact .inl Z46
  ·rintro e w' ⟨rfl, rfl⟩
   go_wp2_with (fail)
   go_ret3
   exact ⟨rfl, rfl⟩
end Go.Proofs.YtmpdhdnoohmndaaGreatDoor.Dec
namespace Go.Proofs.YtmpdhdnoohmndaaGreatDoor.Dec
open Go Ieee
theorem infD : (double).infRung = 9218868437227405312 := by decide
theorem sigD : (double).signWeight = 9223372036854775808 := by decide
theorem binD : (double).binade = 4503599627370496 := by decide
def NN (x : Nat) : Prop := x % 9223372036854775808 ≤ 9218868437227405312
def Pos (x : Nat) : Prop := x % 9223372036854775808 < 9218868437227405312 ∧ x % 9223372036854775808 ≠ 0
theorem nn_word (s : Bool) (r : Nat) : NN ((double).word s (min r (double).infRung)) := by
 unfold NN Format.word
 rw [infD, sigD]
 split <;> omega
theorem nn_write {d : Datum} (h : d.isNaN = false) : NN ((double).write d) := by
 cases d with
 | number s m e =>
  unfold Format.write Format.nearest
  dsimp only
  split
  ·have := nn_word s 0; rwa [Nat.zero_min] at this
  ·exact nn_word _ _
 | infinity s =>
  have := nn_word s (double).infRung
  rwa [Nat.min_self] at this
 | nan s t => cases h
theorem read_nn {x : Nat} (h : NN x) : ((double).read x).isNaN = false := by
 unfold NN at h
 unfold Format.read
 rw [infD, sigD, binD]
 dsimp only
 split
 ·rfl
 ·split
  ·rfl
  ·rw [if_pos (by omega)]; rfl
theorem read_pos {x : Nat} (h : Pos x) : ∃ s m e, (double).read x = .number s m e ∧ m ≠ 0 := by
 obtain ⟨h1, h2⟩ := h
 unfold Format.read
 rw [infD, sigD, binD]
 dsimp only
 split
 ·exact ⟨_, _, _, rfl, h2⟩
 ·exact ⟨_, _, _, rfl, by omega⟩
theorem mul_nn {x y : Nat} (hx : NN x) (hy : Pos y) : ∃ r, floatBits .mul .f64 x y = some r ∧ NN r := by
 obtain ⟨s, m, e, hr, hm⟩ := read_pos hy
 have hn := read_nn hx
 show ∃ r, (double).mul x y = some r ∧ NN r
 unfold Format.mul
 rw [hr]
 cases h : (double).read x with
 | number t n j => exact ⟨_, rfl, nn_write rfl⟩
 | infinity t =>
  refine ⟨(double).write (.infinity (t ^^ s)), ?_, nn_write rfl⟩
  show ((if m = 0 then none else some (Datum.infinity (t ^^ s)) : Option Datum)).map _ = _
  rw [if_neg hm]
  rfl
 | nan t f => rw [h] at hn; cases hn
theorem quo_nn {x y : Nat} (hx : NN x) (hy : Pos y) : ∃ r, floatBits .quo .f64 x y = some r ∧ NN r := by
 obtain ⟨s, m, e, hr, hm⟩ := read_pos hy
 have hn := read_nn hx
 show ∃ r, (double).div x y = some r ∧ NN r
 unfold Format.div
 rw [hr]
 cases h : (double).read x with
 | number t n j =>
  unfold Datum.quotient
  dsimp only
  rw [if_neg hm]
  exact ⟨_, rfl, nn_write rfl⟩
 | infinity t => exact ⟨(double).write (.infinity (t ^^ s)), rfl, nn_write rfl⟩
 | nan t f => rw [h] at hn; cases hn
theorem nn_int (n : Int) : NN (floatOfInt .f64 n) := nn_write (d := .number (n < 0) n.natAbs 0) rfl
theorem nn_neg {x : Nat} (h : NN x) : NN (Op.negFloat .f64 x) := by
 unfold NN at *
 show (x ^^^ 2 ^ 63) % 2 ^ 63 ≤ _
 rw [Nat.xor_mod_two_pow, Nat.mod_self, Nat.xor_zero]
 exact h
end Go.Proofs.YtmpdhdnoohmndaaGreatDoor.Dec
namespace Go.Proofs.YtmpdhdnoohmndaaGreatDoor.Dec
open Go.RowKit Go.Proofs.YtmpdhdnoohmndaaGreatDoorW.PrintWords Go.Proofs.YtmpdhdnoohmndaaGreatDoorW.PrintLast Go.Proofs.YtmpdhdnoohmndaaGreatDoorW.PrintMore PFnGjItems
attribute [local go_sem] max2_int min2_int max_two min_two max_three min_three max_four min_four
set_option linter.unusedVariables false
set_option linter.unusedSimpArgs false
structure FPow (w : World) (G : Addr) : Prop where
 hd : w.cell? ⟨8, 0, none⟩ = some (.slice (some G) 23 23)
 at_ : ∀ i, i < 23 → ∃ f : Nat, w.cell? (G.add i) = some (.float .f64 f) ∧ Pos f
theorem neg_run (b : Nat) (w : World) : (Op.unary .neg (.float .f64 b)).run Tryz.prog w = .ok (.float .f64 (Op.negFloat .f64 b)) w := rfl
def ExPost (w : World) (e : Ending) (w' : World) : Prop := ∃ (f : Nat) (ok : Bool), e = .returned (.tuple #[.float .f64 f, .bool ok]) ∧ w' = w
set_option maxHeartbeats 4000000 in
set_option maxRecDepth 100000 in
theorem exact_calls (m x : Int) (ng : Bool) (w : World) (G : Addr) (hF : Flt w 5) (hG : FPow w G) :
  Calls Tryz.prog 94 #[.int .u64 m, .int .i64 x, .bool ng] w (ExPost w) := by
 have h0 := hF.mb
 have hd := hG.hd
 obtain ⟨m1, hm1⟩ : ∃ q : Int, m / 2 ^ 52 = q := ⟨_, rfl⟩
 obtain ⟨m2, hm2⟩ : ∃ q : Int, m / 4503599627370496 = q := ⟨_, rfl⟩
 have hm12 : m1 = m2 := by rw [← hm1, ← hm2]; rfl
 subst hm12
 by_cases c1 : m1 = 0
 rotate_left
 ·have c1' : (m1 != 0) = true := ai c1
  clear c1
  go_enter Tryz.func94, Tryz.ntmps94
  go_wp2_with (fail)
  go_ret2
  exact ⟨_, _, rfl, rfl⟩
 subst c1
 have hneg := fun (b : Nat) (w : World) => neg_run b w
 obtain ⟨f0, hf0, hn0⟩ : ∃ f0, floatOfInt .f64 m = f0 ∧ NN f0 := ⟨_, rfl, nn_int m⟩
 obtain ⟨f1, hf1, hn1⟩ : ∃ f1, Op.negFloat .f64 f0 = f1 ∧ NN f1 := ⟨_, rfl, nn_neg hn0⟩
 have HN : Aside0 (NN f0 ∧ NN f1) := ⟨⟨hn0, hn1⟩⟩
 clear hn0 hn1
 have HX : x = 0 ∨ 22 < x ∧ x ≤ 37 ∨ 0 < x ∧ x ≤ 22 ∨ x < 0 ∧ -22 ≤ x ∨ 37 < x ∨ x < -22 := by omega
 obtain ⟨ff, hff, hway⟩ : ∃ ff, NN ff ∧ (ng = false ∧ ff = f0 ∨ ng = true ∧ ff = f1) := by
  cases ng
  ·exact ⟨f0, HN.out.1, .inl ⟨rfl, rfl⟩⟩
  ·exact ⟨f1, HN.out.2, .inr ⟨rfl, rfl⟩⟩
 rcases HX with rfl | ⟨c2, c3⟩ | ⟨c2, c3⟩ | ⟨c2, c3⟩ | c2 | c2
 ·rcases hway with ⟨rfl, rfl⟩ | ⟨rfl, rfl⟩
  all_goals
   go_enter Tryz.func94, Tryz.ntmps94
   go_wp2_with (fail)
   go_ret2
   exact ⟨_, _, rfl, rfl⟩
 ·have d0 : (x == 0) = false := ag (by omega)
  have d1 : decide (x > 0) = true := ac (by omega)
  have d2 : decide (x ≤ 37) = true := ac c3
  have d3 : decide (x > 22) = true := ac c2
  obtain ⟨y, g1, hy⟩ : ∃ y, IntKind.i64.wrap (x - 22) = y ∧ y = x - 22 := ⟨_, wrp (by omega) (by omega), rfl⟩
  have p0 : (0 ≤ y) = True := af (by omega)
  have p1 : (y < 23) = True := af (by omega)
  obtain ⟨t1, ht1, hp1⟩ := hG.at_ y.toNat (by omega)
  obtain ⟨t2, ht2, hp2⟩ := hG.at_ 22 (by omega)
  have ht3 : w.cell? ⟨G.block, G.off + 22, none⟩ = some (.float .f64 t2) := by simpa [Addr.add] using ht2
  obtain ⟨r1, hr1, hq1⟩ := mul_nn hff hp1
  obtain ⟨r2, hr2, hq2⟩ := mul_nn hq1 hp2
  have hR1 := fun (w : World) => run_float_arith (P := Tryz.prog) w .mul 36 .f64 ff t1 r1 hr1
  have hR2 := fun (w : World) => run_float_arith (P := Tryz.prog) w .mul 36 .f64 r1 t2 r2 hr2
  clear c2 c3 hy hr1 hr2 hff hp1 hp2 hq1 hq2
  rcases hway with ⟨rfl, rfl⟩ | ⟨rfl, rfl⟩
  all_goals
   go_enter Tryz.func94, Tryz.ntmps94
   go_wp2_with (fail)
   all_goals
    go_ret2
    exact ⟨_, _, rfl, rfl⟩
 ·have d0 : (x == 0) = false := ag (by omega)
  have d1 : decide (x > 0) = true := ac (by omega)
  have d2 : decide (x ≤ 37) = true := ac (by omega)
  have d3 : decide (x > 22) = false := ae (by omega)
  have p0 : (0 ≤ x) = True := af (by omega)
  have p1 : (x < 23) = True := af (by omega)
  obtain ⟨t1, ht1, hp1⟩ := hG.at_ x.toNat (by omega)
  obtain ⟨r1, hr1, hq1⟩ := mul_nn hff hp1
  have hR1 := fun (w : World) => run_float_arith (P := Tryz.prog) w .mul 36 .f64 ff t1 r1 hr1
  clear c2 c3 hr1 hff hp1 hq1
  rcases hway with ⟨rfl, rfl⟩ | ⟨rfl, rfl⟩
  all_goals
   go_enter Tryz.func94, Tryz.ntmps94
   go_wp2_with (fail)
   all_goals
    go_ret2
    exact ⟨_, _, rfl, rfl⟩
 ·have d0 : (x == 0) = false := ag (by omega)
  have d1 : decide (x > 0) = false := ae (by omega)
  have d2 : decide (x < 0) = true := ac c2
  have d3 : decide (x ≥ -22) = true := ac c3
  obtain ⟨y, g1, hy⟩ : ∃ y, IntKind.i64.wrap (-x) = y ∧ y = -x := ⟨_, wrp (by omega) (by omega), rfl⟩
  have p0 : (0 ≤ y) = True := af (by omega)
  have p1 : (y < 23) = True := af (by omega)
  obtain ⟨t1, ht1, hp1⟩ := hG.at_ y.toNat (by omega)
  obtain ⟨r1, hr1, hq1⟩ := quo_nn hff hp1
  have hR1 := fun (w : World) => run_float_arith (P := Tryz.prog) w .quo 36 .f64 ff t1 r1 hr1
  clear c2 c3 hy hr1 hff hp1 hq1
  rcases hway with ⟨rfl, rfl⟩ | ⟨rfl, rfl⟩
  all_goals
   go_enter Tryz.func94, Tryz.ntmps94
   go_wp2_with (fail)
   all_goals
    go_ret2
    exact ⟨_, _, rfl, rfl⟩
 ·have d0 : (x == 0) = false := ag (by omega)
  have d1 : decide (x > 0) = true := ac (by omega)
  have d2 : decide (x ≤ 37) = false := ae (by omega)
  have d3 : decide (x < 0) = false := ae (by omega)
  clear c2
  rcases hway with ⟨rfl, rfl⟩ | ⟨rfl, rfl⟩
  all_goals
   go_enter Tryz.func94, Tryz.ntmps94
   go_wp2_with (fail)
   go_ret2
   exact ⟨_, _, rfl, rfl⟩
 ·have d0 : (x == 0) = false := ag (by omega)
  have d1 : decide (x > 0) = false := ae (by omega)
  have d2 : decide (x < 0) = true := ac (by omega)
  have d3 : decide (x ≥ -22) = false := ae (by omega)
  clear c2
  rcases hway with ⟨rfl, rfl⟩ | ⟨rfl, rfl⟩
  all_goals
   go_enter Tryz.func94, Tryz.ntmps94
   go_wp2_with (fail)
   go_ret2
   exact ⟨_, _, rfl, rfl⟩
end Go.Proofs.YtmpdhdnoohmndaaGreatDoor.Dec
namespace Go.Proofs.YtmpdhdnoohmndaaGreatDoor.Dec
open Go.RowKit Go.Proofs.YtmpdhdnoohmndaaGreatDoorW.PrintWords Go.Proofs.YtmpdhdnoohmndaaGreatDoorW.PrintLast Go.Proofs.YtmpdhdnoohmndaaGreatDoorW.PrintMore PFnGjItems
attribute [local go_sem] max2_int min2_int max_two min_two max_three min_three max_four min_four
set_option linter.unusedVariables false
set_option linter.unusedSimpArgs false
structure Std (w : World) (L P0 G : Addr) : Prop where
 tabs : Tabs w 5 P0 L
 fpow : FPow w G
 gl : G.block < w.heap.size
 p10 : Pow10 w
 opt : w.cell? ⟨4, 0, none⟩ = some (.bool true)
theorem Std.l10 {w : World} {L P0 G : Addr} (h : Std w L P0 G) : 10 < w.heap.size := h.tabs.tab.lt10
theorem Std.now {w W : World} {L P0 G : Addr} (h : Std w L P0 G) (hb : Below w.heap.size w W) : Std W L P0 G where
 tabs := ⟨h.tabs.flt.now h.tabs.fl hb, Nat.lt_of_lt_of_le h.tabs.fl hb.size, h.tabs.pow.now h.tabs.l7 h.tabs.pl hb, Nat.lt_of_lt_of_le h.tabs.pl hb.size, Nat.lt_of_lt_of_le h.tabs.l7 hb.size, ⟨h.tabs.tab.now hb, Nat.lt_of_lt_of_le h.tabs.tab.lt hb.size, Nat.lt_of_lt_of_le h.l10 hb.size⟩⟩
 fpow := ⟨by rw [hb.cell (p := ⟨8, 0, none⟩) (show 8 < w.heap.size by have := h.l10; omega)]; exact h.fpow.hd, fun i hi => by rw [hb.cell (p := G.add i) (by rw [add_blk]; exact h.gl)]; exact h.fpow.at_ i hi⟩
 gl := Nat.lt_of_lt_of_le h.gl hb.size
 p10 := fun i hi => by
  have := h.l10
  rw [hb.cell (p := ⟨9, i * 2, none⟩) (show 9 < w.heap.size by omega), hb.cell (p := ⟨9, i * 2 + 1, none⟩) (show 9 < w.heap.size by omega)]
  exact h.p10 i hi
 opt := by rw [hb.cell (p := ⟨4, 0, none⟩) (show 4 < w.heap.size by have := h.l10; omega)]; exact h.opt
theorem zeros143 : Tryz.zeroCells157 = (List.replicate 800 (Value.int .u8 0) ++ [Value.int .i64 0, Value.int .i64 0, Value.bool false, Value.bool false]).toArray := by kernel_rfl
theorem dec_new (w : World) : IsDec w (w.alloc (Obj.cells Tryz.zeroCells157 157)) w.heap.size (fun _ => 0) 0 0 false false := by
 refine ⟨Nat.le_refl _, _, _, blk_new _ _, ?_, ?_, ?_, ?_, ?_, ?_⟩
 all_goals rw [zeros143]
 ·rw [List.size_toArray, List.length_append, List.length_replicate]; rfl
 ·intro i hi
  rw [List.getElem?_toArray, List.getElem?_append_left (by rw [List.length_replicate]; exact hi), List.getElem?_replicate, if_pos hi]
 all_goals
  rw [List.getElem?_toArray, List.getElem?_append_right (by rw [List.length_replicate]; decide), List.length_replicate]
  rfl
def ErrV (v : Value) : Prop := v = .nilIface ∨ v = .iface 121 (.int .i64 1) ∨ v = .iface 121 (.int .i64 2)
def AtofPost (s : au) (w : World) (e : Ending) (w' : World) : Prop := ∃ (f : Nat) (n : Int) (v : Value), e = .returned (.tuple #[.float .f64 f, .int .i64 n, v]) ∧ (0 ≤ n ∧ n ≤ s.size) ∧ ErrV v ∧ Below w.heap.size w w'
set_option maxHeartbeats 40000000 in
set_option maxRecDepth 100000 in
theorem atof_calls (s : au) (w : World) (L P0 G : Addr) (hs : NumText s) (hS : Std w L P0 G) : Calls Tryz.prog 76 #[.string s] w (AtofPost s w) := by
 have hfb := fun (x : Int) (w : World) => frombits_run x w
 have HT := aa hs
 have HS := aa hS
 have hopt := hS.opt
 clear hs hS
 go_enter Tryz.func76, Tryz.ntmps76
 go_wp2_with (fail)
 refine (special_calls s _ HT.out).mono ?_
 rintro e w' ⟨rfl, rfl⟩
 go_wp2_with (fail)
 refine (read_calls s _ HT.out).mono ?_
 rintro e w' ⟨m, x, ng, tr, n, ok, rfl, hn, hr, rfl⟩
 have HN := aa hn
 have HR := aa hr
 clear hn hr
 cases ok
 ·go_wp2_with (fail)
  go_ret3
  exact ⟨_, _, _, rfl, HN.out, .inr (.inr rfl), Below.refl _ _⟩
 go_wp2_with (fail)
 refine (bool2u_any _ _).mono ?_
 rintro e w' ⟨rfl, rfl⟩
 obtain ⟨sg, hsg⟩ : ∃ sg, IntKind.u64.wrap (b2 ng * 2 ^ 63) = sg := ⟨_, rfl⟩
 by_cases c1 : m = 0
 ·subst c1
  go_wp2_with (fail)
  go_ret3
  exact ⟨_, _, _, rfl, HN.out, .inl rfl, Below.refl _ _⟩
 have c1' : (m == 0) = false := ag c1
 clear c1
 by_cases c2 : x > 310
 ·have c2' : decide (x > 310) = true := ac c2
  clear c2
  go_wp2_with (fail)
  go_ret3
  exact ⟨_, _, _, rfl, HN.out, .inr (.inl rfl), Below.refl _ _⟩
 have c2' : decide (x > 310) = false := ae c2
 by_cases c3 : x < -345
 ·have c3' : decide (x < -345) = true := ac c3
  clear c2 c3
  go_wp2_with (fail)
  go_ret3
  exact ⟨_, _, _, rfl, HN.out, .inl rfl, Below.refl _ _⟩
 have c3' : decide (x < -345) = false := ae c3
 have HX : Aside0 (-348 ≤ x ∧ x ≤ 347) := ⟨by omega⟩
 clear c2 c3
 cases tr
 ·go_wp2_with (fail)
  refine (exact_calls m x ng _ G HS.out.tabs.flt HS.out.fpow).mono ?_
  rintro e w' ⟨f, ok, rfl, rfl⟩
  cases ok
  rotate_left
  ·go_wp2_with (fail)
   go_ret3
   exact ⟨_, _, _, rfl, HN.out, .inl rfl, Below.refl _ _⟩
  go_wp2_with (fail)
  refine (parse64_any m x _ _ HR.out HX.out HS.out.p10 (by have := HS.out.l10; omega)).mono ?_
  rintro e w' ⟨f, v, rfl, hv, hB⟩
  have HV := aa hv
  have HB := aa hB
  clear hv hB
  go_wp2_with (fail)
  go_ret3
  exact ⟨_, _, _, rfl, HN.out, (by rcases HV.out with h | h; exact .inl h; exact .inr (.inl h)), HB.out⟩
 go_wp2_with (fail)
 refine (parse64_any m x _ _ HR.out HX.out HS.out.p10 (by have := HS.out.l10; omega)).mono ?_
 rintro e w1 ⟨f, v, rfl, hv, hB⟩
 have HV := aa hv
 have HB := aa hB
 clear hv hB
 go_wp2_with (fail)
 have HS2 := aa (HS.out.now HB.out)
 refine (parse64_any _ x _ _ (rng_wrap _) HX.out HS2.out.p10 (by have := HS2.out.l10; omega)).mono ?_
 rintro e w2 ⟨f1, v1, rfl, -, hB⟩
 have HB2 := aa (HB.out.trans (hB.mono HB.out.size))
 have HS3 := aa (HS2.out.now hB)
 clear hB
 obtain ⟨t, ht⟩ : ∃ t : Bool, (FloatKind.f64.format.order f f1 == some Ordering.eq) = t := ⟨_, rfl⟩
 have p0 : (0 ≤ n) = True := af HN.out.1
 have p1 : (n ≤ (s.size : Int)) = True := af HN.out.2
 cases t
 rotate_left
 ·go_wp2_with (fail)
  go_ret3
  exact ⟨_, _, _, rfl, HN.out, (by rcases HV.out with h | h; exact .inl h; exact .inr (.inl h)), HB2.out⟩
 go_wp2_with (fail)
 have hnew := dec_new w2
 have hbel := (Below.refl w2.heap.size w2).alloc (Nat.le_refl _) (Obj.cells Tryz.zeroCells157 157)
 refine (set_calls w2.heap.size (s.extract 0 n.toNat) w2 _ (by rw [ByteArray.size_extract]; have := HT.out.1; omega) hnew (On.refl _ hbel)).mono ?_
 rintro e w3 ⟨ok, b, nd, dp, ng1, tr1, rfl, hI, hD, hdp, hO⟩
 have HI := aa hI
 have HD := aa hD
 have HDP := aa hdp
 have HO := aa hO
 clear hI hD hdp hO hnew hbel
 cases ok
 ·go_wp2_with (fail)
  go_ret3
  exact ⟨_, _, _, rfl, HN.out, .inr (.inr rfl), HB2.out.trans (HO.out.below.mono HB2.out.size)⟩
 go_wp2_with (fail)
 have hfl : Calls Tryz.prog 91 #[.pointer (some ⟨w2.heap.size, 0, none⟩), .pointer (some ⟨5, 0, none⟩)] w3 (SomeF w2 w3 w2.heap.size) := by
  by_cases c : nd = 0
  ·subst c
   exact float_zero w2.heap.size 5 P0 L b dp ng1 tr1 w2 w3 HI.out HS3.out.tabs (On.refl _ HO.out.below)
  ·exact float_good w2.heap.size 5 P0 L b nd dp ng1 tr1 w2 w3 ⟨HI.out, HD.out.dig, by omega, HD.out.most, HD.out.first (by omega)⟩ HDP.out HS3.out.tabs (On.refl _ HO.out.below)
 refine hfl.mono ?_
 rintro e w4 ⟨bb, ov, rfl, hO4⟩
 have wL := aa (HO.out.trans hO4)
 clear hO4 hfl
 cases ov
 all_goals
  go_wp2_with (fail)
  go_ret3
  exact ⟨_, _, _, rfl, HN.out, (by first | exact .inl rfl | exact .inr (.inl rfl)), HB2.out.trans (wL.out.below.mono HB2.out.size)⟩
end Go.Proofs.YtmpdhdnoohmndaaGreatDoor.Dec
namespace Go.Proofs.YtmpdhdnoohmndaaGreatDoor.Dec
set_option maxHeartbeats 40000000
set_option maxRecDepth 100000
open Go.RowKit Go.Proofs.YtmpdhdnoohmndaaGreatDoorW.PrintWords Go.Proofs.YtmpdhdnoohmndaaGreatDoorW.PrintLast Go.Proofs.YtmpdhdnoohmndaaGreatDoorW.PrintMore PFnGjItems
attribute [local go_sem] max2_int min2_int max_two min_two max_three min_three max_four min_four
set_option linter.unusedVariables false
set_option linter.unusedSimpArgs false
structure Errs (w : World) : Prop where
 big : 2 < w.heap.size
 syn : ∃ ev, w.cell? ⟨1, 0, none⟩ = some ev ∧ (ev = .nilIface ∨ ∃ te pe, ev = .iface te pe)
 rng : ∃ ev, w.cell? ⟨2, 0, none⟩ = some ev ∧ (ev = .nilIface ∨ ∃ te pe, ev = .iface te pe)
theorem Errs.now {w W : World} (h : Errs w) (hb : Below w.heap.size w W) : Errs W where
 big := Nat.lt_of_lt_of_le h.big hb.size
 syn := by rw [hb.cell (p := ⟨1, 0, none⟩) (show 1 < w.heap.size by have := h.big; omega)]; exact h.syn
 rng := by rw [hb.cell (p := ⟨2, 0, none⟩) (show 2 < w.heap.size by have := h.big; omega)]; exact h.rng
theorem prefix64_calls (s : au) (w : World) (L P0 G : Addr) (hs : NumText s) (hS : Std w L P0 G) : Calls Tryz.prog 68 #[.string s, .int .i64 64] w (AtofPost s w) := by
 go_enter Tryz.func68, Tryz.ntmps68
 go_wp2_with (fail)
 refine (atof_calls s _ L P0 G hs hS).mono ?_
 rintro e w' ⟨f, n, v, rfl, hn, hv, hB⟩
 have H := aa (And.intro hn (And.intro hv hB))
 clear hn hv hB
 go_wp2_with (fail)
 go_ret3
 exact ⟨_, _, _, rfl, H.out.1, H.out.2.1, H.out.2.2⟩
def PfPost (w : World) (e : Ending) (w' : World) : Prop := ∃ (f : Nat) (v : Value), e = .returned (.tuple #[.float .f64 f, v]) ∧ ErrV v ∧ Below w.heap.size w w'
theorem parse72_calls (s : au) (w : World) (L P0 G : Addr) (hs : NumText s) (hS : Std w L P0 G) : Calls Tryz.prog 59 #[.string s, .int .i64 64] w (PfPost w) := by
 go_enter Tryz.func59, Tryz.ntmps59
 go_wp2_with (fail)
 refine (prefix64_calls s _ L P0 G hs hS).mono ?_
 rintro e w' ⟨f, n, v, rfl, hn, hv, hB⟩
 have H := aa (And.intro hn (And.intro hv hB))
 clear hn hv hB
 obtain ⟨t, ht⟩ : ∃ t : Bool, (n != (s.size : Int)) = t := ⟨_, rfl⟩
 cases t
 ·go_wp2_with (fail)
  go_ret2
  exact ⟨_, _, rfl, H.out.2.1, H.out.2.2⟩
 ·go_wp2_with (fail)
  go_ret2
  exact ⟨_, _, rfl, .inr (.inr rfl), H.out.2.2⟩
def PFPost (w : World) (e : Ending) (w' : World) : Prop := ∃ (f : Nat) (v : Value), e = .returned (.tuple #[.float .f64 f, v]) ∧ Below w.heap.size w w'
theorem parsefloat_calls (s : au) (w : World) (L P0 G : Addr) (hs : NumText s) (hS : Std w L P0 G) (hE : Errs w) : Calls Tryz.prog 38 #[.string s, .int .i64 64] w (PFPost w) := by
 have HE := aa hE
 have HS := aa hs
 clear hE
 go_enter Tryz.func38, Tryz.ntmps38
 go_wp2_with (fail)
 refine (parse72_calls s _ L P0 G hs hS).mono ?_
 rintro e w' ⟨f, v, rfl, hv, hB⟩
 have HB := aa hB
 have HE2 := aa (HE.out.now hB)
 clear hB hs hS
 rcases hv with rfl | rfl | rfl
 ·go_wp2_with (fail)
  go_ret2
  exact ⟨_, _, rfl, HB.out⟩
 ·go_wp2_with (fail)
  obtain ⟨ev, h1, h2⟩ := HE2.out.rng
  refine (Tryz.strconv_toError_range _ s 0 64 ev _ (by have := HS.out.1; omega) h1 h2).mono ?_
  rintro e w2 ⟨N, rfl, hN, hc, hB⟩
  have HB2 := aa hB
  clear hB h1 hc
  go_wp2_with (fail)
  go_ret2
  exact ⟨_, _, rfl, HB.out.trans (HB2.out.mono HB.out.size)⟩
 ·go_wp2_with (fail)
  obtain ⟨ev, h1, h2⟩ := HE2.out.syn
  refine (Tryz.strconv_toError_syntax _ s 0 64 ev _ (by have := HS.out.1; omega) h1 h2).mono ?_
  rintro e w2 ⟨N, rfl, hN, hc, hB⟩
  have HB2 := aa hB
  clear hB h1 hc
  go_wp2_with (fail)
  go_ret2
  exact ⟨_, _, rfl, HB.out.trans (HB2.out.mono HB.out.size)⟩
end Go.Proofs.YtmpdhdnoohmndaaGreatDoor.Dec
namespace Go.Proofs.YtmpdhdnoohmndaaGreatDoor.Sp
open Go.RowKit Go.Proofs.YtmpdhdnoohmndaaGreatDoorW.PrintWords Dec Gj
set_option linter.unusedVariables false
structure Wok (w : World) : Prop where
 big : 0 < w.heap.size
 std : ∃ L P0 G, Std w L P0 G
 errs : Errs w
 vtab : VTab w
theorem Wok.below {w w1 : World} (h : Wok w) (hb : Below w.heap.size w w1) : Wok w1 where
 big := Nat.lt_of_lt_of_le h.big hb.size
 std := by
  obtain ⟨L, P0, G, hS⟩ := h.std
  exact ⟨L, P0, G, hS.now hb⟩
 errs := h.errs.now hb
 vtab := fun v h0 h1 => by
  rw [hb.cell (p := ⟨0, v.toNat, none⟩) h.big]
  exact h.vtab v h0 h1
end Go.Proofs.YtmpdhdnoohmndaaGreatDoor.Sp

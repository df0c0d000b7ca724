import Derived.Test.YtmpdhdnoohmndaaGreatDoorZip
import Derived.Test.YtmpdhdnoohmndaaGreatDoorDec9
import Derived.StillTailTactics
import Derived.Deep.CutBlock
import Derived.Deep.CutRange
namespace Go.Proofs.YtmpdhdnoohmndaaGreatDoor.Dec
open Go.RowKit Go.Proofs.YtmpdhdnoohmndaaGreatDoorW.PrintWords Go.Proofs.YtmpdhdnoohmndaaGreatDoorW.PrintLast Go.Proofs.YtmpdhdnoohmndaaGreatDoorW.PrintMore PFnGjItems
attribute [local go_sem] max2_int min2_int max_two min_two max_three min_three max_four min_four
set_option linter.unusedVariables false
set_option linter.unusedSimpArgs false
theorem lower_calls (v : Int) (w : World) : Calls Tryz.prog 80 #[.int .u8 v] w fun e w' => e = .returned (.int .u8 (bits .or .u8 v 32)) ∧ w = w' := by
 go_enter Tryz.func80, Tryz.ntmps80
 go_wp2_with (fail)
 go_ret
 exact ⟨rfl, rfl⟩
structure DecOK (b : Nat → Int) (n : Nat) : Prop where
 dig : Digits b n
 most : n ≤ 800
 first : 1 ≤ n → 49 ≤ b 0
def SetPost (w0 w : World) (g : Nat) (e : Ending) (w' : World) : Prop := ∃ (t : Bool) (b : Nat → Int) (n : Nat) (dp : Int) (ng tr : Bool), e = .returned (.bool t) ∧ IsDec w0 w' g b n dp ng tr ∧ DecOK b n ∧ (-1000000 ≤ dp ∧ dp ≤ 1000000) ∧ On w0 w w' g
set_option maxHeartbeats 40000000 in
set_option maxRecDepth 100000 in
theorem set_calls (g : Nat) (s : au) (w0 w : World) (hs : s.size ≤ 100000) (hI : IsDec w0 w g (fun _ => 0) 0 0 false false) (hB : On w0 w w g) :
  Calls Tryz.prog 90 #[.pointer (some ⟨g, 0, none⟩), .string s] w (SetPost w0 w g) := by
 have HI := aa hI
 have HB := aa hB
 have HS := aa hs
 have hcg := hI.ng_
 have hct := hI.tr_
 have hfg := hI.fz 802
 have hft := hI.fz 803
 by_cases c0 : s.size = 0
 ·have hE : (s = ByteArray.empty) := by
   cases s with | mk d => simp [ByteArray.size] at c0; subst c0; rfl
  subst hE
  clear hI hB hs c0
  go_enter Tryz.func90, Tryz.ntmps90
  go_wp2_with (fail)
  go_ret
  exact ⟨_, _, 0, 0, _, _, rfl, (HI.out.set_ng _).set_tr _, ⟨fun i h => absurd h (by omega), by omega, fun h => absurd h (by omega)⟩, by omega, (HB.out.set HI.out.ge _ _).set HI.out.ge _ _⟩
 have e0 : (s = ByteArray.empty) = False := eq_false (fun h => c0 (by rw [h]; rfl))
 have e1 : (0 < s.size) = True := af (by omega)
 obtain ⟨v, hv⟩ : ∃ v, bt s 0 = v := ⟨_, rfl⟩
 have hx : ∀ h : 0 < s.size, ((s[0]'h).toNat : Int) = v := fun h => by rw [← hv]; exact bt_at s 0 h
 have hcase : v = 43 ∨ v = 45 ∨ ((v == 43) = false ∧ (v == 45) = false) := by
  by_cases h1 : v = 43
  ·exact .inl h1
  by_cases h2 : v = 45
  ·exact .inr (.inl h2)
  exact .inr (.inr ⟨ag h1, ag h2⟩)
 clear hI hB hs c0 hv
 have HE1 := aa (of_eq_true e1)
 go_enter Tryz.func90, Tryz.ntmps90
 go_upto_block 0 with (fail)
 clear hx e0 e1 hct hft
 go_cut [5] from 23 to 33 (fun v5 wc => ∃ (x5 : Int) (ng : Bool), v5 = .int .i64 x5 ∧ Aside0 (0 ≤ x5 ∧ x5 ≤ s.size) ∧ Aside0 (IsDec w0 wc g (fun _ => 0) 0 0 ng false) ∧ Aside0 (On w0 w wc g))
 case first =>
  rcases hcase with rfl | rfl | ⟨h43, h45⟩
  ·go_wp2_with (fail)
   go_meet
   case rel => exact ⟨_, _, rfl, ⟨by omega, by have := HE1.out; omega⟩, ⟨(HI.out.set_ng false).set_tr false⟩, ⟨(HB.out.set HI.out.ge 802 (.bool false)).set HI.out.ge 803 (.bool false)⟩⟩
  ·go_wp2_with (fail)
   go_meet
   case rel => exact ⟨_, _, rfl, ⟨by omega, by have := HE1.out; omega⟩, ⟨((HI.out.set_ng false).set_tr false).set_ng true⟩, ⟨((HB.out.set HI.out.ge 802 (.bool false)).set HI.out.ge 803 (.bool false)).set HI.out.ge 802 _⟩⟩
  ·go_wp2_with (fail)
   go_meet
   case rel => exact ⟨_, _, rfl, ⟨by omega, by have := HE1.out; omega⟩, ⟨(HI.out.set_ng false).set_tr false⟩, ⟨(HB.out.set HI.out.ge 802 (.bool false)).set HI.out.ge 803 (.bool false)⟩⟩
 case rest =>
 clear HI HB hcase hfg hcg
 obtain ⟨x0, ng0, rfl, HM0, HI, HB⟩ := hcut
 go_upto_block 1 with (fail)
 go_cut [5, 6, 7] from 34 to 116 (fun v5 v6 v7 wc => ∃ (x5 : Int) (sd ss : Bool) (b : Nat → Int) (n : Nat) (dp : Int) (ng tr : Bool), v5 = .int .i64 x5 ∧ v6 = .bool sd ∧ v7 = .bool ss ∧ Aside0 (0 ≤ x5 ∧ x5 ≤ s.size) ∧ Aside0 (IsDec w0 wc g b n dp ng tr) ∧ Aside0 (DecOK b n) ∧ Aside0 (-x5 ≤ dp ∧ dp ≤ 800) ∧ Aside0 (On w0 w wc g))
 case first =>
  go_wp2_with (fail)
  go_loopg [5, 6, 7] s.size (fun kq v5 v6 v7 w' => ∃ (x5 : Int) (sd ss : Bool) (b : Nat → Int) (n : Nat) (dp : Int) (ng tr : Bool), v5 = .int .i64 x5 ∧ v6 = .bool sd ∧ v7 = .bool ss ∧ Aside0 (0 ≤ x5 ∧ x5 ≤ s.size ∧ (s.size : Int) - x5 ≤ kq) ∧ Aside0 (IsDec w0 w' g b n dp ng tr) ∧ Aside0 (DecOK b n) ∧ Aside0 (-x5 ≤ dp ∧ dp ≤ 800) ∧ Aside0 (On w0 w w' g))
  case atStart => exact ⟨_, _, _, _, 0, _, _, _, rfl, rfl, rfl, ⟨by have := HM0.out; omega, by have := HM0.out; omega, by have := HM0.out; omega⟩, HI, ⟨fun i h => absurd h (by omega), by omega, fun h => absurd h (by omega)⟩, ⟨by have := HM0.out; omega⟩, HB⟩
  case round =>
   clear HI HB
   obtain ⟨x5, sd, ss, b, n, dp, ng, tr, rfl, rfl, rfl, HM, HI, HD, HP, HB⟩ := hrel
   obtain ⟨N, hN, HN⟩ : ∃ N : Int, N = (n : Int) ∧ Aside0 (N = (n : Int)) := ⟨_, rfl, ⟨rfl⟩⟩
   have hcn := HI.out.nd_
   rw [← hN] at hcn
   have hcd := HI.out.dp_
   have hf0 := HI.out.fz 800
   have hf1 := HI.out.fz 801
   have hf3 := HI.out.fz 803
   have hct := HI.out.tr_
   clear hN
   have HX : Aside0 (x5 < s.size ∨ x5 = s.size) := ⟨by have := HM.out; omega⟩
   have HV : Aside0 (∃ v, bt s x5 = v ∧ 0 ≤ v) := ⟨⟨_, rfl, (bt_range s x5).1⟩⟩
   obtain ⟨v, hv, hv0⟩ := HV.out
   clear HV
   have HV := aa (And.intro hv hv0)
   by_cases cc : x5 < s.size ∧ (v = 95 ∨ v = 46 ∨ (48 ≤ v ∧ v ≤ 57))
   ·obtain ⟨c1, cv⟩ := cc
    have c1' : decide (x5 < (s.size : Int)) = true := ac c1
    have p0 : (0 ≤ x5) = True := af HM.out.1
    have p1 : (x5 < (s.size : Int)) = True := af c1
    have hx : ∀ h : x5.toNat < s.size, ((s[x5.toNat]'h).toNat : Int) = v := fun h => by rw [bt_at, hv]
    obtain ⟨z, f1, hz⟩ : ∃ z, IntKind.i64.wrap (x5 + 1) = z ∧ Aside0 (z = x5 + 1) := ⟨_, wrp (by have := HM.out; omega) Z58, ⟨rfl⟩⟩
    have HC := aa c1
    clear c1 hv hv0
    rcases cv with rfl | rfl | cv
    ·go_wp2_with (fail)
     go_roundg (gk - 1)
     case measure => have := HM.out; have := HC.out; omega
     case rel => exact ⟨z, _, _, b, n, dp, ng, tr, rfl, rfl, rfl, ⟨Z47, Z48, Z38⟩, HI, HD, ⟨by have := HP.out; have := hz.out; omega⟩, HB⟩
    ·cases sd
     ·go_wp2_with (fail)
      go_roundg (gk - 1)
      case measure => have := HM.out; have := HC.out; omega
      case rel => exact ⟨z, _, _, b, n, N, ng, tr, rfl, rfl, rfl, ⟨Z47, Z48, Z38⟩, ⟨HI.out.set_dp _⟩, HD, ⟨by have := HP.out; have := hz.out; have := HN.out; have := HD.out.most; have := HM.out; omega⟩, ⟨HB.out.set HI.out.ge 801 _⟩⟩
     ·go_wp2_with (fail)
      go_ret
      exact ⟨_, _, n, _, _, _, rfl, HI.out, HD.out, Z34, HB.out⟩
    ·have d0 : (v == 95) = false := ag (by omega)
     have d1 : (v == 46) = false := ag (by omega)
     have d2 : decide (48 ≤ v) = true := ac cv.1
     have d3 : decide (v ≤ 57) = true := ac cv.2
     have HCV := aa cv
     clear cv
     by_cases c2 : v = 48 ∧ N = 0
     ·obtain ⟨rfl, c2⟩ := c2
      have c2' : (N == 0) = true := ah c2
      obtain ⟨D, f2, hD⟩ : ∃ D, IntKind.i64.wrap (dp - 1) = D ∧ Aside0 (D = dp - 1) := ⟨_, wrp Z34 (by have := HP.out; omega), ⟨rfl⟩⟩
      clear c2
      go_wp2_with (fail)
      go_roundg (gk - 1)
      case measure => have := HM.out; have := HC.out; omega
      case rel => exact ⟨z, _, _, b, n, D, ng, tr, rfl, rfl, rfl, ⟨Z47, Z48, Z38⟩, ⟨HI.out.set_dp _⟩, HD, ⟨by have := HP.out; have := hz.out; have := hD.out; omega⟩, ⟨HB.out.set HI.out.ge 801 _⟩⟩
     have c2' : (v == 48) = false ∨ (v == 48) = true ∧ (N == 0) = false := by
      by_cases h : v = 48
      ·exact .inr ⟨ah h, ag (fun h2 => c2 ⟨h, h2⟩)⟩
      ·exact .inl (ag h)
     have iV := aa c2
     clear c2
     by_cases c3 : N < 800
     ·have c3' : decide (N < 800) = true := ac c3
      have r0 : (0 ≤ N) = True := af (by have := HN.out; omega)
      have r1 : (N < 800) = True := af c3
      have hci := HI.out.at_ (i := N.toNat) (by omega)
      have hfi := HI.out.fz N.toNat
      obtain ⟨M, f2, hM2⟩ : ∃ M : Nat, IntKind.i64.wrap (N + 1) = (M : Int) ∧ Aside0 (M = n + 1) := ⟨n + 1, by rw [wrp (by have := HN.out; omega) (by omega)]; have := HN.out; omega, ⟨rfl⟩⟩
      have jD := aa c3
      have g0 : (N.toNat = 800) = False := eq_false (by omega)
      have g1 : (800 = N.toNat) = False := eq_false (by omega)
      clear c3
      rcases c2' with c2' | ⟨c2', c2''⟩
      all_goals
       go_wp2_with (fail)
       go_still_tail 11, (by kernel_rfl)
       go_wp2_with (fail)
       go_roundg (gk - 1)
       case measure => have := HM.out; have := HC.out; omega
       case rel =>
        have hM := HM.out
        have hz := hz.out
        have hC := HC.out
        have hMM := hM2.out
        have hNN := HN.out
        have hD := HD.out
        have hV := HCV.out
        have hC2 := iV.out
        have hC3 := jD.out
        have hP := HP.out
        refine ⟨z, _, _, upd b N.toNat v, M, dp, ng, tr, rfl, rfl, rfl, ⟨by omega, by omega, by omega⟩, ?_, ⟨?_, by omega, fun h => ?_⟩, ⟨by omega⟩, ?_⟩
        ·exact ⟨((HI.out.put (by omega) _).set_nd _).drew⟩
        ·intro j hj
         by_cases ej : j = N.toNat
         ·rw [ej, upd_at]; omega
         ·rw [upd_ne _ _ ej]; exact hD.dig j (by omega)
        ·by_cases ej : (0 : Nat) = N.toNat
         ·rw [ej, upd_at]; omega
         ·rw [upd_ne _ _ ej]; exact hD.first (by omega)
        ·exact ⟨((HB.out.set HI.out.ge _ _).set HI.out.ge 800 _).drew⟩
     ·have c3' : decide (N < 800) = false := ae c3
      clear c3
      by_cases c4 : v = 48
      ·subst c4
       have c2'' : (N == 0) = false := by rcases c2' with h | ⟨h, h2⟩; exact absurd h (by decide); exact h2
       clear c2'
       go_wp2_with (fail)
       go_roundg (gk - 1)
       case measure => have := HM.out; have := HC.out; omega
       case rel => exact ⟨z, _, _, b, n, dp, ng, tr, rfl, rfl, rfl, ⟨Z47, Z48, Z38⟩, HI, HD, ⟨by have := HP.out; have := hz.out; omega⟩, HB⟩
      ·have c4' : (v == 48) = false := ag c4
       have c4'' : (v != 48) = true := ai c4
       clear c2' c4
       go_wp2_with (fail)
       go_roundg (gk - 1)
       case measure => have := HM.out; have := HC.out; omega
       case rel => exact ⟨z, _, _, b, n, dp, ng, true, rfl, rfl, rfl, ⟨Z47, Z48, Z38⟩, ⟨HI.out.set_tr _⟩, HD, ⟨by have := HP.out; have := hz.out; omega⟩, ⟨HB.out.set HI.out.ge 803 _⟩⟩
   have HC := aa cc
   have hways : decide (x5 < (s.size : Int)) = false ∨ (decide (x5 < (s.size : Int)) = true ∧ (x5 < (s.size : Int)) = True ∧ (v == 95) = false ∧ (v == 46) = false ∧ (decide (48 ≤ v) = false ∨ decide (48 ≤ v) = true ∧ decide (v ≤ 57) = false)) := by
    by_cases c1 : x5 < (s.size : Int)
    ·refine .inr ⟨ac c1, af c1, ag (fun h => cc ⟨c1, .inl h⟩), ag (fun h => cc ⟨c1, .inr (.inl h)⟩), ?_⟩
     by_cases c2 : 48 ≤ v
     ·exact .inr ⟨ac c2, ae (fun h => cc ⟨c1, .inr (.inr ⟨c2, h⟩)⟩)⟩
     ·exact .inl (ae c2)
    ·exact .inl (ae c1)
   have hx : ∀ h : x5.toNat < s.size, ((s[x5.toNat]'h).toNat : Int) = v := fun h => by rw [bt_at, hv]
   have p0 : (0 ≤ x5) = True := af HM.out.1
   clear cc hv hv0
   rcases hways with c1 | ⟨c1, p1, d0, d1, d2 | ⟨d2, d3⟩⟩
   all_goals
    go_wp2_with (fail)
    go_meet
    case rel => exact ⟨_, _, _, b, n, dp, ng, tr, rfl, rfl, rfl, ⟨by have := HM.out; omega, by have := HM.out; omega⟩, HI, HD, HP, HB⟩
 case rest =>
 clear HI HB
 obtain ⟨x5, sd, ss, b, n, dp, ng, tr, rfl, rfl, rfl, HM, HI, HD, HP, HB⟩ := hcut
 obtain ⟨N, hN, HN⟩ : ∃ N : Int, N = (n : Int) ∧ Aside0 (N = (n : Int)) := ⟨_, rfl, ⟨rfl⟩⟩
 have hcn := HI.out.nd_
 rw [← hN] at hcn
 have hf1 := HI.out.fz 801
 have hcd := HI.out.dp_
 clear hN
 cases ss
 ·go_wp2_with (fail)
  go_ret
  exact ⟨_, _, n, _, _, _, rfl, HI.out, HD.out, Z34, HB.out⟩
 go_upto_if 120 with (fail)
 go_cut [] from 121 to 127 (fun wc => ∃ (dp : Int), Aside0 (IsDec w0 wc g b n dp ng tr) ∧ Aside0 (-100000 ≤ dp ∧ dp ≤ 800) ∧ Aside0 (On w0 w wc g))
 case first =>
  cases sd
  ·go_wp2_with (fail)
   go_meet
   case rel => exact ⟨N, ⟨HI.out.set_dp _⟩, ⟨by have := HN.out; have := HD.out.most; omega⟩, ⟨HB.out.set HI.out.ge 801 _⟩⟩
  ·go_wp2_with (fail)
   go_meet
   case rel => exact ⟨dp, HI, ⟨Z34⟩, HB⟩
 case rest =>
 clear HI HB HP hcd hf1 hcn
 obtain ⟨dp1, HI, HP, HB⟩ := hcut
 have hcd := HI.out.dp_
 have hf1 := HI.out.fz 801
 by_cases c1 : x5 < (s.size : Int)
 rotate_left
 ·have c1' : decide (x5 < (s.size : Int)) = false := ae c1
  have hne : (x5 != (s.size : Int)) = false := by
   rw [bne_eq_false_iff_eq]
   have := HM.out
   omega
  clear c1
  go_wp2_with (fail)
  go_ret
  exact ⟨_, _, n, _, _, _, rfl, HI.out, HD.out, Z34, HB.out⟩
 have c1' : decide (x5 < (s.size : Int)) = true := ac c1
 have hne : (x5 != (s.size : Int)) = true := ai (by omega)
 have p0 : (0 ≤ x5) = True := af (by have := HM.out; omega)
 have p1 : (x5 < (s.size : Int)) = True := af c1
 obtain ⟨v, hv⟩ : ∃ v, bt s x5 = v := ⟨_, rfl⟩
 have hxv : ∀ h : (x5).toNat < s.size, ((s[(x5).toNat]'h).toNat : Int) = v := fun h => by rw [bt_at, hv]
 clear hv
 obtain ⟨l, hl⟩ : ∃ l, bits BinOp.or .u8 v 32 = l := ⟨_, rfl⟩
 have Cy := aa c1
 by_cases cl : l = 101
 rotate_left
 ·have cl' : (l == 101) = false := ag cl
  clear cl c1
  go_wp2_with (go_at_call 80; refine (lower_calls _ _).mono ?_; rintro e w' ⟨rfl, rfl⟩)
  go_ret
  exact ⟨_, _, n, _, _, _, rfl, HI.out, HD.out, Z34, HB.out⟩
 subst cl
 obtain ⟨z, f1, hz⟩ : ∃ z, IntKind.i64.wrap (x5 + 1) = z ∧ z = x5 + 1 := ⟨_, wrp (by have := HM.out; omega) Z58, rfl⟩
 by_cases c2 : z < (s.size : Int)
 rotate_left
 ·have c2' : decide (z ≥ (s.size : Int)) = true := ac (by omega)
  clear c2 c1 hz
  go_wp2_with (go_at_call 80; refine (lower_calls _ _).mono ?_; rintro e w' ⟨rfl, rfl⟩)
  go_ret
  exact ⟨_, _, n, _, _, _, rfl, HI.out, HD.out, Z34, HB.out⟩
 have c2' : decide (z ≥ (s.size : Int)) = false := ae (by omega)
 have q0 : (0 ≤ z) = True := af (by have := HM.out; omega)
 have q1 : (z < (s.size : Int)) = True := af c2
 obtain ⟨u, hu⟩ : ∃ v, bt s z = v := ⟨_, rfl⟩
 have hxu : ∀ h : (z).toNat < s.size, ((s[(z).toNat]'h).toNat : Int) = u := fun h => by rw [bt_at, hu]
 clear hu
 have iV := aa c2
 have HZ := aa hz
 clear c1 c2 hz
 go_upto_block 4 with (go_at_call 80; refine (lower_calls _ _).mono ?_; rintro e w' ⟨rfl, rfl⟩)
 go_cut [5, 8] from 148 to 155 (fun v5 v8 wc => ∃ (y x8 : Int), v5 = .int .i64 y ∧ v8 = .int .i64 x8 ∧ Aside0 (z ≤ y ∧ y ≤ s.size ∧ (x8 = 1 ∨ x8 = -1)) ∧ Aside0 (IsDec w0 wc g b n dp1 ng tr) ∧ Aside0 (On w0 w wc g))
 case first =>
  have hu : u = 43 ∨ u = 45 ∨ ((u == 43) = false ∧ (u == 45) = false) := by
   by_cases h1 : u = 43
   ·exact .inl h1
   by_cases h2 : u = 45
   ·exact .inr (.inl h2)
   exact .inr (.inr ⟨ag h1, ag h2⟩)
  obtain ⟨z1, f2, hz1⟩ : ∃ z1, IntKind.i64.wrap (z + 1) = z1 ∧ Aside0 (z1 = z + 1) := ⟨_, wrp (by have := HM.out; have := HZ.out; omega) (by have := iV.out; have := HS.out; omega), ⟨rfl⟩⟩
  rcases hu with rfl | rfl | ⟨h43, h45⟩
  ·go_wp2_with (fail)
   go_meet
   case rel => exact ⟨z1, 1, rfl, rfl, ⟨by have := hz1.out; omega, by have := hz1.out; have := iV.out; omega, .inl rfl⟩, HI, HB⟩
  ·go_wp2_with (fail)
   go_meet
   case rel => exact ⟨z1, -1, rfl, rfl, ⟨by have := hz1.out; omega, by have := hz1.out; have := iV.out; omega, .inr rfl⟩, HI, HB⟩
  ·go_wp2_with (fail)
   go_meet
   case rel => exact ⟨z, 1, rfl, rfl, ⟨Int.le_refl _, by have := iV.out; omega, .inl rfl⟩, HI, HB⟩
 case rest =>
 clear HI HB hcd hf1 p0 p1 hxv q0 q1 hxu f1 hl hne c1' c2'
 obtain ⟨y, x8, rfl, rfl, HY, HI, HB⟩ := hcut
 have hcd := HI.out.dp_
 have hf1 := HI.out.fz 801
 by_cases c3 : y < (s.size : Int)
 rotate_left
 ·have c3' : decide (y ≥ (s.size : Int)) = true := ac (by omega)
  clear c3
  go_wp2_with (fail)
  go_ret
  exact ⟨_, _, n, _, _, _, rfl, HI.out, HD.out, Z34, HB.out⟩
 have c3' : decide (y ≥ (s.size : Int)) = false := ae (by omega)
 have p0 : (0 ≤ y) = True := af (by have := HY.out; have := HZ.out; have := HM.out; omega)
 have p1 : (y < (s.size : Int)) = True := af c3
 obtain ⟨v1, hv1⟩ : ∃ v, bt s y = v := ⟨_, rfl⟩
 have hxv1 : ∀ h : (y).toNat < s.size, ((s[(y).toNat]'h).toNat : Int) = v1 := fun h => by rw [bt_at, hv1]
 clear hv1
 clear c3
 by_cases c4 : v1 < 48
 ·have c4' : decide (v1 < 48) = true := ac c4
  clear c4
  go_wp2_with (fail)
  go_ret
  exact ⟨_, _, n, _, _, _, rfl, HI.out, HD.out, Z34, HB.out⟩
 have c4' : decide (v1 < 48) = false := ae c4
 by_cases c5 : v1 > 57
 ·have c5' : decide (v1 > 57) = true := ac c5
  clear c4 c5
  go_wp2_with (fail)
  go_ret
  exact ⟨_, _, n, _, _, _, rfl, HI.out, HD.out, Z34, HB.out⟩
 have c5' : decide (v1 > 57) = false := ae c5
 clear c4 c5
 go_wp2_with (fail)
 clear c3' c4' c5' p0 p1 hxv1
 go_loopg [5, 9] s.size (fun kq v5 v9 w' => ∃ (x5 x9 : Int), v5 = .int .i64 x5 ∧ v9 = .int .i64 x9 ∧ Aside0 (0 ≤ x5 ∧ x5 ≤ s.size ∧ (s.size : Int) - x5 ≤ kq ∧ 0 ≤ x9 ∧ x9 ≤ 100100) ∧ Aside0 (IsDec w0 w' g b n dp1 ng tr) ∧ Aside0 (On w0 w w' g))
 case atStart => exact ⟨_, _, rfl, rfl, ⟨by have := HY.out; have := HZ.out; have := HM.out; omega, by have := HY.out; omega, by have := HY.out; have := HZ.out; have := HM.out; omega, by omega, by omega⟩, HI, HB⟩
 case round =>
  clear HI HB HM hcd hf1
  obtain ⟨x5, x9, rfl, rfl, HM, HI, HB⟩ := hrel
  have hcd := HI.out.dp_
  have hf1 := HI.out.fz 801
  obtain ⟨v, hv, hvr⟩ : ∃ v, bt s x5 = v ∧ 0 ≤ v ∧ v ≤ 255 := ⟨_, rfl, bt_range s x5⟩
  by_cases cc : x5 < s.size ∧ (v = 95 ∨ (48 ≤ v ∧ v ≤ 57))
  ·obtain ⟨c1, cv⟩ := cc
   have c1' : decide (x5 < (s.size : Int)) = true := ac c1
   have p0 : (0 ≤ x5) = True := af HM.out.1
   have p1 : (x5 < (s.size : Int)) = True := af c1
   have hx : ∀ h : x5.toNat < s.size, ((s[x5.toNat]'h).toNat : Int) = v := fun h => by rw [bt_at, hv]
   obtain ⟨z9, f1, hz9⟩ : ∃ z, IntKind.i64.wrap (x5 + 1) = z ∧ Aside0 (z = x5 + 1) := ⟨_, wrp (by have := HM.out; omega) Z58, ⟨rfl⟩⟩
   have HC := aa c1
   clear c1 hv
   rcases cv with rfl | cv
   ·clear hvr
    go_wp2_with (fail)
    go_roundg (gk - 1)
    case measure => have := HM.out; have := HC.out; omega
    case rel => exact ⟨z9, x9, rfl, rfl, ⟨by have := HM.out; have := hz9.out; omega, by have := HC.out; have := hz9.out; omega, by have := HM.out; have := hz9.out; have := HC.out; omega, by have := HM.out; omega, by have := HM.out; omega⟩, HI, HB⟩
   ·have d2 : decide (48 ≤ v) = true := ac cv.1
    have d3 : decide (v ≤ 57) = true := ac cv.2
    have d0 : (v == 95) = false := ag (by omega)
    by_cases c6 : x9 < 10000
    ·have c6' : decide (x9 < 10000) = true := ac c6
     have hM := HM.out
     obtain ⟨a, g1, ha⟩ : ∃ a, IntKind.i64.wrap (x9 * 10) = a ∧ a = x9 * 10 := ⟨_, wrp (by omega) (by omega), rfl⟩
     have g2 : IntKind.i64.wrap v = v := wrp (by omega) (by omega)
     obtain ⟨c, g3, hc⟩ : ∃ c, IntKind.i64.wrap (a + v) = c ∧ c = a + v := ⟨_, wrp (by omega) (by omega), rfl⟩
     obtain ⟨d, g4, hd⟩ : ∃ d, IntKind.i64.wrap (c - 48) = d ∧ d = c - 48 := ⟨_, wrp (by omega) (by omega), rfl⟩
     have HDD : Aside0 (0 ≤ d ∧ d ≤ 100100) := ⟨by omega⟩
     clear c6 cv ha hc hd hM hvr
     go_wp2_with (fail)
     go_roundg (gk - 1)
     case measure => have := HM.out; have := HC.out; omega
     case rel => exact ⟨z9, d, rfl, rfl, ⟨by have := HM.out; have := hz9.out; omega, by have := HC.out; have := hz9.out; omega, by have := HM.out; have := hz9.out; have := HC.out; omega, HDD.out.1, HDD.out.2⟩, HI, HB⟩
    ·have c6' : decide (x9 < 10000) = false := ae c6
     clear c6 cv hvr
     go_wp2_with (fail)
     go_roundg (gk - 1)
     case measure => have := HM.out; have := HC.out; omega
     case rel => exact ⟨z9, x9, rfl, rfl, ⟨by have := HM.out; have := hz9.out; omega, by have := HC.out; have := hz9.out; omega, by have := HM.out; have := hz9.out; have := HC.out; omega, by have := HM.out; omega, by have := HM.out; omega⟩, HI, HB⟩
  have hways : (decide (x5 < (s.size : Int)) = false ∧ (x5 != (s.size : Int)) = false) ∨ (decide (x5 < (s.size : Int)) = true ∧ (x5 < (s.size : Int)) = True ∧ (x5 != (s.size : Int)) = true ∧ (v == 95) = false ∧ (decide (48 ≤ v) = false ∨ decide (48 ≤ v) = true ∧ decide (v ≤ 57) = false)) := by
   by_cases c1 : x5 < (s.size : Int)
   ·refine .inr ⟨ac c1, af c1, ai (by omega), ag (fun h => cc ⟨c1, .inl h⟩), ?_⟩
    by_cases c2 : 48 ≤ v
    ·exact .inr ⟨ac c2, ae (fun h => cc ⟨c1, .inr ⟨c2, h⟩⟩)⟩
    ·exact .inl (ae c2)
   ·refine .inl ⟨ae c1, ?_⟩
    rw [bne_eq_false_iff_eq]
    have := HM.out
    omega
  have hx : ∀ h : x5.toNat < s.size, ((s[x5.toNat]'h).toNat : Int) = v := fun h => by rw [bt_at, hv]
  have p0 : (0 ≤ x5) = True := af HM.out.1
  have hm9 : ∃ m, IntKind.i64.wrap (x9 * x8) = m ∧ -100100 ≤ m ∧ m ≤ 100100 := by
   have hM := HM.out
   rcases HY.out.2.2 with e | e
   ·exact ⟨x9, by rw [e, Int.mul_one]; exact wrp (by omega) (by omega), by omega, by omega⟩
   ·exact ⟨-x9, by rw [e, show x9 * -1 = -x9 by omega]; exact wrp (by omega) (by omega), by omega, by omega⟩
  obtain ⟨m, g5, hm⟩ := hm9
  obtain ⟨D, g6, hD6⟩ : ∃ D, IntKind.i64.wrap (dp1 + m) = D ∧ Aside0 (-1000000 ≤ D ∧ D ≤ 1000000) := ⟨dp1 + m, wrp (by have := HP.out; omega) (by have := HP.out; omega), ⟨by have := HP.out; omega⟩⟩
  clear cc hv hvr hm
  rcases hways with ⟨c1, c7⟩ | ⟨c1, p1, c7, d0, d2 | ⟨d2, d3⟩⟩
  all_goals
   go_wp2_with (fail)
   go_ret
   exact ⟨_, _, n, _, _, _, rfl, HI.out.set_dp _, HD.out, hD6.out, HB.out.set HI.out.ge 801 _⟩
end Go.Proofs.YtmpdhdnoohmndaaGreatDoor.Dec

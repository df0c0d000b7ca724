import Derived.Test.YtmpdhdnoohmndaaGreatDoorZip
import Derived.Test.YtmpdhdnoohmndaaGreatDoorQe
import Derived.Outline
namespace Go.Proofs.YtmpdhdnoohmndaaGreatDoor.Dec
set_option maxHeartbeats 40000000
set_option maxRecDepth 100000
open Go.RowKit Go.Proofs.YtmpdhdnoohmndaaGreatDoorW.PrintWords Go.Proofs.YtmpdhdnoohmndaaGreatDoorW.PrintLast Go.Proofs.YtmpdhdnoohmndaaGreatDoorW.PrintMore PFnGjItems
open Jump
attribute [local go_sem] max2_int min2_int max_two min_two max_three min_three max_four min_four fwd_normal fwd_exit fwd_ret fwd_panic
set_option linter.unusedVariables false
set_option linter.unusedSimpArgs false
structure Flt (w : World) (F : Nat) : Prop where
 mb : w.cell? ⟨F, 0, none⟩ = some (.int .u64 52)
 eb : w.cell? ⟨F, 1, none⟩ = some (.int .u64 11)
 bi : w.cell? ⟨F, 2, none⟩ = some (.int .i64 (-1023))
theorem Flt.now {w0 W : World} {F : Nat} (h : Flt w0 F) (hF : F < w0.heap.size) (hb : Below w0.heap.size w0 W) : Flt W F :=
 ⟨by rw [hb.cell (p := ⟨F, 0, none⟩) hF]; exact h.mb, by rw [hb.cell (p := ⟨F, 1, none⟩) hF]; exact h.eb, by rw [hb.cell (p := ⟨F, 2, none⟩) hF]; exact h.bi⟩
structure Pow (w : World) (P0 : Addr) : Prop where
 hd : w.cell? ⟨7, 0, none⟩ = some (.slice (some P0) 9 9)
 at_ : ∀ i, i < 9 → ∃ n : Nat, w.cell? (P0.add i) = some (.int .i64 n) ∧ 1 ≤ n ∧ n ≤ 27 ∧ (1 ≤ i → 3 ≤ n)
theorem Pow.now {w0 W : World} {P0 : Addr} (h : Pow w0 P0) (h7 : 7 < w0.heap.size) (hP : P0.block < w0.heap.size) (hb : Below w0.heap.size w0 W) : Pow W P0 :=
 ⟨by rw [hb.cell (p := ⟨7, 0, none⟩) h7]; exact h.hd, fun i hi => by rw [hb.cell (p := P0.add i) (by rw [add_blk]; exact hP)]; exact h.at_ i hi⟩
structure Tabs (w0 : World) (F : Nat) (P0 L : Addr) : Prop where
 flt : Flt w0 F
 fl : F < w0.heap.size
 pow : Pow w0 P0
 pl : P0.block < w0.heap.size
 l7 : 7 < w0.heap.size
 tab : Tab w0 L
def SomeF (w0 w : World) (g : Nat) (e : Ending) (w' : World) : Prop := ∃ (x : Int) (t : Bool), e = .returned (.tuple #[.int .u64 x, .bool t]) ∧ On w0 w w' g
theorem float_zero (g F : Nat) (P0 L : Addr) (b : Nat → Int) (dp : Int) (ng tr : Bool) (w0 w : World) (hI : IsDec w0 w g b 0 dp ng tr) (hT : Tabs w0 F P0 L) (hB : On w0 w w g) :
  Calls Tryz.prog 91 #[.pointer (some ⟨g, 0, none⟩), .pointer (some ⟨F, 0, none⟩)] w (SomeF w0 w g) := by
 have hcn := hI.nd_
 have hcg := hI.ng_
 have h0 := (hT.flt.now hT.fl hB.below).mb
 have h1 := (hT.flt.now hT.fl hB.below).eb
 have h2 := (hT.flt.now hT.fl hB.below).bi
 have HB := aa hB
 clear hI hB
 go_enter Tryz.func91, Tryz.ntmps91
 go_wp2_with (fail)
 apply wp_scope_fwd 3
 go_wp2_with (fail)
 go_step3
 try simp only [Exit.then, Exit.inBlock]
 refine fwd_goto _ rfl ?_
 go_wp2_with (fail)
 clear hT
 cases ng
 all_goals
  repeat (go_quiet (fail); try go_wp2)
  rw [fwd_ret]
  go_ret2
  exact ⟨_, _, rfl, Z52⟩
theorem float_good (g F : Nat) (P0 L : Addr) (b : Nat → Int) (n : Nat) (dp : Int) (ng tr : Bool) (w0 w : World) (hG : Good w0 w g b n dp ng tr) (hdp : -1000000 ≤ dp ∧ dp ≤ 1000000) (hT : Tabs w0 F P0 L) (hB : On w0 w w g) :
  Calls Tryz.prog 91 #[.pointer (some ⟨g, 0, none⟩), .pointer (some ⟨F, 0, none⟩)] w (SomeF w0 w g) := by
 have HG := aa hG
 have HB := aa hB
 obtain ⟨N, hN, HN⟩ : ∃ N : Int, N = (n : Int) ∧ (N == 0) = false := ⟨n, rfl, ag (by have := hG.pos; omega)⟩
 have hcn := hG.dec.nd_
 rw [← hN] at hcn
 have hcd := hG.dec.dp_
 clear hG hB hN
 have hcg := HG.out.dec.ng_
 have h0 := (hT.flt.now hT.fl HB.out.below).mb
 have h1 := (hT.flt.now hT.fl HB.out.below).eb
 have h2 := (hT.flt.now hT.fl HB.out.below).bi
 by_cases c1 : dp > 310
 ·have c1' : decide (dp > 310) = true := ac c1
  clear c1 hdp
  go_enter Tryz.func91, Tryz.ntmps91
  go_wp2_with (fail)
  apply wp_scope_fwd 3
  go_wp2_with (fail)
  go_step3
  try simp only [Exit.then, Exit.inBlock]
  refine fwd_goto _ rfl ?_
  go_wp2_with (fail)
  repeat (go_quiet (fail); try go_wp2)
  try go_step3
  try go_wp2_with (fail)
  clear hT
  cases ng
  all_goals
   repeat (go_quiet (fail); try go_wp2)
   rw [fwd_ret]
   go_ret2
   exact ⟨_, _, rfl, Z52⟩
 have c1' : decide (dp > 310) = false := ae c1
 by_cases c2 : dp < -330
 ·have c2' : decide (dp < -330) = true := ac c2
  clear c1 c2 hdp
  go_enter Tryz.func91, Tryz.ntmps91
  go_wp2_with (fail)
  apply wp_scope_fwd 3
  go_wp2_with (fail)
  go_step3
  try simp only [Exit.then, Exit.inBlock]
  refine fwd_goto _ rfl ?_
  go_wp2_with (fail)
  clear hT
  cases ng
  all_goals
   repeat (go_quiet (fail); try go_wp2)
   rw [fwd_ret]
   go_ret2
   exact ⟨_, _, rfl, Z52⟩
 have c2' : decide (dp < -330) = false := ae c2
 have C12 := aa (And.intro c1 c2)
 clear c1 c2 hdp
 go_enter Tryz.func91, Tryz.ntmps91
 go_wp2_with (fail)
 apply wp_scope_fwd 3
 go_wp2_with (fail)
 clear hcn hcd hcg h0 h1 h2
 go_loopg [6] (10 * dp + b 0 - 49).toNat (fun kq v6 w' => ∃ (x6 : Int) (b1 : Nat → Int) (n1 : Nat) (dp1 : Int) (tr1 : Bool), v6 = .int .i64 x6 ∧ Aside0 (kq = (10 * dp1 + b1 0 - 49).toNat ∧ 0 ≤ x6 ∧ x6 + 27 * kq ≤ 84000 ∧ -24000 ≤ dp1 ∧ dp1 ≤ 310) ∧ Aside0 (Good w0 w' g b1 n1 dp1 ng tr1) ∧ Aside0 (On w0 w w' g))
 case atStart => exact ⟨_, b, n, dp, tr, rfl, ⟨rfl, Int.le_refl _, by have := C12.out; have := HG.out.dig 0 HG.out.pos; omega, by have := C12.out; omega, by have := C12.out; omega⟩, HG, HB⟩
 case round =>
  clear HG HB
  obtain ⟨x6, b1, n1, dp1, tr1, rfl, HM, HG, HB⟩ := hrel
  have hcd := HG.out.dec.dp_
  by_cases c3 : dp1 > 0
  ·have c3' : decide (dp1 > 0) = true := ac c3
   have hP := (hT.pow.now hT.l7 hT.pl HB.out.below).hd
   obtain ⟨K, nn, hnn, hK1, hK2, hcase⟩ : ∃ (K : Nat) (nn : Int), nn = (K : Int) ∧ 3 ≤ K ∧ K ≤ 27 ∧ (decide (dp1 ≥ 9) = true ∧ nn = 27 ∨ decide (dp1 ≥ 9) = false ∧ (0 ≤ dp1) = True ∧ (dp1 < 9) = True ∧ wr.cell? (P0.add dp1.toNat) = some (.int .i64 nn)) := by
    by_cases c : dp1 ≥ 9
    ·exact ⟨27, 27, rfl, by omega, by omega, .inl ⟨ac c, rfl⟩⟩
    ·obtain ⟨m, h1, h2, h3, h4⟩ := (hT.pow.now hT.l7 hT.pl HB.out.below).at_ dp1.toNat (by omega)
     exact ⟨m, m, rfl, h4 (by omega), h3, .inr ⟨ae c, af (by omega), af (by omega), h1⟩⟩
   obtain ⟨z, f1, hz⟩ : ∃ z, IntKind.i64.wrap (-nn) = z ∧ z = -(K : Int) := ⟨_, wrp (by omega) (by omega), by rw [hnn]⟩
   obtain ⟨y, f2, hy⟩ : ∃ y, IntKind.i64.wrap (x6 + nn) = y ∧ y = x6 + nn := ⟨_, wrp (by have := HM.out; omega) (by have := HM.out; omega), rfl⟩
   have HK := aa (And.intro hnn (And.intro hK1 (And.intro hK2 (And.intro hz (And.intro hy c3)))))
   clear hnn hK1 hK2 hz hy c3
   rcases hcase with ⟨c4, rfl⟩ | ⟨c4, p0, p1, hcp⟩
   all_goals
    go_wp2_with (fail)
    repeat (go_quiet (fail); try go_wp2_with (fail))
    refine (shift_right g b1 n1 dp1 ng tr1 K z HK.out.2.2.2.1 w0 _ (HG.out.drewN _) (by have := HK.out; omega) (by have := HK.out; omega) (by have := HM.out; omega) (On.refl g (HB.out.drewN _).below)).mono ?_
    rintro e w' ⟨rfl, b2, n2, d2, tr2, hG2, hd2, hl2, hO2⟩
    have HG2 := aa hG2
    have uN := aa hO2
    have HD2 := aa (And.intro hd2 hl2)
    clear hG2 hO2 hd2 hl2
    go_wp2_with (fail)
    go_roundg (10 * (dp1 - d2) + b2 0 - 49).toNat
    case measure =>
     have hM := HM.out
     have hK := HK.out
     have hD := HD2.out
     have hg := HG2.out.dig 0 HG2.out.pos
     have hg1 := HG2.out.first
     have hg0 := HG.out.first
     by_cases e : d2 = 0
     ·have := hD.2 (by omega) (by omega) e; omega
     ·omega
    case rel =>
     have hM := HM.out
     have hK := HK.out
     have hD := HD2.out
     have hg := HG2.out.dig 0 HG2.out.pos
     have hg1 := HG2.out.first
     have hg0 := HG.out.first
     have hlt : (10 * (dp1 - d2) + b2 0 - 49).toNat + 1 ≤ gk := by
      by_cases e : d2 = 0
      ·have := hD.2 (by omega) (by omega) e; omega
      ·omega
     exact ⟨_, b2, n2, _, tr2, rfl, ⟨rfl, by omega, by omega, by omega, by omega⟩, ⟨HG2.out⟩, ⟨(HB.out.drewN _).trans uN.out⟩⟩
  have c3' : decide (dp1 > 0) = false := ae c3
  have C3 := aa c3
  clear c3
  go_wp2_with (fail)
  clear hcd c3' c1' c2'
  go_loopg [6] (10 * (-dp1) + 57 - b1 0).toNat (fun kq v6 w' => ∃ (x6 : Int) (b1 : Nat → Int) (n1 : Nat) (dp1 : Int) (tr1 : Bool), v6 = .int .i64 x6 ∧ Aside0 (kq = (10 * (-dp1) + 57 - b1 0).toNat ∧ x6 ≤ 84000 ∧ 27 * kq ≤ x6 + 6500000 ∧ -24000 ≤ dp1 ∧ dp1 ≤ 400) ∧ Aside0 (Good w0 w' g b1 n1 dp1 ng tr1) ∧ Aside0 (On w0 w w' g))
  case atStart => exact ⟨_, b1, n1, dp1, tr1, rfl, ⟨rfl, by have := HM.out; omega, by have := HM.out; have := HG.out.first; omega, by have := HM.out; omega, by have := HM.out; omega⟩, HG, HB⟩
  case round =>
   clear HG HB HM C3
   obtain ⟨x6, b1, n1, dp1, tr1, rfl, HM, HG, HB⟩ := hrel
   have hcd := HG.out.dec.dp_
   obtain ⟨v0, hv0⟩ : ∃ v, b1 0 = v := ⟨_, rfl⟩
   have hc0 := HG.out.dec.at_ (i := 0) (by omega)
   rw [hv0] at hc0
   by_cases c5 : dp1 < 0 ∨ dp1 = 0 ∧ v0 < 53
   ·have hP := (hT.pow.now hT.l7 hT.pl HB.out.below).hd
    have ht : decide (dp1 < 0) = true ∨ decide (dp1 < 0) = false ∧ (dp1 == 0) = true ∧ decide (v0 < 53) = true := by
     by_cases c : dp1 < 0
     ·exact .inl (ac c)
     ·exact .inr ⟨ae c, ah (by omega), ac (by omega)⟩
    obtain ⟨q, f3, hq⟩ : ∃ q, IntKind.i64.wrap (-dp1) = q ∧ q = -dp1 := ⟨_, wrp (by have := HM.out; omega) (by have := HM.out; omega), rfl⟩
    obtain ⟨K, nn, hnn, hK1, hK2, hcase⟩ : ∃ (K : Nat) (nn : Int), nn = (K : Int) ∧ 1 ≤ K ∧ K ≤ 27 ∧ (decide (q ≥ 9) = true ∧ nn = 27 ∨ decide (q ≥ 9) = false ∧ (0 ≤ q) = True ∧ (q < 9) = True ∧ wr.cell? (P0.add q.toNat) = some (.int .i64 nn)) := by
     by_cases c : q ≥ 9
     ·exact ⟨27, 27, rfl, by omega, by omega, .inl ⟨ac c, rfl⟩⟩
     ·obtain ⟨m, h1, h2, h3, h4⟩ := (hT.pow.now hT.l7 hT.pl HB.out.below).at_ q.toNat (by omega)
      exact ⟨m, m, rfl, h2, h3, .inr ⟨ae c, af (by omega), af (by omega), h1⟩⟩
    obtain ⟨y, f2, hy⟩ : ∃ y, IntKind.i64.wrap (x6 - nn) = y ∧ y = x6 - nn := ⟨_, wrp (by have := HM.out; omega) (by have := HM.out; omega), rfl⟩
    have HK := aa (And.intro hnn (And.intro hK1 (And.intro hK2 (And.intro hq (And.intro hy (And.intro c5 hv0))))))
    clear hnn hK1 hK2 hq hy c5 hv0
    rcases ht with ht | ⟨ht, ht2, ht3⟩ <;> rcases hcase with ⟨c4, rfl⟩ | ⟨c4, p0, p1, hcp⟩
    all_goals
     go_wp2_with (fail)
     repeat (go_quiet (fail); try go_wp2_with (fail))
     refine (shift_left g b1 n1 dp1 ng tr1 K _ HK.out.1 w0 _ (HG.out.drewN _) (by have := HK.out; omega) (by have := HK.out; omega) (by have := HM.out; omega) L hT.tab (On.refl g (HB.out.drewN _).below)).mono ?_
     rintro e w' ⟨rfl, b2, n2, d2, tr2, hG2, hd2, hl2, hO2⟩
     have HG2 := aa hG2
     have uN := aa hO2
     have HD2 := aa (And.intro hd2 hl2)
     clear hG2 hO2 hd2 hl2
     go_wp2_with (fail)
     go_roundg (10 * (-(dp1 + d2)) + 57 - b2 0).toNat
     case measure =>
      have hM := HM.out
      have hK := HK.out
      have hD := HD2.out
      have hg := HG2.out.dig 0 HG2.out.pos
      have hg1 := HG2.out.first
      have hg0 := HG.out.dig 0 HG.out.pos
      by_cases e : d2 = 0
      ·have := hD.2 e; omega
      ·omega
     case rel =>
      have hM := HM.out
      have hK := HK.out
      have hD := HD2.out
      have hg := HG2.out.dig 0 HG2.out.pos
      have hg1 := HG2.out.first
      have hg0 := HG.out.dig 0 HG.out.pos
      have hlt : (10 * (-(dp1 + d2)) + 57 - b2 0).toNat + 1 ≤ gk := by
       by_cases e : d2 = 0
       ·have := hD.2 e; omega
       ·omega
      exact ⟨_, b2, n2, _, tr2, rfl, ⟨rfl, by omega, by omega, by omega, by omega⟩, ⟨HG2.out⟩, ⟨(HB.out.drewN _).trans uN.out⟩⟩
   have ht : decide (dp1 < 0) = false := ae (fun h => c5 (.inl h))
   have ht2 : (dp1 == 0) = false ∨ (dp1 == 0) = true ∧ decide (v0 < 53) = false := by
    by_cases c : dp1 = 0
    ·exact .inr ⟨ah c, ae (fun h => c5 (.inr ⟨c, h⟩))⟩
    ·exact .inl (ag c)
   obtain ⟨E, f3, hE⟩ : ∃ E, IntKind.i64.wrap (x6 - 1) = E ∧ E = x6 - 1 := ⟨_, wrp (by have := HM.out; omega) (by have := HM.out; omega), rfl⟩
   have hcg := HG.out.dec.ng_
   have h0 := (hT.flt.now hT.fl HB.out.below).mb
   have h1 := (hT.flt.now hT.fl HB.out.below).eb
   have h2 := (hT.flt.now hT.fl HB.out.below).bi
   have hE2 : -6600000 ≤ E ∧ E ≤ 90000 := by have := HM.out; omega
   have hd2 : -6000000000 ≤ dp1 ∧ dp1 ≤ 1000 := by have := HM.out; omega
   have HE2 := aa hE2
   have HD2 := aa hd2
   have hfm := HM.out
   by_cases c6 : E < -1022
   case' neg =>
    have c6' : decide (E < -1022) = false := ae c6
    obtain ⟨b3, rfl⟩ : ∃ b3 : Nat → Int, b3 = b1 := ⟨_, rfl⟩
    obtain ⟨n3, rfl⟩ : ∃ n3 : Nat, n3 = n1 := ⟨_, rfl⟩
    obtain ⟨tr3, rfl⟩ : ∃ tr3 : Bool, tr3 = tr1 := ⟨_, rfl⟩
    obtain ⟨dp3, rfl⟩ : ∃ dp3 : Int, dp3 = dp1 := ⟨_, rfl⟩
    obtain ⟨E2, rfl⟩ : ∃ E2 : Int, E2 = E := ⟨_, rfl⟩
    have HG3 := HG
    have HB3 := HB
    have HD3 : Aside0 (-20000000000 ≤ dp3 ∧ dp3 ≤ 20000000000) := ⟨by omega⟩
    clear c6 c5 hv0 hE hd2 hE2 hfm HM HD2 HE2
    rcases ht2 with ht2 | ⟨ht2, ht3⟩
    all_goals
     go_wp2_with (fail)
     clear ht2 ht f3 c6' hc0
   case' pos =>
    have c6' : decide (E < -1022) = true := ac c6
    obtain ⟨K, nn, g1, hnn, hK1, hK2⟩ : ∃ (K : Nat) (nn : Int), IntKind.i64.wrap (-1022 - E) = nn ∧ nn = (K : Int) ∧ 1 ≤ K ∧ K ≤ 6600000 := ⟨(-1022 - E).toNat, -1022 - E, wrp (by omega) (by omega), by omega, by omega, by omega⟩
    obtain ⟨z, g2, hz⟩ : ∃ z, IntKind.i64.wrap (-nn) = z ∧ z = -(K : Int) := ⟨_, wrp (by omega) (by omega), by rw [hnn]⟩
    obtain ⟨E2, g3⟩ : ∃ E2, IntKind.i64.wrap (E + nn) = E2 := ⟨_, rfl⟩
    have HK := aa (And.intro hK1 (And.intro hK2 hz))
    clear c6 c5 hv0 hE hd2 hE2 hfm HM hK1 hK2 hz hnn
    rcases ht2 with ht2 | ⟨ht2, ht3⟩
    all_goals
     go_wp2_with (fail)
     refine (shift_right g b1 n1 dp1 ng tr1 K z HK.out.2.2 w0 _ HG.out HK.out.1 (by have := HK.out; omega) (by have := HD2.out; omega) (On.refl g HB.out.below)).mono ?_
     rintro e w' ⟨rfl, b3, n3, d3, tr3, hG3, hd3, -, hO3⟩
     obtain ⟨dp3, hdp3⟩ : ∃ dp3, dp3 = dp1 - (d3 : Int) := ⟨_, rfl⟩
     rw [← hdp3] at hG3
     have HG3 := aa hG3
     have HB3 := aa (HB.out.trans hO3)
     have HD3 : Aside0 (-20000000000 ≤ dp3 ∧ dp3 ≤ 20000000000) := ⟨by have := HD2.out; have := HK.out; omega⟩
     clear hG3 hO3 hd3 hdp3 HG HB HD2 hcd hcg h0 h1 h2
     have hcg := HG3.out.dec.ng_
     have h0 := (hT.flt.now hT.fl HB3.out.below).mb
     have h1 := (hT.flt.now hT.fl HB3.out.below).eb
     have h2 := (hT.flt.now hT.fl HB3.out.below).bi
     go_wp2_with (fail)
     clear ht2 ht f3 c6' hc0 g1 g2 g3 HK HE2
   all_goals
    obtain ⟨X, fX⟩ : ∃ X, IntKind.i64.wrap (E2 - -1023) = X := ⟨_, rfl⟩
    have fX2 : IntKind.i64.wrap (E2 + 1023) = X := by rw [← fX, show E2 - -1023 = E2 + 1023 by omega]
    by_cases cX : X ≥ 2047
    ·have cX' : decide (X ≥ 2047) = true := ac cX
     clear cX
     repeat (go_quiet (fail); try go_wp2_with (fail))
     go_step3
     try simp only [Exit.then, Exit.inBlock]
     refine fwd_goto _ rfl ?_
     go_wp2_with (fail)
     repeat (go_quiet (fail); try go_wp2_with (fail))
     try go_step3
     try go_wp2_with (fail)
     clear hT
     cases ng
     all_goals
      repeat (go_quiet (fail); try go_wp2)
      rw [fwd_ret]
      go_ret2
      exact ⟨_, _, rfl, (by first | exact ((HB3.out.drewN _).drewN _).drewN _ | exact (HB3.out.drewN _).drewN _ | exact HB3.out.drewN _)⟩
    have cX' : decide (X ≥ 2047) = false := ae cX
    clear cX
    repeat (go_quiet (fail); try go_wp2_with (fail))
    refine (shift_left g b3 n3 dp3 ng tr3 53 _ rfl w0 _ (HG3.out.drewN _) (by omega) (by omega) (by have := HD3.out; omega) L hT.tab (On.refl g (HB3.out.drewN _).below)).mono ?_
    rintro e w' ⟨rfl, b4, n4, d4, tr4, hG4, hd4, -, hO4⟩
    obtain ⟨dp4, hdp4⟩ : ∃ dp4, dp4 = dp3 + (d4 : Int) := ⟨_, rfl⟩
    rw [← hdp4] at hG4
    have HG4 := aa hG4
    have HB4 := aa ((HB3.out.drewN _).trans hO4)
    have HD4 : Aside0 (-1000000000000 ≤ dp4 ∧ dp4 ≤ 1000000000000) := ⟨by have := HD3.out; omega⟩
    clear hG4 hO4 hd4 hdp4 HG3 HB3 HD3 hcg h0 h1 h2 fX fX2 cX'
    have hcg := HG4.out.dec.ng_
    have h0 := (hT.flt.now hT.fl HB4.out.below).mb
    have h1 := (hT.flt.now hT.fl HB4.out.below).eb
    have h2 := (hT.flt.now hT.fl HB4.out.below).bi
    go_wp2_with (fail)
    refine (rounded_calls g b4 n4 n4 dp4 ng tr4 w0 _ HG4.out rfl HD4.out).mono ?_
    rintro e w' ⟨t, rfl, rfl⟩
    by_cases ct : t = 9007199254740992
    ·subst ct
     obtain ⟨E3, gE⟩ : ∃ E3, IntKind.i64.wrap (E2 + 1) = E3 := ⟨_, rfl⟩
     obtain ⟨X, fX⟩ : ∃ X, IntKind.i64.wrap (E3 - -1023) = X := ⟨_, rfl⟩
     have fX2 : IntKind.i64.wrap (E3 + 1023) = X := by rw [← fX, show E3 - -1023 = E3 + 1023 by omega]
     by_cases cX : X ≥ 2047
     ·have cX' : decide (X ≥ 2047) = true := ac cX
      clear cX
      go_wp2_with (fail)
      repeat (go_quiet (fail); try go_wp2_with (fail))
      go_step3
      try simp only [Exit.then, Exit.inBlock]
      refine fwd_goto _ rfl ?_
      go_wp2_with (fail)
      repeat (go_quiet (fail); try go_wp2_with (fail))
      try go_step3
      try go_wp2_with (fail)
      clear hT
      cases ng
      all_goals
       repeat (go_quiet (fail); try go_wp2)
       rw [fwd_ret]
       go_ret2
       exact ⟨_, _, rfl, Z40⟩
     have cX' : decide (X ≥ 2047) = false := ae cX
     clear cX
     go_wp2_with (fail)
     repeat (go_quiet (fail); try go_wp2_with (fail))
     go_step3
     try simp only [Exit.then, Exit.inBlock]
     refine fwd_goto _ rfl ?_
     go_wp2_with (fail)
     clear hT
     cases ng
     all_goals
      repeat (go_quiet (fail); try go_wp2)
      rw [fwd_ret]
      go_ret2
      exact ⟨_, _, rfl, Z40⟩
    ·have ct' : (t == 9007199254740992) = false := ag ct
     clear ct
     obtain ⟨A, fA⟩ : ∃ A, bits BinOp.and .u64 t 4503599627370496 = A := ⟨_, rfl⟩
     by_cases cA : A = 0
     ·have cA' : (A == 0) = true := ah cA
      clear cA
      go_wp2_with (fail)
      go_step3
      try simp only [Exit.then, Exit.inBlock]
      refine fwd_goto _ rfl ?_
      go_wp2_with (fail)
      clear hT
      cases ng
      all_goals
       repeat (go_quiet (fail); try go_wp2)
       rw [fwd_ret]
       go_ret2
       exact ⟨_, _, rfl, Z40⟩
     ·have cA' : (A == 0) = false := ag cA
      clear cA
      go_wp2_with (fail)
      go_step3
      try simp only [Exit.then, Exit.inBlock]
      refine fwd_goto _ rfl ?_
      go_wp2_with (fail)
      clear hT
      cases ng
      all_goals
       repeat (go_quiet (fail); try go_wp2)
       rw [fwd_ret]
       go_ret2
       exact ⟨_, _, rfl, Z40⟩
end Go.Proofs.YtmpdhdnoohmndaaGreatDoor.Dec

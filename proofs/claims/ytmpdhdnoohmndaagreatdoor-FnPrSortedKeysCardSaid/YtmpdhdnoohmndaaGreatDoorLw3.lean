import Derived.Test.YtmpdhdnoohmndaaGreatDoorZip
import Derived.Test.YtmpdhdnoohmndaaGreatDoorLwh
import Derived.Test.YtmpdhdnoohmndaaGreatDoorUnq
import Derived.Test.YtmpdhdnoohmndaaGreatDoorOu
import Derived.Test.YtmpdhdnoohmndaaGreatDoorPo
namespace Go.Proofs.YtmpdhdnoohmndaaGreatDoor.Pr
set_option maxHeartbeats 8000000
set_option maxRecDepth 100000
open Go.RowKit Go.Proofs.YtmpdhdnoohmndaaGreatDoorW.PrintWords Go.Proofs.YtmpdhdnoohmndaaGreatDoorW.PrintLast Go.Proofs.YtmpdhdnoohmndaaGreatDoorW.PrintMore Sp Gj So Dec
set_option linter.unusedVariables false
set_option linter.unusedSimpArgs false
def ItPost (n : Nat) (w : World) (e : Ending) (w' : World) : Prop := ∃ (v : Value) (L : List (GR × GR)), e = .returned v ∧ L.length = n ∧ (∀ i (hi : i + 1 < L.length), Op.bytesLess (L[i]'(by omega)).1.str.toList (L[i + 1]'hi).1.str.toList = true) ∧ k41.R 40 w' w.heap.size (fun _ => True) v (L.map toS) ∧ Below w.heap.size w w'
def TxPost (t : S25) (ok : Bool) (w : World) (e : Ending) (w' : World) : Prop := ∃ v2 v3 : Value, e = .returned (.tuple #[.agg #[.int .i64 t.f0, .string t.f1, v2, v3], .bool ok]) ∧ Kd.R Kd.string 9 w' w.heap.size (fun _ => True) v2 t.f2 ∧ Kd.R k25 28 w' w.heap.size (fun k_ => some k_ ≠ (v2 : Value).ownBlock) v3 t.f3 ∧ Below w.heap.size w w'
theorem law_big (s : au) (wd : Int) (pre ind : au) (sk : Bool) (w : World) (hz : 2147483647 < s.size) : Calls Tryz.prog 3 #[.string s, .agg #[.int .i64 wd, .string pre, .string ind, .bool sk]] w fun e w' => e = .returned (.bool true) ∧ Below w.heap.size w w' := by
 obtain ⟨d1, d2⟩ : decide ((2147483647 : Int) < (s.size : Int)) = true ∧ decide (2147483647 < s.size) = true := sz_gt hz
 have hu23 := Tryz.underlying23
 clear hz
 go_enter Tryz.func3, Tryz.ntmps3
 go_wp2
 go_ret
 exact ⟨rfl, below_alloc (Below.refl _ _) _⟩
theorem law_calls (s : au) (wd : Int) (pre ind : au) (sk ok : Bool) (t : S25) (w : World) (hW : Wok w) (hz : s.size ≤ 2147483647)
  (hT : ∀ w, Calls Tryz.prog 5 #[.string s] w (TxPost t ok w)) (hU : ok = true → UqC t) (hS2 : ok = true → t.f2.length ≤ 65536)
  (hG : ok = true → s.size ≤ 4096 → t.f0 = 6 → Ind pre → Ind ind → sk = true → (∀ q : Nat, q < s.size → at_ s q ≠ 92) → UqT t → ∀ w, Wok w → Calls Tryz.prog 10 #[.string s, .agg #[.int .i64 wd, .string pre, .string ind, .bool true]] w fun e w' => ∃ T, e = .returned (.string T) ∧ Below w.heap.size w w' ∧ ∀ w2, Wok w2 → Calls Tryz.prog 9 #[.string T] w2 (ItPost t.f2.length w2)) :
  Calls Tryz.prog 3 #[.string s, .agg #[.int .i64 wd, .string pre, .string ind, .bool sk]] w fun e w' => e = .returned (.bool true) ∧ Below w.heap.size w w' := by
 obtain ⟨d1, d2⟩ : decide ((2147483647 : Int) < (s.size : Int)) = false ∧ decide (2147483647 < s.size) = false := sz_le (Nat.not_lt.2 hz)
 have hu23 := Tryz.underlying23
 have hu28 := Tryz.underlying28
 have HW := aa hW
 have HT := aa hT
 have HU := aa hU
 have HG := aa hG
 have HZ := aa hz
 have HB := aa (Below.refl w.heap.size w)
 have HS2 := aa hS2
 obtain ⟨t0, t1, t2, t3⟩ := t
 obtain ⟨x4, d3, d4, hx4⟩ : ∃ x4, decide ((4096 : Int) < (s.size : Int)) = x4 ∧ decide (4096 < s.size) = x4 ∧ Aside0 (x4 = false → s.size ≤ 4096) := by
  by_cases c : 4096 < s.size
  ·exact ⟨true, ac (by omega), ac c, ⟨fun h => by simp at h⟩⟩
  ·exact ⟨false, ae (by omega), ae c, ⟨fun h => by omega⟩⟩
 obtain ⟨x6, d6⟩ : ∃ x6, (t0 != 6) = x6 := ⟨_, rfl⟩
 have HX6 := aa (show x6 = false → t0 = 6 from fun h => bne_eq_false_iff_eq.1 (d6.trans h))
 clear hW hz hT hU hG hS2
 go_enter Tryz.func3, Tryz.ntmps3
 go_upto_region 4 with (first
  | (refine aw 3 #[.int .i64 wd, .string pre, .string ind, .bool sk] 23 ?_; intro bo hg w1 hz hb; replace HB := aa (below_step HB.out hb); have ZO := aa hz; obtain ⟨o0, o1, o2, o3, p0, p1, p2, p3⟩ := Sp.cz4 ZO.out; clear hb hz hg)
  | (go_at_call 4; refine (fits_calls wd pre ind sk _).mono ?_; rintro e w2 ⟨⟨b, rfl, hpi⟩, hb⟩; replace HB := aa (below_step HB.out hb); replace ZO := aa (blk_below ZO.out hb); have hh : b = false ∨ (b = true ∧ Aside0 (pre.size ≤ 2147483647000 ∧ ind.size ≤ 2147483647000)) := (by cases b; exact .inl rfl; exact .inr ⟨rfl, ⟨by have := hpi rfl; omega⟩⟩); clear hb hpi o0 o1 o2 o3 p0 p1 p2 p3; rcases hh with rfl | ⟨rfl, HPI⟩)
  | (go_at_call 5; refine (HT.out _).mono ?_; rintro e w3 ⟨v2, v3, rfl, ho2, ho3, hb⟩; replace HB := aa (below_step HB.out hb); have HW3 := aa HB.out.size; replace ZO := aa (blk_below ZO.out hb); obtain ⟨A2, c2, rfl⟩ := Kd.R_slice ho2; obtain ⟨A3, c3, rfl⟩ := Kd.R_slice ho3; have iV := aa (Kd.R_reads' ho2); have jD := aa (Kd.R_reads' ho3); clear hb ho2 ho3)
  | (refine aw 5 #[.int .i64 0, .string (⟨#[]⟩ : au), .slice none 0 0, .slice none 0 0] 28 ?_; intro bt hg w4 hz hb; have GT := aa (And.intro (Nat.le_of_eq hg.symm) (show bo ≠ bt by have := blk_lt ZO.out; omega)); replace HB := aa (below_step HB.out hb); replace ZO := aa (blk_below ZO.out hb); have HB3 := aa hb; have ZT := aa hz; obtain ⟨q0, q1, q2, q3, r0, r1, r2, r3⟩ := Sp.cz4 ZT.out; clear hb hz hg))
 ·go_wp2
  go_ret
  exact ⟨rfl, HB.out⟩
 ·have Z5 := aa (blk_put (cs' := #[.int .i64 t0, .string t1, .slice A2 t2.length c2, .slice A3 t3.length c3]) (blk_put (cs' := #[.int .i64 t0, .string t1, .slice A2 t2.length c2, .slice none 0 0]) (blk_put (cs' := #[.int .i64 t0, .string t1, .slice none 0 0, .slice none 0 0]) (blk_put (cs' := #[.int .i64 t0, .string ⟨#[]⟩, .slice none 0 0, .slice none 0 0]) ZT.out 0 (.int .i64 t0) rfl) 1 (.string t1) rfl) 2 (.slice A2 t2.length c2) rfl) 3 (.slice A3 t3.length c3) rfl)
  have g5 := GT.out.1
  have h5 := Nat.le_trans HW3.out g5
  have O5 := aa (blk_far (p := ⟨bt, 3, none⟩) (blk_far (p := ⟨bt, 2, none⟩) (blk_far (p := ⟨bt, 1, none⟩) (blk_far (p := ⟨bt, 0, none⟩) ZO.out GT.out.2 (.int .i64 t0)) GT.out.2 (.string t1)) GT.out.2 (.slice A2 t2.length c2)) GT.out.2 (.slice A3 t3.length c3))
  have B5 := aa (below_set (j := 3) (v := .slice A3 t3.length c3) (below_set (j := 2) (v := .slice A2 t2.length c2) (below_set (j := 1) (v := .string t1) (below_set (j := 0) (v := .int .i64 t0) HB.out h5) h5) h5) h5)
  have B35 := aa (below_set (j := 3) (v := .slice A3 t3.length c3) (below_set (j := 2) (v := .slice A2 t2.length c2) (below_set (j := 1) (v := .string t1) (below_set (j := 0) (v := .int .i64 t0) HB3.out g5) g5) g5) g5)
  generalize ((((w4.setCell ⟨bt, 0, none⟩ (.int .i64 t0)).setCell ⟨bt, 1, none⟩ (.string t1)).setCell ⟨bt, 2, none⟩ (.slice A2 t2.length c2)).setCell ⟨bt, 3, none⟩ (.slice A3 t3.length c3)) = w5 at Z5 O5 B5 B35 ⊢
  clear q0 q1 q2 q3 r0 r1 r2 r3 HB HB3 ZO ZT g5 h5
  obtain ⟨q0, q1, q2, q3, r0, r1, r2, r3⟩ := Sp.cz4 Z5.out
  obtain ⟨o0, o1, o2, o3, p0, p1, p2, p3⟩ := Sp.cz4 O5.out
  cases ok
  ·go_wp2
   go_ret
   exact ⟨rfl, B5.out⟩
  have HU2 := aa (HU.out rfl)
  have HS3 := aa (HS2.out rfl)
  clear HU HS2
  cases x4
  rotate_left
  ·go_wp2
   go_ret
   exact ⟨rfl, B5.out⟩
  cases x6
  rotate_left
  ·go_wp2
   go_ret
   exact ⟨rfl, B5.out⟩
  cases sk
  ·go_wp2_with (go_at_call 6; refine (blank_calls wd pre ind false _ HPI.out.1 HPI.out.2).mono ?_; rintro e w6 ⟨⟨b, rfl, hbl⟩, hb⟩; replace B5 := aa (below_step B5.out hb); replace B35 := aa (below_step B35.out hb); replace Z5 := aa (blk_below Z5.out hb); replace O5 := aa (blk_below O5.out hb); clear hb hbl q0 q1 q2 q3 r0 r1 r2 r3 o0 o1 o2 o3 p0 p1 p2 p3; obtain ⟨q0, q1, q2, q3, r0, r1, r2, r3⟩ := Sp.cz4 Z5.out; obtain ⟨o0, o1, o2, o3, p0, p1, p2, p3⟩ := Sp.cz4 O5.out; cases b)
   all_goals
    go_ret
    exact ⟨rfl, B5.out⟩
  ·have HG2 := aa (fun a b c d => HG.out rfl (hx4.out rfl) (HX6.out rfl) a b rfl c d)
   clear HG hx4 HX6
   go_wp2_with (first
    | (go_at_call 6; refine (blank_calls wd pre ind true _ HPI.out.1 HPI.out.2).mono ?_; rintro e w6 ⟨⟨b, rfl, hbl⟩, hb⟩; replace B5 := aa (below_step B5.out hb); replace B35 := aa (below_step B35.out hb); replace Z5 := aa (blk_below Z5.out hb); replace O5 := aa (blk_below O5.out hb); have hh : b = false ∨ (b = true ∧ Aside0 (Ind pre ∧ Ind ind)) := (by cases b; exact .inl rfl; exact .inr ⟨rfl, ⟨hbl rfl⟩⟩); clear hb hbl q0 q1 q2 q3 r0 r1 r2 r3 o0 o1 o2 o3 p0 p1 p2 p3; obtain ⟨q0, q1, q2, q3, r0, r1, r2, r3⟩ := Sp.cz4 Z5.out; obtain ⟨o0, o1, o2, o3, p0, p1, p2, p3⟩ := Sp.cz4 O5.out; rcases hh with rfl | ⟨rfl, HBl⟩)
    | (go_at_call 7; refine (esc_calls s (by have := HZ.out; omega) _).mono ?_; rintro e w7 ⟨b, rfl, hes, rfl⟩; have hh : b = true ∨ (b = false ∧ Aside0 (∀ q : Nat, q < s.size → at_ s q ≠ 92)) := (by cases b; exact .inr ⟨rfl, ⟨hes rfl⟩⟩; exact .inl rfl); clear hes; rcases hh with rfl | ⟨rfl, HEs⟩)
    | (go_at_call 8; refine (HU2.out A2 c2 A3 c3 _ (Kd.C_below iV.out.2.2 B35.out) iV.out.2.1 (Kd.C_below jD.out.2.2 B35.out) jD.out.2.1).mono ?_; rintro e w8 ⟨⟨b, rfl, huq⟩, hb⟩; replace B5 := aa (below_step B5.out hb); replace B35 := aa (below_step B35.out hb); replace Z5 := aa (blk_below Z5.out hb); replace O5 := aa (blk_below O5.out hb); have hh : b = false ∨ (b = true ∧ Aside0 (UqT ⟨t0, t1, t2, t3⟩)) := (by cases b; exact .inl rfl; exact .inr ⟨rfl, ⟨huq rfl⟩⟩); clear hb huq q0 q1 q2 q3 r0 r1 r2 r3 o0 o1 o2 o3 p0 p1 p2 p3; obtain ⟨q0, q1, q2, q3, r0, r1, r2, r3⟩ := Sp.cz4 Z5.out; obtain ⟨o0, o1, o2, o3, p0, p1, p2, p3⟩ := Sp.cz4 O5.out; rcases hh with rfl | ⟨rfl, HUq⟩)
    | (go_at_call 10; refine (HG2.out HBl.out.1 HBl.out.2 HEs.out HUq.out _ (HW.out.below B5.out)).mono ?_; rintro e w9 ⟨T, rfl, hb, h9⟩; replace B5 := aa (below_step B5.out hb); replace Z5 := aa (blk_below Z5.out hb); have H9 := aa (h9 _ (HW.out.below B5.out)); clear hb h9 q0 q1 q2 q3 r0 r1 r2 r3 o0 o1 o2 o3 p0 p1 p2 p3)
    | (go_at_call 9; refine H9.out.mono ?_; rintro e w10 ⟨v, L, rfl, hL, hSo, hv, hb⟩; replace B5 := aa (below_step B5.out hb); replace Z5 := aa (blk_below Z5.out hb); obtain ⟨q0, q1, q2, q3, r0, r1, r2, r3⟩ := Sp.cz4 Z5.out; obtain ⟨AL, cL, rfl⟩ := Kd.R_slice hv; have HL := aa (And.intro hL hSo); have hvc := (Kd.R_reads' hv).2.2; obtain ⟨nL, hnL⟩ : ∃ nL, (L.map toS).length = nL := ⟨_, rfl⟩; have HN := aa hnL; rw [hnL] at hvc ⊢; have HV := aa hvc; clear hb hv hL hSo hvc hnL))
   ·go_ret
    exact ⟨rfl, B5.out⟩
   ·go_ret
    exact ⟨rfl, B5.out⟩
   ·go_ret
    exact ⟨rfl, B5.out⟩
   ·have HLL := aa (show L.length = nL by rw [← HN.out, List.length_map])
    have hnb := HL.out.1
    have HNb := aa (show nL ≤ 65536 by have := HLL.out; have := HS3.out; omega)
    clear hnb
    go_loopg [59] nL (fun kq v59 wd => ∃ (z : Int) (i : Nat), v59 = .int .i64 z ∧ Aside0 (z = i ∧ i ≤ nL ∧ nL - i ≤ kq) ∧ Aside0 (Drawn0 w10 wd))
    case atStart => exact ⟨0, 0, rfl, ⟨rfl, Nat.zero_le _, by omega⟩, ⟨Drawn0.refl _⟩⟩
    case round =>
     clear q0 q1 q2 q3 r0 r1 r2 r3
     obtain ⟨z, i, rfl, HI, HD⟩ := hrel
     by_cases ci : i < nL
     ·have c1 : decide (z < (nL : Int)) = true := ac (by have := HI.out; omega)
      obtain ⟨y, f1, HY⟩ : ∃ y, IntKind.i64.wrap (z + 1) = y ∧ Aside0 (y = ((i + 1 : Nat) : Int)) := ⟨z + 1, (i64_w _).trans (by unfold wrap64; have := HI.out; have := HNb.out; omega), ⟨by have := HI.out; omega⟩⟩
      by_cases c0 : i = 0
      ·have c2 : decide (z > 0) = false := ae (by have := HI.out; omega)
       clear c0
       go_wp2
       repeat (go_quiet (fail); try go_wp2)
       go_roundg (nL - (i + 1))
       case measure => have := HI.out; omega
       case rel => exact ⟨_, i + 1, rfl, ⟨HY.out, by omega, Nat.le_refl _⟩, ⟨by have := HD.out; repeat (first | exact this | apply Drawn0.step)⟩⟩
      ·have c2 : decide (z > 0) = true := ac (by have := HI.out; omega)
       obtain ⟨x, f2, HXx⟩ : ∃ x, IntKind.i64.wrap (z - 1) = x ∧ Aside0 (x = ((i - 1 : Nat) : Int)) := ⟨z - 1, (i64_w _).trans (by unfold wrap64; have := HI.out; have := HNb.out; omega), ⟨by have := HI.out; omega⟩⟩
       have P0 : 0 ≤ z := by have := HI.out.1; omega
       have P1 : z < (nL : Int) := ab c1
       have P2 : 0 ≤ x := by have := HXx.out; omega
       have P3 : x < (nL : Int) := by have := HXx.out; omega
       obtain ⟨m, rfl⟩ := HD.out.out
       obtain ⟨ad, e1, _, _, k1, _⟩ := at_T41 (Kd.C_drewN HV.out m) x P2 P3
       obtain ⟨ad', e2, _, _, k2, _⟩ := at_T41 (Kd.C_drewN HV.out m) z P0 P1
       subst e1
       injection e2 with e2
       subst e2
       obtain ⟨s1, gV⟩ : ∃ s1, (rd_T41 (L.map toS) x).f0.f2 = s1 := ⟨_, rfl⟩
       obtain ⟨s2, eT⟩ : ∃ s2, (rd_T41 (L.map toS) z).f0.f2 = s2 := ⟨_, rfl⟩
       rw [gV] at k1
       rw [eT] at k2
       have hlt : Op.bytesLess s1.toList s2.toList = true := by
        have := HL.out.2 (i - 1) (by have := HLL.out; omega)
        have key : ∀ (j : Nat) (hj : j < L.length), (rd_T41 (L.map toS) (j : Int)).f0.f2 = (L[j]).1.str := fun j hj => by
         unfold rd_T41
         rw [Int.toNat_natCast, List.getD_eq_getElem?_getD, List.getElem?_map, List.getElem?_eq_getElem hj]
         rfl
        have hl := HLL.out
        rw [← key _ (by omega), ← key _ (by omega)] at this
        rw [← gV, ← eT, HXx.out, HI.out.1]
        rwa [show i - 1 + 1 = i by omega] at this
       replace P0 := af P0
       replace P1 := af P1
       replace P2 := af P2
       replace P3 := af P3
       clear c0 gV eT
       go_wp2
       go_region_held3 (fun w' => w'.cell? ⟨(ad.add (x.toNat * 10)).block, (ad.add (x.toNat * 10)).off + 2, none⟩ = some (.string s1) ∧ w'.cell? ⟨(ad.add (z.toNat * 10)).block, (ad.add (z.toNat * 10)).off + 2, none⟩ = some (.string s2)) (exact ⟨k1, k2⟩) (fail)
       go_wp2
       repeat (go_quiet (fail); try go_wp2)
       go_roundg (nL - (i + 1))
       case measure => have := HI.out; omega
       case rel => exact ⟨_, i + 1, rfl, ⟨HY.out, by omega, Nat.le_refl _⟩, ⟨by have h0 : Drawn0 w10 (w10.drewN m) := ⟨m, rfl⟩; repeat (first | exact h0 | exact Drawn0.refl _ | apply Drawn0.step)⟩⟩
     ·have g2 : nL = t2.length := by have := HL.out.1; have := HLL.out; omega
      subst g2
      have c1 : decide (z < (t2.length : Int)) = false := ae (by have := HI.out; omega)
      obtain ⟨m, rfl⟩ := HD.out.out
      obtain ⟨q0, q1, q2, q3, r0, r1, r2, r3⟩ := Sp.cz4 (blk_drewN Z5.out m)
      clear ci
      go_wp2
      go_ret
      exact ⟨rfl, pw_below_drewN B5.out m⟩
end Go.Proofs.YtmpdhdnoohmndaaGreatDoor.Pr

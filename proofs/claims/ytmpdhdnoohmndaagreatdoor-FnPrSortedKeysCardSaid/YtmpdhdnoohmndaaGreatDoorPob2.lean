import Derived.Test.YtmpdhdnoohmndaaGreatDoorZip
import Derived.Test.YtmpdhdnoohmndaaGreatDoorPob1
namespace Go.Proofs.YtmpdhdnoohmndaaGreatDoor.Pr
open Go.RowKit Go.Proofs.YtmpdhdnoohmndaaGreatDoorW.PrintWords Go.Proofs.YtmpdhdnoohmndaaGreatDoorW.PrintLast Go.Proofs.YtmpdhdnoohmndaaGreatDoorW.PrintMore Sp Gj So
set_option linter.unusedVariables false
set_option linter.unusedSimpArgs false
set_option maxHeartbeats 8000000 in
set_option maxRecDepth 100000 in
theorem obj_calls {jl : List Int} {wd : Int} {pre ind : au} {V : Nat → Nat → Prop} (hA : AnyC V jl wd pre ind) (hp : Bl (bytesOf pre) ∧ pre.size ≤ 64) (hi : Bl (bytesOf ind) ∧ ind.size ≤ 64) {w0 w : World} {P0 : Nat → Prop} {u : Value} {l : List Int} {J cj : Nat} (HB : Bs w0 w P0 w u l) (HJ : Js w P0 J cj jl) (b k tabs : Nat) (nl : Int) (ns : List (List Int)) {x y : Int}
  (hbk : b < k) (hk : k < jl.length) (hM : JM jl V (b + 1) k ns) (hD : Diff ns) (hc : jl.getD k 0 = 125) (hl : l.length + 800000 * (jl.length - b) ≤ 8000000000) (ht : tabs + jl.length ≤ 5000 + b) (hx : x = b) (hy : y = tabs) :
  Calls Tryz.prog 49 #[u, .slice (some ⟨J, 0, none⟩) jl.length cj, .int .i64 x, .int .u8 123, .int .u8 125, .bool true, .int .i64 wd, .string pre, .string ind, .bool true, .int .i64 y, .int .i64 nl, .int .i64 (-1)] w
   fun r w' => ∃ (v1 : Value) (out : List Int) (nl' : Int), r = .returned (.tuple #[v1, .int .i64 ((k + 1 : Nat) : Int), .int .i64 nl', .bool false]) ∧ Bs w0 w P0 w' v1 (l ++ out) ∧ ObjO ns out ∧ out.length + 400000 ≤ 800000 * (k + 1 - b) := by
 subst hx hy
 have h00 := HB.size
 have hjc := HJ.hc
 have HS := aa HB
 have HJs := aa HJ
 have HM0 := aa hM
 have HP := aa (And.intro hp hi)
 have HD := aa hD
 have HL := aa (And.intro hl ht)
 have HC := aa hc
 have L0 := aa (show l.length ≤ 100000000000000 by omega)
 obtain ⟨bw, hbw⟩ : ∃ bw : Bool, decide (wd > 0) = bw := ⟨_, rfl⟩
 have hu114 := Tryz.underlying114
 clear HB HJ hM hp hi hD hl ht hc
 go_enter Tryz.func49, Tryz.ntmps49
 go_upto_if 38 with (fail)
 go_cut [0, 2] from 39 to 96 (fun v0 v2 wc => v0 = u ∧ v2 = .int .i64 b ∧ Aside0 (w = wc))
 case first =>
  cases bw
  ·go_wp2
   go_meet
   case rel => exact ⟨rfl, rfl, ⟨rfl⟩⟩
  ·go_wp2
   go_meet
   case rel => exact ⟨rfl, rfl, ⟨rfl⟩⟩
 case rest =>
 rename_i wc hcut
 obtain ⟨rfl, rfl, HW⟩ := hcut
 obtain rfl := HW.out
 clear HW
 go_wp2_with ((with_reducible refine gate_builtin (b := .append) (xs := #[.tmp 97, .tmp 99]) rfl ?_); at_builtin; refine app1 97 99 123 HS.out L0.out ?_; intro v1 w1 hn1 hap1; obtain ⟨w3, hmk, hb3, hp3⟩ := mk_pairs hn1; have HB := aa hb3; have HPv := aa hp3; clear hn1 hap1 hb3 hp3)
 go_loopg [0, 2, 9, 11, 34, 35] (k + 1) (fun kq v0 v2 v9 v11 v34 v35 W => ∃ (q m : Nat) (z M : Int) (B : List Int) (ps : List S118) (nms sgs ns' : List (List Int)), v2 = .int .i64 q ∧ v9 = .bool true ∧ v11 = .int .i64 z ∧ v35 = .int .i64 M ∧ Aside0 (M = m) ∧ Aside0 (nms.length = m ∧ k - q < kq ∧ b < q ∧ q ≤ k) ∧ Aside0 (JM jl V q k ns') ∧ Aside0 (ns = nms ++ ns') ∧ Aside0 (Acc jl l b q B ps nms sgs) ∧ Aside0 (Bs w0 w P0 W v0 B) ∧ Aside0 (Pv w W v0 v34 ps))
 case atStart => exact ⟨b + 1, 0, nl, 0, _, _, _, _, ns, by simp, rfl, rfl, rfl, ⟨rfl⟩, ⟨rfl, by omega, by omega, by omega⟩, HM0, ⟨rfl⟩, ⟨Acc.start jl l b⟩, HB, HPv⟩
 case round =>
  clear HM0 HS HB HPv
  obtain ⟨q, m, z, M, B, ps, nms, sgs, ns', rfl, rfl, rfl, rfl, HMi, HQ, HJM, HN, HAc, HB, HPv⟩ := hrel
  have b1 : (q : Int) < jl.length := by have := HQ.out; omega
  have b2 : decide ((q : Int) < (jl.length : Int)) = true := ac b1
  have HJw := aa (HJs.out.kept HB.out.k)
  have c0 := HJw.out.c q (by omega)
  rcases HJM.out.step with ⟨e1, e2⟩ | ⟨e1, e2, e3⟩ | ⟨ne, b', e, ns2, e1, e2, e3, e4, e5, e6, e7⟩
  ·as_aux_lemma =>
    subst e1 e2
    have hm := HQ.out.1
    rw [HC.out] at c0
    rw [List.append_nil] at HN
    have HMm := aa hm
    have hlq := HAc.out.lq
    by_cases cm : m = 0
    ·obtain rfl : B = l ++ [123] := by
      have := HAc.out.eq
      rw [hm, cm, if_pos rfl] at this
      exact List.append_cancel_right (bs := [10]) (by simpa [JJ] using this)
     have e0 : ps.length = 0 := by have := HAc.out.lp; omega
     obtain ⟨A, c, rfl⟩ := Kd.R_slice HPv.out
     rw [e0]
     have gm : decide (M > 0) = false := ae (by have := HMi.out; omega)
     have L1 := aa (show (l ++ [123]).length ≤ 100000000000000 by rw [List.length_append, List.length_singleton]; have := HL.out; omega)
     have HE := aa cm
     obtain ⟨g, n, c2, m2, rfl, hn, hm2, t1, t2, t3, t4, t5, t6, t7⟩ := HB.out.tail (by have := HL.out; omega)
     clear hn hm2 hm cm e0 HPv
     go_wp2_with (first
      | (go_at_call 63; refine (sp0_calls _ _ A c).mono ?_; rintro r w4 ⟨rfl, hw⟩; subst hw)
      | ((with_reducible refine gate_builtin (b := .append) (xs := #[.tmp 166, .tmp 168]) rfl ?_); at_builtin; refine app1 166 168 125 HB.out L1.out ?_; intro v6 w6 hn1 hap1; have HN1 := aa hn1; clear hn1 hap1))
     refine bodyPost_ret (results_list (rs := [.tmp 26, .tmp 27, .tmp 28, .tmp 29]) rfl (by simp) (.tmp (.tmp (.tmp (.tmp .nil))))) rfl ?_
     refine ⟨v6, [123, 125], _, by first | rfl | simp, by have := HN1.out; rw [List.append_assoc] at this; exact this, .inl ⟨?_, rfl⟩, by clear t1 t2 t3 t4 t5 t6 t7; simp; omega⟩
     rw [HN.out]; exact List.length_eq_zero_iff.1 (by rw [HMm.out, HE.out])
    ·have hps : ps.length = m := by have := HAc.out.lp; omega
     obtain ⟨P, cp, rfl, rows, fz⟩ := HPv.out.rows (by omega)
     rw [hps] at rows fz
     rw [hps]
     have hPo := HPv.out.own (k := P) rfl
     obtain ⟨Ab, cb, rfl⟩ := Kd.R_slice HB.out.r
     have hS := HAc.out.seg_ hm (by omega)
     have hBl : B.length ≤ 8000000000 := by have := HAc.out.len; have := HL.out; omega
     have hsp := sortPairs_calls (c := cp) (w0 := w0) (w := wr) (P0 := fun k => some k = (Value.slice Ab B.length cb).ownBlock) HB.out.b (Kd.R_reok rfl HB.out.r (fun k e => e.symm)) (HAc.out.px hm (by rw [HN.out] at HD; exact HD.out) HJw.out (by omega)) (by omega) (by have := HJs.out.lt; omega) rows fz (fun e => hPo.2.2 e.symm) hPo.2.1 (by omega) (by omega) (by omega) hS
     have HSP := aa hsp
     have HPo := aa hPo.1
     have HS2 := aa hS
     have gm : decide (M > 0) = true := ac (by have := HMi.out; omega)
     obtain ⟨m1, hm1⟩ : ∃ m1, m = m1 + 1 := ⟨m - 1, by omega⟩
     have HM1 := aa hm1
     have HBl := aa hBl
     have ht2 : tabs ≤ 5000 := by have := HL.out; omega
     have HTb := aa ht2
     clear hsp hS hPo rows fz cm hm1 hm hBl ht2
     go_wp2_with (first
      | (go_at_call 63; with_reducible refine HSP.out.mono ?_; rintro r w4 ⟨v4, D, rfl, p1, s1, hb4⟩; have hb5 := HB.out.then2 HPo.out hb4; obtain ⟨Y, d, hY, hd, hjl, hYl⟩ := sorted_tail HAc.out HMm.out HM1.out p1; rw [hY] at hb5; have hYb : Y.length ≤ 8000000000 := (by have := HBl.out; omega); have d1 : (d == 32) = false := ag (by omega); have LY := aa (lenc d hYb (by omega : 8000000000 + 1 ≤ 9000000000)); have LY2 := aa (lenc 10 LY.out (by omega : 9000000000 + 1 ≤ 10000000000)); have HB5 := aa hb5; have HY := aa (And.intro hY hjl); have HD2 := aa (And.intro p1 s1); obtain ⟨g1, n1, c1, m3, rfl, hn, hm2, t1, t2, t3, t4, t5, t6, t7⟩ := hb5.tail (Nat.le_trans hYb (by decide)); clear hb4 hb5 hY hd hjl hYl hYb p1 s1 hn hm2)
      | ((with_reducible refine gate_builtin (b := .append) (xs := #[.tmp 150, .tmp 151]) rfl ?_); at_builtin; refine app1 150 151 10 HB5.out (Nat.le_trans LY.out (by decide)) ?_; intro v6 w6 hn1 hap1; clear t1 t2 t3 t4 t5 t6 t7 d1; obtain ⟨g2, n2, c3, m4, rfl, hn, hm2, t1, t2, t3, t4, t5, t6, t7⟩ := hn1.tail (Nat.le_trans LY.out (by decide)); have HB6 := aa hn1; clear hn1 hap1 hn hm2)
      | (go_at_call 64; clear t1 t2 t3 t4 t5 t6 t7; refine (tabs_calls HB6.out.in_ pre ind tabs rfl HP.out.1 HP.out.2 (Nat.le_trans HTb.out (by decide)) LY2.out).mono ?_; rintro r w7 ⟨v7, t, rfl, hbt, htl, hb7⟩; have HB7 := aa (HB6.out.then_ hb7); have HT := aa (And.intro hbt htl); have LT := aa (show (Y ++ [d] ++ [10] ++ t).length ≤ 100000000000000 by rw [List.length_append]; have := LY2.out; have := HTb.out; omega); clear hb7 hbt htl)
      | ((with_reducible refine gate_builtin (b := .append) (xs := #[.tmp 166, .tmp 168]) rfl ?_); at_builtin; refine app1 166 168 125 HB7.out LT.out ?_; intro v8 w8 hn1 hap1; have HN1 := aa hn1; clear hn1 hap1))
     refine bodyPost_ret (results_list (rs := [.tmp 26, .tmp 27, .tmp 28, .tmp 29]) rfl (by simp) (.tmp (.tmp (.tmp (.tmp .nil))))) rfl ?_
     have hn1 := HN1.out
     rw [← HY.out.1, show l ++ [123, 10] ++ joinN m (fun i => sgs.getD (D i) []) ++ [10] ++ t ++ [125] = l ++ (123 :: (10 :: (joinN m (fun i => sgs.getD (D i) []) ++ (10 :: t)) ++ [125])) by simp] at hn1
     refine ⟨v8, _, _, by first | rfl | simp, hn1, .inr ⟨fun i => sgs.getD i [], D, t, ?_, ?_, HT.out.1, ?_, ?_, ?_⟩, ?_⟩
     ·rw [HN.out, HMm.out, HM1.out]; exact Nat.succ_pos _
     ·rw [HN.out, HMm.out]
     ·rw [HN.out]; exact HAc.out.seg
     ·rw [HN.out, HMm.out]; exact HD2.out.1
     ·rw [HN.out, HMm.out]; exact HD2.out.2
     ·have a1 := HY.out.2
      have a2 := HAc.out.len
      have a3 := HT.out.2
      have a4 := HTb.out
      simp only [List.length_cons, List.length_append, List.length_nil]
      omega
  ·as_aux_lemma =>
    have HM := aa e3
    have HQ2 := aa e1
    obtain ⟨v, hv⟩ : ∃ v, jl.getD q 0 = v := ⟨_, rfl⟩
    rw [hv] at c0 e2
    clear hv e1 e3
    rcases e2 with h | rfl | rfl
    ·have d0 : decide (v ≤ 32) = true := ac h
     clear h
     go_wp2
     go_roundg (k - q)
     case measure => have := HQ.out; omega
     case rel => exact ⟨q + 1, m, z, M, B, ps, nms, sgs, ns', Z37, rfl, rfl, rfl, HMi, ⟨HQ.out.1, by have := HQ.out; have := HQ2.out; omega, by have := HQ.out; omega, HQ2.out⟩, HM, HN, ⟨HAc.out.skip⟩, HB, HPv⟩
    all_goals
     go_wp2
     go_roundg (k - q)
     case measure => have := HQ.out; omega
     case rel => exact ⟨q + 1, m, z, M, B, ps, nms, sgs, ns', Z37, rfl, rfl, rfl, HMi, ⟨HQ.out.1, by have := HQ.out; have := HQ2.out; omega, by have := HQ.out; omega, HQ2.out⟩, HM, HN, ⟨HAc.out.skip⟩, HB, HPv⟩
  ·as_aux_lemma =>
    have HJn := aa e1
    have HV := aa (And.intro e2 (And.intro e3 e4))
    have HM := aa (And.intro e5 e7)
    have hle : ne < e ∧ q < ne ∧ ne ≤ jl.length ∧ e ≤ k := by obtain ⟨r, a1, a2, a3, _⟩ := e1; have := e2.1; omega
    have HLe := aa hle
    obtain ⟨r, a1, a2, rfl, a4, a5, a6⟩ := e1
    rw [a4] at c0
    have HA5 := aa (And.intro a5 a6)
    have hm := HQ.out.1
    have hXl : B.length ≤ 8000000000 := by have := HAc.out.len; have := HL.out; omega
    obtain ⟨bm, hbm⟩ : ∃ bm : Bool, decide (M > 0) = bm := ⟨_, rfl⟩
    obtain ⟨bq, hbq⟩ : ∃ bq : Bool, (wd != -1) = bq := ⟨_, rfl⟩
    obtain ⟨X, d, hXd, hd32, hXB, hB1⟩ : ∃ X d, X ++ [d] ++ [10] = B ++ (if nms.length = 0 then [10] else [44, 10]) ∧ d ≠ 32 ∧ (bm = false → X ++ [d] = B) ∧ (bm = true → X = B ∧ d = 44) := by
     by_cases cm : m = 0
     ·refine ⟨l, 123, ?_, by omega, fun _ => ?_, fun h => ?_⟩
      ·rw [HAc.out.eq, hm, cm]; simp [JJ]
      ·have := HAc.out.eq
       rw [hm, cm, if_pos rfl] at this
       exact (List.append_cancel_right (bs := [10]) (by simpa [JJ] using this)).symm
      ·rw [h] at hbm; have := ab hbm; have := HMi.out; omega
     ·refine ⟨B, 44, by rw [if_neg (by omega)]; simp, by omega, fun h => ?_, fun _ => ⟨rfl, rfl⟩⟩
      rw [h] at hbm; have := of_decide_eq_false hbm; have := HMi.out; omega
    have hXl2 : X.length ≤ 8000000000 := by
     have := congrArg List.length hXd
     rw [List.length_append, List.length_append, List.length_append] at this
     split at this <;> simp at this <;> omega
    have HXd := aa hXd
    have HB1 := aa (And.intro hXB hB1)
    have LB := aa hXl
    have d1 : (d == 32) = false := ag hd32
    have LY := aa (lenc d hXl2 (by omega : 8000000000 + 1 ≤ 9000000000))
    have LY2 := aa (lenc 10 LY.out (by omega : 9000000000 + 1 ≤ 9100000000))
    have HX2 := aa hXl2
    clear e2 e3 e4 e5 e6 e7 a4 a5 a6 hle hXl hXl2 hd32 hXd hXB hB1 hm HJM
    go_upto_if 186 with (fail)
    go_cut [0] from 187 to 198 (fun v0 wc => Aside0 (Bs w0 w P0 wc v0 (X ++ [d])) ∧ Aside0 (Pv w wc v0 u34 ps))
    case first =>
     clear d1
     cases bm
     ·have HB3 := aa (HB1.out.1 rfl)
      go_wp2
      go_meet
      case rel => rw [HB3.out]; exact ⟨HB, HPv⟩
     ·obtain ⟨rfl, rfl⟩ := HB1.out.2 rfl
      cases bq
      all_goals
       go_wp2_with ((with_reducible refine gate_builtin (b := .append) (xs := #[.tmp 187, .tmp 188]) rfl ?_); at_builtin; refine app1 187 188 44 HB.out (Nat.le_trans LB.out (by decide)) ?_; intro v6 w6 hn1 hap1; have HN1 := aa hn1; have HN2 := aa (HPv.out.stp hap1.stp); clear hn1 hap1)
       go_meet
       case rel => exact ⟨HN1, HN2⟩
    case rest =>
    clear HB HPv
    rename_i wc hcut
    obtain ⟨HB, HPv⟩ := hcut
    have h4 : e ≤ 4096 := by have := HLe.out; omega
    obtain ⟨p', hp'⟩ : ∃ p', e = p' + 1 := ⟨e - 1, by have := HLe.out; omega⟩
    have gp : (e : Int) - 1 = (p' : Int) := by omega
    have HE := aa hp'
    have HT1 := aa (show tabs < 5001 by have := HL.out; have := HLe.out; omega)
    have LA := aa (show ∀ t : List Int, t.length ≤ 330000 → (X ++ [d] ++ [10] ++ t).length ≤ 10000000000 ∧ (X ++ [d] ++ [10] ++ t ++ (jl.take (r + 1)).drop q).length ≤ 100000000000 ∧ (X ++ [d] ++ [10] ++ t ++ (jl.take (r + 1)).drop q ++ [58]).length ≤ 100000000000 ∧ (X ++ [d] ++ [10] ++ t ++ (jl.take (r + 1)).drop q ++ [58] ++ [32]).length + 800000 * (jl.length - b') ≤ 8000000000 by
     intro t ht
     have e1 := congrArg List.length HXd.out
     have e2 : (if nms.length = 0 then [10] else [44, 10] : List Int).length ≤ 2 := by split <;> simp
     have e3 : ((jl.take (r + 1)).drop q).length ≤ r + 1 - q := Z41
     have e4 := HAc.out.len
     have e5 := HL.out
     have e6 := HV.out.1.1
     have e7 := HLe.out
     have e8 := HQ.out
     have e9 := HV.out.1.2.1
     simp only [List.length_append, List.length_cons, List.length_nil] at e1 ⊢
     clear hbk hk h00 b1 b2 c0 hjc gp
     refine ⟨?_, ?_, ?_, ?_⟩ <;> omega)
    go_wp2_with (first
     | (refine aw 36 #[.int .i64 0, .int .i64 0, .int .i64 0, .int .i64 0] 118 ?_; intro b3 hg w5 hz hb; have HX := aa (Bx.new HB.out HPv.out hg.symm hz); replace HPv := aa (HPv.out.stp (Stp.below hb)); replace HB := aa (HB.out.below hb); clear hz hb hg; obtain ⟨g1, n1, c1, m3, rfl, hn, hm2, t1, t2, t3, t4, t5, t6, t7⟩ := HB.out.tail (Nat.le_trans HX2.out (by decide)); clear hn hm2)
     | ((with_reducible refine gate_builtin (b := .append) (xs := #[.tmp 212, .tmp 213]) rfl ?_); at_builtin; refine app1 212 213 10 HB.out (Nat.le_trans LY.out (by decide)) ?_; intro v6 w6 hn1 hap1; clear t1 t2 t3 t4 t5 t6 t7; replace HX := aa (HX.out.stp hap1.stp); replace HPv := aa (HPv.out.stp hap1.stp); replace HB := aa hn1; obtain ⟨A6, c6, rfl⟩ := Kd.R_slice hn1.r; obtain ⟨n2, hn2⟩ : ∃ n2, (X ++ [d] ++ [10]).length = n2 := ⟨_, rfl⟩; have HN2 := aa hn2; rw [hn2] at HX HPv HB ⊢; obtain ⟨z0, z1, z2, z3, f0, f1, f2, f3⟩ := cz4 HX.out.z; clear hn1 hap1 hn2)
     | (go_at_call 64; clear z0 z1 z2 z3 f0 f1 f2 f3; replace HB := aa ((HB.out.far h00 HX.out.g HX.out.nv 0 (.int .i64 q)).far h00 HX.out.g HX.out.nv 2 (.int .i64 n2)); replace HPv := aa ((HPv.out.far HX.out.np 0 (.int .i64 q)).far HX.out.np 2 (.int .i64 n2)); replace HX := aa ((HX.out.put (c' := #[.int .i64 q, .int .i64 0, .int .i64 0, .int .i64 0]) 0 (.int .i64 q) rfl).put (c' := #[.int .i64 q, .int .i64 0, .int .i64 n2, .int .i64 0]) 2 (.int .i64 n2) rfl); refine (tabs_calls HB.out.in_ pre ind (tabs + 1) Z56 HP.out.1 HP.out.2 (Nat.le_trans HT1.out (by decide)) (Nat.le_trans LY2.out (by decide))).mono ?_; rintro r7 w7 ⟨v7, t, rfl, hbt, htl, hb7⟩; replace HX := aa (HX.out.stp hb7.stp); replace HPv := aa (HPv.out.stp hb7.stp); replace HB := aa (HB.out.then_ hb7); have HT := aa hbt; have HTl := aa (show t.length ≤ 330000 by have := HT1.out; omega); clear hb7 hbt htl)
     | (go_at_call 46; refine (pstr_calls HB.out.in_ (HJs.out.in_ HB.out) q r _ rfl a1 a2 (fun r g1 g2 => (HA5.out.1 r g1 g2).1) HA5.out.2 (LA.out t HTl.out).1).mono ?_; rintro r8 w8 ⟨v8, rfl, hb8⟩; replace HX := aa (HX.out.stp hb8.stp); replace HPv := aa (HPv.out.stp hb8.stp); replace HB := aa (HB.out.then_ hb8); obtain ⟨E, hE⟩ : ∃ E : Int, ((r + 1 : Nat) : Int) = E := ⟨_, rfl⟩; have HE2 := aa hE; rw [hE]; obtain ⟨z0, z1, z2, z3, f0, f1, f2, f3⟩ := cz4 HX.out.z; clear hb8 hE)
     | ((with_reducible refine gate_builtin (b := .append) (xs := #[.tmp 246, .tmp 247]) rfl ?_); at_builtin; clear z0 z1 z2 z3 f0 f1 f2 f3; replace HB := aa (HB.out.far h00 HX.out.g HX.out.nv 1 (.int .i64 E)); replace HPv := aa (HPv.out.far HX.out.np 1 (.int .i64 E)); replace HX := aa (HX.out.put (c' := #[.int .i64 q, .int .i64 E, .int .i64 n2, .int .i64 0]) 1 (.int .i64 E) rfl); refine app1 246 247 58 HB.out (Nat.le_trans (LA.out t HTl.out).2.1 (by decide)) ?_ (hx := by rw [szs]; rfl); intro v9 w9 hn1 hap1; replace HX := aa (HX.out.stp hap1.stp); replace HPv := aa (HPv.out.stp hap1.stp); replace HB := aa hn1; clear hn1 hap1)
     | ((with_reducible refine gate_builtin (b := .append) (xs := #[.tmp 250, .tmp 251]) rfl ?_); at_builtin; refine app1 250 251 32 HB.out (Nat.le_trans (LA.out t HTl.out).2.2.1 (by decide)) ?_; intro v10 w10 hn1 hap1; replace HX := aa (HX.out.stp hap1.stp); replace HPv := aa (HPv.out.stp hap1.stp); replace HB := aa hn1; clear hn1 hap1)
     | (go_at_call 33; refine (hA HB.out.in_ (HJs.out.in_ HB.out) (r + 1) b' e (tabs + 1) _ (-1) true HV.out.1 HV.out.2.1 (.inl ⟨rfl, rfl⟩) (LA.out t HTl.out).2.2.2 (by have := HL.out; have := HV.out.1.1; have := HLe.out; have := HQ.out; omega) HE2.out.symm Z56).mono ?_; rintro r11 w11 ⟨v11, out, e', nl', ok, rfl, hb11, hpo⟩; obtain ⟨po1, rfl, po3⟩ := hpo (.inr rfl); replace HX := aa (HX.out.stp hb11.stp); replace HPv := aa (HPv.out.stp hb11.stp); replace HB := aa (HB.out.then_ hb11); have HPO := aa (And.intro po1 po3); clear hpo po1 po3 hb11; obtain ⟨pQ, c11, rfl⟩ := Kd.R_slice HB.out.r; obtain ⟨B2, hB2⟩ : ∃ B2, X ++ [d] ++ [10] ++ t ++ (jl.take (r + 1)).drop q ++ [58] ++ [32] ++ out = B2 := ⟨_, rfl⟩; have HB2 := aa hB2; rw [hB2] at HX HPv HB ⊢; obtain ⟨n11, hn11⟩ : ∃ n11, B2.length = n11 := ⟨_, rfl⟩; have HN11 := aa hn11; rw [hn11] at HX HPv HB ⊢; obtain ⟨z0, z1, z2, z3, f0, f1, f2, f3⟩ := cz4 HX.out.z; have g7 : n2 ≤ n11 := (by rw [← hn11, ← hB2, ← HN2.out]; simp only [List.length_append]; omega); have g8 : (n11 < n2) = False := eq_false (by omega); have g9 : decide ((n2 : Int) > (n11 : Int)) = false := ae (by omega); have g10 : decide ((q : Int) > E) = false := ae (by have := HE2.out; omega); clear hB2 hn11)
     | ((with_reducible refine gate_builtin (b := .append) (xs := #[.tmp 303, .tmp 305]) rfl ?_); at_builtin; clear z0 z1 z2 z3 f0 f1 f2 f3; replace HB := aa (HB.out.far h00 HX.out.g HX.out.nv 3 (.int .i64 n11)); replace HPv := aa (HPv.out.far HX.out.np 3 (.int .i64 n11)); refine appP 303 305 ⟨q, E, n2, n11⟩ HB.out h00 HPv.out (by have := HAc.out.lp; have := HAc.out.lq; have := HLe.out; omega) ?_ (hx := by rw [szs]; rfl); intro pv1 w12 hb12 hp12; replace HB := aa hb12; replace HPv := aa hp12; clear hb12 hp12))
    go_roundg (k - q)
    case measure => have := HQ.out; omega
    case rel =>
     have hv := HPO.out.2
     have hb := HV.out.1.1
     have hl := HLe.out
     refine ⟨e, m + 1, _, _, B2, ps ++ [⟨q, E, n2, n11⟩], _, _, ns2, ?_, rfl, rfl, rfl, ⟨?_⟩, ⟨?_, ?_, ?_, hl.2.2.2⟩, ⟨HM.out.1⟩, ⟨?_⟩, ⟨HAc.out.next HJn.out hl.1 hjc.2.2 HT.out HTl.out HPO.out.1 (by omega) HXd.out HB2.out.symm rfl HE2.out.symm (by rw [HN2.out]) (by rw [HN11.out])⟩, HB, HPv⟩
     ·first | (congr 1; have := HE.out; unfold wrap64; omega) | (have := HE.out; simp; omega)
     ·have := HMi.out; have := HAc.out.lq; have := HQ.out.1; unfold wrap64; omega
     ·rw [List.length_append, HQ.out.1]; rfl
     ·have := HQ.out; omega
     ·have := HQ.out; omega
     ·rw [HN.out, HM.out.2, List.append_assoc]; rfl
end Go.Proofs.YtmpdhdnoohmndaaGreatDoor.Pr

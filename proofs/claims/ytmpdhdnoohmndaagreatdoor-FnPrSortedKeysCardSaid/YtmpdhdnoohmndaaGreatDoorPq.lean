import Derived.Test.YtmpdhdnoohmndaaGreatDoorZip
import Derived.Test.YtmpdhdnoohmndaaGreatDoorPob1
namespace Go.Proofs.YtmpdhdnoohmndaaGreatDoor.Pr
open Go.RowKit Go.Proofs.YtmpdhdnoohmndaaGreatDoorW.PrintWords Go.Proofs.YtmpdhdnoohmndaaGreatDoorW.PrintLast Go.Proofs.YtmpdhdnoohmndaaGreatDoorW.PrintMore Sp Gj So
set_option linter.unusedVariables false
set_option linter.unusedSimpArgs false
set_option maxHeartbeats 8000000 in
set_option maxRecDepth 100000 in
theorem flat_calls {jl : List Int} {wd : Int} {pre ind : au} {V : Nat → Nat → Prop} (hA : AnyC V jl wd pre ind) (hVf : ∀ b e, V b e → 32 < jl.getD b 0 ∧ jl.getD b 0 ≠ 93) {w0 w : World} {P0 : Nat → Prop} {u : Value} {l : List Int} {J cj : Nat} (HB : Bs w0 w P0 w u l) (HJ : Js w P0 J cj jl) (b k tabs : Nat) (nl max : Int) {x y : Int}
  (hbk : b < k) (hk : k < jl.length) (hM : JE jl V (b + 1) k) (hc : jl.getD k 0 = 93) (hmx : 3 < max) (hwd : 0 < wd) (hl : l.length + 800000 * (jl.length - b) ≤ 8000000000) (ht : tabs + jl.length ≤ 5000 + b) (hx : x = b) (hy : y = tabs) :
  Calls Tryz.prog 49 #[u, .slice (some ⟨J, 0, none⟩) jl.length cj, .int .i64 x, .int .u8 91, .int .u8 93, .bool false, .int .i64 wd, .string pre, .string ind, .bool true, .int .i64 y, .int .i64 nl, .int .i64 max] w (Post w0 w P0 l b (k + 1) false) := by
 subst hx hy
 have h00 := HB.size
 have hjc := HJ.hc
 have HS := aa HB
 have HJs := aa HJ
 have HM0 := aa hM
 have HL := aa (And.intro hl ht)
 have HC := aa hc
 have HX := aa (And.intro hmx hwd)
 have HVf := aa hVf
 have L0 := aa (show l.length ≤ 100000000000000 by omega)
 have gw : decide (wd > 0) = true := ac hwd
 have gw2 : (wd != -1) = true := ai (by omega)
 have gx : (max != -1) = true := ai (by omega)
 clear HB HJ hM hl ht hc hmx hwd hVf
 go_enter Tryz.func49, Tryz.ntmps49
 go_wp2_with ((with_reducible refine gate_builtin (b := .append) (xs := #[.tmp 97, .tmp 99]) rfl ?_); at_builtin; refine app1 97 99 91 HS.out L0.out ?_; intro v1 w1 hn1 hap1; have HB := aa hn1; clear hn1 hap1)
 go_loopg [0, 2, 9, 11, 35] (k + 1) (fun kq v0 v2 v9 v11 v35 W => ∃ (q : Nat) (z M : Int) (body : List Int), v2 = .int .i64 q ∧ v9 = .bool true ∧ v11 = .int .i64 z ∧ v35 = .int .i64 M ∧ Aside0 (0 ≤ M ∧ M + b < q) ∧ Aside0 (k - q < kq ∧ b < q ∧ q ≤ k) ∧ Aside0 (JE jl V q k) ∧ Aside0 (LX body ∧ body.length + 1 + 400000 ≤ 800000 * (q - b)) ∧ Aside0 (Bs w0 w P0 W v0 (l ++ 91 :: body)))
 case atStart => exact ⟨b + 1, nl, 0, [], by simp, rfl, rfl, rfl, ⟨by omega, by omega⟩, ⟨by omega, by omega, by omega⟩, HM0, ⟨.nil, by show 0 + 1 + 400000 ≤ _; omega⟩, HB⟩
 case round =>
  clear HM0 HS HB
  obtain ⟨q, z, M, body, rfl, rfl, rfl, rfl, HMi, HQ, HJM, HAc, HB⟩ := hrel
  have b1 : (q : Int) < jl.length := by have := HQ.out; omega
  have b2 : decide ((q : Int) < (jl.length : Int)) = true := ac b1
  have HJw := aa (HJs.out.kept HB.out.k)
  have c0 := HJw.out.c q (by omega)
  rcases HJM.out.step HVf.out with e1 | ⟨e1, e2, e3⟩ | ⟨b', e, e1, e2, e3, e4, e5, e6, e7⟩
  ·subst e1
   rw [HC.out] at c0
   have L1 := aa (show (l ++ 91 :: body).length ≤ 100000000000000 by rw [List.length_append, List.length_cons]; have := HL.out; have := HAc.out.2; omega)
   go_wp2_with ((with_reducible refine gate_builtin (b := .append) (xs := #[.tmp 166, .tmp 168]) rfl ?_); at_builtin; refine app1 166 168 93 HB.out L1.out ?_; intro v6 w6 hn1 hap1; have HN1 := aa hn1; clear hn1 hap1)
   refine bodyPost_ret (results_list (rs := [.tmp 26, .tmp 27, .tmp 28, .tmp 29]) rfl (by simp) (.tmp (.tmp (.tmp (.tmp .nil))))) rfl ?_
   refine ⟨v6, 91 :: (body ++ [93]), _, _, true, by first | rfl | simp, by have := HN1.out; rw [List.append_assoc, List.cons_append] at this; exact this, fun _ => ⟨.cont 91 body 93 (.inr rfl) HAc.out.1 (.inr rfl), by simp, ?_⟩⟩
   have := HAc.out.2
   simp only [List.length_cons, List.length_append, List.length_nil]
   omega
  ·have HM := aa e3
   have HQ2 := aa e1
   obtain ⟨v, hv⟩ : ∃ v, jl.getD q 0 = v := ⟨_, rfl⟩
   rw [hv] at c0 e2
   have d0 : decide (v ≤ 32) = true := ac e2
   clear hv e1 e3 e2
   go_wp2
   go_roundg (k - q)
   case measure => have := HQ.out; omega
   case rel => exact ⟨q + 1, z, M, body, Z37, rfl, rfl, rfl, ⟨HMi.out.1, by have := HMi.out; omega⟩, ⟨by have := HQ.out; have := HQ2.out; omega, by have := HQ.out; omega, HQ2.out⟩, HM, ⟨HAc.out.1, by have := HAc.out.2; have := HQ.out; omega⟩, HB⟩
  ·have HV := aa (And.intro e1 (And.intro e2 e3))
   have HM := aa e4
   have HLe := aa (show q ≤ b' ∧ b' < e ∧ e ≤ k from ⟨e1.1, e3, e5⟩)
   obtain ⟨v, hv⟩ : ∃ v, jl.getD q 0 = v := ⟨_, rfl⟩
   rw [hv] at c0 e6 e7
   have d0 : decide (v ≤ 32) = false := ae (by omega)
   have d1 : (v == 93) = false := ag e7
   obtain ⟨bm, hbm⟩ : ∃ bm : Bool, decide (M > 0) = bm := ⟨_, rfl⟩
   have LB := aa (show (l ++ 91 :: body).length ≤ 90000000000 by rw [List.length_append, List.length_cons]; have := HL.out; have := HAc.out.2; have := HQ.out; omega)
   have LB2 := aa (lenc 44 LB.out (by omega : 90000000000 + 1 ≤ 91000000000))
   clear e1 e2 e3 e4 e5 e6 e7 hv HJM
   go_upto_if 186 with (fail)
   go_cut [0] from 187 to 198 (fun v0 wc => ∃ body1, Aside0 (LX body1 ∧ body1.length ≤ body.length + 2) ∧ Aside0 (Bs w0 w P0 wc v0 (l ++ 91 :: body1)))
   case first =>
    cases bm
    ·go_wp2
     go_meet
     case rel => exact ⟨body, ⟨HAc.out.1, by omega⟩, HB⟩
    ·go_wp2_with (first
      | ((with_reducible refine gate_builtin (b := .append) (xs := #[.tmp 187, .tmp 188]) rfl ?_); at_builtin; refine app1 187 188 44 HB.out (Nat.le_trans LB.out (by decide)) ?_; intro v6 w6 hn1 hap1; replace HB := aa hn1; clear hn1 hap1)
      | ((with_reducible refine gate_builtin (b := .append) (xs := #[.tmp 196, .tmp 197]) rfl ?_); at_builtin; refine app1 196 197 32 HB.out (Nat.le_trans LB2.out (by decide)) ?_; intro v7 w7 hn1 hap1; replace HB := aa hn1; clear hn1 hap1))
     go_meet
     case rel => exact ⟨body ++ [44, 32], ⟨HAc.out.1.app (.ch 44 _ (by unfold Plain By; omega) (.ch 32 _ (by unfold Plain By; omega) .nil)), by rw [List.length_append]; simp⟩, ⟨by have := HB.out; simpa using this⟩⟩
   case rest =>
   clear HB
   rename_i wc hcut
   obtain ⟨body1, HB1, HB⟩ := hcut
   have LA := aa (show (l ++ 91 :: body1).length + 800000 * (jl.length - b') ≤ 8000000000 by rw [List.length_append, List.length_cons]; have := HL.out; have := HAc.out.2; have := HQ.out; have := HB1.out.2; have := HLe.out; omega)
   obtain ⟨p', hp'⟩ : ∃ p', e = p' + 1 := ⟨e - 1, by have := HLe.out; omega⟩
   have h4 : e ≤ 4096 := by have := HLe.out; omega
   have HE := aa hp'
   have HT1 := aa (show tabs < 5001 by have := HL.out; have := HLe.out; omega)
   go_wp2_with (first
    | (refine aw 36 #[.int .i64 0, .int .i64 0, .int .i64 0, .int .i64 0] 118 ?_; intro b3 hg w5 hz hb; replace HB := aa (HB.out.below hb); clear hz hb hg)
    | (go_at_call 33; refine (hA HB.out.in_ (HJs.out.in_ HB.out) q b' e (tabs + 1) _ max false HV.out.1 HV.out.2.1 (.inr ⟨rfl, HX.out⟩) LA.out (by have := HL.out; have := HLe.out; have := HQ.out; omega) rfl Z56).mono ?_; rintro r11 w11 ⟨v11, out, e', nl', ok, rfl, hb11, hpo⟩; replace HB := aa (HB.out.then_ hb11); have HPO := aa hpo; clear hpo hb11; cases ok))
   ·refine bodyPost_ret (results_list (rs := [.tmp 26, .tmp 27, .tmp 28, .tmp 29]) rfl (by simp) (.tmp (.tmp (.tmp (.tmp .nil))))) rfl ?_
    exact ⟨v11, 91 :: body1 ++ out, _, _, false, rfl, by have := HB.out; rwa [List.append_assoc] at this, fun h => by simp at h⟩
   ·obtain ⟨po1, rfl, po3⟩ := HPO.out (by simp)
    have hl := HLe.out
    go_roundg (k - q)
    case measure => have := HQ.out; omega
    case rel =>
     refine ⟨e, _, _, body1 ++ out, ?_, rfl, rfl, rfl, ⟨?_⟩, ⟨?_, ?_, hl.2.2⟩, HM, ⟨HB1.out.1.app po1.lx, ?_⟩, ⟨by have := HB.out; rwa [List.append_assoc, List.cons_append] at this⟩⟩
     ·first | (congr 1; have := HE.out; unfold wrap64; omega) | (have := HE.out; simp; omega)
     ·have := HMi.out; have := HQ.out; unfold wrap64; omega
     ·have := HQ.out; omega
     ·have := HQ.out; omega
     ·have := HB1.out.2; have := HAc.out.2; have := HQ.out; rw [List.length_append]; omega
end Go.Proofs.YtmpdhdnoohmndaaGreatDoor.Pr
namespace Go.Proofs.YtmpdhdnoohmndaaGreatDoor.Pr
open Go.RowKit Go.Proofs.YtmpdhdnoohmndaaGreatDoorW.PrintWords Go.Proofs.YtmpdhdnoohmndaaGreatDoorW.PrintLast Go.Proofs.YtmpdhdnoohmndaaGreatDoorW.PrintMore Sp Gj So
set_option linter.unusedVariables false
set_option linter.unusedSimpArgs false
def ArB (b q : Nat) (M : Int) (body : List Int) : Prop := LX body ∧ body.length + 1 + 400000 ≤ 800000 * (q - b) ∧ ((M = 0 ∧ body = []) ∨ (0 < M ∧ ∃ X d, body = X ++ [d] ∧ 32 < d))
theorem Bs.cut {w0 w W : World} {P0 : Nat → Prop} {A : Option Addr} {n c n0 : Nat} {l out : List Int} (h : Bs w0 w P0 W (.slice A n c) (l ++ out)) (hn : l.length = n0) : Bs w0 w P0 W (.slice A n0 c) l := by
 have := RB.take (m := n0) h.r (by rw [List.length_append]; omega)
 rw [← hn, List.take_left] at this
 subst hn
 exact ⟨this, h.b, h.k⟩
set_option maxHeartbeats 8000000 in
set_option maxRecDepth 100000 in
theorem arr_calls {jl : List Int} {wd : Int} {pre ind : au} {V : Nat → Nat → Prop} (hA : AnyC V jl wd pre ind) (hF : AnyC V jl wd pre ⟨#[]⟩) (hVf : ∀ b e, V b e → 32 < jl.getD b 0 ∧ jl.getD b 0 ≠ 93) (hp : Bl (bytesOf pre) ∧ pre.size ≤ 64) (hi : Bl (bytesOf ind) ∧ ind.size ≤ 64) {w0 w : World} {P0 : Nat → Prop} {u : Value} {l : List Int} {J cj : Nat} (HB : Bs w0 w P0 w u l) (HJ : Js w P0 J cj jl) (b k tabs : Nat) (nl : Int) {x y : Int}
  (hbk : b < k) (hk : k < jl.length) (hM : JE jl V (b + 1) k) (hc : jl.getD k 0 = 93) (hl : l.length + 800000 * (jl.length - b) ≤ 8000000000) (ht : tabs + jl.length ≤ 5000 + b) (hx : x = b) (hy : y = tabs) :
  Calls Tryz.prog 49 #[u, .slice (some ⟨J, 0, none⟩) jl.length cj, .int .i64 x, .int .u8 91, .int .u8 93, .bool true, .int .i64 wd, .string pre, .string ind, .bool true, .int .i64 y, .int .i64 nl, .int .i64 (-1)] w (Post w0 w P0 l b (k + 1) true) := by
 subst hx hy
 have h00 := HB.size
 have hjc := HJ.hc
 obtain ⟨Au, cu, rfl⟩ := Kd.R_slice HB.r
 have HFl := aa (fun (mx : Int) (hm : 3 < mx) (hw : 0 < wd) => flat_calls hF hVf HB HJ b k 0 0 mx (x := b) (y := 0) hbk hk hM hc hm hw hl (by omega) rfl rfl)
 have HS := aa HB
 have HJs := aa HJ
 have HM0 := aa hM
 have HP := aa (And.intro hp hi)
 have HL := aa (And.intro hl ht)
 have HC := aa hc
 have HVf := aa hVf
 have L0 := aa (show l.length ≤ 100000000000000 by omega)
 obtain ⟨bw, hbw⟩ : ∃ bw : Bool, decide (wd > 0) = bw := ⟨_, rfl⟩
 have HBw := aa (show bw = true → 0 < wd from fun h => ab (hbw.trans h))
 obtain ⟨i5, hi5, hz0, hz1, hz2⟩ := info_parts info5
 obtain ⟨n0, hn0⟩ : ∃ n0, l.length = n0 := ⟨_, rfl⟩
 have HN0 := aa hn0
 rw [hn0] at HS HFl ⊢
 clear HB HJ hM hp hi hl ht hc hVf hF hz0 hz2 hn0
 go_enter Tryz.func49, Tryz.ntmps49
 go_upto_if 38 with (fail)
 go_cut [0, 2] from 39 to 96 (fun v0 v2 wc => v2 = .int .i64 b ∧ Aside0 (Bs w0 w P0 wc v0 l))
 case first =>
  cases bw
  ·go_wp2
   go_meet
   case rel => exact ⟨rfl, HS⟩
  ·have hw0 := HBw.out rfl
   obtain ⟨mx, hmx⟩ : ∃ mx, wrap64 (wd - wrap64 ((n0 : Int) - nl)) = mx := ⟨_, rfl⟩
   by_cases cx : 3 < mx
   ·have gx : decide (mx > 3) = true := ac cx
    have HFm := aa (HFl.out mx cx hw0)
    have HKx := aa (show l.length ≤ 8000000000 by have := HL.out; omega)
    clear HFl cx hw0
    go_wp2_with (go_at_call 49; refine HFm.out.mono ?_; rintro r w4 ⟨v4, out, e', nl', ok, rfl, hb4, hpo⟩; obtain ⟨A4, c4, rfl⟩ := Kd.R_slice hb4.r; have hcut := (print_take_int (P := Tryz.prog) (k := .u8) 51 5 Tryz.underlying51 hi5 hz1 A4 c4 (l ++ out) (n0 : Int) (by omega) (by have := HN0.out; rw [List.length_append]; omega) (Kd.R_reads' hb4.r).2.1).1; simp only [Int.toNat_natCast, show (l ++ out).take n0 = l by rw [← HN0.out, List.take_left], HN0.out] at hcut; have HB4 := aa hb4; have HPO := aa hpo; obtain ⟨dz, hdz⟩ : ∃ dz : Nat, (((l ++ out).length : Nat) : Int) - (n0 : Int) = dz := ⟨out.length, by have := HN0.out; rw [List.length_append]; omega⟩; obtain ⟨n4, hn4⟩ : ∃ n4, (l ++ out).length = n4 := ⟨_, rfl⟩; rw [hn4] at hdz hcut HB4 ⊢; obtain ⟨bz, hbz⟩ : ∃ bz : Bool, decide ((dz : Int) ≤ mx) = bz := ⟨_, rfl⟩; clear hb4 hpo hn4; cases ok)
    ·go_meet
     case rel => exact ⟨rfl, ⟨HB4.out.cut HN0.out⟩⟩
    ·refine bodyPost_ret (results_list (rs := [.tmp 26, .tmp 27, .tmp 28, .tmp 29]) rfl (by simp) (.tmp (.tmp (.tmp (.tmp .nil))))) rfl ?_
     exact ⟨_, out, _, _, true, rfl, HB4.out, fun _ => HPO.out (by simp)⟩
    ·go_meet
     case rel => exact ⟨rfl, ⟨HB4.out.cut HN0.out⟩⟩
   ·have gx : decide (mx > 3) = false := ae cx
    clear cx
    go_wp2
    go_meet
    case rel => exact ⟨rfl, HS⟩
 case rest =>
 clear HS HFl HBw hbw hi5 hz1 HN0
 rename_i wc hcut
 obtain ⟨rfl, HS⟩ := hcut
 go_wp2_with ((with_reducible refine gate_builtin (b := .append) (xs := #[.tmp 97, .tmp 99]) rfl ?_); at_builtin; refine app1 97 99 91 HS.out L0.out ?_; intro v1 w1 hn1 hap1; have HB := aa hn1; clear hn1 hap1)
 go_loopg [0, 2, 9, 11, 35] (k + 1) (fun kq v0 v2 v9 v11 v35 W => ∃ (q : Nat) (z M : Int) (body : List Int), v2 = .int .i64 q ∧ v9 = .bool true ∧ v11 = .int .i64 z ∧ v35 = .int .i64 M ∧ Aside0 (0 ≤ M ∧ M + b < q) ∧ Aside0 (k - q < kq ∧ b < q ∧ q ≤ k) ∧ Aside0 (JE jl V q k) ∧ Aside0 (ArB b q M body) ∧ Aside0 (Bs w0 w P0 W v0 (l ++ 91 :: body)))
 case atStart => exact ⟨b + 1, nl, 0, [], by simp, rfl, rfl, rfl, ⟨by omega, by omega⟩, ⟨by omega, by omega, by omega⟩, HM0, ⟨.nil, by show 0 + 1 + 400000 ≤ _; omega, .inl ⟨rfl, rfl⟩⟩, HB⟩
 case round =>
  clear HM0 HS HB
  obtain ⟨q, z, M, body, rfl, rfl, rfl, rfl, HMi, HQ, HJM, HAc, HB⟩ := hrel
  have b1 : (q : Int) < jl.length := by have := HQ.out; omega
  have b2 : decide ((q : Int) < (jl.length : Int)) = true := ac b1
  have HJw := aa (HJs.out.kept HB.out.k)
  have c0 := HJw.out.c q (by omega)
  have LB := aa (show (l ++ 91 :: body).length ≤ 9000000000 by rw [List.length_append, List.length_cons]; have := HL.out; have := HAc.out.2.1; have := HQ.out; omega)
  rcases HJM.out.step HVf.out with e1 | ⟨e1, e2, e3⟩ | ⟨b', e, e1, e2, e3, e4, e5, e6, e7⟩
  ·subst e1
   rw [HC.out] at c0
   rcases HAc.out.2.2 with ⟨rfl, rfl⟩ | ⟨hM, X, d, rfl, hd⟩
   ·obtain ⟨g, n, c2, m2, rfl, hn, hm2, t1, t2, t3, t4, t5, t6, t7⟩ := HB.out.tail (by have := HL.out; omega)
    clear hn hm2
    go_wp2_with ((with_reducible refine gate_builtin (b := .append) (xs := #[.tmp 166, .tmp 168]) rfl ?_); at_builtin; refine app1 166 168 93 HB.out (Nat.le_trans LB.out (by decide)) ?_; intro v6 w6 hn1 hap1; have HN1 := aa hn1; clear hn1 hap1)
    refine bodyPost_ret (results_list (rs := [.tmp 26, .tmp 27, .tmp 28, .tmp 29]) rfl (by simp) (.tmp (.tmp (.tmp (.tmp .nil))))) rfl ?_
    refine ⟨v6, [91, 93], _, _, true, by first | rfl | simp, by have := HN1.out; rw [List.append_assoc] at this; exact this, fun _ => ⟨.cont 91 [] 93 (.inr rfl) .nil (.inr rfl), by simp, ?_⟩⟩
    clear t1 t2 t3 t4 t5 t6 t7
    show 2 + 400000 ≤ _
    omega
   ·have gm : decide (M > 0) = true := ac hM
    have d1 : (d == 32) = false := ag (by omega)
    rw [show l ++ 91 :: (X ++ [d]) = (l ++ 91 :: X) ++ [d] by simp] at HB LB
    have LB2 := aa (lenc 10 LB.out (by omega : 9000000000 + 1 ≤ 9100000000))
    have LX' := aa (show (l ++ 91 :: X).length ≤ 9000000000 by have := LB.out; rw [List.length_append, List.length_singleton] at this; omega)
    have HT1 := aa (show tabs < 5001 by have := HL.out; omega)
    clear hM hd
    obtain ⟨g, n, c2, m2, rfl, hn, hm2, t1, t2, t3, t4, t5, t6, t7⟩ := HB.out.tail (Nat.le_trans LX'.out (by decide))
    clear hn hm2
    go_wp2_with (first
     | ((with_reducible refine gate_builtin (b := .append) (xs := #[.tmp 150, .tmp 151]) rfl ?_); at_builtin; refine app1 150 151 10 HB.out (Nat.le_trans LB.out (by decide)) ?_; intro v6 w6 hn1 hap1; clear t1 t2 t3 t4 t5 t6 t7 d1; obtain ⟨g2, n2, c3, m4, rfl, hn, hm2, t1, t2, t3, t4, t5, t6, t7⟩ := hn1.tail (Nat.le_trans LB.out (by decide)); have HB6 := aa hn1; clear hn1 hap1 hn hm2)
     | (go_at_call 64; clear t1 t2 t3 t4 t5 t6 t7; refine (tabs_calls HB6.out.in_ pre ind tabs rfl HP.out.1 HP.out.2 (by have := HT1.out; omega) (Nat.le_trans LB2.out (by decide))).mono ?_; rintro r w7 ⟨v7, t, rfl, hbt, htl, hb7⟩; have HB7 := aa (HB6.out.then_ hb7); have HT := aa (And.intro hbt htl); have LT := aa (show (l ++ 91 :: X ++ [d] ++ [10] ++ t).length ≤ 100000000000000 by rw [List.length_append]; have := LB2.out; have := HT1.out; omega); clear hb7 hbt htl)
     | ((with_reducible refine gate_builtin (b := .append) (xs := #[.tmp 166, .tmp 168]) rfl ?_); at_builtin; refine app1 166 168 93 HB7.out LT.out ?_; intro v8 w8 hn1 hap1; have HN1 := aa hn1; clear hn1 hap1))
    refine bodyPost_ret (results_list (rs := [.tmp 26, .tmp 27, .tmp 28, .tmp 29]) rfl (by simp) (.tmp (.tmp (.tmp (.tmp .nil))))) rfl ?_
    have hn1 := HN1.out
    rw [show l ++ 91 :: X ++ [d] ++ [10] ++ t ++ [93] = l ++ 91 :: ((X ++ [d]) ++ (10 :: t) ++ [93]) by simp] at hn1
    refine ⟨v8, _, _, _, true, by first | rfl | simp, hn1, fun _ => ⟨.cont 91 _ 93 (.inr rfl) (HAc.out.1.app (.ch 10 _ (by unfold Plain By; omega) (bl_plain HT.out.1))) (.inr rfl), by simp, ?_⟩⟩
    have a2 := HAc.out.2.1
    have a3 := HT.out.2
    have a4 := HT1.out
    simp only [List.length_cons, List.length_append, List.length_nil] at a2 ⊢
    omega
  ·have HM := aa e3
   have HQ2 := aa e1
   obtain ⟨v, hv⟩ : ∃ v, jl.getD q 0 = v := ⟨_, rfl⟩
   rw [hv] at c0 e2
   have d0 : decide (v ≤ 32) = true := ac e2
   clear hv e1 e3 e2
   go_wp2
   go_roundg (k - q)
   case measure => have := HQ.out; omega
   case rel => exact ⟨q + 1, z, M, body, Z37, rfl, rfl, rfl, ⟨HMi.out.1, by have := HMi.out; omega⟩, ⟨by have := HQ.out; have := HQ2.out; omega, by have := HQ.out; omega, HQ2.out⟩, HM, ⟨HAc.out.1, by have := HAc.out.2.1; have := HQ.out; omega, HAc.out.2.2⟩, HB⟩
  ·have HV := aa (And.intro e1 (And.intro e2 e3))
   have HM := aa e4
   have HLe := aa (show q ≤ b' ∧ b' < e ∧ e ≤ k from ⟨e1.1, e3, e5⟩)
   obtain ⟨v, hv⟩ : ∃ v, jl.getD q 0 = v := ⟨_, rfl⟩
   rw [hv] at c0 e6 e7
   have d0 : decide (v ≤ 32) = false := ae (by omega)
   have dv : (v == 93) = false := ag e7
   obtain ⟨bm, hbm⟩ : ∃ bm : Bool, decide (M > 0) = bm := ⟨_, rfl⟩
   obtain ⟨bq, hbq⟩ : ∃ bq : Bool, (wd != -1) = bq := ⟨_, rfl⟩
   have LB2 := aa (lenc 44 LB.out (by omega : 9000000000 + 1 ≤ 9100000000))
   have HBm := aa (show bm = false → body = [] by
    intro h
    rw [h] at hbm
    have := of_decide_eq_false hbm
    rcases HAc.out.2.2 with ⟨_, h⟩ | ⟨h, _⟩
    ·exact h
    ·omega)
   have LZ := aa (show ∀ body2 : List Int, body2.length ≤ body.length + 2 → (l ++ 91 :: body2).length ≤ 10000000000 ∧ ∀ t : List Int, t.length ≤ 330000 → (l ++ 91 :: body2 ++ t).length + 800000 * (jl.length - b') ≤ 8000000000 by
    intro body2 h2
    have a1 := HAc.out.2.1
    have a2 := HL.out
    have a3 := HLe.out
    have a4 := HQ.out
    clear b1 b2 c0 h00 hjc hbm hbq
    refine ⟨by simp only [List.length_append, List.length_cons]; omega, fun t ht => ?_⟩
    simp only [List.length_append, List.length_cons]
    omega)
   clear e1 e2 e3 e4 e5 e6 e7 hv HJM
   go_upto_if 186 with (fail)
   go_cut [0] from 187 to 198 (fun v0 wc => ∃ X d body2, Aside0 (Bs w0 w P0 wc v0 (X ++ [d])) ∧ Aside0 (LX body2 ∧ body2.length ≤ body.length + 2 ∧ ((d = 32 ∧ X ++ [10] = l ++ 91 :: body2) ∨ (d ≠ 32 ∧ X ++ [d] ++ [10] = l ++ 91 :: body2))))
   case first =>
    cases bm
    ·have hb := HBm.out rfl
     go_wp2
     go_meet
     case rel => subst hb; exact ⟨l, 91, [10], HB, ⟨.ch 10 _ (by unfold Plain By; omega) .nil, by simp, .inr ⟨by omega, by simp⟩⟩⟩
    ·cases bq
     ·go_wp2_with ((with_reducible refine gate_builtin (b := .append) (xs := #[.tmp 187, .tmp 188]) rfl ?_); at_builtin; refine app1 187 188 44 HB.out (Nat.le_trans LB.out (by decide)) ?_; intro v6 w6 hn1 hap1; have HN1 := aa hn1; clear hn1 hap1)
      go_meet
      case rel => exact ⟨_, 44, body ++ [44, 10], HN1, ⟨HAc.out.1.app (.ch 44 _ (by unfold Plain By; omega) (.ch 10 _ (by unfold Plain By; omega) .nil)), by simp, .inr ⟨by omega, by simp⟩⟩⟩
     ·go_wp2_with (first
       | ((with_reducible refine gate_builtin (b := .append) (xs := #[.tmp 187, .tmp 188]) rfl ?_); at_builtin; refine app1 187 188 44 HB.out (Nat.le_trans LB.out (by decide)) ?_; intro v6 w6 hn1 hap1; replace HB := aa hn1; clear hn1 hap1)
       | ((with_reducible refine gate_builtin (b := .append) (xs := #[.tmp 196, .tmp 197]) rfl ?_); at_builtin; refine app1 196 197 32 HB.out (Nat.le_trans LB2.out (by decide)) ?_; intro v7 w7 hn1 hap1; replace HB := aa hn1; clear hn1 hap1))
      go_meet
      case rel => exact ⟨_, 32, body ++ [44, 10], HB, ⟨HAc.out.1.app (.ch 44 _ (by unfold Plain By; omega) (.ch 10 _ (by unfold Plain By; omega) .nil)), by simp, .inl ⟨rfl, by simp⟩⟩⟩
   case rest =>
   clear HB HBm LB2 hbm hbq
   rename_i wc hcut
   obtain ⟨X, d, body2, HB, HB2⟩ := hcut
   have LX0 := aa (show X.length ≤ 10000000000 by
    have a := (LZ.out body2 HB2.out.2.1).1
    rcases HB2.out.2.2 with ⟨_, e⟩ | ⟨_, e⟩ <;>
     (rw [← e] at a; simp only [List.length_append, List.length_singleton] at a; omega))
   have LX1 := aa (lenc d LX0.out (by omega : 10000000000 + 1 ≤ 10000000001))
   have h4 : e ≤ 4096 := by have := HLe.out; omega
   have HT1 := aa (show tabs < 5001 by have := HL.out; have := HLe.out; omega)
   obtain ⟨b32, hb32⟩ : ∃ b32 : Bool, (d == 32) = b32 := ⟨_, rfl⟩
   have HB32 := aa hb32
   obtain ⟨p', hp'⟩ : ∃ p', e = p' + 1 := ⟨e - 1, by have := HLe.out; omega⟩
   have HE := aa hp'
   clear hp'
   go_upto_if 207 with (refine aw 36 #[.int .i64 0, .int .i64 0, .int .i64 0, .int .i64 0] 118 ?_; intro b3 hg w5 hz hb; replace HB := aa (HB.out.below hb); clear hz hb hg; obtain ⟨g1, n1, c1, m3, rfl, hn, hm2, t1, t2, t3, t4, t5, t6, t7⟩ := HB.out.tail (Nat.le_trans LX0.out (by decide)); have HM3 := aa hm2; clear hn hm2)
   go_cut [0] from 208 to 214 (fun v0 wc => Aside0 (Bs w0 w P0 wc v0 (l ++ 91 :: body2)))
   case first =>
    cases b32
    ·go_wp2_with ((with_reducible refine gate_builtin (b := .append) (xs := #[.tmp 212, .tmp 213]) rfl ?_); at_builtin; refine app1 212 213 10 HB.out (Nat.le_trans LX1.out (by decide)) ?_; intro v6 w6 hn1 hap1; have HN1 := aa hn1; clear hn1 hap1)
     go_meet
     case rel =>
      rcases HB2.out.2.2 with ⟨e, _⟩ | ⟨_, e⟩
      ·have := HB32.out; rw [e] at this; exact absurd this (by decide)
      ·rw [← e]; exact HN1
    ·go_wp2
     go_meet
     case rel =>
      rcases HB2.out.2.2 with ⟨_, e⟩ | ⟨h, e⟩
      ·rw [← e]; exact ⟨HB.out.put HM3.out 10⟩
      ·exact absurd (beq_iff_eq.1 HB32.out) h
   case rest =>
   clear HB t1 t2 t3 t4 t5 t6 t7 hb32
   rename_i wc2 hcut
   have HB := hcut
   clear hcut
   have LZ2 := aa (LZ.out body2 HB2.out.2.1)
   go_wp2_with (first
    | (go_at_call 64; refine (tabs_calls HB.out.in_ pre ind (tabs + 1) Z56 HP.out.1 HP.out.2 (Nat.le_trans HT1.out (by decide)) LZ2.out.1).mono ?_; rintro r7 w7 ⟨v7, t, rfl, hbt, htl, hb7⟩; replace HB := aa (HB.out.then_ hb7); have HT := aa hbt; have HTl := aa (show t.length ≤ 330000 by have := HT1.out; omega); clear hb7 hbt htl)
    | (go_at_call 33; refine (hA HB.out.in_ (HJs.out.in_ HB.out) q b' e (tabs + 1) _ (-1) true HV.out.1 HV.out.2.1 (.inl ⟨rfl, rfl⟩) (LZ2.out.2 t HTl.out) (by have := HL.out; have := HLe.out; have := HQ.out; omega) rfl Z56).mono ?_; rintro r11 w11 ⟨v11, out, e', nl', ok, rfl, hb11, hpo⟩; obtain ⟨po1, rfl, po3⟩ := hpo (.inr rfl); replace HB := aa (HB.out.then_ hb11); have HPO := aa (And.intro po1 po3); clear hpo hb11 po1 po3))
   have hl := HLe.out
   go_roundg (k - q)
   case measure => have := HQ.out; omega
   case rel =>
    refine ⟨e, _, _, body2 ++ t ++ out, ?_, rfl, rfl, rfl, ⟨?_⟩, ⟨?_, ?_, hl.2.2⟩, HM, ⟨(HB2.out.1.app (bl_plain HT.out)).app HPO.out.1.lx, ?_, ?_⟩, ⟨by have := HB.out; rwa [List.append_assoc, List.append_assoc, List.cons_append, ← List.append_assoc] at this⟩⟩
    ·first | (congr 1; have := HE.out; unfold wrap64; omega) | (simp; done) | (have := HE.out; simp; omega)
    ·have := HMi.out; have := HQ.out; unfold wrap64; omega
    ·have := HQ.out; omega
    ·have := HQ.out; omega
    ·have := HB2.out.2.1; have := HAc.out.2.1; have := HQ.out; have := HPO.out.2; have := HTl.out; rw [List.length_append, List.length_append]; omega
    ·obtain ⟨s, c, hs, hc⟩ := HPO.out.1.last
     refine .inr ⟨?_, body2 ++ t ++ s, c, by rw [hs]; simp, hc⟩
     have := HMi.out; have := HQ.out; unfold wrap64; omega
end Go.Proofs.YtmpdhdnoohmndaaGreatDoor.Pr

-- written by a program of this session (wip/tools), for this seat
import Derived.Test.YtkbeiidjagodnaaPrx0
import Derived.Test.YtkbeiidjagodnaaPrx5
import Derived.Test.YtkbeiidjagodnaaPrx6
import Derived.Test.YtkbeiidjagodnaaPrx7
import Derived.Test.YtkbeiidjagodnaaPrx8a
namespace Go.Proofs.Ytkbeiidjagodnaa.Pr
open Go.RowKit Go.Proofs.YtkbeiidjagodnaaW.PrintWords Go.Proofs.YtkbeiidjagodnaaW.PrintLast Go.Proofs.YtkbeiidjagodnaaW.PrintMore
attribute [local go_sem] max2_int min2_int max_two min_two max_three min_three max_four min_four   -- for this text's walks alone
set_option linter.unusedVariables false
set_option linter.unusedSimpArgs false
set_option maxHeartbeats 80000000 in
set_option maxRecDepth 100000 in
theorem pObj.calls (VA : H_pAny) (VO : H_pObj) (k : Nat) (P0_ : Nat → Prop) (u9000_ : Value) (l0 : List Int) (P1_ : Nat → Prop) (A1 : Option Addr) (c1 : Nat) (l1 : List Int) (a2 : Int) (a3 : Int) (a4 : Int) (a5 : Bool) (a6 : Int) (a7 : ByteArray) (a8 : ByteArray) (a9 : Bool) (a10 : Int) (a11 : Int) (a12 : Int) (r1 : List Int) (r2 : Int) (r3 : Int) (r4 : Bool) (w0 w : World) (hB : Below w0.heap.size w0 w) (ho0 : Kd.R (Kd.int .u8) 5 w w0.heap.size P0_ u9000_ l0) (hs1 : Kd.V (Kd.int .u8) 5 w w0.heap.size (fun k_ => P1_ k_ ∧ some k_ ≠ (u9000_ : Value).ownBlock) (.slice A1 l1.length c1) l1) (h : pObj.f VA VO k l0 l1 a2 a3 a4 a5 a6 a7 a8 a9 a10 a11 a12 = some (r1, r2, r3, r4)) :
  Calls Try.prog 35 #[u9000_, .slice A1 l1.length c1, .int .i64 a2, .int .u8 a3, .int .u8 a4, .bool a5, .int .i64 a6, .string a7, .string a8, .bool false, .int .i64 a10, .int .i64 a11, .int .i64 a12] w fun e w' => ∃ v0_ : Value, e = .returned (.tuple #[v0_, .int .i64 r2, .int .i64 r3, .bool r4]) ∧ Kd.R (Kd.int .u8) 5 w' w0.heap.size (fun k_ => (P0_ k_ ∨ w.heap.size ≤ k_)) v0_ r1 ∧ Below w0.heap.size w0 w' ∧ Kept w w' (fun k_ => P0_ k_) := by
 have hu69 := Try.underlying69
 have HO0 := Aside0.mk (show Kd.R (Kd.int .u8) 5 w w0.heap.size (fun k_ => (P0_ k_ ∨ w.heap.size ≤ k_)) u9000_ l0 from Kd.R_mono ho0 (fun k_ hk => (.inl hk)))
 have HO1 := Aside0.mk (show Kd.V (Kd.int .u8) 5 w w0.heap.size (fun k_ => ((P0_ k_ ∨ P1_ k_) ∨ w.heap.size ≤ k_) ∧ some k_ ≠ (u9000_ : Value).ownBlock) (.slice A1 l1.length c1) l1 from Kd.V_mono hs1 (fun k_ hk => ⟨.inl (.inr hk.1), hk.2⟩))
 have HK := Aside0.mk (Kept.refl w (fun k_ => P0_ k_))
 have HW0 := Aside0.mk hB.size
 have HB := Aside0.mk hB
 clear hB
 have H : (if a6 > 0 then (if a5 = true then (if a3 = 91 then (pObj.j0 VA VO k l0 l1 a2 a3 a4 a5 a6 a7 a8 a10 a11 a12 (a12 == (-1))) else (pObj.j0 VA VO k l0 l1 a2 a3 a4 a5 a6 a7 a8 a10 a11 a12 false)) else (pObj.j0 VA VO k l0 l1 a2 a3 a4 a5 a6 a7 a8 a10 a11 a12 false)) else (pObj.j1 VA VO k l0 l1 a2 a3 a4 a5 a6 a7 a8 a10 a11 a12)) = some (r1, r2, r3, r4) := h
 clear h
 have HC14 := Aside0.mk H
 clear H
 go_enter Try.func35, Try.ntmps35
 go_upto_if 38 with (fail)
 go_cut [0, 2] from 37 to 38 (fun v0 v2 wc => ∃ (kq : Nat) (x0_13 : List Int) (x2_13 : Int), v2 = .int .i64 x2_13 ∧ Aside0 (pObj.j1 VA VO kq x0_13 l1 x2_13 a3 a4 a5 a6 a7 a8 a10 a11 a12 = some (r1, r2, r3, r4)) ∧ Aside0 (kq ≤ k) ∧ Aside0 (Kd.R (Kd.int .u8) 5 wc w0.heap.size (fun k_ => (P0_ k_ ∨ w.heap.size ≤ k_)) v0 x0_13) ∧ Aside0 (Kd.V (Kd.int .u8) 5 wc w0.heap.size (fun k_ => ((P0_ k_ ∨ P1_ k_) ∨ w.heap.size ≤ k_) ∧ some k_ ≠ (v0 : Value).ownBlock) (.slice A1 l1.length c1) l1) ∧ Aside0 (Kept w wc (fun k_ => P0_ k_)) ∧ Aside0 (Below w0.heap.size w0 wc))
 case first =>
  have H := HC14.out
  clear HC14
  by_cases c15 : a6 > 0
  ·rw [if_pos c15] at H
   have c15b0 : decide (0 < a6) = true := decide_eq_true c15
   clear c15
   (first | rw [c15b0] | (simp only [i64_w, i32_w]; rw [c15b0]) | skip)
   have HC16 := Aside0.mk H
   clear H
   go_upto_region 3 with (fail)
   go_cut [47] from 37 to 37 (fun v47 wc => ∃ (kq : Nat) (x47_15 : Bool), v47 = .bool x47_15 ∧ Aside0 (pObj.j0 VA VO kq l0 l1 a2 a3 a4 a5 a6 a7 a8 a10 a11 a12 x47_15 = some (r1, r2, r3, r4)) ∧ Aside0 (kq ≤ k) ∧ Aside0 (Kd.R (Kd.int .u8) 5 wc w0.heap.size (fun k_ => (P0_ k_ ∨ w.heap.size ≤ k_)) u9000_ l0) ∧ Aside0 (Kd.V (Kd.int .u8) 5 wc w0.heap.size (fun k_ => ((P0_ k_ ∨ P1_ k_) ∨ w.heap.size ≤ k_) ∧ some k_ ≠ (u9000_ : Value).ownBlock) (.slice A1 l1.length c1) l1) ∧ Aside0 (Kept w wc (fun k_ => P0_ k_)) ∧ Aside0 (Below w0.heap.size w0 wc))
   case first =>
    have H := HC16.out
    clear HC16
    by_cases c17 : a5 = true
    ·subst c17
     have H1 : (if a3 = 91 then (pObj.j0 VA VO k l0 l1 a2 a3 a4 true a6 a7 a8 a10 a11 a12 (a12 == (-1))) else (pObj.j0 VA VO k l0 l1 a2 a3 a4 true a6 a7 a8 a10 a11 a12 false)) = some (r1, r2, r3, r4) := Z61
     clear H
     have H := H1
     clear H1
     by_cases c18 : a3 = 91
     ·rw [if_pos c18] at H
      have c18b0 : (a3 == 91) = true := beq_iff_eq.mpr c18
      have c18b1 : (a3 != 91) = false := bne_eq_false_iff_eq.mpr c18
      clear c18
      (first | rw [c18b0] | (simp only [i64_w, i32_w]; rw [c18b0]) | skip)
      as_aux_lemma =>
       have H' := Aside0.mk H
       clear H
       go_wp2
       go_meet
       case rel => exact ⟨_, ((a12 == (-1))), Z16, H', ⟨Z88⟩, ⟨Z54⟩, ⟨Z131⟩, ⟨Z7⟩, ⟨Z5⟩⟩
     ·rw [if_neg c18] at H
      have c18b0 : (a3 == 91) = false := beq_eq_false_iff_ne.mpr c18
      have c18b1 : (a3 != 91) = true := bne_iff_ne.mpr c18
      (first | rw [c18b0] | (simp only [i64_w, i32_w]; rw [c18b0]) | skip)
      as_aux_lemma =>
       have H' := Aside0.mk H
       clear H
       go_wp2
       go_meet
       case rel => exact ⟨_, (false), Z16, H', ⟨Z88⟩, ⟨Z54⟩, ⟨Z131⟩, ⟨Z7⟩, ⟨Z5⟩⟩
    ·replace c17 := Bool.eq_false_iff.mpr c17
     subst c17
     have H1 : (pObj.j0 VA VO k l0 l1 a2 a3 a4 false a6 a7 a8 a10 a11 a12 false) = some (r1, r2, r3, r4) := Z34
     clear H
     have H := H1
     clear H1
     as_aux_lemma =>
      have H' := Aside0.mk H
      clear H
      go_wp2
      go_meet
      case rel => exact ⟨_, (false), Z16, H', ⟨Z88⟩, ⟨Z54⟩, ⟨Z131⟩, ⟨Z7⟩, ⟨Z5⟩⟩
   case rest =>
    clear HC16
    try clear c1
    try clear c15
    try clear c15b0
    obtain ⟨kq, x47_15, rfl, HA, HJ15, HO_0, HO_1, HK, HB⟩ := hcut
    cases kq with
    | zero => exact absurd HA.out (by simp [pObj.j0])
    | succ kj15 =>
     have H := HA.out
     clear HA
     simp only [pObj.j0] at H
     by_cases c19 : x47_15 = true
     ·subst c19
      have H1 : (if (wrap64 (a6 - (wrap64 ((l0.length : Int) - a11)))) > 3 then ((VO.f kj15 l0 l1 a2 91 93 false a6 a7 (⟨#[]⟩ : ByteArray) false 0 0 (wrap64 (a6 - (wrap64 ((l0.length : Int) - a11))))).bind fun bt376 => (if bt376.2.2.2 = true then (if (wrap64 ((bt376.1.length : Int) - (l0.length : Int))) ≤ (wrap64 (a6 - (wrap64 ((l0.length : Int) - a11)))) then (some (bt376.1, bt376.2.1, a11, true)) else (if 0 ≤ (l0.length : Int) then (if (l0.length : Int) ≤ (bt376.1.length : Int) then (pObj.j1 VA VO kj15 (bt376.1.take ((l0.length : Int) : Int).toNat) l1 a2 a3 a4 a5 a6 a7 a8 a10 a11 a12) else (none)) else (none))) else (if 0 ≤ (l0.length : Int) then (if (l0.length : Int) ≤ (bt376.1.length : Int) then (pObj.j1 VA VO kj15 (bt376.1.take ((l0.length : Int) : Int).toNat) l1 a2 a3 a4 a5 a6 a7 a8 a10 a11 a12) else (none)) else (none)))) else (pObj.j1 VA VO kj15 l0 l1 a2 a3 a4 a5 a6 a7 a8 a10 a11 a12)) = some (r1, r2, r3, r4) := Z61
      clear H
      have H := H1
      clear H1
      by_cases c20 : (wrap64 (a6 - (wrap64 ((l0.length : Int) - a11)))) > 3
      ·rw [if_pos c20] at H
       have c20b0 : decide (3 < (wrap64 (a6 - (wrap64 ((l0.length : Int) - a11))))) = true := decide_eq_true c20
       clear c20
       replace H := Option.bind_eq_some_iff.mp H
       obtain ⟨⟨t376, t379, t380, t381⟩, A210, H⟩ := H
       replace H : (if t381 = true then (if (wrap64 ((t376.length : Int) - (l0.length : Int))) ≤ (wrap64 (a6 - (wrap64 ((l0.length : Int) - a11)))) then (some (t376, t379, a11, true)) else (if 0 ≤ (l0.length : Int) then (if (l0.length : Int) ≤ (t376.length : Int) then (pObj.j1 VA VO kj15 (t376.take ((l0.length : Int) : Int).toNat) l1 a2 a3 a4 a5 a6 a7 a8 a10 a11 a12) else (none)) else (none))) else (if 0 ≤ (l0.length : Int) then (if (l0.length : Int) ≤ (t376.length : Int) then (pObj.j1 VA VO kj15 (t376.take ((l0.length : Int) : Int).toNat) l1 a2 a3 a4 a5 a6 a7 a8 a10 a11 a12) else (none)) else (none))) = some (r1, r2, r3, r4) := H
       have A21 := Aside0.mk A210
       clear A210
       by_cases c22 : t381 = true
       ·subst c22
        have H1 : (if (wrap64 ((t376.length : Int) - (l0.length : Int))) ≤ (wrap64 (a6 - (wrap64 ((l0.length : Int) - a11)))) then (some (t376, t379, a11, true)) else (if 0 ≤ (l0.length : Int) then (if (l0.length : Int) ≤ (t376.length : Int) then (pObj.j1 VA VO kj15 (t376.take ((l0.length : Int) : Int).toNat) l1 a2 a3 a4 a5 a6 a7 a8 a10 a11 a12) else (none)) else (none))) = some (r1, r2, r3, r4) := Z61
        clear H
        have H := H1
        clear H1
        by_cases c23 : (wrap64 ((t376.length : Int) - (l0.length : Int))) ≤ (wrap64 (a6 - (wrap64 ((l0.length : Int) - a11))))
        ·rw [if_pos c23] at H
         have c23b0 : decide ((wrap64 ((t376.length : Int) - (l0.length : Int))) ≤ (wrap64 (a6 - (wrap64 ((l0.length : Int) - a11))))) = true := decide_eq_true c23
         clear c23
         as_aux_lemma =>
          simp only [Option.some.injEq, Prod.mk.injEq] at H
          obtain ⟨rfl, rfl, rfl, rfl⟩ := H
          obtain ⟨Ao24, co24, eo24⟩ := Kd.R_slice HO_0.out
          subst eo24
          go_wp2_with (first | ((with_reducible refine gate_callee (f := 35) rfl ?_); refine goesL_ (some 67) rfl rfl Try.func35 (by kernel_rfl) rfl #[.slice Ao24 l0.length co24, .slice A1 l1.length c1, .int .i64 a2, .int .u8 91, .int .u8 93, .bool false, .int .i64 a6, .string a7, .string (⟨#[]⟩ : ByteArray), .bool false, .int .i64 0, .int .i64 0, .int .i64 (wrap64 (a6 - (wrap64 ((l0.length : Int) - a11))))] rfl Z13 ?_; (with_reducible refine (VO.calls kj15 (fun k_ => some k_ = (.slice Ao24 l0.length co24 : Value).ownBlock) (.slice Ao24 l0.length co24) l0 (fun k_ => (((P0_ k_ ∨ P1_ k_) ∨ w.heap.size ≤ k_) ∧ some k_ ≠ (.slice Ao24 l0.length co24 : Value).ownBlock)) _ _ l1 a2 91 93 false a6 a7 (⟨#[]⟩ : ByteArray) false 0 0 (wrap64 (a6 - (wrap64 ((l0.length : Int) - a11)))) t376 t379 t380 true w0 _ ?side1 ?side2 ?side3 A21.out).mono ?_); (case side1 => exact Z5); (case side2 => exact Kd.R_tight rfl HO_0.out); (case side3 => exact Z157); rintro e w25 ⟨v377, rfl, ho0, hb, hkp⟩; refine ⟨_, rfl, ?_⟩; have n0_ := Aside0.mk (Kd.V_mono (ok' := fun k_ => ((P0_ k_ ∨ P1_ k_) ∨ w.heap.size ≤ k_) ∧ some k_ ≠ (v377 : Value).ownBlock) (Kd.V_keptB (HO_1.out) hkp (fun k_ hk_ hs_ => (hk_.2) hs_)) (fun k_ hk_ => ⟨hk_.1.1, fun e_ => Or.elim (ho0.1 k_ e_.symm) (fun hs_ => hk_.2.1 hs_) (fun hn_ => Nat.not_le.2 hk_.2.2 hn_)⟩)); have n1_ := Aside0.mk (Kd.R_mono (ok' := fun k_ => (P0_ k_ ∨ w.heap.size ≤ k_)) ho0 (fun k_ hk_ => Or.elim hk_ (fun hs_ => (HO_0.out.1 k_ (hs_).symm)) (fun hn_ => (.inr (Nat.le_trans Z35 hn_))))); have n2_ := Aside0.mk (Kept.then_ (S := (fun k_ => P0_ k_)) Z7 hkp (fun k_ hs_ => (fun e_ => (HO_0.out.1 k_ e_.symm)) hs_)); have n3_ := Aside0.mk (hb); clear HO_1; clear HK; clear HB; clear HO_0; have HO_1 := n0_; have HO378 := n1_; have HK := n2_; have HB := n3_; clear n0_ n1_ n2_ n3_; (try clear hb); (try clear hkp); (try clear ho0); obtain ⟨Ao26, co26, eo26⟩ := Kd.R_slice HO378.out; subst eo26))
          refine bodyPost_ret (results_list (rs := [.tmp 26, .tmp 27, .tmp 28, .tmp 29]) rfl (by simp) (.tmp (.tmp (.tmp (.tmp .nil))))) rfl ?_
          exact ⟨_, Z15, by (with_reducible repeat (first | apply Kd.R_alloc | apply Kd.R_drewN | apply Kd.R_drew)); exact HO378.out, Z5, Z7⟩
        ·rw [if_neg c23] at H
         have c23b0 : decide ((wrap64 ((t376.length : Int) - (l0.length : Int))) ≤ (wrap64 (a6 - (wrap64 ((l0.length : Int) - a11))))) = false := decide_eq_false c23
         clear c23
         by_cases c27 : 0 ≤ (l0.length : Int)
         ·rw [if_pos c27] at H
          have c27b0 := eq_true c27
          have c27b1 : decide (0 ≤ (l0.length : Int)) = true := decide_eq_true c27
          clear c27
          by_cases c28 : (l0.length : Int) ≤ (t376.length : Int)
          ·rw [if_pos c28] at H
           have c28b0 := eq_true c28
           have c28b1 : decide ((l0.length : Int) ≤ (t376.length : Int)) = true := decide_eq_true c28
           clear c28
           obtain ⟨y382, hy382⟩ : ∃ y_ : List Int, y_ = (t376.take ((l0.length : Int) : Int).toNat) := ⟨_, rfl⟩
           replace H : (pObj.j1 VA VO kj15 y382 l1 a2 a3 a4 a5 a6 a7 a8 a10 a11 a12) = some (r1, r2, r3, r4) := by first | (rw [hy382]; with_reducible exact H) | (have H2_ := (Option.bind_some _ _).symm.trans H; rw [hy382]; with_reducible exact H2_) | (have H2_ := (Option.bind_some _ _).symm.trans H; with_reducible exact H2_) | with_reducible exact H | (rw [hy382]; exact H) | exact H
           have Ny382 := Aside0.mk hy382
           clear hy382
           as_aux_lemma =>
            have H' := Aside0.mk H
            clear H
            obtain ⟨Ao29, co29, eo29⟩ := Kd.R_slice HO_0.out
            subst eo29
            go_wp2_with (first | ((with_reducible refine gate_callee (f := 35) rfl ?_); refine goesL_ (some 67) rfl rfl Try.func35 (by kernel_rfl) rfl #[.slice Ao29 l0.length co29, .slice A1 l1.length c1, .int .i64 a2, .int .u8 91, .int .u8 93, .bool false, .int .i64 a6, .string a7, .string (⟨#[]⟩ : ByteArray), .bool false, .int .i64 0, .int .i64 0, .int .i64 (wrap64 (a6 - (wrap64 ((l0.length : Int) - a11))))] rfl Z13 ?_; (with_reducible refine (VO.calls kj15 (fun k_ => some k_ = (.slice Ao29 l0.length co29 : Value).ownBlock) (.slice Ao29 l0.length co29) l0 (fun k_ => (((P0_ k_ ∨ P1_ k_) ∨ w.heap.size ≤ k_) ∧ some k_ ≠ (.slice Ao29 l0.length co29 : Value).ownBlock)) _ _ l1 a2 91 93 false a6 a7 (⟨#[]⟩ : ByteArray) false 0 0 (wrap64 (a6 - (wrap64 ((l0.length : Int) - a11)))) t376 t379 t380 true w0 _ ?side1 ?side2 ?side3 A21.out).mono ?_); (case side1 => exact Z5); (case side2 => exact Kd.R_tight rfl HO_0.out); (case side3 => exact Z157); rintro e w30 ⟨v377, rfl, ho0, hb, hkp⟩; refine ⟨_, rfl, ?_⟩; have n0_ := Aside0.mk (Kd.V_mono (ok' := fun k_ => ((P0_ k_ ∨ P1_ k_) ∨ w.heap.size ≤ k_) ∧ some k_ ≠ (v377 : Value).ownBlock) (Kd.V_keptB (HO_1.out) hkp (fun k_ hk_ hs_ => (hk_.2) hs_)) (fun k_ hk_ => ⟨hk_.1.1, fun e_ => Or.elim (ho0.1 k_ e_.symm) (fun hs_ => hk_.2.1 hs_) (fun hn_ => Nat.not_le.2 hk_.2.2 hn_)⟩)); have n1_ := Aside0.mk (Kd.R_mono (ok' := fun k_ => (P0_ k_ ∨ w.heap.size ≤ k_)) ho0 (fun k_ hk_ => Or.elim hk_ (fun hs_ => (HO_0.out.1 k_ (hs_).symm)) (fun hn_ => (.inr (Nat.le_trans Z35 hn_))))); have n2_ := Aside0.mk (Kept.then_ (S := (fun k_ => P0_ k_)) Z7 hkp (fun k_ hs_ => (fun e_ => (HO_0.out.1 k_ e_.symm)) hs_)); have n3_ := Aside0.mk (hb); clear HO_1; clear HK; clear HB; clear HO_0; have HO_1 := n0_; have HO378 := n1_; have HK := n2_; have HB := n3_; clear n0_ n1_ n2_ n3_; (try clear hb); (try clear hkp); (try clear ho0); obtain ⟨Ao31, co31, eo31⟩ := Kd.R_slice HO378.out; subst eo31; have q32 : ((l0.length : Int) : Int) ≤ ((t376.length : Int) : Int) := of_decide_eq_true Z11; obtain ⟨i032, hi032, _, hsz32, _⟩ := info_parts info5; have hcut32 := cut_to (P := Try.prog) 39 5 .i64 Try.underlying39 hi032 Ao31 t376.length co31 (l0.length : Int) (of_decide_eq_true Z11) q32 (Kd.R_reads' HO378.out).2.1; have hr32 := Kd.R_take (m := ((l0.length : Int) : Int).toNat) HO378.out (by omega); have hy32 : y382.length = ((l0.length : Int) : Int).toNat := (by rw [Ny382.out, List.length_take]; omega); rw [← Ny382.out] at hr32; rw [← hy32] at hr32 hcut32; clear hy32 hi032 hsz32 HO378; have HO384 := Aside0.mk hr32; clear hr32; replace q32 := eq_true q32))
            go_meet
            case rel => exact ⟨_, (y382), (a2), Z16, H', ⟨Z163⟩, ⟨by (with_reducible repeat (first | apply Kd.R_alloc | apply Kd.R_drewN | apply Kd.R_drew)); exact HO384.out⟩, ⟨Z58⟩, ⟨Z7⟩, ⟨Z5⟩⟩
          ·rw [if_neg c28] at H
           exact absurd H (by simp)
         ·rw [if_neg c27] at H
          exact absurd H (by simp)
       ·replace c22 := Bool.eq_false_iff.mpr c22
        subst c22
        have H1 : (if 0 ≤ (l0.length : Int) then (if (l0.length : Int) ≤ (t376.length : Int) then (pObj.j1 VA VO kj15 (t376.take ((l0.length : Int) : Int).toNat) l1 a2 a3 a4 a5 a6 a7 a8 a10 a11 a12) else (none)) else (none)) = some (r1, r2, r3, r4) := Z34
        clear H
        have H := H1
        clear H1
        by_cases c33 : 0 ≤ (l0.length : Int)
        ·rw [if_pos c33] at H
         have c33b0 := eq_true c33
         have c33b1 : decide (0 ≤ (l0.length : Int)) = true := decide_eq_true c33
         clear c33
         by_cases c34 : (l0.length : Int) ≤ (t376.length : Int)
         ·rw [if_pos c34] at H
          have c34b0 := eq_true c34
          have c34b1 : decide ((l0.length : Int) ≤ (t376.length : Int)) = true := decide_eq_true c34
          clear c34
          obtain ⟨y385, hy385⟩ : ∃ y_ : List Int, y_ = (t376.take ((l0.length : Int) : Int).toNat) := ⟨_, rfl⟩
          replace H : (pObj.j1 VA VO kj15 y385 l1 a2 a3 a4 a5 a6 a7 a8 a10 a11 a12) = some (r1, r2, r3, r4) := by first | (rw [hy385]; with_reducible exact H) | (have H2_ := (Option.bind_some _ _).symm.trans H; rw [hy385]; with_reducible exact H2_) | (have H2_ := (Option.bind_some _ _).symm.trans H; with_reducible exact H2_) | with_reducible exact H | (rw [hy385]; exact H) | exact H
          have Ny385 := Aside0.mk hy385
          clear hy385
          as_aux_lemma =>
           have H' := Aside0.mk H
           clear H
           obtain ⟨Ao35, co35, eo35⟩ := Kd.R_slice HO_0.out
           subst eo35
           go_wp2_with (first | ((with_reducible refine gate_callee (f := 35) rfl ?_); refine goesL_ (some 67) rfl rfl Try.func35 (by kernel_rfl) rfl #[.slice Ao35 l0.length co35, .slice A1 l1.length c1, .int .i64 a2, .int .u8 91, .int .u8 93, .bool false, .int .i64 a6, .string a7, .string (⟨#[]⟩ : ByteArray), .bool false, .int .i64 0, .int .i64 0, .int .i64 (wrap64 (a6 - (wrap64 ((l0.length : Int) - a11))))] rfl Z13 ?_; (with_reducible refine (VO.calls kj15 (fun k_ => some k_ = (.slice Ao35 l0.length co35 : Value).ownBlock) (.slice Ao35 l0.length co35) l0 (fun k_ => (((P0_ k_ ∨ P1_ k_) ∨ w.heap.size ≤ k_) ∧ some k_ ≠ (.slice Ao35 l0.length co35 : Value).ownBlock)) _ _ l1 a2 91 93 false a6 a7 (⟨#[]⟩ : ByteArray) false 0 0 (wrap64 (a6 - (wrap64 ((l0.length : Int) - a11)))) t376 t379 t380 false w0 _ ?side1 ?side2 ?side3 A21.out).mono ?_); (case side1 => exact Z5); (case side2 => exact Kd.R_tight rfl HO_0.out); (case side3 => exact Z157); rintro e w36 ⟨v377, rfl, ho0, hb, hkp⟩; refine ⟨_, rfl, ?_⟩; have n0_ := Aside0.mk (Kd.V_mono (ok' := fun k_ => ((P0_ k_ ∨ P1_ k_) ∨ w.heap.size ≤ k_) ∧ some k_ ≠ (v377 : Value).ownBlock) (Kd.V_keptB (HO_1.out) hkp (fun k_ hk_ hs_ => (hk_.2) hs_)) (fun k_ hk_ => ⟨hk_.1.1, fun e_ => Or.elim (ho0.1 k_ e_.symm) (fun hs_ => hk_.2.1 hs_) (fun hn_ => Nat.not_le.2 hk_.2.2 hn_)⟩)); have n1_ := Aside0.mk (Kd.R_mono (ok' := fun k_ => (P0_ k_ ∨ w.heap.size ≤ k_)) ho0 (fun k_ hk_ => Or.elim hk_ (fun hs_ => (HO_0.out.1 k_ (hs_).symm)) (fun hn_ => (.inr (Nat.le_trans Z35 hn_))))); have n2_ := Aside0.mk (Kept.then_ (S := (fun k_ => P0_ k_)) Z7 hkp (fun k_ hs_ => (fun e_ => (HO_0.out.1 k_ e_.symm)) hs_)); have n3_ := Aside0.mk (hb); clear HO_1; clear HK; clear HB; clear HO_0; have HO_1 := n0_; have HO378 := n1_; have HK := n2_; have HB := n3_; clear n0_ n1_ n2_ n3_; (try clear hb); (try clear hkp); (try clear ho0); obtain ⟨Ao37, co37, eo37⟩ := Kd.R_slice HO378.out; subst eo37; have q38 : ((l0.length : Int) : Int) ≤ ((t376.length : Int) : Int) := of_decide_eq_true Z11; obtain ⟨i038, hi038, _, hsz38, _⟩ := info_parts info5; have hcut38 := cut_to (P := Try.prog) 39 5 .i64 Try.underlying39 hi038 Ao37 t376.length co37 (l0.length : Int) (of_decide_eq_true Z11) q38 (Kd.R_reads' HO378.out).2.1; have hr38 := Kd.R_take (m := ((l0.length : Int) : Int).toNat) HO378.out (by omega); have hy38 : y385.length = ((l0.length : Int) : Int).toNat := (by rw [Ny385.out, List.length_take]; omega); rw [← Ny385.out] at hr38; rw [← hy38] at hr38 hcut38; clear hy38 hi038 hsz38 HO378; have HO387 := Aside0.mk hr38; clear hr38; replace q38 := eq_true q38))
           go_meet
           case rel => exact ⟨_, (y385), (a2), Z16, H', ⟨Z163⟩, ⟨by (with_reducible repeat (first | apply Kd.R_alloc | apply Kd.R_drewN | apply Kd.R_drew)); exact HO387.out⟩, ⟨Z58⟩, ⟨Z7⟩, ⟨Z5⟩⟩
         ·rw [if_neg c34] at H
          exact absurd H (by simp)
        ·rw [if_neg c33] at H
         exact absurd H (by simp)
      ·rw [if_neg c20] at H
       have c20b0 : decide (3 < (wrap64 (a6 - (wrap64 ((l0.length : Int) - a11))))) = false := decide_eq_false c20
       clear c20
       as_aux_lemma =>
        have H' := Aside0.mk H
        clear H
        obtain ⟨Ao39, co39, eo39⟩ := Kd.R_slice HO_0.out
        subst eo39
        go_wp2
        go_meet
        case rel => exact ⟨_, (l0), (a2), Z16, H', ⟨Z163⟩, ⟨Z41⟩, ⟨Z58⟩, ⟨Z7⟩, ⟨Z5⟩⟩
     ·replace c19 := Bool.eq_false_iff.mpr c19
      subst c19
      have H1 : (if a12 = (-1) then (pObj.j1 VA VO kj15 l0 l1 a2 a3 a4 a5 a6 a7 a8 a10 a11 a12) else (if a3 = 123 then (some (l0, a2, a11, false)) else (pObj.j1 VA VO kj15 l0 l1 a2 a3 a4 a5 a6 a7 a8 a10 a11 a12))) = some (r1, r2, r3, r4) := Z34
      clear H
      have H := H1
      clear H1
      by_cases c40 : a12 = (-1)
      ·rw [if_pos c40] at H
       have c40b0 : (a12 == (-1)) = true := beq_iff_eq.mpr c40
       have c40b1 : (a12 != (-1)) = false := bne_eq_false_iff_eq.mpr c40
       clear c40
       as_aux_lemma =>
        have H' := Aside0.mk H
        clear H
        go_wp2
        go_meet
        case rel => exact ⟨_, (l0), (a2), Z16, H', ⟨Z163⟩, ⟨Z41⟩, ⟨Z58⟩, ⟨Z7⟩, ⟨Z5⟩⟩
      ·rw [if_neg c40] at H
       have c40b0 : (a12 == (-1)) = false := beq_eq_false_iff_ne.mpr c40
       have c40b1 : (a12 != (-1)) = true := bne_iff_ne.mpr c40
       by_cases c41 : a3 = 123
       ·rw [if_pos c41] at H
        have c41b0 : (a3 == 123) = true := beq_iff_eq.mpr c41
        have c41b1 : (a3 != 123) = false := bne_eq_false_iff_eq.mpr c41
        clear c41
        as_aux_lemma =>
         simp only [Option.some.injEq, Prod.mk.injEq] at H
         obtain ⟨rfl, rfl, rfl, rfl⟩ := H
         go_wp2
         refine bodyPost_ret (results_list (rs := [.tmp 26, .tmp 27, .tmp 28, .tmp 29]) rfl (by simp) (.tmp (.tmp (.tmp (.tmp .nil))))) rfl ?_
         exact ⟨_, Z15, Z25, Z5, Z7⟩
       ·rw [if_neg c41] at H
        have c41b0 : (a3 == 123) = false := beq_eq_false_iff_ne.mpr c41
        have c41b1 : (a3 != 123) = true := bne_iff_ne.mpr c41
        as_aux_lemma =>
         have H' := Aside0.mk H
         clear H
         go_wp2
         go_meet
         case rel => exact ⟨_, (l0), (a2), Z16, H', ⟨Z163⟩, ⟨Z41⟩, ⟨Z58⟩, ⟨Z7⟩, ⟨Z5⟩⟩
  ·rw [if_neg c15] at H
   have c15b0 : decide (0 < a6) = false := decide_eq_false c15
   clear c15
   (first | rw [c15b0] | (simp only [i64_w, i32_w]; rw [c15b0]) | skip)
   as_aux_lemma =>
    have H' := Aside0.mk H
    clear H
    go_wp2
    go_meet
    case rel => exact ⟨_, (l0), (a2), Z16, H', ⟨Z88⟩, ⟨Z54⟩, ⟨Z131⟩, ⟨Z7⟩, ⟨Z5⟩⟩
 case rest =>
  clear HC14
  try clear c1
  obtain ⟨kq, x0_13, x2_13, rfl, HA, HJ13, HO_0, HO_1, HK, HB⟩ := hcut
  cases kq with
  | zero => exact absurd HA.out (by simp [pObj.j1])
  | succ kj13 =>
   have H := HA.out
   clear HA
   simp only [pObj.j1] at H
   by_cases c42 : x0_13.length < 140737488355328
   ·rw [if_pos c42] at H
    have LMc42 := Aside0.mk c42
    clear c42
    obtain ⟨y388, hy388⟩ : ∃ y_ : List Int, y_ = (x0_13 ++ [a3]) := ⟨_, rfl⟩
    replace H : (if a3 = 123 then (pObj.j2 VA VO kj13 y388 l1 (wrap64 (x2_13 + 1)) a3 a4 a5 a6 a7 a8 a10 a11 a12 ([] : List (S69)) false) else (pObj.j2 VA VO kj13 y388 l1 (wrap64 (x2_13 + 1)) a3 a4 a5 a6 a7 a8 a10 a11 a12 ([] : List (S69)) false)) = some (r1, r2, r3, r4) := by first | (rw [hy388]; with_reducible exact H) | (have H2_ := (Option.bind_some _ _).symm.trans H; rw [hy388]; with_reducible exact H2_) | (have H2_ := (Option.bind_some _ _).symm.trans H; with_reducible exact H2_) | with_reducible exact H | (rw [hy388]; exact H) | exact H
    have Ny388 := Aside0.mk hy388
    clear hy388
    have HC43 := Aside0.mk H
    clear H
    go_upto_region 17 with (first | ((with_reducible refine gate_builtin (b := .append) (xs := #[.tmp 97, .tmp 99]) rfl ?_); (try (refine gate_guard (by rfl) ?_; dsimp only)); at_builtin; refine Kd.R_append (Kd.int .u8) (w0 := w0) w0.heap.size rfl (.tmp 97) (.tmp 99) 39 5 (.int .u8 0) 1 rfl Try.underlying39 info5 rfl (by decide) (by omega) u0 x0_13 a3 [.int .u8 a3] (fun k_ => (P0_ k_ ∨ w.heap.size ≤ k_)) (fun _ => False) rfl rfl ?aP (fun _ hk => hk.elim) ?aF ?aO ?aB ?aS ?aL ?_; (case aP => exact rfl); (case aB => exact Z5); (case aF => exact Z87); (case aO => exact Z25); (case aS => exact (below_size Z5)); (case aL => have := LMc42.out; omega); intro v389 w44 ho hb hg hat; rw [← Ny388.out] at ho; have n0_ := Aside0.mk (Kd.V_afterv (ok := (fun k_ => ((P0_ k_ ∨ P1_ k_) ∨ w.heap.size ≤ k_))) Z107 hg hat); have n1_ := Aside0.mk (hb); have n2_ := Aside0.mk (Kept.of_grown (S := (fun k_ => P0_ k_)) hg Z7 (fun k_ e_ => (HO_0.out.1 k_ e_))); have n3_ := Aside0.mk (ho); clear HO_1; clear HB; clear HK; clear HO_0; have HO_1 := n0_; have HB := n1_; have HK := n2_; have HO390 := n3_; clear n0_ n1_ n2_ n3_; clear ho hb hg hat))
    (try simp only [Act.put, List.setIfInBounds_toArray, List.set_cons_zero, List.set_cons_succ])
    go_cut [107] from 98 to 102 (fun v107 wc => ∃ (kq : Nat) (x107_42 : Bool), v107 = .bool x107_42 ∧ Aside0 (pObj.j2 VA VO kq y388 l1 (wrap64 (x2_13 + 1)) a3 a4 a5 a6 a7 a8 a10 a11 a12 ([] : List (S69)) x107_42 = some (r1, r2, r3, r4)) ∧ Aside0 (kq ≤ kj13) ∧ Aside0 (Kd.R (Kd.int .u8) 5 wc w0.heap.size (fun k_ => (P0_ k_ ∨ w.heap.size ≤ k_)) v389 y388) ∧ Aside0 (Kd.V (Kd.int .u8) 5 wc w0.heap.size (fun k_ => ((P0_ k_ ∨ P1_ k_) ∨ w.heap.size ≤ k_) ∧ some k_ ≠ (v389 : Value).ownBlock ∧ some k_ ≠ ((.slice none 0 0) : Value).ownBlock) (.slice A1 l1.length c1) l1) ∧ Aside0 (Kd.R k69 69 wc w0.heap.size (fun k_ => (P0_ k_ ∨ w.heap.size ≤ k_)) (.slice none 0 0) ([] : List (S69))) ∧ Aside0 (Kept w wc (fun k_ => P0_ k_)) ∧ Aside0 (Below w0.heap.size w0 wc))
    case first =>
     have H := HC43.out
     clear HC43
     by_cases c45 : a3 = 123
     ·rw [if_pos c45] at H
      have c45b0 : (a3 == 123) = true := beq_iff_eq.mpr c45
      have c45b1 : (a3 != 123) = false := bne_eq_false_iff_eq.mpr c45
      clear c45
      (first | rw [c45b0] | (simp only [i64_w, i32_w]; rw [c45b0]) | skip)
      as_aux_lemma =>
       have H' := Aside0.mk H
       clear H
       go_wp2
       go_meet
       case rel => exact ⟨_, (false), Z16, H', ⟨by have := HJ13.out; first | omega | exact Nat.le_refl _⟩, ⟨by (with_reducible repeat (first | apply Kd.R_alloc | apply Kd.R_drewN | apply Kd.R_drew)); exact HO390.out⟩, ⟨Z173⟩, ⟨Z30⟩, ⟨Z7⟩, ⟨Z5⟩⟩
     ·rw [if_neg c45] at H
      have c45b0 : (a3 == 123) = false := beq_eq_false_iff_ne.mpr c45
      have c45b1 : (a3 != 123) = true := bne_iff_ne.mpr c45
      (first | rw [c45b0] | (simp only [i64_w, i32_w]; rw [c45b0]) | skip)
      as_aux_lemma =>
       have H' := Aside0.mk H
       clear H
       go_wp2
       go_meet
       case rel => exact ⟨_, (false), Z16, H', ⟨by have := HJ13.out; first | omega | exact Nat.le_refl _⟩, ⟨by (with_reducible repeat (first | apply Kd.R_alloc | apply Kd.R_drewN | apply Kd.R_drew)); exact HO390.out⟩, ⟨Z173⟩, ⟨Z30⟩, ⟨Z7⟩, ⟨Z5⟩⟩
    case rest =>
     clear HC43
     try clear c1
     try clear c42
     obtain ⟨kq, x107_42, rfl, HA, HJ42, HO_0, HO_1, HO_34, HK, HB⟩ := hcut
     cases kq with
     | zero => exact absurd HA.out (by simp [pObj.j2])
     | succ kj42 =>
      have H := HA.out
      clear HA
      simp only [pObj.j2] at H
      by_cases c46 : x107_42 = true
      ·subst c46
       have H1 : (none) = some (r1, r2, r3, r4) := Z61
       clear H
       have H := H1
       clear H1
       exact absurd H (by simp)
      ·replace c46 := Bool.eq_false_iff.mpr c46
       subst c46
       have H1 : (pObj.l0 VA VO kj42 y388 l1 (wrap64 (x2_13 + 1)) a3 a4 a5 a6 a7 a8 a10 a11 a12 ([] : List (S69)) 0) = some (r1, r2, r3, r4) := Z34
       clear H
       have H := H1
       clear H1
       have H' := Aside0.mk H
       clear H
       go_wp2
       (try simp only [Act.put, List.setIfInBounds_toArray, List.set_cons_zero, List.set_cons_succ])
       go_loopg [0, 2, 9, 11, 34, 35] kj42 (fun kq v0 v2 v9 v11 v34 v35 w' => ∃ (x0_3 : List Int) (x1_3 : List Int) (x2_3 : Int) (x11_3 : Int) (x34_3 : List (S69)) (x35_3 : Int), v2 = .int .i64 x2_3 ∧ v9 = .bool false ∧ v11 = .int .i64 x11_3 ∧ v35 = .int .i64 x35_3 ∧ Aside0 (pObj.l0 VA VO kq x0_3 x1_3 x2_3 a3 a4 a5 a6 a7 a8 a10 x11_3 a12 x34_3 x35_3 = some (r1, r2, r3, r4)) ∧ Aside0 (kq ≤ kj42) ∧ Aside0 (Kd.R (Kd.int .u8) 5 w' w0.heap.size (fun k_ => (P0_ k_ ∨ w.heap.size ≤ k_)) v0 x0_3) ∧ Aside0 (Kd.V (Kd.int .u8) 5 w' w0.heap.size (fun k_ => ((P0_ k_ ∨ P1_ k_) ∨ w.heap.size ≤ k_) ∧ some k_ ≠ (v0 : Value).ownBlock ∧ some k_ ≠ (v34 : Value).ownBlock) (.slice A1 l1.length c1) x1_3) ∧ Aside0 (Kd.R k69 69 w' w0.heap.size (fun k_ => (P0_ k_ ∨ w.heap.size ≤ k_)) v34 x34_3) ∧ Aside0 (Kept w w' (fun k_ => P0_ k_)) ∧ Aside0 (Below w0.heap.size w0 w'))
       case atStart => exact ⟨(y388), (l1), ((wrap64 (x2_13 + 1))), (a11), (([] : List (S69))), (0), Z16, Z16, Z16, Z16, H', ⟨Nat.le_refl _⟩, ⟨Z41⟩, ⟨Z58⟩, ⟨by (with_reducible repeat (first | apply Kd.R_alloc | apply Kd.R_drewN | apply Kd.R_drew)); first | exact HO_34.out | exact Kd.V_len HO_34.out⟩, ⟨Z7⟩, ⟨Z5⟩⟩
       case round =>
        clear H'
        try clear c1
        try clear c42
        try clear c46
        obtain ⟨x0_3, x1_3, x2_3, x11_3, x34_3, x35_3, rfl, rfl, rfl, rfl, HA, HK3, HO_0, HO_1, HO_34, HK, HB⟩ := hrel
        have hl1_3 := (Kd.V_reads' HO_1.out).1
        rw [hl1_3] at HO_1
        (try simp only [hl1_3])
        (try simp only [hl1_3] at HO_0)
        (try simp only [hl1_3] at HO_34)
        cases gk with
        | zero => exact absurd HA.out (by simp [pObj.l0])
        | succ k3 =>
         have H := HA.out
         clear HA
         simp only [pObj.l0] at H
         by_cases c47 : x2_3 < (x1_3.length : Int)
         ·rw [if_pos c47] at H
          have c47b0 : decide (x2_3 < (x1_3.length : Int)) = true := decide_eq_true c47
          clear c47
          by_cases c48 : 0 ≤ x2_3
          ·rw [if_pos c48] at H
           have c48b0 : decide (0 ≤ x2_3) = true := decide_eq_true c48
           clear c48
           by_cases c49 : (rd x1_3 x2_3) ≤ 32
           ·rw [if_pos c49] at H
            have c49b0 : decide ((rd x1_3 x2_3) ≤ 32) = true := decide_eq_true c49
            clear c49
            as_aux_lemma =>
             have H' := Aside0.mk H
             clear H
             have p391 : 0 ≤ (x2_3 : Int) := of_decide_eq_true Z11
             have q391 : x2_3 < (x1_3.length : Int) := of_decide_eq_true Z11
             obtain ⟨ad391, e391, hx391_0⟩ := Kd.at_int (Kd.V_reads' HO_1.out).2.2 x2_3 p391 q391
             cases e391
             replace p391 := eq_true p391
             replace q391 := eq_true q391
             go_wp2
             (try simp only [← hl1_3])
             go_roundg k3
             case measure => have := HJ13.out; have := HJ42.out; have := HK3.out; omega
             case rel => exact ⟨(x0_3), (x1_3), (wrap64 (x2_3 + 1)), (x11_3), (x34_3), (x35_3), Z16, Z16, Z16, Z16, H', ⟨by have := HJ13.out; have := HJ42.out; have := HK3.out; omega⟩, ⟨Z72⟩, ⟨Z89⟩, ⟨Z53⟩, ⟨Z7⟩, ⟨Z5⟩⟩
           ·rw [if_neg c49] at H
            have c49b0 : decide ((rd x1_3 x2_3) ≤ 32) = false := decide_eq_false c49
            clear c49
            by_cases c50 : (rd x1_3 x2_3) = a4
            ·rw [if_pos c50] at H
             have c50b0 : ((rd x1_3 x2_3) == a4) = true := beq_iff_eq.mpr c50
             have c50b1 : ((rd x1_3 x2_3) != a4) = false := bne_eq_false_iff_eq.mpr c50
             clear c50
             by_cases c51 : a5 = true
             ·subst c51
              have H1 : (if a3 = 123 then (pObj.j4 VA VO k3 x0_3 x1_3 x2_3 a3 a4 a7 a8 a10 x11_3 x34_3 x35_3 false) else (pObj.j4 VA VO k3 x0_3 x1_3 x2_3 a3 a4 a7 a8 a10 x11_3 x34_3 x35_3 false)) = some (r1, r2, r3, r4) := Z61
              clear H
              have H := H1
              clear H1
              have HC52 := Aside0.mk H
              clear H
              have p391 : 0 ≤ (x2_3 : Int) := of_decide_eq_true Z11
              have q391 : x2_3 < (x1_3.length : Int) := of_decide_eq_true Z11
              obtain ⟨ad391, e391, hx391_0⟩ := Kd.at_int (Kd.V_reads' HO_1.out).2.2 x2_3 p391 q391
              cases e391
              replace p391 := eq_true p391
              replace q391 := eq_true q391
              have p392 : 0 ≤ (x2_3 : Int) := of_decide_eq_true Z11
              have q392 : x2_3 < (x1_3.length : Int) := of_decide_eq_true Z11
              obtain ⟨ad392, e392, hx392_0⟩ := Kd.at_int (Kd.V_reads' HO_1.out).2.2 x2_3 p392 q392
              obtain rfl : ad391 = ad392 := (by injection e392)
              replace p392 := eq_true p392
              replace q392 := eq_true q392
              go_upto_region 25 with (fail)
              go_cut [131] from 109 to 124 (fun v131 wc => ∃ (kq : Nat) (x131_51 : Bool), v131 = .bool x131_51 ∧ Aside0 (pObj.j4 VA VO kq x0_3 x1_3 x2_3 a3 a4 a7 a8 a10 x11_3 x34_3 x35_3 x131_51 = some (r1, r2, r3, r4)) ∧ Aside0 (kq ≤ k3) ∧ Aside0 (Kd.R (Kd.int .u8) 5 wc w0.heap.size (fun k_ => (P0_ k_ ∨ w.heap.size ≤ k_)) u0 x0_3) ∧ Aside0 (Kd.V (Kd.int .u8) 5 wc w0.heap.size (fun k_ => ((P0_ k_ ∨ P1_ k_) ∨ w.heap.size ≤ k_) ∧ some k_ ≠ (u0 : Value).ownBlock ∧ some k_ ≠ (u34 : Value).ownBlock) (.slice (some ad391) x1_3.length c1) x1_3) ∧ Aside0 (Kd.R k69 69 wc w0.heap.size (fun k_ => (P0_ k_ ∨ w.heap.size ≤ k_)) u34 x34_3) ∧ Aside0 (Kept w wc (fun k_ => P0_ k_)) ∧ Aside0 (Below w0.heap.size w0 wc))
              case first =>
               have H := HC52.out
               clear HC52
               by_cases c53 : a3 = 123
               ·rw [if_pos c53] at H
                have c53b0 : (a3 == 123) = true := beq_iff_eq.mpr c53
                have c53b1 : (a3 != 123) = false := bne_eq_false_iff_eq.mpr c53
                clear c53
                (first | rw [c53b0] | (simp only [i64_w, i32_w]; rw [c53b0]) | skip)
                as_aux_lemma =>
                 have H' := Aside0.mk H
                 clear H
                 go_wp2
                 go_meet
                 case rel => exact ⟨_, (false), Z16, H', ⟨Z152⟩, ⟨Z72⟩, ⟨Z89⟩, ⟨Z53⟩, ⟨Z7⟩, ⟨Z5⟩⟩
               ·rw [if_neg c53] at H
                have c53b0 : (a3 == 123) = false := beq_eq_false_iff_ne.mpr c53
                have c53b1 : (a3 != 123) = true := bne_iff_ne.mpr c53
                (first | rw [c53b0] | (simp only [i64_w, i32_w]; rw [c53b0]) | skip)
                as_aux_lemma =>
                 have H' := Aside0.mk H
                 clear H
                 go_wp2
                 go_meet
                 case rel => exact ⟨_, (false), Z16, H', ⟨Z152⟩, ⟨Z72⟩, ⟨Z89⟩, ⟨Z53⟩, ⟨Z7⟩, ⟨Z5⟩⟩
              case rest =>
               clear HC52
               try clear c1
               try clear c42
               try clear c46
               try clear c47
               try clear c47b0
               try clear c48
               try clear c48b0
               try clear c49
               try clear c49b0
               try clear c50
               try clear c50b0
               try clear c50b1
               try clear c51
               try clear hx391_0
               try clear hx392_0
               try clear p391
               try clear p392
               try clear q391
               try clear q392
               obtain ⟨kq, x131_51, rfl, HA, HJ51, HO_0, HO_1, HO_34, HK, HB⟩ := hcut
               cases kq with
               | zero => exact absurd HA.out (by simp [pObj.j4])
               | succ kj51 =>
                have H := HA.out
                clear HA
                simp only [pObj.j4] at H
                have HC54 := Aside0.mk H
                clear H
                go_upto_if 131 with (fail)
                go_cut [0] from 131 to 131 (fun v0 wc => ∃ (kq : Nat) (x0_53 : List Int), Aside0 (pObj.j5 VA VO kq x0_53 x2_3 a3 a4 a7 a8 a10 x11_3 x35_3 = some (r1, r2, r3, r4)) ∧ Aside0 (kq ≤ kj51) ∧ Aside0 (Kd.R (Kd.int .u8) 5 wc w0.heap.size (fun k_ => (P0_ k_ ∨ w.heap.size ≤ k_)) v0 x0_53) ∧ Aside0 (Kept w wc (fun k_ => P0_ k_)) ∧ Aside0 (Below w0.heap.size w0 wc))
                case first =>
                 have H := HC54.out
                 clear HC54
                 by_cases c55 : x131_51 = true
                 ·subst c55
                  have H1 : ((pretty_sortPairs.f x1_3 x0_3 x34_3).bind fun t393 => (pObj.j5 VA VO kj51 t393 x2_3 a3 a4 a7 a8 a10 x11_3 x35_3)) = some (r1, r2, r3, r4) := Z61
                  clear H
                  have H := H1
                  clear H1
                  replace H := Option.bind_eq_some_iff.mp H
                  obtain ⟨t393, A560, H⟩ := H
                  replace H : (pObj.j5 VA VO kj51 t393 x2_3 a3 a4 a7 a8 a10 x11_3 x35_3) = some (r1, r2, r3, r4) := H
                  have A56 := Aside0.mk A560
                  clear A560
                  as_aux_lemma =>
                   have H' := Aside0.mk H
                   clear H
                   obtain ⟨Ao57, co57, eo57⟩ := Kd.R_slice HO_0.out
                   subst eo57
                   obtain ⟨Ao58, co58, eo58⟩ := Kd.R_slice HO_34.out
                   subst eo58
                   go_wp2_with (first | ((with_reducible refine gate_callee (f := 39) rfl ?_); refine goesL_ (some 135) rfl rfl Try.func39 (by kernel_rfl) rfl #[.slice (some ad391) x1_3.length c1, .slice Ao57 x0_3.length co57, .slice Ao58 x34_3.length co58] rfl Z13 ?_; (with_reducible refine (pretty_sortPairs.calls _ _ x1_3 (fun k_ => some k_ = (.slice Ao57 x0_3.length co57 : Value).ownBlock) (.slice Ao57 x0_3.length co57) x0_3 _ _ x34_3 t393 w0 _ ?side1 ?side2 ?side3 ?side4 ?side5 ?side6 A56.out).mono ?_); (case side1 => exact Z5); (case side2 => exact Kd.C_kept_ownV (HO_1.out) (fun k_ hk_ hs_ => (hk_.2.1) hs_)); (case side3 => exact (Kd.V_reads' HO_1.out).2.1); (case side4 => exact Kd.R_tight rfl HO_0.out); (case side5 => exact Kd.C_kept_own ((Kd.R_apart' HO_34.out (Kd.R_typed HO_0.out) (by decide))) (fun k_ hk_ hs_ => (hk_.2) hs_)); (case side6 => exact (Kd.R_reads' HO_34.out).2.1); rintro e w59 ⟨v394, rfl, ho0, hb, hkp⟩; refine ⟨_, rfl, ?_⟩; have n0_ := Aside0.mk (Kd.V_mono (ok' := fun k_ => ((P0_ k_ ∨ P1_ k_) ∨ w.heap.size ≤ k_) ∧ some k_ ≠ (.slice Ao58 x34_3.length co58 : Value).ownBlock ∧ some k_ ≠ (v394 : Value).ownBlock) (Kd.V_keptB (HO_1.out) hkp (fun k_ hk_ hs_ => (hk_.2.1) hs_)) (fun k_ hk_ => ⟨hk_.1.1, hk_.1.2.2, fun e_ => Or.elim (ho0.1 k_ e_.symm) (fun hs_ => hk_.2.1 hs_) (fun hn_ => Nat.not_le.2 hk_.2.2 hn_)⟩)); have n1_ := Aside0.mk (Kd.R_mono (ok' := fun k_ => (P0_ k_ ∨ w.heap.size ≤ k_)) (Kd.R_keptB ((Kd.R_apart' HO_34.out (Kd.R_typed HO_0.out) (by decide))) hkp (fun k_ hk_ hs_ => (hk_.2) hs_)) (fun k_ hk_ => hk_.1.1)); have n2_ := Aside0.mk (Kd.R_mono (ok' := fun k_ => (P0_ k_ ∨ w.heap.size ≤ k_)) ho0 (fun k_ hk_ => Or.elim hk_ (fun hs_ => (HO_0.out.1 k_ (hs_).symm)) (fun hn_ => (.inr (Nat.le_trans Z35 hn_))))); have n3_ := Aside0.mk (Kept.then_ (S := (fun k_ => P0_ k_)) Z7 hkp (fun k_ hs_ => (fun e_ => (HO_0.out.1 k_ e_.symm)) hs_)); have n4_ := Aside0.mk (hb); clear HO_1; clear HO_34; clear HK; clear HB; clear HO_0; have HO_1 := n0_; have HO_34 := n1_; have HO395 := n2_; have HK := n3_; have HB := n4_; clear n0_ n1_ n2_ n3_ n4_; (try clear hb); (try clear hkp); (try clear ho0)))
                   go_meet
                   case rel => exact ⟨_, (t393), H', ⟨by have := HJ13.out; have := HJ42.out; have := HK3.out; have := HJ51.out; first | omega | exact Nat.le_refl _⟩, ⟨by (try simp only [hl1_3]); (with_reducible repeat (first | apply Kd.R_alloc | apply Kd.R_drewN | apply Kd.R_drew)); exact HO395.out⟩, ⟨Z7⟩, ⟨Z5⟩⟩
                 ·replace c55 := Bool.eq_false_iff.mpr c55
                  subst c55
                  have H1 : (pObj.j5 VA VO kj51 x0_3 x2_3 a3 a4 a7 a8 a10 x11_3 x35_3) = some (r1, r2, r3, r4) := Z34
                  clear H
                  have H := H1
                  clear H1
                  as_aux_lemma =>
                   have H' := Aside0.mk H
                   clear H
                   go_wp2
                   go_meet
                   case rel => exact ⟨_, (x0_3), H', ⟨by have := HJ13.out; have := HJ42.out; have := HK3.out; have := HJ51.out; first | omega | exact Nat.le_refl _⟩, ⟨Z72⟩, ⟨Z7⟩, ⟨Z5⟩⟩
                case rest =>
                 clear HC54
                 try clear c1
                 try clear c42
                 try clear c46
                 try clear c47
                 try clear c47b0
                 try clear c48
                 try clear c48b0
                 try clear c49
                 try clear c49b0
                 try clear c50
                 try clear c50b0
                 try clear c50b1
                 try clear c51
                 try clear hx391_0
                 try clear hx392_0
                 try clear p391
                 try clear p392
                 try clear q391
                 try clear q392
                 obtain ⟨kq, x0_53, HA, HJ53, HO_0, HK, HB⟩ := hcut
                 cases kq with
                 | zero => exact absurd HA.out (by simp [pObj.j5])
                 | succ kj53 =>
                  have H := HA.out
                  clear HA
                  simp only [pObj.j5] at H
                  by_cases c60 : x35_3 > 0
                  ·rw [if_pos c60] at H
                   have c60b0 : decide (0 < x35_3) = true := decide_eq_true c60
                   clear c60
                   obtain ⟨ji61, hji61⟩ : ∃ j_ : Int, (wrap64 ((x0_53.length : Int) - 1)) = j_ := ⟨_, rfl⟩
                   replace H : (if 0 ≤ (ji61) then (if (ji61) < (x0_53.length : Int) then (if (rd x0_53 (ji61)) = 32 then ((some (x0_53.set ((ji61) : Int).toNat 10 : List Int)).bind fun y397 => (if (rd y397 (ji61)) = a3 then (if y397.length < 140737488355328 then (some ((y397 ++ [a4]), wrap64 (x2_3 + 1), (x0_53.length : Int), (a3 != 123))) else (none)) else ((pretty_appendTabs.f kj53 y397 a7 a8 a10).bind fun t402 => (if t402.length < 140737488355328 then (some ((t402 ++ [a4]), wrap64 (x2_3 + 1), (x0_53.length : Int), (a3 != 123))) else (none))))) else (if x0_53.length < 140737488355328 then ((some (x0_53 ++ [10] : List Int)).bind fun y408 => (if 0 ≤ (wrap64 ((y408.length : Int) - 1)) then (if (wrap64 ((y408.length : Int) - 1)) < (y408.length : Int) then (if (rd y408 (wrap64 ((y408.length : Int) - 1))) = a3 then (if y408.length < 140737488355328 then (some ((y408 ++ [a4]), wrap64 (x2_3 + 1), (x0_53.length : Int), (a3 != 123))) else (none)) else ((pretty_appendTabs.f kj53 y408 a7 a8 a10).bind fun t415 => (if t415.length < 140737488355328 then (some ((t415 ++ [a4]), wrap64 (x2_3 + 1), (x0_53.length : Int), (a3 != 123))) else (none)))) else (none)) else (none))) else (none))) else (none)) else (none)) = some (r1, r2, r3, r4) := by first | (rw [hji61] at H; exact H) | (simp only [hji61] at H ⊢; exact H)
                   have hji61w : (IntKind.i64.wrap ((x0_53.length : Int) - 1)) = ji61 := (i64_w _).trans hji61
                   by_cases c62 : 0 ≤ (ji61)
                   ·rw [if_pos c62] at H
                    have c62b0 : decide (0 ≤ (ji61)) = true := decide_eq_true c62
                    clear c62
                    by_cases c63 : (ji61) < (x0_53.length : Int)
                    ·rw [if_pos c63] at H
                     have c63b0 : decide ((ji61) < (x0_53.length : Int)) = true := decide_eq_true c63
                     clear c63
                     by_cases c64 : (rd x0_53 (ji61)) = 32
                     ·rw [if_pos c64] at H
                      have c64b0 : ((rd x0_53 (ji61)) == 32) = true := beq_iff_eq.mpr c64
                      have c64b1 : ((rd x0_53 (ji61)) != 32) = false := bne_eq_false_iff_eq.mpr c64
                      clear c64
                      obtain ⟨y397, hy397⟩ : ∃ y_ : List Int, y_ = (x0_53.set ((ji61) : Int).toNat 10) := ⟨_, rfl⟩
                      replace H : (if (rd y397 (ji61)) = a3 then (if y397.length < 140737488355328 then (some ((y397 ++ [a4]), wrap64 (x2_3 + 1), (x0_53.length : Int), (a3 != 123))) else (none)) else ((pretty_appendTabs.f kj53 y397 a7 a8 a10).bind fun t402 => (if t402.length < 140737488355328 then (some ((t402 ++ [a4]), wrap64 (x2_3 + 1), (x0_53.length : Int), (a3 != 123))) else (none)))) = some (r1, r2, r3, r4) := by first | (rw [hy397]; with_reducible exact H) | (have H2_ := (Option.bind_some _ _).symm.trans H; rw [hy397]; with_reducible exact H2_) | (have H2_ := (Option.bind_some _ _).symm.trans H; with_reducible exact H2_) | with_reducible exact H | (rw [hy397]; exact H) | exact H
                      have Ny397 := Aside0.mk hy397
                      clear hy397
                      by_cases c66 : (rd y397 (ji61)) = a3
                      ·rw [if_pos c66] at H
                       have c66b0 : ((rd y397 (ji61)) == a3) = true := beq_iff_eq.mpr c66
                       have c66b1 : ((rd y397 (ji61)) != a3) = false := bne_eq_false_iff_eq.mpr c66
                       clear c66
                       by_cases c67 : y397.length < 140737488355328
                       ·rw [if_pos c67] at H
                        have LMc67 := Aside0.mk c67
                        clear c67
                        obtain ⟨y399, hy399⟩ : ∃ y_ : List Int, y_ = (y397 ++ [a4]) := ⟨_, rfl⟩
                        replace H : (some (y399, wrap64 (x2_3 + 1), (x0_53.length : Int), (a3 != 123))) = some (r1, r2, r3, r4) := by first | (rw [hy399]; with_reducible exact H) | (have H2_ := (Option.bind_some _ _).symm.trans H; rw [hy399]; with_reducible exact H2_) | (have H2_ := (Option.bind_some _ _).symm.trans H; with_reducible exact H2_) | with_reducible exact H | (rw [hy399]; exact H) | exact H
                        have Ny399 := Aside0.mk hy399
                        clear hy399
                        as_aux_lemma =>
                         simp only [Option.some.injEq, Prod.mk.injEq] at H
                         obtain ⟨rfl, rfl, rfl, rfl⟩ := H
                         obtain ⟨Ao68, co68, eo68⟩ := Kd.R_slice HO_0.out
                         subst eo68
                         have p396 : 0 ≤ ((ji61) : Int) := of_decide_eq_true Z11
                         have q396 : (ji61) < (x0_53.length : Int) := of_decide_eq_true Z11
                         obtain ⟨ad396, e396, hx396_0⟩ := Kd.at_int (Kd.R_reads' HO_0.out).2.2 (ji61) p396 q396
                         cases e396
                         replace p396 := eq_true p396
                         replace q396 := eq_true q396
                         have p65 : 0 ≤ ((ji61) : Int) := of_decide_eq_true Z11
                         have q65 : ((ji61) : Int) < ((x0_53.length : Int) : Int) := of_decide_eq_true Z11
                         obtain ⟨go65, co65, eo65, gb65, gl65, cl65, HG65⟩ := Kd.R_form HO_0.out (by omega)
                         (first | cases eo65 | (injection eo65 with ea_ en_ ec_; (first | subst ea_ | (injection ea_ with ea_; subst ea_)); subst ec_; clear en_))
                         have GB65 := Aside0.mk gb65
                         have GG65 := Aside0.mk HG65
                         clear gb65 gl65 HG65
                         have HMgo65 := Aside0.mk (show (P0_ go65 ∨ w.heap.size ≤ go65) from (HO_0.out.1 _ rfl))
                         (first | simp only [add_plain] at hx396_0 | skip)
                         obtain ⟨hx65_0, hf65_0⟩ := Kd.R_celln 0 HO_0.out ((ji61) : Int) p65 q65
                         replace p65 := eq_true p65
                         replace q65 := eq_true q65
                         have HP69 := Kd.R_putg HO_0.out ((ji61) : Int) 10
                         go_wp2_with (first | ((with_reducible refine gate_store (t := 5) (p := 149) rfl ?_); refine store_event (t := 5) (p := 149) (v := ?vo_w70) (w1 := (wc.setCell ⟨go65, ((ji61) : Int).toNat, none⟩ (.int .u8 10))) ?hg ?ho ?hn ?hr ?_; (case ho => rfl); (case hg => rfl); (case hn => rfl); (case hr => exact Z62); intro w70 hw; have hg : wc.grownBy w70 (some go65) := (by rw [hw]; exact HP69.2); have hp_ : Kd.R (Kd.int .u8) 5 w70 w0.heap.size (fun k_ => (P0_ k_ ∨ w.heap.size ≤ k_)) (.slice (some ⟨go65, 0, none⟩) x0_53.length co68) y397 := (by rw [hw, Ny397.out]; exact HP69.1); clear HP69; have n0_ := Aside0.mk (hp_); have n1_ := Aside0.mk ((by rw [hw]; exact below_set (HB.out) GB65.out : Below w0.heap.size w0 w70)); have n2_ := Aside0.mk (Kept.of_grown (S := (fun k_ => P0_ k_)) hg Z7 (fun k_ e_ => (HO_0.out.1 k_ e_))); clear HO_0; clear HB; clear HK; have HO_0 := n0_; have HB := n1_; have HK := n2_; clear n0_ n1_ n2_; clear hg hw hp_; have p398 : 0 ≤ ((ji61) : Int) := of_decide_eq_true Z11; have q398 : (ji61) < (y397.length : Int) := (by have h_ : ((ji61) : Int) < ((x0_53.length : Int) : Int) := of_decide_eq_true Z11; first | (have e_ := (Kd.R_reads' HO_0.out).1; omega) | simpa only [Ny397.out, List.length_set] using h_); have ql398 : (((ji61) : Int) < ((x0_53.length : Int) : Int)) = True := eq_true (of_decide_eq_true Z11); obtain ⟨ad398, e398, hx398_0⟩ := Kd.at_int (Kd.R_reads' HO_0.out).2.2 (ji61) p398 q398; obtain rfl : (⟨go65, 0, none⟩ : Addr) = ad398 := (by injection e398); (first | simp only [add_plain] at hx398_0 | simp only [add_at] at hx398_0 | simp only [Addr.add, Nat.zero_add] at hx398_0 | skip); replace p398 := eq_true p398; replace q398 := eq_true q398) | ((with_reducible refine gate_builtin (b := .append) (xs := #[.tmp 166, .tmp 168]) rfl ?_); (try (refine gate_guard (by rfl) ?_; dsimp only)); at_builtin; refine Kd.R_append (Kd.int .u8) (w0 := w0) w0.heap.size rfl (.tmp 166) (.tmp 168) 39 5 (.int .u8 0) 1 rfl Try.underlying39 info5 rfl (by decide) (by omega) (.slice (some ⟨go65, 0, none⟩) x0_53.length co68) y397 a4 [.int .u8 a4] (fun k_ => (P0_ k_ ∨ w.heap.size ≤ k_)) (fun _ => False) rfl rfl ?aP (fun _ hk => hk.elim) ?aF ?aO ?aB ?aS ?aL ?_; (case aP => exact rfl); (case aB => exact Z5); (case aF => exact Z87); (case aO => exact Z25); (case aS => exact (below_size Z5)); (case aL => have := LMc67.out; omega); intro v400 w71 ho hb hg hat; rw [← Ny399.out] at ho; have n0_ := Aside0.mk (hb); have n1_ := Aside0.mk (Kept.of_grown (S := (fun k_ => P0_ k_)) hg Z7 (fun k_ e_ => (HO_0.out.1 k_ e_))); have n2_ := Aside0.mk (ho); clear HB; clear HK; clear HO_0; have HB := n0_; have HK := n1_; have HO401 := n2_; clear n0_ n1_ n2_; clear ho hb hg hat))
                         refine bodyPost_ret (results_list (rs := [.tmp 26, .tmp 27, .tmp 28, .tmp 29]) rfl (by simp) (.tmp (.tmp (.tmp (.tmp .nil))))) rfl ?_
                         exact ⟨_, by first | rfl | (simp [errW_none, errW_some] <;> rfl) | (simp only [← hji61]; first | rfl | (simp [errW_none, errW_some] <;> rfl)) | (simp [*, errW_none, errW_some] <;> rfl), by (with_reducible repeat (first | apply Kd.R_alloc | apply Kd.R_drewN | apply Kd.R_drew)); exact HO401.out, Z5, Z7⟩
                       ·rw [if_neg c67] at H
                        exact absurd H (by simp)
                      ·rw [if_neg c66] at H
                       have c66b0 : ((rd y397 (ji61)) == a3) = false := beq_eq_false_iff_ne.mpr c66
                       have c66b1 : ((rd y397 (ji61)) != a3) = true := bne_iff_ne.mpr c66
                       replace H := Option.bind_eq_some_iff.mp H
                       obtain ⟨t402, A720, H⟩ := H
                       replace H : (if t402.length < 140737488355328 then (some ((t402 ++ [a4]), wrap64 (x2_3 + 1), (x0_53.length : Int), (a3 != 123))) else (none)) = some (r1, r2, r3, r4) := H
                       have A72 := Aside0.mk A720
                       clear A720
                       by_cases c73 : t402.length < 140737488355328
                       ·rw [if_pos c73] at H
                        have LMc73 := Aside0.mk c73
                        clear c73
                        obtain ⟨y405, hy405⟩ : ∃ y_ : List Int, y_ = (t402 ++ [a4]) := ⟨_, rfl⟩
                        replace H : (some (y405, wrap64 (x2_3 + 1), (x0_53.length : Int), (a3 != 123))) = some (r1, r2, r3, r4) := by first | (rw [hy405]; with_reducible exact H) | (have H2_ := (Option.bind_some _ _).symm.trans H; rw [hy405]; with_reducible exact H2_) | (have H2_ := (Option.bind_some _ _).symm.trans H; with_reducible exact H2_) | with_reducible exact H | (rw [hy405]; exact H) | exact H
                        have Ny405 := Aside0.mk hy405
                        clear hy405
                        as_aux_lemma =>
                         simp only [Option.some.injEq, Prod.mk.injEq] at H
                         obtain ⟨rfl, rfl, rfl, rfl⟩ := H
                         obtain ⟨Ao74, co74, eo74⟩ := Kd.R_slice HO_0.out
                         subst eo74
                         have p396 : 0 ≤ ((ji61) : Int) := of_decide_eq_true Z11
                         have q396 : (ji61) < (x0_53.length : Int) := of_decide_eq_true Z11
                         obtain ⟨ad396, e396, hx396_0⟩ := Kd.at_int (Kd.R_reads' HO_0.out).2.2 (ji61) p396 q396
                         cases e396
                         replace p396 := eq_true p396
                         replace q396 := eq_true q396
                         have p65 : 0 ≤ ((ji61) : Int) := of_decide_eq_true Z11
                         have q65 : ((ji61) : Int) < ((x0_53.length : Int) : Int) := of_decide_eq_true Z11
                         obtain ⟨go65, co65, eo65, gb65, gl65, cl65, HG65⟩ := Kd.R_form HO_0.out (by omega)
                         (first | cases eo65 | (injection eo65 with ea_ en_ ec_; (first | subst ea_ | (injection ea_ with ea_; subst ea_)); subst ec_; clear en_))
                         have GB65 := Aside0.mk gb65
                         have GG65 := Aside0.mk HG65
                         clear gb65 gl65 HG65
                         have HMgo65 := Aside0.mk (show (P0_ go65 ∨ w.heap.size ≤ go65) from (HO_0.out.1 _ rfl))
                         (first | simp only [add_plain] at hx396_0 | skip)
                         obtain ⟨hx65_0, hf65_0⟩ := Kd.R_celln 0 HO_0.out ((ji61) : Int) p65 q65
                         replace p65 := eq_true p65
                         replace q65 := eq_true q65
                         have HP75 := Kd.R_putg HO_0.out ((ji61) : Int) 10
                         go_wp2_with (first | ((with_reducible refine gate_store (t := 5) (p := 149) rfl ?_); refine store_event (t := 5) (p := 149) (v := ?vo_w76) (w1 := (wc.setCell ⟨go65, ((ji61) : Int).toNat, none⟩ (.int .u8 10))) ?hg ?ho ?hn ?hr ?_; (case ho => rfl); (case hg => rfl); (case hn => rfl); (case hr => exact Z62); intro w76 hw; have hg : wc.grownBy w76 (some go65) := (by rw [hw]; exact HP75.2); have hp_ : Kd.R (Kd.int .u8) 5 w76 w0.heap.size (fun k_ => (P0_ k_ ∨ w.heap.size ≤ k_)) (.slice (some ⟨go65, 0, none⟩) x0_53.length co74) y397 := (by rw [hw, Ny397.out]; exact HP75.1); clear HP75; have n0_ := Aside0.mk (hp_); have n1_ := Aside0.mk ((by rw [hw]; exact below_set (HB.out) GB65.out : Below w0.heap.size w0 w76)); have n2_ := Aside0.mk (Kept.of_grown (S := (fun k_ => P0_ k_)) hg Z7 (fun k_ e_ => (HO_0.out.1 k_ e_))); clear HO_0; clear HB; clear HK; have HO_0 := n0_; have HB := n1_; have HK := n2_; clear n0_ n1_ n2_; clear hg hw hp_; have p398 : 0 ≤ ((ji61) : Int) := of_decide_eq_true Z11; have q398 : (ji61) < (y397.length : Int) := (by have h_ : ((ji61) : Int) < ((x0_53.length : Int) : Int) := of_decide_eq_true Z11; first | (have e_ := (Kd.R_reads' HO_0.out).1; omega) | simpa only [Ny397.out, List.length_set] using h_); have ql398 : (((ji61) : Int) < ((x0_53.length : Int) : Int)) = True := eq_true (of_decide_eq_true Z11); obtain ⟨ad398, e398, hx398_0⟩ := Kd.at_int (Kd.R_reads' HO_0.out).2.2 (ji61) p398 q398; obtain rfl : (⟨go65, 0, none⟩ : Addr) = ad398 := (by injection e398); (first | simp only [add_plain] at hx398_0 | simp only [add_at] at hx398_0 | simp only [Addr.add, Nat.zero_add] at hx398_0 | skip); replace p398 := eq_true p398; replace q398 := eq_true q398) | ((with_reducible refine gate_callee (f := 40) rfl ?_); refine goesL_ (some 165) rfl rfl Try.func40 (by kernel_rfl) rfl #[.slice (some ⟨go65, 0, none⟩) x0_53.length co74, .string a7, .string a8, .int .i64 a10] rfl Z13 ?_; (with_reducible refine (pretty_appendTabs.calls kj53 (fun k_ => some k_ = (.slice (some ⟨go65, 0, none⟩) x0_53.length co74 : Value).ownBlock) (.slice (some ⟨go65, 0, none⟩) x0_53.length co74) y397 a7 a8 a10 t402 w0 _ ?side1 ?side2 A72.out).mono ?_); (case side1 => exact Z5); (case side2 => exact Kd.R_tight rfl HO_0.out); rintro e w77 ⟨v403, rfl, ho0, hb, hkp⟩; refine ⟨_, rfl, ?_⟩; have n0_ := Aside0.mk (Kd.R_mono (ok' := fun k_ => (P0_ k_ ∨ w.heap.size ≤ k_)) ho0 (fun k_ hk_ => Or.elim hk_ (fun hs_ => (HO_0.out.1 k_ (hs_).symm)) (fun hn_ => (.inr (Nat.le_trans Z35 hn_))))); have n1_ := Aside0.mk (Kept.then_ (S := (fun k_ => P0_ k_)) Z7 hkp (fun k_ hs_ => (fun e_ => (HO_0.out.1 k_ e_.symm)) hs_)); have n2_ := Aside0.mk (hb); clear HK; clear HB; clear HO_0; have HO404 := n0_; have HK := n1_; have HB := n2_; clear n0_ n1_ n2_; (try clear hb); (try clear hkp); (try clear ho0)) | ((with_reducible refine gate_builtin (b := .append) (xs := #[.tmp 166, .tmp 168]) rfl ?_); (try (refine gate_guard (by rfl) ?_; dsimp only)); at_builtin; refine Kd.R_append (Kd.int .u8) (w0 := w0) w0.heap.size rfl (.tmp 166) (.tmp 168) 39 5 (.int .u8 0) 1 rfl Try.underlying39 info5 rfl (by decide) (by omega) v403 t402 a4 [.int .u8 a4] (fun k_ => (P0_ k_ ∨ w.heap.size ≤ k_)) (fun _ => False) rfl rfl ?aP (fun _ hk => hk.elim) ?aF ?aO ?aB ?aS ?aL ?_; (case aP => exact rfl); (case aB => exact Z5); (case aF => exact Z87); (case aO => exact (by (with_reducible repeat (first | apply Kd.R_alloc | apply Kd.R_drewN | apply Kd.R_drew)); exact HO404.out)); (case aS => exact (below_size Z5)); (case aL => have := LMc73.out; omega); intro v406 w78 ho hb hg hat; rw [← Ny405.out] at ho; have n0_ := Aside0.mk (hb); have n1_ := Aside0.mk (Kept.of_grown (S := (fun k_ => P0_ k_)) hg Z7 (fun k_ e_ => (HO404.out.1 k_ e_))); have n2_ := Aside0.mk (ho); clear HB; clear HK; clear HO404; have HB := n0_; have HK := n1_; have HO407 := n2_; clear n0_ n1_ n2_; clear ho hb hg hat))
                         refine bodyPost_ret (results_list (rs := [.tmp 26, .tmp 27, .tmp 28, .tmp 29]) rfl (by simp) (.tmp (.tmp (.tmp (.tmp .nil))))) rfl ?_
                         exact ⟨_, by first | rfl | (simp [errW_none, errW_some] <;> rfl) | (simp only [← hji61]; first | rfl | (simp [errW_none, errW_some] <;> rfl)) | (simp [*, errW_none, errW_some] <;> rfl), by (with_reducible repeat (first | apply Kd.R_alloc | apply Kd.R_drewN | apply Kd.R_drew)); exact HO407.out, Z5, Z7⟩
                       ·rw [if_neg c73] at H
                        exact absurd H (by simp)
                     ·rw [if_neg c64] at H
                      have c64b0 : ((rd x0_53 (ji61)) == 32) = false := beq_eq_false_iff_ne.mpr c64
                      have c64b1 : ((rd x0_53 (ji61)) != 32) = true := bne_iff_ne.mpr c64
                      by_cases c79 : x0_53.length < 140737488355328
                      ·rw [if_pos c79] at H
                       have LMc79 := Aside0.mk c79
                       clear c79
                       obtain ⟨y408, hy408⟩ : ∃ y_ : List Int, y_ = (x0_53 ++ [10]) := ⟨_, rfl⟩
                       replace H : (if 0 ≤ (wrap64 ((y408.length : Int) - 1)) then (if (wrap64 ((y408.length : Int) - 1)) < (y408.length : Int) then (if (rd y408 (wrap64 ((y408.length : Int) - 1))) = a3 then (if y408.length < 140737488355328 then (some ((y408 ++ [a4]), wrap64 (x2_3 + 1), (x0_53.length : Int), (a3 != 123))) else (none)) else ((pretty_appendTabs.f kj53 y408 a7 a8 a10).bind fun t415 => (if t415.length < 140737488355328 then (some ((t415 ++ [a4]), wrap64 (x2_3 + 1), (x0_53.length : Int), (a3 != 123))) else (none)))) else (none)) else (none)) = some (r1, r2, r3, r4) := by first | (rw [hy408]; with_reducible exact H) | (have H2_ := (Option.bind_some _ _).symm.trans H; rw [hy408]; with_reducible exact H2_) | (have H2_ := (Option.bind_some _ _).symm.trans H; with_reducible exact H2_) | with_reducible exact H | (rw [hy408]; exact H) | exact H
                       have Ny408 := Aside0.mk hy408
                       clear hy408
                       obtain ⟨ji80, hji80⟩ : ∃ j_ : Int, (wrap64 ((y408.length : Int) - 1)) = j_ := ⟨_, rfl⟩
                       replace H : (if 0 ≤ (ji80) then (if (ji80) < (y408.length : Int) then (if (rd y408 (ji80)) = a3 then (if y408.length < 140737488355328 then (some ((y408 ++ [a4]), wrap64 (x2_3 + 1), (x0_53.length : Int), (a3 != 123))) else (none)) else ((pretty_appendTabs.f kj53 y408 a7 a8 a10).bind fun t415 => (if t415.length < 140737488355328 then (some ((t415 ++ [a4]), wrap64 (x2_3 + 1), (x0_53.length : Int), (a3 != 123))) else (none)))) else (none)) else (none)) = some (r1, r2, r3, r4) := by first | (rw [hji80] at H; exact H) | (simp only [hji80] at H ⊢; exact H)
                       have hji80w : (IntKind.i64.wrap ((y408.length : Int) - 1)) = ji80 := (i64_w _).trans hji80
                       by_cases c81 : 0 ≤ (ji80)
                       ·rw [if_pos c81] at H
                        have c81b0 : decide (0 ≤ (ji80)) = true := decide_eq_true c81
                        clear c81
                        by_cases c82 : (ji80) < (y408.length : Int)
                        ·rw [if_pos c82] at H
                         have c82b0 : decide ((ji80) < (y408.length : Int)) = true := decide_eq_true c82
                         clear c82
                         by_cases c83 : (rd y408 (ji80)) = a3
                         ·rw [if_pos c83] at H
                          have c83b0 : ((rd y408 (ji80)) == a3) = true := beq_iff_eq.mpr c83
                          have c83b1 : ((rd y408 (ji80)) != a3) = false := bne_eq_false_iff_eq.mpr c83
                          clear c83
                          by_cases c84 : y408.length < 140737488355328
                          ·rw [if_pos c84] at H
                           have LMc84 := Aside0.mk c84
                           clear c84
                           obtain ⟨y412, hy412⟩ : ∃ y_ : List Int, y_ = (y408 ++ [a4]) := ⟨_, rfl⟩
                           replace H : (some (y412, wrap64 (x2_3 + 1), (x0_53.length : Int), (a3 != 123))) = some (r1, r2, r3, r4) := by first | (rw [hy412]; with_reducible exact H) | (have H2_ := (Option.bind_some _ _).symm.trans H; rw [hy412]; with_reducible exact H2_) | (have H2_ := (Option.bind_some _ _).symm.trans H; with_reducible exact H2_) | with_reducible exact H | (rw [hy412]; exact H) | exact H
                           have Ny412 := Aside0.mk hy412
                           clear hy412
                           as_aux_lemma =>
                            simp only [Option.some.injEq, Prod.mk.injEq] at H
                            obtain ⟨rfl, rfl, rfl, rfl⟩ := H
                            obtain ⟨Ao85, co85, eo85⟩ := Kd.R_slice HO_0.out
                            subst eo85
                            have p396 : 0 ≤ ((ji61) : Int) := of_decide_eq_true Z11
                            have q396 : (ji61) < (x0_53.length : Int) := of_decide_eq_true Z11
                            obtain ⟨ad396, e396, hx396_0⟩ := Kd.at_int (Kd.R_reads' HO_0.out).2.2 (ji61) p396 q396
                            cases e396
                            replace p396 := eq_true p396
                            replace q396 := eq_true q396
                            go_wp2_with (first | ((with_reducible refine gate_builtin (b := .append) (xs := #[.tmp 150, .tmp 151]) rfl ?_); (try (refine gate_guard (by rfl) ?_; dsimp only)); at_builtin; refine Kd.R_append (Kd.int .u8) (w0 := w0) w0.heap.size rfl (.tmp 150) (.tmp 151) 39 5 (.int .u8 0) 1 rfl Try.underlying39 info5 rfl (by decide) (by omega) (.slice (some ad396) x0_53.length co85) x0_53 10 [.int .u8 10] (fun k_ => (P0_ k_ ∨ w.heap.size ≤ k_)) (fun _ => False) rfl rfl ?aP (fun _ hk => hk.elim) ?aF ?aO ?aB ?aS ?aL ?_; (case aP => exact rfl); (case aB => exact Z5); (case aF => exact Z87); (case aO => exact Z25); (case aS => exact (below_size Z5)); (case aL => have := LMc79.out; omega); intro v409 w86 ho hb hg hat; rw [← Ny408.out] at ho; have n0_ := Aside0.mk (hb); have n1_ := Aside0.mk (Kept.of_grown (S := (fun k_ => P0_ k_)) hg Z7 (fun k_ e_ => (HO_0.out.1 k_ e_))); have n2_ := Aside0.mk (ho); clear HB; clear HK; clear HO_0; have HB := n0_; have HK := n1_; have HO410 := n2_; clear n0_ n1_ n2_; clear ho hb hg hat; obtain ⟨Ao87, co87, eo87⟩ := Kd.R_slice HO410.out; subst eo87; have p411 : 0 ≤ ((ji80) : Int) := of_decide_eq_true Z11; have q411 : (ji80) < (y408.length : Int) := of_decide_eq_true Z11; obtain ⟨ad411, e411, hx411_0⟩ := Kd.at_int (Kd.R_reads' HO410.out).2.2 (ji80) p411 q411; cases e411; replace p411 := eq_true p411; replace q411 := eq_true q411) | ((with_reducible refine gate_builtin (b := .append) (xs := #[.tmp 166, .tmp 168]) rfl ?_); (try (refine gate_guard (by rfl) ?_; dsimp only)); at_builtin; refine Kd.R_append (Kd.int .u8) (w0 := w0) w0.heap.size rfl (.tmp 166) (.tmp 168) 39 5 (.int .u8 0) 1 rfl Try.underlying39 info5 rfl (by decide) (by omega) (.slice (some ad411) y408.length co87) y408 a4 [.int .u8 a4] (fun k_ => (P0_ k_ ∨ w.heap.size ≤ k_)) (fun _ => False) rfl rfl ?aP (fun _ hk => hk.elim) ?aF ?aO ?aB ?aS ?aL ?_; (case aP => exact rfl); (case aB => exact Z5); (case aF => exact Z87); (case aO => exact (by (with_reducible repeat (first | apply Kd.R_alloc | apply Kd.R_drewN | apply Kd.R_drew)); exact HO410.out)); (case aS => exact (below_size Z5)); (case aL => have := LMc84.out; omega); intro v413 w88 ho hb hg hat; rw [← Ny412.out] at ho; have n0_ := Aside0.mk (hb); have n1_ := Aside0.mk (Kept.of_grown (S := (fun k_ => P0_ k_)) hg Z7 (fun k_ e_ => (HO410.out.1 k_ e_))); have n2_ := Aside0.mk (ho); clear HB; clear HK; clear HO410; have HB := n0_; have HK := n1_; have HO414 := n2_; clear n0_ n1_ n2_; clear ho hb hg hat))
                            refine bodyPost_ret (results_list (rs := [.tmp 26, .tmp 27, .tmp 28, .tmp 29]) rfl (by simp) (.tmp (.tmp (.tmp (.tmp .nil))))) rfl ?_
                            exact ⟨_, Z171, by (with_reducible repeat (first | apply Kd.R_alloc | apply Kd.R_drewN | apply Kd.R_drew)); exact HO414.out, Z5, Z7⟩
                          ·rw [if_neg c84] at H
                           exact absurd H (by simp)
                         ·rw [if_neg c83] at H
                          have c83b0 : ((rd y408 (ji80)) == a3) = false := beq_eq_false_iff_ne.mpr c83
                          have c83b1 : ((rd y408 (ji80)) != a3) = true := bne_iff_ne.mpr c83
                          replace H := Option.bind_eq_some_iff.mp H
                          obtain ⟨t415, A890, H⟩ := H
                          replace H : (if t415.length < 140737488355328 then (some ((t415 ++ [a4]), wrap64 (x2_3 + 1), (x0_53.length : Int), (a3 != 123))) else (none)) = some (r1, r2, r3, r4) := H
                          have A89 := Aside0.mk A890
                          clear A890
                          by_cases c90 : t415.length < 140737488355328
                          ·rw [if_pos c90] at H
                           have LMc90 := Aside0.mk c90
                           clear c90
                           obtain ⟨y418, hy418⟩ : ∃ y_ : List Int, y_ = (t415 ++ [a4]) := ⟨_, rfl⟩
                           replace H : (some (y418, wrap64 (x2_3 + 1), (x0_53.length : Int), (a3 != 123))) = some (r1, r2, r3, r4) := by first | (rw [hy418]; with_reducible exact H) | (have H2_ := (Option.bind_some _ _).symm.trans H; rw [hy418]; with_reducible exact H2_) | (have H2_ := (Option.bind_some _ _).symm.trans H; with_reducible exact H2_) | with_reducible exact H | (rw [hy418]; exact H) | exact H
                           have Ny418 := Aside0.mk hy418
                           clear hy418
                           as_aux_lemma =>
                            simp only [Option.some.injEq, Prod.mk.injEq] at H
                            obtain ⟨rfl, rfl, rfl, rfl⟩ := H
                            obtain ⟨Ao91, co91, eo91⟩ := Kd.R_slice HO_0.out
                            subst eo91
                            have p396 : 0 ≤ ((ji61) : Int) := of_decide_eq_true Z11
                            have q396 : (ji61) < (x0_53.length : Int) := of_decide_eq_true Z11
                            obtain ⟨ad396, e396, hx396_0⟩ := Kd.at_int (Kd.R_reads' HO_0.out).2.2 (ji61) p396 q396
                            cases e396
                            replace p396 := eq_true p396
                            replace q396 := eq_true q396
                            go_wp2_with (first | ((with_reducible refine gate_builtin (b := .append) (xs := #[.tmp 150, .tmp 151]) rfl ?_); (try (refine gate_guard (by rfl) ?_; dsimp only)); at_builtin; refine Kd.R_append (Kd.int .u8) (w0 := w0) w0.heap.size rfl (.tmp 150) (.tmp 151) 39 5 (.int .u8 0) 1 rfl Try.underlying39 info5 rfl (by decide) (by omega) (.slice (some ad396) x0_53.length co91) x0_53 10 [.int .u8 10] (fun k_ => (P0_ k_ ∨ w.heap.size ≤ k_)) (fun _ => False) rfl rfl ?aP (fun _ hk => hk.elim) ?aF ?aO ?aB ?aS ?aL ?_; (case aP => exact rfl); (case aB => exact Z5); (case aF => exact Z87); (case aO => exact Z25); (case aS => exact (below_size Z5)); (case aL => have := LMc79.out; omega); intro v409 w92 ho hb hg hat; rw [← Ny408.out] at ho; have n0_ := Aside0.mk (hb); have n1_ := Aside0.mk (Kept.of_grown (S := (fun k_ => P0_ k_)) hg Z7 (fun k_ e_ => (HO_0.out.1 k_ e_))); have n2_ := Aside0.mk (ho); clear HB; clear HK; clear HO_0; have HB := n0_; have HK := n1_; have HO410 := n2_; clear n0_ n1_ n2_; clear ho hb hg hat; obtain ⟨Ao93, co93, eo93⟩ := Kd.R_slice HO410.out; subst eo93; have p411 : 0 ≤ ((ji80) : Int) := of_decide_eq_true Z11; have q411 : (ji80) < (y408.length : Int) := of_decide_eq_true Z11; obtain ⟨ad411, e411, hx411_0⟩ := Kd.at_int (Kd.R_reads' HO410.out).2.2 (ji80) p411 q411; cases e411; replace p411 := eq_true p411; replace q411 := eq_true q411) | ((with_reducible refine gate_callee (f := 40) rfl ?_); refine goesL_ (some 165) rfl rfl Try.func40 (by kernel_rfl) rfl #[.slice (some ad411) y408.length co93, .string a7, .string a8, .int .i64 a10] rfl Z13 ?_; (with_reducible refine (pretty_appendTabs.calls kj53 (fun k_ => some k_ = (.slice (some ad411) y408.length co93 : Value).ownBlock) (.slice (some ad411) y408.length co93) y408 a7 a8 a10 t415 w0 _ ?side1 ?side2 A89.out).mono ?_); (case side1 => exact Z5); (case side2 => exact Kd.R_tight rfl HO410.out); rintro e w94 ⟨v416, rfl, ho0, hb, hkp⟩; refine ⟨_, rfl, ?_⟩; have n0_ := Aside0.mk (Kd.R_mono (ok' := fun k_ => (P0_ k_ ∨ w.heap.size ≤ k_)) ho0 (fun k_ hk_ => Or.elim hk_ (fun hs_ => (HO410.out.1 k_ (hs_).symm)) (fun hn_ => (.inr (Nat.le_trans Z35 hn_))))); have n1_ := Aside0.mk (Kept.then_ (S := (fun k_ => P0_ k_)) Z7 hkp (fun k_ hs_ => (fun e_ => (HO410.out.1 k_ e_.symm)) hs_)); have n2_ := Aside0.mk (hb); clear HK; clear HB; clear HO410; have HO417 := n0_; have HK := n1_; have HB := n2_; clear n0_ n1_ n2_; (try clear hb); (try clear hkp); (try clear ho0)) | ((with_reducible refine gate_builtin (b := .append) (xs := #[.tmp 166, .tmp 168]) rfl ?_); (try (refine gate_guard (by rfl) ?_; dsimp only)); at_builtin; refine Kd.R_append (Kd.int .u8) (w0 := w0) w0.heap.size rfl (.tmp 166) (.tmp 168) 39 5 (.int .u8 0) 1 rfl Try.underlying39 info5 rfl (by decide) (by omega) v416 t415 a4 [.int .u8 a4] (fun k_ => (P0_ k_ ∨ w.heap.size ≤ k_)) (fun _ => False) rfl rfl ?aP (fun _ hk => hk.elim) ?aF ?aO ?aB ?aS ?aL ?_; (case aP => exact rfl); (case aB => exact Z5); (case aF => exact Z87); (case aO => exact (by (with_reducible repeat (first | apply Kd.R_alloc | apply Kd.R_drewN | apply Kd.R_drew)); exact HO417.out)); (case aS => exact (below_size Z5)); (case aL => have := LMc90.out; omega); intro v419 w95 ho hb hg hat; rw [← Ny418.out] at ho; have n0_ := Aside0.mk (hb); have n1_ := Aside0.mk (Kept.of_grown (S := (fun k_ => P0_ k_)) hg Z7 (fun k_ e_ => (HO417.out.1 k_ e_))); have n2_ := Aside0.mk (ho); clear HB; clear HK; clear HO417; have HB := n0_; have HK := n1_; have HO420 := n2_; clear n0_ n1_ n2_; clear ho hb hg hat))
                            refine bodyPost_ret (results_list (rs := [.tmp 26, .tmp 27, .tmp 28, .tmp 29]) rfl (by simp) (.tmp (.tmp (.tmp (.tmp .nil))))) rfl ?_
                            exact ⟨_, Z171, by (with_reducible repeat (first | apply Kd.R_alloc | apply Kd.R_drewN | apply Kd.R_drew)); exact HO420.out, Z5, Z7⟩
                          ·rw [if_neg c90] at H
                           exact absurd H (by simp)
                        ·rw [if_neg c82] at H
                         exact absurd H (by simp)
                       ·rw [if_neg c81] at H
                        exact absurd H (by simp)
                      ·rw [if_neg c79] at H
                       exact absurd H (by simp)
                    ·rw [if_neg c63] at H
                     exact absurd H (by simp)
                   ·rw [if_neg c62] at H
                    exact absurd H (by simp)
                  ·rw [if_neg c60] at H
                   have c60b0 : decide (0 < x35_3) = false := decide_eq_false c60
                   clear c60
                   obtain ⟨ji96, hji96⟩ : ∃ j_ : Int, (wrap64 ((x0_53.length : Int) - 1)) = j_ := ⟨_, rfl⟩
                   replace H : (if 0 ≤ (ji96) then (if (ji96) < (x0_53.length : Int) then (if (rd x0_53 (ji96)) = a3 then (if x0_53.length < 140737488355328 then (some ((x0_53 ++ [a4]), wrap64 (x2_3 + 1), x11_3, (a3 != 123))) else (none)) else ((pretty_appendTabs.f kj53 x0_53 a7 a8 a10).bind fun t425 => (if t425.length < 140737488355328 then (some ((t425 ++ [a4]), wrap64 (x2_3 + 1), x11_3, (a3 != 123))) else (none)))) else (none)) else (none)) = some (r1, r2, r3, r4) := by first | (rw [hji96] at H; exact H) | (simp only [hji96] at H ⊢; exact H)
                   have hji96w : (IntKind.i64.wrap ((x0_53.length : Int) - 1)) = ji96 := (i64_w _).trans hji96
                   by_cases c97 : 0 ≤ (ji96)
                   ·rw [if_pos c97] at H
                    have c97b0 : decide (0 ≤ (ji96)) = true := decide_eq_true c97
                    clear c97
                    by_cases c98 : (ji96) < (x0_53.length : Int)
                    ·rw [if_pos c98] at H
                     have c98b0 : decide ((ji96) < (x0_53.length : Int)) = true := decide_eq_true c98
                     clear c98
                     by_cases c99 : (rd x0_53 (ji96)) = a3
                     ·rw [if_pos c99] at H
                      have c99b0 : ((rd x0_53 (ji96)) == a3) = true := beq_iff_eq.mpr c99
                      have c99b1 : ((rd x0_53 (ji96)) != a3) = false := bne_eq_false_iff_eq.mpr c99
                      clear c99
                      by_cases c100 : x0_53.length < 140737488355328
                      ·rw [if_pos c100] at H
                       have LMc100 := Aside0.mk c100
                       clear c100
                       obtain ⟨y422, hy422⟩ : ∃ y_ : List Int, y_ = (x0_53 ++ [a4]) := ⟨_, rfl⟩
                       replace H : (some (y422, wrap64 (x2_3 + 1), x11_3, (a3 != 123))) = some (r1, r2, r3, r4) := by first | (rw [hy422]; with_reducible exact H) | (have H2_ := (Option.bind_some _ _).symm.trans H; rw [hy422]; with_reducible exact H2_) | (have H2_ := (Option.bind_some _ _).symm.trans H; with_reducible exact H2_) | with_reducible exact H | (rw [hy422]; exact H) | exact H
                       have Ny422 := Aside0.mk hy422
                       clear hy422
                       as_aux_lemma =>
                        simp only [Option.some.injEq, Prod.mk.injEq] at H
                        obtain ⟨rfl, rfl, rfl, rfl⟩ := H
                        obtain ⟨Ao101, co101, eo101⟩ := Kd.R_slice HO_0.out
                        subst eo101
                        have p421 : 0 ≤ ((ji96) : Int) := of_decide_eq_true Z11
                        have q421 : (ji96) < (x0_53.length : Int) := of_decide_eq_true Z11
                        obtain ⟨ad421, e421, hx421_0⟩ := Kd.at_int (Kd.R_reads' HO_0.out).2.2 (ji96) p421 q421
                        cases e421
                        replace p421 := eq_true p421
                        replace q421 := eq_true q421
                        go_wp2_with (first | ((with_reducible refine gate_builtin (b := .append) (xs := #[.tmp 166, .tmp 168]) rfl ?_); (try (refine gate_guard (by rfl) ?_; dsimp only)); at_builtin; refine Kd.R_append (Kd.int .u8) (w0 := w0) w0.heap.size rfl (.tmp 166) (.tmp 168) 39 5 (.int .u8 0) 1 rfl Try.underlying39 info5 rfl (by decide) (by omega) (.slice (some ad421) x0_53.length co101) x0_53 a4 [.int .u8 a4] (fun k_ => (P0_ k_ ∨ w.heap.size ≤ k_)) (fun _ => False) rfl rfl ?aP (fun _ hk => hk.elim) ?aF ?aO ?aB ?aS ?aL ?_; (case aP => exact rfl); (case aB => exact Z5); (case aF => exact Z87); (case aO => exact Z25); (case aS => exact (below_size Z5)); (case aL => have := LMc100.out; omega); intro v423 w102 ho hb hg hat; rw [← Ny422.out] at ho; have n0_ := Aside0.mk (hb); have n1_ := Aside0.mk (Kept.of_grown (S := (fun k_ => P0_ k_)) hg Z7 (fun k_ e_ => (HO_0.out.1 k_ e_))); have n2_ := Aside0.mk (ho); clear HB; clear HK; clear HO_0; have HB := n0_; have HK := n1_; have HO424 := n2_; clear n0_ n1_ n2_; clear ho hb hg hat))
                        refine bodyPost_ret (results_list (rs := [.tmp 26, .tmp 27, .tmp 28, .tmp 29]) rfl (by simp) (.tmp (.tmp (.tmp (.tmp .nil))))) rfl ?_
                        exact ⟨_, by first | rfl | (simp [errW_none, errW_some] <;> rfl) | (simp only [← hji96]; first | rfl | (simp [errW_none, errW_some] <;> rfl)) | (simp [*, errW_none, errW_some] <;> rfl), by (with_reducible repeat (first | apply Kd.R_alloc | apply Kd.R_drewN | apply Kd.R_drew)); exact HO424.out, Z5, Z7⟩
                      ·rw [if_neg c100] at H
                       exact absurd H (by simp)
                     ·rw [if_neg c99] at H
                      have c99b0 : ((rd x0_53 (ji96)) == a3) = false := beq_eq_false_iff_ne.mpr c99
                      have c99b1 : ((rd x0_53 (ji96)) != a3) = true := bne_iff_ne.mpr c99
                      replace H := Option.bind_eq_some_iff.mp H
                      obtain ⟨t425, A1030, H⟩ := H
                      replace H : (if t425.length < 140737488355328 then (some ((t425 ++ [a4]), wrap64 (x2_3 + 1), x11_3, (a3 != 123))) else (none)) = some (r1, r2, r3, r4) := H
                      have A103 := Aside0.mk A1030
                      clear A1030
                      by_cases c104 : t425.length < 140737488355328
                      ·rw [if_pos c104] at H
                       have LMc104 := Aside0.mk c104
                       clear c104
                       obtain ⟨y428, hy428⟩ : ∃ y_ : List Int, y_ = (t425 ++ [a4]) := ⟨_, rfl⟩
                       replace H : (some (y428, wrap64 (x2_3 + 1), x11_3, (a3 != 123))) = some (r1, r2, r3, r4) := by first | (rw [hy428]; with_reducible exact H) | (have H2_ := (Option.bind_some _ _).symm.trans H; rw [hy428]; with_reducible exact H2_) | (have H2_ := (Option.bind_some _ _).symm.trans H; with_reducible exact H2_) | with_reducible exact H | (rw [hy428]; exact H) | exact H
                       have Ny428 := Aside0.mk hy428
                       clear hy428
                       as_aux_lemma =>
                        simp only [Option.some.injEq, Prod.mk.injEq] at H
                        obtain ⟨rfl, rfl, rfl, rfl⟩ := H
                        obtain ⟨Ao105, co105, eo105⟩ := Kd.R_slice HO_0.out
                        subst eo105
                        have p421 : 0 ≤ ((ji96) : Int) := of_decide_eq_true Z11
                        have q421 : (ji96) < (x0_53.length : Int) := of_decide_eq_true Z11
                        obtain ⟨ad421, e421, hx421_0⟩ := Kd.at_int (Kd.R_reads' HO_0.out).2.2 (ji96) p421 q421
                        cases e421
                        replace p421 := eq_true p421
                        replace q421 := eq_true q421
                        go_wp2_with (first | ((with_reducible refine gate_callee (f := 40) rfl ?_); refine goesL_ (some 165) rfl rfl Try.func40 (by kernel_rfl) rfl #[.slice (some ad421) x0_53.length co105, .string a7, .string a8, .int .i64 a10] rfl Z13 ?_; (with_reducible refine (pretty_appendTabs.calls kj53 (fun k_ => some k_ = (.slice (some ad421) x0_53.length co105 : Value).ownBlock) (.slice (some ad421) x0_53.length co105) x0_53 a7 a8 a10 t425 w0 _ ?side1 ?side2 A103.out).mono ?_); (case side1 => exact Z5); (case side2 => exact Kd.R_tight rfl HO_0.out); rintro e w106 ⟨v426, rfl, ho0, hb, hkp⟩; refine ⟨_, rfl, ?_⟩; have n0_ := Aside0.mk (Kd.R_mono (ok' := fun k_ => (P0_ k_ ∨ w.heap.size ≤ k_)) ho0 (fun k_ hk_ => Or.elim hk_ (fun hs_ => (HO_0.out.1 k_ (hs_).symm)) (fun hn_ => (.inr (Nat.le_trans Z35 hn_))))); have n1_ := Aside0.mk (Kept.then_ (S := (fun k_ => P0_ k_)) Z7 hkp (fun k_ hs_ => (fun e_ => (HO_0.out.1 k_ e_.symm)) hs_)); have n2_ := Aside0.mk (hb); clear HK; clear HB; clear HO_0; have HO427 := n0_; have HK := n1_; have HB := n2_; clear n0_ n1_ n2_; (try clear hb); (try clear hkp); (try clear ho0)) | ((with_reducible refine gate_builtin (b := .append) (xs := #[.tmp 166, .tmp 168]) rfl ?_); (try (refine gate_guard (by rfl) ?_; dsimp only)); at_builtin; refine Kd.R_append (Kd.int .u8) (w0 := w0) w0.heap.size rfl (.tmp 166) (.tmp 168) 39 5 (.int .u8 0) 1 rfl Try.underlying39 info5 rfl (by decide) (by omega) v426 t425 a4 [.int .u8 a4] (fun k_ => (P0_ k_ ∨ w.heap.size ≤ k_)) (fun _ => False) rfl rfl ?aP (fun _ hk => hk.elim) ?aF ?aO ?aB ?aS ?aL ?_; (case aP => exact rfl); (case aB => exact Z5); (case aF => exact Z87); (case aO => exact (by (with_reducible repeat (first | apply Kd.R_alloc | apply Kd.R_drewN | apply Kd.R_drew)); exact HO427.out)); (case aS => exact (below_size Z5)); (case aL => have := LMc104.out; omega); intro v429 w107 ho hb hg hat; rw [← Ny428.out] at ho; have n0_ := Aside0.mk (hb); have n1_ := Aside0.mk (Kept.of_grown (S := (fun k_ => P0_ k_)) hg Z7 (fun k_ e_ => (HO427.out.1 k_ e_))); have n2_ := Aside0.mk (ho); clear HB; clear HK; clear HO427; have HB := n0_; have HK := n1_; have HO430 := n2_; clear n0_ n1_ n2_; clear ho hb hg hat))
                        refine bodyPost_ret (results_list (rs := [.tmp 26, .tmp 27, .tmp 28, .tmp 29]) rfl (by simp) (.tmp (.tmp (.tmp (.tmp .nil))))) rfl ?_
                        exact ⟨_, by first | rfl | (simp [errW_none, errW_some] <;> rfl) | (simp only [← hji96]; first | rfl | (simp [errW_none, errW_some] <;> rfl)) | (simp [*, errW_none, errW_some] <;> rfl), by (with_reducible repeat (first | apply Kd.R_alloc | apply Kd.R_drewN | apply Kd.R_drew)); exact HO430.out, Z5, Z7⟩
                      ·rw [if_neg c104] at H
                       exact absurd H (by simp)
                    ·rw [if_neg c98] at H
                     exact absurd H (by simp)
                   ·rw [if_neg c97] at H
                    exact absurd H (by simp)
             ·replace c51 := Bool.eq_false_iff.mpr c51
              subst c51
              have H1 : (if x0_3.length < 140737488355328 then (some ((x0_3 ++ [a4]), wrap64 (x2_3 + 1), x11_3, (a3 != 123))) else (none)) = some (r1, r2, r3, r4) := Z34
              clear H
              have H := H1
              clear H1
              by_cases c108 : x0_3.length < 140737488355328
              ·rw [if_pos c108] at H
               have LMc108 := Aside0.mk c108
               clear c108
               obtain ⟨y431, hy431⟩ : ∃ y_ : List Int, y_ = (x0_3 ++ [a4]) := ⟨_, rfl⟩
               replace H : (some (y431, wrap64 (x2_3 + 1), x11_3, (a3 != 123))) = some (r1, r2, r3, r4) := by first | (rw [hy431]; with_reducible exact H) | (have H2_ := (Option.bind_some _ _).symm.trans H; rw [hy431]; with_reducible exact H2_) | (have H2_ := (Option.bind_some _ _).symm.trans H; with_reducible exact H2_) | with_reducible exact H | (rw [hy431]; exact H) | exact H
               have Ny431 := Aside0.mk hy431
               clear hy431
               as_aux_lemma =>
                simp only [Option.some.injEq, Prod.mk.injEq] at H
                obtain ⟨rfl, rfl, rfl, rfl⟩ := H
                have p391 : 0 ≤ (x2_3 : Int) := of_decide_eq_true Z11
                have q391 : x2_3 < (x1_3.length : Int) := of_decide_eq_true Z11
                obtain ⟨ad391, e391, hx391_0⟩ := Kd.at_int (Kd.V_reads' HO_1.out).2.2 x2_3 p391 q391
                cases e391
                replace p391 := eq_true p391
                replace q391 := eq_true q391
                have p392 : 0 ≤ (x2_3 : Int) := of_decide_eq_true Z11
                have q392 : x2_3 < (x1_3.length : Int) := of_decide_eq_true Z11
                obtain ⟨ad392, e392, hx392_0⟩ := Kd.at_int (Kd.V_reads' HO_1.out).2.2 x2_3 p392 q392
                obtain rfl : ad391 = ad392 := (by injection e392)
                replace p392 := eq_true p392
                replace q392 := eq_true q392
                go_wp2_with (first | ((with_reducible refine gate_builtin (b := .append) (xs := #[.tmp 166, .tmp 168]) rfl ?_); (try (refine gate_guard (by rfl) ?_; dsimp only)); at_builtin; refine Kd.R_append (Kd.int .u8) (w0 := w0) w0.heap.size rfl (.tmp 166) (.tmp 168) 39 5 (.int .u8 0) 1 rfl Try.underlying39 info5 rfl (by decide) (by omega) u0 x0_3 a4 [.int .u8 a4] (fun k_ => (P0_ k_ ∨ w.heap.size ≤ k_)) (fun _ => False) rfl rfl ?aP (fun _ hk => hk.elim) ?aF ?aO ?aB ?aS ?aL ?_; (case aP => exact rfl); (case aB => exact Z5); (case aF => exact Z87); (case aO => exact Z25); (case aS => exact (below_size Z5)); (case aL => have := LMc108.out; omega); intro v432 w109 ho hb hg hat; rw [← Ny431.out] at ho; have n0_ := Aside0.mk (Kd.V_afterv (ok := (fun k_ => ((P0_ k_ ∨ P1_ k_) ∨ w.heap.size ≤ k_) ∧ some k_ ≠ (u34 : Value).ownBlock)) (by (with_reducible repeat (first | apply Kd.V_alloc | apply Kd.V_drewN | apply Kd.V_drew)); exact Kd.V_mono HO_1.out (fun _ hk => ⟨⟨hk.1, hk.2.2⟩, hk.2.1⟩)) hg hat); have n1_ := Aside0.mk (Kd.R_over' Z93 (Kd.R_typed Z25) (by decide) hg); have n2_ := Aside0.mk (hb); have n3_ := Aside0.mk (Kept.of_grown (S := (fun k_ => P0_ k_)) hg Z7 (fun k_ e_ => (HO_0.out.1 k_ e_))); have n4_ := Aside0.mk (ho); clear HO_1; clear HO_34; clear HB; clear HK; clear HO_0; have HO_1 := n0_; have HO_34 := n1_; have HB := n2_; have HK := n3_; have HO433 := n4_; clear n0_ n1_ n2_ n3_ n4_; clear ho hb hg hat))
                refine bodyPost_ret (results_list (rs := [.tmp 26, .tmp 27, .tmp 28, .tmp 29]) rfl (by simp) (.tmp (.tmp (.tmp (.tmp .nil))))) rfl ?_
                exact ⟨_, Z15, by (with_reducible repeat (first | apply Kd.R_alloc | apply Kd.R_drewN | apply Kd.R_drew)); exact HO433.out, Z5, Z7⟩
              ·rw [if_neg c108] at H
               exact absurd H (by simp)
            ·rw [if_neg c50] at H
             have c50b0 : ((rd x1_3 x2_3) == a4) = false := beq_eq_false_iff_ne.mpr c50
             have c50b1 : ((rd x1_3 x2_3) != a4) = true := bne_iff_ne.mpr c50
             have HC110 := Aside0.mk H
             clear H
             have p391 : 0 ≤ (x2_3 : Int) := of_decide_eq_true Z11
             have q391 : x2_3 < (x1_3.length : Int) := of_decide_eq_true Z11
             obtain ⟨ad391, e391, hx391_0⟩ := Kd.at_int (Kd.V_reads' HO_1.out).2.2 x2_3 p391 q391
             cases e391
             replace p391 := eq_true p391
             replace q391 := eq_true q391
             have p392 : 0 ≤ (x2_3 : Int) := of_decide_eq_true Z11
             have q392 : x2_3 < (x1_3.length : Int) := of_decide_eq_true Z11
             obtain ⟨ad392, e392, hx392_0⟩ := Kd.at_int (Kd.V_reads' HO_1.out).2.2 x2_3 p392 q392
             obtain rfl : ad391 = ad392 := (by injection e392)
             replace p392 := eq_true p392
             replace q392 := eq_true q392
             go_upto_region 36 with (fail)
             go_cut [184] from 109 to 124 (fun v184 wc => ∃ (kq : Nat) (x184_109 : Bool), v184 = .bool x184_109 ∧ Aside0 (pObj.j6 VA VO kq x0_3 x1_3 x2_3 a3 a4 a5 a6 a7 a8 a10 x11_3 a12 x34_3 x35_3 x184_109 = some (r1, r2, r3, r4)) ∧ Aside0 (kq ≤ k3) ∧ Aside0 (Kd.R (Kd.int .u8) 5 wc w0.heap.size (fun k_ => (P0_ k_ ∨ w.heap.size ≤ k_)) u0 x0_3) ∧ Aside0 (Kd.V (Kd.int .u8) 5 wc w0.heap.size (fun k_ => ((P0_ k_ ∨ P1_ k_) ∨ w.heap.size ≤ k_) ∧ some k_ ≠ (u0 : Value).ownBlock ∧ some k_ ≠ (u34 : Value).ownBlock) (.slice (some ad391) x1_3.length c1) x1_3) ∧ Aside0 (Kd.R k69 69 wc w0.heap.size (fun k_ => (P0_ k_ ∨ w.heap.size ≤ k_)) u34 x34_3) ∧ Aside0 (Kept w wc (fun k_ => P0_ k_)) ∧ Aside0 (Below w0.heap.size w0 wc))
             case first =>
              have H := HC110.out
              clear HC110
              by_cases c111 : a3 = 91
              ·rw [if_pos c111] at H
               have c111b0 : (a3 == 91) = true := beq_iff_eq.mpr c111
               have c111b1 : (a3 != 91) = false := bne_eq_false_iff_eq.mpr c111
               clear c111
               (first | rw [c111b0] | (simp only [i64_w, i32_w]; rw [c111b0]) | skip)
               as_aux_lemma =>
                have H' := Aside0.mk H
                clear H
                go_wp2
                go_meet
                case rel => exact ⟨_, (true), Z16, H', ⟨Z152⟩, ⟨Z72⟩, ⟨Z89⟩, ⟨Z53⟩, ⟨Z7⟩, ⟨Z5⟩⟩
              ·rw [if_neg c111] at H
               have c111b0 : (a3 == 91) = false := beq_eq_false_iff_ne.mpr c111
               have c111b1 : (a3 != 91) = true := bne_iff_ne.mpr c111
               (first | rw [c111b0] | (simp only [i64_w, i32_w]; rw [c111b0]) | skip)
               as_aux_lemma =>
                have H' := Aside0.mk H
                clear H
                have p434 : 0 ≤ (x2_3 : Int) := of_decide_eq_true Z11
                have q434 : x2_3 < (x1_3.length : Int) := of_decide_eq_true Z11
                obtain ⟨ad434, e434, hx434_0⟩ := Kd.at_int (Kd.V_reads' HO_1.out).2.2 x2_3 p434 q434
                obtain rfl : ad391 = ad434 := (by injection e434)
                replace p434 := eq_true p434
                replace q434 := eq_true q434
                go_wp2
                go_meet
                case rel => exact ⟨_, (((rd x1_3 x2_3) == 34)), Z16, H', ⟨Z152⟩, ⟨Z72⟩, ⟨Z89⟩, ⟨Z53⟩, ⟨Z7⟩, ⟨Z5⟩⟩
             case rest =>
              clear HC110
              try clear c1
              try clear c42
              try clear c46
              try clear c47
              try clear c47b0
              try clear c48
              try clear c48b0
              try clear c49
              try clear c49b0
              try clear c50
              try clear c50b0
              try clear c50b1
              try clear hx391_0
              try clear hx392_0
              try clear p391
              try clear p392
              try clear q391
              try clear q392
              obtain ⟨kq, x184_109, rfl, HA, HJ109, HO_0, HO_1, HO_34, HK, HB⟩ := hcut
              cases kq with
              | zero => exact absurd HA.out (by simp [pObj.j6])
              | succ kj109 =>
               have H := HA.out
               clear HA
               simp only [pObj.j6] at H
               by_cases c112 : x184_109 = true
               ·subst c112
                have H1 : (if x35_3 > 0 then (if x0_3.length < 140737488355328 then ((some (x0_3 ++ [44] : List Int)).bind fun y435 => (if a6 = (-1) then (pObj.j7 VA VO kj109 y435 x1_3 x2_3 a3 a4 a5 a6 a7 a8 a10 x11_3 a12 x34_3 x35_3) else (if a3 = 91 then (if y435.length < 140737488355328 then (pObj.j7 VA VO kj109 (y435 ++ [32]) x1_3 x2_3 a3 a4 a5 a6 a7 a8 a10 x11_3 a12 x34_3 x35_3) else (none)) else (pObj.j7 VA VO kj109 y435 x1_3 x2_3 a3 a4 a5 a6 a7 a8 a10 x11_3 a12 x34_3 x35_3)))) else (none)) else (pObj.j7 VA VO kj109 x0_3 x1_3 x2_3 a3 a4 a5 a6 a7 a8 a10 x11_3 a12 x34_3 x35_3)) = some (r1, r2, r3, r4) := Z61
                clear H
                have H := H1
                clear H1
                have HC113 := Aside0.mk H
                clear H
                go_upto_if 186 with (fail)
                go_cut [0] from 185 to 186 (fun v0 wc => ∃ (kq : Nat) (x0_112 : List Int), Aside0 (pObj.j7 VA VO kq x0_112 x1_3 x2_3 a3 a4 a5 a6 a7 a8 a10 x11_3 a12 x34_3 x35_3 = some (r1, r2, r3, r4)) ∧ Aside0 (kq ≤ kj109) ∧ Aside0 (Kd.R (Kd.int .u8) 5 wc w0.heap.size (fun k_ => (P0_ k_ ∨ w.heap.size ≤ k_)) v0 x0_112) ∧ Aside0 (Kd.V (Kd.int .u8) 5 wc w0.heap.size (fun k_ => ((P0_ k_ ∨ P1_ k_) ∨ w.heap.size ≤ k_) ∧ some k_ ≠ (v0 : Value).ownBlock ∧ some k_ ≠ (u34 : Value).ownBlock) (.slice (some ad391) x1_3.length c1) x1_3) ∧ Aside0 (Kd.R k69 69 wc w0.heap.size (fun k_ => (P0_ k_ ∨ w.heap.size ≤ k_)) u34 x34_3) ∧ Aside0 (Kept w wc (fun k_ => P0_ k_)) ∧ Aside0 (Below w0.heap.size w0 wc))
                case first =>
                 have H := HC113.out
                 clear HC113
                 by_cases c114 : x35_3 > 0
                 ·rw [if_pos c114] at H
                  have c114b0 : decide (0 < x35_3) = true := decide_eq_true c114
                  clear c114
                  (first | rw [c114b0] | (simp only [i64_w, i32_w]; rw [c114b0]) | skip)
                  by_cases c115 : x0_3.length < 140737488355328
                  ·rw [if_pos c115] at H
                   have LMc115 := Aside0.mk c115
                   clear c115
                   obtain ⟨y435, hy435⟩ : ∃ y_ : List Int, y_ = (x0_3 ++ [44]) := ⟨_, rfl⟩
                   replace H : (if a6 = (-1) then (pObj.j7 VA VO kj109 y435 x1_3 x2_3 a3 a4 a5 a6 a7 a8 a10 x11_3 a12 x34_3 x35_3) else (if a3 = 91 then (if y435.length < 140737488355328 then (pObj.j7 VA VO kj109 (y435 ++ [32]) x1_3 x2_3 a3 a4 a5 a6 a7 a8 a10 x11_3 a12 x34_3 x35_3) else (none)) else (pObj.j7 VA VO kj109 y435 x1_3 x2_3 a3 a4 a5 a6 a7 a8 a10 x11_3 a12 x34_3 x35_3))) = some (r1, r2, r3, r4) := by first | (rw [hy435]; with_reducible exact H) | (have H2_ := (Option.bind_some _ _).symm.trans H; rw [hy435]; with_reducible exact H2_) | (have H2_ := (Option.bind_some _ _).symm.trans H; with_reducible exact H2_) | with_reducible exact H | (rw [hy435]; exact H) | exact H
                   have Ny435 := Aside0.mk hy435
                   clear hy435
                   by_cases c116 : a6 = (-1)
                   ·rw [if_pos c116] at H
                    have c116b0 : (a6 == (-1)) = true := beq_iff_eq.mpr c116
                    have c116b1 : (a6 != (-1)) = false := bne_eq_false_iff_eq.mpr c116
                    clear c116
                    as_aux_lemma =>
                     have H' := Aside0.mk H
                     clear H
                     exact Z14
                   ·rw [if_neg c116] at H
                    have c116b0 : (a6 == (-1)) = false := beq_eq_false_iff_ne.mpr c116
                    have c116b1 : (a6 != (-1)) = true := bne_iff_ne.mpr c116
                    by_cases c118 : a3 = 91
                    ·rw [if_pos c118] at H
                     have c118b0 : (a3 == 91) = true := beq_iff_eq.mpr c118
                     have c118b1 : (a3 != 91) = false := bne_eq_false_iff_eq.mpr c118
                     clear c118
                     by_cases c119 : y435.length < 140737488355328
                     ·rw [if_pos c119] at H
                      have LMc119 := Aside0.mk c119
                      clear c119
                      obtain ⟨y438, hy438⟩ : ∃ y_ : List Int, y_ = (y435 ++ [32]) := ⟨_, rfl⟩
                      replace H : (pObj.j7 VA VO kj109 y438 x1_3 x2_3 a3 a4 a5 a6 a7 a8 a10 x11_3 a12 x34_3 x35_3) = some (r1, r2, r3, r4) := by first | (rw [hy438]; with_reducible exact H) | (have H2_ := (Option.bind_some _ _).symm.trans H; rw [hy438]; with_reducible exact H2_) | (have H2_ := (Option.bind_some _ _).symm.trans H; with_reducible exact H2_) | with_reducible exact H | (rw [hy438]; exact H) | exact H
                      have Ny438 := Aside0.mk hy438
                      clear hy438
                      as_aux_lemma =>
                       have H' := Aside0.mk H
                       clear H
                       exact Z14
                     ·rw [if_neg c119] at H
                      exact absurd H (by simp)
                    ·rw [if_neg c118] at H
                     have c118b0 : (a3 == 91) = false := beq_eq_false_iff_ne.mpr c118
                     have c118b1 : (a3 != 91) = true := bne_iff_ne.mpr c118
                     as_aux_lemma =>
                      have H' := Aside0.mk H
                      clear H
                      exact Z14
                  ·rw [if_neg c115] at H
                   exact absurd H (by simp)
                 ·rw [if_neg c114] at H
                  have c114b0 : decide (0 < x35_3) = false := decide_eq_false c114
                  clear c114
                  (first | rw [c114b0] | (simp only [i64_w, i32_w]; rw [c114b0]) | skip)
                  as_aux_lemma =>
                   have H' := Aside0.mk H
                   clear H
                   go_wp2
                   go_meet
                   case rel => exact ⟨_, (x0_3), H', ⟨Z161⟩, ⟨Z72⟩, ⟨Z89⟩, ⟨Z53⟩, ⟨Z7⟩, ⟨Z5⟩⟩
                case rest =>
                 clear HC113
                 try clear c1
                 try clear c42
                 try clear c46
                 try clear c47
                 try clear c47b0
                 try clear c48
                 try clear c48b0
                 try clear c49
                 try clear c49b0
                 try clear c50
                 try clear c50b0
                 try clear c50b1
                 try clear c112
                 try clear hx391_0
                 try clear hx392_0
                 try clear p391
                 try clear p392
                 try clear q391
                 try clear q392
                 obtain ⟨kq, x0_112, HA, HJ112, HO_0, HO_1, HO_34, HK, HB⟩ := hcut
                 cases kq with
                 | zero => exact absurd HA.out (by simp [pObj.j7])
                 | succ kj112 =>
                  have H := HA.out
                  clear HA
                  simp only [pObj.j7] at H
                  have HC123 := Aside0.mk H
                  clear H
                  go_upto_if 199 with (first | ((with_reducible refine gate_dst (N := 36) rfl ?_); (try (refine gate_guard (by rfl) ?_; dsimp only)); refine box_event ?hg (N := 36) ?hd (cs := #[.int .i64 0, .int .i64 0, .int .i64 0, .int .i64 0]) (t := 69) ?hr ?_; (case hd => rfl); (case hg => rfl); (case hr => exact Z62); intro gb441 hg w124 hbox hb; have n0_ := Aside0.mk (Kd.R_below Z25 hb); have n1_ := Aside0.mk (Kd.V_below (Kd.V_elderB Z107 gb441 (Nat.le_of_eq hg.symm)) hb); have n2_ := Aside0.mk (Kd.R_below (Kd.R_elderB Z93 gb441 (Nat.le_of_eq hg.symm)) hb); have n3_ := Aside0.mk (Kept.below (S := (fun k_ => P0_ k_)) Z7 hb); have n4_ := Aside0.mk (below_step Z5 hb); have n5_ := Aside0.mk (hbox); have n6_ := Aside0.mk ((by rw [hg]; exact Z35 : w.heap.size ≤ gb441)); have n7_ := Aside0.mk ((by rw [hg]; exact (below_size Z5) : w0.heap.size ≤ gb441)); clear HO_0; clear HO_1; clear HO_34; clear HK; clear HB; have HO_0 := n0_; have HO_1 := n1_; have HO_34 := n2_; have HK := n3_; have HB := n4_; have BK441 := n5_; have GW441 := n6_; have GE441 := n7_; clear n0_ n1_ n2_ n3_ n4_ n5_ n6_ n7_; clear hb hbox hg))
                  (try simp only [Act.put, List.setIfInBounds_toArray, List.set_cons_zero, List.set_cons_succ])
                  go_cut [0, 11] from 199 to 199 (fun v0 v11 wc => ∃ (kq : Nat) (x0_122 : List Int) (x1_122 : List Int) (x11_122 : Int) (x442000_122 : Int) (x442002_122 : Int), v11 = .int .i64 x11_122 ∧ Aside0 (pObj.j8 VA VO kq x0_122 x1_122 x2_3 a3 a4 a5 a6 a7 a8 a10 x11_122 a12 x34_3 x35_3 x442000_122 0 x442002_122 0 = some (r1, r2, r3, r4)) ∧ Aside0 (kq ≤ kj112) ∧ Aside0 (Kd.R (Kd.int .u8) 5 wc w0.heap.size (fun k_ => (P0_ k_ ∨ w.heap.size ≤ k_)) v0 x0_122) ∧ Aside0 (Kd.V (Kd.int .u8) 5 wc w0.heap.size (fun k_ => ((P0_ k_ ∨ P1_ k_) ∨ w.heap.size ≤ k_) ∧ some k_ ≠ (v0 : Value).ownBlock ∧ some k_ ≠ (u34 : Value).ownBlock ∧ k_ ≠ gb441) (.slice (some ad391) x1_3.length c1) x1_122) ∧ Aside0 (Kd.R k69 69 wc w0.heap.size (fun k_ => (P0_ k_ ∨ w.heap.size ≤ k_) ∧ k_ ≠ gb441) u34 x34_3) ∧ Aside0 (wc.heap[gb441]? = some (.cells #[.int .i64 x442000_122, .int .i64 0, .int .i64 x442002_122, .int .i64 0] 69 (0, 0))) ∧ Aside0 (Kept w wc (fun k_ => P0_ k_)) ∧ Aside0 (Below w0.heap.size w0 wc))
                  case first =>
                   have H := HC123.out
                   clear HC123
                   by_cases c125 : a5 = true
                   ·subst c125
                    have H1 : (if 0 ≤ (wrap64 ((x0_112.length : Int) - 1)) then (if (wrap64 ((x0_112.length : Int) - 1)) < (x0_112.length : Int) then (if (rd x0_112 (wrap64 ((x0_112.length : Int) - 1))) = 32 then ((some (x0_112.set ((wrap64 ((x0_112.length : Int) - 1)) : Int).toNat 10 : List Int)).bind fun y443 => (if a3 = 123 then ((pretty_appendTabs.f kj112 y443 a7 a8 (wrap64 (a10 + 1))).bind fun t444 => (pObj.j8 VA VO kj112 t444 x1_3 x2_3 a3 a4 true a6 a7 a8 a10 (x0_112.length : Int) a12 x34_3 x35_3 0 0 0 0)) else ((pretty_appendTabs.f kj112 y443 a7 a8 (wrap64 (a10 + 1))).bind fun t447 => (pObj.j8 VA VO kj112 t447 x1_3 x2_3 a3 a4 true a6 a7 a8 a10 (x0_112.length : Int) a12 x34_3 x35_3 0 0 0 0)))) else (if x0_112.length < 140737488355328 then ((some (x0_112 ++ [10] : List Int)).bind fun y450 => (if a3 = 123 then ((pretty_appendTabs.f kj112 y450 a7 a8 (wrap64 (a10 + 1))).bind fun t453 => (pObj.j8 VA VO kj112 t453 x1_3 x2_3 a3 a4 true a6 a7 a8 a10 (x0_112.length : Int) a12 x34_3 x35_3 0 0 0 0)) else ((pretty_appendTabs.f kj112 y450 a7 a8 (wrap64 (a10 + 1))).bind fun t456 => (pObj.j8 VA VO kj112 t456 x1_3 x2_3 a3 a4 true a6 a7 a8 a10 (x0_112.length : Int) a12 x34_3 x35_3 0 0 0 0)))) else (none))) else (none)) else (none)) = some (r1, r2, r3, r4) := Z61
                    clear H
                    have H := H1
                    clear H1
                    obtain ⟨ji126, hji126⟩ : ∃ j_ : Int, (wrap64 ((x0_112.length : Int) - 1)) = j_ := ⟨_, rfl⟩
                    replace H : (if 0 ≤ (ji126) then (if (ji126) < (x0_112.length : Int) then (if (rd x0_112 (ji126)) = 32 then ((some (x0_112.set ((ji126) : Int).toNat 10 : List Int)).bind fun y443 => (if a3 = 123 then ((pretty_appendTabs.f kj112 y443 a7 a8 (wrap64 (a10 + 1))).bind fun t444 => (pObj.j8 VA VO kj112 t444 x1_3 x2_3 a3 a4 true a6 a7 a8 a10 (x0_112.length : Int) a12 x34_3 x35_3 0 0 0 0)) else ((pretty_appendTabs.f kj112 y443 a7 a8 (wrap64 (a10 + 1))).bind fun t447 => (pObj.j8 VA VO kj112 t447 x1_3 x2_3 a3 a4 true a6 a7 a8 a10 (x0_112.length : Int) a12 x34_3 x35_3 0 0 0 0)))) else (if x0_112.length < 140737488355328 then ((some (x0_112 ++ [10] : List Int)).bind fun y450 => (if a3 = 123 then ((pretty_appendTabs.f kj112 y450 a7 a8 (wrap64 (a10 + 1))).bind fun t453 => (pObj.j8 VA VO kj112 t453 x1_3 x2_3 a3 a4 true a6 a7 a8 a10 (x0_112.length : Int) a12 x34_3 x35_3 0 0 0 0)) else ((pretty_appendTabs.f kj112 y450 a7 a8 (wrap64 (a10 + 1))).bind fun t456 => (pObj.j8 VA VO kj112 t456 x1_3 x2_3 a3 a4 true a6 a7 a8 a10 (x0_112.length : Int) a12 x34_3 x35_3 0 0 0 0)))) else (none))) else (none)) else (none)) = some (r1, r2, r3, r4) := by first | (rw [hji126] at H; exact H) | (simp only [hji126] at H ⊢; exact H)
                    have hji126w : (IntKind.i64.wrap ((x0_112.length : Int) - 1)) = ji126 := (i64_w _).trans hji126
                    by_cases c127 : 0 ≤ (ji126)
                    ·rw [if_pos c127] at H
                     have c127b0 : decide (0 ≤ (ji126)) = true := decide_eq_true c127
                     clear c127
                     (first | rw [c127b0] | (simp only [i64_w, i32_w]; rw [c127b0]) | skip)
                     by_cases c128 : (ji126) < (x0_112.length : Int)
                     ·rw [if_pos c128] at H
                      have c128b0 : decide ((ji126) < (x0_112.length : Int)) = true := decide_eq_true c128
                      clear c128
                      by_cases c129 : (rd x0_112 (ji126)) = 32
                      ·rw [if_pos c129] at H
                       have c129b0 : ((rd x0_112 (ji126)) == 32) = true := beq_iff_eq.mpr c129
                       have c129b1 : ((rd x0_112 (ji126)) != 32) = false := bne_eq_false_iff_eq.mpr c129
                       clear c129
                       obtain ⟨y443, hy443⟩ : ∃ y_ : List Int, y_ = (x0_112.set ((ji126) : Int).toNat 10) := ⟨_, rfl⟩
                       replace H : (if a3 = 123 then ((pretty_appendTabs.f kj112 y443 a7 a8 (wrap64 (a10 + 1))).bind fun t444 => (pObj.j8 VA VO kj112 t444 x1_3 x2_3 a3 a4 true a6 a7 a8 a10 (x0_112.length : Int) a12 x34_3 x35_3 0 0 0 0)) else ((pretty_appendTabs.f kj112 y443 a7 a8 (wrap64 (a10 + 1))).bind fun t447 => (pObj.j8 VA VO kj112 t447 x1_3 x2_3 a3 a4 true a6 a7 a8 a10 (x0_112.length : Int) a12 x34_3 x35_3 0 0 0 0))) = some (r1, r2, r3, r4) := by first | (rw [hy443]; with_reducible exact H) | (have H2_ := (Option.bind_some _ _).symm.trans H; rw [hy443]; with_reducible exact H2_) | (have H2_ := (Option.bind_some _ _).symm.trans H; with_reducible exact H2_) | with_reducible exact H | (rw [hy443]; exact H) | exact H
                       have Ny443 := Aside0.mk hy443
                       clear hy443
                       by_cases c131 : a3 = 123
                       ·rw [if_pos c131] at H
                        have c131b0 : (a3 == 123) = true := beq_iff_eq.mpr c131
                        have c131b1 : (a3 != 123) = false := bne_eq_false_iff_eq.mpr c131
                        clear c131
                        replace H := Option.bind_eq_some_iff.mp H
                        obtain ⟨t444, A1320, H⟩ := H
                        replace H : (pObj.j8 VA VO kj112 t444 x1_3 x2_3 a3 a4 true a6 a7 a8 a10 (x0_112.length : Int) a12 x34_3 x35_3 0 0 0 0) = some (r1, r2, r3, r4) := H
                        have A132 := Aside0.mk A1320
                        clear A1320
                        as_aux_lemma =>
                         have H' := Aside0.mk H
                         clear H
                         obtain ⟨Ao133, co133, eo133⟩ := Kd.R_slice HO_0.out
                         subst eo133
                         have p442 : 0 ≤ ((ji126) : Int) := of_decide_eq_true Z11
                         have q442 : (ji126) < (x0_112.length : Int) := of_decide_eq_true Z11
                         obtain ⟨ad442, e442, hx442_0⟩ := Kd.at_int (Kd.R_reads' HO_0.out).2.2 (ji126) p442 q442
                         cases e442
                         replace p442 := eq_true p442
                         replace q442 := eq_true q442
                         have p130 : 0 ≤ ((ji126) : Int) := of_decide_eq_true Z11
                         have q130 : ((ji126) : Int) < ((x0_112.length : Int) : Int) := of_decide_eq_true Z11
                         obtain ⟨go130, co130, eo130, gb130, gl130, cl130, HG130⟩ := Kd.R_form HO_0.out (by omega)
                         (first | cases eo130 | (injection eo130 with ea_ en_ ec_; (first | subst ea_ | (injection ea_ with ea_; subst ea_)); subst ec_; clear en_))
                         have GB130 := Aside0.mk gb130
                         have GG130 := Aside0.mk HG130
                         clear gb130 gl130 HG130
                         have HMgo130 := Aside0.mk (show (P0_ go130 ∨ w.heap.size ≤ go130) from (HO_0.out.1 _ rfl))
                         (first | simp only [add_plain] at hx442_0 | skip)
                         obtain ⟨hx130_0, hf130_0⟩ := Kd.R_celln 0 HO_0.out ((ji126) : Int) p130 q130
                         replace p130 := eq_true p130
                         replace q130 := eq_true q130
                         have HP134 := Kd.R_putg HO_0.out ((ji126) : Int) 10
                         go_wp2_with (first | ((with_reducible refine gate_store (t := 5) (p := 211) rfl ?_); refine store_event (t := 5) (p := 211) (v := ?vo_w135) (w1 := (w124.setCell ⟨go130, ((ji126) : Int).toNat, none⟩ (.int .u8 10))) ?hg ?ho ?hn ?hr ?_; (case ho => rfl); (case hg => rfl); (case hn => rfl); (case hr => exact Z62); intro w135 hw; have hg : w124.grownBy w135 (some go130) := (by rw [hw]; exact HP134.2); have hp_ : Kd.R (Kd.int .u8) 5 w135 w0.heap.size (fun k_ => (P0_ k_ ∨ w.heap.size ≤ k_)) (.slice (some ⟨go130, 0, none⟩) x0_112.length co133) y443 := (by rw [hw, Ny443.out]; exact HP134.1); clear HP134; have n0_ := Aside0.mk (hp_); have n1_ := Aside0.mk (Kd.V_afterv (v := (.slice (some ⟨go130, 0, none⟩) x0_112.length co133)) (v1 := (.slice (some ⟨go130, 0, none⟩) x0_112.length co133)) (ok := (fun k_ => ((P0_ k_ ∨ P1_ k_) ∨ w.heap.size ≤ k_) ∧ some k_ ≠ (u34 : Value).ownBlock ∧ k_ ≠ gb441)) Z114 hg (.inl rfl)); have n2_ := Aside0.mk (Kd.R_over' (v := (.slice (some ⟨go130, 0, none⟩) x0_112.length co133)) Z93 (Kd.R_typed HO_0.out) (by decide) hg); have n3_ := Aside0.mk (blk_grown (g := gb441) (o := .cells #[.int .i64 0, .int .i64 0, .int .i64 0, .int .i64 0] 69 (0, 0)) Z65 hg (Kd.R_ne HO_0.out BK441.out (by decide))); have n4_ := Aside0.mk ((by rw [hw]; exact below_set (HB.out) GB130.out : Below w0.heap.size w0 w135)); have n5_ := Aside0.mk (Kept.of_grown (S := (fun k_ => P0_ k_)) hg Z17 (fun k_ e_ => (HO_0.out.1 k_ e_))); clear HO_0; clear HO_1; clear HO_34; clear BK441; clear HB; clear HK; have HO_0 := n0_; have HO_1 := n1_; have HO_34 := n2_; have BK441 := n3_; have HB := n4_; have HK := n5_; clear n0_ n1_ n2_ n3_ n4_ n5_; clear hg hw hp_) | ((with_reducible refine gate_callee (f := 40) rfl ?_); refine goesL_ (some 230) rfl rfl Try.func40 (by kernel_rfl) rfl #[.slice (some ⟨go130, 0, none⟩) x0_112.length co133, .string a7, .string a8, .int .i64 (wrap64 (a10 + 1))] rfl Z13 ?_; (with_reducible refine (pretty_appendTabs.calls kj112 (fun k_ => some k_ = (.slice (some ⟨go130, 0, none⟩) x0_112.length co133 : Value).ownBlock) (.slice (some ⟨go130, 0, none⟩) x0_112.length co133) y443 a7 a8 (wrap64 (a10 + 1)) t444 w0 _ ?side1 ?side2 A132.out).mono ?_); (case side1 => exact Z20); (case side2 => exact Kd.R_tight rfl HO_0.out); rintro e w136 ⟨v445, rfl, ho0, hb, hkp⟩; refine ⟨_, rfl, ?_⟩; have n0_ := Aside0.mk (Kd.V_mono (ok' := fun k_ => ((P0_ k_ ∨ P1_ k_) ∨ w.heap.size ≤ k_) ∧ some k_ ≠ (u34 : Value).ownBlock ∧ k_ ≠ gb441 ∧ some k_ ≠ (v445 : Value).ownBlock) (Kd.V_keptB (HO_1.out) hkp (fun k_ hk_ hs_ => (hk_.2) hs_)) (fun k_ hk_ => ⟨hk_.1.1.1, hk_.1.1.2.1, hk_.1.1.2.2, fun e_ => Or.elim (ho0.1 k_ e_.symm) (fun hs_ => hk_.2.1 hs_) (fun hn_ => Nat.not_le.2 hk_.2.2 hn_)⟩)); have n1_ := Aside0.mk (Kd.R_mono (ok' := fun k_ => (P0_ k_ ∨ w.heap.size ≤ k_) ∧ k_ ≠ gb441) (Kd.R_keptB ((Kd.R_apart' HO_34.out (Kd.R_typed HO_0.out) (by decide))) hkp (fun k_ hk_ hs_ => (hk_.2) hs_)) (fun k_ hk_ => ⟨hk_.1.1.1, hk_.1.1.2⟩)); have n2_ := Aside0.mk (blk_kept Z65 hkp (fun hs_ => (fun e_ => (Kd.R_ne HO_0.out BK441.out (by decide)) e_) hs_)); have n3_ := Aside0.mk (Kd.R_mono (ok' := fun k_ => (P0_ k_ ∨ w.heap.size ≤ k_)) ho0 (fun k_ hk_ => Or.elim hk_ (fun hs_ => (HO_0.out.1 k_ (hs_).symm)) (fun hn_ => (.inr (Nat.le_trans Z98 hn_))))); have n4_ := Aside0.mk (Kept.then_ (S := (fun k_ => P0_ k_)) Z17 hkp (fun k_ hs_ => (fun e_ => (HO_0.out.1 k_ e_.symm)) hs_)); have n5_ := Aside0.mk (hb); clear HO_1; clear HO_34; clear BK441; clear HK; clear HB; clear HO_0; have HO_1 := n0_; have HO_34 := n1_; have BK441 := n2_; have HO446 := n3_; have HK := n4_; have HB := n5_; clear n0_ n1_ n2_ n3_ n4_ n5_; (try clear hb); (try clear hkp); (try clear ho0)))
                         go_meet
                         case rel => exact ⟨_, (t444), (x1_3), ((x0_112.length : Int)), (0), (0), Z16, H', ⟨Z121⟩, ⟨by (try simp only [hl1_3]); (with_reducible repeat (first | apply Kd.R_alloc | apply Kd.R_drewN | apply Kd.R_drew)); exact HO446.out⟩, ⟨Z108⟩, ⟨Z53⟩, ⟨Z113⟩, ⟨Z17⟩, ⟨Z20⟩⟩
                       ·rw [if_neg c131] at H
                        have c131b0 : (a3 == 123) = false := beq_eq_false_iff_ne.mpr c131
                        have c131b1 : (a3 != 123) = true := bne_iff_ne.mpr c131
                        replace H := Option.bind_eq_some_iff.mp H
                        obtain ⟨t447, A1370, H⟩ := H
                        replace H : (pObj.j8 VA VO kj112 t447 x1_3 x2_3 a3 a4 true a6 a7 a8 a10 (x0_112.length : Int) a12 x34_3 x35_3 0 0 0 0) = some (r1, r2, r3, r4) := H
                        have A137 := Aside0.mk A1370
                        clear A1370
                        as_aux_lemma =>
                         have H' := Aside0.mk H
                         clear H
                         obtain ⟨Ao138, co138, eo138⟩ := Kd.R_slice HO_0.out
                         subst eo138
                         have p442 : 0 ≤ ((ji126) : Int) := of_decide_eq_true Z11
                         have q442 : (ji126) < (x0_112.length : Int) := of_decide_eq_true Z11
                         obtain ⟨ad442, e442, hx442_0⟩ := Kd.at_int (Kd.R_reads' HO_0.out).2.2 (ji126) p442 q442
                         cases e442
                         replace p442 := eq_true p442
                         replace q442 := eq_true q442
                         have p130 : 0 ≤ ((ji126) : Int) := of_decide_eq_true Z11
                         have q130 : ((ji126) : Int) < ((x0_112.length : Int) : Int) := of_decide_eq_true Z11
                         obtain ⟨go130, co130, eo130, gb130, gl130, cl130, HG130⟩ := Kd.R_form HO_0.out (by omega)
                         (first | cases eo130 | (injection eo130 with ea_ en_ ec_; (first | subst ea_ | (injection ea_ with ea_; subst ea_)); subst ec_; clear en_))
                         have GB130 := Aside0.mk gb130
                         have GG130 := Aside0.mk HG130
                         clear gb130 gl130 HG130
                         have HMgo130 := Aside0.mk (show (P0_ go130 ∨ w.heap.size ≤ go130) from (HO_0.out.1 _ rfl))
                         (first | simp only [add_plain] at hx442_0 | skip)
                         obtain ⟨hx130_0, hf130_0⟩ := Kd.R_celln 0 HO_0.out ((ji126) : Int) p130 q130
                         replace p130 := eq_true p130
                         replace q130 := eq_true q130
                         have HP139 := Kd.R_putg HO_0.out ((ji126) : Int) 10
                         go_wp2_with (first | ((with_reducible refine gate_store (t := 5) (p := 211) rfl ?_); refine store_event (t := 5) (p := 211) (v := ?vo_w140) (w1 := (w124.setCell ⟨go130, ((ji126) : Int).toNat, none⟩ (.int .u8 10))) ?hg ?ho ?hn ?hr ?_; (case ho => rfl); (case hg => rfl); (case hn => rfl); (case hr => exact Z62); intro w140 hw; have hg : w124.grownBy w140 (some go130) := (by rw [hw]; exact HP139.2); have hp_ : Kd.R (Kd.int .u8) 5 w140 w0.heap.size (fun k_ => (P0_ k_ ∨ w.heap.size ≤ k_)) (.slice (some ⟨go130, 0, none⟩) x0_112.length co138) y443 := (by rw [hw, Ny443.out]; exact HP139.1); clear HP139; have n0_ := Aside0.mk (hp_); have n1_ := Aside0.mk (Kd.V_afterv (v := (.slice (some ⟨go130, 0, none⟩) x0_112.length co138)) (v1 := (.slice (some ⟨go130, 0, none⟩) x0_112.length co138)) (ok := (fun k_ => ((P0_ k_ ∨ P1_ k_) ∨ w.heap.size ≤ k_) ∧ some k_ ≠ (u34 : Value).ownBlock ∧ k_ ≠ gb441)) Z114 hg (.inl rfl)); have n2_ := Aside0.mk (Kd.R_over' (v := (.slice (some ⟨go130, 0, none⟩) x0_112.length co138)) Z93 (Kd.R_typed HO_0.out) (by decide) hg); have n3_ := Aside0.mk (blk_grown (g := gb441) (o := .cells #[.int .i64 0, .int .i64 0, .int .i64 0, .int .i64 0] 69 (0, 0)) Z65 hg (Kd.R_ne HO_0.out BK441.out (by decide))); have n4_ := Aside0.mk ((by rw [hw]; exact below_set (HB.out) GB130.out : Below w0.heap.size w0 w140)); have n5_ := Aside0.mk (Kept.of_grown (S := (fun k_ => P0_ k_)) hg Z17 (fun k_ e_ => (HO_0.out.1 k_ e_))); clear HO_0; clear HO_1; clear HO_34; clear BK441; clear HB; clear HK; have HO_0 := n0_; have HO_1 := n1_; have HO_34 := n2_; have BK441 := n3_; have HB := n4_; have HK := n5_; clear n0_ n1_ n2_ n3_ n4_ n5_; clear hg hw hp_) | ((with_reducible refine gate_callee (f := 40) rfl ?_); refine goesL_ (some 230) rfl rfl Try.func40 (by kernel_rfl) rfl #[.slice (some ⟨go130, 0, none⟩) x0_112.length co138, .string a7, .string a8, .int .i64 (wrap64 (a10 + 1))] rfl Z13 ?_; (with_reducible refine (pretty_appendTabs.calls kj112 (fun k_ => some k_ = (.slice (some ⟨go130, 0, none⟩) x0_112.length co138 : Value).ownBlock) (.slice (some ⟨go130, 0, none⟩) x0_112.length co138) y443 a7 a8 (wrap64 (a10 + 1)) t447 w0 _ ?side1 ?side2 A137.out).mono ?_); (case side1 => exact Z20); (case side2 => exact Kd.R_tight rfl HO_0.out); rintro e w141 ⟨v448, rfl, ho0, hb, hkp⟩; refine ⟨_, rfl, ?_⟩; have n0_ := Aside0.mk (Kd.V_mono (ok' := fun k_ => ((P0_ k_ ∨ P1_ k_) ∨ w.heap.size ≤ k_) ∧ some k_ ≠ (u34 : Value).ownBlock ∧ k_ ≠ gb441 ∧ some k_ ≠ (v448 : Value).ownBlock) (Kd.V_keptB (HO_1.out) hkp (fun k_ hk_ hs_ => (hk_.2) hs_)) (fun k_ hk_ => ⟨hk_.1.1.1, hk_.1.1.2.1, hk_.1.1.2.2, fun e_ => Or.elim (ho0.1 k_ e_.symm) (fun hs_ => hk_.2.1 hs_) (fun hn_ => Nat.not_le.2 hk_.2.2 hn_)⟩)); have n1_ := Aside0.mk (Kd.R_mono (ok' := fun k_ => (P0_ k_ ∨ w.heap.size ≤ k_) ∧ k_ ≠ gb441) (Kd.R_keptB ((Kd.R_apart' HO_34.out (Kd.R_typed HO_0.out) (by decide))) hkp (fun k_ hk_ hs_ => (hk_.2) hs_)) (fun k_ hk_ => ⟨hk_.1.1.1, hk_.1.1.2⟩)); have n2_ := Aside0.mk (blk_kept Z65 hkp (fun hs_ => (fun e_ => (Kd.R_ne HO_0.out BK441.out (by decide)) e_) hs_)); have n3_ := Aside0.mk (Kd.R_mono (ok' := fun k_ => (P0_ k_ ∨ w.heap.size ≤ k_)) ho0 (fun k_ hk_ => Or.elim hk_ (fun hs_ => (HO_0.out.1 k_ (hs_).symm)) (fun hn_ => (.inr (Nat.le_trans Z98 hn_))))); have n4_ := Aside0.mk (Kept.then_ (S := (fun k_ => P0_ k_)) Z17 hkp (fun k_ hs_ => (fun e_ => (HO_0.out.1 k_ e_.symm)) hs_)); have n5_ := Aside0.mk (hb); clear HO_1; clear HO_34; clear BK441; clear HK; clear HB; clear HO_0; have HO_1 := n0_; have HO_34 := n1_; have BK441 := n2_; have HO449 := n3_; have HK := n4_; have HB := n5_; clear n0_ n1_ n2_ n3_ n4_ n5_; (try clear hb); (try clear hkp); (try clear ho0)))
                         go_meet
                         case rel => exact ⟨_, (t447), (x1_3), ((x0_112.length : Int)), (0), (0), Z16, H', ⟨Z121⟩, ⟨by (try simp only [hl1_3]); (with_reducible repeat (first | apply Kd.R_alloc | apply Kd.R_drewN | apply Kd.R_drew)); exact HO449.out⟩, ⟨Z108⟩, ⟨Z53⟩, ⟨Z113⟩, ⟨Z17⟩, ⟨Z20⟩⟩
                      ·rw [if_neg c129] at H
                       have c129b0 : ((rd x0_112 (ji126)) == 32) = false := beq_eq_false_iff_ne.mpr c129
                       have c129b1 : ((rd x0_112 (ji126)) != 32) = true := bne_iff_ne.mpr c129
                       by_cases c142 : x0_112.length < 140737488355328
                       ·rw [if_pos c142] at H
                        have LMc142 := Aside0.mk c142
                        clear c142
                        obtain ⟨y450, hy450⟩ : ∃ y_ : List Int, y_ = (x0_112 ++ [10]) := ⟨_, rfl⟩
                        replace H : (if a3 = 123 then ((pretty_appendTabs.f kj112 y450 a7 a8 (wrap64 (a10 + 1))).bind fun t453 => (pObj.j8 VA VO kj112 t453 x1_3 x2_3 a3 a4 true a6 a7 a8 a10 (x0_112.length : Int) a12 x34_3 x35_3 0 0 0 0)) else ((pretty_appendTabs.f kj112 y450 a7 a8 (wrap64 (a10 + 1))).bind fun t456 => (pObj.j8 VA VO kj112 t456 x1_3 x2_3 a3 a4 true a6 a7 a8 a10 (x0_112.length : Int) a12 x34_3 x35_3 0 0 0 0))) = some (r1, r2, r3, r4) := by first | (rw [hy450]; with_reducible exact H) | (have H2_ := (Option.bind_some _ _).symm.trans H; rw [hy450]; with_reducible exact H2_) | (have H2_ := (Option.bind_some _ _).symm.trans H; with_reducible exact H2_) | with_reducible exact H | (rw [hy450]; exact H) | exact H
                        have Ny450 := Aside0.mk hy450
                        clear hy450
                        by_cases c143 : a3 = 123
                        ·rw [if_pos c143] at H
                         have c143b0 : (a3 == 123) = true := beq_iff_eq.mpr c143
                         have c143b1 : (a3 != 123) = false := bne_eq_false_iff_eq.mpr c143
                         clear c143
                         replace H := Option.bind_eq_some_iff.mp H
                         obtain ⟨t453, A1440, H⟩ := H
                         replace H : (pObj.j8 VA VO kj112 t453 x1_3 x2_3 a3 a4 true a6 a7 a8 a10 (x0_112.length : Int) a12 x34_3 x35_3 0 0 0 0) = some (r1, r2, r3, r4) := H
                         have A144 := Aside0.mk A1440
                         clear A1440
                         as_aux_lemma =>
                          have H' := Aside0.mk H
                          clear H
                          obtain ⟨Ao145, co145, eo145⟩ := Kd.R_slice HO_0.out
                          subst eo145
                          have p442 : 0 ≤ ((ji126) : Int) := of_decide_eq_true Z11
                          have q442 : (ji126) < (x0_112.length : Int) := of_decide_eq_true Z11
                          obtain ⟨ad442, e442, hx442_0⟩ := Kd.at_int (Kd.R_reads' HO_0.out).2.2 (ji126) p442 q442
                          cases e442
                          replace p442 := eq_true p442
                          replace q442 := eq_true q442
                          go_wp2_with (first | ((with_reducible refine gate_builtin (b := .append) (xs := #[.tmp 212, .tmp 213]) rfl ?_); (try (refine gate_guard (by rfl) ?_; dsimp only)); at_builtin; refine Kd.R_append (Kd.int .u8) (w0 := w0) w0.heap.size rfl (.tmp 212) (.tmp 213) 39 5 (.int .u8 0) 1 rfl Try.underlying39 info5 rfl (by decide) (by omega) (.slice (some ad442) x0_112.length co145) x0_112 10 [.int .u8 10] (fun k_ => (P0_ k_ ∨ w.heap.size ≤ k_)) (fun _ => False) rfl rfl ?aP (fun _ hk => hk.elim) ?aF ?aO ?aB ?aS ?aL ?_; (case aP => exact rfl); (case aB => exact Z20); (case aF => exact (fun k_ hk => (.inr (Nat.le_trans Z98 hk)))); (case aO => exact Z25); (case aS => exact (below_size Z20)); (case aL => have := LMc142.out; omega); intro v451 w146 ho hb hg hat; rw [← Ny450.out] at ho; have n0_ := Aside0.mk (Kd.V_afterv (ok := (fun k_ => ((P0_ k_ ∨ P1_ k_) ∨ w.heap.size ≤ k_) ∧ some k_ ≠ (u34 : Value).ownBlock ∧ k_ ≠ gb441)) Z114 hg hat); have n1_ := Aside0.mk (Kd.R_over' Z93 (Kd.R_typed Z25) (by decide) hg); have n2_ := Aside0.mk (blk_grown (g := gb441) (o := .cells #[.int .i64 0, .int .i64 0, .int .i64 0, .int .i64 0] 69 (0, 0)) Z65 hg (Kd.R_ne HO_0.out BK441.out (by decide))); have n3_ := Aside0.mk (hb); have n4_ := Aside0.mk (Kept.of_grown (S := (fun k_ => P0_ k_)) hg Z17 (fun k_ e_ => (HO_0.out.1 k_ e_))); have n5_ := Aside0.mk (ho); clear HO_1; clear HO_34; clear BK441; clear HB; clear HK; clear HO_0; have HO_1 := n0_; have HO_34 := n1_; have BK441 := n2_; have HB := n3_; have HK := n4_; have HO452 := n5_; clear n0_ n1_ n2_ n3_ n4_ n5_; clear ho hb hg hat; obtain ⟨Ao147, co147, eo147⟩ := Kd.R_slice HO452.out; subst eo147) | ((with_reducible refine gate_callee (f := 40) rfl ?_); refine goesL_ (some 230) rfl rfl Try.func40 (by kernel_rfl) rfl #[.slice Ao147 y450.length co147, .string a7, .string a8, .int .i64 (wrap64 (a10 + 1))] rfl Z13 ?_; (with_reducible refine (pretty_appendTabs.calls kj112 (fun k_ => some k_ = (.slice Ao147 y450.length co147 : Value).ownBlock) (.slice Ao147 y450.length co147) y450 a7 a8 (wrap64 (a10 + 1)) t453 w0 _ ?side1 ?side2 A144.out).mono ?_); (case side1 => exact Z20); (case side2 => exact Kd.R_tight rfl HO452.out); rintro e w148 ⟨v454, rfl, ho0, hb, hkp⟩; refine ⟨_, rfl, ?_⟩; have n0_ := Aside0.mk (Kd.V_mono (ok' := fun k_ => ((P0_ k_ ∨ P1_ k_) ∨ w.heap.size ≤ k_) ∧ some k_ ≠ (u34 : Value).ownBlock ∧ k_ ≠ gb441 ∧ some k_ ≠ (v454 : Value).ownBlock) (Kd.V_keptB (HO_1.out) hkp (fun k_ hk_ hs_ => (hk_.2) hs_)) (fun k_ hk_ => ⟨hk_.1.1.1, hk_.1.1.2.1, hk_.1.1.2.2, fun e_ => Or.elim (ho0.1 k_ e_.symm) (fun hs_ => hk_.2.1 hs_) (fun hn_ => Nat.not_le.2 hk_.2.2 hn_)⟩)); have n1_ := Aside0.mk (Kd.R_mono (ok' := fun k_ => (P0_ k_ ∨ w.heap.size ≤ k_) ∧ k_ ≠ gb441) (Kd.R_keptB ((Kd.R_apart' HO_34.out (Kd.R_typed HO452.out) (by decide))) hkp (fun k_ hk_ hs_ => (hk_.2) hs_)) (fun k_ hk_ => ⟨hk_.1.1.1, hk_.1.1.2⟩)); have n2_ := Aside0.mk (blk_kept Z65 hkp (fun hs_ => (fun e_ => (Kd.R_ne HO452.out BK441.out (by decide)) e_) hs_)); have n3_ := Aside0.mk (Kd.R_mono (ok' := fun k_ => (P0_ k_ ∨ w.heap.size ≤ k_)) ho0 (fun k_ hk_ => Or.elim hk_ (fun hs_ => (HO452.out.1 k_ (hs_).symm)) (fun hn_ => (.inr (Nat.le_trans Z98 hn_))))); have n4_ := Aside0.mk (Kept.then_ (S := (fun k_ => P0_ k_)) Z17 hkp (fun k_ hs_ => (fun e_ => (HO452.out.1 k_ e_.symm)) hs_)); have n5_ := Aside0.mk (hb); clear HO_1; clear HO_34; clear BK441; clear HK; clear HB; clear HO452; have HO_1 := n0_; have HO_34 := n1_; have BK441 := n2_; have HO455 := n3_; have HK := n4_; have HB := n5_; clear n0_ n1_ n2_ n3_ n4_ n5_; (try clear hb); (try clear hkp); (try clear ho0)))
                          go_meet
                          case rel => exact ⟨_, (t453), (x1_3), ((x0_112.length : Int)), (0), (0), Z16, H', ⟨Z121⟩, ⟨by (try simp only [hl1_3]); (with_reducible repeat (first | apply Kd.R_alloc | apply Kd.R_drewN | apply Kd.R_drew)); exact HO455.out⟩, ⟨Z108⟩, ⟨Z53⟩, ⟨Z113⟩, ⟨Z17⟩, ⟨Z20⟩⟩
                        ·rw [if_neg c143] at H
                         have c143b0 : (a3 == 123) = false := beq_eq_false_iff_ne.mpr c143
                         have c143b1 : (a3 != 123) = true := bne_iff_ne.mpr c143
                         replace H := Option.bind_eq_some_iff.mp H
                         obtain ⟨t456, A1490, H⟩ := H
                         replace H : (pObj.j8 VA VO kj112 t456 x1_3 x2_3 a3 a4 true a6 a7 a8 a10 (x0_112.length : Int) a12 x34_3 x35_3 0 0 0 0) = some (r1, r2, r3, r4) := H
                         have A149 := Aside0.mk A1490
                         clear A1490
                         as_aux_lemma =>
                          have H' := Aside0.mk H
                          clear H
                          obtain ⟨Ao150, co150, eo150⟩ := Kd.R_slice HO_0.out
                          subst eo150
                          have p442 : 0 ≤ ((ji126) : Int) := of_decide_eq_true Z11
                          have q442 : (ji126) < (x0_112.length : Int) := of_decide_eq_true Z11
                          obtain ⟨ad442, e442, hx442_0⟩ := Kd.at_int (Kd.R_reads' HO_0.out).2.2 (ji126) p442 q442
                          cases e442
                          replace p442 := eq_true p442
                          replace q442 := eq_true q442
                          go_wp2_with (first | ((with_reducible refine gate_builtin (b := .append) (xs := #[.tmp 212, .tmp 213]) rfl ?_); (try (refine gate_guard (by rfl) ?_; dsimp only)); at_builtin; refine Kd.R_append (Kd.int .u8) (w0 := w0) w0.heap.size rfl (.tmp 212) (.tmp 213) 39 5 (.int .u8 0) 1 rfl Try.underlying39 info5 rfl (by decide) (by omega) (.slice (some ad442) x0_112.length co150) x0_112 10 [.int .u8 10] (fun k_ => (P0_ k_ ∨ w.heap.size ≤ k_)) (fun _ => False) rfl rfl ?aP (fun _ hk => hk.elim) ?aF ?aO ?aB ?aS ?aL ?_; (case aP => exact rfl); (case aB => exact Z20); (case aF => exact (fun k_ hk => (.inr (Nat.le_trans Z98 hk)))); (case aO => exact Z25); (case aS => exact (below_size Z20)); (case aL => have := LMc142.out; omega); intro v451 w151 ho hb hg hat; rw [← Ny450.out] at ho; have n0_ := Aside0.mk (Kd.V_afterv (ok := (fun k_ => ((P0_ k_ ∨ P1_ k_) ∨ w.heap.size ≤ k_) ∧ some k_ ≠ (u34 : Value).ownBlock ∧ k_ ≠ gb441)) Z114 hg hat); have n1_ := Aside0.mk (Kd.R_over' Z93 (Kd.R_typed Z25) (by decide) hg); have n2_ := Aside0.mk (blk_grown (g := gb441) (o := .cells #[.int .i64 0, .int .i64 0, .int .i64 0, .int .i64 0] 69 (0, 0)) Z65 hg (Kd.R_ne HO_0.out BK441.out (by decide))); have n3_ := Aside0.mk (hb); have n4_ := Aside0.mk (Kept.of_grown (S := (fun k_ => P0_ k_)) hg Z17 (fun k_ e_ => (HO_0.out.1 k_ e_))); have n5_ := Aside0.mk (ho); clear HO_1; clear HO_34; clear BK441; clear HB; clear HK; clear HO_0; have HO_1 := n0_; have HO_34 := n1_; have BK441 := n2_; have HB := n3_; have HK := n4_; have HO452 := n5_; clear n0_ n1_ n2_ n3_ n4_ n5_; clear ho hb hg hat; obtain ⟨Ao152, co152, eo152⟩ := Kd.R_slice HO452.out; subst eo152) | ((with_reducible refine gate_callee (f := 40) rfl ?_); refine goesL_ (some 230) rfl rfl Try.func40 (by kernel_rfl) rfl #[.slice Ao152 y450.length co152, .string a7, .string a8, .int .i64 (wrap64 (a10 + 1))] rfl Z13 ?_; (with_reducible refine (pretty_appendTabs.calls kj112 (fun k_ => some k_ = (.slice Ao152 y450.length co152 : Value).ownBlock) (.slice Ao152 y450.length co152) y450 a7 a8 (wrap64 (a10 + 1)) t456 w0 _ ?side1 ?side2 A149.out).mono ?_); (case side1 => exact Z20); (case side2 => exact Kd.R_tight rfl HO452.out); rintro e w153 ⟨v457, rfl, ho0, hb, hkp⟩; refine ⟨_, rfl, ?_⟩; have n0_ := Aside0.mk (Kd.V_mono (ok' := fun k_ => ((P0_ k_ ∨ P1_ k_) ∨ w.heap.size ≤ k_) ∧ some k_ ≠ (u34 : Value).ownBlock ∧ k_ ≠ gb441 ∧ some k_ ≠ (v457 : Value).ownBlock) (Kd.V_keptB (HO_1.out) hkp (fun k_ hk_ hs_ => (hk_.2) hs_)) (fun k_ hk_ => ⟨hk_.1.1.1, hk_.1.1.2.1, hk_.1.1.2.2, fun e_ => Or.elim (ho0.1 k_ e_.symm) (fun hs_ => hk_.2.1 hs_) (fun hn_ => Nat.not_le.2 hk_.2.2 hn_)⟩)); have n1_ := Aside0.mk (Kd.R_mono (ok' := fun k_ => (P0_ k_ ∨ w.heap.size ≤ k_) ∧ k_ ≠ gb441) (Kd.R_keptB ((Kd.R_apart' HO_34.out (Kd.R_typed HO452.out) (by decide))) hkp (fun k_ hk_ hs_ => (hk_.2) hs_)) (fun k_ hk_ => ⟨hk_.1.1.1, hk_.1.1.2⟩)); have n2_ := Aside0.mk (blk_kept Z65 hkp (fun hs_ => (fun e_ => (Kd.R_ne HO452.out BK441.out (by decide)) e_) hs_)); have n3_ := Aside0.mk (Kd.R_mono (ok' := fun k_ => (P0_ k_ ∨ w.heap.size ≤ k_)) ho0 (fun k_ hk_ => Or.elim hk_ (fun hs_ => (HO452.out.1 k_ (hs_).symm)) (fun hn_ => (.inr (Nat.le_trans Z98 hn_))))); have n4_ := Aside0.mk (Kept.then_ (S := (fun k_ => P0_ k_)) Z17 hkp (fun k_ hs_ => (fun e_ => (HO452.out.1 k_ e_.symm)) hs_)); have n5_ := Aside0.mk (hb); clear HO_1; clear HO_34; clear BK441; clear HK; clear HB; clear HO452; have HO_1 := n0_; have HO_34 := n1_; have BK441 := n2_; have HO458 := n3_; have HK := n4_; have HB := n5_; clear n0_ n1_ n2_ n3_ n4_ n5_; (try clear hb); (try clear hkp); (try clear ho0)))
                          go_meet
                          case rel => exact ⟨_, (t456), (x1_3), ((x0_112.length : Int)), (0), (0), Z16, H', ⟨Z121⟩, ⟨by (try simp only [hl1_3]); (with_reducible repeat (first | apply Kd.R_alloc | apply Kd.R_drewN | apply Kd.R_drew)); exact HO458.out⟩, ⟨Z108⟩, ⟨Z53⟩, ⟨Z113⟩, ⟨Z17⟩, ⟨Z20⟩⟩
                       ·rw [if_neg c142] at H
                        exact absurd H (by simp)
                     ·rw [if_neg c128] at H
                      exact absurd H (by simp)
                    ·rw [if_neg c127] at H
                     exact absurd H (by simp)
                   ·replace c125 := Bool.eq_false_iff.mpr c125
                    subst c125
                    have H1 : (pObj.j8 VA VO kj112 x0_112 x1_3 x2_3 a3 a4 false a6 a7 a8 a10 x11_3 a12 x34_3 x35_3 0 0 0 0) = some (r1, r2, r3, r4) := Z34
                    clear H
                    have H := H1
                    clear H1
                    as_aux_lemma =>
                     have H' := Aside0.mk H
                     clear H
                     go_wp2
                     go_meet
                     case rel => exact ⟨_, (x0_112), (x1_3), (x11_3), (0), (0), Z16, H', ⟨Z121⟩, ⟨Z72⟩, ⟨by (try simp only [hl1_3]); (with_reducible repeat (first | apply Kd.V_alloc | apply Kd.V_drewN | apply Kd.V_drew)); exact Kd.V_mono HO_1.out (fun _ hk => ⟨hk.1.1, ⟨hk.1.2.1, ⟨hk.1.2.2, hk.2⟩⟩⟩)⟩, ⟨Z53⟩, ⟨Z113⟩, ⟨Z17⟩, ⟨Z20⟩⟩
                  case rest =>
                   clear HC123
                   try clear c1
                   try clear c42
                   try clear c46
                   try clear c47
                   try clear c47b0
                   try clear c48
                   try clear c48b0
                   try clear c49
                   try clear c49b0
                   try clear c50
                   try clear c50b0
                   try clear c50b1
                   try clear c112
                   try clear hx391_0
                   try clear hx392_0
                   try clear p391
                   try clear p392
                   try clear q391
                   try clear q392
                   obtain ⟨kq, x0_122, x1_122, x11_122, x442000_122, x442002_122, rfl, HA, HJ122, HO_0, HO_1, HO_34, BK441, HK, HB⟩ := hcut
                   have hl1_122 := (Kd.V_reads' HO_1.out).1
                   rw [hl1_122] at HO_1
                   (try simp only [hl1_122])
                   (try simp only [hl1_122] at BK441)
                   (try simp only [hl1_122] at HO_0)
                   (try simp only [hl1_122] at HO_34)
                   cases kq with
                   | zero => exact absurd HA.out (by simp [pObj.j8])
                   | succ kj122 =>
                    have H := HA.out
                    clear HA
                    simp only [pObj.j8] at H
                    have HC154 := Aside0.mk H
                    clear H
                    go_upto_if 232 with (fail)
                    go_cut [0, 2, 11] from 231 to 232 (fun v0 v2 v11 wc => ∃ (kq : Nat) (x0_153 : List Int) (x2_153 : Int) (x11_153 : Int) (x442001_153 : Int), v2 = .int .i64 x2_153 ∧ v11 = .int .i64 x11_153 ∧ Aside0 (pObj.j9 VA VO kq x0_153 x1_122 x2_153 a3 a4 a5 a6 a7 a8 a10 x11_153 a12 x34_3 x35_3 x442000_122 x442001_153 x442002_122 0 = some (r1, r2, r3, r4)) ∧ Aside0 (kq ≤ kj122) ∧ Aside0 (Kd.R (Kd.int .u8) 5 wc w0.heap.size (fun k_ => (P0_ k_ ∨ w.heap.size ≤ k_)) v0 x0_153) ∧ Aside0 (Kd.V (Kd.int .u8) 5 wc w0.heap.size (fun k_ => ((P0_ k_ ∨ P1_ k_) ∨ w.heap.size ≤ k_) ∧ some k_ ≠ (v0 : Value).ownBlock ∧ some k_ ≠ (u34 : Value).ownBlock ∧ k_ ≠ gb441) (.slice (some ad391) x1_122.length c1) x1_122) ∧ Aside0 (Kd.R k69 69 wc w0.heap.size (fun k_ => (P0_ k_ ∨ w.heap.size ≤ k_) ∧ k_ ≠ gb441) u34 x34_3) ∧ Aside0 (wc.heap[gb441]? = some (.cells #[.int .i64 x442000_122, .int .i64 x442001_153, .int .i64 x442002_122, .int .i64 0] 69 (0, 0))) ∧ Aside0 (Kept w wc (fun k_ => P0_ k_)) ∧ Aside0 (Below w0.heap.size w0 wc))
                    case first =>
                     have H := HC154.out
                     clear HC154
                     by_cases c155 : a3 = 123
                     ·rw [if_pos c155] at H
                      have c155b0 : (a3 == 123) = true := beq_iff_eq.mpr c155
                      have c155b1 : (a3 != 123) = false := bne_eq_false_iff_eq.mpr c155
                      clear c155
                      (first | rw [c155b0] | (simp only [i64_w, i32_w]; rw [c155b0]) | skip)
                      replace H := Option.bind_eq_some_iff.mp H
                      obtain ⟨⟨t459, t462, t463, t464⟩, A1560, H⟩ := H
                      replace H : (if t459.length < 140737488355328 then ((some (t459 ++ [58] : List Int)).bind fun y465 => (if a5 = true then (if y465.length < 140737488355328 then (pObj.j9 VA VO kj122 (y465 ++ [32]) x1_122 t462 a3 a4 a5 a6 a7 a8 a10 t463 a12 x34_3 x35_3 x442000_122 0 x442002_122 0) else (none)) else (pObj.j9 VA VO kj122 y465 x1_122 t462 a3 a4 a5 a6 a7 a8 a10 t463 a12 x34_3 x35_3 x442000_122 0 x442002_122 0))) else (none)) = some (r1, r2, r3, r4) := H
                      have A156 := Aside0.mk A1560
                      clear A1560
                      by_cases c157 : t459.length < 140737488355328
                      ·rw [if_pos c157] at H
                       have LMc157 := Aside0.mk c157
                       clear c157
                       obtain ⟨y465, hy465⟩ : ∃ y_ : List Int, y_ = (t459 ++ [58]) := ⟨_, rfl⟩
                       replace H : (if a5 = true then (if y465.length < 140737488355328 then (pObj.j9 VA VO kj122 (y465 ++ [32]) x1_122 t462 a3 a4 a5 a6 a7 a8 a10 t463 a12 x34_3 x35_3 x442000_122 0 x442002_122 0) else (none)) else (pObj.j9 VA VO kj122 y465 x1_122 t462 a3 a4 a5 a6 a7 a8 a10 t463 a12 x34_3 x35_3 x442000_122 0 x442002_122 0)) = some (r1, r2, r3, r4) := by first | (rw [hy465]; with_reducible exact H) | (have H2_ := (Option.bind_some _ _).symm.trans H; rw [hy465]; with_reducible exact H2_) | (have H2_ := (Option.bind_some _ _).symm.trans H; with_reducible exact H2_) | with_reducible exact H | (rw [hy465]; exact H) | exact H
                       have Ny465 := Aside0.mk hy465
                       clear hy465
                       by_cases c158 : a5 = true
                       ·subst c158
                        have H1 : (if y465.length < 140737488355328 then (pObj.j9 VA VO kj122 (y465 ++ [32]) x1_122 t462 a3 a4 true a6 a7 a8 a10 t463 a12 x34_3 x35_3 x442000_122 0 x442002_122 0) else (none)) = some (r1, r2, r3, r4) := Z61
                        clear H
                        have H := H1
                        clear H1
                        by_cases c159 : y465.length < 140737488355328
                        ·rw [if_pos c159] at H
                         have LMc159 := Aside0.mk c159
                         clear c159
                         obtain ⟨y468, hy468⟩ : ∃ y_ : List Int, y_ = (y465 ++ [32]) := ⟨_, rfl⟩
                         replace H : (pObj.j9 VA VO kj122 y468 x1_122 t462 a3 a4 true a6 a7 a8 a10 t463 a12 x34_3 x35_3 x442000_122 0 x442002_122 0) = some (r1, r2, r3, r4) := by first | (rw [hy468]; with_reducible exact H) | (have H2_ := (Option.bind_some _ _).symm.trans H; rw [hy468]; with_reducible exact H2_) | (have H2_ := (Option.bind_some _ _).symm.trans H; with_reducible exact H2_) | with_reducible exact H | (rw [hy468]; exact H) | exact H
                         have Ny468 := Aside0.mk hy468
                         clear hy468
                         as_aux_lemma =>
                          have H' := Aside0.mk H
                          clear H
                          obtain ⟨Ao160, co160, eo160⟩ := Kd.R_slice HO_0.out
                          subst eo160
                          exact Z12
                        ·rw [if_neg c159] at H
                         exact absurd H (by simp)
                       ·replace c158 := Bool.eq_false_iff.mpr c158
                        subst c158
                        have H1 : (pObj.j9 VA VO kj122 y465 x1_122 t462 a3 a4 false a6 a7 a8 a10 t463 a12 x34_3 x35_3 x442000_122 0 x442002_122 0) = some (r1, r2, r3, r4) := Z34
                        clear H
                        have H := H1
                        clear H1
                        as_aux_lemma =>
                         have H' := Aside0.mk H
                         clear H
                         obtain ⟨Ao164, co164, eo164⟩ := Kd.R_slice HO_0.out
                         subst eo164
                         exact Z12
                      ·rw [if_neg c157] at H
                       exact absurd H (by simp)
                     ·rw [if_neg c155] at H
                      have c155b0 : (a3 == 123) = false := beq_eq_false_iff_ne.mpr c155
                      have c155b1 : (a3 != 123) = true := bne_iff_ne.mpr c155
                      (first | rw [c155b0] | (simp only [i64_w, i32_w]; rw [c155b0]) | skip)
                      as_aux_lemma =>
                       have H' := Aside0.mk H
                       clear H
                       go_wp2
                       go_meet
                       case rel => exact ⟨_, (x0_122), (x2_3), (x11_122), (0), Z16, Z16, H', ⟨Z150⟩, ⟨Z90⟩, ⟨Z112⟩, ⟨Z69⟩, ⟨Z79⟩, ⟨Z17⟩, ⟨Z20⟩⟩
                    case rest =>
                     clear HC154
                     try clear c1
                     try clear c42
                     try clear c46
                     try clear c47
                     try clear c47b0
                     try clear c48
                     try clear c48b0
                     try clear c49
                     try clear c49b0
                     try clear c50
                     try clear c50b0
                     try clear c50b1
                     try clear c112
                     try clear hx391_0
                     try clear hx392_0
                     try clear p391
                     try clear p392
                     try clear q391
                     try clear q392
                     obtain ⟨kq, x0_153, x2_153, x11_153, x442001_153, rfl, rfl, HA, HJ153, HO_0, HO_1, HO_34, BK441, HK, HB⟩ := hcut
                     cases kq with
                     | zero => exact absurd HA.out (by simp [pObj.j9])
                     | succ kj153 =>
                      have H := HA.out
                      clear HA
                      simp only [pObj.j9] at H
                      replace H := Option.bind_eq_some_iff.mp H
                      obtain ⟨⟨t471, t474, t475, t476⟩, A1670, H⟩ := H
                      replace H : (if a12 = (-1) then (pObj.j10 VA VO kj153 t471 x1_122 t474 a3 a4 a5 a6 a7 a8 a10 t475 a12 x34_3 x35_3 false x442000_122 x442001_153 x442002_122 0) else (pObj.j10 VA VO kj153 t471 x1_122 t474 a3 a4 a5 a6 a7 a8 a10 t475 a12 x34_3 x35_3 (!t476) x442000_122 x442001_153 x442002_122 0)) = some (r1, r2, r3, r4) := H
                      have A167 := Aside0.mk A1670
                      clear A1670
                      have HC168 := Aside0.mk H
                      clear H
                      obtain ⟨Ao169, co169, eo169⟩ := Kd.R_slice HO_0.out
                      subst eo169
                      go_upto_region 59 with (first | ((with_reducible refine gate_callee (f := 21) rfl ?_); refine goesL_ (some 266) rfl rfl Try.func21 (by kernel_rfl) rfl #[.slice Ao169 x0_153.length co169, .slice (some ad391) x1_122.length c1, .int .i64 x2_153, .bool a5, .int .i64 a6, .string a7, .string a8, .bool false, .int .i64 (wrap64 (a10 + 1)), .int .i64 x11_153, .int .i64 a12] rfl Z13 ?_; (with_reducible refine (VA.calls kj153 (fun k_ => some k_ = (.slice Ao169 x0_153.length co169 : Value).ownBlock) (.slice Ao169 x0_153.length co169) x0_153 (fun k_ => (((P0_ k_ ∨ P1_ k_) ∨ w.heap.size ≤ k_) ∧ (some k_ ≠ (.slice Ao169 x0_153.length co169 : Value).ownBlock ∧ (some k_ ≠ (u34 : Value).ownBlock ∧ k_ ≠ gb441)))) _ _ x1_122 x2_153 a5 a6 a7 a8 false (wrap64 (a10 + 1)) x11_153 a12 t471 t474 t475 t476 w0 _ ?side1 ?side2 ?side3 A167.out).mono ?_); (case side1 => exact Z20); (case side2 => exact Kd.R_tight rfl HO_0.out); (case side3 => exact Kd.V_mono (HO_1.out) (fun k_ hk_ => ⟨hk_, hk_.2.1⟩)); rintro e w170 ⟨v472, rfl, ho0, hb, hkp⟩; refine ⟨_, rfl, ?_⟩; have n0_ := Aside0.mk (Kd.V_mono (ok' := fun k_ => ((P0_ k_ ∨ P1_ k_) ∨ w.heap.size ≤ k_) ∧ some k_ ≠ (u34 : Value).ownBlock ∧ k_ ≠ gb441 ∧ some k_ ≠ (v472 : Value).ownBlock) (Kd.V_keptB (HO_1.out) hkp (fun k_ hk_ hs_ => (hk_.2.1) hs_)) (fun k_ hk_ => ⟨hk_.1.1, hk_.1.2.2.1, hk_.1.2.2.2, fun e_ => Or.elim (ho0.1 k_ e_.symm) (fun hs_ => hk_.2.1 hs_) (fun hn_ => Nat.not_le.2 hk_.2.2 hn_)⟩)); have n1_ := Aside0.mk (Kd.R_mono (ok' := fun k_ => (P0_ k_ ∨ w.heap.size ≤ k_) ∧ k_ ≠ gb441) (Kd.R_keptB ((Kd.R_apart' HO_34.out (Kd.R_typed HO_0.out) (by decide))) hkp (fun k_ hk_ hs_ => (hk_.2) hs_)) (fun k_ hk_ => ⟨hk_.1.1.1, hk_.1.1.2⟩)); have n2_ := Aside0.mk (blk_kept Z65 hkp (fun hs_ => (fun e_ => (Kd.R_ne HO_0.out BK441.out (by decide)) e_) hs_)); have n3_ := Aside0.mk (Kd.R_mono (ok' := fun k_ => (P0_ k_ ∨ w.heap.size ≤ k_)) ho0 (fun k_ hk_ => Or.elim hk_ (fun hs_ => (HO_0.out.1 k_ (hs_).symm)) (fun hn_ => (.inr (Nat.le_trans Z98 hn_))))); have n4_ := Aside0.mk (Kept.then_ (S := (fun k_ => P0_ k_)) Z17 hkp (fun k_ hs_ => (fun e_ => (HO_0.out.1 k_ e_.symm)) hs_)); have n5_ := Aside0.mk (hb); clear HO_1; clear HO_34; clear BK441; clear HK; clear HB; clear HO_0; have HO_1 := n0_; have HO_34 := n1_; have BK441 := n2_; have HO473 := n3_; have HK := n4_; have HB := n5_; clear n0_ n1_ n2_ n3_ n4_ n5_; (try clear hb); (try clear hkp); (try clear ho0)))
                      (try simp only [Act.put, List.setIfInBounds_toArray, List.set_cons_zero, List.set_cons_succ])
                      go_cut [276] from 253 to 270 (fun v276 wc => ∃ (kq : Nat) (x276_167 : Bool), v276 = .bool x276_167 ∧ Aside0 (pObj.j10 VA VO kq t471 x1_122 t474 a3 a4 a5 a6 a7 a8 a10 t475 a12 x34_3 x35_3 x276_167 x442000_122 x442001_153 x442002_122 0 = some (r1, r2, r3, r4)) ∧ Aside0 (kq ≤ kj153) ∧ Aside0 (Kd.R (Kd.int .u8) 5 wc w0.heap.size (fun k_ => (P0_ k_ ∨ w.heap.size ≤ k_)) v472 t471) ∧ Aside0 (Kd.V (Kd.int .u8) 5 wc w0.heap.size (fun k_ => ((P0_ k_ ∨ P1_ k_) ∨ w.heap.size ≤ k_) ∧ some k_ ≠ (v472 : Value).ownBlock ∧ some k_ ≠ (u34 : Value).ownBlock ∧ k_ ≠ gb441) (.slice (some ad391) x1_122.length c1) x1_122) ∧ Aside0 (Kd.R k69 69 wc w0.heap.size (fun k_ => (P0_ k_ ∨ w.heap.size ≤ k_) ∧ k_ ≠ gb441) u34 x34_3) ∧ Aside0 (wc.heap[gb441]? = some (.cells #[.int .i64 x442000_122, .int .i64 x442001_153, .int .i64 x442002_122, .int .i64 0] 69 (0, 0))) ∧ Aside0 (Kept w wc (fun k_ => P0_ k_)) ∧ Aside0 (Below w0.heap.size w0 wc))
                      case first =>
                       have H := HC168.out
                       clear HC168
                       by_cases c171 : a12 = (-1)
                       ·rw [if_pos c171] at H
                        have c171b0 : (a12 == (-1)) = true := beq_iff_eq.mpr c171
                        have c171b1 : (a12 != (-1)) = false := bne_eq_false_iff_eq.mpr c171
                        clear c171
                        (first | rw [c171b0] | (simp only [i64_w, i32_w]; rw [c171b0]) | skip)
                        as_aux_lemma =>
                         have H' := Aside0.mk H
                         clear H
                         go_wp2
                         go_meet
                         case rel => exact ⟨_, (false), Z16, H', ⟨by have := HJ13.out; have := HJ42.out; have := HK3.out; have := HJ109.out; have := HJ112.out; have := HJ122.out; have := HJ153.out; first | omega | exact Nat.le_refl _⟩, ⟨by (try simp only [hl1_3]); (try simp only [hl1_122]); (with_reducible repeat (first | apply Kd.R_alloc | apply Kd.R_drewN | apply Kd.R_drew)); exact HO473.out⟩, ⟨Z156⟩, ⟨Z69⟩, ⟨Z79⟩, ⟨Z17⟩, ⟨Z20⟩⟩
                       ·rw [if_neg c171] at H
                        have c171b0 : (a12 == (-1)) = false := beq_eq_false_iff_ne.mpr c171
                        have c171b1 : (a12 != (-1)) = true := bne_iff_ne.mpr c171
                        (first | rw [c171b0] | (simp only [i64_w, i32_w]; rw [c171b0]) | skip)
                        as_aux_lemma =>
                         have H' := Aside0.mk H
                         clear H
                         go_wp2
                         go_meet
                         case rel => exact ⟨_, (!t476), Z16, H', ⟨by have := HJ13.out; have := HJ42.out; have := HK3.out; have := HJ109.out; have := HJ112.out; have := HJ122.out; have := HJ153.out; first | omega | exact Nat.le_refl _⟩, ⟨by (try simp only [hl1_3]); (try simp only [hl1_122]); (with_reducible repeat (first | apply Kd.R_alloc | apply Kd.R_drewN | apply Kd.R_drew)); exact HO473.out⟩, ⟨Z156⟩, ⟨Z69⟩, ⟨Z79⟩, ⟨Z17⟩, ⟨Z20⟩⟩
                      case rest =>
                       clear HC168
                       try clear c1
                       try clear c42
                       try clear c46
                       try clear c47
                       try clear c47b0
                       try clear c48
                       try clear c48b0
                       try clear c49
                       try clear c49b0
                       try clear c50
                       try clear c50b0
                       try clear c50b1
                       try clear c112
                       try clear hx391_0
                       try clear hx392_0
                       try clear p391
                       try clear p392
                       try clear q391
                       try clear q392
                       obtain ⟨kq, x276_167, rfl, HA, HJ167, HO_0, HO_1, HO_34, BK441, HK, HB⟩ := hcut
                       cases kq with
                       | zero => exact absurd HA.out (by simp [pObj.j10])
                       | succ kj167 =>
                        have H := HA.out
                        clear HA
                        simp only [pObj.j10] at H
                        by_cases c172 : x276_167 = true
                        ·subst c172
                         have H1 : (some (t471, t474, t475, false)) = some (r1, r2, r3, r4) := Z61
                         clear H
                         have H := H1
                         clear H1
                         as_aux_lemma =>
                          simp only [Option.some.injEq, Prod.mk.injEq] at H
                          obtain ⟨rfl, rfl, rfl, rfl⟩ := H
                          go_wp2
                          refine bodyPost_ret (results_list (rs := [.tmp 26, .tmp 27, .tmp 28, .tmp 29]) rfl (by simp) (.tmp (.tmp (.tmp (.tmp .nil))))) rfl ?_
                          exact ⟨_, Z15, Z25, Z20, Z17⟩
                        ·replace c172 := Bool.eq_false_iff.mpr c172
                         subst c172
                         have H1 : (if a5 = true then (if a3 = 123 then (pObj.j11 VA VO kj167 t471 x1_122 t474 a3 a4 a5 a6 a7 a8 a10 t475 a12 x34_3 x35_3 false x442000_122 x442001_153 x442002_122 0) else (pObj.j11 VA VO kj167 t471 x1_122 t474 a3 a4 a5 a6 a7 a8 a10 t475 a12 x34_3 x35_3 false x442000_122 x442001_153 x442002_122 0)) else (pObj.j11 VA VO kj167 t471 x1_122 t474 a3 a4 a5 a6 a7 a8 a10 t475 a12 x34_3 x35_3 false x442000_122 x442001_153 x442002_122 0)) = some (r1, r2, r3, r4) := Z34
                         clear H
                         have H := H1
                         clear H1
                         have HC173 := Aside0.mk H
                         clear H
                         go_upto_region 61 with (fail)
                         go_cut [287] from 1 to 0 (fun v287 wc => ∃ (kq : Nat) (x287_172 : Bool), v287 = .bool x287_172 ∧ Aside0 (pObj.j11 VA VO kq t471 x1_122 t474 a3 a4 a5 a6 a7 a8 a10 t475 a12 x34_3 x35_3 x287_172 x442000_122 x442001_153 x442002_122 0 = some (r1, r2, r3, r4)) ∧ Aside0 (kq ≤ kj167) ∧ Aside0 (Kd.R (Kd.int .u8) 5 wc w0.heap.size (fun k_ => (P0_ k_ ∨ w.heap.size ≤ k_)) v472 t471) ∧ Aside0 (Kd.V (Kd.int .u8) 5 wc w0.heap.size (fun k_ => ((P0_ k_ ∨ P1_ k_) ∨ w.heap.size ≤ k_) ∧ some k_ ≠ (v472 : Value).ownBlock ∧ some k_ ≠ (u34 : Value).ownBlock ∧ k_ ≠ gb441) (.slice (some ad391) x1_122.length c1) x1_122) ∧ Aside0 (Kd.R k69 69 wc w0.heap.size (fun k_ => (P0_ k_ ∨ w.heap.size ≤ k_) ∧ k_ ≠ gb441) u34 x34_3) ∧ Aside0 (wc.heap[gb441]? = some (.cells #[.int .i64 x442000_122, .int .i64 x442001_153, .int .i64 x442002_122, .int .i64 0] 69 (0, 0))) ∧ Aside0 (Kept w wc (fun k_ => P0_ k_)) ∧ Aside0 (Below w0.heap.size w0 wc))
                         case first =>
                          have H := HC173.out
                          clear HC173
                          by_cases c174 : a5 = true
                          ·subst c174
                           have H1 : (if a3 = 123 then (pObj.j11 VA VO kj167 t471 x1_122 t474 a3 a4 true a6 a7 a8 a10 t475 a12 x34_3 x35_3 false x442000_122 x442001_153 x442002_122 0) else (pObj.j11 VA VO kj167 t471 x1_122 t474 a3 a4 true a6 a7 a8 a10 t475 a12 x34_3 x35_3 false x442000_122 x442001_153 x442002_122 0)) = some (r1, r2, r3, r4) := Z61
                           clear H
                           have H := H1
                           clear H1
                           by_cases c175 : a3 = 123
                           ·rw [if_pos c175] at H
                            have c175b0 : (a3 == 123) = true := beq_iff_eq.mpr c175
                            have c175b1 : (a3 != 123) = false := bne_eq_false_iff_eq.mpr c175
                            clear c175
                            (first | rw [c175b0] | (simp only [i64_w, i32_w]; rw [c175b0]) | skip)
                            as_aux_lemma =>
                             have H' := Aside0.mk H
                             clear H
                             go_wp2
                             go_meet
                             case rel => exact ⟨_, (false), Z16, H', ⟨Z135⟩, ⟨Z90⟩, ⟨Z112⟩, ⟨Z69⟩, ⟨Z79⟩, ⟨Z17⟩, ⟨Z20⟩⟩
                           ·rw [if_neg c175] at H
                            have c175b0 : (a3 == 123) = false := beq_eq_false_iff_ne.mpr c175
                            have c175b1 : (a3 != 123) = true := bne_iff_ne.mpr c175
                            (first | rw [c175b0] | (simp only [i64_w, i32_w]; rw [c175b0]) | skip)
                            as_aux_lemma =>
                             have H' := Aside0.mk H
                             clear H
                             go_wp2
                             go_meet
                             case rel => exact ⟨_, (false), Z16, H', ⟨Z135⟩, ⟨Z90⟩, ⟨Z112⟩, ⟨Z69⟩, ⟨Z79⟩, ⟨Z17⟩, ⟨Z20⟩⟩
                          ·replace c174 := Bool.eq_false_iff.mpr c174
                           subst c174
                           have H1 : (pObj.j11 VA VO kj167 t471 x1_122 t474 a3 a4 false a6 a7 a8 a10 t475 a12 x34_3 x35_3 false x442000_122 x442001_153 x442002_122 0) = some (r1, r2, r3, r4) := Z34
                           clear H
                           have H := H1
                           clear H1
                           as_aux_lemma =>
                            have H' := Aside0.mk H
                            clear H
                            go_wp2
                            go_meet
                            case rel => exact ⟨_, (false), Z16, H', ⟨Z135⟩, ⟨Z90⟩, ⟨Z112⟩, ⟨Z69⟩, ⟨Z79⟩, ⟨Z17⟩, ⟨Z20⟩⟩
                         case rest =>
                          clear HC173
                          try clear c1
                          try clear c42
                          try clear c46
                          try clear c47
                          try clear c47b0
                          try clear c48
                          try clear c48b0
                          try clear c49
                          try clear c49b0
                          try clear c50
                          try clear c50b0
                          try clear c50b1
                          try clear c112
                          try clear c172
                          try clear hx391_0
                          try clear hx392_0
                          try clear p391
                          try clear p392
                          try clear q391
                          try clear q392
                          obtain ⟨kq, x287_172, rfl, HA, HJ172, HO_0, HO_1, HO_34, BK441, HK, HB⟩ := hcut
                          cases kq with
                          | zero => exact absurd HA.out (by simp [pObj.j11])
                          | succ kj172 =>
                           have H := HA.out
                           clear HA
                           simp only [pObj.j11] at H
                           by_cases c176 : x287_172 = true
                           ·subst c176
                            have H1 : (if x442000_122 > x442001_153 then (pObj.l0 VA VO kj172 t471 x1_122 (wrap64 ((wrap64 (t474 - 1)) + 1)) a3 a4 a5 a6 a7 a8 a10 t475 a12 x34_3 (wrap64 (x35_3 + 1))) else (if x442002_122 > (t471.length : Int) then (pObj.l0 VA VO kj172 t471 x1_122 (wrap64 ((wrap64 (t474 - 1)) + 1)) a3 a4 a5 a6 a7 a8 a10 t475 a12 x34_3 (wrap64 (x35_3 + 1))) else (if x34_3.length < 4398046511104 then (pObj.l0 VA VO kj172 t471 x1_122 (wrap64 ((wrap64 (t474 - 1)) + 1)) a3 a4 a5 a6 a7 a8 a10 t475 a12 (x34_3 ++ [(⟨x442000_122, x442001_153, x442002_122, (t471.length : Int)⟩ : S69)]) (wrap64 (x35_3 + 1))) else (none)))) = some (r1, r2, r3, r4) := Z61
                            clear H
                            have H := H1
                            clear H1
                            by_cases c177 : x442000_122 > x442001_153
                            ·rw [if_pos c177] at H
                             have c177b0 : decide (x442001_153 < x442000_122) = true := decide_eq_true c177
                             clear c177
                             as_aux_lemma =>
                              have H' := Aside0.mk H
                              clear H
                              obtain ⟨Ao178, co178, eo178⟩ := Kd.R_slice HO_0.out
                              subst eo178
                              have hcz179_0 : wc.cell? ⟨gb441, 0, none⟩ = some (.int .i64 x442000_122) := (blk_cell BK441.out 0).trans rfl
                              have hcz179_1 : wc.cell? ⟨gb441, 1, none⟩ = some (.int .i64 x442001_153) := (blk_cell BK441.out 1).trans rfl
                              have hcz179_2 : wc.cell? ⟨gb441, 2, none⟩ = some (.int .i64 x442002_122) := (blk_cell BK441.out 2).trans rfl
                              have hcz179_3 : wc.cell? ⟨gb441, 3, none⟩ = some (.int .i64 0) := (blk_cell BK441.out 3).trans rfl
                              have hfz179_0 := blk_frozen BK441.out 0
                              have hfz179_1 := blk_frozen BK441.out 1
                              have hfz179_2 := blk_frozen BK441.out 2
                              have hfz179_3 := blk_frozen BK441.out 3
                              go_wp2
                              (try simp only [← hl1_3, ← hl1_122])
                              go_roundg kj172
                              case measure => have := HJ13.out; have := HJ42.out; have := HK3.out; have := HJ109.out; have := HJ112.out; have := HJ122.out; have := HJ153.out; have := HJ167.out; have := HJ172.out; omega
                              case rel => exact ⟨(t471), (x1_122), (wrap64 ((wrap64 (t474 - 1)) + 1)), (t475), (x34_3), (wrap64 (x35_3 + 1)), Z16, Z16, Z16, Z16, H', ⟨Z115⟩, ⟨Z145⟩, ⟨Z133⟩, ⟨Z140⟩, ⟨Z17⟩, ⟨Z20⟩⟩
                            ·rw [if_neg c177] at H
                             have c177b0 : decide (x442001_153 < x442000_122) = false := decide_eq_false c177
                             clear c177
                             by_cases c180 : x442002_122 > (t471.length : Int)
                             ·rw [if_pos c180] at H
                              have c180b0 : decide ((t471.length : Int) < x442002_122) = true := decide_eq_true c180
                              clear c180
                              as_aux_lemma =>
                               have H' := Aside0.mk H
                               clear H
                               obtain ⟨Ao181, co181, eo181⟩ := Kd.R_slice HO_0.out
                               subst eo181
                               have hcz182_0 : wc.cell? ⟨gb441, 0, none⟩ = some (.int .i64 x442000_122) := (blk_cell BK441.out 0).trans rfl
                               have hcz182_1 : wc.cell? ⟨gb441, 1, none⟩ = some (.int .i64 x442001_153) := (blk_cell BK441.out 1).trans rfl
                               have hcz182_2 : wc.cell? ⟨gb441, 2, none⟩ = some (.int .i64 x442002_122) := (blk_cell BK441.out 2).trans rfl
                               have hcz182_3 : wc.cell? ⟨gb441, 3, none⟩ = some (.int .i64 0) := (blk_cell BK441.out 3).trans rfl
                               have hfz182_0 := blk_frozen BK441.out 0
                               have hfz182_1 := blk_frozen BK441.out 1
                               have hfz182_2 := blk_frozen BK441.out 2
                               have hfz182_3 := blk_frozen BK441.out 3
                               go_wp2
                               (try simp only [← hl1_3, ← hl1_122])
                               go_roundg kj172
                               case measure => have := HJ13.out; have := HJ42.out; have := HK3.out; have := HJ109.out; have := HJ112.out; have := HJ122.out; have := HJ153.out; have := HJ167.out; have := HJ172.out; omega
                               case rel => exact ⟨(t471), (x1_122), (wrap64 ((wrap64 (t474 - 1)) + 1)), (t475), (x34_3), (wrap64 (x35_3 + 1)), Z16, Z16, Z16, Z16, H', ⟨Z115⟩, ⟨Z145⟩, ⟨Z133⟩, ⟨Z140⟩, ⟨Z17⟩, ⟨Z20⟩⟩
                             ·rw [if_neg c180] at H
                              have c180b0 : decide ((t471.length : Int) < x442002_122) = false := decide_eq_false c180
                              clear c180
                              by_cases c183 : x34_3.length < 4398046511104
                              ·rw [if_pos c183] at H
                               have LMc183 := Aside0.mk c183
                               clear c183
                               obtain ⟨y477, hy477⟩ : ∃ y_ : List (S69), y_ = (x34_3 ++ [(⟨x442000_122, x442001_153, x442002_122, (t471.length : Int)⟩ : S69)]) := ⟨_, rfl⟩
                               replace H : (pObj.l0 VA VO kj172 t471 x1_122 (wrap64 ((wrap64 (t474 - 1)) + 1)) a3 a4 a5 a6 a7 a8 a10 t475 a12 y477 (wrap64 (x35_3 + 1))) = some (r1, r2, r3, r4) := by first | (rw [hy477]; with_reducible exact H) | (have H2_ := (Option.bind_some _ _).symm.trans H; rw [hy477]; with_reducible exact H2_) | (have H2_ := (Option.bind_some _ _).symm.trans H; with_reducible exact H2_) | with_reducible exact H | (rw [hy477]; exact H) | exact H
                               have Ny477 := Aside0.mk hy477
                               clear hy477
                               as_aux_lemma =>
                                have H' := Aside0.mk H
                                clear H
                                obtain ⟨Ao184, co184, eo184⟩ := Kd.R_slice HO_0.out
                                subst eo184
                                have hcz185_0 : wc.cell? ⟨gb441, 0, none⟩ = some (.int .i64 x442000_122) := (blk_cell BK441.out 0).trans rfl
                                have hcz185_1 : wc.cell? ⟨gb441, 1, none⟩ = some (.int .i64 x442001_153) := (blk_cell BK441.out 1).trans rfl
                                have hcz185_2 : wc.cell? ⟨gb441, 2, none⟩ = some (.int .i64 x442002_122) := (blk_cell BK441.out 2).trans rfl
                                have hcz185_3 : wc.cell? ⟨gb441, 3, none⟩ = some (.int .i64 0) := (blk_cell BK441.out 3).trans rfl
                                have hfz185_0 := blk_frozen BK441.out 0
                                have hfz185_1 := blk_frozen BK441.out 1
                                have hfz185_2 := blk_frozen BK441.out 2
                                have hfz185_3 := blk_frozen BK441.out 3
                                go_wp2_with (first | ((with_reducible refine gate_builtin (b := .append) (xs := #[.tmp 303, .tmp 305]) rfl ?_); (try (refine gate_guard (by rfl) ?_; dsimp only)); at_builtin; refine Kd.R_append k69 (w0 := w0) w0.heap.size rfl (.tmp 303) (.tmp 305) 65 69 (.agg #[(.int .i64 0), (.int .i64 0), (.int .i64 0), (.int .i64 0)]) 32 rfl Try.underlying65 info69 rfl (by decide) (by omega) u34 x34_3 (⟨x442000_122, x442001_153, x442002_122, (t471.length : Int)⟩ : S69) [.int .i64 x442000_122, .int .i64 x442001_153, .int .i64 x442002_122, .int .i64 (t471.length : Int)] (fun k_ => (P0_ k_ ∨ w.heap.size ≤ k_) ∧ k_ ≠ gb441) (fun _ => False) rfl Z62 ?aP (fun _ hk => hk.elim) ?aF ?aO ?aB ?aS ?aL ?_; (case aP => exact k69_mkM _ _ _ (⟨x442000_122, x442001_153, x442002_122, (t471.length : Int)⟩ : S69)); (case aB => exact Z20); (case aF => exact (fun k_ hk => ⟨(.inr (Nat.le_trans (show Kept w _ (fun k_ => P0_ k_) from Z17).1 hk)), Kd.freshB (g := gb441) (o := .cells #[.int .i64 x442000_122, .int .i64 x442001_153, .int .i64 x442002_122, .int .i64 (t471.length : Int)] 69 (0, 0)) Z141 k_ hk⟩)); (case aO => exact (by (with_reducible repeat (first | apply Kd.R_alloc | apply Kd.R_drewN | apply Kd.R_drew)); exact Kd.R_mono (Kd.R_far (p := ⟨gb441, 3, none⟩) (Kd.R_mono HO_34.out (fun k_ hk => (⟨hk, hk.2⟩ : _ ∧ k_ ≠ gb441))) (fun _ hk => hk.2) (.int .i64 (t471.length : Int))) (fun _ hk => ⟨hk.1.1, hk.1.2⟩))); (case aS => exact (below_size Z20)); (case aL => have := LMc183.out; omega); intro v478 w186 ho hb hg hat; rw [← Ny477.out] at ho; have n0_ := Aside0.mk (Kd.R_over' (by (with_reducible repeat (first | apply Kd.R_alloc | apply Kd.R_drewN | apply Kd.R_drew)); exact (Kd.R_mono (Kd.R_far (p := ⟨gb441, 3, none⟩) (Kd.R_types HO_0.out BK441.out (by decide)) (fun _ hk => hk.2) (.int .i64 (t471.length : Int))) (fun _ h_ => h_.1))) (Kd.R_typed (by (with_reducible repeat (first | apply Kd.R_alloc | apply Kd.R_drewN | apply Kd.R_drew)); exact (Kd.R_mono (Kd.R_far (p := ⟨gb441, 3, none⟩) (Kd.R_mono HO_34.out (fun k_ hk => (⟨hk, hk.2⟩ : _ ∧ k_ ≠ gb441))) (fun _ hk => hk.2) (.int .i64 (t471.length : Int))) (fun _ h_ => h_.1)))) (by decide) hg); have n1_ := Aside0.mk (Kd.V_afterv (ok := (fun k_ => ((P0_ k_ ∨ P1_ k_) ∨ w.heap.size ≤ k_) ∧ some k_ ≠ (.slice Ao184 t471.length co184 : Value).ownBlock ∧ k_ ≠ gb441)) (by (with_reducible repeat (first | apply Kd.V_alloc | apply Kd.V_drewN | apply Kd.V_drew)); exact Kd.V_mono (Kd.V_far (p := ⟨gb441, 3, none⟩) (Kd.V_mono HO_1.out (fun k_ hk => (⟨hk, hk.2.2.2⟩ : _ ∧ k_ ≠ gb441))) (fun _ hk => hk.2) (.int .i64 (t471.length : Int))) (fun _ hk => ⟨⟨hk.1.1, ⟨hk.1.2.1, hk.1.2.2.2⟩⟩, hk.1.2.2.1⟩)) hg hat); have n2_ := Aside0.mk (blk_grown (g := gb441) (o := .cells #[.int .i64 x442000_122, .int .i64 x442001_153, .int .i64 x442002_122, .int .i64 (t471.length : Int)] 69 (0, 0)) Z141 hg (Kd.R_away HO_34.out (fun _ hk => hk.2))); have n3_ := Aside0.mk (hb); have n4_ := Aside0.mk (Kept.of_grown (S := (fun k_ => P0_ k_)) hg Z17 (fun k_ e_ => (HO_34.out.1 k_ e_).1)); have n5_ := Aside0.mk (ho); clear HO_0; clear HO_1; clear BK441; clear HB; clear HK; clear HO_34; have HO_0 := n0_; have HO_1 := n1_; have BK441 := n2_; have HB := n3_; have HK := n4_; have HO479 := n5_; clear n0_ n1_ n2_ n3_ n4_ n5_; clear ho hb hg hat))
                                (try simp only [← hl1_3, ← hl1_122])
                                go_roundg kj172
                                case measure => have := HJ13.out; have := HJ42.out; have := HK3.out; have := HJ109.out; have := HJ112.out; have := HJ122.out; have := HJ153.out; have := HJ167.out; have := HJ172.out; omega
                                case rel => exact ⟨(t471), (x1_122), (wrap64 ((wrap64 (t474 - 1)) + 1)), (t475), (y477), (wrap64 (x35_3 + 1)), Z16, Z16, Z16, Z16, H', ⟨Z115⟩, ⟨Z90⟩, ⟨by (try simp only [hl1_3]); (try simp only [hl1_122]); (with_reducible repeat (first | apply Kd.V_alloc | apply Kd.V_drewN | apply Kd.V_drew)); exact Kd.V_mono HO_1.out (fun _ hk => ⟨hk.1.1, ⟨hk.1.2.1, hk.2⟩⟩)⟩, ⟨by (try simp only [hl1_3]); (try simp only [hl1_122]); (with_reducible repeat (first | apply Kd.R_alloc | apply Kd.R_drewN | apply Kd.R_drew)); exact Kd.R_mono HO479.out (fun _ hk => hk.1)⟩, ⟨Z17⟩, ⟨Z20⟩⟩
                              ·rw [if_neg c183] at H
                               exact absurd H (by simp)
                           ·replace c176 := Bool.eq_false_iff.mpr c176
                            subst c176
                            have H1 : (pObj.l0 VA VO kj172 t471 x1_122 (wrap64 ((wrap64 (t474 - 1)) + 1)) a3 a4 a5 a6 a7 a8 a10 t475 a12 x34_3 (wrap64 (x35_3 + 1))) = some (r1, r2, r3, r4) := Z34
                            clear H
                            have H := H1
                            clear H1
                            as_aux_lemma =>
                             have H' := Aside0.mk H
                             clear H
                             go_wp2
                             (try simp only [← hl1_3, ← hl1_122])
                             go_roundg kj172
                             case measure => have := HJ13.out; have := HJ42.out; have := HK3.out; have := HJ109.out; have := HJ112.out; have := HJ122.out; have := HJ153.out; have := HJ167.out; have := HJ172.out; omega
                             case rel => exact ⟨(t471), (x1_122), (wrap64 ((wrap64 (t474 - 1)) + 1)), (t475), (x34_3), (wrap64 (x35_3 + 1)), Z16, Z16, Z16, Z16, H', ⟨Z115⟩, ⟨Z90⟩, ⟨by (try simp only [hl1_3]); (try simp only [hl1_122]); (with_reducible repeat (first | apply Kd.V_alloc | apply Kd.V_drewN | apply Kd.V_drew)); exact Kd.V_mono HO_1.out (fun _ hk => ⟨hk.1, ⟨hk.2.1, hk.2.2.1⟩⟩)⟩, ⟨by (try simp only [hl1_3]); (try simp only [hl1_122]); (with_reducible repeat (first | apply Kd.R_alloc | apply Kd.R_drewN | apply Kd.R_drew)); exact Kd.R_mono HO_34.out (fun _ hk => hk.1)⟩, ⟨Z17⟩, ⟨Z20⟩⟩
               ·replace c112 := Bool.eq_false_iff.mpr c112
                subst c112
                have H1 : (pObj.l0 VA VO kj109 x0_3 x1_3 (wrap64 (x2_3 + 1)) a3 a4 a5 a6 a7 a8 a10 x11_3 a12 x34_3 x35_3) = some (r1, r2, r3, r4) := Z34
                clear H
                have H := H1
                clear H1
                as_aux_lemma =>
                 have H' := Aside0.mk H
                 clear H
                 go_wp2
                 (try simp only [← hl1_3])
                 go_roundg kj109
                 case measure => have := HJ13.out; have := HJ42.out; have := HK3.out; have := HJ109.out; omega
                 case rel => exact ⟨(x0_3), (x1_3), (wrap64 (x2_3 + 1)), (x11_3), (x34_3), (x35_3), Z16, Z16, Z16, Z16, H', ⟨by have := HJ13.out; have := HJ42.out; have := HK3.out; have := HJ109.out; omega⟩, ⟨Z72⟩, ⟨Z89⟩, ⟨Z53⟩, ⟨Z7⟩, ⟨Z5⟩⟩
          ·rw [if_neg c48] at H
           exact absurd H (by simp)
         ·rw [if_neg c47] at H
          have c47b0 : decide (x2_3 < (x1_3.length : Int)) = false := decide_eq_false c47
          clear c47
          as_aux_lemma =>
           simp only [Option.some.injEq, Prod.mk.injEq] at H
           obtain ⟨rfl, rfl, rfl, rfl⟩ := H
           go_wp2
           refine bodyPost_ret (results_list (rs := [.tmp 26, .tmp 27, .tmp 28, .tmp 29]) rfl (by simp) (.tmp (.tmp (.tmp (.tmp .nil))))) rfl ?_
           exact ⟨_, Z15, Z25, Z5, Z7⟩
   ·rw [if_neg c42] at H
    exact absurd H (by simp)
end Go.Proofs.Ytkbeiidjagodnaa.Pr

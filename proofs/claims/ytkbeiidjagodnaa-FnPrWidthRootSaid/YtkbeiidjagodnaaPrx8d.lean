-- written by a program of this session (wip/tools), for this seat
import Derived.Test.YtkbeiidjagodnaaPrx0
import Derived.Test.YtkbeiidjagodnaaPrx5
import Derived.Test.YtkbeiidjagodnaaPrx6
import Derived.Test.YtkbeiidjagodnaaPrx7
import Derived.Test.YtkbeiidjagodnaaPrx8c
namespace Go.Proofs.Ytkbeiidjagodnaa.Pr
open Go.RowKit Go.Proofs.YtkbeiidjagodnaaW.PrintWords Go.Proofs.YtkbeiidjagodnaaW.PrintLast Go.Proofs.YtkbeiidjagodnaaW.PrintMore
attribute [local go_sem] max2_int min2_int max_two min_two max_three min_three max_four min_four   -- for this text's walks alone
set_option linter.unusedVariables false
set_option linter.unusedSimpArgs false
set_option maxHeartbeats 80000000 in
set_option maxRecDepth 100000 in
theorem pAny.calls (VO : H_pObj) (k : Nat) (P0_ : Nat → Prop) (u9000_ : Value) (l0 : List Int) (P1_ : Nat → Prop) (A1 : Option Addr) (c1 : Nat) (l1 : List Int) (a2 : Int) (a3 : Bool) (a4 : Int) (a5 : ByteArray) (a6 : ByteArray) (a7 : Bool) (a8 : Int) (a9 : Int) (a10 : Int) (r1 : List Int) (r2 : Int) (r3 : Int) (r4 : Bool) (w0 w : World) (hB : Below w0.heap.size w0 w) (ho0 : Kd.R (Kd.int .u8) 5 w w0.heap.size P0_ u9000_ l0) (hs1 : Kd.V (Kd.int .u8) 5 w w0.heap.size (fun k_ => P1_ k_ ∧ some k_ ≠ (u9000_ : Value).ownBlock) (.slice A1 l1.length c1) l1) (h : pAny.f VO k l0 l1 a2 a3 a4 a5 a6 a7 a8 a9 a10 = some (r1, r2, r3, r4)) :
  Calls Try.prog 21 #[u9000_, .slice A1 l1.length c1, .int .i64 a2, .bool a3, .int .i64 a4, .string a5, .string a6, .bool false, .int .i64 a8, .int .i64 a9, .int .i64 a10] w fun e w' => ∃ v0_ : Value, e = .returned (.tuple #[v0_, .int .i64 r2, .int .i64 r3, .bool r4]) ∧ Kd.R (Kd.int .u8) 5 w' w0.heap.size (fun k_ => (P0_ k_ ∨ w.heap.size ≤ k_)) v0_ r1 ∧ Below w0.heap.size w0 w' ∧ Kept w w' (fun k_ => P0_ k_) := by
 have HO0 := Aside0.mk (show Kd.R (Kd.int .u8) 5 w w0.heap.size (fun k_ => (P0_ k_ ∨ w.heap.size ≤ k_)) u9000_ l0 from Kd.R_mono ho0 (fun k_ hk => (.inl hk)))
 have HO1 := Aside0.mk (show Kd.V (Kd.int .u8) 5 w w0.heap.size (fun k_ => ((P0_ k_ ∨ P1_ k_) ∨ w.heap.size ≤ k_) ∧ some k_ ≠ (u9000_ : Value).ownBlock) (.slice A1 l1.length c1) l1 from Kd.V_mono hs1 (fun k_ hk => ⟨.inl (.inr hk.1), hk.2⟩))
 have HK := Aside0.mk (Kept.refl w (fun k_ => P0_ k_))
 have HW0 := Aside0.mk hB.size
 have HB := Aside0.mk hB
 clear hB
 have H : (pAny.l0 VO k l0 l1 a2 a3 a4 a5 a6 a8 a9 a10) = some (r1, r2, r3, r4) := h
 clear h
 have H' := Aside0.mk H
 clear H
 go_enter Try.func21, Try.ntmps21
 go_wp2
 (try simp only [Act.put, List.setIfInBounds_toArray, List.set_cons_zero, List.set_cons_succ])
 go_loopg [2] k (fun kq v2 w' => ∃ (x2_1 : Int), v2 = .int .i64 x2_1 ∧ Aside0 (pAny.l0 VO kq l0 l1 x2_1 a3 a4 a5 a6 a8 a9 a10 = some (r1, r2, r3, r4)) ∧ Aside0 (kq ≤ k) ∧ Aside0 (Kd.R (Kd.int .u8) 5 w' w0.heap.size (fun k_ => (P0_ k_ ∨ w.heap.size ≤ k_)) u9000_ l0) ∧ Aside0 (Kd.V (Kd.int .u8) 5 w' w0.heap.size (fun k_ => ((P0_ k_ ∨ P1_ k_) ∨ w.heap.size ≤ k_) ∧ some k_ ≠ (u9000_ : Value).ownBlock) (.slice A1 l1.length c1) l1) ∧ Aside0 (Kept w w' (fun k_ => P0_ k_)) ∧ Aside0 (Below w0.heap.size w0 w'))
 case atStart => exact ⟨(a2), Z16, H', ⟨Nat.le_refl _⟩, ⟨Z54⟩, ⟨Z131⟩, ⟨Z7⟩, ⟨Z5⟩⟩
 case round =>
  clear H'
  try clear c1
  obtain ⟨x2_1, rfl, HA, HK1, HO_0, HO_1, HK, HB⟩ := hrel
  cases gk with
  | zero => exact absurd HA.out (by simp [pAny.l0])
  | succ k1 =>
   have H := HA.out
   clear HA
   simp only [pAny.l0] at H
   by_cases c12 : x2_1 < (l1.length : Int)
   ·rw [if_pos c12] at H
    have c12b0 : decide (x2_1 < (l1.length : Int)) = true := decide_eq_true c12
    clear c12
    by_cases c13 : 0 ≤ x2_1
    ·rw [if_pos c13] at H
     have c13b0 : decide (0 ≤ x2_1) = true := decide_eq_true c13
     clear c13
     by_cases c14 : (rd l1 x2_1) ≤ 32
     ·rw [if_pos c14] at H
      have c14b0 : decide ((rd l1 x2_1) ≤ 32) = true := decide_eq_true c14
      clear c14
      ·
       have H' := Aside0.mk H
       clear H
       have p480 : 0 ≤ (x2_1 : Int) := of_decide_eq_true Z11
       have q480 : x2_1 < (l1.length : Int) := of_decide_eq_true Z11
       obtain ⟨ad480, e480, hx480_0⟩ := Kd.at_int (Kd.V_reads' HO_1.out).2.2 x2_1 p480 q480
       cases e480
       replace p480 := eq_true p480
       replace q480 := eq_true q480
       go_wp2
       go_roundg k1
       case measure => have := HK1.out; omega
       case rel => exact ⟨(wrap64 (x2_1 + 1)), Z16, H', ⟨by have := HK1.out; omega⟩, ⟨Z41⟩, ⟨Z58⟩, ⟨Z7⟩, ⟨Z5⟩⟩
     ·rw [if_neg c14] at H
      have c14b0 : decide ((rd l1 x2_1) ≤ 32) = false := decide_eq_false c14
      clear c14
      by_cases c15 : (rd l1 x2_1) = 34
      ·rw [if_pos c15] at H
       have c15b0 : ((rd l1 x2_1) == 34) = true := beq_iff_eq.mpr c15
       have c15b1 : ((rd l1 x2_1) != 34) = false := bne_eq_false_iff_eq.mpr c15
       clear c15
       replace H := Option.bind_eq_some_iff.mp H
       obtain ⟨⟨t482, t485, t486, t487⟩, A160, H⟩ := H
       replace H : (some (t482, t485, t486, t487)) = some (r1, r2, r3, r4) := H
       have A16 := Aside0.mk A160
       clear A160
       ·
        simp only [Option.some.injEq, Prod.mk.injEq] at H
        obtain ⟨rfl, rfl, rfl, rfl⟩ := H
        have p480 : 0 ≤ (x2_1 : Int) := of_decide_eq_true Z11
        have q480 : x2_1 < (l1.length : Int) := of_decide_eq_true Z11
        obtain ⟨ad480, e480, hx480_0⟩ := Kd.at_int (Kd.V_reads' HO_1.out).2.2 x2_1 p480 q480
        cases e480
        replace p480 := eq_true p480
        replace q480 := eq_true q480
        have p481 : 0 ≤ (x2_1 : Int) := of_decide_eq_true Z11
        have q481 : x2_1 < (l1.length : Int) := of_decide_eq_true Z11
        obtain ⟨ad481, e481, hx481_0⟩ := Kd.at_int (Kd.V_reads' HO_1.out).2.2 x2_1 p481 q481
        obtain rfl : ad480 = ad481 := (by injection e481)
        replace p481 := eq_true p481
        replace q481 := eq_true q481
        obtain ⟨Ao17, co17, eo17⟩ := Kd.R_slice HO_0.out
        subst eo17
        go_wp2_with (first | ((with_reducible refine gate_callee (f := 32) rfl ?_); refine goesL_ (some 46) rfl rfl Try.func32 (by kernel_rfl) rfl #[.slice Ao17 l0.length co17, .slice (some ad480) l1.length c1, .int .i64 x2_1, .int .i64 a9] rfl Z13 ?_; (with_reducible refine (pretty_appendPrettyString.calls k1 (fun k_ => some k_ = (.slice Ao17 l0.length co17 : Value).ownBlock) (.slice Ao17 l0.length co17) l0 _ _ l1 x2_1 a9 t482 t485 t486 t487 w0 _ ?side1 ?side2 ?side3 ?side4 A16.out).mono ?_); (case side1 => exact Z5); (case side2 => exact Kd.R_tight rfl HO_0.out); (case side3 => exact Kd.C_kept_ownV (HO_1.out) (fun k_ hk_ hs_ => (hk_.2) hs_)); (case side4 => exact (Kd.V_reads' HO_1.out).2.1); rintro e w18 ⟨v483, rfl, ho0, hb, hkp⟩; refine ⟨_, rfl, ?_⟩; have n0_ := Aside0.mk (Kd.V_mono (ok' := fun k_ => ((P0_ k_ ∨ P1_ k_) ∨ w.heap.size ≤ k_) ∧ some k_ ≠ (v483 : Value).ownBlock) (Kd.V_keptB (HO_1.out) hkp (fun k_ hk_ hs_ => (hk_.2) hs_)) (fun k_ hk_ => ⟨hk_.1.1, fun e_ => Or.elim (ho0.1 k_ e_.symm) (fun hs_ => hk_.2.1 hs_) (fun hn_ => Nat.not_le.2 hk_.2.2 hn_)⟩)); have n1_ := Aside0.mk (Kd.R_mono (ok' := fun k_ => (P0_ k_ ∨ w.heap.size ≤ k_)) ho0 (fun k_ hk_ => Or.elim hk_ (fun hs_ => (HO_0.out.1 k_ (hs_).symm)) (fun hn_ => (.inr (Nat.le_trans Z35 hn_))))); have n2_ := Aside0.mk (Kept.then_ (S := (fun k_ => P0_ k_)) Z7 hkp (fun k_ hs_ => (fun e_ => (HO_0.out.1 k_ e_.symm)) hs_)); have n3_ := Aside0.mk (hb); clear HO_1; clear HK; clear HB; clear HO_0; have HO_1 := n0_; have HO484 := n1_; have HK := n2_; have HB := n3_; clear n0_ n1_ n2_ n3_; (try clear hb); (try clear hkp); (try clear ho0)))
        refine bodyPost_ret (results_list (rs := [.tmp 22, .tmp 23, .tmp 24, .tmp 25]) rfl (by simp) (.tmp (.tmp (.tmp (.tmp .nil))))) rfl ?_
        exact ⟨_, Z15, by (with_reducible repeat (first | apply Kd.R_alloc | apply Kd.R_drewN | apply Kd.R_drew)); exact HO484.out, Z5, Z7⟩
      ·rw [if_neg c15] at H
       have c15b0 : ((rd l1 x2_1) == 34) = false := beq_eq_false_iff_ne.mpr c15
       have c15b1 : ((rd l1 x2_1) != 34) = true := bne_iff_ne.mpr c15
       have HC19 := Aside0.mk H
       clear H
       have p480 : 0 ≤ (x2_1 : Int) := of_decide_eq_true Z11
       have q480 : x2_1 < (l1.length : Int) := of_decide_eq_true Z11
       obtain ⟨ad480, e480, hx480_0⟩ := Kd.at_int (Kd.V_reads' HO_1.out).2.2 x2_1 p480 q480
       cases e480
       replace p480 := eq_true p480
       replace q480 := eq_true q480
       have p481 : 0 ≤ (x2_1 : Int) := of_decide_eq_true Z11
       have q481 : x2_1 < (l1.length : Int) := of_decide_eq_true Z11
       obtain ⟨ad481, e481, hx481_0⟩ := Kd.at_int (Kd.V_reads' HO_1.out).2.2 x2_1 p481 q481
       obtain rfl : ad480 = ad481 := (by injection e481)
       replace p481 := eq_true p481
       replace q481 := eq_true q481
       go_upto_region 6 with (fail)
       go_cut [75] from 26 to 40 (fun v75 wc => ∃ (kq : Nat) (x75_18 : Bool), v75 = .bool x75_18 ∧ Aside0 (pAny.j1 VO kq l0 l1 x2_1 a3 a4 a5 a6 a8 a9 a10 x75_18 = some (r1, r2, r3, r4)) ∧ Aside0 (kq ≤ k1) ∧ Aside0 (Kd.R (Kd.int .u8) 5 wc w0.heap.size (fun k_ => (P0_ k_ ∨ w.heap.size ≤ k_)) u9000_ l0) ∧ Aside0 (Kd.V (Kd.int .u8) 5 wc w0.heap.size (fun k_ => ((P0_ k_ ∨ P1_ k_) ∨ w.heap.size ≤ k_) ∧ some k_ ≠ (u9000_ : Value).ownBlock) (.slice (some ad480) l1.length c1) l1) ∧ Aside0 (Kept w wc (fun k_ => P0_ k_)) ∧ Aside0 (Below w0.heap.size w0 wc))
       case first =>
        have H := HC19.out
        clear HC19
        by_cases c20 : (rd l1 x2_1) ≥ 48
        ·rw [if_pos c20] at H
         have c20b0 : decide (48 ≤ (rd l1 x2_1)) = true := decide_eq_true c20
         clear c20
         (first | rw [c20b0] | (simp only [i64_w, i32_w]; rw [c20b0]) | skip)
         by_cases c21 : (rd l1 x2_1) ≤ 57
         ·rw [if_pos c21] at H
          have c21b0 : decide ((rd l1 x2_1) ≤ 57) = true := decide_eq_true c21
          clear c21
          ·
           have H' := Aside0.mk H
           clear H
           have p488 : 0 ≤ (x2_1 : Int) := of_decide_eq_true Z11
           have q488 : x2_1 < (l1.length : Int) := of_decide_eq_true Z11
           obtain ⟨ad488, e488, hx488_0⟩ := Kd.at_int (Kd.V_reads' HO_1.out).2.2 x2_1 p488 q488
           obtain rfl : ad480 = ad488 := (by injection e488)
           replace p488 := eq_true p488
           replace q488 := eq_true q488
           have p489 : 0 ≤ (x2_1 : Int) := of_decide_eq_true Z11
           have q489 : x2_1 < (l1.length : Int) := of_decide_eq_true Z11
           obtain ⟨ad489, e489, hx489_0⟩ := Kd.at_int (Kd.V_reads' HO_1.out).2.2 x2_1 p489 q489
           obtain rfl : ad480 = ad489 := (by injection e489)
           replace p489 := eq_true p489
           replace q489 := eq_true q489
           go_wp2
           go_meet
           case rel => exact ⟨_, (true), Z16, H', ⟨Z147⟩, ⟨Z41⟩, ⟨Z58⟩, ⟨Z7⟩, ⟨Z5⟩⟩
         ·rw [if_neg c21] at H
          have c21b0 : decide ((rd l1 x2_1) ≤ 57) = false := decide_eq_false c21
          clear c21
          by_cases c22 : (rd l1 x2_1) = 45
          ·rw [if_pos c22] at H
           have c22b0 : ((rd l1 x2_1) == 45) = true := beq_iff_eq.mpr c22
           have c22b1 : ((rd l1 x2_1) != 45) = false := bne_eq_false_iff_eq.mpr c22
           clear c22
           ·
            have H' := Aside0.mk H
            clear H
            have p488 : 0 ≤ (x2_1 : Int) := of_decide_eq_true Z11
            have q488 : x2_1 < (l1.length : Int) := of_decide_eq_true Z11
            obtain ⟨ad488, e488, hx488_0⟩ := Kd.at_int (Kd.V_reads' HO_1.out).2.2 x2_1 p488 q488
            obtain rfl : ad480 = ad488 := (by injection e488)
            replace p488 := eq_true p488
            replace q488 := eq_true q488
            have p489 : 0 ≤ (x2_1 : Int) := of_decide_eq_true Z11
            have q489 : x2_1 < (l1.length : Int) := of_decide_eq_true Z11
            obtain ⟨ad489, e489, hx489_0⟩ := Kd.at_int (Kd.V_reads' HO_1.out).2.2 x2_1 p489 q489
            obtain rfl : ad480 = ad489 := (by injection e489)
            replace p489 := eq_true p489
            replace q489 := eq_true q489
            have p490 : 0 ≤ (x2_1 : Int) := of_decide_eq_true Z11
            have q490 : x2_1 < (l1.length : Int) := of_decide_eq_true Z11
            obtain ⟨ad490, e490, hx490_0⟩ := Kd.at_int (Kd.V_reads' HO_1.out).2.2 x2_1 p490 q490
            obtain rfl : ad480 = ad490 := (by injection e490)
            replace p490 := eq_true p490
            replace q490 := eq_true q490
            go_wp2
            go_meet
            case rel => exact ⟨_, (true), Z16, H', ⟨Z147⟩, ⟨Z41⟩, ⟨Z58⟩, ⟨Z7⟩, ⟨Z5⟩⟩
          ·rw [if_neg c22] at H
           have c22b0 : ((rd l1 x2_1) == 45) = false := beq_eq_false_iff_ne.mpr c22
           have c22b1 : ((rd l1 x2_1) != 45) = true := bne_iff_ne.mpr c22
           have c23b0 := eq_true (of_decide_eq_true Z11 : 0 ≤ x2_1)
           by_cases c24 : x2_1 ≤ (l1.length : Int)
           ·rw [if_pos c24] at H
            have c24b0 := eq_true c24
            have c24b1 : decide (x2_1 ≤ (l1.length : Int)) = true := decide_eq_true c24
            clear c24
            obtain ⟨y491, hy491⟩ : ∃ y_ : List Int, y_ = (l1.drop (x2_1 : Int).toNat) := ⟨_, rfl⟩
            replace H : ((pretty_isNaNOrInf.f y491).bind fun t496 => (pAny.j1 VO k1 l0 l1 x2_1 a3 a4 a5 a6 a8 a9 a10 t496)) = some (r1, r2, r3, r4) := by first | (rw [hy491]; with_reducible exact H) | (have H2_ := (Option.bind_some _ _).symm.trans H; rw [hy491]; with_reducible exact H2_) | (have H2_ := (Option.bind_some _ _).symm.trans H; with_reducible exact H2_) | with_reducible exact H | (rw [hy491]; exact H) | exact H
            have Ny491 := Aside0.mk hy491
            clear hy491
            replace H := Option.bind_eq_some_iff.mp H
            obtain ⟨t496, A250, H⟩ := H
            replace H : (pAny.j1 VO k1 l0 l1 x2_1 a3 a4 a5 a6 a8 a9 a10 t496) = some (r1, r2, r3, r4) := H
            have A25 := Aside0.mk A250
            clear A250
            ·
             have H' := Aside0.mk H
             clear H
             have p488 : 0 ≤ (x2_1 : Int) := of_decide_eq_true Z11
             have q488 : x2_1 < (l1.length : Int) := of_decide_eq_true Z11
             obtain ⟨ad488, e488, hx488_0⟩ := Kd.at_int (Kd.V_reads' HO_1.out).2.2 x2_1 p488 q488
             obtain rfl : ad480 = ad488 := (by injection e488)
             replace p488 := eq_true p488
             replace q488 := eq_true q488
             have p489 : 0 ≤ (x2_1 : Int) := of_decide_eq_true Z11
             have q489 : x2_1 < (l1.length : Int) := of_decide_eq_true Z11
             obtain ⟨ad489, e489, hx489_0⟩ := Kd.at_int (Kd.V_reads' HO_1.out).2.2 x2_1 p489 q489
             obtain rfl : ad480 = ad489 := (by injection e489)
             replace p489 := eq_true p489
             replace q489 := eq_true q489
             have p490 : 0 ≤ (x2_1 : Int) := of_decide_eq_true Z11
             have q490 : x2_1 < (l1.length : Int) := of_decide_eq_true Z11
             obtain ⟨ad490, e490, hx490_0⟩ := Kd.at_int (Kd.V_reads' HO_1.out).2.2 x2_1 p490 q490
             obtain rfl : ad480 = ad490 := (by injection e490)
             replace p490 := eq_true p490
             replace q490 := eq_true q490
             have q26 : (x2_1 : Int) ≤ ((l1.length : Int) : Int) := of_decide_eq_true Z11
             obtain ⟨i026, hi026, _, hsz26, _⟩ := info_parts info5
             have hroom26 : l1.length ≤ c1 := (Kd.V_reads' HO_1.out).2.1
             have hC26 : Kd.F (Kd.int .u8) _ _ (some ad480) l1.length l1 := (Kd.V_at (base := w0.heap.size) HO_1.out).2.2
             have q026 : (0 : Int) ≤ (x2_1 : Int) := of_decide_eq_true Z11
             have hcut26 := cut_from (P := Try.prog) 39 5 .i64 Try.underlying39 hi026 1 hsz26 (some ad480) l1.length c1 x2_1 q026 q26
             have hr26 := Kd.F_cut (m := (x2_1 : Int).toNat) (c := c1) hC26 (by omega) hroom26
             obtain ⟨A26, hA26⟩ : ∃ A_, A_ = (if c1 = (x2_1 : Int).toNat then (some ad480) else ((some ad480) : Option Addr).map (·.add ((x2_1 : Int).toNat * 1))) := ⟨_, rfl⟩
             obtain ⟨c26, hc26⟩ : ∃ c_, c_ = c1 - (x2_1 : Int).toNat := ⟨_, rfl⟩
             have hy26 : y491.length = l1.length - (x2_1 : Int).toNat := (by rw [Ny491.out, List.length_drop] <;> omega)
             rw [show (l1).drop (x2_1 : Int).toNat = y491 from Ny491.out.symm] at hr26
             replace hr26 : Kd.F (Kd.int .u8) _ _ A26 y491.length y491 := (by rw [hA26]; exact hr26)
             rw [← hy26, ← hA26, ← hc26] at hcut26
             have HO495 := Aside0.mk (show Kd.V (Kd.int .u8) 5 _ w0.heap.size _ (.slice A26 y491.length c26) y491 from Kd.V_mk (by rw [hy26, hc26]; exact Nat.sub_le_sub_right hroom26 _) hr26)
             have HC495 := Aside0.mk (show y491.length ≤ c26 from by rw [hy26, hc26]; exact Nat.sub_le_sub_right hroom26 _)
             clear hr26 hC26 hroom26 hi026 hsz26 hc26
             have KY26 := Aside0.mk hy26
             have KA26 := Aside0.mk hA26
             clear hy26 hA26
             replace q26 := eq_true q26
             go_wp2_with (first | (go_at_call 33; (with_reducible refine (pretty_isNaNOrInf.calls _ _ y491 t496 _ ?side1 ?side2 A25.out).mono ?_); (case side1 => repeat (first | exact (Kd.V_reads' HO495.out).2.2 | (with_reducible refine Kd.C_alloc ?_ _) | (with_reducible refine Kd.C_drewN ?_ _) | (with_reducible refine Kd.C_drew ?_))); (case side2 => exact (Kd.V_reads' HO495.out).2.1); rintro e w' ⟨rfl, ⟨nd, rfl⟩⟩))
             go_meet
             case rel => exact ⟨_, (t496), Z16, H', ⟨Z147⟩, ⟨Z41⟩, ⟨Z58⟩, ⟨Z7⟩, ⟨Z5⟩⟩
           ·rw [if_neg c24] at H
            exact absurd H (by simp)
        ·rw [if_neg c20] at H
         have c20b0 : decide (48 ≤ (rd l1 x2_1)) = false := decide_eq_false c20
         clear c20
         (first | rw [c20b0] | (simp only [i64_w, i32_w]; rw [c20b0]) | skip)
         by_cases c27 : (rd l1 x2_1) = 45
         ·rw [if_pos c27] at H
          have c27b0 : ((rd l1 x2_1) == 45) = true := beq_iff_eq.mpr c27
          have c27b1 : ((rd l1 x2_1) != 45) = false := bne_eq_false_iff_eq.mpr c27
          clear c27
          ·
           have H' := Aside0.mk H
           clear H
           have p488 : 0 ≤ (x2_1 : Int) := of_decide_eq_true Z11
           have q488 : x2_1 < (l1.length : Int) := of_decide_eq_true Z11
           obtain ⟨ad488, e488, hx488_0⟩ := Kd.at_int (Kd.V_reads' HO_1.out).2.2 x2_1 p488 q488
           obtain rfl : ad480 = ad488 := (by injection e488)
           replace p488 := eq_true p488
           replace q488 := eq_true q488
           have p497 : 0 ≤ (x2_1 : Int) := of_decide_eq_true Z11
           have q497 : x2_1 < (l1.length : Int) := of_decide_eq_true Z11
           obtain ⟨ad497, e497, hx497_0⟩ := Kd.at_int (Kd.V_reads' HO_1.out).2.2 x2_1 p497 q497
           obtain rfl : ad480 = ad497 := (by injection e497)
           replace p497 := eq_true p497
           replace q497 := eq_true q497
           go_wp2
           go_meet
           case rel => exact ⟨_, (true), Z16, H', ⟨Z147⟩, ⟨Z41⟩, ⟨Z58⟩, ⟨Z7⟩, ⟨Z5⟩⟩
         ·rw [if_neg c27] at H
          have c27b0 : ((rd l1 x2_1) == 45) = false := beq_eq_false_iff_ne.mpr c27
          have c27b1 : ((rd l1 x2_1) != 45) = true := bne_iff_ne.mpr c27
          have c28b0 := eq_true (of_decide_eq_true Z11 : 0 ≤ x2_1)
          by_cases c29 : x2_1 ≤ (l1.length : Int)
          ·rw [if_pos c29] at H
           have c29b0 := eq_true c29
           have c29b1 : decide (x2_1 ≤ (l1.length : Int)) = true := decide_eq_true c29
           clear c29
           obtain ⟨y498, hy498⟩ : ∃ y_ : List Int, y_ = (l1.drop (x2_1 : Int).toNat) := ⟨_, rfl⟩
           replace H : ((pretty_isNaNOrInf.f y498).bind fun t503 => (pAny.j1 VO k1 l0 l1 x2_1 a3 a4 a5 a6 a8 a9 a10 t503)) = some (r1, r2, r3, r4) := by first | (rw [hy498]; with_reducible exact H) | (have H2_ := (Option.bind_some _ _).symm.trans H; rw [hy498]; with_reducible exact H2_) | (have H2_ := (Option.bind_some _ _).symm.trans H; with_reducible exact H2_) | with_reducible exact H | (rw [hy498]; exact H) | exact H
           have Ny498 := Aside0.mk hy498
           clear hy498
           replace H := Option.bind_eq_some_iff.mp H
           obtain ⟨t503, A300, H⟩ := H
           replace H : (pAny.j1 VO k1 l0 l1 x2_1 a3 a4 a5 a6 a8 a9 a10 t503) = some (r1, r2, r3, r4) := H
           have A30 := Aside0.mk A300
           clear A300
           ·
            have H' := Aside0.mk H
            clear H
            have p488 : 0 ≤ (x2_1 : Int) := of_decide_eq_true Z11
            have q488 : x2_1 < (l1.length : Int) := of_decide_eq_true Z11
            obtain ⟨ad488, e488, hx488_0⟩ := Kd.at_int (Kd.V_reads' HO_1.out).2.2 x2_1 p488 q488
            obtain rfl : ad480 = ad488 := (by injection e488)
            replace p488 := eq_true p488
            replace q488 := eq_true q488
            have p497 : 0 ≤ (x2_1 : Int) := of_decide_eq_true Z11
            have q497 : x2_1 < (l1.length : Int) := of_decide_eq_true Z11
            obtain ⟨ad497, e497, hx497_0⟩ := Kd.at_int (Kd.V_reads' HO_1.out).2.2 x2_1 p497 q497
            obtain rfl : ad480 = ad497 := (by injection e497)
            replace p497 := eq_true p497
            replace q497 := eq_true q497
            have q31 : (x2_1 : Int) ≤ ((l1.length : Int) : Int) := of_decide_eq_true Z11
            obtain ⟨i031, hi031, _, hsz31, _⟩ := info_parts info5
            have hroom31 : l1.length ≤ c1 := (Kd.V_reads' HO_1.out).2.1
            have hC31 : Kd.F (Kd.int .u8) _ _ (some ad480) l1.length l1 := (Kd.V_at (base := w0.heap.size) HO_1.out).2.2
            have q031 : (0 : Int) ≤ (x2_1 : Int) := of_decide_eq_true Z11
            have hcut31 := cut_from (P := Try.prog) 39 5 .i64 Try.underlying39 hi031 1 hsz31 (some ad480) l1.length c1 x2_1 q031 q31
            have hr31 := Kd.F_cut (m := (x2_1 : Int).toNat) (c := c1) hC31 (by omega) hroom31
            obtain ⟨A31, hA31⟩ : ∃ A_, A_ = (if c1 = (x2_1 : Int).toNat then (some ad480) else ((some ad480) : Option Addr).map (·.add ((x2_1 : Int).toNat * 1))) := ⟨_, rfl⟩
            obtain ⟨c31, hc31⟩ : ∃ c_, c_ = c1 - (x2_1 : Int).toNat := ⟨_, rfl⟩
            have hy31 : y498.length = l1.length - (x2_1 : Int).toNat := (by rw [Ny498.out, List.length_drop] <;> omega)
            rw [show (l1).drop (x2_1 : Int).toNat = y498 from Ny498.out.symm] at hr31
            replace hr31 : Kd.F (Kd.int .u8) _ _ A31 y498.length y498 := (by rw [hA31]; exact hr31)
            rw [← hy31, ← hA31, ← hc31] at hcut31
            have HO502 := Aside0.mk (show Kd.V (Kd.int .u8) 5 _ w0.heap.size _ (.slice A31 y498.length c31) y498 from Kd.V_mk (by rw [hy31, hc31]; exact Nat.sub_le_sub_right hroom31 _) hr31)
            have HC502 := Aside0.mk (show y498.length ≤ c31 from by rw [hy31, hc31]; exact Nat.sub_le_sub_right hroom31 _)
            clear hr31 hC31 hroom31 hi031 hsz31 hc31
            have KY31 := Aside0.mk hy31
            have KA31 := Aside0.mk hA31
            clear hy31 hA31
            replace q31 := eq_true q31
            go_wp2_with (first | (go_at_call 33; (with_reducible refine (pretty_isNaNOrInf.calls _ _ y498 t503 _ ?side1 ?side2 A30.out).mono ?_); (case side1 => repeat (first | exact (Kd.V_reads' HO502.out).2.2 | (with_reducible refine Kd.C_alloc ?_ _) | (with_reducible refine Kd.C_drewN ?_ _) | (with_reducible refine Kd.C_drew ?_))); (case side2 => exact (Kd.V_reads' HO502.out).2.1); rintro e w' ⟨rfl, ⟨nd, rfl⟩⟩))
            go_meet
            case rel => exact ⟨_, (t503), Z16, H', ⟨Z147⟩, ⟨Z41⟩, ⟨Z58⟩, ⟨Z7⟩, ⟨Z5⟩⟩
          ·rw [if_neg c29] at H
           exact absurd H (by simp)
       case rest =>
        clear HC19
        try clear c1
        try clear c12
        try clear c12b0
        try clear c13
        try clear c13b0
        try clear c14
        try clear c14b0
        try clear c15
        try clear c15b0
        try clear c15b1
        try clear hx480_0
        try clear hx481_0
        try clear p480
        try clear p481
        try clear q480
        try clear q481
        obtain ⟨kq, x75_18, rfl, HA, HJ18, HO_0, HO_1, HK, HB⟩ := hcut
        cases kq with
        | zero => exact absurd HA.out (by simp [pAny.j1])
        | succ kj18 =>
         have H := HA.out
         clear HA
         simp only [pAny.j1] at H
         by_cases c32 : x75_18 = true
         ·subst c32
          have H1 : ((pretty_appendPrettyNumber.f kj18 l0 l1 x2_1 a9).bind fun bt504 => (some (bt504.1, bt504.2.1, bt504.2.2.1, bt504.2.2.2))) = some (r1, r2, r3, r4) := Z61
          clear H
          have H := H1
          clear H1
          replace H := Option.bind_eq_some_iff.mp H
          obtain ⟨⟨t504, t507, t508, t509⟩, A330, H⟩ := H
          replace H : (some (t504, t507, t508, t509)) = some (r1, r2, r3, r4) := H
          have A33 := Aside0.mk A330
          clear A330
          ·
           simp only [Option.some.injEq, Prod.mk.injEq] at H
           obtain ⟨rfl, rfl, rfl, rfl⟩ := H
           obtain ⟨Ao34, co34, eo34⟩ := Kd.R_slice HO_0.out
           subst eo34
           go_wp2_with (first | ((with_reducible refine gate_callee (f := 34) rfl ?_); refine goesL_ (some 80) rfl rfl Try.func34 (by kernel_rfl) rfl #[.slice Ao34 l0.length co34, .slice (some ad480) l1.length c1, .int .i64 x2_1, .int .i64 a9] rfl Z13 ?_; (with_reducible refine (pretty_appendPrettyNumber.calls kj18 (fun k_ => some k_ = (.slice Ao34 l0.length co34 : Value).ownBlock) (.slice Ao34 l0.length co34) l0 _ _ l1 x2_1 a9 t504 t507 t508 t509 w0 _ ?side1 ?side2 ?side3 ?side4 A33.out).mono ?_); (case side1 => exact Z5); (case side2 => exact Kd.R_tight rfl HO_0.out); (case side3 => exact Kd.C_kept_ownV (HO_1.out) (fun k_ hk_ hs_ => (hk_.2) hs_)); (case side4 => exact (Kd.V_reads' HO_1.out).2.1); rintro e w35 ⟨v505, rfl, ho0, hb, hkp⟩; refine ⟨_, rfl, ?_⟩; have n0_ := Aside0.mk (Kd.V_mono (ok' := fun k_ => ((P0_ k_ ∨ P1_ k_) ∨ w.heap.size ≤ k_) ∧ some k_ ≠ (v505 : Value).ownBlock) (Kd.V_keptB (HO_1.out) hkp (fun k_ hk_ hs_ => (hk_.2) hs_)) (fun k_ hk_ => ⟨hk_.1.1, fun e_ => Or.elim (ho0.1 k_ e_.symm) (fun hs_ => hk_.2.1 hs_) (fun hn_ => Nat.not_le.2 hk_.2.2 hn_)⟩)); have n1_ := Aside0.mk (Kd.R_mono (ok' := fun k_ => (P0_ k_ ∨ w.heap.size ≤ k_)) ho0 (fun k_ hk_ => Or.elim hk_ (fun hs_ => (HO_0.out.1 k_ (hs_).symm)) (fun hn_ => (.inr (Nat.le_trans Z35 hn_))))); have n2_ := Aside0.mk (Kept.then_ (S := (fun k_ => P0_ k_)) Z7 hkp (fun k_ hs_ => (fun e_ => (HO_0.out.1 k_ e_.symm)) hs_)); have n3_ := Aside0.mk (hb); clear HO_1; clear HK; clear HB; clear HO_0; have HO_1 := n0_; have HO506 := n1_; have HK := n2_; have HB := n3_; clear n0_ n1_ n2_ n3_; (try clear hb); (try clear hkp); (try clear ho0)))
           refine bodyPost_ret (results_list (rs := [.tmp 22, .tmp 23, .tmp 24, .tmp 25]) rfl (by simp) (.tmp (.tmp (.tmp (.tmp .nil))))) rfl ?_
           exact ⟨_, Z15, by (with_reducible repeat (first | apply Kd.R_alloc | apply Kd.R_drewN | apply Kd.R_drew)); exact HO506.out, Z5, Z7⟩
         ·replace c32 := Bool.eq_false_iff.mpr c32
          subst c32
          have H1 : (if 0 ≤ x2_1 then (if x2_1 < (l1.length : Int) then (if (rd l1 x2_1) = 123 then ((VO.f kj18 l0 l1 x2_1 123 125 a3 a4 a5 a6 false a8 a9 a10).bind fun bt511 => (some (bt511.1, bt511.2.1, bt511.2.2.1, bt511.2.2.2))) else (if (rd l1 x2_1) = 91 then ((VO.f kj18 l0 l1 x2_1 91 93 a3 a4 a5 a6 false a8 a9 a10).bind fun bt518 => (some (bt518.1, bt518.2.1, bt518.2.2.1, bt518.2.2.2))) else (if (rd l1 x2_1) = 116 then ((some (([116, 114, 117, 101] : List Int) : List Int)).bind fun y525 => (if l0.length + y525.length < 140737488355328 then (some ((l0 ++ y525), wrap64 (x2_1 + 4), a9, true)) else (none))) else (if (rd l1 x2_1) = 102 then ((some (([102, 97, 108, 115, 101] : List Int) : List Int)).bind fun y531 => (if l0.length + y531.length < 140737488355328 then (some ((l0 ++ y531), wrap64 (x2_1 + 5), a9, true)) else (none))) else (if (rd l1 x2_1) = 110 then ((some (([110, 117, 108, 108] : List Int) : List Int)).bind fun y537 => (if l0.length + y537.length < 140737488355328 then (some ((l0 ++ y537), wrap64 (x2_1 + 4), a9, true)) else (none))) else (pAny.l0 VO kj18 l0 l1 (wrap64 (x2_1 + 1)) a3 a4 a5 a6 a8 a9 a10)))))) else (none)) else (none)) = some (r1, r2, r3, r4) := Z34
          clear H
          have H := H1
          clear H1
          by_cases c36 : 0 ≤ x2_1
          ·rw [if_pos c36] at H
           have c36b0 : decide (0 ≤ x2_1) = true := decide_eq_true c36
           clear c36
           by_cases c37 : x2_1 < (l1.length : Int)
           ·rw [if_pos c37] at H
            have c37b0 : decide (x2_1 < (l1.length : Int)) = true := decide_eq_true c37
            clear c37
            by_cases c38 : (rd l1 x2_1) = 123
            ·rw [if_pos c38] at H
             have c38b0 : ((rd l1 x2_1) == 123) = true := beq_iff_eq.mpr c38
             have c38b1 : ((rd l1 x2_1) != 123) = false := bne_eq_false_iff_eq.mpr c38
             clear c38
             replace H := Option.bind_eq_some_iff.mp H
             obtain ⟨⟨t511, t514, t515, t516⟩, A390, H⟩ := H
             replace H : (some (t511, t514, t515, t516)) = some (r1, r2, r3, r4) := H
             have A39 := Aside0.mk A390
             clear A390
             ·
              simp only [Option.some.injEq, Prod.mk.injEq] at H
              obtain ⟨rfl, rfl, rfl, rfl⟩ := H
              have p510 : 0 ≤ (x2_1 : Int) := of_decide_eq_true Z11
              have q510 : x2_1 < (l1.length : Int) := of_decide_eq_true Z11
              obtain ⟨ad510, e510, hx510_0⟩ := Kd.at_int (Kd.V_reads' HO_1.out).2.2 x2_1 p510 q510
              obtain rfl : ad480 = ad510 := (by injection e510)
              replace p510 := eq_true p510
              replace q510 := eq_true q510
              obtain ⟨Ao40, co40, eo40⟩ := Kd.R_slice HO_0.out
              subst eo40
              go_wp2_with (first | ((with_reducible refine gate_callee (f := 35) rfl ?_); refine goesL_ (some 101) rfl rfl Try.func35 (by kernel_rfl) rfl #[.slice Ao40 l0.length co40, .slice (some ad480) l1.length c1, .int .i64 x2_1, .int .u8 123, .int .u8 125, .bool a3, .int .i64 a4, .string a5, .string a6, .bool false, .int .i64 a8, .int .i64 a9, .int .i64 a10] rfl Z13 ?_; (with_reducible refine (VO.calls kj18 (fun k_ => some k_ = (.slice Ao40 l0.length co40 : Value).ownBlock) (.slice Ao40 l0.length co40) l0 (fun k_ => (((P0_ k_ ∨ P1_ k_) ∨ w.heap.size ≤ k_) ∧ some k_ ≠ (.slice Ao40 l0.length co40 : Value).ownBlock)) _ _ l1 x2_1 123 125 a3 a4 a5 a6 false a8 a9 a10 t511 t514 t515 t516 w0 _ ?side1 ?side2 ?side3 A39.out).mono ?_); (case side1 => exact Z5); (case side2 => exact Kd.R_tight rfl HO_0.out); (case side3 => exact Z157); rintro e w41 ⟨v512, rfl, ho0, hb, hkp⟩; refine ⟨_, rfl, ?_⟩; have n0_ := Aside0.mk (Kd.V_mono (ok' := fun k_ => ((P0_ k_ ∨ P1_ k_) ∨ w.heap.size ≤ k_) ∧ some k_ ≠ (v512 : Value).ownBlock) (Kd.V_keptB (HO_1.out) hkp (fun k_ hk_ hs_ => (hk_.2) hs_)) (fun k_ hk_ => ⟨hk_.1.1, fun e_ => Or.elim (ho0.1 k_ e_.symm) (fun hs_ => hk_.2.1 hs_) (fun hn_ => Nat.not_le.2 hk_.2.2 hn_)⟩)); have n1_ := Aside0.mk (Kd.R_mono (ok' := fun k_ => (P0_ k_ ∨ w.heap.size ≤ k_)) ho0 (fun k_ hk_ => Or.elim hk_ (fun hs_ => (HO_0.out.1 k_ (hs_).symm)) (fun hn_ => (.inr (Nat.le_trans Z35 hn_))))); have n2_ := Aside0.mk (Kept.then_ (S := (fun k_ => P0_ k_)) Z7 hkp (fun k_ hs_ => (fun e_ => (HO_0.out.1 k_ e_.symm)) hs_)); have n3_ := Aside0.mk (hb); clear HO_1; clear HK; clear HB; clear HO_0; have HO_1 := n0_; have HO513 := n1_; have HK := n2_; have HB := n3_; clear n0_ n1_ n2_ n3_; (try clear hb); (try clear hkp); (try clear ho0)))
              refine bodyPost_ret (results_list (rs := [.tmp 22, .tmp 23, .tmp 24, .tmp 25]) rfl (by simp) (.tmp (.tmp (.tmp (.tmp .nil))))) rfl ?_
              exact ⟨_, Z15, by (with_reducible repeat (first | apply Kd.R_alloc | apply Kd.R_drewN | apply Kd.R_drew)); exact HO513.out, Z5, Z7⟩
            ·rw [if_neg c38] at H
             have c38b0 : ((rd l1 x2_1) == 123) = false := beq_eq_false_iff_ne.mpr c38
             have c38b1 : ((rd l1 x2_1) != 123) = true := bne_iff_ne.mpr c38
             by_cases c42 : (rd l1 x2_1) = 91
             ·rw [if_pos c42] at H
              have c42b0 : ((rd l1 x2_1) == 91) = true := beq_iff_eq.mpr c42
              have c42b1 : ((rd l1 x2_1) != 91) = false := bne_eq_false_iff_eq.mpr c42
              clear c42
              replace H := Option.bind_eq_some_iff.mp H
              obtain ⟨⟨t518, t521, t522, t523⟩, A430, H⟩ := H
              replace H : (some (t518, t521, t522, t523)) = some (r1, r2, r3, r4) := H
              have A43 := Aside0.mk A430
              clear A430
              ·
               simp only [Option.some.injEq, Prod.mk.injEq] at H
               obtain ⟨rfl, rfl, rfl, rfl⟩ := H
               have p510 : 0 ≤ (x2_1 : Int) := of_decide_eq_true Z11
               have q510 : x2_1 < (l1.length : Int) := of_decide_eq_true Z11
               obtain ⟨ad510, e510, hx510_0⟩ := Kd.at_int (Kd.V_reads' HO_1.out).2.2 x2_1 p510 q510
               obtain rfl : ad480 = ad510 := (by injection e510)
               replace p510 := eq_true p510
               replace q510 := eq_true q510
               have p517 : 0 ≤ (x2_1 : Int) := of_decide_eq_true Z11
               have q517 : x2_1 < (l1.length : Int) := of_decide_eq_true Z11
               obtain ⟨ad517, e517, hx517_0⟩ := Kd.at_int (Kd.V_reads' HO_1.out).2.2 x2_1 p517 q517
               obtain rfl : ad480 = ad517 := (by injection e517)
               replace p517 := eq_true p517
               replace q517 := eq_true q517
               obtain ⟨Ao44, co44, eo44⟩ := Kd.R_slice HO_0.out
               subst eo44
               go_wp2_with (first | ((with_reducible refine gate_callee (f := 35) rfl ?_); refine goesL_ (some 122) rfl rfl Try.func35 (by kernel_rfl) rfl #[.slice Ao44 l0.length co44, .slice (some ad480) l1.length c1, .int .i64 x2_1, .int .u8 91, .int .u8 93, .bool a3, .int .i64 a4, .string a5, .string a6, .bool false, .int .i64 a8, .int .i64 a9, .int .i64 a10] rfl Z13 ?_; (with_reducible refine (VO.calls kj18 (fun k_ => some k_ = (.slice Ao44 l0.length co44 : Value).ownBlock) (.slice Ao44 l0.length co44) l0 (fun k_ => (((P0_ k_ ∨ P1_ k_) ∨ w.heap.size ≤ k_) ∧ some k_ ≠ (.slice Ao44 l0.length co44 : Value).ownBlock)) _ _ l1 x2_1 91 93 a3 a4 a5 a6 false a8 a9 a10 t518 t521 t522 t523 w0 _ ?side1 ?side2 ?side3 A43.out).mono ?_); (case side1 => exact Z5); (case side2 => exact Kd.R_tight rfl HO_0.out); (case side3 => exact Z157); rintro e w45 ⟨v519, rfl, ho0, hb, hkp⟩; refine ⟨_, rfl, ?_⟩; have n0_ := Aside0.mk (Kd.V_mono (ok' := fun k_ => ((P0_ k_ ∨ P1_ k_) ∨ w.heap.size ≤ k_) ∧ some k_ ≠ (v519 : Value).ownBlock) (Kd.V_keptB (HO_1.out) hkp (fun k_ hk_ hs_ => (hk_.2) hs_)) (fun k_ hk_ => ⟨hk_.1.1, fun e_ => Or.elim (ho0.1 k_ e_.symm) (fun hs_ => hk_.2.1 hs_) (fun hn_ => Nat.not_le.2 hk_.2.2 hn_)⟩)); have n1_ := Aside0.mk (Kd.R_mono (ok' := fun k_ => (P0_ k_ ∨ w.heap.size ≤ k_)) ho0 (fun k_ hk_ => Or.elim hk_ (fun hs_ => (HO_0.out.1 k_ (hs_).symm)) (fun hn_ => (.inr (Nat.le_trans Z35 hn_))))); have n2_ := Aside0.mk (Kept.then_ (S := (fun k_ => P0_ k_)) Z7 hkp (fun k_ hs_ => (fun e_ => (HO_0.out.1 k_ e_.symm)) hs_)); have n3_ := Aside0.mk (hb); clear HO_1; clear HK; clear HB; clear HO_0; have HO_1 := n0_; have HO520 := n1_; have HK := n2_; have HB := n3_; clear n0_ n1_ n2_ n3_; (try clear hb); (try clear hkp); (try clear ho0)))
               refine bodyPost_ret (results_list (rs := [.tmp 22, .tmp 23, .tmp 24, .tmp 25]) rfl (by simp) (.tmp (.tmp (.tmp (.tmp .nil))))) rfl ?_
               exact ⟨_, Z15, by (with_reducible repeat (first | apply Kd.R_alloc | apply Kd.R_drewN | apply Kd.R_drew)); exact HO520.out, Z5, Z7⟩
             ·rw [if_neg c42] at H
              have c42b0 : ((rd l1 x2_1) == 91) = false := beq_eq_false_iff_ne.mpr c42
              have c42b1 : ((rd l1 x2_1) != 91) = true := bne_iff_ne.mpr c42
              by_cases c46 : (rd l1 x2_1) = 116
              ·rw [if_pos c46] at H
               have c46b0 : ((rd l1 x2_1) == 116) = true := beq_iff_eq.mpr c46
               have c46b1 : ((rd l1 x2_1) != 116) = false := bne_eq_false_iff_eq.mpr c46
               clear c46
               obtain ⟨y525, hy525⟩ : ∃ y_ : List Int, y_ = (([116, 114, 117, 101] : List Int)) := ⟨_, rfl⟩
               replace H : (if l0.length + y525.length < 140737488355328 then (some ((l0 ++ y525), wrap64 (x2_1 + 4), a9, true)) else (none)) = some (r1, r2, r3, r4) := by first | (rw [hy525]; with_reducible exact H) | (have H2_ := (Option.bind_some _ _).symm.trans H; rw [hy525]; with_reducible exact H2_) | (have H2_ := (Option.bind_some _ _).symm.trans H; with_reducible exact H2_) | with_reducible exact H | (rw [hy525]; exact H) | exact H
               have Ny525 := Aside0.mk hy525
               clear hy525
               by_cases c47 : l0.length + y525.length < 140737488355328
               ·rw [if_pos c47] at H
                have LMc47 := Aside0.mk c47
                clear c47
                obtain ⟨y528, hy528⟩ : ∃ y_ : List Int, y_ = (l0 ++ y525) := ⟨_, rfl⟩
                replace H : (some (y528, wrap64 (x2_1 + 4), a9, true)) = some (r1, r2, r3, r4) := by first | (rw [hy528]; with_reducible exact H) | (have H2_ := (Option.bind_some _ _).symm.trans H; rw [hy528]; with_reducible exact H2_) | (have H2_ := (Option.bind_some _ _).symm.trans H; with_reducible exact H2_) | with_reducible exact H | (rw [hy528]; exact H) | exact H
                have Ny528 := Aside0.mk hy528
                clear hy528
                ·
                 simp only [Option.some.injEq, Prod.mk.injEq] at H
                 obtain ⟨rfl, rfl, rfl, rfl⟩ := H
                 have p510 : 0 ≤ (x2_1 : Int) := of_decide_eq_true Z11
                 have q510 : x2_1 < (l1.length : Int) := of_decide_eq_true Z11
                 obtain ⟨ad510, e510, hx510_0⟩ := Kd.at_int (Kd.V_reads' HO_1.out).2.2 x2_1 p510 q510
                 obtain rfl : ad480 = ad510 := (by injection e510)
                 replace p510 := eq_true p510
                 replace q510 := eq_true q510
                 have p517 : 0 ≤ (x2_1 : Int) := of_decide_eq_true Z11
                 have q517 : x2_1 < (l1.length : Int) := of_decide_eq_true Z11
                 obtain ⟨ad517, e517, hx517_0⟩ := Kd.at_int (Kd.V_reads' HO_1.out).2.2 x2_1 p517 q517
                 obtain rfl : ad480 = ad517 := (by injection e517)
                 replace p517 := eq_true p517
                 replace q517 := eq_true q517
                 have p524 : 0 ≤ (x2_1 : Int) := of_decide_eq_true Z11
                 have q524 : x2_1 < (l1.length : Int) := of_decide_eq_true Z11
                 obtain ⟨ad524, e524, hx524_0⟩ := Kd.at_int (Kd.V_reads' HO_1.out).2.2 x2_1 p524 q524
                 obtain rfl : ad480 = ad524 := (by injection e524)
                 replace p524 := eq_true p524
                 replace q524 := eq_true q524
                 go_wp2_with (first | ((with_reducible refine gate_dst (N := 134) rfl ?_); refine Kd.R_lit (Kd.int .u8) _ 5 ?hg (N := 134) ?hd (xs := ([116, 114, 117, 101] : List Int)) (inner := [.int .u8 116, .int .u8 114, .int .u8 117, .int .u8 101]) (ok := fun _ => True) (okp := fun _ => True) ?hr ?hp (fun _ hk => hk) trivial (Below.refl _ _) (Nat.le_refl _) (by simp) ?_; (case hd => rfl); (case hg => rfl); (case hr => exact Z62); (case hp => exact (Reps.one (show Kd.M (Kd.int .u8) _ _ _ 116 [.int .u8 116] from rfl) (Reps.one (show Kd.M (Kd.int .u8) _ _ _ 114 [.int .u8 114] from rfl) (Reps.one (show Kd.M (Kd.int .u8) _ _ _ 117 [.int .u8 117] from rfl) (Reps.one (show Kd.M (Kd.int .u8) _ _ _ 101 [.int .u8 101] from rfl) (Reps.none _ _)))))); intro v526 w48 ho49 hb hg_ hnew_; clear hg_ hnew_; (first | rw [← Ny525.out] at ho49 | (simp only [Int.reduceToNat] at ho49; rw [← Ny525.out] at ho49)); have n0_ := Aside0.mk (Kd.R_elder' Z25 (Kd.R_base ho49) hb); have n1_ := Aside0.mk (Kd.V_elder' Z107 (Kd.R_base ho49) hb); have n2_ := Aside0.mk (Kd.R_lower (Kd.R_new' (Kd.R_newM (M := fun k_ => (P0_ k_ ∨ w.heap.size ≤ k_)) ho49 Z35 (fun k_ h_ => .inr h_)) (Kd.R_lt Z25)) (below_size Z5)); have n3_ := Aside0.mk (Kept.below (S := (fun k_ => P0_ k_)) Z7 hb); have n4_ := Aside0.mk (below_step Z5 hb); clear HO_0; clear HO_1; clear HK; clear HB; have HO_0 := n0_; have HO_1 := n1_; have HO527 := n2_; have HK := n3_; have HB := n4_; clear n0_ n1_ n2_ n3_ n4_; clear hb ho49; obtain ⟨Ao51, co51, eo51⟩ := Kd.R_slice HO527.out; subst eo51) | ((with_reducible refine gate_builtin (b := .append) (xs := #[.tmp 133, .tmp 134]) rfl ?_); at_builtin; refine Kd.R_append_rows (Kd.int .u8) (w0 := w0) w0.heap.size rfl (.tmp 133) (.tmp 134) 39 5 (.int .u8 0) 1 rfl Try.underlying39 info5 rfl (by decide) (by omega) u9000_ l0 y525 _ _ _ (fun k_ => (P0_ k_ ∨ w.heap.size ≤ k_) ∧ some k_ ≠ (.slice Ao51 y525.length co51 : Value).ownBlock) (fun _ => False) rfl rfl ?aO ?aR (fun _ _ h => h) (fun _ h => h.elim) ?aF ?aB ?aS ?aL ?_; (case aR => repeat (first | exact (Kd.R_reads' HO527.out).2.2 | (with_reducible refine Kd.C_alloc ?_ _) | (with_reducible refine Kd.C_drewN ?_ _) | (with_reducible refine Kd.C_drew ?_))); (case aB => exact Z5); (case aF => exact (fun k_ hk => ⟨(.inr (Nat.le_trans Z35 hk)), Kd.fresh' (Kd.R_lt (by (with_reducible repeat (first | apply Kd.R_alloc | apply Kd.R_drewN | apply Kd.R_drew)); exact HO527.out)) k_ hk⟩)); (case aO => exact Z25); (case aS => exact (below_size Z5)); (case aL => have := LMc47.out; omega); intro v529 w50 ho hb hg hat; rw [← Ny528.out] at ho; have n0_ := Aside0.mk (Kd.V_afterv (ok := (fun k_ => ((P0_ k_ ∨ P1_ k_) ∨ w.heap.size ≤ k_) ∧ some k_ ≠ (.slice Ao51 y525.length co51 : Value).ownBlock)) Z144 hg hat); have n1_ := Aside0.mk (Kd.R_after (ok := (fun k_ => (P0_ k_ ∨ w.heap.size ≤ k_))) (by (with_reducible repeat (first | apply Kd.R_alloc | apply Kd.R_drewN | apply Kd.R_drew)); exact Kd.R_mono HO527.out (fun _ hk => ⟨hk.1.1, hk.2⟩)) hg hat); have n2_ := Aside0.mk (hb); have n3_ := Aside0.mk (Kept.of_grown (S := (fun k_ => P0_ k_)) hg Z7 (fun k_ e_ => (HO_0.out.1 k_ e_).1)); have n4_ := Aside0.mk (ho); clear HO_1; clear HO527; clear HB; clear HK; clear HO_0; have HO_1 := n0_; have HO527 := n1_; have HB := n2_; have HK := n3_; have HO530 := n4_; clear n0_ n1_ n2_ n3_ n4_; clear ho hb hg hat))
                 refine bodyPost_ret (results_list (rs := [.tmp 22, .tmp 23, .tmp 24, .tmp 25]) rfl (by simp) (.tmp (.tmp (.tmp (.tmp .nil))))) rfl ?_
                 exact ⟨_, Z15, by (with_reducible repeat (first | apply Kd.R_alloc | apply Kd.R_drewN | apply Kd.R_drew)); exact Kd.R_mono HO530.out (fun _ hk => hk.1), Z5, Z7⟩
               ·rw [if_neg c47] at H
                exact absurd H (by simp)
              ·rw [if_neg c46] at H
               have c46b0 : ((rd l1 x2_1) == 116) = false := beq_eq_false_iff_ne.mpr c46
               have c46b1 : ((rd l1 x2_1) != 116) = true := bne_iff_ne.mpr c46
               by_cases c52 : (rd l1 x2_1) = 102
               ·rw [if_pos c52] at H
                have c52b0 : ((rd l1 x2_1) == 102) = true := beq_iff_eq.mpr c52
                have c52b1 : ((rd l1 x2_1) != 102) = false := bne_eq_false_iff_eq.mpr c52
                clear c52
                obtain ⟨y531, hy531⟩ : ∃ y_ : List Int, y_ = (([102, 97, 108, 115, 101] : List Int)) := ⟨_, rfl⟩
                replace H : (if l0.length + y531.length < 140737488355328 then (some ((l0 ++ y531), wrap64 (x2_1 + 5), a9, true)) else (none)) = some (r1, r2, r3, r4) := by first | (rw [hy531]; with_reducible exact H) | (have H2_ := (Option.bind_some _ _).symm.trans H; rw [hy531]; with_reducible exact H2_) | (have H2_ := (Option.bind_some _ _).symm.trans H; with_reducible exact H2_) | with_reducible exact H | (rw [hy531]; exact H) | exact H
                have Ny531 := Aside0.mk hy531
                clear hy531
                by_cases c53 : l0.length + y531.length < 140737488355328
                ·rw [if_pos c53] at H
                 have LMc53 := Aside0.mk c53
                 clear c53
                 obtain ⟨y534, hy534⟩ : ∃ y_ : List Int, y_ = (l0 ++ y531) := ⟨_, rfl⟩
                 replace H : (some (y534, wrap64 (x2_1 + 5), a9, true)) = some (r1, r2, r3, r4) := by first | (rw [hy534]; with_reducible exact H) | (have H2_ := (Option.bind_some _ _).symm.trans H; rw [hy534]; with_reducible exact H2_) | (have H2_ := (Option.bind_some _ _).symm.trans H; with_reducible exact H2_) | with_reducible exact H | (rw [hy534]; exact H) | exact H
                 have Ny534 := Aside0.mk hy534
                 clear hy534
                 ·
                  simp only [Option.some.injEq, Prod.mk.injEq] at H
                  obtain ⟨rfl, rfl, rfl, rfl⟩ := H
                  have p510 : 0 ≤ (x2_1 : Int) := of_decide_eq_true Z11
                  have q510 : x2_1 < (l1.length : Int) := of_decide_eq_true Z11
                  obtain ⟨ad510, e510, hx510_0⟩ := Kd.at_int (Kd.V_reads' HO_1.out).2.2 x2_1 p510 q510
                  obtain rfl : ad480 = ad510 := (by injection e510)
                  replace p510 := eq_true p510
                  replace q510 := eq_true q510
                  have p517 : 0 ≤ (x2_1 : Int) := of_decide_eq_true Z11
                  have q517 : x2_1 < (l1.length : Int) := of_decide_eq_true Z11
                  obtain ⟨ad517, e517, hx517_0⟩ := Kd.at_int (Kd.V_reads' HO_1.out).2.2 x2_1 p517 q517
                  obtain rfl : ad480 = ad517 := (by injection e517)
                  replace p517 := eq_true p517
                  replace q517 := eq_true q517
                  have p524 : 0 ≤ (x2_1 : Int) := of_decide_eq_true Z11
                  have q524 : x2_1 < (l1.length : Int) := of_decide_eq_true Z11
                  obtain ⟨ad524, e524, hx524_0⟩ := Kd.at_int (Kd.V_reads' HO_1.out).2.2 x2_1 p524 q524
                  obtain rfl : ad480 = ad524 := (by injection e524)
                  replace p524 := eq_true p524
                  replace q524 := eq_true q524
                  go_wp2_with (first | ((with_reducible refine gate_dst (N := 142) rfl ?_); refine Kd.R_lit (Kd.int .u8) _ 5 ?hg (N := 142) ?hd (xs := ([102, 97, 108, 115, 101] : List Int)) (inner := [.int .u8 102, .int .u8 97, .int .u8 108, .int .u8 115, .int .u8 101]) (ok := fun _ => True) (okp := fun _ => True) ?hr ?hp (fun _ hk => hk) trivial (Below.refl _ _) (Nat.le_refl _) (by simp) ?_; (case hd => rfl); (case hg => rfl); (case hr => exact Z62); (case hp => exact (Reps.one (show Kd.M (Kd.int .u8) _ _ _ 102 [.int .u8 102] from rfl) (Reps.one (show Kd.M (Kd.int .u8) _ _ _ 97 [.int .u8 97] from rfl) (Reps.one (show Kd.M (Kd.int .u8) _ _ _ 108 [.int .u8 108] from rfl) (Reps.one (show Kd.M (Kd.int .u8) _ _ _ 115 [.int .u8 115] from rfl) (Reps.one (show Kd.M (Kd.int .u8) _ _ _ 101 [.int .u8 101] from rfl) (Reps.none _ _))))))); intro v532 w54 ho55 hb hg_ hnew_; clear hg_ hnew_; (first | rw [← Ny531.out] at ho55 | (simp only [Int.reduceToNat] at ho55; rw [← Ny531.out] at ho55)); have n0_ := Aside0.mk (Kd.R_elder' Z25 (Kd.R_base ho55) hb); have n1_ := Aside0.mk (Kd.V_elder' Z107 (Kd.R_base ho55) hb); have n2_ := Aside0.mk (Kd.R_lower (Kd.R_new' (Kd.R_newM (M := fun k_ => (P0_ k_ ∨ w.heap.size ≤ k_)) ho55 Z35 (fun k_ h_ => .inr h_)) (Kd.R_lt Z25)) (below_size Z5)); have n3_ := Aside0.mk (Kept.below (S := (fun k_ => P0_ k_)) Z7 hb); have n4_ := Aside0.mk (below_step Z5 hb); clear HO_0; clear HO_1; clear HK; clear HB; have HO_0 := n0_; have HO_1 := n1_; have HO533 := n2_; have HK := n3_; have HB := n4_; clear n0_ n1_ n2_ n3_ n4_; clear hb ho55; obtain ⟨Ao57, co57, eo57⟩ := Kd.R_slice HO533.out; subst eo57) | ((with_reducible refine gate_builtin (b := .append) (xs := #[.tmp 141, .tmp 142]) rfl ?_); at_builtin; refine Kd.R_append_rows (Kd.int .u8) (w0 := w0) w0.heap.size rfl (.tmp 141) (.tmp 142) 39 5 (.int .u8 0) 1 rfl Try.underlying39 info5 rfl (by decide) (by omega) u9000_ l0 y531 _ _ _ (fun k_ => (P0_ k_ ∨ w.heap.size ≤ k_) ∧ some k_ ≠ (.slice Ao57 y531.length co57 : Value).ownBlock) (fun _ => False) rfl rfl ?aO ?aR (fun _ _ h => h) (fun _ h => h.elim) ?aF ?aB ?aS ?aL ?_; (case aR => repeat (first | exact (Kd.R_reads' HO533.out).2.2 | (with_reducible refine Kd.C_alloc ?_ _) | (with_reducible refine Kd.C_drewN ?_ _) | (with_reducible refine Kd.C_drew ?_))); (case aB => exact Z5); (case aF => exact (fun k_ hk => ⟨(.inr (Nat.le_trans Z35 hk)), Kd.fresh' (Kd.R_lt (by (with_reducible repeat (first | apply Kd.R_alloc | apply Kd.R_drewN | apply Kd.R_drew)); exact HO533.out)) k_ hk⟩)); (case aO => exact Z25); (case aS => exact (below_size Z5)); (case aL => have := LMc53.out; omega); intro v535 w56 ho hb hg hat; rw [← Ny534.out] at ho; have n0_ := Aside0.mk (Kd.V_afterv (ok := (fun k_ => ((P0_ k_ ∨ P1_ k_) ∨ w.heap.size ≤ k_) ∧ some k_ ≠ (.slice Ao57 y531.length co57 : Value).ownBlock)) Z144 hg hat); have n1_ := Aside0.mk (Kd.R_after (ok := (fun k_ => (P0_ k_ ∨ w.heap.size ≤ k_))) (by (with_reducible repeat (first | apply Kd.R_alloc | apply Kd.R_drewN | apply Kd.R_drew)); exact Kd.R_mono HO533.out (fun _ hk => ⟨hk.1.1, hk.2⟩)) hg hat); have n2_ := Aside0.mk (hb); have n3_ := Aside0.mk (Kept.of_grown (S := (fun k_ => P0_ k_)) hg Z7 (fun k_ e_ => (HO_0.out.1 k_ e_).1)); have n4_ := Aside0.mk (ho); clear HO_1; clear HO533; clear HB; clear HK; clear HO_0; have HO_1 := n0_; have HO533 := n1_; have HB := n2_; have HK := n3_; have HO536 := n4_; clear n0_ n1_ n2_ n3_ n4_; clear ho hb hg hat))
                  refine bodyPost_ret (results_list (rs := [.tmp 22, .tmp 23, .tmp 24, .tmp 25]) rfl (by simp) (.tmp (.tmp (.tmp (.tmp .nil))))) rfl ?_
                  exact ⟨_, Z15, by (with_reducible repeat (first | apply Kd.R_alloc | apply Kd.R_drewN | apply Kd.R_drew)); exact Kd.R_mono HO536.out (fun _ hk => hk.1), Z5, Z7⟩
                ·rw [if_neg c53] at H
                 exact absurd H (by simp)
               ·rw [if_neg c52] at H
                have c52b0 : ((rd l1 x2_1) == 102) = false := beq_eq_false_iff_ne.mpr c52
                have c52b1 : ((rd l1 x2_1) != 102) = true := bne_iff_ne.mpr c52
                by_cases c58 : (rd l1 x2_1) = 110
                ·rw [if_pos c58] at H
                 have c58b0 : ((rd l1 x2_1) == 110) = true := beq_iff_eq.mpr c58
                 have c58b1 : ((rd l1 x2_1) != 110) = false := bne_eq_false_iff_eq.mpr c58
                 clear c58
                 obtain ⟨y537, hy537⟩ : ∃ y_ : List Int, y_ = (([110, 117, 108, 108] : List Int)) := ⟨_, rfl⟩
                 replace H : (if l0.length + y537.length < 140737488355328 then (some ((l0 ++ y537), wrap64 (x2_1 + 4), a9, true)) else (none)) = some (r1, r2, r3, r4) := by first | (rw [hy537]; with_reducible exact H) | (have H2_ := (Option.bind_some _ _).symm.trans H; rw [hy537]; with_reducible exact H2_) | (have H2_ := (Option.bind_some _ _).symm.trans H; with_reducible exact H2_) | with_reducible exact H | (rw [hy537]; exact H) | exact H
                 have Ny537 := Aside0.mk hy537
                 clear hy537
                 by_cases c59 : l0.length + y537.length < 140737488355328
                 ·rw [if_pos c59] at H
                  have LMc59 := Aside0.mk c59
                  clear c59
                  obtain ⟨y540, hy540⟩ : ∃ y_ : List Int, y_ = (l0 ++ y537) := ⟨_, rfl⟩
                  replace H : (some (y540, wrap64 (x2_1 + 4), a9, true)) = some (r1, r2, r3, r4) := by first | (rw [hy540]; with_reducible exact H) | (have H2_ := (Option.bind_some _ _).symm.trans H; rw [hy540]; with_reducible exact H2_) | (have H2_ := (Option.bind_some _ _).symm.trans H; with_reducible exact H2_) | with_reducible exact H | (rw [hy540]; exact H) | exact H
                  have Ny540 := Aside0.mk hy540
                  clear hy540
                  ·
                   simp only [Option.some.injEq, Prod.mk.injEq] at H
                   obtain ⟨rfl, rfl, rfl, rfl⟩ := H
                   have p510 : 0 ≤ (x2_1 : Int) := of_decide_eq_true Z11
                   have q510 : x2_1 < (l1.length : Int) := of_decide_eq_true Z11
                   obtain ⟨ad510, e510, hx510_0⟩ := Kd.at_int (Kd.V_reads' HO_1.out).2.2 x2_1 p510 q510
                   obtain rfl : ad480 = ad510 := (by injection e510)
                   replace p510 := eq_true p510
                   replace q510 := eq_true q510
                   have p517 : 0 ≤ (x2_1 : Int) := of_decide_eq_true Z11
                   have q517 : x2_1 < (l1.length : Int) := of_decide_eq_true Z11
                   obtain ⟨ad517, e517, hx517_0⟩ := Kd.at_int (Kd.V_reads' HO_1.out).2.2 x2_1 p517 q517
                   obtain rfl : ad480 = ad517 := (by injection e517)
                   replace p517 := eq_true p517
                   replace q517 := eq_true q517
                   have p524 : 0 ≤ (x2_1 : Int) := of_decide_eq_true Z11
                   have q524 : x2_1 < (l1.length : Int) := of_decide_eq_true Z11
                   obtain ⟨ad524, e524, hx524_0⟩ := Kd.at_int (Kd.V_reads' HO_1.out).2.2 x2_1 p524 q524
                   obtain rfl : ad480 = ad524 := (by injection e524)
                   replace p524 := eq_true p524
                   replace q524 := eq_true q524
                   go_wp2_with (first | ((with_reducible refine gate_dst (N := 150) rfl ?_); refine Kd.R_lit (Kd.int .u8) _ 5 ?hg (N := 150) ?hd (xs := ([110, 117, 108, 108] : List Int)) (inner := [.int .u8 110, .int .u8 117, .int .u8 108, .int .u8 108]) (ok := fun _ => True) (okp := fun _ => True) ?hr ?hp (fun _ hk => hk) trivial (Below.refl _ _) (Nat.le_refl _) (by simp) ?_; (case hd => rfl); (case hg => rfl); (case hr => exact Z62); (case hp => exact (Reps.one (show Kd.M (Kd.int .u8) _ _ _ 110 [.int .u8 110] from rfl) (Reps.one (show Kd.M (Kd.int .u8) _ _ _ 117 [.int .u8 117] from rfl) (Reps.one (show Kd.M (Kd.int .u8) _ _ _ 108 [.int .u8 108] from rfl) (Reps.one (show Kd.M (Kd.int .u8) _ _ _ 108 [.int .u8 108] from rfl) (Reps.none _ _)))))); intro v538 w60 ho61 hb hg_ hnew_; clear hg_ hnew_; (first | rw [← Ny537.out] at ho61 | (simp only [Int.reduceToNat] at ho61; rw [← Ny537.out] at ho61)); have n0_ := Aside0.mk (Kd.R_elder' Z25 (Kd.R_base ho61) hb); have n1_ := Aside0.mk (Kd.V_elder' Z107 (Kd.R_base ho61) hb); have n2_ := Aside0.mk (Kd.R_lower (Kd.R_new' (Kd.R_newM (M := fun k_ => (P0_ k_ ∨ w.heap.size ≤ k_)) ho61 Z35 (fun k_ h_ => .inr h_)) (Kd.R_lt Z25)) (below_size Z5)); have n3_ := Aside0.mk (Kept.below (S := (fun k_ => P0_ k_)) Z7 hb); have n4_ := Aside0.mk (below_step Z5 hb); clear HO_0; clear HO_1; clear HK; clear HB; have HO_0 := n0_; have HO_1 := n1_; have HO539 := n2_; have HK := n3_; have HB := n4_; clear n0_ n1_ n2_ n3_ n4_; clear hb ho61; obtain ⟨Ao63, co63, eo63⟩ := Kd.R_slice HO539.out; subst eo63) | ((with_reducible refine gate_builtin (b := .append) (xs := #[.tmp 149, .tmp 150]) rfl ?_); at_builtin; refine Kd.R_append_rows (Kd.int .u8) (w0 := w0) w0.heap.size rfl (.tmp 149) (.tmp 150) 39 5 (.int .u8 0) 1 rfl Try.underlying39 info5 rfl (by decide) (by omega) u9000_ l0 y537 _ _ _ (fun k_ => (P0_ k_ ∨ w.heap.size ≤ k_) ∧ some k_ ≠ (.slice Ao63 y537.length co63 : Value).ownBlock) (fun _ => False) rfl rfl ?aO ?aR (fun _ _ h => h) (fun _ h => h.elim) ?aF ?aB ?aS ?aL ?_; (case aR => repeat (first | exact (Kd.R_reads' HO539.out).2.2 | (with_reducible refine Kd.C_alloc ?_ _) | (with_reducible refine Kd.C_drewN ?_ _) | (with_reducible refine Kd.C_drew ?_))); (case aB => exact Z5); (case aF => exact (fun k_ hk => ⟨(.inr (Nat.le_trans Z35 hk)), Kd.fresh' (Kd.R_lt (by (with_reducible repeat (first | apply Kd.R_alloc | apply Kd.R_drewN | apply Kd.R_drew)); exact HO539.out)) k_ hk⟩)); (case aO => exact Z25); (case aS => exact (below_size Z5)); (case aL => have := LMc59.out; omega); intro v541 w62 ho hb hg hat; rw [← Ny540.out] at ho; have n0_ := Aside0.mk (Kd.V_afterv (ok := (fun k_ => ((P0_ k_ ∨ P1_ k_) ∨ w.heap.size ≤ k_) ∧ some k_ ≠ (.slice Ao63 y537.length co63 : Value).ownBlock)) Z144 hg hat); have n1_ := Aside0.mk (Kd.R_after (ok := (fun k_ => (P0_ k_ ∨ w.heap.size ≤ k_))) (by (with_reducible repeat (first | apply Kd.R_alloc | apply Kd.R_drewN | apply Kd.R_drew)); exact Kd.R_mono HO539.out (fun _ hk => ⟨hk.1.1, hk.2⟩)) hg hat); have n2_ := Aside0.mk (hb); have n3_ := Aside0.mk (Kept.of_grown (S := (fun k_ => P0_ k_)) hg Z7 (fun k_ e_ => (HO_0.out.1 k_ e_).1)); have n4_ := Aside0.mk (ho); clear HO_1; clear HO539; clear HB; clear HK; clear HO_0; have HO_1 := n0_; have HO539 := n1_; have HB := n2_; have HK := n3_; have HO542 := n4_; clear n0_ n1_ n2_ n3_ n4_; clear ho hb hg hat))
                   refine bodyPost_ret (results_list (rs := [.tmp 22, .tmp 23, .tmp 24, .tmp 25]) rfl (by simp) (.tmp (.tmp (.tmp (.tmp .nil))))) rfl ?_
                   exact ⟨_, Z15, by (with_reducible repeat (first | apply Kd.R_alloc | apply Kd.R_drewN | apply Kd.R_drew)); exact Kd.R_mono HO542.out (fun _ hk => hk.1), Z5, Z7⟩
                 ·rw [if_neg c59] at H
                  exact absurd H (by simp)
                ·rw [if_neg c58] at H
                 have c58b0 : ((rd l1 x2_1) == 110) = false := beq_eq_false_iff_ne.mpr c58
                 have c58b1 : ((rd l1 x2_1) != 110) = true := bne_iff_ne.mpr c58
                 ·
                  have H' := Aside0.mk H
                  clear H
                  have p510 : 0 ≤ (x2_1 : Int) := of_decide_eq_true Z11
                  have q510 : x2_1 < (l1.length : Int) := of_decide_eq_true Z11
                  obtain ⟨ad510, e510, hx510_0⟩ := Kd.at_int (Kd.V_reads' HO_1.out).2.2 x2_1 p510 q510
                  obtain rfl : ad480 = ad510 := (by injection e510)
                  replace p510 := eq_true p510
                  replace q510 := eq_true q510
                  have p517 : 0 ≤ (x2_1 : Int) := of_decide_eq_true Z11
                  have q517 : x2_1 < (l1.length : Int) := of_decide_eq_true Z11
                  obtain ⟨ad517, e517, hx517_0⟩ := Kd.at_int (Kd.V_reads' HO_1.out).2.2 x2_1 p517 q517
                  obtain rfl : ad480 = ad517 := (by injection e517)
                  replace p517 := eq_true p517
                  replace q517 := eq_true q517
                  have p524 : 0 ≤ (x2_1 : Int) := of_decide_eq_true Z11
                  have q524 : x2_1 < (l1.length : Int) := of_decide_eq_true Z11
                  obtain ⟨ad524, e524, hx524_0⟩ := Kd.at_int (Kd.V_reads' HO_1.out).2.2 x2_1 p524 q524
                  obtain rfl : ad480 = ad524 := (by injection e524)
                  replace p524 := eq_true p524
                  replace q524 := eq_true q524
                  go_wp2
                  go_roundg kj18
                  case measure => have := HK1.out; have := HJ18.out; omega
                  case rel => exact ⟨(wrap64 (x2_1 + 1)), Z16, H', ⟨by have := HK1.out; have := HJ18.out; omega⟩, ⟨Z41⟩, ⟨Z58⟩, ⟨Z7⟩, ⟨Z5⟩⟩
           ·rw [if_neg c37] at H
            exact absurd H (by simp)
          ·rw [if_neg c36] at H
           exact absurd H (by simp)
    ·rw [if_neg c13] at H
     exact absurd H (by simp)
   ·rw [if_neg c12] at H
    have c12b0 : decide (x2_1 < (l1.length : Int)) = false := decide_eq_false c12
    clear c12
    ·
     simp only [Option.some.injEq, Prod.mk.injEq] at H
     obtain ⟨rfl, rfl, rfl, rfl⟩ := H
     go_wp2
     refine bodyPost_ret (results_list (rs := [.tmp 22, .tmp 23, .tmp 24, .tmp 25]) rfl (by simp) (.tmp (.tmp (.tmp (.tmp .nil))))) rfl ?_
     exact ⟨_, Z15, Z25, Z5, Z7⟩
end Go.Proofs.Ytkbeiidjagodnaa.Pr

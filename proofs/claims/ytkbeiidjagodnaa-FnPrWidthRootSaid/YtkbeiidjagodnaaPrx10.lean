-- written by a program of this session (wip/tools), for this seat
import Derived.Test.YtkbeiidjagodnaaPrx0
namespace Go.Proofs.Ytkbeiidjagodnaa.Pr
open Go.RowKit Go.Proofs.YtkbeiidjagodnaaW.PrintWords Go.Proofs.YtkbeiidjagodnaaW.PrintLast Go.Proofs.YtkbeiidjagodnaaW.PrintMore
attribute [local go_sem] max2_int min2_int max_two min_two max_three min_three max_four min_four   -- for this text's walks alone
set_option linter.unusedVariables false
set_option linter.unusedSimpArgs false
/-! ### laws_prBlank: function 12 -/
mutual
def laws_prBlank.l0 : Nat → List ByteArray → Int → Int → Option (Bool)
 | 0, _, _, _ => none
 | k + 1, x10, x11, x12 => if x12 < x11 then (if 0 ≤ x12 then (if x12 < (x10.length : Int) then (laws_prBlank.l1 k (rdOf ByteArray.empty x10 x12) 0 x10 x11 x12) else (none)) else (none)) else (some true)
def laws_prBlank.l1 : Nat → ByteArray → Int → List ByteArray → Int → Int → Option (Bool)
 | 0, _, _, _, _, _ => none
 | k + 1, x4, x5, x10, x11, x12 => if x5 < (x4.size : Int) then (if 0 ≤ x5 then (if (bt x4 x5) = 32 then (laws_prBlank.l1 k x4 (wrap64 (x5 + 1)) x10 x11 x12) else (if (bt x4 x5) = 9 then (laws_prBlank.l1 k x4 (wrap64 (x5 + 1)) x10 x11 x12) else (some false))) else (none)) else (if (x4.size : Int) > 64 then (some false) else (laws_prBlank.l0 k x10 x11 (wrap64 (x12 + 1))))
end
def laws_prBlank.f (k : Nat) (a0_0 : Int) (a0_1 : ByteArray) (a0_2 : ByteArray) (a0_3 : Bool) : Option (Bool) := (some (([a0_1, a0_2] : List ByteArray) : List ByteArray)).bind fun y704 => (laws_prBlank.l0 k y704 (y704.length : Int) 0)
set_option maxHeartbeats 8000000 in
set_option maxRecDepth 100000 in
theorem laws_prBlank.calls (k : Nat) (a0_0 : Int) (a0_1 : ByteArray) (a0_2 : ByteArray) (a0_3 : Bool) (r : Bool) (w : World) (h : laws_prBlank.f k a0_0 a0_1 a0_2 a0_3 = some r) :
  Calls Try.prog 12 #[.agg #[.int .i64 a0_0, .string a0_1, .string a0_2, .bool a0_3]] w fun e w' => e = .returned (.bool r) ∧ Below w.heap.size w w' := by
 have hu31 := Try.underlying31
 have HB := Aside0.mk (Below.refl w.heap.size w)
 have H : ((some (([a0_1, a0_2] : List ByteArray) : List ByteArray)).bind fun y704 => (laws_prBlank.l0 k y704 (y704.length : Int) 0)) = some r := h
 clear h
 obtain ⟨y704, hy704⟩ : ∃ y_ : List ByteArray, y_ = (([a0_1, a0_2] : List ByteArray)) := ⟨_, rfl⟩
 replace H : (laws_prBlank.l0 k y704 (y704.length : Int) 0) = some r := by first | (rw [hy704]; with_reducible exact H) | (have H2_ := (Option.bind_some _ _).symm.trans H; rw [hy704]; with_reducible exact H2_) | (have H2_ := (Option.bind_some _ _).symm.trans H; with_reducible exact H2_) | with_reducible exact H | (rw [hy704]; exact H) | exact H
 have Ny704 := Aside0.mk hy704
 clear hy704
 have H' := Aside0.mk H
 clear H
 go_enter Try.func12, Try.ntmps12
 go_wp2_with (first | ((with_reducible refine gate_dst (N := 1) rfl ?_); refine box_event ?hg (N := 1) ?hd (cs := #[.int .i64 a0_0, .string a0_1, .string a0_2, .bool a0_3]) (t := 31) ?hr ?_; (case hd => rfl); (case hg => rfl); (case hr => exact Z62); intro gb703 hg w2 hbox hb; have n0_ := Aside0.mk (below_step Z5 hb); have n1_ := Aside0.mk (hbox); have n2_ := Aside0.mk ((by rw [hg]; exact (below_size Z5) : w.heap.size ≤ gb703)); have n3_ := Aside0.mk ((by rw [hg]; exact (below_size Z5) : w.heap.size ≤ gb703)); clear HB; have HB := n0_; have BK703 := n1_; have GW703 := n2_; have GE703 := n3_; clear n0_ n1_ n2_ n3_; clear hb hbox hg; have hcz3_0 : w2.cell? ⟨gb703, 0, none⟩ = some (.int .i64 a0_0) := (blk_cell BK703.out 0).trans rfl; have hcz3_1 : w2.cell? ⟨gb703, 1, none⟩ = some (.string a0_1) := (blk_cell BK703.out 1).trans rfl; have hcz3_2 : w2.cell? ⟨gb703, 2, none⟩ = some (.string a0_2) := (blk_cell BK703.out 2).trans rfl; have hcz3_3 : w2.cell? ⟨gb703, 3, none⟩ = some (.bool a0_3) := (blk_cell BK703.out 3).trans rfl; have hfz3_0 := blk_frozen BK703.out 0; have hfz3_1 := blk_frozen BK703.out 1; have hfz3_2 := blk_frozen BK703.out 2; have hfz3_3 := blk_frozen BK703.out 3) | ((with_reducible refine gate_dst (N := 10) rfl ?_); refine Kd.R_lit Kd.string _ 9 ?hg (N := 10) ?hd (xs := ([a0_1, a0_2] : List ByteArray)) (inner := [.string a0_1, .string a0_2]) (ok := fun _ => True) (okp := fun _ => True) ?hr ?hp (fun _ hk => hk) trivial (Below.refl _ _) (Nat.le_refl _) (by simp) ?_; (case hd => rfl); (case hg => rfl); (case hr => exact Z62); (case hp => exact (Reps.one (show Kd.M Kd.string _ _ _ a0_1 [.string a0_1] from rfl) (Reps.one (show Kd.M Kd.string _ _ _ a0_2 [.string a0_2] from rfl) (Reps.none _ _)))); intro v705 w4 ho5 hb hg_ hnew_; clear hg_ hnew_; (first | rw [← Ny704.out] at ho5 | (simp only [Int.reduceToNat] at ho5; rw [← Ny704.out] at ho5)); have n0_ := Aside0.mk (Kd.R_lower ho5 (below_size Z63)); have n1_ := Aside0.mk (blk_below (g := gb703) (o := .cells #[.int .i64 a0_0, .string a0_1, .string a0_2, .bool a0_3] 31 (0, 0)) Z111 hb); have n2_ := Aside0.mk (below_step Z63 hb); clear BK703; clear HB; have HO706 := n0_; have BK703 := n1_; have HB := n2_; clear n0_ n1_ n2_; clear hb ho5; obtain ⟨Ao6, co6, eo6⟩ := Kd.R_slice HO706.out; subst eo6))
 (try simp only [Act.put, List.setIfInBounds_toArray, List.set_cons_zero, List.set_cons_succ])
 go_loopg [12] k (fun kq v12 w' => ∃ (x12_1 : Int), v12 = .int .i64 x12_1 ∧ Aside0 (laws_prBlank.l0 kq y704 (y704.length : Int) x12_1 = some r) ∧ Aside0 (kq ≤ k) ∧ Aside0 (Kd.R Kd.string 9 w' w.heap.size (fun _ => True) (.slice Ao6 y704.length co6) y704) ∧ Aside0 (w'.heap[gb703]? = some (.cells #[.int .i64 a0_0, .string a0_1, .string a0_2, .bool a0_3] 31 (0, 0))) ∧ Aside0 (Below w.heap.size w w'))
 case atStart => exact ⟨(0), Z16, H', ⟨Nat.le_refl _⟩, ⟨by (with_reducible repeat (first | apply Kd.R_alloc | apply Kd.R_drewN | apply Kd.R_drew)); exact HO706.out⟩, ⟨Z111⟩, ⟨Z63⟩⟩
 case round =>
  clear H'
  try clear hcz3_0
  try clear hcz3_1
  try clear hcz3_2
  try clear hcz3_3
  try clear hfz3_0
  try clear hfz3_1
  try clear hfz3_2
  try clear hfz3_3
  obtain ⟨x12_1, rfl, HA, HK1, HO_10, BK703, HB⟩ := hrel
  cases gk with
  | zero => exact absurd HA.out (by simp [laws_prBlank.l0])
  | succ k1 =>
   have H := HA.out
   clear HA
   simp only [laws_prBlank.l0] at H
   by_cases c7 : x12_1 < (y704.length : Int)
   ·rw [if_pos c7] at H
    have c7b0 : decide (x12_1 < (y704.length : Int)) = true := decide_eq_true c7
    clear c7
    by_cases c8 : 0 ≤ x12_1
    ·rw [if_pos c8] at H
     have c8b0 : decide (0 ≤ x12_1) = true := decide_eq_true c8
     clear c8
     by_cases c9 : x12_1 < (y704.length : Int)
     ·rw [if_pos c9] at H
      have c9b0 : decide (x12_1 < (y704.length : Int)) = true := decide_eq_true c9
      clear c9
      have H' := Aside0.mk H
      clear H
      have p707 : 0 ≤ (x12_1 : Int) := of_decide_eq_true Z11
      have q707 : x12_1 < (y704.length : Int) := of_decide_eq_true Z11
      obtain ⟨ad707, e707, hx707_0⟩ := Kd.at_string (Kd.R_reads' HO_10.out).2.2 x12_1 p707 q707
      cases e707
      replace p707 := eq_true p707
      replace q707 := eq_true q707
      go_wp2
      (try simp only [Act.put, List.setIfInBounds_toArray, List.set_cons_zero, List.set_cons_succ])
      go_loopg [5] k1 (fun kq v5 w' => ∃ (x5_2 : Int), v5 = .int .i64 x5_2 ∧ Aside0 (laws_prBlank.l1 kq (rdOf ByteArray.empty y704 x12_1) x5_2 y704 (y704.length : Int) x12_1 = some r) ∧ Aside0 (kq ≤ k1) ∧ Aside0 (Kd.R Kd.string 9 w' w.heap.size (fun _ => True) (.slice (some ad707) y704.length co6) y704) ∧ Aside0 (w'.heap[gb703]? = some (.cells #[.int .i64 a0_0, .string a0_1, .string a0_2, .bool a0_3] 31 (0, 0))) ∧ Aside0 (Below w.heap.size w w'))
      case atStart => exact ⟨(0), Z16, H', ⟨Nat.le_refl _⟩, ⟨Z129⟩, ⟨Z111⟩, ⟨Z63⟩⟩
      case round =>
       clear H'
       try clear c7
       try clear c7b0
       try clear c8
       try clear c8b0
       try clear c9
       try clear c9b0
       try clear hcz3_0
       try clear hcz3_1
       try clear hcz3_2
       try clear hcz3_3
       try clear hfz3_0
       try clear hfz3_1
       try clear hfz3_2
       try clear hfz3_3
       try clear hx707_0
       try clear p707
       try clear q707
       obtain ⟨x5_2, rfl, HA, HK2, HO_10, BK703, HB⟩ := hrel
       cases gk with
       | zero => exact absurd HA.out (by simp [laws_prBlank.l1])
       | succ k2 =>
        have H := HA.out
        clear HA
        simp only [laws_prBlank.l1] at H
        by_cases c10 : x5_2 < ((rdOf ByteArray.empty y704 x12_1).size : Int)
        ·rw [if_pos c10] at H
         have c10b0 : decide (x5_2 < ((rdOf ByteArray.empty y704 x12_1).size : Int)) = true := decide_eq_true c10
         clear c10
         by_cases c11 : 0 ≤ x5_2
         ·rw [if_pos c11] at H
          have c11b0 : decide (0 ≤ x5_2) = true := decide_eq_true c11
          clear c11
          by_cases c13 : (bt (rdOf ByteArray.empty y704 x12_1) x5_2) = 32
          ·rw [if_pos c13] at H
           have c13b0 : ((bt (rdOf ByteArray.empty y704 x12_1) x5_2) == 32) = true := beq_iff_eq.mpr c13
           have c13b1 : ((bt (rdOf ByteArray.empty y704 x12_1) x5_2) != 32) = false := bne_eq_false_iff_eq.mpr c13
           clear c13
           ·
            have H' := Aside0.mk H
            clear H
            have p12 : 0 ≤ (x5_2 : Int) := of_decide_eq_true Z11
            have q12 : x5_2 < ((rdOf ByteArray.empty y704 x12_1).size : Int) := of_decide_eq_true Z11
            have hx12 := bt_at (rdOf ByteArray.empty y704 x12_1) x5_2
            replace p12 := eq_true p12
            replace q12 := eq_true q12
            go_wp2
            go_roundg k2
            case measure => have := HK1.out; have := HK2.out; omega
            case rel => exact ⟨(wrap64 (x5_2 + 1)), Z16, H', ⟨Z172⟩, ⟨Z129⟩, ⟨Z111⟩, ⟨Z63⟩⟩
          ·rw [if_neg c13] at H
           have c13b0 : ((bt (rdOf ByteArray.empty y704 x12_1) x5_2) == 32) = false := beq_eq_false_iff_ne.mpr c13
           have c13b1 : ((bt (rdOf ByteArray.empty y704 x12_1) x5_2) != 32) = true := bne_iff_ne.mpr c13
           by_cases c15 : (bt (rdOf ByteArray.empty y704 x12_1) x5_2) = 9
           ·rw [if_pos c15] at H
            have c15b0 : ((bt (rdOf ByteArray.empty y704 x12_1) x5_2) == 9) = true := beq_iff_eq.mpr c15
            have c15b1 : ((bt (rdOf ByteArray.empty y704 x12_1) x5_2) != 9) = false := bne_eq_false_iff_eq.mpr c15
            clear c15
            ·
             have H' := Aside0.mk H
             clear H
             have p12 : 0 ≤ (x5_2 : Int) := of_decide_eq_true Z11
             have q12 : x5_2 < ((rdOf ByteArray.empty y704 x12_1).size : Int) := of_decide_eq_true Z11
             have hx12 := bt_at (rdOf ByteArray.empty y704 x12_1) x5_2
             replace p12 := eq_true p12
             replace q12 := eq_true q12
             have p14 : 0 ≤ (x5_2 : Int) := of_decide_eq_true Z11
             have q14 : x5_2 < ((rdOf ByteArray.empty y704 x12_1).size : Int) := of_decide_eq_true Z11
             have hx14 := bt_at (rdOf ByteArray.empty y704 x12_1) x5_2
             replace p14 := eq_true p14
             replace q14 := eq_true q14
             go_wp2
             go_roundg k2
             case measure => have := HK1.out; have := HK2.out; omega
             case rel => exact ⟨(wrap64 (x5_2 + 1)), Z16, H', ⟨Z172⟩, ⟨Z129⟩, ⟨Z111⟩, ⟨Z63⟩⟩
           ·rw [if_neg c15] at H
            have c15b0 : ((bt (rdOf ByteArray.empty y704 x12_1) x5_2) == 9) = false := beq_eq_false_iff_ne.mpr c15
            have c15b1 : ((bt (rdOf ByteArray.empty y704 x12_1) x5_2) != 9) = true := bne_iff_ne.mpr c15
            ·
             obtain rfl := Option.some.inj H
             have p12 : 0 ≤ (x5_2 : Int) := of_decide_eq_true Z11
             have q12 : x5_2 < ((rdOf ByteArray.empty y704 x12_1).size : Int) := of_decide_eq_true Z11
             have hx12 := bt_at (rdOf ByteArray.empty y704 x12_1) x5_2
             replace p12 := eq_true p12
             replace q12 := eq_true q12
             have p14 : 0 ≤ (x5_2 : Int) := of_decide_eq_true Z11
             have q14 : x5_2 < ((rdOf ByteArray.empty y704 x12_1).size : Int) := of_decide_eq_true Z11
             have hx14 := bt_at (rdOf ByteArray.empty y704 x12_1) x5_2
             replace p14 := eq_true p14
             replace q14 := eq_true q14
             go_wp2
             go_ret
             exact ⟨Z15, Z63⟩
         ·rw [if_neg c11] at H
          exact absurd H (by simp)
        ·rw [if_neg c10] at H
         have c10b0 : decide (x5_2 < ((rdOf ByteArray.empty y704 x12_1).size : Int)) = false := decide_eq_false c10
         clear c10
         by_cases c16 : ((rdOf ByteArray.empty y704 x12_1).size : Int) > 64
         ·rw [if_pos c16] at H
          have c16b0 : decide (64 < ((rdOf ByteArray.empty y704 x12_1).size : Int)) = true := decide_eq_true c16
          have c16b1 : decide (64 < (rdOf ByteArray.empty y704 x12_1).size) = true := decide_eq_true (by omega)
          clear c16
          ·
           obtain rfl := Option.some.inj H
           go_wp2
           go_ret
           exact ⟨Z15, Z63⟩
         ·rw [if_neg c16] at H
          have c16b0 : decide (64 < ((rdOf ByteArray.empty y704 x12_1).size : Int)) = false := decide_eq_false c16
          have c16b1 : decide (64 < (rdOf ByteArray.empty y704 x12_1).size) = false := decide_eq_false (by omega)
          clear c16
          ·
           have H' := Aside0.mk H
           clear H
           go_wp2
           go_roundg k2
           case measure => have := HK1.out; have := HK2.out; omega
           case rel => exact ⟨(wrap64 (x12_1 + 1)), Z16, H', ⟨Z172⟩, ⟨Z129⟩, ⟨Z111⟩, ⟨Z63⟩⟩
     ·rw [if_neg c9] at H
      exact absurd H (by simp)
    ·rw [if_neg c8] at H
     exact absurd H (by simp)
   ·rw [if_neg c7] at H
    have c7b0 : decide (x12_1 < (y704.length : Int)) = false := decide_eq_false c7
    clear c7
    ·
     obtain rfl := Option.some.inj H
     go_wp2
     go_ret
     exact ⟨Z15, Z63⟩
end Go.Proofs.Ytkbeiidjagodnaa.Pr

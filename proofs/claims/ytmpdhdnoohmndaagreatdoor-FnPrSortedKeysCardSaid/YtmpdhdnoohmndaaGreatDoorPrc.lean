import Derived.Test.YtmpdhdnoohmndaaGreatDoorZip
import Derived.Test.YtmpdhdnoohmndaaGreatDoorPny
namespace Go.Proofs.YtmpdhdnoohmndaaGreatDoor.Gj
open Go.RowKit Go.Proofs.YtmpdhdnoohmndaaGreatDoorW.PrintWords Go.Proofs.YtmpdhdnoohmndaaGreatDoorW.PrintLast Go.Proofs.YtmpdhdnoohmndaaGreatDoorW.PrintMore Sp Dec
attribute [local go_sem] run_store_float max2_int min2_int max_two min_two max_three min_three max_four min_four
set_option linter.unusedVariables false
set_option linter.unusedSimpArgs false
set_option maxRecDepth 100000
set_option maxHeartbeats 40000000 in
theorem parse_calls (s S : au) (b : Nat) (w : World) (hs : s.size ≤ 10000000000) (hb : b < s.size) (hv : at_ s b = 123) (hS : s.extract b s.size = S) (hbl : ∀ q, q < b → at_ s q ≤ 32) :
  Calls Tryz.prog 15 #[.string s] w fun r w' => ∃ (j : Int), r = .returned (.agg #[.int .i64 5, .string S, .string ⟨#[]⟩, .float .f64 0, .int .i64 j, .slice none 0 0]) ∧ Below w.heap.size w w' := by
 have HS := aa (And.intro hs (And.intro hb hbl))
 have HV := aa hv
 have HX := aa hS
 clear hs hb hv hS hbl
 go_enter Tryz.func15, Tryz.ntmps15
 go_wp2_with (first | (refine aw 2 (c6 0 ⟨#[]⟩ ⟨#[]⟩ 0 0) 46 ?_; intro b2 hg w1 hz hb; have HB1 := aa hb; have Z21 := aa hz; have G2 := aa (Nat.le_of_eq hg.symm); clear hb hz hg) | (refine aw 3 (c6 0 ⟨#[]⟩ ⟨#[]⟩ 0 0) 46 ?_; intro b3 hg w2 hz hb; have X := aa (show P3 w b2 b3 _ w2 from ⟨hz, blk_below Z21.out hb, below_step HB1.out hb, by have := blk_lt Z21.out; have := G2.out; omega, by have := blk_lt Z21.out; omega, G2.out⟩); clear HB1 Z21 hb hz hg))
 (try simp only [Act.put, ao, ap, aq])
 go_loopg [4] s.size (fun kq v4 wd => ∃ (z : Int) (q : Nat), v4 = .int .i64 z ∧ Aside0 (z = q ∧ q ≤ b ∧ b ≤ kq + q) ∧ Aside0 (wd = w2))
 case atStart => exact ⟨_, 0, rfl, ⟨rfl, Nat.zero_le _, by have := HS.out.2.1; omega⟩, ⟨rfl⟩⟩
 case round =>
  obtain ⟨z, q, rfl, HQ, ⟨rfl⟩⟩ := hrel
  have h60 : (0 ≤ z) = True := af (by have := HQ.out.1; omega)
  have c1 : decide (z < (s.size : Int)) = true := ac (by have := HQ.out.1; have := HQ.out.2.1; have := HS.out.2.1; omega)
  have h61 : (z < (s.size : Int)) = True := af (ab c1)
  obtain ⟨y, f0, hy⟩ := wr1 HQ.out.1 Z44
  by_cases hqb : q < b
  ·cases gk with
   | zero => exact absurd hqb (by have := HQ.out.2.2; omega)
   | succ gj =>
   obtain ⟨v, hv⟩ : ∃ v, at_ s q = v := ⟨_, rfl⟩
   have hx : ∀ h : z.toNat < s.size, ((s[z.toNat]'h).toNat : Int) = v := fun h => by rw [← hv]; exact at_gt s z q HQ.out.1 h
   have hr := HS.out.2.2 q hqb
   rw [hv] at hr
   have d1 : (v == 123) = false := ag (by omega)
   have d2 : (v == 91) = false := ag (by omega)
   have d3 : decide (v ≤ 32) = true := ac hr
   clear hr hv
   go_wp2_with (fail)
   go_roundg gj
   case measure => exact Nat.lt_succ_self gj
   case rel => exact ⟨_, q + 1, rfl, ⟨hy.out, by omega, by have := HQ.out.2.2; omega⟩, ⟨rfl⟩⟩
  ·obtain rfl : q = b := by have := HQ.out.2.1; omega
   have hz : s.extract z.toNat s.size = S := by rw [← HX.out]; congr 1; have := HQ.out.1; omega
   have h62 : (z ≤ (s.size : Int)) = True := af (by have := ab c1; omega)
   have hx : ∀ h : z.toNat < s.size, ((s[z.toNat]'h).toNat : Int) = 123 := fun h => by rw [← HV.out]; exact at_gt s z q HQ.out.1 h
   have n23 : b2 ≠ b3 := X.out.n
   obtain ⟨r_0, r_1, r_2, r_3, r_4, r_5, rf_0, rf_1, rf_2, rf_3, rf_4, rf_5⟩ := cz6 X.out.z3
   go_upto_region 43 with (fail)
   have X6 := aa ((X.out.put (cs' := c6 5 ⟨#[]⟩ ⟨#[]⟩ 0 0) 0 (.int .i64 5) rfl).put (cs' := c6 5 S ⟨#[]⟩ 0 0) 1 (.string S) rfl)
   generalize ((wr.setCell ⟨b3, 0, none⟩ (.int .i64 5)).setCell ⟨b3, 1, none⟩ (.string S)) = w6 at X6 ⊢
   clear r_0 r_1 r_2 r_3 r_4 r_5 rf_0 rf_1 rf_2 rf_3 rf_4 rf_5
   obtain ⟨r_0, r_1, r_2, r_3, r_4, r_5, rf_0, rf_1, rf_2, rf_3, rf_4, rf_5⟩ := cz6 X6.out.z3
   go_wp2_with (fail)
   refine (exists_true 5 S _ _ 0 (.slice none 0 0) _ (by decide)).mono ?_
   rintro e w7 ⟨rfl, hb⟩
   have X7 := aa (X6.out.below hb)
   clear hb X6 r_0 r_1 r_2 r_3 r_4 r_5 rf_0 rf_1 rf_2 rf_3 rf_4 rf_5
   obtain ⟨r_0, r_1, r_2, r_3, r_4, r_5, rf_0, rf_1, rf_2, rf_3, rf_4, rf_5⟩ := cz6 X7.out.z3
   obtain ⟨s_0, s_1, s_2, s_3, s_4, s_5, sf_0, sf_1, sf_2, sf_3, sf_4, sf_5⟩ := cz6 X7.out.z2
   go_wp2_with (fail)
   refine bodyPost_ret (results_cell_row rfl _ _ b2 46 (c6 5 S _ _ z) (0, 0) _ rfl (blk_put (blk_put (blk_put (blk_put (blk_put (blk_put (blk_far (p := ⟨b3, 4, none⟩) X7.out.z2 n23 _) 0 _ rfl) 1 _ rfl) 2 _ rfl) 3 _ rfl) 4 _ rfl) 5 _ rfl) Tryz.underlying46 rfl (by kernel_rfl)) rfl ?_
   exact ⟨z, rfl, (below_set (below_set (below_set (below_set (below_set (below_set (below_set X7.out.hb X7.out.g) G2.out) G2.out) G2.out) G2.out) G2.out) G2.out)⟩
end Go.Proofs.YtmpdhdnoohmndaaGreatDoor.Gj

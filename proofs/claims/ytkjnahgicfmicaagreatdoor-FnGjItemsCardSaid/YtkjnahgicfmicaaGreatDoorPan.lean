import Derived.Test.YtkjnahgicfmicaaGreatDoorZip
import Derived.Test.YtkjnahgicfmicaaGreatDoorFea
import Derived.Test.YtkjnahgicfmicaaGreatDoorQj
namespace Go.Proofs.YtkjnahgicfmicaaGreatDoor.Gj
open Go.RowKit Go.Proofs.YtkjnahgicfmicaaGreatDoorW.PrintWords Go.Proofs.YtkjnahgicfmicaaGreatDoorW.PrintLast Go.Proofs.YtkjnahgicfmicaaGreatDoorW.PrintMore Sp Dec
attribute [local go_sem] run_store_float max2_int min2_int max_two min_two max_three min_three max_four min_four
set_option linter.unusedVariables false
set_option linter.unusedSimpArgs false
theorem pf_calls (s : ByteArray) (w : World) (hs : NumText s) (hW : Wok w) : Calls Tryz.prog 59 #[.string s, .int .i64 64] w (PFPost w) := by
 obtain ⟨L, P0, G, hS⟩ := hW.std
 exact parsefloat_calls s w L P0 G hs hS hW.errs
def PanPost (T : ByteArray) (j : Int) (w : World) (e : Ending) (w' : World) : Prop :=
 ∃ f : Nat, e = .returned (.tuple #[.int .i64 j, .agg #[.int .i64 2, .string T, .string ⟨#[]⟩, .float .f64 f, .int .i64 0, .slice none 0 0], .bool true]) ∧ Below w.heap.size w w'
set_option maxRecDepth 100000 in
set_option maxHeartbeats 40000000 in
theorem pany_num (R T : ByteArray) (x j v : Int) (k : Nat) (w : World) (hW : Wok w) (h0 : 0 ≤ x) (h1 : x < R.size) (hv : bt R x = v) (hd : v = 45 ∨ v = 48 ∨ v = 49 ∨ v = 50 ∨ v = 51 ∨ v = 52 ∨ v = 53 ∨ v = 54 ∨ v = 55 ∨ v = 56 ∨ v = 57)
  (hp : bH.f k R x = some (j, T)) (hT : NumText T) :
  Calls Tryz.prog 50 #[.string R, .int .i64 x, .bool true] w (PanPost T j w) := by
 have HW := Aside0.mk hW
 have HP := Aside0.mk hp
 have HT := Aside0.mk hT
 have c1 : decide (x < (R.size : Int)) = true := decide_eq_true h1
 have c2 : (x < (R.size : Int)) = True := eq_true h1
 have c3 : (0 ≤ x) = True := eq_true h0
 have hx : ∀ h : x.toNat < R.size, ((R[x.toNat]'h).toNat : Int) = v := fun h => by rw [← hv]; exact bt_at R x h
 clear hW hp hT h0 h1 hv
 go_enter Tryz.func50, Tryz.ntmps50
 go_wp2_with (first | ((with_reducible refine gate_dst (N := 7) rfl ?_); refine box_event ?hg (N := 7) ?hd (cs := #[.int .i64 0, .string (⟨#[]⟩ : ByteArray), .string (⟨#[]⟩ : ByteArray), .float .f64 (0 : Nat), .int .i64 0, .slice none 0 0]) (t := 55) ?hr ?_; (case hd => rfl); (case hg => rfl); (case hr => exact Z14); intro b7 hg w1 hz hb; have HB := Aside0.mk hb; have Z7 := Aside0.mk hz; have G7 := Aside0.mk (Nat.le_of_eq hg.symm); clear hb hz hg) | ((with_reducible refine gate_dst (N := 9) rfl ?_); refine box_event ?hg (N := 9) ?hd (cs := #[.int .i64 0, .string (⟨#[]⟩ : ByteArray), .string (⟨#[]⟩ : ByteArray), .float .f64 (0 : Nat), .int .i64 0, .slice none 0 0]) (t := 55) ?hr ?_; (case hd => rfl); (case hg => rfl); (case hr => exact Z14); intro b9 hg w2 hz hb; have HB2 := Aside0.mk (below_step HB.out hb); have Z72 := Aside0.mk (blk_below Z7.out hb); have Z9 := Aside0.mk hz; have G9 := Aside0.mk (show b7 < b9 by have := blk_lt Z7.out; omega); clear HB Z7 hb hz hg))
 (try simp only [Act.put, List.setIfInBounds_toArray, List.set_cons_zero, List.set_cons_succ])
 go_loopg [1] 0 (fun kq v1 wd => v1 = .int .i64 x ∧ Aside0 (wd = w2))
 case atStart => exact ⟨rfl, ⟨rfl⟩⟩
 case round =>
  obtain ⟨rfl, ⟨rfl⟩⟩ := hrel
  have HD := Aside0.mk hd
  have HGE := Aside0.mk (show w.heap.size ≤ b9 from Nat.le_trans G7.out (Nat.le_of_lt G9.out))
  have n79 : b7 ≠ b9 := Nat.ne_of_lt G9.out
  have n97 : b9 ≠ b7 := Ne.symm n79
  have r_0 : wr.cell? ⟨b9, 0, none⟩ = some (.int .i64 0) := (blk_cell Z9.out 0).trans rfl; have rf_0 := blk_frozen Z9.out 0; have r_1 : wr.cell? ⟨b9, 1, none⟩ = some (.string (⟨#[]⟩ : ByteArray)) := (blk_cell Z9.out 1).trans rfl; have rf_1 := blk_frozen Z9.out 1; have r_2 : wr.cell? ⟨b9, 2, none⟩ = some (.string (⟨#[]⟩ : ByteArray)) := (blk_cell Z9.out 2).trans rfl; have rf_2 := blk_frozen Z9.out 2; have r_3 : wr.cell? ⟨b9, 3, none⟩ = some (.float .f64 (0 : Nat)) := (blk_cell Z9.out 3).trans rfl; have rf_3 := blk_frozen Z9.out 3; have r_4 : wr.cell? ⟨b9, 4, none⟩ = some (.int .i64 0) := (blk_cell Z9.out 4).trans rfl; have rf_4 := blk_frozen Z9.out 4; have r_5 : wr.cell? ⟨b9, 5, none⟩ = some (.slice none 0 0) := (blk_cell Z9.out 5).trans rfl; have rf_5 := blk_frozen Z9.out 5
  rcases hd with rfl | rfl | rfl | rfl | rfl | rfl | rfl | rfl | rfl | rfl | rfl
  all_goals
   go_wp2_with (fail)
   refine (bH.calls k R x j T _ HP.out).mono ?_
   rintro e w3 ⟨rfl, ⟨nd, rfl⟩⟩
   have hbel := below_set (j := 0) (v := .int .i64 2) (below_set (j := 1) (v := .string T) (pw_below_drewN HB2.out nd) HGE.out) HGE.out
   have HBE := Aside0.mk hbel
   clear hbel
   go_wp2_with (fail)
   refine (pf_calls T _ HT.out (HW.out.below HBE.out)).mono ?_
   rintro e w5 ⟨f, u, rfl, hb⟩
   have Z95 := Aside0.mk (blk_below (blk_put (cs' := #[.int .i64 2, .string T, .string (⟨#[]⟩ : ByteArray), .float .f64 (0 : Nat), .int .i64 0, .slice none 0 0]) (blk_put (cs' := #[.int .i64 0, .string T, .string (⟨#[]⟩ : ByteArray), .float .f64 (0 : Nat), .int .i64 0, .slice none 0 0]) (blk_drewN Z9.out nd) 1 _ rfl) 0 _ rfl) hb)
   have Z75 := Aside0.mk (blk_below (blk_far (blk_far (blk_drewN Z72.out nd) n79 _) n79 _) hb)
   have HB5 := Aside0.mk (below_step HBE.out hb)
   clear hb HBE Z9 Z72 HB2 r_0 rf_0 r_1 rf_1 r_2 rf_2 r_3 rf_3 r_4 rf_4 r_5 rf_5
   have r_0 : w5.cell? ⟨b9, 0, none⟩ = some (.int .i64 2) := (blk_cell Z95.out 0).trans rfl; have rf_0 := blk_frozen Z95.out 0; have r_1 : w5.cell? ⟨b9, 1, none⟩ = some (.string T) := (blk_cell Z95.out 1).trans rfl; have rf_1 := blk_frozen Z95.out 1; have r_2 : w5.cell? ⟨b9, 2, none⟩ = some (.string (⟨#[]⟩ : ByteArray)) := (blk_cell Z95.out 2).trans rfl; have rf_2 := blk_frozen Z95.out 2; have r_3 : w5.cell? ⟨b9, 3, none⟩ = some (.float .f64 (0 : Nat)) := (blk_cell Z95.out 3).trans rfl; have rf_3 := blk_frozen Z95.out 3; have r_4 : w5.cell? ⟨b9, 4, none⟩ = some (.int .i64 0) := (blk_cell Z95.out 4).trans rfl; have rf_4 := blk_frozen Z95.out 4; have r_5 : w5.cell? ⟨b9, 5, none⟩ = some (.slice none 0 0) := (blk_cell Z95.out 5).trans rfl; have rf_5 := blk_frozen Z95.out 5
   have s_0 : w5.cell? ⟨b7, 0, none⟩ = some (.int .i64 0) := (blk_cell Z75.out 0).trans rfl; have sf_0 := blk_frozen Z75.out 0; have s_1 : w5.cell? ⟨b7, 1, none⟩ = some (.string (⟨#[]⟩ : ByteArray)) := (blk_cell Z75.out 1).trans rfl; have sf_1 := blk_frozen Z75.out 1; have s_2 : w5.cell? ⟨b7, 2, none⟩ = some (.string (⟨#[]⟩ : ByteArray)) := (blk_cell Z75.out 2).trans rfl; have sf_2 := blk_frozen Z75.out 2; have s_3 : w5.cell? ⟨b7, 3, none⟩ = some (.float .f64 (0 : Nat)) := (blk_cell Z75.out 3).trans rfl; have sf_3 := blk_frozen Z75.out 3; have s_4 : w5.cell? ⟨b7, 4, none⟩ = some (.int .i64 0) := (blk_cell Z75.out 4).trans rfl; have sf_4 := blk_frozen Z75.out 4; have s_5 : w5.cell? ⟨b7, 5, none⟩ = some (.slice none 0 0) := (blk_cell Z75.out 5).trans rfl; have sf_5 := blk_frozen Z75.out 5
   go_upto_region 67 with (fail)
   go_region
   all_goals (try go_wp2_with (fail))
   refine bodyPost_ret (results_list (rs := [.tmp 6, .cell 7 55, .tmp 8]) rfl (by simp) (.tmp (.cell b7 55 #[.int .i64 2, .string T, .string (⟨#[]⟩ : ByteArray), .float .f64 f, .int .i64 0, .slice none 0 0] (0, 0) _ rfl
    (blk_drew (blk_put (blk_put (blk_put (blk_put (blk_put (blk_put (blk_far Z75.out n79 _) 0 _ rfl) 1 _ rfl) 2 _ rfl) 3 _ rfl) 4 _ rfl) 5 _ rfl)) Tryz.underlying55 rfl (by kernel_rfl) (.tmp .nil)))) rfl ?_
   exact ⟨f, rfl, below_drew1 (below_set (below_set (below_set (below_set (below_set (below_set (below_set HB5.out HGE.out) G7.out) G7.out) G7.out) G7.out) G7.out) G7.out)⟩
end Go.Proofs.YtkjnahgicfmicaaGreatDoor.Gj

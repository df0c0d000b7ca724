import Derived.Test.YtkjnahgicfmicaaGreatDoorZip
import Derived.Test.YtkjnahgicfmicaaGreatDoorFea
import Derived.Test.YtkjnahgicfmicaaGreatDoorQj
import Derived.Test.YtkjnahgicfmicaaGreatDoorUne
import Derived.Test.YtkjnahgicfmicaaGreatDoorQa
namespace Go.Proofs.YtkjnahgicfmicaaGreatDoor.Gj
open Go.RowKit Go.PW Go.PL Go.PM Sp Dec
section
attribute [local go_sem] run_store_float max2_int min2_int max_two min_two max_three min_three max_four min_four
set_option linter.unusedVariables false
set_option linter.unusedSimpArgs false
theorem pf_calls (s : av) (w : World) (hs : NumText s) (hW : Wok w) : Calls Tryz.prog 59 #[.string s, .int .i64 64] w (PFPost w) := by
 obtain ⟨L, P0, G, hS⟩ := hW.std
 exact parsefloat_calls s w L P0 G hs hS hW.errs
def PanPost (T : av) (j : Int) (w : World) (e : Ending) (w' : World) : Prop :=
 ∃ f : Nat, e = .returned (.tuple #[.int .i64 j, .agg #[.int .i64 2, .string T, .string ⟨#[]⟩, .float .f64 f, .int .i64 0, .slice none 0 0], .bool true]) ∧ Below w.heap.size w w'
set_option maxRecDepth 100000 in
set_option maxHeartbeats 40000000 in
theorem pany_num (R T : av) (x j v : Int) (k : Nat) (w : World) (hW : Wok w) (h0 : 0 ≤ x) (h1 : x < R.size) (hv : bt R x = v) (hd : v = 45 ∨ v = 48 ∨ v = 49 ∨ v = 50 ∨ v = 51 ∨ v = 52 ∨ v = 53 ∨ v = 54 ∨ v = 55 ∨ v = 56 ∨ v = 57)
  (hp : bO.f k R x = some (j, T)) (hT : NumText T) :
  Calls Tryz.prog 50 #[.string R, .int .i64 x, .bool true] w (PanPost T j w) := by
 have HW := ab hW
 have HP := ab hp
 have HT := ab hT
 have c1 : decide (x < (R.size : Int)) = true := ae h1
 have c2 : (x < (R.size : Int)) = True := ag h1
 have c3 : (0 ≤ x) = True := ag h0
 have hx : ∀ h : x.toNat < R.size, ((R[x.toNat]'h).toNat : Int) = v := fun h => by rw [← hv]; exact bt_at R x h
 clear hW hp hT h0 h1 hv
 go_enter Tryz.func50, Tryz.ntmps50
 go_wp2_with (first | (refine ax 7 #[.int .i64 0, .string (⟨#[]⟩ : av), .string (⟨#[]⟩ : av), .float .f64 (0 : Nat), .int .i64 0, .slice none 0 0] 55 ?_; intro b7 hg w1 hz hb; have HB := ab hb; have Z7 := ab hz; have G7 := ab (Nat.le_of_eq hg.symm); clear hb hz hg) | (refine ax 9 #[.int .i64 0, .string (⟨#[]⟩ : av), .string (⟨#[]⟩ : av), .float .f64 (0 : Nat), .int .i64 0, .slice none 0 0] 55 ?_; intro b9 hg w2 hz hb; have HB2 := ab (below_step HB.out hb); have Z72 := ab (blk_below Z7.out hb); have Z9 := ab hz; have G9 := ab (show b7 < b9 by have := blk_lt Z7.out; omega); clear HB Z7 hb hz hg))
 (try simp only [Act.put, ap, aq, ar])
 go_loopg [1] 0 (fun kq v1 wd => v1 = .int .i64 x ∧ Aside0 (wd = w2))
 case atStart => exact ⟨rfl, ⟨rfl⟩⟩
 case round =>
  obtain ⟨rfl, ⟨rfl⟩⟩ := hrel
  have HD := ab hd
  have HGE := ab (show w.heap.size ≤ b9 from Nat.le_trans G7.out (Nat.le_of_lt G9.out))
  have n79 : b7 ≠ b9 := Nat.ne_of_lt G9.out
  have n97 : b9 ≠ b7 := Ne.symm n79
  have r_0 : wr.cell? ⟨b9, 0, none⟩ = some (.int .i64 0) := (ay Z9.out 0); have rf_0 := blk_frozen Z9.out 0; have r_1 : wr.cell? ⟨b9, 1, none⟩ = some (.string (⟨#[]⟩ : av)) := (ay Z9.out 1); have rf_1 := blk_frozen Z9.out 1; have r_2 : wr.cell? ⟨b9, 2, none⟩ = some (.string (⟨#[]⟩ : av)) := (ay Z9.out 2); have rf_2 := blk_frozen Z9.out 2; have r_3 : wr.cell? ⟨b9, 3, none⟩ = some (.float .f64 (0 : Nat)) := (ay Z9.out 3); have rf_3 := blk_frozen Z9.out 3; have r_4 : wr.cell? ⟨b9, 4, none⟩ = some (.int .i64 0) := (ay Z9.out 4); have rf_4 := blk_frozen Z9.out 4; have r_5 : wr.cell? ⟨b9, 5, none⟩ = some (.slice none 0 0) := (ay Z9.out 5); have rf_5 := blk_frozen Z9.out 5
  rcases hd with rfl | rfl | rfl | rfl | rfl | rfl | rfl | rfl | rfl | rfl | rfl
  all_goals
   go_wp2_with (fail)
   refine (bO.calls k R x j T _ HP.out).mono ?_
   rintro e w3 ⟨rfl, ⟨nd, rfl⟩⟩
   have hbel := below_set (j := 0) (v := .int .i64 2) (below_set (j := 1) (v := .string T) (pw_below_drewN HB2.out nd) HGE.out) HGE.out
   have HBE := ab hbel
   clear hbel
   go_wp2_with (fail)
   refine (pf_calls T _ HT.out (HW.out.below HBE.out)).mono ?_
   rintro e w5 ⟨f, u, rfl, hb⟩
   have Z95 := ab (blk_below (blk_put (cs' := #[.int .i64 2, .string T, .string (⟨#[]⟩ : av), .float .f64 (0 : Nat), .int .i64 0, .slice none 0 0]) (blk_put (cs' := #[.int .i64 0, .string T, .string (⟨#[]⟩ : av), .float .f64 (0 : Nat), .int .i64 0, .slice none 0 0]) (blk_drewN Z9.out nd) 1 _ rfl) 0 _ rfl) hb)
   have Z75 := ab (blk_below (blk_far (blk_far (blk_drewN Z72.out nd) n79 _) n79 _) hb)
   have HB5 := ab (below_step HBE.out hb)
   clear hb HBE Z9 Z72 HB2 r_0 rf_0 r_1 rf_1 r_2 rf_2 r_3 rf_3 r_4 rf_4 r_5 rf_5
   have r_0 : w5.cell? ⟨b9, 0, none⟩ = some (.int .i64 2) := (ay Z95.out 0); have rf_0 := blk_frozen Z95.out 0; have r_1 : w5.cell? ⟨b9, 1, none⟩ = some (.string T) := (ay Z95.out 1); have rf_1 := blk_frozen Z95.out 1; have r_2 : w5.cell? ⟨b9, 2, none⟩ = some (.string (⟨#[]⟩ : av)) := (ay Z95.out 2); have rf_2 := blk_frozen Z95.out 2; have r_3 : w5.cell? ⟨b9, 3, none⟩ = some (.float .f64 (0 : Nat)) := (ay Z95.out 3); have rf_3 := blk_frozen Z95.out 3; have r_4 : w5.cell? ⟨b9, 4, none⟩ = some (.int .i64 0) := (ay Z95.out 4); have rf_4 := blk_frozen Z95.out 4; have r_5 : w5.cell? ⟨b9, 5, none⟩ = some (.slice none 0 0) := (ay Z95.out 5); have rf_5 := blk_frozen Z95.out 5
   have s_0 : w5.cell? ⟨b7, 0, none⟩ = some (.int .i64 0) := (ay Z75.out 0); have sf_0 := blk_frozen Z75.out 0; have s_1 : w5.cell? ⟨b7, 1, none⟩ = some (.string (⟨#[]⟩ : av)) := (ay Z75.out 1); have sf_1 := blk_frozen Z75.out 1; have s_2 : w5.cell? ⟨b7, 2, none⟩ = some (.string (⟨#[]⟩ : av)) := (ay Z75.out 2); have sf_2 := blk_frozen Z75.out 2; have s_3 : w5.cell? ⟨b7, 3, none⟩ = some (.float .f64 (0 : Nat)) := (ay Z75.out 3); have sf_3 := blk_frozen Z75.out 3; have s_4 : w5.cell? ⟨b7, 4, none⟩ = some (.int .i64 0) := (ay Z75.out 4); have sf_4 := blk_frozen Z75.out 4; have s_5 : w5.cell? ⟨b7, 5, none⟩ = some (.slice none 0 0) := (ay Z75.out 5); have sf_5 := blk_frozen Z75.out 5
   go_upto_region 67 with (fail)
   go_region
   all_goals (try go_wp2_with (fail))
   refine bodyPost_ret (results_list (rs := [.tmp 6, .cell 7 55, .tmp 8]) rfl (by simp) (.tmp (.cell b7 55 #[.int .i64 2, .string T, .string (⟨#[]⟩ : av), .float .f64 f, .int .i64 0, .slice none 0 0] (0, 0) _ rfl
    (blk_drew (blk_put (blk_put (blk_put (blk_put (blk_put (blk_put (blk_far Z75.out n79 _) 0 _ rfl) 1 _ rfl) 2 _ rfl) 3 _ rfl) 4 _ rfl) 5 _ rfl)) Tryz.underlying55 rfl (by kernel_rfl) (.tmp .nil)))) rfl ?_
   exact ⟨f, rfl, below_drew1 (below_set (below_set (below_set (below_set (below_set (below_set (below_set HB5.out HGE.out) G7.out) G7.out) G7.out) G7.out) G7.out) G7.out)⟩
end
section
attribute [local go_sem] run_store_float max2_int min2_int max_two min_two max_three min_three max_four min_four
set_option linter.unusedVariables false
set_option linter.unusedSimpArgs false
set_option maxRecDepth 100000
def Leaf (s S : av) (b : Nat) (v ty : Int) (raw str : av) : Prop :=
 ((v = 45 ∨ v = 48 ∨ v = 49 ∨ v = 50 ∨ v = 51 ∨ v = 52 ∨ v = 53 ∨ v = 54 ∨ v = 55 ∨ v = 56 ∨ v = 57) ∧ ty = 2 ∧ str = ⟨#[]⟩ ∧ ∀ w, Wok w → Calls Tryz.prog 44 #[.string S] w fun r w' => ∃ f : Nat, r = .returned (.tuple #[.string raw, .float .f64 f]) ∧ Below w.heap.size w w') ∨
 ((v = 123 ∨ v = 91) ∧ ty = 5 ∧ str = ⟨#[]⟩ ∧ raw = S) ∨
 (((v = 110 ∧ ty = 0) ∨ (v = 116 ∧ ty = 4) ∨ (v = 102 ∧ ty = 1)) ∧ (v = 110 → b + 1 < s.size ∧ at_ s (b + 1) = 117) ∧ str = ⟨#[]⟩ ∧ 0 < raw.size ∧ ∀ w, Calls Tryz.prog 45 #[.string S] w fun r w' => r = .returned (.string raw) ∧ Below w.heap.size w w') ∨
 (v = 34 ∧ ty = 3 ∧ ∀ w, Calls Tryz.prog 46 #[.string S] w fun r w' => r = .returned (.tuple #[.string raw, .string str]) ∧ Below w.heap.size w w')
theorem exists_raw (ty : Int) (a b : av) (f : Nat) (i : Int) (v : Value) (w : World) (h : 0 < a.size) :
  Calls Tryz.prog 47 #[.agg #[.int .i64 ty, .string a, .string b, .float .f64 f, .int .i64 i, v]] w fun e w' => e = .returned (.bool true) ∧ Below w.heap.size w w' := by
 by_cases c : ty = 0
 ·have c1 : (ty != 0) = false := ak c
  have c2 : ((a.size : Int) != 0) = true := aj (by omega)
  go_enter Tryz.func47, Tryz.ntmps47
  go_wp2_with (fail)
  go_ret
  exact ⟨rfl, below_alloc (Below.refl _ _) _⟩
 ·exact exists_true ty a b f i v w (aj c)
abbrev c6 (ty : Int) (raw str : av) (f : Nat) (j : Int) : Array Value := #[.int .i64 ty, .string raw, .string str, .float .f64 f, .int .i64 j, .slice none 0 0]
structure P3 (w : World) (b2 b3 : Nat) (cs : Array Value) (W : World) : Prop where
 z3 : W.heap[b3]? = some (.cells cs 55 (0, 0))
 z2 : W.heap[b2]? = some (.cells (c6 0 ⟨#[]⟩ ⟨#[]⟩ 0 0) 55 (0, 0))
 hb : Below w.heap.size w W
 g : w.heap.size ≤ b3
 n : b2 ≠ b3
theorem P3.put {w W : World} {b2 b3 : Nat} {cs cs' : Array Value} (h : P3 w b2 b3 cs W) (i : Nat) (u : Value) (e : cs.setIfInBounds i u = cs') : P3 w b2 b3 cs' (W.setCell ⟨b3, i, none⟩ u) := ⟨blk_put h.z3 i u e, blk_far h.z2 h.n u, below_set h.hb h.g, h.g, h.n⟩
theorem P3.below {w W W1 : World} {b2 b3 : Nat} {cs : Array Value} (h : P3 w b2 b3 cs W) (hb : Below W.heap.size W W1) : P3 w b2 b3 cs W1 := ⟨blk_below h.z3 hb, blk_below h.z2 hb, below_step h.hb hb, h.g, h.n⟩
def PrPost (ty : Int) (raw str : av) (w : World) (e : Ending) (w' : World) : Prop := ∃ (f : Nat) (j : Int), e = .returned (.agg #[.int .i64 ty, .string raw, .string str, .float .f64 f, .int .i64 j, .slice none 0 0]) ∧ Below w.heap.size w w'
set_option maxHeartbeats 40000000 in
theorem parse_calls (s S raw str : av) (b : Nat) (v ty : Int) (w : World) (hW : Wok w) (hs : s.size ≤ 1000000) (hb : b < s.size) (hv : at_ s b = v) (hS : s.extract b s.size = S) (hbl : ∀ q, q < b → at_ s q ≤ 32) (hL : Leaf s S b v ty raw str) (hr : 0 < raw.size) :
  Calls Tryz.prog 21 #[.string s] w (PrPost ty raw str w) := by
 have HS := ab (And.intro hs (And.intro hb hbl))
 have HW := ab hW
 have HL := ab hL
 have HV := ab hv
 have HX := ab hS
 have HR := ab hr
 clear hW hs hb hv hS hbl hL hr
 go_enter Tryz.func21, Tryz.ntmps21
 go_wp2_with (first | (refine ax 2 (c6 0 ⟨#[]⟩ ⟨#[]⟩ 0 0) 55 ?_; intro b2 hg w1 hz hb; have HB1 := ab hb; have Z21 := ab hz; have G2 := ab (Nat.le_of_eq hg.symm); clear hb hz hg) | (refine ax 3 (c6 0 ⟨#[]⟩ ⟨#[]⟩ 0 0) 55 ?_; intro b3 hg w2 hz hb; have X := ab (show P3 w b2 b3 _ w2 from ⟨hz, blk_below Z21.out hb, below_step HB1.out hb, by have := blk_lt Z21.out; have := G2.out; omega, by have := blk_lt Z21.out; omega⟩); clear HB1 Z21 hb hz hg))
 (try simp only [Act.put, ap, aq, ar])
 go_loopg [4] s.size (fun kq v4 wd => ∃ (z : Int) (q : Nat), v4 = .int .i64 z ∧ Aside0 (z = q ∧ q ≤ b ∧ b ≤ kq + q) ∧ Aside0 (wd = w2))
 case atStart => exact ⟨_, 0, rfl, ⟨rfl, Nat.zero_le _, by have := HS.out.2.1; omega⟩, ⟨rfl⟩⟩
 case round =>
  obtain ⟨z, q, rfl, HQ, ⟨rfl⟩⟩ := hrel
  have h60 : (0 ≤ z) = True := ag (by have := HQ.out.1; omega)
  have c1 : decide (z < (s.size : Int)) = true := ae (by have := HQ.out.1; have := HQ.out.2.1; have := HS.out.2.1; omega)
  have h61 : (z < (s.size : Int)) = True := ag (ac c1)
  obtain ⟨y, f0, hy⟩ : ∃ y, IntKind.i64.wrap (z + 1) = y ∧ Aside0 (y = ((q + 1 : Nat) : Int)) := ⟨_, wrp (by have := HQ.out.1; omega) (by have := ac c1; have := HS.out.1; omega), ⟨by have := HQ.out.1; omega⟩⟩
  by_cases hqb : q < b
  ·cases gk with
   | zero => exact absurd hqb (by have := HQ.out.2.2; omega)
   | succ gj =>
   obtain ⟨v, hv⟩ : ∃ v, at_ s q = v := ⟨_, rfl⟩
   have hx : ∀ h : z.toNat < s.size, ((s[z.toNat]'h).toNat : Int) = v := fun h => Z71
   have hr := HS.out.2.2 q hqb
   rw [hv] at hr
   have d1 : (v == 123) = false := ah (by omega)
   have d2 : (v == 91) = false := ah (by omega)
   have d3 : decide (v ≤ 32) = true := ae hr
   clear hr hv
   go_wp2_with (fail)
   go_roundg gj
   case measure => exact Nat.lt_succ_self gj
   case rel => exact ⟨_, q + 1, rfl, ⟨hy.out, by omega, by have := HQ.out.2.2; omega⟩, ⟨rfl⟩⟩
  ·obtain rfl : q = b := by have := HQ.out.2.1; omega
   have hz : s.extract z.toNat s.size = S := by rw [← HX.out]; congr 1; have := HQ.out.1; omega
   have h62 : (z ≤ (s.size : Int)) = True := ag (by have := ac c1; omega)
   have hx : ∀ h : z.toNat < s.size, ((s[z.toNat]'h).toNat : Int) = v := fun h => by rw [← HV.out]; exact at_get s z q HQ.out.1 h
   have n23 : b2 ≠ b3 := X.out.n
   have G33 := ab X.out.g
   obtain ⟨r_0, r_1, r_2, r_3, r_4, r_5, rf_0, rf_1, rf_2, rf_3, rf_4, rf_5⟩ := cz6 X.out.z3
   rcases HL.out with ⟨hd, rfl, rfl, hc⟩ | ⟨hd, rfl, rfl, rfl⟩ | ⟨hd, hd2, rfl, hd3, hc⟩ | ⟨rfl, rfl, hc⟩
   focus
    have HC := ab hc
    clear hc HL
    rcases hd with rfl | rfl | rfl | rfl | rfl | rfl | rfl | rfl | rfl | rfl | rfl
    all_goals
     go_wp2_with (fail)
     refine (HC.out _ (HW.out.below (X.out.put (cs' := c6 2 ⟨#[]⟩ ⟨#[]⟩ 0 0) 0 (.int .i64 2) rfl).hb)).mono ?_
     rintro e w5 ⟨f, rfl, hb⟩
     have X5 := ab ((X.out.put (cs' := c6 2 ⟨#[]⟩ ⟨#[]⟩ 0 0) 0 (.int .i64 2) rfl).below hb)
     clear hb X r_0 r_1 r_2 r_3 r_4 r_5 rf_0 rf_1 rf_2 rf_3 rf_4 rf_5
     obtain ⟨r_0, r_1, r_2, r_3, r_4, r_5, rf_0, rf_1, rf_2, rf_3, rf_4, rf_5⟩ := cz6 X5.out.z3
     go_upto_region 43 with (fail)
     have X6 := ab ((X5.out.put (cs' := c6 2 raw ⟨#[]⟩ 0 0) 1 (.string raw) rfl).put (cs' := c6 2 raw ⟨#[]⟩ f 0) 3 (.float .f64 f) rfl)
     generalize ((w5.setCell ⟨b3, 1, none⟩ (.string raw)).setCell ⟨b3, 3, none⟩ (.float .f64 f)) = w6 at X6 ⊢
   rotate_left 11
   focus
    clear HL
    rcases hd with rfl | rfl
    all_goals
     go_upto_region 43 with (fail)
     have X6 := ab ((X.out.put (cs' := c6 5 ⟨#[]⟩ ⟨#[]⟩ 0 0) 0 (.int .i64 5) rfl).put (cs' := c6 5 raw ⟨#[]⟩ 0 0) 1 (.string raw) rfl)
     generalize ((wr.setCell ⟨b3, 0, none⟩ (.int .i64 5)).setCell ⟨b3, 1, none⟩ (.string raw)) = w6 at X6 ⊢
   rotate_left 2
   focus
    have HC := ab hc
    clear hc HL
    have g9 : v ≠ 110 ∨ (decide (y < (s.size : Int)) = true ∧ (0 ≤ y) = True ∧ (y < (s.size : Int)) = True ∧ ∀ h : y.toNat < s.size, ((s[y.toNat]'h).toNat : Int) = 117) := by
     by_cases hv : v = 110
     ·obtain ⟨g1, g2⟩ := hd2 hv
      exact .inr ⟨ae (by have := hy.out; omega), ag (by have := hy.out; omega), ag (by have := hy.out; omega), fun h => by rw [← g2]; exact at_get s y (q + 1) hy.out h⟩
     ·exact .inl hv
    clear hd2
    rcases hd with ⟨rfl, rfl⟩ | ⟨rfl, rfl⟩ | ⟨rfl, rfl⟩
    all_goals
     (try (rcases g9 with g | ⟨g3, g4, g5, g6⟩; exact absurd rfl g))
     go_wp2_with (fail)
     refine (HC.out _).mono ?_
     rintro e w5 ⟨rfl, hb⟩
     have X5 := ab ((X.out.put (cs' := c6 _ ⟨#[]⟩ ⟨#[]⟩ 0 0) 0 (.int .i64 _) rfl).below hb)
     clear hb X r_0 r_1 r_2 r_3 r_4 r_5 rf_0 rf_1 rf_2 rf_3 rf_4 rf_5
     obtain ⟨r_0, r_1, r_2, r_3, r_4, r_5, rf_0, rf_1, rf_2, rf_3, rf_4, rf_5⟩ := cz6 X5.out.z3
     go_upto_region 43 with (fail)
     have X6 := ab (X5.out.put (cs' := c6 _ raw ⟨#[]⟩ 0 0) 1 (.string raw) rfl)
     generalize (w5.setCell ⟨b3, 1, none⟩ (.string raw)) = w6 at X6 ⊢
   rotate_left 3
   focus
    have HC := ab hc
    clear hc HL
    go_wp2_with (fail)
    refine (HC.out _).mono ?_
    rintro e w5 ⟨rfl, hb⟩
    have X5 := ab ((X.out.put (cs' := c6 3 ⟨#[]⟩ ⟨#[]⟩ 0 0) 0 (.int .i64 3) rfl).below hb)
    clear hb X r_0 r_1 r_2 r_3 r_4 r_5 rf_0 rf_1 rf_2 rf_3 rf_4 rf_5
    obtain ⟨r_0, r_1, r_2, r_3, r_4, r_5, rf_0, rf_1, rf_2, rf_3, rf_4, rf_5⟩ := cz6 X5.out.z3
    go_upto_region 43 with (fail)
    have X6 := ab ((X5.out.put (cs' := c6 3 raw ⟨#[]⟩ 0 0) 1 (.string raw) rfl).put (cs' := c6 3 raw str 0 0) 2 (.string str) rfl)
    generalize ((w5.setCell ⟨b3, 1, none⟩ (.string raw)).setCell ⟨b3, 2, none⟩ (.string str)) = w6 at X6 ⊢
   all_goals
    clear r_0 r_1 r_2 r_3 r_4 r_5 rf_0 rf_1 rf_2 rf_3 rf_4 rf_5
    obtain ⟨r_0, r_1, r_2, r_3, r_4, r_5, rf_0, rf_1, rf_2, rf_3, rf_4, rf_5⟩ := cz6 X6.out.z3
    go_wp2_with (fail)
    refine (exists_raw _ raw _ _ 0 (.slice none 0 0) _ HR.out).mono ?_
    rintro e w7 ⟨rfl, hb⟩
    have X7 := ab (X6.out.below hb)
    clear hb X6 r_0 r_1 r_2 r_3 r_4 r_5 rf_0 rf_1 rf_2 rf_3 rf_4 rf_5
    obtain ⟨r_0, r_1, r_2, r_3, r_4, r_5, rf_0, rf_1, rf_2, rf_3, rf_4, rf_5⟩ := cz6 X7.out.z3
    obtain ⟨s_0, s_1, s_2, s_3, s_4, s_5, sf_0, sf_1, sf_2, sf_3, sf_4, sf_5⟩ := cz6 X7.out.z2
    go_wp2_with (fail)
    refine bodyPost_ret (results_cell_row rfl _ _ b2 55 (c6 _ raw _ _ z) (0, 0) _ rfl (blk_put (blk_put (blk_put (blk_put (blk_put (blk_put (blk_far (p := ⟨b3, 4, none⟩) X7.out.z2 n23 _) 0 _ rfl) 1 _ rfl) 2 _ rfl) 3 _ rfl) 4 _ rfl) 5 _ rfl) Tryz.underlying55 rfl (by kernel_rfl)) rfl ?_
    exact ⟨_, z, rfl, (below_set (below_set (below_set (below_set (below_set (below_set (below_set X7.out.hb G33.out) G2.out) G2.out) G2.out) G2.out) G2.out) G2.out)⟩
end
section
set_option linter.unusedVariables false
set_option linter.unusedSimpArgs false
set_option maxRecDepth 100000
set_option maxHeartbeats 4000000
theorem tolit_calls (s : av) (e : Nat) (w : World) (hs : s.size ≤ 1000000) (h1 : 1 ≤ e) (he : e ≤ s.size) (hl : ∀ q, 1 ≤ q → q < e → 97 ≤ at_ s q ∧ at_ s q ≤ 122) (hst : e < s.size → at_ s e < 97) :
  Calls Tryz.prog 45 #[.string s] w fun r w' => r = .returned (.string (s.extract 0 e)) ∧ Below w.heap.size w w' := by
 have HS := ab (And.intro hs (And.intro h1 (And.intro he (And.intro hl hst))))
 clear hs h1 he hl hst
 go_enter Tryz.func45, Tryz.ntmps45
 go_wp2_with (fail)
 go_loopg [3] s.size (fun kq v3 wd => ∃ (z : Int) (q : Nat), v3 = .int .i64 z ∧ Aside0 (z = q ∧ 1 ≤ q ∧ q ≤ e ∧ e ≤ kq + q) ∧ Aside0 (wd = w))
 case atStart => exact ⟨_, 1, rfl, ⟨rfl, Nat.le_refl _, HS.out.2.1, by have := HS.out.2.2.1; omega⟩, ⟨rfl⟩⟩
 case round =>
  obtain ⟨z, q, rfl, HQ, ⟨rfl⟩⟩ := hrel
  have h60 : (0 ≤ z) = True := ag (by have := HQ.out.1; omega)
  by_cases hqe : q < e
  ·cases gk with
   | zero => exact absurd hqe Z60
   | succ gj =>
   have c1 : decide (z < (s.size : Int)) = true := ae (by have := HQ.out.1; have := HS.out.2.2.1; omega)
   have h61 : (z < (s.size : Int)) = True := ag (ac c1)
   obtain ⟨v, hv⟩ : ∃ v, at_ s q = v := ⟨_, rfl⟩
   have hx : ∀ h : z.toNat < s.size, ((s[z.toNat]'h).toNat : Int) = v := fun h => Z71
   have hr := HS.out.2.2.2.1 q HQ.out.2.1 hqe
   rw [hv] at hr
   have d1 : decide (v < 97) = false := af (by omega)
   have d2 : decide (v > 122) = false := af (by omega)
   obtain ⟨y, f0, hy⟩ : ∃ y, IntKind.i64.wrap (z + 1) = y ∧ Aside0 (y = ((q + 1 : Nat) : Int)) := ⟨_, wrp (by have := HQ.out.1; omega) (by have := HQ.out.1; have := HS.out.1; have := HS.out.2.2.1; omega), ⟨by have := HQ.out.1; omega⟩⟩
   clear hr hv
   go_wp2_with (fail)
   go_roundg gj
   case measure => exact Nat.lt_succ_self gj
   case rel => exact ⟨_, q + 1, rfl, ⟨hy.out, by omega, by omega, Z60⟩, ⟨rfl⟩⟩
  ·obtain rfl : q = e := by have := HQ.out.2.2.1; omega
   obtain ⟨T, hT⟩ : ∃ T, s.extract 0 q = T := ⟨_, rfl⟩
   have hz : s.extract 0 z.toNat = T := by rw [← hT]; congr 1; have := HQ.out.1; omega
   by_cases hq : q < s.size
   ·have c1 : decide (z < (s.size : Int)) = true := ae (by have := HQ.out.1; omega)
    have h61 : (z < (s.size : Int)) = True := ag (ac c1)
    have h62 : (z ≤ (s.size : Int)) = True := ag (by have := HQ.out.1; omega)
    obtain ⟨v, hv⟩ : ∃ v, at_ s q = v := ⟨_, rfl⟩
    have hx : ∀ h : z.toNat < s.size, ((s[z.toNat]'h).toNat : Int) = v := fun h => Z71
    have hr := HS.out.2.2.2.2 hq
    rw [hv] at hr
    have d1 : decide (v < 97) = true := ae hr
    clear hr hv
    go_wp2_with (fail)
    go_ret
    exact ⟨congrArg (fun x => Ending.returned (.string x)) hT.symm, Below.refl _ _⟩
   ·have c1 : decide (z < (s.size : Int)) = false := af (by have := HQ.out.1; omega)
    have hle := HS.out.2.2.1
    obtain rfl : s = T := by rw [← hT, show q = s.size by omega, ByteArray.extract_zero_size]
    clear hz
    go_wp2_with (fail)
    go_ret
    exact ⟨congrArg (fun x => Ending.returned (.string x)) hT.symm, Below.refl _ _⟩
theorem tonum_calls (s : av) (e : Nat) (w : World) (hW : Wok w) (hs : s.size ≤ 1000000) (h1 : 1 ≤ e) (he : e ≤ s.size) (hl : ∀ q, 1 ≤ q → q < e → NumCh (at_ s q)) (hst : e < s.size → at_ s e ≤ 32) (hT : NumText (s.extract 0 e)) :
  Calls Tryz.prog 44 #[.string s] w fun r w' => ∃ f : Nat, r = .returned (.tuple #[.string (s.extract 0 e), .float .f64 f]) ∧ Below w.heap.size w w' := by
 have HS := ab (And.intro hs (And.intro h1 (And.intro he (And.intro hl hst))))
 have HW := ab hW
 have HT := ab hT
 clear hs h1 he hl hst hW hT
 go_enter Tryz.func44, Tryz.ntmps44
 go_wp2_with (fail)
 go_loopg [4] s.size (fun kq v3 wd => ∃ (z : Int) (q : Nat), v3 = .int .i64 z ∧ Aside0 (z = q ∧ 1 ≤ q ∧ q ≤ e ∧ e ≤ kq + q) ∧ Aside0 (wd = w))
 case atStart => exact ⟨_, 1, rfl, ⟨rfl, Nat.le_refl _, HS.out.2.1, by have := HS.out.2.2.1; omega⟩, ⟨rfl⟩⟩
 case round =>
  obtain ⟨z, q, rfl, HQ, ⟨rfl⟩⟩ := hrel
  have h60 : (0 ≤ z) = True := ag (by have := HQ.out.1; omega)
  by_cases hqe : q < e
  ·cases gk with
   | zero => exact absurd hqe Z60
   | succ gj =>
   have c1 : decide (z < (s.size : Int)) = true := ae (by have := HQ.out.1; have := HS.out.2.2.1; omega)
   have h61 : (z < (s.size : Int)) = True := ag (ac c1)
   obtain ⟨v, hv⟩ : ∃ v, at_ s q = v := ⟨_, rfl⟩
   have hx : ∀ h : z.toNat < s.size, ((s[z.toNat]'h).toNat : Int) = v := fun h => Z71
   have hr := HS.out.2.2.2.1 q HQ.out.2.1 hqe
   rw [hv] at hr
   obtain ⟨y, f0, hy⟩ : ∃ y, IntKind.i64.wrap (z + 1) = y ∧ Aside0 (y = ((q + 1 : Nat) : Int)) := ⟨_, wrp (by have := HQ.out.1; omega) (by have := HQ.out.1; have := HS.out.1; have := HS.out.2.2.1; omega), ⟨by have := HQ.out.1; omega⟩⟩
   have hw : (decide (v ≤ 45) = true ∧ decide (v ≤ 32) = false ∧ (v == 44) = false) ∨ (decide (v ≤ 45) = false ∧ (v == 93) = false ∧ (v == 125) = false) := by
    unfold NumCh at hr
    by_cases h : v ≤ 45
    ·exact .inl ⟨ae h, af (by omega), ah (by omega)⟩
    ·exact .inr ⟨af h, ah (by omega), ah (by omega)⟩
   clear hr hv
   rcases hw with ⟨d1, d2, d3⟩ | ⟨d1, d2, d3⟩
   all_goals
    go_wp2_with (fail)
    go_roundg gj
    case measure => exact Nat.lt_succ_self gj
    case rel => exact ⟨_, q + 1, rfl, ⟨hy.out, by omega, by omega, Z60⟩, ⟨rfl⟩⟩
  ·obtain rfl : q = e := by have := HQ.out.2.2.1; omega
   obtain ⟨T, hT⟩ : ∃ T, s.extract 0 q = T := ⟨_, rfl⟩
   have hz : s.extract 0 z.toNat = T := by rw [← hT]; congr 1; have := HQ.out.1; omega
   rw [hT] at HT
   by_cases hq : q < s.size
   ·have c1 : decide (z < (s.size : Int)) = true := ae (by have := HQ.out.1; omega)
    have h61 : (z < (s.size : Int)) = True := ag (ac c1)
    have h62 : (z ≤ (s.size : Int)) = True := ag (by have := HQ.out.1; omega)
    obtain ⟨v, hv⟩ : ∃ v, at_ s q = v := ⟨_, rfl⟩
    have hx : ∀ h : z.toNat < s.size, ((s[z.toNat]'h).toNat : Int) = v := fun h => Z71
    have hr := HS.out.2.2.2.2 hq
    rw [hv] at hr
    have d1 : decide (v ≤ 45) = true := ae (by omega)
    have d2 : decide (v ≤ 32) = true := ae hr
    clear hr hv
    go_wp2_with (fail)
    refine (pf_calls T _ HT.out HW.out).mono ?_
    rintro r w5 ⟨f, u, rfl, hb⟩
    go_wp2_with (fail)
    go_ret2
    exact ⟨f, congrArg (fun x => Ending.returned (.tuple #[.string x, .float .f64 f])) hT.symm, hb⟩
   ·have c1 : decide (z < (s.size : Int)) = false := af (by have := HQ.out.1; omega)
    have hle := HS.out.2.2.1
    obtain rfl : s = T := by rw [← hT, show q = s.size by omega, ByteArray.extract_zero_size]
    clear hz
    go_wp2_with (fail)
    refine (pf_calls s _ HT.out HW.out).mono ?_
    rintro r w5 ⟨f, u, rfl, hb⟩
    go_wp2_with (fail)
    go_ret2
    exact ⟨f, congrArg (fun x => Ending.returned (.tuple #[.string x, .float .f64 f])) hT.symm, hb⟩
end
end Go.Proofs.YtkjnahgicfmicaaGreatDoor.Gj

import Derived.Test.YtmpdhdnoohmndaaGreatDoorZip
import Derived.Test.YtmpdhdnoohmndaaGreatDoorHps
import Derived.Test.YtmpdhdnoohmndaaGreatDoorFea
namespace Go.Proofs.YtmpdhdnoohmndaaGreatDoor.Gj
open Go.RowKit Go.Proofs.YtmpdhdnoohmndaaGreatDoorW.PrintWords Go.Proofs.YtmpdhdnoohmndaaGreatDoorW.PrintLast Go.Proofs.YtmpdhdnoohmndaaGreatDoorW.PrintMore Sp Dec
attribute [local go_sem] run_store_float max2_int min2_int max_two min_two max_three min_three max_four min_four
set_option linter.unusedVariables false
set_option linter.unusedSimpArgs false
abbrev c6 (ty : Int) (raw str : au) (f : Nat) (j : Int) : Array Value := #[.int .i64 ty, .string raw, .string str, .float .f64 f, .int .i64 j, .slice none 0 0]
structure P3 (w : World) (b2 b3 : Nat) (cs : Array Value) (W : World) : Prop where
 z3 : W.heap[b3]? = some (.cells cs 46 (0, 0))
 z2 : W.heap[b2]? = some (.cells (c6 0 ⟨#[]⟩ ⟨#[]⟩ 0 0) 46 (0, 0))
 hb : Below w.heap.size w W
 g : w.heap.size ≤ b3
 n : b2 ≠ b3
 g2 : w.heap.size ≤ b2
theorem P3.put {w W : World} {b2 b3 : Nat} {cs cs' : Array Value} (h : P3 w b2 b3 cs W) (i : Nat) (u : Value) (e : cs.setIfInBounds i u = cs') : P3 w b2 b3 cs' (W.setCell ⟨b3, i, none⟩ u) := ⟨blk_put h.z3 i u e, blk_far h.z2 h.n u, below_set h.hb h.g, h.g, h.n, h.g2⟩
theorem P3.below {w W W1 : World} {b2 b3 : Nat} {cs : Array Value} (h : P3 w b2 b3 cs W) (hb : Below W.heap.size W W1) : P3 w b2 b3 cs W1 := ⟨blk_below h.z3 hb, blk_below h.z2 hb, below_step h.hb hb, h.g, h.n, h.g2⟩
theorem P3.drew {w W : World} {b2 b3 : Nat} {cs : Array Value} (h : P3 w b2 b3 cs W) : P3 w b2 b3 cs W.drew := ⟨blk_drew h.z3, blk_drew h.z2, below_drew1 h.hb, h.g, h.n, h.g2⟩
abbrev W6 (W : World) (b : Nat) (ty : Int) (raw str : au) (f : Nat) (j : Int) : World := ((((((W.setCell ⟨b, 0, none⟩ (.int .i64 ty)).setCell ⟨b, 1, none⟩ (.string raw)).setCell ⟨b, 2, none⟩ (.string str)).setCell ⟨b, 3, none⟩ (.float .f64 f)).setCell ⟨b, 4, none⟩ (.int .i64 j)).setCell ⟨b, 5, none⟩ (.slice none 0 0)).drew
theorem P3.fin {w W : World} {b2 b3 : Nat} {ty : Int} {raw str : au} {f : Nat} {j : Int} (h : P3 w b2 b3 (c6 ty raw str f j) W) : (W6 W b2 ty raw str f j).heap[b2]? = some (.cells (c6 ty raw str f j) 46 (0, 0)) ∧ Below w.heap.size w (W6 W b2 ty raw str f j) :=
 ⟨blk_drew (blk_put (blk_put (blk_put (blk_put (blk_put (blk_put h.z2 0 _ rfl) 1 _ rfl) 2 _ rfl) 3 _ rfl) 4 _ rfl) 5 _ rfl), below_drew1 (below_set (below_set (below_set (below_set (below_set (below_set h.hb h.g2) h.g2) h.g2) h.g2) h.g2) h.g2)⟩
def PKind (R : au) (b e : Nat) (ty : Int) (str : au) : Prop :=
 (ty = 2 ∧ str = ⟨#[]⟩ ∧ ((48 ≤ at_ R b ∧ at_ R b ≤ 57) ∨ at_ R b = 45) ∧ (∀ q, b < q → q < e → ¬ Nums (at_ R q)) ∧ Nums (at_ R e) ∧ NumText (R.extract b e)) ∨
 (ty = 3 ∧ str = R.extract (b + 1) (e - 1) ∧ b + 1 < e ∧ at_ R b = 34 ∧ (∀ q, b < q → q < e - 1 → at_ R q ≠ 34 ∧ at_ R q ≠ 92) ∧ at_ R (e - 1) = 34) ∨
 (str = ⟨#[]⟩ ∧ ((ty = 4 ∧ at_ R b = 116) ∨ (ty = 1 ∧ at_ R b = 102) ∨ (ty = 0 ∧ at_ R b = 110 ∧ at_ R (b + 1) = 117)) ∧ (∀ q, b < q → q < e → ¬ Lits (at_ R q)) ∧ Lits (at_ R e)) ∨
 (ty = 5 ∧ str = ⟨#[]⟩ ∧ (at_ R b = 123 ∨ at_ R b = 91) ∧ Sq R (b + 1) 1 e)
def PnPost (w : World) (e : Nat) (ty : Int) (raw str : au) (r : Ending) (w' : World) : Prop :=
 ∃ (f : Nat) (j : Int), r = .returned (.tuple #[.int .i64 (e : Int), .agg #[.int .i64 ty, .string raw, .string str, .float .f64 f, .int .i64 j, .slice none 0 0], .bool true]) ∧ Below w.heap.size w w'
theorem pf_calls (s : au) (w : World) (hs : NumText s) (hW : Wok w) : Calls Tryz.prog 38 #[.string s, .int .i64 64] w (PFPost w) := by
 obtain ⟨L, P0, G, hS⟩ := hW.std
 exact parsefloat_calls s w L P0 G hs hS hW.errs
set_option maxRecDepth 100000 in
set_option maxHeartbeats 40000000 in
theorem pany_calls (R : au) (hs : R.size ≤ 10000000000) (b e : Nat) (ty : Int) (str : au) (w : World) (hW : Wok w) (h1 : b < e) (h2 : e < R.size) (hK : PKind R b e ty str) {x : Int} (hx : x = (b : Int)) :
  Calls Tryz.prog 32 #[.string R, .int .i64 x, .bool true] w (PnPost w e ty (R.extract b e) str) := by
 have HW := aa hW
 have HS := aa (And.intro hs (And.intro h1 h2))
 have HX := aa hx
 have HK := aa hK
 have c1 : decide (x < (R.size : Int)) = true := ac (by omega)
 have c2 : (x < (R.size : Int)) = True := af (by omega)
 have c3 : (0 ≤ x) = True := af (by omega)
 obtain ⟨T, hT⟩ : ∃ T, R.extract b e = T := ⟨_, rfl⟩
 have HT := aa hT
 obtain ⟨x1, f0, HY⟩ := wr1 hx (by omega)
 have c4 : decide (x1 < (R.size : Int)) = true := ac (by have := HY.out; omega)
 have c5 : (x1 < (R.size : Int)) = True := af (by have := HY.out; omega)
 have c6' : (0 ≤ x1) = True := af (by have := HY.out; omega)
 rw [hT]
 clear hW hs h1 h2 hx hK hT
 go_enter Tryz.func32, Tryz.ntmps32
 go_wp2_with (first | (refine aw 7 (c6 0 ⟨#[]⟩ ⟨#[]⟩ 0 0) 46 ?_; intro b2 hg w1 hz hb; have HB1 := aa hb; have Z21 := aa hz; have G2 := aa (Nat.le_of_eq hg.symm); clear hb hz hg) | (refine aw 9 (c6 0 ⟨#[]⟩ ⟨#[]⟩ 0 0) 46 ?_; intro b3 hg w2 hz hb; have X := aa (show P3 w b2 b3 _ w2 from ⟨hz, blk_below Z21.out hb, below_step HB1.out hb, by have := blk_lt Z21.out; have := G2.out; omega, by have := blk_lt Z21.out; omega, G2.out⟩); clear HB1 Z21 hb hz hg))
 (try simp only [Act.put, ao, ap, aq])
 go_loopg [1] 0 (fun kq v1 wd => v1 = .int .i64 x ∧ Aside0 (wd = w2))
 case atStart => exact ⟨rfl, ⟨rfl⟩⟩
 case round =>
  obtain ⟨rfl, ⟨rfl⟩⟩ := hrel
  obtain ⟨v, hv⟩ : ∃ v, at_ R b = v := ⟨_, rfl⟩
  have hx : ∀ h : x.toNat < R.size, ((R[x.toNat]'h).toNat : Int) = v := fun h => by rw [← hv]; exact at_gt R x b HX.out h
  have n23 : b2 ≠ b3 := X.out.n
  have HV := aa hv
  obtain ⟨r_0, r_1, r_2, r_3, r_4, r_5, rf_0, rf_1, rf_2, rf_3, rf_4, rf_5⟩ := cz6 X.out.z3
  rcases HK.out with ⟨rfl, rfl, hd, hm, he, hn⟩ | ⟨rfl, rfl, h3, hd, hm, he⟩ | ⟨rfl, hd, hm, he⟩ | ⟨rfl, rfl, hd, hq⟩
  ·rw [hv] at hd
   replace hd : v = 45 ∨ v = 48 ∨ v = 49 ∨ v = 50 ∨ v = 51 ∨ v = 52 ∨ v = 53 ∨ v = 54 ∨ v = 55 ∨ v = 56 ∨ v = 57 := by omega
   have HN := aa (And.intro hm (And.intro he (HT.out ▸ hn)))
   clear hv hm he hn HK HV
   rcases hd with rfl | rfl | rfl | rfl | rfl | rfl | rfl | rfl | rfl | rfl | rfl
   all_goals
    go_wp2_with (first
     | (go_at_call 45; refine (pnumb_calls HS.out.1 _ HS.out.2.1 HS.out.2.2 HN.out.1 HN.out.2.1 HX.out).mono ?_; rintro r w3 ⟨rfl, hb⟩; rw [HT.out]; replace X := aa (X.out.below hb.below); clear hb r_0 r_1 r_2 r_3 r_4 r_5 rf_0 rf_1 rf_2 rf_3 rf_4 rf_5; obtain ⟨r_0, r_1, r_2, r_3, r_4, r_5, rf_0, rf_1, rf_2, rf_3, rf_4, rf_5⟩ := cz6 X.out.z3)
     | (go_at_call 38; replace X := aa ((X.out.put (cs' := c6 0 T ⟨#[]⟩ 0 0) 1 (.string T) rfl).put (cs' := c6 2 T ⟨#[]⟩ 0 0) 0 (.int .i64 2) rfl); refine (pf_calls T _ HN.out.2.2 (HW.out.below X.out.hb)).mono ?_; rintro r w5 ⟨f, u, rfl, hb⟩; replace X := aa (X.out.below hb); clear hb r_0 r_1 r_2 r_3 r_4 r_5 rf_0 rf_1 rf_2 rf_3 rf_4 rf_5; obtain ⟨r_0, r_1, r_2, r_3, r_4, r_5, rf_0, rf_1, rf_2, rf_3, rf_4, rf_5⟩ := cz6 X.out.z3))
    have X9 := aa (X.out.put (cs' := c6 2 T ⟨#[]⟩ f 0) 3 (.float .f64 f) rfl)
    generalize (w5.setCell ⟨b3, 3, none⟩ (.float .f64 f)) = w9 at X9 ⊢
    clear r_0 r_1 r_2 r_3 r_4 r_5 rf_0 rf_1 rf_2 rf_3 rf_4 rf_5
    obtain ⟨r_0, r_1, r_2, r_3, r_4, r_5, rf_0, rf_1, rf_2, rf_3, rf_4, rf_5⟩ := cz6 X9.out.z3
    obtain ⟨s_0, s_1, s_2, s_3, s_4, s_5, sf_0, sf_1, sf_2, sf_3, sf_4, sf_5⟩ := cz6 X9.out.z2
    go_region
    all_goals (try go_wp2_with (fail))
    refine bodyPost_ret (results_list (rs := [.tmp 6, .cell 7 46, .tmp 8]) rfl (by simp) (.tmp (.cell b2 46 (c6 2 T ⟨#[]⟩ f 0) (0, 0) _ rfl X9.out.fin.1 Tryz.underlying46 rfl (by kernel_rfl) (.tmp .nil)))) rfl ?_
    exact ⟨_, _, rfl, X9.out.fin.2⟩
  ·rw [hv] at hd
   subst hd
   obtain ⟨k, rfl⟩ : ∃ k, e = k + 1 := ⟨e - 1, by omega⟩
   rw [Nat.add_sub_cancel] at hm he
   have HN := aa (And.intro hm (And.intro he (show b < k by omega)))
   have hT1 : T.size = k + 1 - b := by rw [← HT.out, ByteArray.size_extract]; have := HS.out; omega
   obtain ⟨tn, f1, HTn⟩ : ∃ tn, IntKind.i64.wrap ((T.size : Int) - 1) = tn ∧ Aside0 (tn = ((k - b : Nat) : Int)) := ⟨(T.size : Int) - 1, (i64_w _).trans (by unfold wrap64; have := HS.out; omega), ⟨by omega⟩⟩
   have g1 : (1 ≤ tn) = True := af (by have := HTn.out; omega)
   have g2 : (tn ≤ (T.size : Int)) = True := af (by have := HTn.out; omega)
   have g3 : (0 ≤ tn) = True := af (by have := HTn.out; omega)
   obtain ⟨str, hstr⟩ : ∃ str, R.extract (b + 1) (k + 1 - 1) = str := ⟨_, rfl⟩
   have hsl : T.extract 1 tn.toNat = str := by
    rw [← hstr, ← HT.out, ByteArray.extract_extract]
    congr 1
    have := HTn.out
    have := HS.out
    omega
   rw [hstr]
   clear hv hm he HK HV hT1 hstr h3
   go_wp2_with (go_at_call 30; refine (pstring_calls HS.out.1 _ HN.out.2.2 (by have := HS.out; omega) HN.out.1 HN.out.2.1 HY.out).mono ?_; rintro r w3 ⟨rfl, hb⟩; rw [HT.out]; replace X := aa (X.out.below hb.below); clear hb r_0 r_1 r_2 r_3 r_4 r_5 rf_0 rf_1 rf_2 rf_3 rf_4 rf_5; obtain ⟨r_0, r_1, r_2, r_3, r_4, r_5, rf_0, rf_1, rf_2, rf_3, rf_4, rf_5⟩ := cz6 X.out.z3)
   have X9 := aa (((X.out.put (cs' := c6 3 ⟨#[]⟩ ⟨#[]⟩ 0 0) 0 (.int .i64 3) rfl).put (cs' := c6 3 T ⟨#[]⟩ 0 0) 1 (.string T) rfl).put (cs' := c6 3 T str 0 0) 2 (.string str) rfl)
   generalize (((w3.setCell ⟨b3, 0, none⟩ (.int .i64 3)).setCell ⟨b3, 1, none⟩ (.string T)).setCell ⟨b3, 2, none⟩ (.string str)) = w9 at X9 ⊢
   clear r_0 r_1 r_2 r_3 r_4 r_5 rf_0 rf_1 rf_2 rf_3 rf_4 rf_5
   obtain ⟨r_0, r_1, r_2, r_3, r_4, r_5, rf_0, rf_1, rf_2, rf_3, rf_4, rf_5⟩ := cz6 X9.out.z3
   obtain ⟨s_0, s_1, s_2, s_3, s_4, s_5, sf_0, sf_1, sf_2, sf_3, sf_4, sf_5⟩ := cz6 X9.out.z2
   go_region
   all_goals (try go_wp2_with (fail))
   refine bodyPost_ret (results_list (rs := [.tmp 6, .cell 7 46, .tmp 8]) rfl (by simp) (.tmp (.cell b2 46 (c6 3 T str 0 0) (0, 0) _ rfl X9.out.fin.1 Tryz.underlying46 rfl (by kernel_rfl) (.tmp .nil)))) rfl ?_
   exact ⟨_, _, rfl, X9.out.fin.2⟩
  ·have HN := aa (And.intro hm he)
   have hx1 : ∀ h : x1.toNat < R.size, ((R[x1.toNat]'h).toNat : Int) = at_ R (b + 1) := fun h => at_gt R x1 (b + 1) HY.out h
   obtain ⟨v1, hv1⟩ : ∃ v1, at_ R (b + 1) = v1 := ⟨_, rfl⟩
   rw [hv] at hd
   rw [hv1] at hd hx1
   clear hv hm he HK HV hv1
   rcases hd with ⟨rfl, rfl⟩ | ⟨rfl, rfl⟩ | ⟨rfl, rfl, rfl⟩
   ·go_wp2_with (go_at_call 44; refine (plit_calls HS.out.1 _ HS.out.2.1 HS.out.2.2 HN.out.1 HN.out.2 HX.out).mono ?_; rintro r w3 ⟨rfl, hb⟩; rw [HT.out]; replace X := aa (X.out.below hb.below); clear hb r_0 r_1 r_2 r_3 r_4 r_5 rf_0 rf_1 rf_2 rf_3 rf_4 rf_5; obtain ⟨r_0, r_1, r_2, r_3, r_4, r_5, rf_0, rf_1, rf_2, rf_3, rf_4, rf_5⟩ := cz6 X.out.z3)
    have X9 := aa ((X.out.put (cs' := c6 0 T ⟨#[]⟩ 0 0) 1 (.string T) rfl).put (cs' := c6 4 T ⟨#[]⟩ 0 0) 0 (.int .i64 4) rfl)
    generalize ((w3.setCell ⟨b3, 1, none⟩ (.string T)).setCell ⟨b3, 0, none⟩ (.int .i64 4)) = w9 at X9 ⊢
    clear r_0 r_1 r_2 r_3 r_4 r_5 rf_0 rf_1 rf_2 rf_3 rf_4 rf_5
    obtain ⟨r_0, r_1, r_2, r_3, r_4, r_5, rf_0, rf_1, rf_2, rf_3, rf_4, rf_5⟩ := cz6 X9.out.z3
    obtain ⟨s_0, s_1, s_2, s_3, s_4, s_5, sf_0, sf_1, sf_2, sf_3, sf_4, sf_5⟩ := cz6 X9.out.z2
    go_region
    all_goals (try go_wp2_with (fail))
    refine bodyPost_ret (results_list (rs := [.tmp 6, .cell 7 46, .tmp 8]) rfl (by simp) (.tmp (.cell b2 46 (c6 4 T ⟨#[]⟩ 0 0) (0, 0) _ rfl X9.out.fin.1 Tryz.underlying46 rfl (by kernel_rfl) (.tmp .nil)))) rfl ?_
    exact ⟨_, _, rfl, X9.out.fin.2⟩
   ·go_wp2_with (go_at_call 44; refine (plit_calls HS.out.1 _ HS.out.2.1 HS.out.2.2 HN.out.1 HN.out.2 HX.out).mono ?_; rintro r w3 ⟨rfl, hb⟩; rw [HT.out]; replace X := aa (X.out.below hb.below); clear hb r_0 r_1 r_2 r_3 r_4 r_5 rf_0 rf_1 rf_2 rf_3 rf_4 rf_5; obtain ⟨r_0, r_1, r_2, r_3, r_4, r_5, rf_0, rf_1, rf_2, rf_3, rf_4, rf_5⟩ := cz6 X.out.z3)
    have X9 := aa ((X.out.put (cs' := c6 0 T ⟨#[]⟩ 0 0) 1 (.string T) rfl).put (cs' := c6 1 T ⟨#[]⟩ 0 0) 0 (.int .i64 1) rfl)
    generalize ((w3.setCell ⟨b3, 1, none⟩ (.string T)).setCell ⟨b3, 0, none⟩ (.int .i64 1)) = w9 at X9 ⊢
    clear r_0 r_1 r_2 r_3 r_4 r_5 rf_0 rf_1 rf_2 rf_3 rf_4 rf_5
    obtain ⟨r_0, r_1, r_2, r_3, r_4, r_5, rf_0, rf_1, rf_2, rf_3, rf_4, rf_5⟩ := cz6 X9.out.z3
    obtain ⟨s_0, s_1, s_2, s_3, s_4, s_5, sf_0, sf_1, sf_2, sf_3, sf_4, sf_5⟩ := cz6 X9.out.z2
    go_region
    all_goals (try go_wp2_with (fail))
    refine bodyPost_ret (results_list (rs := [.tmp 6, .cell 7 46, .tmp 8]) rfl (by simp) (.tmp (.cell b2 46 (c6 1 T ⟨#[]⟩ 0 0) (0, 0) _ rfl X9.out.fin.1 Tryz.underlying46 rfl (by kernel_rfl) (.tmp .nil)))) rfl ?_
    exact ⟨_, _, rfl, X9.out.fin.2⟩
   ·go_wp2_with (go_at_call 44; refine (plit_calls HS.out.1 _ HS.out.2.1 HS.out.2.2 HN.out.1 HN.out.2 HX.out).mono ?_; rintro r w3 ⟨rfl, hb⟩; rw [HT.out]; replace X := aa (X.out.below hb.below); clear hb r_0 r_1 r_2 r_3 r_4 r_5 rf_0 rf_1 rf_2 rf_3 rf_4 rf_5; obtain ⟨r_0, r_1, r_2, r_3, r_4, r_5, rf_0, rf_1, rf_2, rf_3, rf_4, rf_5⟩ := cz6 X.out.z3)
    have X9 := aa (X.out.put (cs' := c6 0 T ⟨#[]⟩ 0 0) 1 (.string T) rfl)
    generalize (w3.setCell ⟨b3, 1, none⟩ (.string T)) = w9 at X9 ⊢
    clear r_0 r_1 r_2 r_3 r_4 r_5 rf_0 rf_1 rf_2 rf_3 rf_4 rf_5
    obtain ⟨r_0, r_1, r_2, r_3, r_4, r_5, rf_0, rf_1, rf_2, rf_3, rf_4, rf_5⟩ := cz6 X9.out.z3
    obtain ⟨s_0, s_1, s_2, s_3, s_4, s_5, sf_0, sf_1, sf_2, sf_3, sf_4, sf_5⟩ := cz6 X9.out.z2
    go_region
    all_goals (try go_wp2_with (fail))
    refine bodyPost_ret (results_list (rs := [.tmp 6, .cell 7 46, .tmp 8]) rfl (by simp) (.tmp (.cell b2 46 (c6 0 T ⟨#[]⟩ 0 0) (0, 0) _ rfl X9.out.fin.1 Tryz.underlying46 rfl (by kernel_rfl) (.tmp .nil)))) rfl ?_
    exact ⟨_, _, rfl, X9.out.fin.2⟩
  ·have HN := aa hq
   rw [hv] at hd
   clear hv hq HK HV
   rcases hd with rfl | rfl
   all_goals
    go_wp2_with (go_at_call 43; refine (squash_calls R x b e _ HX.out HS.out.1 (HW.out.below X.out.hb).vtab HN.out).mono ?_; rintro r w3 ⟨rfl, hb⟩; rw [HT.out]; replace X := aa (X.out.below hb.below); clear hb r_0 r_1 r_2 r_3 r_4 r_5 rf_0 rf_1 rf_2 rf_3 rf_4 rf_5; obtain ⟨r_0, r_1, r_2, r_3, r_4, r_5, rf_0, rf_1, rf_2, rf_3, rf_4, rf_5⟩ := cz6 X.out.z3)
    all_goals
     first
     | (obtain ⟨jj, hjj⟩ : ∃ jj : Int, wrap64 ((e : Int) - (T.size : Int)) = jj := ⟨_, rfl⟩; rw [hjj]; have HJ := aa hjj; clear hjj)
     | (obtain ⟨jj, hjj⟩ : ∃ jj : Int, wrap64 ((R.size : Int) - (T.size : Int)) = jj := ⟨_, rfl⟩; rw [hjj]; have HJ := aa hjj; clear hjj)
     have X9 := aa (((X.out.put (cs' := c6 0 T ⟨#[]⟩ 0 0) 1 (.string T) rfl).put (cs' := c6 5 T ⟨#[]⟩ 0 0) 0 (.int .i64 5) rfl).put (cs' := c6 5 T ⟨#[]⟩ 0 jj) 4 (.int .i64 jj) rfl)
     generalize (((w3.setCell ⟨b3, 1, none⟩ (.string T)).setCell ⟨b3, 0, none⟩ (.int .i64 5)).setCell ⟨b3, 4, none⟩ (.int .i64 jj)) = w9 at X9 ⊢
     clear r_0 r_1 r_2 r_3 r_4 r_5 rf_0 rf_1 rf_2 rf_3 rf_4 rf_5
     obtain ⟨r_0, r_1, r_2, r_3, r_4, r_5, rf_0, rf_1, rf_2, rf_3, rf_4, rf_5⟩ := cz6 X9.out.z3
     obtain ⟨s_0, s_1, s_2, s_3, s_4, s_5, sf_0, sf_1, sf_2, sf_3, sf_4, sf_5⟩ := cz6 X9.out.z2
     go_region
     all_goals (try go_wp2_with (fail))
     refine bodyPost_ret (results_list (rs := [.tmp 6, .cell 7 46, .tmp 8]) rfl (by simp) (.tmp (.cell b2 46 (c6 5 T ⟨#[]⟩ 0 jj) (0, 0) _ rfl X9.out.fin.1 Tryz.underlying46 rfl (by kernel_rfl) (.tmp .nil)))) rfl ?_
     exact ⟨_, _, rfl, X9.out.fin.2⟩
end Go.Proofs.YtmpdhdnoohmndaaGreatDoor.Gj

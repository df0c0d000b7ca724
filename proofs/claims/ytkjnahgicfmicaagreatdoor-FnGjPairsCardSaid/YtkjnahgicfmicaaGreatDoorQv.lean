import Derived.Test.YtkjnahgicfmicaaGreatDoorQa
import Derived.Test.YtkjnahgicfmicaaGreatDoorQh
import Derived.Test.YtkjnahgicfmicaaGreatDoorQf
import Derived.Test.YtkjnahgicfmicaaGreatDoorZip
import Derived.Test.YtkjnahgicfmicaaGreatDoorQm
import Derived.Deep.RegionHeld3
namespace Go.Proofs.YtkjnahgicfmicaaGreatDoor.Sp
open Go.RowKit Go.PW Go.PL Go.PM
section
attribute [local go_sem] run_store_float max2_int min2_int max_two min_two max_three min_three max_four min_four
set_option linter.unusedVariables false
set_option linter.unusedSimpArgs false
structure jV where
 f : Nat → Int → ByteArray → ByteArray → Nat → Bool → Int → Option ((List (S41)))
 mono : ∀ a0 a1 a2 a3 a4 a5 k, LeO (f k a0 a1 a2 a3 a4 a5) (f (k + 1) a0 a1 a2 a3 a4 a5)
 calls : ∀ (k : Nat) (a0_0 : Int) (a0_1 : ByteArray) (a0_2 : ByteArray) (a0_3 : Nat) (a0_4 : Bool) (a1 : Int) (r : List (S41)) (w : World) (h : f k a0_0 a0_1 a0_2 a0_3 a0_4 a1 = some r) (hW : Wok w),
  Calls Tryz.prog 10 #[.agg #[.int .i64 a0_0, .string a0_1, .string a0_2, .float .f64 a0_3, .bool a0_4], .int .i64 a1] w fun e w' => ∃ v0_ : Value, e = .returned (v0_) ∧ Kd.R k41 41 w' w.heap.size (fun _ => True) v0_ r ∧ Below w.heap.size w w'
structure oQ where
 rG : jV
def fE.f (a0_0 : Int) (a0_1 : ByteArray) (a0_2 : ByteArray) (a0_3 : Nat) (a0_4 : Int) (l0_5 : List Int) : Option (Int × ByteArray × ByteArray × Nat × Bool) := (dK.f a0_0 a0_1 a0_2 a0_3 a0_4 l0_5).bind fun vE => (some (a0_0, a0_1, a0_2, a0_3, vE))
def fE.T1 : Bool × List (List Nat × List Nat) := (true, [([], []), ([0], [0]), ([], []), ([2], [2]), ([], []), ([4], [4]), ([], []), ([6], [6]), ([], []), ([8], [8]), ([1, 3, 5, 7, 9], [1, 3, 5, 7, 9]), ([10, 9, 0, 1, 2, 3, 4, 5, 6, 7, 8, 9, 10], [10])])
def fE.B1 : List Nat := [0, 1, 0, 4, 0, 16, 0, 64, 0, 256, 1023, 2047]
theorem fE.tab1 : rtab .any (opsOf Tryz.f24 1) = fE.T1 := by kernel_rfl
theorem fE.bits1 : waitsOk fE.T1.2 fE.B1 = true := by kernel_rfl
end
section
attribute [local go_sem] run_store_float
set_option linter.unusedVariables false
set_option linter.unusedSimpArgs false
set_option maxHeartbeats 8000000
set_option maxRecDepth 100000
theorem existsG_calls (a0_0 : Int) (a0_1 : ByteArray) (a0_2 : ByteArray) (a0_3 : Nat) (a0_4 : Int) (A0_5 : Option Addr) (c0_5 : Nat) (n0_5 : Nat) (r : Bool) (w : World) (h : dK.f a0_0 a0_1 a0_2 a0_3 a0_4 [] = some r) :
 Calls Tryz.prog 47 #[.agg #[.int .i64 a0_0, .string a0_1, .string a0_2, .float .f64 a0_3, .int .i64 a0_4, .slice A0_5 n0_5 c0_5]] w fun e w' => e = .returned (.bool r) ∧ Below w.heap.size w w' := by
 have hu55 := Tryz.underlying55
 have HB := ab (Below.refl w.heap.size w)
 have H : (if a0_0 = 0 then (some ((a0_1.size : Int) != 0)) else (some true)) = some r := h
 clear h
 revert H; refine sIe1n0_e0n1 (fun gS mX H => ?_) fun gS mX H => ?_
 ·focus
  obtain rfl := au H
  go_enter Tryz.func47, Tryz.ntmps47
  go_wp2_with (first | (refine aw 1 #[.int .i64 a0_0, .string a0_1, .string a0_2, .float .f64 a0_3, .int .i64 a0_4, .slice A0_5 n0_5 c0_5] 55 ?_; intro qF hg w3 hbox hb; have wF := ab (hbox); have Hz : Aside0 (w.heap.size ≤ qF) := ⟨Z16⟩; have Ia : Aside0 (w.heap.size ≤ qF) := ⟨Z16⟩; replace HB := ab (below_step (w := w) zB hb); clear hb hbox hg; obtain ⟨wG, wH, Fo, Fp, aeG, aeH, wI, wJ, Fq, Fr, aeI, aeJ⟩ := cz6 wF.out))
  go_ret
  exact ⟨Z8, zB⟩
 focus
  obtain rfl := au H
  go_enter Tryz.func47, Tryz.ntmps47
  go_wp2_with (first | (refine aw 1 #[.int .i64 a0_0, .string a0_1, .string a0_2, .float .f64 a0_3, .int .i64 a0_4, .slice A0_5 n0_5 c0_5] 55 ?_; intro qF hg w5 hbox hb; have wF := ab (hbox); have Hz : Aside0 (w.heap.size ≤ qF) := ⟨Z16⟩; have Ia : Aside0 (w.heap.size ≤ qF) := ⟨Z16⟩; replace HB := ab (below_step (w := w) zB hb); clear hb hbox hg; obtain ⟨wK, wL, aeK, aeL, aeM, aeN, wM, wN, aeO, aeP, aeQ, aeR⟩ := cz6 wF.out))
  go_ret
  exact ⟨Z8, zB⟩
theorem gjG_calls (a0_0 : Int) (a0_1 : ByteArray) (a0_2 : ByteArray) (a0_3 : Nat) (a0_4 : Int) (A0_5 : Option Addr) (c0_5 : Nat) (n0_5 : Nat) (r1 : Int) (r2 : ByteArray) (r3 : ByteArray) (r4 : Nat) (r5 : Bool) (w : World) (h : fE.f a0_0 a0_1 a0_2 a0_3 a0_4 [] = some (r1, r2, r3, r4, r5)) :
 Calls Tryz.prog 24 #[.agg #[.int .i64 a0_0, .string a0_1, .string a0_2, .float .f64 a0_3, .int .i64 a0_4, .slice A0_5 n0_5 c0_5]] w fun e w' => e = .returned (.agg #[.int .i64 r1, .string r2, .string r3, .float .f64 r4, .bool r5]) ∧ Below w.heap.size w w' := by
 have hu55 := Tryz.underlying55
 have hu39 := Tryz.underlying39
 have HB := ab (Below.refl w.heap.size w)
 have H : ((dK.f a0_0 a0_1 a0_2 a0_3 a0_4 []).bind fun vE => (some (a0_0, a0_1, a0_2, a0_3, vE))) = some (r1, r2, r3, r4, r5) := h
 clear h
 revert H; refine bnd ?_; rintro vE A2 H
 focus
  simp only [am, an] at H
  obtain ⟨rfl, rfl, rfl, rfl, rfl⟩ := H
  go_enter Tryz.func24, Tryz.ntmps24
  try go_wp2_with (first | (refine aw 1 #[.int .i64 a0_0, .string a0_1, .string a0_2, .float .f64 a0_3, .int .i64 a0_4, .slice A0_5 n0_5 c0_5] 55 ?_; intro iM hg w3 hbox hb; have mY := ab (hbox); have Ib : Aside0 (w.heap.size ≤ iM) := ⟨Z16⟩; have Ic : Aside0 (w.heap.size ≤ iM) := ⟨Z16⟩; replace HB := ab (below_step (w := w) zB hb); clear hb hbox hg) | (refine aw 2 #[.int .i64 0, .string (⟨#[]⟩ : ByteArray), .string (⟨#[]⟩ : ByteArray), .float .f64 (0 : Nat), .bool false] 39 ?_; intro oE hg w4 hbox hb; have qG := ab (hbox); have aiA : Aside0 (w.heap.size ≤ oE) := ⟨Z16⟩; have aiB : Aside0 (w.heap.size ≤ oE) := ⟨Z16⟩; replace HB := ab (below_step (w := w) zB hb); have vF : Aside0 (iM ≠ oE) := ⟨by rw [hg]; exact Nat.ne_of_lt (blk_lt (g := iM) zC)⟩; have vG : Aside0 (oE ≠ iM) := ⟨by rw [hg]; exact Nat.ne_of_gt (blk_lt (g := iM) zC)⟩; replace mY := ab (blk_below (g := iM) zC hb); clear hb hbox hg))
  replace mY := ab (blk_drew mY.out)
  replace qG := ab (blk_drew qG.out)
  replace HB := ab (below_drew1 HB.out)
  refine st1 12 [] (S := fun w' => H6 w' iM (.int .i64 a0_0) (.string a0_1) (.string a0_2) (.float .f64 a0_3) (.int .i64 a0_4) (.slice A0_5 n0_5 c0_5)) (fun hHeld => ?_); refine with_tabW fE.tab1 fE.bits1 (fun HT_ HW_ => ?_)
  generalize w4.drew = w5 at mY qG HB hHeld ⊢
  refine pz 0 3 ?_
  refine pz 2 5 ?_
  refine pz 4 7 ?_
  refine pz 6 9 ?_
  refine tk6 1 4 ?_
  refine tk6 3 6 ?_
  refine tk6 5 8 ?_
  refine tk6 7 10 ?_
  refine tk6 8 11 ?_
  refine on1 9 (some 12) fun K hK => ?_
  refine goes_ Tryz.func47 (by kernel_rfl) rfl #[.agg #[.int .i64 a0_0, .string a0_1, .string a0_2, .float .f64 a0_3, .int .i64 a0_4, .slice A0_5 n0_5 c0_5]] (by rfl) rfl rfl Z15 ?_
  with_reducible refine (existsG_calls a0_0 a0_1 a0_2 a0_3 a0_4 _ _ _ vE _ A2.out).mono ?_
  rintro e w6 ⟨rfl, hb⟩
  refine ⟨_, rfl, ?_⟩
  replace mY := ab (blk_below (g := iM) zC hb)
  replace qG := ab (blk_below (g := oE) zC hb)
  replace HB := ab (below_step (w := w) zB hb)
  try clear hb
  refine hK.out _ _ zS (fun hHeld => ?_)
  clear hK K
  refine norm_ (a' := ?_) ?_ ?_
  rotate_left
  ·show Act.put _ (some 12) _ = _
   simp only [Act.put, ap, aq, ar, i64_w, i32_w]
   rfl
  refine pz 10 13 ?_
  refine on1 11 none fun K hK => ?_
  obtain ⟨hs7, hs8, hs9, mH, apJ, aeS, apK, apL, aiC, aiD⟩ := cz5 qG.out
  have hns7_0 := vF.out
  have hms7_0 := vG.out
  refine sk1 ?_
  refine hK.out _ _ zS (fun hHeld => ?_)
  clear hK K
  refine dn1 ?_
  try go_wp2
  refine bodyPost_ret (results_cell_row rfl _ _ oE 39 #[.int .i64 a0_0, .string a0_1, .string a0_2, .float .f64 a0_3, .bool vE] (0, 0) _ rfl zC Tryz.underlying39 rfl (by kernel_rfl)) rfl ?_
  exact ⟨Z8, zB⟩
end
end Go.Proofs.YtkjnahgicfmicaaGreatDoor.Sp
namespace Go.Proofs.YtkjnahgicfmicaaGreatDoor.Gj
set_option maxHeartbeats 8000000
open Go.RowKit Go.PW Go.PL Go.PM Sp
attribute [local go_sem] run_store_float
set_option linter.unusedVariables false
set_option linter.unusedSimpArgs false
set_option maxRecDepth 100000
def gjS (g : GR) : S39 := ⟨g.ty, g.raw, g.str, g.num, if g.ty = 0 then ((g.raw.size : Int) != 0) else true⟩
def toS (x : GR × GR) : S41 := ⟨gjS x.1, gjS x.2⟩
def GR.b (g : GR) : Array Value := #[.int .i64 g.ty, .string g.raw, .string g.str, .float .f64 g.num, .int .i64 g.idx, .slice g.sa g.sn g.sc]
theorem gj_calls (g : GR) (w : World) : Calls Tryz.prog 24 #[.agg #[.int .i64 g.ty, .string g.raw, .string g.str, .float .f64 g.num, .int .i64 g.idx, .slice g.sa g.sn g.sc]] w fun e w' =>
 e = .returned (.agg #[.int .i64 (gjS g).f0, .string (gjS g).f1, .string (gjS g).f2, .float .f64 (gjS g).f3, .bool (gjS g).f4]) ∧ Below w.heap.size w w' := by
 refine gjG_calls _ _ _ _ _ _ _ _ _ _ _ _ _ w ?_
 by_cases h : g.ty = 0
 ·simp [fE.f, dK.f, gjS, h]
 ·simp [fE.f, dK.f, gjS, h]
def Ji (B C : Nat) (stop : Int) (A : Nat → Prop) (l : List (GR × GR)) (w : World) : Prop :=
 (∀ k, A k → k < w.heap.size) ∧ (¬ A B ∧ ¬ A C ∧ C < B ∧ w.heap[C]? = some (.cells #[.int .i64 stop] 3 (0, 0))) ∧ ∃ v, w.heap[B]? = some (.cells #[v] 34 (0, 0)) ∧ k41.R 41 w (B + 1) (fun k => ¬ A k) v (l.map toS)
theorem info41 : (Tryz.prog.info? 41).map (fun i => (i.zero, i.size, i.bytes)) = some (some (.agg #[.int .i64 0, .string ⟨#[]⟩, .string ⟨#[]⟩, .float .f64 0, .bool false, .int .i64 0, .string ⟨#[]⟩, .string ⟨#[]⟩, .float .f64 0, .bool false]), 10, 112) := by kernel_rfl
theorem keepT {W : World} {B b3 b4 : Nat} {v0 : Value} {k0 k1 k2 k3 k4 k5 u0 u1 u2 u3 u4 u5 : Value} (h : W.heap[B]? = some (.cells #[v0] 34 (0, 0))) (h3 : W.heap[b3]? = some (.cells #[k0, k1, k2, k3, k4, k5] 55 (0, 0))) (h4 : W.heap[b4]? = some (.cells #[u0, u1, u2, u3, u4, u5] 55 (0, 0))) :
 W.cell? ⟨B, 0, none⟩ = some v0 ∧ W.cell? ⟨b3, 0, none⟩ = some k0 ∧ W.cell? ⟨b3, 1, none⟩ = some k1 ∧ W.cell? ⟨b3, 2, none⟩ = some k2 ∧ W.cell? ⟨b3, 3, none⟩ = some k3 ∧ W.cell? ⟨b3, 4, none⟩ = some k4 ∧ W.cell? ⟨b3, 5, none⟩ = some k5 ∧
  W.cell? ⟨b4, 0, none⟩ = some u0 ∧ W.cell? ⟨b4, 1, none⟩ = some u1 ∧ W.cell? ⟨b4, 2, none⟩ = some u2 ∧ W.cell? ⟨b4, 3, none⟩ = some u3 ∧ W.cell? ⟨b4, 4, none⟩ = some u4 ∧ W.cell? ⟨b4, 5, none⟩ = some u5 :=
 ⟨(ax h 0), (ax h3 0), (ax h3 1), (ax h3 2), (ax h3 3), (ax h3 4), (ax h3 5), (ax h4 0), (ax h4 1), (ax h4 2), (ax h4 3), (ax h4 4), (ax h4 5)⟩
def goOn (stop : Int) (n : Nat) : Bool := ((n : Nat) : Int) != stop
theorem jtem_call (B C : Nat) (stop : Int) {A : Nat → Prop} {l : List (GR × GR)} {w : World} (k v : GR) (hI : Ji B C stop A l w) (hl : l.length ≤ 1000000) :
 Calls Tryz.prog 28 (#[k.v, v.v] ++ #[.pointer (some ⟨B, 0, none⟩), .pointer (some ⟨C, 0, none⟩)]) w fun e w' => e = .returned (.bool (goOn stop (l.length + 1))) ∧ Ji B C stop A (l ++ [(k, v)]) w' ∧ Kp A w w' := by
 obtain ⟨hA0, ⟨hA, hAC, hCB, hq⟩, v0, hz, ho⟩ := hI
 show Calls Tryz.prog 28 #[.agg #[.int .i64 k.ty, .string k.raw, .string k.str, .float .f64 k.num, .int .i64 k.idx, .slice k.sa k.sn k.sc], .agg #[.int .i64 v.ty, .string v.raw, .string v.str, .float .f64 v.num, .int .i64 v.idx, .slice v.sa v.sn v.sc], .pointer (some ⟨B, 0, none⟩), .pointer (some ⟨C, 0, none⟩)] w _
 have hlt := blk_lt hz
 have hu34 := Tryz.underlying34
 have hu55 := Tryz.underlying55
 have HZ := ab hz
 have HO := ab ho
 have HB := ab (Below.refl w.heap.size w)
 have HQ := ab hq
 clear hz ho hq
 go_enter Tryz.func28, Tryz.ntmps28
 go_wp2_with (first | (refine aw 4 #[.int .i64 k.ty, .string k.raw, .string k.str, .float .f64 k.num, .int .i64 k.idx, .slice k.sa k.sn k.sc] 55 ?_; intro b3 hg w3 hbox hb; have HB3 := ab (below_step HB.out hb); have HZ3 := ab (blk_below HZ.out hb); have HQ3 := ab (blk_below HQ.out hb); have BK3 := ab hbox; have G3 := ab hg; clear hb hbox hg) | (refine aw 5 #[.int .i64 v.ty, .string v.raw, .string v.str, .float .f64 v.num, .int .i64 v.idx, .slice v.sa v.sn v.sc] 55 ?_; intro b4 hg w4 hbox hb; have HB4 := ab (below_step HB3.out hb); have HZ4 := ab (blk_below HZ3.out hb); have HQ4 := ab (blk_below HQ3.out hb); have Ih := ab (blk_below BK3.out hb); have BK4 := ab hbox; have G4 := ab hg; clear hb hbox hg))
 refine start_ (n := 9) (S := fun w' => w'.cell? ⟨B, 0, none⟩ = some v0 ∧ w'.cell? ⟨b3, 0, none⟩ = some (.int .i64 k.ty) ∧ w'.cell? ⟨b3, 1, none⟩ = some (.string k.raw) ∧ w'.cell? ⟨b3, 2, none⟩ = some (.string k.str) ∧ w'.cell? ⟨b3, 3, none⟩ = some (.float .f64 k.num) ∧ w'.cell? ⟨b3, 4, none⟩ = some (.int .i64 k.idx) ∧ w'.cell? ⟨b3, 5, none⟩ = some (.slice k.sa k.sn k.sc) ∧ w'.cell? ⟨b4, 0, none⟩ = some (.int .i64 v.ty) ∧ w'.cell? ⟨b4, 1, none⟩ = some (.string v.raw) ∧ w'.cell? ⟨b4, 2, none⟩ = some (.string v.str) ∧ w'.cell? ⟨b4, 3, none⟩ = some (.float .f64 v.num) ∧ w'.cell? ⟨b4, 4, none⟩ = some (.int .i64 v.idx) ∧ w'.cell? ⟨b4, 5, none⟩ = some (.slice v.sa v.sn v.sc)) (ds := [8]) #[false, false, false, false, false, false, false, false, false] (by kernel_rfl) rfl rfl (keepT (blk_drew HZ4.out) (blk_drew Ih.out) (blk_drew BK4.out)) (fun hHeld => ?_)
 have HB5 := ab (below_drew1 HB4.out)
 have HZ5 := ab (blk_drew HZ4.out)
 have HQ5 := ab (blk_drew HQ4.out)
 have Ii := ab (blk_drew Ih.out)
 have Ij := ab (blk_drew BK4.out)
 generalize w4.drew = w5 at HB5 HZ5 HQ5 Ii Ij hHeld ⊢
 refine tk13 0 7 ?_
 refine tk13 1 8 ?_
 refine tk13 3 10 ?_
 refine on1 2 (some 9) fun K hK => ?_
 refine goes_ Tryz.func24 (by kernel_rfl) rfl #[.agg #[.int .i64 k.ty, .string k.raw, .string k.str, .float .f64 k.num, .int .i64 k.idx, .slice k.sa k.sn k.sc]] (by rfl) rfl rfl (by (try simp only [List.map_toArray, List.map_cons, List.map_nil]); rfl) ?_
 refine (gj_calls k _).mono ?_
 rintro e w6 ⟨rfl, hb⟩
 refine ⟨_, rfl, ?_⟩
 have HB6 := ab (below_step HB5.out hb)
 have HZ6 := ab (blk_below HZ5.out hb)
 have HQ6 := ab (blk_below HQ5.out hb)
 have Ik := ab (blk_below Ii.out hb)
 have Il := ab (blk_below Ij.out hb)
 clear hb
 refine hK.out _ _ (keepT HZ6.out Ik.out Il.out) (fun hHeld => ?_)
 clear hK K
 refine norm_ (a' := ?_) ?_ ?_
 rotate_left
 ·show Act.put _ (some 9) _ = _
  simp only [Act.put, ap, aq, ar, i64_w, i32_w]
  rfl
 refine on1 4 (some 11) fun K hK => ?_
 refine goes_ Tryz.func24 (by kernel_rfl) rfl #[.agg #[.int .i64 v.ty, .string v.raw, .string v.str, .float .f64 v.num, .int .i64 v.idx, .slice v.sa v.sn v.sc]] (by rfl) rfl rfl (by (try simp only [List.map_toArray, List.map_cons, List.map_nil]); rfl) ?_
 refine (gj_calls v _).mono ?_
 rintro e w7 ⟨rfl, hb⟩
 refine ⟨_, rfl, ?_⟩
 have HB7 := ab (below_step HB6.out hb)
 have HZ7 := ab (blk_below HZ6.out hb)
 have HQ7 := ab (blk_below HQ6.out hb)
 have zD := ab (blk_below Ik.out hb)
 have zF := ab (blk_below Il.out hb)
 clear hb
 refine hK.out _ _ (keepT HZ7.out zD.out zF.out) (fun hHeld => ?_)
 clear hK K
 refine norm_ (a' := ?_) ?_ ?_
 rotate_left
 ·show Act.put _ (some 11) _ = _
  simp only [Act.put, ap, aq, ar, i64_w, i32_w]
  rfl
 refine pz 5 12 ?_
 refine on1 6 (some 13) fun K hK => ?_
 refine value_ (w1 := ?_) (v := ?_) (by rfl) rfl ?_ ?_
 rotate_left 2
 ·go_simp
  constructor
  ·rfl
  ·rfl
 refine hK.out _ _ (keepT (blk_alloc HZ7.out _) (blk_alloc zD.out _) (blk_alloc zF.out _)) (fun hHeld => ?_)
 clear hK K
 refine norm_ (a' := ?_) ?_ ?_
 rotate_left
 ·show Act.put _ (some 13) _ = _
  simp only [Act.put, ap, aq, ar, i64_w, i32_w]
  rfl
 refine on1 7 (some 14) fun K hK => ?_
 have Hu := ab (Kd.R_below HO.out HB7.out)
 refine Kd.R_append_step k41 (w0 := w7) (B + 1) (by rfl) (.tmp 7) (.tmp 13) 34 41 (.agg #[.int .i64 0, .string ⟨#[]⟩, .string ⟨#[]⟩, .float .f64 0, .bool false, .int .i64 0, .string ⟨#[]⟩, .string ⟨#[]⟩, .float .f64 0, .bool false]) 112 rfl Tryz.underlying34 info41 rfl (by decide) (by omega) v0 (l.map toS) (toS (k, v)) [.int .i64 (gjS k).f0, .string (gjS k).f1, .string (gjS k).f2, .float .f64 (gjS k).f3, .bool (gjS k).f4, .int .i64 (gjS v).f0, .string (gjS v).f1, .string (gjS v).f2, .float .f64 (gjS v).f3, .bool (gjS v).f4] (fun q => ¬ A q) (fun _ => False) rfl rfl ?aP (fun _ hk => hk.elim) ?aF ?aO ?aB ?aS ?aL ?_
 (case aP => exact k41_mkM _ _ _ _)
 (case aB => exact Below.mono (Below.refl _ _) (blk_lt HZ7.out))
 (case aF => intro q hq hA1; have := hA0 q hA1; have := HB7.out.size; omega)
 (case aO => exact Hu.out)
 (case aS => exact blk_lt HZ7.out)
 (case aL => simp only [List.length_map]; omega)
 intro v1 w8 ho hb hg hat
 obtain ⟨En, co8, e8⟩ := Kd.R_slice ho
 subst e8
 obtain ⟨n8, hn8⟩ : ∃ n8, (l.map toS ++ [toS (k, v)]).length = n8 := ⟨_, rfl⟩
 rw [hn8] at ho
 try rw [hn8]
 have HZ8 := ab (blk_grown HZ7.out hg (Kd.R_ne Hu.out HZ7.out (by decide)))
 have HQ8 := ab (blk_grown HQ7.out hg (Kd.R_ne Hu.out HQ7.out (by decide)))
 have aeY := ab (blk_grown zD.out hg (Kd.R_ne Hu.out zD.out (by decide)))
 have aeZ := ab (blk_grown zF.out hg (Kd.R_ne Hu.out zF.out (by decide)))
 refine hK.out _ _ (keepT HZ8.out aeY.out aeZ.out) (fun hHeld => ?_)
 clear hK K
 refine norm_ (a' := ?_) ?_ ?_
 rotate_left
 ·show Act.put _ (some 14) _ = _
  simp only [Act.put, ap, aq, ar, i64_w, i32_w]
  rfl
 refine last_ (i := 8) (N := none) #[true, true, true, true, true, true, true, true, true] rfl rfl (by kernel_rfl) (by decide) (fun K hK => ?_)
 have hs7 : w8.cell? ⟨B, 0, none⟩ = some v0 := (ax HZ8.out 0)
 have aeS := blk_frozen HZ8.out 0
 refine sk1 ?_
 refine hK.out _ _ ?_
 clear hK K
 refine dn1 ?_
 have HZ9 := ab (blk_put (cs' := #[.slice En n8 co8]) HZ8.out 0 (.slice En n8 co8) rfl)
 have HQ9 := ab (blk_far (p := ⟨B, 0, none⟩) HQ8.out (Nat.ne_of_lt hCB) (.slice En n8 co8))
 have ho9 : Kd.R k41 41 (w8.setCell ⟨B, 0, none⟩ (.slice En n8 co8)) (B + 1) (fun q => ¬ A q) (.slice En n8 co8) (l.map toS ++ [toS (k, v)]) := by
  refine Kd.R_mono (ok := fun q => (¬ A q) ∧ B < q) (Kd.R_far (Kd.R_mono (Kd.R_bound ho) (fun q hq => ⟨hq.1, hq.2.1⟩)) (fun q hq => ?_) _) (fun _ hq => hq.1)
  have := hq.2
  show q ≠ B
  omega
 have hk9 : Kp A w (w8.setCell ⟨B, 0, none⟩ (.slice En n8 co8)) := by
  have h7 : Kp A w w7 := Kp.of_below HB7.out
  refine ⟨hg.os.trans h7.os, hg.tape.trans h7.tape, hg.output.trans h7.output, ?_, fun q hq ha => ?_⟩
  ·have h2 := HB7.out.size
   have h3 := hg.size
   simp only [World.setCell, Array.size_modify]
   omega
  ·have h2 := HB7.out.size
   have hne : q ≠ B := fun e => hA (e ▸ ha)
   rw [Below.heap_setCell _ _ _ _ hne, hg.block q (by omega) (fun e => Hu.out.1 q e.symm ha)]
   exact h7.block q hq ha
 have HX9 := ab (And.intro ho9 hk9)
 clear ho9 hk9 ho
 generalize w8.setCell ⟨B, 0, none⟩ (.slice En n8 co8) = w9 at HZ9 HQ9 HX9 ⊢
 have hx1 : w9.cell? ⟨B, 0, none⟩ = some (.slice En n8 co8) := (ax HZ9.out 0)
 have hx2 : w9.cell? ⟨C, 0, none⟩ = some (.int .i64 stop) := (ax HQ9.out 0)
 go_wp2
 go_ret
 have hn : n8 = l.length + 1 := by rw [← hn8]; simp
 refine ⟨by rw [hn]; rfl, ⟨fun q hq => Nat.lt_of_lt_of_le (hA0 q hq) HX9.out.2.size, ⟨hA, hAC, hCB, HQ9.out⟩, _, HZ9.out, ?_⟩, HX9.out.2⟩
 rw [List.map_append]
 exact HX9.out.1
theorem jtem_iter (B C : Nat) (stop : Int) : Iter 28 #[.pointer (some ⟨B, 0, none⟩), .pointer (some ⟨C, 0, none⟩)] (goOn stop) (Ji B C stop) where
 fn := ⟨_, Tryz.func28, rfl, rfl⟩
 less := fun ⟨h0, ⟨h1, h2, h3, h4⟩, v, hz, ho⟩ ha => ⟨fun k hk => h0 k (ha k hk), ⟨fun h => h1 (ha _ h), fun h => h2 (ha _ h), h3, h4⟩, v, hz, Kd.R_mono ho (fun k hk h => hk (ha k h))⟩
 grow := fun {A l w w'} ⟨h0, ⟨h1, h2, h3, h4⟩, v, hz, ho⟩ hb => ⟨fun k hk => by
  rcases hk with hk | hk
  ·exact Nat.lt_of_lt_of_le (h0 k hk) hb.size
  ·exact hk.2, ⟨fun h => by
  have := blk_lt hz
  rcases h with h | h
  ·exact h1 h
  ·omega, fun h => by
  have := blk_lt h4
  rcases h with h | h
  ·exact h2 h
  ·omega, h3, blk_below h4 hb⟩, v, blk_below hz hb, Kd.R_mono (Kd.R_below (Kd.R_bound ho) hb) (fun k hk h => by
  have := hk.2.2.1
  rcases h with h | h
  ·exact hk.1 h
  ·omega)⟩
 far := fun {A l w} p u ⟨h0, ⟨h1, h2, h3, h4⟩, v, hz, ho⟩ hp => ⟨fun k hk => by simp only [World.setCell, Array.size_modify]; exact h0 k hk, ⟨h1, h2, h3, blk_far h4 (fun e => h2 (e ▸ hp)) u⟩, v, blk_far hz (fun e => h1 (e ▸ hp)) u, Kd.R_far ho (fun k hk e => hk (e ▸ hp)) u⟩
 call := fun k v hI hl => jtem_call _ _ _ k v hI hl
theorem Ji.new {B C : Nat} {stop : Int} {A : Nat → Prop} {w : World} (h : w.heap[B]? = some (.cells #[.slice none 0 0] 34 (0, 0))) (h2 : w.heap[C]? = some (.cells #[.int .i64 stop] 3 (0, 0))) (hCB : C < B) (hA : ∀ k, A k → k < w.heap.size) (hB : ¬ A B) (hC : ¬ A C) : Ji B C stop A [] w :=
 ⟨hA, ⟨hB, hC, hCB, h2⟩, _, h, Kd.R_nil _ _ _ _ _⟩
theorem gjOf_calls (a0 : Int) (a1 a2 : ByteArray) (a3 : Nat) (a4 : Bool) (w : World) : Calls Tryz.prog 27 #[.agg #[.int .i64 a0, .string a1, .string a2, .float .f64 a3, .bool a4]] w fun e w' => e = .returned (.agg #[.int .i64 a0, .string a1, .string a2, .float .f64 a3, .int .i64 0, .slice none 0 0]) ∧ Below w.heap.size w w' := by
 have hu39 := Tryz.underlying39
 have hu55 := Tryz.underlying55
 have HB := ab (Below.refl w.heap.size w)
 go_enter Tryz.func27, Tryz.ntmps27
 go_wp2_with (first | (refine aw 1 #[.int .i64 a0, .string a1, .string a2, .float .f64 a3, .bool a4] 39 ?_; intro b1 hg w1 hz hb; replace HB := ab (below_step HB.out hb); have Z1 := ab hz; clear hb hz hg) | (refine aw 2 #[.int .i64 0, .string (⟨#[]⟩ : ByteArray), .string (⟨#[]⟩ : ByteArray), .float .f64 (0 : Nat), .int .i64 0, .slice none 0 0] 55 ?_; intro b2 hg w2 hz hb; have G2 := ab (show w.heap.size ≤ b2 by rw [hg]; exact HB.out.size); replace HB := ab (below_step HB.out hb); replace Z1 := ab (blk_below Z1.out hb); have Z2 := ab hz; clear hb hz hg; obtain ⟨p0, p1, p2, p3, p4, q0, q1, q2, q3, q4⟩ := cz5 Z1.out; obtain ⟨r0, r1, r2, r3, r4, r5, s0, s1, s2, s3, s4, s5⟩ := cz6 Z2.out))
 refine bodyPost_ret (results_cell_row rfl _ _ b2 55 #[.int .i64 a0, .string a1, .string a2, .float .f64 a3, .int .i64 0, .slice none 0 0] (0, 0) _ rfl (blk_put (blk_put (blk_put (blk_put (blk_put (blk_put Z2.out 0 _ rfl) 1 _ rfl) 2 _ rfl) 3 _ rfl) 4 _ rfl) 5 _ rfl) hu55 rfl (by kernel_rfl)) rfl ?_
 exact ⟨rfl, below_set (below_set (below_set (below_set (below_set (below_set HB.out G2.out) G2.out) G2.out) G2.out) G2.out) G2.out⟩
end Go.Proofs.YtkjnahgicfmicaaGreatDoor.Gj

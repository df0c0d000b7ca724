import Derived.Test.YtmpdhdnoohmndaaGreatDoorZip
import Derived.Test.YtmpdhdnoohmndaaGreatDoorQa
import Derived.Test.YtmpdhdnoohmndaaGreatDoorItr
import Derived.Deep.RegionHeld3
import Derived.Test.YtmpdhdnoohmndaaGreatDoorFeo
import Derived.Test.YtmpdhdnoohmndaaGreatDoorPrc
namespace Go.Proofs.YtmpdhdnoohmndaaGreatDoor.Sp
open Go.RowKit Go.Proofs.YtmpdhdnoohmndaaGreatDoorW.PrintWords Go.Proofs.YtmpdhdnoohmndaaGreatDoorW.PrintLast Go.Proofs.YtmpdhdnoohmndaaGreatDoorW.PrintMore
attribute [local go_sem] run_store_float
set_option linter.unusedVariables false
set_option linter.unusedSimpArgs false
set_option maxHeartbeats 8000000
set_option maxRecDepth 100000
def eQ.T1 : Bool × List (List Nat × List Nat) := (true, [([], []), ([0], [0]), ([], []), ([2], [2]), ([], []), ([4], [4]), ([], []), ([6], [6]), ([], []), ([8], [8]), ([1, 3, 5, 7, 9], [1, 3, 5, 7, 9]), ([10, 9, 0, 1, 2, 3, 4, 5, 6, 7, 8, 9, 10], [10])])
def eQ.B1 : List Nat := [0, 1, 0, 4, 0, 16, 0, 64, 0, 256, 1023, 2047]
theorem eQ.tab1 : rtab .any (opsOf Tryz.f18 1) = eQ.T1 := by kernel_rfl
theorem eQ.bits1 : waitsOk eQ.T1.2 eQ.B1 = true := by kernel_rfl
theorem existsG_calls (ty : Int) (a b : au) (f : Nat) (i : Int) (A : Option Addr) (c n : Nat) (w : World) :
 Calls Tryz.prog 29 #[.agg #[.int .i64 ty, .string a, .string b, .float .f64 f, .int .i64 i, .slice A n c]] w fun e w' => e = .returned (.bool (if ty = 0 then ((a.size : Int) != 0) else true)) ∧ Below w.heap.size w w' := by
 by_cases h : ty = 0
 · have c1 : (ty != 0) = false := aj h
   rw [if_pos h]
   clear h
   go_enter Tryz.func29, Tryz.ntmps29
   go_wp2_with (fail)
   go_ret
   exact ⟨rfl, below_alloc (Below.refl _ _) _⟩
 · have c1 : (ty != 0) = true := ai h
   rw [if_neg h]
   clear h
   go_enter Tryz.func29, Tryz.ntmps29
   go_wp2_with (fail)
   go_ret
   exact ⟨rfl, below_alloc (Below.refl _ _) _⟩
theorem gjG_calls (a0_0 : Int) (a0_1 : au) (a0_2 : au) (a0_3 : Nat) (a0_4 : Int) (A0_5 : Option Addr) (c0_5 : Nat) (n0_5 : Nat) (uO : Bool) (w : World) (ht : (if a0_0 = 0 then ((a0_1.size : Int) != 0) else true) = uO) :
 Calls Tryz.prog 18 #[.agg #[.int .i64 a0_0, .string a0_1, .string a0_2, .float .f64 a0_3, .int .i64 a0_4, .slice A0_5 n0_5 c0_5]] w fun e w' => e = .returned (.agg #[.int .i64 a0_0, .string a0_1, .string a0_2, .float .f64 a0_3, .bool uO]) ∧ Below w.heap.size w w' := by
 have hu55 := Tryz.underlying46
 have hu39 := Tryz.underlying38
 have HB := aa (Below.refl w.heap.size w)
 have HTt := aa ht
 clear ht
 go_enter Tryz.func18, Tryz.ntmps18
 try go_wp2_with (first | (refine aw 1 #[.int .i64 a0_0, .string a0_1, .string a0_2, .float .f64 a0_3, .int .i64 a0_4, .slice A0_5 n0_5 c0_5] 46 ?_; intro gN hg w3 hbox hb; have kI := aa (hbox); have Rs : Aside0 (w.heap.size ≤ gN) := ⟨Z24⟩; have Rt : Aside0 (w.heap.size ≤ gN) := ⟨Z24⟩; replace HB := aa (below_step (w := w) zB hb); clear hb hbox hg) | (refine aw 2 #[.int .i64 0, .string (⟨#[]⟩ : au), .string (⟨#[]⟩ : au), .float .f64 (0 : Nat), .bool false] 38 ?_; intro jE hg w4 hbox hb; have kJ := aa (hbox); have Ru : Aside0 (w.heap.size ≤ jE) := ⟨Z24⟩; have Rv : Aside0 (w.heap.size ≤ jE) := ⟨Z24⟩; replace HB := aa (below_step (w := w) zB hb); have nK : Aside0 (gN ≠ jE) := ⟨by rw [hg]; exact Nat.ne_of_lt (blk_lt (g := gN) zC)⟩; have nM : Aside0 (jE ≠ gN) := ⟨by rw [hg]; exact Nat.ne_of_gt (blk_lt (g := gN) zC)⟩; replace kI := aa (blk_below (g := gN) zC hb); clear hb hbox hg))
 replace kI := aa (blk_drew kI.out)
 replace kJ := aa (blk_drew kJ.out)
 replace HB := aa (below_drew1 HB.out)
 refine st1 12 [] (S := fun w' => H6 w' gN (.int .i64 a0_0) (.string a0_1) (.string a0_2) (.float .f64 a0_3) (.int .i64 a0_4) (.slice A0_5 n0_5 c0_5)) (fun hHeld => ?_); refine with_tabW eQ.tab1 eQ.bits1 (fun HT_ HW_ => ?_)
 generalize w4.drew = w5 at kI kJ HB hHeld ⊢
 refine pz 0 3 ?_
 refine pz 2 5 ?_
 refine pz 4 7 ?_
 refine pz 6 9 ?_
 refine tk6 1 4 ?_
 refine tk6 3 6 ?_
 refine tk6 5 8 ?_
 refine tk6 7 10 ?_
 refine tk6 8 11 ?_
 refine on1 9 (some 12) fun K hK => ?_
 refine goes_ Tryz.func29 (by kernel_rfl) rfl #[.agg #[.int .i64 a0_0, .string a0_1, .string a0_2, .float .f64 a0_3, .int .i64 a0_4, .slice A0_5 n0_5 c0_5]] (by rfl) rfl rfl Z45 ?_
 with_reducible refine (existsG_calls a0_0 a0_1 a0_2 a0_3 a0_4 _ _ _ _).mono ?_
 rintro e w6 ⟨rfl, hb⟩; rw [HTt.out]
 refine ⟨_, rfl, ?_⟩
 replace kI := aa (blk_below (g := gN) zC hb)
 replace kJ := aa (blk_below (g := jE) zC hb)
 replace HB := aa (below_step (w := w) zB hb)
 try clear hb
 refine hK.out _ _ zS (fun hHeld => ?_)
 clear hK K
 refine norm_ (a' := ?_) ?_ ?_
 rotate_left
 ·show Act.put _ (some 12) _ = _
  simp only [Act.put, ao, ap, aq, i64_w, i32_w]
  rfl
 refine pz 10 13 ?_
 refine on1 11 none fun K hK => ?_
 obtain ⟨Pg, Xl, Xm, iH, Vr, Ph, Vs, Vt, Rw, Rx⟩ := cz5 kJ.out
 have hns7_0 := nK.out
 have hms7_0 := nM.out
 refine sk1 ?_
 refine hK.out _ _ zS (fun hHeld => ?_)
 clear hK K
 refine dn1 ?_
 try go_wp2
 refine bodyPost_ret (results_cell_row rfl _ _ jE 38 #[.int .i64 a0_0, .string a0_1, .string a0_2, .float .f64 a0_3, .bool uO] (0, 0) _ rfl zC Tryz.underlying38 rfl (by kernel_rfl)) rfl ?_
 exact ⟨Z6, zB⟩
end Go.Proofs.YtmpdhdnoohmndaaGreatDoor.Sp
namespace Go.Proofs.YtmpdhdnoohmndaaGreatDoor.Gj
open Go.RowKit Go.Proofs.YtmpdhdnoohmndaaGreatDoorW.PrintWords Go.Proofs.YtmpdhdnoohmndaaGreatDoorW.PrintLast Go.Proofs.YtmpdhdnoohmndaaGreatDoorW.PrintMore Sp
set_option linter.unusedVariables false
set_option linter.unusedSimpArgs false
set_option maxRecDepth 100000
def gjS (g : GR) : S39 := ⟨g.ty, g.raw, g.str, g.num, if g.ty = 0 then ((g.raw.size : Int) != 0) else true⟩
def toS (x : GR × GR) : S41 := ⟨gjS x.1, gjS x.2⟩
def GR.b (g : GR) : Array Value := #[.int .i64 g.ty, .string g.raw, .string g.str, .float .f64 g.num, .int .i64 g.idx, .slice g.sa g.sn g.sc]
theorem gj_calls (g : GR) (w : World) : Calls Tryz.prog 18 #[.agg #[.int .i64 g.ty, .string g.raw, .string g.str, .float .f64 g.num, .int .i64 g.idx, .slice g.sa g.sn g.sc]] w fun e w' =>
  e = .returned (.agg #[.int .i64 (gjS g).f0, .string (gjS g).f1, .string (gjS g).f2, .float .f64 (gjS g).f3, .bool (gjS g).f4]) ∧ Below w.heap.size w w' := by
 exact gjG_calls _ _ _ _ _ _ _ _ _ w rfl
def It (B : Nat) (A : Nat → Prop) (l : List (GR × GR)) (w : World) : Prop :=
 (∀ k, A k → k < w.heap.size) ∧ ¬ A B ∧ ∃ v, w.heap[B]? = some (.cells #[v] 33 (0, 0)) ∧ k41.R 40 w (B + 1) (fun k => ¬ A k) v (l.map toS)
theorem info41 : (Tryz.prog.info? 40).map (fun i => (i.zero, i.size, i.bytes)) = some (some (.agg #[.int .i64 0, .string ⟨#[]⟩, .string ⟨#[]⟩, .float .f64 0, .bool false, .int .i64 0, .string ⟨#[]⟩, .string ⟨#[]⟩, .float .f64 0, .bool false]), 10, 112) := by kernel_rfl
theorem keepT {W : World} {B b3 b4 : Nat} {v0 : Value} {k0 k1 k2 k3 k4 k5 u0 u1 u2 u3 u4 u5 : Value} (h : W.heap[B]? = some (.cells #[v0] 33 (0, 0))) (h3 : W.heap[b3]? = some (.cells #[k0, k1, k2, k3, k4, k5] 46 (0, 0))) (h4 : W.heap[b4]? = some (.cells #[u0, u1, u2, u3, u4, u5] 46 (0, 0))) :
  W.cell? ⟨B, 0, none⟩ = some v0 ∧ W.cell? ⟨b3, 0, none⟩ = some k0 ∧ W.cell? ⟨b3, 1, none⟩ = some k1 ∧ W.cell? ⟨b3, 2, none⟩ = some k2 ∧ W.cell? ⟨b3, 3, none⟩ = some k3 ∧ W.cell? ⟨b3, 4, none⟩ = some k4 ∧ W.cell? ⟨b3, 5, none⟩ = some k5 ∧
   W.cell? ⟨b4, 0, none⟩ = some u0 ∧ W.cell? ⟨b4, 1, none⟩ = some u1 ∧ W.cell? ⟨b4, 2, none⟩ = some u2 ∧ W.cell? ⟨b4, 3, none⟩ = some u3 ∧ W.cell? ⟨b4, 4, none⟩ = some u4 ∧ W.cell? ⟨b4, 5, none⟩ = some u5 :=
 ⟨((blk_cell h 0).trans rfl), ((blk_cell h3 0).trans rfl), ((blk_cell h3 1).trans rfl), ((blk_cell h3 2).trans rfl), ((blk_cell h3 3).trans rfl), ((blk_cell h3 4).trans rfl), ((blk_cell h3 5).trans rfl), ((blk_cell h4 0).trans rfl), ((blk_cell h4 1).trans rfl), ((blk_cell h4 2).trans rfl), ((blk_cell h4 3).trans rfl), ((blk_cell h4 4).trans rfl), ((blk_cell h4 5).trans rfl)⟩
set_option maxHeartbeats 8000000 in
theorem item_call (B : Nat) {A : Nat → Prop} {l : List (GR × GR)} {w : World} (k v : GR) (hI : It B A l w) (hl : l.length ≤ 1000000) :
  Calls Tryz.prog 17 (#[k.v, v.v] ++ #[.pointer (some ⟨B, 0, none⟩)]) w fun e w' => e = .returned (.bool true) ∧ It B A (l ++ [(k, v)]) w' ∧ Kp A w w' := by
 obtain ⟨hA0, hA, v0, hz, ho⟩ := hI
 show Calls Tryz.prog 17 #[.agg #[.int .i64 k.ty, .string k.raw, .string k.str, .float .f64 k.num, .int .i64 k.idx, .slice k.sa k.sn k.sc], .agg #[.int .i64 v.ty, .string v.raw, .string v.str, .float .f64 v.num, .int .i64 v.idx, .slice v.sa v.sn v.sc], .pointer (some ⟨B, 0, none⟩)] w _
 have hlt := blk_lt hz
 have hu34 := Tryz.underlying33
 have hu55 := Tryz.underlying46
 have HZ := aa hz
 have HO := aa ho
 have HB := aa (Below.refl w.heap.size w)
 clear hz ho
 go_enter Tryz.func17, Tryz.ntmps17
 go_wp2_with (first | (refine aw 3 #[.int .i64 k.ty, .string k.raw, .string k.str, .float .f64 k.num, .int .i64 k.idx, .slice k.sa k.sn k.sc] 46 ?_; intro b3 hg w3 hbox hb; have HB3 := aa (below_step HB.out hb); have HZ3 := aa (blk_below HZ.out hb); have Vu := aa hbox; have G3 := aa hg; clear hb hbox hg) | (refine aw 4 #[.int .i64 v.ty, .string v.raw, .string v.str, .float .f64 v.num, .int .i64 v.idx, .slice v.sa v.sn v.sc] 46 ?_; intro b4 hg w4 hbox hb; have HB4 := aa (below_step HB3.out hb); have HZ4 := aa (blk_below HZ3.out hb); have wQ := aa (blk_below Vu.out hb); have Ry := aa hbox; have G4 := aa hg; clear hb hbox hg))
 refine start_ (n := 9) (S := fun w' => w'.cell? ⟨B, 0, none⟩ = some v0 ∧ w'.cell? ⟨b3, 0, none⟩ = some (.int .i64 k.ty) ∧ w'.cell? ⟨b3, 1, none⟩ = some (.string k.raw) ∧ w'.cell? ⟨b3, 2, none⟩ = some (.string k.str) ∧ w'.cell? ⟨b3, 3, none⟩ = some (.float .f64 k.num) ∧ w'.cell? ⟨b3, 4, none⟩ = some (.int .i64 k.idx) ∧ w'.cell? ⟨b3, 5, none⟩ = some (.slice k.sa k.sn k.sc) ∧ w'.cell? ⟨b4, 0, none⟩ = some (.int .i64 v.ty) ∧ w'.cell? ⟨b4, 1, none⟩ = some (.string v.raw) ∧ w'.cell? ⟨b4, 2, none⟩ = some (.string v.str) ∧ w'.cell? ⟨b4, 3, none⟩ = some (.float .f64 v.num) ∧ w'.cell? ⟨b4, 4, none⟩ = some (.int .i64 v.idx) ∧ w'.cell? ⟨b4, 5, none⟩ = some (.slice v.sa v.sn v.sc)) (ds := [8]) #[false, false, false, false, false, false, false, false, false] (by kernel_rfl) rfl rfl (keepT (blk_drew HZ4.out) (blk_drew wQ.out) (blk_drew Ry.out)) (fun hHeld => ?_)
 have HB5 := aa (below_drew1 HB4.out)
 have HZ5 := aa (blk_drew HZ4.out)
 have wR := aa (blk_drew wQ.out)
 have wS := aa (blk_drew Ry.out)
 generalize w4.drew = w5 at HB5 HZ5 wR wS hHeld ⊢
 refine take_ (i := 0) (N := some 6) (v := ?_) (a' := ?_) #[true, false, false, false, false, false, false, false, false] rfl rfl (by kernel_rfl) (fun _ _ _ h => h) (Or.inl ⟨by rfl, ?_⟩) hHeld ?_ ?_
 rotate_left
 ·rintro w' ⟨s0, s1, s2, s3, s4, s5, s6, s7, s8, s9, s10, s11, s12⟩
  go_simp
  with_reducible rfl
 rotate_left
 ·simp only [Act.put, ao, ap, aq, i64_w, i32_w]
  rfl
 refine take_ (i := 1) (N := some 7) (v := ?_) (a' := ?_) #[true, true, false, false, false, false, false, false, false] rfl rfl (by kernel_rfl) (fun _ _ _ h => h) (Or.inl ⟨by rfl, ?_⟩) hHeld ?_ ?_
 rotate_left
 ·rintro w' ⟨s0, s1, s2, s3, s4, s5, s6, s7, s8, s9, s10, s11, s12⟩
  go_simp
  with_reducible rfl
 rotate_left
 ·simp only [Act.put, ao, ap, aq, i64_w, i32_w]
  rfl
 refine take_ (i := 3) (N := some 9) (v := ?_) (a' := ?_) #[true, true, false, true, false, false, false, false, false] rfl rfl (by kernel_rfl) (fun _ _ _ h => h) (Or.inl ⟨by rfl, ?_⟩) hHeld ?_ ?_
 rotate_left
 ·rintro w' ⟨s0, s1, s2, s3, s4, s5, s6, s7, s8, s9, s10, s11, s12⟩
  go_simp
  with_reducible rfl
 rotate_left
 ·simp only [Act.put, ao, ap, aq, i64_w, i32_w]
  rfl
 refine one_ (i := 2) (N := some 8) #[true, true, true, true, false, false, false, false, false] rfl rfl (by kernel_rfl) (by decide) (fun K hK => ?_)
 refine goes_ Tryz.func18 (by kernel_rfl) rfl #[.agg #[.int .i64 k.ty, .string k.raw, .string k.str, .float .f64 k.num, .int .i64 k.idx, .slice k.sa k.sn k.sc]] (by rfl) rfl rfl (by (try simp only [List.map_toArray, List.map_cons, List.map_nil]); rfl) ?_
 refine (gj_calls k _).mono ?_
 rintro e w6 ⟨rfl, hb⟩
 refine ⟨_, rfl, ?_⟩
 have HB6 := aa (below_step HB5.out hb)
 have HZ6 := aa (blk_below HZ5.out hb)
 have wT := aa (blk_below wR.out hb)
 have wU := aa (blk_below wS.out hb)
 clear hb
 refine hK.out _ _ (keepT HZ6.out wT.out wU.out) (fun hHeld => ?_)
 clear hK K
 refine norm_ (a' := ?_) ?_ ?_
 rotate_left
 ·show Act.put _ (some 8) _ = _
  simp only [Act.put, ao, ap, aq, i64_w, i32_w]
  rfl
 refine one_ (i := 4) (N := some 10) #[true, true, true, true, true, false, false, false, false] rfl rfl (by kernel_rfl) (by decide) (fun K hK => ?_)
 refine goes_ Tryz.func18 (by kernel_rfl) rfl #[.agg #[.int .i64 v.ty, .string v.raw, .string v.str, .float .f64 v.num, .int .i64 v.idx, .slice v.sa v.sn v.sc]] (by rfl) rfl rfl (by (try simp only [List.map_toArray, List.map_cons, List.map_nil]); rfl) ?_
 refine (gj_calls v _).mono ?_
 rintro e w7 ⟨rfl, hb⟩
 refine ⟨_, rfl, ?_⟩
 have HB7 := aa (below_step HB6.out hb)
 have HZ7 := aa (blk_below HZ6.out hb)
 have pT := aa (blk_below wT.out hb)
 have pU := aa (blk_below wU.out hb)
 clear hb
 refine hK.out _ _ (keepT HZ7.out pT.out pU.out) (fun hHeld => ?_)
 clear hK K
 refine norm_ (a' := ?_) ?_ ?_
 rotate_left
 ·show Act.put _ (some 10) _ = _
  simp only [Act.put, ao, ap, aq, i64_w, i32_w]
  rfl
 refine pure_ (i := 5) (N := some 11) (v := ?_) (a' := ?_) #[true, true, true, true, true, true, false, false, false] rfl rfl (by kernel_rfl) (fun _ _ _ h => h) (Or.inl ⟨by rfl, ?_⟩) ?_ ?_
 rotate_left
 ·intro w'
  go_simp
  with_reducible rfl
 rotate_left
 ·simp only [Act.put, ao, ap, aq, i64_w, i32_w]
  rfl
 refine one_ (i := 6) (N := some 12) #[true, true, true, true, true, true, true, false, false] rfl rfl (by kernel_rfl) (by decide) (fun K hK => ?_)
 refine value_ (w1 := ?_) (v := ?_) (by rfl) rfl ?_ ?_
 rotate_left 2
 ·go_simp
  constructor
  ·rfl
  ·rfl
 refine hK.out _ _ (keepT (blk_alloc HZ7.out _) (blk_alloc pT.out _) (blk_alloc pU.out _)) (fun hHeld => ?_)
 clear hK K
 refine norm_ (a' := ?_) ?_ ?_
 rotate_left
 ·show Act.put _ (some 12) _ = _
  simp only [Act.put, ao, ap, aq, i64_w, i32_w]
  rfl
 refine one_ (i := 7) (N := some 13) #[true, true, true, true, true, true, true, true, false] rfl rfl (by kernel_rfl) (by decide) (fun K hK => ?_)
 have wV := aa (Kd.R_below HO.out HB7.out)
 refine Kd.R_append_step k41 (w0 := w7) (B + 1) (by rfl) (.tmp 6) (.tmp 12) 33 40 (.agg #[.int .i64 0, .string ⟨#[]⟩, .string ⟨#[]⟩, .float .f64 0, .bool false, .int .i64 0, .string ⟨#[]⟩, .string ⟨#[]⟩, .float .f64 0, .bool false]) 112 rfl Tryz.underlying33 info41 rfl (by decide) (by omega) v0 (l.map toS) (toS (k, v)) [.int .i64 (gjS k).f0, .string (gjS k).f1, .string (gjS k).f2, .float .f64 (gjS k).f3, .bool (gjS k).f4, .int .i64 (gjS v).f0, .string (gjS v).f1, .string (gjS v).f2, .float .f64 (gjS v).f3, .bool (gjS v).f4] (fun q => ¬ A q) (fun _ => False) rfl rfl ?aP (fun _ hk => hk.elim) ?aF ?aO ?aB ?aS ?aL ?_
 (case aP => exact k41_mkM _ _ _ _)
 (case aB => exact Below.mono (Below.refl _ _) (blk_lt HZ7.out))
 (case aF => intro q hq hA1; have := hA0 q hA1; have := HB7.out.size; omega)
 (case aO => exact wV.out)
 (case aS => exact blk_lt HZ7.out)
 (case aL => simp only [List.length_map]; omega)
 intro v1 w8 ho hb hg hat
 obtain ⟨Xn, co8, e8⟩ := Kd.R_slice ho
 subst e8
 have HZ8 := aa (blk_grown HZ7.out hg (Kd.R_ne wV.out HZ7.out (by decide)))
 have Pi := aa (blk_grown pT.out hg (Kd.R_ne wV.out pT.out (by decide)))
 have Pj := aa (blk_grown pU.out hg (Kd.R_ne wV.out pU.out (by decide)))
 refine hK.out _ _ (keepT HZ8.out Pi.out Pj.out) (fun hHeld => ?_)
 clear hK K
 refine norm_ (a' := ?_) ?_ ?_
 rotate_left
 ·show Act.put _ (some 13) _ = _
  simp only [Act.put, ao, ap, aq, i64_w, i32_w]
  rfl
 refine last_ (i := 8) (N := none) #[true, true, true, true, true, true, true, true, true] rfl rfl (by kernel_rfl) (by decide) (fun K hK => ?_)
 have Pg : w8.cell? ⟨B, 0, none⟩ = some v0 := ((blk_cell HZ8.out 0).trans rfl)
 have Ph := blk_frozen HZ8.out 0
 refine skip_ (w1 := ?_) (by rfl) rfl ?_ ?_
 rotate_left
 ·go_simp
  rfl
 refine hK.out _ _ ?_
 clear hK K
 refine done_ (by kernel_rfl) ?_
 go_wp2
 go_ret
 refine ⟨by first | rfl | simp, ?_, ?_⟩
 ·refine ⟨fun q hq => ?_, hA, _, blk_put HZ8.out 0 _ rfl, ?_⟩
  ·have h1 := hA0 q hq
   have h2 := HB7.out.size
   have h3 := hg.size
   simp only [World.setCell, Array.size_modify]
   omega
  ·have el : (l.map toS ++ [toS (k, v)]).length = l.length + 1 := by simp
   rw [el] at ho
   rw [List.map_append]
   refine Kd.R_mono (ok := fun q => (¬ A q) ∧ B < q) (Kd.R_far (Kd.R_mono (Kd.R_bound ho) (fun q hq => ⟨hq.1, hq.2.1⟩)) (fun q hq => ?_) _) (fun _ hq => hq.1)
   have := hq.2
   show q ≠ B
   omega
 ·have h7 : Kp A w w7 := Kp.of_below HB7.out
  refine ⟨hg.os.trans h7.os, hg.tape.trans h7.tape, hg.output.trans h7.output, ?_, fun q hq ha => ?_⟩
  ·have h2 := HB7.out.size
   have h3 := hg.size
   simp only [World.setCell, Array.size_modify]
   omega
  ·have h2 := HB7.out.size
   have hne : q ≠ B := fun e => hA (e ▸ ha)
   rw [Below.heap_setCell _ _ _ _ hne, hg.block q (by omega) (fun e => wV.out.1 q e.symm ha)]
   exact h7.block q hq ha
theorem item_iter (B : Nat) : Iter 17 #[.pointer (some ⟨B, 0, none⟩)] (fun _ => true) (It B) where
 fn := ⟨_, Tryz.func17, rfl, rfl⟩
 less := fun ⟨h0, h1, v, hz, ho⟩ ha => ⟨fun k hk => h0 k (ha k hk), fun h => h1 (ha _ h), v, hz, Kd.R_mono ho (fun k hk h => hk (ha k h))⟩
 grow := fun {A l w w'} ⟨h0, h1, v, hz, ho⟩ hb => ⟨fun k hk => by
   rcases hk with hk | hk
   ·exact Nat.lt_of_lt_of_le (h0 k hk) hb.size
   ·exact hk.2, fun h => by
   have := blk_lt hz
   rcases h with h | h
   ·exact h1 h
   ·omega, v, blk_below hz hb, Kd.R_mono (Kd.R_below (Kd.R_bound ho) hb) (fun k hk h => by
   have := hk.2.2.1
   rcases h with h | h
   ·exact hk.1 h
   ·omega)⟩
 far := fun {A l w} p u ⟨h0, h1, v, hz, ho⟩ hp => ⟨fun k hk => by simp only [World.setCell, Array.size_modify]; exact h0 k hk, h1, v, blk_far hz (fun e => h1 (e ▸ hp)) u, Kd.R_far ho (fun k hk e => hk (e ▸ hp)) u⟩
 call := fun k v hI hl => item_call _ k v hI hl
theorem It.new {B : Nat} {A : Nat → Prop} {w : World} (h : w.heap[B]? = some (.cells #[.slice none 0 0] 33 (0, 0))) (hA : ∀ k, A k → k < w.heap.size) (hB : ¬ A B) : It B A [] w :=
 ⟨hA, hB, _, h, Kd.R_nil _ _ _ _ _⟩
end Go.Proofs.YtmpdhdnoohmndaaGreatDoor.Gj
namespace Go.Proofs.YtmpdhdnoohmndaaGreatDoor.Gj
open Go.RowKit Go.Proofs.YtmpdhdnoohmndaaGreatDoorW.PrintWords Go.Proofs.YtmpdhdnoohmndaaGreatDoorW.PrintLast Go.Proofs.YtmpdhdnoohmndaaGreatDoorW.PrintMore Sp Dec
set_option linter.unusedVariables false
set_option linter.unusedSimpArgs false
set_option maxRecDepth 100000
theorem bt_ext0 {s : au} {b : Nat} (h : b < s.size) : bt (s.extract b s.size) ((0 : Nat) : Int) = bt s (b : Int) := by
 have hq : ((0 : Nat) : Int).toNat < (s.extract b s.size).size := by rw [ByteArray.size_extract]; simp; omega
 have hq2 : ((b : Nat) : Int).toNat < s.size := by omega
 rw [← bt_at _ _ hq, ← bt_at _ _ hq2]
 simp only [ByteArray.getElem_extract]
 congr 3
set_option maxHeartbeats 8000000 in
theorem items_calls (t R : au) (b0 : Nat) (ps : List (GR × GR → Prop)) (w : World) (hW : Wok w) (ht : t.size ≤ 10000000000) (hb0 : b0 < t.size) (hv : at_ t b0 = 123) (hR : t.extract b0 t.size = R) (hbl : ∀ q, q < b0 → at_ t q ≤ 32) (hL : OLay R 1 ps) (hps : ps.length ≤ 1000000) :
  Calls Tryz.prog 9 #[.string t] w fun e w' => ∃ v : Value, ∃ L, Told (fun _ => true) 0 ps L ∧ e = .returned v ∧ k41.R 40 w' w.heap.size (fun _ => True) v (L.map toS) ∧ Below w.heap.size w w' := by
 have hu34 := Tryz.underlying33
 have HB := aa (Below.refl w.heap.size w)
 have HP := aa (fun w => parse_calls t R b0 w ht hb0 hv hR hbl)
 have hrs : R.size = t.size - b0 := by rw [← hR, ByteArray.size_extract]; omega
 have hs : R.size ≤ 10000000000 := by omega
 have hr : 0 < R.size := by omega
 have HH := aa (show at_ R 0 = 123 by rw [← hR]; unfold at_; rw [bt_ext0 (by omega)]; exact hv)
 have HPs := aa hps
 have HL := aa hL
 have HW := aa hW
 have HS := aa hs
 have HR := aa hr
 clear hL hW hs hr ht hb0 hv hR hbl hps hrs
 go_enter Tryz.func9, Tryz.ntmps9
 go_wp2_with (first | (refine aw 3 #[.slice none 0 0] 33 ?_; intro b hg w1 hbox hb; have HB1 := aa (below_step HB.out hb); have Vv := aa hbox; have G1 := aa hg; clear hb hbox hg) | ((with_reducible refine gate_callee (f := 15) rfl ?_); refine goesL_ (some 5) rfl rfl Tryz.func15 (by kernel_rfl) rfl #[.string t] rfl Z33 ?_; (with_reducible refine (HP.out _).mono ?_); rintro e w2 ⟨ti, rfl, hb⟩; refine ⟨_, rfl, ?_⟩; have HB2 := aa (below_step HB1.out hb); have Vw := aa (blk_below Vv.out hb); clear hb))
 have hA0 : ∀ q, (q < w2.heap.size ∧ q ≠ b) → q < w2.heap.size := fun q h => h.1
 have hI2 : It b (fun q => q < w2.heap.size ∧ q ≠ b) [] w2 := It.new Vw.out hA0 (fun h => h.2 rfl)
 refine (feach_obj (item_iter b) R ⟨#[]⟩ 0 ti (fun q => q < w2.heap.size ∧ q ≠ b) w2 w hI2 HW.out HB2.out (fun q hq => ⟨Nat.lt_of_lt_of_le hq HB2.out.size, by have := G1.out; omega⟩) HS.out HR.out HH.out ps HL.out HPs.out).mono ?_
 rintro e w3 ⟨rfl, L, hT, ⟨hA1, hA2, v, hz, ho⟩, hk⟩
 have hc : w3.cell? ⟨b, 0, none⟩ = some v := ((blk_cell hz 0).trans rfl)
 obtain ⟨A1, c1, e1⟩ := Kd.R_slice ho
 subst e1
 rw [show (L.map toS).length = L.length by simp] at hc hz ho
 have HZ := aa hz
 have HO := aa ho
 have HK := aa hk
 have HT := aa hT
 clear hz ho hk hT
 go_wp2
 go_ret
 refine ⟨.slice A1 L.length c1, L, HT.out, rfl, Kd.R_mono (Kd.R_lower HO.out (show w.heap.size ≤ b + 1 by have := G1.out; omega)) (fun _ _ => trivial), HB2.out.trans (HK.out.below (fun q hq => ⟨Nat.lt_of_lt_of_le hq HB2.out.size, by have := G1.out; omega⟩) HB2.out.size)⟩
end Go.Proofs.YtmpdhdnoohmndaaGreatDoor.Gj

import Derived.Test.YtkjnahgicfmicaaGreatDoorQa
import Derived.Test.YtkjnahgicfmicaaGreatDoorQh
import Derived.Test.YtkjnahgicfmicaaGreatDoorSpx11
import Derived.Test.YtkjnahgicfmicaaGreatDoorQf
import Derived.Test.YtkjnahgicfmicaaGreatDoorZip
import Derived.Test.YtkjnahgicfmicaaGreatDoorQm
import Derived.Deep.RegionHeld3
namespace Go.Proofs.YtkjnahgicfmicaaGreatDoor.Sp
open Go.RowKit Go.Proofs.YtkjnahgicfmicaaGreatDoorW.PrintWords Go.Proofs.YtkjnahgicfmicaaGreatDoorW.PrintLast Go.Proofs.YtkjnahgicfmicaaGreatDoorW.PrintMore
attribute [local go_sem] run_store_float max2_int min2_int max_two min_two max_three min_three max_four min_four
set_option linter.unusedVariables false
set_option linter.unusedSimpArgs false
structure fU where
 f : Nat → Int → ByteArray → ByteArray → Nat → Bool → Int → Option ((List (S41)))
 mono : ∀ a0 a1 a2 a3 a4 a5 k, LeO (f k a0 a1 a2 a3 a4 a5) (f (k + 1) a0 a1 a2 a3 a4 a5)
 calls : ∀ (k : Nat) (a0_0 : Int) (a0_1 : ByteArray) (a0_2 : ByteArray) (a0_3 : Nat) (a0_4 : Bool) (a1 : Int) (r : List (S41)) (w : World) (h : f k a0_0 a0_1 a0_2 a0_3 a0_4 a1 = some r) (hW : Wok w),
  Calls Tryz.prog 10 #[.agg #[.int .i64 a0_0, .string a0_1, .string a0_2, .float .f64 a0_3, .bool a0_4], .int .i64 a1] w fun e w' => ∃ v0_ : Value, e = .returned (v0_) ∧ Kd.R k41 41 w' w.heap.size (fun _ => True) v0_ r ∧ Below w.heap.size w w'
instance fU.mi (V : fU) {a0 a1 a2 a3 a4 a5 k} : LeI (V.f k a0 a1 a2 a3 a4 a5) (V.f (k + 1) a0 a1 a2 a3 a4 a5) := ⟨⟨V.mono a0 a1 a2 a3 a4 a5 k⟩⟩
def dE.f (k : Nat) (a0_0 : Int) (a0_1 : ByteArray) (a0_2 : ByteArray) (a0_3 : Nat) (a0_4 : Bool) (a1 : Int) : Option ((List (S41))) := none
theorem dE.mono : ∀ a0 a1 a2 a3 a4 a5 k, LeO (dE.f k a0 a1 a2 a3 a4 a5) (dE.f (k + 1) a0 a1 a2 a3 a4 a5) := by
 intro a0 a1 a2 a3 a4 a5 k
 unfold dE.f
 exact zM
instance dE.mi  {a0 a1 a2 a3 a4 a5 k} : LeI (dE.f k a0 a1 a2 a3 a4 a5) (dE.f (k + 1) a0 a1 a2 a3 a4 a5) := ⟨⟨dE.mono a0 a1 a2 a3 a4 a5 k⟩⟩
structure pP where
 rG : fU
def gB.f (a0_0 : Int) (a0_1 : ByteArray) (a0_2 : ByteArray) (a0_3 : Nat) (a0_4 : Int) (l0_5 : List Int) : Option (Int × ByteArray × ByteArray × Nat × Bool) := (bU.f a0_0 a0_1 a0_2 a0_3 a0_4 l0_5).bind fun vN => (some (a0_0, a0_1, a0_2, a0_3, vN))
def gB.T1 : Bool × List (List Nat × List Nat) := (true, [([], []), ([0], [0]), ([], []), ([2], [2]), ([], []), ([4], [4]), ([], []), ([6], [6]), ([], []), ([8], [8]), ([1, 3, 5, 7, 9], [1, 3, 5, 7, 9]), ([10, 9, 0, 1, 2, 3, 4, 5, 6, 7, 8, 9, 10], [10])])
def gB.B1 : List Nat := [0, 1, 0, 4, 0, 16, 0, 64, 0, 256, 1023, 2047]
theorem gB.tab1 : rtab .any (opsOf Tryz.f24 1) = gB.T1 := by kernel_rfl
theorem gB.bits1 : waitsOk gB.T1.2 gB.B1 = true := by kernel_rfl
end Go.Proofs.YtkjnahgicfmicaaGreatDoor.Sp
namespace Go.Proofs.YtkjnahgicfmicaaGreatDoor.Sp
open Go.RowKit Go.Proofs.YtkjnahgicfmicaaGreatDoorW.PrintWords Go.Proofs.YtkjnahgicfmicaaGreatDoorW.PrintLast Go.Proofs.YtkjnahgicfmicaaGreatDoorW.PrintMore
attribute [local go_sem] run_store_float
set_option linter.unusedVariables false
set_option linter.unusedSimpArgs false
set_option maxHeartbeats 8000000
set_option maxRecDepth 100000
theorem existsG_calls (a0_0 : Int) (a0_1 : ByteArray) (a0_2 : ByteArray) (a0_3 : Nat) (a0_4 : Int) (A0_5 : Option Addr) (c0_5 : Nat) (n0_5 : Nat) (r : Bool) (w : World) (h : bU.f a0_0 a0_1 a0_2 a0_3 a0_4 [] = some r) :
 Calls Tryz.prog 47 #[.agg #[.int .i64 a0_0, .string a0_1, .string a0_2, .float .f64 a0_3, .int .i64 a0_4, .slice A0_5 n0_5 c0_5]] w fun e w' => e = .returned (.bool r) ∧ Below w.heap.size w w' := by
 have hu55 := Tryz.underlying55
 have HB := Aside0.mk (Below.refl w.heap.size w)
 have H : (if a0_0 = 0 then (some ((a0_1.size : Int) != 0)) else (some true)) = some r := h
 clear h
 revert H; refine sIe1n0_e0n1 (fun gQ kZ H => ?_) fun gQ kZ H => ?_
 ·focus
  obtain rfl := Option.some.inj H
  go_enter Tryz.func47, Tryz.ntmps47
  go_wp2_with (first | ((with_reducible refine gate_dst (N := 1) rfl ?_); (try (refine gate_guard (by rfl) ?_; dsimp only)); refine box_event ?hg (N := 1) ?hd (cs := #[.int .i64 a0_0, .string a0_1, .string a0_2, .float .f64 a0_3, .int .i64 a0_4, .slice A0_5 n0_5 c0_5]) (t := 55) ?hr ?_; (case hd => rfl); (case hg => rfl); (case hr => exact Z14); intro mR hg w3 hbox hb; have qG := Aside0.mk (hbox); have Gg : Aside0 (w.heap.size ≤ mR) := ⟨Z21⟩; have Gh : Aside0 (w.heap.size ≤ mR) := ⟨Z21⟩; replace HB := Aside0.mk (below_step (w := w) zB hb); clear hb hbox hg; obtain ⟨rH, rI, wQ, wR, Hn, Ho, rJ, rK, wS, wT, Hp, Hq⟩ := cz6 qG.out))
  go_ret
  exact ⟨Z11, zB⟩
 focus
  obtain rfl := Option.some.inj H
  go_enter Tryz.func47, Tryz.ntmps47
  go_wp2_with (first | ((with_reducible refine gate_dst (N := 1) rfl ?_); (try (refine gate_guard (by rfl) ?_; dsimp only)); refine box_event ?hg (N := 1) ?hd (cs := #[.int .i64 a0_0, .string a0_1, .string a0_2, .float .f64 a0_3, .int .i64 a0_4, .slice A0_5 n0_5 c0_5]) (t := 55) ?hr ?_; (case hd => rfl); (case hg => rfl); (case hr => exact Z14); intro mR hg w5 hbox hb; have qG := Aside0.mk (hbox); have Gg : Aside0 (w.heap.size ≤ mR) := ⟨Z21⟩; have Gh : Aside0 (w.heap.size ≤ mR) := ⟨Z21⟩; replace HB := Aside0.mk (below_step (w := w) zB hb); clear hb hbox hg; obtain ⟨wU, wV, adP, adQ, adR, adS, wW, wX, adT, adU, adV, adW⟩ := cz6 qG.out))
  go_ret
  exact ⟨Z11, zB⟩
theorem gjG_calls (a0_0 : Int) (a0_1 : ByteArray) (a0_2 : ByteArray) (a0_3 : Nat) (a0_4 : Int) (A0_5 : Option Addr) (c0_5 : Nat) (n0_5 : Nat) (r1 : Int) (r2 : ByteArray) (r3 : ByteArray) (r4 : Nat) (r5 : Bool) (w : World) (h : gB.f a0_0 a0_1 a0_2 a0_3 a0_4 [] = some (r1, r2, r3, r4, r5)) :
 Calls Tryz.prog 24 #[.agg #[.int .i64 a0_0, .string a0_1, .string a0_2, .float .f64 a0_3, .int .i64 a0_4, .slice A0_5 n0_5 c0_5]] w fun e w' => e = .returned (.agg #[.int .i64 r1, .string r2, .string r3, .float .f64 r4, .bool r5]) ∧ Below w.heap.size w w' := by
 have hu55 := Tryz.underlying55
 have hu39 := Tryz.underlying39
 have HB := Aside0.mk (Below.refl w.heap.size w)
 have H : ((bU.f a0_0 a0_1 a0_2 a0_3 a0_4 []).bind fun vN => (some (a0_0, a0_1, a0_2, a0_3, vN))) = some (r1, r2, r3, r4, r5) := h
 clear h
 revert H; refine bnd ?_; rintro vN A2 H
 focus
  simp only [Option.some.injEq, Prod.mk.injEq] at H
  obtain ⟨rfl, rfl, rfl, rfl, rfl⟩ := H
  go_enter Tryz.func24, Tryz.ntmps24
  try go_wp2_with (first | ((with_reducible refine gate_dst (N := 1) rfl ?_); refine box_event ?hg (N := 1) ?hd (cs := #[.int .i64 a0_0, .string a0_1, .string a0_2, .float .f64 a0_3, .int .i64 a0_4, .slice A0_5 n0_5 c0_5]) (t := 55) ?hr ?_; (case hd => rfl); (case hg => rfl); (case hr => exact Z14); intro lW hg w3 hbox hb; have qH := Aside0.mk (hbox); have ahH : Aside0 (w.heap.size ≤ lW) := ⟨Z21⟩; have ahI : Aside0 (w.heap.size ≤ lW) := ⟨Z21⟩; replace HB := Aside0.mk (below_step (w := w) zB hb); clear hb hbox hg) | ((with_reducible refine gate_dst (N := 2) rfl ?_); refine box_event ?hg (N := 2) ?hd (cs := #[.int .i64 0, .string (⟨#[]⟩ : ByteArray), .string (⟨#[]⟩ : ByteArray), .float .f64 (0 : Nat), .bool false]) (t := 39) ?hr ?_; (case hd => rfl); (case hg => rfl); (case hr => exact Z14); intro oT hg w4 hbox hb; have qI := Aside0.mk (hbox); have ahJ : Aside0 (w.heap.size ≤ oT) := ⟨Z21⟩; have ahK : Aside0 (w.heap.size ≤ oT) := ⟨Z21⟩; replace HB := Aside0.mk (below_step (w := w) zB hb); have vO : Aside0 (lW ≠ oT) := ⟨by rw [hg]; exact Nat.ne_of_lt (blk_lt (g := lW) zC)⟩; have vP : Aside0 (oT ≠ lW) := ⟨by rw [hg]; exact Nat.ne_of_gt (blk_lt (g := lW) zC)⟩; replace qH := Aside0.mk (blk_below (g := lW) zC hb); clear hb hbox hg))
  replace qH := Aside0.mk (blk_drew qH.out)
  replace qI := Aside0.mk (blk_drew qI.out)
  replace HB := Aside0.mk (below_drew1 HB.out)
  refine st1 12 [] (S := fun w' => H6 w' lW (.int .i64 a0_0) (.string a0_1) (.string a0_2) (.float .f64 a0_3) (.int .i64 a0_4) (.slice A0_5 n0_5 c0_5)) (fun hHeld => ?_); refine with_tabW gB.tab1 gB.bits1 (fun HT_ HW_ => ?_)
  generalize w4.drew = w5 at qH qI HB hHeld ⊢
  refine pz 0 3 ?_
  refine pz 2 5 ?_
  refine pz 4 7 ?_
  refine pz 6 9 ?_
  refine tk6 1 4 ?_
  refine tk6 3 6 ?_
  refine tk6 5 8 ?_
  refine tk6 7 10 ?_
  refine tk6 8 11 ?_
  refine on1 9 (some 12) fun K hK => ?_
  refine goes_ Tryz.func47 (by kernel_rfl) rfl #[.agg #[.int .i64 a0_0, .string a0_1, .string a0_2, .float .f64 a0_3, .int .i64 a0_4, .slice A0_5 n0_5 c0_5]] (by rfl) rfl rfl Z28 ?_
  with_reducible refine (existsG_calls a0_0 a0_1 a0_2 a0_3 a0_4 _ _ _ vN _ A2.out).mono ?_
  rintro e w6 ⟨rfl, hb⟩
  refine ⟨_, rfl, ?_⟩
  replace qH := Aside0.mk (blk_below (g := lW) zC hb)
  replace qI := Aside0.mk (blk_below (g := oT) zC hb)
  replace HB := Aside0.mk (below_step (w := w) zB hb)
  try clear hb
  refine hK.out _ _ zS (fun hHeld => ?_)
  clear hK K
  refine norm_ (a' := ?_) ?_ ?_
  rotate_left
  ·show Act.put _ (some 12) _ = _
   simp only [Act.put, List.setIfInBounds_toArray, List.set_cons_zero, List.set_cons_succ, i64_w, i32_w]
   rfl
  refine pz 10 13 ?_
  refine on1 11 none fun K hK => ?_
  obtain ⟨hs7, hs8, hs9, nA, apB, adX, apC, apD, ahL, ahM⟩ := cz5 qI.out
  have hns7_0 := vO.out
  have hms7_0 := vP.out
  refine sk1 ?_
  refine hK.out _ _ zS (fun hHeld => ?_)
  clear hK K
  refine dn1 ?_
  try go_wp2
  refine bodyPost_ret (results_cell_row rfl _ _ oT 39 #[.int .i64 a0_0, .string a0_1, .string a0_2, .float .f64 a0_3, .bool vN] (0, 0) _ rfl zC Tryz.underlying39 rfl (by kernel_rfl)) rfl ?_
  exact ⟨Z11, zB⟩
end Go.Proofs.YtkjnahgicfmicaaGreatDoor.Sp
namespace Go.Proofs.YtkjnahgicfmicaaGreatDoor.Gj
open Go.RowKit Go.Proofs.YtkjnahgicfmicaaGreatDoorW.PrintWords Go.Proofs.YtkjnahgicfmicaaGreatDoorW.PrintLast Go.Proofs.YtkjnahgicfmicaaGreatDoorW.PrintMore Sp
set_option linter.unusedVariables false
set_option linter.unusedSimpArgs false
set_option maxRecDepth 100000
def gjS (g : GR) : S39 := ⟨g.ty, g.raw, g.str, g.num, if g.ty = 0 then ((g.raw.size : Int) != 0) else true⟩
def toS (x : GR × GR) : S41 := ⟨gjS x.1, gjS x.2⟩
def GR.b (g : GR) : Array Value := #[.int .i64 g.ty, .string g.raw, .string g.str, .float .f64 g.num, .int .i64 g.idx, .slice g.sa g.sn g.sc]
theorem gj_calls (g : GR) (w : World) : Calls Tryz.prog 24 #[.agg #[.int .i64 g.ty, .string g.raw, .string g.str, .float .f64 g.num, .int .i64 g.idx, .slice g.sa g.sn g.sc]] w fun e w' =>
  e = .returned (.agg #[.int .i64 (gjS g).f0, .string (gjS g).f1, .string (gjS g).f2, .float .f64 (gjS g).f3, .bool (gjS g).f4]) ∧ Below w.heap.size w w' := by
 refine gjG_calls _ _ _ _ _ _ _ _ _ _ _ _ _ w ?_
 by_cases h : g.ty = 0
 ·simp [gB.f, bU.f, gjS, h]
 ·simp [gB.f, bU.f, gjS, h]
def It (B : Nat) (A : Nat → Prop) (l : List (GR × GR)) (w : World) : Prop :=
 (∀ k, A k → k < w.heap.size) ∧ ¬ A B ∧ ∃ v, w.heap[B]? = some (.cells #[v] 34 (0, 0)) ∧ k41.R 41 w (B + 1) (fun k => ¬ A k) v (l.map toS)
theorem info41 : (Tryz.prog.info? 41).map (fun i => (i.zero, i.size, i.bytes)) = some (some (.agg #[.int .i64 0, .string ⟨#[]⟩, .string ⟨#[]⟩, .float .f64 0, .bool false, .int .i64 0, .string ⟨#[]⟩, .string ⟨#[]⟩, .float .f64 0, .bool false]), 10, 112) := by kernel_rfl
theorem keepT {W : World} {B b3 b4 : Nat} {v0 : Value} {k0 k1 k2 k3 k4 k5 u0 u1 u2 u3 u4 u5 : Value} (h : W.heap[B]? = some (.cells #[v0] 34 (0, 0))) (h3 : W.heap[b3]? = some (.cells #[k0, k1, k2, k3, k4, k5] 55 (0, 0))) (h4 : W.heap[b4]? = some (.cells #[u0, u1, u2, u3, u4, u5] 55 (0, 0))) :
  W.cell? ⟨B, 0, none⟩ = some v0 ∧ W.cell? ⟨b3, 0, none⟩ = some k0 ∧ W.cell? ⟨b3, 1, none⟩ = some k1 ∧ W.cell? ⟨b3, 2, none⟩ = some k2 ∧ W.cell? ⟨b3, 3, none⟩ = some k3 ∧ W.cell? ⟨b3, 4, none⟩ = some k4 ∧ W.cell? ⟨b3, 5, none⟩ = some k5 ∧
   W.cell? ⟨b4, 0, none⟩ = some u0 ∧ W.cell? ⟨b4, 1, none⟩ = some u1 ∧ W.cell? ⟨b4, 2, none⟩ = some u2 ∧ W.cell? ⟨b4, 3, none⟩ = some u3 ∧ W.cell? ⟨b4, 4, none⟩ = some u4 ∧ W.cell? ⟨b4, 5, none⟩ = some u5 :=
 ⟨(blk_cell h 0).trans rfl, (blk_cell h3 0).trans rfl, (blk_cell h3 1).trans rfl, (blk_cell h3 2).trans rfl, (blk_cell h3 3).trans rfl, (blk_cell h3 4).trans rfl, (blk_cell h3 5).trans rfl, (blk_cell h4 0).trans rfl, (blk_cell h4 1).trans rfl, (blk_cell h4 2).trans rfl, (blk_cell h4 3).trans rfl, (blk_cell h4 4).trans rfl, (blk_cell h4 5).trans rfl⟩
set_option maxHeartbeats 8000000 in
theorem item_call (B : Nat) {A : Nat → Prop} {l : List (GR × GR)} {w : World} (k v : GR) (hI : It B A l w) (hl : l.length ≤ 1000000) :
  Calls Tryz.prog 23 (#[k.v, v.v] ++ #[.pointer (some ⟨B, 0, none⟩)]) w fun e w' => e = .returned (.bool true) ∧ It B A (l ++ [(k, v)]) w' ∧ Kp A w w' := by
 obtain ⟨hA0, hA, v0, hz, ho⟩ := hI
 show Calls Tryz.prog 23 #[.agg #[.int .i64 k.ty, .string k.raw, .string k.str, .float .f64 k.num, .int .i64 k.idx, .slice k.sa k.sn k.sc], .agg #[.int .i64 v.ty, .string v.raw, .string v.str, .float .f64 v.num, .int .i64 v.idx, .slice v.sa v.sn v.sc], .pointer (some ⟨B, 0, none⟩)] w _
 have hlt := blk_lt hz
 have hu34 := Tryz.underlying34
 have hu55 := Tryz.underlying55
 have HZ := Aside0.mk hz
 have HO := Aside0.mk ho
 have HB := Aside0.mk (Below.refl w.heap.size w)
 clear hz ho
 go_enter Tryz.func23, Tryz.ntmps23
 go_wp2_with (first | ((with_reducible refine gate_dst (N := 3) rfl ?_); refine box_event ?hg (N := 3) ?hd (cs := #[.int .i64 k.ty, .string k.raw, .string k.str, .float .f64 k.num, .int .i64 k.idx, .slice k.sa k.sn k.sc]) (t := 55) ?hr ?_; (case hd => rfl); (case hg => rfl); (case hr => exact Z14); intro b3 hg w3 hbox hb; have HB3 := Aside0.mk (below_step HB.out hb); have HZ3 := Aside0.mk (blk_below HZ.out hb); have BK3 := Aside0.mk hbox; have G3 := Aside0.mk hg; clear hb hbox hg) | ((with_reducible refine gate_dst (N := 4) rfl ?_); refine box_event ?hg (N := 4) ?hd (cs := #[.int .i64 v.ty, .string v.raw, .string v.str, .float .f64 v.num, .int .i64 v.idx, .slice v.sa v.sn v.sc]) (t := 55) ?hr ?_; (case hd => rfl); (case hg => rfl); (case hr => exact Z14); intro b4 hg w4 hbox hb; have HB4 := Aside0.mk (below_step HB3.out hb); have HZ4 := Aside0.mk (blk_below HZ3.out hb); have Jq := Aside0.mk (blk_below BK3.out hb); have BK4 := Aside0.mk hbox; have G4 := Aside0.mk hg; clear hb hbox hg))
 refine start_ (n := 9) (S := fun w' => w'.cell? ⟨B, 0, none⟩ = some v0 ∧ w'.cell? ⟨b3, 0, none⟩ = some (.int .i64 k.ty) ∧ w'.cell? ⟨b3, 1, none⟩ = some (.string k.raw) ∧ w'.cell? ⟨b3, 2, none⟩ = some (.string k.str) ∧ w'.cell? ⟨b3, 3, none⟩ = some (.float .f64 k.num) ∧ w'.cell? ⟨b3, 4, none⟩ = some (.int .i64 k.idx) ∧ w'.cell? ⟨b3, 5, none⟩ = some (.slice k.sa k.sn k.sc) ∧ w'.cell? ⟨b4, 0, none⟩ = some (.int .i64 v.ty) ∧ w'.cell? ⟨b4, 1, none⟩ = some (.string v.raw) ∧ w'.cell? ⟨b4, 2, none⟩ = some (.string v.str) ∧ w'.cell? ⟨b4, 3, none⟩ = some (.float .f64 v.num) ∧ w'.cell? ⟨b4, 4, none⟩ = some (.int .i64 v.idx) ∧ w'.cell? ⟨b4, 5, none⟩ = some (.slice v.sa v.sn v.sc)) (ds := [8]) #[false, false, false, false, false, false, false, false, false] (by kernel_rfl) rfl rfl (keepT (blk_drew HZ4.out) (blk_drew Jq.out) (blk_drew BK4.out)) (fun hHeld => ?_)
 have HB5 := Aside0.mk (below_drew1 HB4.out)
 have HZ5 := Aside0.mk (blk_drew HZ4.out)
 have Jr := Aside0.mk (blk_drew Jq.out)
 have Js := Aside0.mk (blk_drew BK4.out)
 generalize w4.drew = w5 at HB5 HZ5 Jr Js hHeld ⊢
 refine take_ (i := 0) (N := some 6) (v := ?_) (a' := ?_) #[true, false, false, false, false, false, false, false, false] rfl rfl (by kernel_rfl) (fun _ _ _ h => h) (Or.inl ⟨by rfl, ?_⟩) hHeld ?_ ?_
 rotate_left
 ·rintro w' ⟨s0, s1, s2, s3, s4, s5, s6, s7, s8, s9, s10, s11, s12⟩
  go_simp
  with_reducible rfl
 rotate_left
 ·simp only [Act.put, List.setIfInBounds_toArray, List.set_cons_zero, List.set_cons_succ, i64_w, i32_w]
  rfl
 refine take_ (i := 1) (N := some 7) (v := ?_) (a' := ?_) #[true, true, false, false, false, false, false, false, false] rfl rfl (by kernel_rfl) (fun _ _ _ h => h) (Or.inl ⟨by rfl, ?_⟩) hHeld ?_ ?_
 rotate_left
 ·rintro w' ⟨s0, s1, s2, s3, s4, s5, s6, s7, s8, s9, s10, s11, s12⟩
  go_simp
  with_reducible rfl
 rotate_left
 ·simp only [Act.put, List.setIfInBounds_toArray, List.set_cons_zero, List.set_cons_succ, i64_w, i32_w]
  rfl
 refine take_ (i := 3) (N := some 9) (v := ?_) (a' := ?_) #[true, true, false, true, false, false, false, false, false] rfl rfl (by kernel_rfl) (fun _ _ _ h => h) (Or.inl ⟨by rfl, ?_⟩) hHeld ?_ ?_
 rotate_left
 ·rintro w' ⟨s0, s1, s2, s3, s4, s5, s6, s7, s8, s9, s10, s11, s12⟩
  go_simp
  with_reducible rfl
 rotate_left
 ·simp only [Act.put, List.setIfInBounds_toArray, List.set_cons_zero, List.set_cons_succ, i64_w, i32_w]
  rfl
 refine one_ (i := 2) (N := some 8) #[true, true, true, true, false, false, false, false, false] rfl rfl (by kernel_rfl) (by decide) (fun K hK => ?_)
 refine goes_ Tryz.func24 (by kernel_rfl) rfl #[.agg #[.int .i64 k.ty, .string k.raw, .string k.str, .float .f64 k.num, .int .i64 k.idx, .slice k.sa k.sn k.sc]] (by rfl) rfl rfl (by (try simp only [List.map_toArray, List.map_cons, List.map_nil]); rfl) ?_
 refine (gj_calls k _).mono ?_
 rintro e w6 ⟨rfl, hb⟩
 refine ⟨_, rfl, ?_⟩
 have HB6 := Aside0.mk (below_step HB5.out hb)
 have HZ6 := Aside0.mk (blk_below HZ5.out hb)
 have Ju := Aside0.mk (blk_below Jr.out hb)
 have Jv := Aside0.mk (blk_below Js.out hb)
 clear hb
 refine hK.out _ _ (keepT HZ6.out Ju.out Jv.out) (fun hHeld => ?_)
 clear hK K
 refine norm_ (a' := ?_) ?_ ?_
 rotate_left
 ·show Act.put _ (some 8) _ = _
  simp only [Act.put, List.setIfInBounds_toArray, List.set_cons_zero, List.set_cons_succ, i64_w, i32_w]
  rfl
 refine one_ (i := 4) (N := some 10) #[true, true, true, true, true, false, false, false, false] rfl rfl (by kernel_rfl) (by decide) (fun K hK => ?_)
 refine goes_ Tryz.func24 (by kernel_rfl) rfl #[.agg #[.int .i64 v.ty, .string v.raw, .string v.str, .float .f64 v.num, .int .i64 v.idx, .slice v.sa v.sn v.sc]] (by rfl) rfl rfl (by (try simp only [List.map_toArray, List.map_cons, List.map_nil]); rfl) ?_
 refine (gj_calls v _).mono ?_
 rintro e w7 ⟨rfl, hb⟩
 refine ⟨_, rfl, ?_⟩
 have HB7 := Aside0.mk (below_step HB6.out hb)
 have HZ7 := Aside0.mk (blk_below HZ6.out hb)
 have Ac := Aside0.mk (blk_below Ju.out hb)
 have Ad := Aside0.mk (blk_below Jv.out hb)
 clear hb
 refine hK.out _ _ (keepT HZ7.out Ac.out Ad.out) (fun hHeld => ?_)
 clear hK K
 refine norm_ (a' := ?_) ?_ ?_
 rotate_left
 ·show Act.put _ (some 10) _ = _
  simp only [Act.put, List.setIfInBounds_toArray, List.set_cons_zero, List.set_cons_succ, i64_w, i32_w]
  rfl
 refine pure_ (i := 5) (N := some 11) (v := ?_) (a' := ?_) #[true, true, true, true, true, true, false, false, false] rfl rfl (by kernel_rfl) (fun _ _ _ h => h) (Or.inl ⟨by rfl, ?_⟩) ?_ ?_
 rotate_left
 ·intro w'
  go_simp
  with_reducible rfl
 rotate_left
 ·simp only [Act.put, List.setIfInBounds_toArray, List.set_cons_zero, List.set_cons_succ, i64_w, i32_w]
  rfl
 refine one_ (i := 6) (N := some 12) #[true, true, true, true, true, true, true, false, false] rfl rfl (by kernel_rfl) (by decide) (fun K hK => ?_)
 refine value_ (w1 := ?_) (v := ?_) (by rfl) rfl ?_ ?_
 rotate_left 2
 ·go_simp
  constructor
  ·rfl
  ·rfl
 refine hK.out _ _ (keepT (blk_alloc HZ7.out _) (blk_alloc Ac.out _) (blk_alloc Ad.out _)) (fun hHeld => ?_)
 clear hK K
 refine norm_ (a' := ?_) ?_ ?_
 rotate_left
 ·show Act.put _ (some 12) _ = _
  simp only [Act.put, List.setIfInBounds_toArray, List.set_cons_zero, List.set_cons_succ, i64_w, i32_w]
  rfl
 refine one_ (i := 7) (N := some 13) #[true, true, true, true, true, true, true, true, false] rfl rfl (by kernel_rfl) (by decide) (fun K hK => ?_)
 have Jw := Aside0.mk (Kd.R_below HO.out HB7.out)
 refine Kd.R_append_step k41 (w0 := w7) (B + 1) (by rfl) (.tmp 6) (.tmp 12) 34 41 (.agg #[.int .i64 0, .string ⟨#[]⟩, .string ⟨#[]⟩, .float .f64 0, .bool false, .int .i64 0, .string ⟨#[]⟩, .string ⟨#[]⟩, .float .f64 0, .bool false]) 112 rfl Tryz.underlying34 info41 rfl (by decide) (by omega) v0 (l.map toS) (toS (k, v)) [.int .i64 (gjS k).f0, .string (gjS k).f1, .string (gjS k).f2, .float .f64 (gjS k).f3, .bool (gjS k).f4, .int .i64 (gjS v).f0, .string (gjS v).f1, .string (gjS v).f2, .float .f64 (gjS v).f3, .bool (gjS v).f4] (fun q => ¬ A q) (fun _ => False) rfl rfl ?aP (fun _ hk => hk.elim) ?aF ?aO ?aB ?aS ?aL ?_
 (case aP => exact k41_mkM _ _ _ _)
 (case aB => exact Below.mono (Below.refl _ _) (blk_lt HZ7.out))
 (case aF => intro q hq hA1; have := hA0 q hA1; have := HB7.out.size; omega)
 (case aO => exact Jw.out)
 (case aS => exact blk_lt HZ7.out)
 (case aL => simp only [List.length_map]; omega)
 intro v1 w8 ho hb hg hat
 obtain ⟨zW, co8, e8⟩ := Kd.R_slice ho
 subst e8
 have HZ8 := Aside0.mk (blk_grown HZ7.out hg (Kd.R_ne Jw.out HZ7.out (by decide)))
 have adY := Aside0.mk (blk_grown Ac.out hg (Kd.R_ne Jw.out Ac.out (by decide)))
 have adZ := Aside0.mk (blk_grown Ad.out hg (Kd.R_ne Jw.out Ad.out (by decide)))
 refine hK.out _ _ (keepT HZ8.out adY.out adZ.out) (fun hHeld => ?_)
 clear hK K
 refine norm_ (a' := ?_) ?_ ?_
 rotate_left
 ·show Act.put _ (some 13) _ = _
  simp only [Act.put, List.setIfInBounds_toArray, List.set_cons_zero, List.set_cons_succ, i64_w, i32_w]
  rfl
 refine last_ (i := 8) (N := none) #[true, true, true, true, true, true, true, true, true] rfl rfl (by kernel_rfl) (by decide) (fun K hK => ?_)
 have hs7 : w8.cell? ⟨B, 0, none⟩ = some v0 := (blk_cell HZ8.out 0).trans rfl
 have adX := blk_frozen HZ8.out 0
 refine skip_ (w1 := ?_) (by rfl) rfl ?_ ?_
 rotate_left
 ·go_simp
  rfl
 refine hK.out _ _ ?_
 clear hK K
 refine done_ (by kernel_rfl) ?_
 go_wp2
 go_ret
 refine ⟨by first | rfl | simp, ?_, ?_⟩
 ·refine ⟨fun q hq => ?_, hA, _, blk_put HZ8.out 0 _ rfl, ?_⟩
  ·have h1 := hA0 q hq
   have h2 := HB7.out.size
   have h3 := hg.size
   simp only [World.setCell, Array.size_modify]
   omega
  ·have el : (l.map toS ++ [toS (k, v)]).length = l.length + 1 := by simp
   rw [el] at ho
   rw [List.map_append]
   refine Kd.R_mono (ok := fun q => (¬ A q) ∧ B < q) (Kd.R_far (Kd.R_mono (Kd.R_bound ho) (fun q hq => ⟨hq.1, hq.2.1⟩)) (fun q hq => ?_) _) (fun _ hq => hq.1)
   have := hq.2
   show q ≠ B
   omega
 ·have h7 : Kp A w w7 := Kp.of_below HB7.out
  refine ⟨hg.os.trans h7.os, hg.tape.trans h7.tape, hg.output.trans h7.output, ?_, fun q hq ha => ?_⟩
  ·have h2 := HB7.out.size
   have h3 := hg.size
   simp only [World.setCell, Array.size_modify]
   omega
  ·have h2 := HB7.out.size
   have hne : q ≠ B := fun e => hA (e ▸ ha)
   rw [Below.heap_setCell _ _ _ _ hne, hg.block q (by omega) (fun e => Jw.out.1 q e.symm ha)]
   exact h7.block q hq ha
theorem item_iter (B : Nat) : Iter 23 #[.pointer (some ⟨B, 0, none⟩)] (fun _ => true) (It B) where
 fn := ⟨_, Tryz.func23, rfl, rfl⟩
 less := fun ⟨h0, h1, v, hz, ho⟩ ha => ⟨fun k hk => h0 k (ha k hk), fun h => h1 (ha _ h), v, hz, Kd.R_mono ho (fun k hk h => hk (ha k h))⟩
 grow := fun {A l w w'} ⟨h0, h1, v, hz, ho⟩ hb => ⟨fun k hk => by
   rcases hk with hk | hk
   ·exact Nat.lt_of_lt_of_le (h0 k hk) hb.size
   ·exact hk.2, fun h => by
   have := blk_lt hz
   rcases h with h | h
   ·exact h1 h
   ·omega, v, blk_below hz hb, Kd.R_mono (Kd.R_below (Kd.R_bound ho) hb) (fun k hk h => by
   have := hk.2.2.1
   rcases h with h | h
   ·exact hk.1 h
   ·omega)⟩
 far := fun {A l w} p u ⟨h0, h1, v, hz, ho⟩ hp => ⟨fun k hk => by simp only [World.setCell, Array.size_modify]; exact h0 k hk, h1, v, blk_far hz (fun e => h1 (e ▸ hp)) u, Kd.R_far ho (fun k hk e => hk (e ▸ hp)) u⟩
 call := fun k v hI hl => item_call _ k v hI hl
theorem It.new {B : Nat} {A : Nat → Prop} {w : World} (h : w.heap[B]? = some (.cells #[.slice none 0 0] 34 (0, 0))) (hA : ∀ k, A k → k < w.heap.size) (hB : ¬ A B) : It B A [] w :=
 ⟨hA, hB, _, h, Kd.R_nil _ _ _ _ _⟩
end Go.Proofs.YtkjnahgicfmicaaGreatDoor.Gj

import Derived.Test.YtkjnahgicfmicaaGreatDoorZip
import Derived.Test.YtkjnahgicfmicaaGreatDoorQa
import Derived.Test.YtkjnahgicfmicaaGreatDoorQc
import Derived.Test.YtkjnahgicfmicaaGreatDoorQf
namespace Go.Proofs.YtkjnahgicfmicaaGreatDoor.Sp
set_option maxHeartbeats 8000000
set_option maxRecDepth 100000
open Go.RowKit Go.Proofs.YtkjnahgicfmicaaGreatDoorW.PrintWords Go.Proofs.YtkjnahgicfmicaaGreatDoorW.PrintLast Go.Proofs.YtkjnahgicfmicaaGreatDoorW.PrintMore
attribute [local go_sem] run_store_float max2_int min2_int max_two min_two max_three min_three max_four min_four
set_option linter.unusedVariables false
set_option linter.unusedSimpArgs false
def er39 (x : S39) : S39 := { x with f3 := 0 }
def er41 (x : S41) : S41 := ⟨⟨0, ⟨#[]⟩, x.f0.f2, 0, false⟩, er39 x.f1⟩
structure cJ where
 f : Nat → ByteArray → Option ((List (S41)))
 mono : ∀ a0 k, LeO (f k a0) (f (k + 1) a0)
 calls : ∀ (k : Nat) (a0 : ByteArray) (r : List (S41)) (w : World) (h : f k a0 = some r) (hW : Wok w),
  Calls Tryz.prog 8 #[.string a0] w fun e w' => ∃ (v0_ : Value) (T_ : List S41), e = .returned (v0_) ∧ T_.map er41 = r.map er41 ∧ Kd.R k41 41 w' w.heap.size (fun _ => True) v0_ T_ ∧ Below w.heap.size w w'
instance cJ.mi (V : cJ) {a0 k} : LeI (V.f k a0) (V.f (k + 1) a0) := ⟨⟨V.mono a0 k⟩⟩
def dQ.f (k : Nat) (a0 : ByteArray) : Option ((List (S41))) := none
theorem dQ.mono : ∀ a0 k, LeO (dQ.f k a0) (dQ.f (k + 1) a0) := by
 intro a0 k
 unfold dQ.f
 exact zM
instance dQ.mi  {a0 k} : LeI (dQ.f k a0) (dQ.f (k + 1) a0) := ⟨⟨dQ.mono a0 k⟩⟩
theorem dQ.calls (k : Nat) (a0 : ByteArray) (r : List (S41)) (w : World) (h : dQ.f k a0 = some r) (hW : Wok w) :
 Calls Tryz.prog 8 #[.string a0] w fun e w' => ∃ (v0_ : Value) (T_ : List S41), e = .returned (v0_) ∧ T_.map er41 = r.map er41 ∧ Kd.R k41 41 w' w.heap.size (fun _ => True) v0_ T_ ∧ Below w.heap.size w w' := by
 have HWK := Aside0.mk hW
 clear hW
 have HB := Aside0.mk (Below.refl w.heap.size w)
 have H : (none) = some r := h
 clear h
 exact absurd H (by simp)
structure uE where
 xU : cJ
def cK.f (a0 : Int) : Option (Int) := if a0 = 1 then (some 1) else (if a0 = 3 then (some 2) else (if a0 = 4 then (some 3) else (if a0 = 2 then (some 4) else (if a0 = 5 then (some 5) else (if a0 = 6 then (some 5) else (some 0))))))
theorem cK.calls (a0 : Int) (r : Int) (w : World) (h : cK.f a0 = some r) :
 Calls Tryz.prog 25 #[.int .i64 a0] w fun e w' => e = .returned (.int .i64 r) ∧ Drawn0 w w' := by
 have H : (if a0 = 1 then (some 1) else (if a0 = 3 then (some 2) else (if a0 = 4 then (some 3) else (if a0 = 2 then (some 4) else (if a0 = 5 then (some 5) else (if a0 = 6 then (some 5) else (some 0))))))) = some r := h
 clear h
 revert H; refine sIe1n0_e0n1 (fun gQ kZ H => ?_) fun gQ kZ H => ?_
 ·focus
   obtain rfl := Option.some.inj H
   go_enter Tryz.func25, Tryz.ntmps25
   go_wp2
   go_ret
   exact ⟨Z9, Z10⟩
 revert H; refine sIe1n0_e0n1 (fun eW oJ H => ?_) fun eW oJ H => ?_
 ·focus
   obtain rfl := Option.some.inj H
   go_enter Tryz.func25, Tryz.ntmps25
   go_wp2
   go_ret
   exact ⟨Z9, Z10⟩
 revert H; refine sIe1n0_e0n1 (fun gV xV H => ?_) fun gV xV H => ?_
 ·focus
   obtain rfl := Option.some.inj H
   go_enter Tryz.func25, Tryz.ntmps25
   go_wp2
   go_ret
   exact ⟨Z9, Z10⟩
 revert H; refine sIe1n0_e0n1 (fun jZ qT H => ?_) fun jZ qT H => ?_
 ·focus
   obtain rfl := Option.some.inj H
   go_enter Tryz.func25, Tryz.ntmps25
   go_wp2
   go_ret
   exact ⟨Z9, Z10⟩
 revert H; refine sIe1n0_e0n1 (fun eX nD H => ?_) fun eX nD H => ?_
 ·focus
   obtain rfl := Option.some.inj H
   go_enter Tryz.func25, Tryz.ntmps25
   go_wp2
   go_ret
   exact ⟨Z9, Z10⟩
 revert H; refine sIe1n0_e0n1 (fun lA pD H => ?_) fun lA pD H => ?_
 ·focus
   obtain rfl := Option.some.inj H
   go_enter Tryz.func25, Tryz.ntmps25
   go_wp2
   go_ret
   exact ⟨Z9, Z10⟩
 focus
  obtain rfl := Option.some.inj H
  go_enter Tryz.func25, Tryz.ntmps25
  go_wp2
  go_ret
  exact ⟨Z9, Z10⟩
def bZ.f (k : Nat) (a0_0 : Int) (a0_1 : ByteArray) (a0_2 : ByteArray) (a0_3 : Nat) (a0_4 : Bool) (a1 : ByteArray) (a2_0 : Int) (a2_1 : Int) (a2_2 : Int) (l2_3 : List (S93)) (l2_4 : List (S31)) : Option (Bool) := if a0_4 = true then ((cK.f a2_0).bind fun vW => (if a0_0 = vW then (if 0 ≤ a2_1 then (if a2_1 ≤ a2_2 then (if a2_2 ≤ (a1.size : Int) then (if a0_1.toList = (a1.extract (a2_1 : Int).toNat (a2_2 : Int).toNat).toList then (if a2_0 = 4 then ((aX.f k a0_1).bind fun xW => (some (a0_2.toList == xW.toList))) else (some true)) else (none)) else (none)) else (none)) else (none)) else (none))) else (none)
def bZ.T1 : Bool × List (List Nat × List Nat) := (true, [([], []), ([0], [0]), ([1], [1]), ([2], [2]), ([3], [3]), ([4, 3], [3, 4]), ([3], [3]), ([6, 3], [3, 6]), ([7, 3, 3], [3, 7]), ([5, 8, 3], [3, 5, 8]), ([3, 9], [3, 9]), ([10, 8], [10]), ([11], [11]), ([12, 11], [11, 12]), ([11], [11]), ([11], [11]), ([15, 11], [11, 15]), ([11], [11]), ([17, 11], [11, 17]), ([14, 16, 18, 11], [11, 14, 16, 18]), ([13, 19, 11], [11, 13, 19]), ([11, 20], [11, 20])])
def bZ.B1 : List Nat := [0, 1, 3, 7, 15, 31, 15, 79, 207, 511, 1023, 2047, 4095, 8191, 4095, 4095, 36863, 4095, 135167, 511999, 1048575, 2097151]
theorem bZ.tab1 : rtab .any (opsOf Tryz.f9 1) = bZ.T1 := by kernel_rfl
theorem bZ.bits1 : waitsOk bZ.T1.2 bZ.B1 = true := by kernel_rfl
def bZ.T3 : Bool × List (List Nat × List Nat) := (true, [([], []), ([0], [0]), ([1], [1]), ([2], [2]), ([3], [3]), ([4, 3], [3, 4]), ([3], [3]), ([6, 3], [3, 6]), ([7, 3, 3], [3, 7]), ([5, 8, 3], [3, 5, 8]), ([3, 9], [3, 9]), ([10, 8, 0, 1, 2, 3, 4, 5, 6, 7, 8, 9, 10], [10])])
def bZ.B3 : List Nat := [0, 1, 3, 7, 15, 31, 15, 79, 207, 511, 1023, 2047]
theorem bZ.tab3 : rtab .any (opsOf Tryz.f9 3) = bZ.T3 := by kernel_rfl
theorem bZ.bits3 : waitsOk bZ.T3.2 bZ.B3 = true := by kernel_rfl
theorem bZ.calls (k : Nat) (a0_0 : Int) (a0_1 : ByteArray) (a0_2 : ByteArray) (a0_3 : Nat) (a0_4 : Bool) (a1 : ByteArray) (a2_0 : Int) (a2_1 : Int) (a2_2 : Int) (A2_3 : Option Addr) (c2_3 : Nat) (l2_3 : List (S93)) (A2_4 : Option Addr) (c2_4 : Nat) (l2_4 : List (S31)) (r : Bool) (w : World) (hr2_3 : Kd.C k93 w A2_3 l2_3.length l2_3) (hc2_3 : l2_3.length ≤ c2_3) (hr2_4 : Kd.C k31 w A2_4 l2_4.length l2_4) (hc2_4 : l2_4.length ≤ c2_4) (h : bZ.f k a0_0 a0_1 a0_2 a0_3 a0_4 a1 a2_0 a2_1 a2_2 l2_3 l2_4 = some r) :
 Calls Tryz.prog 9 #[.agg #[.int .i64 a0_0, .string a0_1, .string a0_2, .float .f64 a0_3, .bool a0_4], .string a1, .agg #[.int .i64 a2_0, .int .i64 a2_1, .int .i64 a2_2, .slice A2_3 l2_3.length c2_3, .slice A2_4 l2_4.length c2_4]] w fun e w' => e = .returned (.bool r) ∧ Below w.heap.size w w' := by
 have hu39 := Tryz.underlying39
 have hu31 := Tryz.underlying31
 have amA := Aside0.mk hr2_3
 have HC2_3 := Aside0.mk hc2_3
 clear hr2_3 hc2_3
 have amB := Aside0.mk hr2_4
 have HC2_4 := Aside0.mk hc2_4
 clear hr2_4 hc2_4
 have HB := Aside0.mk (Below.refl w.heap.size w)
 have H : (if a0_4 = true then ((cK.f a2_0).bind fun vW => (if a0_0 = vW then (if 0 ≤ a2_1 then (if a2_1 ≤ a2_2 then (if a2_2 ≤ (a1.size : Int) then (if a0_1.toList = (a1.extract (a2_1 : Int).toNat (a2_2 : Int).toNat).toList then (if a2_0 = 4 then ((aX.f k a0_1).bind fun xW => (some (a0_2.toList == xW.toList))) else (some true)) else (none)) else (none)) else (none)) else (none)) else (none))) else (none)) = some r := h
 clear h
 replace H := sB H
 obtain ⟨rfl, H⟩ | ⟨rfl, H⟩ := H
 ·revert H; refine bnd ?_; rintro vW A5 H
  revert H; refine sIe1n0_e0n1 (fun eX nD H => ?_) fun eX nD H => ?_
  ·revert H; refine sNt1d1 fun lA pD H => ?_
   revert H; refine sNt1d1 fun jH lR H => ?_
   revert H; refine sNt1d1 fun nC Dd H => ?_
   revert H; refine sNe1n0 fun mU nS H => ?_
   revert H; refine sIe1n0_e0n1 (fun iR lY H => ?_) fun iR lY H => ?_
   ·revert H; refine bnd ?_; rintro xW Hs H
    focus
     obtain rfl := Option.some.inj H
     go_enter Tryz.func9, Tryz.ntmps9
     try go_wp2_with (first | ((with_reducible refine gate_dst (N := 3) rfl ?_); refine box_event ?hg (N := 3) ?hd (cs := #[.int .i64 a0_0, .string a0_1, .string a0_2, .float .f64 a0_3, .bool true]) (t := 39) ?hr ?_; (case hd => rfl); (case hg => rfl); (case hr => exact Z14); intro fV hg w13 hbox hb; have gG := Aside0.mk (hbox); have Me : Aside0 (w.heap.size ≤ fV) := ⟨Z21⟩; have Mf : Aside0 (w.heap.size ≤ fV) := ⟨Z21⟩; replace HB := Aside0.mk (below_step (w := w) zB hb); clear hb hbox hg) | ((with_reducible refine gate_dst (N := 5) rfl ?_); refine box_event ?hg (N := 5) ?hd (cs := #[.int .i64 a2_0, .int .i64 a2_1, .int .i64 a2_2, .slice A2_3 l2_3.length c2_3, .slice A2_4 l2_4.length c2_4]) (t := 31) ?hr ?_; (case hd => rfl); (case hg => rfl); (case hr => exact Z14); intro iU hg w14 hbox hb; have gT := Aside0.mk (hbox); have Mg : Aside0 (w.heap.size ≤ iU) := ⟨Z21⟩; have Mh : Aside0 (w.heap.size ≤ iU) := ⟨Z21⟩; replace HB := Aside0.mk (below_step (w := w) zB hb); have vX : Aside0 (fV ≠ iU) := ⟨by rw [hg]; exact Nat.ne_of_lt (blk_lt (g := fV) zC)⟩; have vY : Aside0 (iU ≠ fV) := ⟨by rw [hg]; exact Nat.ne_of_gt (blk_lt (g := fV) zC)⟩; replace gG := Aside0.mk (blk_below (g := fV) zC hb); clear hb hbox hg))
     replace gG := Aside0.mk (blk_drew gG.out)
     replace gT := Aside0.mk (blk_drew gT.out)
     replace HB := Aside0.mk (below_drew1 HB.out)
     refine st1 22 [] (S := fun w' => G5 w' fV (.int .i64 a0_0) (.string a0_1) (.string a0_2) (.float .f64 a0_3) (.bool true) (H5 w' iU (.int .i64 a2_0) (.int .i64 a2_1) (.int .i64 a2_2) (.slice A2_3 l2_3.length c2_3) (.slice A2_4 l2_4.length c2_4))) (fun hHeld => ?_); refine with_tabW bZ.tab1 bZ.bits1 (fun HT_ HW_ => ?_)
     generalize w14.drew = w15 at gG gT HB hHeld ⊢
     refine pz 0 7 ?_
     refine tk10 1 8 ?_
     refine pz 2 9 ?_
     refine pz 3 10 ?_
     refine pz 4 11 ?_
     refine pz 6 13 ?_
     refine tk10 5 12 ?_
     refine tk10 7 14 ?_
     refine on1 8 (some 15) fun K hK => ?_
     refine goes_ Tryz.func25 (by kernel_rfl) rfl #[.int .i64 a2_0] (by rfl) rfl rfl Z28 ?_
     with_reducible refine (cK.calls a2_0 vW _ A5.out).mono ?_
     rintro e w' ⟨rfl, ⟨nd, rfl⟩⟩
     refine ⟨_, rfl, ?_⟩
     refine hK.out _ _ zS (fun hHeld => ?_)
     clear hK K
     refine nz (N := some 15) ?_
     refine pz 9 16 ?_
     refine pz 10 17 ?_
     refine pz 11 18 ?_
     refine pz 12 19 ?_
     refine pz 14 21 ?_
     refine pz 15 22 ?_
     refine pz 17 24 ?_
     refine tk10 13 20 ?_
     refine tk10 16 23 ?_
     refine tk10 18 25 ?_
     refine pz 19 26 ?_
     refine pz 20 27 ?_
     refine pz 21 28 ?_
     refine dn1 ?_
     try go_wp2
     (try (rw [drewN_self w15]; generalize hq_ : World.drewN w15 _ = w15; have n0_ : Aside0 (w15.heap[fV]? = some (.cells #[.int .i64 a0_0, .string a0_1, .string a0_2, .float .f64 a0_3, .bool true] 39 (0, 0))) := ⟨by rw [← hq_]; exact zC⟩; have n1_ : Aside0 (w15.heap[iU]? = some (.cells #[.int .i64 a2_0, .int .i64 a2_1, .int .i64 a2_2, .slice A2_3 l2_3.length c2_3, .slice A2_4 l2_4.length c2_4] 31 (0, 0))) := ⟨by rw [← hq_]; exact zC⟩; have n2_ : Aside0 (Below w.heap.size w w15) := ⟨by rw [← hq_]; exact zB⟩; clear gG gT HB hq_; have gG := n0_; have gT := n1_; have HB := n2_; clear n0_ n1_ n2_))
     replace gG := Aside0.mk (blk_drew gG.out)
     replace gT := Aside0.mk (blk_drew gT.out)
     replace HB := Aside0.mk (below_drew1 HB.out)
     refine st1 12 [] (S := fun w' => G5 w' iU (.int .i64 a2_0) (.int .i64 a2_1) (.int .i64 a2_2) (.slice A2_3 l2_3.length c2_3) (.slice A2_4 l2_4.length c2_4) (H5 w' fV (.int .i64 a0_0) (.string a0_1) (.string a0_2) (.float .f64 a0_3) (.bool true))) (fun hHeld => ?_); refine with_tabW bZ.tab3 bZ.bits3 (fun HT_ HW_ => ?_)
     generalize w15.drew = w16 at gG gT HB hHeld ⊢
     refine pz 0 29 ?_
     refine tk10 1 30 ?_
     refine pz 2 31 ?_
     refine pz 3 32 ?_
     refine pz 4 33 ?_
     refine pz 6 35 ?_
     refine tk10 5 34 ?_
     refine tk10 7 36 ?_
     refine on1 8 (some 37) fun K hK => ?_
     refine goes_ Tryz.func26 (by kernel_rfl) rfl #[.string a0_1] (by rfl) rfl rfl Z28 ?_
     with_reducible refine (aX.calls k a0_1 xW _ Hs.out).mono ?_
     rintro e w17 ⟨rfl, hb⟩
     refine ⟨_, rfl, ?_⟩
     replace gG := Aside0.mk (blk_below (g := fV) zC hb)
     replace gT := Aside0.mk (blk_below (g := iU) zC hb)
     replace HB := Aside0.mk (below_step (w := w) zB hb)
     try clear hb
     refine hK.out _ _ zS (fun hHeld => ?_)
     clear hK K
     refine nz (N := some 37) ?_
     refine pz 9 38 ?_
     refine pz 10 39 ?_
     refine pz 11 6 ?_
     refine dn1 ?_
     try go_wp2
     go_ret
     exact ⟨Z11, zB⟩
   focus
    obtain rfl := Option.some.inj H
    go_enter Tryz.func9, Tryz.ntmps9
    try go_wp2_with (first | ((with_reducible refine gate_dst (N := 3) rfl ?_); refine box_event ?hg (N := 3) ?hd (cs := #[.int .i64 a0_0, .string a0_1, .string a0_2, .float .f64 a0_3, .bool true]) (t := 39) ?hr ?_; (case hd => rfl); (case hg => rfl); (case hr => exact Z14); intro fV hg w18 hbox hb; have gG := Aside0.mk (hbox); have Me : Aside0 (w.heap.size ≤ fV) := ⟨Z21⟩; have Mf : Aside0 (w.heap.size ≤ fV) := ⟨Z21⟩; replace HB := Aside0.mk (below_step (w := w) zB hb); clear hb hbox hg) | ((with_reducible refine gate_dst (N := 5) rfl ?_); refine box_event ?hg (N := 5) ?hd (cs := #[.int .i64 a2_0, .int .i64 a2_1, .int .i64 a2_2, .slice A2_3 l2_3.length c2_3, .slice A2_4 l2_4.length c2_4]) (t := 31) ?hr ?_; (case hd => rfl); (case hg => rfl); (case hr => exact Z14); intro iU hg w19 hbox hb; have gT := Aside0.mk (hbox); have Mg : Aside0 (w.heap.size ≤ iU) := ⟨Z21⟩; have Mh : Aside0 (w.heap.size ≤ iU) := ⟨Z21⟩; replace HB := Aside0.mk (below_step (w := w) zB hb); have vX : Aside0 (fV ≠ iU) := ⟨by rw [hg]; exact Nat.ne_of_lt (blk_lt (g := fV) zC)⟩; have vY : Aside0 (iU ≠ fV) := ⟨by rw [hg]; exact Nat.ne_of_gt (blk_lt (g := fV) zC)⟩; replace gG := Aside0.mk (blk_below (g := fV) zC hb); clear hb hbox hg))
    replace gG := Aside0.mk (blk_drew gG.out)
    replace gT := Aside0.mk (blk_drew gT.out)
    replace HB := Aside0.mk (below_drew1 HB.out)
    refine st1 22 [] (S := fun w' => G5 w' fV (.int .i64 a0_0) (.string a0_1) (.string a0_2) (.float .f64 a0_3) (.bool true) (H5 w' iU (.int .i64 a2_0) (.int .i64 a2_1) (.int .i64 a2_2) (.slice A2_3 l2_3.length c2_3) (.slice A2_4 l2_4.length c2_4))) (fun hHeld => ?_); refine with_tabW bZ.tab1 bZ.bits1 (fun HT_ HW_ => ?_)
    generalize w19.drew = w20 at gG gT HB hHeld ⊢
    refine pz 0 7 ?_
    refine tk10 1 8 ?_
    refine pz 2 9 ?_
    refine pz 3 10 ?_
    refine pz 4 11 ?_
    refine pz 6 13 ?_
    refine tk10 5 12 ?_
    refine tk10 7 14 ?_
    refine on1 8 (some 15) fun K hK => ?_
    refine goes_ Tryz.func25 (by kernel_rfl) rfl #[.int .i64 a2_0] (by rfl) rfl rfl Z28 ?_
    with_reducible refine (cK.calls a2_0 vW _ A5.out).mono ?_
    rintro e w' ⟨rfl, ⟨nd, rfl⟩⟩
    refine ⟨_, rfl, ?_⟩
    refine hK.out _ _ zS (fun hHeld => ?_)
    clear hK K
    refine nz (N := some 15) ?_
    refine pz 9 16 ?_
    refine pz 10 17 ?_
    refine pz 11 18 ?_
    refine pz 12 19 ?_
    refine pz 14 21 ?_
    refine pz 15 22 ?_
    refine pz 17 24 ?_
    refine tk10 13 20 ?_
    refine tk10 16 23 ?_
    refine tk10 18 25 ?_
    refine pz 19 26 ?_
    refine pz 20 27 ?_
    refine pz 21 28 ?_
    refine dn1 ?_
    try go_wp2
    (try (rw [drewN_self w20]; generalize hq_ : World.drewN w20 _ = w20; have n0_ : Aside0 (w20.heap[fV]? = some (.cells #[.int .i64 a0_0, .string a0_1, .string a0_2, .float .f64 a0_3, .bool true] 39 (0, 0))) := ⟨by rw [← hq_]; exact zC⟩; have n1_ : Aside0 (w20.heap[iU]? = some (.cells #[.int .i64 a2_0, .int .i64 a2_1, .int .i64 a2_2, .slice A2_3 l2_3.length c2_3, .slice A2_4 l2_4.length c2_4] 31 (0, 0))) := ⟨by rw [← hq_]; exact zC⟩; have n2_ : Aside0 (Below w.heap.size w w20) := ⟨by rw [← hq_]; exact zB⟩; clear gG gT HB hq_; have gG := n0_; have gT := n1_; have HB := n2_; clear n0_ n1_ n2_))
    replace gG := Aside0.mk (blk_drew gG.out)
    replace gT := Aside0.mk (blk_drew gT.out)
    replace HB := Aside0.mk (below_drew1 HB.out)
    refine st1 12 [] (S := fun w' => H5 w' iU (.int .i64 a2_0) (.int .i64 a2_1) (.int .i64 a2_2) (.slice A2_3 l2_3.length c2_3) (.slice A2_4 l2_4.length c2_4)) (fun hHeld => ?_); refine with_tabW bZ.tab3 bZ.bits3 (fun HT_ HW_ => ?_)
    generalize w20.drew = w21 at gG gT HB hHeld ⊢
    refine pz 0 29 ?_
    refine tk5 1 30 ?_
    refine pz 2 31 ?_
    refine pz 3 32 ?_
    refine pu 4 33 ?_
    refine pu 5 34 ?_
    refine pu 6 35 ?_
    refine pu 7 36 ?_
    refine pu 8 37 ?_
    refine pu 9 38 ?_
    refine pz 10 39 ?_
    refine pz 11 6 ?_
    refine dn1 ?_
    try go_wp2
    go_ret
    exact ⟨Z11, zB⟩
  exact absurd H (by simp)
 exact absurd H (by simp)
end Go.Proofs.YtkjnahgicfmicaaGreatDoor.Sp

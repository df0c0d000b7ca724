import Derived.Test.YtkjnahgicfmicaaGreatDoorZip
import Derived.Test.YtkjnahgicfmicaaGreatDoorQa
import Derived.Test.YtkjnahgicfmicaaGreatDoorQb
import Derived.Test.YtkjnahgicfmicaaGreatDoorQf
namespace Go.Proofs.YtkjnahgicfmicaaGreatDoor.Sp
section
set_option maxHeartbeats 8000000
set_option maxRecDepth 100000
open Go.RowKit Go.PW Go.PL Go.PM
attribute [local go_sem] max2_int min2_int max_two min_two max_three min_three max_four min_four
set_option linter.unusedVariables false
set_option linter.unusedSimpArgs false
structure dA where
 f : Nat → av → Option (Int × Int × Int × (List (S93)) × (List (S31)) × Bool)
 mono : ∀ a0 k, LeO (f k a0) (f (k + 1) a0)
 calls : ∀ (k : Nat) (a0 : av) (r1 : Int) (r2 : Int) (r3 : Int) (r4 : List (S93)) (r5 : List (S31)) (r6 : Bool) (w : World) (h : f k a0 = some (r1, r2, r3, r4, r5, r6)),
  Calls Tryz.prog 7 #[.string a0] w fun e w' => ∃ v3_ v4_ : Value, e = .returned (.tuple #[.agg #[.int .i64 r1, .int .i64 r2, .int .i64 r3, v3_, v4_], .bool r6]) ∧ Kd.R k93 93 w' w.heap.size (fun _ => True) v3_ r4 ∧ Kd.R k31 31 w' w.heap.size (fun k_ => some k_ ≠ (v3_ : Value).ownBlock) v4_ r5 ∧ Below w.heap.size w w'
def kV.f (k : Nat) (a0 : av) : Option (Int × Int × Int × (List (S93)) × (List (S31)) × Bool) := none
theorem kV.calls (k : Nat) (a0 : av) (r1 : Int) (r2 : Int) (r3 : Int) (r4 : List (S93)) (r5 : List (S31)) (r6 : Bool) (w : World) (h : kV.f k a0 = some (r1, r2, r3, r4, r5, r6)) :
 Calls Tryz.prog 7 #[.string a0] w fun e w' => ∃ v3_ v4_ : Value, e = .returned (.tuple #[.agg #[.int .i64 r1, .int .i64 r2, .int .i64 r3, v3_, v4_], .bool r6]) ∧ Kd.R k93 93 w' w.heap.size (fun _ => True) v3_ r4 ∧ Kd.R k31 31 w' w.heap.size (fun k_ => some k_ ≠ (v3_ : Value).ownBlock) v4_ r5 ∧ Below w.heap.size w w' := by
 have hu31 := Tryz.underlying31
 have hu50 := Tryz.underlying50
 have HB := ab (Below.refl w.heap.size w)
 have H : (none) = some (r1, r2, r3, r4, r5, r6) := h
 clear h
 exact absurd H (by simp)
structure tB where
 vI : dA
def eE.f (a0 : Int) : Option (Int) := if a0 = 98 then (some 8) else (if a0 = 102 then (some 12) else (if a0 = 110 then (some 10) else (if a0 = 114 then (some 13) else (if a0 = 116 then (some 9) else (some a0)))))
theorem eE.calls (a0 : Int) (r : Int) (w : World) (h : eE.f a0 = some r) :
 Calls Tryz.prog 51 #[.int .u8 a0] w fun e w' => e = .returned (.int .u8 r) ∧ Drawn0 w w' := by
 unfold eE.f at h
 have H := h
 clear h
 revert H; refine sIe1n0_e0n1 (fun gJ nD H => ?_) fun gJ nD H => ?_
 ·as_aux_lemma =>
   obtain rfl := au H
   go_enter Tryz.func51, Tryz.ntmps51
   go_wp2
   go_ret
   exact ⟨Z7, Z10⟩
 revert H; refine sIe1n0_e0n1 (fun dX oM H => ?_) fun dX oM H => ?_
 ·as_aux_lemma =>
   obtain rfl := au H
   go_enter Tryz.func51, Tryz.ntmps51
   go_wp2
   go_ret
   exact ⟨Z7, Z10⟩
 revert H; refine sIe1n0_e0n1 (fun gT Ca H => ?_) fun gT Ca H => ?_
 ·as_aux_lemma =>
   obtain rfl := au H
   go_enter Tryz.func51, Tryz.ntmps51
   go_wp2
   go_ret
   exact ⟨Z7, Z10⟩
 revert H; refine sIe1n0_e0n1 (fun iJ sT H => ?_) fun iJ sT H => ?_
 ·as_aux_lemma =>
   obtain rfl := au H
   go_enter Tryz.func51, Tryz.ntmps51
   go_wp2
   go_ret
   exact ⟨Z7, Z10⟩
 revert H; refine sIe1n0_e0n1 (fun eV oU H => ?_) fun eV oU H => ?_
 ·as_aux_lemma =>
   obtain rfl := au H
   go_enter Tryz.func51, Tryz.ntmps51
   go_wp2
   go_ret
   exact ⟨Z7, Z10⟩
 as_aux_lemma =>
  obtain rfl := au H
  go_enter Tryz.func51, Tryz.ntmps51
  go_wp2
  go_ret
  exact ⟨Z7, Z10⟩
def bC.j0 : Nat → List Int → Int → Bool → Option (List Int)
 | 0, _, _, _ => none
 | k + 1, x0, x1, x27 => if x27 = true then ((some (([239, 191, 189] : List Int) : List Int)).bind fun oW => (if x0.length + oW.length < 140737488355328 then (some (x0 ++ oW)) else (none))) else (if x1 < 65536 then ((some (([(wrap64 (224 + (wrap64 (Int.tdiv x1 4096)))) % 256, (wrap64 (128 + (Int.tmod (wrap64 (Int.tdiv x1 64)) 64))) % 256, (wrap64 (128 + (Int.tmod x1 64))) % 256] : List Int) : List Int)).bind fun oX => (if x0.length + oX.length < 140737488355328 then (some (x0 ++ oX)) else (none))) else ((some (([(wrap64 (240 + (wrap64 (Int.tdiv x1 262144)))) % 256, (wrap64 (128 + (Int.tmod (wrap64 (Int.tdiv x1 4096)) 64))) % 256, (wrap64 (128 + (Int.tmod (wrap64 (Int.tdiv x1 64)) 64))) % 256, (wrap64 (128 + (Int.tmod x1 64))) % 256] : List Int) : List Int)).bind fun oY => (if x0.length + oY.length < 140737488355328 then (some (x0 ++ oY)) else (none))))
def bC.f (k : Nat) (l0 : List Int) (a1 : Int) : Option (List Int) := if a1 < 128 then (if l0.length < 140737488355328 then (some (l0 ++ [(a1) % 256])) else (none)) else (if a1 < 2048 then ((some (([(wrap64 (192 + (wrap64 (Int.tdiv a1 64)))) % 256, (wrap64 (128 + (Int.tmod a1 64))) % 256] : List Int) : List Int)).bind fun oZ => (if l0.length + oZ.length < 140737488355328 then (some (l0 ++ oZ)) else (none))) else ((cS.f a1).bind fun Ik => (if Ik = true then (bC.j0 k l0 a1 true) else ((cV.f a1).bind fun yH => (bC.j0 k l0 a1 yH)))))
theorem bC.mono_l : ∀ k, (∀ y0 y1 y2, LeO (bC.j0 k y0 y1 y2) (bC.j0 (k + 1) y0 y1 y2))
 | 0 => fun _ _ _ r h => by simp [bC.j0] at h
 | k + 1 => by
  have ih0 := bC.mono_l k
  ·intro y0 y1 y2
   unfold bC.j0
   exact zM
theorem bC.mono : ∀ a0 a1 k, LeO (bC.f k a0 a1) (bC.f (k + 1) a0 a1) := by
 intro a0 a1 k
 have ih0 := bC.mono_l k
 unfold bC.f
 exact zM
instance bC.mi  {a0 a1 k} : LeI (bC.f k a0 a1) (bC.f (k + 1) a0 a1) := ⟨⟨bC.mono a0 a1 k⟩⟩
theorem bC.calls (k : Nat) (P0_ : Nat → Prop) (u9000_ : Value) (l0 : List Int) (a1 : Int) (r : List Int) (w0 w : World) (hB : Below w0.heap.size w0 w) (ho0 : Kd.R (Kd.int .u8) 5 w w0.heap.size P0_ u9000_ l0) (h : bC.f k l0 a1 = some r) :
 Calls Tryz.prog 52 #[u9000_, .int .i64 a1] w fun e w' => ∃ v0_ : Value, e = .returned (v0_) ∧ Kd.R (Kd.int .u8) 5 w' w0.heap.size (fun k_ => (P0_ k_ ∨ w.heap.size ≤ k_)) v0_ r ∧ Below w0.heap.size w0 w' ∧ Kept w w' (fun k_ => P0_ k_) := by
 have Dx := ab (show Kd.R (Kd.int .u8) 5 w w0.heap.size (fun k_ => (P0_ k_ ∨ w.heap.size ≤ k_)) u9000_ l0 from Kd.R_mono ho0 (fun k_ hk => (.inl hk)))
 have HK := ab (Kept.refl w (fun k_ => P0_ k_))
 have HW0 := ab hB.size
 have HB := ab hB
 clear hB
 unfold bC.f at h
 have H := h
 clear h
 revert H; refine sId1_d0 (fun dX H => ?_) fun dX H => ?_
 ·revert H; refine sNk fun c4 H => ?_
  have aaW := ab c4
  clear c4
  obtain ⟨aaX, hy279⟩ : ∃ y_ : List Int, y_ = (l0 ++ [(a1) % 256]) := ⟨_, rfl⟩
  replace H : (some aaX) = some r := by first | (rw [hy279]; with_reducible exact H) | (have H2_ := (al _ _).symm.trans H; rw [hy279]; with_reducible exact H2_) | (have H2_ := (al _ _).symm.trans H; with_reducible exact H2_) | with_reducible exact H | (rw [hy279]; exact H) | exact H
  have Il := ab hy279
  clear hy279
  as_aux_lemma =>
   obtain rfl := au H
   go_enter Tryz.func52, Tryz.ntmps52
   go_wp2_with (first | ((with_reducible refine gate_builtin (b := .append) (xs := #[.tmp 8, .tmp 11]) rfl ?_); at_builtin; refine Kd.R_append (Kd.int .u8) (w0 := w0) w0.heap.size rfl (.tmp 8) (.tmp 11) 86 5 (.int .u8 0) 1 rfl Tryz.underlying86 info5 rfl (by decide) (by omega) u9000_ l0 ((a1) % 256) [.int .u8 ((a1) % 256)] (fun k_ => (P0_ k_ ∨ w.heap.size ≤ k_)) (fun _ => False) rfl rfl ?aP (fun _ hk => hk.elim) ?aF ?aO ?aB ?aS ?aL ?_; (case aP => exact rfl); (case aB => exact zB); (case aF => exact (fun k_ hk => (.inr (Nat.le_trans Z32 hk)))); (case aO => exact Z37); (case aS => exact (below_size zB)); (case aL => have := aaW.out; omega); intro v280 w5 ho hb hg hat; rw [← Il.out] at ho; replace HB := ab (hb); replace HK := ab (Kept.of_grown (S := (fun k_ => P0_ k_)) hg zP (fun k_ e_ => (Dx.out.1 k_ e_))); have Im := ab (ho); clear Dx; clear ho hb hg hat))
   go_ret
   exact ⟨_, Z9, by (with_reducible repeat (first | apply Kd.R_alloc | apply Kd.R_drewN | apply Kd.R_drew)); exact Im.out, zB, zP⟩
 revert H; refine sId1_d0 (fun eV H => ?_) fun eV H => ?_
 ·obtain ⟨oZ, hy282⟩ : ∃ y_ : List Int, y_ = (([(wrap64 (192 + (wrap64 (Int.tdiv a1 64)))) % 256, (wrap64 (128 + (Int.tmod a1 64))) % 256] : List Int)) := ⟨_, rfl⟩
  replace H : (if l0.length + oZ.length < 140737488355328 then (some (l0 ++ oZ)) else (none)) = some r := by first | (rw [hy282]; with_reducible exact H) | (have H2_ := (al _ _).symm.trans H; rw [hy282]; with_reducible exact H2_) | (have H2_ := (al _ _).symm.trans H; with_reducible exact H2_) | with_reducible exact H | (rw [hy282]; exact H) | exact H
  have Bb := ab hy282
  clear hy282
  revert H; refine sNk fun c7 H => ?_
  have aaY := ab c7
  clear c7
  obtain ⟨aaZ, hy285⟩ : ∃ y_ : List Int, y_ = (l0 ++ oZ) := ⟨_, rfl⟩
  replace H : (some aaZ) = some r := by first | (rw [hy285]; with_reducible exact H) | (have H2_ := (al _ _).symm.trans H; rw [hy285]; with_reducible exact H2_) | (have H2_ := (al _ _).symm.trans H; with_reducible exact H2_) | with_reducible exact H | (rw [hy285]; exact H) | exact H
  have Io := ab hy285
  clear hy285
  as_aux_lemma =>
   obtain rfl := au H
   go_enter Tryz.func52, Tryz.ntmps52
   go_wp2_with (first | ((with_reducible refine gate_dst (N := 25) rfl ?_); refine Kd.R_lit (Kd.int .u8) _ 5 ?hg (N := 25) ?hd (xs := ([(wrap64 (192 + (wrap64 (Int.tdiv a1 64)))) % 256, (wrap64 (128 + (Int.tmod a1 64))) % 256] : List Int)) (inner := [.int .u8 ((wrap64 (192 + (wrap64 (Int.tdiv a1 64)))) % 256), .int .u8 ((wrap64 (128 + (Int.tmod a1 64))) % 256)]) (ok := fun _ => True) (okp := fun _ => True) ?hr ?hp (fun _ hk => hk) trivial (Below.refl _ _) (Nat.le_refl _) (by simp) ?_; (case hd => rfl); (case hg => rfl); (case hr => exact Z11); (case hp => exact (Reps.one (show Kd.M (Kd.int .u8) _ _ _ ((wrap64 (192 + (wrap64 (Int.tdiv a1 64)))) % 256) [.int .u8 ((wrap64 (192 + (wrap64 (Int.tdiv a1 64)))) % 256)] from rfl) (Reps.one (show Kd.M (Kd.int .u8) _ _ _ ((wrap64 (128 + (Int.tmod a1 64))) % 256) [.int .u8 ((wrap64 (128 + (Int.tmod a1 64))) % 256)] from rfl) (Reps.none _ _)))); intro v283 w8 ho9 hb hg_ hnew_; clear hg_ hnew_; (first | rw [← Bb.out] at ho9 | (simp only [Int.reduceToNat] at ho9; rw [← Bb.out] at ho9)); have pA := ab (Kd.R_lower (Kd.R_new' (Kd.R_newM (M := fun k_ => (P0_ k_ ∨ w.heap.size ≤ k_)) ho9 Z32 (fun k_ h_ => .inr h_)) (Kd.R_lt Z37)) (below_size zB)); replace Dx := ab (Kd.R_elder' Z37 (Kd.R_base ho9) hb); replace HK := ab (Kept.below (S := (fun k_ => P0_ k_)) zP hb); replace HB := ab (below_step (w := w0) zB hb); clear hb ho9; obtain ⟨iK, co11, eo11⟩ := Kd.R_slice pA.out; subst eo11) | ((with_reducible refine gate_builtin (b := .append) (xs := #[.tmp 16, .tmp 25]) rfl ?_); at_builtin; refine Kd.R_append_rows (Kd.int .u8) (w0 := w0) w0.heap.size rfl (.tmp 16) (.tmp 25) 86 5 (.int .u8 0) 1 rfl Tryz.underlying86 info5 rfl (by decide) (by omega) u9000_ l0 oZ _ _ _ (fun k_ => (P0_ k_ ∨ w.heap.size ≤ k_) ∧ some k_ ≠ (.slice iK oZ.length co11 : Value).ownBlock) (fun _ => False) rfl rfl ?aO ?aR (fun _ _ h => h) (fun _ h => h.elim) ?aF ?aB ?aS ?aL ?_; (case aR => repeat (first | exact (Kd.R_reads' pA.out).2.2 | (with_reducible refine Kd.C_alloc ?_ _) | (with_reducible refine Kd.C_drewN ?_ _) | (with_reducible refine Kd.C_drew ?_))); (case aB => exact zB); (case aF => exact (fun k_ hk => ⟨(.inr (Nat.le_trans Z32 hk)), Kd.fresh' (Kd.R_lt (by (with_reducible repeat (first | apply Kd.R_alloc | apply Kd.R_drewN | apply Kd.R_drew)); exact pA.out)) k_ hk⟩)); (case aO => exact Z37); (case aS => exact (below_size zB)); (case aL => have := aaY.out; omega); intro v286 w10 ho hb hg hat; rw [← Io.out] at ho; replace pA := ab (Kd.R_after (ok := (fun k_ => (P0_ k_ ∨ w.heap.size ≤ k_))) (by (with_reducible repeat (first | apply Kd.R_alloc | apply Kd.R_drewN | apply Kd.R_drew)); exact Kd.R_mono pA.out (fun _ hk => ⟨hk.1.1, hk.2⟩)) hg hat); replace HB := ab (hb); replace HK := ab (Kept.of_grown (S := (fun k_ => P0_ k_)) hg zP (fun k_ e_ => (Dx.out.1 k_ e_).1)); have Ip := ab (ho); clear Dx; clear ho hb hg hat))
   go_ret
   exact ⟨_, Z9, by (with_reducible repeat (first | apply Kd.R_alloc | apply Kd.R_drewN | apply Kd.R_drew)); exact Kd.R_mono Ip.out (fun _ hk => hk.1), zB, zP⟩
 have pQ := ab H
 clear H
 go_enter Tryz.func52, Tryz.ntmps52
 go_upto_region 5 with (fail)
 go_cut [27] (fun v27 wc => ∃ (kq : Nat) (qC : Bool), v27 = .bool qC ∧ Aside0 (bC.j0 kq l0 a1 qC = some r) ∧ Aside0 (kq ≤ k) ∧ Aside0 (Kd.R (Kd.int .u8) 5 wc w0.heap.size (fun k_ => (P0_ k_ ∨ w.heap.size ≤ k_)) u9000_ l0) ∧ Aside0 (Kept w wc (fun k_ => P0_ k_)) ∧ Aside0 (Below w0.heap.size w0 wc))
 case first =>
  have H := pQ.out
  clear pQ
  revert H; refine bnd ?_; rintro Ik vH H
  replace H := sB H
  obtain ⟨rfl, H⟩ | ⟨rfl, H⟩ := H
  ·as_aux_lemma =>
    have H' := ab H
    clear H
    go_wp2_with (first | (refine gl 35 (some 29) Tryz.func35 #[.int .i64 a1] ?_; (with_reducible refine (cS.calls a1 true _ vH.out).mono ?_); rintro e w' ⟨rfl, ⟨nd, rfl⟩⟩; refine ⟨_, rfl, ?_⟩))
    go_meet
    case rel => exact ⟨_, (true), Z7, H', ⟨Z27⟩, ⟨Z37⟩, ⟨zP⟩, ⟨zB⟩⟩
  revert H; refine bnd ?_; rintro yH Ba H
  as_aux_lemma =>
   have H' := ab H
   clear H
   go_wp2_with (first | (refine gl 35 (some 29) Tryz.func35 #[.int .i64 a1] ?_; (with_reducible refine (cS.calls a1 false _ vH.out).mono ?_); rintro e w' ⟨rfl, ⟨nd, rfl⟩⟩; refine ⟨_, rfl, ?_⟩) | (go_at_call 36; (with_reducible refine (cV.calls a1 yH _ Ba.out).mono ?_); rintro e w' ⟨rfl, ⟨nd, rfl⟩⟩))
   go_meet
   case rel => exact ⟨_, (yH), Z7, H', ⟨Z27⟩, ⟨Z37⟩, ⟨zP⟩, ⟨zB⟩⟩
 case rest =>
  clear pQ
  try clear dX eV
  obtain ⟨kq, qC, rfl, HA, HJ11, mO, HK, HB⟩ := hcut
  cases kq with
  | zero => exact absurd HA.out (by simp [bC.j0])
  | succ kj11 =>
   have H := HA.out
   clear HA
   simp only [bC.j0] at H
   replace H := sB H
   obtain ⟨rfl, H⟩ | ⟨rfl, H⟩ := H
   ·obtain ⟨oW, hy290⟩ : ∃ y_ : List Int, y_ = (([239, 191, 189] : List Int)) := ⟨_, rfl⟩
    replace H : (if l0.length + oW.length < 140737488355328 then (some (l0 ++ oW)) else (none)) = some r := by first | (rw [hy290]; with_reducible exact H) | (have H2_ := (al _ _).symm.trans H; rw [hy290]; with_reducible exact H2_) | (have H2_ := (al _ _).symm.trans H; with_reducible exact H2_) | with_reducible exact H | (rw [hy290]; exact H) | exact H
    have Bc := ab hy290
    clear hy290
    revert H; refine sNk fun c17 H => ?_
    have Iq := ab c17
    clear c17
    obtain ⟨abA, hy293⟩ : ∃ y_ : List Int, y_ = (l0 ++ oW) := ⟨_, rfl⟩
    replace H : (some abA) = some r := by first | (rw [hy293]; with_reducible exact H) | (have H2_ := (al _ _).symm.trans H; rw [hy293]; with_reducible exact H2_) | (have H2_ := (al _ _).symm.trans H; with_reducible exact H2_) | with_reducible exact H | (rw [hy293]; exact H) | exact H
    have Ir := ab hy293
    clear hy293
    as_aux_lemma =>
     obtain rfl := au H
     go_wp2_with (first | ((with_reducible refine gate_dst (N := 35) rfl ?_); refine Kd.R_lit (Kd.int .u8) _ 5 ?hg (N := 35) ?hd (xs := ([239, 191, 189] : List Int)) (inner := [.int .u8 239, .int .u8 191, .int .u8 189]) (ok := fun _ => True) (okp := fun _ => True) ?hr ?hp (fun _ hk => hk) trivial (Below.refl _ _) (Nat.le_refl _) (by simp) ?_; (case hd => rfl); (case hg => rfl); (case hr => exact Z11); (case hp => exact (Reps.one (show Kd.M (Kd.int .u8) _ _ _ 239 [.int .u8 239] from rfl) (Reps.one (show Kd.M (Kd.int .u8) _ _ _ 191 [.int .u8 191] from rfl) (Reps.one (show Kd.M (Kd.int .u8) _ _ _ 189 [.int .u8 189] from rfl) (Reps.none _ _))))); intro v291 w18 ho19 hb hg_ hnew_; clear hg_ hnew_; (first | rw [← Bc.out] at ho19 | (simp only [Int.reduceToNat] at ho19; rw [← Bc.out] at ho19)); have pB := ab (Kd.R_lower (Kd.R_new' (Kd.R_newM (M := fun k_ => (P0_ k_ ∨ w.heap.size ≤ k_)) ho19 Z32 (fun k_ h_ => .inr h_)) (Kd.R_lt Z26)) (below_size zB)); replace mO := ab (Kd.R_elder' Z26 (Kd.R_base ho19) hb); replace HK := ab (Kept.below (S := (fun k_ => P0_ k_)) zP hb); replace HB := ab (below_step (w := w0) zB hb); clear hb ho19; obtain ⟨Iu, co21, eo21⟩ := Kd.R_slice pB.out; subst eo21) | ((with_reducible refine gate_builtin (b := .append) (xs := #[.tmp 34, .tmp 35]) rfl ?_); at_builtin; refine Kd.R_append_rows (Kd.int .u8) (w0 := w0) w0.heap.size rfl (.tmp 34) (.tmp 35) 86 5 (.int .u8 0) 1 rfl Tryz.underlying86 info5 rfl (by decide) (by omega) u9000_ l0 oW _ _ _ (fun k_ => (P0_ k_ ∨ w.heap.size ≤ k_) ∧ some k_ ≠ (.slice Iu oW.length co21 : Value).ownBlock) (fun _ => False) rfl rfl ?aO ?aR (fun _ _ h => h) (fun _ h => h.elim) ?aF ?aB ?aS ?aL ?_; (case aR => repeat (first | exact (Kd.R_reads' pB.out).2.2 | (with_reducible refine Kd.C_alloc ?_ _) | (with_reducible refine Kd.C_drewN ?_ _) | (with_reducible refine Kd.C_drew ?_))); (case aB => exact zB); (case aF => exact (fun k_ hk => ⟨(.inr (Nat.le_trans Z32 hk)), Kd.fresh' (Kd.R_lt (by (with_reducible repeat (first | apply Kd.R_alloc | apply Kd.R_drewN | apply Kd.R_drew)); exact pB.out)) k_ hk⟩)); (case aO => exact Z26); (case aS => exact (below_size zB)); (case aL => have := Iq.out; omega); intro v294 w20 ho hb hg hat; rw [← Ir.out] at ho; replace pB := ab (Kd.R_after (ok := (fun k_ => (P0_ k_ ∨ w.heap.size ≤ k_))) (by (with_reducible repeat (first | apply Kd.R_alloc | apply Kd.R_drewN | apply Kd.R_drew)); exact Kd.R_mono pB.out (fun _ hk => ⟨hk.1.1, hk.2⟩)) hg hat); replace HB := ab (hb); replace HK := ab (Kept.of_grown (S := (fun k_ => P0_ k_)) hg zP (fun k_ e_ => (mO.out.1 k_ e_).1)); have Iv := ab (ho); clear mO; clear ho hb hg hat))
     go_ret
     exact ⟨_, Z9, by (with_reducible repeat (first | apply Kd.R_alloc | apply Kd.R_drewN | apply Kd.R_drew)); exact Kd.R_mono Iv.out (fun _ hk => hk.1), zB, zP⟩
   revert H; refine sId1_d0 (fun kR H => ?_) fun kR H => ?_
   ·obtain ⟨oX, hy296⟩ : ∃ y_ : List Int, y_ = (([(wrap64 (224 + (wrap64 (Int.tdiv a1 4096)))) % 256, (wrap64 (128 + (Int.tmod (wrap64 (Int.tdiv a1 64)) 64))) % 256, (wrap64 (128 + (Int.tmod a1 64))) % 256] : List Int)) := ⟨_, rfl⟩
    replace H : (if l0.length + oX.length < 140737488355328 then (some (l0 ++ oX)) else (none)) = some r := by first | (rw [hy296]; with_reducible exact H) | (have H2_ := (al _ _).symm.trans H; rw [hy296]; with_reducible exact H2_) | (have H2_ := (al _ _).symm.trans H; with_reducible exact H2_) | with_reducible exact H | (rw [hy296]; exact H) | exact H
    have Bd := ab hy296
    clear hy296
    revert H; refine sNk fun c23 H => ?_
    have Iw := ab c23
    clear c23
    obtain ⟨abB, hy299⟩ : ∃ y_ : List Int, y_ = (l0 ++ oX) := ⟨_, rfl⟩
    replace H : (some abB) = some r := by first | (rw [hy299]; with_reducible exact H) | (have H2_ := (al _ _).symm.trans H; rw [hy299]; with_reducible exact H2_) | (have H2_ := (al _ _).symm.trans H; with_reducible exact H2_) | with_reducible exact H | (rw [hy299]; exact H) | exact H
    have Ix := ab hy299
    clear hy299
    as_aux_lemma =>
     obtain rfl := au H
     go_wp2_with (first | ((with_reducible refine gate_dst (N := 54) rfl ?_); refine Kd.R_lit (Kd.int .u8) _ 5 ?hg (N := 54) ?hd (xs := ([(wrap64 (224 + (wrap64 (Int.tdiv a1 4096)))) % 256, (wrap64 (128 + (Int.tmod (wrap64 (Int.tdiv a1 64)) 64))) % 256, (wrap64 (128 + (Int.tmod a1 64))) % 256] : List Int)) (inner := [.int .u8 ((wrap64 (224 + (wrap64 (Int.tdiv a1 4096)))) % 256), .int .u8 ((wrap64 (128 + (Int.tmod (wrap64 (Int.tdiv a1 64)) 64))) % 256), .int .u8 ((wrap64 (128 + (Int.tmod a1 64))) % 256)]) (ok := fun _ => True) (okp := fun _ => True) ?hr ?hp (fun _ hk => hk) trivial (Below.refl _ _) (Nat.le_refl _) (by simp) ?_; (case hd => rfl); (case hg => rfl); (case hr => exact Z11); (case hp => exact (Reps.one (show Kd.M (Kd.int .u8) _ _ _ ((wrap64 (224 + (wrap64 (Int.tdiv a1 4096)))) % 256) [.int .u8 ((wrap64 (224 + (wrap64 (Int.tdiv a1 4096)))) % 256)] from rfl) (Reps.one (show Kd.M (Kd.int .u8) _ _ _ ((wrap64 (128 + (Int.tmod (wrap64 (Int.tdiv a1 64)) 64))) % 256) [.int .u8 ((wrap64 (128 + (Int.tmod (wrap64 (Int.tdiv a1 64)) 64))) % 256)] from rfl) (Reps.one (show Kd.M (Kd.int .u8) _ _ _ ((wrap64 (128 + (Int.tmod a1 64))) % 256) [.int .u8 ((wrap64 (128 + (Int.tmod a1 64))) % 256)] from rfl) (Reps.none _ _))))); intro v297 w24 ho25 hb hg_ hnew_; clear hg_ hnew_; (first | rw [← Bd.out] at ho25 | (simp only [Int.reduceToNat] at ho25; rw [← Bd.out] at ho25)); have pC := ab (Kd.R_lower (Kd.R_new' (Kd.R_newM (M := fun k_ => (P0_ k_ ∨ w.heap.size ≤ k_)) ho25 Z32 (fun k_ h_ => .inr h_)) (Kd.R_lt Z26)) (below_size zB)); replace mO := ab (Kd.R_elder' Z26 (Kd.R_base ho25) hb); replace HK := ab (Kept.below (S := (fun k_ => P0_ k_)) zP hb); replace HB := ab (below_step (w := w0) zB hb); clear hb ho25; obtain ⟨abC, co27, eo27⟩ := Kd.R_slice pC.out; subst eo27) | ((with_reducible refine gate_builtin (b := .append) (xs := #[.tmp 40, .tmp 54]) rfl ?_); at_builtin; refine Kd.R_append_rows (Kd.int .u8) (w0 := w0) w0.heap.size rfl (.tmp 40) (.tmp 54) 86 5 (.int .u8 0) 1 rfl Tryz.underlying86 info5 rfl (by decide) (by omega) u9000_ l0 oX _ _ _ (fun k_ => (P0_ k_ ∨ w.heap.size ≤ k_) ∧ some k_ ≠ (.slice abC oX.length co27 : Value).ownBlock) (fun _ => False) rfl rfl ?aO ?aR (fun _ _ h => h) (fun _ h => h.elim) ?aF ?aB ?aS ?aL ?_; (case aR => repeat (first | exact (Kd.R_reads' pC.out).2.2 | (with_reducible refine Kd.C_alloc ?_ _) | (with_reducible refine Kd.C_drewN ?_ _) | (with_reducible refine Kd.C_drew ?_))); (case aB => exact zB); (case aF => exact (fun k_ hk => ⟨(.inr (Nat.le_trans Z32 hk)), Kd.fresh' (Kd.R_lt (by (with_reducible repeat (first | apply Kd.R_alloc | apply Kd.R_drewN | apply Kd.R_drew)); exact pC.out)) k_ hk⟩)); (case aO => exact Z26); (case aS => exact (below_size zB)); (case aL => have := Iw.out; omega); intro v300 w26 ho hb hg hat; rw [← Ix.out] at ho; replace pC := ab (Kd.R_after (ok := (fun k_ => (P0_ k_ ∨ w.heap.size ≤ k_))) (by (with_reducible repeat (first | apply Kd.R_alloc | apply Kd.R_drewN | apply Kd.R_drew)); exact Kd.R_mono pC.out (fun _ hk => ⟨hk.1.1, hk.2⟩)) hg hat); replace HB := ab (hb); replace HK := ab (Kept.of_grown (S := (fun k_ => P0_ k_)) hg zP (fun k_ e_ => (mO.out.1 k_ e_).1)); have Iy := ab (ho); clear mO; clear ho hb hg hat))
     go_ret
     exact ⟨_, Z9, by (with_reducible repeat (first | apply Kd.R_alloc | apply Kd.R_drewN | apply Kd.R_drew)); exact Kd.R_mono Iy.out (fun _ hk => hk.1), zB, zP⟩
   obtain ⟨oY, hy302⟩ : ∃ y_ : List Int, y_ = (([(wrap64 (240 + (wrap64 (Int.tdiv a1 262144)))) % 256, (wrap64 (128 + (Int.tmod (wrap64 (Int.tdiv a1 4096)) 64))) % 256, (wrap64 (128 + (Int.tmod (wrap64 (Int.tdiv a1 64)) 64))) % 256, (wrap64 (128 + (Int.tmod a1 64))) % 256] : List Int)) := ⟨_, rfl⟩
   replace H : (if l0.length + oY.length < 140737488355328 then (some (l0 ++ oY)) else (none)) = some r := by first | (rw [hy302]; with_reducible exact H) | (have H2_ := (al _ _).symm.trans H; rw [hy302]; with_reducible exact H2_) | (have H2_ := (al _ _).symm.trans H; with_reducible exact H2_) | with_reducible exact H | (rw [hy302]; exact H) | exact H
   have Be := ab hy302
   clear hy302
   revert H; refine sNk fun c28 H => ?_
   have Iz := ab c28
   clear c28
   obtain ⟨abD, hy305⟩ : ∃ y_ : List Int, y_ = (l0 ++ oY) := ⟨_, rfl⟩
   replace H : (some abD) = some r := by first | (rw [hy305]; with_reducible exact H) | (have H2_ := (al _ _).symm.trans H; rw [hy305]; with_reducible exact H2_) | (have H2_ := (al _ _).symm.trans H; with_reducible exact H2_) | with_reducible exact H | (rw [hy305]; exact H) | exact H
   have Ja := ab hy305
   clear hy305
   as_aux_lemma =>
    obtain rfl := au H
    go_wp2_with (first | ((with_reducible refine gate_dst (N := 75) rfl ?_); refine Kd.R_lit (Kd.int .u8) _ 5 ?hg (N := 75) ?hd (xs := ([(wrap64 (240 + (wrap64 (Int.tdiv a1 262144)))) % 256, (wrap64 (128 + (Int.tmod (wrap64 (Int.tdiv a1 4096)) 64))) % 256, (wrap64 (128 + (Int.tmod (wrap64 (Int.tdiv a1 64)) 64))) % 256, (wrap64 (128 + (Int.tmod a1 64))) % 256] : List Int)) (inner := [.int .u8 ((wrap64 (240 + (wrap64 (Int.tdiv a1 262144)))) % 256), .int .u8 ((wrap64 (128 + (Int.tmod (wrap64 (Int.tdiv a1 4096)) 64))) % 256), .int .u8 ((wrap64 (128 + (Int.tmod (wrap64 (Int.tdiv a1 64)) 64))) % 256), .int .u8 ((wrap64 (128 + (Int.tmod a1 64))) % 256)]) (ok := fun _ => True) (okp := fun _ => True) ?hr ?hp (fun _ hk => hk) trivial (Below.refl _ _) (Nat.le_refl _) (by simp) ?_; (case hd => rfl); (case hg => rfl); (case hr => exact Z11); (case hp => exact (Reps.one (show Kd.M (Kd.int .u8) _ _ _ ((wrap64 (240 + (wrap64 (Int.tdiv a1 262144)))) % 256) [.int .u8 ((wrap64 (240 + (wrap64 (Int.tdiv a1 262144)))) % 256)] from rfl) (Reps.one (show Kd.M (Kd.int .u8) _ _ _ ((wrap64 (128 + (Int.tmod (wrap64 (Int.tdiv a1 4096)) 64))) % 256) [.int .u8 ((wrap64 (128 + (Int.tmod (wrap64 (Int.tdiv a1 4096)) 64))) % 256)] from rfl) (Reps.one (show Kd.M (Kd.int .u8) _ _ _ ((wrap64 (128 + (Int.tmod (wrap64 (Int.tdiv a1 64)) 64))) % 256) [.int .u8 ((wrap64 (128 + (Int.tmod (wrap64 (Int.tdiv a1 64)) 64))) % 256)] from rfl) (Reps.one (show Kd.M (Kd.int .u8) _ _ _ ((wrap64 (128 + (Int.tmod a1 64))) % 256) [.int .u8 ((wrap64 (128 + (Int.tmod a1 64))) % 256)] from rfl) (Reps.none _ _)))))); intro v303 w29 ho30 hb hg_ hnew_; clear hg_ hnew_; (first | rw [← Be.out] at ho30 | (simp only [Int.reduceToNat] at ho30; rw [← Be.out] at ho30)); have pD := ab (Kd.R_lower (Kd.R_new' (Kd.R_newM (M := fun k_ => (P0_ k_ ∨ w.heap.size ≤ k_)) ho30 Z32 (fun k_ h_ => .inr h_)) (Kd.R_lt Z26)) (below_size zB)); replace mO := ab (Kd.R_elder' Z26 (Kd.R_base ho30) hb); replace HK := ab (Kept.below (S := (fun k_ => P0_ k_)) zP hb); replace HB := ab (below_step (w := w0) zB hb); clear hb ho30; obtain ⟨abE, co32, eo32⟩ := Kd.R_slice pD.out; subst eo32) | ((with_reducible refine gate_builtin (b := .append) (xs := #[.tmp 56, .tmp 75]) rfl ?_); at_builtin; refine Kd.R_append_rows (Kd.int .u8) (w0 := w0) w0.heap.size rfl (.tmp 56) (.tmp 75) 86 5 (.int .u8 0) 1 rfl Tryz.underlying86 info5 rfl (by decide) (by omega) u9000_ l0 oY _ _ _ (fun k_ => (P0_ k_ ∨ w.heap.size ≤ k_) ∧ some k_ ≠ (.slice abE oY.length co32 : Value).ownBlock) (fun _ => False) rfl rfl ?aO ?aR (fun _ _ h => h) (fun _ h => h.elim) ?aF ?aB ?aS ?aL ?_; (case aR => repeat (first | exact (Kd.R_reads' pD.out).2.2 | (with_reducible refine Kd.C_alloc ?_ _) | (with_reducible refine Kd.C_drewN ?_ _) | (with_reducible refine Kd.C_drew ?_))); (case aB => exact zB); (case aF => exact (fun k_ hk => ⟨(.inr (Nat.le_trans Z32 hk)), Kd.fresh' (Kd.R_lt (by (with_reducible repeat (first | apply Kd.R_alloc | apply Kd.R_drewN | apply Kd.R_drew)); exact pD.out)) k_ hk⟩)); (case aO => exact Z26); (case aS => exact (below_size zB)); (case aL => have := Iz.out; omega); intro v306 w31 ho hb hg hat; rw [← Ja.out] at ho; replace pD := ab (Kd.R_after (ok := (fun k_ => (P0_ k_ ∨ w.heap.size ≤ k_))) (by (with_reducible repeat (first | apply Kd.R_alloc | apply Kd.R_drewN | apply Kd.R_drew)); exact Kd.R_mono pD.out (fun _ hk => ⟨hk.1.1, hk.2⟩)) hg hat); replace HB := ab (hb); replace HK := ab (Kept.of_grown (S := (fun k_ => P0_ k_)) hg zP (fun k_ e_ => (mO.out.1 k_ e_).1)); have Jb := ab (ho); clear mO; clear ho hb hg hat))
    go_ret
    exact ⟨_, Z9, by (with_reducible repeat (first | apply Kd.R_alloc | apply Kd.R_drewN | apply Kd.R_drew)); exact Kd.R_mono Jb.out (fun _ hk => hk.1), zB, zP⟩
end
section
open Go.RowKit Go.PW Go.PL Go.PM
attribute [local go_sem] max2_int min2_int max_two min_two max_three min_three max_four min_four
set_option linter.unusedVariables false
set_option linter.unusedSimpArgs false
def aZ.l0 : Nat → List Int → av → Int → Option (av)
 | 0, _, _, _ => none
 | k + 1, x3, x4, x5 => if x5 < (x4.size : Int) then (if 0 ≤ x5 then (if (bt x4 x5) = 92 then ((bE.f k x4 x5).bind fun bt311 => (if bt311.2 = true then ((bE.f k x4 (wrap64 (x5 + 6))).bind fun bt317 => (if bt317.2 = true then ((cS.f bt311.1).bind fun Ee => (if Ee = true then ((cV.f bt317.1).bind fun Ef => (if Ef = true then ((bC.f k x3 (wrap64 ((wrap64 (65536 + (wrap64 ((wrap64 (bt311.1 - 55296)) * 1024)))) + (wrap64 (bt317.1 - 56320))))).bind fun vV => (aZ.l0 k vV x4 (wrap64 ((wrap64 (x5 + 6)) + 6)))) else ((bC.f k x3 bt311.1).bind fun vW => (aZ.l0 k vW x4 (wrap64 (x5 + 6)))))) else ((bC.f k x3 bt311.1).bind fun vX => (aZ.l0 k vX x4 (wrap64 (x5 + 6)))))) else ((bC.f k x3 bt311.1).bind fun vY => (aZ.l0 k vY x4 (wrap64 (x5 + 6)))))) else (if 0 ≤ (wrap64 (x5 + 1)) then (if (wrap64 (x5 + 1)) < (x4.size : Int) then ((eE.f (bt x4 (wrap64 (x5 + 1)))).bind fun oL => (if x3.length < 140737488355328 then (aZ.l0 k (x3 ++ [oL]) x4 (wrap64 (x5 + 2))) else (none))) else (none)) else (none)))) else (if x3.length < 140737488355328 then (aZ.l0 k (x3 ++ [bt x4 x5]) x4 (wrap64 (x5 + 1))) else (none))) else (none)) else (some (strOfNums x3))
def aZ.f (k : Nat) (a0 : av) : Option (av) := if 1 ≤ (wrap64 ((a0.size : Int) - 1)) then (if (wrap64 ((a0.size : Int) - 1)) ≤ (a0.size : Int) then (aZ.l0 k ([] : List Int) (a0.extract 1 ((wrap64 ((a0.size : Int) - 1)) : Int).toNat) 0) else (none)) else (none)
theorem aZ.mono_l : ∀ k, (∀ y0 y1 y2, LeO (aZ.l0 k y0 y1 y2) (aZ.l0 (k + 1) y0 y1 y2))
 | 0 => fun _ _ _ r h => by simp [aZ.l0] at h
 | k + 1 => by
  have ih0 := aZ.mono_l k
  ·intro y0 y1 y2
   unfold aZ.l0
   exact zM
theorem aZ.mono : ∀ a0 k, LeO (aZ.f k a0) (aZ.f (k + 1) a0) := by
 intro a0 k
 have ih0 := aZ.mono_l k
 unfold aZ.f
 exact zM
instance aZ.mi  {a0 k} : LeI (aZ.f k a0) (aZ.f (k + 1) a0) := ⟨⟨aZ.mono a0 k⟩⟩
set_option maxHeartbeats 8000000 in
set_option maxRecDepth 100000 in
theorem aZ.calls (k : Nat) (a0 : av) (r : av) (w : World) (h : aZ.f k a0 = some r) :
 Calls Tryz.prog 26 #[.string a0] w fun e w' => e = .returned (.string r) ∧ Below w.heap.size w w' := by
 have HB := ab (Below.refl w.heap.size w)
 unfold aZ.f at h
 have H := h
 clear h
 revert H; refine sNt1d1 fun gJ nD H => ?_
 revert H; refine sNt1d1 fun dX oM H => ?_
 obtain ⟨S4, hS4⟩ : ∃ S4, a0.extract 1 ((wrap64 ((a0.size : Int) - 1)) : Int).toNat = S4 := ⟨_, rfl⟩
 rw [hS4] at H
 have H' := ab H
 clear H
 go_enter Tryz.func26, Tryz.ntmps26
 go_wp2
 (try simp only [Act.put, ap, aq, ar])
 go_loopg [3, 5] k (fun kq v3 v5 w' => ∃ (cM : List Int) (bW : Int), v5 = .int .i64 bW ∧ Aside0 (aZ.l0 kq cM S4 bW = some r) ∧ Aside0 (kq ≤ k) ∧ Aside0 (Kd.R (Kd.int .u8) 5 w' w.heap.size (fun _ => True) v3 cM) ∧ Aside0 (Below w.heap.size w w'))
 case atStart => exact ⟨(([] : List Int)), (0), Z7, H', ⟨Nat.le_refl _⟩, ⟨Z8⟩, ⟨zB⟩⟩
 case round =>
  clear H'
  try clear gJ nD dX oM
  obtain ⟨cM, bW, rfl, HA, HK1, iM, HB⟩ := hrel
  cases gk with
  | zero => exact absurd HA.out (by simp [aZ.l0])
  | succ k1 =>
   have H := HA.out
   clear HA
   simp only [aZ.l0] at H
   revert H; refine sId1_d0 (fun gT H => ?_) fun gT H => ?_
   ·revert H; refine sNd1 fun iJ H => ?_
    revert H; refine sIe1n0_e0n1 (fun iZ nF H => ?_) fun iZ nF H => ?_
    ·revert H; refine bnd ?_; rintro ⟨lA, akA⟩ A8 H; try dsimp only at H
     replace H := sB H
     obtain ⟨rfl, H⟩ | ⟨rfl, H⟩ := H
     ·revert H; refine bnd ?_; rintro ⟨sO, akB⟩ Eg H; try dsimp only at H
      replace H := sB H
      obtain ⟨rfl, H⟩ | ⟨rfl, H⟩ := H
      ·revert H; refine bnd ?_; rintro Ee Eh H
       replace H := sB H
       obtain ⟨rfl, H⟩ | ⟨rfl, H⟩ := H
       ·revert H; refine bnd ?_; rintro Ef Br H
        replace H := sB H
        obtain ⟨rfl, H⟩ | ⟨rfl, H⟩ := H
        ·revert H; refine bnd ?_; rintro vV A16 H
         focus
          have H' := ab H
          clear H
          have p6 := ag (ac Z6 : 0 ≤ (bW : Int))
          have q6 := ag (ac Z6 : bW < (S4.size : Int))
          have hx6 := bt_at S4 bW
          exact Z2
        revert H; refine bnd ?_; rintro vW A19 H
        focus
         have H' := ab H
         clear H
         have p6 := ag (ac Z6 : 0 ≤ (bW : Int))
         have q6 := ag (ac Z6 : bW < (S4.size : Int))
         have hx6 := bt_at S4 bW
         exact Z2
       revert H; refine bnd ?_; rintro vX Dv H
       focus
        have H' := ab H
        clear H
        have p6 := ag (ac Z6 : 0 ≤ (bW : Int))
        have q6 := ag (ac Z6 : bW < (S4.size : Int))
        have hx6 := bt_at S4 bW
        exact Z2
      revert H; refine bnd ?_; rintro vY Lt H
      focus
       have H' := ab H
       clear H
       have p6 := ag (ac Z6 : 0 ≤ (bW : Int))
       have q6 := ag (ac Z6 : bW < (S4.size : Int))
       have hx6 := bt_at S4 bW
       exact Z2
     obtain ⟨nG, oN⟩ : ∃ j_ : Int, (wrap64 (bW + 1)) = j_ := ⟨_, rfl⟩
     replace H : (if 0 ≤ (nG) then (if (nG) < (S4.size : Int) then ((eE.f (bt S4 (nG))).bind fun oL => (if cM.length < 140737488355328 then (aZ.l0 k1 (cM ++ [oL]) S4 (wrap64 (bW + 2))) else (none))) else (none)) else (none)) = some r := by first | (rw [oN] at H; exact H) | (simp only [oN] at H ⊢; exact H)
     (try rw [oN] at A8)
     have hji28w : (IntKind.i64.wrap (bW + 1)) = nG := (i64_w _).trans oN
     revert H; refine sNd1 fun Ei H => ?_
     revert H; refine sNd1 fun Ar H => ?_
     revert H; refine bnd ?_; rintro oL Lu H
     revert H; refine sNk fun c33 H => ?_
     have Ej := ab c33
     clear c33
     obtain ⟨Ek, hy314⟩ : ∃ y_ : List Int, y_ = (cM ++ [oL]) := ⟨_, rfl⟩
     replace H : (aZ.l0 k1 Ek S4 (wrap64 (bW + 2))) = some r := by first | (rw [hy314]; with_reducible exact H) | (have H2_ := (al _ _).symm.trans H; rw [hy314]; with_reducible exact H2_) | (have H2_ := (al _ _).symm.trans H; with_reducible exact H2_) | with_reducible exact H | (rw [hy314]; exact H) | exact H
     have El := ab hy314
     clear hy314
     focus
      have H' := ab H
      clear H
      have p6 := ag (ac Z6 : 0 ≤ (bW : Int))
      have q6 := ag (ac Z6 : bW < (S4.size : Int))
      have hx6 := bt_at S4 bW
      exact Z2
    revert H; refine sNk fun c36 H => ?_
    have Em := ab c36
    clear c36
    obtain ⟨En, hy308⟩ : ∃ y_ : List Int, y_ = (cM ++ [bt S4 bW]) := ⟨_, rfl⟩
    replace H : (aZ.l0 k1 En S4 (wrap64 (bW + 1))) = some r := by first | (rw [hy308]; with_reducible exact H) | (have H2_ := (al _ _).symm.trans H; rw [hy308]; with_reducible exact H2_) | (have H2_ := (al _ _).symm.trans H; with_reducible exact H2_) | with_reducible exact H | (rw [hy308]; exact H) | exact H
    have Eo := ab hy308
    clear hy308
    focus
     have H' := ab H
     clear H
     have p6 := ag (ac Z6 : 0 ≤ (bW : Int))
     have q6 := ag (ac Z6 : bW < (S4.size : Int))
     have hx6 := bt_at S4 bW
     have p35 := ag (ac Z6 : 0 ≤ (bW : Int))
     have q35 := ag (ac Z6 : bW < (S4.size : Int))
     have hx35 := bt_at S4 bW
     exact Z2
   focus
    obtain rfl := au H
    have hcv38 := own_string (P := Tryz.prog) Tryz.underlying86 Tryz.underlying5 Tryz.underlying9 (Kd.own_of_R iM.out)
    go_wp2
    go_ret
    exact ⟨Z9, zB⟩
end
section
open Go.RowKit Go.PW Go.PL Go.PM
attribute [local go_sem] run_store_float max2_int min2_int max_two min_two max_three min_three max_four min_four
set_option linter.unusedVariables false
set_option linter.unusedSimpArgs false
def er39 (x : S39) : S39 := { x with f3 := 0 }
def er41 (x : S41) : S41 := ⟨⟨0, ⟨#[]⟩, x.f0.f2, 0, false⟩, er39 x.f1⟩
structure lX where
 f : Nat → av → Option ((List (S41)))
 mono : ∀ a0 k, LeO (f k a0) (f (k + 1) a0)
 calls : ∀ (k : Nat) (a0 : av) (r : List (S41)) (w : World) (h : f k a0 = some r) (hW : Wok w),
  Calls Tryz.prog 8 #[.string a0] w fun e w' => ∃ (v0_ : Value) (T_ : List S41), e = .returned (v0_) ∧ T_.map er41 = r.map er41 ∧ Kd.R k41 41 w' w.heap.size (fun _ => True) v0_ T_ ∧ Below w.heap.size w w'
structure rG where
 uD : lX
def cF.f (a0 : Int) : Option (Int) := if a0 = 1 then (some 1) else (if a0 = 3 then (some 2) else (if a0 = 4 then (some 3) else (if a0 = 2 then (some 4) else (if a0 = 5 then (some 5) else (if a0 = 6 then (some 5) else (some 0))))))
end
end Go.Proofs.YtkjnahgicfmicaaGreatDoor.Sp

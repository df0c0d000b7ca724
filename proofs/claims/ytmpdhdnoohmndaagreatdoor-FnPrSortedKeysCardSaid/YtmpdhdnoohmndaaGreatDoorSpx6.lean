import Derived.Test.YtmpdhdnoohmndaaGreatDoorZip
import Derived.Test.YtmpdhdnoohmndaaGreatDoorQa
import Derived.Test.YtmpdhdnoohmndaaGreatDoorSpx1
import Derived.Test.YtmpdhdnoohmndaaGreatDoorSpx2
namespace Go.Proofs.YtmpdhdnoohmndaaGreatDoor.Sp
set_option maxHeartbeats 8000000
set_option maxRecDepth 100000
open Go.RowKit Go.Proofs.YtmpdhdnoohmndaaGreatDoorW.PrintWords Go.Proofs.YtmpdhdnoohmndaaGreatDoorW.PrintLast Go.Proofs.YtmpdhdnoohmndaaGreatDoorW.PrintMore
attribute [local go_sem] max2_int min2_int max_two min_two max_three min_three max_four min_four
set_option linter.unusedVariables false
set_option linter.unusedSimpArgs false
structure cO where
 f : Nat → au → Option (Int × Int × Int × (List (S93)) × (List (S31)) × Bool)
 mono : ∀ a0 k, LeO (f k a0) (f (k + 1) a0)
 calls : ∀ (k : Nat) (a0 : au) (r1 : Int) (r2 : Int) (r3 : Int) (r4 : List (S93)) (r5 : List (S31)) (r6 : Bool) (w : World) (h : f k a0 = some (r1, r2, r3, r4, r5, r6)),
  Calls Tryz.prog 24 #[.string a0] w fun e w' => ∃ v3_ v4_ : Value, e = .returned (.tuple #[.agg #[.int .i64 r1, .int .i64 r2, .int .i64 r3, v3_, v4_], .bool r6]) ∧ Kd.R k93 84 w' w.heap.size (fun _ => True) v3_ r4 ∧ Kd.R k31 63 w' w.heap.size (fun k_ => some k_ ≠ (v3_ : Value).ownBlock) v4_ r5 ∧ Below w.heap.size w w'
def iC.f (k : Nat) (a0 : au) : Option (Int × Int × Int × (List (S93)) × (List (S31)) × Bool) := none
theorem iC.calls (k : Nat) (a0 : au) (r1 : Int) (r2 : Int) (r3 : Int) (r4 : List (S93)) (r5 : List (S31)) (r6 : Bool) (w : World) (h : iC.f k a0 = some (r1, r2, r3, r4, r5, r6)) :
 Calls Tryz.prog 24 #[.string a0] w fun e w' => ∃ v3_ v4_ : Value, e = .returned (.tuple #[.agg #[.int .i64 r1, .int .i64 r2, .int .i64 r3, v3_, v4_], .bool r6]) ∧ Kd.R k93 84 w' w.heap.size (fun _ => True) v3_ r4 ∧ Kd.R k31 63 w' w.heap.size (fun k_ => some k_ ≠ (v3_ : Value).ownBlock) v4_ r5 ∧ Below w.heap.size w w' := by
 have hu31 := Tryz.underlying63
 have hu50 := Tryz.underlying81
 have HB := aa (Below.refl w.heap.size w)
 have H : (none) = some (r1, r2, r3, r4, r5, r6) := h
 clear h
 exact absurd H (by simp)
structure nY where
 pS : cO
def cV.f (a0 : Int) : Option (Int) := if a0 = 98 then (some 8) else (if a0 = 102 then (some 12) else (if a0 = 110 then (some 10) else (if a0 = 114 then (some 13) else (if a0 = 116 then (some 9) else (some a0)))))
theorem cV.calls (a0 : Int) (r : Int) (w : World) (h : cV.f a0 = some r) :
 Calls Tryz.prog 57 #[.int .u8 a0] w fun e w' => e = .returned (.int .u8 r) ∧ Drawn0 w w' := by
 unfold cV.f at h
 have H := h
 clear h
 revert H; refine sIe1n0_e0n1 (fun eY lF H => ?_) fun eY lF H => ?_
 ·as_aux_lemma =>
   obtain rfl := ar H
   go_enter Tryz.func57, Tryz.ntmps57
   go_wp2
   go_ret
   exact ⟨Z8, Z10⟩
 revert H; refine sIe1n0_e0n1 (fun dE kM H => ?_) fun dE kM H => ?_
 ·as_aux_lemma =>
   obtain rfl := ar H
   go_enter Tryz.func57, Tryz.ntmps57
   go_wp2
   go_ret
   exact ⟨Z8, Z10⟩
 revert H; refine sIe1n0_e0n1 (fun fG uT H => ?_) fun fG uT H => ?_
 ·as_aux_lemma =>
   obtain rfl := ar H
   go_enter Tryz.func57, Tryz.ntmps57
   go_wp2
   go_ret
   exact ⟨Z8, Z10⟩
 revert H; refine sIe1n0_e0n1 (fun gI nQ H => ?_) fun gI nQ H => ?_
 ·as_aux_lemma =>
   obtain rfl := ar H
   go_enter Tryz.func57, Tryz.ntmps57
   go_wp2
   go_ret
   exact ⟨Z8, Z10⟩
 revert H; refine sIe1n0_e0n1 (fun eU kQ H => ?_) fun eU kQ H => ?_
 ·as_aux_lemma =>
   obtain rfl := ar H
   go_enter Tryz.func57, Tryz.ntmps57
   go_wp2
   go_ret
   exact ⟨Z8, Z10⟩
 as_aux_lemma =>
  obtain rfl := ar H
  go_enter Tryz.func57, Tryz.ntmps57
  go_wp2
  go_ret
  exact ⟨Z8, Z10⟩
def aX.j0 : Nat → List Int → Int → Bool → Option (List Int)
 | 0, _, _, _ => none
 | k + 1, x0, x1, x27 => if x27 = true then ((some (([239, 191, 189] : List Int) : List Int)).bind fun kT => (if x0.length + kT.length < 140737488355328 then (some (x0 ++ kT)) else (none))) else (if x1 < 65536 then ((some (([(wrap64 (224 + (wrap64 (Int.tdiv x1 4096)))) % 256, (wrap64 (128 + (Int.tmod (wrap64 (Int.tdiv x1 64)) 64))) % 256, (wrap64 (128 + (Int.tmod x1 64))) % 256] : List Int) : List Int)).bind fun kU => (if x0.length + kU.length < 140737488355328 then (some (x0 ++ kU)) else (none))) else ((some (([(wrap64 (240 + (wrap64 (Int.tdiv x1 262144)))) % 256, (wrap64 (128 + (Int.tmod (wrap64 (Int.tdiv x1 4096)) 64))) % 256, (wrap64 (128 + (Int.tmod (wrap64 (Int.tdiv x1 64)) 64))) % 256, (wrap64 (128 + (Int.tmod x1 64))) % 256] : List Int) : List Int)).bind fun kV => (if x0.length + kV.length < 140737488355328 then (some (x0 ++ kV)) else (none))))
def aX.f (k : Nat) (l0 : List Int) (a1 : Int) : Option (List Int) := if a1 < 128 then (if l0.length < 140737488355328 then (some (l0 ++ [(a1) % 256])) else (none)) else (if a1 < 2048 then ((some (([(wrap64 (192 + (wrap64 (Int.tdiv a1 64)))) % 256, (wrap64 (128 + (Int.tmod a1 64))) % 256] : List Int) : List Int)).bind fun kW => (if l0.length + kW.length < 140737488355328 then (some (l0 ++ kW)) else (none))) else ((bW.f a1).bind fun zN => (if zN = true then (aX.j0 k l0 a1 true) else ((cB.f a1).bind fun rU => (aX.j0 k l0 a1 rU)))))
theorem aX.mono_l : ∀ k, (∀ y0 y1 y2, LeO (aX.j0 k y0 y1 y2) (aX.j0 (k + 1) y0 y1 y2))
 | 0 => fun _ _ _ r h => by simp [aX.j0] at h
 | k + 1 => by
  have ih0 := aX.mono_l k
  ·intro y0 y1 y2
   unfold aX.j0
   exact zM
theorem aX.mono : ∀ a0 a1 k, LeO (aX.f k a0 a1) (aX.f (k + 1) a0 a1) := by
 intro a0 a1 k
 have ih0 := aX.mono_l k
 unfold aX.f
 exact zM
instance aX.mi  {a0 a1 k} : LeI (aX.f k a0 a1) (aX.f (k + 1) a0 a1) := ⟨⟨aX.mono a0 a1 k⟩⟩
theorem aX.calls (k : Nat) (P0_ : Nat → Prop) (u9000_ : Value) (l0 : List Int) (a1 : Int) (r : List Int) (w0 w : World) (hB : Below w0.heap.size w0 w) (ho0 : Kd.R (Kd.int .u8) 5 w w0.heap.size P0_ u9000_ l0) (h : aX.f k l0 a1 = some r) :
 Calls Tryz.prog 58 #[u9000_, .int .i64 a1] w fun e w' => ∃ v0_ : Value, e = .returned (v0_) ∧ Kd.R (Kd.int .u8) 5 w' w0.heap.size (fun k_ => (P0_ k_ ∨ w.heap.size ≤ k_)) v0_ r ∧ Below w0.heap.size w0 w' ∧ Kept w w' (fun k_ => P0_ k_) := by
 have wO := aa (show Kd.R (Kd.int .u8) 5 w w0.heap.size (fun k_ => (P0_ k_ ∨ w.heap.size ≤ k_)) u9000_ l0 from Kd.R_mono ho0 (fun k_ hk => (.inl hk)))
 have HK := aa (Kept.refl w (fun k_ => P0_ k_))
 have HW0 := aa hB.size
 have HB := aa hB
 clear hB
 unfold aX.f at h
 have H := h
 clear h
 revert H; refine sId1_d0 (fun dE H => ?_) fun dE H => ?_
 ·revert H; refine sNk fun c4 H => ?_
  have Ql := aa c4
  clear c4
  obtain ⟨Qm, hy279⟩ : ∃ y_ : List Int, y_ = (l0 ++ [(a1) % 256]) := ⟨_, rfl⟩
  replace H : (some Qm) = some r := by first | (rw [hy279]; with_reducible exact H) | (have H2_ := (ak _ _).symm.trans H; rw [hy279]; with_reducible exact H2_) | (have H2_ := (ak _ _).symm.trans H; with_reducible exact H2_) | with_reducible exact H | (rw [hy279]; exact H) | exact H
  have zO := aa hy279
  clear hy279
  as_aux_lemma =>
   obtain rfl := ar H
   go_enter Tryz.func58, Tryz.ntmps58
   go_wp2_with (first | ((with_reducible refine gate_builtin (b := .append) (xs := #[.tmp 8, .tmp 11]) rfl ?_); at_builtin; refine Kd.R_append (Kd.int .u8) (w0 := w0) w0.heap.size rfl (.tmp 8) (.tmp 11) 51 5 (.int .u8 0) 1 rfl Tryz.underlying51 info5 rfl (by decide) (by omega) u9000_ l0 ((a1) % 256) [.int .u8 ((a1) % 256)] (fun k_ => (P0_ k_ ∨ w.heap.size ≤ k_)) (fun _ => False) rfl rfl ?aP (fun _ hk => hk.elim) ?aF ?aO ?aB ?aS ?aL ?_; (case aP => exact rfl); (case aB => exact zB); (case aF => exact (fun k_ hk => (.inr (Nat.le_trans Z28 hk)))); (case aO => exact Z32); (case aS => exact (below_size zB)); (case aL => have := Ql.out; omega); intro v280 w5 ho hb hg hat; rw [← zO.out] at ho; replace HB := aa (hb); replace HK := aa (Kept.of_grown (S := (fun k_ => P0_ k_)) hg zP (fun k_ e_ => (wO.out.1 k_ e_))); have zQ := aa (ho); clear wO; clear ho hb hg hat))
   go_ret
   exact ⟨_, Z6, by (with_reducible repeat (first | apply Kd.R_alloc | apply Kd.R_drewN | apply Kd.R_drew)); exact zQ.out, zB, zP⟩
 revert H; refine sId1_d0 (fun eU H => ?_) fun eU H => ?_
 ·obtain ⟨kW, hy282⟩ : ∃ y_ : List Int, y_ = (([(wrap64 (192 + (wrap64 (Int.tdiv a1 64)))) % 256, (wrap64 (128 + (Int.tmod a1 64))) % 256] : List Int)) := ⟨_, rfl⟩
  replace H : (if l0.length + kW.length < 140737488355328 then (some (l0 ++ kW)) else (none)) = some r := by first | (rw [hy282]; with_reducible exact H) | (have H2_ := (ak _ _).symm.trans H; rw [hy282]; with_reducible exact H2_) | (have H2_ := (ak _ _).symm.trans H; with_reducible exact H2_) | with_reducible exact H | (rw [hy282]; exact H) | exact H
  have tY := aa hy282
  clear hy282
  revert H; refine sNk fun c7 H => ?_
  have Qn := aa c7
  clear c7
  obtain ⟨Qo, hy285⟩ : ∃ y_ : List Int, y_ = (l0 ++ kW) := ⟨_, rfl⟩
  replace H : (some Qo) = some r := by first | (rw [hy285]; with_reducible exact H) | (have H2_ := (ak _ _).symm.trans H; rw [hy285]; with_reducible exact H2_) | (have H2_ := (ak _ _).symm.trans H; with_reducible exact H2_) | with_reducible exact H | (rw [hy285]; exact H) | exact H
  have zR := aa hy285
  clear hy285
  as_aux_lemma =>
   obtain rfl := ar H
   go_enter Tryz.func58, Tryz.ntmps58
   go_wp2_with (first | ((with_reducible refine gate_dst (N := 25) rfl ?_); refine Kd.R_lit (Kd.int .u8) _ 5 ?hg (N := 25) ?hd (xs := ([(wrap64 (192 + (wrap64 (Int.tdiv a1 64)))) % 256, (wrap64 (128 + (Int.tmod a1 64))) % 256] : List Int)) (inner := [.int .u8 ((wrap64 (192 + (wrap64 (Int.tdiv a1 64)))) % 256), .int .u8 ((wrap64 (128 + (Int.tmod a1 64))) % 256)]) (ok := fun _ => True) (okp := fun _ => True) ?hr ?hp (fun _ hk => hk) trivial (Below.refl _ _) (Nat.le_refl _) (by simp) ?_; (case hd => rfl); (case hg => rfl); (case hr => exact Z11); (case hp => exact (Reps.one (show Kd.M (Kd.int .u8) _ _ _ ((wrap64 (192 + (wrap64 (Int.tdiv a1 64)))) % 256) [.int .u8 ((wrap64 (192 + (wrap64 (Int.tdiv a1 64)))) % 256)] from rfl) (Reps.one (show Kd.M (Kd.int .u8) _ _ _ ((wrap64 (128 + (Int.tmod a1 64))) % 256) [.int .u8 ((wrap64 (128 + (Int.tmod a1 64))) % 256)] from rfl) (Reps.none _ _)))); intro v283 w8 ho9 hb hg_ hnew_; clear hg_ hnew_; (first | rw [← tY.out] at ho9 | (simp only [Int.reduceToNat] at ho9; rw [← tY.out] at ho9)); have kX := aa (Kd.R_lower (Kd.R_new' (Kd.R_newM (M := fun k_ => (P0_ k_ ∨ w.heap.size ≤ k_)) ho9 Z28 (fun k_ h_ => .inr h_)) (Kd.R_lt Z32)) (below_size zB)); replace wO := aa (Kd.R_elder' Z32 (Kd.R_base ho9) hb); replace HK := aa (Kept.below (S := (fun k_ => P0_ k_)) zP hb); replace HB := aa (below_step (w := w0) zB hb); clear hb ho9; obtain ⟨nZ, co11, eo11⟩ := Kd.R_slice kX.out; subst eo11) | ((with_reducible refine gate_builtin (b := .append) (xs := #[.tmp 16, .tmp 25]) rfl ?_); at_builtin; refine Kd.R_append_rows (Kd.int .u8) (w0 := w0) w0.heap.size rfl (.tmp 16) (.tmp 25) 51 5 (.int .u8 0) 1 rfl Tryz.underlying51 info5 rfl (by decide) (by omega) u9000_ l0 kW _ _ _ (fun k_ => (P0_ k_ ∨ w.heap.size ≤ k_) ∧ some k_ ≠ (.slice nZ kW.length co11 : Value).ownBlock) (fun _ => False) rfl rfl ?aO ?aR (fun _ _ h => h) (fun _ h => h.elim) ?aF ?aB ?aS ?aL ?_; (case aR => repeat (first | exact (Kd.R_reads' kX.out).2.2 | (with_reducible refine Kd.C_alloc ?_ _) | (with_reducible refine Kd.C_drewN ?_ _) | (with_reducible refine Kd.C_drew ?_))); (case aB => exact zB); (case aF => exact (fun k_ hk => ⟨(.inr (Nat.le_trans Z28 hk)), Kd.fresh' (Kd.R_lt (by (with_reducible repeat (first | apply Kd.R_alloc | apply Kd.R_drewN | apply Kd.R_drew)); exact kX.out)) k_ hk⟩)); (case aO => exact Z32); (case aS => exact (below_size zB)); (case aL => have := Qn.out; omega); intro v286 w10 ho hb hg hat; rw [← zR.out] at ho; replace kX := aa (Kd.R_after (ok := (fun k_ => (P0_ k_ ∨ w.heap.size ≤ k_))) (by (with_reducible repeat (first | apply Kd.R_alloc | apply Kd.R_drewN | apply Kd.R_drew)); exact Kd.R_mono kX.out (fun _ hk => ⟨hk.1.1, hk.2⟩)) hg hat); replace HB := aa (hb); replace HK := aa (Kept.of_grown (S := (fun k_ => P0_ k_)) hg zP (fun k_ e_ => (wO.out.1 k_ e_).1)); have zT := aa (ho); clear wO; clear ho hb hg hat))
   go_ret
   exact ⟨_, Z6, by (with_reducible repeat (first | apply Kd.R_alloc | apply Kd.R_drewN | apply Kd.R_drew)); exact Kd.R_mono zT.out (fun _ hk => hk.1), zB, zP⟩
 have lK := aa H
 clear H
 go_enter Tryz.func58, Tryz.ntmps58
 go_upto_region 5 with (fail)
 go_cut [27] (fun v27 wc => ∃ (kq : Nat) (lV : Bool), v27 = .bool lV ∧ Aside0 (aX.j0 kq l0 a1 lV = some r) ∧ Aside0 (kq ≤ k) ∧ Aside0 (Kd.R (Kd.int .u8) 5 wc w0.heap.size (fun k_ => (P0_ k_ ∨ w.heap.size ≤ k_)) u9000_ l0) ∧ Aside0 (Kept w wc (fun k_ => P0_ k_)) ∧ Aside0 (Below w0.heap.size w0 wc))
 case first =>
  have H := lK.out
  clear lK
  revert H; refine bnd ?_; rintro zN vJ H
  replace H := sB H
  obtain ⟨rfl, H⟩ | ⟨rfl, H⟩ := H
  ·as_aux_lemma =>
    have H' := aa H
    clear H
    go_wp2_with (first | (refine gl 22 (some 29) Tryz.func22 #[.int .i64 a1] ?_; (with_reducible refine (bW.calls a1 true _ vJ.out).mono ?_); rintro e w' ⟨rfl, ⟨nd, rfl⟩⟩; refine ⟨_, rfl, ?_⟩))
    go_meet
    case rel => exact ⟨_, (true), Z8, H', ⟨Z23⟩, ⟨Z32⟩, ⟨zP⟩, ⟨zB⟩⟩
  revert H; refine bnd ?_; rintro rU tW H
  as_aux_lemma =>
   have H' := aa H
   clear H
   go_wp2_with (first | (refine gl 22 (some 29) Tryz.func22 #[.int .i64 a1] ?_; (with_reducible refine (bW.calls a1 false _ vJ.out).mono ?_); rintro e w' ⟨rfl, ⟨nd, rfl⟩⟩; refine ⟨_, rfl, ?_⟩) | (go_at_call 23; (with_reducible refine (cB.calls a1 rU _ tW.out).mono ?_); rintro e w' ⟨rfl, ⟨nd, rfl⟩⟩))
   go_meet
   case rel => exact ⟨_, (rU), Z8, H', ⟨Z23⟩, ⟨Z32⟩, ⟨zP⟩, ⟨zB⟩⟩
 case rest =>
  clear lK
  try clear dE eU
  obtain ⟨kq, lV, rfl, HA, HJ11, jC, HK, HB⟩ := hcut
  cases kq with
  | zero => exact absurd HA.out (by simp [aX.j0])
  | succ kj11 =>
   have H := HA.out
   clear HA
   simp only [aX.j0] at H
   replace H := sB H
   obtain ⟨rfl, H⟩ | ⟨rfl, H⟩ := H
   ·obtain ⟨kT, hy290⟩ : ∃ y_ : List Int, y_ = (([239, 191, 189] : List Int)) := ⟨_, rfl⟩
    replace H : (if l0.length + kT.length < 140737488355328 then (some (l0 ++ kT)) else (none)) = some r := by first | (rw [hy290]; with_reducible exact H) | (have H2_ := (ak _ _).symm.trans H; rw [hy290]; with_reducible exact H2_) | (have H2_ := (ak _ _).symm.trans H; with_reducible exact H2_) | with_reducible exact H | (rw [hy290]; exact H) | exact H
    have tZ := aa hy290
    clear hy290
    revert H; refine sNk fun c17 H => ?_
    have zU := aa c17
    clear c17
    obtain ⟨Qp, hy293⟩ : ∃ y_ : List Int, y_ = (l0 ++ kT) := ⟨_, rfl⟩
    replace H : (some Qp) = some r := by first | (rw [hy293]; with_reducible exact H) | (have H2_ := (ak _ _).symm.trans H; rw [hy293]; with_reducible exact H2_) | (have H2_ := (ak _ _).symm.trans H; with_reducible exact H2_) | with_reducible exact H | (rw [hy293]; exact H) | exact H
    have zV := aa hy293
    clear hy293
    as_aux_lemma =>
     obtain rfl := ar H
     go_wp2_with (first | ((with_reducible refine gate_dst (N := 35) rfl ?_); refine Kd.R_lit (Kd.int .u8) _ 5 ?hg (N := 35) ?hd (xs := ([239, 191, 189] : List Int)) (inner := [.int .u8 239, .int .u8 191, .int .u8 189]) (ok := fun _ => True) (okp := fun _ => True) ?hr ?hp (fun _ hk => hk) trivial (Below.refl _ _) (Nat.le_refl _) (by simp) ?_; (case hd => rfl); (case hg => rfl); (case hr => exact Z11); (case hp => exact (Reps.one (show Kd.M (Kd.int .u8) _ _ _ 239 [.int .u8 239] from rfl) (Reps.one (show Kd.M (Kd.int .u8) _ _ _ 191 [.int .u8 191] from rfl) (Reps.one (show Kd.M (Kd.int .u8) _ _ _ 189 [.int .u8 189] from rfl) (Reps.none _ _))))); intro v291 w18 ho19 hb hg_ hnew_; clear hg_ hnew_; (first | rw [← tZ.out] at ho19 | (simp only [Int.reduceToNat] at ho19; rw [← tZ.out] at ho19)); have kY := aa (Kd.R_lower (Kd.R_new' (Kd.R_newM (M := fun k_ => (P0_ k_ ∨ w.heap.size ≤ k_)) ho19 Z28 (fun k_ h_ => .inr h_)) (Kd.R_lt Z22)) (below_size zB)); replace jC := aa (Kd.R_elder' Z22 (Kd.R_base ho19) hb); replace HK := aa (Kept.below (S := (fun k_ => P0_ k_)) zP hb); replace HB := aa (below_step (w := w0) zB hb); clear hb ho19; obtain ⟨zW, co21, eo21⟩ := Kd.R_slice kY.out; subst eo21) | ((with_reducible refine gate_builtin (b := .append) (xs := #[.tmp 34, .tmp 35]) rfl ?_); at_builtin; refine Kd.R_append_rows (Kd.int .u8) (w0 := w0) w0.heap.size rfl (.tmp 34) (.tmp 35) 51 5 (.int .u8 0) 1 rfl Tryz.underlying51 info5 rfl (by decide) (by omega) u9000_ l0 kT _ _ _ (fun k_ => (P0_ k_ ∨ w.heap.size ≤ k_) ∧ some k_ ≠ (.slice zW kT.length co21 : Value).ownBlock) (fun _ => False) rfl rfl ?aO ?aR (fun _ _ h => h) (fun _ h => h.elim) ?aF ?aB ?aS ?aL ?_; (case aR => repeat (first | exact (Kd.R_reads' kY.out).2.2 | (with_reducible refine Kd.C_alloc ?_ _) | (with_reducible refine Kd.C_drewN ?_ _) | (with_reducible refine Kd.C_drew ?_))); (case aB => exact zB); (case aF => exact (fun k_ hk => ⟨(.inr (Nat.le_trans Z28 hk)), Kd.fresh' (Kd.R_lt (by (with_reducible repeat (first | apply Kd.R_alloc | apply Kd.R_drewN | apply Kd.R_drew)); exact kY.out)) k_ hk⟩)); (case aO => exact Z22); (case aS => exact (below_size zB)); (case aL => have := zU.out; omega); intro v294 w20 ho hb hg hat; rw [← zV.out] at ho; replace kY := aa (Kd.R_after (ok := (fun k_ => (P0_ k_ ∨ w.heap.size ≤ k_))) (by (with_reducible repeat (first | apply Kd.R_alloc | apply Kd.R_drewN | apply Kd.R_drew)); exact Kd.R_mono kY.out (fun _ hk => ⟨hk.1.1, hk.2⟩)) hg hat); replace HB := aa (hb); replace HK := aa (Kept.of_grown (S := (fun k_ => P0_ k_)) hg zP (fun k_ e_ => (jC.out.1 k_ e_).1)); have zX := aa (ho); clear jC; clear ho hb hg hat))
     go_ret
     exact ⟨_, Z6, by (with_reducible repeat (first | apply Kd.R_alloc | apply Kd.R_drewN | apply Kd.R_drew)); exact Kd.R_mono zX.out (fun _ hk => hk.1), zB, zP⟩
   revert H; refine sId1_d0 (fun kP H => ?_) fun kP H => ?_
   ·obtain ⟨kU, hy296⟩ : ∃ y_ : List Int, y_ = (([(wrap64 (224 + (wrap64 (Int.tdiv a1 4096)))) % 256, (wrap64 (128 + (Int.tmod (wrap64 (Int.tdiv a1 64)) 64))) % 256, (wrap64 (128 + (Int.tmod a1 64))) % 256] : List Int)) := ⟨_, rfl⟩
    replace H : (if l0.length + kU.length < 140737488355328 then (some (l0 ++ kU)) else (none)) = some r := by first | (rw [hy296]; with_reducible exact H) | (have H2_ := (ak _ _).symm.trans H; rw [hy296]; with_reducible exact H2_) | (have H2_ := (ak _ _).symm.trans H; with_reducible exact H2_) | with_reducible exact H | (rw [hy296]; exact H) | exact H
    have uA := aa hy296
    clear hy296
    revert H; refine sNk fun c23 H => ?_
    have zY := aa c23
    clear c23
    obtain ⟨Qq, hy299⟩ : ∃ y_ : List Int, y_ = (l0 ++ kU) := ⟨_, rfl⟩
    replace H : (some Qq) = some r := by first | (rw [hy299]; with_reducible exact H) | (have H2_ := (ak _ _).symm.trans H; rw [hy299]; with_reducible exact H2_) | (have H2_ := (ak _ _).symm.trans H; with_reducible exact H2_) | with_reducible exact H | (rw [hy299]; exact H) | exact H
    have zZ := aa hy299
    clear hy299
    as_aux_lemma =>
     obtain rfl := ar H
     go_wp2_with (first | ((with_reducible refine gate_dst (N := 54) rfl ?_); refine Kd.R_lit (Kd.int .u8) _ 5 ?hg (N := 54) ?hd (xs := ([(wrap64 (224 + (wrap64 (Int.tdiv a1 4096)))) % 256, (wrap64 (128 + (Int.tmod (wrap64 (Int.tdiv a1 64)) 64))) % 256, (wrap64 (128 + (Int.tmod a1 64))) % 256] : List Int)) (inner := [.int .u8 ((wrap64 (224 + (wrap64 (Int.tdiv a1 4096)))) % 256), .int .u8 ((wrap64 (128 + (Int.tmod (wrap64 (Int.tdiv a1 64)) 64))) % 256), .int .u8 ((wrap64 (128 + (Int.tmod a1 64))) % 256)]) (ok := fun _ => True) (okp := fun _ => True) ?hr ?hp (fun _ hk => hk) trivial (Below.refl _ _) (Nat.le_refl _) (by simp) ?_; (case hd => rfl); (case hg => rfl); (case hr => exact Z11); (case hp => exact (Reps.one (show Kd.M (Kd.int .u8) _ _ _ ((wrap64 (224 + (wrap64 (Int.tdiv a1 4096)))) % 256) [.int .u8 ((wrap64 (224 + (wrap64 (Int.tdiv a1 4096)))) % 256)] from rfl) (Reps.one (show Kd.M (Kd.int .u8) _ _ _ ((wrap64 (128 + (Int.tmod (wrap64 (Int.tdiv a1 64)) 64))) % 256) [.int .u8 ((wrap64 (128 + (Int.tmod (wrap64 (Int.tdiv a1 64)) 64))) % 256)] from rfl) (Reps.one (show Kd.M (Kd.int .u8) _ _ _ ((wrap64 (128 + (Int.tmod a1 64))) % 256) [.int .u8 ((wrap64 (128 + (Int.tmod a1 64))) % 256)] from rfl) (Reps.none _ _))))); intro v297 w24 ho25 hb hg_ hnew_; clear hg_ hnew_; (first | rw [← uA.out] at ho25 | (simp only [Int.reduceToNat] at ho25; rw [← uA.out] at ho25)); have kZ := aa (Kd.R_lower (Kd.R_new' (Kd.R_newM (M := fun k_ => (P0_ k_ ∨ w.heap.size ≤ k_)) ho25 Z28 (fun k_ h_ => .inr h_)) (Kd.R_lt Z22)) (below_size zB)); replace jC := aa (Kd.R_elder' Z22 (Kd.R_base ho25) hb); replace HK := aa (Kept.below (S := (fun k_ => P0_ k_)) zP hb); replace HB := aa (below_step (w := w0) zB hb); clear hb ho25; obtain ⟨Qr, co27, eo27⟩ := Kd.R_slice kZ.out; subst eo27) | ((with_reducible refine gate_builtin (b := .append) (xs := #[.tmp 40, .tmp 54]) rfl ?_); at_builtin; refine Kd.R_append_rows (Kd.int .u8) (w0 := w0) w0.heap.size rfl (.tmp 40) (.tmp 54) 51 5 (.int .u8 0) 1 rfl Tryz.underlying51 info5 rfl (by decide) (by omega) u9000_ l0 kU _ _ _ (fun k_ => (P0_ k_ ∨ w.heap.size ≤ k_) ∧ some k_ ≠ (.slice Qr kU.length co27 : Value).ownBlock) (fun _ => False) rfl rfl ?aO ?aR (fun _ _ h => h) (fun _ h => h.elim) ?aF ?aB ?aS ?aL ?_; (case aR => repeat (first | exact (Kd.R_reads' kZ.out).2.2 | (with_reducible refine Kd.C_alloc ?_ _) | (with_reducible refine Kd.C_drewN ?_ _) | (with_reducible refine Kd.C_drew ?_))); (case aB => exact zB); (case aF => exact (fun k_ hk => ⟨(.inr (Nat.le_trans Z28 hk)), Kd.fresh' (Kd.R_lt (by (with_reducible repeat (first | apply Kd.R_alloc | apply Kd.R_drewN | apply Kd.R_drew)); exact kZ.out)) k_ hk⟩)); (case aO => exact Z22); (case aS => exact (below_size zB)); (case aL => have := zY.out; omega); intro v300 w26 ho hb hg hat; rw [← zZ.out] at ho; replace kZ := aa (Kd.R_after (ok := (fun k_ => (P0_ k_ ∨ w.heap.size ≤ k_))) (by (with_reducible repeat (first | apply Kd.R_alloc | apply Kd.R_drewN | apply Kd.R_drew)); exact Kd.R_mono kZ.out (fun _ hk => ⟨hk.1.1, hk.2⟩)) hg hat); replace HB := aa (hb); replace HK := aa (Kept.of_grown (S := (fun k_ => P0_ k_)) hg zP (fun k_ e_ => (jC.out.1 k_ e_).1)); have Aa := aa (ho); clear jC; clear ho hb hg hat))
     go_ret
     exact ⟨_, Z6, by (with_reducible repeat (first | apply Kd.R_alloc | apply Kd.R_drewN | apply Kd.R_drew)); exact Kd.R_mono Aa.out (fun _ hk => hk.1), zB, zP⟩
   obtain ⟨kV, hy302⟩ : ∃ y_ : List Int, y_ = (([(wrap64 (240 + (wrap64 (Int.tdiv a1 262144)))) % 256, (wrap64 (128 + (Int.tmod (wrap64 (Int.tdiv a1 4096)) 64))) % 256, (wrap64 (128 + (Int.tmod (wrap64 (Int.tdiv a1 64)) 64))) % 256, (wrap64 (128 + (Int.tmod a1 64))) % 256] : List Int)) := ⟨_, rfl⟩
   replace H : (if l0.length + kV.length < 140737488355328 then (some (l0 ++ kV)) else (none)) = some r := by first | (rw [hy302]; with_reducible exact H) | (have H2_ := (ak _ _).symm.trans H; rw [hy302]; with_reducible exact H2_) | (have H2_ := (ak _ _).symm.trans H; with_reducible exact H2_) | with_reducible exact H | (rw [hy302]; exact H) | exact H
   have uB := aa hy302
   clear hy302
   revert H; refine sNk fun c28 H => ?_
   have Ac := aa c28
   clear c28
   obtain ⟨Qs, hy305⟩ : ∃ y_ : List Int, y_ = (l0 ++ kV) := ⟨_, rfl⟩
   replace H : (some Qs) = some r := by first | (rw [hy305]; with_reducible exact H) | (have H2_ := (ak _ _).symm.trans H; rw [hy305]; with_reducible exact H2_) | (have H2_ := (ak _ _).symm.trans H; with_reducible exact H2_) | with_reducible exact H | (rw [hy305]; exact H) | exact H
   have Ad := aa hy305
   clear hy305
   as_aux_lemma =>
    obtain rfl := ar H
    go_wp2_with (first | ((with_reducible refine gate_dst (N := 75) rfl ?_); refine Kd.R_lit (Kd.int .u8) _ 5 ?hg (N := 75) ?hd (xs := ([(wrap64 (240 + (wrap64 (Int.tdiv a1 262144)))) % 256, (wrap64 (128 + (Int.tmod (wrap64 (Int.tdiv a1 4096)) 64))) % 256, (wrap64 (128 + (Int.tmod (wrap64 (Int.tdiv a1 64)) 64))) % 256, (wrap64 (128 + (Int.tmod a1 64))) % 256] : List Int)) (inner := [.int .u8 ((wrap64 (240 + (wrap64 (Int.tdiv a1 262144)))) % 256), .int .u8 ((wrap64 (128 + (Int.tmod (wrap64 (Int.tdiv a1 4096)) 64))) % 256), .int .u8 ((wrap64 (128 + (Int.tmod (wrap64 (Int.tdiv a1 64)) 64))) % 256), .int .u8 ((wrap64 (128 + (Int.tmod a1 64))) % 256)]) (ok := fun _ => True) (okp := fun _ => True) ?hr ?hp (fun _ hk => hk) trivial (Below.refl _ _) (Nat.le_refl _) (by simp) ?_; (case hd => rfl); (case hg => rfl); (case hr => exact Z11); (case hp => exact (Reps.one (show Kd.M (Kd.int .u8) _ _ _ ((wrap64 (240 + (wrap64 (Int.tdiv a1 262144)))) % 256) [.int .u8 ((wrap64 (240 + (wrap64 (Int.tdiv a1 262144)))) % 256)] from rfl) (Reps.one (show Kd.M (Kd.int .u8) _ _ _ ((wrap64 (128 + (Int.tmod (wrap64 (Int.tdiv a1 4096)) 64))) % 256) [.int .u8 ((wrap64 (128 + (Int.tmod (wrap64 (Int.tdiv a1 4096)) 64))) % 256)] from rfl) (Reps.one (show Kd.M (Kd.int .u8) _ _ _ ((wrap64 (128 + (Int.tmod (wrap64 (Int.tdiv a1 64)) 64))) % 256) [.int .u8 ((wrap64 (128 + (Int.tmod (wrap64 (Int.tdiv a1 64)) 64))) % 256)] from rfl) (Reps.one (show Kd.M (Kd.int .u8) _ _ _ ((wrap64 (128 + (Int.tmod a1 64))) % 256) [.int .u8 ((wrap64 (128 + (Int.tmod a1 64))) % 256)] from rfl) (Reps.none _ _)))))); intro v303 w29 ho30 hb hg_ hnew_; clear hg_ hnew_; (first | rw [← uB.out] at ho30 | (simp only [Int.reduceToNat] at ho30; rw [← uB.out] at ho30)); have lA := aa (Kd.R_lower (Kd.R_new' (Kd.R_newM (M := fun k_ => (P0_ k_ ∨ w.heap.size ≤ k_)) ho30 Z28 (fun k_ h_ => .inr h_)) (Kd.R_lt Z22)) (below_size zB)); replace jC := aa (Kd.R_elder' Z22 (Kd.R_base ho30) hb); replace HK := aa (Kept.below (S := (fun k_ => P0_ k_)) zP hb); replace HB := aa (below_step (w := w0) zB hb); clear hb ho30; obtain ⟨Qt, co32, eo32⟩ := Kd.R_slice lA.out; subst eo32) | ((with_reducible refine gate_builtin (b := .append) (xs := #[.tmp 56, .tmp 75]) rfl ?_); at_builtin; refine Kd.R_append_rows (Kd.int .u8) (w0 := w0) w0.heap.size rfl (.tmp 56) (.tmp 75) 51 5 (.int .u8 0) 1 rfl Tryz.underlying51 info5 rfl (by decide) (by omega) u9000_ l0 kV _ _ _ (fun k_ => (P0_ k_ ∨ w.heap.size ≤ k_) ∧ some k_ ≠ (.slice Qt kV.length co32 : Value).ownBlock) (fun _ => False) rfl rfl ?aO ?aR (fun _ _ h => h) (fun _ h => h.elim) ?aF ?aB ?aS ?aL ?_; (case aR => repeat (first | exact (Kd.R_reads' lA.out).2.2 | (with_reducible refine Kd.C_alloc ?_ _) | (with_reducible refine Kd.C_drewN ?_ _) | (with_reducible refine Kd.C_drew ?_))); (case aB => exact zB); (case aF => exact (fun k_ hk => ⟨(.inr (Nat.le_trans Z28 hk)), Kd.fresh' (Kd.R_lt (by (with_reducible repeat (first | apply Kd.R_alloc | apply Kd.R_drewN | apply Kd.R_drew)); exact lA.out)) k_ hk⟩)); (case aO => exact Z22); (case aS => exact (below_size zB)); (case aL => have := Ac.out; omega); intro v306 w31 ho hb hg hat; rw [← Ad.out] at ho; replace lA := aa (Kd.R_after (ok := (fun k_ => (P0_ k_ ∨ w.heap.size ≤ k_))) (by (with_reducible repeat (first | apply Kd.R_alloc | apply Kd.R_drewN | apply Kd.R_drew)); exact Kd.R_mono lA.out (fun _ hk => ⟨hk.1.1, hk.2⟩)) hg hat); replace HB := aa (hb); replace HK := aa (Kept.of_grown (S := (fun k_ => P0_ k_)) hg zP (fun k_ e_ => (jC.out.1 k_ e_).1)); have Ae := aa (ho); clear jC; clear ho hb hg hat))
    go_ret
    exact ⟨_, Z6, by (with_reducible repeat (first | apply Kd.R_alloc | apply Kd.R_drewN | apply Kd.R_drew)); exact Kd.R_mono Ae.out (fun _ hk => hk.1), zB, zP⟩
end Go.Proofs.YtmpdhdnoohmndaaGreatDoor.Sp

import Derived.Test.YtkjnahgicfmicaaGreatDoorZip
import Derived.Test.YtkjnahgicfmicaaGreatDoorQa
import Derived.Test.YtkjnahgicfmicaaGreatDoorQb
namespace Go.Proofs.YtkjnahgicfmicaaGreatDoor.Sp
set_option maxHeartbeats 8000000
set_option maxRecDepth 100000
open Go.RowKit Go.Proofs.YtkjnahgicfmicaaGreatDoorW.PrintWords Go.Proofs.YtkjnahgicfmicaaGreatDoorW.PrintLast Go.Proofs.YtkjnahgicfmicaaGreatDoorW.PrintMore
attribute [local go_sem] max2_int min2_int max_two min_two max_three min_three max_four min_four
set_option linter.unusedVariables false
set_option linter.unusedSimpArgs false
structure cF where
 f : Nat → ByteArray → Option (Int × Int × Int × (List (S93)) × (List (S31)) × Bool)
 mono : ∀ a0 k, LeO (f k a0) (f (k + 1) a0)
 calls : ∀ (k : Nat) (a0 : ByteArray) (r1 : Int) (r2 : Int) (r3 : Int) (r4 : List (S93)) (r5 : List (S31)) (r6 : Bool) (w : World) (h : f k a0 = some (r1, r2, r3, r4, r5, r6)),
  Calls Tryz.prog 7 #[.string a0] w fun e w' => ∃ v3_ v4_ : Value, e = .returned (.tuple #[.agg #[.int .i64 r1, .int .i64 r2, .int .i64 r3, v3_, v4_], .bool r6]) ∧ Kd.R k93 93 w' w.heap.size (fun _ => True) v3_ r4 ∧ Kd.R k31 31 w' w.heap.size (fun k_ => some k_ ≠ (v3_ : Value).ownBlock) v4_ r5 ∧ Below w.heap.size w w'
instance cF.mi (V : cF) {a0 k} : LeI (V.f k a0) (V.f (k + 1) a0) := ⟨⟨V.mono a0 k⟩⟩
def eF.f (k : Nat) (a0 : ByteArray) : Option (Int × Int × Int × (List (S93)) × (List (S31)) × Bool) := none
theorem eF.mono : ∀ a0 k, LeO (eF.f k a0) (eF.f (k + 1) a0) := by
 intro a0 k
 unfold eF.f
 exact zM
instance eF.mi  {a0 k} : LeI (eF.f k a0) (eF.f (k + 1) a0) := ⟨⟨eF.mono a0 k⟩⟩
theorem eF.calls (k : Nat) (a0 : ByteArray) (r1 : Int) (r2 : Int) (r3 : Int) (r4 : List (S93)) (r5 : List (S31)) (r6 : Bool) (w : World) (h : eF.f k a0 = some (r1, r2, r3, r4, r5, r6)) :
 Calls Tryz.prog 7 #[.string a0] w fun e w' => ∃ v3_ v4_ : Value, e = .returned (.tuple #[.agg #[.int .i64 r1, .int .i64 r2, .int .i64 r3, v3_, v4_], .bool r6]) ∧ Kd.R k93 93 w' w.heap.size (fun _ => True) v3_ r4 ∧ Kd.R k31 31 w' w.heap.size (fun k_ => some k_ ≠ (v3_ : Value).ownBlock) v4_ r5 ∧ Below w.heap.size w w' := by
 have hu31 := Tryz.underlying31
 have hu50 := Tryz.underlying50
 have HB := Aside0.mk (Below.refl w.heap.size w)
 have H : (none) = some (r1, r2, r3, r4, r5, r6) := h
 clear h
 exact absurd H (by simp)
structure wI where
 Ab : cF
def gD.f (a0 : Int) : Option (Int) := if a0 = 98 then (some 8) else (if a0 = 102 then (some 12) else (if a0 = 110 then (some 10) else (if a0 = 114 then (some 13) else (if a0 = 116 then (some 9) else (some a0)))))
theorem gD.calls (a0 : Int) (r : Int) (w : World) (h : gD.f a0 = some r) :
 Calls Tryz.prog 51 #[.int .u8 a0] w fun e w' => e = .returned (.int .u8 r) ∧ Drawn0 w w' := by
 have H : (if a0 = 98 then (some 8) else (if a0 = 102 then (some 12) else (if a0 = 110 then (some 10) else (if a0 = 114 then (some 13) else (if a0 = 116 then (some 9) else (some a0)))))) = some r := h
 clear h
 revert H; refine sIe1n0_e0n1 (fun gQ kZ H => ?_) fun gQ kZ H => ?_
 ·as_aux_lemma =>
   obtain rfl := Option.some.inj H
   go_enter Tryz.func51, Tryz.ntmps51
   go_wp2
   go_ret
   exact ⟨Z9, Z10⟩
 revert H; refine sIe1n0_e0n1 (fun eW oJ H => ?_) fun eW oJ H => ?_
 ·as_aux_lemma =>
   obtain rfl := Option.some.inj H
   go_enter Tryz.func51, Tryz.ntmps51
   go_wp2
   go_ret
   exact ⟨Z9, Z10⟩
 revert H; refine sIe1n0_e0n1 (fun gV xV H => ?_) fun gV xV H => ?_
 ·as_aux_lemma =>
   obtain rfl := Option.some.inj H
   go_enter Tryz.func51, Tryz.ntmps51
   go_wp2
   go_ret
   exact ⟨Z9, Z10⟩
 revert H; refine sIe1n0_e0n1 (fun jZ qT H => ?_) fun jZ qT H => ?_
 ·as_aux_lemma =>
   obtain rfl := Option.some.inj H
   go_enter Tryz.func51, Tryz.ntmps51
   go_wp2
   go_ret
   exact ⟨Z9, Z10⟩
 revert H; refine sIe1n0_e0n1 (fun eX nD H => ?_) fun eX nD H => ?_
 ·as_aux_lemma =>
   obtain rfl := Option.some.inj H
   go_enter Tryz.func51, Tryz.ntmps51
   go_wp2
   go_ret
   exact ⟨Z9, Z10⟩
 as_aux_lemma =>
  obtain rfl := Option.some.inj H
  go_enter Tryz.func51, Tryz.ntmps51
  go_wp2
  go_ret
  exact ⟨Z9, Z10⟩
def bJ.j0 : Nat → List Int → Int → Bool → Option (List Int)
 | 0, _, _, _ => none
 | k + 1, x0, x1, x27 => if x27 = true then ((some (([239, 191, 189] : List Int) : List Int)).bind fun qV => (if x0.length + qV.length < 140737488355328 then (some (x0 ++ qV)) else (none))) else (if x1 < 65536 then ((some (([(wrap64 (224 + (wrap64 (Int.tdiv x1 4096)))) % 256, (wrap64 (128 + (Int.tmod (wrap64 (Int.tdiv x1 64)) 64))) % 256, (wrap64 (128 + (Int.tmod x1 64))) % 256] : List Int) : List Int)).bind fun qW => (if x0.length + qW.length < 140737488355328 then (some (x0 ++ qW)) else (none))) else ((some (([(wrap64 (240 + (wrap64 (Int.tdiv x1 262144)))) % 256, (wrap64 (128 + (Int.tmod (wrap64 (Int.tdiv x1 4096)) 64))) % 256, (wrap64 (128 + (Int.tmod (wrap64 (Int.tdiv x1 64)) 64))) % 256, (wrap64 (128 + (Int.tmod x1 64))) % 256] : List Int) : List Int)).bind fun qX => (if x0.length + qX.length < 140737488355328 then (some (x0 ++ qX)) else (none))))
def bJ.f (k : Nat) (l0 : List Int) (a1 : Int) : Option (List Int) := if a1 < 128 then (if l0.length < 140737488355328 then (some (l0 ++ [(a1) % 256])) else (none)) else (if a1 < 2048 then ((some (([(wrap64 (192 + (wrap64 (Int.tdiv a1 64)))) % 256, (wrap64 (128 + (Int.tmod a1 64))) % 256] : List Int) : List Int)).bind fun oI => (if l0.length + oI.length < 140737488355328 then (some (l0 ++ oI)) else (none))) else ((dG.f a1).bind fun Fa => (if Fa = true then (bJ.j0 k l0 a1 true) else ((dJ.f a1).bind fun wJ => (bJ.j0 k l0 a1 wJ)))))
theorem bJ.mono_l : ∀ k, (∀ y0 y1 y2, LeO (bJ.j0 k y0 y1 y2) (bJ.j0 (k + 1) y0 y1 y2))
 | 0 => fun _ _ _ r h => by simp [bJ.j0] at h
 | k + 1 => by
  have ih0 := bJ.mono_l k
  ·intro y0 y1 y2
   unfold bJ.j0
   repeat' first
   | (with_reducible exact ih0 _ _ _)
   | (with_reducible exact LeO.refl _)
   | (with_reducible exact LeO.none _)
   | (with_reducible refine LeO.ite ?_ ?_)
   | (with_reducible refine LeO.bind ?_ (fun _ => ?_))
   | exact ih0 _ _ _
   | exact LeO.none _
   | refine LeO.ite ?_ ?_
   | refine LeO.bind ?_ (fun _ => ?_)
theorem bJ.mono : ∀ a0 a1 k, LeO (bJ.f k a0 a1) (bJ.f (k + 1) a0 a1) := by
 intro a0 a1 k
 have ih0 := bJ.mono_l k
 unfold bJ.f
 exact zM
theorem bJ.calls (k : Nat) (P0_ : Nat → Prop) (u9000_ : Value) (l0 : List Int) (a1 : Int) (r : List Int) (w0 w : World) (hB : Below w0.heap.size w0 w) (ho0 : Kd.R (Kd.int .u8) 5 w w0.heap.size P0_ u9000_ l0) (h : bJ.f k l0 a1 = some r) :
 Calls Tryz.prog 52 #[u9000_, .int .i64 a1] w fun e w' => ∃ v0_ : Value, e = .returned (v0_) ∧ Kd.R (Kd.int .u8) 5 w' w0.heap.size (fun k_ => (P0_ k_ ∨ w.heap.size ≤ k_)) v0_ r ∧ Below w0.heap.size w0 w' ∧ Kept w w' (fun k_ => P0_ k_) := by
 have Jo := Aside0.mk (show Kd.R (Kd.int .u8) 5 w w0.heap.size (fun k_ => (P0_ k_ ∨ w.heap.size ≤ k_)) u9000_ l0 from Kd.R_mono ho0 (fun k_ hk => (.inl hk)))
 have HK := Aside0.mk (Kept.refl w (fun k_ => P0_ k_))
 have HW0 := Aside0.mk hB.size
 have HB := Aside0.mk hB
 clear hB
 have H : (if a1 < 128 then (if l0.length < 140737488355328 then (some (l0 ++ [(a1) % 256])) else (none)) else (if a1 < 2048 then ((some (([(wrap64 (192 + (wrap64 (Int.tdiv a1 64)))) % 256, (wrap64 (128 + (Int.tmod a1 64))) % 256] : List Int) : List Int)).bind fun oI => (if l0.length + oI.length < 140737488355328 then (some (l0 ++ oI)) else (none))) else ((dG.f a1).bind fun Fa => (if Fa = true then (bJ.j0 k l0 a1 true) else ((dJ.f a1).bind fun wJ => (bJ.j0 k l0 a1 wJ)))))) = some r := h
 clear h
 revert H; refine sId1_d0 (fun eW H => ?_) fun eW H => ?_
 ·revert H; refine sNk fun c4 H => ?_
  have agD := Aside0.mk c4
  clear c4
  obtain ⟨agE, hy279⟩ : ∃ y_ : List Int, y_ = (l0 ++ [(a1) % 256]) := ⟨_, rfl⟩
  replace H : (some agE) = some r := by first | (rw [hy279]; with_reducible exact H) | (have H2_ := (Option.bind_some _ _).symm.trans H; rw [hy279]; with_reducible exact H2_) | (have H2_ := (Option.bind_some _ _).symm.trans H; with_reducible exact H2_) | with_reducible exact H | (rw [hy279]; exact H) | exact H
  have Ov := Aside0.mk hy279
  clear hy279
  as_aux_lemma =>
   obtain rfl := Option.some.inj H
   go_enter Tryz.func52, Tryz.ntmps52
   go_wp2_with (first | ((with_reducible refine gate_builtin (b := .append) (xs := #[.tmp 8, .tmp 11]) rfl ?_); at_builtin; refine Kd.R_append (Kd.int .u8) (w0 := w0) w0.heap.size rfl (.tmp 8) (.tmp 11) 86 5 (.int .u8 0) 1 rfl Tryz.underlying86 info5 rfl (by decide) (by omega) u9000_ l0 ((a1) % 256) [.int .u8 ((a1) % 256)] (fun k_ => (P0_ k_ ∨ w.heap.size ≤ k_)) (fun _ => False) rfl rfl ?aP (fun _ hk => hk.elim) ?aF ?aO ?aB ?aS ?aL ?_; (case aP => exact rfl); (case aB => exact zB); (case aF => exact (fun k_ hk => (.inr (Nat.le_trans Z36 hk)))); (case aO => exact Z43); (case aS => exact (below_size zB)); (case aL => have := agD.out; omega); intro v280 w5 ho hb hg hat; rw [← Ov.out] at ho; replace HB := Aside0.mk (hb); replace HK := Aside0.mk (Kept.of_grown (S := (fun k_ => P0_ k_)) hg zP (fun k_ e_ => (Jo.out.1 k_ e_))); have Ow := Aside0.mk (ho); clear Jo; clear ho hb hg hat))
   go_ret
   exact ⟨_, Z11, by (with_reducible repeat (first | apply Kd.R_alloc | apply Kd.R_drewN | apply Kd.R_drew)); exact Ow.out, zB, zP⟩
 revert H; refine sId1_d0 (fun eX H => ?_) fun eX H => ?_
 ·obtain ⟨oI, hy282⟩ : ∃ y_ : List Int, y_ = (([(wrap64 (192 + (wrap64 (Int.tdiv a1 64)))) % 256, (wrap64 (128 + (Int.tmod a1 64))) % 256] : List Int)) := ⟨_, rfl⟩
  replace H : (if l0.length + oI.length < 140737488355328 then (some (l0 ++ oI)) else (none)) = some r := by first | (rw [hy282]; with_reducible exact H) | (have H2_ := (Option.bind_some _ _).symm.trans H; rw [hy282]; with_reducible exact H2_) | (have H2_ := (Option.bind_some _ _).symm.trans H; with_reducible exact H2_) | with_reducible exact H | (rw [hy282]; exact H) | exact H
  have Gz := Aside0.mk hy282
  clear hy282
  revert H; refine sNk fun c7 H => ?_
  have agF := Aside0.mk c7
  clear c7
  obtain ⟨agG, hy285⟩ : ∃ y_ : List Int, y_ = (l0 ++ oI) := ⟨_, rfl⟩
  replace H : (some agG) = some r := by first | (rw [hy285]; with_reducible exact H) | (have H2_ := (Option.bind_some _ _).symm.trans H; rw [hy285]; with_reducible exact H2_) | (have H2_ := (Option.bind_some _ _).symm.trans H; with_reducible exact H2_) | with_reducible exact H | (rw [hy285]; exact H) | exact H
  have Ox := Aside0.mk hy285
  clear hy285
  as_aux_lemma =>
   obtain rfl := Option.some.inj H
   go_enter Tryz.func52, Tryz.ntmps52
   go_wp2_with (first | ((with_reducible refine gate_dst (N := 25) rfl ?_); refine Kd.R_lit (Kd.int .u8) _ 5 ?hg (N := 25) ?hd (xs := ([(wrap64 (192 + (wrap64 (Int.tdiv a1 64)))) % 256, (wrap64 (128 + (Int.tmod a1 64))) % 256] : List Int)) (inner := [.int .u8 ((wrap64 (192 + (wrap64 (Int.tdiv a1 64)))) % 256), .int .u8 ((wrap64 (128 + (Int.tmod a1 64))) % 256)]) (ok := fun _ => True) (okp := fun _ => True) ?hr ?hp (fun _ hk => hk) trivial (Below.refl _ _) (Nat.le_refl _) (by simp) ?_; (case hd => rfl); (case hg => rfl); (case hr => exact Z14); (case hp => exact (Reps.one (show Kd.M (Kd.int .u8) _ _ _ ((wrap64 (192 + (wrap64 (Int.tdiv a1 64)))) % 256) [.int .u8 ((wrap64 (192 + (wrap64 (Int.tdiv a1 64)))) % 256)] from rfl) (Reps.one (show Kd.M (Kd.int .u8) _ _ _ ((wrap64 (128 + (Int.tmod a1 64))) % 256) [.int .u8 ((wrap64 (128 + (Int.tmod a1 64))) % 256)] from rfl) (Reps.none _ _)))); intro v283 w8 ho9 hb hg_ hnew_; clear hg_ hnew_; (first | rw [← Gz.out] at ho9 | (simp only [Int.reduceToNat] at ho9; rw [← Gz.out] at ho9)); have qY := Aside0.mk (Kd.R_lower (Kd.R_new' (Kd.R_newM (M := fun k_ => (P0_ k_ ∨ w.heap.size ≤ k_)) ho9 Z36 (fun k_ h_ => .inr h_)) (Kd.R_lt Z43)) (below_size zB)); replace Jo := Aside0.mk (Kd.R_elder' Z43 (Kd.R_base ho9) hb); replace HK := Aside0.mk (Kept.below (S := (fun k_ => P0_ k_)) zP hb); replace HB := Aside0.mk (below_step (w := w0) zB hb); clear hb ho9; obtain ⟨wK, co11, eo11⟩ := Kd.R_slice qY.out; subst eo11) | ((with_reducible refine gate_builtin (b := .append) (xs := #[.tmp 16, .tmp 25]) rfl ?_); at_builtin; refine Kd.R_append_rows (Kd.int .u8) (w0 := w0) w0.heap.size rfl (.tmp 16) (.tmp 25) 86 5 (.int .u8 0) 1 rfl Tryz.underlying86 info5 rfl (by decide) (by omega) u9000_ l0 oI _ _ _ (fun k_ => (P0_ k_ ∨ w.heap.size ≤ k_) ∧ some k_ ≠ (.slice wK oI.length co11 : Value).ownBlock) (fun _ => False) rfl rfl ?aO ?aR (fun _ _ h => h) (fun _ h => h.elim) ?aF ?aB ?aS ?aL ?_; (case aR => repeat (first | exact (Kd.R_reads' qY.out).2.2 | (with_reducible refine Kd.C_alloc ?_ _) | (with_reducible refine Kd.C_drewN ?_ _) | (with_reducible refine Kd.C_drew ?_))); (case aB => exact zB); (case aF => exact (fun k_ hk => ⟨(.inr (Nat.le_trans Z36 hk)), Kd.fresh' (Kd.R_lt (by (with_reducible repeat (first | apply Kd.R_alloc | apply Kd.R_drewN | apply Kd.R_drew)); exact qY.out)) k_ hk⟩)); (case aO => exact Z43); (case aS => exact (below_size zB)); (case aL => have := agF.out; omega); intro v286 w10 ho hb hg hat; rw [← Ox.out] at ho; replace qY := Aside0.mk (Kd.R_after (ok := (fun k_ => (P0_ k_ ∨ w.heap.size ≤ k_))) (by (with_reducible repeat (first | apply Kd.R_alloc | apply Kd.R_drewN | apply Kd.R_drew)); exact Kd.R_mono qY.out (fun _ hk => ⟨hk.1.1, hk.2⟩)) hg hat); replace HB := Aside0.mk (hb); replace HK := Aside0.mk (Kept.of_grown (S := (fun k_ => P0_ k_)) hg zP (fun k_ e_ => (Jo.out.1 k_ e_).1)); have Oy := Aside0.mk (ho); clear Jo; clear ho hb hg hat))
   go_ret
   exact ⟨_, Z11, by (with_reducible repeat (first | apply Kd.R_alloc | apply Kd.R_drewN | apply Kd.R_drew)); exact Kd.R_mono Oy.out (fun _ hk => hk.1), zB, zP⟩
 have rU := Aside0.mk H
 clear H
 go_enter Tryz.func52, Tryz.ntmps52
 go_upto_region 5 with (fail)
 go_cut [27] (fun v27 wc => ∃ (kq : Nat) (sG : Bool), v27 = .bool sG ∧ Aside0 (bJ.j0 kq l0 a1 sG = some r) ∧ Aside0 (kq ≤ k) ∧ Aside0 (Kd.R (Kd.int .u8) 5 wc w0.heap.size (fun k_ => (P0_ k_ ∨ w.heap.size ≤ k_)) u9000_ l0) ∧ Aside0 (Kept w wc (fun k_ => P0_ k_)) ∧ Aside0 (Below w0.heap.size w0 wc))
 case first =>
  have H := rU.out
  clear rU
  revert H; refine bnd ?_; rintro Fa vT H
  replace H := sB H
  obtain ⟨rfl, H⟩ | ⟨rfl, H⟩ := H
  ·as_aux_lemma =>
    have H' := Aside0.mk H
    clear H
    go_wp2_with (first | (refine gl 35 (some 29) Tryz.func35 #[.int .i64 a1] ?_; (with_reducible refine (dG.calls a1 true _ vT.out).mono ?_); rintro e w' ⟨rfl, ⟨nd, rfl⟩⟩; refine ⟨_, rfl, ?_⟩))
    go_meet
    case rel => exact ⟨_, (true), Z9, H', ⟨Z30⟩, ⟨Z43⟩, ⟨zP⟩, ⟨zB⟩⟩
  revert H; refine bnd ?_; rintro wJ Aa H
  as_aux_lemma =>
   have H' := Aside0.mk H
   clear H
   go_wp2_with (first | (refine gl 35 (some 29) Tryz.func35 #[.int .i64 a1] ?_; (with_reducible refine (dG.calls a1 false _ vT.out).mono ?_); rintro e w' ⟨rfl, ⟨nd, rfl⟩⟩; refine ⟨_, rfl, ?_⟩) | (go_at_call 36; (with_reducible refine (dJ.calls a1 wJ _ Aa.out).mono ?_); rintro e w' ⟨rfl, ⟨nd, rfl⟩⟩))
   go_meet
   case rel => exact ⟨_, (wJ), Z9, H', ⟨Z30⟩, ⟨Z43⟩, ⟨zP⟩, ⟨zB⟩⟩
 case rest =>
  clear rU
  try clear eW eX
  obtain ⟨kq, sG, rfl, HA, HJ11, oS, HK, HB⟩ := hcut
  cases kq with
  | zero => exact absurd HA.out (by simp [bJ.j0])
  | succ kj11 =>
   have H := HA.out
   clear HA
   simp only [bJ.j0] at H
   replace H := sB H
   obtain ⟨rfl, H⟩ | ⟨rfl, H⟩ := H
   ·obtain ⟨qV, hy290⟩ : ∃ y_ : List Int, y_ = (([239, 191, 189] : List Int)) := ⟨_, rfl⟩
    replace H : (if l0.length + qV.length < 140737488355328 then (some (l0 ++ qV)) else (none)) = some r := by first | (rw [hy290]; with_reducible exact H) | (have H2_ := (Option.bind_some _ _).symm.trans H; rw [hy290]; with_reducible exact H2_) | (have H2_ := (Option.bind_some _ _).symm.trans H; with_reducible exact H2_) | with_reducible exact H | (rw [hy290]; exact H) | exact H
    have Ha := Aside0.mk hy290
    clear hy290
    revert H; refine sNk fun c17 H => ?_
    have Oz := Aside0.mk c17
    clear c17
    obtain ⟨agH, hy293⟩ : ∃ y_ : List Int, y_ = (l0 ++ qV) := ⟨_, rfl⟩
    replace H : (some agH) = some r := by first | (rw [hy293]; with_reducible exact H) | (have H2_ := (Option.bind_some _ _).symm.trans H; rw [hy293]; with_reducible exact H2_) | (have H2_ := (Option.bind_some _ _).symm.trans H; with_reducible exact H2_) | with_reducible exact H | (rw [hy293]; exact H) | exact H
    have Pa := Aside0.mk hy293
    clear hy293
    as_aux_lemma =>
     obtain rfl := Option.some.inj H
     go_wp2_with (first | ((with_reducible refine gate_dst (N := 35) rfl ?_); refine Kd.R_lit (Kd.int .u8) _ 5 ?hg (N := 35) ?hd (xs := ([239, 191, 189] : List Int)) (inner := [.int .u8 239, .int .u8 191, .int .u8 189]) (ok := fun _ => True) (okp := fun _ => True) ?hr ?hp (fun _ hk => hk) trivial (Below.refl _ _) (Nat.le_refl _) (by simp) ?_; (case hd => rfl); (case hg => rfl); (case hr => exact Z14); (case hp => exact (Reps.one (show Kd.M (Kd.int .u8) _ _ _ 239 [.int .u8 239] from rfl) (Reps.one (show Kd.M (Kd.int .u8) _ _ _ 191 [.int .u8 191] from rfl) (Reps.one (show Kd.M (Kd.int .u8) _ _ _ 189 [.int .u8 189] from rfl) (Reps.none _ _))))); intro v291 w18 ho19 hb hg_ hnew_; clear hg_ hnew_; (first | rw [← Ha.out] at ho19 | (simp only [Int.reduceToNat] at ho19; rw [← Ha.out] at ho19)); have qZ := Aside0.mk (Kd.R_lower (Kd.R_new' (Kd.R_newM (M := fun k_ => (P0_ k_ ∨ w.heap.size ≤ k_)) ho19 Z36 (fun k_ h_ => .inr h_)) (Kd.R_lt Z31)) (below_size zB)); replace oS := Aside0.mk (Kd.R_elder' Z31 (Kd.R_base ho19) hb); replace HK := Aside0.mk (Kept.below (S := (fun k_ => P0_ k_)) zP hb); replace HB := Aside0.mk (below_step (w := w0) zB hb); clear hb ho19; obtain ⟨Pb, co21, eo21⟩ := Kd.R_slice qZ.out; subst eo21) | ((with_reducible refine gate_builtin (b := .append) (xs := #[.tmp 34, .tmp 35]) rfl ?_); at_builtin; refine Kd.R_append_rows (Kd.int .u8) (w0 := w0) w0.heap.size rfl (.tmp 34) (.tmp 35) 86 5 (.int .u8 0) 1 rfl Tryz.underlying86 info5 rfl (by decide) (by omega) u9000_ l0 qV _ _ _ (fun k_ => (P0_ k_ ∨ w.heap.size ≤ k_) ∧ some k_ ≠ (.slice Pb qV.length co21 : Value).ownBlock) (fun _ => False) rfl rfl ?aO ?aR (fun _ _ h => h) (fun _ h => h.elim) ?aF ?aB ?aS ?aL ?_; (case aR => repeat (first | exact (Kd.R_reads' qZ.out).2.2 | (with_reducible refine Kd.C_alloc ?_ _) | (with_reducible refine Kd.C_drewN ?_ _) | (with_reducible refine Kd.C_drew ?_))); (case aB => exact zB); (case aF => exact (fun k_ hk => ⟨(.inr (Nat.le_trans Z36 hk)), Kd.fresh' (Kd.R_lt (by (with_reducible repeat (first | apply Kd.R_alloc | apply Kd.R_drewN | apply Kd.R_drew)); exact qZ.out)) k_ hk⟩)); (case aO => exact Z31); (case aS => exact (below_size zB)); (case aL => have := Oz.out; omega); intro v294 w20 ho hb hg hat; rw [← Pa.out] at ho; replace qZ := Aside0.mk (Kd.R_after (ok := (fun k_ => (P0_ k_ ∨ w.heap.size ≤ k_))) (by (with_reducible repeat (first | apply Kd.R_alloc | apply Kd.R_drewN | apply Kd.R_drew)); exact Kd.R_mono qZ.out (fun _ hk => ⟨hk.1.1, hk.2⟩)) hg hat); replace HB := Aside0.mk (hb); replace HK := Aside0.mk (Kept.of_grown (S := (fun k_ => P0_ k_)) hg zP (fun k_ e_ => (oS.out.1 k_ e_).1)); have Pc := Aside0.mk (ho); clear oS; clear ho hb hg hat))
     go_ret
     exact ⟨_, Z11, by (with_reducible repeat (first | apply Kd.R_alloc | apply Kd.R_drewN | apply Kd.R_drew)); exact Kd.R_mono Pc.out (fun _ hk => hk.1), zB, zP⟩
   revert H; refine sId1_d0 (fun mS H => ?_) fun mS H => ?_
   ·obtain ⟨qW, hy296⟩ : ∃ y_ : List Int, y_ = (([(wrap64 (224 + (wrap64 (Int.tdiv a1 4096)))) % 256, (wrap64 (128 + (Int.tmod (wrap64 (Int.tdiv a1 64)) 64))) % 256, (wrap64 (128 + (Int.tmod a1 64))) % 256] : List Int)) := ⟨_, rfl⟩
    replace H : (if l0.length + qW.length < 140737488355328 then (some (l0 ++ qW)) else (none)) = some r := by first | (rw [hy296]; with_reducible exact H) | (have H2_ := (Option.bind_some _ _).symm.trans H; rw [hy296]; with_reducible exact H2_) | (have H2_ := (Option.bind_some _ _).symm.trans H; with_reducible exact H2_) | with_reducible exact H | (rw [hy296]; exact H) | exact H
    have Hb := Aside0.mk hy296
    clear hy296
    revert H; refine sNk fun c23 H => ?_
    have Pd := Aside0.mk c23
    clear c23
    obtain ⟨agI, hy299⟩ : ∃ y_ : List Int, y_ = (l0 ++ qW) := ⟨_, rfl⟩
    replace H : (some agI) = some r := by first | (rw [hy299]; with_reducible exact H) | (have H2_ := (Option.bind_some _ _).symm.trans H; rw [hy299]; with_reducible exact H2_) | (have H2_ := (Option.bind_some _ _).symm.trans H; with_reducible exact H2_) | with_reducible exact H | (rw [hy299]; exact H) | exact H
    have Pe := Aside0.mk hy299
    clear hy299
    as_aux_lemma =>
     obtain rfl := Option.some.inj H
     go_wp2_with (first | ((with_reducible refine gate_dst (N := 54) rfl ?_); refine Kd.R_lit (Kd.int .u8) _ 5 ?hg (N := 54) ?hd (xs := ([(wrap64 (224 + (wrap64 (Int.tdiv a1 4096)))) % 256, (wrap64 (128 + (Int.tmod (wrap64 (Int.tdiv a1 64)) 64))) % 256, (wrap64 (128 + (Int.tmod a1 64))) % 256] : List Int)) (inner := [.int .u8 ((wrap64 (224 + (wrap64 (Int.tdiv a1 4096)))) % 256), .int .u8 ((wrap64 (128 + (Int.tmod (wrap64 (Int.tdiv a1 64)) 64))) % 256), .int .u8 ((wrap64 (128 + (Int.tmod a1 64))) % 256)]) (ok := fun _ => True) (okp := fun _ => True) ?hr ?hp (fun _ hk => hk) trivial (Below.refl _ _) (Nat.le_refl _) (by simp) ?_; (case hd => rfl); (case hg => rfl); (case hr => exact Z14); (case hp => exact (Reps.one (show Kd.M (Kd.int .u8) _ _ _ ((wrap64 (224 + (wrap64 (Int.tdiv a1 4096)))) % 256) [.int .u8 ((wrap64 (224 + (wrap64 (Int.tdiv a1 4096)))) % 256)] from rfl) (Reps.one (show Kd.M (Kd.int .u8) _ _ _ ((wrap64 (128 + (Int.tmod (wrap64 (Int.tdiv a1 64)) 64))) % 256) [.int .u8 ((wrap64 (128 + (Int.tmod (wrap64 (Int.tdiv a1 64)) 64))) % 256)] from rfl) (Reps.one (show Kd.M (Kd.int .u8) _ _ _ ((wrap64 (128 + (Int.tmod a1 64))) % 256) [.int .u8 ((wrap64 (128 + (Int.tmod a1 64))) % 256)] from rfl) (Reps.none _ _))))); intro v297 w24 ho25 hb hg_ hnew_; clear hg_ hnew_; (first | rw [← Hb.out] at ho25 | (simp only [Int.reduceToNat] at ho25; rw [← Hb.out] at ho25)); have rA := Aside0.mk (Kd.R_lower (Kd.R_new' (Kd.R_newM (M := fun k_ => (P0_ k_ ∨ w.heap.size ≤ k_)) ho25 Z36 (fun k_ h_ => .inr h_)) (Kd.R_lt Z31)) (below_size zB)); replace oS := Aside0.mk (Kd.R_elder' Z31 (Kd.R_base ho25) hb); replace HK := Aside0.mk (Kept.below (S := (fun k_ => P0_ k_)) zP hb); replace HB := Aside0.mk (below_step (w := w0) zB hb); clear hb ho25; obtain ⟨agJ, co27, eo27⟩ := Kd.R_slice rA.out; subst eo27) | ((with_reducible refine gate_builtin (b := .append) (xs := #[.tmp 40, .tmp 54]) rfl ?_); at_builtin; refine Kd.R_append_rows (Kd.int .u8) (w0 := w0) w0.heap.size rfl (.tmp 40) (.tmp 54) 86 5 (.int .u8 0) 1 rfl Tryz.underlying86 info5 rfl (by decide) (by omega) u9000_ l0 qW _ _ _ (fun k_ => (P0_ k_ ∨ w.heap.size ≤ k_) ∧ some k_ ≠ (.slice agJ qW.length co27 : Value).ownBlock) (fun _ => False) rfl rfl ?aO ?aR (fun _ _ h => h) (fun _ h => h.elim) ?aF ?aB ?aS ?aL ?_; (case aR => repeat (first | exact (Kd.R_reads' rA.out).2.2 | (with_reducible refine Kd.C_alloc ?_ _) | (with_reducible refine Kd.C_drewN ?_ _) | (with_reducible refine Kd.C_drew ?_))); (case aB => exact zB); (case aF => exact (fun k_ hk => ⟨(.inr (Nat.le_trans Z36 hk)), Kd.fresh' (Kd.R_lt (by (with_reducible repeat (first | apply Kd.R_alloc | apply Kd.R_drewN | apply Kd.R_drew)); exact rA.out)) k_ hk⟩)); (case aO => exact Z31); (case aS => exact (below_size zB)); (case aL => have := Pd.out; omega); intro v300 w26 ho hb hg hat; rw [← Pe.out] at ho; replace rA := Aside0.mk (Kd.R_after (ok := (fun k_ => (P0_ k_ ∨ w.heap.size ≤ k_))) (by (with_reducible repeat (first | apply Kd.R_alloc | apply Kd.R_drewN | apply Kd.R_drew)); exact Kd.R_mono rA.out (fun _ hk => ⟨hk.1.1, hk.2⟩)) hg hat); replace HB := Aside0.mk (hb); replace HK := Aside0.mk (Kept.of_grown (S := (fun k_ => P0_ k_)) hg zP (fun k_ e_ => (oS.out.1 k_ e_).1)); have Pf := Aside0.mk (ho); clear oS; clear ho hb hg hat))
     go_ret
     exact ⟨_, Z11, by (with_reducible repeat (first | apply Kd.R_alloc | apply Kd.R_drewN | apply Kd.R_drew)); exact Kd.R_mono Pf.out (fun _ hk => hk.1), zB, zP⟩
   obtain ⟨qX, hy302⟩ : ∃ y_ : List Int, y_ = (([(wrap64 (240 + (wrap64 (Int.tdiv a1 262144)))) % 256, (wrap64 (128 + (Int.tmod (wrap64 (Int.tdiv a1 4096)) 64))) % 256, (wrap64 (128 + (Int.tmod (wrap64 (Int.tdiv a1 64)) 64))) % 256, (wrap64 (128 + (Int.tmod a1 64))) % 256] : List Int)) := ⟨_, rfl⟩
   replace H : (if l0.length + qX.length < 140737488355328 then (some (l0 ++ qX)) else (none)) = some r := by first | (rw [hy302]; with_reducible exact H) | (have H2_ := (Option.bind_some _ _).symm.trans H; rw [hy302]; with_reducible exact H2_) | (have H2_ := (Option.bind_some _ _).symm.trans H; with_reducible exact H2_) | with_reducible exact H | (rw [hy302]; exact H) | exact H
   have Hc := Aside0.mk hy302
   clear hy302
   revert H; refine sNk fun c28 H => ?_
   have Pg := Aside0.mk c28
   clear c28
   obtain ⟨agK, hy305⟩ : ∃ y_ : List Int, y_ = (l0 ++ qX) := ⟨_, rfl⟩
   replace H : (some agK) = some r := by first | (rw [hy305]; with_reducible exact H) | (have H2_ := (Option.bind_some _ _).symm.trans H; rw [hy305]; with_reducible exact H2_) | (have H2_ := (Option.bind_some _ _).symm.trans H; with_reducible exact H2_) | with_reducible exact H | (rw [hy305]; exact H) | exact H
   have Ph := Aside0.mk hy305
   clear hy305
   as_aux_lemma =>
    obtain rfl := Option.some.inj H
    go_wp2_with (first | ((with_reducible refine gate_dst (N := 75) rfl ?_); refine Kd.R_lit (Kd.int .u8) _ 5 ?hg (N := 75) ?hd (xs := ([(wrap64 (240 + (wrap64 (Int.tdiv a1 262144)))) % 256, (wrap64 (128 + (Int.tmod (wrap64 (Int.tdiv a1 4096)) 64))) % 256, (wrap64 (128 + (Int.tmod (wrap64 (Int.tdiv a1 64)) 64))) % 256, (wrap64 (128 + (Int.tmod a1 64))) % 256] : List Int)) (inner := [.int .u8 ((wrap64 (240 + (wrap64 (Int.tdiv a1 262144)))) % 256), .int .u8 ((wrap64 (128 + (Int.tmod (wrap64 (Int.tdiv a1 4096)) 64))) % 256), .int .u8 ((wrap64 (128 + (Int.tmod (wrap64 (Int.tdiv a1 64)) 64))) % 256), .int .u8 ((wrap64 (128 + (Int.tmod a1 64))) % 256)]) (ok := fun _ => True) (okp := fun _ => True) ?hr ?hp (fun _ hk => hk) trivial (Below.refl _ _) (Nat.le_refl _) (by simp) ?_; (case hd => rfl); (case hg => rfl); (case hr => exact Z14); (case hp => exact (Reps.one (show Kd.M (Kd.int .u8) _ _ _ ((wrap64 (240 + (wrap64 (Int.tdiv a1 262144)))) % 256) [.int .u8 ((wrap64 (240 + (wrap64 (Int.tdiv a1 262144)))) % 256)] from rfl) (Reps.one (show Kd.M (Kd.int .u8) _ _ _ ((wrap64 (128 + (Int.tmod (wrap64 (Int.tdiv a1 4096)) 64))) % 256) [.int .u8 ((wrap64 (128 + (Int.tmod (wrap64 (Int.tdiv a1 4096)) 64))) % 256)] from rfl) (Reps.one (show Kd.M (Kd.int .u8) _ _ _ ((wrap64 (128 + (Int.tmod (wrap64 (Int.tdiv a1 64)) 64))) % 256) [.int .u8 ((wrap64 (128 + (Int.tmod (wrap64 (Int.tdiv a1 64)) 64))) % 256)] from rfl) (Reps.one (show Kd.M (Kd.int .u8) _ _ _ ((wrap64 (128 + (Int.tmod a1 64))) % 256) [.int .u8 ((wrap64 (128 + (Int.tmod a1 64))) % 256)] from rfl) (Reps.none _ _)))))); intro v303 w29 ho30 hb hg_ hnew_; clear hg_ hnew_; (first | rw [← Hc.out] at ho30 | (simp only [Int.reduceToNat] at ho30; rw [← Hc.out] at ho30)); have rB := Aside0.mk (Kd.R_lower (Kd.R_new' (Kd.R_newM (M := fun k_ => (P0_ k_ ∨ w.heap.size ≤ k_)) ho30 Z36 (fun k_ h_ => .inr h_)) (Kd.R_lt Z31)) (below_size zB)); replace oS := Aside0.mk (Kd.R_elder' Z31 (Kd.R_base ho30) hb); replace HK := Aside0.mk (Kept.below (S := (fun k_ => P0_ k_)) zP hb); replace HB := Aside0.mk (below_step (w := w0) zB hb); clear hb ho30; obtain ⟨agL, co32, eo32⟩ := Kd.R_slice rB.out; subst eo32) | ((with_reducible refine gate_builtin (b := .append) (xs := #[.tmp 56, .tmp 75]) rfl ?_); at_builtin; refine Kd.R_append_rows (Kd.int .u8) (w0 := w0) w0.heap.size rfl (.tmp 56) (.tmp 75) 86 5 (.int .u8 0) 1 rfl Tryz.underlying86 info5 rfl (by decide) (by omega) u9000_ l0 qX _ _ _ (fun k_ => (P0_ k_ ∨ w.heap.size ≤ k_) ∧ some k_ ≠ (.slice agL qX.length co32 : Value).ownBlock) (fun _ => False) rfl rfl ?aO ?aR (fun _ _ h => h) (fun _ h => h.elim) ?aF ?aB ?aS ?aL ?_; (case aR => repeat (first | exact (Kd.R_reads' rB.out).2.2 | (with_reducible refine Kd.C_alloc ?_ _) | (with_reducible refine Kd.C_drewN ?_ _) | (with_reducible refine Kd.C_drew ?_))); (case aB => exact zB); (case aF => exact (fun k_ hk => ⟨(.inr (Nat.le_trans Z36 hk)), Kd.fresh' (Kd.R_lt (by (with_reducible repeat (first | apply Kd.R_alloc | apply Kd.R_drewN | apply Kd.R_drew)); exact rB.out)) k_ hk⟩)); (case aO => exact Z31); (case aS => exact (below_size zB)); (case aL => have := Pg.out; omega); intro v306 w31 ho hb hg hat; rw [← Ph.out] at ho; replace rB := Aside0.mk (Kd.R_after (ok := (fun k_ => (P0_ k_ ∨ w.heap.size ≤ k_))) (by (with_reducible repeat (first | apply Kd.R_alloc | apply Kd.R_drewN | apply Kd.R_drew)); exact Kd.R_mono rB.out (fun _ hk => ⟨hk.1.1, hk.2⟩)) hg hat); replace HB := Aside0.mk (hb); replace HK := Aside0.mk (Kept.of_grown (S := (fun k_ => P0_ k_)) hg zP (fun k_ e_ => (oS.out.1 k_ e_).1)); have Pi := Aside0.mk (ho); clear oS; clear ho hb hg hat))
    go_ret
    exact ⟨_, Z11, by (with_reducible repeat (first | apply Kd.R_alloc | apply Kd.R_drewN | apply Kd.R_drew)); exact Kd.R_mono Pi.out (fun _ hk => hk.1), zB, zP⟩
end Go.Proofs.YtkjnahgicfmicaaGreatDoor.Sp
namespace Go.Proofs.YtkjnahgicfmicaaGreatDoor.Sp
open Go.RowKit Go.Proofs.YtkjnahgicfmicaaGreatDoorW.PrintWords Go.Proofs.YtkjnahgicfmicaaGreatDoorW.PrintLast Go.Proofs.YtkjnahgicfmicaaGreatDoorW.PrintMore
attribute [local go_sem] max2_int min2_int max_two min_two max_three min_three max_four min_four
set_option linter.unusedVariables false
set_option linter.unusedSimpArgs false
def aX.l0 : Nat → List Int → ByteArray → Int → Option (ByteArray)
 | 0, _, _, _ => none
 | k + 1, x3, x4, x5 => if x5 < (x4.size : Int) then (if 0 ≤ x5 then (if (bt x4 x5) = 92 then ((bI.f k x4 x5).bind fun bt311 => (if bt311.2 = true then ((bI.f k x4 (wrap64 (x5 + 6))).bind fun bt317 => (if bt317.2 = true then ((dG.f bt311.1).bind fun Jy => (if Jy = true then ((dJ.f bt317.1).bind fun Jz => (if Jz = true then ((bJ.f k x3 (wrap64 ((wrap64 (65536 + (wrap64 ((wrap64 (bt311.1 - 55296)) * 1024)))) + (wrap64 (bt317.1 - 56320))))).bind fun Ag => (aX.l0 k Ag x4 (wrap64 ((wrap64 (x5 + 6)) + 6)))) else ((bJ.f k x3 bt311.1).bind fun Ah => (aX.l0 k Ah x4 (wrap64 (x5 + 6)))))) else ((bJ.f k x3 bt311.1).bind fun Ai => (aX.l0 k Ai x4 (wrap64 (x5 + 6)))))) else ((bJ.f k x3 bt311.1).bind fun Aj => (aX.l0 k Aj x4 (wrap64 (x5 + 6)))))) else (if 0 ≤ (wrap64 (x5 + 1)) then (if (wrap64 (x5 + 1)) < (x4.size : Int) then ((gD.f (bt x4 (wrap64 (x5 + 1)))).bind fun qK => (if x3.length < 140737488355328 then (aX.l0 k (x3 ++ [qK]) x4 (wrap64 (x5 + 2))) else (none))) else (none)) else (none)))) else (if x3.length < 140737488355328 then (aX.l0 k (x3 ++ [bt x4 x5]) x4 (wrap64 (x5 + 1))) else (none))) else (none)) else (some (strOfNums x3))
def aX.f (k : Nat) (a0 : ByteArray) : Option (ByteArray) := if 1 ≤ (wrap64 ((a0.size : Int) - 1)) then (if (wrap64 ((a0.size : Int) - 1)) ≤ (a0.size : Int) then (aX.l0 k ([] : List Int) (a0.extract 1 ((wrap64 ((a0.size : Int) - 1)) : Int).toNat) 0) else (none)) else (none)
theorem aX.mono_l : ∀ k, (∀ y0 y1 y2, LeO (aX.l0 k y0 y1 y2) (aX.l0 (k + 1) y0 y1 y2))
 | 0 => fun _ _ _ r h => by simp [aX.l0] at h
 | k + 1 => by
  have ih0 := aX.mono_l k
  ·intro y0 y1 y2
   unfold aX.l0
   repeat' first
   | (with_reducible exact ih0 _ _ _)
   | (with_reducible exact bJ.mono _ _ _)
   | (with_reducible exact bI.mono _ _ _)
   | (with_reducible exact LeO.refl _)
   | (with_reducible exact LeO.none _)
   | (with_reducible refine LeO.ite ?_ ?_)
   | (with_reducible refine LeO.bind ?_ (fun _ => ?_))
   | exact ih0 _ _ _
   | exact bJ.mono _ _ _
   | exact bI.mono _ _ _
   | exact LeO.none _
   | refine LeO.ite ?_ ?_
   | refine LeO.bind ?_ (fun _ => ?_)
theorem aX.mono : ∀ a0 k, LeO (aX.f k a0) (aX.f (k + 1) a0) := by
 intro a0 k
 have ih0 := aX.mono_l k
 unfold aX.f
 exact zM
set_option maxHeartbeats 8000000 in
set_option maxRecDepth 100000 in
theorem aX.calls (k : Nat) (a0 : ByteArray) (r : ByteArray) (w : World) (h : aX.f k a0 = some r) :
 Calls Tryz.prog 26 #[.string a0] w fun e w' => e = .returned (.string r) ∧ Below w.heap.size w w' := by
 have HB := Aside0.mk (Below.refl w.heap.size w)
 have H : (if 1 ≤ (wrap64 ((a0.size : Int) - 1)) then (if (wrap64 ((a0.size : Int) - 1)) ≤ (a0.size : Int) then (aX.l0 k ([] : List Int) (a0.extract 1 ((wrap64 ((a0.size : Int) - 1)) : Int).toNat) 0) else (none)) else (none)) = some r := h
 clear h
 revert H; refine sNt1d1 fun gQ kZ H => ?_
 revert H; refine sNt1d1 fun eW oJ H => ?_
 obtain ⟨S4, hS4⟩ : ∃ S4, a0.extract 1 ((wrap64 ((a0.size : Int) - 1)) : Int).toNat = S4 := ⟨_, rfl⟩
 rw [hS4] at H
 have H' := Aside0.mk H
 clear H
 go_enter Tryz.func26, Tryz.ntmps26
 go_wp2
 (try simp only [Act.put, List.setIfInBounds_toArray, List.set_cons_zero, List.set_cons_succ])
 go_loopg [3, 5] k (fun kq v3 v5 w' => ∃ (dB : List Int) (cI : Int), v5 = .int .i64 cI ∧ Aside0 (aX.l0 kq dB S4 cI = some r) ∧ Aside0 (kq ≤ k) ∧ Aside0 (Kd.R (Kd.int .u8) 5 w' w.heap.size (fun _ => True) v3 dB) ∧ Aside0 (Below w.heap.size w w'))
 case atStart => exact ⟨(([] : List Int)), (0), Z9, H', ⟨Nat.le_refl _⟩, ⟨Z12⟩, ⟨zB⟩⟩
 case round =>
  clear H'
  try clear gQ kZ eW oJ
  obtain ⟨dB, cI, rfl, HA, HK1, kA, HB⟩ := hrel
  cases gk with
  | zero => exact absurd HA.out (by simp [aX.l0])
  | succ k1 =>
   have H := HA.out
   clear HA
   simp only [aX.l0] at H
   revert H; refine sId1_d0 (fun gV H => ?_) fun gV H => ?_
   ·revert H; refine sNd1 fun jZ H => ?_
    revert H; refine sIe1n0_e0n1 (fun lA pD H => ?_) fun lA pD H => ?_
    ·revert H; refine bnd ?_; rintro ⟨nB, apH⟩ A8 H; try dsimp only at H
     replace H := sB H
     obtain ⟨rfl, H⟩ | ⟨rfl, H⟩ := H
     ·revert H; refine bnd ?_; rintro ⟨vS, apI⟩ Ka H; try dsimp only at H
      replace H := sB H
      obtain ⟨rfl, H⟩ | ⟨rfl, H⟩ := H
      ·revert H; refine bnd ?_; rintro Jy Hs H
       replace H := sB H
       obtain ⟨rfl, H⟩ | ⟨rfl, H⟩ := H
       ·revert H; refine bnd ?_; rintro Jz Ht H
        replace H := sB H
        obtain ⟨rfl, H⟩ | ⟨rfl, H⟩ := H
        ·revert H; refine bnd ?_; rintro Ag A16 H
         focus
          have H' := Aside0.mk H
          clear H
          have p6 := eq_true (of_decide_eq_true Z8 : 0 ≤ (cI : Int))
          have q6 := eq_true (of_decide_eq_true Z8 : cI < (S4.size : Int))
          have hx6 := bt_at S4 cI
          exact Z2
        revert H; refine bnd ?_; rintro Ah A19 H
        focus
         have H' := Aside0.mk H
         clear H
         have p6 := eq_true (of_decide_eq_true Z8 : 0 ≤ (cI : Int))
         have q6 := eq_true (of_decide_eq_true Z8 : cI < (S4.size : Int))
         have hx6 := bt_at S4 cI
         exact Z2
       revert H; refine bnd ?_; rintro Ai Rn H
       focus
        have H' := Aside0.mk H
        clear H
        have p6 := eq_true (of_decide_eq_true Z8 : 0 ≤ (cI : Int))
        have q6 := eq_true (of_decide_eq_true Z8 : cI < (S4.size : Int))
        have hx6 := bt_at S4 cI
        exact Z2
      revert H; refine bnd ?_; rintro Aj Ro H
      focus
       have H' := Aside0.mk H
       clear H
       have p6 := eq_true (of_decide_eq_true Z8 : 0 ≤ (cI : Int))
       have q6 := eq_true (of_decide_eq_true Z8 : cI < (S4.size : Int))
       have hx6 := bt_at S4 cI
       exact Z2
     obtain ⟨pE, qL⟩ : ∃ j_ : Int, (wrap64 (cI + 1)) = j_ := ⟨_, rfl⟩
     replace H : (if 0 ≤ (pE) then (if (pE) < (S4.size : Int) then ((gD.f (bt S4 (pE))).bind fun qK => (if dB.length < 140737488355328 then (aX.l0 k1 (dB ++ [qK]) S4 (wrap64 (cI + 2))) else (none))) else (none)) else (none)) = some r := by first | (rw [qL] at H; exact H) | (simp only [qL] at H ⊢; exact H)
     (try rw [qL] at A8)
     have hji28w : (IntKind.i64.wrap (cI + 1)) = pE := (i64_w _).trans qL
     revert H; refine sNd1 fun Kb H => ?_
     revert H; refine sNd1 fun xB H => ?_
     revert H; refine bnd ?_; rintro qK Rp H
     revert H; refine sNk fun c33 H => ?_
     have Ke := Aside0.mk c33
     clear c33
     obtain ⟨Kf, hy314⟩ : ∃ y_ : List Int, y_ = (dB ++ [qK]) := ⟨_, rfl⟩
     replace H : (aX.l0 k1 Kf S4 (wrap64 (cI + 2))) = some r := by first | (rw [hy314]; with_reducible exact H) | (have H2_ := (Option.bind_some _ _).symm.trans H; rw [hy314]; with_reducible exact H2_) | (have H2_ := (Option.bind_some _ _).symm.trans H; with_reducible exact H2_) | with_reducible exact H | (rw [hy314]; exact H) | exact H
     have Kg := Aside0.mk hy314
     clear hy314
     focus
      have H' := Aside0.mk H
      clear H
      have p6 := eq_true (of_decide_eq_true Z8 : 0 ≤ (cI : Int))
      have q6 := eq_true (of_decide_eq_true Z8 : cI < (S4.size : Int))
      have hx6 := bt_at S4 cI
      exact Z2
    revert H; refine sNk fun c36 H => ?_
    have Kh := Aside0.mk c36
    clear c36
    obtain ⟨Ki, hy308⟩ : ∃ y_ : List Int, y_ = (dB ++ [bt S4 cI]) := ⟨_, rfl⟩
    replace H : (aX.l0 k1 Ki S4 (wrap64 (cI + 1))) = some r := by first | (rw [hy308]; with_reducible exact H) | (have H2_ := (Option.bind_some _ _).symm.trans H; rw [hy308]; with_reducible exact H2_) | (have H2_ := (Option.bind_some _ _).symm.trans H; with_reducible exact H2_) | with_reducible exact H | (rw [hy308]; exact H) | exact H
    have Kj := Aside0.mk hy308
    clear hy308
    focus
     have H' := Aside0.mk H
     clear H
     have p6 := eq_true (of_decide_eq_true Z8 : 0 ≤ (cI : Int))
     have q6 := eq_true (of_decide_eq_true Z8 : cI < (S4.size : Int))
     have hx6 := bt_at S4 cI
     have p35 := eq_true (of_decide_eq_true Z8 : 0 ≤ (cI : Int))
     have q35 := eq_true (of_decide_eq_true Z8 : cI < (S4.size : Int))
     have hx35 := bt_at S4 cI
     exact Z2
   focus
    obtain rfl := Option.some.inj H
    have hcv38 := own_string (P := Tryz.prog) Tryz.underlying86 Tryz.underlying5 Tryz.underlying9 (Kd.own_of_R kA.out)
    go_wp2
    go_ret
    exact ⟨Z11, zB⟩
end Go.Proofs.YtkjnahgicfmicaaGreatDoor.Sp

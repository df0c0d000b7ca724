import Derived.Test.YtkjnahgicfmicaaGreatDoorZip
import Derived.Test.YtkjnahgicfmicaaGreatDoorQa
import Derived.Test.YtkjnahgicfmicaaGreatDoorQb
import Derived.Test.YtkjnahgicfmicaaGreatDoorQf
namespace Go.Proofs.YtkjnahgicfmicaaGreatDoor.Sp
section
set_option maxHeartbeats 8000000
set_option maxRecDepth 100000
open Go.RowKit Go.PW Go.PL Go.PM
attribute [local go_sem] max2_int min2_int max_two min_two max_three min_three max_four min_four
set_option linter.unusedVariables false
set_option linter.unusedSimpArgs false
structure cH where
 f : Nat → ByteArray → Option (Int × Int × Int × (List (S93)) × (List (S31)) × Bool)
 mono : ∀ a0 k, LeO (f k a0) (f (k + 1) a0)
 calls : ∀ (k : Nat) (a0 : ByteArray) (r1 : Int) (r2 : Int) (r3 : Int) (r4 : List (S93)) (r5 : List (S31)) (r6 : Bool) (w : World) (h : f k a0 = some (r1, r2, r3, r4, r5, r6)),
  Calls Tryz.prog 7 #[.string a0] w fun e w' => ∃ v3_ v4_ : Value, e = .returned (.tuple #[.agg #[.int .i64 r1, .int .i64 r2, .int .i64 r3, v3_, v4_], .bool r6]) ∧ Kd.R k93 93 w' w.heap.size (fun _ => True) v3_ r4 ∧ Kd.R k31 31 w' w.heap.size (fun k_ => some k_ ≠ (v3_ : Value).ownBlock) v4_ r5 ∧ Below w.heap.size w w'
def mF.f (k : Nat) (a0 : ByteArray) : Option (Int × Int × Int × (List (S93)) × (List (S31)) × Bool) := none
theorem mF.calls (k : Nat) (a0 : ByteArray) (r1 : Int) (r2 : Int) (r3 : Int) (r4 : List (S93)) (r5 : List (S31)) (r6 : Bool) (w : World) (h : mF.f k a0 = some (r1, r2, r3, r4, r5, r6)) :
 Calls Tryz.prog 7 #[.string a0] w fun e w' => ∃ v3_ v4_ : Value, e = .returned (.tuple #[.agg #[.int .i64 r1, .int .i64 r2, .int .i64 r3, v3_, v4_], .bool r6]) ∧ Kd.R k93 93 w' w.heap.size (fun _ => True) v3_ r4 ∧ Kd.R k31 31 w' w.heap.size (fun k_ => some k_ ≠ (v3_ : Value).ownBlock) v4_ r5 ∧ Below w.heap.size w w' := by
 have hu31 := Tryz.underlying31
 have hu50 := Tryz.underlying50
 have HB := ab (Below.refl w.heap.size w)
 have H : (none) = some (r1, r2, r3, r4, r5, r6) := h
 clear h
 exact absurd H (by simp)
structure vY where
 zA : cH
def fG.f (a0 : Int) : Option (Int) := if a0 = 98 then (some 8) else (if a0 = 102 then (some 12) else (if a0 = 110 then (some 10) else (if a0 = 114 then (some 13) else (if a0 = 116 then (some 9) else (some a0)))))
theorem fG.calls (a0 : Int) (r : Int) (w : World) (h : fG.f a0 = some r) :
 Calls Tryz.prog 51 #[.int .u8 a0] w fun e w' => e = .returned (.int .u8 r) ∧ Drawn0 w w' := by
 have H : (if a0 = 98 then (some 8) else (if a0 = 102 then (some 12) else (if a0 = 110 then (some 10) else (if a0 = 114 then (some 13) else (if a0 = 116 then (some 9) else (some a0)))))) = some r := h
 clear h
 revert H; refine sIe1n0_e0n1 (fun gS mX H => ?_) fun gS mX H => ?_
 ·as_aux_lemma =>
   obtain rfl := au H
   go_enter Tryz.func51, Tryz.ntmps51
   go_wp2
   go_ret
   exact ⟨Z7, Z10⟩
 revert H; refine sIe1n0_e0n1 (fun dY kR H => ?_) fun dY kR H => ?_
 ·as_aux_lemma =>
   obtain rfl := au H
   go_enter Tryz.func51, Tryz.ntmps51
   go_wp2
   go_ret
   exact ⟨Z7, Z10⟩
 revert H; refine sIe1n0_e0n1 (fun gY xS H => ?_) fun gY xS H => ?_
 ·as_aux_lemma =>
   obtain rfl := au H
   go_enter Tryz.func51, Tryz.ntmps51
   go_wp2
   go_ret
   exact ⟨Z7, Z10⟩
 revert H; refine sIe1n0_e0n1 (fun iO qQ H => ?_) fun iO qQ H => ?_
 ·as_aux_lemma =>
   obtain rfl := au H
   go_enter Tryz.func51, Tryz.ntmps51
   go_wp2
   go_ret
   exact ⟨Z7, Z10⟩
 revert H; refine sIe1n0_e0n1 (fun eI mL H => ?_) fun eI mL H => ?_
 ·as_aux_lemma =>
   obtain rfl := au H
   go_enter Tryz.func51, Tryz.ntmps51
   go_wp2
   go_ret
   exact ⟨Z7, Z10⟩
 as_aux_lemma =>
  obtain rfl := au H
  go_enter Tryz.func51, Tryz.ntmps51
  go_wp2
  go_ret
  exact ⟨Z7, Z10⟩
def bF.j0 : Nat → List Int → Int → Bool → Option (List Int)
 | 0, _, _, _ => none
 | k + 1, x0, x1, x27 => if x27 = true then ((some (([239, 191, 189] : List Int) : List Int)).bind fun qS => (if x0.length + qS.length < 140737488355328 then (some (x0 ++ qS)) else (none))) else (if x1 < 65536 then ((some (([(wrap64 (224 + (wrap64 (Int.tdiv x1 4096)))) % 256, (wrap64 (128 + (Int.tmod (wrap64 (Int.tdiv x1 64)) 64))) % 256, (wrap64 (128 + (Int.tmod x1 64))) % 256] : List Int) : List Int)).bind fun qT => (if x0.length + qT.length < 140737488355328 then (some (x0 ++ qT)) else (none))) else ((some (([(wrap64 (240 + (wrap64 (Int.tdiv x1 262144)))) % 256, (wrap64 (128 + (Int.tmod (wrap64 (Int.tdiv x1 4096)) 64))) % 256, (wrap64 (128 + (Int.tmod (wrap64 (Int.tdiv x1 64)) 64))) % 256, (wrap64 (128 + (Int.tmod x1 64))) % 256] : List Int) : List Int)).bind fun qU => (if x0.length + qU.length < 140737488355328 then (some (x0 ++ qU)) else (none))))
def bF.f (k : Nat) (l0 : List Int) (a1 : Int) : Option (List Int) := if a1 < 128 then (if l0.length < 140737488355328 then (some (l0 ++ [(a1) % 256])) else (none)) else (if a1 < 2048 then ((some (([(wrap64 (192 + (wrap64 (Int.tdiv a1 64)))) % 256, (wrap64 (128 + (Int.tmod a1 64))) % 256] : List Int) : List Int)).bind fun nS => (if l0.length + nS.length < 140737488355328 then (some (l0 ++ nS)) else (none))) else ((cR.f a1).bind fun Cz => (if Cz = true then (bF.j0 k l0 a1 true) else ((cY.f a1).bind fun vZ => (bF.j0 k l0 a1 vZ)))))
theorem bF.mono_l : ∀ k, (∀ y0 y1 y2, LeO (bF.j0 k y0 y1 y2) (bF.j0 (k + 1) y0 y1 y2))
 | 0 => fun _ _ _ r h => by simp [bF.j0] at h
 | k + 1 => by
  have ih0 := bF.mono_l k
  ·intro y0 y1 y2
   unfold bF.j0
   repeat' first
   | (with_reducible exact ih0 _ _ _)
   | (with_reducible exact LeO.refl _)
   | (with_reducible exact LeO.none _)
   | (with_reducible refine LeO.ite ?_ ?_)
   | (with_reducible refine LeO.bind ?_ (fun _ => ?_))
   | exact ih0 _ _ _
   | exact LeO.none _
   | refine LeO.ite ?_ ?_
   | refine LeO.bind ?_ (fun _ => ?_)
theorem bF.mono : ∀ a0 a1 k, LeO (bF.f k a0 a1) (bF.f (k + 1) a0 a1) := by
 intro a0 a1 k
 have ih0 := bF.mono_l k
 unfold bF.f
 exact zM
theorem bF.calls (k : Nat) (P0_ : Nat → Prop) (u9000_ : Value) (l0 : List Int) (a1 : Int) (r : List Int) (w0 w : World) (hB : Below w0.heap.size w0 w) (ho0 : Kd.R (Kd.int .u8) 5 w w0.heap.size P0_ u9000_ l0) (h : bF.f k l0 a1 = some r) :
 Calls Tryz.prog 52 #[u9000_, .int .i64 a1] w fun e w' => ∃ v0_ : Value, e = .returned (v0_) ∧ Kd.R (Kd.int .u8) 5 w' w0.heap.size (fun k_ => (P0_ k_ ∨ w.heap.size ≤ k_)) v0_ r ∧ Below w0.heap.size w0 w' ∧ Kept w w' (fun k_ => P0_ k_) := by
 have Hy := ab (show Kd.R (Kd.int .u8) 5 w w0.heap.size (fun k_ => (P0_ k_ ∨ w.heap.size ≤ k_)) u9000_ l0 from Kd.R_mono ho0 (fun k_ hk => (.inl hk)))
 have HK := ab (Kept.refl w (fun k_ => P0_ k_))
 have HW0 := ab hB.size
 have HB := ab hB
 clear hB
 have H : (if a1 < 128 then (if l0.length < 140737488355328 then (some (l0 ++ [(a1) % 256])) else (none)) else (if a1 < 2048 then ((some (([(wrap64 (192 + (wrap64 (Int.tdiv a1 64)))) % 256, (wrap64 (128 + (Int.tmod a1 64))) % 256] : List Int) : List Int)).bind fun nS => (if l0.length + nS.length < 140737488355328 then (some (l0 ++ nS)) else (none))) else ((cR.f a1).bind fun Cz => (if Cz = true then (bF.j0 k l0 a1 true) else ((cY.f a1).bind fun vZ => (bF.j0 k l0 a1 vZ)))))) = some r := h
 clear h
 revert H; refine sId1_d0 (fun dY H => ?_) fun dY H => ?_
 ·revert H; refine sNk fun c4 H => ?_
  have ahC := ab c4
  clear c4
  obtain ⟨ahD, hy279⟩ : ∃ y_ : List Int, y_ = (l0 ++ [(a1) % 256]) := ⟨_, rfl⟩
  replace H : (some ahD) = some r := by first | (rw [hy279]; with_reducible exact H) | (have H2_ := (al _ _).symm.trans H; rw [hy279]; with_reducible exact H2_) | (have H2_ := (al _ _).symm.trans H; with_reducible exact H2_) | with_reducible exact H | (rw [hy279]; exact H) | exact H
  have Nu := ab hy279
  clear hy279
  as_aux_lemma =>
   obtain rfl := au H
   go_enter Tryz.func52, Tryz.ntmps52
   go_wp2_with (first | ((with_reducible refine gate_builtin (b := .append) (xs := #[.tmp 8, .tmp 11]) rfl ?_); at_builtin; refine Kd.R_append (Kd.int .u8) (w0 := w0) w0.heap.size rfl (.tmp 8) (.tmp 11) 86 5 (.int .u8 0) 1 rfl Tryz.underlying86 info5 rfl (by decide) (by omega) u9000_ l0 ((a1) % 256) [.int .u8 ((a1) % 256)] (fun k_ => (P0_ k_ ∨ w.heap.size ≤ k_)) (fun _ => False) rfl rfl ?aP (fun _ hk => hk.elim) ?aF ?aO ?aB ?aS ?aL ?_; (case aP => exact rfl); (case aB => exact zB); (case aF => exact (fun k_ hk => (.inr (Nat.le_trans Z32 hk)))); (case aO => exact Z37); (case aS => exact (below_size zB)); (case aL => have := ahC.out; omega); intro v280 w5 ho hb hg hat; rw [← Nu.out] at ho; replace HB := ab (hb); replace HK := ab (Kept.of_grown (S := (fun k_ => P0_ k_)) hg zP (fun k_ e_ => (Hy.out.1 k_ e_))); have Nv := ab (ho); clear Hy; clear ho hb hg hat))
   go_ret
   exact ⟨_, Z8, by (with_reducible repeat (first | apply Kd.R_alloc | apply Kd.R_drewN | apply Kd.R_drew)); exact Nv.out, zB, zP⟩
 revert H; refine sId1_d0 (fun eI H => ?_) fun eI H => ?_
 ·obtain ⟨nS, hy282⟩ : ∃ y_ : List Int, y_ = (([(wrap64 (192 + (wrap64 (Int.tdiv a1 64)))) % 256, (wrap64 (128 + (Int.tmod a1 64))) % 256] : List Int)) := ⟨_, rfl⟩
  replace H : (if l0.length + nS.length < 140737488355328 then (some (l0 ++ nS)) else (none)) = some r := by first | (rw [hy282]; with_reducible exact H) | (have H2_ := (al _ _).symm.trans H; rw [hy282]; with_reducible exact H2_) | (have H2_ := (al _ _).symm.trans H; with_reducible exact H2_) | with_reducible exact H | (rw [hy282]; exact H) | exact H
  have Fb := ab hy282
  clear hy282
  revert H; refine sNk fun c7 H => ?_
  have ahE := ab c7
  clear c7
  obtain ⟨ahF, hy285⟩ : ∃ y_ : List Int, y_ = (l0 ++ nS) := ⟨_, rfl⟩
  replace H : (some ahF) = some r := by first | (rw [hy285]; with_reducible exact H) | (have H2_ := (al _ _).symm.trans H; rw [hy285]; with_reducible exact H2_) | (have H2_ := (al _ _).symm.trans H; with_reducible exact H2_) | with_reducible exact H | (rw [hy285]; exact H) | exact H
  have Nw := ab hy285
  clear hy285
  as_aux_lemma =>
   obtain rfl := au H
   go_enter Tryz.func52, Tryz.ntmps52
   go_wp2_with (first | ((with_reducible refine gate_dst (N := 25) rfl ?_); refine Kd.R_lit (Kd.int .u8) _ 5 ?hg (N := 25) ?hd (xs := ([(wrap64 (192 + (wrap64 (Int.tdiv a1 64)))) % 256, (wrap64 (128 + (Int.tmod a1 64))) % 256] : List Int)) (inner := [.int .u8 ((wrap64 (192 + (wrap64 (Int.tdiv a1 64)))) % 256), .int .u8 ((wrap64 (128 + (Int.tmod a1 64))) % 256)]) (ok := fun _ => True) (okp := fun _ => True) ?hr ?hp (fun _ hk => hk) trivial (Below.refl _ _) (Nat.le_refl _) (by simp) ?_; (case hd => rfl); (case hg => rfl); (case hr => exact Z11); (case hp => exact (Reps.one (show Kd.M (Kd.int .u8) _ _ _ ((wrap64 (192 + (wrap64 (Int.tdiv a1 64)))) % 256) [.int .u8 ((wrap64 (192 + (wrap64 (Int.tdiv a1 64)))) % 256)] from rfl) (Reps.one (show Kd.M (Kd.int .u8) _ _ _ ((wrap64 (128 + (Int.tmod a1 64))) % 256) [.int .u8 ((wrap64 (128 + (Int.tmod a1 64))) % 256)] from rfl) (Reps.none _ _)))); intro v283 w8 ho9 hb hg_ hnew_; clear hg_ hnew_; (first | rw [← Fb.out] at ho9 | (simp only [Int.reduceToNat] at ho9; rw [← Fb.out] at ho9)); have qV := ab (Kd.R_lower (Kd.R_new' (Kd.R_newM (M := fun k_ => (P0_ k_ ∨ w.heap.size ≤ k_)) ho9 Z32 (fun k_ h_ => .inr h_)) (Kd.R_lt Z37)) (below_size zB)); replace Hy := ab (Kd.R_elder' Z37 (Kd.R_base ho9) hb); replace HK := ab (Kept.below (S := (fun k_ => P0_ k_)) zP hb); replace HB := ab (below_step (w := w0) zB hb); clear hb ho9; obtain ⟨wA, co11, eo11⟩ := Kd.R_slice qV.out; subst eo11) | ((with_reducible refine gate_builtin (b := .append) (xs := #[.tmp 16, .tmp 25]) rfl ?_); at_builtin; refine Kd.R_append_rows (Kd.int .u8) (w0 := w0) w0.heap.size rfl (.tmp 16) (.tmp 25) 86 5 (.int .u8 0) 1 rfl Tryz.underlying86 info5 rfl (by decide) (by omega) u9000_ l0 nS _ _ _ (fun k_ => (P0_ k_ ∨ w.heap.size ≤ k_) ∧ some k_ ≠ (.slice wA nS.length co11 : Value).ownBlock) (fun _ => False) rfl rfl ?aO ?aR (fun _ _ h => h) (fun _ h => h.elim) ?aF ?aB ?aS ?aL ?_; (case aR => repeat (first | exact (Kd.R_reads' qV.out).2.2 | (with_reducible refine Kd.C_alloc ?_ _) | (with_reducible refine Kd.C_drewN ?_ _) | (with_reducible refine Kd.C_drew ?_))); (case aB => exact zB); (case aF => exact (fun k_ hk => ⟨(.inr (Nat.le_trans Z32 hk)), Kd.fresh' (Kd.R_lt (by (with_reducible repeat (first | apply Kd.R_alloc | apply Kd.R_drewN | apply Kd.R_drew)); exact qV.out)) k_ hk⟩)); (case aO => exact Z37); (case aS => exact (below_size zB)); (case aL => have := ahE.out; omega); intro v286 w10 ho hb hg hat; rw [← Nw.out] at ho; replace qV := ab (Kd.R_after (ok := (fun k_ => (P0_ k_ ∨ w.heap.size ≤ k_))) (by (with_reducible repeat (first | apply Kd.R_alloc | apply Kd.R_drewN | apply Kd.R_drew)); exact Kd.R_mono qV.out (fun _ hk => ⟨hk.1.1, hk.2⟩)) hg hat); replace HB := ab (hb); replace HK := ab (Kept.of_grown (S := (fun k_ => P0_ k_)) hg zP (fun k_ e_ => (Hy.out.1 k_ e_).1)); have Nx := ab (ho); clear Hy; clear ho hb hg hat))
   go_ret
   exact ⟨_, Z8, by (with_reducible repeat (first | apply Kd.R_alloc | apply Kd.R_drewN | apply Kd.R_drew)); exact Kd.R_mono Nx.out (fun _ hk => hk.1), zB, zP⟩
 have rM := ab H
 clear H
 go_enter Tryz.func52, Tryz.ntmps52
 go_upto_region 5 with (fail)
 go_cut [27] (fun v27 wc => ∃ (kq : Nat) (rX : Bool), v27 = .bool rX ∧ Aside0 (bF.j0 kq l0 a1 rX = some r) ∧ Aside0 (kq ≤ k) ∧ Aside0 (Kd.R (Kd.int .u8) 5 wc w0.heap.size (fun k_ => (P0_ k_ ∨ w.heap.size ≤ k_)) u9000_ l0) ∧ Aside0 (Kept w wc (fun k_ => P0_ k_)) ∧ Aside0 (Below w0.heap.size w0 wc))
 case first =>
  have H := rM.out
  clear rM
  revert H; refine bnd ?_; rintro Cz yZ H
  replace H := sB H
  obtain ⟨rfl, H⟩ | ⟨rfl, H⟩ := H
  ·as_aux_lemma =>
    have H' := ab H
    clear H
    go_wp2_with (first | (refine gl 35 (some 29) Tryz.func35 #[.int .i64 a1] ?_; (with_reducible refine (cR.calls a1 true _ yZ.out).mono ?_); rintro e w' ⟨rfl, ⟨nd, rfl⟩⟩; refine ⟨_, rfl, ?_⟩))
    go_meet
    case rel => exact ⟨_, (true), Z7, H', ⟨Z26⟩, ⟨Z37⟩, ⟨zP⟩, ⟨zB⟩⟩
  revert H; refine bnd ?_; rintro vZ Fa H
  as_aux_lemma =>
   have H' := ab H
   clear H
   go_wp2_with (first | (refine gl 35 (some 29) Tryz.func35 #[.int .i64 a1] ?_; (with_reducible refine (cR.calls a1 false _ yZ.out).mono ?_); rintro e w' ⟨rfl, ⟨nd, rfl⟩⟩; refine ⟨_, rfl, ?_⟩) | (go_at_call 36; (with_reducible refine (cY.calls a1 vZ _ Fa.out).mono ?_); rintro e w' ⟨rfl, ⟨nd, rfl⟩⟩))
   go_meet
   case rel => exact ⟨_, (vZ), Z7, H', ⟨Z26⟩, ⟨Z37⟩, ⟨zP⟩, ⟨zB⟩⟩
 case rest =>
  clear rM
  try clear dY eI
  obtain ⟨kq, rX, rfl, HA, HJ11, oD, HK, HB⟩ := hcut
  cases kq with
  | zero => exact absurd HA.out (by simp [bF.j0])
  | succ kj11 =>
   have H := HA.out
   clear HA
   simp only [bF.j0] at H
   replace H := sB H
   obtain ⟨rfl, H⟩ | ⟨rfl, H⟩ := H
   ·obtain ⟨qS, hy290⟩ : ∃ y_ : List Int, y_ = (([239, 191, 189] : List Int)) := ⟨_, rfl⟩
    replace H : (if l0.length + qS.length < 140737488355328 then (some (l0 ++ qS)) else (none)) = some r := by first | (rw [hy290]; with_reducible exact H) | (have H2_ := (al _ _).symm.trans H; rw [hy290]; with_reducible exact H2_) | (have H2_ := (al _ _).symm.trans H; with_reducible exact H2_) | with_reducible exact H | (rw [hy290]; exact H) | exact H
    have Fc := ab hy290
    clear hy290
    revert H; refine sNk fun c17 H => ?_
    have Ny := ab c17
    clear c17
    obtain ⟨ahG, hy293⟩ : ∃ y_ : List Int, y_ = (l0 ++ qS) := ⟨_, rfl⟩
    replace H : (some ahG) = some r := by first | (rw [hy293]; with_reducible exact H) | (have H2_ := (al _ _).symm.trans H; rw [hy293]; with_reducible exact H2_) | (have H2_ := (al _ _).symm.trans H; with_reducible exact H2_) | with_reducible exact H | (rw [hy293]; exact H) | exact H
    have Nz := ab hy293
    clear hy293
    as_aux_lemma =>
     obtain rfl := au H
     go_wp2_with (first | ((with_reducible refine gate_dst (N := 35) rfl ?_); refine Kd.R_lit (Kd.int .u8) _ 5 ?hg (N := 35) ?hd (xs := ([239, 191, 189] : List Int)) (inner := [.int .u8 239, .int .u8 191, .int .u8 189]) (ok := fun _ => True) (okp := fun _ => True) ?hr ?hp (fun _ hk => hk) trivial (Below.refl _ _) (Nat.le_refl _) (by simp) ?_; (case hd => rfl); (case hg => rfl); (case hr => exact Z11); (case hp => exact (Reps.one (show Kd.M (Kd.int .u8) _ _ _ 239 [.int .u8 239] from rfl) (Reps.one (show Kd.M (Kd.int .u8) _ _ _ 191 [.int .u8 191] from rfl) (Reps.one (show Kd.M (Kd.int .u8) _ _ _ 189 [.int .u8 189] from rfl) (Reps.none _ _))))); intro v291 w18 ho19 hb hg_ hnew_; clear hg_ hnew_; (first | rw [← Fc.out] at ho19 | (simp only [Int.reduceToNat] at ho19; rw [← Fc.out] at ho19)); have qW := ab (Kd.R_lower (Kd.R_new' (Kd.R_newM (M := fun k_ => (P0_ k_ ∨ w.heap.size ≤ k_)) ho19 Z32 (fun k_ h_ => .inr h_)) (Kd.R_lt Z28)) (below_size zB)); replace oD := ab (Kd.R_elder' Z28 (Kd.R_base ho19) hb); replace HK := ab (Kept.below (S := (fun k_ => P0_ k_)) zP hb); replace HB := ab (below_step (w := w0) zB hb); clear hb ho19; obtain ⟨pL, co21, eo21⟩ := Kd.R_slice qW.out; subst eo21) | ((with_reducible refine gate_builtin (b := .append) (xs := #[.tmp 34, .tmp 35]) rfl ?_); at_builtin; refine Kd.R_append_rows (Kd.int .u8) (w0 := w0) w0.heap.size rfl (.tmp 34) (.tmp 35) 86 5 (.int .u8 0) 1 rfl Tryz.underlying86 info5 rfl (by decide) (by omega) u9000_ l0 qS _ _ _ (fun k_ => (P0_ k_ ∨ w.heap.size ≤ k_) ∧ some k_ ≠ (.slice pL qS.length co21 : Value).ownBlock) (fun _ => False) rfl rfl ?aO ?aR (fun _ _ h => h) (fun _ h => h.elim) ?aF ?aB ?aS ?aL ?_; (case aR => repeat (first | exact (Kd.R_reads' qW.out).2.2 | (with_reducible refine Kd.C_alloc ?_ _) | (with_reducible refine Kd.C_drewN ?_ _) | (with_reducible refine Kd.C_drew ?_))); (case aB => exact zB); (case aF => exact (fun k_ hk => ⟨(.inr (Nat.le_trans Z32 hk)), Kd.fresh' (Kd.R_lt (by (with_reducible repeat (first | apply Kd.R_alloc | apply Kd.R_drewN | apply Kd.R_drew)); exact qW.out)) k_ hk⟩)); (case aO => exact Z28); (case aS => exact (below_size zB)); (case aL => have := Ny.out; omega); intro v294 w20 ho hb hg hat; rw [← Nz.out] at ho; replace qW := ab (Kd.R_after (ok := (fun k_ => (P0_ k_ ∨ w.heap.size ≤ k_))) (by (with_reducible repeat (first | apply Kd.R_alloc | apply Kd.R_drewN | apply Kd.R_drew)); exact Kd.R_mono qW.out (fun _ hk => ⟨hk.1.1, hk.2⟩)) hg hat); replace HB := ab (hb); replace HK := ab (Kept.of_grown (S := (fun k_ => P0_ k_)) hg zP (fun k_ e_ => (oD.out.1 k_ e_).1)); have Oa := ab (ho); clear oD; clear ho hb hg hat))
     go_ret
     exact ⟨_, Z8, by (with_reducible repeat (first | apply Kd.R_alloc | apply Kd.R_drewN | apply Kd.R_drew)); exact Kd.R_mono Oa.out (fun _ hk => hk.1), zB, zP⟩
   revert H; refine sId1_d0 (fun jH H => ?_) fun jH H => ?_
   ·obtain ⟨qT, hy296⟩ : ∃ y_ : List Int, y_ = (([(wrap64 (224 + (wrap64 (Int.tdiv a1 4096)))) % 256, (wrap64 (128 + (Int.tmod (wrap64 (Int.tdiv a1 64)) 64))) % 256, (wrap64 (128 + (Int.tmod a1 64))) % 256] : List Int)) := ⟨_, rfl⟩
    replace H : (if l0.length + qT.length < 140737488355328 then (some (l0 ++ qT)) else (none)) = some r := by first | (rw [hy296]; with_reducible exact H) | (have H2_ := (al _ _).symm.trans H; rw [hy296]; with_reducible exact H2_) | (have H2_ := (al _ _).symm.trans H; with_reducible exact H2_) | with_reducible exact H | (rw [hy296]; exact H) | exact H
    have Fd := ab hy296
    clear hy296
    revert H; refine sNk fun c23 H => ?_
    have Ob := ab c23
    clear c23
    obtain ⟨ahH, hy299⟩ : ∃ y_ : List Int, y_ = (l0 ++ qT) := ⟨_, rfl⟩
    replace H : (some ahH) = some r := by first | (rw [hy299]; with_reducible exact H) | (have H2_ := (al _ _).symm.trans H; rw [hy299]; with_reducible exact H2_) | (have H2_ := (al _ _).symm.trans H; with_reducible exact H2_) | with_reducible exact H | (rw [hy299]; exact H) | exact H
    have Oc := ab hy299
    clear hy299
    as_aux_lemma =>
     obtain rfl := au H
     go_wp2_with (first | ((with_reducible refine gate_dst (N := 54) rfl ?_); refine Kd.R_lit (Kd.int .u8) _ 5 ?hg (N := 54) ?hd (xs := ([(wrap64 (224 + (wrap64 (Int.tdiv a1 4096)))) % 256, (wrap64 (128 + (Int.tmod (wrap64 (Int.tdiv a1 64)) 64))) % 256, (wrap64 (128 + (Int.tmod a1 64))) % 256] : List Int)) (inner := [.int .u8 ((wrap64 (224 + (wrap64 (Int.tdiv a1 4096)))) % 256), .int .u8 ((wrap64 (128 + (Int.tmod (wrap64 (Int.tdiv a1 64)) 64))) % 256), .int .u8 ((wrap64 (128 + (Int.tmod a1 64))) % 256)]) (ok := fun _ => True) (okp := fun _ => True) ?hr ?hp (fun _ hk => hk) trivial (Below.refl _ _) (Nat.le_refl _) (by simp) ?_; (case hd => rfl); (case hg => rfl); (case hr => exact Z11); (case hp => exact (Reps.one (show Kd.M (Kd.int .u8) _ _ _ ((wrap64 (224 + (wrap64 (Int.tdiv a1 4096)))) % 256) [.int .u8 ((wrap64 (224 + (wrap64 (Int.tdiv a1 4096)))) % 256)] from rfl) (Reps.one (show Kd.M (Kd.int .u8) _ _ _ ((wrap64 (128 + (Int.tmod (wrap64 (Int.tdiv a1 64)) 64))) % 256) [.int .u8 ((wrap64 (128 + (Int.tmod (wrap64 (Int.tdiv a1 64)) 64))) % 256)] from rfl) (Reps.one (show Kd.M (Kd.int .u8) _ _ _ ((wrap64 (128 + (Int.tmod a1 64))) % 256) [.int .u8 ((wrap64 (128 + (Int.tmod a1 64))) % 256)] from rfl) (Reps.none _ _))))); intro v297 w24 ho25 hb hg_ hnew_; clear hg_ hnew_; (first | rw [← Fd.out] at ho25 | (simp only [Int.reduceToNat] at ho25; rw [← Fd.out] at ho25)); have qX := ab (Kd.R_lower (Kd.R_new' (Kd.R_newM (M := fun k_ => (P0_ k_ ∨ w.heap.size ≤ k_)) ho25 Z32 (fun k_ h_ => .inr h_)) (Kd.R_lt Z28)) (below_size zB)); replace oD := ab (Kd.R_elder' Z28 (Kd.R_base ho25) hb); replace HK := ab (Kept.below (S := (fun k_ => P0_ k_)) zP hb); replace HB := ab (below_step (w := w0) zB hb); clear hb ho25; obtain ⟨ahI, co27, eo27⟩ := Kd.R_slice qX.out; subst eo27) | ((with_reducible refine gate_builtin (b := .append) (xs := #[.tmp 40, .tmp 54]) rfl ?_); at_builtin; refine Kd.R_append_rows (Kd.int .u8) (w0 := w0) w0.heap.size rfl (.tmp 40) (.tmp 54) 86 5 (.int .u8 0) 1 rfl Tryz.underlying86 info5 rfl (by decide) (by omega) u9000_ l0 qT _ _ _ (fun k_ => (P0_ k_ ∨ w.heap.size ≤ k_) ∧ some k_ ≠ (.slice ahI qT.length co27 : Value).ownBlock) (fun _ => False) rfl rfl ?aO ?aR (fun _ _ h => h) (fun _ h => h.elim) ?aF ?aB ?aS ?aL ?_; (case aR => repeat (first | exact (Kd.R_reads' qX.out).2.2 | (with_reducible refine Kd.C_alloc ?_ _) | (with_reducible refine Kd.C_drewN ?_ _) | (with_reducible refine Kd.C_drew ?_))); (case aB => exact zB); (case aF => exact (fun k_ hk => ⟨(.inr (Nat.le_trans Z32 hk)), Kd.fresh' (Kd.R_lt (by (with_reducible repeat (first | apply Kd.R_alloc | apply Kd.R_drewN | apply Kd.R_drew)); exact qX.out)) k_ hk⟩)); (case aO => exact Z28); (case aS => exact (below_size zB)); (case aL => have := Ob.out; omega); intro v300 w26 ho hb hg hat; rw [← Oc.out] at ho; replace qX := ab (Kd.R_after (ok := (fun k_ => (P0_ k_ ∨ w.heap.size ≤ k_))) (by (with_reducible repeat (first | apply Kd.R_alloc | apply Kd.R_drewN | apply Kd.R_drew)); exact Kd.R_mono qX.out (fun _ hk => ⟨hk.1.1, hk.2⟩)) hg hat); replace HB := ab (hb); replace HK := ab (Kept.of_grown (S := (fun k_ => P0_ k_)) hg zP (fun k_ e_ => (oD.out.1 k_ e_).1)); have Od := ab (ho); clear oD; clear ho hb hg hat))
     go_ret
     exact ⟨_, Z8, by (with_reducible repeat (first | apply Kd.R_alloc | apply Kd.R_drewN | apply Kd.R_drew)); exact Kd.R_mono Od.out (fun _ hk => hk.1), zB, zP⟩
   obtain ⟨qU, hy302⟩ : ∃ y_ : List Int, y_ = (([(wrap64 (240 + (wrap64 (Int.tdiv a1 262144)))) % 256, (wrap64 (128 + (Int.tmod (wrap64 (Int.tdiv a1 4096)) 64))) % 256, (wrap64 (128 + (Int.tmod (wrap64 (Int.tdiv a1 64)) 64))) % 256, (wrap64 (128 + (Int.tmod a1 64))) % 256] : List Int)) := ⟨_, rfl⟩
   replace H : (if l0.length + qU.length < 140737488355328 then (some (l0 ++ qU)) else (none)) = some r := by first | (rw [hy302]; with_reducible exact H) | (have H2_ := (al _ _).symm.trans H; rw [hy302]; with_reducible exact H2_) | (have H2_ := (al _ _).symm.trans H; with_reducible exact H2_) | with_reducible exact H | (rw [hy302]; exact H) | exact H
   have Fe := ab hy302
   clear hy302
   revert H; refine sNk fun c28 H => ?_
   have Oe := ab c28
   clear c28
   obtain ⟨ahJ, hy305⟩ : ∃ y_ : List Int, y_ = (l0 ++ qU) := ⟨_, rfl⟩
   replace H : (some ahJ) = some r := by first | (rw [hy305]; with_reducible exact H) | (have H2_ := (al _ _).symm.trans H; rw [hy305]; with_reducible exact H2_) | (have H2_ := (al _ _).symm.trans H; with_reducible exact H2_) | with_reducible exact H | (rw [hy305]; exact H) | exact H
   have Of := ab hy305
   clear hy305
   as_aux_lemma =>
    obtain rfl := au H
    go_wp2_with (first | ((with_reducible refine gate_dst (N := 75) rfl ?_); refine Kd.R_lit (Kd.int .u8) _ 5 ?hg (N := 75) ?hd (xs := ([(wrap64 (240 + (wrap64 (Int.tdiv a1 262144)))) % 256, (wrap64 (128 + (Int.tmod (wrap64 (Int.tdiv a1 4096)) 64))) % 256, (wrap64 (128 + (Int.tmod (wrap64 (Int.tdiv a1 64)) 64))) % 256, (wrap64 (128 + (Int.tmod a1 64))) % 256] : List Int)) (inner := [.int .u8 ((wrap64 (240 + (wrap64 (Int.tdiv a1 262144)))) % 256), .int .u8 ((wrap64 (128 + (Int.tmod (wrap64 (Int.tdiv a1 4096)) 64))) % 256), .int .u8 ((wrap64 (128 + (Int.tmod (wrap64 (Int.tdiv a1 64)) 64))) % 256), .int .u8 ((wrap64 (128 + (Int.tmod a1 64))) % 256)]) (ok := fun _ => True) (okp := fun _ => True) ?hr ?hp (fun _ hk => hk) trivial (Below.refl _ _) (Nat.le_refl _) (by simp) ?_; (case hd => rfl); (case hg => rfl); (case hr => exact Z11); (case hp => exact (Reps.one (show Kd.M (Kd.int .u8) _ _ _ ((wrap64 (240 + (wrap64 (Int.tdiv a1 262144)))) % 256) [.int .u8 ((wrap64 (240 + (wrap64 (Int.tdiv a1 262144)))) % 256)] from rfl) (Reps.one (show Kd.M (Kd.int .u8) _ _ _ ((wrap64 (128 + (Int.tmod (wrap64 (Int.tdiv a1 4096)) 64))) % 256) [.int .u8 ((wrap64 (128 + (Int.tmod (wrap64 (Int.tdiv a1 4096)) 64))) % 256)] from rfl) (Reps.one (show Kd.M (Kd.int .u8) _ _ _ ((wrap64 (128 + (Int.tmod (wrap64 (Int.tdiv a1 64)) 64))) % 256) [.int .u8 ((wrap64 (128 + (Int.tmod (wrap64 (Int.tdiv a1 64)) 64))) % 256)] from rfl) (Reps.one (show Kd.M (Kd.int .u8) _ _ _ ((wrap64 (128 + (Int.tmod a1 64))) % 256) [.int .u8 ((wrap64 (128 + (Int.tmod a1 64))) % 256)] from rfl) (Reps.none _ _)))))); intro v303 w29 ho30 hb hg_ hnew_; clear hg_ hnew_; (first | rw [← Fe.out] at ho30 | (simp only [Int.reduceToNat] at ho30; rw [← Fe.out] at ho30)); have qY := ab (Kd.R_lower (Kd.R_new' (Kd.R_newM (M := fun k_ => (P0_ k_ ∨ w.heap.size ≤ k_)) ho30 Z32 (fun k_ h_ => .inr h_)) (Kd.R_lt Z28)) (below_size zB)); replace oD := ab (Kd.R_elder' Z28 (Kd.R_base ho30) hb); replace HK := ab (Kept.below (S := (fun k_ => P0_ k_)) zP hb); replace HB := ab (below_step (w := w0) zB hb); clear hb ho30; obtain ⟨ahK, co32, eo32⟩ := Kd.R_slice qY.out; subst eo32) | ((with_reducible refine gate_builtin (b := .append) (xs := #[.tmp 56, .tmp 75]) rfl ?_); at_builtin; refine Kd.R_append_rows (Kd.int .u8) (w0 := w0) w0.heap.size rfl (.tmp 56) (.tmp 75) 86 5 (.int .u8 0) 1 rfl Tryz.underlying86 info5 rfl (by decide) (by omega) u9000_ l0 qU _ _ _ (fun k_ => (P0_ k_ ∨ w.heap.size ≤ k_) ∧ some k_ ≠ (.slice ahK qU.length co32 : Value).ownBlock) (fun _ => False) rfl rfl ?aO ?aR (fun _ _ h => h) (fun _ h => h.elim) ?aF ?aB ?aS ?aL ?_; (case aR => repeat (first | exact (Kd.R_reads' qY.out).2.2 | (with_reducible refine Kd.C_alloc ?_ _) | (with_reducible refine Kd.C_drewN ?_ _) | (with_reducible refine Kd.C_drew ?_))); (case aB => exact zB); (case aF => exact (fun k_ hk => ⟨(.inr (Nat.le_trans Z32 hk)), Kd.fresh' (Kd.R_lt (by (with_reducible repeat (first | apply Kd.R_alloc | apply Kd.R_drewN | apply Kd.R_drew)); exact qY.out)) k_ hk⟩)); (case aO => exact Z28); (case aS => exact (below_size zB)); (case aL => have := Oe.out; omega); intro v306 w31 ho hb hg hat; rw [← Of.out] at ho; replace qY := ab (Kd.R_after (ok := (fun k_ => (P0_ k_ ∨ w.heap.size ≤ k_))) (by (with_reducible repeat (first | apply Kd.R_alloc | apply Kd.R_drewN | apply Kd.R_drew)); exact Kd.R_mono qY.out (fun _ hk => ⟨hk.1.1, hk.2⟩)) hg hat); replace HB := ab (hb); replace HK := ab (Kept.of_grown (S := (fun k_ => P0_ k_)) hg zP (fun k_ e_ => (oD.out.1 k_ e_).1)); have Og := ab (ho); clear oD; clear ho hb hg hat))
    go_ret
    exact ⟨_, Z8, by (with_reducible repeat (first | apply Kd.R_alloc | apply Kd.R_drewN | apply Kd.R_drew)); exact Kd.R_mono Og.out (fun _ hk => hk.1), zB, zP⟩
end
section
open Go.RowKit Go.PW Go.PL Go.PM
attribute [local go_sem] max2_int min2_int max_two min_two max_three min_three max_four min_four
set_option linter.unusedVariables false
set_option linter.unusedSimpArgs false
def bA.l0 : Nat → List Int → ByteArray → Int → Option (ByteArray)
 | 0, _, _, _ => none
 | k + 1, x3, x4, x5 => if x5 < (x4.size : Int) then (if 0 ≤ x5 then (if (bt x4 x5) = 92 then ((bD.f k x4 x5).bind fun bt311 => (if bt311.2 = true then ((bD.f k x4 (wrap64 (x5 + 6))).bind fun bt317 => (if bt317.2 = true then ((cR.f bt311.1).bind fun Im => (if Im = true then ((cY.f bt317.1).bind fun Io => (if Io = true then ((bF.f k x3 (wrap64 ((wrap64 (65536 + (wrap64 ((wrap64 (bt311.1 - 55296)) * 1024)))) + (wrap64 (bt317.1 - 56320))))).bind fun zJ => (bA.l0 k zJ x4 (wrap64 ((wrap64 (x5 + 6)) + 6)))) else ((bF.f k x3 bt311.1).bind fun zN => (bA.l0 k zN x4 (wrap64 (x5 + 6)))))) else ((bF.f k x3 bt311.1).bind fun zO => (bA.l0 k zO x4 (wrap64 (x5 + 6)))))) else ((bF.f k x3 bt311.1).bind fun zQ => (bA.l0 k zQ x4 (wrap64 (x5 + 6)))))) else (if 0 ≤ (wrap64 (x5 + 1)) then (if (wrap64 (x5 + 1)) < (x4.size : Int) then ((fG.f (bt x4 (wrap64 (x5 + 1)))).bind fun qI => (if x3.length < 140737488355328 then (bA.l0 k (x3 ++ [qI]) x4 (wrap64 (x5 + 2))) else (none))) else (none)) else (none)))) else (if x3.length < 140737488355328 then (bA.l0 k (x3 ++ [bt x4 x5]) x4 (wrap64 (x5 + 1))) else (none))) else (none)) else (some (strOfNums x3))
def bA.f (k : Nat) (a0 : ByteArray) : Option (ByteArray) := if 1 ≤ (wrap64 ((a0.size : Int) - 1)) then (if (wrap64 ((a0.size : Int) - 1)) ≤ (a0.size : Int) then (bA.l0 k ([] : List Int) (a0.extract 1 ((wrap64 ((a0.size : Int) - 1)) : Int).toNat) 0) else (none)) else (none)
theorem bA.mono_l : ∀ k, (∀ y0 y1 y2, LeO (bA.l0 k y0 y1 y2) (bA.l0 (k + 1) y0 y1 y2))
 | 0 => fun _ _ _ r h => by simp [bA.l0] at h
 | k + 1 => by
  have ih0 := bA.mono_l k
  ·intro y0 y1 y2
   unfold bA.l0
   repeat' first
   | (with_reducible exact ih0 _ _ _)
   | (with_reducible exact bF.mono _ _ _)
   | (with_reducible exact bD.mono _ _ _)
   | (with_reducible exact LeO.refl _)
   | (with_reducible exact LeO.none _)
   | (with_reducible refine LeO.ite ?_ ?_)
   | (with_reducible refine LeO.bind ?_ (fun _ => ?_))
   | exact ih0 _ _ _
   | exact bF.mono _ _ _
   | exact bD.mono _ _ _
   | exact LeO.none _
   | refine LeO.ite ?_ ?_
   | refine LeO.bind ?_ (fun _ => ?_)
theorem bA.mono : ∀ a0 k, LeO (bA.f k a0) (bA.f (k + 1) a0) := by
 intro a0 k
 have ih0 := bA.mono_l k
 unfold bA.f
 exact zM
set_option maxHeartbeats 8000000 in
set_option maxRecDepth 100000 in
theorem bA.calls (k : Nat) (a0 : ByteArray) (r : ByteArray) (w : World) (h : bA.f k a0 = some r) :
 Calls Tryz.prog 26 #[.string a0] w fun e w' => e = .returned (.string r) ∧ Below w.heap.size w w' := by
 have HB := ab (Below.refl w.heap.size w)
 have H : (if 1 ≤ (wrap64 ((a0.size : Int) - 1)) then (if (wrap64 ((a0.size : Int) - 1)) ≤ (a0.size : Int) then (bA.l0 k ([] : List Int) (a0.extract 1 ((wrap64 ((a0.size : Int) - 1)) : Int).toNat) 0) else (none)) else (none)) = some r := h
 clear h
 revert H; refine sNt1d1 fun gS mX H => ?_
 revert H; refine sNt1d1 fun dY kR H => ?_
 obtain ⟨S4, hS4⟩ : ∃ S4, a0.extract 1 ((wrap64 ((a0.size : Int) - 1)) : Int).toNat = S4 := ⟨_, rfl⟩
 rw [hS4] at H
 have H' := ab H
 clear H
 go_enter Tryz.func26, Tryz.ntmps26
 go_wp2
 (try simp only [Act.put, ap, aq, ar])
 go_loopg [3, 5] k (fun kq v3 v5 w' => ∃ (cO : List Int) (bZ : Int), v5 = .int .i64 bZ ∧ Aside0 (bA.l0 kq cO S4 bZ = some r) ∧ Aside0 (kq ≤ k) ∧ Aside0 (Kd.R (Kd.int .u8) 5 w' w.heap.size (fun _ => True) v3 cO) ∧ Aside0 (Below w.heap.size w w'))
 case atStart => exact ⟨(([] : List Int)), (0), Z7, H', ⟨Nat.le_refl _⟩, ⟨Z9⟩, ⟨zB⟩⟩
 case round =>
  clear H'
  try clear gS mX dY kR
  obtain ⟨cO, bZ, rfl, HA, HK1, jG, HB⟩ := hrel
  cases gk with
  | zero => exact absurd HA.out (by simp [bA.l0])
  | succ k1 =>
   have H := HA.out
   clear HA
   simp only [bA.l0] at H
   revert H; refine sId1_d0 (fun gY H => ?_) fun gY H => ?_
   ·revert H; refine sNd1 fun iO H => ?_
    revert H; refine sIe1n0_e0n1 (fun iH kM H => ?_) fun iH kM H => ?_
    ·revert H; refine bnd ?_; rintro ⟨mI, apO⟩ A8 H; try dsimp only at H
     replace H := sB H
     obtain ⟨rfl, H⟩ | ⟨rfl, H⟩ := H
     ·revert H; refine bnd ?_; rintro ⟨vK, apP⟩ mN H; try dsimp only at H
      replace H := sB H
      obtain ⟨rfl, H⟩ | ⟨rfl, H⟩ := H
      ·revert H; refine bnd ?_; rintro Im Ip H
       replace H := sB H
       obtain ⟨rfl, H⟩ | ⟨rfl, H⟩ := H
       ·revert H; refine bnd ?_; rintro Io Gb H
        replace H := sB H
        obtain ⟨rfl, H⟩ | ⟨rfl, H⟩ := H
        ·revert H; refine bnd ?_; rintro zJ A16 H
         focus
          have H' := ab H
          clear H
          have p6 := ag (ac Z6 : 0 ≤ (bZ : Int))
          have q6 := ag (ac Z6 : bZ < (S4.size : Int))
          have hx6 := bt_at S4 bZ
          exact Z2
        revert H; refine bnd ?_; rintro zN A19 H
        focus
         have H' := ab H
         clear H
         have p6 := ag (ac Z6 : 0 ≤ (bZ : Int))
         have q6 := ag (ac Z6 : bZ < (S4.size : Int))
         have hx6 := bt_at S4 bZ
         exact Z2
       revert H; refine bnd ?_; rintro zO Qu H
       focus
        have H' := ab H
        clear H
        have p6 := ag (ac Z6 : 0 ≤ (bZ : Int))
        have q6 := ag (ac Z6 : bZ < (S4.size : Int))
        have hx6 := bt_at S4 bZ
        exact Z2
      revert H; refine bnd ?_; rintro zQ Qv H
      focus
       have H' := ab H
       clear H
       have p6 := ag (ac Z6 : 0 ≤ (bZ : Int))
       have q6 := ag (ac Z6 : bZ < (S4.size : Int))
       have hx6 := bt_at S4 bZ
       exact Z2
     obtain ⟨oM, qJ⟩ : ∃ j_ : Int, (wrap64 (bZ + 1)) = j_ := ⟨_, rfl⟩
     replace H : (if 0 ≤ (oM) then (if (oM) < (S4.size : Int) then ((fG.f (bt S4 (oM))).bind fun qI => (if cO.length < 140737488355328 then (bA.l0 k1 (cO ++ [qI]) S4 (wrap64 (bZ + 2))) else (none))) else (none)) else (none)) = some r := by first | (rw [qJ] at H; exact H) | (simp only [qJ] at H ⊢; exact H)
     (try rw [qJ] at A8)
     have hji28w : (IntKind.i64.wrap (bZ + 1)) = oM := (i64_w _).trans qJ
     revert H; refine sNd1 fun Iq H => ?_
     revert H; refine sNd1 fun Eo H => ?_
     revert H; refine bnd ?_; rintro qI Qw H
     revert H; refine sNk fun c33 H => ?_
     have Ir := ab c33
     clear c33
     obtain ⟨Iu, hy314⟩ : ∃ y_ : List Int, y_ = (cO ++ [qI]) := ⟨_, rfl⟩
     replace H : (bA.l0 k1 Iu S4 (wrap64 (bZ + 2))) = some r := by first | (rw [hy314]; with_reducible exact H) | (have H2_ := (al _ _).symm.trans H; rw [hy314]; with_reducible exact H2_) | (have H2_ := (al _ _).symm.trans H; with_reducible exact H2_) | with_reducible exact H | (rw [hy314]; exact H) | exact H
     have Iv := ab hy314
     clear hy314
     focus
      have H' := ab H
      clear H
      have p6 := ag (ac Z6 : 0 ≤ (bZ : Int))
      have q6 := ag (ac Z6 : bZ < (S4.size : Int))
      have hx6 := bt_at S4 bZ
      exact Z2
    revert H; refine sNk fun c36 H => ?_
    have Iw := ab c36
    clear c36
    obtain ⟨Ix, hy308⟩ : ∃ y_ : List Int, y_ = (cO ++ [bt S4 bZ]) := ⟨_, rfl⟩
    replace H : (bA.l0 k1 Ix S4 (wrap64 (bZ + 1))) = some r := by first | (rw [hy308]; with_reducible exact H) | (have H2_ := (al _ _).symm.trans H; rw [hy308]; with_reducible exact H2_) | (have H2_ := (al _ _).symm.trans H; with_reducible exact H2_) | with_reducible exact H | (rw [hy308]; exact H) | exact H
    have Iy := ab hy308
    clear hy308
    focus
     have H' := ab H
     clear H
     have p6 := ag (ac Z6 : 0 ≤ (bZ : Int))
     have q6 := ag (ac Z6 : bZ < (S4.size : Int))
     have hx6 := bt_at S4 bZ
     have p35 := ag (ac Z6 : 0 ≤ (bZ : Int))
     have q35 := ag (ac Z6 : bZ < (S4.size : Int))
     have hx35 := bt_at S4 bZ
     exact Z2
   focus
    obtain rfl := au H
    have hcv38 := own_string (P := Tryz.prog) Tryz.underlying86 Tryz.underlying5 Tryz.underlying9 (Kd.own_of_R jG.out)
    go_wp2
    go_ret
    exact ⟨Z8, zB⟩
end
section
open Go.RowKit Go.PW Go.PL Go.PM
attribute [local go_sem] run_store_float max2_int min2_int max_two min_two max_three min_three max_four min_four
set_option linter.unusedVariables false
set_option linter.unusedSimpArgs false
def er39 (x : S39) : S39 := { x with f3 := 0 }
def er41 (x : S41) : S41 := ⟨⟨0, ⟨#[]⟩, x.f0.f2, 0, false⟩, er39 x.f1⟩
structure nJ where
 f : Nat → ByteArray → Option ((List (S41)))
 mono : ∀ a0 k, LeO (f k a0) (f (k + 1) a0)
 calls : ∀ (k : Nat) (a0 : ByteArray) (r : List (S41)) (w : World) (h : f k a0 = some r) (hW : Wok w),
  Calls Tryz.prog 8 #[.string a0] w fun e w' => ∃ (v0_ : Value) (T_ : List S41), e = .returned (v0_) ∧ T_.map er41 = r.map er41 ∧ Kd.R k41 41 w' w.heap.size (fun _ => True) v0_ T_ ∧ Below w.heap.size w w'
structure tJ where
 xR : nJ
def bR.f (a0 : Int) : Option (Int) := if a0 = 1 then (some 1) else (if a0 = 3 then (some 2) else (if a0 = 4 then (some 3) else (if a0 = 2 then (some 4) else (if a0 = 5 then (some 5) else (if a0 = 6 then (some 5) else (some 0))))))
set_option maxHeartbeats 8000000 in
set_option maxRecDepth 100000 in
theorem bR.calls (a0 : Int) (r : Int) (w : World) (h : bR.f a0 = some r) :
 Calls Tryz.prog 25 #[.int .i64 a0] w fun e w' => e = .returned (.int .i64 r) ∧ Drawn0 w w' := by
 have H : (if a0 = 1 then (some 1) else (if a0 = 3 then (some 2) else (if a0 = 4 then (some 3) else (if a0 = 2 then (some 4) else (if a0 = 5 then (some 5) else (if a0 = 6 then (some 5) else (some 0))))))) = some r := h
 clear h
 revert H; refine sIe1n0_e0n1 (fun gS mX H => ?_) fun gS mX H => ?_
 ·focus
   obtain rfl := au H
   go_enter Tryz.func25, Tryz.ntmps25
   go_wp2
   go_ret
   exact ⟨Z7, Z10⟩
 revert H; refine sIe1n0_e0n1 (fun dY kR H => ?_) fun dY kR H => ?_
 ·focus
   obtain rfl := au H
   go_enter Tryz.func25, Tryz.ntmps25
   go_wp2
   go_ret
   exact ⟨Z7, Z10⟩
 revert H; refine sIe1n0_e0n1 (fun gY xS H => ?_) fun gY xS H => ?_
 ·focus
   obtain rfl := au H
   go_enter Tryz.func25, Tryz.ntmps25
   go_wp2
   go_ret
   exact ⟨Z7, Z10⟩
 revert H; refine sIe1n0_e0n1 (fun iO qQ H => ?_) fun iO qQ H => ?_
 ·focus
   obtain rfl := au H
   go_enter Tryz.func25, Tryz.ntmps25
   go_wp2
   go_ret
   exact ⟨Z7, Z10⟩
 revert H; refine sIe1n0_e0n1 (fun eI mL H => ?_) fun eI mL H => ?_
 ·focus
   obtain rfl := au H
   go_enter Tryz.func25, Tryz.ntmps25
   go_wp2
   go_ret
   exact ⟨Z7, Z10⟩
 revert H; refine sIe1n0_e0n1 (fun iH kM H => ?_) fun iH kM H => ?_
 ·focus
   obtain rfl := au H
   go_enter Tryz.func25, Tryz.ntmps25
   go_wp2
   go_ret
   exact ⟨Z7, Z10⟩
 focus
  obtain rfl := au H
  go_enter Tryz.func25, Tryz.ntmps25
  go_wp2
  go_ret
  exact ⟨Z7, Z10⟩
end
end Go.Proofs.YtkjnahgicfmicaaGreatDoor.Sp

import Derived.Test.YtkbeiidjagodnaaPrx8c
import Derived.Test.YtkbeiidjagodnaaHand1
namespace Go.Proofs.Ytkbeiidjagodnaa.Pr
open Go.RowKit Go.Proofs.YtkbeiidjagodnaaW.PrintWords Go.Proofs.YtkbeiidjagodnaaW.PrintLast Go.Proofs.YtkbeiidjagodnaaW.PrintMore
set_option linter.unusedVariables false
/-- pretty's PrettyOptions, without sorting, as a plain function. -/
def popts (V : H_pAny) (k : Nat) (x : List Int) (wd : Int) (pre ind : ByteArray) : Option (List Int) :=
  if pre.size ≤ 140737488355328 then (V.f k (bytesOf pre) x 0 true wd pre ind false 0 0 (-1)).bind fun r => if r.1.length < 140737488355328 then some (if 0 < r.1.length then r.1 ++ [10] else r.1) else none else none

theorem bytesV (W : World) (s : ByteArray) (base : Nat) (hs : s.size ≤ 9223372036854775807) :
    Kd.V (Kd.int .u8) 5 (Lib.bytesWorld W 5 s) base (fun k => k = W.heap.size) (.slice (some ⟨W.heap.size, 0, none⟩) (bytesOf s).length (grownCap W s.size 0 5)) (bytesOf s) := by
  refine Kd.V_mk ?_ ?_
  · rw [bytesOf_length]; exact grownCap_ge W s.size 0 5
  · intro W' h
    have hz := h W.heap.size rfl (by rw [Lib.bytesWorld_size]; omega)
    have hr := bytes_reads W 5 s hs
    refine Kd.C_of_reads (enc := Value.int .u8) (d := (0 : Int)) (h1 := fun _ => rfl) ⟨rfl, by rw [bytesOf_length]; exact hs, fun hn => ?_⟩
    obtain ⟨ad, e, hc⟩ := hr.2.2 (by rw [bytesOf_length] at hn; exact hn)
    refine ⟨ad, e, fun j hj => ?_⟩
    have h1 := hc j (by rw [bytesOf_length] at hj; exact hj)
    injection e with e
    subst e
    rw [add_plain] at h1 ⊢
    rw [← h1]
    unfold World.cell?
    rw [hz]
theorem blk_grown4 {w w1 : World} {B : Nat} {o : Obj} {row : Option Nat} (h : w.heap[B]? = some o) (hg : w.grownBy w1 row) (hne : some B ≠ row) : w1.heap[B]? = some o := by
  rw [hg.block B (Array.getElem?_eq_some_iff.1 h).1 hne]; exact h
theorem V_low {α : Type} {d : Kd α} {e base : Nat} {w W1 : World} {v : Value} {xs : List α} {q : Nat → Prop} {N : Nat} (h : Kd.V d e w base (fun k => k < N) v xs) (hb : Below N w W1) (hq : ∀ k, k < N → q k) : Kd.V d e W1 base q v xs := by
  obtain ⟨A, c, hv, hl, hf⟩ := h
  refine ⟨A, c, hv, hl, fun W' hW => hf W' fun k hk hlt => ?_⟩
  have h1 := hb.block k hk
  rw [hW k (hq k hk) (Nat.lt_of_lt_of_le hlt hb.size), h1]
set_option maxHeartbeats 2000000 in
set_option maxRecDepth 100000 in
theorem popts_calls (V : H_pAny) (k : Nat) (x : List Int) (A1 : Option Addr) (c1 : Nat) (wd : Int) (pre ind : ByteArray) (r : List Int) (B : Nat) (w0 w : World) (hB : Below w0.heap.size w0 w) (hx : x.length ≤ 140737488355328)
    (hs1 : Kd.V (Kd.int .u8) 5 w w0.heap.size (fun k_ => k_ < w.heap.size) (.slice A1 x.length c1) x)
    (hz : w.heap[B]? = some (.cells #[.int .i64 wd, .string pre, .string ind, .bool false] 42 (0, 0))) (h : popts V k x wd pre ind = some r) :
    Calls Try.prog 16 #[.slice A1 x.length c1, .pointer (some ⟨B, 0, none⟩)] w fun e w' => ∃ v, e = .returned v ∧ Kd.R (Kd.int .u8) 5 w' w0.heap.size (fun _ => True) v r ∧ Below w0.heap.size w0 w' := by
  unfold popts at h
  split at h
  case isFalse => cases h
  rename_i hpre
  obtain ⟨⟨r1, r2, r3, r4⟩, h1, h⟩ := Option.bind_eq_some_iff.mp h
  simp only at h
  split at h
  case isFalse => cases h
  rename_i hr1
  simp only [Option.some.injEq] at h
  subst h
  have H := Aside0.mk h1
  have HL := Aside0.mk hr1
  have HP := Aside0.mk hpre
  have hu41 := Try.underlying41
  obtain ⟨i5, hi5, hz0, hz1, hz2⟩ := info_parts info5
  have hu42 := Try.underlying42
  have HS := Aside0.mk hs1
  have HB := Aside0.mk hB
  have HZ := Aside0.mk hz
  have HX := Aside0.mk hx
  clear hs1 hB hz h1 hx hr1 hpre
  rcases Nat.eq_zero_or_pos pre.size with hp0 | hp0
  · have hb0 : bytesOf pre = [] := List.eq_nil_of_length_eq_zero (by rw [bytesOf_length]; exact hp0)
    replace H := Aside0.mk (show V.f k [] x 0 true wd pre ind false 0 0 (-1) = some (r1, r2, r3, r4) by rw [← hb0]; exact H.out)
    rcases Nat.eq_zero_or_pos r1.length with h0 | h0
    · rw [if_neg (show ¬ 0 < r1.length by omega)]
      have hc1 : ((pre.size : Int) != 0) = false := bne_eq_false_iff_eq.mpr (by omega)
      have hc2 : decide ((0 : Int) < (r1.length : Int)) = false := decide_eq_false (by omega)
      have hc3 : decide (0 < r1.length) = false := decide_eq_false (by omega)
      clear h0 hp0
      go_enter Try.func16, Try.ntmps16
      go_upto_region 6 with (first | ((at_make; refine wpList_make_own _ rfl _ _ 39 rfl w0.heap.size 5 i5 (.int .u8 0) 1 Try.underlying39 hi5 hz0 hz1 _ _ _ x.length rfl rfl rfl Z166 Z151 (below_size HB.out) ?_; intro w1 ho hg; have HZ1 := Aside0.mk (blk_grown4 HZ.out hg (by simp)); have hcz0 : w1.cell? ⟨B, 0, none⟩ = some (.int .i64 wd) := (blk_cell HZ1.out 0).trans rfl; have hcz1 : w1.cell? ⟨B, 1, none⟩ = some (.string pre) := (blk_cell HZ1.out 1).trans rfl; have hcz2 : w1.cell? ⟨B, 2, none⟩ = some (.string ind) := (blk_cell HZ1.out 2).trans rfl; have hcz3 : w1.cell? ⟨B, 3, none⟩ = some (.bool false) := (blk_cell HZ1.out 3).trans rfl; have HR := Aside0.mk (Kd.R_of_own (h1 := fun _ => rfl) (ok := fun k_ => w.heap.size ≤ k_) (xs := ([] : List Int)) (enc := Value.int .u8) ho (fun k hk => Z158)); have HB1 := Aside0.mk (HB.out.grown hg (below_size HB.out) (by simp)); have HW1 := Aside0.mk ((Below.refl w.heap.size w).grown hg (Nat.le_refl _) (by simp)); clear ho hg)))
      go_region_held3 (fun w' => w'.cell? ⟨B, 0, none⟩ = some (.int .i64 wd) ∧ w'.cell? ⟨B, 1, none⟩ = some (.string pre) ∧ w'.cell? ⟨B, 2, none⟩ = some (.string ind) ∧ w'.cell? ⟨B, 3, none⟩ = some (.bool false)) (first | exact ⟨hcz0, hcz1, hcz2, hcz3⟩ | exact ⟨hcy0, hcy1, hcy2, hcy3⟩) (first | (go_at_call 21; refine (V.calls k (fun k_ => w.heap.size ≤ k_) _ [] (fun k_ => k_ < w.heap.size) A1 c1 x 0 true wd pre ind false 0 0 (-1) r1 r2 r3 r4 w0 _ (below_drew1 HB1.out) (Kd.R_drew HR.out) (Kd.V_drew (V_low HS.out HW1.out (fun k_ hk_ => ⟨hk_, fun e_ => by have := HR.out.1 k_ e_.symm; omega⟩))) H.out).mono ?_; rintro e w3 ⟨v3, rfl, ho, hb, hk⟩; have HR3 := Aside0.mk ho; have HB3 := Aside0.mk hb; have HZ3 := Aside0.mk (show w3.heap[B]? = some (.cells #[.int .i64 wd, .string pre, .string ind, .bool false] 42 (0, 0)) from (hk.2 B (Array.getElem?_eq_some_iff.1 HZ1.out).1 (fun e_ => Z136)).trans HZ1.out); have hcy0 : w3.cell? ⟨B, 0, none⟩ = some (.int .i64 wd) := (blk_cell HZ3.out 0).trans rfl; have hcy1 : w3.cell? ⟨B, 1, none⟩ = some (.string pre) := (blk_cell HZ3.out 1).trans rfl; have hcy2 : w3.cell? ⟨B, 2, none⟩ = some (.string ind) := (blk_cell HZ3.out 2).trans rfl; have hcy3 : w3.cell? ⟨B, 3, none⟩ = some (.bool false) := (blk_cell HZ3.out 3).trans rfl; obtain ⟨A3, c3, e3_⟩ := Kd.R_slice ho; subst e3_; clear ho hb hk))
      go_wp2_with (fail)
      first | go_ret | skip
      exact ⟨.slice A3 r1.length c3, rfl, Kd.R_mono HR3.out (fun _ _ => trivial), HB3.out⟩
    · rw [if_pos (show 0 < r1.length by omega)]
      have hc1 : ((pre.size : Int) != 0) = false := bne_eq_false_iff_eq.mpr (by omega)
      have hc2 : decide ((0 : Int) < (r1.length : Int)) = true := decide_eq_true (by omega)
      have hc3 : decide (0 < r1.length) = true := decide_eq_true (by omega)
      clear h0 hp0
      go_enter Try.func16, Try.ntmps16
      go_upto_region 6 with (first | ((at_make; refine wpList_make_own _ rfl _ _ 39 rfl w0.heap.size 5 i5 (.int .u8 0) 1 Try.underlying39 hi5 hz0 hz1 _ _ _ x.length rfl rfl rfl Z166 Z151 (below_size HB.out) ?_; intro w1 ho hg; have HZ1 := Aside0.mk (blk_grown4 HZ.out hg (by simp)); have hcz0 : w1.cell? ⟨B, 0, none⟩ = some (.int .i64 wd) := (blk_cell HZ1.out 0).trans rfl; have hcz1 : w1.cell? ⟨B, 1, none⟩ = some (.string pre) := (blk_cell HZ1.out 1).trans rfl; have hcz2 : w1.cell? ⟨B, 2, none⟩ = some (.string ind) := (blk_cell HZ1.out 2).trans rfl; have hcz3 : w1.cell? ⟨B, 3, none⟩ = some (.bool false) := (blk_cell HZ1.out 3).trans rfl; have HR := Aside0.mk (Kd.R_of_own (h1 := fun _ => rfl) (ok := fun k_ => w.heap.size ≤ k_) (xs := ([] : List Int)) (enc := Value.int .u8) ho (fun k hk => Z158)); have HB1 := Aside0.mk (HB.out.grown hg (below_size HB.out) (by simp)); have HW1 := Aside0.mk ((Below.refl w.heap.size w).grown hg (Nat.le_refl _) (by simp)); clear ho hg)))
      go_region_held3 (fun w' => w'.cell? ⟨B, 0, none⟩ = some (.int .i64 wd) ∧ w'.cell? ⟨B, 1, none⟩ = some (.string pre) ∧ w'.cell? ⟨B, 2, none⟩ = some (.string ind) ∧ w'.cell? ⟨B, 3, none⟩ = some (.bool false)) (first | exact ⟨hcz0, hcz1, hcz2, hcz3⟩ | exact ⟨hcy0, hcy1, hcy2, hcy3⟩) (first | (go_at_call 21; refine (V.calls k (fun k_ => w.heap.size ≤ k_) _ [] (fun k_ => k_ < w.heap.size) A1 c1 x 0 true wd pre ind false 0 0 (-1) r1 r2 r3 r4 w0 _ (below_drew1 HB1.out) (Kd.R_drew HR.out) (Kd.V_drew (V_low HS.out HW1.out (fun k_ hk_ => ⟨hk_, fun e_ => by have := HR.out.1 k_ e_.symm; omega⟩))) H.out).mono ?_; rintro e w3 ⟨v3, rfl, ho, hb, hk⟩; have HR3 := Aside0.mk ho; have HB3 := Aside0.mk hb; have HZ3 := Aside0.mk (show w3.heap[B]? = some (.cells #[.int .i64 wd, .string pre, .string ind, .bool false] 42 (0, 0)) from (hk.2 B (Array.getElem?_eq_some_iff.1 HZ1.out).1 (fun e_ => Z136)).trans HZ1.out); have hcy0 : w3.cell? ⟨B, 0, none⟩ = some (.int .i64 wd) := (blk_cell HZ3.out 0).trans rfl; have hcy1 : w3.cell? ⟨B, 1, none⟩ = some (.string pre) := (blk_cell HZ3.out 1).trans rfl; have hcy2 : w3.cell? ⟨B, 2, none⟩ = some (.string ind) := (blk_cell HZ3.out 2).trans rfl; have hcy3 : w3.cell? ⟨B, 3, none⟩ = some (.bool false) := (blk_cell HZ3.out 3).trans rfl; obtain ⟨A3, c3, e3_⟩ := Kd.R_slice ho; subst e3_; clear ho hb hk))
      go_wp2_with (((with_reducible refine gate_builtin (b := .append) (xs := #[.tmp 52, .tmp 53]) rfl ?_); at_builtin; refine Kd.R_append (Kd.int .u8) (w0 := w0) w0.heap.size rfl (.tmp 52) (.tmp 53) 39 5 (.int .u8 0) 1 rfl Try.underlying39 info5 rfl (by decide) (by omega) (.slice A3 r1.length c3) r1 10 [.int .u8 10] (fun _ => True) (fun _ => False) rfl rfl ?aP (fun _ hk => hk.elim) ?aF ?aO ?aB ?aS ?aL ?_; (case aP => exact rfl); (case aB => exact Z91); (case aF => exact fun _ _ => trivial); (case aO => exact Z128); (case aS => exact (below_size Z91)); (case aL => have := HL.out; omega); intro v4 w4 ho hb hg hat; have HR4 := Aside0.mk ho; have HB4 := Aside0.mk hb; obtain ⟨A4, c4, e4_⟩ := Kd.R_slice ho; subst e4_; clear ho hb hg hat))
      first | go_ret | skip
      exact ⟨.slice A4 (r1.length + 1) c4, rfl, Z132, HB4.out⟩
  · skip
    rcases Nat.eq_zero_or_pos r1.length with h0 | h0
    · rw [if_neg (show ¬ 0 < r1.length by omega)]
      have hc1 : ((pre.size : Int) != 0) = true := bne_iff_ne.mpr (by omega)
      have hc2 : decide ((0 : Int) < (r1.length : Int)) = false := decide_eq_false (by omega)
      have hc3 : decide (0 < r1.length) = false := decide_eq_false (by omega)
      clear h0 hp0
      go_enter Try.func16, Try.ntmps16
      go_upto_region 6 with (first | ((at_make; refine wpList_make_own _ rfl _ _ 39 rfl w0.heap.size 5 i5 (.int .u8 0) 1 Try.underlying39 hi5 hz0 hz1 _ _ _ x.length rfl rfl rfl Z166 Z151 (below_size HB.out) ?_; intro w1 ho hg; have HZ1 := Aside0.mk (blk_grown4 HZ.out hg (by simp)); have hcz0 : w1.cell? ⟨B, 0, none⟩ = some (.int .i64 wd) := (blk_cell HZ1.out 0).trans rfl; have hcz1 : w1.cell? ⟨B, 1, none⟩ = some (.string pre) := (blk_cell HZ1.out 1).trans rfl; have hcz2 : w1.cell? ⟨B, 2, none⟩ = some (.string ind) := (blk_cell HZ1.out 2).trans rfl; have hcz3 : w1.cell? ⟨B, 3, none⟩ = some (.bool false) := (blk_cell HZ1.out 3).trans rfl; have HR := Aside0.mk (Kd.R_of_own (h1 := fun _ => rfl) (ok := fun k_ => w.heap.size ≤ k_) (xs := ([] : List Int)) (enc := Value.int .u8) ho (fun k hk => Z158)); have HB1 := Aside0.mk (HB.out.grown hg (below_size HB.out) (by simp)); have HW1 := Aside0.mk ((Below.refl w.heap.size w).grown hg (Nat.le_refl _) (by simp)); clear ho hg)) | ((with_reducible refine gate_builtin (b := .append) (xs := #[.tmp 19, .tmp 23]) rfl ?_); at_builtin; refine Kd.R_append_str (w0 := w0) w0.heap.size rfl (.tmp 19) (.tmp 23) 39 9 5 rfl Try.underlying39 Try.underlying9 info5 (.slice (some ⟨w.heap.size, 0, none⟩) 0 x.length) [] pre (fun k_ => w.heap.size ≤ k_) rfl rfl (fun k hk => Nat.le_trans HW1.out.size hk) HR.out HB1.out (below_size HB1.out) (by have := HP.out; simp; omega) ?_; intro v2 w2 ho hb hg hat; have HZ2 := Aside0.mk (blk_grown4 HZ1.out hg (fun e_ => Z153)); clear hcz0 hcz1 hcz2 hcz3; have hcz0 : w2.cell? ⟨B, 0, none⟩ = some (.int .i64 wd) := (blk_cell HZ2.out 0).trans rfl; have hcz1 : w2.cell? ⟨B, 1, none⟩ = some (.string pre) := (blk_cell HZ2.out 1).trans rfl; have hcz2 : w2.cell? ⟨B, 2, none⟩ = some (.string ind) := (blk_cell HZ2.out 2).trans rfl; have hcz3 : w2.cell? ⟨B, 3, none⟩ = some (.bool false) := (blk_cell HZ2.out 3).trans rfl; have HR2 := Aside0.mk ho; have HB2 := Aside0.mk hb; have HW2 := Aside0.mk (HW1.out.grown hg HW1.out.size (fun k e_ => HR.out.1 k e_)); obtain ⟨A2, c2, e2_⟩ := Kd.R_slice ho; subst e2_; clear ho hb hg hat))
      go_region_held3 (fun w' => w'.cell? ⟨B, 0, none⟩ = some (.int .i64 wd) ∧ w'.cell? ⟨B, 1, none⟩ = some (.string pre) ∧ w'.cell? ⟨B, 2, none⟩ = some (.string ind) ∧ w'.cell? ⟨B, 3, none⟩ = some (.bool false)) (first | exact ⟨hcz0, hcz1, hcz2, hcz3⟩ | exact ⟨hcy0, hcy1, hcy2, hcy3⟩) (first | (go_at_call 21; refine (V.calls k (fun k_ => w.heap.size ≤ k_) _ (bytesOf pre) (fun k_ => k_ < w.heap.size) A1 c1 x 0 true wd pre ind false 0 0 (-1) r1 r2 r3 r4 w0 _ (below_drew1 HB2.out) (Kd.R_drew HR2.out) (Kd.V_drew (V_low HS.out HW2.out (fun k_ hk_ => ⟨hk_, fun e_ => by have := HR2.out.1 k_ e_.symm; omega⟩))) H.out).mono ?_; rintro e w3 ⟨v3, rfl, ho, hb, hk⟩; have HR3 := Aside0.mk ho; have HB3 := Aside0.mk hb; have HZ3 := Aside0.mk (show w3.heap[B]? = some (.cells #[.int .i64 wd, .string pre, .string ind, .bool false] 42 (0, 0)) from (hk.2 B (Array.getElem?_eq_some_iff.1 HZ2.out).1 (fun e_ => Z136)).trans HZ2.out); have hcy0 : w3.cell? ⟨B, 0, none⟩ = some (.int .i64 wd) := (blk_cell HZ3.out 0).trans rfl; have hcy1 : w3.cell? ⟨B, 1, none⟩ = some (.string pre) := (blk_cell HZ3.out 1).trans rfl; have hcy2 : w3.cell? ⟨B, 2, none⟩ = some (.string ind) := (blk_cell HZ3.out 2).trans rfl; have hcy3 : w3.cell? ⟨B, 3, none⟩ = some (.bool false) := (blk_cell HZ3.out 3).trans rfl; obtain ⟨A3, c3, e3_⟩ := Kd.R_slice ho; subst e3_; clear ho hb hk))
      go_wp2_with (fail)
      first | go_ret | skip
      exact ⟨.slice A3 r1.length c3, rfl, Kd.R_mono HR3.out (fun _ _ => trivial), HB3.out⟩
    · rw [if_pos (show 0 < r1.length by omega)]
      have hc1 : ((pre.size : Int) != 0) = true := bne_iff_ne.mpr (by omega)
      have hc2 : decide ((0 : Int) < (r1.length : Int)) = true := decide_eq_true (by omega)
      have hc3 : decide (0 < r1.length) = true := decide_eq_true (by omega)
      clear h0 hp0
      go_enter Try.func16, Try.ntmps16
      go_upto_region 6 with (first | ((at_make; refine wpList_make_own _ rfl _ _ 39 rfl w0.heap.size 5 i5 (.int .u8 0) 1 Try.underlying39 hi5 hz0 hz1 _ _ _ x.length rfl rfl rfl Z166 Z151 (below_size HB.out) ?_; intro w1 ho hg; have HZ1 := Aside0.mk (blk_grown4 HZ.out hg (by simp)); have hcz0 : w1.cell? ⟨B, 0, none⟩ = some (.int .i64 wd) := (blk_cell HZ1.out 0).trans rfl; have hcz1 : w1.cell? ⟨B, 1, none⟩ = some (.string pre) := (blk_cell HZ1.out 1).trans rfl; have hcz2 : w1.cell? ⟨B, 2, none⟩ = some (.string ind) := (blk_cell HZ1.out 2).trans rfl; have hcz3 : w1.cell? ⟨B, 3, none⟩ = some (.bool false) := (blk_cell HZ1.out 3).trans rfl; have HR := Aside0.mk (Kd.R_of_own (h1 := fun _ => rfl) (ok := fun k_ => w.heap.size ≤ k_) (xs := ([] : List Int)) (enc := Value.int .u8) ho (fun k hk => Z158)); have HB1 := Aside0.mk (HB.out.grown hg (below_size HB.out) (by simp)); have HW1 := Aside0.mk ((Below.refl w.heap.size w).grown hg (Nat.le_refl _) (by simp)); clear ho hg)) | ((with_reducible refine gate_builtin (b := .append) (xs := #[.tmp 19, .tmp 23]) rfl ?_); at_builtin; refine Kd.R_append_str (w0 := w0) w0.heap.size rfl (.tmp 19) (.tmp 23) 39 9 5 rfl Try.underlying39 Try.underlying9 info5 (.slice (some ⟨w.heap.size, 0, none⟩) 0 x.length) [] pre (fun k_ => w.heap.size ≤ k_) rfl rfl (fun k hk => Nat.le_trans HW1.out.size hk) HR.out HB1.out (below_size HB1.out) (by have := HP.out; simp; omega) ?_; intro v2 w2 ho hb hg hat; have HZ2 := Aside0.mk (blk_grown4 HZ1.out hg (fun e_ => Z153)); clear hcz0 hcz1 hcz2 hcz3; have hcz0 : w2.cell? ⟨B, 0, none⟩ = some (.int .i64 wd) := (blk_cell HZ2.out 0).trans rfl; have hcz1 : w2.cell? ⟨B, 1, none⟩ = some (.string pre) := (blk_cell HZ2.out 1).trans rfl; have hcz2 : w2.cell? ⟨B, 2, none⟩ = some (.string ind) := (blk_cell HZ2.out 2).trans rfl; have hcz3 : w2.cell? ⟨B, 3, none⟩ = some (.bool false) := (blk_cell HZ2.out 3).trans rfl; have HR2 := Aside0.mk ho; have HB2 := Aside0.mk hb; have HW2 := Aside0.mk (HW1.out.grown hg HW1.out.size (fun k e_ => HR.out.1 k e_)); obtain ⟨A2, c2, e2_⟩ := Kd.R_slice ho; subst e2_; clear ho hb hg hat))
      go_region_held3 (fun w' => w'.cell? ⟨B, 0, none⟩ = some (.int .i64 wd) ∧ w'.cell? ⟨B, 1, none⟩ = some (.string pre) ∧ w'.cell? ⟨B, 2, none⟩ = some (.string ind) ∧ w'.cell? ⟨B, 3, none⟩ = some (.bool false)) (first | exact ⟨hcz0, hcz1, hcz2, hcz3⟩ | exact ⟨hcy0, hcy1, hcy2, hcy3⟩) (first | (go_at_call 21; refine (V.calls k (fun k_ => w.heap.size ≤ k_) _ (bytesOf pre) (fun k_ => k_ < w.heap.size) A1 c1 x 0 true wd pre ind false 0 0 (-1) r1 r2 r3 r4 w0 _ (below_drew1 HB2.out) (Kd.R_drew HR2.out) (Kd.V_drew (V_low HS.out HW2.out (fun k_ hk_ => ⟨hk_, fun e_ => by have := HR2.out.1 k_ e_.symm; omega⟩))) H.out).mono ?_; rintro e w3 ⟨v3, rfl, ho, hb, hk⟩; have HR3 := Aside0.mk ho; have HB3 := Aside0.mk hb; have HZ3 := Aside0.mk (show w3.heap[B]? = some (.cells #[.int .i64 wd, .string pre, .string ind, .bool false] 42 (0, 0)) from (hk.2 B (Array.getElem?_eq_some_iff.1 HZ2.out).1 (fun e_ => Z136)).trans HZ2.out); have hcy0 : w3.cell? ⟨B, 0, none⟩ = some (.int .i64 wd) := (blk_cell HZ3.out 0).trans rfl; have hcy1 : w3.cell? ⟨B, 1, none⟩ = some (.string pre) := (blk_cell HZ3.out 1).trans rfl; have hcy2 : w3.cell? ⟨B, 2, none⟩ = some (.string ind) := (blk_cell HZ3.out 2).trans rfl; have hcy3 : w3.cell? ⟨B, 3, none⟩ = some (.bool false) := (blk_cell HZ3.out 3).trans rfl; obtain ⟨A3, c3, e3_⟩ := Kd.R_slice ho; subst e3_; clear ho hb hk))
      go_wp2_with (((with_reducible refine gate_builtin (b := .append) (xs := #[.tmp 52, .tmp 53]) rfl ?_); at_builtin; refine Kd.R_append (Kd.int .u8) (w0 := w0) w0.heap.size rfl (.tmp 52) (.tmp 53) 39 5 (.int .u8 0) 1 rfl Try.underlying39 info5 rfl (by decide) (by omega) (.slice A3 r1.length c3) r1 10 [.int .u8 10] (fun _ => True) (fun _ => False) rfl rfl ?aP (fun _ hk => hk.elim) ?aF ?aO ?aB ?aS ?aL ?_; (case aP => exact rfl); (case aB => exact Z91); (case aF => exact fun _ _ => trivial); (case aO => exact Z128); (case aS => exact (below_size Z91)); (case aL => have := HL.out; omega); intro v4 w4 ho hb hg hat; have HR4 := Aside0.mk ho; have HB4 := Aside0.mk hb; obtain ⟨A4, c4, e4_⟩ := Kd.R_slice ho; subst e4_; clear ho hb hg hat))
      first | go_ret | skip
      exact ⟨.slice A4 (r1.length + 1) c4, rfl, Z132, HB4.out⟩

end Go.Proofs.Ytkbeiidjagodnaa.Pr

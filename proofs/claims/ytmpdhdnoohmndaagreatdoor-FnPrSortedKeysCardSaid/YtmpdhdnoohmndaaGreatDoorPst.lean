import Derived.Test.YtmpdhdnoohmndaaGreatDoorApp
namespace Go.Proofs.YtmpdhdnoohmndaaGreatDoor.Pr
set_option maxHeartbeats 4000000
set_option maxRecDepth 100000
open Go.RowKit Go.Proofs.YtmpdhdnoohmndaaGreatDoorW.PrintWords Go.Proofs.YtmpdhdnoohmndaaGreatDoorW.PrintLast Go.Proofs.YtmpdhdnoohmndaaGreatDoorW.PrintMore Sp
set_option linter.unusedVariables false
set_option linter.unusedSimpArgs false
structure Js (w : World) (P0 : Nat → Prop) (J cj : Nat) (jl : List Int) : Prop where
 c : ∀ q, q < jl.length → w.cell? ⟨J, q, none⟩ = some (.int .u8 (jl.getD q 0))
 lt : J < w.heap.size
 ne : ¬ P0 J
 hc : jl.length ≤ cj ∧ True ∧ jl.length ≤ 4096
theorem addB {B q : Nat} : (⟨B, 0, none⟩ : Addr).add q = ⟨B, q, none⟩ := by
 unfold Addr.add
 split
 ·next e => subst e; rfl
 ·simp
section
variable {w W : World} {P0 : Nat → Prop} {J cj : Nat} {jl : List Int}
theorem Js.kept (h : Js w P0 J cj jl) (k : Kept w W P0) : Js W P0 J cj jl :=
 ⟨fun q hq => (World.cell?_of_block (w := w) (k.2 J h.lt h.ne)).trans (h.c q hq), Nat.lt_of_lt_of_le h.lt k.1, h.ne, h.hc⟩
theorem Js.C (h : Js w P0 J cj jl) : Kd.C (Kd.int .u8) w (some ⟨J, 0, none⟩) jl.length jl :=
 Kd.C_of_reads (enc := Value.int .u8) (d := (0 : Int)) (h1 := fun _ => rfl) ⟨rfl, by have := h.hc; omega, fun _ => ⟨_, rfl, fun q hq => by rw [addB]; exact h.c q hq⟩⟩
end
theorem pstr_calls {w0 w : World} {P0 : Nat → Prop} {u : Value} {l jl : List Int} {J cj : Nat} (HB : Bs w0 w P0 w u l) (HJ : Js w P0 J cj jl) (i e : Nat) (nl : Int) {x : Int} (hx : x = i) (h1 : i < e) (h2 : e < jl.length) (hm : ∀ q, i < q → q < e → jl.getD q 0 ≠ 34 ∧ jl.getD q 0 ≠ 92) (he : jl.getD e 0 = 34) (hl : l.length ≤ 10000000000) :
  Calls Tryz.prog 46 #[u, .slice (some ⟨J, 0, none⟩) jl.length cj, .int .i64 x, .int .i64 nl] w fun r w' => ∃ v1, r = .returned (.tuple #[v1, .int .i64 ((e + 1 : Nat) : Int), .int .i64 nl, .bool true]) ∧ Bs w0 w P0 w' v1 (l ++ (jl.take (e + 1)).drop i) := by
 subst hx
 have hc := HJ.hc
 obtain ⟨i5, hi5, hz0, hz1, hz2⟩ := info_parts info5
 obtain ⟨A', hcut, hrd, hcc⟩ := print_mid_int (P := Tryz.prog) (k := .u8) 51 5 Tryz.underlying51 hi5 hz1 (some ⟨J, 0, none⟩) cj jl (i : Int) ((e + 1 : Nat) : Int) (by omega) (by omega) (by omega) hc.1
 simp only [Int.toNat_natCast] at hcut hrd
 have hC := Kd.C_of_reads (enc := Value.int .u8) (d := (0 : Int)) (h1 := fun _ => rfl) (hrd _ (Kd.reads_of_C (enc := Value.int .u8) (d := (0 : Int)) (h1 := fun _ => rfl) HJ.C))
 obtain ⟨y, hy⟩ : ∃ y, (jl.take (e + 1)).drop i = y := ⟨_, rfl⟩
 rw [hy] at hcut hC ⊢
 have hyl : y.length ≤ 1000000 := by rw [← hy, List.length_drop, List.length_take]; omega
 have HS := aa HB
 have HC := aa hC
 have HJs := aa HJ
 have HM := aa (And.intro hm he)
 have L := aa (show l.length + y.length ≤ 100000000000000 by omega)
 obtain ⟨E, hE⟩ : ∃ E : Int, ((e + 1 : Nat) : Int) = E := ⟨_, rfl⟩
 have HE := aa hE
 rw [hE] at hcut ⊢
 clear HB hC HJ hm he hrd hcc hy hyl hi5 hz0 hz1 hz2 hl hE
 go_enter Tryz.func46, Tryz.ntmps46
 go_wp2
 go_loopg [2] e (fun k v2 wr => ∃ q : Nat, v2 = .int .i64 q ∧ i < q ∧ q ≤ e ∧ e - q ≤ k ∧ Aside0 (wr = w))
 case atStart => exact ⟨i + 1, by simp, by omega, by omega, by omega, ⟨rfl⟩⟩
 case round =>
  obtain ⟨q, rfl, q1, q2, hk, HW⟩ := hrel
  obtain rfl := HW.out
  have b1 : (q : Int) < jl.length := by omega
  have b2 : decide ((q : Int) < (jl.length : Int)) = true := ac b1
  have c0 := HJs.out.c q (by omega)
  by_cases ce : q < e
  ·obtain ⟨v, hv⟩ : ∃ v, jl.getD q 0 = v := ⟨_, rfl⟩
   have hm1 := (HM.out.1 q q1 ce).1
   rw [hv] at c0 hm1
   have d1 : (v == 34) = false := ag hm1
   clear hm1 hv
   go_wp2
   go_roundg (e - (q + 1))
   case measure => omega
   case rel => exact ⟨q + 1, by simp, by omega, by omega, Nat.le_refl _, ⟨rfl⟩⟩
  ·have HQ := aa (show q = e by omega)
   rw [show jl.getD q 0 = 34 by rw [HQ.out]; exact HM.out.2] at c0
   obtain ⟨p, hp⟩ : ∃ p, q = p + 1 := ⟨q - 1, by omega⟩
   have g1 : (q : Int) - 1 = (p : Int) := by omega
   have g2 : (q : Int) + 1 = E := by rw [← HE.out]; have := HQ.out; omega
   have p1 : p < jl.length := by omega
   have p2 : i ≤ p := by omega
   have cp := HJs.out.c p p1
   obtain ⟨v, hv⟩ : ∃ v, jl.getD p 0 = v := ⟨_, rfl⟩
   have d1 : i < p → (v == 92) = false := fun h => ag (by rw [← hv]; exact (HM.out.1 p h (by have := HQ.out; omega)).2)
   rw [hv] at cp
   have D1 := aa d1
   have HP := aa hp
   clear ce q2 hv d1 hp
   go_wp2
   go_loopg [13, 14] 0 (fun k v13 v14 wr' => v13 = .int .i64 0 ∧ v14 = .int .i64 p ∧ Aside0 (wr' = wr))
   case atStart => exact ⟨rfl, rfl, ⟨rfl⟩⟩
   case round =>
    obtain ⟨rfl, rfl, HW2⟩ := hrel
    obtain rfl := HW2.out
    by_cases c2 : i < p
    all_goals
     first | (have d2 := D1.out c2) | skip
     go_wp2_with ((with_reducible refine gate_builtin (b := .append) (xs := #[.tmp 48, .tmp 52]) rfl ?_); at_builtin; refine appR 48 52 y HS.out HC.out L.out ?_; intro v1 w4 hn1 hap1; have HN1 := aa hn1; clear hn1 hap1)
     refine bodyPost_ret (results_list (rs := [.tmp 8, .tmp 9, .tmp 10, .tmp 11]) rfl (by simp) (.tmp (.tmp (.tmp (.tmp .nil))))) rfl ?_
     exact ⟨v1, rfl, HN1.out⟩
def Stop (c : Int) : Prop := c ≤ 32 ∨ c = 44 ∨ c = 58 ∨ c = 93 ∨ c = 125
theorem pnum_calls {w0 w : World} {P0 : Nat → Prop} {u : Value} {l jl : List Int} {J cj : Nat} (HB : Bs w0 w P0 w u l) (HJ : Js w P0 J cj jl) (i e : Nat) (nl : Int) {x : Int} (hx : x = i) (h1 : i < e) (h2 : e ≤ jl.length) (hm : ∀ q, i < q → q < e → ¬ Stop (jl.getD q 0)) (he : e < jl.length → Stop (jl.getD e 0)) (hl : l.length ≤ 10000000000) :
  Calls Tryz.prog 48 #[u, .slice (some ⟨J, 0, none⟩) jl.length cj, .int .i64 x, .int .i64 nl] w fun r w' => ∃ v1, r = .returned (.tuple #[v1, .int .i64 (e : Int), .int .i64 nl, .bool true]) ∧ Bs w0 w P0 w' v1 (l ++ (jl.take e).drop i) := by
 subst hx
 have hc := HJ.hc
 obtain ⟨i5, hi5, hz0, hz1, hz2⟩ := info_parts info5
 obtain ⟨A', hcut, hrd, hcc⟩ := print_mid_int (P := Tryz.prog) (k := .u8) 51 5 Tryz.underlying51 hi5 hz1 (some ⟨J, 0, none⟩) cj jl (i : Int) (e : Int) (by omega) (by omega) (by omega) hc.1
 simp only [Int.toNat_natCast] at hcut hrd
 have hC := Kd.C_of_reads (enc := Value.int .u8) (d := (0 : Int)) (h1 := fun _ => rfl) (hrd _ (Kd.reads_of_C (enc := Value.int .u8) (d := (0 : Int)) (h1 := fun _ => rfl) HJ.C))
 obtain ⟨y, hy⟩ : ∃ y, (jl.take e).drop i = y := ⟨_, rfl⟩
 rw [hy] at hcut hC ⊢
 have hyl : y.length ≤ 1000000 := by rw [← hy, List.length_drop, List.length_take]; omega
 have HS := aa HB
 have HC := aa hC
 have HJs := aa HJ
 have HM := aa (And.intro hm he)
 have L := aa (show l.length + y.length ≤ 100000000000000 by omega)
 clear HB hC HJ hm he hrd hcc hy hyl hi5 hz0 hz1 hz2 hl
 go_enter Tryz.func48, Tryz.ntmps48
 go_wp2
 go_loopg [2] e (fun k v2 wr => ∃ q : Nat, v2 = .int .i64 q ∧ i < q ∧ q ≤ e ∧ e - q ≤ k ∧ Aside0 (wr = w))
 case atStart => exact ⟨i + 1, by simp, by omega, by omega, by omega, ⟨rfl⟩⟩
 case round =>
  obtain ⟨q, rfl, q1, q2, hk, HW⟩ := hrel
  obtain rfl := HW.out
  by_cases ce : q < e
  ·have b1 : (q : Int) < jl.length := by omega
   have b2 : decide ((q : Int) < (jl.length : Int)) = true := ac b1
   have c0 := HJs.out.c q (by omega)
   obtain ⟨v, hv⟩ : ∃ v, jl.getD q 0 = v := ⟨_, rfl⟩
   have hm1 := HM.out.1 q q1 ce
   rw [hv] at c0 hm1
   unfold Stop at hm1
   have d0 : decide (v ≤ 32) = false := ae (by omega)
   have d1 : (v == 44) = false := ag (by omega)
   have d2 : (v == 58) = false := ag (by omega)
   have d3 : (v == 93) = false := ag (by omega)
   have d4 : (v == 125) = false := ag (by omega)
   clear hm1 hv
   go_wp2
   go_roundg (e - (q + 1))
   case measure => omega
   case rel => exact ⟨q + 1, by simp, by omega, by omega, Nat.le_refl _, ⟨rfl⟩⟩
  ·obtain rfl : q = e := by omega
   by_cases cl : q < jl.length
   ·have b1 : (q : Int) < jl.length := by omega
    have b2 : decide ((q : Int) < (jl.length : Int)) = true := ac b1
    have c0 := HJs.out.c q cl
    obtain ⟨v, hv⟩ : ∃ v, jl.getD q 0 = v := ⟨_, rfl⟩
    have hs := HM.out.2 cl
    rw [hv] at c0 hs
    have hb : ∃ b0 b1 b2 b3 b4 : Bool, decide (v ≤ 32) = b0 ∧ (v == 44) = b1 ∧ (v == 58) = b2 ∧ (v == 93) = b3 ∧ (v == 125) = b4 := ⟨_, _, _, _, _, rfl, rfl, rfl, rfl, rfl⟩
    obtain ⟨t0, t1, t2, t3, t4, d0, d1, d2, d3, d4⟩ := hb
    have hor : (t0 || t1 || t2 || t3 || t4) = true := by
     rw [← d0, ← d1, ← d2, ← d3, ← d4]
     unfold Stop at hs
     simp only [Bool.or_eq_true, decide_eq_true_eq, beq_iff_eq]
     omega
    have HR := aa hor
    clear hs hv hor
    cases t0 <;> cases t1 <;> cases t2 <;> cases t3 <;> cases t4
    all_goals
     first
     | exact absurd HR.out (by decide)
     | (go_wp2_with ((with_reducible refine gate_builtin (b := .append) (xs := #[.tmp 55, .tmp 59]) rfl ?_); at_builtin; refine appR 55 59 y HS.out HC.out L.out ?_; intro v1 w4 hn1 hap1; have HN1 := aa hn1; clear hn1 hap1)
        refine bodyPost_ret (results_list (rs := [.tmp 8, .tmp 9, .tmp 10, .tmp 11]) rfl (by simp) (.tmp (.tmp (.tmp (.tmp .nil))))) rfl ?_
        exact ⟨v1, rfl, HN1.out⟩)
   ·have b2 : decide ((q : Int) < (jl.length : Int)) = false := ae (by omega)
    go_wp2_with ((with_reducible refine gate_builtin (b := .append) (xs := #[.tmp 55, .tmp 59]) rfl ?_); at_builtin; refine appR 55 59 y HS.out HC.out L.out ?_; intro v1 w4 hn1 hap1; have HN1 := aa hn1; clear hn1 hap1)
    refine bodyPost_ret (results_list (rs := [.tmp 8, .tmp 9, .tmp 10, .tmp 11]) rfl (by simp) (.tmp (.tmp (.tmp (.tmp .nil))))) rfl ?_
    exact ⟨v1, rfl, HN1.out⟩
end Go.Proofs.YtmpdhdnoohmndaaGreatDoor.Pr

import Derived.Test.YtmpdhdnoohmndaaGreatDoorSpx5
namespace Go.Proofs.YtmpdhdnoohmndaaGreatDoor.Sp
open Go.RowKit Go.Proofs.YtmpdhdnoohmndaaGreatDoorW.PrintWords Go.Proofs.YtmpdhdnoohmndaaGreatDoorW.PrintLast Go.Proofs.YtmpdhdnoohmndaaGreatDoorW.PrintMore
set_option linter.unusedVariables false
def places (V : aG) (k : Nat) (s : au) : Option (Int × Int × Int × List S93 × List S31 × Bool) :=
 (aA.f k s 0).bind fun b => (V.f k b.1 b.2).bind fun v =>
  if v.2.2.2.2.2.1 = true then (aA.f k v.2.2.2.2.2.2.1 v.2.2.2.2.2.2.2).bind fun c => if c.2 = (s.size : Int) then some (v.1, v.2.1, v.2.2.1, v.2.2.2.1, v.2.2.2.2.1, true) else some (0, 0, 0, [], [], false)
  else some (0, 0, 0, [], [], false)
def PlacesPost (w : World) (r1 r2 r3 : Int) (r4 : List S93) (r5 : List S31) (r6 : Bool) (e : Ending) (w' : World) : Prop :=
 ∃ v3 v4 : Value, e = .returned (.tuple #[.agg #[.int .i64 r1, .int .i64 r2, .int .i64 r3, v3, v4], .bool r6]) ∧ Kd.R k93 84 w' w.heap.size (fun _ => True) v3 r4 ∧
  Kd.R k31 63 w' w.heap.size (fun k_ => some k_ ≠ (v3 : Value).ownBlock) v4 r5 ∧ Below w.heap.size w w'
theorem keep_blk {W W' : World} {g b : Nat} {o : Obj} (hk : KeepBut W W' g none) (h : W.heap[b]? = some o) (hne : b ≠ g) : W'.heap[b]? = some o := by
 rw [hk.2 b (Array.getElem?_eq_some_iff.1 h).1 hne (by simp)]; exact h
theorem r_nil53 (w W : World) : Kd.R k93 84 W w.heap.size (fun _ => True) (.slice none 0 0) [] := Kd.R_nil _ _ _ _ _
theorem r_nil25 (w W : World) : Kd.R k31 63 W w.heap.size (fun k_ => some k_ ≠ (Value.slice none 0 0).ownBlock) (.slice none 0 0) [] := Kd.R_nil _ _ _ _ _
theorem r_puts {α : Type} {d : Kd α} {e : Nat} {W : World} {base : Nat} {ok : Nat → Prop} {v : Value} {xs : List α} (h : Kd.R d e W base ok v xs) {B : Nat} (hB : B < base) (u0 u1 u2 u3 u4 : Value) :
  Kd.R d e (((((W.setCell ⟨B, 0, none⟩ u0).setCell ⟨B, 1, none⟩ u1).setCell ⟨B, 2, none⟩ u2).setCell ⟨B, 3, none⟩ u3).setCell ⟨B, 4, none⟩ u4) base ok v xs := by
 have hh : ∀ k, (ok k ∧ base ≤ k ∧ k < W.heap.size ∧ ∃ q, q ∈ e :: d.E ∧ ∃ cells, W.heap[k]? = some (.cells cells q (0, 0))) → k ≠ B := fun k h => by have := h.2.1; omega
 exact Kd.R_mono (Kd.R_far (p := ⟨B, 4, none⟩) (Kd.R_far (p := ⟨B, 3, none⟩) (Kd.R_far (p := ⟨B, 2, none⟩) (Kd.R_far (p := ⟨B, 1, none⟩) (Kd.R_far (p := ⟨B, 0, none⟩) (Kd.R_bound h) hh u0) hh u1) hh u2) hh u3) hh u4) (fun k h => h.1)
set_option maxHeartbeats 2000000 in
set_option maxRecDepth 100000 in
theorem places_calls (V : aG) (k : Nat) (s : au) (w : World) (r1 r2 r3 : Int) (r4 : List S93) (r5 : List S31) (r6 : Bool) (h : places V k s = some (r1, r2, r3, r4, r5, r6)) :
  Calls Tryz.prog 24 #[.string s] w (PlacesPost w r1 r2 r3 r4 r5 r6) := by
 unfold places at h
 obtain ⟨⟨s1, at1⟩, h1, h⟩ := an h
 obtain ⟨⟨y1, y2, y3, y4, y5, y6, s2, at2⟩, h2, h⟩ := an h
 simp only at h h2
 have H1 := aa h1
 have H2 := aa h2
 clear h1 h2
 have hu25 := Tryz.underlying63
 have hu47 := Tryz.underlying81
 have hB0 : Below w.heap.size w (w.alloc (.cells #[.int .i64 0, .int .i64 0, .int .i64 0, .slice none 0 0, .slice none 0 0] 63)) := below_alloc (Below.refl _ _) _
 have hI0 : IsS50 w ((w.alloc (.cells #[.int .i64 0, .int .i64 0, .int .i64 0, .slice none 0 0, .slice none 0 0] 63)).alloc (.cells #[.string s, .int .i64 0] 81)) (w.heap.size + 1) s 0 := by
  have := IsS50.new w (w.alloc (.cells #[.int .i64 0, .int .i64 0, .int .i64 0, .slice none 0 0, .slice none 0 0] 63)) s 0 hB0
  simpa using this
 have hZ0 : ((w.alloc (.cells #[.int .i64 0, .int .i64 0, .int .i64 0, .slice none 0 0, .slice none 0 0] 63)).alloc (.cells #[.string s, .int .i64 0] 81)).heap[w.heap.size]? = some (.cells #[.int .i64 0, .int .i64 0, .int .i64 0, .slice none 0 0, .slice none 0 0] 63 (0, 0)) := by
  rw [heap_alloc_old _ _ (by simp)]; exact heap_alloc_new w _
 have HI0 := aa hI0
 have HZ0 := aa hZ0
 have HB0 := aa (below_alloc hB0 (.cells #[.string s, .int .i64 0] 81))
 clear hI0 hZ0 hB0
 have H := aa h
 clear h
 go_enter Tryz.func24, Tryz.ntmps24
 go_wp2_with fail
 refine (aA.calls k (w.heap.size + 1) s 0 s1 at1 w _ HI0.out HB0.out H1.out).mono ?_
 rintro e w1 ⟨rfl, hi, hb, hk⟩
 have HI1 := aa hi
 have HB1 := aa hb
 have HZ1 := aa (keep_blk hk HZ0.out (by omega))
 clear hi hb hk HI0 HB0 HZ0
 go_wp2_with fail
 refine (V.calls k (w.heap.size + 1) s1 at1 y1 y2 y3 y4 y5 y6 s2 at2 w _ HI1.out HB1.out H2.out).mono ?_
 rintro e w2 ⟨v3, v4, rfl, ho3, ho4, hi, hb, hk⟩
 have HI2 := aa hi
 have HB2 := aa hb
 have HZ2 := aa (keep_blk hk HZ1.out (by omega))
 have HK2 := aa (show w.heap.size ≤ w1.heap.size from HB1.out.size)
 have HG := aa (show w.heap.size < w1.heap.size from (Array.getElem?_eq_some_iff.1 HZ1.out).1)
 obtain ⟨A3, c3, rfl⟩ := Kd.R_slice ho3
 obtain ⟨A4, c4, rfl⟩ := Kd.R_slice ho4
 have Cz := aa ho3
 have wL := aa ho4
 clear hi hb hk HI1 HB1 HZ1 ho3 ho4
 cases y6 with
 | false =>
  have hq := H.out
  simp only [Bool.false_eq_true, if_false, al, am] at hq
  obtain ⟨rfl, rfl, rfl, rfl, rfl, rfl⟩ := hq
  clear H
  have hlt : w.heap.size < w2.heap.size := (Array.getElem?_eq_some_iff.1 HZ2.out).1
  have hcz0 : w2.cell? ⟨w.heap.size, 0, none⟩ = some (.int .i64 0) := (ax HZ2.out 0)
  have hcz1 : w2.cell? ⟨w.heap.size, 1, none⟩ = some (.int .i64 0) := (ax HZ2.out 1)
  have hcz2 : w2.cell? ⟨w.heap.size, 2, none⟩ = some (.int .i64 0) := (ax HZ2.out 2)
  have hcz3 : w2.cell? ⟨w.heap.size, 3, none⟩ = some (.slice none 0 0) := (ax HZ2.out 3)
  have hcz4 : w2.cell? ⟨w.heap.size, 4, none⟩ = some (.slice none 0 0) := (ax HZ2.out 4)
  have hfz0 := blk_frozen HZ2.out 0
  have hfz1 := blk_frozen HZ2.out 1
  have hfz2 := blk_frozen HZ2.out 2
  have hfz3 := blk_frozen HZ2.out 3
  have hfz4 := blk_frozen HZ2.out 4
  go_wp2_with fail
  refine bodyPost_ret (results_ct rfl _ _ w.heap.size 63 #[.int .i64 0, .int .i64 0, .int .i64 0, .slice none 0 0, .slice none 0 0] (0, 0) _ rfl (by refine blk_alloc ?_ _; refine blk_put (cs := #[.int .i64 0, .int .i64 0, .int .i64 0, .slice none 0 0, .slice none 0 0]) ?_ 4 _ rfl; refine blk_put (cs := #[.int .i64 0, .int .i64 0, .int .i64 0, .slice none 0 0, .slice none 0 0]) ?_ 3 _ rfl; refine blk_put (cs := #[.int .i64 0, .int .i64 0, .int .i64 0, .slice none 0 0, .slice none 0 0]) ?_ 2 _ rfl; refine blk_put (cs := #[.int .i64 0, .int .i64 0, .int .i64 0, .slice none 0 0, .slice none 0 0]) ?_ 1 _ rfl; refine blk_put (cs := #[.int .i64 0, .int .i64 0, .int .i64 0, .slice none 0 0, .slice none 0 0]) ?_ 0 _ rfl; exact HZ2.out) Tryz.underlying63 rfl (by kernel_rfl)) rfl ?_
  exact ⟨_, _, rfl, r_nil53 _ _, r_nil25 _ _, (by repeat (first | exact HB2.out | apply below_alloc | refine below_set ?_ (Nat.le_refl _)))⟩
 | true =>
  have hq := H.out
  clear H
  rw [if_pos rfl] at hq
  obtain ⟨⟨s3, at3⟩, h3, hq⟩ := an hq
  simp only at hq
  have H3 := aa h3
  clear h3
  have HR := aa hq
  clear hq
  have HI2' := aa (IsS50.alloc HI2.out (.cells #[.int .i64 y1, .int .i64 y2, .int .i64 y3, .slice A3 y4.length c3, .slice A4 y5.length c4] 63))
  have HB2' := aa (below_alloc HB2.out (.cells #[.int .i64 y1, .int .i64 y2, .int .i64 y3, .slice A3 y4.length c3, .slice A4 y5.length c4] 63))
  have HZ2' := aa (blk_alloc HZ2.out (.cells #[.int .i64 y1, .int .i64 y2, .int .i64 y3, .slice A3 y4.length c3, .slice A4 y5.length c4] 63))
  have HP2' := aa (heap_alloc_new w2 (.cells #[.int .i64 y1, .int .i64 y2, .int .i64 y3, .slice A3 y4.length c3, .slice A4 y5.length c4] 63))
  have HO3' := aa (Kd.R_alloc Cz.out (.cells #[.int .i64 y1, .int .i64 y2, .int .i64 y3, .slice A3 y4.length c3, .slice A4 y5.length c4] 63))
  have HO4' := aa (Kd.R_alloc wL.out (.cells #[.int .i64 y1, .int .i64 y2, .int .i64 y3, .slice A3 y4.length c3, .slice A4 y5.length c4] 63))
  clear HI2 HB2 HZ2 Cz wL
  go_wp2_with fail
  refine (aA.calls k (w.heap.size + 1) s2 at2 s3 at3 w _ HI2'.out HB2'.out H3.out).mono ?_
  rintro e w3 ⟨rfl, hi, hb, hk⟩
  have HI3 := aa hi
  have HB3 := aa hb
  have HZ3 := aa (keep_blk hk HZ2'.out (by omega))
  have HP3 := aa (keep_blk hk HP2'.out (fun e => by have h1 := HI2'.out.1; rw [← e, HP2'.out] at h1; simp at h1))
  have Cz := aa (Kd.R_mono (Kd.R_keep (Kd.R_types HO3'.out HI2'.out.1 (by decide)) hk (fun _ h => h.2)) (fun _ h => h.1))
  have wL := aa (Kd.R_mono (Kd.R_keep (Kd.R_types HO4'.out HI2'.out.1 (by decide)) hk (fun _ h => h.2)) (fun _ h => h.1))
  clear hi hb hk HI2' HB2' HZ2' HP2' HO3' HO4'
  have hcg1 := cellS50_1 HI3.out.1
  by_cases hc : at3 = (s.size : Int)
  ·have hq := HR.out
   rw [if_pos hc] at hq
   simp only [al, am] at hq
   obtain ⟨rfl, rfl, rfl, rfl, rfl, rfl⟩ := hq
   clear HR
   have hcb : (at3 != (s.size : Int)) = false := aj hc
   clear hc
   have hlt : w.heap.size < w3.heap.size := (Array.getElem?_eq_some_iff.1 HZ3.out).1
   have hcz0 : w3.cell? ⟨w.heap.size, 0, none⟩ = some (.int .i64 0) := (ax HZ3.out 0)
   have hcz1 : w3.cell? ⟨w.heap.size, 1, none⟩ = some (.int .i64 0) := (ax HZ3.out 1)
   have hcz2 : w3.cell? ⟨w.heap.size, 2, none⟩ = some (.int .i64 0) := (ax HZ3.out 2)
   have hcz3 : w3.cell? ⟨w.heap.size, 3, none⟩ = some (.slice none 0 0) := (ax HZ3.out 3)
   have hcz4 : w3.cell? ⟨w.heap.size, 4, none⟩ = some (.slice none 0 0) := (ax HZ3.out 4)
   have hfz0 := blk_frozen HZ3.out 0
   have hfz1 := blk_frozen HZ3.out 1
   have hfz2 := blk_frozen HZ3.out 2
   have hfz3 := blk_frozen HZ3.out 3
   have hfz4 := blk_frozen HZ3.out 4
   have hlp : w2.heap.size < w3.heap.size := (Array.getElem?_eq_some_iff.1 HP3.out).1
   have hcp0 : w3.cell? ⟨w2.heap.size, 0, none⟩ = some (.int .i64 y1) := (ax HP3.out 0)
   have hcp1 : w3.cell? ⟨w2.heap.size, 1, none⟩ = some (.int .i64 y2) := (ax HP3.out 1)
   have hcp2 : w3.cell? ⟨w2.heap.size, 2, none⟩ = some (.int .i64 y3) := (ax HP3.out 2)
   have hcp3 : w3.cell? ⟨w2.heap.size, 3, none⟩ = some (.slice A3 y4.length c3) := (ax HP3.out 3)
   have hcp4 : w3.cell? ⟨w2.heap.size, 4, none⟩ = some (.slice A4 y5.length c4) := (ax HP3.out 4)
   go_wp2_with fail
   refine bodyPost_ret (results_ct rfl _ _ w.heap.size 63 #[.int .i64 y1, .int .i64 y2, .int .i64 y3, .slice A3 y4.length c3, .slice A4 y5.length c4] (0, 0) _ rfl (by refine blk_put (cs := #[.int .i64 y1, .int .i64 y2, .int .i64 y3, .slice A3 y4.length c3, .slice none 0 0]) ?_ 4 _ rfl; refine blk_put (cs := #[.int .i64 y1, .int .i64 y2, .int .i64 y3, .slice none 0 0, .slice none 0 0]) ?_ 3 _ rfl; refine blk_put (cs := #[.int .i64 y1, .int .i64 y2, .int .i64 0, .slice none 0 0, .slice none 0 0]) ?_ 2 _ rfl; refine blk_put (cs := #[.int .i64 y1, .int .i64 0, .int .i64 0, .slice none 0 0, .slice none 0 0]) ?_ 1 _ rfl; refine blk_put (cs := #[.int .i64 0, .int .i64 0, .int .i64 0, .slice none 0 0, .slice none 0 0]) ?_ 0 _ rfl; exact HZ3.out) Tryz.underlying63 rfl (by kernel_rfl)) rfl ?_
   exact ⟨_, _, rfl, Kd.R_lower (r_puts Cz.out (Nat.lt_of_lt_of_le HG.out (Nat.le_refl _)) _ _ _ _ _) HK2.out, Kd.R_lower (r_puts wL.out (Nat.lt_of_lt_of_le HG.out (Nat.le_refl _)) _ _ _ _ _) HK2.out, (by repeat (first | exact HB3.out | refine below_set ?_ (Nat.le_refl _)))⟩
  ·have hq := HR.out
   rw [if_neg hc] at hq
   simp only [al, am] at hq
   obtain ⟨rfl, rfl, rfl, rfl, rfl, rfl⟩ := hq
   clear HR
   have hcb : (at3 != (s.size : Int)) = true := ai hc
   clear hc
   have hlt : w.heap.size < w3.heap.size := (Array.getElem?_eq_some_iff.1 HZ3.out).1
   have hcz0 : w3.cell? ⟨w.heap.size, 0, none⟩ = some (.int .i64 0) := (ax HZ3.out 0)
   have hcz1 : w3.cell? ⟨w.heap.size, 1, none⟩ = some (.int .i64 0) := (ax HZ3.out 1)
   have hcz2 : w3.cell? ⟨w.heap.size, 2, none⟩ = some (.int .i64 0) := (ax HZ3.out 2)
   have hcz3 : w3.cell? ⟨w.heap.size, 3, none⟩ = some (.slice none 0 0) := (ax HZ3.out 3)
   have hcz4 : w3.cell? ⟨w.heap.size, 4, none⟩ = some (.slice none 0 0) := (ax HZ3.out 4)
   have hfz0 := blk_frozen HZ3.out 0
   have hfz1 := blk_frozen HZ3.out 1
   have hfz2 := blk_frozen HZ3.out 2
   have hfz3 := blk_frozen HZ3.out 3
   have hfz4 := blk_frozen HZ3.out 4
   go_wp2_with fail
   refine bodyPost_ret (results_ct rfl _ _ w.heap.size 63 #[.int .i64 0, .int .i64 0, .int .i64 0, .slice none 0 0, .slice none 0 0] (0, 0) _ rfl (by refine blk_put (cs := #[.int .i64 0, .int .i64 0, .int .i64 0, .slice none 0 0, .slice none 0 0]) ?_ 4 _ rfl; refine blk_put (cs := #[.int .i64 0, .int .i64 0, .int .i64 0, .slice none 0 0, .slice none 0 0]) ?_ 3 _ rfl; refine blk_put (cs := #[.int .i64 0, .int .i64 0, .int .i64 0, .slice none 0 0, .slice none 0 0]) ?_ 2 _ rfl; refine blk_put (cs := #[.int .i64 0, .int .i64 0, .int .i64 0, .slice none 0 0, .slice none 0 0]) ?_ 1 _ rfl; refine blk_put (cs := #[.int .i64 0, .int .i64 0, .int .i64 0, .slice none 0 0, .slice none 0 0]) ?_ 0 _ rfl; exact HZ3.out) Tryz.underlying63 rfl (by kernel_rfl)) rfl ?_
   exact ⟨_, _, rfl, r_nil53 _ _, r_nil25 _ _, (by repeat (first | exact HB3.out | refine below_set ?_ (Nat.le_refl _)))⟩
end Go.Proofs.YtmpdhdnoohmndaaGreatDoor.Sp

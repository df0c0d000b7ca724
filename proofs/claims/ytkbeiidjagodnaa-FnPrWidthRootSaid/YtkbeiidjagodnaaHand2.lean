import Derived.Test.YtkbeiidjagodnaaHand1
namespace Go.Proofs.Ytkbeiidjagodnaa.Pr
open Go.RowKit Go.Proofs.YtkbeiidjagodnaaW.PrintWords Go.Proofs.YtkbeiidjagodnaaW.PrintLast Go.Proofs.YtkbeiidjagodnaaW.PrintMore
set_option linter.unusedVariables false

def prPlacesF (V : H_spec_reader_value) (k : Nat) (s : ByteArray) : Option (Int × Int × Int × List S53 × List S25 × Bool) := if s.size ≤ 4096 then places V k s else some (0, 0, 0, [], [], false)

set_option maxHeartbeats 2000000 in
set_option maxRecDepth 100000 in
theorem prPlaces_big (s : ByteArray) (w : World) (hs : 4096 < s.size) : Calls Try.prog 6 #[.string s] w (PlacesPost w 0 0 0 [] [] false) := by
  have hu25 := Try.underlying25
  have hc : decide (4096 < s.size) = true := decide_eq_true hs
  have hc' : decide ((4096 : Int) < (s.size : Int)) = true := decide_eq_true (by omega)
  go_enter Try.func6, Try.ntmps6
  go_wp2_with fail
  refine bodyPost_ret (results_ct rfl _ _ w.heap.size 25 #[.int .i64 0, .int .i64 0, .int .i64 0, .slice none 0 0, .slice none 0 0] (0, 0) _ rfl (by first | exact heap_alloc_new w _ | simp) Try.underlying25 rfl (by kernel_rfl)) rfl ?_
  exact ⟨_, _, rfl, r_nil53 _ _, r_nil25 _ _, (by repeat (first | exact Below.refl _ _ | apply below_alloc | refine below_set ?_ (Nat.le_refl _)))⟩

set_option maxHeartbeats 2000000 in
set_option maxRecDepth 100000 in
theorem prPlaces_small (V : H_spec_reader_value) (k : Nat) (s : ByteArray) (w : World) (hs : s.size ≤ 4096) (r1 r2 r3 : Int) (r4 : List S53) (r5 : List S25) (r6 : Bool) (h : places V k s = some (r1, r2, r3, r4, r5, r6)) :
    Calls Try.prog 6 #[.string s] w (PlacesPost w r1 r2 r3 r4 r5 r6) := by
  have hu25 := Try.underlying25
  have hc : decide (4096 < s.size) = false := decide_eq_false (by omega)
  have hc' : decide ((4096 : Int) < (s.size : Int)) = false := decide_eq_false (by omega)
  have H := Aside0.mk h
  clear h
  go_enter Try.func6, Try.ntmps6
  go_wp2_with fail
  refine (places_calls V k s _ r1 r2 r3 r4 r5 r6 H.out).mono ?_
  rintro e w1 ⟨v3, v4, rfl, ho3, ho4, hb⟩
  obtain ⟨A3, c3, rfl⟩ := Kd.R_slice ho3
  obtain ⟨A4, c4, rfl⟩ := Kd.R_slice ho4
  have hz := hb.block w.heap.size (by simp)
  rw [heap_alloc_new w (.cells #[.int .i64 0, .int .i64 0, .int .i64 0, .slice none 0 0, .slice none 0 0] 25)] at hz
  have HZ := Aside0.mk hz
  have HO3 := Aside0.mk ho3
  have HO4 := Aside0.mk ho4
  have HB := Aside0.mk (below_then (below_alloc (Below.refl w.heap.size w) (.cells #[.int .i64 0, .int .i64 0, .int .i64 0, .slice none 0 0, .slice none 0 0] 25)) (by simp) hb)
  clear hz ho3 ho4 hb
  have hlt : w.heap.size < w1.heap.size := (Array.getElem?_eq_some_iff.1 HZ.out).1
  have hcz0 : w1.cell? ⟨w.heap.size, 0, none⟩ = some (.int .i64 0) := (blk_cell HZ.out 0).trans rfl
  have hcz1 : w1.cell? ⟨w.heap.size, 1, none⟩ = some (.int .i64 0) := (blk_cell HZ.out 1).trans rfl
  have hcz2 : w1.cell? ⟨w.heap.size, 2, none⟩ = some (.int .i64 0) := (blk_cell HZ.out 2).trans rfl
  have hcz3 : w1.cell? ⟨w.heap.size, 3, none⟩ = some (.slice none 0 0) := (blk_cell HZ.out 3).trans rfl
  have hcz4 : w1.cell? ⟨w.heap.size, 4, none⟩ = some (.slice none 0 0) := (blk_cell HZ.out 4).trans rfl
  have hfz0 := blk_frozen HZ.out 0
  have hfz1 := blk_frozen HZ.out 1
  have hfz2 := blk_frozen HZ.out 2
  have hfz3 := blk_frozen HZ.out 3
  have hfz4 := blk_frozen HZ.out 4
  go_wp2_with fail
  refine bodyPost_ret (results_ct rfl _ _ w.heap.size 25 #[.int .i64 r1, .int .i64 r2, .int .i64 r3, .slice A3 r4.length c3, .slice A4 r5.length c4] (0, 0) _ rfl (by refine blk_put (cs := #[.int .i64 r1, .int .i64 r2, .int .i64 r3, .slice A3 r4.length c3, .slice none 0 0]) ?_ 4 _ rfl; refine blk_put (cs := #[.int .i64 r1, .int .i64 r2, .int .i64 r3, .slice none 0 0, .slice none 0 0]) ?_ 3 _ rfl; refine blk_put (cs := #[.int .i64 r1, .int .i64 r2, .int .i64 0, .slice none 0 0, .slice none 0 0]) ?_ 2 _ rfl; refine blk_put (cs := #[.int .i64 r1, .int .i64 0, .int .i64 0, .slice none 0 0, .slice none 0 0]) ?_ 1 _ rfl; refine blk_put (cs := #[.int .i64 0, .int .i64 0, .int .i64 0, .slice none 0 0, .slice none 0 0]) ?_ 0 _ rfl; exact HZ.out) Try.underlying25 rfl (by kernel_rfl)) rfl ?_
  exact ⟨_, _, rfl, Kd.R_lower (r_puts HO3.out (by simp) _ _ _ _ _) (by simp), Kd.R_lower (r_puts HO4.out (by simp) _ _ _ _ _) (by simp), (by repeat (first | exact HB.out | refine below_set ?_ (Nat.le_refl _)))⟩
theorem prPlaces_calls (V : H_spec_reader_value) (k : Nat) (s : ByteArray) (w : World) (r1 r2 r3 : Int) (r4 : List S53) (r5 : List S25) (r6 : Bool) (h : prPlacesF V k s = some (r1, r2, r3, r4, r5, r6)) :
    Calls Try.prog 6 #[.string s] w (PlacesPost w r1 r2 r3 r4 r5 r6) := by
  unfold prPlacesF at h
  by_cases hs : s.size ≤ 4096
  · rw [if_pos hs] at h; exact prPlaces_small V k s w hs _ _ _ _ _ _ h
  · rw [if_neg hs] at h
    simp only [Option.some.injEq, Prod.mk.injEq] at h
    obtain ⟨rfl, rfl, rfl, rfl, rfl, rfl⟩ := h
    exact prPlaces_big s w (by omega)
end Go.Proofs.Ytkbeiidjagodnaa.Pr

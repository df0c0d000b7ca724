/- impl.PrPretty, without sorting, answers what PrettyOptions makes of the text. -/
import Derived.Test.YtkbeiidjagodnaaHand4
namespace Go.Proofs.Ytkbeiidjagodnaa.Pr
open Go.RowKit Go.Proofs.YtkbeiidjagodnaaW.PrintWords Go.Proofs.YtkbeiidjagodnaaW.PrintLast Go.Proofs.YtkbeiidjagodnaaW.PrintMore
set_option linter.unusedVariables false
set_option maxHeartbeats 2000000 in
set_option maxRecDepth 100000 in
theorem prPretty_calls (V : H_pAny) (k : Nat) (s : ByteArray) (wd : Int) (pre ind : ByteArray) (r : List Int) (w : World) (hs : s.size ≤ 140737488355328) (h : popts V k (bytesOf s) wd pre ind = some r) :
    Calls Try.prog 8 #[.string s, .agg #[.int .i64 wd, .string pre, .string ind, .bool false]] w fun e w' => e = .returned (.string (strOfNums r)) ∧ Below w.heap.size w w' := by
  have kb := fun W => print_bytes (P := Try.prog) 9 39 5 Try.underlying9 Try.underlying39 Try.underlying5 s W
  have H := Aside0.mk h
  have hu31 := Try.underlying31
  have hu42 := Try.underlying42
  have hu41 := Try.underlying41
  clear h
  have HZ : (Lib.bytesWorld (w.alloc (.cells #[.int .i64 wd, .string pre, .string ind, .bool false] 31)) 5 s).heap[w.heap.size]? = some (.cells #[.int .i64 wd, .string pre, .string ind, .bool false] 31 (0, 0)) := (Lib.bytesWorld_at_old _ 5 s _ (by simp)).trans (heap_alloc_new w _)
  have hcz0 : (Lib.bytesWorld (w.alloc (.cells #[.int .i64 wd, .string pre, .string ind, .bool false] 31)) 5 s).cell? ⟨w.heap.size, 0, none⟩ = some (.int .i64 wd) := (blk_cell HZ 0).trans rfl
  have hcz1 : (Lib.bytesWorld (w.alloc (.cells #[.int .i64 wd, .string pre, .string ind, .bool false] 31)) 5 s).cell? ⟨w.heap.size, 1, none⟩ = some (.string pre) := (blk_cell HZ 1).trans rfl
  have hcz2 : (Lib.bytesWorld (w.alloc (.cells #[.int .i64 wd, .string pre, .string ind, .bool false] 31)) 5 s).cell? ⟨w.heap.size, 2, none⟩ = some (.string ind) := (blk_cell HZ 2).trans rfl
  have hcz3 : (Lib.bytesWorld (w.alloc (.cells #[.int .i64 wd, .string pre, .string ind, .bool false] 31)) 5 s).cell? ⟨w.heap.size, 3, none⟩ = some (.bool false) := (blk_cell HZ 3).trans rfl
  have hbs : (Lib.bytesWorld (w.alloc (.cells #[.int .i64 wd, .string pre, .string ind, .bool false] 31)) 5 s).heap.size = w.heap.size + 1 + 1 := by rw [Lib.bytesWorld_size]; simp
  have HV := Aside0.mk (bytesV (w.alloc (.cells #[.int .i64 wd, .string pre, .string ind, .bool false] 31)) s w.heap.size (by omega))
  have HE := Aside0.mk (popts_calls V k (bytesOf s) (some ⟨w.heap.size + 1, 0, none⟩) (grownCap (w.alloc (.cells #[.int .i64 wd, .string pre, .string ind, .bool false] 31)) s.size 0 5) wd pre ind r (w.heap.size + 1 + 1) w ((Lib.bytesWorld (w.alloc (.cells #[.int .i64 wd, .string pre, .string ind, .bool false] 31)) 5 s).alloc (.cells #[.int .i64 wd, .string pre, .string ind, .bool false] 42))
    (below_alloc (bytes_below (below_alloc (Below.refl w.heap.size w) _) (by simp) 5 s) _) (by rw [bytesOf_length]; exact hs)
    (Kd.V_mono (Kd.V_alloc (by have := HV.out; rw [show (w.alloc (.cells #[.int .i64 wd, .string pre, .string ind, .bool false] 31)).heap.size = w.heap.size + 1 by simp] at this; exact this) _) (fun k_ hk_ => by simp [hbs]; omega))
    (by have := heap_alloc_new (Lib.bytesWorld (w.alloc (.cells #[.int .i64 wd, .string pre, .string ind, .bool false] 31)) 5 s) (.cells #[.int .i64 wd, .string pre, .string ind, .bool false] 42); rw [hbs] at this; exact this) H.out)
  rw [bytesOf_length] at HE
  clear HZ hs HV
  go_enter Try.func8, Try.ntmps8
  go_wp2_with (first | (refine HE.out.mono ?_; rintro e w1 ⟨v, rfl, ho, hb⟩; have HB1 := Aside0.mk hb; obtain ⟨A3, c3, e3_⟩ := Kd.R_slice ho; subst e3_; have hsc := Kd.C_string (P := Try.prog) (src := 39) (dst := 9) (c := c3) Try.underlying39 Try.underlying5 Try.underlying9 (Kd.R_reads' ho).2.2; clear ho hb HE))
  first | go_ret | skip
  exact ⟨rfl, HB1.out⟩
end Go.Proofs.Ytkbeiidjagodnaa.Pr

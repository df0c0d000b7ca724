import Derived.Test.YtkbeiidjagodnaaHand3
namespace Go.Proofs.Ytkbeiidjagodnaa.Pr
open Go.RowKit Go.Proofs.YtkbeiidjagodnaaW.PrintWords Go.Proofs.YtkbeiidjagodnaaW.PrintLast Go.Proofs.YtkbeiidjagodnaaW.PrintMore
set_option linter.unusedVariables false
set_option maxHeartbeats 2000000 in
set_option maxRecDepth 100000 in
theorem pretty_calls (V : H_pAny) (k : Nat) (x : List Int) (A1 : Option Addr) (n c1 : Nat) (r : List Int) (w0 w : World) (hB : Below w0.heap.size w0 w) (hx : x.length ≤ 140737488355328) (hn : n = x.length)
    (hs1 : Kd.V (Kd.int .u8) 5 w w0.heap.size (fun k_ => k_ < w.heap.size) (.slice A1 x.length c1) x) (h : popts V k x 80 ⟨#[]⟩ ⟨#[32, 32]⟩ = some r) :
    Calls Try.prog 18 #[.slice A1 n c1] w fun e w' => ∃ v, e = .returned v ∧ Kd.R (Kd.int .u8) 5 w' w0.heap.size (fun _ => True) v r ∧ Below w0.heap.size w0 w' := by
  subst hn
  have H := Aside0.mk h
  have HB := Aside0.mk hB
  have HS := Aside0.mk hs1
  clear h hB hs1
  go_enter Try.func18, Try.ntmps18
  go_wp2_with (first | ((with_reducible refine gate_callee (f := 16) rfl ?_); refine goesL_ (some 4) rfl rfl Try.func16 (by kernel_rfl) rfl #[.slice A1 x.length c1, .pointer none] rfl (by (try simp only [List.map_toArray, List.map_cons, List.map_nil]); first | done | rfl) ?_; refine (popts_nil V k x A1 c1 80 ⟨#[]⟩ ⟨#[32, 32]⟩ rfl rfl rfl r w0 _ HB.out hx HS.out H.out).mono ?_; rintro e w1 ⟨v, rfl, ho, hb⟩; refine ⟨_, rfl, ?_⟩; have HR := Aside0.mk ho; have HB1 := Aside0.mk hb; obtain ⟨A3, c3, e3_⟩ := Kd.R_slice ho; subst e3_; clear ho hb))
  first | go_ret | skip
  exact ⟨.slice A3 r.length c3, rfl, HR.out, HB1.out⟩
set_option maxHeartbeats 2000000 in
set_option maxRecDepth 100000 in
theorem prDefault_calls (V : H_pAny) (k : Nat) (s : ByteArray) (r : List Int) (w : World) (hs : s.size ≤ 140737488355328) (h : popts V k (bytesOf s) 80 ⟨#[]⟩ ⟨#[32, 32]⟩ = some r) :
    Calls Try.prog 14 #[.string s] w fun e w' => e = .returned (.string (strOfNums r)) ∧ Below w.heap.size w w' := by
  have kb := fun W => print_bytes (P := Try.prog) 9 39 5 Try.underlying9 Try.underlying39 Try.underlying5 s W
  have H := Aside0.mk h
  clear h
  go_enter Try.func14, Try.ntmps14
  go_wp2_with (first | ((with_reducible refine gate_callee (f := 18) rfl ?_); refine goesL_ (some 5) rfl rfl Try.func18 (by kernel_rfl) rfl #[.slice (some ⟨w.heap.size, 0, none⟩) s.size (grownCap w s.size 0 5)] rfl (by (try simp only [List.map_toArray, List.map_cons, List.map_nil]); first | done | rfl) ?_; refine (pretty_calls V k (bytesOf s) (some ⟨w.heap.size, 0, none⟩) s.size (grownCap w s.size 0 5) r w _ (bytes_below (Below.refl _ _) (Nat.le_refl _) 5 s) (by rw [bytesOf_length]; exact hs) (bytesOf_length s).symm (Kd.V_mono (bytesV w s w.heap.size (by omega)) (fun k_ hk_ => by rw [Lib.bytesWorld_size]; omega)) H.out).mono ?_; rintro e w1 ⟨v, rfl, ho, hb⟩; refine ⟨_, rfl, ?_⟩; have HB1 := Aside0.mk hb; obtain ⟨A3, c3, e3_⟩ := Kd.R_slice ho; subst e3_; have hsc := Kd.C_string (P := Try.prog) (src := 39) (dst := 9) (c := c3) Try.underlying39 Try.underlying5 Try.underlying9 (Kd.R_reads' ho).2.2; clear ho hb))
  first | go_ret | skip
  exact ⟨rfl, HB1.out⟩
end Go.Proofs.Ytkbeiidjagodnaa.Pr

import Derived.Test.YtmpdhdnoohmndaaGreatDoorPob2
import Derived.Test.YtmpdhdnoohmndaaGreatDoorPq
import Derived.Test.YtmpdhdnoohmndaaGreatDoorZip
namespace Go.Proofs.YtmpdhdnoohmndaaGreatDoor.Pr
open Go.RowKit Go.Proofs.YtmpdhdnoohmndaaGreatDoorW.PrintWords Go.Proofs.YtmpdhdnoohmndaaGreatDoorW.PrintLast Go.Proofs.YtmpdhdnoohmndaaGreatDoorW.PrintMore Sp Gj So
set_option linter.unusedVariables false
set_option linter.unusedSimpArgs false
def Ind (s : au) : Prop := Bl (bytesOf s) ∧ s.size ≤ 64
set_option maxHeartbeats 4000000 in
set_option maxRecDepth 100000 in
theorem brace_calls {wd max x y nl : Int} {pre ind : au} {w : World} {u js : Value} (hmx : 3 < max) (hwd : 0 < wd) :
  Calls Tryz.prog 49 #[u, js, .int .i64 x, .int .u8 123, .int .u8 125, .bool false, .int .i64 wd, .string pre, .string ind, .bool true, .int .i64 y, .int .i64 nl, .int .i64 max] w fun r w' => r = .returned (.tuple #[u, .int .i64 x, .int .i64 nl, .bool false]) ∧ w = w' := by
 have gw : decide (wd > 0) = true := ac hwd
 have gx : (max != -1) = true := ai (by omega)
 clear hmx hwd
 go_enter Tryz.func49, Tryz.ntmps49
 go_wp2
 refine bodyPost_ret (results_list (rs := [.tmp 26, .tmp 27, .tmp 28, .tmp 29]) rfl (by simp) (.tmp (.tmp (.tmp (.tmp .nil))))) rfl ?_
 exact ⟨rfl, rfl⟩
theorem ct_of {jl : List Int} {wd : Int} {pre ind : au} {V : Nat → Nat → Prop} (hA : ∀ ind, Ind ind → AnyC V jl wd pre ind) (hVf : ∀ b e, V b e → 32 < jl.getD b 0 ∧ jl.getD b 0 ≠ 93) (hp : Ind pre) (hi : Ind ind) : CtC V jl wd pre ind := by
 intro w0 w P0 u l J cj HB HJ b e tabs nl max o pretty x y hjc hm hl ht hx hy
 obtain ⟨k, h1, h2, rfl, h4, h5⟩ := hjc
 rcases h5 with ⟨rfl, h5, h6⟩ | ⟨rfl, ⟨ns, h5, h7⟩, h6⟩
 ·rcases hm with ⟨rfl, rfl⟩ | ⟨rfl, hm, hw⟩
  ·exact arr_calls (hA ind hi) (hA ⟨#[]⟩ ⟨fun c hc => by simp [bytesOf] at hc, by decide⟩) hVf hp hi HB HJ b k tabs nl h1 h2 h5 h6 hl ht hx hy
  ·exact flat_calls (hA ind hi) hVf HB HJ b k tabs nl max h1 h2 h5 h6 hm hw hl ht hx hy
 ·rcases hm with ⟨rfl, rfl⟩ | ⟨rfl, hm, hw⟩
  ·refine (obj_calls (hA ind hi) hp hi HB HJ b k tabs nl ns h1 h2 h5 h7 h6 hl ht hx hy).mono ?_
   rintro r w' ⟨v1, out, nl', rfl, g1, g2, g3⟩
   exact ⟨v1, out, _, _, false, rfl, g1, fun _ => ⟨g2.po, rfl, g3⟩⟩
  ·refine (brace_calls hm hw).mono ?_
   rintro r w' ⟨rfl, rfl⟩
   exact ⟨u, [], _, _, false, rfl, by rw [List.append_nil]; exact HB, fun h => by simp at h⟩
theorem jv_first {jl : List Int} : ∀ D b e, JV jl D b e → 32 < jl.getD b 0 ∧ jl.getD b 0 ≠ 93
 | 0, _, _, h => h.elim
 | D + 1, b, e, h => by
  have hw : ∀ l : List Int, (jl.take e).drop b = l → 0 < l.length → jl.getD b 0 = l.getD 0 0 := fun l hl h0 => by have := seg_get hl h0; rwa [Nat.add_zero] at this
  rcases h with ⟨q, _, _, _, h, _⟩ | ⟨_, _, h, _⟩ | (⟨_, _, h⟩ | ⟨_, _, h⟩ | ⟨_, _, h⟩) | ⟨o, k, _, _, _, h, h5⟩
  ·rw [h]; omega
  ·omega
  ·rw [hw _ h (by simp)]; decide
  ·rw [hw _ h (by simp)]; decide
  ·rw [hw _ h (by simp)]; decide
  ·rw [h]; rcases h5 with ⟨rfl, _⟩ | ⟨rfl, _⟩ <;> omega
theorem any_all {jl : List Int} {wd : Int} {pre : au} (hp : Ind pre) : ∀ D ind, Ind ind → AnyC (JV jl D) jl wd pre ind
 | 0, ind, _ => fun HB HJ i b e tabs nl max pretty _ _ _ h => h.elim
 | D + 1, ind, hi => any_calls (ct_of (any_all hp D) (jv_first D) hp hi)
end Go.Proofs.YtmpdhdnoohmndaaGreatDoor.Pr
namespace Go.Proofs.YtmpdhdnoohmndaaGreatDoor.Pr
set_option maxHeartbeats 4000000
set_option maxRecDepth 100000
open Go.RowKit Go.Proofs.YtmpdhdnoohmndaaGreatDoorW.PrintWords Go.Proofs.YtmpdhdnoohmndaaGreatDoorW.PrintLast Go.Proofs.YtmpdhdnoohmndaaGreatDoorW.PrintMore Sp Gj So
set_option linter.unusedVariables false
set_option linter.unusedSimpArgs false
theorem top_calls {jl : List Int} {wd : Int} {pre ind : au} {V : Nat → Nat → Prop} (hA : AnyC V jl wd pre ind) (hp : Ind pre) (hi : Ind ind) {w0 w : World} {P0 : Nat → Prop} {u : Value} {l : List Int} {J cj : Nat} (HB : Bs w0 w P0 w u l) (HJ : Js w P0 J cj jl) (b k : Nat) (ns : List (List Int))
  (hsk : SkB jl 0 b) (hbk : b < k) (hk : k < jl.length) (hb : jl.getD b 0 = 123) (hM : JM jl V (b + 1) k ns) (hD : Diff ns) (hc : jl.getD k 0 = 125) (hl : l.length ≤ 1000) :
  Calls Tryz.prog 33 #[u, .slice (some ⟨J, 0, none⟩) jl.length cj, .int .i64 0, .bool true, .int .i64 wd, .string pre, .string ind, .bool true, .int .i64 0, .int .i64 0, .int .i64 (-1)] w
   fun r w' => ∃ (v1 : Value) (out : List Int) (e' nl' : Int) (ok : Bool), r = .returned (.tuple #[v1, .int .i64 e', .int .i64 nl', .bool ok]) ∧ Bs w0 w P0 w' v1 (l ++ out) ∧ ObjO ns out ∧ out.length ≤ 3500000000 := by
 have hjc := HJ.hc
 have HO := aa (obj_calls hA hp hi HB HJ b k 0 0 ns (x := b) (y := 0) hbk hk hM hD hc (by omega) (by omega) rfl rfl)
 have HJs := aa HJ
 have HK := aa hsk
 have HC := aa hb
 clear HB HJ hsk hM hD hc hb
 go_enter Tryz.func33, Tryz.ntmps33
 go_wp2
 go_loopg [2] (b + 1) (fun k v2 wr => ∃ q : Nat, v2 = .int .i64 q ∧ q ≤ b ∧ b - q < k ∧ Aside0 (wr = w))
 case atStart => exact ⟨0, rfl, Nat.zero_le _, by omega, ⟨rfl⟩⟩
 case round =>
  obtain ⟨q, rfl, q2, hk, HW⟩ := hrel
  obtain rfl := HW.out
  have b1 : (q : Int) < jl.length := by omega
  have b2 : decide ((q : Int) < (jl.length : Int)) = true := ac b1
  have c0 := HJs.out.c q (by omega)
  have c1 : (cj = q) = False := eq_false (by omega)
  by_cases ce : q < b
  ·obtain ⟨v, hv⟩ : ∃ v, jl.getD q 0 = v := ⟨_, rfl⟩
   have hm1 := HK.out.2.2 q (Nat.zero_le _) ce
   rw [hv] at c0 hm1
   have d0 : decide (v ≤ 32) = true := ac hm1
   clear hv hm1
   go_wp2
   go_roundg (b - q)
   case measure => omega
   case rel => exact ⟨q + 1, Z37, by omega, by omega, ⟨rfl⟩⟩
  ·obtain rfl : q = b := by omega
   rw [HC.out] at c0
   go_wp2_with (first
    | (go_at_call 49; with_reducible refine HO.out.mono ?_; rintro r w' ⟨v1, out, nl', rfl, hb, ho, hlen⟩; have HB1 := aa (And.intro hb (And.intro ho hlen)); clear hb ho hlen)
    | (go_at_call 47; refine (nan_calls (w := wr) (J := J) (o := q) (by omega) c0 (by decide) (fun h => absurd h (by decide))).mono ?_; rintro r w' ⟨rfl, rfl⟩))
   refine bodyPost_ret (results_list (rs := [.tmp 22, .tmp 23, .tmp 24, .tmp 25]) rfl (by simp) (.tmp (.tmp (.tmp (.tmp .nil))))) rfl ?_
   exact ⟨v1, out, _, _, _, rfl, HB1.out.1, HB1.out.2.1, by have := HB1.out.2.2; omega⟩
theorem ObjO.pos {ns : List (List Int)} {out : List Int} (h : ObjO ns out) : 0 < out.length := by
 rcases h with ⟨_, rfl⟩ | ⟨_, _, _, _, rfl, _⟩ <;> simp
theorem oz4 {W : World} {b : Nat} {c0 c1 c2 c3 : Value} (h : W.heap[b]? = some (.cells #[c0, c1, c2, c3] 54 (0, 0))) : W.cell? ⟨b, 0, none⟩ = some c0 ∧ W.cell? ⟨b, 1, none⟩ = some c1 ∧ W.cell? ⟨b, 2, none⟩ = some c2 ∧ W.cell? ⟨b, 3, none⟩ = some c3 :=
 ⟨((blk_cell h 0).trans rfl), ((blk_cell h 1).trans rfl), ((blk_cell h 2).trans rfl), ((blk_cell h 3).trans rfl)⟩
theorem Bs.blk {w W : World} {v : Value} {xs : List Int} {B : Nat} {o : Obj} (h : Bs w w (fun _ => False) W v xs) (hz : w.heap[B]? = some o) : W.heap[B]? = some o := blk_kept hz h.k (fun e => e)
theorem popts_calls {jl : List Int} {wd : Int} {pre ind : au} {D : Nat} (hp : Ind pre) (hi : Ind ind) {w : World} {J cj B : Nat} (HJ : Js w (fun _ => False) J cj jl) (hz : w.heap[B]? = some (.cells #[.int .i64 wd, .string pre, .string ind, .bool true] 54 (0, 0))) (b k : Nat) (ns : List (List Int))
  (hsk : SkB jl 0 b) (hbk : b < k) (hk : k < jl.length) (hb : jl.getD b 0 = 123) (hM : JM jl (JV jl D) (b + 1) k ns) (hD : Diff ns) (hc : jl.getD k 0 = 125) :
  Calls Tryz.prog 19 #[.slice (some ⟨J, 0, none⟩) jl.length cj, .pointer (some ⟨B, 0, none⟩)] w
   fun r w' => ∃ (v : Value) (out : List Int), r = .returned v ∧ Bs w w (fun _ => False) w' v (bytesOf pre ++ out ++ [10]) ∧ ObjO ns out ∧ out.length ≤ 3500000000 := by
 have hjc := HJ.hc
 obtain ⟨i5, hi5, hz0, hz1, hz2⟩ := info_parts info5
 obtain ⟨w3, hmk, hown, hgr⟩ := run_make_own (P := Tryz.prog) w w.heap.size 51 5 i5 (.int .u8 0) 1 Tryz.underlying51 hi5 hz0 hz1 .i64 .i64 jl.length (mk_b2 (by omega) hz2) (mk_b3 (by omega)) (Nat.le_refl _)
 have hN : Bs w w (fun _ => False) w3 (.slice (some ⟨w.heap.size, 0, none⟩) 0 jl.length) [] := ⟨Kd.R_of_own (h1 := fun _ => rfl) (xs := ([] : List Int)) (enc := Value.int .u8) hown (fun k hk => .inr (by simp [Value.ownBlock] at hk; omega)), (Below.refl _ _).grown hgr (Nat.le_refl _) (by simp), Kept.of_grown hgr (Kept.refl _ _) (by simp)⟩
 have HN := aa hN
 have HZ := aa hz
 have HP := aa (And.intro hp hi)
 have hpl : pre.size ≤ 64 := hp.2
 have HT := aa (fun {W : World} {v : Value} {l : List Int} (h : Bs w w (fun _ => False) W v l) (hl : l.length ≤ 1000) => top_calls (wd := wd) (any_all (wd := wd) hp D ind hi) hp hi h.in_ (HJ.in_ h) b k ns hsk hbk hk hb hM hD hc hl)
 obtain ⟨hcz0, hcz1, hcz2, hcz3⟩ := oz4 (hN.blk hz)
 clear HJ hsk hM hD hc hb hz hN hown hgr hp hi hi5 hz0 hz1 hz2
 obtain ⟨bp, hbp⟩ : ∃ bp : Bool, ((pre.size : Int) != 0) = bp := ⟨_, rfl⟩
 have HBp := aa (show bp = false → bytesOf pre = [] from fun h => List.eq_nil_of_length_eq_zero (by rw [bytesOf_length]; rw [h] at hbp; have := bne_eq_false_iff_eq.1 hbp; omega))
 have LP := aa (show (bytesOf pre).length ≤ 64 by rw [bytesOf_length]; exact hpl)
 have LP0 := aa (show ([] : List Int).length + pre.size ≤ 100000000000000 by show 0 + pre.size ≤ _; omega)
 go_enter Tryz.func19, Tryz.ntmps19
 go_upto_if 18 with (fail)
 go_cut [5] from 19 to 24 (fun v5 wc => Aside0 (Bs w w (fun _ => False) wc v5 (bytesOf pre)))
 case first =>
  cases bp
  ·have hb := HBp.out rfl
   go_wp2
   go_meet
   case rel => rw [hb]; exact HN
  ·go_wp2_with ((with_reducible refine gate_builtin (b := .append) (xs := #[.tmp 19, .tmp 23]) rfl ?_); at_builtin; refine appS 19 23 pre HN.out LP0.out ?_; intro v2 w2 hn1 hap1; have HN1 := aa hn1; clear hn1 hap1)
   go_meet
   case rel => exact HN1
 case rest =>
 clear HN
 rename_i wc hcut
 have HN := hcut
 clear hcut hbp hcz0 hcz1 hcz2 hcz3
 obtain ⟨hcz0, hcz1, hcz2, hcz3⟩ := oz4 (HN.out.blk HZ.out)
 obtain ⟨A2, c2, rfl⟩ := Kd.R_slice HN.out.r
 obtain ⟨n2, hn2⟩ : ∃ n2, (bytesOf pre).length = n2 := ⟨_, rfl⟩
 rw [hn2] at HN ⊢
 go_upto_region 6 with (fail)
 go_region_held3 (fun w' => w'.cell? ⟨B, 0, none⟩ = some (.int .i64 wd) ∧ w'.cell? ⟨B, 1, none⟩ = some (.string pre) ∧ w'.cell? ⟨B, 2, none⟩ = some (.string ind) ∧ w'.cell? ⟨B, 3, none⟩ = some (.bool true)) (first | exact ⟨hcz0, hcz1, hcz2, hcz3⟩ | exact ⟨hcy0, hcy1, hcy2, hcy3⟩) (first | (go_at_call 33; refine (HT.out (HN.out.drew) (Nat.le_trans LP.out (by decide))).mono ?_; rintro r w4 ⟨v4, out, e', nl', ok, rfl, hb4, ho, hol⟩; have HB := aa (HN.out.drew.then_ hb4); have HO := aa (And.intro ho hol); obtain ⟨hcy0, hcy1, hcy2, hcy3⟩ := oz4 (HB.out.blk HZ.out); obtain ⟨A4, c4, rfl⟩ := Kd.R_slice hb4.r; obtain ⟨n4, hn4⟩ : ∃ n4, (bytesOf pre ++ out : List Int).length = n4 := ⟨_, rfl⟩; rw [hn4] at HB ⊢; have hp4 : 0 < n4 := (by have := ho.pos; rw [← hn4, List.length_append]; omega); have hc2 : decide ((0 : Int) < (n4 : Int)) = true := ac (by omega); have hc3 : decide (0 < n4) = true := ac hp4; have HL := aa (show (bytesOf pre ++ out : List Int).length ≤ 100000000000000 by rw [List.length_append]; have := LP.out; omega); clear hb4 ho hol hn4))
 go_wp2_with ((with_reducible refine gate_builtin (b := .append) (xs := #[.tmp 52, .tmp 53]) rfl ?_); at_builtin; refine app1 52 53 10 HB.out HL.out ?_; intro v6 w6 hn1 hap1; have HN1 := aa hn1; clear hn1 hap1)
 go_ret
 exact ⟨v6, out, rfl, HN1.out, HO.out⟩
end Go.Proofs.YtmpdhdnoohmndaaGreatDoor.Pr
namespace Go.Proofs.YtmpdhdnoohmndaaGreatDoor.Pr
open Go.RowKit Go.Proofs.YtmpdhdnoohmndaaGreatDoorW.PrintWords Go.Proofs.YtmpdhdnoohmndaaGreatDoorW.PrintLast Go.Proofs.YtmpdhdnoohmndaaGreatDoorW.PrintMore Sp Gj So
set_option linter.unusedVariables false
set_option linter.unusedSimpArgs false
set_option maxHeartbeats 4000000 in
set_option maxRecDepth 100000 in
theorem ppretty_calls {s : au} {wd : Int} {pre ind : au} {D : Nat} (hs : s.size ≤ 4096) (hp : Ind pre) (hi : Ind ind) (w : World) (b k : Nat) (ns : List (List Int))
  (hsk : SkB (bytesOf s) 0 b) (hbk : b < k) (hk : k < (bytesOf s).length) (hb : (bytesOf s).getD b 0 = 123) (hM : JM (bytesOf s) (JV (bytesOf s) D) (b + 1) k ns) (hD : Diff ns) (hc : (bytesOf s).getD k 0 = 125) :
  Calls Tryz.prog 10 #[.string s, .agg #[.int .i64 wd, .string pre, .string ind, .bool true]] w
   fun r w' => ∃ (out : List Int), r = .returned (.string (strOfNums (bytesOf pre ++ out ++ [10]))) ∧ ObjO ns out ∧ out.length ≤ 3500000000 ∧ Below w.heap.size w w' := by
 have kb := fun W => print_bytes (P := Tryz.prog) 9 51 5 Tryz.underlying9 Tryz.underlying51 Tryz.underlying5 s W
 have hu31 := Tryz.underlying23
 have hu42 := Tryz.underlying54
 have hu41 := Tryz.underlying53
 obtain ⟨W1, hW1⟩ : ∃ W1, w.alloc (.cells #[.int .i64 wd, .string pre, .string ind, .bool true] 23) = W1 := ⟨_, rfl⟩
 have hz1 : W1.heap.size = w.heap.size + 1 := by rw [← hW1]; simp
 have HZ : (Lib.bytesWorld W1 5 s).heap[w.heap.size]? = some (.cells #[.int .i64 wd, .string pre, .string ind, .bool true] 23 (0, 0)) := (Lib.bytesWorld_at_old _ 5 s _ (by omega)).trans (by rw [← hW1]; exact heap_alloc_new w _)
 have hcz0 : (Lib.bytesWorld W1 5 s).cell? ⟨w.heap.size, 0, none⟩ = some (.int .i64 wd) := ((blk_cell HZ 0).trans rfl)
 have hcz1 : (Lib.bytesWorld W1 5 s).cell? ⟨w.heap.size, 1, none⟩ = some (.string pre) := ((blk_cell HZ 1).trans rfl)
 have hcz2 : (Lib.bytesWorld W1 5 s).cell? ⟨w.heap.size, 2, none⟩ = some (.string ind) := ((blk_cell HZ 2).trans rfl)
 have hcz3 : (Lib.bytesWorld W1 5 s).cell? ⟨w.heap.size, 3, none⟩ = some (.bool true) := ((blk_cell HZ 3).trans rfl)
 have hbs : (Lib.bytesWorld W1 5 s).heap.size = w.heap.size + 1 + 1 := by rw [Lib.bytesWorld_size, hz1]
 obtain ⟨W2, hW2⟩ : ∃ W2, (Lib.bytesWorld W1 5 s).alloc (.cells #[.int .i64 wd, .string pre, .string ind, .bool true] 54) = W2 := ⟨_, rfl⟩
 have hb2 : Below w.heap.size w W2 := by rw [← hW2]; exact below_alloc (bytes_below (by rw [← hW1]; exact below_alloc (Below.refl w.heap.size w) _) (by omega) 5 s) _
 have hJ : Js W2 (fun _ => False) (w.heap.size + 1) (grownCap W1 s.size 0 5) (bytesOf s) := by
  have hr := bytes_reads W1 5 s (by omega)
  refine ⟨fun q hq => ?_, ?_, fun h => h, ?_, trivial, by rw [bytesOf_length]; exact hs⟩
  ·obtain ⟨ad, e, hc⟩ := hr.2.2 (by rw [bytesOf_length] at hq; omega)
   have := hc q (by rw [bytesOf_length] at hq; exact hq)
   injection e with e
   subst e
   rw [addB, hz1] at this
   rw [← hW2]
   have hbl : Below (Lib.bytesWorld W1 5 s).heap.size (Lib.bytesWorld W1 5 s) ((Lib.bytesWorld W1 5 s).alloc (.cells #[.int .i64 wd, .string pre, .string ind, .bool true] 54)) := below_alloc (Below.refl _ _) _
   rw [hbl.cell (by show w.heap.size + 1 < _; omega)]
   exact this
  ·rw [← hW2]; simp [hbs]
  ·rw [bytesOf_length]; exact grownCap_ge W1 s.size 0 5
 have HE := aa (popts_calls (B := w.heap.size + 1 + 1) hp hi hJ (by rw [← hW2]; have := heap_alloc_new (Lib.bytesWorld W1 5 s) (.cells #[.int .i64 wd, .string pre, .string ind, .bool true] 54); rw [hbs] at this; exact this) b k ns hsk hbk hk hb hM hD hc)
 rw [bytesOf_length, ← hW2] at HE
 have HB2 := aa hb2
 have HW2 := aa hW2
 rw [← hW1] at HE hcz0 hcz1 hcz2 hcz3 hbs HW2
 clear HZ hs hsk hbk hk hb hM hD hc hp hi hJ hb2 hW2 hz1 hW1
 go_enter Tryz.func10, Tryz.ntmps10
 go_wp2_with (first | (refine HE.out.mono ?_; rintro e w1 ⟨v, out, rfl, ho, hO, hol⟩; obtain ⟨A3, c3, rfl⟩ := Kd.R_slice ho.r; have hsc := Kd.C_string (P := Tryz.prog) (src := 51) (dst := 9) (c := c3) Tryz.underlying51 Tryz.underlying5 Tryz.underlying9 (Kd.R_reads' ho.r).2.2; have HO := aa (And.intro hO hol); have HBo := aa ho.b; obtain ⟨n9, hn9⟩ : ∃ n9, (bytesOf pre ++ out ++ [10] : List Int).length = n9 := ⟨_, rfl⟩; rw [hn9] at hsc ⊢; clear hn9 ho hO hol HE))
 first | go_ret | skip
 exact ⟨out, by rw [List.append_assoc]; rfl, HO.out.1, HO.out.2, by have := HB2.out; rw [← HW2.out] at this; exact below_step this HBo.out⟩
end Go.Proofs.YtmpdhdnoohmndaaGreatDoor.Pr

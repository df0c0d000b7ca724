import Derived.Test.YtkjnahgicfmicaaGreatDoorZip
import Derived.Test.YtkjnahgicfmicaaGreatDoorQm
import Derived.Test.YtkjnahgicfmicaaGreatDoorQa
import Derived.Test.YtkjnahgicfmicaaGreatDoorQy
import Derived.Test.YtkjnahgicfmicaaGreatDoorQz
namespace Go.Proofs.YtkjnahgicfmicaaGreatDoor.Gj
section
set_option maxHeartbeats 8000000
open Go.RowKit Go.PW Go.PL Go.PM Sp
attribute [local go_sem] run_store_float
set_option linter.unusedVariables false
set_option linter.unusedSimpArgs false
set_option maxRecDepth 100000
def kslc : Kd (Option Addr × Nat × Nat) := Kd.scalar (fun x => .slice x.1 x.2.1 x.2.2) (fun _ => rfl)
def kGR : Kd GR := Kd.iso (Kd.pair (Kd.int .i64) (Kd.pair Kd.string (Kd.pair Kd.string (Kd.pair Kd.flt (Kd.pair (Kd.int .i64) kslc))))) (fun g => (g.ty, g.raw, g.str, g.num, g.idx, g.sa, g.sn, g.sc))
def GR.cs (g : GR) : List Value := [.int .i64 g.ty, .string g.raw, .string g.str, .float .f64 g.num, .int .i64 g.idx, .slice g.sa g.sn g.sc]
theorem kGR_mk (w : World) (g : GR) : kGR.K w g g.cs := ⟨[_], [_, _, _, _, _], rfl, rfl, ⟨[_], [_, _, _, _], rfl, rfl, ⟨[_], [_, _, _], rfl, rfl, ⟨[_], [_, _], rfl, rfl, ⟨[_], [_], rfl, rfl, rfl⟩⟩⟩⟩⟩
theorem kGR_M {w : World} {base : Nat} {ok : Nat → Prop} {g : GR} {cs : List Value} (h : kGR.K w g cs) : kGR.M w base ok g cs := h
theorem kGR_open {w : World} {g : GR} {cs : List Value} (h : kGR.K w g cs) : cs = g.cs := by
 obtain ⟨c1, d1, rfl, e1, ⟨c2, d2, rfl, e2, ⟨c3, d3, rfl, e3, ⟨c4, d4, rfl, e4, ⟨c5, d5, rfl, e5, e6⟩⟩⟩⟩⟩ := h
 rw [e1, e2, e3, e4, e5, e6]
 rfl
theorem info55 : (Tryz.prog.info? 55).map (fun i => (i.zero, i.size, i.bytes)) = some (some (.agg #[.int .i64 0, .string ⟨#[]⟩, .string ⟨#[]⟩, .float .f64 0, .int .i64 0, .slice none 0 0]), 6, 80) := by kernel_rfl
def pV (x : GR × GR) : List GR := [x.2]
def pKV (x : GR × GR) : List GR := [x.1, x.2]
theorem flat_len (l : List (GR × GR)) : (l.flatMap pV).length = l.length ∧ (l.flatMap pKV).length = 2 * l.length := by
 induction l with
 | nil => exact ⟨rfl, rfl⟩
 | cons a l ih =>
  simp only [List.flatMap_cons, List.length_append, List.length_cons]
  exact ⟨by rw [ih.1]; show 1 + l.length = _; omega, by rw [ih.2]; show 2 + 2 * l.length = _; omega⟩
def Rt (B : Nat) (f : GR × GR → List GR) (A : Nat → Prop) (l : List (GR × GR)) (w : World) : Prop :=
 (∀ k, A k → k < w.heap.size) ∧ ¬ A B ∧ ∃ v, w.heap[B]? = some (.cells #[v] 104 (0, 0)) ∧ kGR.R 55 w (B + 1) (fun k => ¬ A k) v (l.flatMap f)
theorem asz (w : World) (o : Obj) : (w.alloc o).heap.size = w.heap.size + 1 := Array.size_push ..
theorem rt_end {B : Nat} {f : GR × GR → List GR} {A : Nat → Prop} {l : List (GR × GR)} {w w4 w5 : World} {v0 : Value} {An : Option Addr} {nn cn : Nat} {o : Obj} {ys : List GR} (x : GR × GR)
  (hA0 : ∀ k, A k → k < w.heap.size) (hA : ¬ A B) (h4 : Below w.heap.size w w4) (ho0 : kGR.R 55 w (B + 1) (fun k => ¬ A k) v0 (l.flatMap f)) (hz5 : w5.heap[B]? = some (.cells #[v0] 104 (0, 0)))
  (ho : kGR.R 55 w5 (B + 1) (fun k => ¬ A k) (.slice An nn cn) (l.flatMap f ++ ys)) (hg : (w4.alloc o).grownBy w5 v0.ownBlock) (hx : f x = ys) :
  Rt B f A (l ++ [x]) (w5.setCell ⟨B, 0, none⟩ (.slice An nn cn)) ∧ Kp A w (w5.setCell ⟨B, 0, none⟩ (.slice An nn cn)) := by
 have hs := h4.size
 have Yq := hg.size
 rw [asz] at Yq
 refine ⟨⟨fun k hk => ?_, hA, _, blk_put (cs' := #[.slice An nn cn]) hz5 0 (.slice An nn cn) rfl, ?_⟩, ?_⟩
 ·have := hA0 k hk
  simp only [World.setCell, Array.size_modify]
  omega
 ·rw [List.flatMap_append, List.flatMap_singleton, hx]
  refine Kd.R_mono (ok := fun q => (¬ A q) ∧ B < q) (Kd.R_far (Kd.R_mono (Kd.R_bound ho) (fun q hq => ⟨hq.1, hq.2.1⟩)) (fun q hq => ?_) _) (fun _ hq => hq.1)
  have := hq.2
  show q ≠ B
  omega
 ·have h7 : Kp A w w4 := Kp.of_below h4
  refine ⟨hg.os.trans h7.os, hg.tape.trans h7.tape, hg.output.trans h7.output, ?_, fun q hq ha => ?_⟩
  ·simp only [World.setCell, Array.size_modify]
   omega
  ·have hne : q ≠ B := fun e => hA (e ▸ ha)
   rw [Below.heap_setCell _ _ _ _ hne, hg.block q (by rw [asz]; omega) (fun e => ho0.1 q e.symm ha), Below.heap_alloc w4 o q (by omega)]
   exact h7.block q hq ha
theorem C_new (w : World) : ∀ ys : List GR, 0 < ys.length → ys.length ≤ 1000 → ReadsRow (kGR.K (w.alloc (.cells (ys.flatMap GR.cs).toArray 55 (0, 0)))) 6 (w.alloc (.cells (ys.flatMap GR.cs).toArray 55 (0, 0))) (some ⟨w.heap.size, 0, none⟩) ys.length ys := fun ys h0 h1 => by
 refine ⟨rfl, by omega, fun _ => ⟨_, rfl, fun j p hp => ⟨p.cs, rfl, kGR_mk _ p, fun i u hi => ?_⟩⟩⟩
 have h2 := blk_cell (blk_new w (.cells (ys.flatMap GR.cs).toArray 55 (0, 0))) (j * 6 + i)
 have hi6 : i < 6 := by
  have := (List.getElem?_eq_some_iff.1 hi).1
  exact this
 rw [show (⟨w.heap.size, 0, none⟩ : Addr).add (j * 6 + i) = ⟨w.heap.size, j * 6 + i, none⟩ from by
  simp only [Addr.add, Nat.zero_add]
  split
  ·rename_i h; rw [h]
  ·rfl, h2]
 have : ∀ (ys : List GR) (j : Nat), ys[j]? = some p → (ys.flatMap GR.cs)[j * 6 + i]? = some u := by
  intro ys
  induction ys with
  | nil => intro j h; simp at h
  | cons a ys ih =>
   intro j h
   have la : a.cs.length = 6 := rfl
   rw [List.flatMap_cons]
   cases j with
   | zero =>
    simp only [List.getElem?_cons_zero, am] at h
    subst h
    rw [List.getElem?_append_left (by omega), Nat.zero_mul, Nat.zero_add]
    exact hi
   | succ j =>
    rw [List.getElem?_append_right (by omega), la, show (j + 1) * 6 + i - 6 = j * 6 + i by omega]
    exact ih j (by simpa using h)
 exact (List.getElem?_toArray ..).trans (this ys j hp)
theorem pV_call (B : Nat) {A : Nat → Prop} {l : List (GR × GR)} {w : World} (k v : GR) (hI : Rt B pV A l w) (hl : l.length ≤ 1000000) :
  Calls Tryz.prog 68 (#[k.v, v.v] ++ #[.pointer (some ⟨B, 0, none⟩)]) w fun e w' => e = .returned (.bool true) ∧ Rt B pV A (l ++ [(k, v)]) w' ∧ Kp A w w' := by
 obtain ⟨hA0, hA, v0, hz, ho⟩ := hI
 show Calls Tryz.prog 68 #[.agg #[.int .i64 k.ty, .string k.raw, .string k.str, .float .f64 k.num, .int .i64 k.idx, .slice k.sa k.sn k.sc], .agg #[.int .i64 v.ty, .string v.raw, .string v.str, .float .f64 v.num, .int .i64 v.idx, .slice v.sa v.sn v.sc], .pointer (some ⟨B, 0, none⟩)] w _
 have hu55 := Tryz.underlying55
 have HZ := ab hz
 have HO := ab ho
 have HB := ab (Below.refl w.heap.size w)
 clear hz ho
 go_enter Tryz.func68, Tryz.ntmps68
 go_wp2_with (first | (refine ax 3 #[.int .i64 k.ty, .string k.raw, .string k.str, .float .f64 k.num, .int .i64 k.idx, .slice k.sa k.sn k.sc] 55 ?_; intro b3 hg w3 hz hb; have HB3 := ab (below_step HB.out hb); have HZ3 := ab (blk_below HZ.out hb); have K3 := ab hz; clear hb hz hg) | (refine ax 4 #[.int .i64 v.ty, .string v.raw, .string v.str, .float .f64 v.num, .int .i64 v.idx, .slice v.sa v.sn v.sc] 55 ?_; intro b4 hg w4 hz hb; have HB4 := ab (below_step HB3.out hb); have HZ4 := ab (blk_below HZ3.out hb); have K34 := ab (blk_below K3.out hb); have K4 := ab hz; obtain ⟨p0, p1, p2, p3, p4, p5, q0, q1, q2, q3, q4, q5⟩ := cz6 K34.out; obtain ⟨r0, r1, r2, r3, r4, r5, s0, s1, s2, s3, s4, s5⟩ := cz6 K4.out; have z0 : w4.cell? ⟨B, 0, none⟩ = some v0 := (ay HZ4.out 0); clear hb hz hg) | ((with_reducible refine gate_builtin (b := .append) (xs := #[.tmp 6, .tmp 8]) rfl ?_); at_builtin; refine Kd.R_append_rows kGR (w0 := w4) (B + 1) (by rfl) (.tmp 6) (.tmp 8) 104 55 (.agg #[.int .i64 0, .string ⟨#[]⟩, .string ⟨#[]⟩, .float .f64 0, .int .i64 0, .slice none 0 0]) 80 rfl Tryz.underlying104 info55 rfl (by decide) (by omega) v0 (l.flatMap pV) [v] (some ⟨w4.heap.size, 0, none⟩) 1 1 (fun q => ¬ A q) (fun _ => False) rfl rfl ?aO ?aR (fun _ _ h => kGR_M h) (fun _ hk => hk.elim) ?aF ?aB ?aS ?aL ?_; (case aO => exact Kd.R_alloc (Kd.R_below HO.out HB4.out) _); (case aR => exact C_new w4 [v] (by simp) (by simp)); (case aF => intro q hq hA1; have := hA0 q hA1; have := HB4.out.size; rw [asz] at hq; omega); (case aB => exact Below.mono (below_alloc (Below.refl _ _) _) (blk_lt HZ4.out)); (case aS => have := blk_lt HZ4.out; rw [asz]; omega); (case aL => have hfl := (flat_len l).1; rw [hfl]; omega); intro v1 w5 ho hb hg hat; obtain ⟨An, cn, e8⟩ := Kd.R_slice ho; subst e8; obtain ⟨nn, hn8⟩ : ∃ nn, (l.flatMap pV ++ [v]).length = nn := ⟨_, rfl⟩; rw [hn8] at ho; try rw [hn8]; have hne := Kd.R_ne (Kd.R_below HO.out HB4.out) HZ4.out (by decide); have HZ5 := ab (blk_grown (blk_alloc HZ4.out _) hg hne); have HX := ab (rt_end (k, v) hA0 hA HB4.out HO.out HZ5.out ho hg rfl); have z5 : w5.cell? ⟨B, 0, none⟩ = some v0 := (ay HZ5.out 0); have y5 := blk_frozen HZ5.out 0; clear ho hb hg hat hne hn8))
 go_ret
 exact ⟨rfl, HX.out⟩
theorem pKV_call (B : Nat) {A : Nat → Prop} {l : List (GR × GR)} {w : World} (k v : GR) (hI : Rt B pKV A l w) (hl : l.length ≤ 1000000) :
  Calls Tryz.prog 71 (#[k.v, v.v] ++ #[.pointer (some ⟨B, 0, none⟩)]) w fun e w' => e = .returned (.bool true) ∧ Rt B pKV A (l ++ [(k, v)]) w' ∧ Kp A w w' := by
 obtain ⟨hA0, hA, v0, hz, ho⟩ := hI
 show Calls Tryz.prog 71 #[.agg #[.int .i64 k.ty, .string k.raw, .string k.str, .float .f64 k.num, .int .i64 k.idx, .slice k.sa k.sn k.sc], .agg #[.int .i64 v.ty, .string v.raw, .string v.str, .float .f64 v.num, .int .i64 v.idx, .slice v.sa v.sn v.sc], .pointer (some ⟨B, 0, none⟩)] w _
 have hu55 := Tryz.underlying55
 have HZ := ab hz
 have HO := ab ho
 have HB := ab (Below.refl w.heap.size w)
 clear hz ho
 go_enter Tryz.func71, Tryz.ntmps71
 go_wp2_with (first | (refine ax 3 #[.int .i64 k.ty, .string k.raw, .string k.str, .float .f64 k.num, .int .i64 k.idx, .slice k.sa k.sn k.sc] 55 ?_; intro b3 hg w3 hz hb; have HB3 := ab (below_step HB.out hb); have HZ3 := ab (blk_below HZ.out hb); have K3 := ab hz; clear hb hz hg) | (refine ax 4 #[.int .i64 v.ty, .string v.raw, .string v.str, .float .f64 v.num, .int .i64 v.idx, .slice v.sa v.sn v.sc] 55 ?_; intro b4 hg w4 hz hb; have HB4 := ab (below_step HB3.out hb); have HZ4 := ab (blk_below HZ3.out hb); have K34 := ab (blk_below K3.out hb); have K4 := ab hz; obtain ⟨p0, p1, p2, p3, p4, p5, q0, q1, q2, q3, q4, q5⟩ := cz6 K34.out; obtain ⟨r0, r1, r2, r3, r4, r5, s0, s1, s2, s3, s4, s5⟩ := cz6 K4.out; have z0 : w4.cell? ⟨B, 0, none⟩ = some v0 := (ay HZ4.out 0); clear hb hz hg) | ((with_reducible refine gate_builtin (b := .append) (xs := #[.tmp 6, .tmp 9]) rfl ?_); at_builtin; refine Kd.R_append_rows kGR (w0 := w4) (B + 1) (by rfl) (.tmp 6) (.tmp 9) 104 55 (.agg #[.int .i64 0, .string ⟨#[]⟩, .string ⟨#[]⟩, .float .f64 0, .int .i64 0, .slice none 0 0]) 80 rfl Tryz.underlying104 info55 rfl (by decide) (by omega) v0 (l.flatMap pKV) [k, v] (some ⟨w4.heap.size, 0, none⟩) 2 2 (fun q => ¬ A q) (fun _ => False) rfl rfl ?aO ?aR (fun _ _ h => kGR_M h) (fun _ hk => hk.elim) ?aF ?aB ?aS ?aL ?_; (case aO => exact Kd.R_alloc (Kd.R_below HO.out HB4.out) _); (case aR => exact C_new w4 [k, v] (by simp) (by simp)); (case aF => intro q hq hA1; have := hA0 q hA1; have := HB4.out.size; rw [asz] at hq; omega); (case aB => exact Below.mono (below_alloc (Below.refl _ _) _) (blk_lt HZ4.out)); (case aS => have := blk_lt HZ4.out; rw [asz]; omega); (case aL => have hfl := (flat_len l).2; rw [hfl]; omega); intro v1 w5 ho hb hg hat; obtain ⟨An, cn, e8⟩ := Kd.R_slice ho; subst e8; obtain ⟨nn, hn8⟩ : ∃ nn, (l.flatMap pKV ++ [k, v]).length = nn := ⟨_, rfl⟩; rw [hn8] at ho; try rw [hn8]; have hne := Kd.R_ne (Kd.R_below HO.out HB4.out) HZ4.out (by decide); have HZ5 := ab (blk_grown (blk_alloc HZ4.out _) hg hne); have HX := ab (rt_end (k, v) hA0 hA HB4.out HO.out HZ5.out ho hg rfl); have z5 : w5.cell? ⟨B, 0, none⟩ = some v0 := (ay HZ5.out 0); have y5 := blk_frozen HZ5.out 0; clear ho hb hg hat hne hn8))
 go_ret
 exact ⟨rfl, HX.out⟩
theorem rt_grow {B : Nat} {f : GR × GR → List GR} {A : Nat → Prop} {l : List (GR × GR)} {w w' : World} : Rt B f A l w → Below w.heap.size w w' → Rt B f (fun k => A k ∨ (w.heap.size ≤ k ∧ k < w'.heap.size)) l w' := fun ⟨h0, h1, v, hz, ho⟩ hb =>
 ⟨fun k hk => by
  rcases hk with hk | hk
  ·exact Nat.lt_of_lt_of_le (h0 k hk) hb.size
  ·exact hk.2, fun h => by
  have := blk_lt hz
  rcases h with h | h
  ·exact h1 h
  ·omega, v, blk_below hz hb, Kd.R_mono (Kd.R_below (Kd.R_bound ho) hb) (fun k hk h => by
  have := hk.2.2.1
  rcases h with h | h
  ·exact hk.1 h
  ·omega)⟩
theorem rt_far {B : Nat} {f : GR × GR → List GR} {A : Nat → Prop} {l : List (GR × GR)} {w : World} (p : Addr) (u : Value) : Rt B f A l w → A p.block → Rt B f A l (w.setCell p u) := fun ⟨h0, h1, v, hz, ho⟩ hp =>
 ⟨fun k hk => by simp only [World.setCell, Array.size_modify]; exact h0 k hk, h1, v, blk_far hz (fun e => h1 (e ▸ hp)) u, Kd.R_far ho (fun k hk e => hk (e ▸ hp)) u⟩
theorem pV_iter (B : Nat) : Iter 68 #[.pointer (some ⟨B, 0, none⟩)] (fun _ => true) (Rt B pV) where
 fn := ⟨_, Tryz.func68, rfl, rfl⟩
 less := fun ⟨h0, h1, v, hz, ho⟩ ha => ⟨fun k hk => h0 k (ha k hk), fun h => h1 (ha _ h), v, hz, Kd.R_mono ho (fun k hk h => hk (ha k h))⟩
 grow := rt_grow
 far := rt_far
 call := fun k v hI hl => pV_call _ k v hI hl
theorem pKV_iter (B : Nat) : Iter 71 #[.pointer (some ⟨B, 0, none⟩)] (fun _ => true) (Rt B pKV) where
 fn := ⟨_, Tryz.func71, rfl, rfl⟩
 less := fun ⟨h0, h1, v, hz, ho⟩ ha => ⟨fun k hk => h0 k (ha k hk), fun h => h1 (ha _ h), v, hz, Kd.R_mono ho (fun k hk h => hk (ha k h))⟩
 grow := rt_grow
 far := rt_far
 call := fun k v hI hl => pKV_call _ k v hI hl
theorem Rt.new {B : Nat} {f : GR × GR → List GR} {A : Nat → Prop} {w : World} (h : w.heap[B]? = some (.cells #[.slice none 0 0] 104 (0, 0))) (hA : ∀ k, A k → k < w.heap.size) (hB : ¬ A B) : Rt B f A [] w :=
 ⟨hA, hB, _, h, Kd.R_nil _ _ _ _ _⟩
end
section
open Go.RowKit Go.PW Go.PL Go.PM Sp Dec
attribute [local go_sem] run_store_float max2_int min2_int max_two min_two max_three min_three max_four min_four
set_option linter.unusedVariables false
set_option linter.unusedSimpArgs false
set_option maxRecDepth 100000
set_option maxHeartbeats 8000000
def gr0 : GR := ⟨0, ⟨#[]⟩, ⟨#[]⟩, 0, 0, none, 0, 0⟩
theorem at_GR {w : World} {A : Option Addr} {n : Nat} {xs : List GR} (h : kGR.C w A n xs) (i : Int) (h0 : 0 ≤ i) (h1 : i < n) : ∃ ad, A = some ad ∧ w.cell? ⟨(ad.add (i.toNat * 6)).block, (ad.add (i.toNat * 6)).off + 1, none⟩ = some (.string (xs.getD i.toNat gr0).raw) := by
 obtain ⟨ad, c, e, _, hK, hc0⟩ := Kd.C_get h gr0 i h0 h1
 have hc : ∀ j u, c[j]? = some u → w.cell? (ad.add (i.toNat * 6 + j)) = some u := hc0
 have e2 := kGR_open hK
 subst e2
 exact ⟨ad, e, Z73⟩
theorem isarr_calls (ty : Int) (R b : av) (f : Nat) (i : Int) (v : Value) (w : World) (h : 0 < R.size) :
  Calls Tryz.prog 67 #[.agg #[.int .i64 ty, .string R, .string b, .float .f64 f, .int .i64 i, v]] w fun e w' => e = .returned (.bool (ty == 5 && at_ R 0 == 91)) ∧ Below w.heap.size w w' := by
 obtain ⟨x, hv⟩ : ∃ x, at_ R 0 = x := ⟨_, rfl⟩
 rw [hv]
 have hx : ∀ h : 0 < R.size, ((R[0]'h).toNat : Int) = x := fun h => by rw [← hv]; exact at_get R 0 0 rfl h
 have c2 : decide (0 < (R.size : Int)) = true := ae (by omega)
 have c3 : decide (0 < R.size) = true := ae h
 clear hv
 by_cases c : ty = 5
 ·have c1 : (ty == 5) = true := ai c
  obtain ⟨y, hy⟩ : ∃ y, (x == 91) = y := ⟨_, rfl⟩
  go_enter Tryz.func67, Tryz.ntmps67
  go_wp2_with (fail)
  go_ret
  exact ⟨by rw [c1, hy]; rfl, below_alloc (Below.refl _ _) _⟩
 ·have c1 : (ty == 5) = false := ah c
  go_enter Tryz.func67, Tryz.ntmps67
  go_wp2_with (fail)
  go_ret
  exact ⟨by rw [c1]; rfl, below_alloc (Below.refl _ _) _⟩
theorem isobj_calls (ty : Int) (R b : av) (f : Nat) (i : Int) (v : Value) (w : World) (h : 0 < R.size) :
  Calls Tryz.prog 70 #[.agg #[.int .i64 ty, .string R, .string b, .float .f64 f, .int .i64 i, v]] w fun e w' => e = .returned (.bool (ty == 5 && at_ R 0 == 123)) ∧ Below w.heap.size w w' := by
 obtain ⟨x, hv⟩ : ∃ x, at_ R 0 = x := ⟨_, rfl⟩
 rw [hv]
 have hx : ∀ h : 0 < R.size, ((R[0]'h).toNat : Int) = x := fun h => by rw [← hv]; exact at_get R 0 0 rfl h
 have c2 : decide (0 < (R.size : Int)) = true := ae (by omega)
 have c3 : decide (0 < R.size) = true := ae h
 clear hv
 by_cases c : ty = 5
 ·have c1 : (ty == 5) = true := ai c
  obtain ⟨y, hy⟩ : ∃ y, (x == 123) = y := ⟨_, rfl⟩
  go_enter Tryz.func70, Tryz.ntmps70
  go_wp2_with (fail)
  go_ret
  exact ⟨by rw [c1, hy]; rfl, below_alloc (Below.refl _ _) _⟩
 ·have c1 : (ty == 5) = false := ah c
  go_enter Tryz.func70, Tryz.ntmps70
  go_wp2_with (fail)
  go_ret
  exact ⟨by rw [c1]; rfl, below_alloc (Below.refl _ _) _⟩
theorem bstr_calls {w : World} {base n c : Nat} {A : Option Addr} {xs : List Int} (h : Kd.R (Kd.int .u8) 5 w base (fun _ => True) (.slice A n c) xs) (hl : xs.length ≤ 1000000000000000) :
  Calls Tryz.prog 69 #[.slice A n c] w fun e w' => e = .returned (.string (strOfNums xs)) ∧ Below w.heap.size w w' := by
 obtain ⟨rfl, h1, hc⟩ := Kd.R_reads' h
 have hsc := Kd.C_string (P := Tryz.prog) (src := 86) (dst := 9) (c := c) Tryz.underlying86 Tryz.underlying5 Tryz.underlying9 hc
 go_enter Tryz.func69, Tryz.ntmps69
 go_wp2_with (fail)
 go_ret
 exact ⟨rfl, Below.refl _ _⟩
end
section
open Go.RowKit Go.PW Go.PL Go.PM Sp Dec
attribute [local go_sem] run_store_float max2_int min2_int max_two min_two max_three min_three max_four min_four
set_option linter.unusedVariables false
set_option linter.unusedSimpArgs false
set_option maxRecDepth 100000
set_option maxHeartbeats 8000000
theorem told_mem {cont : Nat → Bool} {n : Nat} {ps : List (GR × GR → Prop)} {L : List (GR × GR)} (h : Told cont n ps L) : (∀ x ∈ L, ∃ P ∈ ps, P x) ∧ L.length ≤ ps.length := by
 induction h with
 | done n => exact ⟨fun x hx => (List.not_mem_nil hx).elim, Nat.le_refl _⟩
 | stop n P ps x hx _ => exact ⟨fun y hy => by
   obtain rfl : y = x := by simpa using hy
   exact ⟨P, List.mem_cons_self .., hx⟩, by simp⟩
 | more n P ps x xs hx _ _ ih => exact ⟨fun y hy => by
   rcases List.mem_cons.1 hy with rfl | hy
   ·exact ⟨P, List.mem_cons_self .., hx⟩
   ·obtain ⟨Q, hQ, hy⟩ := ih.1 y hy
    exact ⟨Q, List.mem_cons_of_mem _ hQ, hy⟩, by simp only [List.length_cons]; have := ih.2; omega⟩
section
variable {P : Program} {w0 W : World}
end
section
variable {ops : Array Oper} {rest : List Oper} {o : Oper} {a : Act} {Q : Exit → Act → World → Prop} {w W : World}
theorem app1 (s x : Tmp) (c : Int) {v : Value} {xs : List Int} (HO : RB W w.heap.size v xs) (HB : Below w.heap.size w W) (hl : xs.length ≤ 100000000000000)
  (h : ∀ v1 w1, RB w1 w.heap.size v1 (xs ++ [c]) → Below w.heap.size w w1 → wpList Tryz.prog ops Q rest (a.put o.dst v1) w1)
  (hgd : o.guard = none := by rfl) (ho : o.op = .call { callee := .builtin .append, args := #[.tmp s, .tmp x], argTypes := #[86, 86] } := by rfl) (hs : a.eval (.tmp s) = v := by rfl) (hx : a.eval (.tmp x) = .slice (some ⟨W.heap.size, 0, none⟩) 1 1 := by rfl) :
  wpList Tryz.prog ops Q (o :: rest) a (W.alloc (.cells [.int .u8 c].toArray 5)) :=
 Kd.R_append (Kd.int .u8) (w0 := w) w.heap.size hgd (.tmp s) (.tmp x) 86 5 (.int .u8 0) 1 ho Tryz.underlying86 info5 rfl (by decide) (by omega) v xs c [.int .u8 c] (fun _ => True) (fun _ => False) hs hx rfl (fun _ hk => hk.elim) (fun _ _ => trivial) HO HB HB.size (by omega) (fun v1 w1 h1 h2 _ _ => h v1 w1 h1 h2)
theorem appS (s x : Tmp) (y : av) {v : Value} {xs : List Int} (HO : RB W w.heap.size v xs) (HB : Below w.heap.size w W) (hl : xs.length + y.size ≤ 100000000000000)
  (h : ∀ v1 w1, RB w1 w.heap.size v1 (xs ++ bytesOf y) → Below w.heap.size w w1 → wpList Tryz.prog ops Q rest (a.put o.dst v1) w1)
  (hgd : o.guard = none := by rfl) (ho : o.op = .call { callee := .builtin .append, args := #[.tmp s, .tmp x], argTypes := #[86, 9] } := by rfl) (hs : a.eval (.tmp s) = v := by rfl) (hx : a.eval (.tmp x) = .string y := by rfl) :
  wpList Tryz.prog ops Q (o :: rest) a W :=
 Kd.R_append_str (w0 := w) w.heap.size hgd (.tmp s) (.tmp x) 86 9 5 ho Tryz.underlying86 Tryz.underlying9 info5 v xs y (fun _ => True) hs hx (fun _ _ => trivial) HO HB HB.size (by omega) (fun v1 w1 h1 h2 _ _ => h v1 w1 h1 h2)
end
theorem at_GR2 {w : World} {ad : Addr} {n : Nat} {xs : List GR} (h : kGR.C w (some ad) n xs) (i : Int) (h0 : 0 ≤ i) (h1 : i < n) : w.cell? ⟨(ad.add (i.toNat * 6)).block, (ad.add (i.toNat * 6)).off + 1, none⟩ = some (.string (xs.getD i.toNat gr0).raw) := by
 obtain ⟨ad', e, h2⟩ := at_GR h i h0 h1
 injection e with e
 rw [e]
 exact h2
theorem inter_step {α : Type} (f : α → List Int) (d : α) (l : List α) (k : Nat) (hk : k < l.length) : inter ((l.drop k).reverse.map f) = if k + 1 = l.length then f (l.getD k d) else inter ((l.drop (k + 1)).reverse.map f) ++ 44 :: f (l.getD k d) := by
 rw [List.drop_eq_getElem_cons hk, List.reverse_cons, List.map_append, List.map_cons, List.map_nil, inter_snoc, List.getD_eq_getElem?_getD, List.getElem?_eq_getElem hk, Option.getD_some]
 by_cases h : k + 1 = l.length
 ·rw [if_pos h, if_pos (by rw [h, List.drop_length]; rfl)]
 ·rw [if_neg h, if_neg (by
   intro e
   have h2 := congrArg List.length e
   simp only [List.length_map, List.length_reverse, List.length_drop, List.length_nil] at h2
   omega)]
theorem boxV (L : List (GR × GR)) (l : List GR) (c : Int) (h : L.flatMap pV = l) : 91 :: inter ((l.drop 0).reverse.map fun g => bytesOf g.raw) ++ [c] = boxed 91 c (L.reverse.map fun x => bytesOf x.2.raw) := by
 have e : l = L.map Prod.snd := by
  rw [← h]
  clear h
  induction L with
  | nil => rfl
  | cons a L ih => rw [List.flatMap_cons, ih]; rfl
 rw [e, List.drop_zero, ← List.map_reverse, List.map_map]
 rfl
theorem Lies.len {R : av} {ps : List (GR × GR → Prop)} (h : Lies R ps) : ps.length ≤ 1000000 := by
 rcases h with ⟨_, qs, _, h, rfl⟩ | ⟨_, _, h⟩
 ·simpa using h
 ·exact h
def rawP (x : GR × GR) : List Int := bytesOf x.1.raw ++ 58 :: bytesOf x.2.raw
theorem pkv_get : ∀ (L : List (GR × GR)) (k : Nat), (L.flatMap pKV).getD (2 * k) gr0 = (L.getD k (gr0, gr0)).1 ∧ (L.flatMap pKV).getD (2 * k + 1) gr0 = (L.getD k (gr0, gr0)).2
 | [], k => ⟨by simp, by simp⟩
 | a :: L, 0 => ⟨rfl, rfl⟩
 | a :: L, k + 1 => by
  rw [List.flatMap_cons]
  exact pkv_get L k
theorem mr_calls (s R str : av) (ty : Int) (a1 : av) (w : World) (T : av → Prop) (hs : s.size ≤ 1000000) (hR : R.size ≤ 1000000) (hr : 0 < R.size)
  (hP : ∀ w1, Below w.heap.size w w1 → Calls Tryz.prog 21 #[.string s] w1 (PrPost ty R str w1))
  (hC : (ty ≠ 5 ∧ T s) ∨ (ty = 5 ∧ str = ⟨#[]⟩ ∧ Wok w ∧ ∃ ps, Lies R ps ∧ ((at_ R 0 = 91 ∧ (∀ P ∈ ps, ∀ x, P x → x.2.raw.size ≤ 1000000) ∧ ∀ L, Told (fun _ => true) 0 ps L → T (strOfNums (boxed 91 93 (L.reverse.map fun x => bytesOf x.2.raw)))) ∨
   (at_ R 0 = 123 ∧ (∀ P ∈ ps, ∀ x, P x → x.1.raw.size ≤ 1000000 ∧ x.2.raw.size ≤ 1000000) ∧ ∀ L, Told (fun _ => true) 0 ps L → T (strOfNums (boxed 123 125 (L.reverse.map rawP))))))) :
  Calls Tryz.prog 54 #[.string s, .string a1] w fun e w' => ∃ t, T t ∧ e = .returned (.string t) ∧ Below w.heap.size w w' := by
 have hu55 := Tryz.underlying55
 have HB := ab (Below.refl w.heap.size w)
 have HP := ab hP
 have HS := ab (And.intro hs (And.intro hR hr))
 have Ln := ab hC
 clear hP hs hR hr hC
 go_enter Tryz.func54, Tryz.ntmps54
 go_wp2_with (fail)
 refine (HP.out _ HB.out).mono ?_
 rintro e w1 ⟨f, j, rfl, hb⟩
 have HB1 := ab (below_step HB.out hb)
 clear hb
 go_wp2_with (first | (refine ax 5 #[.int .i64 0, .string (⟨#[]⟩ : av), .string (⟨#[]⟩ : av), .float .f64 (0 : Nat), .int .i64 0, .slice none 0 0] 55 ?_; intro b5 hg w2 hz hb; have HB2 := ab (below_step HB1.out hb); have Z2 := ab hz; have G5 := ab (show w.heap.size ≤ b5 by rw [hg]; exact HB1.out.size); obtain ⟨p0, p1, p2, p3, p4, p5, q0, q1, q2, q3, q4, q5⟩ := cz6 hz; clear hb hz hg))
 have Z3 := ab (blk_put (cs' := #[.int .i64 ty, .string R, .string str, .float .f64 f, .int .i64 j, .slice none 0 0]) (blk_put (blk_put (blk_put (blk_put (blk_put Z2.out 0 (.int .i64 ty) rfl) 1 (.string R) rfl) 2 (.string str) rfl) 3 (.float .f64 f) rfl) 4 (.int .i64 j) rfl) 5 (.slice none 0 0) rfl)
 have HB3 := ab (below_set (v := .slice none 0 0) (j := 5) (below_set (v := .int .i64 j) (j := 4) (below_set (v := .float .f64 f) (j := 3) (below_set (v := .string str) (j := 2) (below_set (v := .string R) (j := 1) (below_set (v := .int .i64 ty) (j := 0) HB2.out G5.out) G5.out) G5.out) G5.out) G5.out) G5.out)
 clear p0 p1 p2 p3 p4 p5 q0 q1 q2 q3 q4 q5 Z2 HB2
 generalize ((((((w2.setCell ⟨b5, 0, none⟩ (.int .i64 ty)).setCell ⟨b5, 1, none⟩ (.string R)).setCell ⟨b5, 2, none⟩ (.string str)).setCell ⟨b5, 3, none⟩ (.float .f64 f)).setCell ⟨b5, 4, none⟩ (.int .i64 j)).setCell ⟨b5, 5, none⟩ (.slice none 0 0)) = w3 at Z3 HB3 ⊢
 rcases Ln.out with ⟨h5, hT⟩ | ⟨rfl, rfl, hW, ps, hL, ⟨h9, hq, hT⟩ | ⟨h9, hq, hT⟩⟩
 ·refine (isarr_calls ty R str f j (.slice none 0 0) w3 HS.out.2.2).mono ?_
  rintro e w4 ⟨rfl, hb⟩
  have e1 : ∀ c : Int, (ty == 5 && at_ R 0 == c) = false := fun c => by rw [ah h5]; rfl
  rw [e1]
  have Z4 := ab (blk_below Z3.out hb)
  have HB4 := ab (below_step HB3.out hb)
  obtain ⟨p0, p1, p2, p3, p4, p5, q0, q1, q2, q3, q4, q5⟩ := cz6 Z4.out
  clear hb
  go_wp2_with (fail)
  refine (isobj_calls ty R str f j (.slice none 0 0) w4 HS.out.2.2).mono ?_
  rintro e w5 ⟨rfl, hb⟩
  rw [e1]
  have HB5 := ab (below_step HB4.out hb)
  clear hb
  go_wp2
  go_ret
  exact ⟨_, hT, rfl, HB5.out⟩
 ·have HL := ab hL
  have HW := ab hW
  have HQ := ab hq
  have H9 := ab h9
  have HX0 := ab hT
  clear hL hW hq h9 hT Ln
  refine (isarr_calls 5 R ⟨#[]⟩ f j (.slice none 0 0) w3 HS.out.2.2).mono ?_
  rintro e w4 ⟨rfl, hb⟩
  have e1 : ((5 : Int) == 5 && at_ R 0 == 91) = true := by rw [H9.out]; rfl
  rw [e1]
  have Z4 := ab (blk_below Z3.out hb)
  have HB4 := ab (below_step HB3.out hb)
  clear hb
  go_wp2_with (first | (refine ax 6 #[.slice none 0 0] 104 ?_; intro b6 hg w5 hz hb; have HB5 := ab (below_step HB4.out hb); have Z6 := ab hz; have Z5 := ab (blk_below Z4.out hb); have G6 := ab (show w.heap.size ≤ b6 by rw [hg]; exact HB4.out.size); obtain ⟨p0, p1, p2, p3, p4, p5, q0, q1, q2, q3, q4, q5⟩ := cz6 Z5.out; clear hb hz hg))
  clear p0 p1 p2 p3 p4 p5 q0 q1 q2 q3 q4 q5
  have hI : Rt b6 pV (fun q => q < w5.heap.size ∧ q ≠ b6) [] w5 := Rt.new Z6.out (fun q h => h.1) (fun h => h.2 rfl)
  refine (feach_calls (pV_iter b6) R ⟨#[]⟩ f j _ w5 w hI HW.out HB5.out (fun q hq => ⟨Nat.lt_of_lt_of_le hq HB5.out.size, by have := G6.out; omega⟩) HS.out.2.1 HS.out.2.2 ps HL.out).mono ?_
  rintro e w6 ⟨rfl, L, hT, ⟨hA1, hA2, v6, hz, ho⟩, hk⟩
  obtain ⟨l, hl⟩ : ∃ l, L.flatMap pV = l := ⟨_, rfl⟩
  rw [hl] at ho
  obtain ⟨A6, c6, rfl⟩ := Kd.R_slice ho
  have HC := ab (Kd.R_reads' ho).2.2
  have HZ := ab hz
  have HT := ab (And.intro hT hl)
  have HB6 := ab (HB5.out.trans (hk.below (fun q hq => ⟨Nat.lt_of_lt_of_le hq HB5.out.size, by have := G6.out; omega⟩) HB5.out.size))
  clear hA1 hA2 hz ho hk hI HB HB1 HB3 HB4 HB5 Z3 Z4 Z5 Z6 hT hl e1
  obtain ⟨i5, hi1, hi2, hi3, hi4⟩ := info_parts info5
  obtain ⟨w7, hmk, hown, hgr⟩ := run_make_own (P := Tryz.prog) w6 w6.heap.size 86 5 i5 (.int .u8 0) 1 Tryz.underlying86 hi1 hi2 hi3 .i64 .i64 s.size (by rw [hi4]; have := HS.out.1; omega) (by unfold maxLen; have := HS.out.1; omega) (Nat.le_refl _)
  have HB7 := ab ((Below.refl w6.heap.size w6).grown hgr (Nat.le_refl _) (fun k hk => by cases hk))
  have Ys := ab (show RB w7 w6.heap.size _ [] from Kd.R_of_own (enc := Value.int .u8) (xs := ([] : List Int)) hown (fun _ _ => trivial))
  clear hi1 hi2 hi3 hi4 hown hgr
  have HLn := ab (show l.length ≤ 1000000 by have h1 := (told_mem HT.out.1).2; have h2 := HL.out.len; have h3 := (flat_len L).1; rw [HT.out.2] at h3; omega)
  have HLq := ab (show ∀ g ∈ l, g.raw.size ≤ 1000000 from fun g hg => by
   rw [← HT.out.2] at hg
   obtain ⟨x, hx, hg⟩ := List.mem_flatMap.1 hg
   obtain ⟨P, hP, hx⟩ := (told_mem HT.out.1).1 x hx
   obtain rfl : g = x.2 := by simpa [pV] using hg
   exact HQ.out P hP x hx)
  obtain ⟨z8, f8, hz8⟩ : ∃ z, IntKind.i64.wrap ((l.length : Int) - 1) = z ∧ Aside0 (z = (l.length : Int) - 1) := ⟨_, wrp (by omega) (by have := HLn.out; omega), ⟨rfl⟩⟩
  go_wp2_with (((with_reducible refine gate_builtin (b := .append) (xs := #[.tmp 24, .tmp 25]) rfl ?_); at_builtin; refine app1 24 25 91 Ys.out HB7.out (by decide) ?_; intro v8 w8 ho hb; have HB8 := ab hb; have Dz := ab ho; have y6 : w8.cell? ⟨b6, 0, none⟩ = some (.slice A6 l.length c6) := (ay (blk_below HZ.out hb) 0); clear ho hb))
  (try simp only [Act.put, ap, aq, ar])
  go_loopg [7, 8, 9] (l.length + 1) (fun kq v7 v8 v9 wd => ∃ (x8 x9 : Int) (k : Nat) (x7 : List Int), v8 = .int .i64 x8 ∧ v9 = .int .i64 x9 ∧ Aside0 (x8 = (k : Int) - 1 ∧ x9 = (l.length : Int) - k ∧ k ≤ l.length ∧ k + 1 ≤ kq ∧ x7 = 91 :: inter ((l.drop k).reverse.map fun g => bytesOf g.raw) ∧ x7.length ≤ 1 + (l.length - k) * 1000001) ∧ Aside0 (RB wd w6.heap.size v7 x7) ∧ Aside0 (Below w6.heap.size w6 wd))
  case atStart => exact ⟨_, _, l.length, _, rfl, rfl, ⟨hz8.out, by omega, Nat.le_refl _, Nat.le_refl _, by rw [List.drop_length]; rfl, by simp⟩, Dz, HB8⟩
  case round =>
   clear Dz HB8 y6 f8 hmk
   obtain ⟨x8, x9, k, x7, rfl, rfl, HX, HO, HB⟩ := hrel
   obtain ⟨A7, c7, rfl⟩ := Kd.R_slice HO.out
   cases k with
   | zero =>
    have c1 : decide (x8 ≥ 0) = false := af (by have := HX.out.1; omega)
    go_wp2_with (((with_reducible refine gate_builtin (b := .append) (xs := #[.tmp 48, .tmp 49]) rfl ?_); at_builtin; refine app1 48 49 93 HO.out HB.out (by have := HX.out.2.2.2.2.2; have := HLn.out; omega) ?_; intro v9 w9 ho hb; have HB9 := ab hb; obtain ⟨A9, c9, rfl⟩ := Kd.R_slice ho; obtain ⟨n9, hn9⟩ : ∃ n, (x7 ++ [93]).length = n := ⟨_, rfl⟩; rw [hn9] at ho ⊢; have Ea := ab ho; clear hb ho))
    refine (bstr_calls Ea.out (by have := HX.out.2.2.2.2.2; have := HLn.out; simp only [List.length_append, List.length_singleton]; omega)).mono ?_
    rintro e w10 ⟨rfl, hb⟩
    have HB10 := ab (below_step HB9.out hb)
    clear hb
    go_wp2
    go_ret
    refine ⟨_, HX0.out L HT.out.1, ?_, HB6.out.trans (HB10.out.mono HB6.out.size)⟩
    show Ending.returned (.string (strOfNums (x7 ++ [93]))) = _
    rw [HX.out.2.2.2.2.1, boxV _ _ _ HT.out.2]
   | succ k =>
    cases gk with
    | zero => exact absurd HX.out.2.2.2.1 (by omega)
    | succ gj =>
    have P0 := ab (show 0 ≤ x8 by have := HX.out.1; omega)
    have P1 := ab (show x8 < (l.length : Int) by have := HX.out.1; have := HX.out.2.2.1; omega)
    have p0 : (0 ≤ x8) = True := ag P0.out
    have p1 : (x8 < (l.length : Int)) = True := ag P1.out
    have c1 : decide (x8 ≥ 0) = true := ae P0.out
    have hg := HLq.out (l.getD x8.toNat gr0) (by rw [List.getD_eq_getElem?_getD, List.getElem?_eq_getElem (by have := P0.out; have := P1.out; omega), Option.getD_some]; exact List.getElem_mem _)
    have HG := ab hg
    have HI := ab (inter_step (fun g : GR => bytesOf g.raw) gr0 l k Z79)
    have E8 := ab (show x8.toNat = k by have := HX.out.1; omega)
    clear hg
    obtain ⟨y, hy⟩ : ∃ y, (l.getD x8.toNat gr0).raw = y := ⟨_, rfl⟩
    have HY := ab hy
    obtain ⟨ad, rfl, hx0⟩ := at_GR (Kd.C_below HC.out HB.out) x8 P0.out P1.out
    rw [hy] at hx0 HG
    clear hy
    have y0 := (blk_cell (blk_below HZ.out HB.out) 0).trans (show #[(Value.slice (some ad) l.length c6)][0]? = some (.slice (some ad) l.length c6) from rfl)
    obtain ⟨z1, f1, hz1⟩ : ∃ z, IntKind.i64.wrap (x8 - 1) = z ∧ Aside0 (z = x8 - 1) := ⟨_, wrp (by have := P0.out; omega) Z80, ⟨rfl⟩⟩
    obtain ⟨z2, f2, hz2⟩ : ∃ z, IntKind.i64.wrap (x9 + 1) = z ∧ Aside0 (z = x9 + 1) := ⟨_, wrp Z87 (by have := HX.out.2.1; have := HLn.out; omega), ⟨rfl⟩⟩
    by_cases hk : k + 1 = l.length
    ·have d1 : decide (x9 > 0) = false := af (by have := HX.out.2.1; omega)
     have HK := ab hk
     clear hk
     go_wp2_with (((with_reducible refine gate_builtin (b := .append) (xs := #[.tmp 41, .tmp 46]) rfl ?_); at_builtin; refine appS 41 46 y HO.out HB.out (by have := HX.out.2.2.2.2.2; have := HLn.out; have := HG.out; omega) ?_; intro v10 w10 ho hb; have HB1 := ab hb; have mE := ab ho; clear hb ho))
     go_roundg gj
     case measure => exact Nat.lt_succ_self gj
     case rel => exact ⟨_, _, k, _, rfl, rfl, ⟨by have := hz1.out; have := HX.out.1; omega, Z92, Z79, by have := HX.out.2.2.2.1; omega, by rw [HI.out, if_pos HK.out, HX.out.2.2.2.2.1, HK.out, List.drop_length, ← E8.out, HY.out]; rfl, Z83⟩, mE, HB1⟩
    ·have d1 : decide (x9 > 0) = true := ae Z87
     have HK := ab hk
     clear hk
     go_wp2_with (first | ((with_reducible refine gate_builtin (b := .append) (xs := #[.tmp 38, .tmp 39]) rfl ?_); at_builtin; refine app1 38 39 44 HO.out HB.out (by have := HX.out.2.2.2.2.2; have := HLn.out; omega) ?_; intro v9 w9 ho hb; have HB9 := ab hb; have hx9 := (at_GR2 (Kd.C_below HC.out hb) x8 P0.out P1.out).trans (congrArg (fun y => some (Value.string y)) HY.out); obtain ⟨A9, c9, rfl⟩ := Kd.R_slice ho; obtain ⟨n9, hn9⟩ : ∃ n, (x7 ++ [44]).length = n := ⟨_, rfl⟩; rw [hn9] at ho ⊢; have Ea := ab ho; have y9 := (blk_cell (blk_below HZ.out hb) 0).trans (show #[(Value.slice (some ad) l.length c6)][0]? = some (.slice (some ad) l.length c6) from rfl); clear hb ho) | ((with_reducible refine gate_builtin (b := .append) (xs := #[.tmp 41, .tmp 46]) rfl ?_); at_builtin; refine appS 41 46 y Ea.out HB9.out (by have := HX.out.2.2.2.2.2; have := HLn.out; have := HG.out; simp only [List.length_append, List.length_singleton]; omega) ?_; intro v10 w10 ho hb; have HB1 := ab hb; have mE := ab ho; clear hb ho))
     go_roundg gj
     case measure => exact Nat.lt_succ_self gj
     case rel => exact ⟨_, _, k, _, rfl, rfl, ⟨by have := hz1.out; have := HX.out.1; omega, Z92, Z79, by have := HX.out.2.2.2.1; omega, by rw [HI.out, if_neg HK.out, HX.out.2.2.2.2.1, ← E8.out, HY.out]; simp only [List.cons_append, List.append_assoc, List.singleton_append, List.nil_append], Z83⟩, mE, HB1⟩
 ·have HL := ab hL
  have HW := ab hW
  have HQ := ab hq
  have H9 := ab h9
  have HX0 := ab hT
  clear hL hW hq h9 hT Ln
  refine (isarr_calls 5 R ⟨#[]⟩ f j (.slice none 0 0) w3 HS.out.2.2).mono ?_
  rintro e w4 ⟨rfl, hb⟩
  have e1 : ((5 : Int) == 5 && at_ R 0 == 91) = false := by rw [H9.out]; rfl
  rw [e1]
  have Z4 := ab (blk_below Z3.out hb)
  have HB4 := ab (below_step HB3.out hb)
  obtain ⟨p0, p1, p2, p3, p4, p5, q0, q1, q2, q3, q4, q5⟩ := cz6 Z4.out
  clear hb
  go_wp2_with (fail)
  refine (isobj_calls 5 R ⟨#[]⟩ f j (.slice none 0 0) w4 HS.out.2.2).mono ?_
  rintro e w45 ⟨rfl, hb⟩
  have e2 : ((5 : Int) == 5 && at_ R 0 == 123) = true := by rw [H9.out]; rfl
  rw [e2]
  replace Z4 := ab (blk_below Z4.out hb)
  replace HB4 := ab (below_step HB4.out hb)
  clear hb p0 p1 p2 p3 p4 p5 q0 q1 q2 q3 q4 q5
  go_wp2_with (first | (refine ax 10 #[.slice none 0 0] 104 ?_; intro b6 hg w5 hz hb; have HB5 := ab (below_step HB4.out hb); have Z6 := ab hz; have Z5 := ab (blk_below Z4.out hb); have G6 := ab (show w.heap.size ≤ b6 by rw [hg]; exact HB4.out.size); obtain ⟨p0, p1, p2, p3, p4, p5, q0, q1, q2, q3, q4, q5⟩ := cz6 Z5.out; clear hb hz hg))
  clear p0 p1 p2 p3 p4 p5 q0 q1 q2 q3 q4 q5
  have hI : Rt b6 pKV (fun q => q < w5.heap.size ∧ q ≠ b6) [] w5 := Rt.new Z6.out (fun q h => h.1) (fun h => h.2 rfl)
  refine (feach_calls (pKV_iter b6) R ⟨#[]⟩ f j _ w5 w hI HW.out HB5.out (fun q hq => ⟨Nat.lt_of_lt_of_le hq HB5.out.size, by have := G6.out; omega⟩) HS.out.2.1 HS.out.2.2 ps HL.out).mono ?_
  rintro e w6 ⟨rfl, L, hT, ⟨hA1, hA2, v6, hz, ho⟩, hk⟩
  obtain ⟨l, hl⟩ : ∃ l, L.flatMap pKV = l := ⟨_, rfl⟩
  rw [hl] at ho
  obtain ⟨A6, c6, rfl⟩ := Kd.R_slice ho
  have HC := ab (Kd.R_reads' ho).2.2
  have HZ := ab hz
  have HT := ab (And.intro hT hl)
  have HB6 := ab (HB5.out.trans (hk.below (fun q hq => ⟨Nat.lt_of_lt_of_le hq HB5.out.size, by have := G6.out; omega⟩) HB5.out.size))
  clear hA1 hA2 hz ho hk hI HB HB1 HB3 HB4 HB5 Z3 Z4 Z5 Z6 hT hl e1 e2
  obtain ⟨i5, hi1, hi2, hi3, hi4⟩ := info_parts info5
  obtain ⟨w7, hmk, hown, hgr⟩ := run_make_own (P := Tryz.prog) w6 w6.heap.size 86 5 i5 (.int .u8 0) 1 Tryz.underlying86 hi1 hi2 hi3 .i64 .i64 s.size (by rw [hi4]; have := HS.out.1; omega) (by unfold maxLen; have := HS.out.1; omega) (Nat.le_refl _)
  have HB7 := ab ((Below.refl w6.heap.size w6).grown hgr (Nat.le_refl _) (fun k hk => by cases hk))
  have Ys := ab (show RB w7 w6.heap.size _ [] from Kd.R_of_own (enc := Value.int .u8) (xs := ([] : List Int)) hown (fun _ _ => trivial))
  clear hi1 hi2 hi3 hi4 hown hgr
  have HLn := ab (show L.length ≤ 1000000 ∧ l.length = 2 * L.length by have h1 := (told_mem HT.out.1).2; have h2 := HL.out.len; have h3 := (flat_len L).2; rw [HT.out.2] at h3; exact ⟨by omega, h3⟩)
  have HLq := ab (show ∀ x ∈ L, x.1.raw.size ≤ 1000000 ∧ x.2.raw.size ≤ 1000000 from fun x hx => by
   obtain ⟨P, hP, hx⟩ := (told_mem HT.out.1).1 x hx
   exact HQ.out P hP x hx)
  obtain ⟨z8, f8, hz8⟩ : ∃ z, IntKind.i64.wrap ((l.length : Int) - 2) = z ∧ Aside0 (z = (l.length : Int) - 2) := ⟨_, wrp (by omega) (by have := HLn.out; omega), ⟨rfl⟩⟩
  go_wp2_with (((with_reducible refine gate_builtin (b := .append) (xs := #[.tmp 61, .tmp 62]) rfl ?_); at_builtin; refine app1 61 62 123 Ys.out HB7.out (by decide) ?_; intro v8 w8 ho hb; have HB8 := ab hb; have Dz := ab ho; have y6 : w8.cell? ⟨b6, 0, none⟩ = some (.slice A6 l.length c6) := (ay (blk_below HZ.out hb) 0); clear ho hb))
  (try simp only [Act.put, ap, aq, ar])
  go_loopg [11, 12, 13] (L.length + 1) (fun kq v7 v8 v9 wd => ∃ (x8 x9 : Int) (k : Nat) (x7 : List Int), v8 = .int .i64 x8 ∧ v9 = .int .i64 x9 ∧ Aside0 (x8 = 2 * (k : Int) - 2 ∧ x9 = (L.length : Int) - k ∧ k ≤ L.length ∧ k + 1 ≤ kq ∧ x7 = 123 :: inter ((L.drop k).reverse.map rawP) ∧ x7.length ≤ 1 + (L.length - k) * 2000003) ∧ Aside0 (RB wd w6.heap.size v7 x7) ∧ Aside0 (Below w6.heap.size w6 wd))
  case atStart => exact ⟨_, _, L.length, _, rfl, rfl, ⟨by have := hz8.out; have := HLn.out; omega, by omega, Nat.le_refl _, Nat.le_refl _, by rw [List.drop_length]; rfl, by simp⟩, Dz, HB8⟩
  case round =>
   clear Dz HB8 y6 f8 hmk
   obtain ⟨x8, x9, k, x7, rfl, rfl, HX, HO, HB⟩ := hrel
   obtain ⟨A7, c7, rfl⟩ := Kd.R_slice HO.out
   cases k with
   | zero =>
    have c1 : decide (x8 ≥ 0) = false := af (by have := HX.out.1; omega)
    go_wp2_with (((with_reducible refine gate_builtin (b := .append) (xs := #[.tmp 97, .tmp 98]) rfl ?_); at_builtin; refine app1 97 98 125 HO.out HB.out (by have := HX.out.2.2.2.2.2; have := HLn.out; omega) ?_; intro v9 w9 ho hb; have HB9 := ab hb; obtain ⟨A9, c9, rfl⟩ := Kd.R_slice ho; obtain ⟨n9, hn9⟩ : ∃ n, (x7 ++ [125]).length = n := ⟨_, rfl⟩; rw [hn9] at ho ⊢; have Ea := ab ho; clear hb ho))
    refine (bstr_calls Ea.out (by have := HX.out.2.2.2.2.2; have := HLn.out; simp only [List.length_append, List.length_singleton]; omega)).mono ?_
    rintro e w10 ⟨rfl, hb⟩
    have HB10 := ab (below_step HB9.out hb)
    clear hb
    go_wp2
    go_ret
    refine ⟨_, HX0.out L HT.out.1, ?_, HB6.out.trans (HB10.out.mono HB6.out.size)⟩
    show Ending.returned (.string (strOfNums (x7 ++ [125]))) = _
    rw [HX.out.2.2.2.2.1]
    rfl
   | succ k =>
    cases gk with
    | zero => exact absurd HX.out.2.2.2.1 (by omega)
    | succ gj =>
    have P0 := ab (show 0 ≤ x8 by have := HX.out.1; omega)
    have P1 := ab (show x8 < (l.length : Int) by have := HX.out.1; have := HX.out.2.2.1; have := HLn.out; omega)
    have p0 : (0 ≤ x8) = True := ag P0.out
    have p1 : (x8 < (l.length : Int)) = True := ag P1.out
    have c1 : decide (x8 ≥ 0) = true := ae P0.out
    obtain ⟨z0, f0, hz0⟩ : ∃ z, IntKind.i64.wrap (x8 + 1) = z ∧ Aside0 (z = x8 + 1) := ⟨_, wrp (by have := P0.out; omega) Z80, ⟨rfl⟩⟩
    have g0 : IntKind.i64.wrap (x8 + 0) = x8 := (wrp (by have := P0.out; omega) Z80).trans (Int.add_zero _)
    have g1 : IntKind.i64.wrap x8 = x8 := wrp (by have := P0.out; omega) Z80
    have Q0 := ab (show 0 ≤ z0 by have := P0.out; have := hz0.out; omega)
    have Q1 := ab (show z0 < (l.length : Int) by have := HX.out.1; have := HX.out.2.2.1; have := HLn.out; have := hz0.out; omega)
    have q0 : (0 ≤ z0) = True := ag Q0.out
    have q1 : (z0 < (l.length : Int)) = True := ag Q1.out
    obtain ⟨ya, hya⟩ : ∃ y, (l.getD x8.toNat gr0).raw = y := ⟨_, rfl⟩
    obtain ⟨yb, hyb⟩ : ∃ y, (l.getD z0.toNat gr0).raw = y := ⟨_, rfl⟩
    have HYa := ab hya
    have HYb := ab hyb
    have hp := pkv_get L k
    rw [HT.out.2, show 2 * k = x8.toNat by have := HX.out.1; omega, show x8.toNat + 1 = z0.toNat by have := hz0.out; have := P0.out; omega] at hp
    have hg := HLq.out (L.getD k (gr0, gr0)) (by rw [List.getD_eq_getElem?_getD, List.getElem?_eq_getElem Z79, Option.getD_some]; exact List.getElem_mem _)
    have HP2 := ab (show rawP (L.getD k (gr0, gr0)) = bytesOf ya ++ 58 :: bytesOf yb by rw [← hya, ← hyb, hp.1, hp.2]; rfl)
    rw [← hp.1, ← hp.2, hya, hyb] at hg
    have HGa := ab hg.1
    have HGb := ab hg.2
    have HI := ab (inter_step rawP (gr0, gr0) L k Z79)
    clear hg hp
    obtain ⟨ad, rfl, hxa⟩ := at_GR (Kd.C_below HC.out HB.out) x8 P0.out P1.out
    have hxb := at_GR2 (Kd.C_below HC.out HB.out) z0 Q0.out Q1.out
    rw [hya] at hxa
    rw [hyb] at hxb
    clear hya hyb
    have y0 := (blk_cell (blk_below HZ.out HB.out) 0).trans (show #[(Value.slice (some ad) l.length c6)][0]? = some (.slice (some ad) l.length c6) from rfl)
    obtain ⟨z1, f1, hz1⟩ : ∃ z, IntKind.i64.wrap (x8 - 2) = z ∧ Aside0 (z = x8 - 2) := ⟨_, wrp (by have := P0.out; omega) Z80, ⟨rfl⟩⟩
    obtain ⟨z2, f2, hz2⟩ : ∃ z, IntKind.i64.wrap (x9 + 1) = z ∧ Aside0 (z = x9 + 1) := ⟨_, wrp Z87 (by have := HX.out.2.1; have := HLn.out; omega), ⟨rfl⟩⟩
    by_cases hk : k + 1 = L.length
    ·have d1 : decide (x9 > 0) = false := af (by have := HX.out.2.1; omega)
     have HK := ab hk
     clear hk
     go_wp2_with (first | ((with_reducible refine gate_builtin (b := .append) (xs := #[.tmp 78, .tmp 84]) rfl ?_); at_builtin; refine appS 78 84 ya HO.out HB.out (by have := HX.out.2.2.2.2.2; have := HLn.out; have := HGa.out; have := HGb.out; omega) ?_; intro v w9 ho hb; have HB21 := ab hb; obtain ⟨x21, e21⟩ : ∃ x, x7 ++ bytesOf ya = x := ⟨_, rfl⟩; rw [e21] at ho; obtain ⟨Ap, c21, rfl⟩ := Kd.R_slice ho; have Bo := ab ho; have EN21 := ab e21; have HE21 := ab (show x21.length = x7.length + ya.size by rw [← e21, List.length_append]; first | rfl | (rw [bytesOf_length])); have hxa21 := (at_GR2 (Kd.C_below HC.out hb) x8 P0.out P1.out).trans (congrArg (fun y => some (Value.string y)) HYa.out); have hxb21 := (at_GR2 (Kd.C_below HC.out hb) z0 Q0.out Q1.out).trans (congrArg (fun y => some (Value.string y)) HYb.out); have y21 := (blk_cell (blk_below HZ.out hb) 0).trans (show #[(Value.slice (some ad) l.length c6)][0]? = some (.slice (some ad) l.length c6) from rfl); clear hb ho e21) | ((with_reducible refine gate_builtin (b := .append) (xs := #[.tmp 86, .tmp 87]) rfl ?_); at_builtin; refine app1 86 87 58 Bo.out HB21.out (by have := HX.out.2.2.2.2.2; have := HLn.out; have := HGa.out; have := HGb.out; have := HE21.out; omega) ?_; intro v w9 ho hb; have HB22 := ab hb; obtain ⟨x22, e22⟩ : ∃ x, x21 ++ [58] = x := ⟨_, rfl⟩; rw [e22] at ho; obtain ⟨Dv, c22, rfl⟩ := Kd.R_slice ho; have sJ := ab ho; have EN22 := ab e22; have HE22 := ab (show x22.length = x21.length + 1 by rw [← e22, List.length_append]; first | rfl | (rw [bytesOf_length])); have hxa22 := (at_GR2 (Kd.C_below HC.out hb) x8 P0.out P1.out).trans (congrArg (fun y => some (Value.string y)) HYa.out); have hxb22 := (at_GR2 (Kd.C_below HC.out hb) z0 Q0.out Q1.out).trans (congrArg (fun y => some (Value.string y)) HYb.out); have y22 := (blk_cell (blk_below HZ.out hb) 0).trans (show #[(Value.slice (some ad) l.length c6)][0]? = some (.slice (some ad) l.length c6) from rfl); clear hb ho e22) | ((with_reducible refine gate_builtin (b := .append) (xs := #[.tmp 89, .tmp 95]) rfl ?_); at_builtin; refine appS 89 95 yb sJ.out HB22.out (by have := HX.out.2.2.2.2.2; have := HLn.out; have := HGa.out; have := HGb.out; have := HE21.out; have := HE22.out; omega) ?_; intro v w9 ho hb; have HB23 := ab hb; obtain ⟨x23, e23⟩ : ∃ x, x22 ++ bytesOf yb = x := ⟨_, rfl⟩; rw [e23] at ho; obtain ⟨A23, c23, rfl⟩ := Kd.R_slice ho; have Bp := ab ho; have EN23 := ab e23; have HE23 := ab (show x23.length = x22.length + yb.size by rw [← e23, List.length_append]; first | rfl | (rw [bytesOf_length])); have hxa23 := (at_GR2 (Kd.C_below HC.out hb) x8 P0.out P1.out).trans (congrArg (fun y => some (Value.string y)) HYa.out); have hxb23 := (at_GR2 (Kd.C_below HC.out hb) z0 Q0.out Q1.out).trans (congrArg (fun y => some (Value.string y)) HYb.out); have y23 := (blk_cell (blk_below HZ.out hb) 0).trans (show #[(Value.slice (some ad) l.length c6)][0]? = some (.slice (some ad) l.length c6) from rfl); clear hb ho e23))
     go_roundg gj
     case measure => exact Nat.lt_succ_self gj
     case rel => exact ⟨_, _, k, _, rfl, rfl, ⟨by have := hz1.out; have := HX.out.1; omega, Z92, Z79, by have := HX.out.2.2.2.1; omega, by rw [HI.out, if_pos HK.out, ← EN23.out, ← EN22.out, ← EN21.out, HX.out.2.2.2.2.1, HK.out, List.drop_length, HP2.out]; simp only [List.cons_append, List.append_assoc, List.singleton_append, List.nil_append]; rfl, by have := HE23.out; have := HE22.out; have := HE21.out; have := HGa.out; have := HGb.out; have := HX.out.2.2.2.2.2; have := HX.out.2.2.1; omega⟩, Bp, HB23⟩
    ·have d1 : decide (x9 > 0) = true := ae Z87
     have HK := ab hk
     clear hk
     go_wp2_with (first | ((with_reducible refine gate_builtin (b := .append) (xs := #[.tmp 75, .tmp 76]) rfl ?_); at_builtin; refine app1 75 76 44 HO.out HB.out (by have := HX.out.2.2.2.2.2; have := HLn.out; have := HGa.out; have := HGb.out; omega) ?_; intro v w9 ho hb; have HB20 := ab hb; obtain ⟨x20, e20⟩ : ∃ x, x7 ++ [44] = x := ⟨_, rfl⟩; rw [e20] at ho; obtain ⟨A20, c20, rfl⟩ := Kd.R_slice ho; have Yt := ab ho; have EN20 := ab e20; have HE20 := ab (show x20.length = x7.length + 1 by rw [← e20, List.length_append]; first | rfl | (rw [bytesOf_length])); have hxa20 := (at_GR2 (Kd.C_below HC.out hb) x8 P0.out P1.out).trans (congrArg (fun y => some (Value.string y)) HYa.out); have hxb20 := (at_GR2 (Kd.C_below HC.out hb) z0 Q0.out Q1.out).trans (congrArg (fun y => some (Value.string y)) HYb.out); have y20 := (blk_cell (blk_below HZ.out hb) 0).trans (show #[(Value.slice (some ad) l.length c6)][0]? = some (.slice (some ad) l.length c6) from rfl); clear hb ho e20) | ((with_reducible refine gate_builtin (b := .append) (xs := #[.tmp 78, .tmp 84]) rfl ?_); at_builtin; refine appS 78 84 ya Yt.out HB20.out (by have := HX.out.2.2.2.2.2; have := HLn.out; have := HGa.out; have := HGb.out; have := HE20.out; omega) ?_; intro v w9 ho hb; have HB21 := ab hb; obtain ⟨x21, e21⟩ : ∃ x, x20 ++ bytesOf ya = x := ⟨_, rfl⟩; rw [e21] at ho; obtain ⟨Ap, c21, rfl⟩ := Kd.R_slice ho; have Bo := ab ho; have EN21 := ab e21; have HE21 := ab (show x21.length = x20.length + ya.size by rw [← e21, List.length_append]; first | rfl | (rw [bytesOf_length])); have hxa21 := (at_GR2 (Kd.C_below HC.out hb) x8 P0.out P1.out).trans (congrArg (fun y => some (Value.string y)) HYa.out); have hxb21 := (at_GR2 (Kd.C_below HC.out hb) z0 Q0.out Q1.out).trans (congrArg (fun y => some (Value.string y)) HYb.out); have y21 := (blk_cell (blk_below HZ.out hb) 0).trans (show #[(Value.slice (some ad) l.length c6)][0]? = some (.slice (some ad) l.length c6) from rfl); clear hb ho e21) | ((with_reducible refine gate_builtin (b := .append) (xs := #[.tmp 86, .tmp 87]) rfl ?_); at_builtin; refine app1 86 87 58 Bo.out HB21.out (by have := HX.out.2.2.2.2.2; have := HLn.out; have := HGa.out; have := HGb.out; have := HE20.out; have := HE21.out; omega) ?_; intro v w9 ho hb; have HB22 := ab hb; obtain ⟨x22, e22⟩ : ∃ x, x21 ++ [58] = x := ⟨_, rfl⟩; rw [e22] at ho; obtain ⟨Dv, c22, rfl⟩ := Kd.R_slice ho; have sJ := ab ho; have EN22 := ab e22; have HE22 := ab (show x22.length = x21.length + 1 by rw [← e22, List.length_append]; first | rfl | (rw [bytesOf_length])); have hxa22 := (at_GR2 (Kd.C_below HC.out hb) x8 P0.out P1.out).trans (congrArg (fun y => some (Value.string y)) HYa.out); have hxb22 := (at_GR2 (Kd.C_below HC.out hb) z0 Q0.out Q1.out).trans (congrArg (fun y => some (Value.string y)) HYb.out); have y22 := (blk_cell (blk_below HZ.out hb) 0).trans (show #[(Value.slice (some ad) l.length c6)][0]? = some (.slice (some ad) l.length c6) from rfl); clear hb ho e22) | ((with_reducible refine gate_builtin (b := .append) (xs := #[.tmp 89, .tmp 95]) rfl ?_); at_builtin; refine appS 89 95 yb sJ.out HB22.out (by have := HX.out.2.2.2.2.2; have := HLn.out; have := HGa.out; have := HGb.out; have := HE20.out; have := HE21.out; have := HE22.out; omega) ?_; intro v w9 ho hb; have HB23 := ab hb; obtain ⟨x23, e23⟩ : ∃ x, x22 ++ bytesOf yb = x := ⟨_, rfl⟩; rw [e23] at ho; obtain ⟨A23, c23, rfl⟩ := Kd.R_slice ho; have Bp := ab ho; have EN23 := ab e23; have HE23 := ab (show x23.length = x22.length + yb.size by rw [← e23, List.length_append]; first | rfl | (rw [bytesOf_length])); have hxa23 := (at_GR2 (Kd.C_below HC.out hb) x8 P0.out P1.out).trans (congrArg (fun y => some (Value.string y)) HYa.out); have hxb23 := (at_GR2 (Kd.C_below HC.out hb) z0 Q0.out Q1.out).trans (congrArg (fun y => some (Value.string y)) HYb.out); have y23 := (blk_cell (blk_below HZ.out hb) 0).trans (show #[(Value.slice (some ad) l.length c6)][0]? = some (.slice (some ad) l.length c6) from rfl); clear hb ho e23))
     go_roundg gj
     case measure => exact Nat.lt_succ_self gj
     case rel => exact ⟨_, _, k, _, rfl, rfl, ⟨by have := hz1.out; have := HX.out.1; omega, Z92, Z79, by have := HX.out.2.2.2.1; omega, by rw [HI.out, if_neg HK.out, ← EN23.out, ← EN22.out, ← EN21.out, ← EN20.out, HX.out.2.2.2.2.1, HP2.out]; simp only [List.cons_append, List.append_assoc, List.singleton_append, List.nil_append], by have := HE23.out; have := HE22.out; have := HE21.out; have := HE20.out; have := HGa.out; have := HGb.out; have := HX.out.2.2.2.2.2; have := HX.out.2.2.1; omega⟩, Bp, HB23⟩
end
section
open Go.RowKit Go.PW Go.PL Go.PM Sp Dec
attribute [local go_sem] run_store_float max2_int min2_int max_two min_two max_three min_three max_four min_four
set_option linter.unusedVariables false
set_option linter.unusedSimpArgs false
set_option maxRecDepth 100000
set_option maxHeartbeats 8000000
theorem gjrev_calls {s : av} {w : World} {Q : Ending → World → Prop} (h : Calls Tryz.prog 54 #[.string s, .string ⟨#[]⟩] w fun e w' => ∃ o : av, e = .returned (.string o) ∧ Q e w') :
  Calls Tryz.prog 15 #[.string s] w fun e w' => ∃ o : av, e = .returned (.string o) ∧ Q e w' := by
 have h32 : Calls Tryz.prog 32 #[.string s] w fun e w' => ∃ o : av, e = .returned (.string o) ∧ Q e w' := by
  go_enter Tryz.func32, Tryz.ntmps32
  go_wp2_with (fail)
  refine h.mono ?_
  rintro e w1 ⟨o, rfl, hq⟩
  go_wp2
  go_ret
  exact ⟨o, rfl, hq⟩
 clear h
 go_enter Tryz.func15, Tryz.ntmps15
 go_wp2_with (fail)
 refine h32.mono ?_
 rintro e w1 ⟨o, rfl, hq⟩
 go_wp2
 go_ret
 exact ⟨o, rfl, hq⟩
end
end Go.Proofs.YtkjnahgicfmicaaGreatDoor.Gj

import Derived.Test.YtmpdhdnoohmndaaGreatDoorPs
import Derived.Test.YtmpdhdnoohmndaaGreatDoorApp
namespace Go.Proofs.YtmpdhdnoohmndaaGreatDoor.So
open Go.RowKit Go.Shelf Go.Proofs.YtmpdhdnoohmndaaGreatDoorW.PrintWords Go.Proofs.YtmpdhdnoohmndaaGreatDoorW.PrintLast Go.Proofs.YtmpdhdnoohmndaaGreatDoorW.PrintMore Sp Gj Pr
set_option linter.unusedVariables false
set_option linter.unusedSimpArgs false
def joinN (n : Nat) (f : Nat → List Int) : List Int := (List.range (n - 1)).flatMap (fun k => f k ++ [44, 10]) ++ f (n - 1)
theorem pso_sorter {w0 : World} {A P off : Nat} {J jo len cj : Nat} {bf : Value} {n c : Nat} {pl : Nat → Nat → Int} {nm : Nat → List Int} (X : PX w0 J jo len cj n pl nm) (hJA : J ≠ A) (hJP : J ≠ P) :
  Sorter (.pointer (some ⟨A, 0, none⟩)) n (ltN n nm) (fun D w => PS w0 A P off (.slice (some ⟨J, jo, none⟩) len cj) bf n c pl D w ∧ ∀ k, k < n → D k < n) where
 mS := meth A
 mL := methL A
 mN := methN A
 drew q h := ⟨h.1.drew q, h.2⟩
 less := by
  intro D w i j x y h hi hj hne hx hy
  exact (less_calls X hJA hJP h.1 h.2 i j hi hj hne hx hy).mono fun e w' hh => ⟨hh.1, hh.2, h.2⟩
 swap := by
  intro D w i j x y h hi hj hij hx hy
  exact (swap_calls h.1 i j hi hj hij X.hn hx hy).mono fun e w' hh => ⟨hh.1, hh.2, fun k hk => by unfold swp; split; exact h.2 j hj; split; exact h.2 i hi; exact h.2 k hk⟩
 len h := (len_calls h.1).mono fun e w' hh => ⟨hh.1, hh.2, h.2⟩
 big := X.hn
theorem PX.below {w w1 : World} {J jo len cj n : Nat} {pl : Nat → Nat → Int} {nm : Nat → List Int} (X : PX w J jo len cj n pl nm) (h : Below w.heap.size w w1) : PX w1 J jo len cj n pl nm :=
 ⟨fun x hx => by obtain ⟨k, h1, h2, h3, h4⟩ := (X.nms x hx).at_; exact ⟨k, h1, h2, h3, h4.kp (Kp.of_below (A := fun _ => True) h) X.hJ trivial⟩, X.dif, Nat.lt_of_lt_of_le X.hJ h.size, X.hl, X.hn⟩
theorem ps_start {w : World} {P off n c : Nat} {js bf : Value} {pl : Nat → Nat → Int} (row : ∀ i, i < n → P4 w P (off + i * 4) (pl i)) (fz : ∀ i, i < n * 4 → w.frozen? ⟨P, off + i, none⟩ = false) (hP : P < w.heap.size) :
  PS (w.alloc (.cells #[.bool false, js, bf, .slice (some ⟨P, off, none⟩) n c] 126)) w.heap.size P off js bf n c pl id (w.alloc (.cells #[.bool false, js, bf, .slice (some ⟨P, off, none⟩) n c] 126)) := by
 have hb : Below w.heap.size w (w.alloc (.cells #[.bool false, js, bf, .slice (some ⟨P, off, none⟩) n c] 126)) := below_alloc (Below.refl _ _) _
 refine ⟨⟨false, heap_alloc_new w _, fun _ => rfl⟩, fun i hi => ?_, fun i hi => ?_, Kp.refl _ _, by omega⟩
 ·obtain ⟨h0, h1, h2, h3⟩ := row i hi
  exact ⟨(hb.cell hP).trans h0, (hb.cell hP).trans h1, (hb.cell hP).trans h2, (hb.cell hP).trans h3⟩
 ·exact (hb.frozen hP).trans (fz i hi)
theorem inj_id (n : Nat) : Inj id n := fun _ _ _ _ h => h
def accN (m : Nat) (f : Nat → List Int) (i : Nat) : List Int := if i ≤ m then (List.range i).flatMap (fun k => f k ++ [44, 10]) else joinN (m + 1) f
theorem acc_zero (m : Nat) (f : Nat → List Int) : accN m f 0 = [] := by unfold accN; rw [if_pos (Nat.zero_le _)]; rfl
theorem acc_step {m i : Nat} {f : Nat → List Int} (h : i < m) : accN m f (i + 1) = accN m f i ++ f i ++ [44] ++ [10] := by
 unfold accN
 rw [if_pos (by omega), if_pos (by omega), List.range_succ, List.flatMap_append]
 simp [List.append_assoc]
theorem acc_last {m : Nat} {f : Nat → List Int} : accN m f (m + 1) = accN m f m ++ f m := by
 unfold accN joinN
 rw [if_neg (by omega), if_pos (Nat.le_refl _)]
 rfl
theorem acc_len {m L : Nat} {f : Nat → List Int} (hf : ∀ k, k ≤ m → (f k).length ≤ L) : ∀ i, i ≤ m → (accN m f i).length ≤ i * (L + 2)
 | 0, _ => by rw [acc_zero]; exact Nat.zero_le _
 | i + 1, h => by
  have ih := acc_len hf i (by omega)
  have := hf i (by omega)
  rw [acc_step (by omega)]
  simp only [List.length_append, List.length_cons, List.length_nil]
  rw [Nat.add_mul]
  omega
theorem P4.kept {w w' : World} {P o : Nat} {x : Nat → Int} {S : Nat → Prop} (h : P4 w P o x) (k : Kept w w' S) (hP : P < w.heap.size) (hS : ¬ S P) : P4 w' P o x := by
 have hc : ∀ a : Addr, a.block = P → w'.cell? a = w.cell? a := fun a e => World.cell?_of_block (w := w) (by rw [e]; exact k.2 P hP hS)
 obtain ⟨h0, h1, h2, h3⟩ := h
 exact ⟨(hc _ rfl).trans h0, (hc _ rfl).trans h1, (hc _ rfl).trans h2, (hc _ rfl).trans h3⟩
theorem wi {i n : Nat} (h : i < n) (hn : n ≤ 1000000) : wrap64 ((i : Int) + 1) = ((i + 1 : Nat) : Int) := by unfold wrap64; omega
theorem mk_b2 {q b : Nat} (h : q ≤ 1000000000000) (hb : b = 1) : b * q ≤ 281474976710656 := by subst hb; omega
theorem mk_b3 {q : Nat} (h : q ≤ 1000000000000) : q ≤ maxLen := by unfold maxLen; omega
structure Seg (l pre : List Int) (n : Nat) (pl : Nat → Nat → Int) (sg : Nat → List Int) : Prop where
 eq : l = pre ++ joinN n sg
 at_ : ∀ i, i < n → ∃ s t : Nat, pl i 2 = s ∧ pl i 3 = t ∧ s ≤ t ∧ t ≤ l.length ∧ (l.take t).drop s = sg i
 st : pl 0 2 = pre.length
 en : pl (n - 1) 3 = l.length
theorem sp_after {w0 w w2 : World} {P0 : Nat → Prop} {Ab : Option Addr} {cb : Nat} {l : List Int} {P off n c q : Nat} {js : Value} {pl : Nat → Nat → Int} {D : Nat → Nat} (HB : Below w0.heap.size w0 w) (HO : RB w w0.heap.size P0 (.slice Ab l.length cb) l)
  (h : PS (w.alloc (.cells #[.bool false, js, .slice Ab l.length cb, .slice (some ⟨P, off, none⟩) n c] 126)) w.heap.size P off js (.slice Ab l.length cb) n c pl D w2) (hP0 : ¬ P0 P) (hP1 : P < w.heap.size) (hP2 : w0.heap.size ≤ P) (hq : q ≤ 1000000000000) :
  Below w0.heap.size w0 w2 ∧ Kept w w2 (fun k => P0 k ∨ k = P) ∧ RB w2 w0.heap.size P0 (.slice Ab l.length cb) l ∧ w.heap.size < w2.heap.size ∧ ∃ w3, (Instr.makeSlice 51 (.int .i64 0) (.int .i64 q)).run Tryz.prog w2 = .ok (.slice (some ⟨w2.heap.size, 0, none⟩) 0 q) w3 ∧ Bs w0 w2 (fun _ => False) w3 (.slice (some ⟨w2.heap.size, 0, none⟩) 0 q) [] := by
 have hlt : w.heap.size < (w.alloc (.cells #[.bool false, js, .slice Ab l.length cb, .slice (some ⟨P, off, none⟩) n c] 126)).heap.size := by show w.heap.size < (w.heap.push _).size; rw [Array.size_push]; omega
 have kw : ∀ k, k < w.heap.size → k ≠ P → w2.heap[k]? = w.heap[k]? := fun k hk hkP => (h.kp.block k (by omega) ⟨by omega, hkP⟩).trans ((below_alloc (Below.refl w.heap.size w) _).block k hk)
 have hsz : w.heap.size < w2.heap.size := Nat.lt_of_lt_of_le hlt h.kp.size
 have hB2 : Below w0.heap.size w0 w2 := (below_alloc HB _).trans (h.kp.below (fun k hk => ⟨by have := below_size HB; omega, by omega⟩) (below_size (below_alloc HB _)))
 refine ⟨hB2, ⟨Nat.le_of_lt hsz, fun k hk hn => kw k hk (fun e => hn (.inr e))⟩, Kd.R_step HO (fun k hk hlt => kw k hlt (fun e => hP0 (e ▸ hk))), hsz, ?_⟩
 obtain ⟨i5, hi5, hz0, hz1, hz2⟩ := info_parts info5
 obtain ⟨w3, hmk, hown, hgr⟩ := run_make_own (P := Tryz.prog) w2 w0.heap.size 51 5 i5 (.int .u8 0) 1 Tryz.underlying51 hi5 hz0 hz1 .i64 .i64 q (mk_b2 hq hz2) (mk_b3 hq) (below_size hB2)
 exact ⟨w3, hmk, Kd.R_of_own (h1 := fun _ => rfl) (xs := ([] : List Int)) (enc := Value.int .u8) hown (fun k hk => .inr (by simp [Value.ownBlock] at hk; omega)), hB2.grown hgr (below_size hB2) (by simp), Kept.of_grown hgr (Kept.refl w2 _) (by simp)⟩
set_option maxHeartbeats 4000000 in
set_option maxRecDepth 100000 in
theorem sortPairs_calls {w0 w : World} {P0 : Nat → Prop} {Ab : Option Addr} {cb : Nat} {l pre : List Int} {P off : Nat} {J jo len cj n c : Nat} {pl : Nat → Nat → Int} {nm sg : Nat → List Int} (hB : Below w0.heap.size w0 w) (ho : RB w w0.heap.size P0 (.slice Ab l.length cb) l)
  (X : PX w J jo len cj n pl nm) (hn1 : 1 ≤ n) (hJP : J ≠ P) (row : ∀ i, i < n → P4 w P (off + i * 4) (pl i)) (fz : ∀ i, i < n * 4 → w.frozen? ⟨P, off + i, none⟩ = false) (hP0 : ¬ P0 P) (hP1 : P < w.heap.size) (hP2 : w0.heap.size ≤ P)
  (hl : l.length ≤ 10000000000) (hn4 : n ≤ 4096) (S : Seg l pre n pl sg) :
  Calls Tryz.prog 63 #[.slice (some ⟨J, jo, none⟩) len cj, .slice Ab l.length cb, .slice (some ⟨P, off, none⟩) n c] w fun e w' => ∃ (v : Value) (D : Nat → Nat), e = .returned v ∧ Prm 0 n id D ∧ Srtd (ltN n nm) D 0 n ∧ Bs w0 w (fun k => P0 k ∨ k = P) w' v (pre ++ joinN n (fun i => sg (D i))) := by
 obtain ⟨m, hm⟩ : ∃ m, n = m + 1 := ⟨n - 1, by omega⟩
 have g1 : ((n : Int) == 0) = false := ag (by omega)
 have g2 : (n : Int) - 1 = (m : Int) := by omega
 have r0 := (row 0 (by omega)).2.2.1
 have r1 := (row m (by omega)).2.2.2
 rw [S.st, Nat.zero_mul, Nat.add_zero] at r0
 have hen := S.en
 rw [show n - 1 = m by omega] at hen
 rw [hen] at r1
 have g3 : wrap64 (m : Int) = m := by unfold wrap64; have := X.hn; omega
 have g4 : IntKind.i64.wrap (m : Int) = m := (i64_w _).trans g3
 have b0 : (0 : Int) < n := by omega
 have b1 : (m : Int) < n := by omega
 have b2 : m < n := by omega
 have hu126 := Tryz.underlying126
 have hu118 := Tryz.underlying118
 have hu114 := Tryz.underlying114
 have HO := aa ho
 have HB := aa hB
 have HX := aa (And.intro row fz)
 have HM := aa hm
 have HS := aa S
 have HL := aa hl
 have hSt := Stable_calls (pso_sorter (A := w.heap.size) (P := P) (off := off) (bf := .slice Ab l.length cb) (c := c) (X.below (below_alloc (Below.refl w.heap.size w) (.cells #[.bool false, .slice (some ⟨J, jo, none⟩) len cj, .slice Ab l.length cb, .slice (some ⟨P, off, none⟩) n c] 126))) (by have := X.hJ; omega) hJP) (ltN_tot X.dif) id _ ⟨ps_start row fz hP1, fun k hk => hk⟩ (inj_id n)
 have HSt := aa hSt
 obtain ⟨q, hq⟩ : ∃ q : Nat, (l.length : Int) - (pre.length : Int) = q := ⟨l.length - pre.length, by rw [S.eq, List.length_append]; omega⟩
 have HQ1 := aa (show q ≤ 1000000000000 by omega)
 have HLen := aa (fun k (hk : k < n) => show (sg k).length ≤ l.length by obtain ⟨s, t, e1, e2, e3, e4, e5⟩ := S.at_ k hk; rw [← e5, List.length_drop, List.length_take]; omega)
 have H4 := aa hn4
 clear ho hB row fz hm S hen hl hn1 hSt hn4
 go_enter Tryz.func63, Tryz.ntmps63
 have g5 : wrap64 (q : Int) = q := by unfold wrap64; have := HQ1.out; omega
 have g6 : IntKind.i64.wrap (q : Int) = q := (i64_w _).trans g5
 go_wp2_with (go_at_call 74; with_reducible refine HSt.out.mono ?_; rintro e w2 ⟨rfl, D, p1, s1, hs, hD⟩; obtain ⟨f, ha, hf⟩ := hs.arr; obtain ⟨hB2, hK2, hR2, hsz, w3, hmk, hN⟩ := sp_after HB.out HO.out hs hP0 hP1 hP2 HQ1.out; have HB2 := aa hB2; have HK2 := aa hK2; have HR2 := aa hR2; have HSZ := aa hsz; have HN := aa hN; have HF := aa hf; have HPS := aa hs; have hz : w2.cell? ⟨w.heap.size, 0, none⟩ = some (.bool f) := (blk_cell ha 0).trans rfl; clear ha hf hs hB2 hK2 hR2 hsz hN; cases f)
 ·go_ret
  refine ⟨.slice Ab l.length cb, D, rfl, p1, s1, ?_, HB2.out, HK2.out⟩
  rw [HF.out trivial, show (pre ++ joinN n fun i => sg (id i)) = l from HS.out.eq.symm]
  exact Kd.R_mono HR2.out (fun k hk => .inl (.inl hk))
 ·have HRow := aa (And.intro HPS.out.row (Nat.lt_of_lt_of_le hP1 (Nat.le_of_lt HSZ.out)))
  have G3 := aa (And.intro g3 g4)
  clear g3 g4 g5 g6
  obtain ⟨i5, hi5, hz0, hz1, hz2⟩ := info_parts info5
  have HAL := aa (acc_len (m := m) (f := fun k => sg (D k)) (L := l.length) (fun k hk => HLen.out _ (hD k (by have := HM.out; omega))))
  obtain ⟨acc, hacc⟩ : ∃ acc : Nat → List Int, acc = accN m (fun k => sg (D k)) := ⟨_, rfl⟩
  rw [← hacc] at HAL
  have HN0 := aa (show Bs w0 w2 (fun _ => False) w3 (.slice (some ⟨w2.heap.size, 0, none⟩) 0 q) (acc 0) by rw [hacc, acc_zero]; exact HN.out)
  have HAcc := aa hacc
  clear hacc HN hmk hz hz0 hz2
  go_loopg [10, 44] n (fun k v10 v44 W => ∃ i : Nat, v44 = .int .i64 i ∧ i ≤ n ∧ n - i ≤ k ∧ Aside0 (Bs w0 w2 (fun _ => False) W v10 (acc i)))
  case atStart => exact ⟨0, rfl, Nat.zero_le _, Nat.le_refl _, HN0⟩
  case round =>
   rename_i v10
   clear HN0
   obtain ⟨i, rfl, q1, hk, HN⟩ := hrel
   by_cases ci : i < n
   ·obtain ⟨c0, c1, c2, c3⟩ := (HRow.out.1 i ci).kept HN.out.k HRow.out.2 (fun h => h)
    obtain ⟨s, t, es, et, h1, h2, h3⟩ := HS.out.at_ (D i) (hD i ci)
    rw [es] at c2
    rw [et] at c3
    obtain ⟨y, hy⟩ : ∃ y, sg (D i) = y := ⟨_, rfl⟩
    have hR := Kd.R_reads' (Kd.R_kept HR2.out HN.out.k (fun _ _ h => h))
    obtain ⟨A', hcut, hrd, hcc⟩ := print_mid_int (P := Tryz.prog) (k := .u8) 51 5 Tryz.underlying51 hi5 hz1 Ab cb l s t (by omega) (by omega) (by omega) hR.2.1
    simp only [Int.toNat_natCast, h3, hy] at hcut hrd
    have hC := Kd.C_of_reads (enc := Value.int .u8) (d := (0 : Int)) (h1 := fun _ => rfl) (hrd _ (Kd.reads_of_C (enc := Value.int .u8) (d := (0 : Int)) (h1 := fun _ => rfl) hR.2.2))
    have HC := aa hC
    have HY := aa hy
    have hyl := HLen.out (D i) (hD i ci)
    rw [hy] at hyl
    have hB4 : (acc i).length + y.length + 2 ≤ 100000000000000 := by
     have a1 := HAL.out i (by have := HM.out; omega)
     have a2 : i * (l.length + 2) ≤ 4096 * (10000000000 + 2) := Nat.mul_le_mul (by have := H4.out; omega) (by have := HL.out; omega)
     have := HL.out
     omega
    have L1 := aa (show (acc i).length + y.length ≤ 100000000000000 by omega)
    have L2 := aa (show (acc i ++ y).length ≤ 100000000000000 by rw [List.length_append]; omega)
    have L3 := aa (show (acc i ++ y ++ [44]).length ≤ 100000000000000 by rw [List.length_append, List.length_append]; simp only [List.length_cons, List.length_nil]; omega)
    obtain ⟨g3, g4⟩ := G3.out
    clear hB4
    clear hR hrd hC hy hcc es et h3 hyl
    by_cases cm : i < m
    ·go_wp2_with (first
      | ((with_reducible refine gate_builtin (b := .append) (xs := #[.tmp 49, .tmp 55]) rfl ?_); at_builtin; refine appR 49 55 y (HN.out.alloc _) (Kd.C_alloc HC.out _) L1.out ?_; intro v1 w4 hn1 hap1; have HN1 := aa hn1; clear hn1 hap1)
      | ((with_reducible refine gate_builtin (b := .append) (xs := #[.tmp 62, .tmp 63]) rfl ?_); at_builtin; refine app1 62 63 44 HN1.out L2.out ?_; intro v2 w5 hn2 hap2; have HN2 := aa hn2; clear hn2 hap2)
      | ((with_reducible refine gate_builtin (b := .append) (xs := #[.tmp 65, .tmp 66]) rfl ?_); at_builtin; refine app1 65 66 10 HN2.out L3.out ?_; intro v3 w6 hn3 hap3; have HN3 := aa hn3; clear hn3 hap3))
     clear g3 g4
     go_roundg (n - (i + 1))
     case measure => omega
     case rel => exact ⟨i + 1, by rw [wi ci X.hn], by omega, Nat.le_refl _, ⟨by rw [HAcc.out, acc_step cm, HY.out, ← HAcc.out]; exact HN3.out⟩⟩
    ·go_wp2_with ((with_reducible refine gate_builtin (b := .append) (xs := #[.tmp 49, .tmp 55]) rfl ?_); at_builtin; refine appR 49 55 y (HN.out.alloc _) (Kd.C_alloc HC.out _) L1.out ?_; intro v1 w4 hn1 hap1; have HN1 := aa hn1; clear hn1 hap1)
     clear g3 g4
     go_roundg (n - (i + 1))
     case measure => omega
     case rel => exact ⟨i + 1, by rw [wi ci X.hn], by omega, Nat.le_refl _, ⟨by
      obtain rfl : i = m := by have := HM.out; omega
      rw [HAcc.out, acc_last, HY.out, ← HAcc.out]; exact HN1.out⟩⟩
   ·have hpre : l.take pre.length = pre := by rw [HS.out.eq, List.take_left]
    have hpl : pre.length ≤ l.length := by rw [HS.out.eq, List.length_append]; omega
    have hR := Kd.R_kept HR2.out HN.out.k (fun _ _ h => h)
    have hT := RB.take hR hpl
    rw [hpre] at hT
    have hcut := (print_take_int (P := Tryz.prog) (k := .u8) 51 5 Tryz.underlying51 hi5 hz1 Ab cb l (pre.length : Int) (by omega) (by omega) (Kd.R_reads' hR).2.1).1
    simp only [Int.toNat_natCast, hpre] at hcut
    obtain ⟨An, cn, rfl⟩ := Kd.R_slice HN.out.r
    have HC := aa (Kd.R_reads' HN.out.r).2.2
    have HT := aa (show Bs w0 w (fun k => P0 k ∨ k = P) wr (.slice Ab pre.length cb) pre from ⟨Kd.R_mono hT (fun k hk => .inl (.inl hk)), HN.out.b, HK2.out.then_ HN.out.k (fun _ h => h.elim)⟩)
    have hacl : (acc i).length ≤ 50000000000000 := by
     obtain rfl : i = m + 1 := by have := HM.out; omega
     rw [HAcc.out, acc_last, List.length_append, ← HAcc.out]
     have a1 := HAL.out m (Nat.le_refl _)
     have a2 : m * (l.length + 2) ≤ 4096 * (10000000000 + 2) := Nat.mul_le_mul (by have := H4.out; omega) (by have := HL.out; omega)
     have a3 := HLen.out (D m) (hD m b2)
     have := HL.out
     omega
    have L4 := aa (show pre.length + (acc i).length ≤ 100000000000000 by have := HL.out; omega)
    clear hpre hR hT hacl hpl
    go_wp2_with ((with_reducible refine gate_builtin (b := .append) (xs := #[.tmp 71, .tmp 72]) rfl ?_); at_builtin; refine appR 71 72 (acc i) HT.out HC.out L4.out ?_; intro v1 w4 hn1 hap1; have HN1 := aa hn1; clear hn1 hap1)
    go_ret
    refine ⟨v1, D, rfl, p1, s1, ?_⟩
    obtain rfl : i = m + 1 := by have := HM.out; omega
    have e : acc (m + 1) = joinN n (fun i => sg (D i)) := by rw [HAcc.out, HM.out]; unfold accN; rw [if_neg (by omega)]
    rw [← e]
    exact HN1.out
end Go.Proofs.YtmpdhdnoohmndaaGreatDoor.So

import Derived.Test.YtmpdhdnoohmndaaGreatDoorSr
import Derived.Test.YtmpdhdnoohmndaaGreatDoorItr
namespace Go.Proofs.YtmpdhdnoohmndaaGreatDoor.So
set_option maxHeartbeats 2000000
set_option maxRecDepth 100000
open Go.RowKit Go.Shelf Go.Proofs.YtmpdhdnoohmndaaGreatDoorW.PrintWords Go.Proofs.YtmpdhdnoohmndaaGreatDoorW.PrintLast Go.Proofs.YtmpdhdnoohmndaaGreatDoorW.PrintMore Sp Gj
set_option linter.unusedVariables false
set_option linter.unusedSimpArgs false
def P4 (w : World) (P o : Nat) (x : Nat → Int) : Prop := w.cell? ⟨P, o, none⟩ = some (.int .i64 (x 0)) ∧ w.cell? ⟨P, o + 1, none⟩ = some (.int .i64 (x 1)) ∧ w.cell? ⟨P, o + 2, none⟩ = some (.int .i64 (x 2)) ∧ w.cell? ⟨P, o + 3, none⟩ = some (.int .i64 (x 3))
structure PS (w0 : World) (A P off : Nat) (js bf : Value) (n c : Nat) (pl : Nat → Nat → Int) (D : Nat → Nat) (w : World) : Prop where
 arr : ∃ f : Bool, w.heap[A]? = some (.cells #[.bool f, js, bf, .slice (some ⟨P, off, none⟩) n c] 126 (0, 0)) ∧ (f = false → D = id)
 row : ∀ i, i < n → P4 w P (off + i * 4) (pl (D i))
 fz : ∀ i, i < n * 4 → w.frozen? ⟨P, off + i, none⟩ = false
 kp : Kp (fun k => k ≠ A ∧ k ≠ P) w0 w
 ne : A ≠ P
theorem PS.drew {w0 : World} {A P off : Nat} {js bf : Value} {n c : Nat} {pl : Nat → Nat → Int} {D : Nat → Nat} {w : World} (h : PS w0 A P off js bf n c pl D w) (q : Nat) : PS w0 A P off js bf n c pl D (w.drewN q) :=
 ⟨h.arr, h.row, h.fz, ⟨h.kp.os, h.kp.tape, h.kp.output, h.kp.size, h.kp.block⟩, h.ne⟩
theorem len_calls {w0 : World} {A P off : Nat} {js bf : Value} {n c : Nat} {pl : Nat → Nat → Int} {D : Nat → Nat} {w : World} (h : PS w0 A P off js bf n c pl D w) :
  Calls Tryz.prog 154 #[.pointer (some ⟨A, 0, none⟩)] w fun e w' => e = .returned (.int .i64 n) ∧ PS w0 A P off js bf n c pl D w' := by
 obtain ⟨f, ha, hf⟩ := h.arr
 have h3 : w.cell? ⟨A, 3, none⟩ = some (.slice (some ⟨P, off, none⟩) n c) := (ax ha 3)
 have hu126 := Tryz.underlying126
 have H := aa h
 clear h ha hf
 go_enter Tryz.func154, Tryz.ntmps154
 go_wp2
 go_ret
 exact ⟨rfl, H.out⟩
theorem co {w : World} {a b : Addr} {v : Value} (h : a ≠ b) : (w.setCell a v).cell? b = w.cell? b := World.cell?_setCell_other w a b v h
theorem cs {w : World} {a : Addr} {v u : Value} (h : w.cell? a = some u) : (w.setCell a v).cell? a = some v := World.cell?_setCell_same w a v h
theorem P4.drew {w : World} {P o : Nat} {x : Nat → Int} (h : P4 w P o x) : P4 w.drew P o x := h
theorem World.frozen?_drew' {w : World} {a : Addr} : w.drew.frozen? a = w.frozen? a := rfl
theorem World.heap_drew' {w : World} {k : Nat} : w.drew.heap[k]? = w.heap[k]? := rfl
def W4 (w : World) (P o : Nat) (x : Nat → Int) : World := (((w.setCell ⟨P, o, none⟩ (.int .i64 (x 0))).setCell ⟨P, o + 1, none⟩ (.int .i64 (x 1))).setCell ⟨P, o + 2, none⟩ (.int .i64 (x 2))).setCell ⟨P, o + 3, none⟩ (.int .i64 (x 3))
theorem W4.cell_far {w : World} {P o : Nat} {x : Nat → Int} {a : Addr} (h : a.block ≠ P ∨ a.off < o ∨ o + 4 ≤ a.off) : (W4 w P o x).cell? a = w.cell? a := by
 have ne : ∀ q, q < 4 → (⟨P, o + q, none⟩ : Addr) ≠ a := fun q hq e => by subst e; rcases h with h | h | h; exact h rfl; exact absurd h (by simp); simp at h; omega
 show ((((w.setCell ⟨P, o, none⟩ (.int .i64 (x 0))).setCell ⟨P, o + 1, none⟩ (.int .i64 (x 1))).setCell ⟨P, o + 2, none⟩ (.int .i64 (x 2))).setCell ⟨P, o + 3, none⟩ (.int .i64 (x 3))).cell? a = w.cell? a
 rw [co (ne 3 (by omega)), co (ne 2 (by omega)), co (ne 1 (by omega)), co (show (⟨P, o, none⟩ : Addr) ≠ a from ne 0 (by omega))]
theorem W4.far {w : World} {P o : Nat} {x : Nat → Int} {k : Nat} (h : k ≠ P) : (W4 w P o x).heap[k]? = w.heap[k]? := by
 show ((((w.setCell ⟨P, o, none⟩ (.int .i64 (x 0))).setCell ⟨P, o + 1, none⟩ (.int .i64 (x 1))).setCell ⟨P, o + 2, none⟩ (.int .i64 (x 2))).setCell ⟨P, o + 3, none⟩ (.int .i64 (x 3))).heap[k]? = w.heap[k]?
 rw [Below.heap_setCell _ _ _ k h, Below.heap_setCell _ _ _ k h, Below.heap_setCell _ _ _ k h, Below.heap_setCell _ _ _ k h]
theorem W4.at_ {w : World} {P o : Nat} {x y : Nat → Int} (h : P4 w P o y) : P4 (W4 w P o x) P o x := by
 obtain ⟨h0, h1, h2, h3⟩ := h
 have ne : ∀ p q : Nat, p ≠ q → (⟨P, p, none⟩ : Addr) ≠ ⟨P, q, none⟩ := fun p q hq e => by injection e; omega
 show P4 ((((w.setCell ⟨P, o, none⟩ (.int .i64 (x 0))).setCell ⟨P, o + 1, none⟩ (.int .i64 (x 1))).setCell ⟨P, o + 2, none⟩ (.int .i64 (x 2))).setCell ⟨P, o + 3, none⟩ (.int .i64 (x 3))) P o x
 refine ⟨?_, ?_, ?_, ?_⟩
 ·rw [co (ne _ _ (by omega)), co (ne _ _ (by omega)), co (ne _ _ (by omega)), cs h0]
 ·rw [co (ne _ _ (by omega)), co (ne _ _ (by omega)), cs (by rw [co (ne _ _ (by omega))]; exact h1)]
 ·rw [co (ne _ _ (by omega)), cs (by rw [co (ne _ _ (by omega)), co (ne _ _ (by omega))]; exact h2)]
 ·rw [cs (by rw [co (ne _ _ (by omega)), co (ne _ _ (by omega)), co (ne _ _ (by omega))]; exact h3)]
theorem W4.frozen {w : World} {P o : Nat} {x : Nat → Int} {a : Addr} : (W4 w P o x).frozen? a = w.frozen? a := by
 show ((((w.setCell ⟨P, o, none⟩ (.int .i64 (x 0))).setCell ⟨P, o + 1, none⟩ (.int .i64 (x 1))).setCell ⟨P, o + 2, none⟩ (.int .i64 (x 2))).setCell ⟨P, o + 3, none⟩ (.int .i64 (x 3))).frozen? a = w.frozen? a
 rw [World.frozen?_setCell, World.frozen?_setCell, World.frozen?_setCell, World.frozen?_setCell]
theorem P4.w4 {w : World} {P o p : Nat} {x y : Nat → Int} (h : P4 w P p y) (ho : p + 4 ≤ o ∨ o + 4 ≤ p) : P4 (W4 w P o x) P p y := by
 obtain ⟨h0, h1, h2, h3⟩ := h
 refine ⟨?_, ?_, ?_, ?_⟩ <;> rw [W4.cell_far (by simp; omega)] <;> assumption
theorem PS.w4 {w0 : World} {A P off : Nat} {js bf : Value} {n c : Nat} {pl : Nat → Nat → Int} {D : Nat → Nat} {w : World} (h : PS w0 A P off js bf n c pl D w) (i j : Nat) (hi : i < n) (hj : j < n) (hij : i ≠ j) {u : Value} {w' : World}
  (ha : w'.heap[A]? = some (.cells #[.bool true, js, bf, .slice (some ⟨P, off, none⟩) n c] 126 (0, 0))) (hw : w' = (W4 (W4 w P (off + i * 4) (pl (D j))).drew P (off + j * 4) (pl (D i))).setCell ⟨A, 0, none⟩ u) : PS w0 A P off js bf n c pl (swp D i j) w' := by
 have hne : ∀ a : Addr, a.block = P → w'.cell? a = (W4 (W4 w P (off + i * 4) (pl (D j))).drew P (off + j * 4) (pl (D i))).cell? a := fun a e => by rw [hw]; exact World.cell?_setCell_far _ _ _ _ (by rw [e]; exact h.ne)
 refine ⟨⟨true, ha, fun e => by cases e⟩, fun k hk => ?_, fun k hk => ?_, ⟨?_, ?_, ?_, ?_, fun k hk hkk => ?_⟩, h.ne⟩
 ·have e : P4 (W4 (W4 w P (off + i * 4) (pl (D j))).drew P (off + j * 4) (pl (D i))) P (off + k * 4) (pl (swp D i j k)) := by
   unfold swp
   by_cases c1 : k = i
   ·rw [if_pos c1, c1]
    exact P4.w4 (w := (W4 w P (off + i * 4) (pl (D j))).drew) (P4.drew (W4.at_ (h.row i hi))) (by omega)
   ·rw [if_neg c1]
    by_cases c2 : k = j
    ·rw [if_pos c2, c2]
     exact W4.at_ (w := (W4 w P (off + i * 4) (pl (D j))).drew) (P4.drew ((h.row j hj).w4 (by omega)))
    ·rw [if_neg c2]
     exact P4.w4 (w := (W4 w P (off + i * 4) (pl (D j))).drew) (P4.drew ((h.row k hk).w4 (by omega))) (by omega)
  obtain ⟨e0, e1, e2, e3⟩ := e
  exact ⟨(hne _ rfl).trans e0, (hne _ rfl).trans e1, (hne _ rfl).trans e2, (hne _ rfl).trans e3⟩
 ·rw [hw]
  rw [World.frozen?_setCell, W4.frozen, World.frozen?_drew', W4.frozen]; exact h.fz k hk
 ·rw [hw]; simp only [World.setCell, W4, World.drew]; exact h.kp.os
 ·rw [hw]; simp only [World.setCell, W4, World.drew]; exact h.kp.tape
 ·rw [hw]; simp only [World.setCell, W4, World.drew]; exact h.kp.output
 ·rw [hw]; simpa [World.setCell, W4, World.drew] using h.kp.size
 ·rw [hw, Below.heap_setCell _ _ _ k hkk.1, W4.far hkk.2, World.heap_drew', W4.far hkk.2]; exact h.kp.block k hk hkk
theorem tk9 {P : Program} {md : Region.Mode} {ops : Array Oper} {Q : Exit → Act → World → Prop} {S : World → Prop} {ds : List Nat} (i : Nat) (N : Tmp) {oi : Oper} {v : Value} {fuel : Nat} {l : Array Bool} {a a' : Act} {w : World} (h : wpAnyLast P md ops Q S ds fuel (l.setIfInBounds i true) a' w) (hS : S w := by assumption) (hi : ops[i]? = some oi := by rfl) (hN : oi.dst = some N := by rfl)
  (hc : takeB md ops ds l (l.setIfInBounds i true) i = true := by kernel_rfl) (hQ : ∀ c a w, Q (.panic c) (a.put oi.dst v) w → Q (.panic c) a w := by exact fun _ _ _ h => h)
  (hy : YieldsIf P ops S oi v a := by exact Or.inl ⟨by rfl, by (rintro w' ⟨s0, s1, s2, s3, s4, s5, s6, s7, s8⟩; go_simp; with_reducible rfl)⟩) (ha : a.put (some N) v = a' := by (simp only [Act.put, ao, ap, aq, i64_w, i32_w]; rfl)) : wpAnyLast P md ops Q S ds (fuel + 1) l a w := take_ _ hi hN hc hQ hy hS ha h
theorem ls1 {P : Program} {md : Region.Mode} {ops : Array Oper} {Q : Exit → Act → World → Prop} {S : World → Prop} {ds : List Nat} (i : Nat) (N : Option Tmp) {oi : Oper} {fuel : Nat} {l : Array Bool} {a : Act} {w : World}
  (h : ∀ K : Act → World → Prop, Shut (∀ a' w', wpAnyLast P md ops Q S ds fuel (l.setIfInBounds i true) a' w' → K a' w') → if Region.wanted oi (yielded ops a.tmps) = true then Oper.wp P oi a w K Q else K (a.put N undef) w) (hi : ops[i]? = some oi := by rfl) (hN : oi.dst = N := by rfl)
  (hc : readyB md ops l (l.setIfInBounds i true) i = true := by kernel_rfl) (hd : i ∈ ds := by decide) : wpAnyLast P md ops Q S ds (fuel + 1) l a w := last_ _ hi hN hc hd h
theorem swap_calls {w0 : World} {A P off : Nat} {js bf : Value} {n c : Nat} {pl : Nat → Nat → Int} {D : Nat → Nat} {w : World} (h : PS w0 A P off js bf n c pl D w) (i j : Nat) {x y : Int} (hi : i < n) (hj : j < n) (hij : i ≠ j) (hn : n ≤ 1000000) (hx : x = i) (hy : y = j) :
  Calls Tryz.prog 156 #[.pointer (some ⟨A, 0, none⟩), .int .i64 x, .int .i64 y] w fun e w' => e = .returned (.tuple #[]) ∧ PS w0 A P off js bf n c pl (swp D i j) w' := by
 subst hx hy
 obtain ⟨f, ha, hf⟩ := h.arr
 have h3 : w.drew.cell? ⟨A, 3, none⟩ = some (.slice (some ⟨P, off, none⟩) n c) := (ax ha 3)
 obtain ⟨i0, i1, i2, i3⟩ := h.row i hi
 obtain ⟨j0, j1, j2, j3⟩ := h.row j hj
 have fz := fun (k : Nat) (hk : k < n) => And.intro (show w.frozen? ⟨P, off + k * 4, none⟩ = false from h.fz (k * 4) (by omega)) (And.intro (show w.frozen? ⟨P, off + k * 4 + 1, none⟩ = false from h.fz (k * 4 + 1) (by omega)) (And.intro (show w.frozen? ⟨P, off + k * 4 + 2, none⟩ = false from h.fz (k * 4 + 2) (by omega)) (show w.frozen? ⟨P, off + k * 4 + 3, none⟩ = false from h.fz (k * 4 + 3) (by omega))))
 obtain ⟨fi0, fi1, fi2, fi3⟩ := fz i hi
 obtain ⟨fj0, fj1, fj2, fj3⟩ := fz j hj
 clear fz
 have hu126 := Tryz.underlying126
 have hu118 := Tryz.underlying118
 have H := aa h
 clear h ha hf
 go_enter Tryz.func156, Tryz.ntmps156
 go_wp2_with (fail)
 refine start_ (n := 28) (ds := [25, 27]) (S := fun w' => w'.cell? ⟨A, 3, none⟩ = some (.slice (some ⟨P, off, none⟩) n c) ∧ w'.cell? ⟨P, off + i * 4, none⟩ = some (.int .i64 (pl (D i) 0)) ∧ w'.cell? ⟨P, off + i * 4 + 1, none⟩ = some (.int .i64 (pl (D i) 1)) ∧ w'.cell? ⟨P, off + i * 4 + 2, none⟩ = some (.int .i64 (pl (D i) 2)) ∧ w'.cell? ⟨P, off + i * 4 + 3, none⟩ = some (.int .i64 (pl (D i) 3)) ∧
  w'.cell? ⟨P, off + j * 4, none⟩ = some (.int .i64 (pl (D j) 0)) ∧ w'.cell? ⟨P, off + j * 4 + 1, none⟩ = some (.int .i64 (pl (D j) 1)) ∧ w'.cell? ⟨P, off + j * 4 + 2, none⟩ = some (.int .i64 (pl (D j) 2)) ∧ w'.cell? ⟨P, off + j * 4 + 3, none⟩ = some (.int .i64 (pl (D j) 3))) _ (by kernel_rfl) rfl rfl ⟨h3, i0, i1, i2, i3, j0, j1, j2, j3⟩ fun hHeld => ?_
 refine pz 0 6 ?_
 refine tk9 1 7 ?_
 refine tk9 2 8 ?_
 refine tk9 3 9 ?_
 refine pz 4 10 ?_
 refine pz 5 11 ?_
 refine tk9 6 12 ?_
 refine tk9 7 13 ?_
 refine tk9 8 14 ?_
 refine pz 9 15 ?_
 refine pz 10 16 ?_
 refine tk9 11 17 ?_
 refine tk9 12 18 ?_
 refine tk9 13 19 ?_
 refine pz 14 20 ?_
 refine tk9 15 21 ?_
 refine tk9 16 22 ?_
 refine pz 17 23 ?_
 refine tk9 18 24 ?_
 refine tk9 19 25 ?_
 refine tk9 20 26 ?_
 refine pz 21 27 ?_
 refine tk9 22 28 ?_
 refine tk9 23 29 ?_
 refine pz 24 30 ?_
 refine ls1 25 none fun K hK => ?_
 refine sk1 ?_
 refine hK _ _ ?_
 obtain ⟨w1, hw1⟩ : ∃ w1, w1 = (W4 w P (off + i * 4) (pl (D j))).drew := ⟨_, rfl⟩
 have HW1 := aa hw1
 have k0 : w1.cell? ⟨P, off + j * 4, none⟩ = some (.int .i64 (pl (D j) 0)) := by rw [hw1, World.cell?_drew, W4.cell_far (by simp; omega)]; exact j0
 have k1 : w1.cell? ⟨P, off + j * 4 + 1, none⟩ = some (.int .i64 (pl (D j) 1)) := by rw [hw1, World.cell?_drew, W4.cell_far (by simp; omega)]; exact j1
 have k2 : w1.cell? ⟨P, off + j * 4 + 2, none⟩ = some (.int .i64 (pl (D j) 2)) := by rw [hw1, World.cell?_drew, W4.cell_far (by simp; omega)]; exact j2
 have k3 : w1.cell? ⟨P, off + j * 4 + 3, none⟩ = some (.int .i64 (pl (D j) 3)) := by rw [hw1, World.cell?_drew, W4.cell_far (by simp; omega)]; exact j3
 have g0 : w1.frozen? ⟨P, off + j * 4, none⟩ = false := by rw [hw1, World.frozen?_drew', W4.frozen]; exact fj0
 have g1 : w1.frozen? ⟨P, off + j * 4 + 1, none⟩ = false := by rw [hw1, World.frozen?_drew', W4.frozen]; exact fj1
 have g2 : w1.frozen? ⟨P, off + j * 4 + 2, none⟩ = false := by rw [hw1, World.frozen?_drew', W4.frozen]; exact fj2
 have g3 : w1.frozen? ⟨P, off + j * 4 + 3, none⟩ = false := by rw [hw1, World.frozen?_drew', W4.frozen]; exact fj3
 have gA : w1.heap[A]? = w.heap[A]? := by rw [hw1]; exact W4.far H.out.ne
 have GA := aa gA
 change wpAnyLast _ _ _ _ _ _ _ _ _ (W4 w P (off + i * 4) (pl (D j))).drew
 rw [← hw1]
 clear hw1 gA i0 i1 i2 i3 j0 j1 j2 j3 fi0 fi1 fi2 fi3 fj0 fj1 fj2 fj3 h3 hHeld
 refine pz 26 31 ?_
 refine ls1 27 none fun K2 hK2 => ?_
 refine sk1 ?_
 refine hK2 _ _ ?_
 refine dn1 ?_
 obtain ⟨w2, hw2⟩ : ∃ w2, w2 = W4 w1 P (off + j * 4) (pl (D i)) := ⟨_, rfl⟩
 have HW2 := aa hw2
 obtain ⟨f, ha, hf⟩ := H.out.arr
 have hz : w2.heap[A]? = some (.cells #[.bool f, js, bf, .slice (some ⟨P, off, none⟩) n c] 126 (0, 0)) := by rw [hw2, W4.far H.out.ne, GA.out]; exact ha
 have hz0 : w2.cell? ⟨A, 0, none⟩ = some (.bool f) := (ax hz 0)
 have hz1 := blk_frozen hz 0
 have HZ := aa hz
 change Exit.then _ _ _ _ (W4 w1 P (off + j * 4) (pl (D i)))
 rw [← hw2]
 clear hw2 ha hf hz k0 k1 k2 k3 g0 g1 g2 g3
 go_wp2_with (fail)
 go_end0
 refine ⟨rfl, H.out.w4 i j hi hj hij (u := .bool true) (blk_put HZ.out 0 _ rfl) ?_⟩
 rw [HW2.out, HW1.out]
end Go.Proofs.YtmpdhdnoohmndaaGreatDoor.So

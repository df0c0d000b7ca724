import Derived.Test.YtmpdhdnoohmndaaGreatDoorPso0
import Derived.Test.YtmpdhdnoohmndaaGreatDoorSr
namespace Go.Proofs.YtmpdhdnoohmndaaGreatDoor.So
set_option maxHeartbeats 4000000
set_option maxRecDepth 100000
open Go.RowKit Go.Shelf Go.Proofs.YtmpdhdnoohmndaaGreatDoorW.PrintWords Go.Proofs.YtmpdhdnoohmndaaGreatDoorW.PrintLast Go.Proofs.YtmpdhdnoohmndaaGreatDoorW.PrintMore Sp Gj
set_option linter.unusedVariables false
set_option linter.unusedSimpArgs false
theorem addA {B o q : Nat} : (⟨B, o, none⟩ : Addr).add q = ⟨B, o + q, none⟩ := by
 unfold Addr.add
 split
 ·next e => subst e; rfl
 ·rfl
structure Nm (w : World) (J o : Nat) (m : List Int) : Prop where
 op : w.cell? ⟨J, o, none⟩ = some (.int .u8 34)
 ch : ∀ q, q < m.length → w.cell? ⟨J, o + 1 + q, none⟩ = some (.int .u8 (m.getD q 0))
 cl : w.cell? ⟨J, o + 1 + m.length, none⟩ = some (.int .u8 34)
 ok : ∀ q, q < m.length → m.getD q 0 ≠ 34 ∧ m.getD q 0 ≠ 92
 len : m.length ≤ 1000000
theorem jtype_calls {w : World} {J o : Nat} {m : List Int} (h : Nm w J o m) (c : Nat) {n : Nat} (hn : n = m.length + 2) : Calls Tryz.prog 159 #[.slice (some ⟨J, o, none⟩) n c] w fun e w' => e = .returned (.int .i64 3) ∧ w' = w := by
 have h0 := h.op
 have c0 : decide ((n : Int) = 0) = false := ae (by omega)
 have c1 : (n : Int) ≠ 0 := by omega
 have c2 : (0 : Int) < n := by omega
 have hl := aa h.len
 have hu51 := Tryz.underlying51
 clear hn h
 go_enter Tryz.func159, Tryz.ntmps159
 go_wp2
 go_ret
 exact ⟨rfl, rfl⟩
theorem pstr_calls {w : World} {J o : Nat} {m : List Int} (h : Nm w J o m) (c : Nat) {n : Nat} (hn : n = m.length + 2) (hc : n ≤ c) : Calls Tryz.prog 160 #[.slice (some ⟨J, o, none⟩) n c] w fun e w' => (∃ c', m.length ≤ c' ∧ e = .returned (.slice (some ⟨J, o + 1, none⟩) m.length c')) ∧ w' = w := by
 have hl := h.len
 have hu51 := Tryz.underlying51
 have H := aa h
 have HN := aa (And.intro hn hc)
 clear hn hc h
 go_enter Tryz.func160, Tryz.ntmps160
 go_wp2
 go_loopg [3] (m.length + 1) (fun k v3 wr => ∃ q : Nat, v3 = .int .i64 q ∧ 1 ≤ q ∧ q ≤ m.length + 1 ∧ m.length + 1 - q ≤ k ∧ Aside0 (wr = w))
 case atStart => exact ⟨1, rfl, Nat.le_refl _, by omega, by omega, ⟨rfl⟩⟩
 case round =>
  obtain ⟨q, rfl, q1, q2, hk, HW⟩ := hrel
  obtain rfl := HW.out
  have b1 : decide ((q : Int) < (n : Int)) = true := ac (by have := HN.out; omega)
  have p1 : (q : Int) < (n : Int) := by have := HN.out; omega
  by_cases c1 : q = m.length + 1
  ·have h0 : wr.cell? ⟨J, o + q, none⟩ = some (.int .u8 34) := by rw [c1, Nat.add_comm m.length, ← Nat.add_assoc]; exact H.out.cl
   have HC := aa c1
   have p2 : (0 : Int) ≤ q := by omega
   have p4 : q ≤ c := by have := HN.out; omega
   clear c1
   have p3 : (c = 1) = False := eq_false (by have := HN.out; omega)
   go_wp2
   go_ret
   refine ⟨⟨c - 1, by have := HN.out; omega, ?_⟩, rfl⟩
   show Ending.returned (.slice (some ⟨J, o + 1, none⟩) (q - 1) (c - 1)) = _
   rw [show q - 1 = m.length by have := HC.out; omega]
  ·obtain ⟨v, hv⟩ : ∃ v, m.getD (q - 1) 0 = v := ⟨_, rfl⟩
   have h0 : wr.cell? ⟨J, o + q, none⟩ = some (.int .u8 v) := by rw [← hv]; have := H.out.ch (q - 1) (by omega); rwa [show o + 1 + (q - 1) = o + q by omega] at this
   have h1 := H.out.ok (q - 1) (by omega)
   rw [hv] at h1
   have d1 : (v == 92) = false := ag h1.2
   have d2 : (v == 34) = false := ag h1.1
   clear h1 hv
   go_wp2
   go_roundg (m.length + 1 - (q + 1))
   case measure => omega
   case rel => exact ⟨q + 1, by simp, by omega, by omega, Nat.le_refl _, ⟨rfl⟩⟩
def sless (a b : List Int) : Bool := Op.bytesLess (strOfNums a).toList (strOfNums b).toList
structure NmP (w0 : World) (J jo len : Nat) (x : Nat → Int) (m : List Int) : Prop where
 at_ : ∃ k : Nat, x 0 = k ∧ x 1 = ((k + (m.length + 2) : Nat) : Int) ∧ k + (m.length + 2) ≤ len ∧ Nm w0 J (jo + k) m
theorem Nm.kp {w w' : World} {J o : Nat} {m : List Int} {A : Nat → Prop} (h : Nm w J o m) (k : Kp A w w') (hJ : J < w.heap.size) (hA : A J) : Nm w' J o m := by
 have hc : ∀ a : Addr, a.block = J → w'.cell? a = w.cell? a := fun a e => World.cell?_of_block (w := w) (by rw [e]; exact k.block J hJ hA)
 exact ⟨(hc _ rfl).trans h.op, fun q hq => (hc _ rfl).trans (h.ch q hq), (hc _ rfl).trans h.cl, h.ok, h.len⟩
theorem isless_calls {w0 : World} {A P off : Nat} {J jo len cj : Nat} {bf : Value} {n c : Nat} {pl : Nat → Nat → Int} {D : Nat → Nat} {w : World} (h : PS w0 A P off (.slice (some ⟨J, jo, none⟩) len cj) bf n c pl D w) (i j : Nat) {x y : Int} (hi : i < n) (hj : j < n) (hn : n ≤ 1000000) (hx : x = i) (hy : y = j)
  (hJ : J < w0.heap.size) (hJA : J ≠ A) (hJP : J ≠ P) (hl : len ≤ cj) (hl2 : len ≤ 1000000000) {mi mj : List Int} (hmi : NmP w0 J jo len (pl (D i)) mi) (hmj : NmP w0 J jo len (pl (D j)) mj) :
  Calls Tryz.prog 157 #[.pointer (some ⟨A, 0, none⟩), .int .i64 x, .int .i64 y, .int .i64 0] w fun e w' => e = .returned (.bool (sless mi mj)) ∧ PS w0 A P off (.slice (some ⟨J, jo, none⟩) len cj) bf n c pl D w' := by
 subst hx hy
 obtain ⟨f, ha, hf⟩ := h.arr
 have a1 : w.cell? ⟨A, 1, none⟩ = some (.slice (some ⟨J, jo, none⟩) len cj) := (ax ha 1)
 have a3 : w.cell? ⟨A, 3, none⟩ = some (.slice (some ⟨P, off, none⟩) n c) := (ax ha 3)
 obtain ⟨ki, ei0, ei1, hki, Ni⟩ := hmi.at_
 obtain ⟨kj, ej0, ej1, hkj, Nj⟩ := hmj.at_
 obtain ⟨i0, i1, _, _⟩ := h.row i hi
 obtain ⟨j0, j1, _, _⟩ := h.row j hj
 rw [ei0] at i0
 rw [ei1] at i1
 rw [ej0] at j0
 rw [ej1] at j1
 obtain ⟨li, hli⟩ : ∃ li, ki + (mi.length + 2) = li := ⟨_, rfl⟩
 obtain ⟨lj, hlj⟩ : ∃ lj, kj + (mj.length + 2) = lj := ⟨_, rfl⟩
 rw [hli] at i1 hki
 rw [hlj] at j1 hkj
 have hu126 := Tryz.underlying126
 have hu118 := Tryz.underlying118
 have H := aa h
 have NI := aa (Ni.kp h.kp hJ ⟨hJA, hJP⟩)
 have NJ := aa (Nj.kp h.kp hJ ⟨hJA, hJP⟩)
 have LI := aa hli
 have LJ := aa hlj
 clear h ha hf hmi hmj Ni Nj ei0 ei1 ej0 ej1 hli hlj
 have p1 : ki ≤ li := by have := LI.out; omega
 have p2 : li ≤ cj := by omega
 have p3 : (cj = ki) = False := eq_false (by have := LI.out; omega)
 have p4 : kj ≤ lj := by have := LJ.out; omega
 have p5 : lj ≤ cj := by omega
 have p6 : (cj = kj) = False := eq_false (by have := LJ.out; omega)
 go_enter Tryz.func157, Tryz.ntmps157
 go_wp2_with (fail)
 refine start_ (n := 22) (ds := []) (S := fun w' => w'.cell? ⟨A, 1, none⟩ = some (.slice (some ⟨J, jo, none⟩) len cj) ∧ w'.cell? ⟨A, 3, none⟩ = some (.slice (some ⟨P, off, none⟩) n c) ∧ w'.cell? ⟨P, off + i * 4, none⟩ = some (.int .i64 ki) ∧ w'.cell? ⟨P, off + i * 4 + 1, none⟩ = some (.int .i64 li) ∧ w'.cell? ⟨P, off + j * 4, none⟩ = some (.int .i64 kj) ∧ w'.cell? ⟨P, off + j * 4 + 1, none⟩ = some (.int .i64 lj)) _ (by kernel_rfl) rfl rfl ⟨a1, a3, i0, i1, j0, j1⟩ fun hHeld => ?_
 refine pz 0 21 ?_
 refine tk6 1 22 ?_
 refine tk6 2 23 ?_
 refine tk6 3 24 ?_
 refine pz 4 25 ?_
 refine tk6 5 26 ?_
 refine tk6 6 27 ?_
 refine tk6 7 28 ?_
 refine pz 8 29 ?_
 refine tk6 9 30 ?_
 refine tk6 10 31 ?_
 refine tk6 11 32 ?_
 refine pz 12 33 ?_
 refine tk6 13 34 ?_
 refine tk6 14 35 ?_
 refine tk6 15 36 ?_
 refine pz 16 37 ?_
 refine tk6 17 38 ?_
 refine tk6 18 39 ?_
 refine tk6 19 40 ?_
 refine tk6 20 41 ?_
 refine pz 21 9 ?_
 refine dn1 ?_
 go_wp2_with (fail)
 refine start_ (n := 22) (ds := []) (S := fun w' => w'.cell? ⟨A, 1, none⟩ = some (.slice (some ⟨J, jo, none⟩) len cj) ∧ w'.cell? ⟨A, 3, none⟩ = some (.slice (some ⟨P, off, none⟩) n c) ∧ w'.cell? ⟨P, off + i * 4, none⟩ = some (.int .i64 ki) ∧ w'.cell? ⟨P, off + i * 4 + 1, none⟩ = some (.int .i64 li) ∧ w'.cell? ⟨P, off + j * 4, none⟩ = some (.int .i64 kj) ∧ w'.cell? ⟨P, off + j * 4 + 1, none⟩ = some (.int .i64 lj)) _ (by kernel_rfl) rfl rfl hHeld fun hHeld2 => ?_
 refine pz 0 42 ?_
 refine tk6 1 43 ?_
 refine tk6 2 44 ?_
 refine tk6 3 45 ?_
 refine pz 4 46 ?_
 refine tk6 5 47 ?_
 refine tk6 6 48 ?_
 refine tk6 7 49 ?_
 refine pz 8 50 ?_
 refine tk6 9 51 ?_
 refine tk6 10 52 ?_
 refine tk6 11 53 ?_
 refine pz 12 54 ?_
 refine tk6 13 55 ?_
 refine tk6 14 56 ?_
 refine tk6 15 57 ?_
 refine pz 16 58 ?_
 refine tk6 17 59 ?_
 refine tk6 18 60 ?_
 refine tk6 19 61 ?_
 refine tk6 20 62 ?_
 refine pz 21 10 ?_
 refine dn1 ?_
 have hR := fun {k : Nat} {m : List Int} (N : Nm w J (jo + k) m) (c' : Nat) => string_of_reads (P := Tryz.prog) (src := 51) (dst := 9) (A := some ⟨J, jo + k + 1, none⟩) (n := m.length) (c := c') (w := w.drew.drew) (xs := m) Tryz.underlying51 Tryz.underlying5 Tryz.underlying9 ⟨rfl, by have := N.len; omega, fun _ => ⟨_, rfl, fun q hq => by rw [addA]; exact N.ch q hq⟩⟩
 have ci := hR NI.out
 have cj' := hR NJ.out
 have HC := aa (And.intro (show li - ki = mi.length + 2 by have := LI.out; omega) (show lj - kj = mj.length + 2 by have := LJ.out; omega))
 have NI2 : Aside0 (Nm w.drew.drew J (jo + ki) mi) := ⟨⟨NI.out.op, NI.out.ch, NI.out.cl, NI.out.ok, NI.out.len⟩⟩
 have NJ2 : Aside0 (Nm w.drew.drew J (jo + kj) mj) := ⟨⟨NJ.out.op, NJ.out.ch, NJ.out.cl, NJ.out.ok, NJ.out.len⟩⟩
 clear hR hHeld hHeld2
 go_wp2_with (first
  | (go_at_call 159; with_reducible refine (jtype_calls (w := w.drew.drew) (m := mi) NI2.out _ HC.out.1).mono ?_; rintro e w' ⟨rfl, rfl⟩)
  | (go_at_call 159; with_reducible refine (jtype_calls (w := w.drew.drew) (m := mj) NJ2.out _ HC.out.2).mono ?_; rintro e w' ⟨rfl, rfl⟩)
  | (go_at_call 160; with_reducible refine (pstr_calls (w := w.drew.drew) (m := mi) NI2.out _ HC.out.1 (by have := LI.out; omega)).mono ?_; rintro e w' ⟨⟨c1, hc1, rfl⟩, rfl⟩)
  | (go_at_call 160; with_reducible refine (pstr_calls (w := w.drew.drew) (m := mj) NJ2.out _ HC.out.2 (by have := LJ.out; omega)).mono ?_; rintro e w' ⟨⟨c2, hc2, rfl⟩, rfl⟩))
 go_ret
 exact ⟨rfl, H.out.drew 2⟩
end Go.Proofs.YtmpdhdnoohmndaaGreatDoor.So
namespace Go.Proofs.YtmpdhdnoohmndaaGreatDoor.So
open Go.RowKit Go.Shelf Go.Proofs.YtmpdhdnoohmndaaGreatDoorW.PrintWords Go.Proofs.YtmpdhdnoohmndaaGreatDoorW.PrintLast Go.Proofs.YtmpdhdnoohmndaaGreatDoorW.PrintMore Sp Gj
set_option linter.unusedVariables false
set_option linter.unusedSimpArgs false
theorem bl_to : ∀ a b : List UInt8, a ≠ b → Op.bytesLess a b = false → Op.bytesLess b a = true
 | [], [], h, _ => absurd rfl h
 | [], _ :: _, _, h => by simp [Op.bytesLess] at h
 | _ :: _, [], _, _ => rfl
 | x :: a, y :: b, h, e => by
  simp only [Op.bytesLess, Bool.or_eq_false_iff, decide_eq_false_iff_not, Bool.and_eq_false_iff, beq_eq_false_iff_ne] at e
  simp only [Op.bytesLess, Bool.or_eq_true, decide_eq_true_eq, Bool.and_eq_true, beq_iff_eq]
  by_cases c : x = y
  ·subst c
   refine .inr ⟨rfl, bl_to a b (fun h' => h (by rw [h'])) ?_⟩
   rcases e.2 with e | e
   ·exact absurd rfl e
   ·exact e
  ·left
   have h1 := e.1
   rw [UInt8.lt_iff_toNat_lt] at h1 ⊢
   have : x.toNat ≠ y.toNat := fun h' => c (UInt8.toNat_inj.1 h')
   omega
theorem bl_irr : ∀ a : List UInt8, Op.bytesLess a a = false
 | [] => rfl
 | x :: a => by simp only [Op.bytesLess, bl_irr a, Bool.and_false, Bool.or_false, decide_eq_false_iff_not]; rw [UInt8.lt_iff_toNat_lt]; omega
theorem bl_tr : ∀ a b c : List UInt8, Op.bytesLess a b = true → Op.bytesLess b c = true → Op.bytesLess a c = true
 | _, [], _, h, _ => by simp [Op.bytesLess] at h
 | _, _ :: _, [], _, h => by simp [Op.bytesLess] at h
 | [], _ :: _, _ :: _, _, _ => rfl
 | x :: a, y :: b, z :: c, h, h' => by
  simp only [Op.bytesLess, Bool.or_eq_true, decide_eq_true_eq, Bool.and_eq_true, beq_iff_eq, UInt8.lt_iff_toNat_lt] at h h' ⊢
  rcases h with h | ⟨rfl, h⟩
  ·rcases h' with h' | ⟨rfl, h'⟩
   ·left; omega
   ·exact .inl h
  ·rcases h' with h' | ⟨rfl, h'⟩
   ·exact .inl h'
   ·exact .inr ⟨rfl, bl_tr a b c h h'⟩
def ltN (n : Nat) (nm : Nat → List Int) (x y : Nat) : Bool := if x < n ∧ y < n then sless (nm x) (nm y) else decide (x < y)
def Dif (n : Nat) (nm : Nat → List Int) : Prop := ∀ x y, x < n → y < n → x ≠ y → (strOfNums (nm x)).toList ≠ (strOfNums (nm y)).toList
theorem ltN_tot {n : Nat} {nm : Nat → List Int} (h : Dif n nm) : Tot (ltN n nm) := by
 refine ⟨fun x y z h1 h2 => ?_, fun x y hne h1 => ?_, fun x => ?_⟩
 ·unfold ltN at h1 h2 ⊢
  by_cases cx : x < n <;> by_cases cy : y < n <;> by_cases cz : z < n <;> simp only [cx, cy, cz, and_self, and_true, true_and, and_false, false_and, if_true, if_false, decide_eq_true_eq] at h1 h2 ⊢
  ·exact bl_tr _ _ _ h1 h2
  all_goals omega
 ·unfold ltN at h1 ⊢
  by_cases cx : x < n <;> by_cases cy : y < n <;> simp only [cx, cy, and_self, and_true, true_and, and_false, false_and, if_true, if_false, decide_eq_true_eq, decide_eq_false_iff_not] at h1 ⊢
  ·exact bl_to _ _ (h x y cx cy hne) h1
  all_goals omega
 ·unfold ltN
  by_cases cx : x < n <;> simp only [cx, and_self, if_true, if_false]
  ·exact bl_irr _
  ·exact ae (by omega)
structure PX (w0 : World) (J jo len cj n : Nat) (pl : Nat → Nat → Int) (nm : Nat → List Int) : Prop where
 nms : ∀ x, x < n → NmP w0 J jo len (pl x) (nm x)
 dif : Dif n nm
 hJ : J < w0.heap.size
 hl : len ≤ cj ∧ len ≤ 1000000000
 hn : n ≤ 1000000
set_option maxHeartbeats 4000000 in
set_option maxRecDepth 100000 in
theorem less_calls {w0 : World} {A P off : Nat} {J jo len cj : Nat} {bf : Value} {n c : Nat} {pl : Nat → Nat → Int} {nm : Nat → List Int} (X : PX w0 J jo len cj n pl nm) (hJA : J ≠ A) (hJP : J ≠ P) {D : Nat → Nat} {w : World} (h : PS w0 A P off (.slice (some ⟨J, jo, none⟩) len cj) bf n c pl D w) (hD : ∀ k, k < n → D k < n)
  (i j : Nat) {x y : Int} (hi : i < n) (hj : j < n) (hne : D i ≠ D j) (hx : x = i) (hy : y = j) :
  Calls Tryz.prog 155 #[.pointer (some ⟨A, 0, none⟩), .int .i64 x, .int .i64 y] w fun e w' => e = .returned (.bool (ltN n nm (D i) (D j))) ∧ PS w0 A P off (.slice (some ⟨J, jo, none⟩) len cj) bf n c pl D w' := by
 subst hx hy
 have hlt : ltN n nm (D i) (D j) = sless (nm (D i)) (nm (D j)) := by unfold ltN; rw [if_pos ⟨hD i hi, hD j hj⟩]
 rw [hlt]
 have H := aa h
 have ni := aa (X.nms _ (hD i hi))
 have nj := aa (X.nms _ (hD j hj))
 have hto : sless (nm (D i)) (nm (D j)) = false → sless (nm (D j)) (nm (D i)) = true := fun e => bl_to _ _ (X.dif _ _ (hD i hi) (hD j hj) hne) e
 cases hv : sless (nm (D i)) (nm (D j)) with
 | true =>
  clear h hto
  go_enter Tryz.func155, Tryz.ntmps155
  go_wp2_with (go_at_call 157; with_reducible refine (isless_calls H.out i j hi hj X.hn rfl rfl X.hJ hJA hJP X.hl.1 X.hl.2 ni.out nj.out).mono ?_; rintro e w1 ⟨rfl, hs⟩; rw [hv])
  go_ret
  exact ⟨rfl, hs⟩
 | false =>
  have hv2 := hto hv
  clear h hto
  go_enter Tryz.func155, Tryz.ntmps155
  go_wp2_with (first
   | (go_at_call 157; with_reducible refine (isless_calls H.out i j hi hj X.hn rfl rfl X.hJ hJA hJP X.hl.1 X.hl.2 ni.out nj.out).mono ?_; rintro e w1 ⟨rfl, hs⟩; rw [hv])
   | (go_at_call 157; with_reducible refine (isless_calls hs j i hj hi X.hn rfl rfl X.hJ hJA hJP X.hl.1 X.hl.2 nj.out ni.out).mono ?_; rintro e w2 ⟨rfl, hs2⟩; rw [hv2]))
  go_ret
  exact ⟨rfl, hs2⟩
theorem meth (A : Nat) : ∀ w, Sem.run Tryz.prog (method 345 128 (.pointer (some ⟨A, 0, none⟩)) "Swap") w = .ok (156, .pointer (some ⟨A, 0, none⟩)) w := fun w => by kernel_rfl
theorem methL (A : Nat) : ∀ w, Sem.run Tryz.prog (method 345 128 (.pointer (some ⟨A, 0, none⟩)) "Less") w = .ok (155, .pointer (some ⟨A, 0, none⟩)) w := fun w => by kernel_rfl
theorem methN (A : Nat) : ∀ w, Sem.run Tryz.prog (method 345 128 (.pointer (some ⟨A, 0, none⟩)) "Len") w = .ok (154, .pointer (some ⟨A, 0, none⟩)) w := fun w => by kernel_rfl
end Go.Proofs.YtmpdhdnoohmndaaGreatDoor.So

import Derived.Test.YtmpdhdnoohmndaaGreatDoorZip
import Derived.Test.YtmpdhdnoohmndaaGreatDoorPob0
namespace Go.Proofs.YtmpdhdnoohmndaaGreatDoor.Pr
open Go.RowKit Go.Proofs.YtmpdhdnoohmndaaGreatDoorW.PrintWords Go.Proofs.YtmpdhdnoohmndaaGreatDoorW.PrintLast Go.Proofs.YtmpdhdnoohmndaaGreatDoorW.PrintMore Sp Gj So
set_option linter.unusedVariables false
set_option linter.unusedSimpArgs false
def sumF (f : Nat → Nat) : Nat → Nat
 | 0 => 0
 | n + 1 => sumF f n + f n
theorem sum_cut (f : Nat → Nat) (v : Nat) : ∀ m, v < m → sumF (fun i => if i = v then 0 else f i) m + f v = sumF f m
 | 0, h => by omega
 | m + 1, h => by
  simp only [sumF]
  by_cases c : m = v
  ·subst c
   have : ∀ k, k ≤ m → sumF (fun i => if i = m then 0 else f i) k = sumF f k := by
    intro k
    induction k with
    | zero => intro _; rfl
    | succ k ih => intro hk; simp only [sumF]; rw [ih (by omega), if_neg (by omega)]
   rw [this m (Nat.le_refl _), if_pos rfl]
   omega
  ·have := sum_cut f v m (by omega)
   rw [if_neg c]
   omega
theorem sum_congr {f g : Nat → Nat} : ∀ n, (∀ i, i < n → f i = g i) → sumF f n = sumF g n
 | 0, _ => rfl
 | n + 1, h => by simp only [sumF]; rw [sum_congr n (fun i hi => h i (by omega)), h n (by omega)]
theorem sum_inj {D : Nat → Nat} : ∀ (n m : Nat) (f : Nat → Nat), (∀ i, i < n → D i < m) → Inj D n → sumF (fun i => f (D i)) n ≤ sumF f m
 | 0, _, _, _, _ => Nat.zero_le _
 | n + 1, m, f, h, hi => by
  have a := sum_inj n m (fun i => if i = D n then 0 else f i) (fun i hn => h i (by omega)) (fun i j h1 h2 => hi i j (by omega) (by omega))
  have b := sum_cut f (D n) m (h n (by omega))
  have c : sumF (fun i => (fun i => if i = D n then 0 else f i) (D i)) n = sumF (fun i => f (D i)) n := sum_congr n (fun i hn => by
   show (if D i = D n then 0 else f (D i)) = _
   rw [if_neg (fun e => by have := hi i n (by omega) (by omega) e; omega)])
  rw [c] at a
  simp only [sumF]
  omega
def JJ (m : Nat) (f : Nat → List Int) : List Int := (List.range m).flatMap (fun k => f k ++ [44, 10])
theorem JJ_succ (m : Nat) (f : Nat → List Int) : JJ (m + 1) f = JJ m f ++ (f m ++ [44, 10]) := by unfold JJ; rw [List.range_succ, List.flatMap_append]; simp
theorem join_JJ (m : Nat) (f : Nat → List Int) : joinN (m + 1) f = JJ m f ++ f m := by unfold joinN JJ; rw [Nat.add_sub_cancel]
theorem JJ_congr {m : Nat} {f g : Nat → List Int} (h : ∀ i, i < m → f i = g i) : JJ m f = JJ m g := by
 induction m with
 | zero => rfl
 | succ m ih => rw [JJ_succ, JJ_succ, ih (fun i hi => h i (by omega)), h m (by omega)]
theorem JJ_len (m : Nat) (f : Nat → List Int) : (JJ m f).length = sumF (fun i => (f i).length) m + 2 * m := by
 induction m with
 | zero => rfl
 | succ m ih => rw [JJ_succ, List.length_append, ih, List.length_append]; simp only [sumF, List.length_cons, List.length_nil]; omega
theorem join_len {n : Nat} {f : Nat → List Int} {D : Nat → Nat} (hn : 0 < n) (h : ∀ i, i < n → D i < n) (hi : Inj D n) : (joinN n (fun i => f (D i))).length ≤ (joinN n f).length := by
 cases n with
 | zero => omega
 | succ m =>
  have := sum_inj (m + 1) (m + 1) (fun i => (f i).length) h hi
  rw [join_JJ, join_JJ, List.length_append, List.length_append, JJ_len, JJ_len]
  simp only [sumF] at this
  omega
def SegS (nm seg : List Int) : Prop := ∃ t val, seg = t ++ (34 :: (nm ++ [34]) ++ ([58, 32] ++ val)) ∧ Bl t ∧ Nq nm ∧ nm.length ≤ 4096 ∧ PO val
theorem bl_plain {t : List Int} (h : Bl t) : LX t := LX.plain _ fun c hc => by have := h c hc; unfold Plain By; omega
theorem SegS.lx {nm seg : List Int} (h : SegS nm seg) : LX seg := by
 obtain ⟨t, val, rfl, h1, h2, h3, h4⟩ := h
 refine (bl_plain h1).app (LX.app ?_ (LX.app (.ch 58 _ (by unfold Plain By; omega) (.ch 32 _ (by unfold Plain By; omega) .nil)) h4.lx))
 exact .str nm [] h2 .nil
theorem SegS.last {nm seg : List Int} (h : SegS nm seg) : ∃ (s : List Int) (c : Int), seg = s ++ [c] ∧ 32 < c := by
 obtain ⟨t, val, rfl, h1, h2, h3, h4⟩ := h
 obtain ⟨s, c, rfl, hc⟩ := h4.last
 exact ⟨t ++ (34 :: (nm ++ [34]) ++ ([58, 32] ++ s)), c, by simp, hc⟩
theorem JJ_lx {m : Nat} {f : Nat → List Int} (h : ∀ i, i < m → LX (f i)) : LX (JJ m f) := by
 induction m with
 | zero => exact .nil
 | succ m ih => rw [JJ_succ]; exact (ih fun i hi => h i (by omega)).app ((h m (by omega)).app (.ch 44 _ (by unfold Plain By; omega) (.ch 10 _ (by unfold Plain By; omega) .nil)))
def ObjO (ns : List (List Int)) (out : List Int) : Prop := (ns = [] ∧ out = [123, 125]) ∨ ∃ (sg : Nat → List Int) (D : Nat → Nat) (t : List Int), 0 < ns.length ∧ out = 123 :: (10 :: (joinN ns.length (fun i => sg (D i)) ++ (10 :: t)) ++ [125]) ∧ Bl t ∧ (∀ i, i < ns.length → SegS (ns.getD i []) (sg i)) ∧ Prm 0 ns.length id D ∧ Srtd (ltN ns.length (fun i => ns.getD i [])) D 0 ns.length
theorem prm_lt {n : Nat} {D : Nat → Nat} (h : Prm 0 n id D) {i : Nat} (hi : i < n) : D i < n := by
 obtain ⟨_, p, hp, _⟩ := h
 obtain ⟨_, a, b⟩ := hp i (Nat.zero_le _) hi
 rw [b]; exact a
theorem ObjO.po {ns : List (List Int)} {out : List Int} (h : ObjO ns out) : PO out := by
 rcases h with ⟨_, rfl⟩ | ⟨sg, D, t, h1, rfl, h3, h4, h5, h6⟩
 ·exact .cont 123 [] 125 (.inl rfl) .nil (.inl rfl)
 ·refine .cont 123 _ 125 (.inl rfl) (.ch 10 _ (by unfold Plain By; omega) (LX.app ?_ (.ch 10 _ (by unfold Plain By; omega) (bl_plain h3)))) (.inl rfl)
  obtain ⟨m, hm⟩ : ∃ m, ns.length = m + 1 := ⟨ns.length - 1, by omega⟩
  rw [hm, join_JJ]
  exact (JJ_lx fun i hi => (h4 _ (prm_lt h5 (by omega))).lx).app (h4 _ (prm_lt h5 (by omega))).lx
section
variable {jl : List Int} {V : Nat → Nat → Prop}
theorem SkR.tl {i b : Nat} (h : SkR jl i b) (hi : i < b) : SkR jl (i + 1) b := ⟨hi, h.2.1, fun q a c => h.2.2 q (by omega) c⟩
theorem JM.le {i k : Nat} {ns : List (List Int)} (h : JM jl V i k ns) : i ≤ k := by
 induction h with
 | nil i k h => exact h.1
 | cons i nb ne b e k ns h1 h2 h3 h4 h5 h6 ih => obtain ⟨q, a1, a2, a3, _⟩ := h2; have := h1.1; have := h3.1; omega
theorem JM.step {q k : Nat} {ns : List (List Int)} (h : JM jl V q k ns) : (q = k ∧ ns = []) ∨ (q < k ∧ Sep (jl.getD q 0) ∧ JM jl V (q + 1) k ns) ∨ (∃ ne b e ns', JStr jl q ne ∧ SkR jl ne b ∧ V b e ∧ b < e ∧ JM jl V e k ns' ∧ e ≤ k ∧ ns = ((jl.take (ne - 1)).drop (q + 1)) :: ns') := by
 cases h with
 | nil _ _ h =>
  by_cases c : q < k
  ·exact .inr (.inl ⟨c, h.2.2 q (Nat.le_refl _) c, .nil _ _ (h.tl c)⟩)
  ·exact .inl ⟨by have := h.1; omega, rfl⟩
 | cons _ nb ne b e _ ns h1 h2 h3 h4 h5 h6 =>
  have hle := JM.le h6
  have hn : nb < ne := by obtain ⟨q, a1, a2, a3, _⟩ := h2; omega
  have := h1.1
  have := h3.1
  by_cases c : q < nb
  ·exact .inr (.inl ⟨by omega, h1.2.2 q (Nat.le_refl _) c, .cons _ nb ne b e _ ns (h1.tl c) h2 h3 h4 h5 h6⟩)
  ·obtain rfl : q = nb := by omega
   exact .inr (.inr ⟨ne, b, e, ns, h2, h3, h4, h5, h6, hle, rfl⟩)
theorem JE.le {i k : Nat} (h : JE jl V i k) : i ≤ k := by
 induction h with
 | nil i k h => exact h.1
 | cons i b e k h1 h2 h3 h4 ih => have := h1.1; omega
theorem JE.step (hV : ∀ b e, V b e → 32 < jl.getD b 0 ∧ jl.getD b 0 ≠ 93) {q k : Nat} (h : JE jl V q k) : q = k ∨ (q < k ∧ jl.getD q 0 ≤ 32 ∧ JE jl V (q + 1) k) ∨ (∃ b e, SkR jl q b ∧ V b e ∧ b < e ∧ JE jl V e k ∧ e ≤ k ∧ 32 < jl.getD q 0 ∧ jl.getD q 0 ≠ 93) := by
 cases h with
 | nil _ _ h =>
  by_cases c : q < k
  ·exact .inr (.inl ⟨c, h.2.2 q (Nat.le_refl _) c, .nil _ _ ⟨c, h.2.1, fun r a d => h.2.2 r (by omega) d⟩⟩)
  ·exact .inl (by have := h.1; omega)
 | cons _ b e _ h1 h2 h3 h4 =>
  have hle := JE.le h4
  have hb := hV b e h2
  have := h1.1
  by_cases c : q < b
  ·rcases h1.2.2 q (Nat.le_refl _) c with g | g
   ·exact .inr (.inl ⟨by omega, g, .cons _ b e _ (h1.tl c) h2 h3 h4⟩)
   ·exact .inr (.inr ⟨b, e, h1, h2, h3, h4, hle, by omega, by omega⟩)
  ·obtain rfl : q = b := by omega
   exact .inr (.inr ⟨q, e, h1, h2, h3, h4, hle, hb⟩)
end
structure Acc (jl l : List Int) (b q : Nat) (B : List Int) (ps : List S118) (nms sgs : List (List Int)) : Prop where
 lp : ps.length = nms.length
 ls : sgs.length = nms.length
 lq : nms.length + b < q
 eq : B ++ (if nms.length = 0 then [10] else [44, 10]) = l ++ [123, 10] ++ JJ nms.length (fun i => sgs.getD i [])
 len : B.length + 400000 ≤ l.length + 800000 * (q - b)
 seg : ∀ i, i < nms.length → SegS (nms.getD i []) (sgs.getD i [])
 pos : ∀ i, i < nms.length → ∃ s t : Nat, (ps.getD i z118).f2 = s ∧ (ps.getD i z118).f3 = t ∧ s ≤ t ∧ t ≤ B.length ∧ (B.take t).drop s = sgs.getD i []
 st : 0 < nms.length → (ps.getD 0 z118).f2 = ((l ++ [123, 10]).length : Nat)
 en : 0 < nms.length → (ps.getD (nms.length - 1) z118).f3 = (B.length : Nat)
 nm : ∀ i, i < nms.length → ∃ k ne : Nat, (ps.getD i z118).f0 = k ∧ (ps.getD i z118).f1 = ne ∧ JStr jl k ne ∧ nms.getD i [] = (jl.take (ne - 1)).drop (k + 1)
theorem getD_snoc_lt {α : Type} {l : List α} {x d : α} {i : Nat} (h : i < l.length) : (l ++ [x]).getD i d = l.getD i d := by simp [List.getD_eq_getElem?_getD, List.getElem?_append_left h]
theorem getD_snoc {α : Type} {l : List α} {x d : α} {n : Nat} (h : l.length = n) : (l ++ [x]).getD n d = x := by subst h; simp [List.getD_eq_getElem?_getD]
theorem Acc.start (jl l : List Int) (b : Nat) : Acc jl l b (b + 1) (l ++ [123]) [] [] [] :=
 ⟨rfl, rfl, by simp, by simp [JJ], Z61, fun i h => by simp at h, fun i h => by simp at h, fun h => by simp at h, fun h => by simp at h, fun i h => by simp at h⟩
theorem Acc.skip {jl l : List Int} {b q : Nat} {B : List Int} {ps : List S118} {nms sgs : List (List Int)} (h : Acc jl l b q B ps nms sgs) : Acc jl l b (q + 1) B ps nms sgs :=
 have h1 := h.lq
 have h2 := h.len
 have h3 : B.length + 400000 ≤ l.length + 800000 * (q + 1 - b) := by
  rw [show q + 1 - b = (q - b) + 1 by omega]
  generalize q - b = z at h2 ⊢
  omega
 { lp := h.lp, ls := h.ls, lq := by omega, eq := h.eq, len := h3, seg := h.seg, pos := h.pos, st := h.st, en := h.en, nm := h.nm }
theorem Acc.next {jl l : List Int} {b q ne e : Nat} {B B1 B2 : List Int} {ps : List S118} {nms sgs : List (List Int)} {t val : List Int} (h : Acc jl l b q B ps nms sgs) (hj : JStr jl q ne) (hne : ne < e) (hl : jl.length ≤ 4096) (ht : Bl t) (htl : t.length ≤ 330000) (hv : PO val) (hvl : val.length + 400000 ≤ 800000 * (e - ne))
  (h1 : B1 = B ++ (if nms.length = 0 then [10] else [44, 10])) (h2 : B2 = B1 ++ t ++ (jl.take ne).drop q ++ [58] ++ [32] ++ val) {p : S118} (p0 : p.f0 = q) (p1 : p.f1 = ne) (p2 : p.f2 = B1.length) (p3 : p.f3 = B2.length) :
  Acc jl l b e B2 (ps ++ [p]) (nms ++ [(jl.take (ne - 1)).drop (q + 1)]) (sgs ++ [t ++ (34 :: ((jl.take (ne - 1)).drop (q + 1) ++ [34]) ++ ([58, 32] ++ val))]) := by
 obtain ⟨e1, e2⟩ := str_eq hj
 have hlp := h.lp
 have hls := h.ls
 have hlq := h.lq
 have hlen := h.len
 have heq := h.eq
 have hn1 : (nms ++ [(jl.take (ne - 1)).drop (q + 1)]).length = nms.length + 1 := by simp
 have hqn : q + 2 ≤ ne ∧ ne ≤ jl.length := by obtain ⟨r, a1, a2, a3, _⟩ := hj; omega
 have hsl : ((jl.take ne).drop q).length = ne - q := Z41
 have hB1 : B1.length ≤ B.length + 2 := by rw [h1, List.length_append]; split <;> simp
 have hB2 : B2.length = B1.length + t.length + (ne - q) + 2 + val.length := by rw [h2]; simp only [List.length_append, hsl, List.length_cons, List.length_nil]
 have hseg : B2 = B1 ++ (t ++ (34 :: ((jl.take (ne - 1)).drop (q + 1) ++ [34]) ++ ([58, 32] ++ val))) := by rw [h2, e1]; simp
 have hBp : ∃ X, B2 = B ++ X := ⟨(if nms.length = 0 then [10] else [44, 10]) ++ _, by rw [hseg, h1, List.append_assoc]⟩
 refine ⟨by simp [hlp], by simp [hls], by rw [hn1]; omega, ?_, by omega, ?_, ?_, ?_, ?_, ?_⟩
 ·rw [hn1, if_neg (by omega), JJ_succ, getD_snoc hls, JJ_congr (g := fun i => sgs.getD i []) (fun i hi => getD_snoc_lt (by omega)), hseg, h1, heq]
  simp
 ·intro i hi
  rw [hn1] at hi
  by_cases c : i < nms.length
  ·rw [getD_snoc_lt c, getD_snoc_lt (by omega)]; exact h.seg i c
  ·obtain rfl : i = nms.length := by omega
   rw [getD_snoc rfl, getD_snoc hls]
   exact ⟨t, val, rfl, ht, e2, Z41, hv⟩
 ·intro i hi
  rw [hn1] at hi
  by_cases c : i < nms.length
  ·rw [getD_snoc_lt (by omega), getD_snoc_lt (by omega)]
   obtain ⟨s, t', a1, a2, a3, a4, a5⟩ := h.pos i c
   obtain ⟨X, hX⟩ := hBp
   refine ⟨s, t', a1, a2, a3, by rw [hX, List.length_append]; omega, ?_⟩
   rw [hX, List.take_append_of_le_length a4]
   exact a5
  ·obtain rfl : i = nms.length := by omega
   rw [getD_snoc hlp, getD_snoc hls]
   exact ⟨B1.length, B2.length, p2, p3, by omega, Nat.le_refl _, by rw [List.take_length, hseg, List.drop_left]⟩
 ·intro _
  by_cases c : nms.length = 0
  ·rw [getD_snoc (by omega), p2, h1, heq]
   rw [c]; simp [JJ]
  ·rw [getD_snoc_lt (by omega)]; exact h.st (by omega)
 ·intro _
  rw [hn1, Nat.add_sub_cancel, getD_snoc hlp, p3]
 ·intro i hi
  rw [hn1] at hi
  by_cases c : i < nms.length
  ·rw [getD_snoc_lt (by omega), getD_snoc_lt c]; exact h.nm i c
  ·obtain rfl : i = nms.length := by omega
   rw [getD_snoc hlp, getD_snoc rfl]
   exact ⟨q, ne, p0, p1, hj, rfl⟩
theorem Bs.then2 {w0 w W w1 : World} {P0 : Nat → Prop} {v v1 : Value} {xs ys : List Int} {P : Nat} (h : Bs w0 w P0 W v xs) (hP : w.heap.size ≤ P) (h' : Bs w0 W (fun k => some k = v.ownBlock ∨ k = P) w1 v1 ys) : Bs w0 w P0 w1 v1 ys :=
 ⟨Kd.R_mono h'.r (fun k hk => by
  rcases hk with (e | rfl) | e
  ·exact h.r.1 k e.symm
  ·exact .inr hP
  ·exact .inr (Nat.le_trans h.k.1 e)), h'.b, h.k.then_ h'.k (fun k e => by
  rcases e with e | rfl
  ·exact h.r.1 k e.symm
  ·exact .inr hP)⟩
theorem Acc.seg_ {jl l : List Int} {b q m : Nat} {B : List Int} {ps : List S118} {nms sgs : List (List Int)} (h : Acc jl l b q B ps nms sgs) (hm : nms.length = m) (h0 : 0 < m) : Seg B (l ++ [123, 10]) m (plOf ps) (fun i => sgs.getD i []) := by
 subst hm
 refine ⟨?_, fun i hi => h.pos i hi, h.st h0, h.en h0⟩
 obtain ⟨m, hm⟩ : ∃ m, nms.length = m + 1 := ⟨nms.length - 1, by omega⟩
 have := h.eq
 rw [if_neg (by omega), hm, JJ_succ, ← List.append_assoc, ← List.append_assoc] at this
 rw [List.append_cancel_right this, hm, join_JJ, List.append_assoc]
theorem Acc.px {jl l : List Int} {b q m : Nat} {B : List Int} {ps : List S118} {nms sgs : List (List Int)} (h : Acc jl l b q B ps nms sgs) (hm : nms.length = m) (hd : Diff nms) {W : World} {P0 : Nat → Prop} {J cj : Nat} (HJ : Js W P0 J cj jl) (hq : q ≤ jl.length) : PX W J 0 jl.length cj m (plOf ps) (fun i => nms.getD i []) := by
 subst hm
 have hc := HJ.hc
 refine ⟨fun i hi => ?_, hd, HJ.lt, ⟨hc.1, by omega⟩, by have := h.lq; omega⟩
 obtain ⟨k, ne, e0, e1, hj, e2⟩ := h.nm i hi
 obtain ⟨r, a1, a2, a3, a4, a5, a6⟩ := hj
 have hlen : (nms.getD i []).length = r - (k + 1) := by rw [e2, List.length_drop, List.length_take]; omega
 have hg : ∀ t, t < r - (k + 1) → (nms.getD i []).getD t 0 = jl.getD (k + 1 + t) 0 := fun t ht => by
  rw [e2]
  simp only [List.getD_eq_getElem?_getD, List.getElem?_drop, List.getElem?_take]
  rw [if_pos (by omega)]
 refine ⟨k, e0, by rw [hlen, show k + (r - (k + 1) + 2) = ne by omega]; exact e1, by rw [hlen]; omega, ?_⟩
 rw [Nat.zero_add]
 refine ⟨by rw [HJ.c k (by omega), a4], fun t ht => ?_, ?_, fun t ht => ?_, by rw [hlen]; omega⟩
 ·rw [hlen] at ht
  rw [HJ.c _ (by omega), hg t ht]
 ·rw [hlen, show k + 1 + (r - (k + 1)) = r by omega, HJ.c r a2, a6]
 ·rw [hlen] at ht
  rw [hg t ht]
  exact (a5 _ (by omega) (by omega)).1
set_option maxHeartbeats 4000000 in
set_option maxRecDepth 100000 in
theorem sp0_calls {w : World} (js v : Value) (A : Option Addr) (c : Nat) : Calls Tryz.prog 63 #[js, v, .slice A 0 c] w fun e w' => e = .returned v ∧ w = w' := by
 go_enter Tryz.func63, Tryz.ntmps63
 go_wp2
 go_ret
 exact ⟨rfl, rfl⟩
theorem sorted_tail {jl l : List Int} {b q m m1 : Nat} {B : List Int} {ps : List S118} {nms sgs : List (List Int)} (h : Acc jl l b q B ps nms sgs) (hm : nms.length = m) (h1 : m = m1 + 1) {D : Nat → Nat} (p1 : Prm 0 m id D) :
  ∃ Y d, l ++ [123, 10] ++ joinN m (fun i => sgs.getD (D i) []) = Y ++ [d] ∧ 32 < d ∧ (joinN m (fun i => sgs.getD (D i) [])).length + l.length + 2 ≤ B.length ∧ Y.length + 1 ≤ B.length := by
 have hj := join_len (f := fun i => sgs.getD i []) (D := D) (by omega : 0 < m) (fun i hi => prm_lt p1 hi) (p1.inj (Nat.le_refl _) (inj_id m))
 have hB := congrArg List.length (h.seg_ hm (by omega)).eq
 rw [List.length_append, List.length_append] at hB
 simp only [List.length_cons, List.length_nil] at hB
 obtain ⟨s, c, hs, hc⟩ := (h.seg (D m1) (by rw [hm]; exact prm_lt p1 (by omega))).last
 refine ⟨l ++ [123, 10] ++ (JJ m1 (fun i => sgs.getD (D i) []) ++ s), c, ?_, hc, by omega, ?_⟩
 ·rw [h1, join_JJ, hs]; simp
 ·rw [h1, join_JJ, hs] at hj
  simp only [List.length_append, List.length_cons, List.length_nil] at hj ⊢
  rw [← h1] at hj
  omega
theorem lenc {X : List Int} (d : Int) {a b : Nat} (h : X.length ≤ a) (hb : a + 1 ≤ b) : (X ++ [d]).length ≤ b := by rw [List.length_append]; exact Nat.le_trans (Nat.add_le_add_right h 1) hb
theorem cz4 {W : World} {b : Nat} {c0 c1 c2 c3 : Value} (h : W.heap[b]? = some (.cells #[c0, c1, c2, c3] 118 (0, 0))) : W.cell? ⟨b, 0, none⟩ = some c0 ∧ W.cell? ⟨b, 1, none⟩ = some c1 ∧ W.cell? ⟨b, 2, none⟩ = some c2 ∧ W.cell? ⟨b, 3, none⟩ = some c3 ∧ W.frozen? ⟨b, 0, none⟩ = false ∧ W.frozen? ⟨b, 1, none⟩ = false ∧ W.frozen? ⟨b, 2, none⟩ = false ∧ W.frozen? ⟨b, 3, none⟩ = false :=
 ⟨(ax h 0), (ax h 1), (ax h 2), (ax h 3), blk_frozen h 0, blk_frozen h 1, blk_frozen h 2, blk_frozen h 3⟩
theorem Js.in_ {w0 w W : World} {P0 : Nat → Prop} {v : Value} {xs jl : List Int} {J cj : Nat} (h : Js w P0 J cj jl) (k : Bs w0 w P0 W v xs) : Js W (fun k => some k = v.ownBlock) J cj jl :=
 ⟨(h.kept k.k).c, (h.kept k.k).lt, fun e => by
  have := h.lt
  rcases k.r.1 J e.symm with g | g
  ·exact h.ne g
  ·omega, h.hc⟩
theorem szs {W : World} {p : Addr} {u : Value} : (W.setCell p u).heap.size = W.heap.size := by simp [World.setCell]
end Go.Proofs.YtmpdhdnoohmndaaGreatDoor.Pr

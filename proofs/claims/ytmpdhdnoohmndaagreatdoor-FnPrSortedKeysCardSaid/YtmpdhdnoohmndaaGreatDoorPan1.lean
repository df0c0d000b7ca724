import Derived.Test.YtmpdhdnoohmndaaGreatDoorZip
import Derived.Test.YtmpdhdnoohmndaaGreatDoorPg0
namespace Go.Proofs.YtmpdhdnoohmndaaGreatDoor.Pr
open Go.RowKit Go.Proofs.YtmpdhdnoohmndaaGreatDoorW.PrintWords Go.Proofs.YtmpdhdnoohmndaaGreatDoorW.PrintLast Go.Proofs.YtmpdhdnoohmndaaGreatDoorW.PrintMore Sp Gj
set_option linter.unusedVariables false
set_option linter.unusedSimpArgs false
theorem new_C (W : World) (xs : List Int) (h : xs.length ≤ 1000) : Kd.C (Kd.int .u8) (W.alloc (.cells (xs.map (Value.int .u8)).toArray 5)) (some ⟨W.heap.size, 0, none⟩) xs.length xs :=
 Kd.C_of_reads (enc := Value.int .u8) (d := (0 : Int)) (h1 := fun _ => rfl) ⟨rfl, by omega, fun _ => ⟨_, rfl, fun j hj => by
  rw [addB, World.cell?_alloc_new]
  simp [List.getD_eq_getElem?_getD, List.getElem?_eq_getElem hj, hj]⟩⟩
theorem seg_get {jl l : List Int} {b e : Nat} (h : (jl.take e).drop b = l) {k : Nat} (hk : k < l.length) : jl.getD (b + k) 0 = l.getD k 0 := by
 subst h
 have hl : b + k < e ∧ b + k < jl.length := by rw [List.length_drop, List.length_take] at hk; omega
 simp only [List.getD_eq_getElem?_getD, List.getElem?_drop, List.getElem?_take]
 rw [if_pos hl.1]
theorem str_eq {jl : List Int} {b e : Nat} (h : JStr jl b e) : (jl.take e).drop b = 34 :: ((jl.take (e - 1)).drop (b + 1) ++ [34]) ∧ Nq ((jl.take (e - 1)).drop (b + 1)) := by
 obtain ⟨q, h1, h2, rfl, h4, h5, h6⟩ := h
 have hlen : ((jl.take (q + 1)).drop b).length = q + 1 - b := Z41
 rw [Nat.add_sub_cancel]
 refine ⟨?_, fun c hc => ?_⟩
 ·apply List.ext_getElem?
  intro k
  rcases Nat.lt_or_ge k (q + 1 - b) with c | c
  ·rw [List.getElem?_drop, List.getElem?_take, if_pos (by omega)]
   cases k with
   | zero =>
    rw [Nat.add_zero, List.getElem?_cons_zero, ← h4, List.getD_eq_getElem?_getD, List.getElem?_eq_getElem (show b < jl.length by omega)]
    rfl
   | succ k =>
    rw [List.getElem?_cons_succ]
    have hl2 : ((jl.take q).drop (b + 1)).length = q - (b + 1) := Z41
    rcases Nat.lt_or_ge k (q - (b + 1)) with d | d
    ·rw [List.getElem?_append_left (by omega), List.getElem?_drop, List.getElem?_take, if_pos (by omega)]
     congr 1
     omega
    ·obtain rfl : k = q - (b + 1) := by omega
     rw [List.getElem?_append_right (by omega), hl2, Nat.sub_self, List.getElem?_cons_zero, show b + (q - (b + 1) + 1) = q by omega, ← h6, List.getD_eq_getElem?_getD, List.getElem?_eq_getElem h2]
     rfl
  ·rw [List.getElem?_eq_none (by omega), List.getElem?_eq_none]
   simp only [List.length_cons, List.length_append, List.length_nil, List.length_drop, List.length_take]
   omega
 ·obtain ⟨k, hk, rfl⟩ := List.getElem_of_mem hc
  rw [List.length_drop, List.length_take] at hk
  have := h5 (b + 1 + k) (by omega) (by omega)
  rw [List.getD_eq_getElem?_getD, List.getElem?_eq_getElem (by omega)] at this
  simpa using this
theorem str_po {jl : List Int} {b e : Nat} (h : JStr jl b e) (hl : jl.length ≤ 4096) : PO ((jl.take e).drop b) ∧ ((jl.take e).drop b).length = e - b := by
 obtain ⟨e1, e2⟩ := str_eq h
 obtain ⟨q, h1, h2, rfl, h4, h5, h6⟩ := h
 exact ⟨by rw [e1]; exact .str _ e2 Z41, Z41⟩
theorem num_po {jl : List Int} {b e : Nat} (h : JNum jl b e) (hl : jl.length ≤ 4096) : PO ((jl.take e).drop b) ∧ ((jl.take e).drop b).length = e - b := by
 obtain ⟨h1, h2, h3, h4, _⟩ := h
 have hlen : ((jl.take e).drop b).length = e - b := Z41
 refine ⟨?_, hlen⟩
 obtain ⟨c, l, hcl⟩ : ∃ c l, (jl.take e).drop b = c :: l := by
  cases hx : (jl.take e).drop b with
  | nil => rw [hx] at hlen; simp at hlen; omega
  | cons c l => exact ⟨c, l, rfl⟩
 have hget := fun k (hk : k < (c :: l).length) => seg_get hcl hk
 rw [hcl] at hlen ⊢
 refine .num c l (by have := hget 0 (by simp); rw [Nat.add_zero] at this; simp at this; rw [← List.getD_eq_getElem?_getD] at this; rw [this] at h3; exact h3) (fun d hd => ?_) (by simp at hlen; omega)
 obtain ⟨k, hk, rfl⟩ := List.getElem_of_mem hd
 have := hget k hk
 rw [show (c :: l).getD k 0 = (c :: l)[k] by rw [List.getD_eq_getElem?_getD, List.getElem?_eq_getElem hk]; rfl] at this
 rw [← this]
 exact h4 (b + k) (by omega) (by omega)
theorem wi3 {i n : Nat} (h : i < n) (hn : n ≤ 1000000) : wrap64 ((i : Int) + 1) = ((i + 1 : Nat) : Int) := by unfold wrap64; omega
set_option maxHeartbeats 8000000 in
set_option maxRecDepth 100000 in
theorem any_calls {jl : List Int} {wd : Int} {pre ind : au} {V : Nat → Nat → Prop} (hC : CtC V jl wd pre ind) : AnyC (fun b e => JStr jl b e ∨ JNum jl b e ∨ JWord jl b e ∨ ∃ o, JC jl V o b e) jl wd pre ind := by
 intro w0 w P0 u l J cj HB HJ i b e tabs nl max pretty x y hsk hv hm hl ht hx hy
 subst hx hy
 have hc := HJ.hc
 have hbl : b < jl.length := by
  rcases hv with ⟨q, h1, h2, _⟩ | ⟨h1, h2, _⟩ | (⟨h1, h2, _⟩ | ⟨h1, h2, _⟩ | ⟨h1, h2, _⟩) | ⟨o, k, h1, h2, _⟩ <;> omega
 have HS := aa HB
 have HJs := aa HJ
 have HK := aa hsk
 have HV := aa hv
 have HM := aa hm
 have HL := aa (And.intro hl ht)
 have p0 : i ≤ b := hsk.1
 clear HB HJ hsk hv hm hl ht
 go_enter Tryz.func33, Tryz.ntmps33
 go_wp2
 go_loopg [2] (b + 1) (fun k v2 wr => ∃ q : Nat, v2 = .int .i64 q ∧ i ≤ q ∧ q ≤ b ∧ b - q < k ∧ Aside0 (wr = w))
 case atStart => exact ⟨i, rfl, Nat.le_refl _, p0, by omega, ⟨rfl⟩⟩
 case round =>
  obtain ⟨q, rfl, q1, q2, hk, HW⟩ := hrel
  obtain rfl := HW.out
  have b1 : (q : Int) < jl.length := by omega
  have b2 : decide ((q : Int) < (jl.length : Int)) = true := ac b1
  have c0 := HJs.out.c q (by omega)
  have c1 : (cj = q) = False := eq_false (by omega)
  by_cases ce : q < b
  ·obtain ⟨v, hv⟩ : ∃ v, jl.getD q 0 = v := ⟨_, rfl⟩
   have hm1 := HK.out.2.2 q q1 ce
   rw [hv] at c0 hm1
   have b3 : q ≤ jl.length := by omega
   have b4 : jl.length ≤ cj := hc.1
   clear hv
   rcases hm1 with h | rfl | rfl
   ·have d0 : decide (v ≤ 32) = true := ac h
    clear h
    go_wp2
    go_roundg (b - q)
    case measure => omega
    case rel => exact ⟨q + 1, Z37, by omega, by omega, by omega, ⟨rfl⟩⟩
   all_goals
    go_wp2_with (go_at_call 47; refine (nan_calls (w := wr) (J := J) (o := q) (by omega) c0 (by decide) (fun h => absurd h (by decide))).mono ?_; rintro r w' ⟨rfl, rfl⟩)
    go_roundg (b - q)
    case measure => omega
    case rel => exact ⟨q + 1, Z37, by omega, by omega, by omega, ⟨rfl⟩⟩
  ·obtain rfl : q = b := by omega
   have Cy := aa hc
   rcases HV.out with hs | hn | hw | ⟨o, ho⟩
   ·have HPo := aa (str_po hs hc.2.2)
    obtain ⟨k, k1, k2, rfl, k4, k5, k6⟩ := hs
    rw [k4] at c0
    have HX := aa (And.intro k5 k6)
    have hll : l.length ≤ 10000000000 := by have := HL.out.1; omega
    clear k4 k5 k6
    go_wp2_with (go_at_call 46; refine (pstr_calls HS.out HJs.out q k nl rfl k1 k2 (fun r g1 g2 => (HX.out.1 r g1 g2).1) HX.out.2 hll).mono ?_; rintro r w' ⟨v1, rfl, hb⟩)
    refine bodyPost_ret (results_list (rs := [.tmp 22, .tmp 23, .tmp 24, .tmp 25]) rfl (by simp) (.tmp (.tmp (.tmp (.tmp .nil))))) rfl ?_
    exact ⟨v1, _, _, _, true, rfl, hb, fun _ => ⟨HPo.out.1, rfl, by rw [HPo.out.2]; omega⟩⟩
   ·have HPo := aa (num_po hn hc.2.2)
    obtain ⟨h1, h2, h3, h4, h5⟩ := hn
    have hst := fun r (g1 : q < r) (g2 : r < e) => show ¬ Stop (jl.getD r 0) by
     have := h4 r (by omega) g2
     unfold NumCh at this
     unfold Stop
     omega
    obtain ⟨v, hv⟩ : ∃ v, jl.getD q 0 = v := ⟨_, rfl⟩
    rw [hv] at c0 h3
    have HX := aa (And.intro hst h5)
    have hll : l.length ≤ 10000000000 := by have := HL.out.1; omega
    clear hst h4 h5 hv
    rcases h3 with hd | rfl
    ·have d0 : decide (v ≤ 32) = false := ae (by omega)
     have d1 : (v == 34) = false := ag (by omega)
     have d2 : decide (v ≥ 48) = true := ac hd.1
     have d3 : decide (v ≤ 57) = true := ac hd.2
     clear hd
     go_wp2_with (go_at_call 48; refine (pnum_calls HS.out HJs.out q e nl rfl h1 h2 HX.out.1 HX.out.2 hll).mono ?_; rintro r w' ⟨v1, rfl, hb⟩)
     refine bodyPost_ret (results_list (rs := [.tmp 22, .tmp 23, .tmp 24, .tmp 25]) rfl (by simp) (.tmp (.tmp (.tmp (.tmp .nil))))) rfl ?_
     exact ⟨v1, _, _, _, true, rfl, hb, fun _ => ⟨HPo.out.1, rfl, by rw [HPo.out.2]; omega⟩⟩
    ·go_wp2_with (go_at_call 48; refine (pnum_calls HS.out HJs.out q e nl rfl h1 h2 HX.out.1 HX.out.2 hll).mono ?_; rintro r w' ⟨v1, rfl, hb⟩)
     refine bodyPost_ret (results_list (rs := [.tmp 22, .tmp 23, .tmp 24, .tmp 25]) rfl (by simp) (.tmp (.tmp (.tmp (.tmp .nil))))) rfl ?_
     exact ⟨v1, _, _, _, true, rfl, hb, fun _ => ⟨HPo.out.1, rfl, by rw [HPo.out.2]; omega⟩⟩
   ·have b3 : q ≤ jl.length := by omega
    have b4 : jl.length ≤ cj := hc.1
    rcases hw with ⟨rfl, h2, h3⟩ | ⟨rfl, h2, h3⟩ | ⟨rfl, h2, h3⟩
    ·rw [show jl.getD q 0 = 116 by have := seg_get h3 (k := 0) (by decide); simpa using this] at c0
     have H3 := aa h3
     have L := aa (show l.length + 4 ≤ 100000000000000 by have := HL.out.1; omega)
     clear h3
     go_wp2_with (first
      | (go_at_call 47; refine (nan_calls (w := wr) (J := J) (o := q) (by omega) c0 (by decide) (fun h => absurd h (by decide))).mono ?_; rintro r w' ⟨rfl, rfl⟩)
      | ((with_reducible refine gate_builtin (b := .append) (xs := #[.tmp 133, .tmp 134]) rfl ?_); at_builtin; refine appR 133 134 [116, 114, 117, 101] (HS.out.alloc _) (new_C _ [116, 114, 117, 101] (by decide)) L.out ?_; intro v1 w4 hn1 hap1; have HN1 := aa hn1; clear hn1 hap1))
     refine bodyPost_ret (results_list (rs := [.tmp 22, .tmp 23, .tmp 24, .tmp 25]) rfl (by simp) (.tmp (.tmp (.tmp (.tmp .nil))))) rfl ?_
     exact ⟨v1, _, _, _, true, rfl, HN1.out, fun _ => ⟨.word _ (.inl rfl), by first | rfl | (simp; done) | (unfold wrap64; omega), by simp⟩⟩
    ·rw [show jl.getD q 0 = 102 by have := seg_get h3 (k := 0) (by decide); simpa using this] at c0
     have H3 := aa h3
     have L := aa (show l.length + 5 ≤ 100000000000000 by have := HL.out.1; omega)
     clear h3
     go_wp2_with (first
      | (go_at_call 47; refine (nan_calls (w := wr) (J := J) (o := q) (by omega) c0 (by decide) (fun h => absurd h (by decide))).mono ?_; rintro r w' ⟨rfl, rfl⟩)
      | ((with_reducible refine gate_builtin (b := .append) (xs := #[.tmp 141, .tmp 142]) rfl ?_); at_builtin; refine appR 141 142 [102, 97, 108, 115, 101] (HS.out.alloc _) (new_C _ [102, 97, 108, 115, 101] (by decide)) L.out ?_; intro v1 w4 hn1 hap1; have HN1 := aa hn1; clear hn1 hap1))
     refine bodyPost_ret (results_list (rs := [.tmp 22, .tmp 23, .tmp 24, .tmp 25]) rfl (by simp) (.tmp (.tmp (.tmp (.tmp .nil))))) rfl ?_
     exact ⟨v1, _, _, _, true, rfl, HN1.out, fun _ => ⟨.word _ (.inr (.inl rfl)), by first | rfl | (simp; done) | (unfold wrap64; omega), by simp⟩⟩
    ·rw [show jl.getD q 0 = 110 by have := seg_get h3 (k := 0) (by decide); simpa using this] at c0
     have cu := HJs.out.c (q + 1) (by omega)
     rw [show jl.getD (q + 1) 0 = 117 by have := seg_get h3 (k := 1) (by decide); simpa using this] at cu
     have H3 := aa h3
     have L := aa (show l.length + 4 ≤ 100000000000000 by have := HL.out.1; omega)
     clear h3
     go_wp2_with (first
      | (go_at_call 47; refine (nan_calls (w := wr) (J := J) (o := q) (by omega) c0 (by decide) (fun _ _ => cu)).mono ?_; rintro r w' ⟨rfl, rfl⟩)
      | ((with_reducible refine gate_builtin (b := .append) (xs := #[.tmp 149, .tmp 150]) rfl ?_); at_builtin; refine appR 149 150 [110, 117, 108, 108] (HS.out.alloc _) (new_C _ [110, 117, 108, 108] (by decide)) L.out ?_; intro v1 w4 hn1 hap1; have HN1 := aa hn1; clear hn1 hap1))
     refine bodyPost_ret (results_list (rs := [.tmp 22, .tmp 23, .tmp 24, .tmp 25]) rfl (by simp) (.tmp (.tmp (.tmp (.tmp .nil))))) rfl ?_
     exact ⟨v1, _, _, _, true, rfl, HN1.out, fun _ => ⟨.word _ (.inr (.inr rfl)), by first | rfl | (simp; done) | (unfold wrap64; omega), by simp⟩⟩
   ·have b3 : q ≤ jl.length := by omega
    have b4 : jl.length ≤ cj := hc.1
    have HO := aa ho
    obtain ⟨k, k1, k2, rfl, k4, k5⟩ := ho
    rw [k4] at c0
    have ho2 : o = 91 ∨ o = 123 := by rcases k5 with h | h; exact .inl h.1; exact .inr h.1
    clear k4 k5
    rcases ho2 with rfl | rfl
    all_goals
     go_wp2_with (first
      | (go_at_call 47; refine (nan_calls (w := wr) (J := J) (o := q) (by omega) c0 (by decide) (fun h => absurd h (by decide))).mono ?_; rintro r w' ⟨rfl, rfl⟩)
      | (go_at_call 49; refine (hC HS.out HJs.out q (k + 1) tabs nl max _ pretty HO.out HM.out HL.out.1 HL.out.2 rfl rfl).mono ?_; rintro r w' ⟨v1, out, e', nl', ok, rfl, hb, hp⟩))
     refine bodyPost_ret (results_list (rs := [.tmp 22, .tmp 23, .tmp 24, .tmp 25]) rfl (by simp) (.tmp (.tmp (.tmp (.tmp .nil))))) rfl ?_
     exact ⟨v1, out, e', nl', ok, rfl, hb, hp⟩
end Go.Proofs.YtmpdhdnoohmndaaGreatDoor.Pr

import Derived.Test.YtkjnahgicfmicaaGreatDoorZip
import Derived.Test.YtkjnahgicfmicaaGreatDoorQm
namespace Go.Proofs.YtkjnahgicfmicaaGreatDoor.Gj
open Go.RowKit Go.PW Go.PL Go.PM Sp Dec
attribute [local go_sem] run_store_float max2_int min2_int max_two min_two max_three min_three max_four min_four
set_option linter.unusedVariables false
set_option linter.unusedSimpArgs false
abbrev RB (w : World) (base : Nat) (v : Value) (x : List Int) : Prop := Kd.R (Kd.int .u8) 5 w base (fun _ => True) v x
def setl : List Int → Nat → List Int → List Int
 | l, _, [] => l
 | l, i, x :: xs => setl (l.set i x) (i + 1) xs
theorem setl_length : ∀ (xs l : List Int) (i : Nat), (setl l i xs).length = l.length
 | [], l, i => rfl
 | x :: xs, l, i => by rw [setl, setl_length xs, List.length_set]
theorem setl_append (a : List Int) : ∀ (xs b : List Int) (i : Nat), xs.length ≤ b.length → i = a.length → (setl (a ++ b) i xs).take (i + xs.length) = a ++ xs
 | [], b, i, h, hi => by subst hi; simp [setl]
 | x :: xs, [], i, h, hi => by simp at h
 | x :: xs, y :: ys, i, h, hi => by
  subst hi
  have e : (a ++ y :: ys).set a.length x = (a ++ [x]) ++ ys := by simp
  rw [setl, e]
  have := setl_append (a ++ [x]) xs ys (a.length + 1) (by simpa using h) (by simp)
  rw [List.length_cons, show a.length + (xs.length + 1) = a.length + 1 + xs.length by omega, this]
  simp
theorem puts_row {base : Nat} {g n cap : Nat} : ∀ (xs : List Int) {w : World} {l : List Int} (i : Nat), RB w base (.slice (some ⟨g, 0, none⟩) n cap) l → RB (puts w g i xs) base (.slice (some ⟨g, 0, none⟩) n cap) (setl l i xs)
 | [], w, l, i, h => h
 | x :: xs, w, l, i, h => by
  have := (Kd.R_putg h (i : Int) x).1
  rw [Int.toNat_natCast] at this
  exact puts_row xs (i + 1) this
theorem puts_below {w0 : World} {B g : Nat} (hg : B ≤ g) : ∀ (xs : List Int) {w : World} (i : Nat), Below B w0 w → Below B w0 (puts w g i xs)
 | [], w, i, h => h
 | x :: xs, w, i, h => puts_below hg xs (i + 1) (h.setCell hg _)
theorem row_cs {w : World} {base g cap : Nat} {x : List Int} (h : RB w base (.slice (some ⟨g, 0, none⟩) (x.length + 8) cap) (x ++ List.replicate 8 0)) : Cs w g x.length := by
 obtain ⟨hl, hc, hC⟩ := Kd.R_reads' h
 have ho := Kd.own_of_R h
 refine ⟨fun i hi => ?_, fun i => ?_⟩
 ·obtain ⟨ad, e1, e2⟩ := Kd.at_int hC ((x.length + i : Nat) : Int) (by omega) (by simp; omega)
  injection e1 with e1
  subst e1
  rw [Int.toNat_natCast, add_plain] at e2
  exact ⟨_, e2⟩
 ·rcases ho.2 with ⟨he, _⟩ | ⟨g', cap', cur, he, hg, hh, _⟩
  ·cases he
  ·injection he with he
   injection he with he
   injection he with he
   subst he
   exact blk_frozen hh i
theorem row_form {w : World} {base : Nat} {v : Value} {x : List Int} (h : RB w base v x) (hp : 0 < x.length) : ∃ g cap, v = .slice (some ⟨g, 0, none⟩) x.length cap ∧ base ≤ g ∧ x.length ≤ cap := by
 obtain ⟨g, cap, e, hb, _⟩ := Kd.R_form h hp
 subst e
 exact ⟨g, cap, rfl, hb, (Kd.R_reads' h).2.1⟩
theorem Inner.inv {t : av} {i : Int} {o : List Int} (h : Inner t i o) : (i = t.size ∧ o = []) ∨ (0 ≤ i ∧ i < t.size ∧ 32 ≤ bt t i ∧ bt t i ≠ 92 ∧ ∃ o', o = bt t i :: o' ∧ Inner t (i + 1) o') ∨
  (0 ≤ i ∧ i + 2 ≤ t.size ∧ bt t i = 92 ∧ Esc1 (bt t (i + 1)) ∧ ∃ o', o = shortc (bt t (i + 1)) :: o' ∧ Inner t (i + 2) o') ∨
  (0 ≤ i ∧ IsU t i ∧ ((¬ High (hex4 t (i + 2)) ∧ ¬ Low (hex4 t (i + 2)) ∧ ∃ o', o = utf8 (hex4 t (i + 2)) ++ o' ∧ Inner t (i + 6) o') ∨
   (High (hex4 t (i + 2)) ∧ IsU t (i + 6) ∧ Low (hex4 t (i + 8)) ∧ ∃ o', o = utf8 (both (hex4 t (i + 2)) (hex4 t (i + 8))) ++ o' ∧ Inner t (i + 12) o'))) := by
 cases h with
 | done => exact .inl ⟨rfl, rfl⟩
 | plain _ o' h0 h1 h2 h3 h4 h5 => exact .inr (.inl ⟨h0, h1, h2, h4, o', rfl, h5⟩)
 | esc _ o' h0 h1 h2 h3 h4 => exact .inr (.inr (.inl ⟨h0, h1, h2, h3, o', rfl, h4⟩))
 | uni _ o' h0 h1 h2 h3 h4 => exact .inr (.inr (.inr ⟨h0, h1, .inl ⟨h2, h3, o', rfl, h4⟩⟩))
 | pair _ o' h0 h1 h2 h3 h4 h5 => exact .inr (.inr (.inr ⟨h0, h1, .inr ⟨h2, h3, h4, o', rfl, h5⟩⟩))
theorem hexp_hex4 (t : av) (i : Int) (h0 : 0 ≤ i) (h : i + 4 ≤ t.size) : hexp (t.extract i.toNat t.size) 4 = hex4 t i := by
 have e : ∀ q : Nat, q < 4 → bt (t.extract i.toNat t.size) q = bt t (i + q) := fun q hq => by
  rw [bt_ext (by omega) (by omega) (Nat.le_refl _)]
  congr 1
  omega
 simp only [hexp]
 rw [e 0 (by omega), e 1 (by omega), e 2 (by omega), e 3 (by omega)]
 unfold hex4
 simp
set_option maxRecDepth 100000 in
set_option maxHeartbeats 40000000 in
theorem unescape_calls (t : av) (O : List Int) (w : World) (hs : t.size ≤ 1000000) (hI : Inner t 0 O) :
  Calls Tryz.prog 49 #[.string t] w fun e w' => e = .returned (.string (strOfNums O)) ∧ Below w.heap.size w w' := by
 obtain ⟨i5, hi1, hi2, hi3, hi4⟩ := info_parts info5
 obtain ⟨w1, hmk, hown, hgr⟩ := run_make_own (P := Tryz.prog) w w.heap.size 86 5 i5 (.int .u8 0) 1 Tryz.underlying86 hi1 hi2 hi3 .i64 .i64 t.size (by rw [hi4]; omega) (by unfold maxLen; omega) (Nat.le_refl _)
 have HB := ab ((Below.refl w.heap.size w).grown hgr (Nat.le_refl _) (fun k hk => by cases hk))
 have HO := ab (show RB w1 w.heap.size _ [] from Kd.R_of_own (enc := Value.int .u8) (xs := ([] : List Int)) hown (fun _ _ => trivial))
 have HII := ab hI
 have HS := ab hs
 have HN := ab (hI.le.2)
 clear hi1 hi2 hi3 hi4 hown hgr hI hs
 go_enter Tryz.func49, Tryz.ntmps49
 go_wp2_with (fail)
 (try simp only [Act.put, ap, aq, ar])
 go_loopg [3, 4] (t.size + 1) (fun kq v3 v4 wd => ∃ (x4 : Int) (x3 o : List Int), v4 = .int .i64 x4 ∧ Aside0 (Inner t x4 o ∧ x3 ++ o = O ∧ 0 ≤ x4 ∧ (t.size : Int) + 1 ≤ kq + x4) ∧ Aside0 (RB wd w.heap.size v3 x3) ∧ Aside0 (Below w.heap.size w wd))
 case atStart => exact ⟨_, [], O, rfl, ⟨HII.out, rfl, by omega, by omega⟩, HO, HB⟩
 case round =>
  clear HO HB HII hmk
  obtain ⟨x4, x3, o, rfl, HM, HO, HB⟩ := hrel
  obtain ⟨A3, c3, rfl⟩ := Kd.R_slice HO.out
  have HL := ab (show x3.length ≤ 1000000 by have h1 := HM.out.2.1; have h2 := HN.out; have h3 := HS.out; rw [← h1] at h2; simp only [List.length_append] at h2; omega)
  rcases Inner.inv HM.out.1 with ⟨rfl, rfl⟩ | ⟨h0, h1, h2, h3, o', rfl, h5⟩ | ⟨h0, h1, h2, h3, o', rfl, h5⟩ | ⟨h0, hU, h6⟩
  ·have c1 : decide ((t.size : Int) < (t.size : Int)) = false := af (by omega)
   have hsc := Kd.C_string (P := Tryz.prog) (src := 86) (dst := 9) (c := c3) Tryz.underlying86 Tryz.underlying5 Tryz.underlying9 (Kd.R_reads' HO.out).2.2
   have hO := HM.out.2.1
   rw [List.append_nil] at hO
   subst hO
   go_wp2_with (fail)
   go_ret
   exact ⟨rfl, HB.out⟩
  ·cases gk with
   | zero => exact absurd HM.out.2.2.2 (by omega)
   | succ gj =>
   obtain ⟨v, hv⟩ : ∃ v, bt t x4 = v := ⟨_, rfl⟩
   rw [hv] at h2 h3
   have c1 : decide (x4 < (t.size : Int)) = true := ae h1
   have c2 : (x4 < (t.size : Int)) = True := ag h1
   have c3' : (0 ≤ x4) = True := ag h0
   have hx : ∀ h : x4.toNat < t.size, ((t[x4.toNat]'h).toNat : Int) = v := fun h => by rw [← hv]; exact bt_at t x4 h
   have d1 : decide (v < 32) = false := af (by omega)
   have d2 : (v == 92) = false := ah h3
   obtain ⟨z1, f1, hz1⟩ : ∃ z, IntKind.i64.wrap (x4 + 1) = z ∧ Aside0 (z = x4 + 1) := ⟨_, wrp (by omega) (by have := HS.out; omega), ⟨rfl⟩⟩
   have HV := ab hv
   have H5 := ab h5
   clear h0 h1 h2 h3 h5 hv
   go_wp2_with (((with_reducible refine gate_builtin (b := .append) (xs := #[.tmp 16, .tmp 20]) rfl ?_); at_builtin; refine Kd.R_append (Kd.int .u8) (w0 := w) w.heap.size rfl (.tmp 16) (.tmp 20) 86 5 (.int .u8 0) 1 rfl Tryz.underlying86 info5 rfl (by decide) (by omega) (.slice A3 x3.length c3) x3 (v) [.int .u8 (v)] (fun _ => True) (fun _ => False) rfl rfl ?aP (fun _ hk => hk.elim) ?aF ?aO ?aB ?aS ?aL ?_; (case aP => exact rfl); (case aB => exact Z13); (case aF => exact (fun _ _ => trivial)); (case aO => exact Z25); (case aS => exact (below_size Z13)); (case aL => have := HL.out; omega); intro v5 w5 ho hb hg hat; have HB1 := ab hb; have mE := ab ho; clear ho hb hg hat HB HO))
   go_roundg gj
   case measure => exact Nat.lt_succ_self gj
   case rel => exact ⟨_, x3 ++ [v], o', rfl, ⟨by rw [hz1.out]; exact H5.out, by have := HM.out.2.1; rw [← this, HV.out]; simp, by have := HM.out.2.2.1; have := hz1.out; omega, by have := HM.out.2.2.2; have := hz1.out; omega⟩, mE, HB1⟩
  ·cases gk with
   | zero => exact absurd HM.out.2.2.2 (by omega)
   | succ gj =>
   obtain ⟨v, hv⟩ : ∃ v, bt t (x4 + 1) = v := ⟨_, rfl⟩
   rw [hv] at h3
   have c1 : decide (x4 < (t.size : Int)) = true := ae (by omega)
   have c2 : (x4 < (t.size : Int)) = True := ag (by omega)
   have c3' : (0 ≤ x4) = True := ag h0
   have hx : ∀ h : x4.toNat < t.size, ((t[x4.toNat]'h).toNat : Int) = 92 := fun h => by rw [← h2]; exact bt_at t x4 h
   obtain ⟨z1, f1, hz1⟩ : ∃ z, IntKind.i64.wrap (x4 + 1) = z ∧ Aside0 (z = x4 + 1) := ⟨_, wrp (by omega) (by have := HS.out; omega), ⟨rfl⟩⟩
   obtain ⟨z2, f2, hz2⟩ : ∃ z, IntKind.i64.wrap (z1 + 1) = z ∧ Aside0 (z = x4 + 2) := ⟨_, wrp (by have := hz1.out; omega) (by have := hz1.out; have := HS.out; omega), ⟨by have := hz1.out; omega⟩⟩
   have hy : ∀ h : z1.toNat < t.size, ((t[z1.toNat]'h).toNat : Int) = v := fun h => by rw [← hv, ← hz1.out]; exact bt_at t z1 h
   have e1 : decide (z1 ≥ (t.size : Int)) = false := af (by have := hz1.out; omega)
   have e2 : (z1 < (t.size : Int)) = True := ag (by have := hz1.out; omega)
   have e3 : (0 ≤ z1) = True := ag (by have := hz1.out; omega)
   have HV := ab hv
   have H5 := ab h5
   have h3' := h3
   unfold Esc1 at h3'
   clear h0 h1 h2 h3 h5 hv
   rcases h3' with rfl | rfl | rfl | rfl | rfl | rfl | rfl | rfl
   ·go_wp2_with (((with_reducible refine gate_builtin (b := .append) (xs := #[.tmp 84, .tmp 85]) rfl ?_); at_builtin; refine Kd.R_append (Kd.int .u8) (w0 := w) w.heap.size rfl (.tmp 84) (.tmp 85) 86 5 (.int .u8 0) 1 rfl Tryz.underlying86 info5 rfl (by decide) (by omega) (.slice A3 x3.length c3) x3 (34) [.int .u8 (34)] (fun _ => True) (fun _ => False) rfl rfl ?aP (fun _ hk => hk.elim) ?aF ?aO ?aB ?aS ?aL ?_; (case aP => exact rfl); (case aB => exact Z13); (case aF => exact (fun _ _ => trivial)); (case aO => exact Z25); (case aS => exact (below_size Z13)); (case aL => have := HL.out; omega); intro v5 w5 ho hb hg hat; have HB1 := ab hb; have mE := ab ho; clear ho hb hg hat HB HO))
    go_roundg gj
    case measure => exact Nat.lt_succ_self gj
    case rel => exact ⟨_, x3 ++ [34], o', rfl, ⟨Z70, Z44, Z53, Z52⟩, mE, HB1⟩
   ·go_wp2_with (((with_reducible refine gate_builtin (b := .append) (xs := #[.tmp 49, .tmp 50]) rfl ?_); at_builtin; refine Kd.R_append (Kd.int .u8) (w0 := w) w.heap.size rfl (.tmp 49) (.tmp 50) 86 5 (.int .u8 0) 1 rfl Tryz.underlying86 info5 rfl (by decide) (by omega) (.slice A3 x3.length c3) x3 (92) [.int .u8 (92)] (fun _ => True) (fun _ => False) rfl rfl ?aP (fun _ hk => hk.elim) ?aF ?aO ?aB ?aS ?aL ?_; (case aP => exact rfl); (case aB => exact Z13); (case aF => exact (fun _ _ => trivial)); (case aO => exact Z25); (case aS => exact (below_size Z13)); (case aL => have := HL.out; omega); intro v5 w5 ho hb hg hat; have HB1 := ab hb; have mE := ab ho; clear ho hb hg hat HB HO))
    go_roundg gj
    case measure => exact Nat.lt_succ_self gj
    case rel => exact ⟨_, x3 ++ [92], o', rfl, ⟨Z70, Z44, Z53, Z52⟩, mE, HB1⟩
   ·go_wp2_with (((with_reducible refine gate_builtin (b := .append) (xs := #[.tmp 54, .tmp 55]) rfl ?_); at_builtin; refine Kd.R_append (Kd.int .u8) (w0 := w) w.heap.size rfl (.tmp 54) (.tmp 55) 86 5 (.int .u8 0) 1 rfl Tryz.underlying86 info5 rfl (by decide) (by omega) (.slice A3 x3.length c3) x3 (47) [.int .u8 (47)] (fun _ => True) (fun _ => False) rfl rfl ?aP (fun _ hk => hk.elim) ?aF ?aO ?aB ?aS ?aL ?_; (case aP => exact rfl); (case aB => exact Z13); (case aF => exact (fun _ _ => trivial)); (case aO => exact Z25); (case aS => exact (below_size Z13)); (case aL => have := HL.out; omega); intro v5 w5 ho hb hg hat; have HB1 := ab hb; have mE := ab ho; clear ho hb hg hat HB HO))
    go_roundg gj
    case measure => exact Nat.lt_succ_self gj
    case rel => exact ⟨_, x3 ++ [47], o', rfl, ⟨Z70, Z44, Z53, Z52⟩, mE, HB1⟩
   ·go_wp2_with (((with_reducible refine gate_builtin (b := .append) (xs := #[.tmp 59, .tmp 60]) rfl ?_); at_builtin; refine Kd.R_append (Kd.int .u8) (w0 := w) w.heap.size rfl (.tmp 59) (.tmp 60) 86 5 (.int .u8 0) 1 rfl Tryz.underlying86 info5 rfl (by decide) (by omega) (.slice A3 x3.length c3) x3 (8) [.int .u8 (8)] (fun _ => True) (fun _ => False) rfl rfl ?aP (fun _ hk => hk.elim) ?aF ?aO ?aB ?aS ?aL ?_; (case aP => exact rfl); (case aB => exact Z13); (case aF => exact (fun _ _ => trivial)); (case aO => exact Z25); (case aS => exact (below_size Z13)); (case aL => have := HL.out; omega); intro v5 w5 ho hb hg hat; have HB1 := ab hb; have mE := ab ho; clear ho hb hg hat HB HO))
    go_roundg gj
    case measure => exact Nat.lt_succ_self gj
    case rel => exact ⟨_, x3 ++ [8], o', rfl, ⟨Z70, Z44, Z53, Z52⟩, mE, HB1⟩
   ·go_wp2_with (((with_reducible refine gate_builtin (b := .append) (xs := #[.tmp 64, .tmp 65]) rfl ?_); at_builtin; refine Kd.R_append (Kd.int .u8) (w0 := w) w.heap.size rfl (.tmp 64) (.tmp 65) 86 5 (.int .u8 0) 1 rfl Tryz.underlying86 info5 rfl (by decide) (by omega) (.slice A3 x3.length c3) x3 (12) [.int .u8 (12)] (fun _ => True) (fun _ => False) rfl rfl ?aP (fun _ hk => hk.elim) ?aF ?aO ?aB ?aS ?aL ?_; (case aP => exact rfl); (case aB => exact Z13); (case aF => exact (fun _ _ => trivial)); (case aO => exact Z25); (case aS => exact (below_size Z13)); (case aL => have := HL.out; omega); intro v5 w5 ho hb hg hat; have HB1 := ab hb; have mE := ab ho; clear ho hb hg hat HB HO))
    go_roundg gj
    case measure => exact Nat.lt_succ_self gj
    case rel => exact ⟨_, x3 ++ [12], o', rfl, ⟨Z70, Z44, Z53, Z52⟩, mE, HB1⟩
   ·go_wp2_with (((with_reducible refine gate_builtin (b := .append) (xs := #[.tmp 69, .tmp 70]) rfl ?_); at_builtin; refine Kd.R_append (Kd.int .u8) (w0 := w) w.heap.size rfl (.tmp 69) (.tmp 70) 86 5 (.int .u8 0) 1 rfl Tryz.underlying86 info5 rfl (by decide) (by omega) (.slice A3 x3.length c3) x3 (10) [.int .u8 (10)] (fun _ => True) (fun _ => False) rfl rfl ?aP (fun _ hk => hk.elim) ?aF ?aO ?aB ?aS ?aL ?_; (case aP => exact rfl); (case aB => exact Z13); (case aF => exact (fun _ _ => trivial)); (case aO => exact Z25); (case aS => exact (below_size Z13)); (case aL => have := HL.out; omega); intro v5 w5 ho hb hg hat; have HB1 := ab hb; have mE := ab ho; clear ho hb hg hat HB HO))
    go_roundg gj
    case measure => exact Nat.lt_succ_self gj
    case rel => exact ⟨_, x3 ++ [10], o', rfl, ⟨Z70, Z44, Z53, Z52⟩, mE, HB1⟩
   ·go_wp2_with (((with_reducible refine gate_builtin (b := .append) (xs := #[.tmp 74, .tmp 75]) rfl ?_); at_builtin; refine Kd.R_append (Kd.int .u8) (w0 := w) w.heap.size rfl (.tmp 74) (.tmp 75) 86 5 (.int .u8 0) 1 rfl Tryz.underlying86 info5 rfl (by decide) (by omega) (.slice A3 x3.length c3) x3 (13) [.int .u8 (13)] (fun _ => True) (fun _ => False) rfl rfl ?aP (fun _ hk => hk.elim) ?aF ?aO ?aB ?aS ?aL ?_; (case aP => exact rfl); (case aB => exact Z13); (case aF => exact (fun _ _ => trivial)); (case aO => exact Z25); (case aS => exact (below_size Z13)); (case aL => have := HL.out; omega); intro v5 w5 ho hb hg hat; have HB1 := ab hb; have mE := ab ho; clear ho hb hg hat HB HO))
    go_roundg gj
    case measure => exact Nat.lt_succ_self gj
    case rel => exact ⟨_, x3 ++ [13], o', rfl, ⟨Z70, Z44, Z53, Z52⟩, mE, HB1⟩
   ·go_wp2_with (((with_reducible refine gate_builtin (b := .append) (xs := #[.tmp 79, .tmp 80]) rfl ?_); at_builtin; refine Kd.R_append (Kd.int .u8) (w0 := w) w.heap.size rfl (.tmp 79) (.tmp 80) 86 5 (.int .u8 0) 1 rfl Tryz.underlying86 info5 rfl (by decide) (by omega) (.slice A3 x3.length c3) x3 (9) [.int .u8 (9)] (fun _ => True) (fun _ => False) rfl rfl ?aP (fun _ hk => hk.elim) ?aF ?aO ?aB ?aS ?aL ?_; (case aP => exact rfl); (case aB => exact Z13); (case aF => exact (fun _ _ => trivial)); (case aO => exact Z25); (case aS => exact (below_size Z13)); (case aL => have := HL.out; omega); intro v5 w5 ho hb hg hat; have HB1 := ab hb; have mE := ab ho; clear ho hb hg hat HB HO))
    go_roundg gj
    case measure => exact Nat.lt_succ_self gj
    case rel => exact ⟨_, x3 ++ [9], o', rfl, ⟨Z70, Z44, Z53, Z52⟩, mE, HB1⟩
  ·cases gk with
   | zero => exact absurd HM.out.2.2.2 (by have := hU.1; omega)
   | succ gj =>
   have Lm := hU.1
   have c1 : decide (x4 < (t.size : Int)) = true := ae (by omega)
   have c2 : (x4 < (t.size : Int)) = True := ag (by omega)
   have c3' : (0 ≤ x4) = True := ag h0
   have hx : ∀ h : x4.toNat < t.size, ((t[x4.toNat]'h).toNat : Int) = 92 := fun h => by rw [← hU.2.1]; exact bt_at t x4 h
   obtain ⟨z1, f1, hz1⟩ : ∃ z, IntKind.i64.wrap (x4 + 1) = z ∧ Aside0 (z = x4 + 1) := ⟨_, wrp (by omega) (by have := HS.out; omega), ⟨rfl⟩⟩
   obtain ⟨z2, f2, hz2⟩ : ∃ z, IntKind.i64.wrap (z1 + 1) = z ∧ Aside0 (z = x4 + 2) := ⟨_, wrp (by have := hz1.out; omega) (by have := hz1.out; have := HS.out; omega), ⟨by have := hz1.out; omega⟩⟩
   obtain ⟨z6, f6, hz6⟩ : ∃ z, IntKind.i64.wrap (z1 + 5) = z ∧ Aside0 (z = x4 + 6) := ⟨_, wrp (by have := hz1.out; omega) (by have := hz1.out; have := HS.out; omega), ⟨by have := hz1.out; omega⟩⟩
   have hy : ∀ h : z1.toNat < t.size, ((t[z1.toNat]'h).toNat : Int) = 117 := fun h => by rw [← hU.2.2.1, ← hz1.out]; exact bt_at t z1 h
   have e1 : decide (z1 ≥ (t.size : Int)) = false := af (by have := hz1.out; omega)
   have e2 : (z1 < (t.size : Int)) = True := ag (by have := hz1.out; omega)
   have e3 : (0 ≤ z1) = True := ag (by have := hz1.out; omega)
   have e4 : decide (z6 > (t.size : Int)) = false := af (by have := hz6.out; omega)
   have e5 : (0 ≤ z2) = True := ag (by have := hz2.out; omega)
   have e6 : (z2 ≤ (t.size : Int)) = True := ag (by have := hz2.out; omega)
   obtain ⟨D, hD⟩ : ∃ D, t.extract z2.toNat t.size = D := ⟨_, rfl⟩
   obtain ⟨n, hn⟩ : ∃ n, hex4 t (x4 + 2) = n := ⟨_, rfl⟩
   have hru := fun W => runeit_calls D n W (by rw [← hD, ByteArray.size_extract]; have := hz2.out; omega)
    (fun p h7 h8 => by rw [← hD, bt_ext h7 (by have := hz2.out; omega) (Nat.le_refl _)]; exact hU.2.2.2 _ (by have := hz2.out; omega) (by have := hz2.out; omega))
    (by rw [← hD, ← hn, ← hz2.out]; exact hexp_hex4 t z2 (by have := hz2.out; omega) (by have := hz2.out; omega))
   have hnr := hex4_range hU
   rw [hn] at h6 hnr
   have Jw := ab hru
   have HNR := ab hnr
   have H6 := ab h6
   have HS6 := ab Lm
   clear h0 hU h6 hru hnr Lm
   go_wp2_with (fail)
   refine (Jw.out _).mono ?_
   rintro e w2 ⟨rfl, hb⟩
   have tE := ab (Kd.R_below HO.out hb)
   have HB2 := ab (below_step HB.out hb)
   clear hb HO HB Jw
   rcases H6.out with ⟨h7, h8, o', rfl, h9⟩ | ⟨h7, h8, h9, o', rfl, h10⟩
   ·have hsu := ab (fun W => sur_calls n false W (fun h => by cases h) (fun _ => ⟨h7, h8⟩))
    have HSN := ab (And.intro h7 h8)
    have H9 := ab h9
    clear h7 h8 h9
    go_wp2_with (fail)
    refine (hsu.out _).mono ?_
    rintro e w3 ⟨rfl, rfl⟩
    go_upto_region 40 with (first | ((with_reducible refine gate_dst (N := 133) rfl ?_); refine Kd.R_lit (Kd.int .u8) _ 5 ?hg (N := 133) ?hd (xs := ([0, 0, 0, 0, 0, 0, 0, 0] : List Int)) (inner := [.int .u8 0, .int .u8 0, .int .u8 0, .int .u8 0, .int .u8 0, .int .u8 0, .int .u8 0, .int .u8 0]) (ok := fun _ => True) (okp := fun _ => True) ?hr ?hp (fun _ hk => hk) trivial (Below.refl _ _) (Nat.le_refl _) (by simp) ?_; (case hd => rfl); (case hg => rfl); (case hr => exact Z11); (case hp => exact Z30); intro v7 w7 ho hb hg_ hnew_; have HOL := ab ho; have vF := ab (Kd.R_below tE.out hb); have HB3 := ab (below_step HB2.out hb); clear ho hb hg_ hnew_ tE HB2; obtain ⟨A7, c7, rfl⟩ := Kd.R_slice HOL.out) | ((with_reducible refine gate_builtin (b := .append) (xs := #[.tmp 132, .tmp 133]) rfl ?_); at_builtin; refine Kd.R_append_rows (Kd.int .u8) (w0 := w) w.heap.size rfl (.tmp 132) (.tmp 133) 86 5 (.int .u8 0) 1 rfl Tryz.underlying86 info5 rfl (by decide) (by omega) (.slice A3 x3.length c3) x3 ([0, 0, 0, 0, 0, 0, 0, 0] : List Int) _ _ _ (fun _ => True) (fun _ => False) rfl rfl ?aO ?aR (fun _ _ h => h) (fun _ h => h.elim) ?aF ?aB ?aS ?aL ?_; (case aR => exact (Kd.R_reads' HOL.out).2.2); (case aB => exact Z43); (case aF => exact (fun _ _ => trivial)); (case aO => exact vF.out); (case aS => exact (below_size Z43)); (case aL => have := HL.out; simp; omega); intro v5 w5 ho hb hg hat; have pG := ab (show RB w5 w.heap.size v5 (x3 ++ List.replicate 8 0) from ho); have HB4 := ab hb; clear ho hb hg hat HOL HB3 vF))
    obtain ⟨g, cap, e8, hge, hcap⟩ := row_form pG.out (by simp)
    obtain ⟨n8, hn8, hn82⟩ : ∃ n8, (x3 ++ List.replicate 8 (0 : Int)).length = n8 ∧ Aside0 (n8 = x3.length + 8) := ⟨_, rfl, ⟨by simp⟩⟩
    rw [hn8] at e8 hcap
    subst e8
    clear hn8
    obtain ⟨zL, fL, hzL⟩ : ∃ z, IntKind.i64.wrap ((n8 : Int) - 8) = z ∧ Aside0 (z = (x3.length : Int)) := ⟨_, wrp (by have := hn82.out; omega) (by have := hn82.out; have := HL.out; omega), ⟨by have := hn82.out; omega⟩⟩
    have l1 : (0 ≤ zL) = True := ag (by have := hzL.out; omega)
    have l2 : (zL ≤ (n8 : Int)) = True := ag (by have := hzL.out; have := hn82.out; omega)
    have l3 : (cap = zL.toNat) = False := eq_false (by have := hzL.out; have := hn82.out; omega)
    obtain ⟨ln, hln⟩ : ∃ ln : Int, (((utf8 n).length : Nat) : Int) = ln := ⟨_, rfl⟩
    have hl4 := dS n
    obtain ⟨zM, fM, hzM⟩ : ∃ z, IntKind.i64.wrap (zL + ln) = z ∧ Aside0 (z = ((x3.length + (utf8 n).length : Nat) : Int)) := ⟨_, wrp (by have := hzL.out; omega) (by have := hzL.out; have := HL.out; omega), ⟨by have := hzL.out; omega⟩⟩
    have m1 : (0 ≤ zM) = True := ag (by have := hzM.out; omega)
    have m2 : (zM ≤ (cap : Int)) = True := ag (by have := hzM.out; have := hn82.out; omega)
    have m3 : (zM ≤ (n8 : Int)) = True := ag (by have := hzM.out; have := hn82.out; omega)
    obtain ⟨z5, f5, hz5⟩ : ∃ z, IntKind.i64.wrap (z6 - 1) = z ∧ Aside0 (z = x4 + 6 - 1) := ⟨_, wrp (by have := hz6.out; have := HM.out.2.2.1; omega) (by have := hz6.out; have := HS.out; have := HS6.out; omega), ⟨by have := hz6.out; omega⟩⟩
    obtain ⟨zZ, fZ, hzZ⟩ : ∃ z, IntKind.i64.wrap (z5 + 1) = z ∧ Aside0 (z = x4 + 6) := ⟨_, wrp (by have := hz5.out; have := HM.out.2.2.1; omega) (by have := hz5.out; have := HS.out; have := HS6.out; omega), ⟨by have := hz5.out; omega⟩⟩
    have henc : Calls Tryz.prog 63 #[.slice (some ⟨g, zL.toNat, none⟩) (n8 - zL.toNat) (cap - zL.toNat), .int .i32 n] w5 fun e w' => e = .returned (.int .i64 ln) ∧ w' = puts w5 g x3.length (utf8 n) := by
     have q1 : zL.toNat = x3.length := by have := hzL.out; omega
     have q2 : n8 - x3.length = 8 := by have := hn82.out; omega
     rw [q1, q2, ← hln]
     exact enc_calls g x3.length _ n w5 (row_cs (by have := pG.out; rwa [hn82.out] at this)) HNR.out.1 (by have := HNR.out.2; omega) HSN.out.1 HSN.out.2
    have HEN := ab henc
    have HGE := ab hge
    have HCAP := ab hcap
    clear henc hge hcap hl4 hln
    go_wp2_with (fail)
    refine HEN.out.mono ?_
    rintro e w6 ⟨rfl, hw⟩
    have HB5 := ab (show Below w.heap.size w w6 by rw [hw]; exact puts_below HGE.out _ _ HB4.out)
    have HO5 := ab (show RB w6 w.heap.size (.slice (some ⟨g, 0, none⟩) zM.toNat cap) (x3 ++ utf8 n) by
     have h1 := puts_row (utf8 n) x3.length pG.out
     rw [← hw] at h1
     have h2 := Kd.R_take (m := x3.length + (utf8 n).length) h1 (by rw [setl_length]; simp; exact Nat.le_trans (dS n) (by decide))
     rw [setl_append x3 (utf8 n) _ _ (by simp; exact Nat.le_trans (dS n) (by decide)) rfl] at h2
     rwa [show zM.toNat = x3.length + (utf8 n).length by have := hzM.out; omega])
    clear hw HB4 pG HEN
    go_wp2_with (fail)
    go_roundg gj
    case measure => exact Nat.lt_succ_self gj
    case rel => exact ⟨_, x3 ++ utf8 n, o', rfl, ⟨by rw [hzZ.out]; exact H9.out, by have := HM.out.2.1; rw [← this]; simp, by have := HM.out.2.2.1; have := hzZ.out; omega, by have := HM.out.2.2.2; have := hzZ.out; omega⟩, HO5, HB5⟩
   ·have hsu := ab (fun W => sur_calls n true W (fun _ => ⟨h7.1, by have := h7.2; omega⟩) (fun h => by cases h))
    have abV := h8.1
    have p0 := HM.out.2.2.1
    obtain ⟨D6, hD6⟩ : ∃ D6, t.extract z6.toNat t.size = D6 := ⟨_, rfl⟩
    have k1 : decide ((D6.size : Int) ≥ 6) = true := ae (by rw [← hD6, ByteArray.size_extract]; have := hz6.out; omega)
    have k2 : (z6 < (t.size : Int)) = True := ag (by have := hz6.out; omega)
    have k3 : (0 ≤ z6) = True := ag (by have := hz6.out; have := HM.out.2.2.1; omega)
    have k4 : (z6 ≤ (t.size : Int)) = True := ag (by have := hz6.out; omega)
    have hx6 : ∀ h : z6.toNat < t.size, ((t[z6.toNat]'h).toNat : Int) = 92 := fun h => by rw [← h8.2.1, ← hz6.out]; exact bt_at t z6 h
    obtain ⟨z7, f7, hz7⟩ : ∃ z, IntKind.i64.wrap (z6 + 1) = z ∧ Aside0 (z = x4 + 7) := ⟨_, wrp (by have := hz6.out; omega) (by have := hz6.out; have := HS.out; omega), ⟨by have := hz6.out; omega⟩⟩
    have k5 : (z7 < (t.size : Int)) = True := ag (by have := hz7.out; omega)
    have k6 : (0 ≤ z7) = True := ag (by have := hz7.out; have := HM.out.2.2.1; omega)
    have hx7 : ∀ h : z7.toNat < t.size, ((t[z7.toNat]'h).toNat : Int) = 117 := fun h => by rw [← h8.2.2.1, show x4 + 6 + 1 = z7 by have := hz7.out; omega]; exact bt_at t z7 h
    obtain ⟨z8, f8, hz8⟩ : ∃ z, IntKind.i64.wrap (z6 + 2) = z ∧ Aside0 (z = x4 + 8) := ⟨_, wrp (by have := hz6.out; omega) (by have := hz6.out; have := HS.out; omega), ⟨by have := hz6.out; omega⟩⟩
    have k7 : (z8 ≤ (t.size : Int)) = True := ag (by have := hz8.out; omega)
    have k8 : (0 ≤ z8) = True := ag (by have := hz8.out; have := HM.out.2.2.1; omega)
    obtain ⟨z12, f12, hz12⟩ : ∃ z, IntKind.i64.wrap (z6 + 6) = z ∧ Aside0 (z = x4 + 12) := ⟨_, wrp (by have := hz6.out; omega) (by have := hz6.out; have := HS.out; omega), ⟨by have := hz6.out; omega⟩⟩
    obtain ⟨D8, hD8⟩ : ∃ D8, t.extract z8.toNat t.size = D8 := ⟨_, rfl⟩
    obtain ⟨m, hm⟩ : ∃ m, hex4 t (x4 + 8) = m := ⟨_, rfl⟩
    have hru := fun W => runeit_calls D8 m W (by rw [← hD8, ByteArray.size_extract]; have := hz8.out; omega)
     (fun p h11 h12 => by rw [← hD8, bt_ext h11 (by have := hz8.out; omega) (Nat.le_refl _)]; exact h8.2.2.2 _ (by have := hz8.out; omega) (by have := hz8.out; omega))
     (by rw [← hD8, ← hm, ← hz8.out]; exact hexp_hex4 t z8 (by have := hz8.out; have := HM.out.2.2.1; omega) (by have := hz8.out; omega))
    rw [hm] at h9
    rw [hm] at HM
    obtain ⟨n2, hn2⟩ : ∃ n2, both n m = n2 := ⟨_, rfl⟩
    have hde := fun W => dec_calls n m W h7 h9
    rw [hn2] at hde HM
    have HN2 := ab (show 65536 ≤ n2 ∧ n2 ≤ 1114111 by rw [← hn2]; unfold both; have := h7.1; have := h7.2; have := h9.1; have := h9.2; omega)
    have Jw := ab hru
    have HDE := ab hde
    have H10 := ab h10
    clear h7 h8 h9 h10 abV hru hde hn2 hm p0
    go_wp2_with (fail)
    refine (hsu.out _).mono ?_
    rintro e w3 ⟨rfl, rfl⟩
    go_wp2_with (fail)
    refine (Jw.out _).mono ?_
    rintro e w3 ⟨rfl, hb⟩
    have sJ := ab (Kd.R_below tE.out hb)
    have HB22 := ab (below_step HB2.out hb)
    clear hb tE HB2 Jw
    go_wp2_with (fail)
    refine (HDE.out _).mono ?_
    rintro e w4 ⟨rfl, rfl⟩
    go_upto_region 40 with (first | ((with_reducible refine gate_dst (N := 133) rfl ?_); refine Kd.R_lit (Kd.int .u8) _ 5 ?hg (N := 133) ?hd (xs := ([0, 0, 0, 0, 0, 0, 0, 0] : List Int)) (inner := [.int .u8 0, .int .u8 0, .int .u8 0, .int .u8 0, .int .u8 0, .int .u8 0, .int .u8 0, .int .u8 0]) (ok := fun _ => True) (okp := fun _ => True) ?hr ?hp (fun _ hk => hk) trivial (Below.refl _ _) (Nat.le_refl _) (by simp) ?_; (case hd => rfl); (case hg => rfl); (case hr => exact Z11); (case hp => exact Z30); intro v7 w7 ho hb hg_ hnew_; have HOL := ab ho; have vF := ab (Kd.R_below sJ.out hb); have HB3 := ab (below_step HB22.out hb); clear ho hb hg_ hnew_ sJ HB22; obtain ⟨A7, c7, rfl⟩ := Kd.R_slice HOL.out) | ((with_reducible refine gate_builtin (b := .append) (xs := #[.tmp 132, .tmp 133]) rfl ?_); at_builtin; refine Kd.R_append_rows (Kd.int .u8) (w0 := w) w.heap.size rfl (.tmp 132) (.tmp 133) 86 5 (.int .u8 0) 1 rfl Tryz.underlying86 info5 rfl (by decide) (by omega) (.slice A3 x3.length c3) x3 ([0, 0, 0, 0, 0, 0, 0, 0] : List Int) _ _ _ (fun _ => True) (fun _ => False) rfl rfl ?aO ?aR (fun _ _ h => h) (fun _ h => h.elim) ?aF ?aB ?aS ?aL ?_; (case aR => exact (Kd.R_reads' HOL.out).2.2); (case aB => exact Z43); (case aF => exact (fun _ _ => trivial)); (case aO => exact vF.out); (case aS => exact (below_size Z43)); (case aL => have := HL.out; simp; omega); intro v5 w5 ho hb hg hat; have pG := ab (show RB w5 w.heap.size v5 (x3 ++ List.replicate 8 0) from ho); have HB4 := ab hb; clear ho hb hg hat HOL HB3 vF))
    obtain ⟨g, cap, e8, hge, hcap⟩ := row_form pG.out (by simp)
    obtain ⟨n8, hn8, hn82⟩ : ∃ n8, (x3 ++ List.replicate 8 (0 : Int)).length = n8 ∧ Aside0 (n8 = x3.length + 8) := ⟨_, rfl, ⟨by simp⟩⟩
    rw [hn8] at e8 hcap
    subst e8
    clear hn8
    obtain ⟨zL, fL, hzL⟩ : ∃ z, IntKind.i64.wrap ((n8 : Int) - 8) = z ∧ Aside0 (z = (x3.length : Int)) := ⟨_, wrp (by have := hn82.out; omega) (by have := hn82.out; have := HL.out; omega), ⟨by have := hn82.out; omega⟩⟩
    have l1 : (0 ≤ zL) = True := ag (by have := hzL.out; omega)
    have l2 : (zL ≤ (n8 : Int)) = True := ag (by have := hzL.out; have := hn82.out; omega)
    have l3 : (cap = zL.toNat) = False := eq_false (by have := hzL.out; have := hn82.out; omega)
    obtain ⟨ln, hln⟩ : ∃ ln : Int, (((utf8 n2).length : Nat) : Int) = ln := ⟨_, rfl⟩
    have hl4 := dS n2
    obtain ⟨zM, fM, hzM⟩ : ∃ z, IntKind.i64.wrap (zL + ln) = z ∧ Aside0 (z = ((x3.length + (utf8 n2).length : Nat) : Int)) := ⟨_, wrp (by have := hzL.out; omega) (by have := hzL.out; have := HL.out; omega), ⟨by have := hzL.out; omega⟩⟩
    have m1 : (0 ≤ zM) = True := ag (by have := hzM.out; omega)
    have m2 : (zM ≤ (cap : Int)) = True := ag (by have := hzM.out; have := hn82.out; omega)
    have m3 : (zM ≤ (n8 : Int)) = True := ag (by have := hzM.out; have := hn82.out; omega)
    obtain ⟨z5, f5, hz5⟩ : ∃ z, IntKind.i64.wrap (z12 - 1) = z ∧ Aside0 (z = x4 + 12 - 1) := ⟨_, wrp (by have := hz12.out; have := HM.out.2.2.1; omega) (by have := hz12.out; have := HS.out; have := HS6.out; omega), ⟨by have := hz12.out; omega⟩⟩
    obtain ⟨zZ, fZ, hzZ⟩ : ∃ z, IntKind.i64.wrap (z5 + 1) = z ∧ Aside0 (z = x4 + 12) := ⟨_, wrp (by have := hz5.out; have := HM.out.2.2.1; omega) (by have := hz5.out; have := HS.out; have := HS6.out; omega), ⟨by have := hz5.out; omega⟩⟩
    have henc : Calls Tryz.prog 63 #[.slice (some ⟨g, zL.toNat, none⟩) (n8 - zL.toNat) (cap - zL.toNat), .int .i32 n2] w5 fun e w' => e = .returned (.int .i64 ln) ∧ w' = puts w5 g x3.length (utf8 n2) := by
     have q1 : zL.toNat = x3.length := by have := hzL.out; omega
     have q2 : n8 - x3.length = 8 := by have := hn82.out; omega
     rw [q1, q2, ← hln]
     exact enc_calls g x3.length _ n2 w5 (row_cs (by have := pG.out; rwa [hn82.out] at this)) (by have := HN2.out; omega) HN2.out.2 (fun h => by have := h.2; have := HN2.out; omega) (fun h => by have := h.2; have := HN2.out; omega)
    have HEN := ab henc
    have HGE := ab hge
    have HCAP := ab hcap
    clear henc hge hcap hl4 hln
    go_wp2_with (fail)
    refine HEN.out.mono ?_
    rintro e w6 ⟨rfl, hw⟩
    have HB5 := ab (show Below w.heap.size w w6 by rw [hw]; exact puts_below HGE.out _ _ HB4.out)
    have HO5 := ab (show RB w6 w.heap.size (.slice (some ⟨g, 0, none⟩) zM.toNat cap) (x3 ++ utf8 n2) by
     have h1 := puts_row (utf8 n2) x3.length pG.out
     rw [← hw] at h1
     have h2 := Kd.R_take (m := x3.length + (utf8 n2).length) h1 (by rw [setl_length]; simp; exact Nat.le_trans (dS n2) (by decide))
     rw [setl_append x3 (utf8 n2) _ _ (by simp; exact Nat.le_trans (dS n2) (by decide)) rfl] at h2
     rwa [show zM.toNat = x3.length + (utf8 n2).length by have := hzM.out; omega])
    clear hw HB4 pG HEN
    go_wp2_with (fail)
    go_roundg gj
    case measure => exact Nat.lt_succ_self gj
    case rel => exact ⟨_, x3 ++ utf8 n2, o', rfl, ⟨by rw [hzZ.out]; exact H10.out, by have := HM.out.2.1; rw [← this]; simp, by have := HM.out.2.2.1; have := hzZ.out; omega, by have := HM.out.2.2.2; have := hzZ.out; omega⟩, HO5, HB5⟩
end Go.Proofs.YtkjnahgicfmicaaGreatDoor.Gj

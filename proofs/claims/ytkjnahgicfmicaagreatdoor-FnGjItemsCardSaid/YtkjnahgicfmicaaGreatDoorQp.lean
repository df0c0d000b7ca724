import Derived.Test.YtkjnahgicfmicaaGreatDoorZip
import Derived.Test.YtkjnahgicfmicaaGreatDoorQo
import Derived.Test.YtkjnahgicfmicaaGreatDoorFeo
import Derived.Test.YtkjnahgicfmicaaGreatDoorSpx11
import Derived.Test.YtkjnahgicfmicaaGreatDoorPa2
namespace Go.Proofs.YtkjnahgicfmicaaGreatDoor.Gj
open Go.RowKit Go.Proofs.YtkjnahgicfmicaaGreatDoorW.PrintWords Go.Proofs.YtkjnahgicfmicaaGreatDoorW.PrintLast Go.Proofs.YtkjnahgicfmicaaGreatDoorW.PrintMore Sp Dec
set_option linter.unusedVariables false
set_option linter.unusedSimpArgs false
set_option maxRecDepth 100000
def Lies (R : ByteArray) (ps : List (GR × GR → Prop)) : Prop := (at_ R 0 = 91 ∧ ∃ qs, ALay R 1 qs ∧ qs.length ≤ 1000000 ∧ ps = qs.map OnVal) ∨ (at_ R 0 = 123 ∧ OLay R 1 ps ∧ ps.length ≤ 1000000)
theorem feach_calls {F : FuncId} {caps : Array Value} {cont : Nat → Bool} {It : (Nat → Prop) → List (GR × GR) → World → Prop} (hI : Iter F caps cont It) (R ts : ByteArray) (tn : Nat) (ti : Int) (A : Nat → Prop) (w W0 : World)
  (hIt : It A [] w) (hW : Wok W0) (hWB : Below W0.heap.size W0 w) (hWA : ∀ k, k < W0.heap.size → A k) (hs : R.size ≤ 1000000) (hr : 0 < R.size) (ps : List (GR × GR → Prop)) (hL : Lies R ps) :
  Calls Tryz.prog 22 #[.agg #[.int .i64 5, .string R, .string ts, .float .f64 tn, .int .i64 ti, .slice none 0 0], .func (.func F) #[] caps] w (FePost cont It A ps w) := by
 rcases hL with ⟨hh, qs, hL, hq, rfl⟩ | ⟨hh, hL, hq⟩
 ·exact feach_arr hI R ts tn ti A w W0 hIt hW hWB hWA hs hr hh qs hL hq
 ·exact feach_obj hI R ts tn ti A w W0 hIt hW hWB hWA hs hr hh ps hL hq
set_option maxHeartbeats 8000000 in
theorem items_calls (k : Nat) (t R ts : ByteArray) (tn : Nat) (ti : Int) (ps : List (GR × GR → Prop)) (w : World) (hW : Wok w) (hp : bL.f k t = some (5, R, ts, tn, ti, [])) (hs : R.size ≤ 1000000) (hr : 0 < R.size) (hL : Lies R ps) :
  Calls Tryz.prog 8 #[.string t] w fun e w' => ∃ v : Value, ∃ L, Told (fun _ => true) 0 ps L ∧ e = .returned v ∧ k41.R 41 w' w.heap.size (fun _ => True) v (L.map toS) ∧ Below w.heap.size w w' := by
 have hu34 := Tryz.underlying34
 have HB := Aside0.mk (Below.refl w.heap.size w)
 have HP := Aside0.mk hp
 have HL := Aside0.mk hL
 have HW := Aside0.mk hW
 have HS := Aside0.mk hs
 have HR := Aside0.mk hr
 clear hp hL hW hs hr
 go_enter Tryz.func8, Tryz.ntmps8
 go_wp2_with (first | ((with_reducible refine gate_dst (N := 3) rfl ?_); refine box_event ?hg (N := 3) ?hd (cs := #[.slice none 0 0]) (t := 34) ?hr ?_; (case hd => rfl); (case hg => rfl); (case hr => exact Z14); intro b hg w1 hbox hb; have HB1 := Aside0.mk (below_step HB.out hb); have BK1 := Aside0.mk hbox; have G1 := Aside0.mk hg; clear hb hbox hg) | ((with_reducible refine gate_callee (f := 21) rfl ?_); refine goesL_ (some 5) rfl rfl Tryz.func21 (by kernel_rfl) rfl #[.string t] rfl Z40 ?_; (with_reducible refine (bL.calls k t 5 R ts tn ti [] _ HP.out).mono ?_); rintro e w2 ⟨v, rfl, ⟨rfl, _⟩, hb⟩; refine ⟨_, rfl, ?_⟩; have HB2 := Aside0.mk (below_step HB1.out hb); have BK2 := Aside0.mk (blk_below BK1.out hb); clear hb))
 have hA0 : ∀ q, (q < w2.heap.size ∧ q ≠ b) → q < w2.heap.size := fun q h => h.1
 have hI2 : It b (fun q => q < w2.heap.size ∧ q ≠ b) [] w2 := It.new BK2.out hA0 (fun h => h.2 rfl)
 refine (feach_calls (item_iter b) R ts tn ti (fun q => q < w2.heap.size ∧ q ≠ b) w2 w hI2 HW.out HB2.out (fun q hq => ⟨Nat.lt_of_lt_of_le hq HB2.out.size, by have := G1.out; omega⟩) HS.out HR.out ps HL.out).mono ?_
 rintro e w3 ⟨rfl, L, hT, ⟨hA1, hA2, v, hz, ho⟩, hk⟩
 have hc : w3.cell? ⟨b, 0, none⟩ = some v := (blk_cell hz 0).trans rfl
 obtain ⟨A1, c1, e1⟩ := Kd.R_slice ho
 subst e1
 rw [show (L.map toS).length = L.length by simp] at hc hz ho
 have HZ := Aside0.mk hz
 have HO := Aside0.mk ho
 have HK := Aside0.mk hk
 have HT := Aside0.mk hT
 clear hz ho hk hT
 go_wp2
 go_ret
 refine ⟨.slice A1 L.length c1, L, HT.out, rfl, Kd.R_mono (Kd.R_lower HO.out (show w.heap.size ≤ b + 1 by have := G1.out; omega)) (fun _ _ => trivial), HB2.out.trans (HK.out.below (fun q hq => ⟨Nat.lt_of_lt_of_le hq HB2.out.size, by have := G1.out; omega⟩) HB2.out.size)⟩
end Go.Proofs.YtkjnahgicfmicaaGreatDoor.Gj
namespace Go.Proofs.YtkjnahgicfmicaaGreatDoor.Gj
open Go.RowKit Go.Proofs.YtkjnahgicfmicaaGreatDoorW.PrintWords Go.Proofs.YtkjnahgicfmicaaGreatDoorW.PrintLast Go.Proofs.YtkjnahgicfmicaaGreatDoorW.PrintMore Sp Dec
set_option linter.unusedVariables false
set_option linter.unusedSimpArgs false
theorem blank_skip {c : Int} (h : isBlank c) : Skip c := by unfold isBlank at h; unfold Skip; omega
theorem blank_stop {c : Int} (h : isBlank c) : NumStop c := by unfold isBlank at h; unfold NumStop; omega
def Rest (s : ByteArray) (j : Int) : Prop := ∀ q, j ≤ q → q < s.size → isBlank (bt s q)
section
variable {s : ByteArray} (hn : Small s) (hsz : s.size ≤ 65536) (D : Nat) (b0 : Nat)
include hn hsz
theorem alay_end {r : Int} {i0 : Nat} (hr0 : (b0 : Int) ≤ r) (hr : r < s.size) (hc : bt s r = 93 ∨ bt s r = 125) (hrest : Rest s (r + 1)) (hi : (b0 : Int) + i0 ≤ r + 1) (hsk : ∀ q : Int, (b0 : Int) + i0 ≤ q → q < r → isBlank (bt s q)) : ALay (s.extract b0 s.size) i0 [] := by
 have hbs : b0 ≤ s.size := by omega
 have hR : (s.extract b0 s.size).size ≤ 1000000 := by rw [sz_sh]; omega
 by_cases h : (b0 : Int) + i0 ≤ r
 ·refine .last i0 (r.toNat - b0) (by omega) (by rw [sz_sh]; omega) (fun q a b => ?_) (fun _ => ?_) (pa_none hR (by rw [sz_sh]; omega) (fun q a b => ?_))
  ·rw [at_sh hbs]
   exact blank_skip (hsk _ (by omega) (by omega))
  ·rw [at_sh hbs]
   have : at_ s (b0 + (r.toNat - b0)) = bt s r := by unfold at_; congr 1; omega
   rw [this]
   unfold Skip
   omega
  ·rw [at_sh hbs]
   rw [sz_sh] at b
   by_cases hq : (b0 : Int) + q = r
   ·have : at_ s (b0 + q) = bt s r := by unfold at_; congr 1
    omega
   ·have := hrest ((b0 + q : Nat) : Int) (by omega) (by omega)
    unfold isBlank at this
    unfold at_
    omega
 ·refine .last i0 (s.extract b0 s.size).size (by rw [sz_sh]; omega) (Nat.le_refl _) (fun q a b => ?_) (fun h => absurd h (by omega)) (pa_none hR (Nat.le_refl _) (fun q a b => absurd b (by omega)))
  rw [at_sh hbs]
  rw [sz_sh] at b
  exact blank_skip (hrest _ (by omega) (by omega))
theorem kids_alay {ks : List S31} {i j : Int} (h : Sp.Kids (aI.at_ D) s ks i j) : ∀ i0 : Nat, (b0 : Int) + i0 ≤ i → (∀ q : Int, (b0 : Int) + i0 ≤ q → q < i → Skip (bt s q)) → PairedAt s i → Rest s j →
  ALay (s.extract b0 s.size) i0 (ks.map (GjV s)) := by
 induction h with
 | last p i r h1 h2 h3 h4 h5 h6 =>
  intro i0 hi hsk hp hrest
  subst h2
  have hbl := h4.1
  have hst : NumStop (bt s p.f2) := by
   by_cases h : p.f2 = r
   ·rw [h, h6]; unfold NumStop; omega
   ·exact blank_stop (h4.2.2 _ (by omega) (by omega))
  obtain ⟨hP, hf, hpp⟩ := value_pa hn hsz D p b0 h1 (by omega) hp h3 (by omega) hst
  have h0 := h1.1
  have hbs : b0 ≤ s.size := by omega
  refine .item i0 (p.f1.toNat - b0) (p.f2.toNat - b0) _ _ (by omega) (by omega) (by rw [sz_sh]; omega) (fun q a b => ?_) ?_ ?_ ?_
  ·rw [at_sh hbs]; exact hsk _ (by omega) (by omega)
  ·rw [at_sh hbs]
   have : at_ s (b0 + (p.f1.toNat - b0)) = bt s p.f1 := by unfold at_; congr 1; omega
   rw [this]; exact hf
  ·rw [show ((p.f1.toNat - b0 : Nat) : Int) = p.f1 - b0 by omega]
   exact hP.mono fun ok jj g ⟨a1, a2, a3⟩ => ⟨a1, by omega, a3.idx⟩
  ·exact alay_end hn hsz b0 (by omega) h5 (.inl h6) hrest (by omega) (fun q a b => h4.2.2 q (by omega) b)
 | more p i r t j ks h1 h2 h3 h4 h5 h6 h7 h8 ih =>
  intro i0 hi hsk hp hrest
  subst h2
  have hbl := h4.1
  have hst : NumStop (bt s p.f2) := by
   by_cases h : p.f2 = r
   ·rw [h, h6]; unfold NumStop; omega
   ·exact blank_stop (h4.2.2 _ (by omega) (by omega))
  obtain ⟨hP, hf, hpp⟩ := value_pa hn hsz D p b0 h1 (by omega) hp h3 (by omega) hst
  have h0 := h1.1
  have hbs : b0 ≤ s.size := by omega
  have ht := h7.1
  refine .item i0 (p.f1.toNat - b0) (p.f2.toNat - b0) _ _ (by omega) (by omega) (by rw [sz_sh]; omega) (fun q a b => ?_) ?_ ?_ ?_
  ·rw [at_sh hbs]; exact hsk _ (by omega) (by omega)
  ·rw [at_sh hbs]
   have : at_ s (b0 + (p.f1.toNat - b0)) = bt s p.f1 := by unfold at_; congr 1; omega
   rw [this]; exact hf
  ·rw [show ((p.f1.toNat - b0 : Nat) : Int) = p.f1 - b0 by omega]
   exact hP.mono fun ok jj g ⟨a1, a2, a3⟩ => ⟨a1, by omega, a3.idx⟩
  ·refine ih _ (by omega) (fun q a b => ?_) ?_ hrest
   ·by_cases hq : q < r
    ·exact blank_skip (h4.2.2 q (by omega) hq)
    ·by_cases hq2 : q = r
     ·rw [hq2, h6]; unfold Skip; omega
     ·exact blank_skip (h7.2.2 q (by omega) b)
   ·have p1 := (h4.lex (by omega)).paired hn hpp
    have p2 := PairedAt.plain hn p1 (by omega) h5 (by omega)
    exact (h7.lex (by omega)).paired hn p2
omit hn hsz in
theorem olay_end {r : Int} {i0 : Nat} (hr0 : (b0 : Int) ≤ r) (hr : r < s.size) (hc : bt s r = 93 ∨ bt s r = 125) (hrest : Rest s (r + 1)) (hi : (b0 : Int) + i0 ≤ r + 1) (hsk : ∀ q : Int, (b0 : Int) + i0 ≤ q → q < r → isBlank (bt s q)) : OLay (s.extract b0 s.size) i0 [] := by
 refine .end_ i0 (fun q a b => ?_)
 rw [at_sh (by omega)]
 rw [sz_sh] at b
 unfold at_
 by_cases h1 : (b0 : Int) + q < r
 ·have := hsk ((b0 + q : Nat) : Int) (by omega) (by omega)
  unfold isBlank at this
  omega
 ·by_cases h2 : ((b0 + q : Nat) : Int) = r
  ·rw [h2]; omega
  ·have := hrest ((b0 + q : Nat) : Int) (by omega) (by omega)
   unfold isBlank at this
   omega
def ItemOK (s : ByteArray) (x : S93 × S31) (y : GR × GR) : Prop := (∃ k, aX.f k (s.extract x.1.f0.toNat x.1.f1.toNat) = some y.1.str) ∧ GjV s x.2 y.2
theorem ks_of {i j : Int} (h0 : 0 ≤ i) (hb : (b0 : Int) ≤ i) (h : StrSeg (bytesOf s) i j) (hp : PairedAt s i) (hj : j ≤ s.size) : ∃ o k, KS (s.extract b0 s.size) (i.toNat - b0) (j.toNat - 1 - b0) (strOfNums o) ∧ aX.f k (s.extract i.toNat j.toNat) = some (strOfNums o) ∧ PairedAt s j := by
 obtain ⟨o, hI, hpp, k, hu⟩ := seg_unq hn h0 h hp
 have hlt := h.2.1
 have hbs : b0 ≤ s.size := by omega
 have hR : (s.extract b0 s.size).size ≤ 1000000 := by rw [sz_sh]; omega
 obtain ⟨i, rfl⟩ : ∃ n : Nat, i = n := ⟨i.toNat, by omega⟩
 obtain ⟨j, rfl⟩ : ∃ n : Nat, j = n := ⟨j.toNat, by omega⟩
 have hA := str_at h (bytesOf_length s)
 have hA' : StrAt s (b0 + (i - b0)) (b0 + (j - 1 - b0)) := by rw [show b0 + (i - b0) = i by omega, show b0 + (j - 1 - b0) = j - 1 by omega]; exact hA
 have hS := hA'.sh hbs
 have hI' : Inner ((s.extract b0 s.size).extract (i - b0 + 1) (j - 1 - b0)) 0 o := by
  rw [show i - b0 + 1 = (i + 1) - b0 by omega, ext_sh (by omega) (by omega) (by omega)]
  exact hI
 refine ⟨o, k, ⟨hS.lt, hS.le, ?_⟩, hu, hpp⟩
 obtain ⟨k2, vesc, hps, hno⟩ := ps_tells hS hR
 refine ⟨vesc, fun w => (aC.calls _ _ _ _ _ _ _ _ hps).mono fun e w' ⟨a, b⟩ => ⟨a, b.below⟩, fun _ w => unescape_calls _ o w (by rw [ByteArray.size_extract, ByteArray.size_extract]; omega) hI', fun hv => ?_⟩
 refine (inner_plain (fun q a b => ?_) hI').symm
 have hle := hS.le
 have hlt2 := hS.lt
 have hn := hno hv (i - b0 + 1 + q.toNat) (by omega)
 rw [ByteArray.size_extract] at b
 have := hn (by omega)
 rw [show q = ((q.toNat : Nat) : Int) by omega, bt_ext (by omega) (by omega) (by omega)]
 have e1 : (((i - b0 + 1 : Nat) : Int) + ((q.toNat : Nat) : Int)) = ((i - b0 + 1 + q.toNat : Nat) : Int) := by omega
 rw [e1]
 exact this
theorem mems_olay {ns : List S93} {ks : List S31} {i j : Int} (h : Sp.Mems (aI.at_ D) s ns ks i j) : ∀ i0 : Nat, 0 ≤ i → (b0 : Int) + i0 ≤ i → (∀ q : Int, (b0 : Int) + i0 ≤ q → q < i → bt s q ≠ 34) → PairedAt s i → Rest s j →
  OLay (s.extract b0 s.size) i0 ((ns.zip ks).map (ItemOK s)) := by
 induction h with
 | last nm p i c r h1 h2 h3 h4 h5 h6 h7 h8 h9 h10 h11 =>
  intro i0 hi0 hi hsk hp hrest
  have hbl := h9.1
  have hb3 := h3.1
  have hb6 := h6.1
  have hlt := h2.2.1
  have h0 := h7.1
  obtain ⟨o, k, hK, hu, hp1⟩ := ks_of hn hsz b0 hi0 (by omega) h2 hp (by omega)
  have hp2 := PairedAt.plain hn ((h3.lex (by omega)).paired hn hp1) (by omega) h4 (by omega)
  have hp3 := (h6.lex (by omega)).paired hn hp2
  have hst : NumStop (bt s p.f2) := by
   by_cases h : p.f2 = r
   ·rw [h, h11]; unfold NumStop; omega
   ·exact blank_stop (h9.2.2 _ (by omega) (by omega))
  obtain ⟨hP, hf, hpp⟩ := value_pa hn hsz D p b0 h7 (by omega) hp3 h8 (by omega) hst
  have hbs : b0 ≤ s.size := by omega
  have hq := h2.1
  rw [rd_bytesOf] at hq
  refine .item i0 (i.toNat - b0) (nm.f1.toNat - 1 - b0) (p.f1.toNat - b0) (p.f2.toNat - b0) (strOfNums o) _ (GjV s p) _ (by omega) (fun q a b => ?_) ?_ hK (by omega) (by omega) (by rw [sz_sh]; omega) (fun q a b => ?_) ?_ ?_ (fun zk v hv => ?_) ?_
  ·rw [at_sh hbs]; exact hsk _ (by omega) (by omega)
  ·rw [at_sh hbs, show b0 + (i.toNat - b0) = i.toNat by omega]
   unfold at_
   rw [show ((i.toNat : Nat) : Int) = i by omega]
   exact hq
  ·rw [at_sh hbs]
   unfold at_
   by_cases hq1 : ((b0 + q : Nat) : Int) < c
   ·exact blank_skip (h3.2.2 _ (by omega) hq1)
   ·by_cases hq2 : ((b0 + q : Nat) : Int) = c
    ·rw [hq2, h5]; unfold Skip; omega
    ·exact blank_skip (h6.2.2 _ (by omega) (by omega))
  ·rw [at_sh hbs]
   have : at_ s (b0 + (p.f1.toNat - b0)) = bt s p.f1 := by unfold at_; congr 1; omega
   rw [this]; exact hf
  ·rw [show ((p.f1.toNat - b0 : Nat) : Int) = p.f1 - b0 by omega]
   exact hP.mono fun ok jj g ⟨a1, a2, a3⟩ => ⟨a1, by omega, a3.idx⟩
  ·exact ⟨⟨k, by simp only [h1]; exact hu⟩, hv⟩
  ·exact olay_end b0 (by omega) h10 (.inr h11) hrest (by omega) (fun q a b => h9.2.2 q (by omega) b)
 | more nm p i c r t j ns ks h1 h2 h3 h4 h5 h6 h7 h8 h9 h10 h11 h12 h13 ih =>
  intro i0 hi0 hi hsk hp hrest
  have hbl := h9.1
  have hb3 := h3.1
  have hb6 := h6.1
  have ht := h12.1
  have hlt := h2.2.1
  have h0 := h7.1
  obtain ⟨o, k, hK, hu, hp1⟩ := ks_of hn hsz b0 hi0 (by omega) h2 hp (by omega)
  have hp2 := PairedAt.plain hn ((h3.lex (by omega)).paired hn hp1) (by omega) h4 (by omega)
  have hp3 := (h6.lex (by omega)).paired hn hp2
  have hst : NumStop (bt s p.f2) := by
   by_cases h : p.f2 = r
   ·rw [h, h11]; unfold NumStop; omega
   ·exact blank_stop (h9.2.2 _ (by omega) (by omega))
  obtain ⟨hP, hf, hpp⟩ := value_pa hn hsz D p b0 h7 (by omega) hp3 h8 (by omega) hst
  have hbs : b0 ≤ s.size := by omega
  have hq := h2.1
  rw [rd_bytesOf] at hq
  refine .item i0 (i.toNat - b0) (nm.f1.toNat - 1 - b0) (p.f1.toNat - b0) (p.f2.toNat - b0) (strOfNums o) _ (GjV s p) _ (by omega) (fun q a b => ?_) ?_ hK (by omega) (by omega) (by rw [sz_sh]; omega) (fun q a b => ?_) ?_ ?_ (fun zk v hv => ?_) ?_
  ·rw [at_sh hbs]; exact hsk _ (by omega) (by omega)
  ·rw [at_sh hbs, show b0 + (i.toNat - b0) = i.toNat by omega]
   unfold at_
   rw [show ((i.toNat : Nat) : Int) = i by omega]
   exact hq
  ·rw [at_sh hbs]
   unfold at_
   by_cases hq1 : ((b0 + q : Nat) : Int) < c
   ·exact blank_skip (h3.2.2 _ (by omega) hq1)
   ·by_cases hq2 : ((b0 + q : Nat) : Int) = c
    ·rw [hq2, h5]; unfold Skip; omega
    ·exact blank_skip (h6.2.2 _ (by omega) (by omega))
  ·rw [at_sh hbs]
   have : at_ s (b0 + (p.f1.toNat - b0)) = bt s p.f1 := by unfold at_; congr 1; omega
   rw [this]; exact hf
  ·rw [show ((p.f1.toNat - b0 : Nat) : Int) = p.f1 - b0 by omega]
   exact hP.mono fun ok jj g ⟨a1, a2, a3⟩ => ⟨a1, by omega, a3.idx⟩
  ·exact ⟨⟨k, by simp only [h1]; exact hu⟩, hv⟩
  ·refine ih _ (by omega) (by omega) (fun q a b => ?_) ?_ hrest
   ·by_cases hq : q < r
    ·have := h9.2.2 q (by omega) hq
     unfold isBlank at this
     omega
    ·by_cases hq2 : q = r
     ·rw [hq2]; omega
     ·have := h12.2.2 q (by omega) b
      unfold isBlank at this
      omega
   ·have p1 := (h9.lex (by omega)).paired hn hpp
    have p2 := PairedAt.plain hn p1 (by omega) h10 (by omega)
    exact (h12.lex (by omega)).paired hn p2
end
end Go.Proofs.YtkjnahgicfmicaaGreatDoor.Gj

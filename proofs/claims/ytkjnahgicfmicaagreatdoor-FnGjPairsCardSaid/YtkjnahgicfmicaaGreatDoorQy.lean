import Derived.Test.YtkjnahgicfmicaaGreatDoorZip
import Derived.Test.YtkjnahgicfmicaaGreatDoorFea
import Derived.Test.YtkjnahgicfmicaaGreatDoorQa
import Derived.Test.YtkjnahgicfmicaaGreatDoorQv
import Derived.Test.YtkjnahgicfmicaaGreatDoorQw
import Derived.Test.YtkjnahgicfmicaaGreatDoorQx
import Derived.Test.YtkjnahgicfmicaaGreatDoorLr8
import Derived.Test.YtkjnahgicfmicaaGreatDoorQu
import Derived.Test.YtkjnahgicfmicaaGreatDoorSpx7
import Derived.Test.YtkjnahgicfmicaaGreatDoorQt
import Derived.Test.YtkjnahgicfmicaaGreatDoorLwp
namespace Go.Proofs.YtkjnahgicfmicaaGreatDoor.Gj
open Go.RowKit Go.PW Go.PL Go.PM Sp Dec
section
attribute [local go_sem] run_store_float max2_int min2_int max_two min_two max_three min_three max_four min_four
set_option linter.unusedVariables false
set_option linter.unusedSimpArgs false
def KS (R : ByteArray) (nb ne : Nat) (ks : ByteArray) : Prop := nb < ne ∧ ne < R.size ∧ ∃ vesc : Bool,
 (∀ w, Calls Tryz.prog 48 #[.string R, .int .i64 ((nb + 1 : Nat) : Int)] w fun e w' => e = .returned (.tuple #[.int .i64 ((ne + 1 : Nat) : Int), .string (R.extract nb (ne + 1)), .bool vesc, .bool true]) ∧ Below w.heap.size w w') ∧
 (vesc = true → ∀ w, Calls Tryz.prog 49 #[.string (R.extract (nb + 1) ne)] w fun e w' => e = .returned (.string ks) ∧ Below w.heap.size w w') ∧ (vesc = false → R.extract (nb + 1) ne = ks)
inductive OLay (R : ByteArray) : Nat → List (GR × GR → Prop) → Prop
 | end_ (i : Nat) : (∀ q, i ≤ q → q < R.size → at_ R q ≠ 34) → OLay R i []
 | item (i nb ne b e : Nat) (ks : ByteArray) (P : GR × GR → Prop) (G : GR → Prop) (l : List (GR × GR → Prop)) : i ≤ nb → (∀ q, i ≤ q → q < nb → at_ R q ≠ 34) → at_ R nb = 34 → KS R nb ne ks → ne + 1 ≤ b → b < e → e ≤ R.size → (∀ q, ne + 1 ≤ q → q < b → Skip (at_ R q)) → ¬ Skip (at_ R b) →
  PA R b (fun ok j g => ok = true ∧ j = (e : Int) ∧ ∀ i, G { g with idx := i }) → (∀ zk v, G v → P (⟨3, R.extract nb (ne + 1), ks, 0, zk, none, 0, 0⟩, v)) → OLay R (e + 1) l → OLay R i (P :: l)
def NextO (R S ks : ByteArray) (b : Nat) (rest : List (GR × GR → Prop)) (ok : Bool) (j : Int) (g : GR) : Prop :=
 (ok = false ∧ rest = []) ∨ (ok = true ∧ ∃ (P : GR × GR → Prop) (l : List (GR × GR → Prop)) (e : Nat), rest = P :: l ∧ j = (e : Int) ∧ b < e ∧ e ≤ R.size ∧ (∀ i zk, P (⟨3, S, ks, 0, zk, none, 0, 0⟩, { g with idx := i })) ∧ OLay R (e + 1) l)
theorem OLay.inv {R : ByteArray} {i : Nat} {rest : List (GR × GR → Prop)} (h : OLay R i rest) (hi : i < R.size) :
 (at_ R i ≠ 34 ∧ OLay R (i + 1) rest) ∨ (at_ R i = 34 ∧ ∃ ne ks b, KS R i ne ks ∧ ne + 1 ≤ b ∧ b ≤ R.size ∧ (∀ q, ne + 1 ≤ q → q < b → Skip (at_ R q)) ∧ (b < R.size → ¬ Skip (at_ R b)) ∧ PA R b (NextO R (R.extract i (ne + 1)) ks b rest)) := by
 cases h with
 | end_ _ h => exact .inl ⟨h i (Nat.le_refl _) hi, .end_ _ (fun q h1 h2 => h q (by omega) h2)⟩
 | item _ nb ne b e ks P G l h1 h2 h3 h4 h5 h6 h7 h8 h9 h10 h11 h12 =>
  by_cases c : i = nb
  ·subst c
   exact .inr ⟨h3, ne, ks, b, h4, h5, by omega, h8, fun _ => h9, h10.mono fun ok j g ⟨a1, a2, a3⟩ => .inr ⟨a1, P, l, e, rfl, a2, h6, h7, fun i zk => h11 zk _ (a3 i), h12⟩⟩
  ·exact .inl ⟨h2 i (Nat.le_refl _) (by omega), .item _ nb ne b e ks P G l (by omega) (fun q g1 g2 => h2 q (by omega) g2) h3 h4 h5 h6 h7 h8 h9 h10 h11 h12⟩
theorem OLay.over {R : ByteArray} {i : Nat} {rest : List (GR × GR → Prop)} (h : OLay R i rest) (hi : R.size ≤ i) : rest = [] := by
 cases h with
 | end_ _ h => rfl
 | item _ nb ne b e ks P G l h1 h2 h3 h4 h5 h6 h7 => have := h4.1; have := h4.2.1; omega
set_option maxRecDepth 100000 in
set_option maxHeartbeats 40000000 in
theorem feach_obj {F : FuncId} {caps : Array Value} {cont : Nat → Bool} {It : (Nat → Prop) → List (GR × GR) → World → Prop} (hI : Iter F caps cont It) (R ts : ByteArray) (tn : Nat) (ti : Int) (A : Nat → Prop) (w W0 : World)
 (hIt : It A [] w) (hW : Wok W0) (hWB : Below W0.heap.size W0 w) (hWA : ∀ k, k < W0.heap.size → A k) (hs : R.size ≤ 1000000) (hr : 0 < R.size) (hh : at_ R 0 = 123) (ps : List (GR × GR → Prop)) (hL : OLay R 1 ps) (hps : ps.length ≤ 1000000) :
 Calls Tryz.prog 22 #[.agg #[.int .i64 5, .string R, .string ts, .float .f64 tn, .int .i64 ti, .slice none 0 0], .func (.func F) #[] caps] w (FePost cont It A ps w) := by
 have HL := ab hL
 have HI := ab hI
 have HIt := ab hIt
 have HW := ab (And.intro hW (And.intro hWB hWA))
 have HS := ab hs
 have HP := ab hps
 have hx0 : ∀ h : 0 < R.size, ((R[0]'h).toNat : Int) = 123 := fun h => by rw [← hh]; exact bt_at R 0 h
 have e0 : (R = ByteArray.empty) = False := eq_false (fun h => by rw [h] at hr; exact absurd hr (by decide))
 have e1 : (0 < R.size) = True := ag hr
 clear hL hI hIt hW hWB hWA hs hr hh hps
 go_enter Tryz.func22, Tryz.ntmps22
 go_wp2_with (first | (refine aw 2 #[.int .i64 5, .string R, .string ts, .float .f64 tn, .int .i64 ti, .slice none 0 0] 55 ?_; intro b2 hg w1 hz hb; have HB := ab hb; have Z2 := ab hz; have G2 := ab (Nat.le_of_eq hg.symm); obtain ⟨p_0, p_1, p_2, p_3, p_4, p_5, pf_0, pf_1, pf_2, pf_3, pf_4, pf_5⟩ := cz6 hz; clear hb hz hg) | ((with_reducible refine gate_callee (f := 47) rfl ?_); refine goesL_ (some 16) rfl rfl Tryz.func47 (by kernel_rfl) rfl #[.agg #[.int .i64 5, .string R, .string ts, .float .f64 tn, .int .i64 ti, .slice none 0 0]] rfl Z25 ?_; (with_reducible refine (exists_true 5 R ts tn ti (.slice none 0 0) _ (by decide)).mono ?_); rintro e w2 ⟨rfl, hb⟩; refine ⟨_, rfl, ?_⟩; have HB1 := ab (below_step HB.out hb); have Z21 := ab (blk_below Z2.out hb); clear HB Z2 hb p_0 pf_0 p_1 pf_1 p_2 pf_2 p_3 pf_3 p_4 pf_4 p_5 pf_5; obtain ⟨q_0, q_1, q_2, q_3, q_4, q_5, qf_0, qf_1, qf_2, qf_3, qf_4, qf_5⟩ := cz6 Z21.out) | (refine aw 7 #[.int .i64 0, .string (⟨#[]⟩ : ByteArray), .string (⟨#[]⟩ : ByteArray), .float .f64 (0 : Nat), .int .i64 0, .slice none 0 0] 55 ?_; intro b7 hg w3 hz hb; have HB2 := ab (below_step HB1.out hb); have Z22 := ab (blk_below Z21.out hb); have Z7 := ab hz; have G7 := ab (show b2 < b7 by have := blk_lt Z21.out; omega); clear HB1 Z21 hb hz hg) | (refine aw 8 #[.int .i64 0, .string (⟨#[]⟩ : ByteArray), .string (⟨#[]⟩ : ByteArray), .float .f64 (0 : Nat), .int .i64 0, .slice none 0 0] 55 ?_; intro b8 hg w4 hz hb; have HF := ab (Fs.new HI.out HIt.out (below_step HB2.out hb) (blk_below Z22.out hb) (blk_below Z7.out hb) hz G2.out G7.out (by have := blk_lt Z7.out; omega)); clear HB2 Z22 hb hz hg Z7 G2 G7))
 (try simp only [Act.put, ap, aq, ar])
 go_loopg [5, 6] 0 (fun kq v5 v6 wd => v5 = .bool false ∧ v6 = .int .i64 0 ∧ Aside0 (wd = w4))
 case atStart => exact ⟨rfl, rfl, ⟨rfl⟩⟩
 case round =>
  obtain ⟨rfl, rfl, ⟨rfl⟩⟩ := hrel
  have n78 := HF.out.n78
  have n87 := Ne.symm HF.out.n78
  have n27 := HF.out.n27
  obtain ⟨r_0, r_1, r_2, r_3, r_4, r_5, rf_0, rf_1, rf_2, rf_3, rf_4, rf_5⟩ := cz6 HF.out.z7
  go_wp2_with ((refine store_event ?hg ?hd (W1 := wr.setCell ⟨b7, 0, none⟩ (.int .i64 3)) ?hr ?_; (case hd => rfl); (case hg => rfl); (case hr => exact Z11); intro w5 hw; have HF1 := ab (HF.out.set7 HI.out 0 _ rfl hw); clear hw HF r_0 rf_0 r_1 rf_1 r_2 rf_2 r_3 rf_3 r_4 rf_4 r_5 rf_5))
  clear HIt hx0
  clear n78 n87 n27
  (try simp only [Act.put, ap, aq, ar])
  go_loopg [6, 12] (R.size + 2) (fun kq v6 v12 wd => ∃ (x6 x12 : Int) (i : Nat) (k1 k2 : ByteArray) (k4 : Int) (l1 : List (GR × GR)) (rest : List (GR × GR → Prop)) (y0 : Int) (y1 y2 : ByteArray) (y3 : Nat) (y4 : Int) (y5 : Option Addr) (y6 y7 : Nat), v6 = .int .i64 x6 ∧ v12 = .int .i64 x12 ∧ Aside0 (x6 = i ∧ R.size + 2 ≤ kq + i ∧ i ≤ R.size + 1 ∧ OLay R i rest ∧ True ∧ Left cont ps l1 rest) ∧ Aside0 (Fs It A w b2 b7 b8 l1 #[.int .i64 5, .string R, .string ts, .float .f64 tn, .int .i64 ti, .slice none 0 0] #[.int .i64 3, .string k1, .string k2, .float .f64 (0 : Nat), .int .i64 k4, .slice none 0 0] #[.int .i64 y0, .string y1, .string y2, .float .f64 y3, .int .i64 y4, .slice y5 y6 y7] wd))
  case atStart => exact ⟨_, _, 1, _, _, _, [], ps, _, _, _, _, _, _, _, _, rfl, rfl, ⟨rfl, by omega, by omega, HL.out, trivial, Left.start _ _ HP.out⟩, HF1⟩
  case round =>
   clear HF1 HL
   obtain ⟨x6, x12, i, k1, k2, k4, l1, rest, y0, y1, y2, y3, y4, y5, y6, y7, rfl, rfl, HM, HF⟩ := hrel
   cases gk with
   | zero => exact absurd HM.out.2.1 Z61
   | succ gK =>
   by_cases hlt : x6 < (R.size : Int)
   ·have c1 : decide (x6 < (R.size : Int)) = true := ae hlt
    have hi : i < R.size := by have := HM.out.1; omega
    obtain ⟨v, hv⟩ : ∃ v, at_ R i = v := ⟨_, rfl⟩
    have hx : ∀ h : x6.toNat < R.size, ((R[x6.toNat]'h).toNat : Int) = v := fun h => by rw [← hv]; exact at_get R x6 i HM.out.1 h
    have h60 : (0 ≤ x6) = True := ag (by have := HM.out.1; omega)
    have h61 : (x6 < (R.size : Int)) = True := ag hlt
    obtain ⟨z, f0, hz⟩ : ∃ z, IntKind.i64.wrap (x6 + 1) = z ∧ Aside0 (z = ((i + 1 : Nat) : Int)) := ⟨_, wrp (by have := HM.out.1; omega) (by have := HM.out.1; have := HS.out; omega), ⟨by have := HM.out.1; omega⟩⟩
    rcases HM.out.2.2.2.1.inv hi with ⟨h1, h2⟩ | ⟨h1, ne, ks, b, hks, g1, g2, g3, g4, g5⟩
    ·have hne : (v != 34) = true := aj (by rw [← hv]; exact h1)
     have HA := ab h2
     clear h1 h2 hv hlt hi
     go_wp2_with (fail)
     go_roundg gK
     case measure => exact Nat.lt_succ_self gK
     case rel => exact ⟨_, _, i + 1, _, _, _, l1, rest, _, _, _, _, _, _, _, _, rfl, rfl, ⟨hz.out, Z54, by have := HM.out.1; have := ac c1; omega, HA.out, trivial, HM.out.2.2.2.2.2⟩, HF⟩
    ·have hne : (v != 34) = false := ak (by rw [← hv]; exact h1)
     obtain ⟨n1, n2, vesc, p1, p2, p3⟩ := hks
     obtain ⟨S, hS⟩ : ∃ S, R.extract i (ne + 1) = S := ⟨_, rfl⟩
     obtain ⟨T, hT⟩ : ∃ T, R.extract (i + 1) ne = T := ⟨_, rfl⟩
     obtain ⟨r1, hr1⟩ : ∃ r1 : Int, ((ne + 1 : Nat) : Int) = r1 := ⟨_, rfl⟩
     have hSz : S.size = ne + 1 - i := by rw [← hS, ByteArray.size_extract]; omega
     obtain ⟨zs, fs, hzs⟩ : ∃ z, IntKind.i64.wrap ((S.size : Int) - 1) = z ∧ Aside0 (z = ((ne - i : Nat) : Int)) := ⟨_, wrp (by omega) (by have := HS.out; omega), ⟨by omega⟩⟩
     have hcut : S.extract 1 zs.toNat = T := by rw [hzs.out, ← hS, ← hT, ByteArray.extract_extract]; congr 1 <;> omega
     have s1 : (1 ≤ zs) = True := ag (by have := hzs.out; omega)
     have s2 : (zs ≤ (S.size : Int)) = True := ag (by have := hzs.out; omega)
     obtain ⟨zk, fk⟩ : ∃ zk, IntKind.i64.wrap (x6 + ti) = zk := ⟨_, rfl⟩
     rw [hS, hr1] at p1
     rw [hT] at p2 p3
     rw [hS] at g5
     have hz1 := hz.out
     rw [← hz1] at p1
     have HP1 := ab p1
     have HP2 := ab p2
     have HP3 := ab p3
     have HX := ab hr1.symm
     have HX2 := ab (show i ≤ ne + 1 by omega)
     have HG := ab (And.intro g1 (And.intro g2 (And.intro g3 g4)))
     have HPA := ab g5
     clear g1 g2 g3 g4 g5 p1 p2 p3 hr1 hz1 hv h1 hlt hi n1 n2 hS hT hSz
     go_wp2_with (fail)
     refine (HP1.out _).mono ?_
     rintro e w5 ⟨rfl, hb⟩
     have HF1 := ab (HF.out.below HI.out hb)
     clear hb HF HP1
     obtain ⟨q_0, q_1, q_2, q_3, q_4, q_5, qf_0, qf_1, qf_2, qf_3, qf_4, qf_5⟩ := cz6 HF1.out.z2
     obtain ⟨r_0, r_1, r_2, r_3, r_4, r_5, rf_0, rf_1, rf_2, rf_3, rf_4, rf_5⟩ := cz6 HF1.out.z7
     have n78 := HF1.out.n78
     have n87 := Ne.symm HF1.out.n78
     have n27 := HF1.out.n27
     have n72 := Ne.symm HF1.out.n27
     cases vesc with
     | false =>
      obtain rfl := HP3.out rfl
      go_wp2_with (first | (refine store_event ?hg ?hd (W1 := w5.setCell ⟨b7, 2, none⟩ (.string T)) ?hr ?_; (case hd => rfl); (case hg => rfl); (case hr => exact Z11); intro w6 hw; have HF2 := ab (HF1.out.set7 HI.out 2 _ rfl hw); clear hw HF1 q_0 qf_0 q_1 qf_1 q_2 qf_2 q_3 qf_3 q_4 qf_4 q_5 qf_5 r_0 rf_0 r_1 rf_1 r_2 rf_2 r_3 rf_3 r_4 rf_4 r_5 rf_5; obtain ⟨q_0, q_1, q_2, q_3, q_4, q_5, qf_0, qf_1, qf_2, qf_3, qf_4, qf_5⟩ := cz6 HF2.out.z2; obtain ⟨r_0, r_1, r_2, r_3, r_4, r_5, rf_0, rf_1, rf_2, rf_3, rf_4, rf_5⟩ := cz6 HF2.out.z7) | (refine store_event ?hg ?hd (W1 := w6.setCell ⟨b7, 1, none⟩ (.string S)) ?hr ?_; (case hd => rfl); (case hg => rfl); (case hr => exact Z11); intro w7 hw; have HF3 := ab (HF2.out.set7 HI.out 1 _ rfl hw); clear hw HF2 q_0 qf_0 q_1 qf_1 q_2 qf_2 q_3 qf_3 q_4 qf_4 q_5 qf_5 r_0 rf_0 r_1 rf_1 r_2 rf_2 r_3 rf_3 r_4 rf_4 r_5 rf_5; obtain ⟨q_0, q_1, q_2, q_3, q_4, q_5, qf_0, qf_1, qf_2, qf_3, qf_4, qf_5⟩ := cz6 HF3.out.z2; obtain ⟨r_0, r_1, r_2, r_3, r_4, r_5, rf_0, rf_1, rf_2, rf_3, rf_4, rf_5⟩ := cz6 HF3.out.z7) | (refine store_event ?hg ?hd (W1 := w7.setCell ⟨b7, 4, none⟩ (.int .i64 zk)) ?hr ?_; (case hd => rfl); (case hg => rfl); (case hr => exact Z11); intro w10 hw; have HF4 := ab (HF3.out.set7 HI.out 4 _ rfl hw); clear hw HF3 q_0 qf_0 q_1 qf_1 q_2 qf_2 q_3 qf_3 q_4 qf_4 q_5 qf_5 r_0 rf_0 r_1 rf_1 r_2 rf_2 r_3 rf_3 r_4 rf_4 r_5 rf_5; obtain ⟨q_0, q_1, q_2, q_3, q_4, q_5, qf_0, qf_1, qf_2, qf_3, qf_4, qf_5⟩ := cz6 HF4.out.z2; obtain ⟨r_0, r_1, r_2, r_3, r_4, r_5, rf_0, rf_1, rf_2, rf_3, rf_4, rf_5⟩ := cz6 HF4.out.z7))
      (try simp only [Act.put, ap, aq, ar])
      go_loopg [6] R.size (fun kq v6 wd => ∃ (z6 : Int) (q : Nat), v6 = .int .i64 z6 ∧ Aside0 (z6 = q ∧ (ne + 1) ≤ q ∧ q ≤ b ∧ b ≤ kq + q) ∧ Aside0 (wd = w10))
      case atStart => exact ⟨_, (ne + 1), rfl, ⟨by first | exact HM.out.1 | exact HX.out, Nat.le_refl _, HG.out.1, by have := HG.out.2.1; omega⟩, ⟨rfl⟩⟩
      case round =>
       obtain ⟨z6, q, rfl, HQ, ⟨rfl⟩⟩ := hrel
       obtain ⟨wo, rfl⟩ : ∃ wo : World, wo = wr := ⟨_, rfl⟩
       try clear r_0 rf_0 r_1 rf_1 r_2 rf_2 r_3 rf_3 r_4 rf_4 r_5 rf_5 hR1 n78 n87 n27 q_0 qf_0 q_1 qf_1 q_2 qf_2 q_3 qf_3 q_4 qf_4 q_5 qf_5
       by_cases hqb : q < b
       ·cases gk with
        | zero => exact absurd hqb Z60
        | succ gj =>
        have c2 : decide (z6 < (R.size : Int)) = true := ae (by have := HQ.out.1; have := HG.out.2.1; omega)
        obtain ⟨v, hv⟩ : ∃ v, at_ R q = v := ⟨_, rfl⟩
        have hx : ∀ h : z6.toNat < R.size, ((R[z6.toNat]'h).toNat : Int) = v := fun h => by rw [← hv]; exact at_get R z6 q HQ.out.1 h
        have h60 : (0 ≤ z6) = True := ag (by have := HQ.out.1; omega)
        have h61 : (z6 < (R.size : Int)) = True := ag (ac c2)
        obtain ⟨z, f0, hz⟩ : ∃ z, IntKind.i64.wrap (z6 + 1) = z ∧ Aside0 (z = ((q + 1 : Nat) : Int)) := ⟨_, wrp (by have := HQ.out.1; omega) (by have := HQ.out.1; have := HG.out.2.1; have := HS.out; omega), ⟨by have := HQ.out.1; omega⟩⟩
        have hsk := HG.out.2.2.1 q HQ.out.2.1 hqb
        rw [hv] at hsk
        have hways : decide (v ≤ 32) = true ∨ (decide (v ≤ 32) = false ∧ v = 44) ∨ (decide (v ≤ 32) = false ∧ v = 58) := by
         unfold Skip at hsk
         by_cases h1 : v ≤ 32
         ·exact .inl (ae h1)
         ·rcases hsk with h | h | h
          ·exact absurd h h1
          ·exact .inr (.inl ⟨af h1, h⟩)
          ·exact .inr (.inr ⟨af h1, h⟩)
        clear hsk hv
        rcases hways with h1 | ⟨h1, rfl⟩ | ⟨h1, rfl⟩
        all_goals
         go_wp2_with (fail)
         go_roundg gj
         case measure => exact Nat.lt_succ_self gj
         case rel => exact ⟨_, q + 1, rfl, ⟨by have := hz.out; have := f0; omega, by have := HQ.out.2.1; omega, by omega, Z60⟩, ⟨rfl⟩⟩
       ·obtain rfl : q = b := by have := HQ.out.2.2.1; omega
        have HZ := ab HQ.out.1
        have HPB := ab (show PA R z6 (NextO R S T q rest) by rw [HQ.out.1]; exact HPA.out)
        clear HPA HQ hqb
        have stop : (decide (z6 < (R.size : Int)) = false) ∨ (decide (z6 < (R.size : Int)) = true ∧ (z6 < (R.size : Int)) = True ∧ ∃ v : Int, (∀ h : z6.toNat < R.size, ((R[z6.toNat]'h).toNat : Int) = v) ∧ decide (v ≤ 32) = false ∧ (v == 44) = false ∧ (v == 58) = false) := by
         by_cases h : q < R.size
         ·have h1 := HG.out.2.2.2 h
          unfold Skip at h1
          exact .inr ⟨ae (by have := HZ.out; omega), ag (by have := HZ.out; omega), at_ R q, at_get R z6 q HZ.out, af (by omega), ah (by omega), ah (by omega)⟩
         ·exact .inl (af (by have := HZ.out; omega))
        have h60 : (0 ≤ z6) = True := ag (by have := HZ.out; omega)
        obtain ⟨q_0, q_1, q_2, q_3, q_4, q_5, qf_0, qf_1, qf_2, qf_3, qf_4, qf_5⟩ := cz6 HF4.out.z2
        obtain ⟨r_0, r_1, r_2, r_3, r_4, r_5, rf_0, rf_1, rf_2, rf_3, rf_4, rf_5⟩ := cz6 HF4.out.z7
        obtain ⟨s_0, s_1, s_2, s_3, s_4, s_5, sf_0, sf_1, sf_2, sf_3, sf_4, sf_5⟩ := cz6 HF4.out.z8
        have HWK := ab (HF4.out.wok HW.out)
        rcases stop with c2 | ⟨c2, c3, v, hx, h1, h2, h3⟩
        all_goals
         go_wp2_with (fail)
         refine (PA.calls HPB.out HWK.out).mono ?_
         rintro e w8 ⟨ok, j, ⟨g0, g1, g2, g3, g4, g5, g6, g7⟩, hq, he, hb⟩
         obtain rfl : e = .returned (.tuple #[.int .i64 j, .agg #[.int .i64 g0, .string g1, .string g2, .float .f64 g3, .int .i64 g4, .slice g5 g6 g7], .bool ok]) := he
         have HN1 := ab hq
         have HF2 := ab (HF4.out.below HI.out hb)
         clear hq hb HWK q_0 qf_0 q_1 qf_1 q_2 qf_2 q_3 qf_3 q_4 qf_4 q_5 qf_5 r_0 rf_0 r_1 rf_1 r_2 rf_2 r_3 rf_3 r_4 rf_4 r_5 rf_5 s_0 sf_0 s_1 sf_1 s_2 sf_2 s_3 sf_3 s_4 sf_4 s_5 sf_5
         obtain ⟨s_0, s_1, s_2, s_3, s_4, s_5, sf_0, sf_1, sf_2, sf_3, sf_4, sf_5⟩ := cz6 HF2.out.z8
         go_upto_region 41 with ((refine store_event ?hg ?hd (W1 := (((((w8.setCell ⟨b8, 0, none⟩ (.int .i64 g0)).setCell ⟨b8, 1, none⟩ (.string g1)).setCell ⟨b8, 2, none⟩ (.string g2)).setCell ⟨b8, 3, none⟩ (.float .f64 g3)).setCell ⟨b8, 4, none⟩ (.int .i64 g4)).setCell ⟨b8, 5, none⟩ (.slice g5 g6 g7)) ?hr ?_; (case hd => rfl); (case hg => rfl); (case hr => exact Z11); intro w9 hw; have HF3 := ab (HF2.out.set55 HI.out _ _ _ _ _ _ hw); clear hw HF2 s_0 sf_0 s_1 sf_1 s_2 sf_2 s_3 sf_3 s_4 sf_4 s_5 sf_5))
         rcases HN1.out with ⟨rfl, rfl⟩ | ⟨rfl, G, l, e1, rfl, hj, he1, he2, hG, hAL⟩
         ·clear HN1
          go_wp2_with (fail)
          refine bodyPost_ret (results_list (rs := []) rfl (by simp) .nil) rfl ?_
          exact ⟨rfl, l1, HM.out.2.2.2.2.2.done, HI.out.less HF3.out.it (fun _ h => .inl h), HF3.out.kp⟩
         ·clear HN1
          have HJ := ab (And.intro hj (And.intro he1 (And.intro he2 (And.intro hG hAL))))
          obtain ⟨zi, f1⟩ : ∃ zi, IntKind.i64.wrap (z6 + ti) = zi := ⟨_, rfl⟩
          obtain ⟨zj, f2, hzj⟩ : ∃ z, IntKind.i64.wrap (j + 1) = z ∧ Aside0 (z = ((e1 + 1 : Nat) : Int)) := ⟨_, wrp (by omega) (by have := HS.out; omega), ⟨by omega⟩⟩
          obtain ⟨z12, f3⟩ : ∃ z, IntKind.i64.wrap (x12 + 1) = z := ⟨_, rfl⟩
          obtain ⟨cb, hcb⟩ : ∃ cb, cont (l1.length + 1) = cb := ⟨_, rfl⟩
          have HCB := ab hcb
          have HFN := ab HI.out.fn
          clear hj he1 he2 hG hAL hcb
          have n78 := HF3.out.n78
          have n87 := Ne.symm HF3.out.n78
          have n28 := HF3.out.n28
          have n27 := HF3.out.n27
          obtain ⟨q_0, q_1, q_2, q_3, q_4, q_5, qf_0, qf_1, qf_2, qf_3, qf_4, qf_5⟩ := cz6 HF3.out.z2
          obtain ⟨r_0, r_1, r_2, r_3, r_4, r_5, rf_0, rf_1, rf_2, rf_3, rf_4, rf_5⟩ := cz6 HF3.out.z7
          obtain ⟨s_0, s_1, s_2, s_3, s_4, s_5, sf_0, sf_1, sf_2, sf_3, sf_4, sf_5⟩ := cz6 HF3.out.z8
          cases cb with
          | false =>
           go_wp2_with (first | (refine store_event ?hg ?hd (W1 := w9.setCell ⟨b8, 4, none⟩ (.int .i64 zi)) ?hr ?_; (case hd => rfl); (case hg => rfl); (case hr => exact Z11); intro w10 hw; have HF4 := ab (HF3.out.set8 HI.out 4 _ rfl hw); clear hw HF3 n78 n87 n28 n27 q_0 qf_0 q_1 qf_1 q_2 qf_2 q_3 qf_3 q_4 qf_4 q_5 qf_5 r_0 rf_0 r_1 rf_1 r_2 rf_2 r_3 rf_3 r_4 rf_4 r_5 rf_5 s_0 sf_0 s_1 sf_1 s_2 sf_2 s_3 sf_3 s_4 sf_4 s_5 sf_5; obtain ⟨r_0, r_1, r_2, r_3, r_4, r_5, rf_0, rf_1, rf_2, rf_3, rf_4, rf_5⟩ := cz6 HF4.out.z7; obtain ⟨s_0, s_1, s_2, s_3, s_4, s_5, sf_0, sf_1, sf_2, sf_3, sf_4, sf_5⟩ := cz6 HF4.out.z8) | ((with_reducible refine gate_dst (N := 154) rfl ?_); obtain ⟨fn, hf1, hf2, hf3⟩ := HFN.out; refine goesV_ (some 154) rfl rfl hf1 hf2 hf3 (#[GR.v ⟨3, S, T, 0, zk, none, 0, 0⟩, GR.v ⟨g0, g1, g2, g3, zi, g5, g6, g7⟩] ++ caps) rfl rfl Z25 ?_; refine (HI.out.call ⟨3, S, T, 0, zk, none, 0, 0⟩ ⟨g0, g1, g2, g3, zi, g5, g6, g7⟩ HF4.out.it (by have := HM.out.2.2.2.2.2.2; omega)).mono ?_; rintro e w11 ⟨he, hit, hkp⟩; rw [HCB.out] at he; subst he; refine ⟨_, rfl, ?_⟩; have HF5 := ab (HF4.out.called hit hkp); clear hit hkp HF4 hf1 hf2 hf3 r_0 rf_0 r_1 rf_1 r_2 rf_2 r_3 rf_3 r_4 rf_4 r_5 rf_5 s_0 sf_0 s_1 sf_1 s_2 sf_2 s_3 sf_3 s_4 sf_4 s_5 sf_5))
           refine bodyPost_ret (results_list (rs := []) rfl (by simp) .nil) rfl ?_
           exact ⟨rfl, l1 ++ [(⟨3, S, T, 0, zk, none, 0, 0⟩, ⟨g0, g1, g2, g3, zi, g5, g6, g7⟩)], HM.out.2.2.2.2.2.stop (HJ.out.2.2.2.1 zi zk) HCB.out, HI.out.less HF5.out.it (fun _ h => .inl h), HF5.out.kp⟩
          | true =>
           go_wp2_with (first | (refine store_event ?hg ?hd (W1 := w9.setCell ⟨b8, 4, none⟩ (.int .i64 zi)) ?hr ?_; (case hd => rfl); (case hg => rfl); (case hr => exact Z11); intro w10 hw; have HF4 := ab (HF3.out.set8 HI.out 4 _ rfl hw); clear hw HF3 n78 n87 n28 n27 q_0 qf_0 q_1 qf_1 q_2 qf_2 q_3 qf_3 q_4 qf_4 q_5 qf_5 r_0 rf_0 r_1 rf_1 r_2 rf_2 r_3 rf_3 r_4 rf_4 r_5 rf_5 s_0 sf_0 s_1 sf_1 s_2 sf_2 s_3 sf_3 s_4 sf_4 s_5 sf_5; obtain ⟨r_0, r_1, r_2, r_3, r_4, r_5, rf_0, rf_1, rf_2, rf_3, rf_4, rf_5⟩ := cz6 HF4.out.z7; obtain ⟨s_0, s_1, s_2, s_3, s_4, s_5, sf_0, sf_1, sf_2, sf_3, sf_4, sf_5⟩ := cz6 HF4.out.z8) | ((with_reducible refine gate_dst (N := 154) rfl ?_); obtain ⟨fn, hf1, hf2, hf3⟩ := HFN.out; refine goesV_ (some 154) rfl rfl hf1 hf2 hf3 (#[GR.v ⟨3, S, T, 0, zk, none, 0, 0⟩, GR.v ⟨g0, g1, g2, g3, zi, g5, g6, g7⟩] ++ caps) rfl rfl Z25 ?_; refine (HI.out.call ⟨3, S, T, 0, zk, none, 0, 0⟩ ⟨g0, g1, g2, g3, zi, g5, g6, g7⟩ HF4.out.it (by have := HM.out.2.2.2.2.2.2; omega)).mono ?_; rintro e w11 ⟨he, hit, hkp⟩; rw [HCB.out] at he; subst he; refine ⟨_, rfl, ?_⟩; have HF5 := ab (HF4.out.called hit hkp); clear hit hkp HF4 hf1 hf2 hf3 r_0 rf_0 r_1 rf_1 r_2 rf_2 r_3 rf_3 r_4 rf_4 r_5 rf_5 s_0 sf_0 s_1 sf_1 s_2 sf_2 s_3 sf_3 s_4 sf_4 s_5 sf_5))
           go_roundg gK
           case measure => exact Nat.lt_succ_self gK
           case rel => exact ⟨_, _, e1 + 1, _, _, _, l1 ++ [(⟨3, S, T, 0, zk, none, 0, 0⟩, ⟨g0, g1, g2, g3, zi, g5, g6, g7⟩)], l, _, _, _, _, _, _, _, _, rfl, rfl, ⟨hzj.out, by have := HM.out.2.1; have := HG.out.1; have := HX2.out; have := HJ.out.2.1; omega, by have := HJ.out.2.2.1; omega, HJ.out.2.2.2.2, trivial, HM.out.2.2.2.2.2.more (HJ.out.2.2.2.1 zi zk) HCB.out⟩, HF5⟩
     | true =>
      go_wp2_with (fail)
      refine (HP2.out (by trivial) _).mono ?_
      rintro e w55 ⟨rfl, hb⟩
      have HF11 := ab (HF1.out.below HI.out hb)
      clear hb HF1 q_0 qf_0 q_1 qf_1 q_2 qf_2 q_3 qf_3 q_4 qf_4 q_5 qf_5 r_0 rf_0 r_1 rf_1 r_2 rf_2 r_3 rf_3 r_4 rf_4 r_5 rf_5
      obtain ⟨q_0, q_1, q_2, q_3, q_4, q_5, qf_0, qf_1, qf_2, qf_3, qf_4, qf_5⟩ := cz6 HF11.out.z2
      obtain ⟨r_0, r_1, r_2, r_3, r_4, r_5, rf_0, rf_1, rf_2, rf_3, rf_4, rf_5⟩ := cz6 HF11.out.z7
      go_wp2_with (first | (refine store_event ?hg ?hd (W1 := w55.setCell ⟨b7, 2, none⟩ (.string ks)) ?hr ?_; (case hd => rfl); (case hg => rfl); (case hr => exact Z11); intro w6 hw; have HF2 := ab (HF11.out.set7 HI.out 2 _ rfl hw); clear hw HF11 q_0 qf_0 q_1 qf_1 q_2 qf_2 q_3 qf_3 q_4 qf_4 q_5 qf_5 r_0 rf_0 r_1 rf_1 r_2 rf_2 r_3 rf_3 r_4 rf_4 r_5 rf_5; obtain ⟨q_0, q_1, q_2, q_3, q_4, q_5, qf_0, qf_1, qf_2, qf_3, qf_4, qf_5⟩ := cz6 HF2.out.z2; obtain ⟨r_0, r_1, r_2, r_3, r_4, r_5, rf_0, rf_1, rf_2, rf_3, rf_4, rf_5⟩ := cz6 HF2.out.z7) | (refine store_event ?hg ?hd (W1 := w6.setCell ⟨b7, 1, none⟩ (.string S)) ?hr ?_; (case hd => rfl); (case hg => rfl); (case hr => exact Z11); intro w7 hw; have HF3 := ab (HF2.out.set7 HI.out 1 _ rfl hw); clear hw HF2 q_0 qf_0 q_1 qf_1 q_2 qf_2 q_3 qf_3 q_4 qf_4 q_5 qf_5 r_0 rf_0 r_1 rf_1 r_2 rf_2 r_3 rf_3 r_4 rf_4 r_5 rf_5; obtain ⟨q_0, q_1, q_2, q_3, q_4, q_5, qf_0, qf_1, qf_2, qf_3, qf_4, qf_5⟩ := cz6 HF3.out.z2; obtain ⟨r_0, r_1, r_2, r_3, r_4, r_5, rf_0, rf_1, rf_2, rf_3, rf_4, rf_5⟩ := cz6 HF3.out.z7) | (refine store_event ?hg ?hd (W1 := w7.setCell ⟨b7, 4, none⟩ (.int .i64 zk)) ?hr ?_; (case hd => rfl); (case hg => rfl); (case hr => exact Z11); intro w10 hw; have HF4 := ab (HF3.out.set7 HI.out 4 _ rfl hw); clear hw HF3 q_0 qf_0 q_1 qf_1 q_2 qf_2 q_3 qf_3 q_4 qf_4 q_5 qf_5 r_0 rf_0 r_1 rf_1 r_2 rf_2 r_3 rf_3 r_4 rf_4 r_5 rf_5; obtain ⟨q_0, q_1, q_2, q_3, q_4, q_5, qf_0, qf_1, qf_2, qf_3, qf_4, qf_5⟩ := cz6 HF4.out.z2; obtain ⟨r_0, r_1, r_2, r_3, r_4, r_5, rf_0, rf_1, rf_2, rf_3, rf_4, rf_5⟩ := cz6 HF4.out.z7))
      (try simp only [Act.put, ap, aq, ar])
      go_loopg [6] R.size (fun kq v6 wd => ∃ (z6 : Int) (q : Nat), v6 = .int .i64 z6 ∧ Aside0 (z6 = q ∧ (ne + 1) ≤ q ∧ q ≤ b ∧ b ≤ kq + q) ∧ Aside0 (wd = w10))
      case atStart => exact ⟨_, (ne + 1), rfl, ⟨by first | exact HM.out.1 | exact HX.out, Nat.le_refl _, HG.out.1, by have := HG.out.2.1; omega⟩, ⟨rfl⟩⟩
      case round =>
       obtain ⟨z6, q, rfl, HQ, ⟨rfl⟩⟩ := hrel
       obtain ⟨wo, rfl⟩ : ∃ wo : World, wo = wr := ⟨_, rfl⟩
       try clear r_0 rf_0 r_1 rf_1 r_2 rf_2 r_3 rf_3 r_4 rf_4 r_5 rf_5 hR1 n78 n87 n27 q_0 qf_0 q_1 qf_1 q_2 qf_2 q_3 qf_3 q_4 qf_4 q_5 qf_5
       by_cases hqb : q < b
       ·cases gk with
        | zero => exact absurd hqb Z60
        | succ gj =>
        have c2 : decide (z6 < (R.size : Int)) = true := ae (by have := HQ.out.1; have := HG.out.2.1; omega)
        obtain ⟨v, hv⟩ : ∃ v, at_ R q = v := ⟨_, rfl⟩
        have hx : ∀ h : z6.toNat < R.size, ((R[z6.toNat]'h).toNat : Int) = v := fun h => by rw [← hv]; exact at_get R z6 q HQ.out.1 h
        have h60 : (0 ≤ z6) = True := ag (by have := HQ.out.1; omega)
        have h61 : (z6 < (R.size : Int)) = True := ag (ac c2)
        obtain ⟨z, f0, hz⟩ : ∃ z, IntKind.i64.wrap (z6 + 1) = z ∧ Aside0 (z = ((q + 1 : Nat) : Int)) := ⟨_, wrp (by have := HQ.out.1; omega) (by have := HQ.out.1; have := HG.out.2.1; have := HS.out; omega), ⟨by have := HQ.out.1; omega⟩⟩
        have hsk := HG.out.2.2.1 q HQ.out.2.1 hqb
        rw [hv] at hsk
        have hways : decide (v ≤ 32) = true ∨ (decide (v ≤ 32) = false ∧ v = 44) ∨ (decide (v ≤ 32) = false ∧ v = 58) := by
         unfold Skip at hsk
         by_cases h1 : v ≤ 32
         ·exact .inl (ae h1)
         ·rcases hsk with h | h | h
          ·exact absurd h h1
          ·exact .inr (.inl ⟨af h1, h⟩)
          ·exact .inr (.inr ⟨af h1, h⟩)
        clear hsk hv
        rcases hways with h1 | ⟨h1, rfl⟩ | ⟨h1, rfl⟩
        all_goals
         go_wp2_with (fail)
         go_roundg gj
         case measure => exact Nat.lt_succ_self gj
         case rel => exact ⟨_, q + 1, rfl, ⟨by have := hz.out; have := f0; omega, by have := HQ.out.2.1; omega, by omega, Z60⟩, ⟨rfl⟩⟩
       ·obtain rfl : q = b := by have := HQ.out.2.2.1; omega
        have HZ := ab HQ.out.1
        have HPB := ab (show PA R z6 (NextO R S ks q rest) by rw [HQ.out.1]; exact HPA.out)
        clear HPA HQ hqb
        have stop : (decide (z6 < (R.size : Int)) = false) ∨ (decide (z6 < (R.size : Int)) = true ∧ (z6 < (R.size : Int)) = True ∧ ∃ v : Int, (∀ h : z6.toNat < R.size, ((R[z6.toNat]'h).toNat : Int) = v) ∧ decide (v ≤ 32) = false ∧ (v == 44) = false ∧ (v == 58) = false) := by
         by_cases h : q < R.size
         ·have h1 := HG.out.2.2.2 h
          unfold Skip at h1
          exact .inr ⟨ae (by have := HZ.out; omega), ag (by have := HZ.out; omega), at_ R q, at_get R z6 q HZ.out, af (by omega), ah (by omega), ah (by omega)⟩
         ·exact .inl (af (by have := HZ.out; omega))
        have h60 : (0 ≤ z6) = True := ag (by have := HZ.out; omega)
        obtain ⟨q_0, q_1, q_2, q_3, q_4, q_5, qf_0, qf_1, qf_2, qf_3, qf_4, qf_5⟩ := cz6 HF4.out.z2
        obtain ⟨r_0, r_1, r_2, r_3, r_4, r_5, rf_0, rf_1, rf_2, rf_3, rf_4, rf_5⟩ := cz6 HF4.out.z7
        obtain ⟨s_0, s_1, s_2, s_3, s_4, s_5, sf_0, sf_1, sf_2, sf_3, sf_4, sf_5⟩ := cz6 HF4.out.z8
        have HWK := ab (HF4.out.wok HW.out)
        rcases stop with c2 | ⟨c2, c3, v, hx, h1, h2, h3⟩
        all_goals
         go_wp2_with (fail)
         refine (PA.calls HPB.out HWK.out).mono ?_
         rintro e w8 ⟨ok, j, ⟨g0, g1, g2, g3, g4, g5, g6, g7⟩, hq, he, hb⟩
         obtain rfl : e = .returned (.tuple #[.int .i64 j, .agg #[.int .i64 g0, .string g1, .string g2, .float .f64 g3, .int .i64 g4, .slice g5 g6 g7], .bool ok]) := he
         have HN1 := ab hq
         have HF2 := ab (HF4.out.below HI.out hb)
         clear hq hb HWK q_0 qf_0 q_1 qf_1 q_2 qf_2 q_3 qf_3 q_4 qf_4 q_5 qf_5 r_0 rf_0 r_1 rf_1 r_2 rf_2 r_3 rf_3 r_4 rf_4 r_5 rf_5 s_0 sf_0 s_1 sf_1 s_2 sf_2 s_3 sf_3 s_4 sf_4 s_5 sf_5
         obtain ⟨s_0, s_1, s_2, s_3, s_4, s_5, sf_0, sf_1, sf_2, sf_3, sf_4, sf_5⟩ := cz6 HF2.out.z8
         go_upto_region 41 with ((refine store_event ?hg ?hd (W1 := (((((w8.setCell ⟨b8, 0, none⟩ (.int .i64 g0)).setCell ⟨b8, 1, none⟩ (.string g1)).setCell ⟨b8, 2, none⟩ (.string g2)).setCell ⟨b8, 3, none⟩ (.float .f64 g3)).setCell ⟨b8, 4, none⟩ (.int .i64 g4)).setCell ⟨b8, 5, none⟩ (.slice g5 g6 g7)) ?hr ?_; (case hd => rfl); (case hg => rfl); (case hr => exact Z11); intro w9 hw; have HF3 := ab (HF2.out.set55 HI.out _ _ _ _ _ _ hw); clear hw HF2 s_0 sf_0 s_1 sf_1 s_2 sf_2 s_3 sf_3 s_4 sf_4 s_5 sf_5))
         rcases HN1.out with ⟨rfl, rfl⟩ | ⟨rfl, G, l, e1, rfl, hj, he1, he2, hG, hAL⟩
         ·clear HN1
          go_wp2_with (fail)
          refine bodyPost_ret (results_list (rs := []) rfl (by simp) .nil) rfl ?_
          exact ⟨rfl, l1, HM.out.2.2.2.2.2.done, HI.out.less HF3.out.it (fun _ h => .inl h), HF3.out.kp⟩
         ·clear HN1
          have HJ := ab (And.intro hj (And.intro he1 (And.intro he2 (And.intro hG hAL))))
          obtain ⟨zi, f1⟩ : ∃ zi, IntKind.i64.wrap (z6 + ti) = zi := ⟨_, rfl⟩
          obtain ⟨zj, f2, hzj⟩ : ∃ z, IntKind.i64.wrap (j + 1) = z ∧ Aside0 (z = ((e1 + 1 : Nat) : Int)) := ⟨_, wrp (by omega) (by have := HS.out; omega), ⟨by omega⟩⟩
          obtain ⟨z12, f3⟩ : ∃ z, IntKind.i64.wrap (x12 + 1) = z := ⟨_, rfl⟩
          obtain ⟨cb, hcb⟩ : ∃ cb, cont (l1.length + 1) = cb := ⟨_, rfl⟩
          have HCB := ab hcb
          have HFN := ab HI.out.fn
          clear hj he1 he2 hG hAL hcb
          have n78 := HF3.out.n78
          have n87 := Ne.symm HF3.out.n78
          have n28 := HF3.out.n28
          have n27 := HF3.out.n27
          obtain ⟨q_0, q_1, q_2, q_3, q_4, q_5, qf_0, qf_1, qf_2, qf_3, qf_4, qf_5⟩ := cz6 HF3.out.z2
          obtain ⟨r_0, r_1, r_2, r_3, r_4, r_5, rf_0, rf_1, rf_2, rf_3, rf_4, rf_5⟩ := cz6 HF3.out.z7
          obtain ⟨s_0, s_1, s_2, s_3, s_4, s_5, sf_0, sf_1, sf_2, sf_3, sf_4, sf_5⟩ := cz6 HF3.out.z8
          cases cb with
          | false =>
           go_wp2_with (first | (refine store_event ?hg ?hd (W1 := w9.setCell ⟨b8, 4, none⟩ (.int .i64 zi)) ?hr ?_; (case hd => rfl); (case hg => rfl); (case hr => exact Z11); intro w10 hw; have HF4 := ab (HF3.out.set8 HI.out 4 _ rfl hw); clear hw HF3 n78 n87 n28 n27 q_0 qf_0 q_1 qf_1 q_2 qf_2 q_3 qf_3 q_4 qf_4 q_5 qf_5 r_0 rf_0 r_1 rf_1 r_2 rf_2 r_3 rf_3 r_4 rf_4 r_5 rf_5 s_0 sf_0 s_1 sf_1 s_2 sf_2 s_3 sf_3 s_4 sf_4 s_5 sf_5; obtain ⟨r_0, r_1, r_2, r_3, r_4, r_5, rf_0, rf_1, rf_2, rf_3, rf_4, rf_5⟩ := cz6 HF4.out.z7; obtain ⟨s_0, s_1, s_2, s_3, s_4, s_5, sf_0, sf_1, sf_2, sf_3, sf_4, sf_5⟩ := cz6 HF4.out.z8) | ((with_reducible refine gate_dst (N := 154) rfl ?_); obtain ⟨fn, hf1, hf2, hf3⟩ := HFN.out; refine goesV_ (some 154) rfl rfl hf1 hf2 hf3 (#[GR.v ⟨3, S, ks, 0, zk, none, 0, 0⟩, GR.v ⟨g0, g1, g2, g3, zi, g5, g6, g7⟩] ++ caps) rfl rfl Z25 ?_; refine (HI.out.call ⟨3, S, ks, 0, zk, none, 0, 0⟩ ⟨g0, g1, g2, g3, zi, g5, g6, g7⟩ HF4.out.it (by have := HM.out.2.2.2.2.2.2; omega)).mono ?_; rintro e w11 ⟨he, hit, hkp⟩; rw [HCB.out] at he; subst he; refine ⟨_, rfl, ?_⟩; have HF5 := ab (HF4.out.called hit hkp); clear hit hkp HF4 hf1 hf2 hf3 r_0 rf_0 r_1 rf_1 r_2 rf_2 r_3 rf_3 r_4 rf_4 r_5 rf_5 s_0 sf_0 s_1 sf_1 s_2 sf_2 s_3 sf_3 s_4 sf_4 s_5 sf_5))
           refine bodyPost_ret (results_list (rs := []) rfl (by simp) .nil) rfl ?_
           exact ⟨rfl, l1 ++ [(⟨3, S, ks, 0, zk, none, 0, 0⟩, ⟨g0, g1, g2, g3, zi, g5, g6, g7⟩)], HM.out.2.2.2.2.2.stop (HJ.out.2.2.2.1 zi zk) HCB.out, HI.out.less HF5.out.it (fun _ h => .inl h), HF5.out.kp⟩
          | true =>
           go_wp2_with (first | (refine store_event ?hg ?hd (W1 := w9.setCell ⟨b8, 4, none⟩ (.int .i64 zi)) ?hr ?_; (case hd => rfl); (case hg => rfl); (case hr => exact Z11); intro w10 hw; have HF4 := ab (HF3.out.set8 HI.out 4 _ rfl hw); clear hw HF3 n78 n87 n28 n27 q_0 qf_0 q_1 qf_1 q_2 qf_2 q_3 qf_3 q_4 qf_4 q_5 qf_5 r_0 rf_0 r_1 rf_1 r_2 rf_2 r_3 rf_3 r_4 rf_4 r_5 rf_5 s_0 sf_0 s_1 sf_1 s_2 sf_2 s_3 sf_3 s_4 sf_4 s_5 sf_5; obtain ⟨r_0, r_1, r_2, r_3, r_4, r_5, rf_0, rf_1, rf_2, rf_3, rf_4, rf_5⟩ := cz6 HF4.out.z7; obtain ⟨s_0, s_1, s_2, s_3, s_4, s_5, sf_0, sf_1, sf_2, sf_3, sf_4, sf_5⟩ := cz6 HF4.out.z8) | ((with_reducible refine gate_dst (N := 154) rfl ?_); obtain ⟨fn, hf1, hf2, hf3⟩ := HFN.out; refine goesV_ (some 154) rfl rfl hf1 hf2 hf3 (#[GR.v ⟨3, S, ks, 0, zk, none, 0, 0⟩, GR.v ⟨g0, g1, g2, g3, zi, g5, g6, g7⟩] ++ caps) rfl rfl Z25 ?_; refine (HI.out.call ⟨3, S, ks, 0, zk, none, 0, 0⟩ ⟨g0, g1, g2, g3, zi, g5, g6, g7⟩ HF4.out.it (by have := HM.out.2.2.2.2.2.2; omega)).mono ?_; rintro e w11 ⟨he, hit, hkp⟩; rw [HCB.out] at he; subst he; refine ⟨_, rfl, ?_⟩; have HF5 := ab (HF4.out.called hit hkp); clear hit hkp HF4 hf1 hf2 hf3 r_0 rf_0 r_1 rf_1 r_2 rf_2 r_3 rf_3 r_4 rf_4 r_5 rf_5 s_0 sf_0 s_1 sf_1 s_2 sf_2 s_3 sf_3 s_4 sf_4 s_5 sf_5))
           go_roundg gK
           case measure => exact Nat.lt_succ_self gK
           case rel => exact ⟨_, _, e1 + 1, _, _, _, l1 ++ [(⟨3, S, ks, 0, zk, none, 0, 0⟩, ⟨g0, g1, g2, g3, zi, g5, g6, g7⟩)], l, _, _, _, _, _, _, _, _, rfl, rfl, ⟨hzj.out, by have := HM.out.2.1; have := HG.out.1; have := HX2.out; have := HJ.out.2.1; omega, by have := HJ.out.2.2.1; omega, HJ.out.2.2.2.2, trivial, HM.out.2.2.2.2.2.more (HJ.out.2.2.2.1 zi zk) HCB.out⟩, HF5⟩
   ·have c1 : decide (x6 < (R.size : Int)) = false := af hlt
    have hrest := HM.out.2.2.2.1.over (by have := HM.out.1; omega)
    subst hrest
    go_wp2_with (fail)
    refine bodyPost_ret (results_list (rs := []) rfl (by simp) .nil) rfl ?_
    exact ⟨rfl, l1, HM.out.2.2.2.2.2.done, HI.out.less HF.out.it (fun _ h => .inl h), HF.out.kp⟩
end
section
attribute [local go_sem] run_store_float max2_int min2_int max_two min_two max_three min_three max_four min_four
set_option linter.unusedVariables false
set_option linter.unusedSimpArgs false
set_option maxRecDepth 100000
set_option maxHeartbeats 8000000
theorem feach_leaf {F : FuncId} {caps : Array Value} {cont : Nat → Bool} {It : (Nat → Prop) → List (GR × GR) → World → Prop} (hI : Iter F caps cont It) (ty : Int) (R ts : ByteArray) (tn : Nat) (A : Nat → Prop) (w : World)
  (hIt : It A [] w) (hWA : ∀ k, A k → k < w.heap.size) (hr : 0 < R.size) (h5 : ty ≠ 5) :
  Calls Tryz.prog 22 #[.agg #[.int .i64 ty, .string R, .string ts, .float .f64 tn, .int .i64 0, .slice none 0 0], .func (.func F) #[] caps] w (FePost cont It A [fun x => x = (⟨0, ⟨#[]⟩, ⟨#[]⟩, 0, 0, none, 0, 0⟩, ⟨ty, R, ts, tn, 0, none, 0, 0⟩)] w) := by
 have HI := ab hI
 have HIt := ab hIt
 have HWA := ab hWA
 have HR := ab hr
 have HB0 := ab (Below.refl w.heap.size w)
 have c5 : (ty != 5) = true := aj h5
 have HFN := ab hI.fn
 clear hI hIt hWA hr h5
 go_enter Tryz.func22, Tryz.ntmps22
 go_wp2_with (first | (refine aw 2 #[.int .i64 ty, .string R, .string ts, .float .f64 tn, .int .i64 0, .slice none 0 0] 55 ?_; intro b2 hg w1 hz hb; have HB := ab (below_step HB0.out hb); have Z2 := ab hz; have p_0 : w1.cell? ⟨b2, 0, none⟩ = some (.int .i64 ty) := (ax hz 0); have pf_0 := blk_frozen hz 0; have p_1 : w1.cell? ⟨b2, 1, none⟩ = some (.string R) := (ax hz 1); have p_2 : w1.cell? ⟨b2, 2, none⟩ = some (.string ts) := (ax hz 2); have p_3 : w1.cell? ⟨b2, 3, none⟩ = some (.float .f64 tn) := (ax hz 3); have p_4 : w1.cell? ⟨b2, 4, none⟩ = some (.int .i64 0) := (ax hz 4); have p_5 : w1.cell? ⟨b2, 5, none⟩ = some (.slice none 0 0) := (ax hz 5); clear hb hz hg) | ((with_reducible refine gate_callee (f := 47) rfl ?_); refine goesL_ (some 16) rfl rfl Tryz.func47 (by kernel_rfl) rfl #[.agg #[.int .i64 ty, .string R, .string ts, .float .f64 tn, .int .i64 0, .slice none 0 0]] rfl Z25 ?_; (with_reducible refine (exists_raw ty R ts tn 0 (.slice none 0 0) _ HR.out).mono ?_); rintro e w2 ⟨rfl, hb⟩; refine ⟨_, rfl, ?_⟩; have HB1 := ab (below_step HB.out hb); have Z21 := ab (blk_below Z2.out hb); clear HB Z2 hb p_0 p_1 p_2 p_3 p_4 p_5 pf_0; have q_0 : w2.cell? ⟨b2, 0, none⟩ = some (.int .i64 ty) := (ax Z21.out 0); have qf_0 := blk_frozen Z21.out 0; have q_1 : w2.cell? ⟨b2, 1, none⟩ = some (.string R) := (ax Z21.out 1); have q_2 : w2.cell? ⟨b2, 2, none⟩ = some (.string ts) := (ax Z21.out 2); have q_3 : w2.cell? ⟨b2, 3, none⟩ = some (.float .f64 tn) := (ax Z21.out 3); have q_4 : w2.cell? ⟨b2, 4, none⟩ = some (.int .i64 0) := (ax Z21.out 4); have q_5 : w2.cell? ⟨b2, 5, none⟩ = some (.slice none 0 0) := (ax Z21.out 5)) | ((with_reducible refine gate_dst (N := 24) rfl ?_); obtain ⟨fn, hf1, hf2, hf3⟩ := HFN.out; refine goesV_ (some 24) rfl rfl hf1 hf2 hf3 (#[GR.v ⟨0, ⟨#[]⟩, ⟨#[]⟩, 0, 0, none, 0, 0⟩, GR.v ⟨ty, R, ts, tn, 0, none, 0, 0⟩] ++ caps) rfl rfl Z25 ?_; refine (HI.out.call ⟨0, ⟨#[]⟩, ⟨#[]⟩, 0, 0, none, 0, 0⟩ ⟨ty, R, ts, tn, 0, none, 0, 0⟩ (HI.out.less (HI.out.grow HIt.out HB1.out) (fun _ h => .inl h)) (Nat.zero_le _)).mono ?_; rintro e w11 ⟨he, hit, hkp⟩; subst he; refine ⟨_, rfl, ?_⟩))
 refine bodyPost_ret (results_list (rs := []) rfl (by simp) .nil) rfl ?_
 refine ⟨rfl, _, ?_, hit, (Kp.of_below HB1.out).trans hkp⟩
 show Told cont 0 [_] [_]
 cases hc : cont 1 with
 | false => exact .stop _ _ _ _ rfl hc
 | true => exact .more _ _ _ _ _ rfl hc (.done _)
def Lies (R : ByteArray) (ps : List (GR × GR → Prop)) : Prop := (at_ R 0 = 91 ∧ ∃ qs, ALay R 1 qs ∧ qs.length ≤ 1000000 ∧ ps = qs.map OnVal) ∨ (at_ R 0 = 123 ∧ OLay R 1 ps ∧ ps.length ≤ 1000000)
theorem feach_calls {F : FuncId} {caps : Array Value} {cont : Nat → Bool} {It : (Nat → Prop) → List (GR × GR) → World → Prop} (hI : Iter F caps cont It) (R ts : ByteArray) (tn : Nat) (ti : Int) (A : Nat → Prop) (w W0 : World)
  (hIt : It A [] w) (hW : Wok W0) (hWB : Below W0.heap.size W0 w) (hWA : ∀ k, k < W0.heap.size → A k) (hs : R.size ≤ 1000000) (hr : 0 < R.size) (ps : List (GR × GR → Prop)) (hL : Lies R ps) :
  Calls Tryz.prog 22 #[.agg #[.int .i64 5, .string R, .string ts, .float .f64 tn, .int .i64 ti, .slice none 0 0], .func (.func F) #[] caps] w (FePost cont It A ps w) := by
 rcases hL with ⟨hh, qs, hL, hq, rfl⟩ | ⟨hh, hL, hq⟩
 ·exact feach_arr hI R ts tn ti A w W0 hIt hW hWB hWA hs hr hh qs hL hq
 ·exact feach_obj hI R ts tn ti A w W0 hIt hW hWB hWA hs hr hh ps hL hq
def Tells (ty : Int) (R ts : ByteArray) (tn : Nat) (ps : List (GR × GR → Prop)) : Prop := (ty = 5 ∧ Lies R ps) ∨ (ty ≠ 5 ∧ ps = [fun x => x = (⟨0, ⟨#[]⟩, ⟨#[]⟩, 0, 0, none, 0, 0⟩, ⟨ty, R, ts, tn, 0, none, 0, 0⟩)])
theorem each_calls (ty : Int) (R ts : ByteArray) (tn : Nat) (stop : Int) (ps : List (GR × GR → Prop)) (w : World) (hW : Wok w) (hs : R.size ≤ 1000000) (hr : 0 < R.size) (hL : Tells ty R ts tn ps) :
  Calls Tryz.prog 10 #[.agg #[.int .i64 ty, .string R, .string ts, .float .f64 tn, .bool true], .int .i64 stop] w fun e w' => ∃ v : Value, ∃ L, Told (goOn stop) 0 ps L ∧ e = .returned v ∧ k41.R 41 w' w.heap.size (fun _ => True) v (L.map toS) ∧ Below w.heap.size w w' := by
 have hu34 := Tryz.underlying34
 have HB := ab (Below.refl w.heap.size w)
 have HL := ab hL
 have HW := ab hW
 have HS := ab hs
 have HR := ab hr
 clear hL hW hs hr
 go_enter Tryz.func10, Tryz.ntmps10
 go_wp2_with (first | (refine aw 2 #[.int .i64 ty, .string R, .string ts, .float .f64 tn, .bool true] 39 ?_; intro b2 hg w1 hz hb; have HB1 := ab (below_step HB.out hb); have Z2 := ab hz; clear hb hz hg) | (refine aw 3 #[.int .i64 stop] 3 ?_; intro b3 hg w2 hz hb; have HB2 := ab (below_step HB1.out hb); have Z22 := ab (blk_below Z2.out hb); have Z3 := ab hz; have G3 := ab (show w.heap.size ≤ b3 by rw [hg]; exact HB1.out.size); clear hb hz hg) | (refine aw 5 #[.slice none 0 0] 34 ?_; intro b hg w3 hz hb; have HB3 := ab (below_step HB2.out hb); have Z23 := ab (blk_below Z22.out hb); have Z33 := ab (blk_below Z3.out hb); have Z5 := ab hz; have G5 := ab (show b3 < b by have := blk_lt Z3.out; omega); have q_0 : w3.cell? ⟨b2, 0, none⟩ = some (.int .i64 ty) := (ax Z23.out 0); have q_1 : w3.cell? ⟨b2, 1, none⟩ = some (.string R) := (ax Z23.out 1); have q_2 : w3.cell? ⟨b2, 2, none⟩ = some (.string ts) := (ax Z23.out 2); have q_3 : w3.cell? ⟨b2, 3, none⟩ = some (.float .f64 tn) := (ax Z23.out 3); have q_4 : w3.cell? ⟨b2, 4, none⟩ = some (.bool true) := (ax Z23.out 4); clear hb hz hg) | ((with_reducible refine gate_callee (f := 27) rfl ?_); refine goesL_ (some 7) rfl rfl Tryz.func27 (by kernel_rfl) rfl #[.agg #[.int .i64 ty, .string R, .string ts, .float .f64 tn, .bool true]] rfl Z25 ?_; (with_reducible refine (gjOf_calls ty R ts tn true _).mono ?_); rintro e w4 ⟨rfl, hb⟩; refine ⟨_, rfl, ?_⟩; have HB4 := ab (below_step HB3.out hb); have Z34 := ab (blk_below Z33.out hb); have Z54 := ab (blk_below Z5.out hb); clear hb q_0 q_1 q_2 q_3 q_4))
 have hA0 : ∀ q, (q < w4.heap.size ∧ q ≠ b ∧ q ≠ b3) → q < w4.heap.size := fun q h => h.1
 have hI2 : Ji b b3 stop (fun q => q < w4.heap.size ∧ q ≠ b ∧ q ≠ b3) [] w4 := Ji.new Z54.out Z34.out G5.out hA0 (fun h => h.2.1 rfl) (fun h => h.2.2 rfl)
 have hfe : Calls Tryz.prog 22 #[.agg #[.int .i64 ty, .string R, .string ts, .float .f64 tn, .int .i64 0, .slice none 0 0], .func (.func 28) #[] #[.pointer (some ⟨b, 0, none⟩), .pointer (some ⟨b3, 0, none⟩)]] w4 (FePost (goOn stop) (Ji b b3 stop) (fun q => q < w4.heap.size ∧ q ≠ b ∧ q ≠ b3) ps w4) := by
  rcases HL.out with ⟨rfl, hl⟩ | ⟨h5, rfl⟩
  ·exact feach_calls (jtem_iter b b3 stop) R ts tn 0 _ w4 w hI2 HW.out HB4.out (fun q hq => ⟨Nat.lt_of_lt_of_le hq HB4.out.size, by have := G3.out; have := G5.out; omega, by have := G3.out; omega⟩) HS.out HR.out ps hl
  ·exact feach_leaf (jtem_iter b b3 stop) ty R ts tn _ w4 hI2 hA0 HR.out h5
 refine hfe.mono ?_
 rintro e w5 ⟨rfl, L, hT, ⟨hA1, hA2, v, hz, ho⟩, hk⟩
 have hc : w5.cell? ⟨b, 0, none⟩ = some v := (ax hz 0)
 obtain ⟨A1, c1, e1⟩ := Kd.R_slice ho
 subst e1
 rw [show (L.map toS).length = L.length by simp] at hc hz ho
 have HZ := ab hz
 have HO := ab ho
 have HK := ab hk
 have HT := ab hT
 clear hz ho hk hT
 go_wp2
 go_ret
 refine ⟨.slice A1 L.length c1, L, HT.out, rfl, Kd.R_mono (Kd.R_lower HO.out (show w.heap.size ≤ b + 1 by have := G3.out; have := G5.out; omega)) (fun _ _ => trivial), HB4.out.trans (HK.out.below (fun q hq => ⟨Nat.lt_of_lt_of_le hq HB4.out.size, by have := G3.out; have := G5.out; omega, by have := G3.out; omega⟩) HB4.out.size)⟩
end
section
attribute [local go_sem] run_store_float
set_option linter.unusedVariables false
set_option linter.unusedSimpArgs false
set_option maxRecDepth 100000
set_option maxHeartbeats 8000000
theorem gjparse_calls (s S raw str : ByteArray) (b : Nat) (v ty : Int) (w : World) (hW : Wok w) (hs : s.size ≤ 1000000) (hb : b < s.size) (hv : at_ s b = v) (hS : s.extract b s.size = S) (hbl : ∀ q, q < b → at_ s q ≤ 32) (hL : Leaf s S b v ty raw str) (hr : 0 < raw.size) :
  Calls Tryz.prog 11 #[.string s] w fun e w' => ∃ f : Nat, e = .returned (.agg #[.int .i64 ty, .string raw, .string str, .float .f64 f, .bool true]) ∧ Below w.heap.size w w' := by
 have HX := ab (fun (w1 : World) (h : Below w.heap.size w w1) => parse_calls s S raw str b v ty w1 (hW.below h) hs hb hv hS hbl hL hr)
 have HB := ab (Below.refl w.heap.size w)
 have hex : (gjS ⟨ty, raw, str, 0, 0, none, 0, 0⟩).f4 = true := by
  unfold gjS
  split
  ·exact aj (by show (raw.size : Int) ≠ 0; omega)
  ·rfl
 have HE := ab hex
 have hu39 := Tryz.underlying39
 clear hW hs hb hv hS hbl hL hr hex
 go_enter Tryz.func11, Tryz.ntmps11
 go_wp2_with (first | (refine aw 2 #[.int .i64 0, .string (⟨#[]⟩ : ByteArray), .string (⟨#[]⟩ : ByteArray), .float .f64 (0 : Nat), .bool false] 39 ?_; intro b2 hg w1 hz hb; have HB1 := ab (below_step HB.out hb); have Z2 := ab hz; have G2 := ab (Nat.le_of_eq hg.symm); clear hb hz hg) | ((with_reducible refine gate_callee (f := 21) rfl ?_); refine goesL_ (some 4) rfl rfl Tryz.func21 (by kernel_rfl) rfl #[.string s] rfl Z25 ?_; refine (HX.out _ HB1.out).mono ?_; rintro e w2 ⟨f, j, rfl, hb⟩; refine ⟨_, rfl, ?_⟩; have HB2 := ab (below_step HB1.out hb); have Z22 := ab (blk_below Z2.out hb); clear hb) | ((with_reducible refine gate_callee (f := 24) rfl ?_); refine goesL_ (some 5) rfl rfl Tryz.func24 (by kernel_rfl) rfl #[.agg #[.int .i64 ty, .string raw, .string str, .float .f64 f, .int .i64 j, .slice none 0 0]] rfl Z25 ?_; refine (gj_calls ⟨ty, raw, str, f, j, none, 0, 0⟩ _).mono ?_; rintro e w3 ⟨he, hb⟩; obtain rfl : e = .returned (.agg #[.int .i64 ty, .string raw, .string str, .float .f64 f, .bool true]) := he.trans (by rw [show (gjS ⟨ty, raw, str, f, j, none, 0, 0⟩).f4 = true from HE.out]; rfl); refine ⟨_, rfl, ?_⟩; have HB3 := ab (below_step HB2.out hb); have Z23 := ab (blk_below Z22.out hb); clear hb; have s_0 : w3.cell? ⟨b2, 0, none⟩ = some (.int .i64 0) := (ax Z23.out 0); have sf_0 := blk_frozen Z23.out 0; have s_1 : w3.cell? ⟨b2, 1, none⟩ = some (.string (⟨#[]⟩ : ByteArray)) := (ax Z23.out 1); have sf_1 := blk_frozen Z23.out 1; have s_2 : w3.cell? ⟨b2, 2, none⟩ = some (.string (⟨#[]⟩ : ByteArray)) := (ax Z23.out 2); have sf_2 := blk_frozen Z23.out 2; have s_3 : w3.cell? ⟨b2, 3, none⟩ = some (.float .f64 (0 : Nat)) := (ax Z23.out 3); have sf_3 := blk_frozen Z23.out 3; have s_4 : w3.cell? ⟨b2, 4, none⟩ = some (.bool false) := (ax Z23.out 4); have sf_4 := blk_frozen Z23.out 4))
 refine bodyPost_ret (results_cell_row rfl _ _ b2 39 #[.int .i64 ty, .string raw, .string str, .float .f64 f, .bool true] (0, 0) _ rfl (blk_put (blk_put (blk_put (blk_put (blk_put Z23.out 0 _ rfl) 1 _ rfl) 2 _ rfl) 3 _ rfl) 4 _ rfl) Tryz.underlying39 rfl (by kernel_rfl)) rfl ?_
 exact ⟨f, rfl, below_set (below_set (below_set (below_set (below_set HB3.out G2.out) G2.out) G2.out) G2.out) G2.out⟩
end
section
set_option linter.unusedVariables false
set_option linter.unusedSimpArgs false
theorem blank_skip {c : Int} (h : isBlank c) : Skip c := by unfold isBlank at h; unfold Skip; omega
theorem blank_stop {c : Int} (h : isBlank c) : NumStop c := by unfold isBlank at h; unfold NumStop; omega
def Rest (s : ByteArray) (j : Int) : Prop := ∀ q, j ≤ q → q < s.size → isBlank (bt s q)
section
variable {s : ByteArray} (hn : Small s) (hsz : s.size ≤ 65536) (D : Nat) (b0 : Nat)
include hn hsz
theorem alay_end {r : Int} {i0 : Nat} (hr0 : (b0 : Int) ≤ r) (hr : r < s.size) (hc : bt s r = 93 ∨ bt s r = 125) (hrest : Rest s (r + 1)) (hi : (b0 : Int) + i0 ≤ r + 1) (hsk : ∀ q : Int, (b0 : Int) + i0 ≤ q → q < r → isBlank (bt s q)) : ALay (s.extract b0 s.size) i0 [] := by
 have hbs : b0 ≤ s.size := by omega
 have hR : (s.extract b0 s.size).size ≤ 1000000 := by rw [sz_sh]; omega
 by_cases h : (b0 : Int) + i0 ≤ r
 ·refine .last i0 (r.toNat - b0) (by omega) (by rw [sz_sh]; omega) (fun q a b => ?_) (fun _ => ?_) (pa_none hR (by rw [sz_sh]; omega) (fun q a b => ?_))
  ·rw [at_sh hbs]
   exact blank_skip (hsk _ (by omega) (by omega))
  ·rw [at_sh hbs]
   have : at_ s (b0 + (r.toNat - b0)) = bt s r := by unfold at_; congr 1; omega
   rw [this]
   unfold Skip
   omega
  ·rw [at_sh hbs]
   rw [sz_sh] at b
   by_cases hq : (b0 : Int) + q = r
   ·have : at_ s (b0 + q) = bt s r := by unfold at_; congr 1
    omega
   ·have := hrest ((b0 + q : Nat) : Int) (by omega) (by omega)
    unfold isBlank at this
    unfold at_
    omega
 ·refine .last i0 (s.extract b0 s.size).size (by rw [sz_sh]; omega) (Nat.le_refl _) (fun q a b => ?_) (fun h => absurd h (by omega)) (pa_none hR (Nat.le_refl _) (fun q a b => absurd b (by omega)))
  rw [at_sh hbs]
  rw [sz_sh] at b
  exact blank_skip (hrest _ (by omega) (by omega))
theorem kids_alay {ks : List S31} {i j : Int} (h : Sp.Kids (aA.at_ D) s ks i j) : ∀ i0 : Nat, (b0 : Int) + i0 ≤ i → (∀ q : Int, (b0 : Int) + i0 ≤ q → q < i → Skip (bt s q)) → PairedAt s i → Rest s j →
  ALay (s.extract b0 s.size) i0 (ks.map (GjV s)) := by
 induction h with
 | last p i r h1 h2 h3 h4 h5 h6 =>
  intro i0 hi hsk hp hrest
  subst h2
  have hbl := h4.1
  have hst : NumStop (bt s p.f2) := by
   by_cases h : p.f2 = r
   ·rw [h, h6]; unfold NumStop; omega
   ·exact blank_stop (h4.2.2 _ (by omega) (by omega))
  obtain ⟨hP, hf, hpp⟩ := value_pa hn hsz D p b0 h1 (by omega) hp h3 (by omega) hst
  have h0 := h1.1
  have hbs : b0 ≤ s.size := by omega
  refine .item i0 (p.f1.toNat - b0) (p.f2.toNat - b0) _ _ (by omega) (by omega) (by rw [sz_sh]; omega) (fun q a b => ?_) ?_ ?_ ?_
  ·rw [at_sh hbs]; exact hsk _ (by omega) (by omega)
  ·rw [at_sh hbs]
   have : at_ s (b0 + (p.f1.toNat - b0)) = bt s p.f1 := by unfold at_; congr 1; omega
   rw [this]; exact hf
  ·rw [show ((p.f1.toNat - b0 : Nat) : Int) = p.f1 - b0 by omega]
   exact hP.mono fun ok jj g ⟨a1, a2, a3⟩ => ⟨a1, by omega, a3.idx⟩
  ·exact alay_end hn hsz b0 (by omega) h5 (.inl h6) hrest (by omega) (fun q a b => h4.2.2 q (by omega) b)
 | more p i r t j ks h1 h2 h3 h4 h5 h6 h7 h8 ih =>
  intro i0 hi hsk hp hrest
  subst h2
  have hbl := h4.1
  have hst : NumStop (bt s p.f2) := by
   by_cases h : p.f2 = r
   ·rw [h, h6]; unfold NumStop; omega
   ·exact blank_stop (h4.2.2 _ (by omega) (by omega))
  obtain ⟨hP, hf, hpp⟩ := value_pa hn hsz D p b0 h1 (by omega) hp h3 (by omega) hst
  have h0 := h1.1
  have hbs : b0 ≤ s.size := by omega
  have ht := h7.1
  refine .item i0 (p.f1.toNat - b0) (p.f2.toNat - b0) _ _ (by omega) (by omega) (by rw [sz_sh]; omega) (fun q a b => ?_) ?_ ?_ ?_
  ·rw [at_sh hbs]; exact hsk _ (by omega) (by omega)
  ·rw [at_sh hbs]
   have : at_ s (b0 + (p.f1.toNat - b0)) = bt s p.f1 := by unfold at_; congr 1; omega
   rw [this]; exact hf
  ·rw [show ((p.f1.toNat - b0 : Nat) : Int) = p.f1 - b0 by omega]
   exact hP.mono fun ok jj g ⟨a1, a2, a3⟩ => ⟨a1, by omega, a3.idx⟩
  ·refine ih _ (by omega) (fun q a b => ?_) ?_ hrest
   ·by_cases hq : q < r
    ·exact blank_skip (h4.2.2 q (by omega) hq)
    ·by_cases hq2 : q = r
     ·rw [hq2, h6]; unfold Skip; omega
     ·exact blank_skip (h7.2.2 q (by omega) b)
   ·have p1 := (h4.lex (by omega)).paired hn hpp
    have p2 := PairedAt.plain hn p1 (by omega) h5 (by omega)
    exact (h7.lex (by omega)).paired hn p2
omit hn hsz in
theorem olay_end {r : Int} {i0 : Nat} (hr0 : (b0 : Int) ≤ r) (hr : r < s.size) (hc : bt s r = 93 ∨ bt s r = 125) (hrest : Rest s (r + 1)) (hi : (b0 : Int) + i0 ≤ r + 1) (hsk : ∀ q : Int, (b0 : Int) + i0 ≤ q → q < r → isBlank (bt s q)) : OLay (s.extract b0 s.size) i0 [] := by
 refine .end_ i0 (fun q a b => ?_)
 rw [at_sh (by omega)]
 rw [sz_sh] at b
 unfold at_
 by_cases h1 : (b0 : Int) + q < r
 ·have := hsk ((b0 + q : Nat) : Int) (by omega) (by omega)
  unfold isBlank at this
  omega
 ·by_cases h2 : ((b0 + q : Nat) : Int) = r
  ·rw [h2]; omega
  ·have := hrest ((b0 + q : Nat) : Int) (by omega) (by omega)
   unfold isBlank at this
   omega
def ItemOK (s : ByteArray) (x : S93 × S31) (y : GR × GR) : Prop := (∃ k, bA.f k (s.extract x.1.f0.toNat x.1.f1.toNat) = some y.1.str) ∧ GjV s x.2 y.2 ∧ y.1.ty = 3 ∧ y.1.raw = s.extract x.1.f0.toNat x.1.f1.toNat
theorem ks_of {i j : Int} (h0 : 0 ≤ i) (hb : (b0 : Int) ≤ i) (h : StrSeg (bytesOf s) i j) (hp : PairedAt s i) (hj : j ≤ s.size) : ∃ o k, KS (s.extract b0 s.size) (i.toNat - b0) (j.toNat - 1 - b0) (strOfNums o) ∧ bA.f k (s.extract i.toNat j.toNat) = some (strOfNums o) ∧ PairedAt s j := by
 obtain ⟨o, hI, hpp, k, hu⟩ := seg_unq hn h0 h hp
 have hlt := h.2.1
 have hbs : b0 ≤ s.size := by omega
 have hR : (s.extract b0 s.size).size ≤ 1000000 := by rw [sz_sh]; omega
 obtain ⟨i, rfl⟩ : ∃ n : Nat, i = n := ⟨i.toNat, by omega⟩
 obtain ⟨j, rfl⟩ : ∃ n : Nat, j = n := ⟨j.toNat, by omega⟩
 have hA := str_at h (bytesOf_length s)
 have hA' : StrAt s (b0 + (i - b0)) (b0 + (j - 1 - b0)) := by rw [show b0 + (i - b0) = i by omega, show b0 + (j - 1 - b0) = j - 1 by omega]; exact hA
 have hS := hA'.sh hbs
 have hI' : Inner ((s.extract b0 s.size).extract (i - b0 + 1) (j - 1 - b0)) 0 o := by
  rw [show i - b0 + 1 = (i + 1) - b0 by omega, ext_sh (by omega) (by omega) (by omega)]
  exact hI
 refine ⟨o, k, ⟨hS.lt, hS.le, ?_⟩, hu, hpp⟩
 obtain ⟨k2, vesc, hps, hno⟩ := ps_tells hS hR
 refine ⟨vesc, fun w => (aH.calls _ _ _ _ _ _ _ _ hps).mono fun e w' ⟨a, b⟩ => ⟨a, b.below⟩, fun _ w => unescape_calls _ o w (by rw [ByteArray.size_extract, ByteArray.size_extract]; omega) hI', fun hv => ?_⟩
 refine (inner_plain (fun q a b => ?_) hI').symm
 have hle := hS.le
 have hlt2 := hS.lt
 have hn := hno hv (i - b0 + 1 + q.toNat) (by omega)
 rw [ByteArray.size_extract] at b
 have := hn (by omega)
 rw [show q = ((q.toNat : Nat) : Int) by omega, bt_ext (by omega) (by omega) (by omega)]
 have e1 : (((i - b0 + 1 : Nat) : Int) + ((q.toNat : Nat) : Int)) = ((i - b0 + 1 + q.toNat : Nat) : Int) := by omega
 rw [e1]
 exact this
theorem mems_olay {ns : List S93} {ks : List S31} {i j : Int} (h : Sp.Mems (aA.at_ D) s ns ks i j) : ∀ i0 : Nat, 0 ≤ i → (b0 : Int) + i0 ≤ i → (∀ q : Int, (b0 : Int) + i0 ≤ q → q < i → bt s q ≠ 34) → PairedAt s i → Rest s j →
  OLay (s.extract b0 s.size) i0 ((ns.zip ks).map (ItemOK s)) := by
 induction h with
 | last nm p i c r h1 h2 h3 h4 h5 h6 h7 h8 h9 h10 h11 =>
  intro i0 hi0 hi hsk hp hrest
  have hbl := h9.1
  have hb3 := h3.1
  have hb6 := h6.1
  have hlt := h2.2.1
  have h0 := h7.1
  obtain ⟨o, k, hK, hu, hp1⟩ := ks_of hn hsz b0 hi0 (by omega) h2 hp (by omega)
  have hp2 := PairedAt.plain hn ((h3.lex (by omega)).paired hn hp1) (by omega) h4 (by omega)
  have hp3 := (h6.lex (by omega)).paired hn hp2
  have hst : NumStop (bt s p.f2) := by
   by_cases h : p.f2 = r
   ·rw [h, h11]; unfold NumStop; omega
   ·exact blank_stop (h9.2.2 _ (by omega) (by omega))
  obtain ⟨hP, hf, hpp⟩ := value_pa hn hsz D p b0 h7 (by omega) hp3 h8 (by omega) hst
  have hbs : b0 ≤ s.size := by omega
  have hq := h2.1
  rw [rd_bytesOf] at hq
  refine .item i0 (i.toNat - b0) (nm.f1.toNat - 1 - b0) (p.f1.toNat - b0) (p.f2.toNat - b0) (strOfNums o) _ (GjV s p) _ (by omega) (fun q a b => ?_) ?_ hK (by omega) (by omega) (by rw [sz_sh]; omega) (fun q a b => ?_) ?_ ?_ (fun zk v hv => ?_) ?_
  ·rw [at_sh hbs]; exact hsk _ (by omega) (by omega)
  ·rw [at_sh hbs, show b0 + (i.toNat - b0) = i.toNat by omega]
   unfold at_
   rw [show ((i.toNat : Nat) : Int) = i by omega]
   exact hq
  ·rw [at_sh hbs]
   unfold at_
   by_cases hq1 : ((b0 + q : Nat) : Int) < c
   ·exact blank_skip (h3.2.2 _ (by omega) hq1)
   ·by_cases hq2 : ((b0 + q : Nat) : Int) = c
    ·rw [hq2, h5]; unfold Skip; omega
    ·exact blank_skip (h6.2.2 _ (by omega) (by omega))
  ·rw [at_sh hbs]
   have : at_ s (b0 + (p.f1.toNat - b0)) = bt s p.f1 := by unfold at_; congr 1; omega
   rw [this]; exact hf
  ·rw [show ((p.f1.toNat - b0 : Nat) : Int) = p.f1 - b0 by omega]
   exact hP.mono fun ok jj g ⟨a1, a2, a3⟩ => ⟨a1, by omega, a3.idx⟩
  ·exact ⟨⟨k, by simp only [h1]; exact hu⟩, hv, rfl, by show (s.extract b0 s.size).extract _ _ = _; rw [show nm.f1.toNat - 1 - b0 + 1 = nm.f1.toNat - b0 by omega, ext_sh (by omega) (by omega) (by omega), h1]⟩
  ·exact olay_end b0 (by omega) h10 (.inr h11) hrest (by omega) (fun q a b => h9.2.2 q (by omega) b)
 | more nm p i c r t j ns ks h1 h2 h3 h4 h5 h6 h7 h8 h9 h10 h11 h12 h13 ih =>
  intro i0 hi0 hi hsk hp hrest
  have hbl := h9.1
  have hb3 := h3.1
  have hb6 := h6.1
  have ht := h12.1
  have hlt := h2.2.1
  have h0 := h7.1
  obtain ⟨o, k, hK, hu, hp1⟩ := ks_of hn hsz b0 hi0 (by omega) h2 hp (by omega)
  have hp2 := PairedAt.plain hn ((h3.lex (by omega)).paired hn hp1) (by omega) h4 (by omega)
  have hp3 := (h6.lex (by omega)).paired hn hp2
  have hst : NumStop (bt s p.f2) := by
   by_cases h : p.f2 = r
   ·rw [h, h11]; unfold NumStop; omega
   ·exact blank_stop (h9.2.2 _ (by omega) (by omega))
  obtain ⟨hP, hf, hpp⟩ := value_pa hn hsz D p b0 h7 (by omega) hp3 h8 (by omega) hst
  have hbs : b0 ≤ s.size := by omega
  have hq := h2.1
  rw [rd_bytesOf] at hq
  refine .item i0 (i.toNat - b0) (nm.f1.toNat - 1 - b0) (p.f1.toNat - b0) (p.f2.toNat - b0) (strOfNums o) _ (GjV s p) _ (by omega) (fun q a b => ?_) ?_ hK (by omega) (by omega) (by rw [sz_sh]; omega) (fun q a b => ?_) ?_ ?_ (fun zk v hv => ?_) ?_
  ·rw [at_sh hbs]; exact hsk _ (by omega) (by omega)
  ·rw [at_sh hbs, show b0 + (i.toNat - b0) = i.toNat by omega]
   unfold at_
   rw [show ((i.toNat : Nat) : Int) = i by omega]
   exact hq
  ·rw [at_sh hbs]
   unfold at_
   by_cases hq1 : ((b0 + q : Nat) : Int) < c
   ·exact blank_skip (h3.2.2 _ (by omega) hq1)
   ·by_cases hq2 : ((b0 + q : Nat) : Int) = c
    ·rw [hq2, h5]; unfold Skip; omega
    ·exact blank_skip (h6.2.2 _ (by omega) (by omega))
  ·rw [at_sh hbs]
   have : at_ s (b0 + (p.f1.toNat - b0)) = bt s p.f1 := by unfold at_; congr 1; omega
   rw [this]; exact hf
  ·rw [show ((p.f1.toNat - b0 : Nat) : Int) = p.f1 - b0 by omega]
   exact hP.mono fun ok jj g ⟨a1, a2, a3⟩ => ⟨a1, by omega, a3.idx⟩
  ·exact ⟨⟨k, by simp only [h1]; exact hu⟩, hv, rfl, by show (s.extract b0 s.size).extract _ _ = _; rw [show nm.f1.toNat - 1 - b0 + 1 = nm.f1.toNat - b0 by omega, ext_sh (by omega) (by omega) (by omega), h1]⟩
  ·refine ih _ (by omega) (by omega) (fun q a b => ?_) ?_ hrest
   ·by_cases hq : q < r
    ·have := h9.2.2 q (by omega) hq
     unfold isBlank at this
     omega
    ·by_cases hq2 : q = r
     ·rw [hq2]; omega
     ·have := h12.2.2 q (by omega) b
      unfold isBlank at this
      omega
   ·have p1 := (h9.lex (by omega)).paired hn hpp
    have p2 := PairedAt.plain hn p1 (by omega) h10 (by omega)
    exact (h12.lex (by omega)).paired hn p2
end
end
section
open Go.RowKit Go.PW Sp
set_option linter.unusedVariables false
set_option linter.unusedSimpArgs false
section
variable {s : ByteArray} (hn : Small s)
include hn
theorem char_l {i x8 : Int} (x9 : Int) (h0 : 0 ≤ i) (h8 : 1 ≤ x8 ∧ x8 ≤ 3) (h1 : i + x8 < s.size) : ∀ (d k : Nat) (x7 x10 : Int), x8 + 1 - x10 = d → 1 ≤ x10 → d + 1 ≤ k → ∃ c n ok, aX.l0 k s i x7 x8 x9 x10 = some (c, n, ok) ∧ (ok = true → 1 ≤ n ∧ i + n ≤ s.size)
 | d, 0, x7, x10, hd, h10, hk => by omega
 | d, k + 1, x7, x10, hd, h10, hk => by
  simp only [aX.l0]
  by_cases h : x10 ≤ x8
  ·rw [if_pos h, w64 (x := i + x10) (by omega) (by omega), if_pos (by omega), if_pos (by omega)]
   by_cases ha : wrap64 (bt s (i + x10)) < 128
   ·rw [if_pos ha]; exact ⟨_, _, _, rfl, by simp⟩
   ·rw [if_neg ha]
    by_cases hb : wrap64 (bt s (i + x10)) > 191
    ·rw [if_pos hb]; exact ⟨_, _, _, rfl, by simp⟩
    ·rw [if_neg hb, w64 (x := x10 + 1) (by omega) (by omega)]
     obtain ⟨d', rfl⟩ : ∃ d', d = d' + 1 := ⟨d - 1, by omega⟩
     exact char_l x9 h0 h8 h1 d' k _ _ (by omega) (by omega) (by omega)
  ·rw [if_neg h]
   by_cases ha : x7 < x9
   ·rw [if_pos ha]; exact ⟨_, _, _, rfl, by simp⟩
   ·rw [if_neg ha]
    by_cases hb : x7 > 1114111
    ·rw [if_pos hb]; exact ⟨_, _, _, rfl, by simp⟩
    ·rw [if_neg hb, high_eq, low_eq]
     simp only [al]
     by_cases hc : decide (High x7) = true
     ·rw [if_pos hc]; exact ⟨_, _, _, rfl, by simp⟩
     ·rw [if_neg hc]
      by_cases hd2 : decide (Low x7) = true
      ·rw [if_pos hd2]; exact ⟨_, _, _, rfl, by simp⟩
      ·rw [if_neg hd2, w64 (x := x8 + 1) (by omega) (by omega)]
       exact ⟨_, _, _, rfl, fun _ => by omega⟩
theorem char_j2 {i x8 : Int} (x7 x9 : Int) (h0 : 0 ≤ i) (hi : i ≤ s.size) (h8 : 1 ≤ x8 ∧ x8 ≤ 3) (k : Nat) (hk : 6 ≤ k) : ∃ c n ok, aX.j2 k s i x7 x8 x9 = some (c, n, ok) ∧ (ok = true → 1 ≤ n ∧ i + n ≤ s.size) := by
 obtain ⟨k, rfl⟩ : ∃ k', k = k' + 1 := ⟨k - 1, by omega⟩
 simp only [aX.j2]
 rw [w64 (x := (s.size : Int) - i) (by omega) (by omega)]
 by_cases h : (s.size : Int) - i ≤ x8
 ·rw [if_pos h]; exact ⟨_, _, _, rfl, by simp⟩
 ·rw [if_neg h]
  exact char_l hn x9 h0 h8 (by omega) x8.toNat k x7 1 (by omega) (by omega) (by omega)
theorem char_tot {i : Int} (h0 : 0 ≤ i) (hi : i < s.size) (k : Nat) (hk : 8 ≤ k) : ∃ c n ok, aX.f k s i = some (c, n, ok) ∧ (ok = true → 1 ≤ n ∧ i + n ≤ s.size) := by
 unfold aX.f
 rw [if_pos h0, if_pos hi]
 by_cases h : wrap64 (bt s i) < 128
 ·rw [if_pos h]; exact ⟨_, _, _, rfl, fun _ => by omega⟩
 ·rw [if_neg h]
  have hj1 : ∀ x b, ∃ c n ok, aX.j1 (k - 1) s i x b = some (c, n, ok) ∧ (ok = true → 1 ≤ n ∧ i + n ≤ s.size) := by
   intro x b
   obtain ⟨k, rfl⟩ : ∃ k', k = k' + 2 := ⟨k - 2, by omega⟩
   show ∃ c n ok, aX.j1 (k + 1) s i x b = some (c, n, ok) ∧ _
   simp only [aX.j1]
   split
   ·exact char_j2 hn _ _ h0 (by omega) (by omega) k (by omega)
   ·split
    ·split
     ·exact char_j2 hn _ _ h0 (by omega) (by omega) k (by omega)
     ·exact ⟨_, _, _, rfl, by simp⟩
    ·exact ⟨_, _, _, rfl, by simp⟩
  have hj0 : ∀ x b, ∃ c n ok, aX.j0 k s i x b = some (c, n, ok) ∧ (ok = true → 1 ≤ n ∧ i + n ≤ s.size) := by
   intro x b
   obtain ⟨k, rfl⟩ : ∃ k', k = k' + 1 := ⟨k - 1, by omega⟩
   simp only [aX.j0]
   split
   ·exact char_j2 hn _ _ h0 (by omega) (by omega) k (by omega)
   ·split
    ·exact hj1 _ _
    ·exact hj1 _ _
  split
  ·exact hj0 _ _
  ·exact hj0 _ _
theorem yV : ∀ (d k : Nat) (i : Int), 0 ≤ i → i ≤ s.size → (s.size : Int) - i ≤ d → d + 10 ≤ k → ∃ b, bT.l0 k s i = some b
 | d, 0, i, _, _, _, hk => by omega
 | d, k + 1, i, h0, h1, hd, hk => by
  simp only [bT.l0]
  by_cases h : i < s.size
  ·obtain ⟨c, n, ok, e, hok⟩ := char_tot hn h0 h k (by omega)
   rw [if_pos h, e]
   simp only [al]
   cases ok with
   | false => exact ⟨false, by simp⟩
   | true =>
    have := hok rfl
    obtain ⟨d', rfl⟩ : ∃ d', d = d' + 1 := ⟨d - 1, by omega⟩
    rw [if_pos rfl, w64 (x := i + n) (by omega) (by omega)]
    exact yV d' k _ (by omega) (by omega) (by omega) (by omega)
  ·rw [if_neg h]; exact ⟨true, rfl⟩
theorem wW : ∃ K b, ∀ n, bT.f (K + n) s = some b := by
 obtain ⟨b, hb⟩ := yV hn s.size (s.size + 10) 0 (by omega) (by omega) (by omega) (by omega)
 refine ⟨s.size + 10, b, fun n => ?_⟩
 induction n with
 | zero => exact hb
 | succ n ih => exact bT.mono s (s.size + 10 + n) _ ih
end
end
section
set_option linter.unusedVariables false
set_option linter.unusedSimpArgs false
set_option maxRecDepth 100000
theorem places_inv {s : ByteArray} (hn : Small s) {D k : Nat} {kd b j : Int} {ns : List S93} {ks : List S31} (h : places (aA.at_ (D + 1)) k s = some (kd, b, j, ns, ks, true)) :
  0 ≤ b ∧ Blanks s 0 b ∧ b < j ∧ j ≤ s.size ∧ Rest s j ∧ ValO (aA.at_ (D - 1)) s kd b j ns ks ∧ VR (aA.at_ (D + 1)) s ⟨kd, b, j, ns, ks⟩ := by
 unfold places at h
 obtain ⟨⟨s1, a1⟩, h1, h⟩ := ao h
 obtain ⟨rfl, hB⟩ := blanks_inv s hn k 0 s1 a1 (by omega) (by omega) h1
 obtain ⟨⟨v1, v2, v3, v4, v5, v6, v7, v8⟩, h2, h⟩ := ao h
 simp only at h h2
 split at h
 case isFalse => cases h
 rename_i hv
 subst hv
 obtain ⟨⟨c1, c2⟩, h3, h⟩ := ao h
 simp only at h
 split at h
 case isFalse => cases h
 rename_i hc
 simp only [am, an] at h
 obtain ⟨rfl, rfl, rfl, rfl, rfl, _⟩ := h
 obtain ⟨e1, e2, e3, g1, g2, g3⟩ := value_known hn D k a1 v1 v2 v3 v4 v5 v7 v8 (by have := hB.1; omega) hB.2.1 h2
 subst e1 e2 e3
 obtain ⟨_, hB2⟩ := blanks_inv v7 hn k v8 c1 c2 (by have := hB.1; omega) g2 h3
 have hb1 := hB.1
 refine ⟨hB.1, hB, g1, g2, fun q a b => hB2.2.2 q a (by omega), g3, by show 0 ≤ v2; omega, k, h2⟩
theorem kids_len {V : aI} {s : ByteArray} {ks : List S31} {i j : Int} (h : Sp.Kids V s ks i j) : (ks.length : Int) ≤ j - i := by
 induction h with
 | last p i r h1 h2 h3 h4 h5 h6 => have := h4.1; simp; omega
 | more p i r t j ks h1 h2 h3 h4 h5 h6 h7 h8 ih => have := h4.1; have := h7.1; simp; omega
theorem mems_len {V : aI} {s : ByteArray} {ns : List S93} {ks : List S31} {i j : Int} (h : Sp.Mems V s ns ks i j) : (ks.length : Int) ≤ j - i ∧ ns.length = ks.length := by
 induction h with
 | last nm p i c r h1 h2 h3 h4 h5 h6 h7 h8 h9 h10 h11 => have := h2.2.1; have := h3.1; have := h6.1; have := h9.1; simp; omega
 | more nm p i c r t j ns ks h1 h2 h3 h4 h5 h6 h7 h8 h9 h10 h11 h12 h13 ih => have := h2.2.1; have := h3.1; have := h6.1; have := h9.1; have := h12.1; have := ih.1; have := ih.2; simp; omega
def psOf (s : ByteArray) (kd : Int) (ns : List S93) (ks : List S31) : List (GR × GR → Prop) := if kd = 5 then (ks.map (GjV s)).map OnVal else (ns.zip ks).map (ItemOK s)
theorem lies_of {s : ByteArray} (hs : s.size ≤ 65536) {D k : Nat} {kd b j : Int} {ns : List S93} {ks : List S31} (hp : PairedAt s 0) (h : places (aA.at_ (D + 1)) k s = some (kd, b, j, ns, ks, true)) (hk : kd = 5 ∨ kd = 6) :
  Lies (s.extract b.toNat s.size) (psOf s kd ns ks) ∧ (kd = 6 → ns.length = ks.length) ∧ (ks.length : Int) ≤ s.size := by
 have hn : Small s := by unfold Small; omega
 obtain ⟨h0, hB, hlt, hle, hR, hV, _⟩ := places_inv hn h
 have hpb := (hB.lex (by omega)).paired hn hp
 have hbs : b.toNat ≤ s.size := by omega
 have e0 : at_ (s.extract b.toNat s.size) 0 = bt s b := by rw [at_sh hbs]; unfold at_; congr 1; omega
 rcases hV with ⟨rfl, hc, hm⟩ | ⟨rfl, rfl, hc, hm⟩ | ⟨rfl, _⟩ | ⟨rfl, _⟩ | ⟨_, _, _, hw⟩
 ·have hp1 := PairedAt.plain hn hpb h0 (by omega) (by omega)
  refine ⟨.inr ⟨by rw [e0]; exact hc, ?_, ?_⟩, ?_, ?_⟩
  ·rw [psOf, if_neg (by omega)]
   rcases hm with ⟨rfl, rfl, p, hb, hp, hc2, rfl⟩ | ⟨p, hb, hm⟩
   ·exact olay_end b.toNat (by have := hb.1; omega) hp (.inr hc2) hR (by have := hb.1; omega) (fun q a c => hb.2.2 q (by omega) c)
   ·refine mems_olay hn hs (D - 1) b.toNat hm 1 (by have := hb.1; omega) (by have := hb.1; omega) (fun q a c => ?_) ((hb.lex (by omega)).paired hn hp1) hR
    have := hb.2.2 q (by omega) c
    unfold isBlank at this
    omega
  ·rw [psOf, if_neg (by omega), List.length_map, List.length_zip]
   rcases hm with ⟨rfl, rfl, _⟩ | ⟨p, hb, hm⟩
   ·simp
   ·have := mems_len hm; have := hb.1; omega
  ·rcases hm with ⟨rfl, rfl, _⟩ | ⟨p, hb, hm⟩
   ·exact fun _ => rfl
   ·exact fun _ => (mems_len hm).2
  ·rcases hm with ⟨rfl, rfl, _⟩ | ⟨p, hb, hm⟩
   ·simp
   ·have := mems_len hm; have := hb.1; omega
 ·have hp1 := PairedAt.plain hn hpb h0 (by omega) (by omega)
  refine ⟨.inl ⟨by rw [e0]; exact hc, ks.map (GjV s), ?_, ?_, by rw [psOf, if_pos rfl]⟩, by omega, ?_⟩
  ·rcases hm with ⟨rfl, p, hb, hp, hc2, rfl⟩ | ⟨p, hb, hm⟩
   ·exact alay_end hn hs b.toNat (by have := hb.1; omega) hp (.inl hc2) hR (by have := hb.1; omega) (fun q a c => hb.2.2 q (by omega) c)
   ·exact kids_alay hn hs (D - 1) b.toNat hm 1 (by have := hb.1; omega) (fun q a c => blank_skip (hb.2.2 q (by omega) c)) ((hb.lex (by omega)).paired hn hp1) hR
  ·rw [List.length_map]
   rcases hm with ⟨rfl, _⟩ | ⟨p, hb, hm⟩
   ·simp
   ·have := kids_len hm; have := hb.1; omega
  ·rcases hm with ⟨rfl, _⟩ | ⟨p, hb, hm⟩
   ·simp
   ·have := kids_len hm; have := hb.1; omega
 ·omega
 ·omega
 ·omega
theorem told_all {stop : Int} {n : Nat} {ps : List (GR × GR → Prop)} {L : List (GR × GR)} (h : Told (goOn stop) n ps L) : (L.length : Int) = (if 0 < stop - n ∧ stop - n < (ps.length : Int) then stop - n else (ps.length : Int)) ∧ ∀ (q : Nat) (P : GR × GR → Prop) (x : GR × GR), ps[q]? = some P → L[q]? = some x → P x := by
 induction h with
 | done n => exact ⟨by simp; omega, fun q P x h => by simp at h⟩
 | stop n P ps x h1 h2 =>
  have e : ((n + 1 : Nat) : Int) = stop := by simpa [goOn] using h2
  refine ⟨by simp only [List.length_cons, List.length_nil]; split <;> omega, fun q P' x' a b => ?_⟩
  cases q with
  | zero =>
   simp only [List.getElem?_cons_zero, am] at a b
   subst a b
   exact h1
  | succ q => simp at b
 | more n P ps x xs h1 h2 h3 ih =>
  have e : ((n + 1 : Nat) : Int) ≠ stop := by simpa [goOn] using h2
  refine ⟨by have := ih.1; simp only [List.length_cons]; split at this <;> split <;> omega, fun q P' x' a b => ?_⟩
  cases q with
  | zero =>
   simp only [List.getElem?_cons_zero, am] at a b
   subst a b
   exact h1
  | succ q => exact ih.2 q P' x' (by simpa using a) (by simpa using b)
end
section
set_option linter.unusedVariables false
set_option linter.unusedSimpArgs false
set_option maxRecDepth 100000
theorem upk {α : Type} {f : Nat → Option α} (hm : ∀ k, LeO (f k) (f (k + 1))) {k : Nat} {r : α} (h : f k = some r) : ∀ n, f (k + n) = some r
 | 0 => h
 | n + 1 => hm (k + n) r (upk hm h n)
theorem unik {α : Type} {f : Nat → Option α} (hm : ∀ k, LeO (f k) (f (k + 1))) {k k' : Nat} {r r' : α} (h : f k = some r) (h' : f k' = some r') : r = r' := by
 have a := upk hm h k'
 have b := upk hm h' k
 rw [show k' + k = k + k' by omega, a] at b
 exact au b
theorem bound {α : Type} {P : α → Nat → Prop} : ∀ (l : List α), (∀ x ∈ l, ∃ K, ∀ n, P x (K + n)) → ∃ K, ∀ x ∈ l, ∀ n, P x (K + n)
 | [], _ => ⟨0, fun x h => by simp at h⟩
 | a :: l, h => by
  obtain ⟨K1, h1⟩ := bound l (fun x hx => h x (List.mem_cons_of_mem _ hx))
  obtain ⟨K2, h2⟩ := h a (List.mem_cons_self ..)
  refine ⟨K1 + K2, fun x hx n => ?_⟩
  rcases List.mem_cons.1 hx with rfl | hx
  ·rw [show K1 + K2 + n = K2 + (K1 + n) by omega]; exact h2 _
  ·rw [show K1 + K2 + n = K1 + (K2 + n) by omega]; exact h1 x hx _
open Classical in
noncomputable def unqO (s : ByteArray) (a b : Int) : ByteArray := if h : ∃ o, ∃ k, bA.f k (s.extract a.toNat b.toNat) = some o then h.choose else ⟨#[]⟩
theorem unqO_eq {s : ByteArray} {a b : Int} {k : Nat} {o : ByteArray} (h : bA.f k (s.extract a.toNat b.toNat) = some o) : unqO s a b = o := by
 have hx : ∃ o, ∃ k, bA.f k (s.extract a.toNat b.toNat) = some o := ⟨o, k, h⟩
 unfold unqO
 rw [dif_pos hx]
 obtain ⟨k', hk⟩ := hx.choose_spec
 exact unik (f := fun k => bA.f k (s.extract a.toNat b.toNat)) (fun k => bA.mono _ k) hk h
theorem unqO_up {s : ByteArray} {a b : Int} {k : Nat} {o : ByteArray} (h : bA.f k (s.extract a.toNat b.toNat) = some o) (n : Nat) : bA.f (k + n) (s.extract a.toNat b.toNat) = some (unqO s a b) := by
 rw [unqO_eq h]
 exact upk (f := fun k => bA.f k (s.extract a.toNat b.toNat)) (fun k => bA.mono _ k) h n
def Ends (s : ByteArray) (j : Int) : Prop := j < s.size ∧ ¬ NumCh (bt s j)
theorem ends_of {s : ByteArray} {e r c : Int} (h : Blanks s e r) (hr : r < s.size) (hc : bt s r = c) (hn : ¬ NumCh c) : Ends s e := by
 have h1 := h.1
 refine ⟨by omega, ?_⟩
 by_cases he : e = r
 ·rw [he, hc]; exact hn
 ·exact blank_num (h.2.2 e (Int.le_refl _) (by omega))
def NmOK (s : ByteArray) (x : S93) : Prop := 0 ≤ x.f0 ∧ x.f0 ≤ x.f1 ∧ x.f1 ≤ s.size ∧ (∃ K, ∀ n, bA.f (K + n) (s.extract x.f0.toNat x.f1.toNat) = some (unqO s x.f0 x.f1)) ∧ StrSeg (bytesOf s) x.f0 x.f1 ∧ Ends s x.f1
def KdOK (V : aI) (s : ByteArray) (p : S31) : Prop := VR V s p ∧ PairedAt s p.f1 ∧ p.f1 < p.f2 ∧ p.f2 ≤ s.size ∧ Ends s p.f2
section
variable {s : ByteArray} (hn : Small s)
include hn
theorem kids_each {V : aI} (hV : LexV V s) {ks : List S31} {i j : Int} (h : Sp.Kids V s ks i j) : PairedAt s i → ∀ p ∈ ks, KdOK V s p := by
 induction h with
 | last p i r h1 h2 h3 h4 h5 h6 =>
  intro hp q hq
  simp only [List.mem_singleton] at hq
  subst hq h2
  exact ⟨h1, hp, h3, by have := h4.1; omega, ends_of h4 h5 h6 (by unfold NumCh; omega)⟩
 | more p i r t j ks h1 h2 h3 h4 h5 h6 h7 h8 ih =>
  intro hp q hq
  subst h2
  have h41 := h4.1
  have h0 := h1.1
  have hL := hV p h1 (by omega)
  have p1 := (h4.lex (by omega)).paired hn (hL.paired hn hp)
  have p2 := PairedAt.plain hn p1 (by omega) h5 (by omega)
  rcases List.mem_cons.1 hq with rfl | hq
  ·exact ⟨h1, hp, h3, by omega, ends_of h4 h5 h6 (by unfold NumCh; omega)⟩
  ·exact ih ((h7.lex (by omega)).paired hn p2) q hq
theorem mems_each {V : aI} (hV : LexV V s) {ns : List S93} {ks : List S31} {i j : Int} (h : Sp.Mems V s ns ks i j) : 0 ≤ i → PairedAt s i → (∀ p ∈ ks, KdOK V s p) ∧ ∀ x ∈ ns, NmOK s x := by
 induction h with
 | last nm p i c r h1 h2 h3 h4 h5 h6 h7 h8 h9 h10 h11 =>
  intro hi hp
  have hb3 := h3.1
  have hb6 := h6.1
  have hb9 := h9.1
  have hlt := h2.2.1
  have h0 := h7.1
  obtain ⟨o, hI, hp1, k, hu⟩ := seg_unq hn hi h2 hp
  have hp2 := PairedAt.plain hn ((h3.lex (by omega)).paired hn hp1) (by omega) h4 (by omega)
  have hp3 := (h6.lex (by omega)).paired hn hp2
  subst h1
  refine ⟨fun q hq => ?_, fun q hq => ?_⟩
  ·simp only [List.mem_singleton] at hq
   subst hq
   exact ⟨h7, hp3, h8, by omega, ends_of h9 h10 h11 (by unfold NumCh; omega)⟩
  ·simp only [List.mem_singleton] at hq
   subst hq
   exact ⟨hi, by omega, by omega, ⟨k, unqO_up hu⟩, h2, ends_of h3 h4 h5 (by unfold NumCh; omega)⟩
 | more nm p i c r t j ns ks h1 h2 h3 h4 h5 h6 h7 h8 h9 h10 h11 h12 h13 ih =>
  intro hi hp
  have hb3 := h3.1
  have hb6 := h6.1
  have hb9 := h9.1
  have hb12 := h12.1
  have hlt := h2.2.1
  have h0 := h7.1
  obtain ⟨o, hI, hp1, k, hu⟩ := seg_unq hn hi h2 hp
  have hp2 := PairedAt.plain hn ((h3.lex (by omega)).paired hn hp1) (by omega) h4 (by omega)
  have hp3 := (h6.lex (by omega)).paired hn hp2
  have hL := hV p h7 (by omega)
  have p1 := (h9.lex (by omega)).paired hn (hL.paired hn hp3)
  have p2 := PairedAt.plain hn p1 (by omega) h10 (by omega)
  obtain ⟨i1, i2⟩ := ih (by omega) ((h12.lex (by omega)).paired hn p2)
  subst h1
  refine ⟨fun q hq => ?_, fun q hq => ?_⟩
  ·rcases List.mem_cons.1 hq with rfl | hq
   ·exact ⟨h7, hp3, h8, by omega, ends_of h9 h10 h11 (by unfold NumCh; omega)⟩
   ·exact i1 q hq
  ·rcases List.mem_cons.1 hq with rfl | hq
   ·exact ⟨hi, by omega, by omega, ⟨k, unqO_up hu⟩, h2, ends_of h3 h4 h5 (by unfold NumCh; omega)⟩
   ·exact i2 q hq
theorem valo_each {V : aI} (hV : LexV V s) {kd i j : Int} {ns : List S93} {ks : List S31} (h : ValO V s kd i j ns ks) (h0 : 0 ≤ i) (h1 : i < s.size) (h2 : j ≤ s.size) (hp : PairedAt s i) :
  (∀ p ∈ ks, KdOK V s p) ∧ (∀ x ∈ ns, NmOK s x) ∧ (ks.length : Int) ≤ s.size ∧ (ns.length : Int) ≤ s.size ∧ (kd = 6 → ns.length = ks.length) ∧ (kd = 4 → ∃ K, ∀ n, bA.f (K + n) (s.extract i.toNat j.toNat) = some (unqO s i j)) := by
 rcases h with ⟨rfl, hc, hm⟩ | ⟨rfl, rfl, hc, hm⟩ | ⟨rfl, rfl, rfl, hS⟩ | ⟨rfl, rfl, rfl, _⟩ | ⟨rfl, rfl, _, hw⟩
 ·have hp1 := PairedAt.plain hn hp h0 h1 (by omega)
  rcases hm with ⟨rfl, rfl, _⟩ | ⟨p, hb, hm⟩
  ·exact ⟨by simp, by simp, by simp, by simp, fun _ => rfl, by omega⟩
  ·have hb1 := hb.1
   obtain ⟨a1, a2⟩ := mems_each hn hV hm (by omega) ((hb.lex (by omega)).paired hn hp1)
   obtain ⟨l1, l2⟩ := mems_len hm
   exact ⟨a1, a2, by omega, by omega, fun _ => l2, by omega⟩
 ·have hp1 := PairedAt.plain hn hp h0 h1 (by omega)
  rcases hm with ⟨rfl, _⟩ | ⟨p, hb, hm⟩
  ·exact ⟨by simp, by simp, by simp, by simp, fun _ => rfl, by omega⟩
  ·have hb1 := hb.1
   have l1 := kids_len hm
   exact ⟨kids_each hn hV hm ((hb.lex (by omega)).paired hn hp1), by simp, by omega, by simp, by omega, by omega⟩
 ·obtain ⟨o, hI, hp1, k, hu⟩ := seg_unq hn h0 hS hp
  exact ⟨by simp, by simp, by simp, by simp, by omega, fun _ => ⟨k, unqO_up hu⟩⟩
 ·exact ⟨by simp, by simp, by simp, by simp, by omega, by omega⟩
 ·exact ⟨by simp, by simp, by simp, by simp, by omega, by omega⟩
end
end
section
set_option linter.unusedVariables false
set_option linter.unusedSimpArgs false
set_option maxRecDepth 100000
theorem getD_at {α : Type} (z : α) (l : List α) (q : Nat) (h : q < l.length) : l.getD ((q : Int)).toNat z = l[q] := by
 rw [List.getD_eq_getElem?_getD]
 simp [h]
open Classical in
noncomputable def treeO (s : ByteArray) (p : S31) : S25 := if h : ∃ r : S25, ∃ K, aQ.f K s p.f0 p.f1 p.f2 p.f3 p.f4 = some (r.f0, r.f1, r.f2, r.f3) then h.choose else ⟨0, ⟨#[]⟩, [], []⟩
theorem eta25 (t : S25) : (⟨t.f0, t.f1, t.f2, t.f3⟩ : S25) = t := by cases t; rfl
theorem treeO_eq {s : ByteArray} {p : S31} {K : Nat} {r0 : Int} {r1 : ByteArray} {r2 : List ByteArray} {r3 : List S25} (h : aQ.f K s p.f0 p.f1 p.f2 p.f3 p.f4 = some (r0, r1, r2, r3)) : treeO s p = ⟨r0, r1, r2, r3⟩ := by
 have hx : ∃ r : S25, ∃ K, aQ.f K s p.f0 p.f1 p.f2 p.f3 p.f4 = some (r.f0, r.f1, r.f2, r.f3) := ⟨⟨r0, r1, r2, r3⟩, K, h⟩
 unfold treeO
 rw [dif_pos hx]
 obtain ⟨K', hk⟩ := hx.choose_spec
 have := unik (f := fun k => aQ.f k s p.f0 p.f1 p.f2 p.f3 p.f4) (fun k => aQ.mono _ _ _ _ _ _ k) hk h
 simp only [an] at this
 obtain ⟨e0, e1, e2, e3⟩ := this
 rw [← eta25 hx.choose, e0, e1, e2, e3]
def TreeOK (s : ByteArray) (p : S31) (k : Nat) : Prop := aQ.f k s p.f0 p.f1 p.f2 p.f3 p.f4 = some ((treeO s p).f0, (treeO s p).f1, (treeO s p).f2, (treeO s p).f3)
structure TreeIs (s : ByteArray) (p : S31) : Prop where
 f0 : (treeO s p).f0 = p.f0
 f1 : p.f0 = 4 → (treeO s p).f1 = unqO s p.f1 p.f2
 f2 : (treeO s p).f2 = p.f3.map (fun x => unqO s x.f0 x.f1)
 f3 : (treeO s p).f3 = p.f4.map (treeO s)
theorem tree_ok {s : ByteArray} {p : S31} {K : Nat} {t : ByteArray} (h : aQ.f K s p.f0 p.f1 p.f2 p.f3 p.f4 = some (p.f0, t, p.f3.map (fun x => unqO s x.f0 x.f1), p.f4.map (treeO s))) (h4 : p.f0 = 4 → t = unqO s p.f1 p.f2) : TreeIs s p ∧ TreeOK s p K := by
 have e := treeO_eq h
 refine ⟨⟨congrArg S25.f0 e, fun h => (congrArg S25.f1 e).trans (h4 h), congrArg S25.f2 e, congrArg S25.f3 e⟩, ?_⟩
 unfold TreeOK
 rw [congrArg S25.f0 e, congrArg S25.f1 e, congrArg S25.f2 e, congrArg S25.f3 e]
 exact h
def UnqOK (s : ByteArray) (x : S93) (k : Nat) : Prop := bA.f k (s.extract x.f0.toNat x.f1.toNat) = some (unqO s x.f0 x.f1)
section
variable {s : ByteArray} {ks : List S31} {ns : List S93} {K : Nat}
theorem tree_l1 (hK : ∀ p ∈ ks, ∀ n, TreeOK s p (K + n)) (a b c : Int) (y0 : Int) (y1 : ByteArray) (y2 : List ByteArray) (hl : ks.length ≤ 1000000) : ∀ (d q k : Nat) (acc : List S25), q + d = ks.length → acc.length + d ≤ 1048576 → K + d + 1 ≤ k → aQ.l1 k s (q : Int) a b c ns ks y0 y1 y2 acc = some (y0, y1, y2, acc ++ (ks.drop q).map (treeO s))
 | d, q, 0, acc, _, _, hk => by omega
 | 0, q, k + 1, acc, hq, _, hk => by
  simp only [aQ.l1]
  rw [if_neg (by omega), List.drop_eq_nil_of_le (by omega), List.map_nil, List.append_nil]
 | d + 1, q, k + 1, acc, hq, ha, hk => by
  have e := hK ks[q] (List.getElem_mem (by omega)) (k - K)
  unfold TreeOK at e
  rw [show K + (k - K) = k by omega] at e
  simp only [aQ.l1]
  rw [if_pos (by omega), if_pos (by omega), show rd_T31 ks (q : Int) = ks[q] from getD_at _ _ _ (by omega), e]
  simp only [al]
  rw [if_pos (by omega), wp1 (by omega)]
  rw [tree_l1 hK a b c y0 y1 y2 hl d (q + 1) k _ (by omega) (by simp; omega) (by omega), List.append_assoc, List.drop_eq_getElem_cons (show q < ks.length by omega), eta25]
  rfl
theorem tree_l0 (hK : ∀ p ∈ ks, ∀ n, TreeOK s p (K + n)) (hN : ∀ x ∈ ns, NmOK s x) (hU : ∀ x ∈ ns, ∀ n, bA.f (K + n) (s.extract x.f0.toNat x.f1.toNat) = some (unqO s x.f0 x.f1)) (a b c : Int) (y0 : Int) (y1 : ByteArray) (hl : ks.length ≤ 1000000) (hl2 : ns.length ≤ 1000000) :
  ∀ (d q k : Nat) (acc : List ByteArray), q + d = ns.length → acc.length + d ≤ 1048576 → K + d + ks.length + 2 ≤ k → aQ.l0 k s (q : Int) a b c ns ks y0 y1 acc = some (y0, y1, acc ++ (ns.drop q).map (fun x => unqO s x.f0 x.f1), ks.map (treeO s))
 | d, q, 0, acc, _, _, hk => by omega
 | 0, q, k + 1, acc, hq, _, hk => by
  simp only [aQ.l0]
  rw [if_neg (by omega)]
  rw [List.drop_eq_nil_of_le (by omega), List.map_nil, List.append_nil]
  have := tree_l1 (ns := ns) hK a b c y0 y1 acc (by omega) ks.length 0 k [] (by omega) (by simp; omega) (by omega)
  rw [List.drop_zero, List.nil_append] at this
  exact this
 | d + 1, q, k + 1, acc, hq, ha, hk => by
  have hx := hN ns[q] (List.getElem_mem (by omega))
  have e := hU ns[q] (List.getElem_mem (by omega)) (k - K)
  rw [show K + (k - K) = k by omega] at e
  obtain ⟨x0, x1, x2, _⟩ := hx
  simp only [aQ.l0]
  rw [if_pos (by omega), if_pos (by omega), show rd_T93 ns (q : Int) = ns[q] from getD_at _ _ _ (by omega), if_pos x0, if_pos x1, if_pos x2, e]
  simp only [al]
  rw [if_pos (by omega), wp1 (by omega)]
  have h := tree_l0 hK hN hU a b c y0 y1 hl hl2 d (q + 1) k (acc ++ [unqO s ns[q].f0 ns[q].f1]) (by omega) (by simp; omega) (by omega)
  rw [h, List.append_assoc]
  congr 4
  rw [List.drop_eq_getElem_cons (show q < ns.length by omega)]
  rfl
end
theorem tree_up {s : ByteArray} {p : S31} {k : Nat} (h : TreeOK s p k) (n : Nat) : TreeOK s p (k + n) := upk (f := fun k => aQ.f k s p.f0 p.f1 p.f2 p.f3 p.f4) (fun k => aQ.mono _ _ _ _ _ _ k) h n
theorem tree_j0 {s : ByteArray} (hn : Small s) {p : S31} (hk : p.f4.length ≤ 1000000) (hl : p.f3.length ≤ 1000000) (hN : ∀ x ∈ p.f3, NmOK s x) {K1 K2 : Nat} (hK1 : ∀ q ∈ p.f4, ∀ n, TreeOK s q (K1 + n)) (hK2 : ∀ x ∈ p.f3, ∀ n, bA.f (K2 + n) (s.extract x.f0.toNat x.f1.toNat) = some (unqO s x.f0 x.f1)) (y1 : ByteArray) :
  ∃ K, ∀ n, aQ.j0 (K + n) s p.f0 p.f1 p.f2 p.f3 p.f4 p.f0 y1 = some (p.f0, y1, p.f3.map (fun x => unqO s x.f0 x.f1), p.f4.map (treeO s)) := by
 obtain ⟨kd, a, b, ns, ks⟩ := p
 simp only at *
 have hA : ∀ q ∈ ks, ∀ n, TreeOK s q (K1 + K2 + n) := fun q hq n => by rw [Nat.add_assoc]; exact hK1 q hq _
 have hB : ∀ x ∈ ns, ∀ n, bA.f (K1 + K2 + n) (s.extract x.f0.toNat x.f1.toNat) = some (unqO s x.f0 x.f1) := fun x hx n => by rw [Nat.add_comm K1 K2, Nat.add_assoc]; exact hK2 x hx _
 obtain ⟨M, hM⟩ : ∃ M, K1 + K2 + ns.length + ks.length + 2 = M := ⟨_, rfl⟩
 have h := tree_l0 (K := K1 + K2) hA hN hB kd a b kd y1 hk hl ns.length 0 M [] (Nat.zero_add _) (by simp; omega) (by omega)
 refine ⟨M + 1, fun n => ?_⟩
 have hm : ∀ k, LeO (aQ.l0 k s ((0 : Nat) : Int) kd a b ns ks kd y1 []) (aQ.l0 (k + 1) s ((0 : Nat) : Int) kd a b ns ks kd y1 []) := fun k => (aQ.mono_l k).2.2.1 _ _ _ _ _ _ _ _ _ _
 have h2 := upk (f := fun k => aQ.l0 k s ((0 : Nat) : Int) kd a b ns ks kd y1 []) hm h n
 rw [List.drop_zero, List.nil_append] at h2
 rw [show M + 1 + n = (M + n) + 1 by omega]
 rw [aQ.j0]
 exact h2
theorem tree_of {s : ByteArray} (hn : Small s) {p : S31} (h0 : 0 ≤ p.f1) (h1 : p.f1 ≤ p.f2) (h2 : p.f2 ≤ s.size) (hk : (p.f4.length : Int) ≤ 1000000) (hl : (p.f3.length : Int) ≤ 1000000) (hN : ∀ x ∈ p.f3, NmOK s x) (hT : ∀ q ∈ p.f4, ∃ K, ∀ n, TreeOK s q (K + n))
  (h4 : p.f0 = 4 → ∃ K, ∀ n, bA.f (K + n) (s.extract p.f1.toNat p.f2.toNat) = some (unqO s p.f1 p.f2)) : TreeIs s p ∧ ∃ K, TreeOK s p K := by
 have hb1 : ∃ K1, ∀ q ∈ p.f4, ∀ n, TreeOK s q (K1 + n) := bound (P := TreeOK s) p.f4 hT
 have hN2 : ∀ x ∈ p.f3, ∃ K, ∀ n, UnqOK s x (K + n) := fun x hx => by
  obtain ⟨_, _, _, h, _⟩ := hN x hx
  exact h
 have hb2 : ∃ K2, ∀ x ∈ p.f3, ∀ n, UnqOK s x (K2 + n) := bound (P := UnqOK s) p.f3 hN2
 obtain ⟨K1, hK1⟩ := hb1
 obtain ⟨K2, hK2⟩ := hb2
 have hj := tree_j0 hn (p := p) (by omega) (by omega) hN hK1 hK2
 obtain ⟨kd, a, b, ns, ks⟩ := p
 simp only at *
 have fin : ∀ (K : Nat) (t : ByteArray), aQ.f K s kd a b ns ks = some (kd, t, ns.map (fun x => unqO s x.f0 x.f1), ks.map (treeO s)) → (kd = 4 → t = unqO s a b) → TreeIs s ⟨kd, a, b, ns, ks⟩ ∧ ∃ K, TreeOK s ⟨kd, a, b, ns, ks⟩ K := fun K t h h4 => by
  obtain ⟨e1, e2⟩ := tree_ok (p := ⟨kd, a, b, ns, ks⟩) h h4
  exact ⟨e1, K, e2⟩
 by_cases c3 : kd = 3
 ·obtain ⟨K, h⟩ := hj (s.extract a.toNat b.toNat)
  have h := h 0
  rw [Nat.add_zero] at h
  refine fin (K + 1) (s.extract a.toNat b.toNat) ?_ (by omega)
  rw [aQ.f, if_pos c3, if_pos h0, if_pos h1, if_pos h2]
  exact h
 ·by_cases c4 : kd = 4
  ·obtain ⟨K3, hu⟩ := h4 c4
   obtain ⟨K, h⟩ := hj (unqO s a b)
   have h := h K3
   have hu := hu K
   rw [Nat.add_comm] at hu
   refine fin (K + K3 + 1) (unqO s a b) ?_ (fun _ => rfl)
   rw [aQ.f, if_neg c3, if_pos c4, if_pos h0, if_pos h1, if_pos h2, hu, al]
   exact h
  ·obtain ⟨K, h⟩ := hj ⟨#[]⟩
   have h := h 0
   rw [Nat.add_zero] at h
   refine fin (K + 1) ⟨#[]⟩ ?_ (fun h => absurd h c4)
   rw [aQ.f, if_neg c3, if_neg c4]
   exact h
theorem tree_tot {s : ByteArray} (hn : Small s) (hs : s.size ≤ 65536) : ∀ (D : Nat) (p : S31), VR (aA.at_ D) s p → PairedAt s p.f1 → p.f1 < p.f2 → p.f2 ≤ s.size → TreeIs s p ∧ ∃ K, TreeOK s p K := by
 intro D
 induction D using Nat.strongRecOn with
 | _ D ih =>
 rintro p ⟨h0, k, h⟩ hp hlt hle
 cases D with
 | zero => cases h
 | succ D =>
  obtain ⟨_, _, _, g1, g2, g3⟩ := value_known hn D k p.f1 p.f0 p.f1 p.f2 p.f3 p.f4 s p.f2 h0 (by omega) h
  obtain ⟨e1, e2, e3, e4, e5, e6⟩ := valo_each hn (value_lex hn (D - 1)) g3 h0 (by omega) g2 hp
  refine tree_of hn h0 (by omega) hle (by omega) (by omega) e2 (fun q hq => ?_) e6
  obtain ⟨a1, a2, a3, a4, _⟩ := e1 q hq
  obtain ⟨_, K, hK⟩ := ih (D - 1) (by omega) q a1 a2 a3 a4
  exact ⟨K, fun n => tree_up hK n⟩
end
section
set_option linter.unusedVariables false
set_option linter.unusedSimpArgs false
set_option maxRecDepth 100000
def Says (s : ByteArray) (p : S31) (ty : Int) (raw str : ByteArray) : Prop := (ty = 5 ∧ (p.f0 = 5 ∨ p.f0 = 6) ∧ raw = s.extract p.f1.toNat s.size) ∨ (ty ≠ 5 ∧ (p.f0 ≠ 5 ∧ p.f0 ≠ 6) ∧ raw = s.extract p.f1.toNat p.f2.toNat ∧ bR.f p.f0 = some ty ∧ (p.f0 = 4 → str = unqO s p.f1 p.f2))
def LeafOf (s S : ByteArray) (b : Nat) (p : S31) : Prop := ∃ ty raw str, Leaf s S b (at_ s b) ty raw str ∧ 0 < raw.size ∧ raw.size ≤ 65536 ∧ Says s p ty raw str
theorem leaf_of {s : ByteArray} (hs : s.size ≤ 65536) {D k : Nat} {p : S31} (hp : PairedAt s 0) (h : places (aA.at_ (D + 1)) k s = some (p.f0, p.f1, p.f2, p.f3, p.f4, true)) :
  LeafOf s (s.extract p.f1.toNat s.size) p.f1.toNat p := by
 have hn : Small s := by unfold Small; omega
 obtain ⟨kd, b, j, ns, ks⟩ := p
 simp only at h
 obtain ⟨h0, hB, hlt, hle, hR, hV, _⟩ := places_inv hn h
 have hpb := (hB.lex (by omega)).paired hn hp
 obtain ⟨b, rfl⟩ : ∃ n : Nat, b = n := ⟨b.toNat, by omega⟩
 obtain ⟨j, rfl⟩ : ∃ n : Nat, j = n := ⟨j.toNat, by omega⟩
 have hbs : b ≤ s.size := by omega
 obtain ⟨S, hS⟩ : ∃ S, s.extract b s.size = S := ⟨_, rfl⟩
 have hz : S.size = s.size - b := by rw [← hS, ByteArray.size_extract]; omega
 have hat : ∀ q, at_ S q = at_ s (b + q) := fun q => by rw [← hS]; exact at_sh hbs q
 have hx : S.extract 0 (j - b) = s.extract b j := by
  have := ext_sh (s := s) (b0 := b) (i := b) (j := j) (Nat.le_refl _) (by omega) (by omega)
  rw [Nat.sub_self, hS] at this
  exact this
 have hrest : ∀ q, j ≤ q → q < s.size → at_ s q ≤ 32 := fun q h1 h2 => by
  have := hR (q : Int) (by omega) (by omega)
  unfold isBlank at this
  unfold at_
  omega
 have hrz : (s.extract b j).size = j - b := Z34
 show LeafOf s (s.extract b s.size) b _
 rw [hS]
 have cont : (bt s b = 123 ∨ bt s b = 91) → (kd = 5 ∨ kd = 6) → LeafOf s S b ⟨kd, b, j, ns, ks⟩ := fun hc hk =>
  ⟨5, S, ⟨#[]⟩, .inr (.inl ⟨hc, rfl, rfl, rfl⟩), by omega, by omega, .inl ⟨rfl, hk, hS.symm⟩⟩
 have lit : ∀ (ty : Int) (l : List Int), seg (bytesOf s) b j = l → (∀ q : Nat, q < l.length → 97 ≤ l.getD q 0 ∧ l.getD q 0 ≤ 122) → 2 ≤ l.length → ((l.getD 0 0 = 110 ∧ l.getD 1 0 = 117 ∧ ty = 0) ∨ (l.getD 0 0 = 116 ∧ ty = 4) ∨ (l.getD 0 0 = 102 ∧ ty = 1)) → (kd ≠ 5 ∧ kd ≠ 6 ∧ kd ≠ 4) → bR.f kd = some ty →
   LeafOf s S b ⟨kd, b, j, ns, ks⟩ := by
  intro ty l hsg hl hl2 hty hk hkd
  obtain ⟨w1, w2⟩ := word_at hsg (by omega) hlt (by omega)
  have e0 : at_ s b = l.getD 0 0 := w2 0 (by omega)
  have e1 : at_ s (b + 1) = l.getD 1 0 := w2 1 (by omega)
  refine ⟨ty, s.extract b j, ⟨#[]⟩, .inr (.inr (.inl ⟨?_, fun hv => ⟨by omega, ?_⟩, rfl, by omega, fun w => ?_⟩)), by omega, by omega, .inr ⟨?_, ⟨hk.1, hk.2.1⟩, rfl, hkd, fun h => absurd h hk.2.2⟩⟩
  ·rw [e0]
   rcases hty with ⟨a, _, b⟩ | ⟨a, b⟩ | ⟨a, b⟩
   ·exact .inl ⟨a, b⟩
   ·exact .inr (.inl ⟨a, b⟩)
   ·exact .inr (.inr ⟨a, b⟩)
  ·rw [e1]
   rw [e0] at hv
   omega
  ·have := tolit_calls S (j - b) w (by omega) (by omega) (by omega) (fun q h1 h2 => ?_) (fun h1 => ?_)
   ·rw [hx] at this
    exact this
   ·rw [hat]
    have e2 : at_ s (b + q) = l.getD q 0 := w2 q (by omega)
    rw [e2]
    exact hl q (by omega)
   ·rw [hat]
    have := hrest (b + (j - b)) (by omega) (by omega)
    omega
  ·omega
 have all : ∀ l : List Int, (∀ x ∈ l, 97 ≤ x ∧ x ≤ 122) → ∀ q : Nat, q < l.length → 97 ≤ l.getD q 0 ∧ l.getD q 0 ≤ 122 := by
  intro l h q hq
  rw [List.getD_eq_getElem?_getD, List.getElem?_eq_getElem hq]
  exact h _ (List.getElem_mem hq)
 rcases hV with ⟨rfl, hc, _⟩ | ⟨rfl, _, hc, _⟩ | ⟨rfl, _, _, hSS⟩ | ⟨rfl, _, _, hc, hN⟩ | ⟨_, _, _, hw⟩
 ·exact cont (.inl hc) (.inr rfl)
 ·exact cont (.inr hc) (.inl rfl)
 ·obtain ⟨o, hI, _, k, hu⟩ := seg_unq hn (by omega) hSS hpb
  have hA := str_at hSS (bytesOf_length s)
  have hlt2 := hSS.2.1
  have hA' : StrAt s (b + 0) (b + (j - 1 - b)) := by rw [show b + (j - 1 - b) = j - 1 by omega]; exact hA
  have hI' : Inner (S.extract 1 (j - 1 - b)) 0 o := by
   have := ext_sh (s := s) (b0 := b) (i := b + 1) (j := j - 1) (by omega) (by omega) (by omega)
   rw [show b + 1 - b = 1 by omega, hS] at this
   rw [this]
   exact hI
  have hA2 := hA'.sh hbs
  rw [hS] at hA2
  refine ⟨3, s.extract b j, strOfNums o, .inr (.inr (.inr ⟨hA.op, rfl, fun w => ?_⟩)), by omega, by omega, .inr ⟨by decide, ⟨(by decide : (4 : Int) ≠ 5), (by decide : (4 : Int) ≠ 6)⟩, rfl, by simp [bR.f], fun _ => (unqO_eq hu).symm⟩⟩
  have := tostr_calls (by omega) hA2 hI' w
  rw [show j - 1 - b + 1 = j - b by omega, hx] at this
  exact this
 ·have hT : NumText (s.extract b j) := by
   refine ⟨by omega, by omega, fun q h0 h1 => ?_⟩
   rw [hrz] at h1
   rw [bt_ext (by omega) (by omega) (by omega)]
   have h2 := hN.2.2 ((b : Int) + q) (by omega) (by omega)
   unfold NumCh at h2
   unfold NumByte
   omega
  refine ⟨2, s.extract b j, ⟨#[]⟩, .inl ⟨by unfold at_; omega, rfl, rfl, fun w hW => ?_⟩, by omega, by omega, .inr ⟨by decide, ⟨(by decide : (3 : Int) ≠ 5), (by decide : (3 : Int) ≠ 6)⟩, rfl, by simp [bR.f], fun h => absurd h (by decide : (3 : Int) ≠ 4)⟩⟩
  have := tonum_calls S (j - b) w hW (by omega) (by omega) (by omega) (fun q h1 h2 => ?_) (fun h1 => ?_) (by rw [hx]; exact hT)
  ·rw [hx] at this
   exact this
  ·rw [hat]
   exact hN.2.2 ((b + q : Nat) : Int) (by omega) (by omega)
  ·rw [hat]
   exact hrest (b + (j - b)) (by omega) (by omega)
 ·rcases hw with ⟨rfl, hw⟩ | ⟨rfl, hw⟩ | ⟨rfl, hw⟩
  ·exact lit 0 _ hw (all _ (by decide)) (by simp) (by simp) (by decide) (by simp [bR.f])
  ·exact lit 1 _ hw (all _ (by decide)) (by simp) (by simp) (by decide) (by simp [bR.f])
  ·exact lit 4 _ hw (all _ (by decide)) (by simp) (by simp) (by decide) (by simp [bR.f])
end
section
set_option linter.unusedVariables false
set_option linter.unusedSimpArgs false
set_option maxRecDepth 100000
def V_pl (D : Nat) : cH where
 f := fun k s => places (aA.at_ (D + 1)) k s
 mono := fun a0 k => by
  unfold places
  refine LeO.bind (aE.mono _ _ _) (fun b => LeO.bind ((aA.at_ (D + 1)).mono _ _ _) (fun v => LeO.ite (LeO.bind (aE.mono _ _ _) (fun c => LeO.refl _)) (LeO.refl _)))
 calls := fun k s r1 r2 r3 r4 r5 r6 w h => places_calls _ k s w r1 r2 r3 r4 r5 r6 h
theorem places_tot {s : ByteArray} (hn : Small s) : ∃ D K r, ∀ n, (V_pl D).f (K + n) s = some r := by
 obtain ⟨j, hb, h1, h2⟩ := blanks_t s hn (s.size + 20) 0 (by omega) (by omega) (by omega)
 have hT := (reader_tots hn (2 * s.size + 1 + 1)).1
 obtain ⟨kd, ns, ks, ok, j2, hv, h3, h4, h5⟩ := hT (s.size + 20) j (by omega) h2 (by omega) (by omega)
 have : ∃ r, (V_pl (2 * s.size + 1)).f (s.size + 20) s = some r := by
  show ∃ r, places _ _ s = some r
  unfold places
  rw [hb]
  simp only [al]
  rw [hv]
  simp only [al]
  cases ok with
  | false => exact ⟨_, rfl⟩
  | true =>
   obtain ⟨j3, hb3, _, _⟩ := blanks_t s hn (s.size + 20) j2 (by omega) h4 (by omega)
   rw [if_pos rfl, hb3]
   simp only [al]
   split <;> exact ⟨_, rfl⟩
 obtain ⟨r, hr⟩ := this
 exact ⟨_, _, r, upk (f := fun k => (V_pl (2 * s.size + 1)).f k s) (fun k => (V_pl (2 * s.size + 1)).mono s k) hr⟩
theorem paired_up {s : ByteArray} (hn : Small s) : ∃ K b, ∀ n, bH.f (K + n) s = some b := by
 obtain ⟨b, hb⟩ := paired_tot hn s.size (s.size + 12) 0 (by omega) (by omega) (by omega) (by omega)
 exact ⟨s.size + 12, b, upk (f := fun k => bH.f k s) (fun k => bH.mono s k) hb⟩
theorem text_of {Vp : cH} {s : ByteArray} {k : Nat} {r : Int × ByteArray × List ByteArray × List S25 × Bool} (hs : s.size ≤ 65536) (hu : bT.f k s = some true) (hp : bH.f k s = some true) (hr : dA.f Vp k s = some r) : cU.f Vp k s = some r := by
 unfold cU.f
 rw [if_neg (by omega), hu]
 simp only [al]
 rw [if_pos trivial, hp]
 simp only [al]
 rw [if_pos trivial, hr]
 rfl
theorem text_cases (s : ByteArray) : (∃ D K y0 y1 y2 y3, cU.f (V_pl D) K s = some (y0, y1, y2, y3, false)) ∨ (s.size ≤ 65536 ∧ PairedAt s 0 ∧ ∃ (D K : Nat) (p : S31), places (aA.at_ (D + 1)) K s = some (p.f0, p.f1, p.f2, p.f3, p.f4, true) ∧ TreeIs s p ∧ (∃ K, TreeOK s p K) ∧
  ∃ K, cU.f (V_pl D) K s = some ((treeO s p).f0, (treeO s p).f1, (treeO s p).f2, (treeO s p).f3, true)) := by
 by_cases hs : s.size ≤ 65536
 case neg =>
  refine .inl ⟨0, 0, 0, ⟨#[]⟩, [], [], ?_⟩
  unfold cU.f
  rw [if_pos (by omega)]
 have hn : Small s := by unfold Small; omega
 obtain ⟨K1, b1, hu⟩ := wW hn
 obtain ⟨K2, b2, hp⟩ := paired_up hn
 obtain ⟨D, K3, ⟨kd, b, j, ns, ks, ok⟩, hr⟩ := places_tot hn
 have hu : ∀ k, K1 ≤ k → bT.f k s = some b1 := fun k h => by have := hu (k - K1); rwa [show K1 + (k - K1) = k by omega] at this
 have hpp : ∀ k, K2 ≤ k → bH.f k s = some b2 := fun k h => by have := hp (k - K2); rwa [show K2 + (k - K2) = k by omega] at this
 have hrr : ∀ k, K3 ≤ k → (V_pl D).f k s = some (kd, b, j, ns, ks, ok) := fun k h => by have := hr (k - K3); rwa [show K3 + (k - K3) = k by omega] at this
 cases b1 with
 | false =>
  refine .inl ⟨D, K1 + 1, 0, ⟨#[]⟩, [], [], ?_⟩
  unfold cU.f
  rw [if_neg (by omega), hu (K1 + 1) (by omega)]
  rfl
 | true =>
 cases b2 with
 | false =>
  refine .inl ⟨D, K1 + K2 + 1, 0, ⟨#[]⟩, [], [], ?_⟩
  unfold cU.f
  rw [if_neg (by omega), hu (K1 + K2 + 1) (by omega)]
  simp only [al]
  rw [if_pos trivial, hpp (K1 + K2 + 1) (by omega)]
  rfl
 | true =>
 cases ok with
 | false =>
  refine .inl ⟨D, K1 + K2 + K3 + 1, 0, ⟨#[]⟩, [], [], text_of hs (hu _ (by omega)) (hpp _ (by omega)) ?_⟩
  unfold dA.f
  rw [hrr _ (by omega)]
  rfl
 | true =>
 have hP0 : PairedAt s 0 := ⟨K2, hpp K2 (Nat.le_refl _)⟩
 have hpl : places (aA.at_ (D + 1)) K3 s = some (kd, b, j, ns, ks, true) := hrr K3 (Nat.le_refl _)
 obtain ⟨h0, hB, hlt, hle, hR, hV, hVR⟩ := places_inv hn hpl
 have hpb := (hB.lex (by omega)).paired hn hP0
 obtain ⟨hTI, K4, hT⟩ := tree_tot hn hs (D + 1) ⟨kd, b, j, ns, ks⟩ hVR hpb hlt hle
 refine .inr ⟨hs, hP0, D, K3, ⟨kd, b, j, ns, ks⟩, hpl, hTI, ⟨K4, hT⟩, K1 + K2 + K3 + K4, text_of hs (hu _ (by omega)) (hpp _ (by omega)) ?_⟩
 have hT' := tree_up hT (K1 + K2 + K3)
 unfold TreeOK at hT'
 unfold dA.f
 rw [hrr _ (by omega)]
 simp only [al]
 rw [if_pos trivial, show K1 + K2 + K3 + K4 = K4 + (K1 + K2 + K3) by omega, hT']
 rfl
theorem val_is {s : ByteArray} (hn : Small s) {D E : Nat} (hD : D ≤ E + 1) {p : S31} (hp : VR (aA.at_ D) s p) (h1 : p.f1 < p.f2) (h2 : p.f2 ≤ s.size) (hst : ¬ NumCh (at0 s p.f2)) (hI : TreeIs s p) (hT : ∃ K, TreeOK s p K) {ty : Int} {str : ByteArray} (num : Nat) (hk : bR.f p.f0 = some ty) (hs : p.f0 = 4 → str = unqO s p.f1 p.f2) :
  ∃ k, cD.f (V_pl E) k ty (s.extract p.f1.toNat p.f2.toNat) str num true (treeO s p).f0 (treeO s p).f1 (treeO s p).f2 (treeO s p).f3 = some true := by
 obtain ⟨K0, hT⟩ := hT
 have hT' : ∀ n, aQ.f (K0 + n) s p.f0 p.f1 p.f2 p.f3 p.f4 = some ((treeO s p).f0, (treeO s p).f1, (treeO s p).f2, (treeO s p).f3) := fun n => tree_up hT n
 obtain ⟨K, hr⟩ := read_raw hn hD (Vp := V_pl E) (fun k t => rfl) hp h1 h2 hst hT'
 have hF := tree_fit _ _ _ _ _ _ _ _ (Nat.le_refl _) (hT' 0)
 rw [eta25] at hF
 obtain ⟨K2, h⟩ := gjis_true (num := num) (ty := ty) (str := str) hr hF (by rw [hI.f0]; exact hk) (fun h4 => by rw [hI.f0] at h4; rw [hI.f1 h4]; exact hs h4)
 exact ⟨K2, by have := h 0; rwa [Nat.add_zero] at this⟩
theorem str_val {s : ByteArray} (hn : Small s) {i j : Int} (h0 : 0 ≤ i) (hS : StrSeg (bytesOf s) i j) : VR (aA.at_ 1) s ⟨4, i, j, [], []⟩ := by
 have hlt := hS.2.1
 have hj : j ≤ s.size := by have := hS.2.2.1; rw [bytesOf_length] at this; exact this
 have c : bt s i = 34 := by rw [← rd_bytesOf]; exact hS.1
 obtain ⟨K, g⟩ := quoted_f_of hn hS h0
 refine ⟨h0, K, ?_⟩
 show aA.f (aD.at_ 0) (aU.at_ 0) K s i = _
 unfold aA.f
 rw [here_eq s _ h0, at0_at (by omega), al]
 dsimp only
 rw [if_neg (by omega), if_neg (by omega), if_pos c]
 have := g 0
 rw [Nat.add_zero] at this
 rw [this, al]
theorem name_is {s : ByteArray} (hn : Small s) {E : Nat} {x : S93} (h : NmOK s x) (num : Nat) : ∃ k, cD.f (V_pl E) k 3 (s.extract x.f0.toNat x.f1.toNat) (unqO s x.f0 x.f1) num true 4 (unqO s x.f0 x.f1) [] [] = some true := by
 obtain ⟨h0, h1, h2, hU, hS, hE⟩ := h
 have hlt := hS.2.1
 obtain ⟨hI, hT⟩ := tree_of hn (p := ⟨4, x.f0, x.f1, [], []⟩) h0 h1 h2 (by simp) (by simp) (fun x h => by simp at h) (fun x h => by simp at h) (fun _ => hU)
 have := val_is hn (D := 1) (E := E) (by omega) (str_val hn h0 hS) (by show x.f0 < x.f1; omega) h2 (by show ¬ NumCh (at0 s x.f1); rw [at0_at hE.1]; exact hE.2) hI hT (ty := 3) (str := unqO s x.f0 x.f1) num (by simp [bR.f]) (fun _ => rfl)
 rw [hI.f0, hI.f1 rfl, hI.f2, hI.f3] at this
 exact this
end
section
set_option linter.unusedVariables false
set_option linter.unusedSimpArgs false
set_option maxRecDepth 100000
def one (ty : Int) (raw str : ByteArray) (f : Nat) : List (GR × GR → Prop) := [fun x => x = (⟨0, ⟨#[]⟩, ⟨#[]⟩, 0, 0, none, 0, 0⟩, ⟨ty, raw, str, f, 0, none, 0, 0⟩)]
def psAll (s : ByteArray) (p : S31) (ty : Int) (raw str : ByteArray) (f : Nat) : List (GR × GR → Prop) := if ty = 5 then psOf s p.f0 p.f3 p.f4 else one ty raw str f
def PL (s : ByteArray) (p : S31) (ty : Int) (raw str : ByteArray) (stop : Int) (L : List S41) : Prop := ∃ (f : Nat) (L0 : List (GR × GR)), L = L0.map toS ∧ Told (goOn stop) 0 (psAll s p ty raw str f) L0
theorem rd41 {L0 : List (GR × GR)} {q : Nat} (h : q < L0.length) : rd_T41 (L0.map toS) (q : Int) = toS L0[q] := (getD_at _ _ _ (by simpa using h)).trans (by simp)
theorem gj4 {g : GR} (h : g.ty = 0 → 0 < g.raw.size) : (gjS g).f4 = true := by
 unfold gjS
 split
 ·rename_i h0
  have := h h0
  exact aj (by show (g.raw.size : Int) ≠ 0; omega)
 ·rfl
theorem kids_at {kd : Int} {tx : ByteArray} {ks : List ByteArray} {nk : List S25} {stop : Int} {q : Nat} (h : q < (kidsOf kd tx ks nk stop).length) : ∃ h2 : q < (kids1 kd tx ks nk).length, rd_T25 (kidsOf kd tx ks nk stop) (q : Int) = (kids1 kd tx ks nk)[q] := by
 unfold kidsOf at h ⊢
 split at h
 ·rename_i c
  rw [if_pos c]
  have h2 := h
  rw [List.length_take] at h2
  refine ⟨by omega, ?_⟩
  have : rd_T25 ((kids1 kd tx ks nk).take stop.toNat) (q : Int) = ((kids1 kd tx ks nk).take stop.toNat)[q] := getD_at _ _ _ h
  rw [this, List.getElem_take]
 ·rename_i c
  rw [if_neg c]
  exact ⟨h, getD_at _ _ _ h⟩
theorem eta31 (p : S31) : (⟨p.f0, p.f1, p.f2, p.f3, p.f4⟩ : S31) = p := by cases p; rfl
theorem pairs_told {s : ByteArray} (hs : s.size ≤ 65536) (hP0 : PairedAt s 0) {D K : Nat} {p : S31} (hpl : places (aA.at_ (D + 1)) K s = some (p.f0, p.f1, p.f2, p.f3, p.f4, true)) (hI : TreeIs s p) (hT : ∃ K, TreeOK s p K) {ty : Int} {raw str : ByteArray} (hS : Says s p ty raw str) (hr : 0 < raw.size) (stop : Int) (L : List S41) (h : PL s p ty raw str stop L) :
  L.length = (kidsOf (treeO s p).f0 (treeO s p).f1 (treeO s p).f2 (treeO s p).f3 stop).length ∧ ∀ q : Nat, q < L.length → PairOK (V_pl D) (treeO s p).f0 (treeO s p).f2 (kidsOf (treeO s p).f0 (treeO s p).f1 (treeO s p).f2 (treeO s p).f3 stop) L (q : Int) := by
 have hn : Small s := by unfold Small; omega
 obtain ⟨f, L0, rfl, hL⟩ := h
 obtain ⟨hlen, hall⟩ := told_all hL
 obtain ⟨h0, hB, hlt, hle, hR, hV, hVR⟩ := places_inv hn hpl
 have hpb := (hB.lex (by omega)).paired hn hP0
 have hk1 : ((kids1 (treeO s p).f0 (treeO s p).f1 (treeO s p).f2 (treeO s p).f3).length : Int) = ((psAll s p ty raw str f).length : Int) := by
  unfold kids1 psAll
  rw [hI.f0, hI.f3]
  rcases hS with ⟨rfl, hk, _⟩ | ⟨h5, hk, _⟩
  ·rw [if_pos (by omega), if_pos rfl]
   obtain ⟨_, hl, _⟩ := lies_of hs hP0 hpl hk
   unfold psOf
   split
   ·simp
   ·have := hl (by omega)
    simp; omega
  ·rw [if_neg (by omega), if_neg h5]
   rfl
 have hlk : L0.length = (kidsOf (treeO s p).f0 (treeO s p).f1 (treeO s p).f2 (treeO s p).f3 stop).length := by
  unfold kidsOf
  rw [← hk1] at hlen
  split
  ·rename_i c
   rw [if_pos (by omega)] at hlen
   rw [List.length_take]
   omega
  ·rename_i c
   rw [if_neg (by omega)] at hlen
   omega
 refine ⟨by rw [List.length_map]; exact hlk, fun q hq => ?_⟩
 rw [List.length_map] at hq
 obtain ⟨hq1, hrd⟩ := kids_at (show q < (kidsOf (treeO s p).f0 (treeO s p).f1 (treeO s p).f2 (treeO s p).f3 stop).length by omega)
 unfold PairOK
 rw [rd41 hq, hrd]
 obtain ⟨g, hg⟩ : ∃ g, L0[q] = g := ⟨_, rfl⟩
 have hgq : L0[q]? = some g := by rw [List.getElem?_eq_getElem hq, hg]
 rw [hg]
 have hql : q < (psAll s p ty raw str f).length := by omega
 rcases hS with ⟨rfl, hk, _⟩ | ⟨h5, hk, hraw, hkd, h4⟩
 ·obtain ⟨_, hl, _⟩ := lies_of hs hP0 hpl hk
  obtain ⟨e1, e2, _⟩ := valo_each hn (value_lex hn (D - 1)) hV h0 (by omega) hle hpb
  have hK1 : kids1 (treeO s p).f0 (treeO s p).f1 (treeO s p).f2 (treeO s p).f3 = p.f4.map (treeO s) := by
   unfold kids1
   rw [hI.f0, if_pos (by omega), hI.f3]
  have hq4 : q < p.f4.length := by rw [hK1, List.length_map] at hq1; exact hq1
  have hkid : (kids1 (treeO s p).f0 (treeO s p).f1 (treeO s p).f2 (treeO s p).f3)[q] = treeO s p.f4[q] := by
   simp only [hK1, List.getElem_map]
  rw [hkid]
  obtain ⟨a1, a2, a3, a4, a5⟩ := e1 p.f4[q] (List.getElem_mem hq4)
  obtain ⟨t1, t2⟩ := tree_tot hn hs (D - 1) p.f4[q] a1 a2 a3 a4
  have hval : ∀ {g : GR}, GjV s p.f4[q] g → ∃ k, cD.f (V_pl D) k (gjS g).f0 (gjS g).f1 (gjS g).f2 (gjS g).f3 (gjS g).f4 (treeO s p.f4[q]).f0 (treeO s p.f4[q]).f1 (treeO s p.f4[q]).f2 (treeO s p.f4[q]).f3 = some true := fun {g} hv => by
   rw [gj4 hv.ty]
   show ∃ k, cD.f (V_pl D) k g.ty g.raw g.str g.num true _ _ _ _ = some true
   rw [hv.raw]
   exact val_is hn (by omega) a1 a3 a4 (by rw [at0_at a5.1]; exact a5.2) t1 t2 g.num hv.kind (fun h4 => by
    obtain ⟨k, hk⟩ := hv.str h4
    exact (unqO_eq hk).symm)
  by_cases h5 : p.f0 = 5
  ·have hPg := hall q (OnVal (GjV s p.f4[q])) g (by unfold psAll psOf; rw [if_pos rfl, if_pos h5, List.getElem?_map, List.getElem?_map, List.getElem?_eq_getElem hq4]; rfl) hgq
   refine ⟨hval hPg.2, fun h6 => ?_⟩
   rw [hI.f0] at h6
   omega
  ·have hl3 := hl (by omega)
   have hq3 : q < p.f3.length := by omega
   have hqz : q < (p.f3.zip p.f4).length := by rw [List.length_zip]; omega
   have hPg := hall q (ItemOK s (p.f3.zip p.f4)[q]) g (by unfold psAll psOf; rw [if_pos rfl, if_neg h5, List.getElem?_map, List.getElem?_eq_getElem hqz]; rfl) hgq
   rw [List.getElem_zip] at hPg
   obtain ⟨⟨k, hk2⟩, hv, hty, hrw⟩ := hPg
   refine ⟨hval hv, fun _ => ?_⟩
   refine ⟨by rw [hI.f2, List.length_map]; omega, ?_⟩
   have hnm : rdOf ByteArray.empty (treeO s p).f2 (q : Int) = unqO s p.f3[q].f0 p.f3[q].f1 := by
    have e : rdOf ByteArray.empty (treeO s p).f2 (q : Int) = (treeO s p).f2[q]'(by rw [hI.f2, List.length_map]; exact hq3) := getD_at _ _ _ (by rw [hI.f2, List.length_map]; exact hq3)
    rw [e]
    simp only [hI.f2, List.getElem_map]
   rw [hnm]
   show ∃ k, cD.f (V_pl D) k g.1.ty g.1.raw g.1.str g.1.num (gjS g.1).f4 4 _ [] [] = some true
   rw [gj4 (fun h => by rw [hty] at h; exact absurd h (by decide)), hty, hrw, show g.1.str = unqO s p.f3[q].f0 p.f3[q].f1 from (unqO_eq hk2).symm]
   exact name_is hn (e2 p.f3[q] (List.getElem_mem hq3)) g.1.num
 ·have hq0 : q = 0 := by
   unfold psAll at hql
   rw [if_neg h5] at hql
   unfold one at hql
   simpa using hql
  subst hq0
  have hg2 : g = (⟨0, ⟨#[]⟩, ⟨#[]⟩, 0, 0, none, 0, 0⟩, ⟨ty, raw, str, f, 0, none, 0, 0⟩) := hall 0 (fun x => x = (⟨0, ⟨#[]⟩, ⟨#[]⟩, 0, 0, none, 0, 0⟩, ⟨ty, raw, str, f, 0, none, 0, 0⟩)) g (by unfold psAll one; rw [if_neg h5]; rfl) hgq
  have hkid : (kids1 (treeO s p).f0 (treeO s p).f1 (treeO s p).f2 (treeO s p).f3)[0] = treeO s p := by
   have : kids1 (treeO s p).f0 (treeO s p).f1 (treeO s p).f2 (treeO s p).f3 = [treeO s p] := by
    unfold kids1
    rw [if_neg (by rw [hI.f0]; omega), eta25]
   simp only [this, List.getElem_cons_zero]
  rw [hkid, hg2]
  refine ⟨?_, fun h6 => absurd h6 (by rw [hI.f0]; exact hk.2)⟩
  show ∃ k, cD.f (V_pl D) k ty raw str f (gjS ⟨ty, raw, str, f, 0, none, 0, 0⟩).f4 _ _ _ _ = some true
  rw [gj4 (fun _ => hr)]
  rw [hraw]
  rw [eta31] at hVR
  refine val_is hn (Nat.le_refl _) hVR hlt hle ?_ hI hT f hkd h4
  by_cases c : p.f2 < s.size
  ·rw [at0_at c]
   exact blank_num (hR _ (Int.le_refl _) c)
  ·rw [at0_zero c]
   unfold NumCh
   omega
theorem pairs_law (s : ByteArray) (stop : Int) (w : World) (hW : Wok w) : Calls Tryz.prog 4 #[.string s, .int .i64 stop] w fun e w' => e = .returned (.bool true) ∧ Below w.heap.size w w' := by
 by_cases hz : (s.size : Int) ≤ 2147483647
 case neg => exact pairs_big s stop w (by omega)
 rcases text_cases s with ⟨D, K, y0, y1, y2, y3, h⟩ | ⟨hs, hP0, D, K, p, hpl, hI, hT, K2, hg⟩
 ·exact pairs_off _ K s stop w y0 y1 y2 y3 hz h
 have hn : Small s := by unfold Small; omega
 obtain ⟨ty, raw, str, hLf, hr, hrs, hS⟩ := leaf_of hs hP0 hpl
 obtain ⟨h0, hB, hlt, hle, hR, hV, hVR⟩ := places_inv hn hpl
 refine pairs_calls (V_pl D) K2 s stop w _ _ _ _ ty raw str (PL s p ty raw str stop) hW hz hg (fun w hW => ?_) (fun f w hW => ?_) (fun L hL => pairs_told hs hP0 hpl hI hT hS hr stop L hL)
 ·exact gjparse_calls s _ raw str p.f1.toNat _ ty w hW (by omega) (by omega) rfl rfl (fun q hq => by
   have := hB.2.2 (q : Int) (by omega) (by omega)
   unfold isBlank at this
   unfold at_
   omega) hLf hr
 ·refine (each_calls ty raw str f stop (psAll s p ty raw str f) w hW (by omega) hr ?_).mono ?_
  ·rcases hS with ⟨rfl, hk, hraw⟩ | ⟨h5, _⟩
   ·obtain ⟨hl, _⟩ := lies_of hs hP0 hpl hk
    refine .inl ⟨rfl, ?_⟩
    rw [hraw]
    unfold psAll
    rw [if_pos rfl]
    exact hl
   ·refine .inr ⟨h5, ?_⟩
    unfold psAll
    rw [if_neg h5]
    rfl
  ·rintro e w' ⟨v, L0, hT, rfl, ho, hb⟩
   exact ⟨v, L0.map toS, ⟨f, L0, rfl, hT⟩, rfl, ho, hb⟩
end
end Go.Proofs.YtkjnahgicfmicaaGreatDoor.Gj

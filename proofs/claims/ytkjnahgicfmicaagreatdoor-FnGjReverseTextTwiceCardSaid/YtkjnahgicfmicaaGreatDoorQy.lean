import Derived.Test.YtkjnahgicfmicaaGreatDoorZip
import Derived.Test.YtkjnahgicfmicaaGreatDoorFea
import Derived.Test.YtkjnahgicfmicaaGreatDoorQa
import Derived.Test.YtkjnahgicfmicaaGreatDoorQh
import Derived.Test.YtkjnahgicfmicaaGreatDoorQf
import Derived.Test.YtkjnahgicfmicaaGreatDoorQm
import Derived.Deep.RegionHeld3
import Derived.Test.YtkjnahgicfmicaaGreatDoorQw
import Derived.Test.YtkjnahgicfmicaaGreatDoorQx
import Derived.Test.YtkjnahgicfmicaaGreatDoorLr8
import Derived.Test.YtkjnahgicfmicaaGreatDoorQu
import Derived.Test.YtkjnahgicfmicaaGreatDoorSpx7
import Derived.Test.YtkjnahgicfmicaaGreatDoorQt
namespace Go.Proofs.YtkjnahgicfmicaaGreatDoor.Gj
open Go.RowKit Go.PW Go.PL Go.PM Sp Dec
section
attribute [local go_sem] run_store_float max2_int min2_int max_two min_two max_three min_three max_four min_four
set_option linter.unusedVariables false
set_option linter.unusedSimpArgs false
def KS (R : av) (nb ne : Nat) (ks : av) : Prop := nb < ne ∧ ne < R.size ∧ ∃ vesc : Bool,
 (∀ w, Calls Tryz.prog 48 #[.string R, .int .i64 ((nb + 1 : Nat) : Int)] w fun e w' => e = .returned (.tuple #[.int .i64 ((ne + 1 : Nat) : Int), .string (R.extract nb (ne + 1)), .bool vesc, .bool true]) ∧ Below w.heap.size w w') ∧
 (vesc = true → ∀ w, Calls Tryz.prog 49 #[.string (R.extract (nb + 1) ne)] w fun e w' => e = .returned (.string ks) ∧ Below w.heap.size w w') ∧ (vesc = false → R.extract (nb + 1) ne = ks)
inductive OLay (R : av) : Nat → List (GR × GR → Prop) → Prop
 | end_ (i : Nat) : (∀ q, i ≤ q → q < R.size → at_ R q ≠ 34) → OLay R i []
 | item (i nb ne b e : Nat) (ks : av) (P : GR × GR → Prop) (G : GR → Prop) (l : List (GR × GR → Prop)) : i ≤ nb → (∀ q, i ≤ q → q < nb → at_ R q ≠ 34) → at_ R nb = 34 → KS R nb ne ks → ne + 1 ≤ b → b < e → e ≤ R.size → (∀ q, ne + 1 ≤ q → q < b → Skip (at_ R q)) → ¬ Skip (at_ R b) →
  PA R b (fun ok j g => ok = true ∧ j = (e : Int) ∧ ∀ i, G { g with idx := i }) → (∀ zk v, G v → P (⟨3, R.extract nb (ne + 1), ks, 0, zk, none, 0, 0⟩, v)) → OLay R (e + 1) l → OLay R i (P :: l)
def NextO (R S ks : av) (b : Nat) (rest : List (GR × GR → Prop)) (ok : Bool) (j : Int) (g : GR) : Prop :=
 (ok = false ∧ rest = []) ∨ (ok = true ∧ ∃ (P : GR × GR → Prop) (l : List (GR × GR → Prop)) (e : Nat), rest = P :: l ∧ j = (e : Int) ∧ b < e ∧ e ≤ R.size ∧ (∀ i zk, P (⟨3, S, ks, 0, zk, none, 0, 0⟩, { g with idx := i })) ∧ OLay R (e + 1) l)
theorem OLay.inv {R : av} {i : Nat} {rest : List (GR × GR → Prop)} (h : OLay R i rest) (hi : i < R.size) :
 (at_ R i ≠ 34 ∧ OLay R (i + 1) rest) ∨ (at_ R i = 34 ∧ ∃ ne ks b, KS R i ne ks ∧ ne + 1 ≤ b ∧ b ≤ R.size ∧ (∀ q, ne + 1 ≤ q → q < b → Skip (at_ R q)) ∧ (b < R.size → ¬ Skip (at_ R b)) ∧ PA R b (NextO R (R.extract i (ne + 1)) ks b rest)) := by
 cases h with
 | end_ _ h => exact .inl ⟨h i (Nat.le_refl _) hi, .end_ _ (fun q h1 h2 => h q (by omega) h2)⟩
 | item _ nb ne b e ks P G l h1 h2 h3 h4 h5 h6 h7 h8 h9 h10 h11 h12 =>
  by_cases c : i = nb
  ·subst c
   exact .inr ⟨h3, ne, ks, b, h4, h5, by omega, h8, fun _ => h9, h10.mono fun ok j g ⟨a1, a2, a3⟩ => .inr ⟨a1, P, l, e, rfl, a2, h6, h7, fun i zk => h11 zk _ (a3 i), h12⟩⟩
  ·exact .inl ⟨h2 i (Nat.le_refl _) (by omega), .item _ nb ne b e ks P G l (by omega) (fun q g1 g2 => h2 q (by omega) g2) h3 h4 h5 h6 h7 h8 h9 h10 h11 h12⟩
theorem OLay.over {R : av} {i : Nat} {rest : List (GR × GR → Prop)} (h : OLay R i rest) (hi : R.size ≤ i) : rest = [] := by
 cases h with
 | end_ _ h => rfl
 | item _ nb ne b e ks P G l h1 h2 h3 h4 h5 h6 h7 => have := h4.1; have := h4.2.1; omega
set_option maxRecDepth 100000 in
set_option maxHeartbeats 40000000 in
theorem feach_obj {F : FuncId} {caps : Array Value} {cont : Nat → Bool} {It : (Nat → Prop) → List (GR × GR) → World → Prop} (hI : Iter F caps cont It) (R ts : av) (tn : Nat) (ti : Int) (A : Nat → Prop) (w W0 : World)
 (hIt : It A [] w) (hW : Wok W0) (hWB : Below W0.heap.size W0 w) (hWA : ∀ k, k < W0.heap.size → A k) (hs : R.size ≤ 1000000) (hr : 0 < R.size) (hh : at_ R 0 = 123) (ps : List (GR × GR → Prop)) (hL : OLay R 1 ps) (hps : ps.length ≤ 1000000) :
 Calls Tryz.prog 22 #[.agg #[.int .i64 5, .string R, .string ts, .float .f64 tn, .int .i64 ti, .slice none 0 0], .func (.func F) #[] caps] w (FePost cont It A ps w) := by
 have HL := ab hL
 have HI := ab hI
 have HIt := ab hIt
 have HW := ab (And.intro hW (And.intro hWB hWA))
 have HS := ab hs
 have HP := ab hps
 have hx0 : ∀ h : 0 < R.size, ((R[0]'h).toNat : Int) = 123 := fun h => by rw [← hh]; exact bt_at R 0 h
 have e0 : (R = ByteArray.empty) = False := eq_false (fun h => by rw [h] at hr; exact absurd hr (by decide))
 have e1 : (0 < R.size) = True := ag hr
 clear hL hI hIt hW hWB hWA hs hr hh hps
 go_enter Tryz.func22, Tryz.ntmps22
 go_wp2_with (first | (refine ax 2 #[.int .i64 5, .string R, .string ts, .float .f64 tn, .int .i64 ti, .slice none 0 0] 55 ?_; intro b2 hg w1 hz hb; have HB := ab hb; have Z2 := ab hz; have G2 := ab (Nat.le_of_eq hg.symm); obtain ⟨p_0, p_1, p_2, p_3, p_4, p_5, pf_0, pf_1, pf_2, pf_3, pf_4, pf_5⟩ := cz6 hz; clear hb hz hg) | ((with_reducible refine gate_callee (f := 47) rfl ?_); refine goesL_ (some 16) rfl rfl Tryz.func47 (by kernel_rfl) rfl #[.agg #[.int .i64 5, .string R, .string ts, .float .f64 tn, .int .i64 ti, .slice none 0 0]] rfl Z28 ?_; (with_reducible refine (exists_true 5 R ts tn ti (.slice none 0 0) _ (by decide)).mono ?_); rintro e w2 ⟨rfl, hb⟩; refine ⟨_, rfl, ?_⟩; have HB1 := ab (below_step HB.out hb); have Z21 := ab (blk_below Z2.out hb); clear HB Z2 hb p_0 pf_0 p_1 pf_1 p_2 pf_2 p_3 pf_3 p_4 pf_4 p_5 pf_5; obtain ⟨q_0, q_1, q_2, q_3, q_4, q_5, qf_0, qf_1, qf_2, qf_3, qf_4, qf_5⟩ := cz6 Z21.out) | (refine ax 7 #[.int .i64 0, .string (⟨#[]⟩ : av), .string (⟨#[]⟩ : av), .float .f64 (0 : Nat), .int .i64 0, .slice none 0 0] 55 ?_; intro b7 hg w3 hz hb; have HB2 := ab (below_step HB1.out hb); have Z22 := ab (blk_below Z21.out hb); have Z7 := ab hz; have G7 := ab (show b2 < b7 by have := blk_lt Z21.out; omega); clear HB1 Z21 hb hz hg) | (refine ax 8 #[.int .i64 0, .string (⟨#[]⟩ : av), .string (⟨#[]⟩ : av), .float .f64 (0 : Nat), .int .i64 0, .slice none 0 0] 55 ?_; intro b8 hg w4 hz hb; have HF := ab (Fs.new HI.out HIt.out (below_step HB2.out hb) (blk_below Z22.out hb) (blk_below Z7.out hb) hz G2.out G7.out (by have := blk_lt Z7.out; omega)); clear HB2 Z22 hb hz hg Z7 G2 G7))
 (try simp only [Act.put, ap, aq, ar])
 go_loopg [5, 6] 0 (fun kq v5 v6 wd => v5 = .bool false ∧ v6 = .int .i64 0 ∧ Aside0 (wd = w4))
 case atStart => exact ⟨rfl, rfl, ⟨rfl⟩⟩
 case round =>
  obtain ⟨rfl, rfl, ⟨rfl⟩⟩ := hrel
  have n78 := HF.out.n78
  have n87 := Ne.symm HF.out.n78
  have n27 := HF.out.n27
  obtain ⟨r_0, r_1, r_2, r_3, r_4, r_5, rf_0, rf_1, rf_2, rf_3, rf_4, rf_5⟩ := cz6 HF.out.z7
  go_wp2_with ((refine store_event ?hg ?hd (W1 := wr.setCell ⟨b7, 0, none⟩ (.int .i64 3)) ?hr ?_; (case hd => rfl); (case hg => rfl); (case hr => exact Z11); intro w5 hw; have HF1 := ab (HF.out.set7 HI.out 0 _ rfl hw); clear hw HF r_0 rf_0 r_1 rf_1 r_2 rf_2 r_3 rf_3 r_4 rf_4 r_5 rf_5))
  clear HIt hx0
  clear n78 n87 n27
  (try simp only [Act.put, ap, aq, ar])
  go_loopg [6, 12] (R.size + 2) (fun kq v6 v12 wd => ∃ (x6 x12 : Int) (i : Nat) (k1 k2 : av) (k4 : Int) (l1 : List (GR × GR)) (rest : List (GR × GR → Prop)) (y0 : Int) (y1 y2 : av) (y3 : Nat) (y4 : Int) (y5 : Option Addr) (y6 y7 : Nat), v6 = .int .i64 x6 ∧ v12 = .int .i64 x12 ∧ Aside0 (x6 = i ∧ R.size + 2 ≤ kq + i ∧ i ≤ R.size + 1 ∧ OLay R i rest ∧ True ∧ Left cont ps l1 rest) ∧ Aside0 (Fs It A w b2 b7 b8 l1 #[.int .i64 5, .string R, .string ts, .float .f64 tn, .int .i64 ti, .slice none 0 0] #[.int .i64 3, .string k1, .string k2, .float .f64 (0 : Nat), .int .i64 k4, .slice none 0 0] #[.int .i64 y0, .string y1, .string y2, .float .f64 y3, .int .i64 y4, .slice y5 y6 y7] wd))
  case atStart => exact ⟨_, _, 1, _, _, _, [], ps, _, _, _, _, _, _, _, _, rfl, rfl, ⟨rfl, by omega, by omega, HL.out, trivial, Left.start _ _ HP.out⟩, HF1⟩
  case round =>
   clear HF1 HL
   obtain ⟨x6, x12, i, k1, k2, k4, l1, rest, y0, y1, y2, y3, y4, y5, y6, y7, rfl, rfl, HM, HF⟩ := hrel
   cases gk with
   | zero => exact absurd HM.out.2.1 Z61
   | succ gK =>
   by_cases hlt : x6 < (R.size : Int)
   ·have c1 : decide (x6 < (R.size : Int)) = true := ae hlt
    have hi : i < R.size := by have := HM.out.1; omega
    obtain ⟨v, hv⟩ : ∃ v, at_ R i = v := ⟨_, rfl⟩
    have hx : ∀ h : x6.toNat < R.size, ((R[x6.toNat]'h).toNat : Int) = v := fun h => by rw [← hv]; exact at_get R x6 i HM.out.1 h
    have h60 : (0 ≤ x6) = True := ag (by have := HM.out.1; omega)
    have h61 : (x6 < (R.size : Int)) = True := ag hlt
    obtain ⟨z, f0, hz⟩ : ∃ z, IntKind.i64.wrap (x6 + 1) = z ∧ Aside0 (z = ((i + 1 : Nat) : Int)) := ⟨_, wrp (by have := HM.out.1; omega) (by have := HM.out.1; have := HS.out; omega), ⟨by have := HM.out.1; omega⟩⟩
    rcases HM.out.2.2.2.1.inv hi with ⟨h1, h2⟩ | ⟨h1, ne, ks, b, hks, g1, g2, g3, g4, g5⟩
    ·have hne : (v != 34) = true := aj (by rw [← hv]; exact h1)
     have HA := ab h2
     clear h1 h2 hv hlt hi
     go_wp2_with (fail)
     go_roundg gK
     case measure => exact Nat.lt_succ_self gK
     case rel => exact ⟨_, _, i + 1, _, _, _, l1, rest, _, _, _, _, _, _, _, _, rfl, rfl, ⟨hz.out, Z54, by have := HM.out.1; have := ac c1; omega, HA.out, trivial, HM.out.2.2.2.2.2⟩, HF⟩
    ·have hne : (v != 34) = false := ak (by rw [← hv]; exact h1)
     obtain ⟨n1, n2, vesc, p1, p2, p3⟩ := hks
     obtain ⟨S, hS⟩ : ∃ S, R.extract i (ne + 1) = S := ⟨_, rfl⟩
     obtain ⟨T, hT⟩ : ∃ T, R.extract (i + 1) ne = T := ⟨_, rfl⟩
     obtain ⟨r1, hr1⟩ : ∃ r1 : Int, ((ne + 1 : Nat) : Int) = r1 := ⟨_, rfl⟩
     have hSz : S.size = ne + 1 - i := by rw [← hS, ByteArray.size_extract]; omega
     obtain ⟨zs, fs, hzs⟩ : ∃ z, IntKind.i64.wrap ((S.size : Int) - 1) = z ∧ Aside0 (z = ((ne - i : Nat) : Int)) := ⟨_, wrp (by omega) (by have := HS.out; omega), ⟨by omega⟩⟩
     have hcut : S.extract 1 zs.toNat = T := by rw [hzs.out, ← hS, ← hT, ByteArray.extract_extract]; congr 1 <;> omega
     have s1 : (1 ≤ zs) = True := ag (by have := hzs.out; omega)
     have s2 : (zs ≤ (S.size : Int)) = True := ag (by have := hzs.out; omega)
     obtain ⟨zk, fk⟩ : ∃ zk, IntKind.i64.wrap (x6 + ti) = zk := ⟨_, rfl⟩
     rw [hS, hr1] at p1
     rw [hT] at p2 p3
     rw [hS] at g5
     have hz1 := hz.out
     rw [← hz1] at p1
     have HP1 := ab p1
     have HP2 := ab p2
     have HP3 := ab p3
     have HX := ab hr1.symm
     have HX2 := ab (show i ≤ ne + 1 by omega)
     have HG := ab (And.intro g1 (And.intro g2 (And.intro g3 g4)))
     have HPA := ab g5
     clear g1 g2 g3 g4 g5 p1 p2 p3 hr1 hz1 hv h1 hlt hi n1 n2 hS hT hSz
     go_wp2_with (fail)
     refine (HP1.out _).mono ?_
     rintro e w5 ⟨rfl, hb⟩
     have HF1 := ab (HF.out.below HI.out hb)
     clear hb HF HP1
     obtain ⟨q_0, q_1, q_2, q_3, q_4, q_5, qf_0, qf_1, qf_2, qf_3, qf_4, qf_5⟩ := cz6 HF1.out.z2
     obtain ⟨r_0, r_1, r_2, r_3, r_4, r_5, rf_0, rf_1, rf_2, rf_3, rf_4, rf_5⟩ := cz6 HF1.out.z7
     have n78 := HF1.out.n78
     have n87 := Ne.symm HF1.out.n78
     have n27 := HF1.out.n27
     have n72 := Ne.symm HF1.out.n27
     cases vesc with
     | false =>
      obtain rfl := HP3.out rfl
      go_wp2_with (first | (refine store_event ?hg ?hd (W1 := w5.setCell ⟨b7, 2, none⟩ (.string T)) ?hr ?_; (case hd => rfl); (case hg => rfl); (case hr => exact Z11); intro w6 hw; have HF2 := ab (HF1.out.set7 HI.out 2 _ rfl hw); clear hw HF1 q_0 qf_0 q_1 qf_1 q_2 qf_2 q_3 qf_3 q_4 qf_4 q_5 qf_5 r_0 rf_0 r_1 rf_1 r_2 rf_2 r_3 rf_3 r_4 rf_4 r_5 rf_5; obtain ⟨q_0, q_1, q_2, q_3, q_4, q_5, qf_0, qf_1, qf_2, qf_3, qf_4, qf_5⟩ := cz6 HF2.out.z2; obtain ⟨r_0, r_1, r_2, r_3, r_4, r_5, rf_0, rf_1, rf_2, rf_3, rf_4, rf_5⟩ := cz6 HF2.out.z7) | (refine store_event ?hg ?hd (W1 := w6.setCell ⟨b7, 1, none⟩ (.string S)) ?hr ?_; (case hd => rfl); (case hg => rfl); (case hr => exact Z11); intro w7 hw; have HF3 := ab (HF2.out.set7 HI.out 1 _ rfl hw); clear hw HF2 q_0 qf_0 q_1 qf_1 q_2 qf_2 q_3 qf_3 q_4 qf_4 q_5 qf_5 r_0 rf_0 r_1 rf_1 r_2 rf_2 r_3 rf_3 r_4 rf_4 r_5 rf_5; obtain ⟨q_0, q_1, q_2, q_3, q_4, q_5, qf_0, qf_1, qf_2, qf_3, qf_4, qf_5⟩ := cz6 HF3.out.z2; obtain ⟨r_0, r_1, r_2, r_3, r_4, r_5, rf_0, rf_1, rf_2, rf_3, rf_4, rf_5⟩ := cz6 HF3.out.z7) | (refine store_event ?hg ?hd (W1 := w7.setCell ⟨b7, 4, none⟩ (.int .i64 zk)) ?hr ?_; (case hd => rfl); (case hg => rfl); (case hr => exact Z11); intro w10 hw; have HF4 := ab (HF3.out.set7 HI.out 4 _ rfl hw); clear hw HF3 q_0 qf_0 q_1 qf_1 q_2 qf_2 q_3 qf_3 q_4 qf_4 q_5 qf_5 r_0 rf_0 r_1 rf_1 r_2 rf_2 r_3 rf_3 r_4 rf_4 r_5 rf_5; obtain ⟨q_0, q_1, q_2, q_3, q_4, q_5, qf_0, qf_1, qf_2, qf_3, qf_4, qf_5⟩ := cz6 HF4.out.z2; obtain ⟨r_0, r_1, r_2, r_3, r_4, r_5, rf_0, rf_1, rf_2, rf_3, rf_4, rf_5⟩ := cz6 HF4.out.z7))
      (try simp only [Act.put, ap, aq, ar])
      go_loopg [6] R.size (fun kq v6 wd => ∃ (z6 : Int) (q : Nat), v6 = .int .i64 z6 ∧ Aside0 (z6 = q ∧ (ne + 1) ≤ q ∧ q ≤ b ∧ b ≤ kq + q) ∧ Aside0 (wd = w10))
      case atStart => exact ⟨_, (ne + 1), rfl, ⟨by first | exact HM.out.1 | exact HX.out, Nat.le_refl _, HG.out.1, by have := HG.out.2.1; omega⟩, ⟨rfl⟩⟩
      case round =>
       obtain ⟨z6, q, rfl, HQ, ⟨rfl⟩⟩ := hrel
       obtain ⟨wo, rfl⟩ : ∃ wo : World, wo = wr := ⟨_, rfl⟩
       try clear r_0 rf_0 r_1 rf_1 r_2 rf_2 r_3 rf_3 r_4 rf_4 r_5 rf_5 hR1 n78 n87 n27 q_0 qf_0 q_1 qf_1 q_2 qf_2 q_3 qf_3 q_4 qf_4 q_5 qf_5
       by_cases hqb : q < b
       ·cases gk with
        | zero => exact absurd hqb Z60
        | succ gj =>
        have c2 : decide (z6 < (R.size : Int)) = true := ae (by have := HQ.out.1; have := HG.out.2.1; omega)
        obtain ⟨v, hv⟩ : ∃ v, at_ R q = v := ⟨_, rfl⟩
        have hx : ∀ h : z6.toNat < R.size, ((R[z6.toNat]'h).toNat : Int) = v := fun h => by rw [← hv]; exact at_get R z6 q HQ.out.1 h
        have h60 : (0 ≤ z6) = True := ag (by have := HQ.out.1; omega)
        have h61 : (z6 < (R.size : Int)) = True := ag (ac c2)
        obtain ⟨z, f0, hz⟩ : ∃ z, IntKind.i64.wrap (z6 + 1) = z ∧ Aside0 (z = ((q + 1 : Nat) : Int)) := ⟨_, wrp (by have := HQ.out.1; omega) (by have := HQ.out.1; have := HG.out.2.1; have := HS.out; omega), ⟨by have := HQ.out.1; omega⟩⟩
        have hsk := HG.out.2.2.1 q HQ.out.2.1 hqb
        rw [hv] at hsk
        have hways : decide (v ≤ 32) = true ∨ (decide (v ≤ 32) = false ∧ v = 44) ∨ (decide (v ≤ 32) = false ∧ v = 58) := by
         unfold Skip at hsk
         by_cases h1 : v ≤ 32
         ·exact .inl (ae h1)
         ·rcases hsk with h | h | h
          ·exact absurd h h1
          ·exact .inr (.inl ⟨af h1, h⟩)
          ·exact .inr (.inr ⟨af h1, h⟩)
        clear hsk hv
        rcases hways with h1 | ⟨h1, rfl⟩ | ⟨h1, rfl⟩
        all_goals
         go_wp2_with (fail)
         go_roundg gj
         case measure => exact Nat.lt_succ_self gj
         case rel => exact ⟨_, q + 1, rfl, ⟨by have := hz.out; have := f0; omega, by have := HQ.out.2.1; omega, by omega, Z60⟩, ⟨rfl⟩⟩
       ·obtain rfl : q = b := by have := HQ.out.2.2.1; omega
        have HZ := ab HQ.out.1
        have HPB := ab (show PA R z6 (NextO R S T q rest) by rw [HQ.out.1]; exact HPA.out)
        clear HPA HQ hqb
        have stop : (decide (z6 < (R.size : Int)) = false) ∨ (decide (z6 < (R.size : Int)) = true ∧ (z6 < (R.size : Int)) = True ∧ ∃ v : Int, (∀ h : z6.toNat < R.size, ((R[z6.toNat]'h).toNat : Int) = v) ∧ decide (v ≤ 32) = false ∧ (v == 44) = false ∧ (v == 58) = false) := by
         by_cases h : q < R.size
         ·have h1 := HG.out.2.2.2 h
          unfold Skip at h1
          exact .inr ⟨ae (by have := HZ.out; omega), ag (by have := HZ.out; omega), at_ R q, at_get R z6 q HZ.out, af (by omega), ah (by omega), ah (by omega)⟩
         ·exact .inl (af (by have := HZ.out; omega))
        have h60 : (0 ≤ z6) = True := ag (by have := HZ.out; omega)
        obtain ⟨q_0, q_1, q_2, q_3, q_4, q_5, qf_0, qf_1, qf_2, qf_3, qf_4, qf_5⟩ := cz6 HF4.out.z2
        obtain ⟨r_0, r_1, r_2, r_3, r_4, r_5, rf_0, rf_1, rf_2, rf_3, rf_4, rf_5⟩ := cz6 HF4.out.z7
        obtain ⟨s_0, s_1, s_2, s_3, s_4, s_5, sf_0, sf_1, sf_2, sf_3, sf_4, sf_5⟩ := cz6 HF4.out.z8
        have HWK := ab (HF4.out.wok HW.out)
        rcases stop with c2 | ⟨c2, c3, v, hx, h1, h2, h3⟩
        all_goals
         go_wp2_with (fail)
         refine (PA.calls HPB.out HWK.out).mono ?_
         rintro e w8 ⟨ok, j, ⟨g0, g1, g2, g3, g4, g5, g6, g7⟩, hq, he, hb⟩
         obtain rfl : e = .returned (.tuple #[.int .i64 j, .agg #[.int .i64 g0, .string g1, .string g2, .float .f64 g3, .int .i64 g4, .slice g5 g6 g7], .bool ok]) := he
         have HN1 := ab hq
         have HF2 := ab (HF4.out.below HI.out hb)
         clear hq hb HWK q_0 qf_0 q_1 qf_1 q_2 qf_2 q_3 qf_3 q_4 qf_4 q_5 qf_5 r_0 rf_0 r_1 rf_1 r_2 rf_2 r_3 rf_3 r_4 rf_4 r_5 rf_5 s_0 sf_0 s_1 sf_1 s_2 sf_2 s_3 sf_3 s_4 sf_4 s_5 sf_5
         obtain ⟨s_0, s_1, s_2, s_3, s_4, s_5, sf_0, sf_1, sf_2, sf_3, sf_4, sf_5⟩ := cz6 HF2.out.z8
         go_upto_region 41 with ((refine store_event ?hg ?hd (W1 := (((((w8.setCell ⟨b8, 0, none⟩ (.int .i64 g0)).setCell ⟨b8, 1, none⟩ (.string g1)).setCell ⟨b8, 2, none⟩ (.string g2)).setCell ⟨b8, 3, none⟩ (.float .f64 g3)).setCell ⟨b8, 4, none⟩ (.int .i64 g4)).setCell ⟨b8, 5, none⟩ (.slice g5 g6 g7)) ?hr ?_; (case hd => rfl); (case hg => rfl); (case hr => exact Z11); intro w9 hw; have HF3 := ab (HF2.out.set55 HI.out _ _ _ _ _ _ hw); clear hw HF2 s_0 sf_0 s_1 sf_1 s_2 sf_2 s_3 sf_3 s_4 sf_4 s_5 sf_5))
         rcases HN1.out with ⟨rfl, rfl⟩ | ⟨rfl, G, l, e1, rfl, hj, he1, he2, hG, hAL⟩
         ·clear HN1
          go_wp2_with (fail)
          refine bodyPost_ret (results_list (rs := []) rfl (by simp) .nil) rfl ?_
          exact ⟨rfl, l1, HM.out.2.2.2.2.2.done, HI.out.less HF3.out.it (fun _ h => .inl h), HF3.out.kp⟩
         ·clear HN1
          have HJ := ab (And.intro hj (And.intro he1 (And.intro he2 (And.intro hG hAL))))
          obtain ⟨zi, f1⟩ : ∃ zi, IntKind.i64.wrap (z6 + ti) = zi := ⟨_, rfl⟩
          obtain ⟨zj, f2, hzj⟩ : ∃ z, IntKind.i64.wrap (j + 1) = z ∧ Aside0 (z = ((e1 + 1 : Nat) : Int)) := ⟨_, wrp (by omega) (by have := HS.out; omega), ⟨by omega⟩⟩
          obtain ⟨z12, f3⟩ : ∃ z, IntKind.i64.wrap (x12 + 1) = z := ⟨_, rfl⟩
          obtain ⟨cb, hcb⟩ : ∃ cb, cont (l1.length + 1) = cb := ⟨_, rfl⟩
          have HCB := ab hcb
          have HFN := ab HI.out.fn
          clear hj he1 he2 hG hAL hcb
          have n78 := HF3.out.n78
          have n87 := Ne.symm HF3.out.n78
          have n28 := HF3.out.n28
          have n27 := HF3.out.n27
          obtain ⟨q_0, q_1, q_2, q_3, q_4, q_5, qf_0, qf_1, qf_2, qf_3, qf_4, qf_5⟩ := cz6 HF3.out.z2
          obtain ⟨r_0, r_1, r_2, r_3, r_4, r_5, rf_0, rf_1, rf_2, rf_3, rf_4, rf_5⟩ := cz6 HF3.out.z7
          obtain ⟨s_0, s_1, s_2, s_3, s_4, s_5, sf_0, sf_1, sf_2, sf_3, sf_4, sf_5⟩ := cz6 HF3.out.z8
          cases cb with
          | false =>
           go_wp2_with (first | (refine store_event ?hg ?hd (W1 := w9.setCell ⟨b8, 4, none⟩ (.int .i64 zi)) ?hr ?_; (case hd => rfl); (case hg => rfl); (case hr => exact Z11); intro w10 hw; have HF4 := ab (HF3.out.set8 HI.out 4 _ rfl hw); clear hw HF3 n78 n87 n28 n27 q_0 qf_0 q_1 qf_1 q_2 qf_2 q_3 qf_3 q_4 qf_4 q_5 qf_5 r_0 rf_0 r_1 rf_1 r_2 rf_2 r_3 rf_3 r_4 rf_4 r_5 rf_5 s_0 sf_0 s_1 sf_1 s_2 sf_2 s_3 sf_3 s_4 sf_4 s_5 sf_5; obtain ⟨r_0, r_1, r_2, r_3, r_4, r_5, rf_0, rf_1, rf_2, rf_3, rf_4, rf_5⟩ := cz6 HF4.out.z7; obtain ⟨s_0, s_1, s_2, s_3, s_4, s_5, sf_0, sf_1, sf_2, sf_3, sf_4, sf_5⟩ := cz6 HF4.out.z8) | ((with_reducible refine gate_dst (N := 154) rfl ?_); obtain ⟨fn, hf1, hf2, hf3⟩ := HFN.out; refine goesV_ (some 154) rfl rfl hf1 hf2 hf3 (#[GR.v ⟨3, S, T, 0, zk, none, 0, 0⟩, GR.v ⟨g0, g1, g2, g3, zi, g5, g6, g7⟩] ++ caps) rfl rfl Z28 ?_; refine (HI.out.call ⟨3, S, T, 0, zk, none, 0, 0⟩ ⟨g0, g1, g2, g3, zi, g5, g6, g7⟩ HF4.out.it Z74).mono ?_; rintro e w11 ⟨he, hit, hkp⟩; rw [HCB.out] at he; subst he; refine ⟨_, rfl, ?_⟩; have HF5 := ab (HF4.out.called hit hkp); clear hit hkp HF4 hf1 hf2 hf3 r_0 rf_0 r_1 rf_1 r_2 rf_2 r_3 rf_3 r_4 rf_4 r_5 rf_5 s_0 sf_0 s_1 sf_1 s_2 sf_2 s_3 sf_3 s_4 sf_4 s_5 sf_5))
           refine bodyPost_ret (results_list (rs := []) rfl (by simp) .nil) rfl ?_
           exact ⟨rfl, l1 ++ [(⟨3, S, T, 0, zk, none, 0, 0⟩, ⟨g0, g1, g2, g3, zi, g5, g6, g7⟩)], HM.out.2.2.2.2.2.stop (HJ.out.2.2.2.1 zi zk) HCB.out, HI.out.less HF5.out.it (fun _ h => .inl h), HF5.out.kp⟩
          | true =>
           go_wp2_with (first | (refine store_event ?hg ?hd (W1 := w9.setCell ⟨b8, 4, none⟩ (.int .i64 zi)) ?hr ?_; (case hd => rfl); (case hg => rfl); (case hr => exact Z11); intro w10 hw; have HF4 := ab (HF3.out.set8 HI.out 4 _ rfl hw); clear hw HF3 n78 n87 n28 n27 q_0 qf_0 q_1 qf_1 q_2 qf_2 q_3 qf_3 q_4 qf_4 q_5 qf_5 r_0 rf_0 r_1 rf_1 r_2 rf_2 r_3 rf_3 r_4 rf_4 r_5 rf_5 s_0 sf_0 s_1 sf_1 s_2 sf_2 s_3 sf_3 s_4 sf_4 s_5 sf_5; obtain ⟨r_0, r_1, r_2, r_3, r_4, r_5, rf_0, rf_1, rf_2, rf_3, rf_4, rf_5⟩ := cz6 HF4.out.z7; obtain ⟨s_0, s_1, s_2, s_3, s_4, s_5, sf_0, sf_1, sf_2, sf_3, sf_4, sf_5⟩ := cz6 HF4.out.z8) | ((with_reducible refine gate_dst (N := 154) rfl ?_); obtain ⟨fn, hf1, hf2, hf3⟩ := HFN.out; refine goesV_ (some 154) rfl rfl hf1 hf2 hf3 (#[GR.v ⟨3, S, T, 0, zk, none, 0, 0⟩, GR.v ⟨g0, g1, g2, g3, zi, g5, g6, g7⟩] ++ caps) rfl rfl Z28 ?_; refine (HI.out.call ⟨3, S, T, 0, zk, none, 0, 0⟩ ⟨g0, g1, g2, g3, zi, g5, g6, g7⟩ HF4.out.it Z74).mono ?_; rintro e w11 ⟨he, hit, hkp⟩; rw [HCB.out] at he; subst he; refine ⟨_, rfl, ?_⟩; have HF5 := ab (HF4.out.called hit hkp); clear hit hkp HF4 hf1 hf2 hf3 r_0 rf_0 r_1 rf_1 r_2 rf_2 r_3 rf_3 r_4 rf_4 r_5 rf_5 s_0 sf_0 s_1 sf_1 s_2 sf_2 s_3 sf_3 s_4 sf_4 s_5 sf_5))
           go_roundg gK
           case measure => exact Nat.lt_succ_self gK
           case rel => exact ⟨_, _, e1 + 1, _, _, _, l1 ++ [(⟨3, S, T, 0, zk, none, 0, 0⟩, ⟨g0, g1, g2, g3, zi, g5, g6, g7⟩)], l, _, _, _, _, _, _, _, _, rfl, rfl, ⟨hzj.out, Z72, by have := HJ.out.2.2.1; omega, HJ.out.2.2.2.2, trivial, HM.out.2.2.2.2.2.more (HJ.out.2.2.2.1 zi zk) HCB.out⟩, HF5⟩
     | true =>
      go_wp2_with (fail)
      refine (HP2.out (by trivial) _).mono ?_
      rintro e w55 ⟨rfl, hb⟩
      have HF11 := ab (HF1.out.below HI.out hb)
      clear hb HF1 q_0 qf_0 q_1 qf_1 q_2 qf_2 q_3 qf_3 q_4 qf_4 q_5 qf_5 r_0 rf_0 r_1 rf_1 r_2 rf_2 r_3 rf_3 r_4 rf_4 r_5 rf_5
      obtain ⟨q_0, q_1, q_2, q_3, q_4, q_5, qf_0, qf_1, qf_2, qf_3, qf_4, qf_5⟩ := cz6 HF11.out.z2
      obtain ⟨r_0, r_1, r_2, r_3, r_4, r_5, rf_0, rf_1, rf_2, rf_3, rf_4, rf_5⟩ := cz6 HF11.out.z7
      go_wp2_with (first | (refine store_event ?hg ?hd (W1 := w55.setCell ⟨b7, 2, none⟩ (.string ks)) ?hr ?_; (case hd => rfl); (case hg => rfl); (case hr => exact Z11); intro w6 hw; have HF2 := ab (HF11.out.set7 HI.out 2 _ rfl hw); clear hw HF11 q_0 qf_0 q_1 qf_1 q_2 qf_2 q_3 qf_3 q_4 qf_4 q_5 qf_5 r_0 rf_0 r_1 rf_1 r_2 rf_2 r_3 rf_3 r_4 rf_4 r_5 rf_5; obtain ⟨q_0, q_1, q_2, q_3, q_4, q_5, qf_0, qf_1, qf_2, qf_3, qf_4, qf_5⟩ := cz6 HF2.out.z2; obtain ⟨r_0, r_1, r_2, r_3, r_4, r_5, rf_0, rf_1, rf_2, rf_3, rf_4, rf_5⟩ := cz6 HF2.out.z7) | (refine store_event ?hg ?hd (W1 := w6.setCell ⟨b7, 1, none⟩ (.string S)) ?hr ?_; (case hd => rfl); (case hg => rfl); (case hr => exact Z11); intro w7 hw; have HF3 := ab (HF2.out.set7 HI.out 1 _ rfl hw); clear hw HF2 q_0 qf_0 q_1 qf_1 q_2 qf_2 q_3 qf_3 q_4 qf_4 q_5 qf_5 r_0 rf_0 r_1 rf_1 r_2 rf_2 r_3 rf_3 r_4 rf_4 r_5 rf_5; obtain ⟨q_0, q_1, q_2, q_3, q_4, q_5, qf_0, qf_1, qf_2, qf_3, qf_4, qf_5⟩ := cz6 HF3.out.z2; obtain ⟨r_0, r_1, r_2, r_3, r_4, r_5, rf_0, rf_1, rf_2, rf_3, rf_4, rf_5⟩ := cz6 HF3.out.z7) | (refine store_event ?hg ?hd (W1 := w7.setCell ⟨b7, 4, none⟩ (.int .i64 zk)) ?hr ?_; (case hd => rfl); (case hg => rfl); (case hr => exact Z11); intro w10 hw; have HF4 := ab (HF3.out.set7 HI.out 4 _ rfl hw); clear hw HF3 q_0 qf_0 q_1 qf_1 q_2 qf_2 q_3 qf_3 q_4 qf_4 q_5 qf_5 r_0 rf_0 r_1 rf_1 r_2 rf_2 r_3 rf_3 r_4 rf_4 r_5 rf_5; obtain ⟨q_0, q_1, q_2, q_3, q_4, q_5, qf_0, qf_1, qf_2, qf_3, qf_4, qf_5⟩ := cz6 HF4.out.z2; obtain ⟨r_0, r_1, r_2, r_3, r_4, r_5, rf_0, rf_1, rf_2, rf_3, rf_4, rf_5⟩ := cz6 HF4.out.z7))
      (try simp only [Act.put, ap, aq, ar])
      go_loopg [6] R.size (fun kq v6 wd => ∃ (z6 : Int) (q : Nat), v6 = .int .i64 z6 ∧ Aside0 (z6 = q ∧ (ne + 1) ≤ q ∧ q ≤ b ∧ b ≤ kq + q) ∧ Aside0 (wd = w10))
      case atStart => exact ⟨_, (ne + 1), rfl, ⟨by first | exact HM.out.1 | exact HX.out, Nat.le_refl _, HG.out.1, by have := HG.out.2.1; omega⟩, ⟨rfl⟩⟩
      case round =>
       obtain ⟨z6, q, rfl, HQ, ⟨rfl⟩⟩ := hrel
       obtain ⟨wo, rfl⟩ : ∃ wo : World, wo = wr := ⟨_, rfl⟩
       try clear r_0 rf_0 r_1 rf_1 r_2 rf_2 r_3 rf_3 r_4 rf_4 r_5 rf_5 hR1 n78 n87 n27 q_0 qf_0 q_1 qf_1 q_2 qf_2 q_3 qf_3 q_4 qf_4 q_5 qf_5
       by_cases hqb : q < b
       ·cases gk with
        | zero => exact absurd hqb Z60
        | succ gj =>
        have c2 : decide (z6 < (R.size : Int)) = true := ae (by have := HQ.out.1; have := HG.out.2.1; omega)
        obtain ⟨v, hv⟩ : ∃ v, at_ R q = v := ⟨_, rfl⟩
        have hx : ∀ h : z6.toNat < R.size, ((R[z6.toNat]'h).toNat : Int) = v := fun h => by rw [← hv]; exact at_get R z6 q HQ.out.1 h
        have h60 : (0 ≤ z6) = True := ag (by have := HQ.out.1; omega)
        have h61 : (z6 < (R.size : Int)) = True := ag (ac c2)
        obtain ⟨z, f0, hz⟩ : ∃ z, IntKind.i64.wrap (z6 + 1) = z ∧ Aside0 (z = ((q + 1 : Nat) : Int)) := ⟨_, wrp (by have := HQ.out.1; omega) (by have := HQ.out.1; have := HG.out.2.1; have := HS.out; omega), ⟨by have := HQ.out.1; omega⟩⟩
        have hsk := HG.out.2.2.1 q HQ.out.2.1 hqb
        rw [hv] at hsk
        have hways : decide (v ≤ 32) = true ∨ (decide (v ≤ 32) = false ∧ v = 44) ∨ (decide (v ≤ 32) = false ∧ v = 58) := by
         unfold Skip at hsk
         by_cases h1 : v ≤ 32
         ·exact .inl (ae h1)
         ·rcases hsk with h | h | h
          ·exact absurd h h1
          ·exact .inr (.inl ⟨af h1, h⟩)
          ·exact .inr (.inr ⟨af h1, h⟩)
        clear hsk hv
        rcases hways with h1 | ⟨h1, rfl⟩ | ⟨h1, rfl⟩
        all_goals
         go_wp2_with (fail)
         go_roundg gj
         case measure => exact Nat.lt_succ_self gj
         case rel => exact ⟨_, q + 1, rfl, ⟨by have := hz.out; have := f0; omega, by have := HQ.out.2.1; omega, by omega, Z60⟩, ⟨rfl⟩⟩
       ·obtain rfl : q = b := by have := HQ.out.2.2.1; omega
        have HZ := ab HQ.out.1
        have HPB := ab (show PA R z6 (NextO R S ks q rest) by rw [HQ.out.1]; exact HPA.out)
        clear HPA HQ hqb
        have stop : (decide (z6 < (R.size : Int)) = false) ∨ (decide (z6 < (R.size : Int)) = true ∧ (z6 < (R.size : Int)) = True ∧ ∃ v : Int, (∀ h : z6.toNat < R.size, ((R[z6.toNat]'h).toNat : Int) = v) ∧ decide (v ≤ 32) = false ∧ (v == 44) = false ∧ (v == 58) = false) := by
         by_cases h : q < R.size
         ·have h1 := HG.out.2.2.2 h
          unfold Skip at h1
          exact .inr ⟨ae (by have := HZ.out; omega), ag (by have := HZ.out; omega), at_ R q, at_get R z6 q HZ.out, af (by omega), ah (by omega), ah (by omega)⟩
         ·exact .inl (af (by have := HZ.out; omega))
        have h60 : (0 ≤ z6) = True := ag (by have := HZ.out; omega)
        obtain ⟨q_0, q_1, q_2, q_3, q_4, q_5, qf_0, qf_1, qf_2, qf_3, qf_4, qf_5⟩ := cz6 HF4.out.z2
        obtain ⟨r_0, r_1, r_2, r_3, r_4, r_5, rf_0, rf_1, rf_2, rf_3, rf_4, rf_5⟩ := cz6 HF4.out.z7
        obtain ⟨s_0, s_1, s_2, s_3, s_4, s_5, sf_0, sf_1, sf_2, sf_3, sf_4, sf_5⟩ := cz6 HF4.out.z8
        have HWK := ab (HF4.out.wok HW.out)
        rcases stop with c2 | ⟨c2, c3, v, hx, h1, h2, h3⟩
        all_goals
         go_wp2_with (fail)
         refine (PA.calls HPB.out HWK.out).mono ?_
         rintro e w8 ⟨ok, j, ⟨g0, g1, g2, g3, g4, g5, g6, g7⟩, hq, he, hb⟩
         obtain rfl : e = .returned (.tuple #[.int .i64 j, .agg #[.int .i64 g0, .string g1, .string g2, .float .f64 g3, .int .i64 g4, .slice g5 g6 g7], .bool ok]) := he
         have HN1 := ab hq
         have HF2 := ab (HF4.out.below HI.out hb)
         clear hq hb HWK q_0 qf_0 q_1 qf_1 q_2 qf_2 q_3 qf_3 q_4 qf_4 q_5 qf_5 r_0 rf_0 r_1 rf_1 r_2 rf_2 r_3 rf_3 r_4 rf_4 r_5 rf_5 s_0 sf_0 s_1 sf_1 s_2 sf_2 s_3 sf_3 s_4 sf_4 s_5 sf_5
         obtain ⟨s_0, s_1, s_2, s_3, s_4, s_5, sf_0, sf_1, sf_2, sf_3, sf_4, sf_5⟩ := cz6 HF2.out.z8
         go_upto_region 41 with ((refine store_event ?hg ?hd (W1 := (((((w8.setCell ⟨b8, 0, none⟩ (.int .i64 g0)).setCell ⟨b8, 1, none⟩ (.string g1)).setCell ⟨b8, 2, none⟩ (.string g2)).setCell ⟨b8, 3, none⟩ (.float .f64 g3)).setCell ⟨b8, 4, none⟩ (.int .i64 g4)).setCell ⟨b8, 5, none⟩ (.slice g5 g6 g7)) ?hr ?_; (case hd => rfl); (case hg => rfl); (case hr => exact Z11); intro w9 hw; have HF3 := ab (HF2.out.set55 HI.out _ _ _ _ _ _ hw); clear hw HF2 s_0 sf_0 s_1 sf_1 s_2 sf_2 s_3 sf_3 s_4 sf_4 s_5 sf_5))
         rcases HN1.out with ⟨rfl, rfl⟩ | ⟨rfl, G, l, e1, rfl, hj, he1, he2, hG, hAL⟩
         ·clear HN1
          go_wp2_with (fail)
          refine bodyPost_ret (results_list (rs := []) rfl (by simp) .nil) rfl ?_
          exact ⟨rfl, l1, HM.out.2.2.2.2.2.done, HI.out.less HF3.out.it (fun _ h => .inl h), HF3.out.kp⟩
         ·clear HN1
          have HJ := ab (And.intro hj (And.intro he1 (And.intro he2 (And.intro hG hAL))))
          obtain ⟨zi, f1⟩ : ∃ zi, IntKind.i64.wrap (z6 + ti) = zi := ⟨_, rfl⟩
          obtain ⟨zj, f2, hzj⟩ : ∃ z, IntKind.i64.wrap (j + 1) = z ∧ Aside0 (z = ((e1 + 1 : Nat) : Int)) := ⟨_, wrp (by omega) (by have := HS.out; omega), ⟨by omega⟩⟩
          obtain ⟨z12, f3⟩ : ∃ z, IntKind.i64.wrap (x12 + 1) = z := ⟨_, rfl⟩
          obtain ⟨cb, hcb⟩ : ∃ cb, cont (l1.length + 1) = cb := ⟨_, rfl⟩
          have HCB := ab hcb
          have HFN := ab HI.out.fn
          clear hj he1 he2 hG hAL hcb
          have n78 := HF3.out.n78
          have n87 := Ne.symm HF3.out.n78
          have n28 := HF3.out.n28
          have n27 := HF3.out.n27
          obtain ⟨q_0, q_1, q_2, q_3, q_4, q_5, qf_0, qf_1, qf_2, qf_3, qf_4, qf_5⟩ := cz6 HF3.out.z2
          obtain ⟨r_0, r_1, r_2, r_3, r_4, r_5, rf_0, rf_1, rf_2, rf_3, rf_4, rf_5⟩ := cz6 HF3.out.z7
          obtain ⟨s_0, s_1, s_2, s_3, s_4, s_5, sf_0, sf_1, sf_2, sf_3, sf_4, sf_5⟩ := cz6 HF3.out.z8
          cases cb with
          | false =>
           go_wp2_with (first | (refine store_event ?hg ?hd (W1 := w9.setCell ⟨b8, 4, none⟩ (.int .i64 zi)) ?hr ?_; (case hd => rfl); (case hg => rfl); (case hr => exact Z11); intro w10 hw; have HF4 := ab (HF3.out.set8 HI.out 4 _ rfl hw); clear hw HF3 n78 n87 n28 n27 q_0 qf_0 q_1 qf_1 q_2 qf_2 q_3 qf_3 q_4 qf_4 q_5 qf_5 r_0 rf_0 r_1 rf_1 r_2 rf_2 r_3 rf_3 r_4 rf_4 r_5 rf_5 s_0 sf_0 s_1 sf_1 s_2 sf_2 s_3 sf_3 s_4 sf_4 s_5 sf_5; obtain ⟨r_0, r_1, r_2, r_3, r_4, r_5, rf_0, rf_1, rf_2, rf_3, rf_4, rf_5⟩ := cz6 HF4.out.z7; obtain ⟨s_0, s_1, s_2, s_3, s_4, s_5, sf_0, sf_1, sf_2, sf_3, sf_4, sf_5⟩ := cz6 HF4.out.z8) | ((with_reducible refine gate_dst (N := 154) rfl ?_); obtain ⟨fn, hf1, hf2, hf3⟩ := HFN.out; refine goesV_ (some 154) rfl rfl hf1 hf2 hf3 (#[GR.v ⟨3, S, ks, 0, zk, none, 0, 0⟩, GR.v ⟨g0, g1, g2, g3, zi, g5, g6, g7⟩] ++ caps) rfl rfl Z28 ?_; refine (HI.out.call ⟨3, S, ks, 0, zk, none, 0, 0⟩ ⟨g0, g1, g2, g3, zi, g5, g6, g7⟩ HF4.out.it Z74).mono ?_; rintro e w11 ⟨he, hit, hkp⟩; rw [HCB.out] at he; subst he; refine ⟨_, rfl, ?_⟩; have HF5 := ab (HF4.out.called hit hkp); clear hit hkp HF4 hf1 hf2 hf3 r_0 rf_0 r_1 rf_1 r_2 rf_2 r_3 rf_3 r_4 rf_4 r_5 rf_5 s_0 sf_0 s_1 sf_1 s_2 sf_2 s_3 sf_3 s_4 sf_4 s_5 sf_5))
           refine bodyPost_ret (results_list (rs := []) rfl (by simp) .nil) rfl ?_
           exact ⟨rfl, l1 ++ [(⟨3, S, ks, 0, zk, none, 0, 0⟩, ⟨g0, g1, g2, g3, zi, g5, g6, g7⟩)], HM.out.2.2.2.2.2.stop (HJ.out.2.2.2.1 zi zk) HCB.out, HI.out.less HF5.out.it (fun _ h => .inl h), HF5.out.kp⟩
          | true =>
           go_wp2_with (first | (refine store_event ?hg ?hd (W1 := w9.setCell ⟨b8, 4, none⟩ (.int .i64 zi)) ?hr ?_; (case hd => rfl); (case hg => rfl); (case hr => exact Z11); intro w10 hw; have HF4 := ab (HF3.out.set8 HI.out 4 _ rfl hw); clear hw HF3 n78 n87 n28 n27 q_0 qf_0 q_1 qf_1 q_2 qf_2 q_3 qf_3 q_4 qf_4 q_5 qf_5 r_0 rf_0 r_1 rf_1 r_2 rf_2 r_3 rf_3 r_4 rf_4 r_5 rf_5 s_0 sf_0 s_1 sf_1 s_2 sf_2 s_3 sf_3 s_4 sf_4 s_5 sf_5; obtain ⟨r_0, r_1, r_2, r_3, r_4, r_5, rf_0, rf_1, rf_2, rf_3, rf_4, rf_5⟩ := cz6 HF4.out.z7; obtain ⟨s_0, s_1, s_2, s_3, s_4, s_5, sf_0, sf_1, sf_2, sf_3, sf_4, sf_5⟩ := cz6 HF4.out.z8) | ((with_reducible refine gate_dst (N := 154) rfl ?_); obtain ⟨fn, hf1, hf2, hf3⟩ := HFN.out; refine goesV_ (some 154) rfl rfl hf1 hf2 hf3 (#[GR.v ⟨3, S, ks, 0, zk, none, 0, 0⟩, GR.v ⟨g0, g1, g2, g3, zi, g5, g6, g7⟩] ++ caps) rfl rfl Z28 ?_; refine (HI.out.call ⟨3, S, ks, 0, zk, none, 0, 0⟩ ⟨g0, g1, g2, g3, zi, g5, g6, g7⟩ HF4.out.it Z74).mono ?_; rintro e w11 ⟨he, hit, hkp⟩; rw [HCB.out] at he; subst he; refine ⟨_, rfl, ?_⟩; have HF5 := ab (HF4.out.called hit hkp); clear hit hkp HF4 hf1 hf2 hf3 r_0 rf_0 r_1 rf_1 r_2 rf_2 r_3 rf_3 r_4 rf_4 r_5 rf_5 s_0 sf_0 s_1 sf_1 s_2 sf_2 s_3 sf_3 s_4 sf_4 s_5 sf_5))
           go_roundg gK
           case measure => exact Nat.lt_succ_self gK
           case rel => exact ⟨_, _, e1 + 1, _, _, _, l1 ++ [(⟨3, S, ks, 0, zk, none, 0, 0⟩, ⟨g0, g1, g2, g3, zi, g5, g6, g7⟩)], l, _, _, _, _, _, _, _, _, rfl, rfl, ⟨hzj.out, Z72, by have := HJ.out.2.2.1; omega, HJ.out.2.2.2.2, trivial, HM.out.2.2.2.2.2.more (HJ.out.2.2.2.1 zi zk) HCB.out⟩, HF5⟩
   ·have c1 : decide (x6 < (R.size : Int)) = false := af hlt
    have hrest := HM.out.2.2.2.1.over (by have := HM.out.1; omega)
    subst hrest
    go_wp2_with (fail)
    refine bodyPost_ret (results_list (rs := []) rfl (by simp) .nil) rfl ?_
    exact ⟨rfl, l1, HM.out.2.2.2.2.2.done, HI.out.less HF.out.it (fun _ h => .inl h), HF.out.kp⟩
end
section
attribute [local go_sem] run_store_float max2_int min2_int max_two min_two max_three min_three max_four min_four
set_option linter.unusedVariables false
set_option linter.unusedSimpArgs false
set_option maxRecDepth 100000
set_option maxHeartbeats 8000000
def Lies (R : av) (ps : List (GR × GR → Prop)) : Prop := (at_ R 0 = 91 ∧ ∃ qs, ALay R 1 qs ∧ qs.length ≤ 1000000 ∧ ps = qs.map OnVal) ∨ (at_ R 0 = 123 ∧ OLay R 1 ps ∧ ps.length ≤ 1000000)
theorem feach_calls {F : FuncId} {caps : Array Value} {cont : Nat → Bool} {It : (Nat → Prop) → List (GR × GR) → World → Prop} (hI : Iter F caps cont It) (R ts : av) (tn : Nat) (ti : Int) (A : Nat → Prop) (w W0 : World)
  (hIt : It A [] w) (hW : Wok W0) (hWB : Below W0.heap.size W0 w) (hWA : ∀ k, k < W0.heap.size → A k) (hs : R.size ≤ 1000000) (hr : 0 < R.size) (ps : List (GR × GR → Prop)) (hL : Lies R ps) :
  Calls Tryz.prog 22 #[.agg #[.int .i64 5, .string R, .string ts, .float .f64 tn, .int .i64 ti, .slice none 0 0], .func (.func F) #[] caps] w (FePost cont It A ps w) := by
 rcases hL with ⟨hh, qs, hL, hq, rfl⟩ | ⟨hh, hL, hq⟩
 ·exact feach_arr hI R ts tn ti A w W0 hIt hW hWB hWA hs hr hh qs hL hq
 ·exact feach_obj hI R ts tn ti A w W0 hIt hW hWB hWA hs hr hh ps hL hq
end
section
attribute [local go_sem] run_store_float
set_option linter.unusedVariables false
set_option linter.unusedSimpArgs false
set_option maxRecDepth 100000
set_option maxHeartbeats 8000000
end
section
set_option linter.unusedVariables false
set_option linter.unusedSimpArgs false
theorem blank_skip {c : Int} (h : isBlank c) : Skip c := by unfold isBlank at h; unfold Skip; omega
theorem blank_stop {c : Int} (h : isBlank c) : NumStop c := by unfold isBlank at h; unfold NumStop; omega
def Rest (s : av) (j : Int) : Prop := ∀ q, j ≤ q → q < s.size → isBlank (bt s q)
section
variable {s : av} (hn : Small s) (hsz : s.size ≤ 65536) (D : Nat) (b0 : Nat)
include hn hsz
theorem alay_end {r : Int} {i0 : Nat} (hr0 : (b0 : Int) ≤ r) (hr : r < s.size) (hc : bt s r = 93 ∨ bt s r = 125) (hrest : Rest s (r + 1)) (hi : (b0 : Int) + i0 ≤ r + 1) (hsk : ∀ q : Int, (b0 : Int) + i0 ≤ q → q < r → isBlank (bt s q)) : ALay (s.extract b0 s.size) i0 [] := by
 have hbs : b0 ≤ s.size := by omega
 have hR : (s.extract b0 s.size).size ≤ 1000000 := by rw [sz_sh]; omega
 by_cases h : (b0 : Int) + i0 ≤ r
 ·refine .last i0 (r.toNat - b0) (by omega) (by rw [sz_sh]; omega) (fun q a b => ?_) (fun _ => ?_) (pa_none hR (by rw [sz_sh]; omega) (fun q a b => ?_))
  ·rw [at_sh hbs]
   exact blank_skip (hsk _ (by omega) (by omega))
  ·rw [at_sh hbs]
   have : at_ s (b0 + (r.toNat - b0)) = bt s r := by unfold at_; congr 1; omega
   rw [this]
   unfold Skip
   omega
  ·rw [at_sh hbs]
   rw [sz_sh] at b
   by_cases hq : (b0 : Int) + q = r
   ·have : at_ s (b0 + q) = bt s r := by unfold at_; congr 1
    omega
   ·have := hrest ((b0 + q : Nat) : Int) (by omega) (by omega)
    unfold isBlank at this
    unfold at_
    omega
 ·refine .last i0 (s.extract b0 s.size).size (by rw [sz_sh]; omega) (Nat.le_refl _) (fun q a b => ?_) (fun h => absurd h (by omega)) (pa_none hR (Nat.le_refl _) (fun q a b => absurd b (by omega)))
  rw [at_sh hbs]
  rw [sz_sh] at b
  exact blank_skip (hrest _ (by omega) (by omega))
theorem kids_alay {ks : List S31} {i j : Int} (h : Sp.Kids (aA.at_ D) s ks i j) : ∀ i0 : Nat, (b0 : Int) + i0 ≤ i → (∀ q : Int, (b0 : Int) + i0 ≤ q → q < i → Skip (bt s q)) → PairedAt s i → Rest s j →
  ALay (s.extract b0 s.size) i0 (ks.map (GjV s)) := by
 induction h with
 | last p i r h1 h2 h3 h4 h5 h6 =>
  intro i0 hi hsk hp hrest
  subst h2
  have hbl := h4.1
  have hst : NumStop (bt s p.f2) := by
   by_cases h : p.f2 = r
   ·rw [h, h6]; unfold NumStop; omega
   ·exact blank_stop (h4.2.2 _ (by omega) (by omega))
  obtain ⟨hP, hf, hpp⟩ := value_pa hn hsz D p b0 h1 (by omega) hp h3 (by omega) hst
  have h0 := h1.1
  have hbs : b0 ≤ s.size := by omega
  refine .item i0 (p.f1.toNat - b0) (p.f2.toNat - b0) _ _ (by omega) (by omega) (by rw [sz_sh]; omega) (fun q a b => ?_) ?_ ?_ ?_
  ·rw [at_sh hbs]; exact hsk _ (by omega) (by omega)
  ·rw [at_sh hbs]
   have : at_ s (b0 + (p.f1.toNat - b0)) = bt s p.f1 := by unfold at_; congr 1; omega
   rw [this]; exact hf
  ·rw [show ((p.f1.toNat - b0 : Nat) : Int) = p.f1 - b0 by omega]
   exact hP.mono fun ok jj g ⟨a1, a2, a3⟩ => ⟨a1, by omega, a3.idx⟩
  ·exact alay_end hn hsz b0 (by omega) h5 (.inl h6) hrest (by omega) (fun q a b => h4.2.2 q (by omega) b)
 | more p i r t j ks h1 h2 h3 h4 h5 h6 h7 h8 ih =>
  intro i0 hi hsk hp hrest
  subst h2
  have hbl := h4.1
  have hst : NumStop (bt s p.f2) := by
   by_cases h : p.f2 = r
   ·rw [h, h6]; unfold NumStop; omega
   ·exact blank_stop (h4.2.2 _ (by omega) (by omega))
  obtain ⟨hP, hf, hpp⟩ := value_pa hn hsz D p b0 h1 (by omega) hp h3 (by omega) hst
  have h0 := h1.1
  have hbs : b0 ≤ s.size := by omega
  have ht := h7.1
  refine .item i0 (p.f1.toNat - b0) (p.f2.toNat - b0) _ _ (by omega) (by omega) (by rw [sz_sh]; omega) (fun q a b => ?_) ?_ ?_ ?_
  ·rw [at_sh hbs]; exact hsk _ (by omega) (by omega)
  ·rw [at_sh hbs]
   have : at_ s (b0 + (p.f1.toNat - b0)) = bt s p.f1 := by unfold at_; congr 1; omega
   rw [this]; exact hf
  ·rw [show ((p.f1.toNat - b0 : Nat) : Int) = p.f1 - b0 by omega]
   exact hP.mono fun ok jj g ⟨a1, a2, a3⟩ => ⟨a1, by omega, a3.idx⟩
  ·refine ih _ (by omega) (fun q a b => ?_) ?_ hrest
   ·by_cases hq : q < r
    ·exact blank_skip (h4.2.2 q (by omega) hq)
    ·by_cases hq2 : q = r
     ·rw [hq2, h6]; unfold Skip; omega
     ·exact blank_skip (h7.2.2 q (by omega) b)
   ·have p1 := (h4.lex (by omega)).paired hn hpp
    have p2 := PairedAt.plain hn p1 (by omega) h5 (by omega)
    exact (h7.lex (by omega)).paired hn p2
omit hn hsz in
theorem olay_end {r : Int} {i0 : Nat} (hr0 : (b0 : Int) ≤ r) (hr : r < s.size) (hc : bt s r = 93 ∨ bt s r = 125) (hrest : Rest s (r + 1)) (hi : (b0 : Int) + i0 ≤ r + 1) (hsk : ∀ q : Int, (b0 : Int) + i0 ≤ q → q < r → isBlank (bt s q)) : OLay (s.extract b0 s.size) i0 [] := by
 refine .end_ i0 (fun q a b => ?_)
 rw [at_sh (by omega)]
 rw [sz_sh] at b
 unfold at_
 by_cases h1 : (b0 : Int) + q < r
 ·have := hsk ((b0 + q : Nat) : Int) (by omega) (by omega)
  unfold isBlank at this
  omega
 ·by_cases h2 : ((b0 + q : Nat) : Int) = r
  ·rw [h2]; omega
  ·have := hrest ((b0 + q : Nat) : Int) (by omega) (by omega)
   unfold isBlank at this
   omega
def ItemOK (s : av) (x : S93 × S31) (y : GR × GR) : Prop := (∃ k, aZ.f k (s.extract x.1.f0.toNat x.1.f1.toNat) = some y.1.str) ∧ GjV s x.2 y.2 ∧ y.1.ty = 3 ∧ y.1.raw = s.extract x.1.f0.toNat x.1.f1.toNat
theorem ks_of {i j : Int} (h0 : 0 ≤ i) (hb : (b0 : Int) ≤ i) (h : StrSeg (bytesOf s) i j) (hp : PairedAt s i) (hj : j ≤ s.size) : ∃ o k, KS (s.extract b0 s.size) (i.toNat - b0) (j.toNat - 1 - b0) (strOfNums o) ∧ aZ.f k (s.extract i.toNat j.toNat) = some (strOfNums o) ∧ PairedAt s j := by
 obtain ⟨o, hI, hpp, k, hu⟩ := seg_unq hn h0 h hp
 have hlt := h.2.1
 have hbs : b0 ≤ s.size := by omega
 have hR : (s.extract b0 s.size).size ≤ 1000000 := by rw [sz_sh]; omega
 obtain ⟨i, rfl⟩ : ∃ n : Nat, i = n := ⟨i.toNat, by omega⟩
 obtain ⟨j, rfl⟩ : ∃ n : Nat, j = n := ⟨j.toNat, by omega⟩
 have hA := str_at h (bytesOf_length s)
 have hA' : StrAt s (b0 + (i - b0)) (b0 + (j - 1 - b0)) := by rw [show b0 + (i - b0) = i by omega, show b0 + (j - 1 - b0) = j - 1 by omega]; exact hA
 have hS := hA'.sh hbs
 have hI' : Inner ((s.extract b0 s.size).extract (i - b0 + 1) (j - 1 - b0)) 0 o := by
  rw [show i - b0 + 1 = (i + 1) - b0 by omega, ext_sh (by omega) (by omega) (by omega)]
  exact hI
 refine ⟨o, k, ⟨hS.lt, hS.le, ?_⟩, hu, hpp⟩
 obtain ⟨k2, vesc, hps, hno⟩ := ps_tells hS hR
 refine ⟨vesc, fun w => (aH.calls _ _ _ _ _ _ _ _ hps).mono fun e w' ⟨a, b⟩ => ⟨a, b.below⟩, fun _ w => unescape_calls _ o w (by rw [ByteArray.size_extract, ByteArray.size_extract]; omega) hI', fun hv => ?_⟩
 refine (inner_plain (fun q a b => ?_) hI').symm
 have hle := hS.le
 have hlt2 := hS.lt
 have hn := hno hv (i - b0 + 1 + q.toNat) (by omega)
 rw [ByteArray.size_extract] at b
 have := hn (by omega)
 rw [show q = ((q.toNat : Nat) : Int) by omega, bt_ext (by omega) (by omega) (by omega)]
 have e1 : (((i - b0 + 1 : Nat) : Int) + ((q.toNat : Nat) : Int)) = ((i - b0 + 1 + q.toNat : Nat) : Int) := by omega
 rw [e1]
 exact this
theorem mems_olay {ns : List S93} {ks : List S31} {i j : Int} (h : Sp.Mems (aA.at_ D) s ns ks i j) : ∀ i0 : Nat, 0 ≤ i → (b0 : Int) + i0 ≤ i → (∀ q : Int, (b0 : Int) + i0 ≤ q → q < i → bt s q ≠ 34) → PairedAt s i → Rest s j →
  OLay (s.extract b0 s.size) i0 ((ns.zip ks).map (ItemOK s)) := by
 induction h with
 | last nm p i c r h1 h2 h3 h4 h5 h6 h7 h8 h9 h10 h11 =>
  intro i0 hi0 hi hsk hp hrest
  have hbl := h9.1
  have hb3 := h3.1
  have hb6 := h6.1
  have hlt := h2.2.1
  have h0 := h7.1
  obtain ⟨o, k, hK, hu, hp1⟩ := ks_of hn hsz b0 hi0 (by omega) h2 hp (by omega)
  have hp2 := PairedAt.plain hn ((h3.lex (by omega)).paired hn hp1) (by omega) h4 (by omega)
  have hp3 := (h6.lex (by omega)).paired hn hp2
  have hst : NumStop (bt s p.f2) := by
   by_cases h : p.f2 = r
   ·rw [h, h11]; unfold NumStop; omega
   ·exact blank_stop (h9.2.2 _ (by omega) (by omega))
  obtain ⟨hP, hf, hpp⟩ := value_pa hn hsz D p b0 h7 (by omega) hp3 h8 (by omega) hst
  have hbs : b0 ≤ s.size := by omega
  have hq := h2.1
  rw [rd_bytesOf] at hq
  refine .item i0 (i.toNat - b0) (nm.f1.toNat - 1 - b0) (p.f1.toNat - b0) (p.f2.toNat - b0) (strOfNums o) _ (GjV s p) _ (by omega) (fun q a b => ?_) ?_ hK (by omega) (by omega) (by rw [sz_sh]; omega) (fun q a b => ?_) ?_ ?_ (fun zk v hv => ?_) ?_
  ·rw [at_sh hbs]; exact hsk _ (by omega) (by omega)
  ·rw [at_sh hbs, show b0 + (i.toNat - b0) = i.toNat by omega]
   unfold at_
   rw [show ((i.toNat : Nat) : Int) = i by omega]
   exact hq
  ·rw [at_sh hbs]
   unfold at_
   by_cases hq1 : ((b0 + q : Nat) : Int) < c
   ·exact blank_skip (h3.2.2 _ (by omega) hq1)
   ·by_cases hq2 : ((b0 + q : Nat) : Int) = c
    ·rw [hq2, h5]; unfold Skip; omega
    ·exact blank_skip (h6.2.2 _ (by omega) (by omega))
  ·rw [at_sh hbs]
   have : at_ s (b0 + (p.f1.toNat - b0)) = bt s p.f1 := by unfold at_; congr 1; omega
   rw [this]; exact hf
  ·rw [show ((p.f1.toNat - b0 : Nat) : Int) = p.f1 - b0 by omega]
   exact hP.mono fun ok jj g ⟨a1, a2, a3⟩ => ⟨a1, by omega, a3.idx⟩
  ·exact ⟨⟨k, by simp only [h1]; exact hu⟩, hv, rfl, Z75⟩
  ·exact olay_end b0 (by omega) h10 (.inr h11) hrest (by omega) (fun q a b => h9.2.2 q (by omega) b)
 | more nm p i c r t j ns ks h1 h2 h3 h4 h5 h6 h7 h8 h9 h10 h11 h12 h13 ih =>
  intro i0 hi0 hi hsk hp hrest
  have hbl := h9.1
  have hb3 := h3.1
  have hb6 := h6.1
  have ht := h12.1
  have hlt := h2.2.1
  have h0 := h7.1
  obtain ⟨o, k, hK, hu, hp1⟩ := ks_of hn hsz b0 hi0 (by omega) h2 hp (by omega)
  have hp2 := PairedAt.plain hn ((h3.lex (by omega)).paired hn hp1) (by omega) h4 (by omega)
  have hp3 := (h6.lex (by omega)).paired hn hp2
  have hst : NumStop (bt s p.f2) := by
   by_cases h : p.f2 = r
   ·rw [h, h11]; unfold NumStop; omega
   ·exact blank_stop (h9.2.2 _ (by omega) (by omega))
  obtain ⟨hP, hf, hpp⟩ := value_pa hn hsz D p b0 h7 (by omega) hp3 h8 (by omega) hst
  have hbs : b0 ≤ s.size := by omega
  have hq := h2.1
  rw [rd_bytesOf] at hq
  refine .item i0 (i.toNat - b0) (nm.f1.toNat - 1 - b0) (p.f1.toNat - b0) (p.f2.toNat - b0) (strOfNums o) _ (GjV s p) _ (by omega) (fun q a b => ?_) ?_ hK (by omega) (by omega) (by rw [sz_sh]; omega) (fun q a b => ?_) ?_ ?_ (fun zk v hv => ?_) ?_
  ·rw [at_sh hbs]; exact hsk _ (by omega) (by omega)
  ·rw [at_sh hbs, show b0 + (i.toNat - b0) = i.toNat by omega]
   unfold at_
   rw [show ((i.toNat : Nat) : Int) = i by omega]
   exact hq
  ·rw [at_sh hbs]
   unfold at_
   by_cases hq1 : ((b0 + q : Nat) : Int) < c
   ·exact blank_skip (h3.2.2 _ (by omega) hq1)
   ·by_cases hq2 : ((b0 + q : Nat) : Int) = c
    ·rw [hq2, h5]; unfold Skip; omega
    ·exact blank_skip (h6.2.2 _ (by omega) (by omega))
  ·rw [at_sh hbs]
   have : at_ s (b0 + (p.f1.toNat - b0)) = bt s p.f1 := by unfold at_; congr 1; omega
   rw [this]; exact hf
  ·rw [show ((p.f1.toNat - b0 : Nat) : Int) = p.f1 - b0 by omega]
   exact hP.mono fun ok jj g ⟨a1, a2, a3⟩ => ⟨a1, by omega, a3.idx⟩
  ·exact ⟨⟨k, by simp only [h1]; exact hu⟩, hv, rfl, Z75⟩
  ·refine ih _ (by omega) (by omega) (fun q a b => ?_) ?_ hrest
   ·by_cases hq : q < r
    ·have := h9.2.2 q (by omega) hq
     unfold isBlank at this
     omega
    ·by_cases hq2 : q = r
     ·rw [hq2]; omega
     ·have := h12.2.2 q (by omega) b
      unfold isBlank at this
      omega
   ·have p1 := (h9.lex (by omega)).paired hn hpp
    have p2 := PairedAt.plain hn p1 (by omega) h10 (by omega)
    exact (h12.lex (by omega)).paired hn p2
end
end
section
open Go.RowKit Go.PW Sp
set_option linter.unusedVariables false
set_option linter.unusedSimpArgs false
section
variable {s : av} (hn : Small s)
include hn
theorem char_l {i x8 : Int} (x9 : Int) (h0 : 0 ≤ i) (h8 : 1 ≤ x8 ∧ x8 ≤ 3) (h1 : i + x8 < s.size) : ∀ (d k : Nat) (x7 x10 : Int), x8 + 1 - x10 = d → 1 ≤ x10 → d + 1 ≤ k → ∃ c n ok, aV.l0 k s i x7 x8 x9 x10 = some (c, n, ok) ∧ (ok = true → 1 ≤ n ∧ i + n ≤ s.size)
 | d, 0, x7, x10, hd, h10, hk => by omega
 | d, k + 1, x7, x10, hd, h10, hk => by
  simp only [aV.l0]
  by_cases h : x10 ≤ x8
  ·rw [if_pos h, w64 (x := i + x10) (by omega) (by omega), if_pos (by omega), if_pos (by omega)]
   by_cases ha : wrap64 (bt s (i + x10)) < 128
   ·rw [if_pos ha]; exact ⟨_, _, _, rfl, by simp⟩
   ·rw [if_neg ha]
    by_cases hb : wrap64 (bt s (i + x10)) > 191
    ·rw [if_pos hb]; exact ⟨_, _, _, rfl, by simp⟩
    ·rw [if_neg hb, w64 (x := x10 + 1) (by omega) (by omega)]
     obtain ⟨d', rfl⟩ : ∃ d', d = d' + 1 := ⟨d - 1, by omega⟩
     exact char_l x9 h0 h8 h1 d' k _ _ (by omega) (by omega) (by omega)
  ·rw [if_neg h]
   by_cases ha : x7 < x9
   ·rw [if_pos ha]; exact ⟨_, _, _, rfl, by simp⟩
   ·rw [if_neg ha]
    by_cases hb : x7 > 1114111
    ·rw [if_pos hb]; exact ⟨_, _, _, rfl, by simp⟩
    ·rw [if_neg hb, high_eq, low_eq]
     simp only [al]
     by_cases hc : decide (High x7) = true
     ·rw [if_pos hc]; exact ⟨_, _, _, rfl, by simp⟩
     ·rw [if_neg hc]
      by_cases hd2 : decide (Low x7) = true
      ·rw [if_pos hd2]; exact ⟨_, _, _, rfl, by simp⟩
      ·rw [if_neg hd2, w64 (x := x8 + 1) (by omega) (by omega)]
       exact ⟨_, _, _, rfl, fun _ => by omega⟩
theorem char_j2 {i x8 : Int} (x7 x9 : Int) (h0 : 0 ≤ i) (hi : i ≤ s.size) (h8 : 1 ≤ x8 ∧ x8 ≤ 3) (k : Nat) (hk : 6 ≤ k) : ∃ c n ok, aV.j2 k s i x7 x8 x9 = some (c, n, ok) ∧ (ok = true → 1 ≤ n ∧ i + n ≤ s.size) := by
 obtain ⟨k, rfl⟩ : ∃ k', k = k' + 1 := ⟨k - 1, by omega⟩
 simp only [aV.j2]
 rw [w64 (x := (s.size : Int) - i) (by omega) (by omega)]
 by_cases h : (s.size : Int) - i ≤ x8
 ·rw [if_pos h]; exact ⟨_, _, _, rfl, by simp⟩
 ·rw [if_neg h]
  exact char_l hn x9 h0 h8 (by omega) x8.toNat k x7 1 (by omega) (by omega) (by omega)
theorem char_tot {i : Int} (h0 : 0 ≤ i) (hi : i < s.size) (k : Nat) (hk : 8 ≤ k) : ∃ c n ok, aV.f k s i = some (c, n, ok) ∧ (ok = true → 1 ≤ n ∧ i + n ≤ s.size) := by
 unfold aV.f
 rw [if_pos h0, if_pos hi]
 by_cases h : wrap64 (bt s i) < 128
 ·rw [if_pos h]; exact ⟨_, _, _, rfl, fun _ => by omega⟩
 ·rw [if_neg h]
  have hj1 : ∀ x b, ∃ c n ok, aV.j1 (k - 1) s i x b = some (c, n, ok) ∧ (ok = true → 1 ≤ n ∧ i + n ≤ s.size) := by
   intro x b
   obtain ⟨k, rfl⟩ : ∃ k', k = k' + 2 := ⟨k - 2, by omega⟩
   show ∃ c n ok, aV.j1 (k + 1) s i x b = some (c, n, ok) ∧ _
   simp only [aV.j1]
   split
   ·exact char_j2 hn _ _ h0 (by omega) (by omega) k (by omega)
   ·split
    ·split
     ·exact char_j2 hn _ _ h0 (by omega) (by omega) k (by omega)
     ·exact ⟨_, _, _, rfl, by simp⟩
    ·exact ⟨_, _, _, rfl, by simp⟩
  have hj0 : ∀ x b, ∃ c n ok, aV.j0 k s i x b = some (c, n, ok) ∧ (ok = true → 1 ≤ n ∧ i + n ≤ s.size) := by
   intro x b
   obtain ⟨k, rfl⟩ : ∃ k', k = k' + 1 := ⟨k - 1, by omega⟩
   simp only [aV.j0]
   split
   ·exact char_j2 hn _ _ h0 (by omega) (by omega) k (by omega)
   ·split
    ·exact hj1 _ _
    ·exact hj1 _ _
  split
  ·exact hj0 _ _
  ·exact hj0 _ _
theorem vD : ∀ (d k : Nat) (i : Int), 0 ≤ i → i ≤ s.size → (s.size : Int) - i ≤ d → d + 10 ≤ k → ∃ b, bS.l0 k s i = some b
 | d, 0, i, _, _, _, hk => by omega
 | d, k + 1, i, h0, h1, hd, hk => by
  simp only [bS.l0]
  by_cases h : i < s.size
  ·obtain ⟨c, n, ok, e, hok⟩ := char_tot hn h0 h k (by omega)
   rw [if_pos h, e]
   simp only [al]
   cases ok with
   | false => exact ⟨false, by simp⟩
   | true =>
    have := hok rfl
    obtain ⟨d', rfl⟩ : ∃ d', d = d' + 1 := ⟨d - 1, by omega⟩
    rw [if_pos rfl, w64 (x := i + n) (by omega) (by omega)]
    exact vD d' k _ (by omega) (by omega) (by omega) (by omega)
  ·rw [if_neg h]; exact ⟨true, rfl⟩
theorem tG : ∃ K b, ∀ n, bS.f (K + n) s = some b := by
 obtain ⟨b, hb⟩ := vD hn s.size (s.size + 10) 0 (by omega) (by omega) (by omega) (by omega)
 refine ⟨s.size + 10, b, fun n => ?_⟩
 induction n with
 | zero => exact hb
 | succ n ih => exact bS.mono s (s.size + 10 + n) _ ih
end
end
section
set_option linter.unusedVariables false
set_option linter.unusedSimpArgs false
set_option maxRecDepth 100000
theorem places_inv {s : av} (hn : Small s) {D k : Nat} {kd b j : Int} {ns : List S93} {ks : List S31} (h : places (aA.at_ (D + 1)) k s = some (kd, b, j, ns, ks, true)) :
  0 ≤ b ∧ Blanks s 0 b ∧ b < j ∧ j ≤ s.size ∧ Rest s j ∧ ValO (aA.at_ (D - 1)) s kd b j ns ks ∧ VR (aA.at_ (D + 1)) s ⟨kd, b, j, ns, ks⟩ := by
 unfold places at h
 obtain ⟨⟨s1, a1⟩, h1, h⟩ := ao h
 obtain ⟨rfl, hB⟩ := blanks_inv s hn k 0 s1 a1 (by omega) (by omega) h1
 obtain ⟨⟨v1, v2, v3, v4, v5, v6, v7, v8⟩, h2, h⟩ := ao h
 simp only at h h2
 split at h
 case isFalse => cases h
 rename_i hv
 subst hv
 obtain ⟨⟨c1, c2⟩, h3, h⟩ := ao h
 simp only at h
 split at h
 case isFalse => cases h
 rename_i hc
 simp only [am, an] at h
 obtain ⟨rfl, rfl, rfl, rfl, rfl, _⟩ := h
 obtain ⟨e1, e2, e3, g1, g2, g3⟩ := value_known hn D k a1 v1 v2 v3 v4 v5 v7 v8 (by have := hB.1; omega) hB.2.1 h2
 subst e1 e2 e3
 obtain ⟨_, hB2⟩ := blanks_inv v7 hn k v8 c1 c2 (by have := hB.1; omega) g2 h3
 have hb1 := hB.1
 refine ⟨hB.1, hB, g1, g2, fun q a b => hB2.2.2 q a (by omega), g3, by show 0 ≤ v2; omega, k, h2⟩
theorem kids_len {V : aE} {s : av} {ks : List S31} {i j : Int} (h : Sp.Kids V s ks i j) : (ks.length : Int) ≤ j - i := by
 induction h with
 | last p i r h1 h2 h3 h4 h5 h6 => have := h4.1; simp; omega
 | more p i r t j ks h1 h2 h3 h4 h5 h6 h7 h8 ih => have := h4.1; have := h7.1; simp; omega
theorem mems_len {V : aE} {s : av} {ns : List S93} {ks : List S31} {i j : Int} (h : Sp.Mems V s ns ks i j) : (ks.length : Int) ≤ j - i ∧ ns.length = ks.length := by
 induction h with
 | last nm p i c r h1 h2 h3 h4 h5 h6 h7 h8 h9 h10 h11 => have := h2.2.1; have := h3.1; have := h6.1; have := h9.1; simp; omega
 | more nm p i c r t j ns ks h1 h2 h3 h4 h5 h6 h7 h8 h9 h10 h11 h12 h13 ih => have := h2.2.1; have := h3.1; have := h6.1; have := h9.1; have := h12.1; have := ih.1; have := ih.2; simp; omega
def psOf (s : av) (kd : Int) (ns : List S93) (ks : List S31) : List (GR × GR → Prop) := if kd = 5 then (ks.map (GjV s)).map OnVal else (ns.zip ks).map (ItemOK s)
theorem lies_of {s : av} (hs : s.size ≤ 65536) {D k : Nat} {kd b j : Int} {ns : List S93} {ks : List S31} (hp : PairedAt s 0) (h : places (aA.at_ (D + 1)) k s = some (kd, b, j, ns, ks, true)) (hk : kd = 5 ∨ kd = 6) :
  Lies (s.extract b.toNat s.size) (psOf s kd ns ks) ∧ (kd = 6 → ns.length = ks.length) ∧ (ks.length : Int) ≤ s.size := by
 have hn : Small s := by unfold Small; omega
 obtain ⟨h0, hB, hlt, hle, hR, hV, _⟩ := places_inv hn h
 have hpb := (hB.lex (by omega)).paired hn hp
 have hbs : b.toNat ≤ s.size := by omega
 have e0 : at_ (s.extract b.toNat s.size) 0 = bt s b := by rw [at_sh hbs]; unfold at_; congr 1; omega
 rcases hV with ⟨rfl, hc, hm⟩ | ⟨rfl, rfl, hc, hm⟩ | ⟨rfl, _⟩ | ⟨rfl, _⟩ | ⟨_, _, _, hw⟩
 ·have hp1 := PairedAt.plain hn hpb h0 (by omega) (by omega)
  refine ⟨.inr ⟨by rw [e0]; exact hc, ?_, ?_⟩, ?_, ?_⟩
  ·rw [psOf, if_neg (by omega)]
   rcases hm with ⟨rfl, rfl, p, hb, hp, hc2, rfl⟩ | ⟨p, hb, hm⟩
   ·exact olay_end b.toNat (by have := hb.1; omega) hp (.inr hc2) hR (by have := hb.1; omega) (fun q a c => hb.2.2 q (by omega) c)
   ·refine mems_olay hn hs (D - 1) b.toNat hm 1 (by have := hb.1; omega) (by have := hb.1; omega) (fun q a c => ?_) ((hb.lex (by omega)).paired hn hp1) hR
    have := hb.2.2 q (by omega) c
    unfold isBlank at this
    omega
  ·rw [psOf, if_neg (by omega), List.length_map, List.length_zip]
   rcases hm with ⟨rfl, rfl, _⟩ | ⟨p, hb, hm⟩
   ·simp
   ·have := mems_len hm; have := hb.1; omega
  ·rcases hm with ⟨rfl, rfl, _⟩ | ⟨p, hb, hm⟩
   ·exact fun _ => rfl
   ·exact fun _ => (mems_len hm).2
  ·rcases hm with ⟨rfl, rfl, _⟩ | ⟨p, hb, hm⟩
   ·simp
   ·have := mems_len hm; have := hb.1; omega
 ·have hp1 := PairedAt.plain hn hpb h0 (by omega) (by omega)
  refine ⟨.inl ⟨by rw [e0]; exact hc, ks.map (GjV s), ?_, ?_, by rw [psOf, if_pos rfl]⟩, by omega, ?_⟩
  ·rcases hm with ⟨rfl, p, hb, hp, hc2, rfl⟩ | ⟨p, hb, hm⟩
   ·exact alay_end hn hs b.toNat (by have := hb.1; omega) hp (.inl hc2) hR (by have := hb.1; omega) (fun q a c => hb.2.2 q (by omega) c)
   ·exact kids_alay hn hs (D - 1) b.toNat hm 1 (by have := hb.1; omega) (fun q a c => blank_skip (hb.2.2 q (by omega) c)) ((hb.lex (by omega)).paired hn hp1) hR
  ·rw [List.length_map]
   rcases hm with ⟨rfl, _⟩ | ⟨p, hb, hm⟩
   ·simp
   ·have := kids_len hm; have := hb.1; omega
  ·rcases hm with ⟨rfl, _⟩ | ⟨p, hb, hm⟩
   ·simp
   ·have := kids_len hm; have := hb.1; omega
 ·omega
 ·omega
 ·omega
end
section
set_option linter.unusedVariables false
set_option linter.unusedSimpArgs false
set_option maxRecDepth 100000
theorem upk {α : Type} {f : Nat → Option α} (hm : ∀ k, LeO (f k) (f (k + 1))) {k : Nat} {r : α} (h : f k = some r) : ∀ n, f (k + n) = some r
 | 0 => h
 | n + 1 => hm (k + n) r (upk hm h n)
theorem unik {α : Type} {f : Nat → Option α} (hm : ∀ k, LeO (f k) (f (k + 1))) {k k' : Nat} {r r' : α} (h : f k = some r) (h' : f k' = some r') : r = r' := by
 have a := upk hm h k'
 have b := upk hm h' k
 rw [show k' + k = k + k' by omega, a] at b
 exact au b
theorem bound {α : Type} {P : α → Nat → Prop} : ∀ (l : List α), (∀ x ∈ l, ∃ K, ∀ n, P x (K + n)) → ∃ K, ∀ x ∈ l, ∀ n, P x (K + n)
 | [], _ => ⟨0, fun x h => by simp at h⟩
 | a :: l, h => by
  obtain ⟨K1, h1⟩ := bound l (fun x hx => h x (List.mem_cons_of_mem _ hx))
  obtain ⟨K2, h2⟩ := h a (List.mem_cons_self ..)
  refine ⟨K1 + K2, fun x hx n => ?_⟩
  rcases List.mem_cons.1 hx with rfl | hx
  ·rw [show K1 + K2 + n = K2 + (K1 + n) by omega]; exact h2 _
  ·rw [show K1 + K2 + n = K1 + (K2 + n) by omega]; exact h1 x hx _
open Classical in
noncomputable def unqO (s : av) (a b : Int) : av := if h : ∃ o, ∃ k, aZ.f k (s.extract a.toNat b.toNat) = some o then h.choose else ⟨#[]⟩
theorem unqO_eq {s : av} {a b : Int} {k : Nat} {o : av} (h : aZ.f k (s.extract a.toNat b.toNat) = some o) : unqO s a b = o := by
 have hx : ∃ o, ∃ k, aZ.f k (s.extract a.toNat b.toNat) = some o := ⟨o, k, h⟩
 unfold unqO
 rw [dif_pos hx]
 obtain ⟨k', hk⟩ := hx.choose_spec
 exact unik (f := fun k => aZ.f k (s.extract a.toNat b.toNat)) (fun k => aZ.mono _ k) hk h
theorem unqO_up {s : av} {a b : Int} {k : Nat} {o : av} (h : aZ.f k (s.extract a.toNat b.toNat) = some o) (n : Nat) : aZ.f (k + n) (s.extract a.toNat b.toNat) = some (unqO s a b) := by
 rw [unqO_eq h]
 exact upk (f := fun k => aZ.f k (s.extract a.toNat b.toNat)) (fun k => aZ.mono _ k) h n
def Ends (s : av) (j : Int) : Prop := j < s.size ∧ ¬ NumCh (bt s j)
theorem ends_of {s : av} {e r c : Int} (h : Blanks s e r) (hr : r < s.size) (hc : bt s r = c) (hn : ¬ NumCh c) : Ends s e := by
 have h1 := h.1
 refine ⟨by omega, ?_⟩
 by_cases he : e = r
 ·rw [he, hc]; exact hn
 ·exact blank_num (h.2.2 e (Int.le_refl _) (by omega))
def NmOK (s : av) (x : S93) : Prop := 0 ≤ x.f0 ∧ x.f0 ≤ x.f1 ∧ x.f1 ≤ s.size ∧ (∃ K, ∀ n, aZ.f (K + n) (s.extract x.f0.toNat x.f1.toNat) = some (unqO s x.f0 x.f1)) ∧ StrSeg (bytesOf s) x.f0 x.f1 ∧ Ends s x.f1
def KdOK (V : aE) (s : av) (p : S31) : Prop := VR V s p ∧ PairedAt s p.f1 ∧ p.f1 < p.f2 ∧ p.f2 ≤ s.size ∧ Ends s p.f2
section
variable {s : av} (hn : Small s)
include hn
theorem kids_each {V : aE} (hV : LexV V s) {ks : List S31} {i j : Int} (h : Sp.Kids V s ks i j) : PairedAt s i → ∀ p ∈ ks, KdOK V s p := by
 induction h with
 | last p i r h1 h2 h3 h4 h5 h6 =>
  intro hp q hq
  simp only [List.mem_singleton] at hq
  subst hq h2
  exact ⟨h1, hp, h3, by have := h4.1; omega, ends_of h4 h5 h6 (by unfold NumCh; omega)⟩
 | more p i r t j ks h1 h2 h3 h4 h5 h6 h7 h8 ih =>
  intro hp q hq
  subst h2
  have h41 := h4.1
  have h0 := h1.1
  have hL := hV p h1 (by omega)
  have p1 := (h4.lex (by omega)).paired hn (hL.paired hn hp)
  have p2 := PairedAt.plain hn p1 (by omega) h5 (by omega)
  rcases List.mem_cons.1 hq with rfl | hq
  ·exact ⟨h1, hp, h3, by omega, ends_of h4 h5 h6 (by unfold NumCh; omega)⟩
  ·exact ih ((h7.lex (by omega)).paired hn p2) q hq
theorem mems_each {V : aE} (hV : LexV V s) {ns : List S93} {ks : List S31} {i j : Int} (h : Sp.Mems V s ns ks i j) : 0 ≤ i → PairedAt s i → (∀ p ∈ ks, KdOK V s p) ∧ ∀ x ∈ ns, NmOK s x := by
 induction h with
 | last nm p i c r h1 h2 h3 h4 h5 h6 h7 h8 h9 h10 h11 =>
  intro hi hp
  have hb3 := h3.1
  have hb6 := h6.1
  have hb9 := h9.1
  have hlt := h2.2.1
  have h0 := h7.1
  obtain ⟨o, hI, hp1, k, hu⟩ := seg_unq hn hi h2 hp
  have hp2 := PairedAt.plain hn ((h3.lex (by omega)).paired hn hp1) (by omega) h4 (by omega)
  have hp3 := (h6.lex (by omega)).paired hn hp2
  subst h1
  refine ⟨fun q hq => ?_, fun q hq => ?_⟩
  ·simp only [List.mem_singleton] at hq
   subst hq
   exact ⟨h7, hp3, h8, by omega, ends_of h9 h10 h11 (by unfold NumCh; omega)⟩
  ·simp only [List.mem_singleton] at hq
   subst hq
   exact ⟨hi, by omega, by omega, ⟨k, unqO_up hu⟩, h2, ends_of h3 h4 h5 (by unfold NumCh; omega)⟩
 | more nm p i c r t j ns ks h1 h2 h3 h4 h5 h6 h7 h8 h9 h10 h11 h12 h13 ih =>
  intro hi hp
  have hb3 := h3.1
  have hb6 := h6.1
  have hb9 := h9.1
  have hb12 := h12.1
  have hlt := h2.2.1
  have h0 := h7.1
  obtain ⟨o, hI, hp1, k, hu⟩ := seg_unq hn hi h2 hp
  have hp2 := PairedAt.plain hn ((h3.lex (by omega)).paired hn hp1) (by omega) h4 (by omega)
  have hp3 := (h6.lex (by omega)).paired hn hp2
  have hL := hV p h7 (by omega)
  have p1 := (h9.lex (by omega)).paired hn (hL.paired hn hp3)
  have p2 := PairedAt.plain hn p1 (by omega) h10 (by omega)
  obtain ⟨i1, i2⟩ := ih (by omega) ((h12.lex (by omega)).paired hn p2)
  subst h1
  refine ⟨fun q hq => ?_, fun q hq => ?_⟩
  ·rcases List.mem_cons.1 hq with rfl | hq
   ·exact ⟨h7, hp3, h8, by omega, ends_of h9 h10 h11 (by unfold NumCh; omega)⟩
   ·exact i1 q hq
  ·rcases List.mem_cons.1 hq with rfl | hq
   ·exact ⟨hi, by omega, by omega, ⟨k, unqO_up hu⟩, h2, ends_of h3 h4 h5 (by unfold NumCh; omega)⟩
   ·exact i2 q hq
theorem valo_each {V : aE} (hV : LexV V s) {kd i j : Int} {ns : List S93} {ks : List S31} (h : ValO V s kd i j ns ks) (h0 : 0 ≤ i) (h1 : i < s.size) (h2 : j ≤ s.size) (hp : PairedAt s i) :
  (∀ p ∈ ks, KdOK V s p) ∧ (∀ x ∈ ns, NmOK s x) ∧ (ks.length : Int) ≤ s.size ∧ (ns.length : Int) ≤ s.size ∧ (kd = 6 → ns.length = ks.length) ∧ (kd = 4 → ∃ K, ∀ n, aZ.f (K + n) (s.extract i.toNat j.toNat) = some (unqO s i j)) := by
 rcases h with ⟨rfl, hc, hm⟩ | ⟨rfl, rfl, hc, hm⟩ | ⟨rfl, rfl, rfl, hS⟩ | ⟨rfl, rfl, rfl, _⟩ | ⟨rfl, rfl, _, hw⟩
 ·have hp1 := PairedAt.plain hn hp h0 h1 (by omega)
  rcases hm with ⟨rfl, rfl, _⟩ | ⟨p, hb, hm⟩
  ·exact ⟨by simp, by simp, by simp, by simp, fun _ => rfl, by omega⟩
  ·have hb1 := hb.1
   obtain ⟨a1, a2⟩ := mems_each hn hV hm (by omega) ((hb.lex (by omega)).paired hn hp1)
   obtain ⟨l1, l2⟩ := mems_len hm
   exact ⟨a1, a2, by omega, by omega, fun _ => l2, by omega⟩
 ·have hp1 := PairedAt.plain hn hp h0 h1 (by omega)
  rcases hm with ⟨rfl, _⟩ | ⟨p, hb, hm⟩
  ·exact ⟨by simp, by simp, by simp, by simp, fun _ => rfl, by omega⟩
  ·have hb1 := hb.1
   have l1 := kids_len hm
   exact ⟨kids_each hn hV hm ((hb.lex (by omega)).paired hn hp1), by simp, by omega, by simp, by omega, by omega⟩
 ·obtain ⟨o, hI, hp1, k, hu⟩ := seg_unq hn h0 hS hp
  exact ⟨by simp, by simp, by simp, by simp, by omega, fun _ => ⟨k, unqO_up hu⟩⟩
 ·exact ⟨by simp, by simp, by simp, by simp, by omega, by omega⟩
 ·exact ⟨by simp, by simp, by simp, by simp, by omega, by omega⟩
end
end
section
set_option linter.unusedVariables false
set_option linter.unusedSimpArgs false
set_option maxRecDepth 100000
theorem getD_at {α : Type} (z : α) (l : List α) (q : Nat) (h : q < l.length) : l.getD ((q : Int)).toNat z = l[q] := by
 rw [List.getD_eq_getElem?_getD]
 simp [h]
open Classical in
noncomputable def treeO (s : av) (p : S31) : S25 := if h : ∃ r : S25, ∃ K, aM.f K s p.f0 p.f1 p.f2 p.f3 p.f4 = some (r.f0, r.f1, r.f2, r.f3) then h.choose else ⟨0, ⟨#[]⟩, [], []⟩
theorem eta25 (t : S25) : (⟨t.f0, t.f1, t.f2, t.f3⟩ : S25) = t := by cases t; rfl
theorem treeO_eq {s : av} {p : S31} {K : Nat} {r0 : Int} {r1 : av} {r2 : List av} {r3 : List S25} (h : aM.f K s p.f0 p.f1 p.f2 p.f3 p.f4 = some (r0, r1, r2, r3)) : treeO s p = ⟨r0, r1, r2, r3⟩ := by
 have hx : ∃ r : S25, ∃ K, aM.f K s p.f0 p.f1 p.f2 p.f3 p.f4 = some (r.f0, r.f1, r.f2, r.f3) := ⟨⟨r0, r1, r2, r3⟩, K, h⟩
 unfold treeO
 rw [dif_pos hx]
 obtain ⟨K', hk⟩ := hx.choose_spec
 have := unik (f := fun k => aM.f k s p.f0 p.f1 p.f2 p.f3 p.f4) (fun k => aM.mono _ _ _ _ _ _ k) hk h
 simp only [an] at this
 obtain ⟨e0, e1, e2, e3⟩ := this
 rw [← eta25 hx.choose, e0, e1, e2, e3]
def TreeOK (s : av) (p : S31) (k : Nat) : Prop := aM.f k s p.f0 p.f1 p.f2 p.f3 p.f4 = some ((treeO s p).f0, (treeO s p).f1, (treeO s p).f2, (treeO s p).f3)
structure TreeIs (s : av) (p : S31) : Prop where
 f0 : (treeO s p).f0 = p.f0
 f1 : p.f0 = 4 → (treeO s p).f1 = unqO s p.f1 p.f2
 f2 : (treeO s p).f2 = p.f3.map (fun x => unqO s x.f0 x.f1)
 f3 : (treeO s p).f3 = p.f4.map (treeO s)
 f5 : p.f0 ≠ 3 → p.f0 ≠ 4 → (treeO s p).f1 = ⟨#[]⟩
theorem tree_ok {s : av} {p : S31} {K : Nat} {t : av} (h : aM.f K s p.f0 p.f1 p.f2 p.f3 p.f4 = some (p.f0, t, p.f3.map (fun x => unqO s x.f0 x.f1), p.f4.map (treeO s))) (h4 : p.f0 = 4 → t = unqO s p.f1 p.f2) (h5 : p.f0 ≠ 3 → p.f0 ≠ 4 → t = ⟨#[]⟩) : TreeIs s p ∧ TreeOK s p K := by
 have e := treeO_eq h
 refine ⟨⟨congrArg S25.f0 e, fun h => (congrArg S25.f1 e).trans (h4 h), congrArg S25.f2 e, congrArg S25.f3 e, fun h1 h2 => (congrArg S25.f1 e).trans (h5 h1 h2)⟩, ?_⟩
 unfold TreeOK
 rw [congrArg S25.f0 e, congrArg S25.f1 e, congrArg S25.f2 e, congrArg S25.f3 e]
 exact h
def UnqOK (s : av) (x : S93) (k : Nat) : Prop := aZ.f k (s.extract x.f0.toNat x.f1.toNat) = some (unqO s x.f0 x.f1)
section
variable {s : av} {ks : List S31} {ns : List S93} {K : Nat}
theorem tree_l1 (hK : ∀ p ∈ ks, ∀ n, TreeOK s p (K + n)) (a b c : Int) (y0 : Int) (y1 : av) (y2 : List av) (hl : ks.length ≤ 1000000) : ∀ (d q k : Nat) (acc : List S25), q + d = ks.length → acc.length + d ≤ 1048576 → K + d + 1 ≤ k → aM.l1 k s (q : Int) a b c ns ks y0 y1 y2 acc = some (y0, y1, y2, acc ++ (ks.drop q).map (treeO s))
 | d, q, 0, acc, _, _, hk => by omega
 | 0, q, k + 1, acc, hq, _, hk => by
  simp only [aM.l1]
  rw [if_neg (by omega), List.drop_eq_nil_of_le (by omega), List.map_nil, List.append_nil]
 | d + 1, q, k + 1, acc, hq, ha, hk => by
  have e := hK ks[q] (List.getElem_mem (by omega)) (k - K)
  unfold TreeOK at e
  rw [show K + (k - K) = k by omega] at e
  simp only [aM.l1]
  rw [if_pos (by omega), if_pos (by omega), show rd_T31 ks (q : Int) = ks[q] from getD_at _ _ _ (by omega), e]
  simp only [al]
  rw [if_pos (by omega), wp1 (by omega)]
  rw [tree_l1 hK a b c y0 y1 y2 hl d (q + 1) k _ (by omega) (by simp; omega) (by omega), List.append_assoc, List.drop_eq_getElem_cons (show q < ks.length by omega), eta25]
  rfl
theorem tree_l0 (hK : ∀ p ∈ ks, ∀ n, TreeOK s p (K + n)) (hN : ∀ x ∈ ns, NmOK s x) (hU : ∀ x ∈ ns, ∀ n, aZ.f (K + n) (s.extract x.f0.toNat x.f1.toNat) = some (unqO s x.f0 x.f1)) (a b c : Int) (y0 : Int) (y1 : av) (hl : ks.length ≤ 1000000) (hl2 : ns.length ≤ 1000000) :
  ∀ (d q k : Nat) (acc : List av), q + d = ns.length → acc.length + d ≤ 1048576 → K + d + ks.length + 2 ≤ k → aM.l0 k s (q : Int) a b c ns ks y0 y1 acc = some (y0, y1, acc ++ (ns.drop q).map (fun x => unqO s x.f0 x.f1), ks.map (treeO s))
 | d, q, 0, acc, _, _, hk => by omega
 | 0, q, k + 1, acc, hq, _, hk => by
  simp only [aM.l0]
  rw [if_neg (by omega)]
  rw [List.drop_eq_nil_of_le (by omega), List.map_nil, List.append_nil]
  have := tree_l1 (ns := ns) hK a b c y0 y1 acc (by omega) ks.length 0 k [] (by omega) (by simp; omega) (by omega)
  rw [List.drop_zero, List.nil_append] at this
  exact this
 | d + 1, q, k + 1, acc, hq, ha, hk => by
  have hx := hN ns[q] (List.getElem_mem (by omega))
  have e := hU ns[q] (List.getElem_mem (by omega)) (k - K)
  rw [show K + (k - K) = k by omega] at e
  obtain ⟨x0, x1, x2, _⟩ := hx
  simp only [aM.l0]
  rw [if_pos (by omega), if_pos (by omega), show rd_T93 ns (q : Int) = ns[q] from getD_at _ _ _ (by omega), if_pos x0, if_pos x1, if_pos x2, e]
  simp only [al]
  rw [if_pos (by omega), wp1 (by omega)]
  have h := tree_l0 hK hN hU a b c y0 y1 hl hl2 d (q + 1) k (acc ++ [unqO s ns[q].f0 ns[q].f1]) (by omega) (by simp; omega) (by omega)
  rw [h, List.append_assoc]
  congr 4
  rw [List.drop_eq_getElem_cons (show q < ns.length by omega)]
  rfl
end
theorem tree_up {s : av} {p : S31} {k : Nat} (h : TreeOK s p k) (n : Nat) : TreeOK s p (k + n) := upk (f := fun k => aM.f k s p.f0 p.f1 p.f2 p.f3 p.f4) (fun k => aM.mono _ _ _ _ _ _ k) h n
theorem tree_j0 {s : av} (hn : Small s) {p : S31} (hk : p.f4.length ≤ 1000000) (hl : p.f3.length ≤ 1000000) (hN : ∀ x ∈ p.f3, NmOK s x) {K1 K2 : Nat} (hK1 : ∀ q ∈ p.f4, ∀ n, TreeOK s q (K1 + n)) (hK2 : ∀ x ∈ p.f3, ∀ n, aZ.f (K2 + n) (s.extract x.f0.toNat x.f1.toNat) = some (unqO s x.f0 x.f1)) (y1 : av) :
  ∃ K, ∀ n, aM.j0 (K + n) s p.f0 p.f1 p.f2 p.f3 p.f4 p.f0 y1 = some (p.f0, y1, p.f3.map (fun x => unqO s x.f0 x.f1), p.f4.map (treeO s)) := by
 obtain ⟨kd, a, b, ns, ks⟩ := p
 simp only at *
 have hA : ∀ q ∈ ks, ∀ n, TreeOK s q (K1 + K2 + n) := fun q hq n => by rw [Nat.add_assoc]; exact hK1 q hq _
 have hB : ∀ x ∈ ns, ∀ n, aZ.f (K1 + K2 + n) (s.extract x.f0.toNat x.f1.toNat) = some (unqO s x.f0 x.f1) := fun x hx n => by rw [Nat.add_comm K1 K2, Nat.add_assoc]; exact hK2 x hx _
 obtain ⟨M, hM⟩ : ∃ M, K1 + K2 + ns.length + ks.length + 2 = M := ⟨_, rfl⟩
 have h := tree_l0 (K := K1 + K2) hA hN hB kd a b kd y1 hk hl ns.length 0 M [] (Nat.zero_add _) (by simp; omega) (by omega)
 refine ⟨M + 1, fun n => ?_⟩
 have hm : ∀ k, LeO (aM.l0 k s ((0 : Nat) : Int) kd a b ns ks kd y1 []) (aM.l0 (k + 1) s ((0 : Nat) : Int) kd a b ns ks kd y1 []) := fun k => (aM.mono_l k).2.2.1 _ _ _ _ _ _ _ _ _ _
 have h2 := upk (f := fun k => aM.l0 k s ((0 : Nat) : Int) kd a b ns ks kd y1 []) hm h n
 rw [List.drop_zero, List.nil_append] at h2
 rw [show M + 1 + n = (M + n) + 1 by omega]
 rw [aM.j0]
 exact h2
theorem tree_of {s : av} (hn : Small s) {p : S31} (h0 : 0 ≤ p.f1) (h1 : p.f1 ≤ p.f2) (h2 : p.f2 ≤ s.size) (hk : (p.f4.length : Int) ≤ 1000000) (hl : (p.f3.length : Int) ≤ 1000000) (hN : ∀ x ∈ p.f3, NmOK s x) (hT : ∀ q ∈ p.f4, ∃ K, ∀ n, TreeOK s q (K + n))
  (h4 : p.f0 = 4 → ∃ K, ∀ n, aZ.f (K + n) (s.extract p.f1.toNat p.f2.toNat) = some (unqO s p.f1 p.f2)) : TreeIs s p ∧ ∃ K, TreeOK s p K := by
 have hb1 : ∃ K1, ∀ q ∈ p.f4, ∀ n, TreeOK s q (K1 + n) := bound (P := TreeOK s) p.f4 hT
 have hN2 : ∀ x ∈ p.f3, ∃ K, ∀ n, UnqOK s x (K + n) := fun x hx => by
  obtain ⟨_, _, _, h, _⟩ := hN x hx
  exact h
 have hb2 : ∃ K2, ∀ x ∈ p.f3, ∀ n, UnqOK s x (K2 + n) := bound (P := UnqOK s) p.f3 hN2
 obtain ⟨K1, hK1⟩ := hb1
 obtain ⟨K2, hK2⟩ := hb2
 have hj := tree_j0 hn (p := p) (by omega) (by omega) hN hK1 hK2
 obtain ⟨kd, a, b, ns, ks⟩ := p
 simp only at *
 have fin : ∀ (K : Nat) (t : av), aM.f K s kd a b ns ks = some (kd, t, ns.map (fun x => unqO s x.f0 x.f1), ks.map (treeO s)) → (kd = 4 → t = unqO s a b) → (kd ≠ 3 → kd ≠ 4 → t = ⟨#[]⟩) → TreeIs s ⟨kd, a, b, ns, ks⟩ ∧ ∃ K, TreeOK s ⟨kd, a, b, ns, ks⟩ K := fun K t h h4 h5 => by
  obtain ⟨e1, e2⟩ := tree_ok (p := ⟨kd, a, b, ns, ks⟩) h h4 h5
  exact ⟨e1, K, e2⟩
 by_cases c3 : kd = 3
 ·obtain ⟨K, h⟩ := hj (s.extract a.toNat b.toNat)
  have h := h 0
  rw [Nat.add_zero] at h
  refine fin (K + 1) (s.extract a.toNat b.toNat) ?_ (by omega) (fun h => absurd c3 h)
  rw [aM.f, if_pos c3, if_pos h0, if_pos h1, if_pos h2]
  exact h
 ·by_cases c4 : kd = 4
  ·obtain ⟨K3, hu⟩ := h4 c4
   obtain ⟨K, h⟩ := hj (unqO s a b)
   have h := h K3
   have hu := hu K
   rw [Nat.add_comm] at hu
   refine fin (K + K3 + 1) (unqO s a b) ?_ (fun _ => rfl) (fun _ h => absurd c4 h)
   rw [aM.f, if_neg c3, if_pos c4, if_pos h0, if_pos h1, if_pos h2, hu, al]
   exact h
  ·obtain ⟨K, h⟩ := hj ⟨#[]⟩
   have h := h 0
   rw [Nat.add_zero] at h
   refine fin (K + 1) ⟨#[]⟩ ?_ (fun h => absurd h c4) (fun _ _ => rfl)
   rw [aM.f, if_neg c3, if_neg c4]
   exact h
theorem tree_tot {s : av} (hn : Small s) (hs : s.size ≤ 65536) : ∀ (D : Nat) (p : S31), VR (aA.at_ D) s p → PairedAt s p.f1 → p.f1 < p.f2 → p.f2 ≤ s.size → TreeIs s p ∧ ∃ K, TreeOK s p K := by
 intro D
 induction D using Nat.strongRecOn with
 | _ D ih =>
 rintro p ⟨h0, k, h⟩ hp hlt hle
 cases D with
 | zero => cases h
 | succ D =>
  obtain ⟨_, _, _, g1, g2, g3⟩ := value_known hn D k p.f1 p.f0 p.f1 p.f2 p.f3 p.f4 s p.f2 h0 (by omega) h
  obtain ⟨e1, e2, e3, e4, e5, e6⟩ := valo_each hn (value_lex hn (D - 1)) g3 h0 (by omega) g2 hp
  refine tree_of hn h0 (by omega) hle (by omega) (by omega) e2 (fun q hq => ?_) e6
  obtain ⟨a1, a2, a3, a4, _⟩ := e1 q hq
  obtain ⟨_, K, hK⟩ := ih (D - 1) (by omega) q a1 a2 a3 a4
  exact ⟨K, fun n => tree_up hK n⟩
end
section
set_option linter.unusedVariables false
set_option linter.unusedSimpArgs false
set_option maxRecDepth 100000
def Says (s : av) (p : S31) (ty : Int) (raw str : av) : Prop := (ty = 5 ∧ (p.f0 = 5 ∨ p.f0 = 6) ∧ raw = s.extract p.f1.toNat s.size) ∨ (ty ≠ 5 ∧ (p.f0 ≠ 5 ∧ p.f0 ≠ 6) ∧ raw = s.extract p.f1.toNat p.f2.toNat ∧ cF.f p.f0 = some ty ∧ (p.f0 = 4 → str = unqO s p.f1 p.f2))
def LeafOf (s S : av) (b : Nat) (p : S31) : Prop := ∃ ty raw str, Leaf s S b (at_ s b) ty raw str ∧ 0 < raw.size ∧ raw.size ≤ 65536 ∧ Says s p ty raw str
theorem leaf_of {s : av} (hs : s.size ≤ 65536) {D k : Nat} {p : S31} (hp : PairedAt s 0) (h : places (aA.at_ (D + 1)) k s = some (p.f0, p.f1, p.f2, p.f3, p.f4, true)) :
  LeafOf s (s.extract p.f1.toNat s.size) p.f1.toNat p := by
 have hn : Small s := by unfold Small; omega
 obtain ⟨kd, b, j, ns, ks⟩ := p
 simp only at h
 obtain ⟨h0, hB, hlt, hle, hR, hV, _⟩ := places_inv hn h
 have hpb := (hB.lex (by omega)).paired hn hp
 obtain ⟨b, rfl⟩ : ∃ n : Nat, b = n := ⟨b.toNat, by omega⟩
 obtain ⟨j, rfl⟩ : ∃ n : Nat, j = n := ⟨j.toNat, by omega⟩
 have hbs : b ≤ s.size := by omega
 obtain ⟨S, hS⟩ : ∃ S, s.extract b s.size = S := ⟨_, rfl⟩
 have hz : S.size = s.size - b := by rw [← hS, ByteArray.size_extract]; omega
 have hat : ∀ q, at_ S q = at_ s (b + q) := fun q => by rw [← hS]; exact at_sh hbs q
 have hx : S.extract 0 (j - b) = s.extract b j := by
  have := ext_sh (s := s) (b0 := b) (i := b) (j := j) (Nat.le_refl _) (by omega) (by omega)
  rw [Nat.sub_self, hS] at this
  exact this
 have hrest : ∀ q, j ≤ q → q < s.size → at_ s q ≤ 32 := fun q h1 h2 => by
  have := hR (q : Int) (by omega) (by omega)
  unfold isBlank at this
  unfold at_
  omega
 have hrz : (s.extract b j).size = j - b := Z34
 show LeafOf s (s.extract b s.size) b _
 rw [hS]
 have cont : (bt s b = 123 ∨ bt s b = 91) → (kd = 5 ∨ kd = 6) → LeafOf s S b ⟨kd, b, j, ns, ks⟩ := fun hc hk =>
  ⟨5, S, ⟨#[]⟩, .inr (.inl ⟨hc, rfl, rfl, rfl⟩), by omega, by omega, .inl ⟨rfl, hk, hS.symm⟩⟩
 have lit : ∀ (ty : Int) (l : List Int), seg (bytesOf s) b j = l → (∀ q : Nat, q < l.length → 97 ≤ l.getD q 0 ∧ l.getD q 0 ≤ 122) → 2 ≤ l.length → ((l.getD 0 0 = 110 ∧ l.getD 1 0 = 117 ∧ ty = 0) ∨ (l.getD 0 0 = 116 ∧ ty = 4) ∨ (l.getD 0 0 = 102 ∧ ty = 1)) → (kd ≠ 5 ∧ kd ≠ 6 ∧ kd ≠ 4) → cF.f kd = some ty →
   LeafOf s S b ⟨kd, b, j, ns, ks⟩ := by
  intro ty l hsg hl hl2 hty hk hkd
  obtain ⟨w1, w2⟩ := word_at hsg (by omega) hlt (by omega)
  have e0 : at_ s b = l.getD 0 0 := w2 0 (by omega)
  have e1 : at_ s (b + 1) = l.getD 1 0 := w2 1 (by omega)
  refine ⟨ty, s.extract b j, ⟨#[]⟩, .inr (.inr (.inl ⟨?_, fun hv => ⟨by omega, ?_⟩, rfl, by omega, fun w => ?_⟩)), by omega, by omega, .inr ⟨?_, ⟨hk.1, hk.2.1⟩, rfl, hkd, fun h => absurd h hk.2.2⟩⟩
  ·rw [e0]
   rcases hty with ⟨a, _, b⟩ | ⟨a, b⟩ | ⟨a, b⟩
   ·exact .inl ⟨a, b⟩
   ·exact .inr (.inl ⟨a, b⟩)
   ·exact .inr (.inr ⟨a, b⟩)
  ·rw [e1]
   rw [e0] at hv
   omega
  ·have := tolit_calls S (j - b) w (by omega) (by omega) (by omega) (fun q h1 h2 => ?_) (fun h1 => ?_)
   ·rw [hx] at this
    exact this
   ·rw [hat]
    have e2 : at_ s (b + q) = l.getD q 0 := w2 q (by omega)
    rw [e2]
    exact hl q (by omega)
   ·rw [hat]
    have := hrest (b + (j - b)) (by omega) (by omega)
    omega
  ·omega
 have all : ∀ l : List Int, (∀ x ∈ l, 97 ≤ x ∧ x ≤ 122) → ∀ q : Nat, q < l.length → 97 ≤ l.getD q 0 ∧ l.getD q 0 ≤ 122 := by
  intro l h q hq
  rw [List.getD_eq_getElem?_getD, List.getElem?_eq_getElem hq]
  exact h _ (List.getElem_mem hq)
 rcases hV with ⟨rfl, hc, _⟩ | ⟨rfl, _, hc, _⟩ | ⟨rfl, _, _, hSS⟩ | ⟨rfl, _, _, hc, hN⟩ | ⟨_, _, _, hw⟩
 ·exact cont (.inl hc) (.inr rfl)
 ·exact cont (.inr hc) (.inl rfl)
 ·obtain ⟨o, hI, _, k, hu⟩ := seg_unq hn (by omega) hSS hpb
  have hA := str_at hSS (bytesOf_length s)
  have hlt2 := hSS.2.1
  have hA' : StrAt s (b + 0) (b + (j - 1 - b)) := by rw [show b + (j - 1 - b) = j - 1 by omega]; exact hA
  have hI' : Inner (S.extract 1 (j - 1 - b)) 0 o := by
   have := ext_sh (s := s) (b0 := b) (i := b + 1) (j := j - 1) (by omega) (by omega) (by omega)
   rw [show b + 1 - b = 1 by omega, hS] at this
   rw [this]
   exact hI
  have hA2 := hA'.sh hbs
  rw [hS] at hA2
  refine ⟨3, s.extract b j, strOfNums o, .inr (.inr (.inr ⟨hA.op, rfl, fun w => ?_⟩)), by omega, by omega, .inr ⟨by decide, ⟨(by decide : (4 : Int) ≠ 5), (by decide : (4 : Int) ≠ 6)⟩, rfl, by simp [cF.f], fun _ => (unqO_eq hu).symm⟩⟩
  have := tostr_calls (by omega) hA2 hI' w
  rw [show j - 1 - b + 1 = j - b by omega, hx] at this
  exact this
 ·have hT : NumText (s.extract b j) := by
   refine ⟨by omega, by omega, fun q h0 h1 => ?_⟩
   rw [hrz] at h1
   rw [bt_ext (by omega) (by omega) (by omega)]
   have h2 := hN.2.2 ((b : Int) + q) (by omega) (by omega)
   unfold NumCh at h2
   unfold NumByte
   omega
  refine ⟨2, s.extract b j, ⟨#[]⟩, .inl ⟨by unfold at_; omega, rfl, rfl, fun w hW => ?_⟩, by omega, by omega, .inr ⟨by decide, ⟨(by decide : (3 : Int) ≠ 5), (by decide : (3 : Int) ≠ 6)⟩, rfl, by simp [cF.f], fun h => absurd h (by decide : (3 : Int) ≠ 4)⟩⟩
  have := tonum_calls S (j - b) w hW (by omega) (by omega) (by omega) (fun q h1 h2 => ?_) (fun h1 => ?_) (by rw [hx]; exact hT)
  ·rw [hx] at this
   exact this
  ·rw [hat]
   exact hN.2.2 ((b + q : Nat) : Int) (by omega) (by omega)
  ·rw [hat]
   exact hrest (b + (j - b)) (by omega) (by omega)
 ·rcases hw with ⟨rfl, hw⟩ | ⟨rfl, hw⟩ | ⟨rfl, hw⟩
  ·exact lit 0 _ hw (all _ (by decide)) (by simp) (by simp) (by decide) (by simp [cF.f])
  ·exact lit 1 _ hw (all _ (by decide)) (by simp) (by simp) (by decide) (by simp [cF.f])
  ·exact lit 4 _ hw (all _ (by decide)) (by simp) (by simp) (by decide) (by simp [cF.f])
end
end Go.Proofs.YtkjnahgicfmicaaGreatDoor.Gj

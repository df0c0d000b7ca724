import Derived.Test.YtmpdhdnoohmndaaGreatDoorZip
import Derived.Test.YtmpdhdnoohmndaaGreatDoorFea
import Derived.Test.YtmpdhdnoohmndaaGreatDoorQa
namespace Go.Proofs.YtmpdhdnoohmndaaGreatDoor.Gj
open Go.RowKit Go.Proofs.YtmpdhdnoohmndaaGreatDoorW.PrintWords Go.Proofs.YtmpdhdnoohmndaaGreatDoorW.PrintLast Go.Proofs.YtmpdhdnoohmndaaGreatDoorW.PrintMore Sp Dec
attribute [local go_sem] run_store_float max2_int min2_int max_two min_two max_three min_three max_four min_four
set_option linter.unusedVariables false
set_option linter.unusedSimpArgs false
def KS (R : au) (nb ne : Nat) (ks : au) : Prop := nb < ne ∧ ne < R.size ∧ ∃ vesc : Bool,
 (∀ w, Calls Tryz.prog 30 #[.string R, .int .i64 ((nb + 1 : Nat) : Int)] w fun e w' => e = .returned (.tuple #[.int .i64 ((ne + 1 : Nat) : Int), .string (R.extract nb (ne + 1)), .bool vesc, .bool true]) ∧ Below w.heap.size w w') ∧
 (vesc = true → ∀ w, Calls Tryz.prog 31 #[.string (R.extract (nb + 1) ne)] w fun e w' => e = .returned (.string ks) ∧ Below w.heap.size w w') ∧ (vesc = false → R.extract (nb + 1) ne = ks)
inductive OLay (R : au) : Nat → List (GR × GR → Prop) → Prop
 | end_ (i : Nat) : (∀ q, i ≤ q → q < R.size → at_ R q ≠ 34) → OLay R i []
 | item (i nb ne b e : Nat) (ks : au) (P : GR × GR → Prop) (G : GR → Prop) (l : List (GR × GR → Prop)) : i ≤ nb → (∀ q, i ≤ q → q < nb → at_ R q ≠ 34) → at_ R nb = 34 → KS R nb ne ks → ne + 1 ≤ b → b < e → e ≤ R.size → (∀ q, ne + 1 ≤ q → q < b → Skip (at_ R q)) → ¬ Skip (at_ R b) →
  PA R b (fun ok j g => ok = true ∧ j = (e : Int) ∧ ∀ i, G { g with idx := i }) → (∀ zk v, G v → P (⟨3, R.extract nb (ne + 1), ks, 0, zk, none, 0, 0⟩, v)) → OLay R (e + 1) l → OLay R i (P :: l)
def NextO (R S ks : au) (b : Nat) (rest : List (GR × GR → Prop)) (ok : Bool) (j : Int) (g : GR) : Prop :=
 (ok = false ∧ rest = []) ∨ (ok = true ∧ ∃ (P : GR × GR → Prop) (l : List (GR × GR → Prop)) (e : Nat), rest = P :: l ∧ j = (e : Int) ∧ b < e ∧ e ≤ R.size ∧ (∀ i zk, P (⟨3, S, ks, 0, zk, none, 0, 0⟩, { g with idx := i })) ∧ OLay R (e + 1) l)
theorem OLay.inv {R : au} {i : Nat} {rest : List (GR × GR → Prop)} (h : OLay R i rest) (hi : i < R.size) :
 (at_ R i ≠ 34 ∧ OLay R (i + 1) rest) ∨ (at_ R i = 34 ∧ ∃ ne ks b, KS R i ne ks ∧ ne + 1 ≤ b ∧ b ≤ R.size ∧ (∀ q, ne + 1 ≤ q → q < b → Skip (at_ R q)) ∧ (b < R.size → ¬ Skip (at_ R b)) ∧ PA R b (NextO R (R.extract i (ne + 1)) ks b rest)) := by
 cases h with
 | end_ _ h => exact .inl ⟨h i (Nat.le_refl _) hi, .end_ _ (fun q h1 h2 => h q (by omega) h2)⟩
 | item _ nb ne b e ks P G l h1 h2 h3 h4 h5 h6 h7 h8 h9 h10 h11 h12 =>
  by_cases c : i = nb
  ·subst c
   exact .inr ⟨h3, ne, ks, b, h4, h5, by omega, h8, fun _ => h9, h10.mono fun ok j g ⟨a1, a2, a3⟩ => .inr ⟨a1, P, l, e, rfl, a2, h6, h7, fun i zk => h11 zk _ (a3 i), h12⟩⟩
  ·exact .inl ⟨h2 i (Nat.le_refl _) (by omega), .item _ nb ne b e ks P G l (by omega) (fun q g1 g2 => h2 q (by omega) g2) h3 h4 h5 h6 h7 h8 h9 h10 h11 h12⟩
theorem OLay.over {R : au} {i : Nat} {rest : List (GR × GR → Prop)} (h : OLay R i rest) (hi : R.size ≤ i) : rest = [] := by
 cases h with
 | end_ _ h => rfl
 | item _ nb ne b e ks P G l h1 h2 h3 h4 h5 h6 h7 => have := h4.1; have := h4.2.1; omega
set_option maxRecDepth 100000 in
set_option maxHeartbeats 40000000 in
theorem feach_obj {F : FuncId} {caps : Array Value} {cont : Nat → Bool} {It : (Nat → Prop) → List (GR × GR) → World → Prop} (hI : Iter F caps cont It) (R ts : au) (tn : Nat) (ti : Int) (A : Nat → Prop) (w W0 : World)
 (hIt : It A [] w) (hW : Wok W0) (hWB : Below W0.heap.size W0 w) (hWA : ∀ k, k < W0.heap.size → A k) (hs : R.size ≤ 10000000000) (hr : 0 < R.size) (hh : at_ R 0 = 123) (ps : List (GR × GR → Prop)) (hL : OLay R 1 ps) (hps : ps.length ≤ 1000000) :
 Calls Tryz.prog 16 #[.agg #[.int .i64 5, .string R, .string ts, .float .f64 tn, .int .i64 ti, .slice none 0 0], .func (.func F) #[] caps] w (FePost cont It A ps w) := by
 have HL := aa hL
 have HI := aa hI
 have HIt := aa hIt
 have HW := aa (And.intro hW (And.intro hWB hWA))
 have HS := aa hs
 have HP := aa hps
 have hx0 : ∀ h : 0 < R.size, ((R[0]'h).toNat : Int) = 123 := fun h => by rw [← hh]; exact bt_at R 0 h
 have e0 : (R = ByteArray.empty) = False := eq_false (fun h => by rw [h] at hr; exact absurd hr (by decide))
 have e1 : (0 < R.size) = True := af hr
 clear hL hI hIt hW hWB hWA hs hr hh hps
 go_enter Tryz.func16, Tryz.ntmps16
 go_wp2_with (first | (refine aw 2 #[.int .i64 5, .string R, .string ts, .float .f64 tn, .int .i64 ti, .slice none 0 0] 46 ?_; intro b2 hg w1 hz hb; have HB := aa hb; have Z2 := aa hz; have G2 := aa (Nat.le_of_eq hg.symm); obtain ⟨p_0, p_1, p_2, p_3, p_4, p_5, pf_0, pf_1, pf_2, pf_3, pf_4, pf_5⟩ := cz6 hz; clear hb hz hg) | ((with_reducible refine gate_callee (f := 29) rfl ?_); refine goesL_ (some 16) rfl rfl Tryz.func29 (by kernel_rfl) rfl #[.agg #[.int .i64 5, .string R, .string ts, .float .f64 tn, .int .i64 ti, .slice none 0 0]] rfl Z33 ?_; (with_reducible refine (exists_true 5 R ts tn ti (.slice none 0 0) _ (by decide)).mono ?_); rintro e w2 ⟨rfl, hb⟩; refine ⟨_, rfl, ?_⟩; have HB1 := aa (below_step HB.out hb); have Z21 := aa (blk_below Z2.out hb); clear HB Z2 hb p_0 pf_0 p_1 pf_1 p_2 pf_2 p_3 pf_3 p_4 pf_4 p_5 pf_5; obtain ⟨q_0, q_1, q_2, q_3, q_4, q_5, qf_0, qf_1, qf_2, qf_3, qf_4, qf_5⟩ := cz6 Z21.out) | (refine aw 7 #[.int .i64 0, .string (⟨#[]⟩ : au), .string (⟨#[]⟩ : au), .float .f64 (0 : Nat), .int .i64 0, .slice none 0 0] 46 ?_; intro b7 hg w3 hz hb; have HB2 := aa (below_step HB1.out hb); have Z22 := aa (blk_below Z21.out hb); have Z7 := aa hz; have G7 := aa (show b2 < b7 by have := blk_lt Z21.out; omega); clear HB1 Z21 hb hz hg) | (refine aw 8 #[.int .i64 0, .string (⟨#[]⟩ : au), .string (⟨#[]⟩ : au), .float .f64 (0 : Nat), .int .i64 0, .slice none 0 0] 46 ?_; intro b8 hg w4 hz hb; have HF := aa (Fs.new HI.out HIt.out (below_step HB2.out hb) (blk_below Z22.out hb) (blk_below Z7.out hb) hz G2.out G7.out (by have := blk_lt Z7.out; omega)); clear HB2 Z22 hb hz hg Z7 G2 G7))
 (try simp only [Act.put, ao, ap, aq])
 go_loopg [5, 6] 0 (fun kq v5 v6 wd => v5 = .bool false ∧ v6 = .int .i64 0 ∧ Aside0 (wd = w4))
 case atStart => exact ⟨rfl, rfl, ⟨rfl⟩⟩
 case round =>
  obtain ⟨rfl, rfl, ⟨rfl⟩⟩ := hrel
  have n78 := HF.out.n78
  have n87 := Ne.symm HF.out.n78
  have n27 := HF.out.n27
  obtain ⟨r_0, r_1, r_2, r_3, r_4, r_5, rf_0, rf_1, rf_2, rf_3, rf_4, rf_5⟩ := cz6 HF.out.z7
  go_wp2_with ((refine store_event ?hg ?hd (W1 := wr.setCell ⟨b7, 0, none⟩ (.int .i64 3)) ?hr ?_; (case hd => rfl); (case hg => rfl); (case hr => exact Z11); intro w5 hw; have HF1 := aa (HF.out.set7 HI.out 0 _ rfl hw); clear hw HF r_0 rf_0 r_1 rf_1 r_2 rf_2 r_3 rf_3 r_4 rf_4 r_5 rf_5))
  clear HIt hx0
  clear n78 n87 n27
  (try simp only [Act.put, ao, ap, aq])
  go_loopg [6, 12] (R.size + 2) (fun kq v6 v12 wd => ∃ (x6 x12 : Int) (i : Nat) (k1 k2 : au) (k4 : Int) (l1 : List (GR × GR)) (rest : List (GR × GR → Prop)) (y0 : Int) (y1 y2 : au) (y3 : Nat) (y4 : Int) (y5 : Option Addr) (y6 y7 : Nat), v6 = .int .i64 x6 ∧ v12 = .int .i64 x12 ∧ Aside0 (x6 = i ∧ R.size + 2 ≤ kq + i ∧ i ≤ R.size + 1 ∧ OLay R i rest ∧ True ∧ Left cont ps l1 rest) ∧ Aside0 (Fs It A w b2 b7 b8 l1 #[.int .i64 5, .string R, .string ts, .float .f64 tn, .int .i64 ti, .slice none 0 0] #[.int .i64 3, .string k1, .string k2, .float .f64 (0 : Nat), .int .i64 k4, .slice none 0 0] #[.int .i64 y0, .string y1, .string y2, .float .f64 y3, .int .i64 y4, .slice y5 y6 y7] wd))
  case atStart => exact ⟨_, _, 1, _, _, _, [], ps, _, _, _, _, _, _, _, _, rfl, rfl, ⟨rfl, by omega, by omega, HL.out, trivial, Left.start _ _ HP.out⟩, HF1⟩
  case round =>
   clear HF1 HL
   obtain ⟨x6, x12, i, k1, k2, k4, l1, rest, y0, y1, y2, y3, y4, y5, y6, y7, rfl, rfl, HM, HF⟩ := hrel
   cases gk with
   | zero => exact absurd HM.out.2.1 Z55
   | succ gK =>
   by_cases hlt : x6 < (R.size : Int)
   ·have c1 : decide (x6 < (R.size : Int)) = true := ac hlt
    have hi : i < R.size := by have := HM.out.1; omega
    obtain ⟨v, hv⟩ : ∃ v, at_ R i = v := ⟨_, rfl⟩
    have hx : ∀ h : x6.toNat < R.size, ((R[x6.toNat]'h).toNat : Int) = v := fun h => by rw [← hv]; exact at_get R x6 i HM.out.1 h
    have h60 : (0 ≤ x6) = True := af (by have := HM.out.1; omega)
    have h61 : (x6 < (R.size : Int)) = True := af hlt
    obtain ⟨z, f0, hz⟩ : ∃ z, IntKind.i64.wrap (x6 + 1) = z ∧ Aside0 (z = ((i + 1 : Nat) : Int)) := ⟨_, wrp (by have := HM.out.1; omega) (by have := HM.out.1; have := HS.out; omega), ⟨by have := HM.out.1; omega⟩⟩
    rcases HM.out.2.2.2.1.inv hi with ⟨h1, h2⟩ | ⟨h1, ne, ks, b, hks, g1, g2, g3, g4, g5⟩
    ·have hne : (v != 34) = true := ai (by rw [← hv]; exact h1)
     have HA := aa h2
     clear h1 h2 hv hlt hi
     go_wp2_with (fail)
     go_roundg gK
     case measure => exact Nat.lt_succ_self gK
     case rel => exact ⟨_, _, i + 1, _, _, _, l1, rest, _, _, _, _, _, _, _, _, rfl, rfl, ⟨hz.out, Z54, by have := HM.out.1; have := ab c1; omega, HA.out, trivial, HM.out.2.2.2.2.2⟩, HF⟩
    ·have hne : (v != 34) = false := aj (by rw [← hv]; exact h1)
     obtain ⟨n1, n2, vesc, p1, p2, p3⟩ := hks
     obtain ⟨S, hS⟩ : ∃ S, R.extract i (ne + 1) = S := ⟨_, rfl⟩
     obtain ⟨T, hT⟩ : ∃ T, R.extract (i + 1) ne = T := ⟨_, rfl⟩
     obtain ⟨r1, hr1⟩ : ∃ r1 : Int, ((ne + 1 : Nat) : Int) = r1 := ⟨_, rfl⟩
     have hSz : S.size = ne + 1 - i := by rw [← hS, ByteArray.size_extract]; omega
     obtain ⟨zs, fs, hzs⟩ : ∃ z, IntKind.i64.wrap ((S.size : Int) - 1) = z ∧ Aside0 (z = ((ne - i : Nat) : Int)) := ⟨_, wrp (by omega) (by have := HS.out; omega), ⟨by omega⟩⟩
     have hcut : S.extract 1 zs.toNat = T := by rw [hzs.out, ← hS, ← hT, ByteArray.extract_extract]; congr 1 <;> omega
     have s1 : (1 ≤ zs) = True := af (by have := hzs.out; omega)
     have s2 : (zs ≤ (S.size : Int)) = True := af (by have := hzs.out; omega)
     obtain ⟨zk, fk⟩ : ∃ zk, IntKind.i64.wrap (x6 + ti) = zk := ⟨_, rfl⟩
     rw [hS, hr1] at p1
     rw [hT] at p2 p3
     rw [hS] at g5
     have hz1 := hz.out
     rw [← hz1] at p1
     have HP1 := aa p1
     have HP2 := aa p2
     have HP3 := aa p3
     have HX := aa hr1.symm
     have HX2 := aa (show i ≤ ne + 1 by omega)
     have HG := aa (And.intro g1 (And.intro g2 (And.intro g3 g4)))
     have HPA := aa g5
     clear g1 g2 g3 g4 g5 p1 p2 p3 hr1 hz1 hv h1 hlt hi n1 n2 hS hT hSz
     go_wp2_with (fail)
     refine (HP1.out _).mono ?_
     rintro e w5 ⟨rfl, hb⟩
     have HF1 := aa (HF.out.below HI.out hb)
     clear hb HF HP1
     obtain ⟨q_0, q_1, q_2, q_3, q_4, q_5, qf_0, qf_1, qf_2, qf_3, qf_4, qf_5⟩ := cz6 HF1.out.z2
     obtain ⟨r_0, r_1, r_2, r_3, r_4, r_5, rf_0, rf_1, rf_2, rf_3, rf_4, rf_5⟩ := cz6 HF1.out.z7
     have n78 := HF1.out.n78
     have n87 := Ne.symm HF1.out.n78
     have n27 := HF1.out.n27
     have n72 := Ne.symm HF1.out.n27
     cases vesc with
     | false =>
      obtain rfl := HP3.out rfl
      go_wp2_with (first | (refine store_event ?hg ?hd (W1 := w5.setCell ⟨b7, 2, none⟩ (.string T)) ?hr ?_; (case hd => rfl); (case hg => rfl); (case hr => exact Z11); intro w6 hw; have HF2 := aa (HF1.out.set7 HI.out 2 _ rfl hw); clear hw HF1 q_0 qf_0 q_1 qf_1 q_2 qf_2 q_3 qf_3 q_4 qf_4 q_5 qf_5 r_0 rf_0 r_1 rf_1 r_2 rf_2 r_3 rf_3 r_4 rf_4 r_5 rf_5; obtain ⟨q_0, q_1, q_2, q_3, q_4, q_5, qf_0, qf_1, qf_2, qf_3, qf_4, qf_5⟩ := cz6 HF2.out.z2; obtain ⟨r_0, r_1, r_2, r_3, r_4, r_5, rf_0, rf_1, rf_2, rf_3, rf_4, rf_5⟩ := cz6 HF2.out.z7) | (refine store_event ?hg ?hd (W1 := w6.setCell ⟨b7, 1, none⟩ (.string S)) ?hr ?_; (case hd => rfl); (case hg => rfl); (case hr => exact Z11); intro w7 hw; have HF3 := aa (HF2.out.set7 HI.out 1 _ rfl hw); clear hw HF2 q_0 qf_0 q_1 qf_1 q_2 qf_2 q_3 qf_3 q_4 qf_4 q_5 qf_5 r_0 rf_0 r_1 rf_1 r_2 rf_2 r_3 rf_3 r_4 rf_4 r_5 rf_5; obtain ⟨q_0, q_1, q_2, q_3, q_4, q_5, qf_0, qf_1, qf_2, qf_3, qf_4, qf_5⟩ := cz6 HF3.out.z2; obtain ⟨r_0, r_1, r_2, r_3, r_4, r_5, rf_0, rf_1, rf_2, rf_3, rf_4, rf_5⟩ := cz6 HF3.out.z7) | (refine store_event ?hg ?hd (W1 := w7.setCell ⟨b7, 4, none⟩ (.int .i64 zk)) ?hr ?_; (case hd => rfl); (case hg => rfl); (case hr => exact Z11); intro w10 hw; have HF4 := aa (HF3.out.set7 HI.out 4 _ rfl hw); clear hw HF3 q_0 qf_0 q_1 qf_1 q_2 qf_2 q_3 qf_3 q_4 qf_4 q_5 qf_5 r_0 rf_0 r_1 rf_1 r_2 rf_2 r_3 rf_3 r_4 rf_4 r_5 rf_5; obtain ⟨q_0, q_1, q_2, q_3, q_4, q_5, qf_0, qf_1, qf_2, qf_3, qf_4, qf_5⟩ := cz6 HF4.out.z2; obtain ⟨r_0, r_1, r_2, r_3, r_4, r_5, rf_0, rf_1, rf_2, rf_3, rf_4, rf_5⟩ := cz6 HF4.out.z7))
      (try simp only [Act.put, ao, ap, aq])
      go_loopg [6] R.size (fun kq v6 wd => ∃ (z6 : Int) (q : Nat), v6 = .int .i64 z6 ∧ Aside0 (z6 = q ∧ (ne + 1) ≤ q ∧ q ≤ b ∧ b ≤ kq + q) ∧ Aside0 (wd = w10))
      case atStart => exact ⟨_, (ne + 1), rfl, ⟨by first | exact HM.out.1 | exact HX.out, Nat.le_refl _, HG.out.1, by have := HG.out.2.1; omega⟩, ⟨rfl⟩⟩
      case round =>
       obtain ⟨z6, q, rfl, HQ, ⟨rfl⟩⟩ := hrel
       obtain ⟨wo, rfl⟩ : ∃ wo : World, wo = wr := ⟨_, rfl⟩
       try clear r_0 rf_0 r_1 rf_1 r_2 rf_2 r_3 rf_3 r_4 rf_4 r_5 rf_5 hR1 n78 n87 n27 q_0 qf_0 q_1 qf_1 q_2 qf_2 q_3 qf_3 q_4 qf_4 q_5 qf_5
       by_cases hqb : q < b
       ·cases gk with
        | zero => exact absurd hqb (by have := HQ.out.2.2.2; omega)
        | succ gj =>
        have c2 : decide (z6 < (R.size : Int)) = true := ac (by have := HQ.out.1; have := HG.out.2.1; omega)
        obtain ⟨v, hv⟩ : ∃ v, at_ R q = v := ⟨_, rfl⟩
        have hx : ∀ h : z6.toNat < R.size, ((R[z6.toNat]'h).toNat : Int) = v := fun h => by rw [← hv]; exact at_get R z6 q HQ.out.1 h
        have h60 : (0 ≤ z6) = True := af (by have := HQ.out.1; omega)
        have h61 : (z6 < (R.size : Int)) = True := af (ab c2)
        obtain ⟨z, f0, hz⟩ : ∃ z, IntKind.i64.wrap (z6 + 1) = z ∧ Aside0 (z = ((q + 1 : Nat) : Int)) := ⟨_, wrp (by have := HQ.out.1; omega) (by have := HQ.out.1; have := HG.out.2.1; have := HS.out; omega), ⟨by have := HQ.out.1; omega⟩⟩
        have hsk := HG.out.2.2.1 q HQ.out.2.1 hqb
        rw [hv] at hsk
        have hways : decide (v ≤ 32) = true ∨ (decide (v ≤ 32) = false ∧ v = 44) ∨ (decide (v ≤ 32) = false ∧ v = 58) := by
         unfold Skip at hsk
         by_cases h1 : v ≤ 32
         ·exact .inl (ac h1)
         ·rcases hsk with h | h | h
          ·exact absurd h h1
          ·exact .inr (.inl ⟨ae h1, h⟩)
          ·exact .inr (.inr ⟨ae h1, h⟩)
        clear hsk hv
        rcases hways with h1 | ⟨h1, rfl⟩ | ⟨h1, rfl⟩
        all_goals
         go_wp2_with (fail)
         go_roundg gj
         case measure => exact Nat.lt_succ_self gj
         case rel => exact ⟨_, q + 1, rfl, ⟨by have := hz.out; have := f0; omega, by have := HQ.out.2.1; omega, by omega, by have := HQ.out.2.2.2; omega⟩, ⟨rfl⟩⟩
       ·obtain rfl : q = b := by have := HQ.out.2.2.1; omega
        have HZ := aa HQ.out.1
        have HPB := aa (show PA R z6 (NextO R S T q rest) by rw [HQ.out.1]; exact HPA.out)
        clear HPA HQ hqb
        have stop : (decide (z6 < (R.size : Int)) = false) ∨ (decide (z6 < (R.size : Int)) = true ∧ (z6 < (R.size : Int)) = True ∧ ∃ v : Int, (∀ h : z6.toNat < R.size, ((R[z6.toNat]'h).toNat : Int) = v) ∧ decide (v ≤ 32) = false ∧ (v == 44) = false ∧ (v == 58) = false) := by
         by_cases h : q < R.size
         ·have h1 := HG.out.2.2.2 h
          unfold Skip at h1
          exact .inr ⟨ac (by have := HZ.out; omega), af (by have := HZ.out; omega), at_ R q, at_get R z6 q HZ.out, ae (by omega), ag (by omega), ag (by omega)⟩
         ·exact .inl (ae (by have := HZ.out; omega))
        have h60 : (0 ≤ z6) = True := af (by have := HZ.out; omega)
        obtain ⟨q_0, q_1, q_2, q_3, q_4, q_5, qf_0, qf_1, qf_2, qf_3, qf_4, qf_5⟩ := cz6 HF4.out.z2
        obtain ⟨r_0, r_1, r_2, r_3, r_4, r_5, rf_0, rf_1, rf_2, rf_3, rf_4, rf_5⟩ := cz6 HF4.out.z7
        obtain ⟨s_0, s_1, s_2, s_3, s_4, s_5, sf_0, sf_1, sf_2, sf_3, sf_4, sf_5⟩ := cz6 HF4.out.z8
        have HWK := aa (HF4.out.wok HW.out)
        rcases stop with c2 | ⟨c2, c3, v, hx, h1, h2, h3⟩
        all_goals
         go_wp2_with (fail)
         refine (PA.calls HPB.out HWK.out).mono ?_
         rintro e w8 ⟨ok, j, ⟨g0, g1, g2, g3, g4, g5, g6, g7⟩, hq, he, hb⟩
         obtain rfl : e = .returned (.tuple #[.int .i64 j, .agg #[.int .i64 g0, .string g1, .string g2, .float .f64 g3, .int .i64 g4, .slice g5 g6 g7], .bool ok]) := he
         have HN1 := aa hq
         have HF2 := aa (HF4.out.below HI.out hb)
         clear hq hb HWK q_0 qf_0 q_1 qf_1 q_2 qf_2 q_3 qf_3 q_4 qf_4 q_5 qf_5 r_0 rf_0 r_1 rf_1 r_2 rf_2 r_3 rf_3 r_4 rf_4 r_5 rf_5 s_0 sf_0 s_1 sf_1 s_2 sf_2 s_3 sf_3 s_4 sf_4 s_5 sf_5
         obtain ⟨s_0, s_1, s_2, s_3, s_4, s_5, sf_0, sf_1, sf_2, sf_3, sf_4, sf_5⟩ := cz6 HF2.out.z8
         go_upto_region 41 with ((refine store_event ?hg ?hd (W1 := (((((w8.setCell ⟨b8, 0, none⟩ (.int .i64 g0)).setCell ⟨b8, 1, none⟩ (.string g1)).setCell ⟨b8, 2, none⟩ (.string g2)).setCell ⟨b8, 3, none⟩ (.float .f64 g3)).setCell ⟨b8, 4, none⟩ (.int .i64 g4)).setCell ⟨b8, 5, none⟩ (.slice g5 g6 g7)) ?hr ?_; (case hd => rfl); (case hg => rfl); (case hr => exact Z11); intro w9 hw; have HF3 := aa (HF2.out.set55 HI.out _ _ _ _ _ _ hw); clear hw HF2 s_0 sf_0 s_1 sf_1 s_2 sf_2 s_3 sf_3 s_4 sf_4 s_5 sf_5))
         rcases HN1.out with ⟨rfl, rfl⟩ | ⟨rfl, G, l, e1, rfl, hj, he1, he2, hG, hAL⟩
         ·clear HN1
          go_wp2_with (fail)
          refine bodyPost_ret (results_list (rs := []) rfl (by simp) .nil) rfl ?_
          exact ⟨rfl, l1, HM.out.2.2.2.2.2.done, HI.out.less HF3.out.it (fun _ h => .inl h), HF3.out.kp⟩
         ·clear HN1
          have HJ := aa (And.intro hj (And.intro he1 (And.intro he2 (And.intro hG hAL))))
          obtain ⟨zi, f1⟩ : ∃ zi, IntKind.i64.wrap (z6 + ti) = zi := ⟨_, rfl⟩
          obtain ⟨zj, f2, hzj⟩ : ∃ z, IntKind.i64.wrap (j + 1) = z ∧ Aside0 (z = ((e1 + 1 : Nat) : Int)) := ⟨_, wrp (by omega) (by have := HS.out; omega), ⟨by omega⟩⟩
          obtain ⟨z12, f3⟩ : ∃ z, IntKind.i64.wrap (x12 + 1) = z := ⟨_, rfl⟩
          obtain ⟨cb, hcb⟩ : ∃ cb, cont (l1.length + 1) = cb := ⟨_, rfl⟩
          have HCB := aa hcb
          have HFN := aa HI.out.fn
          clear hj he1 he2 hG hAL hcb
          have n78 := HF3.out.n78
          have n87 := Ne.symm HF3.out.n78
          have n28 := HF3.out.n28
          have n27 := HF3.out.n27
          obtain ⟨q_0, q_1, q_2, q_3, q_4, q_5, qf_0, qf_1, qf_2, qf_3, qf_4, qf_5⟩ := cz6 HF3.out.z2
          obtain ⟨r_0, r_1, r_2, r_3, r_4, r_5, rf_0, rf_1, rf_2, rf_3, rf_4, rf_5⟩ := cz6 HF3.out.z7
          obtain ⟨s_0, s_1, s_2, s_3, s_4, s_5, sf_0, sf_1, sf_2, sf_3, sf_4, sf_5⟩ := cz6 HF3.out.z8
          cases cb with
          | false =>
           go_wp2_with (first | (refine store_event ?hg ?hd (W1 := w9.setCell ⟨b8, 4, none⟩ (.int .i64 zi)) ?hr ?_; (case hd => rfl); (case hg => rfl); (case hr => exact Z11); intro w10 hw; have HF4 := aa (HF3.out.set8 HI.out 4 _ rfl hw); clear hw HF3 n78 n87 n28 n27 q_0 qf_0 q_1 qf_1 q_2 qf_2 q_3 qf_3 q_4 qf_4 q_5 qf_5 r_0 rf_0 r_1 rf_1 r_2 rf_2 r_3 rf_3 r_4 rf_4 r_5 rf_5 s_0 sf_0 s_1 sf_1 s_2 sf_2 s_3 sf_3 s_4 sf_4 s_5 sf_5; obtain ⟨r_0, r_1, r_2, r_3, r_4, r_5, rf_0, rf_1, rf_2, rf_3, rf_4, rf_5⟩ := cz6 HF4.out.z7; obtain ⟨s_0, s_1, s_2, s_3, s_4, s_5, sf_0, sf_1, sf_2, sf_3, sf_4, sf_5⟩ := cz6 HF4.out.z8) | ((with_reducible refine gate_dst (N := 154) rfl ?_); obtain ⟨fn, hf1, hf2, hf3⟩ := HFN.out; refine goesV_ (some 154) rfl rfl hf1 hf2 hf3 (#[GR.v ⟨3, S, T, 0, zk, none, 0, 0⟩, GR.v ⟨g0, g1, g2, g3, zi, g5, g6, g7⟩] ++ caps) rfl rfl Z33 ?_; refine (HI.out.call ⟨3, S, T, 0, zk, none, 0, 0⟩ ⟨g0, g1, g2, g3, zi, g5, g6, g7⟩ HF4.out.it (by have := HM.out.2.2.2.2.2.2; omega)).mono ?_; rintro e w11 ⟨he, hit, hkp⟩; rw [HCB.out] at he; subst he; refine ⟨_, rfl, ?_⟩; have HF5 := aa (HF4.out.called hit hkp); clear hit hkp HF4 hf1 hf2 hf3 r_0 rf_0 r_1 rf_1 r_2 rf_2 r_3 rf_3 r_4 rf_4 r_5 rf_5 s_0 sf_0 s_1 sf_1 s_2 sf_2 s_3 sf_3 s_4 sf_4 s_5 sf_5))
           refine bodyPost_ret (results_list (rs := []) rfl (by simp) .nil) rfl ?_
           exact ⟨rfl, l1 ++ [(⟨3, S, T, 0, zk, none, 0, 0⟩, ⟨g0, g1, g2, g3, zi, g5, g6, g7⟩)], HM.out.2.2.2.2.2.stop (HJ.out.2.2.2.1 zi zk) HCB.out, HI.out.less HF5.out.it (fun _ h => .inl h), HF5.out.kp⟩
          | true =>
           go_wp2_with (first | (refine store_event ?hg ?hd (W1 := w9.setCell ⟨b8, 4, none⟩ (.int .i64 zi)) ?hr ?_; (case hd => rfl); (case hg => rfl); (case hr => exact Z11); intro w10 hw; have HF4 := aa (HF3.out.set8 HI.out 4 _ rfl hw); clear hw HF3 n78 n87 n28 n27 q_0 qf_0 q_1 qf_1 q_2 qf_2 q_3 qf_3 q_4 qf_4 q_5 qf_5 r_0 rf_0 r_1 rf_1 r_2 rf_2 r_3 rf_3 r_4 rf_4 r_5 rf_5 s_0 sf_0 s_1 sf_1 s_2 sf_2 s_3 sf_3 s_4 sf_4 s_5 sf_5; obtain ⟨r_0, r_1, r_2, r_3, r_4, r_5, rf_0, rf_1, rf_2, rf_3, rf_4, rf_5⟩ := cz6 HF4.out.z7; obtain ⟨s_0, s_1, s_2, s_3, s_4, s_5, sf_0, sf_1, sf_2, sf_3, sf_4, sf_5⟩ := cz6 HF4.out.z8) | ((with_reducible refine gate_dst (N := 154) rfl ?_); obtain ⟨fn, hf1, hf2, hf3⟩ := HFN.out; refine goesV_ (some 154) rfl rfl hf1 hf2 hf3 (#[GR.v ⟨3, S, T, 0, zk, none, 0, 0⟩, GR.v ⟨g0, g1, g2, g3, zi, g5, g6, g7⟩] ++ caps) rfl rfl Z33 ?_; refine (HI.out.call ⟨3, S, T, 0, zk, none, 0, 0⟩ ⟨g0, g1, g2, g3, zi, g5, g6, g7⟩ HF4.out.it (by have := HM.out.2.2.2.2.2.2; omega)).mono ?_; rintro e w11 ⟨he, hit, hkp⟩; rw [HCB.out] at he; subst he; refine ⟨_, rfl, ?_⟩; have HF5 := aa (HF4.out.called hit hkp); clear hit hkp HF4 hf1 hf2 hf3 r_0 rf_0 r_1 rf_1 r_2 rf_2 r_3 rf_3 r_4 rf_4 r_5 rf_5 s_0 sf_0 s_1 sf_1 s_2 sf_2 s_3 sf_3 s_4 sf_4 s_5 sf_5))
           go_roundg gK
           case measure => exact Nat.lt_succ_self gK
           case rel => exact ⟨_, _, e1 + 1, _, _, _, l1 ++ [(⟨3, S, T, 0, zk, none, 0, 0⟩, ⟨g0, g1, g2, g3, zi, g5, g6, g7⟩)], l, _, _, _, _, _, _, _, _, rfl, rfl, ⟨hzj.out, by have := HM.out.2.1; have := HG.out.1; have := HX2.out; have := HJ.out.2.1; omega, by have := HJ.out.2.2.1; omega, HJ.out.2.2.2.2, trivial, HM.out.2.2.2.2.2.more (HJ.out.2.2.2.1 zi zk) HCB.out⟩, HF5⟩
     | true =>
      go_wp2_with (fail)
      refine (HP2.out (by trivial) _).mono ?_
      rintro e w55 ⟨rfl, hb⟩
      have HF11 := aa (HF1.out.below HI.out hb)
      clear hb HF1 q_0 qf_0 q_1 qf_1 q_2 qf_2 q_3 qf_3 q_4 qf_4 q_5 qf_5 r_0 rf_0 r_1 rf_1 r_2 rf_2 r_3 rf_3 r_4 rf_4 r_5 rf_5
      obtain ⟨q_0, q_1, q_2, q_3, q_4, q_5, qf_0, qf_1, qf_2, qf_3, qf_4, qf_5⟩ := cz6 HF11.out.z2
      obtain ⟨r_0, r_1, r_2, r_3, r_4, r_5, rf_0, rf_1, rf_2, rf_3, rf_4, rf_5⟩ := cz6 HF11.out.z7
      go_wp2_with (first | (refine store_event ?hg ?hd (W1 := w55.setCell ⟨b7, 2, none⟩ (.string ks)) ?hr ?_; (case hd => rfl); (case hg => rfl); (case hr => exact Z11); intro w6 hw; have HF2 := aa (HF11.out.set7 HI.out 2 _ rfl hw); clear hw HF11 q_0 qf_0 q_1 qf_1 q_2 qf_2 q_3 qf_3 q_4 qf_4 q_5 qf_5 r_0 rf_0 r_1 rf_1 r_2 rf_2 r_3 rf_3 r_4 rf_4 r_5 rf_5; obtain ⟨q_0, q_1, q_2, q_3, q_4, q_5, qf_0, qf_1, qf_2, qf_3, qf_4, qf_5⟩ := cz6 HF2.out.z2; obtain ⟨r_0, r_1, r_2, r_3, r_4, r_5, rf_0, rf_1, rf_2, rf_3, rf_4, rf_5⟩ := cz6 HF2.out.z7) | (refine store_event ?hg ?hd (W1 := w6.setCell ⟨b7, 1, none⟩ (.string S)) ?hr ?_; (case hd => rfl); (case hg => rfl); (case hr => exact Z11); intro w7 hw; have HF3 := aa (HF2.out.set7 HI.out 1 _ rfl hw); clear hw HF2 q_0 qf_0 q_1 qf_1 q_2 qf_2 q_3 qf_3 q_4 qf_4 q_5 qf_5 r_0 rf_0 r_1 rf_1 r_2 rf_2 r_3 rf_3 r_4 rf_4 r_5 rf_5; obtain ⟨q_0, q_1, q_2, q_3, q_4, q_5, qf_0, qf_1, qf_2, qf_3, qf_4, qf_5⟩ := cz6 HF3.out.z2; obtain ⟨r_0, r_1, r_2, r_3, r_4, r_5, rf_0, rf_1, rf_2, rf_3, rf_4, rf_5⟩ := cz6 HF3.out.z7) | (refine store_event ?hg ?hd (W1 := w7.setCell ⟨b7, 4, none⟩ (.int .i64 zk)) ?hr ?_; (case hd => rfl); (case hg => rfl); (case hr => exact Z11); intro w10 hw; have HF4 := aa (HF3.out.set7 HI.out 4 _ rfl hw); clear hw HF3 q_0 qf_0 q_1 qf_1 q_2 qf_2 q_3 qf_3 q_4 qf_4 q_5 qf_5 r_0 rf_0 r_1 rf_1 r_2 rf_2 r_3 rf_3 r_4 rf_4 r_5 rf_5; obtain ⟨q_0, q_1, q_2, q_3, q_4, q_5, qf_0, qf_1, qf_2, qf_3, qf_4, qf_5⟩ := cz6 HF4.out.z2; obtain ⟨r_0, r_1, r_2, r_3, r_4, r_5, rf_0, rf_1, rf_2, rf_3, rf_4, rf_5⟩ := cz6 HF4.out.z7))
      (try simp only [Act.put, ao, ap, aq])
      go_loopg [6] R.size (fun kq v6 wd => ∃ (z6 : Int) (q : Nat), v6 = .int .i64 z6 ∧ Aside0 (z6 = q ∧ (ne + 1) ≤ q ∧ q ≤ b ∧ b ≤ kq + q) ∧ Aside0 (wd = w10))
      case atStart => exact ⟨_, (ne + 1), rfl, ⟨by first | exact HM.out.1 | exact HX.out, Nat.le_refl _, HG.out.1, by have := HG.out.2.1; omega⟩, ⟨rfl⟩⟩
      case round =>
       obtain ⟨z6, q, rfl, HQ, ⟨rfl⟩⟩ := hrel
       obtain ⟨wo, rfl⟩ : ∃ wo : World, wo = wr := ⟨_, rfl⟩
       try clear r_0 rf_0 r_1 rf_1 r_2 rf_2 r_3 rf_3 r_4 rf_4 r_5 rf_5 hR1 n78 n87 n27 q_0 qf_0 q_1 qf_1 q_2 qf_2 q_3 qf_3 q_4 qf_4 q_5 qf_5
       by_cases hqb : q < b
       ·cases gk with
        | zero => exact absurd hqb (by have := HQ.out.2.2.2; omega)
        | succ gj =>
        have c2 : decide (z6 < (R.size : Int)) = true := ac (by have := HQ.out.1; have := HG.out.2.1; omega)
        obtain ⟨v, hv⟩ : ∃ v, at_ R q = v := ⟨_, rfl⟩
        have hx : ∀ h : z6.toNat < R.size, ((R[z6.toNat]'h).toNat : Int) = v := fun h => by rw [← hv]; exact at_get R z6 q HQ.out.1 h
        have h60 : (0 ≤ z6) = True := af (by have := HQ.out.1; omega)
        have h61 : (z6 < (R.size : Int)) = True := af (ab c2)
        obtain ⟨z, f0, hz⟩ : ∃ z, IntKind.i64.wrap (z6 + 1) = z ∧ Aside0 (z = ((q + 1 : Nat) : Int)) := ⟨_, wrp (by have := HQ.out.1; omega) (by have := HQ.out.1; have := HG.out.2.1; have := HS.out; omega), ⟨by have := HQ.out.1; omega⟩⟩
        have hsk := HG.out.2.2.1 q HQ.out.2.1 hqb
        rw [hv] at hsk
        have hways : decide (v ≤ 32) = true ∨ (decide (v ≤ 32) = false ∧ v = 44) ∨ (decide (v ≤ 32) = false ∧ v = 58) := by
         unfold Skip at hsk
         by_cases h1 : v ≤ 32
         ·exact .inl (ac h1)
         ·rcases hsk with h | h | h
          ·exact absurd h h1
          ·exact .inr (.inl ⟨ae h1, h⟩)
          ·exact .inr (.inr ⟨ae h1, h⟩)
        clear hsk hv
        rcases hways with h1 | ⟨h1, rfl⟩ | ⟨h1, rfl⟩
        all_goals
         go_wp2_with (fail)
         go_roundg gj
         case measure => exact Nat.lt_succ_self gj
         case rel => exact ⟨_, q + 1, rfl, ⟨by have := hz.out; have := f0; omega, by have := HQ.out.2.1; omega, by omega, by have := HQ.out.2.2.2; omega⟩, ⟨rfl⟩⟩
       ·obtain rfl : q = b := by have := HQ.out.2.2.1; omega
        have HZ := aa HQ.out.1
        have HPB := aa (show PA R z6 (NextO R S ks q rest) by rw [HQ.out.1]; exact HPA.out)
        clear HPA HQ hqb
        have stop : (decide (z6 < (R.size : Int)) = false) ∨ (decide (z6 < (R.size : Int)) = true ∧ (z6 < (R.size : Int)) = True ∧ ∃ v : Int, (∀ h : z6.toNat < R.size, ((R[z6.toNat]'h).toNat : Int) = v) ∧ decide (v ≤ 32) = false ∧ (v == 44) = false ∧ (v == 58) = false) := by
         by_cases h : q < R.size
         ·have h1 := HG.out.2.2.2 h
          unfold Skip at h1
          exact .inr ⟨ac (by have := HZ.out; omega), af (by have := HZ.out; omega), at_ R q, at_get R z6 q HZ.out, ae (by omega), ag (by omega), ag (by omega)⟩
         ·exact .inl (ae (by have := HZ.out; omega))
        have h60 : (0 ≤ z6) = True := af (by have := HZ.out; omega)
        obtain ⟨q_0, q_1, q_2, q_3, q_4, q_5, qf_0, qf_1, qf_2, qf_3, qf_4, qf_5⟩ := cz6 HF4.out.z2
        obtain ⟨r_0, r_1, r_2, r_3, r_4, r_5, rf_0, rf_1, rf_2, rf_3, rf_4, rf_5⟩ := cz6 HF4.out.z7
        obtain ⟨s_0, s_1, s_2, s_3, s_4, s_5, sf_0, sf_1, sf_2, sf_3, sf_4, sf_5⟩ := cz6 HF4.out.z8
        have HWK := aa (HF4.out.wok HW.out)
        rcases stop with c2 | ⟨c2, c3, v, hx, h1, h2, h3⟩
        all_goals
         go_wp2_with (fail)
         refine (PA.calls HPB.out HWK.out).mono ?_
         rintro e w8 ⟨ok, j, ⟨g0, g1, g2, g3, g4, g5, g6, g7⟩, hq, he, hb⟩
         obtain rfl : e = .returned (.tuple #[.int .i64 j, .agg #[.int .i64 g0, .string g1, .string g2, .float .f64 g3, .int .i64 g4, .slice g5 g6 g7], .bool ok]) := he
         have HN1 := aa hq
         have HF2 := aa (HF4.out.below HI.out hb)
         clear hq hb HWK q_0 qf_0 q_1 qf_1 q_2 qf_2 q_3 qf_3 q_4 qf_4 q_5 qf_5 r_0 rf_0 r_1 rf_1 r_2 rf_2 r_3 rf_3 r_4 rf_4 r_5 rf_5 s_0 sf_0 s_1 sf_1 s_2 sf_2 s_3 sf_3 s_4 sf_4 s_5 sf_5
         obtain ⟨s_0, s_1, s_2, s_3, s_4, s_5, sf_0, sf_1, sf_2, sf_3, sf_4, sf_5⟩ := cz6 HF2.out.z8
         go_upto_region 41 with ((refine store_event ?hg ?hd (W1 := (((((w8.setCell ⟨b8, 0, none⟩ (.int .i64 g0)).setCell ⟨b8, 1, none⟩ (.string g1)).setCell ⟨b8, 2, none⟩ (.string g2)).setCell ⟨b8, 3, none⟩ (.float .f64 g3)).setCell ⟨b8, 4, none⟩ (.int .i64 g4)).setCell ⟨b8, 5, none⟩ (.slice g5 g6 g7)) ?hr ?_; (case hd => rfl); (case hg => rfl); (case hr => exact Z11); intro w9 hw; have HF3 := aa (HF2.out.set55 HI.out _ _ _ _ _ _ hw); clear hw HF2 s_0 sf_0 s_1 sf_1 s_2 sf_2 s_3 sf_3 s_4 sf_4 s_5 sf_5))
         rcases HN1.out with ⟨rfl, rfl⟩ | ⟨rfl, G, l, e1, rfl, hj, he1, he2, hG, hAL⟩
         ·clear HN1
          go_wp2_with (fail)
          refine bodyPost_ret (results_list (rs := []) rfl (by simp) .nil) rfl ?_
          exact ⟨rfl, l1, HM.out.2.2.2.2.2.done, HI.out.less HF3.out.it (fun _ h => .inl h), HF3.out.kp⟩
         ·clear HN1
          have HJ := aa (And.intro hj (And.intro he1 (And.intro he2 (And.intro hG hAL))))
          obtain ⟨zi, f1⟩ : ∃ zi, IntKind.i64.wrap (z6 + ti) = zi := ⟨_, rfl⟩
          obtain ⟨zj, f2, hzj⟩ : ∃ z, IntKind.i64.wrap (j + 1) = z ∧ Aside0 (z = ((e1 + 1 : Nat) : Int)) := ⟨_, wrp (by omega) (by have := HS.out; omega), ⟨by omega⟩⟩
          obtain ⟨z12, f3⟩ : ∃ z, IntKind.i64.wrap (x12 + 1) = z := ⟨_, rfl⟩
          obtain ⟨cb, hcb⟩ : ∃ cb, cont (l1.length + 1) = cb := ⟨_, rfl⟩
          have HCB := aa hcb
          have HFN := aa HI.out.fn
          clear hj he1 he2 hG hAL hcb
          have n78 := HF3.out.n78
          have n87 := Ne.symm HF3.out.n78
          have n28 := HF3.out.n28
          have n27 := HF3.out.n27
          obtain ⟨q_0, q_1, q_2, q_3, q_4, q_5, qf_0, qf_1, qf_2, qf_3, qf_4, qf_5⟩ := cz6 HF3.out.z2
          obtain ⟨r_0, r_1, r_2, r_3, r_4, r_5, rf_0, rf_1, rf_2, rf_3, rf_4, rf_5⟩ := cz6 HF3.out.z7
          obtain ⟨s_0, s_1, s_2, s_3, s_4, s_5, sf_0, sf_1, sf_2, sf_3, sf_4, sf_5⟩ := cz6 HF3.out.z8
          cases cb with
          | false =>
           go_wp2_with (first | (refine store_event ?hg ?hd (W1 := w9.setCell ⟨b8, 4, none⟩ (.int .i64 zi)) ?hr ?_; (case hd => rfl); (case hg => rfl); (case hr => exact Z11); intro w10 hw; have HF4 := aa (HF3.out.set8 HI.out 4 _ rfl hw); clear hw HF3 n78 n87 n28 n27 q_0 qf_0 q_1 qf_1 q_2 qf_2 q_3 qf_3 q_4 qf_4 q_5 qf_5 r_0 rf_0 r_1 rf_1 r_2 rf_2 r_3 rf_3 r_4 rf_4 r_5 rf_5 s_0 sf_0 s_1 sf_1 s_2 sf_2 s_3 sf_3 s_4 sf_4 s_5 sf_5; obtain ⟨r_0, r_1, r_2, r_3, r_4, r_5, rf_0, rf_1, rf_2, rf_3, rf_4, rf_5⟩ := cz6 HF4.out.z7; obtain ⟨s_0, s_1, s_2, s_3, s_4, s_5, sf_0, sf_1, sf_2, sf_3, sf_4, sf_5⟩ := cz6 HF4.out.z8) | ((with_reducible refine gate_dst (N := 154) rfl ?_); obtain ⟨fn, hf1, hf2, hf3⟩ := HFN.out; refine goesV_ (some 154) rfl rfl hf1 hf2 hf3 (#[GR.v ⟨3, S, ks, 0, zk, none, 0, 0⟩, GR.v ⟨g0, g1, g2, g3, zi, g5, g6, g7⟩] ++ caps) rfl rfl Z33 ?_; refine (HI.out.call ⟨3, S, ks, 0, zk, none, 0, 0⟩ ⟨g0, g1, g2, g3, zi, g5, g6, g7⟩ HF4.out.it (by have := HM.out.2.2.2.2.2.2; omega)).mono ?_; rintro e w11 ⟨he, hit, hkp⟩; rw [HCB.out] at he; subst he; refine ⟨_, rfl, ?_⟩; have HF5 := aa (HF4.out.called hit hkp); clear hit hkp HF4 hf1 hf2 hf3 r_0 rf_0 r_1 rf_1 r_2 rf_2 r_3 rf_3 r_4 rf_4 r_5 rf_5 s_0 sf_0 s_1 sf_1 s_2 sf_2 s_3 sf_3 s_4 sf_4 s_5 sf_5))
           refine bodyPost_ret (results_list (rs := []) rfl (by simp) .nil) rfl ?_
           exact ⟨rfl, l1 ++ [(⟨3, S, ks, 0, zk, none, 0, 0⟩, ⟨g0, g1, g2, g3, zi, g5, g6, g7⟩)], HM.out.2.2.2.2.2.stop (HJ.out.2.2.2.1 zi zk) HCB.out, HI.out.less HF5.out.it (fun _ h => .inl h), HF5.out.kp⟩
          | true =>
           go_wp2_with (first | (refine store_event ?hg ?hd (W1 := w9.setCell ⟨b8, 4, none⟩ (.int .i64 zi)) ?hr ?_; (case hd => rfl); (case hg => rfl); (case hr => exact Z11); intro w10 hw; have HF4 := aa (HF3.out.set8 HI.out 4 _ rfl hw); clear hw HF3 n78 n87 n28 n27 q_0 qf_0 q_1 qf_1 q_2 qf_2 q_3 qf_3 q_4 qf_4 q_5 qf_5 r_0 rf_0 r_1 rf_1 r_2 rf_2 r_3 rf_3 r_4 rf_4 r_5 rf_5 s_0 sf_0 s_1 sf_1 s_2 sf_2 s_3 sf_3 s_4 sf_4 s_5 sf_5; obtain ⟨r_0, r_1, r_2, r_3, r_4, r_5, rf_0, rf_1, rf_2, rf_3, rf_4, rf_5⟩ := cz6 HF4.out.z7; obtain ⟨s_0, s_1, s_2, s_3, s_4, s_5, sf_0, sf_1, sf_2, sf_3, sf_4, sf_5⟩ := cz6 HF4.out.z8) | ((with_reducible refine gate_dst (N := 154) rfl ?_); obtain ⟨fn, hf1, hf2, hf3⟩ := HFN.out; refine goesV_ (some 154) rfl rfl hf1 hf2 hf3 (#[GR.v ⟨3, S, ks, 0, zk, none, 0, 0⟩, GR.v ⟨g0, g1, g2, g3, zi, g5, g6, g7⟩] ++ caps) rfl rfl Z33 ?_; refine (HI.out.call ⟨3, S, ks, 0, zk, none, 0, 0⟩ ⟨g0, g1, g2, g3, zi, g5, g6, g7⟩ HF4.out.it (by have := HM.out.2.2.2.2.2.2; omega)).mono ?_; rintro e w11 ⟨he, hit, hkp⟩; rw [HCB.out] at he; subst he; refine ⟨_, rfl, ?_⟩; have HF5 := aa (HF4.out.called hit hkp); clear hit hkp HF4 hf1 hf2 hf3 r_0 rf_0 r_1 rf_1 r_2 rf_2 r_3 rf_3 r_4 rf_4 r_5 rf_5 s_0 sf_0 s_1 sf_1 s_2 sf_2 s_3 sf_3 s_4 sf_4 s_5 sf_5))
           go_roundg gK
           case measure => exact Nat.lt_succ_self gK
           case rel => exact ⟨_, _, e1 + 1, _, _, _, l1 ++ [(⟨3, S, ks, 0, zk, none, 0, 0⟩, ⟨g0, g1, g2, g3, zi, g5, g6, g7⟩)], l, _, _, _, _, _, _, _, _, rfl, rfl, ⟨hzj.out, by have := HM.out.2.1; have := HG.out.1; have := HX2.out; have := HJ.out.2.1; omega, by have := HJ.out.2.2.1; omega, HJ.out.2.2.2.2, trivial, HM.out.2.2.2.2.2.more (HJ.out.2.2.2.1 zi zk) HCB.out⟩, HF5⟩
   ·have c1 : decide (x6 < (R.size : Int)) = false := ae hlt
    have hrest := HM.out.2.2.2.1.over (by have := HM.out.1; omega)
    subst hrest
    go_wp2_with (fail)
    refine bodyPost_ret (results_list (rs := []) rfl (by simp) .nil) rfl ?_
    exact ⟨rfl, l1, HM.out.2.2.2.2.2.done, HI.out.less HF.out.it (fun _ h => .inl h), HF.out.kp⟩
end Go.Proofs.YtmpdhdnoohmndaaGreatDoor.Gj

import Derived.Test.YtkjnahgicfmicaaGreatDoorZip
import Derived.Test.YtkjnahgicfmicaaGreatDoorQm
import Derived.Test.YtkjnahgicfmicaaGreatDoorGj1
import Derived.Test.YtkjnahgicfmicaaGreatDoorQa
namespace Go.Proofs.YtkjnahgicfmicaaGreatDoor.Gj
set_option maxHeartbeats 40000000
set_option maxRecDepth 100000
open Go.RowKit Go.PW Go.PL Go.PM Sp Dec
attribute [local go_sem] run_store_float max2_int min2_int max_two min_two max_three min_three max_four min_four
set_option linter.unusedVariables false
set_option linter.unusedSimpArgs false
theorem exists_true (ty : Int) (a b : av) (f : Nat) (i : Int) (v : Value) (w : World) (h : (ty != 0) = true) :
 Calls Tryz.prog 47 #[.agg #[.int .i64 ty, .string a, .string b, .float .f64 f, .int .i64 i, v]] w fun e w' => e = .returned (.bool true) ∧ Below w.heap.size w w' := by
 go_enter Tryz.func47, Tryz.ntmps47
 go_wp2_with (fail)
 go_ret
 exact ⟨rfl, below_alloc (Below.refl _ _) _⟩
def PA (R : av) (i : Int) (Q : Bool → Int → GR → Prop) : Prop := ∀ w, Wok w → Calls Tryz.prog 50 #[.string R, .int .i64 i, .bool true] w fun e w' =>
 ∃ (ok : Bool) (j : Int) (g : GR), Q ok j g ∧ e = .returned (.tuple #[.int .i64 j, g.v, .bool ok]) ∧ Below w.heap.size w w'
def Skip (c : Int) : Prop := c ≤ 32 ∨ c = 44 ∨ c = 58
inductive ALay (R : av) : Nat → List (GR → Prop) → Prop
 | end_ (i : Nat) : R.size ≤ i → ALay R i []
 | last (i b : Nat) : i ≤ b → b ≤ R.size → (∀ q, i ≤ q → q < b → Skip (at_ R q)) → (b < R.size → ¬ Skip (at_ R b)) → PA R b (fun ok _ _ => ok = false) → ALay R i []
 | item (i b e : Nat) (G : GR → Prop) (l : List (GR → Prop)) : i ≤ b → b < e → e ≤ R.size → (∀ q, i ≤ q → q < b → Skip (at_ R q)) → ¬ Skip (at_ R b) → PA R b (fun ok j g => ok = true ∧ j = (e : Int) ∧ ∀ i, G { g with idx := i }) → ALay R (e + 1) l → ALay R i (G :: l)
inductive Told (cont : Nat → Bool) : Nat → List (GR × GR → Prop) → List (GR × GR) → Prop
 | done (n : Nat) : Told cont n [] []
 | stop (n : Nat) (P : GR × GR → Prop) (ps : List (GR × GR → Prop)) (x : GR × GR) : P x → cont (n + 1) = false → Told cont n (P :: ps) [x]
 | more (n : Nat) (P : GR × GR → Prop) (ps : List (GR × GR → Prop)) (x : GR × GR) (xs : List (GR × GR)) : P x → cont (n + 1) = true → Told cont (n + 1) ps xs → Told cont n (P :: ps) (x :: xs)
def OnVal (G : GR → Prop) : GR × GR → Prop := fun x => x.1.str = ⟨#[]⟩ ∧ G x.2
def FePost (cont : Nat → Bool) (It : (Nat → Prop) → List (GR × GR) → World → Prop) (A : Nat → Prop) (ps : List (GR × GR → Prop)) (w : World) (e : Ending) (w' : World) : Prop :=
 e = .returned (.tuple #[]) ∧ ∃ L, Told cont 0 ps L ∧ It A L w' ∧ Kp A w w'
theorem PA.mono {R : av} {i : Int} {Q Q' : Bool → Int → GR → Prop} (h : PA R i Q) (hq : ∀ ok j g, Q ok j g → Q' ok j g) : PA R i Q' := fun w hw => (h w hw).mono fun e w' ⟨ok, j, g, h1, h2, h3⟩ => ⟨ok, j, g, hq _ _ _ h1, h2, h3⟩
theorem PA.calls {R : av} {i : Int} {Q : Bool → Int → GR → Prop} (h : PA R i Q) {w : World} (hw : Wok w) : Calls Tryz.prog 50 #[.string R, .int .i64 i, .bool true] w fun e w' =>
 ∃ (ok : Bool) (j : Int) (g : GR), Q ok j g ∧ e = .returned (.tuple #[.int .i64 j, g.v, .bool ok]) ∧ Below w.heap.size w w' := h w hw
def Next (R : av) (b : Nat) (rest : List (GR → Prop)) (ok : Bool) (j : Int) (g : GR) : Prop :=
 (ok = false ∧ rest = []) ∨ (ok = true ∧ ∃ (G : GR → Prop) (l : List (GR → Prop)) (e : Nat), rest = G :: l ∧ j = (e : Int) ∧ b < e ∧ e ≤ R.size ∧ (∀ i, G { g with idx := i }) ∧ ALay R (e + 1) l)
theorem ALay.inv {R : av} {i : Nat} {rest : List (GR → Prop)} (h : ALay R i rest) (hi : i < R.size) :
 ∃ b, i ≤ b ∧ b ≤ R.size ∧ (∀ q, i ≤ q → q < b → Skip (at_ R q)) ∧ (b < R.size → ¬ Skip (at_ R b)) ∧ PA R b (Next R b rest) := by
 cases h with
 | end_ _ h => omega
 | last _ b h1 h2 h3 h4 h5 => exact ⟨b, h1, h2, h3, h4, h5.mono fun ok j g h => .inl ⟨h, rfl⟩⟩
 | item _ b e G l h1 h2 h3 h4 h5 h6 h7 => exact ⟨b, h1, by omega, h4, fun _ => h5, h6.mono fun ok j g ⟨a1, a2, a3⟩ => .inr ⟨a1, G, l, e, rfl, a2, h2, h3, a3, h7⟩⟩
theorem ALay.over {R : av} {i : Nat} {rest : List (GR → Prop)} (h : ALay R i rest) (hi : R.size ≤ i) : rest = [] := by
 cases h with
 | end_ _ h => rfl
 | last _ b h1 h2 h3 h4 h5 => rfl
 | item _ b e G l h1 h2 h3 h4 h5 h6 h7 => omega
def Left (cont : Nat → Bool) (ps : List (GR × GR → Prop)) (l1 : List (GR × GR)) (rest : List (GR × GR → Prop)) : Prop := (∀ L2, Told cont l1.length rest L2 → Told cont 0 ps (l1 ++ L2)) ∧ l1.length + rest.length ≤ 1000000
theorem Left.start (cont : Nat → Bool) (ps : List (GR × GR → Prop)) (h : ps.length ≤ 1000000) : Left cont ps [] ps := ⟨fun L2 h => h, by simpa using h⟩
theorem Left.done {cont : Nat → Bool} {ps : List (GR × GR → Prop)} {l1 : List (GR × GR)} (h : Left cont ps l1 []) : Told cont 0 ps l1 := by
 have := h.1 [] (.done _)
 rwa [List.append_nil] at this
theorem Left.stop {cont : Nat → Bool} {ps : List (GR × GR → Prop)} {l1 : List (GR × GR)} {P : GR × GR → Prop} {rest : List (GR × GR → Prop)} (h : Left cont ps l1 (P :: rest)) {x : GR × GR} (hx : P x) (hc : cont (l1.length + 1) = false) : Told cont 0 ps (l1 ++ [x]) := h.1 _ (.stop _ _ _ _ hx hc)
theorem Left.more {cont : Nat → Bool} {ps : List (GR × GR → Prop)} {l1 : List (GR × GR)} {P : GR × GR → Prop} {rest : List (GR × GR → Prop)} (h : Left cont ps l1 (P :: rest)) {x : GR × GR} (hx : P x) (hc : cont (l1.length + 1) = true) : Left cont ps (l1 ++ [x]) rest := by
 refine ⟨fun L2 h2 => ?_, ?_⟩
 ·rw [List.append_assoc]
  refine h.1 _ (.more _ _ _ _ _ hx hc ?_)
  rwa [List.length_append] at h2
 ·have := h.2
  rw [List.length_append]
  simp only [List.length_cons, List.length_nil] at *
  omega
theorem feach_arr {F : FuncId} {caps : Array Value} {cont : Nat → Bool} {It : (Nat → Prop) → List (GR × GR) → World → Prop} (hI : Iter F caps cont It) (R ts : av) (tn : Nat) (ti : Int) (A : Nat → Prop) (w W0 : World)
 (hIt : It A [] w) (hW : Wok W0) (hWB : Below W0.heap.size W0 w) (hWA : ∀ k, k < W0.heap.size → A k) (hs : R.size ≤ 1000000) (hr : 0 < R.size) (hh : at_ R 0 = 91) (ps : List (GR → Prop)) (hL : ALay R 1 ps) (hps : ps.length ≤ 1000000) :
 Calls Tryz.prog 22 #[.agg #[.int .i64 5, .string R, .string ts, .float .f64 tn, .int .i64 ti, .slice none 0 0], .func (.func F) #[] caps] w (FePost cont It A (ps.map OnVal) w) := by
 have HL := ab hL
 have HI := ab hI
 have HIt := ab hIt
 have HW := ab (And.intro hW (And.intro hWB hWA))
 have HS := ab hs
 have HP := ab hps
 have hx0 : ∀ h : 0 < R.size, ((R[0]'h).toNat : Int) = 91 := fun h => by rw [← hh]; exact bt_at R 0 h
 have e0 : (R = ByteArray.empty) = False := eq_false (fun h => by rw [h] at hr; exact absurd hr (by decide))
 have e1 : (0 < R.size) = True := ag hr
 clear hL hI hIt hW hWB hWA hs hr hh hps
 go_enter Tryz.func22, Tryz.ntmps22
 go_wp2_with (first | (refine ax 2 #[.int .i64 5, .string R, .string ts, .float .f64 tn, .int .i64 ti, .slice none 0 0] 55 ?_; intro b2 hg w1 hz hb; have HB := ab hb; have Z2 := ab hz; have G2 := ab (Nat.le_of_eq hg.symm); obtain ⟨p_0, p_1, p_2, p_3, p_4, p_5, pf_0, pf_1, pf_2, pf_3, pf_4, pf_5⟩ := cz6 hz; clear hb hz hg) | ((with_reducible refine gate_callee (f := 47) rfl ?_); refine goesL_ (some 16) rfl rfl Tryz.func47 (by kernel_rfl) rfl #[.agg #[.int .i64 5, .string R, .string ts, .float .f64 tn, .int .i64 ti, .slice none 0 0]] rfl Z28 ?_; (with_reducible refine (exists_true 5 R ts tn ti (.slice none 0 0) _ (by decide)).mono ?_); rintro e w2 ⟨rfl, hb⟩; refine ⟨_, rfl, ?_⟩; have HB1 := ab (below_step HB.out hb); have Z21 := ab (blk_below Z2.out hb); clear HB Z2 hb p_0 pf_0 p_1 pf_1 p_2 pf_2 p_3 pf_3 p_4 pf_4 p_5 pf_5; obtain ⟨q_0, q_1, q_2, q_3, q_4, q_5, qf_0, qf_1, qf_2, qf_3, qf_4, qf_5⟩ := cz6 Z21.out) | (refine ax 7 #[.int .i64 0, .string (⟨#[]⟩ : av), .string (⟨#[]⟩ : av), .float .f64 (0 : Nat), .int .i64 0, .slice none 0 0] 55 ?_; intro b7 hg w3 hz hb; have HB2 := ab (below_step HB1.out hb); have Z22 := ab (blk_below Z21.out hb); have Z7 := ab hz; have G7 := ab (show b2 < b7 by have := blk_lt Z21.out; omega); clear HB1 Z21 hb hz hg) | (refine ax 8 #[.int .i64 0, .string (⟨#[]⟩ : av), .string (⟨#[]⟩ : av), .float .f64 (0 : Nat), .int .i64 0, .slice none 0 0] 55 ?_; intro b8 hg w4 hz hb; have HF := ab (Fs.new HI.out HIt.out (below_step HB2.out hb) (blk_below Z22.out hb) (blk_below Z7.out hb) hz G2.out G7.out (by have := blk_lt Z7.out; omega)); clear HB2 Z22 hb hz hg Z7 G2 G7))
 (try simp only [Act.put, ap, aq, ar])
 go_loopg [5, 6] 0 (fun kq v5 v6 wd => v5 = .bool false ∧ v6 = .int .i64 0 ∧ Aside0 (wd = w4))
 case atStart => exact ⟨rfl, rfl, ⟨rfl⟩⟩
 case round =>
  obtain ⟨rfl, rfl, ⟨rfl⟩⟩ := hrel
  have n78 := HF.out.n78
  have n87 := Ne.symm HF.out.n78
  have n27 := HF.out.n27
  obtain ⟨r_0, r_1, r_2, r_3, r_4, r_5, rf_0, rf_1, rf_2, rf_3, rf_4, rf_5⟩ := cz6 HF.out.z7
  go_wp2_with (first | (refine store_event ?hg ?hd (W1 := wr.setCell ⟨b7, 0, none⟩ (.int .i64 2)) ?hr ?_; (case hd => rfl); (case hg => rfl); (case hr => exact Z11); intro w5 hw; have HF1 := ab (HF.out.set7 HI.out 0 _ rfl hw); clear hw HF; clear r_0 rf_0 r_1 rf_1 r_2 rf_2 r_3 rf_3 r_4 rf_4 r_5 rf_5; obtain ⟨s_0, s_1, s_2, s_3, s_4, s_5, sf_0, sf_1, sf_2, sf_3, sf_4, sf_5⟩ := cz6 HF1.out.z7) | (refine store_event ?hg ?hd (W1 := w5.setCell ⟨b7, 3, none⟩ (.float .f64 13830554455654793216)) ?hr ?_; (case hd => rfl); (case hg => rfl); (case hr => exact Z11); intro w6 hw; have HF2 := ab (HF1.out.set7 HI.out 3 _ rfl hw); clear hw HF1))
  clear HIt hx0
  clear s_0 sf_0 s_1 sf_1 s_2 sf_2 s_3 sf_3 s_4 sf_4 s_5 sf_5 n78 n87 n27
  (try simp only [Act.put, ap, aq, ar])
  go_loopg [6, 12] (R.size + 2) (fun kq v6 v12 wd => ∃ (x6 x12 : Int) (i n7 : Nat) (l1 : List (GR × GR)) (rest : List (GR → Prop)) (y0 : Int) (y1 y2 : av) (y3 : Nat) (y4 : Int) (y5 : Option Addr) (y6 y7 : Nat), v6 = .int .i64 x6 ∧ v12 = .int .i64 x12 ∧ Aside0 (x6 = i ∧ R.size + 2 ≤ kq + i ∧ i ≤ R.size + 1 ∧ ALay R i rest ∧ NN n7 ∧ Left cont (ps.map OnVal) l1 (rest.map OnVal)) ∧ Aside0 (Fs It A w b2 b7 b8 l1 #[.int .i64 5, .string R, .string ts, .float .f64 tn, .int .i64 ti, .slice none 0 0] #[.int .i64 2, .string (⟨#[]⟩ : av), .string (⟨#[]⟩ : av), .float .f64 n7, .int .i64 0, .slice none 0 0] #[.int .i64 y0, .string y1, .string y2, .float .f64 y3, .int .i64 y4, .slice y5 y6 y7] wd))
  case atStart => exact ⟨_, _, 1, 13830554455654793216, [], ps, _, _, _, _, _, _, _, _, rfl, rfl, ⟨rfl, by omega, by omega, HL.out, by unfold NN; decide, Left.start _ _ (by rw [List.length_map]; exact HP.out)⟩, HF2⟩
  case round =>
   clear HF2 HL
   obtain ⟨x6, x12, i, n7, l1, rest, y0, y1, y2, y3, y4, y5, y6, y7, rfl, rfl, HM, HF⟩ := hrel
   cases gk with
   | zero => exact absurd HM.out.2.1 Z61
   | succ gK =>
   by_cases hlt : x6 < (R.size : Int)
   ·have c1 : decide (x6 < (R.size : Int)) = true := ae hlt
    obtain ⟨b, g1, g2, g3, g4, g5⟩ := HM.out.2.2.2.1.inv (by have := HM.out.1; omega)
    obtain ⟨r, hr, hnn⟩ := add_nn (y := 4607182418800017408) HM.out.2.2.2.2.1 (by unfold Pos; decide)
    have hR1 := fun (w : World) => run_float_arith (P := Tryz.prog) w .add 37 .f64 n7 4607182418800017408 r hr
    have HG := ab (And.intro g1 (And.intro g2 (And.intro g3 g4)))
    have HN := ab hnn
    have HPA := ab g5
    clear g1 g2 g3 g4 g5 hlt hr hnn
    have n78 := HF.out.n78
    have n87 := Ne.symm HF.out.n78
    have n27 := HF.out.n27
    obtain ⟨r_0, r_1, r_2, r_3, r_4, r_5, rf_0, rf_1, rf_2, rf_3, rf_4, rf_5⟩ := cz6 HF.out.z7
    go_wp2_with (first | (refine store_event ?hg ?hd (W1 := wr.setCell ⟨b7, 3, none⟩ (.float .f64 r)) ?hr ?_; (case hd => rfl); (case hg => rfl); (case hr => exact Z11); intro w7 hw; have HF1 := ab (HF.out.set7 HI.out 3 _ rfl hw); clear hw HF))
    have HX2 := ab (Nat.le_refl i)
    (try simp only [Act.put, ap, aq, ar])
    go_loopg [6] R.size (fun kq v6 wd => ∃ (z6 : Int) (q : Nat), v6 = .int .i64 z6 ∧ Aside0 (z6 = q ∧ i ≤ q ∧ q ≤ b ∧ b ≤ kq + q) ∧ Aside0 (wd = w7))
    case atStart => exact ⟨_, i, rfl, ⟨by first | exact HM.out.1 | exact HX.out, Nat.le_refl _, HG.out.1, by have := HG.out.2.1; omega⟩, ⟨rfl⟩⟩
    case round =>
     obtain ⟨z6, q, rfl, HQ, ⟨rfl⟩⟩ := hrel
     obtain ⟨wo, rfl⟩ : ∃ wo : World, wo = wr := ⟨_, rfl⟩
     try clear r_0 rf_0 r_1 rf_1 r_2 rf_2 r_3 rf_3 r_4 rf_4 r_5 rf_5 hR1 n78 n87 n27 q_0 qf_0 q_1 qf_1 q_2 qf_2 q_3 qf_3 q_4 qf_4 q_5 qf_5
     by_cases hqb : q < b
     ·cases gk with
      | zero => exact absurd hqb Z60
      | succ gj =>
      have c2 : decide (z6 < (R.size : Int)) = true := ae (by have := HQ.out.1; have := HG.out.2.1; omega)
      obtain ⟨v, hv⟩ : ∃ v, at_ R q = v := ⟨_, rfl⟩
      have hx : ∀ h : z6.toNat < R.size, ((R[z6.toNat]'h).toNat : Int) = v := fun h => by rw [← hv]; exact at_get R z6 q HQ.out.1 h
      have h60 : (0 ≤ z6) = True := ag (by have := HQ.out.1; omega)
      have h61 : (z6 < (R.size : Int)) = True := ag (ac c2)
      obtain ⟨z, f0, hz⟩ : ∃ z, IntKind.i64.wrap (z6 + 1) = z ∧ Aside0 (z = ((q + 1 : Nat) : Int)) := ⟨_, wrp (by have := HQ.out.1; omega) (by have := HQ.out.1; have := HG.out.2.1; have := HS.out; omega), ⟨by have := HQ.out.1; omega⟩⟩
      have hsk := HG.out.2.2.1 q HQ.out.2.1 hqb
      rw [hv] at hsk
      have hways : decide (v ≤ 32) = true ∨ (decide (v ≤ 32) = false ∧ v = 44) ∨ (decide (v ≤ 32) = false ∧ v = 58) := by
       unfold Skip at hsk
       by_cases h1 : v ≤ 32
       ·exact .inl (ae h1)
       ·rcases hsk with h | h | h
        ·exact absurd h h1
        ·exact .inr (.inl ⟨af h1, h⟩)
        ·exact .inr (.inr ⟨af h1, h⟩)
      clear hsk hv
      rcases hways with h1 | ⟨h1, rfl⟩ | ⟨h1, rfl⟩
      all_goals
       go_wp2_with (fail)
       go_roundg gj
       case measure => exact Nat.lt_succ_self gj
       case rel => exact ⟨_, q + 1, rfl, ⟨by have := hz.out; have := f0; omega, by have := HQ.out.2.1; omega, by omega, Z60⟩, ⟨rfl⟩⟩
     ·obtain rfl : q = b := by have := HQ.out.2.2.1; omega
      have HZ := ab HQ.out.1
      have HPB := ab (show PA R z6 (Next R q rest) by rw [HQ.out.1]; exact HPA.out)
      clear HPA HQ hqb
      have stop : (decide (z6 < (R.size : Int)) = false) ∨ (decide (z6 < (R.size : Int)) = true ∧ (z6 < (R.size : Int)) = True ∧ ∃ v : Int, (∀ h : z6.toNat < R.size, ((R[z6.toNat]'h).toNat : Int) = v) ∧ decide (v ≤ 32) = false ∧ (v == 44) = false ∧ (v == 58) = false) := by
       by_cases h : q < R.size
       ·have h1 := HG.out.2.2.2 h
        unfold Skip at h1
        exact .inr ⟨ae (by have := HZ.out; omega), ag (by have := HZ.out; omega), at_ R q, at_get R z6 q HZ.out, af (by omega), ah (by omega), ah (by omega)⟩
       ·exact .inl (af (by have := HZ.out; omega))
      have h60 : (0 ≤ z6) = True := ag (by have := HZ.out; omega)
      obtain ⟨q_0, q_1, q_2, q_3, q_4, q_5, qf_0, qf_1, qf_2, qf_3, qf_4, qf_5⟩ := cz6 HF1.out.z2
      obtain ⟨r_0, r_1, r_2, r_3, r_4, r_5, rf_0, rf_1, rf_2, rf_3, rf_4, rf_5⟩ := cz6 HF1.out.z7
      obtain ⟨s_0, s_1, s_2, s_3, s_4, s_5, sf_0, sf_1, sf_2, sf_3, sf_4, sf_5⟩ := cz6 HF1.out.z8
      have HWK := ab (HF1.out.wok HW.out)
      rcases stop with c2 | ⟨c2, c3, v, hx, h1, h2, h3⟩
      all_goals
       go_wp2_with (fail)
       refine (PA.calls HPB.out HWK.out).mono ?_
       rintro e w8 ⟨ok, j, ⟨g0, g1, g2, g3, g4, g5, g6, g7⟩, hq, he, hb⟩
       obtain rfl : e = .returned (.tuple #[.int .i64 j, .agg #[.int .i64 g0, .string g1, .string g2, .float .f64 g3, .int .i64 g4, .slice g5 g6 g7], .bool ok]) := he
       have HN1 := ab hq
       have HF2 := ab (HF1.out.below HI.out hb)
       clear hq hb HWK q_0 qf_0 q_1 qf_1 q_2 qf_2 q_3 qf_3 q_4 qf_4 q_5 qf_5 r_0 rf_0 r_1 rf_1 r_2 rf_2 r_3 rf_3 r_4 rf_4 r_5 rf_5 s_0 sf_0 s_1 sf_1 s_2 sf_2 s_3 sf_3 s_4 sf_4 s_5 sf_5
       obtain ⟨s_0, s_1, s_2, s_3, s_4, s_5, sf_0, sf_1, sf_2, sf_3, sf_4, sf_5⟩ := cz6 HF2.out.z8
       go_upto_region 41 with ((refine store_event ?hg ?hd (W1 := (((((w8.setCell ⟨b8, 0, none⟩ (.int .i64 g0)).setCell ⟨b8, 1, none⟩ (.string g1)).setCell ⟨b8, 2, none⟩ (.string g2)).setCell ⟨b8, 3, none⟩ (.float .f64 g3)).setCell ⟨b8, 4, none⟩ (.int .i64 g4)).setCell ⟨b8, 5, none⟩ (.slice g5 g6 g7)) ?hr ?_; (case hd => rfl); (case hg => rfl); (case hr => exact Z11); intro w9 hw; have HF3 := ab (HF2.out.set55 HI.out _ _ _ _ _ _ hw); clear hw HF2 s_0 sf_0 s_1 sf_1 s_2 sf_2 s_3 sf_3 s_4 sf_4 s_5 sf_5))
       rcases HN1.out with ⟨rfl, rfl⟩ | ⟨rfl, G, l, e1, rfl, hj, he1, he2, hG, hAL⟩
       ·clear HN1
        go_wp2_with (fail)
        refine bodyPost_ret (results_list (rs := []) rfl (by simp) .nil) rfl ?_
        exact ⟨rfl, l1, HM.out.2.2.2.2.2.done, HI.out.less HF3.out.it (fun _ h => .inl h), HF3.out.kp⟩
       ·clear HN1
        have HJ := ab (And.intro hj (And.intro he1 (And.intro he2 (And.intro hG hAL))))
        obtain ⟨zi, f1⟩ : ∃ zi, IntKind.i64.wrap (z6 + ti) = zi := ⟨_, rfl⟩
        obtain ⟨zj, f2, hzj⟩ : ∃ z, IntKind.i64.wrap (j + 1) = z ∧ Aside0 (z = ((e1 + 1 : Nat) : Int)) := ⟨_, wrp (by omega) (by have := HS.out; omega), ⟨by omega⟩⟩
        obtain ⟨z12, f3⟩ : ∃ z, IntKind.i64.wrap (x12 + 1) = z := ⟨_, rfl⟩
        obtain ⟨cb, hcb⟩ : ∃ cb, cont (l1.length + 1) = cb := ⟨_, rfl⟩
        have HCB := ab hcb
        have HFN := ab HI.out.fn
        clear hj he1 he2 hG hAL hcb
        have n78 := HF3.out.n78
        have n87 := Ne.symm HF3.out.n78
        have n28 := HF3.out.n28
        have n27 := HF3.out.n27
        obtain ⟨q_0, q_1, q_2, q_3, q_4, q_5, qf_0, qf_1, qf_2, qf_3, qf_4, qf_5⟩ := cz6 HF3.out.z2
        obtain ⟨r_0, r_1, r_2, r_3, r_4, r_5, rf_0, rf_1, rf_2, rf_3, rf_4, rf_5⟩ := cz6 HF3.out.z7
        obtain ⟨s_0, s_1, s_2, s_3, s_4, s_5, sf_0, sf_1, sf_2, sf_3, sf_4, sf_5⟩ := cz6 HF3.out.z8
        cases cb with
        | false =>
         go_wp2_with (first | (refine store_event ?hg ?hd (W1 := w9.setCell ⟨b8, 4, none⟩ (.int .i64 zi)) ?hr ?_; (case hd => rfl); (case hg => rfl); (case hr => exact Z11); intro w10 hw; have HF4 := ab (HF3.out.set8 HI.out 4 _ rfl hw); clear hw HF3 n78 n87 n28 n27 q_0 qf_0 q_1 qf_1 q_2 qf_2 q_3 qf_3 q_4 qf_4 q_5 qf_5 r_0 rf_0 r_1 rf_1 r_2 rf_2 r_3 rf_3 r_4 rf_4 r_5 rf_5 s_0 sf_0 s_1 sf_1 s_2 sf_2 s_3 sf_3 s_4 sf_4 s_5 sf_5; obtain ⟨r_0, r_1, r_2, r_3, r_4, r_5, rf_0, rf_1, rf_2, rf_3, rf_4, rf_5⟩ := cz6 HF4.out.z7; obtain ⟨s_0, s_1, s_2, s_3, s_4, s_5, sf_0, sf_1, sf_2, sf_3, sf_4, sf_5⟩ := cz6 HF4.out.z8) | ((with_reducible refine gate_dst (N := 154) rfl ?_); obtain ⟨fn, hf1, hf2, hf3⟩ := HFN.out; refine goesV_ (some 154) rfl rfl hf1 hf2 hf3 (#[GR.v ⟨2, ⟨#[]⟩, ⟨#[]⟩, r, 0, none, 0, 0⟩, GR.v ⟨g0, g1, g2, g3, zi, g5, g6, g7⟩] ++ caps) rfl rfl Z28 ?_; refine (HI.out.call ⟨2, ⟨#[]⟩, ⟨#[]⟩, r, 0, none, 0, 0⟩ ⟨g0, g1, g2, g3, zi, g5, g6, g7⟩ HF4.out.it Z74).mono ?_; rintro e w11 ⟨he, hit, hkp⟩; rw [HCB.out] at he; subst he; refine ⟨_, rfl, ?_⟩; have HF5 := ab (HF4.out.called hit hkp); clear hit hkp HF4 hf1 hf2 hf3 r_0 rf_0 r_1 rf_1 r_2 rf_2 r_3 rf_3 r_4 rf_4 r_5 rf_5 s_0 sf_0 s_1 sf_1 s_2 sf_2 s_3 sf_3 s_4 sf_4 s_5 sf_5))
         refine bodyPost_ret (results_list (rs := []) rfl (by simp) .nil) rfl ?_
         exact ⟨rfl, l1 ++ [(⟨2, ⟨#[]⟩, ⟨#[]⟩, r, 0, none, 0, 0⟩, ⟨g0, g1, g2, g3, zi, g5, g6, g7⟩)], HM.out.2.2.2.2.2.stop (show OnVal G (⟨2, ⟨#[]⟩, ⟨#[]⟩, r, 0, none, 0, 0⟩, ⟨g0, g1, g2, g3, zi, g5, g6, g7⟩) from ⟨rfl, HJ.out.2.2.2.1 zi⟩) HCB.out, HI.out.less HF5.out.it (fun _ h => .inl h), HF5.out.kp⟩
        | true =>
         go_wp2_with (first | (refine store_event ?hg ?hd (W1 := w9.setCell ⟨b8, 4, none⟩ (.int .i64 zi)) ?hr ?_; (case hd => rfl); (case hg => rfl); (case hr => exact Z11); intro w10 hw; have HF4 := ab (HF3.out.set8 HI.out 4 _ rfl hw); clear hw HF3 n78 n87 n28 n27 q_0 qf_0 q_1 qf_1 q_2 qf_2 q_3 qf_3 q_4 qf_4 q_5 qf_5 r_0 rf_0 r_1 rf_1 r_2 rf_2 r_3 rf_3 r_4 rf_4 r_5 rf_5 s_0 sf_0 s_1 sf_1 s_2 sf_2 s_3 sf_3 s_4 sf_4 s_5 sf_5; obtain ⟨r_0, r_1, r_2, r_3, r_4, r_5, rf_0, rf_1, rf_2, rf_3, rf_4, rf_5⟩ := cz6 HF4.out.z7; obtain ⟨s_0, s_1, s_2, s_3, s_4, s_5, sf_0, sf_1, sf_2, sf_3, sf_4, sf_5⟩ := cz6 HF4.out.z8) | ((with_reducible refine gate_dst (N := 154) rfl ?_); obtain ⟨fn, hf1, hf2, hf3⟩ := HFN.out; refine goesV_ (some 154) rfl rfl hf1 hf2 hf3 (#[GR.v ⟨2, ⟨#[]⟩, ⟨#[]⟩, r, 0, none, 0, 0⟩, GR.v ⟨g0, g1, g2, g3, zi, g5, g6, g7⟩] ++ caps) rfl rfl Z28 ?_; refine (HI.out.call ⟨2, ⟨#[]⟩, ⟨#[]⟩, r, 0, none, 0, 0⟩ ⟨g0, g1, g2, g3, zi, g5, g6, g7⟩ HF4.out.it Z74).mono ?_; rintro e w11 ⟨he, hit, hkp⟩; rw [HCB.out] at he; subst he; refine ⟨_, rfl, ?_⟩; have HF5 := ab (HF4.out.called hit hkp); clear hit hkp HF4 hf1 hf2 hf3 r_0 rf_0 r_1 rf_1 r_2 rf_2 r_3 rf_3 r_4 rf_4 r_5 rf_5 s_0 sf_0 s_1 sf_1 s_2 sf_2 s_3 sf_3 s_4 sf_4 s_5 sf_5))
         go_roundg gK
         case measure => exact Nat.lt_succ_self gK
         case rel => exact ⟨_, _, e1 + 1, r, l1 ++ [(⟨2, ⟨#[]⟩, ⟨#[]⟩, r, 0, none, 0, 0⟩, ⟨g0, g1, g2, g3, zi, g5, g6, g7⟩)], l, _, _, _, _, _, _, _, _, rfl, rfl, ⟨hzj.out, Z72, by have := HJ.out.2.2.1; omega, HJ.out.2.2.2.2, HN.out, HM.out.2.2.2.2.2.more (show OnVal G (⟨2, ⟨#[]⟩, ⟨#[]⟩, r, 0, none, 0, 0⟩, ⟨g0, g1, g2, g3, zi, g5, g6, g7⟩) from ⟨rfl, HJ.out.2.2.2.1 zi⟩) HCB.out⟩, HF5⟩
   ·have c1 : decide (x6 < (R.size : Int)) = false := af hlt
    have hrest := HM.out.2.2.2.1.over (by have := HM.out.1; omega)
    subst hrest
    go_wp2_with (fail)
    refine bodyPost_ret (results_list (rs := []) rfl (by simp) .nil) rfl ?_
    exact ⟨rfl, l1, HM.out.2.2.2.2.2.done, HI.out.less HF.out.it (fun _ h => .inl h), HF.out.kp⟩
end Go.Proofs.YtkjnahgicfmicaaGreatDoor.Gj

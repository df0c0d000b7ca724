import Derived.Test.YtkjnahgicfmicaaGreatDoorZip
import Derived.Test.YtkjnahgicfmicaaGreatDoorQu
import Derived.Test.YtkjnahgicfmicaaGreatDoorQf
namespace Go.Proofs.YtkjnahgicfmicaaGreatDoor.Sp
open Go.RowKit Go.PW Go.PL Go.PM
attribute [local go_sem] run_store_float max2_int min2_int max_two min_two max_three min_three max_four min_four
set_option linter.unusedVariables false
set_option linter.unusedSimpArgs false
def lpT17 : Bool × List (List Nat × List Nat) := (true, [([], []), ([], []), ([0, 1], [0, 1]), ([2], [2]), ([3], [3]), ([], []), ([], []), ([5, 6], [5, 6]), ([7], [7]), ([4, 8], [4, 8]), ([9], [9])])
def lpB17 : List Nat := [0, 0, 3, 7, 15, 0, 0, 96, 224, 511, 1023]
theorem lptab17 : rtab .any (opsOf Tryz.f4 17) = lpT17 := by kernel_rfl
theorem lpbits17 : waitsOk lpT17.2 lpB17 = true := by kernel_rfl
def lpT19 : Bool × List (List Nat × List Nat) := (true, [([], []), ([0], [0]), ([1], [1]), ([2], [2]), ([3], [3]), ([3], [3]), ([4, 5, 3], [3, 4, 5]), ([6, 3], [3, 6]), ([7, 3], [3, 7]), ([3], [3]), ([9, 3], [3, 9]), ([3], [3]), ([10, 11, 3], [3, 10, 11]), ([12, 3], [3, 12]), ([13, 3], [3, 13]), ([8, 14, 3, 3], [3, 8, 14]), ([15, 3], [3, 15]), ([3, 16], [3, 16])])
def lpB19 : List Nat := [0, 1, 3, 7, 15, 15, 63, 127, 255, 15, 527, 15, 3599, 7695, 15887, 32767, 65535, 131071]
theorem lptab19 : rtab .any (opsOf Tryz.f4 19) = lpT19 := by kernel_rfl
theorem lpbits19 : waitsOk lpT19.2 lpB19 = true := by kernel_rfl
section
variable {P : Program} {md : Region.Mode} {ops : Array Oper} {Q : Exit → Act → World → Prop} {S : World → Prop} {ds : List Nat}
set_option maxRecDepth 100000 in
theorem tk15 (i : Nat) (N : Tmp) {oi : Oper} {v : Value} {fuel : Nat} {l : Array Bool} {a a' : Act} {w : World} (h : wpAnyLast P md ops Q S ds fuel (l.setIfInBounds i true) a' w) (hS : S w := by assumption) (hi : ops[i]? = some oi := by rfl) (hN : oi.dst = some N := by rfl)
 (hc : takeB md ops ds l (l.setIfInBounds i true) i = true := by first | exact take_ofW (Aside0.out (by assumption)) (Aside0.out (by assumption)) (by kernel_rfl) | kernel_rfl) (hQ : ∀ c a w, Q (.panic c) (a.put oi.dst v) w → Q (.panic c) a w := by exact fun _ _ _ h => h)
 (hy : YieldsIf P ops S oi v a := by exact Or.inl ⟨by rfl, by (rintro w' ⟨s0, s1, s2, s3, s4, s5, s6, s7, s8, s9, s10, s11, s12, s13, s14⟩; go_simp; with_reducible rfl)⟩) (ha : a.put (some N) v = a' := by (simp only [Act.put, ap, aq, ar, i64_w, i32_w]; rfl)) : wpAnyLast P md ops Q S ds (fuel + 1) l a w := take_ _ hi hN hc hQ hy hS ha h
end
def PairOK (Vp : cH) (kd : Int) (ks : List ByteArray) (l7 : List S25) (L : List S41) (z : Int) : Prop :=
 (∃ k, cD.f Vp k ((rd_T41 L z).f1.f0) ((rd_T41 L z).f1.f1) ((rd_T41 L z).f1.f2) ((rd_T41 L z).f1.f3) ((rd_T41 L z).f1.f4) ((rd_T25 l7 z).f0) ((rd_T25 l7 z).f1) ((rd_T25 l7 z).f2) ((rd_T25 l7 z).f3) = some true) ∧ (kd = 6 → z < (ks.length : Int) ∧ ∃ k, cD.f Vp k ((rd_T41 L z).f0.f0) ((rd_T41 L z).f0.f1) ((rd_T41 L z).f0.f2) ((rd_T41 L z).f0.f3) ((rd_T41 L z).f0.f4) 4 (rdOf ByteArray.empty ks z) ([] : List ByteArray) ([] : List S25) = some true)
def kids1 (kd : Int) (tx : ByteArray) (ks : List ByteArray) (nk : List S25) : List S25 := if kd = 5 ∨ kd = 6 then nk else [⟨kd, tx, ks, nk⟩]
def kidsOf (kd : Int) (tx : ByteArray) (ks : List ByteArray) (nk : List S25) (stop : Int) : List S25 := if 0 < stop ∧ stop < ((kids1 kd tx ks nk).length : Int) then (kids1 kd tx ks nk).take stop.toNat else kids1 kd tx ks nk
theorem C_one {w : World} {kd : Int} {tx : ByteArray} {ks : List ByteArray} {nk : List S25} {mN lZ : Option Addr} {c10 c11 : Nat} (l10 : ks.length ≤ c10) (hk : Kd.C Kd.string w mN ks.length ks) (l11 : nk.length ≤ c11) (hn : Kd.C k25 w lZ nk.length nk) :
  Kd.C k25 (w.alloc (.cells #[.int .i64 kd, .string tx, .slice mN ks.length c10, .slice lZ nk.length c11] 25 (0, 0))) (some ⟨w.heap.size, 0, none⟩) 1 [⟨kd, tx, ks, nk⟩] := by
 refine ⟨rfl, by decide, fun _ => ⟨_, rfl, fun j p hp => ?_⟩⟩
 cases j with
 | succ j => simp at hp
 | zero =>
  obtain rfl : (⟨kd, tx, ks, nk⟩ : S25) = p := by simpa using hp
  refine ⟨_, rfl, k25_mk _ ⟨kd, tx, ks, nk⟩ l10 (Kd.C_alloc hk _) l11 (Kd.C_alloc hn _), fun i u hi => ?_⟩
  have hb : (w.alloc (.cells #[.int .i64 kd, .string tx, .slice mN ks.length c10, .slice lZ nk.length c11] 25 (0, 0))).heap[w.heap.size]? = some (.cells #[.int .i64 kd, .string tx, .slice mN ks.length c10, .slice lZ nk.length c11] 25 (0, 0)) := blk_new _ _
  have h0 := blk_cell hb i
  rw [show (⟨w.heap.size, 0, none⟩ : Addr).add (0 * k25.sz + i) = ⟨w.heap.size, i, none⟩ from by
   rw [Nat.zero_mul]
   simp only [Addr.add, Nat.zero_add]
   split
   · rename_i h; subst h; rfl
   · rfl]
  rw [h0]
  exact List.getElem?_toArray.trans hi
theorem R_cs4 {α : Type} {d : Kd α} {e base g : Nat} {ok : Nat → Prop} {w : World} {v : Value} {xs : List α} (h : d.R e w base (fun k => ok k ∧ k ≠ g) v xs) (u0 u1 u2 u3 : Value) : d.R e ((((w.setCell ⟨g, 0, none⟩ u0).setCell ⟨g, 1, none⟩ u1).setCell ⟨g, 2, none⟩ u2).setCell ⟨g, 3, none⟩ u3) base (fun k => ok k ∧ k ≠ g) v xs :=
 Kd.R_far (Kd.R_far (Kd.R_far (Kd.R_far h (fun _ hk => hk.2) _) (fun _ hk => hk.2) _) (fun _ hk => hk.2) _) (fun _ hk => hk.2) _
theorem C_take {α : Type} {d : Kd α} {w : World} {A : Option Addr} {n m : Nat} {l : List α} (h : d.C w A n l) (hm : m ≤ n) : d.C w A (l.take m).length (l.take m) := by
 have h1 := h.1
 have e : (l.take m).length = m := by rw [List.length_take]; omega
 rw [e]
 refine ⟨e, Nat.le_trans hm h.2.1, fun h0 => ?_⟩
 obtain ⟨ad, ha, hr⟩ := h.2.2 (by omega)
 refine ⟨ad, ha, fun j p hp => hr j p ?_⟩
 rw [List.getElem?_take] at hp
 split at hp
 · exact hp
 · cases hp
set_option maxHeartbeats 40000000
set_option maxRecDepth 100000
theorem pairs_big (a0 : ByteArray) (a1 : Int) (w : World) (hz : 2147483647 < (a0.size : Int)) : Calls Tryz.prog 4 #[.string a0, .int .i64 a1] w fun e w' => e = .returned (.bool true) ∧ Below w.heap.size w w' := by
 have HB := ab (Below.refl w.heap.size w)
 have dY : decide (2147483647 < (a0.size : Int)) = true := ae hz
 have kR : decide (2147483647 < a0.size) = true := ae (by omega)
 go_enter Tryz.func4, Tryz.ntmps4
 go_wp2
 go_ret
 exact ⟨Z8, zB⟩
theorem pairs_off (Vp : cH) (k : Nat) (a0 : ByteArray) (a1 : Int) (w : World) (y0 : Int) (y1 : ByteArray) (y2 : List ByteArray) (y3 : List S25) (hz : (a0.size : Int) ≤ 2147483647) (hT : cU.f Vp k a0 = some (y0, y1, y2, y3, false)) : Calls Tryz.prog 4 #[.string a0, .int .i64 a1] w fun e w' => e = .returned (.bool true) ∧ Below w.heap.size w w' := by
 have hu25 := Tryz.underlying25
 have HB := ab (Below.refl w.heap.size w)
 have dY : decide (2147483647 < (a0.size : Int)) = false := af (by omega)
 have kR : decide (2147483647 < a0.size) = false := af (by omega)
 have A4 := ab hT
 clear hz hT
 go_enter Tryz.func4, Tryz.ntmps4
 go_wp2_with (first | (refine gl 6 (some 15) Tryz.func6 #[.string a0] ?_; (with_reducible refine (cU.calls Vp k a0 y0 y1 y2 y3 false _ A4.out).mono ?_); rintro e w42 ⟨v483, v486, rfl, ho0, ho1, hb⟩; refine ⟨_, rfl, ?_⟩; have jZ := ab (Kd.R_lower ho0 (below_size zB)); have kS := ab (Kd.R_lower ho1 (below_size zB)); replace HB := ab (below_step (w := w) zB hb); clear hb ho0 ho1) | (refine aw 5 #[.int .i64 0, .string (⟨#[]⟩ : ByteArray), .slice none 0 0, .slice none 0 0] 25 ?_; intro iM hg w43 hbox hb; replace jZ := ab (Kd.R_below (by (with_reducible repeat (first | apply Kd.R_alloc | apply Kd.R_drewN | apply Kd.R_drew)); exact jZ.out) hb); replace kS := ab (Kd.R_below (Kd.R_elderB (by (with_reducible repeat (first | apply Kd.R_alloc | apply Kd.R_drewN | apply Kd.R_drew)); exact kS.out) iM (Nat.le_of_eq hg.symm)) hb); have mY := ab (hbox); have Ib : Aside0 (w.heap.size ≤ iM) := ⟨Z16⟩; have Ic : Aside0 (w.heap.size ≤ iM) := ⟨Z16⟩; replace HB := ab (below_step (w := w) zB hb); clear hb hbox hg; obtain ⟨Qm, Qn, Qo, Qp, Qq, Qr, Qs, Qt⟩ := cz4 mY.out; obtain ⟨apM, co45, eo45⟩ := Kd.R_slice jZ.out; subst eo45; obtain ⟨Ft, co46, eo46⟩ := Kd.R_slice kS.out; subst eo46))
 go_ret
 exact ⟨Z8, zB⟩
theorem pairs_calls (Vp : cH) (k : Nat) (a0 : ByteArray) (a1 : Int) (w : World) (kd : Int) (tx : ByteArray) (ks : List ByteArray) (nk : List S25) (ty : Int) (raw str : ByteArray) (PL : List S41 → Prop) (hW : Wok w) (hz : (a0.size : Int) ≤ 2147483647) (hT : cU.f Vp k a0 = some (kd, tx, ks, nk, true))
  (hP : ∀ w, Wok w → Calls Tryz.prog 11 #[.string a0] w fun e w' => ∃ f : Nat, e = .returned (.agg #[.int .i64 ty, .string raw, .string str, .float .f64 f, .bool true]) ∧ Below w.heap.size w w')
  (hE : ∀ (f : Nat) w, Wok w → Calls Tryz.prog 10 #[.agg #[.int .i64 ty, .string raw, .string str, .float .f64 f, .bool true], .int .i64 a1] w fun e w' => ∃ (v : Value) (L : List S41), PL L ∧ e = .returned v ∧ Kd.R k41 41 w' w.heap.size (fun _ => True) v L ∧ Below w.heap.size w w')
  (hL : ∀ L, PL L → L.length = (kidsOf kd tx ks nk a1).length ∧ ∀ q : Nat, q < L.length → PairOK Vp kd ks (kidsOf kd tx ks nk a1) L (q : Int)) :
  Calls Tryz.prog 4 #[.string a0, .int .i64 a1] w fun e w' => e = .returned (.bool true) ∧ Below w.heap.size w w' := by
 have hu25 := Tryz.underlying25
 have hu39 := Tryz.underlying39
 have HB := ab (Below.refl w.heap.size w)
 have dY : decide (2147483647 < (a0.size : Int)) = false := af (by omega)
 have kR : decide (2147483647 < a0.size) = false := af (by omega)
 have A4 := ab hT
 have HW := ab hW
 have HP := ab hP
 have HE := ab hE
 have HL := ab hL
 clear hz hT hW hP hE hL
 go_enter Tryz.func4, Tryz.ntmps4
 go_upto_region 7 with (first | (refine gl 6 (some 15) Tryz.func6 #[.string a0] ?_; (with_reducible refine (cU.calls Vp k a0 kd tx ks nk true _ A4.out).mono ?_); rintro e w7 ⟨v483, v486, rfl, ho0, ho1, hb⟩; refine ⟨_, rfl, ?_⟩; have jZ := ab (Kd.R_lower ho0 (below_size zB)); have kS := ab (Kd.R_lower ho1 (below_size zB)); replace HB := ab (below_step (w := w) zB hb); clear hb ho0 ho1) | (refine aw 5 #[.int .i64 0, .string (⟨#[]⟩ : ByteArray), .slice none 0 0, .slice none 0 0] 25 ?_; intro gb hg w8 hbox hb; replace jZ := ab (Kd.R_below (Kd.R_elderB jZ.out gb (Nat.le_of_eq hg.symm)) hb); replace kS := ab (Kd.R_below (Kd.R_elderB kS.out gb (Nat.le_of_eq hg.symm)) hb); have BK := ab hbox; have GW : Aside0 (w.heap.size ≤ gb) := ⟨Z16⟩; have HG := ab hg; replace HB := ab (below_step (w := w) zB hb); clear hb hbox hg; obtain ⟨lI, lJ, wO, wP, lK, lL, wQ, wR⟩ := cz4 BK.out; obtain ⟨mN, c10, eo10⟩ := Kd.R_slice jZ.out; subst eo10; obtain ⟨lZ, c11, eo11⟩ := Kd.R_slice kS.out; subst eo11))
 have vH := ab (Kd.R_reads' (R_cs4 kS.out (.int .i64 kd) (.string tx) (.slice mN ks.length c10) (.slice lZ nk.length c11))).2
 have H10 := ab (Kd.R_reads' jZ.out).2.1
 have HO_K := ab (Kd.R_reads' (R_cs4 jZ.out (.int .i64 kd) (.string tx) (.slice mN ks.length c10) (.slice lZ nk.length c11))).2.2
 replace HB := ab (below_set (v := .slice lZ nk.length c11) (j := 3) (below_set (v := .slice mN ks.length c10) (j := 2) (below_set (v := .string tx) (j := 1) (below_set (v := .int .i64 kd) (j := 0) HB.out GW.out) GW.out) GW.out) GW.out)
 replace BK := ab (blk_put (cs' := #[.int .i64 kd, .string tx, .slice mN ks.length c10, .slice lZ nk.length c11]) (blk_put (blk_put (blk_put BK.out 0 (.int .i64 kd) rfl) 1 (.string tx) rfl) 2 (.slice mN ks.length c10) rfl) 3 (.slice lZ nk.length c11) rfl)
 clear jZ kS lI lJ wO wP lK lL wQ wR dY kR
 generalize ((((w8.setCell ⟨gb, 0, none⟩ (.int .i64 kd)).setCell ⟨gb, 1, none⟩ (.string tx)).setCell ⟨gb, 2, none⟩ (.slice mN ks.length c10)).setCell ⟨gb, 3, none⟩ (.slice lZ nk.length c11)) = w9 at vH HO_K HB BK ⊢
 obtain ⟨hcz_0, hcz_1, hcz_2, hcz_3, hfz_0, hfz_1, hfz_2, hfz_3⟩ := cz4 BK.out
 obtain ⟨b29, hb29⟩ : ∃ b : Bool, b = (kd != 5 && kd != 6) := ⟨_, rfl⟩
 have H29 := ab hb29
 clear hb29
 (try simp only [Act.put, ap, aq, ar])
 go_cut [29] (fun v29 wc => v29 = .bool b29 ∧ Aside0 (wc = w9))
 case first =>
  by_cases h5 : kd = 5
  · have e1 : (kd == 5) = true := ai h5
    have e2 : (kd != 5) = false := ak h5
    go_wp2
    go_meet
    case rel => exact ⟨by rw [H29.out, e2]; rfl, ⟨rfl⟩⟩
  · have e1 : (kd == 5) = false := ah h5
    have e2 : (kd != 5) = true := aj h5
    go_wp2
    go_meet
    case rel => exact ⟨by rw [H29.out, e2]; rfl, ⟨rfl⟩⟩
 case rest =>
 obtain ⟨rfl, ⟨rfl⟩⟩ := hcut
 go_upto_if 29 with (fail)
 go_cut [7] (fun v7 wc => ∃ (A7 : Option Addr) (l7 : List S25) (c7 : Nat), v7 = .slice A7 l7.length c7 ∧ Aside0 (l7.length ≤ c7) ∧ Aside0 (l7 = kids1 kd tx ks nk) ∧ Aside0 (Kd.C k25 wc A7 l7.length l7) ∧ Aside0 (Kd.C Kd.string wc mN ks.length ks) ∧ Aside0 (wc.heap[gb]? = some (.cells #[.int .i64 kd, .string tx, .slice mN ks.length c10, .slice lZ nk.length c11] 25 (0, 0))) ∧ Aside0 (Below w.heap.size w wc))
 case first =>
  cases b29 with
  | false =>
    go_wp2
    go_meet
    case rel => exact ⟨_, nk, _, rfl, ⟨vH.out.1⟩, ⟨by have := H29.out; unfold kids1; rw [if_pos (by simp at this; omega)]⟩, ⟨vH.out.2⟩, HO_K, BK, HB⟩
  | true =>
    go_wp2
    go_meet
    case rel => exact ⟨_, [⟨kd, tx, ks, nk⟩], _, rfl, ⟨Nat.le_refl _⟩, ⟨by have := H29.out; unfold kids1; rw [if_neg (by simp at this; omega)]⟩, ⟨C_one H10.out HO_K.out vH.out.1 vH.out.2⟩, ⟨Kd.C_alloc HO_K.out _⟩, ⟨blk_alloc BK.out _⟩, ⟨below_alloc HB.out _⟩⟩
 case rest =>
 clear H29 vH HO_K BK HB hcz_0 hcz_1 hcz_2 hcz_3 hfz_0 hfz_1 hfz_2 hfz_3
 obtain ⟨A7, l7, c7, rfl, H7c, H7, gV, HO_K, BK, HB⟩ := hcut
 obtain ⟨b39, hb39⟩ : ∃ b : Bool, b = (decide (0 < a1) && decide (a1 < (l7.length : Int))) := ⟨_, rfl⟩
 have H39 := ab hb39
 clear hb39
 go_upto_region 9 with (fail)
 (try simp only [Act.put, ap, aq, ar])
 go_cut [39] (fun v39 wd => v39 = .bool b39 ∧ Aside0 (wd = wc))
 case first =>
  by_cases h5 : 0 < a1
  · have e1 : decide (0 < a1) = true := ae h5
    go_wp2
    go_meet
    case rel => exact ⟨by rw [H39.out, e1]; rfl, ⟨rfl⟩⟩
  · have e1 : decide (0 < a1) = false := af h5
    go_wp2
    go_meet
    case rel => exact ⟨by rw [H39.out, e1]; rfl, ⟨rfl⟩⟩
 case rest =>
 obtain ⟨rfl, ⟨rfl⟩⟩ := hcut
 go_upto_if 39 with (fail)
 go_cut [7] (fun v7 wc => ∃ (A7 : Option Addr) (l7 : List S25) (c7 : Nat), v7 = .slice A7 l7.length c7 ∧ Aside0 (l7 = kidsOf kd tx ks nk a1) ∧ Aside0 (Kd.C k25 wc A7 l7.length l7) ∧ Aside0 (Kd.C Kd.string wc mN ks.length ks) ∧ Aside0 (wc.heap[gb]? = some (.cells #[.int .i64 kd, .string tx, .slice mN ks.length c10, .slice lZ nk.length c11] 25 (0, 0))) ∧ Aside0 (Below w.heap.size w wc))
 case first =>
  cases b39 with
  | false =>
    go_wp2
    go_meet
    case rel => exact ⟨_, l7, _, rfl, ⟨by have := H39.out; unfold kidsOf; rw [if_neg (by rw [← H7.out]; simp at this; omega)]; exact H7.out⟩, gV, HO_K, BK, HB⟩
  | true =>
    have hs : 0 < a1 ∧ a1 < (l7.length : Int) := by simpa using H39.out.symm
    have h1 : (0 ≤ a1) = True := ag (by omega)
    have h2 : (a1 ≤ (c7 : Int)) = True := ag (by have := H7c.out; omega)
    have h3 : (l7.take a1.toNat).length = a1.toNat := by rw [List.length_take]; omega
    have HS := ab hs
    clear hs
    go_wp2
    go_meet
    case rel => exact ⟨_, l7.take a1.toNat, _, (by rw [h3]), ⟨by unfold kidsOf; rw [← H7.out, if_pos HS.out]⟩, ⟨C_take gV.out (by have := HS.out; omega)⟩, HO_K, BK, HB⟩
 case rest =>
 clear H39 H7c H7 gV HO_K BK HB
 obtain ⟨A7, l7, c7, rfl, H7, gV, HO_K, BK, HB⟩ := hcut
 rw [← H7.out] at HL
 clear H7
 go_wp2_with (fail)
 refine (HP.out _ (HW.out.below HB.out)).mono ?_
 rintro e w22 ⟨fl, rfl, hb⟩
 replace gV := ab (Kd.C_below gV.out hb)
 replace HO_K := ab (Kd.C_below HO_K.out hb)
 replace BK := ab (blk_below BK.out hb)
 replace HB := ab (below_step HB.out hb)
 clear hb
 go_wp2_with (fail)
 refine (HE.out fl _ (HW.out.below HB.out)).mono ?_
 rintro e w23 ⟨v, L, hPL, rfl, ho0, hb⟩
 replace gV := ab (Kd.C_below gV.out hb)
 replace HO_K := ab (Kd.C_below HO_K.out hb)
 replace BK := ab (blk_below BK.out hb)
 replace HB := ab (below_step HB.out hb)
 clear hb
 obtain ⟨A8, c8, e8⟩ := Kd.R_slice ho0
 subst e8
 have iV := ab (Kd.R_reads' ho0).2.2
 clear ho0
 obtain ⟨hLl, hLq⟩ := HL.out L hPL
 have HLQ := ab hLq
 clear hPL hLq HL
 have c1 : ((L.length : Int) == (l7.length : Int)) = true := ai (by omega)
 have c2 : ((L.length : Int) != (l7.length : Int)) = false := ak (by omega)
 have c3 : (L.length == l7.length) = true := ai hLl
 have c4 : (L.length != l7.length) = false := ak hLl
 have HLL := ab hLl
 clear hLl
 go_wp2_with (fail)
 (try simp only [Act.put, ap, aq, ar])
 go_loopg [54] L.length (fun kq v54 w' => ∃ (z : Int) (q : Nat), v54 = .int .i64 z ∧ Aside0 (z = q ∧ q ≤ L.length ∧ L.length ≤ kq + q) ∧ Aside0 (Kd.C k25 w' A7 l7.length l7) ∧ Aside0 (Kd.C k41 w' A8 L.length L) ∧ Aside0 (Kd.C Kd.string w' mN ks.length ks) ∧ Aside0 (w'.heap[gb]? = some (.cells #[.int .i64 kd, .string tx, .slice mN ks.length c10, .slice lZ nk.length c11] 25 (0, 0))) ∧ Aside0 (Below w.heap.size w w'))
 case atStart => exact ⟨_, 0, rfl, ⟨rfl, Nat.zero_le _, Nat.le_refl _⟩, gV, iV, HO_K, BK, HB⟩
 case round =>
  clear gV iV HO_K BK HB c1 c2 c3 c4
  obtain ⟨z, q, rfl, HQ, gV, iV, HO_K, BK, HB⟩ := hrel
  by_cases hqe : q < L.length
  · cases gk with
    | zero => exact absurd hqe (by have := HQ.out.2.2; omega)
    | succ gj =>
     have q1 : z < (L.length : Int) := by have := HQ.out.1; omega
     have p1 : 0 ≤ z := by have := HQ.out.1; omega
     have q2 : z < (l7.length : Int) := by have := HLL.out; omega
     have d1 : decide (z < (L.length : Int)) = true := ae q1
     have d2 : decide (0 ≤ z) = true := ae p1
     have d3 : decide (z < (l7.length : Int)) = true := ae q2
     have hpo := HLQ.out q hqe
     rw [← HQ.out.1] at hpo
     obtain ⟨⟨kk, Ht⟩, hn⟩ := hpo
     have Ht := ab Ht
     have HN := ab hn
     obtain ⟨y, f0, hy⟩ : ∃ y, wrap64 (z + 1) = y ∧ Aside0 (y = ((q + 1 : Nat) : Int)) := ⟨z + 1, by unfold wrap64; have := HQ.out.1; have := iV.out.2.1; omega, ⟨by have := HQ.out.1; omega⟩⟩
     have hqe := ab hqe
     clear hn
     try go_wp2
     replace gV := ab (Kd.C_drew gV.out)
     replace iV := ab (Kd.C_drew iV.out)
     replace HO_K := ab (Kd.C_drew HO_K.out)
     replace BK := ab (blk_drew BK.out)
     replace HB := ab (below_drew1 HB.out)
     obtain ⟨ad1, e1, hx1_0, hx1_1, hx1_2, hx1_3, hx1_4, hx1_5, hx1_6, hx1_7, hx1_8, hx1_9⟩ := at_T41 iV.out z p1 q1
     subst e1
     obtain ⟨ad2, A2, c2, A3, c3, e2, hx2_0, hx2_1, hx2_2, hx2_3, hl2, hi2, hl3, hi3⟩ := at_T25 gV.out z p1 q2
     subst e2
     have HR2 := ab hi2
     have rC := ab hl2
     have HR3 := ab hi3
     have mW := ab hl3
     clear hi2 hl2 hi3 hl3
     replace p1 := ag p1
     replace q1 := ag q1
     replace q2 := ag q2
     refine st1 11 [] (S := fun w' => w'.cell? (ad1.add (z.toNat * 10)) = some (.int .i64 ((rd_T41 L z).f0.f0)) ∧ w'.cell? ⟨(ad1.add (z.toNat * 10)).block, (ad1.add (z.toNat * 10)).off + 1, none⟩ = some (.string ((rd_T41 L z).f0.f1)) ∧ w'.cell? ⟨(ad1.add (z.toNat * 10)).block, (ad1.add (z.toNat * 10)).off + 2, none⟩ = some (.string ((rd_T41 L z).f0.f2)) ∧ w'.cell? ⟨(ad1.add (z.toNat * 10)).block, (ad1.add (z.toNat * 10)).off + 3, none⟩ = some (.float .f64 ((rd_T41 L z).f0.f3)) ∧ w'.cell? ⟨(ad1.add (z.toNat * 10)).block, (ad1.add (z.toNat * 10)).off + 4, none⟩ = some (.bool ((rd_T41 L z).f0.f4)) ∧ w'.cell? ⟨(ad1.add (z.toNat * 10)).block, (ad1.add (z.toNat * 10)).off + 5, none⟩ = some (.int .i64 ((rd_T41 L z).f1.f0)) ∧ w'.cell? ⟨(ad1.add (z.toNat * 10)).block, (ad1.add (z.toNat * 10)).off + 6, none⟩ = some (.string ((rd_T41 L z).f1.f1)) ∧ w'.cell? ⟨(ad1.add (z.toNat * 10)).block, (ad1.add (z.toNat * 10)).off + 7, none⟩ = some (.string ((rd_T41 L z).f1.f2)) ∧ w'.cell? ⟨(ad1.add (z.toNat * 10)).block, (ad1.add (z.toNat * 10)).off + 8, none⟩ = some (.float .f64 ((rd_T41 L z).f1.f3)) ∧ w'.cell? ⟨(ad1.add (z.toNat * 10)).block, (ad1.add (z.toNat * 10)).off + 9, none⟩ = some (.bool ((rd_T41 L z).f1.f4)) ∧ w'.cell? (ad2.add (z.toNat * 4)) = some (.int .i64 ((rd_T25 l7 z).f0)) ∧ w'.cell? ⟨(ad2.add (z.toNat * 4)).block, (ad2.add (z.toNat * 4)).off + 1, none⟩ = some (.string ((rd_T25 l7 z).f1)) ∧ w'.cell? ⟨(ad2.add (z.toNat * 4)).block, (ad2.add (z.toNat * 4)).off + 2, none⟩ = some (.slice A2 ((rd_T25 l7 z).f2).length c2) ∧ w'.cell? ⟨(ad2.add (z.toNat * 4)).block, (ad2.add (z.toNat * 4)).off + 3, none⟩ = some (.slice A3 ((rd_T25 l7 z).f3).length c3)) (hS := ⟨hx1_0, hx1_1, hx1_2, hx1_3, hx1_4, hx1_5, hx1_6, hx1_7, hx1_8, hx1_9, hx2_0, hx2_1, hx2_2, hx2_3⟩) (fun hHeld => ?_); refine with_tabW lptab17 lpbits17 (fun HT_ HW_ => ?_)
     generalize wr.drew = w35 at gV iV HO_K BK HB HR2 HR3 hx1_0 hx1_1 hx1_2 hx1_3 hx1_4 hx1_5 hx1_6 hx1_7 hx1_8 hx1_9 hx2_0 hx2_1 hx2_2 hx2_3 hHeld ⊢
     refine pz 0 57 ?_
     refine pz 1 58 ?_
     refine pz 2 59 ?_
     refine pz 3 60 ?_
     refine pz 5 62 ?_
     refine pz 6 63 ?_
     refine pz 7 64 ?_
     refine tk14 4 61 ?_
     refine tk14 8 65 ?_
     refine on1 9 (some 66) fun K hK => ?_
     refine goes_ Tryz.func12 (by kernel_rfl) rfl #[.agg #[.int .i64 ((rd_T41 L z).f1.f0), .string ((rd_T41 L z).f1.f1), .string ((rd_T41 L z).f1.f2), .float .f64 ((rd_T41 L z).f1.f3), .bool ((rd_T41 L z).f1.f4)], .agg #[.int .i64 ((rd_T25 l7 z).f0), .string ((rd_T25 l7 z).f1), .slice A2 ((rd_T25 l7 z).f2).length c2, .slice A3 ((rd_T25 l7 z).f3).length c3]] (by rfl) rfl rfl Z15 ?_
     with_reducible refine (cD.calls Vp _ ((rd_T41 L z).f1.f0) ((rd_T41 L z).f1.f1) ((rd_T41 L z).f1.f2) ((rd_T41 L z).f1.f3) ((rd_T41 L z).f1.f4) ((rd_T25 l7 z).f0) ((rd_T25 l7 z).f1) _ _ ((rd_T25 l7 z).f2) _ _ ((rd_T25 l7 z).f3) true _ ?side1 ?side2 ?side3 ?side4 Ht.out).mono ?_
     (case side1 => exact HR2.out)
     (case side2 => exact rC.out)
     (case side3 => exact HR3.out)
     (case side4 => exact mW.out)
     rintro e w36 ⟨rfl, hb⟩
     have aeT := av hb hHeld.1
     have aeU := av hb hHeld.2.1
     have aeV := av hb hHeld.2.2.1
     have aeW := av hb hHeld.2.2.2.1
     have Fu := av hb hHeld.2.2.2.2.1
     have Fv := av hb hHeld.2.2.2.2.2.1
     have Fw := av hb hHeld.2.2.2.2.2.2.1
     have Fx := av hb hHeld.2.2.2.2.2.2.2.1
     have Fy := av hb hHeld.2.2.2.2.2.2.2.2.1
     have Fz := av hb hHeld.2.2.2.2.2.2.2.2.2.1
     have wS := av hb hHeld.2.2.2.2.2.2.2.2.2.2.1
     have wT := av hb hHeld.2.2.2.2.2.2.2.2.2.2.2.1
     have wU := av hb hHeld.2.2.2.2.2.2.2.2.2.2.2.2.1
     have wV := av hb hHeld.2.2.2.2.2.2.2.2.2.2.2.2.2
     refine ⟨_, rfl, ?_⟩
     replace gV := ab (Kd.C_below gV.out hb)
     replace iV := ab (Kd.C_below iV.out hb)
     replace HO_K := ab (Kd.C_below HO_K.out hb)
     replace BK := ab (blk_below BK.out hb)
     replace HB := ab (below_step HB.out hb)
     clear hb
     refine hK.out _ _ ⟨aeT, aeU, aeV, aeW, Fu, Fv, Fw, Fx, Fy, Fz, wS, wT, wU, wV⟩ (fun hHeld => ?_)
     clear hK K
     refine norm_ (a' := ?_) ?_ ?_
     rotate_left
     ·show Act.put _ (some 66) _ = _
      simp only [Act.put, ap, aq, ar, i64_w, i32_w]
      rfl
     refine pz 10 67 ?_
     refine dn1 ?_
     try go_wp2
     replace gV := ab (Kd.C_drew gV.out)
     replace iV := ab (Kd.C_drew iV.out)
     replace HO_K := ab (Kd.C_drew HO_K.out)
     replace BK := ab (blk_drew BK.out)
     replace HB := ab (below_drew1 HB.out)
     obtain ⟨ad3, e3, hx1_0, hx1_1, hx1_2, hx1_3, hx1_4, hx1_5, hx1_6, hx1_7, hx1_8, hx1_9⟩ := at_T41 iV.out z (of_eq_true p1) (of_eq_true q1)
     obtain rfl : ad1 = ad3 := (by injection e3)
     by_cases h6 : kd = 6
     · have e6 : (kd == 6) = true := ai h6
       obtain ⟨q3, kk, Id⟩ := HN.out h6
       have Id := ab Id
       obtain ⟨ad4, e4, hx4_0⟩ := Kd.at_string HO_K.out z (of_eq_true p1) q3
       subst e4
       replace q3 := ag q3
       refine st1 18 [] (S := fun w' => G4 w' gb (.int .i64 kd) (.string tx) (.slice (some ad4) ks.length c10) (.slice lZ nk.length c11) (w'.cell? (ad1.add (z.toNat * 10)) = some (.int .i64 ((rd_T41 L z).f0.f0)) ∧ w'.cell? ⟨(ad1.add (z.toNat * 10)).block, (ad1.add (z.toNat * 10)).off + 1, none⟩ = some (.string ((rd_T41 L z).f0.f1)) ∧ w'.cell? ⟨(ad1.add (z.toNat * 10)).block, (ad1.add (z.toNat * 10)).off + 2, none⟩ = some (.string ((rd_T41 L z).f0.f2)) ∧ w'.cell? ⟨(ad1.add (z.toNat * 10)).block, (ad1.add (z.toNat * 10)).off + 3, none⟩ = some (.float .f64 ((rd_T41 L z).f0.f3)) ∧ w'.cell? ⟨(ad1.add (z.toNat * 10)).block, (ad1.add (z.toNat * 10)).off + 4, none⟩ = some (.bool ((rd_T41 L z).f0.f4)) ∧ w'.cell? ⟨(ad1.add (z.toNat * 10)).block, (ad1.add (z.toNat * 10)).off + 5, none⟩ = some (.int .i64 ((rd_T41 L z).f1.f0)) ∧ w'.cell? ⟨(ad1.add (z.toNat * 10)).block, (ad1.add (z.toNat * 10)).off + 6, none⟩ = some (.string ((rd_T41 L z).f1.f1)) ∧ w'.cell? ⟨(ad1.add (z.toNat * 10)).block, (ad1.add (z.toNat * 10)).off + 7, none⟩ = some (.string ((rd_T41 L z).f1.f2)) ∧ w'.cell? ⟨(ad1.add (z.toNat * 10)).block, (ad1.add (z.toNat * 10)).off + 8, none⟩ = some (.float .f64 ((rd_T41 L z).f1.f3)) ∧ w'.cell? ⟨(ad1.add (z.toNat * 10)).block, (ad1.add (z.toNat * 10)).off + 9, none⟩ = some (.bool ((rd_T41 L z).f1.f4)) ∧ w'.cell? (ad4.add z.toNat) = some (.string (rdOf ByteArray.empty ks z)))) (hS := ⟨(ax BK.out 0), (ax BK.out 1), (ax BK.out 2), (ax BK.out 3), hx1_0, hx1_1, hx1_2, hx1_3, hx1_4, hx1_5, hx1_6, hx1_7, hx1_8, hx1_9, hx4_0⟩) (fun hHeld => ?_); refine with_tabW lptab19 lpbits19 (fun HT_ HW_ => ?_)
       generalize w36.drew = w37 at gV iV HO_K BK HB hx1_0 hx1_1 hx1_2 hx1_3 hx1_4 hx1_5 hx1_6 hx1_7 hx1_8 hx1_9 hx4_0 hHeld ⊢
       refine pz 0 68 ?_
       refine tk15 1 69 ?_
       refine pz 2 70 ?_
       refine pz 3 71 ?_
       refine pz 4 72 ?_
       refine pz 5 73 ?_
       refine pz 6 74 ?_
       refine pz 7 75 ?_
       refine pz 9 77 ?_
       refine pz 11 79 ?_
       refine tk15 8 76 ?_
       refine tk15 10 78 ?_
       refine pz 12 80 ?_
       refine tk15 13 81 ?_
       refine pz 14 82 ?_
       refine on1 15 (some 83) fun K hK => ?_
       refine goes_ Tryz.func12 (by kernel_rfl) rfl #[.agg #[.int .i64 ((rd_T41 L z).f0.f0), .string ((rd_T41 L z).f0.f1), .string ((rd_T41 L z).f0.f2), .float .f64 ((rd_T41 L z).f0.f3), .bool ((rd_T41 L z).f0.f4)], .agg #[.int .i64 4, .string (rdOf ByteArray.empty ks z), .slice none 0 0, .slice none 0 0]] (by rfl) rfl rfl Z15 ?_
       refine (cD.calls Vp _ ((rd_T41 L z).f0.f0) ((rd_T41 L z).f0.f1) ((rd_T41 L z).f0.f2) ((rd_T41 L z).f0.f3) ((rd_T41 L z).f0.f4) 4 (rdOf ByteArray.empty ks z) _ _ ([] : List ByteArray) _ _ ([] : List (S25)) true _ ?side1 ?side2 ?side3 ?side4 Id.out).mono ?_
       (case side1 => exact Kd.C_nil _ _)
       (case side2 => exact Nat.le_refl _)
       (case side3 => exact Kd.C_nil _ _)
       (case side4 => exact Nat.le_refl _)
       rintro e w38 ⟨rfl, hb⟩
       have Fu := av hb hHeld.2.2.2.2.1
       have Fv := av hb hHeld.2.2.2.2.2.1
       have Fw := av hb hHeld.2.2.2.2.2.2.1
       have Fx := av hb hHeld.2.2.2.2.2.2.2.1
       have Fy := av hb hHeld.2.2.2.2.2.2.2.2.1
       have Fz := av hb hHeld.2.2.2.2.2.2.2.2.2.1
       have wS := av hb hHeld.2.2.2.2.2.2.2.2.2.2.1
       have wT := av hb hHeld.2.2.2.2.2.2.2.2.2.2.2.1
       have wU := av hb hHeld.2.2.2.2.2.2.2.2.2.2.2.2.1
       have wV := av hb hHeld.2.2.2.2.2.2.2.2.2.2.2.2.2.1
       have Ie := av hb hHeld.2.2.2.2.2.2.2.2.2.2.2.2.2.2
       refine ⟨_, rfl, ?_⟩
       replace gV := ab (Kd.C_below gV.out hb)
       replace iV := ab (Kd.C_below iV.out hb)
       replace HO_K := ab (Kd.C_below HO_K.out hb)
       replace BK := ab (blk_below BK.out hb)
       replace HB := ab (below_step HB.out hb)
       clear hb
       refine hK.out _ _ ⟨(ax BK.out 0), (ax BK.out 1), (ax BK.out 2), (ax BK.out 3), Fu, Fv, Fw, Fx, Fy, Fz, wS, wT, wU, wV, Ie⟩ (fun hHeld => ?_)
       clear hK K
       refine norm_ (a' := ?_) ?_ ?_
       rotate_left
       ·show Act.put _ (some 83) _ = _
        simp only [Act.put, ap, aq, ar, i64_w, i32_w]
        rfl
       refine pz 16 84 ?_
       refine pz 17 85 ?_
       refine dn1 ?_
       try go_wp2
       go_roundg gj
       case measure => exact Nat.lt_succ_self gj
       case rel => exact ⟨_, q + 1, rfl, ⟨hy.out, by omega, by have := HQ.out.2.2; omega⟩, gV, iV, HO_K, BK, HB⟩
     · have e6 : (kd == 6) = false := ah h6
       refine st1 18 [] (S := fun w' => G4 w' gb (.int .i64 kd) (.string tx) (.slice mN ks.length c10) (.slice lZ nk.length c11) True) (hS := ⟨(ax BK.out 0), (ax BK.out 1), (ax BK.out 2), (ax BK.out 3), trivial⟩) (fun hHeld => ?_); refine with_tabW lptab19 lpbits19 (fun HT_ HW_ => ?_)
       generalize w36.drew = w37 at gV iV HO_K BK HB hHeld ⊢
       refine pz 0 68 ?_
       refine tk5 1 69 ?_
       refine pz 2 70 ?_
       refine pz 3 71 ?_
       refine pu 4 72 ?_
       refine pu 5 73 ?_
       refine pu 6 74 ?_
       refine pu 7 75 ?_
       refine pu 8 76 ?_
       refine pu 9 77 ?_
       refine pu 10 78 ?_
       refine pu 11 79 ?_
       refine pu 12 80 ?_
       refine pu 13 81 ?_
       refine pu 14 82 ?_
       refine pu 15 83 ?_
       refine pu 16 84 ?_
       refine pz 17 85 ?_
       refine dn1 ?_
       try go_wp2
       go_roundg gj
       case measure => exact Nat.lt_succ_self gj
       case rel => exact ⟨_, q + 1, rfl, ⟨hy.out, by omega, by have := HQ.out.2.2; omega⟩, gV, iV, HO_K, BK, HB⟩
  · have d1 : decide (z < (L.length : Int)) = false := af (by have := HQ.out.1; omega)
    go_wp2_with (fail)
    go_ret
    exact ⟨rfl, HB.out⟩
end Go.Proofs.YtkjnahgicfmicaaGreatDoor.Sp

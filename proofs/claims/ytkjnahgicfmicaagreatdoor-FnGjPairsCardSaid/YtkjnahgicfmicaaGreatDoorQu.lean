import Derived.Test.YtkjnahgicfmicaaGreatDoorZip
import Derived.Test.YtkjnahgicfmicaaGreatDoorQt
import Derived.Test.YtkjnahgicfmicaaGreatDoorSpx7
import Derived.Test.YtkjnahgicfmicaaGreatDoorQa
import Derived.Test.YtkjnahgicfmicaaGreatDoorSpx5
import Derived.Test.YtkjnahgicfmicaaGreatDoorQh
import Derived.Test.YtkjnahgicfmicaaGreatDoorQc
namespace Go.Proofs.YtkjnahgicfmicaaGreatDoor.Sp
open Go.RowKit Go.PW Go.PL Go.PM
set_option linter.unusedVariables false
section
variable {s s' : ByteArray} {d lo hi : Int}
theorem Win.ext (hw : Win s s' d lo hi) {a b : Int} (h0 : lo ≤ a - d) (h1 : a ≤ b) (h2 : b - d ≤ hi) : s'.extract (a - d).toNat (b - d).toNat = s.extract a.toNat b.toNat := by
 have z0 := hw.lo0; have z1 := hw.lod; have z2 := hw.hi'; have z3 := hw.hid
 have e1 : (s'.extract (a - d).toNat (b - d).toNat).size = (b - a).toNat := Z34
 have e2 : (s.extract a.toNat b.toNat).size = (b - a).toNat := Z34
 apply ByteArray.ext_getElem (e1.trans e2.symm)
 intro q hq hq'
 apply UInt8.toNat_inj.mp
 have b1 := bt_at (s'.extract (a - d).toNat (b - d).toNat) (q : Int) (by rw [Int.toNat_natCast]; exact hq)
 have b2 := bt_at (s.extract a.toNat b.toNat) (q : Int) (by rw [Int.toNat_natCast]; exact hq')
 rw [bt_ext (by omega) (by omega) (by omega), show (((a - d).toNat : Nat) : Int) + (q : Int) = a - d + q by omega, hw.eq _ (by omega) (by omega), show a - d + (q : Int) + d = a + q by omega] at b1
 rw [bt_ext (by omega) (by omega) (by omega), show ((a.toNat : Nat) : Int) + (q : Int) = a + q by omega] at b2
 simp only [Int.toNat_natCast] at b1 b2
 omega
theorem Kids.within {V : aI} {ks : List S31} {i j : Int} (h : Kids V s ks i j) : ∀ p ∈ ks, VR V s p ∧ i ≤ p.f1 ∧ p.f1 < p.f2 ∧ p.f2 ≤ j := by
 induction h with
 | last p i r h1 h2 h3 h4 h5 h6 =>
  intro q hq
  have := h4.1
  simp only [List.mem_singleton] at hq
  subst hq
  exact ⟨h1, by omega, h3, by omega⟩
 | more p i r t j ks h1 h2 h3 h4 h5 h6 h7 h8 ih =>
  intro q hq
  have l4 := h4.1; have l7 := h7.1; have l8 := h8.num
  rcases List.mem_cons.1 hq with rfl | hq
  ·exact ⟨h1, by omega, h3, by omega⟩
  ·obtain ⟨a, b, c, e⟩ := ih q hq
   exact ⟨a, by omega, c, e⟩
theorem Mems.within {V : aI} {ns : List S93} {ks : List S31} {i j : Int} (h : Mems V s ns ks i j) : (∀ p ∈ ks, VR V s p ∧ i ≤ p.f1 ∧ p.f1 < p.f2 ∧ p.f2 ≤ j) ∧ ∀ x ∈ ns, i ≤ x.f0 ∧ x.f0 ≤ x.f1 ∧ x.f1 ≤ j := by
 induction h with
 | last nm p i c r h1 h2 h3 h4 h5 h6 h7 h8 h9 h10 h11 =>
  have l2 := h2.2.1; have l3 := h3.1; have l6 := h6.1; have l9 := h9.1
  refine ⟨fun q hq => ?_, fun q hq => ?_⟩
  ·simp only [List.mem_singleton] at hq
   subst hq
   exact ⟨h7, by omega, h8, by omega⟩
  ·simp only [List.mem_singleton] at hq
   subst hq
   exact ⟨by omega, by omega, by omega⟩
 | more nm p i c r t j ns ks h1 h2 h3 h4 h5 h6 h7 h8 h9 h10 h11 h12 h13 ih =>
  have l2 := h2.2.1; have l3 := h3.1; have l6 := h6.1; have l9 := h9.1; have l12 := h12.1; have l13 := h13.num
  refine ⟨fun q hq => ?_, fun q hq => ?_⟩
  ·rcases List.mem_cons.1 hq with rfl | hq
   ·exact ⟨h7, by omega, h8, by omega⟩
   ·obtain ⟨a, b, c, e⟩ := ih.1 q hq
    exact ⟨a, by omega, c, e⟩
  ·rcases List.mem_cons.1 hq with rfl | hq
   ·exact ⟨by omega, by omega, by omega⟩
   ·obtain ⟨a, b, c⟩ := ih.2 q hq
    exact ⟨by omega, b, c⟩
theorem valo_within {V : aI} {kd i j : Int} {ns : List S93} {ks : List S31} (h : ValO V s kd i j ns ks) (h0 : 0 ≤ i) : (∀ p ∈ ks, VR V s p ∧ i ≤ p.f1 ∧ p.f1 < p.f2 ∧ p.f2 ≤ j) ∧ ∀ x ∈ ns, i ≤ x.f0 ∧ x.f0 ≤ x.f1 ∧ x.f1 ≤ j := by
 rcases h with ⟨_, _, ⟨rfl, rfl, _⟩ | ⟨p, hb, hm⟩⟩ | ⟨_, rfl, _, ⟨rfl, _⟩ | ⟨p, hb, hm⟩⟩ | ⟨_, rfl, rfl, _⟩ | ⟨_, rfl, rfl, _⟩ | ⟨rfl, rfl, _⟩
 ·exact ⟨by simp, by simp⟩
 ·have := hb.1
  obtain ⟨a, b⟩ := hm.within
  exact ⟨fun q hq => by obtain ⟨x, y, z, u⟩ := a q hq; exact ⟨x, by omega, z, u⟩, fun q hq => by obtain ⟨x, y, z⟩ := b q hq; exact ⟨by omega, y, z⟩⟩
 ·exact ⟨by simp, by simp⟩
 ·have := hb.1
  exact ⟨fun q hq => by obtain ⟨x, y, z, u⟩ := hm.within q hq; exact ⟨x, by omega, z, u⟩, by simp⟩
 all_goals exact ⟨by simp, by simp⟩
def TreeEq (s s' : ByteArray) (d : Int) (p : S31) : Prop := ∀ K, aQ.f K s' p.f0 (p.f1 - d) (p.f2 - d) (p.f3.map (shn d)) (shs d p.f4) = aQ.f K s p.f0 p.f1 p.f2 p.f3 p.f4
theorem shs_length (ks : List S31) : (shs d ks).length = ks.length := by rw [shs_map, List.length_map]
theorem rd_shs {ks : List S31} {q : Int} (h0 : 0 ≤ q) (h1 : q < ks.length) : ∃ p ∈ ks, rd_T31 ks q = p ∧ rd_T31 (shs d ks) q = sh d p := by
 have hq : q.toNat < ks.length := by omega
 refine ⟨ks[q.toNat], List.getElem_mem hq, ?_, ?_⟩
 ·unfold rd_T31; rw [List.getD_eq_getElem?_getD]; simp [hq]
 ·unfold rd_T31; rw [shs_map, List.getD_eq_getElem?_getD]; simp [hq]
theorem rd_shn {ns : List S93} {q : Int} (h0 : 0 ≤ q) (h1 : q < ns.length) : ∃ p ∈ ns, rd_T93 ns q = p ∧ rd_T93 (ns.map (shn d)) q = shn d p := by
 have hq : q.toNat < ns.length := by omega
 refine ⟨ns[q.toNat], List.getElem_mem hq, ?_, ?_⟩
 ·unfold rd_T93; rw [List.getD_eq_getElem?_getD]; simp [hq]
 ·unfold rd_T93; rw [List.getD_eq_getElem?_getD]; simp [hq]
theorem l1_eq {ks : List S31} (hK : ∀ p ∈ ks, TreeEq s s' d p) (a b c : Int) (ns : List S93) (y0 : Int) (y1 : ByteArray) (y2 : List ByteArray) : ∀ (k : Nat) (q : Int) (acc : List S25),
  aQ.l1 k s' q a (b - d) (c - d) (ns.map (shn d)) (shs d ks) y0 y1 y2 acc = aQ.l1 k s q a b c ns ks y0 y1 y2 acc := by
 intro k
 induction k with
 | zero => intro q acc; rw [aQ.l1, aQ.l1]
 | succ k ih =>
  intro q acc
  rw [aQ.l1, aQ.l1, shs_length]
  by_cases c1 : q < (ks.length : Int)
  ·rw [if_pos c1, if_pos c1]
   by_cases c2 : 0 ≤ q
   ·rw [if_pos c2, if_pos c2]
    obtain ⟨p, hp, e1, e2⟩ := rd_shs (d := d) c2 c1
    rw [e1, e2, sh_eq]
    dsimp only
    rw [hK p hp k]
    congr 1
    funext bt
    by_cases c3 : acc.length < 1954687338268
    ·rw [if_pos c3, if_pos c3, ih]
    ·rw [if_neg c3, if_neg c3]
   ·rw [if_neg c2, if_neg c2]
  ·rw [if_neg c1, if_neg c1]
theorem l0_eq (hw : Win s s' d lo hi) {ks : List S31} {ns : List S93} (hK : ∀ p ∈ ks, TreeEq s s' d p) (hN : ∀ x ∈ ns, lo ≤ x.f0 - d ∧ x.f0 ≤ x.f1 ∧ x.f1 - d ≤ hi) (a b c : Int) (y0 : Int) (y1 : ByteArray) : ∀ (k : Nat) (q : Int) (acc : List ByteArray),
  aQ.l0 k s' q a (b - d) (c - d) (ns.map (shn d)) (shs d ks) y0 y1 acc = aQ.l0 k s q a b c ns ks y0 y1 acc := by
 have z0 := hw.lo0; have z1 := hw.lod; have z2 := hw.hi'; have z3 := hw.hid
 intro k
 induction k with
 | zero => intro q acc; rw [aQ.l0, aQ.l0]
 | succ k ih =>
  intro q acc
  rw [aQ.l0, aQ.l0, List.length_map]
  by_cases c1 : q < (ns.length : Int)
  ·rw [if_pos c1, if_pos c1]
   by_cases c2 : 0 ≤ q
   ·rw [if_pos c2, if_pos c2]
    obtain ⟨x, hx, e1, e2⟩ := rd_shn (d := d) c2 c1
    obtain ⟨g1, g2, g3⟩ := hN x hx
    rw [e1, e2]
    unfold shn
    dsimp only
    rw [if_pos (by omega), if_pos (by omega), if_pos (by omega), if_pos (by omega), if_pos (by omega), if_pos (by omega), hw.ext g1 g2 g3]
    congr 1
    funext t
    by_cases c3 : acc.length < 8796093022208
    ·rw [if_pos c3, if_pos c3]
     exact ih _ _
    ·rw [if_neg c3, if_neg c3]
   ·rw [if_neg c2, if_neg c2]
  ·rw [if_neg c1, if_neg c1]
   exact l1_eq hK a b c ns y0 y1 acc k 0 []
theorem tree_mv (hw : Win s s' d lo hi) : ∀ D p, VR (aA.at_ D) s p → lo ≤ p.f1 - d → p.f1 < p.f2 → p.f2 - d ≤ hi → TreeEq s s' d p := by
 intro D
 induction D using Nat.strongRecOn with
 | _ D ih =>
 intro p hp g0 g1 g2 K
 obtain ⟨h0, k, h⟩ := hp
 have z0 := hw.lo0; have z1 := hw.lod; have z2 := hw.hi'; have z3 := hw.hid
 cases D with
 | zero => cases h
 | succ D =>
 obtain ⟨_, _, _, _, hle, hO⟩ := value_known hw.sm D k p.f1 p.f0 p.f1 p.f2 p.f3 p.f4 s p.f2 h0 (by omega) h
 obtain ⟨w1, w2⟩ := valo_within hO h0
 have hK : ∀ q ∈ p.f4, TreeEq s s' d q := fun q hq => by
  obtain ⟨a, b, c, e⟩ := w1 q hq
  exact ih (D - 1) (by omega) q a (by omega) c (by omega)
 have hN : ∀ x ∈ p.f3, lo ≤ x.f0 - d ∧ x.f0 ≤ x.f1 ∧ x.f1 - d ≤ hi := fun x hx => by
  obtain ⟨a, b, c⟩ := w2 x hx
  exact ⟨by omega, b, by omega⟩
 cases K with
 | zero => rw [aQ.f, aQ.f]
 | succ K =>
  have hj : ∀ y1 : ByteArray, aQ.j0 K s' p.f0 (p.f1 - d) (p.f2 - d) (p.f3.map (shn d)) (shs d p.f4) p.f0 y1 = aQ.j0 K s p.f0 p.f1 p.f2 p.f3 p.f4 p.f0 y1 := by
   intro y1
   cases K with
   | zero => rw [aQ.j0, aQ.j0]
   | succ K => rw [aQ.j0, aQ.j0]; exact l0_eq hw hK hN _ _ _ _ _ K 0 []
  rw [aQ.f, aQ.f, if_pos (show 0 ≤ p.f1 - d by omega), if_pos (show p.f1 - d ≤ p.f2 - d by omega), if_pos (show p.f2 - d ≤ (s'.size : Int) by omega), if_pos h0, if_pos (show p.f1 ≤ p.f2 by omega), if_pos hle, hw.ext g0 (by omega) g2, hj, hj]
  simp only [hj]
  rw [if_pos (show 0 ≤ p.f1 - d by omega), if_pos (show p.f1 - d ≤ p.f2 - d by omega), if_pos (show p.f2 - d ≤ (s'.size : Int) by omega), if_pos h0, if_pos (show p.f1 ≤ p.f2 by omega), if_pos hle]
end
section
attribute [local go_sem] max2_int min2_int max_two min_two max_three min_three max_four min_four
set_option linter.unusedSimpArgs false
mutual
def bG.j0 : Nat → Bool → Int → ByteArray → List ByteArray → List (S25) → Int → ByteArray → List ByteArray → List (S25) → Option (Bool)
 | 0, _, _, _, _, _, _, _, _, _ => none
 | k + 1, x36, jN, jO, iI, fR, jP, jQ, iJ, fS => if x36 = true then (none) else (bG.l0 k 0 jN jO iI fR jP jQ iJ fS)
def bG.l0 : Nat → Int → Int → ByteArray → List ByteArray → List (S25) → Int → ByteArray → List ByteArray → List (S25) → Option (Bool)
 | 0, _, _, _, _, _, _, _, _, _ => none
 | k + 1, x5, jN, jO, iI, fR, jP, jQ, iJ, fS => if x5 < (iI.length : Int) then (if 0 ≤ x5 then (if x5 < (iJ.length : Int) then (if (rdOf ByteArray.empty iI x5).toList = (rdOf ByteArray.empty iJ x5).toList then (bG.l0 k (wrap64 (x5 + 1)) jN jO iI fR jP jQ iJ fS) else (none)) else (none)) else (none)) else (bG.l1 k 0 jN jO iI fR jP jQ iJ fS)
def bG.l1 : Nat → Int → Int → ByteArray → List ByteArray → List (S25) → Int → ByteArray → List ByteArray → List (S25) → Option (Bool)
 | 0, _, _, _, _, _, _, _, _, _ => none
 | k + 1, x6, jN, jO, iI, fR, jP, jQ, iJ, fS => if x6 < (fR.length : Int) then (if 0 ≤ x6 then (if x6 < (fS.length : Int) then ((bG.f k ((rd_T25 fR x6).f0) ((rd_T25 fR x6).f1) ((rd_T25 fR x6).f2) ((rd_T25 fR x6).f3) ((rd_T25 fS x6).f0) ((rd_T25 fS x6).f1) ((rd_T25 fS x6).f2) ((rd_T25 fS x6).f3)).bind fun Kx => (if Kx = true then (bG.l1 k (wrap64 (x6 + 1)) jN jO iI fR jP jQ iJ fS) else (none))) else (none)) else (none)) else (some true)
def bG.f : Nat → Int → ByteArray → List ByteArray → List (S25) → Int → ByteArray → List ByteArray → List (S25) → Option (Bool)
 | 0, _, _, _, _, _, _, _, _ => none
 | k + 1, a0_0, a0_1, l0_2, l0_3, a1_0, a1_1, l1_2, l1_3 => if a0_0 = a1_0 then (if a0_1.toList = a1_1.toList then (if (l0_2.length : Int) = (l1_2.length : Int) then (bG.j0 k ((l0_3.length : Int) != (l1_3.length : Int)) a0_0 a0_1 l0_2 l0_3 a1_0 a1_1 l1_2 l1_3) else (bG.j0 k true a0_0 a0_1 l0_2 l0_3 a1_0 a1_1 l1_2 l1_3)) else (bG.j0 k true a0_0 a0_1 l0_2 l0_3 a1_0 a1_1 l1_2 l1_3)) else (bG.j0 k true a0_0 a0_1 l0_2 l0_3 a1_0 a1_1 l1_2 l1_3)
end
def bG.T6 : Bool × List (List Nat × List Nat) := (true, [([], []), ([0], [0]), ([], []), ([1, 2], [1, 2]), ([3], [3]), ([], []), ([5], [5]), ([], []), ([6, 7], [6, 7]), ([8], [8]), ([4, 9], [4, 9])])
def bG.B6 : List Nat := [0, 1, 0, 7, 15, 0, 32, 0, 224, 480, 1023]
theorem bG.tab6 : rtab .any (opsOf Tryz.f29 6) = bG.T6 := by kernel_rfl
theorem bG.bits6 : waitsOk bG.T6.2 bG.B6 = true := by kernel_rfl
def bG.T11 : Bool × List (List Nat × List Nat) := (true, [([], []), ([0], [0]), ([], []), ([1, 2], [1, 2]), ([3], [3]), ([], []), ([5], [5]), ([], []), ([6, 7], [6, 7]), ([8], [8]), ([4, 9], [4, 9]), ([10], [10])])
def bG.B11 : List Nat := [0, 1, 0, 7, 15, 0, 32, 0, 224, 480, 1023, 2047]
theorem bG.tab11 : rtab .any (opsOf Tryz.f29 11) = bG.T11 := by kernel_rfl
theorem bG.bits11 : waitsOk bG.T11.2 bG.B11 = true := by kernel_rfl
set_option maxHeartbeats 8000000 in
set_option maxRecDepth 100000 in
theorem bG.calls (k : Nat) : ∀ (a0_0 : Int) (a0_1 : ByteArray) (A0_2 : Option Addr) (c0_2 : Nat) (l0_2 : List ByteArray) (A0_3 : Option Addr) (c0_3 : Nat) (l0_3 : List (S25)) (a1_0 : Int) (a1_1 : ByteArray) (A1_2 : Option Addr) (c1_2 : Nat) (l1_2 : List ByteArray) (A1_3 : Option Addr) (c1_3 : Nat) (l1_3 : List (S25)) (r : Bool) (w : World) (hr0_2 : Kd.C Kd.string w A0_2 l0_2.length l0_2) (hc0_2 : l0_2.length ≤ c0_2) (hr0_3 : Kd.C k25 w A0_3 l0_3.length l0_3) (hc0_3 : l0_3.length ≤ c0_3) (hr1_2 : Kd.C Kd.string w A1_2 l1_2.length l1_2) (hc1_2 : l1_2.length ≤ c1_2) (hr1_3 : Kd.C k25 w A1_3 l1_3.length l1_3) (hc1_3 : l1_3.length ≤ c1_3) (h : bG.f k a0_0 a0_1 l0_2 l0_3 a1_0 a1_1 l1_2 l1_3 = some r),
 Calls Tryz.prog 29 #[.agg #[.int .i64 a0_0, .string a0_1, .slice A0_2 l0_2.length c0_2, .slice A0_3 l0_3.length c0_3], .agg #[.int .i64 a1_0, .string a1_1, .slice A1_2 l1_2.length c1_2, .slice A1_3 l1_3.length c1_3]] w fun e w' => e = .returned (.bool r) ∧ Below w.heap.size w w' := by
 induction k using Nat.strongRecOn with
 | _ k ih =>
 intro a0_0 a0_1 A0_2 c0_2 l0_2 A0_3 c0_3 l0_3 a1_0 a1_1 A1_2 c1_2 l1_2 A1_3 c1_3 l1_3 r w hr0_2 hc0_2 hr0_3 hc0_3 hr1_2 hc1_2 hr1_3 hc1_3 h
 cases k with
 | zero => exact absurd h (by simp [bG.f])
 | succ k =>
 simp only [bG.f] at h
 have hu25 := Tryz.underlying25
 have Ky := ab hr0_2
 have HC0_2 := ab hc0_2
 clear hr0_2 hc0_2
 have Kz := ab hr0_3
 have HC0_3 := ab hc0_3
 clear hr0_3 hc0_3
 have tK := ab hr1_2
 have HC1_2 := ab hc1_2
 clear hr1_2 hc1_2
 have nK := ab hr1_3
 have HC1_3 := ab hc1_3
 clear hr1_3 hc1_3
 have HB := ab (Below.refl w.heap.size w)
 have H : (if a0_0 = a1_0 then (if a0_1.toList = a1_1.toList then (if (l0_2.length : Int) = (l1_2.length : Int) then (bG.j0 k ((l0_3.length : Int) != (l1_3.length : Int)) a0_0 a0_1 l0_2 l0_3 a1_0 a1_1 l1_2 l1_3) else (bG.j0 k true a0_0 a0_1 l0_2 l0_3 a1_0 a1_1 l1_2 l1_3)) else (bG.j0 k true a0_0 a0_1 l0_2 l0_3 a1_0 a1_1 l1_2 l1_3)) else (bG.j0 k true a0_0 a0_1 l0_2 l0_3 a1_0 a1_1 l1_2 l1_3)) = some r := h
 clear h
 have mW := ab H
 clear H
 go_enter Tryz.func29, Tryz.ntmps29
 go_upto_region 1 with (first | (refine aw 2 #[.int .i64 a0_0, .string a0_1, .slice A0_2 l0_2.length c0_2, .slice A0_3 l0_3.length c0_3] 25 ?_; intro iQ hg w4 hbox hb; have dU := ab (hbox); have amF : Aside0 (w.heap.size ≤ iQ) := ⟨Z16⟩; have amG : Aside0 (w.heap.size ≤ iQ) := ⟨Z16⟩; replace HB := ab (below_step (w := w) zB hb); clear hb hbox hg) | (refine aw 3 #[.int .i64 a1_0, .string a1_1, .slice A1_2 l1_2.length c1_2, .slice A1_3 l1_3.length c1_3] 25 ?_; intro kE hg w5 hbox hb; have eG := ab (hbox); have amH : Aside0 (w.heap.size ≤ kE) := ⟨Z16⟩; have amI : Aside0 (w.heap.size ≤ kE) := ⟨Z16⟩; replace HB := ab (below_step (w := w) zB hb); have fI : Aside0 (iQ ≠ kE) := ⟨by rw [hg]; exact Nat.ne_of_lt (blk_lt (g := iQ) zC)⟩; have fJ : Aside0 (kE ≠ iQ) := ⟨by rw [hg]; exact Nat.ne_of_gt (blk_lt (g := iQ) zC)⟩; replace dU := ab (blk_below (g := iQ) zC hb); clear hb hbox hg))
 (try simp only [Act.put, ap, aq, ar])
 go_cut [36] (fun v36 wc => ∃ (kq : Nat) (xT : Bool), v36 = .bool xT ∧ Aside0 (bG.j0 kq xT a0_0 a0_1 l0_2 l0_3 a1_0 a1_1 l1_2 l1_3 = some r) ∧ Aside0 (kq ≤ k) ∧ Aside0 (wc.heap[iQ]? = some (.cells #[.int .i64 a0_0, .string a0_1, (.slice A0_2 l0_2.length c0_2), (.slice A0_3 l0_3.length c0_3)] 25 (0, 0))) ∧ Aside0 (wc.heap[kE]? = some (.cells #[.int .i64 a1_0, .string a1_1, (.slice A1_2 l1_2.length c1_2), (.slice A1_3 l1_3.length c1_3)] 25 (0, 0))) ∧ Aside0 (Below w.heap.size w wc))
 case first =>
  have H := mW.out
  clear mW
  revert H; refine sIe1n0_e0n1 (fun eI mL H => ?_) fun eI mL H => ?_
  ·(first | rw [eI] | (simp only [i64_w, i32_w]; rw [eI]) | skip)
   revert H; refine sIe1n0_e0n1 (fun iH kM H => ?_) fun iH kM H => ?_
   ·revert H; refine sIe1n0k_e0n1k (fun iL kT c8 H => ?_) fun iL kT c8 H => ?_
    ·have agG : (l0_2.length == l1_2.length) = true := by first | simpa using c8 | (simp at c8 ⊢; omega)
     clear c8
     focus
      have H' := ab H
      clear H
      have La := fI.out
      have Lb := fJ.out
      obtain ⟨oR, oS, Ab, Ac, oT, oU, Ad, Ae⟩ := cz4 dU.out
      obtain ⟨oV, oW, tL, tM, oX, oY, tN, tO⟩ := cz4 eG.out
      go_wp2
      go_meet
      case rel => exact ⟨_, (((l0_3.length : Int) != (l1_3.length : Int))), Z7, H', ⟨Z26⟩, ⟨zC⟩, ⟨zC⟩, ⟨zB⟩⟩
    have agG : (l0_2.length == l1_2.length) = false := by first | simpa using c8 | (simp at c8 ⊢; omega)
    focus
     have H' := ab H
     clear H
     have amJ := fI.out
     have amK := fJ.out
     obtain ⟨oZ, pA, Af, Ag, pB, pC, Ah, Ai⟩ := cz4 dU.out
     obtain ⟨Aj, Ak, Al, Am, An, Ao, Ap, Aq⟩ := cz4 eG.out
     go_wp2
     go_meet
     case rel => exact ⟨_, (true), Z7, H', ⟨Z26⟩, ⟨zC⟩, ⟨zC⟩, ⟨zB⟩⟩
   focus
    have H' := ab H
    clear H
    have Jr := fI.out
    have Js := fJ.out
    obtain ⟨sO, sP, sQ, sR, sS, sT, sU, sV⟩ := cz4 dU.out
    obtain ⟨tP, tQ, Sm, Sn, tR, tS, So, Sr⟩ := cz4 eG.out
    go_wp2
    go_meet
    case rel => exact ⟨_, (true), Z7, H', ⟨Z26⟩, ⟨zC⟩, ⟨zC⟩, ⟨zB⟩⟩
  (first | rw [eI] | (simp only [i64_w, i32_w]; rw [eI]) | skip)
  focus
   have H' := ab H
   clear H
   have xU := fI.out
   have xV := fJ.out
   obtain ⟨pD, pE, pF, pG, pH, pI, pJ, pK⟩ := cz4 dU.out
   obtain ⟨Ar, Au, Av, Aw, Ax, Ay, Az, Ba⟩ := cz4 eG.out
   go_wp2
   go_meet
   case rel => exact ⟨_, (true), Z7, H', ⟨Z26⟩, ⟨zC⟩, ⟨zC⟩, ⟨zB⟩⟩
 case rest =>
  clear mW
  obtain ⟨kq, xT, rfl, HA, HJ2, dU, eG, HB⟩ := hcut
  cases kq with
  | zero => exact absurd HA.out (by simp [bG.j0])
  | succ kj2 =>
   have H := HA.out
   clear HA
   simp only [bG.j0] at H
   replace H := sB H
   obtain ⟨rfl, H⟩ | ⟨rfl, H⟩ := H
   ·exact absurd H (by simp)
   have H' := ab H
   clear H
   go_wp2
   (try simp only [Act.put, ap, aq, ar])
   go_loopg [5] kj2 (fun kq v5 w' => ∃ (kW : Int), v5 = .int .i64 kW ∧ Aside0 (bG.l0 kq kW a0_0 a0_1 l0_2 l0_3 a1_0 a1_1 l1_2 l1_3 = some r) ∧ Aside0 (kq ≤ kj2) ∧ Aside0 (w'.heap[iQ]? = some (.cells #[.int .i64 a0_0, .string a0_1, (.slice A0_2 l0_2.length c0_2), (.slice A0_3 l0_3.length c0_3)] 25 (0, 0))) ∧ Aside0 (w'.heap[kE]? = some (.cells #[.int .i64 a1_0, .string a1_1, (.slice A1_2 l1_2.length c1_2), (.slice A1_3 l1_3.length c1_3)] 25 (0, 0))) ∧ Aside0 (Below w.heap.size w w'))
   case atStart => exact ⟨(0), Z7, H', ⟨Nat.le_refl _⟩, ⟨zC⟩, ⟨zC⟩, ⟨zB⟩⟩
   case round =>
    clear H'
    obtain ⟨kW, rfl, HA, HK2, dU, eG, HB⟩ := hrel
    cases gk with
    | zero => exact absurd HA.out (by simp [bG.l0])
    | succ k2 =>
     have H := HA.out
     clear HA
     simp only [bG.l0] at H
     revert H; refine sId1_d0 (fun jH H => ?_) fun jH H => ?_
     ·revert H; refine sNd1 fun mA H => ?_
      revert H; refine sNd1 fun oG H => ?_
      revert H; refine sNe1n0 fun kB qM H => ?_
      focus
       have H' := ab H
       clear H
       have amL := fI.out
       have amM := fJ.out
       obtain ⟨Ss, St, Su, Sv, Sw, Sx, Sy, Sz⟩ := cz4 dU.out
       try go_wp2
       replace dU := ab (blk_drew dU.out)
       replace eG := ab (blk_drew eG.out)
       replace HB := ab (below_drew1 HB.out)
       have p461 : 0 ≤ (kW : Int) := ac Z6
       have q461 : kW < (l0_2.length : Int) := ac Z6
       obtain ⟨Ex, e461, hx461_0⟩ := Kd.at_string Ky.out kW p461 q461
       have tT := hx461_0
       cases e461
       replace hx461_0 := av HB.out hx461_0
       replace p461 := ag p461
       replace q461 := ag q461
       have p462 : 0 ≤ (kW : Int) := ac Z6
       have q462 : kW < (l1_2.length : Int) := ac Z6
       obtain ⟨Ey, e462, hx462_0⟩ := Kd.at_string tK.out kW p462 q462
       have tU := hx462_0
       cases e462
       replace hx462_0 := av HB.out hx462_0
       replace p462 := ag p462
       replace q462 := ag q462
       refine st1 11 [] (S := fun w' => G4 w' iQ (.int .i64 a0_0) (.string a0_1) (.slice (some Ex) l0_2.length c0_2) (.slice A0_3 l0_3.length c0_3) (G4 w' kE (.int .i64 a1_0) (.string a1_1) (.slice (some Ey) l1_2.length c1_2) (.slice A1_3 l1_3.length c1_3) (w'.cell? (Ex.add (kW).toNat) = some (.string (rdOf ByteArray.empty l0_2 kW)) ∧ w'.cell? (Ey.add (kW).toNat) = some (.string (rdOf ByteArray.empty l1_2 kW))))) (hS := ⟨(ax dU.out 0), (ax dU.out 1), (ax dU.out 2), (ax dU.out 3), (ax eG.out 0), (ax eG.out 1), (ax eG.out 2), (ax eG.out 3), (av HB.out tT), (av HB.out tU)⟩) (fun hHeld => ?_); refine with_tabW bG.tab6 bG.bits6 (fun HT_ HW_ => ?_)
       generalize wr.drew = w28 at dU eG HB hx461_0 hx462_0 hHeld ⊢
       refine pz 0 44 ?_
       refine pz 2 46 ?_
       refine pz 5 49 ?_
       refine pz 7 51 ?_
       refine tk10 1 45 ?_
       refine pz 3 47 ?_
       refine tk10 4 48 ?_
       refine tk10 6 50 ?_
       refine pz 8 52 ?_
       refine tk10 9 53 ?_
       refine pz 10 54 ?_
       refine dn1 ?_
       try go_wp2
       go_roundg k2
       case measure => have := HJ2.out; have := HK2.out; omega
       case rel => exact ⟨(wrap64 (kW + 1)), Z7, H', ⟨by have := HJ2.out; have := HK2.out; omega⟩, ⟨zC⟩, ⟨zC⟩, ⟨zB⟩⟩
     have H' := ab H
     clear H
     have Lc := fI.out
     have Ld := fJ.out
     obtain ⟨tV, tW, tX, tY, tZ, uA, uB, uC⟩ := cz4 dU.out
     go_wp2
     (try simp only [Act.put, ap, aq, ar])
     go_loopg [6] k2 (fun kq v6 w' => ∃ (cS : Int), v6 = .int .i64 cS ∧ Aside0 (bG.l1 kq cS a0_0 a0_1 l0_2 l0_3 a1_0 a1_1 l1_2 l1_3 = some r) ∧ Aside0 (kq ≤ k2) ∧ Aside0 (w'.heap[iQ]? = some (.cells #[.int .i64 a0_0, .string a0_1, (.slice A0_2 l0_2.length c0_2), (.slice A0_3 l0_3.length c0_3)] 25 (0, 0))) ∧ Aside0 (w'.heap[kE]? = some (.cells #[.int .i64 a1_0, .string a1_1, (.slice A1_2 l1_2.length c1_2), (.slice A1_3 l1_3.length c1_3)] 25 (0, 0))) ∧ Aside0 (Below w.heap.size w w'))
     case atStart => exact ⟨(0), Z7, H', ⟨Nat.le_refl _⟩, ⟨zC⟩, ⟨zC⟩, ⟨zB⟩⟩
     case round =>
      clear H'
      try clear jH tV tW tX tY tZ uA uB uC
      obtain ⟨cS, rfl, HA, HK3, dU, eG, HB⟩ := hrel
      cases gk with
      | zero => exact absurd HA.out (by simp [bG.l1])
      | succ k3 =>
       have H := HA.out
       clear HA
       simp only [bG.l1] at H
       revert H; refine sId1_d0 (fun jD H => ?_) fun jD H => ?_
       ·revert H; refine sNd1 fun Ez H => ?_
        revert H; refine sNd1 fun sG H => ?_
        revert H; refine bnd ?_; rintro Kx A34 H
        replace H := sB H
        obtain ⟨rfl, H⟩ | ⟨rfl, H⟩ := H
        ·focus
          have H' := ab H
          clear H
          have amN := fI.out
          have amO := fJ.out
          obtain ⟨Ta, Tb, Tc, Td, Te, Tf, Tg, Th⟩ := cz4 dU.out
          try go_wp2
          replace dU := ab (blk_drew dU.out)
          replace eG := ab (blk_drew eG.out)
          replace HB := ab (below_drew1 HB.out)
          have p463 : 0 ≤ (cS : Int) := ac Z6
          have q463 : cS < (l0_3.length : Int) := ac Z6
          obtain ⟨mD, A463_2, c463_2, A463_3, c463_3, e463, hx463_0, hx463_1, hx463_2, hx463_3, hl463_2, hi463_2, hl463_3, hi463_3⟩ := at_T25 Kz.out cS p463 q463
          have mO := hx463_3
          have mP := hx463_2
          have mQ := hx463_1
          have mR := hx463_0
          cases e463
          replace hx463_0 := av HB.out hx463_0
          replace hx463_1 := av HB.out hx463_1
          replace hx463_2 := av HB.out hx463_2
          replace hx463_3 := av HB.out hx463_3
          have uD := ab hi463_2
          have HC463_2 := ab hl463_2
          clear hi463_2 hl463_2
          have uE := ab hi463_3
          have HC463_3 := ab hl463_3
          clear hi463_3 hl463_3
          replace p463 := ag p463
          replace q463 := ag q463
          have p464 : 0 ≤ (cS : Int) := ac Z6
          have q464 : cS < (l1_3.length : Int) := ac Z6
          obtain ⟨mE, A464_2, c464_2, A464_3, c464_3, e464, hx464_0, hx464_1, hx464_2, hx464_3, hl464_2, hi464_2, hl464_3, hi464_3⟩ := at_T25 nK.out cS p464 q464
          have mS := hx464_3
          have mT := hx464_2
          have mU := hx464_1
          have mV := hx464_0
          cases e464
          replace hx464_0 := av HB.out hx464_0
          replace hx464_1 := av HB.out hx464_1
          replace hx464_2 := av HB.out hx464_2
          replace hx464_3 := av HB.out hx464_3
          have uF := ab hi464_2
          have HC464_2 := ab hl464_2
          clear hi464_2 hl464_2
          have uG := ab hi464_3
          have HC464_3 := ab hl464_3
          clear hi464_3 hl464_3
          replace p464 := ag p464
          replace q464 := ag q464
          refine st1 12 [] (S := fun w' => G4 w' iQ (.int .i64 a0_0) (.string a0_1) (.slice A0_2 l0_2.length c0_2) (.slice (some mD) l0_3.length c0_3) (G4 w' kE (.int .i64 a1_0) (.string a1_1) (.slice A1_2 l1_2.length c1_2) (.slice (some mE) l1_3.length c1_3) (w'.cell? (mD.add ((cS).toNat * 4)) = some (.int .i64 ((rd_T25 l0_3 cS).f0)) ∧ w'.cell? ⟨(mD.add ((cS).toNat * 4)).block, (mD.add ((cS).toNat * 4)).off + 1, none⟩ = some (.string ((rd_T25 l0_3 cS).f1)) ∧ w'.cell? ⟨(mD.add ((cS).toNat * 4)).block, (mD.add ((cS).toNat * 4)).off + 2, none⟩ = some (.slice A463_2 ((rd_T25 l0_3 cS).f2).length c463_2) ∧ w'.cell? ⟨(mD.add ((cS).toNat * 4)).block, (mD.add ((cS).toNat * 4)).off + 3, none⟩ = some (.slice A463_3 ((rd_T25 l0_3 cS).f3).length c463_3) ∧ w'.cell? (mE.add ((cS).toNat * 4)) = some (.int .i64 ((rd_T25 l1_3 cS).f0)) ∧ w'.cell? ⟨(mE.add ((cS).toNat * 4)).block, (mE.add ((cS).toNat * 4)).off + 1, none⟩ = some (.string ((rd_T25 l1_3 cS).f1)) ∧ w'.cell? ⟨(mE.add ((cS).toNat * 4)).block, (mE.add ((cS).toNat * 4)).off + 2, none⟩ = some (.slice A464_2 ((rd_T25 l1_3 cS).f2).length c464_2) ∧ w'.cell? ⟨(mE.add ((cS).toNat * 4)).block, (mE.add ((cS).toNat * 4)).off + 3, none⟩ = some (.slice A464_3 ((rd_T25 l1_3 cS).f3).length c464_3)))) (hS := ⟨(ax dU.out 0), (ax dU.out 1), (ax dU.out 2), (ax dU.out 3), (ax eG.out 0), (ax eG.out 1), (ax eG.out 2), (ax eG.out 3), (av HB.out mR), (av HB.out mQ), (av HB.out mP), (av HB.out mO), (av HB.out mV), (av HB.out mU), (av HB.out mT), (av HB.out mS)⟩) (fun hHeld => ?_); refine with_tabW bG.tab11 bG.bits11 (fun HT_ HW_ => ?_)
          generalize wr.drew = w38 at dU eG HB uD uE uF uG hx463_0 hx463_1 hx463_2 hx463_3 hx464_0 hx464_1 hx464_2 hx464_3 hHeld ⊢
          refine pz 0 62 ?_
          refine pz 2 64 ?_
          refine pz 5 67 ?_
          refine pz 7 69 ?_
          refine tk16 1 63 ?_
          refine pz 3 65 ?_
          refine tk16 4 66 ?_
          refine tk16 6 68 ?_
          refine pz 8 70 ?_
          refine tk16 9 71 ?_
          refine on1 10 (some 72) fun K hK => ?_
          refine goes_ Tryz.func29 (by kernel_rfl) rfl #[.agg #[.int .i64 ((rd_T25 l0_3 cS).f0), .string ((rd_T25 l0_3 cS).f1), .slice A463_2 ((rd_T25 l0_3 cS).f2).length c463_2, .slice A463_3 ((rd_T25 l0_3 cS).f3).length c463_3], .agg #[.int .i64 ((rd_T25 l1_3 cS).f0), .string ((rd_T25 l1_3 cS).f1), .slice A464_2 ((rd_T25 l1_3 cS).f2).length c464_2, .slice A464_3 ((rd_T25 l1_3 cS).f3).length c464_3]] (by rfl) rfl rfl Z15 ?_
          with_reducible refine (ih k3 (by have := HJ2.out; have := HK2.out; have := HK3.out; omega) ((rd_T25 l0_3 cS).f0) ((rd_T25 l0_3 cS).f1) _ _ ((rd_T25 l0_3 cS).f2) _ _ ((rd_T25 l0_3 cS).f3) ((rd_T25 l1_3 cS).f0) ((rd_T25 l1_3 cS).f1) _ _ ((rd_T25 l1_3 cS).f2) _ _ ((rd_T25 l1_3 cS).f3) true _ ?side1 ?side2 ?side3 ?side4 ?side5 ?side6 ?side7 ?side8 A34.out).mono ?_
          (case side1 => repeat (first | exact (Kd.C_below uD.out HB.out) | (with_reducible refine Kd.C_alloc ?_ _) | (with_reducible refine Kd.C_drewN ?_ _) | (with_reducible refine Kd.C_drew ?_)))
          (case side2 => exact HC463_2.out)
          (case side3 => repeat (first | exact (Kd.C_below uE.out HB.out) | (with_reducible refine Kd.C_alloc ?_ _) | (with_reducible refine Kd.C_drewN ?_ _) | (with_reducible refine Kd.C_drew ?_)))
          (case side4 => exact HC463_3.out)
          (case side5 => repeat (first | exact (Kd.C_below uF.out HB.out) | (with_reducible refine Kd.C_alloc ?_ _) | (with_reducible refine Kd.C_drewN ?_ _) | (with_reducible refine Kd.C_drew ?_)))
          (case side6 => exact HC464_2.out)
          (case side7 => repeat (first | exact (Kd.C_below uG.out HB.out) | (with_reducible refine Kd.C_alloc ?_ _) | (with_reducible refine Kd.C_drewN ?_ _) | (with_reducible refine Kd.C_drew ?_)))
          (case side8 => exact HC464_3.out)
          rintro e w39 ⟨rfl, hb⟩
          refine ⟨_, rfl, ?_⟩
          replace dU := ab (blk_below (g := iQ) zC hb)
          replace eG := ab (blk_below (g := kE) zC hb)
          replace HB := ab (below_step (w := w) zB hb)
          try clear hb
          refine hK.out _ _ ⟨(ax dU.out 0), (ax dU.out 1), (ax dU.out 2), (ax dU.out 3), (ax eG.out 0), (ax eG.out 1), (ax eG.out 2), (ax eG.out 3), (av HB.out mR), (av HB.out mQ), (av HB.out mP), (av HB.out mO), (av HB.out mV), (av HB.out mU), (av HB.out mT), (av HB.out mS)⟩ (fun hHeld => ?_)
          clear hK K
          refine norm_ (a' := ?_) ?_ ?_
          rotate_left
          ·show Act.put _ (some 72) _ = _
           simp only [Act.put, ap, aq, ar, i64_w, i32_w]
           rfl
          refine pz 11 73 ?_
          refine dn1 ?_
          try go_wp2
          go_roundg k3
          case measure => have := HJ2.out; have := HK2.out; have := HK3.out; omega
          case rel => exact ⟨(wrap64 (cS + 1)), Z7, H', ⟨by have := HJ2.out; have := HK2.out; have := HK3.out; omega⟩, ⟨zC⟩, ⟨zC⟩, ⟨zB⟩⟩
        exact absurd H (by simp)
       focus
        obtain rfl := au H
        have Le := fI.out
        have Lf := fJ.out
        obtain ⟨sW, sX, sY, sZ, tA, tB, tC, tD⟩ := cz4 dU.out
        go_wp2
        go_ret
        exact ⟨Z8, zB⟩
end
section
inductive Fit : S25 → Prop
 | mk (t : S25) : t.f2.length ≤ 8796093022208 → t.f3.length ≤ 8796093022208 → (∀ q ∈ t.f3, Fit q) → Fit t
theorem fit_l1 {s : ByteArray} {m : Nat} (hT : ∀ (k : Nat) (a b c : Int) (ns : List S93) (ks : List S31) (r : Int × ByteArray × List ByteArray × List S25), k ≤ m → aQ.f k s a b c ns ks = some r → Fit ⟨r.1, r.2.1, r.2.2.1, r.2.2.2⟩) :
  ∀ (k : Nat), k ≤ m + 1 → ∀ (q a b c : Int) (ns : List S93) (ks : List S31) (y0 : Int) (y1 : ByteArray) (y2 : List ByteArray) (acc : List S25) (r : Int × ByteArray × List ByteArray × List S25),
  acc.length ≤ 1954687338268 → (∀ x ∈ acc, Fit x) → y2.length ≤ 8796093022208 → aQ.l1 k s q a b c ns ks y0 y1 y2 acc = some r → Fit ⟨r.1, r.2.1, r.2.2.1, r.2.2.2⟩ := by
 intro k
 induction k with
 | zero => intro _ q a b c ns ks y0 y1 y2 acc r _ _ _ h; rw [aQ.l1] at h; cases h
 | succ k ih =>
  intro hk q a b c ns ks y0 y1 y2 acc r ha hA hy h
  rw [aQ.l1] at h
  by_cases c1 : q < (ks.length : Int)
  ·rw [if_pos c1] at h
   by_cases c2 : 0 ≤ q
   ·rw [if_pos c2] at h
    obtain ⟨t, e, h⟩ := ao h
    by_cases c3 : acc.length < 1954687338268
    ·rw [if_pos c3] at h
     refine ih (by omega) _ _ _ _ _ _ _ _ _ _ r Z41 (fun x hx => ?_) hy h
     rcases List.mem_append.1 hx with hx | hx
     ·exact hA x hx
     ·rw [List.mem_singleton] at hx
      subst hx
      exact hT k _ _ _ _ _ t (by omega) e
    ·rw [if_neg c3] at h; cases h
   ·rw [if_neg c2] at h; cases h
  ·rw [if_neg c1] at h
   cases h
   exact .mk _ hy (by show acc.length ≤ _; omega) hA
theorem fit_l0 {s : ByteArray} {m : Nat} (hT : ∀ (k : Nat) (a b c : Int) (ns : List S93) (ks : List S31) (r : Int × ByteArray × List ByteArray × List S25), k ≤ m → aQ.f k s a b c ns ks = some r → Fit ⟨r.1, r.2.1, r.2.2.1, r.2.2.2⟩) :
  ∀ (k : Nat), k ≤ m + 1 → ∀ (q a b c : Int) (ns : List S93) (ks : List S31) (y0 : Int) (y1 : ByteArray) (acc : List ByteArray) (r : Int × ByteArray × List ByteArray × List S25),
  acc.length ≤ 8796093022208 → aQ.l0 k s q a b c ns ks y0 y1 acc = some r → Fit ⟨r.1, r.2.1, r.2.2.1, r.2.2.2⟩ := by
 intro k
 induction k with
 | zero => intro _ q a b c ns ks y0 y1 acc r _ h; rw [aQ.l0] at h; cases h
 | succ k ih =>
  intro hk q a b c ns ks y0 y1 acc r ha h
  rw [aQ.l0] at h
  by_cases c1 : q < (ns.length : Int)
  ·rw [if_pos c1] at h
   by_cases c2 : 0 ≤ q
   ·rw [if_pos c2] at h
    split at h
    ·split at h
     ·split at h
      ·obtain ⟨t, e, h⟩ := ao h
       by_cases c3 : acc.length < 8796093022208
       ·rw [if_pos c3] at h
        exact ih (by omega) _ _ _ _ _ _ _ _ _ r Z41 h
       ·rw [if_neg c3] at h; cases h
      ·cases h
     ·cases h
    ·cases h
   ·rw [if_neg c2] at h; cases h
  ·rw [if_neg c1] at h
   exact fit_l1 hT k (by omega) 0 a b c ns ks y0 y1 acc [] r (by simp) (by simp) ha h
theorem tree_fit {s : ByteArray} : ∀ (m k : Nat) (a b c : Int) (ns : List S93) (ks : List S31) (r : Int × ByteArray × List ByteArray × List S25), k ≤ m → aQ.f k s a b c ns ks = some r → Fit ⟨r.1, r.2.1, r.2.2.1, r.2.2.2⟩ := by
 intro m
 induction m with
 | zero =>
  intro k a b c ns ks r hk h
  obtain rfl : k = 0 := by omega
  rw [aQ.f] at h; cases h
 | succ m ih =>
  intro k a b c ns ks r hk h
  cases k with
  | zero => rw [aQ.f] at h; cases h
  | succ k =>
   have hj : ∀ y1 : ByteArray, aQ.j0 k s a b c ns ks a y1 = some r → Fit ⟨r.1, r.2.1, r.2.2.1, r.2.2.2⟩ := by
    intro y1 h
    cases k with
    | zero => rw [aQ.j0] at h; cases h
    | succ k =>
     rw [aQ.j0] at h
     exact fit_l0 ih k (by omega) 0 a b c ns ks a y1 [] r (by simp) h
   rw [aQ.f] at h
   split at h
   ·split at h
    ·split at h
     ·split at h
      ·exact hj _ h
      ·cases h
     ·cases h
    ·cases h
   ·split at h
    ·split at h
     ·split at h
      ·split at h
       ·obtain ⟨t, e, h⟩ := ao h
        exact hj _ h
       ·cases h
      ·cases h
     ·cases h
    ·exact hj _ h
end
section
def SameOK (t : S25) (K : Nat) : Prop := bG.f K t.f0 t.f1 t.f2 t.f3 t.f0 t.f1 t.f2 t.f3 = some true
theorem rd_25 {ts : List S25} {q : Nat} (h : q < ts.length) : rd_T25 ts (q : Int) = ts[q] := by
 unfold rd_T25; rw [List.getD_eq_getElem?_getD]; simp [h]
theorem same_l1 {ts : List S25} {K : Nat} (hK : ∀ t ∈ ts, ∀ n, SameOK t (K + n)) (hl : ts.length ≤ 8796093022208) (a : Int) (b : ByteArray) (c : List ByteArray) : ∀ (d q k : Nat), q + d = ts.length → K + d + 1 ≤ k →
  bG.l1 k (q : Int) a b c ts a b c ts = some true
 | d, q, 0, _, hk => by omega
 | 0, q, k + 1, hq, hk => by
  rw [bG.l1, if_neg (by omega)]
 | d + 1, q, k + 1, hq, hk => by
  have e := hK ts[q] (List.getElem_mem (by omega)) (k - K)
  rw [show K + (k - K) = k by omega] at e
  unfold SameOK at e
  rw [bG.l1, if_pos (by omega), if_pos (by omega), if_pos (by omega), rd_25 (by omega), e, al, if_pos rfl, w64 (by omega) (by omega)]
  exact same_l1 hK hl a b c d (q + 1) k (by omega) (by omega)
theorem same_l0 {ts : List S25} {K : Nat} (hK : ∀ t ∈ ts, ∀ n, SameOK t (K + n)) (hl : ts.length ≤ 8796093022208) (a : Int) (b : ByteArray) {c : List ByteArray} (hc : c.length ≤ 8796093022208) : ∀ (d q k : Nat), q + d = c.length → K + d + ts.length + 2 ≤ k →
  bG.l0 k (q : Int) a b c ts a b c ts = some true
 | d, q, 0, _, hk => by omega
 | 0, q, k + 1, hq, hk => by
  rw [bG.l0, if_neg (by omega)]
  exact same_l1 hK hl a b c ts.length 0 k (by omega) (by omega)
 | d + 1, q, k + 1, hq, hk => by
  rw [bG.l0, if_pos (by omega), if_pos (by omega), if_pos (by omega), if_pos rfl, w64 (by omega) (by omega)]
  exact same_l0 hK hl a b hc d (q + 1) k (by omega) (by omega)
theorem same_bound : ∀ (l : List S25), (∀ x ∈ l, ∃ K, ∀ n, SameOK x (K + n)) → ∃ K, ∀ x ∈ l, ∀ n, SameOK x (K + n)
 | [], _ => ⟨0, by simp⟩
 | t :: l, h => by
  obtain ⟨K1, h1⟩ := h t (by simp)
  obtain ⟨K2, h2⟩ := same_bound l (fun x hx => h x (by simp [hx]))
  refine ⟨K1 + K2, fun x hx n => ?_⟩
  rcases List.mem_cons.1 hx with rfl | hx
  ·rw [Nat.add_assoc]; exact h1 _
  ·rw [Nat.add_comm K1, Nat.add_assoc]; exact h2 x hx _
theorem same_refl {t : S25} (h : Fit t) : ∃ K, ∀ n, SameOK t (K + n) := by
 induction h with
 | mk t h1 h2 _ ih =>
  obtain ⟨K, hK⟩ := same_bound t.f3 ih
  refine ⟨K + t.f2.length + t.f3.length + 4, fun n => ?_⟩
  unfold SameOK
  rw [show K + t.f2.length + t.f3.length + 4 + n = (K + t.f2.length + t.f3.length + 2 + n) + 1 + 1 by omega, bG.f, if_pos rfl, if_pos rfl, if_pos rfl, bG.j0, if_neg (by simp)]
  exact same_l0 hK h2 t.f0 t.f1 h1 t.f2.length 0 _ (by omega) (by omega)
end
section
def places (V : aI) (k : Nat) (s : ByteArray) : Option (Int × Int × Int × List S93 × List S31 × Bool) :=
 (aE.f k s 0).bind fun b => (V.f k b.1 b.2).bind fun v =>
  if v.2.2.2.2.2.1 = true then (aE.f k v.2.2.2.2.2.2.1 v.2.2.2.2.2.2.2).bind fun c => if c.2 = (s.size : Int) then some (v.1, v.2.1, v.2.2.1, v.2.2.2.1, v.2.2.2.2.1, true) else some (0, 0, 0, [], [], false)
  else some (0, 0, 0, [], [], false)
def PlacesPost (w : World) (r1 r2 r3 : Int) (r4 : List S93) (r5 : List S31) (r6 : Bool) (e : Ending) (w' : World) : Prop :=
 ∃ v3 v4 : Value, e = .returned (.tuple #[.agg #[.int .i64 r1, .int .i64 r2, .int .i64 r3, v3, v4], .bool r6]) ∧ Kd.R k93 93 w' w.heap.size (fun _ => True) v3 r4 ∧
  Kd.R k31 31 w' w.heap.size (fun k_ => some k_ ≠ (v3 : Value).ownBlock) v4 r5 ∧ Below w.heap.size w w'
theorem keep_blk {W W' : World} {g b : Nat} {o : Obj} (hk : KeepBut W W' g none) (h : W.heap[b]? = some o) (hne : b ≠ g) : W'.heap[b]? = some o := by
 rw [hk.2 b (Array.getElem?_eq_some_iff.1 h).1 hne (by simp)]; exact h
theorem r_nil53 (w W : World) : Kd.R k93 93 W w.heap.size (fun _ => True) (.slice none 0 0) [] := Kd.R_nil _ _ _ _ _
theorem r_nil25 (w W : World) : Kd.R k31 31 W w.heap.size (fun k_ => some k_ ≠ (Value.slice none 0 0).ownBlock) (.slice none 0 0) [] := Kd.R_nil _ _ _ _ _
theorem r_puts {α : Type} {d : Kd α} {e : Nat} {W : World} {base : Nat} {ok : Nat → Prop} {v : Value} {xs : List α} (h : Kd.R d e W base ok v xs) {B : Nat} (hB : B < base) (u0 u1 u2 u3 u4 : Value) :
  Kd.R d e (((((W.setCell ⟨B, 0, none⟩ u0).setCell ⟨B, 1, none⟩ u1).setCell ⟨B, 2, none⟩ u2).setCell ⟨B, 3, none⟩ u3).setCell ⟨B, 4, none⟩ u4) base ok v xs := by
 have hh : ∀ k, (ok k ∧ base ≤ k ∧ k < W.heap.size ∧ ∃ q, q ∈ e :: d.E ∧ ∃ cells, W.heap[k]? = some (.cells cells q (0, 0))) → k ≠ B := fun k h => by have := h.2.1; omega
 exact Kd.R_mono (Kd.R_far (p := ⟨B, 4, none⟩) (Kd.R_far (p := ⟨B, 3, none⟩) (Kd.R_far (p := ⟨B, 2, none⟩) (Kd.R_far (p := ⟨B, 1, none⟩) (Kd.R_far (p := ⟨B, 0, none⟩) (Kd.R_bound h) hh u0) hh u1) hh u2) hh u3) hh u4) (fun k h => h.1)
set_option maxHeartbeats 2000000 in
set_option maxRecDepth 100000 in
theorem places_calls (V : aI) (k : Nat) (s : ByteArray) (w : World) (r1 r2 r3 : Int) (r4 : List S93) (r5 : List S31) (r6 : Bool) (h : places V k s = some (r1, r2, r3, r4, r5, r6)) :
  Calls Tryz.prog 7 #[.string s] w (PlacesPost w r1 r2 r3 r4 r5 r6) := by
 unfold places at h
 obtain ⟨⟨s1, at1⟩, h1, h⟩ := ao h
 obtain ⟨⟨y1, y2, y3, y4, y5, y6, s2, at2⟩, h2, h⟩ := ao h
 simp only at h h2
 have H1 := ab h1
 have H2 := ab h2
 clear h1 h2
 have hu25 := Tryz.underlying31
 have hu47 := Tryz.underlying50
 have hB0 : Below w.heap.size w (w.alloc (.cells #[.int .i64 0, .int .i64 0, .int .i64 0, .slice none 0 0, .slice none 0 0] 31)) := below_alloc (Below.refl _ _) _
 have hI0 : IsS50 w ((w.alloc (.cells #[.int .i64 0, .int .i64 0, .int .i64 0, .slice none 0 0, .slice none 0 0] 31)).alloc (.cells #[.string s, .int .i64 0] 50)) (w.heap.size + 1) s 0 := by
  have := IsS50.new w (w.alloc (.cells #[.int .i64 0, .int .i64 0, .int .i64 0, .slice none 0 0, .slice none 0 0] 31)) s 0 hB0
  simpa using this
 have hZ0 : ((w.alloc (.cells #[.int .i64 0, .int .i64 0, .int .i64 0, .slice none 0 0, .slice none 0 0] 31)).alloc (.cells #[.string s, .int .i64 0] 50)).heap[w.heap.size]? = some (.cells #[.int .i64 0, .int .i64 0, .int .i64 0, .slice none 0 0, .slice none 0 0] 31 (0, 0)) := by
  rw [heap_alloc_old _ _ (by simp)]; exact heap_alloc_new w _
 have HI0 := ab hI0
 have HZ0 := ab hZ0
 have HB0 := ab (below_alloc hB0 (.cells #[.string s, .int .i64 0] 50))
 clear hI0 hZ0 hB0
 have H := ab h
 clear h
 go_enter Tryz.func7, Tryz.ntmps7
 go_wp2_with fail
 refine (aE.calls k (w.heap.size + 1) s 0 s1 at1 w _ HI0.out HB0.out H1.out).mono ?_
 rintro e w1 ⟨rfl, hi, hb, hk⟩
 have HI1 := ab hi
 have HB1 := ab hb
 have HZ1 := ab (keep_blk hk HZ0.out (by omega))
 clear hi hb hk HI0 HB0 HZ0
 go_wp2_with fail
 refine (V.calls k (w.heap.size + 1) s1 at1 y1 y2 y3 y4 y5 y6 s2 at2 w _ HI1.out HB1.out H2.out).mono ?_
 rintro e w2 ⟨v3, v4, rfl, ho3, ho4, hi, hb, hk⟩
 have HI2 := ab hi
 have HB2 := ab hb
 have HZ2 := ab (keep_blk hk HZ1.out (by omega))
 have HK2 := ab (show w.heap.size ≤ w1.heap.size from HB1.out.size)
 have HG := ab (show w.heap.size < w1.heap.size from (Array.getElem?_eq_some_iff.1 HZ1.out).1)
 obtain ⟨A3, c3, rfl⟩ := Kd.R_slice ho3
 obtain ⟨A4, c4, rfl⟩ := Kd.R_slice ho4
 have yX := ab ho3
 have rD := ab ho4
 clear hi hb hk HI1 HB1 HZ1 ho3 ho4
 cases y6 with
 | false =>
  have hq := H.out
  simp only [Bool.false_eq_true, if_false, am, an] at hq
  obtain ⟨rfl, rfl, rfl, rfl, rfl, rfl⟩ := hq
  clear H
  have hlt : w.heap.size < w2.heap.size := (Array.getElem?_eq_some_iff.1 HZ2.out).1
  have hcz0 : w2.cell? ⟨w.heap.size, 0, none⟩ = some (.int .i64 0) := (ax HZ2.out 0)
  have hcz1 : w2.cell? ⟨w.heap.size, 1, none⟩ = some (.int .i64 0) := (ax HZ2.out 1)
  have hcz2 : w2.cell? ⟨w.heap.size, 2, none⟩ = some (.int .i64 0) := (ax HZ2.out 2)
  have hcz3 : w2.cell? ⟨w.heap.size, 3, none⟩ = some (.slice none 0 0) := (ax HZ2.out 3)
  have hcz4 : w2.cell? ⟨w.heap.size, 4, none⟩ = some (.slice none 0 0) := (ax HZ2.out 4)
  have hfz0 := blk_frozen HZ2.out 0
  have hfz1 := blk_frozen HZ2.out 1
  have hfz2 := blk_frozen HZ2.out 2
  have hfz3 := blk_frozen HZ2.out 3
  have hfz4 := blk_frozen HZ2.out 4
  go_wp2_with fail
  refine bodyPost_ret (results_ct rfl _ _ w.heap.size 31 #[.int .i64 0, .int .i64 0, .int .i64 0, .slice none 0 0, .slice none 0 0] (0, 0) _ rfl (by refine blk_alloc ?_ _; refine blk_put (cs := #[.int .i64 0, .int .i64 0, .int .i64 0, .slice none 0 0, .slice none 0 0]) ?_ 4 _ rfl; refine blk_put (cs := #[.int .i64 0, .int .i64 0, .int .i64 0, .slice none 0 0, .slice none 0 0]) ?_ 3 _ rfl; refine blk_put (cs := #[.int .i64 0, .int .i64 0, .int .i64 0, .slice none 0 0, .slice none 0 0]) ?_ 2 _ rfl; refine blk_put (cs := #[.int .i64 0, .int .i64 0, .int .i64 0, .slice none 0 0, .slice none 0 0]) ?_ 1 _ rfl; refine blk_put (cs := #[.int .i64 0, .int .i64 0, .int .i64 0, .slice none 0 0, .slice none 0 0]) ?_ 0 _ rfl; exact HZ2.out) Tryz.underlying31 rfl (by kernel_rfl)) rfl ?_
  exact ⟨_, _, rfl, r_nil53 _ _, r_nil25 _ _, (by repeat (first | exact HB2.out | apply below_alloc | refine below_set ?_ (Nat.le_refl _)))⟩
 | true =>
  have hq := H.out
  clear H
  rw [if_pos rfl] at hq
  obtain ⟨⟨s3, at3⟩, h3, hq⟩ := ao hq
  simp only at hq
  have H3 := ab h3
  clear h3
  have HR := ab hq
  clear hq
  have HI2' := ab (IsS50.alloc HI2.out (.cells #[.int .i64 y1, .int .i64 y2, .int .i64 y3, .slice A3 y4.length c3, .slice A4 y5.length c4] 31))
  have HB2' := ab (below_alloc HB2.out (.cells #[.int .i64 y1, .int .i64 y2, .int .i64 y3, .slice A3 y4.length c3, .slice A4 y5.length c4] 31))
  have HZ2' := ab (blk_alloc HZ2.out (.cells #[.int .i64 y1, .int .i64 y2, .int .i64 y3, .slice A3 y4.length c3, .slice A4 y5.length c4] 31))
  have HP2' := ab (heap_alloc_new w2 (.cells #[.int .i64 y1, .int .i64 y2, .int .i64 y3, .slice A3 y4.length c3, .slice A4 y5.length c4] 31))
  have HO3' := ab (Kd.R_alloc yX.out (.cells #[.int .i64 y1, .int .i64 y2, .int .i64 y3, .slice A3 y4.length c3, .slice A4 y5.length c4] 31))
  have HO4' := ab (Kd.R_alloc rD.out (.cells #[.int .i64 y1, .int .i64 y2, .int .i64 y3, .slice A3 y4.length c3, .slice A4 y5.length c4] 31))
  clear HI2 HB2 HZ2 yX rD
  go_wp2_with fail
  refine (aE.calls k (w.heap.size + 1) s2 at2 s3 at3 w _ HI2'.out HB2'.out H3.out).mono ?_
  rintro e w3 ⟨rfl, hi, hb, hk⟩
  have HI3 := ab hi
  have HB3 := ab hb
  have HZ3 := ab (keep_blk hk HZ2'.out (by omega))
  have HP3 := ab (keep_blk hk HP2'.out (fun e => by have h1 := HI2'.out.1; rw [← e, HP2'.out] at h1; simp at h1))
  have yX := ab (Kd.R_mono (Kd.R_keep (Kd.R_types HO3'.out HI2'.out.1 (by decide)) hk (fun _ h => h.2)) (fun _ h => h.1))
  have rD := ab (Kd.R_mono (Kd.R_keep (Kd.R_types HO4'.out HI2'.out.1 (by decide)) hk (fun _ h => h.2)) (fun _ h => h.1))
  clear hi hb hk HI2' HB2' HZ2' HP2' HO3' HO4'
  have hcg1 := cellS50_1 HI3.out.1
  by_cases hc : at3 = (s.size : Int)
  ·have hq := HR.out
   rw [if_pos hc] at hq
   simp only [am, an] at hq
   obtain ⟨rfl, rfl, rfl, rfl, rfl, rfl⟩ := hq
   clear HR
   have hcb : (at3 != (s.size : Int)) = false := ak hc
   clear hc
   have hlt : w.heap.size < w3.heap.size := (Array.getElem?_eq_some_iff.1 HZ3.out).1
   have hcz0 : w3.cell? ⟨w.heap.size, 0, none⟩ = some (.int .i64 0) := (ax HZ3.out 0)
   have hcz1 : w3.cell? ⟨w.heap.size, 1, none⟩ = some (.int .i64 0) := (ax HZ3.out 1)
   have hcz2 : w3.cell? ⟨w.heap.size, 2, none⟩ = some (.int .i64 0) := (ax HZ3.out 2)
   have hcz3 : w3.cell? ⟨w.heap.size, 3, none⟩ = some (.slice none 0 0) := (ax HZ3.out 3)
   have hcz4 : w3.cell? ⟨w.heap.size, 4, none⟩ = some (.slice none 0 0) := (ax HZ3.out 4)
   have hfz0 := blk_frozen HZ3.out 0
   have hfz1 := blk_frozen HZ3.out 1
   have hfz2 := blk_frozen HZ3.out 2
   have hfz3 := blk_frozen HZ3.out 3
   have hfz4 := blk_frozen HZ3.out 4
   have hlp : w2.heap.size < w3.heap.size := (Array.getElem?_eq_some_iff.1 HP3.out).1
   have hcp0 : w3.cell? ⟨w2.heap.size, 0, none⟩ = some (.int .i64 y1) := (ax HP3.out 0)
   have hcp1 : w3.cell? ⟨w2.heap.size, 1, none⟩ = some (.int .i64 y2) := (ax HP3.out 1)
   have hcp2 : w3.cell? ⟨w2.heap.size, 2, none⟩ = some (.int .i64 y3) := (ax HP3.out 2)
   have hcp3 : w3.cell? ⟨w2.heap.size, 3, none⟩ = some (.slice A3 y4.length c3) := (ax HP3.out 3)
   have hcp4 : w3.cell? ⟨w2.heap.size, 4, none⟩ = some (.slice A4 y5.length c4) := (ax HP3.out 4)
   go_wp2_with fail
   refine bodyPost_ret (results_ct rfl _ _ w.heap.size 31 #[.int .i64 y1, .int .i64 y2, .int .i64 y3, .slice A3 y4.length c3, .slice A4 y5.length c4] (0, 0) _ rfl (by refine blk_put (cs := #[.int .i64 y1, .int .i64 y2, .int .i64 y3, .slice A3 y4.length c3, .slice none 0 0]) ?_ 4 _ rfl; refine blk_put (cs := #[.int .i64 y1, .int .i64 y2, .int .i64 y3, .slice none 0 0, .slice none 0 0]) ?_ 3 _ rfl; refine blk_put (cs := #[.int .i64 y1, .int .i64 y2, .int .i64 0, .slice none 0 0, .slice none 0 0]) ?_ 2 _ rfl; refine blk_put (cs := #[.int .i64 y1, .int .i64 0, .int .i64 0, .slice none 0 0, .slice none 0 0]) ?_ 1 _ rfl; refine blk_put (cs := #[.int .i64 0, .int .i64 0, .int .i64 0, .slice none 0 0, .slice none 0 0]) ?_ 0 _ rfl; exact HZ3.out) Tryz.underlying31 rfl (by kernel_rfl)) rfl ?_
   exact ⟨_, _, rfl, Kd.R_lower (r_puts yX.out (Nat.lt_of_lt_of_le HG.out (Nat.le_refl _)) _ _ _ _ _) HK2.out, Kd.R_lower (r_puts rD.out (Nat.lt_of_lt_of_le HG.out (Nat.le_refl _)) _ _ _ _ _) HK2.out, (by repeat (first | exact HB3.out | refine below_set ?_ (Nat.le_refl _)))⟩
  ·have hq := HR.out
   rw [if_neg hc] at hq
   simp only [am, an] at hq
   obtain ⟨rfl, rfl, rfl, rfl, rfl, rfl⟩ := hq
   clear HR
   have hcb : (at3 != (s.size : Int)) = true := aj hc
   clear hc
   have hlt : w.heap.size < w3.heap.size := (Array.getElem?_eq_some_iff.1 HZ3.out).1
   have hcz0 : w3.cell? ⟨w.heap.size, 0, none⟩ = some (.int .i64 0) := (ax HZ3.out 0)
   have hcz1 : w3.cell? ⟨w.heap.size, 1, none⟩ = some (.int .i64 0) := (ax HZ3.out 1)
   have hcz2 : w3.cell? ⟨w.heap.size, 2, none⟩ = some (.int .i64 0) := (ax HZ3.out 2)
   have hcz3 : w3.cell? ⟨w.heap.size, 3, none⟩ = some (.slice none 0 0) := (ax HZ3.out 3)
   have hcz4 : w3.cell? ⟨w.heap.size, 4, none⟩ = some (.slice none 0 0) := (ax HZ3.out 4)
   have hfz0 := blk_frozen HZ3.out 0
   have hfz1 := blk_frozen HZ3.out 1
   have hfz2 := blk_frozen HZ3.out 2
   have hfz3 := blk_frozen HZ3.out 3
   have hfz4 := blk_frozen HZ3.out 4
   go_wp2_with fail
   refine bodyPost_ret (results_ct rfl _ _ w.heap.size 31 #[.int .i64 0, .int .i64 0, .int .i64 0, .slice none 0 0, .slice none 0 0] (0, 0) _ rfl (by refine blk_put (cs := #[.int .i64 0, .int .i64 0, .int .i64 0, .slice none 0 0, .slice none 0 0]) ?_ 4 _ rfl; refine blk_put (cs := #[.int .i64 0, .int .i64 0, .int .i64 0, .slice none 0 0, .slice none 0 0]) ?_ 3 _ rfl; refine blk_put (cs := #[.int .i64 0, .int .i64 0, .int .i64 0, .slice none 0 0, .slice none 0 0]) ?_ 2 _ rfl; refine blk_put (cs := #[.int .i64 0, .int .i64 0, .int .i64 0, .slice none 0 0, .slice none 0 0]) ?_ 1 _ rfl; refine blk_put (cs := #[.int .i64 0, .int .i64 0, .int .i64 0, .slice none 0 0, .slice none 0 0]) ?_ 0 _ rfl; exact HZ3.out) Tryz.underlying31 rfl (by kernel_rfl)) rfl ?_
   exact ⟨_, _, rfl, r_nil53 _ _, r_nil25 _ _, (by repeat (first | exact HB3.out | refine below_set ?_ (Nat.le_refl _)))⟩
end
section
theorem win_ext {s : ByteArray} (hn : Small s) {a b : Int} (h0 : 0 ≤ a) (h1 : a ≤ b) (h2 : b ≤ s.size) : Win s (s.extract a.toNat b.toNat) a 0 (b - a) := by
 have hn' : s.size ≤ 1048576 := hn
 have hz : (s.extract a.toNat b.toNat).size = (b - a).toNat := Z34
 refine ⟨hn, ?_, by omega, by omega, by omega, by omega, fun q a1 a2 => ?_⟩
 ·show (s.extract a.toNat b.toNat).size ≤ 1048576
  omega
 ·rw [bt_ext a1 (by omega) (by omega), show ((a.toNat : Nat) : Int) + q = q + a by omega]
theorem places_raw {s : ByteArray} (hn : Small s) {D D' : Nat} (hD : D ≤ D') {p : S31} (hp : VR (aA.at_ D) s p) (h1 : p.f1 < p.f2) (h2 : p.f2 ≤ s.size) (hst : ¬ NumCh (at0 s p.f2)) :
  ∃ K, ∀ n, places (aA.at_ D') (K + n) (s.extract p.f1.toNat p.f2.toNat) = some (p.f0, p.f1 - p.f1, p.f2 - p.f1, p.f3.map (shn p.f1), shs p.f1 p.f4, true) := by
 have h0 := hp.1
 have hw := win_ext hn h0 (Int.le_of_lt h1) h2
 have hf := first_at hn D p hp (by omega)
 have hn' : s.size ≤ 1048576 := hn
 have hz : (s.extract p.f1.toNat p.f2.toNat).size = (p.f2 - p.f1).toNat := Z34
 obtain ⟨s', hs'⟩ : ∃ s', s.extract p.f1.toNat p.f2.toNat = s' := ⟨_, rfl⟩
 rw [hs'] at hw hz ⊢
 obtain ⟨K, g⟩ := value_mv hw D D' hD p hp (by omega) h1 (Int.le_refl _) hst (by rw [at0_zero (by omega)]; unfold NumCh; omega)
 rw [show p.f1 - p.f1 = 0 by omega] at g ⊢
 have e0 : bt s' 0 = bt s p.f1 := by rw [hw.eq 0 (by omega) (by omega), show (0 : Int) + p.f1 = p.f1 by omega]
 have b1 := blanks_fwd hw.sm' (i := 0) (j := 0) (by omega) ⟨by omega, by omega, fun q a b => by omega⟩ (fun h => hf.1 (by rw [← e0]; exact h.2))
 have b2 := blanks_fwd hw.sm' (i := p.f2 - p.f1) (j := p.f2 - p.f1) (by omega) ⟨by omega, by omega, fun q a b => by omega⟩ (fun h => by have := h.1; omega)
 refine ⟨K + s'.size + 1, fun n => ?_⟩
 unfold places
 rw [show K + s'.size + 1 + n = s'.size + 1 + (K + n) by omega, b1, al]
 dsimp only
 rw [show s'.size + 1 + (K + n) = K + (s'.size + 1 + n) by omega, g, al]
 dsimp only
 rw [if_pos rfl, show K + (s'.size + 1 + n) = s'.size + 1 + (K + n) by omega, b2, al, if_pos (by omega)]
end
section
theorem read_raw {s : ByteArray} (hn : Small s) {D D' : Nat} (hD : D ≤ D') {Vp : cH} (hV : ∀ k t, Vp.f k t = places (aA.at_ D') k t) {p : S31} (hp : VR (aA.at_ D) s p) (h1 : p.f1 < p.f2) (h2 : p.f2 ≤ s.size) (hst : ¬ NumCh (at0 s p.f2))
  {K0 : Nat} {r : Int × ByteArray × List ByteArray × List S25} (hT : ∀ n, aQ.f (K0 + n) s p.f0 p.f1 p.f2 p.f3 p.f4 = some r) :
  ∃ K, ∀ n, dA.f Vp (K + n) (s.extract p.f1.toNat p.f2.toNat) = some (r.1, r.2.1, r.2.2.1, r.2.2.2, true) := by
 have h0 := hp.1
 obtain ⟨K, g⟩ := places_raw hn hD hp h1 h2 hst
 have hw := win_ext hn h0 (Int.le_of_lt h1) h2
 have ht := tree_mv hw D p hp (by omega) h1 (Int.le_refl _)
 refine ⟨K + K0, fun n => ?_⟩
 unfold dA.f
 rw [hV, show K + K0 + n = K + (K0 + n) by omega, g, al]
 dsimp only
 rw [if_pos rfl, ht, show K + (K0 + n) = K0 + (K + n) by omega, hT, al]
end
section
attribute [local go_sem] max2_int min2_int max_two min_two max_three min_three max_four min_four
set_option linter.unusedSimpArgs false
def cD.f (bU : cH) (k : Nat) (a0_0 : Int) (a0_1 : ByteArray) (a0_2 : ByteArray) (a0_3 : Nat) (a0_4 : Bool) (a1_0 : Int) (a1_1 : ByteArray) (l1_2 : List ByteArray) (l1_3 : List (S25)) : Option (Bool) := (dA.f bU k a0_1).bind fun bt468 => (if bt468.2.2.2.2 = true then (if a0_4 = true then ((bR.f a1_0).bind fun vP => (if a0_0 = vP then ((bG.f k bt468.1 bt468.2.1 bt468.2.2.1 bt468.2.2.2.1 a1_0 a1_1 l1_2 l1_3).bind fun Bc => (if Bc = true then (if a1_0 = 4 then (some (a0_2.toList == a1_1.toList)) else (some true)) else (none))) else (none))) else (none)) else (none))
def cD.T2 : Bool × List (List Nat × List Nat) := (true, [([], []), ([0], [0]), ([1], [1]), ([2], [2]), ([3, 2], [2, 3]), ([4, 2], [2, 4]), ([2, 5], [2, 5]), ([6, 2], [6]), ([7], [7]), ([8, 7], [7, 8]), ([7], [7]), ([10, 7], [7, 10]), ([11, 7, 7], [7, 11]), ([9, 12, 7], [7, 9, 12]), ([7, 13], [7, 13]), ([14, 12], [14]), ([15], [15]), ([15], [15]), ([16, 17, 15, 15], [15, 16, 17]), ([18, 15], [15, 18]), ([15, 19], [15, 19])])
def cD.B2 : List Nat := [0, 1, 3, 7, 15, 31, 63, 127, 255, 511, 255, 1279, 3327, 8191, 16383, 32767, 65535, 65535, 262143, 524287, 1048575]
theorem cD.tab2 : rtab .any (opsOf Tryz.f12 2) = cD.T2 := by kernel_rfl
theorem cD.bits2 : waitsOk cD.T2.2 cD.B2 = true := by kernel_rfl
set_option maxHeartbeats 8000000 in
set_option maxRecDepth 100000 in
theorem cD.calls (bU : cH) (k : Nat) (a0_0 : Int) (a0_1 : ByteArray) (a0_2 : ByteArray) (a0_3 : Nat) (a0_4 : Bool) (a1_0 : Int) (a1_1 : ByteArray) (A1_2 : Option Addr) (c1_2 : Nat) (l1_2 : List ByteArray) (A1_3 : Option Addr) (c1_3 : Nat) (l1_3 : List (S25)) (r : Bool) (w : World) (hr1_2 : Kd.C Kd.string w A1_2 l1_2.length l1_2) (hc1_2 : l1_2.length ≤ c1_2) (hr1_3 : Kd.C k25 w A1_3 l1_3.length l1_3) (hc1_3 : l1_3.length ≤ c1_3) (h : cD.f bU k a0_0 a0_1 a0_2 a0_3 a0_4 a1_0 a1_1 l1_2 l1_3 = some r) :
 Calls Tryz.prog 12 #[.agg #[.int .i64 a0_0, .string a0_1, .string a0_2, .float .f64 a0_3, .bool a0_4], .agg #[.int .i64 a1_0, .string a1_1, .slice A1_2 l1_2.length c1_2, .slice A1_3 l1_3.length c1_3]] w fun e w' => e = .returned (.bool r) ∧ Below w.heap.size w w' := by
 have hu39 := Tryz.underlying39
 have hu25 := Tryz.underlying25
 have tK := ab hr1_2
 have HC1_2 := ab hc1_2
 clear hr1_2 hc1_2
 have nK := ab hr1_3
 have HC1_3 := ab hc1_3
 clear hr1_3 hc1_3
 have HB := ab (Below.refl w.heap.size w)
 have H : ((dA.f bU k a0_1).bind fun bt468 => (if bt468.2.2.2.2 = true then (if a0_4 = true then ((bR.f a1_0).bind fun vP => (if a0_0 = vP then ((bG.f k bt468.1 bt468.2.1 bt468.2.2.1 bt468.2.2.2.1 a1_0 a1_1 l1_2 l1_3).bind fun Bc => (if Bc = true then (if a1_0 = 4 then (some (a0_2.toList == a1_1.toList)) else (some true)) else (none))) else (none))) else (none)) else (none))) = some r := h
 clear h
 revert H; refine bnd ?_; rintro ⟨kX, kY, iR, jF, aqT⟩ A3 H; try dsimp only at H
 replace H := sB H
 obtain ⟨rfl, H⟩ | ⟨rfl, H⟩ := H
 ·replace H := sB H
  obtain ⟨rfl, H⟩ | ⟨rfl, H⟩ := H
  ·revert H; refine bnd ?_; rintro vP A6 H
   revert H; refine sIe1n0_e0n1 (fun iH kM H => ?_) fun iH kM H => ?_
   ·revert H; refine bnd ?_; rintro Bc A8 H
    replace H := sB H
    obtain ⟨rfl, H⟩ | ⟨rfl, H⟩ := H
    ·revert H; refine sIe1n0_e0n1 (fun kC kV H => ?_) fun kC kV H => ?_
     ·focus
      obtain rfl := au H
      go_enter Tryz.func12, Tryz.ntmps12
      try go_wp2_with (first | (refine aw 2 #[.int .i64 a0_0, .string a0_1, .string a0_2, .float .f64 a0_3, .bool true] 39 ?_; intro dL hg w11 hbox hb; have fK := ab (hbox); have Lk : Aside0 (w.heap.size ≤ dL) := ⟨Z16⟩; have Ll : Aside0 (w.heap.size ≤ dL) := ⟨Z16⟩; replace HB := ab (below_step (w := w) zB hb); clear hb hbox hg) | (refine aw 3 #[.int .i64 a1_0, .string a1_1, .slice A1_2 l1_2.length c1_2, .slice A1_3 l1_3.length c1_3] 25 ?_; intro dV hg w12 hbox hb; have gT := ab (hbox); have Lm : Aside0 (w.heap.size ≤ dV) := ⟨Z16⟩; have Ln : Aside0 (w.heap.size ≤ dV) := ⟨Z16⟩; replace HB := ab (below_step (w := w) zB hb); have lM : Aside0 (dL ≠ dV) := ⟨by rw [hg]; exact Nat.ne_of_lt (blk_lt (g := dL) zC)⟩; have lN : Aside0 (dV ≠ dL) := ⟨by rw [hg]; exact Nat.ne_of_gt (blk_lt (g := dL) zC)⟩; replace fK := ab (blk_below (g := dL) zC hb); clear hb hbox hg; have amP := lM.out; have amQ := lN.out; obtain ⟨Aj, Ak, Al, Am, Ti, An, Ao, Ap, Aq, Tj⟩ := cz5 fK.out) | (refine gl 18 (some 10) Tryz.func18 #[.string a0_1] ?_; (with_reducible refine (dA.calls bU k a0_1 kX kY iR jF true _ A3.out).mono ?_); rintro e w15 ⟨v471, v474, rfl, ho0, ho1, hb⟩; refine ⟨_, rfl, ?_⟩; have eY := ab (Kd.R_lower ho0 (below_size zB)); have eZ := ab (Kd.R_lower (Kd.R_newB ho1 (g := dV) zC) (below_size zB)); replace fK := ab (blk_below (g := dL) zC hb); replace gT := ab (blk_below (g := dV) zC hb); replace HB := ab (below_step (w := w) zB hb); clear hb ho0 ho1) | (refine aw 5 #[.int .i64 0, .string (⟨#[]⟩ : ByteArray), .slice none 0 0, .slice none 0 0] 25 ?_; intro cV hg w16 hbox hb; replace eY := ab (Kd.R_below Z49 hb); replace eZ := ab (Kd.R_below (Kd.R_elderB Z48 cV (Nat.le_of_eq hg.symm)) hb); have iD := ab (hbox); have Lo : Aside0 (w.heap.size ≤ cV) := ⟨Z16⟩; have Lp : Aside0 (w.heap.size ≤ cV) := ⟨Z16⟩; replace HB := ab (below_step (w := w) zB hb); have lO : Aside0 (dL ≠ cV) := ⟨by rw [hg]; exact Nat.ne_of_lt (blk_lt (g := dL) zC)⟩; have lP : Aside0 (cV ≠ dL) := ⟨by rw [hg]; exact Nat.ne_of_gt (blk_lt (g := dL) zC)⟩; replace fK := ab (blk_below (g := dL) zC hb); have lQ : Aside0 (dV ≠ cV) := ⟨by rw [hg]; exact Nat.ne_of_lt (blk_lt (g := dV) zC)⟩; have lR : Aside0 (cV ≠ dV) := ⟨by rw [hg]; exact Nat.ne_of_gt (blk_lt (g := dV) zC)⟩; replace gT := ab (blk_below (g := dV) zC hb); clear hb hbox hg; have Lq := lP.out; have Lr := lO.out; have xU := lR.out; have xV := lQ.out; obtain ⟨pD, pE, pF, pG, pH, pI, pJ, pK⟩ := cz4 iD.out; obtain ⟨nL, co20, eo20⟩ := Kd.R_slice eY.out; subst eo20; obtain ⟨pL, co21, eo21⟩ := Kd.R_slice eZ.out; subst eo21))
      generalize hq_ : World.setCell _ _ _ = w22
      replace eY : Aside0 (Kd.R Kd.string 9 w22 w.heap.size (fun _ => True) (.slice nL iR.length co20) iR) := ⟨by subst hq_; (with_reducible repeat (first | apply Kd.R_alloc | apply Kd.R_drewN | apply Kd.R_drew)); exact Kd.R_mono (Kd.R_far (p := ⟨cV, 3, none⟩) (Kd.R_far (p := ⟨cV, 2, none⟩) (Kd.R_far (p := ⟨cV, 1, none⟩) (Kd.R_far (p := ⟨cV, 0, none⟩) (Kd.R_types eY.out iD.out (by decide)) (fun _ hk => hk.2) (.int .i64 kX)) (fun _ hk => hk.2) (.string kY)) (fun _ hk => hk.2) (.slice nL iR.length co20)) (fun _ hk => hk.2) (.slice pL jF.length co21)) (fun _ hk => trivial)⟩
      replace eZ : Aside0 (Kd.R k25 25 w22 w.heap.size (fun k_ => some k_ ≠ (.slice nL iR.length co20 : Value).ownBlock ∧ k_ ≠ dV ∧ k_ ≠ cV) (.slice pL jF.length co21) jF) := ⟨by subst hq_; (with_reducible repeat (first | apply Kd.R_alloc | apply Kd.R_drewN | apply Kd.R_drew)); exact Kd.R_mono (Kd.R_far (p := ⟨cV, 3, none⟩) (Kd.R_far (p := ⟨cV, 2, none⟩) (Kd.R_far (p := ⟨cV, 1, none⟩) (Kd.R_far (p := ⟨cV, 0, none⟩) (Kd.R_mono eZ.out (fun k_ hk => (⟨hk, hk.2⟩ : _ ∧ k_ ≠ cV))) (fun _ hk => hk.2) (.int .i64 kX)) (fun _ hk => hk.2) (.string kY)) (fun _ hk => hk.2) (.slice nL iR.length co20)) (fun _ hk => hk.2) (.slice pL jF.length co21)) (fun _ hk => ⟨hk.1.1.1, ⟨hk.1.1.2, hk.1.2⟩⟩)⟩
      replace fK := sqC (g := dL) hq_ ⟨zC⟩
      replace gT := sqC (g := dV) hq_ ⟨zC⟩
      replace iD : Aside0 (w22.heap[cV]? = some (.cells #[.int .i64 kX, .string kY, .slice nL iR.length co20, .slice pL jF.length co21] 25 (0, 0))) := ⟨by subst hq_; exact zC⟩
      replace HB : Aside0 (Below w.heap.size w w22) := ⟨by subst hq_; exact zB⟩
      clear hq_
      replace eY := ab (Kd.R_drew eY.out)
      replace eZ := ab (Kd.R_drew eZ.out)
      replace fK := ab (blk_drew fK.out)
      replace gT := ab (blk_drew gT.out)
      replace iD := ab (blk_drew iD.out)
      replace HB := ab (below_drew1 HB.out)
      refine st1 21 [] (S := fun w' => G5 w' dL (.int .i64 a0_0) (.string a0_1) (.string a0_2) (.float .f64 a0_3) (.bool true) (G4 w' dV (.int .i64 a1_0) (.string a1_1) (.slice A1_2 l1_2.length c1_2) (.slice A1_3 l1_3.length c1_3) (H4 w' cV (.int .i64 kX) (.string kY) (.slice nL iR.length co20) (.slice pL jF.length co21)))) (fun hHeld => ?_); refine with_tabW cD.tab2 cD.bits2 (fun HT_ HW_ => ?_)
      generalize w22.drew = w23 at eY eZ fK gT iD HB hHeld ⊢
      refine pz 0 13 ?_
      refine pz 1 14 ?_
      refine pz 2 15 ?_
      refine pz 3 16 ?_
      refine tk13 4 17 ?_
      refine pz 5 18 ?_
      refine pz 6 19 ?_
      refine pz 7 20 ?_
      refine pz 8 21 ?_
      refine pz 10 23 ?_
      refine tk13 9 22 ?_
      refine tk13 11 24 ?_
      refine on1 12 (some 25) fun K hK => ?_
      refine goes_ Tryz.func25 (by kernel_rfl) rfl #[.int .i64 a1_0] (by rfl) rfl rfl Z15 ?_
      with_reducible refine (bR.calls a1_0 vP _ A6.out).mono ?_
      rintro e w' ⟨rfl, ⟨nd, rfl⟩⟩
      refine ⟨_, rfl, ?_⟩
      refine hK.out _ _ zS (fun hHeld => ?_)
      clear hK K
      refine norm_ (a' := ?_) ?_ ?_
      rotate_left
      ·show Act.put _ (some 25) _ = _
       simp only [Act.put, ap, aq, ar, i64_w, i32_w]
       rfl
      refine pz 13 26 ?_
      refine pz 14 27 ?_
      refine pz 15 28 ?_
      refine tk13 16 29 ?_
      refine tk13 17 30 ?_
      refine on1 18 (some 31) fun K hK => ?_
      refine goes_ Tryz.func29 (by kernel_rfl) rfl #[.agg #[.int .i64 kX, .string kY, .slice nL iR.length co20, .slice pL jF.length co21], .agg #[.int .i64 a1_0, .string a1_1, .slice A1_2 l1_2.length c1_2, .slice A1_3 l1_3.length c1_3]] (by rfl) rfl rfl Z15 ?_
      with_reducible refine (bG.calls k kX kY _ _ iR _ _ jF a1_0 a1_1 _ _ l1_2 _ _ l1_3 true _ ?side1 ?side2 ?side3 ?side4 ?side5 ?side6 ?side7 ?side8 A8.out).mono ?_
      (case side1 => repeat (first | exact (Kd.R_reads' eY.out).2.2 | (with_reducible refine Kd.C_alloc ?_ _) | (with_reducible refine Kd.C_drewN ?_ _) | (with_reducible refine Kd.C_drew ?_)))
      (case side2 => exact (Kd.R_reads' eY.out).2.1)
      (case side3 => repeat (first | exact (Kd.R_reads' eZ.out).2.2 | (with_reducible refine Kd.C_alloc ?_ _) | (with_reducible refine Kd.C_drewN ?_ _) | (with_reducible refine Kd.C_drew ?_)))
      (case side4 => exact (Kd.R_reads' eZ.out).2.1)
      (case side5 => repeat (first | exact (Kd.C_below tK.out zB) | (with_reducible refine Kd.C_alloc ?_ _) | (with_reducible refine Kd.C_drewN ?_ _) | (with_reducible refine Kd.C_drew ?_)))
      (case side6 => exact HC1_2.out)
      (case side7 => repeat (first | exact (Kd.C_below nK.out zB) | (with_reducible refine Kd.C_alloc ?_ _) | (with_reducible refine Kd.C_drewN ?_ _) | (with_reducible refine Kd.C_drew ?_)))
      (case side8 => exact HC1_3.out)
      rintro e w24 ⟨rfl, hb⟩
      refine ⟨_, rfl, ?_⟩
      replace eY := ab (Kd.R_below Z49 hb)
      replace eZ := ab (Kd.R_below Z48 hb)
      replace fK := ab (blk_below (g := dL) zC hb)
      replace gT := ab (blk_below (g := dV) zC hb)
      replace iD := ab (blk_below (g := cV) zC hb)
      replace HB := ab (below_step (w := w) zB hb)
      try clear hb hk
      refine hK.out _ _ zS (fun hHeld => ?_)
      clear hK K
      refine norm_ (a' := ?_) ?_ ?_
      rotate_left
      ·show Act.put _ (some 31) _ = _
       simp only [Act.put, ap, aq, ar, i64_w, i32_w]
       rfl
      refine pz 19 32 ?_
      refine pz 20 33 ?_
      refine dn1 ?_
      obtain ⟨Tk, Tl, Tm, Tn, To, Tp, Tq, Ts⟩ := cz4 gT.out
      obtain ⟨Tt, Tu, Tv, Tw, Tx, Ty, Tz, Ua, Ub, Uc⟩ := cz5 fK.out
      try go_wp2
      go_ret
      exact ⟨Z8, zB⟩
     focus
      obtain rfl := au H
      go_enter Tryz.func12, Tryz.ntmps12
      try go_wp2_with (first | (refine aw 2 #[.int .i64 a0_0, .string a0_1, .string a0_2, .float .f64 a0_3, .bool true] 39 ?_; intro dL hg w27 hbox hb; have fK := ab (hbox); have Lk : Aside0 (w.heap.size ≤ dL) := ⟨Z16⟩; have Ll : Aside0 (w.heap.size ≤ dL) := ⟨Z16⟩; replace HB := ab (below_step (w := w) zB hb); clear hb hbox hg) | (refine aw 3 #[.int .i64 a1_0, .string a1_1, .slice A1_2 l1_2.length c1_2, .slice A1_3 l1_3.length c1_3] 25 ?_; intro dV hg w28 hbox hb; have gT := ab (hbox); have Lm : Aside0 (w.heap.size ≤ dV) := ⟨Z16⟩; have Ln : Aside0 (w.heap.size ≤ dV) := ⟨Z16⟩; replace HB := ab (below_step (w := w) zB hb); have lM : Aside0 (dL ≠ dV) := ⟨by rw [hg]; exact Nat.ne_of_lt (blk_lt (g := dL) zC)⟩; have lN : Aside0 (dV ≠ dL) := ⟨by rw [hg]; exact Nat.ne_of_gt (blk_lt (g := dL) zC)⟩; replace fK := ab (blk_below (g := dL) zC hb); clear hb hbox hg; have Lc := lM.out; have Ld := lN.out; obtain ⟨tV, tW, tX, tY, Ud, tZ, uA, uB, uC, Ue⟩ := cz5 fK.out) | (refine gl 18 (some 10) Tryz.func18 #[.string a0_1] ?_; (with_reducible refine (dA.calls bU k a0_1 kX kY iR jF true _ A3.out).mono ?_); rintro e w31 ⟨v471, v474, rfl, ho0, ho1, hb⟩; refine ⟨_, rfl, ?_⟩; have eY := ab (Kd.R_lower ho0 (below_size zB)); have eZ := ab (Kd.R_lower (Kd.R_newB ho1 (g := dV) zC) (below_size zB)); replace fK := ab (blk_below (g := dL) zC hb); replace gT := ab (blk_below (g := dV) zC hb); replace HB := ab (below_step (w := w) zB hb); clear hb ho0 ho1) | (refine aw 5 #[.int .i64 0, .string (⟨#[]⟩ : ByteArray), .slice none 0 0, .slice none 0 0] 25 ?_; intro cV hg w32 hbox hb; replace eY := ab (Kd.R_below Z49 hb); replace eZ := ab (Kd.R_below (Kd.R_elderB Z48 cV (Nat.le_of_eq hg.symm)) hb); have iD := ab (hbox); have Lo : Aside0 (w.heap.size ≤ cV) := ⟨Z16⟩; have Lp : Aside0 (w.heap.size ≤ cV) := ⟨Z16⟩; replace HB := ab (below_step (w := w) zB hb); have lO : Aside0 (dL ≠ cV) := ⟨by rw [hg]; exact Nat.ne_of_lt (blk_lt (g := dL) zC)⟩; have lP : Aside0 (cV ≠ dL) := ⟨by rw [hg]; exact Nat.ne_of_gt (blk_lt (g := dL) zC)⟩; replace fK := ab (blk_below (g := dL) zC hb); have lQ : Aside0 (dV ≠ cV) := ⟨by rw [hg]; exact Nat.ne_of_lt (blk_lt (g := dV) zC)⟩; have lR : Aside0 (cV ≠ dV) := ⟨by rw [hg]; exact Nat.ne_of_gt (blk_lt (g := dV) zC)⟩; replace gT := ab (blk_below (g := dV) zC hb); clear hb hbox hg; have Ls := lP.out; have Lt := lO.out; have Lu := lR.out; have Lv := lQ.out; obtain ⟨Bd, Be, Bf, Bg, Bh, Bi, Bj, Bk⟩ := cz4 iD.out; obtain ⟨gZ, co36, eo36⟩ := Kd.R_slice eY.out; subst eo36; obtain ⟨vQ, co37, eo37⟩ := Kd.R_slice eZ.out; subst eo37))
      generalize hq_ : World.setCell _ _ _ = w38
      replace eY : Aside0 (Kd.R Kd.string 9 w38 w.heap.size (fun _ => True) (.slice gZ iR.length co36) iR) := ⟨by subst hq_; (with_reducible repeat (first | apply Kd.R_alloc | apply Kd.R_drewN | apply Kd.R_drew)); exact Kd.R_mono (Kd.R_far (p := ⟨cV, 3, none⟩) (Kd.R_far (p := ⟨cV, 2, none⟩) (Kd.R_far (p := ⟨cV, 1, none⟩) (Kd.R_far (p := ⟨cV, 0, none⟩) (Kd.R_types eY.out iD.out (by decide)) (fun _ hk => hk.2) (.int .i64 kX)) (fun _ hk => hk.2) (.string kY)) (fun _ hk => hk.2) (.slice gZ iR.length co36)) (fun _ hk => hk.2) (.slice vQ jF.length co37)) (fun _ hk => trivial)⟩
      replace eZ : Aside0 (Kd.R k25 25 w38 w.heap.size (fun k_ => some k_ ≠ (.slice gZ iR.length co36 : Value).ownBlock ∧ k_ ≠ dV ∧ k_ ≠ cV) (.slice vQ jF.length co37) jF) := ⟨by subst hq_; (with_reducible repeat (first | apply Kd.R_alloc | apply Kd.R_drewN | apply Kd.R_drew)); exact Kd.R_mono (Kd.R_far (p := ⟨cV, 3, none⟩) (Kd.R_far (p := ⟨cV, 2, none⟩) (Kd.R_far (p := ⟨cV, 1, none⟩) (Kd.R_far (p := ⟨cV, 0, none⟩) (Kd.R_mono eZ.out (fun k_ hk => (⟨hk, hk.2⟩ : _ ∧ k_ ≠ cV))) (fun _ hk => hk.2) (.int .i64 kX)) (fun _ hk => hk.2) (.string kY)) (fun _ hk => hk.2) (.slice gZ iR.length co36)) (fun _ hk => hk.2) (.slice vQ jF.length co37)) (fun _ hk => ⟨hk.1.1.1, ⟨hk.1.1.2, hk.1.2⟩⟩)⟩
      replace fK := sqC (g := dL) hq_ ⟨zC⟩
      replace gT := sqC (g := dV) hq_ ⟨zC⟩
      replace iD : Aside0 (w38.heap[cV]? = some (.cells #[.int .i64 kX, .string kY, .slice gZ iR.length co36, .slice vQ jF.length co37] 25 (0, 0))) := ⟨by subst hq_; exact zC⟩
      replace HB : Aside0 (Below w.heap.size w w38) := ⟨by subst hq_; exact zB⟩
      clear hq_
      replace eY := ab (Kd.R_drew eY.out)
      replace eZ := ab (Kd.R_drew eZ.out)
      replace fK := ab (blk_drew fK.out)
      replace gT := ab (blk_drew gT.out)
      replace iD := ab (blk_drew iD.out)
      replace HB := ab (below_drew1 HB.out)
      refine st1 21 [] (S := fun w' => G5 w' dL (.int .i64 a0_0) (.string a0_1) (.string a0_2) (.float .f64 a0_3) (.bool true) (G4 w' dV (.int .i64 a1_0) (.string a1_1) (.slice A1_2 l1_2.length c1_2) (.slice A1_3 l1_3.length c1_3) (H4 w' cV (.int .i64 kX) (.string kY) (.slice gZ iR.length co36) (.slice vQ jF.length co37)))) (fun hHeld => ?_); refine with_tabW cD.tab2 cD.bits2 (fun HT_ HW_ => ?_)
      generalize w38.drew = w39 at eY eZ fK gT iD HB hHeld ⊢
      refine pz 0 13 ?_
      refine pz 1 14 ?_
      refine pz 2 15 ?_
      refine pz 3 16 ?_
      refine tk13 4 17 ?_
      refine pz 5 18 ?_
      refine pz 6 19 ?_
      refine pz 7 20 ?_
      refine pz 8 21 ?_
      refine pz 10 23 ?_
      refine tk13 9 22 ?_
      refine tk13 11 24 ?_
      refine on1 12 (some 25) fun K hK => ?_
      refine goes_ Tryz.func25 (by kernel_rfl) rfl #[.int .i64 a1_0] (by rfl) rfl rfl Z15 ?_
      with_reducible refine (bR.calls a1_0 vP _ A6.out).mono ?_
      rintro e w' ⟨rfl, ⟨nd, rfl⟩⟩
      refine ⟨_, rfl, ?_⟩
      refine hK.out _ _ zS (fun hHeld => ?_)
      clear hK K
      refine norm_ (a' := ?_) ?_ ?_
      rotate_left
      ·show Act.put _ (some 25) _ = _
       simp only [Act.put, ap, aq, ar, i64_w, i32_w]
       rfl
      refine pz 13 26 ?_
      refine pz 14 27 ?_
      refine pz 15 28 ?_
      refine tk13 16 29 ?_
      refine tk13 17 30 ?_
      refine on1 18 (some 31) fun K hK => ?_
      refine goes_ Tryz.func29 (by kernel_rfl) rfl #[.agg #[.int .i64 kX, .string kY, .slice gZ iR.length co36, .slice vQ jF.length co37], .agg #[.int .i64 a1_0, .string a1_1, .slice A1_2 l1_2.length c1_2, .slice A1_3 l1_3.length c1_3]] (by rfl) rfl rfl Z15 ?_
      with_reducible refine (bG.calls k kX kY _ _ iR _ _ jF a1_0 a1_1 _ _ l1_2 _ _ l1_3 true _ ?side1 ?side2 ?side3 ?side4 ?side5 ?side6 ?side7 ?side8 A8.out).mono ?_
      (case side1 => repeat (first | exact (Kd.R_reads' eY.out).2.2 | (with_reducible refine Kd.C_alloc ?_ _) | (with_reducible refine Kd.C_drewN ?_ _) | (with_reducible refine Kd.C_drew ?_)))
      (case side2 => exact (Kd.R_reads' eY.out).2.1)
      (case side3 => repeat (first | exact (Kd.R_reads' eZ.out).2.2 | (with_reducible refine Kd.C_alloc ?_ _) | (with_reducible refine Kd.C_drewN ?_ _) | (with_reducible refine Kd.C_drew ?_)))
      (case side4 => exact (Kd.R_reads' eZ.out).2.1)
      (case side5 => repeat (first | exact (Kd.C_below tK.out zB) | (with_reducible refine Kd.C_alloc ?_ _) | (with_reducible refine Kd.C_drewN ?_ _) | (with_reducible refine Kd.C_drew ?_)))
      (case side6 => exact HC1_2.out)
      (case side7 => repeat (first | exact (Kd.C_below nK.out zB) | (with_reducible refine Kd.C_alloc ?_ _) | (with_reducible refine Kd.C_drewN ?_ _) | (with_reducible refine Kd.C_drew ?_)))
      (case side8 => exact HC1_3.out)
      rintro e w40 ⟨rfl, hb⟩
      refine ⟨_, rfl, ?_⟩
      replace eY := ab (Kd.R_below Z49 hb)
      replace eZ := ab (Kd.R_below Z48 hb)
      replace fK := ab (blk_below (g := dL) zC hb)
      replace gT := ab (blk_below (g := dV) zC hb)
      replace iD := ab (blk_below (g := cV) zC hb)
      replace HB := ab (below_step (w := w) zB hb)
      try clear hb hk
      refine hK.out _ _ zS (fun hHeld => ?_)
      clear hK K
      refine norm_ (a' := ?_) ?_ ?_
      rotate_left
      ·show Act.put _ (some 31) _ = _
       simp only [Act.put, ap, aq, ar, i64_w, i32_w]
       rfl
      refine pz 19 32 ?_
      refine pz 20 33 ?_
      refine dn1 ?_
      obtain ⟨sW, sX, sY, sZ, tA, tB, tC, tD⟩ := cz4 gT.out
      try go_wp2
      go_ret
      exact ⟨Z8, zB⟩
    exact absurd H (by simp)
   exact absurd H (by simp)
  exact absurd H (by simp)
 exact absurd H (by simp)
end
section
theorem gjis_true {Vp : cH} {K1 num : Nat} {raw str : ByteArray} {ty : Int} {t : S25} (hr : ∀ n, dA.f Vp (K1 + n) raw = some (t.f0, t.f1, t.f2, t.f3, true)) (hF : Fit t) (hk : bR.f t.f0 = some ty) (hs : t.f0 = 4 → str = t.f1) :
  ∃ K, ∀ n, cD.f Vp (K + n) ty raw str num true t.f0 t.f1 t.f2 t.f3 = some true := by
 obtain ⟨K2, h2⟩ := same_refl hF
 refine ⟨K1 + K2, fun n => ?_⟩
 have e2 := h2 (K1 + n)
 unfold SameOK at e2
 unfold cD.f
 rw [show K1 + K2 + n = K1 + (K2 + n) by omega, hr, al]
 dsimp only
 rw [if_pos rfl, if_pos rfl, hk, al, if_pos rfl, show K1 + (K2 + n) = K2 + (K1 + n) by omega, e2, al, if_pos rfl]
 by_cases c : t.f0 = 4
 ·rw [if_pos c, hs c]; simp
 ·rw [if_neg c]
end
end Go.Proofs.YtkjnahgicfmicaaGreatDoor.Sp

import Derived.Test.YtkjnahgicfmicaaGreatDoorZip
import Derived.Test.YtkjnahgicfmicaaGreatDoorQt
import Derived.Test.YtkjnahgicfmicaaGreatDoorSpx7
import Derived.Test.YtkjnahgicfmicaaGreatDoorQa
import Derived.Test.YtkjnahgicfmicaaGreatDoorSpx5
namespace Go.Proofs.YtkjnahgicfmicaaGreatDoor.Sp
open Go.RowKit Go.PW Go.PL Go.PM
set_option linter.unusedVariables false
section
variable {s s' : av} {d lo hi : Int}
theorem Win.ext (hw : Win s s' d lo hi) {a b : Int} (h0 : lo ≤ a - d) (h1 : a ≤ b) (h2 : b - d ≤ hi) : s'.extract (a - d).toNat (b - d).toNat = s.extract a.toNat b.toNat := by
 have z0 := hw.lo0; have z1 := hw.lod; have z2 := hw.hi'; have z3 := hw.hid
 have e1 : (s'.extract (a - d).toNat (b - d).toNat).size = (b - a).toNat := Z34
 have e2 : (s.extract a.toNat b.toNat).size = (b - a).toNat := Z34
 apply ByteArray.ext_getElem (e1.trans e2.symm)
 intro q hq hq'
 apply UInt8.toNat_inj.mp
 have b1 := bt_at (s'.extract (a - d).toNat (b - d).toNat) (q : Int) (by rw [Int.toNat_natCast]; exact hq)
 have b2 := bt_at (s.extract a.toNat b.toNat) (q : Int) (by rw [Int.toNat_natCast]; exact hq')
 rw [bt_ext (by omega) (by omega) (by omega), show (((a - d).toNat : Nat) : Int) + (q : Int) = a - d + q by omega, hw.eq _ (by omega) (by omega), show a - d + (q : Int) + d = a + q by omega] at b1
 rw [bt_ext (by omega) (by omega) (by omega), show ((a.toNat : Nat) : Int) + (q : Int) = a + q by omega] at b2
 simp only [Int.toNat_natCast] at b1 b2
 omega
theorem Kids.within {V : aE} {ks : List S31} {i j : Int} (h : Kids V s ks i j) : ∀ p ∈ ks, VR V s p ∧ i ≤ p.f1 ∧ p.f1 < p.f2 ∧ p.f2 ≤ j := by
 induction h with
 | last p i r h1 h2 h3 h4 h5 h6 =>
  intro q hq
  have := h4.1
  simp only [List.mem_singleton] at hq
  subst hq
  exact ⟨h1, by omega, h3, by omega⟩
 | more p i r t j ks h1 h2 h3 h4 h5 h6 h7 h8 ih =>
  intro q hq
  have l4 := h4.1; have l7 := h7.1; have l8 := h8.num
  rcases List.mem_cons.1 hq with rfl | hq
  ·exact ⟨h1, by omega, h3, by omega⟩
  ·obtain ⟨a, b, c, e⟩ := ih q hq
   exact ⟨a, by omega, c, e⟩
theorem Mems.within {V : aE} {ns : List S93} {ks : List S31} {i j : Int} (h : Mems V s ns ks i j) : (∀ p ∈ ks, VR V s p ∧ i ≤ p.f1 ∧ p.f1 < p.f2 ∧ p.f2 ≤ j) ∧ ∀ x ∈ ns, i ≤ x.f0 ∧ x.f0 ≤ x.f1 ∧ x.f1 ≤ j := by
 induction h with
 | last nm p i c r h1 h2 h3 h4 h5 h6 h7 h8 h9 h10 h11 =>
  have l2 := h2.2.1; have l3 := h3.1; have l6 := h6.1; have l9 := h9.1
  refine ⟨fun q hq => ?_, fun q hq => ?_⟩
  ·simp only [List.mem_singleton] at hq
   subst hq
   exact ⟨h7, by omega, h8, by omega⟩
  ·simp only [List.mem_singleton] at hq
   subst hq
   exact ⟨by omega, by omega, by omega⟩
 | more nm p i c r t j ns ks h1 h2 h3 h4 h5 h6 h7 h8 h9 h10 h11 h12 h13 ih =>
  have l2 := h2.2.1; have l3 := h3.1; have l6 := h6.1; have l9 := h9.1; have l12 := h12.1; have l13 := h13.num
  refine ⟨fun q hq => ?_, fun q hq => ?_⟩
  ·rcases List.mem_cons.1 hq with rfl | hq
   ·exact ⟨h7, by omega, h8, by omega⟩
   ·obtain ⟨a, b, c, e⟩ := ih.1 q hq
    exact ⟨a, by omega, c, e⟩
  ·rcases List.mem_cons.1 hq with rfl | hq
   ·exact ⟨by omega, by omega, by omega⟩
   ·obtain ⟨a, b, c⟩ := ih.2 q hq
    exact ⟨by omega, b, c⟩
theorem valo_within {V : aE} {kd i j : Int} {ns : List S93} {ks : List S31} (h : ValO V s kd i j ns ks) (h0 : 0 ≤ i) : (∀ p ∈ ks, VR V s p ∧ i ≤ p.f1 ∧ p.f1 < p.f2 ∧ p.f2 ≤ j) ∧ ∀ x ∈ ns, i ≤ x.f0 ∧ x.f0 ≤ x.f1 ∧ x.f1 ≤ j := by
 rcases h with ⟨_, _, ⟨rfl, rfl, _⟩ | ⟨p, hb, hm⟩⟩ | ⟨_, rfl, _, ⟨rfl, _⟩ | ⟨p, hb, hm⟩⟩ | ⟨_, rfl, rfl, _⟩ | ⟨_, rfl, rfl, _⟩ | ⟨rfl, rfl, _⟩
 ·exact ⟨by simp, by simp⟩
 ·have := hb.1
  obtain ⟨a, b⟩ := hm.within
  exact ⟨fun q hq => by obtain ⟨x, y, z, u⟩ := a q hq; exact ⟨x, by omega, z, u⟩, fun q hq => by obtain ⟨x, y, z⟩ := b q hq; exact ⟨by omega, y, z⟩⟩
 ·exact ⟨by simp, by simp⟩
 ·have := hb.1
  exact ⟨fun q hq => by obtain ⟨x, y, z, u⟩ := hm.within q hq; exact ⟨x, by omega, z, u⟩, by simp⟩
 all_goals exact ⟨by simp, by simp⟩
def TreeEq (s s' : av) (d : Int) (p : S31) : Prop := ∀ K, aM.f K s' p.f0 (p.f1 - d) (p.f2 - d) (p.f3.map (shn d)) (shs d p.f4) = aM.f K s p.f0 p.f1 p.f2 p.f3 p.f4
theorem shs_length (ks : List S31) : (shs d ks).length = ks.length := by rw [shs_map, List.length_map]
theorem rd_shs {ks : List S31} {q : Int} (h0 : 0 ≤ q) (h1 : q < ks.length) : ∃ p ∈ ks, rd_T31 ks q = p ∧ rd_T31 (shs d ks) q = sh d p := by
 have hq : q.toNat < ks.length := by omega
 refine ⟨ks[q.toNat], List.getElem_mem hq, ?_, ?_⟩
 ·unfold rd_T31; rw [List.getD_eq_getElem?_getD]; simp [hq]
 ·unfold rd_T31; rw [shs_map, List.getD_eq_getElem?_getD]; simp [hq]
theorem rd_shn {ns : List S93} {q : Int} (h0 : 0 ≤ q) (h1 : q < ns.length) : ∃ p ∈ ns, rd_T93 ns q = p ∧ rd_T93 (ns.map (shn d)) q = shn d p := by
 have hq : q.toNat < ns.length := by omega
 refine ⟨ns[q.toNat], List.getElem_mem hq, ?_, ?_⟩
 ·unfold rd_T93; rw [List.getD_eq_getElem?_getD]; simp [hq]
 ·unfold rd_T93; rw [List.getD_eq_getElem?_getD]; simp [hq]
theorem l1_eq {ks : List S31} (hK : ∀ p ∈ ks, TreeEq s s' d p) (a b c : Int) (ns : List S93) (y0 : Int) (y1 : av) (y2 : List av) : ∀ (k : Nat) (q : Int) (acc : List S25),
  aM.l1 k s' q a (b - d) (c - d) (ns.map (shn d)) (shs d ks) y0 y1 y2 acc = aM.l1 k s q a b c ns ks y0 y1 y2 acc := by
 intro k
 induction k with
 | zero => intro q acc; rw [aM.l1, aM.l1]
 | succ k ih =>
  intro q acc
  rw [aM.l1, aM.l1, shs_length]
  by_cases c1 : q < (ks.length : Int)
  ·rw [if_pos c1, if_pos c1]
   by_cases c2 : 0 ≤ q
   ·rw [if_pos c2, if_pos c2]
    obtain ⟨p, hp, e1, e2⟩ := rd_shs (d := d) c2 c1
    rw [e1, e2, sh_eq]
    dsimp only
    rw [hK p hp k]
    congr 1
    funext bt
    by_cases c3 : acc.length < 1954687338268
    ·rw [if_pos c3, if_pos c3, ih]
    ·rw [if_neg c3, if_neg c3]
   ·rw [if_neg c2, if_neg c2]
  ·rw [if_neg c1, if_neg c1]
theorem l0_eq (hw : Win s s' d lo hi) {ks : List S31} {ns : List S93} (hK : ∀ p ∈ ks, TreeEq s s' d p) (hN : ∀ x ∈ ns, lo ≤ x.f0 - d ∧ x.f0 ≤ x.f1 ∧ x.f1 - d ≤ hi) (a b c : Int) (y0 : Int) (y1 : av) : ∀ (k : Nat) (q : Int) (acc : List av),
  aM.l0 k s' q a (b - d) (c - d) (ns.map (shn d)) (shs d ks) y0 y1 acc = aM.l0 k s q a b c ns ks y0 y1 acc := by
 have z0 := hw.lo0; have z1 := hw.lod; have z2 := hw.hi'; have z3 := hw.hid
 intro k
 induction k with
 | zero => intro q acc; rw [aM.l0, aM.l0]
 | succ k ih =>
  intro q acc
  rw [aM.l0, aM.l0, List.length_map]
  by_cases c1 : q < (ns.length : Int)
  ·rw [if_pos c1, if_pos c1]
   by_cases c2 : 0 ≤ q
   ·rw [if_pos c2, if_pos c2]
    obtain ⟨x, hx, e1, e2⟩ := rd_shn (d := d) c2 c1
    obtain ⟨g1, g2, g3⟩ := hN x hx
    rw [e1, e2]
    unfold shn
    dsimp only
    rw [if_pos (by omega), if_pos (by omega), if_pos (by omega), if_pos (by omega), if_pos (by omega), if_pos (by omega), hw.ext g1 g2 g3]
    congr 1
    funext t
    by_cases c3 : acc.length < 8796093022208
    ·rw [if_pos c3, if_pos c3]
     exact ih _ _
    ·rw [if_neg c3, if_neg c3]
   ·rw [if_neg c2, if_neg c2]
  ·rw [if_neg c1, if_neg c1]
   exact l1_eq hK a b c ns y0 y1 acc k 0 []
theorem tree_mv (hw : Win s s' d lo hi) : ∀ D p, VR (aA.at_ D) s p → lo ≤ p.f1 - d → p.f1 < p.f2 → p.f2 - d ≤ hi → TreeEq s s' d p := by
 intro D
 induction D using Nat.strongRecOn with
 | _ D ih =>
 intro p hp g0 g1 g2 K
 obtain ⟨h0, k, h⟩ := hp
 have z0 := hw.lo0; have z1 := hw.lod; have z2 := hw.hi'; have z3 := hw.hid
 cases D with
 | zero => cases h
 | succ D =>
 obtain ⟨_, _, _, _, hle, hO⟩ := value_known hw.sm D k p.f1 p.f0 p.f1 p.f2 p.f3 p.f4 s p.f2 h0 (by omega) h
 obtain ⟨w1, w2⟩ := valo_within hO h0
 have hK : ∀ q ∈ p.f4, TreeEq s s' d q := fun q hq => by
  obtain ⟨a, b, c, e⟩ := w1 q hq
  exact ih (D - 1) (by omega) q a (by omega) c (by omega)
 have hN : ∀ x ∈ p.f3, lo ≤ x.f0 - d ∧ x.f0 ≤ x.f1 ∧ x.f1 - d ≤ hi := fun x hx => by
  obtain ⟨a, b, c⟩ := w2 x hx
  exact ⟨by omega, b, by omega⟩
 cases K with
 | zero => rw [aM.f, aM.f]
 | succ K =>
  have hj : ∀ y1 : av, aM.j0 K s' p.f0 (p.f1 - d) (p.f2 - d) (p.f3.map (shn d)) (shs d p.f4) p.f0 y1 = aM.j0 K s p.f0 p.f1 p.f2 p.f3 p.f4 p.f0 y1 := by
   intro y1
   cases K with
   | zero => rw [aM.j0, aM.j0]
   | succ K => rw [aM.j0, aM.j0]; exact l0_eq hw hK hN _ _ _ _ _ K 0 []
  rw [aM.f, aM.f, if_pos (show 0 ≤ p.f1 - d by omega), if_pos (show p.f1 - d ≤ p.f2 - d by omega), if_pos (show p.f2 - d ≤ (s'.size : Int) by omega), if_pos h0, if_pos (show p.f1 ≤ p.f2 by omega), if_pos hle, hw.ext g0 (by omega) g2, hj, hj]
  simp only [hj]
  rw [if_pos (show 0 ≤ p.f1 - d by omega), if_pos (show p.f1 - d ≤ p.f2 - d by omega), if_pos (show p.f2 - d ≤ (s'.size : Int) by omega), if_pos h0, if_pos (show p.f1 ≤ p.f2 by omega), if_pos hle]
end
section
attribute [local go_sem] max2_int min2_int max_two min_two max_three min_three max_four min_four
set_option linter.unusedSimpArgs false
end
section
inductive Fit : S25 → Prop
 | mk (t : S25) : t.f2.length ≤ 8796093022208 → t.f3.length ≤ 8796093022208 → (∀ q ∈ t.f3, Fit q) → Fit t
theorem fit_l1 {s : av} {m : Nat} (hT : ∀ (k : Nat) (a b c : Int) (ns : List S93) (ks : List S31) (r : Int × av × List av × List S25), k ≤ m → aM.f k s a b c ns ks = some r → Fit ⟨r.1, r.2.1, r.2.2.1, r.2.2.2⟩) :
  ∀ (k : Nat), k ≤ m + 1 → ∀ (q a b c : Int) (ns : List S93) (ks : List S31) (y0 : Int) (y1 : av) (y2 : List av) (acc : List S25) (r : Int × av × List av × List S25),
  acc.length ≤ 1954687338268 → (∀ x ∈ acc, Fit x) → y2.length ≤ 8796093022208 → aM.l1 k s q a b c ns ks y0 y1 y2 acc = some r → Fit ⟨r.1, r.2.1, r.2.2.1, r.2.2.2⟩ := by
 intro k
 induction k with
 | zero => intro _ q a b c ns ks y0 y1 y2 acc r _ _ _ h; rw [aM.l1] at h; cases h
 | succ k ih =>
  intro hk q a b c ns ks y0 y1 y2 acc r ha hA hy h
  rw [aM.l1] at h
  by_cases c1 : q < (ks.length : Int)
  ·rw [if_pos c1] at h
   by_cases c2 : 0 ≤ q
   ·rw [if_pos c2] at h
    obtain ⟨t, e, h⟩ := ao h
    by_cases c3 : acc.length < 1954687338268
    ·rw [if_pos c3] at h
     refine ih (by omega) _ _ _ _ _ _ _ _ _ _ r Z41 (fun x hx => ?_) hy h
     rcases List.mem_append.1 hx with hx | hx
     ·exact hA x hx
     ·rw [List.mem_singleton] at hx
      subst hx
      exact hT k _ _ _ _ _ t (by omega) e
    ·rw [if_neg c3] at h; cases h
   ·rw [if_neg c2] at h; cases h
  ·rw [if_neg c1] at h
   cases h
   exact .mk _ hy (by show acc.length ≤ _; omega) hA
theorem fit_l0 {s : av} {m : Nat} (hT : ∀ (k : Nat) (a b c : Int) (ns : List S93) (ks : List S31) (r : Int × av × List av × List S25), k ≤ m → aM.f k s a b c ns ks = some r → Fit ⟨r.1, r.2.1, r.2.2.1, r.2.2.2⟩) :
  ∀ (k : Nat), k ≤ m + 1 → ∀ (q a b c : Int) (ns : List S93) (ks : List S31) (y0 : Int) (y1 : av) (acc : List av) (r : Int × av × List av × List S25),
  acc.length ≤ 8796093022208 → aM.l0 k s q a b c ns ks y0 y1 acc = some r → Fit ⟨r.1, r.2.1, r.2.2.1, r.2.2.2⟩ := by
 intro k
 induction k with
 | zero => intro _ q a b c ns ks y0 y1 acc r _ h; rw [aM.l0] at h; cases h
 | succ k ih =>
  intro hk q a b c ns ks y0 y1 acc r ha h
  rw [aM.l0] at h
  by_cases c1 : q < (ns.length : Int)
  ·rw [if_pos c1] at h
   by_cases c2 : 0 ≤ q
   ·rw [if_pos c2] at h
    split at h
    ·split at h
     ·split at h
      ·obtain ⟨t, e, h⟩ := ao h
       by_cases c3 : acc.length < 8796093022208
       ·rw [if_pos c3] at h
        exact ih (by omega) _ _ _ _ _ _ _ _ _ r Z41 h
       ·rw [if_neg c3] at h; cases h
      ·cases h
     ·cases h
    ·cases h
   ·rw [if_neg c2] at h; cases h
  ·rw [if_neg c1] at h
   exact fit_l1 hT k (by omega) 0 a b c ns ks y0 y1 acc [] r (by simp) (by simp) ha h
theorem tree_fit {s : av} : ∀ (m k : Nat) (a b c : Int) (ns : List S93) (ks : List S31) (r : Int × av × List av × List S25), k ≤ m → aM.f k s a b c ns ks = some r → Fit ⟨r.1, r.2.1, r.2.2.1, r.2.2.2⟩ := by
 intro m
 induction m with
 | zero =>
  intro k a b c ns ks r hk h
  obtain rfl : k = 0 := by omega
  rw [aM.f] at h; cases h
 | succ m ih =>
  intro k a b c ns ks r hk h
  cases k with
  | zero => rw [aM.f] at h; cases h
  | succ k =>
   have hj : ∀ y1 : av, aM.j0 k s a b c ns ks a y1 = some r → Fit ⟨r.1, r.2.1, r.2.2.1, r.2.2.2⟩ := by
    intro y1 h
    cases k with
    | zero => rw [aM.j0] at h; cases h
    | succ k =>
     rw [aM.j0] at h
     exact fit_l0 ih k (by omega) 0 a b c ns ks a y1 [] r (by simp) h
   rw [aM.f] at h
   split at h
   ·split at h
    ·split at h
     ·split at h
      ·exact hj _ h
      ·cases h
     ·cases h
    ·cases h
   ·split at h
    ·split at h
     ·split at h
      ·split at h
       ·obtain ⟨t, e, h⟩ := ao h
        exact hj _ h
       ·cases h
      ·cases h
     ·cases h
    ·exact hj _ h
end
section
end
section
def places (V : aE) (k : Nat) (s : av) : Option (Int × Int × Int × List S93 × List S31 × Bool) :=
 (aI.f k s 0).bind fun b => (V.f k b.1 b.2).bind fun v =>
  if v.2.2.2.2.2.1 = true then (aI.f k v.2.2.2.2.2.2.1 v.2.2.2.2.2.2.2).bind fun c => if c.2 = (s.size : Int) then some (v.1, v.2.1, v.2.2.1, v.2.2.2.1, v.2.2.2.2.1, true) else some (0, 0, 0, [], [], false)
  else some (0, 0, 0, [], [], false)
def PlacesPost (w : World) (r1 r2 r3 : Int) (r4 : List S93) (r5 : List S31) (r6 : Bool) (e : Ending) (w' : World) : Prop :=
 ∃ v3 v4 : Value, e = .returned (.tuple #[.agg #[.int .i64 r1, .int .i64 r2, .int .i64 r3, v3, v4], .bool r6]) ∧ Kd.R k93 93 w' w.heap.size (fun _ => True) v3 r4 ∧
  Kd.R k31 31 w' w.heap.size (fun k_ => some k_ ≠ (v3 : Value).ownBlock) v4 r5 ∧ Below w.heap.size w w'
theorem keep_blk {W W' : World} {g b : Nat} {o : Obj} (hk : KeepBut W W' g none) (h : W.heap[b]? = some o) (hne : b ≠ g) : W'.heap[b]? = some o := by
 rw [hk.2 b (Array.getElem?_eq_some_iff.1 h).1 hne (by simp)]; exact h
theorem r_nil53 (w W : World) : Kd.R k93 93 W w.heap.size (fun _ => True) (.slice none 0 0) [] := Kd.R_nil _ _ _ _ _
theorem r_nil25 (w W : World) : Kd.R k31 31 W w.heap.size (fun k_ => some k_ ≠ (Value.slice none 0 0).ownBlock) (.slice none 0 0) [] := Kd.R_nil _ _ _ _ _
theorem r_puts {α : Type} {d : Kd α} {e : Nat} {W : World} {base : Nat} {ok : Nat → Prop} {v : Value} {xs : List α} (h : Kd.R d e W base ok v xs) {B : Nat} (hB : B < base) (u0 u1 u2 u3 u4 : Value) :
  Kd.R d e (((((W.setCell ⟨B, 0, none⟩ u0).setCell ⟨B, 1, none⟩ u1).setCell ⟨B, 2, none⟩ u2).setCell ⟨B, 3, none⟩ u3).setCell ⟨B, 4, none⟩ u4) base ok v xs := by
 have hh : ∀ k, (ok k ∧ base ≤ k ∧ k < W.heap.size ∧ ∃ q, q ∈ e :: d.E ∧ ∃ cells, W.heap[k]? = some (.cells cells q (0, 0))) → k ≠ B := fun k h => by have := h.2.1; omega
 exact Kd.R_mono (Kd.R_far (p := ⟨B, 4, none⟩) (Kd.R_far (p := ⟨B, 3, none⟩) (Kd.R_far (p := ⟨B, 2, none⟩) (Kd.R_far (p := ⟨B, 1, none⟩) (Kd.R_far (p := ⟨B, 0, none⟩) (Kd.R_bound h) hh u0) hh u1) hh u2) hh u3) hh u4) (fun k h => h.1)
set_option maxHeartbeats 2000000 in
set_option maxRecDepth 100000 in
theorem places_calls (V : aE) (k : Nat) (s : av) (w : World) (r1 r2 r3 : Int) (r4 : List S93) (r5 : List S31) (r6 : Bool) (h : places V k s = some (r1, r2, r3, r4, r5, r6)) :
  Calls Tryz.prog 7 #[.string s] w (PlacesPost w r1 r2 r3 r4 r5 r6) := by
 unfold places at h
 obtain ⟨⟨s1, at1⟩, h1, h⟩ := ao h
 obtain ⟨⟨y1, y2, y3, y4, y5, y6, s2, at2⟩, h2, h⟩ := ao h
 simp only at h h2
 have H1 := ab h1
 have H2 := ab h2
 clear h1 h2
 have hu25 := Tryz.underlying31
 have hu47 := Tryz.underlying50
 have hB0 : Below w.heap.size w (w.alloc (.cells #[.int .i64 0, .int .i64 0, .int .i64 0, .slice none 0 0, .slice none 0 0] 31)) := below_alloc (Below.refl _ _) _
 have hI0 : IsS50 w ((w.alloc (.cells #[.int .i64 0, .int .i64 0, .int .i64 0, .slice none 0 0, .slice none 0 0] 31)).alloc (.cells #[.string s, .int .i64 0] 50)) (w.heap.size + 1) s 0 := by
  have := IsS50.new w (w.alloc (.cells #[.int .i64 0, .int .i64 0, .int .i64 0, .slice none 0 0, .slice none 0 0] 31)) s 0 hB0
  simpa using this
 have hZ0 : ((w.alloc (.cells #[.int .i64 0, .int .i64 0, .int .i64 0, .slice none 0 0, .slice none 0 0] 31)).alloc (.cells #[.string s, .int .i64 0] 50)).heap[w.heap.size]? = some (.cells #[.int .i64 0, .int .i64 0, .int .i64 0, .slice none 0 0, .slice none 0 0] 31 (0, 0)) := by
  rw [heap_alloc_old _ _ (by simp)]; exact heap_alloc_new w _
 have HI0 := ab hI0
 have HZ0 := ab hZ0
 have HB0 := ab (below_alloc hB0 (.cells #[.string s, .int .i64 0] 50))
 clear hI0 hZ0 hB0
 have H := ab h
 clear h
 go_enter Tryz.func7, Tryz.ntmps7
 go_wp2_with fail
 refine (aI.calls k (w.heap.size + 1) s 0 s1 at1 w _ HI0.out HB0.out H1.out).mono ?_
 rintro e w1 ⟨rfl, hi, hb, hk⟩
 have HI1 := ab hi
 have HB1 := ab hb
 have HZ1 := ab (keep_blk hk HZ0.out (by omega))
 clear hi hb hk HI0 HB0 HZ0
 go_wp2_with fail
 refine (V.calls k (w.heap.size + 1) s1 at1 y1 y2 y3 y4 y5 y6 s2 at2 w _ HI1.out HB1.out H2.out).mono ?_
 rintro e w2 ⟨v3, v4, rfl, ho3, ho4, hi, hb, hk⟩
 have HI2 := ab hi
 have HB2 := ab hb
 have HZ2 := ab (keep_blk hk HZ1.out (by omega))
 have HK2 := ab (show w.heap.size ≤ w1.heap.size from HB1.out.size)
 have HG := ab (show w.heap.size < w1.heap.size from (Array.getElem?_eq_some_iff.1 HZ1.out).1)
 obtain ⟨A3, c3, rfl⟩ := Kd.R_slice ho3
 obtain ⟨A4, c4, rfl⟩ := Kd.R_slice ho4
 have vF := ab ho3
 have pG := ab ho4
 clear hi hb hk HI1 HB1 HZ1 ho3 ho4
 cases y6 with
 | false =>
  have hq := H.out
  simp only [Bool.false_eq_true, if_false, am, an] at hq
  obtain ⟨rfl, rfl, rfl, rfl, rfl, rfl⟩ := hq
  clear H
  have hlt : w.heap.size < w2.heap.size := (Array.getElem?_eq_some_iff.1 HZ2.out).1
  have hcz0 : w2.cell? ⟨w.heap.size, 0, none⟩ = some (.int .i64 0) := (ay HZ2.out 0)
  have hcz1 : w2.cell? ⟨w.heap.size, 1, none⟩ = some (.int .i64 0) := (ay HZ2.out 1)
  have hcz2 : w2.cell? ⟨w.heap.size, 2, none⟩ = some (.int .i64 0) := (ay HZ2.out 2)
  have hcz3 : w2.cell? ⟨w.heap.size, 3, none⟩ = some (.slice none 0 0) := (ay HZ2.out 3)
  have hcz4 : w2.cell? ⟨w.heap.size, 4, none⟩ = some (.slice none 0 0) := (ay HZ2.out 4)
  have hfz0 := blk_frozen HZ2.out 0
  have hfz1 := blk_frozen HZ2.out 1
  have hfz2 := blk_frozen HZ2.out 2
  have hfz3 := blk_frozen HZ2.out 3
  have hfz4 := blk_frozen HZ2.out 4
  go_wp2_with fail
  refine bodyPost_ret (results_ct rfl _ _ w.heap.size 31 #[.int .i64 0, .int .i64 0, .int .i64 0, .slice none 0 0, .slice none 0 0] (0, 0) _ rfl (by refine blk_alloc ?_ _; refine blk_put (cs := #[.int .i64 0, .int .i64 0, .int .i64 0, .slice none 0 0, .slice none 0 0]) ?_ 4 _ rfl; refine blk_put (cs := #[.int .i64 0, .int .i64 0, .int .i64 0, .slice none 0 0, .slice none 0 0]) ?_ 3 _ rfl; refine blk_put (cs := #[.int .i64 0, .int .i64 0, .int .i64 0, .slice none 0 0, .slice none 0 0]) ?_ 2 _ rfl; refine blk_put (cs := #[.int .i64 0, .int .i64 0, .int .i64 0, .slice none 0 0, .slice none 0 0]) ?_ 1 _ rfl; refine blk_put (cs := #[.int .i64 0, .int .i64 0, .int .i64 0, .slice none 0 0, .slice none 0 0]) ?_ 0 _ rfl; exact HZ2.out) Tryz.underlying31 rfl (by kernel_rfl)) rfl ?_
  exact ⟨_, _, rfl, r_nil53 _ _, r_nil25 _ _, (by repeat (first | exact HB2.out | apply below_alloc | refine below_set ?_ (Nat.le_refl _)))⟩
 | true =>
  have hq := H.out
  clear H
  rw [if_pos rfl] at hq
  obtain ⟨⟨s3, at3⟩, h3, hq⟩ := ao hq
  simp only at hq
  have H3 := ab h3
  clear h3
  have HR := ab hq
  clear hq
  have HI2' := ab (IsS50.alloc HI2.out (.cells #[.int .i64 y1, .int .i64 y2, .int .i64 y3, .slice A3 y4.length c3, .slice A4 y5.length c4] 31))
  have HB2' := ab (below_alloc HB2.out (.cells #[.int .i64 y1, .int .i64 y2, .int .i64 y3, .slice A3 y4.length c3, .slice A4 y5.length c4] 31))
  have HZ2' := ab (blk_alloc HZ2.out (.cells #[.int .i64 y1, .int .i64 y2, .int .i64 y3, .slice A3 y4.length c3, .slice A4 y5.length c4] 31))
  have HP2' := ab (heap_alloc_new w2 (.cells #[.int .i64 y1, .int .i64 y2, .int .i64 y3, .slice A3 y4.length c3, .slice A4 y5.length c4] 31))
  have HO3' := ab (Kd.R_alloc vF.out (.cells #[.int .i64 y1, .int .i64 y2, .int .i64 y3, .slice A3 y4.length c3, .slice A4 y5.length c4] 31))
  have HO4' := ab (Kd.R_alloc pG.out (.cells #[.int .i64 y1, .int .i64 y2, .int .i64 y3, .slice A3 y4.length c3, .slice A4 y5.length c4] 31))
  clear HI2 HB2 HZ2 vF pG
  go_wp2_with fail
  refine (aI.calls k (w.heap.size + 1) s2 at2 s3 at3 w _ HI2'.out HB2'.out H3.out).mono ?_
  rintro e w3 ⟨rfl, hi, hb, hk⟩
  have HI3 := ab hi
  have HB3 := ab hb
  have HZ3 := ab (keep_blk hk HZ2'.out (by omega))
  have HP3 := ab (keep_blk hk HP2'.out (fun e => by have h1 := HI2'.out.1; rw [← e, HP2'.out] at h1; simp at h1))
  have vF := ab (Kd.R_mono (Kd.R_keep (Kd.R_types HO3'.out HI2'.out.1 (by decide)) hk (fun _ h => h.2)) (fun _ h => h.1))
  have pG := ab (Kd.R_mono (Kd.R_keep (Kd.R_types HO4'.out HI2'.out.1 (by decide)) hk (fun _ h => h.2)) (fun _ h => h.1))
  clear hi hb hk HI2' HB2' HZ2' HP2' HO3' HO4'
  have hcg1 := cellS50_1 HI3.out.1
  by_cases hc : at3 = (s.size : Int)
  ·have hq := HR.out
   rw [if_pos hc] at hq
   simp only [am, an] at hq
   obtain ⟨rfl, rfl, rfl, rfl, rfl, rfl⟩ := hq
   clear HR
   have hcb : (at3 != (s.size : Int)) = false := ak hc
   clear hc
   have hlt : w.heap.size < w3.heap.size := (Array.getElem?_eq_some_iff.1 HZ3.out).1
   have hcz0 : w3.cell? ⟨w.heap.size, 0, none⟩ = some (.int .i64 0) := (ay HZ3.out 0)
   have hcz1 : w3.cell? ⟨w.heap.size, 1, none⟩ = some (.int .i64 0) := (ay HZ3.out 1)
   have hcz2 : w3.cell? ⟨w.heap.size, 2, none⟩ = some (.int .i64 0) := (ay HZ3.out 2)
   have hcz3 : w3.cell? ⟨w.heap.size, 3, none⟩ = some (.slice none 0 0) := (ay HZ3.out 3)
   have hcz4 : w3.cell? ⟨w.heap.size, 4, none⟩ = some (.slice none 0 0) := (ay HZ3.out 4)
   have hfz0 := blk_frozen HZ3.out 0
   have hfz1 := blk_frozen HZ3.out 1
   have hfz2 := blk_frozen HZ3.out 2
   have hfz3 := blk_frozen HZ3.out 3
   have hfz4 := blk_frozen HZ3.out 4
   have hlp : w2.heap.size < w3.heap.size := (Array.getElem?_eq_some_iff.1 HP3.out).1
   have hcp0 : w3.cell? ⟨w2.heap.size, 0, none⟩ = some (.int .i64 y1) := (ay HP3.out 0)
   have hcp1 : w3.cell? ⟨w2.heap.size, 1, none⟩ = some (.int .i64 y2) := (ay HP3.out 1)
   have hcp2 : w3.cell? ⟨w2.heap.size, 2, none⟩ = some (.int .i64 y3) := (ay HP3.out 2)
   have hcp3 : w3.cell? ⟨w2.heap.size, 3, none⟩ = some (.slice A3 y4.length c3) := (ay HP3.out 3)
   have hcp4 : w3.cell? ⟨w2.heap.size, 4, none⟩ = some (.slice A4 y5.length c4) := (ay HP3.out 4)
   go_wp2_with fail
   refine bodyPost_ret (results_ct rfl _ _ w.heap.size 31 #[.int .i64 y1, .int .i64 y2, .int .i64 y3, .slice A3 y4.length c3, .slice A4 y5.length c4] (0, 0) _ rfl (by refine blk_put (cs := #[.int .i64 y1, .int .i64 y2, .int .i64 y3, .slice A3 y4.length c3, .slice none 0 0]) ?_ 4 _ rfl; refine blk_put (cs := #[.int .i64 y1, .int .i64 y2, .int .i64 y3, .slice none 0 0, .slice none 0 0]) ?_ 3 _ rfl; refine blk_put (cs := #[.int .i64 y1, .int .i64 y2, .int .i64 0, .slice none 0 0, .slice none 0 0]) ?_ 2 _ rfl; refine blk_put (cs := #[.int .i64 y1, .int .i64 0, .int .i64 0, .slice none 0 0, .slice none 0 0]) ?_ 1 _ rfl; refine blk_put (cs := #[.int .i64 0, .int .i64 0, .int .i64 0, .slice none 0 0, .slice none 0 0]) ?_ 0 _ rfl; exact HZ3.out) Tryz.underlying31 rfl (by kernel_rfl)) rfl ?_
   exact ⟨_, _, rfl, Kd.R_lower (r_puts vF.out (Nat.lt_of_lt_of_le HG.out (Nat.le_refl _)) _ _ _ _ _) HK2.out, Kd.R_lower (r_puts pG.out (Nat.lt_of_lt_of_le HG.out (Nat.le_refl _)) _ _ _ _ _) HK2.out, (by repeat (first | exact HB3.out | refine below_set ?_ (Nat.le_refl _)))⟩
  ·have hq := HR.out
   rw [if_neg hc] at hq
   simp only [am, an] at hq
   obtain ⟨rfl, rfl, rfl, rfl, rfl, rfl⟩ := hq
   clear HR
   have hcb : (at3 != (s.size : Int)) = true := aj hc
   clear hc
   have hlt : w.heap.size < w3.heap.size := (Array.getElem?_eq_some_iff.1 HZ3.out).1
   have hcz0 : w3.cell? ⟨w.heap.size, 0, none⟩ = some (.int .i64 0) := (ay HZ3.out 0)
   have hcz1 : w3.cell? ⟨w.heap.size, 1, none⟩ = some (.int .i64 0) := (ay HZ3.out 1)
   have hcz2 : w3.cell? ⟨w.heap.size, 2, none⟩ = some (.int .i64 0) := (ay HZ3.out 2)
   have hcz3 : w3.cell? ⟨w.heap.size, 3, none⟩ = some (.slice none 0 0) := (ay HZ3.out 3)
   have hcz4 : w3.cell? ⟨w.heap.size, 4, none⟩ = some (.slice none 0 0) := (ay HZ3.out 4)
   have hfz0 := blk_frozen HZ3.out 0
   have hfz1 := blk_frozen HZ3.out 1
   have hfz2 := blk_frozen HZ3.out 2
   have hfz3 := blk_frozen HZ3.out 3
   have hfz4 := blk_frozen HZ3.out 4
   go_wp2_with fail
   refine bodyPost_ret (results_ct rfl _ _ w.heap.size 31 #[.int .i64 0, .int .i64 0, .int .i64 0, .slice none 0 0, .slice none 0 0] (0, 0) _ rfl (by refine blk_put (cs := #[.int .i64 0, .int .i64 0, .int .i64 0, .slice none 0 0, .slice none 0 0]) ?_ 4 _ rfl; refine blk_put (cs := #[.int .i64 0, .int .i64 0, .int .i64 0, .slice none 0 0, .slice none 0 0]) ?_ 3 _ rfl; refine blk_put (cs := #[.int .i64 0, .int .i64 0, .int .i64 0, .slice none 0 0, .slice none 0 0]) ?_ 2 _ rfl; refine blk_put (cs := #[.int .i64 0, .int .i64 0, .int .i64 0, .slice none 0 0, .slice none 0 0]) ?_ 1 _ rfl; refine blk_put (cs := #[.int .i64 0, .int .i64 0, .int .i64 0, .slice none 0 0, .slice none 0 0]) ?_ 0 _ rfl; exact HZ3.out) Tryz.underlying31 rfl (by kernel_rfl)) rfl ?_
   exact ⟨_, _, rfl, r_nil53 _ _, r_nil25 _ _, (by repeat (first | exact HB3.out | refine below_set ?_ (Nat.le_refl _)))⟩
end
section
end
end Go.Proofs.YtkjnahgicfmicaaGreatDoor.Sp

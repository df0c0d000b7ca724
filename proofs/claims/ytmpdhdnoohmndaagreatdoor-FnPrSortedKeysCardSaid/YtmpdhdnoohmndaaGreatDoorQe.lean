import Derived.Test.YtmpdhdnoohmndaaGreatDoorQd
import Derived.Scope
import Derived.WalkKit
namespace Go.Proofs.YtmpdhdnoohmndaaGreatDoor.Dec
open Go.RowKit Go.Proofs.YtmpdhdnoohmndaaGreatDoorW.PrintWords Go.Proofs.YtmpdhdnoohmndaaGreatDoorW.PrintLast Go.Proofs.YtmpdhdnoohmndaaGreatDoorW.PrintMore PFnGjItems
set_option linter.unusedVariables false
theorem num_lo {b : Nat → Int} {n i : Nat} (h : Digits b n) (hi : i ≤ n) : num b i * 10 ^ (n - i) ≤ num b n := by
 have := num_split h (n - i) (by omega)
 rw [show n - (n - i) = i by omega] at this
 rw [← this]
 exact Nat.div_mul_le_self _ _
theorem num_hi {b : Nat → Int} {n i : Nat} (h : Digits b n) (hi : i ≤ n) : num b n < (num b i + 1) * 10 ^ (n - i) := by
 have := num_split h (n - i) (by omega)
 rw [show n - (n - i) = i by omega] at this
 rw [← this]
 have hp : 0 < 10 ^ (n - i) := Nat.pow_pos (by decide)
 rw [Nat.mul_comm]
 exact Nat.lt_mul_div_succ _ hp
theorem less {b c : Nat → Int} {n m i : Nat} (hb : Digits b n) (hc : Digits c m) (hi : i < n) (hj : i < m) (e : ∀ j, j < i → b j = c j) (h : b i < c i) : num b n * 10 ^ m < num c m * 10 ^ n := by
 have h1 := num_hi hb (i := i + 1) (by omega)
 have h2 := num_lo hc (i := i + 1) (by omega)
 have e1 := num_congr e
 have d1 := hb i hi
 have d2 := hc i hj
 have h3 : num b (i + 1) + 1 ≤ num c (i + 1) := by
  rw [num, num, e1]
  unfold dg
  omega
 have p : 0 < 10 ^ m := Nat.pow_pos (by decide)
 calc num b n * 10 ^ m < (num b (i + 1) + 1) * 10 ^ (n - (i + 1)) * 10 ^ m := Nat.mul_lt_mul_of_pos_right h1 p
  _ ≤ num c (i + 1) * 10 ^ (n - (i + 1)) * 10 ^ m := Nat.mul_le_mul_right _ (Nat.mul_le_mul_right _ h3)
  _ = num c (i + 1) * 10 ^ (m - (i + 1)) * 10 ^ n := by
   rw [Nat.mul_assoc, Nat.mul_assoc, ← Nat.pow_add, ← Nat.pow_add]
   congr 2
   omega
  _ ≤ num c m * 10 ^ n := Nat.mul_le_mul_right _ h2
theorem bytes_rd {b : Nat → Int} {n i : Nat} (hi : i < n) : rd (bytes b n) (i : Int) = b i := by
 unfold rd bytes
 simp [List.getD, hi]
def ctf (ct : au) (j : Nat) : Int := bt ct (j : Int)
theorem prefix_less {b : Nat → Int} {n : Nat} (hb : Digits b n) (hn : n ≤ 800) (ct : au) (hc : Digits (ctf ct) ct.size) (hm : ct.size ≤ 800) (hl : ct.size = 0 ∨ ctf ct (ct.size - 1) ≠ 48) (d : Nat) :
  ∀ i k : Nat, i + d = ct.size → i ≤ n → (∀ j, j < i → b j = ctf ct j) → d < k → bC.l0 k (bytes b n) ct (i : Int) = some (decide (num b n * 10 ^ ct.size < num (ctf ct) ct.size * 10 ^ n)) := by
 induction d with
 | zero =>
  intro i k hi hin he hk
  obtain ⟨k, rfl⟩ : ∃ m, k = m + 1 := ⟨k - 1, by omega⟩
  simp only [bC.l0]
  rw [if_neg (by omega)]
  congr 1
  symm
  rw [decide_eq_false_iff_not, Nat.not_lt]
  obtain rfl : i = ct.size := by omega
  rw [← num_congr he]
  have := num_lo hb hin
  calc num b ct.size * 10 ^ n = num b ct.size * 10 ^ (n - ct.size) * 10 ^ ct.size := by
        rw [Nat.mul_assoc, ← Nat.pow_add]
        congr 2
        omega
   _ ≤ num b n * 10 ^ ct.size := Nat.mul_le_mul_right _ this
 | succ d ih =>
  intro i k hi hin he hk
  obtain ⟨k, rfl⟩ : ∃ m, k = m + 1 := ⟨k - 1, by omega⟩
  have hlen : ((bytes b n).length : Int) = (n : Int) := by rw [bytes_len]
  simp only [bC.l0]
  rw [if_pos (by omega), hlen]
  by_cases c : i = n
  ·subst c
   rw [if_pos (by omega)]
   congr 1
   symm
   rw [decide_eq_true_eq]
   have h1 := num_congr he
   have h2 := num_lo hc (i := ct.size - 1) (by omega)
   have h3 := num_lo (b := ctf ct) (n := ct.size - 1) (fun j hj => hc j (by omega)) (i := i) (by omega)
   obtain ⟨m, hm2⟩ : ∃ m, ct.size = m + 1 := ⟨ct.size - 1, by omega⟩
   rw [hm2] at hl h2 h3 hc ⊢
   simp only [Nat.add_sub_cancel] at hl h3
   have hd := hc m (by omega)
   have hdg : 1 ≤ dg (ctf ct) m := by unfold dg; omega
   have hlast : num (ctf ct) m * 10 + 1 ≤ num (ctf ct) (m + 1) := by rw [num]; omega
   rw [h1]
   have p : 0 < 10 ^ i := Nat.pow_pos (by decide)
   refine Nat.lt_of_lt_of_le ?_ (Nat.mul_le_mul_right _ hlast)
   have h4 : num (ctf ct) i * 10 ^ (m + 1) ≤ num (ctf ct) m * 10 * 10 ^ i := by
    calc num (ctf ct) i * 10 ^ (m + 1) = num (ctf ct) i * 10 ^ (m - i) * (10 * 10 ^ i) := by
          rw [Nat.mul_assoc, ← Nat.pow_succ', ← Nat.pow_add]
          congr 2
          omega
     _ ≤ num (ctf ct) m * (10 * 10 ^ i) := Nat.mul_le_mul_right _ h3
     _ = num (ctf ct) m * 10 * 10 ^ i := by rw [Nat.mul_assoc]
   rw [Nat.add_mul, Nat.one_mul]
   omega
  ·have hin2 : i < n := by omega
   rw [if_neg (by omega), if_pos (by omega), if_pos (by omega), bytes_rd hin2]
   by_cases e : b i = bt ct (i : Int)
   ·rw [if_pos e]
    have hw : wrap64 ((i : Int) + 1) = ((i + 1 : Nat) : Int) := by unfold wrap64; omega
    rw [hw]
    refine ih (i + 1) k (by omega) (by omega) (fun j hj => ?_) (by omega)
    by_cases ej : j = i
    ·subst ej; exact e
    ·exact he j (by omega)
   ·rw [if_neg e]
    congr 1
    by_cases l : b i < bt ct (i : Int)
    ·rw [ac l, ac (less hb hc hin2 (by omega) he l)]
    ·have l2 : ctf ct i < b i := by show bt ct (i : Int) < b i; omega
     have := less hc hb (by omega) hin2 (fun j hj => (he j hj).symm) l2
     rw [ae l, ae (by omega)]
structure Cheat (k : Nat) (dl : Int) (ct : au) : Prop where
 dig : Digits (ctf ct) ct.size
 most : ct.size ≤ 800
 last : ctf ct (ct.size - 1) ≠ 48
 pos : 1 ≤ dl
 top : dl ≤ 20
 cut : num (ctf ct) ct.size * 2 ^ k = 10 ^ (dl.toNat - 1) * 10 ^ ct.size
 lo : 10 ^ (dl.toNat - 1) ≤ 2 ^ k
 hi : 2 ^ k ≤ 10 ^ dl.toNat
theorem num_first {b : Nat → Int} {n : Nat} (h : Digits b n) (hn : 1 ≤ n) (hb : 49 ≤ b 0) : 10 ^ (n - 1) ≤ num b n := by
 have := num_lo h (i := 1) hn
 have h1 : 1 ≤ num b 1 := by simp only [num]; unfold dg; omega
 calc 10 ^ (n - 1) = 1 * 10 ^ (n - 1) := (Nat.one_mul _).symm
  _ ≤ num b 1 * 10 ^ (n - 1) := Nat.mul_le_mul_right _ h1
  _ ≤ num b n := this
theorem cheat_tells {k : Nat} {dl : Int} {ct : au} (hC : Cheat k dl ct) {b : Nat → Int} {n : Nat} (hb : Digits b n) (hn : 1 ≤ n) (h8 : n ≤ 800) (h0 : 49 ≤ b 0) :
  ∃ (kk : Nat) (t : Bool) (d : Nat), bC.f kk (bytes b n) ct = some t ∧ (d : Int) = (if t = true then dl - 1 else dl) ∧ d ≤ 20 ∧ num b n * 2 ^ k < 10 ^ (n + d) ∧ 10 ^ (n + d - 1) ≤ num b n * 2 ^ k := by
 have hp := prefix_less hb h8 ct hC.dig hC.most (.inr hC.last) ct.size 0 (ct.size + 1) (by omega) (by omega) (fun j hj => absurd hj (by omega)) (by omega)
 have hP := hC.pos
 have hT := hC.top
 obtain ⟨D, hD⟩ : ∃ D : Nat, dl = (D : Int) + 1 := ⟨dl.toNat - 1, by omega⟩
 have hcut := hC.cut
 have hlo := hC.lo
 have hhi := hC.hi
 rw [show dl.toNat = D + 1 by omega] at hcut hlo hhi
 rw [Nat.add_sub_cancel] at hcut hlo
 have hnl := num_lt hb
 have hnf := num_first hb hn h0
 have p2 : 0 < 2 ^ k := Nat.pow_pos (by decide)
 have pm : 0 < 10 ^ ct.size := Nat.pow_pos (by decide)
 by_cases c : num b n * 10 ^ ct.size < num (ctf ct) ct.size * 10 ^ n
 ·refine ⟨_, true, D, (by rw [ac c] at hp; exact hp), by rw [if_pos rfl]; omega, by omega, ?_, ?_⟩
  ·have h1 := Nat.mul_lt_mul_of_pos_right c p2
   have h2 : num b n * 2 ^ k * 10 ^ ct.size < 10 ^ (n + D) * 10 ^ ct.size := by
    calc num b n * 2 ^ k * 10 ^ ct.size = num b n * 10 ^ ct.size * 2 ^ k := by rw [Nat.mul_right_comm]
     _ < num (ctf ct) ct.size * 10 ^ n * 2 ^ k := h1
     _ = num (ctf ct) ct.size * 2 ^ k * 10 ^ n := by rw [Nat.mul_right_comm]
     _ = 10 ^ D * 10 ^ ct.size * 10 ^ n := by rw [hcut]
     _ = 10 ^ (n + D) * 10 ^ ct.size := by rw [Nat.mul_right_comm, ← Nat.pow_add, Nat.add_comm D n]
   exact Nat.lt_of_mul_lt_mul_right h2
  ·rw [show n + D - 1 = (n - 1) + D by omega, Nat.pow_add]
   exact Nat.mul_le_mul hnf hlo
 ·refine ⟨_, false, D + 1, (by rw [ae c] at hp; exact hp), by rw [if_neg (by decide)]; omega, by omega, ?_, ?_⟩
  ·rw [Nat.pow_add]
   exact Nat.lt_of_lt_of_le (Nat.mul_lt_mul_of_pos_right hnl p2) (Nat.mul_le_mul_left _ hhi)
  ·have h1 := Nat.mul_le_mul_right (2 ^ k) (Nat.le_of_not_lt c)
   have h2 : 10 ^ (n + D) * 10 ^ ct.size ≤ num b n * 2 ^ k * 10 ^ ct.size := by
    calc 10 ^ (n + D) * 10 ^ ct.size = 10 ^ D * 10 ^ ct.size * 10 ^ n := by rw [Nat.pow_add, Nat.mul_comm (10 ^ n) (10 ^ D), Nat.mul_right_comm]
     _ = num (ctf ct) ct.size * 2 ^ k * 10 ^ n := by rw [hcut]
     _ = num (ctf ct) ct.size * 10 ^ n * 2 ^ k := by rw [Nat.mul_right_comm]
     _ ≤ num b n * 10 ^ ct.size * 2 ^ k := h1
     _ = num b n * 2 ^ k * 10 ^ ct.size := by rw [Nat.mul_right_comm]
   rw [show n + (D + 1) - 1 = n + D by omega]
   exact Nat.le_of_mul_le_mul_right h2 pm
structure Good (w0 W : World) (g : Nat) (b : Nat → Int) (n : Nat) (dp : Int) (ng tr : Bool) : Prop where
 dec : IsDec w0 W g b n dp ng tr
 dig : Digits b n
 pos : 1 ≤ n
 most : n ≤ 800
 first : 49 ≤ b 0
theorem add_blk (a : Addr) (n : Nat) : (a.add n).block = a.block := by unfold Addr.add; split <;> rfl
def Cheats (W : World) (L : Addr) : Prop := W.cell? ⟨10, 0, none⟩ = some (.slice (some L) 61 61) ∧ ∀ k, 1 ≤ k → k ≤ 60 → ∃ dl ct, W.cell? (L.add (k * 2)) = some (.int .i64 dl) ∧ W.cell? ⟨(L.add (k * 2)).block, (L.add (k * 2)).off + 1, none⟩ = some (.string ct) ∧ Cheat k dl ct
theorem Cheats.keep {w W : World} {L : Addr} {g : Nat} (h : Cheats w L) (hB : ∀ p : Addr, p.block ≠ g → W.cell? p = w.cell? p) (h10 : 10 ≠ g) (hL : L.block ≠ g) : Cheats W L :=
 ⟨by rw [hB ⟨10, 0, none⟩ h10]; exact h.1, fun k h1 h2 => by
  obtain ⟨dl, ct, e1, e2, hc⟩ := h.2 k h1 h2
  exact ⟨dl, ct, by rw [hB (L.add (k * 2)) (by rw [add_blk]; exact hL)]; exact e1, by rw [hB ⟨(L.add (k * 2)).block, _, none⟩ (by show (L.add (k * 2)).block ≠ g; rw [add_blk]; exact hL)]; exact e2, hc⟩⟩
theorem left_good (g : Nat) (b : Nat → Int) (n : Nat) (dp : Int) (ng tr : Bool) (k : Nat) (w0 w : World) (hG : Good w0 w g b n dp ng tr) (hk0 : 1 ≤ k) (hk1 : k ≤ 60) (hdp : -1000000000000 ≤ dp ∧ dp ≤ 1000000000000)
  (L : Addr) (hC : Cheats w L) (hL : L.block ≠ g) (hB : On w0 w w g) :
  Calls Tryz.prog 116 #[.pointer (some ⟨g, 0, none⟩), .int .u64 k] w fun e w' => e = .returned (.tuple #[]) ∧ ∃ (b' : Nat → Int) (n' d : Nat) (tr' : Bool), Good w0 w' g b' n' (dp + d) ng tr' ∧ d ≤ 20 ∧ (d = 0 → b 0 < b' 0) ∧ On w0 w w' g := by
 obtain ⟨dl, ct, hc0, hc1, hch⟩ := hC.2 k hk0 hk1
 obtain ⟨kk, t, d, hp, hdl, hd, hV1, hV0⟩ := cheat_tells hch hG.dig hG.pos hG.most hG.first
 refine (left_calls g b n dp ng tr k w0 w hG.dec hG.dig hG.pos hG.most hk0 hk1 hdp L hC.1 dl ct hc0 hc1 hL kk t hp d hdl (by omega) hV1 hV0 hB).mono ?_
 rintro e w' ⟨rfl, b', n', tr', hI, h1, h2, h3, hb, hz, hO⟩
 have hb0 := hb 0 h1
 rw [Nat.sub_zero] at hb0
 have hpos := hG.pos
 have hld := lead hV0 hV1 (by omega)
 have hlt : num b n * 2 ^ k / 10 ^ (n + d - 1) < 10 := by
  rw [Nat.div_lt_iff_lt_mul (Nat.pow_pos (by decide)), ← Nat.pow_succ', show (n + d - 1).succ = n + d by omega]
  exact hV1
 refine ⟨rfl, b', n', d, tr', ⟨hI, fun j hj => ?_, h1, h2, by omega⟩, hd, fun h => ?_, hO⟩
 ·have := hb j hj
  omega
 ·subst h
  rw [Nat.add_zero] at hb0 hV1 hld hlt
  rw [Nat.mod_eq_of_lt hlt] at hb0
  have hs := num_split hG.dig (n - 1) (by omega)
  rw [show n - (n - 1) = 1 by omega] at hs
  have h10 : num b 1 = dg b 0 := by simp [num]
  have hd0 : b 0 = 48 + (dg b 0 : Int) := by have := hG.dig 0 hpos; unfold dg; omega
  have hd1 : 1 ≤ dg b 0 := by have := hG.first; omega
  have h2k : 2 ≤ 2 ^ k := by
   calc 2 = 2 ^ 1 := rfl
    _ ≤ 2 ^ k := Nat.pow_le_pow_right (by decide) hk0
  have hge : num b n / 10 ^ (n - 1) * 2 ≤ num b n * 2 ^ k / 10 ^ (n - 1) := by
   calc num b n / 10 ^ (n - 1) * 2 ≤ num b n * 2 / 10 ^ (n - 1) := by
         rw [Nat.le_div_iff_mul_le (Nat.pow_pos (by decide)), Nat.mul_right_comm]
         exact Nat.mul_le_mul_right _ (Nat.div_mul_le_self _ _)
    _ ≤ num b n * 2 ^ k / 10 ^ (n - 1) := Nat.div_le_div_right (Nat.mul_le_mul_left _ h2k)
  rw [hs, h10] at hge
  generalize num b n * 2 ^ k / 10 ^ (n - 1) = A at *
  omega
theorem right_good (g : Nat) (b : Nat → Int) (n : Nat) (dp : Int) (ng tr : Bool) (k : Nat) (w0 w : World) (hG : Good w0 w g b n dp ng tr) (hk0 : 1 ≤ k) (hk1 : k ≤ 60) (hdp : -1000000000000 ≤ dp ∧ dp ≤ 1000000000000) (hB : On w0 w w g) :
  Calls Tryz.prog 117 #[.pointer (some ⟨g, 0, none⟩), .int .u64 k] w fun e w' => e = .returned (.tuple #[]) ∧ ∃ (b' : Nat → Int) (n' d : Nat) (tr' : Bool), Good w0 w' g b' n' (dp - d) ng tr' ∧ d ≤ 860 ∧ (3 ≤ k → d = 0 → b' 0 < b 0) ∧ On w0 w w' g := by
 refine (right_calls g b n dp ng tr k w0 w hG.dec hG.dig hG.pos hG.most hk0 hk1 hG.first hdp hB).mono ?_
 rintro e w' ⟨rfl, b', n', r, tr', hI, hD, h1, h2, h3, h4, h5, h6, h7, hO⟩
 have hm := hG.most
 refine ⟨rfl, b', n', r - 1, tr', ⟨by rw [show ((r - 1 : Nat) : Int) = (r : Int) - 1 by omega]; exact hI, hD, h1, h2, h3⟩, by omega, fun hk h => ?_, hO⟩
 have hr : r = 1 := by omega
 have e1 := h7 hr
 have e2 : ¬ dg b 0 < 2 ^ k := fun h => by have := h6 h; omega
 have h8 : 8 ≤ 2 ^ k := by
  calc 8 = 2 ^ 3 := rfl
   _ ≤ 2 ^ k := Nat.pow_le_pow_right (by decide) hk
 have hd := dg_lt hG.dig (i := 0) hG.pos
 have hd0 : b 0 = 48 + (dg b 0 : Int) := by have := hG.dig 0 hG.pos; unfold dg; omega
 have e3 : dg b 0 / 2 ^ k ≤ 1 := by
  rw [← Nat.lt_succ_iff, Nat.div_lt_iff_lt_mul (by omega)]
  omega
 generalize dg b 0 / 2 ^ k = A at *
 omega
end Go.Proofs.YtmpdhdnoohmndaaGreatDoor.Dec
namespace Go.Proofs.YtmpdhdnoohmndaaGreatDoor.Dec
set_option maxHeartbeats 4000000
set_option maxRecDepth 100000
open Go.RowKit Go.Proofs.YtmpdhdnoohmndaaGreatDoorW.PrintWords Go.Proofs.YtmpdhdnoohmndaaGreatDoorW.PrintLast Go.Proofs.YtmpdhdnoohmndaaGreatDoorW.PrintMore PFnGjItems
attribute [local go_sem] max2_int min2_int max_two min_two max_three min_three max_four min_four
set_option linter.unusedVariables false
set_option linter.unusedSimpArgs false
structure Tab (w0 : World) (L : Addr) : Prop where
 ch : Cheats w0 L
 lt : L.block < w0.heap.size
 lt10 : 10 < w0.heap.size
theorem Tab.now {w0 W : World} {L : Addr} (h : Tab w0 L) (hb : Below w0.heap.size w0 W) : Cheats W L :=
 ⟨by rw [hb.cell (p := ⟨10, 0, none⟩) h.lt10]; exact h.ch.1, fun k h1 h2 => by
  obtain ⟨dl, ct, e1, e2, hc⟩ := h.ch.2 k h1 h2
  exact ⟨dl, ct, by rw [hb.cell (p := L.add (k * 2)) (by rw [add_blk]; exact h.lt)]; exact e1, by rw [hb.cell (p := ⟨(L.add (k * 2)).block, _, none⟩) (by show (L.add (k * 2)).block < _; rw [add_blk]; exact h.lt)]; exact e2, hc⟩⟩
theorem Good.drewN {w0 W : World} {g : Nat} {b : Nat → Int} {n : Nat} {dp : Int} {ng tr : Bool} (h : Good w0 W g b n dp ng tr) (m : Nat) : Good w0 (W.drewN m) g b n dp ng tr := ⟨h.dec.drewN m, h.dig, h.pos, h.most, h.first⟩
theorem shift_left (g : Nat) (b : Nat → Int) (n : Nat) (dp : Int) (ng tr : Bool) (k : Nat) (m : Int) (hm : m = (k : Int)) (w0 w : World) (hG : Good w0 w g b n dp ng tr) (hk0 : 1 ≤ k) (hk1 : k ≤ 60) (hdp : -1000000000000 ≤ dp ∧ dp ≤ 1000000000000)
  (L : Addr) (hT : Tab w0 L) (hB : On w0 w w g) :
  Calls Tryz.prog 110 #[.pointer (some ⟨g, 0, none⟩), .int .i64 m] w fun e w' => e = .returned (.tuple #[]) ∧ ∃ (b' : Nat → Int) (n' d : Nat) (tr' : Bool), Good w0 w' g b' n' (dp + d) ng tr' ∧ d ≤ 20 ∧ (d = 0 → b 0 < b' 0) ∧ On w0 w w' g := by
 have HG := aa hG
 have HB := aa hB
 have hcn := hG.dec.nd_
 have n0 : ((n : Int) == 0) = false := ag (by have := hG.pos; omega)
 have k0 : decide (m > 0) = true := ac (by omega)
 have k1 : decide (m > 60) = false := ae (by omega)
 have f1 : IntKind.u64.wrap m = ((k : Nat) : Int) := by rw [hm]; exact wu (by omega) (by omega)
 have HK := aa (And.intro hk0 hk1)
 have HX := aa hdp
 clear hG hB hk0 hk1 hdp hm
 go_enter Tryz.func110, Tryz.ntmps110
 go_wp2_with (fail)
 go_loopg [1] 0 (fun kq v1 w' => v1 = .int .i64 m ∧ Aside0 (w' = w))
 case atStart => exact ⟨rfl, ⟨rfl⟩⟩
 case round =>
  obtain ⟨rfl, ⟨rfl⟩⟩ := hrel
  go_wp2_with (fail)
  have HL : L.block ≠ g := by have := hT.lt; have := HG.out.dec.ge; omega
  refine (left_good g b n dp ng tr k w0 _ HG.out HK.out.1 HK.out.2 HX.out L (hT.now HB.out.below) HL HB.out).mono ?_
  rintro e w' ⟨rfl, hh⟩
  have HH := aa hh
  clear hh
  go_wp2_with (fail)
  first | go_end0 | ((try simp only [Exit.inBlock, Exit.then]); refine bodyPost_ret (results_none rfl _ _ _) rfl ?_)
  exact ⟨rfl, HH.out⟩
theorem shift_right (g : Nat) (b : Nat → Int) (n : Nat) (dp : Int) (ng tr : Bool) (K : Nat) (m : Int) (hm : m = -(K : Int)) (w0 w : World) (hG : Good w0 w g b n dp ng tr) (hk0 : 1 ≤ K) (hk1 : K ≤ 10000000) (hdp : -10000000000 ≤ dp ∧ dp ≤ 10000000000) (hB : On w0 w w g) :
  Calls Tryz.prog 110 #[.pointer (some ⟨g, 0, none⟩), .int .i64 m] w fun e w' => e = .returned (.tuple #[]) ∧ ∃ (b' : Nat → Int) (n' d : Nat) (tr' : Bool), Good w0 w' g b' n' (dp - d) ng tr' ∧ d ≤ 860 * K ∧ (3 ≤ K → K ≤ 60 → d = 0 → b' 0 < b 0) ∧ On w0 w w' g := by
 have HG := aa hG
 have HB := aa hB
 have hcn := hG.dec.nd_
 have n0 : ((n : Int) == 0) = false := ag (by have := hG.pos; omega)
 have k0 : decide (m > 0) = false := ae (by omega)
 have k1 : decide (m < 0) = true := ac (by omega)
 have HK := aa (And.intro hk0 (And.intro hk1 hm))
 have HX := aa hdp
 clear hG hB hk0 hk1 hdp hm
 go_enter Tryz.func110, Tryz.ntmps110
 go_wp2_with (fail)
 go_loopg [1] K (fun kq v1 w' => ∃ (m' : Int) (b' : Nat → Int) (n' d : Nat) (tr' : Bool), v1 = .int .i64 m' ∧ Aside0 (m' = -(kq : Int) ∧ 1 ≤ kq ∧ kq ≤ K ∧ d ≤ 860 * (K - kq) ∧ (K ≤ 60 → kq = K ∧ b' 0 = b 0 ∧ d = 0)) ∧ Aside0 (Good w0 w' g b' n' (dp - d) ng tr') ∧ Aside0 (On w0 w w' g))
 case atStart => exact ⟨_, b, n, 0, tr, rfl, ⟨HK.out.2.2, HK.out.1, Nat.le_refl _, Nat.zero_le _, fun _ => ⟨rfl, rfl, rfl⟩⟩, ⟨by simpa using HG.out⟩, HB⟩
 case round =>
  clear HG HB hcn
  obtain ⟨m', b1, n1, d, tr1, rfl, HM, HG, HB⟩ := hrel
  by_cases c : m' < -60
  ·have c1 : decide (m' < -60) = true := ac c
   obtain ⟨z, f1, hz⟩ : ∃ z, IntKind.i64.wrap (m' + 60) = z ∧ Aside0 (z = m' + 60) := ⟨_, wrp (by have := HM.out; have := HK.out; omega) (by have := HM.out; have := HK.out; omega), ⟨rfl⟩⟩
   have HC := aa c
   clear c
   go_wp2_with (fail)
   refine (right_good g b1 n1 (dp - d) ng tr1 60 w0 _ HG.out (by omega) (by omega) (by have := HM.out; have := HK.out; have := HX.out; omega) (On.refl g HB.out.below)).mono ?_
   rintro e w' ⟨rfl, b2, n2, d2, tr2, hG2, hd2, -, hO2⟩
   have HG2 := aa hG2
   have uN := aa hO2
   have HD2 := aa hd2
   clear hG2 hO2 hd2
   go_wp2_with (fail)
   go_roundg (gk - 60)
   case measure => have := HM.out; have := HC.out; omega
   case rel =>
    have hM := HM.out
    have hC := HC.out
    have hz := hz.out
    have hd2 := HD2.out
    exact ⟨z, b2, n2, d + d2, tr2, rfl, ⟨by omega, by omega, by omega, by omega, fun h => by omega⟩, ⟨by rw [show dp - ((d + d2 : Nat) : Int) = dp - (d : Int) - (d2 : Int) by omega]; exact HG2.out⟩, ⟨HB.out.trans uN.out⟩⟩
  ·have c1 : decide (m' < -60) = false := ae c
   have HC := aa c
   have f1 : IntKind.i64.wrap (-m') = ((gk : Nat) : Int) := by rw [show -m' = (gk : Int) by have := HM.out; omega]; exact wrp (by omega) (by have := HM.out; have := HK.out; omega)
   have f2 : IntKind.u64.wrap ((gk : Nat) : Int) = ((gk : Nat) : Int) := wu (by omega) (by have := HM.out; have := HK.out; omega)
   clear c
   go_wp2_with (fail)
   refine (right_good g b1 n1 (dp - d) ng tr1 gk w0 _ HG.out (by have := HM.out; omega) (by have := HM.out; have := HC.out; omega) (by have := HM.out; have := HK.out; have := HX.out; omega) (On.refl g HB.out.below)).mono ?_
   rintro e w' ⟨rfl, b2, n2, d2, tr2, hG2, hd2, hl2, hO2⟩
   have HG2 := aa hG2
   have uN := aa hO2
   have HD2 := aa (And.intro hd2 hl2)
   clear hG2 hO2 hd2 hl2
   go_wp2_with (fail)
   first | go_end0 | ((try simp only [Exit.inBlock, Exit.then]); refine bodyPost_ret (results_none rfl _ _ _) rfl ?_)
   have hM := HM.out
   have hC := HC.out
   obtain ⟨hd2, hl2⟩ := HD2.out
   have hK := HK.out
   refine ⟨rfl, b2, n2, d + d2, tr2, by rw [show dp - ((d + d2 : Nat) : Int) = dp - (d : Int) - (d2 : Int) by omega]; exact HG2.out, by omega, fun h3 h60 h0 => ?_, HB.out.trans uN.out⟩
   obtain ⟨e0, e1, e2⟩ := hM.2.2.2.2 h60
   have := hl2 (by omega) (by omega)
   omega
end Go.Proofs.YtmpdhdnoohmndaaGreatDoor.Dec
namespace Go.Proofs.YtmpdhdnoohmndaaGreatDoor.Dec
set_option maxHeartbeats 4000000
set_option maxRecDepth 100000
open Go.RowKit Go.Proofs.YtmpdhdnoohmndaaGreatDoorW.PrintWords Go.Proofs.YtmpdhdnoohmndaaGreatDoorW.PrintLast Go.Proofs.YtmpdhdnoohmndaaGreatDoorW.PrintMore PFnGjItems
attribute [local go_sem] max2_int min2_int max_two min_two max_three min_three max_four min_four
set_option linter.unusedVariables false
set_option linter.unusedSimpArgs false
def SomeB (w : World) (e : Ending) (w' : World) : Prop := ∃ t : Bool, e = .returned (.bool t) ∧ w' = w
theorem roundup_calls (g : Nat) (b : Nat → Int) (n : Nat) (N dp : Int) (ng tr : Bool) (w0 w : World) (hG : Good w0 w g b n dp ng tr) (hN : N = (n : Int)) (hdp : -1000000000000 ≤ dp ∧ dp ≤ 1000000000000) :
  Calls Tryz.prog 118 #[.pointer (some ⟨g, 0, none⟩), .int .i64 dp] w (SomeB w) := by
 have hcn := hG.dec.nd_
 rw [← hN] at hcn
 have hct := hG.dec.tr_
 have HG := aa hG
 have HN := aa hN
 have HX := aa hdp
 clear hG hN hdp
 by_cases c1 : dp < 0
 ·have c1' : decide (dp < 0) = true := ac c1
  clear c1
  go_enter Tryz.func118, Tryz.ntmps118
  go_wp2_with (fail)
  go_ret
  exact ⟨_, rfl, rfl⟩
 have c1' : decide (dp < 0) = false := ae c1
 by_cases c2 : dp ≥ N
 ·have c2' : decide (dp ≥ N) = true := ac c2
  clear c1 c2
  go_enter Tryz.func118, Tryz.ntmps118
  go_wp2_with (fail)
  go_ret
  exact ⟨_, rfl, rfl⟩
 have c2' : decide (dp ≥ N) = false := ae c2
 have hm := HG.out.most
 have hNN := HN.out
 have hci := HG.out.dec.at_ (i := dp.toNat) (by omega)
 have p0 : (0 ≤ dp) = True := af (by omega)
 have p1 : (dp < 800) = True := af (by omega)
 have C12 := aa (And.intro c1 c2)
 obtain ⟨v, hv⟩ : ∃ v, b dp.toNat = v := ⟨_, rfl⟩
 rw [hv] at hci
 obtain ⟨z, f1, hz⟩ : ∃ z, IntKind.i64.wrap (dp + 1) = z ∧ z = dp + 1 := ⟨_, wrp (by omega) (by omega), rfl⟩
 clear hv
 by_cases c3 : v = 53
 ·subst c3
  by_cases c4 : z = N
  ·have c4' : (z == N) = true := ah c4
   cases tr with
   | true =>
    clear c1 c2 hm hNN hz c4
    go_enter Tryz.func118, Tryz.ntmps118
    go_wp2_with (fail)
    go_ret
    exact ⟨_, rfl, rfl⟩
   | false =>
    by_cases c5 : dp > 0
    ·have c5' : decide (dp > 0) = true := ac c5
     obtain ⟨y, f2, hy⟩ : ∃ y, IntKind.i64.wrap (dp - 1) = y ∧ y = dp - 1 := ⟨_, wrp (by omega) (by omega), rfl⟩
     have q0 : (0 ≤ y) = True := af (by omega)
     have q1 : (y < 800) = True := af (by omega)
     have hcj := HG.out.dec.at_ (i := y.toNat) (by omega)
     have hdj := HG.out.dig y.toNat (by omega)
     obtain ⟨u, hu⟩ : ∃ u, b y.toNat = u := ⟨_, rfl⟩
     rw [hu] at hcj hdj
     obtain ⟨s, f3, hs⟩ : ∃ s, IntKind.u8.wrap (u - 48) = s ∧ s = u - 48 := ⟨_, wb (by omega) (by omega), rfl⟩
     obtain ⟨r, f4⟩ : ∃ r, IntKind.u8.wrap (s.tmod 2) = r := ⟨_, rfl⟩
     clear c1 c2 hm hNN hz c4 c5 hy hdj hu hs
     go_enter Tryz.func118, Tryz.ntmps118
     go_wp2_with (fail)
     go_ret
     exact ⟨_, rfl, rfl⟩
    ·have c5' : decide (dp > 0) = false := ae c5
     clear c1 c2 hm hNN hz c4 c5
     go_enter Tryz.func118, Tryz.ntmps118
     go_wp2_with (fail)
     go_ret
     exact ⟨_, rfl, rfl⟩
  ·have c4' : (z == N) = false := ag c4
   clear c1 c2 hm hNN hz c4
   go_enter Tryz.func118, Tryz.ntmps118
   go_wp2_with (fail)
   go_ret
   exact ⟨_, rfl, rfl⟩
 ·have c3' : (v == 53) = false := ag c3
  clear c1 c2 hm hNN hz c3
  go_enter Tryz.func118, Tryz.ntmps118
  go_wp2_with (fail)
  go_ret
  exact ⟨_, rfl, rfl⟩
def SomeU (w : World) (e : Ending) (w' : World) : Prop := ∃ t : Int, e = .returned (.int .u64 t) ∧ w' = w
theorem rounded_calls (g : Nat) (b : Nat → Int) (n : Nat) (N dp : Int) (ng tr : Bool) (w0 w : World) (hG : Good w0 w g b n dp ng tr) (hN : N = (n : Int)) (hdp : -1000000000000 ≤ dp ∧ dp ≤ 1000000000000) :
  Calls Tryz.prog 111 #[.pointer (some ⟨g, 0, none⟩)] w (SomeU w) := by
 have hcn := hG.dec.nd_
 rw [← hN] at hcn
 have hcd := hG.dec.dp_
 have HG := aa hG
 have HN := aa hN
 have HX := aa hdp
 clear hG hN hdp
 by_cases c1 : dp > 20
 ·have c1' : decide (dp > 20) = true := ac c1
  clear c1
  go_enter Tryz.func111, Tryz.ntmps111
  go_wp2_with (fail)
  go_ret
  exact ⟨_, rfl, rfl⟩
 have c1' : decide (dp > 20) = false := ae c1
 have C1 := aa c1
 clear c1
 go_enter Tryz.func111, Tryz.ntmps111
 go_wp2_with (fail)
 go_loopg [3, 4] n (fun kq v3 v4 w' => ∃ (x3 x4 : Int), v3 = .int .i64 x3 ∧ v4 = .int .u64 x4 ∧ Aside0 (kq ≤ n ∧ x3 = (n : Int) - kq) ∧ Aside0 (w' = w))
 case atStart => exact ⟨_, _, rfl, rfl, ⟨Nat.le_refl _, by omega⟩, ⟨rfl⟩⟩
 case round =>
  obtain ⟨x3, x4, rfl, rfl, HM, ⟨rfl⟩⟩ := hrel
  obtain ⟨wo, rfl⟩ : ∃ wo : World, wo = wr := ⟨_, rfl⟩
  by_cases c2 : x3 < dp ∧ x3 < N
  ·obtain ⟨c2, c3⟩ := c2
   ·have c2' : decide (x3 < dp) = true := ac c2
    have c3' : decide (x3 < N) = true := ac c3
    have hM := HM.out
    have hm := HG.out.most
    have hNN := HN.out
    have hci := HG.out.dec.at_ (i := x3.toNat) (by omega)
    have p0 : (0 ≤ x3) = True := af (by omega)
    have p1 : (x3 < 800) = True := af (by omega)
    obtain ⟨z, f1, hz⟩ : ∃ z, IntKind.i64.wrap (x3 + 1) = z ∧ Aside0 (z = x3 + 1) := ⟨_, wrp (by omega) (by omega), ⟨rfl⟩⟩
    obtain ⟨v, hv⟩ : ∃ v, b x3.toNat = v := ⟨_, rfl⟩
    rw [hv] at hci
    obtain ⟨s, f2⟩ : ∃ s, IntKind.u8.wrap (v - 48) = s := ⟨_, rfl⟩
    obtain ⟨t, f3⟩ : ∃ t, IntKind.u64.wrap s = t := ⟨_, rfl⟩
    obtain ⟨u, f4⟩ : ∃ u, IntKind.u64.wrap (x4 * 10) = u := ⟨_, rfl⟩
    obtain ⟨y, f5⟩ : ∃ y, IntKind.u64.wrap (u + t) = y := ⟨_, rfl⟩
    have HC := aa (And.intro c2 c3)
    clear c2 c3 hM hm hNN hv
    go_wp2_with (fail)
    go_roundg (gk - 1)
    case measure => have := HM.out; have := HC.out; have := HN.out; omega
    case rel =>
     have hM := HM.out
     have := HC.out
     have := hz.out
     have := HN.out
     exact ⟨z, _, rfl, rfl, ⟨by omega, by omega⟩, ⟨rfl⟩⟩
  have c4 : decide (x3 < dp) = false ∨ (decide (x3 < dp) = true ∧ decide (x3 < N) = false) := by
   by_cases c : x3 < dp
   ·exact .inr ⟨ac c, ae (fun h => c2 ⟨c, h⟩)⟩
   ·exact .inl (ae c)
  clear c2
  rcases c4 with c2' | ⟨c2', c3'⟩
  all_goals
   go_wp2_with (fail)
   go_loopg [3, 4] (dp - x3).toNat (fun kq v3 v4 w' => ∃ (y3 y4 : Int), v3 = .int .i64 y3 ∧ v4 = .int .u64 y4 ∧ Aside0 (kq = (dp - y3).toNat ∧ 0 ≤ y3 ∧ y3 ≤ 100000) ∧ Aside0 (w' = wo))
   case atStart => exact ⟨_, _, rfl, rfl, ⟨rfl, by have := HM.out; omega, by have := HM.out; have := HG.out.most; omega⟩, ⟨rfl⟩⟩
   case round =>
    clear HM
    obtain ⟨y3, y4, rfl, rfl, HM, ⟨rfl⟩⟩ := hrel
    by_cases c5 : y3 < dp
    ·have c5' : decide (y3 < dp) = true := ac c5
     have hM := HM.out
     have hC := C1.out
     obtain ⟨z, f1, hz⟩ : ∃ z, IntKind.i64.wrap (y3 + 1) = z ∧ Aside0 (z = y3 + 1) := ⟨_, wrp (by omega) (by omega), ⟨rfl⟩⟩
     obtain ⟨u, f4⟩ : ∃ u, IntKind.u64.wrap (y4 * 10) = u := ⟨_, rfl⟩
     have HC := aa c5
     clear c5 hM hC
     go_wp2_with (fail)
     go_roundg (gk - 1)
     case measure => have := HM.out; have := HC.out; omega
     case rel =>
      have hM := HM.out
      have := HC.out
      have := hz.out
      have := C1.out
      exact ⟨z, _, rfl, rfl, ⟨by omega, by omega, by omega⟩, ⟨rfl⟩⟩
    ·have c5' : decide (y3 < dp) = false := ae c5
     clear c5
     go_wp2_with (fail)
     refine (roundup_calls g b n N dp ng tr w0 _ HG.out HN.out HX.out).mono ?_
     rintro e w' ⟨t, rfl, rfl⟩
     cases t
     all_goals
      go_wp2_with (fail)
      go_ret
      exact ⟨_, rfl, rfl⟩
end Go.Proofs.YtmpdhdnoohmndaaGreatDoor.Dec
namespace Go.Proofs.YtmpdhdnoohmndaaGreatDoor.Jump
open Go
def fwd (P : Program) (c : Code) (Q : Exit → Act → World → Prop) : Nat → Exit → Act → World → Prop
 | 0, .goto _, _, _ => False
 | n + 1, .goto l, a, w => ∃ rest, findLabel c l = some rest ∧ rest.wp P (fwd P c Q n) a w
 | _, .normal, a, w => Q .normal a w
 | _, .exit id, a, w => Q (.exit id) a w
 | _, .ret, a, w => Q .ret a w
 | _, .panic ch, a, w => Q (.panic ch) a w
 | _, .outgrown, a, w => Q .outgrown a w
section
variable {P : Program} {c : Code} {Q : Exit → Act → World → Prop} {a : Act} {w : World} {n : Nat}
theorem fwd_normal : fwd P c Q n .normal a w = Q .normal a w := by cases n <;> rfl
theorem fwd_exit (id : Nat) : fwd P c Q n (.exit id) a w = Q (.exit id) a w := by cases n <;> rfl
theorem fwd_ret : fwd P c Q n .ret a w = Q .ret a w := by cases n <;> rfl
theorem fwd_panic (ch : List PanicEntry) : fwd P c Q n (.panic ch) a w = Q (.panic ch) a w := by cases n <;> rfl
theorem fwd_goto (l : Nat) {rest : Code} (hf : findLabel c l = some rest) (h : rest.wp P (fwd P c Q n) a w) : fwd P c Q (n + 1) (.goto l) a w := ⟨rest, hf, h⟩
theorem key (b : Frame) (k : List Item) (cs : List Frame) : ∀ (n : Nat) (rest : Code) (a : Act) (w : World), rest.wp P (fwd P c Q n) a w → ∃ e a' w', Q e a' w' ∧ Arrives P (lone (b.at a (.code rest :: .inScope c :: k)) cs w) b k cs e a' w' := by
 intro n
 induction n with
 | zero =>
  intro rest a w h
  obtain ⟨e, a₁, w₁, hq, harr⟩ := h b (.inScope c :: k) cs
  cases e with
  | normal => exact ⟨.normal, a₁, w₁, hq, Steps.trans harr (.one step_inScope)⟩
  | exit id => exact ⟨.exit id, a₁, w₁, hq, fun k' hk => harr k' (by simp [exitTo, hk])⟩
  | goto l' => exact absurd hq (by simp [fwd])
  | ret => exact ⟨_, a₁, w₁, hq, harr⟩
  | panic ch => exact ⟨_, a₁, w₁, hq, harr⟩
  | outgrown => exact ⟨_, a₁, w₁, hq, harr⟩
 | succ n ih =>
  intro rest a w h
  obtain ⟨e, a₁, w₁, hq, harr⟩ := h b (.inScope c :: k) cs
  cases e with
  | normal => exact ⟨.normal, a₁, w₁, hq, Steps.trans harr (.one step_inScope)⟩
  | exit id => exact ⟨.exit id, a₁, w₁, hq, fun k' hk => harr k' (by simp [exitTo, hk])⟩
  | goto l' =>
   obtain ⟨rest', hf, hr⟩ := hq
   have hg : gotoIn l' (.inScope c :: k) = some (.code rest' :: .inScope c :: k) := by simp [gotoIn, hf]
   obtain ⟨e₂, a₂, w₂, hq₂, harr₂⟩ := ih rest' a₁ w₁ hr
   exact ⟨e₂, a₂, w₂, hq₂, .of_steps (harr _ hg) harr₂⟩
  | ret => exact ⟨_, a₁, w₁, hq, harr⟩
  | panic ch => exact ⟨_, a₁, w₁, hq, harr⟩
  | outgrown => exact ⟨_, a₁, w₁, hq, harr⟩
theorem wp_scope_fwd (n : Nat) (first : c.wp P (fwd P c Q n) a w) : (Code.scope c).wp P Q a w := by
 intro b k cs
 obtain ⟨e, a₁, w₁, hq, harr⟩ := key b k cs n c a w first
 exact ⟨e, a₁, w₁, hq, .of_steps (.one step_scope) harr⟩
end
end Go.Proofs.YtmpdhdnoohmndaaGreatDoor.Jump

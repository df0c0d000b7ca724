import Derived.Test.YtmpdhdnoohmndaaGreatDoorProg
import Derived.Below
import Derived.Deep.Draws
import Derived.Deep.AppendLies
import Derived.Maps.AppendAt
import Derived.OwnWalk
import Derived.Laws.BytesArg
import Derived.Laws.MakeOwn
import Derived.Laws.OwnMore
import Derived.Deep.OwnRows
import Derived.Tactics
import Derived.Lib.ConvBytes
import Derived.Laws.Slices
import Derived.WalkKit
import Derived.KernelRfl
import Derived.RowKit3
import Derived.Deep.LoopGhost
import Derived.Deep.QuietTactic
import Derived.BigQuiet
import Derived.WideLaws
import Derived.Deep.DeepCutAuto
import Derived.Deep.CutBlock
import Derived.Deep.RegionHeld3
import Derived.Laws.Rows
import Derived.Lib.AppendStr
import Derived.ArgAppend
import Derived.Laws.IdiomCopy
import Derived.OrdersHeld
import Derived.Laws.BitsLemmas
import Derived.RowKit
import Derived.Test.YtmpdhdnoohmndaaGreatDoorVall
import Derived.Test.YtmpdhdnoohmndaaGreatDoorZip
import Derived.IntWalk
namespace Go.Proofs.YtmpdhdnoohmndaaGreatDoor.PFnGjItems
open Go.RowKit Go.Proofs.YtmpdhdnoohmndaaGreatDoorW.PrintWords Go.Proofs.YtmpdhdnoohmndaaGreatDoorW.PrintLast Go.Proofs.YtmpdhdnoohmndaaGreatDoorW.PrintMore
attribute [local go_sem] max2_int min2_int max_two min_two max_three min_three max_four min_four
set_option linter.unusedVariables false
set_option linter.unusedSimpArgs false
def errW : Option Int → Value
 | none => .nilIface
 | some c => .iface 121 (.int .i64 c)
theorem errW_none : errW none = .nilIface := rfl
theorem errW_some (c : Int) : errW (some c) = .iface 121 (.int .i64 c) := rfl
structure S93 where
 f0 : Int
 f1 : Int
structure S31 where
 f0 : Int
 f1 : Int
 f2 : Int
 f3 : (List S93)
 f4 : (List S31)
structure S25 where
 f0 : Int
 f1 : au
 f2 : (List au)
 f3 : (List S25)
end Go.Proofs.YtmpdhdnoohmndaaGreatDoor.PFnGjItems
namespace Go.Proofs.YtmpdhdnoohmndaaGreatDoor.Dec
open Go.RowKit Go.Proofs.YtmpdhdnoohmndaaGreatDoorW.PrintWords Go.Proofs.YtmpdhdnoohmndaaGreatDoorW.PrintLast Go.Proofs.YtmpdhdnoohmndaaGreatDoorW.PrintMore
set_option linter.unusedVariables false
structure IsDec (w0 W : World) (g : Nat) (b : Nat → Int) (nd dp : Int) (ng tr : Bool) : Prop where
 ge : w0.heap.size ≤ g
 blk : ∃ (cs : Array Value) (t : TypeId), W.heap[g]? = some (.cells cs t (0, 0)) ∧ cs.size = 804 ∧ (∀ i, i < 800 → cs[i]? = some (.int .u8 (b i))) ∧ cs[800]? = some (.int .i64 nd) ∧ cs[801]? = some (.int .i64 dp) ∧ cs[802]? = some (.bool ng) ∧ cs[803]? = some (.bool tr)
section
variable {w0 W : World} {g : Nat} {b : Nat → Int} {nd dp : Int} {ng tr : Bool}
theorem IsDec.at_ (h : IsDec w0 W g b nd dp ng tr) {i : Nat} (hi : i < 800) : W.cell? ⟨g, i, none⟩ = some (.int .u8 (b i)) := by
 obtain ⟨cs, t, hb, _, hc, _⟩ := h.blk
 rw [blk_cell hb]
 exact hc i hi
theorem IsDec.nd_ (h : IsDec w0 W g b nd dp ng tr) : W.cell? ⟨g, 800, none⟩ = some (.int .i64 nd) := by
 obtain ⟨cs, t, hb, _, _, hc, _⟩ := h.blk
 rw [blk_cell hb]
 exact hc
theorem IsDec.dp_ (h : IsDec w0 W g b nd dp ng tr) : W.cell? ⟨g, 801, none⟩ = some (.int .i64 dp) := by
 obtain ⟨cs, t, hb, _, _, _, hc, _⟩ := h.blk
 rw [blk_cell hb]
 exact hc
theorem IsDec.ng_ (h : IsDec w0 W g b nd dp ng tr) : W.cell? ⟨g, 802, none⟩ = some (.bool ng) := by
 obtain ⟨cs, t, hb, _, _, _, _, hc, _⟩ := h.blk
 rw [blk_cell hb]
 exact hc
theorem IsDec.tr_ (h : IsDec w0 W g b nd dp ng tr) : W.cell? ⟨g, 803, none⟩ = some (.bool tr) := by
 obtain ⟨cs, t, hb, _, _, _, _, _, hc⟩ := h.blk
 rw [blk_cell hb]
 exact hc
theorem IsDec.fz (h : IsDec w0 W g b nd dp ng tr) (i : Nat) : W.frozen? ⟨g, i, none⟩ = false := by
 obtain ⟨cs, t, hb, _⟩ := h.blk
 exact blk_frozen hb i
theorem IsDec.drewN (h : IsDec w0 W g b nd dp ng tr) (n : Nat) : IsDec w0 (W.drewN n) g b nd dp ng tr := ⟨h.ge, h.blk⟩
theorem IsDec.drew (h : IsDec w0 W g b nd dp ng tr) : IsDec w0 W.drew g b nd dp ng tr := ⟨h.ge, h.blk⟩
theorem IsDec.kept (h : IsDec w0 W g b nd dp ng tr) {W1 : World} (e : W1.heap[g]? = W.heap[g]?) : IsDec w0 W1 g b nd dp ng tr := ⟨h.ge, by rw [e]; exact h.blk⟩
def upd (b : Nat → Int) (i : Nat) (v : Int) : Nat → Int := fun j => if j = i then v else b j
theorem upd_at (b : Nat → Int) (i : Nat) (v : Int) : upd b i v i = v := if_pos rfl
theorem upd_ne (b : Nat → Int) {i j : Nat} (v : Int) (h : j ≠ i) : upd b i v j = b j := if_neg h
theorem IsDec.put (h : IsDec w0 W g b nd dp ng tr) {i : Nat} (hi : i < 800) (v : Int) : IsDec w0 (W.setCell ⟨g, i, none⟩ (.int .u8 v)) g (upd b i v) nd dp ng tr := by
 obtain ⟨cs, t, hb, hs, hc, h0, h1, h2, h3⟩ := h.blk
 refine ⟨h.ge, cs.setIfInBounds i (.int .u8 v), t, blk_set hb i _, by simp [hs], ?_, ?_, ?_, ?_, ?_⟩
 ·intro j hj
  rw [Array.getElem?_setIfInBounds]
  by_cases e : i = j
  ·subst e
   rw [if_pos rfl, if_pos (by omega), upd_at]
  ·rw [if_neg e, upd_ne _ _ (fun h => e h.symm)]
   exact hc j hj
 all_goals rw [Array.getElem?_setIfInBounds, if_neg (by omega)]; assumption
theorem IsDec.set_nd (h : IsDec w0 W g b nd dp ng tr) (v : Int) : IsDec w0 (W.setCell ⟨g, 800, none⟩ (.int .i64 v)) g b v dp ng tr := by
 obtain ⟨cs, t, hb, hs, hc, h0, h1, h2, h3⟩ := h.blk
 refine ⟨h.ge, cs.setIfInBounds 800 (.int .i64 v), t, blk_set hb 800 _, by simp [hs], ?_, ?_, ?_, ?_, ?_⟩
 ·intro j hj
  rw [Array.getElem?_setIfInBounds, if_neg (by omega)]
  exact hc j hj
 ·rw [Array.getElem?_setIfInBounds, if_pos rfl, if_pos (by omega)]
 all_goals rw [Array.getElem?_setIfInBounds, if_neg (by omega)]; assumption
theorem IsDec.set_dp (h : IsDec w0 W g b nd dp ng tr) (v : Int) : IsDec w0 (W.setCell ⟨g, 801, none⟩ (.int .i64 v)) g b nd v ng tr := by
 obtain ⟨cs, t, hb, hs, hc, h0, h1, h2, h3⟩ := h.blk
 refine ⟨h.ge, cs.setIfInBounds 801 (.int .i64 v), t, blk_set hb 801 _, by simp [hs], ?_, ?_, ?_, ?_, ?_⟩
 ·intro j hj
  rw [Array.getElem?_setIfInBounds, if_neg (by omega)]
  exact hc j hj
 ·rw [Array.getElem?_setIfInBounds, if_neg (by omega)]; assumption
 ·rw [Array.getElem?_setIfInBounds, if_pos rfl, if_pos (by omega)]
 all_goals rw [Array.getElem?_setIfInBounds, if_neg (by omega)]; assumption
theorem IsDec.set_ng (h : IsDec w0 W g b nd dp ng tr) (v : Bool) : IsDec w0 (W.setCell ⟨g, 802, none⟩ (.bool v)) g b nd dp v tr := by
 obtain ⟨cs, t, hb, hs, hc, h0, h1, h2, h3⟩ := h.blk
 refine ⟨h.ge, cs.setIfInBounds 802 (.bool v), t, blk_set hb 802 _, by simp [hs], ?_, ?_, ?_, ?_, ?_⟩
 ·intro j hj
  rw [Array.getElem?_setIfInBounds, if_neg (by omega)]
  exact hc j hj
 ·rw [Array.getElem?_setIfInBounds, if_neg (by omega)]; assumption
 ·rw [Array.getElem?_setIfInBounds, if_neg (by omega)]; assumption
 ·rw [Array.getElem?_setIfInBounds, if_pos rfl, if_pos (by omega)]
 ·rw [Array.getElem?_setIfInBounds, if_neg (by omega)]; assumption
theorem IsDec.set_tr (h : IsDec w0 W g b nd dp ng tr) (v : Bool) : IsDec w0 (W.setCell ⟨g, 803, none⟩ (.bool v)) g b nd dp ng v := by
 obtain ⟨cs, t, hb, hs, hc, h0, h1, h2, h3⟩ := h.blk
 refine ⟨h.ge, cs.setIfInBounds 803 (.bool v), t, blk_set hb 803 _, by simp [hs], ?_, ?_, ?_, ?_, ?_⟩
 ·intro j hj
  rw [Array.getElem?_setIfInBounds, if_neg (by omega)]
  exact hc j hj
 ·rw [Array.getElem?_setIfInBounds, if_neg (by omega)]; assumption
 ·rw [Array.getElem?_setIfInBounds, if_neg (by omega)]; assumption
 ·rw [Array.getElem?_setIfInBounds, if_neg (by omega)]; assumption
 ·rw [Array.getElem?_setIfInBounds, if_pos rfl, if_pos (by omega)]
end
structure On (w0 w W : World) (g : Nat) : Prop where
 below : Below w0.heap.size w0 W
 keep : KeepBut w W g none
theorem On.refl {w0 w : World} (g : Nat) (h : Below w0.heap.size w0 w) : On w0 w w g := ⟨h, KeepBut.refl w g none⟩
theorem On.drewN {w0 w W : World} {g : Nat} (h : On w0 w W g) (n : Nat) : On w0 w (W.drewN n) g := ⟨h.below.trans ⟨rfl, rfl, rfl, Nat.le_refl _, fun _ _ => rfl⟩, keep_drewN h.keep n⟩
theorem On.drew {w0 w W : World} {g : Nat} (h : On w0 w W g) : On w0 w W.drew g := ⟨h.below.drew, keep_drew h.keep⟩
theorem On.set {w0 w W : World} {g : Nat} (h : On w0 w W g) (hg : w0.heap.size ≤ g) (i : Nat) (v : Value) : On w0 w (W.setCell ⟨g, i, none⟩ v) g := ⟨below_set h.below hg, h.keep.set_ i v⟩
theorem On.trans {w0 w W W1 : World} {g : Nat} (h : On w0 w W g) (k : On w0 W W1 g) : On w0 w W1 g := ⟨k.below, h.keep.trans k.keep (.inl rfl)⟩
end Go.Proofs.YtmpdhdnoohmndaaGreatDoor.Dec
namespace Go.Proofs.YtmpdhdnoohmndaaGreatDoor.Dec
open Go.RowKit Go.Proofs.YtmpdhdnoohmndaaGreatDoorW.PrintWords Go.Proofs.YtmpdhdnoohmndaaGreatDoorW.PrintLast Go.Proofs.YtmpdhdnoohmndaaGreatDoorW.PrintMore
attribute [local go_sem] max2_int min2_int max_two min_two max_three min_three max_four min_four
set_option linter.unusedVariables false
set_option linter.unusedSimpArgs false
theorem wrp {x : Int} (h0 : -9223372036854775808 ≤ x) (h1 : x ≤ 9223372036854775807) : IntKind.i64.wrap x = x := (IntWalk.i64_left x).trans (by unfold wrap64; omega)
set_option maxHeartbeats 4000000 in
set_option maxRecDepth 100000 in
theorem trim_calls (g : Nat) (b : Nat → Int) (nd dp : Int) (ng tr : Bool) (w0 w : World) (hI : IsDec w0 w g b nd dp ng tr) (h0 : 0 ≤ nd) (h1 : nd ≤ 800) (hB : On w0 w w g) :
  Calls Tryz.prog 125 #[.pointer (some ⟨g, 0, none⟩)] w fun e w' => e = .returned (.tuple #[]) ∧ ∃ n : Int, 0 ≤ n ∧ n ≤ nd ∧ (∀ j : Nat, n ≤ j → j < nd → b j = 48) ∧ (n > 0 → b (n - 1).toNat ≠ 48) ∧ IsDec w0 w' g b n (if n = 0 then 0 else dp) ng tr ∧ On w0 w w' g := by
 have HI0 := aa hI
 have HB := aa hB
 have HZ := aa (And.intro h0 h1)
 clear hI hB h0 h1
 go_enter Tryz.func125, Tryz.ntmps125
 go_wp2
 go_loopg [] nd.toNat (fun kq w' => ∃ n : Int, Aside0 (kq = n.toNat) ∧ Aside0 (0 ≤ n ∧ n ≤ nd ∧ ∀ j : Nat, n ≤ j → j < nd → b j = 48) ∧ Aside0 (IsDec w0 w' g b n dp ng tr) ∧ Aside0 (On w0 w w' g))
 case atStart => exact ⟨nd, ⟨rfl⟩, ⟨HZ.out.1, Int.le_refl _, fun j h h' => absurd h' (by omega)⟩, HI0, HB⟩
 case round =>
  obtain ⟨n, HM, HN, HI, HB1⟩ := hrel
  clear HI0 HB
  by_cases c : n > 0
  ·have c0 : decide (n > 0) = true := ac c
   have hn0 := HN.out.1
   have hn1 : n ≤ 800 := Int.le_trans HN.out.2.1 HZ.out.2
   have hcn := HI.out.nd_
   have hcd := HI.out.dp_
   have hf0 := HI.out.fz 800
   obtain ⟨m, hm, hm0, hm1⟩ : ∃ m, IntKind.i64.wrap (n - 1) = m ∧ 0 ≤ m ∧ m = n - 1 := ⟨n - 1, wrp (by omega) (by omega), by omega, rfl⟩
   have p0 : (0 ≤ m) = True := af hm0
   have q0 : (m < 800) = True := af (by omega)
   have hcb := HI.out.at_ (i := m.toNat) (by omega)
   obtain ⟨v, hv⟩ : ∃ v, b m.toNat = v := ⟨_, rfl⟩
   rw [hv] at hcb
   have HM1 := aa hm1
   have HV := aa hv
   clear hm1 hv
   by_cases d : v = 48
   ·subst d
    go_wp2
    repeat (go_quiet (fail); try go_wp2)
    go_roundg m.toNat
    case measure => have := HM.out; have := HM1.out; omega
    case rel =>
     have hm1 := HM1.out
     have hv := HV.out
     have hn2 := HN.out.2.1
     refine ⟨m, ⟨rfl⟩, ⟨by omega, by omega, fun j h h' => ?_⟩, ⟨(HI.out.drewN _).set_nd _⟩, ⟨(HB1.out.drewN _).set HI.out.ge _ _⟩⟩
     by_cases e : (j : Int) = m
     ·rw [show j = m.toNat by omega]; exact hv
     ·exact HN.out.2.2 j (by omega) h'
   ·have d0 : (v == 48) = false := ag d
    have e0 : (n == 0) = false := ag (by omega)
    go_wp2
    repeat (go_quiet (fail); try go_wp2)
    first | go_end0 | ((try simp only [Exit.inBlock, Exit.then]); refine bodyPost_ret (results_none rfl _ _ _) rfl ?_)
    have hm1 := HM1.out
    have hv := HV.out
    exact ⟨rfl, n, hn0, HN.out.2.1, HN.out.2.2, fun _ => by rw [← hm1, hv]; exact d, by rw [if_neg (by omega)]; exact HI.out.drewN _, HB1.out.drewN _⟩
  ·have c0 : decide (n > 0) = false := ae c
   have hn0 := HN.out.1
   obtain rfl : n = 0 := by omega
   have hcn := HI.out.nd_
   have hcd := HI.out.dp_
   have hf1 := HI.out.fz 801
   go_wp2
   repeat (go_quiet (fail); try go_wp2)
   first | go_end0 | ((try simp only [Exit.inBlock, Exit.then]); refine bodyPost_ret (results_none rfl _ _ _) rfl ?_)
   exact ⟨rfl, 0, Int.le_refl _, HN.out.2.1, HN.out.2.2, fun h => absurd h (by decide), by rw [if_pos rfl]; exact (HI.out.drewN _).set_dp _, (HB1.out.drewN _).set HI.out.ge _ _⟩
end Go.Proofs.YtmpdhdnoohmndaaGreatDoor.Dec
namespace Go.Proofs.YtmpdhdnoohmndaaGreatDoor.Dec
open Go.RowKit
set_option linter.unusedVariables false
theorem wu {x : Int} (h0 : 0 ≤ x) (h1 : x < 18446744073709551616) : IntKind.u64.wrap x = x := by
 unfold IntKind.wrap
 simp only [IntKind.bits, IntKind.signed]
 simp
 omega
theorem wb {x : Int} (h0 : 0 ≤ x) (h1 : x < 256) : IntKind.u8.wrap x = x := by
 unfold IntKind.wrap
 simp only [IntKind.bits, IntKind.signed]
 simp
 omega
def dg (b : Nat → Int) (i : Nat) : Nat := (b i - 48).toNat
def num (b : Nat → Int) : Nat → Nat
 | 0 => 0
 | n + 1 => num b n * 10 + dg b n
def Digits (b : Nat → Int) (n : Nat) : Prop := ∀ i, i < n → 48 ≤ b i ∧ b i ≤ 57
theorem dg_lt {b : Nat → Int} {n i : Nat} (h : Digits b n) (hi : i < n) : dg b i < 10 := by
 have := h i hi
 unfold dg
 omega
theorem num_lt {b : Nat → Int} : ∀ {n : Nat}, Digits b n → num b n < 10 ^ n
 | 0, _ => by simp [num]
 | n + 1, h => by
  have h1 := num_lt (b := b) (n := n) (fun i hi => h i (by omega))
  have h2 := dg_lt h (Nat.lt_succ_self n)
  rw [num, Nat.pow_succ]
  omega
theorem num_congr {b c : Nat → Int} : ∀ {n : Nat}, (∀ i, i < n → b i = c i) → num b n = num c n
 | 0, _ => rfl
 | n + 1, h => by
  rw [num, num, num_congr (n := n) (fun i hi => h i (by omega))]
  unfold dg
  rw [h n (by omega)]
theorem num_split {b : Nat → Int} {n : Nat} (h : Digits b n) : ∀ q, q ≤ n → num b n / 10 ^ q = num b (n - q) := by
 induction n with
 | zero =>
  intro q hq
  rw [show q = 0 by omega, Nat.pow_zero, Nat.div_one]
 | succ n ih =>
  intro q hq
  cases q with
  | zero => simp
  | succ q =>
   have h1 := ih (fun i hi => h i (by omega)) q (by omega)
   have h2 := dg_lt h (Nat.lt_succ_self n)
   rw [num, Nat.pow_succ, Nat.mul_comm (10 ^ q) 10, ← Nat.div_div_eq_div_mul, show (num b n * 10 + dg b n) / 10 = num b n by omega, h1]
   congr 1
   omega
theorem shl_step {b : Nat → Int} {nd r k : Nat} (h : Digits b nd) (hr : r < nd) :
  let n' := (num b nd % 10 ^ (nd - (r + 1))) * 2 ^ k / 10 ^ (nd - (r + 1)) + dg b r * 2 ^ k
  n' / 10 = (num b nd % 10 ^ (nd - r)) * 2 ^ k / 10 ^ (nd - r) ∧ n' % 10 = (num b nd * 2 ^ k / 10 ^ (nd - (r + 1))) % 10 := by
 intro n'
 obtain ⟨q, hq⟩ : ∃ q, nd = r + 1 + q := ⟨nd - (r + 1), by omega⟩
 have e1 : nd - (r + 1) = q := by omega
 have e2 : nd - r = q + 1 := by omega
 have hT : 0 < 10 ^ q := Nat.pow_pos (by decide)
 have hd := dg_lt h hr
 have gV := num_split h q (by omega)
 have eT := num_split h (q + 1) (by omega)
 rw [show nd - q = r + 1 by omega, num] at gV
 rw [show nd - (q + 1) = r by omega] at eT
 have hS := Nat.mod_lt (num b nd) hT
 have hdm := Nat.div_add_mod (num b nd) (10 ^ q)
 rw [gV] at hdm
 show n' / 10 = _ ∧ n' % 10 = _
 have en : n' = (num b nd % 10 ^ q) * 2 ^ k / 10 ^ q + dg b r * 2 ^ k := by rw [← e1]
 rw [e1, e2, en]
 clear en e1 e2
 generalize hSS : num b nd % 10 ^ q = S at *
 generalize hA : num b r = A at *
 generalize hD : dg b r = d at *
 generalize hT0 : 10 ^ q = T at *
 generalize hV : num b nd = v at *
 have hv : v = A * (10 * T) + (d * T + S) := by
  rw [← hdm]
  have : T * (A * 10 + d) = A * (10 * T) + d * T := by
   rw [Nat.mul_add, Nat.mul_comm T d, ← Nat.mul_assoc, Nat.mul_comm T A, Nat.mul_assoc, Nat.mul_comm T 10]
  omega
 have hlow : d * T + S < 10 * T := by
  have : d * T ≤ 9 * T := Nat.mul_le_mul_right T (by omega)
  omega
 have hmod : v % (10 ^ (q + 1)) = d * T + S := by
  rw [Nat.pow_succ, hT0, Nat.mul_comm T 10, hv, Nat.mul_comm A, Nat.mul_add_mod, Nat.mod_eq_of_lt hlow]
 have en2 : S * 2 ^ k / T + d * 2 ^ k = (d * T + S) * 2 ^ k / T := by
  rw [Nat.add_mul, show d * T * 2 ^ k = T * (d * 2 ^ k) by rw [Nat.mul_comm d T, Nat.mul_assoc], Nat.add_comm (T * _), Nat.add_mul_div_left _ _ hT]
 rw [en2]
 constructor
 ·rw [hmod, Nat.div_div_eq_div_mul, Nat.pow_succ, hT0]
 ·rw [hv, show (A * (10 * T) + (d * T + S)) * 2 ^ k = T * (A * 10 * 2 ^ k) + (d * T + S) * 2 ^ k by
   rw [Nat.add_mul]
   congr 1
   rw [← Nat.mul_assoc, Nat.mul_comm (A * 10) T, Nat.mul_assoc], Nat.mul_add_div hT, show A * 10 * 2 ^ k = 10 * (A * 2 ^ k) by rw [Nat.mul_comm A 10, Nat.mul_assoc], Nat.mul_add_mod]
theorem carry_lt (v q k : Nat) : v % 10 ^ q * 2 ^ k / 10 ^ q < 2 ^ k := by
 rw [Nat.div_lt_iff_lt_mul (Nat.pow_pos (by decide)), Nat.mul_comm (2 ^ k)]
 exact Nat.mul_lt_mul_of_pos_right (Nat.mod_lt _ (Nat.pow_pos (by decide))) (Nat.pow_pos (by decide))
theorem quo_round {M : Nat} (hM : M < 18446744073709551616) : ∃ q q10 e c : Int, IntKind.u64.wrap ((M : Int).tdiv 10) = q ∧ IntKind.u64.wrap (10 * q) = q10 ∧ IntKind.u64.wrap ((M : Int) - q10) = e ∧ IntKind.u64.wrap (e + 48) = c ∧ IntKind.u8.wrap c = c ∧ q = ((M / 10 : Nat) : Int) ∧ e = ((M % 10 : Nat) : Int) ∧ c = 48 + ((M % 10 : Nat) : Int) := by
 have e0 : (M : Int).tdiv 10 = ((M / 10 : Nat) : Int) := by rw [Int.tdiv_eq_ediv_of_nonneg (by omega)]; omega
 have e1 : (M : Int) - 10 * ((M / 10 : Nat) : Int) = ((M % 10 : Nat) : Int) := by omega
 refine ⟨((M / 10 : Nat) : Int), 10 * ((M / 10 : Nat) : Int), ((M % 10 : Nat) : Int), 48 + ((M % 10 : Nat) : Int), ?_, wu (by omega) (by omega), ?_, ?_, wb (by omega) (by omega), rfl, rfl, rfl⟩
 ·rw [e0]; exact wu (by omega) (by omega)
 ·rw [e1]; exact wu (by omega) (by omega)
 ·rw [wu (by omega) (by omega)]; omega
theorem shl_round {b : Nat → Int} {n r k : Nat} (h : Digits b n) (hr : r < n) (hk : k ≤ 60) {x7 : Int} (hx : x7 = ((num b n % 10 ^ (n - (r + 1)) * 2 ^ k / 10 ^ (n - (r + 1)) : Nat) : Int)) :
  ∃ (s a M q q10 e c : Int), IntKind.u64.wrap (b r) = b r ∧ IntKind.u64.wrap (b r - 48) = s ∧ IntKind.u64.wrap (s * 2 ^ min k 64) = a ∧ IntKind.u64.wrap (x7 + a) = M ∧ IntKind.u64.wrap (M.tdiv 10) = q ∧ IntKind.u64.wrap (10 * q) = q10 ∧ IntKind.u64.wrap (M - q10) = e ∧ IntKind.u64.wrap (e + 48) = c ∧ IntKind.u8.wrap c = c ∧
   q = ((num b n % 10 ^ (n - r) * 2 ^ k / 10 ^ (n - r) : Nat) : Int) ∧ e = (((num b n * 2 ^ k / 10 ^ (n - (r + 1))) % 10 : Nat) : Int) ∧ c = 48 + (((num b n * 2 ^ k / 10 ^ (n - (r + 1))) % 10 : Nat) : Int) := by
 have hst := shl_step (k := k) h hr
 dsimp only at hst
 have hdg := dg_lt h hr
 have hbd := h r hr
 have h2k : 2 ^ k ≤ 2 ^ 60 := Nat.pow_le_pow_right (by decide) hk
 have hX := carry_lt (num b n) (n - (r + 1)) k
 have hs : b r = 48 + (dg b r : Int) := by unfold dg; omega
 generalize num b n % 10 ^ (n - (r + 1)) * 2 ^ k / 10 ^ (n - (r + 1)) = X at *
 have hmul : dg b r * 2 ^ k ≤ 9 * 2 ^ 60 := Nat.mul_le_mul (by omega) h2k
 have hM : X + dg b r * 2 ^ k < 18446744073709551616 := by
  have : (2 : Nat) ^ 60 = 1152921504606846976 := by decide
  omega
 obtain ⟨q, q10, e, c, h1, h2, h3, h4, h5, h6, h7, h8⟩ := quo_round hM
 rw [hst.1] at h6
 rw [hst.2] at h7 h8
 refine ⟨(dg b r : Int), ((dg b r * 2 ^ k : Nat) : Int), ((X + dg b r * 2 ^ k : Nat) : Int), q, q10, e, c, wu (by omega) (by omega), ?_, ?_, ?_, h1, h2, h3, h4, h5, h6, h7, h8⟩
 ·rw [show b r - 48 = (dg b r : Int) by omega]; exact wu (by omega) (by omega)
 ·rw [Nat.min_eq_left (by omega : k ≤ 64)]
  have : (dg b r : Int) * 2 ^ k = ((dg b r * 2 ^ k : Nat) : Int) := by push_cast; rfl
  rw [this]
  exact wu (by omega) (by omega)
 ·rw [hx, ← Int.natCast_add]; exact wu (by omega) (by omega)
theorem put_round {V n d y : Nat} (hy : y < d) (hV : V / 10 ^ n < 2 ^ 60) {x7 : Int} (hx : x7 = ((V / 10 ^ (n + d - (y + 1)) : Nat) : Int)) :
  ∃ (q q10 e c : Int), IntKind.u64.wrap (x7.tdiv 10) = q ∧ IntKind.u64.wrap (10 * q) = q10 ∧ IntKind.u64.wrap (x7 - q10) = e ∧ IntKind.u64.wrap (e + 48) = c ∧ IntKind.u8.wrap c = c ∧ q = ((V / 10 ^ (n + d - y) : Nat) : Int) ∧ c = 48 + ((V / 10 ^ (n + d - 1 - y) % 10 : Nat) : Int) := by
 have hle : V / 10 ^ (n + d - (y + 1)) ≤ V / 10 ^ n := Nat.div_le_div_left (Nat.pow_le_pow_right (by decide) (by omega)) (Nat.pow_pos (by decide))
 have : (2 : Nat) ^ 60 = 1152921504606846976 := by decide
 obtain ⟨q, q10, e, c, h1, h2, h3, h4, h5, h6, h7, h8⟩ := quo_round (M := V / 10 ^ (n + d - (y + 1))) (by omega)
 subst hx
 refine ⟨q, q10, e, c, h1, h2, h3, h4, h5, ?_, ?_⟩
 ·have e1 : (n + d - (y + 1)).succ = n + d - y := by omega
  rw [h6, Nat.div_div_eq_div_mul, ← Nat.pow_succ, e1]
 ·rw [h8, show n + d - 1 - y = n + d - (y + 1) by omega]
theorem div_zero_le {V m : Nat} (h : V / 10 ^ m = 0) {j : Nat} (hj : 10 ^ j ≤ V) : j < m := by
 rw [Nat.div_eq_zero_iff] at h
 have h0 : 0 < 10 ^ m := Nat.pow_pos (by decide)
 have : 10 ^ j < 10 ^ m := by omega
 exact (Nat.pow_lt_pow_iff_right (by decide)).mp this
theorem lead {V m : Nat} (h0 : 10 ^ (m - 1) ≤ V) (h1 : V < 10 ^ m) (hm : 1 ≤ m) : V / 10 ^ (m - 1) % 10 ≠ 0 := by
 have hp : 0 < 10 ^ (m - 1) := Nat.pow_pos (by decide)
 have h2 : 1 ≤ V / 10 ^ (m - 1) := (Nat.one_le_div_iff hp).mpr h0
 have h3 : V / 10 ^ (m - 1) < 10 := by
  rw [Nat.div_lt_iff_lt_mul hp, Nat.mul_comm, ← Nat.pow_succ, show (m - 1).succ = m by omega]
  exact h1
 omega
end Go.Proofs.YtmpdhdnoohmndaaGreatDoor.Dec
namespace Go.Proofs.YtmpdhdnoohmndaaGreatDoor.PFnGjItems
open Go.RowKit Go.Proofs.YtmpdhdnoohmndaaGreatDoorW.PrintWords Go.Proofs.YtmpdhdnoohmndaaGreatDoorW.PrintLast Go.Proofs.YtmpdhdnoohmndaaGreatDoorW.PrintMore
attribute [local go_sem] max2_int min2_int max_two min_two max_three min_three max_four min_four
set_option linter.unusedVariables false
set_option linter.unusedSimpArgs false
def bC.l0 : Nat → List Int → au → Int → Option (Bool)
 | 0, _, _, _ => none
 | k + 1, x0, x1, x5 => if x5 < (x1.size : Int) then (if x5 ≥ (x0.length : Int) then (some true) else (if 0 ≤ x5 then (if x5 < (x0.length : Int) then (if (rd x0 x5) = (bt x1 x5) then (bC.l0 k x0 x1 (wrap64 (x5 + 1))) else (some (decide ((rd x0 x5) < (bt x1 x5))))) else (none)) else (none))) else (some false)
def bC.f (k : Nat) (l0 : List Int) (a1 : au) : Option (Bool) := bC.l0 k l0 a1 0
set_option maxHeartbeats 8000000 in
set_option maxRecDepth 100000 in
theorem bC.calls (k : Nat) (A0 : Option Addr) (c0 : Nat) (l0 : List Int) (a1 : au) (r : Bool) (w : World) (hr0 : Kd.C (Kd.int .u8) w A0 l0.length l0) (hc0 : l0.length ≤ c0) (h : bC.f k l0 a1 = some r) :
  Calls Tryz.prog 124 #[.slice A0 l0.length c0, .string a1] w fun e w' => e = .returned (.bool r) ∧ Drawn0 w w' := by
 have Pk := aa hr0
 have Xo := aa hc0
 clear hr0 hc0
 have H : (bC.l0 k l0 a1 0) = some r := h
 clear h
 have H' := aa H
 clear H
 go_enter Tryz.func124, Tryz.ntmps124
 go_wp2
 repeat (go_quiet (fail); try go_wp2)
 go_loopg [5] k (fun kq v5 w' => ∃ (bL : Int), v5 = .int .i64 bL ∧ Aside0 (bC.l0 kq l0 a1 bL = some r) ∧ Aside0 (kq ≤ k) ∧ Drawn0 w w')
 case atStart => exact ⟨(0), Z8, H', ⟨Nat.le_refl _⟩, Z10⟩
 case round =>
  clear H'
  try clear c1
  try clear p2
  obtain ⟨bL, rfl, HA, HK1, ⟨m1, rfl⟩⟩ := hrel
  cases gk with
  | zero => exact absurd HA.out (by simp [bC.l0])
  | succ k1 =>
   have H := HA.out
   clear HA
   simp only [bC.l0] at H
   by_cases c3 : bL < (a1.size : Int)
   ·rw [if_pos c3] at H
    have dE : decide (bL < (a1.size : Int)) = true := ac c3
    clear c3
    by_cases c4 : bL ≥ (l0.length : Int)
    ·rw [if_pos c4] at H
     have fG : decide ((l0.length : Int) ≤ bL) = true := ac c4
     clear c4
     obtain rfl := ar H
     go_wp2
     repeat (go_quiet (fail); try go_wp2)
     go_ret
     exact ⟨Z8, Z10⟩
    ·rw [if_neg c4] at H
     have fG : decide ((l0.length : Int) ≤ bL) = false := ae c4
     clear c4
     by_cases c5 : 0 ≤ bL
     ·rw [if_pos c5] at H
      have gI : decide (0 ≤ bL) = true := ac c5
      clear c5
      by_cases c6 : bL < (l0.length : Int)
      ·rw [if_pos c6] at H
       have eU : decide (bL < (l0.length : Int)) = true := ac c6
       clear c6
       by_cases c8 : (rd l0 bL) = (bt a1 bL)
       ·rw [if_pos c8] at H
        have iK : ((rd l0 bL) == (bt a1 bL)) = true := ah c8
        have lE : ((rd l0 bL) != (bt a1 bL)) = false := aj c8
        clear c8
        have H' := aa H
        clear H
        have p296 : 0 ≤ (bL : Int) := ab Z9
        have q296 : bL < (l0.length : Int) := ab Z9
        obtain ⟨tQ, e296, hx296_0⟩ := Kd.at_int Pk.out bL p296 q296
        cases e296
        replace p296 := af p296
        replace q296 := af q296
        have p7 : 0 ≤ (bL : Int) := ab Z9
        have q7 : bL < (a1.size : Int) := ab Z9
        have hx7 := bt_at a1 bL
        replace p7 := af p7
        replace q7 := af q7
        go_wp2
        repeat (go_quiet (fail); try go_wp2)
        go_roundg k1
        case measure => have := HK1.out; omega
        case rel => exact ⟨(wrap64 (bL + 1)), Z8, H', ⟨by have := HK1.out; omega⟩, Z10⟩
       ·rw [if_neg c8] at H
        have iK : ((rd l0 bL) == (bt a1 bL)) = false := ag c8
        have lE : ((rd l0 bL) != (bt a1 bL)) = true := ai c8
        obtain rfl := ar H
        have p296 : 0 ≤ (bL : Int) := ab Z9
        have q296 : bL < (l0.length : Int) := ab Z9
        obtain ⟨tQ, e296, hx296_0⟩ := Kd.at_int Pk.out bL p296 q296
        cases e296
        replace p296 := af p296
        replace q296 := af q296
        have p7 : 0 ≤ (bL : Int) := ab Z9
        have q7 : bL < (a1.size : Int) := ab Z9
        have hx7 := bt_at a1 bL
        replace p7 := af p7
        replace q7 := af q7
        have p297 : 0 ≤ (bL : Int) := ab Z9
        have q297 : bL < (l0.length : Int) := ab Z9
        obtain ⟨wW, e297, hx297_0⟩ := Kd.at_int Pk.out bL p297 q297
        obtain rfl : tQ = wW := (by injection e297)
        replace p297 := af p297
        replace q297 := af q297
        have p9 : 0 ≤ (bL : Int) := ab Z9
        have q9 : bL < (a1.size : Int) := ab Z9
        have hx9 := bt_at a1 bL
        replace p9 := af p9
        replace q9 := af q9
        go_wp2
        repeat (go_quiet (fail); try go_wp2)
        go_ret
        exact ⟨Z8, Z10⟩
      ·rw [if_neg c6] at H
       exact absurd H (by simp)
     ·rw [if_neg c5] at H
      exact absurd H (by simp)
   ·rw [if_neg c3] at H
    have dE : decide (bL < (a1.size : Int)) = false := ae c3
    clear c3
    obtain rfl := ar H
    go_wp2
    repeat (go_quiet (fail); try go_wp2)
    go_ret
    exact ⟨Z8, Z10⟩
end Go.Proofs.YtmpdhdnoohmndaaGreatDoor.PFnGjItems
namespace Go.Proofs.YtmpdhdnoohmndaaGreatDoor.Dec
open Go.RowKit Go.Proofs.YtmpdhdnoohmndaaGreatDoorW.PrintWords Go.Proofs.YtmpdhdnoohmndaaGreatDoorW.PrintLast Go.Proofs.YtmpdhdnoohmndaaGreatDoorW.PrintMore PFnGjItems
attribute [local go_sem] max2_int min2_int max_two min_two max_three min_three max_four min_four
set_option linter.unusedVariables false
set_option linter.unusedSimpArgs false
def bytes (b : Nat → Int) (n : Nat) : List Int := (List.range n).map b
theorem bytes_len (b : Nat → Int) (n : Nat) : (bytes b n).length = n := by simp [bytes]
set_option maxHeartbeats 4000000 in
set_option maxRecDepth 100000 in
theorem left_calls (g : Nat) (b : Nat → Int) (n : Nat) (dp : Int) (ng tr : Bool) (k : Nat) (w0 w : World) (hI : IsDec w0 w g b n dp ng tr) (hD : Digits b n) (h0 : 1 ≤ n) (h1 : n ≤ 800) (hk0 : 1 ≤ k) (hk1 : k ≤ 60)
  (hdp : -1000000000000 ≤ dp ∧ dp ≤ 1000000000000)
  (L : Addr) (hg : w.cell? ⟨10, 0, none⟩ = some (.slice (some L) 61 61)) (dl : Int) (ct : au) (hc0 : w.cell? (L.add (k * 2)) = some (.int .i64 dl)) (hc1 : w.cell? ⟨(L.add (k * 2)).block, (L.add (k * 2)).off + 1, none⟩ = some (.string ct)) (hL : L.block ≠ g)
  (kk : Nat) (t : Bool) (hp : bC.f kk (bytes b n) ct = some t) (d : Nat) (hdl : (d : Int) = if t = true then dl - 1 else dl) (hd1 : d ≤ 60) (hV1 : num b n * 2 ^ k < 10 ^ (n + d)) (hV0 : 10 ^ (n + d - 1) ≤ num b n * 2 ^ k) (hB : On w0 w w g) :
  Calls Tryz.prog 116 #[.pointer (some ⟨g, 0, none⟩), .int .u64 k] w fun e w' => e = .returned (.tuple #[]) ∧ ∃ (b' : Nat → Int) (n' : Nat) (tr' : Bool), IsDec w0 w' g b' n' (dp + d) ng tr' ∧ 1 ≤ n' ∧ n' ≤ 800 ∧ n' ≤ n + d ∧
   (∀ j, j < n' → b' j = 48 + ((num b n * 2 ^ k / 10 ^ (n + d - 1 - j)) % 10 : Nat)) ∧ (∀ j, n' ≤ j → j < 800 → j < n + d → (num b n * 2 ^ k / 10 ^ (n + d - 1 - j)) % 10 = 0) ∧ On w0 w w' g := by
 have HI := aa hI
 have HB := aa hB
 have HD := aa hD
 have HP := aa hp
 have hcn := hI.nd_
 have hC : Kd.C (Kd.int .u8) w (some ⟨g, 0, none⟩) (bytes b n).length (bytes b n) := by
  refine ⟨rfl, by rw [bytes_len]; omega, fun _ => ⟨_, rfl, fun j p hj => ⟨[.int .u8 p], rfl, rfl, fun i u hu => ?_⟩⟩⟩
  have hjn : j < n := by
   have := (List.getElem?_eq_some_iff.mp hj).1
   rwa [bytes_len] at this
  obtain ⟨rfl, rfl⟩ : i = 0 ∧ u = .int .u8 p := by
   cases i with
   | zero => exact ⟨rfl, by simpa using hu.symm⟩
   | succ i => simp at hu
  have hp : b j = p := by simpa [bytes, hjn] using hj
  have := hI.at_ (i := j) (by omega)
  rw [hp] at this
  by_cases hj0 : j = 0
  ·subst hj0
   simpa [Addr.add, Kd.int, Kd.scalar] using this
  ·simpa [Addr.add, Kd.int, Kd.scalar, hj0] using this
 have HC : Aside0 (∀ m, Calls Tryz.prog 124 #[.slice (some ⟨g, 0, none⟩) n 800, .string ct] (w.drewN m) fun e w' => e = .returned (.bool t) ∧ Drawn0 (w.drewN m) w') := ⟨fun m => by
  have h := bC.calls kk (some ⟨g, 0, none⟩) 800 (bytes b n) ct t (w.drewN m) hC (by rw [bytes_len]; exact h1) hp
  rwa [bytes_len] at h⟩
 have q0 : (0 ≤ (k : Int)) = True := af (by omega)
 have q1 : ((k : Int) < 61) = True := af (by omega)
 have q2 : (0 ≤ (n : Int)) = True := af (by omega)
 have q3 : ((n : Int) ≤ 800) = True := af (by omega)
 have hl0 : (some (Addr.mk g 0 none)) = (some ⟨g, 0, none⟩) := rfl
 clear hI hB hD hp hC
 obtain ⟨N, hN, HN⟩ : ∃ N : Nat, IntKind.i64.wrap ((n : Int) + d) = (N : Int) ∧ Aside0 (N = n + d) := ⟨n + d, by rw [wrp (by omega) (by omega)]; omega, ⟨rfl⟩⟩
 obtain ⟨n1, hn1, HN1⟩ : ∃ n1 : Nat, IntKind.i64.wrap ((n : Int) - 1) = (n1 : Int) ∧ Aside0 (n = n1 + 1) := ⟨n - 1, by rw [wrp (by omega) (by omega)]; omega, ⟨by omega⟩⟩
 have HH := aa (And.intro (And.intro h0 h1) (And.intro hk0 hk1))
 have HV := aa (And.intro hd1 (And.intro hV1 hV0))
 have HX := aa hdp
 have hdw : t = true → IntKind.i64.wrap (dl - 1) = (d : Int) := fun e => by rw [if_pos e] at hdl; rw [wrp (by omega) (by omega)]; omega
 have hdw2 : t = false → dl = (d : Int) := fun e => by rw [e, if_neg (by decide)] at hdl; omega
 clear h0 h1 hk0 hk1 hd1 hV1 hV0 hdp hdl
 go_enter Tryz.func116, Tryz.ntmps116
 cases t
 have hdw3 := hdw2 rfl
 subst hdw3
 clear hdw hdw2
 go_wp2_with (fail)
 go_quiet (first | (refine (HC.out _).mono ?_; rintro e w' ⟨rfl, ⟨nd, rfl⟩⟩; (try first | exact ⟨rfl, _, World.drewN_drewN _ _ _⟩ | exact ⟨rfl, _, Eq.trans (World.drewN_drewN _ _ _) (congrArg (World.drewN _) (Nat.add_assoc _ _ _))⟩)))
 go_wp2_with (fail)
 rotate_left
 have hdw3 : IntKind.i64.wrap (dl - 1) = (d : Int) := by first | exact hdw rfl | exact hdw trivial
 clear hdw hdw2
 go_wp2_with (fail)
 go_quiet (first | (refine (HC.out _).mono ?_; rintro e w' ⟨rfl, ⟨nd, rfl⟩⟩; (try first | exact ⟨rfl, _, World.drewN_drewN _ _ _⟩ | exact ⟨rfl, _, Eq.trans (World.drewN_drewN _ _ _) (congrArg (World.drewN _) (Nat.add_assoc _ _ _))⟩)))
 go_wp2_with (fail)
 all_goals
  go_loopg [5, 6, 7] n (fun kq v5 v6 v7 w' => ∃ (x5 x6 x7 : Int) (b' : Nat → Int) (tr' : Bool), v5 = .int .i64 x5 ∧ v6 = .int .i64 x6 ∧ v7 = .int .u64 x7 ∧ Aside0 (kq ≤ n ∧ x5 = (kq : Int) - 1 ∧ x6 = (kq : Int) + d ∧ x7 = (((num b n % 10 ^ (n - kq)) * 2 ^ k / 10 ^ (n - kq) : Nat) : Int)) ∧ Aside0 (∀ j, j < kq → b' j = b j) ∧ Aside0 (∀ j, kq + d ≤ j → j < 800 → j < n + d → b' j = 48 + ((num b n * 2 ^ k / 10 ^ (n + d - 1 - j)) % 10 : Nat)) ∧ Aside0 (IsDec w0 w' g b' n dp ng tr') ∧ Aside0 (On w0 w w' g))
  case atStart =>
   refine ⟨_, _, _, b, tr, rfl, rfl, rfl, ⟨Nat.le_refl _, by have := HN1.out; omega, by have := HN.out; omega, ?_⟩, ⟨fun _ _ => rfl⟩, ⟨fun j h _ h' => absurd h' (by omega)⟩, ⟨HI.out.drewN _⟩, ⟨HB.out.drewN _⟩⟩
   rw [Nat.sub_self, Nat.pow_zero, Nat.mod_one, Nat.zero_mul, Nat.div_one]
   rfl
  case round =>
   clear HI HB HC hcn
   obtain ⟨x5, x6, x7, b', tr', rfl, rfl, rfl, HM, HA, HE, HI, HB⟩ := hrel
   cases gk with
   | zero =>
    have c0 : decide (x5 ≥ 0) = false := ae Z54
    go_wp2_with (fail)
    have hV60 : num b n * 2 ^ k / 10 ^ n < 2 ^ 60 := by
     have h1 := carry_lt (num b n) n k
     rw [Nat.mod_eq_of_lt (num_lt HD.out)] at h1
     exact Nat.lt_of_lt_of_le h1 (Nat.pow_le_pow_right (by decide) HH.out.2.2)
    have HV60 := aa hV60
    clear hV60
    go_loopg [6, 7] d (fun kq v6 v7 w' => ∃ (x6 x7 : Int) (b1 : Nat → Int) (tr1 : Bool), v6 = .int .i64 x6 ∧ v7 = .int .u64 x7 ∧ Aside0 (kq ≤ d ∧ x6 = (kq : Int) ∧ x7 = ((num b n * 2 ^ k / 10 ^ (n + d - kq) : Nat) : Int)) ∧ Aside0 (∀ j, kq ≤ j → j < 800 → j < n + d → b1 j = 48 + ((num b n * 2 ^ k / 10 ^ (n + d - 1 - j)) % 10 : Nat)) ∧ Aside0 (IsDec w0 w' g b1 n dp ng tr1) ∧ Aside0 (On w0 w w' g))
    case atStart =>
     refine ⟨_, _, b', tr', rfl, rfl, ⟨Nat.le_refl _, Z55, ?_⟩, ⟨fun j h1 h2 h3 => HE.out j (by omega) h2 h3⟩, HI, HB⟩
     rw [HM.out.2.2.2, Nat.sub_zero, Nat.mod_eq_of_lt (num_lt HD.out), Nat.add_sub_cancel]
    case round =>
     clear HI HB HM HA HE
     obtain ⟨x6, x7, b1, tr1, rfl, rfl, HM, HE, HI, HB⟩ := hrel
     by_cases cx : x7 > 0
     ·have cx1 : decide (x7 > 0) = true := ac cx
      cases gk with
      | zero =>
       exfalso
       have h := HM.out.2.2
       rw [Nat.sub_zero, Nat.div_eq_of_lt HV.out.2.1] at h
       omega
      | succ y =>
       have hyd : y < d := HM.out.1
       obtain ⟨y', f8, hy⟩ : ∃ y' : Nat, IntKind.i64.wrap (x6 - 1) = (y' : Int) ∧ Aside0 (y' = y) := ⟨y, by rw [wrp (by have := HM.out; have := HV.out.1; omega) (by have := HM.out; have := HV.out.1; omega)]; have := HM.out.2.1; omega, ⟨rfl⟩⟩
       obtain ⟨q, q10, e, c, f4, f5, f6, f7, fc, hq, hc⟩ := put_round hyd HV60.out HM.out.2.2
       have HQE := aa (And.intro hq hc)
       have HYD := aa hyd
       have r0 : (0 ≤ (y' : Int)) = True := af (by omega)
       clear hq hc hyd
       by_cases cy : (y' : Int) < 800
       ·have r1 := af cy
        have r2 : decide ((y' : Int) < 800) = true := ac cy
        have hcy := HI.out.at_ (i := y') (by omega)
        have hfy := HI.out.fz y'
        have HCY := aa cy
        clear cy
        go_wp2_with (fail)
        go_roundg y
        case measure => exact Nat.lt_succ_self y
        case rel =>
         have hyy := hy.out
         obtain ⟨hq, hc⟩ := HQE.out
         have hM := HM.out
         have hcy := HCY.out
         refine ⟨y', q, upd b1 y' c, tr1, rfl, rfl, ⟨by omega, by omega, hq⟩, ⟨fun j h1 h2 h3 => ?_⟩, ⟨HI.out.put (by omega) _⟩, ⟨HB.out.set HI.out.ge _ _⟩⟩
         by_cases ej : j = y'
         ·rw [ej, upd_at, hc, hyy]
         ·rw [upd_ne _ _ ej]
          exact HE.out j (by omega) h2 h3
       ·have r1 : ((y' : Int) < 800) = False := eq_false cy
        have r2 : decide ((y' : Int) < 800) = false := ae cy
        exact absurd HV.out.1 (by have := HYD.out; have := hy.out; omega)
     ·have cx1 : decide (x7 > 0) = false := ae cx
      have hk0 : gk = 0 := by
       have h := HM.out.2.2
       have h2 : num b n * 2 ^ k / 10 ^ (n + d - gk) = 0 := by
        generalize num b n * 2 ^ k / 10 ^ (n + d - gk) = A at h ⊢
        omega
       have := div_zero_le h2 HV.out.2.2
       have := HM.out.1
       omega
      subst hk0
      have hcn := HI.out.nd_
      have hcd := HI.out.dp_
      have hf0 := HI.out.fz 800
      have hf1 := HI.out.fz 801
      obtain ⟨D, hD, HDD⟩ : ∃ D : Int, IntKind.i64.wrap (dp + d) = D ∧ Aside0 (D = dp + d) := ⟨dp + d, wrp (by have := HX.out; have := HV.out.1; omega) (by have := HX.out; have := HV.out.1; omega), ⟨rfl⟩⟩
      by_cases cN : (N : Int) ≥ 800
      ·have cN1 : decide ((N : Int) ≥ 800) = true := ac cN
       have HCN := aa cN
       clear cN
       go_wp2_with (fail)
       refine (trim_calls g b1 800 D ng tr1 w0 _ (((HI.out.set_nd _).set_nd _).set_dp _) (by omega) (by omega) (On.refl g ((((HB.out.set HI.out.ge 800 _).set HI.out.ge 800 _).set HI.out.ge 801 _)).below)).mono ?_
       rintro e w' ⟨rfl, n2, hn0, hn2, hz, hl, hi, ho⟩
       go_wp2_with (fail)
       first | go_end0 | ((try simp only [Exit.inBlock, Exit.then]); refine bodyPost_ret (results_none rfl _ _ _) rfl ?_)
       have hcN := HCN.out
       have hNN := HN.out
       have hh := HH.out
       have hld := lead HV.out.2.2 HV.out.2.1 (by omega)
       have h0 : n2 ≠ 0 := by
        intro h
        subst h
        have h1 := hz 0 (by omega) (by omega)
        have h2 := HE.out 0 (by omega) (by omega) (by omega)
        rw [Nat.sub_zero] at h2
        omega
       obtain ⟨m, rfl⟩ : ∃ m : Nat, n2 = (m : Int) := ⟨n2.toNat, by omega⟩
       rw [if_neg h0, HDD.out] at hi
       refine ⟨rfl, b1, m, tr1, hi, by omega, by omega, by omega, fun j hj => HE.out j (by omega) (by omega) (by omega), fun j h1 h2 h3 => ?_, ((((HB.out.set HI.out.ge 800 _).set HI.out.ge 800 _).set HI.out.ge 801 _)).trans ho⟩
       have e1 := hz j (by omega) (by omega)
       have e2 := HE.out j (by omega) h2 h3
       omega
      ·have cN1 : decide ((N : Int) ≥ 800) = false := ae cN
       have HCN := aa cN
       clear cN
       go_wp2_with (fail)
       refine (trim_calls g b1 N D ng tr1 w0 _ ((HI.out.set_nd _).set_dp _) (by omega) (by have := HCN.out; omega) (On.refl g (((HB.out.set HI.out.ge 800 _).set HI.out.ge 801 _)).below)).mono ?_
       rintro e w' ⟨rfl, n2, hn0, hn2, hz, hl, hi, ho⟩
       go_wp2_with (fail)
       first | go_end0 | ((try simp only [Exit.inBlock, Exit.then]); refine bodyPost_ret (results_none rfl _ _ _) rfl ?_)
       have hcN := HCN.out
       have hNN := HN.out
       have hh := HH.out
       have hld := lead HV.out.2.2 HV.out.2.1 (by omega)
       have h0 : n2 ≠ 0 := by
        intro h
        subst h
        have h1 := hz 0 (by omega) (by omega)
        have h2 := HE.out 0 (by omega) (by omega) (by omega)
        rw [Nat.sub_zero] at h2
        omega
       obtain ⟨m, rfl⟩ : ∃ m : Nat, n2 = (m : Int) := ⟨n2.toNat, by omega⟩
       rw [if_neg h0, HDD.out] at hi
       refine ⟨rfl, b1, m, tr1, hi, by omega, by omega, by omega, fun j hj => HE.out j (by omega) (by omega) (by omega), fun j h1 h2 h3 => ?_, (((HB.out.set HI.out.ge 800 _).set HI.out.ge 801 _)).trans ho⟩
       have e1 := hz j (by omega) (by omega)
       have e2 := HE.out j (by omega) h2 h3
       omega
   | succ r =>
    obtain ⟨i, hi, hi0⟩ : ∃ i : Nat, x5 = (i : Int) ∧ Aside0 (i = r) := ⟨r, Z54, ⟨rfl⟩⟩
    subst hi
    have hrn : r < n := by have := HM.out.1; omega
    obtain ⟨y, f8, hy⟩ : ∃ y : Nat, IntKind.i64.wrap (x6 - 1) = (y : Int) ∧ Aside0 (y = r + d) := ⟨r + d, by rw [wrp (by have := HM.out; have := HH.out; have := HV.out.1; omega) (by have := HM.out; have := HH.out; have := HV.out.1; omega)]; have := HM.out.2.2.1; omega, ⟨rfl⟩⟩
    obtain ⟨z, f9, hz⟩ : ∃ z : Int, IntKind.i64.wrap ((i : Int) - 1) = z ∧ Aside0 (z = (r : Int) - 1) := ⟨(r : Int) - 1, by rw [hi0.out]; exact wrp (by omega) (by have := HH.out; omega), ⟨rfl⟩⟩
    obtain ⟨s, a, M, q, q10, e, c, f0, f1, f2, f3, f4, f5, f6, f7, fc, hq, he, hc⟩ := shl_round HD.out hrn HH.out.2.2 HM.out.2.2.2
    obtain ⟨v, hv, hvv⟩ : ∃ v, b' i = v ∧ b r = v := ⟨_, rfl, by rw [hi0.out]; exact (HA.out r (Nat.lt_succ_self r)).symm⟩
    rw [hvv] at f0 f1
    have hir := HI.out.at_ (i := i) (by have := hi0.out; have := HH.out; omega)
    rw [hv] at hir
    have p0 : (0 ≤ (i : Int)) = True := af (by omega)
    have p1 : ((i : Int) < 800) = True := af (by have := hi0.out; have := HH.out; omega)
    have p2 : decide ((i : Int) ≥ 0) = true := ac (by omega)
    have Xk := aa hrn
    have HVV := aa (And.intro hv hvv)
    have HQE := aa (And.intro hq (And.intro he hc))
    have r0 : (0 ≤ (y : Int)) = True := af (by omega)
    clear hrn hv hvv hq he hc
    by_cases cy : (y : Int) < 800
    ·have r1 := af cy
     have r2 : decide ((y : Int) < 800) = true := ac cy
     have hcy := HI.out.at_ (i := y) (by omega)
     have hfy := HI.out.fz y
     have HCY := aa cy
     clear cy
     go_wp2_with (fail)
     go_roundg r
     case measure => exact Nat.lt_succ_self r
     case rel =>
      have hyy := hy.out
      obtain ⟨hq, he, hc⟩ := HQE.out
      have hM := HM.out
      have hcy := HCY.out
      have hh := HH.out
      refine ⟨z, y, q, upd b' y c, tr', rfl, rfl, rfl, ⟨by omega, hz.out, by omega, hq⟩, ⟨fun j hj => ?_⟩, ⟨fun j h1 h2 h3 => ?_⟩, ⟨HI.out.put (by omega) _⟩, ⟨HB.out.set HI.out.ge _ _⟩⟩
      ·rw [upd_ne _ _ (by omega)]
       exact HA.out j (by omega)
      ·by_cases ej : j = y
       ·rw [ej, upd_at, hc, show n + d - 1 - y = n - (r + 1) by omega]
       ·rw [upd_ne _ _ ej]
        exact HE.out j (by omega) h2 h3
    ·have r1 : ((y : Int) < 800) = False := eq_false cy
     have r2 : decide ((y : Int) < 800) = false := ae cy
     have HCY := aa cy
     have hct := HI.out.tr_
     have hft := HI.out.fz 803
     clear cy
     by_cases ce : e = 0
     ·subst ce
      go_wp2_with (fail)
      go_roundg r
      case measure => exact Nat.lt_succ_self r
      case rel =>
       have hyy := hy.out
       obtain ⟨hq, he, hc⟩ := HQE.out
       have hM := HM.out
       have hcy := HCY.out
       have hh := HH.out
       exact ⟨z, y, q, b', tr', rfl, rfl, rfl, ⟨by omega, hz.out, by omega, hq⟩, ⟨fun j hj => HA.out j (by omega)⟩, ⟨fun j h1 h2 h3 => HE.out j (by omega) h2 h3⟩, ⟨HI.out⟩, ⟨HB.out⟩⟩
     ·have ce1 : (e != 0) = true := ai ce
      go_wp2_with (fail)
      go_roundg r
      case measure => exact Nat.lt_succ_self r
      case rel =>
       have hyy := hy.out
       obtain ⟨hq, he, hc⟩ := HQE.out
       have hM := HM.out
       have hcy := HCY.out
       have hh := HH.out
       exact ⟨z, y, q, b', true, rfl, rfl, rfl, ⟨by omega, hz.out, by omega, hq⟩, ⟨fun j hj => HA.out j (by omega)⟩, ⟨fun j h1 h2 h3 => HE.out j (by omega) h2 h3⟩, ⟨HI.out.set_tr _⟩, ⟨HB.out.set HI.out.ge _ _⟩⟩
end Go.Proofs.YtmpdhdnoohmndaaGreatDoor.Dec
namespace Go.Proofs.YtmpdhdnoohmndaaGreatDoor.Dec
open Go.RowKit
set_option linter.unusedVariables false
theorem num_pos {b : Nat → Int} (h : 1 ≤ dg b 0) : ∀ {n : Nat}, 1 ≤ n → 1 ≤ num b n
 | n + 1, _ => by
  rw [num]
  cases n with
  | zero => simp [num]; omega
  | succ n => have := num_pos h (n := n + 1) (by omega); omega
theorem u64_mask {x : Int} (h0 : 0 ≤ x) (h1 : x < 18446744073709551616) {k : Nat} (hk : k ≤ 60) : bits .and .u64 x (2 ^ k - 1) = x % 2 ^ k :=
 bits_mask .u64 64 (by decide) (fun n h0 h1 => wu h0 (by simpa using h1)) k (by omega) x h0 (by simpa using h1)
theorem shr_round {k n : Nat} (hk : k ≤ 60) (h1 : n < 10 * 2 ^ k) {x : Int} (hx : x = (n : Int)) {m : Int} (hm : m = 2 ^ k - 1) :
  ∃ (s t c : Int), x / 2 ^ min k 64 = s ∧ bits .and .u64 x m = t ∧ IntKind.u64.wrap (s + 48) = c ∧ IntKind.u8.wrap c = c ∧ s = ((n / 2 ^ k : Nat) : Int) ∧ t = ((n % 2 ^ k : Nat) : Int) ∧ c = 48 + ((n / 2 ^ k : Nat) : Int) ∧ n / 2 ^ k < 10 ∧ n % 2 ^ k < 2 ^ k := by
 have hp : 0 < 2 ^ k := Nat.pow_pos (by decide)
 have h2k : 2 ^ k ≤ 2 ^ 60 := Nat.pow_le_pow_right (by decide) hk
 have e60 : (2 : Nat) ^ 60 = 1152921504606846976 := by decide
 have hq : n / 2 ^ k < 10 := by rw [Nat.div_lt_iff_lt_mul hp]; exact h1
 have e : ((2 : Int) ^ k) = ((2 ^ k : Nat) : Int) := by push_cast; rfl
 subst hx hm
 have a1 : (n : Int) / 2 ^ min k 64 = ((n / 2 ^ k : Nat) : Int) := by rw [Nat.min_eq_left (by omega : k ≤ 64), e, Int.natCast_ediv]
 have a2 : bits .and .u64 (n : Int) (2 ^ k - 1) = ((n % 2 ^ k : Nat) : Int) := by rw [u64_mask (by omega) (by omega) hk, e, Int.natCast_emod]
 have a3 := Nat.mod_lt n hp
 generalize n / 2 ^ k = Q at *
 generalize n % 2 ^ k = R at *
 exact ⟨(Q : Int), (R : Int), 48 + (Q : Int), a1, a2, by rw [wu (by omega) (by omega)]; omega, wb (by omega) (by omega), rfl, rfl, rfl, hq, a3⟩
theorem digit_in {b : Nat → Int} {n r k : Nat} (h : Digits b n) (hr : r < n) (hk : k ≤ 60) (hN : num b r < 2 ^ k) {x : Int} (hx : x = (num b r : Int)) :
  ∃ (t u y : Int), IntKind.u64.wrap (x * 10) = t ∧ IntKind.u64.wrap (b r) = b r ∧ IntKind.u64.wrap (t + b r) = u ∧ IntKind.u64.wrap (u - 48) = y ∧ y = (num b (r + 1) : Int) := by
 have h2k : 2 ^ k ≤ 2 ^ 60 := Nat.pow_le_pow_right (by decide) hk
 have e60 : (2 : Nat) ^ 60 = 1152921504606846976 := by decide
 have hd := h r hr
 have hs : b r = 48 + (dg b r : Int) := by unfold dg; omega
 have hdg := dg_lt h hr
 subst hx
 refine ⟨(num b r : Int) * 10, (num b r : Int) * 10 + b r, (num b r : Int) * 10 + b r - 48, wu (by omega) (by omega), wu (by omega) (by omega), wu (by omega) (by omega), wu (by omega) (by omega), ?_⟩
 rw [num]
 omega
theorem num_next {b : Nat → Int} {n r k : Nat} (h : Digits b n) (hr : r < n) (hN : num b r < 2 ^ k) : num b (r + 1) < 10 * 2 ^ k := by
 have := dg_lt h hr
 rw [num]
 omega
theorem mask_facts {k R n : Nat} (hk : k ≤ 60) (hR : R ≤ n + 60) (hR1 : 1 ≤ R) (hn : n ≤ 800) {dp x4 : Int} (hdp : -1000000000000 ≤ dp ∧ dp ≤ 1000000000000) (h4 : x4 = (R : Int)) :
  ∃ (R1 D P mk : Int), IntKind.i64.wrap (x4 - 1) = R1 ∧ IntKind.i64.wrap (dp - R1) = D ∧ IntKind.u64.wrap (2 ^ min k 64) = P ∧ IntKind.u64.wrap (P - 1) = mk ∧ D = dp - ((R : Int) - 1) ∧ mk = 2 ^ k - 1 := by
 have h2k : 2 ^ k ≤ 2 ^ 60 := Nat.pow_le_pow_right (by decide) hk
 have e60 : (2 : Nat) ^ 60 = 1152921504606846976 := by decide
 have hp : 0 < 2 ^ k := Nat.pow_pos (by decide)
 have e : ((2 : Int) ^ k) = ((2 ^ k : Nat) : Int) := by push_cast; rfl
 refine ⟨(R : Int) - 1, dp - ((R : Int) - 1), 2 ^ k, 2 ^ k - 1, ?_, ?_, ?_, ?_, rfl, rfl⟩
 ·rw [h4, IntWalk.i64_left]; unfold wrap64; omega
 ·rw [IntWalk.i64_left]; unfold wrap64; omega
 ·rw [Nat.min_eq_left (by omega : k ≤ 64), e]; exact wu (by omega) (by omega)
 ·rw [e]; exact wu (by omega) (by omega)
theorem few {k v q : Nat} (hv : 1 ≤ v) (h : v * 10 ^ q < 2 ^ k) : q < k := by
 have h1 : 2 ^ q ≤ 10 ^ q := Nat.pow_le_pow_left (by decide) q
 have h2 : 10 ^ q ≤ v * 10 ^ q := Nat.le_mul_of_pos_left _ hv
 exact (Nat.pow_lt_pow_iff_right (by decide : 1 < 2)).mp (by omega)
theorem step_in {k T : Nat} (hk : k ≤ 60) (hT : T < 2 ^ k) {t v : Int} (ht : t = (T : Int)) (hv : 48 ≤ v ∧ v ≤ 57) :
  ∃ (p u y : Int), IntKind.u64.wrap (t * 10) = p ∧ IntKind.u64.wrap v = v ∧ IntKind.u64.wrap (p + v) = u ∧ IntKind.u64.wrap (u - 48) = y ∧ y = ((T * 10 + (v - 48).toNat : Nat) : Int) ∧ T * 10 + (v - 48).toNat < 10 * 2 ^ k := by
 have h2k : 2 ^ k ≤ 2 ^ 60 := Nat.pow_le_pow_right (by decide) hk
 have e60 : (2 : Nat) ^ 60 = 1152921504606846976 := by decide
 subst ht
 exact ⟨(T : Int) * 10, (T : Int) * 10 + v, (T : Int) * 10 + v - 48, wu (by omega) (by omega), wu (by omega) (by omega), wu (by omega) (by omega), wu (by omega) (by omega), by omega, by omega⟩
theorem even_more {k kq N : Nat} (h1 : kq + 1 ≤ k + 1) (h : 2 ^ (k + 1 - (kq + 1)) ∣ N) : 2 ^ (k + 1 - kq) ∣ N % 2 ^ k * 10 ∧ (kq = 0 → N % 2 ^ k * 10 = 0) := by
 have e : k + 1 - (kq + 1) = k - kq := by omega
 rw [e] at h
 have h2 : 2 ^ (k - kq) ∣ N % 2 ^ k := (Nat.dvd_mod_iff (Nat.pow_dvd_pow 2 (by omega))).mpr h
 refine ⟨?_, fun h0 => ?_⟩
 ·rw [show k + 1 - kq = (k - kq) + 1 by omega, Nat.pow_succ]
  exact Nat.mul_dvd_mul h2 (by decide)
 ·subst h0
  rw [Nat.sub_zero] at h
  rw [Nat.mod_eq_zero_of_dvd h, Nat.zero_mul]
theorem ten_more {k T : Nat} (hk : k ≤ 60) (hT : T < 2 ^ k) {t : Int} (ht : t = (T : Int)) : ∃ p : Int, IntKind.u64.wrap (t * 10) = p ∧ p = ((T * 10 : Nat) : Int) := by
 have h2k : 2 ^ k ≤ 2 ^ 60 := Nat.pow_le_pow_right (by decide) hk
 have e60 : (2 : Nat) ^ 60 = 1152921504606846976 := by decide
 subst ht
 exact ⟨(T : Int) * 10, wu (by omega) (by omega), by omega⟩
end Go.Proofs.YtmpdhdnoohmndaaGreatDoor.Dec
namespace Go.Proofs.YtmpdhdnoohmndaaGreatDoor.Dec
open Go.RowKit Go.Proofs.YtmpdhdnoohmndaaGreatDoorW.PrintWords Go.Proofs.YtmpdhdnoohmndaaGreatDoorW.PrintLast Go.Proofs.YtmpdhdnoohmndaaGreatDoorW.PrintMore
attribute [local go_sem] max2_int min2_int max_two min_two max_three min_three max_four min_four
set_option linter.unusedVariables false
set_option linter.unusedSimpArgs false
set_option maxHeartbeats 4000000 in
set_option maxRecDepth 100000 in
theorem right_calls (g : Nat) (b : Nat → Int) (n : Nat) (dp : Int) (ng tr : Bool) (k : Nat) (w0 w : World) (hI : IsDec w0 w g b n dp ng tr) (hD : Digits b n) (h0 : 1 ≤ n) (h1 : n ≤ 800) (hk0 : 1 ≤ k) (hk1 : k ≤ 60)
  (hb0 : 49 ≤ b 0) (hdp : -1000000000000 ≤ dp ∧ dp ≤ 1000000000000) (hB : On w0 w w g) :
  Calls Tryz.prog 117 #[.pointer (some ⟨g, 0, none⟩), .int .u64 k] w fun e w' => e = .returned (.tuple #[]) ∧ ∃ (b' : Nat → Int) (n' r : Nat) (tr' : Bool), IsDec w0 w' g b' n' (dp - ((r : Int) - 1)) ng tr' ∧ Digits b' n' ∧ 1 ≤ n' ∧ n' ≤ 800 ∧ 49 ≤ b' 0 ∧ 1 ≤ r ∧ r ≤ n + 60 ∧ (dg b 0 < 2 ^ k → 2 ≤ r) ∧ (r = 1 → b' 0 = 48 + ((dg b 0 / 2 ^ k : Nat) : Int)) ∧ On w0 w w' g := by
 have HI := aa hI
 have HB := aa hB
 have HD := aa hD
 have HH := aa (And.intro (And.intro h0 h1) (And.intro hk0 hk1))
 have HX := aa (And.intro hb0 hdp)
 clear hI hB hD h0 h1 hk0 hk1 hb0 hdp
 go_enter Tryz.func117, Tryz.ntmps117
 go_wp2_with (fail)
 go_loopg [4, 6] (n + 1) (fun kq v4 v6 w' => ∃ (x4 x6 : Int) (r : Nat), v4 = .int .i64 x4 ∧ v6 = .int .u64 x6 ∧ Aside0 (kq + r = n + 1 ∧ r ≤ n ∧ x4 = (r : Int) ∧ x6 = (num b r : Int)) ∧ Aside0 (r = 0 ∨ num b (r - 1) < 2 ^ k) ∧ Aside0 (IsDec w0 w' g b n dp ng tr) ∧ Aside0 (On w0 w w' g))
 case atStart => exact ⟨_, _, 0, rfl, rfl, ⟨by omega, by omega, rfl, rfl⟩, ⟨.inl rfl⟩, HI, HB⟩
 case round =>
  clear HI HB
  obtain ⟨x4, x6, r, rfl, rfl, HM, HR, HI, HB⟩ := hrel
  obtain ⟨s, hs, HS⟩ : ∃ s : Int, x6 / 2 ^ min k 64 = s ∧ Aside0 (s = ((num b r / 2 ^ k : Nat) : Int)) := by
   refine ⟨_, rfl, ⟨?_⟩⟩
   rw [HM.out.2.2.2, Nat.min_eq_left (by have := HH.out; omega), show ((2 : Int) ^ k) = ((2 ^ k : Nat) : Int) by push_cast; rfl, Int.natCast_ediv]
  have hcn := HI.out.nd_
  have hcd := HI.out.dp_
  have hf0 := HI.out.fz 800
  have hf1 := HI.out.fz 801
  by_cases c1 : s = 0
  rotate_left
  have c1' : (s == 0) = false := ag c1
  obtain ⟨R, N, HS⟩ : ∃ R N : Nat, Aside0 (x4 = (R : Int) ∧ x6 = (N : Int) ∧ 1 ≤ R ∧ R ≤ n + 60 ∧ 2 ^ k ≤ N ∧ N < 10 * 2 ^ k ∧ (R = 1 → N = dg b 0) ∧ (dg b 0 < 2 ^ k → 2 ≤ R)) := by
   have hM := HM.out
   have hp : 0 < 2 ^ k := Nat.pow_pos (by decide)
   have h1 : num b r / 2 ^ k ≠ 0 := by have := HS.out; generalize num b r / 2 ^ k = A at *; omega
   have h2 : 2 ^ k ≤ num b r := Nat.le_of_not_lt (fun h => h1 (Nat.div_eq_of_lt h))
   have hr1 : 1 ≤ r := Nat.pos_of_ne_zero (fun h => by subst h; simp [num] at h2)
   obtain ⟨q, rfl⟩ : ∃ q, r = q + 1 := ⟨r - 1, by omega⟩
   have hq : num b q < 2 ^ k := by rcases HR.out with h | h; omega; simpa using h
   refine ⟨q + 1, num b (q + 1), ⟨hM.2.2.1, hM.2.2.2, by omega, by omega, h2, num_next HD.out (by omega) hq, fun h => ?_, fun h => ?_⟩⟩
   ·obtain rfl : q = 0 := by omega
    simp [num]
   ·by_cases hq0 : q = 0
    ·subst hq0
     simp [num] at h2
     omega
    ·omega
  obtain ⟨R1, D, P, mk, g1, g2, g3, g4, hD1, hmk⟩ := mask_facts HH.out.2.2 HS.out.2.2.2.1 HS.out.2.2.1 HH.out.1.2 HX.out.2 HS.out.1
  have HG := aa (And.intro hD1 hmk)
  clear HM HR hD1 hmk
  rotate_left
  subst c1
  have hN : num b r < 2 ^ k := by
   have h := HS.out
   have h1 : num b r / 2 ^ k = 0 := by generalize num b r / 2 ^ k = A at *; omega
   rw [Nat.div_eq_zero_iff] at h1
   have hp : 0 < 2 ^ k := Nat.pow_pos (by decide)
   omega
  by_cases c2 : x4 ≥ (n : Int)
  rotate_left
  ·have c2' : decide (x4 ≥ (n : Int)) = false := ae c2
   have hrn : r < n := Z55
   have hir := HI.out.at_ (i := x4.toNat) (by have := HM.out; have := HH.out; omega)
   obtain ⟨t, u, y, f1, f2, f3, f4, hy⟩ := digit_in HD.out hrn HH.out.2.2 hN HM.out.2.2.2
   obtain ⟨v, hv, hvv⟩ : ∃ v, b x4.toNat = v ∧ b r = v := ⟨_, rfl, by rw [show r = x4.toNat by have := HM.out; omega]⟩
   rw [hv] at hir
   rw [hvv] at f2 f3
   obtain ⟨z, f5, hz⟩ : ∃ z : Int, IntKind.i64.wrap (x4 + 1) = z ∧ Aside0 (z = (r : Int) + 1) := ⟨(r : Int) + 1, by rw [wrp (by have := HM.out; omega) (by have := HM.out; have := HH.out; omega)]; have := HM.out.2.2.1; omega, ⟨rfl⟩⟩
   have p0 : (0 ≤ x4) = True := af (by have := HM.out; omega)
   have p1 : (x4 < 800) = True := af (by have := HM.out; have := HH.out; omega)
   have HVV := aa (And.intro hy (And.intro hrn hN))
   clear hv hvv hrn hy hN c2
   go_wp2_with (fail)
   go_roundg (gk - 1)
   case measure => have := HM.out; omega
   case rel =>
    have hM := HM.out
    have hV := HVV.out
    exact ⟨z, y, r + 1, rfl, rfl, ⟨by omega, by omega, by have := hz.out; push_cast; omega, hV.1⟩, ⟨.inr hV.2.2⟩, HI, HB⟩
  case' pos =>
   have c2' : decide (x4 ≥ (n : Int)) = true := ac c2
   have e6 : (x6 == 0) = false := by
    refine ag ?_
    have h1 := HM.out
    have h2 := num_pos (b := b) (by have := HX.out.1; unfold dg; omega) (n := r) (by have := HH.out; omega)
    omega
   have hNn : num b n < 2 ^ k := by
    have e : r = n := by have := HM.out; omega
    rw [← e]; exact hN
   have HN := aa (And.intro hNn (And.intro c2 (num_pos (b := b) (by have := HX.out.1; unfold dg; omega) (n := n) HH.out.1.1)))
   clear hN hNn c2
   go_wp2_with (fail)
   go_loopg [4, 6] 62 (fun kq v4 v6 w' => ∃ (x4 x6 : Int) (q : Nat), v4 = .int .i64 x4 ∧ v6 = .int .u64 x6 ∧ Aside0 (kq + q = 62 ∧ x4 = ((n + q : Nat) : Int) ∧ x6 = ((num b n * 10 ^ q : Nat) : Int) ∧ num b n * 10 ^ q < 10 * 2 ^ k ∧ (q = 0 ∨ num b n * 10 ^ (q - 1) < 2 ^ k)) ∧ Aside0 (IsDec w0 w' g b n dp ng tr) ∧ Aside0 (On w0 w w' g))
   case atStart =>
    have hM := HM.out
    have hN := HN.out
    have hr : r = n := by omega
    subst hr
    exact ⟨_, _, 0, rfl, rfl, ⟨by omega, by rw [hM.2.2.1]; rfl, by rw [hM.2.2.2]; simp, by simp; omega, .inl rfl⟩, HI, HB⟩
   case' round =>
    clear HI HB HM
    obtain ⟨x4, x6, q, rfl, rfl, HM, HI, HB⟩ := hrel
    clear HS
    obtain ⟨s, hs, HS⟩ : ∃ s : Int, x6 / 2 ^ min k 64 = s ∧ Aside0 (s = ((num b n * 10 ^ q / 2 ^ k : Nat) : Int)) := by
     refine ⟨_, rfl, ⟨?_⟩⟩
     rw [HM.out.2.2.1, Nat.min_eq_left (by have := HH.out; omega), show ((2 : Int) ^ k) = ((2 ^ k : Nat) : Int) by push_cast; rfl, Int.natCast_ediv]
    have hcd := HI.out.dp_
    have hf1 := HI.out.fz 801
    by_cases c1 : s = 0
    ·subst c1
     have hp : 0 < 2 ^ k := Nat.pow_pos (by decide)
     have hN : num b n * 10 ^ q < 2 ^ k := by
      have h1 : num b n * 10 ^ q / 2 ^ k = 0 := by have := HS.out; generalize num b n * 10 ^ q / 2 ^ k = A at *; omega
      rw [Nat.div_eq_zero_iff] at h1
      omega
     have hqk := few HN.out.2.2 hN
     have e60 : (2 : Nat) ^ 60 = 1152921504606846976 := by decide
     have h2k : 2 ^ k ≤ 2 ^ 60 := Nat.pow_le_pow_right (by decide) HH.out.2.2
     obtain ⟨t, f1, ht⟩ : ∃ t : Int, IntKind.u64.wrap (x6 * 10) = t ∧ t = ((num b n * 10 ^ (q + 1) : Nat) : Int) := by
      refine ⟨_, ?_, rfl⟩
      rw [HM.out.2.2.1, Nat.pow_succ, ← Nat.mul_assoc]
      generalize num b n * 10 ^ q = A at *
      rw [wu (by omega) (by omega)]
      omega
     obtain ⟨z, f5, hz⟩ : ∃ z : Int, IntKind.i64.wrap (x4 + 1) = z ∧ z = ((n + (q + 1) : Nat) : Int) := ⟨_, by rw [wrp (by have := HM.out; omega) (by have := HM.out; have := HH.out; omega)]; have := HM.out.2.1; rw [this]; omega, rfl⟩
     have hlt : num b n * 10 ^ (q + 1) < 10 * 2 ^ k := by
      rw [Nat.pow_succ, ← Nat.mul_assoc]
      generalize num b n * 10 ^ q = A at *
      omega
     have HZ := aa (And.intro ht (And.intro hz (And.intro hlt (And.intro hN hqk))))
     clear ht hz hlt hN hqk e60 h2k hp
     go_wp2_with (fail)
     go_roundg (gk - 1)
     case measure => have := HM.out; have := HZ.out; have := HH.out; omega
     case rel =>
      have hM := HM.out
      obtain ⟨ht, hz, hlt, hN, hqk⟩ := HZ.out
      have hh := HH.out
      exact ⟨z, t, q + 1, rfl, rfl, ⟨by omega, hz, ht, hlt, .inr hN⟩, HI, HB⟩
    have c1' : (s == 0) = false := ag c1
    obtain ⟨R, N, HS2⟩ : ∃ R N : Nat, Aside0 (x4 = (R : Int) ∧ x6 = (N : Int) ∧ 1 ≤ R ∧ R ≤ n + 60 ∧ 2 ^ k ≤ N ∧ N < 10 * 2 ^ k ∧ (R = 1 → N = dg b 0) ∧ (dg b 0 < 2 ^ k → 2 ≤ R)) := by
     have hM := HM.out
     have hh := HH.out
     have h1 : num b n * 10 ^ q / 2 ^ k ≠ 0 := by have := HS.out; generalize num b n * 10 ^ q / 2 ^ k = A at *; omega
     have h2 : 2 ^ k ≤ num b n * 10 ^ q := Nat.le_of_not_lt (fun h => h1 (Nat.div_eq_of_lt h))
     have hq : 1 ≤ q := Nat.pos_of_ne_zero (fun h => by
      subst h
      have := HN.out.1
      simp at h2
      omega)
     have hqk : q ≤ 60 := by
      rcases hM.2.2.2.2 with h | h
      ·omega
      ·have := few HN.out.2.2 h
       omega
     exact ⟨n + q, _, ⟨hM.2.1, hM.2.2.1, by omega, by omega, h2, hM.2.2.2.1, fun h => by omega, fun _ => by omega⟩⟩
    clear HS
    have HS := HS2
    clear HS2
    obtain ⟨R1, D, P, mk, g1, g2, g3, g4, hD1, hmk⟩ := mask_facts HH.out.2.2 HS.out.2.2.2.1 HS.out.2.2.1 HH.out.1.2 HX.out.2 HS.out.1
    have HG := aa (And.intro hD1 hmk)
    clear HM HN hD1 hmk
  all_goals
   go_wp2_with (fail)
   go_loopg [4, 5, 6] (n - R) (fun kq v4 v5 v6 w' => ∃ (x4 x5 x6 : Int) (r q N1 : Nat) (b1 : Nat → Int), v4 = .int .i64 x4 ∧ v5 = .int .i64 x5 ∧ v6 = .int .u64 x6 ∧ Aside0 (kq = n - r ∧ x4 = (r : Int) ∧ x5 = (q : Int) ∧ x6 = (N1 : Int) ∧ q + R = r ∧ (r ≤ n ∨ q = 0) ∧ N1 < 10 * 2 ^ k) ∧ Aside0 (∀ j, r ≤ j → j < n → b1 j = b j) ∧ Aside0 (∀ j, j < q → 48 ≤ b1 j ∧ b1 j ≤ 57) ∧ Aside0 ((q = 0 → N1 = N) ∧ (0 < q → b1 0 = 48 + ((N / 2 ^ k : Nat) : Int))) ∧ Aside0 (IsDec w0 w' g b1 n D ng tr) ∧ Aside0 (On w0 w w' g))
   case atStart =>
    have hS := HS.out
    exact ⟨_, _, _, R, 0, N, b, rfl, rfl, rfl, ⟨rfl, hS.1, rfl, hS.2.1, by omega, .inr rfl, hS.2.2.2.2.2.1⟩, ⟨fun _ _ _ => rfl⟩, ⟨fun j h => absurd h (by omega)⟩, ⟨fun _ => rfl, fun h => absurd h (by omega)⟩, ⟨HI.out.set_dp _⟩, ⟨HB.out.set HI.out.ge _ _⟩⟩
   case round =>
    clear HI HB hcd hf1
    obtain ⟨x4, x5, x6, r, q, N1, b1, rfl, rfl, rfl, HM, HA, HE, HF, HI, HB⟩ := hrel
    have hcn := HI.out.nd_
    have hf0 := HI.out.fz 800
    by_cases c3 : x4 < (n : Int)
    ·have c3' : decide (x4 < (n : Int)) = true := ac c3
     have hrn : r < n := Z54
     have hq8 : q < 800 := by have := HM.out; have := HS.out; have := HH.out; omega
     obtain ⟨s3, t3, c, e1, e2, e3, e4, eX, ht3, hc3, iH, ht2k⟩ := shr_round HH.out.2.2 HM.out.2.2.2.2.2.2 HM.out.2.2.2.1 HG.out.2
     obtain ⟨v, hv, hvb⟩ : ∃ v, b1 x4.toNat = v ∧ v = b r := ⟨_, rfl, by rw [show x4.toNat = r by have := HM.out.2.1; omega]; exact HA.out r (Nat.le_refl _) hrn⟩
     obtain ⟨p, u, y, e5, e6, e7, e8, hy, hy2⟩ := step_in HH.out.2.2 ht2k ht3 (v := v) (by rw [hvb]; exact HD.out r hrn)
     obtain ⟨z, e9, hz⟩ : ∃ z : Int, IntKind.i64.wrap (x4 + 1) = z ∧ z = ((r + 1 : Nat) : Int) := ⟨_, by rw [wrp Z54 (by have := HM.out.2.1; have := HH.out; omega)]; have := HM.out.2.1; rw [this]; rfl, rfl⟩
     obtain ⟨q2, e10, hq2⟩ : ∃ q2 : Int, IntKind.i64.wrap (x5 + 1) = q2 ∧ q2 = ((q + 1 : Nat) : Int) := ⟨_, by rw [wrp Z55 Z55]; have := HM.out.2.2.1; rw [this]; rfl, rfl⟩
     have hir := HI.out.at_ (i := x4.toNat) (by have := HM.out.2.1; have := HH.out; omega)
     rw [hv] at hir
     have hiq := HI.out.at_ (i := x5.toNat) Z55
     have hfq := HI.out.fz x5.toNat
     have p0 : (0 ≤ x4) = True := af Z54
     have p1 : (x4 < 800) = True := af (by have := HM.out.2.1; have := HH.out; omega)
     have p2 : (0 ≤ x5) = True := af Z55
     have p3 : (x5 < 800) = True := af Z55
     have HZ := aa (And.intro hrn (And.intro hq8 (And.intro eX (And.intro hc3 (And.intro iH (And.intro hy (And.intro hy2 (And.intro hz hq2))))))))
     clear hrn hq8 eX ht3 hc3 iH ht2k hv hvb hy hy2 hz hq2 c3
     go_wp2_with (fail)
     go_roundg (n - (r + 1))
     case measure => have := HM.out.1; have := HZ.out.1; omega
     case rel =>
      have hM := HM.out
      have hF := HF.out
      have hh := HH.out
      have hS := HS.out
      obtain ⟨hrn, hq8, eX, hc3, iH, hy, hy2, hz, hq2⟩ := HZ.out
      have hx5 : x5.toNat = q := by omega
      refine ⟨z, q2, y, r + 1, q + 1, _, upd b1 x5.toNat c, rfl, rfl, rfl, ⟨rfl, hz, hq2, hy, by omega, .inl (by omega), hy2⟩, ⟨fun j h1 h2 => ?_⟩, ⟨fun j h => ?_⟩, ⟨fun h => absurd h (by omega), fun _ => ?_⟩, ⟨HI.out.put (by omega) _⟩, ⟨HB.out.set HI.out.ge _ _⟩⟩
      ·rw [upd_ne _ _ (by omega)]
       exact HA.out j (by omega) h2
      ·by_cases ej : j = q
       ·rw [ej, hx5, upd_at]
        generalize N1 / 2 ^ k = A at hc3 iH
        omega
       ·rw [upd_ne _ _ (by omega)]
        exact HE.out j (by omega)
      ·by_cases ej : q = 0
       ·rw [hx5, ej, upd_at, hc3, hF.1 ej]
       ·rw [upd_ne _ _ (by omega)]
        exact hF.2 (by omega)
    ·have c3' : decide (x4 < (n : Int)) = false := ae c3
     go_wp2_with (fail)
     clear hcn hf0
     go_loopg [5, 6] (k + 1) (fun kq v5 v6 w' => ∃ (x5 x6 : Int) (q N1 : Nat) (b1 : Nat → Int) (tr1 : Bool), v5 = .int .i64 x5 ∧ v6 = .int .u64 x6 ∧ Aside0 (kq ≤ k + 1 ∧ x5 = (q : Int) ∧ x6 = (N1 : Int) ∧ q ≤ 800 ∧ N1 < 10 * 2 ^ k ∧ 2 ^ (k + 1 - kq) ∣ N1 ∧ (kq = 0 → N1 = 0)) ∧ Aside0 (∀ j, j < q → 48 ≤ b1 j ∧ b1 j ≤ 57) ∧ Aside0 ((q = 0 → N1 = N) ∧ (0 < q → b1 0 = 48 + ((N / 2 ^ k : Nat) : Int))) ∧ Aside0 (IsDec w0 w' g b1 n D ng tr1) ∧ Aside0 (On w0 w w' g))
     case atStart =>
      have hM := HM.out
      have hS := HS.out
      have hh := HH.out
      exact ⟨_, _, q, N1, b1, tr, rfl, rfl, ⟨Nat.le_refl _, hM.2.2.1, hM.2.2.2.1, by omega, hM.2.2.2.2.2.2, by rw [Nat.sub_self, Nat.pow_zero]; exact Nat.one_dvd _, fun h => absurd h (by omega)⟩, HE, HF, HI, HB⟩
     case round =>
      clear HI HB HM HA HE HF
      obtain ⟨x5, x6, q, N1, b1, tr1, rfl, rfl, HM, HE, HF, HI, HB⟩ := hrel
      by_cases c4 : x6 > 0
      ·have c4' : decide (x6 > 0) = true := ac c4
       cases gk with
       | zero => exact absurd (HM.out.2.2.2.2.2.2 rfl) Z55
       | succ y =>
        obtain ⟨s3, t3, c, e1, e2, e3, e4, eX, ht3, hc3, iH, ht2k⟩ := shr_round HH.out.2.2 HM.out.2.2.2.2.1 HM.out.2.2.1 HG.out.2
        obtain ⟨p, e5, hp⟩ := ten_more HH.out.2.2 ht2k ht3
        have hev := even_more (N := N1) HM.out.1 HM.out.2.2.2.2.2.1
        obtain ⟨q2, e10, hq2⟩ : ∃ q2 : Int, IntKind.i64.wrap (x5 + 1) = q2 ∧ q2 = ((q + 1 : Nat) : Int) := ⟨_, by rw [wrp Z54 (by have := HM.out.2.1; have := HM.out.2.2.2.1; omega)]; have := HM.out.2.1; rw [this]; rfl, rfl⟩
        have HZ := aa (And.intro eX (And.intro hc3 (And.intro iH (And.intro hp (And.intro hev (And.intro hq2 ht2k))))))
        clear eX ht3 hc3 iH ht2k hp hev hq2
        by_cases c5 : x5 < 800
        ·have c5' : decide (x5 < 800) = true := ac c5
         have hiq := HI.out.at_ (i := x5.toNat) Z54
         have hfq := HI.out.fz x5.toNat
         have p2 : (0 ≤ x5) = True := af Z54
         have p3 : (x5 < 800) = True := af c5
         have tP := aa c5
         clear c4 c5
         go_wp2_with (fail)
         go_roundg y
         case measure => exact Nat.lt_succ_self y
         case rel =>
          have hM := HM.out
          have hF := HF.out
          have h5 := tP.out
          obtain ⟨eX, hc3, iH, hp, hev, hq2, ht2k⟩ := HZ.out
          have hx5 : x5.toNat = q := by omega
          refine ⟨q2, p, q + 1, _, upd b1 x5.toNat c, tr1, rfl, rfl, ⟨by omega, hq2, hp, by omega, by omega, hev.1, hev.2⟩, ⟨fun j h => ?_⟩, ⟨fun h => absurd h (by omega), fun _ => ?_⟩, ⟨HI.out.put (by omega) _⟩, ⟨HB.out.set HI.out.ge _ _⟩⟩
          ·by_cases ej : j = q
           ·rw [ej, hx5, upd_at]
            generalize N1 / 2 ^ k = A at hc3 iH
            omega
           ·rw [upd_ne _ _ (by omega)]
            exact HE.out j (by omega)
          ·by_cases ej : q = 0
           ·rw [hx5, ej, upd_at, hc3, hF.1 ej]
           ·rw [upd_ne _ _ (by omega)]
            exact hF.2 (by omega)
        ·have c5' : decide (x5 < 800) = false := ae c5
         have tP := aa c5
         have hct := HI.out.tr_
         have hft := HI.out.fz 803
         clear c4 c5
         by_cases c6 : s3 > 0
         ·have c6' : decide (s3 > 0) = true := ac c6
          clear c6
          go_wp2_with (fail)
          go_roundg y
          case measure => exact Nat.lt_succ_self y
          case rel =>
           have hM := HM.out
           have h5 := tP.out
           obtain ⟨eX, hc3, iH, hp, hev, hq2, ht2k⟩ := HZ.out
           exact ⟨x5, p, q, _, b1, true, rfl, rfl, ⟨by omega, hM.2.1, hp, hM.2.2.2.1, by omega, hev.1, hev.2⟩, HE, ⟨fun h => absurd h (by omega), HF.out.2⟩, ⟨HI.out.set_tr _⟩, ⟨HB.out.set HI.out.ge _ _⟩⟩
         ·have c6' : decide (s3 > 0) = false := ae c6
          clear c6
          go_wp2_with (fail)
          go_roundg y
          case measure => exact Nat.lt_succ_self y
          case rel =>
           have hM := HM.out
           have h5 := tP.out
           obtain ⟨eX, hc3, iH, hp, hev, hq2, ht2k⟩ := HZ.out
           exact ⟨x5, p, q, _, b1, tr1, rfl, rfl, ⟨by omega, hM.2.1, hp, hM.2.2.2.1, by omega, hev.1, hev.2⟩, HE, ⟨fun h => absurd h (by omega), HF.out.2⟩, HI, HB⟩
      ·have c4' : decide (x6 > 0) = false := ae c4
       have Vn := aa c4
       have hcn := HI.out.nd_
       have hf0 := HI.out.fz 800
       clear c4
       go_wp2_with (fail)
       refine (trim_calls g b1 x5 D ng tr1 w0 _ (HI.out.set_nd _) Z54 (by have := HM.out.2.1; have := HM.out.2.2.2.1; omega) (On.refl g (HB.out.set HI.out.ge 800 _).below)).mono ?_
       rintro e w' ⟨rfl, n2, hn0, hn2, hz, hl, hi, ho⟩
       go_wp2_with (fail)
       first | go_end0 | ((try simp only [Exit.inBlock, Exit.then]); refine bodyPost_ret (results_none rfl _ _ _) rfl ?_)
       have hM := HM.out
       have hS := HS.out
       have h4 := Vn.out
       have hF := HF.out
       have hG := HG.out
       have hp : 0 < 2 ^ k := Nat.pow_pos (by decide)
       have hq : 0 < q := Nat.pos_of_ne_zero (fun h => by have := hF.1 h; omega)
       have hb1 := hF.2 hq
       have hN2 : 1 ≤ N / 2 ^ k := (Nat.one_le_div_iff hp).mpr hS.2.2.2.2.1
       have h0 : n2 ≠ 0 := by
        intro h
        subst h
        have h1 := hz 0 (by omega) (by omega)
        omega
       obtain ⟨m, rfl⟩ : ∃ m : Nat, n2 = (m : Int) := ⟨n2.toNat, by omega⟩
       rw [if_neg h0, hG.1] at hi
       exact ⟨rfl, b1, m, R, tr1, hi, fun j hj => HE.out j (by omega), by omega, by omega, by omega, hS.2.2.1, hS.2.2.2.1, hS.2.2.2.2.2.2.2, fun h => by rw [hb1, hS.2.2.2.2.2.2.1 h], (HB.out.set HI.out.ge 800 _).trans ho⟩
end Go.Proofs.YtmpdhdnoohmndaaGreatDoor.Dec

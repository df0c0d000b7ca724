import Derived.Test.YtkjnahgicfmicaaGreatDoorQf
import Derived.Test.YtkjnahgicfmicaaGreatDoorQa
import Derived.Test.YtkjnahgicfmicaaGreatDoorZip
import Derived.Test.YtkjnahgicfmicaaGreatDoorLr8
import Derived.Test.YtkjnahgicfmicaaGreatDoorGj1
namespace Go.Proofs.YtkjnahgicfmicaaGreatDoor.Gj
open Go.RowKit Go.PW Go.PL Go.PM Sp
set_option linter.unusedVariables false
section
section
variable {P : Program} {ops : Array Oper} {Q : Exit → Act → World → Prop}
theorem goesV_ {rest : List Oper} {oi : Oper} {a : Act} {w : World} (N : Option Tmp) (hd : oi.dst = N) (hg : oi.guard = none) {f : FuncId} {fn : Func} {x : Operand} {xs : Array Operand} {ts : Array TypeId} {caps : Array Value} (hf : P.funcs[f]? = some fn) (hname : (fn.name == "runtime.NumGoroutine") = false) (hb : fn.body.isSome = true) (args : Array Value)
  (hop : oi.op = .call { callee := .value x, args := xs, argTypes := ts }) (hx : a.eval x = .func (.func f) #[] caps) (hargs : xs.map a.eval ++ caps = args)
  (h : Calls P f args w fun e w' => ∃ v, e = .returned v ∧ wpList P ops Q rest (a.put N v) w') : wpList P ops Q (oi :: rest) a w := by
 refine wpList_plain hg fun K hK => ?_
 have he := enters_ hf hname hb args w
 have hrun : (execOp a.eval oi).run P w = .ok (.enter f args) w := by
  unfold execOp
  simp [hop, resolve, Deferred.ofValue, invoke, hx, hargs, he]
 unfold Oper.wp
 rw [hrun, Oper.upon_enter]
 refine h.mono fun e w'' hh => ?_
 obtain ⟨v, rfl, hk⟩ := hh
 subst hd
 exact hK _ _ hk
end
structure GR where
 ty : Int
 raw : av
 str : av
 num : Nat
 idx : Int
 sa : Option Addr
 sn : Nat
 sc : Nat
def GR.v (g : GR) : Value := .agg #[.int .i64 g.ty, .string g.raw, .string g.str, .float .f64 g.num, .int .i64 g.idx, .slice g.sa g.sn g.sc]
structure Kp (A : Nat → Prop) (w w' : World) : Prop where
 os : w'.os = w.os
 tape : w'.tape = w.tape
 output : w'.output = w.output
 size : w.heap.size ≤ w'.heap.size
 block : ∀ k, k < w.heap.size → A k → w'.heap[k]? = w.heap[k]?
theorem Kp.refl (A : Nat → Prop) (w : World) : Kp A w w := ⟨rfl, rfl, rfl, Nat.le_refl _, fun _ _ _ => rfl⟩
theorem Kp.trans {A : Nat → Prop} {w w1 w2 : World} (h : Kp A w w1) (k : Kp A w1 w2) : Kp A w w2 :=
 ⟨k.os.trans h.os, k.tape.trans h.tape, k.output.trans h.output, Nat.le_trans h.size k.size, fun i hi ha => (k.block i (Nat.lt_of_lt_of_le hi h.size) ha).trans (h.block i hi ha)⟩
theorem Kp.of_below {A : Nat → Prop} {w w1 : World} (h : Below w.heap.size w w1) : Kp A w w1 := ⟨h.os, h.tape, h.output, h.size, fun i hi _ => h.block i hi⟩
theorem Kp.mono {A A' : Nat → Prop} {w w1 : World} (h : Kp A w w1) (ha : ∀ k, k < w.heap.size → A' k → A k) : Kp A' w w1 := ⟨h.os, h.tape, h.output, h.size, fun i hi hk => h.block i hi (ha i hi hk)⟩
theorem Kp.below {A : Nat → Prop} {B : Nat} {w w1 : World} (h : Kp A w w1) (ha : ∀ k, k < B → A k) (hB : B ≤ w.heap.size) : Below B w w1 := ⟨h.os, h.tape, h.output, h.size, fun i hi => h.block i (by omega) (ha i hi)⟩
theorem Kp.blk {A : Nat → Prop} {w w1 : World} {b : Nat} {o : Obj} (h : Kp A w w1) (hb : w.heap[b]? = some o) (ha : A b) : w1.heap[b]? = some o := by
 rw [h.block b (Array.getElem?_eq_some_iff.1 hb).1 ha]; exact hb
structure Iter (F : FuncId) (caps : Array Value) (cont : Nat → Bool) (It : (Nat → Prop) → List (GR × GR) → World → Prop) : Prop where
 fn : ∃ fn, Tryz.prog.funcs[F]? = some fn ∧ (fn.name == "runtime.NumGoroutine") = false ∧ fn.body.isSome = true
 less : ∀ {A A' : Nat → Prop} {l w}, It A l w → (∀ k, A' k → A k) → It A' l w
 grow : ∀ {A : Nat → Prop} {l w w'}, It A l w → Below w.heap.size w w' → It (fun k => A k ∨ (w.heap.size ≤ k ∧ k < w'.heap.size)) l w'
 far : ∀ {A : Nat → Prop} {l w} (p : Addr) (u : Value), It A l w → A p.block → It A l (w.setCell p u)
 call : ∀ {A : Nat → Prop} {l w} (k v : GR), It A l w → l.length ≤ 1000000 →
  Calls Tryz.prog F (#[k.v, v.v] ++ caps) w fun e w' => e = .returned (.bool (cont (l.length + 1))) ∧ It A (l ++ [(k, v)]) w' ∧ Kp A w w'
theorem Kp.set {A : Nat → Prop} {w w1 : World} (h : Kp A w w1) {p : Addr} (hp : w.heap.size ≤ p.block) (u : Value) : Kp A w (w1.setCell p u) :=
 ⟨h.os, h.tape, h.output, by simpa [World.setCell] using h.size, fun i hi ha => (Below.heap_setCell w1 p u i (by omega)).trans (h.block i hi ha)⟩
structure Fs (It : (Nat → Prop) → List (GR × GR) → World → Prop) (A : Nat → Prop) (w : World) (b2 b7 b8 : Nat) (l : List (GR × GR)) (c2 c7 c8 : Array Value) (w' : World) : Prop where
 it : It (fun k => A k ∨ k = b2 ∨ k = b7 ∨ k = b8) l w'
 z2 : w'.heap[b2]? = some (.cells c2 55 (0, 0))
 z7 : w'.heap[b7]? = some (.cells c7 55 (0, 0))
 z8 : w'.heap[b8]? = some (.cells c8 55 (0, 0))
 ge2 : w.heap.size ≤ b2
 ge7 : w.heap.size ≤ b7
 ge8 : w.heap.size ≤ b8
 n27 : b2 ≠ b7
 n28 : b2 ≠ b8
 n78 : b7 ≠ b8
 kp : Kp A w w'
section
variable {It : (Nat → Prop) → List (GR × GR) → World → Prop} {A : Nat → Prop} {w w' w1 : World} {b2 b7 b8 : Nat} {l : List (GR × GR)} {c2 c7 c8 : Array Value} {F : FuncId} {caps : Array Value} {cont : Nat → Bool}
theorem Fs.new (hI : Iter F caps cont It) (hIt : It A l w) (hb : Below w.heap.size w w') (z2 : w'.heap[b2]? = some (.cells c2 55 (0, 0))) (z7 : w'.heap[b7]? = some (.cells c7 55 (0, 0))) (z8 : w'.heap[b8]? = some (.cells c8 55 (0, 0)))
  (g2 : w.heap.size ≤ b2) (g7 : b2 < b7) (g8 : b7 < b8) : Fs It A w b2 b7 b8 l c2 c7 c8 w' where
 it := hI.less (hI.grow hIt hb) (fun k hk => by
  have := blk_lt z2
  have := blk_lt z7
  have := blk_lt z8
  rcases hk with hk | rfl | rfl | rfl
  ·exact .inl hk
  ·exact .inr ⟨g2, by omega⟩
  ·exact .inr ⟨by omega, by omega⟩
  ·exact .inr ⟨by omega, by omega⟩)
 z2 := z2
 z7 := z7
 z8 := z8
 ge2 := g2
 ge7 := by omega
 ge8 := by omega
 n27 := by omega
 n28 := by omega
 n78 := by omega
 kp := Kp.of_below hb
theorem Fs.below (hI : Iter F caps cont It) (h : Fs It A w b2 b7 b8 l c2 c7 c8 w') (hb : Below w'.heap.size w' w1) : Fs It A w b2 b7 b8 l c2 c7 c8 w1 :=
 ⟨hI.less (hI.grow h.it hb) (fun _ hk => .inl hk), blk_below h.z2 hb, blk_below h.z7 hb, blk_below h.z8 hb, h.ge2, h.ge7, h.ge8, h.n27, h.n28, h.n78, h.kp.trans (.of_below hb)⟩
theorem Fs.set7 (hI : Iter F caps cont It) (h : Fs It A w b2 b7 b8 l c2 c7 c8 w') (i : Nat) (u : Value) {c : Array Value} (e : c7.setIfInBounds i u = c) (hw : w1 = w'.setCell ⟨b7, i, none⟩ u) : Fs It A w b2 b7 b8 l c2 c c8 w1 := by
 subst hw
 exact ⟨hI.far _ u h.it (.inr (.inr (.inl rfl))), blk_far h.z2 h.n27 u, blk_put h.z7 i u e, blk_far h.z8 (Ne.symm h.n78) u, h.ge2, h.ge7, h.ge8, h.n27, h.n28, h.n78, h.kp.set h.ge7 u⟩
theorem Fs.set8 (hI : Iter F caps cont It) (h : Fs It A w b2 b7 b8 l c2 c7 c8 w') (i : Nat) (u : Value) {c : Array Value} (e : c8.setIfInBounds i u = c) (hw : w1 = w'.setCell ⟨b8, i, none⟩ u) : Fs It A w b2 b7 b8 l c2 c7 c w1 := by
 subst hw
 exact ⟨hI.far _ u h.it (.inr (.inr (.inr rfl))), blk_far h.z2 h.n28 u, blk_far h.z7 h.n78 u, blk_put h.z8 i u e, h.ge2, h.ge7, h.ge8, h.n27, h.n28, h.n78, h.kp.set h.ge8 u⟩
theorem Fs.set55 {u0 u1 u2 u3 u4 u5 : Value} (hI : Iter F caps cont It) (h : Fs It A w b2 b7 b8 l c2 c7 #[u0, u1, u2, u3, u4, u5] w') (x0 x1 x2 x3 x4 x5 : Value)
  (hw : w1 = (((((w'.setCell ⟨b8, 0, none⟩ x0).setCell ⟨b8, 1, none⟩ x1).setCell ⟨b8, 2, none⟩ x2).setCell ⟨b8, 3, none⟩ x3).setCell ⟨b8, 4, none⟩ x4).setCell ⟨b8, 5, none⟩ x5) : Fs It A w b2 b7 b8 l c2 c7 #[x0, x1, x2, x3, x4, x5] w1 := by
 subst hw
 exact (((((h.set8 hI 0 x0 rfl rfl).set8 hI 1 x1 rfl rfl).set8 hI 2 x2 rfl rfl).set8 hI 3 x3 rfl rfl).set8 hI 4 x4 rfl rfl).set8 hI 5 x5 rfl rfl
theorem Fs.called (h : Fs It A w b2 b7 b8 l c2 c7 c8 w') {l1 : List (GR × GR)} (hi : It (fun k => A k ∨ k = b2 ∨ k = b7 ∨ k = b8) l1 w1) (hk : Kp (fun k => A k ∨ k = b2 ∨ k = b7 ∨ k = b8) w' w1) : Fs It A w b2 b7 b8 l1 c2 c7 c8 w1 :=
 ⟨hi, hk.blk h.z2 (.inr (.inl rfl)), hk.blk h.z7 (.inr (.inr (.inl rfl))), hk.blk h.z8 (.inr (.inr (.inr rfl))), h.ge2, h.ge7, h.ge8, h.n27, h.n28, h.n78, h.kp.trans (hk.mono fun _ _ ha => .inl ha)⟩
theorem Fs.wok {W0 : World} (h : Fs It A w b2 b7 b8 l c2 c7 c8 w') (hW : Wok W0 ∧ Below W0.heap.size W0 w ∧ ∀ k, k < W0.heap.size → A k) : Wok w' :=
 hW.1.below (hW.2.1.trans (h.kp.below hW.2.2 hW.2.1.size))
end
section
variable {P : Program} {ops : Array Oper} {rest : List Oper} {o : Oper} {a : Act} {Q : Exit → Act → World → Prop}
theorem store_event {W W1 : World} (hgd : o.guard = none) (hd : o.dst = none) (hrun : (execOp a.eval o).run P W = .ok .skip W1) (h : ∀ w1, w1 = W1 → wpList P ops Q rest a w1) : wpList P ops Q (o :: rest) a W := by
 refine wpList_plain hgd fun K hK => ?_
 unfold Oper.wp
 rw [hrun]
 have := hK a W1 (h _ rfl)
 show K (a.put o.dst undef) W1
 rw [hd]
 exact this
end
open Ieee Dec in
theorem add_nn {x y : Nat} (hx : NN x) (hy : Pos y) : ∃ r, floatBits .add .f64 x y = some r ∧ NN r := by
 obtain ⟨s, m, e, hr, hm⟩ := read_pos hy
 have hn := read_nn hx
 show ∃ r, (double).add x y = some r ∧ NN r
 unfold Format.add
 rw [hr]
 cases h : (double).read x with
 | number t n j => exact ⟨_, rfl, nn_write rfl⟩
 | infinity t => exact ⟨_, rfl, nn_write rfl⟩
 | nan t f => rw [h] at hn; cases hn
end
section
set_option maxHeartbeats 4000000
set_option maxRecDepth 100000
open Go.RowKit Go.PW Go.PL Go.PM Sp Dec
attribute [local go_sem] run_store_float max2_int min2_int max_two min_two max_three min_three max_four min_four
set_option linter.unusedSimpArgs false
structure Cs (w : World) (g off : Nat) : Prop where
 at_ : ∀ i, i < 8 → ∃ v, w.cell? ⟨g, off + i, none⟩ = some (.int .u8 v)
 fz : ∀ i, w.frozen? ⟨g, i, none⟩ = false
theorem or192 (k : Int) (h0 : 0 ≤ k) (h1 : k < 32) : bits .or .u8 192 k = 192 + k := by
 have : ∀ n : Fin 32, bits .or .u8 192 ((n.val : Nat) : Int) = 192 + ((n.val : Nat) : Int) := by decide
 have := this ⟨k.toNat, by omega⟩
 rwa [show (((⟨k.toNat, by omega⟩ : Fin 32).val : Nat) : Int) = k by simp; omega] at this
theorem or224 (k : Int) (h0 : 0 ≤ k) (h1 : k < 16) : bits .or .u8 224 k = 224 + k := by
 have : ∀ n : Fin 16, bits .or .u8 224 ((n.val : Nat) : Int) = 224 + ((n.val : Nat) : Int) := by decide
 have := this ⟨k.toNat, by omega⟩
 rwa [show (((⟨k.toNat, by omega⟩ : Fin 16).val : Nat) : Int) = k by simp; omega] at this
theorem or240 (k : Int) (h0 : 0 ≤ k) (h1 : k < 8) : bits .or .u8 240 k = 240 + k := by
 have : ∀ n : Fin 8, bits .or .u8 240 ((n.val : Nat) : Int) = 240 + ((n.val : Nat) : Int) := by decide
 have := this ⟨k.toNat, by omega⟩
 rwa [show (((⟨k.toNat, by omega⟩ : Fin 8).val : Nat) : Int) = k by simp; omega] at this
def puts (w : World) (g : Nat) : Nat → List Int → World
 | _, [] => w
 | off, x :: xs => puts (w.setCell ⟨g, off, none⟩ (.int .u8 x)) g (off + 1) xs
theorem enc2 (g off cap : Nat) (c : Int) (w : World) (hC : Cs w g off) (h1 : 128 ≤ c) (h2 : c < 2048) :
  Calls Tryz.prog 75 #[.slice (some ⟨g, off, none⟩) 8 cap, .int .i32 c] w fun e w' => e = .returned (.int .i64 (utf8 c).length) ∧ w' = puts w g off (utf8 c) := by
 obtain ⟨v0, z0⟩ := hC.at_ 0 (by omega)
 obtain ⟨v1, z1⟩ := hC.at_ 1 (by omega)
 have f0 := hC.fz (off)
 have f1 := hC.fz (off + 1)
 rw [Nat.add_zero] at z0
 obtain ⟨u, hu, hu2⟩ : ∃ u, IntKind.u32.wrap c = u ∧ u = c := ⟨_, rfl, Z39⟩
 have d1 : decide (u ≤ 2047) = true := ae (by omega)
 have hU : utf8 c = [192 + c / 64, 128 + c % 64] := by unfold utf8; rw [if_neg (by omega), if_pos (by omega)]
 have HH := ab (And.intro h1 h2)
 have HU := ab hU
 clear hC hu2 hU
 go_enter Tryz.func75, Tryz.ntmps75
 go_wp2_with (fail)
 go_ret
 rw [HU.out]
 refine ⟨rfl, ?_⟩
 have h1 := HH.out.1
 have h2 := HH.out.2
 simp only [puts]
 all_goals rw [show c / 64 % 256 = c / 64 by omega, or192 _ (by omega) (by omega)]
theorem enc3 (g off cap : Nat) (c : Int) (w : World) (hC : Cs w g off) (h1 : 2048 ≤ c) (h2 : c < 65536) (h3 : ¬ High c) (h4 : ¬ Low c) :
  Calls Tryz.prog 75 #[.slice (some ⟨g, off, none⟩) 8 cap, .int .i32 c] w fun e w' => e = .returned (.int .i64 (utf8 c).length) ∧ w' = puts w g off (utf8 c) := by
 obtain ⟨v0, z0⟩ := hC.at_ 0 (by omega)
 obtain ⟨v1, z1⟩ := hC.at_ 1 (by omega)
 obtain ⟨v2, z2⟩ := hC.at_ 2 (by omega)
 have f0 := hC.fz (off)
 have f1 := hC.fz (off + 1)
 have f2 := hC.fz (off + 2)
 rw [Nat.add_zero] at z0
 obtain ⟨u, hu, hu2⟩ : ∃ u, IntKind.u32.wrap c = u ∧ u = c := ⟨_, rfl, Z39⟩
 have d1 : decide (u ≤ 2047) = false := af (by omega)
 have dd : decide (u < 55296) = true ∨ (decide (u < 55296) = false ∧ decide (57343 < u) = true ∧ decide (u ≤ 65535) = true) := by
  unfold High at h3
  unfold Low at h4
  by_cases h : u < 55296
  ·exact .inl (ae h)
  ·exact .inr ⟨af h, ae (by omega), ae (by omega)⟩
 have hU : utf8 c = [224 + c / 4096, 128 + c / 64 % 64, 128 + c % 64] := by unfold utf8; rw [if_neg (by omega), if_neg (by omega), if_pos (by omega)]
 have HH := ab (And.intro h1 h2)
 have HU := ab hU
 clear hC hu2 hU h3 h4
 rcases dd with d2 | ⟨d2, d3, d4⟩
 all_goals
  go_enter Tryz.func75, Tryz.ntmps75
  go_wp2_with (fail)
  go_ret
  rw [HU.out]
  refine ⟨rfl, ?_⟩
  have h1 := HH.out.1
  have h2 := HH.out.2
  simp only [puts]
  all_goals rw [show c / 4096 % 256 = c / 4096 by omega, or224 _ (by omega) (by omega)]
theorem enc4 (g off cap : Nat) (c : Int) (w : World) (hC : Cs w g off) (h1 : 65536 ≤ c) (h2 : c < 1114112) :
  Calls Tryz.prog 75 #[.slice (some ⟨g, off, none⟩) 8 cap, .int .i32 c] w fun e w' => e = .returned (.int .i64 (utf8 c).length) ∧ w' = puts w g off (utf8 c) := by
 obtain ⟨v0, z0⟩ := hC.at_ 0 (by omega)
 obtain ⟨v1, z1⟩ := hC.at_ 1 (by omega)
 obtain ⟨v2, z2⟩ := hC.at_ 2 (by omega)
 obtain ⟨v3, z3⟩ := hC.at_ 3 (by omega)
 have f0 := hC.fz (off)
 have f1 := hC.fz (off + 1)
 have f2 := hC.fz (off + 2)
 have f3 := hC.fz (off + 3)
 rw [Nat.add_zero] at z0
 obtain ⟨u, hu, hu2⟩ : ∃ u, IntKind.u32.wrap c = u ∧ u = c := ⟨_, rfl, Z39⟩
 have d1 : decide (u ≤ 2047) = false := af (by omega)
 have d2 : decide (u < 55296) = false := af (by omega)
 have d3 : decide (57343 < u) = true := ae (by omega)
 have d4 : decide (u ≤ 65535) = false := af (by omega)
 have d5 : decide (u > 65535) = true := ae (by omega)
 have d6 : decide (u ≤ 1114111) = true := ae (by omega)
 have hU : utf8 c = [240 + c / 262144, 128 + c / 4096 % 64, 128 + c / 64 % 64, 128 + c % 64] := by unfold utf8; rw [if_neg (by omega), if_neg (by omega), if_neg (by omega)]
 have HH := ab (And.intro h1 h2)
 have HU := ab hU
 clear hC hu2 hU
 go_enter Tryz.func75, Tryz.ntmps75
 go_wp2_with (fail)
 go_ret
 rw [HU.out]
 refine ⟨rfl, ?_⟩
 have h1 := HH.out.1
 have h2 := HH.out.2
 simp only [puts]
 all_goals rw [show c / 262144 % 256 = c / 262144 by omega, or240 _ (by omega) (by omega)]
theorem enc_calls (g off cap : Nat) (c : Int) (w : World) (hC : Cs w g off) (h0 : 0 ≤ c) (h1 : c ≤ 1114111) (h3 : ¬ High c) (h4 : ¬ Low c) :
  Calls Tryz.prog 63 #[.slice (some ⟨g, off, none⟩) 8 cap, .int .i32 c] w fun e w' => e = .returned (.int .i64 (utf8 c).length) ∧ w' = puts w g off (utf8 c) := by
 obtain ⟨v0, z0⟩ := hC.at_ 0 (by omega)
 have f0 := hC.fz off
 rw [Nat.add_zero] at z0
 obtain ⟨u, hu, hu2⟩ : ∃ u, IntKind.u32.wrap c = u ∧ u = c := ⟨_, rfl, Z39⟩
 by_cases h : c < 128
 ·have d1 : decide (u ≤ 127) = true := ae (by omega)
  have hU : utf8 c = [c] := by unfold utf8; rw [if_pos h]
  have HH := ab (And.intro h0 h)
  have HU := ab hU
  clear hC hu2 h0 h1 h3 h4 hU h
  go_enter Tryz.func63, Tryz.ntmps63
  go_wp2_with (fail)
  go_ret
  rw [HU.out]
  have h1 := HH.out.1
  have h2 := HH.out.2
  refine ⟨rfl, ?_⟩
  simp only [puts]
  all_goals first | rfl | rw [show c % 256 = c by omega]
 ·have d1 : decide (u ≤ 127) = false := af (by omega)
  have HE := ab (show Calls Tryz.prog 75 #[.slice (some ⟨g, off, none⟩) 8 cap, .int .i32 c] w fun e w' => e = .returned (.int .i64 (utf8 c).length) ∧ w' = puts w g off (utf8 c) from by
   by_cases h5 : c < 2048
   ·exact enc2 g off cap c w hC (by omega) h5
   ·by_cases h6 : c < 65536
    ·exact enc3 g off cap c w hC (by omega) h6 h3 h4
    ·exact enc4 g off cap c w hC (by omega) (by omega))
  clear hC hu2 h0 h1 h3 h4 h
  go_enter Tryz.func63, Tryz.ntmps63
  go_wp2_with (fail)
  refine HE.out.mono ?_
  rintro e w1 ⟨rfl, rfl⟩
  go_wp2_with (fail)
  go_ret
  exact ⟨rfl, rfl⟩
end
section
set_option maxHeartbeats 4000000
set_option maxRecDepth 100000
open Go.RowKit Go.PW Go.PL Go.PM Sp Dec
attribute [local go_sem] run_store_float max2_int min2_int max_two min_two max_three min_three max_four min_four
set_option linter.unusedSimpArgs false
theorem or32 (k : Int) (h0 : 97 ≤ k ∧ k ≤ 102 ∨ 65 ≤ k ∧ k ≤ 70) : bits .or .u8 k 32 = if 97 ≤ k then k else k + 32 := by
 have : ∀ n : Fin 128, bits .or .u8 ((n.val : Nat) : Int) 32 = if 97 ≤ ((n.val : Nat) : Int) ∧ ((n.val : Nat) : Int) ≤ 102 then ((n.val : Nat) : Int) else if 65 ≤ ((n.val : Nat) : Int) ∧ ((n.val : Nat) : Int) ≤ 70 then ((n.val : Nat) : Int) + 32 else bits .or .u8 ((n.val : Nat) : Int) 32 := by decide
 have := this ⟨k.toNat, by omega⟩
 rw [show (((⟨k.toNat, by omega⟩ : Fin 128).val : Nat) : Int) = k by simp; omega] at this
 rw [this]
 rcases h0 with h | h
 ·rw [if_pos h, if_pos h.1]
 ·rw [if_neg (by omega), if_pos h, if_neg (by omega)]
theorem lower_calls (v l : Int) (w : World) (h : bits .or .u8 v 32 = l) : Calls Tryz.prog 87 #[.int .u8 v] w fun e w' => e = .returned (.int .u8 l) ∧ w = w' := by
 go_enter Tryz.func87, Tryz.ntmps87
 go_wp2_with (fail)
 go_ret
 exact ⟨rfl, rfl⟩
def hexp (T : av) : Nat → Int
 | 0 => 0
 | q + 1 => hexp T q * 16 + hv (bt T q)
theorem hexp_range {T : av} (h : ∀ p : Int, 0 ≤ p → p < 4 → HexCh (bt T p)) : ∀ q : Nat, q ≤ 4 → 0 ≤ hexp T q ∧ hexp T q < 16 ^ q
 | 0, _ => by simp [hexp]
 | q + 1, hq => by
  have ih := hexp_range h q (by omega)
  have := hv_range (h q (by omega) (by omega))
  have e : (16 : Int) ^ (q + 1) = 16 ^ q * 16 := by rw [Int.pow_succ]
  rw [hexp, e]
  omega
theorem puint_calls (T : av) (w : World) (hs : T.size = 4) (hh : ∀ p : Int, 0 ≤ p → p < 4 → HexCh (bt T p)) :
  Calls Tryz.prog 81 #[.string T, .int .i64 16, .int .i64 64] w fun e w' => e = .returned (.tuple #[.int .u64 (hexp T 4), .nilIface]) ∧ Below w.heap.size w w' := by
 have e0 : T.toList.isEmpty = false := by
  rw [Go.Lib.toList_data]
  cases h : T.data.toList with
  | nil => exact absurd hs (by have := data_length T; rw [h] at this; simp at this; omega)
  | cons a l => rfl
 have kb := fun W => print_bytes (P := Tryz.prog) 9 86 5 Tryz.underlying9 Tryz.underlying86 Tryz.underlying5 T W
 have HH := ab hh
 have hr := hexp_range hh
 have HR := ab hr
 have hcell := fun q (hq : q < T.size) => Lib.bytesWorld_cell w 5 T q hq
 have HC := ab hcell
 have HB := ab (bytes_below (Below.refl w.heap.size w) (Nat.le_refl _) 5 T)
 obtain ⟨W1, hW1⟩ : ∃ W1, Lib.bytesWorld w 5 T = W1 := ⟨_, rfl⟩
 have kw := kb w
 rw [hW1] at kw
 have HW1 := ab hW1
 have HS := ab hs
 clear hh hr hcell kb hW1
 rw [hs] at kw
 obtain ⟨mx, hmx, hmx2⟩ : ∃ mx, IntKind.u64.wrap (IntKind.u64.wrap 18446744073709551616 - 1) = mx ∧ Aside0 (mx = 18446744073709551615) := ⟨_, rfl, ⟨by decide⟩⟩
 go_enter Tryz.func81, Tryz.ntmps81
 go_wp2_with (fail)
 go_loopg [12, 13, 101] 4 (fun kq v12 v13 v101 wd => ∃ (x13 x101 : Int) (q : Nat), v12 = .bool false ∧ v13 = .int .u64 x13 ∧ v101 = .int .i64 x101 ∧ Aside0 (x101 = q ∧ kq + q = 4 ∧ x13 = hexp T q) ∧ Aside0 (wd = W1))
 case atStart => exact ⟨_, _, 0, rfl, rfl, rfl, ⟨rfl, rfl, rfl⟩, ⟨rfl⟩⟩
 case round =>
  obtain ⟨x13, x101, q, rfl, rfl, rfl, HM, ⟨rfl⟩⟩ := hrel
  obtain ⟨wo, rfl⟩ : ∃ wo : World, wo = wr := ⟨_, rfl⟩
  clear kw
  cases gk with
  | zero =>
   have c1 : decide (x101 < 4) = false := af (by have := HM.out; omega)
   obtain rfl : q = 4 := Z54
   obtain rfl : x13 = hexp T 4 := HM.out.2.2
   go_wp2_with (fail)
   go_ret2
   exact ⟨rfl, by have := HB.out; rw [HW1.out] at this; exact this⟩
  | succ gj =>
   have c1 : decide (x101 < 4) = true := ae (by have := HM.out; omega)
   have h60 : (0 ≤ x101) = True := ag (by have := HM.out; omega)
   have h61 : (x101 < 4) = True := ag (by have := HM.out; omega)
   have hn : x101.toNat = q := by have := HM.out.1; omega
   have hq4 : q < 4 := Z54
   obtain ⟨v, hbv⟩ : ∃ v, bt T q = v := ⟨_, rfl⟩
   have hc : wo.cell? ⟨w.heap.size, q, none⟩ = some (.int .u8 v) := by
    have h1 := HC.out q (by rw [HS.out]; exact hq4)
    rw [HW1.out] at h1
    rw [h1, ← hbv]
    have h' : q < T.data.toList.length := by rw [data_length, HS.out]; exact hq4
    rw [← rd_bytesOf]
    simp [rd, bytesOf, List.getD_eq_getElem?_getD, List.getElem?_eq_getElem h']
   have hx := HH.out q (by omega) (by omega)
   rw [hbv] at hx
   have hr := HR.out q (by omega)
   have hr4 : (16 : Int) ^ q ≤ 4096 := by
    have : q = 0 ∨ q = 1 ∨ q = 2 ∨ q = 3 := by omega
    rcases this with rfl | rfl | rfl | rfl <;> decide
   obtain ⟨d, hd⟩ : ∃ d, hv v = d := ⟨_, rfl⟩
   have HD := ab hd
   have HX := ab hx
   have HBV := ab hbv
   have Du := ab (And.intro hr hr4)
   clear hd hbv hr hr4
   obtain ⟨l, hl⟩ : ∃ l, bits .or .u8 v 32 = l := ⟨_, rfl⟩
   obtain ⟨zi, hzi, hzi2⟩ : ∃ z, IntKind.i64.wrap (x101 + 1) = z ∧ Aside0 (z = ((q + 1 : Nat) : Int)) := ⟨_, wrp (by have := HM.out; omega) (by have := HM.out; omega), ⟨by have := HM.out; omega⟩⟩
   have d0 : (v == 95) = false := ah (by unfold HexCh at hx; omega)
   by_cases hdig : v ≤ 57
   ·have d1 : decide (48 ≤ v) = true := ae (by unfold HexCh at hx; omega)
    have d2 : decide (v ≤ 57) = true := ae hdig
    have e9 : hv v = v - 48 := by unfold hv; rw [if_pos hdig]
    obtain ⟨dd, hdd, hdd2⟩ : ∃ dd, (v - 48) % 256 = dd ∧ dd = v - 48 := ⟨_, rfl, by unfold HexCh at hx; omega⟩
    have b1 := Du.out.1.1
    have b2 := Du.out.1.2
    have b3 := Du.out.2
    rw [← HM.out.2.2] at b1 b2
    have b4 : dd ≤ 9 := by omega
    have b5 : 0 ≤ dd := by unfold HexCh at hx; omega
    obtain ⟨y, hy, hy2⟩ : ∃ y, IntKind.u64.wrap (x13 * 16) = y ∧ y = x13 * 16 := ⟨_, rfl, Z39⟩
    obtain ⟨z, hz, hz2⟩ : ∃ z, IntKind.u64.wrap (y + dd) = z ∧ z = y + dd := ⟨_, rfl, Z39⟩
    have t1 : decide (dd ≥ 16) = false := af (by omega)
    have t2 : decide (x13 ≥ 1152921504606846976) = false := af (by omega)
    have t3 : decide (z < y) = false := af (by omega)
    have t4 : decide (z > mx) = false := af (by have := hmx2.out; omega)
    have HZ := ab (show z = hexp T (q + 1) by rw [hz2, hy2, hexp, HM.out.2.2, HBV.out, e9, hdd2])
    clear hx hdig e9 hdd2 b1 b2 b3 b4 b5 hy2 hz2
    go_wp2_with (fail)
    go_roundg gj
    case measure => exact Nat.lt_succ_self gj
    case rel => exact ⟨_, _, q + 1, rfl, rfl, rfl, ⟨hzi2.out, Z54, HZ.out⟩, ⟨rfl⟩⟩
   ·have hlv := or32 v (by unfold HexCh at hx; omega)
    rw [hl] at hlv
    have d1 : decide (48 ≤ v) = true := ae (by omega)
    have d2 : decide (v ≤ 57) = false := af hdig
    have d3 : decide (97 ≤ l) = true := ae (by rw [hlv]; unfold HexCh at hx; split <;> omega)
    have d4 : decide (l ≤ 122) = true := ae (by rw [hlv]; unfold HexCh at hx; split <;> omega)
    have e9 : hv v = l - 87 := by
     rw [hlv]
     unfold hv
     rw [if_neg hdig]
     split <;> omega
    have hl2 : 97 ≤ l ∧ l ≤ 102 := ⟨ac d3, by rw [hlv]; unfold HexCh at hx; split <;> omega⟩
    obtain ⟨aa, haa, haa2⟩ : ∃ aa, (l - 97) % 256 = aa ∧ aa = l - 97 := ⟨_, rfl, by omega⟩
    obtain ⟨dd, hdd, hdd2⟩ : ∃ dd, (aa + 10) % 256 = dd ∧ dd = l - 87 := ⟨_, rfl, by omega⟩
    have b1 := Du.out.1.1
    have b2 := Du.out.1.2
    have b3 := Du.out.2
    rw [← HM.out.2.2] at b1 b2
    obtain ⟨y, hy, hy2⟩ : ∃ y, IntKind.u64.wrap (x13 * 16) = y ∧ y = x13 * 16 := ⟨_, rfl, Z39⟩
    obtain ⟨z, hz, hz2⟩ : ∃ z, IntKind.u64.wrap (y + dd) = z ∧ z = y + dd := ⟨_, rfl, Z39⟩
    have t1 : decide (dd ≥ 16) = false := af (by omega)
    have t2 : decide (x13 ≥ 1152921504606846976) = false := af (by omega)
    have t3 : decide (z < y) = false := af (by omega)
    have t4 : decide (z > mx) = false := af (by have := hmx2.out; omega)
    have HZ := ab (show z = hexp T (q + 1) by rw [hz2, hy2, hexp, HM.out.2.2, HBV.out, e9, hdd2])
    have HLW := ab hl
    clear hx hdig hlv hl e9 hl2 haa2 hdd2 b1 b2 b3 hy2 hz2
    go_wp2_with (fail)
    refine (lower_calls v l _ HLW.out).mono ?_
    rintro e w5 ⟨rfl, rfl⟩
    go_wp2_with (fail)
    refine (lower_calls v l _ HLW.out).mono ?_
    rintro e w5 ⟨rfl, rfl⟩
    go_wp2_with (fail)
    refine (lower_calls v l _ HLW.out).mono ?_
    rintro e w5 ⟨rfl, rfl⟩
    go_wp2_with (fail)
    go_roundg gj
    case measure => exact Nat.lt_succ_self gj
    case rel => exact ⟨_, _, q + 1, rfl, rfl, rfl, ⟨hzi2.out, Z54, HZ.out⟩, ⟨rfl⟩⟩
theorem puint74_calls (T : av) (w : World) (hs : T.size = 4) (hh : ∀ p : Int, 0 ≤ p → p < 4 → HexCh (bt T p)) :
  Calls Tryz.prog 74 #[.string T, .int .i64 16, .int .i64 64] w fun e w' => e = .returned (.tuple #[.int .u64 (hexp T 4), .nilIface]) ∧ Below w.heap.size w w' := by
 have HS := ab hs
 have HH := ab hh
 clear hs hh
 go_enter Tryz.func74, Tryz.ntmps74
 go_wp2_with (fail)
 refine (puint_calls T _ HS.out HH.out).mono ?_
 rintro e w1 ⟨rfl, hb⟩
 have HB := ab hb
 clear hb
 go_wp2_with (fail)
 go_ret2
 exact ⟨rfl, HB.out⟩
theorem runeit_calls (T : av) (n : Int) (w : World) (hs : 4 ≤ T.size) (hh : ∀ p : Int, 0 ≤ p → p < 4 → HexCh (bt T p)) (hn : hexp T 4 = n) :
  Calls Tryz.prog 60 #[.string T] w fun e w' => e = .returned (.int .i32 n) ∧ Below w.heap.size w w' := by
 obtain ⟨D, hD⟩ : ∃ D, T.extract 0 4 = D := ⟨_, rfl⟩
 have hDs : D.size = 4 := by rw [← hD, ByteArray.size_extract]; omega
 have hbt : ∀ p : Int, 0 ≤ p → p < 4 → bt D p = bt T p := fun p h0 h1 => by
  rw [← hD, bt_ext h0 (by omega) hs]
  congr 1
  omega
 have hDh : ∀ p : Int, 0 ≤ p → p < 4 → HexCh (bt D p) := fun p h0 h1 => by rw [hbt p h0 h1]; exact hh p h0 h1
 have hx : ∀ q : Nat, q ≤ 4 → hexp D q = hexp T q := by
  intro q
  induction q with
  | zero => intro _; rfl
  | succ q ih => intro h; rw [hexp, hexp, ih (by omega), hbt q (by omega) (by omega)]
 have hr := hexp_range hDh 4 (by omega)
 obtain ⟨x, hx2⟩ : ∃ x, hexp D 4 = x := ⟨_, rfl⟩
 have hxn : x = n := by rw [← hx2, hx 4 (by omega), hn]
 rw [hx2] at hr
 have w32 : IntKind.i32.wrap x = n := by rw [IntKind.wrap_i32]; omega
 have h44 : (4 : Int) ≤ (T.size : Int) := by omega
 have HP := ab (fun W => puint74_calls D W hDs hDh)
 have HX := ab hx2
 clear hs hh hn hDs hbt hDh hx hr hx2 hxn
 go_enter Tryz.func60, Tryz.ntmps60
 go_wp2_with (fail)
 refine (HP.out _).mono ?_
 rintro e w1 ⟨he, hb⟩
 rw [HX.out] at he
 subst he
 have HB := ab hb
 clear hb
 go_wp2_with (fail)
 go_ret
 exact ⟨rfl, HB.out⟩
theorem sur_calls (c : Int) (b : Bool) (w : World) (hb : b = true → 55296 ≤ c ∧ c < 57344) (hb2 : b = false → ¬ High c ∧ ¬ Low c) :
  Calls Tryz.prog 61 #[.int .i32 c] w fun e w' => e = .returned (.bool b) ∧ w = w' := by
 cases b with
 | true =>
  have d1 : decide (55296 ≤ c) = true := ae (hb rfl).1
  have d2 : decide (c < 57344) = true := ae (hb rfl).2
  clear hb hb2
  go_enter Tryz.func61, Tryz.ntmps61
  go_wp2_with (fail)
  go_ret
  exact ⟨rfl, rfl⟩
 | false =>
  have hn := hb2 rfl
  unfold High Low at hn
  by_cases h : 55296 ≤ c
  ·have d1 : decide (55296 ≤ c) = true := ae h
   have d2 : decide (c < 57344) = false := af (by omega)
   clear hb hb2 hn h
   go_enter Tryz.func61, Tryz.ntmps61
   go_wp2_with (fail)
   go_ret
   exact ⟨rfl, rfl⟩
  ·have d1 : decide (55296 ≤ c) = false := af h
   clear hb hb2 hn h
   go_enter Tryz.func61, Tryz.ntmps61
   go_wp2_with (fail)
   go_ret
   exact ⟨rfl, rfl⟩
theorem i32_or10 {x y : Int} (hx0 : 0 ≤ x) (hx : x % 1024 = 0) (hx1 : x < 2147483648) (h0 : 0 ≤ y) (h1 : y < 1024) : bits .or .i32 x y = x + y :=
 bits_join .i32 31 (by decide) wraps_i32 10 x y hx0 hx hx1 h0 h1 (by omega)
theorem dec_calls (n m : Int) (w : World) (hn : High n) (hm : Low m) :
  Calls Tryz.prog 62 #[.int .i32 n, .int .i32 m] w fun e w' => e = .returned (.int .i32 (both n m)) ∧ w = w' := by
 unfold High at hn
 unfold Low at hm
 have d1 : decide (55296 ≤ n) = true := ae hn.1
 have d2 : decide (n < 56320) = true := ae (by omega)
 have d3 : decide (56320 ≤ m) = true := ae hm.1
 have d4 : decide (m < 57344) = true := ae (by omega)
 obtain ⟨a, ha, ha2⟩ : ∃ a, IntKind.i32.wrap (n - 55296) = a ∧ a = n - 55296 := ⟨_, rfl, by rw [IntKind.wrap_i32]; omega⟩
 obtain ⟨b, hb, hb2⟩ : ∃ b, IntKind.i32.wrap (a * 1024) = b ∧ b = a * 1024 := ⟨_, rfl, by rw [IntKind.wrap_i32]; omega⟩
 obtain ⟨c, hc, hc2⟩ : ∃ c, IntKind.i32.wrap (m - 56320) = c ∧ c = m - 56320 := ⟨_, rfl, by rw [IntKind.wrap_i32]; omega⟩
 obtain ⟨d, hd, hd2⟩ : ∃ d, bits .or .i32 b c = d ∧ d = b + c := ⟨_, rfl, i32_or10 (by omega) (by omega) (by omega) (by omega) (by omega)⟩
 obtain ⟨x, hx, hx2⟩ : ∃ x, IntKind.i32.wrap (d + 65536) = x ∧ x = both n m := ⟨_, rfl, by unfold both; rw [IntKind.wrap_i32]; omega⟩
 have HX := ab hx2
 clear hn hm ha2 hb2 hc2 hd2 hx2
 go_enter Tryz.func62, Tryz.ntmps62
 go_wp2_with (fail)
 go_ret
 rw [HX.out]
 exact ⟨rfl, rfl⟩
end
end Go.Proofs.YtkjnahgicfmicaaGreatDoor.Gj

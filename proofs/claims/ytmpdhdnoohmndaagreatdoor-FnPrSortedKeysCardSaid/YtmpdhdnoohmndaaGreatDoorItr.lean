import Derived.Test.YtmpdhdnoohmndaaGreatDoorQf
import Derived.Test.YtmpdhdnoohmndaaGreatDoorQa
namespace Go.Proofs.YtmpdhdnoohmndaaGreatDoor.Gj
open Go.RowKit Go.Proofs.YtmpdhdnoohmndaaGreatDoorW.PrintWords Go.Proofs.YtmpdhdnoohmndaaGreatDoorW.PrintLast Go.Proofs.YtmpdhdnoohmndaaGreatDoorW.PrintMore Sp
set_option linter.unusedVariables false
section
variable {P : Program} {ops : Array Oper} {Q : Exit → Act → World → Prop}
theorem goesV_ {rest : List Oper} {oi : Oper} {a : Act} {w : World} (N : Option Tmp) (hd : oi.dst = N) (hg : oi.guard = none) {f : FuncId} {fn : Func} {x : Operand} {xs : Array Operand} {ts : Array TypeId} {caps : Array Value} (hf : P.funcs[f]? = some fn) (hname : (fn.name == "runtime.NumGoroutine") = false) (hb : fn.body.isSome = true) (args : Array Value)
  (hop : oi.op = .call { callee := .value x, args := xs, argTypes := ts }) (hx : a.eval x = .func (.func f) #[] caps) (hargs : xs.map a.eval ++ caps = args)
  (h : Calls P f args w fun e w' => ∃ v, e = .returned v ∧ wpList P ops Q rest (a.put N v) w') : wpList P ops Q (oi :: rest) a w := by
 refine wpList_plain hg fun K hK => ?_
 have he := enters_ hf hname hb args w
 have hrun : (execOp a.eval oi).run P w = .ok (.enter f args) w := by
  unfold execOp
  simp [hop, resolve, Deferred.ofValue, invoke, hx, hargs, he]
 unfold Oper.wp
 rw [hrun, Oper.upon_enter]
 refine h.mono fun e w'' hh => ?_
 obtain ⟨v, rfl, hk⟩ := hh
 subst hd
 exact hK _ _ hk
end
structure GR where
 ty : Int
 raw : au
 str : au
 num : Nat
 idx : Int
 sa : Option Addr
 sn : Nat
 sc : Nat
def GR.v (g : GR) : Value := .agg #[.int .i64 g.ty, .string g.raw, .string g.str, .float .f64 g.num, .int .i64 g.idx, .slice g.sa g.sn g.sc]
structure Kp (A : Nat → Prop) (w w' : World) : Prop where
 os : w'.os = w.os
 tape : w'.tape = w.tape
 output : w'.output = w.output
 size : w.heap.size ≤ w'.heap.size
 block : ∀ k, k < w.heap.size → A k → w'.heap[k]? = w.heap[k]?
theorem Kp.refl (A : Nat → Prop) (w : World) : Kp A w w := ⟨rfl, rfl, rfl, Nat.le_refl _, fun _ _ _ => rfl⟩
theorem Kp.trans {A : Nat → Prop} {w w1 w2 : World} (h : Kp A w w1) (k : Kp A w1 w2) : Kp A w w2 :=
 ⟨k.os.trans h.os, k.tape.trans h.tape, k.output.trans h.output, Nat.le_trans h.size k.size, fun i hi ha => (k.block i (Nat.lt_of_lt_of_le hi h.size) ha).trans (h.block i hi ha)⟩
theorem Kp.of_below {A : Nat → Prop} {w w1 : World} (h : Below w.heap.size w w1) : Kp A w w1 := ⟨h.os, h.tape, h.output, h.size, fun i hi _ => h.block i hi⟩
theorem Kp.mono {A A' : Nat → Prop} {w w1 : World} (h : Kp A w w1) (ha : ∀ k, k < w.heap.size → A' k → A k) : Kp A' w w1 := ⟨h.os, h.tape, h.output, h.size, fun i hi hk => h.block i hi (ha i hi hk)⟩
theorem Kp.below {A : Nat → Prop} {B : Nat} {w w1 : World} (h : Kp A w w1) (ha : ∀ k, k < B → A k) (hB : B ≤ w.heap.size) : Below B w w1 := ⟨h.os, h.tape, h.output, h.size, fun i hi => h.block i (by omega) (ha i hi)⟩
theorem Kp.blk {A : Nat → Prop} {w w1 : World} {b : Nat} {o : Obj} (h : Kp A w w1) (hb : w.heap[b]? = some o) (ha : A b) : w1.heap[b]? = some o := by
 rw [h.block b (Array.getElem?_eq_some_iff.1 hb).1 ha]; exact hb
structure Iter (F : FuncId) (caps : Array Value) (cont : Nat → Bool) (It : (Nat → Prop) → List (GR × GR) → World → Prop) : Prop where
 fn : ∃ fn, Tryz.prog.funcs[F]? = some fn ∧ (fn.name == "runtime.NumGoroutine") = false ∧ fn.body.isSome = true
 less : ∀ {A A' : Nat → Prop} {l w}, It A l w → (∀ k, A' k → A k) → It A' l w
 grow : ∀ {A : Nat → Prop} {l w w'}, It A l w → Below w.heap.size w w' → It (fun k => A k ∨ (w.heap.size ≤ k ∧ k < w'.heap.size)) l w'
 far : ∀ {A : Nat → Prop} {l w} (p : Addr) (u : Value), It A l w → A p.block → It A l (w.setCell p u)
 call : ∀ {A : Nat → Prop} {l w} (k v : GR), It A l w → l.length ≤ 1000000 →
  Calls Tryz.prog F (#[k.v, v.v] ++ caps) w fun e w' => e = .returned (.bool (cont (l.length + 1))) ∧ It A (l ++ [(k, v)]) w' ∧ Kp A w w'
theorem Kp.set {A : Nat → Prop} {w w1 : World} (h : Kp A w w1) {p : Addr} (hp : w.heap.size ≤ p.block) (u : Value) : Kp A w (w1.setCell p u) :=
 ⟨h.os, h.tape, h.output, by simpa [World.setCell] using h.size, fun i hi ha => (Below.heap_setCell w1 p u i (by omega)).trans (h.block i hi ha)⟩
structure Fs (It : (Nat → Prop) → List (GR × GR) → World → Prop) (A : Nat → Prop) (w : World) (b2 b7 b8 : Nat) (l : List (GR × GR)) (c2 c7 c8 : Array Value) (w' : World) : Prop where
 it : It (fun k => A k ∨ k = b2 ∨ k = b7 ∨ k = b8) l w'
 z2 : w'.heap[b2]? = some (.cells c2 46 (0, 0))
 z7 : w'.heap[b7]? = some (.cells c7 46 (0, 0))
 z8 : w'.heap[b8]? = some (.cells c8 46 (0, 0))
 ge2 : w.heap.size ≤ b2
 ge7 : w.heap.size ≤ b7
 ge8 : w.heap.size ≤ b8
 n27 : b2 ≠ b7
 n28 : b2 ≠ b8
 n78 : b7 ≠ b8
 kp : Kp A w w'
section
variable {It : (Nat → Prop) → List (GR × GR) → World → Prop} {A : Nat → Prop} {w w' w1 : World} {b2 b7 b8 : Nat} {l : List (GR × GR)} {c2 c7 c8 : Array Value} {F : FuncId} {caps : Array Value} {cont : Nat → Bool}
theorem Fs.new (hI : Iter F caps cont It) (hIt : It A l w) (hb : Below w.heap.size w w') (z2 : w'.heap[b2]? = some (.cells c2 46 (0, 0))) (z7 : w'.heap[b7]? = some (.cells c7 46 (0, 0))) (z8 : w'.heap[b8]? = some (.cells c8 46 (0, 0)))
  (g2 : w.heap.size ≤ b2) (g7 : b2 < b7) (g8 : b7 < b8) : Fs It A w b2 b7 b8 l c2 c7 c8 w' where
 it := hI.less (hI.grow hIt hb) (fun k hk => by
  have := blk_lt z2
  have := blk_lt z7
  have := blk_lt z8
  rcases hk with hk | rfl | rfl | rfl
  ·exact .inl hk
  ·exact .inr ⟨g2, by omega⟩
  ·exact .inr ⟨by omega, by omega⟩
  ·exact .inr ⟨by omega, by omega⟩)
 z2 := z2
 z7 := z7
 z8 := z8
 ge2 := g2
 ge7 := by omega
 ge8 := by omega
 n27 := by omega
 n28 := by omega
 n78 := by omega
 kp := Kp.of_below hb
theorem Fs.below (hI : Iter F caps cont It) (h : Fs It A w b2 b7 b8 l c2 c7 c8 w') (hb : Below w'.heap.size w' w1) : Fs It A w b2 b7 b8 l c2 c7 c8 w1 :=
 ⟨hI.less (hI.grow h.it hb) (fun _ hk => .inl hk), blk_below h.z2 hb, blk_below h.z7 hb, blk_below h.z8 hb, h.ge2, h.ge7, h.ge8, h.n27, h.n28, h.n78, h.kp.trans (.of_below hb)⟩
theorem Fs.set7 (hI : Iter F caps cont It) (h : Fs It A w b2 b7 b8 l c2 c7 c8 w') (i : Nat) (u : Value) {c : Array Value} (e : c7.setIfInBounds i u = c) (hw : w1 = w'.setCell ⟨b7, i, none⟩ u) : Fs It A w b2 b7 b8 l c2 c c8 w1 := by
 subst hw
 exact ⟨hI.far _ u h.it (.inr (.inr (.inl rfl))), blk_far h.z2 h.n27 u, blk_put h.z7 i u e, blk_far h.z8 (Ne.symm h.n78) u, h.ge2, h.ge7, h.ge8, h.n27, h.n28, h.n78, h.kp.set h.ge7 u⟩
theorem Fs.set8 (hI : Iter F caps cont It) (h : Fs It A w b2 b7 b8 l c2 c7 c8 w') (i : Nat) (u : Value) {c : Array Value} (e : c8.setIfInBounds i u = c) (hw : w1 = w'.setCell ⟨b8, i, none⟩ u) : Fs It A w b2 b7 b8 l c2 c7 c w1 := by
 subst hw
 exact ⟨hI.far _ u h.it (.inr (.inr (.inr rfl))), blk_far h.z2 h.n28 u, blk_far h.z7 h.n78 u, blk_put h.z8 i u e, h.ge2, h.ge7, h.ge8, h.n27, h.n28, h.n78, h.kp.set h.ge8 u⟩
theorem Fs.set55 {u0 u1 u2 u3 u4 u5 : Value} (hI : Iter F caps cont It) (h : Fs It A w b2 b7 b8 l c2 c7 #[u0, u1, u2, u3, u4, u5] w') (x0 x1 x2 x3 x4 x5 : Value)
  (hw : w1 = (((((w'.setCell ⟨b8, 0, none⟩ x0).setCell ⟨b8, 1, none⟩ x1).setCell ⟨b8, 2, none⟩ x2).setCell ⟨b8, 3, none⟩ x3).setCell ⟨b8, 4, none⟩ x4).setCell ⟨b8, 5, none⟩ x5) : Fs It A w b2 b7 b8 l c2 c7 #[x0, x1, x2, x3, x4, x5] w1 := by
 subst hw
 exact (((((h.set8 hI 0 x0 rfl rfl).set8 hI 1 x1 rfl rfl).set8 hI 2 x2 rfl rfl).set8 hI 3 x3 rfl rfl).set8 hI 4 x4 rfl rfl).set8 hI 5 x5 rfl rfl
theorem Fs.called (h : Fs It A w b2 b7 b8 l c2 c7 c8 w') {l1 : List (GR × GR)} (hi : It (fun k => A k ∨ k = b2 ∨ k = b7 ∨ k = b8) l1 w1) (hk : Kp (fun k => A k ∨ k = b2 ∨ k = b7 ∨ k = b8) w' w1) : Fs It A w b2 b7 b8 l1 c2 c7 c8 w1 :=
 ⟨hi, hk.blk h.z2 (.inr (.inl rfl)), hk.blk h.z7 (.inr (.inr (.inl rfl))), hk.blk h.z8 (.inr (.inr (.inr rfl))), h.ge2, h.ge7, h.ge8, h.n27, h.n28, h.n78, h.kp.trans (hk.mono fun _ _ ha => .inl ha)⟩
theorem Fs.wok {W0 : World} (h : Fs It A w b2 b7 b8 l c2 c7 c8 w') (hW : Wok W0 ∧ Below W0.heap.size W0 w ∧ ∀ k, k < W0.heap.size → A k) : Wok w' :=
 hW.1.below (hW.2.1.trans (h.kp.below hW.2.2 hW.2.1.size))
end
section
variable {P : Program} {ops : Array Oper} {rest : List Oper} {o : Oper} {a : Act} {Q : Exit → Act → World → Prop}
theorem store_event {W W1 : World} (hgd : o.guard = none) (hd : o.dst = none) (hrun : (execOp a.eval o).run P W = .ok .skip W1) (h : ∀ w1, w1 = W1 → wpList P ops Q rest a w1) : wpList P ops Q (o :: rest) a W := by
 refine wpList_plain hgd fun K hK => ?_
 unfold Oper.wp
 rw [hrun]
 have := hK a W1 (h _ rfl)
 show K (a.put o.dst undef) W1
 rw [hd]
 exact this
end
end Go.Proofs.YtmpdhdnoohmndaaGreatDoor.Gj

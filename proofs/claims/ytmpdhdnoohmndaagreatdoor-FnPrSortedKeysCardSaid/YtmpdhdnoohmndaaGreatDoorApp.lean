import Derived.Test.YtmpdhdnoohmndaaGreatDoorQa
namespace Go.Proofs.YtmpdhdnoohmndaaGreatDoor.Pr
open Go.RowKit Go.Proofs.YtmpdhdnoohmndaaGreatDoorW.PrintWords Go.Proofs.YtmpdhdnoohmndaaGreatDoorW.PrintLast Go.Proofs.YtmpdhdnoohmndaaGreatDoorW.PrintMore Sp
set_option linter.unusedVariables false
abbrev RB (W : World) (base : Nat) (ok : Nat → Prop) (v : Value) (xs : List Int) : Prop := Kd.R (Kd.int .u8) 5 W base ok v xs
structure Bs (w0 w : World) (P0 : Nat → Prop) (W : World) (v : Value) (xs : List Int) : Prop where
 r : RB W w0.heap.size (fun k => P0 k ∨ w.heap.size ≤ k) v xs
 b : Below w0.heap.size w0 W
 k : Kept w W P0
structure Ap (W w1 : World) (v v1 : Value) : Prop where
 g : W.grownBy w1 v.ownBlock
 at_ : v1.ownBlock = v.ownBlock ∨ ∃ b, v1.ownBlock = some b ∧ W.heap.size ≤ b
section
variable {w0 w : World} {P0 : Nat → Prop} {W : World} {v : Value} {xs : List Int}
theorem Bs.drew (h : Bs w0 w P0 W v xs) : Bs w0 w P0 W.drew v xs := ⟨Kd.R_drew h.r, below_drew1 h.b, h.k.drew⟩
theorem Bs.drewN (h : Bs w0 w P0 W v xs) (n : Nat) : Bs w0 w P0 (W.drewN n) v xs := ⟨Kd.R_drewN h.r n, pw_below_drewN h.b n, h.k.drewN n⟩
theorem Bs.alloc (h : Bs w0 w P0 W v xs) (o : Obj) : Bs w0 w P0 (W.alloc o) v xs := ⟨Kd.R_alloc h.r o, below_alloc h.b o, h.k.alloc o⟩
theorem Bs.size (h : Bs w0 w P0 W v xs) : w0.heap.size ≤ W.heap.size := h.b.size
theorem Bs.app (h : Bs w0 w P0 W v xs) {v1 : Value} {w1 : World} {ys : List Int} (h1 : RB w1 w0.heap.size (fun k => P0 k ∨ w.heap.size ≤ k) v1 ys) (h2 : Below w0.heap.size w0 w1) (h3 : W.grownBy w1 v.ownBlock) : Bs w0 w P0 w1 v1 ys :=
 ⟨h1, h2, Kept.of_grown h3 h.k (fun k e => h.r.1 k e)⟩
end
theorem RB.take {W : World} {base : Nat} {ok : Nat → Prop} {A : Option Addr} {n c m : Nat} {xs : List Int} (h : RB W base ok (.slice A n c) xs) (hm : m ≤ xs.length) : RB W base ok (.slice A m c) (xs.take m) := by
 have ho := Kd.own_of_R h
 have hl : (xs.take m).length = m := by rw [List.length_take]; omega
 have hn : nums .u8 (xs.take m) = (nums .u8 xs).take m := by unfold nums; rw [List.map_take]
 refine Kd.R_of_own (h1 := fun _ => rfl) (enc := Value.int .u8) (xs := xs.take m) ?_ (fun k hk => h.1 k (by cases A with | none => cases hk | some a => exact hk))
 rw [hl]
 show W.ownsRow base 5 1 (.slice A m c) m (nums .u8 (xs.take m))
 refine ⟨by rw [hn, List.length_take]; have := ho.1; unfold nums at this ⊢; simp at this ⊢; omega, ?_⟩
 rcases ho.2 with ⟨e, e0⟩ | ⟨g, cap, cur, e, h1, h2, h3, h4, h5, h6⟩
 ·injection e with e1 e2 e3
  subst e1 e3
  left
  obtain rfl : m = 0 := by omega
  exact ⟨rfl, rfl⟩
 ·injection e with e1 e2 e3
  subst e1 e3
  right
  refine ⟨g, c, cur, rfl, h1, h2, by omega, h4, h5, ?_⟩
  rw [hn, show nums .u8 xs = encs (Value.int .u8) xs from rfl, ← h6, List.take_take]
  congr 1
  omega
section
variable {ops : Array Oper} {rest : List Oper} {o : Oper} {a : Act} {Q : Exit → Act → World → Prop} {w0 w : World} {P0 : Nat → Prop} {W : World} {v : Value} {xs : List Int}
theorem app1 (s x : Tmp) (c : Int) (H : Bs w0 w P0 W v xs) (hl : xs.length ≤ 100000000000000)
  (h : ∀ v1 w1, Bs w0 w P0 w1 v1 (xs ++ [c]) → Ap W w1 v v1 → wpList Tryz.prog ops Q rest (a.put o.dst v1) w1)
  (hgd : o.guard = none := by rfl) (ho : o.op = .call { callee := .builtin .append, args := #[.tmp s, .tmp x], argTypes := #[51, 51] } := by rfl) (hs : a.eval (.tmp s) = v := by rfl) (hx : a.eval (.tmp x) = .slice (some ⟨W.heap.size, 0, none⟩) 1 1 := by rfl) :
  wpList Tryz.prog ops Q (o :: rest) a (W.alloc (.cells [.int .u8 c].toArray 5)) :=
 Kd.R_append (Kd.int .u8) (w0 := w0) w0.heap.size hgd (.tmp s) (.tmp x) 51 5 (.int .u8 0) 1 ho Tryz.underlying51 info5 rfl (by decide) (by omega) v xs c [.int .u8 c] _ (fun _ => False) hs hx rfl (fun _ hk => hk.elim) (fun k hk => .inr (Nat.le_trans H.k.1 hk)) H.r H.b H.size (by omega) (fun v1 w1 h1 h2 h3 h4 => h v1 w1 (H.app h1 h2 h3) ⟨h3, h4⟩)
theorem appS (s x : Tmp) (y : au) (H : Bs w0 w P0 W v xs) (hl : xs.length + y.size ≤ 100000000000000)
  (h : ∀ v1 w1, Bs w0 w P0 w1 v1 (xs ++ bytesOf y) → Ap W w1 v v1 → wpList Tryz.prog ops Q rest (a.put o.dst v1) w1)
  (hgd : o.guard = none := by rfl) (ho : o.op = .call { callee := .builtin .append, args := #[.tmp s, .tmp x], argTypes := #[51, 9] } := by rfl) (hs : a.eval (.tmp s) = v := by rfl) (hx : a.eval (.tmp x) = .string y := by rfl) :
  wpList Tryz.prog ops Q (o :: rest) a W :=
 Kd.R_append_str (w0 := w0) w0.heap.size hgd (.tmp s) (.tmp x) 51 9 5 ho Tryz.underlying51 Tryz.underlying9 info5 v xs y _ hs hx (fun k hk => .inr (Nat.le_trans H.k.1 hk)) H.r H.b H.size (by omega) (fun v1 w1 h1 h2 h3 h4 => h v1 w1 (H.app h1 h2 h3) ⟨h3, h4⟩)
theorem appR (s x : Tmp) {A : Option Addr} {m c : Nat} (ys : List Int) (H : Bs w0 w P0 W v xs) (hr : Kd.C (Kd.int .u8) W A m ys) (hl : xs.length + m ≤ 100000000000000)
  (h : ∀ v1 w1, Bs w0 w P0 w1 v1 (xs ++ ys) → Ap W w1 v v1 → wpList Tryz.prog ops Q rest (a.put o.dst v1) w1)
  (hgd : o.guard = none := by rfl) (ho : o.op = .call { callee := .builtin .append, args := #[.tmp s, .tmp x], argTypes := #[51, 51] } := by rfl) (hs : a.eval (.tmp s) = v := by rfl) (hx : a.eval (.tmp x) = .slice A m c := by rfl) :
  wpList Tryz.prog ops Q (o :: rest) a W :=
 Kd.R_append_rows (Kd.int .u8) (w0 := w0) w0.heap.size hgd (.tmp s) (.tmp x) 51 5 (.int .u8 0) 1 ho Tryz.underlying51 info5 rfl (by decide) (by omega) v xs ys A m c _ (fun _ => False) hs hx H.r hr (fun _ _ h => h) (fun _ h => h.elim) (fun k hk => .inr (Nat.le_trans H.k.1 hk)) H.b H.size (by omega) (fun v1 w1 h1 h2 h3 h4 => h v1 w1 (H.app h1 h2 h3) ⟨h3, h4⟩)
end
end Go.Proofs.YtmpdhdnoohmndaaGreatDoor.Pr

import Derived.Test.YtmpdhdnoohmndaaGreatDoorPan1
import Derived.Test.YtmpdhdnoohmndaaGreatDoorPso3
namespace Go.Proofs.YtmpdhdnoohmndaaGreatDoor.Pr
open Go.RowKit Go.Proofs.YtmpdhdnoohmndaaGreatDoorW.PrintWords Go.Proofs.YtmpdhdnoohmndaaGreatDoorW.PrintLast Go.Proofs.YtmpdhdnoohmndaaGreatDoorW.PrintMore Sp Gj So
set_option linter.unusedVariables false
set_option linter.unusedSimpArgs false
structure S118 where
 f0 : Int
 f1 : Int
 f2 : Int
 f3 : Int
def z118 : S118 := ⟨(0 : Int), (0 : Int), (0 : Int), (0 : Int)⟩
def k118 : Kd S118 := Kd.iso (Kd.pair (Kd.int .i64) (Kd.pair (Kd.int .i64) (Kd.pair (Kd.int .i64) (Kd.int .i64)))) (fun x : S118 => (x.f0, x.f1, x.f2, x.f3))
theorem k118_open {w : World} {x : S118} {cs : List Value} (h : k118.K w x cs) : cs = [.int .i64 x.f0, .int .i64 x.f1, .int .i64 x.f2, .int .i64 x.f3] := by
 obtain ⟨_, _, rfl, rfl, ⟨_, _, rfl, rfl, ⟨_, _, rfl, rfl, rfl⟩⟩⟩ := h
 exact rfl
theorem k118_mkM (w : World) (base : Nat) (ok : Nat → Prop) (x : S118)  : k118.M w base ok x [.int .i64 x.f0, .int .i64 x.f1, .int .i64 x.f2, .int .i64 x.f3] := ⟨[.int .i64 x.f0], [.int .i64 x.f1, .int .i64 x.f2, .int .i64 x.f3], rfl, rfl, ⟨[.int .i64 x.f1], [.int .i64 x.f2, .int .i64 x.f3], rfl, rfl, ⟨[.int .i64 x.f2], [.int .i64 x.f3], rfl, rfl, rfl⟩⟩⟩
theorem info118 : (Tryz.prog.info? 118).map (fun i => (i.zero, i.size, i.bytes)) = some (some (.agg #[(.int .i64 0), (.int .i64 0), (.int .i64 0), (.int .i64 0)]), 4, 32) := by kernel_rfl
def plOf (ps : List S118) (i j : Nat) : Int := if j = 0 then (ps.getD i z118).f0 else if j = 1 then (ps.getD i z118).f1 else if j = 2 then (ps.getD i z118).f2 else (ps.getD i z118).f3
structure Stp (W w1 : World) (v v1 : Value) : Prop where
 k : Kept W w1 (fun k => some k = v.ownBlock)
 at_ : ∀ k, v1.ownBlock = some k → v.ownBlock = some k ∨ W.heap.size ≤ k
theorem Ap.stp {W w1 : World} {v v1 : Value} (h : Ap W w1 v v1) : Stp W w1 v v1 :=
 ⟨Kept.of_grown h.g (Kept.refl _ _) (fun k e => .inl e.symm), fun k e => by
  rcases h.at_ with g | ⟨b, g, hb⟩
  ·exact .inl (g ▸ e)
  ·rw [g] at e; injection e with e; exact .inr (by omega)⟩
theorem Stp.below {W w1 : World} {v : Value} (h : Below W.heap.size W w1) : Stp W w1 v v := ⟨Kept.of_below h _, fun _ e => .inl e⟩
section
variable {w0 w W w1 : World} {P0 : Nat → Prop} {v v1 : Value} {xs ys : List Int}
theorem Bs.lt (h : Bs w0 w P0 W v xs) {k : Nat} (e : v.ownBlock = some k) : k < W.heap.size := by
 rcases (Kd.own_of_R h.r).2 with ⟨rfl, _⟩ | ⟨g, cap, cur, rfl, _, h2, _⟩
 ·simp [Value.ownBlock] at e
 ·simp only [Value.ownBlock, al] at e
  subst e
  exact blk_lt h2
theorem Bs.in_ (h : Bs w0 w P0 W v xs) : Bs w0 W (fun k => some k = v.ownBlock) W v xs := ⟨Kd.R_reok rfl h.r (fun k e => .inl e.symm), h.b, Kept.refl _ _⟩
theorem Bs.then_ (h : Bs w0 w P0 W v xs) (h' : Bs w0 W (fun k => some k = v.ownBlock) w1 v1 ys) : Bs w0 w P0 w1 v1 ys :=
 ⟨Kd.R_mono h'.r (fun k hk => hk.elim (fun e => h.r.1 k e.symm) (fun e => .inr (Nat.le_trans h.k.1 e))), h'.b, h.k.then_ h'.k (fun k e => h.r.1 k e.symm)⟩
theorem Bs.stp (h' : Bs w0 W (fun k => some k = v.ownBlock) w1 v1 ys) : Stp W w1 v v1 := ⟨h'.k, fun k e => (h'.r.1 k e).imp Eq.symm id⟩
theorem Bs.below (h : Bs w0 w P0 W v xs) (k : Below W.heap.size W w1) : Bs w0 w P0 w1 v xs := ⟨Kd.R_below h.r k, below_then h.b h.size k, h.k.below k⟩
theorem Bs.far (h : Bs w0 w P0 W v xs) (h0 : w0.heap.size ≤ w.heap.size) {b : Nat} (hb : w.heap.size ≤ b) (hv : v.ownBlock ≠ some b) (i : Nat) (u : Value) : Bs w0 w P0 (W.setCell ⟨b, i, none⟩ u) v xs :=
 ⟨Kd.R_reok rfl (Kd.R_far (Kd.R_tight rfl h.r) (p := ⟨b, i, none⟩) (fun k e (ek : k = b) => hv (by rw [← ek]; exact e.symm)) u) (fun k e => h.r.1 k e), h.b.setCell (Nat.le_trans h0 hb) _, h.k.setCell (.inr hb) u⟩
theorem Bs.grown (h : Bs w0 w P0 W v xs) (h0 : w0.heap.size ≤ w.heap.size) {r : Option Nat} (hg : W.grownBy w1 r) (hr : ∀ k, r = some k → w.heap.size ≤ k ∧ v.ownBlock ≠ some k) : Bs w0 w P0 w1 v xs :=
 ⟨Kd.R_reok rfl (Kd.R_grown (Kd.R_tight rfl h.r) hg (fun k e e2 => (hr k e2.symm).2 e.symm)) (fun k e => h.r.1 k e), h.b.grown hg h.size (fun k e => Nat.le_trans h0 (hr k e).1), Kept.of_grown hg h.k (fun k e => .inr (hr k e).1)⟩
theorem Bs.tail {d : Int} (h : Bs w0 w P0 W v (xs ++ [d])) (hl : xs.length ≤ 100000000000) : ∃ g n c m : Nat, v = .slice (some ⟨g, 0, none⟩) n c ∧ n = m + 1 ∧ m = xs.length ∧ W.cell? ⟨g, m, none⟩ = some (.int .u8 d) ∧ W.frozen? ⟨g, m, none⟩ = false ∧ (n : Int) - 1 = m ∧ wrap64 (m : Int) = m ∧ IntKind.i64.wrap (m : Int) = m ∧ m < n ∧ (m : Int) < n := by
 obtain ⟨g, cap, cur, rfl, h1, h2, h3, h4, h5, h6⟩ : ∃ g cap cur, v = .slice (some ⟨g, 0, none⟩) (xs ++ [d]).length cap ∧ w0.heap.size ≤ g ∧ W.heap[g]? = some (.cells cur 5 (0, 0)) ∧ (xs ++ [d]).length ≤ cap ∧ cap ≤ maxLen ∧ cur.size = cap * 1 ∧ cur.toList.take ((xs ++ [d]).length * 1) = encs (Value.int .u8) (xs ++ [d]) := by
  rcases (Kd.own_of_R h.r).2 with ⟨_, e⟩ | h
  ·simp at e
  ·exact h
 have h9 : wrap64 (xs.length : Int) = xs.length := by unfold wrap64; omega
 refine ⟨g, _, cap, xs.length, rfl, by simp, rfl, ?_, blk_frozen h2 _, by simp, h9, (i64_w _).trans h9, by simp, by simp; omega⟩
 have := Kd.R_cell (h1 := fun _ => rfl) (enc := Value.int .u8) 0 h.r (xs.length : Int) (by omega) (by simp; omega)
 simp only [Int.toNat_natCast] at this
 rw [this.1]
 unfold rdOf
 simp
theorem Bs.put {d : Int} {g n c m : Nat} (h : Bs w0 w P0 W (.slice (some ⟨g, 0, none⟩) n c) (xs ++ [d])) (hm : m = xs.length) (u : Int) : Bs w0 w P0 (W.setCell ⟨g, m, none⟩ (.int .u8 u)) (.slice (some ⟨g, 0, none⟩) n c) (xs ++ [u]) := by
 have hn : n = (xs ++ [d]).length := (Kd.R_reads' h.r).1
 subst hn hm
 have := (Kd.R_put (h1 := fun _ => rfl) (enc := Value.int .u8) h.r (xs.length : Int) u)
 simp only [Int.toNat_natCast] at this
 rw [show (xs ++ [d]).set xs.length u = xs ++ [u] by simp] at this
 refine ⟨?_, h.b.setCell ?_ _, h.k.setCell (h.r.1 g rfl) _⟩
 ·have h2 := this.1
  rw [show (xs ++ [d]).length = (xs ++ [u]).length by simp] at h2
  rw [show (xs ++ [d]).length = (xs ++ [u]).length by simp]
  exact h2
 ·rcases (Kd.own_of_R h.r).2 with ⟨e, _⟩ | ⟨g', cap, cur, e, h1, _⟩
  ·cases e
  ·injection e with e1 e2 e3
   injection e1 with e1
   injection e1 with e1
   rw [e1]; exact h1
def Pv (w W : World) (v pv : Value) (ps : List S118) : Prop := Kd.R k118 118 W w.heap.size (fun k => some k ≠ v.ownBlock) pv ps
variable {pv : Value} {ps : List S118}
theorem Pv.own (h : Pv w W v pv ps) {k : Nat} (e : pv.ownBlock = some k) : w.heap.size ≤ k ∧ k < W.heap.size ∧ v.ownBlock ≠ some k := by
 refine ⟨?_, ?_, fun e2 => h.1 k e e2.symm⟩ <;>
  (obtain ⟨_, inner, hown, _⟩ := h
   rcases hown.2 with ⟨rfl, _⟩ | ⟨g, cap, cur, rfl, h1, h2, _⟩
   ·simp [Value.ownBlock] at e
   ·simp only [Value.ownBlock, al] at e
    subst e
    first | exact h1 | exact blk_lt h2)
theorem Pv.stp (h : Pv w W v pv ps) (s : Stp W w1 v v1) : Pv w w1 v1 pv ps :=
 Kd.R_reok rfl (Kd.R_kept h s.k (fun k a b => a b)) (fun k e e2 => by
  have := h.own e
  rcases s.at_ k e2.symm with g | g
  ·exact this.2.2 g
  ·omega)
theorem Pv.far (h : Pv w W v pv ps) {b : Nat} (hv : pv.ownBlock ≠ some b) (i : Nat) (u : Value) : Pv w (W.setCell ⟨b, i, none⟩ u) v pv ps :=
 Kd.R_reok rfl (Kd.R_far (Kd.R_tight rfl h) (p := ⟨b, i, none⟩) (fun k e (ek : k = b) => hv (by rw [← ek]; exact e.symm)) u) (fun k e => h.1 k e)
theorem Pv.rows (h : Pv w W v pv ps) (hn : 0 < ps.length) : ∃ P c, pv = .slice (some ⟨P, 0, none⟩) ps.length c ∧ (∀ i, i < ps.length → P4 W P (0 + i * 4) (plOf ps i)) ∧ (∀ i, i < ps.length * 4 → W.frozen? ⟨P, 0 + i, none⟩ = false) := by
 obtain ⟨g, cap, cur, rfl, h1, h2, h3, h4, h5, h6⟩ : ∃ g cap cur, pv = .slice (some ⟨g, 0, none⟩) ps.length cap ∧ w.heap.size ≤ g ∧ W.heap[g]? = some (.cells cur 118 (0, 0)) ∧ True ∧ True ∧ True ∧ True := by
  obtain ⟨_, inner, hown, _⟩ := h
  rcases hown.2 with ⟨_, e⟩ | ⟨g, cap, cur, e, h1, h2, _⟩
  ·omega
  ·exact ⟨g, cap, cur, e, h1, h2, trivial, trivial, trivial, trivial⟩
 refine ⟨g, cap, rfl, fun i hi => ?_, fun i _ => blk_frozen h2 _⟩
 obtain ⟨_, _, hC⟩ := Kd.R_reads' h
 obtain ⟨ad, c, e, _, hK, hc⟩ := Kd.C_get hC z118 (i : Int) (by omega) (by omega)
 injection e with e
 subst e
 obtain rfl := k118_open hK
 simp only [Int.toNat_natCast] at hc
 have a := fun j u hu => hc j u hu
 simp only [addB, show k118.sz = 4 from rfl] at a
 refine ⟨?_, ?_, ?_, ?_⟩
 ·have := a 0 _ rfl; simpa [plOf] using this
 ·have := a 1 _ rfl; simpa [plOf, Nat.add_assoc] using this
 ·have := a 2 _ rfl; simpa [plOf, Nat.add_assoc] using this
 ·have := a 3 _ rfl; simpa [plOf, Nat.add_assoc] using this
structure Bx (w W : World) (v pv : Value) (b : Nat) (c : Array Value) : Prop where
 z : W.heap[b]? = some (.cells c 118 (0, 0))
 nv : v.ownBlock ≠ some b
 np : pv.ownBlock ≠ some b
 g : w.heap.size ≤ b
theorem Bx.stp {b : Nat} {c : Array Value} (h : Bx w W v pv b c) (s : Stp W w1 v v1) : Bx w w1 v1 pv b c :=
 ⟨blk_kept h.z s.k (fun e => h.nv e.symm), fun e => by
  have := blk_lt h.z
  rcases s.at_ b e with g | g
  ·exact h.nv g
  ·omega, h.np, h.g⟩
theorem Bx.new {c : Array Value} {b : Nat} (h : Bs w0 w P0 W v xs) (hp : Pv w W v pv ps) (hb : W.heap.size = b) (hz : w1.heap[b]? = some (.cells c 118 (0, 0))) : Bx w w1 v pv b c :=
 ⟨hz, fun e => by have := h.lt e; omega, fun e => by have := (hp.own e).2.1; omega, by have := h.k.1; omega⟩
theorem Bx.put {b : Nat} {c c' : Array Value} (h : Bx w W v pv b c) (i : Nat) (u : Value) (e : c.setIfInBounds i u = c') : Bx w (W.setCell ⟨b, i, none⟩ u) v pv b c' := ⟨blk_put h.z i u e, h.nv, h.np, h.g⟩
theorem mk_pairs (h : Bs w0 w P0 W v xs) : ∃ w3, (Instr.makeSlice 114 (.int .i64 0) (.int .i64 8)).run Tryz.prog W = .ok (.slice (some ⟨W.heap.size, 0, none⟩) 0 8) w3 ∧ Bs w0 w P0 w3 v xs ∧ Pv w w3 v (.slice (some ⟨W.heap.size, 0, none⟩) 0 8) [] := by
 obtain ⟨i5, hi5, hz0, hz1, hz2⟩ := info_parts info118
 obtain ⟨w3, hmk, hown, hgr⟩ := run_make_own (P := Tryz.prog) W w.heap.size 114 118 i5 (.agg #[(.int .i64 0), (.int .i64 0), (.int .i64 0), (.int .i64 0)]) 4 Tryz.underlying114 hi5 hz0 hz1 .i64 .i64 8 (by rw [hz2]; decide) (by unfold maxLen; decide) h.k.1
 refine ⟨w3, hmk, h.below ?_, ⟨fun k e e2 => ?_, _, hown, ?_⟩⟩
 ·exact (Below.refl _ _).grown hgr (Nat.le_refl _) (by simp)
 ·simp only [Value.ownBlock, al] at e
  have := h.lt e2.symm
  omega
 ·exact ⟨by simp, fun j p hj => by simp at hj⟩
section
variable {ops : Array Oper} {rest : List Oper} {o : Oper} {a : Act} {Q : Exit → Act → World → Prop}
theorem appP (s x : Tmp) (p : S118) (HB : Bs w0 w P0 W v xs) (h0 : w0.heap.size ≤ w.heap.size) (HP : Pv w W v pv ps) (hl : ps.length ≤ 100000)
  (h : ∀ pv1 w1, Bs w0 w P0 w1 v xs → Pv w w1 v pv1 (ps ++ [p]) → wpList Tryz.prog ops Q rest (a.put o.dst pv1) w1)
  (hgd : o.guard = none := by rfl) (ho : o.op = .call { callee := .builtin .append, args := #[.tmp s, .tmp x], argTypes := #[114, 114] } := by rfl) (hs : a.eval (.tmp s) = pv := by rfl) (hx : a.eval (.tmp x) = .slice (some ⟨W.heap.size, 0, none⟩) 1 1 := by rfl) :
  wpList Tryz.prog ops Q (o :: rest) a (W.alloc (.cells [.int .i64 p.f0, .int .i64 p.f1, .int .i64 p.f2, .int .i64 p.f3].toArray 118)) :=
 Kd.R_append k118 (w0 := W) w.heap.size hgd (.tmp s) (.tmp x) 114 118 (.agg #[(.int .i64 0), (.int .i64 0), (.int .i64 0), (.int .i64 0)]) 32 ho Tryz.underlying114 info118 rfl (by decide) (by decide) pv ps p _ _ (fun _ => False) hs hx (k118_mkM _ _ _ p) (fun _ e => e.elim) (fun k hk e => by have := HB.lt e.symm; omega) HP (Below.refl _ _) HB.k.1 (by omega)
  (fun pv1 w2 h1 h2 h3 h4 => h pv1 w2 (HB.grown h0 h3 (fun k e => ⟨(HP.own e).1, (HP.own e).2.2⟩)) h1)
end
end
end Go.Proofs.YtmpdhdnoohmndaaGreatDoor.Pr

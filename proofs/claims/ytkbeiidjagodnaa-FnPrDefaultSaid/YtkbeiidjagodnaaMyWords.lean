/- Words of this session beside the printed ones: a string appended to a row of bytes, with the word on where the new row lies. -/
import Derived.Lib.AppendStr
import Derived.Test.YtkbeiidjagodnaaWMore
set_option linter.unusedVariables false
namespace Go.Proofs.YtkbeiidjagodnaaW.PrintWords
open Go.RowKit Go.Proofs.YtkbeiidjagodnaaW.PrintMore

/-- A row's block is one, whatever its length. -/
theorem ownBlock_len (A : Option Addr) (n c m c2 : Nat) : (Value.slice A n c).ownBlock = (Value.slice A m c2).ownBlock := by cases A <;> rfl
theorem Kd.V_len {α : Type} {d : Kd α} {e : Nat} {w : World} {base : Nat} {p : Nat → Prop} {A : Option Addr} {n c m c2 : Nat} {v : Value} {xs : List α}
    (h : Kd.V d e w base (fun k => p k ∧ some k ≠ (Value.slice A n c).ownBlock) v xs) : Kd.V d e w base (fun k => p k ∧ some k ≠ (Value.slice A m c2).ownBlock) v xs := by
  rw [ownBlock_len A m c2 n c]; exact h
section
variable {P : Program} (w : World)
/-- Where a string appended puts its row: in the old one's block, or in the next new block. -/
theorem append_string_at (base : Nat) (t u ty e : TypeId) (i : TypeInfo) (ht : P.underlying t = some (.slice e)) (hu : P.underlying u = some .string) (hi : P.info? e = some i) (hz : i.zero = some (.int .u8 0))
    (hsize : i.size = 1) (hby : i.bytes = 1) (v : Value) (n : Nat) (xs : List Value) (hown : w.ownsRow base e 1 v n xs) (s : ByteArray)
    (h63 : n + s.size ≤ maxLen) (hbytes : n + s.size ≤ 140737488355328) (hbase : base ≤ w.heap.size) :
    ∃ v' w', (Builtin.append_ #[t, u] ty #[v, .string s]).run P w = .ok v' w' ∧ w'.ownsRow base e 1 v' (n + s.size) (xs ++ Lib.strCells s) ∧ w.grownBy w' v.ownBlock ∧
      (v'.ownBlock = v.ownBlock ∨ v'.ownBlock = some w.heap.size) := by
  obtain ⟨v', w', hr, h2, h3, _⟩ := Lib.run_append_own_string (P := P) w base t u ty e i ht hu hi hz hsize hby v n xs hown s h63 hbytes hbase
  refine ⟨v', w', hr, h2, h3, ?_⟩
  have hsmall : n + s.size ≤ 9223372036854775807 := by simp only [maxLen] at h63; omega
  have hxl : xs.length = n := by simpa using hown.1
  have pick : ∀ (A : Option Addr) (m c : Nat) (w2 : World), (Builtin.append_ #[t, u] ty #[v, .string s]).run P w = .ok (.slice A m c) w2 → v' = .slice A m c := by
    intro A m c w2 hq
    rw [hr] at hq
    injection hq
  rcases hown.2 with ⟨rfl, rfl⟩ | ⟨g, cap, cur, rfl, hbg, hg, hnc, hcm, hcs, htake⟩
  · by_cases hm : s.size = 0
    · have hf := Lib.run_firstCells_string (P := P) w 1 s
      rw [hm] at hf
      have hq : (Builtin.append_ #[t, u] ty #[.slice none 0 0, .string s]).run P w = .ok (.slice none 0 0) w := by
        simp [Builtin.append_, run_underlying ht, run_underlying hu, sizeOf, typeInfo, hi, hsize, Builtin.lenOf, hm, hf]
      have := pick _ _ _ _ hq
      subst this
      exact .inl rfl
    · have hq := run_append_nil_string (P := P) w t u ty e i (.int .u8 0) ht hu hi hz s (by omega) (by omega) (by rw [hby]; omega)
      have := pick _ _ _ _ hq
      subst this
      exact .inr (by simp [Value.ownBlock])
  · by_cases hroom : n + s.size ≤ cap
    · have hcs' : cur.size = cap := by simpa using hcs
      have hq := Lib.run_append_room_string (P := P) w t u ty e i ht hu hi hsize g n cap cur hg s hroom (by omega)
      have := pick _ _ _ _ hq
      subst this
      exact .inl (by simp [Value.ownBlock])
    · have holds : ∀ j u, xs[j]? = some u → w.cell? ((⟨g, 0, none⟩ : Addr).add j) = some u := hown.cells (g := g) rfl
      have hq := Lib.run_append_grow_string (P := P) w t u ty e i (.int .u8 0) ht hu hi hz ⟨g, 0, none⟩ n cap xs (by rw [hsize]; simpa using hxl) holds s (by omega) (by omega) (by rw [hby]; exact growslice_fits (by omega) (by omega))
      have := pick _ _ _ _ hq
      subst this
      exact .inr (by simp [Value.ownBlock])
end

section
variable {P : Program} {ops : Array Oper} {rest : List Oper} {o : Oper} {a : Act} {Q : Exit → Act → World → Prop}
/-- append(v, s...) of a string to a row of bytes, for the walk. -/
theorem Kd.R_append_str {w0 W : World} (base : Nat) (hgd : o.guard = none) (s x : Operand) (t u e : TypeId)
    (ho : o.op = .call { callee := .builtin .append, args := #[s, x], argTypes := #[t, u] })
    (ht : P.underlying t = some (.slice e)) (hu : P.underlying u = some .string) (hinfo : (P.info? e).map (fun i => (i.zero, i.size, i.bytes)) = some (some (.int .u8 0), 1, 1))
    (v : Value) (xs : List Int) (y : ByteArray) (ok : Nat → Prop) (hs : a.eval s = v) (hx : a.eval x = .string y) (hfresh : ∀ k, W.heap.size ≤ k → ok k)
    (HO : Kd.R (Kd.int .u8) e W base ok v xs) (HB : Below base w0 W) (hbase : base ≤ W.heap.size) (hl : xs.length + y.size ≤ 140737488355328)
    (h : ∀ v1 w1, Kd.R (Kd.int .u8) e w1 base ok v1 (xs ++ bytesOf y) → Below base w0 w1 → W.grownBy w1 v.ownBlock → (v1.ownBlock = v.ownBlock ∨ ∃ b, v1.ownBlock = some b ∧ W.heap.size ≤ b) → wpList P ops Q rest (a.put o.dst v1) w1) :
    wpList P ops Q (o :: rest) a W := by
  obtain ⟨i0, hi, hzz⟩ := Option.map_eq_some_iff.1 hinfo
  simp only [Prod.mk.injEq] at hzz
  obtain ⟨hz0, hz1, hz2⟩ := hzz
  have hown0 := Kd.own_of_R (h1 := fun _ => rfl) HO
  obtain ⟨v1, w1, hr, hown, hg, hat⟩ := append_string_at (P := P) W base t u o.type e i0 ht hu hi hz0 hz1 hz2 v xs.length (encs (Value.int .u8) xs) hown0 y (by simp only [maxLen]; omega) hl hbase
  have hl2 : (xs ++ bytesOf y).length = xs.length + y.size := by rw [List.length_append, bytesOf_length]
  have hc : encs (Value.int .u8) (xs ++ bytesOf y) = encs (Value.int .u8) xs ++ Lib.strCells y := by
    simp [encs, bytesOf, Lib.strCells]
  have hR : Kd.R (Kd.int .u8) e w1 base ok v1 (xs ++ bytesOf y) := by
    refine Kd.R_of_own (h1 := fun _ => rfl) (by rw [hl2, hc]; exact hown) (fun k hk => ?_)
    rcases hat with e1 | e1
    · exact HO.1 k (by rw [← e1]; exact hk)
    · rw [e1] at hk
      injection hk with hk
      subst hk
      exact hfresh _ (Nat.le_refl _)
  refine wpList_plain hgd fun K hK => ?_
  unfold Oper.wp execOp
  simp only [ho, resolve, invoke, builtin, Sem.run_bind, Sem.run_pure, Result.andThen_ok, List.map_toArray, List.map_cons, List.map_nil, hs, hx, hr]
  refine hK _ _ (h v1 w1 hR (HB.grown hg hbase (own_base hown0)) hg ?_)
  rcases hat with hat | hat
  · exact .inl hat
  · exact .inr ⟨_, hat, Nat.le_refl _⟩
/-- The same in a region that draws its order. -/
theorem Kd.R_append_str_step {Kc : Act → World → Prop} {w0 W : World} (base : Nat) (hw : Region.wanted o (yielded ops a.tmps) = true) (s x : Operand) (t u e : TypeId)
    (ho : o.op = .call { callee := .builtin .append, args := #[s, x], argTypes := #[t, u] })
    (ht : P.underlying t = some (.slice e)) (hu : P.underlying u = some .string) (hinfo : (P.info? e).map (fun i => (i.zero, i.size, i.bytes)) = some (some (.int .u8 0), 1, 1))
    (v : Value) (xs : List Int) (y : ByteArray) (ok : Nat → Prop) (hs : a.eval s = v) (hx : a.eval x = .string y) (hfresh : ∀ k, W.heap.size ≤ k → ok k)
    (HO : Kd.R (Kd.int .u8) e W base ok v xs) (HB : Below base w0 W) (hbase : base ≤ W.heap.size) (hl : xs.length + y.size ≤ 140737488355328)
    (h : ∀ v1 w1, Kd.R (Kd.int .u8) e w1 base ok v1 (xs ++ bytesOf y) → Below base w0 w1 → W.grownBy w1 v.ownBlock → (v1.ownBlock = v.ownBlock ∨ ∃ b, v1.ownBlock = some b ∧ W.heap.size ≤ b) → Kc (a.put o.dst v1) w1) :
    if Region.wanted o (yielded ops a.tmps) = true then Oper.wp P o a W Kc Q else Kc (a.put o.dst undef) W := by
  obtain ⟨i0, hi, hzz⟩ := Option.map_eq_some_iff.1 hinfo
  simp only [Prod.mk.injEq] at hzz
  obtain ⟨hz0, hz1, hz2⟩ := hzz
  have hown0 := Kd.own_of_R (h1 := fun _ => rfl) HO
  obtain ⟨v1, w1, hr, hown, hg, hat⟩ := append_string_at (P := P) W base t u o.type e i0 ht hu hi hz0 hz1 hz2 v xs.length (encs (Value.int .u8) xs) hown0 y (by simp only [maxLen]; omega) hl hbase
  have hl2 : (xs ++ bytesOf y).length = xs.length + y.size := by rw [List.length_append, bytesOf_length]
  have hc : encs (Value.int .u8) (xs ++ bytesOf y) = encs (Value.int .u8) xs ++ Lib.strCells y := by
    simp [encs, bytesOf, Lib.strCells]
  have hR : Kd.R (Kd.int .u8) e w1 base ok v1 (xs ++ bytesOf y) := by
    refine Kd.R_of_own (h1 := fun _ => rfl) (by rw [hl2, hc]; exact hown) (fun k hk => ?_)
    rcases hat with e1 | e1
    · exact HO.1 k (by rw [← e1]; exact hk)
    · rw [e1] at hk
      injection hk with hk
      subst hk
      exact hfresh _ (Nat.le_refl _)
  rw [if_pos hw]
  unfold Oper.wp execOp
  simp only [ho, resolve, invoke, builtin, Sem.run_bind, Sem.run_pure, Result.andThen_ok, List.map_toArray, List.map_cons, List.map_nil, hs, hx, hr]
  refine h v1 w1 hR (HB.grown hg hbase (own_base hown0)) hg ?_
  rcases hat with hat | hat
  · exact .inl hat
  · exact .inr ⟨_, hat, Nat.le_refl _⟩
end
end Go.Proofs.YtkbeiidjagodnaaW.PrintWords

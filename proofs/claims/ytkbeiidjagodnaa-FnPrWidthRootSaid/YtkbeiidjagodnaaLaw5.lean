/- What pretty's leaves and Any have done where they answered: plain Lean. -/
import Derived.Test.YtkbeiidjagodnaaLaw4
namespace Go.Proofs.Ytkbeiidjagodnaa.Pr
open Go.RowKit Go.Proofs.YtkbeiidjagodnaaW.PrintWords Go.Proofs.YtkbeiidjagodnaaW.PrintLast Go.Proofs.YtkbeiidjagodnaaW.PrintMore
set_option linter.unusedVariables false

theorem ite_some {α : Type} {c : Prop} [Decidable c] {a : Option α} {r : α} (h : (if c then a else none) = some r) : c ∧ a = some r := by
  by_cases hc : c
  · rw [if_pos hc] at h; exact ⟨hc, h⟩
  · rw [if_neg hc] at h; cases h
/-- Every element is a byte. -/
def Bytes (l : List Int) : Prop := ∀ c ∈ l, 0 ≤ c ∧ c ≤ 255
theorem Bytes.append {a b : List Int} (h : Bytes a) (h' : Bytes b) : Bytes (a ++ b) := fun c hc => (List.mem_append.1 hc).elim (h c) (h' c)
theorem Bytes.seg {x : List Int} (h : Bytes x) (i j : Int) : Bytes (seg x i j) := fun c hc => h c (List.mem_of_mem_take (List.mem_of_mem_drop hc))
def Stop (x : List Int) (j : Int) : Prop := j = x.length ∨ NumStop (rd x j)

theorem num_inv {x0 x1 : List Int} {nl s j : Int} (hs : 0 ≤ s) (hL : x1.length ≤ 1000000) (hj : j ≤ x1.length) (hst : Stop x1 j) : ∀ (k : Nat) (i : Int) (r : Res), s ≤ i → i ≤ j → (∀ p, i ≤ p → p < j → ¬ NumStop (rd x1 p)) →
    pretty_appendPrettyNumber.l0 k x0 x1 i nl s = some r → r = (x0 ++ seg x1 s j, j, nl, true) ∧ r.1.length ≤ 140737488355328
  | 0, i, r, h0, h1, h2, h => by simp [pretty_appendPrettyNumber.l0] at h
  | k + 1, i, r, h0, h1, h2, h => by
    rw [pretty_appendPrettyNumber.l0] at h
    have fin : ∀ {o : Option Res}, o = (if 0 ≤ s then (if s ≤ i then (if i ≤ (x1.length : Int) then ((some ((x1.take (i : Int).toNat).drop (s : Int).toNat : List Int)).bind fun y315 => (if x0.length + y315.length < 140737488355328 then (some ((x0 ++ y315), i, nl, true)) else (none))) else (none)) else (none)) else (none)) → o = some r → i = j → r = (x0 ++ seg x1 s j, j, nl, true) ∧ r.1.length ≤ 140737488355328 := by
      intro o ho h e
      subst e
      rw [ho, if_pos hs, if_pos h0, if_pos hj, Option.bind_some] at h
      obtain ⟨c, h⟩ := ite_some h
      simp only [Option.some.injEq] at h
      subst h
      exact ⟨rfl, by dsimp only; rw [List.length_append]; omega⟩
    by_cases c1 : i < (x1.length : Int)
    · rw [if_pos c1, if_pos (by omega)] at h
      by_cases hst' : NumStop (rd x1 i)
      · have e : i = j := by
          by_cases e : i = j
          · exact e
          · exact absurd hst' (h2 i (by omega) (by omega))
        by_cases a1 : rd x1 i ≤ 32
        · rw [if_pos a1] at h; exact fin rfl h e
        · by_cases a2 : rd x1 i = 44
          · rw [if_neg a1, if_pos a2] at h; exact fin rfl h e
          · by_cases a3 : rd x1 i = 58
            · rw [if_neg a1, if_neg a2, if_pos a3] at h; exact fin rfl h e
            · by_cases a4 : rd x1 i = 93
              · rw [if_neg a1, if_neg a2, if_neg a3, if_pos a4] at h; exact fin rfl h e
              · by_cases a5 : rd x1 i = 125
                · rw [if_neg a1, if_neg a2, if_neg a3, if_neg a4, if_pos a5] at h; exact fin rfl h e
                · unfold NumStop at hst'; omega
      · have hst2 := hst'
        unfold NumStop at hst'
        rw [if_neg (by omega), if_neg (by omega), if_neg (by omega), if_neg (by omega), if_neg (by omega), w64p (by omega) (by omega)] at h
        refine num_inv hs hL hj hst k (i + 1) r (by omega) ?_ (fun p h3 h4 => h2 p (by omega) h4) h
        by_cases e : i = j
        · subst e
          rcases hst with e | e
          · omega
          · exact absurd e hst2
        · omega
    · rw [if_neg c1] at h
      exact fin rfl h (by omega)


section
variable {VO : H_pObj} {x0 x : List Int} {pr : Bool} {wd : Int} {pre ind : ByteArray} {tabs nl mx : Int}
theorem drop_rd (x : List Int) (i : Int) (p : Nat) (h0 : 0 ≤ i) : rd (x.drop i.toNat) p = rd x (i + p) := by
  unfold rd
  rw [Int.toNat_natCast, List.getD_eq_getElem?_getD, List.getElem?_drop, List.getD_eq_getElem?_getD]
  congr 2
  omega
theorem any_gap1 {k : Nat} {i : Int} {r : Res} (h0 : 0 ≤ i) (h1 : i < x.length) (hL : x.length ≤ 1000000) (hc : rd x i ≤ 32) (h : pAny.l0 VO k x0 x i pr wd pre ind tabs nl mx = some r) : ∃ k', pAny.l0 VO k' x0 x (i + 1) pr wd pre ind tabs nl mx = some r := by
  cases k with
  | zero => simp [pAny.l0] at h
  | succ k => rw [pAny.l0, if_pos h1, if_pos h0, if_pos hc, w64p (by omega) (by omega)] at h; exact ⟨k, h⟩
/-- Where no number begins, and no string, Any asks for the kind of value. -/
theorem any_j1 {k : Nat} {i : Int} {r : Res} (h0 : 0 ≤ i) (h1 : i < x.length) (hc : 32 < rd x i) (hq : rd x i ≠ 34) (hn : ¬ (48 ≤ rd x i ∧ rd x i ≤ 57)) (hm : rd x i ≠ 45)
    (hf : rd x i ≠ 105 ∧ rd x i ≠ 73 ∧ rd x i ≠ 43 ∧ rd x i ≠ 78 ∧ (rd x i = 110 → i + 1 < x.length ∧ rd x (i + 1) = 117)) (h : pAny.l0 VO k x0 x i pr wd pre ind tabs nl mx = some r) : ∃ k', pAny.j1 VO k' x0 x i pr wd pre ind tabs nl mx false = some r := by
  cases k with
  | zero => simp [pAny.l0] at h
  | succ k =>
    rw [pAny.l0, if_pos h1, if_pos h0, if_neg (by omega), if_neg hq] at h
    have e0 : rd (x.drop i.toNat) 0 = rd x i := by have := drop_rd x i 0 h0; simpa using this
    have e1 : rd (x.drop i.toNat) 1 = rd x (i + 1) := drop_rd x i 1 h0
    have hnan : pretty_isNaNOrInf.f (x.drop i.toNat) = some false := by
      unfold pretty_isNaNOrInf.f
      have hl : (x.drop i.toNat).length = x.length - i.toNat := List.length_drop
      rw [e0, if_pos (by omega), if_neg hf.1, if_neg hf.2.1, if_neg hf.2.2.1, if_neg hf.2.2.2.1]
      by_cases c : rd x i = 110
      · obtain ⟨g1, g2⟩ := hf.2.2.2.2 c
        rw [if_pos c, if_pos (by omega), if_pos (by omega), e1, g2]
        rfl
      · rw [if_neg c]
    by_cases c : rd x i ≥ 48
    · rw [if_pos c, if_neg (by omega), if_neg hm, if_pos (by omega), hnan, Option.bind_some] at h; exact ⟨k, h⟩
    · rw [if_neg c, if_neg hm, if_pos (by omega), hnan, Option.bind_some] at h; exact ⟨k, h⟩
theorem any_comma {k : Nat} {i : Int} {r : Res} (h0 : 0 ≤ i) (h1 : i < x.length) (hL : x.length ≤ 1000000) (hc : rd x i = 44) (h : pAny.l0 VO k x0 x i pr wd pre ind tabs nl mx = some r) : ∃ k', pAny.l0 VO k' x0 x (i + 1) pr wd pre ind tabs nl mx = some r := by
  obtain ⟨k, h⟩ := any_j1 h0 h1 (by omega) (by omega) (by omega) (by omega) (by omega) h
  cases k with
  | zero => simp [pAny.j1] at h
  | succ k =>
    rw [pAny.j1, if_neg (by decide), if_pos h0, if_pos h1, if_neg (by omega), if_neg (by omega), if_neg (by omega), if_neg (by omega), if_neg (by omega), w64p (by omega) (by omega)] at h
    exact ⟨k, h⟩
theorem any_gap {i j : Int} (hL : x.length ≤ 1000000) (hj : j ≤ x.length) (h0 : 0 ≤ i) (hg : Gap x i j) : ∀ (d : Nat) {k : Nat} {r : Res} (q : Int), i ≤ q → j - q = d → pAny.l0 VO k x0 x q pr wd pre ind tabs nl mx = some r → ∃ k', pAny.l0 VO k' x0 x j pr wd pre ind tabs nl mx = some r
  | 0, k, r, q, h1, h2, h => by obtain rfl : q = j := by omega
                                exact ⟨k, h⟩
  | d + 1, k, r, q, h1, h2, h => by
    obtain ⟨k', h⟩ := any_gap1 (by omega) (by omega) hL (hg.2 q h1 (by omega)) h
    exact any_gap hL hj h0 hg d (q + 1) (by omega) (by omega) h
theorem any_arr {k : Nat} {i : Int} {r : Res} (h0 : 0 ≤ i) (h1 : i < x.length) (hc : rd x i = 91) (h : pAny.l0 VO k x0 x i pr wd pre ind tabs nl mx = some r) : ∃ k', VO.f k' x0 x i 91 93 pr wd pre ind false tabs nl mx = some r := by
  obtain ⟨k, h⟩ := any_j1 h0 h1 (by omega) (by omega) (by omega) (by omega) (by omega) h
  cases k with
  | zero => simp [pAny.j1] at h
  | succ k =>
    rw [pAny.j1, if_neg (by decide), if_pos h0, if_pos h1, if_neg (by omega), if_pos hc] at h
    replace h := Option.bind_eq_some_iff.mp h
    obtain ⟨⟨r1, r2, r3, r4⟩, e, h⟩ := h
    simp only [Option.some.injEq] at h
    subst h
    exact ⟨k, e⟩
/-- What a value is written as that is no array: no bracket, no blank. -/
def AtomL (a : List Int) : Prop := a ≠ [] ∧ ∀ c ∈ a, 32 < c ∧ c ≤ 255 ∧ c ≠ 91 ∧ c ≠ 93
end

theorem G.le {x : List Int} {i j : Int} {b : Bool} (h : G x b i j) : i < j ∧ j ≤ x.length := by
  induction h with
  | num i j h0 h1 h2 h3 h4 => exact ⟨h1, h2⟩
  | word i j h0 h1 h2 h3 => exact ⟨h1, h2⟩
  | empty i p h0 h1 h2 h3 h4 => have := h2.1; omega
  | arr i p u j h0 h1 h2 h3 h4 ih1 ih2 => have := h2.1; omega
  | close q r h1 h2 h3 => have := h1.1; omega
  | next q r t u j h1 h2 h3 h4 h5 h6 ih1 ih2 => have := h1.1; have := h4.1; omega
/-- How a value begins. -/
theorem G.starts {x : List Int} {i j : Int} {b : Bool} (h : G x b i j) : b = false → 0 ≤ i ∧ i < j ∧ j ≤ x.length ∧ 32 < rd x i ∧ rd x i ≠ 93 ∧ rd x i ≠ 44 := by
  intro hb
  cases h with
  | num i j h0 h1 h2 h3 h4 => exact ⟨h0, h1, h2, by omega, by omega, by omega⟩
  | word i j h0 h1 h2 h3 =>
    have b0 := seg_rd x i j 0 h0 (by omega) (by omega) h2
    rw [show i + 0 = i by omega] at b0
    have key : rd x i = 110 ∨ rd x i = 102 ∨ rd x i = 116 := by
      rcases h3 with e | e | e
      · rw [e] at b0; exact .inl b0.symm
      · rw [e] at b0; exact .inr (.inl b0.symm)
      · rw [e] at b0; exact .inr (.inr b0.symm)
    exact ⟨h0, h1, h2, by omega, by omega, by omega⟩
  | empty i p h0 h1 h2 h3 h4 => exact ⟨h0, by have := h2.1; omega, by omega, by omega, by omega, by omega⟩
  | arr i p u j h0 h1 h2 h3 h4 =>
    have a1 := h2.1
    have a2 := h3.le
    have a3 := h4.le
    exact ⟨h0, by omega, a3.2, by omega, by omega, by omega⟩
  | close q r h1 h2 h3 => cases hb
  | next q r t u j h1 h2 h3 h4 h5 h6 => cases hb
end Go.Proofs.Ytkbeiidjagodnaa.Pr
/- pretty's attempt at one line, along the grammar: plain Lean. -/
namespace Go.Proofs.Ytkbeiidjagodnaa.Pr
open Go.RowKit Go.Proofs.YtkbeiidjagodnaaW.PrintWords Go.Proofs.YtkbeiidjagodnaaW.PrintLast Go.Proofs.YtkbeiidjagodnaaW.PrintMore
set_option linter.unusedVariables false

section
variable {VA : H_pAny} {VO : H_pObj} {x : List Int} {pr : Bool} {wd : Int} {pre ind : ByteArray} {tabs nl mx : Int}
theorem loop_gap {j : Int} (hL : x.length ≤ 1000000) (hj : j ≤ x.length) {buf : List Int} {n : Int} {r : Res} : ∀ (d k : Nat) (q : Int), 0 ≤ q → Gap x q j → j - q = d → pObj.l0 VA VO k buf x q 91 93 pr wd pre ind tabs nl mx [] n = some r → ∃ k', pObj.l0 VA VO k' buf x j 91 93 pr wd pre ind tabs nl mx [] n = some r
  | 0, k, q, h0, hg, hd, h => by obtain rfl : q = j := by omega
                                 exact ⟨k, h⟩
  | d + 1, k, q, h0, hg, hd, h => by
    cases k with
    | zero => simp [pObj.l0] at h
    | succ k =>
      rw [pObj.l0, if_pos (by omega), if_pos h0, if_pos (hg.2 q (by omega) (by omega)), w64p (by omega) (by omega)] at h
      exact loop_gap hL hj d k (q + 1) (by omega) ⟨by omega, fun p h1 h2 => hg.2 p (by omega) h2⟩ (by omega) h
/-- The round of an element, with all that is written ahead of it. -/
theorem loop_elem {k : Nat} {buf : List Int} {q n : Int} {r : Res} (h0 : 0 ≤ q) (h1 : q < x.length) (hL : x.length ≤ 1000000) (hn0 : 0 ≤ n) (hc : 32 < rd x q) (hc1 : rd x q ≠ 93) (hw : wd ≠ -1)
    (h : pObj.l0 VA VO k buf x q 91 93 pr wd pre ind tabs nl mx [] n = some r) : ∃ k' y, (y = (if n > 0 then (buf ++ [44]) ++ [32] else buf)) ∧ (n > 0 → y.length ≤ 140737488355328) ∧ pObj.j7 VA VO k' y x q 91 93 pr wd pre ind tabs nl mx [] n = some r := by
  cases k with
  | zero => simp [pObj.l0] at h
  | succ k =>
    rw [pObj.l0, if_pos h1, if_pos h0, if_neg (by omega), if_neg hc1, if_pos rfl] at h
    cases k with
    | zero => simp [pObj.j6] at h
    | succ k =>
      rw [pObj.j6, if_pos rfl] at h
      by_cases c : n > 0
      · rw [if_pos c] at h
        obtain ⟨c1, h⟩ := ite_some h
        rw [Option.bind_some, if_neg hw, if_pos rfl] at h
        obtain ⟨c2, h⟩ := ite_some h
        refine ⟨k, _, by rw [if_pos c], fun _ => ?_, h⟩
        rw [List.length_append, List.length_singleton]; omega
      · rw [if_neg c] at h
        exact ⟨k, _, by rw [if_neg c], fun e => absurd e c, h⟩
/-- Behind what is written ahead of an element: the element, then the loop. -/
theorem loop_j9 {k : Nat} {y : List Int} {q n a b c d : Int} {r : Res} (h0 : 0 ≤ q) (h1 : q < x.length) (hL : x.length ≤ 1000000) (ht : 0 ≤ tabs ∧ tabs ≤ 1000000)
    (h : pObj.j8 VA VO k y x q 91 93 pr wd pre ind tabs nl mx [] n a b c d = some r) :
    ∃ k' v, VA.f k' y x q pr wd pre ind false (tabs + 1) nl mx = some v ∧ (v.2.2.2 = true → 0 ≤ v.2.1 → v.2.1 ≤ 1000000 → ∃ k'', pObj.l0 VA VO k'' v.1 x v.2.1 91 93 pr wd pre ind tabs v.2.2.1 mx [] (wrap64 (n + 1)) = some r) := by
  cases k with
  | zero => simp [pObj.j8] at h
  | succ k =>
    rw [pObj.j8, if_neg (by decide)] at h
    cases k with
    | zero => simp [pObj.j9] at h
    | succ k =>
      rw [pObj.j9, w64p (x := tabs + 1) (by omega) (by omega)] at h
      replace h := Option.bind_eq_some_iff.mp h
      obtain ⟨⟨v1, v2, v3, v4⟩, hv, h⟩ := h
      refine ⟨k, (v1, v2, v3, v4), hv, fun e e1 e2 => ?_⟩
      dsimp only at e e1 e2 h ⊢
      subst e
      have key : pObj.j10 VA VO k v1 x v2 91 93 pr wd pre ind tabs v3 mx [] n false a b c d = some r := by
        split at h
        · exact h
        · exact h
      cases k with
      | zero => simp [pObj.j10] at key
      | succ k =>
        cases k with
        | zero =>
          rw [pObj.j10, if_neg (by decide)] at key
          split at key
          · split at key <;> simp [pObj.j11] at key
          · simp [pObj.j11] at key
        | succ k =>
          rw [j10_eq VA VO x 91 93 pr wd pre ind tabs mx k v1 v2 v3 n a b c d e1 (by omega)] at key
          exact ⟨k, key⟩
theorem loop_close_f {k : Nat} {buf : List Int} {q n : Int} {r : Res} (h0 : 0 ≤ q) (h1 : q < x.length) (hL : x.length ≤ 1000000) (hc : rd x q = 93) (h : pObj.l0 VA VO k buf x q 91 93 false wd pre ind tabs nl mx [] n = some r) :
    r = (buf ++ [93], q + 1, nl, true) ∧ r.1.length ≤ 140737488355328 := by
  cases k with
  | zero => simp [pObj.l0] at h
  | succ k =>
    rw [pObj.l0, if_pos h1, if_pos h0, if_neg (by omega), if_pos hc, if_neg (by decide)] at h
    obtain ⟨c, h⟩ := ite_some h
    rw [w64p (by omega) (by omega)] at h
    simp only [Option.some.injEq] at h
    subst h
    exact ⟨rfl, by dsimp only; rw [List.length_append, List.length_singleton]; omega⟩
/-- The begin of an array: the bracket, then the loop. -/
theorem obj_j1 {k : Nat} {buf : List Int} {i : Int} {r : Res} (h0 : 0 ≤ i) (h1 : i < x.length) (hL : x.length ≤ 1000000) (h : pObj.j1 VA VO k buf x i 91 93 pr wd pre ind tabs nl mx = some r) :
    (buf ++ [91]).length ≤ 140737488355328 ∧ ∃ k', pObj.l0 VA VO k' (buf ++ [91]) x (i + 1) 91 93 pr wd pre ind tabs nl mx [] 0 = some r := by
  cases k with
  | zero => simp [pObj.j1] at h
  | succ k =>
    rw [pObj.j1] at h
    obtain ⟨c, h⟩ := ite_some h
    rw [Option.bind_some, if_neg (by decide), w64p (by omega) (by omega)] at h
    refine ⟨by rw [List.length_append, List.length_singleton]; omega, ?_⟩
    cases k with
    | zero => simp [pObj.j2] at h
    | succ k =>
      rw [pObj.j2, if_neg (by decide)] at h
      exact ⟨k, h⟩
end

/-- What is written on one line: no line feed, no blank at its end. -/
def One (o : List Int) : Prop := Bytes o ∧ (∀ c ∈ o, c ≠ 10) ∧ ∃ o' c, o = o' ++ [c] ∧ c ≠ 32
theorem AtomL.one {a : List Int} (h : AtomL a) : One a := by
  obtain ⟨h0, h1⟩ := h
  refine ⟨fun c hc => by have := h1 c hc; omega, fun c hc => by have := h1 c hc; omega, a.dropLast, a.getLast h0, (List.dropLast_concat_getLast h0).symm, ?_⟩
  have := h1 _ (List.getLast_mem h0)
  omega




end Go.Proofs.Ytkbeiidjagodnaa.Pr

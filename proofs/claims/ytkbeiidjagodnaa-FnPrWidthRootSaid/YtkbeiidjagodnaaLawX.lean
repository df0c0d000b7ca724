/- What pretty makes of a flat array, exactly: plain Lean. -/
import Derived.Test.YtkbeiidjagodnaaLaw5
namespace Go.Proofs.Ytkbeiidjagodnaa.Pr
open Go.RowKit Go.Proofs.YtkbeiidjagodnaaW.PrintWords Go.Proofs.YtkbeiidjagodnaaW.PrintLast Go.Proofs.YtkbeiidjagodnaaW.PrintMore
set_option linter.unusedVariables false

/-! Strings, where appendPrettyString answered. -/
def strOut (x0 x1 : List Int) (s j nl : Int) : Option Res := if x0.length + (seg x1 s j).length < 140737488355328 then some (x0 ++ seg x1 s j, j, nl, true) else none
theorem str_l1x (x0 x1 : List Int) (i nl s : Int) (hs : 0 ≤ s) (hi : i < x1.length) (hL : x1.length ≤ 1048576) (m : Int) (hm : s ≤ m) (hms : m = s ∨ rd x1 m ≠ 92) (d : Nat) :
    ∀ (k : Nat) (c j : Int), j - m = d → j < i → (∀ p, m < p → p ≤ j → rd x1 p = 92) → 0 ≤ c → c ≤ 1048576 → c + d ≤ 1048576 →
    pretty_appendPrettyString.l1 (k + d + 1) x0 x1 i nl s c j = if (c + d) % 2 = 1 then pretty_appendPrettyString.l0 k x0 x1 (i + 1) nl s else strOut x0 x1 s (i + 1) nl := by
  induction d with
  | zero =>
    intro k c j hd hj hp hc hc1 hcd
    have hjm : j = m := by omega
    subst hjm
    have hT : Int.tmod c 2 = c % 2 := by rw [Int.tmod_eq_emod_of_nonneg hc]
    have key : (if Int.tmod c 2 = 1 then pretty_appendPrettyString.l0 k x0 x1 (wrap64 (i + 1)) nl s else
        (if 0 ≤ s then (if s ≤ (wrap64 (i + 1)) then (if (wrap64 (i + 1)) ≤ (x1.length : Int) then ((some ((x1.take ((wrap64 (i + 1)) : Int).toNat).drop (s : Int).toNat : List Int)).bind fun y294 => (if x0.length + y294.length < 140737488355328 then (some ((x0 ++ y294), wrap64 (i + 1), nl, true)) else (none))) else (none)) else (none)) else (none)))
        = (if (c + ((0 : Nat) : Int)) % 2 = 1 then pretty_appendPrettyString.l0 k x0 x1 (i + 1) nl s else strOut x0 x1 s (i + 1) nl) := by
      rw [w64p (by omega) (by omega), hT]
      by_cases hp : c % 2 = 1
      · rw [if_pos hp, if_pos (by omega)]
      · rw [if_neg hp, if_neg (show ¬ (c + ((0 : Nat) : Int)) % 2 = 1 by omega), if_pos hs, if_pos (by omega), if_pos (by omega), Option.bind_some]
        rfl
    simp only [pretty_appendPrettyString.l1]
    by_cases h1 : j > s
    · have h2 : rd x1 j ≠ 92 := by rcases hms with h | h; exact absurd h (by omega); exact h
      rw [if_pos h1, if_pos (by omega), if_pos (by omega), if_neg h2]
      exact key
    · rw [if_neg h1]
      exact key
  | succ d ih =>
    intro k c j hd hj hp hc hc1 hcd
    have h2 : rd x1 j = 92 := hp j (by omega) (by omega)
    rw [show k + (d + 1) + 1 = (k + d + 1) + 1 from by omega]
    rw [pretty_appendPrettyString.l1]
    rw [if_pos (by omega), if_pos (by omega), if_pos (by omega), if_pos h2, w64p (x := c + 1) (by omega) (by omega), w64p (x := j - 1) (by omega) (by omega), ih k (c + 1) (j - 1) (by omega) (by omega) (fun p h3 h4 => hp p h3 (by omega)) (by omega) (by omega) (by omega)]
    rw [show c + 1 + (d : Int) = c + ((d + 1 : Nat) : Int) from by omega]
theorem str_l0x (x0 x1 : List Int) (nl s e : Int) (hs : 0 ≤ s) (hL : x1.length ≤ 1000000) (he : e < x1.length) (hce : Closes x1 s e) (hno : ∀ q, s + 1 ≤ q → q < e → ¬ Closes x1 s q) (d : Nat) :
    ∀ (k : Nat) (i m : Int), s < i → Run x1 s i m → i ≤ e → (x1.length : Int) - i = d → 2 * (d : Int) + (i - 1 - m) + 3 ≤ k →
    pretty_appendPrettyString.l0 k x0 x1 i nl s = strOut x0 x1 s (e + 1) nl := by
  induction d with
  | zero => intro k i m h0 hm hi hd hk; omega
  | succ d ih =>
    intro k i m h0 hm hi hd hk
    have hm' := hm
    obtain ⟨hm1, hm2, hm3, hm4⟩ := hm
    obtain ⟨k, rfl⟩ : ∃ m, k = m + 1 := ⟨k - 1, by omega⟩
    rw [pretty_appendPrettyString.l0, if_pos (by omega), if_pos (by omega)]
    by_cases hq : rd x1 i = 34
    · rw [if_pos hq, w64p (by omega) (by omega)]
      obtain ⟨k', rfl⟩ : ∃ k', k = k' + (i - 1 - m).toNat + 1 := ⟨k - (i - 1 - m).toNat - 1, by omega⟩
      rw [str_l1x x0 x1 i nl s hs (by omega) (by omega) m hm1 hm4 (i - 1 - m).toNat k' 0 (i - 1) (by omega) (by omega) (fun p h1 h2 => hm3 p h1 (by omega)) (by omega) (by omega) (by omega)]
      by_cases hp : ((0 : Int) + ((i - 1 - m).toNat : Int)) % 2 = 1
      · have hne : i ≠ e := by
          rintro rfl
          obtain ⟨_, m', h9, h10⟩ := hce
          have := hm'.unique h9
          subst this
          omega
        rw [if_pos hp]
        exact ih k' (i + 1) i (by omega) ⟨by omega, by omega, (fun p h1 h2 => by omega), .inr (by rw [hq]; decide)⟩ (by omega) (by omega) (by omega)
      · have hc : Closes x1 s i := ⟨hq, m, hm', by omega⟩
        have : i = e := by
          by_cases h : i = e
          · exact h
          · exact absurd hc (hno i (by omega) (by omega))
        subst this
        rw [if_neg hp]
    · have hne : i ≠ e := by rintro rfl; exact hq hce.1
      rw [if_neg hq, w64p (by omega) (by omega)]
      by_cases hb : rd x1 i = 92
      · exact ih k (i + 1) m (by omega) ⟨hm1, by omega, (fun p h1 h2 => by by_cases h3 : p = i; subst h3; exact hb; exact hm3 p h1 (by omega)), hm4⟩ (by omega) (by omega) (by omega)
      · exact ih k (i + 1) i (by omega) ⟨by omega, by omega, (fun p h1 h2 => by omega), .inr hb⟩ (by omega) (by omega) (by omega)
theorem str_more {x0 x1 : List Int} {i nl : Int} {r : Res} : ∀ (d k : Nat), pretty_appendPrettyString.f k x0 x1 i nl = some r → pretty_appendPrettyString.f (k + d) x0 x1 i nl = some r
  | 0, k, h => h
  | d + 1, k, h => pretty_appendPrettyString.mono x0 x1 i nl (k + d) r (str_more d k h)
theorem str_inv {x0 x1 : List Int} {k : Nat} {nl i j : Int} {r : Res} (h0 : 0 ≤ i) (hL : x1.length ≤ 1000000) (hst : StrSeg x1 i j) (h : pretty_appendPrettyString.f k x0 x1 i nl = some r) :
    r = (x0 ++ seg x1 i j, j, nl, true) ∧ (x0 ++ seg x1 i j).length ≤ 140737488355328 := by
  obtain ⟨s1, s2, s3, s4, s5⟩ := hst
  have h1 := str_more (2 * x1.length + 10) k h
  unfold pretty_appendPrettyString.f at h1
  rw [w64p (by omega) (by omega), str_l0x x0 x1 nl i (j - 1) h0 hL (by omega) s4 (fun q h2 h3 => s5 q h2 h3) ((x1.length : Int) - (i + 1)).toNat _ (i + 1) i (by omega) ⟨by omega, by omega, (fun p h1 h2 => by omega), .inl rfl⟩ (by omega) (by omega) (by omega), show j - 1 + 1 = j by omega] at h1
  obtain ⟨c, h1⟩ := ite_some h1
  simp only [Option.some.injEq] at h1
  exact ⟨h1.symm, by rw [List.length_append]; omega⟩

/-! Values that are no array and no object. -/
theorem seg_snoc {x : List Int} {i j : Int} (h0 : 0 ≤ i) (h1 : i < j) (h2 : j ≤ x.length) : seg x i j = seg x i (j - 1) ++ [rd x (j - 1)] := by
  unfold seg rd
  have e : j.toNat = (j - 1).toNat + 1 := by omega
  have hlt : (j - 1).toNat < x.length := by omega
  rw [e, List.take_add_one, List.getElem?_eq_getElem hlt, List.drop_append_of_le_length (by rw [List.length_take]; omega), List.getD_eq_getElem?_getD, List.getElem?_eq_getElem hlt]
  rfl
/-- A kid of a flat array. -/
structure KA (s : ByteArray) (p : S25) : Prop where
  kids : p.f4 = []
  kind : p.f0 ≠ 5 ∧ p.f0 ≠ 6
  b0 : 0 ≤ p.f1
  lt : p.f1 < p.f2
  le : p.f2 ≤ s.size
  is : StrSeg (bytesOf s) p.f1 p.f2 ∨ (((48 ≤ rd (bytesOf s) p.f1 ∧ rd (bytesOf s) p.f1 ≤ 57) ∨ rd (bytesOf s) p.f1 = 45) ∧ ∀ q, p.f1 ≤ q → q < p.f2 → NumCh (rd (bytesOf s) q)) ∨
    (seg (bytesOf s) p.f1 p.f2 = [110, 117, 108, 108] ∨ seg (bytesOf s) p.f1 p.f2 = [102, 97, 108, 115, 101] ∨ seg (bytesOf s) p.f1 p.f2 = [116, 114, 117, 101])
theorem ka_of {s : ByteArray} (hn : Small s) (D : Nat) {p : S25} (h : VR (spec_reader_value.at_ D) s p) (hp : p.f1 ≤ s.size) (hk : p.f0 < 5) : KA s p := by
  obtain ⟨h0, k, hv⟩ := h
  cases D with
  | zero => cases hv
  | succ D =>
    obtain ⟨_, _, _, h1, h2, h3⟩ := value_known hn D k p.f1 p.f0 p.f1 p.f2 p.f3 p.f4 s p.f2 h0 hp hv
    rcases h3 with ⟨g, _⟩ | ⟨g, _⟩ | ⟨g, g1, g2⟩ | ⟨g, g1, g2, g3⟩ | ⟨g, g', g1, _, g2⟩
    · omega
    · omega
    · exact ⟨g1, ⟨by omega, by omega⟩, h0, h1, h2, .inl g2⟩
    · refine ⟨g1, ⟨by omega, by omega⟩, h0, h1, h2, .inr (.inl ⟨by rw [rd_bytesOf]; exact g2, fun q h4 h5 => by rw [rd_bytesOf]; exact g3.2.2 q h4 h5⟩)⟩
    · exact ⟨g1, ⟨by omega, by omega⟩, h0, h1, h2, .inr (.inr g2)⟩
theorem KA.word {s : ByteArray} {p : S25} (h : KA s p) {w : List Int} (hw : seg (bytesOf s) p.f1 p.f2 = w) {a : Int} {t : List Int} (e : w = a :: t) : rd (bytesOf s) p.f1 = a := by
  have b0 := seg_rd (bytesOf s) p.f1 p.f2 0 h.b0 (by omega) (by have := h.lt; omega) (by rw [bytesOf_length]; exact h.le)
  rw [show p.f1 + 0 = p.f1 by omega, hw, e] at b0
  exact b0.symm
theorem KA.starts {s : ByteArray} {p : S25} (h : KA s p) : 32 < rd (bytesOf s) p.f1 ∧ rd (bytesOf s) p.f1 ≠ 93 ∧ rd (bytesOf s) p.f1 ≠ 44 := by
  rcases h.is with g | g | g | g | g
  · rw [g.1]; omega
  · have := g.1; omega
  · rw [h.word g rfl]; omega
  · rw [h.word g rfl]; omega
  · rw [h.word g rfl]; omega
theorem KA.last {s : ByteArray} {p : S25} (h : KA s p) : ∃ b c, seg (bytesOf s) p.f1 p.f2 = b ++ [c] ∧ c ≠ 32 := by
  have hl : (bytesOf s).length = s.size := bytesOf_length s
  have := h.lt
  have := h.le
  refine ⟨_, _, seg_snoc h.b0 h.lt (by omega), ?_⟩
  have w : ∀ (w : List Int) (b : List Int) (c : Int), w = b ++ [c] → seg (bytesOf s) p.f1 p.f2 = w → rd (bytesOf s) (p.f2 - 1) = c := by
    intro w b c e hw
    have e1 := seg_snoc (x := bytesOf s) h.b0 h.lt (by omega)
    rw [hw, e] at e1
    have := List.append_inj_right' e1 rfl
    simpa using this.symm
  rcases h.is with g | g | g | g | g
  · rw [g.2.2.2.1.1]; omega
  · have := g.2 (p.f2 - 1) (by omega) (by omega)
    unfold NumCh at this
    omega
  · rw [w _ [110, 117, 108] 108 rfl g]; omega
  · rw [w _ [102, 97, 108, 115] 101 rfl g]; omega
  · rw [w _ [116, 114, 117] 101 rfl g]; omega

section
variable {VO : H_pObj} {x0 : List Int} {pr : Bool} {wd : Int} {pre ind : ByteArray} {tabs nl mx : Int}
theorem any_kid {s : ByteArray} (hs : s.size ≤ 1000000) {p : S25} (hk : KA s p) (hst : Stop (bytesOf s) p.f2) {k : Nat} {r : Res} (h : pAny.l0 VO k x0 (bytesOf s) p.f1 pr wd pre ind tabs nl mx = some r) :
    r = (x0 ++ seg (bytesOf s) p.f1 p.f2, p.f2, nl, true) ∧ (x0 ++ seg (bytesOf s) p.f1 p.f2).length ≤ 140737488355328 := by
  have hl : (bytesOf s).length = s.size := bytesOf_length s
  have h0 := hk.b0
  have h1 := hk.lt
  have h2 := hk.le
  rcases hk.is with g | g | g
  · cases k with
    | zero => simp [pAny.l0] at h
    | succ k =>
      rw [pAny.l0, if_pos (by omega), if_pos h0, if_neg (by rw [g.1]; omega), if_pos g.1] at h
      replace h := Option.bind_eq_some_iff.mp h
      obtain ⟨⟨r1, r2, r3, r4⟩, e, h⟩ := h
      simp only [Option.some.injEq] at h
      subst h
      exact str_inv h0 (by omega) g e
  · -- a number
    have num : ∀ (k : Nat), (pretty_appendPrettyNumber.f k x0 (bytesOf s) p.f1 nl).bind (fun bt504 => (some (bt504.1, bt504.2.1, bt504.2.2.1, bt504.2.2.2))) = some r → r = (x0 ++ seg (bytesOf s) p.f1 p.f2, p.f2, nl, true) ∧ (x0 ++ seg (bytesOf s) p.f1 p.f2).length ≤ 140737488355328 := by
      intro k h
      replace h := Option.bind_eq_some_iff.mp h
      obtain ⟨⟨r1, r2, r3, r4⟩, e, h⟩ := h
      simp only [Option.some.injEq] at h
      unfold pretty_appendPrettyNumber.f at e
      rw [w64p (by omega) (by omega)] at e
      obtain ⟨e1, e2⟩ := num_inv h0 (by omega) (by omega) hst k (p.f1 + 1) (r1, r2, r3, r4) (by omega) (by omega) (fun q h1 h2 => by have := g.2 q (by omega) h2; unfold NumCh at this; unfold NumStop; omega) e
      rw [e1] at h e2
      subst h
      exact ⟨rfl, e2⟩
    have hj1 : ∀ (k : Nat), pAny.j1 VO k x0 (bytesOf s) p.f1 pr wd pre ind tabs nl mx true = some r → r = (x0 ++ seg (bytesOf s) p.f1 p.f2, p.f2, nl, true) ∧ (x0 ++ seg (bytesOf s) p.f1 p.f2).length ≤ 140737488355328 := by
      intro k h
      cases k with
      | zero => simp [pAny.j1] at h
      | succ k => rw [pAny.j1, if_pos rfl] at h; exact num k h
    cases k with
    | zero => simp [pAny.l0] at h
    | succ k =>
      rw [pAny.l0, if_pos (by omega), if_pos h0, if_neg (by omega), if_neg (by omega)] at h
      rcases g.1 with hd | hd
      · rw [if_pos (by omega), if_pos hd.2] at h; exact hj1 k h
      · rw [if_neg (by omega), if_pos hd] at h; exact hj1 k h
  · -- a word
    have fin : ∀ (w : List Int) (n : Int), (w.length : Int) = n → n ≤ 5 → seg (bytesOf s) p.f1 p.f2 = w → (if x0.length + w.length < 140737488355328 then (some ((x0 ++ w), wrap64 (p.f1 + n), nl, true)) else (none)) = some r → r = (x0 ++ seg (bytesOf s) p.f1 p.f2, p.f2, nl, true) ∧ (x0 ++ seg (bytesOf s) p.f1 p.f2).length ≤ 140737488355328 := by
      intro w n hn hn5 hs h
      have hl2 := seg_len (bytesOf s) p.f1 p.f2 h0 (by omega) (by omega)
      rw [hs] at hl2 ⊢
      obtain ⟨c, h⟩ := ite_some h
      rw [w64p (by omega) (by omega), show p.f1 + n = p.f2 by omega] at h
      simp only [Option.some.injEq] at h
      exact ⟨h.symm, by rw [List.length_append]; omega⟩
    rcases g with g | g | g
    · have c0 := hk.word g rfl
      have hl2 := seg_len (bytesOf s) p.f1 p.f2 h0 (by omega) (by omega)
      rw [g] at hl2
      simp only [List.length_cons, List.length_nil] at hl2
      have b1 := seg_rd (bytesOf s) p.f1 p.f2 1 h0 (by omega) (by omega) (by omega)
      rw [g] at b1
      have c1 : rd (bytesOf s) (p.f1 + 1) = 117 := b1.symm
      obtain ⟨k, h⟩ := any_j1 h0 (by omega) (by omega) (by omega) (by omega) (by omega) ⟨by omega, by omega, by omega, by omega, fun _ => ⟨by omega, c1⟩⟩ h
      cases k with
      | zero => simp [pAny.j1] at h
      | succ k =>
        rw [pAny.j1, if_neg (by decide), if_pos h0, if_pos (by omega), if_neg (by omega), if_neg (by omega), if_neg (by omega), if_neg (by omega), if_pos c0, Option.bind_some] at h
        exact fin _ 4 rfl (by omega) g h
    · have c0 := hk.word g rfl
      obtain ⟨k, h⟩ := any_j1 h0 (by omega) (by omega) (by omega) (by omega) (by omega) (by omega) h
      cases k with
      | zero => simp [pAny.j1] at h
      | succ k =>
        rw [pAny.j1, if_neg (by decide), if_pos h0, if_pos (by omega), if_neg (by omega), if_neg (by omega), if_neg (by omega), if_pos c0, Option.bind_some] at h
        exact fin _ 5 rfl (by omega) g h
    · have c0 := hk.word g rfl
      obtain ⟨k, h⟩ := any_j1 h0 (by omega) (by omega) (by omega) (by omega) (by omega) (by omega) h
      cases k with
      | zero => simp [pAny.j1] at h
      | succ k =>
        rw [pAny.j1, if_neg (by decide), if_pos h0, if_pos (by omega), if_neg (by omega), if_neg (by omega), if_pos c0, Option.bind_some] at h
        exact fin _ 4 rfl (by omega) g h
end

/-! The two layouts. -/
def tailA (x : List Int) (ks : List S25) : List Int := (ks.map fun p => [44, 32] ++ seg x p.f1 p.f2).flatten
def bodyA (x : List Int) : List S25 → List Int
  | [] => []
  | p :: t => seg x p.f1 p.f2 ++ tailA x t
def oneL (x : List Int) (ks : List S25) : List Int := [91] ++ bodyA x ks ++ [93]
def lineB (pre ind : ByteArray) : List Int := [10] ++ bytesOf pre ++ bytesOf ind
def tailP (x : List Int) (pre ind : ByteArray) (ks : List S25) : List Int := (ks.map fun p => [44] ++ lineB pre ind ++ seg x p.f1 p.f2).flatten
def bodyP (x : List Int) (pre ind : ByteArray) : List S25 → List Int
  | [] => []
  | p :: t => lineB pre ind ++ seg x p.f1 p.f2 ++ tailP x pre ind t
def linesL (x : List Int) (pre ind : ByteArray) (ks : List S25) : List Int := [91] ++ bodyP x pre ind ks ++ ([10] ++ bytesOf pre ++ [93])

theorem kid_stop {s : ByteArray} {e r : Int} (h : Blanks s e r) (hr : r < s.size) (hc : bt s r = 93 ∨ bt s r = 44) : Stop (bytesOf s) e := by
  refine .inr ?_
  by_cases c : e = r
  · subst c
    rw [rd_bytesOf]
    unfold NumStop
    omega
  · refine .inl ?_
    rw [rd_bytesOf]
    exact isBlank_le (h.2.2 e (by omega) (by have := h.1; omega))

/-- The attempt, over the elements of a flat array. -/
theorem flatA {V0 : H_spec_reader_value} {s : ByteArray} (hs : s.size ≤ 1000000) {ks : List S25} {i j : Int} (h : Kids V0 s ks i j) (hka : ∀ p ∈ ks, KA s p) :
    ∀ (D k : Nat) (buf : List Int) (wd : Int) (pre ind : ByteArray) (tabs nl mx q n : Int) (r : Res), wd ≠ -1 → mx ≠ -1 → 0 ≤ tabs → tabs ≤ 1000 → 0 ≤ q → q < s.size → 0 ≤ n → n ≤ q → (q = i ∨ (rd (bytesOf s) q = 44 ∧ Gap (bytesOf s) (q + 1) i)) →
      pObj.l0 (pAny.at_ D) (pObj.at_ D) k buf (bytesOf s) q 91 93 false wd pre ind tabs nl mx [] n = some r → ∃ n', r = (buf ++ (if n > 0 then tailA (bytesOf s) ks else bodyA (bytesOf s) ks) ++ [93], j, n', true) ∧ r.1.length ≤ 140737488355328 := by
  have hl : (bytesOf s).length = s.size := bytesOf_length s
  -- one element, and the loop behind it
  have step : ∀ (p : S25) (i : Int), KA s p → p.f1 = i → Stop (bytesOf s) p.f2 → ∀ (D k : Nat) (buf : List Int) (wd : Int) (pre ind : ByteArray) (tabs nl mx q n : Int) (r : Res), wd ≠ -1 → mx ≠ -1 → 0 ≤ tabs → tabs ≤ 1000 → 0 ≤ q → q < s.size → 0 ≤ n → n ≤ q → (q = i ∨ (rd (bytesOf s) q = 44 ∧ Gap (bytesOf s) (q + 1) i)) →
      pObj.l0 (pAny.at_ D) (pObj.at_ D) k buf (bytesOf s) q 91 93 false wd pre ind tabs nl mx [] n = some r → ∃ k', pObj.l0 (pAny.at_ D) (pObj.at_ D) k' ((if n > 0 then (buf ++ [44]) ++ [32] else buf) ++ seg (bytesOf s) p.f1 p.f2) (bytesOf s) p.f2 91 93 false wd pre ind tabs nl mx [] (n + 1) = some r := by
    intro p i hk hi hst D k buf wd pre ind tabs nl mx q n r hw hm ht ht1 hq0 hq hn0 hn1 hto h
    subst hi
    have h1 := hk.lt
    have h2 := hk.le
    have hsr := hk.starts
    have hqt : q ≤ p.f1 := by rcases hto with e | ⟨_, e⟩; omega; have := e.1; omega
    have hc : 32 < rd (bytesOf s) q ∧ rd (bytesOf s) q ≠ 93 := by
      rcases hto with e | ⟨e, _⟩
      · rw [e]; exact ⟨hsr.1, hsr.2.1⟩
      · omega
    replace h := loop_elem hq0 (by omega) (by omega) hn0 hc.1 hc.2 hw h
    obtain ⟨k1, y, hy, _, h⟩ := h
    cases k1 with
    | zero => simp [pObj.j7] at h
    | succ k1 =>
      rw [pObj.j7, if_neg (by decide)] at h
      obtain ⟨k2, v, hva, hkk⟩ := loop_j9 hq0 (by omega) (by omega) ⟨ht, by omega⟩ h
      cases D with
      | zero => cases hva
      | succ D =>
        have hva' : ∃ k3, pAny.l0 (pObj.at_ D) k3 y (bytesOf s) p.f1 false wd pre ind (tabs + 1) nl mx = some v := by
          have hva : pAny.l0 (pObj.at_ D) k2 y (bytesOf s) q false wd pre ind (tabs + 1) nl mx = some v := hva
          rcases hto with e | ⟨e1, e2⟩
          · rw [← e]; exact ⟨k2, hva⟩
          · obtain ⟨k3, hva⟩ := any_comma hq0 (by omega) (by omega) e1 hva
            exact any_gap (by omega) (by omega) (by omega) e2 (p.f1 - (q + 1)).toNat (q + 1) (by omega) (by have := e2.1; omega) hva
        obtain ⟨k3, hva⟩ := hva'
        obtain ⟨rfl, _⟩ := any_kid (by omega) hk hst hva
        obtain ⟨k4, hll⟩ := hkk rfl (by dsimp only; omega) (by dsimp only; omega)
        dsimp only at hll
        rw [w64p (by omega) (by omega), hy] at hll
        exact ⟨k4, hll⟩
  induction h with
  | last p i r' h1 h2 h3 h4 h5 h6 =>
    intro D k buf wd pre ind tabs nl mx q n r hw hm ht ht1 hq0 hq hn0 hn1 hto h
    have hk := hka p (List.mem_singleton.2 rfl)
    have := hk.lt
    have := hk.le
    have hp := h4.1
    have hqt : q ≤ p.f1 := by rcases hto with e | ⟨_, e⟩; omega; have := e.1; omega
    obtain ⟨k1, hl1⟩ := step p i hk h2 (kid_stop h4 h5 (.inl h6)) D k buf wd pre ind tabs nl mx q n r hw hm ht ht1 hq0 hq hn0 hn1 hto h
    obtain ⟨k2, hl2⟩ := loop_gap (by omega) (by omega) (r' - p.f2).toNat k1 p.f2 (by omega) h4.gap (by omega) hl1
    obtain ⟨rfl, hlen⟩ := loop_close_f (by omega) (by omega) (by omega) (by rw [rd_bytesOf]; exact h6) hl2
    refine ⟨nl, ?_, hlen⟩
    by_cases c : n > 0
    · rw [if_pos c, if_pos c]; simp [tailA]
    · rw [if_neg c, if_neg c]; simp [tailA, bodyA]
  | more p i r' t j ks h1 h2 h3 h4 h5 h6 h7 h8 ih =>
    intro D k buf wd pre ind tabs nl mx q n r hw hm ht ht1 hq0 hq hn0 hn1 hto h
    have hk := hka p (List.mem_cons_self ..)
    have := hk.lt
    have := hk.le
    have hp := h4.1
    have hqt : q ≤ p.f1 := by rcases hto with e | ⟨_, e⟩; omega; have := e.1; omega
    obtain ⟨k1, hl1⟩ := step p i hk h2 (kid_stop h4 h5 (.inr h6)) D k buf wd pre ind tabs nl mx q n r hw hm ht ht1 hq0 hq hn0 hn1 hto h
    obtain ⟨k2, hl2⟩ := loop_gap (by omega) (by omega) (r' - p.f2).toNat k1 p.f2 (by omega) h4.gap (by omega) hl1
    obtain ⟨n', rfl, hlen⟩ := ih (fun q hq => hka q (List.mem_cons_of_mem _ hq)) D k2 _ wd pre ind tabs nl mx r' (n + 1) r hw hm ht ht1 (by omega) h5 (by omega) (by omega) (.inr ⟨by rw [rd_bytesOf]; exact h6, h7.gap⟩) hl2
    refine ⟨n', ?_, hlen⟩
    rw [if_pos (show n + 1 > 0 by omega)]
    by_cases c : n > 0
    · rw [if_pos c, if_pos c]; simp [tailA]
    · rw [if_neg c, if_neg c]; simp [tailA, bodyA]
end Go.Proofs.Ytkbeiidjagodnaa.Pr

/- The leaves of pretty's printing, in plain Lean: appendTabs, appendPrettyString, appendPrettyNumber end and what they answer. -/
import Derived.Test.YtkbeiidjagodnaaPrx8c
namespace Go.Proofs.Ytkbeiidjagodnaa.Pr
open Go.RowKit Go.Proofs.YtkbeiidjagodnaaW.PrintWords Go.Proofs.YtkbeiidjagodnaaW.PrintLast Go.Proofs.YtkbeiidjagodnaaW.PrintMore
set_option linter.unusedVariables false

theorem w64p {x : Int} (h0 : -4611686018427387904 ≤ x) (h1 : x ≤ 4611686018427387904) : wrap64 x = x := by unfold wrap64; omega

/-- The prefix and n times the indent. -/
def tabsL (pre ind : ByteArray) (n : Nat) : List Int := bytesOf pre ++ (List.replicate n (bytesOf ind)).flatten
theorem flat_len (xs : List Int) : ∀ n, ((List.replicate n xs).flatten).length = n * xs.length
  | 0 => by simp
  | n + 1 => by rw [List.replicate_succ, List.flatten_cons, List.length_append, flat_len xs n, Nat.succ_mul, Nat.add_comm]
theorem tabsL_len (pre ind : ByteArray) (n : Nat) : (tabsL pre ind n).length = pre.size + n * ind.size := by
  unfold tabsL
  rw [List.length_append, flat_len, bytesOf_length, bytesOf_length]
theorem tabs_l1 (ind : ByteArray) (d : Nat) : ∀ (k : Nat) (x : List Int) (t i : Int), 0 ≤ i → t - i = d → t ≤ 1048576 → d < k → x.length + d * ind.size < 140737488355328 →
    pretty_appendTabs.l1 k x ind t i = some (x ++ (List.replicate d (bytesOf ind)).flatten) := by
  induction d with
  | zero =>
    intro k x t i h0 h1 h2 hk hl
    obtain ⟨k, rfl⟩ : ∃ m, k = m + 1 := ⟨k - 1, by omega⟩
    simp only [pretty_appendTabs.l1]
    rw [if_neg (by omega)]
    simp
  | succ d ih =>
    intro k x t i h0 h1 h2 hk hl
    obtain ⟨k, rfl⟩ : ∃ m, k = m + 1 := ⟨k - 1, by omega⟩
    rw [Nat.succ_mul] at hl
    simp only [pretty_appendTabs.l1]
    rw [if_pos (by omega), if_pos (by omega), w64p (by omega) (by omega), ih k _ t (i + 1) (by omega) (by omega) h2 (by omega) (by rw [List.length_append, bytesOf_length]; omega),
      List.replicate_succ, List.flatten_cons, List.append_assoc]
theorem tabs_l0 (d : Nat) : ∀ (k : Nat) (x : List Int) (t i : Int), 0 ≤ i → t - i = d → t ≤ 1048576 → d < k → x.length + d * 2 < 140737488355328 →
    pretty_appendTabs.l0 k x t i = some (x ++ (List.replicate d [32, 32]).flatten) := by
  induction d with
  | zero =>
    intro k x t i h0 h1 h2 hk hl
    obtain ⟨k, rfl⟩ : ∃ m, k = m + 1 := ⟨k - 1, by omega⟩
    simp only [pretty_appendTabs.l0]
    rw [if_neg (by omega)]
    simp
  | succ d ih =>
    intro k x t i h0 h1 h2 hk hl
    obtain ⟨k, rfl⟩ : ∃ m, k = m + 1 := ⟨k - 1, by omega⟩
    simp only [pretty_appendTabs.l0, Option.bind_some]
    rw [if_pos (by omega), if_pos (by simp only [List.length_cons, List.length_nil]; omega), w64p (by omega) (by omega), ih k _ t (i + 1) (by omega) (by omega) h2 (by omega) (by rw [List.length_append]; simp only [List.length_cons, List.length_nil]; omega),
      List.replicate_succ, List.flatten_cons, List.append_assoc]
theorem two_blanks {s : ByteArray} (h : s.size = 2) (h0 : bt s 0 = 32) (h1 : bt s 1 = 32) : bytesOf s = [32, 32] := by
  rw [← rd_bytesOf] at h0 h1
  have hl := bytesOf_length s
  rw [h] at hl
  match hb : bytesOf s, hl with
  | [a, b], _ => rw [hb] at h0 h1; simp [rd] at h0 h1; rw [h0, h1]
theorem tabs_j0 (ind : ByteArray) (k : Nat) (x : List Int) (t : Int) (h0 : 0 ≤ t) (h1 : t ≤ 1048576) (hk : t + 3 ≤ k) (hl : x.length + t.toNat * ind.size < 140737488355328) :
    pretty_appendTabs.j0 k x ind t = some (x ++ (List.replicate t.toNat (bytesOf ind)).flatten) := by
  obtain ⟨k, rfl⟩ : ∃ m, k = m + 2 := ⟨k - 2, by omega⟩
  have hno : pretty_appendTabs.j1 (k + 1) x ind t false = some (x ++ (List.replicate t.toNat (bytesOf ind)).flatten) := by
    simp only [pretty_appendTabs.j1]
    rw [if_neg (by decide)]
    exact tabs_l1 ind t.toNat k x t 0 (by omega) (by omega) h1 (by omega) hl
  simp only [pretty_appendTabs.j0]
  by_cases h2 : (ind.size : Int) = 2
  · rw [if_pos h2, if_pos (by omega)]
    by_cases h3 : bt ind 0 = 32
    · rw [if_pos h3, if_pos (by omega)]
      by_cases h4 : bt ind 1 = 32
      · have hb := two_blanks (by omega) h3 h4
        rw [h4, show ((32 : Int) == 32) = true from rfl]
        simp only [pretty_appendTabs.j1, if_true]
        rw [hb]
        exact tabs_l0 t.toNat k x t 0 (by omega) (by omega) h1 (by omega) (by rw [show ind.size = 2 by omega] at hl; exact hl)
      · rw [show (bt ind 1 == 32) = false from by rw [beq_eq_false_iff_ne]; exact h4]
        exact hno
    · rw [if_neg h3]; exact hno
  · rw [if_neg h2]; exact hno
theorem tabs_eq (pre ind : ByteArray) (k : Nat) (x : List Int) (t : Int) (h0 : 0 ≤ t) (h1 : t ≤ 1048576) (hk : t + 3 ≤ k) (hl : x.length + (pre.size + t.toNat * ind.size) < 140737488355328) :
    pretty_appendTabs.f k x pre ind t = some (x ++ tabsL pre ind t.toNat) := by
  unfold pretty_appendTabs.f tabsL
  by_cases hp : (pre.size : Int) = 0
  · rw [if_pos hp, tabs_j0 ind k x t h0 h1 hk (by omega)]
    have : bytesOf pre = [] := List.length_eq_zero_iff.mp (by rw [bytesOf_length]; omega)
    rw [this, List.nil_append]
  · rw [if_neg hp, if_pos (by omega), tabs_j0 ind k _ t h0 h1 hk (by rw [List.length_append, bytesOf_length]; omega), List.append_assoc]

/-- A piece of a text. -/
def seg (x : List Int) (i j : Int) : List Int := (x.take j.toNat).drop i.toNat
theorem seg_len (x : List Int) (i j : Int) (h0 : 0 ≤ i) (h1 : i ≤ j) (h2 : j ≤ x.length) : ((seg x i j).length : Int) = j - i := by
  unfold seg
  rw [List.length_drop, List.length_take]
  omega

/-- m is the last place from s on and ahead of q at which no backslash stands (or s): between it and q there are backslashes alone. -/
def Run (x : List Int) (s q m : Int) : Prop := s ≤ m ∧ m < q ∧ (∀ p, m < p → p < q → rd x p = 92) ∧ (m = s ∨ rd x m ≠ 92)
theorem Run.unique {x : List Int} {s q m m' : Int} (h : Run x s q m) (h' : Run x s q m') : m = m' := by
  obtain ⟨a, b, c, d⟩ := h
  obtain ⟨a', b', c', d'⟩ := h'
  by_cases h1 : m < m'
  · have := c m' h1 b'
    rcases d' with d' | d'
    · omega
    · exact absurd this d'
  · by_cases h2 : m' < m
    · have := c' m h2 b
      rcases d with d | d
      · omega
      · exact absurd this d
    · omega
/-- A string that begins at s is closed by the byte at q: a quote with an even number of backslashes ahead of it. -/
def Closes (x : List Int) (s q : Int) : Prop := rd x q = 34 ∧ ∃ m, Run x s q m ∧ (q - 1 - m) % 2 = 0

theorem str_l1 (x0 x1 : List Int) (i nl s : Int) (hs : 0 ≤ s) (hi : i < x1.length) (hL : x1.length ≤ 1048576) (hx : x0.length + x1.length < 140737488355328) (m : Int) (hm : s ≤ m) (hms : m = s ∨ rd x1 m ≠ 92) (d : Nat) :
    ∀ (k : Nat) (c j : Int), j - m = d → j < i → (∀ p, m < p → p ≤ j → rd x1 p = 92) → 0 ≤ c → c ≤ 1048576 → c + d ≤ 1048576 →
    pretty_appendPrettyString.l1 (k + d + 1) x0 x1 i nl s c j = if (c + d) % 2 = 1 then pretty_appendPrettyString.l0 k x0 x1 (i + 1) nl s else some (x0 ++ seg x1 s (i + 1), i + 1, nl, true) := by
  induction d with
  | zero =>
    intro k c j hd hj hp hc hc1 hcd
    have hjm : j = m := by omega
    subst hjm
    have hT : Int.tmod c 2 = c % 2 := by rw [Int.tmod_eq_emod_of_nonneg hc]
    have key : (if Int.tmod c 2 = 1 then pretty_appendPrettyString.l0 k x0 x1 (wrap64 (i + 1)) nl s else
        (if 0 ≤ s then (if s ≤ (wrap64 (i + 1)) then (if (wrap64 (i + 1)) ≤ (x1.length : Int) then ((some ((x1.take ((wrap64 (i + 1)) : Int).toNat).drop (s : Int).toNat : List Int)).bind fun y294 => (if x0.length + y294.length < 140737488355328 then (some ((x0 ++ y294), wrap64 (i + 1), nl, true)) else (none))) else (none)) else (none)) else (none)))
        = (if (c + ((0 : Nat) : Int)) % 2 = 1 then pretty_appendPrettyString.l0 k x0 x1 (i + 1) nl s else some (x0 ++ seg x1 s (i + 1), i + 1, nl, true)) := by
      rw [w64p (by omega) (by omega), hT]
      by_cases hp : c % 2 = 1
      · rw [if_pos hp, if_pos (by omega)]
      · rw [if_neg hp, if_neg (show ¬ (c + ((0 : Nat) : Int)) % 2 = 1 by omega), if_pos hs, if_pos (by omega), if_pos (by omega), Option.bind_some]
        have := seg_len x1 s (i + 1) hs (by omega) (by omega)
        unfold seg at this ⊢
        rw [if_pos (by omega)]
    simp only [pretty_appendPrettyString.l1]
    by_cases h1 : j > s
    · have h2 : rd x1 j ≠ 92 := by rcases hms with h | h; exact absurd h (by omega); exact h
      rw [if_pos h1, if_pos (by omega), if_pos (by omega), if_neg h2]
      exact key
    · rw [if_neg h1]
      exact key
  | succ d ih =>
    intro k c j hd hj hp hc hc1 hcd
    have h2 : rd x1 j = 92 := hp j (by omega) (by omega)
    rw [show k + (d + 1) + 1 = (k + d + 1) + 1 from by omega]
    rw [pretty_appendPrettyString.l1]
    rw [if_pos (by omega), if_pos (by omega), if_pos (by omega), if_pos h2, w64p (x := c + 1) (by omega) (by omega), w64p (x := j - 1) (by omega) (by omega), ih k (c + 1) (j - 1) (by omega) (by omega) (fun p h3 h4 => hp p h3 (by omega)) (by omega) (by omega) (by omega)]
    rw [show c + 1 + (d : Int) = c + ((d + 1 : Nat) : Int) from by omega]

/-- Where a string ends that begins at s: behind the first byte from i on that closes it, or at the text's end. -/
def StrEnd (x : List Int) (s i j : Int) : Prop := i ≤ j ∧ j ≤ x.length ∧ (∀ q, i ≤ q → q < j - 1 → ¬ Closes x s q) ∧ (j = x.length ∨ (i < j ∧ Closes x s (j - 1)))
theorem str_l0 (x0 x1 : List Int) (nl s : Int) (hs : 0 ≤ s) (hL : x1.length ≤ 1000000) (hx : x0.length + x1.length < 140737488355328) (d : Nat) :
    ∀ (k : Nat) (i m : Int), Run x1 s i m → i ≤ x1.length → (x1.length : Int) - i = d → 2 * (d : Int) + (i - 1 - m) + 3 ≤ k →
    ∃ j, pretty_appendPrettyString.l0 k x0 x1 i nl s = some (x0 ++ seg x1 s j, j, nl, true) ∧ StrEnd x1 s i j := by
  induction d with
  | zero =>
    intro k i m hm hi hd hk
    obtain ⟨hm1, hm2, hm3, hm4⟩ := hm
    obtain ⟨k, rfl⟩ : ∃ m, k = m + 1 := ⟨k - 1, by omega⟩
    refine ⟨i, ?_, by omega, by omega, (fun q h1 h2 => by omega), .inl (by omega)⟩
    have := seg_len x1 s i hs (by omega) (by omega)
    simp only [pretty_appendPrettyString.l0]
    unfold seg at this ⊢
    rw [if_neg (by omega), if_pos hs, if_pos (by omega), if_pos (by omega), Option.bind_some, if_pos (by omega)]
  | succ d ih =>
    intro k i m hm hi hd hk
    have hm' := hm
    obtain ⟨hm1, hm2, hm3, hm4⟩ := hm
    obtain ⟨k, rfl⟩ : ∃ m, k = m + 1 := ⟨k - 1, by omega⟩
    simp only [pretty_appendPrettyString.l0]
    rw [if_pos (by omega), if_pos (by omega)]
    by_cases hq : rd x1 i = 34
    · rw [if_pos hq, w64p (by omega) (by omega)]
      obtain ⟨k', rfl⟩ : ∃ k', k = k' + (i - 1 - m).toNat + 1 := ⟨k - (i - 1 - m).toNat - 1, by omega⟩
      rw [str_l1 x0 x1 i nl s hs (by omega) (by omega) hx m hm1 hm4 (i - 1 - m).toNat k' 0 (i - 1) (by omega) (by omega) (fun p h1 h2 => hm3 p h1 (by omega)) (by omega) (by omega) (by omega)]
      by_cases hp : ((0 : Int) + ((i - 1 - m).toNat : Int)) % 2 = 1
      · rw [if_pos hp]
        obtain ⟨j, hj, h1, h2, h3, h4⟩ := ih k' (i + 1) i ⟨by omega, by omega, (fun p h1 h2 => by omega), .inr (by rw [hq]; decide)⟩ (by omega) (by omega) (by omega)
        refine ⟨j, hj, by omega, h2, fun q h5 h6 h7 => ?_, ?_⟩
        · by_cases h8 : q = i
          · subst h8
            obtain ⟨_, m', h9, h10⟩ := h7
            have := hm'.unique h9
            subst this
            omega
          · exact h3 q (by omega) h6 h7
        · rcases h4 with h4 | h4
          · exact .inl h4
          · exact .inr ⟨by omega, h4.2⟩
      · rw [if_neg hp]
        refine ⟨i + 1, rfl, by omega, by omega, (fun q h1 h2 => by omega), .inr ⟨by omega, ?_⟩⟩
        rw [show i + 1 - 1 = i by omega]
        exact ⟨hq, m, hm', by omega⟩
    · rw [if_neg hq, w64p (by omega) (by omega)]
      obtain ⟨j, hj, h1, h2, h3, h4⟩ : ∃ j, pretty_appendPrettyString.l0 k x0 x1 (i + 1) nl s = some (x0 ++ seg x1 s j, j, nl, true) ∧ StrEnd x1 s (i + 1) j := by
        by_cases hb : rd x1 i = 92
        · exact ih k (i + 1) m ⟨hm1, by omega, (fun p h1 h2 => by by_cases h3 : p = i; subst h3; exact hb; exact hm3 p h1 (by omega)), hm4⟩ (by omega) (by omega) (by omega)
        · exact ih k (i + 1) i ⟨by omega, by omega, (fun p h1 h2 => by omega), .inr hb⟩ (by omega) (by omega) (by omega)
      refine ⟨j, hj, by omega, h2, fun q h5 h6 h7 => ?_, ?_⟩
      · by_cases h8 : q = i
        · subst h8; exact hq h7.1
        · exact h3 q (by omega) h6 h7
      · rcases h4 with h4 | h4
        · exact .inl h4
        · exact .inr ⟨by omega, h4.2⟩
theorem str_tot (x0 x1 : List Int) (k : Nat) (nl s : Int) (hs : 0 ≤ s) (hs1 : s < x1.length) (hL : x1.length ≤ 1000000) (hx : x0.length + x1.length < 140737488355328) (hk : 2 * (x1.length : Int) + 3 ≤ k) :
    ∃ j, pretty_appendPrettyString.f k x0 x1 s nl = some (x0 ++ seg x1 s j, j, nl, true) ∧ StrEnd x1 s (s + 1) j := by
  unfold pretty_appendPrettyString.f
  rw [w64p (by omega) (by omega)]
  exact str_l0 x0 x1 nl s hs hL hx ((x1.length : Int) - (s + 1)).toNat k (s + 1) s ⟨by omega, by omega, (fun p h1 h2 => by omega), .inl rfl⟩ (by omega) (by omega) (by omega)

/-- The bytes behind a number. -/
def NumStop (c : Int) : Prop := c ≤ 32 ∨ c = 44 ∨ c = 58 ∨ c = 93 ∨ c = 125
def NumEnd (x : List Int) (i j : Int) : Prop := i ≤ j ∧ j ≤ x.length ∧ (∀ q, i ≤ q → q < j → ¬ NumStop (rd x q)) ∧ (j = x.length ∨ NumStop (rd x j))
theorem num_l0 (x0 x1 : List Int) (nl s : Int) (hs : 0 ≤ s) (hL : x1.length ≤ 1000000) (hx : x0.length + x1.length < 140737488355328) (d : Nat) :
    ∀ (k : Nat) (i : Int), s ≤ i → i ≤ x1.length → (x1.length : Int) - i = d → (d : Int) + 1 ≤ k →
    ∃ j, pretty_appendPrettyNumber.l0 k x0 x1 i nl s = some (x0 ++ seg x1 s j, j, nl, true) ∧ NumEnd x1 i j := by
  induction d with
  | zero =>
    intro k i h0 hi hd hk
    obtain ⟨k, rfl⟩ : ∃ m, k = m + 1 := ⟨k - 1, by omega⟩
    refine ⟨i, ?_, by omega, by omega, (fun q h1 h2 => by omega), .inl (by omega)⟩
    have := seg_len x1 s i hs (by omega) (by omega)
    simp only [pretty_appendPrettyNumber.l0]
    unfold seg at this ⊢
    rw [if_neg (by omega), if_pos hs, if_pos (by omega), if_pos (by omega), Option.bind_some, if_pos (by omega)]
  | succ d ih =>
    intro k i h0 hi hd hk
    obtain ⟨k, rfl⟩ : ∃ m, k = m + 1 := ⟨k - 1, by omega⟩
    have hl := seg_len x1 s i hs (by omega) (by omega)
    by_cases hst : NumStop (rd x1 i)
    · refine ⟨i, ?_, by omega, by omega, (fun q h1 h2 => by omega), .inr hst⟩
      simp only [pretty_appendPrettyNumber.l0]
      unfold seg at hl ⊢
      have hend : (if 0 ≤ s then (if s ≤ i then (if i ≤ (x1.length : Int) then ((some ((x1.take (i : Int).toNat).drop (s : Int).toNat : List Int)).bind fun y315 => (if x0.length + y315.length < 140737488355328 then (some ((x0 ++ y315), i, nl, true)) else (none))) else (none)) else (none)) else (none)) = some (x0 ++ List.drop s.toNat (List.take i.toNat x1), i, nl, true) := by
        rw [if_pos hs, if_pos (by omega), if_pos (by omega), Option.bind_some, if_pos (by omega)]
      rw [if_pos (by omega), if_pos (by omega)]
      by_cases a1 : rd x1 i ≤ 32
      · rw [if_pos a1]; exact hend
      · by_cases a2 : rd x1 i = 44
        · rw [if_neg a1, if_pos a2]; exact hend
        · by_cases a3 : rd x1 i = 58
          · rw [if_neg a1, if_neg a2, if_pos a3]; exact hend
          · by_cases a4 : rd x1 i = 93
            · rw [if_neg a1, if_neg a2, if_neg a3, if_pos a4]; exact hend
            · by_cases a5 : rd x1 i = 125
              · rw [if_neg a1, if_neg a2, if_neg a3, if_neg a4, if_pos a5]; exact hend
              · unfold NumStop at hst; omega
    · obtain ⟨j, hj, h1, h2, h3, h4⟩ := ih k (i + 1) (by omega) (by omega) (by omega) (by omega)
      refine ⟨j, ?_, by omega, h2, fun q h5 h6 => ?_, h4⟩
      · simp only [pretty_appendPrettyNumber.l0]
        unfold NumStop at hst
        rw [if_pos (by omega), if_pos (by omega), if_neg (by omega), if_neg (by omega), if_neg (by omega), if_neg (by omega), if_neg (by omega), w64p (by omega) (by omega)]
        exact hj
      · by_cases h8 : q = i
        · subst h8; exact hst
        · exact h3 q (by omega) h6
theorem num_tot (x0 x1 : List Int) (k : Nat) (nl s : Int) (hs : 0 ≤ s) (hs1 : s < x1.length) (hL : x1.length ≤ 1000000) (hx : x0.length + x1.length < 140737488355328) (hk : (x1.length : Int) + 1 ≤ k) :
    ∃ j, pretty_appendPrettyNumber.f k x0 x1 s nl = some (x0 ++ seg x1 s j, j, nl, true) ∧ NumEnd x1 (s + 1) j := by
  unfold pretty_appendPrettyNumber.f
  rw [w64p (by omega) (by omega)]
  exact num_l0 x0 x1 nl s hs hL hx ((x1.length : Int) - (s + 1)).toNat k (s + 1) (by omega) (by omega) (by omega) (by omega)
end Go.Proofs.Ytkbeiidjagodnaa.Pr

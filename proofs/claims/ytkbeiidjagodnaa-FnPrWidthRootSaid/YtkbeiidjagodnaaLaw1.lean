/- The leaves of pretty's printing, in plain Lean: appendTabs, appendPrettyString, appendPrettyNumber end and what they answer. -/
import Derived.Test.YtkbeiidjagodnaaPrx8c
namespace Go.Proofs.Ytkbeiidjagodnaa.Pr
open Go.RowKit Go.Proofs.YtkbeiidjagodnaaW.PrintWords Go.Proofs.YtkbeiidjagodnaaW.PrintLast Go.Proofs.YtkbeiidjagodnaaW.PrintMore
set_option linter.unusedVariables false

theorem w64p {x : Int} (h0 : -4611686018427387904 ≤ x) (h1 : x ≤ 4611686018427387904) : wrap64 x = x := by unfold wrap64; omega

/-- The prefix and n times the indent. -/
def tabsL (pre ind : ByteArray) (n : Nat) : List Int := bytesOf pre ++ (List.replicate n (bytesOf ind)).flatten
theorem flat_len (xs : List Int) : ∀ n, ((List.replicate n xs).flatten).length = n * xs.length
  | 0 => by simp
  | n + 1 => by rw [List.replicate_succ, List.flatten_cons, List.length_append, flat_len xs n, Nat.succ_mul, Nat.add_comm]
theorem tabsL_len (pre ind : ByteArray) (n : Nat) : (tabsL pre ind n).length = pre.size + n * ind.size := by
  unfold tabsL
  rw [List.length_append, flat_len, bytesOf_length, bytesOf_length]
theorem tabs_l1 (ind : ByteArray) (d : Nat) : ∀ (k : Nat) (x : List Int) (t i : Int), 0 ≤ i → t - i = d → t ≤ 1048576 → d < k → x.length + d * ind.size < 140737488355328 →
    pretty_appendTabs.l1 k x ind t i = some (x ++ (List.replicate d (bytesOf ind)).flatten) := by
  induction d with
  | zero =>
    intro k x t i h0 h1 h2 hk hl
    obtain ⟨k, rfl⟩ : ∃ m, k = m + 1 := ⟨k - 1, by omega⟩
    simp only [pretty_appendTabs.l1]
    rw [if_neg (by omega)]
    simp
  | succ d ih =>
    intro k x t i h0 h1 h2 hk hl
    obtain ⟨k, rfl⟩ : ∃ m, k = m + 1 := ⟨k - 1, by omega⟩
    rw [Nat.succ_mul] at hl
    simp only [pretty_appendTabs.l1]
    rw [if_pos (by omega), if_pos (by omega), w64p (by omega) (by omega), ih k _ t (i + 1) (by omega) (by omega) h2 (by omega) (by rw [List.length_append, bytesOf_length]; omega),
      List.replicate_succ, List.flatten_cons, List.append_assoc]
theorem tabs_l0 (d : Nat) : ∀ (k : Nat) (x : List Int) (t i : Int), 0 ≤ i → t - i = d → t ≤ 1048576 → d < k → x.length + d * 2 < 140737488355328 →
    pretty_appendTabs.l0 k x t i = some (x ++ (List.replicate d [32, 32]).flatten) := by
  induction d with
  | zero =>
    intro k x t i h0 h1 h2 hk hl
    obtain ⟨k, rfl⟩ : ∃ m, k = m + 1 := ⟨k - 1, by omega⟩
    simp only [pretty_appendTabs.l0]
    rw [if_neg (by omega)]
    simp
  | succ d ih =>
    intro k x t i h0 h1 h2 hk hl
    obtain ⟨k, rfl⟩ : ∃ m, k = m + 1 := ⟨k - 1, by omega⟩
    simp only [pretty_appendTabs.l0, Option.bind_some]
    rw [if_pos (by omega), if_pos (by simp only [List.length_cons, List.length_nil]; omega), w64p (by omega) (by omega), ih k _ t (i + 1) (by omega) (by omega) h2 (by omega) (by rw [List.length_append]; simp only [List.length_cons, List.length_nil]; omega),
      List.replicate_succ, List.flatten_cons, List.append_assoc]
theorem two_blanks {s : ByteArray} (h : s.size = 2) (h0 : bt s 0 = 32) (h1 : bt s 1 = 32) : bytesOf s = [32, 32] := by
  rw [← rd_bytesOf] at h0 h1
  have hl := bytesOf_length s
  rw [h] at hl
  match hb : bytesOf s, hl with
  | [a, b], _ => rw [hb] at h0 h1; simp [rd] at h0 h1; rw [h0, h1]
theorem tabs_j0 (ind : ByteArray) (k : Nat) (x : List Int) (t : Int) (h0 : 0 ≤ t) (h1 : t ≤ 1048576) (hk : t + 3 ≤ k) (hl : x.length + t.toNat * ind.size < 140737488355328) :
    pretty_appendTabs.j0 k x ind t = some (x ++ (List.replicate t.toNat (bytesOf ind)).flatten) := by
  obtain ⟨k, rfl⟩ : ∃ m, k = m + 2 := ⟨k - 2, by omega⟩
  have hno : pretty_appendTabs.j1 (k + 1) x ind t false = some (x ++ (List.replicate t.toNat (bytesOf ind)).flatten) := by
    simp only [pretty_appendTabs.j1]
    rw [if_neg (by decide)]
    exact tabs_l1 ind t.toNat k x t 0 (by omega) (by omega) h1 (by omega) hl
  simp only [pretty_appendTabs.j0]
  by_cases h2 : (ind.size : Int) = 2
  · rw [if_pos h2, if_pos (by omega)]
    by_cases h3 : bt ind 0 = 32
    · rw [if_pos h3, if_pos (by omega)]
      by_cases h4 : bt ind 1 = 32
      · have hb := two_blanks (by omega) h3 h4
        rw [h4, show ((32 : Int) == 32) = true from rfl]
        simp only [pretty_appendTabs.j1, if_true]
        rw [hb]
        exact tabs_l0 t.toNat k x t 0 (by omega) (by omega) h1 (by omega) (by rw [show ind.size = 2 by omega] at hl; exact hl)
      · rw [show (bt ind 1 == 32) = false from by rw [beq_eq_false_iff_ne]; exact h4]
        exact hno
    · rw [if_neg h3]; exact hno
  · rw [if_neg h2]; exact hno
theorem tabs_eq (pre ind : ByteArray) (k : Nat) (x : List Int) (t : Int) (h0 : 0 ≤ t) (h1 : t ≤ 1048576) (hk : t + 3 ≤ k) (hl : x.length + (pre.size + t.toNat * ind.size) < 140737488355328) :
    pretty_appendTabs.f k x pre ind t = some (x ++ tabsL pre ind t.toNat) := by
  unfold pretty_appendTabs.f tabsL
  by_cases hp : (pre.size : Int) = 0
  · rw [if_pos hp, tabs_j0 ind k x t h0 h1 hk (by omega)]
    have : bytesOf pre = [] := List.length_eq_zero_iff.mp (by rw [bytesOf_length]; omega)
    rw [this, List.nil_append]
  · rw [if_neg hp, if_pos (by omega), tabs_j0 ind k _ t h0 h1 hk (by rw [List.length_append, bytesOf_length]; omega), List.append_assoc]

/-- A piece of a text. -/
def seg (x : List Int) (i j : Int) : List Int := (x.take j.toNat).drop i.toNat
theorem seg_len (x : List Int) (i j : Int) (h0 : 0 ≤ i) (h1 : i ≤ j) (h2 : j ≤ x.length) : ((seg x i j).length : Int) = j - i := by
  unfold seg
  rw [List.length_drop, List.length_take]
  omega

/-- m is the last place from s on and ahead of q at which no backslash stands (or s): between it and q there are backslashes alone. -/
def Run (x : List Int) (s q m : Int) : Prop := s ≤ m ∧ m < q ∧ (∀ p, m < p → p < q → rd x p = 92) ∧ (m = s ∨ rd x m ≠ 92)
theorem Run.unique {x : List Int} {s q m m' : Int} (h : Run x s q m) (h' : Run x s q m') : m = m' := by
  obtain ⟨a, b, c, d⟩ := h
  obtain ⟨a', b', c', d'⟩ := h'
  by_cases h1 : m < m'
  · have := c m' h1 b'
    rcases d' with d' | d'
    · omega
    · exact absurd this d'
  · by_cases h2 : m' < m
    · have := c' m h2 b
      rcases d with d | d
      · omega
      · exact absurd this d
    · omega
/-- A string that begins at s is closed by the byte at q: a quote with an even number of backslashes ahead of it. -/
def Closes (x : List Int) (s q : Int) : Prop := rd x q = 34 ∧ ∃ m, Run x s q m ∧ (q - 1 - m) % 2 = 0

theorem str_l1 (x0 x1 : List Int) (i nl s : Int) (hs : 0 ≤ s) (hi : i < x1.length) (hL : x1.length ≤ 1048576) (hx : x0.length + x1.length < 140737488355328) (m : Int) (hm : s ≤ m) (hms : m = s ∨ rd x1 m ≠ 92) (d : Nat) :
    ∀ (k : Nat) (c j : Int), j - m = d → j < i → (∀ p, m < p → p ≤ j → rd x1 p = 92) → 0 ≤ c → c ≤ 1048576 → c + d ≤ 1048576 →
    pretty_appendPrettyString.l1 (k + d + 1) x0 x1 i nl s c j = if (c + d) % 2 = 1 then pretty_appendPrettyString.l0 k x0 x1 (i + 1) nl s else some (x0 ++ seg x1 s (i + 1), i + 1, nl, true) := by
  induction d with
  | zero =>
    intro k c j hd hj hp hc hc1 hcd
    have hjm : j = m := by omega
    subst hjm
    have hT : Int.tmod c 2 = c % 2 := by rw [Int.tmod_eq_emod_of_nonneg hc]
    have key : (if Int.tmod c 2 = 1 then pretty_appendPrettyString.l0 k x0 x1 (wrap64 (i + 1)) nl s else
        (if 0 ≤ s then (if s ≤ (wrap64 (i + 1)) then (if (wrap64 (i + 1)) ≤ (x1.length : Int) then ((some ((x1.take ((wrap64 (i + 1)) : Int).toNat).drop (s : Int).toNat : List Int)).bind fun y294 => (if x0.length + y294.length < 140737488355328 then (some ((x0 ++ y294), wrap64 (i + 1), nl, true)) else (none))) else (none)) else (none)) else (none)))
        = (if (c + ((0 : Nat) : Int)) % 2 = 1 then pretty_appendPrettyString.l0 k x0 x1 (i + 1) nl s else some (x0 ++ seg x1 s (i + 1), i + 1, nl, true)) := by
      rw [w64p (by omega) (by omega), hT]
      by_cases hp : c % 2 = 1
      · rw [if_pos hp, if_pos (by omega)]
      · rw [if_neg hp, if_neg (show ¬ (c + ((0 : Nat) : Int)) % 2 = 1 by omega), if_pos hs, if_pos (by omega), if_pos (by omega), Option.bind_some]
        have := seg_len x1 s (i + 1) hs (by omega) (by omega)
        unfold seg at this ⊢
        rw [if_pos (by omega)]
    simp only [pretty_appendPrettyString.l1]
    by_cases h1 : j > s
    · have h2 : rd x1 j ≠ 92 := by rcases hms with h | h; exact absurd h (by omega); exact h
      rw [if_pos h1, if_pos (by omega), if_pos (by omega), if_neg h2]
      exact key
    · rw [if_neg h1]
      exact key
  | succ d ih =>
    intro k c j hd hj hp hc hc1 hcd
    have h2 : rd x1 j = 92 := hp j (by omega) (by omega)
    rw [show k + (d + 1) + 1 = (k + d + 1) + 1 from by omega]
    rw [pretty_appendPrettyString.l1]
    rw [if_pos (by omega), if_pos (by omega), if_pos (by omega), if_pos h2, w64p (x := c + 1) (by omega) (by omega), w64p (x := j - 1) (by omega) (by omega), ih k (c + 1) (j - 1) (by omega) (by omega) (fun p h3 h4 => hp p h3 (by omega)) (by omega) (by omega) (by omega)]
    rw [show c + 1 + (d : Int) = c + ((d + 1 : Nat) : Int) from by omega]

/-- Where a string ends that begins at s: behind the first byte from i on that closes it, or at the text's end. -/
def StrEnd (x : List Int) (s i j : Int) : Prop := i ≤ j ∧ j ≤ x.length ∧ (∀ q, i ≤ q → q < j - 1 → ¬ Closes x s q) ∧ (j = x.length ∨ (i < j ∧ Closes x s (j - 1)))
theorem str_l0 (x0 x1 : List Int) (nl s : Int) (hs : 0 ≤ s) (hL : x1.length ≤ 1000000) (hx : x0.length + x1.length < 140737488355328) (d : Nat) :
    ∀ (k : Nat) (i m : Int), Run x1 s i m → i ≤ x1.length → (x1.length : Int) - i = d → 2 * (d : Int) + (i - 1 - m) + 3 ≤ k →
    ∃ j, pretty_appendPrettyString.l0 k x0 x1 i nl s = some (x0 ++ seg x1 s j, j, nl, true) ∧ StrEnd x1 s i j := by
  induction d with
  | zero =>
    intro k i m hm hi hd hk
    obtain ⟨hm1, hm2, hm3, hm4⟩ := hm
    obtain ⟨k, rfl⟩ : ∃ m, k = m + 1 := ⟨k - 1, by omega⟩
    refine ⟨i, ?_, by omega, by omega, (fun q h1 h2 => by omega), .inl (by omega)⟩
    have := seg_len x1 s i hs (by omega) (by omega)
    simp only [pretty_appendPrettyString.l0]
    unfold seg at this ⊢
    rw [if_neg (by omega), if_pos hs, if_pos (by omega), if_pos (by omega), Option.bind_some, if_pos (by omega)]
  | succ d ih =>
    intro k i m hm hi hd hk
    have hm' := hm
    obtain ⟨hm1, hm2, hm3, hm4⟩ := hm
    obtain ⟨k, rfl⟩ : ∃ m, k = m + 1 := ⟨k - 1, by omega⟩
    simp only [pretty_appendPrettyString.l0]
    rw [if_pos (by omega), if_pos (by omega)]
    by_cases hq : rd x1 i = 34
    · rw [if_pos hq, w64p (by omega) (by omega)]
      obtain ⟨k', rfl⟩ : ∃ k', k = k' + (i - 1 - m).toNat + 1 := ⟨k - (i - 1 - m).toNat - 1, by omega⟩
      rw [str_l1 x0 x1 i nl s hs (by omega) (by omega) hx m hm1 hm4 (i - 1 - m).toNat k' 0 (i - 1) (by omega) (by omega) (fun p h1 h2 => hm3 p h1 (by omega)) (by omega) (by omega) (by omega)]
      by_cases hp : ((0 : Int) + ((i - 1 - m).toNat : Int)) % 2 = 1
      · rw [if_pos hp]
        obtain ⟨j, hj, h1, h2, h3, h4⟩ := ih k' (i + 1) i ⟨by omega, by omega, (fun p h1 h2 => by omega), .inr (by rw [hq]; decide)⟩ (by omega) (by omega) (by omega)
        refine ⟨j, hj, by omega, h2, fun q h5 h6 h7 => ?_, ?_⟩
        · by_cases h8 : q = i
          · subst h8
            obtain ⟨_, m', h9, h10⟩ := h7
            have := hm'.unique h9
            subst this
            omega
          · exact h3 q (by omega) h6 h7
        · rcases h4 with h4 | h4
          · exact .inl h4
          · exact .inr ⟨by omega, h4.2⟩
      · rw [if_neg hp]
        refine ⟨i + 1, rfl, by omega, by omega, (fun q h1 h2 => by omega), .inr ⟨by omega, ?_⟩⟩
        rw [show i + 1 - 1 = i by omega]
        exact ⟨hq, m, hm', by omega⟩
    · rw [if_neg hq, w64p (by omega) (by omega)]
      obtain ⟨j, hj, h1, h2, h3, h4⟩ : ∃ j, pretty_appendPrettyString.l0 k x0 x1 (i + 1) nl s = some (x0 ++ seg x1 s j, j, nl, true) ∧ StrEnd x1 s (i + 1) j := by
        by_cases hb : rd x1 i = 92
        · exact ih k (i + 1) m ⟨hm1, by omega, (fun p h1 h2 => by by_cases h3 : p = i; subst h3; exact hb; exact hm3 p h1 (by omega)), hm4⟩ (by omega) (by omega) (by omega)
        · exact ih k (i + 1) i ⟨by omega, by omega, (fun p h1 h2 => by omega), .inr hb⟩ (by omega) (by omega) (by omega)
      refine ⟨j, hj, by omega, h2, fun q h5 h6 h7 => ?_, ?_⟩
      · by_cases h8 : q = i
        · subst h8; exact hq h7.1
        · exact h3 q (by omega) h6 h7
      · rcases h4 with h4 | h4
        · exact .inl h4
        · exact .inr ⟨by omega, h4.2⟩
theorem str_tot (x0 x1 : List Int) (k : Nat) (nl s : Int) (hs : 0 ≤ s) (hs1 : s < x1.length) (hL : x1.length ≤ 1000000) (hx : x0.length + x1.length < 140737488355328) (hk : 2 * (x1.length : Int) + 3 ≤ k) :
    ∃ j, pretty_appendPrettyString.f k x0 x1 s nl = some (x0 ++ seg x1 s j, j, nl, true) ∧ StrEnd x1 s (s + 1) j := by
  unfold pretty_appendPrettyString.f
  rw [w64p (by omega) (by omega)]
  exact str_l0 x0 x1 nl s hs hL hx ((x1.length : Int) - (s + 1)).toNat k (s + 1) s ⟨by omega, by omega, (fun p h1 h2 => by omega), .inl rfl⟩ (by omega) (by omega) (by omega)

/-- The bytes behind a number. -/
def NumStop (c : Int) : Prop := c ≤ 32 ∨ c = 44 ∨ c = 58 ∨ c = 93 ∨ c = 125
def NumEnd (x : List Int) (i j : Int) : Prop := i ≤ j ∧ j ≤ x.length ∧ (∀ q, i ≤ q → q < j → ¬ NumStop (rd x q)) ∧ (j = x.length ∨ NumStop (rd x j))
theorem num_l0 (x0 x1 : List Int) (nl s : Int) (hs : 0 ≤ s) (hL : x1.length ≤ 1000000) (hx : x0.length + x1.length < 140737488355328) (d : Nat) :
    ∀ (k : Nat) (i : Int), s ≤ i → i ≤ x1.length → (x1.length : Int) - i = d → (d : Int) + 1 ≤ k →
    ∃ j, pretty_appendPrettyNumber.l0 k x0 x1 i nl s = some (x0 ++ seg x1 s j, j, nl, true) ∧ NumEnd x1 i j := by
  induction d with
  | zero =>
    intro k i h0 hi hd hk
    obtain ⟨k, rfl⟩ : ∃ m, k = m + 1 := ⟨k - 1, by omega⟩
    refine ⟨i, ?_, by omega, by omega, (fun q h1 h2 => by omega), .inl (by omega)⟩
    have := seg_len x1 s i hs (by omega) (by omega)
    simp only [pretty_appendPrettyNumber.l0]
    unfold seg at this ⊢
    rw [if_neg (by omega), if_pos hs, if_pos (by omega), if_pos (by omega), Option.bind_some, if_pos (by omega)]
  | succ d ih =>
    intro k i h0 hi hd hk
    obtain ⟨k, rfl⟩ : ∃ m, k = m + 1 := ⟨k - 1, by omega⟩
    have hl := seg_len x1 s i hs (by omega) (by omega)
    by_cases hst : NumStop (rd x1 i)
    · refine ⟨i, ?_, by omega, by omega, (fun q h1 h2 => by omega), .inr hst⟩
      simp only [pretty_appendPrettyNumber.l0]
      unfold seg at hl ⊢
      have hend : (if 0 ≤ s then (if s ≤ i then (if i ≤ (x1.length : Int) then ((some ((x1.take (i : Int).toNat).drop (s : Int).toNat : List Int)).bind fun y315 => (if x0.length + y315.length < 140737488355328 then (some ((x0 ++ y315), i, nl, true)) else (none))) else (none)) else (none)) else (none)) = some (x0 ++ List.drop s.toNat (List.take i.toNat x1), i, nl, true) := by
        rw [if_pos hs, if_pos (by omega), if_pos (by omega), Option.bind_some, if_pos (by omega)]
      rw [if_pos (by omega), if_pos (by omega)]
      by_cases a1 : rd x1 i ≤ 32
      · rw [if_pos a1]; exact hend
      · by_cases a2 : rd x1 i = 44
        · rw [if_neg a1, if_pos a2]; exact hend
        · by_cases a3 : rd x1 i = 58
          · rw [if_neg a1, if_neg a2, if_pos a3]; exact hend
          · by_cases a4 : rd x1 i = 93
            · rw [if_neg a1, if_neg a2, if_neg a3, if_pos a4]; exact hend
            · by_cases a5 : rd x1 i = 125
              · rw [if_neg a1, if_neg a2, if_neg a3, if_neg a4, if_pos a5]; exact hend
              · unfold NumStop at hst; omega
    · obtain ⟨j, hj, h1, h2, h3, h4⟩ := ih k (i + 1) (by omega) (by omega) (by omega) (by omega)
      refine ⟨j, ?_, by omega, h2, fun q h5 h6 => ?_, h4⟩
      · simp only [pretty_appendPrettyNumber.l0]
        unfold NumStop at hst
        rw [if_pos (by omega), if_pos (by omega), if_neg (by omega), if_neg (by omega), if_neg (by omega), if_neg (by omega), if_neg (by omega), w64p (by omega) (by omega)]
        exact hj
      · by_cases h8 : q = i
        · subst h8; exact hst
        · exact h3 q (by omega) h6
theorem num_tot (x0 x1 : List Int) (k : Nat) (nl s : Int) (hs : 0 ≤ s) (hs1 : s < x1.length) (hL : x1.length ≤ 1000000) (hx : x0.length + x1.length < 140737488355328) (hk : (x1.length : Int) + 1 ≤ k) :
    ∃ j, pretty_appendPrettyNumber.f k x0 x1 s nl = some (x0 ++ seg x1 s j, j, nl, true) ∧ NumEnd x1 (s + 1) j := by
  unfold pretty_appendPrettyNumber.f
  rw [w64p (by omega) (by omega)]
  exact num_l0 x0 x1 nl s hs hL hx ((x1.length : Int) - (s + 1)).toNat k (s + 1) (by omega) (by omega) (by omega) (by omega)
end Go.Proofs.Ytkbeiidjagodnaa.Pr
/- pretty's two functions that call each other end on every text, and what they append is bounded: plain Lean. -/
namespace Go.Proofs.Ytkbeiidjagodnaa.Pr
open Go.RowKit Go.Proofs.YtkbeiidjagodnaaW.PrintWords Go.Proofs.YtkbeiidjagodnaaW.PrintLast Go.Proofs.YtkbeiidjagodnaaW.PrintMore
set_option linter.unusedVariables false

abbrev Res := List Int × Int × Int × Bool
/-- There is room for all that the rest of the text can make. -/
def Room (x1 x0 : List Int) (i : Int) : Prop := (x0.length : Int) + 1048576 * ((x1.length : Int) + 8 - i) ≤ 1099511627776
def RoomA (x1 x0 : List Int) (i : Int) : Prop := (x0.length : Int) + 1048576 * ((x1.length : Int) + 8 - i) ≤ 1099511627776 + 300000
/-- What was appended is bounded by what was read. -/
def Post (x1 x0 : List Int) (i : Int) (r : Res) : Prop := x0.length ≤ r.1.length ∧ (r.1.length : Int) ≤ x0.length + 1048576 * (r.2.1 - i) ∧ i ≤ r.2.1 ∧ r.2.1 ≤ x1.length + 4
/-- The same, and something was read, and there is some room left. -/
def PostS (x1 x0 : List Int) (i : Int) (r : Res) : Prop := x0.length ≤ r.1.length ∧ (r.1.length : Int) + 300000 ≤ x0.length + 1048576 * (r.2.1 - i) ∧ i < r.2.1 ∧ r.2.1 ≤ x1.length + 4
def PostL (x1 x0 : List Int) (i : Int) (r : Res) : Prop := x0.length ≤ r.1.length ∧ (r.1.length : Int) ≤ x0.length + 300000 + 1048576 * (r.2.1 - i) ∧ i ≤ r.2.1 ∧ r.2.1 ≤ x1.length + 4
/-- The bytes that begin a value. -/
def IsStart (c : Int) : Prop := c = 34 ∨ (48 ≤ c ∧ c ≤ 57) ∨ c = 45 ∨ c = 123 ∨ c = 91 ∨ c = 116 ∨ c = 102 ∨ c = 110

/-- The first byte above a blank, from i on, begins a value. -/
def Starts (x1 : List Int) (i : Int) : Prop := ∃ q, i ≤ q ∧ q < x1.length ∧ (∀ p, i ≤ p → p < q → rd x1 p ≤ 32) ∧ IsStart (rd x1 q)

/-- The condition on all calls: a text of at most 4096 bytes, a prefix and an indent of at most 64. -/
structure Ctx (x1 : List Int) (pre ind : ByteArray) : Prop where
  L : x1.length ≤ 4096
  p : pre.size ≤ 64
  d : ind.size ≤ 64

def TotA (VA : H_pAny) (x1 : List Int) (T : Int) : Prop := ∀ (k : Nat) (x0 : List Int) (i : Int) (pr : Bool) (wd : Int) (pre ind : ByteArray) (tabs nl mx : Int), Ctx x1 pre ind → 0 ≤ i → i ≤ x1.length → 0 ≤ tabs → tabs ≤ i →
  RoomA x1 x0 i → 3 * ((x1.length : Int) - i) + 3 ≤ T → 32 * ((x1.length : Int) + 8 - i) + 8310 ≤ k →
  ∃ r, VA.f k x0 x1 i pr wd pre ind false tabs nl mx = some r ∧ Post x1 x0 i r ∧ (i < x1.length → rd x1 i > 32 → PostS x1 x0 i r ∨ (r.2.2.2 = false ∧ mx ≠ -1)) ∧ (mx = -1 → Starts x1 i → x0.length < r.1.length)
def TotO (VO : H_pObj) (x1 : List Int) (T : Int) : Prop := ∀ (k : Nat) (x0 : List Int) (i op cl : Int) (pr : Bool) (wd : Int) (pre ind : ByteArray) (tabs nl mx : Int), Ctx x1 pre ind → (op = 91 ∨ op = 123) → 0 ≤ i → i < x1.length → 0 ≤ tabs → tabs ≤ i →
  RoomA x1 x0 i → 3 * ((x1.length : Int) - i) + (if pr = true then 2 else 1) ≤ T → 32 * ((x1.length : Int) + 8 - i) + (if pr = true then 8306 else 8302) ≤ k →
  ∃ r, VO.f k x0 x1 i op cl pr wd pre ind false tabs nl mx = some r ∧ Post x1 x0 i r ∧ ((PostS x1 x0 i r ∧ x0.length < r.1.length) ∨ (r.2.2.2 = false ∧ mx ≠ -1 ∧ op = 123))

theorem tabs_q {x1 : List Int} {pre ind : ByteArray} (hc : Ctx x1 pre ind) (k : Nat) (x : List Int) (t : Int) (h0 : 0 ≤ t) (h1 : t ≤ 4200) (hk : t + 3 ≤ k) (hl : x.length ≤ 2199023255552) :
    ∃ r, pretty_appendTabs.f k x pre ind t = some r ∧ x.length ≤ r.length ∧ r.length ≤ x.length + 268864 := by
  have hp := hc.p
  have hd := hc.d
  have hm : t.toNat * ind.size ≤ 4200 * 64 := Nat.mul_le_mul (by omega) hd
  refine ⟨_, tabs_eq pre ind k x t h0 (by omega) hk (by omega), ?_, ?_⟩
  · rw [List.length_append]; omega
  · rw [List.length_append, tabsL_len]; omega

section
variable (VA : H_pAny) (VO : H_pObj) (x1 : List Int) (op cl : Int) (pr : Bool) (wd : Int) (pre ind : ByteArray) (tabs mx : Int)

def LoopOK (i : Int) : Prop := ∀ (k : Nat) (x0 : List Int) (j nl n : Int), i ≤ j → 0 ≤ j → j ≤ x1.length + 4 → 1 ≤ x0.length → Room x1 x0 j → 32 * ((x1.length : Int) + 8 - j) + 8320 ≤ k →
  ∃ r, pObj.l0 VA VO k x0 x1 j op cl pr wd pre ind tabs nl mx [] n = some r ∧ PostL x1 x0 j r

theorem j11_eq (k : Nat) (x0 : List Int) (i nl n a b c d : Int) (h0 : 0 ≤ i) (h1 : i ≤ 1048576) :
    pObj.j11 VA VO (k + 1) x0 x1 i op cl pr wd pre ind tabs nl mx [] n false a b c d = pObj.l0 VA VO k x0 x1 i op cl pr wd pre ind tabs nl mx [] (wrap64 (n + 1)) := by
  rw [pObj.j11, if_neg (by decide), w64p (x := i - 1) (by omega) (by omega), w64p (x := i - 1 + 1) (by omega) (by omega), show i - 1 + 1 = i by omega]
theorem j10_eq (k : Nat) (x0 : List Int) (i nl n a b c d : Int) (h0 : 0 ≤ i) (h1 : i ≤ 1048576) :
    pObj.j10 VA VO (k + 2) x0 x1 i op cl pr wd pre ind tabs nl mx [] n false a b c d = pObj.l0 VA VO k x0 x1 i op cl pr wd pre ind tabs nl mx [] (wrap64 (n + 1)) := by
  rw [pObj.j10, if_neg (by decide), j11_eq VA VO x1 op cl pr wd pre ind tabs mx k x0 i nl n a b c d h0 h1]
  split
  · split <;> rfl
  · rfl
theorem j10_out (k : Nat) (x0 : List Int) (i nl n a b c d : Int) :
    pObj.j10 VA VO (k + 1) x0 x1 i op cl pr wd pre ind tabs nl mx [] n true a b c d = some (x0, i, nl, false) := by
  rw [pObj.j10, if_pos rfl]

theorem j9_t (hc : Ctx x1 pre ind) {T : Int} (hA : TotA VA x1 T) (k : Nat) (xb x0 : List Int) (ib i nl n a b c d : Int) (hi : 0 ≤ i) (hi1 : i ≤ x1.length) (ht : 0 ≤ tabs) (ht1 : tabs + 1 ≤ i) (hT : 3 * ((x1.length : Int) - i) + 3 ≤ T)
    (hL : LoopOK VA VO x1 op cl pr wd pre ind tabs mx (ib + 1)) (h1 : 1 ≤ x0.length) (hR : Room x1 xb ib) (hb : xb.length ≤ x0.length)
    (hbase : (i = ib ∧ i < x1.length ∧ rd x1 i > 32 ∧ x0.length ≤ xb.length + 300000) ∨ (ib < i ∧ (x0.length : Int) ≤ xb.length + 1048576 * (i - ib))) (hk : 32 * ((x1.length : Int) + 8 - ib) + 8312 ≤ k)
    (hRa : RoomA x1 x0 i) :
    ∃ r, pObj.j9 VA VO k x0 x1 i op cl pr wd pre ind tabs nl mx [] n a b c d = some r ∧ PostL x1 xb ib r := by
  have hLn := hc.L
  have hii : ib ≤ i := by omega
  obtain ⟨k, rfl⟩ : ∃ m, k = m + 1 := ⟨k - 1, by omega⟩
  obtain ⟨⟨r1, r2, r3, r4⟩, hr, hp, hs, _⟩ := hA k x0 i pr wd pre ind (tabs + 1) nl mx hc hi hi1 (by omega) ht1 hRa hT (by omega)
  rw [pObj.j9, w64p (x := tabs + 1) (by omega) (by omega), hr]
  simp only [Option.bind_some]
  unfold Post at hp
  unfold PostS at hs
  unfold Room at hR
  simp only at hp hs
  obtain ⟨p1, p2, p3, p4⟩ := hp
  -- on with the loop
  have go : ib + 1 ≤ r2 → (r1.length : Int) ≤ xb.length + 1048576 * (r2 - ib) → ∃ r, pObj.j10 VA VO k r1 x1 r2 op cl pr wd pre ind tabs r3 mx [] n false a b c d = some r ∧ PostL x1 xb ib r := by
    intro g1 g2
    obtain ⟨k, rfl⟩ : ∃ m, k = m + 2 := ⟨k - 2, by omega⟩
    rw [j10_eq VA VO x1 op cl pr wd pre ind tabs mx k r1 r2 r3 n a b c d (by omega) (by omega)]
    obtain ⟨⟨q1, q2, q3, q4⟩, hq, hq1, hq2, hq3, hq4⟩ := hL k r1 r2 r3 (wrap64 (n + 1)) g1 (by omega) p4 (by omega) (by unfold Room; omega) (by omega)
    refine ⟨_, hq, ?_⟩
    simp only at hq1 hq2 hq3 hq4
    unfold PostL
    simp only
    omega
  have stop : (r4 = false → (r1.length : Int) ≤ xb.length + 300000 + 1048576 * (r2 - ib)) → ib ≤ r2 → (!r4) = true → ∃ r, pObj.j10 VA VO k r1 x1 r2 op cl pr wd pre ind tabs r3 mx [] n (!r4) a b c d = some r ∧ PostL x1 xb ib r := by
    intro g1 g2 g3
    obtain ⟨k, rfl⟩ : ∃ m, k = m + 1 := ⟨k - 1, by omega⟩
    rw [g3, j10_out]
    refine ⟨_, rfl, ?_⟩
    have g4 := g1 (by cases r4 with | true => simp at g3 | false => rfl)
    unfold PostL
    simp only
    omega
  rcases hbase with ⟨rfl, b1, b2, b3⟩ | ⟨b1, b2⟩
  · have hs := hs b1 b2
    by_cases hm : mx = -1
    · rw [if_pos hm]
      rcases hs with hs | hs
      · exact go (by omega) (by omega)
      · exact absurd hm hs.2
    · rw [if_neg hm]
      cases r4 with
      | false => exact stop (fun _ => by omega) (by omega) rfl
      | true =>
        rcases hs with hs | hs
        · exact go (by omega) (by omega)
        · exact absurd hs.1 (by decide)
  · by_cases hm : mx = -1
    · rw [if_pos hm]; exact go (by omega) (by omega)
    · rw [if_neg hm]
      cases r4 with
      | false => exact stop (fun _ => by omega) (by omega) rfl
      | true => exact go (by omega) (by omega)

theorem j8_t (hc : Ctx x1 pre ind) (hop : op = 91 ∨ op = 123) {T : Int} (hA : TotA VA x1 T) (k : Nat) (xb x0 : List Int) (ib nl n a b c d : Int) (hi : 0 ≤ ib) (hi1 : ib < x1.length) (hn : rd x1 ib > 32) (ht : 0 ≤ tabs) (ht1 : tabs + 1 ≤ ib) (hT : 3 * ((x1.length : Int) - ib) + 3 ≤ T)
    (hL : LoopOK VA VO x1 op cl pr wd pre ind tabs mx (ib + 1)) (h1 : 1 ≤ x0.length) (hR : Room x1 xb ib) (hb : xb.length ≤ x0.length) (hbase : x0.length ≤ xb.length + 280000) (hk : 32 * ((x1.length : Int) + 8 - ib) + 8313 ≤ k) :
    ∃ r, pObj.j8 VA VO k x0 x1 ib op cl pr wd pre ind tabs nl mx [] n a b c d = some r ∧ PostL x1 xb ib r := by
  have hLn := hc.L
  have hR' := hR
  unfold Room at hR'
  obtain ⟨k, rfl⟩ : ∃ m, k = m + 1 := ⟨k - 1, by omega⟩
  rw [pObj.j8]
  by_cases ho : op = 123
  · rw [if_pos ho]
    obtain ⟨j, hj, g1, g2, g3, g4⟩ := str_tot x0 x1 k nl ib hi hi1 (by omega) (by omega) (by omega)
    rw [hj]
    have hsl := seg_len x1 ib j hi (by omega) g2
    simp only [Option.bind_some]
    have e1 : (x0 ++ seg x1 ib j).length = x0.length + (seg x1 ib j).length := List.length_append
    rw [if_pos (by omega)]
    have e2 : ((x0 ++ seg x1 ib j) ++ [58]).length = x0.length + (seg x1 ib j).length + 1 := by rw [List.length_append, e1]; rfl
    cases pr with
    | true =>
      rw [if_pos rfl, if_pos (by omega)]
      have e3 : (((x0 ++ seg x1 ib j) ++ [58]) ++ [32]).length = x0.length + (seg x1 ib j).length + 2 := by rw [List.length_append, e2]; rfl
      exact j9_t VA VO x1 op cl true wd pre ind tabs mx hc hA k xb _ ib j nl n a b c d (by omega) g2 ht (by omega) (by omega) hL (by omega) hR (by omega) (.inr ⟨by omega, by omega⟩) (by omega) (by unfold RoomA; omega)
    | false =>
      rw [if_neg (by decide)]
      exact j9_t VA VO x1 op cl false wd pre ind tabs mx hc hA k xb _ ib j nl n a b c d (by omega) g2 ht (by omega) (by omega) hL (by omega) hR (by omega) (.inr ⟨by omega, by omega⟩) (by omega) (by unfold RoomA; omega)
  · rw [if_neg ho]
    refine j9_t VA VO x1 op cl pr wd pre ind tabs mx hc hA k xb x0 ib ib nl n a b c d hi (by omega) ht ht1 hT hL h1 hR hb (.inl ⟨rfl, hi1, hn, by omega⟩) (by omega) ?_
    unfold RoomA
    omega

theorem j7_t (hc : Ctx x1 pre ind) (hop : op = 91 ∨ op = 123) {T : Int} (hA : TotA VA x1 T) (k : Nat) (xb x0 : List Int) (ib nl n : Int) (hi : 0 ≤ ib) (hi1 : ib < x1.length) (hn : rd x1 ib > 32) (ht : 0 ≤ tabs) (ht1 : tabs + 1 ≤ ib) (hT : 3 * ((x1.length : Int) - ib) + 3 ≤ T)
    (hL : LoopOK VA VO x1 op cl pr wd pre ind tabs mx (ib + 1)) (h1 : 1 ≤ x0.length) (hR : Room x1 xb ib) (hb : xb.length ≤ x0.length) (hbase : x0.length ≤ xb.length + 10) (hk : 32 * ((x1.length : Int) + 8 - ib) + 8314 ≤ k) :
    ∃ r, pObj.j7 VA VO k x0 x1 ib op cl pr wd pre ind tabs nl mx [] n = some r ∧ PostL x1 xb ib r := by
  have hLn := hc.L
  have hR' := hR
  unfold Room at hR'
  obtain ⟨k, rfl⟩ : ∃ m, k = m + 1 := ⟨k - 1, by omega⟩
  rw [pObj.j7]
  cases pr with
  | false =>
    rw [if_neg (by decide)]
    exact j8_t VA VO x1 op cl false wd pre ind tabs mx hc hop hA k xb x0 ib nl n 0 0 0 0 hi hi1 hn ht ht1 hT hL h1 hR hb (by omega) (by omega)
  | true =>
    rw [if_pos rfl, w64p (x := (x0.length : Int) - 1) (by omega) (by omega), if_pos (by omega), if_pos (by omega)]
    have fin : ∀ (y : List Int), y.length = x0.length ∨ y.length = x0.length + 1 → ∃ r, (if op = 123 then ((pretty_appendTabs.f k y pre ind (wrap64 (tabs + 1))).bind fun t444 => (pObj.j8 VA VO k t444 x1 ib op cl true wd pre ind tabs (x0.length : Int) mx [] n 0 0 0 0)) else ((pretty_appendTabs.f k y pre ind (wrap64 (tabs + 1))).bind fun t447 => (pObj.j8 VA VO k t447 x1 ib op cl true wd pre ind tabs (x0.length : Int) mx [] n 0 0 0 0))) = some r ∧ PostL x1 xb ib r := by
      intro y hy
      rw [w64p (x := tabs + 1) (by omega) (by omega)]
      obtain ⟨t, e, g1, g2⟩ := tabs_q hc k y (tabs + 1) (by omega) (by omega) (by omega) (by omega)
      rw [e]
      simp only [Option.bind_some]
      have := j8_t VA VO x1 op cl true wd pre ind tabs mx hc hop hA k xb t ib (x0.length : Int) n 0 0 0 0 hi hi1 hn ht ht1 hT hL (by omega) hR (by omega) (by omega) (by omega)
      split
      · exact this
      · exact this
    by_cases h32 : rd x0 ((x0.length : Int) - 1) = 32
    · rw [if_pos h32, Option.bind_some]
      exact fin _ (.inl (List.length_set ..))
    · rw [if_neg h32, if_pos (by omega), Option.bind_some]
      exact fin _ (.inr (by rw [List.length_append]; rfl))

theorem j6_t (hc : Ctx x1 pre ind) (hop : op = 91 ∨ op = 123) {T : Int} (hA : TotA VA x1 T) (k : Nat) (xb : List Int) (ib nl n : Int) (b : Bool) (hi : 0 ≤ ib) (hi1 : ib < x1.length) (hn : rd x1 ib > 32) (ht : 0 ≤ tabs) (ht1 : tabs + 1 ≤ ib) (hT : 3 * ((x1.length : Int) - ib) + 3 ≤ T)
    (hL : LoopOK VA VO x1 op cl pr wd pre ind tabs mx (ib + 1)) (h1 : 1 ≤ xb.length) (hR : Room x1 xb ib) (hk : 32 * ((x1.length : Int) + 8 - ib) + 8315 ≤ k) :
    ∃ r, pObj.j6 VA VO k xb x1 ib op cl pr wd pre ind tabs nl mx [] n b = some r ∧ PostL x1 xb ib r := by
  have hLn := hc.L
  have hR' := hR
  unfold Room at hR'
  obtain ⟨k, rfl⟩ : ∃ m, k = m + 1 := ⟨k - 1, by omega⟩
  rw [pObj.j6]
  cases b with
  | false =>
    rw [if_neg (by decide), w64p (x := ib + 1) (by omega) (by omega)]
    obtain ⟨⟨q1, q2, q3, q4⟩, hq, hq1, hq2, hq3, hq4⟩ := hL k xb (ib + 1) nl n (by omega) (by omega) (by omega) h1 (by unfold Room; omega) (by omega)
    refine ⟨_, hq, ?_⟩
    simp only at hq1 hq2 hq3 hq4
    unfold PostL
    simp only
    omega
  | true =>
    rw [if_pos rfl]
    have fin : ∀ (y : List Int), xb.length ≤ y.length → y.length ≤ xb.length + 10 → ∃ r, pObj.j7 VA VO k y x1 ib op cl pr wd pre ind tabs nl mx [] n = some r ∧ PostL x1 xb ib r := fun y g1 g2 =>
      j7_t VA VO x1 op cl pr wd pre ind tabs mx hc hop hA k xb y ib nl n hi hi1 hn ht ht1 hT hL (by omega) hR g1 g2 (by omega)
    by_cases h0 : n > 0
    · have e1 : (xb ++ [44]).length = xb.length + 1 := by rw [List.length_append]; rfl
      have e2 : ((xb ++ [44]) ++ [32]).length = xb.length + 2 := by rw [List.length_append, e1]; rfl
      rw [if_pos h0, if_pos (by omega), Option.bind_some]
      split
      · exact fin _ (by omega) (by omega)
      · split
        · rw [if_pos (by omega)]; exact fin _ (by omega) (by omega)
        · exact fin _ (by omega) (by omega)
    · rw [if_neg h0]; exact fin _ (by omega) (by omega)

theorem j5_t (hc : Ctx x1 pre ind) (k : Nat) (xb : List Int) (ib nl n : Int) (hi : 0 ≤ ib) (hi1 : ib < x1.length) (ht : 0 ≤ tabs) (ht1 : tabs + 1 ≤ ib)
    (h1 : 1 ≤ xb.length) (hR : Room x1 xb ib) (hk : 5000 ≤ k) :
    ∃ r, pObj.j5 VA VO k xb ib op cl pre ind tabs nl n = some r ∧ PostL x1 xb ib r := by
  have hLn := hc.L
  have hR' := hR
  unfold Room at hR'
  obtain ⟨k, rfl⟩ : ∃ m, k = m + 1 := ⟨k - 1, by omega⟩
  rw [pObj.j5, w64p (x := ib + 1) (by omega) (by omega), w64p (x := (xb.length : Int) - 1) (by omega) (by omega)]
  have last : ∀ (y : List Int) (m : Int), xb.length ≤ y.length → y.length ≤ xb.length + 290000 → ∃ r, (if y.length < 140737488355328 then (some ((y ++ [cl]), ib + 1, m, (op != 123))) else (none)) = some r ∧ PostL x1 xb ib r := by
    intro y m g1 g2
    rw [if_pos (by omega)]
    refine ⟨_, rfl, ?_⟩
    have : (y ++ [cl]).length = y.length + 1 := by rw [List.length_append]; rfl
    unfold PostL
    simp only
    omega
  have tb : ∀ (y : List Int) (m : Int), xb.length ≤ y.length → y.length ≤ xb.length + 1 → ∃ r, ((pretty_appendTabs.f k y pre ind tabs).bind fun t402 => (if t402.length < 140737488355328 then (some ((t402 ++ [cl]), ib + 1, m, (op != 123))) else (none))) = some r ∧ PostL x1 xb ib r := by
    intro y m g1 g2
    obtain ⟨t, e, g3, g4⟩ := tabs_q hc k y tabs (by omega) (by omega) (by omega) (by omega)
    rw [e, Option.bind_some]
    exact last t m (by omega) (by omega)
  by_cases h0 : n > 0
  · rw [if_pos h0, if_pos (by omega), if_pos (by omega)]
    by_cases h32 : rd xb ((xb.length : Int) - 1) = 32
    · rw [if_pos h32, Option.bind_some]
      have e : (xb.set ((xb.length : Int) - 1).toNat 10).length = xb.length := List.length_set ..
      split
      · exact last _ _ (by omega) (by omega)
      · exact tb _ _ (by omega) (by omega)
    · have e : (xb ++ [10]).length = xb.length + 1 := by rw [List.length_append]; rfl
      rw [if_neg h32, if_pos (by omega), Option.bind_some, w64p (by omega) (by omega), if_pos (by omega), if_pos (by omega)]
      split
      · exact last _ _ (by omega) (by omega)
      · exact tb _ _ (by omega) (by omega)
  · rw [if_neg h0, if_pos (by omega), if_pos (by omega)]
    split
    · exact last _ _ (by omega) (by omega)
    · exact tb _ _ (by omega) (by omega)

theorem l0_t (hc : Ctx x1 pre ind) (hop : op = 91 ∨ op = 123) {T : Int} (hA : TotA VA x1 T) (i0 : Int) (ht : 0 ≤ tabs) (ht1 : tabs + 1 ≤ i0) (hT : 3 * ((x1.length : Int) - i0) + 3 ≤ T) (d : Nat) :
    ∀ (i : Int), i0 ≤ i → (x1.length : Int) + 5 - i ≤ d → LoopOK VA VO x1 op cl pr wd pre ind tabs mx i := by
  have hLn := hc.L
  induction d with
  | zero => intro i h0 hd k x0 j nl n h1 h2 h3; omega
  | succ d ih =>
    intro i h0 hd k x0 j nl n g0 g1 g2 g3 g4 g5
    have hL : LoopOK VA VO x1 op cl pr wd pre ind tabs mx (j + 1) := ih (j + 1) (by omega) (by omega)
    have g4' := g4
    unfold Room at g4'
    obtain ⟨k, rfl⟩ : ∃ m, k = m + 1 := ⟨k - 1, by omega⟩
    rw [pObj.l0]
    by_cases c1 : j < (x1.length : Int)
    · rw [if_pos c1, if_pos g1]
      by_cases c2 : rd x1 j ≤ 32
      · rw [if_pos c2, w64p (x := j + 1) (by omega) (by omega)]
        obtain ⟨⟨q1, q2, q3, q4⟩, hq, hq1, hq2, hq3, hq4⟩ := hL k x0 (j + 1) nl n (by omega) (by omega) (by omega) g3 (by unfold Room; omega) (by omega)
        refine ⟨_, hq, ?_⟩
        simp only at hq1 hq2 hq3 hq4
        unfold PostL
        simp only
        omega
      · rw [if_neg c2]
        by_cases c3 : rd x1 j = cl
        · rw [if_pos c3]
          cases pr with
          | true =>
            obtain ⟨k, rfl⟩ : ∃ m, k = m + 1 := ⟨k - 1, by omega⟩
            have := j5_t VA VO x1 op cl pre ind tabs hc k x0 j nl n g1 c1 ht (by omega) g3 g4 (by omega)
            rw [if_pos rfl]
            split
            · rw [pObj.j4, if_neg (by decide)]; exact this
            · rw [pObj.j4, if_neg (by decide)]; exact this
          | false =>
            rw [if_neg (by decide), if_pos (by omega), w64p (x := j + 1) (by omega) (by omega)]
            refine ⟨_, rfl, ?_⟩
            have : (x0 ++ [cl]).length = x0.length + 1 := by rw [List.length_append]; rfl
            unfold PostL
            simp only
            omega
        · rw [if_neg c3]
          split
          · exact j6_t VA VO x1 op cl pr wd pre ind tabs mx hc hop hA k x0 j nl n true g1 c1 (by omega) ht (by omega) (by omega) hL g3 g4 (by omega)
          · exact j6_t VA VO x1 op cl pr wd pre ind tabs mx hc hop hA k x0 j nl n _ g1 c1 (by omega) ht (by omega) (by omega) hL g3 g4 (by omega)
    · rw [if_neg c1]
      refine ⟨_, rfl, ?_⟩
      unfold PostL
      simp only
      omega

theorem j1_t (hc : Ctx x1 pre ind) (hop : op = 91 ∨ op = 123) {T : Int} (hA : TotA VA x1 T) (k : Nat) (x0 : List Int) (i nl : Int) (hi : 0 ≤ i) (hi1 : i < x1.length) (ht : 0 ≤ tabs) (ht1 : tabs ≤ i) (hT : 3 * ((x1.length : Int) - i) ≤ T) (hR : RoomA x1 x0 i) (hk : 32 * ((x1.length : Int) + 8 - i) + 8295 ≤ k) :
    ∃ r, pObj.j1 VA VO k x0 x1 i op cl pr wd pre ind tabs nl mx = some r ∧ Post x1 x0 i r ∧ PostS x1 x0 i r ∧ x0.length < r.1.length := by
  have hLn := hc.L
  unfold RoomA at hR
  obtain ⟨k, rfl⟩ : ∃ m, k = m + 2 := ⟨k - 2, by omega⟩
  have e : (x0 ++ [op]).length = x0.length + 1 := by rw [List.length_append]; rfl
  obtain ⟨⟨q1, q2, q3, q4⟩, hq, hq1, hq2, hq3, hq4⟩ := l0_t VA VO x1 op cl pr wd pre ind tabs mx hc hop hA (i + 1) ht (by omega) (by omega) ((x1.length : Int) + 5 - (i + 1)).toNat (i + 1) (by omega) (by omega) k (x0 ++ [op]) (i + 1) nl 0 (by omega) (by omega) (by omega) (by omega) (by unfold Room; omega) (by omega)
  refine ⟨(q1, q2, q3, q4), ?_, ?_⟩
  · rw [pObj.j1, if_pos (by omega), Option.bind_some, w64p (x := i + 1) (by omega) (by omega)]
    split
    · rw [pObj.j2, if_neg (by decide)]; exact hq
    · rw [pObj.j2, if_neg (by decide)]; exact hq
  · simp only at hq1 hq2 hq3 hq4
    unfold Post PostS
    simp only
    omega
end

theorem obj_t (VA : H_pAny) (VO : H_pObj) (x1 : List Int) {T : Int} (hA : TotA VA x1 T) (hO : TotO VO x1 T) (k : Nat) (x0 : List Int) (i op cl : Int) (pr : Bool) (wd : Int) (pre ind : ByteArray) (tabs nl mx : Int) (hc : Ctx x1 pre ind) (hop : op = 91 ∨ op = 123) (hi : 0 ≤ i) (hi1 : i < x1.length) (ht : 0 ≤ tabs) (ht1 : tabs ≤ i)
    (hR : RoomA x1 x0 i) (hT : 3 * ((x1.length : Int) - i) + (if pr = true then 2 else 1) ≤ T + 1) (hk : 32 * ((x1.length : Int) + 8 - i) + (if pr = true then 8306 else 8302) ≤ k) :
    ∃ r, pObj.f VA VO k x0 x1 i op cl pr wd pre ind false tabs nl mx = some r ∧ Post x1 x0 i r ∧ ((PostS x1 x0 i r ∧ x0.length < r.1.length) ∨ (r.2.2.2 = false ∧ mx ≠ -1 ∧ op = 123)) := by
  have hLn := hc.L
  have hR' := hR
  unfold RoomA at hR'
  have hk8 : 32 * ((x1.length : Int) + 8 - i) + 8302 ≤ k := by split at hk <;> omega
  have hT1 : 3 * ((x1.length : Int) - i) ≤ T := by split at hT <;> omega
  have one : ∀ (m : Nat), k ≤ m + 5 → ∃ r, pObj.j1 VA VO m x0 x1 i op cl pr wd pre ind tabs nl mx = some r ∧ Post x1 x0 i r ∧ ((PostS x1 x0 i r ∧ x0.length < r.1.length) ∨ (r.2.2.2 = false ∧ mx ≠ -1 ∧ op = 123)) := by
    intro m hm
    obtain ⟨r, h1, h2, h3, h4⟩ := j1_t VA VO x1 op cl pr wd pre ind tabs mx hc hop hA m x0 i nl hi hi1 ht ht1 hT1 hR (by omega)
    exact ⟨r, h1, h2, .inl ⟨h3, h4⟩⟩
  have zero_no : ∃ r, pObj.j0 VA VO k x0 x1 i op cl pr wd pre ind tabs nl mx false = some r ∧ Post x1 x0 i r ∧ ((PostS x1 x0 i r ∧ x0.length < r.1.length) ∨ (r.2.2.2 = false ∧ mx ≠ -1 ∧ op = 123)) := by
    obtain ⟨k, rfl⟩ : ∃ m, k = m + 1 := ⟨k - 1, by omega⟩
    rw [pObj.j0, if_neg (by decide)]
    by_cases hm : mx = -1
    · rw [if_pos hm]; exact one k (by omega)
    · rw [if_neg hm]
      by_cases ho : op = 123
      · rw [if_pos ho]
        refine ⟨_, rfl, ?_, .inr ⟨rfl, hm, ho⟩⟩
        unfold Post
        simp only
        omega
      · rw [if_neg ho]; exact one k (by omega)
  unfold pObj.f
  by_cases h0 : wd > 0
  · rw [if_pos h0]
    cases pr with
    | false => rw [if_neg (by decide)]; exact zero_no
    | true =>
      rw [if_pos rfl]
      by_cases ho : op = 91
      · rw [if_pos ho]
        by_cases hm : mx = -1
        · rw [show (mx == (-1)) = true from by rw [hm]; rfl]
          rw [if_pos rfl] at hT hk
          obtain ⟨k, rfl⟩ : ∃ m, k = m + 1 := ⟨k - 1, by omega⟩
          rw [pObj.j0, if_pos rfl]
          split
          · rename_i hmax
            have hc0 : Ctx x1 pre ⟨#[]⟩ := ⟨hc.L, hc.p, by decide⟩
            obtain ⟨⟨r1, r2, r3, r4⟩, hr, hp, hs⟩ := hO k x0 i 91 93 false wd pre ⟨#[]⟩ 0 0 _ hc0 (.inl rfl) hi hi1 (by omega) hi hR (by rw [if_neg (by decide)]; omega) (by rw [if_neg (by decide)]; omega)
            rw [hr]
            simp only [Option.bind_some]
            have hs : PostS x1 x0 i (r1, r2, r3, r4) ∧ x0.length < r1.length := by
              rcases hs with hs | hs
              · exact hs
              · exact absurd hs.2.2 (by decide)
            have back : ∃ r, (if 0 ≤ (x0.length : Int) then (if (x0.length : Int) ≤ (r1.length : Int) then (pObj.j1 VA VO k (r1.take ((x0.length : Int) : Int).toNat) x1 i op cl true wd pre ind tabs nl mx) else (none)) else (none)) = some r ∧ Post x1 x0 i r ∧ ((PostS x1 x0 i r ∧ x0.length < r.1.length) ∨ (r.2.2.2 = false ∧ mx ≠ -1 ∧ op = 123)) := by
              rw [if_pos (by omega), if_pos (by omega)]
              have e : (r1.take ((x0.length : Int)).toNat).length = x0.length := by rw [List.length_take]; omega
              obtain ⟨r, h1, h2, h3, h4⟩ := j1_t VA VO x1 op cl true wd pre ind tabs mx hc hop hA k (r1.take ((x0.length : Int)).toNat) i nl hi hi1 ht ht1 hT1 (by unfold RoomA; omega) (by omega)
              unfold Post at h2
              unfold PostS at h3
              refine ⟨r, h1, ?_, .inl ⟨?_, by omega⟩⟩
              · unfold Post; omega
              · unfold PostS; omega
            cases r4 with
            | false => rw [if_neg (by decide)]; exact back
            | true =>
              rw [if_pos rfl]
              split
              · unfold Post at hp
                unfold PostS at hs
                simp only at hp hs
                refine ⟨_, rfl, ?_, .inl ⟨?_, hs.2⟩⟩
                · unfold Post; simp only; omega
                · unfold PostS; simp only; omega
              · exact back
          · exact one k (by omega)
        · rw [show (mx == (-1)) = false from by rw [beq_eq_false_iff_ne]; exact hm]
          exact zero_no
      · rw [if_neg ho]; exact zero_no
  · rw [if_neg h0]; exact one k (by omega)

end Go.Proofs.Ytkbeiidjagodnaa.Pr

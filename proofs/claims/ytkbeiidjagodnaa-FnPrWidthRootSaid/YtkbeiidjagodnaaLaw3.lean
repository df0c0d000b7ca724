/- pretty's printing ends on every text of at most 4096 bytes, and says something of a text that begins with a value: plain Lean. -/
import Derived.Test.YtkbeiidjagodnaaLaw1
import Derived.Test.YtkbeiidjagodnaaPrx8e
import Derived.Test.YtkbeiidjagodnaaHand3
import Derived.Test.YtkbeiidjagodnaaLaw2
import Derived.Test.YtkbeiidjagodnaaHand2
import Derived.Lib.Strings
namespace Go.Proofs.Ytkbeiidjagodnaa.Pr
open Go.RowKit Go.Proofs.YtkbeiidjagodnaaW.PrintWords Go.Proofs.YtkbeiidjagodnaaW.PrintLast Go.Proofs.YtkbeiidjagodnaaW.PrintMore
set_option linter.unusedVariables false

theorem nan_t (xs : List Int) (h : 0 < xs.length) : ∃ b, pretty_isNaNOrInf.f xs = some b := by
  unfold pretty_isNaNOrInf.f
  rw [if_pos (by omega)]
  repeat' split
  all_goals first | exact ⟨_, rfl⟩ | (exfalso; omega)

/-- The post of Any, without the fuel. -/
def AnyPost (x1 x0 : List Int) (i mx : Int) (r : Res) : Prop := Post x1 x0 i r ∧ (i < x1.length → rd x1 i > 32 → PostS x1 x0 i r ∨ (r.2.2.2 = false ∧ mx ≠ -1)) ∧ (mx = -1 → Starts x1 i → x0.length < r.1.length)

theorem any_l0 (VO : H_pObj) (x1 : List Int) {T : Int} (hO : TotO VO x1 T) (x0 : List Int) (pr : Bool) (wd : Int) (pre ind : ByteArray) (tabs nl mx : Int) (hc : Ctx x1 pre ind) (ht : 0 ≤ tabs) (d : Nat) :
    ∀ (k : Nat) (i : Int), 0 ≤ i → i ≤ x1.length → tabs ≤ i → RoomA x1 x0 i → 3 * ((x1.length : Int) - i) + 3 ≤ T + 1 → 32 * ((x1.length : Int) + 8 - i) + 8310 ≤ k → (x1.length : Int) - i = d →
    ∃ r, pAny.l0 VO k x0 x1 i pr wd pre ind tabs nl mx = some r ∧ AnyPost x1 x0 i mx r := by
  have hLn := hc.L
  induction d with
  | zero =>
    intro k i hi hi1 ht1 hR hT hk hd
    obtain ⟨k, rfl⟩ : ∃ m, k = m + 1 := ⟨k - 1, by omega⟩
    rw [pAny.l0, if_neg (by omega)]
    refine ⟨_, rfl, ?_, fun h => by omega, fun _ h => ?_⟩
    · unfold Post; simp only; omega
    · obtain ⟨q, h1, h2, _⟩ := h; omega
  | succ d ih =>
    intro k i hi hi1 ht1 hR hT hk hd
    have hR' := hR
    unfold RoomA at hR'
    obtain ⟨k, rfl⟩ : ∃ m, k = m + 2 := ⟨k - 2, by omega⟩
    have hlt : i < (x1.length : Int) := by omega
    -- on with the next byte
    have skip : ∀ (m : Nat), k ≤ m + 3 → (rd x1 i ≤ 32 ∨ ¬ IsStart (rd x1 i)) → ∃ r, pAny.l0 VO m x0 x1 (wrap64 (i + 1)) pr wd pre ind tabs nl mx = some r ∧ AnyPost x1 x0 i mx r := by
      intro m hm hns
      rw [w64p (x := i + 1) (by omega) (by omega)]
      obtain ⟨⟨r1, r2, r3, r4⟩, hr, hp, hs, hst⟩ := ih m (i + 1) (by omega) (by omega) (by omega) (by unfold RoomA; omega) (by omega) (by omega) (by omega)
      refine ⟨_, hr, ?_, fun _ _ => .inl ?_, fun h1 h2 => hst h1 ?_⟩
      · unfold Post at hp ⊢; simp only at hp ⊢; omega
      · unfold Post at hp; unfold PostS; simp only at hp ⊢; omega
      · have hh := h2
        obtain ⟨q, g1, g2, g3, g4⟩ := h2
        have : q ≠ i := by
          rintro rfl
          rcases hns with h | h
          · unfold IsStart at g4; omega
          · exact h g4
        exact ⟨q, by omega, g2, fun p h3 h4 => g3 p (by omega) h4, g4⟩
    -- what is copied out of the text
    have copy : ∀ (j : Int), i + 1 ≤ j → j ≤ x1.length → ∃ r : Res, (some (x0 ++ seg x1 i j, j, nl, true)) = some r ∧ AnyPost x1 x0 i mx r := by
      intro j h1 h2
      have e : (x0 ++ seg x1 i j).length = x0.length + (seg x1 i j).length := List.length_append
      have hl := seg_len x1 i j hi (by omega) h2
      refine ⟨_, rfl, ?_, fun _ _ => .inl ?_, fun _ _ => ?_⟩
      · unfold Post; simp only; omega
      · unfold PostS; simp only; omega
      · simp only; omega
    have word : ∀ (w : List Int) (n : Int), (w.length : Int) = n → 1 ≤ n → n ≤ 5 → ∃ r : Res, (if x0.length + w.length < 140737488355328 then (some ((x0 ++ w), wrap64 (i + n), nl, true)) else (none)) = some r ∧ AnyPost x1 x0 i mx r := by
      intro w n h1 h2 h3
      have e : (x0 ++ w).length = x0.length + w.length := List.length_append
      rw [if_pos (by omega), w64p (x := i + n) (by omega) (by omega)]
      refine ⟨_, rfl, ?_, fun _ _ => .inl ?_, fun _ _ => ?_⟩
      · unfold Post; simp only; omega
      · unfold PostS; simp only; omega
      · simp only; omega
    have obj : ∀ (m : Nat) (op cl : Int), k ≤ m + 1 → (op = 91 ∨ op = 123) → ∃ r : Res, ((VO.f m x0 x1 i op cl pr wd pre ind false tabs nl mx).bind fun bt511 => (some (bt511.1, bt511.2.1, bt511.2.2.1, bt511.2.2.2))) = some r ∧ AnyPost x1 x0 i mx r := by
      intro m op cl hm ho
      obtain ⟨⟨r1, r2, r3, r4⟩, hr, hp, hs⟩ := hO m x0 i op cl pr wd pre ind tabs nl mx hc ho hi hlt ht ht1 hR (by split <;> omega) (by split <;> omega)
      rw [hr]
      refine ⟨_, rfl, hp, fun _ _ => ?_, fun h1 _ => ?_⟩
      · rcases hs with hs | hs
        · exact .inl hs.1
        · exact .inr ⟨hs.1, hs.2.1⟩
      · rcases hs with hs | hs
        · exact hs.2
        · exact absurd h1 hs.2.1
    have num : ∀ (m : Nat), k ≤ m + 1 → ∃ r : Res, ((pretty_appendPrettyNumber.f m x0 x1 i nl).bind fun bt504 => (some (bt504.1, bt504.2.1, bt504.2.2.1, bt504.2.2.2))) = some r ∧ AnyPost x1 x0 i mx r := by
      intro m hm
      obtain ⟨j, hj, g1, g2, _⟩ := num_tot x0 x1 m nl i hi hlt (by omega) (by omega) (by omega)
      rw [hj, Option.bind_some]
      exact copy j g1 g2
    rw [pAny.l0, if_pos hlt, if_pos hi]
    by_cases c1 : rd x1 i ≤ 32
    · rw [if_pos c1]; exact skip (k + 1) (by omega) (.inl c1)
    · rw [if_neg c1]
      by_cases c2 : rd x1 i = 34
      · rw [if_pos c2]
        obtain ⟨j, hj, g1, g2, _⟩ := str_tot x0 x1 (k + 1) nl i hi hlt (by omega) (by omega) (by omega)
        rw [hj, Option.bind_some]
        exact copy j g1 g2
      · rw [if_neg c2]
        have yes : ∃ r, pAny.j1 VO (k + 1) x0 x1 i pr wd pre ind tabs nl mx true = some r ∧ AnyPost x1 x0 i mx r := by
          rw [pAny.j1, if_pos rfl]; exact num k (by omega)
        have no : ¬ (48 ≤ rd x1 i ∧ rd x1 i ≤ 57) → rd x1 i ≠ 45 → ∃ r, pAny.j1 VO (k + 1) x0 x1 i pr wd pre ind tabs nl mx false = some r ∧ AnyPost x1 x0 i mx r := by
          intro n1 n2
          rw [pAny.j1, if_neg (by decide), if_pos hi, if_pos hlt]
          by_cases a1 : rd x1 i = 123
          · rw [if_pos a1]; exact obj k 123 125 (by omega) (.inr rfl)
          · rw [if_neg a1]
            by_cases a2 : rd x1 i = 91
            · rw [if_pos a2]; exact obj k 91 93 (by omega) (.inl rfl)
            · rw [if_neg a2]
              by_cases a3 : rd x1 i = 116
              · rw [if_pos a3, Option.bind_some]; exact word _ 4 rfl (by decide) (by decide)
              · rw [if_neg a3]
                by_cases a4 : rd x1 i = 102
                · rw [if_pos a4, Option.bind_some]; exact word _ 5 rfl (by decide) (by decide)
                · rw [if_neg a4]
                  by_cases a5 : rd x1 i = 110
                  · rw [if_pos a5, Option.bind_some]; exact word _ 4 rfl (by decide) (by decide)
                  · rw [if_neg a5]
                    refine skip k (by omega) (.inr ?_)
                    unfold IsStart
                    omega
        have nan : ¬ (48 ≤ rd x1 i ∧ rd x1 i ≤ 57) → rd x1 i ≠ 45 → ∃ r, (if i ≤ (x1.length : Int) then ((pretty_isNaNOrInf.f (x1.drop (i : Int).toNat)).bind fun t496 => (pAny.j1 VO (k + 1) x0 x1 i pr wd pre ind tabs nl mx t496)) else (none)) = some r ∧ AnyPost x1 x0 i mx r := by
          intro n1 n2
          obtain ⟨b, hb⟩ := nan_t (x1.drop i.toNat) (by rw [List.length_drop]; omega)
          rw [if_pos (by omega), hb, Option.bind_some]
          cases b with
          | true => exact yes
          | false => exact no n1 n2
        by_cases c3 : rd x1 i ≥ 48
        · rw [if_pos c3]
          by_cases c4 : rd x1 i ≤ 57
          · rw [if_pos c4]; exact yes
          · rw [if_neg c4, if_neg (by omega)]; exact nan (by omega) (by omega)
        · rw [if_neg c3]
          by_cases c5 : rd x1 i = 45
          · rw [if_pos c5]; exact yes
          · rw [if_neg c5]; exact nan (by omega) c5

theorem knot_tot (x1 : List Int) : ∀ D : Nat, TotA (pAny.at_ D) x1 D ∧ TotO (pObj.at_ D) x1 D
  | 0 => ⟨fun k x0 i pr wd pre ind tabs nl mx hc hi hi1 ht ht1 hR hT hk => by omega, fun k x0 i op cl pr wd pre ind tabs nl mx hc ho hi hi1 ht ht1 hR hT hk => by split at hT <;> omega⟩
  | D + 1 => by
    obtain ⟨hA, hO⟩ := knot_tot x1 D
    refine ⟨fun k x0 i pr wd pre ind tabs nl mx hc hi hi1 ht ht1 hR hT hk => ?_, fun k x0 i op cl pr wd pre ind tabs nl mx hc ho hi hi1 ht ht1 hR hT hk => ?_⟩
    · exact any_l0 (pObj.at_ D) x1 hO x0 pr wd pre ind tabs nl mx hc ht ((x1.length : Int) - i).toNat k i hi hi1 ht1 hR (by omega) hk (by omega)
    · exact obj_t (pAny.at_ D) (pObj.at_ D) x1 hA hO k x0 i op cl pr wd pre ind tabs nl mx hc ho hi hi1 ht ht1 hR (by omega) hk

/-- PrettyOptions answers on every text of at most 4096 bytes; of a text that begins with a value it makes a text that is not empty and ends with a line feed. -/
theorem popts_tot (x1 : List Int) (wd : Int) (pre ind : ByteArray) (hc : Ctx x1 pre ind) : ∃ r, popts (pAny.at_ 20000) 200000 x1 wd pre ind = some r ∧ (Starts x1 0 → ∃ y, y ≠ [] ∧ r = y ++ [10]) := by
  have hL := hc.L
  have hp := hc.p
  unfold popts
  rw [if_pos (by omega)]
  obtain ⟨⟨r1, r2, r3, r4⟩, hr, hpo, _, hst⟩ := (knot_tot x1 20000).1 200000 (bytesOf pre) 0 true wd pre ind 0 0 (-1) hc (by omega) (by omega) (by omega) (by omega) (by unfold RoomA; rw [bytesOf_length]; omega) (by omega) (by omega)
  rw [hr, Option.bind_some]
  have e := bytesOf_length pre
  unfold Post at hpo
  simp only at hpo hst ⊢
  rw [if_pos (by omega)]
  refine ⟨_, rfl, fun h => ?_⟩
  have := hst trivial h
  rw [if_pos (by omega)]
  exact ⟨r1, by rintro rfl; simp at this, rfl⟩
end Go.Proofs.Ytkbeiidjagodnaa.Pr
/- A JSON text, for the reader, begins with a byte that begins a value: plain Lean. -/
namespace Go.Proofs.Ytkbeiidjagodnaa.Pr
open Go.RowKit Go.Proofs.YtkbeiidjagodnaaW.PrintWords Go.Proofs.YtkbeiidjagodnaaW.PrintLast Go.Proofs.YtkbeiidjagodnaaW.PrintMore
set_option linter.unusedVariables false

theorem word_seg (s w : ByteArray) (i : Int) (h0 : 0 ≤ i) (h : (s.extract i.toNat (i + w.size).toNat).toList = w.toList) : seg (bytesOf s) i (i + w.size) = bytesOf w := by
  rw [Go.Lib.extract_toList, Go.Lib.toList_data] at h
  unfold seg bytesOf
  rw [List.drop_take, ← List.map_drop, ← List.map_take, h]
theorem seg_rd (x : List Int) (i j p : Int) (h0 : 0 ≤ i) (h1 : 0 ≤ p) (h2 : i + p < j) (h3 : j ≤ x.length) : rd (seg x i j) p = rd x (i + p) := by
  unfold seg rd
  rw [List.drop_take, List.getD_eq_getElem?_getD, List.getElem?_take, List.getElem?_drop, if_pos (by omega), List.getD_eq_getElem?_getD]
  congr 3
  omega
theorem word_first (s w : ByteArray) (i : Int) (h0 : 0 ≤ i) (hw : 0 < w.size) (h1 : i + w.size ≤ s.size) (h : (s.extract i.toNat (i + w.size).toNat).toList = w.toList) : bt s i = bt w 0 := by
  have e := word_seg s w i h0 h
  have e1 := seg_rd (bytesOf s) i (i + w.size) 0 h0 (by omega) (by omega) (by rw [bytesOf_length]; omega)
  rw [e, rd_bytesOf, rd_bytesOf] at e1
  rw [e1, show i + 0 = i by omega]

theorem value0_start (M : H_spec_reader_members) (E : H_spec_reader_elements) (s : ByteArray) (hn : Small s) (k : Nat) (i x2 x3 x4 : Int) (h0 : 0 ≤ i) (h1 : i ≤ s.size) (kd q j : Int) (ns : List S53) (ks : List S25) (s' : ByteArray) (j' : Int)
    (h : spec_reader_value.j0 M E k true false s i x2 x3 x4 = some (kd, q, j, ns, ks, true, s', j')) : bt s i = 110 ∨ bt s i = 102 ∨ bt s i = 116 := by
  cases k with
  | zero => simp [spec_reader_value.j0] at h
  | succ k =>
    rw [spec_reader_value.j0, if_neg (by decide)] at h
    obtain ⟨b1, j1, e1, h2, h3, h4⟩ := word_tot s hn i h0 h1 ⟨#[110, 117, 108, 108]⟩ (by decide)
    rw [e1] at h
    simp only [Option.bind_some] at h
    cases b1 with
    | true =>
      obtain ⟨g1, g2⟩ := h3 rfl
      exact .inl ((word_first s _ i h0 (by decide) (by omega) g2).trans (by decide))
    | false =>
      rw [if_neg (by decide)] at h
      obtain rfl := h4 rfl
      obtain ⟨b1, j2, e1, h2, h3, h4⟩ := word_tot s hn j1 h0 h1 ⟨#[102, 97, 108, 115, 101]⟩ (by decide)
      rw [e1] at h
      simp only [Option.bind_some] at h
      cases b1 with
      | true =>
        obtain ⟨g1, g2⟩ := h3 rfl
        exact .inr (.inl ((word_first s _ j1 h0 (by decide) (by omega) g2).trans (by decide)))
      | false =>
        rw [if_neg (by decide)] at h
        obtain rfl := h4 rfl
        obtain ⟨b1, j3, e1, h2, h3, h4⟩ := word_tot s hn j2 h0 h1 ⟨#[116, 114, 117, 101]⟩ (by decide)
        rw [e1] at h
        simp only [Option.bind_some] at h
        cases b1 with
        | true =>
          obtain ⟨g1, g2⟩ := h3 rfl
          exact .inr (.inr ((word_first s _ j2 h0 (by decide) (by omega) g2).trans (by decide)))
        | false =>
          rw [if_neg (by decide)] at h
          simp at h

theorem value_start (M : H_spec_reader_members) (E : H_spec_reader_elements) (s : ByteArray) (hn : Small s) (k : Nat) (i : Int) (h0 : 0 ≤ i) (h1 : i < s.size) (kd q j : Int) (ns : List S53) (ks : List S25) (s' : ByteArray) (j' : Int)
    (h : spec_reader_value.f M E k s i = some (kd, q, j, ns, ks, true, s', j')) : IsStart (bt s i) := by
  unfold spec_reader_value.f at h
  rw [here_eq s i h0, at0_at h1] at h
  simp only [Option.bind_some] at h
  unfold IsStart
  by_cases c1 : bt s i = 123
  · omega
  · rw [if_neg c1] at h
    by_cases c2 : bt s i = 91
    · omega
    · rw [if_neg c2] at h
      by_cases c3 : bt s i = 34
      · omega
      · rw [if_neg c3] at h
        by_cases c4 : bt s i = 45
        · omega
        · rw [if_neg c4] at h
          by_cases c5 : 48 ≤ bt s i
          · rw [if_pos c5] at h
            by_cases c6 : bt s i ≤ 57
            · omega
            · rw [decide_eq_false c6] at h
              have := value0_start M E s hn k i 0 i 0 h0 (by omega) kd q j ns ks s' j' h
              omega
          · rw [if_neg c5] at h
            have := value0_start M E s hn k i 0 i 0 h0 (by omega) kd q j ns ks s' j' h
            omega

theorem isBlank_le {c : Int} (h : isBlank c) : c ≤ 32 := by unfold isBlank at h; omega

/-- The reader ends on every text of at most 2^20 bytes; if it is a JSON text, its first byte that is no blank begins a value. -/
theorem places_tot (s : ByteArray) (hn : Small s) : ∃ r1 r2 r3 r4 r5 r6, places (spec_reader_value.at_ 2100000) 1050000 s = some (r1, r2, r3, r4, r5, r6) ∧ (r6 = true → Starts (bytesOf s) 0) := by
  have hn' : s.size ≤ 1048576 := hn
  obtain ⟨j, hj, g1, g2, g3, g4⟩ := blanks_tot s hn s.size 1050000 0 (by omega) (by omega) (by omega) (by omega)
  obtain ⟨kd, ns, ks, ok, j1, hv, g5, g6, g7⟩ := (reader_tots hn 2100000).1 1050000 j (by omega) g2 (by omega) (by omega)
  unfold places
  rw [hj]
  simp only [Option.bind_some]
  rw [hv]
  simp only [Option.bind_some]
  cases ok with
  | false => rw [if_neg (by decide)]; exact ⟨_, _, _, _, _, _, rfl, fun h => by cases h⟩
  | true =>
    rw [if_pos rfl]
    obtain ⟨j2, hj2, _, _⟩ := blanks_t s hn 1050000 j1 (by omega) g6 (by omega)
    rw [hj2]
    simp only [Option.bind_some]
    have hst : Starts (bytesOf s) 0 := by
      have h1 := g7 rfl
      refine ⟨j, g1, by rw [bytesOf_length]; omega, fun p h2 h3 => by rw [rd_bytesOf]; exact isBlank_le (g3 p h2 h3), ?_⟩
      rw [rd_bytesOf]
      exact value_start (spec_reader_members.at_ 2099999) (spec_reader_elements.at_ 2099999) s hn 1050000 j (by omega) (by omega) _ _ _ _ _ _ _ hv
    split
    · exact ⟨_, _, _, _, _, _, rfl, fun _ => hst⟩
    · exact ⟨_, _, _, _, _, _, rfl, fun h => by cases h⟩

theorem prPlacesF_tot (s : ByteArray) : ∃ r1 r2 r3 r4 r5 r6, prPlacesF (spec_reader_value.at_ 2100000) 1050000 s = some (r1, r2, r3, r4, r5, r6) ∧ (r6 = true → s.size ≤ 4096 ∧ Starts (bytesOf s) 0) := by
  unfold prPlacesF
  by_cases h : s.size ≤ 4096
  · rw [if_pos h]
    obtain ⟨r1, r2, r3, r4, r5, r6, e, h1⟩ := places_tot s (by unfold Small; omega)
    exact ⟨r1, r2, r3, r4, r5, r6, e, fun e => ⟨h, h1 e⟩⟩
  · rw [if_neg h]; exact ⟨_, _, _, _, _, _, rfl, fun h => by cases h⟩
end Go.Proofs.Ytkbeiidjagodnaa.Pr

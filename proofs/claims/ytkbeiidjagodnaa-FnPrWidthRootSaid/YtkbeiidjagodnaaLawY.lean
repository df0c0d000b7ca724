/- What pretty makes of a flat array in lines, and as a whole: plain Lean. -/
import Derived.Test.YtkbeiidjagodnaaLawX
namespace Go.Proofs.Ytkbeiidjagodnaa.Pr
open Go.RowKit Go.Proofs.YtkbeiidjagodnaaW.PrintWords Go.Proofs.YtkbeiidjagodnaaW.PrintLast Go.Proofs.YtkbeiidjagodnaaW.PrintMore
set_option linter.unusedVariables false

theorem lastx (b : List Int) (c : Int) : rd (b ++ [c]) (((b ++ [c]).length : Int) - 1) = c := by
  unfold rd
  rw [List.length_append, List.length_singleton, show (((b.length + 1 : Nat) : Int) - 1).toNat = b.length by omega, List.getD_eq_getElem?_getD, List.getElem?_append_right (Nat.le_refl _), Nat.sub_self]
  rfl
theorem setx (b : List Int) (c d : Int) : (b ++ [c]).set (((b ++ [c]).length : Int) - 1).toNat d = b ++ [d] := by
  rw [List.length_append, List.length_singleton, show (((b.length + 1 : Nat) : Int) - 1).toNat = b.length by omega, List.set_append_right _ _ (Nat.le_refl _), Nat.sub_self]
  rfl
/-- No indent, and one. -/
theorem tabs_j0x {ind : ByteArray} {k : Nat} {y r : List Int} {t : Int} (ht : t = 0 ∨ t = 1) (h : pretty_appendTabs.j0 k y ind t = some r) : r = y ++ (if t = 1 then bytesOf ind else []) := by
  have l1 : ∀ (k : Nat) (x r : List Int) (i : Int), pretty_appendTabs.l1 k x ind t i = some r → (i = t → r = x) ∧ (i = 0 → r = x ++ (if t = 1 then bytesOf ind else [])) := by
    have e : ∀ (k : Nat) (x r : List Int) (i : Int), pretty_appendTabs.l1 k x ind t i = some r → i = t → r = x := by
      intro k x r i h e
      cases k with
      | zero => simp [pretty_appendTabs.l1] at h
      | succ k => rw [pretty_appendTabs.l1, if_neg (by omega)] at h; simp only [Option.some.injEq] at h; exact h.symm
    intro k x r i h
    refine ⟨e k x r i h, fun h0 => ?_⟩
    subst h0
    rcases ht with ht | ht
    · rw [if_neg (by omega), List.append_nil]; exact e k x r 0 h ht.symm
    · cases k with
      | zero => simp [pretty_appendTabs.l1] at h
      | succ k =>
        rw [pretty_appendTabs.l1, if_pos (by omega)] at h
        obtain ⟨_, h⟩ := ite_some h
        rw [if_pos ht]
        exact e k _ r _ h (by rw [w64p (by omega) (by omega)]; omega)
  have l0 : ∀ (k : Nat) (x r : List Int) (i : Int), bytesOf ind = [32, 32] → pretty_appendTabs.l0 k x t i = some r → (i = 0 → r = x ++ (if t = 1 then bytesOf ind else [])) := by
    have e : ∀ (k : Nat) (x r : List Int) (i : Int), pretty_appendTabs.l0 k x t i = some r → i = t → r = x := by
      intro k x r i h e
      cases k with
      | zero => simp [pretty_appendTabs.l0] at h
      | succ k => rw [pretty_appendTabs.l0, if_neg (by omega)] at h; simp only [Option.some.injEq] at h; exact h.symm
    intro k x r i hb h h0
    subst h0
    rcases ht with ht | ht
    · rw [if_neg (by omega), List.append_nil]; exact e k x r 0 h ht.symm
    · cases k with
      | zero => simp [pretty_appendTabs.l0] at h
      | succ k =>
        rw [pretty_appendTabs.l0, if_pos (by omega), Option.bind_some] at h
        obtain ⟨_, h⟩ := ite_some h
        rw [if_pos ht, hb]
        exact e k _ r _ h (by rw [w64p (by omega) (by omega)]; omega)
  have j1 : ∀ (k : Nat) (b : Bool), (b = true → bytesOf ind = [32, 32]) → pretty_appendTabs.j1 k y ind t b = some r → r = y ++ (if t = 1 then bytesOf ind else []) := by
    intro k b hb h
    cases k with
    | zero => simp [pretty_appendTabs.j1] at h
    | succ k =>
      rw [pretty_appendTabs.j1] at h
      cases b with
      | true => rw [if_pos rfl] at h; exact l0 k y r 0 (hb rfl) h rfl
      | false => rw [if_neg (by decide)] at h; exact (l1 k y r 0 h).2 rfl
  cases k with
  | zero => simp [pretty_appendTabs.j0] at h
  | succ k =>
    rw [pretty_appendTabs.j0] at h
    by_cases c : (ind.size : Int) = 2
    · rw [if_pos c] at h
      obtain ⟨_, h⟩ := ite_some h
      by_cases c0 : bt ind 0 = 32
      · rw [if_pos c0] at h
        obtain ⟨_, h⟩ := ite_some h
        exact j1 k _ (fun e => two_blanks (by omega) c0 (beq_iff_eq.mp e)) h
      · rw [if_neg c0] at h; exact j1 k _ (fun e => by cases e) h
    · rw [if_neg c] at h; exact j1 k _ (fun e => by cases e) h
theorem tabs_x {pre ind : ByteArray} {k : Nat} {y r : List Int} {t : Int} (ht : t = 0 ∨ t = 1) (h : pretty_appendTabs.f k y pre ind t = some r) : r = y ++ bytesOf pre ++ (if t = 1 then bytesOf ind else []) := by
  unfold pretty_appendTabs.f at h
  by_cases c : (pre.size : Int) = 0
  · rw [if_pos c] at h
    have : bytesOf pre = [] := List.length_eq_zero_iff.mp (by rw [bytesOf_length]; omega)
    rw [this, List.append_nil]
    exact tabs_j0x ht h
  · rw [if_neg c] at h
    obtain ⟨_, h⟩ := ite_some h
    exact tabs_j0x ht h

section
variable {VA : H_pAny} {VO : H_pObj} {x : List Int} {wd : Int} {pre ind : ByteArray} {nl : Int}
theorem j7_x {k : Nat} {b : List Int} {c q n : Int} {r : Res} (hlen : (b ++ [c]).length ≤ 140737488355328) (h : pObj.j7 VA VO k (b ++ [c]) x q 91 93 true wd pre ind 0 nl (-1) [] n = some r) :
    ∃ k' nl', pObj.j8 VA VO k' ((if c = 32 then b else b ++ [c]) ++ lineB pre ind) x q 91 93 true wd pre ind 0 nl' (-1) [] n 0 0 0 0 = some r := by
  cases k with
  | zero => simp [pObj.j7] at h
  | succ k =>
    have hl : (b ++ [c]).length = b.length + 1 := by rw [List.length_append]; rfl
    rw [pObj.j7, if_pos rfl, w64p (x := ((b ++ [c]).length : Int) - 1) (by omega) (by omega), if_pos (by omega), if_pos (by omega), lastx, setx] at h
    have fin : ∀ z : List Int, (if (91 : Int) = 123 then ((pretty_appendTabs.f k z pre ind (wrap64 (0 + 1))).bind fun t444 => (pObj.j8 VA VO k t444 x q 91 93 true wd pre ind 0 ((b ++ [c]).length : Int) (-1) [] n 0 0 0 0)) else ((pretty_appendTabs.f k z pre ind (wrap64 (0 + 1))).bind fun t447 => (pObj.j8 VA VO k t447 x q 91 93 true wd pre ind 0 ((b ++ [c]).length : Int) (-1) [] n 0 0 0 0))) = some r →
        pObj.j8 VA VO k (z ++ bytesOf pre ++ bytesOf ind) x q 91 93 true wd pre ind 0 ((b ++ [c]).length : Int) (-1) [] n 0 0 0 0 = some r := by
      intro z h
      rw [if_neg (by decide), w64p (by omega) (by omega)] at h
      replace h := Option.bind_eq_some_iff.mp h
      obtain ⟨t, h1, h2⟩ := h
      have := tabs_x (.inr (by decide)) h1
      rw [if_pos (by decide)] at this
      rw [this] at h2
      exact h2
    by_cases hc : c = 32
    · rw [if_pos hc, Option.bind_some] at h
      refine ⟨k, ((b ++ [c]).length : Int), ?_⟩
      have := fin _ h
      rw [if_pos hc]
      simpa [lineB] using this
    · rw [if_neg hc] at h
      obtain ⟨h3, h⟩ := ite_some h
      rw [Option.bind_some] at h
      refine ⟨k, ((b ++ [c]).length : Int), ?_⟩
      have := fin _ h
      rw [if_neg hc]
      simpa [lineB] using this
theorem close_x {k : Nat} {b : List Int} {c q n : Int} {r : Res} (h0 : 0 ≤ q) (h1 : q < x.length) (hL : x.length ≤ 1000000) (hlen : (b ++ [c]).length ≤ 140737488355328) (hc : rd x q = 93) (hn : n > 0) (hc32 : c ≠ 32) (h : pObj.l0 VA VO k (b ++ [c]) x q 91 93 true wd pre ind 0 nl (-1) [] n = some r) :
    ∃ n', r = ((b ++ [c]) ++ ([10] ++ bytesOf pre ++ [93]), q + 1, n', true) := by
  have hl : (b ++ [c]).length = b.length + 1 := by rw [List.length_append]; rfl
  cases k with
  | zero => simp [pObj.l0] at h
  | succ k =>
    rw [pObj.l0, if_pos h1, if_pos h0, if_neg (by omega), if_pos hc, if_pos rfl, if_neg (by decide)] at h
    cases k with
    | zero => simp [pObj.j4] at h
    | succ k =>
      rw [pObj.j4, if_neg (by decide)] at h
      cases k with
      | zero => simp [pObj.j5] at h
      | succ k =>
        rw [pObj.j5, w64p (x := q + 1) (by omega) (by omega), w64p (x := ((b ++ [c]).length : Int) - 1) (by omega) (by omega), lastx] at h
        rw [if_pos hn, if_pos (by omega), if_pos (by omega), if_neg hc32] at h
        obtain ⟨g, h⟩ := ite_some h
        have hl2 : ((b ++ [c]) ++ [10]).length = b.length + 2 := by rw [List.length_append, hl]; rfl
        rw [Option.bind_some, w64p (by omega) (by omega), if_pos (by omega), if_pos (by omega), lastx, if_neg (by decide)] at h
        replace h := Option.bind_eq_some_iff.mp h
        obtain ⟨t, ht', h⟩ := h
        obtain ⟨g2, h⟩ := ite_some h
        simp only [Option.some.injEq] at h
        have ht := tabs_x (.inl rfl) ht'
        rw [if_neg (by decide), List.append_nil] at ht
        subst h
        exact ⟨((b ++ [c]).length : Int), by rw [ht]; simp⟩
end

/-- The printing in lines, over the elements of a flat array. -/
theorem flatP {V0 : H_spec_reader_value} {s : ByteArray} (hs : s.size ≤ 1000000) {ks : List S25} {i j : Int} (h : Kids V0 s ks i j) (hka : ∀ p ∈ ks, KA s p) :
    ∀ (D k : Nat) (buf : List Int) (wd : Int) (pre ind : ByteArray) (nl q n : Int) (r : Res), wd ≠ -1 → 0 ≤ q → q < s.size → 0 ≤ n → n ≤ q → (q = i ∨ (rd (bytesOf s) q = 44 ∧ Gap (bytesOf s) (q + 1) i)) → buf.length ≤ 140737488355328 → (∃ b c, buf = b ++ [c] ∧ c ≠ 32) →
      pObj.l0 (pAny.at_ D) (pObj.at_ D) k buf (bytesOf s) q 91 93 true wd pre ind 0 nl (-1) [] n = some r → ∃ n', r = (buf ++ (if n > 0 then tailP (bytesOf s) pre ind ks else bodyP (bytesOf s) pre ind ks) ++ ([10] ++ bytesOf pre ++ [93]), j, n', true) := by
  have hl : (bytesOf s).length = s.size := bytesOf_length s
  have step : ∀ (p : S25) (i : Int), KA s p → p.f1 = i → Stop (bytesOf s) p.f2 → ∀ (D k : Nat) (buf : List Int) (wd : Int) (pre ind : ByteArray) (nl q n : Int) (r : Res), wd ≠ -1 → 0 ≤ q → q < s.size → 0 ≤ n → n ≤ q → (q = i ∨ (rd (bytesOf s) q = 44 ∧ Gap (bytesOf s) (q + 1) i)) → buf.length ≤ 140737488355328 → (∃ b c, buf = b ++ [c] ∧ c ≠ 32) →
      pObj.l0 (pAny.at_ D) (pObj.at_ D) k buf (bytesOf s) q 91 93 true wd pre ind 0 nl (-1) [] n = some r → ∃ k' nl', (((if n > 0 then buf ++ [44] else buf) ++ lineB pre ind ++ seg (bytesOf s) p.f1 p.f2).length ≤ 140737488355328) ∧ pObj.l0 (pAny.at_ D) (pObj.at_ D) k' ((if n > 0 then buf ++ [44] else buf) ++ lineB pre ind ++ seg (bytesOf s) p.f1 p.f2) (bytesOf s) p.f2 91 93 true wd pre ind 0 nl' (-1) [] (n + 1) = some r := by
    intro p i hk hi hst D k buf wd pre ind nl q n r hw hq0 hq hn0 hn1 hto hbl hbc h
    subst hi
    have h1 := hk.lt
    have h2 := hk.le
    have hsr := hk.starts
    have hqt : q ≤ p.f1 := by rcases hto with e | ⟨_, e⟩; omega; have := e.1; omega
    have hc : 32 < rd (bytesOf s) q ∧ rd (bytesOf s) q ≠ 93 := by
      rcases hto with e | ⟨e, _⟩
      · rw [e]; exact ⟨hsr.1, hsr.2.1⟩
      · omega
    replace h := loop_elem hq0 (by omega) (by omega) hn0 hc.1 hc.2 hw h
    obtain ⟨k1, y, hy, hyl, h⟩ := h
    have hj8 : ∃ k2 nl', pObj.j8 (pAny.at_ D) (pObj.at_ D) k2 ((if n > 0 then buf ++ [44] else buf) ++ lineB pre ind) (bytesOf s) q 91 93 true wd pre ind 0 nl' (-1) [] n 0 0 0 0 = some r := by
      by_cases c : n > 0
      · rw [if_pos c] at hy ⊢
        rw [hy] at h
        have := j7_x (by rw [← hy]; exact hyl c) h
        rw [if_pos rfl] at this
        exact this
      · rw [if_neg c] at hy ⊢
        obtain ⟨b, d, e, hd⟩ := hbc
        rw [hy, e] at h
        have := j7_x (by rw [← e]; exact hbl) h
        rw [if_neg hd] at this
        rw [e]
        exact this
    obtain ⟨k2, nl', hj8⟩ := hj8
    obtain ⟨k3, v, hva, hkk⟩ := loop_j9 hq0 (by omega) (by omega) ⟨by omega, by omega⟩ hj8
    cases D with
    | zero => cases hva
    | succ D =>
      have hva' : ∃ k3, pAny.l0 (pObj.at_ D) k3 ((if n > 0 then buf ++ [44] else buf) ++ lineB pre ind) (bytesOf s) p.f1 true wd pre ind (0 + 1) nl' (-1) = some v := by
        have hva : pAny.l0 (pObj.at_ D) k3 ((if n > 0 then buf ++ [44] else buf) ++ lineB pre ind) (bytesOf s) q true wd pre ind (0 + 1) nl' (-1) = some v := hva
        rcases hto with e | ⟨e1, e2⟩
        · rw [← e]; exact ⟨k3, hva⟩
        · obtain ⟨k4, hva⟩ := any_comma hq0 (by omega) (by omega) e1 hva
          exact any_gap (by omega) (by omega) (by omega) e2 (p.f1 - (q + 1)).toNat (q + 1) (by omega) (by have := e2.1; omega) hva
      obtain ⟨k4, hva⟩ := hva'
      obtain ⟨rfl, hvl⟩ := any_kid (by omega) hk hst hva
      obtain ⟨k5, hll⟩ := hkk rfl (by dsimp only; omega) (by dsimp only; omega)
      dsimp only at hll
      rw [w64p (by omega) (by omega)] at hll
      exact ⟨k5, nl', hvl, hll⟩
  have lastc : ∀ (p : S25) (y : List Int), KA s p → ∃ b c, y ++ seg (bytesOf s) p.f1 p.f2 = b ++ [c] ∧ c ≠ 32 := by
    intro p y hk
    obtain ⟨b, c, e, hc⟩ := hk.last
    exact ⟨y ++ b, c, by rw [e, List.append_assoc], hc⟩
  induction h with
  | last p i r' h1 h2 h3 h4 h5 h6 =>
    intro D k buf wd pre ind nl q n r hw hq0 hq hn0 hn1 hto hbl hbc h
    have hk := hka p (List.mem_singleton.2 rfl)
    have := hk.lt
    have := hk.le
    have hp := h4.1
    have hqt : q ≤ p.f1 := by rcases hto with e | ⟨_, e⟩; omega; have := e.1; omega
    obtain ⟨k1, nl', hl0, hl1⟩ := step p i hk h2 (kid_stop h4 h5 (.inl h6)) D k buf wd pre ind nl q n r hw hq0 hq hn0 hn1 hto hbl hbc h
    obtain ⟨k2, hl2⟩ := loop_gap (by omega) (by omega) (r' - p.f2).toNat k1 p.f2 (by omega) h4.gap (by omega) hl1
    obtain ⟨b, c, e, hc⟩ := lastc p ((if n > 0 then buf ++ [44] else buf) ++ lineB pre ind) hk
    rw [e] at hl0 hl2
    obtain ⟨n', rfl⟩ := close_x (by omega) (by omega) (by omega) hl0 (by rw [rd_bytesOf]; exact h6) (by omega) hc hl2
    refine ⟨n', ?_⟩
    rw [← e]
    by_cases c : n > 0
    · rw [if_pos c, if_pos c]; simp [tailP]
    · rw [if_neg c, if_neg c]; simp [tailP, bodyP]
  | more p i r' t j ks h1 h2 h3 h4 h5 h6 h7 h8 ih =>
    intro D k buf wd pre ind nl q n r hw hq0 hq hn0 hn1 hto hbl hbc h
    have hk := hka p (List.mem_cons_self ..)
    have := hk.lt
    have := hk.le
    have hp := h4.1
    have hqt : q ≤ p.f1 := by rcases hto with e | ⟨_, e⟩; omega; have := e.1; omega
    obtain ⟨k1, nl', hl0, hl1⟩ := step p i hk h2 (kid_stop h4 h5 (.inr h6)) D k buf wd pre ind nl q n r hw hq0 hq hn0 hn1 hto hbl hbc h
    obtain ⟨k2, hl2⟩ := loop_gap (by omega) (by omega) (r' - p.f2).toNat k1 p.f2 (by omega) h4.gap (by omega) hl1
    obtain ⟨n', rfl⟩ := ih (fun q hq => hka q (List.mem_cons_of_mem _ hq)) D k2 _ wd pre ind nl' r' (n + 1) r hw (by omega) h5 (by omega) (by omega) (.inr ⟨by rw [rd_bytesOf]; exact h6, h7.gap⟩) hl0 (lastc p _ hk) hl2
    refine ⟨n', ?_⟩
    rw [if_pos (show n + 1 > 0 by omega)]
    by_cases c : n > 0
    · rw [if_pos c, if_pos c]; simp [tailP]
    · rw [if_neg c, if_neg c]; simp [tailP, bodyP]

/-- A flat array, as PrettyOptions is asked for it. -/
theorem flat_obj {V0 : H_spec_reader_value} {s : ByteArray} (hs : s.size ≤ 1000000) {ks : List S25} {i p j : Int} (hi0 : 0 ≤ i) (hb : bt s i = 91) (hg : Blanks s (i + 1) p) (h : Kids V0 s ks p j) (hka : ∀ p ∈ ks, KA s p) (hps : p < s.size)
    {D k : Nat} {wd : Int} {pre ind : ByteArray} {r : Res} (hw0 : 0 ≤ wd) (hw1 : wd ≤ 1073741824) (hpre : pre.size ≤ 64) (hr : (pObj.at_ D).f k (bytesOf pre) (bytesOf s) i 91 93 true wd pre ind false 0 0 (-1) = some r) :
    r.1 = bytesOf pre ++ (if wd - pre.size > 3 ∧ ((oneL (bytesOf s) ks).length : Int) ≤ wd - pre.size then oneL (bytesOf s) ks else linesL (bytesOf s) pre ind ks) := by
  have hl : (bytesOf s).length = s.size := bytesOf_length s
  have hlp : (bytesOf pre).length = pre.size := bytesOf_length pre
  have hgp := hg.1
  cases D with
  | zero => cases hr
  | succ D =>
    have hr : pObj.f (pAny.at_ D) (pObj.at_ D) k (bytesOf pre) (bytesOf s) i 91 93 true wd pre ind false 0 0 (-1) = some r := hr
    -- in lines
    have lines : ∀ k', pObj.j1 (pAny.at_ D) (pObj.at_ D) k' (bytesOf pre) (bytesOf s) i 91 93 true wd pre ind 0 0 (-1) = some r → r.1 = bytesOf pre ++ linesL (bytesOf s) pre ind ks := by
      intro k' hj1
      obtain ⟨hl91, k2, hll⟩ := obj_j1 hi0 (by omega) (by omega) hj1
      obtain ⟨k3, hll⟩ := loop_gap (by omega) (by omega) (p - (i + 1)).toNat k2 (i + 1) (by omega) hg.gap (by omega) hll
      obtain ⟨n', rfl⟩ := flatP hs h hka D k3 _ wd pre ind 0 p 0 r (by omega) (by omega) hps (by omega) (by omega) (.inl rfl) hl91 ⟨_, 91, rfl, by decide⟩ hll
      rw [if_neg (by omega)]
      simp [linesL]
    unfold pObj.f at hr
    by_cases hwz : wd > 0
    · rw [if_pos hwz, if_pos rfl, if_pos rfl] at hr
      cases k with
      | zero => simp [pObj.j0] at hr
      | succ k =>
        rw [pObj.j0, show ((-1 : Int) == (-1)) = true from rfl, if_pos rfl, w64p (x := ((bytesOf pre).length : Int) - 0) (by omega) (by omega), w64p (x := wd - (((bytesOf pre).length : Int) - 0)) (by omega) (by omega)] at hr
        by_cases hmax : wd - (((bytesOf pre).length : Int) - 0) > 3
        · rw [if_pos hmax] at hr
          replace hr := Option.bind_eq_some_iff.mp hr
          obtain ⟨v, hv, hr⟩ := hr
          have hA : ∃ n', v = (bytesOf pre ++ oneL (bytesOf s) ks, j, n', true) ∧ v.1.length ≤ 140737488355328 := by
            cases D with
            | zero => cases hv
            | succ D =>
              have hv : pObj.f (pAny.at_ D) (pObj.at_ D) k (bytesOf pre) (bytesOf s) i 91 93 false wd pre ⟨#[]⟩ false 0 0 (wd - (((bytesOf pre).length : Int) - 0)) = some v := hv
              unfold pObj.f at hv
              rw [if_pos hwz, if_neg (by decide)] at hv
              cases k with
              | zero => simp [pObj.j0] at hv
              | succ k =>
                rw [pObj.j0, if_neg (by decide), if_neg (by omega), if_neg (by decide)] at hv
                obtain ⟨hl91, k2, hll⟩ := obj_j1 hi0 (by omega) (by omega) hv
                obtain ⟨k3, hll⟩ := loop_gap (by omega) (by omega) (p - (i + 1)).toNat k2 (i + 1) (by omega) hg.gap (by omega) hll
                obtain ⟨n', rfl, hlen⟩ := flatA hs h hka D k3 _ wd pre ⟨#[]⟩ 0 0 _ p 0 v (by omega) (by omega) (by omega) (by omega) (by omega) hps (by omega) (by omega) (.inl rfl) hll
                refine ⟨n', ?_, hlen⟩
                rw [if_neg (by omega)]
                simp [oneL]
          obtain ⟨n', rfl, hvl⟩ := hA
          dsimp only at hr hvl
          have hlo : (bytesOf pre ++ oneL (bytesOf s) ks).length = (bytesOf pre).length + (oneL (bytesOf s) ks).length := List.length_append
          rw [if_pos rfl, w64p (by omega) (by omega)] at hr
          by_cases hle : ((bytesOf pre ++ oneL (bytesOf s) ks).length : Int) - (bytesOf pre).length ≤ wd - (((bytesOf pre).length : Int) - 0)
          · rw [if_pos hle] at hr
            simp only [Option.some.injEq] at hr
            subst hr
            rw [if_pos (by omega)]
          · rw [if_neg hle, if_pos (by omega), if_pos (by omega), Int.toNat_natCast, List.take_left] at hr
            rw [if_neg (by omega)]
            exact lines k hr
        · rw [if_neg hmax] at hr
          rw [if_neg (by omega)]
          exact lines k hr
    · rw [if_neg hwz] at hr
      rw [if_neg (by omega)]
      exact lines k hr
end Go.Proofs.Ytkbeiidjagodnaa.Pr

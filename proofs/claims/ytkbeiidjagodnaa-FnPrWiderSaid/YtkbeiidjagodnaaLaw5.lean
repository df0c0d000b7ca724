/- The reader's values, tied by their depth; the places of a JSON text, all of them, and the text's grammar where no object and no string stands in it: plain Lean. -/
import Derived.Test.YtkbeiidjagodnaaLaw4
import Derived.Test.YtkbeiidjagodnaaPrx9a
namespace Go.Proofs.Ytkbeiidjagodnaa.Pr
open Go.RowKit Go.Proofs.YtkbeiidjagodnaaW.PrintWords Go.Proofs.YtkbeiidjagodnaaW.PrintLast Go.Proofs.YtkbeiidjagodnaaW.PrintMore
set_option linter.unusedVariables false

theorem digits_pos {s : ByteArray} (hn : Small s) {k : Nat} {i : Int} {r : Bool} {s' : ByteArray} {j : Int} (h0 : 0 ≤ i) (h1 : i < s.size) (hd : 48 ≤ bt s i ∧ bt s i ≤ 57) (h : spec_reader_digits.f k s i = some (r, s', j)) : i < j := by
  have hn' : s.size ≤ 1048576 := hn
  unfold spec_reader_digits.f at h
  rw [here_eq s i h0] at h
  simp only [Option.bind_some] at h
  cases k with
  | zero => simp [spec_reader_digits.l0] at h
  | succ k =>
    rw [spec_reader_digits.l0, at0_at h1, if_pos hd.1, if_pos hd.2, w64 (by omega) (by omega), here_eq s (i + 1) (by omega)] at h
    simp only [Option.bind_some] at h
    have := (digits_l s hn i k (i + 1) r s' j (by omega) (by omega) h).2.1
    omega
theorem number_pos {s : ByteArray} (hn : Small s) {k : Nat} {i : Int} {r : Bool} {s' : ByteArray} {j : Int} (h0 : 0 ≤ i) (h1 : i < s.size) (hd : (48 ≤ bt s i ∧ bt s i ≤ 57) ∨ bt s i = 45) (h : spec_reader_number.f k s i = some (r, s', j)) : i < j := by
  unfold spec_reader_number.f at h
  replace h := Option.bind_eq_some_iff.mp h
  obtain ⟨⟨b1, s1, j1⟩, e1, h⟩ := h
  obtain ⟨rfl, t1⟩ := take_inv hn h0 (by omega) e1
  obtain ⟨_, g1, z1⟩ := take_num hn h0 (by omega) (by unfold NumCh; omega) e1
  dsimp only at h
  replace h := Option.bind_eq_some_iff.mp h
  obtain ⟨⟨b2, s2, j2⟩, e2, h⟩ := h
  obtain ⟨rfl, t2⟩ := take_inv hn z1 g1.2.1 e2
  obtain ⟨_, g2, z2⟩ := take_num hn z1 g1.2.1 (by unfold NumCh; omega) e2
  dsimp only at h
  cases b2 with
  | true =>
    rw [if_pos rfl] at h
    have g3 := (num0_inv hn z2 g2.2.1 h).2.1
    have := g1.1
    rcases t2 with ⟨_, _, _, t3⟩ | ⟨t3, _⟩
    · omega
    · cases t3
  | false =>
    rw [if_neg (by decide)] at h
    rcases t2 with ⟨t3, _⟩ | ⟨_, rfl⟩
    · cases t3
    replace h := Option.bind_eq_some_iff.mp h
    obtain ⟨⟨b3, s3, j3⟩, e3, h⟩ := h
    obtain ⟨rfl, g3, z3⟩ := digits_inv hn z2 g2.2.1 e3
    have g4 := (num0_inv hn z3 g3.2.1 h).2.1
    have := g3.1
    rcases t1 with ⟨_, _, _, t4⟩ | ⟨_, t4⟩
    · omega
    · subst t4
      rcases hd with hd | hd
      · have := digits_pos hn h0 h1 hd e3
        omega
      · -- the minus sign is taken
        have : spec_reader_take.f s3 j2 45 = some (true, s3, j2 + 1) := take_yes s3 hn j2 45 h0 h1 hd
        rw [this] at e1
        simp only [Option.some.injEq, Prod.mk.injEq] at e1
        omega

/-- A place that a reader reads, and all that stands in it. -/
theorem value_known {s : ByteArray} (hn : Small s) : ∀ (D : Nat) (k : Nat) (i kd b j : Int) (ns : List S53) (ks : List S25) (s' : ByteArray) (j' : Int), 0 ≤ i → i ≤ s.size → (spec_reader_value.at_ (D + 1)).f k s i = some (kd, b, j, ns, ks, true, s', j') →
    s' = s ∧ j' = j ∧ b = i ∧ i < j ∧ j ≤ s.size ∧ ValOK (spec_reader_value.at_ (D - 1)) s kd i j ks := by
  intro D
  induction D using Nat.strongRecOn with
  | _ D ih =>
  intro k i kd b j ns ks s' j' h0 h1 h
  have hn' : s.size ≤ 1048576 := hn
  have hV : InvV (spec_reader_value.at_ (D - 1)) s := by
    intro k i kd b j ns ks s' j' h0 h1 h
    by_cases hD : D - 1 = 0
    · rw [hD] at h; cases h
    · obtain ⟨E, hE⟩ : ∃ E, D - 1 = E + 1 := ⟨D - 2, by omega⟩
      rw [hE] at h
      obtain ⟨a1, a2, a3, a4, a5, _⟩ := ih E (by omega) k i kd b j ns ks s' j' h0 h1 h
      exact ⟨a1, a2, a3, a4, a5⟩
  have hM : InvM (spec_reader_members.at_ D) (spec_reader_value.at_ (D - 1)) s := by
    intro k i ns ks s' j h0 h1 h
    cases D with
    | zero => cases h
    | succ E => exact members_inv hn hV k i ns ks s' j h0 h1 h
  have hE : InvE (spec_reader_elements.at_ D) (spec_reader_value.at_ (D - 1)) s := by
    intro k i ks s' j h0 h1 h
    cases D with
    | zero => cases h
    | succ E => exact elements_inv hn hV k i ks s' j h0 h1 h
  have h' : spec_reader_value.f (spec_reader_members.at_ D) (spec_reader_elements.at_ D) k s i = some (kd, b, j, ns, ks, true, s', j') := h
  by_cases hi : i < (s.size : Int)
  · obtain ⟨a1, a2, a3, a4, a5⟩ := value_inv (V0 := spec_reader_value.at_ (D - 1)) hn hM hE h0 hi h'
    refine ⟨a1, a2, a3, ?_, a4, a5⟩
    rcases a5 with ⟨_, g⟩ | ⟨_, _, ⟨_, p, g, _, _, rfl⟩ | ⟨p, g1, g2⟩⟩ | ⟨_, _, g⟩ | ⟨rfl, _, g, _⟩ | ⟨_, _, _, g, _⟩
    · have := g.le; omega
    · have := g.1; omega
    · have := g1.1; have := g2.chain.le; omega
    · have := g.2.1; omega
    · -- a number
      unfold spec_reader_value.f at h'
      rw [here_eq s i h0, at0_at hi] at h'
      simp only [Option.bind_some] at h'
      rw [if_neg (by omega), if_neg (by omega), if_neg (by omega)] at h'
      have key : ∀ k, spec_reader_value.j0 (spec_reader_members.at_ D) (spec_reader_elements.at_ D) k true true s i 0 i 0 = some (3, b, j, ns, ks, true, s', j') → i < j := by
        intro k h
        cases k with
        | zero => simp [spec_reader_value.j0] at h
        | succ k =>
          rw [spec_reader_value.j0, if_pos rfl] at h
          replace h := Option.bind_eq_some_iff.mp h
          obtain ⟨⟨b1, s1, j1⟩, e1, h⟩ := h
          simp only [Option.some.injEq, Prod.mk.injEq] at h
          have := number_pos hn h0 hi g e1
          omega
      by_cases c4 : bt s i = 45
      · rw [if_pos c4] at h'; exact key k h'
      · rw [if_neg c4, if_pos (by omega), decide_eq_true (show bt s i ≤ 57 by omega)] at h'; exact key k h'
    · exact g
  · -- at the text's end there is no value
    exfalso
    unfold spec_reader_value.f at h'
    rw [here_eq s i h0, at0_zero hi] at h'
    simp only [Option.bind_some] at h'
    rw [if_neg (by decide), if_neg (by decide), if_neg (by decide), if_neg (by decide), if_neg (by decide)] at h'
    cases k with
    | zero => simp [spec_reader_value.j0] at h'
    | succ k =>
      have nw : ∀ (w : ByteArray), 0 < w.size → spec_reader_word.f s i w = some (false, s, i) := by
        intro w hw
        unfold spec_reader_word.f
        rw [w64 (by omega) (by omega), if_pos (by omega)]
      rw [spec_reader_value.j0, if_neg (by decide), nw _ (by decide)] at h'
      simp only [Option.bind_some] at h'
      rw [if_neg (by decide), nw _ (by decide)] at h'
      simp only [Option.bind_some] at h'
      rw [if_neg (by decide), nw _ (by decide)] at h'
      simp only [Option.bind_some] at h'
      rw [if_neg (by decide)] at h'
      simp at h'

/-- Bytes up to the space alone from i to j. -/
def Gap (x : List Int) (i j : Int) : Prop := i ≤ j ∧ ∀ p, i ≤ p → p < j → rd x p ≤ 32
theorem Blanks.gap {s : ByteArray} {i j : Int} (h : Blanks s i j) : Gap (bytesOf s) i j := ⟨h.1, fun p h1 h2 => by rw [rd_bytesOf]; exact isBlank_le (h.2.2 p h1 h2)⟩
/-- The grammar without objects and strings: a value from i to j (false); what follows an element, to behind its array's bracket (true). -/
inductive G (x : List Int) : Bool → Int → Int → Prop where
  | num (i j : Int) : 0 ≤ i → i < j → j ≤ x.length → ((48 ≤ rd x i ∧ rd x i ≤ 57) ∨ rd x i = 45) → (∀ p, i ≤ p → p < j → NumCh (rd x p)) → G x false i j
  | word (i j : Int) : 0 ≤ i → i < j → j ≤ x.length → (seg x i j = [110, 117, 108, 108] ∨ seg x i j = [102, 97, 108, 115, 101] ∨ seg x i j = [116, 114, 117, 101]) → G x false i j
  | empty (i p : Int) : 0 ≤ i → rd x i = 91 → Gap x (i + 1) p → p < x.length → rd x p = 93 → G x false i (p + 1)
  | arr (i p u j : Int) : 0 ≤ i → rd x i = 91 → Gap x (i + 1) p → G x false p u → G x true u j → G x false i j
  | close (q r : Int) : Gap x q r → r < x.length → rd x r = 93 → G x true q (r + 1)
  | next (q r t u j : Int) : Gap x q r → r < x.length → rd x r = 44 → Gap x (r + 1) t → G x false t u → G x true u j → G x true q j

/-- All places of a place. -/
def AllP (s : ByteArray) (i j : Int) (kd b e : Int) (ns : List S53) (ks : List S25) : Prop :=
  ∃ l : List S25, (∀ K : Nat, 2 * (j - i) + 2 ≤ K → spec_All.f K kd b e ns ks = some l) ∧ (l.length : Int) ≤ j - i ∧ ((∀ z ∈ l, z.f0 ≠ 6 ∧ z.f0 ≠ 4) → G (bytesOf s) false i j)
theorem rd_T25_mid (done ks : List S25) (p : S25) : rd_T25 (done ++ p :: ks) (done.length : Int) = p := by
  unfold rd_T25
  rw [Int.toNat_natCast, List.getD_eq_getElem?_getD, List.getElem?_append_right (Nat.le_refl _), Nat.sub_self]
  rfl
/-- The same of places in a row. -/
theorem all_chain {V0 : H_spec_reader_value} {s : ByteArray} (hn : Small s) (hP : ∀ p, VR V0 s p → p.f1 < p.f2 → p.f2 ≤ s.size → AllP s p.f1 p.f2 p.f0 p.f1 p.f2 p.f3 p.f4) {ks : List S25} {i j : Int} (h : Chain V0 s ks i j) (h0 : 0 ≤ i) (hj : j ≤ s.size) :
    ∃ l : List S25, (l.length : Int) ≤ j - i ∧ ((∀ z ∈ l, z.f0 ≠ 6 ∧ z.f0 ≠ 4) → ∀ p ∈ ks, G (bytesOf s) false p.f1 p.f2) ∧
      ∀ (acc : List S25) (done : List S25) (K : Nat), (acc.length : Int) + (j - i) ≤ 4194304 → (done.length : Int) + (j - i) ≤ 4194304 → 2 * (j - i) + 1 ≤ K → spec_All.l0 K acc (done ++ ks) ((done ++ ks).length : Int) (done.length : Int) = some (acc ++ l) := by
  have hn' : s.size ≤ 1048576 := hn
  induction h with
  | nil i j h =>
    refine ⟨[], by simp only [List.length_nil]; omega, (fun _ p hp => by cases hp), fun acc done K h1 h2 h3 => ?_⟩
    obtain ⟨K, rfl⟩ : ∃ m, K = m + 1 := ⟨K - 1, by omega⟩
    rw [spec_All.l0, List.append_nil, if_neg (by omega), List.append_nil]
  | cons p ks i j h1 h2 h3 h4 ih =>
    have hle := h4.le
    obtain ⟨lp, g1, g2, g3⟩ := hP p h1 h3 (by omega)
    obtain ⟨l, e1, e2, e3⟩ := ih (by omega) hj
    refine ⟨lp ++ l, by rw [List.length_append]; omega, fun hz q hq => ?_, fun acc done K k1 k2 k3 => ?_⟩
    · rcases List.mem_cons.1 hq with rfl | hq
      · exact g3 (fun z hz' => hz z (List.mem_append_left _ hz'))
      · exact e2 (fun z hz' => hz z (List.mem_append_right _ hz')) q hq
    · obtain ⟨K, rfl⟩ : ∃ m, K = m + 1 := ⟨K - 1, by omega⟩
      have hlen : (done ++ p :: ks).length = done.length + ks.length + 1 := by rw [List.length_append, List.length_cons]; omega
      rw [spec_All.l0, if_pos (by omega), if_pos (by omega), if_pos (by omega), rd_T25_mid, g1 K (by omega)]
      simp only [Option.bind_some]
      rw [if_pos (by omega), w64 (by omega) (by omega)]
      have e4 := e3 (acc ++ lp) (done ++ [p]) K (by rw [List.length_append]; omega) (by rw [List.length_append, List.length_singleton]; omega) (by omega)
      have ea : done ++ [p] ++ ks = done ++ p :: ks := by simp
      have el : ((done ++ [p]).length : Int) = done.length + 1 := by simp
      rw [ea, el, List.append_assoc] at e4
      exact e4

theorem kids_g {V0 : H_spec_reader_value} {s : ByteArray} {ks : List S25} {i j : Int} (h : Kids V0 s ks i j) (hg : ∀ p ∈ ks, G (bytesOf s) false p.f1 p.f2) : ∃ u, G (bytesOf s) false i u ∧ G (bytesOf s) true u j := by
  induction h with
  | last p i r h1 h2 h3 h4 h5 h6 =>
    have := hg p (List.mem_singleton.2 rfl)
    rw [h2] at this
    exact ⟨p.f2, this, .close _ _ h4.gap (by rw [bytesOf_length]; exact h5) (by rw [rd_bytesOf]; exact h6)⟩
  | more p i r t j ks h1 h2 h3 h4 h5 h6 h7 h8 ih =>
    have := hg p (List.mem_cons_self ..)
    rw [h2] at this
    obtain ⟨u, a1, a2⟩ := ih (fun q hq => hg q (List.mem_cons_of_mem _ hq))
    exact ⟨p.f2, this, .next _ _ _ _ _ h4.gap (by rw [bytesOf_length]; exact h5) (by rw [rd_bytesOf]; exact h6) h7.gap a1 a2⟩

theorem all_value {s : ByteArray} (hn : Small s) : ∀ (D : Nat) (k : Nat) (i kd b j : Int) (ns : List S53) (ks : List S25) (s' : ByteArray) (j' : Int), 0 ≤ i → i ≤ s.size → (spec_reader_value.at_ (D + 1)).f k s i = some (kd, b, j, ns, ks, true, s', j') →
    AllP s i j kd b j ns ks := by
  intro D
  induction D using Nat.strongRecOn with
  | _ D ih =>
  intro k i kd b j ns ks s' j' h0 h1 h
  have hn' : s.size ≤ 1048576 := hn
  obtain ⟨_, _, rfl, hij, hj, hok⟩ := value_known hn D k i kd b j ns ks s' j' h0 h1 h
  have hP : ∀ p, VR (spec_reader_value.at_ (D - 1)) s p → p.f1 < p.f2 → p.f2 ≤ s.size → AllP s p.f1 p.f2 p.f0 p.f1 p.f2 p.f3 p.f4 := by
    rintro p ⟨hp0, k', hp⟩ h2 h3
    by_cases hD : D - 1 = 0
    · rw [hD] at hp; cases hp
    · obtain ⟨E, hE⟩ : ∃ E, D - 1 = E + 1 := ⟨D - 2, by omega⟩
      rw [hE] at hp
      exact ih E (by omega) k' p.f1 p.f0 p.f1 p.f2 p.f3 p.f4 s p.f2 hp0 (by omega) hp
  have hch : Chain (spec_reader_value.at_ (D - 1)) s ks (b + 1) j := by
    rcases hok with ⟨_, g⟩ | ⟨_, _, ⟨rfl, _⟩ | ⟨p, g1, g2⟩⟩ | ⟨_, rfl, g⟩ | ⟨_, rfl, g⟩ | ⟨_, _, rfl, g⟩
    · exact g
    · exact .nil _ _ (by omega)
    · exact g2.chain.from g1.1
    · exact .nil _ _ (by omega)
    · exact .nil _ _ (by omega)
    · exact .nil _ _ (by omega)
  obtain ⟨l, e1, e2, e3⟩ := all_chain hn hP hch (by omega) hj
  refine ⟨⟨kd, b, j, ns, ks⟩ :: l, fun K hK => ?_, by rw [List.length_cons]; omega, fun hz => ?_⟩
  · obtain ⟨K, rfl⟩ : ∃ m, K = m + 1 := ⟨K - 1, by omega⟩
    rw [spec_All.f]
    have := e3 [⟨kd, b, j, ns, ks⟩] [] K (by simp only [List.length_singleton]; omega) (by simp only [List.length_nil]; omega) (by omega)
    exact this
  · have h6 := hz _ (List.mem_cons_self ..)
    dsimp only at h6
    have hk := e2 (fun z hz' => hz z (List.mem_cons_of_mem _ hz'))
    rcases hok with ⟨g, _⟩ | ⟨_, g0, ⟨rfl, p, g1, g2, g3, rfl⟩ | ⟨p, g1, g2⟩⟩ | ⟨g, _⟩ | ⟨_, _, g1, g2⟩ | ⟨_, _, _, g1, g2⟩
    · exact absurd g h6.1
    · exact .empty _ _ h0 (by rw [rd_bytesOf]; exact g0) g1.gap (by rw [bytesOf_length]; exact g2) (by rw [rd_bytesOf]; exact g3)
    · obtain ⟨u, a1, a2⟩ := kids_g g2 hk
      exact .arr _ _ _ _ h0 (by rw [rd_bytesOf]; exact g0) g1.gap a1 a2
    · exact absurd g h6.2
    · exact .num _ _ h0 hij (by rw [bytesOf_length]; exact hj) (by rw [rd_bytesOf]; exact g1) (fun p h2 h3 => by rw [rd_bytesOf]; exact g2.2.2 p h2 h3)
    · exact .word _ _ h0 hij (by rw [bytesOf_length]; exact hj) g2
end Go.Proofs.Ytkbeiidjagodnaa.Pr
/- What pretty's leaves and Any have done where they answered: plain Lean. -/
namespace Go.Proofs.Ytkbeiidjagodnaa.Pr
open Go.RowKit Go.Proofs.YtkbeiidjagodnaaW.PrintWords Go.Proofs.YtkbeiidjagodnaaW.PrintLast Go.Proofs.YtkbeiidjagodnaaW.PrintMore
set_option linter.unusedVariables false

theorem ite_some {α : Type} {c : Prop} [Decidable c] {a : Option α} {r : α} (h : (if c then a else none) = some r) : c ∧ a = some r := by
  by_cases hc : c
  · rw [if_pos hc] at h; exact ⟨hc, h⟩
  · rw [if_neg hc] at h; cases h
/-- Every element is a byte. -/
def Bytes (l : List Int) : Prop := ∀ c ∈ l, 0 ≤ c ∧ c ≤ 255
theorem Bytes.append {a b : List Int} (h : Bytes a) (h' : Bytes b) : Bytes (a ++ b) := fun c hc => (List.mem_append.1 hc).elim (h c) (h' c)
theorem Bytes.seg {x : List Int} (h : Bytes x) (i j : Int) : Bytes (seg x i j) := fun c hc => h c (List.mem_of_mem_take (List.mem_of_mem_drop hc))
theorem bytesOf_bytes (s : ByteArray) : Bytes (bytesOf s) := by
  intro c hc
  unfold bytesOf at hc
  obtain ⟨b, _, rfl⟩ := List.mem_map.1 hc
  have := b.toNat_lt
  omega
theorem seg_mem {x : List Int} {i j c : Int} (h0 : 0 ≤ i) (h : c ∈ seg x i j) : ∃ p, i ≤ p ∧ p < j ∧ p < x.length ∧ rd x p = c := by
  unfold seg at h
  obtain ⟨n, hn, rfl⟩ := List.getElem_of_mem h
  rw [List.length_drop, List.length_take] at hn
  refine ⟨((i.toNat + n : Nat) : Int), by omega, by omega, by omega, ?_⟩
  unfold rd
  rw [Int.toNat_natCast, List.getElem_drop, List.getElem_take, List.getD_eq_getElem?_getD, List.getElem?_eq_getElem (by omega)]
  rfl
def Stop (x : List Int) (j : Int) : Prop := j = x.length ∨ NumStop (rd x j)

theorem num_inv {x0 x1 : List Int} {nl s j : Int} (hs : 0 ≤ s) (hL : x1.length ≤ 1000000) (hj : j ≤ x1.length) (hst : Stop x1 j) : ∀ (k : Nat) (i : Int) (r : Res), s ≤ i → i ≤ j → (∀ p, i ≤ p → p < j → ¬ NumStop (rd x1 p)) →
    pretty_appendPrettyNumber.l0 k x0 x1 i nl s = some r → r = (x0 ++ seg x1 s j, j, nl, true) ∧ r.1.length ≤ 140737488355328
  | 0, i, r, h0, h1, h2, h => by simp [pretty_appendPrettyNumber.l0] at h
  | k + 1, i, r, h0, h1, h2, h => by
    rw [pretty_appendPrettyNumber.l0] at h
    have fin : ∀ {o : Option Res}, o = (if 0 ≤ s then (if s ≤ i then (if i ≤ (x1.length : Int) then ((some ((x1.take (i : Int).toNat).drop (s : Int).toNat : List Int)).bind fun y315 => (if x0.length + y315.length < 140737488355328 then (some ((x0 ++ y315), i, nl, true)) else (none))) else (none)) else (none)) else (none)) → o = some r → i = j → r = (x0 ++ seg x1 s j, j, nl, true) ∧ r.1.length ≤ 140737488355328 := by
      intro o ho h e
      subst e
      rw [ho, if_pos hs, if_pos h0, if_pos hj, Option.bind_some] at h
      obtain ⟨c, h⟩ := ite_some h
      simp only [Option.some.injEq] at h
      subst h
      exact ⟨rfl, by dsimp only; rw [List.length_append]; omega⟩
    by_cases c1 : i < (x1.length : Int)
    · rw [if_pos c1, if_pos (by omega)] at h
      by_cases hst' : NumStop (rd x1 i)
      · have e : i = j := by
          by_cases e : i = j
          · exact e
          · exact absurd hst' (h2 i (by omega) (by omega))
        by_cases a1 : rd x1 i ≤ 32
        · rw [if_pos a1] at h; exact fin rfl h e
        · by_cases a2 : rd x1 i = 44
          · rw [if_neg a1, if_pos a2] at h; exact fin rfl h e
          · by_cases a3 : rd x1 i = 58
            · rw [if_neg a1, if_neg a2, if_pos a3] at h; exact fin rfl h e
            · by_cases a4 : rd x1 i = 93
              · rw [if_neg a1, if_neg a2, if_neg a3, if_pos a4] at h; exact fin rfl h e
              · by_cases a5 : rd x1 i = 125
                · rw [if_neg a1, if_neg a2, if_neg a3, if_neg a4, if_pos a5] at h; exact fin rfl h e
                · unfold NumStop at hst'; omega
      · have hst2 := hst'
        unfold NumStop at hst'
        rw [if_neg (by omega), if_neg (by omega), if_neg (by omega), if_neg (by omega), if_neg (by omega), w64p (by omega) (by omega)] at h
        refine num_inv hs hL hj hst k (i + 1) r (by omega) ?_ (fun p h3 h4 => h2 p (by omega) h4) h
        by_cases e : i = j
        · subst e
          rcases hst with e | e
          · omega
          · exact absurd e hst2
        · omega
    · rw [if_neg c1] at h
      exact fin rfl h (by omega)

theorem tabs_inv {ind : ByteArray} (hi : ∀ c ∈ bytesOf ind, c = 32) {k : Nat} {y r : List Int} {t : Int} (h0 : 0 ≤ t) (h1 : t ≤ 1048576) (h : pretty_appendTabs.f k y ⟨#[]⟩ ind t = some r) :
    ∃ sp, r = y ++ sp ∧ (∀ c ∈ sp, c = 32) ∧ (r.length ≤ y.length ∨ r.length ≤ 140737488355328) := by
  unfold pretty_appendTabs.f at h
  rw [if_pos (by rfl)] at h
  have l1 : ∀ (k : Nat) (x r : List Int) (i : Int), 0 ≤ i → i ≤ 1048576 → pretty_appendTabs.l1 k x ind t i = some r → ∃ sp, r = x ++ sp ∧ (∀ c ∈ sp, c = 32) ∧ (r.length ≤ x.length ∨ r.length ≤ 140737488355328) := by
    intro k
    induction k with
    | zero => intro x r i _ _ h; simp [pretty_appendTabs.l1] at h
    | succ k ih =>
      intro x r i hi0 hi1 h
      rw [pretty_appendTabs.l1] at h
      by_cases c : i < t
      · rw [if_pos c] at h
        obtain ⟨c2, h⟩ := ite_some h
        rw [w64p (by omega) (by omega)] at h
        obtain ⟨sp, rfl, h2, h3⟩ := ih _ r (i + 1) (by omega) (by omega) h
        refine ⟨bytesOf ind ++ sp, by rw [List.append_assoc], fun c hc => (List.mem_append.1 hc).elim (hi c) (h2 c), ?_⟩
        rcases h3 with h3 | h3
        · have e : (x ++ bytesOf ind).length = x.length + ind.size := by rw [List.length_append, bytesOf_length]
          omega
        · exact .inr h3
      · rw [if_neg c] at h
        simp only [Option.some.injEq] at h
        subst h
        exact ⟨[], by simp, (fun c hc => by cases hc), .inl (Nat.le_refl _)⟩
  have l0 : ∀ (k : Nat) (x r : List Int) (i : Int), 0 ≤ i → i ≤ 1048576 → pretty_appendTabs.l0 k x t i = some r → ∃ sp, r = x ++ sp ∧ (∀ c ∈ sp, c = 32) ∧ (r.length ≤ x.length ∨ r.length ≤ 140737488355328) := by
    intro k
    induction k with
    | zero => intro x r i _ _ h; simp [pretty_appendTabs.l0] at h
    | succ k ih =>
      intro x r i hi0 hi1 h
      rw [pretty_appendTabs.l0] at h
      by_cases c : i < t
      · rw [if_pos c, Option.bind_some] at h
        obtain ⟨c2, h⟩ := ite_some h
        rw [w64p (by omega) (by omega)] at h
        obtain ⟨sp, rfl, h2, h3⟩ := ih _ r (i + 1) (by omega) (by omega) h
        refine ⟨[32, 32] ++ sp, by rw [List.append_assoc], fun c hc => (List.mem_append.1 hc).elim (fun hc => by simp at hc; exact hc) (h2 c), ?_⟩
        rcases h3 with h3 | h3
        · have e : (x ++ [32, 32]).length = x.length + 2 := by rw [List.length_append]; rfl
          have c2' : x.length + 2 < 140737488355328 := c2
          omega
        · exact .inr h3
      · rw [if_neg c] at h
        simp only [Option.some.injEq] at h
        subst h
        exact ⟨[], by simp, (fun c hc => by cases hc), .inl (Nat.le_refl _)⟩
  have j1 : ∀ (k : Nat) (b : Bool), pretty_appendTabs.j1 k y ind t b = some r → ∃ sp, r = y ++ sp ∧ (∀ c ∈ sp, c = 32) ∧ (r.length ≤ y.length ∨ r.length ≤ 140737488355328) := by
    intro k b h
    cases k with
    | zero => simp [pretty_appendTabs.j1] at h
    | succ k =>
      rw [pretty_appendTabs.j1] at h
      split at h
      · exact l0 k y r 0 (by omega) (by omega) h
      · exact l1 k y r 0 (by omega) (by omega) h
  cases k with
  | zero => simp [pretty_appendTabs.j0] at h
  | succ k =>
    rw [pretty_appendTabs.j0] at h
    split at h
    · obtain ⟨_, h⟩ := ite_some h
      split at h
      · obtain ⟨_, h⟩ := ite_some h
        exact j1 k _ h
      · exact j1 k _ h
    · exact j1 k _ h

section
variable {VO : H_pObj} {x0 x : List Int} {pr : Bool} {wd : Int} {pre ind : ByteArray} {tabs nl mx : Int}
theorem drop_rd (x : List Int) (i : Int) (p : Nat) (h0 : 0 ≤ i) : rd (x.drop i.toNat) p = rd x (i + p) := by
  unfold rd
  rw [Int.toNat_natCast, List.getD_eq_getElem?_getD, List.getElem?_drop, List.getD_eq_getElem?_getD]
  congr 2
  omega
theorem any_gap1 {k : Nat} {i : Int} {r : Res} (h0 : 0 ≤ i) (h1 : i < x.length) (hL : x.length ≤ 1000000) (hc : rd x i ≤ 32) (h : pAny.l0 VO k x0 x i pr wd pre ind tabs nl mx = some r) : ∃ k', pAny.l0 VO k' x0 x (i + 1) pr wd pre ind tabs nl mx = some r := by
  cases k with
  | zero => simp [pAny.l0] at h
  | succ k => rw [pAny.l0, if_pos h1, if_pos h0, if_pos hc, w64p (by omega) (by omega)] at h; exact ⟨k, h⟩
/-- Where no number begins, and no string, Any asks for the kind of value. -/
theorem any_j1 {k : Nat} {i : Int} {r : Res} (h0 : 0 ≤ i) (h1 : i < x.length) (hc : 32 < rd x i) (hq : rd x i ≠ 34) (hn : ¬ (48 ≤ rd x i ∧ rd x i ≤ 57)) (hm : rd x i ≠ 45)
    (hf : rd x i ≠ 105 ∧ rd x i ≠ 73 ∧ rd x i ≠ 43 ∧ rd x i ≠ 78 ∧ (rd x i = 110 → i + 1 < x.length ∧ rd x (i + 1) = 117)) (h : pAny.l0 VO k x0 x i pr wd pre ind tabs nl mx = some r) : ∃ k', pAny.j1 VO k' x0 x i pr wd pre ind tabs nl mx false = some r := by
  cases k with
  | zero => simp [pAny.l0] at h
  | succ k =>
    rw [pAny.l0, if_pos h1, if_pos h0, if_neg (by omega), if_neg hq] at h
    have e0 : rd (x.drop i.toNat) 0 = rd x i := by have := drop_rd x i 0 h0; simpa using this
    have e1 : rd (x.drop i.toNat) 1 = rd x (i + 1) := drop_rd x i 1 h0
    have hnan : pretty_isNaNOrInf.f (x.drop i.toNat) = some false := by
      unfold pretty_isNaNOrInf.f
      have hl : (x.drop i.toNat).length = x.length - i.toNat := List.length_drop
      rw [e0, if_pos (by omega), if_neg hf.1, if_neg hf.2.1, if_neg hf.2.2.1, if_neg hf.2.2.2.1]
      by_cases c : rd x i = 110
      · obtain ⟨g1, g2⟩ := hf.2.2.2.2 c
        rw [if_pos c, if_pos (by omega), if_pos (by omega), e1, g2]
        rfl
      · rw [if_neg c]
    by_cases c : rd x i ≥ 48
    · rw [if_pos c, if_neg (by omega), if_neg hm, if_pos (by omega), hnan, Option.bind_some] at h; exact ⟨k, h⟩
    · rw [if_neg c, if_neg hm, if_pos (by omega), hnan, Option.bind_some] at h; exact ⟨k, h⟩
theorem any_comma {k : Nat} {i : Int} {r : Res} (h0 : 0 ≤ i) (h1 : i < x.length) (hL : x.length ≤ 1000000) (hc : rd x i = 44) (h : pAny.l0 VO k x0 x i pr wd pre ind tabs nl mx = some r) : ∃ k', pAny.l0 VO k' x0 x (i + 1) pr wd pre ind tabs nl mx = some r := by
  obtain ⟨k, h⟩ := any_j1 h0 h1 (by omega) (by omega) (by omega) (by omega) (by omega) h
  cases k with
  | zero => simp [pAny.j1] at h
  | succ k =>
    rw [pAny.j1, if_neg (by decide), if_pos h0, if_pos h1, if_neg (by omega), if_neg (by omega), if_neg (by omega), if_neg (by omega), if_neg (by omega), w64p (by omega) (by omega)] at h
    exact ⟨k, h⟩
theorem any_gap {i j : Int} (hL : x.length ≤ 1000000) (hj : j ≤ x.length) (h0 : 0 ≤ i) (hg : Gap x i j) : ∀ (d : Nat) {k : Nat} {r : Res} (q : Int), i ≤ q → j - q = d → pAny.l0 VO k x0 x q pr wd pre ind tabs nl mx = some r → ∃ k', pAny.l0 VO k' x0 x j pr wd pre ind tabs nl mx = some r
  | 0, k, r, q, h1, h2, h => by obtain rfl : q = j := by omega
                                exact ⟨k, h⟩
  | d + 1, k, r, q, h1, h2, h => by
    obtain ⟨k', h⟩ := any_gap1 (by omega) (by omega) hL (hg.2 q h1 (by omega)) h
    exact any_gap hL hj h0 hg d (q + 1) (by omega) (by omega) h
theorem any_arr {k : Nat} {i : Int} {r : Res} (h0 : 0 ≤ i) (h1 : i < x.length) (hc : rd x i = 91) (h : pAny.l0 VO k x0 x i pr wd pre ind tabs nl mx = some r) : ∃ k', VO.f k' x0 x i 91 93 pr wd pre ind false tabs nl mx = some r := by
  obtain ⟨k, h⟩ := any_j1 h0 h1 (by omega) (by omega) (by omega) (by omega) (by omega) h
  cases k with
  | zero => simp [pAny.j1] at h
  | succ k =>
    rw [pAny.j1, if_neg (by decide), if_pos h0, if_pos h1, if_neg (by omega), if_pos hc] at h
    replace h := Option.bind_eq_some_iff.mp h
    obtain ⟨⟨r1, r2, r3, r4⟩, e, h⟩ := h
    simp only [Option.some.injEq] at h
    subst h
    exact ⟨k, e⟩
/-- What a value is written as that is no array: no bracket, no blank. -/
def AtomL (a : List Int) : Prop := a ≠ [] ∧ ∀ c ∈ a, 32 < c ∧ c ≤ 255 ∧ c ≠ 91 ∧ c ≠ 93
theorem any_num {k : Nat} {i j : Int} {r : Res} (h0 : 0 ≤ i) (hij : i < j) (hj : j ≤ x.length) (hL : x.length ≤ 1000000) (hd : (48 ≤ rd x i ∧ rd x i ≤ 57) ∨ rd x i = 45) (hn : ∀ p, i ≤ p → p < j → NumCh (rd x p)) (hst : Stop x j)
    (h : pAny.l0 VO k x0 x i pr wd pre ind tabs nl mx = some r) : ∃ a, r = (x0 ++ a, j, nl, true) ∧ AtomL a ∧ (x0 ++ a).length ≤ 140737488355328 := by
  have num : ∀ (k : Nat), (pretty_appendPrettyNumber.f k x0 x i nl).bind (fun bt504 => (some (bt504.1, bt504.2.1, bt504.2.2.1, bt504.2.2.2))) = some r → ∃ a, r = (x0 ++ a, j, nl, true) ∧ AtomL a ∧ (x0 ++ a).length ≤ 140737488355328 := by
    intro k h
    replace h := Option.bind_eq_some_iff.mp h
    obtain ⟨⟨r1, r2, r3, r4⟩, e, h⟩ := h
    simp only [Option.some.injEq] at h
    unfold pretty_appendPrettyNumber.f at e
    rw [w64p (by omega) (by omega)] at e
    obtain ⟨e1, e2⟩ := num_inv h0 hL hj hst k (i + 1) (r1, r2, r3, r4) (by omega) (by omega) (fun p h1 h2 => by have := hn p (by omega) h2; unfold NumCh at this; unfold NumStop; omega) e
    rw [e1] at h e2
    subst h
    refine ⟨seg x i j, rfl, ⟨?_, fun c hc => ?_⟩, e2⟩
    · intro hs
      have := seg_len x i j h0 (by omega) hj
      rw [hs] at this
      simp at this
      omega
    · obtain ⟨p, p1, p2, p3, rfl⟩ := seg_mem h0 hc
      have := hn p p1 p2
      unfold NumCh at this
      omega
  have hj1 : ∀ (k : Nat), pAny.j1 VO k x0 x i pr wd pre ind tabs nl mx true = some r → ∃ a, r = (x0 ++ a, j, nl, true) ∧ AtomL a ∧ (x0 ++ a).length ≤ 140737488355328 := by
    intro k h
    cases k with
    | zero => simp [pAny.j1] at h
    | succ k => rw [pAny.j1, if_pos rfl] at h; exact num k h
  cases k with
  | zero => simp [pAny.l0] at h
  | succ k =>
    rw [pAny.l0, if_pos (by omega), if_pos h0, if_neg (by omega), if_neg (by omega)] at h
    rcases hd with hd | hd
    · rw [if_pos (by omega), if_pos hd.2] at h; exact hj1 k h
    · rw [if_neg (by omega), if_pos hd] at h; exact hj1 k h
theorem any_word {k : Nat} {i j : Int} {r : Res} (h0 : 0 ≤ i) (hij : i < j) (hj : j ≤ x.length) (hL : x.length ≤ 1000000) (hw : seg x i j = [110, 117, 108, 108] ∨ seg x i j = [102, 97, 108, 115, 101] ∨ seg x i j = [116, 114, 117, 101])
    (h : pAny.l0 VO k x0 x i pr wd pre ind tabs nl mx = some r) : ∃ a, r = (x0 ++ a, j, nl, true) ∧ AtomL a ∧ (x0 ++ a).length ≤ 140737488355328 := by
  have hl := seg_len x i j h0 (by omega) hj
  have b0 := seg_rd x i j 0 h0 (by omega) (by omega) hj
  rw [show i + 0 = i by omega] at b0
  have fin : ∀ (w : List Int) (n : Int), AtomL w → (w.length : Int) = n → seg x i j = w → (if x0.length + w.length < 140737488355328 then (some ((x0 ++ w), wrap64 (i + n), nl, true)) else (none)) = some r → ∃ a, r = (x0 ++ a, j, nl, true) ∧ AtomL a ∧ (x0 ++ a).length ≤ 140737488355328 := by
    intro w n ha hn hs h
    obtain ⟨c, h⟩ := ite_some h
    rw [hs] at hl
    rw [w64p (by omega) (by omega)] at h
    simp only [Option.some.injEq] at h
    subst h
    exact ⟨w, by rw [show i + n = j by omega], ha, by rw [List.length_append]; omega⟩
  have at_ : ∀ w : List Int, seg x i j = w → rd w 0 = rd x i := fun w e => by rw [← e]; exact b0
  rcases hw with hw | hw | hw
  · have b1 := seg_rd x i j 1 h0 (by omega) (by rw [hw] at hl; simp at hl; omega) hj
    rw [hw] at b1
    have c0 : rd x i = 110 := (at_ _ hw).symm
    have c1 : rd x (i + 1) = 117 := b1.symm
    rw [hw] at hl
    simp only [List.length_cons, List.length_nil] at hl
    obtain ⟨k, h⟩ := any_j1 h0 (by omega) (by omega) (by omega) (by omega) (by omega) ⟨by omega, by omega, by omega, by omega, fun _ => ⟨by omega, c1⟩⟩ h
    cases k with
    | zero => simp [pAny.j1] at h
    | succ k =>
      rw [pAny.j1, if_neg (by decide), if_pos h0, if_pos (by omega), if_neg (by omega), if_neg (by omega), if_neg (by omega), if_neg (by omega), if_pos c0, Option.bind_some] at h
      exact fin _ 4 ⟨by decide, by decide⟩ rfl hw h
  · have c0 : rd x i = 102 := (at_ _ hw).symm
    obtain ⟨k, h⟩ := any_j1 h0 (by omega) (by omega) (by omega) (by omega) (by omega) (by omega) h
    cases k with
    | zero => simp [pAny.j1] at h
    | succ k =>
      rw [pAny.j1, if_neg (by decide), if_pos h0, if_pos (by omega), if_neg (by omega), if_neg (by omega), if_neg (by omega), if_pos c0, Option.bind_some] at h
      exact fin _ 5 ⟨by decide, by decide⟩ rfl hw h
  · have c0 : rd x i = 116 := (at_ _ hw).symm
    obtain ⟨k, h⟩ := any_j1 h0 (by omega) (by omega) (by omega) (by omega) (by omega) (by omega) h
    cases k with
    | zero => simp [pAny.j1] at h
    | succ k =>
      rw [pAny.j1, if_neg (by decide), if_pos h0, if_pos (by omega), if_neg (by omega), if_neg (by omega), if_pos c0, Option.bind_some] at h
      exact fin _ 4 ⟨by decide, by decide⟩ rfl hw h
end

theorem G.le {x : List Int} {i j : Int} {b : Bool} (h : G x b i j) : i < j ∧ j ≤ x.length := by
  induction h with
  | num i j h0 h1 h2 h3 h4 => exact ⟨h1, h2⟩
  | word i j h0 h1 h2 h3 => exact ⟨h1, h2⟩
  | empty i p h0 h1 h2 h3 h4 => have := h2.1; omega
  | arr i p u j h0 h1 h2 h3 h4 ih1 ih2 => have := h2.1; omega
  | close q r h1 h2 h3 => have := h1.1; omega
  | next q r t u j h1 h2 h3 h4 h5 h6 ih1 ih2 => have := h1.1; have := h4.1; omega
/-- How a value begins. -/
theorem G.starts {x : List Int} {i j : Int} {b : Bool} (h : G x b i j) : b = false → 0 ≤ i ∧ i < j ∧ j ≤ x.length ∧ 32 < rd x i ∧ rd x i ≠ 93 ∧ rd x i ≠ 44 := by
  intro hb
  cases h with
  | num i j h0 h1 h2 h3 h4 => exact ⟨h0, h1, h2, by omega, by omega, by omega⟩
  | word i j h0 h1 h2 h3 =>
    have b0 := seg_rd x i j 0 h0 (by omega) (by omega) h2
    rw [show i + 0 = i by omega] at b0
    have key : rd x i = 110 ∨ rd x i = 102 ∨ rd x i = 116 := by
      rcases h3 with e | e | e
      · rw [e] at b0; exact .inl b0.symm
      · rw [e] at b0; exact .inr (.inl b0.symm)
      · rw [e] at b0; exact .inr (.inr b0.symm)
    exact ⟨h0, h1, h2, by omega, by omega, by omega⟩
  | empty i p h0 h1 h2 h3 h4 => exact ⟨h0, by have := h2.1; omega, by omega, by omega, by omega, by omega⟩
  | arr i p u j h0 h1 h2 h3 h4 =>
    have a1 := h2.1
    have a2 := h3.le
    have a3 := h4.le
    exact ⟨h0, by omega, a3.2, by omega, by omega, by omega⟩
  | close q r h1 h2 h3 => cases hb
  | next q r t u j h1 h2 h3 h4 h5 h6 => cases hb
end Go.Proofs.Ytkbeiidjagodnaa.Pr
/- pretty's attempt at one line, along the grammar: plain Lean. -/
namespace Go.Proofs.Ytkbeiidjagodnaa.Pr
open Go.RowKit Go.Proofs.YtkbeiidjagodnaaW.PrintWords Go.Proofs.YtkbeiidjagodnaaW.PrintLast Go.Proofs.YtkbeiidjagodnaaW.PrintMore
set_option linter.unusedVariables false

section
variable {VA : H_pAny} {VO : H_pObj} {x : List Int} {pr : Bool} {wd : Int} {pre ind : ByteArray} {tabs nl mx : Int}
theorem loop_gap {j : Int} (hL : x.length ≤ 1000000) (hj : j ≤ x.length) {buf : List Int} {n : Int} {r : Res} : ∀ (d k : Nat) (q : Int), 0 ≤ q → Gap x q j → j - q = d → pObj.l0 VA VO k buf x q 91 93 pr wd pre ind tabs nl mx [] n = some r → ∃ k', pObj.l0 VA VO k' buf x j 91 93 pr wd pre ind tabs nl mx [] n = some r
  | 0, k, q, h0, hg, hd, h => by obtain rfl : q = j := by omega
                                 exact ⟨k, h⟩
  | d + 1, k, q, h0, hg, hd, h => by
    cases k with
    | zero => simp [pObj.l0] at h
    | succ k =>
      rw [pObj.l0, if_pos (by omega), if_pos h0, if_pos (hg.2 q (by omega) (by omega)), w64p (by omega) (by omega)] at h
      exact loop_gap hL hj d k (q + 1) (by omega) ⟨by omega, fun p h1 h2 => hg.2 p (by omega) h2⟩ (by omega) h
/-- The round of an element, with all that is written ahead of it. -/
theorem loop_elem {k : Nat} {buf : List Int} {q n : Int} {r : Res} (h0 : 0 ≤ q) (h1 : q < x.length) (hL : x.length ≤ 1000000) (hn0 : 0 ≤ n) (hc : 32 < rd x q) (hc1 : rd x q ≠ 93) (hw : wd ≠ -1)
    (h : pObj.l0 VA VO k buf x q 91 93 pr wd pre ind tabs nl mx [] n = some r) : ∃ k' y, (y = (if n > 0 then (buf ++ [44]) ++ [32] else buf)) ∧ (n > 0 → y.length ≤ 140737488355328) ∧ pObj.j7 VA VO k' y x q 91 93 pr wd pre ind tabs nl mx [] n = some r := by
  cases k with
  | zero => simp [pObj.l0] at h
  | succ k =>
    rw [pObj.l0, if_pos h1, if_pos h0, if_neg (by omega), if_neg hc1, if_pos rfl] at h
    cases k with
    | zero => simp [pObj.j6] at h
    | succ k =>
      rw [pObj.j6, if_pos rfl] at h
      by_cases c : n > 0
      · rw [if_pos c] at h
        obtain ⟨c1, h⟩ := ite_some h
        rw [Option.bind_some, if_neg hw, if_pos rfl] at h
        obtain ⟨c2, h⟩ := ite_some h
        refine ⟨k, _, by rw [if_pos c], fun _ => ?_, h⟩
        rw [List.length_append, List.length_singleton]; omega
      · rw [if_neg c] at h
        exact ⟨k, _, by rw [if_neg c], fun e => absurd e c, h⟩
/-- Behind what is written ahead of an element: the element, then the loop. -/
theorem loop_j9 {k : Nat} {y : List Int} {q n a b c d : Int} {r : Res} (h0 : 0 ≤ q) (h1 : q < x.length) (hL : x.length ≤ 1000000) (ht : 0 ≤ tabs ∧ tabs ≤ 1000000)
    (h : pObj.j8 VA VO k y x q 91 93 pr wd pre ind tabs nl mx [] n a b c d = some r) :
    ∃ k' v, VA.f k' y x q pr wd pre ind false (tabs + 1) nl mx = some v ∧ (v.2.2.2 = true → 0 ≤ v.2.1 → v.2.1 ≤ 1000000 → ∃ k'', pObj.l0 VA VO k'' v.1 x v.2.1 91 93 pr wd pre ind tabs v.2.2.1 mx [] (wrap64 (n + 1)) = some r) := by
  cases k with
  | zero => simp [pObj.j8] at h
  | succ k =>
    rw [pObj.j8, if_neg (by decide)] at h
    cases k with
    | zero => simp [pObj.j9] at h
    | succ k =>
      rw [pObj.j9, w64p (x := tabs + 1) (by omega) (by omega)] at h
      replace h := Option.bind_eq_some_iff.mp h
      obtain ⟨⟨v1, v2, v3, v4⟩, hv, h⟩ := h
      refine ⟨k, (v1, v2, v3, v4), hv, fun e e1 e2 => ?_⟩
      dsimp only at e e1 e2 h ⊢
      subst e
      have key : pObj.j10 VA VO k v1 x v2 91 93 pr wd pre ind tabs v3 mx [] n false a b c d = some r := by
        split at h
        · exact h
        · exact h
      cases k with
      | zero => simp [pObj.j10] at key
      | succ k =>
        cases k with
        | zero =>
          rw [pObj.j10, if_neg (by decide)] at key
          split at key
          · split at key <;> simp [pObj.j11] at key
          · simp [pObj.j11] at key
        | succ k =>
          rw [j10_eq VA VO x 91 93 pr wd pre ind tabs mx k v1 v2 v3 n a b c d e1 (by omega)] at key
          exact ⟨k, key⟩
theorem loop_close_f {k : Nat} {buf : List Int} {q n : Int} {r : Res} (h0 : 0 ≤ q) (h1 : q < x.length) (hL : x.length ≤ 1000000) (hc : rd x q = 93) (h : pObj.l0 VA VO k buf x q 91 93 false wd pre ind tabs nl mx [] n = some r) :
    r = (buf ++ [93], q + 1, nl, true) ∧ r.1.length ≤ 140737488355328 := by
  cases k with
  | zero => simp [pObj.l0] at h
  | succ k =>
    rw [pObj.l0, if_pos h1, if_pos h0, if_neg (by omega), if_pos hc, if_neg (by decide)] at h
    obtain ⟨c, h⟩ := ite_some h
    rw [w64p (by omega) (by omega)] at h
    simp only [Option.some.injEq] at h
    subst h
    exact ⟨rfl, by dsimp only; rw [List.length_append, List.length_singleton]; omega⟩
/-- The begin of an array: the bracket, then the loop. -/
theorem obj_j1 {k : Nat} {buf : List Int} {i : Int} {r : Res} (h0 : 0 ≤ i) (h1 : i < x.length) (hL : x.length ≤ 1000000) (h : pObj.j1 VA VO k buf x i 91 93 pr wd pre ind tabs nl mx = some r) :
    (buf ++ [91]).length ≤ 140737488355328 ∧ ∃ k', pObj.l0 VA VO k' (buf ++ [91]) x (i + 1) 91 93 pr wd pre ind tabs nl mx [] 0 = some r := by
  cases k with
  | zero => simp [pObj.j1] at h
  | succ k =>
    rw [pObj.j1] at h
    obtain ⟨c, h⟩ := ite_some h
    rw [Option.bind_some, if_neg (by decide), w64p (by omega) (by omega)] at h
    refine ⟨by rw [List.length_append, List.length_singleton]; omega, ?_⟩
    cases k with
    | zero => simp [pObj.j2] at h
    | succ k =>
      rw [pObj.j2, if_neg (by decide)] at h
      exact ⟨k, h⟩
end

/-- What is written on one line: no line feed, no blank at its end. -/
def One (o : List Int) : Prop := Bytes o ∧ (∀ c ∈ o, c ≠ 10) ∧ ∃ o' c, o = o' ++ [c] ∧ c ≠ 32
theorem AtomL.one {a : List Int} (h : AtomL a) : One a := by
  obtain ⟨h0, h1⟩ := h
  refine ⟨fun c hc => by have := h1 c hc; omega, fun c hc => by have := h1 c hc; omega, a.dropLast, a.getLast h0, (List.dropLast_concat_getLast h0).symm, ?_⟩
  have := h1 _ (List.getLast_mem h0)
  omega

/-- The attempt writes a value, and what follows it in its array, on one line. -/
def CA (x : List Int) : Bool → Int → Int → Prop
  | false, i, j => Stop x j → ∀ (D k : Nat) (buf : List Int) (wd : Int) (pre ind : ByteArray) (tabs nl mx : Int) (r : Res), wd ≠ -1 → mx ≠ -1 → 0 ≤ tabs → tabs ≤ i →
      (pAny.at_ D).f k buf x i false wd pre ind false tabs nl mx = some r → ∃ o n', r = (buf ++ o, j, n', true) ∧ One o ∧ r.1.length ≤ 140737488355328
  | true, q, j => ∀ (D k : Nat) (buf : List Int) (wd : Int) (pre ind : ByteArray) (tabs nl mx n : Int) (r : Res), wd ≠ -1 → mx ≠ -1 → 0 ≤ tabs → tabs + 1 ≤ q → 1 ≤ n → n ≤ q → 0 ≤ q →
      pObj.l0 (pAny.at_ D) (pObj.at_ D) k buf x q 91 93 false wd pre ind tabs nl mx [] n = some r → ∃ o n', r = (buf ++ o, j, n', true) ∧ One o ∧ r.1.length ≤ 140737488355328
theorem stop_of {x : List Int} {b : Bool} {q j : Int} (h : G x b q j) (hb : b = true) : Stop x q := by
  cases h with
  | close q r h1 h2 h3 =>
    by_cases e : q = r
    · subst e; exact .inr (.inr (.inr (.inr (.inl h3))))
    · exact .inr (.inl (h1.2 q (by omega) (by have := h1.1; omega)))
  | next q r t u j h1 h2 h3 h4 h5 h6 =>
    by_cases e : q = r
    · subst e; exact .inr (.inr (.inl h3))
    · exact .inr (.inl (h1.2 q (by omega) (by have := h1.1; omega)))
  | num => cases hb
  | word => cases hb
  | empty => cases hb
  | arr => cases hb

theorem elem_f {x : List Int} (hL : x.length ≤ 1000000) {q t u j : Int} (hq0 : 0 ≤ q) (hq : q < x.length) (hc : 32 < rd x q) (hc1 : rd x q ≠ 93) (hto : (q = t) ∨ (rd x q = 44 ∧ Gap x (q + 1) t)) (hg : G x false t u) (hv : CA x false t u) (hst : Stop x u) (hr : CA x true u j)
    {D k : Nat} {buf : List Int} {wd : Int} {pre ind : ByteArray} {tabs nl mx n : Int} {r : Res} (hw : wd ≠ -1) (hm : mx ≠ -1) (ht0 : 0 ≤ tabs) (ht1 : tabs + 1 ≤ q) (hn0 : 0 ≤ n) (hn1 : n ≤ q)
    (h : pObj.l0 (pAny.at_ D) (pObj.at_ D) k buf x q 91 93 false wd pre ind tabs nl mx [] n = some r) : ∃ o n', r = (buf ++ o, j, n', true) ∧ One o ∧ r.1.length ≤ 140737488355328 := by
  have hs := hg.starts rfl
  have htu := hg.le
  have hqt : q ≤ t := by rcases hto with e | ⟨_, e⟩; omega; have := e.1; omega
  obtain ⟨k1, y, hy, _, h⟩ := loop_elem hq0 hq hL hn0 hc hc1 hw h
  cases k1 with
  | zero => simp [pObj.j7] at h
  | succ k1 =>
    rw [pObj.j7, if_neg (by decide)] at h
    obtain ⟨k2, v, hva, hk⟩ := loop_j9 hq0 hq hL ⟨ht0, by omega⟩ h
    have hva' : ∃ k3, (pAny.at_ D).f k3 y x t false wd pre ind false (tabs + 1) nl mx = some v := by
      rcases hto with e | ⟨e1, e2⟩
      · subst e; exact ⟨k2, hva⟩
      · cases D with
        | zero => cases hva
        | succ D =>
          have hva : pAny.l0 (pObj.at_ D) k2 y x q false wd pre ind (tabs + 1) nl mx = some v := hva
          obtain ⟨k3, hva⟩ := any_comma hq0 hq hL e1 hva
          obtain ⟨k4, hva⟩ := any_gap hL (by omega) (by omega) e2 (t - (q + 1)).toNat (q + 1) (by omega) (by have := e2.1; omega) hva
          exact ⟨k4, hva⟩
    obtain ⟨k3, hva⟩ := hva'
    obtain ⟨o, n', rfl, ho, _⟩ := hv hst D k3 y wd pre ind (tabs + 1) nl mx v hw hm (by omega) (by omega) hva
    obtain ⟨k4, hl⟩ := hk rfl (by dsimp only; omega) (by dsimp only; omega)
    dsimp only at hl
    rw [w64p (by omega) (by omega)] at hl
    obtain ⟨o2, n2, rfl, ho2, hlen⟩ := hr D k4 (y ++ o) wd pre ind tabs n' mx (n + 1) r hw hm ht0 (by omega) (by omega) (by omega) (by omega) hl
    obtain ⟨b1, b2, b3⟩ := ho
    obtain ⟨c1, c2, o3, c, rfl, c3⟩ := ho2
    by_cases hn : n > 0
    · rw [if_pos hn] at hy
      subst hy
      refine ⟨[44, 32] ++ o ++ (o3 ++ [c]), n2, by simp, ⟨?_, ?_, [44, 32] ++ o ++ o3, c, by simp, c3⟩, hlen⟩
      · exact (Bytes.append (Bytes.append (by intro c hc; simp at hc; omega) b1) c1)
      · intro c hc
        rcases List.mem_append.1 hc with hc | hc
        · rcases List.mem_append.1 hc with hc | hc
          · simp at hc; omega
          · exact b2 c hc
        · exact c2 c hc
    · rw [if_neg hn] at hy
      subst hy
      refine ⟨o ++ (o3 ++ [c]), n2, by simp, ⟨b1.append c1, ?_, o ++ o3, c, by simp, c3⟩, hlen⟩
      intro c hc
      exact (List.mem_append.1 hc).elim (b2 c) (c2 c)

/-- An array, by the attempt. -/
theorem objA {x : List Int} (hL : x.length ≤ 1000000) {i j : Int} (h0 : 0 ≤ i) (h1 : rd x i = 91) (hi : i < x.length)
    (hin : (∃ p, Gap x (i + 1) p ∧ p < x.length ∧ rd x p = 93 ∧ j = p + 1) ∨ (∃ p u, Gap x (i + 1) p ∧ G x false p u ∧ CA x false p u ∧ Stop x u ∧ CA x true u j))
    (D k : Nat) (buf : List Int) (wd : Int) (pre ind : ByteArray) (tabs nl mx : Int) (r : Res) (hw : wd ≠ -1) (hm : mx ≠ -1) (ht0 : 0 ≤ tabs) (ht1 : tabs ≤ i)
    (h : (pObj.at_ D).f k buf x i 91 93 false wd pre ind false tabs nl mx = some r) : ∃ o n', r = (buf ++ o, j, n', true) ∧ One o ∧ r.1.length ≤ 140737488355328 := by
  cases D with
  | zero => cases h
  | succ D =>
    have h : pObj.f (pAny.at_ D) (pObj.at_ D) k buf x i 91 93 false wd pre ind false tabs nl mx = some r := h
    have hj1 : ∃ k', pObj.j1 (pAny.at_ D) (pObj.at_ D) k' buf x i 91 93 false wd pre ind tabs nl mx = some r := by
      unfold pObj.f at h
      split at h
      · rw [if_neg (by decide)] at h
        cases k with
        | zero => simp [pObj.j0] at h
        | succ k =>
          rw [pObj.j0, if_neg (by decide), if_neg hm, if_neg (by decide)] at h
          exact ⟨k, h⟩
      · exact ⟨k, h⟩
    obtain ⟨k1, hj1⟩ := hj1
    obtain ⟨_, k2, hl⟩ := obj_j1 h0 hi hL hj1
    rcases hin with ⟨p, g1, g2, g3, rfl⟩ | ⟨p, u, g1, g2, g3, g4, g5⟩
    · obtain ⟨k3, hl⟩ := loop_gap hL (by omega) (p - (i + 1)).toNat k2 (i + 1) (by omega) g1 (by have := g1.1; omega) hl
      obtain ⟨rfl, hlen⟩ := loop_close_f (by have := g1.1; omega) g2 hL g3 hl
      exact ⟨[91, 93], nl, by simp, ⟨by intro c hc; simp at hc; omega, by intro c hc; simp at hc; omega, [91], 93, rfl, by decide⟩, hlen⟩
    · have hs := g2.starts rfl
      have hp := g1.1
      obtain ⟨k3, hl⟩ := loop_gap hL (by omega) (p - (i + 1)).toNat k2 (i + 1) (by omega) g1 (by omega) hl
      obtain ⟨o, n', rfl, ⟨b1, b2, o', c, rfl, b3⟩, hlen⟩ := elem_f hL (by omega) (by omega) hs.2.2.2.1 hs.2.2.2.2.1 (.inl rfl) g2 g3 g4 g5 hw hm ht0 (by omega) (by omega) (by omega) hl
      refine ⟨[91] ++ (o' ++ [c]), n', by simp, ⟨Bytes.append (by intro c hc; simp at hc; omega) b1, ?_, [91] ++ o', c, by simp, b3⟩, hlen⟩
      intro c hc
      rcases List.mem_append.1 hc with hc | hc
      · simp at hc; omega
      · exact b2 c hc

theorem ca_all {x : List Int} (hL : x.length ≤ 1000000) {b : Bool} {i j : Int} (h : G x b i j) : CA x b i j := by
  induction h with
  | num i j h0 h1 h2 h3 h4 =>
    intro hst D k buf wd pre ind tabs nl mx r hw hm ht0 ht1 h
    cases D with
    | zero => cases h
    | succ D =>
      obtain ⟨a, rfl, ha, hlen⟩ := any_num (VO := pObj.at_ D) h0 h1 h2 hL h3 h4 hst h
      exact ⟨a, nl, rfl, ha.one, hlen⟩
  | word i j h0 h1 h2 h3 =>
    intro hst D k buf wd pre ind tabs nl mx r hw hm ht0 ht1 h
    cases D with
    | zero => cases h
    | succ D =>
      obtain ⟨a, rfl, ha, hlen⟩ := any_word (VO := pObj.at_ D) h0 h1 h2 hL h3 h
      exact ⟨a, nl, rfl, ha.one, hlen⟩
  | empty i p h0 h1 h2 h3 h4 =>
    intro hst D k buf wd pre ind tabs nl mx r hw hm ht0 ht1 h
    cases D with
    | zero => cases h
    | succ D =>
      have hp := h2.1
      obtain ⟨k', h⟩ := any_arr (VO := pObj.at_ D) h0 (by omega) h1 h
      exact objA hL h0 h1 (by omega) (.inl ⟨p, h2, h3, h4, rfl⟩) D k' buf wd pre ind tabs nl mx r hw hm ht0 ht1 h
  | arr i p u j h0 h1 h2 h3 h4 ih1 ih2 =>
    intro hst D k buf wd pre ind tabs nl mx r hw hm ht0 ht1 h
    cases D with
    | zero => cases h
    | succ D =>
      have hp := h2.1
      have := h3.le
      obtain ⟨k', h⟩ := any_arr (VO := pObj.at_ D) h0 (by omega) h1 h
      exact objA hL h0 h1 (by omega) (.inr ⟨p, u, h2, h3, ih1, stop_of h4 rfl, ih2⟩) D k' buf wd pre ind tabs nl mx r hw hm ht0 ht1 h
  | close q r' h1 h2 h3 =>
    intro D k buf wd pre ind tabs nl mx n r hw hm ht0 ht1 hn0 hn1 hq h
    have hp := h1.1
    obtain ⟨k3, hl⟩ := loop_gap hL (by omega) (r' - q).toNat k q hq h1 (by omega) h
    obtain ⟨rfl, hlen⟩ := loop_close_f (by omega) h2 hL h3 hl
    exact ⟨[93], nl, rfl, ⟨by intro c hc; simp at hc; omega, by intro c hc; simp at hc; omega, [], 93, rfl, by decide⟩, hlen⟩
  | next q r' t u j h1 h2 h3 h4 h5 h6 ih1 ih2 =>
    intro D k buf wd pre ind tabs nl mx n r hw hm ht0 ht1 hn0 hn1 hq h
    have hp := h1.1
    obtain ⟨k3, hl⟩ := loop_gap hL (by omega) (r' - q).toNat k q hq h1 (by omega) h
    exact elem_f hL (by omega) h2 (by omega) (by omega) (.inr ⟨h3, h4⟩) h5 ih1 (stop_of h6 rfl) ih2 hw hm ht0 (by omega) (by omega) (by omega) hl
end Go.Proofs.Ytkbeiidjagodnaa.Pr
/- pretty's lines, along the grammar: no line on which an array that is not empty opens and closes is longer than the width: plain Lean. -/
namespace Go.Proofs.Ytkbeiidjagodnaa.Pr
open Go.RowKit Go.Proofs.YtkbeiidjagodnaaW.PrintWords Go.Proofs.YtkbeiidjagodnaaW.PrintLast Go.Proofs.YtkbeiidjagodnaaW.PrintMore
set_option linter.unusedVariables false

/-- Behind each opening bracket that is not the last byte stands a closing one. -/
def NoOpen : List Int → Prop
  | a :: b :: t => (a = 91 → b = 93) ∧ NoOpen (b :: t)
  | _ => True
theorem noOpen_no : ∀ {l : List Int}, (∀ c ∈ l, c ≠ 91) → NoOpen l
  | [], _ => trivial
  | [a], _ => trivial
  | a :: b :: t, h => ⟨fun e => absurd e (h a (List.mem_cons_self ..)), noOpen_no fun c hc => h c (List.mem_cons_of_mem _ hc)⟩
theorem noOpen_app : ∀ {a b : List Int}, (∀ c ∈ a, c ≠ 91) → NoOpen b → NoOpen (a ++ b)
  | [], b, _, hb => hb
  | [a], [], _, _ => trivial
  | [a], c :: t, h, hb => ⟨fun e => absurd e (h a (List.mem_cons_self ..)), hb⟩
  | a :: a' :: t, b, h, hb => ⟨fun e => absurd e (h a (List.mem_cons_self ..)), noOpen_app (a := a' :: t) (fun c hc => h c (List.mem_cons_of_mem _ hc)) hb⟩
theorem noOpen_left : ∀ {a b : List Int}, NoOpen (a ++ b) → NoOpen a
  | [], _, _ => trivial
  | [a], _, _ => trivial
  | a :: a' :: t, b, h => ⟨h.1, noOpen_left (a := a' :: t) h.2⟩
def Fine (w : Int) (l : List Int) : Prop := NoOpen l ∨ (l.length : Int) ≤ w + 1
def CL (w : Int) (l : List Int) : Prop := NoOpen (l ++ [44]) ∨ (l.length : Int) ≤ w
theorem CL.fine {w : Int} {l : List Int} (h : CL w l) : Fine w l := h.elim (fun h => .inl (noOpen_left h)) (fun h => .inr (by omega))
theorem CL.comma {w : Int} {l : List Int} (h : CL w l) : Fine w (l ++ [44]) := h.elim .inl (fun h => .inr (by rw [List.length_append, List.length_singleton]; omega))
def flat (ls : List (List Int)) : List Int := (ls.map (· ++ [10])).flatten
theorem flat_snoc (ls : List (List Int)) (l : List Int) : flat (ls ++ [l]) = flat ls ++ l ++ [10] := by unfold flat; simp

/-- A buffer: its finished lines, and the open one. -/
structure Bf (w : Int) (buf : List Int) (ls : List (List Int)) (cur : List Int) : Prop where
  eq : buf = flat ls ++ cur
  fine : ∀ l ∈ ls, (∀ c ∈ l, c ≠ 10) ∧ Fine w l
  cur10 : ∀ c ∈ cur, c ≠ 10
  bytes : Bytes buf
  len : buf.length ≤ 140737488355328
theorem Bf.add {w : Int} {buf : List Int} {ls : List (List Int)} {cur o : List Int} (h : Bf w buf ls cur) (ho : Bytes o) (h10 : ∀ c ∈ o, c ≠ 10) (hl : (buf ++ o).length ≤ 140737488355328) : Bf w (buf ++ o) ls (cur ++ o) :=
  ⟨by rw [h.eq, List.append_assoc], h.fine, fun c hc => (List.mem_append.1 hc).elim (h.cur10 c) (h10 c), h.bytes.append ho, hl⟩
theorem Bf.line {w : Int} {buf : List Int} {ls : List (List Int)} {cur : List Int} (h : Bf w buf ls cur) (hf : Fine w cur) (hl : (buf ++ [10]).length ≤ 140737488355328) : Bf w (buf ++ [10]) (ls ++ [cur]) [] :=
  ⟨by rw [h.eq, flat_snoc, List.append_nil], fun l hl => (List.mem_append.1 hl).elim (h.fine l) (fun hl => by rw [List.mem_singleton.1 hl]; exact ⟨h.cur10, hf⟩), fun c hc => (by cases hc), h.bytes.append (by intro c hc; simp at hc; omega), hl⟩
def Sp (l : List Int) : Prop := ∀ c ∈ l, c = 32
theorem Sp.bytes {l : List Int} (h : Sp l) : Bytes l := fun c hc => by rw [h c hc]; omega
theorem Sp.no10 {l : List Int} (h : Sp l) : ∀ c ∈ l, c ≠ 10 := fun c hc => by rw [h c hc]; omega
theorem Sp.no91 {l : List Int} (h : Sp l) : ∀ c ∈ l, c ≠ 91 := fun c hc => by rw [h c hc]; omega
/-- Ahead of a value: the open line holds blanks alone. -/
def BInv (w : Int) (buf : List Int) (nl : Int) : Prop := ∃ ls cur, Bf w buf ls cur ∧ Sp cur ∧ 0 ≤ nl ∧ nl + cur.length ≤ buf.length
/-- Behind a value. -/
def BPost (w : Int) (buf : List Int) : Prop := ∃ ls cur, Bf w buf ls cur ∧ CL w cur ∧ ∃ c0 c, cur = c0 ++ [c] ∧ c ≠ 32
/-- Behind the opening bracket. -/
def BOpen (w : Int) (buf : List Int) : Prop := ∃ ls sp, Bf w buf ls (sp ++ [91]) ∧ Sp sp
theorem BPost.last {w : Int} {buf : List Int} (h : BPost w buf) : ∃ b c, buf = b ++ [c] ∧ c ≠ 32 := by
  obtain ⟨ls, cur, hb, _, c0, c, rfl, hc⟩ := h
  exact ⟨flat ls ++ c0, c, by rw [hb.eq, List.append_assoc], hc⟩
theorem rd_last (b : List Int) (c : Int) : rd (b ++ [c]) (((b ++ [c]).length : Int) - 1) = c := by
  unfold rd
  rw [List.length_append, List.length_singleton, show (((b.length + 1 : Nat) : Int) - 1).toNat = b.length by omega, List.getD_eq_getElem?_getD, List.getElem?_append_right (Nat.le_refl _), Nat.sub_self]
  rfl
theorem set_last (b : List Int) (c d : Int) : (b ++ [c]).set (((b ++ [c]).length : Int) - 1).toNat d = b ++ [d] := by
  rw [List.length_append, List.length_singleton, show (((b.length + 1 : Nat) : Int) - 1).toNat = b.length by omega, List.set_append_right _ _ (Nat.le_refl _), Nat.sub_self]
  rfl

section
variable {VA : H_pAny} {VO : H_pObj} {x : List Int} {w : Int} {ind : ByteArray} {tabs nl : Int}
/-- Ahead of an element: a line feed (in the place of a blank), the indent. -/
theorem j7_inv {k : Nat} {b : List Int} {c q n : Int} {r : Res} (hlen : (b ++ [c]).length ≤ 140737488355328) (ht : 0 ≤ tabs ∧ tabs ≤ 1000000) (h : pObj.j7 VA VO k (b ++ [c]) x q 91 93 true w ⟨#[]⟩ ind tabs nl (-1) [] n = some r) :
    ∃ k' z t, ((c = 32 ∧ z = b ++ [10]) ∨ (c ≠ 32 ∧ z = (b ++ [c]) ++ [10])) ∧ z.length ≤ 140737488355328 ∧ pretty_appendTabs.f k' z ⟨#[]⟩ ind (tabs + 1) = some t ∧
      pObj.j8 VA VO k' t x q 91 93 true w ⟨#[]⟩ ind tabs ((b ++ [c]).length : Int) (-1) [] n 0 0 0 0 = some r := by
  cases k with
  | zero => simp [pObj.j7] at h
  | succ k =>
    have hl : (b ++ [c]).length = b.length + 1 := by rw [List.length_append]; rfl
    rw [pObj.j7, if_pos rfl, w64p (x := ((b ++ [c]).length : Int) - 1) (by omega) (by omega), if_pos (by omega), if_pos (by omega), rd_last, set_last] at h
    have fin : ∀ z : List Int, (if (91 : Int) = 123 then ((pretty_appendTabs.f k z ⟨#[]⟩ ind (wrap64 (tabs + 1))).bind fun t444 => (pObj.j8 VA VO k t444 x q 91 93 true w ⟨#[]⟩ ind tabs ((b ++ [c]).length : Int) (-1) [] n 0 0 0 0)) else ((pretty_appendTabs.f k z ⟨#[]⟩ ind (wrap64 (tabs + 1))).bind fun t447 => (pObj.j8 VA VO k t447 x q 91 93 true w ⟨#[]⟩ ind tabs ((b ++ [c]).length : Int) (-1) [] n 0 0 0 0))) = some r →
        ∃ t, pretty_appendTabs.f k z ⟨#[]⟩ ind (tabs + 1) = some t ∧ pObj.j8 VA VO k t x q 91 93 true w ⟨#[]⟩ ind tabs ((b ++ [c]).length : Int) (-1) [] n 0 0 0 0 = some r := by
      intro z h
      rw [if_neg (by decide), w64p (by omega) (by omega)] at h
      exact Option.bind_eq_some_iff.mp h
    by_cases hc : c = 32
    · rw [if_pos hc, Option.bind_some] at h
      obtain ⟨t, h1, h2⟩ := fin _ h
      exact ⟨k, _, t, .inl ⟨hc, rfl⟩, by rw [List.length_append, List.length_singleton]; omega, h1, h2⟩
    · rw [if_neg hc] at h
      obtain ⟨h3, h⟩ := ite_some h
      rw [Option.bind_some] at h
      obtain ⟨t, h1, h2⟩ := fin _ h
      exact ⟨k, _, t, .inr ⟨hc, rfl⟩, by rw [List.length_append (bs := [10]), List.length_singleton]; omega, h1, h2⟩
/-- The closing bracket of an empty array, and of another. -/
theorem close_p {k : Nat} {b : List Int} {c q n : Int} {r : Res} (h0 : 0 ≤ q) (h1 : q < x.length) (hL : x.length ≤ 1000000) (hlen : (b ++ [c]).length ≤ 140737488355328) (ht : 0 ≤ tabs ∧ tabs ≤ 1000000) (hc : rd x q = 93) (h : pObj.l0 VA VO k (b ++ [c]) x q 91 93 true w ⟨#[]⟩ ind tabs nl (-1) [] n = some r) :
    (n ≤ 0 → c = 91 → r = ((b ++ [c]) ++ [93], q + 1, nl, true) ∧ ((b ++ [c]) ++ [93]).length ≤ 140737488355328) ∧
    (n > 0 → c ≠ 32 → ((b ++ [c]) ++ [10]).length ≤ 140737488355328 ∧ ∃ k' t, pretty_appendTabs.f k' ((b ++ [c]) ++ [10]) ⟨#[]⟩ ind tabs = some t ∧ r = (t ++ [93], q + 1, ((b ++ [c]).length : Int), true) ∧ (t ++ [93]).length ≤ 140737488355328) := by
  have hl : (b ++ [c]).length = b.length + 1 := by rw [List.length_append]; rfl
  cases k with
  | zero => simp [pObj.l0] at h
  | succ k =>
    rw [pObj.l0, if_pos h1, if_pos h0, if_neg (by omega), if_pos hc, if_pos rfl, if_neg (by decide)] at h
    cases k with
    | zero => simp [pObj.j4] at h
    | succ k =>
      rw [pObj.j4, if_neg (by decide)] at h
      cases k with
      | zero => simp [pObj.j5] at h
      | succ k =>
        rw [pObj.j5, w64p (x := q + 1) (by omega) (by omega), w64p (x := ((b ++ [c]).length : Int) - 1) (by omega) (by omega), rd_last] at h
        refine ⟨fun hn hc91 => ?_, fun hn hc32 => ?_⟩
        · rw [if_neg (by omega), if_pos (by omega), if_pos (by omega), if_pos hc91] at h
          obtain ⟨g, h⟩ := ite_some h
          simp only [Option.some.injEq] at h
          subst h
          exact ⟨rfl, by rw [List.length_append (bs := [93]), List.length_singleton]; omega⟩
        · rw [if_pos hn, if_pos (by omega), if_pos (by omega), if_neg hc32] at h
          obtain ⟨g, h⟩ := ite_some h
          have hl2 : ((b ++ [c]) ++ [10]).length = b.length + 2 := by rw [List.length_append, hl]; rfl
          rw [Option.bind_some, w64p (by omega) (by omega), if_pos (by omega), if_pos (by omega), rd_last, if_neg (by decide)] at h
          replace h := Option.bind_eq_some_iff.mp h
          obtain ⟨t, ht', h⟩ := h
          obtain ⟨g2, h⟩ := ite_some h
          simp only [Option.some.injEq] at h
          subst h
          exact ⟨by omega, k, t, ht', rfl, by rw [List.length_append, List.length_singleton]; omega⟩
end

/-- The printing in lines writes a value, and what follows it in its array. -/
def CP (x : List Int) (w : Int) : Bool → Int → Int → Prop
  | false, i, j => Stop x j → ∀ (D k : Nat) (buf : List Int) (ind : ByteArray) (tabs nl : Int) (r : Res), (∀ c ∈ bytesOf ind, c = 32) → BInv w buf nl → 0 ≤ tabs → tabs ≤ i →
      (pAny.at_ D).f k buf x i true w ⟨#[]⟩ ind false tabs nl (-1) = some r → ∃ buf' n', r = (buf', j, n', true) ∧ BPost w buf'
  | true, q, j => ∀ (D k : Nat) (buf : List Int) (ind : ByteArray) (tabs nl n : Int) (r : Res), (∀ c ∈ bytesOf ind, c = 32) → BPost w buf → 0 ≤ tabs → tabs + 1 ≤ q → 1 ≤ n → n ≤ q →
      pObj.l0 (pAny.at_ D) (pObj.at_ D) k buf x q 91 93 true w ⟨#[]⟩ ind tabs nl (-1) [] n = some r → ∃ buf' n', r = (buf', j, n', true) ∧ BPost w buf'

theorem elem_p {x : List Int} {w : Int} (hw : 8 ≤ w) (hL : x.length ≤ 1000000) {q t u j : Int} (hq0 : 0 ≤ q) (hq : q < x.length) (hc : 32 < rd x q) (hc1 : rd x q ≠ 93) (hto : (q = t) ∨ (rd x q = 44 ∧ Gap x (q + 1) t)) (hg : G x false t u) (hv : CP x w false t u) (hst : Stop x u) (hr : CP x w true u j)
    {D k : Nat} {buf : List Int} {ind : ByteArray} {tabs nl n : Int} {r : Res} (hi : ∀ c ∈ bytesOf ind, c = 32) (ht0 : 0 ≤ tabs) (ht1 : tabs + 1 ≤ q) (hn1 : n ≤ q) (hB : (n = 0 ∧ BOpen w buf) ∨ (1 ≤ n ∧ BPost w buf))
    (h : pObj.l0 (pAny.at_ D) (pObj.at_ D) k buf x q 91 93 true w ⟨#[]⟩ ind tabs nl (-1) [] n = some r) : ∃ buf' n', r = (buf', j, n', true) ∧ BPost w buf' := by
  have hs := hg.starts rfl
  have htu := hg.le
  have hqt : q ≤ t := by rcases hto with e | ⟨_, e⟩; omega; have := e.1; omega
  replace h := loop_elem hq0 hq hL (by omega) hc hc1 (by omega) h
  obtain ⟨k1, y, hy, hyl, h⟩ := h
  -- the line feed and the indent: the open line holds blanks alone
  have step : ∃ k2 t' nl', BInv w t' nl' ∧ pObj.j8 (pAny.at_ D) (pObj.at_ D) k2 t' x q 91 93 true w ⟨#[]⟩ ind tabs nl' (-1) [] n 0 0 0 0 = some r := by
    rcases hB with ⟨rfl, ls, sp, hb, hsp⟩ | ⟨hn, hB⟩
    · rw [if_neg (by omega)] at hy
      subst hy
      have e : y = (flat ls ++ sp) ++ [91] := by rw [hb.eq, List.append_assoc]
      rw [e] at h
      obtain ⟨k2, z, t', hz, hzl, htb, h⟩ := j7_inv (by rw [← e]; exact hb.len) ⟨ht0, by omega⟩ h
      rcases hz with ⟨hz, _⟩ | ⟨_, rfl⟩
      · exact absurd hz (by decide)
      rw [← e] at hzl htb h
      obtain ⟨sp', rfl, hsp', hln⟩ := tabs_inv hi (by omega) (by omega) htb
      replace hsp' : Sp sp' := hsp'
      have hb2 := (hb.line (.inl (noOpen_app hsp.no91 trivial)) hzl).add hsp'.bytes hsp'.no10 (by omega)
      have hl1 : (y ++ [10]).length = y.length + 1 := by rw [List.length_append]; rfl
      refine ⟨k2, _, _, ⟨_, _, hb2, by rw [List.nil_append]; exact hsp', by omega, ?_⟩, h⟩
      rw [List.nil_append, List.length_append, hl1]
      omega
    · rw [if_pos (by omega)] at hy
      subst hy
      obtain ⟨ls, cur, hb, hcl, _⟩ := hB
      obtain ⟨k2, z, t', hz, hzl, htb, h⟩ := j7_inv (hyl (by omega)) ⟨ht0, by omega⟩ h
      rcases hz with ⟨_, rfl⟩ | ⟨hz, _⟩
      case inr => exact absurd rfl hz
      obtain ⟨sp', rfl, hsp', hln⟩ := tabs_inv hi (by omega) (by omega) htb
      replace hsp' : Sp sp' := hsp'
      have hl1 : ((buf ++ [44]) ++ [10]).length = (buf ++ [44]).length + 1 := by rw [List.length_append]; rfl
      have hl2 : ((buf ++ [44]) ++ [32]).length = (buf ++ [44]).length + 1 := by rw [List.length_append]; rfl
      have hb1 := hb.add (o := [44]) (by intro c hc; simp at hc; omega) (by intro c hc; simp at hc; omega) (by omega)
      have hb2 := (hb1.line hcl.comma hzl).add hsp'.bytes hsp'.no10 (by omega)
      refine ⟨k2, _, _, ⟨_, _, hb2, by rw [List.nil_append]; exact hsp', by omega, ?_⟩, h⟩
      rw [List.nil_append, List.length_append (bs := sp'), hl1, hl2]
      omega
  obtain ⟨k2, y', nl', hBI, h⟩ := step
  obtain ⟨k3, v, hva, hk⟩ := loop_j9 hq0 hq hL ⟨ht0, by omega⟩ h
  have hva' : ∃ k3, (pAny.at_ D).f k3 y' x t true w ⟨#[]⟩ ind false (tabs + 1) nl' (-1) = some v := by
    rcases hto with e | ⟨e1, e2⟩
    · subst e; exact ⟨k3, hva⟩
    · cases D with
      | zero => cases hva
      | succ D =>
        have hva : pAny.l0 (pObj.at_ D) k3 y' x q true w ⟨#[]⟩ ind (tabs + 1) nl' (-1) = some v := hva
        obtain ⟨k4, hva⟩ := any_comma hq0 hq hL e1 hva
        obtain ⟨k5, hva⟩ := any_gap hL (by omega) (by omega) e2 (t - (q + 1)).toNat (q + 1) (by omega) (by have := e2.1; omega) hva
        exact ⟨k5, hva⟩
  obtain ⟨k4, hva⟩ := hva'
  obtain ⟨b', n', rfl, hb'⟩ := hv hst D k4 y' ind (tabs + 1) nl' v hi hBI (by omega) (by omega) hva
  obtain ⟨k5, hl⟩ := hk rfl (by dsimp only; omega) (by dsimp only; omega)
  dsimp only at hl
  have hn0 : 0 ≤ n := by rcases hB with ⟨e, _⟩ | ⟨e, _⟩ <;> omega
  rw [w64p (by omega) (by omega)] at hl
  exact hr D k5 b' ind tabs n' (n + 1) r hi hb' ht0 (by omega) (by omega) (by omega) hl

/-- An array, in lines or on one. -/
theorem objP {x : List Int} {w : Int} (hw : 8 ≤ w) (hw1 : w ≤ 1073741824) (hL : x.length ≤ 1000000) {i j : Int} (h0 : 0 ≤ i) (h1 : rd x i = 91) (hi : i < x.length)
    (hin : (∃ p, Gap x (i + 1) p ∧ p < x.length ∧ rd x p = 93 ∧ j = p + 1) ∨ (∃ p u, Gap x (i + 1) p ∧ G x false p u ∧ G x true u j ∧ CP x w false p u ∧ CP x w true u j))
    (D k : Nat) (buf : List Int) (ind : ByteArray) (tabs nl : Int) (r : Res) (hsi : ∀ c ∈ bytesOf ind, c = 32) (hB : BInv w buf nl) (ht0 : 0 ≤ tabs) (ht1 : tabs ≤ i)
    (h : (pObj.at_ D).f k buf x i 91 93 true w ⟨#[]⟩ ind false tabs nl (-1) = some r) : ∃ buf' n', r = (buf', j, n', true) ∧ BPost w buf' := by
  cases D with
  | zero => cases h
  | succ D =>
    have h : pObj.f (pAny.at_ D) (pObj.at_ D) k buf x i 91 93 true w ⟨#[]⟩ ind false tabs nl (-1) = some r := h
    obtain ⟨ls, sp, hb, hsp, hnl0, hnl1⟩ := hB
    have hlen := hb.len
    -- the array in lines
    have lines : ∀ k', pObj.j1 (pAny.at_ D) (pObj.at_ D) k' buf x i 91 93 true w ⟨#[]⟩ ind tabs nl (-1) = some r → ∃ buf' n', r = (buf', j, n', true) ∧ BPost w buf' := by
      intro k' hj1
      obtain ⟨hl91, k2, hl⟩ := obj_j1 h0 hi hL hj1
      have hb1 := hb.add (o := [91]) (by intro c hc; simp at hc; omega) (by intro c hc; simp at hc; omega) hl91
      have hb1' : BOpen w (buf ++ [91]) := ⟨ls, sp, hb1, hsp⟩
      rcases hin with ⟨p, g1, g2, g3, rfl⟩ | ⟨p, u, g1, g2, g3, g4, g5⟩
      · have hp := g1.1
        obtain ⟨k3, hl⟩ := loop_gap hL (by omega) (p - (i + 1)).toNat k2 (i + 1) (by omega) g1 (by omega) hl
        obtain ⟨rfl, hl93⟩ := (close_p (by omega) g2 hL hl91 ⟨ht0, by omega⟩ g3 hl).1 (by omega) rfl
        refine ⟨_, _, rfl, ls, (sp ++ [91]) ++ [93], hb1.add (by intro c hc; simp at hc; omega) (by intro c hc; simp at hc; omega) hl93, .inl ?_, sp ++ [91], 93, rfl, by decide⟩
        rw [List.append_assoc, List.append_assoc]
        exact noOpen_app hsp.no91 ⟨fun _ => rfl, fun e => absurd e (by decide), trivial⟩
      · have hs := g2.starts rfl
        have hp := g1.1
        obtain ⟨k3, hl⟩ := loop_gap hL (by omega) (p - (i + 1)).toNat k2 (i + 1) (by omega) g1 (by omega) hl
        exact elem_p hw hL (by omega) (by omega) hs.2.2.2.1 hs.2.2.2.2.1 (.inl rfl) g2 g4 (stop_of g3 rfl) g5 hsi ht0 (by omega) (by omega) (.inl ⟨rfl, hb1'⟩) hl
    unfold pObj.f at h
    rw [if_pos (by omega), if_pos rfl, if_pos rfl] at h
    cases k with
    | zero => simp [pObj.j0] at h
    | succ k =>
      rw [pObj.j0, show ((-1 : Int) == (-1)) = true from rfl, if_pos rfl, w64p (x := (buf.length : Int) - nl) (by omega) (by omega), w64p (x := w - ((buf.length : Int) - nl)) (by omega) (by omega)] at h
      by_cases hmax : w - ((buf.length : Int) - nl) > 3
      · rw [if_pos hmax] at h
        replace h := Option.bind_eq_some_iff.mp h
        obtain ⟨v, hv, h⟩ := h
        have hA : ∃ o n', v = (buf ++ o, j, n', true) ∧ One o ∧ v.1.length ≤ 140737488355328 := by
          refine objA hL h0 h1 hi ?_ D k buf w ⟨#[]⟩ ⟨#[]⟩ 0 0 _ v (by omega) (by omega) (by omega) (by omega) hv
          rcases hin with g | ⟨p, u, g1, g2, g3, _, _⟩
          · exact .inl g
          · exact .inr ⟨p, u, g1, g2, ca_all hL g2, stop_of g3 rfl, ca_all hL g3⟩
        obtain ⟨o, n', rfl, ⟨ho1, ho2, o', c, rfl, ho3⟩, hvl⟩ := hA
        dsimp only at h hvl
        have hlo : (buf ++ (o' ++ [c])).length = buf.length + (o' ++ [c]).length := List.length_append
        rw [if_pos rfl, w64p (by omega) (by omega)] at h
        by_cases hle : ((buf ++ (o' ++ [c])).length : Int) - buf.length ≤ w - ((buf.length : Int) - nl)
        · rw [if_pos hle] at h
          simp only [Option.some.injEq] at h
          subst h
          refine ⟨_, _, rfl, ls, sp ++ (o' ++ [c]), hb.add ho1 ho2 hvl, .inr ?_, sp ++ o', c, by rw [List.append_assoc], ho3⟩
          rw [List.length_append]
          omega
        · rw [if_neg hle, if_pos (by omega), if_pos (by omega), Int.toNat_natCast, List.take_left] at h
          exact lines k h
      · rw [if_neg hmax] at h
        exact lines k h

theorem cp_all {x : List Int} {w : Int} (hw : 8 ≤ w) (hw1 : w ≤ 1073741824) (hL : x.length ≤ 1000000) {b : Bool} {i j : Int} (h : G x b i j) : CP x w b i j := by
  have atom : ∀ {buf a : List Int} {nl : Int}, BInv w buf nl → AtomL a → (buf ++ a).length ≤ 140737488355328 → BPost w (buf ++ a) := by
    rintro buf a nl ⟨ls, sp, hb, hsp, _, _⟩ ha hl
    obtain ⟨o1, o2, o', c, rfl, o3⟩ := ha.one
    refine ⟨ls, sp ++ (o' ++ [c]), hb.add o1 o2 hl, .inl ?_, sp ++ o', c, by rw [List.append_assoc], o3⟩
    refine noOpen_no fun d hd => ?_
    rcases List.mem_append.1 hd with hd | hd
    · rcases List.mem_append.1 hd with hd | hd
      · exact hsp.no91 d hd
      · exact (ha.2 d hd).2.2.1
    · simp at hd; omega
  induction h with
  | num i j h0 h1 h2 h3 h4 =>
    intro hst D k buf ind tabs nl r hi hB ht0 ht1 h
    cases D with
    | zero => cases h
    | succ D =>
      obtain ⟨a, rfl, ha, hlen⟩ := any_num (VO := pObj.at_ D) h0 h1 h2 hL h3 h4 hst h
      exact ⟨_, _, rfl, atom hB ha hlen⟩
  | word i j h0 h1 h2 h3 =>
    intro hst D k buf ind tabs nl r hi hB ht0 ht1 h
    cases D with
    | zero => cases h
    | succ D =>
      obtain ⟨a, rfl, ha, hlen⟩ := any_word (VO := pObj.at_ D) h0 h1 h2 hL h3 h
      exact ⟨_, _, rfl, atom hB ha hlen⟩
  | empty i p h0 h1 h2 h3 h4 =>
    intro hst D k buf ind tabs nl r hi hB ht0 ht1 h
    cases D with
    | zero => cases h
    | succ D =>
      have hp := h2.1
      obtain ⟨k', h⟩ := any_arr (VO := pObj.at_ D) h0 (by omega) h1 h
      exact objP hw hw1 hL h0 h1 (by omega) (.inl ⟨p, h2, h3, h4, rfl⟩) D k' buf ind tabs nl r hi hB ht0 ht1 h
  | arr i p u j h0 h1 h2 h3 h4 ih1 ih2 =>
    intro hst D k buf ind tabs nl r hi hB ht0 ht1 h
    cases D with
    | zero => cases h
    | succ D =>
      have hp := h2.1
      have := h3.le
      obtain ⟨k', h⟩ := any_arr (VO := pObj.at_ D) h0 (by omega) h1 h
      exact objP hw hw1 hL h0 h1 (by omega) (.inr ⟨p, u, h2, h3, h4, ih1, ih2⟩) D k' buf ind tabs nl r hi hB ht0 ht1 h
  | close q r' h1 h2 h3 =>
    intro D k buf ind tabs nl n r hi hB ht0 ht1 hn0 hn1 h
    have hp := h1.1
    obtain ⟨k3, hl⟩ := loop_gap hL (by omega) (r' - q).toNat k q (by omega) h1 (by omega) h
    obtain ⟨ls, cur, hb, hcl, c0, c, rfl, hc⟩ := hB
    have e : buf = (flat ls ++ c0) ++ [c] := by rw [hb.eq, List.append_assoc]
    have hbl := hb.len
    rw [e] at hl hbl
    obtain ⟨g1, k4, t, g2, rfl, g3⟩ := (close_p (by omega) h2 hL hbl ⟨ht0, by omega⟩ h3 hl).2 (by omega) hc
    rw [← e] at g1 g2
    obtain ⟨sp', rfl, hsp', hln⟩ := tabs_inv hi (by omega) (by omega) g2
    replace hsp' : Sp sp' := hsp'
    have hb2 := (hb.line hcl.fine g1).add hsp'.bytes hsp'.no10 (by omega)
    have hb3 := hb2.add (o := [93]) (by intro c hc; simp at hc; omega) (by intro c hc; simp at hc; omega) g3
    rw [List.nil_append] at hb3
    refine ⟨_, _, rfl, _, _, hb3, .inl ?_, sp', 93, rfl, by decide⟩
    refine noOpen_no fun d hd => ?_
    rcases List.mem_append.1 hd with hd | hd
    · rcases List.mem_append.1 hd with hd | hd
      · exact hsp'.no91 d hd
      · simp at hd; omega
    · simp at hd; omega
  | next q r' t u j h1 h2 h3 h4 h5 h6 ih1 ih2 =>
    intro D k buf ind tabs nl n r hi hB ht0 ht1 hn0 hn1 h
    have hp := h1.1
    obtain ⟨k3, hl⟩ := loop_gap hL (by omega) (r' - q).toNat k q (by omega) h1 (by omega) h
    exact elem_p hw hL (by omega) h2 (by omega) (by omega) (.inr ⟨h3, h4⟩) h5 ih1 (stop_of h6 rfl) ih2 hi ht0 (by omega) (by omega) (.inr ⟨hn0, hB⟩) hl
end Go.Proofs.Ytkbeiidjagodnaa.Pr

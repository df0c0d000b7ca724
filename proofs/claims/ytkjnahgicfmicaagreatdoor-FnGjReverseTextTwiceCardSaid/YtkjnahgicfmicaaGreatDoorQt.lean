import Derived.Test.YtkjnahgicfmicaaGreatDoorQl
import Derived.Test.YtkjnahgicfmicaaGreatDoorZip
import Derived.Test.YtkjnahgicfmicaaGreatDoorLr8
namespace Go.Proofs.YtkjnahgicfmicaaGreatDoor.Sp
open Go.RowKit Go.PW Go.PL Go.PM
set_option linter.unusedVariables false
section
structure Win (s s' : av) (d lo hi : Int) : Prop where
 sm : Small s
 sm' : Small s'
 lo0 : 0 ≤ lo
 lod : 0 ≤ lo + d
 hi' : hi ≤ s'.size
 hid : hi + d ≤ s.size
 eq : ∀ q, lo ≤ q → q < hi → bt s' q = bt s (q + d)
theorem Win.sub {s s' : av} {d lo hi lo2 hi2 : Int} (h : Win s s' d lo hi) (h1 : lo ≤ lo2) (h2 : hi2 ≤ hi) : Win s s' d lo2 hi2 :=
 ⟨h.sm, h.sm', by have := h.lo0; omega, by have := h.lod; omega, by have := h.hi'; omega, by have := h.hid; omega, fun q a b => h.eq q (by omega) (by omega)⟩
variable {s s' : av} {d lo hi : Int}
theorem Win.look (h : Win s s' d lo hi) {q : Int} (h1 : lo ≤ q) (h2 : q < hi) : at0 s' q = at0 s (q + d) := by
 rw [at0_at (by have := h.hi'; omega), at0_at (by have := h.hid; omega), h.eq q h1 h2]
theorem blanks_fwd (hn : Small s) {i j : Int} (h0 : 0 ≤ i) (h : Blanks s i j) (hs : ¬ (j < s.size ∧ isBlank (bt s j))) (n : Nat) : aI.f (s.size + 1 + n) s i = some (s, j) := by
 obtain ⟨j2, e, g1, g2, g3, g4⟩ := blanks_tot s hn (s.size - i).toNat (s.size + 1 + n) i h0 (by have := h.1; have := h.2.1; omega) (by have := h.1; have := h.2.1; omega) (by omega)
 have : j2 = j := by
  have := h.2.1
  rcases Int.lt_trichotomy j2 j with c | c | c
  ·exact absurd (h.2.2 j2 g1 c) (g4 (by omega))
  ·exact c
  ·exact absurd ⟨by omega, g3 j h.1 c⟩ hs
 rw [e, this]
theorem Win.blanks (hw : Win s s' d lo hi) {i j : Int} (h : Blanks s (i + d) (j + d)) (h0 : lo ≤ i) (h1 : j ≤ hi) : Blanks s' i j :=
 ⟨by have := h.1; omega, by have := hw.hi'; omega, fun p a b => by rw [hw.eq p (by omega) (by omega)]; exact h.2.2 (p + d) (by omega) (by omega)⟩
def Mv (s s' : av) (d i hi : Int) (o o' : Option (Bool × av × Int)) : Prop := ∀ b t jj, o = some (b, t, jj) → t = s ∧ ∃ j, jj = j + d ∧ o' = some (b, s', j) ∧ i ≤ j ∧ j ≤ hi
theorem Mv.bind {i : Int} {o o' : Option (Bool × av × Int)} {f f' : Bool × av × Int → Option (Bool × av × Int)} (h : Mv s s' d i hi o o') (k : ∀ b j, i ≤ j → j ≤ hi → Mv s s' d i hi (f (b, s, j + d)) (f' (b, s', j))) : Mv s s' d i hi (o.bind f) (o'.bind f') := by
 intro b t jj e
 obtain ⟨⟨b1, t1, j1⟩, e1, e2⟩ := ao e
 obtain ⟨rfl, j, rfl, h2, h3, h4⟩ := h _ _ _ e1
 obtain ⟨r1, j', r2, r3, r4, r5⟩ := k b1 j h3 h4 b t jj e2
 exact ⟨r1, j', r2, by rw [h2]; exact r3, r4, r5⟩
theorem Mv.ite {i : Int} {c : Prop} [Decidable c] {x x' y y' : Option (Bool × av × Int)} (h : Mv s s' d i hi x x') (k : Mv s s' d i hi y y') : Mv s s' d i hi (if c then x else y) (if c then x' else y') := by
 by_cases hc : c
 ·rw [if_pos hc, if_pos hc]; exact h
 ·rw [if_neg hc, if_neg hc]; exact k
theorem Mv.done {i j : Int} (b : Bool) (h1 : i ≤ j) (h2 : j ≤ hi) : Mv s s' d i hi (some (b, s, j + d)) (some (b, s', j)) := by
 intro b t jj e
 simp only [am, an] at e
 obtain ⟨rfl, rfl, rfl⟩ := e
 exact ⟨rfl, j, rfl, rfl, h1, h2⟩
theorem Mv.none {i : Int} {o : Option (Bool × av × Int)} : Mv s s' d i hi none o := fun _ _ _ e => by cases e
theorem Mv.from {i i2 : Int} {o o' : Option (Bool × av × Int)} (h : Mv s s' d i2 hi o o') (hi2 : i ≤ i2) : Mv s s' d i hi o o' := fun b t jj e => by
 obtain ⟨r1, j', r2, r3, r4, r5⟩ := h b t jj e
 exact ⟨r1, j', r2, r3, by omega, r5⟩
section
variable (hw : Win s s' d lo hi) (hst : ¬ NumCh (at0 s (hi + d))) (hst' : ¬ NumCh (at0 s' hi))
include hw hst hst'
theorem take_mv {i c : Int} (h0 : lo ≤ i) (h1 : i ≤ hi) (hc : NumCh c) : Mv s s' d i hi (aW.f s (i + d) c) (aW.f s' i c) := by
 have z0 := hw.lo0; have z1 := hw.lod; have z2 := hw.hi'; have z3 := hw.hid
 by_cases hlt : i < hi
 ·have e := hw.eq i h0 hlt
  by_cases hb : bt s (i + d) = c
  ·rw [take_yes s hw.sm (i + d) c (by omega) (by omega) hb, take_yes s' hw.sm' i c (by omega) (by omega) (e.trans hb), show i + d + 1 = (i + 1) + d by omega]
   exact Mv.done true (by omega) (by omega)
  ·rw [take_no s (i + d) c (by omega) (fun h => hb h.2), take_no s' i c (by omega) (fun h => hb (e ▸ h.2))]
   exact Mv.done false (by omega) (by omega)
 ·obtain rfl : i = hi := by omega
  rw [take_no s (i + d) c (by omega) (fun h => hst (by rw [at0_at h.1, h.2]; exact hc)), take_no s' i c (by omega) (fun h => hst' (by rw [at0_at h.1, h.2]; exact hc))]
  exact Mv.done false (by omega) (by omega)
omit hw hst hst' in
theorem digits_stop (k : Nat) (b x i : Int) (s : av) (h : ¬ (48 ≤ x ∧ x ≤ 57)) : aU.l0 (k + 1) b x s i = some (decide (i > b), s, i) := by
 rw [aU.l0]
 by_cases c : 48 ≤ x
 ·rw [if_pos c, if_neg (fun e => h ⟨c, e⟩)]
 ·rw [if_neg c]
theorem digits_mv (b : Int) : ∀ (k : Nat) (i : Int), lo ≤ i → i ≤ hi → Mv s s' d i hi (aU.l0 k (b + d) (at0 s (i + d)) s (i + d)) (aU.l0 k b (at0 s' i) s' i) := by
 intro k
 have z0 := hw.lo0; have z1 := hw.lod; have z2 := hw.hi'; have z3 := hw.hid
 have y1 : s.size ≤ 1048576 := hw.sm; have y2 : s'.size ≤ 1048576 := hw.sm'
 induction k with
 | zero => intro i _ _; rw [aU.l0]; exact Mv.none
 | succ k ih =>
  intro i h0 h1
  have hd : decide (i + d > b + d) = decide (i > b) := decide_eq_decide.mpr (by omega)
  by_cases hx : 48 ≤ at0 s (i + d) ∧ at0 s (i + d) ≤ 57
  ·have hlt : i < hi := by
    apply Classical.byContradiction; intro hc
    obtain rfl : i = hi := by omega
    exact hst (.inl hx)
   have e := hw.look h0 hlt
   have hx' := hx; rw [← e] at hx'
   rw [aU.l0, aU.l0, if_pos hx.1, if_pos hx.2, if_pos hx'.1, if_pos hx'.2, w64 (by omega) (by omega), w64 (by omega) (by omega), here_eq s _ (by omega), here_eq s' _ (by omega), al, al]
   rw [show i + d + 1 = (i + 1) + d by omega]
   exact (ih (i + 1) (by omega) (by omega)).from (by omega)
  ·have hx' : ¬ (48 ≤ at0 s' i ∧ at0 s' i ≤ 57) := by
    by_cases hlt : i < hi
    ·rw [hw.look h0 hlt]; exact hx
    ·obtain rfl : i = hi := by omega
     exact fun h => hst' (.inl h)
   rw [digits_stop k _ _ _ s hx, digits_stop k _ _ _ s' hx', hd]
   exact Mv.done _ (by omega) h1
theorem digits_f_mv (k : Nat) {i : Int} (h0 : lo ≤ i) (h1 : i ≤ hi) : Mv s s' d i hi (aU.f k s (i + d)) (aU.f k s' i) := by
 unfold aU.f
 rw [here_eq s _ (by have := hw.lod; omega), here_eq s' _ (by have := hw.lo0; omega), al, al]
 exact digits_mv hw hst hst' i k i h0 h1
theorem num2_mv (k : Nat) (b : Bool) {i : Int} (h0 : lo ≤ i) (h1 : i ≤ hi) : Mv s s' d i hi (aC.j2 k b s (i + d)) (aC.j2 k b s' i) := by
 cases k with
 | zero => rw [aC.j2]; exact Mv.none
 | succ k =>
  rw [aC.j2, aC.j2]
  refine Mv.ite (Mv.bind (take_mv hw hst hst' h0 h1 (by unfold NumCh; omega)) fun b1 j1 g1 g2 => ?_) (Mv.done _ (by omega) h1)
  refine Mv.ite (Mv.bind ((digits_f_mv hw hst hst' k (by omega) g2).from g1) fun b2 j2 g3 g4 => Mv.done _ g3 g4) ?_
  refine Mv.bind ((take_mv hw hst hst' (by omega) g2 (by unfold NumCh; omega)).from g1) fun b3 j3 g5 g6 => ?_
  exact Mv.bind ((digits_f_mv hw hst hst' k (by omega) g6).from g5) fun b4 j4 g7 g8 => Mv.done _ g7 g8
theorem num1_mv (k : Nat) (b : Bool) {i : Int} (h0 : lo ≤ i) (h1 : i ≤ hi) : Mv s s' d i hi (aC.j1 k b s (i + d)) (aC.j1 k b s' i) := by
 cases k with
 | zero => rw [aC.j1]; exact Mv.none
 | succ k =>
  rw [aC.j1, aC.j1]
  refine Mv.ite (Mv.done _ (by omega) h1) (Mv.bind (take_mv hw hst hst' h0 h1 (by unfold NumCh; omega)) fun b1 j1 g1 g2 => ?_)
  refine Mv.ite ((num2_mv hw hst hst' k true (by omega) g2).from g1) ?_
  exact Mv.bind ((take_mv hw hst hst' (by omega) g2 (by unfold NumCh; omega)).from g1) fun b3 j3 g5 g6 => (num2_mv hw hst hst' k b3 (by omega) g6).from g5
theorem num0_mv (k : Nat) (b : Bool) {i : Int} (h0 : lo ≤ i) (h1 : i ≤ hi) : Mv s s' d i hi (aC.j0 k b s (i + d)) (aC.j0 k b s' i) := by
 cases k with
 | zero => rw [aC.j0]; exact Mv.none
 | succ k =>
  rw [aC.j0, aC.j0]
  refine Mv.ite (Mv.done _ (by omega) h1) (Mv.bind (take_mv hw hst hst' h0 h1 (by unfold NumCh; omega)) fun b1 j1 g1 g2 => ?_)
  refine Mv.ite (Mv.bind ((digits_f_mv hw hst hst' k (by omega) g2).from g1) fun b2 j2 g3 g4 => (num1_mv hw hst hst' k (!b2) (by omega) g4).from g3) ?_
  exact (num1_mv hw hst hst' k false (by omega) g2).from g1
theorem number_mv (k : Nat) {i : Int} (h0 : lo ≤ i) (h1 : i ≤ hi) : Mv s s' d i hi (aC.f k s (i + d)) (aC.f k s' i) := by
 unfold aC.f
 refine Mv.bind (take_mv hw hst hst' h0 h1 (by unfold NumCh; omega)) fun b1 j1 g1 g2 => ?_
 refine Mv.bind ((take_mv hw hst hst' (by omega) g2 (by unfold NumCh; omega)).from g1) fun b2 j2 g3 g4 => ?_
 refine Mv.ite ((num0_mv hw hst hst' k false (by omega) g4).from g3) ?_
 exact Mv.bind ((digits_f_mv hw hst hst' k (by omega) g4).from g3) fun b5 j5 g5 g6 => (num0_mv hw hst hst' k (!b5) (by omega) g6).from g5
end
end
section
variable {s s' : av} {d lo hi : Int}
theorem Win.rd (hw : Win s s' d lo hi) {q : Int} (h0 : lo ≤ q) (h1 : q < hi) : rd (bytesOf s') q = rd (bytesOf s) (q + d) := by
 rw [rd_bytesOf, rd_bytesOf, hw.eq q h0 h1]
theorem Win.body (hw : Win s s' d lo hi) {i e : Int} (h : Body (bytesOf s) (i + d) (e + d)) (h0 : lo ≤ i) (h1 : e < hi) : Body (bytesOf s') i e := by
 generalize hx : i + d = x at h
 generalize hy : e + d = y at h
 have hle := h.le
 induction h generalizing i with
 | done x c =>
  obtain rfl : i = e := by omega
  exact .done i (by rw [hw.rd h0 h1, hx]; exact c)
 | plain x y c1 c2 c3 c4 ih =>
  have hl := c4.le
  have e1 := hw.rd h0 (show i < hi by omega)
  rw [hx] at e1
  exact .plain i e (by rw [e1]; exact c1) (by rw [e1]; exact c2) (by rw [e1]; exact c3) (ih (by omega) (by omega) hy hl)
 | esc x y c1 c2 c4 ih =>
  have hl := c4.le
  have e1 := hw.rd h0 (show i < hi by omega)
  have e2 := hw.rd (show lo ≤ i + 1 by omega) (show i + 1 < hi by omega)
  rw [hx] at e1
  rw [show i + 1 + d = x + 1 by omega] at e2
  exact .esc i e (by rw [e1]; exact c1) (by rw [e2]; exact c2) (ih (by omega) (by omega) hy hl)
 | uni x y c1 c2 c3 c4 ih =>
  have hl := c4.le
  have e1 := hw.rd h0 (show i < hi by omega)
  have e2 := hw.rd (show lo ≤ i + 1 by omega) (show i + 1 < hi by omega)
  rw [hx] at e1
  rw [show i + 1 + d = x + 1 by omega] at e2
  exact .uni i e (by rw [e1]; exact c1) (by rw [e2]; exact c2) (fun p a b => by rw [hw.rd (by omega) (by omega)]; exact c3 (p + d) (by omega) (by omega)) (ih (by omega) (by omega) hy hl)
theorem esc_one (hn : Small s) (k : Nat) {i : Int} (h0 : 0 ≤ i) (h1 : i < s.size) (h : Esc1 (bt s i)) : aG.f (k + 1) s i = some (true, s, i + 1) := by
 have hn' : s.size ≤ 1048576 := hn
 have hz : wrap64 (i + 1) = i + 1 := w64 (by omega) (by omega)
 unfold aG.f
 rw [here_eq s i h0, at0_at h1, al]
 unfold Esc1 at h
 rcases h with h | h | h | h | h | h | h | h <;> (rw [h]; simp [aG.j0, hz])
theorem esc_hex (hn : Small s) : ∀ (m k : Nat) (q i : Int), q + m = 4 → 0 ≤ q → 0 ≤ i → i + m ≤ s.size → (∀ p, i ≤ p → p < i + m → HexCh (bt s p)) → aG.l0 (m + 3 + k) q s i = some (true, s, i + m) := by
 have hn' : s.size ≤ 1048576 := hn
 intro m
 induction m with
 | zero =>
  intro k q i hq hq0 h0 h1 h
  rw [show 0 + 3 + k = (k + 2) + 1 by omega, aG.l0, if_neg (by omega), show i + ((0 : Nat) : Int) = i by omega]
 | succ m ih =>
  intro k q i hq hq0 h0 h1 h
  rw [show m + 1 + 3 + k = (m + 3 + k) + 1 by omega, aG.l0, if_pos (by omega), here_eq s i h0, at0_at (by omega), al]
  dsimp only
  rw [hex_is (by omega) (h i (by omega) (by omega)), al, if_pos rfl, w64 (by omega) (by omega), w64 (by omega) (by omega), ih k (q + 1) (i + 1) (by omega) (by omega) (by omega) (by omega) (fun p a b => h p (by omega) (by omega)), show i + 1 + (m : Int) = i + ((m + 1 : Nat) : Int) by omega]
theorem esc_uni (hn : Small s) (k : Nat) {i : Int} (h0 : 0 ≤ i) (h1 : i + 5 ≤ s.size) (hu : bt s i = 117) (h : ∀ p, i + 1 ≤ p → p < i + 5 → HexCh (bt s p)) : aG.f (k + 8) s i = some (true, s, i + 5) := by
 have hn' : s.size ≤ 1048576 := hn
 unfold aG.f
 rw [here_eq s i h0, at0_at (by omega), al]
 dsimp only
 rw [hu, if_neg (by decide), if_neg (by decide), if_neg (by decide), if_neg (by decide), if_neg (by decide), if_neg (by decide), if_neg (by decide), show k + 8 = (4 + 3 + k) + 1 by omega, aG.j0, if_neg (by decide), if_pos rfl, w64 (by omega) (by omega), esc_hex hn 4 k 0 (i + 1) (by omega) (by omega) (by omega) (by omega) (fun p a b => h p a (by omega)), show i + 1 + ((4 : Nat) : Int) = i + 5 by omega]
theorem quoted_of (hn : Small s) {i e : Int} (h : Body (bytesOf s) i e) (h0 : 0 ≤ i) (h1 : e < s.size) : ∃ K, ∀ n, aX.l0 (K + n) s i = some (true, s, e + 1) := by
 have hn' : s.size ≤ 1048576 := hn
 have hle := h.le
 induction h with
 | done i c =>
  rw [rd_bytesOf] at c
  exact ⟨1, fun n => by rw [Nat.add_comm, aX.l0, if_pos h1, if_pos h0, if_pos c, w64 (by omega) (by omega)]⟩
 | plain i e c1 c2 c3 c4 ih =>
  have hl := c4.le
  rw [rd_bytesOf] at c1 c2 c3
  obtain ⟨K, g⟩ := ih (by omega) h1 hl
  exact ⟨K + 1, fun n => by rw [show K + 1 + n = (K + n) + 1 by omega, aX.l0, if_pos (by omega), if_pos h0, if_neg c2, if_neg (by omega), if_neg c3, w64 (by omega) (by omega), g n]⟩
 | esc i e c1 c2 c4 ih =>
  have hl := c4.le
  rw [rd_bytesOf] at c1 c2
  obtain ⟨K, g⟩ := ih (by omega) h1 hl
  exact ⟨K + 2, fun n => by rw [show K + 2 + n = (K + (n + 1)) + 1 by omega, aX.l0, if_pos (by omega), if_pos h0, if_neg (by omega), if_neg (by omega), if_pos c1, w64 (by omega) (by omega), show K + (n + 1) = (K + n) + 1 by omega, esc_one hn (K + n) (by omega) (by omega) c2, al, if_pos rfl, show i + 1 + 1 = i + 2 by omega, show K + n + 1 = K + (n + 1) by omega, g (n + 1)]⟩
 | uni i e c1 c2 c3 c4 ih =>
  have hl := c4.le
  rw [rd_bytesOf] at c1 c2
  obtain ⟨K, g⟩ := ih (by omega) h1 hl
  exact ⟨K + 9, fun n => by rw [show K + 9 + n = (K + (n + 8)) + 1 by omega, aX.l0, if_pos (by omega), if_pos h0, if_neg (by omega), if_neg (by omega), if_pos c1, w64 (by omega) (by omega), show K + (n + 8) = (K + n) + 8 by omega, esc_uni hn (K + n) (by omega) (by omega) c2 (fun p a b => by rw [← rd_bytesOf]; exact c3 p (by omega) (by omega)), al, if_pos rfl, show i + 1 + 5 = i + 6 by omega, show K + n + 8 = K + (n + 8) by omega, g (n + 8)]⟩
theorem quoted_f_mv (hw : Win s s' d lo hi) {i j : Int} (h : StrSeg (bytesOf s) (i + d) (j + d)) (h0 : lo ≤ i) (h1 : j ≤ hi) : ∃ K, ∀ n, aX.f (K + n) s' i = some (true, s', j) := by
 have hn' : s'.size ≤ 1048576 := hw.sm'
 have z0 := hw.lo0; have z2 := hw.hi'
 obtain ⟨_, h2, h3, _, _, h6⟩ := h
 have hb := hw.body (i := i + 1) (e := j - 1) (by rwa [show i + 1 + d = i + d + 1 by omega, show j - 1 + d = j + d - 1 by omega]) (by omega) (by omega)
 obtain ⟨K, g⟩ := quoted_of hw.sm' hb (by omega) (by omega)
 exact ⟨K, fun n => by unfold aX.f; rw [w64 (by omega) (by omega), g n, show j - 1 + 1 = j by omega]⟩
theorem word_yes (hn : Small s) {i : Int} {w : av} (h0 : 0 ≤ i) (h1 : i + w.size ≤ s.size) (hw : w.size ≤ 8) (hb : ∀ q : Nat, q < w.size → bt s (i + q) = bt w q) : bL.f s i w = some (true, s, i + w.size) := by
 have hn' : s.size ≤ 1048576 := hn
 have he : s.extract i.toNat (i + (w.size : Int)).toNat = w := by
  have hsz : (s.extract i.toNat (i + (w.size : Int)).toNat).size = w.size := Z34
  apply ByteArray.ext_getElem hsz
  intro q hq hq'
  have h := hb q hq'
  apply UInt8.toNat_inj.mp
  have e1 := bt_at (s.extract i.toNat (i + (w.size : Int)).toNat) (q : Int) (by rw [Int.toNat_natCast]; exact hq)
  have e2 := bt_at w (q : Int) (by rw [Int.toNat_natCast]; exact hq')
  rw [bt_ext (by omega) (by omega) (by omega), show ((i.toNat : Nat) : Int) + (q : Int) = i + q by omega, h] at e1
  simp only [Int.toNat_natCast] at e1 e2
  omega
 unfold bL.f
 rw [w64 (by omega) (by omega), if_neg (by omega), if_pos h0, w64 (by omega) (by omega), if_pos (by omega), if_pos (by omega), he, if_pos rfl]
theorem word_no (hn : Small s) {i : Int} {w : av} (h0 : 0 ≤ i) (h1 : i ≤ s.size) (hw : w.size ≤ 8) (hw0 : 0 < w.size) (hb : i < s.size → bt s i ≠ bt w 0) : bL.f s i w = some (false, s, i) := by
 have hn' : s.size ≤ 1048576 := hn
 unfold bL.f
 rw [w64 (by omega) (by omega)]
 by_cases c : (s.size : Int) - i < w.size
 ·rw [if_pos c]
 rw [if_neg c, if_pos h0, w64 (by omega) (by omega), if_pos (by omega), if_pos (by omega), if_neg]
 intro h
 have e := word_seg s w i h0 h
 have := seg_at e h0 (Int.le_refl i) (by omega)
 rw [rd_bytesOf, show (i - i).toNat = 0 by omega] at this
 apply hb (by omega)
 rw [this, ← rd_bytesOf w 0]; rfl
end
section
def shn (d : Int) (x : S93) : S93 := ⟨x.f0 - d, x.f1 - d⟩
mutual
def sh (d : Int) : S31 → S31
 | ⟨k, b, e, ns, ks⟩ => ⟨k, b - d, e - d, ns.map (shn d), shs d ks⟩
def shs (d : Int) : List S31 → List S31
 | [] => []
 | p :: ks => sh d p :: shs d ks
end
theorem sh_eq (d : Int) (p : S31) : sh d p = ⟨p.f0, p.f1 - d, p.f2 - d, p.f3.map (shn d), shs d p.f4⟩ := by
 obtain ⟨k, b, e, ns, ks⟩ := p
 rw [sh]
theorem shs_map (d : Int) (ks : List S31) : shs d ks = ks.map (sh d) := by
 induction ks with
 | nil => rw [shs]; rfl
 | cons p ks ih => rw [shs, ih]; rfl
variable {s s' : av} {d lo hi : Int}
theorem blank_num {c : Int} (h : isBlank c) : ¬ NumCh c := by unfold isBlank at h; unfold NumCh; omega
def MvV (V V' : aE) (s s' : av) (d lo hi : Int) : Prop := ∀ p : S31, VR V s p → lo ≤ p.f1 - d → p.f1 < p.f2 → p.f2 - d ≤ hi → ¬ NumCh (at0 s p.f2) → ¬ NumCh (at0 s' (p.f2 - d)) →
 ∃ K, ∀ n, V'.f (K + n) s' (p.f1 - d) = some (p.f0, p.f1 - d, p.f2 - d, p.f3.map (shn d), shs d p.f4, true, s', p.f2 - d)
def FirstV (V : aE) (s : av) : Prop := ∀ p : S31, VR V s p → p.f1 < s.size → ¬ isBlank (bt s p.f1) ∧ bt s p.f1 ≠ 93
theorem Kids.num {V : aE} {ks : List S31} {i j : Int} (h : Kids V s ks i j) : (ks.length : Int) ≤ j - i ∧ i < j := by
 induction h with
 | last p i r h1 h2 h3 h4 h5 h6 => have := h4.1; simp only [List.length_cons, List.length_nil]; omega
 | more p i r t j ks h1 h2 h3 h4 h5 h6 h7 h8 ih => have := h4.1; have := h7.1; simp only [List.length_cons]; omega
theorem Mems.num {V : aE} {ns : List S93} {ks : List S31} {i j : Int} (h : Mems V s ns ks i j) : (ks.length : Int) ≤ j - i ∧ ns.length = ks.length ∧ i < j := by
 induction h with
 | last nm p i c r h1 h2 h3 h4 h5 h6 h7 h8 h9 h10 h11 => have := h2.2.1; have := h3.1; have := h6.1; have := h9.1; exact ⟨by simp only [List.length_cons, List.length_nil]; omega, rfl, by omega⟩
 | more nm p i c r t j ns ks h1 h2 h3 h4 h5 h6 h7 h8 h9 h10 h11 h12 h13 ih => have := h2.2.1; have := h3.1; have := h6.1; have := h9.1; have := h12.1; exact ⟨by simp only [List.length_cons]; omega, by simp only [List.length_cons]; omega, by omega⟩
section
variable (hw : Win s s' d lo hi)
include hw
theorem Win.gap {i j : Int} (h : Blanks s i j) (h0 : lo ≤ i - d) (h1 : j - d < hi) (hb : ¬ isBlank (bt s j)) (n : Nat) : aI.f (s'.size + 1 + n) s' (i - d) = some (s', j - d) := by
 have z0 := hw.lo0
 have hle := h.1
 refine blanks_fwd hw.sm' (by omega) (hw.blanks (i := i - d) (j := j - d) (by rwa [show i - d + d = i by omega, show j - d + d = j by omega]) h0 (by omega)) (fun hc => hb ?_) n
 have := hc.2
 rwa [hw.eq (j - d) (by omega) h1, show j - d + d = j by omega] at this
theorem Win.byte {i c : Int} (h : bt s i = c) (h0 : lo ≤ i - d) (h1 : i - d < hi) : bt s' (i - d) = c := by
 rw [hw.eq (i - d) h0 h1, show i - d + d = i by omega, h]
theorem Win.ends {e r c : Int} (h : Blanks s e r) (hr : bt s r = c) (hc : ¬ NumCh c) (h0 : lo ≤ e - d) (h1 : r - d < hi) : ¬ NumCh (at0 s e) ∧ ¬ NumCh (at0 s' (e - d)) := by
 have hle := h.1
 have z3 := hw.hid
 have e1 := hw.look (q := e - d) h0 (by omega)
 rw [show e - d + d = e by omega] at e1
 have : ¬ NumCh (at0 s e) := by
  rw [at0_at (by omega)]
  by_cases c1 : e = r
  ·rw [c1, hr]; exact hc
  ·exact blank_num (h.2.2 e (by omega) (by omega))
 exact ⟨this, by rw [e1]; exact this⟩
theorem kids_mv {V V' : aE} (hV : MvV V V' s s' d lo hi) (hF : FirstV V s) {ks : List S31} {i j : Int} (h : Kids V s ks i j) : lo ≤ i - d → j - d ≤ hi →
  ∃ K, ∀ n acc, acc.length + ks.length ≤ 4194304 → aJ.l0 V' (K + n) acc s' (i - d) = some (acc ++ shs d ks, true, s', j - d) := by
 have z0 := hw.lo0; have z2 := hw.hi'; have z3 := hw.hid
 have hn' : s'.size ≤ 1048576 := hw.sm'
 induction h with
 | last p i r h1 h2 h3 h4 h5 h6 =>
  intro g0 g1
  have hle := h4.1
  obtain ⟨f1, f2⟩ := hw.ends h4 h6 (by unfold NumCh; omega) (by omega) (by omega)
  obtain ⟨K, g⟩ := hV p h1 (by omega) h3 (by omega) f1 f2
  refine ⟨K + (s'.size + 1) + 1, fun n acc ha => ?_⟩
  simp only [List.length_cons, List.length_nil] at ha
  rw [show K + (s'.size + 1) + 1 + n = (K + (s'.size + 1 + n)) + 1 by omega, aJ.l0, ← h2, g, al]
  dsimp only
  rw [if_pos rfl, if_pos (by omega), al, show K + (s'.size + 1 + n) = s'.size + 1 + (K + n) by omega, hw.gap h4 (by omega) (by omega) (by rw [h6]; unfold isBlank; omega), al]
  dsimp only
  rw [take_yes s' hw.sm' (r - d) 93 (by omega) (by omega) (hw.byte h6 (by omega) (by omega)), al, if_pos rfl]
  dsimp only
  rw [show r - d + 1 = r + 1 - d by omega, shs, shs, sh_eq]
 | more p i r t j ks h1 h2 h3 h4 h5 h6 h7 h8 ih =>
  intro g0 g1
  have hle := h4.1
  have hl2 := h8.num
  have hle3 := h7.1
  obtain ⟨f1, f2⟩ := hw.ends h4 h6 (by unfold NumCh; omega) (by omega) (by omega)
  obtain ⟨K, g⟩ := hV p h1 (by omega) h3 (by omega) f1 f2
  obtain ⟨K2, g2⟩ := ih (by omega) g1
  have ht : ¬ isBlank (bt s t) := by
   cases h8 with
   | last q _ _ a1 a2 a3 _ _ _ => rw [← a2]; exact (hF q a1 (by omega)).1
   | more q _ _ _ _ _ a1 a2 a3 _ _ _ _ _ => rw [← a2]; exact (hF q a1 (by omega)).1
  refine ⟨K + K2 + (s'.size + 1) + 1, fun n acc ha => ?_⟩
  simp only [List.length_cons] at ha
  rw [show K + K2 + (s'.size + 1) + 1 + n = (K + (K2 + s'.size + 1 + n)) + 1 by omega, aJ.l0, ← h2, g, al]
  dsimp only
  rw [if_pos rfl, if_pos (by omega), al, show K + (K2 + s'.size + 1 + n) = s'.size + 1 + (K + K2 + n) by omega, hw.gap h4 (by omega) (by omega) (by rw [h6]; unfold isBlank; omega), al]
  dsimp only
  have hb := hw.byte h6 (by omega) (by omega)
  rw [take_no s' (r - d) 93 (by omega) (fun e => by have := e.2; omega), al, if_neg (show ¬ (false = true) by decide)]
  dsimp only
  rw [take_yes s' hw.sm' (r - d) 44 (by omega) (by omega) hb, al, if_pos rfl]
  dsimp only
  rw [show r - d + 1 = r + 1 - d by omega, hw.gap h7 (by omega) (by omega) ht, al]
  dsimp only
  rw [show s'.size + 1 + (K + K2 + n) = K2 + (K + s'.size + 1 + n) by omega, g2 _ _ Z41, shs, sh_eq, List.append_assoc]
  rfl
end
end
section
variable {s s' : av} {d lo hi : Int}
section
variable (hw : Win s s' d lo hi)
include hw
theorem mems_mv {V V' : aE} (hV : MvV V V' s s' d lo hi) (hF : FirstV V s) {ns : List S93} {ks : List S31} {i j : Int} (h : Mems V s ns ks i j) : lo ≤ i - d → j - d ≤ hi →
  ∃ K, ∀ n a5 a6, a5.length + ns.length ≤ 4194304 → a6.length + ks.length ≤ 4194304 → aD.l0 V' (K + n) a5 a6 s' (i - d) = some (a5 ++ ns.map (shn d), a6 ++ shs d ks, true, s', j - d) := by
 have z0 := hw.lo0; have z2 := hw.hi'; have z3 := hw.hid
 have hn' : s'.size ≤ 1048576 := hw.sm'
 induction h with
 | last nm p i c r h1 h2 h3 h4 h5 h6 h7 h8 h9 h10 h11 =>
  intro g0 g1
  have l2 := h2.2.1; have l3 := h3.1; have l6 := h6.1; have l9 := h9.1
  have e0 : bt s' (i - d) = 34 := hw.byte (by rw [← rd_bytesOf]; exact h2.1) (by omega) (by omega)
  obtain ⟨K1, q1⟩ := quoted_f_mv hw (i := i - d) (j := nm.f1 - d) (by rwa [show i - d + d = i by omega, show nm.f1 - d + d = nm.f1 by omega]) (by omega) (by omega)
  obtain ⟨f1, f2⟩ := hw.ends h9 h11 (by unfold NumCh; omega) (by omega) (by omega)
  obtain ⟨K, g⟩ := hV p h7 (by omega) h8 (by omega) f1 f2
  refine ⟨K1 + K + s'.size + 3, fun n a5 a6 ha hb => ?_⟩
  simp only [List.length_cons, List.length_nil] at ha hb
  rw [show K1 + K + s'.size + 3 + n = (K1 + (K + s'.size + 2 + n)) + 1 by omega, aD.l0, here_eq s' _ (by omega), at0_at (by omega), al]
  dsimp only
  rw [e0, if_pos rfl, q1, al]
  dsimp only
  rw [show K1 + (K + s'.size + 2 + n) = (s'.size + 1 + (K1 + K + n)) + 1 by omega, aD.j1, if_neg (show ¬ ((!true) = true) by decide), if_pos (by omega), al, hw.gap h3 (by omega) (by omega) (by rw [h5]; unfold isBlank; omega), al]
  dsimp only
  rw [take_yes s' hw.sm' (c - d) 58 (by omega) (by omega) (hw.byte h5 (by omega) (by omega)), al, if_pos rfl]
  dsimp only
  rw [show c - d + 1 = c + 1 - d by omega, hw.gap h6 (by omega) (by omega) (hF p h7 (by omega)).1, al]
  dsimp only
  rw [show s'.size + 1 + (K1 + K + n) = K + (s'.size + 1 + K1 + n) by omega, g, al]
  dsimp only
  rw [if_pos rfl, if_pos (by omega), al, show K + (s'.size + 1 + K1 + n) = s'.size + 1 + (K + K1 + n) by omega, hw.gap h9 (by omega) (by omega) (by rw [h11]; unfold isBlank; omega), al]
  dsimp only
  rw [take_yes s' hw.sm' (r - d) 125 (by omega) (by omega) (hw.byte h11 (by omega) (by omega)), al, if_pos rfl]
  dsimp only
  rw [show r - d + 1 = r + 1 - d by omega, shs, shs, sh_eq, ← h1]
  rfl
 | more nm p i c r t j ns ks h1 h2 h3 h4 h5 h6 h7 h8 h9 h10 h11 h12 h13 ih =>
  intro g0 g1
  have l2 := h2.2.1; have l3 := h3.1; have l6 := h6.1; have l9 := h9.1; have l12 := h12.1; have l13 := h13.num
  have e0 : bt s' (i - d) = 34 := hw.byte (by rw [← rd_bytesOf]; exact h2.1) (by omega) (by omega)
  obtain ⟨K1, q1⟩ := quoted_f_mv hw (i := i - d) (j := nm.f1 - d) (by rwa [show i - d + d = i by omega, show nm.f1 - d + d = nm.f1 by omega]) (by omega) (by omega)
  obtain ⟨f1, f2⟩ := hw.ends h9 h11 (by unfold NumCh; omega) (by omega) (by omega)
  obtain ⟨K, g⟩ := hV p h7 (by omega) h8 (by omega) f1 f2
  obtain ⟨K2, g2⟩ := ih (by omega) g1
  have ht : ¬ isBlank (bt s t) := by
   have : bt s t = 34 := by
    cases h13 with
    | last nm2 p2 _ _ _ a1 a2 => rw [← rd_bytesOf]; exact a2.1
    | more nm2 p2 _ _ _ _ _ _ _ a1 a2 => rw [← rd_bytesOf]; exact a2.1
   rw [this]; unfold isBlank; omega
  refine ⟨K1 + K + K2 + s'.size + 3, fun n a5 a6 ha hb => ?_⟩
  simp only [List.length_cons] at ha hb
  rw [show K1 + K + K2 + s'.size + 3 + n = (K1 + (K + K2 + s'.size + 2 + n)) + 1 by omega, aD.l0, here_eq s' _ (by omega), at0_at (by omega), al]
  dsimp only
  rw [e0, if_pos rfl, q1, al]
  dsimp only
  rw [show K1 + (K + K2 + s'.size + 2 + n) = (s'.size + 1 + (K1 + K + K2 + n)) + 1 by omega, aD.j1, if_neg (show ¬ ((!true) = true) by decide), if_pos (by omega), al, hw.gap h3 (by omega) (by omega) (by rw [h5]; unfold isBlank; omega), al]
  dsimp only
  rw [take_yes s' hw.sm' (c - d) 58 (by omega) (by omega) (hw.byte h5 (by omega) (by omega)), al, if_pos rfl]
  dsimp only
  rw [show c - d + 1 = c + 1 - d by omega, hw.gap h6 (by omega) (by omega) (hF p h7 (by omega)).1, al]
  dsimp only
  rw [show s'.size + 1 + (K1 + K + K2 + n) = K + (s'.size + 1 + K1 + K2 + n) by omega, g, al]
  dsimp only
  rw [if_pos rfl, if_pos (by omega), al, show K + (s'.size + 1 + K1 + K2 + n) = s'.size + 1 + (K + K1 + K2 + n) by omega, hw.gap h9 (by omega) (by omega) (by rw [h11]; unfold isBlank; omega), al]
  dsimp only
  have hb2 := hw.byte h11 (by omega) (by omega)
  rw [take_no s' (r - d) 125 (by omega) (fun e => by have := e.2; omega), al, if_neg (show ¬ (false = true) by decide)]
  dsimp only
  rw [take_yes s' hw.sm' (r - d) 44 (by omega) (by omega) hb2, al, if_pos rfl]
  dsimp only
  rw [show r - d + 1 = r + 1 - d by omega, hw.gap h12 (by omega) (by omega) ht, al]
  dsimp only
  rw [show s'.size + 1 + (K + K1 + K2 + n) = K2 + (K + K1 + s'.size + 1 + n) by omega, g2 _ _ _ Z41 Z41, shs, sh_eq, ← h1, List.append_assoc, List.append_assoc]
  rfl
end
end
section
variable {s s' : av} {d lo hi : Int}
theorem first_at (hn : Small s) : ∀ D, FirstV (aA.at_ D) s := by
 intro D p hp h1
 obtain ⟨h0, k, h⟩ := hp
 cases D with
 | zero => cases h
 | succ D =>
  obtain ⟨_, _, _, hlt, hle, hO⟩ := value_known hn D k p.f1 p.f0 p.f1 p.f2 p.f3 p.f4 s p.f2 h0 (by omega) h
  unfold isBlank
  rcases hO with ⟨_, c, _⟩ | ⟨_, _, c, _⟩ | ⟨_, _, _, c⟩ | ⟨_, _, _, c, _⟩ | ⟨_, _, c0, c⟩
  ·omega
  ·omega
  ·have := c.1; rw [rd_bytesOf] at this; omega
  ·omega
  ·rcases c with ⟨_, c⟩ | ⟨_, c⟩ | ⟨_, c⟩
   all_goals
    have e := (word_at c h0 c0 (by omega)).2 0 (by decide)
    rw [show p.f1 + ((0 : Nat) : Int) = p.f1 by omega] at e
    simp at e
    omega
theorem num_val (M : bI) (E : bH) {k : Nat} {i j : Int} (h0 : 0 ≤ i) (h1 : i < s.size) (hc : (48 ≤ bt s i ∧ bt s i ≤ 57) ∨ bt s i = 45) (h : aC.f k s i = some (true, s, j)) (n : Nat) :
  aA.f M E (k + 1 + n) s i = some (3, i, j, [], [], true, s, j) := by
 have hu : ∀ n, aC.f (k + n) s i = some (true, s, j) := by
  intro n
  induction n with
  | zero => exact h
  | succ n ih => exact aC.mono s i (k + n) _ ih
 unfold aA.f
 rw [here_eq s i h0, at0_at h1, al]
 dsimp only
 rw [if_neg (by omega), if_neg (by omega), if_neg (by omega)]
 have hj : aA.j0 M E (k + 1 + n) true true s i 0 i 0 = some (3, i, j, [], [], true, s, j) := by
  rw [show k + 1 + n = (k + n) + 1 by omega, aA.j0, if_pos rfl, hu n, al]
 by_cases c : bt s i = 45
 ·rw [if_pos c]; exact hj
 ·rw [if_neg c, if_pos (by omega), ae (by omega)]; exact hj
theorem word_val (hn : Small s) (M : bI) (E : bH) {i j kd : Int} (h0 : 0 ≤ i) (hj : j ≤ s.size)
  (h : (kd = 0 ∧ j = i + 4 ∧ ∀ q : Nat, q < 4 → bt s (i + q) = [110, 117, 108, 108].getD q 0) ∨ (kd = 1 ∧ j = i + 5 ∧ ∀ q : Nat, q < 5 → bt s (i + q) = [102, 97, 108, 115, 101].getD q 0) ∨ (kd = 2 ∧ j = i + 4 ∧ ∀ q : Nat, q < 4 → bt s (i + q) = [116, 114, 117, 101].getD q 0)) (n : Nat) :
  aA.f M E (1 + n) s i = some (kd, i, j, [], [], true, s, j) := by
 have b1 : ∀ q : Nat, q < 4 → bt (⟨#[110, 117, 108, 108]⟩ : av) q = [110, 117, 108, 108].getD q 0 := by decide
 have b2 : ∀ q : Nat, q < 5 → bt (⟨#[102, 97, 108, 115, 101]⟩ : av) q = [102, 97, 108, 115, 101].getD q 0 := by decide
 have b3 : ∀ q : Nat, q < 4 → bt (⟨#[116, 114, 117, 101]⟩ : av) q = [116, 114, 117, 101].getD q 0 := by decide
 have z1 : bt (⟨#[110, 117, 108, 108]⟩ : av) 0 = 110 := by decide
 have z2 : bt (⟨#[102, 97, 108, 115, 101]⟩ : av) 0 = 102 := by decide
 have s1 : (⟨#[110, 117, 108, 108]⟩ : av).size = 4 := rfl
 have s2 : (⟨#[102, 97, 108, 115, 101]⟩ : av).size = 5 := rfl
 have s3 : (⟨#[116, 114, 117, 101]⟩ : av).size = 4 := rfl
 have hc : bt s i = 110 ∨ bt s i = 102 ∨ bt s i = 116 := by
  rcases h with ⟨_, _, g⟩ | ⟨_, _, g⟩ | ⟨_, _, g⟩ <;> (have := g 0 (by decide); rw [show i + ((0 : Nat) : Int) = i by omega] at this; simp at this; omega)
 unfold aA.f
 rw [here_eq s i h0, at0_at (by omega), al]
 dsimp only
 rw [if_neg (by omega), if_neg (by omega), if_neg (by omega), if_neg (by omega), if_pos (by omega), af (by omega), Nat.add_comm 1 n, aA.j0, if_neg (show ¬ (false = true) by decide)]
 rcases h with ⟨rfl, rfl, g⟩ | ⟨rfl, rfl, g⟩ | ⟨rfl, rfl, g⟩
 ·rw [word_yes hn h0 (by rw [s1]; omega) (by rw [s1]; omega) (fun q hq => by rw [s1] at hq; rw [b1 q hq]; exact g q hq), al, if_pos rfl]
  rfl
 ·have e : bt s i = 102 := by have := g 0 (by decide); rw [show i + ((0 : Nat) : Int) = i by omega] at this; simpa using this
  rw [word_no hn h0 (by omega) (by rw [s1]; omega) (by rw [s1]; omega) (fun _ => by rw [z1]; omega), al, if_neg (show ¬ (false = true) by decide)]
  dsimp only
  rw [word_yes hn h0 (by rw [s2]; omega) (by rw [s2]; omega) (fun q hq => by rw [s2] at hq; rw [b2 q hq]; exact g q hq), al, if_pos rfl]
  rfl
 ·have e : bt s i = 116 := by have := g 0 (by decide); rw [show i + ((0 : Nat) : Int) = i by omega] at this; simpa using this
  rw [word_no hn h0 (by omega) (by rw [s1]; omega) (by rw [s1]; omega) (fun _ => by rw [z1]; omega), al, if_neg (show ¬ (false = true) by decide)]
  dsimp only
  rw [word_no hn h0 (by omega) (by rw [s2]; omega) (by rw [s2]; omega) (fun _ => by rw [z2]; omega), al, if_neg (show ¬ (false = true) by decide)]
  dsimp only
  rw [word_yes hn h0 (by rw [s3]; omega) (by rw [s3]; omega) (fun q hq => by rw [s3] at hq; rw [b3 q hq]; exact g q hq), al, if_pos rfl]
  rfl
section
variable (hw : Win s s' d lo hi)
include hw
theorem members_mv {V V' : aE} (hV : MvV V V' s s' d lo hi) (hF : FirstV V s) {ns : List S93} {ks : List S31} {i j : Int} (h : MemsAt V s i j ns ks) (h0 : lo ≤ i - d) (h1 : j - d ≤ hi) :
  ∃ K, ∀ n, aD.f V' (K + n) s' (i - d) = some (ns.map (shn d), shs d ks, true, s', j - d) := by
 have z0 := hw.lo0; have z2 := hw.hi'; have z3 := hw.hid
 have hn' : s'.size ≤ 1048576 := hw.sm'
 rcases h with ⟨rfl, rfl, p, hb, hp, hc, rfl⟩ | ⟨p, hb, hm⟩
 ·have hl := hb.1
  refine ⟨s'.size + 1, fun n => ?_⟩
  unfold aD.f
  rw [w64 (by omega) (by omega), show i - d + 1 = i + 1 - d by omega, hw.gap hb (by omega) (by omega) (by rw [hc]; unfold isBlank; omega), al]
  dsimp only
  rw [take_yes s' hw.sm' (p - d) 125 (by omega) (by omega) (hw.byte hc (by omega) (by omega)), al, if_pos rfl]
  dsimp only
  rw [show p - d + 1 = p + 1 - d by omega, shs]
  rfl
 ·have hl := hb.1
  have hm2 := hm.num
  obtain ⟨K, g⟩ := mems_mv hw hV hF hm (by omega) h1
  have e0 : bt s p = 34 := by
   cases hm with
   | last nm2 p2 _ _ _ a1 a2 => rw [← rd_bytesOf]; exact a2.1
   | more nm2 p2 _ _ _ _ _ _ _ a1 a2 => rw [← rd_bytesOf]; exact a2.1
  have e1 := hw.byte e0 (by omega) (by omega)
  refine ⟨K + s'.size + 1, fun n => ?_⟩
  unfold aD.f
  rw [w64 (by omega) (by omega), show i - d + 1 = i + 1 - d by omega, show K + s'.size + 1 + n = s'.size + 1 + (K + n) by omega, hw.gap hb (by omega) (by omega) (by rw [e0]; unfold isBlank; omega), al]
  dsimp only
  rw [take_no s' (p - d) 125 (by omega) (fun e => by have := e.2; omega), al, if_neg (show ¬ (false = true) by decide)]
  dsimp only
  rw [show s'.size + 1 + (K + n) = K + (s'.size + 1 + n) by omega, g _ _ _ (by simp only [List.length_nil]; omega) (by simp only [List.length_nil]; omega)]
  rfl
theorem elements_mv {V V' : aE} (hV : MvV V V' s s' d lo hi) (hF : FirstV V s) {ks : List S31} {i j : Int} (h : (ks = [] ∧ ∃ p, Blanks s (i + 1) p ∧ p < s.size ∧ bt s p = 93 ∧ j = p + 1) ∨ ∃ p, Blanks s (i + 1) p ∧ Kids V s ks p j) (h0 : lo ≤ i - d) (h1 : j - d ≤ hi) :
  ∃ K, ∀ n, aJ.f V' (K + n) s' (i - d) = some (shs d ks, true, s', j - d) := by
 have z0 := hw.lo0; have z2 := hw.hi'; have z3 := hw.hid
 have hn' : s'.size ≤ 1048576 := hw.sm'
 rcases h with ⟨rfl, p, hb, hp, hc, rfl⟩ | ⟨p, hb, hm⟩
 ·have hl := hb.1
  refine ⟨s'.size + 1, fun n => ?_⟩
  unfold aJ.f
  rw [w64 (by omega) (by omega), show i - d + 1 = i + 1 - d by omega, hw.gap hb (by omega) (by omega) (by rw [hc]; unfold isBlank; omega), al]
  dsimp only
  rw [take_yes s' hw.sm' (p - d) 93 (by omega) (by omega) (hw.byte hc (by omega) (by omega)), al, if_pos rfl]
  dsimp only
  rw [show p - d + 1 = p + 1 - d by omega, shs]
 ·have hl := hb.1
  have hm2 := hm.num
  obtain ⟨K, g⟩ := kids_mv hw hV hF hm (by omega) h1
  have e0 : ¬ isBlank (bt s p) ∧ bt s p ≠ 93 := by
   cases hm with
   | last q _ _ a1 a2 a3 _ _ _ => rw [← a2]; exact hF q a1 (by omega)
   | more q _ _ _ _ _ a1 a2 a3 _ _ _ _ _ => rw [← a2]; exact hF q a1 (by omega)
  have e1 := hw.byte (i := p) rfl (by omega) (by omega)
  refine ⟨K + s'.size + 1, fun n => ?_⟩
  unfold aJ.f
  rw [w64 (by omega) (by omega), show i - d + 1 = i + 1 - d by omega, show K + s'.size + 1 + n = s'.size + 1 + (K + n) by omega, hw.gap hb (by omega) (by omega) e0.1, al]
  dsimp only
  rw [take_no s' (p - d) 93 (by omega) (fun e => e0.2 (by rw [← e1]; exact e.2)), al, if_neg (show ¬ (false = true) by decide)]
  dsimp only
  rw [show s'.size + 1 + (K + n) = K + (s'.size + 1 + n) by omega, g _ _ (by simp only [List.length_nil]; omega)]
  rfl
end
end
section
variable {s s' : av} {d lo hi : Int}
theorem num_inv {M : bI} {E : bH} {k : Nat} {i b j : Int} {ns : List S93} {ks : List S31} {t : av} {j' : Int} (h0 : 0 ≤ i) (h1 : i < s.size) (hc : (48 ≤ bt s i ∧ bt s i ≤ 57) ∨ bt s i = 45)
  (h : aA.f M E k s i = some (3, b, j, ns, ks, true, t, j')) : ∃ k, aC.f k s i = some (true, t, j) := by
 unfold aA.f at h
 rw [here_eq s i h0, at0_at h1, al] at h
 dsimp only at h
 rw [if_neg (by omega), if_neg (by omega), if_neg (by omega)] at h
 have hj : aA.j0 M E k true true s i 0 i 0 = some (3, b, j, ns, ks, true, t, j') := by
  by_cases c : bt s i = 45
  ·rw [if_pos c] at h; exact h
  ·rw [if_neg c, if_pos (by omega), ae (by omega)] at h; exact h
 cases k with
 | zero => rw [aA.j0] at hj; cases hj
 | succ k =>
  rw [aA.j0, if_pos rfl] at hj
  obtain ⟨⟨b1, s1, j1⟩, e1, hj⟩ := ao hj
  simp only [am, an] at hj
  obtain ⟨_, _, rfl, _, _, rfl, rfl, _⟩ := hj
  exact ⟨k, e1⟩
theorem value_mv (hw : Win s s' d lo hi) : ∀ D D', D ≤ D' → MvV (aA.at_ D) (aA.at_ D') s s' d lo hi := by
 intro D
 induction D using Nat.strongRecOn with
 | _ D ih =>
 intro D' hD p hp g0 g1 g2 st st'
 obtain ⟨h0, k, h⟩ := hp
 have z0 := hw.lo0; have z1 := hw.lod; have z2 := hw.hi'; have z3 := hw.hid
 have hn' : s'.size ≤ 1048576 := hw.sm'
 cases D with
 | zero => cases h
 | succ D =>
 obtain ⟨D', rfl⟩ : ∃ m, D' = m + 1 := ⟨D' - 1, by omega⟩
 obtain ⟨_, _, _, _, hle, hO⟩ := value_known hw.sm D k p.f1 p.f0 p.f1 p.f2 p.f3 p.f4 s p.f2 h0 (by omega) h
 have h' : aA.f (aD.at_ D) (aJ.at_ D) k s p.f1 = some (p.f0, p.f1, p.f2, p.f3, p.f4, true, s, p.f2) := h
 show ∃ K, ∀ n, aA.f (aD.at_ D') (aJ.at_ D') (K + n) s' (p.f1 - d) = _
 rcases hO with ⟨e6, c, hm⟩ | ⟨e5, en, c, hk⟩ | ⟨e4, en, ek, hS⟩ | ⟨e3, en, ek, hc, _⟩ | ⟨en, ek, hlt, hW⟩
 ·cases D with
  | zero =>
   unfold aA.f at h'
   rw [here_eq s _ h0, at0_at (by omega), al] at h'
   dsimp only at h'
   rw [if_pos c] at h'
   cases h'
  | succ E =>
   obtain ⟨E', rfl⟩ : ∃ m, D' = m + 1 := ⟨D' - 1, by omega⟩
   obtain ⟨K, g⟩ := members_mv hw (ih E (by omega) E' (by omega)) (first_at hw.sm E) hm g0 g2
   have g' : ∀ n, (aD.at_ (E' + 1)).f (K + n) s' (p.f1 - d) = some (p.f3.map (shn d), shs d p.f4, true, s', p.f2 - d) := g
   refine ⟨K, fun n => ?_⟩
   unfold aA.f
   rw [here_eq s' _ (by omega), at0_at (by omega), al]
   dsimp only
   rw [if_pos (hw.byte c g0 (by omega)), g', al, e6]
 ·cases D with
  | zero =>
   unfold aA.f at h'
   rw [here_eq s _ h0, at0_at (by omega), al] at h'
   dsimp only at h'
   rw [if_neg (by omega), if_pos c] at h'
   cases h'
  | succ E =>
   obtain ⟨E', rfl⟩ : ∃ m, D' = m + 1 := ⟨D' - 1, by omega⟩
   obtain ⟨K, g⟩ := elements_mv hw (ih E (by omega) E' (by omega)) (first_at hw.sm E) hk g0 g2
   have g' : ∀ n, (aJ.at_ (E' + 1)).f (K + n) s' (p.f1 - d) = some (shs d p.f4, true, s', p.f2 - d) := g
   have hb := hw.byte c g0 (by omega)
   refine ⟨K, fun n => ?_⟩
   unfold aA.f
   rw [here_eq s' _ (by omega), at0_at (by omega), al]
   dsimp only
   rw [if_neg (by omega), if_pos hb, g', al, e5, en]
   rfl
 ·have c : bt s p.f1 = 34 := by rw [← rd_bytesOf]; exact hS.1
  have hb := hw.byte c g0 (by omega)
  obtain ⟨K, g⟩ := quoted_f_mv hw (i := p.f1 - d) (j := p.f2 - d) (by rwa [show p.f1 - d + d = p.f1 by omega, show p.f2 - d + d = p.f2 by omega]) g0 g2
  refine ⟨K, fun n => ?_⟩
  unfold aA.f
  rw [here_eq s' _ (by omega), at0_at (by omega), al]
  dsimp only
  rw [if_neg (by omega), if_neg (by omega), if_pos hb, g, al, e4, en, ek, shs]
  rfl
 ·rw [e3] at h'
  obtain ⟨k2, hn2⟩ := num_inv h0 (by omega) hc h'
  have hw2 := hw.sub (lo2 := lo) (hi2 := p.f2 - d) (by omega) g2
  obtain ⟨_, j', ej, hn3, _, _⟩ := number_mv hw2 (by rwa [show p.f2 - d + d = p.f2 by omega]) st' k2 (i := p.f1 - d) g0 (by omega) true s p.f2 (by rwa [show p.f1 - d + d = p.f1 by omega])
  obtain rfl : j' = p.f2 - d := by omega
  have hb := hw.byte (i := p.f1) rfl g0 (by omega)
  exact ⟨k2 + 1, fun n => by rw [num_val _ _ (by omega) (by omega) (by rw [hb]; exact hc) hn3 n, e3, en, ek, shs]; rfl⟩
 ·refine ⟨1, fun n => ?_⟩
  have mv : ∀ l : List Int, seg (bytesOf s) p.f1 p.f2 = l → p.f2 - d = p.f1 - d + l.length ∧ ∀ q : Nat, q < l.length → bt s' (p.f1 - d + q) = l.getD q 0 := by
   intro l hl
   obtain ⟨a1, a2⟩ := word_at hl h0 hlt hle
   refine ⟨by omega, fun q hq => ?_⟩
   rw [hw.eq _ (by omega) (by omega), show p.f1 - d + (q : Int) + d = p.f1 + q by omega]
   exact a2 q hq
  rw [word_val hw.sm' _ _ (i := p.f1 - d) (j := p.f2 - d) (kd := p.f0) (by omega) (by omega) (by
   rcases hW with ⟨e, c⟩ | ⟨e, c⟩ | ⟨e, c⟩
   ·obtain ⟨a1, a2⟩ := mv _ c; exact .inl ⟨e, a1, a2⟩
   ·obtain ⟨a1, a2⟩ := mv _ c; exact .inr (.inl ⟨e, a1, a2⟩)
   ·obtain ⟨a1, a2⟩ := mv _ c; exact .inr (.inr ⟨e, a1, a2⟩)) n, en, ek, shs]
  rfl
end
end Go.Proofs.YtkjnahgicfmicaaGreatDoor.Sp

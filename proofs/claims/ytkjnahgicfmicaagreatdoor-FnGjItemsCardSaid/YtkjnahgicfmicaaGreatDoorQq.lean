import Derived.Test.YtkjnahgicfmicaaGreatDoorQp
import Derived.Test.YtkjnahgicfmicaaGreatDoorPlc
import Derived.Test.YtkjnahgicfmicaaGreatDoorSpx11
import Derived.Test.YtkjnahgicfmicaaGreatDoorLr8
import Derived.Test.YtkjnahgicfmicaaGreatDoorSpx7
namespace Go.Proofs.YtkjnahgicfmicaaGreatDoor.Gj
open Go.RowKit Go.Proofs.YtkjnahgicfmicaaGreatDoorW.PrintWords Go.Proofs.YtkjnahgicfmicaaGreatDoorW.PrintLast Go.Proofs.YtkjnahgicfmicaaGreatDoorW.PrintMore Sp Dec
set_option linter.unusedVariables false
set_option linter.unusedSimpArgs false
set_option maxRecDepth 100000
theorem parse_l {s : ByteArray} (hs : s.size ≤ 65536) {b : Nat} (hb : b < s.size) (hc : bt s b = 123 ∨ bt s b = 91) : ∀ (d i : Nat), i + d = b → (∀ q : Nat, i ≤ q → q < b → isBlank (bt s q)) →
  ∃ K r5, bL.l0 K s i 0 ⟨#[]⟩ ⟨#[]⟩ 0 0 = some (5, s.extract b s.size, ⟨#[]⟩, 0, r5, [])
 | 0, i, hd, h => by
  obtain rfl : i = b := by omega
  have hj : ∃ r5, bL.j1 1 s i true 0 ⟨#[]⟩ ⟨#[]⟩ 0 0 = some (5, s.extract i s.size, ⟨#[]⟩, 0, r5, []) := by
   simp only [bL.j1, if_true]
   rw [if_pos (show (0 : Int) ≤ i by omega), if_pos (show (i : Int) ≤ s.size by omega)]
   exact ⟨(i : Int), by simp [bU.f]⟩
  obtain ⟨r5, hj⟩ := hj
  refine ⟨2, r5, ?_⟩
  simp only [bL.l0]
  rw [if_pos (show (i : Int) < s.size by omega), if_pos (show (0 : Int) ≤ i by omega)]
  rcases hc with hc | hc
  ·rw [if_pos hc]; exact hj
  ·rw [if_neg (by omega), show (bt s i == 91) = true by simp [hc]]; exact hj
 | d + 1, i, hd, h => by
  obtain ⟨K, r5, ih⟩ := parse_l hs hb hc d (i + 1) (by omega) (fun q h0 h1 => h q (by omega) h1)
  have hbl := h i (Nat.le_refl _) (by omega)
  unfold isBlank at hbl
  refine ⟨K + 2, r5, ?_⟩
  simp only [bL.l0]
  rw [if_pos (show (i : Int) < s.size by omega), if_pos (show (0 : Int) ≤ i by omega), if_neg (by omega), show (bt s i == 91) = false by simp; omega]
  simp only [bL.j1, Bool.false_eq_true, if_false]
  rw [if_pos (show (0 : Int) ≤ i by omega), if_pos (show (i : Int) < s.size by omega), if_pos (by omega), wp1 (by omega)]
  exact ih
theorem places_inv {s : ByteArray} (hn : Small s) {D k : Nat} {kd b j : Int} {ns : List S93} {ks : List S31} (h : places (aI.at_ (D + 1)) k s = some (kd, b, j, ns, ks, true)) :
  0 ≤ b ∧ Blanks s 0 b ∧ b < j ∧ j ≤ s.size ∧ Rest s j ∧ ValO (aI.at_ (D - 1)) s kd b j ns ks ∧ VR (aI.at_ (D + 1)) s ⟨kd, b, j, ns, ks⟩ := by
 unfold places at h
 obtain ⟨⟨s1, a1⟩, h1, h⟩ := Option.bind_eq_some_iff.mp h
 obtain ⟨rfl, hB⟩ := blanks_inv s hn k 0 s1 a1 (by omega) (by omega) h1
 obtain ⟨⟨v1, v2, v3, v4, v5, v6, v7, v8⟩, h2, h⟩ := Option.bind_eq_some_iff.mp h
 simp only at h h2
 split at h
 case isFalse => cases h
 rename_i hv
 subst hv
 obtain ⟨⟨c1, c2⟩, h3, h⟩ := Option.bind_eq_some_iff.mp h
 simp only at h
 split at h
 case isFalse => cases h
 rename_i hc
 simp only [Option.some.injEq, Prod.mk.injEq] at h
 obtain ⟨rfl, rfl, rfl, rfl, rfl, _⟩ := h
 obtain ⟨e1, e2, e3, g1, g2, g3⟩ := value_known hn D k a1 v1 v2 v3 v4 v5 v7 v8 (by have := hB.1; omega) hB.2.1 h2
 subst e1 e2 e3
 obtain ⟨_, hB2⟩ := blanks_inv v7 hn k v8 c1 c2 (by have := hB.1; omega) g2 h3
 have hb1 := hB.1
 refine ⟨hB.1, hB, g1, g2, fun q a b => hB2.2.2 q a (by omega), g3, by show 0 ≤ v2; omega, k, h2⟩
theorem kids_len {V : aK} {s : ByteArray} {ks : List S31} {i j : Int} (h : Sp.Kids V s ks i j) : (ks.length : Int) ≤ j - i := by
 induction h with
 | last p i r h1 h2 h3 h4 h5 h6 => have := h4.1; simp; omega
 | more p i r t j ks h1 h2 h3 h4 h5 h6 h7 h8 ih => have := h4.1; have := h7.1; simp; omega
theorem mems_len {V : aK} {s : ByteArray} {ns : List S93} {ks : List S31} {i j : Int} (h : Sp.Mems V s ns ks i j) : (ks.length : Int) ≤ j - i ∧ ns.length = ks.length := by
 induction h with
 | last nm p i c r h1 h2 h3 h4 h5 h6 h7 h8 h9 h10 h11 => have := h2.2.1; have := h3.1; have := h6.1; have := h9.1; simp; omega
 | more nm p i c r t j ns ks h1 h2 h3 h4 h5 h6 h7 h8 h9 h10 h11 h12 h13 ih => have := h2.2.1; have := h3.1; have := h6.1; have := h9.1; have := h12.1; have := ih.1; have := ih.2; simp; omega
def psOf (s : ByteArray) (kd : Int) (ns : List S93) (ks : List S31) : List (GR × GR → Prop) := if kd = 5 then (ks.map (GjV s)).map OnVal else (ns.zip ks).map (ItemOK s)
theorem lies_of {s : ByteArray} (hs : s.size ≤ 65536) {D k : Nat} {kd b j : Int} {ns : List S93} {ks : List S31} (hp : PairedAt s 0) (h : places (aI.at_ (D + 1)) k s = some (kd, b, j, ns, ks, true)) (hk : kd = 5 ∨ kd = 6) :
  Lies (s.extract b.toNat s.size) (psOf s kd ns ks) ∧ (kd = 6 → ns.length = ks.length) ∧ (ks.length : Int) ≤ s.size ∧ (∃ K r5, bL.f K s = some (5, s.extract b.toNat s.size, ⟨#[]⟩, 0, r5, [])) := by
 have hn : Small s := by unfold Small; omega
 obtain ⟨h0, hB, hlt, hle, hR, hV, _⟩ := places_inv hn h
 have hpb := (hB.lex (by omega)).paired hn hp
 have hbs : b.toNat ≤ s.size := by omega
 have e0 : at_ (s.extract b.toNat s.size) 0 = bt s b := by rw [at_sh hbs]; unfold at_; congr 1; omega
 have hpl : bt s b = 123 ∨ bt s b = 91 → ∃ K r5, bL.f K s = some (5, s.extract b.toNat s.size, ⟨#[]⟩, 0, r5, []) := fun hc =>
  parse_l hs (by omega) (by rw [show ((b.toNat : Nat) : Int) = b by omega]; exact hc) b.toNat 0 (by omega) (fun q a b => hB.2.2 q (by omega) (by omega))
 rcases hV with ⟨rfl, hc, hm⟩ | ⟨rfl, rfl, hc, hm⟩ | ⟨rfl, _⟩ | ⟨rfl, _⟩ | ⟨_, _, _, hw⟩
 ·have hp1 := PairedAt.plain hn hpb h0 (by omega) (by omega)
  refine ⟨.inr ⟨by rw [e0]; exact hc, ?_, ?_⟩, ?_, ?_, hpl (.inl hc)⟩
  ·rw [psOf, if_neg (by omega)]
   rcases hm with ⟨rfl, rfl, p, hb, hp, hc2, rfl⟩ | ⟨p, hb, hm⟩
   ·exact olay_end b.toNat (by have := hb.1; omega) hp (.inr hc2) hR (by have := hb.1; omega) (fun q a c => hb.2.2 q (by omega) c)
   ·refine mems_olay hn hs (D - 1) b.toNat hm 1 (by have := hb.1; omega) (by have := hb.1; omega) (fun q a c => ?_) ((hb.lex (by omega)).paired hn hp1) hR
    have := hb.2.2 q (by omega) c
    unfold isBlank at this
    omega
  ·rw [psOf, if_neg (by omega), List.length_map, List.length_zip]
   rcases hm with ⟨rfl, rfl, _⟩ | ⟨p, hb, hm⟩
   ·simp
   ·have := mems_len hm; have := hb.1; omega
  ·rcases hm with ⟨rfl, rfl, _⟩ | ⟨p, hb, hm⟩
   ·exact fun _ => rfl
   ·exact fun _ => (mems_len hm).2
  ·rcases hm with ⟨rfl, rfl, _⟩ | ⟨p, hb, hm⟩
   ·simp
   ·have := mems_len hm; have := hb.1; omega
 ·have hp1 := PairedAt.plain hn hpb h0 (by omega) (by omega)
  refine ⟨.inl ⟨by rw [e0]; exact hc, ks.map (GjV s), ?_, ?_, by rw [psOf, if_pos rfl]⟩, by omega, ?_, hpl (.inr hc)⟩
  ·rcases hm with ⟨rfl, p, hb, hp, hc2, rfl⟩ | ⟨p, hb, hm⟩
   ·exact alay_end hn hs b.toNat (by have := hb.1; omega) hp (.inl hc2) hR (by have := hb.1; omega) (fun q a c => hb.2.2 q (by omega) c)
   ·exact kids_alay hn hs (D - 1) b.toNat hm 1 (by have := hb.1; omega) (fun q a c => blank_skip (hb.2.2 q (by omega) c)) ((hb.lex (by omega)).paired hn hp1) hR
  ·rw [List.length_map]
   rcases hm with ⟨rfl, _⟩ | ⟨p, hb, hm⟩
   ·simp
   ·have := kids_len hm; have := hb.1; omega
  ·rcases hm with ⟨rfl, _⟩ | ⟨p, hb, hm⟩
   ·simp
   ·have := kids_len hm; have := hb.1; omega
 ·omega
 ·omega
 ·omega
theorem Told.all {n : Nat} {ps : List (GR × GR → Prop)} {L : List (GR × GR)} (h : Told (fun _ => true) n ps L) : L.length = ps.length ∧ ∀ (q : Nat) (P : GR × GR → Prop) (x : GR × GR), ps[q]? = some P → L[q]? = some x → P x := by
 induction h with
 | done n => exact ⟨rfl, fun q P x h => by simp at h⟩
 | stop n P ps x h1 h2 => cases h2
 | more n P ps x xs h1 h2 h3 ih =>
  refine ⟨by simp [ih.1], fun q P' x' a b => ?_⟩
  cases q with
  | zero =>
   simp only [List.getElem?_cons_zero, Option.some.injEq] at a b
   subst a b
   exact h1
  | succ q => exact ih.2 q P' x' (by simpa using a) (by simpa using b)
end Go.Proofs.YtkjnahgicfmicaaGreatDoor.Gj
namespace Go.Proofs.YtkjnahgicfmicaaGreatDoor.Gj
open Go.RowKit Go.Proofs.YtkjnahgicfmicaaGreatDoorW.PrintWords Sp
set_option linter.unusedVariables false
set_option linter.unusedSimpArgs false
section
variable {s : ByteArray} (hn : Small s)
include hn
theorem char_l {i x8 : Int} (x9 : Int) (h0 : 0 ≤ i) (h8 : 1 ≤ x8 ∧ x8 ≤ 3) (h1 : i + x8 < s.size) : ∀ (d k : Nat) (x7 x10 : Int), x8 + 1 - x10 = d → 1 ≤ x10 → d + 1 ≤ k → ∃ c n ok, aU.l0 k s i x7 x8 x9 x10 = some (c, n, ok) ∧ (ok = true → 1 ≤ n ∧ i + n ≤ s.size)
 | d, 0, x7, x10, hd, h10, hk => by omega
 | d, k + 1, x7, x10, hd, h10, hk => by
  simp only [aU.l0]
  by_cases h : x10 ≤ x8
  ·rw [if_pos h, w64 (x := i + x10) (by omega) (by omega), if_pos (by omega), if_pos (by omega)]
   by_cases ha : wrap64 (bt s (i + x10)) < 128
   ·rw [if_pos ha]; exact ⟨_, _, _, rfl, by simp⟩
   ·rw [if_neg ha]
    by_cases hb : wrap64 (bt s (i + x10)) > 191
    ·rw [if_pos hb]; exact ⟨_, _, _, rfl, by simp⟩
    ·rw [if_neg hb, w64 (x := x10 + 1) (by omega) (by omega)]
     obtain ⟨d', rfl⟩ : ∃ d', d = d' + 1 := ⟨d - 1, by omega⟩
     exact char_l x9 h0 h8 h1 d' k _ _ (by omega) (by omega) (by omega)
  ·rw [if_neg h]
   by_cases ha : x7 < x9
   ·rw [if_pos ha]; exact ⟨_, _, _, rfl, by simp⟩
   ·rw [if_neg ha]
    by_cases hb : x7 > 1114111
    ·rw [if_pos hb]; exact ⟨_, _, _, rfl, by simp⟩
    ·rw [if_neg hb, high_eq, low_eq]
     simp only [Option.bind_some]
     by_cases hc : decide (High x7) = true
     ·rw [if_pos hc]; exact ⟨_, _, _, rfl, by simp⟩
     ·rw [if_neg hc]
      by_cases hd2 : decide (Low x7) = true
      ·rw [if_pos hd2]; exact ⟨_, _, _, rfl, by simp⟩
      ·rw [if_neg hd2, w64 (x := x8 + 1) (by omega) (by omega)]
       exact ⟨_, _, _, rfl, fun _ => by omega⟩
theorem char_j2 {i x8 : Int} (x7 x9 : Int) (h0 : 0 ≤ i) (hi : i ≤ s.size) (h8 : 1 ≤ x8 ∧ x8 ≤ 3) (k : Nat) (hk : 6 ≤ k) : ∃ c n ok, aU.j2 k s i x7 x8 x9 = some (c, n, ok) ∧ (ok = true → 1 ≤ n ∧ i + n ≤ s.size) := by
 obtain ⟨k, rfl⟩ : ∃ k', k = k' + 1 := ⟨k - 1, by omega⟩
 simp only [aU.j2]
 rw [w64 (x := (s.size : Int) - i) (by omega) (by omega)]
 by_cases h : (s.size : Int) - i ≤ x8
 ·rw [if_pos h]; exact ⟨_, _, _, rfl, by simp⟩
 ·rw [if_neg h]
  exact char_l hn x9 h0 h8 (by omega) x8.toNat k x7 1 (by omega) (by omega) (by omega)
theorem char_tot {i : Int} (h0 : 0 ≤ i) (hi : i < s.size) (k : Nat) (hk : 8 ≤ k) : ∃ c n ok, aU.f k s i = some (c, n, ok) ∧ (ok = true → 1 ≤ n ∧ i + n ≤ s.size) := by
 unfold aU.f
 rw [if_pos h0, if_pos hi]
 by_cases h : wrap64 (bt s i) < 128
 ·rw [if_pos h]; exact ⟨_, _, _, rfl, fun _ => by omega⟩
 ·rw [if_neg h]
  have hj1 : ∀ x b, ∃ c n ok, aU.j1 (k - 1) s i x b = some (c, n, ok) ∧ (ok = true → 1 ≤ n ∧ i + n ≤ s.size) := by
   intro x b
   obtain ⟨k, rfl⟩ : ∃ k', k = k' + 2 := ⟨k - 2, by omega⟩
   show ∃ c n ok, aU.j1 (k + 1) s i x b = some (c, n, ok) ∧ _
   simp only [aU.j1]
   split
   ·exact char_j2 hn _ _ h0 (by omega) (by omega) k (by omega)
   ·split
    ·split
     ·exact char_j2 hn _ _ h0 (by omega) (by omega) k (by omega)
     ·exact ⟨_, _, _, rfl, by simp⟩
    ·exact ⟨_, _, _, rfl, by simp⟩
  have hj0 : ∀ x b, ∃ c n ok, aU.j0 k s i x b = some (c, n, ok) ∧ (ok = true → 1 ≤ n ∧ i + n ≤ s.size) := by
   intro x b
   obtain ⟨k, rfl⟩ : ∃ k', k = k' + 1 := ⟨k - 1, by omega⟩
   simp only [aU.j0]
   split
   ·exact char_j2 hn _ _ h0 (by omega) (by omega) k (by omega)
   ·split
    ·exact hj1 _ _
    ·exact hj1 _ _
  split
  ·exact hj0 _ _
  ·exact hj0 _ _
theorem zT : ∀ (d k : Nat) (i : Int), 0 ≤ i → i ≤ s.size → (s.size : Int) - i ≤ d → d + 10 ≤ k → ∃ b, cC.l0 k s i = some b
 | d, 0, i, _, _, _, hk => by omega
 | d, k + 1, i, h0, h1, hd, hk => by
  simp only [cC.l0]
  by_cases h : i < s.size
  ·obtain ⟨c, n, ok, e, hok⟩ := char_tot hn h0 h k (by omega)
   rw [if_pos h, e]
   simp only [Option.bind_some]
   cases ok with
   | false => exact ⟨false, by simp⟩
   | true =>
    have := hok rfl
    obtain ⟨d', rfl⟩ : ∃ d', d = d' + 1 := ⟨d - 1, by omega⟩
    rw [if_pos rfl, w64 (x := i + n) (by omega) (by omega)]
    exact zT d' k _ (by omega) (by omega) (by omega) (by omega)
  ·rw [if_neg h]; exact ⟨true, rfl⟩
theorem wY : ∃ K b, ∀ n, cC.f (K + n) s = some b := by
 obtain ⟨b, hb⟩ := zT hn s.size (s.size + 10) 0 (by omega) (by omega) (by omega) (by omega)
 refine ⟨s.size + 10, b, fun n => ?_⟩
 induction n with
 | zero => exact hb
 | succ n ih => exact cC.mono s (s.size + 10 + n) _ ih
end
end Go.Proofs.YtkjnahgicfmicaaGreatDoor.Gj
namespace Go.Proofs.YtkjnahgicfmicaaGreatDoor.Gj
open Go.RowKit Go.Proofs.YtkjnahgicfmicaaGreatDoorW.PrintWords Go.Proofs.YtkjnahgicfmicaaGreatDoorW.PrintLast Go.Proofs.YtkjnahgicfmicaaGreatDoorW.PrintMore Sp Dec
set_option linter.unusedVariables false
set_option linter.unusedSimpArgs false
set_option maxRecDepth 100000
theorem upk {α : Type} {f : Nat → Option α} (hm : ∀ k, LeO (f k) (f (k + 1))) {k : Nat} {r : α} (h : f k = some r) : ∀ n, f (k + n) = some r
 | 0 => h
 | n + 1 => hm (k + n) r (upk hm h n)
theorem unik {α : Type} {f : Nat → Option α} (hm : ∀ k, LeO (f k) (f (k + 1))) {k k' : Nat} {r r' : α} (h : f k = some r) (h' : f k' = some r') : r = r' := by
 have a := upk hm h k'
 have b := upk hm h' k
 rw [show k' + k = k + k' by omega, a] at b
 exact Option.some.inj b
theorem bound {α : Type} {P : α → Nat → Prop} : ∀ (l : List α), (∀ x ∈ l, ∃ K, ∀ n, P x (K + n)) → ∃ K, ∀ x ∈ l, ∀ n, P x (K + n)
 | [], _ => ⟨0, fun x h => by simp at h⟩
 | a :: l, h => by
  obtain ⟨K1, h1⟩ := bound l (fun x hx => h x (List.mem_cons_of_mem _ hx))
  obtain ⟨K2, h2⟩ := h a (List.mem_cons_self ..)
  refine ⟨K1 + K2, fun x hx n => ?_⟩
  rcases List.mem_cons.1 hx with rfl | hx
  ·rw [show K1 + K2 + n = K2 + (K1 + n) by omega]; exact h2 _
  ·rw [show K1 + K2 + n = K1 + (K2 + n) by omega]; exact h1 x hx _
open Classical in
noncomputable def unqO (s : ByteArray) (a b : Int) : ByteArray := if h : ∃ o, ∃ k, aX.f k (s.extract a.toNat b.toNat) = some o then h.choose else ⟨#[]⟩
theorem unqO_eq {s : ByteArray} {a b : Int} {k : Nat} {o : ByteArray} (h : aX.f k (s.extract a.toNat b.toNat) = some o) : unqO s a b = o := by
 have hx : ∃ o, ∃ k, aX.f k (s.extract a.toNat b.toNat) = some o := ⟨o, k, h⟩
 unfold unqO
 rw [dif_pos hx]
 obtain ⟨k', hk⟩ := hx.choose_spec
 exact unik (f := fun k => aX.f k (s.extract a.toNat b.toNat)) (fun k => aX.mono _ k) hk h
theorem unqO_up {s : ByteArray} {a b : Int} {k : Nat} {o : ByteArray} (h : aX.f k (s.extract a.toNat b.toNat) = some o) (n : Nat) : aX.f (k + n) (s.extract a.toNat b.toNat) = some (unqO s a b) := by
 rw [unqO_eq h]
 exact upk (f := fun k => aX.f k (s.extract a.toNat b.toNat)) (fun k => aX.mono _ k) h n
def NmOK (s : ByteArray) (x : S93) : Prop := 0 ≤ x.f0 ∧ x.f0 ≤ x.f1 ∧ x.f1 ≤ s.size ∧ ∃ K, ∀ n, aX.f (K + n) (s.extract x.f0.toNat x.f1.toNat) = some (unqO s x.f0 x.f1)
def KdOK (V : aK) (s : ByteArray) (p : S31) : Prop := VR V s p ∧ PairedAt s p.f1 ∧ p.f1 < p.f2 ∧ p.f2 ≤ s.size
section
variable {s : ByteArray} (hn : Small s)
include hn
theorem kids_each {V : aK} (hV : LexV V s) {ks : List S31} {i j : Int} (h : Sp.Kids V s ks i j) : PairedAt s i → ∀ p ∈ ks, KdOK V s p := by
 induction h with
 | last p i r h1 h2 h3 h4 h5 h6 =>
  intro hp q hq
  simp only [List.mem_singleton] at hq
  subst hq h2
  exact ⟨h1, hp, h3, by have := h4.1; omega⟩
 | more p i r t j ks h1 h2 h3 h4 h5 h6 h7 h8 ih =>
  intro hp q hq
  subst h2
  have h41 := h4.1
  have h0 := h1.1
  have hL := hV p h1 (by omega)
  have p1 := (h4.lex (by omega)).paired hn (hL.paired hn hp)
  have p2 := PairedAt.plain hn p1 (by omega) h5 (by omega)
  rcases List.mem_cons.1 hq with rfl | hq
  ·exact ⟨h1, hp, h3, by omega⟩
  ·exact ih ((h7.lex (by omega)).paired hn p2) q hq
theorem mems_each {V : aK} (hV : LexV V s) {ns : List S93} {ks : List S31} {i j : Int} (h : Sp.Mems V s ns ks i j) : 0 ≤ i → PairedAt s i → (∀ p ∈ ks, KdOK V s p) ∧ ∀ x ∈ ns, NmOK s x := by
 induction h with
 | last nm p i c r h1 h2 h3 h4 h5 h6 h7 h8 h9 h10 h11 =>
  intro hi hp
  have hb3 := h3.1
  have hb6 := h6.1
  have hb9 := h9.1
  have hlt := h2.2.1
  have h0 := h7.1
  obtain ⟨o, hI, hp1, k, hu⟩ := seg_unq hn hi h2 hp
  have hp2 := PairedAt.plain hn ((h3.lex (by omega)).paired hn hp1) (by omega) h4 (by omega)
  have hp3 := (h6.lex (by omega)).paired hn hp2
  subst h1
  refine ⟨fun q hq => ?_, fun q hq => ?_⟩
  ·simp only [List.mem_singleton] at hq
   subst hq
   exact ⟨h7, hp3, h8, by omega⟩
  ·simp only [List.mem_singleton] at hq
   subst hq
   exact ⟨hi, by omega, by omega, k, unqO_up hu⟩
 | more nm p i c r t j ns ks h1 h2 h3 h4 h5 h6 h7 h8 h9 h10 h11 h12 h13 ih =>
  intro hi hp
  have hb3 := h3.1
  have hb6 := h6.1
  have hb9 := h9.1
  have hb12 := h12.1
  have hlt := h2.2.1
  have h0 := h7.1
  obtain ⟨o, hI, hp1, k, hu⟩ := seg_unq hn hi h2 hp
  have hp2 := PairedAt.plain hn ((h3.lex (by omega)).paired hn hp1) (by omega) h4 (by omega)
  have hp3 := (h6.lex (by omega)).paired hn hp2
  have hL := hV p h7 (by omega)
  have p1 := (h9.lex (by omega)).paired hn (hL.paired hn hp3)
  have p2 := PairedAt.plain hn p1 (by omega) h10 (by omega)
  obtain ⟨i1, i2⟩ := ih (by omega) ((h12.lex (by omega)).paired hn p2)
  subst h1
  refine ⟨fun q hq => ?_, fun q hq => ?_⟩
  ·rcases List.mem_cons.1 hq with rfl | hq
   ·exact ⟨h7, hp3, h8, by omega⟩
   ·exact i1 q hq
  ·rcases List.mem_cons.1 hq with rfl | hq
   ·exact ⟨hi, by omega, by omega, k, unqO_up hu⟩
   ·exact i2 q hq
theorem valo_each {V : aK} (hV : LexV V s) {kd i j : Int} {ns : List S93} {ks : List S31} (h : ValO V s kd i j ns ks) (h0 : 0 ≤ i) (h1 : i < s.size) (h2 : j ≤ s.size) (hp : PairedAt s i) :
  (∀ p ∈ ks, KdOK V s p) ∧ (∀ x ∈ ns, NmOK s x) ∧ (ks.length : Int) ≤ s.size ∧ (ns.length : Int) ≤ s.size ∧ (kd = 6 → ns.length = ks.length) ∧ (kd = 4 → ∃ K, ∀ n, aX.f (K + n) (s.extract i.toNat j.toNat) = some (unqO s i j)) := by
 rcases h with ⟨rfl, hc, hm⟩ | ⟨rfl, rfl, hc, hm⟩ | ⟨rfl, rfl, rfl, hS⟩ | ⟨rfl, rfl, rfl, _⟩ | ⟨rfl, rfl, _, hw⟩
 ·have hp1 := PairedAt.plain hn hp h0 h1 (by omega)
  rcases hm with ⟨rfl, rfl, _⟩ | ⟨p, hb, hm⟩
  ·exact ⟨by simp, by simp, by simp, by simp, fun _ => rfl, by omega⟩
  ·have hb1 := hb.1
   obtain ⟨a1, a2⟩ := mems_each hn hV hm (by omega) ((hb.lex (by omega)).paired hn hp1)
   obtain ⟨l1, l2⟩ := mems_len hm
   exact ⟨a1, a2, by omega, by omega, fun _ => l2, by omega⟩
 ·have hp1 := PairedAt.plain hn hp h0 h1 (by omega)
  rcases hm with ⟨rfl, _⟩ | ⟨p, hb, hm⟩
  ·exact ⟨by simp, by simp, by simp, by simp, fun _ => rfl, by omega⟩
  ·have hb1 := hb.1
   have l1 := kids_len hm
   exact ⟨kids_each hn hV hm ((hb.lex (by omega)).paired hn hp1), by simp, by omega, by simp, by omega, by omega⟩
 ·obtain ⟨o, hI, hp1, k, hu⟩ := seg_unq hn h0 hS hp
  exact ⟨by simp, by simp, by simp, by simp, by omega, fun _ => ⟨k, unqO_up hu⟩⟩
 ·exact ⟨by simp, by simp, by simp, by simp, by omega, by omega⟩
 ·exact ⟨by simp, by simp, by simp, by simp, by omega, by omega⟩
end
end Go.Proofs.YtkjnahgicfmicaaGreatDoor.Gj
namespace Go.Proofs.YtkjnahgicfmicaaGreatDoor.Gj
open Go.RowKit Go.Proofs.YtkjnahgicfmicaaGreatDoorW.PrintWords Go.Proofs.YtkjnahgicfmicaaGreatDoorW.PrintLast Go.Proofs.YtkjnahgicfmicaaGreatDoorW.PrintMore Sp Dec
set_option linter.unusedVariables false
set_option linter.unusedSimpArgs false
set_option maxRecDepth 100000
theorem getD_at {α : Type} (z : α) (l : List α) (q : Nat) (h : q < l.length) : l.getD ((q : Int)).toNat z = l[q] := by
 rw [List.getD_eq_getElem?_getD]
 simp [h]
def TreeOK (s : ByteArray) (p : S31) (k : Nat) : Prop := ∃ t tks, bB.f k s p.f0 p.f1 p.f2 p.f3 p.f4 = some (p.f0, t, p.f3.map (fun x => unqO s x.f0 x.f1), tks)
def UnqOK (s : ByteArray) (x : S93) (k : Nat) : Prop := aX.f k (s.extract x.f0.toNat x.f1.toNat) = some (unqO s x.f0 x.f1)
section
variable {s : ByteArray} {ks : List S31} {ns : List S93} {K : Nat}
theorem tree_l1 (hK : ∀ p ∈ ks, ∀ n, TreeOK s p (K + n)) (a b c : Int) (y0 : Int) (y1 : ByteArray) (y2 : List ByteArray) (hl : ks.length ≤ 1000000) : ∀ (d q k : Nat) (acc : List S25), q + d = ks.length → acc.length + d ≤ 1048576 → K + d + 1 ≤ k → ∃ out, bB.l1 k s (q : Int) a b c ns ks y0 y1 y2 acc = some (y0, y1, y2, out)
 | d, q, 0, acc, _, _, hk => by omega
 | 0, q, k + 1, acc, hq, _, hk => by
  simp only [bB.l1]
  rw [if_neg (by omega)]
  exact ⟨_, rfl⟩
 | d + 1, q, k + 1, acc, hq, ha, hk => by
  obtain ⟨t, tks, e⟩ := hK ks[q] (List.getElem_mem (by omega)) (k - K)
  rw [show K + (k - K) = k by omega] at e
  simp only [bB.l1]
  rw [if_pos (by omega), if_pos (by omega), show rd_T31 ks (q : Int) = ks[q] from getD_at _ _ _ (by omega), e]
  simp only [Option.bind_some]
  rw [if_pos (by omega), wp1 (by omega)]
  exact tree_l1 hK a b c y0 y1 y2 hl d (q + 1) k _ (by omega) (by simp; omega) (by omega)
theorem tree_l0 (hK : ∀ p ∈ ks, ∀ n, TreeOK s p (K + n)) (hN : ∀ x ∈ ns, NmOK s x) (hU : ∀ x ∈ ns, ∀ n, aX.f (K + n) (s.extract x.f0.toNat x.f1.toNat) = some (unqO s x.f0 x.f1)) (a b c : Int) (y0 : Int) (y1 : ByteArray) (hl : ks.length ≤ 1000000) (hl2 : ns.length ≤ 1000000) :
  ∀ (d q k : Nat) (acc : List ByteArray), q + d = ns.length → acc.length + d ≤ 1048576 → K + d + ks.length + 2 ≤ k → ∃ out, bB.l0 k s (q : Int) a b c ns ks y0 y1 acc = some (y0, y1, acc ++ (ns.drop q).map (fun x => unqO s x.f0 x.f1), out)
 | d, q, 0, acc, _, _, hk => by omega
 | 0, q, k + 1, acc, hq, _, hk => by
  simp only [bB.l0]
  rw [if_neg (by omega)]
  rw [List.drop_eq_nil_of_le (by omega), List.map_nil, List.append_nil]
  exact tree_l1 hK a b c y0 y1 acc (by omega) ks.length 0 k [] (by omega) (by simp; omega) (by omega)
 | d + 1, q, k + 1, acc, hq, ha, hk => by
  have hx := hN ns[q] (List.getElem_mem (by omega))
  have e := hU ns[q] (List.getElem_mem (by omega)) (k - K)
  rw [show K + (k - K) = k by omega] at e
  obtain ⟨x0, x1, x2, _⟩ := hx
  simp only [bB.l0]
  rw [if_pos (by omega), if_pos (by omega), show rd_T93 ns (q : Int) = ns[q] from getD_at _ _ _ (by omega), if_pos x0, if_pos x1, if_pos x2, e]
  simp only [Option.bind_some]
  rw [if_pos (by omega), wp1 (by omega)]
  obtain ⟨out, h⟩ := tree_l0 hK hN hU a b c y0 y1 hl hl2 d (q + 1) k (acc ++ [unqO s ns[q].f0 ns[q].f1]) (by omega) (by simp; omega) (by omega)
  refine ⟨out, ?_⟩
  rw [h, List.append_assoc]
  congr 4
  rw [List.drop_eq_getElem_cons (show q < ns.length by omega)]
  rfl
end
theorem tree_up {s : ByteArray} {p : S31} {k : Nat} (h : TreeOK s p k) (n : Nat) : TreeOK s p (k + n) := by
 obtain ⟨t, tks, e⟩ := h
 exact ⟨t, tks, upk (f := fun k => bB.f k s p.f0 p.f1 p.f2 p.f3 p.f4) (fun k => bB.mono _ _ _ _ _ _ k) e n⟩
theorem tree_j0 {s : ByteArray} (hn : Small s) {p : S31} (hk : p.f4.length ≤ 1000000) (hl : p.f3.length ≤ 1000000) (hN : ∀ x ∈ p.f3, NmOK s x) {K1 K2 : Nat} (hK1 : ∀ q ∈ p.f4, ∀ n, TreeOK s q (K1 + n)) (hK2 : ∀ x ∈ p.f3, ∀ n, aX.f (K2 + n) (s.extract x.f0.toNat x.f1.toNat) = some (unqO s x.f0 x.f1)) (y1 : ByteArray) :
  ∃ K out, ∀ n, bB.j0 (K + n) s p.f0 p.f1 p.f2 p.f3 p.f4 p.f0 y1 = some (p.f0, y1, p.f3.map (fun x => unqO s x.f0 x.f1), out) := by
 obtain ⟨kd, a, b, ns, ks⟩ := p
 simp only at *
 have hA : ∀ q ∈ ks, ∀ n, TreeOK s q (K1 + K2 + n) := fun q hq n => by rw [Nat.add_assoc]; exact hK1 q hq _
 have hB : ∀ x ∈ ns, ∀ n, aX.f (K1 + K2 + n) (s.extract x.f0.toNat x.f1.toNat) = some (unqO s x.f0 x.f1) := fun x hx n => by rw [Nat.add_comm K1 K2, Nat.add_assoc]; exact hK2 x hx _
 obtain ⟨M, hM⟩ : ∃ M, K1 + K2 + ns.length + ks.length + 2 = M := ⟨_, rfl⟩
 obtain ⟨out, h⟩ := tree_l0 (K := K1 + K2) hA hN hB kd a b kd y1 hk hl ns.length 0 M [] (Nat.zero_add _) (by simp; omega) (by omega)
 refine ⟨M + 1, out, fun n => ?_⟩
 have hm : ∀ k, LeO (bB.l0 k s ((0 : Nat) : Int) kd a b ns ks kd y1 []) (bB.l0 (k + 1) s ((0 : Nat) : Int) kd a b ns ks kd y1 []) := fun k => (bB.mono_l k).2.2.1 _ _ _ _ _ _ _ _ _ _
 have h2 := upk (f := fun k => bB.l0 k s ((0 : Nat) : Int) kd a b ns ks kd y1 []) hm h n
 rw [List.drop_zero, List.nil_append] at h2
 rw [show M + 1 + n = (M + n) + 1 by omega]
 rw [bB.j0]
 exact h2
theorem tree_of {s : ByteArray} (hn : Small s) {p : S31} (h0 : 0 ≤ p.f1) (h1 : p.f1 ≤ p.f2) (h2 : p.f2 ≤ s.size) (hk : (p.f4.length : Int) ≤ 1000000) (hl : (p.f3.length : Int) ≤ 1000000) (hN : ∀ x ∈ p.f3, NmOK s x) (hT : ∀ q ∈ p.f4, ∃ K, ∀ n, TreeOK s q (K + n))
  (h4 : p.f0 = 4 → ∃ K, ∀ n, aX.f (K + n) (s.extract p.f1.toNat p.f2.toNat) = some (unqO s p.f1 p.f2)) : ∃ K, TreeOK s p K := by
 have hb1 : ∃ K1, ∀ q ∈ p.f4, ∀ n, TreeOK s q (K1 + n) := bound (P := TreeOK s) p.f4 hT
 have hN2 : ∀ x ∈ p.f3, ∃ K, ∀ n, UnqOK s x (K + n) := fun x hx => by
  obtain ⟨_, _, _, h⟩ := hN x hx
  exact h
 have hb2 : ∃ K2, ∀ x ∈ p.f3, ∀ n, UnqOK s x (K2 + n) := bound (P := UnqOK s) p.f3 hN2
 obtain ⟨K1, hK1⟩ := hb1
 obtain ⟨K2, hK2⟩ := hb2
 have hj := tree_j0 hn (p := p) (by omega) (by omega) hN hK1 hK2
 obtain ⟨kd, a, b, ns, ks⟩ := p
 simp only at *
 unfold TreeOK
 by_cases c3 : kd = 3
 ·obtain ⟨K, out, h⟩ := hj (s.extract a.toNat b.toNat)
  have h := h 0
  rw [Nat.add_zero] at h
  refine ⟨K + 1, s.extract a.toNat b.toNat, out, ?_⟩
  rw [bB.f, if_pos c3, if_pos h0, if_pos h1, if_pos h2]
  exact h
 ·by_cases c4 : kd = 4
  ·obtain ⟨K3, hu⟩ := h4 c4
   obtain ⟨K, out, h⟩ := hj (unqO s a b)
   have h := h K3
   have hu := hu K
   rw [Nat.add_comm] at hu
   refine ⟨K + K3 + 1, unqO s a b, out, ?_⟩
   rw [bB.f, if_neg c3, if_pos c4, if_pos h0, if_pos h1, if_pos h2, hu, Option.bind_some]
   exact h
  ·obtain ⟨K, out, h⟩ := hj ⟨#[]⟩
   have h := h 0
   rw [Nat.add_zero] at h
   refine ⟨K + 1, ⟨#[]⟩, out, ?_⟩
   rw [bB.f, if_neg c3, if_neg c4]
   exact h
theorem tree_tot {s : ByteArray} (hn : Small s) (hs : s.size ≤ 65536) : ∀ (D : Nat) (p : S31), VR (aI.at_ D) s p → PairedAt s p.f1 → p.f1 < p.f2 → p.f2 ≤ s.size → ∃ K, TreeOK s p K := by
 intro D
 induction D using Nat.strongRecOn with
 | _ D ih =>
 rintro p ⟨h0, k, h⟩ hp hlt hle
 cases D with
 | zero => cases h
 | succ D =>
  obtain ⟨_, _, _, g1, g2, g3⟩ := value_known hn D k p.f1 p.f0 p.f1 p.f2 p.f3 p.f4 s p.f2 h0 (by omega) h
  obtain ⟨e1, e2, e3, e4, e5, e6⟩ := valo_each hn (value_lex hn (D - 1)) g3 h0 (by omega) g2 hp
  refine tree_of hn h0 (by omega) hle (by omega) (by omega) e2 (fun q hq => ?_) e6
  obtain ⟨a1, a2, a3, a4⟩ := e1 q hq
  obtain ⟨K, hK⟩ := ih (D - 1) (by omega) q a1 a2 a3 a4
  exact ⟨K, fun n => tree_up hK n⟩
end Go.Proofs.YtkjnahgicfmicaaGreatDoor.Gj

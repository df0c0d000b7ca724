import Derived.Test.YtkjnahgicfmicaaGreatDoorZip
import Derived.Test.YtkjnahgicfmicaaGreatDoorPa1
import Derived.Test.YtkjnahgicfmicaaGreatDoorLr8
import Derived.Test.YtkjnahgicfmicaaGreatDoorQl
import Derived.Test.YtkjnahgicfmicaaGreatDoorSpx15
namespace Go.Proofs.YtkjnahgicfmicaaGreatDoor.Gj
open Go.RowKit Go.Proofs.YtkjnahgicfmicaaGreatDoorW.PrintWords Go.Proofs.YtkjnahgicfmicaaGreatDoorW.PrintLast Go.Proofs.YtkjnahgicfmicaaGreatDoorW.PrintMore Sp Dec
set_option linter.unusedVariables false
set_option linter.unusedSimpArgs false
theorem bt_out {s : ByteArray} {q : Int} (h : ¬ q.toNat < s.size) : bt s q = 0 := by simp [bt, h]
theorem bt_sh {s : ByteArray} {b0 : Nat} (hb : b0 ≤ s.size) {q : Int} (hq : 0 ≤ q) : bt (s.extract b0 s.size) q = bt s (b0 + q) := by
 by_cases h : (b0 : Int) + q < s.size
 ·exact bt_ext hq h (Nat.le_refl _)
 ·rw [bt_out Z51, bt_out (by omega)]
theorem at_sh {s : ByteArray} {b0 : Nat} (hb : b0 ≤ s.size) (q : Nat) : at_ (s.extract b0 s.size) q = at_ s (b0 + q) := by
 unfold at_
 rw [bt_sh hb (by omega)]
 congr 1
theorem run_sh {s : ByteArray} {b0 : Nat} (hb : b0 ≤ s.size) (lo : Nat) : ∀ q, run (s.extract b0 s.size) lo q = run s (b0 + lo) (b0 + q)
 | 0 => by
  rw [run_lo (by omega), run_lo (by omega)]
 | q + 1 => by
  have ih := run_sh hb lo q
  rw [show b0 + (q + 1) = (b0 + q) + 1 by omega]
  show (if lo ≤ q ∧ at_ (s.extract b0 s.size) q = 92 then run (s.extract b0 s.size) lo q + 1 else 0) = (if b0 + lo ≤ b0 + q ∧ at_ s (b0 + q) = 92 then run s (b0 + lo) (b0 + q) + 1 else 0)
  rw [at_sh hb, ih]
  by_cases h : lo ≤ q
  ·simp [h]
  ·simp [h]
theorem sz_sh (s : ByteArray) (b0 : Nat) : (s.extract b0 s.size).size = s.size - b0 := by rw [ByteArray.size_extract]; omega
theorem StrAt.sh {s : ByteArray} {b0 b e : Nat} (hb : b0 ≤ s.size) (h : StrAt s (b0 + b) (b0 + e)) : StrAt (s.extract b0 s.size) b e where
 lt := by have := h.lt; omega
 le := by have := h.le; rw [sz_sh]; omega
 op := by rw [at_sh hb]; exact h.op
 cl := by rw [at_sh hb]; exact h.cl
 even := by rw [run_sh hb]; exact h.even
 odd := fun q h0 h1 h2 => by
  rw [run_sh hb]
  rw [at_sh hb] at h2
  exact h.odd (b0 + q) (by omega) (by omega) h2
theorem Sq.sh {s : ByteArray} {b0 : Nat} (hb : b0 ≤ s.size) {i d j : Nat} (h : Sq s i d j) : b0 ≤ i → Sq (s.extract b0 s.size) (i - b0) d (j - b0) := by
 induction h with
 | @skip i d j h1 h2 h3 ih =>
  intro h0
  refine .skip (by rw [sz_sh]; omega) ?_ (by rw [show i - b0 + 1 = i + 1 - b0 by omega]; exact ih (by omega))
  rw [at_sh hb, show b0 + (i - b0) = i by omega]
  exact h2
 | @str i d j e h1 h2 ih =>
  intro h0
  have hlt := h1.lt
  have h3 : StrAt s (b0 + (i - b0)) (b0 + (e - b0)) := by rw [show b0 + (i - b0) = i by omega, show b0 + (e - b0) = e by omega]; exact h1
  exact .str (h3.sh hb) (by rw [show e - b0 + 1 = e + 1 - b0 by omega]; exact ih (by omega))
 | @open_ i d j h1 h2 h3 ih =>
  intro h0
  refine .open_ (by rw [sz_sh]; omega) ?_ (by rw [show i - b0 + 1 = i + 1 - b0 by omega]; exact ih (by omega))
  rw [at_sh hb, show b0 + (i - b0) = i by omega]
  exact h2
 | @close i d j h1 h2 h3 h4 ih =>
  intro h0
  refine .close (by rw [sz_sh]; omega) ?_ h3 (by rw [show i - b0 + 1 = i + 1 - b0 by omega]; exact ih (by omega))
  rw [at_sh hb, show b0 + (i - b0) = i by omega]
  exact h2
 | @last i h1 h2 =>
  intro h0
  rw [show i + 1 - b0 = (i - b0) + 1 by omega]
  refine .last (by rw [sz_sh]; omega) ?_
  rw [at_sh hb, show b0 + (i - b0) = i by omega]
  exact h2
theorem ext_sh {s : ByteArray} {b0 i j : Nat} (h0 : b0 ≤ i) (h1 : i ≤ j) (h2 : j ≤ s.size) : (s.extract b0 s.size).extract (i - b0) (j - b0) = s.extract i j := by
 rw [ByteArray.extract_extract]
 congr 1 <;> omega
structure GjV (s : ByteArray) (p : S31) (g : GR) : Prop where
 kind : cK.f p.f0 = some g.ty
 raw : g.raw = s.extract p.f1.toNat p.f2.toNat
 str : p.f0 = 4 → ∃ k, aX.f k (s.extract p.f1.toNat p.f2.toNat) = some g.str
 ty : g.ty = 0 → 0 < g.raw.size
 none : p.f0 ≠ 4 → g.str = ⟨#[]⟩
theorem GjV.idx {s : ByteArray} {p : S31} {g : GR} (h : GjV s p g) (i : Int) : GjV s p { g with idx := i } := ⟨h.kind, h.raw, h.str, h.ty, h.none⟩
theorem value_first {V : aK} {s : ByteArray} {kd i j : Int} {ns : List S93} {ks : List S31} (h : ValO V s kd i j ns ks) (h0 : 0 ≤ i) (h1 : i < s.size) (h2 : j ≤ s.size) : ¬ Skip (bt s i) := by
 unfold Skip
 rcases h with ⟨_, h, _⟩ | ⟨_, _, h, _⟩ | ⟨_, _, _, h⟩ | ⟨_, _, _, h, _⟩ | ⟨_, _, hl, h⟩
 ·omega
 ·omega
 ·have := h.1
  rw [rd_bytesOf] at this
  omega
 ·omega
 ·rcases h with ⟨_, h⟩ | ⟨_, h⟩ | ⟨_, h⟩ <;>
  ·have := (word_at h h0 hl h2).2 0 (by simp)
   simp at this
   omega
theorem value_pa {s : ByteArray} (hn : Small s) (hsz : s.size ≤ 65536) (D : Nat) (p : S31) (b0 : Nat) (hV : VR (aI.at_ D) s p) (hb : (b0 : Int) ≤ p.f1) (hpr : PairedAt s p.f1) (hlt : p.f1 < p.f2) (h2 : p.f2 < s.size) (hst : NumStop (bt s p.f2)) :
  PA (s.extract b0 s.size) (p.f1 - b0) (fun ok j g => ok = true ∧ j = p.f2 - b0 ∧ GjV s p g) ∧ ¬ Skip (bt s p.f1) ∧ PairedAt s p.f2 := by
 have hL := value_lex hn D p hV (by omega)
 refine ⟨?_, ?_, hL.paired hn hpr⟩
 ·obtain ⟨h0, k, h⟩ := hV
  cases D with
  | zero => cases h
  | succ D =>
   obtain ⟨_, _, _, g1, g2, g3⟩ := value_known hn D k p.f1 p.f0 p.f1 p.f2 p.f3 p.f4 s p.f2 h0 (by omega) h
   obtain ⟨kd, f1, f2, f3, f4⟩ := p
   simp only at *
   obtain ⟨i, rfl⟩ : ∃ i : Nat, f1 = i := ⟨f1.toNat, by omega⟩
   obtain ⟨j, rfl⟩ : ∃ j : Nat, f2 = j := ⟨f2.toNat, by omega⟩
   have hR : (s.extract b0 s.size).size ≤ 1000000 := by rw [sz_sh]; omega
   have hbs : b0 ≤ s.size := by omega
   have ei : b0 + (i - b0) = i := by omega
   have ej : b0 + (j - b0) = j := by omega
   have hraw : (s.extract b0 s.size).extract (i - b0) (j - b0) = s.extract i j := ext_sh (by omega) (by omega) (by omega)
   have hgo : ∀ (ty : Int) (O : Option ByteArray), cK.f kd = some ty → (kd = 4 → ∃ o k, O = some o ∧ aX.f k (s.extract i j) = some o) → (kd ≠ 4 → O = some ⟨#[]⟩) → PA (s.extract b0 s.size) ((i - b0 : Nat) : Int) (Ans (j - b0) ty ((s.extract b0 s.size).extract (i - b0) (j - b0)) O) →
     PA (s.extract b0 s.size) ((i : Int) - b0) (fun ok j' g => ok = true ∧ j' = (j : Int) - b0 ∧ GjV s ⟨kd, i, j, f3, f4⟩ g) := by
    intro ty O hk hO hO4 hP
    rw [show (i : Int) - b0 = ((i - b0 : Nat) : Int) by omega]
    refine hP.mono fun ok j' g ⟨a1, a2, a3⟩ => ⟨a1, by omega, ⟨by rw [a3.ty]; exact hk, by rw [a3.raw, hraw]; rfl, fun h4 => ?_, fun _ => by rw [a3.raw, hraw, ByteArray.size_extract]; omega, fun h4 => a3.str _ (hO4 h4)⟩⟩
    obtain ⟨o, k, ho, hu⟩ := hO h4
    exact ⟨k, by rw [a3.str o ho]; exact hu⟩
   rcases g3 with ⟨rfl, hc, hm⟩ | ⟨rfl, _, hc, hm⟩ | ⟨rfl, _, _, hS⟩ | ⟨rfl, _, _, hc, hN⟩ | ⟨_, _, _, hw⟩
   ·obtain ⟨l1, l2, l3⟩ := mems_at_lex (value_lex hn (D - 1)) hm (by omega)
    have hq := (lex_last l1 (by omega) l3 (.inl l2)).sh hbs (by omega)
    refine hgo 5 (some ⟨#[]⟩) (by simp [cK.f]) (by omega) (fun _ => rfl) (pa_squash hR (by rw [sz_sh]; omega) (.inl (by rw [at_sh hbs, ei]; exact hc)) ?_)
    rw [show (i : Int).toNat + 1 - b0 = i - b0 + 1 by omega] at hq
    exact hq
   ·obtain ⟨l1, l2, l3⟩ := kids_at_lex (value_lex hn (D - 1)) hm (by omega)
    have hq := (lex_last l1 (by omega) l3 (.inr l2)).sh hbs (by omega)
    refine hgo 5 (some ⟨#[]⟩) (by simp [cK.f]) (by omega) (fun _ => rfl) (pa_squash hR (by rw [sz_sh]; omega) (.inr (by rw [at_sh hbs, ei]; exact hc)) ?_)
    rw [show (i : Int).toNat + 1 - b0 = i - b0 + 1 by omega] at hq
    exact hq
   ·obtain ⟨o, hI, _, k, hu⟩ := seg_unq hn (by omega) hS hpr
    have hA := str_at hS (bytesOf_length s)
    have hlt2 := hS.2.1
    have hA' : StrAt s (b0 + (i - b0)) (b0 + (j - 1 - b0)) := by rw [ei, show b0 + (j - 1 - b0) = j - 1 by omega]; exact hA
    have hI' : Inner ((s.extract b0 s.size).extract (i - b0 + 1) (j - 1 - b0)) 0 o := by
     rw [show i - b0 + 1 = (i + 1) - b0 by omega, ext_sh (by omega) (by omega) (by omega)]
     exact hI
    have := pa_str hR (hA'.sh hbs) hI'
    rw [show j - 1 - b0 + 1 = j - b0 by omega] at this
    exact hgo 3 (some (strOfNums o)) (by simp [cK.f]) (fun _ => ⟨_, k, rfl, hu⟩) (fun h => absurd rfl h) this
   ·refine hgo 2 (some ⟨#[]⟩) (by simp [cK.f]) (by omega) (fun _ => rfl) (pa_num hR (by omega) (by rw [sz_sh]; omega) (by rw [at_sh hbs, ei]; exact hc) (fun q a b => ?_) (by rw [at_sh hbs, ej]; exact hst) (by omega))
    rw [at_sh hbs]
    exact hN.2.2 ((b0 + q : Nat) : Int) (by omega) (by omega)
   ·have hls : LitStop (at_ (s.extract b0 s.size) (j - b0)) := by
     rw [at_sh hbs, ej]
     unfold NumStop at hst
     unfold LitStop
     unfold at_
     omega
    have hgo2 : ∀ (ty : Int) (l : List Int), cK.f kd = some ty → kd ≠ 4 → seg (bytesOf s) i j = l → (∀ q : Nat, q < l.length → 97 ≤ l.getD q 0 ∧ l.getD q 0 ≤ 122) → 2 ≤ l.length → ((l.getD 0 0 = 110 ∧ l.getD 1 0 = 117 ∧ ty = 0) ∨ (l.getD 0 0 = 116 ∧ ty = 4) ∨ (l.getD 0 0 = 102 ∧ ty = 1)) →
      PA (s.extract b0 s.size) ((i : Int) - b0) (fun ok j' g => ok = true ∧ j' = (j : Int) - b0 ∧ GjV s ⟨kd, i, j, f3, f4⟩ g) := by
     intro ty l hk h4 hsg hl hl2 hty
     obtain ⟨w1, w2⟩ := word_at hsg (by omega) hlt (by omega)
     have e0 := w2 0 (by omega)
     have e1 := w2 1 (by omega)
     refine hgo ty (some ⟨#[]⟩) hk (fun h => absurd h h4) (fun _ => rfl) (pa_lit hR (by omega) (by rw [sz_sh]; omega) ty ?_ (fun q a b => ?_) hls)
     ·have f0 : at_ (s.extract b0 s.size) (i - b0) = l.getD 0 0 := by rw [at_sh hbs, ei, ← e0]; unfold at_; congr 1
      have f1 : at_ (s.extract b0 s.size) (i - b0 + 1) = l.getD 1 0 := by rw [at_sh hbs, ← e1]; unfold at_; congr 1; omega
      rw [f0, f1]
      exact hty
     ·have e2 := w2 (b0 + q - i) (by omega)
      have := hl (b0 + q - i) (by omega)
      rw [← e2] at this
      rw [at_sh hbs]
      unfold LitStop at_
      rw [show (i : Int) + ((b0 + q - i : Nat) : Int) = ((b0 + q : Nat) : Int) by omega] at this
      omega
    have all : ∀ l : List Int, (∀ x ∈ l, 97 ≤ x ∧ x ≤ 122) → ∀ q : Nat, q < l.length → 97 ≤ l.getD q 0 ∧ l.getD q 0 ≤ 122 := by
     intro l h q hq
     rw [List.getD_eq_getElem?_getD, List.getElem?_eq_getElem hq]
     exact h _ (List.getElem_mem hq)
    rcases hw with ⟨rfl, hw⟩ | ⟨rfl, hw⟩ | ⟨rfl, hw⟩
    ·exact hgo2 0 _ (by simp [cK.f]) (by omega) hw (all _ (by decide)) (by simp) (by simp)
    ·exact hgo2 1 _ (by simp [cK.f]) (by omega) hw (all _ (by decide)) (by simp) (by simp)
    ·exact hgo2 4 _ (by simp [cK.f]) (by omega) hw (all _ (by decide)) (by simp) (by simp)
 ·obtain ⟨h0, k, h⟩ := hV
  cases D with
  | zero => cases h
  | succ D =>
   obtain ⟨_, _, _, g1, g2, g3⟩ := value_known hn D k p.f1 p.f0 p.f1 p.f2 p.f3 p.f4 s p.f2 h0 (by omega) h
   exact value_first g3 h0 (by omega) g2
end Go.Proofs.YtkjnahgicfmicaaGreatDoor.Gj

import Derived.Test.YtmpdhdnoohmndaaGreatDoorQd
import Derived.Scope
import Derived.WalkKit
namespace Go.Proofs.YtmpdhdnoohmndaaGreatDoor.Gj
open Go.RowKit Go.Proofs.YtmpdhdnoohmndaaGreatDoorW.PrintWords
set_option linter.unusedVariables false
def at_ (s : au) (i : Nat) : Int := bt s (i : Int)
theorem at_range (s : au) (i : Nat) : 0 ≤ at_ s i ∧ at_ s i ≤ 255 := bt_range s i
def vch (v : Int) : Int := if v = 34 then 2 else if v = 123 ∨ v = 40 ∨ v = 91 then 3 else if v = 125 ∨ v = 41 ∨ v = 93 then 1 else 0
def VTab (w : World) : Prop := ∀ v : Int, 0 ≤ v → v ≤ 255 → w.cell? ⟨0, v.toNat, none⟩ = some (.int .u8 (vch v))
def run (s : au) (lo : Nat) : Nat → Nat
 | 0 => 0
 | q + 1 => if lo ≤ q ∧ at_ s q = 92 then run s lo q + 1 else 0
structure StrAt (s : au) (b e : Nat) : Prop where
 lt : b < e
 le : e < s.size
 op : at_ s b = 34
 cl : at_ s e = 34
 even : run s (b + 1) e % 2 = 0
 odd : ∀ q, b < q → q < e → at_ s q = 34 → run s (b + 1) q % 2 = 1
inductive Sq (s : au) : Nat → Nat → Nat → Prop
 | skip {i d j : Nat} : i < s.size → vch (at_ s i) = 0 → Sq s (i + 1) d j → Sq s i d j
 | str {i d j e : Nat} : StrAt s i e → Sq s (e + 1) d j → Sq s i d j
 | open_ {i d j : Nat} : i < s.size → vch (at_ s i) = 3 → Sq s (i + 1) (d + 1) j → Sq s i d j
 | close {i d j : Nat} : i < s.size → vch (at_ s i) = 1 → 1 ≤ d → Sq s (i + 1) d j → Sq s i (d + 1) j
 | last {i : Nat} : i < s.size → vch (at_ s i) = 1 → Sq s i 1 (i + 1)
theorem Sq.lt {s : au} {i d j : Nat} (h : Sq s i d j) : i < s.size := by
 cases h with
 | skip h => exact h
 | str h => have := h.lt; have := h.le; omega
 | open_ h => exact h
 | close h => exact h
 | last h => exact h
theorem Sq.le {s : au} {i d j : Nat} (h : Sq s i d j) : i < j ∧ j ≤ s.size := by
 induction h with
 | skip _ _ _ ih => omega
 | str h _ ih => have := h.lt; omega
 | open_ _ _ _ ih => omega
 | close _ _ _ _ ih => omega
 | last h => omega
theorem Sq.depth {s : au} {i d j : Nat} (h : Sq s i d j) : d + i ≤ j := by
 induction h with
 | skip _ _ _ ih => omega
 | str h _ ih => have := h.lt; omega
 | open_ _ _ _ ih => omega
 | close _ _ _ _ ih => omega
 | last h => omega
theorem Sq.inv {s : au} {i d j : Nat} (h : Sq s i d j) :
  (vch (at_ s i) = 0 ∧ Sq s (i + 1) d j) ∨ (vch (at_ s i) = 2 ∧ ∃ e, StrAt s i e ∧ Sq s (e + 1) d j) ∨ (vch (at_ s i) = 3 ∧ Sq s (i + 1) (d + 1) j) ∨ (vch (at_ s i) = 1 ∧ ((∃ d', 1 ≤ d' ∧ d = d' + 1 ∧ Sq s (i + 1) d' j) ∨ d = 1 ∧ j = i + 1)) := by
 cases h with
 | skip _ h h1 => exact .inl ⟨h, h1⟩
 | str h h1 => exact .inr (.inl ⟨by rw [h.op]; rfl, _, h, h1⟩)
 | open_ _ h h1 => exact .inr (.inr (.inl ⟨h, h1⟩))
 | close _ h hd h1 => exact .inr (.inr (.inr ⟨h, .inl ⟨_, hd, rfl, h1⟩⟩))
 | last _ h => exact .inr (.inr (.inr ⟨h, .inr ⟨rfl, rfl⟩⟩))
theorem Sq.skips {s : au} {d j : Nat} : ∀ (n : Nat) {i : Nat}, Sq s i d j → (∀ k, k < n → vch (at_ s (i + k)) = 0) → Sq s (i + n) d j
 | 0, i, h, _ => h
 | n + 1, i, h, hz => by
  have h0 := hz 0 (by omega)
  rw [Nat.add_zero] at h0
  rcases h.inv with ⟨_, h1⟩ | ⟨h1, _⟩ | ⟨h1, _⟩ | ⟨h1, _⟩
  ·have := Sq.skips n h1 (fun k hk => by have := hz (k + 1) (by omega); rwa [show i + (k + 1) = i + 1 + k by omega] at this)
   rwa [show i + (n + 1) = i + 1 + n by omega]
  all_goals rw [h0] at h1; exact absurd h1 (by decide)
theorem Sq.skip1 {s : au} {i d j : Nat} (h : Sq s i d j) (hz : vch (at_ s i) = 0) : Sq s (i + 1) d j :=
 h.skips 1 (fun m hm => by obtain rfl : m = 0 := by omega
                           exact hz)
theorem run_succ {s : au} {lo q : Nat} (h : lo ≤ q) (hb : at_ s q = 92) : run s lo (q + 1) = run s lo q + 1 := by
 rw [run, if_pos ⟨h, hb⟩]
theorem run_zero {s : au} {lo q : Nat} (hb : at_ s q ≠ 92) : run s lo (q + 1) = 0 := by
 rw [run, if_neg (fun h => hb h.2)]
theorem run_lo {s : au} {lo q : Nat} (h : q ≤ lo) : run s lo q = 0 := by
 cases q with
 | zero => rfl
 | succ q => rw [run, if_neg (fun h' => by omega)]
theorem run_le {s : au} {lo : Nat} : ∀ q, run s lo q ≤ q
 | 0 => Nat.le_refl _
 | q + 1 => by
  rw [run]
  split
  ·have := run_le (s := s) (lo := lo) q; omega
  ·omega
end Go.Proofs.YtmpdhdnoohmndaaGreatDoor.Gj
namespace Go.Proofs.YtmpdhdnoohmndaaGreatDoor.Jump
open Go
def G (P : Program) (c : Code) (Q : Exit → Act → World → Prop) (l : Nat) (a : Act) (w : World) : Prop :=
 ∀ (b : Frame) (k : List Item) (cs : List Frame), ∃ rest, findLabel c l = some rest ∧ ∃ e a' w', Q e a' w' ∧ Arrives P (lone (b.at a (.code rest :: .inScope c :: k)) cs w) b k cs e a' w'
def toG (P : Program) (c : Code) (Q : Exit → Act → World → Prop) : Exit → Act → World → Prop
 | .goto l, a, w => G P c Q l a w
 | e, a, w => Q e a w
def T (P : Program) (c : Code) (Q : Exit → Act → World → Prop) (l : Nat) (a : Act) (w : World) : Prop := ∃ rest, findLabel c l = some (.seq .skip rest) ∧ rest.wp P (toG P c Q) a w
section
variable {P : Program} {c : Code} {Q : Exit → Act → World → Prop} {a : Act} {w : World}
theorem toG_normal : toG P c Q .normal a w = Q .normal a w := rfl
theorem toG_exit (id : Nat) : toG P c Q (.exit id) a w = Q (.exit id) a w := rfl
theorem toG_ret : toG P c Q .ret a w = Q .ret a w := rfl
theorem toG_panic (ch : List PanicEntry) : toG P c Q (.panic ch) a w = Q (.panic ch) a w := rfl
theorem toG_goto (l : Nat) (h : G P c Q l a w) : toG P c Q (.goto l) a w := h
theorem runs_on (rest : Code) (h : rest.wp P (toG P c Q) a w) (b : Frame) (k : List Item) (cs : List Frame) : ∃ e a' w', Q e a' w' ∧ Arrives P (lone (b.at a (.code rest :: .inScope c :: k)) cs w) b k cs e a' w' := by
 obtain ⟨e, a₁, w₁, hq, harr⟩ := h b (.inScope c :: k) cs
 cases e with
 | normal => exact ⟨.normal, a₁, w₁, hq, Steps.trans harr (.one step_inScope)⟩
 | exit id => exact ⟨.exit id, a₁, w₁, hq, fun k' hk => harr k' (by simp [exitTo, hk])⟩
 | goto l' =>
  obtain ⟨rest', hf, e₂, a₂, w₂, hq₂, harr₂⟩ := hq b k cs
  have hg : gotoIn l' (.inScope c :: k) = some (.code rest' :: .inScope c :: k) := by simp [gotoIn, hf]
  exact ⟨e₂, a₂, w₂, hq₂, .of_steps (harr _ hg) harr₂⟩
 | ret => exact ⟨_, a₁, w₁, hq, harr⟩
 | panic ch => exact ⟨_, a₁, w₁, hq, harr⟩
 | outgrown => exact ⟨_, a₁, w₁, hq, harr⟩
theorem T.g {l : Nat} (h : T P c Q l a w) : G P c Q l a w := fun b k cs => by
 obtain ⟨rest, hf, hr⟩ := h
 obtain ⟨e, a', w', hq, harr⟩ := runs_on (.seq .skip rest) (wp_seq (wp_skip hr)) b k cs
 exact ⟨_, hf, e, a', w', hq, harr⟩
theorem T.on {l : Nat} {rest : Code} (h : T P c Q l a w) (hf : findLabel c l = some (.seq .skip rest)) : rest.wp P (toG P c Q) a w := by
 obtain ⟨r, h1, h2⟩ := h
 obtain rfl : r = rest := (Code.seq.inj (ar (h1.symm.trans hf))).2
 exact h2
theorem scope_law (J : Nat → Act → World → Prop) (μ : Nat → Act → World → Nat)
  (pass : ∀ l a w, J l a w → (∀ l' a' w', J l' a' w' → μ l' a' w' < μ l a w → T P c Q l' a' w') → T P c Q l a w)
  (first : (∀ l a w, J l a w → T P c Q l a w) → c.wp P (toG P c Q) a w) : (Code.scope c).wp P Q a w := by
 have all : ∀ n l a w, μ l a w = n → J l a w → T P c Q l a w := by
  intro n
  induction n using Nat.strongRecOn with
  | _ n ih =>
   intro l a w hn hJ
   exact pass l a w hJ fun l' a' w' hJ' hlt => ih _ (by omega) l' a' w' rfl hJ'
 intro b k cs
 obtain ⟨e, a', w', hq, harr⟩ := runs_on c (first fun l a w h => all _ l a w rfl h) b k cs
 exact ⟨e, a', w', hq, .of_steps (.one step_scope) harr⟩
end
end Go.Proofs.YtmpdhdnoohmndaaGreatDoor.Jump

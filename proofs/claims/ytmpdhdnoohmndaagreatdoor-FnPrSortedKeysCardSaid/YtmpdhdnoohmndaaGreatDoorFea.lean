import Derived.Test.YtmpdhdnoohmndaaGreatDoorItr
import Derived.Test.YtmpdhdnoohmndaaGreatDoorGj1
import Derived.Test.YtmpdhdnoohmndaaGreatDoorQa
namespace Go.Proofs.YtmpdhdnoohmndaaGreatDoor.Gj
open Go.RowKit Go.Proofs.YtmpdhdnoohmndaaGreatDoorW.PrintWords Go.Proofs.YtmpdhdnoohmndaaGreatDoorW.PrintLast Go.Proofs.YtmpdhdnoohmndaaGreatDoorW.PrintMore Sp Dec
attribute [local go_sem] run_store_float max2_int min2_int max_two min_two max_three min_three max_four min_four
set_option linter.unusedVariables false
set_option linter.unusedSimpArgs false
set_option maxRecDepth 100000 in
set_option maxHeartbeats 4000000 in
theorem exists_true (ty : Int) (a b : au) (f : Nat) (i : Int) (v : Value) (w : World) (h : (ty != 0) = true) :
 Calls Tryz.prog 29 #[.agg #[.int .i64 ty, .string a, .string b, .float .f64 f, .int .i64 i, v]] w fun e w' => e = .returned (.bool true) ∧ Below w.heap.size w w' := by
 go_enter Tryz.func29, Tryz.ntmps29
 go_wp2_with (fail)
 go_ret
 exact ⟨rfl, below_alloc (Below.refl _ _) _⟩
def PA (R : au) (i : Int) (Q : Bool → Int → GR → Prop) : Prop := ∀ w, Wok w → Calls Tryz.prog 32 #[.string R, .int .i64 i, .bool true] w fun e w' =>
 ∃ (ok : Bool) (j : Int) (g : GR), Q ok j g ∧ e = .returned (.tuple #[.int .i64 j, g.v, .bool ok]) ∧ Below w.heap.size w w'
def Skip (c : Int) : Prop := c ≤ 32 ∨ c = 44 ∨ c = 58
inductive ALay (R : au) : Nat → List (GR → Prop) → Prop
 | end_ (i : Nat) : R.size ≤ i → ALay R i []
 | last (i b : Nat) : i ≤ b → b ≤ R.size → (∀ q, i ≤ q → q < b → Skip (at_ R q)) → (b < R.size → ¬ Skip (at_ R b)) → PA R b (fun ok _ _ => ok = false) → ALay R i []
 | item (i b e : Nat) (G : GR → Prop) (l : List (GR → Prop)) : i ≤ b → b < e → e ≤ R.size → (∀ q, i ≤ q → q < b → Skip (at_ R q)) → ¬ Skip (at_ R b) → PA R b (fun ok j g => ok = true ∧ j = (e : Int) ∧ ∀ i, G { g with idx := i }) → ALay R (e + 1) l → ALay R i (G :: l)
inductive Told (cont : Nat → Bool) : Nat → List (GR × GR → Prop) → List (GR × GR) → Prop
 | done (n : Nat) : Told cont n [] []
 | stop (n : Nat) (P : GR × GR → Prop) (ps : List (GR × GR → Prop)) (x : GR × GR) : P x → cont (n + 1) = false → Told cont n (P :: ps) [x]
 | more (n : Nat) (P : GR × GR → Prop) (ps : List (GR × GR → Prop)) (x : GR × GR) (xs : List (GR × GR)) : P x → cont (n + 1) = true → Told cont (n + 1) ps xs → Told cont n (P :: ps) (x :: xs)
def FePost (cont : Nat → Bool) (It : (Nat → Prop) → List (GR × GR) → World → Prop) (A : Nat → Prop) (ps : List (GR × GR → Prop)) (w : World) (e : Ending) (w' : World) : Prop :=
 e = .returned (.tuple #[]) ∧ ∃ L, Told cont 0 ps L ∧ It A L w' ∧ Kp A w w'
theorem PA.mono {R : au} {i : Int} {Q Q' : Bool → Int → GR → Prop} (h : PA R i Q) (hq : ∀ ok j g, Q ok j g → Q' ok j g) : PA R i Q' := fun w hw => (h w hw).mono fun e w' ⟨ok, j, g, h1, h2, h3⟩ => ⟨ok, j, g, hq _ _ _ h1, h2, h3⟩
theorem PA.calls {R : au} {i : Int} {Q : Bool → Int → GR → Prop} (h : PA R i Q) {w : World} (hw : Wok w) : Calls Tryz.prog 32 #[.string R, .int .i64 i, .bool true] w fun e w' =>
 ∃ (ok : Bool) (j : Int) (g : GR), Q ok j g ∧ e = .returned (.tuple #[.int .i64 j, g.v, .bool ok]) ∧ Below w.heap.size w w' := h w hw
def Next (R : au) (b : Nat) (rest : List (GR → Prop)) (ok : Bool) (j : Int) (g : GR) : Prop :=
 (ok = false ∧ rest = []) ∨ (ok = true ∧ ∃ (G : GR → Prop) (l : List (GR → Prop)) (e : Nat), rest = G :: l ∧ j = (e : Int) ∧ b < e ∧ e ≤ R.size ∧ (∀ i, G { g with idx := i }) ∧ ALay R (e + 1) l)
theorem ALay.inv {R : au} {i : Nat} {rest : List (GR → Prop)} (h : ALay R i rest) (hi : i < R.size) :
 ∃ b, i ≤ b ∧ b ≤ R.size ∧ (∀ q, i ≤ q → q < b → Skip (at_ R q)) ∧ (b < R.size → ¬ Skip (at_ R b)) ∧ PA R b (Next R b rest) := by
 cases h with
 | end_ _ h => omega
 | last _ b h1 h2 h3 h4 h5 => exact ⟨b, h1, h2, h3, h4, h5.mono fun ok j g h => .inl ⟨h, rfl⟩⟩
 | item _ b e G l h1 h2 h3 h4 h5 h6 h7 => exact ⟨b, h1, by omega, h4, fun _ => h5, h6.mono fun ok j g ⟨a1, a2, a3⟩ => .inr ⟨a1, G, l, e, rfl, a2, h2, h3, a3, h7⟩⟩
theorem ALay.over {R : au} {i : Nat} {rest : List (GR → Prop)} (h : ALay R i rest) (hi : R.size ≤ i) : rest = [] := by
 cases h with
 | end_ _ h => rfl
 | last _ b h1 h2 h3 h4 h5 => rfl
 | item _ b e G l h1 h2 h3 h4 h5 h6 h7 => omega
def Left (cont : Nat → Bool) (ps : List (GR × GR → Prop)) (l1 : List (GR × GR)) (rest : List (GR × GR → Prop)) : Prop := (∀ L2, Told cont l1.length rest L2 → Told cont 0 ps (l1 ++ L2)) ∧ l1.length + rest.length ≤ 1000000
theorem Left.start (cont : Nat → Bool) (ps : List (GR × GR → Prop)) (h : ps.length ≤ 1000000) : Left cont ps [] ps := ⟨fun L2 h => h, by simpa using h⟩
theorem Left.done {cont : Nat → Bool} {ps : List (GR × GR → Prop)} {l1 : List (GR × GR)} (h : Left cont ps l1 []) : Told cont 0 ps l1 := by
 have := h.1 [] (.done _)
 rwa [List.append_nil] at this
theorem Left.stop {cont : Nat → Bool} {ps : List (GR × GR → Prop)} {l1 : List (GR × GR)} {P : GR × GR → Prop} {rest : List (GR × GR → Prop)} (h : Left cont ps l1 (P :: rest)) {x : GR × GR} (hx : P x) (hc : cont (l1.length + 1) = false) : Told cont 0 ps (l1 ++ [x]) := h.1 _ (.stop _ _ _ _ hx hc)
theorem Left.more {cont : Nat → Bool} {ps : List (GR × GR → Prop)} {l1 : List (GR × GR)} {P : GR × GR → Prop} {rest : List (GR × GR → Prop)} (h : Left cont ps l1 (P :: rest)) {x : GR × GR} (hx : P x) (hc : cont (l1.length + 1) = true) : Left cont ps (l1 ++ [x]) rest := by
 refine ⟨fun L2 h2 => ?_, ?_⟩
 ·rw [List.append_assoc]
  refine h.1 _ (.more _ _ _ _ _ hx hc ?_)
  rwa [List.length_append] at h2
 ·have := h.2
  rw [List.length_append]
  simp only [List.length_cons, List.length_nil] at *
  omega
end Go.Proofs.YtmpdhdnoohmndaaGreatDoor.Gj

/- FnGjReverseTextTwice: for every text, the law FnGjReverseTextTwice returns true, and its argument reads afterwards as it read before: the row and the tied card. The package variables are as the program's own text lays them (tied). -/
import Derived.Test.YtkjnahgicfmicaaGreatDoorCards
import Derived.Test.YtkjnahgicfmicaaGreatDoorTie
import Derived.Test.YtkjnahgicfmicaaGreatDoorQp
import Derived.Test.YtkjnahgicfmicaaGreatDoorQr
import Derived.SevenTiedAt
namespace Go.Proofs.YtkjnahgicfmicaaGreatDoor.fnGjReverseTextTwice
open Go.ChangeShapes Go.WideShapes Go.ChangeAt Go.RowKit
open Go.ChangeMaps (open_string shut_string)
set_option linter.unusedVariables false
set_option maxRecDepth 100000
theorem own : ownKnob Tryz.prog.godebug = none := by kernel_rfl
theorem lifted (os : Os) (started : os.Started) (H : Type) (enc : TypeId × Value → H) :
  ReturnsInHanded {} Tryz.checked os 5 .any (fun w args => (Rows.fnGjReverseTextTwiceSpec.pre enc Tryz.prog Tryz.f5 [] false w args ∧ laidMetH Tryz.prog laid w) ∧ sizedMet enc Tryz.prog Tryz.f5 (OpenSpec.ofChange Rows.fnGjReverseTextTwiceSpec) false w args)
   (Rows.fnGjReverseTextTwiceSpec.post enc Tryz.prog Tryz.f5 false true false false) := by
 refine returnsInHanded_of_change_and (C := Tryz.checked) (X := fun w _ => laidMetH Tryz.prog laid w) (fun _ _ _ hh h => h.of_heap hh) own started (by kernel_rfl) Tryz.func5 (witness os H enc) ?_
 intro W base args ds gs before hval0 hW _ _ hL _
 have hval : ∀ (j : Nat) t v, Tryz.f5.params[j]? = some t → args[j]? = some v → Value.okWide Tryz.prog W .any base t v := hval0
 have hW' := hW
 obtain ⟨p, q, hA0, hV, rfl, hfz, hnd⟩ := hW
 have hA : DataW.TrodAll enc Tryz.prog W 0 (fun _ => true) true Tryz.f5.params.toList args.toList ds p := hA0
 rw [Tryz.params5] at hA hval
 obtain ⟨v0, vs0, d0, ds0, p0, q0, hargs, rfl, rfl, h0, r0⟩ := trodAll_cons hA
 obtain ⟨rfl, rfl, rfl⟩ := trodAll_nil r0
 obtain rfl : args = #[v0] := by cases args; simp_all
 obtain ⟨rfl, rfl⟩ := trodVars_none hV
 obtain ⟨a0, rfl, rfl, rfl, y0⟩ := open_string Tryz.underlying9 (hval 0 9 v0 rfl rfl) h0
 clear hA0 hval0
 rw [MakeChecks.laidMetH_plain _ _ _ plain] at hL
 refine (Gj.reverse_law a0 W (Gj.wok_laid hL)).mono fun e W' ⟨he, bel⟩ => ?_
 subst he
 exact ⟨_, rfl, _, _, _, [], _, [], hW', trodAll_mk1 (shut_bool Tryz.underlying4 _), (trodAll_cons_mk (shut_string Tryz.underlying9 y0) trodAll_mk0), rfl, bel.frame _, fun h => by cases h⟩
theorem over : Rows.fnGjReverseTextTwiceRow.holds Tryz.pinned (OpenSpec.ofChange Rows.fnGjReverseTextTwiceSpec) :=
 OpenClaim.holds_of_wide 5 Tryz.f5 rfl rfl rfl rfl rfl rfl rfl ⟨rfl, rfl, rfl, rfl, rfl⟩ rfl rfl rfl rfl rfl (by kernel_rfl) Tryz.func5 (by kernel_rfl)
  (of_decide_eq_true (by kernel_rfl)) (by unfold Func.isWrapper; first | (rw [if_pos (by decide +kernel)]; kernel_rfl) | (rw [if_neg (by decide +kernel)]; exact ⟨rfl, rfl⟩))
  (fun os started H enc _ => lifted os started H enc)
theorem card_holds : Rows.FnGjReverseTextTwiceCardSaid :=
 Claim7.holds_tied_plain_at .later [] [.data, .data, .widerDeep, .widerDeep, .data, .data, .data, .data, .data, .sentinel, .sentinel, .data, .pinned, .pinned] true (true, "437d6ec8923ceae45fdfdef2aec57437b61d00c4deb9175a38a5ae635826e537") true
  over (fun _ h => by cases h) (by kernel_rfl) (fun _ h => by cases h) fnGjReverseTextTwice_row_tie rfl ⟨rfl, rfl⟩ (by kernel_rfl) rfl
  (fun f fn hf hfn => by
   obtain rfl : f = 5 := Option.some.inj ((show Tryz.prog.funcNamed "pub-tetrapla/laws.FnGjReverseTextTwice" = some 5 by kernel_rfl).symm.trans hf) |>.symm
   obtain rfl : fn = Tryz.f5 := (Option.some.inj (Tryz.func5.symm.trans hfn)).symm
   exact ⟨by kernel_rfl, fun j t ht => by
    rw [Tryz.params5] at ht
    have hm : t ∈ [9] := by simpa using Array.mem_of_getElem? ht
    have hall : ([9].all fun u => !Tryz.prog.wantsStandIn u) = true := by kernel_rfl
    exact (show Tryz.prog.wantsStandIn t = false by simpa using List.all_eq_true.1 hall t hm)⟩)
  (by kernel_rfl)
end Go.Proofs.YtkjnahgicfmicaaGreatDoor.fnGjReverseTextTwice
namespace Go.Proofs.YtkjnahgicfmicaaGreatDoor
theorem fnGjReverseTextTwice_card_holds : Rows.FnGjReverseTextTwiceCardSaid := fnGjReverseTextTwice.card_holds
end Go.Proofs.YtkjnahgicfmicaaGreatDoor

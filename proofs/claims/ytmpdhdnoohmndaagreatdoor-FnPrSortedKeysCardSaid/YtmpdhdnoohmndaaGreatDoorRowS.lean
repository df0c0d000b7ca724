/- FnPrSortedKeys: for every text and every options, the law FnPrSortedKeys returns true, and its arguments read afterwards as they read before: the row and the tied card. The package variables are as the program's own text lays them (tied). -/
import Derived.Test.YtmpdhdnoohmndaaGreatDoorCards
import Derived.Test.YtmpdhdnoohmndaaGreatDoorTie
import Derived.Test.YtmpdhdnoohmndaaGreatDoorLw4
import Derived.Test.YtmpdhdnoohmndaaGreatDoorQr
import Derived.SevenTiedAt
import Derived.ChangeSame
import Derived.Lib.SmallJoins
namespace Go.Proofs.YtmpdhdnoohmndaaGreatDoor.fnPrSortedKeys
open Go.ChangeShapes Go.WideShapes Go.ChangeAt Go.RowKit Go.Joins
open Go.ChangeMaps (open_string shut_string)
set_option linter.unusedVariables false
set_option maxRecDepth 100000
theorem cells23 : Tryz.prog.cellsOf 23 = 4 := by kernel_rfl
theorem own : ownKnob Tryz.prog.godebug = none := by kernel_rfl
theorem lifted (os : Os) (started : os.Started) (H : Type) (enc : TypeId × Value → H) :
  ReturnsInHanded {} Tryz.checked os 3 .any (fun w args => (Rows.fnPrSortedKeysSpec.pre enc Tryz.prog Tryz.f3 [] false w args ∧ laidMetH Tryz.prog laid w) ∧ sizedMet enc Tryz.prog Tryz.f3 (OpenSpec.ofChange Rows.fnPrSortedKeysSpec) false w args)
   (Rows.fnPrSortedKeysSpec.post enc Tryz.prog Tryz.f3 false true false false) := by
 refine returnsInHanded_of_change_and (C := Tryz.checked) (X := fun w _ => laidMetH Tryz.prog laid w) (fun _ _ _ hh h => h.of_heap hh) own started (by kernel_rfl) Tryz.func3 (witness os H enc) ?_
 intro W base args ds gs before hval0 hW _ _ hL _
 have hval : ∀ (j : Nat) t v, Tryz.f3.params[j]? = some t → args[j]? = some v → Value.okWide Tryz.prog W .any base t v := hval0
 have hW' := hW
 obtain ⟨p, q, hA0, hV, rfl, hfz, hnd⟩ := hW
 have hA : DataW.TrodAll enc Tryz.prog W 0 (fun _ => true) true Tryz.f3.params.toList args.toList ds p := hA0
 rw [Tryz.params3] at hA hval
 obtain ⟨v0, vs0, d0, ds0, p0, q0, hargs, rfl, rfl, h0, r0⟩ := trodAll_cons hA
 obtain ⟨v1, vs1, d1, ds1, p1, q1, rfl, rfl, rfl, h1, r1⟩ := trodAll_cons r0
 obtain ⟨rfl, rfl, rfl⟩ := trodAll_nil r1
 obtain rfl : args = #[v0, v1] := by cases args; simp_all
 obtain ⟨rfl, rfl⟩ := trodVars_none hV
 obtain ⟨a0, rfl, rfl, rfl, y0⟩ := open_string Tryz.underlying9 (hval 0 9 v0 rfl rfl) h0
 obtain ⟨c0, c1, c2, c3, z0, z1, z2, z3, m, rfl, rfl, rfl, hz0, hz1, hz2, hz3⟩ := open_agg4 Tryz.underlying23 (by kernel_rfl) cells23 (hval 1 23 v1 rfl rfl) h1
 obtain ⟨b0, e0, rfl, w0⟩ := DataW.trod_int Tryz.underlying3 hz0
 obtain ⟨b1, e1, rfl, w1⟩ := DataW.trod_string Tryz.underlying9 hz1
 obtain ⟨b2, e2, rfl, w2⟩ := DataW.trod_string Tryz.underlying9 hz2
 obtain ⟨b3, e3, rfl⟩ := DataW.trod_bool Tryz.underlying4 hz3
 simp at e0 e1 e2 e3
 subst e0 e1 e2 e3
 clear hA0 hval0
 have structReads : ∀ (W' : World) (sp : Nat → Bool), DataW.Trod enc Tryz.prog W' 0 sp true 23 (.agg #[.int .i64 b0, .string b1, .string b2, .bool b3]) (.agg [.lit (.int .i64 b0), .lit (.string b1.data.toList), .lit (.string b2.data.toList), .lit (.bool b3)]) [] := fun W' sp =>
  shut_agg4 (y0 := (.lit (.int .i64 b0), [])) (y1 := (.lit (.string b1.data.toList), [])) (y2 := (.lit (.string b2.data.toList), [])) (y3 := (.lit (.bool b3), [])) Tryz.underlying23 (by kernel_rfl) cells23
   ⟨1, by simp [DataW.trod, Tryz.underlying3, w0]⟩ ⟨1, by simp [DataW.trod, Tryz.underlying9, w1]⟩ ⟨1, by simp [DataW.trod, Tryz.underlying9, w2]⟩ ⟨1, by simp [DataW.trod, Tryz.underlying4]⟩
 rw [MakeChecks.laidMetH_plain _ _ _ plain] at hL
 refine (Pr.law_true a0 b0 b1 b2 b3 W (Gj.wok_laid hL)).mono fun e W' ⟨he, bel⟩ => ?_
 subst he
 exact ⟨_, rfl, _, _, _, [], _, [], hW', trodAll_mk1 (shut_bool Tryz.underlying4 _), (trodAll_cons_mk (shut_string Tryz.underlying9 y0) (trodAll_cons_mk (structReads _ _) trodAll_mk0)), rfl, bel.frame _, fun h => by cases h⟩
theorem over : Rows.fnPrSortedKeysRow.holds Tryz.pinned (OpenSpec.ofChange Rows.fnPrSortedKeysSpec) :=
 OpenClaim.holds_of_wide 3 Tryz.f3 rfl rfl rfl rfl rfl rfl rfl ⟨rfl, rfl, rfl, rfl, rfl⟩ rfl rfl rfl rfl rfl (by kernel_rfl) Tryz.func3 (by kernel_rfl)
  (of_decide_eq_true (by kernel_rfl)) (by unfold Func.isWrapper; first | (rw [if_pos (by decide +kernel)]; kernel_rfl) | (rw [if_neg (by decide +kernel)]; exact ⟨rfl, rfl⟩))
  (fun os started H enc _ => lifted os started H enc)
theorem card_holds : Rows.FnPrSortedKeysCardSaid :=
 Claim7.holds_tied_plain_at .later [] [.data, .data, .widerDeep, .widerDeep, .data, .data, .data, .data, .data, .sentinel, .sentinel, .data, .pinned, .pinned] true (true, "14086f7c1fe9ad6e5878d55b1c822b7a88b1f1acd4b9ed12eba9fe2e760694c5") true
  over (fun _ h => by cases h) (by kernel_rfl) (fun _ h => by cases h) fnPrSortedKeys_row_tie rfl ⟨rfl, rfl⟩ (by kernel_rfl) rfl
  (fun f fn hf hfn => by
   obtain rfl : f = 3 := Option.some.inj ((show Tryz.prog.funcNamed "pub-tetrapla/laws.FnPrSortedKeys" = some 3 by kernel_rfl).symm.trans hf) |>.symm
   obtain rfl : fn = Tryz.f3 := (Option.some.inj (Tryz.func3.symm.trans hfn)).symm
   exact ⟨by kernel_rfl, fun j t ht => by
    rw [Tryz.params3] at ht
    have hm : t ∈ [9, 23] := by simpa using Array.mem_of_getElem? ht
    have hall : ([9, 23].all fun u => !Tryz.prog.wantsStandIn u) = true := by kernel_rfl
    exact (show Tryz.prog.wantsStandIn t = false by simpa using List.all_eq_true.1 hall t hm)⟩)
  (by kernel_rfl)
end Go.Proofs.YtmpdhdnoohmndaaGreatDoor.fnPrSortedKeys
namespace Go.Proofs.YtmpdhdnoohmndaaGreatDoor
/-- The tied card, under a short name, for the claim. -/
theorem fnPrSortedKeys_card_holds : Rows.FnPrSortedKeysCardSaid := fnPrSortedKeys.card_holds
end Go.Proofs.YtmpdhdnoohmndaaGreatDoor

/- FnPrWidthRoot: for every input, the law FnPrWidthRoot returns true, and its arguments read afterwards as they read before. No condition. -/
import Derived.Test.YtkbeiidjagodnaaRows
import Derived.Test.YtkbeiidjagodnaaLawL
import Derived.WalkKit
import Derived.ProofKit
import Derived.OpenShut
import Derived.ShutString
import Derived.ChangeOld
import Derived.Below
import Derived.SizedLaws
import Derived.ChangeSame
import Derived.Lib.SmallJoins
namespace Go.Proofs.Ytkbeiidjagodnaa.fnPrWidthRoot
open Go.ChangeShapes Go.WideShapes Go.ChangeAt Go.RowKit Go.Joins
open Go.ChangeMaps (open_string shut_string)
set_option linter.unusedVariables false
theorem cells31 : Try.prog.cellsOf 31 = 4 := by kernel_rfl
theorem own : ownKnob Try.prog.godebug = none := by kernel_rfl
set_option maxRecDepth 100000 in
theorem lifted (os : Os) (started : os.Started) (H : Type) (enc : TypeId × Value → H) :
    ReturnsInHanded {} Try.checked os 4 .any (Rows.fnPrWidthRootSpec.pre6 enc Try.prog Try.f4 Rows.fnPrWidthRootRow.domain false) (Rows.fnPrWidthRootSpec.post enc Try.prog Try.f4 false true false false) := by
  refine returnsInHanded_of_change_sized (C := Try.checked) own started (by kernel_rfl) Try.func4
    (ChangeSpec.witness6 (enc := enc) (C := Try.checked) false ⟨#[], #[.string ByteArray.empty, .agg #[.int .i64 0, .string ByteArray.empty, .string ByteArray.empty, .bool false]], []⟩ 8 (by kernel_rfl) (by kernel_rfl) (by kernel_rfl) (by kernel_rfl)) ?_
  intro W base args ds gs before hval0 hW hcnd hsz0 _
  have hsz : (DataW.weightsEach Try.prog (Try.f4.params.toList ++ Rows.fnPrWidthRootSpec.plain.varTypes Try.prog) (ds ++ gs)).all (· ≤ reachBytes) = true := hsz0
  have hval : ∀ (j : Nat) t v, Try.f4.params[j]? = some t → args[j]? = some v → Value.okWide Try.prog W .any base t v := hval0
  have hW' := hW
  obtain ⟨p, q, hA0, hV, rfl, hfz, hnd⟩ := hW
  have hA : DataW.TrodAll enc Try.prog W 0 (fun _ => true) true Try.f4.params.toList args.toList ds p := hA0
  rw [Try.params4] at hA hval hsz
  obtain ⟨v0, vs0, d0, ds0, p0, q0, hargs, rfl, rfl, h0, r0⟩ := trodAll_cons hA
  obtain ⟨v1, vs1, d1, ds1, p1, q1, rfl, rfl, rfl, h1, r1⟩ := trodAll_cons r0
  obtain ⟨rfl, rfl, rfl⟩ := trodAll_nil r1
  obtain rfl : args = #[v0, v1] := by cases args; simp_all
  obtain ⟨rfl, rfl⟩ := trodVars_none hV
  obtain ⟨a0, rfl, rfl, rfl, y0⟩ := open_string Try.underlying9 (hval 0 9 v0 rfl rfl) h0
  obtain ⟨c0, c1, c2, c3, z0, z1, z2, z3, m, rfl, rfl, rfl, hz0, hz1, hz2, hz3⟩ := open_agg4 Try.underlying31 (by kernel_rfl) cells31 (hval 1 31 v1 rfl rfl) h1
  obtain ⟨b0, e0, rfl, w0⟩ := DataW.trod_int Try.underlying3 hz0
  obtain ⟨b1, e1, rfl, w1⟩ := DataW.trod_string Try.underlying9 hz1
  obtain ⟨b2, e2, rfl, w2⟩ := DataW.trod_string Try.underlying9 hz2
  obtain ⟨b3, e3, rfl⟩ := DataW.trod_bool Try.underlying4 hz3
  simp at e0 e1 e2 e3
  subst e0 e1 e2 e3
  clear hA0 hval0 hsz0 hsz
  have structReads : ∀ (W' : World) (sp : Nat → Bool), DataW.Trod enc Try.prog W' 0 sp true 31 (.agg #[.int .i64 b0, .string b1, .string b2, .bool b3]) (.agg [.lit (.int .i64 b0), .lit (.string b1.data.toList), .lit (.string b2.data.toList), .lit (.bool b3)]) [] := fun W' sp =>
    shut_agg4 (y0 := (.lit (.int .i64 b0), [])) (y1 := (.lit (.string b1.data.toList), [])) (y2 := (.lit (.string b2.data.toList), [])) (y3 := (.lit (.bool b3), [])) Try.underlying31 (by kernel_rfl) cells31
      ⟨1, by simp [DataW.trod, Try.underlying3, w0]⟩ ⟨1, by simp [DataW.trod, Try.underlying9, w1]⟩ ⟨1, by simp [DataW.trod, Try.underlying9, w2]⟩ ⟨1, by simp [DataW.trod, Try.underlying4]⟩
  refine (Pr.law4_all a0 b0 b1 b2 b3 W).mono fun e W' ⟨he, bel⟩ => ?_
  subst he
  exact ⟨_, rfl, _, _, _, [], _, [], hW', trodAll_mk1 (shut_bool Try.underlying4 _), (trodAll_cons_mk (shut_string Try.underlying9 y0) (trodAll_cons_mk (structReads _ _) trodAll_mk0)), rfl, bel.frame _, fun h => by cases h⟩
theorem over : Rows.fnPrWidthRootRow.holds Try.pinned (OpenSpec.ofChange Rows.fnPrWidthRootSpec) :=
  OpenClaim.holds_of_wide 4 Try.f4 rfl rfl rfl rfl rfl rfl rfl ⟨rfl, rfl, rfl, rfl, rfl⟩ rfl rfl rfl rfl rfl (by kernel_rfl) Try.func4 (by kernel_rfl)
    (of_decide_eq_true (by kernel_rfl)) (by unfold Func.isWrapper; first | (rw [if_pos (by decide +kernel)]; kernel_rfl) | (rw [if_neg (by decide +kernel)]; exact ⟨rfl, rfl⟩))
    (fun os started H enc _ => lifted os started H enc)
theorem proved : Rows.FnPrWidthRootSaid := over
#print axioms proved
end Go.Proofs.Ytkbeiidjagodnaa.fnPrWidthRoot
namespace Go.Proofs.Ytkbeiidjagodnaa
/-- The row, under a short name, for the claim. -/
theorem fnPrWidthRoot_holds : Rows.FnPrWidthRootSaid := fnPrWidthRoot.proved
end Go.Proofs.Ytkbeiidjagodnaa


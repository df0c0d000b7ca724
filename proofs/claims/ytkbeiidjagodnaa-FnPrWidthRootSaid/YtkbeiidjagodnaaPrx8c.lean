-- written by a program of this session (wip/tools), for this seat
import Derived.Test.YtkbeiidjagodnaaPrx0
import Derived.Test.YtkbeiidjagodnaaPrx5
import Derived.Test.YtkbeiidjagodnaaPrx6
import Derived.Test.YtkbeiidjagodnaaPrx7
import Derived.Test.YtkbeiidjagodnaaPrx8a
namespace Go.Proofs.Ytkbeiidjagodnaa.Pr
open Go.RowKit Go.Proofs.YtkbeiidjagodnaaW.PrintWords Go.Proofs.YtkbeiidjagodnaaW.PrintLast Go.Proofs.YtkbeiidjagodnaaW.PrintMore
attribute [local go_sem] max2_int min2_int max_two min_two max_three min_three max_four min_four   -- for this text's walks alone
set_option linter.unusedVariables false
set_option linter.unusedSimpArgs false
/-! ### pAny: function 21 -/
mutual
def pAny.l0 (VO : H_pObj) : Nat → List Int → List Int → Int → Bool → Int → ByteArray → ByteArray → Int → Int → Int → Option (List Int × Int × Int × Bool)
 | 0, _, _, _, _, _, _, _, _, _, _ => none
 | k + 1, x0, x1, x2, x3, x4, x5, x6, x8, x9, x10 => if x2 < (x1.length : Int) then (if 0 ≤ x2 then (if (rd x1 x2) ≤ 32 then (pAny.l0 VO k x0 x1 (wrap64 (x2 + 1)) x3 x4 x5 x6 x8 x9 x10) else (if (rd x1 x2) = 34 then ((pretty_appendPrettyString.f k x0 x1 x2 x9).bind fun bt482 => (some (bt482.1, bt482.2.1, bt482.2.2.1, bt482.2.2.2))) else (if (rd x1 x2) ≥ 48 then (if (rd x1 x2) ≤ 57 then (pAny.j1 VO k x0 x1 x2 x3 x4 x5 x6 x8 x9 x10 true) else (if (rd x1 x2) = 45 then (pAny.j1 VO k x0 x1 x2 x3 x4 x5 x6 x8 x9 x10 true) else (if x2 ≤ (x1.length : Int) then ((pretty_isNaNOrInf.f (x1.drop (x2 : Int).toNat)).bind fun t496 => (pAny.j1 VO k x0 x1 x2 x3 x4 x5 x6 x8 x9 x10 t496)) else (none)))) else (if (rd x1 x2) = 45 then (pAny.j1 VO k x0 x1 x2 x3 x4 x5 x6 x8 x9 x10 true) else (if x2 ≤ (x1.length : Int) then ((pretty_isNaNOrInf.f (x1.drop (x2 : Int).toNat)).bind fun t503 => (pAny.j1 VO k x0 x1 x2 x3 x4 x5 x6 x8 x9 x10 t503)) else (none)))))) else (none)) else (some (x0, x2, x9, true))
def pAny.j1 (VO : H_pObj) : Nat → List Int → List Int → Int → Bool → Int → ByteArray → ByteArray → Int → Int → Int → Bool → Option (List Int × Int × Int × Bool)
 | 0, _, _, _, _, _, _, _, _, _, _, _ => none
 | k + 1, x0, x1, x2, x3, x4, x5, x6, x8, x9, x10, x75 => if x75 = true then ((pretty_appendPrettyNumber.f k x0 x1 x2 x9).bind fun bt504 => (some (bt504.1, bt504.2.1, bt504.2.2.1, bt504.2.2.2))) else (if 0 ≤ x2 then (if x2 < (x1.length : Int) then (if (rd x1 x2) = 123 then ((VO.f k x0 x1 x2 123 125 x3 x4 x5 x6 false x8 x9 x10).bind fun bt511 => (some (bt511.1, bt511.2.1, bt511.2.2.1, bt511.2.2.2))) else (if (rd x1 x2) = 91 then ((VO.f k x0 x1 x2 91 93 x3 x4 x5 x6 false x8 x9 x10).bind fun bt518 => (some (bt518.1, bt518.2.1, bt518.2.2.1, bt518.2.2.2))) else (if (rd x1 x2) = 116 then ((some (([116, 114, 117, 101] : List Int) : List Int)).bind fun y525 => (if x0.length + y525.length < 140737488355328 then (some ((x0 ++ y525), wrap64 (x2 + 4), x9, true)) else (none))) else (if (rd x1 x2) = 102 then ((some (([102, 97, 108, 115, 101] : List Int) : List Int)).bind fun y531 => (if x0.length + y531.length < 140737488355328 then (some ((x0 ++ y531), wrap64 (x2 + 5), x9, true)) else (none))) else (if (rd x1 x2) = 110 then ((some (([110, 117, 108, 108] : List Int) : List Int)).bind fun y537 => (if x0.length + y537.length < 140737488355328 then (some ((x0 ++ y537), wrap64 (x2 + 4), x9, true)) else (none))) else (pAny.l0 VO k x0 x1 (wrap64 (x2 + 1)) x3 x4 x5 x6 x8 x9 x10)))))) else (none)) else (none))
end
def pAny.f (VO : H_pObj) (k : Nat) (l0 : List Int) (l1 : List Int) (a2 : Int) (a3 : Bool) (a4 : Int) (a5 : ByteArray) (a6 : ByteArray) (a7 : Bool) (a8 : Int) (a9 : Int) (a10 : Int) : Option (List Int × Int × Int × Bool) := pAny.l0 VO k l0 l1 a2 a3 a4 a5 a6 a8 a9 a10
theorem pAny.mono_l (VO : H_pObj) : ∀ k, (∀ y0 y1 y2 y3 y4 y5 y6 y7 y8 y9, LeO (pAny.l0 VO k y0 y1 y2 y3 y4 y5 y6 y7 y8 y9) (pAny.l0 VO (k + 1) y0 y1 y2 y3 y4 y5 y6 y7 y8 y9)) ∧ (∀ y0 y1 y2 y3 y4 y5 y6 y7 y8 y9 y10, LeO (pAny.j1 VO k y0 y1 y2 y3 y4 y5 y6 y7 y8 y9 y10) (pAny.j1 VO (k + 1) y0 y1 y2 y3 y4 y5 y6 y7 y8 y9 y10))
 | 0 => ⟨fun _ _ _ _ _ _ _ _ _ _ r h => by simp [pAny.l0] at h, fun _ _ _ _ _ _ _ _ _ _ _ r h => by simp [pAny.j1] at h⟩
 | k + 1 => by
  obtain ⟨ih0, ih1⟩ := pAny.mono_l VO k
  refine ⟨?_, ?_⟩ <;> intros <;> first | unfold pAny.l0 | unfold pAny.j1
  all_goals
   repeat' first
   | (with_reducible exact ih0 _ _ _ _ _ _ _ _ _ _)
   | (with_reducible exact ih1 _ _ _ _ _ _ _ _ _ _ _)
   | (with_reducible exact VO.mono _ _ _ _ _ _ _ _ _ _ _ _ _ _)
   | (with_reducible exact pretty_appendPrettyNumber.mono _ _ _ _ _)
   | (with_reducible exact pretty_appendPrettyString.mono _ _ _ _ _)
   | (with_reducible exact LeO.refl _)
   | (with_reducible exact LeO.none _)
   | (with_reducible refine LeO.ite ?_ ?_)
   | (with_reducible refine LeO.bind ?_ (fun _ => ?_))
   | exact ih0 _ _ _ _ _ _ _ _ _ _
   | exact ih1 _ _ _ _ _ _ _ _ _ _ _
   | exact VO.mono _ _ _ _ _ _ _ _ _ _ _ _ _ _
   | exact pretty_appendPrettyNumber.mono _ _ _ _ _
   | exact pretty_appendPrettyString.mono _ _ _ _ _
   | exact LeO.none _
   | refine LeO.ite ?_ ?_
   | refine LeO.bind ?_ (fun _ => ?_)
theorem pAny.mono (VO : H_pObj) : ∀ a0 a1 a2 a3 a4 a5 a6 a7 a8 a9 a10 k, LeO (pAny.f VO k a0 a1 a2 a3 a4 a5 a6 a7 a8 a9 a10) (pAny.f VO (k + 1) a0 a1 a2 a3 a4 a5 a6 a7 a8 a9 a10) := by
 intro a0 a1 a2 a3 a4 a5 a6 a7 a8 a9 a10 k
 obtain ⟨ih0, ih1⟩ := pAny.mono_l VO k
 unfold pAny.f
 repeat' first
   | (with_reducible exact ih0 _ _ _ _ _ _ _ _ _ _)
   | (with_reducible exact ih1 _ _ _ _ _ _ _ _ _ _ _)
   | (with_reducible exact VO.mono _ _ _ _ _ _ _ _ _ _ _ _ _ _)
   | (with_reducible exact pretty_appendPrettyNumber.mono _ _ _ _ _)
   | (with_reducible exact pretty_appendPrettyString.mono _ _ _ _ _)
   | (with_reducible exact LeO.refl _)
   | (with_reducible exact LeO.none _)
   | (with_reducible refine LeO.ite ?_ ?_)
   | (with_reducible refine LeO.bind ?_ (fun _ => ?_))
   | exact ih0 _ _ _ _ _ _ _ _ _ _
   | exact ih1 _ _ _ _ _ _ _ _ _ _ _
   | exact VO.mono _ _ _ _ _ _ _ _ _ _ _ _ _ _
   | exact pretty_appendPrettyNumber.mono _ _ _ _ _
   | exact pretty_appendPrettyString.mono _ _ _ _ _
   | exact LeO.none _
   | refine LeO.ite ?_ ?_
   | refine LeO.bind ?_ (fun _ => ?_)
end Go.Proofs.Ytkbeiidjagodnaa.Pr

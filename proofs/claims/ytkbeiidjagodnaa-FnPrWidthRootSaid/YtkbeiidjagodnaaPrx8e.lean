-- written by a program of this session (wip/tools), for this seat
import Derived.Test.YtkbeiidjagodnaaPrx0
import Derived.Test.YtkbeiidjagodnaaPrx5
import Derived.Test.YtkbeiidjagodnaaPrx6
import Derived.Test.YtkbeiidjagodnaaPrx7
import Derived.Test.YtkbeiidjagodnaaPrx8b
import Derived.Test.YtkbeiidjagodnaaPrx8d
namespace Go.Proofs.Ytkbeiidjagodnaa.Pr
open Go.RowKit Go.Proofs.YtkbeiidjagodnaaW.PrintWords Go.Proofs.YtkbeiidjagodnaaW.PrintLast Go.Proofs.YtkbeiidjagodnaaW.PrintMore
attribute [local go_sem] max2_int min2_int max_two min_two max_three min_three max_four min_four   -- for this text's walks alone
set_option linter.unusedVariables false
set_option linter.unusedSimpArgs false
structure Knot_pAny where
 k_pObj : H_pObj
 k_pAny : H_pAny
def knot_pAny : Nat → Knot_pAny
 | 0 => ⟨⟨fun _ _ _ _ _ _ _ _ _ _ _ _ _ _ => none, fun _ _ _ _ _ _ _ _ _ _ _ _ _ _ _ h => (by cases h), by intros; rename_i h; cases h⟩, ⟨fun _ _ _ _ _ _ _ _ _ _ _ _ => none, fun _ _ _ _ _ _ _ _ _ _ _ _ _ h => (by cases h), by intros; rename_i h; cases h⟩⟩
 | n + 1 => let K := knot_pAny n; ⟨⟨fun k => pObj.f K.k_pAny K.k_pObj k, pObj.mono K.k_pAny K.k_pObj, pObj.calls K.k_pAny K.k_pObj⟩, ⟨fun k => pAny.f K.k_pObj k, pAny.mono K.k_pObj, pAny.calls K.k_pObj⟩⟩
def pObj.at_ (D : Nat) : H_pObj := (knot_pAny D).k_pObj
def pAny.at_ (D : Nat) : H_pAny := (knot_pAny D).k_pAny
end Go.Proofs.Ytkbeiidjagodnaa.Pr

/- laws.FnPrDefault answers true, for every text: the walk and the plain law joined. -/
import Derived.Test.YtkbeiidjagodnaaLaw3
import Derived.Test.YtkbeiidjagodnaaHand6
namespace Go.Proofs.Ytkbeiidjagodnaa.Pr
open Go.RowKit Go.Proofs.YtkbeiidjagodnaaW.PrintWords Go.Proofs.YtkbeiidjagodnaaW.PrintLast Go.Proofs.YtkbeiidjagodnaaW.PrintMore
set_option linter.unusedVariables false


end Go.Proofs.Ytkbeiidjagodnaa.Pr

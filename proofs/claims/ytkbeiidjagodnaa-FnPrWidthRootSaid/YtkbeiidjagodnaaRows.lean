/-
  No cell of these rows narrows 'for every input' (looked for: loops, veiled, ifaces, maps, wideKeys, modest, calm, conditions, laid).
  DERIVED. THE GIVEN ROWS OF THIS SEAT. 3 by the template 'for every input the law returns true; each argument reads behind the call as it read before'; 0 by the template 'total and deterministic' (their statements: YtkbeiidjagodnaaTotals.lean).
  GIVEN WITH THE SEED: the statements are not yours to turn. If you find one false, say at which input.
  Laid BY PROGRAM, IN A SANDBOX (cutbox-rows.mjs): the forced cells as the released guide's own fill.sh prints them over the translation 3c9e2eb0b21e8b39… (all of the seat's roots in one cut). By AI agents, Wed Nov 11 2026. No macro, syntax, notation, axiom, sorry.
-/
import Derived.Test.YtkbeiidjagodnaaChecked
import GoSem.Claim
import GoSem.ClaimJoined
import GoSem.ClaimMapViews
import Derived.JoinedTies
import Derived.KernelRfl
namespace Go.Proofs.Ytkbeiidjagodnaa
/- THE CELL 'sum', in the pinned program and in every row, IS THE sha256 OF THE DUMP (.gsa) THAT YtkbeiidjagodnaaProg.lean LOADS. Nothing in Lean hashes anything: it is a label: what it is worth is what the hold of that sum in a sandbox is worth. -/
noncomputable def Try.pinned : Pinned := { name := "ytkbeiidjagodnaa", sum := "3c9e2eb0b21e8b393ca95a3349c376eb06956bd25cb558c88c081d460297cfd3", checked := Try.checked }
namespace Rows
def none {H : Type} : Left H := { results := [], args := [] }

/-- 'laws.FnPrWider': WHATEVER THE INPUT: true; the input reads as it did. -/
def fnPrWiderSpec : ChangeSpec := { name := "fnPrWider", fn := fun _ => fun
  | [d1, d2, d3] => { results := [.lit (.bool true)], args := [d1, d2, d3] }
  | _ => none }
def fnPrWiderRow : OpenClaim := { program := "ytkbeiidjagodnaa", sum := "3c9e2eb0b21e8b393ca95a3349c376eb06956bd25cb558c88c081d460297cfd3", func := "pub-tetrapla/laws.FnPrWider", spec := "fnPrWider", unfollowed := true, recurses := true, apart := false }
def FnPrWiderSaid : Prop := fnPrWiderRow.holds Try.pinned (OpenSpec.ofChange fnPrWiderSpec)

/-- ITS FALSE NEIGHBOUR: 'it returns false'. Refute it at one input. -/
def fnPrWiderWrong : ChangeSpec := { name := "fnPrWider", fn := fun _ => fun
  | [d1, d2, d3] => { results := [.lit (.bool false)], args := [d1, d2, d3] }
  | _ => none }
def FnPrWiderWrongFalsely : Prop := fnPrWiderRow.holds Try.pinned (OpenSpec.ofChange fnPrWiderWrong)

/-- 'laws.FnPrWidthRoot': WHATEVER THE INPUT: true; the input reads as it did. -/
def fnPrWidthRootSpec : ChangeSpec := { name := "fnPrWidthRoot", fn := fun _ => fun
  | [d1, d2] => { results := [.lit (.bool true)], args := [d1, d2] }
  | _ => none }
def fnPrWidthRootRow : OpenClaim := { program := "ytkbeiidjagodnaa", sum := "3c9e2eb0b21e8b393ca95a3349c376eb06956bd25cb558c88c081d460297cfd3", func := "pub-tetrapla/laws.FnPrWidthRoot", spec := "fnPrWidthRoot", unfollowed := true, recurses := true, apart := false }
def FnPrWidthRootSaid : Prop := fnPrWidthRootRow.holds Try.pinned (OpenSpec.ofChange fnPrWidthRootSpec)

/-- ITS FALSE NEIGHBOUR: 'it returns false'. Refute it at one input. -/
def fnPrWidthRootWrong : ChangeSpec := { name := "fnPrWidthRoot", fn := fun _ => fun
  | [d1, d2] => { results := [.lit (.bool false)], args := [d1, d2] }
  | _ => none }
def FnPrWidthRootWrongFalsely : Prop := fnPrWidthRootRow.holds Try.pinned (OpenSpec.ofChange fnPrWidthRootWrong)

/-- 'laws.FnPrDefault': WHATEVER THE INPUT: true; the input reads as it did. -/
def fnPrDefaultSpec : ChangeSpec := { name := "fnPrDefault", fn := fun _ => fun
  | [d] => { results := [.lit (.bool true)], args := [d] }
  | _ => none }
def fnPrDefaultRow : OpenClaim := { program := "ytkbeiidjagodnaa", sum := "3c9e2eb0b21e8b393ca95a3349c376eb06956bd25cb558c88c081d460297cfd3", func := "pub-tetrapla/laws.FnPrDefault", spec := "fnPrDefault", unfollowed := true, recurses := true, apart := false }
def FnPrDefaultSaid : Prop := fnPrDefaultRow.holds Try.pinned (OpenSpec.ofChange fnPrDefaultSpec)

/-- ITS FALSE NEIGHBOUR: 'it returns false'. Refute it at one input. -/
def fnPrDefaultWrong : ChangeSpec := { name := "fnPrDefault", fn := fun _ => fun
  | [d] => { results := [.lit (.bool false)], args := [d] }
  | _ => none }
def FnPrDefaultWrongFalsely : Prop := fnPrDefaultRow.holds Try.pinned (OpenSpec.ofChange fnPrDefaultWrong)

/- THE SECOND FORM. 'bulk': how many values and letters a reading holds, each counted each time it is reached (what is shared counts as often as it is met; a slice's spare places count too). A statement '..UptoSaid' is the law's where the arguments, and the package variables that the reading takes, are together of bulk at most 1048576: NARROWER than '..Said'. Prove '..Said' where nothing that the law and all that it calls make is longer than what came in: it says more and counts as full. Else prove '..UptoSaid'. A law counts once. -/
mutual
def uptoBulk {H : Type} : DataW H → Nat
  | .lit (.string bytes) => bytes.length + 1
  | .lit _ => 1
  | .nil => 1
  | .ptr d => uptoBulk d + 1
  | .slice elems spare => uptoBulkAll elems + uptoBulkAll spare + 1
  | .agg parts => uptoBulkAll parts + 1
  | .iface _ d => uptoBulk d + 1
  | .map entries => uptoBulkEntries entries + 1
  | .held _ => 1
def uptoBulkAll {H : Type} : List (DataW H) → Nat
  | [] => 0
  | d :: r => uptoBulk d + uptoBulkAll r
def uptoBulkEntries {H : Type} : List (Lit × DataW H) → Nat
  | [] => 0
  | x :: r => uptoBulkEntry x + uptoBulkEntries r
def uptoBulkEntry {H : Type} : Lit × DataW H → Nat
  | (.string bytes, d) => bytes.length + uptoBulk d + 1
  | (_, d) => uptoBulk d + 1
 end
def uptoSmall : (H : Type) → List (DataW H) → Bool := fun _ ds => decide (uptoBulkAll ds ≤ 1048576)
def OpenSpec.upto (s : _root_.Go.ChangeSpec) : _root_.Go.OpenSpec := { _root_.Go.OpenSpec.ofChange s with cond := some uptoSmall }

/-- 'laws.FnPrWider', WHERE WHAT IT READS IS OF BULK AT MOST 1048576: true; the input reads as it did. -/
def fnPrWiderUptoRow : OpenClaim := { program := "ytkbeiidjagodnaa", sum := "3c9e2eb0b21e8b393ca95a3349c376eb06956bd25cb558c88c081d460297cfd3", func := "pub-tetrapla/laws.FnPrWider", spec := "fnPrWider", unfollowed := true, recurses := true, apart := false, narrowed := true }
def FnPrWiderUptoSaid : Prop := fnPrWiderUptoRow.holds Try.pinned (OpenSpec.upto fnPrWiderSpec)

/-- 'laws.FnPrWidthRoot', WHERE WHAT IT READS IS OF BULK AT MOST 1048576: true; the input reads as it did. -/
def fnPrWidthRootUptoRow : OpenClaim := { program := "ytkbeiidjagodnaa", sum := "3c9e2eb0b21e8b393ca95a3349c376eb06956bd25cb558c88c081d460297cfd3", func := "pub-tetrapla/laws.FnPrWidthRoot", spec := "fnPrWidthRoot", unfollowed := true, recurses := true, apart := false, narrowed := true }
def FnPrWidthRootUptoSaid : Prop := fnPrWidthRootUptoRow.holds Try.pinned (OpenSpec.upto fnPrWidthRootSpec)

/-- 'laws.FnPrDefault', WHERE WHAT IT READS IS OF BULK AT MOST 1048576: true; the input reads as it did. -/
def fnPrDefaultUptoRow : OpenClaim := { program := "ytkbeiidjagodnaa", sum := "3c9e2eb0b21e8b393ca95a3349c376eb06956bd25cb558c88c081d460297cfd3", func := "pub-tetrapla/laws.FnPrDefault", spec := "fnPrDefault", unfollowed := true, recurses := true, apart := false, narrowed := true }
def FnPrDefaultUptoSaid : Prop := fnPrDefaultUptoRow.holds Try.pinned (OpenSpec.upto fnPrDefaultSpec)

end Rows
end Go.Proofs.Ytkbeiidjagodnaa

import Derived.Test.YtmpdhdnoohmndaaGreatDoorPr0
import Derived.Test.YtmpdhdnoohmndaaGreatDoorPtb
namespace Go.Proofs.YtmpdhdnoohmndaaGreatDoor.Pr
open Go.RowKit Go.Proofs.YtmpdhdnoohmndaaGreatDoorW.PrintWords Go.Proofs.YtmpdhdnoohmndaaGreatDoorW.PrintLast Go.Proofs.YtmpdhdnoohmndaaGreatDoorW.PrintMore Sp Gj
set_option linter.unusedVariables false
section
variable (jl : List Int)
def Sep (c : Int) : Prop := c ≤ 32 ∨ c = 44 ∨ c = 58
def SkR (i b : Nat) : Prop := i ≤ b ∧ b ≤ jl.length ∧ ∀ q, i ≤ q → q < b → Sep (jl.getD q 0)
def SkB (i b : Nat) : Prop := i ≤ b ∧ b ≤ jl.length ∧ ∀ q, i ≤ q → q < b → jl.getD q 0 ≤ 32
def JStr (b e : Nat) : Prop := ∃ q, b < q ∧ q < jl.length ∧ e = q + 1 ∧ jl.getD b 0 = 34 ∧ (∀ r, b < r → r < q → (jl.getD r 0 ≠ 34 ∧ jl.getD r 0 ≠ 92) ∧ By (jl.getD r 0)) ∧ jl.getD q 0 = 34
def JNum (b e : Nat) : Prop := b < e ∧ e ≤ jl.length ∧ ((48 ≤ jl.getD b 0 ∧ jl.getD b 0 ≤ 57) ∨ jl.getD b 0 = 45) ∧ (∀ r, b ≤ r → r < e → NumCh (jl.getD r 0)) ∧ (e < jl.length → Stop (jl.getD e 0))
def JWord (b e : Nat) : Prop := (e = b + 4 ∧ e ≤ jl.length ∧ (jl.take e).drop b = [116, 114, 117, 101]) ∨ (e = b + 5 ∧ e ≤ jl.length ∧ (jl.take e).drop b = [102, 97, 108, 115, 101]) ∨ (e = b + 4 ∧ e ≤ jl.length ∧ (jl.take e).drop b = [110, 117, 108, 108])
inductive JE (V : Nat → Nat → Prop) : Nat → Nat → Prop
 | nil (i k : Nat) : SkB jl i k → JE V i k
 | cons (i b e k : Nat) : SkR jl i b → V b e → b < e → JE V e k → JE V i k
inductive JM (V : Nat → Nat → Prop) : Nat → Nat → List (List Int) → Prop
 | nil (i k : Nat) : SkR jl i k → JM V i k []
 | cons (i nb ne b e k : Nat) (ns : List (List Int)) : SkR jl i nb → JStr jl nb ne → SkR jl ne b → V b e → b < e → JM V e k ns → JM V i k ((jl.take (ne - 1)).drop (nb + 1) :: ns)
def Diff (ns : List (List Int)) : Prop := ∀ x y, x < ns.length → y < ns.length → x ≠ y → (strOfNums (ns.getD x [])).toList ≠ (strOfNums (ns.getD y [])).toList
def JC (V : Nat → Nat → Prop) (o : Int) (b e : Nat) : Prop := ∃ k, b < k ∧ k < jl.length ∧ e = k + 1 ∧ jl.getD b 0 = o ∧ ((o = 91 ∧ JE jl V (b + 1) k ∧ jl.getD k 0 = 93) ∨ (o = 123 ∧ (∃ ns, JM jl V (b + 1) k ns ∧ Diff ns) ∧ jl.getD k 0 = 125))
def JV : Nat → Nat → Nat → Prop
 | 0, _, _ => False
 | D + 1, b, e => JStr jl b e ∨ JNum jl b e ∨ JWord jl b e ∨ ∃ o, JC jl (JV D) o b e
end
def Mode (pretty : Bool) (max wd : Int) : Prop := (pretty = true ∧ max = -1) ∨ (pretty = false ∧ 3 < max ∧ 0 < wd)
def Post (w0 w : World) (P0 : Nat → Prop) (l : List Int) (b e : Nat) (pretty : Bool) (r : Ending) (w' : World) : Prop :=
 ∃ (v1 : Value) (out : List Int) (e' nl' : Int) (ok : Bool), r = .returned (.tuple #[v1, .int .i64 e', .int .i64 nl', .bool ok]) ∧ Bs w0 w P0 w' v1 (l ++ out) ∧ (ok = true ∨ pretty = true → PO out ∧ e' = (e : Int) ∧ out.length + 400000 ≤ 800000 * (e - b))
def clo (o : Int) : Int := if o = 91 then 93 else 125
def CtC (V : Nat → Nat → Prop) (jl : List Int) (wd : Int) (pre ind : au) : Prop := ∀ {w0 w : World} {P0 : Nat → Prop} {u : Value} {l : List Int} {J cj : Nat} (HB : Bs w0 w P0 w u l) (HJ : Js w P0 J cj jl) (b e tabs : Nat) (nl max o : Int) (pretty : Bool) {x y : Int},
 JC jl V o b e → Mode pretty max wd → l.length + 800000 * (jl.length - b) ≤ 8000000000 → tabs + jl.length ≤ 5000 + b → x = b → y = tabs →
 Calls Tryz.prog 49 #[u, .slice (some ⟨J, 0, none⟩) jl.length cj, .int .i64 x, .int .u8 o, .int .u8 (clo o), .bool pretty, .int .i64 wd, .string pre, .string ind, .bool true, .int .i64 y, .int .i64 nl, .int .i64 max] w (Post w0 w P0 l b e pretty)
def AnyC (V : Nat → Nat → Prop) (jl : List Int) (wd : Int) (pre ind : au) : Prop := ∀ {w0 w : World} {P0 : Nat → Prop} {u : Value} {l : List Int} {J cj : Nat} (HB : Bs w0 w P0 w u l) (HJ : Js w P0 J cj jl) (i b e tabs : Nat) (nl max : Int) (pretty : Bool) {x y : Int},
 SkR jl i b → V b e → Mode pretty max wd → l.length + 800000 * (jl.length - b) ≤ 8000000000 → tabs + jl.length ≤ 5000 + b → x = i → y = tabs →
 Calls Tryz.prog 33 #[u, .slice (some ⟨J, 0, none⟩) jl.length cj, .int .i64 x, .bool pretty, .int .i64 wd, .string pre, .string ind, .bool true, .int .i64 y, .int .i64 nl, .int .i64 max] w (Post w0 w P0 l b e pretty)
end Go.Proofs.YtmpdhdnoohmndaaGreatDoor.Pr

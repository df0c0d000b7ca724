-- written by a program of this session (wip/tools), for this seat
import Derived.Test.YtkbeiidjagodnaaPrx0
import Derived.Test.YtkbeiidjagodnaaPrx5
import Derived.Test.YtkbeiidjagodnaaPrx6
import Derived.Test.YtkbeiidjagodnaaPrx7
namespace Go.Proofs.Ytkbeiidjagodnaa.Pr
open Go.RowKit Go.Proofs.YtkbeiidjagodnaaW.PrintWords Go.Proofs.YtkbeiidjagodnaaW.PrintLast Go.Proofs.YtkbeiidjagodnaaW.PrintMore
attribute [local go_sem] max2_int min2_int max_two min_two max_three min_three max_four min_four   -- for this text's walks alone
set_option linter.unusedVariables false
set_option linter.unusedSimpArgs false
structure H_pObj where
 f : Nat → List Int → List Int → Int → Int → Int → Bool → Int → ByteArray → ByteArray → Bool → Int → Int → Int → Option (List Int × Int × Int × Bool)
 mono : ∀ a0 a1 a2 a3 a4 a5 a6 a7 a8 a9 a10 a11 a12 k, LeO (f k a0 a1 a2 a3 a4 a5 a6 a7 a8 a9 a10 a11 a12) (f (k + 1) a0 a1 a2 a3 a4 a5 a6 a7 a8 a9 a10 a11 a12)
 calls : ∀ (k : Nat) (P0_ : Nat → Prop) (u9000_ : Value) (l0 : List Int) (P1_ : Nat → Prop) (A1 : Option Addr) (c1 : Nat) (l1 : List Int) (a2 : Int) (a3 : Int) (a4 : Int) (a5 : Bool) (a6 : Int) (a7 : ByteArray) (a8 : ByteArray) (a9 : Bool) (a10 : Int) (a11 : Int) (a12 : Int) (r1 : List Int) (r2 : Int) (r3 : Int) (r4 : Bool) (w0 w : World) (hB : Below w0.heap.size w0 w) (ho0 : Kd.R (Kd.int .u8) 5 w w0.heap.size P0_ u9000_ l0) (hs1 : Kd.V (Kd.int .u8) 5 w w0.heap.size (fun k_ => P1_ k_ ∧ some k_ ≠ (u9000_ : Value).ownBlock) (.slice A1 l1.length c1) l1) (h : f k l0 l1 a2 a3 a4 a5 a6 a7 a8 a9 a10 a11 a12 = some (r1, r2, r3, r4)),
  Calls Try.prog 35 #[u9000_, .slice A1 l1.length c1, .int .i64 a2, .int .u8 a3, .int .u8 a4, .bool a5, .int .i64 a6, .string a7, .string a8, .bool false, .int .i64 a10, .int .i64 a11, .int .i64 a12] w fun e w' => ∃ v0_ : Value, e = .returned (.tuple #[v0_, .int .i64 r2, .int .i64 r3, .bool r4]) ∧ Kd.R (Kd.int .u8) 5 w' w0.heap.size (fun k_ => (P0_ k_ ∨ w.heap.size ≤ k_)) v0_ r1 ∧ Below w0.heap.size w0 w' ∧ Kept w w' (fun k_ => P0_ k_)
structure H_pAny where
 f : Nat → List Int → List Int → Int → Bool → Int → ByteArray → ByteArray → Bool → Int → Int → Int → Option (List Int × Int × Int × Bool)
 mono : ∀ a0 a1 a2 a3 a4 a5 a6 a7 a8 a9 a10 k, LeO (f k a0 a1 a2 a3 a4 a5 a6 a7 a8 a9 a10) (f (k + 1) a0 a1 a2 a3 a4 a5 a6 a7 a8 a9 a10)
 calls : ∀ (k : Nat) (P0_ : Nat → Prop) (u9000_ : Value) (l0 : List Int) (P1_ : Nat → Prop) (A1 : Option Addr) (c1 : Nat) (l1 : List Int) (a2 : Int) (a3 : Bool) (a4 : Int) (a5 : ByteArray) (a6 : ByteArray) (a7 : Bool) (a8 : Int) (a9 : Int) (a10 : Int) (r1 : List Int) (r2 : Int) (r3 : Int) (r4 : Bool) (w0 w : World) (hB : Below w0.heap.size w0 w) (ho0 : Kd.R (Kd.int .u8) 5 w w0.heap.size P0_ u9000_ l0) (hs1 : Kd.V (Kd.int .u8) 5 w w0.heap.size (fun k_ => P1_ k_ ∧ some k_ ≠ (u9000_ : Value).ownBlock) (.slice A1 l1.length c1) l1) (h : f k l0 l1 a2 a3 a4 a5 a6 a7 a8 a9 a10 = some (r1, r2, r3, r4)),
  Calls Try.prog 21 #[u9000_, .slice A1 l1.length c1, .int .i64 a2, .bool a3, .int .i64 a4, .string a5, .string a6, .bool false, .int .i64 a8, .int .i64 a9, .int .i64 a10] w fun e w' => ∃ v0_ : Value, e = .returned (.tuple #[v0_, .int .i64 r2, .int .i64 r3, .bool r4]) ∧ Kd.R (Kd.int .u8) 5 w' w0.heap.size (fun k_ => (P0_ k_ ∨ w.heap.size ≤ k_)) v0_ r1 ∧ Below w0.heap.size w0 w' ∧ Kept w w' (fun k_ => P0_ k_)
/-! ### pObj: function 35 -/
mutual
def pObj.j1 (VA : H_pAny) (VO : H_pObj) : Nat → List Int → List Int → Int → Int → Int → Bool → Int → ByteArray → ByteArray → Int → Int → Int → Option (List Int × Int × Int × Bool)
 | 0, _, _, _, _, _, _, _, _, _, _, _, _ => none
 | k + 1, x0, x1, x2, x3, x4, x5, x6, x7, x8, x10, x11, x12 => if x0.length < 140737488355328 then ((some (x0 ++ [x3] : List Int)).bind fun y388 => (if x3 = 123 then (pObj.j2 VA VO k y388 x1 (wrap64 (x2 + 1)) x3 x4 x5 x6 x7 x8 x10 x11 x12 ([] : List (S69)) false) else (pObj.j2 VA VO k y388 x1 (wrap64 (x2 + 1)) x3 x4 x5 x6 x7 x8 x10 x11 x12 ([] : List (S69)) false))) else (none)
def pObj.j2 (VA : H_pAny) (VO : H_pObj) : Nat → List Int → List Int → Int → Int → Int → Bool → Int → ByteArray → ByteArray → Int → Int → Int → List (S69) → Bool → Option (List Int × Int × Int × Bool)
 | 0, _, _, _, _, _, _, _, _, _, _, _, _, _, _ => none
 | k + 1, x0, x1, x2, x3, x4, x5, x6, x7, x8, x10, x11, x12, x34, x107 => if x107 = true then (none) else (pObj.l0 VA VO k x0 x1 x2 x3 x4 x5 x6 x7 x8 x10 x11 x12 x34 0)
def pObj.l0 (VA : H_pAny) (VO : H_pObj) : Nat → List Int → List Int → Int → Int → Int → Bool → Int → ByteArray → ByteArray → Int → Int → Int → List (S69) → Int → Option (List Int × Int × Int × Bool)
 | 0, _, _, _, _, _, _, _, _, _, _, _, _, _, _ => none
 | k + 1, x0, x1, x2, x3, x4, x5, x6, x7, x8, x10, x11, x12, x34, x35 => if x2 < (x1.length : Int) then (if 0 ≤ x2 then (if (rd x1 x2) ≤ 32 then (pObj.l0 VA VO k x0 x1 (wrap64 (x2 + 1)) x3 x4 x5 x6 x7 x8 x10 x11 x12 x34 x35) else (if (rd x1 x2) = x4 then (if x5 = true then (if x3 = 123 then (pObj.j4 VA VO k x0 x1 x2 x3 x4 x7 x8 x10 x11 x34 x35 false) else (pObj.j4 VA VO k x0 x1 x2 x3 x4 x7 x8 x10 x11 x34 x35 false)) else (if x0.length < 140737488355328 then (some ((x0 ++ [x4]), wrap64 (x2 + 1), x11, (x3 != 123))) else (none))) else (if x3 = 91 then (pObj.j6 VA VO k x0 x1 x2 x3 x4 x5 x6 x7 x8 x10 x11 x12 x34 x35 true) else (pObj.j6 VA VO k x0 x1 x2 x3 x4 x5 x6 x7 x8 x10 x11 x12 x34 x35 ((rd x1 x2) == 34))))) else (none)) else (some (x0, x2, x11, (x3 != 123)))
def pObj.j4 (VA : H_pAny) (VO : H_pObj) : Nat → List Int → List Int → Int → Int → Int → ByteArray → ByteArray → Int → Int → List (S69) → Int → Bool → Option (List Int × Int × Int × Bool)
 | 0, _, _, _, _, _, _, _, _, _, _, _, _ => none
 | k + 1, x0, x1, x2, x3, x4, x7, x8, x10, x11, x34, x35, x131 => if x131 = true then ((pretty_sortPairs.f x1 x0 x34).bind fun t393 => (pObj.j5 VA VO k t393 x2 x3 x4 x7 x8 x10 x11 x35)) else (pObj.j5 VA VO k x0 x2 x3 x4 x7 x8 x10 x11 x35)
def pObj.j5 (VA : H_pAny) (VO : H_pObj) : Nat → List Int → Int → Int → Int → ByteArray → ByteArray → Int → Int → Int → Option (List Int × Int × Int × Bool)
 | 0, _, _, _, _, _, _, _, _, _ => none
 | k + 1, x0, x2, x3, x4, x7, x8, x10, x11, x35 => if x35 > 0 then (if 0 ≤ (wrap64 ((x0.length : Int) - 1)) then (if (wrap64 ((x0.length : Int) - 1)) < (x0.length : Int) then (if (rd x0 (wrap64 ((x0.length : Int) - 1))) = 32 then ((some (x0.set ((wrap64 ((x0.length : Int) - 1)) : Int).toNat 10 : List Int)).bind fun y397 => (if (rd y397 (wrap64 ((x0.length : Int) - 1))) = x3 then (if y397.length < 140737488355328 then (some ((y397 ++ [x4]), wrap64 (x2 + 1), (x0.length : Int), (x3 != 123))) else (none)) else ((pretty_appendTabs.f k y397 x7 x8 x10).bind fun t402 => (if t402.length < 140737488355328 then (some ((t402 ++ [x4]), wrap64 (x2 + 1), (x0.length : Int), (x3 != 123))) else (none))))) else (if x0.length < 140737488355328 then ((some (x0 ++ [10] : List Int)).bind fun y408 => (if 0 ≤ (wrap64 ((y408.length : Int) - 1)) then (if (wrap64 ((y408.length : Int) - 1)) < (y408.length : Int) then (if (rd y408 (wrap64 ((y408.length : Int) - 1))) = x3 then (if y408.length < 140737488355328 then (some ((y408 ++ [x4]), wrap64 (x2 + 1), (x0.length : Int), (x3 != 123))) else (none)) else ((pretty_appendTabs.f k y408 x7 x8 x10).bind fun t415 => (if t415.length < 140737488355328 then (some ((t415 ++ [x4]), wrap64 (x2 + 1), (x0.length : Int), (x3 != 123))) else (none)))) else (none)) else (none))) else (none))) else (none)) else (none)) else (if 0 ≤ (wrap64 ((x0.length : Int) - 1)) then (if (wrap64 ((x0.length : Int) - 1)) < (x0.length : Int) then (if (rd x0 (wrap64 ((x0.length : Int) - 1))) = x3 then (if x0.length < 140737488355328 then (some ((x0 ++ [x4]), wrap64 (x2 + 1), x11, (x3 != 123))) else (none)) else ((pretty_appendTabs.f k x0 x7 x8 x10).bind fun t425 => (if t425.length < 140737488355328 then (some ((t425 ++ [x4]), wrap64 (x2 + 1), x11, (x3 != 123))) else (none)))) else (none)) else (none))
def pObj.j6 (VA : H_pAny) (VO : H_pObj) : Nat → List Int → List Int → Int → Int → Int → Bool → Int → ByteArray → ByteArray → Int → Int → Int → List (S69) → Int → Bool → Option (List Int × Int × Int × Bool)
 | 0, _, _, _, _, _, _, _, _, _, _, _, _, _, _, _ => none
 | k + 1, x0, x1, x2, x3, x4, x5, x6, x7, x8, x10, x11, x12, x34, x35, x184 => if x184 = true then (if x35 > 0 then (if x0.length < 140737488355328 then ((some (x0 ++ [44] : List Int)).bind fun y435 => (if x6 = (-1) then (pObj.j7 VA VO k y435 x1 x2 x3 x4 x5 x6 x7 x8 x10 x11 x12 x34 x35) else (if x3 = 91 then (if y435.length < 140737488355328 then (pObj.j7 VA VO k (y435 ++ [32]) x1 x2 x3 x4 x5 x6 x7 x8 x10 x11 x12 x34 x35) else (none)) else (pObj.j7 VA VO k y435 x1 x2 x3 x4 x5 x6 x7 x8 x10 x11 x12 x34 x35)))) else (none)) else (pObj.j7 VA VO k x0 x1 x2 x3 x4 x5 x6 x7 x8 x10 x11 x12 x34 x35)) else (pObj.l0 VA VO k x0 x1 (wrap64 (x2 + 1)) x3 x4 x5 x6 x7 x8 x10 x11 x12 x34 x35)
def pObj.j7 (VA : H_pAny) (VO : H_pObj) : Nat → List Int → List Int → Int → Int → Int → Bool → Int → ByteArray → ByteArray → Int → Int → Int → List (S69) → Int → Option (List Int × Int × Int × Bool)
 | 0, _, _, _, _, _, _, _, _, _, _, _, _, _, _ => none
 | k + 1, x0, x1, x2, x3, x4, x5, x6, x7, x8, x10, x11, x12, x34, x35 => if x5 = true then (if 0 ≤ (wrap64 ((x0.length : Int) - 1)) then (if (wrap64 ((x0.length : Int) - 1)) < (x0.length : Int) then (if (rd x0 (wrap64 ((x0.length : Int) - 1))) = 32 then ((some (x0.set ((wrap64 ((x0.length : Int) - 1)) : Int).toNat 10 : List Int)).bind fun y443 => (if x3 = 123 then ((pretty_appendTabs.f k y443 x7 x8 (wrap64 (x10 + 1))).bind fun t444 => (pObj.j8 VA VO k t444 x1 x2 x3 x4 x5 x6 x7 x8 x10 (x0.length : Int) x12 x34 x35 0 0 0 0)) else ((pretty_appendTabs.f k y443 x7 x8 (wrap64 (x10 + 1))).bind fun t447 => (pObj.j8 VA VO k t447 x1 x2 x3 x4 x5 x6 x7 x8 x10 (x0.length : Int) x12 x34 x35 0 0 0 0)))) else (if x0.length < 140737488355328 then ((some (x0 ++ [10] : List Int)).bind fun y450 => (if x3 = 123 then ((pretty_appendTabs.f k y450 x7 x8 (wrap64 (x10 + 1))).bind fun t453 => (pObj.j8 VA VO k t453 x1 x2 x3 x4 x5 x6 x7 x8 x10 (x0.length : Int) x12 x34 x35 0 0 0 0)) else ((pretty_appendTabs.f k y450 x7 x8 (wrap64 (x10 + 1))).bind fun t456 => (pObj.j8 VA VO k t456 x1 x2 x3 x4 x5 x6 x7 x8 x10 (x0.length : Int) x12 x34 x35 0 0 0 0)))) else (none))) else (none)) else (none)) else (pObj.j8 VA VO k x0 x1 x2 x3 x4 x5 x6 x7 x8 x10 x11 x12 x34 x35 0 0 0 0)
def pObj.j8 (VA : H_pAny) (VO : H_pObj) : Nat → List Int → List Int → Int → Int → Int → Bool → Int → ByteArray → ByteArray → Int → Int → Int → List (S69) → Int → Int → Int → Int → Int → Option (List Int × Int × Int × Bool)
 | 0, _, _, _, _, _, _, _, _, _, _, _, _, _, _, _, _, _, _ => none
 | k + 1, x0, x1, x2, x3, x4, x5, x6, x7, x8, x10, x11, x12, x34, x35, x442000, x442001, x442002, x442003 => if x3 = 123 then ((pretty_appendPrettyString.f k x0 x1 x2 x11).bind fun bt459 => (if bt459.1.length < 140737488355328 then ((some (bt459.1 ++ [58] : List Int)).bind fun y465 => (if x5 = true then (if y465.length < 140737488355328 then (pObj.j9 VA VO k (y465 ++ [32]) x1 bt459.2.1 x3 x4 x5 x6 x7 x8 x10 bt459.2.2.1 x12 x34 x35 x442000 x442001 x442002 x442003) else (none)) else (pObj.j9 VA VO k y465 x1 bt459.2.1 x3 x4 x5 x6 x7 x8 x10 bt459.2.2.1 x12 x34 x35 x442000 x442001 x442002 x442003))) else (none))) else (pObj.j9 VA VO k x0 x1 x2 x3 x4 x5 x6 x7 x8 x10 x11 x12 x34 x35 x442000 x442001 x442002 x442003)
def pObj.j9 (VA : H_pAny) (VO : H_pObj) : Nat → List Int → List Int → Int → Int → Int → Bool → Int → ByteArray → ByteArray → Int → Int → Int → List (S69) → Int → Int → Int → Int → Int → Option (List Int × Int × Int × Bool)
 | 0, _, _, _, _, _, _, _, _, _, _, _, _, _, _, _, _, _, _ => none
 | k + 1, x0, x1, x2, x3, x4, x5, x6, x7, x8, x10, x11, x12, x34, x35, x442000, x442001, x442002, x442003 => (VA.f k x0 x1 x2 x5 x6 x7 x8 false (wrap64 (x10 + 1)) x11 x12).bind fun bt471 => (if x12 = (-1) then (pObj.j10 VA VO k bt471.1 x1 bt471.2.1 x3 x4 x5 x6 x7 x8 x10 bt471.2.2.1 x12 x34 x35 false x442000 x442001 x442002 x442003) else (pObj.j10 VA VO k bt471.1 x1 bt471.2.1 x3 x4 x5 x6 x7 x8 x10 bt471.2.2.1 x12 x34 x35 (!bt471.2.2.2) x442000 x442001 x442002 x442003))
def pObj.j10 (VA : H_pAny) (VO : H_pObj) : Nat → List Int → List Int → Int → Int → Int → Bool → Int → ByteArray → ByteArray → Int → Int → Int → List (S69) → Int → Bool → Int → Int → Int → Int → Option (List Int × Int × Int × Bool)
 | 0, _, _, _, _, _, _, _, _, _, _, _, _, _, _, _, _, _, _, _ => none
 | k + 1, x0, x1, x2, x3, x4, x5, x6, x7, x8, x10, x11, x12, x34, x35, x276, x442000, x442001, x442002, x442003 => if x276 = true then (some (x0, x2, x11, false)) else (if x5 = true then (if x3 = 123 then (pObj.j11 VA VO k x0 x1 x2 x3 x4 x5 x6 x7 x8 x10 x11 x12 x34 x35 false x442000 x442001 x442002 x442003) else (pObj.j11 VA VO k x0 x1 x2 x3 x4 x5 x6 x7 x8 x10 x11 x12 x34 x35 false x442000 x442001 x442002 x442003)) else (pObj.j11 VA VO k x0 x1 x2 x3 x4 x5 x6 x7 x8 x10 x11 x12 x34 x35 false x442000 x442001 x442002 x442003))
def pObj.j11 (VA : H_pAny) (VO : H_pObj) : Nat → List Int → List Int → Int → Int → Int → Bool → Int → ByteArray → ByteArray → Int → Int → Int → List (S69) → Int → Bool → Int → Int → Int → Int → Option (List Int × Int × Int × Bool)
 | 0, _, _, _, _, _, _, _, _, _, _, _, _, _, _, _, _, _, _, _ => none
 | k + 1, x0, x1, x2, x3, x4, x5, x6, x7, x8, x10, x11, x12, x34, x35, x287, x442000, x442001, x442002, x442003 => if x287 = true then (if x442000 > x442001 then (pObj.l0 VA VO k x0 x1 (wrap64 ((wrap64 (x2 - 1)) + 1)) x3 x4 x5 x6 x7 x8 x10 x11 x12 x34 (wrap64 (x35 + 1))) else (if x442002 > (x0.length : Int) then (pObj.l0 VA VO k x0 x1 (wrap64 ((wrap64 (x2 - 1)) + 1)) x3 x4 x5 x6 x7 x8 x10 x11 x12 x34 (wrap64 (x35 + 1))) else (if x34.length < 4398046511104 then (pObj.l0 VA VO k x0 x1 (wrap64 ((wrap64 (x2 - 1)) + 1)) x3 x4 x5 x6 x7 x8 x10 x11 x12 (x34 ++ [(⟨x442000, x442001, x442002, (x0.length : Int)⟩ : S69)]) (wrap64 (x35 + 1))) else (none)))) else (pObj.l0 VA VO k x0 x1 (wrap64 ((wrap64 (x2 - 1)) + 1)) x3 x4 x5 x6 x7 x8 x10 x11 x12 x34 (wrap64 (x35 + 1)))
def pObj.j0 (VA : H_pAny) (VO : H_pObj) : Nat → List Int → List Int → Int → Int → Int → Bool → Int → ByteArray → ByteArray → Int → Int → Int → Bool → Option (List Int × Int × Int × Bool)
 | 0, _, _, _, _, _, _, _, _, _, _, _, _, _ => none
 | k + 1, x0, x1, x2, x3, x4, x5, x6, x7, x8, x10, x11, x12, x47 => if x47 = true then (if (wrap64 (x6 - (wrap64 ((x0.length : Int) - x11)))) > 3 then ((VO.f k x0 x1 x2 91 93 false x6 x7 (⟨#[]⟩ : ByteArray) false 0 0 (wrap64 (x6 - (wrap64 ((x0.length : Int) - x11))))).bind fun bt376 => (if bt376.2.2.2 = true then (if (wrap64 ((bt376.1.length : Int) - (x0.length : Int))) ≤ (wrap64 (x6 - (wrap64 ((x0.length : Int) - x11)))) then (some (bt376.1, bt376.2.1, x11, true)) else (if 0 ≤ (x0.length : Int) then (if (x0.length : Int) ≤ (bt376.1.length : Int) then (pObj.j1 VA VO k (bt376.1.take ((x0.length : Int) : Int).toNat) x1 x2 x3 x4 x5 x6 x7 x8 x10 x11 x12) else (none)) else (none))) else (if 0 ≤ (x0.length : Int) then (if (x0.length : Int) ≤ (bt376.1.length : Int) then (pObj.j1 VA VO k (bt376.1.take ((x0.length : Int) : Int).toNat) x1 x2 x3 x4 x5 x6 x7 x8 x10 x11 x12) else (none)) else (none)))) else (pObj.j1 VA VO k x0 x1 x2 x3 x4 x5 x6 x7 x8 x10 x11 x12)) else (if x12 = (-1) then (pObj.j1 VA VO k x0 x1 x2 x3 x4 x5 x6 x7 x8 x10 x11 x12) else (if x3 = 123 then (some (x0, x2, x11, false)) else (pObj.j1 VA VO k x0 x1 x2 x3 x4 x5 x6 x7 x8 x10 x11 x12)))
end
def pObj.f (VA : H_pAny) (VO : H_pObj) (k : Nat) (l0 : List Int) (l1 : List Int) (a2 : Int) (a3 : Int) (a4 : Int) (a5 : Bool) (a6 : Int) (a7 : ByteArray) (a8 : ByteArray) (a9 : Bool) (a10 : Int) (a11 : Int) (a12 : Int) : Option (List Int × Int × Int × Bool) := if a6 > 0 then (if a5 = true then (if a3 = 91 then (pObj.j0 VA VO k l0 l1 a2 a3 a4 a5 a6 a7 a8 a10 a11 a12 (a12 == (-1))) else (pObj.j0 VA VO k l0 l1 a2 a3 a4 a5 a6 a7 a8 a10 a11 a12 false)) else (pObj.j0 VA VO k l0 l1 a2 a3 a4 a5 a6 a7 a8 a10 a11 a12 false)) else (pObj.j1 VA VO k l0 l1 a2 a3 a4 a5 a6 a7 a8 a10 a11 a12)
theorem pObj.mono_l (VA : H_pAny) (VO : H_pObj) : ∀ k, (∀ y0 y1 y2 y3 y4 y5 y6 y7 y8 y9 y10 y11, LeO (pObj.j1 VA VO k y0 y1 y2 y3 y4 y5 y6 y7 y8 y9 y10 y11) (pObj.j1 VA VO (k + 1) y0 y1 y2 y3 y4 y5 y6 y7 y8 y9 y10 y11)) ∧ (∀ y0 y1 y2 y3 y4 y5 y6 y7 y8 y9 y10 y11 y12 y13, LeO (pObj.j2 VA VO k y0 y1 y2 y3 y4 y5 y6 y7 y8 y9 y10 y11 y12 y13) (pObj.j2 VA VO (k + 1) y0 y1 y2 y3 y4 y5 y6 y7 y8 y9 y10 y11 y12 y13)) ∧ (∀ y0 y1 y2 y3 y4 y5 y6 y7 y8 y9 y10 y11 y12 y13, LeO (pObj.l0 VA VO k y0 y1 y2 y3 y4 y5 y6 y7 y8 y9 y10 y11 y12 y13) (pObj.l0 VA VO (k + 1) y0 y1 y2 y3 y4 y5 y6 y7 y8 y9 y10 y11 y12 y13)) ∧ (∀ y0 y1 y2 y3 y4 y5 y6 y7 y8 y9 y10 y11, LeO (pObj.j4 VA VO k y0 y1 y2 y3 y4 y5 y6 y7 y8 y9 y10 y11) (pObj.j4 VA VO (k + 1) y0 y1 y2 y3 y4 y5 y6 y7 y8 y9 y10 y11)) ∧ (∀ y0 y1 y2 y3 y4 y5 y6 y7 y8, LeO (pObj.j5 VA VO k y0 y1 y2 y3 y4 y5 y6 y7 y8) (pObj.j5 VA VO (k + 1) y0 y1 y2 y3 y4 y5 y6 y7 y8)) ∧ (∀ y0 y1 y2 y3 y4 y5 y6 y7 y8 y9 y10 y11 y12 y13 y14, LeO (pObj.j6 VA VO k y0 y1 y2 y3 y4 y5 y6 y7 y8 y9 y10 y11 y12 y13 y14) (pObj.j6 VA VO (k + 1) y0 y1 y2 y3 y4 y5 y6 y7 y8 y9 y10 y11 y12 y13 y14)) ∧ (∀ y0 y1 y2 y3 y4 y5 y6 y7 y8 y9 y10 y11 y12 y13, LeO (pObj.j7 VA VO k y0 y1 y2 y3 y4 y5 y6 y7 y8 y9 y10 y11 y12 y13) (pObj.j7 VA VO (k + 1) y0 y1 y2 y3 y4 y5 y6 y7 y8 y9 y10 y11 y12 y13)) ∧ (∀ y0 y1 y2 y3 y4 y5 y6 y7 y8 y9 y10 y11 y12 y13 y14 y15 y16 y17, LeO (pObj.j8 VA VO k y0 y1 y2 y3 y4 y5 y6 y7 y8 y9 y10 y11 y12 y13 y14 y15 y16 y17) (pObj.j8 VA VO (k + 1) y0 y1 y2 y3 y4 y5 y6 y7 y8 y9 y10 y11 y12 y13 y14 y15 y16 y17)) ∧ (∀ y0 y1 y2 y3 y4 y5 y6 y7 y8 y9 y10 y11 y12 y13 y14 y15 y16 y17, LeO (pObj.j9 VA VO k y0 y1 y2 y3 y4 y5 y6 y7 y8 y9 y10 y11 y12 y13 y14 y15 y16 y17) (pObj.j9 VA VO (k + 1) y0 y1 y2 y3 y4 y5 y6 y7 y8 y9 y10 y11 y12 y13 y14 y15 y16 y17)) ∧ (∀ y0 y1 y2 y3 y4 y5 y6 y7 y8 y9 y10 y11 y12 y13 y14 y15 y16 y17 y18, LeO (pObj.j10 VA VO k y0 y1 y2 y3 y4 y5 y6 y7 y8 y9 y10 y11 y12 y13 y14 y15 y16 y17 y18) (pObj.j10 VA VO (k + 1) y0 y1 y2 y3 y4 y5 y6 y7 y8 y9 y10 y11 y12 y13 y14 y15 y16 y17 y18)) ∧ (∀ y0 y1 y2 y3 y4 y5 y6 y7 y8 y9 y10 y11 y12 y13 y14 y15 y16 y17 y18, LeO (pObj.j11 VA VO k y0 y1 y2 y3 y4 y5 y6 y7 y8 y9 y10 y11 y12 y13 y14 y15 y16 y17 y18) (pObj.j11 VA VO (k + 1) y0 y1 y2 y3 y4 y5 y6 y7 y8 y9 y10 y11 y12 y13 y14 y15 y16 y17 y18)) ∧ (∀ y0 y1 y2 y3 y4 y5 y6 y7 y8 y9 y10 y11 y12, LeO (pObj.j0 VA VO k y0 y1 y2 y3 y4 y5 y6 y7 y8 y9 y10 y11 y12) (pObj.j0 VA VO (k + 1) y0 y1 y2 y3 y4 y5 y6 y7 y8 y9 y10 y11 y12))
 | 0 => ⟨fun _ _ _ _ _ _ _ _ _ _ _ _ r h => by simp [pObj.j1] at h, fun _ _ _ _ _ _ _ _ _ _ _ _ _ _ r h => by simp [pObj.j2] at h, fun _ _ _ _ _ _ _ _ _ _ _ _ _ _ r h => by simp [pObj.l0] at h, fun _ _ _ _ _ _ _ _ _ _ _ _ r h => by simp [pObj.j4] at h, fun _ _ _ _ _ _ _ _ _ r h => by simp [pObj.j5] at h, fun _ _ _ _ _ _ _ _ _ _ _ _ _ _ _ r h => by simp [pObj.j6] at h, fun _ _ _ _ _ _ _ _ _ _ _ _ _ _ r h => by simp [pObj.j7] at h, fun _ _ _ _ _ _ _ _ _ _ _ _ _ _ _ _ _ _ r h => by simp [pObj.j8] at h, fun _ _ _ _ _ _ _ _ _ _ _ _ _ _ _ _ _ _ r h => by simp [pObj.j9] at h, fun _ _ _ _ _ _ _ _ _ _ _ _ _ _ _ _ _ _ _ r h => by simp [pObj.j10] at h, fun _ _ _ _ _ _ _ _ _ _ _ _ _ _ _ _ _ _ _ r h => by simp [pObj.j11] at h, fun _ _ _ _ _ _ _ _ _ _ _ _ _ r h => by simp [pObj.j0] at h⟩
 | k + 1 => by
  obtain ⟨ih0, ih1, ih2, ih3, ih4, ih5, ih6, ih7, ih8, ih9, ih10, ih11⟩ := pObj.mono_l VA VO k
  refine ⟨?_, ?_, ?_, ?_, ?_, ?_, ?_, ?_, ?_, ?_, ?_, ?_⟩ <;> intros <;> first | unfold pObj.j1 | unfold pObj.j2 | unfold pObj.l0 | unfold pObj.j4 | unfold pObj.j5 | unfold pObj.j6 | unfold pObj.j7 | unfold pObj.j8 | unfold pObj.j9 | unfold pObj.j10 | unfold pObj.j11 | unfold pObj.j0
  all_goals
   repeat' first
   | (with_reducible exact ih0 _ _ _ _ _ _ _ _ _ _ _ _)
   | (with_reducible exact ih1 _ _ _ _ _ _ _ _ _ _ _ _ _ _)
   | (with_reducible exact ih2 _ _ _ _ _ _ _ _ _ _ _ _ _ _)
   | (with_reducible exact ih3 _ _ _ _ _ _ _ _ _ _ _ _)
   | (with_reducible exact ih4 _ _ _ _ _ _ _ _ _)
   | (with_reducible exact ih5 _ _ _ _ _ _ _ _ _ _ _ _ _ _ _)
   | (with_reducible exact ih6 _ _ _ _ _ _ _ _ _ _ _ _ _ _)
   | (with_reducible exact ih7 _ _ _ _ _ _ _ _ _ _ _ _ _ _ _ _ _ _)
   | (with_reducible exact ih8 _ _ _ _ _ _ _ _ _ _ _ _ _ _ _ _ _ _)
   | (with_reducible exact ih9 _ _ _ _ _ _ _ _ _ _ _ _ _ _ _ _ _ _ _)
   | (with_reducible exact ih10 _ _ _ _ _ _ _ _ _ _ _ _ _ _ _ _ _ _ _)
   | (with_reducible exact ih11 _ _ _ _ _ _ _ _ _ _ _ _ _)
   | (with_reducible exact VA.mono _ _ _ _ _ _ _ _ _ _ _ _)
   | (with_reducible exact VO.mono _ _ _ _ _ _ _ _ _ _ _ _ _ _)
   | (with_reducible exact pretty_appendPrettyString.mono _ _ _ _ _)
   | (with_reducible exact pretty_appendTabs.mono _ _ _ _ _)
   | (with_reducible exact LeO.refl _)
   | (with_reducible exact LeO.none _)
   | (with_reducible refine LeO.ite ?_ ?_)
   | (with_reducible refine LeO.bind ?_ (fun _ => ?_))
   | exact ih0 _ _ _ _ _ _ _ _ _ _ _ _
   | exact ih1 _ _ _ _ _ _ _ _ _ _ _ _ _ _
   | exact ih2 _ _ _ _ _ _ _ _ _ _ _ _ _ _
   | exact ih3 _ _ _ _ _ _ _ _ _ _ _ _
   | exact ih4 _ _ _ _ _ _ _ _ _
   | exact ih5 _ _ _ _ _ _ _ _ _ _ _ _ _ _ _
   | exact ih6 _ _ _ _ _ _ _ _ _ _ _ _ _ _
   | exact ih7 _ _ _ _ _ _ _ _ _ _ _ _ _ _ _ _ _ _
   | exact ih8 _ _ _ _ _ _ _ _ _ _ _ _ _ _ _ _ _ _
   | exact ih9 _ _ _ _ _ _ _ _ _ _ _ _ _ _ _ _ _ _ _
   | exact ih10 _ _ _ _ _ _ _ _ _ _ _ _ _ _ _ _ _ _ _
   | exact ih11 _ _ _ _ _ _ _ _ _ _ _ _ _
   | exact VA.mono _ _ _ _ _ _ _ _ _ _ _ _
   | exact VO.mono _ _ _ _ _ _ _ _ _ _ _ _ _ _
   | exact pretty_appendPrettyString.mono _ _ _ _ _
   | exact pretty_appendTabs.mono _ _ _ _ _
   | exact LeO.none _
   | refine LeO.ite ?_ ?_
   | refine LeO.bind ?_ (fun _ => ?_)
theorem pObj.mono (VA : H_pAny) (VO : H_pObj) : ∀ a0 a1 a2 a3 a4 a5 a6 a7 a8 a9 a10 a11 a12 k, LeO (pObj.f VA VO k a0 a1 a2 a3 a4 a5 a6 a7 a8 a9 a10 a11 a12) (pObj.f VA VO (k + 1) a0 a1 a2 a3 a4 a5 a6 a7 a8 a9 a10 a11 a12) := by
 intro a0 a1 a2 a3 a4 a5 a6 a7 a8 a9 a10 a11 a12 k
 obtain ⟨ih0, ih1, ih2, ih3, ih4, ih5, ih6, ih7, ih8, ih9, ih10, ih11⟩ := pObj.mono_l VA VO k
 unfold pObj.f
 repeat' first
   | (with_reducible exact ih0 _ _ _ _ _ _ _ _ _ _ _ _)
   | (with_reducible exact ih1 _ _ _ _ _ _ _ _ _ _ _ _ _ _)
   | (with_reducible exact ih2 _ _ _ _ _ _ _ _ _ _ _ _ _ _)
   | (with_reducible exact ih3 _ _ _ _ _ _ _ _ _ _ _ _)
   | (with_reducible exact ih4 _ _ _ _ _ _ _ _ _)
   | (with_reducible exact ih5 _ _ _ _ _ _ _ _ _ _ _ _ _ _ _)
   | (with_reducible exact ih6 _ _ _ _ _ _ _ _ _ _ _ _ _ _)
   | (with_reducible exact ih7 _ _ _ _ _ _ _ _ _ _ _ _ _ _ _ _ _ _)
   | (with_reducible exact ih8 _ _ _ _ _ _ _ _ _ _ _ _ _ _ _ _ _ _)
   | (with_reducible exact ih9 _ _ _ _ _ _ _ _ _ _ _ _ _ _ _ _ _ _ _)
   | (with_reducible exact ih10 _ _ _ _ _ _ _ _ _ _ _ _ _ _ _ _ _ _ _)
   | (with_reducible exact ih11 _ _ _ _ _ _ _ _ _ _ _ _ _)
   | (with_reducible exact VA.mono _ _ _ _ _ _ _ _ _ _ _ _)
   | (with_reducible exact VO.mono _ _ _ _ _ _ _ _ _ _ _ _ _ _)
   | (with_reducible exact pretty_appendPrettyString.mono _ _ _ _ _)
   | (with_reducible exact pretty_appendTabs.mono _ _ _ _ _)
   | (with_reducible exact LeO.refl _)
   | (with_reducible exact LeO.none _)
   | (with_reducible refine LeO.ite ?_ ?_)
   | (with_reducible refine LeO.bind ?_ (fun _ => ?_))
   | exact ih0 _ _ _ _ _ _ _ _ _ _ _ _
   | exact ih1 _ _ _ _ _ _ _ _ _ _ _ _ _ _
   | exact ih2 _ _ _ _ _ _ _ _ _ _ _ _ _ _
   | exact ih3 _ _ _ _ _ _ _ _ _ _ _ _
   | exact ih4 _ _ _ _ _ _ _ _ _
   | exact ih5 _ _ _ _ _ _ _ _ _ _ _ _ _ _ _
   | exact ih6 _ _ _ _ _ _ _ _ _ _ _ _ _ _
   | exact ih7 _ _ _ _ _ _ _ _ _ _ _ _ _ _ _ _ _ _
   | exact ih8 _ _ _ _ _ _ _ _ _ _ _ _ _ _ _ _ _ _
   | exact ih9 _ _ _ _ _ _ _ _ _ _ _ _ _ _ _ _ _ _ _
   | exact ih10 _ _ _ _ _ _ _ _ _ _ _ _ _ _ _ _ _ _ _
   | exact ih11 _ _ _ _ _ _ _ _ _ _ _ _ _
   | exact VA.mono _ _ _ _ _ _ _ _ _ _ _ _
   | exact VO.mono _ _ _ _ _ _ _ _ _ _ _ _ _ _
   | exact pretty_appendPrettyString.mono _ _ _ _ _
   | exact pretty_appendTabs.mono _ _ _ _ _
   | exact LeO.none _
   | refine LeO.ite ?_ ?_
   | refine LeO.bind ?_ (fun _ => ?_)
end Go.Proofs.Ytkbeiidjagodnaa.Pr

-- written by a program of this session (wip/tools), for this seat
import Derived.Test.YtkbeiidjagodnaaPrx0
namespace Go.Proofs.Ytkbeiidjagodnaa.Pr
open Go.RowKit Go.Proofs.YtkbeiidjagodnaaW.PrintWords Go.Proofs.YtkbeiidjagodnaaW.PrintLast Go.Proofs.YtkbeiidjagodnaaW.PrintMore
set_option linter.unusedVariables false
set_option linter.unusedSimpArgs false
structure H_laws_prPlaces where
  f : Nat → ByteArray → Option (Int × Int × Int × (List (S53)) × (List (S25)) × Bool)
  mono : ∀ a0 k, LeO (f k a0) (f (k + 1) a0)
  calls : ∀ (k : Nat) (a0 : ByteArray) (r1 : Int) (r2 : Int) (r3 : Int) (r4 : List (S53)) (r5 : List (S25)) (r6 : Bool) (w : World) (h : f k a0 = some (r1, r2, r3, r4, r5, r6)),
    Calls Try.prog 6 #[.string a0] w fun e w' => ∃ v3_ v4_ : Value, e = .returned (.tuple #[.agg #[.int .i64 r1, .int .i64 r2, .int .i64 r3, v3_, v4_], .bool r6]) ∧ Kd.R k53 53 w' w.heap.size (fun _ => True) v3_ r4 ∧ Kd.R k25 25 w' w.heap.size (fun k_ => some k_ ≠ (v3_ : Value).ownBlock) v4_ r5 ∧ Below w.heap.size w w'
structure H_impl_PrPretty where
  f : Nat → ByteArray → Int → ByteArray → ByteArray → Bool → Option (ByteArray)
  mono : ∀ a0 a1 a2 a3 a4 k, LeO (f k a0 a1 a2 a3 a4) (f (k + 1) a0 a1 a2 a3 a4)
  calls : ∀ (k : Nat) (a0 : ByteArray) (a1_0 : Int) (a1_1 : ByteArray) (a1_2 : ByteArray) (a1_3 : Bool) (r : ByteArray) (w : World) (h : f k a0 a1_0 a1_1 a1_2 a1_3 = some r),
    Calls Try.prog 8 #[.string a0, .agg #[.int .i64 a1_0, .string a1_1, .string a1_2, .bool a1_3]] w fun e w' => e = .returned (.string r) ∧ Below w.heap.size w w'
structure H_spec_Laid where
  f : Nat → ByteArray → Int → Int → Int → List (S53) → List (S25) → ByteArray → ByteArray → Bool → Option (ByteArray)
  mono : ∀ a0 a1 a2 a3 a4 a5 a6 a7 a8 k, LeO (f k a0 a1 a2 a3 a4 a5 a6 a7 a8) (f (k + 1) a0 a1 a2 a3 a4 a5 a6 a7 a8)
  calls : ∀ (k : Nat) (a0 : ByteArray) (a1_0 : Int) (a1_1 : Int) (a1_2 : Int) (A1_3 : Option Addr) (c1_3 : Nat) (l1_3 : List (S53)) (A1_4 : Option Addr) (c1_4 : Nat) (l1_4 : List (S25)) (a2 : ByteArray) (a3 : ByteArray) (a4 : Bool) (r : ByteArray) (w : World) (hr1_3 : Kd.C k53 w A1_3 l1_3.length l1_3) (hc1_3 : l1_3.length ≤ c1_3) (hr1_4 : Kd.C k25 w A1_4 l1_4.length l1_4) (hc1_4 : l1_4.length ≤ c1_4) (h : f k a0 a1_0 a1_1 a1_2 l1_3 l1_4 a2 a3 a4 = some r),
    Calls Try.prog 13 #[.string a0, .agg #[.int .i64 a1_0, .int .i64 a1_1, .int .i64 a1_2, .slice A1_3 l1_3.length c1_3, .slice A1_4 l1_4.length c1_4], .string a2, .string a3, .bool a4] w fun e w' => e = .returned (.string r) ∧ Below w.heap.size w w'
end Go.Proofs.Ytkbeiidjagodnaa.Pr

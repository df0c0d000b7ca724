/- laws.FnPrDefault answers true, for every text: the walk and the plain law joined. -/
import Derived.Test.YtkbeiidjagodnaaLaw3
import Derived.Test.YtkbeiidjagodnaaHand6
namespace Go.Proofs.Ytkbeiidjagodnaa.Pr
open Go.RowKit Go.Proofs.YtkbeiidjagodnaaW.PrintWords Go.Proofs.YtkbeiidjagodnaaW.PrintLast Go.Proofs.YtkbeiidjagodnaaW.PrintMore
set_option linter.unusedVariables false

theorem popts_len {V : H_pAny} {k : Nat} {x : List Int} {wd : Int} {pre ind : ByteArray} {r : List Int} (h : popts V k x wd pre ind = some r) : r.length ≤ 140737488355328 := by
  unfold popts at h
  split at h
  case isFalse => cases h
  obtain ⟨⟨r1, r2, r3, r4⟩, h1, h⟩ := Option.bind_eq_some_iff.mp h
  simp only at h
  split at h
  case isFalse => cases h
  simp only [Option.some.injEq] at h
  subst h
  split
  · rw [List.length_append, List.length_singleton]; omega
  · omega
theorem bytesOf_str (xs : List Int) : bytesOf (strOfNums xs) = xs.map fun n => ((UInt8.ofNat n.toNat).toNat : Int) := by
  unfold bytesOf
  rw [strOfNums_data, List.map_map]
  rfl
theorem str_last (y : List Int) : bt (strOfNums (y ++ [10])) (((strOfNums (y ++ [10])).size : Int) - 1) = 10 := by
  rw [← rd_bytesOf, bytesOf_str, strOfNums_size, List.length_append, List.length_singleton, List.map_append]
  unfold rd
  rw [show (((y.length + 1 : Nat) : Int) - 1).toNat = y.length by omega, List.getD_eq_getElem?_getD, List.getElem?_append_right (by rw [List.length_map]; omega), List.length_map, Nat.sub_self]
  rfl

theorem law5_all (s : ByteArray) (w : World) (hs : s.size ≤ 140737488351232) : Calls Try.prog 5 #[.string s] w fun e w' => e = .returned (.bool true) ∧ Below w.heap.size w w' := by
  by_cases hb : 2147483647 < s.size
  · exact law5_big s w hb
  · obtain ⟨r1, r2, r3, r4, r5, r6, e, h⟩ := prPlacesF_tot s
    have hp := fun W => prPlaces_calls (spec_reader_value.at_ 2100000) 1050000 s W r1 r2 r3 r4 r5 r6 e
    cases r6 with
    | false => exact law5_no s w (by omega) r1 r2 r3 r4 r5 hp
    | true =>
      obtain ⟨h1, h2⟩ := h rfl
      obtain ⟨r, hr, h3⟩ := popts_tot (bytesOf s) 80 ⟨#[]⟩ ⟨#[32, 32]⟩ ⟨by rw [bytesOf_length]; exact h1, by decide, by decide⟩
      obtain ⟨y, hy, rfl⟩ := h3 h2
      have hlen := popts_len hr
      have hpos : 0 < (y ++ [10] : List Int).length := by rw [List.length_append, List.length_singleton]; omega
      exact law5_yes s (strOfNums (y ++ [10])) w (by omega) r1 r2 r3 r4 r5 (by rw [strOfNums_size]; exact hpos) (by rw [strOfNums_size]; exact hlen) (str_last y) hp
        (fun W => prDefault_calls (pAny.at_ 20000) 200000 s _ W (by omega) hr) (fun W => prPretty_calls (pAny.at_ 20000) 200000 s 80 ⟨#[]⟩ ⟨#[32, 32]⟩ _ W (by omega) hr)
end Go.Proofs.Ytkbeiidjagodnaa.Pr

import Derived.Test.YtmpdhdnoohmndaaGreatDoorHps
import Derived.Test.YtmpdhdnoohmndaaGreatDoorPo
namespace Go.Proofs.YtmpdhdnoohmndaaGreatDoor.Pr
set_option maxHeartbeats 4000000
set_option maxRecDepth 100000
open Go.RowKit Go.Proofs.YtmpdhdnoohmndaaGreatDoorW.PrintWords Go.Proofs.YtmpdhdnoohmndaaGreatDoorW.PrintLast Go.Proofs.YtmpdhdnoohmndaaGreatDoorW.PrintMore Sp Gj So
set_option linter.unusedVariables false
set_option linter.unusedSimpArgs false
theorem esc_calls (s : au) (hs : s.size ≤ 10000000000) (w : World) : Calls Tryz.prog 7 #[.string s] w fun e w' => ∃ b : Bool, e = .returned (.bool b) ∧ (b = false → ∀ q : Nat, q < s.size → at_ s q ≠ 92) ∧ w = w' := by
 have HS := aa hs
 clear hs
 go_enter Tryz.func7, Tryz.ntmps7
 go_wp2
 go_loopg [3] s.size (fun kq v3 wd => ∃ (z : Int) (q : Nat), v3 = .int .i64 z ∧ Aside0 (z = q ∧ q ≤ s.size ∧ s.size - q ≤ kq) ∧ Aside0 (∀ j, j < q → at_ s j ≠ 92) ∧ Aside0 (w = wd))
 case atStart => exact ⟨0, 0, rfl, ⟨rfl, Nat.zero_le _, by omega⟩, ⟨fun j h => by omega⟩, ⟨rfl⟩⟩
 case round =>
  obtain ⟨z, q, rfl, HQ, HN, ⟨rfl⟩⟩ := hrel
  by_cases hq : q < s.size
  ·have h60 : (0 ≤ z) = True := af (by have := HQ.out.1; omega)
   have c1 : decide (z < (s.size : Int)) = true := ac (by have := HQ.out; omega)
   have h61 : (z < (s.size : Int)) = True := af (ab c1)
   obtain ⟨y, f0, HY⟩ := wr1 HQ.out.1 (by have := HS.out; omega)
   obtain ⟨v, hv⟩ : ∃ v, at_ s q = v := ⟨_, rfl⟩
   have hx : ∀ h : z.toNat < s.size, ((s[z.toNat]'h).toNat : Int) = v := fun h => by rw [← hv]; exact at_gt s z q HQ.out.1 h
   have HV := aa hv
   clear hv
   by_cases cv : v = 92
   ·have d1 : (v == 92) = true := ah cv
    clear cv
    go_wp2
    go_ret
    exact ⟨true, rfl, fun h => by simp at h, rfl⟩
   ·have d1 : (v == 92) = false := ag cv
    have HC := aa cv
    clear cv
    go_wp2
    go_roundg (s.size - (q + 1))
    case measure => have := HQ.out; omega
    case rel => exact ⟨_, q + 1, rfl, ⟨HY.out, by omega, Nat.le_refl _⟩, ⟨fun j h => by
     by_cases e : j = q
     ·rw [e, HV.out]; exact HC.out
     ·exact HN.out j (by omega)⟩, ⟨rfl⟩⟩
  ·have c1 : decide (z < (s.size : Int)) = false := ae (by have := HQ.out; omega)
   have HE := aa (show q = s.size by have := HQ.out; omega)
   clear hq
   go_wp2
   go_ret
   exact ⟨false, rfl, fun _ j h => HN.out j (by have := HE.out; omega), rfl⟩
theorem sz_gt {n m : Nat} (h : m < n) : decide ((m : Int) < (n : Int)) = true ∧ decide (m < n) = true := ⟨ac (by omega), ac h⟩
theorem sz_le {n m : Nat} (h : ¬ m < n) : decide ((m : Int) < (n : Int)) = false ∧ decide (m < n) = false := ⟨ae (by omega), ae h⟩
theorem fits_calls (wd : Int) (pre ind : au) (sk : Bool) (w : World) : Calls Tryz.prog 4 #[.agg #[.int .i64 wd, .string pre, .string ind, .bool sk]] w fun e w' => (∃ b : Bool, e = .returned (.bool b) ∧ (b = true → pre.size ≤ 2147483647 ∧ ind.size ≤ 2147483647)) ∧ Below w.heap.size w w' := by
 have hu23 := Tryz.underlying23
 by_cases c1 : 2147483647 < pre.size
 ·obtain ⟨d1, d2⟩ : decide ((2147483647 : Int) < (pre.size : Int)) = true ∧ decide (2147483647 < pre.size) = true := sz_gt c1
  clear c1
  go_enter Tryz.func4, Tryz.ntmps4
  go_wp2
  go_ret
  exact ⟨⟨_, rfl, fun h => by simp at h⟩, below_alloc (Below.refl _ _) _⟩
 ·obtain ⟨d1, d2⟩ : decide ((2147483647 : Int) < (pre.size : Int)) = false ∧ decide (2147483647 < pre.size) = false := sz_le c1
  by_cases c2 : 2147483647 < ind.size
  ·obtain ⟨d3, d4⟩ : decide ((2147483647 : Int) < (ind.size : Int)) = true ∧ decide (2147483647 < ind.size) = true := sz_gt c2
   clear c1 c2
   go_enter Tryz.func4, Tryz.ntmps4
   go_wp2
   go_ret
   exact ⟨⟨_, rfl, fun h => by simp at h⟩, below_alloc (Below.refl _ _) _⟩
  ·obtain ⟨d3, d4⟩ : decide ((2147483647 : Int) < (ind.size : Int)) = false ∧ decide (2147483647 < ind.size) = false := sz_le c2
   have HP := aa (show True → pre.size ≤ 2147483647 ∧ ind.size ≤ 2147483647 from fun _ => ⟨Nat.not_lt.1 c1, Nat.not_lt.1 c2⟩)
   clear c1 c2
   go_enter Tryz.func4, Tryz.ntmps4
   go_wp2
   go_ret
   exact ⟨⟨_, rfl, fun _ => HP.out trivial⟩, below_alloc (Below.refl _ _) _⟩
def Bls (s : au) (q : Nat) : Prop := ∀ j, j < q → at_ s j = 32 ∨ at_ s j = 9
theorem bls_ind {s : au} (h : Bls s s.size) (hs : s.size ≤ 64) : Ind s := by
 refine ⟨fun c hc => ?_, hs⟩
 obtain ⟨k, hk, rfl⟩ := List.getElem_of_mem hc
 rw [bytesOf_length] at hk
 have := h k hk
 unfold at_ at this
 rw [← rd_bytesOf] at this
 unfold rd at this
 rw [List.getD_eq_getElem?_getD, Int.toNat_natCast, List.getElem?_eq_getElem (by rw [bytesOf_length]; exact hk)] at this
 simpa using this
theorem blank_calls (wd : Int) (pre ind : au) (sk : Bool) (w : World) (hp : pre.size ≤ 2147483647000) (hi : ind.size ≤ 2147483647000) : Calls Tryz.prog 6 #[.agg #[.int .i64 wd, .string pre, .string ind, .bool sk]] w fun e w' => (∃ b : Bool, e = .returned (.bool b) ∧ (b = true → Ind pre ∧ Ind ind)) ∧ Below w.heap.size w w' := by
 have hu23 := Tryz.underlying23
 have hu25 := Tryz.underlying25
 have HPI := aa (And.intro hp hi)
 obtain ⟨W0, hW0⟩ : ∃ W0, (w.alloc (.cells #[.int .i64 wd, .string pre, .string ind, .bool sk] 23)).alloc (.cells #[.string pre, .string ind] 9) = W0 := ⟨_, rfl⟩
 have hB : Below w.heap.size w W0 := by rw [← hW0]; exact below_alloc (below_alloc (Below.refl _ _) _) _
 have hz : W0.heap[w.heap.size + 1]? = some (.cells #[.string pre, .string ind] 9 (0, 0)) := by
  rw [← hW0]
  have := heap_alloc_new (w.alloc (.cells #[.int .i64 wd, .string pre, .string ind, .bool sk] 23)) (.cells #[.string pre, .string ind] 9)
  simpa using this
 have hc0 : W0.cell? ⟨w.heap.size + 1, 0, none⟩ = some (.string pre) := ((blk_cell hz 0).trans rfl)
 have hc1 : W0.cell? ⟨w.heap.size + 1, 1, none⟩ = some (.string ind) := ((blk_cell hz 1).trans rfl)
 have HB := aa hB
 have HC := aa (And.intro hc0 hc1)
 have HW := aa hW0
 clear hp hi hW0 hB hz hc0 hc1
 go_enter Tryz.func6, Tryz.ntmps6
 go_wp2
 go_loopg [12] 2 (fun kq v12 wd => ∃ i : Nat, v12 = .int .i64 i ∧ i ≤ 2 ∧ 2 - i ≤ kq ∧ Aside0 ((1 ≤ i → Ind pre) ∧ (2 ≤ i → Ind ind)) ∧ Aside0 (W0 = wd))
 case atStart => exact ⟨0, rfl, by omega, by omega, ⟨fun h => by omega, fun h => by omega⟩, ⟨HW.out.symm⟩⟩
 case round =>
  obtain ⟨i, rfl, hi, hk, HI, ⟨rfl⟩⟩ := hrel
  by_cases ci : i < 2
  ·obtain ⟨S, hc, hS, hI⟩ : ∃ S, W0.cell? ⟨w.heap.size + 1, i, none⟩ = some (.string S) ∧ S.size ≤ 2147483647000 ∧ (Ind S → (1 ≤ i + 1 → Ind pre) ∧ (2 ≤ i + 1 → Ind ind)) := by
    have : i = 0 ∨ i = 1 := by omega
    rcases this with rfl | rfl
    ·exact ⟨pre, HC.out.1, HPI.out.1, fun h => ⟨fun _ => h, fun h => by omega⟩⟩
    ·exact ⟨ind, HC.out.2, HPI.out.2, fun h => ⟨fun _ => HI.out.1 (Nat.le_refl _), fun _ => h⟩⟩
   have HSs := aa hS
   have HIs := aa hI
   have c1 : decide ((i : Int) < 2) = true := ac (by omega)
   have c2 : decide (i < 2) = true := ac ci
   clear hS hI
   go_wp2
   go_loopg [5] S.size (fun kq v5 wd => ∃ (z : Int) (q : Nat), v5 = .int .i64 z ∧ Aside0 (z = q ∧ q ≤ S.size ∧ S.size - q ≤ kq) ∧ Aside0 (Bls S q) ∧ Aside0 (W0 = wd))
   case atStart => exact ⟨0, 0, rfl, ⟨rfl, Nat.zero_le _, by omega⟩, ⟨fun j h => by omega⟩, ⟨rfl⟩⟩
   case round =>
    clear hc
    obtain ⟨z, q, rfl, HQ, HN, ⟨rfl⟩⟩ := hrel
    by_cases hq : q < S.size
    ·have h60 : (0 ≤ z) = True := af (by have := HQ.out.1; omega)
     have d0 : decide (z < (S.size : Int)) = true := ac (by have := HQ.out; omega)
     have h61 : (z < (S.size : Int)) = True := af (ab d0)
     obtain ⟨y, f0, HY⟩ : ∃ y, IntKind.i64.wrap (z + 1) = y ∧ Aside0 (y = ((q + 1 : Nat) : Int)) := ⟨z + 1, (i64_w _).trans (by unfold wrap64; have := HQ.out; have := HSs.out; omega), ⟨by have := HQ.out; omega⟩⟩
     obtain ⟨v, hv⟩ : ∃ v, at_ S q = v := ⟨_, rfl⟩
     have hx : ∀ h : z.toNat < S.size, ((S[z.toNat]'h).toNat : Int) = v := fun h => by rw [← hv]; exact at_gt S z q HQ.out.1 h
     have HV := aa hv
     clear hv hq
     obtain ⟨e1, d1⟩ : ∃ e1 : Bool, (v != 32) = e1 := ⟨_, rfl⟩
     obtain ⟨e2, d2⟩ : ∃ e2 : Bool, (v != 9) = e2 := ⟨_, rfl⟩
     have HE := aa (show (e1 = false ∨ e2 = false) → v = 32 ∨ v = 9 by
      rintro (h | h)
      ·rw [h] at d1; exact .inl (bne_eq_false_iff_eq.1 d1)
      ·rw [h] at d2; exact .inr (bne_eq_false_iff_eq.1 d2))
     cases e1
     ·go_wp2
      go_roundg (S.size - (q + 1))
      case measure => have := HQ.out; have := ab d0; omega
      case rel => exact ⟨_, q + 1, rfl, ⟨HY.out, by have := HQ.out; have := ab d0; omega, Nat.le_refl _⟩, ⟨fun j h => by
       by_cases e : j = q
       ·rw [e, HV.out]; exact HE.out (by simp)
       ·exact HN.out j (by omega)⟩, ⟨rfl⟩⟩
     ·cases e2
      ·go_wp2
       go_roundg (S.size - (q + 1))
       case measure => have := HQ.out; have := ab d0; omega
       case rel => exact ⟨_, q + 1, rfl, ⟨HY.out, by have := HQ.out; have := ab d0; omega, Nat.le_refl _⟩, ⟨fun j h => by
        by_cases e : j = q
        ·rw [e, HV.out]; exact HE.out (by simp)
        ·exact HN.out j (by omega)⟩, ⟨rfl⟩⟩
      ·go_wp2
       go_ret
       exact ⟨⟨false, rfl, fun h => by simp at h⟩, HB.out⟩
    ·have d0 : decide (z < (S.size : Int)) = false := ae (by have := HQ.out; omega)
     have HBl := aa (show Bls S S.size by have := HN.out; rwa [show q = S.size by have := HQ.out; omega] at this)
     clear hq
     by_cases c3 : 64 < S.size
     ·obtain ⟨d1, d2⟩ : decide ((64 : Int) < (S.size : Int)) = true ∧ decide (64 < S.size) = true := sz_gt c3
      clear c3
      go_wp2
      go_ret
      exact ⟨⟨false, rfl, fun h => by simp at h⟩, HB.out⟩
     ·obtain ⟨d1, d2⟩ : decide ((64 : Int) < (S.size : Int)) = false ∧ decide (64 < S.size) = false := sz_le c3
      have HInd := aa (HIs.out (bls_ind HBl.out (by omega)))
      clear c3
      go_wp2
      go_roundg (2 - (i + 1))
      case measure => omega
      case rel => exact ⟨i + 1, by simp, by omega, Nat.le_refl _, HInd, ⟨rfl⟩⟩
  ·obtain rfl : i = 2 := by omega
   go_wp2
   go_ret
   exact ⟨⟨true, rfl, fun _ => ⟨HI.out.1 (by omega), HI.out.2 (by omega)⟩⟩, HB.out⟩
end Go.Proofs.YtmpdhdnoohmndaaGreatDoor.Pr

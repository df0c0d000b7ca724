import Derived.Test.YtmpdhdnoohmndaaGreatDoorLw3
import Derived.Test.YtmpdhdnoohmndaaGreatDoorJv
import Derived.Test.YtmpdhdnoohmndaaGreatDoorSpx8
namespace Go.Proofs.YtmpdhdnoohmndaaGreatDoor.Pr
open Go.RowKit Go.Proofs.YtmpdhdnoohmndaaGreatDoorW.PrintWords Go.Proofs.YtmpdhdnoohmndaaGreatDoorW.PrintLast Go.Proofs.YtmpdhdnoohmndaaGreatDoorW.PrintMore Sp Gj So Dec
set_option linter.unusedVariables false
theorem law_true (s : au) (wd : Int) (pre ind : au) (sk : Bool) (w : World) (hW : Wok w) :
  Calls Tryz.prog 3 #[.string s, .agg #[.int .i64 wd, .string pre, .string ind, .bool sk]] w fun e w' => e = .returned (.bool true) ∧ Below w.heap.size w w' := by
 by_cases hz : 2147483647 < s.size
 ·exact law_big s wd pre ind sk w hz
 rcases text_cases s with ⟨D, K, y0, y1, y2, y3, h⟩ | ⟨hs, hP0, D, K, p, hD, hpl, hI, _, K', hK⟩
 ·exact law_calls s wd pre ind sk false ⟨y0, y1, y2, y3⟩ w hW (by omega) (fun w => bZ.calls _ _ _ _ _ _ _ _ w h) (fun h => by cases h) (fun h => by cases h) (fun h => by cases h)
 have hn : Small s := by unfold Small; omega
 obtain ⟨h0, hB, hlt, hle, hR, hV, hVR⟩ := places_inv hn hpl
 have hpb := (hB.lex (by omega)).paired hn hP0
 obtain ⟨e1, e2, e3, e4, e5, e6⟩ := valo_each hn (value_lex hn (D - 1)) hV h0 (by omega) hle hpb
 have hU := fit_of hn hs (D + 1) p hVR hpb hlt hle UqC (fun t a b c => uniq_step a b c)
 refine law_calls s wd pre ind sk true (treeO s p) w hW (by omega) (fun w => bZ.calls _ _ _ _ _ _ _ _ w hK) (fun _ => hU) (fun _ => by rw [hI.f2, List.length_map]; omega) ?_
 intro _ Pf hf hp hi _ hes hu w hW
 have hno : ∀ q : Int, 0 ≤ q → q < s.size → bt s q ≠ 92 := fun q a b => by
  rw [← jl_bt a, jl_at]; exact hes q.toNat (by omega)
 rw [hI.f0] at hf
 obtain ⟨hu1, hu2⟩ : (∀ x y, x < (treeO s p).f2.length → y < (treeO s p).f2.length → x ≠ y → (treeO s p).f2.getD x ⟨#[]⟩ ≠ (treeO s p).f2.getD y ⟨#[]⟩) ∧ (∀ k ∈ (treeO s p).f3, UqT k) := by
  generalize treeO s p = t at hu
  cases hu with
  | mk _ a b => exact ⟨a, b⟩
 rw [hI.f3] at hu2
 rw [hI.f2] at hu1
 have hDf := diff_of hn hno e2 (by simpa using hu1)
 have hw : ∀ q ∈ p.f4, (q.f2 < s.size → Stop (bt s q.f2)) → JV (bytesOf s) (D - 1) q.f1.toNat q.f2.toNat := fun q hq eT => by
  obtain ⟨a1, a2, a3, a4, _⟩ := e1 q hq
  exact jv_of hn hs hno (D - 1) q a1 a2 a3 a4 eT (hu2 _ (List.mem_map.2 ⟨q, hq, rfl⟩)) (D - 1) (Nat.le_refl _)
 rcases hV with ⟨_, hc, hm⟩ | ⟨h6, _⟩ | ⟨h6, _⟩ | ⟨h6, _⟩ | ⟨_, _, _, h6⟩
 rotate_left
 ·omega
 ·omega
 ·omega
 ·omega
 obtain ⟨k', b1, b2, b3, b4, b5, b6⟩ := obj_of hno h0 (by omega) hc hm hw hDf
 refine (ppretty_calls Pf hp hi w p.f1.toNat k' (p.f3.map (nmL s)) (blk_of (by omega) hB) b1 b2 b4 b5 hDf b6).mono ?_
 rintro e w' ⟨out, rfl, ho, hl, hb⟩
 refine ⟨_, rfl, hb, fun w2 hW2 => ?_⟩
 rw [show (treeO s p).f2.length = (p.f3.map (nmL s)).length by rw [hI.f2, List.length_map, List.length_map]]
 exact sorted_items ho hp hl (by rw [List.length_map]; omega) w2 hW2
end Go.Proofs.YtmpdhdnoohmndaaGreatDoor.Pr

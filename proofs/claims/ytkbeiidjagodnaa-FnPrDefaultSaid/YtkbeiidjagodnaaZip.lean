-- written by a program of this session (wip/tools/zip.py), for this seat
/- Blocks of tactics that close a side goal, each typed once; its name stands where it serves. -/
import Derived.Below
import Derived.Deep.Draws
import Derived.Deep.AppendLies
import Derived.Maps.AppendAt
import Derived.OwnWalk
import Derived.Laws.BytesArg
import Derived.Laws.MakeOwn
import Derived.Laws.OwnMore
import Derived.Deep.OwnRows
import Derived.Tactics
import Derived.Lib.ConvBytes
import Derived.Laws.Slices
import Derived.WalkKit
import Derived.KernelRfl
import Derived.RowKit3
import Derived.Deep.LoopGhost
import Derived.Deep.QuietTactic
import Derived.BigQuiet
import Derived.WideLaws
import Derived.Deep.DeepCutAuto
import Derived.Deep.CutBlock
import Derived.Deep.RegionHeld3
import Derived.Laws.Rows
import Derived.Lib.AppendStr
import Derived.ArgAppend
import Derived.Laws.IdiomCopy
import Derived.OrdersHeld
import Derived.Laws.BitsLemmas
import Derived.RowKit
import Derived.Test.YtkbeiidjagodnaaWWords
import Derived.Test.YtkbeiidjagodnaaWLast
import Derived.Test.YtkbeiidjagodnaaWQPut
import Derived.Test.YtkbeiidjagodnaaWApart
import Derived.Test.YtkbeiidjagodnaaWArr
import Derived.Test.YtkbeiidjagodnaaWRepsOne
import Derived.Test.YtkbeiidjagodnaaWZeros
import Derived.Test.YtkbeiidjagodnaaWFoot
import Derived.Test.YtkbeiidjagodnaaWKept
import Derived.Test.YtkbeiidjagodnaaWShare
import Derived.Test.YtkbeiidjagodnaaWN
import Derived.Test.YtkbeiidjagodnaaWGuard
import Derived.Test.YtkbeiidjagodnaaWNEv
import Derived.Test.YtkbeiidjagodnaaWMore
import Derived.Test.YtkbeiidjagodnaaMyWords
namespace Go.Proofs.Ytkbeiidjagodnaa.Pr
set_option linter.unusedVariables false
theorem Z0 {p : Prop} (h : p := by repeat (first | (with_reducible first | exact HI0.out | apply IsS47.alloc | apply IsS47.drewN | apply IsS47.drew | apply IsS47.set_0 | apply IsS47.set_1) | exact HI0.out)) : p := h
theorem Z1 {p : Prop} (h : p := by repeat (first | (with_reducible first | exact HK.out | apply KeepBut.set_ | apply keep_drewN | apply keep_drew | apply keep_alloc) | exact HK.out)) : p := h
theorem Z2 {p : Prop} (h : p := by repeat (first | (with_reducible first | exact HB.out | apply below_alloc | apply pw_below_drewN | apply below_drew1 | refine below_set ?_ (IsS47.ge HI0.out)) | exact HB.out)) : p := h
theorem Z3 {p : Prop} (h : p := by repeat (first | (with_reducible first | exact HK.out | apply Kept.alloc | apply Kept.drewN | apply Kept.drew) | exact HK.out)) : p := h
theorem Z4 {p : Prop} (h : p := by repeat (first | (with_reducible first | exact HB.out | apply below_alloc | apply pw_below_drewN | apply below_drew1) | exact HB.out)) : p := h
theorem Z5 {p : Prop} (h : p := by (try simp only [List.map_toArray, List.map_cons, List.map_nil]); first | done | rfl | (simp only [List.length_drop, List.length_take]; rfl)) : p := h
theorem Z6 {p : Prop} (h : p := by first | (with_reducible assumption) | assumption) : p := h
theorem Z7 {p : Prop} (h : p := by repeat (first | (with_reducible first | exact HK.out | apply Kept.alloc | apply Kept.drewN | apply Kept.drew | refine Kept.setCell ?_ (.inr GW441.out) _) | exact HK.out)) : p := h
theorem Z8 {p : Prop} (h : p := by repeat (first | (with_reducible first | exact HI0.out | apply IsS47.alloc | apply IsS47.drewN | apply IsS47.drew | apply IsS47.set_0 | apply IsS47.set_1 | refine IsS47.far ?_ NB0_146.out _) | exact HI0.out)) : p := h
theorem Z9 {p : Prop} (h : p := by repeat (first | (with_reducible first | exact HI0.out | apply IsS47.alloc | apply IsS47.drewN | apply IsS47.drew | apply IsS47.set_0 | apply IsS47.set_1 | refine IsS47.far ?_ NB0_230.out _ | refine IsS47.far ?_ NB0_231.out _) | exact HI0.out)) : p := h
theorem Z10 {p : Prop} (h : p := by repeat (first | (with_reducible first | exact HB.out | apply below_alloc | apply pw_below_drewN | apply below_drew1 | refine below_set ?_ (IsS47.ge HI0.out) | refine below_set ?_ GE230.out | refine below_set ?_ GE231.out) | exact HB.out)) : p := h
theorem Z11 {p : Prop} (h : p := by repeat (first | (with_reducible first | exact HK.out | apply KeepBut.set_ | apply keep_drewN | apply keep_drew | apply keep_alloc | refine keep_far ?_ GW230.out _ | refine keep_far ?_ GW231.out _) | exact HK.out)) : p := h
theorem Z12 {p : Prop} (h : p := by first | rfl | (simp [errW_none, errW_some] <;> rfl) | (simp [*, errW_none, errW_some] <;> rfl)) : p := h
theorem Z13 {p : Prop} (h : p := by repeat (first | (with_reducible first | exact HB.out | apply below_alloc | apply pw_below_drewN | apply below_drew1 | refine below_set ?_ GE441.out) | exact HB.out)) : p := h
theorem Z14 {p : Prop} (h : p := by repeat (first | (with_reducible first | exact HI0.out | apply IsS47.alloc | apply IsS47.drewN | apply IsS47.drew | apply IsS47.set_0 | apply IsS47.set_1 | refine IsS47.far ?_ NB0_177.out _) | exact HI0.out)) : p := h
theorem Z15 {p : Prop} (h : p := by first | rfl | (simp; done) | (simp [*]; done)) : p := h
theorem Z16 {p : Prop} (h : p := by (with_reducible repeat (first | apply Kd.R_alloc | apply Kd.R_drewN | apply Kd.R_drew)); exact HO_0.out) : p := h
theorem Z17 {p : Prop} (h : p := by (with_reducible repeat (first | apply Kd.R_alloc | apply Kd.R_drewN | apply Kd.R_drew)); exact HO126.out) : p := h
theorem Z18 {p : Prop} (h : p := by first | exact Kd.R_nil _ _ _ _ _ | exact Kd.N_nil _ _ _ _ _ | exact Kd.V_nil _ _ _ _ _ | exact Kd.Q_nil _ _ _ _ _ | exact Kd.S_nil _ _ _ _ _) : p := h
theorem Z19 {p : Prop} (h : p := by repeat (first | (with_reducible first | exact HK.out | apply KeepBut.set_ | apply keep_drewN | apply keep_drew | apply keep_alloc | refine keep_far ?_ GW177.out _) | exact HK.out)) : p := h
theorem Z20 {p : Prop} (h : p := by repeat (first | (with_reducible first | exact HK.out | apply KeepBut.set_ | apply keep_drewN | apply keep_drew | apply keep_alloc | refine keep_far ?_ GW146.out _) | exact HK.out)) : p := h
theorem Z21 {p : Prop} (h : p := by repeat (first | (with_reducible first | exact HB.out | apply below_alloc | apply pw_below_drewN | apply below_drew1 | refine below_set ?_ (IsS47.ge HI0.out) | refine below_set ?_ GE177.out) | exact HB.out)) : p := h
theorem Z22 {p : Prop} (h : p := by repeat (first | (with_reducible first | exact HB.out | apply below_alloc | apply pw_below_drewN | apply below_drew1 | refine below_set ?_ (IsS47.ge HI0.out) | refine below_set ?_ GE146.out) | exact HB.out)) : p := h
theorem Z23 {p : Prop} (h : p := by (with_reducible repeat (first | refine blk_drewN ?_ _ | refine blk_drew ?_ | refine blk_alloc ?_ _)); refine blk_put (cs := #[.int .i64 0, .int .i64 s0_1, .int .i64 0, .slice none 0 0, .slice none 0 0]) ?_ 4 _ rfl; (with_reducible repeat (first | refine blk_drewN ?_ _ | refine blk_drew ?_ | refine blk_alloc ?_ _)); refine blk_put (cs := #[.int .i64 0, .int .i64 s0_1, .int .i64 0, .slice none 0 0, .slice none 0 0]) ?_ 3 _ rfl; (with_reducible repeat (first | refine blk_drewN ?_ _ | refine blk_drew ?_ | refine blk_alloc ?_ _)); refine blk_put (cs := #[.int .i64 0, .int .i64 s0_1, .int .i64 0, .slice none 0 0, .slice none 0 0]) ?_ 2 _ rfl; (with_reducible repeat (first | refine blk_drewN ?_ _ | refine blk_drew ?_ | refine blk_alloc ?_ _)); refine blk_put (cs := #[.int .i64 0, .int .i64 0, .int .i64 0, .slice none 0 0, .slice none 0 0]) ?_ 1 _ rfl; (with_reducible repeat (first | refine blk_drewN ?_ _ | refine blk_drew ?_ | refine blk_alloc ?_ _)); refine blk_put (cs := #[.int .i64 0, .int .i64 0, .int .i64 0, .slice none 0 0, .slice none 0 0]) ?_ 0 _ rfl; (with_reducible repeat (first | refine blk_drewN ?_ _ | refine blk_drew ?_ | refine blk_alloc ?_ _)); exact BK231.out) : p := h
theorem Z24 {p : Prop} (h : p := by first | exact HK.out.1 | exact (show Kept w _ (fun k_ => P0_ k_) from Z3).1) : p := h
theorem Z25 {p : Prop} (h : p := by (with_reducible repeat (first | apply Kd.R_alloc | apply Kd.R_drewN | apply Kd.R_drew)); exact HO_6.out) : p := h
theorem Z26 {p : Prop} (h : p := by (with_reducible repeat (first | apply Kd.R_alloc | apply Kd.R_drewN | apply Kd.R_drew)); first | exact HO_0.out | exact Kd.V_len HO_0.out) : p := h
theorem Z27 {p : Prop} (h : p := by (with_reducible repeat (first | refine blk_drewN ?_ _ | refine blk_drew ?_ | refine blk_alloc ?_ _)); exact BK230.out) : p := h
theorem Z28 {p : Prop} (h : p := by rw [if_neg (show ¬ (false = true) by decide)] at H; exact H) : p := h
theorem Z29 {p : Prop} (h : p := by (try simp only [hl1_3]); (with_reducible repeat (first | apply Kd.R_alloc | apply Kd.R_drewN | apply Kd.R_drew)); first | exact HO_34.out | exact Kd.V_len HO_34.out) : p := h
theorem Z30 {p : Prop} (h : p := by repeat (first | (with_reducible first | exact HI0.out | apply IsS47.alloc | apply IsS47.drewN | apply IsS47.drew | apply IsS47.set_0 | apply IsS47.set_1 | refine IsS47.far ?_ NB0_230.out _) | exact HI0.out)) : p := h
theorem Z31 {p : Prop} (h : p := by (with_reducible repeat (first | refine blk_drewN ?_ _ | refine blk_drew ?_ | refine blk_alloc ?_ _)); refine blk_far ?_ NB230_231.out _; (with_reducible repeat (first | refine blk_drewN ?_ _ | refine blk_drew ?_ | refine blk_alloc ?_ _)); refine blk_far ?_ NB230_231.out _; (with_reducible repeat (first | refine blk_drewN ?_ _ | refine blk_drew ?_ | refine blk_alloc ?_ _)); refine blk_far ?_ NB230_231.out _; (with_reducible repeat (first | refine blk_drewN ?_ _ | refine blk_drew ?_ | refine blk_alloc ?_ _)); refine blk_far ?_ NB230_231.out _; (with_reducible repeat (first | refine blk_drewN ?_ _ | refine blk_drew ?_ | refine blk_alloc ?_ _)); refine blk_far ?_ NB230_231.out _; (with_reducible repeat (first | refine blk_drewN ?_ _ | refine blk_drew ?_ | refine blk_alloc ?_ _)); exact BK230.out) : p := h
theorem Z32 {p : Prop} (h : p := by repeat (first | (with_reducible first | exact HK.out | apply KeepBut.set_ | apply keep_drewN | apply keep_drew | apply keep_alloc | refine keep_far ?_ GW230.out _) | exact HK.out)) : p := h
theorem Z33 {p : Prop} (h : p := by (with_reducible repeat (first | refine blk_drewN ?_ _ | refine blk_drew ?_ | refine blk_alloc ?_ _)); refine blk_put (cs := #[.int .i64 0, .int .i64 s0_1, .int .i64 0, .slice none 0 0, .slice none 0 0]) ?_ 0 _ rfl; (with_reducible repeat (first | refine blk_drewN ?_ _ | refine blk_drew ?_ | refine blk_alloc ?_ _)); exact BK231.out) : p := h
theorem Z34 {p : Prop} (h : p := by (with_reducible repeat (first | apply Kd.V_alloc | apply Kd.V_drewN | apply Kd.V_drew)); first | exact HO_1.out | exact Kd.V_len HO_1.out) : p := h
theorem Z35 {p : Prop} (h : p := by (with_reducible repeat (first | refine blk_drewN ?_ _ | refine blk_drew ?_ | refine blk_alloc ?_ _)); exact BK177.out) : p := h
theorem Z36 {p : Prop} (h : p := by (with_reducible repeat (first | refine blk_drewN ?_ _ | refine blk_drew ?_ | refine blk_alloc ?_ _)); exact BK146.out) : p := h
theorem Z37 {p : Prop} (h : p := by (with_reducible repeat (first | refine blk_drewN ?_ _ | refine blk_drew ?_ | refine blk_alloc ?_ _)); exact BK441.out) : p := h
theorem Z38 {p : Prop} (h : p := by (try simp only [hl1_3]); (try simp only [hl1_122]); (with_reducible repeat (first | apply Kd.R_alloc | apply Kd.R_drewN | apply Kd.R_drew)); first | exact HO_34.out | exact Kd.V_len HO_34.out) : p := h
theorem Z39 {p : Prop} (h : p := by (try simp only [hl1_3]); (with_reducible repeat (first | apply Kd.R_alloc | apply Kd.R_drewN | apply Kd.R_drew)); first | exact HO_0.out | exact Kd.V_len HO_0.out) : p := h
theorem Z40 {p : Prop} (h : p := by (with_reducible repeat (first | apply Kd.R_alloc | apply Kd.R_drewN | apply Kd.R_drew)); exact HO_34.out) : p := h
theorem Z41 {p : Prop} (h : p := by first | (go_simp; done) | (go_simp; rfl)) : p := h
theorem Z42 {p : Prop} (h : p := by exact (fun k_ hk => (.inr (Nat.le_trans Z24 hk)))) : p := h
theorem Z43 {p : Prop} (h : p := by (with_reducible repeat (first | refine blk_drewN ?_ _ | refine blk_drew ?_ | refine blk_alloc ?_ _)); refine blk_far ?_ NB230_231.out _; (with_reducible repeat (first | refine blk_drewN ?_ _ | refine blk_drew ?_ | refine blk_alloc ?_ _)); exact BK230.out) : p := h
theorem Z44 {p : Prop} (h : p := by (with_reducible repeat (first | refine blk_drewN ?_ _ | refine blk_drew ?_ | refine blk_alloc ?_ _)); exact BK231.out) : p := h
theorem Z45 {p : Prop} (h : p := by (try simp only [hl1_3]); (try simp only [hl1_122]); (with_reducible repeat (first | refine blk_drewN ?_ _ | refine blk_drew ?_ | refine blk_alloc ?_ _)); exact BK441.out) : p := h
theorem Z46 {p : Prop} (h : p := by (with_reducible repeat (first | apply Kd.R_alloc | apply Kd.R_drewN | apply Kd.R_drew)); exact HO_4.out) : p := h
theorem Z47 {p : Prop} (h : p := by rw [if_pos rfl] at H; exact H) : p := h
theorem Z48 {p : Prop} (h : p := by repeat (first | exact Drawn0.refl _ | apply Drawn0.step)) : p := h
theorem Z49 {p : Prop} (h : p := by (try simp only [hl1_3]); (with_reducible repeat (first | apply Kd.V_alloc | apply Kd.V_drewN | apply Kd.V_drew)); first | exact HO_1.out | exact Kd.V_len HO_1.out) : p := h
theorem Z50 {p : Prop} (h : p := by (try simp only [hl1_3]); (try simp only [hl1_122]); (with_reducible repeat (first | apply Kd.R_alloc | apply Kd.R_drewN | apply Kd.R_drew)); first | exact HO_0.out | exact Kd.V_len HO_0.out) : p := h
theorem Z51 {p : Prop} (h : p := by repeat (first | (with_reducible first | exact HB3.out | apply below_alloc | apply pw_below_drewN | apply below_drew1) | exact HB3.out)) : p := h
theorem Z52 {p : Prop} (h : p := by (with_reducible repeat (first | apply Kd.R_alloc | apply Kd.R_drewN | apply Kd.R_drew)); exact HO180.out) : p := h
theorem Z53 {p : Prop} (h : p := by (with_reducible repeat (first | apply Kd.R_alloc | apply Kd.R_drewN | apply Kd.R_drew)); exact HO149.out) : p := h
theorem Z54 {p : Prop} (h : p := by first | exact HK.out.1 | exact (show Kept w _ (fun k_ => P0_ k_) from Z7).1) : p := h
theorem Z55 {p : Prop} (h : p := by (with_reducible repeat (first | apply Kd.R_alloc | apply Kd.R_drewN | apply Kd.R_drew)); exact HO0.out) : p := h
theorem Z56 {p : Prop} (h : p := by (with_reducible repeat (first | apply Kd.R_alloc | apply Kd.R_drewN | apply Kd.R_drew)); exact HO_5.out) : p := h
theorem Z57 {p : Prop} (h : p := by first | omega | exact Nat.le_refl _) : p := h
theorem Z58 {p : Prop} (h : p := by repeat (first | (with_reducible first | exact HB.out | apply below_alloc | apply pw_below_drewN | apply below_drew1 | refine below_set ?_ (IsS47.ge HI0.out) | refine below_set ?_ GE230.out) | exact HB.out)) : p := h
theorem Z59 {p : Prop} (h : p := by (with_reducible repeat (first | apply Kd.V_alloc | apply Kd.V_drewN | apply Kd.V_drew)); exact HO_1.out) : p := h
theorem Z60 {p : Prop} (h : p := by (try simp only [hl1_3]); (with_reducible repeat (first | apply Kd.V_alloc | apply Kd.V_drewN | apply Kd.V_drew)); exact Kd.V_mono HO_1.out (fun _ hk => ⟨hk.1, ⟨hk.2.2.2, ⟨hk.2.1, hk.2.2.1⟩⟩⟩)) : p := h
theorem Z61 {p : Prop} (h : p := by exact k25_mkM _ _ _ (⟨t134, t135, t136, t137, t140⟩ : S25) (Kd.R_mono (Kd.R_types (Kd.R_apart' (HO139.out) (Kd.R_typed HO_6.out) (by decide)) BK146.out (by decide)) (fun k_ hk => ⟨⟨hk.1.1, hk.2⟩, hk.1.2⟩)) (Kd.R_mono (HO142.out) (fun k_ hk => ⟨⟨hk.2.1, hk.2.2.2⟩, hk.1⟩))) : p := h
theorem Z62 {p : Prop} (h : p := by (with_reducible repeat (first | apply Kd.R_alloc | apply Kd.R_drewN | apply Kd.R_drew)); exact Kd.R_mono HO_6.out (fun _ hk => ⟨trivial, hk⟩)) : p := h
theorem Z63 {p : Prop} (h : p := by (try simp only [hl1_3]); (try simp only [hl1_122]); (with_reducible repeat (first | apply Kd.V_alloc | apply Kd.V_drewN | apply Kd.V_drew)); first | exact HO_1.out | exact Kd.V_len HO_1.out) : p := h
theorem Z64 {p : Prop} (h : p := by (try simp only [hl1_3]); (with_reducible repeat (first | refine blk_drewN ?_ _ | refine blk_drew ?_ | refine blk_alloc ?_ _)); exact BK441.out) : p := h
theorem Z65 {p : Prop} (h : p := by (with_reducible repeat (first | apply Kd.V_alloc | apply Kd.V_drewN | apply Kd.V_drew)); exact Kd.V_mono HO_1.out (fun _ hk => ⟨⟨hk.1.1, ⟨hk.1.2.2, hk.2⟩⟩, hk.1.2.1⟩)) : p := h
theorem Z66 {p : Prop} (h : p := by exact k25_mkM _ _ _ (⟨t165, t166, t167, t168, t171⟩ : S25) (Kd.R_mono (Kd.R_types (Kd.R_apart' (HO170.out) (Kd.R_typed HO_4.out) (by decide)) BK177.out (by decide)) (fun k_ hk => ⟨hk.2, hk.1.2⟩)) (Kd.R_mono (HO173.out) (fun k_ hk => ⟨hk.2.2, hk.1⟩))) : p := h
theorem Z67 {p : Prop} (h : p := by have := HJ13.out; have := HJ42.out; have := HK3.out; have := HJ109.out; have := HJ112.out; have := HJ122.out; have := HJ153.out; have := HJ167.out; have := HJ172.out; omega) : p := h
theorem Z68 {p : Prop} (h : p := by have := HJ13.out; have := HJ42.out; have := HK3.out; have := HJ109.out; have := HJ112.out; first | omega | exact Nat.le_refl _) : p := h
theorem Z69 {p : Prop} (h : p := by (with_reducible repeat (first | apply Kd.V_alloc | apply Kd.V_drewN | apply Kd.V_drew)); exact Kd.V_mono HO_1.out (fun _ hk => ⟨⟨hk.1, hk.2.2⟩, hk.2.1⟩)) : p := h
theorem Z70 {p : Prop} (h : p := by exact Kd.R_mono (by (with_reducible repeat (first | apply Kd.R_alloc | apply Kd.R_drewN | apply Kd.R_drew)); exact HR3.out) (fun _ _ => trivial)) : p := h
theorem Z71 {p : Prop} (h : p := by (with_reducible repeat (first | apply Kd.V_alloc | apply Kd.V_drewN | apply Kd.V_drew)); exact HO1.out) : p := h
theorem Z72 {p : Prop} (h : p := by have hq := HR4.out; rw [show (r1 ++ [10] : List Int).length = r1.length + 1 by simp] at hq; exact Kd.R_mono hq (fun _ _ => trivial)) : p := h
theorem Z73 {p : Prop} (h : p := by (try simp only [hl1_3]); (try simp only [hl1_122]); (with_reducible repeat (first | apply Kd.V_alloc | apply Kd.V_drewN | apply Kd.V_drew)); exact Kd.V_mono (Kd.V_far (p := ⟨gb441, 3, none⟩) (Kd.V_mono HO_1.out (fun k_ hk => (⟨hk, hk.2.2.2⟩ : _ ∧ k_ ≠ gb441))) (fun _ hk => hk.2) (.int .i64 (t471.length : Int))) (fun _ hk => ⟨hk.1.1, ⟨hk.1.2.1, hk.1.2.2.1⟩⟩)) : p := h
theorem Z74 {p : Prop} (h : p := by (try simp only [hl1_3]); (with_reducible repeat (first | apply Kd.V_alloc | apply Kd.V_drewN | apply Kd.V_drew)); exact Kd.V_mono HO_1.out (fun _ hk => ⟨hk.1.1, ⟨hk.2, hk.1.2⟩⟩)) : p := h
theorem Z75 {p : Prop} (h : p := by have := HJ13.out; have := HJ42.out; have := HK3.out; have := HJ109.out; have := HJ112.out; have := HJ122.out; have := HJ153.out; have := HJ167.out; first | omega | exact Nat.le_refl _) : p := h
theorem Z76 {p : Prop} (h : p := by have := (Array.getElem?_eq_some_iff.1 HZ.out).1; omega) : p := h
theorem Z77 {p : Prop} (h : p := by (try simp only [hl1_3]); (try simp only [hl1_122]); (with_reducible repeat (first | apply Kd.R_alloc | apply Kd.R_drewN | apply Kd.R_drew)); exact Kd.R_mono (Kd.R_far (p := ⟨gb441, 3, none⟩) (Kd.R_mono HO_34.out (fun k_ hk => (⟨hk, hk.2⟩ : _ ∧ k_ ≠ gb441))) (fun _ hk => hk.2) (.int .i64 (t471.length : Int))) (fun _ hk => hk.1.1)) : p := h
theorem Z78 {p : Prop} (h : p := by (with_reducible repeat (first | refine blk_drewN ?_ _ | refine blk_drew ?_ | refine blk_alloc ?_ _)); refine blk_put (cs := #[.int .i64 x442000_122, .int .i64 x442001_153, .int .i64 x442002_122, .int .i64 0]) ?_ 3 _ rfl; (with_reducible repeat (first | refine blk_drewN ?_ _ | refine blk_drew ?_ | refine blk_alloc ?_ _)); exact BK441.out) : p := h
theorem Z79 {p : Prop} (h : p := by (with_reducible repeat (first | apply Kd.V_alloc | apply Kd.V_drewN | apply Kd.V_drew)); exact Kd.V_mono HO_1.out (fun _ hk => ⟨⟨hk.1.1, hk.2⟩, hk.1.2⟩)) : p := h
theorem Z80 {p : Prop} (h : p := by have := HJ13.out; have := HJ42.out; have := HK3.out; have := HJ109.out; first | omega | exact Nat.le_refl _) : p := h
theorem Z81 {p : Prop} (h : p := by exact (by (with_reducible repeat (first | apply Kd.R_alloc | apply Kd.R_drewN | apply Kd.R_drew)); exact Kd.R_mono HO_6.out (fun _ hk => ⟨hk.1, hk.2.2.2⟩))) : p := h
theorem Z82 {p : Prop} (h : p := by (try simp only [hl1_3]); (try simp only [hl1_122]); (with_reducible repeat (first | apply Kd.R_alloc | apply Kd.R_drewN | apply Kd.R_drew)); exact Kd.R_mono (Kd.R_far (p := ⟨gb441, 3, none⟩) (Kd.R_types HO_0.out BK441.out (by decide)) (fun _ hk => hk.2) (.int .i64 (t471.length : Int))) (fun _ hk => hk.1)) : p := h
theorem Z83 {p : Prop} (h : p := by (with_reducible repeat (first | apply Kd.R_alloc | apply Kd.R_drewN | apply Kd.R_drew)); exact HO461.out) : p := h
theorem Z84 {p : Prop} (h : p := by (with_reducible repeat (first | apply Kd.R_alloc | apply Kd.R_drewN | apply Kd.R_drew)); exact HO173.out) : p := h
theorem Z85 {p : Prop} (h : p := by (with_reducible repeat (first | apply Kd.R_alloc | apply Kd.R_drewN | apply Kd.R_drew)); exact HO170.out) : p := h
theorem Z86 {p : Prop} (h : p := by (with_reducible repeat (first | apply Kd.R_alloc | apply Kd.R_drewN | apply Kd.R_drew)); exact HO142.out) : p := h
theorem Z87 {p : Prop} (h : p := by (with_reducible repeat (first | apply Kd.R_alloc | apply Kd.R_drewN | apply Kd.R_drew)); exact HO139.out) : p := h
theorem Z88 {p : Prop} (h : p := by have := HK1.out; first | omega | exact Nat.le_refl _) : p := h
theorem Z89 {p : Prop} (h : p := by have := HJ13.out; have := HJ42.out; have := HK3.out; have := HJ109.out; have := HJ112.out; have := HJ122.out; first | omega | exact Nat.le_refl _) : p := h
theorem Z90 {p : Prop} (h : p := by exact (by (with_reducible repeat (first | apply Kd.R_alloc | apply Kd.R_drewN | apply Kd.R_drew)); exact Kd.R_mono HO_4.out (fun _ hk => hk.2.2))) : p := h
theorem Z91 {p : Prop} (h : p := by have := HX.out; simp only [maxLen]; omega) : p := h
theorem Z92 {p : Prop} (h : p := by have := HJ13.out; have := HJ42.out; have := HK3.out; first | omega | exact Nat.le_refl _) : p := h
theorem Z93 {p : Prop} (h : p := by have := HR.out.1 B e_.symm; have := (Array.getElem?_eq_some_iff.1 HZ.out).1; omega) : p := h
theorem Z94 {p : Prop} (h : p := by (try simp only [hl1_3]); (try simp only [hl1_122]); (with_reducible repeat (first | apply Kd.V_alloc | apply Kd.V_drewN | apply Kd.V_drew)); exact Kd.V_mono HO_1.out (fun _ hk => ⟨hk.1.1, ⟨hk.2, ⟨hk.1.2.1, hk.1.2.2⟩⟩⟩)) : p := h
theorem Z95 {p : Prop} (h : p := by (try simp only [hl1_3]); (try simp only [hl1_122]); (with_reducible repeat (first | apply Kd.V_alloc | apply Kd.V_drewN | apply Kd.V_drew)); exact Kd.V_mono HO_1.out (fun _ hk => ⟨hk.1, ⟨hk.2.2.2, ⟨hk.2.1, hk.2.2.1⟩⟩⟩)) : p := h
theorem Z96 {p : Prop} (h : p := by exact Kd.V_mono (HO_1.out) (fun k_ hk_ => ⟨hk_, hk_.2⟩)) : p := h
theorem Z97 {p : Prop} (h : p := by simp [Value.ownBlock] at hk; omega) : p := h
end Go.Proofs.Ytkbeiidjagodnaa.Pr

-- written by a program of this session (wip/tools/zip.py), for this seat
/- Blocks of tactics that close a side goal, each typed once; its name stands where it serves. -/
import Derived.Below
import Derived.Deep.Draws
import Derived.Deep.AppendLies
import Derived.Maps.AppendAt
import Derived.OwnWalk
import Derived.Laws.BytesArg
import Derived.Laws.MakeOwn
import Derived.Laws.OwnMore
import Derived.Deep.OwnRows
import Derived.Tactics
import Derived.Lib.ConvBytes
import Derived.Laws.Slices
import Derived.WalkKit
import Derived.KernelRfl
import Derived.RowKit3
import Derived.Deep.LoopGhost
import Derived.Deep.QuietTactic
import Derived.BigQuiet
import Derived.WideLaws
import Derived.Deep.DeepCutAuto
import Derived.Deep.CutBlock
import Derived.Deep.RegionHeld3
import Derived.Laws.Rows
import Derived.Lib.AppendStr
import Derived.ArgAppend
import Derived.Laws.IdiomCopy
import Derived.OrdersHeld
import Derived.Laws.BitsLemmas
import Derived.RowKit
import Derived.Test.YtkbeiidjagodnaaVall
namespace Go.Proofs.Ytkbeiidjagodnaa.Pr
set_option linter.unusedVariables false
theorem Z0 {p : Prop} (h : p := by repeat (first | (with_reducible first | exact HI0.out | apply IsS47.alloc | apply IsS47.drewN | apply IsS47.drew | apply IsS47.set_0 | apply IsS47.set_1) | exact HI0.out)) : p := h
theorem Z1 {p : Prop} (h : p := by repeat (first | (with_reducible first | exact HK.out | apply KeepBut.set_ | apply keep_drewN | apply keep_drew | apply keep_alloc) | exact HK.out)) : p := h
theorem Z2 {p : Prop} (h : p := by repeat (first | (with_reducible first | exact HB.out | apply below_alloc | apply pw_below_drewN | apply below_drew1) | exact HB.out)) : p := h
theorem Z3 {p : Prop} (h : p := by repeat (first | (with_reducible first | exact HB.out | apply below_alloc | apply pw_below_drewN | apply below_drew1 | refine below_set ?_ (IsS47.ge HI0.out)) | exact HB.out)) : p := h
theorem Z4 {p : Prop} (h : p := by repeat (first | (with_reducible first | exact HK.out | apply Kept.alloc | apply Kept.drewN | apply Kept.drew) | exact HK.out)) : p := h
theorem Z5 {p : Prop} (h : p := by (try simp only [List.map_toArray, List.map_cons, List.map_nil]); first | done | rfl | (simp only [List.length_drop, List.length_take]; rfl)) : p := h
theorem Z6 {p : Prop} (h : p := by first | (with_reducible assumption) | assumption) : p := h
theorem Z7 {p : Prop} (h : p := by first | rfl | (simp [errW_none, errW_some] <;> rfl) | (simp [*, errW_none, errW_some] <;> rfl)) : p := h
theorem Z8 {p : Prop} (h : p := by first | rfl | (simp; done) | (simp [*]; done)) : p := h
theorem Z9 {p : Prop} (h : p := by repeat (first | (with_reducible first | exact HK.out | apply Kept.alloc | apply Kept.drewN | apply Kept.drew | refine Kept.setCell ?_ (.inr GW441.out) _) | exact HK.out)) : p := h
theorem Z10 {p : Prop} (h : p := by repeat (first | (with_reducible first | exact HI0.out | apply IsS47.alloc | apply IsS47.drewN | apply IsS47.drew | apply IsS47.set_0 | apply IsS47.set_1 | refine IsS47.far ?_ NB0_146.out _) | exact HI0.out)) : p := h
theorem Z11 {p : Prop} (h : p := by repeat (first | (with_reducible first | exact HI0.out | apply IsS47.alloc | apply IsS47.drewN | apply IsS47.drew | apply IsS47.set_0 | apply IsS47.set_1 | refine IsS47.far ?_ NB0_230.out _ | refine IsS47.far ?_ NB0_231.out _) | exact HI0.out)) : p := h
theorem Z12 {p : Prop} (h : p := by repeat (first | (with_reducible first | exact HB.out | apply below_alloc | apply pw_below_drewN | apply below_drew1 | refine below_set ?_ (IsS47.ge HI0.out) | refine below_set ?_ GE230.out | refine below_set ?_ GE231.out) | exact HB.out)) : p := h
theorem Z13 {p : Prop} (h : p := by repeat (first | (with_reducible first | exact HK.out | apply KeepBut.set_ | apply keep_drewN | apply keep_drew | apply keep_alloc | refine keep_far ?_ GW230.out _ | refine keep_far ?_ GW231.out _) | exact HK.out)) : p := h
theorem Z14 {p : Prop} (h : p := by (with_reducible repeat (first | refine blk_drewN ?_ _ | refine blk_drew ?_ | refine blk_alloc ?_ _)); refine blk_put (cs := #[.int .i64 t700, .int .i64 t701, .int .i64 t702, .slice Ao16 t703.length co16, .slice none 0 0]) ?_ 4 _ rfl; (with_reducible repeat (first | refine blk_drewN ?_ _ | refine blk_drew ?_ | refine blk_alloc ?_ _)); refine blk_put (cs := #[.int .i64 t700, .int .i64 t701, .int .i64 t702, .slice none 0 0, .slice none 0 0]) ?_ 3 _ rfl; (with_reducible repeat (first | refine blk_drewN ?_ _ | refine blk_drew ?_ | refine blk_alloc ?_ _)); refine blk_put (cs := #[.int .i64 t700, .int .i64 t701, .int .i64 0, .slice none 0 0, .slice none 0 0]) ?_ 2 _ rfl; (with_reducible repeat (first | refine blk_drewN ?_ _ | refine blk_drew ?_ | refine blk_alloc ?_ _)); refine blk_put (cs := #[.int .i64 t700, .int .i64 0, .int .i64 0, .slice none 0 0, .slice none 0 0]) ?_ 1 _ rfl; (with_reducible repeat (first | refine blk_drewN ?_ _ | refine blk_drew ?_ | refine blk_alloc ?_ _)); refine blk_put (cs := #[.int .i64 0, .int .i64 0, .int .i64 0, .slice none 0 0, .slice none 0 0]) ?_ 0 _ rfl; (with_reducible repeat (first | refine blk_drewN ?_ _ | refine blk_drew ?_ | refine blk_alloc ?_ _)); exact BK710.out) : p := h
theorem Z15 {p : Prop} (h : p := by repeat (first | (with_reducible first | exact HB.out | apply below_alloc | apply pw_below_drewN | apply below_drew1 | refine below_set ?_ GE441.out) | exact HB.out)) : p := h
theorem Z16 {p : Prop} (h : p := by repeat (first | (with_reducible first | exact HI0.out | apply IsS47.alloc | apply IsS47.drewN | apply IsS47.drew | apply IsS47.set_0 | apply IsS47.set_1 | refine IsS47.far ?_ NB0_177.out _) | exact HI0.out)) : p := h
theorem Z17 {p : Prop} (h : p := by (with_reducible repeat (first | apply Kd.R_alloc | apply Kd.R_drewN | apply Kd.R_drew)); exact (Kd.R_mono (Kd.R_far (p := ⟨gb710, 4, none⟩) (Kd.R_far (p := ⟨gb710, 3, none⟩) (Kd.R_far (p := ⟨gb710, 2, none⟩) (Kd.R_far (p := ⟨gb710, 1, none⟩) (Kd.R_far (p := ⟨gb710, 0, none⟩) (Kd.R_mono HO708.out (fun k_ hk => (⟨hk, hk.2⟩ : _ ∧ k_ ≠ gb710))) (fun _ hk => hk.2) (.int .i64 t700)) (fun _ hk => hk.2) (.int .i64 t701)) (fun _ hk => hk.2) (.int .i64 t702)) (fun _ hk => hk.2) (.slice Ao16 t703.length co16)) (fun _ hk => hk.2) (.slice Ao17 t706.length co17)) (fun _ h_ => h_.1))) : p := h
theorem Z18 {p : Prop} (h : p := by (with_reducible repeat (first | apply Kd.R_alloc | apply Kd.R_drewN | apply Kd.R_drew)); exact (Kd.R_mono (Kd.R_far (p := ⟨gb710, 4, none⟩) (Kd.R_far (p := ⟨gb710, 3, none⟩) (Kd.R_far (p := ⟨gb710, 2, none⟩) (Kd.R_far (p := ⟨gb710, 1, none⟩) (Kd.R_far (p := ⟨gb710, 0, none⟩) (Kd.R_types HO705.out BK710.out (by decide)) (fun _ hk => hk.2) (.int .i64 t700)) (fun _ hk => hk.2) (.int .i64 t701)) (fun _ hk => hk.2) (.int .i64 t702)) (fun _ hk => hk.2) (.slice Ao16 t703.length co16)) (fun _ hk => hk.2) (.slice Ao17 t706.length co17)) (fun _ h_ => h_.1))) : p := h
theorem Z19 {p : Prop} (h : p := by (with_reducible repeat (first | refine blk_drewN ?_ _ | refine blk_drew ?_ | refine blk_alloc ?_ _)); refine blk_put (cs := #[.int .i64 t556, .int .i64 t557, .int .i64 t558, .slice Ao10 t559.length co10, .slice none 0 0]) ?_ 4 _ rfl; (with_reducible repeat (first | refine blk_drewN ?_ _ | refine blk_drew ?_ | refine blk_alloc ?_ _)); refine blk_put (cs := #[.int .i64 t556, .int .i64 t557, .int .i64 t558, .slice none 0 0, .slice none 0 0]) ?_ 3 _ rfl; (with_reducible repeat (first | refine blk_drewN ?_ _ | refine blk_drew ?_ | refine blk_alloc ?_ _)); refine blk_put (cs := #[.int .i64 t556, .int .i64 t557, .int .i64 0, .slice none 0 0, .slice none 0 0]) ?_ 2 _ rfl; (with_reducible repeat (first | refine blk_drewN ?_ _ | refine blk_drew ?_ | refine blk_alloc ?_ _)); refine blk_put (cs := #[.int .i64 t556, .int .i64 0, .int .i64 0, .slice none 0 0, .slice none 0 0]) ?_ 1 _ rfl; (with_reducible repeat (first | refine blk_drewN ?_ _ | refine blk_drew ?_ | refine blk_alloc ?_ _)); refine blk_put (cs := #[.int .i64 0, .int .i64 0, .int .i64 0, .slice none 0 0, .slice none 0 0]) ?_ 0 _ rfl; (with_reducible repeat (first | refine blk_drewN ?_ _ | refine blk_drew ?_ | refine blk_alloc ?_ _)); exact BK566.out) : p := h
theorem Z20 {p : Prop} (h : p := by (with_reducible repeat (first | apply Kd.R_alloc | apply Kd.R_drewN | apply Kd.R_drew)); exact HO_0.out) : p := h
theorem Z21 {p : Prop} (h : p := by (with_reducible repeat (first | apply Kd.R_alloc | apply Kd.R_drewN | apply Kd.R_drew)); exact HO126.out) : p := h
theorem Z22 {p : Prop} (h : p := by repeat (first | (with_reducible first | exact HB.out | apply below_alloc | apply pw_below_drewN | apply below_drew1 | refine below_set ?_ GE698.out | refine below_set ?_ GE710.out) | exact HB.out)) : p := h
theorem Z23 {p : Prop} (h : p := by first | exact Kd.R_nil _ _ _ _ _ | exact Kd.N_nil _ _ _ _ _ | exact Kd.V_nil _ _ _ _ _ | exact Kd.Q_nil _ _ _ _ _ | exact Kd.S_nil _ _ _ _ _) : p := h
theorem Z24 {p : Prop} (h : p := by repeat (first | (with_reducible first | exact HB.out | apply below_alloc | apply pw_below_drewN | apply below_drew1 | refine below_set ?_ GE566.out) | exact HB.out)) : p := h
theorem Z25 {p : Prop} (h : p := by (with_reducible repeat (first | refine blk_drewN ?_ _ | refine blk_drew ?_ | refine blk_alloc ?_ _)); refine blk_far ?_ NB698_710.out _; (with_reducible repeat (first | refine blk_drewN ?_ _ | refine blk_drew ?_ | refine blk_alloc ?_ _)); refine blk_far ?_ NB698_710.out _; (with_reducible repeat (first | refine blk_drewN ?_ _ | refine blk_drew ?_ | refine blk_alloc ?_ _)); refine blk_far ?_ NB698_710.out _; (with_reducible repeat (first | refine blk_drewN ?_ _ | refine blk_drew ?_ | refine blk_alloc ?_ _)); refine blk_far ?_ NB698_710.out _; (with_reducible repeat (first | refine blk_drewN ?_ _ | refine blk_drew ?_ | refine blk_alloc ?_ _)); refine blk_far ?_ NB698_710.out _; (with_reducible repeat (first | refine blk_drewN ?_ _ | refine blk_drew ?_ | refine blk_alloc ?_ _)); exact BK698.out) : p := h
theorem Z26 {p : Prop} (h : p := by repeat (first | (with_reducible first | exact HK.out | apply KeepBut.set_ | apply keep_drewN | apply keep_drew | apply keep_alloc | refine keep_far ?_ GW177.out _) | exact HK.out)) : p := h
theorem Z27 {p : Prop} (h : p := by repeat (first | (with_reducible first | exact HK.out | apply KeepBut.set_ | apply keep_drewN | apply keep_drew | apply keep_alloc | refine keep_far ?_ GW146.out _) | exact HK.out)) : p := h
theorem Z28 {p : Prop} (h : p := by repeat (first | (with_reducible first | exact HB.out | apply below_alloc | apply pw_below_drewN | apply below_drew1 | refine below_set ?_ (IsS47.ge HI0.out) | refine below_set ?_ GE177.out) | exact HB.out)) : p := h
theorem Z29 {p : Prop} (h : p := by repeat (first | (with_reducible first | exact HB.out | apply below_alloc | apply pw_below_drewN | apply below_drew1 | refine below_set ?_ (IsS47.ge HI0.out) | refine below_set ?_ GE146.out) | exact HB.out)) : p := h
theorem Z30 {p : Prop} (h : p := by (with_reducible repeat (first | refine blk_drewN ?_ _ | refine blk_drew ?_ | refine blk_alloc ?_ _)); refine blk_put (cs := #[.int .i64 0, .int .i64 s0_1, .int .i64 0, .slice none 0 0, .slice none 0 0]) ?_ 4 _ rfl; (with_reducible repeat (first | refine blk_drewN ?_ _ | refine blk_drew ?_ | refine blk_alloc ?_ _)); refine blk_put (cs := #[.int .i64 0, .int .i64 s0_1, .int .i64 0, .slice none 0 0, .slice none 0 0]) ?_ 3 _ rfl; (with_reducible repeat (first | refine blk_drewN ?_ _ | refine blk_drew ?_ | refine blk_alloc ?_ _)); refine blk_put (cs := #[.int .i64 0, .int .i64 s0_1, .int .i64 0, .slice none 0 0, .slice none 0 0]) ?_ 2 _ rfl; (with_reducible repeat (first | refine blk_drewN ?_ _ | refine blk_drew ?_ | refine blk_alloc ?_ _)); refine blk_put (cs := #[.int .i64 0, .int .i64 0, .int .i64 0, .slice none 0 0, .slice none 0 0]) ?_ 1 _ rfl; (with_reducible repeat (first | refine blk_drewN ?_ _ | refine blk_drew ?_ | refine blk_alloc ?_ _)); refine blk_put (cs := #[.int .i64 0, .int .i64 0, .int .i64 0, .slice none 0 0, .slice none 0 0]) ?_ 0 _ rfl; (with_reducible repeat (first | refine blk_drewN ?_ _ | refine blk_drew ?_ | refine blk_alloc ?_ _)); exact BK231.out) : p := h
theorem Z31 {p : Prop} (h : p := by rw [if_neg (show ¬ (false = true) by decide)] at H; exact H) : p := h
theorem Z32 {p : Prop} (h : p := by first | exact HK.out.1 | exact (show Kept w _ (fun k_ => P0_ k_) from Z4).1) : p := h
theorem Z33 {p : Prop} (h : p := by (with_reducible repeat (first | apply Kd.R_alloc | apply Kd.R_drewN | apply Kd.R_drew)); exact HO_6.out) : p := h
theorem Z34 {p : Prop} (h : p := by (with_reducible repeat (first | apply Kd.R_alloc | apply Kd.R_drewN | apply Kd.R_drew)); first | exact HO_0.out | exact Kd.V_len HO_0.out) : p := h
theorem Z35 {p : Prop} (h : p := by (with_reducible repeat (first | refine blk_drewN ?_ _ | refine blk_drew ?_ | refine blk_alloc ?_ _)); exact BK230.out) : p := h
theorem Z36 {p : Prop} (h : p := by (with_reducible repeat (first | apply Kd.N_alloc | apply Kd.N_drewN | apply Kd.N_drew)); exact Kd.N_mono (Kd.N_far (p := ⟨gb566, 4, none⟩) (Kd.N_far (p := ⟨gb566, 3, none⟩) (Kd.N_far (p := ⟨gb566, 2, none⟩) (Kd.N_far (p := ⟨gb566, 1, none⟩) (Kd.N_far (p := ⟨gb566, 0, none⟩) (Kd.N_mono HO564.out (fun k_ hk => (⟨hk, hk.2⟩ : _ ∧ k_ ≠ gb566))) (fun _ hk => hk.2) (.int .i64 t556)) (fun _ hk => hk.2) (.int .i64 t557)) (fun _ hk => hk.2) (.int .i64 t558)) (fun _ hk => hk.2) (.slice Ao10 t559.length co10)) (fun _ hk => hk.2) (.slice Ao11 t562.length co11)) (fun _ hk => ⟨hk.1.1, hk.1.2⟩)) : p := h
theorem Z37 {p : Prop} (h : p := by (with_reducible repeat (first | refine blk_drewN ?_ _ | refine blk_drew ?_ | refine blk_alloc ?_ _)); exact BK698.out) : p := h
theorem Z38 {p : Prop} (h : p := by (with_reducible repeat (first | apply Kd.R_alloc | apply Kd.R_drewN | apply Kd.R_drew)); exact Kd.R_mono (Kd.R_far (p := ⟨gb566, 4, none⟩) (Kd.R_far (p := ⟨gb566, 3, none⟩) (Kd.R_far (p := ⟨gb566, 2, none⟩) (Kd.R_far (p := ⟨gb566, 1, none⟩) (Kd.R_far (p := ⟨gb566, 0, none⟩) (Kd.R_types HO561.out BK566.out (by decide)) (fun _ hk => hk.2) (.int .i64 t556)) (fun _ hk => hk.2) (.int .i64 t557)) (fun _ hk => hk.2) (.int .i64 t558)) (fun _ hk => hk.2) (.slice Ao10 t559.length co10)) (fun _ hk => hk.2) (.slice Ao11 t562.length co11)) (fun _ hk => trivial)) : p := h
theorem Z39 {p : Prop} (h : p := by (try simp only [hl1_3]); (with_reducible repeat (first | apply Kd.R_alloc | apply Kd.R_drewN | apply Kd.R_drew)); first | exact HO_34.out | exact Kd.V_len HO_34.out) : p := h
theorem Z40 {p : Prop} (h : p := by repeat (first | (with_reducible first | exact HI0.out | apply IsS47.alloc | apply IsS47.drewN | apply IsS47.drew | apply IsS47.set_0 | apply IsS47.set_1 | refine IsS47.far ?_ NB0_230.out _) | exact HI0.out)) : p := h
theorem Z41 {p : Prop} (h : p := by repeat (first | (with_reducible first | exact HK.out | apply KeepBut.set_ | apply keep_drewN | apply keep_drew | apply keep_alloc | refine keep_far ?_ GW230.out _) | exact HK.out)) : p := h
theorem Z42 {p : Prop} (h : p := by (with_reducible repeat (first | refine blk_drewN ?_ _ | refine blk_drew ?_ | refine blk_alloc ?_ _)); exact BK566.out) : p := h
theorem Z43 {p : Prop} (h : p := by (with_reducible repeat (first | refine blk_drewN ?_ _ | refine blk_drew ?_ | refine blk_alloc ?_ _)); refine blk_far ?_ NB230_231.out _; (with_reducible repeat (first | refine blk_drewN ?_ _ | refine blk_drew ?_ | refine blk_alloc ?_ _)); refine blk_far ?_ NB230_231.out _; (with_reducible repeat (first | refine blk_drewN ?_ _ | refine blk_drew ?_ | refine blk_alloc ?_ _)); refine blk_far ?_ NB230_231.out _; (with_reducible repeat (first | refine blk_drewN ?_ _ | refine blk_drew ?_ | refine blk_alloc ?_ _)); refine blk_far ?_ NB230_231.out _; (with_reducible repeat (first | refine blk_drewN ?_ _ | refine blk_drew ?_ | refine blk_alloc ?_ _)); refine blk_far ?_ NB230_231.out _; (with_reducible repeat (first | refine blk_drewN ?_ _ | refine blk_drew ?_ | refine blk_alloc ?_ _)); exact BK230.out) : p := h
theorem Z44 {p : Prop} (h : p := by first | (go_simp; done) | (go_simp; rfl)) : p := h
theorem Z45 {p : Prop} (h : p := by (with_reducible repeat (first | refine blk_drewN ?_ _ | refine blk_drew ?_ | refine blk_alloc ?_ _)); refine blk_put (cs := #[.int .i64 0, .int .i64 s0_1, .int .i64 0, .slice none 0 0, .slice none 0 0]) ?_ 0 _ rfl; (with_reducible repeat (first | refine blk_drewN ?_ _ | refine blk_drew ?_ | refine blk_alloc ?_ _)); exact BK231.out) : p := h
theorem Z46 {p : Prop} (h : p := by (with_reducible repeat (first | apply Kd.V_alloc | apply Kd.V_drewN | apply Kd.V_drew)); first | exact HO_1.out | exact Kd.V_len HO_1.out) : p := h
theorem Z47 {p : Prop} (h : p := by (with_reducible repeat (first | refine blk_drewN ?_ _ | refine blk_drew ?_ | refine blk_alloc ?_ _)); exact BK710.out) : p := h
theorem Z48 {p : Prop} (h : p := by (with_reducible repeat (first | refine blk_drewN ?_ _ | refine blk_drew ?_ | refine blk_alloc ?_ _)); exact BK177.out) : p := h
theorem Z49 {p : Prop} (h : p := by (with_reducible repeat (first | refine blk_drewN ?_ _ | refine blk_drew ?_ | refine blk_alloc ?_ _)); exact BK146.out) : p := h
theorem Z50 {p : Prop} (h : p := by repeat (first | exact Drawn0.refl _ | apply Drawn0.step)) : p := h
theorem Z51 {p : Prop} (h : p := by (with_reducible repeat (first | refine blk_drewN ?_ _ | refine blk_drew ?_ | refine blk_alloc ?_ _)); exact BK441.out) : p := h
theorem Z52 {p : Prop} (h : p := by rw [if_pos rfl] at H; exact H) : p := h
theorem Z53 {p : Prop} (h : p := by repeat (first | (with_reducible first | exact HB.out | apply below_alloc | apply pw_below_drewN | apply below_drew1 | refine below_set ?_ GE703.out) | exact HB.out)) : p := h
theorem Z54 {p : Prop} (h : p := by repeat (first | (with_reducible first | exact HB.out | apply below_alloc | apply pw_below_drewN | apply below_drew1 | refine below_set ?_ GE698.out) | exact HB.out)) : p := h
theorem Z55 {p : Prop} (h : p := by repeat (first | (with_reducible first | exact HB.out | apply below_alloc | apply pw_below_drewN | apply below_drew1 | refine below_set ?_ GE543.out | refine below_set ?_ GE548.out) | exact HB.out)) : p := h
theorem Z56 {p : Prop} (h : p := by (try simp only [hl1_3]); (try simp only [hl1_122]); (with_reducible repeat (first | apply Kd.R_alloc | apply Kd.R_drewN | apply Kd.R_drew)); first | exact HO_34.out | exact Kd.V_len HO_34.out) : p := h
theorem Z57 {p : Prop} (h : p := by (try simp only [hl1_3]); (with_reducible repeat (first | apply Kd.R_alloc | apply Kd.R_drewN | apply Kd.R_drew)); first | exact HO_0.out | exact Kd.V_len HO_0.out) : p := h
theorem Z58 {p : Prop} (h : p := by (with_reducible repeat (first | refine blk_drewN ?_ _ | refine blk_drew ?_ | refine blk_alloc ?_ _)); refine blk_far ?_ NB230_231.out _; (with_reducible repeat (first | refine blk_drewN ?_ _ | refine blk_drew ?_ | refine blk_alloc ?_ _)); exact BK230.out) : p := h
theorem Z59 {p : Prop} (h : p := by (with_reducible repeat (first | refine blk_drewN ?_ _ | refine blk_drew ?_ | refine blk_alloc ?_ _)); exact BK231.out) : p := h
theorem Z60 {p : Prop} (h : p := by (with_reducible repeat (first | apply Kd.R_alloc | apply Kd.R_drewN | apply Kd.R_drew)); exact HO_34.out) : p := h
theorem Z61 {p : Prop} (h : p := by (try simp only [hl1_3]); (try simp only [hl1_122]); (with_reducible repeat (first | refine blk_drewN ?_ _ | refine blk_drew ?_ | refine blk_alloc ?_ _)); exact BK441.out) : p := h
theorem Z62 {p : Prop} (h : p := by (with_reducible repeat (first | refine blk_drewN ?_ _ | refine blk_drew ?_ | refine blk_alloc ?_ _)); exact BK543.out) : p := h
theorem Z63 {p : Prop} (h : p := by repeat (first | (with_reducible first | exact HB.out | apply below_alloc | apply pw_below_drewN | apply below_drew1 | refine below_set ?_ GE543.out) | exact HB.out)) : p := h
theorem Z64 {p : Prop} (h : p := by exact (fun k_ hk => (.inr (Nat.le_trans Z32 hk)))) : p := h
theorem Z65 {p : Prop} (h : p := by (with_reducible repeat (first | apply Kd.R_alloc | apply Kd.R_drewN | apply Kd.R_drew)); exact HO_4.out) : p := h
theorem Z66 {p : Prop} (h : p := by (try simp only [hl1_3]); (with_reducible repeat (first | apply Kd.V_alloc | apply Kd.V_drewN | apply Kd.V_drew)); first | exact HO_1.out | exact Kd.V_len HO_1.out) : p := h
theorem Z67 {p : Prop} (h : p := by (try simp only [hl1_3]); (try simp only [hl1_122]); (with_reducible repeat (first | apply Kd.R_alloc | apply Kd.R_drewN | apply Kd.R_drew)); first | exact HO_0.out | exact Kd.V_len HO_0.out) : p := h
theorem Z68 {p : Prop} (h : p := by repeat (first | (with_reducible first | exact HB3.out | apply below_alloc | apply pw_below_drewN | apply below_drew1) | exact HB3.out)) : p := h
theorem Z69 {p : Prop} (h : p := by (with_reducible repeat (first | apply Kd.R_alloc | apply Kd.R_drewN | apply Kd.R_drew)); exact HO708.out) : p := h
theorem Z70 {p : Prop} (h : p := by (with_reducible repeat (first | apply Kd.R_alloc | apply Kd.R_drewN | apply Kd.R_drew)); exact HO705.out) : p := h
theorem Z71 {p : Prop} (h : p := by first | omega | exact Nat.le_refl _) : p := h
theorem Z72 {p : Prop} (h : p := by (with_reducible repeat (first | apply Kd.R_alloc | apply Kd.R_drewN | apply Kd.R_drew)); exact HO180.out) : p := h
theorem Z73 {p : Prop} (h : p := by (with_reducible repeat (first | apply Kd.R_alloc | apply Kd.R_drewN | apply Kd.R_drew)); exact HO149.out) : p := h
theorem Z74 {p : Prop} (h : p := by first | exact HK.out.1 | exact (show Kept w _ (fun k_ => P0_ k_) from Z9).1) : p := h
theorem Z75 {p : Prop} (h : p := by (with_reducible repeat (first | apply Kd.R_alloc | apply Kd.R_drewN | apply Kd.R_drew)); exact HO0.out) : p := h
theorem Z76 {p : Prop} (h : p := by refine (Kd.R_reads' (e := 25) (base := w.heap.size) (ok := fun k_ => (some k_ ≠ (.slice Ao16 t703.length co16 : Value).ownBlock ∧ k_ ≠ gb710)) (n := t706.length) (c := co17) ?_).2.2; exact Z17) : p := h
theorem Z77 {p : Prop} (h : p := by (with_reducible repeat (first | apply Kd.R_alloc | apply Kd.R_drewN | apply Kd.R_drew)); exact HO_5.out) : p := h
theorem Z78 {p : Prop} (h : p := by repeat (first | (with_reducible first | exact HB.out | apply below_alloc | apply pw_below_drewN | apply below_drew1 | refine below_set ?_ GE701.out) | exact HB.out)) : p := h
theorem Z79 {p : Prop} (h : p := by repeat (first | (with_reducible first | exact HB.out | apply below_alloc | apply pw_below_drewN | apply below_drew1 | refine below_set ?_ GE600.out) | exact HB.out)) : p := h
theorem Z80 {p : Prop} (h : p := by repeat (first | (with_reducible first | exact HB.out | apply below_alloc | apply pw_below_drewN | apply below_drew1 | refine below_set ?_ (IsS47.ge HI0.out) | refine below_set ?_ GE230.out) | exact HB.out)) : p := h
theorem Z81 {p : Prop} (h : p := by (with_reducible repeat (first | apply Kd.V_alloc | apply Kd.V_drewN | apply Kd.V_drew)); exact HO_1.out) : p := h
theorem Z82 {p : Prop} (h : p := by (try simp only [hl1_3]); (with_reducible repeat (first | apply Kd.V_alloc | apply Kd.V_drewN | apply Kd.V_drew)); exact Kd.V_mono HO_1.out (fun _ hk => ⟨hk.1, ⟨hk.2.2.2, ⟨hk.2.1, hk.2.2.1⟩⟩⟩)) : p := h
theorem Z83 {p : Prop} (h : p := by exact k25_mkM _ _ _ (⟨t134, t135, t136, t137, t140⟩ : S25) (Kd.R_mono (Kd.R_types (Kd.R_apart' (HO139.out) (Kd.R_typed HO_6.out) (by decide)) BK146.out (by decide)) (fun k_ hk => ⟨⟨hk.1.1, hk.2⟩, hk.1.2⟩)) (Kd.R_mono (HO142.out) (fun k_ hk => ⟨⟨hk.2.1, hk.2.2.2⟩, hk.1⟩))) : p := h
theorem Z84 {p : Prop} (h : p := by (with_reducible repeat (first | apply Kd.R_alloc | apply Kd.R_drewN | apply Kd.R_drew)); first | exact HO_567003.out | exact Kd.V_len HO_567003.out) : p := h
theorem Z85 {p : Prop} (h : p := by (with_reducible repeat (first | refine blk_drewN ?_ _ | refine blk_drew ?_ | refine blk_alloc ?_ _)); exact BK703.out) : p := h
theorem Z86 {p : Prop} (h : p := by (with_reducible repeat (first | apply Kd.R_alloc | apply Kd.R_drewN | apply Kd.R_drew)); exact Kd.R_mono HO_6.out (fun _ hk => ⟨trivial, hk⟩)) : p := h
theorem Z87 {p : Prop} (h : p := by (try simp only [hl1_3]); (try simp only [hl1_122]); (with_reducible repeat (first | apply Kd.V_alloc | apply Kd.V_drewN | apply Kd.V_drew)); first | exact HO_1.out | exact Kd.V_len HO_1.out) : p := h
theorem Z88 {p : Prop} (h : p := by (try simp only [hl1_3]); (with_reducible repeat (first | refine blk_drewN ?_ _ | refine blk_drew ?_ | refine blk_alloc ?_ _)); exact BK441.out) : p := h
theorem Z89 {p : Prop} (h : p := by (with_reducible repeat (first | apply Kd.V_alloc | apply Kd.V_drewN | apply Kd.V_drew)); exact Kd.V_mono HO_1.out (fun _ hk => ⟨⟨hk.1.1, ⟨hk.1.2.2, hk.2⟩⟩, hk.1.2.1⟩)) : p := h
theorem Z90 {p : Prop} (h : p := by exact k25_mkM _ _ _ (⟨t165, t166, t167, t168, t171⟩ : S25) (Kd.R_mono (Kd.R_types (Kd.R_apart' (HO170.out) (Kd.R_typed HO_4.out) (by decide)) BK177.out (by decide)) (fun k_ hk => ⟨hk.2, hk.1.2⟩)) (Kd.R_mono (HO173.out) (fun k_ hk => ⟨hk.2.2, hk.1⟩))) : p := h
theorem Z91 {p : Prop} (h : p := by have := HJ13.out; have := HJ42.out; have := HK3.out; have := HJ109.out; have := HJ112.out; have := HJ122.out; have := HJ153.out; have := HJ167.out; have := HJ172.out; omega) : p := h
theorem Z92 {p : Prop} (h : p := by have := HJ13.out; have := HJ42.out; have := HK3.out; have := HJ109.out; have := HJ112.out; first | omega | exact Nat.le_refl _) : p := h
theorem Z93 {p : Prop} (h : p := by refine (Kd.R_reads' (e := 53) (base := w.heap.size) (ok := fun k_ => True) (n := t703.length) (c := co16) ?_).2.2; exact Z18) : p := h
theorem Z94 {p : Prop} (h : p := by (with_reducible repeat (first | apply Kd.V_alloc | apply Kd.V_drewN | apply Kd.V_drew)); exact Kd.V_mono HO_1.out (fun _ hk => ⟨⟨hk.1, hk.2.2⟩, hk.2.1⟩)) : p := h
theorem Z95 {p : Prop} (h : p := by exact Kd.R_mono (by (with_reducible repeat (first | apply Kd.R_alloc | apply Kd.R_drewN | apply Kd.R_drew)); exact HR3.out) (fun _ _ => trivial)) : p := h
theorem Z96 {p : Prop} (h : p := by (with_reducible repeat (first | apply Kd.R_alloc | apply Kd.R_drewN | apply Kd.R_drew)); exact HO_567003.out) : p := h
theorem Z97 {p : Prop} (h : p := by (with_reducible repeat (first | apply Kd.N_alloc | apply Kd.N_drewN | apply Kd.N_drew)); exact HO_567004.out) : p := h
theorem Z98 {p : Prop} (h : p := by (with_reducible repeat (first | apply Kd.R_alloc | apply Kd.R_drewN | apply Kd.R_drew)); first | exact HO_10.out | exact Kd.V_len HO_10.out) : p := h
theorem Z99 {p : Prop} (h : p := by (with_reducible repeat (first | apply Kd.V_alloc | apply Kd.V_drewN | apply Kd.V_drew)); exact HO1.out) : p := h
theorem Z100 {p : Prop} (h : p := by repeat (first | (with_reducible first | exact HB.out | apply below_alloc | apply pw_below_drewN | apply below_drew1 | refine below_set ?_ GE566.out | refine below_set ?_ GE571.out) | exact HB.out)) : p := h
theorem Z101 {p : Prop} (h : p := by have hq := HR4.out; rw [show (r1 ++ [10] : List Int).length = r1.length + 1 by simp] at hq; exact Kd.R_mono hq (fun _ _ => trivial)) : p := h
theorem Z102 {p : Prop} (h : p := by repeat (first | (with_reducible exact HR570_4.out) | (with_reducible refine Kd.C_alloc ?_ _) | (with_reducible refine Kd.C_drewN ?_ _) | (with_reducible refine Kd.C_drew ?_) | exact HR570_4.out)) : p := h
theorem Z103 {p : Prop} (h : p := by repeat (first | (with_reducible exact HR570_3.out) | (with_reducible refine Kd.C_alloc ?_ _) | (with_reducible refine Kd.C_drewN ?_ _) | (with_reducible refine Kd.C_drew ?_) | exact HR570_3.out)) : p := h
theorem Z104 {p : Prop} (h : p := by (try simp only [hl1_3]); (try simp only [hl1_122]); (with_reducible repeat (first | apply Kd.V_alloc | apply Kd.V_drewN | apply Kd.V_drew)); exact Kd.V_mono (Kd.V_far (p := ⟨gb441, 3, none⟩) (Kd.V_mono HO_1.out (fun k_ hk => (⟨hk, hk.2.2.2⟩ : _ ∧ k_ ≠ gb441))) (fun _ hk => hk.2) (.int .i64 (t471.length : Int))) (fun _ hk => ⟨hk.1.1, ⟨hk.1.2.1, hk.1.2.2.1⟩⟩)) : p := h
theorem Z105 {p : Prop} (h : p := by (try simp only [hl1_3]); (with_reducible repeat (first | apply Kd.V_alloc | apply Kd.V_drewN | apply Kd.V_drew)); exact Kd.V_mono HO_1.out (fun _ hk => ⟨hk.1.1, ⟨hk.2, hk.1.2⟩⟩)) : p := h
theorem Z106 {p : Prop} (h : p := by have := HJ13.out; have := HJ42.out; have := HK3.out; have := HJ109.out; have := HJ112.out; have := HJ122.out; have := HJ153.out; have := HJ167.out; first | omega | exact Nat.le_refl _) : p := h
theorem Z107 {p : Prop} (h : p := by have := (Array.getElem?_eq_some_iff.1 HZ.out).1; omega) : p := h
theorem Z108 {p : Prop} (h : p := by have := HJ2.out; first | omega | exact Nat.le_refl _) : p := h
theorem Z109 {p : Prop} (h : p := by (with_reducible repeat (first | refine blk_drewN ?_ _ | refine blk_drew ?_ | refine blk_alloc ?_ _)); exact BK600.out) : p := h
theorem Z110 {p : Prop} (h : p := by (with_reducible repeat (first | refine blk_drewN ?_ _ | refine blk_drew ?_ | refine blk_alloc ?_ _)); exact BK548.out) : p := h
theorem Z111 {p : Prop} (h : p := by (try simp only [hl1_3]); (try simp only [hl1_122]); (with_reducible repeat (first | apply Kd.R_alloc | apply Kd.R_drewN | apply Kd.R_drew)); exact Kd.R_mono (Kd.R_far (p := ⟨gb441, 3, none⟩) (Kd.R_mono HO_34.out (fun k_ hk => (⟨hk, hk.2⟩ : _ ∧ k_ ≠ gb441))) (fun _ hk => hk.2) (.int .i64 (t471.length : Int))) (fun _ hk => hk.1.1)) : p := h
theorem Z112 {p : Prop} (h : p := by (with_reducible repeat (first | refine blk_drewN ?_ _ | refine blk_drew ?_ | refine blk_alloc ?_ _)); refine blk_put (cs := #[.int .i64 x442000_122, .int .i64 x442001_153, .int .i64 x442002_122, .int .i64 0]) ?_ 3 _ rfl; (with_reducible repeat (first | refine blk_drewN ?_ _ | refine blk_drew ?_ | refine blk_alloc ?_ _)); exact BK441.out) : p := h
theorem Z113 {p : Prop} (h : p := by repeat (first | (with_reducible first | exact HB.out | apply below_alloc | apply pw_below_drewN | apply below_drew1 | refine below_set ?_ GE544.out) | exact HB.out)) : p := h
theorem Z114 {p : Prop} (h : p := by (with_reducible repeat (first | apply Kd.R_alloc | apply Kd.R_drewN | apply Kd.R_drew)); exact HO_711004.out) : p := h
theorem Z115 {p : Prop} (h : p := by (with_reducible repeat (first | apply Kd.R_alloc | apply Kd.R_drewN | apply Kd.R_drew)); exact HO_711003.out) : p := h
theorem Z116 {p : Prop} (h : p := by (with_reducible repeat (first | apply Kd.V_alloc | apply Kd.V_drewN | apply Kd.V_drew)); exact Kd.V_mono HO_1.out (fun _ hk => ⟨⟨hk.1.1, hk.2⟩, hk.1.2⟩)) : p := h
theorem Z117 {p : Prop} (h : p := by have := HJ13.out; have := HJ42.out; have := HK3.out; have := HJ109.out; first | omega | exact Nat.le_refl _) : p := h
theorem Z118 {p : Prop} (h : p := by exact (by (with_reducible repeat (first | apply Kd.R_alloc | apply Kd.R_drewN | apply Kd.R_drew)); exact Kd.R_mono HO_6.out (fun _ hk => ⟨hk.1, hk.2.2.2⟩))) : p := h
theorem Z119 {p : Prop} (h : p := by (try simp only [hl1_3]); (try simp only [hl1_122]); (with_reducible repeat (first | apply Kd.R_alloc | apply Kd.R_drewN | apply Kd.R_drew)); exact Kd.R_mono (Kd.R_far (p := ⟨gb441, 3, none⟩) (Kd.R_types HO_0.out BK441.out (by decide)) (fun _ hk => hk.2) (.int .i64 (t471.length : Int))) (fun _ hk => hk.1)) : p := h
theorem Z120 {p : Prop} (h : p := by first | rfl | (simp; done) | (simp [*]; done) | (simp [*]; done)) : p := h
theorem Z121 {p : Prop} (h : p := by (with_reducible repeat (first | apply Kd.R_alloc | apply Kd.R_drewN | apply Kd.R_drew)); exact HO461.out) : p := h
theorem Z122 {p : Prop} (h : p := by (with_reducible repeat (first | apply Kd.R_alloc | apply Kd.R_drewN | apply Kd.R_drew)); exact HO173.out) : p := h
theorem Z123 {p : Prop} (h : p := by (with_reducible repeat (first | apply Kd.R_alloc | apply Kd.R_drewN | apply Kd.R_drew)); exact HO170.out) : p := h
theorem Z124 {p : Prop} (h : p := by (with_reducible repeat (first | apply Kd.R_alloc | apply Kd.R_drewN | apply Kd.R_drew)); exact HO142.out) : p := h
theorem Z125 {p : Prop} (h : p := by (with_reducible repeat (first | apply Kd.R_alloc | apply Kd.R_drewN | apply Kd.R_drew)); exact HO139.out) : p := h
theorem Z126 {p : Prop} (h : p := by (with_reducible repeat (first | apply Kd.N_alloc | apply Kd.N_drewN | apply Kd.N_drew)); exact HO_41.out) : p := h
theorem Z127 {p : Prop} (h : p := by have := HK1.out; first | omega | exact Nat.le_refl _) : p := h
theorem Z128 {p : Prop} (h : p := by (with_reducible repeat (first | apply Kd.N_alloc | apply Kd.N_drewN | apply Kd.N_drew)); first | exact HO_567004.out | exact Kd.V_len HO_567004.out) : p := h
theorem Z129 {p : Prop} (h : p := by have := HJ13.out; have := HJ42.out; have := HK3.out; have := HJ109.out; have := HJ112.out; have := HJ122.out; first | omega | exact Nat.le_refl _) : p := h
theorem Z130 {p : Prop} (h : p := by exact (by (with_reducible repeat (first | apply Kd.R_alloc | apply Kd.R_drewN | apply Kd.R_drew)); exact Kd.R_mono HO_4.out (fun _ hk => hk.2.2))) : p := h
theorem Z131 {p : Prop} (h : p := by have := HX.out; simp only [maxLen]; omega) : p := h
theorem Z132 {p : Prop} (h : p := by have := HJ13.out; have := HJ42.out; have := HK3.out; first | omega | exact Nat.le_refl _) : p := h
theorem Z133 {p : Prop} (h : p := by have := HR.out.1 B e_.symm; have := (Array.getElem?_eq_some_iff.1 HZ.out).1; omega) : p := h
theorem Z134 {p : Prop} (h : p := by (try simp only [hl1_3]); (try simp only [hl1_122]); (with_reducible repeat (first | apply Kd.V_alloc | apply Kd.V_drewN | apply Kd.V_drew)); exact Kd.V_mono HO_1.out (fun _ hk => ⟨hk.1.1, ⟨hk.2, ⟨hk.1.2.1, hk.1.2.2⟩⟩⟩)) : p := h
theorem Z135 {p : Prop} (h : p := by (try simp only [hl1_3]); (try simp only [hl1_122]); (with_reducible repeat (first | apply Kd.V_alloc | apply Kd.V_drewN | apply Kd.V_drew)); exact Kd.V_mono HO_1.out (fun _ hk => ⟨hk.1, ⟨hk.2.2.2, ⟨hk.2.1, hk.2.2.1⟩⟩⟩)) : p := h
theorem Z136 {p : Prop} (h : p := by exact Kd.V_mono (HO_1.out) (fun k_ hk_ => ⟨hk_, hk_.2⟩)) : p := h
theorem Z137 {p : Prop} (h : p := by simp [Value.ownBlock] at hk; omega) : p := h
theorem Z138 {p : Prop} (h : p := by (with_reducible repeat (first | apply Kd.V_alloc | apply Kd.V_drewN | apply Kd.V_drew)); exact HL570_4.out) : p := h
theorem Z139 {p : Prop} (h : p := by (with_reducible repeat (first | apply Kd.V_alloc | apply Kd.V_drewN | apply Kd.V_drew)); exact HL570_3.out) : p := h
theorem Z140 {p : Prop} (h : p := by have := HJ15.out; first | omega | exact Nat.le_refl _) : p := h
theorem Z141 {p : Prop} (h : p := by (with_reducible repeat (first | apply Kd.N_alloc | apply Kd.N_drewN | apply Kd.N_drew)); exact HO_3.out) : p := h
theorem Z142 {p : Prop} (h : p := by have := HX.out; rw [hz2]; omega) : p := h
theorem Z143 {p : Prop} (h : p := by exact (keep_size (w := w) (g := g) (row := none) Z1)) : p := h
theorem Z144 {p : Prop} (h : p := by exact k53_mkM _ _ _ (⟨x1001_1, x1001_10⟩ : S53)) : p := h
theorem Z145 {p : Prop} (h : p := by first | exact q570 | exact of_decide_eq_true Z6 | (have e_ := (Kd.N_reads' HO_41.out).1; omega)) : p := h
theorem Z146 {p : Prop} (h : p := by exact (fun k_ hk => (.inr (Nat.le_trans Z74 hk)))) : p := h
theorem Z147 {p : Prop} (h : p := by first | rfl | (simp [errW_none, errW_some] <;> rfl) | (simp only [← hji61, ← hji80]; first | rfl | (simp [errW_none, errW_some] <;> rfl)) | (simp [*, errW_none, errW_some] <;> rfl)) : p := h
theorem Z148 {p : Prop} (h : p := by have := HK1.out; have := HK2.out; omega) : p := h
theorem Z149 {p : Prop} (h : p := by (with_reducible repeat (first | apply Kd.V_alloc | apply Kd.V_drewN | apply Kd.V_drew)); exact Kd.V_mono HO_1.out (fun _ hk => ⟨⟨hk.1, ⟨hk.2.1, hk.2.2.1⟩⟩, hk.2.2.2⟩)) : p := h
theorem Z150 {p : Prop} (h : p := by (with_reducible repeat (first | apply Kd.V_alloc | apply Kd.V_drewN | apply Kd.V_drew)); exact Kd.V_mono HO_1.out (fun _ hk => ⟨hk.1, ⟨hk.2, (by simp [Value.ownBlock])⟩⟩)) : p := h
theorem Z151 {p : Prop} (h : p := by repeat (first | exact (Kd.R_reads' HO_711004.out).2.2 | (with_reducible refine Kd.C_alloc ?_ _) | (with_reducible refine Kd.C_drewN ?_ _) | (with_reducible refine Kd.C_drew ?_))) : p := h
theorem Z152 {p : Prop} (h : p := by repeat (first | exact (Kd.R_reads' HO_711003.out).2.2 | (with_reducible refine Kd.C_alloc ?_ _) | (with_reducible refine Kd.C_drewN ?_ _) | (with_reducible refine Kd.C_drew ?_))) : p := h
end Go.Proofs.Ytkbeiidjagodnaa.Pr

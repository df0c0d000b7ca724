import Derived.Test.YtmpdhdnoohmndaaGreatDoorZip
import Derived.Test.YtmpdhdnoohmndaaGreatDoorQa
import Derived.Test.YtmpdhdnoohmndaaGreatDoorJv
namespace Go.Proofs.YtmpdhdnoohmndaaGreatDoor.Sp
open Go.RowKit Go.Proofs.YtmpdhdnoohmndaaGreatDoorW.PrintWords Go.Proofs.YtmpdhdnoohmndaaGreatDoorW.PrintLast Go.Proofs.YtmpdhdnoohmndaaGreatDoorW.PrintMore Pr
attribute [local go_sem] run_store_float max2_int min2_int max_two min_two max_three min_three max_four min_four
set_option linter.unusedVariables false
set_option linter.unusedSimpArgs false
set_option maxHeartbeats 8000000
set_option maxRecDepth 100000
theorem wq {z : Int} (h0 : -4611686018427387904 ≤ z) (h1 : z ≤ 4611686018427387904) : IntKind.i64.wrap z = z := (i64_w _).trans (by unfold wrap64; omega)
theorem at_calls (a0 : Int) (a1 : au) (A2 : Option Addr) (c2 : Nat) (l2 : List au) (A3 : Option Addr) (c3 : Nat) (l3 : List S25) (y : au) (w : World) (h2 : Kd.C Kd.string w A2 l2.length l2) (hl : l2.length ≤ 8796093022208) :
 Calls Tryz.prog 14 #[.agg #[.int .i64 a0, .string a1, .slice A2 l2.length c2, .slice A3 l3.length c3], .string y] w fun e w' => (∃ r : Int, e = .returned (.int .i64 r) ∧ ∀ j : Nat, r < j → j < l2.length → l2.getD j ⟨#[]⟩ ≠ y) ∧ Below w.heap.size w w' := by
 have hu25 := Tryz.underlying28
 have HR := aa h2
 have HL := aa hl
 have HB := aa (Below.refl w.heap.size w)
 have f0 : IntKind.i64.wrap ((l2.length : Int) - 1) = (l2.length : Int) - 1 := wq (by omega) (by omega)
 clear h2 hl
 go_enter Tryz.func14, Tryz.ntmps14
 go_wp2_with ((refine aw 2 #[.int .i64 a0, .string a1, .slice A2 l2.length c2, .slice A3 l3.length c3] 28 ?_; intro gb hg w3 hbox hb; have BK := aa hbox; replace HB := aa (below_step (w := w) zB hb); clear hb hbox hg; obtain ⟨x0, x1, x2, x3, y0, y1, y2, y3⟩ := cz4 BK.out))
 (try simp only [Act.put, ao, ap, aq])
 go_loopg [5] (l2.length + 1) (fun kq v5 w' => ∃ (z : Int) (q : Nat), v5 = .int .i64 z ∧ Aside0 (z = (q : Int) - 1 ∧ q ≤ l2.length ∧ q + 1 ≤ kq) ∧ Aside0 (∀ j, q ≤ j → j < l2.length → l2.getD j ⟨#[]⟩ ≠ y) ∧ Aside0 (w'.heap[gb]? = some (.cells #[.int .i64 a0, .string a1, .slice A2 l2.length c2, .slice A3 l3.length c3] 28 (0, 0))) ∧ Aside0 (Below w.heap.size w w'))
 case atStart => exact ⟨_, l2.length, rfl, ⟨rfl, Nat.le_refl _, Nat.le_refl _⟩, ⟨fun j h1 h2 => by omega⟩, BK, HB⟩
 case round =>
  clear x0 x1 x2 x3 y0 y1 y2 y3 BK HB f0
  obtain ⟨z, q, rfl, HQ, HNe, BK, HB⟩ := hrel
  obtain ⟨x0, x1, x2, x3, y0, y1, y2, y3⟩ := cz4 BK.out
  cases q with
  | zero =>
   have c : decide (z ≥ 0) = false := ae (by have := HQ.out.1; omega)
   go_wp2
   go_ret
   exact ⟨⟨_, rfl, fun j h1 h2 => HNe.out j (Nat.zero_le _) h2⟩, HB.out⟩
  | succ q =>
   cases gk with
   | zero => exact absurd HQ.out.2.2 (by omega)
   | succ gj =>
   have P0 : 0 ≤ z := by have := HQ.out.1; omega
   have P1 : z < (l2.length : Int) := by have := HQ.out; omega
   have c : decide (z ≥ 0) = true := ac P0
   obtain ⟨ad, e, hx⟩ := Kd.at_string HR.out z P0 P1
   cases e
   replace hx := av HB.out hx
   have f1 : IntKind.i64.wrap (z - 1) = z - 1 := wq (by omega) (by have := HL.out; omega)
   replace P0 := af P0
   replace P1 := af P1
   obtain ⟨b, hb⟩ : ∃ b, ((rdOf ByteArray.empty l2 z).toList == y.toList) = b := ⟨_, rfl⟩
   have HBb := aa hb
   cases b with
   | true =>
    go_wp2
    go_ret
    exact ⟨⟨_, rfl, fun j h1 h2 => HNe.out j (by have := HQ.out.1; omega) h2⟩, HB.out⟩
   | false =>
    go_wp2
    go_roundg gj
    case measure => exact Nat.lt_succ_self gj
    case rel => exact ⟨_, q, rfl, ⟨by have := HQ.out.1; omega, by have := HQ.out.2.1; omega, by have := HQ.out.2.2; omega⟩, ⟨fun j h1 h2 => by
     by_cases hj : j = q
     ·subst hj
      intro e
      have hb := HBb.out
      rw [show rdOf ByteArray.empty l2 z = l2.getD j ⟨#[]⟩ by unfold rdOf; rw [show z.toNat = j by have := HQ.out.1; omega]; rfl, e] at hb
      exact absurd hb (by simp)
     ·exact HNe.out j (by omega) h2⟩, BK, HB⟩
def uqT4 : Bool × List (List Nat × List Nat) := (true, [([], []), ([], []), ([1], [1]), ([], []), ([2, 3], [2, 3]), ([4], [4]), ([0, 5], [0, 5]), ([], []), ([6, 7], [6, 7])])
def uqB4 : List Nat := [0, 0, 2, 0, 14, 30, 63, 0, 255]
theorem uqtab4 : rtab .any (opsOf Tryz.f8 4) = uqT4 := by kernel_rfl
theorem uqbits4 : waitsOk uqT4.2 uqB4 = true := by kernel_rfl
def RetB (t : S25) (e : Ending) : Prop := ∃ b : Bool, e = .returned (.bool b) ∧ (b = true → UqT t)
def UqC (t : S25) : Prop := ∀ A2 c2 A3 c3 w, Kd.C Kd.string w A2 t.f2.length t.f2 → t.f2.length ≤ c2 → Kd.C k25 w A3 t.f3.length t.f3 → t.f3.length ≤ c3 →
 Calls Tryz.prog 8 #[.agg #[.int .i64 t.f0, .string t.f1, .slice A2 t.f2.length c2, .slice A3 t.f3.length c3]] w fun e w' => RetB t e ∧ Below w.heap.size w w'
theorem uniq_step {t : S25} (hl2 : t.f2.length ≤ 65536) (hl3 : t.f3.length ≤ 65536) (ih : ∀ q ∈ t.f3, UqC q) : UqC t := by
 obtain ⟨a0, a1, l2, l3⟩ := t
 intro A2 c2 A3 c3 w h2 hc2 h3 hc3
 simp only at *
 have hu25 := Tryz.underlying28
 have wM := aa h2
 have Xj := aa h3
 have HL := aa (And.intro hl2 hl3)
 have HI := aa ih
 have HB := aa (Below.refl w.heap.size w)
 clear hc2 h2 h3 hc3 hl2 hl3 ih
 go_enter Tryz.func8, Tryz.ntmps8
 go_wp2_with ((refine aw 1 #[.int .i64 a0, .string a1, .slice A2 l2.length c2, .slice A3 l3.length c3] 28 ?_; intro gb hg w3 hbox hb; have BK := aa hbox; replace HB := aa (below_step (w := w) zB hb); clear hb hbox hg; obtain ⟨x0, x1, x2, x3, y0, y1, y2, y3⟩ := cz4 BK.out))
 (try simp only [Act.put, ao, ap, aq])
 go_loopg [3] (l2.length + 1) (fun kq v3 w' => ∃ (z : Int) (q : Nat), v3 = .int .i64 z ∧ Aside0 (z = q ∧ q ≤ l2.length ∧ l2.length + 1 ≤ kq + q) ∧ Aside0 (∀ i j, i < q → i < j → j < l2.length → l2.getD j ⟨#[]⟩ ≠ l2.getD i ⟨#[]⟩) ∧ Aside0 (w'.heap[gb]? = some (.cells #[.int .i64 a0, .string a1, .slice A2 l2.length c2, .slice A3 l3.length c3] 28 (0, 0))) ∧ Aside0 (Below w.heap.size w w'))
 case atStart => exact ⟨_, 0, rfl, ⟨rfl, Nat.zero_le _, Nat.le_refl _⟩, ⟨fun i j h => by omega⟩, BK, HB⟩
 case round =>
  clear x0 x1 x2 x3 y0 y1 y2 y3 BK HB
  obtain ⟨z, q, rfl, HQ, HDf, BK, HB⟩ := hrel
  obtain ⟨x0, x1, x2, x3, y0, y1, y2, y3⟩ := cz4 BK.out
  by_cases hq : q < l2.length
  ·cases gk with
   | zero => exact absurd HQ.out.2.2 (by omega)
   | succ gj =>
   have P0 : 0 ≤ z := by have := HQ.out.1; omega
   have P1 : z < (l2.length : Int) := by have := HQ.out; omega
   have c : decide (z < (l2.length : Int)) = true := ac P1
   have f1 : IntKind.i64.wrap (z + 1) = z + 1 := wq (by omega) (by have := HL.out; omega)
   have hm : gj < gj + 1 ∧ l2.length + 1 ≤ gj + (q + 1) ∧ q + 1 ≤ l2.length := by have := HQ.out.2.2; omega
   have HM := aa hm
   clear hq hm
   try go_wp2
   replace BK := aa (blk_drew BK.out)
   replace HB := aa (below_drew1 HB.out)
   obtain ⟨ad, e, hx⟩ := Kd.at_string wM.out z P0 P1
   have hw := hx
   cases e
   replace hx := av HB.out hx
   replace P0 := af P0
   replace P1 := af P1
   refine st1 9 [] (S := fun w' => G4 w' gb (.int .i64 a0) (.string a1) (.slice (some ad) l2.length c2) (.slice A3 l3.length c3) (w'.cell? (ad.add z.toNat) = some (.string (rdOf ByteArray.empty l2 z)))) (hS := ⟨(ax BK.out 0), (ax BK.out 1), (ax BK.out 2), (ax BK.out 3), (av HB.out hw)⟩) (fun hHeld => ?_); refine with_tabW uqtab4 uqbits4 (fun HT_ HW_ => ?_)
   generalize wr.drew = w8 at BK HB hx hHeld ⊢
   refine pz 1 13 ?_
   refine pz 3 15 ?_
   refine pz 7 19 ?_
   refine tk5 0 12 ?_
   refine tk5 2 14 ?_
   refine pz 4 16 ?_
   refine tk5 5 17 ?_
   refine on1 6 (some 18) fun K hK => ?_
   refine goes_ Tryz.func14 (by kernel_rfl) rfl #[.agg #[.int .i64 a0, .string a1, .slice (some ad) l2.length c2, .slice A3 l3.length c3], .string (rdOf ByteArray.empty l2 z)] (by rfl) rfl rfl Z33 ?_
   refine (at_calls a0 a1 _ _ l2 _ _ l3 _ _ (Kd.C_below wM.out HB.out) (by have := HL.out.1; omega)).mono ?_
   rintro e w9 ⟨⟨r, rfl, har⟩, hb⟩
   have HAr := aa har
   clear har
   refine ⟨_, rfl, ?_⟩
   replace BK := aa (blk_below (g := gb) zC hb)
   replace HB := aa (below_step (w := w) zB hb)
   clear hb
   refine hK.out _ _ ⟨(ax BK.out 0), (ax BK.out 1), (ax BK.out 2), (ax BK.out 3), (av HB.out hw)⟩ (fun hHeld => ?_)
   clear hK K
   refine norm_ (a' := ?_) ?_ ?_
   rotate_left
   ·show Act.put _ (some 18) _ = _
    simp only [Act.put, ao, ap, aq, i64_w, i32_w]
    rfl
   refine pz 8 20 ?_
   refine dn1 ?_
   by_cases hr : r = z
   ·have HHr := aa hr
    have r1 : (r == z) = true := ah hr
    have r2 : (r != z) = false := aj hr
    clear hr
    try go_wp2
    go_roundg gj
    case measure => exact HM.out.1
    case rel => exact ⟨_, q + 1, rfl, ⟨by have := HQ.out.1; omega, HM.out.2.2, HM.out.2.1⟩, ⟨fun i j h1 h2 h3 => by
      by_cases hi : i = q
      ·subst hi
       have := HAr.out j (by have := HHr.out; have := HQ.out.1; omega) h3
       rwa [show rdOf ByteArray.empty l2 z = l2.getD i ⟨#[]⟩ by unfold rdOf; rw [show z.toNat = i by have := HQ.out.1; omega]; rfl] at this
      ·exact HDf.out i j (by omega) h2 h3⟩, BK, HB⟩
   ·have r1 : (r == z) = false := ag hr
    have r2 : (r != z) = true := ai hr
    clear hr
    try go_wp2
    go_ret
    exact ⟨⟨_, rfl, fun h => by simp at h⟩, HB.out⟩
  have c : decide (z < (l2.length : Int)) = false := ae (by have := HQ.out.1; omega)
  clear hq
  go_wp2
  (try simp only [Act.put, ao, ap, aq])
  have HD2 := aa (show ∀ i j, i < l2.length → i < j → j < l2.length → l2.getD j ⟨#[]⟩ ≠ l2.getD i ⟨#[]⟩ from fun i j h1 h2 h3 => HDf.out i j (by have := of_decide_eq_false c; have := HQ.out.1; omega) h2 h3)
  clear c HQ HDf
  go_loopg [4] (l3.length + 1) (fun kq v4 w' => ∃ (z : Int) (q : Nat), v4 = .int .i64 z ∧ Aside0 (z = q ∧ q ≤ l3.length ∧ l3.length + 1 ≤ kq + q) ∧ Aside0 (∀ x ∈ l3.take q, UqT x) ∧ Aside0 (w'.heap[gb]? = some (.cells #[.int .i64 a0, .string a1, .slice A2 l2.length c2, .slice A3 l3.length c3] 28 (0, 0))) ∧ Aside0 (Below w.heap.size w w'))
  case atStart => exact ⟨_, 0, rfl, ⟨rfl, Nat.zero_le _, Nat.le_refl _⟩, ⟨fun x h => by simp at h⟩, BK, HB⟩
  case round =>
   clear x0 x1 x2 x3 y0 y1 y2 y3 BK HB
   obtain ⟨z, q, rfl, HQ, HUq, BK, HB⟩ := hrel
   obtain ⟨x0, x1, x2, x3, y0, y1, y2, y3⟩ := cz4 BK.out
   by_cases hq : q < l3.length
   ·cases gk with
    | zero => exact absurd HQ.out.2.2 (by omega)
    | succ gj =>
    have P0 : 0 ≤ z := by have := HQ.out.1; omega
    have P1 : z < (l3.length : Int) := by have := HQ.out; omega
    have c : decide (z < (l3.length : Int)) = true := ac P1
    have f1 : IntKind.i64.wrap (z + 1) = z + 1 := wq (by omega) (by have := HL.out; omega)
    have HM := aa (show gj < gj + 1 ∧ l3.length + 1 ≤ gj + (q + 1) ∧ q + 1 ≤ l3.length by have := HQ.out.2.2; omega)
    obtain ⟨ad, B2, d2, B3, d3, e, hx0, hx1, hx2, hx3, m2, i2, m3, i3⟩ := at_T25 Xj.out z P0 P1
    cases e
    have hK : UqC (rd_T25 l3 z) := HI.out _ (by unfold rd_T25; rw [List.getD_eq_getElem?_getD, List.getElem?_eq_getElem (by omega), Option.getD_some]; exact List.getElem_mem _)
    have HK := aa hK
    have HE := aa (And.intro (And.intro m2 i2) (And.intro m3 i3))
    replace hx0 := av HB.out hx0
    replace hx1 := av HB.out hx1
    replace hx2 := av HB.out hx2
    replace hx3 := av HB.out hx3
    replace P0 := af P0
    replace P1 := af P1
    clear hq hK m2 i2 m3 i3
    go_wp2_with (fail)
    refine (HK.out _ _ _ _ _ (Kd.C_below HE.out.1.2 HB.out) HE.out.1.1 (Kd.C_below HE.out.2.2 HB.out) HE.out.2.1).mono ?_
    rintro e w19 ⟨⟨b, rfl, hub⟩, hb⟩
    have HUb := aa hub
    clear hub
    replace BK := aa (blk_below (g := gb) zC hb)
    replace HB := aa (below_step (w := w) zB hb)
    clear hb hx0 hx1 hx2 hx3
    cases b with
    | false =>
     go_wp2
     go_ret
     exact ⟨⟨_, rfl, fun h => by simp at h⟩, HB.out⟩
    | true =>
     have hut := HUb.out rfl
     have HUt := aa hut
     clear hut
     go_wp2
     go_roundg gj
     case measure => exact HM.out.1
     case rel => exact ⟨_, q + 1, rfl, ⟨by have := HQ.out.1; omega, HM.out.2.2, HM.out.2.1⟩, ⟨fun x hx => by
      rw [List.take_add_one, List.mem_append] at hx
      rcases hx with hx | hx
      ·exact HUq.out x hx
      ·rw [List.getElem?_eq_getElem (show q < l3.length by have := HM.out; omega)] at hx
       simp only [Option.toList_some, List.mem_singleton] at hx
       have := HUt.out
       rwa [show rd_T25 l3 z = x by rw [hx]; unfold rd_T25; rw [show z.toNat = q by have := HQ.out.1; omega, List.getD_eq_getElem?_getD, List.getElem?_eq_getElem (show q < l3.length by have := HM.out; omega)]; rfl] at this⟩, BK, HB⟩
   ·have c : decide (z < (l3.length : Int)) = false := ae (by have := HQ.out.1; omega)
    have HQe := aa (show q = l3.length by have := HQ.out; omega)
    clear hq
    go_wp2
    go_ret
    exact ⟨⟨_, rfl, fun _ => .mk _ (fun x y hx hy hxy => by
      rcases Nat.lt_or_gt_of_ne hxy with g | g
      ·exact (HD2.out x y hx g hy).symm
      ·exact HD2.out y x hy g hx) (fun k hk => HUq.out k (by rw [HQe.out, List.take_length]; exact hk))⟩, HB.out⟩
end Go.Proofs.YtmpdhdnoohmndaaGreatDoor.Sp

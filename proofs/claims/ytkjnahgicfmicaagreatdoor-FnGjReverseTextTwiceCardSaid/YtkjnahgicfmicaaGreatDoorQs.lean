import Derived.Test.YtkjnahgicfmicaaGreatDoorZip
import Derived.Test.YtkjnahgicfmicaaGreatDoorQa
import Derived.Test.YtkjnahgicfmicaaGreatDoorQu
import Derived.Test.YtkjnahgicfmicaaGreatDoorQb
import Derived.Test.YtkjnahgicfmicaaGreatDoorQh
import Derived.Test.YtkjnahgicfmicaaGreatDoorQl
import Derived.Test.YtkjnahgicfmicaaGreatDoorQf
namespace Go.Proofs.YtkjnahgicfmicaaGreatDoor.Sp
open Go.RowKit Go.PW Go.PL Go.PM
section
attribute [local go_sem] run_store_float max2_int min2_int max_two min_two max_three min_three max_four min_four
set_option linter.unusedVariables false
set_option linter.unusedSimpArgs false
set_option maxHeartbeats 8000000
set_option maxRecDepth 100000
theorem wq {z : Int} (h0 : -4611686018427387904 ≤ z) (h1 : z ≤ 4611686018427387904) : IntKind.i64.wrap z = z := (i64_w _).trans (by unfold wrap64; omega)
theorem at_calls (a0 : Int) (a1 : av) (A2 : Option Addr) (c2 : Nat) (l2 : List av) (A3 : Option Addr) (c3 : Nat) (l3 : List S25) (y : av) (w : World) (h2 : Kd.C Kd.string w A2 l2.length l2) (hl : l2.length ≤ 8796093022208) :
 Calls Tryz.prog 53 #[.agg #[.int .i64 a0, .string a1, .slice A2 l2.length c2, .slice A3 l3.length c3], .string y] w fun e w' => (∃ r : Int, e = .returned (.int .i64 r)) ∧ Below w.heap.size w w' := by
 have hu25 := Tryz.underlying25
 have HR := ab h2
 have HL := ab hl
 have HB := ab (Below.refl w.heap.size w)
 have f0 : IntKind.i64.wrap ((l2.length : Int) - 1) = (l2.length : Int) - 1 := wq (by omega) (by omega)
 clear h2 hl
 go_enter Tryz.func53, Tryz.ntmps53
 go_wp2_with ((refine ax 2 #[.int .i64 a0, .string a1, .slice A2 l2.length c2, .slice A3 l3.length c3] 25 ?_; intro gb hg w3 hbox hb; have BK := ab hbox; replace HB := ab (below_step (w := w) zB hb); clear hb hbox hg; obtain ⟨x0, x1, x2, x3, y0, y1, y2, y3⟩ := cz4 BK.out))
 (try simp only [Act.put, ap, aq, ar])
 go_loopg [5] (l2.length + 1) (fun kq v5 w' => ∃ (z : Int) (q : Nat), v5 = .int .i64 z ∧ Aside0 (z = (q : Int) - 1 ∧ q ≤ l2.length ∧ q + 1 ≤ kq) ∧ Aside0 (w'.heap[gb]? = some (.cells #[.int .i64 a0, .string a1, .slice A2 l2.length c2, .slice A3 l3.length c3] 25 (0, 0))) ∧ Aside0 (Below w.heap.size w w'))
 case atStart => exact ⟨_, l2.length, rfl, ⟨rfl, Nat.le_refl _, Nat.le_refl _⟩, BK, HB⟩
 case round =>
  clear x0 x1 x2 x3 y0 y1 y2 y3 BK HB f0
  obtain ⟨z, q, rfl, HQ, BK, HB⟩ := hrel
  obtain ⟨x0, x1, x2, x3, y0, y1, y2, y3⟩ := cz4 BK.out
  cases q with
  | zero =>
   have c : decide (z ≥ 0) = false := af (by have := HQ.out.1; omega)
   go_wp2
   go_ret
   exact ⟨⟨_, rfl⟩, HB.out⟩
  | succ q =>
   cases gk with
   | zero => exact absurd HQ.out.2.2 (by omega)
   | succ gj =>
   have P0 : 0 ≤ z := by have := HQ.out.1; omega
   have P1 : z < (l2.length : Int) := by have := HQ.out; omega
   have c : decide (z ≥ 0) = true := ae P0
   obtain ⟨ad, e, hx⟩ := Kd.at_string HR.out z P0 P1
   cases e
   replace hx := aw HB.out hx
   have f1 : IntKind.i64.wrap (z - 1) = z - 1 := wq (by omega) (by have := HL.out; omega)
   replace P0 := ag P0
   replace P1 := ag P1
   obtain ⟨b, hb⟩ : ∃ b, ((rdOf ByteArray.empty l2 z).toList == y.toList) = b := ⟨_, rfl⟩
   cases b with
   | true =>
    go_wp2
    go_ret
    exact ⟨⟨_, rfl⟩, HB.out⟩
   | false =>
    go_wp2
    go_roundg gj
    case measure => exact Nat.lt_succ_self gj
    case rel => exact ⟨_, q, rfl, ⟨by have := HQ.out.1; omega, by have := HQ.out.2.1; omega, by have := HQ.out.2.2; omega⟩, BK, HB⟩
def uqT4 : Bool × List (List Nat × List Nat) := (true, [([], []), ([], []), ([1], [1]), ([], []), ([2, 3], [2, 3]), ([4], [4]), ([0, 5], [0, 5]), ([], []), ([6, 7], [6, 7])])
def uqB4 : List Nat := [0, 0, 2, 0, 14, 30, 63, 0, 255]
theorem uqtab4 : rtab .any (opsOf Tryz.f30 4) = uqT4 := by kernel_rfl
theorem uqbits4 : waitsOk uqT4.2 uqB4 = true := by kernel_rfl
def RetB (e : Ending) : Prop := ∃ b : Bool, e = .returned (.bool b)
def UqC (t : S25) : Prop := ∀ A2 c2 A3 c3 w, Kd.C Kd.string w A2 t.f2.length t.f2 → t.f2.length ≤ c2 → Kd.C k25 w A3 t.f3.length t.f3 → t.f3.length ≤ c3 →
 Calls Tryz.prog 30 #[.agg #[.int .i64 t.f0, .string t.f1, .slice A2 t.f2.length c2, .slice A3 t.f3.length c3]] w fun e w' => RetB e ∧ Below w.heap.size w w'
theorem uniq_calls {t : S25} (h : Fit t) : UqC t := by
 induction h with
 | mk t hl2 hl3 _ ih =>
 obtain ⟨a0, a1, l2, l3⟩ := t
 intro A2 c2 A3 c3 w h2 hc2 h3 hc3
 simp only at *
 have hu25 := Tryz.underlying25
 have Ls := ab h2
 have Yu := ab h3
 have HL := ab (And.intro hl2 hl3)
 have HI := ab ih
 have HB := ab (Below.refl w.heap.size w)
 clear hc2 h2 h3 hc3 hl2 hl3 ih
 go_enter Tryz.func30, Tryz.ntmps30
 go_wp2_with ((refine ax 1 #[.int .i64 a0, .string a1, .slice A2 l2.length c2, .slice A3 l3.length c3] 25 ?_; intro gb hg w3 hbox hb; have BK := ab hbox; replace HB := ab (below_step (w := w) zB hb); clear hb hbox hg; obtain ⟨x0, x1, x2, x3, y0, y1, y2, y3⟩ := cz4 BK.out))
 (try simp only [Act.put, ap, aq, ar])
 go_loopg [3] (l2.length + 1) (fun kq v3 w' => ∃ (z : Int) (q : Nat), v3 = .int .i64 z ∧ Aside0 (z = q ∧ q ≤ l2.length ∧ l2.length + 1 ≤ kq + q) ∧ Aside0 (w'.heap[gb]? = some (.cells #[.int .i64 a0, .string a1, .slice A2 l2.length c2, .slice A3 l3.length c3] 25 (0, 0))) ∧ Aside0 (Below w.heap.size w w'))
 case atStart => exact ⟨_, 0, rfl, ⟨rfl, Nat.zero_le _, Nat.le_refl _⟩, BK, HB⟩
 case round =>
  clear x0 x1 x2 x3 y0 y1 y2 y3 BK HB
  obtain ⟨z, q, rfl, HQ, BK, HB⟩ := hrel
  obtain ⟨x0, x1, x2, x3, y0, y1, y2, y3⟩ := cz4 BK.out
  by_cases hq : q < l2.length
  ·cases gk with
   | zero => exact absurd HQ.out.2.2 (by omega)
   | succ gj =>
   have P0 : 0 ≤ z := by have := HQ.out.1; omega
   have P1 : z < (l2.length : Int) := by have := HQ.out; omega
   have c : decide (z < (l2.length : Int)) = true := ae P1
   have f1 : IntKind.i64.wrap (z + 1) = z + 1 := wq (by omega) (by have := HL.out; omega)
   have hm : gj < gj + 1 ∧ l2.length + 1 ≤ gj + (q + 1) ∧ q + 1 ≤ l2.length := by have := HQ.out.2.2; omega
   have HM := ab hm
   clear hq hm
   try go_wp2
   replace BK := ab (blk_drew BK.out)
   replace HB := ab (below_drew1 HB.out)
   obtain ⟨ad, e, hx⟩ := Kd.at_string Ls.out z P0 P1
   have hw := hx
   cases e
   replace hx := aw HB.out hx
   replace P0 := ag P0
   replace P1 := ag P1
   refine st1 9 [] (S := fun w' => G4 w' gb (.int .i64 a0) (.string a1) (.slice (some ad) l2.length c2) (.slice A3 l3.length c3) (w'.cell? (ad.add z.toNat) = some (.string (rdOf ByteArray.empty l2 z)))) (hS := ⟨(ay BK.out 0), (ay BK.out 1), (ay BK.out 2), (ay BK.out 3), (aw HB.out hw)⟩) (fun hHeld => ?_); refine with_tabW uqtab4 uqbits4 (fun HT_ HW_ => ?_)
   generalize wr.drew = w8 at BK HB hx hHeld ⊢
   refine pz 1 13 ?_
   refine pz 3 15 ?_
   refine pz 7 19 ?_
   refine tk5 0 12 ?_
   refine tk5 2 14 ?_
   refine pz 4 16 ?_
   refine tk5 5 17 ?_
   refine on1 6 (some 18) fun K hK => ?_
   refine goes_ Tryz.func53 (by kernel_rfl) rfl #[.agg #[.int .i64 a0, .string a1, .slice (some ad) l2.length c2, .slice A3 l3.length c3], .string (rdOf ByteArray.empty l2 z)] (by rfl) rfl rfl Z28 ?_
   refine (at_calls a0 a1 _ _ l2 _ _ l3 _ _ (Kd.C_below Ls.out HB.out) HL.out.1).mono ?_
   rintro e w9 ⟨⟨r, rfl⟩, hb⟩
   refine ⟨_, rfl, ?_⟩
   replace BK := ab (blk_below (g := gb) zC hb)
   replace HB := ab (below_step (w := w) zB hb)
   clear hb
   refine hK.out _ _ ⟨(ay BK.out 0), (ay BK.out 1), (ay BK.out 2), (ay BK.out 3), (aw HB.out hw)⟩ (fun hHeld => ?_)
   clear hK K
   refine norm_ (a' := ?_) ?_ ?_
   rotate_left
   ·show Act.put _ (some 18) _ = _
    simp only [Act.put, ap, aq, ar, i64_w, i32_w]
    rfl
   refine pz 8 20 ?_
   refine dn1 ?_
   by_cases hr : r = z
   ·have r1 : (r == z) = true := ai hr
    have r2 : (r != z) = false := ak hr
    clear hr
    try go_wp2
    go_roundg gj
    case measure => exact HM.out.1
    case rel => exact ⟨_, q + 1, rfl, ⟨by have := HQ.out.1; omega, HM.out.2.2, HM.out.2.1⟩, BK, HB⟩
   ·have r1 : (r == z) = false := ah hr
    have r2 : (r != z) = true := aj hr
    clear hr
    try go_wp2
    go_ret
    exact ⟨⟨_, rfl⟩, HB.out⟩
  have c : decide (z < (l2.length : Int)) = false := af (by have := HQ.out.1; omega)
  clear hq
  go_wp2
  (try simp only [Act.put, ap, aq, ar])
  clear c HQ
  go_loopg [4] (l3.length + 1) (fun kq v4 w' => ∃ (z : Int) (q : Nat), v4 = .int .i64 z ∧ Aside0 (z = q ∧ q ≤ l3.length ∧ l3.length + 1 ≤ kq + q) ∧ Aside0 (w'.heap[gb]? = some (.cells #[.int .i64 a0, .string a1, .slice A2 l2.length c2, .slice A3 l3.length c3] 25 (0, 0))) ∧ Aside0 (Below w.heap.size w w'))
  case atStart => exact ⟨_, 0, rfl, ⟨rfl, Nat.zero_le _, Nat.le_refl _⟩, BK, HB⟩
  case round =>
   clear x0 x1 x2 x3 y0 y1 y2 y3 BK HB
   obtain ⟨z, q, rfl, HQ, BK, HB⟩ := hrel
   obtain ⟨x0, x1, x2, x3, y0, y1, y2, y3⟩ := cz4 BK.out
   by_cases hq : q < l3.length
   ·cases gk with
    | zero => exact absurd HQ.out.2.2 (by omega)
    | succ gj =>
    have P0 : 0 ≤ z := by have := HQ.out.1; omega
    have P1 : z < (l3.length : Int) := by have := HQ.out; omega
    have c : decide (z < (l3.length : Int)) = true := ae P1
    have f1 : IntKind.i64.wrap (z + 1) = z + 1 := wq (by omega) (by have := HL.out; omega)
    have HM := ab (show gj < gj + 1 ∧ l3.length + 1 ≤ gj + (q + 1) ∧ q + 1 ≤ l3.length by have := HQ.out.2.2; omega)
    obtain ⟨ad, B2, d2, B3, d3, e, hx0, hx1, hx2, hx3, m2, i2, m3, i3⟩ := at_T25 Yu.out z P0 P1
    cases e
    have hK : UqC (rd_T25 l3 z) := HI.out _ Z89
    have HK := ab hK
    have HE := ab (And.intro (And.intro m2 i2) (And.intro m3 i3))
    replace hx0 := aw HB.out hx0
    replace hx1 := aw HB.out hx1
    replace hx2 := aw HB.out hx2
    replace hx3 := aw HB.out hx3
    replace P0 := ag P0
    replace P1 := ag P1
    clear hq hK m2 i2 m3 i3
    go_wp2_with (fail)
    refine (HK.out _ _ _ _ _ (Kd.C_below HE.out.1.2 HB.out) HE.out.1.1 (Kd.C_below HE.out.2.2 HB.out) HE.out.2.1).mono ?_
    rintro e w19 ⟨⟨b, rfl⟩, hb⟩
    replace BK := ab (blk_below (g := gb) zC hb)
    replace HB := ab (below_step (w := w) zB hb)
    clear hb hx0 hx1 hx2 hx3
    cases b with
    | false =>
     go_wp2
     go_ret
     exact ⟨⟨_, rfl⟩, HB.out⟩
    | true =>
     go_wp2
     go_roundg gj
     case measure => exact HM.out.1
     case rel => exact ⟨_, q + 1, rfl, ⟨by have := HQ.out.1; omega, HM.out.2.2, HM.out.2.1⟩, BK, HB⟩
   ·have c : decide (z < (l3.length : Int)) = false := af (by have := HQ.out.1; omega)
    clear hq
    go_wp2
    go_ret
    exact ⟨⟨_, rfl⟩, HB.out⟩
end
section
attribute [local go_sem] run_store_float max2_int min2_int max_two min_two max_three min_three max_four min_four
set_option linter.unusedVariables false
set_option linter.unusedSimpArgs false
set_option maxHeartbeats 8000000
set_option maxRecDepth 100000
def smT6 : Bool × List (List Nat × List Nat) := (true, [([], []), ([0], [0]), ([], []), ([1, 2], [1, 2]), ([3], [3]), ([], []), ([5], [5]), ([], []), ([6, 7], [6, 7]), ([8], [8]), ([4, 9], [4, 9])])
def smB6 : List Nat := [0, 1, 0, 7, 15, 0, 32, 0, 224, 480, 1023]
theorem smtab6 : rtab .any (opsOf Tryz.f29 6) = smT6 := by kernel_rfl
theorem smbits6 : waitsOk smT6.2 smB6 = true := by kernel_rfl
def smT11 : Bool × List (List Nat × List Nat) := (true, [([], []), ([0], [0]), ([], []), ([1, 2], [1, 2]), ([3], [3]), ([], []), ([5], [5]), ([], []), ([6, 7], [6, 7]), ([8], [8]), ([4, 9], [4, 9]), ([10], [10])])
def smB11 : List Nat := [0, 1, 0, 7, 15, 0, 32, 0, 224, 480, 1023, 2047]
theorem smtab11 : rtab .any (opsOf Tryz.f29 11) = smT11 := by kernel_rfl
theorem smbits11 : waitsOk smT11.2 smB11 = true := by kernel_rfl
def SmC (t : S25) : Prop := ∀ A2 c2 A3 c3 B2 d2 B3 d3 w, Kd.C Kd.string w A2 t.f2.length t.f2 → Kd.C k25 w A3 t.f3.length t.f3 → Kd.C Kd.string w B2 t.f2.length t.f2 → Kd.C k25 w B3 t.f3.length t.f3 →
 Calls Tryz.prog 29 #[.agg #[.int .i64 t.f0, .string t.f1, .slice A2 t.f2.length c2, .slice A3 t.f3.length c3], .agg #[.int .i64 t.f0, .string t.f1, .slice B2 t.f2.length d2, .slice B3 t.f3.length d3]] w fun e w' => e = .returned (.bool true) ∧ Below w.heap.size w w'
theorem same_calls {t : S25} (h : Fit t) : SmC t := by
 induction h with
 | mk t hl2 hl3 _ ih =>
 obtain ⟨a0, a1, l2, l3⟩ := t
 intro A2 c2 A3 c3 B2 d2 B3 d3 w h2 h3 k2 k3
 simp only at *
 have hu25 := Tryz.underlying25
 have HR := ab (And.intro h2 k2)
 have HS := ab (And.intro h3 k3)
 have HL := ab (And.intro hl2 hl3)
 have HI := ab ih
 have HB := ab (Below.refl w.heap.size w)
 clear h2 h3 k2 k3 hl2 hl3 ih
 go_enter Tryz.func29, Tryz.ntmps29
 go_wp2_with (first | (refine ax 2 #[.int .i64 a0, .string a1, .slice A2 l2.length c2, .slice A3 l3.length c3] 25 ?_; intro g hg w3 hbox hb; have BK := ab hbox; replace HB := ab (below_step (w := w) zB hb); clear hb hbox hg) | (refine ax 3 #[.int .i64 a0, .string a1, .slice B2 l2.length d2, .slice B3 l3.length d3] 25 ?_; intro g' hg w4 hbox hb; have BL := ab hbox; have n1 : g ≠ g' := (by have := blk_lt BK.out; omega); have n2 : g' ≠ g := Ne.symm n1; replace BK := ab (blk_below BK.out hb); replace HB := ab (below_step (w := w) zB hb); clear hb hbox hg; obtain ⟨x0, x1, x2, x3, y0, y1, y2, y3⟩ := cz4 BK.out; obtain ⟨u0, u1, u2, u3, v0, v1, v2, v3⟩ := cz4 BL.out))
 (try simp only [Act.put, ap, aq, ar])
 go_loopg [5] (l2.length + 1) (fun kq v5 w' => ∃ (z : Int) (q : Nat), v5 = .int .i64 z ∧ Aside0 (z = q ∧ q ≤ l2.length ∧ l2.length + 1 ≤ kq + q) ∧ Aside0 (w'.heap[g]? = some (.cells #[.int .i64 a0, .string a1, .slice A2 l2.length c2, .slice A3 l3.length c3] 25 (0, 0))) ∧ Aside0 (w'.heap[g']? = some (.cells #[.int .i64 a0, .string a1, .slice B2 l2.length d2, .slice B3 l3.length d3] 25 (0, 0))) ∧ Aside0 (Below w.heap.size w w'))
 case atStart => exact ⟨_, 0, rfl, ⟨rfl, Nat.zero_le _, Nat.le_refl _⟩, BK, BL, HB⟩
 case round =>
  clear x0 x1 x2 x3 y0 y1 y2 y3 u0 u1 u2 u3 v0 v1 v2 v3 BK BL HB
  obtain ⟨z, q, rfl, HQ, BK, BL, HB⟩ := hrel
  obtain ⟨x0, x1, x2, x3, y0, y1, y2, y3⟩ := cz4 BK.out
  obtain ⟨u0, u1, u2, u3, v0, v1, v2, v3⟩ := cz4 BL.out
  by_cases hq : q < l2.length
  ·cases gk with
   | zero => exact absurd HQ.out.2.2 (by omega)
   | succ gj =>
   have P0 : 0 ≤ z := by have := HQ.out.1; omega
   have P1 : z < (l2.length : Int) := by have := HQ.out; omega
   have c : decide (z < (l2.length : Int)) = true := ae P1
   have f1 : IntKind.i64.wrap (z + 1) = z + 1 := wq (by omega) (by have := HL.out; omega)
   have HM := ab (show gj < gj + 1 ∧ l2.length + 1 ≤ gj + (q + 1) ∧ q + 1 ≤ l2.length by have := HQ.out.2.2; omega)
   clear hq
   try go_wp2
   replace BK := ab (blk_drew BK.out)
   replace BL := ab (blk_drew BL.out)
   replace HB := ab (below_drew1 HB.out)
   obtain ⟨p, e, hx⟩ := Kd.at_string HR.out.1 z P0 P1
   cases e
   obtain ⟨q', e, hy⟩ := Kd.at_string HR.out.2 z P0 P1
   cases e
   have hw := hx
   have hv := hy
   have e1 : ((rdOf ByteArray.empty l2 z).toList != (rdOf ByteArray.empty l2 z).toList) = false := ak rfl
   replace hx := (aw HB.out hx)
   replace hy := (aw HB.out hy)
   replace P0 := ag P0
   replace P1 := ag P1
   refine st1 11 [] (S := fun w' => G4 w' g (.int .i64 a0) (.string a1) (.slice (some p) l2.length c2) (.slice A3 l3.length c3) (G4 w' g' (.int .i64 a0) (.string a1) (.slice (some q') l2.length d2) (.slice B3 l3.length d3) (w'.cell? (p.add z.toNat) = some (.string (rdOf ByteArray.empty l2 z)) ∧ w'.cell? (q'.add z.toNat) = some (.string (rdOf ByteArray.empty l2 z))))) (hS := ⟨(ay BK.out 0), (ay BK.out 1), (ay BK.out 2), (ay BK.out 3), (ay BL.out 0), (ay BL.out 1), (ay BL.out 2), (ay BL.out 3), (aw HB.out hw), (aw HB.out hv)⟩) (fun hHeld => ?_); refine with_tabW smtab6 smbits6 (fun HT_ HW_ => ?_)
   generalize wr.drew = w8 at BK BL HB hx hy hHeld ⊢
   refine pz 0 44 ?_
   refine pz 2 46 ?_
   refine pz 5 49 ?_
   refine pz 7 51 ?_
   refine tk10 1 45 ?_
   refine pz 3 47 ?_
   refine tk10 4 48 ?_
   refine tk10 6 50 ?_
   refine pz 8 52 ?_
   refine tk10 9 53 ?_
   refine pz 10 54 ?_
   refine dn1 ?_
   try go_wp2
   go_roundg gj
   case measure => exact HM.out.1
   case rel => exact ⟨_, q + 1, rfl, ⟨by have := HQ.out.1; omega, HM.out.2.2, HM.out.2.1⟩, BK, BL, HB⟩
  have c : decide (z < (l2.length : Int)) = false := af (by have := HQ.out.1; omega)
  clear hq
  go_wp2
  (try simp only [Act.put, ap, aq, ar])
  clear c HQ
  go_loopg [6] (l3.length + 1) (fun kq v6 w' => ∃ (z : Int) (q : Nat), v6 = .int .i64 z ∧ Aside0 (z = q ∧ q ≤ l3.length ∧ l3.length + 1 ≤ kq + q) ∧ Aside0 (w'.heap[g]? = some (.cells #[.int .i64 a0, .string a1, .slice A2 l2.length c2, .slice A3 l3.length c3] 25 (0, 0))) ∧ Aside0 (w'.heap[g']? = some (.cells #[.int .i64 a0, .string a1, .slice B2 l2.length d2, .slice B3 l3.length d3] 25 (0, 0))) ∧ Aside0 (Below w.heap.size w w'))
  case atStart => exact ⟨_, 0, rfl, ⟨rfl, Nat.zero_le _, Nat.le_refl _⟩, BK, BL, HB⟩
  case round =>
   clear x0 x1 x2 x3 y0 y1 y2 y3 u0 u1 u2 u3 v0 v1 v2 v3 BK BL HB
   obtain ⟨z, q, rfl, HQ, BK, BL, HB⟩ := hrel
   obtain ⟨x0, x1, x2, x3, y0, y1, y2, y3⟩ := cz4 BK.out
   obtain ⟨u0, u1, u2, u3, v0, v1, v2, v3⟩ := cz4 BL.out
   by_cases hq : q < l3.length
   ·cases gk with
    | zero => exact absurd HQ.out.2.2 (by omega)
    | succ gj =>
    have P0 : 0 ≤ z := by have := HQ.out.1; omega
    have P1 : z < (l3.length : Int) := by have := HQ.out; omega
    have c : decide (z < (l3.length : Int)) = true := ae P1
    have f1 : IntKind.i64.wrap (z + 1) = z + 1 := wq (by omega) (by have := HL.out; omega)
    have HM := ab (show gj < gj + 1 ∧ l3.length + 1 ≤ gj + (q + 1) ∧ q + 1 ≤ l3.length by have := HQ.out.2.2; omega)
    have HK := ab (show SmC (rd_T25 l3 z) from HI.out _ Z89)
    clear hq
    try go_wp2
    replace BK := ab (blk_drew BK.out)
    replace BL := ab (blk_drew BL.out)
    replace HB := ab (below_drew1 HB.out)
    obtain ⟨p, E2, e2, E3, e3, e, a0', a1', a2', a3', m2, i2, m3, i3⟩ := at_T25 HS.out.1 z P0 P1
    cases e
    obtain ⟨q', F2, f2, F3, f3, e, b0', b1', b2', b3', n2', j2, n3', j3⟩ := at_T25 HS.out.2 z P0 P1
    cases e
    have HE := ab (And.intro (And.intro i2 i3) (And.intro j2 j3))
    have HF := ab (And.intro (And.intro a0' (And.intro a1' (And.intro a2' a3'))) (And.intro b0' (And.intro b1' (And.intro b2' b3'))))
    clear i2 i3 j2 j3 m2 m3 n2' n3'
    have hF : ∀ w1, Below w.heap.size w w1 → (fun w' => (w'.cell? (p.add (z.toNat * 4)) = some (.int .i64 (rd_T25 l3 z).f0) ∧ w'.cell? ⟨(p.add (z.toNat * 4)).block, (p.add (z.toNat * 4)).off + 1, none⟩ = some (.string (rd_T25 l3 z).f1) ∧ w'.cell? ⟨(p.add (z.toNat * 4)).block, (p.add (z.toNat * 4)).off + 2, none⟩ = some (.slice E2 (rd_T25 l3 z).f2.length e2) ∧ w'.cell? ⟨(p.add (z.toNat * 4)).block, (p.add (z.toNat * 4)).off + 3, none⟩ = some (.slice E3 (rd_T25 l3 z).f3.length e3)) ∧ w'.cell? (q'.add (z.toNat * 4)) = some (.int .i64 (rd_T25 l3 z).f0) ∧ w'.cell? ⟨(q'.add (z.toNat * 4)).block, (q'.add (z.toNat * 4)).off + 1, none⟩ = some (.string (rd_T25 l3 z).f1) ∧ w'.cell? ⟨(q'.add (z.toNat * 4)).block, (q'.add (z.toNat * 4)).off + 2, none⟩ = some (.slice F2 (rd_T25 l3 z).f2.length f2) ∧ w'.cell? ⟨(q'.add (z.toNat * 4)).block, (q'.add (z.toNat * 4)).off + 3, none⟩ = some (.slice F3 (rd_T25 l3 z).f3.length f3)) w1 := fun w1 hb => by
     obtain ⟨⟨h1, h2, h3, h4⟩, h5, h6, h7, h8⟩ := HF.out
     exact ⟨⟨aw hb h1, aw hb h2, aw hb h3, aw hb h4⟩, aw hb h5, aw hb h6, aw hb h7, aw hb h8⟩
    clear a0' a1' a2' a3' b0' b1' b2' b3'
    obtain ⟨⟨a0', a1', a2', a3'⟩, b0', b1', b2', b3'⟩ := hF _ HB.out
    have HG := ab hF
    clear hF
    replace P0 := ag P0
    replace P1 := ag P1
    refine st1 12 [] (S := fun w' => G4 w' g (.int .i64 a0) (.string a1) (.slice A2 l2.length c2) (.slice (some p) l3.length c3) (G4 w' g' (.int .i64 a0) (.string a1) (.slice B2 l2.length d2) (.slice (some q') l3.length d3) (w'.cell? (p.add (z.toNat * 4)) = some (.int .i64 (rd_T25 l3 z).f0) ∧ w'.cell? ⟨(p.add (z.toNat * 4)).block, (p.add (z.toNat * 4)).off + 1, none⟩ = some (.string (rd_T25 l3 z).f1) ∧ w'.cell? ⟨(p.add (z.toNat * 4)).block, (p.add (z.toNat * 4)).off + 2, none⟩ = some (.slice E2 (rd_T25 l3 z).f2.length e2) ∧ w'.cell? ⟨(p.add (z.toNat * 4)).block, (p.add (z.toNat * 4)).off + 3, none⟩ = some (.slice E3 (rd_T25 l3 z).f3.length e3) ∧ w'.cell? (q'.add (z.toNat * 4)) = some (.int .i64 (rd_T25 l3 z).f0) ∧ w'.cell? ⟨(q'.add (z.toNat * 4)).block, (q'.add (z.toNat * 4)).off + 1, none⟩ = some (.string (rd_T25 l3 z).f1) ∧ w'.cell? ⟨(q'.add (z.toNat * 4)).block, (q'.add (z.toNat * 4)).off + 2, none⟩ = some (.slice F2 (rd_T25 l3 z).f2.length f2) ∧ w'.cell? ⟨(q'.add (z.toNat * 4)).block, (q'.add (z.toNat * 4)).off + 3, none⟩ = some (.slice F3 (rd_T25 l3 z).f3.length f3)))) (hS := ⟨(ay BK.out 0), (ay BK.out 1), (ay BK.out 2), (ay BK.out 3), (ay BL.out 0), (ay BL.out 1), (ay BL.out 2), (ay BL.out 3), a0', a1', a2', a3', b0', b1', b2', b3'⟩) (fun hHeld => ?_); refine with_tabW smtab11 smbits11 (fun HT_ HW_ => ?_)
    generalize wr.drew = w8 at BK BL HB a0' a1' a2' a3' b0' b1' b2' b3' hHeld ⊢
    refine pz 0 62 ?_
    refine pz 2 64 ?_
    refine pz 5 67 ?_
    refine pz 7 69 ?_
    refine tk16 1 63 ?_
    refine pz 3 65 ?_
    refine tk16 4 66 ?_
    refine tk16 6 68 ?_
    refine pz 8 70 ?_
    refine tk16 9 71 ?_
    refine on1 10 (some 72) fun K hK => ?_
    refine goes_ Tryz.func29 (by kernel_rfl) rfl #[.agg #[.int .i64 (rd_T25 l3 z).f0, .string (rd_T25 l3 z).f1, .slice E2 (rd_T25 l3 z).f2.length e2, .slice E3 (rd_T25 l3 z).f3.length e3], .agg #[.int .i64 (rd_T25 l3 z).f0, .string (rd_T25 l3 z).f1, .slice F2 (rd_T25 l3 z).f2.length f2, .slice F3 (rd_T25 l3 z).f3.length f3]] (by rfl) rfl rfl Z28 ?_
    refine (HK.out _ _ _ _ _ _ _ _ _ (Kd.C_below HE.out.1.1 HB.out) (Kd.C_below HE.out.1.2 HB.out) (Kd.C_below HE.out.2.1 HB.out) (Kd.C_below HE.out.2.2 HB.out)).mono ?_
    rintro e w9 ⟨rfl, hb⟩
    refine ⟨_, rfl, ?_⟩
    replace BK := ab (blk_below BK.out hb)
    replace BL := ab (blk_below BL.out hb)
    replace HB := ab (below_step (w := w) zB hb)
    clear hb
    obtain ⟨⟨c0, c1', c2', c3'⟩, c4, c5, c6, c7⟩ := HG.out _ HB.out
    refine hK.out _ _ ⟨(ay BK.out 0), (ay BK.out 1), (ay BK.out 2), (ay BK.out 3), (ay BL.out 0), (ay BL.out 1), (ay BL.out 2), (ay BL.out 3), c0, c1', c2', c3', c4, c5, c6, c7⟩ (fun hHeld => ?_)
    clear hK K
    refine norm_ (a' := ?_) ?_ ?_
    rotate_left
    ·show Act.put _ (some 72) _ = _
     simp only [Act.put, ap, aq, ar, i64_w, i32_w]
     rfl
    refine pz 11 73 ?_
    refine dn1 ?_
    try go_wp2
    go_roundg gj
    case measure => exact HM.out.1
    case rel => exact ⟨_, q + 1, rfl, ⟨by have := HQ.out.1; omega, HM.out.2.2, HM.out.2.1⟩, BK, BL, HB⟩
   ·have c : decide (z < (l3.length : Int)) = false := af (by have := HQ.out.1; omega)
    clear hq
    go_wp2
    go_ret
    exact ⟨rfl, HB.out⟩
end
section
attribute [local go_sem] run_store_float max2_int min2_int max_two min_two max_three min_three max_four min_four
set_option linter.unusedVariables false
set_option linter.unusedSimpArgs false
def dY.T2 : Bool × List (List Nat × List Nat) := (true, [([], []), ([], []), ([1], [1]), ([2], [2]), ([3, 2, 2], [2, 3]), ([2, 4], [2, 4]), ([5, 4], [5]), ([6], [6]), ([7, 6], [6, 7]), ([8, 6, 6], [6, 8]), ([9, 6], [6, 9]), ([6, 10], [6, 10]), ([11, 9], [11]), ([12], [12]), ([12], [12]), ([14, 12], [12, 14]), ([15, 12], [12, 15]), ([13, 16, 12], [12, 13, 16]), ([17, 12, 12], [12, 17]), ([18, 12], [12, 18]), ([12, 19], [12, 19]), ([0, 18, 0], [0]), ([20, 21, 0, 1, 2, 3, 4, 5, 6, 7, 8, 9, 10, 11, 12, 13, 14, 15, 16, 17, 18, 19, 20, 21], [20])])
def dY.B2 : List Nat := [0, 0, 2, 6, 14, 30, 62, 126, 254, 510, 1022, 2046, 4094, 8190, 8190, 24574, 57342, 131070, 262142, 524286, 1048574, 524287, 4194303]
theorem dY.tab2 : rtab .any (opsOf Tryz.f13 2) = dY.T2 := by kernel_rfl
theorem dY.bits2 : waitsOk dY.T2.2 dY.B2 = true := by kernel_rfl
theorem blank_val (c : Int) : ∃ b, cG.f c = some b ∧ (b = false → ¬ isBlank c) := by
  unfold cG.f isBlank
  split
  · exact ⟨_, rfl, fun h => by cases h⟩
  · split
    · exact ⟨_, rfl, fun h => by cases h⟩
    · split
      · exact ⟨_, rfl, fun h => by cases h⟩
      · refine ⟨_, rfl, fun h => ?_⟩
        have := beq_eq_false_iff_ne.mp h
        omega
def NoBl (a0 : av) (ok : Bool) : Prop := ok = true ∧ ¬ isBlank (bt a0 0) ∧ ¬ isBlank (bt a0 ((a0.size : Int) - 1))
def BareOut (a0 : av) (jV : Int) (jW : av) (gW : List av) (hZ : List S25) (ok : Bool) (w : World) (e : Ending) (w' : World) : Prop := ∃ (v2_ v3_ : Value) (b : Bool), e = .returned (.tuple #[.agg #[.int .i64 jV, .string jW, v2_, v3_], .bool b]) ∧ Kd.R Kd.string 9 w' w.heap.size (fun _ => True) v2_ gW ∧ Kd.R k25 25 w' w.heap.size (fun k_ => some k_ ≠ (v2_ : Value).ownBlock) v3_ hZ ∧ Below w.heap.size w w' ∧ (b = true → NoBl a0 ok)
set_option maxHeartbeats 8000000 in
set_option maxRecDepth 100000 in
theorem bare_calls (bX : dA) (k : Nat) (a0 : av) (jV : Int) (jW : av) (gW : List av) (hZ : List S25) (ok : Bool) (w : World) (h : cT.f bX k a0 = some (jV, jW, gW, hZ, ok))
  (hU : ok = true → ∀ A2 c2 A3 c3 w, Kd.C Kd.string w A2 gW.length gW → gW.length ≤ c2 → Kd.C k25 w A3 hZ.length hZ → hZ.length ≤ c3 → Calls Tryz.prog 30 #[.agg #[.int .i64 jV, .string jW, .slice A2 gW.length c2, .slice A3 hZ.length c3]] w fun e w' => (∃ b, e = .returned (.bool b)) ∧ Below w.heap.size w w')
  (hz : ok = true → 0 < a0.size ∧ a0.size ≤ 1000000) :
  Calls Tryz.prog 13 #[.string a0] w (BareOut a0 jV jW gW hZ ok w) := by
 have hu25 := Tryz.underlying25
 have HB := ab (Below.refl w.heap.size w)
 have A2 := ab h
 have HU := ab hU
 have HS := ab hz
 obtain ⟨c1, hc1⟩ := blank_val (bt a0 0)
 obtain ⟨pK, hji⟩ : ∃ j : Int, j = (a0.size : Int) - 1 := ⟨_, rfl⟩
 obtain ⟨c2, hc2⟩ := blank_val (bt a0 pK)
 have C1 := ab hc1
 have C2 := ab hc2
 have HJ := ab hji
 clear h hU hz hc1 hc2 hji
 go_enter Tryz.func13, Tryz.ntmps13
 try go_wp2_with (first | (refine ax 2 #[.int .i64 0, .string (⟨#[]⟩ : av), .slice none 0 0, .slice none 0 0] 25 ?_; intro eF hg w29 hbox hb; have jX := ab (hbox); have acC : Aside0 (w.heap.size ≤ eF) := ⟨Z24⟩; have acD : Aside0 (w.heap.size ≤ eF) := ⟨Z24⟩; replace HB := ab (below_step (w := w) zB hb); clear hb hbox hg) | (refine gl 6 (some 8) Tryz.func6 #[.string a0] ?_; (with_reducible refine (cT.calls bX k a0 jV jW gW hZ ok _ A2.out).mono ?_); rintro e w30 ⟨v568, v571, rfl, ho0, ho1, hb⟩; refine ⟨_, rfl, ?_⟩; have gX := ab (Kd.R_lower ho0 (below_size zB)); have gU := ab (Kd.R_lower (Kd.R_newB ho1 (g := eF) zC) (below_size zB)); replace jX := ab (blk_below (g := eF) zC hb); replace HB := ab (below_step (w := w) zB hb); clear hb ho0 ho1) | (refine ax 4 #[.int .i64 0, .string (⟨#[]⟩ : av), .slice none 0 0, .slice none 0 0] 25 ?_; intro fD hg w31 hbox hb; replace gX := ab (Kd.R_below (by (with_reducible repeat (first | apply Kd.R_alloc | apply Kd.R_drewN | apply Kd.R_drew)); exact gX.out) hb); replace gU := ab (Kd.R_below (Kd.R_elderB (by (with_reducible repeat (first | apply Kd.R_alloc | apply Kd.R_drewN | apply Kd.R_drew)); exact gU.out) fD (Nat.le_of_eq hg.symm)) hb); have lJ := ab (hbox); have acE : Aside0 (w.heap.size ≤ fD) := ⟨Z24⟩; have acF : Aside0 (w.heap.size ≤ fD) := ⟨Z24⟩; replace HB := ab (below_step (w := w) zB hb); have mP : Aside0 (eF ≠ fD) := ⟨by rw [hg]; exact Nat.ne_of_lt (blk_lt (g := eF) zC)⟩; have mQ : Aside0 (fD ≠ eF) := ⟨by rw [hg]; exact Nat.ne_of_gt (blk_lt (g := eF) zC)⟩; replace jX := ab (blk_below (g := eF) zC hb); clear hb hbox hg; have acG := mQ.out; have acH := mP.out; obtain ⟨vJ, vK, Lo, Lp, vL, vM, Lq, Lr⟩ := cz4 lJ.out; obtain ⟨lK, co34, eo34⟩ := Kd.R_slice gX.out; subst eo34; obtain ⟨fE, co35, eo35⟩ := Kd.R_slice gU.out; subst eo35))
 generalize hq_ : World.setCell _ _ _ = w36
 replace gX : Aside0 (Kd.R Kd.string 9 w36 w.heap.size (fun _ => True) (.slice lK gW.length co34) gW) := ⟨by subst hq_; (with_reducible repeat (first | apply Kd.R_alloc | apply Kd.R_drewN | apply Kd.R_drew)); exact Kd.R_mono (Kd.R_far (p := ⟨fD, 3, none⟩) (Kd.R_far (p := ⟨fD, 2, none⟩) (Kd.R_far (p := ⟨fD, 1, none⟩) (Kd.R_far (p := ⟨fD, 0, none⟩) (Kd.R_types gX.out lJ.out (by decide)) (fun _ hk => hk.2) (.int .i64 jV)) (fun _ hk => hk.2) (.string jW)) (fun _ hk => hk.2) (.slice lK gW.length co34)) (fun _ hk => hk.2) (.slice fE hZ.length co35)) (fun _ hk => trivial)⟩
 replace gU : Aside0 (Kd.R k25 25 w36 w.heap.size (fun k_ => some k_ ≠ (.slice lK gW.length co34 : Value).ownBlock ∧ k_ ≠ eF ∧ k_ ≠ fD) (.slice fE hZ.length co35) hZ) := ⟨by subst hq_; (with_reducible repeat (first | apply Kd.R_alloc | apply Kd.R_drewN | apply Kd.R_drew)); exact Kd.R_mono (Kd.R_far (p := ⟨fD, 3, none⟩) (Kd.R_far (p := ⟨fD, 2, none⟩) (Kd.R_far (p := ⟨fD, 1, none⟩) (Kd.R_far (p := ⟨fD, 0, none⟩) (Kd.R_mono gU.out (fun k_ hk => (⟨hk, hk.2⟩ : _ ∧ k_ ≠ fD))) (fun _ hk => hk.2) (.int .i64 jV)) (fun _ hk => hk.2) (.string jW)) (fun _ hk => hk.2) (.slice lK gW.length co34)) (fun _ hk => hk.2) (.slice fE hZ.length co35)) (fun _ hk => ⟨hk.1.1.1, ⟨hk.1.1.2, hk.1.2⟩⟩)⟩
 replace jX := sqC (g := eF) hq_ ⟨zC⟩
 replace lJ : Aside0 (w36.heap[fD]? = some (.cells #[.int .i64 jV, .string jW, .slice lK gW.length co34, .slice fE hZ.length co35] 25 (0, 0))) := ⟨by subst hq_; exact zC⟩
 replace HB : Aside0 (Below w.heap.size w w36) := ⟨by subst hq_; exact zB⟩
 clear hq_
 replace gX := ab (Kd.R_drew gX.out)
 replace gU := ab (Kd.R_drew gU.out)
 replace jX := ab (blk_drew jX.out)
 replace lJ := ab (blk_drew lJ.out)
 replace HB := ab (below_drew1 HB.out)
 refine st1 23 [] (S := fun w' => H4 w' fD (.int .i64 jV) (.string jW) (.slice lK gW.length co34) (.slice fE hZ.length co35)) (fun hHeld => ?_); refine with_tabW dY.tab2 dY.bits2 (fun HT_ HW_ => ?_)
 generalize w36.drew = w37 at gX gU jX lJ HB hHeld ⊢
 refine pz 1 12 ?_
 refine pz 2 13 ?_
 cases ok
 refine pu 3 14 ?_
 refine pu 4 15 ?_
 refine pz 5 16 ?_
 refine pz 6 17 ?_
 refine pu 7 18 ?_
 refine pu 8 19 ?_
 refine pu 9 20 ?_
 refine pu 10 21 ?_
 refine pz 11 22 ?_
 refine pz 12 23 ?_
 refine pu 13 24 ?_
 refine pu 14 25 ?_
 refine pu 15 26 ?_
 refine pu 16 27 ?_
 refine pu 17 28 ?_
 refine pu 18 29 ?_
 refine pu 19 30 ?_
 refine pz 20 31 ?_
 refine tk4 0 11 ?_
 have HZ := ab (show false = true → NoBl a0 false from fun h => by cases h)
 rotate_left
 have q7 : 0 < a0.size := (HS.out rfl).1
 have hx7 : ∀ h : 0 < a0.size, ((a0[0]'h).toNat : Int) = bt a0 0 := bt_at a0 0
 have qi7 : (0 < (a0.size : Int)) = True := ag (by omega)
 have hji24w : IntKind.i64.wrap ((a0.size : Int) - 1) = pK := ((i64_w _).trans (by unfold wrap64; have := (HS.out rfl).2; omega)).trans HJ.out.symm
 have p27 : (0 ≤ pK) = True := ag (by have := HJ.out; omega)
 have q27 : (pK < (a0.size : Int)) = True := ag (by have := HJ.out; omega)
 have hx27 := bt_at a0 pK
 refine tk4 0 11 ?_
 refine tk4 3 14 ?_
 refine on1 4 (some 15) fun K hK => ?_
 refine goes_ Tryz.func30 (by kernel_rfl) rfl #[.agg #[.int .i64 jV, .string jW, .slice lK gW.length co34, .slice fE hZ.length co35]] (by rfl) rfl rfl Z15 ?_
 refine (HU.out rfl _ _ _ _ _ (Kd.R_reads' gX.out).2.2 (Kd.R_reads' gX.out).2.1 (Kd.R_reads' gU.out).2.2 (Kd.R_reads' gU.out).2.1).mono ?_
 rintro e w38 ⟨⟨b, rfl⟩, hb⟩
 refine ⟨_, rfl, ?_⟩
 replace gX := ab (Kd.R_below (by (with_reducible repeat (first | apply Kd.R_alloc | apply Kd.R_drewN | apply Kd.R_drew)); exact gX.out) hb)
 replace gU := ab (Kd.R_below (by (with_reducible repeat (first | apply Kd.R_alloc | apply Kd.R_drewN | apply Kd.R_drew)); exact gU.out) hb)
 replace jX := ab (blk_below (g := eF) zC hb)
 replace lJ := ab (blk_below (g := fD) zC hb)
 replace HB := ab (below_step (w := w) zB hb)
 try clear hb hk
 refine hK.out _ _ zS (fun hHeld => ?_)
 clear hK K
 focus
  refine norm_ (a' := ?_) ?_ ?_
  rotate_left
  ·show Act.put _ (some 15) _ = _
   simp only [Act.put, ap, aq, ar, i64_w, i32_w]
   rfl
 refine pz 5 16 ?_
 refine pz 6 17 ?_
 cases b
 refine pu 7 18 ?_
 refine pu 8 19 ?_
 refine pu 9 20 ?_
 refine pu 10 21 ?_
 refine pz 11 22 ?_
 refine pz 12 23 ?_
 refine pu 13 24 ?_
 refine pu 14 25 ?_
 refine pu 15 26 ?_
 refine pu 16 27 ?_
 refine pu 17 28 ?_
 refine pu 18 29 ?_
 refine pu 19 30 ?_
 refine pz 20 31 ?_
 have HZ := ab (show false = true → NoBl a0 true from fun h => by cases h)
 rotate_left
 refine pz 7 18 ?_
 refine tk4 8 19 ?_
 refine on1 9 (some 20) fun K hK => ?_
 refine goes_ Tryz.func31 (by kernel_rfl) rfl #[.int .u8 (bt a0 0)] (by rfl) rfl rfl Z15 ?_
 with_reducible refine (cG.calls (bt a0 0) c1 _ C1.out.1).mono ?_
 rintro e w' ⟨rfl, ⟨nd, rfl⟩⟩
 refine ⟨_, rfl, ?_⟩
 refine hK.out _ _ zS (fun hHeld => ?_)
 clear hK K
 focus
  refine norm_ (a' := ?_) ?_ ?_
  rotate_left
  ·show Act.put _ (some 20) _ = _
   simp only [Act.put, ap, aq, ar, i64_w, i32_w]
   rfl
 refine pz 10 21 ?_
 refine pz 11 22 ?_
 refine pz 12 23 ?_
 cases c1
 rotate_left
 refine pu 13 24 ?_
 refine pu 14 25 ?_
 refine pu 15 26 ?_
 refine pu 16 27 ?_
 refine pu 17 28 ?_
 refine pu 18 29 ?_
 refine pu 19 30 ?_
 refine pz 20 31 ?_
 have HZ := ab (show false = true → NoBl a0 true from fun h => by cases h)
 rotate_left 3
 refine pz 13 24 ?_
 refine pz 14 25 ?_
 refine pz 15 26 ?_
 refine pz 16 27 ?_
 refine tk4 17 28 ?_
 refine on1 18 (some 29) fun K hK => ?_
 refine goes_ Tryz.func31 (by kernel_rfl) rfl #[.int .u8 (bt a0 pK)] (by rfl) rfl rfl Z15 ?_
 with_reducible refine (cG.calls (bt a0 pK) c2 _ C2.out.1).mono ?_
 rintro e w' ⟨rfl, ⟨nd, rfl⟩⟩
 refine ⟨_, rfl, ?_⟩
 refine hK.out _ _ zS (fun hHeld => ?_)
 clear hK K
 focus
  refine norm_ (a' := ?_) ?_ ?_
  rotate_left
  ·show Act.put _ (some 29) _ = _
   simp only [Act.put, ap, aq, ar, i64_w, i32_w]
   rfl
 refine pz 19 30 ?_
 refine pz 20 31 ?_
 have HZ := ab (show (!c2) = true → NoBl a0 true from fun h => ⟨rfl, C1.out.2 rfl, by rw [← HJ.out]; exact C2.out.2 (by cases c2 <;> first | rfl | cases h)⟩)
 all_goals
  refine on1 21 none fun K hK => ?_
  obtain ⟨ajU, ajV, ajW, ajX, acI, acJ, acK, acL⟩ := cz4 jX.out
  have hns39_1 := mQ.out
  have hms39_1 := mP.out
  refine sk1 ?_
  refine hK.out _ _ zS (fun hHeld => ?_)
  clear hK K
  refine pz 22 3 ?_
  refine dn1 ?_
  try go_wp2
  refine bodyPost_ret (results_ct rfl _ _ eF 25 #[.int .i64 jV, .string jW, .slice lK gW.length co34, .slice fE hZ.length co35] (0, 0) _ rfl zC Tryz.underlying25 rfl (by kernel_rfl)) rfl ?_
  exact ⟨_, _, _, by first | rfl | (simp; done), by (with_reducible repeat (first | apply Kd.R_alloc | apply Kd.R_drewN | apply Kd.R_drew)); exact Kd.R_mono (Kd.R_far (p := ⟨eF, 3, none⟩) (Kd.R_far (p := ⟨eF, 2, none⟩) (Kd.R_far (p := ⟨eF, 1, none⟩) (Kd.R_far (p := ⟨eF, 0, none⟩) (Kd.R_types gX.out jX.out (by decide)) (fun _ hk => hk.2) (.int .i64 jV)) (fun _ hk => hk.2) (.string jW)) (fun _ hk => hk.2) (.slice lK gW.length co34)) (fun _ hk => hk.2) (.slice fE hZ.length co35)) (fun _ hk => trivial), by (with_reducible repeat (first | apply Kd.R_alloc | apply Kd.R_drewN | apply Kd.R_drew)); exact Kd.R_mono (Kd.R_far (p := ⟨eF, 3, none⟩) (Kd.R_far (p := ⟨eF, 2, none⟩) (Kd.R_far (p := ⟨eF, 1, none⟩) (Kd.R_far (p := ⟨eF, 0, none⟩) (Kd.R_mono (show Kd.R k25 25 _ w.heap.size (fun k_ => some k_ ≠ (.slice lK gW.length co34 : Value).ownBlock ∧ k_ ≠ eF ∧ k_ ≠ fD) _ _ from by first | exact gU.out | exact Kd.R_drewN gU.out _) (fun k_ hk => (⟨hk, hk.2.1⟩ : _ ∧ k_ ≠ eF))) (fun _ hk => hk.2) (.int .i64 jV)) (fun _ hk => hk.2) (.string jW)) (fun _ hk => hk.2) (.slice lK gW.length co34)) (fun _ hk => hk.2) (.slice fE hZ.length co35)) (fun _ hk => hk.1.1), zB, HZ.out⟩
end
section
set_option maxHeartbeats 8000000
set_option maxRecDepth 100000
attribute [local go_sem] run_store_float max2_int min2_int max_two min_two max_three min_three max_four min_four
set_option linter.unusedVariables false
set_option linter.unusedSimpArgs false
theorem reads_calls (bX : dA) (k : Nat) (a0 : av) (T0 : Int) (T1 : av) (A1_2 : Option Addr) (c1_2 : Nat) (T2 : List av) (A1_3 : Option Addr) (c1_3 : Nat) (T3 : List S25) (w : World) (hr1_2 : Kd.C Kd.string w A1_2 T2.length T2) (hr1_3 : Kd.C k25 w A1_3 T3.length T3) (h : dR.f bX k a0 = some (T0, T1, T2, T3, true)) (hs : SmC ⟨T0, T1, T2, T3⟩) :
 Calls Tryz.prog 14 #[.string a0, .agg #[.int .i64 T0, .string T1, .slice A1_2 T2.length c1_2, .slice A1_3 T3.length c1_3]] w fun e w' => e = .returned (.bool true) ∧ Below w.heap.size w w' := by
 have hu25 := Tryz.underlying25
 have Eb := ab hr1_2
 have qI := ab hr1_3
 have A3 := ab h
 have HS := ab hs
 have HB := ab (Below.refl w.heap.size w)
 clear h hr1_2 hr1_3 hs
 go_enter Tryz.func14, Tryz.ntmps14
 go_wp2_with (first | (refine ax 3 #[.int .i64 T0, .string T1, .slice A1_2 T2.length c1_2, .slice A1_3 T3.length c1_3] 25 ?_; intro jF hg w6 hbox hb; have tH := ab (hbox); have acM : Aside0 (w.heap.size ≤ jF) := ⟨Z24⟩; have acN : Aside0 (w.heap.size ≤ jF) := ⟨Z24⟩; replace HB := ab (below_step (w := w) zB hb); clear hb hbox hg) | (refine gl 18 (some 9) Tryz.func18 #[.string a0] ?_; (with_reducible refine (dR.calls bX k a0 T0 T1 T2 T3 true _ A3.out).mono ?_); rintro e w7 ⟨v582, v585, rfl, ho0, ho1, hb⟩; refine ⟨_, rfl, ?_⟩; have qJ := ab (Kd.R_lower ho0 (below_size zB)); have qK := ab (Kd.R_lower (Kd.R_newB ho1 (g := jF) zC) (below_size zB)); replace tH := ab (blk_below (g := jF) zC hb); replace HB := ab (below_step (w := w) zB hb); clear hb ho0 ho1) | (refine ax 5 #[.int .i64 0, .string (⟨#[]⟩ : av), .slice none 0 0, .slice none 0 0] 25 ?_; intro gP hg w8 hbox hb; replace qJ := ab (Kd.R_below (by (with_reducible repeat (first | apply Kd.R_alloc | apply Kd.R_drewN | apply Kd.R_drew)); exact qJ.out) hb); replace qK := ab (Kd.R_below (Kd.R_elderB (by (with_reducible repeat (first | apply Kd.R_alloc | apply Kd.R_drewN | apply Kd.R_drew)); exact qK.out) gP (Nat.le_of_eq hg.symm)) hb); have Aq := ab (hbox); have acO : Aside0 (w.heap.size ≤ gP) := ⟨Z24⟩; have acP : Aside0 (w.heap.size ≤ gP) := ⟨Z24⟩; replace HB := ab (below_step (w := w) zB hb); have sK : Aside0 (jF ≠ gP) := ⟨by rw [hg]; exact Nat.ne_of_lt (blk_lt (g := jF) zC)⟩; have sL : Aside0 (gP ≠ jF) := ⟨by rw [hg]; exact Nat.ne_of_gt (blk_lt (g := jF) zC)⟩; replace tH := ab (blk_below (g := jF) zC hb); clear hb hbox hg; have Ec := sL.out; have Ed := sK.out; obtain ⟨lE, lF, qL, qM, lG, lH, qN, qO⟩ := cz4 Aq.out; obtain ⟨iK, co11, eo11⟩ := Kd.R_slice qJ.out; subst eo11; obtain ⟨mW, co12, eo12⟩ := Kd.R_slice qK.out; subst eo12; obtain ⟨mX, mY, vN, vO, mZ, nA, vP, vQ⟩ := cz4 tH.out) | (go_at_call 29; refine (HS.out _ _ _ _ _ _ _ _ _ ?side1 ?side3 ?side5 ?side7).mono ?_; (case side1 => refine (Kd.R_reads' (e := 9) (base := w.heap.size) (ok := fun k_ => True) (n := T2.length) (c := co11) ?_).2.2; exact (by (with_reducible repeat (first | apply Kd.R_alloc | apply Kd.R_drewN | apply Kd.R_drew)); exact (Kd.R_mono (Kd.R_far (p := ⟨gP, 3, none⟩) (Kd.R_far (p := ⟨gP, 2, none⟩) (Kd.R_far (p := ⟨gP, 1, none⟩) (Kd.R_far (p := ⟨gP, 0, none⟩) (Kd.R_types qJ.out Aq.out (by decide)) (fun _ hk => hk.2) (.int .i64 T0)) (fun _ hk => hk.2) (.string T1)) (fun _ hk => hk.2) (.slice iK T2.length co11)) (fun _ hk => hk.2) (.slice mW T3.length co12)) (fun _ h_ => h_.1)))); (case side3 => refine (Kd.R_reads' (e := 25) (base := w.heap.size) (ok := fun k_ => ((some k_ ≠ (.slice iK T2.length co11 : Value).ownBlock ∧ k_ ≠ jF) ∧ k_ ≠ gP)) (n := T3.length) (c := co12) ?_).2.2; exact (by (with_reducible repeat (first | apply Kd.R_alloc | apply Kd.R_drewN | apply Kd.R_drew)); exact (Kd.R_mono (Kd.R_far (p := ⟨gP, 3, none⟩) (Kd.R_far (p := ⟨gP, 2, none⟩) (Kd.R_far (p := ⟨gP, 1, none⟩) (Kd.R_far (p := ⟨gP, 0, none⟩) (Kd.R_mono qK.out (fun k_ hk => (⟨hk, hk.2⟩ : _ ∧ k_ ≠ gP))) (fun _ hk => hk.2) (.int .i64 T0)) (fun _ hk => hk.2) (.string T1)) (fun _ hk => hk.2) (.slice iK T2.length co11)) (fun _ hk => hk.2) (.slice mW T3.length co12)) (fun _ h_ => h_.1)))); (case side5 => exact Kd.C_below Eb.out zB); (case side7 => exact Kd.C_below qI.out zB); rintro e w14 ⟨rfl, hb⟩; replace HB := ab (below_step (w := w) zB hb); clear hb))
 go_ret
 exact ⟨rfl, zB⟩
def RevOK (a0 : av) (nB : Int) (nC : av) (jY : List av) (kJ : List S25) : Prop := ∃ vR vS : av, (∀ w, Wok w → Calls Tryz.prog 15 #[.string a0] w fun e w' => e = .returned (.string vR) ∧ Below w.heap.size w w') ∧ (∀ w, Wok w → Calls Tryz.prog 15 #[.string vR] w fun e w' => e = .returned (.string vS) ∧ Below w.heap.size w w') ∧
 ∀ A2 c2 A3 c3 w, Kd.C Kd.string w A2 jY.length jY → Kd.C k25 w A3 kJ.length kJ → Calls Tryz.prog 14 #[.string vS, .agg #[.int .i64 nB, .string nC, .slice A2 jY.length c2, .slice A3 kJ.length c3]] w fun e w' => e = .returned (.bool true) ∧ Below w.heap.size w w'
def rlT4 : Bool × List (List Nat × List Nat) := (true, [([], []), ([0], [0]), ([1], [1]), ([2], [2]), ([3, 2, 2], [2, 3]), ([4, 4, 2], [2, 4]), ([2], [2]), ([5, 6, 5, 2], [2, 5, 6]), ([2, 7], [2, 7]), ([8, 7, 0, 1, 2, 3, 4, 5, 6, 7, 8], [8])])
def rlB4 : List Nat := [0, 1, 3, 7, 15, 31, 7, 127, 255, 511]
theorem rltab4 : rtab .any (opsOf Tryz.f5 4) = rlT4 := by kernel_rfl
theorem rlbits4 : waitsOk rlT4.2 rlB4 = true := by kernel_rfl
theorem law_big (a0 : av) (w : World) (hz : 2147483647 < (a0.size : Int)) : Calls Tryz.prog 5 #[.string a0] w fun e w' => e = .returned (.bool true) ∧ Below w.heap.size w w' := by
 have gJ : decide (2147483647 < (a0.size : Int)) = true := ae hz
 have nD : decide (2147483647 < a0.size) = true := ae (by omega)
 go_enter Tryz.func5, Tryz.ntmps5
 go_wp2
 go_ret
 exact ⟨rfl, Below.refl _ _⟩
theorem law_calls (a0 : av) (nB : Int) (nC : av) (jY : List av) (kJ : List S25) (ok : Bool) (w : World) (hW : Wok w) (hz : (a0.size : Int) ≤ 2147483647) (hB : ∀ w, Calls Tryz.prog 13 #[.string a0] w (BareOut a0 nB nC jY kJ ok w)) (hR : NoBl a0 ok → RevOK a0 nB nC jY kJ) :
 Calls Tryz.prog 5 #[.string a0] w fun e w' => e = .returned (.bool true) ∧ Below w.heap.size w w' := by
 have hu25 := Tryz.underlying25
 have HWK := ab hW
 have HBR := ab hB
 have HRV := ab hR
 have gJ : decide (2147483647 < (a0.size : Int)) = false := af (by omega)
 have nD : decide (2147483647 < a0.size) = false := af (by omega)
 have HB := ab (Below.refl w.heap.size w)
 clear hW hB hR hz
 go_enter Tryz.func5, Tryz.ntmps5
 try go_wp2_with (first | (refine gl 13 (some 10) Tryz.func13 #[.string a0] ?_; (refine (HBR.out _).mono ?_); rintro e w8 ⟨v597, v600, b, rfl, ho0, ho1, hb, hnb⟩; refine ⟨_, rfl, ?_⟩; have HN := ab hnb; clear hnb; have iH := ab (Kd.R_lower ho0 (below_size zB)); have iI := ab (Kd.R_lower ho1 (below_size zB)); replace HB := ab (below_step (w := w) zB hb); clear hb ho0 ho1) | (refine ax 3 #[.int .i64 0, .string (⟨#[]⟩ : av), .slice none 0 0, .slice none 0 0] 25 ?_; intro fJ hg w9 hbox hb; replace iH := ab (Kd.R_below Z49 hb); replace iI := ab (Kd.R_below (Kd.R_elderB Z48 fJ (Nat.le_of_eq hg.symm)) hb); have jZ := ab (hbox); have acQ : Aside0 (w.heap.size ≤ fJ) := ⟨Z24⟩; have acR : Aside0 (w.heap.size ≤ fJ) := ⟨Z24⟩; replace HB := ab (below_step (w := w) zB hb); clear hb hbox hg; obtain ⟨lE, lF, qL, qM, lG, lH, qN, qO⟩ := cz4 jZ.out; obtain ⟨iK, co11, eo11⟩ := Kd.R_slice iH.out; subst eo11; obtain ⟨mW, co12, eo12⟩ := Kd.R_slice iI.out; subst eo12))
 generalize hq_ : World.setCell _ _ _ = w13
 replace iH : Aside0 (Kd.R Kd.string 9 w13 w.heap.size (fun _ => True) (.slice iK jY.length co11) jY) := ⟨by subst hq_; (with_reducible repeat (first | apply Kd.R_alloc | apply Kd.R_drewN | apply Kd.R_drew)); exact Kd.R_mono (Kd.R_far (p := ⟨fJ, 3, none⟩) (Kd.R_far (p := ⟨fJ, 2, none⟩) (Kd.R_far (p := ⟨fJ, 1, none⟩) (Kd.R_far (p := ⟨fJ, 0, none⟩) (Kd.R_types iH.out jZ.out (by decide)) (fun _ hk => hk.2) (.int .i64 nB)) (fun _ hk => hk.2) (.string nC)) (fun _ hk => hk.2) (.slice iK jY.length co11)) (fun _ hk => hk.2) (.slice mW kJ.length co12)) (fun _ hk => trivial)⟩
 replace iI : Aside0 (Kd.R k25 25 w13 w.heap.size (fun k_ => some k_ ≠ (.slice iK jY.length co11 : Value).ownBlock ∧ k_ ≠ fJ) (.slice mW kJ.length co12) kJ) := ⟨by subst hq_; (with_reducible repeat (first | apply Kd.R_alloc | apply Kd.R_drewN | apply Kd.R_drew)); exact Kd.R_mono (Kd.R_far (p := ⟨fJ, 3, none⟩) (Kd.R_far (p := ⟨fJ, 2, none⟩) (Kd.R_far (p := ⟨fJ, 1, none⟩) (Kd.R_far (p := ⟨fJ, 0, none⟩) (Kd.R_mono iI.out (fun k_ hk => (⟨hk, hk.2⟩ : _ ∧ k_ ≠ fJ))) (fun _ hk => hk.2) (.int .i64 nB)) (fun _ hk => hk.2) (.string nC)) (fun _ hk => hk.2) (.slice iK jY.length co11)) (fun _ hk => hk.2) (.slice mW kJ.length co12)) (fun _ hk => ⟨hk.1.1, hk.1.2⟩)⟩
 replace jZ : Aside0 (w13.heap[fJ]? = some (.cells #[.int .i64 nB, .string nC, .slice iK jY.length co11, .slice mW kJ.length co12] 25 (0, 0))) := ⟨by subst hq_; exact zC⟩
 replace HB : Aside0 (Below w.heap.size w w13) := ⟨by subst hq_; exact zB⟩
 clear hq_
 replace iH := ab (Kd.R_drew iH.out)
 replace iI := ab (Kd.R_drew iI.out)
 replace jZ := ab (blk_drew jZ.out)
 replace HB := ab (below_drew1 HB.out)
 refine st1 10 [] (S := fun w' => H4 w' fJ (.int .i64 nB) (.string nC) (.slice iK jY.length co11) (.slice mW kJ.length co12)) (fun hHeld => ?_); refine with_tabW rltab4 rlbits4 (fun HT_ HW_ => ?_)
 generalize w13.drew = w14 at iH iI jZ HB hHeld ⊢
 refine pz 0 13 ?_
 refine pz 1 14 ?_
 refine pz 2 15 ?_
 cases b with
 | false =>
  refine pu 3 16 ?_
  refine pu 4 17 ?_
  refine pu 5 18 ?_
  refine pu 6 19 ?_
  refine pu 7 20 ?_
  refine pz 8 21 ?_
  refine pz 9 2 ?_
  refine dn1 ?_
  try go_wp2
  go_ret
  exact ⟨rfl, zB⟩
 | true =>
  obtain ⟨vR, vS, r1, r2, r3⟩ := HRV.out (HN.out rfl)
  have HR1 := ab r1
  have Ls := ab r2
  have Yu := ab r3
  clear r1 r2 r3
  refine pz 3 16 ?_
  refine tk4 6 19 ?_
  refine on1 4 (some 17) fun K hK => ?_
  refine goes_ Tryz.func15 (by kernel_rfl) rfl #[.string a0] (by rfl) rfl rfl Z15 ?_
  refine (HR1.out _ (HWK.out.below zB)).mono ?_
  rintro e w15 ⟨rfl, hb⟩
  refine ⟨_, rfl, ?_⟩
  replace iH := ab (Kd.R_below Z49 hb)
  replace iI := ab (Kd.R_below Z48 hb)
  replace jZ := ab (blk_below (g := fJ) zC hb)
  replace HB := ab (below_step (w := w) zB hb)
  try clear hb hk
  refine hK.out _ _ zS (fun hHeld => ?_)
  clear hK K
  refine norm_ (a' := ?_) ?_ ?_
  rotate_left
  ·show Act.put _ (some 17) _ = _
   simp only [Act.put, ap, aq, ar, i64_w, i32_w]
   rfl
  refine on1 5 (some 18) fun K hK => ?_
  refine goes_ Tryz.func15 (by kernel_rfl) rfl #[.string vR] (by rfl) rfl rfl Z15 ?_
  refine (Ls.out _ (HWK.out.below zB)).mono ?_
  rintro e w16 ⟨rfl, hb⟩
  refine ⟨_, rfl, ?_⟩
  replace iH := ab (Kd.R_below Z49 hb)
  replace iI := ab (Kd.R_below Z48 hb)
  replace jZ := ab (blk_below (g := fJ) zC hb)
  replace HB := ab (below_step (w := w) zB hb)
  try clear hb
  refine hK.out _ _ zS (fun hHeld => ?_)
  clear hK K
  refine norm_ (a' := ?_) ?_ ?_
  rotate_left
  ·show Act.put _ (some 18) _ = _
   simp only [Act.put, ap, aq, ar, i64_w, i32_w]
   rfl
  refine on1 7 (some 20) fun K hK => ?_
  refine goes_ Tryz.func14 (by kernel_rfl) rfl #[.string vS, .agg #[.int .i64 nB, .string nC, .slice iK jY.length co11, .slice mW kJ.length co12]] (by rfl) rfl rfl Z15 ?_
  refine (Yu.out _ _ _ _ _ (Kd.R_reads' iH.out).2.2 (Kd.R_reads' iI.out).2.2).mono ?_
  rintro e w17 ⟨rfl, hb⟩
  refine ⟨_, rfl, ?_⟩
  replace iH := ab (Kd.R_below Z49 hb)
  replace iI := ab (Kd.R_below Z48 hb)
  replace jZ := ab (blk_below (g := fJ) zC hb)
  replace HB := ab (below_step (w := w) zB hb)
  try clear hb
  refine hK.out _ _ zS (fun hHeld => ?_)
  clear hK K
  refine norm_ (a' := ?_) ?_ ?_
  rotate_left
  ·show Act.put _ (some 20) _ = _
   simp only [Act.put, ap, aq, ar, i64_w, i32_w]
   rfl
  refine pz 8 21 ?_
  refine pz 9 2 ?_
  refine dn1 ?_
  try go_wp2
  go_ret
  exact ⟨rfl, zB⟩
end
end Go.Proofs.YtkjnahgicfmicaaGreatDoor.Sp

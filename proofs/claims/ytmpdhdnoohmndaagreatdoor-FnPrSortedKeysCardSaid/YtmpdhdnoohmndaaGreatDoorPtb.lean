import Derived.Test.YtmpdhdnoohmndaaGreatDoorPst
namespace Go.Proofs.YtmpdhdnoohmndaaGreatDoor.Pr
set_option maxHeartbeats 4000000
set_option maxRecDepth 100000
open Go.RowKit Go.Proofs.YtmpdhdnoohmndaaGreatDoorW.PrintWords Go.Proofs.YtmpdhdnoohmndaaGreatDoorW.PrintLast Go.Proofs.YtmpdhdnoohmndaaGreatDoorW.PrintMore Sp
set_option linter.unusedVariables false
set_option linter.unusedSimpArgs false
theorem nan_calls {w : World} {J o n c : Nat} {v : Int} (hn : 0 < n) (h0 : w.cell? ⟨J, o, none⟩ = some (.int .u8 v)) (hv : v ≠ 105 ∧ v ≠ 73 ∧ v ≠ 43 ∧ v ≠ 78) (hu : v = 110 → 1 < n → w.cell? ⟨J, o + 1, none⟩ = some (.int .u8 117)) :
  Calls Tryz.prog 47 #[.slice (some ⟨J, o, none⟩) n c] w fun e w' => e = .returned (.bool false) ∧ w' = w := by
 have d1 : (v == 105) = false := ag hv.1
 have d2 : (v == 73) = false := ag hv.2.1
 have d3 : (v == 43) = false := ag hv.2.2.1
 have d4 : (v == 78) = false := ag hv.2.2.2
 have b0 : (0 : Int) < n := by omega
 by_cases c1 : v = 110
 ·subst c1
  by_cases c2 : 1 < n
  ·have h1 := hu rfl c2
   have b1 : (1 : Int) < n := by omega
   have b2 : decide ((n : Int) > 1) = true := ac b1
   clear hu hv
   go_enter Tryz.func47, Tryz.ntmps47
   go_wp2
   go_ret
   exact ⟨rfl, rfl⟩
  ·have b2 : decide ((n : Int) > 1) = false := ae (by omega)
   clear hu hv
   go_enter Tryz.func47, Tryz.ntmps47
   go_wp2
   go_ret
   exact ⟨rfl, rfl⟩
 ·have d5 : (v == 110) = false := ag c1
  clear hu hv
  go_enter Tryz.func47, Tryz.ntmps47
  go_wp2
  go_ret
  exact ⟨rfl, rfl⟩
theorem wi2 {i n : Nat} (h : i < n) (hn : n ≤ 1000000) : wrap64 ((i : Int) + 1) = ((i + 1 : Nat) : Int) := by unfold wrap64; omega
def Bl (t : List Int) : Prop := ∀ c ∈ t, c = 32 ∨ c = 9
theorem Bl.app {s t : List Int} (h : Bl s) (k : Bl t) : Bl (s ++ t) := fun c hc => (List.mem_append.1 hc).elim (h c) (k c)
theorem two_C (W : World) : Kd.C (Kd.int .u8) (W.alloc (.cells #[.int .u8 32, .int .u8 32] 5)) (some ⟨W.heap.size, 0, none⟩) 2 [32, 32] :=
 Kd.C_of_reads (enc := Value.int .u8) (d := (0 : Int)) (h1 := fun _ => rfl) ⟨rfl, by decide, fun _ => ⟨_, rfl, fun j hj => by
  rw [addB, World.cell?_alloc_new]
  match j, hj with
  | 0, _ => rfl
  | 1, _ => rfl⟩⟩
theorem tabs_calls {w0 w : World} {P0 : Nat → Prop} {u : Value} {l : List Int} (HB : Bs w0 w P0 w u l) (pre ind : au) (tabs : Nat) {x : Int} (hx : x = tabs) (hp : Bl (bytesOf pre) ∧ pre.size ≤ 64) (hi : Bl (bytesOf ind) ∧ ind.size ≤ 64) (ht : tabs ≤ 1000000) (hl : l.length ≤ 10000000000) :
  Calls Tryz.prog 64 #[u, .string pre, .string ind, .int .i64 x] w fun r w' => ∃ v1 t, r = .returned v1 ∧ Bl t ∧ t.length ≤ 64 + tabs * 64 ∧ Bs w0 w P0 w' v1 (l ++ t) := by
 subst hx
 have HS := aa HB
 have HP := aa hp
 have HI := aa hi
 have HL := aa (And.intro hl ht)
 obtain ⟨bp, hbp⟩ : ∃ bp : Bool, ((pre.size : Int) != 0) = bp := ⟨_, rfl⟩
 have L0 := aa (show l.length + pre.size ≤ 100000000000000 by omega)
 clear HB hp hi hl ht
 go_enter Tryz.func64, Tryz.ntmps64
 go_upto_if 13 with (fail)
 go_cut [0] from 14 to 16 (fun v0 wc => ∃ t : List Int, Aside0 (Bl t ∧ t.length ≤ 64) ∧ Aside0 (Bs w0 w P0 wc v0 (l ++ t)))
 case first =>
  cases bp
  ·go_wp2
   go_meet
   case rel => exact ⟨[], ⟨fun c h => by simp at h, by simp⟩, ⟨by rw [List.append_nil]; exact HS.out⟩⟩
  ·go_wp2_with ((with_reducible refine gate_builtin (b := .append) (xs := #[.tmp 14, .tmp 15]) rfl ?_); at_builtin; refine appS 14 15 pre HS.out L0.out ?_; intro v1 w4 hn1 hap1; have HN1 := aa hn1; clear hn1 hap1)
   go_meet
   case rel => exact ⟨bytesOf pre, ⟨HP.out.1, by rw [bytesOf_length]; exact HP.out.2⟩, HN1⟩
 case rest =>
 clear hbp L0 HS
 rename_i v0 wc hcut
 obtain ⟨t, HT, HS⟩ := hcut
 obtain ⟨c0, x0⟩ : ∃ c0 : Int, ∀ h : 0 < ind.size, ((ind[0]'h).toNat : Int) = c0 := by
  by_cases h : 0 < ind.size
  ·exact ⟨((ind[0]'h).toNat : Int), fun _ => rfl⟩
  ·exact ⟨0, fun h' => absurd h' h⟩
 obtain ⟨c1, x1⟩ : ∃ c1 : Int, ∀ h : 1 < ind.size, ((ind[1]'h).toNat : Int) = c1 := by
  by_cases h : 1 < ind.size
  ·exact ⟨((ind[1]'h).toNat : Int), fun _ => rfl⟩
  ·exact ⟨0, fun h' => absurd h' h⟩
 by_cases hsp : ind.size = 2 ∧ c0 = 32 ∧ c1 = 32
 ·have s0 : ((ind.size : Int) == 2) = true := ah (by omega)
  have p0 : 0 < ind.size := by omega
  have p1 : 1 < ind.size := by omega
  rw [hsp.2.1] at x0
  rw [hsp.2.2] at x1
  clear hsp
  go_wp2
  go_loopg [0, 9] tabs (fun k v0 v9 wr => ∃ (i : Nat) (t : List Int), v9 = .int .i64 i ∧ i ≤ tabs ∧ tabs - i ≤ k ∧ Aside0 (Bl t ∧ t.length ≤ 64 + i * 64) ∧ Aside0 (Bs w0 w P0 wr v0 (l ++ t)))
  case atStart => exact ⟨0, t, rfl, Nat.zero_le _, Nat.le_refl _, ⟨HT.out.1, by have := HT.out.2; omega⟩, HS⟩
  case round =>
   clear HS HT
   obtain ⟨i, t, rfl, q1, hk, HT, HS⟩ := hrel
   by_cases ci : i < tabs
   ·have L1 := aa (show (l ++ t).length + 2 ≤ 100000000000000 by rw [List.length_append]; have := HL.out; have := HT.out.2; omega)
    go_wp2_with ((with_reducible refine gate_builtin (b := .append) (xs := #[.tmp 35, .tmp 36]) rfl ?_); at_builtin; refine appR 35 36 [32, 32] (HS.out.alloc _) (two_C _) L1.out ?_; intro v1 w4 hn1 hap1; have HN1 := aa hn1; clear hn1 hap1)
    go_roundg (tabs - (i + 1))
    case measure => omega
    case rel => exact ⟨i + 1, t ++ [32, 32], by rw [wi2 ci HL.out.2], by omega, Nat.le_refl _, ⟨HT.out.1.app (fun c h => .inl (by simp at h; exact h)), by rw [List.length_append]; have := HT.out.2; simp only [List.length_cons, List.length_nil]; omega⟩, ⟨by rw [← List.append_assoc]; exact HN1.out⟩⟩
   ·go_wp2
    go_ret
    obtain rfl : i = tabs := by omega
    exact ⟨_, t, rfl, HT.out.1, HT.out.2, HS.out⟩
 ·have hways : (((ind.size : Int) == 2) = false ∧ True) ∨ (((ind.size : Int) == 2) = true ∧ (0 < ind.size ∧ 1 < ind.size) ∧ (c0 == 32) = false ∧ (c1 == 32) = false) ∨ (((ind.size : Int) == 2) = true ∧ (0 < ind.size ∧ 1 < ind.size) ∧ (c0 == 32) = false ∧ (c1 == 32) = true) ∨ (((ind.size : Int) == 2) = true ∧ (0 < ind.size ∧ 1 < ind.size) ∧ (c0 == 32) = true ∧ (c1 == 32) = false) := by
   by_cases h : ind.size = 2
   ·right
    have e : ((ind.size : Int) == 2) = true := ah (by omega)
    by_cases h0 : c0 = 32
    ·right; right
     exact ⟨e, ⟨by omega, by omega⟩, ah h0, ag fun h1 => hsp ⟨h, h0, h1⟩⟩
    ·by_cases h1 : c1 = 32
     ·right; left
      exact ⟨e, ⟨by omega, by omega⟩, ag h0, ah h1⟩
     ·left
      exact ⟨e, ⟨by omega, by omega⟩, ag h0, ag h1⟩
   ·exact .inl ⟨ag (by omega), trivial⟩
  clear hsp
  rcases hways with ⟨s0, _⟩ | ⟨s0, ⟨p0, p1⟩, d0, d1⟩ | ⟨s0, ⟨p0, p1⟩, d0, d1⟩ | ⟨s0, ⟨p0, p1⟩, d0, d1⟩
  all_goals
   go_wp2
   clear s0
   go_loopg [0, 10] tabs (fun k v0 v9 wr => ∃ (i : Nat) (t : List Int), v9 = .int .i64 i ∧ i ≤ tabs ∧ tabs - i ≤ k ∧ Aside0 (Bl t ∧ t.length ≤ 64 + i * 64) ∧ Aside0 (Bs w0 w P0 wr v0 (l ++ t)))
   case atStart => exact ⟨0, t, rfl, Nat.zero_le _, Nat.le_refl _, ⟨HT.out.1, by have := HT.out.2; omega⟩, HS⟩
   case round =>
    clear HS HT
    obtain ⟨i, t, rfl, q1, hk, HT, HS⟩ := hrel
    by_cases ci : i < tabs
    ·have L1 := aa (show (l ++ t).length + ind.size ≤ 100000000000000 by rw [List.length_append]; have := HL.out; have := HT.out.2; have := HI.out.2; omega)
     go_wp2_with ((with_reducible refine gate_builtin (b := .append) (xs := #[.tmp 43, .tmp 44]) rfl ?_); at_builtin; refine appS 43 44 ind HS.out L1.out ?_; intro v1 w4 hn1 hap1; have HN1 := aa hn1; clear hn1 hap1)
     go_roundg (tabs - (i + 1))
     case measure => omega
     case rel => exact ⟨i + 1, t ++ bytesOf ind, by rw [wi2 ci HL.out.2], by omega, Nat.le_refl _, ⟨HT.out.1.app HI.out.1, by rw [List.length_append, bytesOf_length]; have := HT.out.2; have := HI.out.2; omega⟩, ⟨by rw [← List.append_assoc]; exact HN1.out⟩⟩
    ·go_wp2
     go_ret
     obtain rfl : i = tabs := by omega
     exact ⟨_, t, rfl, HT.out.1, HT.out.2, HS.out⟩
end Go.Proofs.YtmpdhdnoohmndaaGreatDoor.Pr

import Derived.Test.YtmpdhdnoohmndaaGreatDoorZip
import Derived.Test.YtmpdhdnoohmndaaGreatDoorQg
import Derived.Test.YtmpdhdnoohmndaaGreatDoorDec10
namespace Go.Proofs.YtmpdhdnoohmndaaGreatDoor.Gj
open Go.RowKit Go.Proofs.YtmpdhdnoohmndaaGreatDoorW.PrintWords Go.Proofs.YtmpdhdnoohmndaaGreatDoorW.PrintLast Go.Proofs.YtmpdhdnoohmndaaGreatDoorW.PrintMore Jump Dec
attribute [local go_sem] max2_int min2_int max_two min_two max_three min_three max_four min_four toG_normal toG_exit toG_ret toG_panic
set_option linter.unusedVariables false
set_option linter.unusedSimpArgs false
theorem ext_at (s : au) (a b k : Nat) (h : b ≤ s.size) (hk : a + k < b) : ∀ hpq, (((s.extract a b)[k]'hpq).toNat : Int) = at_ s (a + k) := fun hpq => by
 rw [ByteArray.getElem_extract]
 exact bt_at s ((a + k : Nat) : Int) (show ((a + k : Nat) : Int).toNat < s.size by omega)
theorem ext_at' (s : au) (a b k B : Nat) (hB : a = B) (h : b ≤ s.size) (hk : a + k < b) : ∀ hpq, (((s.extract a b)[k]'hpq).toNat : Int) = at_ s (B + k) := by
 subst hB
 exact ext_at s a b k h hk
theorem at_get (s : au) (x : Int) (a : Nat) (hx : x = a) : ∀ h : x.toNat < s.size, ((s[x.toNat]'h).toNat : Int) = at_ s a := fun h => by
 subst hx
 exact bt_at s (a : Int) h
set_option maxRecDepth 100000
def Us (u : Nat → Value) : Nat → Nat → List Value
 | _, 0 => [undef, undef, undef, undef]
 | k, n + 1 => u k :: Us u (k + 1) n
def Jt (s : au) (x6 x16 : Int) (j A0 : Nat) (w : World) (l : Nat) (a : Act) (w' : World) : Prop := l = 0 ∧ ∃ (x1 x7 x8 : Int) (A d : Nat) (u : Nat → Value), a = ⟨([.string s, .int .i64 x1, undef, undef, u 4, u 5, .int .i64 x6, .int .i64 x7, .int .u8 x8, u 9, u 10, u 11, u 12, u 13, .int .i64 x6, .int .i64 x6, .int .i64 x16] ++ Us u 17 209).toArray, []⟩ ∧ Aside0 (x1 = A ∧ x7 = d ∧ Sq s A d j ∧ x8 = vch (at_ s A) ∧ x8 ≠ 0 ∧ A0 ≤ A) ∧ Aside0 (w' = w)
theorem Jt_mk {s : au} {x6 x16 : Int} {j A0 : Nat} {w w' : World} {a : Act} (x1 x7 x8 : Int) (A d : Nat) (ha : a = ⟨([.string s, .int .i64 x1, undef, undef, a.tmps.getD 4 undef, a.tmps.getD 5 undef, .int .i64 x6, .int .i64 x7, .int .u8 x8, a.tmps.getD 9 undef, a.tmps.getD 10 undef, a.tmps.getD 11 undef, a.tmps.getD 12 undef, a.tmps.getD 13 undef, .int .i64 x6, .int .i64 x6, .int .i64 x16] ++ Us (fun n => a.tmps.getD n undef) 17 209).toArray, []⟩) (h : x1 = A ∧ x7 = d ∧ Sq s A d j ∧ x8 = vch (at_ s A) ∧ x8 ≠ 0 ∧ A0 ≤ A) (hw : w' = w) : Jt s x6 x16 j A0 w 0 a w' := ⟨rfl, x1, x7, x8, A, d, fun n => a.tmps.getD n undef, ha, ⟨h⟩, ⟨hw⟩⟩
def Jn (s : au) (x6 x16 : Int) (w : World) (b e : Nat) (d : Int) (l : Nat) (a : Act) (w' : World) : Prop := (l = 2 ∨ l = 1 ∨ l = 3) ∧ ∃ (x1 x7 x10 : Int) (A : Nat) (u : Nat → Value), a = ⟨([.string s, .int .i64 x1, undef, undef, u 4, u 5, .int .i64 x6, .int .i64 x7, u 8, u 9, .int .i64 x10, u 11, u 12, u 13, .int .i64 x6, .int .i64 x6, .int .i64 x16] ++ Us u 17 209).toArray, []⟩ ∧ Aside0 (x1 = A ∧ x7 = d ∧ x10 = ((b + 1 : Nat) : Int) ∧ b < A ∧ A ≤ e ∧ (l = 1 → at_ s A = 34)) ∧ Aside0 (w' = w)
theorem Jn_mk {s : au} {x6 x16 : Int} {w w' : World} {b e : Nat} {d : Int} {l : Nat} {a : Act} (x1 x7 x10 : Int) (A : Nat) (hl : l = 2 ∨ l = 1 ∨ l = 3) (ha : a = ⟨([.string s, .int .i64 x1, undef, undef, a.tmps.getD 4 undef, a.tmps.getD 5 undef, .int .i64 x6, .int .i64 x7, a.tmps.getD 8 undef, a.tmps.getD 9 undef, .int .i64 x10, a.tmps.getD 11 undef, a.tmps.getD 12 undef, a.tmps.getD 13 undef, .int .i64 x6, .int .i64 x6, .int .i64 x16] ++ Us (fun n => a.tmps.getD n undef) 17 209).toArray, []⟩) (h : x1 = A ∧ x7 = d ∧ x10 = ((b + 1 : Nat) : Int) ∧ b < A ∧ A ≤ e ∧ (l = 1 → at_ s A = 34)) (hw : w' = w) : Jn s x6 x16 w b e d l a w' := ⟨hl, x1, x7, x10, A, fun n => a.tmps.getD n undef, ha, ⟨h⟩, ⟨hw⟩⟩
def Mn (e : Nat) (l : Nat) (a : Act) (_ : World) : Nat := (e - (intOf (a.tmps.getD 1 undef)).toNat) * 3 + (if l = 2 then 2 else if l = 1 then 1 else 0)
set_option maxHeartbeats 40000000 in
set_option maxRecDepth 100000 in
theorem squash_calls (s : au) (i : Int) (a0 j : Nat) (w : World) (hi : i = a0) (hs : s.size ≤ 10000000000) (hV : VTab w) (hq : Sq s (a0 + 1) 1 j) :
  Calls Tryz.prog 43 #[.string s, .int .i64 i] w fun e w' => e = .returned (.tuple #[.int .i64 j, .string (s.extract a0 j)]) ∧ Drawn0 w w' := by
 have hsq := hq.le
 obtain ⟨z, f0, hz⟩ : ∃ z, IntKind.i64.wrap (i + 1) = z ∧ Aside0 (z = ((a0 + 1 : Nat) : Int)) := ⟨_, wrp (by omega) (by omega), ⟨by omega⟩⟩
 have HS := aa hs
 have HQ := aa (And.intro hq hsq)
 have HI := aa hi
 have HV := aa hV
 clear hs hq hsq hi hV
 go_enter Tryz.func43, Tryz.ntmps43
 go_wp2_with (fail)
 go_loopg [1, 7] s.size (fun kq v1 v7 wd => ∃ (x1 x7 : Int) (A d : Nat), v1 = .int .i64 x1 ∧ v7 = .int .i64 x7 ∧ Aside0 (x1 = A ∧ x7 = d ∧ Sq s A d j ∧ s.size - A ≤ kq) ∧ Aside0 (wd = w))
 case atStart => exact ⟨_, _, a0 + 1, 1, rfl, rfl, ⟨hz.out, rfl, HQ.out.1, by omega⟩, ⟨rfl⟩⟩
 case round =>
  obtain ⟨x1, x7, A, d, rfl, rfl, HM, ⟨rfl⟩⟩ := hrel
  obtain ⟨wo, rfl⟩ : ∃ wo : World, wo = wr := ⟨_, rfl⟩
  obtain ⟨gg, Hgg⟩ : ∃ gg, Aside0 (gg = gk) := ⟨gk, ⟨rfl⟩⟩
  clear f0 hz
  have c1 : decide (x1 < (s.size : Int)) = true := ac (by have := HM.out; have := this.2.2.1.lt; omega)
  go_wp2_with (fail)
  refine scope_law (Jt s i z j A wo) (fun _ _ _ => 0) ?pass ?first
  case pass =>
   intro l a w' hJ ih
   clear ih
   clear c1
   obtain ⟨rfl, y1, y7, x8, B, d, u, rfl, HJ, ⟨rfl⟩⟩ := hJ
   simp only [List.cons_append, List.nil_append, Us, Nat.reduceAdd]
   refine ⟨_, rfl, ?_⟩
   obtain ⟨wo, rfl⟩ : ∃ wo : World, wo = w' := ⟨_, rfl⟩
   have hlt := HJ.out.2.2.1.lt
   have hle := HJ.out.2.2.1.le
   obtain ⟨z1, g1, hz1⟩ : ∃ z, IntKind.i64.wrap (y1 + 1) = z ∧ z = ((B + 1 : Nat) : Int) := ⟨_, wrp (by have := HJ.out.1; omega) (by have := HJ.out.1; have := HS.out; omega), by have := HJ.out.1; omega⟩
   rcases HJ.out.2.2.1.inv with ⟨h, _⟩ | ⟨h, e, hst, hn⟩ | ⟨h, hn⟩ | ⟨h, hn⟩
   ·exact absurd h (by have := HJ.out.2.2.2; omega)
   ·obtain rfl : x8 = 2 := by have := HJ.out.2.2.2.1; omega
    have HSt := aa (And.intro hst (And.intro hn hz1))
    clear hst hn hz1 h hlt hle
    go_wp2_with (fail)
    refine scope_law (Jn s i z wo B e y7) (Mn e) ?passn ?firstn
    case firstn =>
     intro hn
     go_wp2_with (fail)
     go_step3
     try simp only [Exit.then]
     rename_i hK
     refine hK _ _ ?_
     refine T.on (hn 2 _ _ ?_) rfl
     exact Jn_mk z1 y7 z1 (B + 1) (.inl rfl) rfl ⟨HSt.out.2.2, rfl, HSt.out.2.2, by omega, by have := HSt.out.1.lt; omega, fun h => absurd h (by decide)⟩ rfl
    case passn =>
     intro l a w' hJ ih
     obtain ⟨hl, x1, x7, x10, A1, u, rfl, HK, ⟨rfl⟩⟩ := hJ
     simp only [List.cons_append, List.nil_append, Us, Nat.reduceAdd] at ih ⊢
     obtain ⟨wo, rfl⟩ : ∃ wo : World, wo = w' := ⟨_, rfl⟩
     have hes := HSt.out.1.le
     obtain ⟨zz, g9, hzz⟩ : ∃ z, IntKind.i64.wrap (x1 + 1) = z ∧ Aside0 (z = ((A1 + 1 : Nat) : Int)) := ⟨_, wrp (by have := HK.out.1; omega) (by have := HK.out; have := HS.out; omega), ⟨by have := HK.out.1; omega⟩⟩
     rcases hl with rfl | rfl | rfl
     ·refine ⟨_, rfl, ?_⟩
      obtain ⟨L8, f8, hL8⟩ : ∃ L, IntKind.i64.wrap ((s.size : Int) - 8) = L ∧ Aside0 (L = (s.size : Int) - 8) := ⟨_, wrp (by have := HS.out; omega) (by have := HS.out; omega), ⟨rfl⟩⟩
      clear g9 hes
      go_wp2_with (fail)
      go_loopg [1] s.size (fun kq v1 wd => ∃ (t1 : Int) (C : Nat), v1 = .int .i64 t1 ∧ Aside0 (t1 = C ∧ A1 ≤ C ∧ C ≤ e ∧ s.size - C ≤ kq) ∧ Aside0 (wd = wo))
      case atStart => exact ⟨x1, A1, rfl, ⟨HK.out.1, Nat.le_refl _, HK.out.2.2.2.2.1, by omega⟩, ⟨rfl⟩⟩
      case round =>
       obtain ⟨t1, C, rfl, HC, ⟨rfl⟩⟩ := hrel
       obtain ⟨wo, rfl⟩ : ∃ wo : World, wo = wr := ⟨_, rfl⟩
       by_cases c2 : t1 < L8
       rotate_left
       ·have c2' : decide (t1 < L8) = false := ae c2
        clear c2
        go_wp2_with (fail)
        go_step3
        try simp only [Exit.then, Exit.inBlock]
        refine toG_goto _ (T.g (ih 3 _ _ (Jn_mk t1 x7 x10 C (.inr (.inr rfl)) rfl ⟨HC.out.1, HK.out.2.1, HK.out.2.2.1, by have := HK.out; have := HC.out; omega, HC.out.2.2.1, fun h => absurd h (by decide)⟩ rfl) ?_))
        have h1 := HC.out
        have h2 := HK.out.1
        simp only [Mn, Array.getD, intOf]
        simp
        omega
       have c2' : decide (t1 < L8) = true := ac c2
       have h8 : C + 8 < s.size := by have := HC.out.1; have := hL8.out; omega
       obtain ⟨z8, g8, hz8⟩ : ∃ z, IntKind.i64.wrap (t1 + 8) = z ∧ z = ((C + 8 : Nat) : Int) := ⟨_, wrp (by have := HC.out.1; omega) Z43, by have := HC.out.1; omega⟩
       have p0 : (0 ≤ t1) = True := af (by have := HC.out.1; omega)
       have p1 : (t1 ≤ z8) = True := af (by have := HC.out.1; omega)
       have p2 : (z8 ≤ (s.size : Int)) = True := af (by omega)
       obtain ⟨js, hjs⟩ : ∃ js, s.extract t1.toNat z8.toNat = js := ⟨_, rfl⟩
       have hjz : js.size = 8 := by rw [← hjs, ByteArray.size_extract]; have := HC.out.1; omega
       have hjx : ∀ k, k < 8 → ∀ hpq, ((js[k]'hpq).toNat : Int) = at_ s (C + k) := fun k hk hpq => by
        subst hjs
        exact ext_at' s t1.toNat z8.toNat k C (by have := HC.out.1; omega) (by omega) (by have := HC.out.1; omega) hpq
       have HP8 := aa (And.intro h8 hz8)
       obtain ⟨v0, hv0⟩ : ∃ v, at_ s (C + 0) = v := ⟨_, rfl⟩
       have hx0 : ∀ hpq, ((js[0]'hpq).toNat : Int) = v0 := fun hpq => by rw [← hv0]; exact hjx 0 (by omega) hpq
       have hs0 : (0 < js.size) = True := af (by omega)
       have hS0 : (0 < (js.size : Int)) = True := af (by omega)
       obtain ⟨z0, g0, hz0⟩ : ∃ z, IntKind.i64.wrap (t1) = z ∧ Aside0 (z = ((C + 0 : Nat) : Int)) := ⟨_, wrp (by have := HC.out.1; omega) Z43, ⟨by have := HC.out.1; omega⟩⟩
       have HW0 : Aside0 (at_ s (C + 0) = v0) := ⟨hv0⟩
       obtain ⟨v1, hv1⟩ : ∃ v, at_ s (C + 1) = v := ⟨_, rfl⟩
       have hx1 : ∀ hpq, ((js[1]'hpq).toNat : Int) = v1 := fun hpq => by rw [← hv1]; exact hjx 1 (by omega) hpq
       have gV : (1 < js.size) = True := af (by omega)
       have hS1 : (1 < (js.size : Int)) = True := af (by omega)
       obtain ⟨z1, g1, hz1⟩ : ∃ z, IntKind.i64.wrap (t1 + 1) = z ∧ Aside0 (z = ((C + 1 : Nat) : Int)) := ⟨_, wrp (by have := HC.out.1; omega) Z43, ⟨by have := HC.out.1; omega⟩⟩
       have HW1 : Aside0 (at_ s (C + 1) = v1) := ⟨hv1⟩
       obtain ⟨v2, hv2⟩ : ∃ v, at_ s (C + 2) = v := ⟨_, rfl⟩
       have hx2 : ∀ hpq, ((js[2]'hpq).toNat : Int) = v2 := fun hpq => by rw [← hv2]; exact hjx 2 (by omega) hpq
       have eT : (2 < js.size) = True := af (by omega)
       have hS2 : (2 < (js.size : Int)) = True := af (by omega)
       obtain ⟨z2, g2, hz2⟩ : ∃ z, IntKind.i64.wrap (t1 + 2) = z ∧ Aside0 (z = ((C + 2 : Nat) : Int)) := ⟨_, wrp (by have := HC.out.1; omega) Z43, ⟨by have := HC.out.1; omega⟩⟩
       have HW2 : Aside0 (at_ s (C + 2) = v2) := ⟨hv2⟩
       obtain ⟨v3, hv3⟩ : ∃ v, at_ s (C + 3) = v := ⟨_, rfl⟩
       have hx3 : ∀ hpq, ((js[3]'hpq).toNat : Int) = v3 := fun hpq => by rw [← hv3]; exact hjx 3 (by omega) hpq
       have eX : (3 < js.size) = True := af (by omega)
       have hS3 : (3 < (js.size : Int)) = True := af (by omega)
       obtain ⟨z3, g3, hz3⟩ : ∃ z, IntKind.i64.wrap (t1 + 3) = z ∧ Aside0 (z = ((C + 3 : Nat) : Int)) := ⟨_, wrp (by have := HC.out.1; omega) Z43, ⟨by have := HC.out.1; omega⟩⟩
       have HW3 : Aside0 (at_ s (C + 3) = v3) := ⟨hv3⟩
       obtain ⟨v4, hv4⟩ : ∃ v, at_ s (C + 4) = v := ⟨_, rfl⟩
       have hx4 : ∀ hpq, ((js[4]'hpq).toNat : Int) = v4 := fun hpq => by rw [← hv4]; exact hjx 4 (by omega) hpq
       have Pf : (4 < js.size) = True := af (by omega)
       have hS4 : (4 < (js.size : Int)) = True := af (by omega)
       obtain ⟨z4, g4, hz4⟩ : ∃ z, IntKind.i64.wrap (t1 + 4) = z ∧ Aside0 (z = ((C + 4 : Nat) : Int)) := ⟨_, wrp (by have := HC.out.1; omega) Z43, ⟨by have := HC.out.1; omega⟩⟩
       have HW4 : Aside0 (at_ s (C + 4) = v4) := ⟨hv4⟩
       obtain ⟨v5, hv5⟩ : ∃ v, at_ s (C + 5) = v := ⟨_, rfl⟩
       have hx5 : ∀ hpq, ((js[5]'hpq).toNat : Int) = v5 := fun hpq => by rw [← hv5]; exact hjx 5 (by omega) hpq
       have Vo : (5 < js.size) = True := af (by omega)
       have hS5 : (5 < (js.size : Int)) = True := af (by omega)
       obtain ⟨z5, g5, hz5⟩ : ∃ z, IntKind.i64.wrap (t1 + 5) = z ∧ Aside0 (z = ((C + 5 : Nat) : Int)) := ⟨_, wrp (by have := HC.out.1; omega) Z43, ⟨by have := HC.out.1; omega⟩⟩
       have HW5 : Aside0 (at_ s (C + 5) = v5) := ⟨hv5⟩
       obtain ⟨v6, hv6⟩ : ∃ v, at_ s (C + 6) = v := ⟨_, rfl⟩
       have hx6 : ∀ hpq, ((js[6]'hpq).toNat : Int) = v6 := fun hpq => by rw [← hv6]; exact hjx 6 (by omega) hpq
       have Vq : (6 < js.size) = True := af (by omega)
       have hS6 : (6 < (js.size : Int)) = True := af (by omega)
       obtain ⟨z6, g6, hz6⟩ : ∃ z, IntKind.i64.wrap (t1 + 6) = z ∧ Aside0 (z = ((C + 6 : Nat) : Int)) := ⟨_, wrp (by have := HC.out.1; omega) Z43, ⟨by have := HC.out.1; omega⟩⟩
       have HW6 : Aside0 (at_ s (C + 6) = v6) := ⟨hv6⟩
       obtain ⟨v7, hv7⟩ : ∃ v, at_ s (C + 7) = v := ⟨_, rfl⟩
       have hx7 : ∀ hpq, ((js[7]'hpq).toNat : Int) = v7 := fun hpq => by rw [← hv7]; exact hjx 7 (by omega) hpq
       have Pg : (7 < js.size) = True := af (by omega)
       have hS7 : (7 < (js.size : Int)) = True := af (by omega)
       obtain ⟨z7, g7, hz7⟩ : ∃ z, IntKind.i64.wrap (t1 + 7) = z ∧ Aside0 (z = ((C + 7 : Nat) : Int)) := ⟨_, wrp (by have := HC.out.1; omega) Z43, ⟨by have := HC.out.1; omega⟩⟩
       have HW7 : Aside0 (at_ s (C + 7) = v7) := ⟨hv7⟩
       clear hjx hjz h8 hz8 c2 hv0 hv1 hv2 hv3 hv4 hv5 hv6 hv7
       by_cases e0 : v0 = 34
       ·have e0' : (v0 == 34) = true := ah e0
        have HE := aa e0
        clear e0
        go_wp2_with (fail)
        go_step3
        try simp only [Exit.then, Exit.inBlock]
        have hle : C + 0 ≤ e := Nat.le_of_not_lt (fun hlt => by
         have hcl := HSt.out.1.cl
         obtain ⟨q, rfl⟩ : ∃ q, e = C + q := ⟨e - C, by have := HC.out; omega⟩
         have hq : q < 0 := by omega
         omega
         )
        refine toG_goto _ (T.g (ih 1 _ _ (Jn_mk z0 x7 x10 (C + 0) (.inr (.inl rfl)) rfl ⟨hz0.out, HK.out.2.1, HK.out.2.2.1, Z42, hle, fun _ => by rw [HW0.out]; exact HE.out⟩ rfl) ?_))
        have h1 := hz0.out
        have h2 := HK.out.1
        have h3 := HC.out.2.1
        simp only [Mn, Array.getD, intOf]
        simp
        omega
       have e0' : (v0 == 34) = false := ag e0
       have HZ0 := aa e0
       clear e0
       by_cases e1 : v1 = 34
       ·have e1' : (v1 == 34) = true := ah e1
        have HE := aa e1
        clear e1
        go_wp2_with (fail)
        go_step3
        try simp only [Exit.then, Exit.inBlock]
        have hle : C + 1 ≤ e := Nat.le_of_not_lt (fun hlt => by
         have hcl := HSt.out.1.cl
         obtain ⟨q, rfl⟩ : ∃ q, e = C + q := ⟨e - C, by have := HC.out; omega⟩
         have hq : q < 1 := by omega
         obtain rfl : q = 0 := by omega
         ·exact HZ0.out Z59
         )
        refine toG_goto _ (T.g (ih 1 _ _ (Jn_mk z1 x7 x10 (C + 1) (.inr (.inl rfl)) rfl ⟨hz1.out, HK.out.2.1, HK.out.2.2.1, Z42, hle, fun _ => by rw [HW1.out]; exact HE.out⟩ rfl) ?_))
        have h1 := hz1.out
        have h2 := HK.out.1
        have h3 := HC.out.2.1
        simp only [Mn, Array.getD, intOf]
        simp
        omega
       have e1' : (v1 == 34) = false := ag e1
       have HZ1 := aa e1
       clear e1
       by_cases e2 : v2 = 34
       ·have e2' : (v2 == 34) = true := ah e2
        have HE := aa e2
        clear e2
        go_wp2_with (fail)
        go_step3
        try simp only [Exit.then, Exit.inBlock]
        have hle : C + 2 ≤ e := Nat.le_of_not_lt (fun hlt => by
         have hcl := HSt.out.1.cl
         obtain ⟨q, rfl⟩ : ∃ q, e = C + q := ⟨e - C, by have := HC.out; omega⟩
         have hq : q < 2 := by omega
         obtain rfl | rfl : q = 0 ∨ q = 1 := by omega
         ·exact HZ0.out Z59
         ·exact HZ1.out Z63
         )
        refine toG_goto _ (T.g (ih 1 _ _ (Jn_mk z2 x7 x10 (C + 2) (.inr (.inl rfl)) rfl ⟨hz2.out, HK.out.2.1, HK.out.2.2.1, Z42, hle, fun _ => by rw [HW2.out]; exact HE.out⟩ rfl) ?_))
        have h1 := hz2.out
        have h2 := HK.out.1
        have h3 := HC.out.2.1
        simp only [Mn, Array.getD, intOf]
        simp
        omega
       have e2' : (v2 == 34) = false := ag e2
       have HZ2 := aa e2
       clear e2
       by_cases e3 : v3 = 34
       ·have e3' : (v3 == 34) = true := ah e3
        have HE := aa e3
        clear e3
        go_wp2_with (fail)
        go_step3
        try simp only [Exit.then, Exit.inBlock]
        have hle : C + 3 ≤ e := Nat.le_of_not_lt (fun hlt => by
         have hcl := HSt.out.1.cl
         obtain ⟨q, rfl⟩ : ∃ q, e = C + q := ⟨e - C, by have := HC.out; omega⟩
         have hq : q < 3 := by omega
         obtain rfl | rfl | rfl : q = 0 ∨ q = 1 ∨ q = 2 := by omega
         ·exact HZ0.out Z59
         ·exact HZ1.out Z63
         ·exact HZ2.out (by rw [← HW2.out]; exact hcl)
         )
        refine toG_goto _ (T.g (ih 1 _ _ (Jn_mk z3 x7 x10 (C + 3) (.inr (.inl rfl)) rfl ⟨hz3.out, HK.out.2.1, HK.out.2.2.1, Z42, hle, fun _ => by rw [HW3.out]; exact HE.out⟩ rfl) ?_))
        have h1 := hz3.out
        have h2 := HK.out.1
        have h3 := HC.out.2.1
        simp only [Mn, Array.getD, intOf]
        simp
        omega
       have e3' : (v3 == 34) = false := ag e3
       have HZ3 := aa e3
       clear e3
       by_cases e4 : v4 = 34
       ·have e4' : (v4 == 34) = true := ah e4
        have HE := aa e4
        clear e4
        go_wp2_with (fail)
        go_step3
        try simp only [Exit.then, Exit.inBlock]
        have hle : C + 4 ≤ e := Nat.le_of_not_lt (fun hlt => by
         have hcl := HSt.out.1.cl
         obtain ⟨q, rfl⟩ : ∃ q, e = C + q := ⟨e - C, by have := HC.out; omega⟩
         have hq : q < 4 := by omega
         obtain rfl | rfl | rfl | rfl : q = 0 ∨ q = 1 ∨ q = 2 ∨ q = 3 := by omega
         ·exact HZ0.out Z59
         ·exact HZ1.out Z63
         ·exact HZ2.out (by rw [← HW2.out]; exact hcl)
         ·exact HZ3.out (by rw [← HW3.out]; exact hcl)
         )
        refine toG_goto _ (T.g (ih 1 _ _ (Jn_mk z4 x7 x10 (C + 4) (.inr (.inl rfl)) rfl ⟨hz4.out, HK.out.2.1, HK.out.2.2.1, Z42, hle, fun _ => by rw [HW4.out]; exact HE.out⟩ rfl) ?_))
        have h1 := hz4.out
        have h2 := HK.out.1
        have h3 := HC.out.2.1
        simp only [Mn, Array.getD, intOf]
        simp
        omega
       have e4' : (v4 == 34) = false := ag e4
       have HZ4 := aa e4
       clear e4
       by_cases e5 : v5 = 34
       ·have e5' : (v5 == 34) = true := ah e5
        have HE := aa e5
        clear e5
        go_wp2_with (fail)
        go_step3
        try simp only [Exit.then, Exit.inBlock]
        have hle : C + 5 ≤ e := Nat.le_of_not_lt (fun hlt => by
         have hcl := HSt.out.1.cl
         obtain ⟨q, rfl⟩ : ∃ q, e = C + q := ⟨e - C, by have := HC.out; omega⟩
         have hq : q < 5 := by omega
         obtain rfl | rfl | rfl | rfl | rfl : q = 0 ∨ q = 1 ∨ q = 2 ∨ q = 3 ∨ q = 4 := by omega
         ·exact HZ0.out Z59
         ·exact HZ1.out Z63
         ·exact HZ2.out (by rw [← HW2.out]; exact hcl)
         ·exact HZ3.out (by rw [← HW3.out]; exact hcl)
         ·exact HZ4.out (by rw [← HW4.out]; exact hcl)
         )
        refine toG_goto _ (T.g (ih 1 _ _ (Jn_mk z5 x7 x10 (C + 5) (.inr (.inl rfl)) rfl ⟨hz5.out, HK.out.2.1, HK.out.2.2.1, Z42, hle, fun _ => by rw [HW5.out]; exact HE.out⟩ rfl) ?_))
        have h1 := hz5.out
        have h2 := HK.out.1
        have h3 := HC.out.2.1
        simp only [Mn, Array.getD, intOf]
        simp
        omega
       have e5' : (v5 == 34) = false := ag e5
       have HZ5 := aa e5
       clear e5
       by_cases e6 : v6 = 34
       ·have e6' : (v6 == 34) = true := ah e6
        have HE := aa e6
        clear e6
        go_wp2_with (fail)
        go_step3
        try simp only [Exit.then, Exit.inBlock]
        have hle : C + 6 ≤ e := Nat.le_of_not_lt (fun hlt => by
         have hcl := HSt.out.1.cl
         obtain ⟨q, rfl⟩ : ∃ q, e = C + q := ⟨e - C, by have := HC.out; omega⟩
         have hq : q < 6 := by omega
         obtain rfl | rfl | rfl | rfl | rfl | rfl : q = 0 ∨ q = 1 ∨ q = 2 ∨ q = 3 ∨ q = 4 ∨ q = 5 := by omega
         ·exact HZ0.out Z59
         ·exact HZ1.out Z63
         ·exact HZ2.out (by rw [← HW2.out]; exact hcl)
         ·exact HZ3.out (by rw [← HW3.out]; exact hcl)
         ·exact HZ4.out (by rw [← HW4.out]; exact hcl)
         ·exact HZ5.out (by rw [← HW5.out]; exact hcl)
         )
        refine toG_goto _ (T.g (ih 1 _ _ (Jn_mk z6 x7 x10 (C + 6) (.inr (.inl rfl)) rfl ⟨hz6.out, HK.out.2.1, HK.out.2.2.1, Z42, hle, fun _ => by rw [HW6.out]; exact HE.out⟩ rfl) ?_))
        have h1 := hz6.out
        have h2 := HK.out.1
        have h3 := HC.out.2.1
        simp only [Mn, Array.getD, intOf]
        simp
        omega
       have e6' : (v6 == 34) = false := ag e6
       have HZ6 := aa e6
       clear e6
       by_cases e7 : v7 = 34
       ·have e7' : (v7 == 34) = true := ah e7
        have HE := aa e7
        clear e7
        go_wp2_with (fail)
        go_step3
        try simp only [Exit.then, Exit.inBlock]
        have hle : C + 7 ≤ e := Nat.le_of_not_lt (fun hlt => by
         have hcl := HSt.out.1.cl
         obtain ⟨q, rfl⟩ : ∃ q, e = C + q := ⟨e - C, by have := HC.out; omega⟩
         have hq : q < 7 := by omega
         obtain rfl | rfl | rfl | rfl | rfl | rfl | rfl : q = 0 ∨ q = 1 ∨ q = 2 ∨ q = 3 ∨ q = 4 ∨ q = 5 ∨ q = 6 := by omega
         ·exact HZ0.out Z59
         ·exact HZ1.out Z63
         ·exact HZ2.out (by rw [← HW2.out]; exact hcl)
         ·exact HZ3.out (by rw [← HW3.out]; exact hcl)
         ·exact HZ4.out (by rw [← HW4.out]; exact hcl)
         ·exact HZ5.out (by rw [← HW5.out]; exact hcl)
         ·exact HZ6.out (by rw [← HW6.out]; exact hcl)
         )
        refine toG_goto _ (T.g (ih 1 _ _ (Jn_mk z7 x7 x10 (C + 7) (.inr (.inl rfl)) rfl ⟨hz7.out, HK.out.2.1, HK.out.2.2.1, Z42, hle, fun _ => by rw [HW7.out]; exact HE.out⟩ rfl) ?_))
        have h1 := hz7.out
        have h2 := HK.out.1
        have h3 := HC.out.2.1
        simp only [Mn, Array.getD, intOf]
        simp
        omega
       have e7' : (v7 == 34) = false := ag e7
       have HZ7 := aa e7
       clear e7
       go_wp2_with (fail)
       go_roundg (gk - 8)
       case measure => have := HC.out; have := HP8.out; omega
       case rel =>
        refine ⟨z8, C + 8, rfl, ⟨HP8.out.2, by have := HC.out; omega, ?_, by have := HC.out; omega⟩, ⟨rfl⟩⟩
        refine Nat.le_of_not_lt (fun hlt => ?_)
        have hcl := HSt.out.1.cl
        obtain ⟨q, rfl⟩ : ∃ q, e = C + q := ⟨e - C, by have := HC.out; omega⟩
        obtain rfl | rfl | rfl | rfl | rfl | rfl | rfl | rfl : q = 0 ∨ q = 1 ∨ q = 2 ∨ q = 3 ∨ q = 4 ∨ q = 5 ∨ q = 6 ∨ q = 7 := by omega
        ·exact HZ0.out Z59
        ·exact HZ1.out Z63
        ·exact HZ2.out (by rw [← HW2.out]; exact hcl)
        ·exact HZ3.out (by rw [← HW3.out]; exact hcl)
        ·exact HZ4.out (by rw [← HW4.out]; exact hcl)
        ·exact HZ5.out (by rw [← HW5.out]; exact hcl)
        ·exact HZ6.out (by rw [← HW6.out]; exact hcl)
        ·exact HZ7.out (by rw [← HW7.out]; exact hcl)
     ·
      refine ⟨_, rfl, ?_⟩
      have hA1 := HK.out.2.2.2.1
      have hA2 := HK.out.2.2.2.2.1
      have hA3 := HK.out.2.2.2.2.2 rfl
      have hx1 := HK.out.1
      obtain ⟨A2, rfl⟩ : ∃ A2, A1 = A2 + 1 := ⟨A1 - 1, by omega⟩
      obtain ⟨zp, g8, hzp⟩ : ∃ z, IntKind.i64.wrap (x1 - 1) = z ∧ z = (A2 : Int) := ⟨_, wrp (by omega) (by have := HS.out; omega), by omega⟩
      have p0 : (0 ≤ zp) = True := af (by omega)
      have p1 : (zp < (s.size : Int)) = True := af (by omega)
      obtain ⟨v, hv⟩ : ∃ v, at_ s A2 = v := ⟨_, rfl⟩
      have hx : ∀ h : zp.toNat < s.size, ((s[zp.toNat]'h).toNat : Int) = v := fun h => by rw [← hv]; exact at_get s zp A2 hzp h
      have HVV := aa (And.intro hv hzp)
      by_cases c3 : v = 92
      ·have c3' : (v != 92) = false := by rw [c3]; rfl
       clear c3 hv hzp hA1 hA2 hA3 hx1 hes
       go_wp2_with (fail)
       go_step3
       try simp only [Exit.then]
       rename_i hK
       refine hK _ _ ?_
       refine T.on (ih 3 _ _ (Jn_mk x1 x7 x10 (A2 + 1) (.inr (.inr rfl)) rfl ⟨HK.out.1, HK.out.2.1, HK.out.2.2.1, HK.out.2.2.2.1, HK.out.2.2.2.2.1, fun h => absurd h (by decide)⟩ rfl) ?_) rfl
       simp only [Mn, Array.getD, intOf]
       simp
      ·have c3' : (v != 92) = true := ai c3
       have hend : A2 + 1 = e := by
        refine Nat.le_antisymm hA2 (Nat.le_of_not_lt (fun hlt => ?_))
        have h1 := HSt.out.1.odd (A2 + 1) (by omega) hlt hA3
        rw [run_zero (by rw [hv]; exact c3)] at h1
        exact absurd h1 (by decide)
       have HE := aa hend
       clear c3 hv hzp hA1 hA2 hA3 hx1 hes hend
       go_wp2_with (fail)
       try rw [toG_exit]
       try go_wp2_with (fail)
       try rw [toG_exit]
       try go_wp2_with (fail)
       go_roundg (gg - 1)
       case measure => have := Hgg.out; have := HJ.out.2.2.1.lt; have := HM.out; have := HJ.out; omega
       case rel => exact ⟨zz, x7, e + 1, d, rfl, rfl, ⟨by have := hzz.out; have := HE.out; omega, by have := HK.out.2.1; have := HJ.out.2.1; omega, HSt.out.2.1, Z62⟩, ⟨rfl⟩⟩
     ·
      refine ⟨_, rfl, ?_⟩
      clear g9 hes
      go_wp2_with (fail)
      go_loopg [1] s.size (fun kq v1 wd => ∃ (t1 : Int) (C : Nat), v1 = .int .i64 t1 ∧ Aside0 (t1 = C ∧ A1 ≤ C ∧ C ≤ e ∧ s.size - C ≤ kq) ∧ Aside0 (wd = wo))
      case atStart => exact ⟨x1, A1, rfl, ⟨HK.out.1, Nat.le_refl _, HK.out.2.2.2.2.1, by omega⟩, ⟨rfl⟩⟩
      case round =>
       obtain ⟨t1, C, rfl, HC, ⟨rfl⟩⟩ := hrel
       obtain ⟨wo, rfl⟩ : ∃ wo : World, wo = wr := ⟨_, rfl⟩
       have hes := HSt.out.1.le
       have hc1 := HC.out.1
       have hc2 := HC.out.2.1
       have hc3 := HC.out.2.2.1
       have hb1 := HK.out.2.2.2.1
       have c1 : decide (t1 < (s.size : Int)) = true := ac (by omega)
       have p0 : (0 ≤ t1) = True := af (by omega)
       have p1 : (t1 < (s.size : Int)) = True := af (by omega)
       obtain ⟨v, hv⟩ : ∃ v, at_ s C = v := ⟨_, rfl⟩
       have hx : ∀ h : t1.toNat < s.size, ((s[t1.toNat]'h).toNat : Int) = v := fun h => by rw [← hv]; exact at_get s t1 C hc1 h
       obtain ⟨t2, g1', ht2⟩ : ∃ z, IntKind.i64.wrap (t1 + 1) = z ∧ Aside0 (z = ((C + 1 : Nat) : Int)) := ⟨_, wrp (by omega) (by have := HS.out; omega), ⟨by omega⟩⟩
       by_cases c2 : v = 34
       rotate_left
       ·have c2' : (v != 34) = true := ai c2
        have c3' : decide (v > 92) = true ∨ decide (v > 92) = false := by cases decide (v > 92) <;> simp
        have hne : C ≠ e := fun h => c2 (by rw [← hv, h]; exact HSt.out.1.cl)
        have HN := aa hne
        clear c2 hv hes hc1 hc2 hc3 hb1 hne
        rcases c3' with c3' | c3'
        all_goals
         go_wp2_with (fail)
         go_roundg (gk - 1)
         case measure => have := HC.out; have := HSt.out.1.le; have := HN.out; omega
         case rel => exact ⟨t2, C + 1, rfl, ⟨ht2.out, by have := HC.out; omega, by have := HC.out; have := HN.out; omega, by have := HC.out; omega⟩, ⟨rfl⟩⟩
       subst c2
       obtain ⟨C2, rfl⟩ : ∃ C2, C = C2 + 1 := ⟨C - 1, by omega⟩
       obtain ⟨zp, g8, hzp⟩ : ∃ z, IntKind.i64.wrap (t1 - 1) = z ∧ z = (C2 : Int) := ⟨_, wrp (by omega) (by have := HS.out; omega), by omega⟩
       have q0 : (0 ≤ zp) = True := af (by omega)
       have q1 : (zp < (s.size : Int)) = True := af (by omega)
       obtain ⟨u1, hu1⟩ : ∃ v, at_ s C2 = v := ⟨_, rfl⟩
       have hxu : ∀ h : zp.toNat < s.size, ((s[zp.toNat]'h).toNat : Int) = u1 := fun h => by rw [← hu1]; exact at_get s zp C2 hzp h
       by_cases c3 : u1 = 92
       rotate_left
       ·have c3' : (u1 == 92) = false := ag c3
        have hend : C2 + 1 = e := by
         refine Nat.le_antisymm hc3 (Nat.le_of_not_lt (fun hlt => ?_))
         have h1 := HSt.out.1.odd (C2 + 1) (by omega) hlt hv
         rw [run_zero (by rw [hu1]; exact c3)] at h1
         exact absurd h1 (by decide)
        have HE := aa hend
        clear c3 hv hu1 hes hc1 hc2 hc3 hb1 hzp hend
        go_wp2_with (fail)
        try rw [toG_normal]
        try go_wp2_with (fail)
        try rw [toG_normal]
        try go_wp2_with (fail)
        go_roundg (gg - 1)
        case measure => have := Hgg.out; have := HJ.out.2.2.1.lt; have := HM.out; have := HJ.out; omega
        case rel => exact ⟨t2, x7, e + 1, d, rfl, rfl, ⟨by have := ht2.out; have := HE.out; omega, by have := HK.out.2.1; have := HJ.out.2.1; omega, HSt.out.2.1, Z62⟩, ⟨rfl⟩⟩
       subst c3
       obtain ⟨zq, g7, hzq⟩ : ∃ z, IntKind.i64.wrap (t1 - 2) = z ∧ z = (C2 : Int) - 1 := ⟨_, wrp (by omega) (by have := HS.out; omega), by omega⟩
       obtain ⟨zb, g6, hzb⟩ : ∃ z, IntKind.i64.wrap (x10 - 1) = z ∧ z = (B : Int) := ⟨_, wrp (by have := HK.out.2.2.1; omega) (by have := HK.out.2.2.1; have := HS.out; omega), by have := HK.out.2.2.1; omega⟩
       have hC2 : B + 1 ≤ C2 := by
        rcases Nat.lt_or_ge B C2 with h | h
        ·omega
        ·obtain rfl : C2 = B := by omega
         rw [HSt.out.1.op] at hu1
         exact absurd hu1 (by decide)
       have hrun := run_succ (lo := B + 1) hC2 hu1
       have HR := aa (And.intro hv (And.intro hC2 (And.intro hrun (And.intro hzq hzb))))
       clear hv hu1 hes hc1 hc2 hc3 hb1 hzp hzq hzb hC2 hrun
       go_wp2_with (fail)
       go_loopg [12, 13] s.size (fun kq v12 v13 wd => ∃ (n12 j13 : Int) (n m : Nat), v12 = .int .i64 n12 ∧ v13 = .int .i64 j13 ∧ Aside0 (n12 = n ∧ j13 = (m : Int) - 1 ∧ B + 1 ≤ m ∧ m ≤ C2 ∧ m ≤ kq ∧ n + run s (B + 1) m = run s (B + 1) C2) ∧ Aside0 (wd = wo))
       case atStart => exact ⟨_, _, 0, C2, rfl, rfl, ⟨rfl, HR.out.2.2.2.1, HR.out.2.1, Nat.le_refl _, by have := HC.out; have := HSt.out.1.le; omega, by omega⟩, ⟨rfl⟩⟩
       case round =>
        obtain ⟨n12, j13, n, m, rfl, rfl, HL, ⟨rfl⟩⟩ := hrel
        obtain ⟨wo, rfl⟩ : ∃ wo : World, wo = wr := ⟨_, rfl⟩
        obtain ⟨m, rfl⟩ : ∃ m', m = m' + 1 := ⟨m - 1, by have := HL.out; omega⟩
        have hj := HL.out.2.1
        have hn0 := HL.out.1
        have hmb := HL.out.2.2.1
        have hmc := HL.out.2.2.2.1
        have hsz : C2 + 1 < s.size ∧ s.size ≤ 10000000000 := ⟨by have := HC.out; have := HSt.out.1.le; omega, HS.out⟩
        have hrn := run_le (s := s) (lo := B + 1) C2
        have hsum := HL.out.2.2.2.2.2
        obtain ⟨n1, g5, hn1⟩ : ∃ z, IntKind.i64.wrap (n12 + 1) = z ∧ z = ((n + 1 : Nat) : Int) := ⟨_, wrp (by omega) (by omega), by omega⟩
        obtain ⟨j1, g4, hj1⟩ : ∃ z, IntKind.i64.wrap (j13 - 1) = z ∧ z = (m : Int) - 1 := ⟨_, wrp (by omega) (by omega), by omega⟩
        obtain ⟨rm, g3, hrm⟩ : ∃ z, n12.tmod 2 = z ∧ z = ((n % 2 : Nat) : Int) := ⟨((n % 2 : Nat) : Int), by rw [hn0, Int.tmod_eq_emod_of_nonneg (by omega)]; omega, rfl⟩
        have q2 : (0 ≤ j13) = True := af (by omega)
        have q3 : (j13 < (s.size : Int)) = True := af (by omega)
        obtain ⟨vw, hvw⟩ : ∃ v, at_ s m = v := ⟨_, rfl⟩
        have hxw : ∀ h : j13.toNat < s.size, ((s[j13.toNat]'h).toNat : Int) = vw := fun h => by rw [← hvw]; exact at_get s j13 m (by omega) h
        by_cases cw : B < m ∧ vw = 92
        ·obtain ⟨cj, rfl⟩ := cw
         have cj' : decide (j13 > zb) = true := ac (by have := HR.out.2.2.2.2; omega)
         have hrs := run_succ (lo := B + 1) (by omega) hvw
         have HQ2 := aa (And.intro cj (And.intro hrs (And.intro hn1 hj1)))
         clear hj hn0 hmb hmc hsz hrn hsum hn1 hj1 hrm hvw cj hrs
         go_wp2_with (fail)
         go_roundg (gk - 1)
         case measure => have := HL.out; omega
         case rel => exact ⟨n1, j1, n + 1, m, rfl, rfl, ⟨HQ2.out.2.2.1, HQ2.out.2.2.2, by have := HQ2.out.1; omega, by have := HL.out; omega, by have := HL.out; omega, by have := HL.out.2.2.2.2.2; have := HQ2.out.2.1; omega⟩, ⟨rfl⟩⟩
        have hnr : n = run s (B + 1) C2 := by
         have h0 : run s (B + 1) (m + 1) = 0 := by
          rcases Nat.lt_or_ge B m with h | h
          ·exact run_zero (by rw [hvw]; exact fun h2 => cw ⟨h, h2⟩)
          ·exact run_lo (by omega)
         omega
        have hway : decide (j13 > zb) = false ∨ decide (j13 > zb) = true ∧ (vw != 92) = true := by
         rcases Nat.lt_or_ge B m with h | h
         ·exact .inr ⟨ac (by have := HR.out.2.2.2.2; omega), ai (fun h2 => cw ⟨h, h2⟩)⟩
         ·exact .inl (ae (by have := HR.out.2.2.2.2; omega))
        have HN := aa (And.intro hnr hrm)
        clear hj hn0 hmb hmc hsz hrn hsum hn1 hj1 hvw cw hnr
        by_cases cr : rm = 0
        ·have cr' : (rm == 0) = true := ah cr
         have hlt : C2 + 1 < e := by
          refine Nat.lt_of_le_of_ne HC.out.2.2.1 (fun h => ?_)
          have h1 := HSt.out.1.even
          rw [← h, HR.out.2.2.1] at h1
          have := HN.out
          omega
         have HLT := aa hlt
         clear cr hlt hrm
         rcases hway with hw | ⟨hw, hw2⟩
         all_goals
          go_wp2_with (fail)
          go_step3
          try simp only [Exit.then, Exit.inBlock]
          refine toG_goto _ (T.g (ih 2 _ _ (Jn_mk t2 x7 x10 (C2 + 2) (.inl rfl) rfl ⟨ht2.out, HK.out.2.1, HK.out.2.2.1, by have := HR.out.2.1; omega, HLT.out, fun h => absurd h (by decide)⟩ rfl) ?_))
          have h1 := ht2.out
          have h2 := HK.out.1
          have h3 := HC.out.2.1
          have h4 := HLT.out
          simp only [Mn, Array.getD, intOf]
          simp
          omega
        ·have cr' : (rm == 0) = false := ag cr
         have hend : C2 + 1 = e := by
          refine Nat.le_antisymm HC.out.2.2.1 (Nat.le_of_not_lt (fun hlt => ?_))
          have h1 := HSt.out.1.odd (C2 + 1) (by have := HR.out.2.1; omega) hlt HR.out.1
          rw [HR.out.2.2.1] at h1
          have := HN.out
          omega
         have HE := aa hend
         clear cr hend hrm
         rcases hway with hw | ⟨hw, hw2⟩
         all_goals
          go_wp2_with (fail)
          try rw [toG_normal]
          try go_wp2_with (fail)
          try rw [toG_normal]
          try go_wp2_with (fail)
          go_roundg (gg - 1)
          case measure => have := Hgg.out; have := HJ.out.2.2.1.lt; have := HM.out; have := HJ.out; omega
          case rel => exact ⟨t2, x7, e + 1, d, rfl, rfl, ⟨by have := ht2.out; have := HE.out; omega, by have := HK.out.2.1; have := HJ.out.2.1; omega, HSt.out.2.1, Z62⟩, ⟨rfl⟩⟩
   ·obtain rfl : x8 = 3 := by have := HJ.out.2.2.2.1; omega
    obtain ⟨D, g2, hD⟩ : ∃ D, IntKind.i64.wrap (y7 + 1) = D ∧ D = ((d + 1 : Nat) : Int) := ⟨y7 + 1, wrp (by have := HJ.out.2.1; omega) (by have := HJ.out.2.1; have := HJ.out.2.2.1.depth; have := HS.out; omega), by have := HJ.out.2.1; omega⟩
    have hD0 : (D == 0) = false := ag (by omega)
    have HH := aa (And.intro hn (And.intro hz1 hD))
    clear hn hz1 hD h hlt hle
    go_wp2_with (fail)
    rw [toG_normal]
    go_wp2_with (fail)
    go_roundg (gg - 1)
    case measure => have := Hgg.out; have := HJ.out.2.2.1.lt; have := HM.out; have := HJ.out; omega
    case rel => exact ⟨z1, D, B + 1, d + 1, rfl, rfl, ⟨HH.out.2.1, HH.out.2.2, HH.out.1, by have := HM.out; have := Hgg.out; have := HJ.out; omega⟩, ⟨rfl⟩⟩
   ·obtain rfl : x8 = 1 := by have := HJ.out.2.2.2.1; omega
    obtain ⟨D, g2, hD⟩ : ∃ D, IntKind.i64.wrap (y7 + -1) = D ∧ D = y7 - 1 := ⟨y7 + -1, wrp (by have := HJ.out.2.1; omega) (by have := HJ.out.2.1; have := HJ.out.2.2.1.depth; have := HS.out; omega), by omega⟩
    have g3 : IntKind.i64.wrap (y7 - 1) = D := by rw [← g2, show y7 + -1 = y7 - 1 by omega]
    rcases hn with ⟨d', h1, rfl, hn⟩ | ⟨rfl, rfl⟩
    ·have hD0 : (D == 0) = false := ag (by have := HJ.out.2.1; omega)
     have HH := aa (And.intro hn (And.intro hz1 hD))
     clear hn hz1 hD h hlt hle h1
     go_wp2_with (fail)
     rw [toG_normal]
     go_wp2_with (fail)
     go_roundg (gg - 1)
     case measure => have := Hgg.out; have := HJ.out.2.2.1.lt; have := HM.out; have := HJ.out; omega
     case rel => exact ⟨z1, D, B + 1, d', rfl, rfl, ⟨HH.out.2.1, by have := HH.out.2.2; have := HJ.out.2.1; omega, HH.out.1, by have := HM.out; have := Hgg.out; have := HJ.out; omega⟩, ⟨rfl⟩⟩
    ·have hD0 : D = 0 := by have := HJ.out.2.1; omega
     subst hD0
     have p0 : (0 ≤ i) = True := af (by have := HI.out; omega)
     have p1 : (i ≤ z1) = True := af (by have := HI.out; have := HQ.out; omega)
     have p2 : (z1 ≤ (s.size : Int)) = True := af (by omega)
     have HH := aa hz1
     clear hz1 hD h hlt hle
     go_wp2_with (fail)
     repeat (go_quiet (fail); try go_wp2)
     rw [toG_ret]
     try go_wp2_with (fail)
     go_ret2
     exact ⟨by rw [HH.out, HI.out]; rfl, ⟨_, rfl⟩⟩
  case first =>
   intro htok
   clear c1
   obtain ⟨L8, f8, hL8⟩ : ∃ L, IntKind.i64.wrap ((s.size : Int) - 8) = L ∧ Aside0 (L = (s.size : Int) - 8) := ⟨_, wrp (by have := HS.out; omega) (by have := HS.out; omega), ⟨rfl⟩⟩
   go_wp2_with (fail)
   go_loopg [1] s.size (fun kq v1 wd => ∃ (x1 : Int) (B : Nat), v1 = .int .i64 x1 ∧ Aside0 (x1 = B ∧ Sq s B d j ∧ s.size - B ≤ kq) ∧ Aside0 (A ≤ B) ∧ Aside0 (wd = wo))
   case atStart => exact ⟨x1, A, rfl, ⟨HM.out.1, HM.out.2.2.1, by omega⟩, ⟨Nat.le_refl _⟩, ⟨rfl⟩⟩
   case round =>
    obtain ⟨y1, B, rfl, HB, HA, ⟨rfl⟩⟩ := hrel
    obtain ⟨wo, rfl⟩ : ∃ wo : World, wo = wr := ⟨_, rfl⟩
    have hlt := HB.out.2.1.lt
    by_cases c2 : y1 < L8
    ·have c2' : decide (y1 < L8) = true := ac c2
     have h8 : B + 8 < s.size := by have := HB.out.1; have := hL8.out; omega
     obtain ⟨z8, g8, hz8⟩ : ∃ z, IntKind.i64.wrap (y1 + 8) = z ∧ z = ((B + 8 : Nat) : Int) := ⟨_, wrp (by have := HB.out.1; omega) Z39, by have := HB.out.1; omega⟩
     have p0 : (0 ≤ y1) = True := af (by have := HB.out.1; omega)
     have p1 : (y1 ≤ z8) = True := af (by have := HB.out.1; omega)
     have p2 : (z8 ≤ (s.size : Int)) = True := af (by omega)
     obtain ⟨js, hjs⟩ : ∃ js, s.extract y1.toNat z8.toNat = js := ⟨_, rfl⟩
     have hjz : js.size = 8 := by rw [← hjs, ByteArray.size_extract]; have := HB.out.1; omega
     have hjx : ∀ k, k < 8 → ∀ hpq, ((js[k]'hpq).toNat : Int) = at_ s (B + k) := fun k hk hpq => by
      subst hjs
      exact ext_at' s y1.toNat z8.toNat k B (by have := HB.out.1; omega) (by omega) (by have := HB.out.1; omega) hpq
     have HC := aa (And.intro c2 (And.intro h8 hz8))
     obtain ⟨v0, hv0⟩ : ∃ v, at_ s (B + 0) = v := ⟨_, rfl⟩
     have hr0 := at_range s (B + 0)
     have hx0 : ∀ hpq, ((js[0]'hpq).toNat : Int) = v0 := fun hpq => by rw [← hv0]; exact hjx 0 (by omega) hpq
     have hs0 : (0 < js.size) = True := af (by omega)
     have hS0 : (0 < (js.size : Int)) = True := af (by omega)
     have ht0 := HV.out v0 (by omega) (by omega)
     have q0 : (0 ≤ v0) = True := af (by omega)
     have r0 : (v0 < 256) = True := af (by omega)
     obtain ⟨k0, hk0⟩ : ∃ c, vch v0 = c := ⟨_, rfl⟩
     rw [hk0] at ht0
     obtain ⟨z0, g0, hz0⟩ : ∃ z, IntKind.i64.wrap (y1) = z ∧ Aside0 (z = ((B + 0 : Nat) : Int)) := ⟨_, wrp (by have := HB.out.1; omega) Z39, ⟨by have := HB.out.1; omega⟩⟩
     have hvc0 : Aside0 (k0 = vch (at_ s (B + 0))) := ⟨by rw [hv0, hk0]⟩
     obtain ⟨v1, hv1⟩ : ∃ v, at_ s (B + 1) = v := ⟨_, rfl⟩
     have hr1 := at_range s (B + 1)
     have hx1 : ∀ hpq, ((js[1]'hpq).toNat : Int) = v1 := fun hpq => by rw [← hv1]; exact hjx 1 (by omega) hpq
     have gV : (1 < js.size) = True := af (by omega)
     have hS1 : (1 < (js.size : Int)) = True := af (by omega)
     have ht1 := HV.out v1 (by omega) (by omega)
     have q1 : (0 ≤ v1) = True := af (by omega)
     have r1 : (v1 < 256) = True := af (by omega)
     obtain ⟨k1, hk1⟩ : ∃ c, vch v1 = c := ⟨_, rfl⟩
     rw [hk1] at ht1
     obtain ⟨z1, g1, hz1⟩ : ∃ z, IntKind.i64.wrap (y1 + 1) = z ∧ Aside0 (z = ((B + 1 : Nat) : Int)) := ⟨_, wrp (by have := HB.out.1; omega) Z39, ⟨by have := HB.out.1; omega⟩⟩
     have hvc1 : Aside0 (k1 = vch (at_ s (B + 1))) := ⟨by rw [hv1, hk1]⟩
     obtain ⟨v2, hv2⟩ : ∃ v, at_ s (B + 2) = v := ⟨_, rfl⟩
     have hr2 := at_range s (B + 2)
     have hx2 : ∀ hpq, ((js[2]'hpq).toNat : Int) = v2 := fun hpq => by rw [← hv2]; exact hjx 2 (by omega) hpq
     have eT : (2 < js.size) = True := af (by omega)
     have hS2 : (2 < (js.size : Int)) = True := af (by omega)
     have ht2 := HV.out v2 (by omega) (by omega)
     have q2 : (0 ≤ v2) = True := af (by omega)
     have r2 : (v2 < 256) = True := af (by omega)
     obtain ⟨k2, hk2⟩ : ∃ c, vch v2 = c := ⟨_, rfl⟩
     rw [hk2] at ht2
     obtain ⟨z2, g2, hz2⟩ : ∃ z, IntKind.i64.wrap (y1 + 2) = z ∧ Aside0 (z = ((B + 2 : Nat) : Int)) := ⟨_, wrp (by have := HB.out.1; omega) Z39, ⟨by have := HB.out.1; omega⟩⟩
     have hvc2 : Aside0 (k2 = vch (at_ s (B + 2))) := ⟨by rw [hv2, hk2]⟩
     obtain ⟨v3, hv3⟩ : ∃ v, at_ s (B + 3) = v := ⟨_, rfl⟩
     have hr3 := at_range s (B + 3)
     have hx3 : ∀ hpq, ((js[3]'hpq).toNat : Int) = v3 := fun hpq => by rw [← hv3]; exact hjx 3 (by omega) hpq
     have eX : (3 < js.size) = True := af (by omega)
     have hS3 : (3 < (js.size : Int)) = True := af (by omega)
     have ht3 := HV.out v3 (by omega) (by omega)
     have q3 : (0 ≤ v3) = True := af (by omega)
     have r3 : (v3 < 256) = True := af (by omega)
     obtain ⟨k3, hk3⟩ : ∃ c, vch v3 = c := ⟨_, rfl⟩
     rw [hk3] at ht3
     obtain ⟨z3, g3, hz3⟩ : ∃ z, IntKind.i64.wrap (y1 + 3) = z ∧ Aside0 (z = ((B + 3 : Nat) : Int)) := ⟨_, wrp (by have := HB.out.1; omega) Z39, ⟨by have := HB.out.1; omega⟩⟩
     have hvc3 : Aside0 (k3 = vch (at_ s (B + 3))) := ⟨by rw [hv3, hk3]⟩
     obtain ⟨v4, hv4⟩ : ∃ v, at_ s (B + 4) = v := ⟨_, rfl⟩
     have hr4 := at_range s (B + 4)
     have hx4 : ∀ hpq, ((js[4]'hpq).toNat : Int) = v4 := fun hpq => by rw [← hv4]; exact hjx 4 (by omega) hpq
     have Pf : (4 < js.size) = True := af (by omega)
     have hS4 : (4 < (js.size : Int)) = True := af (by omega)
     have ht4 := HV.out v4 (by omega) (by omega)
     have q4 : (0 ≤ v4) = True := af (by omega)
     have r4 : (v4 < 256) = True := af (by omega)
     obtain ⟨k4, hk4⟩ : ∃ c, vch v4 = c := ⟨_, rfl⟩
     rw [hk4] at ht4
     obtain ⟨z4, g4, hz4⟩ : ∃ z, IntKind.i64.wrap (y1 + 4) = z ∧ Aside0 (z = ((B + 4 : Nat) : Int)) := ⟨_, wrp (by have := HB.out.1; omega) Z39, ⟨by have := HB.out.1; omega⟩⟩
     have hvc4 : Aside0 (k4 = vch (at_ s (B + 4))) := ⟨by rw [hv4, hk4]⟩
     obtain ⟨v5, hv5⟩ : ∃ v, at_ s (B + 5) = v := ⟨_, rfl⟩
     have hr5 := at_range s (B + 5)
     have hx5 : ∀ hpq, ((js[5]'hpq).toNat : Int) = v5 := fun hpq => by rw [← hv5]; exact hjx 5 (by omega) hpq
     have Vo : (5 < js.size) = True := af (by omega)
     have hS5 : (5 < (js.size : Int)) = True := af (by omega)
     have ht5 := HV.out v5 (by omega) (by omega)
     have q5 : (0 ≤ v5) = True := af (by omega)
     have r5 : (v5 < 256) = True := af (by omega)
     obtain ⟨k5, hk5⟩ : ∃ c, vch v5 = c := ⟨_, rfl⟩
     rw [hk5] at ht5
     obtain ⟨z5, g5, hz5⟩ : ∃ z, IntKind.i64.wrap (y1 + 5) = z ∧ Aside0 (z = ((B + 5 : Nat) : Int)) := ⟨_, wrp (by have := HB.out.1; omega) Z39, ⟨by have := HB.out.1; omega⟩⟩
     have hvc5 : Aside0 (k5 = vch (at_ s (B + 5))) := ⟨by rw [hv5, hk5]⟩
     obtain ⟨v6, hv6⟩ : ∃ v, at_ s (B + 6) = v := ⟨_, rfl⟩
     have hr6 := at_range s (B + 6)
     have hx6 : ∀ hpq, ((js[6]'hpq).toNat : Int) = v6 := fun hpq => by rw [← hv6]; exact hjx 6 (by omega) hpq
     have Vq : (6 < js.size) = True := af (by omega)
     have hS6 : (6 < (js.size : Int)) = True := af (by omega)
     have ht6 := HV.out v6 (by omega) (by omega)
     have q6 : (0 ≤ v6) = True := af (by omega)
     have r6 : (v6 < 256) = True := af (by omega)
     obtain ⟨k6, hk6⟩ : ∃ c, vch v6 = c := ⟨_, rfl⟩
     rw [hk6] at ht6
     obtain ⟨z6, g6, hz6⟩ : ∃ z, IntKind.i64.wrap (y1 + 6) = z ∧ Aside0 (z = ((B + 6 : Nat) : Int)) := ⟨_, wrp (by have := HB.out.1; omega) Z39, ⟨by have := HB.out.1; omega⟩⟩
     have hvc6 : Aside0 (k6 = vch (at_ s (B + 6))) := ⟨by rw [hv6, hk6]⟩
     obtain ⟨v7, hv7⟩ : ∃ v, at_ s (B + 7) = v := ⟨_, rfl⟩
     have hr7 := at_range s (B + 7)
     have hx7 : ∀ hpq, ((js[7]'hpq).toNat : Int) = v7 := fun hpq => by rw [← hv7]; exact hjx 7 (by omega) hpq
     have Pg : (7 < js.size) = True := af (by omega)
     have hS7 : (7 < (js.size : Int)) = True := af (by omega)
     have ht7 := HV.out v7 (by omega) (by omega)
     have q7 : (0 ≤ v7) = True := af (by omega)
     have r7 : (v7 < 256) = True := af (by omega)
     obtain ⟨k7, hk7⟩ : ∃ c, vch v7 = c := ⟨_, rfl⟩
     rw [hk7] at ht7
     obtain ⟨z7, g7, hz7⟩ : ∃ z, IntKind.i64.wrap (y1 + 7) = z ∧ Aside0 (z = ((B + 7 : Nat) : Int)) := ⟨_, wrp (by have := HB.out.1; omega) Z39, ⟨by have := HB.out.1; omega⟩⟩
     have hvc7 : Aside0 (k7 = vch (at_ s (B + 7))) := ⟨by rw [hv7, hk7]⟩
     clear hjx hjz h8 hz8 c2 hlt hv0 hr0 hk0 hv1 hr1 hk1 hv2 hr2 hk2 hv3 hr3 hk3 hv4 hr4 hk4 hv5 hr5 hk5 hv6 hr6 hk6 hv7 hr7 hk7
     by_cases e0 : k0 ≠ 0
     ·have e0' : (k0 != 0) = true := ai e0
      have HE := aa e0
      clear e0
      go_wp2_with (fail)
      go_step3
      try simp only [Exit.then, Exit.inBlock]
      refine toG_goto _ (T.g (htok _ _ _ ?_))
      have hsk := HB.out.2.1.skips 0 (fun m hm => ?_)
      exact Jt_mk z0 x7 k0 (B + 0) d rfl ⟨hz0.out, HM.out.2.1, hsk, hvc0.out, HE.out, by have := HA.out; omega⟩ rfl
      exact absurd hm (by omega)
     have e0' : (k0 != 0) = false := aj (Decidable.not_not.mp e0)
     have HZ0 : Aside0 (k0 = 0) := ⟨Decidable.not_not.mp e0⟩
     clear e0
     by_cases e1 : k1 ≠ 0
     ·have e1' : (k1 != 0) = true := ai e1
      have HE := aa e1
      clear e1
      go_wp2_with (fail)
      go_step3
      try simp only [Exit.then, Exit.inBlock]
      refine toG_goto _ (T.g (htok _ _ _ ?_))
      have hsk := HB.out.2.1.skips 1 (fun m hm => ?_)
      exact Jt_mk z1 x7 k1 (B + 1) d rfl ⟨hz1.out, HM.out.2.1, hsk, hvc1.out, HE.out, by have := HA.out; omega⟩ rfl
      obtain rfl : m = 0 := by omega
      ·rw [← hvc0.out]; exact HZ0.out
     have e1' : (k1 != 0) = false := aj (Decidable.not_not.mp e1)
     have HZ1 : Aside0 (k1 = 0) := ⟨Decidable.not_not.mp e1⟩
     clear e1
     by_cases e2 : k2 ≠ 0
     ·have e2' : (k2 != 0) = true := ai e2
      have HE := aa e2
      clear e2
      go_wp2_with (fail)
      go_step3
      try simp only [Exit.then, Exit.inBlock]
      refine toG_goto _ (T.g (htok _ _ _ ?_))
      have hsk := HB.out.2.1.skips 2 (fun m hm => ?_)
      exact Jt_mk z2 x7 k2 (B + 2) d rfl ⟨hz2.out, HM.out.2.1, hsk, hvc2.out, HE.out, by have := HA.out; omega⟩ rfl
      obtain rfl | rfl : m = 0 ∨ m = 1 := by omega
      ·rw [← hvc0.out]; exact HZ0.out
      ·rw [← hvc1.out]; exact HZ1.out
     have e2' : (k2 != 0) = false := aj (Decidable.not_not.mp e2)
     have HZ2 : Aside0 (k2 = 0) := ⟨Decidable.not_not.mp e2⟩
     clear e2
     by_cases e3 : k3 ≠ 0
     ·have e3' : (k3 != 0) = true := ai e3
      have HE := aa e3
      clear e3
      go_wp2_with (fail)
      go_step3
      try simp only [Exit.then, Exit.inBlock]
      refine toG_goto _ (T.g (htok _ _ _ ?_))
      have hsk := HB.out.2.1.skips 3 (fun m hm => ?_)
      exact Jt_mk z3 x7 k3 (B + 3) d rfl ⟨hz3.out, HM.out.2.1, hsk, hvc3.out, HE.out, by have := HA.out; omega⟩ rfl
      obtain rfl | rfl | rfl : m = 0 ∨ m = 1 ∨ m = 2 := by omega
      ·rw [← hvc0.out]; exact HZ0.out
      ·rw [← hvc1.out]; exact HZ1.out
      ·rw [← hvc2.out]; exact HZ2.out
     have e3' : (k3 != 0) = false := aj (Decidable.not_not.mp e3)
     have HZ3 : Aside0 (k3 = 0) := ⟨Decidable.not_not.mp e3⟩
     clear e3
     by_cases e4 : k4 ≠ 0
     ·have e4' : (k4 != 0) = true := ai e4
      have HE := aa e4
      clear e4
      go_wp2_with (fail)
      go_step3
      try simp only [Exit.then, Exit.inBlock]
      refine toG_goto _ (T.g (htok _ _ _ ?_))
      have hsk := HB.out.2.1.skips 4 (fun m hm => ?_)
      exact Jt_mk z4 x7 k4 (B + 4) d rfl ⟨hz4.out, HM.out.2.1, hsk, hvc4.out, HE.out, by have := HA.out; omega⟩ rfl
      obtain rfl | rfl | rfl | rfl : m = 0 ∨ m = 1 ∨ m = 2 ∨ m = 3 := by omega
      ·rw [← hvc0.out]; exact HZ0.out
      ·rw [← hvc1.out]; exact HZ1.out
      ·rw [← hvc2.out]; exact HZ2.out
      ·rw [← hvc3.out]; exact HZ3.out
     have e4' : (k4 != 0) = false := aj (Decidable.not_not.mp e4)
     have HZ4 : Aside0 (k4 = 0) := ⟨Decidable.not_not.mp e4⟩
     clear e4
     by_cases e5 : k5 ≠ 0
     ·have e5' : (k5 != 0) = true := ai e5
      have HE := aa e5
      clear e5
      go_wp2_with (fail)
      go_step3
      try simp only [Exit.then, Exit.inBlock]
      refine toG_goto _ (T.g (htok _ _ _ ?_))
      have hsk := HB.out.2.1.skips 5 (fun m hm => ?_)
      exact Jt_mk z5 x7 k5 (B + 5) d rfl ⟨hz5.out, HM.out.2.1, hsk, hvc5.out, HE.out, by have := HA.out; omega⟩ rfl
      obtain rfl | rfl | rfl | rfl | rfl : m = 0 ∨ m = 1 ∨ m = 2 ∨ m = 3 ∨ m = 4 := by omega
      ·rw [← hvc0.out]; exact HZ0.out
      ·rw [← hvc1.out]; exact HZ1.out
      ·rw [← hvc2.out]; exact HZ2.out
      ·rw [← hvc3.out]; exact HZ3.out
      ·rw [← hvc4.out]; exact HZ4.out
     have e5' : (k5 != 0) = false := aj (Decidable.not_not.mp e5)
     have HZ5 : Aside0 (k5 = 0) := ⟨Decidable.not_not.mp e5⟩
     clear e5
     by_cases e6 : k6 ≠ 0
     ·have e6' : (k6 != 0) = true := ai e6
      have HE := aa e6
      clear e6
      go_wp2_with (fail)
      go_step3
      try simp only [Exit.then, Exit.inBlock]
      refine toG_goto _ (T.g (htok _ _ _ ?_))
      have hsk := HB.out.2.1.skips 6 (fun m hm => ?_)
      exact Jt_mk z6 x7 k6 (B + 6) d rfl ⟨hz6.out, HM.out.2.1, hsk, hvc6.out, HE.out, by have := HA.out; omega⟩ rfl
      obtain rfl | rfl | rfl | rfl | rfl | rfl : m = 0 ∨ m = 1 ∨ m = 2 ∨ m = 3 ∨ m = 4 ∨ m = 5 := by omega
      ·rw [← hvc0.out]; exact HZ0.out
      ·rw [← hvc1.out]; exact HZ1.out
      ·rw [← hvc2.out]; exact HZ2.out
      ·rw [← hvc3.out]; exact HZ3.out
      ·rw [← hvc4.out]; exact HZ4.out
      ·rw [← hvc5.out]; exact HZ5.out
     have e6' : (k6 != 0) = false := aj (Decidable.not_not.mp e6)
     have HZ6 : Aside0 (k6 = 0) := ⟨Decidable.not_not.mp e6⟩
     clear e6
     by_cases e7 : k7 ≠ 0
     ·have e7' : (k7 != 0) = true := ai e7
      have HE := aa e7
      clear e7
      go_wp2_with (fail)
      go_step3
      try simp only [Exit.then, Exit.inBlock]
      refine toG_goto _ (T.g (htok _ _ _ ?_))
      have hsk := HB.out.2.1.skips 7 (fun m hm => ?_)
      exact Jt_mk z7 x7 k7 (B + 7) d rfl ⟨hz7.out, HM.out.2.1, hsk, hvc7.out, HE.out, by have := HA.out; omega⟩ rfl
      obtain rfl | rfl | rfl | rfl | rfl | rfl | rfl : m = 0 ∨ m = 1 ∨ m = 2 ∨ m = 3 ∨ m = 4 ∨ m = 5 ∨ m = 6 := by omega
      ·rw [← hvc0.out]; exact HZ0.out
      ·rw [← hvc1.out]; exact HZ1.out
      ·rw [← hvc2.out]; exact HZ2.out
      ·rw [← hvc3.out]; exact HZ3.out
      ·rw [← hvc4.out]; exact HZ4.out
      ·rw [← hvc5.out]; exact HZ5.out
      ·rw [← hvc6.out]; exact HZ6.out
     have e7' : (k7 != 0) = false := aj (Decidable.not_not.mp e7)
     have HZ7 : Aside0 (k7 = 0) := ⟨Decidable.not_not.mp e7⟩
     clear e7
     go_wp2_with (fail)
     go_roundg (gk - 8)
     case measure => have := HC.out; have := HB.out; omega
     case rel =>
      have hsk := HB.out.2.1.skips 8 (fun m hm => ?_)
      exact ⟨z8, B + 8, rfl, ⟨HC.out.2.2, hsk, by have := HB.out.2.2; omega⟩, ⟨by have := HA.out; omega⟩, ⟨rfl⟩⟩
      obtain rfl | rfl | rfl | rfl | rfl | rfl | rfl | rfl : m = 0 ∨ m = 1 ∨ m = 2 ∨ m = 3 ∨ m = 4 ∨ m = 5 ∨ m = 6 ∨ m = 7 := by omega
      ·rw [← hvc0.out]; exact HZ0.out
      ·rw [← hvc1.out]; exact HZ1.out
      ·rw [← hvc2.out]; exact HZ2.out
      ·rw [← hvc3.out]; exact HZ3.out
      ·rw [← hvc4.out]; exact HZ4.out
      ·rw [← hvc5.out]; exact HZ5.out
      ·rw [← hvc6.out]; exact HZ6.out
      ·rw [← hvc7.out]; exact HZ7.out
    ·have c2' : decide (y1 < L8) = false := ae c2
     have p0 : (0 ≤ y1) = True := af (by have := HB.out.1; omega)
     have p1 : (y1 < (s.size : Int)) = True := af (by have := HB.out.1; omega)
     obtain ⟨v, hv⟩ : ∃ v, at_ s B = v := ⟨_, rfl⟩
     have hr := at_range s B
     have hx : ∀ h : y1.toNat < s.size, ((s[y1.toNat]'h).toNat : Int) = v := fun h => by rw [← hv]; exact at_get s y1 B HB.out.1 h
     have ht := HV.out v (by omega) (by omega)
     have q0 : (0 ≤ v) = True := af (by omega)
     have r0 : (v < 256) = True := af (by omega)
     obtain ⟨c, hc⟩ : ∃ c, vch v = c := ⟨_, rfl⟩
     rw [hc] at ht
     obtain ⟨z1, g1, hz1⟩ : ∃ z, IntKind.i64.wrap (y1 + 1) = z ∧ Aside0 (z = ((B + 1 : Nat) : Int)) := ⟨_, wrp (by have := HB.out.1; omega) Z39, ⟨by have := HB.out.1; omega⟩⟩
     have hvc : Aside0 (c = vch (at_ s B)) := ⟨by rw [hv, hc]⟩
     clear c2 hlt hv hr hc
     by_cases e : c = 0
     ·subst e
      go_wp2_with (fail)
      rw [toG_exit]
      go_wp2_with (fail)
      go_roundg (gg - 1)
      case measure => have := Hgg.out; have := HB.out.2.1.lt; have := HM.out; have := HA.out; omega
      case rel => exact ⟨z1, x7, B + 1, d, rfl, rfl, ⟨hz1.out, HM.out.2.1, HB.out.2.1.skip1 hvc.out.symm, by have := HB.out; have := HM.out; have := Hgg.out; have := HA.out; omega⟩, ⟨rfl⟩⟩
     ·have e' : (c == 0) = false := ag e
      have HE := aa e
      clear e
      go_wp2_with (fail)
      go_step3
      try simp only [Exit.then]
      rename_i hK
      refine hK _ _ ?_
      refine T.on (htok 0 _ _ ?_) rfl
      exact Jt_mk y1 x7 c B d rfl ⟨HB.out.1, HM.out.2.1, HB.out.2.1, hvc.out, HE.out, by have := HA.out; omega⟩ rfl
end Go.Proofs.YtmpdhdnoohmndaaGreatDoor.Gj

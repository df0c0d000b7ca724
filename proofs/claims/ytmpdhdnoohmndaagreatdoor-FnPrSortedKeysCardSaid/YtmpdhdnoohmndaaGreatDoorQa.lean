import Derived.Lib.AppendStr
import Derived.Test.YtmpdhdnoohmndaaGreatDoorVall
import Derived.Test.YtmpdhdnoohmndaaGreatDoorZip
import Derived.Test.YtmpdhdnoohmndaaGreatDoorProg
import Derived.Below
import Derived.Deep.Draws
import Derived.Deep.AppendLies
import Derived.Maps.AppendAt
import Derived.OwnWalk
import Derived.Laws.BytesArg
import Derived.Laws.MakeOwn
import Derived.Laws.OwnMore
import Derived.Deep.OwnRows
import Derived.Tactics
import Derived.Lib.ConvBytes
import Derived.Laws.Slices
import Derived.WalkKit
import Derived.KernelRfl
import Derived.RowKit3
import Derived.Deep.LoopGhost
import Derived.Deep.QuietTactic
import Derived.BigQuiet
import Derived.WideLaws
import Derived.Deep.DeepCutAuto
import Derived.Deep.CutBlock
import Derived.Deep.RegionHeld3
import Derived.Laws.Rows
import Derived.ArgAppend
import Derived.Laws.IdiomCopy
import Derived.OrdersHeld
import Derived.Laws.BitsLemmas
import Derived.RowKit
set_option linter.unusedVariables false
namespace Go.Proofs.YtmpdhdnoohmndaaGreatDoorW.PrintWords
open Go.RowKit Go.Proofs.YtmpdhdnoohmndaaGreatDoorW.PrintMore
theorem ownBlock_len (A : Option Addr) (n c m c2 : Nat) : (Value.slice A n c).ownBlock = (Value.slice A m c2).ownBlock := by cases A <;> rfl
theorem Kd.V_len {α : Type} {d : Kd α} {e : Nat} {w : World} {base : Nat} {p : Nat → Prop} {A : Option Addr} {n c m c2 : Nat} {v : Value} {xs : List α}
  (h : Kd.V d e w base (fun k => p k ∧ some k ≠ (Value.slice A n c).ownBlock) v xs) : Kd.V d e w base (fun k => p k ∧ some k ≠ (Value.slice A m c2).ownBlock) v xs := by
 rw [ownBlock_len A m c2 n c]; exact h
section
variable {P : Program} (w : World)
theorem append_string_at (base : Nat) (t u ty e : TypeId) (i : TypeInfo) (ht : P.underlying t = some (.slice e)) (hu : P.underlying u = some .string) (hi : P.info? e = some i) (hz : i.zero = some (.int .u8 0))
  (hsize : i.size = 1) (hby : i.bytes = 1) (v : Value) (n : Nat) (xs : List Value) (hown : w.ownsRow base e 1 v n xs) (s : ByteArray)
  (h63 : n + s.size ≤ maxLen) (hbytes : n + s.size ≤ 140737488355328) (hbase : base ≤ w.heap.size) :
  ∃ v' w', (Builtin.append_ #[t, u] ty #[v, .string s]).run P w = .ok v' w' ∧ w'.ownsRow base e 1 v' (n + s.size) (xs ++ Lib.strCells s) ∧ w.grownBy w' v.ownBlock ∧
   (v'.ownBlock = v.ownBlock ∨ v'.ownBlock = some w.heap.size) := by
 obtain ⟨v', w', hr, h2, h3, _⟩ := Lib.run_append_own_string (P := P) w base t u ty e i ht hu hi hz hsize hby v n xs hown s h63 hbytes hbase
 refine ⟨v', w', hr, h2, h3, ?_⟩
 have hsmall : n + s.size ≤ 9223372036854775807 := by simp only [maxLen] at h63; omega
 have hxl : xs.length = n := by simpa using hown.1
 have pick : ∀ (A : Option Addr) (m c : Nat) (w2 : World), (Builtin.append_ #[t, u] ty #[v, .string s]).run P w = .ok (.slice A m c) w2 → v' = .slice A m c := by
  intro A m c w2 hq
  rw [hr] at hq
  injection hq
 rcases hown.2 with ⟨rfl, rfl⟩ | ⟨g, cap, cur, rfl, hbg, hg, hnc, hcm, hcs, htake⟩
 ·by_cases hm : s.size = 0
  ·have hf := Lib.run_firstCells_string (P := P) w 1 s
   rw [hm] at hf
   have hq : (Builtin.append_ #[t, u] ty #[.slice none 0 0, .string s]).run P w = .ok (.slice none 0 0) w := by
    simp [Builtin.append_, run_underlying ht, run_underlying hu, sizeOf, typeInfo, hi, hsize, Builtin.lenOf, hm, hf]
   have := pick _ _ _ _ hq
   subst this
   exact .inl rfl
  ·have hq := run_append_nil_string (P := P) w t u ty e i (.int .u8 0) ht hu hi hz s (by omega) (by omega) (by rw [hby]; omega)
   have := pick _ _ _ _ hq
   subst this
   exact .inr (by simp [Value.ownBlock])
 ·by_cases hroom : n + s.size ≤ cap
  ·have hcs' : cur.size = cap := by simpa using hcs
   have hq := Lib.run_append_room_string (P := P) w t u ty e i ht hu hi hsize g n cap cur hg s hroom (by omega)
   have := pick _ _ _ _ hq
   subst this
   exact .inl (by simp [Value.ownBlock])
  ·have holds : ∀ j u, xs[j]? = some u → w.cell? ((⟨g, 0, none⟩ : Addr).add j) = some u := hown.cells (g := g) rfl
   have hq := Lib.run_append_grow_string (P := P) w t u ty e i (.int .u8 0) ht hu hi hz ⟨g, 0, none⟩ n cap xs (by rw [hsize]; simpa using hxl) holds s (by omega) (by omega) (by rw [hby]; exact growslice_fits (by omega) (by omega))
   have := pick _ _ _ _ hq
   subst this
   exact .inr (by simp [Value.ownBlock])
end
section
variable {P : Program} {ops : Array Oper} {rest : List Oper} {o : Oper} {a : Act} {Q : Exit → Act → World → Prop}
theorem Kd.R_append_str {w0 W : World} (base : Nat) (hgd : o.guard = none) (s x : Operand) (t u e : TypeId)
  (ho : o.op = .call { callee := .builtin .append, args := #[s, x], argTypes := #[t, u] })
  (ht : P.underlying t = some (.slice e)) (hu : P.underlying u = some .string) (hinfo : (P.info? e).map (fun i => (i.zero, i.size, i.bytes)) = some (some (.int .u8 0), 1, 1))
  (v : Value) (xs : List Int) (y : ByteArray) (ok : Nat → Prop) (hs : a.eval s = v) (hx : a.eval x = .string y) (hfresh : ∀ k, W.heap.size ≤ k → ok k)
  (HO : Kd.R (Kd.int .u8) e W base ok v xs) (HB : Below base w0 W) (hbase : base ≤ W.heap.size) (hl : xs.length + y.size ≤ 140737488355328)
  (h : ∀ v1 w1, Kd.R (Kd.int .u8) e w1 base ok v1 (xs ++ bytesOf y) → Below base w0 w1 → W.grownBy w1 v.ownBlock → (v1.ownBlock = v.ownBlock ∨ ∃ b, v1.ownBlock = some b ∧ W.heap.size ≤ b) → wpList P ops Q rest (a.put o.dst v1) w1) :
  wpList P ops Q (o :: rest) a W := by
 obtain ⟨i0, hi, hzz⟩ := Option.map_eq_some_iff.1 hinfo
 simp only [Prod.mk.injEq] at hzz
 obtain ⟨hz0, hz1, hz2⟩ := hzz
 have hown0 := Kd.own_of_R (h1 := fun _ => rfl) HO
 obtain ⟨v1, w1, hr, hown, hg, hat⟩ := append_string_at (P := P) W base t u o.type e i0 ht hu hi hz0 hz1 hz2 v xs.length (encs (Value.int .u8) xs) hown0 y (by simp only [maxLen]; omega) hl hbase
 have hl2 : (xs ++ bytesOf y).length = xs.length + y.size := by rw [List.length_append, bytesOf_length]
 have hc : encs (Value.int .u8) (xs ++ bytesOf y) = encs (Value.int .u8) xs ++ Lib.strCells y := by
  simp [encs, bytesOf, Lib.strCells]
 have hR : Kd.R (Kd.int .u8) e w1 base ok v1 (xs ++ bytesOf y) := by
  refine Kd.R_of_own (h1 := fun _ => rfl) (by rw [hl2, hc]; exact hown) (fun k hk => ?_)
  rcases hat with e1 | e1
  ·exact HO.1 k (by rw [← e1]; exact hk)
  ·rw [e1] at hk
   injection hk with hk
   subst hk
   exact hfresh _ (Nat.le_refl _)
 refine wpList_plain hgd fun K hK => ?_
 unfold Oper.wp execOp
 simp only [ho, resolve, invoke, builtin, Sem.run_bind, Sem.run_pure, Result.andThen_ok, List.map_toArray, List.map_cons, List.map_nil, hs, hx, hr]
 refine hK _ _ (h v1 w1 hR (HB.grown hg hbase (own_base hown0)) hg ?_)
 rcases hat with hat | hat
 ·exact .inl hat
 ·exact .inr ⟨_, hat, Nat.le_refl _⟩
end
end Go.Proofs.YtmpdhdnoohmndaaGreatDoorW.PrintWords
set_option linter.unusedVariables false
namespace Go.Proofs.YtmpdhdnoohmndaaGreatDoorW.PrintWords
open Go.RowKit
def Kd.flt : Kd Nat := Kd.scalar (Value.float .f64) (fun _ => rfl)
theorem run_store_float {P : Program} {w : World} {a : Addr} (k : FloatKind) (n : Nat) (m : Mode) : (store a (.float k n) m).run P w = stored P w a (.float k n) m := run_store P w a _ m rfl
end Go.Proofs.YtmpdhdnoohmndaaGreatDoorW.PrintWords
namespace Go.Proofs.YtmpdhdnoohmndaaGreatDoor.Sp
open Go.RowKit Go.Proofs.YtmpdhdnoohmndaaGreatDoorW.PrintWords Go.Proofs.YtmpdhdnoohmndaaGreatDoorW.PrintLast Go.Proofs.YtmpdhdnoohmndaaGreatDoorW.PrintMore
attribute [local go_sem] run_store_float max2_int min2_int max_two min_two max_three min_three max_four min_four
set_option linter.unusedVariables false
set_option linter.unusedSimpArgs false
def errW : Option Int → Value
 | none => .nilIface
 | some c => .iface 121 (.int .i64 c)
theorem errW_none : errW none = .nilIface := rfl
theorem errW_some (c : Int) : errW (some c) = .iface 121 (.int .i64 c) := rfl
theorem info5 : (Tryz.prog.info? 5).map (fun i => (i.zero, i.size, i.bytes)) = some (some (.int .u8 0), 1, 1) := by kernel_rfl
theorem info9 : (Tryz.prog.info? 9).map (fun i => (i.zero, i.size, i.bytes)) = some (some (.string ⟨#[]⟩), 1, 16) := by kernel_rfl
theorem info25 : (Tryz.prog.info? 28).map (fun i => (i.zero, i.size, i.bytes)) = some (some (.agg #[(.int .i64 0), (.string ⟨#[]⟩), (.slice none 0 0), (.slice none 0 0)]), 4, 72) := by kernel_rfl
theorem info31 : (Tryz.prog.info? 63).map (fun i => (i.zero, i.size, i.bytes)) = some (some (.agg #[(.int .i64 0), (.int .i64 0), (.int .i64 0), (.slice none 0 0), (.slice none 0 0)]), 5, 72) := by kernel_rfl
theorem info93 : (Tryz.prog.info? 84).map (fun i => (i.zero, i.size, i.bytes)) = some (some (.agg #[(.int .i64 0), (.int .i64 0)]), 2, 16) := by kernel_rfl
structure S93 where
 f0 : Int
 f1 : Int
def z93 : S93 := ⟨(0 : Int), (0 : Int)⟩
def k93 : Kd S93 := Kd.iso (Kd.pair (Kd.int .i64) (Kd.int .i64)) (fun x : S93 => (x.f0, x.f1))
theorem k93_open {w : World} {x : S93} {cs : List Value} (h : k93.K w x cs) : cs = [.int .i64 x.f0, .int .i64 x.f1] := by
 obtain ⟨_, _, rfl, rfl, rfl⟩ := h
 exact rfl
theorem k93_mkM (w : World) (base : Nat) (ok : Nat → Prop) (x : S93)  : k93.M w base ok x [.int .i64 x.f0, .int .i64 x.f1] := ⟨[.int .i64 x.f0], [.int .i64 x.f1], rfl, rfl, rfl⟩
def rd_T93 (xs : List S93) (i : Int) : S93 := xs.getD i.toNat z93
theorem at_T93 {w : World} {A : Option Addr} {n : Nat} {xs : List S93} (h : Kd.C k93 w A n xs) (i : Int) (h0 : 0 ≤ i) (h1 : i < n) : ∃ ad , A = some ad ∧ w.cell? (ad.add (i.toNat * 2)) = some (.int .i64 (rd_T93 xs i).f0) ∧ w.cell? ⟨(ad.add (i.toNat * 2)).block, (ad.add (i.toNat * 2)).off + 1, none⟩ = some (.int .i64 (rd_T93 xs i).f1) := by
 obtain ⟨ad, c, e, _, hK, hc0⟩ := Kd.C_get h z93 i h0 h1
 have hc : ∀ j u, c[j]? = some u → w.cell? (ad.add (i.toNat * 2 + j)) = some u := hc0
 obtain rfl := k93_open hK
 exact ⟨ad, e, hc 0 _ rfl, Z60⟩
structure S31 where
 f0 : Int
 f1 : Int
 f2 : Int
 f3 : (List S93)
 f4 : (List S31)
def z31 : S31 := ⟨(0 : Int), (0 : Int), (0 : Int), ([] : List S93), ([] : List S31)⟩
def F31 (d : Kd S31) : Kd S31 := Kd.iso (Kd.pair (Kd.int .i64) (Kd.pair (Kd.int .i64) (Kd.pair (Kd.int .i64) (Kd.pair (Kd.slice 84 k93) (Kd.slice 63 d))))) (fun x : S31 => (x.f0, x.f1, x.f2, x.f3, x.f4))
theorem mono31 : Kd.Mono F31 := Kd.mono_iso _ (Kd.mono_pair (Kd.mono_const _) (Kd.mono_pair (Kd.mono_const _) (Kd.mono_pair (Kd.mono_const _) (Kd.mono_pair (Kd.mono_const _) (Kd.mono_slice 63 Kd.mono_id)))))
theorem sub31 : Kd.Sub F31 [63, 84] := Kd.sub_iso _ (Kd.sub_pair (Kd.sub_const _ (by decide)) (Kd.sub_pair (Kd.sub_const _ (by decide)) (Kd.sub_pair (Kd.sub_const _ (by decide)) (Kd.sub_pair (Kd.sub_const _ (by decide)) (Kd.sub_slice 63 (by decide) Kd.sub_id)))))
theorem sz31 : ∀ n, (Kd.upto F31 5 [63, 84] n).sz = 5 := Kd.upto_sz (fun _ => rfl)
def k31 : Kd S31 := Kd.fix F31 5 [63, 84] sz31 (Kd.upto_E sub31)
theorem k31_open {w : World} {x : S31} {cs : List Value} (h : k31.K w x cs) : ∃ A3 c3 A4 c4, cs = [.int .i64 x.f0, .int .i64 x.f1, .int .i64 x.f2, .slice A3 x.f3.length c3, .slice A4 x.f4.length c4] ∧ x.f3.length ≤ c3 ∧ k93.C w A3 x.f3.length x.f3 ∧ x.f4.length ≤ c4 ∧ k31.C w A4 x.f4.length x.f4 := by
 obtain ⟨n, h⟩ := h
 cases n with
 | zero => exact h.elim
 | succ n =>
  obtain ⟨_, _, rfl, rfl, ⟨_, _, rfl, rfl, ⟨_, _, rfl, rfl, ⟨_, _, rfl, ⟨A3, c3, rfl, l3, g3⟩, ⟨A4, c4, rfl, l4, g4⟩⟩⟩⟩⟩ := h
  exact ⟨A3, c3, A4, c4, rfl, l3, g3, l4, Kd.fix_C g4⟩
theorem k31_mkM (w : World) (base : Nat) (ok : Nat → Prop) (x : S31) {v3 : Value} (g3 : k93.R 84 w base ok v3 x.f3) {v4 : Value} (g4 : k31.R 63 w base ok v4 x.f4) : k31.M w base ok x [.int .i64 x.f0, .int .i64 x.f1, .int .i64 x.f2, v3, v4] := by
 obtain ⟨n4, q4⟩ := Kd.fix_R_back mono31 g4
 have r4 := Kd.upto_R_le mono31 sz31 (show n4 ≤ n4 by omega) q4
 exact ⟨n4 + 1, ⟨[.int .i64 x.f0], [.int .i64 x.f1, .int .i64 x.f2, v3, v4], rfl, rfl, ⟨[.int .i64 x.f1], [.int .i64 x.f2, v3, v4], rfl, rfl, ⟨[.int .i64 x.f2], [v3, v4], rfl, rfl, ⟨[v3], [v4], rfl, ⟨v3, rfl, g3⟩, ⟨v4, rfl, r4⟩⟩⟩⟩⟩⟩
def rd_T31 (xs : List S31) (i : Int) : S31 := xs.getD i.toNat z31
theorem at_T31 {w : World} {A : Option Addr} {n : Nat} {xs : List S31} (h : Kd.C k31 w A n xs) (i : Int) (h0 : 0 ≤ i) (h1 : i < n) : ∃ ad A3 c3 A4 c4, A = some ad ∧ w.cell? (ad.add (i.toNat * 5)) = some (.int .i64 (rd_T31 xs i).f0) ∧ w.cell? ⟨(ad.add (i.toNat * 5)).block, (ad.add (i.toNat * 5)).off + 1, none⟩ = some (.int .i64 (rd_T31 xs i).f1) ∧ w.cell? ⟨(ad.add (i.toNat * 5)).block, (ad.add (i.toNat * 5)).off + 2, none⟩ = some (.int .i64 (rd_T31 xs i).f2) ∧ w.cell? ⟨(ad.add (i.toNat * 5)).block, (ad.add (i.toNat * 5)).off + 3, none⟩ = some (.slice A3 (rd_T31 xs i).f3.length c3) ∧ w.cell? ⟨(ad.add (i.toNat * 5)).block, (ad.add (i.toNat * 5)).off + 4, none⟩ = some (.slice A4 (rd_T31 xs i).f4.length c4) ∧ (rd_T31 xs i).f3.length ≤ c3 ∧ k93.C w A3 (rd_T31 xs i).f3.length (rd_T31 xs i).f3 ∧ (rd_T31 xs i).f4.length ≤ c4 ∧ k31.C w A4 (rd_T31 xs i).f4.length (rd_T31 xs i).f4 := by
 obtain ⟨ad, c, e, _, hK, hc0⟩ := Kd.C_get h z31 i h0 h1
 have hc : ∀ j u, c[j]? = some u → w.cell? (ad.add (i.toNat * 5 + j)) = some u := hc0
 obtain ⟨A3, c3, A4, c4, rfl, l3, g3, l4, g4⟩ := k31_open hK
 exact ⟨ad, A3, c3, A4, c4, e, hc 0 _ rfl, Z60, by rw [← add_field _ _ 2 (by omega)]; exact hc 2 _ rfl, by rw [← add_field _ _ 3 (by omega)]; exact hc 3 _ rfl, by rw [← add_field _ _ 4 (by omega)]; exact hc 4 _ rfl, l3, g3, l4, g4⟩
structure S25 where
 f0 : Int
 f1 : au
 f2 : (List au)
 f3 : (List S25)
def z25 : S25 := ⟨(0 : Int), (⟨#[]⟩ : au), ([] : List au), ([] : List S25)⟩
def F25 (d : Kd S25) : Kd S25 := Kd.iso (Kd.pair (Kd.int .i64) (Kd.pair Kd.string (Kd.pair (Kd.slice 9 Kd.string) (Kd.slice 28 d)))) (fun x : S25 => (x.f0, x.f1, x.f2, x.f3))
theorem mono25 : Kd.Mono F25 := Kd.mono_iso _ (Kd.mono_pair (Kd.mono_const _) (Kd.mono_pair (Kd.mono_const _) (Kd.mono_pair (Kd.mono_const _) (Kd.mono_slice 28 Kd.mono_id))))
theorem sub25 : Kd.Sub F25 [9, 28] := Kd.sub_iso _ (Kd.sub_pair (Kd.sub_const _ (by decide)) (Kd.sub_pair (Kd.sub_const _ (by decide)) (Kd.sub_pair (Kd.sub_const _ (by decide)) (Kd.sub_slice 28 (by decide) Kd.sub_id))))
theorem sz25 : ∀ n, (Kd.upto F25 4 [9, 28] n).sz = 4 := Kd.upto_sz (fun _ => rfl)
def k25 : Kd S25 := Kd.fix F25 4 [9, 28] sz25 (Kd.upto_E sub25)
theorem k25_open {w : World} {x : S25} {cs : List Value} (h : k25.K w x cs) : ∃ A2 c2 A3 c3, cs = [.int .i64 x.f0, .string x.f1, .slice A2 x.f2.length c2, .slice A3 x.f3.length c3] ∧ x.f2.length ≤ c2 ∧ Kd.string.C w A2 x.f2.length x.f2 ∧ x.f3.length ≤ c3 ∧ k25.C w A3 x.f3.length x.f3 := by
 obtain ⟨n, h⟩ := h
 cases n with
 | zero => exact h.elim
 | succ n =>
  obtain ⟨_, _, rfl, rfl, ⟨_, _, rfl, rfl, ⟨_, _, rfl, ⟨A2, c2, rfl, l2, g2⟩, ⟨A3, c3, rfl, l3, g3⟩⟩⟩⟩ := h
  exact ⟨A2, c2, A3, c3, rfl, l2, g2, l3, Kd.fix_C g3⟩
theorem k25_mkM (w : World) (base : Nat) (ok : Nat → Prop) (x : S25) {v2 : Value} (g2 : Kd.string.R 9 w base ok v2 x.f2) {v3 : Value} (g3 : k25.R 28 w base ok v3 x.f3) : k25.M w base ok x [.int .i64 x.f0, .string x.f1, v2, v3] := by
 obtain ⟨n3, q3⟩ := Kd.fix_R_back mono25 g3
 have r3 := Kd.upto_R_le mono25 sz25 (show n3 ≤ n3 by omega) q3
 exact ⟨n3 + 1, ⟨[.int .i64 x.f0], [.string x.f1, v2, v3], rfl, rfl, ⟨[.string x.f1], [v2, v3], rfl, rfl, ⟨[v2], [v3], rfl, ⟨v2, rfl, g2⟩, ⟨v3, rfl, r3⟩⟩⟩⟩⟩
def rd_T25 (xs : List S25) (i : Int) : S25 := xs.getD i.toNat z25
theorem at_T25 {w : World} {A : Option Addr} {n : Nat} {xs : List S25} (h : Kd.C k25 w A n xs) (i : Int) (h0 : 0 ≤ i) (h1 : i < n) : ∃ ad A2 c2 A3 c3, A = some ad ∧ w.cell? (ad.add (i.toNat * 4)) = some (.int .i64 (rd_T25 xs i).f0) ∧ w.cell? ⟨(ad.add (i.toNat * 4)).block, (ad.add (i.toNat * 4)).off + 1, none⟩ = some (.string (rd_T25 xs i).f1) ∧ w.cell? ⟨(ad.add (i.toNat * 4)).block, (ad.add (i.toNat * 4)).off + 2, none⟩ = some (.slice A2 (rd_T25 xs i).f2.length c2) ∧ w.cell? ⟨(ad.add (i.toNat * 4)).block, (ad.add (i.toNat * 4)).off + 3, none⟩ = some (.slice A3 (rd_T25 xs i).f3.length c3) ∧ (rd_T25 xs i).f2.length ≤ c2 ∧ Kd.string.C w A2 (rd_T25 xs i).f2.length (rd_T25 xs i).f2 ∧ (rd_T25 xs i).f3.length ≤ c3 ∧ k25.C w A3 (rd_T25 xs i).f3.length (rd_T25 xs i).f3 := by
 obtain ⟨ad, c, e, _, hK, hc0⟩ := Kd.C_get h z25 i h0 h1
 have hc : ∀ j u, c[j]? = some u → w.cell? (ad.add (i.toNat * 4 + j)) = some u := hc0
 obtain ⟨A2, c2, A3, c3, rfl, l2, g2, l3, g3⟩ := k25_open hK
 exact ⟨ad, A2, c2, A3, c3, e, hc 0 _ rfl, Z60, by rw [← add_field _ _ 2 (by omega)]; exact hc 2 _ rfl, by rw [← add_field _ _ 3 (by omega)]; exact hc 3 _ rfl, l2, g2, l3, g3⟩
structure S39 where
 f0 : Int
 f1 : au
 f2 : au
 f3 : Nat
 f4 : Bool
def z39 : S39 := ⟨(0 : Int), (⟨#[]⟩ : au), (⟨#[]⟩ : au), (0 : Nat), false⟩
def k39 : Kd S39 := Kd.iso (Kd.pair (Kd.int .i64) (Kd.pair Kd.string (Kd.pair Kd.string (Kd.pair Kd.flt Kd.bool)))) (fun x : S39 => (x.f0, x.f1, x.f2, x.f3, x.f4))
theorem k39_open {w : World} {x : S39} {cs : List Value} (h : k39.K w x cs) : cs = [.int .i64 x.f0, .string x.f1, .string x.f2, .float .f64 x.f3, .bool x.f4] := by
 obtain ⟨_, _, rfl, rfl, ⟨_, _, rfl, rfl, ⟨_, _, rfl, rfl, ⟨_, _, rfl, rfl, rfl⟩⟩⟩⟩ := h
 exact rfl
theorem k39_mkM (w : World) (base : Nat) (ok : Nat → Prop) (x : S39)  : k39.M w base ok x [.int .i64 x.f0, .string x.f1, .string x.f2, .float .f64 x.f3, .bool x.f4] := ⟨[.int .i64 x.f0], [.string x.f1, .string x.f2, .float .f64 x.f3, .bool x.f4], rfl, rfl, ⟨[.string x.f1], [.string x.f2, .float .f64 x.f3, .bool x.f4], rfl, rfl, ⟨[.string x.f2], [.float .f64 x.f3, .bool x.f4], rfl, rfl, ⟨[.float .f64 x.f3], [.bool x.f4], rfl, rfl, rfl⟩⟩⟩⟩
structure S41 where
 f0 : S39
 f1 : S39
def z41 : S41 := ⟨z39, z39⟩
def k41 : Kd S41 := Kd.iso (Kd.pair k39 k39) (fun x : S41 => (x.f0, x.f1))
theorem k41_open {w : World} {x : S41} {cs : List Value} (h : k41.K w x cs) : cs = [.int .i64 x.f0.f0, .string x.f0.f1, .string x.f0.f2, .float .f64 x.f0.f3, .bool x.f0.f4, .int .i64 x.f1.f0, .string x.f1.f1, .string x.f1.f2, .float .f64 x.f1.f3, .bool x.f1.f4] := by
 obtain ⟨_, _, rfl, s0, s5⟩ := h
 obtain rfl := k39_open s0
 obtain rfl := k39_open s5
 exact rfl
theorem k41_mkM (w : World) (base : Nat) (ok : Nat → Prop) (x : S41)  : k41.M w base ok x [.int .i64 x.f0.f0, .string x.f0.f1, .string x.f0.f2, .float .f64 x.f0.f3, .bool x.f0.f4, .int .i64 x.f1.f0, .string x.f1.f1, .string x.f1.f2, .float .f64 x.f1.f3, .bool x.f1.f4] := ⟨[.int .i64 x.f0.f0, .string x.f0.f1, .string x.f0.f2, .float .f64 x.f0.f3, .bool x.f0.f4], [.int .i64 x.f1.f0, .string x.f1.f1, .string x.f1.f2, .float .f64 x.f1.f3, .bool x.f1.f4], rfl, (k39_mkM w base ok x.f0 ), (k39_mkM w base ok x.f1 )⟩
def rd_T41 (xs : List S41) (i : Int) : S41 := xs.getD i.toNat z41
theorem at_T41 {w : World} {A : Option Addr} {n : Nat} {xs : List S41} (h : Kd.C k41 w A n xs) (i : Int) (h0 : 0 ≤ i) (h1 : i < n) : ∃ ad , A = some ad ∧ w.cell? (ad.add (i.toNat * 10)) = some (.int .i64 (rd_T41 xs i).f0.f0) ∧ w.cell? ⟨(ad.add (i.toNat * 10)).block, (ad.add (i.toNat * 10)).off + 1, none⟩ = some (.string (rd_T41 xs i).f0.f1) ∧ w.cell? ⟨(ad.add (i.toNat * 10)).block, (ad.add (i.toNat * 10)).off + 2, none⟩ = some (.string (rd_T41 xs i).f0.f2) ∧ w.cell? ⟨(ad.add (i.toNat * 10)).block, (ad.add (i.toNat * 10)).off + 3, none⟩ = some (.float .f64 (rd_T41 xs i).f0.f3) ∧ w.cell? ⟨(ad.add (i.toNat * 10)).block, (ad.add (i.toNat * 10)).off + 4, none⟩ = some (.bool (rd_T41 xs i).f0.f4) ∧ w.cell? ⟨(ad.add (i.toNat * 10)).block, (ad.add (i.toNat * 10)).off + 5, none⟩ = some (.int .i64 (rd_T41 xs i).f1.f0) ∧ w.cell? ⟨(ad.add (i.toNat * 10)).block, (ad.add (i.toNat * 10)).off + 6, none⟩ = some (.string (rd_T41 xs i).f1.f1) ∧ w.cell? ⟨(ad.add (i.toNat * 10)).block, (ad.add (i.toNat * 10)).off + 7, none⟩ = some (.string (rd_T41 xs i).f1.f2) ∧ w.cell? ⟨(ad.add (i.toNat * 10)).block, (ad.add (i.toNat * 10)).off + 8, none⟩ = some (.float .f64 (rd_T41 xs i).f1.f3) ∧ w.cell? ⟨(ad.add (i.toNat * 10)).block, (ad.add (i.toNat * 10)).off + 9, none⟩ = some (.bool (rd_T41 xs i).f1.f4) := by
 obtain ⟨ad, c, e, _, hK, hc0⟩ := Kd.C_get h z41 i h0 h1
 have hc : ∀ j u, c[j]? = some u → w.cell? (ad.add (i.toNat * 10 + j)) = some u := hc0
 obtain rfl := k41_open hK
 exact ⟨ad, e, hc 0 _ rfl, Z60, by rw [← add_field _ _ 2 (by omega)]; exact hc 2 _ rfl, by rw [← add_field _ _ 3 (by omega)]; exact hc 3 _ rfl, by rw [← add_field _ _ 4 (by omega)]; exact hc 4 _ rfl, by rw [← add_field _ _ 5 (by omega)]; exact hc 5 _ rfl, by rw [← add_field _ _ 6 (by omega)]; exact hc 6 _ rfl, by rw [← add_field _ _ 7 (by omega)]; exact hc 7 _ rfl, by rw [← add_field _ _ 8 (by omega)]; exact hc 8 _ rfl, by rw [← add_field _ _ 9 (by omega)]; exact hc 9 _ rfl⟩
end Go.Proofs.YtmpdhdnoohmndaaGreatDoor.Sp
namespace Go.Proofs.YtmpdhdnoohmndaaGreatDoor.Sp
open Go.RowKit Go.Proofs.YtmpdhdnoohmndaaGreatDoorW.PrintWords Go.Proofs.YtmpdhdnoohmndaaGreatDoorW.PrintLast Go.Proofs.YtmpdhdnoohmndaaGreatDoorW.PrintMore
set_option linter.unusedVariables false
theorem bnd {α β : Type} {o : Option α} {f : α → Option β} {z : β} {P : Prop} (k : ∀ a, Aside0 (o = some a) → f a = some z → P) : o.bind f = some z → P := fun H => by
 obtain ⟨a, h, H⟩ := Option.bind_eq_some_iff.mp H
 exact k a ⟨h⟩ H
theorem sB {α : Type} {b : Bool} {x y : α} {z : α} (H : (if b = true then x else y) = z) : (b = true ∧ x = z) ∨ (b = false ∧ y = z) := by
 cases b
 ·exact .inr ⟨rfl, H⟩
 exact .inl ⟨rfl, H⟩
theorem sId1_d0 {α : Type} {c : Prop} [Decidable c] {x y : α} {z : α} {P : Prop} (k : decide c = true → x = z → P) (l : decide c = false → y = z → P) : (if c then x else y) = z → P := fun H => by
 by_cases h : c
 ·rw [if_pos h] at H; exact k (decide_eq_true h) H
 ·rw [if_neg h] at H; exact l (decide_eq_false h) H
theorem sIe1n0_e0n1 {α : Type} {β : Type} [BEq β] [LawfulBEq β] {a b : β} [Decidable (a = b)] {x y : α} {z : α} {P : Prop} (k : (a == b) = true → (a != b) = false → x = z → P) (l : (a == b) = false → (a != b) = true → y = z → P) : (if a = b then x else y) = z → P := fun H => by
 by_cases h : a = b
 ·rw [if_pos h] at H; exact k (beq_iff_eq.mpr h) (bne_eq_false_iff_eq.mpr h) H
 ·rw [if_neg h] at H; exact l (beq_eq_false_iff_ne.mpr h) (bne_iff_ne.mpr h) H
theorem sIe1n0_e0n1k {α : Type} {β : Type} [BEq β] [LawfulBEq β] {a b : β} [Decidable (a = b)] {x y : α} {z : α} {P : Prop} (k : (a == b) = true → (a != b) = false → x = z → P) (l : (a == b) = false → (a != b) = true → ¬ (a = b) → y = z → P) : (if a = b then x else y) = z → P := fun H => by
 by_cases h : a = b
 ·rw [if_pos h] at H; exact k (beq_iff_eq.mpr h) (bne_eq_false_iff_eq.mpr h) H
 ·rw [if_neg h] at H; exact l (beq_eq_false_iff_ne.mpr h) (bne_iff_ne.mpr h) h H
theorem sIk_k {α : Type} {c : Prop} [Decidable c] {x y : α} {z : α} {P : Prop} (k : c → x = z → P) (l : ¬ (c) → y = z → P) : (if c then x else y) = z → P := fun H => by
 by_cases h : c
 ·rw [if_pos h] at H; exact k h H
 ·rw [if_neg h] at H; exact l h H
theorem sNd1 {α : Type} {c : Prop} [Decidable c] {x : Option α} {z : α} {P : Prop} (k : decide c = true → x = some z → P) : (if c then x else none) = some z → P := fun H => by
 by_cases h : c
 ·rw [if_pos h] at H; exact k (decide_eq_true h) H
 ·rw [if_neg h] at H; cases H
theorem sNk {α : Type} {c : Prop} [Decidable c] {x : Option α} {z : α} {P : Prop} (k : c → x = some z → P) : (if c then x else none) = some z → P := fun H => by
 by_cases h : c
 ·rw [if_pos h] at H; exact k h H
 ·rw [if_neg h] at H; cases H
theorem sNt1d1 {α : Type} {c : Prop} [Decidable c] {x : Option α} {z : α} {P : Prop} (k : c = True → decide c = true → x = some z → P) : (if c then x else none) = some z → P := fun H => by
 by_cases h : c
 ·rw [if_pos h] at H; exact k (eq_true h) (decide_eq_true h) H
 ·rw [if_neg h] at H; cases H
theorem cz4 {w : World} {g : Nat} {t : TypeId} {x0 x1 x2 x3 : Value} (h : w.heap[g]? = some (.cells #[x0, x1, x2, x3] t (0, 0))) : w.cell? ⟨g, 0, none⟩ = some x0 ∧ w.cell? ⟨g, 1, none⟩ = some x1 ∧ w.cell? ⟨g, 2, none⟩ = some x2 ∧ w.cell? ⟨g, 3, none⟩ = some x3 ∧ w.frozen? ⟨g, 0, none⟩ = false ∧ w.frozen? ⟨g, 1, none⟩ = false ∧ w.frozen? ⟨g, 2, none⟩ = false ∧ w.frozen? ⟨g, 3, none⟩ = false :=
 ⟨(blk_cell h 0).trans rfl, (blk_cell h 1).trans rfl, (blk_cell h 2).trans rfl, (blk_cell h 3).trans rfl, blk_frozen h 0, blk_frozen h 1, blk_frozen h 2, blk_frozen h 3⟩
theorem cz5 {w : World} {g : Nat} {t : TypeId} {x0 x1 x2 x3 x4 : Value} (h : w.heap[g]? = some (.cells #[x0, x1, x2, x3, x4] t (0, 0))) : w.cell? ⟨g, 0, none⟩ = some x0 ∧ w.cell? ⟨g, 1, none⟩ = some x1 ∧ w.cell? ⟨g, 2, none⟩ = some x2 ∧ w.cell? ⟨g, 3, none⟩ = some x3 ∧ w.cell? ⟨g, 4, none⟩ = some x4 ∧ w.frozen? ⟨g, 0, none⟩ = false ∧ w.frozen? ⟨g, 1, none⟩ = false ∧ w.frozen? ⟨g, 2, none⟩ = false ∧ w.frozen? ⟨g, 3, none⟩ = false ∧ w.frozen? ⟨g, 4, none⟩ = false :=
 ⟨(blk_cell h 0).trans rfl, (blk_cell h 1).trans rfl, (blk_cell h 2).trans rfl, (blk_cell h 3).trans rfl, (blk_cell h 4).trans rfl, blk_frozen h 0, blk_frozen h 1, blk_frozen h 2, blk_frozen h 3, blk_frozen h 4⟩
theorem cz6 {w : World} {g : Nat} {t : TypeId} {x0 x1 x2 x3 x4 x5 : Value} (h : w.heap[g]? = some (.cells #[x0, x1, x2, x3, x4, x5] t (0, 0))) : w.cell? ⟨g, 0, none⟩ = some x0 ∧ w.cell? ⟨g, 1, none⟩ = some x1 ∧ w.cell? ⟨g, 2, none⟩ = some x2 ∧ w.cell? ⟨g, 3, none⟩ = some x3 ∧ w.cell? ⟨g, 4, none⟩ = some x4 ∧ w.cell? ⟨g, 5, none⟩ = some x5 ∧ w.frozen? ⟨g, 0, none⟩ = false ∧ w.frozen? ⟨g, 1, none⟩ = false ∧ w.frozen? ⟨g, 2, none⟩ = false ∧ w.frozen? ⟨g, 3, none⟩ = false ∧ w.frozen? ⟨g, 4, none⟩ = false ∧ w.frozen? ⟨g, 5, none⟩ = false :=
 ⟨(blk_cell h 0).trans rfl, (blk_cell h 1).trans rfl, (blk_cell h 2).trans rfl, (blk_cell h 3).trans rfl, (blk_cell h 4).trans rfl, (blk_cell h 5).trans rfl, blk_frozen h 0, blk_frozen h 1, blk_frozen h 2, blk_frozen h 3, blk_frozen h 4, blk_frozen h 5⟩
theorem blk_farA {w : World} {g : Nat} {o : Obj} {p : Addr} {u : Value} (hp : Aside0 (g ≠ p.block)) (h : w.heap[g]? = some o) : (w.setCell p u).heap[g]? = some o := (Below.heap_setCell w p u g hp.out).trans h
theorem blk_putL {w : World} {g : Nat} {t : TypeId} {l l' : List Value} (h : w.heap[g]? = some (.cells l.toArray t (0, 0))) (i : Nat) (u : Value) (e : l.set i u = l') : (w.setCell ⟨g, i, none⟩ u).heap[g]? = some (.cells l'.toArray t (0, 0)) := blk_put h i u (by rw [List.setIfInBounds_toArray, e])
theorem lset0 (a u : Value) (l : List Value) : (a :: l).set 0 u = u :: l := rfl
theorem lsetS {a u : Value} {l l' : List Value} {i : Nat} (e : l.set i u = l') : (a :: l).set (i + 1) u = a :: l' := by rw [List.set_cons_succ, e]
theorem zB {p : Prop} (h : p := by repeat (first | (with_reducible first | exact Aside0.out (by assumption) | apply below_alloc | apply pw_below_drewN | apply below_drew1 | refine below_set ?_ (Aside0.out (by assumption))) | exact Aside0.out (by assumption))) : p := h
theorem zK {p : Prop} (h : p := by repeat (first | (with_reducible first | exact Aside0.out (by assumption) | apply KeepBut.set_ | apply keep_drewN | apply keep_drew | apply keep_alloc | refine keep_far ?_ (Aside0.out (by assumption)) _) | exact Aside0.out (by assumption))) : p := h
theorem zP {p : Prop} (h : p := by repeat (first | (with_reducible first | exact Aside0.out (by assumption) | apply Kept.alloc | apply Kept.drewN | apply Kept.drew) | exact Aside0.out (by assumption))) : p := h
theorem zC {p : Prop} (h : p := by repeat (with_reducible first | exact Aside0.out (by assumption) | apply blk_drewN | apply blk_drew | apply blk_alloc | (apply blk_farA; assumption) | apply blk_putL | exact lset0 _ _ _ | apply lsetS)) : p := h
abbrev LeI {α : Type} (a b : Option α) : Prop := Nonempty (PLift (LeO a b))
theorem lem {α : Type} {a b : Option α} [h : LeI a b] : LeO a b := h.elim PLift.down
theorem zM {p : Prop} (h : p := by repeat' (with_reducible first | exact lem | apply ih0 | apply ih1 | apply ih2 | apply ih3 | apply ih4 | apply ih5 | apply ih6 | apply ih7 | apply ih8 | apply ih9 | exact LeO.refl _ | exact LeO.none _ | refine LeO.ite ?_ ?_ | refine LeO.bind ?_ (fun _ => ?_))) : p := h
theorem dqC {w w' : World} {m g : Nat} {o : Obj} (hq : World.drewN w m = w') (h : Aside0 (w.heap[g]? = some o)) : Aside0 (w'.heap[g]? = some o) := by subst hq; exact h
theorem dqB {w w' a : World} {m n : Nat} (hq : World.drewN w m = w') (h : Aside0 (Below n a w)) : Aside0 (Below n a w') := by subst hq; exact ⟨pw_below_drewN h.out _⟩
theorem cellOf {w : World} {g i : Nat} {t : TypeId} {cs : Array Value} {v : Value} (h : w.heap[g]? = some (.cells cs t (0, 0))) (e : cs[i]? = some v) : w.cell? ⟨g, i, none⟩ = some v := (blk_cell h i).trans e
theorem zS {p : Prop} (h : p := by repeat' (first | (with_reducible refine And.intro ?_ ?_) | exact cellOf zC (by rfl))) : p := h
abbrev G4 (w : World) (g : Nat) (x0 x1 x2 x3 : Value) (p : Prop) : Prop := w.cell? ⟨g, 0, none⟩ = some x0 ∧ w.cell? ⟨g, 1, none⟩ = some x1 ∧ w.cell? ⟨g, 2, none⟩ = some x2 ∧ w.cell? ⟨g, 3, none⟩ = some x3 ∧ p
abbrev G5 (w : World) (g : Nat) (x0 x1 x2 x3 x4 : Value) (p : Prop) : Prop := w.cell? ⟨g, 0, none⟩ = some x0 ∧ w.cell? ⟨g, 1, none⟩ = some x1 ∧ w.cell? ⟨g, 2, none⟩ = some x2 ∧ w.cell? ⟨g, 3, none⟩ = some x3 ∧ w.cell? ⟨g, 4, none⟩ = some x4 ∧ p
abbrev H6 (w : World) (g : Nat) (x0 x1 x2 x3 x4 x5 : Value) : Prop := w.cell? ⟨g, 0, none⟩ = some x0 ∧ w.cell? ⟨g, 1, none⟩ = some x1 ∧ w.cell? ⟨g, 2, none⟩ = some x2 ∧ w.cell? ⟨g, 3, none⟩ = some x3 ∧ w.cell? ⟨g, 4, none⟩ = some x4 ∧ w.cell? ⟨g, 5, none⟩ = some x5
section
variable {P : Program} {md : Region.Mode} {ops : Array Oper} {Q : Exit → Act → World → Prop} {S : World → Prop} {ds : List Nat}
theorem gl {rest : List Oper} {oi : Oper} {a : Act} {w : World} (f : FuncId) (N : Option Tmp) {fn : Func} {xs : Array Operand} {ts : Array TypeId} (hf : P.funcs[f]? = some fn) (args : Array Value) (h : Calls P f args w fun e w' => ∃ v, e = .returned v ∧ wpList P ops Q rest (a.put N v) w')
 (ho : oi.op = .call { callee := .value (.func f), args := xs, argTypes := ts } := by with_reducible rfl) (hd : oi.dst = N := by rfl) (hg : oi.guard = none := by rfl) (hname : (fn.name == "runtime.NumGoroutine") = false := by kernel_rfl) (hb : fn.body.isSome = true := by rfl)
 (hargs : xs.map a.eval = args := by (try simp only [List.map_toArray, List.map_cons, List.map_nil]); first | done | rfl | (simp only [List.length_drop, List.length_take]; rfl)) : wpList P ops Q (oi :: rest) a w := goesL_ N hd hg hf hname hb args ho hargs h
theorem st1 {id : Nat} {a : Act} {w : World} (n : Nat) (ds : List Nat) (h : S w.drew → wpAnyLast P .any ops Q S ds n (Array.replicate n false) a w.drew) (hm : P.follows .mixedOrders = true := by kernel_rfl) (hn : ops.size = n := by rfl) (hS : S w.drew := by exact zS) : (Code.region id ops true).wp P Q a w := start_ _ hm hn rfl hS h
theorem pz (i : Nat) (N : Tmp) {oi : Oper} {v : Value} {fuel : Nat} {l : Array Bool} {a a' : Act} {w : World} (h : wpAnyLast P md ops Q S ds fuel (l.setIfInBounds i true) a' w) (hi : ops[i]? = some oi := by rfl) (hN : oi.dst = some N := by rfl) (hc : anyB md ops l (l.setIfInBounds i true) i = true := by first | exact any_of (Aside0.out (by assumption)) (by kernel_rfl) | kernel_rfl) (hQ : ∀ c a w, Q (.panic c) (a.put oi.dst v) w → Q (.panic c) a w := by exact fun _ _ _ h => h)
 (hy : Yields P ops oi v a := by exact Or.inl ⟨by rfl, by (intro w'; go_simp; with_reducible rfl)⟩) (ha : a.put (some N) v = a' := by (simp only [Act.put, List.setIfInBounds_toArray, List.set_cons_zero, List.set_cons_succ, i64_w, i32_w]; rfl)) : wpAnyLast P md ops Q S ds (fuel + 1) l a w := pure_ _ hi hN hc hQ hy ha h
theorem nz {N : Option Tmp} {v : Value} {fuel : Nat} {l : Array Bool} {a a' : Act} {w : World} (h : wpAnyLast P md ops Q S ds fuel l a' w) (ha : a.put N v = a' := by (simp only [Act.put, List.setIfInBounds_toArray, List.set_cons_zero, List.set_cons_succ, i64_w, i32_w]; rfl)) : wpAnyLast P md ops Q S ds fuel l (a.put N v) w := norm_ ha h
theorem on1 (i : Nat) (N : Option Tmp) {oi : Oper} {fuel : Nat} {l : Array Bool} {a : Act} {w : World}
 (h : ∀ K : Act → World → Prop, Shut (∀ a' w', S w' → (S w' → wpAnyLast P md ops Q S ds fuel (l.setIfInBounds i true) a' w') → K a' w') → if Region.wanted oi (yielded ops a.tmps) = true then Oper.wp P oi a w K Q else K (a.put N undef) w) (hi : ops[i]? = some oi := by rfl) (hN : oi.dst = N := by rfl)
 (hc : readyB md ops l (l.setIfInBounds i true) i = true := by first | exact one_of (Aside0.out (by assumption)) (by kernel_rfl) | kernel_rfl) (hd : i ∉ ds := by decide) : wpAnyLast P md ops Q S ds (fuel + 1) l a w := one_ _ hi hN hc hd h
theorem dn1 {l : Array Bool} {a : Act} {w : World} {n : Nat} (h : Q .normal a w) (hr : (Region.ready md ops l == []) = true := by first | exact done_of (Aside0.out (by assumption)) (by kernel_rfl) | kernel_rfl) : wpAnyLast P md ops Q S ds n l a w := done_ hr h
theorem sk1 {oi : Oper} {a : Act} {w w1 : World} {K : Act → World → Prop} (h : K a w1) (hrun : (execOp a.eval oi).run P w = .ok .skip w1 := by (go_simp; rfl)) (hw : Region.wanted oi (yielded ops a.tmps) = true := by rfl) (hN : oi.dst = none := by rfl) : if Region.wanted oi (yielded ops a.tmps) = true then Oper.wp P oi a w K Q else K (a.put none undef) w := skip_ hw hN hrun h
theorem tk13 (i : Nat) (N : Tmp) {oi : Oper} {v : Value} {fuel : Nat} {l : Array Bool} {a a' : Act} {w : World} (h : wpAnyLast P md ops Q S ds fuel (l.setIfInBounds i true) a' w) (hS : S w := by assumption) (hi : ops[i]? = some oi := by rfl) (hN : oi.dst = some N := by rfl)
 (hc : takeB md ops ds l (l.setIfInBounds i true) i = true := by first | exact take_ofW (Aside0.out (by assumption)) (Aside0.out (by assumption)) (by kernel_rfl) | kernel_rfl) (hQ : ∀ c a w, Q (.panic c) (a.put oi.dst v) w → Q (.panic c) a w := by exact fun _ _ _ h => h)
 (hy : YieldsIf P ops S oi v a := by exact Or.inl ⟨by rfl, by (rintro w' ⟨s0, s1, s2, s3, s4, s5, s6, s7, s8, s9, s10, s11, s12⟩; go_simp; with_reducible rfl)⟩) (ha : a.put (some N) v = a' := by (simp only [Act.put, List.setIfInBounds_toArray, List.set_cons_zero, List.set_cons_succ, i64_w, i32_w]; rfl)) : wpAnyLast P md ops Q S ds (fuel + 1) l a w := take_ _ hi hN hc hQ hy hS ha h
theorem tk14 (i : Nat) (N : Tmp) {oi : Oper} {v : Value} {fuel : Nat} {l : Array Bool} {a a' : Act} {w : World} (h : wpAnyLast P md ops Q S ds fuel (l.setIfInBounds i true) a' w) (hS : S w := by assumption) (hi : ops[i]? = some oi := by rfl) (hN : oi.dst = some N := by rfl)
 (hc : takeB md ops ds l (l.setIfInBounds i true) i = true := by first | exact take_ofW (Aside0.out (by assumption)) (Aside0.out (by assumption)) (by kernel_rfl) | kernel_rfl) (hQ : ∀ c a w, Q (.panic c) (a.put oi.dst v) w → Q (.panic c) a w := by exact fun _ _ _ h => h)
 (hy : YieldsIf P ops S oi v a := by exact Or.inl ⟨by rfl, by (rintro w' ⟨s0, s1, s2, s3, s4, s5, s6, s7, s8, s9, s10, s11, s12, s13⟩; go_simp; with_reducible rfl)⟩) (ha : a.put (some N) v = a' := by (simp only [Act.put, List.setIfInBounds_toArray, List.set_cons_zero, List.set_cons_succ, i64_w, i32_w]; rfl)) : wpAnyLast P md ops Q S ds (fuel + 1) l a w := take_ _ hi hN hc hQ hy hS ha h
theorem tk5 (i : Nat) (N : Tmp) {oi : Oper} {v : Value} {fuel : Nat} {l : Array Bool} {a a' : Act} {w : World} (h : wpAnyLast P md ops Q S ds fuel (l.setIfInBounds i true) a' w) (hS : S w := by assumption) (hi : ops[i]? = some oi := by rfl) (hN : oi.dst = some N := by rfl)
 (hc : takeB md ops ds l (l.setIfInBounds i true) i = true := by first | exact take_ofW (Aside0.out (by assumption)) (Aside0.out (by assumption)) (by kernel_rfl) | kernel_rfl) (hQ : ∀ c a w, Q (.panic c) (a.put oi.dst v) w → Q (.panic c) a w := by exact fun _ _ _ h => h)
 (hy : YieldsIf P ops S oi v a := by exact Or.inl ⟨by rfl, by (rintro w' ⟨s0, s1, s2, s3, s4⟩; go_simp; with_reducible rfl)⟩) (ha : a.put (some N) v = a' := by (simp only [Act.put, List.setIfInBounds_toArray, List.set_cons_zero, List.set_cons_succ, i64_w, i32_w]; rfl)) : wpAnyLast P md ops Q S ds (fuel + 1) l a w := take_ _ hi hN hc hQ hy hS ha h
theorem tk6 (i : Nat) (N : Tmp) {oi : Oper} {v : Value} {fuel : Nat} {l : Array Bool} {a a' : Act} {w : World} (h : wpAnyLast P md ops Q S ds fuel (l.setIfInBounds i true) a' w) (hS : S w := by assumption) (hi : ops[i]? = some oi := by rfl) (hN : oi.dst = some N := by rfl)
 (hc : takeB md ops ds l (l.setIfInBounds i true) i = true := by first | exact take_ofW (Aside0.out (by assumption)) (Aside0.out (by assumption)) (by kernel_rfl) | kernel_rfl) (hQ : ∀ c a w, Q (.panic c) (a.put oi.dst v) w → Q (.panic c) a w := by exact fun _ _ _ h => h)
 (hy : YieldsIf P ops S oi v a := by exact Or.inl ⟨by rfl, by (rintro w' ⟨s0, s1, s2, s3, s4, s5⟩; go_simp; with_reducible rfl)⟩) (ha : a.put (some N) v = a' := by (simp only [Act.put, List.setIfInBounds_toArray, List.set_cons_zero, List.set_cons_succ, i64_w, i32_w]; rfl)) : wpAnyLast P md ops Q S ds (fuel + 1) l a w := take_ _ hi hN hc hQ hy hS ha h
end
end Go.Proofs.YtmpdhdnoohmndaaGreatDoor.Sp

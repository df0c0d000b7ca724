import Derived.Test.YtmpdhdnoohmndaaGreatDoorQe
import GoSem.PinnedTables
import Derived.Test.YtmpdhdnoohmndaaGreatDoorQf
import Derived.Test.YtmpdhdnoohmndaaGreatDoorRows
import Derived.Lib.LaidU8
import Derived.Lib.LaidTab
import Derived.LaidLaws
import Derived.MakeChecks
import Derived.FnData
import Derived.Test.YtmpdhdnoohmndaaGreatDoorCards
import Derived.WalkKit
import Derived.ProofKit
import Derived.OpenShut
import Derived.ShutString
import Derived.ChangeOld
import Derived.Below
import Derived.SizedLaws
import Derived.Lay
namespace Go.Proofs.YtmpdhdnoohmndaaGreatDoor.Dec
open Go.RowKit Go.Proofs.YtmpdhdnoohmndaaGreatDoorW.PrintWords
set_option maxRecDepth 100000
def numL (l : List UInt8) : Nat := l.foldl (fun a c => a * 10 + (c.toNat - 48)) 0
def chk (k dl : Nat) (l : List UInt8) : Bool :=
 l.all (fun c => decide (48 ≤ c.toNat ∧ c.toNat ≤ 57)) && decide (1 ≤ l.length ∧ l.length ≤ 800) && decide ((l.getD (l.length - 1) 0).toNat ≠ 48) && decide (1 ≤ dl ∧ dl ≤ 20) &&
  decide (numL l * 2 ^ k = 10 ^ (dl - 1) * 10 ^ l.length) && decide (10 ^ (dl - 1) ≤ 2 ^ k) && decide (2 ^ k ≤ 10 ^ dl)
theorem ctf_list (s : au) (i : Nat) (h : i < s.data.toList.length) : ctf s i = ((s.data.toList[i]).toNat : Int) := by
 have hs : i < s.size := by rw [Array.length_toList] at h; exact h
 show bt s (i : Int) = _
 rw [← bt_at s (i : Int) (by simpa using hs)]
 simp
 rfl
theorem numL_take (s : au) : ∀ n, n ≤ s.data.toList.length → num (ctf s) n = numL (s.data.toList.take n)
 | 0, _ => rfl
 | n + 1, h => by
  have ih := numL_take s n (by omega)
  rw [List.take_succ_eq_append_getElem (by omega), numL, List.foldl_append]
  show num (ctf s) (n + 1) = (numL (s.data.toList.take n)) * 10 + _
  rw [← ih]
  simp only [num]
  unfold dg
  rw [ctf_list s n (by omega)]
  omega
theorem chk_ok {k dl : Nat} {s : au} (h : chk k dl s.data.toList = true) : Cheat k dl s := by
 have hl : s.data.toList.length = s.size := by rw [Array.length_toList]; rfl
 unfold chk at h
 simp only [Bool.and_eq_true, decide_eq_true_eq, List.all_eq_true] at h
 obtain ⟨⟨⟨⟨⟨⟨h1, h2⟩, h3⟩, h4⟩, h5⟩, h6⟩, h7⟩ := h
 have hn := numL_take s s.size (by omega)
 rw [List.take_of_length_le (by omega)] at hn
 refine ⟨fun i hi => ?_, by omega, ?_, by omega, by omega, ?_, ?_, ?_⟩
 ·rw [ctf_list s i (by omega)]
  have := h1 _ (List.getElem_mem (show i < s.data.toList.length by omega))
  omega
 ·rw [ctf_list s _ (by omega)]
  rw [List.getD_eq_getElem?_getD, List.getElem?_eq_getElem (by omega), Option.getD_some] at h3
  have e : s.data.toList[s.data.toList.length - 1]'(by omega) = s.data.toList[s.size - 1]'(by omega) := by congr 1
  rw [e] at h3
  omega
 ·rw [hn, show ((dl : Int).toNat - 1) = dl - 1 by omega, h5, hl]
 ·rw [show ((dl : Int).toNat - 1) = dl - 1 by omega]; exact h6
 ·rw [show ((dl : Int).toNat) = dl by omega]; exact h7
theorem rows_ok : ((List.range 61).all fun k => k == 0 || (match Pinned.cheatRows[k]? with | some x => chk k x.1 x.2 | none => false)) = true := by decide +kernel
theorem rows_len : Pinned.cheatRows.length = 61 := by decide +kernel
end Go.Proofs.YtmpdhdnoohmndaaGreatDoor.Dec
namespace Go.Proofs.YtmpdhdnoohmndaaGreatDoor.Gj
open Go.RowKit Go.Proofs.YtmpdhdnoohmndaaGreatDoorW.PrintWords Sp Dec
set_option linter.unusedVariables false
set_option maxRecDepth 100000
section
variable {P : Program} {w : World} {fuel : Nat} {t e : TypeId} {cs : List Value} {p : List MemPlace}
abbrev Tr (P : Program) (w : World) (fuel : Nat) (t : TypeId) (cs : List Value) : Option (DataW Unit × List MemPlace) := DataW.trod (fun _ => ()) P w 0 (fun _ => true) false fuel t cs
theorem tr_float {k : FloatKind} {x : DataW Unit × List MemPlace} (ht : P.underlying t = some (.float k)) (h : Tr P w fuel t cs = some x) : ∃ b, cs = [.float k b] ∧ x = (.lit (.float k b), []) := by
 cases fuel with
 | zero => simp [Tr, DataW.trod] at h
 | succ n =>
  unfold Tr DataW.trod at h
  rw [ht] at h
  split at h <;> simp_all
theorem tr_iface {ms : Array (String × TypeId)} {x : DataW Unit × List MemPlace} (ht : P.underlying t = some (.interface ms)) (h : Tr P w fuel t cs = some x) : ∃ ev, cs = [ev] ∧ (ev = .nilIface ∨ ∃ te pe, ev = .iface te pe) := by
 cases fuel with
 | zero => simp [Tr, DataW.trod] at h
 | succ n =>
  unfold Tr DataW.trod at h
  rw [ht] at h
  split at h <;> simp_all
theorem tr_struct {fs : Array Field} {ds : List (DataW Unit)} (ht : P.underlying t = some (.struct fs)) (h : Tr P w fuel t cs = some (.agg ds, p)) (i : Nat) (f : Field) (hf : fs[i]? = some f) :
  ∃ m d q, ds[i]? = some d ∧ Tr P w m f.type ((cs.drop f.offset).take (P.cellsOf f.type)) = some (d, q) := by
 obtain ⟨xs, n, rfl, hx, hl, hxl, hall⟩ := DataW.trod_struct ht h
 have hxs : xs.map (·.1) = ds := by
  have := congrArg Prod.fst hx
  simpa using this.symm
 have hi : i < fs.size := (Array.getElem?_eq_some_iff.mp hf).1
 have h1 := hall i f hf
 obtain ⟨b, hb⟩ : ∃ b, xs[i]? = some b := ⟨xs[i]'(by omega), List.getElem?_eq_getElem (by omega)⟩
 rw [hb] at h1
 exact ⟨n, b.1, b.2, by rw [← hxs]; simp [hb], h1⟩
theorem tr_slice {ds : List (DataW Unit)} (ht : P.underlying t = some (.slice e)) (h : Tr P w fuel t cs = some (.slice ds [], p)) :
  ∃ a, cs = [.slice (some a) ds.length ds.length] ∧ ∀ i, i < ds.length → ∃ m d q cs', ds[i]? = some d ∧ w.cells? 0 (a.add (i * P.cellsOf e)) (P.cellsOf e) = some cs' ∧ Tr P w m e cs' = some (d, q) := by
 rcases DataW.trod_slice ht h with ⟨_, h0⟩ | ⟨a, len, cap, elems, rest, n, _, rfl, hx, hb, hl, hm, hlen, hel, hsp, hns⟩
 ·cases h0
 ·simp only [am, DataW.slice.injEq] at hx
  obtain ⟨⟨hd, hr⟩, _⟩ := hx
  have hr0 : rest = [] := by
   have := congrArg List.length hr
   simp at this
   exact List.eq_nil_of_length_eq_zero (by omega)
  have hcap := (hsp rfl).1
  rw [hr0] at hcap
  simp only [List.length_nil] at hcap
  have hdl : ds.length = len := by rw [hd]; simp [hlen]
  refine ⟨a, by rw [hdl, show cap = len by omega], fun i hi => ?_⟩
  have h1 := hel i (by omega)
  obtain ⟨b, hb2⟩ : ∃ b, elems[i]? = some b := ⟨elems[i]'(by omega), List.getElem?_eq_getElem (by omega)⟩
  rw [hb2] at h1
  obtain ⟨cs', hc, hf⟩ := an h1
  exact ⟨n, b.1, b.2, cs', by rw [hd]; simp [hb2], hc, hf⟩
theorem one_cell {k : IntKind} {z : Int} {o m : Nat} {q : List MemPlace} (he : P.underlying e = some (.int k)) (h : Tr P w m e ((cs.drop o).take 1) = some (.lit (.int k z), q)) : cs[o]? = some (.int k z) ∧ (Lit.int k z).wf = true := by
 obtain ⟨n, hc, hx, hw⟩ := DataW.trod_int he h
 simp only [am, DataW.lit.injEq, Lit.int.injEq, true_and] at hx
 obtain ⟨rfl, _⟩ := hx
 refine ⟨?_, hw⟩
 have := congrArg (·[0]?) hc
 simpa [List.getElem?_take, List.getElem?_drop] using this
end
theorem met_at {W : World} {l : List (String × DataW Unit)} (h : laidMet Tryz.prog l W) {n : String} {d : DataW Unit} (hm : (n, d) ∈ l) {g : Nat} {t : TypeId} (hg : Tryz.prog.globalNamed n = some g) (ht : (Tryz.prog.globals[g]?).map (·.type) = some t) :
  ∃ (cs : List Value) (fuel : Nat) (p : List MemPlace), (∀ i, W.cell? ⟨g, i, none⟩ = cs[i]?) ∧ Tr Tryz.prog W fuel t cs = some (d, p) := by
 obtain ⟨g', t', cs, fuel, p, h1, h2, h3, h4⟩ := Lib.laidMet.reads h hm
 obtain rfl := ar (hg.symm.trans h1)
 obtain rfl := ar (ht.symm.trans h2)
 exact ⟨cs.toList, fuel, p, fun i => by rw [World.var?_cell hg h3 i]; simp, h4⟩
theorem struct_int {P : Program} {w : World} {fuel : Nat} {t : TypeId} {cs : List Value} {p : List MemPlace} {fs : Array Field} {ds : List (DataW Unit)} (ht : P.underlying t = some (.struct fs)) (h : Tr P w fuel t cs = some (.agg ds, p)) (i : Nat) (f : Field) (hf : fs[i]? = some f)
  {k : IntKind} (he : P.underlying f.type = some (.int k)) (hc : P.cellsOf f.type = 1) {z : Int} (hz : ds[i]? = some (.lit (.int k z))) : cs[f.offset]? = some (.int k z) ∧ (Lit.int k z).wf = true := by
 obtain ⟨m, d, q, hd, hx⟩ := tr_struct ht h i f hf
 rw [hz] at hd
 obtain rfl := ar hd
 rw [hc] at hx
 exact one_cell he hx
theorem c5 : Tryz.prog.cellsOf 5 = 1 := by kernel_rfl
theorem c112 : Tryz.prog.cellsOf 113 = 256 := by kernel_rfl
theorem c110 : Tryz.prog.cellsOf 111 = 1 := by kernel_rfl
theorem c3 : Tryz.prog.cellsOf 3 = 1 := by kernel_rfl
theorem c37 : Tryz.prog.cellsOf 36 = 1 := by kernel_rfl
theorem c176 : Tryz.prog.cellsOf 195 = 2 := by kernel_rfl
theorem c187 : Tryz.prog.cellsOf 206 = 2 := by kernel_rfl
theorem c107 : Tryz.prog.cellsOf 108 = 1 := by kernel_rfl
theorem c9 : Tryz.prog.cellsOf 9 = 1 := by kernel_rfl
def vs256 : List Int := (List.range 256).map fun (n : Nat) => vch (n : Int)
theorem vdat : (Rows.laid_pub_tetrapla_pub_gjson_vchars : DataW Unit) = Lib.tabData .u8 vs256 := by kernel_rfl
def fl23 : List Nat := match (Rows.laid_internal_strconv_float64pow10 : DataW Unit) with
 | .slice ds _ => ds.map fun d => match d with | .lit (.float _ b) => b | _ => 0
 | _ => []
theorem fdat : (Rows.laid_internal_strconv_float64pow10 : DataW Unit) = .slice (fl23.map fun b => .lit (.float .f64 b)) [] := by kernel_rfl
theorem fl_len : fl23.length = 23 := by kernel_rfl
theorem fl_pos : fl23.all (fun x => decide (x % 9223372036854775808 < 9218868437227405312 ∧ x % 9223372036854775808 ≠ 0)) = true := by kernel_rfl
theorem rng_wf {z : Int} (h : (Lit.int .u64 z).wf = true) : Rng z := by
 simp [Lit.wf, IntKind.min, IntKind.max, IntKind.signed, IntKind.bits] at h
 unfold Rng
 omega
section
variable {W : World} (h : laidMet Tryz.prog Rows.fnPrSortedKeysRow.laid W)
include h
theorem l_vtab : VTab W := fun v h0 h1 => by
 obtain ⟨cs, fuel, p, hc, ht⟩ := met_at h (n := "pub-tetrapla/pub/gjson.vchars") (d := Rows.laid_pub_tetrapla_pub_gjson_vchars) (List.mem_of_getElem? (i := 11) rfl) (g := 0) (t := 113) (by kernel_rfl) (by kernel_rfl)
 rw [vdat] at ht
 have e := Lib.cells_of_tab Tryz.underlying113 Tryz.underlying5 c5 c112 ht
 rw [hc, e, vs256, List.map_map, List.getElem?_map, List.getElem?_range (by omega)]
 simp only [Option.map_some, Function.comp]
 rw [show ((v.toNat : Nat) : Int) = v by omega]
theorem l_flt : Flt W 5 := by
 obtain ⟨cs, fuel, p, hc, ht⟩ := met_at h (n := "internal/strconv.float64info") (d := Rows.laid_internal_strconv_float64info) (List.mem_of_getElem? (i := 3) rfl) (g := 5) (t := 148) (by kernel_rfl) (by kernel_rfl)
 have a0 := (struct_int Tryz.underlying148 ht 0 _ rfl Tryz.underlying111 c110 (z := 52) rfl).1
 have a1 := (struct_int Tryz.underlying148 ht 1 _ rfl Tryz.underlying111 c110 (z := 11) rfl).1
 have a2 := (struct_int Tryz.underlying148 ht 2 _ rfl Tryz.underlying3 c3 (z := -1023) rfl).1
 exact ⟨(hc 0).trans a0, (hc 1).trans a1, (hc 2).trans a2⟩
theorem l_opt : W.cell? ⟨4, 0, none⟩ = some (.bool true) := by
 obtain ⟨cs, fuel, p, hc, ht⟩ := met_at h (n := "internal/strconv.optimize") (d := Rows.laid_internal_strconv_optimize) (List.mem_of_getElem? (i := 4) rfl) (g := 4) (t := 4) (by kernel_rfl) (by kernel_rfl)
 obtain ⟨b, rfl, hx⟩ := DataW.trod_bool Tryz.underlying4 ht
 have : (Rows.laid_internal_strconv_optimize : DataW Unit) = .lit (.bool b) := congrArg Prod.fst hx
 cases this
 exact hc 0
theorem l_pow : ∃ P0, Pow W P0 ∧ P0.block < W.heap.size := by
 obtain ⟨cs, fuel, p, hc, ht⟩ := met_at h (n := "internal/strconv.powtab") (d := Rows.laid_internal_strconv_powtab) (List.mem_of_getElem? (i := 5) rfl) (g := 7) (t := 44) (by kernel_rfl) (by kernel_rfl)
 obtain ⟨a, rfl, hel⟩ := tr_slice Tryz.underlying44 ht
 have hat : ∀ i (z : Int), i < 9 → ([1, 3, 6, 9, 13, 16, 19, 23, 26] : List Int)[i]? = some z → W.cell? (a.add i) = some (.int .i64 z) := by
  intro i z hi hz
  obtain ⟨m, d, q, cs', hd, hcs, hx⟩ := hel i hi
  rw [c3, Nat.mul_one] at hcs
  obtain ⟨_, hl, hcc⟩ := World.cells?_some hcs
  have hd2 : ((([1, 3, 6, 9, 13, 16, 19, 23, 26] : List Int).map fun z => (DataW.lit (.int .i64 z) : DataW Unit)))[i]? = some d := hd
  rw [List.getElem?_map, hz] at hd2
  obtain rfl := ar hd2
  have := (one_cell (cs := cs') (o := 0) Tryz.underlying3 (by rw [List.drop_zero, List.take_of_length_le (by omega)]; exact hx)).1
  have h0 := hcc 0 (by omega)
  rw [this] at h0
  simpa [Addr.add] using h0
 refine ⟨a, ⟨hc 0, fun i hi => ?_⟩, ?_⟩
 ·have : i = 0 ∨ i = 1 ∨ i = 2 ∨ i = 3 ∨ i = 4 ∨ i = 5 ∨ i = 6 ∨ i = 7 ∨ i = 8 := by omega
  rcases this with rfl | rfl | rfl | rfl | rfl | rfl | rfl | rfl | rfl
  ·exact ⟨1, hat _ _ hi rfl, by omega, by omega, by omega⟩
  ·exact ⟨3, hat _ _ hi rfl, by omega, by omega, by omega⟩
  ·exact ⟨6, hat _ _ hi rfl, by omega, by omega, by omega⟩
  ·exact ⟨9, hat _ _ hi rfl, by omega, by omega, by omega⟩
  ·exact ⟨13, hat _ _ hi rfl, by omega, by omega, by omega⟩
  ·exact ⟨16, hat _ _ hi rfl, by omega, by omega, by omega⟩
  ·exact ⟨19, hat _ _ hi rfl, by omega, by omega, by omega⟩
  ·exact ⟨23, hat _ _ hi rfl, by omega, by omega, by omega⟩
  ·exact ⟨26, hat _ _ hi rfl, by omega, by omega, by omega⟩
 ·have := World.block_lt_of_cell? W _ (hat 0 1 (by omega) rfl)
  rwa [add_blk] at this
theorem l_fpow : ∃ G, FPow W G ∧ G.block < W.heap.size := by
 obtain ⟨cs, fuel, p, hc, ht⟩ := met_at h (n := "internal/strconv.float64pow10") (d := Rows.laid_internal_strconv_float64pow10) (List.mem_of_getElem? (i := 6) rfl) (g := 8) (t := 189) (by kernel_rfl) (by kernel_rfl)
 rw [fdat] at ht
 obtain ⟨a, rfl, hel⟩ := tr_slice Tryz.underlying189 ht
 rw [List.length_map, fl_len] at hel hc
 have hat : ∀ i, i < 23 → ∃ f : Nat, W.cell? (a.add i) = some (.float .f64 f) ∧ Pos f := by
  intro i hi
  obtain ⟨m, d, q, cs', hd, hcs, hx⟩ := hel i hi
  rw [c37, Nat.mul_one] at hcs
  obtain ⟨_, hl, hcc⟩ := World.cells?_some hcs
  rw [List.getElem?_map, List.getElem?_eq_getElem (by rw [fl_len]; exact hi)] at hd
  simp only [Option.map_some, al] at hd
  subst hd
  obtain ⟨b, rfl, hb⟩ := tr_float Tryz.underlying36 hx
  simp only [am, DataW.lit.injEq, Lit.float.injEq, true_and] at hb
  obtain ⟨hb, _⟩ := hb
  have h0 := hcc 0 (by omega)
  refine ⟨b, by simpa [Addr.add] using h0, ?_⟩
  rw [← hb]
  have hq := List.all_eq_true.mp fl_pos _ (List.getElem_mem (show i < fl23.length by rw [fl_len]; exact hi))
  exact ab (p := _ ∧ _) hq
 refine ⟨a, ⟨hc 0, hat⟩, ?_⟩
 obtain ⟨f, hf, _⟩ := hat 0 (by omega)
 have := World.block_lt_of_cell? W _ hf
 rwa [add_blk] at this
theorem l_p10 : Pow10 W := fun i hi => by
 obtain ⟨cs, fuel, p, hc, ht⟩ := met_at h (n := "internal/strconv.pow10Tab") (d := Rows.laid_internal_strconv_pow10Tab) (List.mem_of_getElem? (i := 13) rfl) (g := 9) (t := 196) (by kernel_rfl) (by kernel_rfl)
 obtain ⟨m, d, q, hd, hx⟩ := Lib.array_elem Tryz.underlying196 (show Tr Tryz.prog W fuel 196 cs = some (.agg (Pinned.pow10Rows.map fun x => .agg [.lit (.int .u64 x.1), .lit (.int .u64 x.2)]), p) from ht) i hi
 rw [List.getElem?_map] at hd
 obtain ⟨x, hx1, rfl⟩ := Option.map_eq_some_iff.mp hd
 rw [c176] at hx
 obtain ⟨a0, w0⟩ := struct_int Tryz.underlying195 hx 0 _ rfl Tryz.underlying108 c107 (z := x.1) rfl
 obtain ⟨a1, w1⟩ := struct_int Tryz.underlying195 hx 1 _ rfl Tryz.underlying108 c107 (z := x.2) rfl
 rw [List.getElem?_take, if_pos (by decide), List.getElem?_drop] at a0 a1
 exact ⟨x.1, x.2, (hc _).trans a0, (hc _).trans a1, rng_wf w0, rng_wf w1⟩
theorem l_cheats : ∃ L, Cheats W L ∧ L.block < W.heap.size := by
 obtain ⟨cs, fuel, p, hc, ht⟩ := met_at h (n := "internal/strconv.leftcheats") (d := Rows.laid_internal_strconv_leftcheats) (List.mem_of_getElem? (i := 12) rfl) (g := 10) (t := 207) (by kernel_rfl) (by kernel_rfl)
 obtain ⟨a, rfl, hel⟩ := tr_slice Tryz.underlying207 (show Tr Tryz.prog W fuel 207 cs = some (.slice (Pinned.cheatRows.map fun x => .agg [.lit (.int .i64 x.1), .lit (.string x.2)]) [], p) from ht)
 rw [List.length_map, rows_len] at hel hc
 have hat : ∀ k, 1 ≤ k → k ≤ 60 → ∃ (dl : Int) (ct : au), W.cell? (a.add (k * 2)) = some (.int .i64 dl) ∧ W.cell? ⟨(a.add (k * 2)).block, (a.add (k * 2)).off + 1, none⟩ = some (.string ct) ∧ Cheat k dl ct := by
  intro k hk0 hk1
  obtain ⟨m, d, q, cs', hd, hcs, hx⟩ := hel k (by omega)
  rw [List.getElem?_map] at hd
  obtain ⟨x, hx1, rfl⟩ := Option.map_eq_some_iff.mp hd
  rw [c187] at hcs
  obtain ⟨_, hl, hcc⟩ := World.cells?_some hcs
  obtain ⟨a0, _⟩ := struct_int Tryz.underlying206 hx 0 _ rfl Tryz.underlying3 c3 (z := x.1) rfl
  obtain ⟨m1, d1, q1, hd1, hy⟩ := tr_struct Tryz.underlying206 hx 1 _ rfl
  have hd2 : some (DataW.lit (.string x.2)) = some d1 := hd1
  obtain rfl := ar hd2
  have hy2 : Tr Tryz.prog W m1 9 ((cs'.drop 1).take (Tryz.prog.cellsOf 9)) = some (.lit (.string x.2), q1) := hy
  rw [c9] at hy2
  obtain ⟨s, gV, eT, _⟩ := DataW.trod_string Tryz.underlying9 hy2
  simp only [am, DataW.lit.injEq, Lit.string.injEq] at eT
  obtain ⟨eT, _⟩ := eT
  have a1 : cs'[1]? = some (.string s) := by
   have := congrArg (·[0]?) gV
   simpa [List.getElem?_take, List.getElem?_drop] using this
  have h0 := hcc 0 (by omega)
  have h1 := hcc 1 (by omega)
  have e1 : (a.add (k * 2)).add 1 = ⟨(a.add (k * 2)).block, (a.add (k * 2)).off + 1, none⟩ := by
   rw [Addr.add, if_neg (by decide)]
  rw [e1, a1] at h1
  have e0 : (a.add (k * 2)).add 0 = a.add (k * 2) := by rw [Addr.add, if_pos rfl]
  have a00 : cs'[0]? = some (.int .i64 x.1) := a0
  rw [e0, a00] at h0
  refine ⟨x.1, s, h0, h1, chk_ok ?_⟩
  have hall := List.all_eq_true.mp rows_ok k (List.mem_range.mpr (by omega))
  rw [hx1] at hall
  rw [← eT]
  have hk : (k == 0) = false := by simp; omega
  simpa [hk] using hall
 refine ⟨a, ⟨hc 0, hat⟩, ?_⟩
 obtain ⟨dl, ct, hd, _⟩ := hat 1 (by omega) (by omega)
 have := World.block_lt_of_cell? W _ hd
 rwa [add_blk] at this
theorem l_err (n : String) (g i : Nat) (d : DataW Unit) (hm : (n, d) ∈ Rows.fnPrSortedKeysRow.laid) (hg : Tryz.prog.globalNamed n = some g) (ht : (Tryz.prog.globals[g]?).map (·.type) = some 86) : ∃ ev, W.cell? ⟨g, 0, none⟩ = some ev ∧ (ev = .nilIface ∨ ∃ te pe, ev = .iface te pe) := by
 obtain ⟨cs, fuel, p, hc, ht⟩ := met_at h hm hg ht
 obtain ⟨ev, rfl, he⟩ := tr_iface Tryz.underlying86 ht
 exact ⟨ev, hc 0, he⟩
theorem wok_laid : Wok W := by
 obtain ⟨P0, hP, hp⟩ := l_pow h
 obtain ⟨G, hG, hg⟩ := l_fpow h
 obtain ⟨L, hL, hl⟩ := l_cheats h
 have hF := l_flt h
 have b5 : 5 < W.heap.size := World.block_lt_of_cell? W _ hF.mb
 have b7 : 7 < W.heap.size := World.block_lt_of_cell? W _ hP.hd
 have b10 : 10 < W.heap.size := World.block_lt_of_cell? W _ hL.1
 exact ⟨by omega, ⟨L, P0, G, ⟨hF, b5, hP, hp, b7, ⟨hL, hl, b10⟩⟩, hG, hg, l_p10 h, l_opt h⟩,
  ⟨by omega, l_err h "strconv.ErrSyntax" 1 10 Rows.laid_strconv_ErrSyntax (List.mem_of_getElem? (i := 10) rfl) (by kernel_rfl) (by kernel_rfl), l_err h "strconv.ErrRange" 2 9 Rows.laid_strconv_ErrRange (List.mem_of_getElem? (i := 9) rfl) (by kernel_rfl) (by kernel_rfl)⟩, l_vtab h⟩
end
end Go.Proofs.YtmpdhdnoohmndaaGreatDoor.Gj
namespace Go.Proofs.YtmpdhdnoohmndaaGreatDoor.fnPrSortedKeys
open Go.ChangeShapes Go.WideShapes Go.ChangeAt Go.RowKit
set_option linter.unusedVariables false
set_option maxRecDepth 100000
abbrev laid : List (String × DataW Unit) := Rows.fnPrSortedKeysRow.laid
theorem plain : (laid.all fun x => x.2.handleName?.isNone) = true := by kernel_rfl
theorem witness (os : Os) (H : Type) (enc : TypeId × Value → H) :
  ∃ (w : World) (tape : Tape) (i : Input), w.os = os ∧ (w.forCall tape i).Shaped Tryz.checked.prog ∧ i.vars = [] ∧ Input.okWide Tryz.checked.prog (w.forCall tape i) .any w.heap.size 3 i ∧
   ((Rows.fnPrSortedKeysSpec.pre enc Tryz.checked.prog Tryz.f3 [] false (w.forCall tape i).memory i.args ∧ laidMetH Tryz.prog laid (w.forCall tape i).memory) ∧ sizedMet enc Tryz.checked.prog Tryz.f3 (OpenSpec.ofChange Rows.fnPrSortedKeysSpec) false (w.forCall tape i).memory i.args) ∧ ({} : Assume).holds Tryz.checked.prog (lone (Frame.enter Tryz.checked.prog 3 i.args .normal) [] (w.forCall tape i)) :=
 ChangeSpec.witness_shaped (enc := enc) (C := Tryz.checked) (os := os) (X := fun w _ => laidMetH Tryz.prog laid w) false (World.laidAll Tryz.prog os laid) #[.string ByteArray.empty, .agg #[.int .i64 0, .string ByteArray.empty, .string ByteArray.empty, .bool false]] 8 (World.laidAll_os _ _ _)
   (World.shaped_of_ZipB (by kernel_rfl) (by kernel_rfl)) (by kernel_rfl) (by kernel_rfl) (by kernel_rfl)
   (by rw [MakeChecks.laidMetH_plain _ _ _ plain]; exact laidMet_laidAll _ (by kernel_rfl) (by kernel_rfl))
end Go.Proofs.YtmpdhdnoohmndaaGreatDoor.fnPrSortedKeys

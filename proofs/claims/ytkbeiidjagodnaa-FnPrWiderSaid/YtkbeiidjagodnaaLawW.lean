/- laws.FnPrWider answers true, for every input: the walk and the plain law joined. -/
import Derived.Test.YtkbeiidjagodnaaLaw5
import Derived.Test.YtkbeiidjagodnaaLw3
import Derived.Test.YtkbeiidjagodnaaHand5
import Derived.Test.YtkbeiidjagodnaaLawD
import Derived.Test.YtkbeiidjagodnaaHand2
namespace Go.Proofs.Ytkbeiidjagodnaa.Pr
open Go.RowKit Go.Proofs.YtkbeiidjagodnaaW.PrintWords Go.Proofs.YtkbeiidjagodnaaW.PrintLast Go.Proofs.YtkbeiidjagodnaaW.PrintMore
set_option linter.unusedVariables false

/-- prPlaces, by its own contract. -/
def VPl : H_laws_prPlaces := ⟨fun _ s => prPlacesF (spec_reader_value.at_ 2100000) 1050000 s, fun _ _ => LeO.refl _, fun _ a0 r1 r2 r3 r4 r5 r6 w h => prPlaces_calls (spec_reader_value.at_ 2100000) 1050000 a0 w r1 r2 r3 r4 r5 r6 h⟩
/-- PrPretty, without sorting, by its own contract. -/
def prettyF (s : ByteArray) (wd : Int) (pre ind : ByteArray) (srt : Bool) : Option ByteArray := if srt = false ∧ s.size ≤ 140737488355328 then (popts (pAny.at_ 20000) 200000 (bytesOf s) wd pre ind).map strOfNums else none
theorem prettyF_calls (a0 : ByteArray) (a1_0 : Int) (a1_1 a1_2 : ByteArray) (a1_3 : Bool) (r : ByteArray) (w : World) (h : prettyF a0 a1_0 a1_1 a1_2 a1_3 = some r) :
    Calls Try.prog 8 #[.string a0, .agg #[.int .i64 a1_0, .string a1_1, .string a1_2, .bool a1_3]] w fun e w' => e = .returned (.string r) ∧ Below w.heap.size w w' := by
  unfold prettyF at h
  replace h := ite_some h
  obtain ⟨⟨rfl, hs⟩, h⟩ := h
  obtain ⟨r', hr, rfl⟩ := Option.map_eq_some_iff.mp h
  exact prPretty_calls (pAny.at_ 20000) 200000 a0 a1_0 a1_1 a1_2 r' w hs hr
def VPr : H_impl_PrPretty := ⟨fun _ s wd pre ind srt => prettyF s wd pre ind srt, fun _ _ _ _ _ _ => LeO.refl _, fun _ a0 a1_0 a1_1 a1_2 a1_3 r w h => prettyF_calls a0 a1_0 a1_1 a1_2 a1_3 r w h⟩

theorem VPr_f (k : Nat) (s : ByteArray) (wd : Int) (pre ind : ByteArray) (b : Bool) : VPr.f k s wd pre ind b = prettyF s wd pre ind b := rfl
/-- What Places found of a JSON text. -/
theorem places_inv {s : ByteArray} (hn : Small s) {kd b j : Int} {ns : List S53} {ks : List S25} (h : places (spec_reader_value.at_ 2100000) 1050000 s = some (kd, b, j, ns, ks, true)) :
    ∃ i, Blanks s 0 i ∧ (spec_reader_value.at_ 2100000).f 1050000 s i = some (kd, b, j, ns, ks, true, s, j) ∧ Blanks s j s.size := by
  have hn' : s.size ≤ 1048576 := hn
  unfold places at h
  replace h := Option.bind_eq_some_iff.mp h
  obtain ⟨⟨s1, i⟩, hb, h⟩ := h
  dsimp only at h
  obtain ⟨rfl, hb⟩ := blanks_inv s hn _ 0 s1 i (by omega) (by omega) hb
  replace h := Option.bind_eq_some_iff.mp h
  obtain ⟨⟨kd1, b1, j1, ns1, ks1, ok, s2, j2⟩, hv, h⟩ := h
  dsimp only at h
  cases ok with
  | false => rw [if_neg (by decide)] at h; simp at h
  | true =>
    rw [if_pos rfl] at h
    obtain ⟨rfl, rfl, rfl, a1, a2, _⟩ := value_known hn 2099999 _ i kd1 b1 j1 ns1 ks1 s2 j2 hb.1 hb.2.1 hv
    replace h := Option.bind_eq_some_iff.mp h
    obtain ⟨⟨s3, j3⟩, hb2, h⟩ := h
    dsimp only at h
    obtain ⟨rfl, hb2⟩ := blanks_inv s2 hn _ j2 s3 j3 (by have := hb.1; omega) a2 hb2
    by_cases e : j3 = (s3.size : Int)
    · rw [if_pos e] at h
      simp only [Option.some.injEq, Prod.mk.injEq] at h
      obtain ⟨rfl, rfl, rfl, rfl, rfl, _⟩ := h
      subst e
      exact ⟨b1, hb, hv, hb2⟩
    · rw [if_neg e] at h; simp at h

/-- What pretty makes of a JSON text without objects and strings: lines, all of them fine. -/
theorem wider_lines {s : ByteArray} (hs : s.size ≤ 4096) {i j w : Int} (hi : Blanks s 0 i) (hj : Blanks s j s.size) (hg : G (bytesOf s) false i j) (hw : 8 ≤ w) (hw1 : w ≤ 1073741824) {ind : ByteArray} (hind : ∀ c ∈ bytesOf ind, c = 32) (hind1 : ind.size ≤ 64) :
    ∃ ls : List (List Int), ls ≠ [] ∧ prettyF s w ⟨#[]⟩ ind false = some (strOfNums (flat ls)) ∧ Bytes (flat ls) ∧ (flat ls).length ≤ 140737488355328 ∧ ∀ l ∈ ls, (∀ c ∈ l, c ≠ 10) ∧ Fine w l := by
  have hl : (bytesOf s).length = s.size := bytesOf_length s
  obtain ⟨r, hr, _⟩ := popts_tot (bytesOf s) w ⟨#[]⟩ ind ⟨by omega, by decide, hind1⟩
  have hlen := popts_len hr
  have hr0 := hr
  unfold popts at hr
  rw [if_pos (by decide)] at hr
  obtain ⟨⟨r1, r2, r3, r4⟩, h1, hr⟩ := Option.bind_eq_some_iff.mp hr
  dsimp only at hr
  obtain ⟨hr1, hr⟩ := ite_some hr
  simp only [Option.some.injEq] at hr
  have hgl := hg.le
  have h1' : pAny.l0 (pObj.at_ 19999) 200000 [] (bytesOf s) 0 true w ⟨#[]⟩ ind 0 0 (-1) = some (r1, r2, r3, r4) := h1
  obtain ⟨k, h2⟩ := any_gap (by omega) (by omega) (by omega) hi.gap i.toNat 0 (by omega) (by have := hi.1; omega) h1'
  have hst : Stop (bytesOf s) j := by
    by_cases e : j = (bytesOf s).length
    · exact .inl e
    · refine .inr (.inl ?_)
      rw [rd_bytesOf]
      exact isBlank_le (hj.2.2 j (by omega) (by have := hj.1; omega))
  have hB : BInv w [] 0 := ⟨[], [], ⟨rfl, (fun l hl => by cases hl), (fun c hc => by cases hc), (fun c hc => by cases hc), by decide⟩, (fun c hc => by cases hc), by omega, by simp⟩
  obtain ⟨buf, n', e, ls, cur, hb, hcl, c0, c, hc, _⟩ := cp_all hw hw1 (by omega) hg hst 20000 k [] ind 0 0 (r1, r2, r3, r4) hind hB (by omega) (by have := hi.1; omega) h2
  simp only [Prod.mk.injEq] at e
  obtain ⟨rfl, _⟩ := e
  have hpos : 0 < r1.length := by rw [hb.eq, hc]; simp; omega
  rw [if_pos hpos] at hr
  have hf : flat (ls ++ [cur]) = r := by rw [flat_snoc, ← hb.eq]; exact hr
  refine ⟨ls ++ [cur], by simp, ?_, ?_, by rw [hf]; exact hlen, fun l hl => ?_⟩
  · unfold prettyF
    rw [if_pos ⟨rfl, by omega⟩, hr0, hf]
    rfl
  · rw [hf, ← hr]
    exact hb.bytes.append (by intro c hc; simp at hc; omega)
  · rcases List.mem_append.1 hl with hl | hl
    · exact hb.fine l hl
    · rw [List.mem_singleton.1 hl]; exact ⟨hb.cur10, hcl.fine⟩

theorem noOpen_at : ∀ {l : List Int}, NoOpen l → ∀ n : Nat, n + 1 < l.length → l.getD n 0 = 91 → l.getD (n + 1) 0 = 93
  | [], _, n, h, _ => by simp at h
  | [a], _, n, h, _ => by simp at h
  | a :: b :: t, h, 0, _, e => h.1 e
  | a :: b :: t, h, n + 1, hn, e => noOpen_at (l := b :: t) h.2 n (by simp at hn ⊢; omega) e
theorem has_no {s : ByteArray} (hs : s.size ≤ 140737488355328) (hno : NoOpen (bytesOf s)) : ∀ (d k : Nat) (i : Int), 0 ≤ i → i ≤ s.size → (s.size : Int) - i = d → d < k → laws_prHasArray.l0 k s false false i = some false
  | d, 0, i, h0, h1, h2, h3 => by omega
  | d, k + 1, i, h0, h1, h2, h3 => by
    rw [laws_prHasArray.l0]
    by_cases c : i < (s.size : Int)
    · have w1 : wrap64 (i + 1) = i + 1 := w64p (by omega) (by omega)
      have next := has_no hs hno (d - 1) k (i + 1) (by omega) (by omega) (by omega) (by omega)
      rw [if_pos c, if_neg (by decide), if_pos h0, w1]
      by_cases c1 : bt s i = 91
      · rw [if_pos c1]
        by_cases c2 : i + 1 < (s.size : Int)
        · have e := noOpen_at hno i.toNat (by rw [bytesOf_length]; omega) (by rw [← rd_bytesOf] at c1; exact c1)
          have e' : bt s (i + 1) = 93 := by
            rw [← rd_bytesOf]
            unfold rd
            rw [show (i + 1).toNat = i.toNat + 1 by omega]
            exact e
          rw [if_pos c2, if_pos (by omega), if_neg (by decide), if_pos e', e']
          exact next
        · rw [if_neg c2, if_neg (by decide)]
          exact next
      · rw [if_neg c1, if_neg (by decide)]
        exact next
    · rw [if_neg c]
theorem bytesOf_extract (s : ByteArray) (a b : Nat) : bytesOf (s.extract a b) = ((bytesOf s).drop a).take (b - a) := by
  unfold bytesOf
  rw [Go.Lib.extract_data, List.map_take, List.map_drop]
theorem bytesOf_strOfNums {l : List Int} (h : Bytes l) : bytesOf (strOfNums l) = l := by
  rw [bytesOf_str]
  induction l with
  | nil => rfl
  | cons a t ih =>
    rw [List.map_cons, ih (fun c hc => h c (List.mem_cons_of_mem _ hc))]
    congr 1
    have := h a (List.mem_cons_self ..)
    simp only [UInt8.toNat_ofNat']
    omega

section
variable {w : Int} {out : ByteArray}
/-- Over a line: to its line feed. -/
theorem scan_line (hw : w ≤ 1073741824) (hw0 : 8 ≤ w) (hsz : out.size ≤ 140737488355328) {pre l suf : List Int} (ho : bytesOf out = pre ++ l ++ [10] ++ suf) (h10 : ∀ c ∈ l, c ≠ 10) (hf : Fine w l) : ∀ (d k : Nat) (m : Nat), m ≤ l.length → l.length - m = d → d + l.length + 4 ≤ k →
    laws_FnPrWider.l1 VPl VPr k w out (pre.length : Int) ((pre.length + m : Nat) : Int) = laws_FnPrWider.l1 VPl VPr (k - d - 1) w out ((pre ++ l ++ [10]).length : Int) ((pre ++ l ++ [10]).length : Int)
  | d, 0, m, h0, h1, h2 => by omega
  | d, k + 1, m, h0, h1, h2 => by
    have hl : (bytesOf out).length = out.size := bytesOf_length out
    have hlen : (pre ++ l ++ [10] ++ suf).length = pre.length + l.length + 1 + suf.length := by simp; omega
    have hlen2 : (pre ++ l ++ [10]).length = pre.length + l.length + 1 := by simp; omega
    rw [ho] at hl
    rw [laws_FnPrWider.l1, if_pos (by omega), if_pos (by omega), w64p (x := ((pre.length + m : Nat) : Int) + 1) (by omega) (by omega)]
    by_cases e : m = l.length
    · have hb : bt out ((pre.length + m : Nat) : Int) = 10 := by
        rw [← rd_bytesOf, ho]
        unfold rd
        rw [Int.toNat_natCast, List.getD_eq_getElem?_getD, List.append_assoc, List.append_assoc, List.getElem?_append_right (by omega), List.getElem?_append_right (by omega), e, show pre.length + l.length - pre.length - l.length = 0 by omega]
        rfl
      rw [if_pos hb, w64p (x := ((pre.length + m : Nat) : Int) - (pre.length : Int)) (by omega) (by omega), w64p (x := w + 1) (by omega) (by omega)]
      have hd : d = 0 := by omega
      subst hd
      have hn : ((pre.length + m : Nat) : Int) + 1 = ((pre ++ l ++ [10]).length : Int) := by omega
      rw [hn, show k + 1 - 0 - 1 = k by omega]
      by_cases c : ((pre.length + m : Nat) : Int) - (pre.length : Int) > w + 1
      · rw [if_pos c, if_pos (by omega), if_pos (by omega), if_pos (by omega)]
        have hno : NoOpen l := by
          rcases hf with hf | hf
          · exact hf
          · omega
        have hex : bytesOf (out.extract (pre.length : Int).toNat ((pre.length + m : Nat) : Int).toNat) = l := by
          rw [bytesOf_extract, ho, Int.toNat_natCast, Int.toNat_natCast, List.append_assoc, List.append_assoc, List.drop_left, show pre.length + m - pre.length = l.length by omega, List.take_left]
        have hexs : (out.extract (pre.length : Int).toNat ((pre.length + m : Nat) : Int).toNat).size = l.length := by rw [← bytesOf_length, hex]
        have hh : laws_prHasArray.f k (out.extract (pre.length : Int).toNat ((pre.length + m : Nat) : Int).toNat) = some false := by
          unfold laws_prHasArray.f
          exact has_no (by omega) (by rw [hex]; exact hno) l.length k 0 (by omega) (by omega) (by omega) (by omega)
        rw [hh, Option.bind_some, if_neg (by decide)]
      · rw [if_neg c]
    · have hb : bt out ((pre.length + m : Nat) : Int) ≠ 10 := by
        rw [← rd_bytesOf, ho]
        unfold rd
        rw [Int.toNat_natCast, List.getD_eq_getElem?_getD, List.append_assoc, List.append_assoc, List.getElem?_append_right (by omega), List.getElem?_append_left (by omega), show pre.length + m - pre.length = m by omega, List.getElem?_eq_getElem (by omega)]
        exact h10 _ (List.getElem_mem ..)
      rw [if_neg hb]
      have := scan_line hw hw0 hsz ho h10 hf (d - 1) k (m + 1) (by omega) (by omega) (by omega)
      rw [show (((pre.length + (m + 1) : Nat)) : Int) = ((pre.length + m : Nat) : Int) + 1 by omega, show k - (d - 1) - 1 = k + 1 - d - 1 by omega] at this
      exact this
theorem flat_cons (l : List Int) (ls : List (List Int)) : flat (l :: ls) = l ++ [10] ++ flat ls := by unfold flat; simp
theorem scan_all (hw : w ≤ 1073741824) (hw0 : 8 ≤ w) (hsz : out.size ≤ 140737488355328) : ∀ (ls : List (List Int)) (pre : List Int) (k : Nat), bytesOf out = pre ++ flat ls → (∀ l ∈ ls, (∀ c ∈ l, c ≠ 10) ∧ Fine w l) → 0 < out.size → 2 * (flat ls).length + 5 ≤ k →
    laws_FnPrWider.l1 VPl VPr k w out (pre.length : Int) (pre.length : Int) = some true
  | [], pre, k, ho, hf, h0, hk => by
    obtain ⟨k, rfl⟩ : ∃ m, k = m + 1 := ⟨k - 1, by omega⟩
    have hl : (bytesOf out).length = out.size := bytesOf_length out
    rw [ho] at hl
    have hl' : pre.length = out.size := by simpa [flat] using hl
    rw [laws_FnPrWider.l1, if_neg (by omega), if_neg]
    · rw [hl']; simp
    · intro e
      rw [Go.Lib.toList_data] at e
      have : out.data.toList.length = 0 := by rw [e]; rfl
      rw [data_length] at this
      omega
  | l :: ls, pre, k, ho, hf, h0, hk => by
    rw [flat_cons] at ho hk
    have hfl := hf l (List.mem_cons_self ..)
    have hlen : (l ++ [10] ++ flat ls).length = l.length + 1 + (flat ls).length := by simp; omega
    have ho' : bytesOf out = pre ++ l ++ [10] ++ flat ls := by rw [ho]; simp
    have := scan_line hw hw0 hsz ho' hfl.1 hfl.2 l.length k 0 (by omega) (by omega) (by omega)
    rw [Nat.add_zero] at this
    rw [this]
    exact scan_all hw hw0 hsz ls (pre ++ l ++ [10]) _ ho' (fun l' hl' => hf l' (List.mem_cons_of_mem _ hl')) h0 (by omega)
end

/-- The loop over all places: it ends with an object or a string, or comes to the printing. -/
theorem scan_places {s : ByteArray} {w ind : Int} {l : List S25} (hl : l.length ≤ 1048576) : ∀ (d k : Nat) (m : Nat), m ≤ l.length → l.length - m = d → d + 2 ≤ k →
    laws_FnPrWider.l0 VPl VPr k s w ind l (l.length : Int) (m : Int) = some true ∨
    ((∀ z ∈ l.drop m, z.f0 ≠ 6 ∧ z.f0 ≠ 4) ∧ ∃ k', k ≤ k' + d + 1 ∧ laws_FnPrWider.l0 VPl VPr k s w ind l (l.length : Int) (m : Int) = (if 0 ≤ ind then (if ind ≤ 4 then ((VPr.f k' s w (⟨#[]⟩ : ByteArray) ((⟨#[32, 32, 32, 32]⟩ : ByteArray).extract 0 (ind : Int).toNat) false).bind fun t572 => (laws_FnPrWider.l1 VPl VPr k' w t572 0 0)) else (none)) else (none)))
  | d, 0, m, h0, h1, h2 => by omega
  | d, k + 1, m, h0, h1, h2 => by
    by_cases c : m < l.length
    · have hrd : rd_T25 l (m : Int) = l[m] := by
        unfold rd_T25
        rw [Int.toNat_natCast, List.getD_eq_getElem?_getD, List.getElem?_eq_getElem c]
        rfl
      rw [laws_FnPrWider.l0, if_pos (by omega), if_pos (by omega), if_pos (by omega), hrd]
      by_cases c6 : l[m].f0 = 6
      · rw [if_pos c6]; exact .inl rfl
      · rw [if_neg c6]
        by_cases c4 : l[m].f0 = 4
        · rw [if_pos c4]; exact .inl rfl
        · rw [if_neg c4, w64 (by omega) (by omega)]
          rcases scan_places hl (d - 1) k (m + 1) (by omega) (by omega) (by omega) with h | ⟨h3, k', h4, h5⟩
          · rw [show ((m + 1 : Nat) : Int) = (m : Int) + 1 by omega] at h
            exact .inl h
          · rw [show ((m + 1 : Nat) : Int) = (m : Int) + 1 by omega] at h5
            refine .inr ⟨fun z hz => ?_, k', by omega, h5⟩
            rw [List.drop_eq_getElem_cons c] at hz
            rcases List.mem_cons.1 hz with rfl | hz
            · exact ⟨c6, c4⟩
            · exact h3 z hz
    · refine .inr ⟨fun z hz => ?_, k, by omega, ?_⟩
      · rw [List.drop_eq_nil_of_le (by omega)] at hz
        cases hz
      · rw [laws_FnPrWider.l0, if_neg (by omega)]

theorem law3_pure (s : ByteArray) (w ind : Int) : ∃ k, laws_FnPrWider.f VPl VPr k s w ind = some true := by
  by_cases hb : (s.size : Int) > 2147483647
  · exact ⟨0, by unfold laws_FnPrWider.f; rw [if_pos hb]⟩
  · have j0t : ∀ (k : Nat) (a b c : Int) (d : List S53) (e : List S25), laws_FnPrWider.j0 VPl VPr (k + 1) s w ind true a b c d e = some true := fun k a b c d e => by rw [laws_FnPrWider.j0, if_pos rfl]
    obtain ⟨r1, r2, r3, r4, r5, r6, hp, _⟩ := prPlacesF_tot s
    have hp' : ∀ k, VPl.f k s = some (r1, r2, r3, r4, r5, r6) := fun _ => hp
    cases r6 with
    | false =>
      refine ⟨1, ?_⟩
      unfold laws_FnPrWider.f
      rw [if_neg hb, hp']
      simp only [Option.bind_some]
      rw [if_neg (by decide)]
      exact j0t 0 _ _ _ _ _
    | true =>
      unfold prPlacesF at hp
      by_cases hs : s.size ≤ 4096
      case neg => rw [if_neg hs] at hp; simp at hp
      rw [if_pos hs] at hp
      have hn : Small s := by unfold Small; omega
      obtain ⟨i, hi, hv, hj⟩ := places_inv hn hp
      obtain ⟨_, _, rfl, hij, hjs, _⟩ := value_known hn 2099999 _ i r1 r2 r3 r4 r5 s r3 hi.1 hi.2.1 hv
      obtain ⟨l, hl1, hl2, hl3⟩ := all_value hn 2099999 _ r2 r1 r2 r3 r4 r5 s r3 hi.1 hi.2.1 hv
      have hi0 := hi.1
      by_cases hw : w < 8
      · refine ⟨1, ?_⟩
        unfold laws_FnPrWider.f
        rw [if_neg hb, hp']
        simp only [Option.bind_some]
        rw [if_pos trivial, if_pos hw]
        exact j0t 0 _ _ _ _ _
      · by_cases hw1 : w > 1073741824
        · refine ⟨1, ?_⟩
          unfold laws_FnPrWider.f
          rw [if_neg hb, hp']
          simp only [Option.bind_some]
          rw [if_pos trivial, if_neg hw, if_pos hw1]
          exact j0t 0 _ _ _ _ _
        · by_cases hd0 : ind < 0
          · refine ⟨1, ?_⟩
            unfold laws_FnPrWider.f
            rw [if_neg hb, hp']
            simp only [Option.bind_some]
            rw [if_pos trivial, if_neg hw, if_neg hw1, if_pos hd0]
            exact j0t 0 _ _ _ _ _
          · by_cases hd4 : ind > 4
            · refine ⟨1, ?_⟩
              unfold laws_FnPrWider.f
              rw [if_neg hb, hp']
              simp only [Option.bind_some]
              rw [if_pos trivial, if_neg hw, if_neg hw1, if_neg hd0, decide_eq_true hd4]
              exact j0t 0 _ _ _ _ _
            · -- the printing is asked
              have fin : ∃ K : Nat, ∀ k', K ≤ k' → (∀ z ∈ l.drop 0, z.f0 ≠ 6 ∧ z.f0 ≠ 4) → (if 0 ≤ ind then (if ind ≤ 4 then ((VPr.f k' s w (⟨#[]⟩ : ByteArray) ((⟨#[32, 32, 32, 32]⟩ : ByteArray).extract 0 (ind : Int).toNat) false).bind fun t572 => (laws_FnPrWider.l1 VPl VPr k' w t572 0 0)) else (none)) else (none)) = some true := by
                by_cases hall : ∀ z ∈ l.drop 0, z.f0 ≠ 6 ∧ z.f0 ≠ 4
                · have hg := hl3 (by rw [List.drop_zero] at hall; exact hall)
                  have hind : ∀ c ∈ bytesOf ((⟨#[32, 32, 32, 32]⟩ : ByteArray).extract 0 (ind : Int).toNat), c = 32 := by
                    intro c hc
                    rw [bytesOf_extract] at hc
                    have := List.mem_of_mem_drop (List.mem_of_mem_take hc)
                    have e : bytesOf (⟨#[32, 32, 32, 32]⟩ : ByteArray) = [32, 32, 32, 32] := by decide
                    rw [e] at this
                    simp at this
                    exact this
                  have hind1 : ((⟨#[32, 32, 32, 32]⟩ : ByteArray).extract 0 (ind : Int).toNat).size ≤ 64 := by
                    rw [← bytesOf_length, bytesOf_extract, List.length_take, List.length_drop, bytesOf_length]
                    have e : (⟨#[32, 32, 32, 32]⟩ : ByteArray).size = 4 := by decide
                    omega
                  obtain ⟨ls, h1, h2, h3, h4, h5⟩ := wider_lines (w := w) hs hi hj hg (by omega) (by omega) hind hind1
                  refine ⟨2 * (flat ls).length + 5, fun k' hk' _ => ?_⟩
                  rw [if_pos (by omega), if_pos (by omega), VPr_f, h2, Option.bind_some]
                  have hpos : 0 < (flat ls).length := by
                    cases ls with
                    | nil => exact absurd rfl h1
                    | cons a t => rw [flat_cons]; simp; omega
                  have := scan_all (w := w) (out := strOfNums (flat ls)) (by omega) (by omega) (by rw [strOfNums_size]; exact h4) ls [] k' (by rw [bytesOf_strOfNums h3]; simp) h5 (by rw [strOfNums_size]; exact hpos) hk'
                  exact this
                · exact ⟨0, fun k' _ h => absurd h hall⟩
              obtain ⟨K, hK⟩ := fin
              have hlen : l.length ≤ 4096 := by omega
              refine ⟨K + 20000 + 1, ?_⟩
              unfold laws_FnPrWider.f
              rw [if_neg hb, hp']
              simp only [Option.bind_some]
              rw [if_pos trivial, if_neg hw, if_neg hw1, if_neg hd0, decide_eq_false hd4, laws_FnPrWider.j0, if_neg (by decide), hl1 _ (by omega)]
              simp only [Option.bind_some]
              rcases scan_places (s := s) (w := w) (ind := ind) (l := l) (by omega) l.length (K + 20000) 0 (by omega) (by omega) (by omega) with h | ⟨h3, k', h4, h5⟩
              · exact h
              · have := hK k' (by omega) h3
                rw [← this]
                exact h5

theorem law3_all (s : ByteArray) (a1 a2 : Int) (w : World) : Calls Try.prog 3 #[.string s, .int .i64 a1, .int .i64 a2] w fun e w' => e = .returned (.bool true) ∧ Below w.heap.size w w' := by
  obtain ⟨k, h⟩ := law3_pure s a1 a2
  exact laws_FnPrWider.calls VPl VPr k s a1 a2 true w h
end Go.Proofs.Ytkbeiidjagodnaa.Pr

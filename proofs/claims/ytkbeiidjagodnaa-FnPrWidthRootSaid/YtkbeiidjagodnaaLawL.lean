/- laws.FnPrWidthRoot answers true, for every input: Laid of a flat array; the walk and the plain law joined. -/
import Derived.Test.YtkbeiidjagodnaaLawY
import Derived.Test.YtkbeiidjagodnaaLawD
import Derived.Test.YtkbeiidjagodnaaPlz2
import Derived.Test.YtkbeiidjagodnaaLw4
import Derived.Test.YtkbeiidjagodnaaHand5
import Derived.Test.YtkbeiidjagodnaaHand2
import Derived.Lib.SmallJoins
namespace Go.Proofs.Ytkbeiidjagodnaa.Pr
open Go.RowKit Go.Proofs.YtkbeiidjagodnaaW.PrintWords Go.Proofs.YtkbeiidjagodnaaW.PrintLast Go.Proofs.YtkbeiidjagodnaaW.PrintMore
set_option linter.unusedVariables false

theorem bytesOf_extr (s : ByteArray) (a b : Nat) : bytesOf (s.extract a b) = ((bytesOf s).drop a).take (b - a) := by
  unfold bytesOf
  rw [Go.Lib.extract_data, List.map_take, List.map_drop]
theorem extr_seg {s : ByteArray} {i j : Int} (h0 : 0 ≤ i) (h1 : i ≤ j) : bytesOf (s.extract i.toNat j.toNat) = seg (bytesOf s) i j := by
  rw [bytesOf_extr]
  unfold seg
  rw [List.drop_take]
theorem extr_size {s : ByteArray} {i j : Int} (h0 : 0 ≤ i) (h1 : i ≤ j) (h2 : j ≤ s.size) : ((s.extract i.toNat j.toNat).size : Int) = j - i := by
  rw [← bytesOf_length, extr_seg h0 h1]
  exact seg_len _ _ _ h0 h1 (by rw [bytesOf_length]; exact h2)

def VB : H_spec_bareTo := spec_bareTo.at_ 1
def VN : H_spec_lineTo := spec_lineTo.at_ 2
def VT : H_spec_laidTo := spec_laidTo.at_ VN VB 2
theorem bare_kid {s : ByteArray} (hs : s.size ≤ 1000000) {p : S25} (hk : KA s p) {x0 : List Int} (hx : x0.length ≤ 1099511627776) {k : Nat} (hk1 : 1 ≤ k) (ns : List S53) (ks : List S25) : VB.f k x0 s p.f0 p.f1 p.f2 ns ks = some (x0 ++ seg (bytesOf s) p.f1 p.f2) := by
  show spec_bareTo.f k x0 s p.f0 p.f1 p.f2 ns ks = _
  obtain ⟨k, rfl⟩ : ∃ m, k = m + 1 := ⟨k - 1, by omega⟩
  have h0 := hk.b0
  have h1 := hk.lt
  have h2 := hk.le
  have he := extr_size h0 (by omega : p.f1 ≤ p.f2) h2
  unfold spec_bareTo.f
  rw [if_neg hk.kind.1, show (p.f0 != 6) = true from bne_iff_ne.mpr hk.kind.2, spec_bareTo.j0, if_pos rfl, if_pos h0, if_pos (by omega), if_pos h2, if_pos (by omega), extr_seg h0 (by omega)]
theorem line_kid {s : ByteArray} (hs : s.size ≤ 1000000) {p : S25} (hk : KA s p) {V : H_spec_lineTo} {x0 : List Int} (hx : x0.length ≤ 1099511627776) {k : Nat} (ns : List S53) (ks : List S25) : spec_lineTo.f V k x0 s p.f0 p.f1 p.f2 ns ks = some (x0 ++ seg (bytesOf s) p.f1 p.f2) := by
  have h0 := hk.b0
  have h1 := hk.lt
  have h2 := hk.le
  have he := extr_size h0 (by omega : p.f1 ≤ p.f2) h2
  unfold spec_lineTo.f
  rw [if_neg hk.kind.1, if_pos h0, if_pos (by omega), if_pos h2, if_pos (by omega), extr_seg h0 (by omega)]
theorem rd_mid (done ks : List S25) (p : S25) : rd_T25 (done ++ p :: ks) (done.length : Int) = p := by
  unfold rd_T25
  rw [Int.toNat_natCast, List.getD_eq_getElem?_getD, List.getElem?_append_right (Nat.le_refl _), Nat.sub_self]
  rfl
theorem seg_le {s : ByteArray} {p : S25} (hk : KA s p) : (seg (bytesOf s) p.f1 p.f2).length ≤ s.size := by
  have h0 := hk.b0
  have h1 := hk.lt
  have h2 := hk.le
  have := seg_len (bytesOf s) p.f1 p.f2 h0 (by omega) (by rw [bytesOf_length]; exact h2)
  omega

/-- lineTo over the elements. -/
theorem line_loop {s : ByteArray} (hs : s.size ≤ 4096) (kd b e : Int) (ns : List S53) : ∀ (ks done : List S25) (k : Nat) (x0 : List Int), (∀ p ∈ ks, KA s p) → (done.length : Int) + ks.length ≤ 100000 → x0.length + 8000 * ks.length ≤ 1099511627776 → ks.length + 3 ≤ k →
    spec_lineTo.l0 (spec_lineTo.at_ 1) k x0 s ((done ++ ks).length : Int) (done.length : Int) kd b e ns (done ++ ks) = some (x0 ++ (if done.length > 0 then tailA (bytesOf s) ks else bodyA (bytesOf s) ks) ++ [93]) := by
  intro ks
  induction ks with
  | nil =>
    intro done k x0 hk hd hx hkk
    obtain ⟨k, rfl⟩ : ∃ m, k = m + 1 := ⟨k - 1, by omega⟩
    rw [spec_lineTo.l0, List.append_nil, if_neg (by omega), if_pos (by omega)]
    congr 2
    split <;> simp [tailA, bodyA]
  | cons p ks ih =>
    intro done k x0 hk hd hx hkk
    rw [List.length_cons] at hd hx hkk
    obtain ⟨k, rfl⟩ : ∃ m, k = m + 1 := ⟨k - 1, by omega⟩
    have hkp := hk p (List.mem_cons_self ..)
    have hsl := seg_le hkp
    have hlen : (done ++ p :: ks).length = done.length + ks.length + 1 := by rw [List.length_append, List.length_cons]; omega
    have hlk : ∀ (y : List Int), y.length ≤ 1099511627776 → (spec_lineTo.at_ 1).f k y s p.f0 p.f1 p.f2 p.f3 p.f4 = some (y ++ seg (bytesOf s) p.f1 p.f2) := fun y hy => line_kid (by omega) hkp (V := spec_lineTo.at_ 0) hy p.f3 p.f4
    have next := ih (done ++ [p]) k
    have ea : (done ++ [p]) ++ ks = done ++ p :: ks := by simp
    have el : ((done ++ [p]).length : Int) = done.length + 1 := by simp
    have eln : (done ++ [p]).length = done.length + 1 := by simp
    rw [ea, el] at next
    rw [spec_lineTo.l0, if_pos (by omega)]
    by_cases c : (done.length : Int) > 0
    · have h2 : (x0 ++ [44, 32]).length = x0.length + 2 := by rw [List.length_append]; rfl
      rw [if_pos c, Option.bind_some, if_pos (by show x0.length + 2 < _; omega), if_pos (by omega), if_pos (by omega), rd_mid, hlk _ (by omega), Option.bind_some, w64 (by omega) (by omega),
        next _ (fun q hq => hk q (List.mem_cons_of_mem _ hq)) (by omega) (by rw [List.length_append, h2]; omega) (by omega), if_pos (by omega), if_pos (by omega)]
      congr 1
      simp [tailA]
    · rw [if_neg c, if_pos (by omega), if_pos (by omega), rd_mid, hlk _ (by omega), Option.bind_some, w64 (by omega) (by omega),
        next _ (fun q hq => hk q (List.mem_cons_of_mem _ hq)) (by omega) (by rw [List.length_append]; omega) (by omega), if_pos (by omega), if_neg (by omega)]
      congr 1
      simp [tailA, bodyA]

theorem objects_kid {s : ByteArray} {p : S25} (hk : KA s p) {k : Nat} (hk1 : 2 ≤ k) (ns : List S53) : spec_objects.f k p.f0 p.f1 p.f2 ns p.f4 = some false := by
  obtain ⟨k, rfl⟩ : ∃ m, k = m + 2 := ⟨k - 2, by omega⟩
  rw [spec_objects.f, hk.kids, spec_objects.l0, if_neg (by simp), show (p.f0 == 6) = false from beq_eq_false_iff_ne.mpr hk.kind.2]
theorem objects_loop {s : ByteArray} (kd b e : Int) (ns : List S53) : ∀ (ks done : List S25) (k : Nat), (∀ p ∈ ks, KA s p) → (done.length : Int) + ks.length ≤ 100000 → ks.length + 4 ≤ k →
    spec_objects.l0 k false ((done ++ ks).length : Int) (done.length : Int) kd b e ns (done ++ ks) = some false := by
  intro ks
  induction ks with
  | nil =>
    intro done k hk hd hkk
    obtain ⟨k, rfl⟩ : ∃ m, k = m + 1 := ⟨k - 1, by omega⟩
    rw [spec_objects.l0, List.append_nil, if_neg (by omega)]
  | cons p ks ih =>
    intro done k hk hd hkk
    rw [List.length_cons] at hd hkk
    obtain ⟨k, rfl⟩ : ∃ m, k = m + 1 := ⟨k - 1, by omega⟩
    have hlen : (done ++ p :: ks).length = done.length + ks.length + 1 := by rw [List.length_append, List.length_cons]; omega
    have next := ih (done ++ [p]) k (fun q hq => hk q (List.mem_cons_of_mem _ hq)) (by simp; omega) (by omega)
    have ea : (done ++ [p]) ++ ks = done ++ p :: ks := by simp
    have el : ((done ++ [p]).length : Int) = done.length + 1 := by simp
    rw [ea, el] at next
    rw [spec_objects.l0, if_pos (by omega), if_neg (by decide), if_pos (by omega), if_pos (by omega), rd_mid, objects_kid (hk p (List.mem_cons_self ..)) (by omega), Option.bind_some, w64 (by omega) (by omega)]
    exact next

/-- laidTo over the elements. -/
theorem laid_loop {s : ByteArray} (hs : s.size ≤ 4096) (kd b e : Int) (hkd : kd ≠ 6) (ns : List S53) (pre ind : ByteArray) (hpre : pre.size ≤ 64) (hind : ind.size ≤ 64) : ∀ (ks done : List S25) (k : Nat) (x0 : List Int), (∀ p ∈ ks, KA s p) → (done.length : Int) + ks.length ≤ 100000 → x0.length + 8000 * ks.length + 8000 ≤ 1099511627776 → ks.length + 4 ≤ k →
    spec_laidTo.l0 (spec_laidTo.at_ VN VB 1) VN VB k x0 s pre ind false 93 ((done ++ ks).length : Int) (done.length : Int) kd b e ns (done ++ ks) = some (x0 ++ (if done.length > 0 then tailP (bytesOf s) pre ind ks else bodyP (bytesOf s) pre ind ks) ++ ([10] ++ bytesOf pre ++ [93])) := by
  intro ks
  induction ks with
  | nil =>
    intro done k x0 hk hd hx hkk
    obtain ⟨k, rfl⟩ : ∃ m, k = m + 1 := ⟨k - 1, by omega⟩
    have h1 : (x0 ++ [10]).length = x0.length + 1 := by rw [List.length_append]; rfl
    have hlp : (bytesOf pre).length = pre.size := bytesOf_length pre
    rw [spec_laidTo.l0, List.append_nil, if_neg (by omega), if_pos (by rw [List.length_nil] at hx; omega), Option.bind_some, if_pos (by rw [List.length_nil] at hx; omega), Option.bind_some, if_pos (by rw [List.length_nil] at hx; rw [List.length_append, h1]; omega)]
    congr 1
    split <;> simp [tailP, bodyP]
  | cons p ks ih =>
    intro done k x0 hk hd hx hkk
    rw [List.length_cons] at hd hx hkk
    obtain ⟨k, rfl⟩ : ∃ m, k = m + 1 := ⟨k - 1, by omega⟩
    have hkp := hk p (List.mem_cons_self ..)
    have hsl := seg_le hkp
    have hlp : (bytesOf pre).length = pre.size := bytesOf_length pre
    have hli : (bytesOf ind).length = ind.size := bytesOf_length ind
    have hlen : (done ++ p :: ks).length = done.length + ks.length + 1 := by rw [List.length_append, List.length_cons]; omega
    have hlk : ∀ (y : List Int) (a : ByteArray), y.length ≤ 1099511627776 → (spec_laidTo.at_ VN VB 1).f k y s p.f0 p.f1 p.f2 p.f3 p.f4 a ind false = some (y ++ seg (bytesOf s) p.f1 p.f2) := by
      intro y a hy
      show spec_laidTo.f (spec_laidTo.at_ VN VB 0) VN VB k y s p.f0 p.f1 p.f2 p.f3 p.f4 a ind false = _
      unfold spec_laidTo.f
      rw [if_pos (by rw [hkp.kids]; rfl), bare_kid (by omega) hkp hy (by omega), Option.bind_some]
    have next := ih (done ++ [p]) k
    have ea : (done ++ [p]) ++ ks = done ++ p :: ks := by simp
    have el : ((done ++ [p]).length : Int) = done.length + 1 := by simp
    have eln : (done ++ [p]).length = done.length + 1 := by simp
    rw [ea, el] at next
    rw [spec_laidTo.l0, if_pos (by omega)]
    by_cases c : (done.length : Int) > 0
    · have h1 : (x0 ++ [44]).length = x0.length + 1 := by rw [List.length_append]; rfl
      have h2 : ((x0 ++ [44]) ++ [10]).length = x0.length + 2 := by rw [List.length_append, h1]; rfl
      have h3 : (((x0 ++ [44]) ++ [10]) ++ bytesOf pre).length = x0.length + 2 + pre.size := by rw [List.length_append, h2, hlp]
      have h4 : ((((x0 ++ [44]) ++ [10]) ++ bytesOf pre) ++ bytesOf ind).length = x0.length + 2 + pre.size + ind.size := by rw [List.length_append, h3, hli]
      rw [if_pos c, if_pos (by omega), Option.bind_some, if_pos (by omega), Option.bind_some, if_pos (by omega), Option.bind_some, if_pos (by omega), if_neg hkd, if_pos (by omega), if_pos (by omega), rd_mid, if_pos (by omega), hlk _ _ (by omega), Option.bind_some, w64 (by omega) (by omega),
        next _ (fun q hq => hk q (List.mem_cons_of_mem _ hq)) (by omega) (by rw [List.length_append, h4]; omega) (by omega), if_pos (by omega), if_pos (by omega)]
      congr 1
      simp [tailP, lineB]
    · have h2 : (x0 ++ [10]).length = x0.length + 1 := by rw [List.length_append]; rfl
      have h3 : ((x0 ++ [10]) ++ bytesOf pre).length = x0.length + 1 + pre.size := by rw [List.length_append, h2, hlp]
      have h4 : (((x0 ++ [10]) ++ bytesOf pre) ++ bytesOf ind).length = x0.length + 1 + pre.size + ind.size := by rw [List.length_append, h3, hli]
      rw [if_neg c, if_pos (by omega), Option.bind_some, if_pos (by omega), Option.bind_some, if_pos (by omega), if_neg hkd, if_pos (by omega), if_pos (by omega), rd_mid, if_pos (by omega), hlk _ _ (by omega), Option.bind_some, w64 (by omega) (by omega),
        next _ (fun q hq => hk q (List.mem_cons_of_mem _ hq)) (by omega) (by rw [List.length_append, h4]; omega) (by omega), if_pos (by omega), if_neg (by omega)]
      congr 1
      simp [tailP, bodyP, lineB]

/-! Texts out of bytes. -/
theorem ba_ext {a b : ByteArray} (h : a.data.toList = b.data.toList) : a = b := by
  have e : a.data = b.data := Array.ext' h
  cases a
  cases b
  simp only at e
  rw [e]
theorem str_app (a b : List Int) : strOfNums (a ++ b) = strOfNums a ++ strOfNums b := by
  apply ba_ext
  rw [ByteArray.data_append, Array.toList_append, strOfNums_data, strOfNums_data, strOfNums_data, List.map_append]
theorem str_bytesOf (s : ByteArray) : strOfNums (bytesOf s) = s := by
  apply ba_ext
  rw [strOfNums_data]
  unfold bytesOf
  rw [List.map_map]
  have : (fun n : Int => UInt8.ofNat n.toNat) ∘ (fun b : UInt8 => (b.toNat : Int)) = id := by
    funext b
    simp
  rw [this, List.map_id]
theorem str_ten : strOfNums [10] = (⟨#[10]⟩ : ByteArray) := by apply ba_ext; rfl
theorem app_nil (s : ByteArray) : (⟨#[]⟩ : ByteArray) ++ s = s := by
  apply ba_ext
  rw [ByteArray.data_append, Array.toList_append]
  rfl

/-- Laid of a flat array, on one line and in lines. -/
theorem body_le {s : ByteArray} (hs : s.size ≤ 4096) : ∀ (ks : List S25), (∀ p ∈ ks, KA s p) → (tailA (bytesOf s) ks).length ≤ 5000 * ks.length ∧ (bodyA (bytesOf s) ks).length ≤ 5000 * ks.length
  | [], _ => by simp [tailA, bodyA]
  | p :: ks, hk => by
    have h1 := (body_le hs ks (fun q hq => hk q (List.mem_cons_of_mem _ hq))).1
    have h2 := seg_le (hk p (List.mem_cons_self ..))
    have e : tailA (bytesOf s) (p :: ks) = [44, 32] ++ seg (bytesOf s) p.f1 p.f2 ++ tailA (bytesOf s) ks := by simp [tailA]
    have e2 : bodyA (bytesOf s) (p :: ks) = seg (bytesOf s) p.f1 p.f2 ++ tailA (bytesOf s) ks := rfl
    rw [e, e2, List.length_append, List.length_append, List.length_append]
    simp only [List.length_cons, List.length_nil]
    omega
theorem laid_one {s : ByteArray} (hs : s.size ≤ 4096) {b e : Int} {ns : List S53} {ks : List S25} (hks : ks ≠ []) (hk : ∀ p ∈ ks, KA s p) (hn : ks.length ≤ 4096) {k : Nat} (hkk : 10000 ≤ k) :
    spec_Laid.f VT k s 5 b e ns ks ⟨#[]⟩ ⟨#[]⟩ true = some (strOfNums (oneL (bytesOf s) ks ++ [10])) := by
  have hlen : ks.length ≠ 0 := fun h => hks (List.length_eq_zero_iff.mp h)
  have hll := line_loop hs 5 b e ns ks [] k ([] ++ [91]) hk (by simp; omega) (by simp; omega) (by omega)
  have hob := objects_loop (s := s) 5 b e ns ks [] (k - 1) hk (by simp; omega) (by omega)
  have hT : VT.f k [] s 5 b e ns ks ⟨#[]⟩ ⟨#[]⟩ true = some (oneL (bytesOf s) ks) := by
    show spec_laidTo.f (spec_laidTo.at_ VN VB 1) VN VB k [] s 5 b e ns ks ⟨#[]⟩ ⟨#[]⟩ true = _
    unfold spec_laidTo.f
    have ho : spec_objects.f k 5 b e ns ks = some false := by
      obtain ⟨k, rfl⟩ : ∃ m, k = m + 1 := ⟨k - 1, by omega⟩
      rw [spec_objects.f]
      exact hob
    have hN : VN.f k [] s 5 b e ns ks = some (oneL (bytesOf s) ks) := by
      show spec_lineTo.f (spec_lineTo.at_ 1) k [] s 5 b e ns ks = _
      unfold spec_lineTo.f
      rw [if_pos rfl, if_pos (by decide)]
      refine hll.trans ?_
      simp [oneL]
    rw [if_neg (by omega), if_pos rfl, ho, Option.bind_some, if_neg (by decide), hN, Option.bind_some]
  unfold spec_Laid.f
  have hb := (body_le hs ks hk).2
  have hol : (oneL (bytesOf s) ks).length = (bodyA (bytesOf s) ks).length + 2 := by unfold oneL; simp <;> omega
  rw [hT, Option.bind_some, if_pos (by rw [strOfNums_size]; show 0 + _ ≤ _; omega), app_nil, if_pos (by rw [strOfNums_size]; omega), str_app, str_ten]
theorem bodyP_le {s : ByteArray} (hs : s.size ≤ 4096) {pre ind : ByteArray} (hpre : pre.size ≤ 64) (hind : ind.size ≤ 64) : ∀ (ks : List S25), (∀ p ∈ ks, KA s p) → (tailP (bytesOf s) pre ind ks).length ≤ 5000 * ks.length ∧ (bodyP (bytesOf s) pre ind ks).length ≤ 5000 * ks.length
  | [], _ => by simp [tailP, bodyP]
  | p :: ks, hk => by
    have h1 := (bodyP_le hs hpre hind ks (fun q hq => hk q (List.mem_cons_of_mem _ hq))).1
    have h2 := seg_le (hk p (List.mem_cons_self ..))
    have e : tailP (bytesOf s) pre ind (p :: ks) = [44] ++ lineB pre ind ++ seg (bytesOf s) p.f1 p.f2 ++ tailP (bytesOf s) pre ind ks := by simp [tailP]
    have e2 : bodyP (bytesOf s) pre ind (p :: ks) = lineB pre ind ++ seg (bytesOf s) p.f1 p.f2 ++ tailP (bytesOf s) pre ind ks := rfl
    have e3 : (lineB pre ind).length = 1 + pre.size + ind.size := by unfold lineB; rw [List.length_append, List.length_append, bytesOf_length, bytesOf_length]; rfl
    rw [e, e2, List.length_append, List.length_append, List.length_append, List.length_append, List.length_append, e3]
    simp only [List.length_cons, List.length_nil]
    omega
theorem laid_lines {s : ByteArray} (hs : s.size ≤ 4096) {b e : Int} {ns : List S53} {ks : List S25} (hks : ks ≠ []) (hk : ∀ p ∈ ks, KA s p) (hn : ks.length ≤ 4096) {pre ind : ByteArray} (hpre : pre.size ≤ 64) (hind : ind.size ≤ 64) {k : Nat} (hkk : 10000 ≤ k) :
    spec_Laid.f VT k s 5 b e ns ks pre ind false = some (strOfNums (bytesOf pre ++ linesL (bytesOf s) pre ind ks ++ [10])) := by
  have hlen : ks.length ≠ 0 := fun h => hks (List.length_eq_zero_iff.mp h)
  have hT : VT.f k [] s 5 b e ns ks pre ind false = some (linesL (bytesOf s) pre ind ks) := by
    show spec_laidTo.f (spec_laidTo.at_ VN VB 1) VN VB k [] s 5 b e ns ks pre ind false = _
    unfold spec_laidTo.f
    obtain ⟨k, rfl⟩ : ∃ m, k = m + 1 := ⟨k - 1, by omega⟩
    have hll := laid_loop hs 5 b e (by decide) ns pre ind hpre hind ks [] k ([] ++ [91]) hk (by simp; omega) (by simp; omega) (by omega)
    rw [if_neg (by omega), if_neg (by decide), spec_laidTo.j0, if_neg (by decide), if_pos (by decide)]
    refine hll.trans ?_
    simp [linesL]
  unfold spec_Laid.f
  have hb := (bodyP_le hs hpre hind ks hk).2
  have hol : (linesL (bytesOf s) pre ind ks).length ≤ (bodyP (bytesOf s) pre ind ks).length + 100 := by unfold linesL; simp [bytesOf_length]; omega
  rw [hT, Option.bind_some, if_pos (by rw [strOfNums_size]; omega)]
  have e : pre ++ strOfNums (linesL (bytesOf s) pre ind ks) = strOfNums (bytesOf pre ++ linesL (bytesOf s) pre ind ks) := by rw [str_app, str_bytesOf]
  rw [e, if_pos (by rw [strOfNums_size, List.length_append, bytesOf_length]; omega), str_app _ [10], str_ten]

/-! The law. -/
def VPl4 : H_laws_prPlaces := ⟨fun _ s => prPlacesF (spec_reader_value.at_ 2100000) 1050000 s, fun _ _ => LeO.refl _, fun _ a0 r1 r2 r3 r4 r5 r6 w h => prPlaces_calls (spec_reader_value.at_ 2100000) 1050000 a0 w r1 r2 r3 r4 r5 r6 h⟩
def prettyF4 (s : ByteArray) (wd : Int) (pre ind : ByteArray) (srt : Bool) : Option ByteArray := if srt = false ∧ s.size ≤ 140737488355328 then (popts (pAny.at_ 20000) 200000 (bytesOf s) wd pre ind).map strOfNums else none
theorem prettyF4_calls (a0 : ByteArray) (a1_0 : Int) (a1_1 a1_2 : ByteArray) (a1_3 : Bool) (r : ByteArray) (w : World) (h : prettyF4 a0 a1_0 a1_1 a1_2 a1_3 = some r) :
    Calls Try.prog 8 #[.string a0, .agg #[.int .i64 a1_0, .string a1_1, .string a1_2, .bool a1_3]] w fun e w' => e = .returned (.string r) ∧ Below w.heap.size w w' := by
  unfold prettyF4 at h
  replace h := ite_some h
  obtain ⟨⟨rfl, hs⟩, h⟩ := h
  obtain ⟨r', hr, rfl⟩ := Option.map_eq_some_iff.mp h
  exact prPretty_calls (pAny.at_ 20000) 200000 a0 a1_0 a1_1 a1_2 r' w hs hr
def VPr4 : H_impl_PrPretty := ⟨fun _ s wd pre ind srt => prettyF4 s wd pre ind srt, fun _ _ _ _ _ _ => LeO.refl _, fun _ a0 a1_0 a1_1 a1_2 a1_3 r w h => prettyF4_calls a0 a1_0 a1_1 a1_2 a1_3 r w h⟩
def VLd : H_spec_Laid := ⟨fun k => spec_Laid.f VT k, spec_Laid.mono VT, spec_Laid.calls VT⟩
theorem VPr4_f (k : Nat) (s : ByteArray) (wd : Int) (pre ind : ByteArray) (b : Bool) : VPr4.f k s wd pre ind b = prettyF4 s wd pre ind b := rfl
theorem VLd_f (k : Nat) (s : ByteArray) (a b c : Int) (d : List S53) (e : List S25) (pre ind : ByteArray) (wide : Bool) : VLd.f k s a b c d e pre ind wide = spec_Laid.f VT k s a b c d e pre ind wide := rfl

theorem places_inv4 {s : ByteArray} (hn : Small s) {kd b j : Int} {ns : List S53} {ks : List S25} (h : places (spec_reader_value.at_ 2100000) 1050000 s = some (kd, b, j, ns, ks, true)) :
    ∃ i, Blanks s 0 i ∧ (spec_reader_value.at_ 2100000).f 1050000 s i = some (kd, b, j, ns, ks, true, s, j) ∧ Blanks s j s.size := by
  have hn' : s.size ≤ 1048576 := hn
  unfold places at h
  replace h := Option.bind_eq_some_iff.mp h
  obtain ⟨⟨s1, i⟩, hb, h⟩ := h
  dsimp only at h
  obtain ⟨rfl, hb⟩ := blanks_inv s hn _ 0 s1 i (by omega) (by omega) hb
  replace h := Option.bind_eq_some_iff.mp h
  obtain ⟨⟨kd1, b1, j1, ns1, ks1, ok, s2, j2⟩, hv, h⟩ := h
  dsimp only at h
  cases ok with
  | false => rw [if_neg (by decide)] at h; simp at h
  | true =>
    rw [if_pos rfl] at h
    obtain ⟨rfl, rfl, rfl, a1, a2, _⟩ := value_known hn 2099999 _ i kd1 b1 j1 ns1 ks1 s2 j2 hb.1 hb.2.1 hv
    replace h := Option.bind_eq_some_iff.mp h
    obtain ⟨⟨s3, j3⟩, hb2, h⟩ := h
    dsimp only at h
    obtain ⟨rfl, hb2⟩ := blanks_inv s2 hn _ j2 s3 j3 (by have := hb.1; omega) a2 hb2
    by_cases e : j3 = (s3.size : Int)
    · rw [if_pos e] at h
      simp only [Option.some.injEq, Prod.mk.injEq] at h
      obtain ⟨rfl, rfl, rfl, rfl, rfl, _⟩ := h
      subst e
      exact ⟨b1, hb, hv, hb2⟩
    · rw [if_neg e] at h; simp at h

theorem flat_t (kd b e : Int) (ns : List S53) (ks : List S25) (hn : ks.length ≤ 1000000) : ∀ (d k : Nat) (m : Nat), m ≤ ks.length → ks.length - m = d → d + 2 ≤ k →
    ∃ r, laws_prFlatArray.l0 k (ks.length : Int) (m : Int) kd b e ns ks = some r ∧ (r = true → kd = 5 ∧ ks ≠ [] ∧ ∀ z ∈ ks.drop m, z.f0 < 5)
  | d, 0, m, h0, h1, h2 => by omega
  | d, k + 1, m, h0, h1, h2 => by
    by_cases c : m < ks.length
    · have hrd : rd_T25 ks (m : Int) = ks[m] := by
        unfold rd_T25
        rw [Int.toNat_natCast, List.getD_eq_getElem?_getD, List.getElem?_eq_getElem c]
        rfl
      rw [laws_prFlatArray.l0, if_pos (by omega), if_pos (by omega), if_pos (by omega), hrd]
      by_cases c5 : ks[m].f0 ≥ 5
      · rw [if_pos c5]; exact ⟨false, rfl, fun h => by cases h⟩
      · rw [if_neg c5, w64 (by omega) (by omega)]
        obtain ⟨r, e1, e2⟩ := flat_t kd b e ns ks hn (d - 1) k (m + 1) (by omega) (by omega) (by omega)
        rw [show ((m + 1 : Nat) : Int) = (m : Int) + 1 by omega] at e1
        refine ⟨r, e1, fun h => ?_⟩
        obtain ⟨g1, g2, g3⟩ := e2 h
        refine ⟨g1, g2, fun z hz => ?_⟩
        rw [List.drop_eq_getElem_cons c] at hz
        rcases List.mem_cons.1 hz with rfl | hz
        · omega
        · exact g3 z hz
    · rw [laws_prFlatArray.l0, if_neg (by omega)]
      by_cases c5 : kd = 5
      · rw [if_pos c5]
        refine ⟨_, rfl, fun h => ⟨c5, ?_, fun z hz => ?_⟩⟩
        · rintro rfl
          simp at h
        · rw [List.drop_eq_nil_of_le (by omega)] at hz
          cases hz
      · rw [if_neg c5]; exact ⟨false, rfl, fun h => by cases h⟩

theorem blank_l1 (L : List ByteArray) (n m : Int) (s : ByteArray) (hs : s.size ≤ 140737488355328) : ∀ (d k : Nat) (i : Int), 0 ≤ i → i ≤ s.size → (s.size : Int) - i = d → d + 1 ≤ k →
    laws_prBlank.l1 k s i L n m = some false ∨ (s.size ≤ 64 ∧ laws_prBlank.l1 k s i L n m = laws_prBlank.l0 (k - d - 1) L n (wrap64 (m + 1)))
  | d, 0, i, h0, h1, h2, h3 => by omega
  | d, k + 1, i, h0, h1, h2, h3 => by
    rw [laws_prBlank.l1]
    by_cases c : i < (s.size : Int)
    · have next := blank_l1 L n m s hs (d - 1) k (i + 1) (by omega) (by omega) (by omega) (by omega)
      rw [show k - (d - 1) - 1 = k + 1 - d - 1 by omega] at next
      rw [if_pos c, if_pos h0, w64p (by omega) (by omega)]
      by_cases c1 : bt s i = 32
      · rw [if_pos c1]; exact next
      · rw [if_neg c1]
        by_cases c2 : bt s i = 9
        · rw [if_pos c2]; exact next
        · rw [if_neg c2]; exact .inl rfl
    · rw [if_neg c]
      by_cases c1 : (s.size : Int) > 64
      · rw [if_pos c1]; exact .inl rfl
      · rw [if_neg c1]
        have : d = 0 := by omega
        subst this
        exact .inr ⟨by omega, rfl⟩
theorem blank_t (wd : Int) (pre ind : ByteArray) (b : Bool) (hp : pre.size ≤ 140737488355328) (hi : ind.size ≤ 140737488355328) (k : Nat) (hk : pre.size + ind.size + 10 ≤ k) : ∃ r, laws_prBlank.f k wd pre ind b = some r ∧ (r = true → pre.size ≤ 64 ∧ ind.size ≤ 64) := by
  unfold laws_prBlank.f
  rw [Option.bind_some]
  obtain ⟨k, rfl⟩ : ∃ m, k = m + 1 := ⟨k - 1, by omega⟩
  rw [laws_prBlank.l0, if_pos (by show (0 : Int) < 2; decide), if_pos (by decide), if_pos (by show (0 : Int) < 2; decide)]
  have e0 : rdOf ByteArray.empty [pre, ind] 0 = pre := rfl
  have e1 : rdOf ByteArray.empty [pre, ind] 1 = ind := rfl
  rw [e0]
  rcases blank_l1 [pre, ind] (([pre, ind] : List ByteArray).length : Int) 0 pre hp pre.size k 0 (by omega) (by omega) (by omega) (by omega) with h | ⟨h1, h2⟩
  · exact ⟨false, h, fun h => by cases h⟩
  · rw [h2, w64p (by omega) (by omega)]
    obtain ⟨k', hk'⟩ : ∃ m, k - pre.size - 1 = m + 1 := ⟨k - pre.size - 2, by omega⟩
    rw [hk', laws_prBlank.l0, show (0 : Int) + 1 = 1 from rfl, if_pos (by show (1 : Int) < 2; decide), if_pos (by decide), if_pos (by show (1 : Int) < 2; decide), e1]
    rcases blank_l1 [pre, ind] (([pre, ind] : List ByteArray).length : Int) 1 ind hi ind.size k' 0 (by omega) (by omega) (by omega) (by omega) with h | ⟨h3, h4⟩
    · exact ⟨false, h, fun h => by cases h⟩
    · rw [h4, w64p (by omega) (by omega)]
      obtain ⟨k2, hk2⟩ : ∃ m, k' - ind.size - 1 = m + 1 := ⟨k' - ind.size - 2, by omega⟩
      rw [hk2, laws_prBlank.l0, if_neg (by show ¬ (1 : Int) + 1 < 2; decide)]
      exact ⟨true, rfl, fun _ => ⟨h1, h3⟩⟩

/-- What PrettyOptions makes of a flat array. -/
theorem flat_pretty {s : ByteArray} (hs : s.size ≤ 4096) {i j p wd : Int} {V0 : H_spec_reader_value} {ks : List S25} (hi : Blanks s 0 i) (his : i < s.size) (hb : bt s i = 91) (hg : Blanks s (i + 1) p) (h : Kids V0 s ks p j) (hka : ∀ p ∈ ks, KA s p) (hps : p < s.size)
    {pre ind : ByteArray} (hw0 : 0 ≤ wd) (hw1 : wd ≤ 1073741824) (hpre : pre.size ≤ 64) (hind : ind.size ≤ 64) :
    prettyF4 s wd pre ind false = some (strOfNums (bytesOf pre ++ (if wd - pre.size > 3 ∧ ((oneL (bytesOf s) ks).length : Int) ≤ wd - pre.size then oneL (bytesOf s) ks else linesL (bytesOf s) pre ind ks) ++ [10])) := by
  have hl : (bytesOf s).length = s.size := bytesOf_length s
  obtain ⟨r, hr, _⟩ := popts_tot (bytesOf s) wd pre ind ⟨by omega, hpre, hind⟩
  have hr0 := hr
  unfold popts at hr
  rw [if_pos (by omega)] at hr
  obtain ⟨⟨r1, r2, r3, r4⟩, h1, hr⟩ := Option.bind_eq_some_iff.mp hr
  dsimp only at hr
  obtain ⟨hr1, hr⟩ := ite_some hr
  simp only [Option.some.injEq] at hr
  have h1' : pAny.l0 (pObj.at_ 19999) 200000 (bytesOf pre) (bytesOf s) 0 true wd pre ind 0 0 (-1) = some (r1, r2, r3, r4) := h1
  obtain ⟨k, h2⟩ := any_gap (by omega) (by omega) (by omega) hi.gap i.toNat 0 (by omega) (by have := hi.1; omega) h1'
  obtain ⟨k', h3⟩ := any_arr hi.1 (by omega) (by rw [rd_bytesOf]; exact hb) h2
  have h4 := flat_obj (by omega) hi.1 hb hg h hka hps hw0 hw1 hpre h3
  dsimp only at h4
  have hpos : 0 < r1.length := by
    rw [h4]
    split <;> simp [oneL, linesL] <;> omega
  rw [if_pos hpos] at hr
  unfold prettyF4
  rw [if_pos ⟨rfl, by omega⟩, hr0, ← hr, h4]
  rfl

theorem law4_pure (s : ByteArray) (wd : Int) (pre ind : ByteArray) (srt : Bool) : ∃ k, laws_FnPrWidthRoot.f VPl4 VPr4 VLd k s wd pre ind srt = some true := by
  have j0t : ∀ (k : Nat), laws_FnPrWidthRoot.j0 VPl4 VPr4 VLd (k + 1) s true wd pre ind srt = some true := fun k => by rw [laws_FnPrWidthRoot.j0, if_pos rfl]
  have j1t : ∀ (k : Nat) (a b c : Int) (d : List S53) (e : List S25), laws_FnPrWidthRoot.j1 VPl4 VPr4 VLd (k + 1) s true wd pre ind srt a b c d e = some true := fun k a b c d e => by rw [laws_FnPrWidthRoot.j1, if_pos rfl]
  by_cases hb : (s.size : Int) > 2147483647
  · exact ⟨1, by unfold laws_FnPrWidthRoot.f; rw [if_pos hb]; exact j0t 0⟩
  · by_cases hz : (pre.size : Int) > 2147483647 ∨ (ind.size : Int) > 2147483647
    · refine ⟨1, ?_⟩
      unfold laws_FnPrWidthRoot.f laws_zzFits7.f
      rw [if_neg hb]
      rcases hz with hz | hz
      · rw [if_pos hz, Option.bind_some]; exact j0t 0
      · by_cases hz1 : (pre.size : Int) > 2147483647
        · rw [if_pos hz1, Option.bind_some]; exact j0t 0
        · rw [if_neg hz1, if_pos hz, Option.bind_some]; exact j0t 0
    · have hz7 : laws_zzFits7.f wd pre ind srt = some true := by unfold laws_zzFits7.f; rw [if_neg (by omega), if_neg (by omega)]
      obtain ⟨r1, r2, r3, r4, r5, r6, hp, _⟩ := prPlacesF_tot s
      have hp' : ∀ k, VPl4.f k s = some (r1, r2, r3, r4, r5, r6) := fun _ => hp
      -- to j0, with fuel to come
      have start : ∀ k, laws_FnPrWidthRoot.f VPl4 VPr4 VLd (k + 1) s wd pre ind srt = (if r6 = true then ((laws_prFlatArray.f k r1 r2 r3 r4 r5).bind fun t711 => (if t711 = true then ((laws_prBlank.f k wd pre ind srt).bind fun t712 => (if t712 = true then (if srt = true then (laws_FnPrWidthRoot.j1 VPl4 VPr4 VLd k s true wd pre ind srt r1 r2 r3 r4 r5) else (if wd > 1073741824 then (laws_FnPrWidthRoot.j1 VPl4 VPr4 VLd k s true wd pre ind srt r1 r2 r3 r4 r5) else (laws_FnPrWidthRoot.j1 VPl4 VPr4 VLd k s (decide (wd < 0)) wd pre ind srt r1 r2 r3 r4 r5))) else (laws_FnPrWidthRoot.j1 VPl4 VPr4 VLd k s true wd pre ind srt r1 r2 r3 r4 r5))) else (laws_FnPrWidthRoot.j1 VPl4 VPr4 VLd k s true wd pre ind srt r1 r2 r3 r4 r5))) else (laws_FnPrWidthRoot.j1 VPl4 VPr4 VLd k s true wd pre ind srt r1 r2 r3 r4 r5)) := by
        intro k
        unfold laws_FnPrWidthRoot.f
        rw [if_neg hb, hz7, Option.bind_some, Bool.not_true, laws_FnPrWidthRoot.j0, if_neg (by decide), hp', Option.bind_some]
      cases r6 with
      | false => exact ⟨2, by rw [start, if_neg (by decide)]; exact j1t 0 _ _ _ _ _⟩
      | true =>
        unfold prPlacesF at hp
        by_cases hs : s.size ≤ 4096
        case neg => rw [if_neg hs] at hp; simp at hp
        rw [if_pos hs] at hp
        have hn : Small s := by unfold Small; omega
        obtain ⟨i, hi, hv, hj⟩ := places_inv4 hn hp
        obtain ⟨_, _, rfl, hij, hjs, hok⟩ := value_known hn 2099999 _ i r1 r2 r3 r4 r5 s r3 hi.1 hi.2.1 hv
        have hi0 := hi.1
        -- the number of kids
        have hcn : ∀ {V0 : H_spec_reader_value} {ks : List S25} {i j : Int}, Chain V0 s ks i j → (ks.length : Int) ≤ j - i := by
          intro V0 ks i j h
          induction h with
          | nil i j h => simp; omega
          | cons p ks i j h1 h2 h3 h4 ih => rw [List.length_cons]; omega
        have hkn : r5.length ≤ 4096 := by
          rcases hok with ⟨_, g⟩ | ⟨_, _, ⟨rfl, _⟩ | ⟨p, g1, g2⟩⟩ | ⟨_, rfl, g⟩ | ⟨_, rfl, g⟩ | ⟨_, _, rfl, g⟩
          · have := hcn g; omega
          · simp
          · have := hcn g2.chain; have := g1.1; omega
          · simp
          · simp
          · simp
        obtain ⟨fb, hfb⟩ : ∃ fb, ∀ k, r5.length + 2 ≤ k → laws_prFlatArray.f k r1 r2 r3 r4 r5 = some fb ∧ (fb = true → r1 = 5 ∧ r5 ≠ [] ∧ ∀ z ∈ r5, z.f0 < 5) := by
          obtain ⟨fb, e1, e2⟩ := flat_t r1 r2 r3 r4 r5 (by omega) r5.length (r5.length + 2) 0 (by omega) (by omega) (by omega)
          refine ⟨fb, fun k hk => ?_⟩
          obtain ⟨fb', e3, e4⟩ := flat_t r1 r2 r3 r4 r5 (by omega) r5.length k 0 (by omega) (by omega) (by omega)
          have hm : ∀ d, laws_prFlatArray.f (r5.length + 2 + d) r1 r2 r3 r4 r5 = some fb := by
            intro d
            induction d with
            | zero => exact e1
            | succ d ih => exact laws_prFlatArray.mono r1 r2 r3 r4 r5 (r5.length + 2 + d) fb ih
          have h1 := hm (k - (r5.length + 2))
          rw [show r5.length + 2 + (k - (r5.length + 2)) = k by omega] at h1
          refine ⟨h1, fun h => ?_⟩
          obtain ⟨g1, g2, g3⟩ := e2 h
          exact ⟨g1, g2, by rw [List.drop_zero] at g3; exact g3⟩
        cases fb with
        | false =>
          refine ⟨5001, ?_⟩
          rw [start, if_pos rfl, (hfb 5000 (by omega)).1, Option.bind_some, if_neg (by decide)]
          exact j1t 4999 _ _ _ _ _
        | true =>
          obtain ⟨h5, hne, hall⟩ := (hfb 5000 (by omega)).2 rfl
          obtain ⟨bb, hbb, hsz⟩ := blank_t wd pre ind srt (by omega) (by omega) (pre.size + ind.size + 20000) (by omega)
          have hstart2 : laws_FnPrWidthRoot.f VPl4 VPr4 VLd (pre.size + ind.size + 20000 + 1) s wd pre ind srt = (if bb = true then (if srt = true then (laws_FnPrWidthRoot.j1 VPl4 VPr4 VLd (pre.size + ind.size + 20000) s true wd pre ind srt r1 r2 r3 r4 r5) else (if wd > 1073741824 then (laws_FnPrWidthRoot.j1 VPl4 VPr4 VLd (pre.size + ind.size + 20000) s true wd pre ind srt r1 r2 r3 r4 r5) else (laws_FnPrWidthRoot.j1 VPl4 VPr4 VLd (pre.size + ind.size + 20000) s (decide (wd < 0)) wd pre ind srt r1 r2 r3 r4 r5))) else (laws_FnPrWidthRoot.j1 VPl4 VPr4 VLd (pre.size + ind.size + 20000) s true wd pre ind srt r1 r2 r3 r4 r5)) := by
            rw [start, if_pos rfl, (hfb _ (by omega)).1, Option.bind_some, if_pos rfl, hbb, Option.bind_some]
          refine ⟨_, hstart2.trans ?_⟩
          have j1t' := j1t (pre.size + ind.size + 19999) r1 r2 r3 r4 r5
          cases bb with
          | false => rw [if_neg (by decide)]; exact j1t'
          | true =>
            obtain ⟨hpre, hind⟩ := hsz rfl
            rw [if_pos rfl]
            cases srt with
            | true => rw [if_pos rfl]; exact j1t'
            | false =>
              rw [if_neg (by decide)]
              by_cases hw1 : wd > 1073741824
              · rw [if_pos hw1]; exact j1t'
              · rw [if_neg hw1]
                by_cases hw0 : wd < 0
                · rw [decide_eq_true hw0]; exact j1t'
                · rw [decide_eq_false hw0]
                  subst h5
                  rcases hok with ⟨g, _⟩ | ⟨_, hb91, ⟨g, _⟩ | ⟨p, g1, g2⟩⟩ | ⟨g, _⟩ | ⟨g, _⟩ | ⟨_, g, _⟩
                  · omega
                  · exact absurd g hne
                  · -- the flat array
                    have hpl : ∀ {V0 : H_spec_reader_value} {ks : List S25} {i j : Int}, Kids V0 s ks i j → ∀ q ∈ ks, VR V0 s q ∧ q.f1 ≤ s.size := by
                      intro V0 ks i j h
                      induction h with
                      | last p i r h1 h2 h3 h4 h5 h6 => intro q hq; rw [List.mem_singleton.1 hq]; exact ⟨h1, by have := h4.1; omega⟩
                      | more p i r t j ks h1 h2 h3 h4 h5 h6 h7 h8 ih =>
                        intro q hq
                        rcases List.mem_cons.1 hq with rfl | hq
                        · exact ⟨h1, by have := h4.1; omega⟩
                        · exact ih q hq
                    have hka : ∀ q ∈ r5, KA s q := fun q hq => by
                      obtain ⟨a1, a2⟩ := hpl g2 q hq
                      exact ka_of hn _ a1 a2 (hall q hq)
                    have hps : p < s.size := by
                      cases g2 with
                      | last p i r h1 h2 h3 h4 h5 h6 => have := h4.1; omega
                      | more p i r t j ks h1 h2 h3 h4 h5 h6 h7 h8 => have := h4.1; omega
                    have hgp := g1.1
                    have hpr := flat_pretty hs hi (by omega) hb91 g1 g2 hka hps (by omega : 0 ≤ wd) (by omega) hpre hind
                    rw [show pre.size + ind.size + 20000 = (pre.size + ind.size + 19998) + 1 + 1 by omega, laws_FnPrWidthRoot.j1, if_neg (by decide), VLd_f, laid_one hs hne hka hkn (by omega), Option.bind_some, w64p (x := wd - (pre.size : Int)) (by omega) (by omega)]
                    have hol := (body_le hs r5 hka).2
                    have hone : (oneL (bytesOf s) r5).length = (bodyA (bytesOf s) r5).length + 2 := by unfold oneL; simp <;> omega
                    have hsize : ((strOfNums (oneL (bytesOf s) r5 ++ [10])).size : Int) - 1 = ((oneL (bytesOf s) r5).length : Int) := by rw [strOfNums_size, List.length_append]; simp
                    have yes : wd - (pre.size : Int) > 3 ∧ ((oneL (bytesOf s) r5).length : Int) ≤ wd - (pre.size : Int) → laws_FnPrWidthRoot.j2 VPl4 VPr4 VLd (pre.size + ind.size + 19998 + 1) s (strOfNums (oneL (bytesOf s) r5 ++ [10])) true wd pre ind false 5 r2 r3 r4 r5 = some true := by
                      intro hc
                      rw [if_pos hc] at hpr
                      rw [laws_FnPrWidthRoot.j2, if_pos rfl, VPr4_f, hpr, Option.bind_some, if_pos (by rw [strOfNums_size, List.length_append]; simp; omega), List.append_assoc, str_app (bytesOf pre), str_bytesOf]
                      simp
                    have no : ¬ (wd - (pre.size : Int) > 3 ∧ ((oneL (bytesOf s) r5).length : Int) ≤ wd - (pre.size : Int)) → laws_FnPrWidthRoot.j2 VPl4 VPr4 VLd (pre.size + ind.size + 19998 + 1) s (strOfNums (oneL (bytesOf s) r5 ++ [10])) false wd pre ind false 5 r2 r3 r4 r5 = some true := by
                      intro hc
                      rw [if_neg hc] at hpr
                      rw [laws_FnPrWidthRoot.j2, if_neg (by decide), VPr4_f, hpr, Option.bind_some, VLd_f, laid_lines hs hne hka hkn hpre hind (by omega), Option.bind_some]
                      simp
                    by_cases hr3 : wd - (pre.size : Int) > 3
                    · rw [if_pos hr3, w64p (x := ((strOfNums (oneL (bytesOf s) r5 ++ [10])).size : Int) - 1) (by omega) (by omega), hsize]
                      by_cases hle : ((oneL (bytesOf s) r5).length : Int) ≤ wd - (pre.size : Int)
                      · rw [decide_eq_true hle]; exact yes ⟨hr3, hle⟩
                      · rw [decide_eq_false hle]; exact no (fun h => hle h.2)
                    · rw [if_neg hr3]; exact no (fun h => hr3 h.1)
                  · omega
                  · omega
                  · omega

theorem law4_all (s : ByteArray) (wd : Int) (pre ind : ByteArray) (srt : Bool) (w : World) : Calls Try.prog 4 #[.string s, .agg #[.int .i64 wd, .string pre, .string ind, .bool srt]] w fun e w' => e = .returned (.bool true) ∧ Below w.heap.size w w' := by
  obtain ⟨k, h⟩ := law4_pure s wd pre ind srt
  exact laws_FnPrWidthRoot.calls VPl4 VPr4 VLd k s wd pre ind srt true w h
end Go.Proofs.Ytkbeiidjagodnaa.Pr

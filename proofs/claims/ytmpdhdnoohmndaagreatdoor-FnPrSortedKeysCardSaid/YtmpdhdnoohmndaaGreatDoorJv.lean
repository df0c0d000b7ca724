import Derived.Test.YtmpdhdnoohmndaaGreatDoorTxt
import Derived.Test.YtmpdhdnoohmndaaGreatDoorPg0
namespace Go.Proofs.YtmpdhdnoohmndaaGreatDoor.Pr
open Go.RowKit Go.Proofs.YtmpdhdnoohmndaaGreatDoorW.PrintWords Go.Proofs.YtmpdhdnoohmndaaGreatDoorW.PrintLast Go.Proofs.YtmpdhdnoohmndaaGreatDoorW.PrintMore Sp Gj
set_option linter.unusedVariables false
theorem inner_plain_l {t : au} (hno : ∀ q : Int, 0 ≤ q → q < t.size → bt t q ≠ 92) {i : Int} {o : List Int} (h : Inner t i o) : i + o.length = t.size ∧ ∀ q : Nat, q < o.length → o.getD q 0 = bt t (i + q) := by
 induction h with
 | done => exact ⟨by simp, fun q hq => by simp at hq⟩
 | plain i o h0 h1 h2 h3 h4 h5 ih =>
  refine ⟨by have := ih.1; simp only [List.length_cons]; omega, fun q hq => ?_⟩
  cases q with
  | zero => simp
  | succ q =>
   have := ih.2 q (by simp only [List.length_cons] at hq; omega)
   rw [List.getD_cons_succ, this]
   congr 1
   omega
 | esc i o h0 h1 h2 h3 h4 ih => exact absurd h2 (hno i h0 (by omega))
 | uni i o h0 h1 h2 h3 h4 ih => exact absurd h1.2.1 (hno i h0 (by have := h1.1; omega))
 | pair i o h0 h1 h2 h3 h4 h5 ih => exact absurd h1.2.1 (hno i h0 (by have := h1.1; omega))
inductive UqT : S25 → Prop
 | mk (t : S25) : (∀ x y, x < t.f2.length → y < t.f2.length → x ≠ y → t.f2.getD x ⟨#[]⟩ ≠ t.f2.getD y ⟨#[]⟩) → (∀ k ∈ t.f3, UqT k) → UqT t
def nmL (s : au) (x : S93) : List Int := ((bytesOf s).take (x.f1.toNat - 1)).drop (x.f0.toNat + 1)
section
variable {s : au}
theorem jl_at (q : Nat) : (bytesOf s).getD q 0 = at_ s q := by
 show _ = bt s (q : Int)
 rw [← rd_bytesOf]
 rfl
theorem jl_bt {q : Int} (h : 0 ≤ q) : (bytesOf s).getD q.toNat 0 = bt s q := by
 rw [jl_at]; unfold at_; congr 1; omega
theorem blk_of {i j : Int} (h0 : 0 ≤ i) (h : Blanks s i j) : SkB (bytesOf s) i.toNat j.toNat := by
 obtain ⟨h1, h2, h3⟩ := h
 refine ⟨by omega, by rw [bytesOf_length]; omega, fun q a b => ?_⟩
 have := h3 q (by omega) (by omega)
 rw [jl_at]; unfold at_; unfold isBlank at this; omega
theorem SkB.skr {jl : List Int} {i b : Nat} (h : SkB jl i b) : SkR jl i b := ⟨h.1, h.2.1, fun q a c => .inl (h.2.2 q a c)⟩
theorem SkR.trans {jl : List Int} {i b c : Nat} (h : SkR jl i b) (k : SkR jl b c) : SkR jl i c :=
 ⟨Nat.le_trans h.1 k.1, k.2.1, fun q a d => by by_cases e : q < b; exact h.2.2 q a e; exact k.2.2 q (by omega) d⟩
theorem SkR.one {jl : List Int} {i : Nat} (h : i < jl.length) (hc : Sep (jl.getD i 0)) : SkR jl i (i + 1) := ⟨by omega, by omega, fun q a b => by obtain rfl : q = i := (by omega); exact hc⟩
theorem skr_of {i r t c : Int} (h0 : 0 ≤ i) (h : Blanks s i r) (hr : r < s.size) (hc : bt s r = c) (hs : Sep c) (h' : Blanks s (r + 1) t) : SkR (bytesOf s) i.toNat t.toNat := by
 have h1 := h.1
 refine (blk_of h0 h).skr.trans (SkR.trans (SkR.one (by rw [bytesOf_length]; omega) (by rw [jl_bt (by omega), hc]; exact hs)) ?_)
 have := (blk_of (by omega) h').skr
 rwa [show (r + 1).toNat = r.toNat + 1 by omega] at this
theorem stop_of {e r c : Int} (h : Blanks s e r) (hc : bt s r = c) (hs : Stop c) : e < s.size → Stop (bt s e) := fun _ => by
 have h1 := h.1
 by_cases c0 : e = r
 ·rw [c0, hc]; exact hs
 ·have := h.2.2 e (Int.le_refl _) (by omega)
  unfold isBlank at this
  unfold Stop
  omega
section
variable {V : aG} {W : Nat → Nat → Prop}
theorem je_of {ks : List S31} {i j : Int} (h : Sp.Kids V s ks i j) : (∀ p ∈ ks, (p.f2 < s.size → Stop (bt s p.f2)) → W p.f1.toNat p.f2.toNat) → 0 ≤ i → ∀ a, SkR (bytesOf s) a i.toNat → JE (bytesOf s) W a (j - 1).toNat ∧ bt s (j - 1) = 93 ∧ j - 1 < s.size ∧ i < j := by
 induction h with
 | last p i r h1 h2 h3 h4 h5 h6 =>
  intro hw hi a ha
  subst h2
  have h41 := h4.1
  refine ⟨?_, by rw [show r + 1 - 1 = r by omega]; exact h6, by omega, by omega⟩
  rw [show (r + 1 - 1).toNat = r.toNat by omega]
  exact .cons a p.f1.toNat p.f2.toNat _ ha (hw p (List.mem_singleton.2 rfl) (stop_of h4 h6 (by unfold Stop; omega))) (by omega) (.nil _ _ (blk_of (by omega) h4))
 | more p i r t j ks h1 h2 h3 h4 h5 h6 h7 h8 ih =>
  intro hw hi a ha
  subst h2
  have h41 := h4.1
  have h71 := h7.1
  obtain ⟨a1, a2, a3, a4⟩ := ih (fun q hq => hw q (List.mem_cons_of_mem _ hq)) (by omega) p.f2.toNat (skr_of (by omega) h4 h5 h6 (by unfold Sep; omega) h7)
  exact ⟨.cons a p.f1.toNat p.f2.toNat _ ha (hw p List.mem_cons_self (stop_of h4 h6 (by unfold Stop; omega))) (by omega) a1, a2, a3, by omega⟩
end
variable (hno : ∀ q : Int, 0 ≤ q → q < s.size → bt s q ≠ 92)
include hno
theorem body_no {a e : Int} (h : Body (bytesOf s) a e) : 0 ≤ a → e ≤ s.size → ∀ r, a ≤ r → r < e → bt s r ≠ 34 := by
 induction h with
 | done i h => intro _ _ r h1 h2; omega
 | plain i e h1 h2 h3 h4 ih =>
  intro a1 a2 r b1 b2
  by_cases c : r = i
  ·subst c; rw [rd_bytesOf] at h2; exact h2
  ·exact ih (by omega) a2 r (by omega) b2
 | esc i e h1 h2 h3 ih =>
  intro a1 a2 r b1 b2
  have := h3.le
  rw [rd_bytesOf] at h1
  exact absurd h1 (hno i a1 (by omega))
 | uni i e h1 h2 h3 h4 ih =>
  intro a1 a2 r b1 b2
  have := h4.le
  rw [rd_bytesOf] at h1
  exact absurd h1 (hno i a1 (by omega))
theorem str_of {i j : Int} (h0 : 0 ≤ i) (h : StrSeg (bytesOf s) i j) : JStr (bytesOf s) i.toNat j.toNat := by
 obtain ⟨h1, h2, h3, h4, h5, h6⟩ := h
 have hl := bytesOf_length s
 have hb := body_no hno h6 (by omega) (by omega)
 refine ⟨(j - 1).toNat, by omega, by omega, by omega, ?_, fun r a b => ?_, ?_⟩
 ·rw [jl_bt h0, ← rd_bytesOf]; exact h1
 ·rw [jl_at]
  exact ⟨⟨hb r (by omega) (by omega), hno r (by omega) (by omega)⟩, bt_range s r⟩
 ·rw [jl_bt (by omega), ← rd_bytesOf]; exact h4.1
theorem unq_nm (hn : Small s) {x : S93} (h : NmOK s x) : unqO s x.f0 x.f1 = strOfNums (nmL s x) := by
 obtain ⟨h0, h1, h2, h3, h4, h5, hp⟩ := h
 obtain ⟨o, hI, _, k, hu⟩ := seg_unq hn h0 h4 hp
 rw [unqO_eq hu]
 have hlt := h4.2.1
 obtain ⟨e1, e2⟩ := inner_plain_l (t := s.extract (x.f0.toNat + 1) (x.f1.toNat - 1)) (fun q a b => by
  rw [ByteArray.size_extract] at b
  have := hno ((x.f0.toNat + 1 : Nat) + q) (by omega) (by omega)
  rwa [bt_ext a (by omega) (by omega)]) hI
 rw [ByteArray.size_extract] at e1
 have hl : (nmL s x).length = x.f1.toNat - 1 - (x.f0.toNat + 1) := by unfold nmL; rw [List.length_drop, List.length_take, bytesOf_length]; omega
 congr 1
 apply List.ext_getElem
 ·omega
 ·intro q g1 g2
  have := e2 q g1
  rw [bt_ext (by omega) (by omega) (by omega)] at this
  rw [List.getD_eq_getElem?_getD, List.getElem?_eq_getElem g1] at this
  simp only [Option.getD_some] at this
  rw [this]
  have h9 : (nmL s x).getD q 0 = (bytesOf s).getD (x.f0.toNat + 1 + q) 0 := by
   unfold nmL
   simp only [List.getD_eq_getElem?_getD, List.getElem?_drop, List.getElem?_take]
   rw [if_pos (by omega)]
  rw [jl_at, List.getD_eq_getElem?_getD, List.getElem?_eq_getElem g2] at h9
  simp only [Option.getD_some] at h9
  rw [h9]
  unfold at_
  congr 1
  omega
section
variable {V : aG} {W : Nat → Nat → Prop}
theorem jm_of {ns : List S93} {ks : List S31} {i j : Int} (h : Sp.Mems V s ns ks i j) : (∀ p ∈ ks, (p.f2 < s.size → Stop (bt s p.f2)) → W p.f1.toNat p.f2.toNat) → 0 ≤ i → ∀ a, SkR (bytesOf s) a i.toNat → JM (bytesOf s) W a (j - 1).toNat (ns.map (nmL s)) ∧ bt s (j - 1) = 125 ∧ j - 1 < s.size ∧ i < j := by
 induction h with
 | last nm p i c r h1 h2 h3 h4 h5 h6 h7 h8 h9 h10 h11 =>
  intro hw hi a ha
  subst h1
  have b2 := h2.2.1
  have b3 := h3.1
  have b6 := h6.1
  have b9 := h9.1
  refine ⟨?_, by rw [show r + 1 - 1 = r by omega]; exact h11, by omega, by omega⟩
  rw [show (r + 1 - 1).toNat = r.toNat by omega]
  exact .cons a nm.f0.toNat nm.f1.toNat p.f1.toNat p.f2.toNat _ [] ha (str_of hno hi h2) (skr_of (by omega) h3 h4 h5 (by unfold Sep; omega) h6) (hw p (List.mem_singleton.2 rfl) (stop_of h9 h11 (by unfold Stop; omega))) (by omega) (.nil _ _ (blk_of (by omega) h9).skr)
 | more nm p i c r t j ns ks h1 h2 h3 h4 h5 h6 h7 h8 h9 h10 h11 h12 h13 ih =>
  intro hw hi a ha
  subst h1
  have b2 := h2.2.1
  have b3 := h3.1
  have b6 := h6.1
  have b9 := h9.1
  have b12 := h12.1
  obtain ⟨a1, a2, a3, a4⟩ := ih (fun q hq => hw q (List.mem_cons_of_mem _ hq)) (by omega) p.f2.toNat (skr_of (by omega) h9 h10 h11 (by unfold Sep; omega) h12)
  exact ⟨.cons a nm.f0.toNat nm.f1.toNat p.f1.toNat p.f2.toNat _ _ ha (str_of hno hi h2) (skr_of (by omega) h3 h4 h5 (by unfold Sep; omega) h6) (hw p List.mem_cons_self (stop_of h9 h11 (by unfold Stop; omega))) (by omega) a1, a2, a3, by omega⟩
end
end
end Go.Proofs.YtmpdhdnoohmndaaGreatDoor.Pr
namespace Go.Proofs.YtmpdhdnoohmndaaGreatDoor.Pr
open Go.RowKit Go.Proofs.YtmpdhdnoohmndaaGreatDoorW.PrintWords Go.Proofs.YtmpdhdnoohmndaaGreatDoorW.PrintLast Go.Proofs.YtmpdhdnoohmndaaGreatDoorW.PrintMore Sp Gj
set_option linter.unusedVariables false
theorem obj_of {s : au} (hno : ∀ q : Int, 0 ≤ q → q < s.size → bt s q ≠ 92) {V : aG} {W : Nat → Nat → Prop} {ns : List S93} {ks : List S31} {i j : Int} (h0 : 0 ≤ i) (hi : i < s.size) (hc : bt s i = 123) (h : MemsAt V s i j ns ks) (hw : ∀ p ∈ ks, (p.f2 < s.size → Stop (bt s p.f2)) → W p.f1.toNat p.f2.toNat) (hD : Diff (ns.map (nmL s))) :
  ∃ k, i.toNat < k ∧ k < (bytesOf s).length ∧ j.toNat = k + 1 ∧ (bytesOf s).getD i.toNat 0 = 123 ∧ JM (bytesOf s) W (i.toNat + 1) k (ns.map (nmL s)) ∧ (bytesOf s).getD k 0 = 125 := by
 have hl := bytesOf_length s
 have hb := jl_bt (s := s) h0
 rcases h with ⟨rfl, rfl, p, h1, h2, h3, rfl⟩ | ⟨p, h1, h2⟩
 ·have h11 := h1.1
  refine ⟨p.toNat, by omega, by omega, by omega, by rw [hb]; exact hc, ?_, by rw [jl_bt (by omega)]; exact h3⟩
  have := (blk_of (by omega) h1).skr
  rw [show (i + 1).toNat = i.toNat + 1 by omega] at this
  exact .nil _ _ this
 ·have h11 := h1.1
  have hb1 := (blk_of (by omega) h1).skr
  rw [show (i + 1).toNat = i.toNat + 1 by omega] at hb1
  obtain ⟨a1, a2, a3, a4⟩ := jm_of (W := W) hno h2 hw (by omega) _ hb1
  exact ⟨(j - 1).toNat, by omega, by omega, by omega, by rw [hb]; exact hc, a1, by rw [jl_bt (by omega)]; exact a2⟩
section
variable {s : au} (hn : Small s) (hs : s.size ≤ 65536) (hno : ∀ q : Int, 0 ≤ q → q < s.size → bt s q ≠ 92)
include hn hno
theorem diff_of {ns : List S93} (hN : ∀ x ∈ ns, NmOK s x) (hu : ∀ x y, x < ns.length → y < ns.length → x ≠ y → (ns.map (fun x => unqO s x.f0 x.f1)).getD x ⟨#[]⟩ ≠ (ns.map (fun x => unqO s x.f0 x.f1)).getD y ⟨#[]⟩) : Diff (ns.map (nmL s)) := by
 intro x y hx hy hxy e
 rw [List.length_map] at hx hy
 have key : ∀ z (hz : z < ns.length), (ns.map (fun x => unqO s x.f0 x.f1)).getD z ⟨#[]⟩ = strOfNums ((ns.map (nmL s)).getD z []) := fun z hz => by
  rw [List.getD_eq_getElem?_getD, List.getD_eq_getElem?_getD, List.getElem?_map, List.getElem?_map, List.getElem?_eq_getElem hz]
  exact unq_nm hno hn (hN _ (List.getElem_mem hz))
 refine hu x y hx hy hxy ?_
 rw [key x hx, key y hy]
 apply ByteArray.ext
 apply Array.toList_inj.1
 simpa [Go.Lib.toList_data] using e
include hs
theorem jv_of : ∀ (D : Nat) (p : S31), VR (aH.at_ D) s p → PairedAt s p.f1 → p.f1 < p.f2 → p.f2 ≤ s.size → (p.f2 < s.size → Stop (bt s p.f2)) → UqT (treeO s p) → ∀ E, D ≤ E → JV (bytesOf s) E p.f1.toNat p.f2.toNat := by
 intro D
 induction D using Nat.strongRecOn with
 | _ D ih =>
 intro p hVR hp hlt hle hst hu E hE
 obtain ⟨hI, _⟩ := tree_tot hn hs D p hVR hp hlt hle
 obtain ⟨h0, k, h⟩ := hVR
 cases D with
 | zero => cases h
 | succ D =>
  obtain ⟨E, rfl⟩ : ∃ E', E = E' + 1 := ⟨E - 1, by omega⟩
  have hl := bytesOf_length s
  obtain ⟨_, _, _, g1, g2, g3⟩ := value_known hn D k p.f1 p.f0 p.f1 p.f2 p.f3 p.f4 s p.f2 h0 (by omega) h
  obtain ⟨e1, e2, e3, e4, e5, e6⟩ := valo_each hn (value_lex hn (D - 1)) g3 h0 (by omega) g2 hp
  obtain ⟨hu1, hu2⟩ : (∀ x y, x < (treeO s p).f2.length → y < (treeO s p).f2.length → x ≠ y → (treeO s p).f2.getD x ⟨#[]⟩ ≠ (treeO s p).f2.getD y ⟨#[]⟩) ∧ (∀ k ∈ (treeO s p).f3, UqT k) := by
   generalize treeO s p = t at hu
   cases hu with
   | mk _ a b => exact ⟨a, b⟩
  rw [hI.f3] at hu2
  rw [hI.f2] at hu1
  have hw : ∀ q ∈ p.f4, (q.f2 < s.size → Stop (bt s q.f2)) → JV (bytesOf s) E q.f1.toNat q.f2.toNat := fun q hq eT => by
   obtain ⟨a1, a2, a3, a4, _⟩ := e1 q hq
   exact ih (D - 1) (by omega) q a1 a2 a3 a4 eT (hu2 _ (List.mem_map.2 ⟨q, hq, rfl⟩)) E (by omega)
  show JStr _ _ _ ∨ JNum _ _ _ ∨ JWord _ _ _ ∨ ∃ o, JC _ _ o _ _
  rcases g3 with ⟨_, hc, hm⟩ | ⟨_, hns, hc, hm⟩ | ⟨_, _, _, hS⟩ | ⟨_, _, _, hd, hN⟩ | ⟨_, _, hij, hwd⟩
  ·obtain ⟨k', b1, b2, b3, b4, b5, b6⟩ := obj_of hno h0 (by omega) hc hm hw (diff_of hn hno e2 (by simpa using hu1))
   exact .inr (.inr (.inr ⟨123, k', b1, b2, b3, b4, .inr ⟨rfl, ⟨_, b5, diff_of hn hno e2 (by simpa using hu1)⟩, b6⟩⟩))
  ·refine .inr (.inr (.inr ⟨91, (p.f2 - 1).toNat, ?_⟩))
   rcases hm with ⟨hks, q, h1, h2, h3, h4⟩ | ⟨q, h1, h2⟩
   ·have h11 := h1.1
    have := blk_of (by omega) h1
    rw [show (p.f1 + 1).toNat = p.f1.toNat + 1 by omega, show q = p.f2 - 1 by omega] at this
    exact ⟨by omega, by omega, by omega, by rw [jl_bt h0]; exact hc, .inl ⟨rfl, .nil _ _ this, by rw [jl_bt (by omega), show p.f2 - 1 = q by omega]; exact h3⟩⟩
   ·have h11 := h1.1
    have hb1 := (blk_of (by omega) h1).skr
    rw [show (p.f1 + 1).toNat = p.f1.toNat + 1 by omega] at hb1
    obtain ⟨a1, a2, a3, a4⟩ := je_of (W := JV (bytesOf s) E) h2 hw (by omega) _ hb1
    exact ⟨by omega, by omega, by omega, by rw [jl_bt h0]; exact hc, .inl ⟨rfl, a1, by rw [jl_bt (by omega)]; exact a2⟩⟩
  ·exact .inl (str_of hno h0 hS)
  ·refine .inr (.inl ⟨by omega, by omega, by rw [jl_bt h0]; exact hd, fun r a b => ?_, fun hlt2 => ?_⟩)
   ·rw [jl_at]
    exact hN.2.2 r (by omega) (by omega)
   ·rw [jl_bt (by omega)]
    exact hst (by omega)
  ·refine .inr (.inr (.inl ?_))
   have key : ∀ l : List Int, seg (bytesOf s) p.f1 p.f2 = l → p.f2.toNat = p.f1.toNat + l.length ∧ p.f2.toNat ≤ (bytesOf s).length ∧ ((bytesOf s).take p.f2.toNat).drop p.f1.toNat = l := fun l e => by
    have := seg_size e h0 (by omega) (by omega)
    exact ⟨by omega, by omega, e⟩
   rcases hwd with ⟨_, e⟩ | ⟨_, e⟩ | ⟨_, e⟩
   ·exact .inr (.inr (key _ e))
   ·exact .inr (.inl (key _ e))
   ·exact .inl (key _ e)
end
theorem fit_of {s : au} (hn : Small s) (hs : s.size ≤ 65536) : ∀ (D : Nat) (p : S31), VR (aH.at_ D) s p → PairedAt s p.f1 → p.f1 < p.f2 → p.f2 ≤ s.size → ∀ Q : S25 → Prop, (∀ t : S25, t.f2.length ≤ 65536 → t.f3.length ≤ 65536 → (∀ q ∈ t.f3, Q q) → Q t) → Q (treeO s p) := by
 intro D
 induction D using Nat.strongRecOn with
 | _ D ih =>
 intro p hVR hp hlt hle Q hQ
 obtain ⟨hI, _⟩ := tree_tot hn hs D p hVR hp hlt hle
 obtain ⟨h0, k, h⟩ := hVR
 cases D with
 | zero => cases h
 | succ D =>
  obtain ⟨_, _, _, g1, g2, g3⟩ := value_known hn D k p.f1 p.f0 p.f1 p.f2 p.f3 p.f4 s p.f2 h0 (by omega) h
  obtain ⟨e1, e2, e3, e4, _⟩ := valo_each hn (value_lex hn (D - 1)) g3 h0 (by omega) g2 hp
  refine hQ _ (by rw [hI.f2, List.length_map]; omega) (by rw [hI.f3, List.length_map]; omega) fun q hq => ?_
  rw [hI.f3] at hq
  obtain ⟨q', hq', rfl⟩ := List.mem_map.1 hq
  obtain ⟨a1, a2, a3, a4, _⟩ := e1 q' hq'
  exact ih (D - 1) (by omega) q' a1 a2 a3 a4 Q hQ
end Go.Proofs.YtmpdhdnoohmndaaGreatDoor.Pr

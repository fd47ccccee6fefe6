/-
  Steps on the way to the cards of laws.FnFetched and laws.FnFetchedWhole; the conditions of each are the hypotheses that it names. In order:
  WALKS (printed by wx.py from Hs.px): textproto.newHeader.
  WALKS (printed by wx.py from Ht.px): textproto.ReadHeader.
  WALKS (printed by wx.py from Hu.px): a part as a source.
  WALKS (printed by wx.py from Hv.px): a part is read to its end; a new part.
  WALKS (printed by wx.py from Hw.px): lines between parts.
  WALKS (printed by wx.py from Hx.px): textproto.NewMultipartReader.
-/
import Derived.Test.YtjbbapodcngnaaaGreatDoorV09
set_option linter.all false
section
namespace Go.Proofs
open Go.Eng
/-- a header's map -/
def hmSL (Fs : List Fld) (mv : Value) : SL := fun h => (Fs = [] ∧ mv = .map none) ∨ ∃ mb es, mv = .map (some mb) ∧ MapOk es Fs ∧ star (mp mb (meE es)) (bs meSL es) h
theorem St.hm_none {W w : World} {s : List SL} (h : St W s w) : St W (hmSL [] (.map none) :: s) w :=
  ⟨h.os, h.tape, h.output, h.size, fun _ => none, hp w, .inl ⟨rfl, rfl⟩, h.sat, fun _ => .inl rfl, (fun _ _ e => by cases e), Eng.sub.refl _⟩
theorem St.hm_some {W w : World} {s : List SL} {Fs : List Fld} {mb : Nat} {es : List ME} (ho : MapOk es Fs) (h : St W (mp mb (meE es) :: bs meSL es :: s) w) : St W (hmSL Fs (.map (some mb)) :: s) w :=
  h.shut_star.imp fun _ k => .inr ⟨mb, es, rfl, ho, k⟩
theorem St.hm_cases {W w : World} {s : List SL} {Fs : List Fld} {mv : Value} (h : St W (hmSL Fs mv :: s) w) : (Fs = [] ∧ mv = .map none ∧ St W s w) ∨ ∃ mb es, mv = .map (some mb) ∧ MapOk es Fs ∧ St W (mp mb (meE es) :: bs meSL es :: s) w := by
  obtain ⟨a, k, h1, hb, hd, sa, sb⟩ := h.sat; rcases h1 with ⟨h1, h2⟩ | ⟨mb, es, h1, h2, h3⟩
  · exact .inl ⟨h1, h2, h.tail⟩
  · exact .inr ⟨mb, es, h1, h2, St.open_star ⟨h.os, h.tape, h.output, h.size, a, k, h3, hb, hd, sa, sb⟩⟩
abbrev ptrs (Fs : List Fld) : List Value := Fs.map fun F => ptr F.p 0
/-- a row, turned round outside of its middle -/
def rv (cs : List Value) (j : Nat) : List Value := (List.range cs.length).map fun k => if j ≤ k ∧ k + j < cs.length then cs.getD (cs.length - 1 - k) undef else cs.getD k undef
theorem rv_len (cs : List Value) (j : Nat) : (rv cs j).length = cs.length := by simp [rv]
def rvo (cs : List Value) (j : Nat) : List Value := (List.range cs.length).map fun k => if j ≤ k ∧ k + j < cs.length then cs.getD k undef else cs.getD (cs.length - 1 - k) undef
theorem rvo_len (cs : List Value) (j : Nat) : (rvo cs j).length = cs.length := by simp [rvo]
theorem rvo_get {cs : List Value} {j k : Nat} (hk : k < cs.length) : (rvo cs j)[k]? = some (if j ≤ k ∧ k + j < cs.length then cs.getD k undef else cs.getD (cs.length - 1 - k) undef) := by
  simp [rvo, hk]
theorem rv_get {cs : List Value} {j k : Nat} (hk : k < cs.length) : (rv cs j)[k]? = some (if j ≤ k ∧ k + j < cs.length then cs.getD (cs.length - 1 - k) undef else cs.getD k undef) := by
  simp [rv, hk]
theorem rv_start {cs : List Value} : rv cs (cs.length / 2) = cs := by
  apply List.ext_getElem?; intro k; rcases Nat.lt_or_ge k cs.length with hk | hk
  · rw [rv_get hk]; split
    · rw [show cs.length - 1 - k = k by omega]; simp [hk]
    · simp [hk]
  · rw [List.getElem?_eq_none (by rw [rv_len]; exact hk), List.getElem?_eq_none hk]
theorem rv_end {cs : List Value} : rv cs 0 = cs.reverse := by
  apply List.ext_getElem?; intro k; rcases Nat.lt_or_ge k cs.length with hk | hk
  · rw [rv_get hk, if_pos ⟨Nat.zero_le _, by omega⟩, List.getElem?_reverse hk]; rw [List.getD_eq_getElem?_getD, List.getElem?_eq_getElem (show cs.length - 1 - k < cs.length by omega)]; rfl
  · rw [List.getElem?_eq_none (by rw [rv_len]; exact hk), List.getElem?_eq_none (by simpa using hk)]
theorem rv_step {cs : List Value} {j : Nat} (hj : 2 * (j + 1) ≤ cs.length) : ((rv cs (j + 1)).set j (cs.getD (cs.length - 1 - j) undef)).set (cs.length - 1 - j) (cs.getD j undef) = rv cs j := by
  apply List.ext_getElem?; intro k; rcases Nat.lt_or_ge k cs.length with hk | hk
  · rw [rv_get hk, List.getElem?_set, List.getElem?_set, rv_get hk]; simp only [List.length_set, rv_len]; by_cases h1 : cs.length - 1 - j = k
    · rw [if_pos h1, if_pos (by omega), if_pos ⟨by omega, by omega⟩]; rw [show cs.length - 1 - k = j by omega]
    · rw [if_neg h1]; by_cases h2 : j = k
      · rw [if_pos h2, if_pos (by omega), if_pos ⟨by omega, by omega⟩]; rw [h2]
      · rw [if_neg h2]; by_cases h3 : j + 1 ≤ k ∧ k + (j + 1) < cs.length
        · rw [if_pos h3, if_pos ⟨by omega, by omega⟩]
        · rw [if_neg h3, if_neg (by omega)]
  · rw [List.getElem?_eq_none (by simp [rv_len]; exact hk), List.getElem?_eq_none (by rw [rv_len]; exact hk)]
theorem ptrs_one (Fs : List Fld) {i : Nat} {v : Value} (h : (ptrs Fs)[i]? = some v) : v.oneCell' = true := by
  obtain ⟨F, _, rfl⟩ := List.mem_map.1 (List.mem_of_getElem? h); rfl
section
variable {W w : World} {s : List SL} {L : List SL}
/-- textproto.newHeader -/
theorem c59 {v : Value} {Fs : List Fld} (hS : St W (own 141 1 v Fs.length (ptrs Fs) :: bs fld Fs :: L) w) (hmy : Fs.length ≤ 1000000) :
    Calls Tryz.prog 59 #[v] w fun e w' => ∃ mv, e = .returned (.agg #[v, mv]) ∧ St W (own 141 1 v Fs.length (ptrs Fs.reverse) :: hmSL Fs.reverse mv :: bs fld Fs.reverse :: L) w' := by
  have hlen0 := hS.own_cases.1; rcases hS.own_cases.2 with ⟨rfl, h2, _, hS⟩ | ⟨b, cap, junk, rfl, hcap, hj, hS⟩
  · obtain rfl : Fs = [] := List.length_eq_zero_iff.1 h2; refine fn_calls (args := [.slice none 0 0]) Tryz.func59 rfl rfl rfl ?_; refine Xs (Xg ?_); refine XD hS (dAlloc) rfl ?_; clear hS; intro vr w hR; obtain ⟨b2, rfl, hS⟩ := hR; refine Xn (Xs (Xs (Xg (XX 1 hS rfl (XR hS (rLen rfl) rfl (XR hS (rQuoN (m := 0) (n := 2) rfl rfl (by decide) (by decide) rfl) rfl ?_)))))); refine XR hS (rSub rfl rfl (w64 (by decide) (by decide))) rfl ?_; refine XX 1 hS rfl (Xn (Xb ?_)); intro a hE; refine cw_loop (fun (i : Unit) a w => Env Tryz.f59.ntmps (envL [(0, .slice none 0 0), (2, ptr b2 0), (3, .int .i64 (-1))]) a ∧ St W _ w) (fun i => 0) () ⟨hE.cut ⟨rfl, rfl, rfl, trivial⟩, hS⟩ ?_; clear hS hE a; rintro ⟨⟩ a w ⟨hE, hS⟩; revert a; refine Xs (Xs (Xg (XX 1 hS rfl (XR hS (rCmp rfl rfl (cmp_geqF (by omega))) rfl ?_)))); refine Xn (Xf rfl (Xe rfl (Xs (Xg (XX 2 hS rfl ?_)))))
    refine XC hS (gCall rfl) rfl (c77n hS) ?_; clear hS; intro e w hR; (try dsimp only [bfp, BS.cells, oint, List.length_nil, List.length_cons, List.nil_append] at hR); obtain ⟨rfl, hS⟩ := hR; refine ⟨_, rfl, ?_⟩; refine XR hS (rBuild rfl rfl) rfl ?_; refine XN hS (dStoreN (l := [.slice none 0 0, .map none]) rfl rfl .head rfl (by exact Nat.le_refl 2) (fun _ _ _ => rfl) (one_all rfl)) ?_; clear hS; intro _ w hS; refine Xn (Xr ?_); intro a hE; refine kretc1 hE rfl rfl (run_loadN hS (by exact Nat.le_refl 2)) ⟨.map none, rfl, ?_⟩; exact (St.hm_none hS.tail).own_nil 141 1
  · obtain ⟨n, hnl⟩ : ∃ n, n = Fs.length := ⟨_, rfl⟩; rw [← hnl] at hcap hj hmy ⊢; have hpl : (ptrs Fs).length = n := by simp [hnl]
    refine fn_calls (args := [.slice (some ⟨b, 0, none⟩) n cap]) Tryz.func59 rfl rfl rfl fun a hE => ?_; refine cw_seq (cw_rg ?_); refine pd hE hS (dAlloc) rfl ?_; clear hE a hS; intro vr w a hR hE; obtain ⟨b2, rfl, hS⟩ := hR; refine wk_nil ?_; refine cw_seqj (fun a w => Env Tryz.f59.ntmps (envL [(0, .slice (some ⟨b, 0, none⟩) n cap), (2, ptr b2 0)]) a ∧ St W (cel b2 [.slice none 0 0, .map none] 80 (0, 0) :: cel b (ptrs Fs.reverse ++ junk) 141 (0, 0) :: bs fld Fs :: L) w) ?_ ?_; revert a; refine Xs (Xg (XX 1 hS rfl (XR hS (rLen rfl) rfl (XR hS (rQuoN (m := n) (n := 2) rfl rfl (by decide) (by omega) rfl) rfl ?_)))); refine XR hS (rSub rfl rfl (w64 (by omega) (by omega))) rfl ?_; refine XX 1 hS rfl (Xn (Xb ?_))
    · intro a hE; refine cw_loop (fun (j : Nat) a w => Env Tryz.f59.ntmps (envL [(0, .slice (some ⟨b, 0, none⟩) n cap), (2, ptr b2 0), (3, .int .i64 ((j : Int) - 1))]) a ∧ 2 * j ≤ n ∧ St W (cel b2 [.slice none 0 0, .map none] 80 (0, 0) :: cel b (rv (ptrs Fs) j ++ junk) 141 (0, 0) :: bs fld Fs :: L) w) (fun j => j) (n / 2) ⟨hE.cut ⟨rfl, rfl, rfl, trivial⟩, by omega, ?_⟩ ?_
      · rw [← hpl, rv_start]; exact hS
      clear hS hE a; rintro j a w ⟨hE, hj2, hS⟩; rcases j with _ | j
      · revert a; refine Xs (Xs (Xg (XX 1 hS rfl (XR hS (rCmp rfl rfl (cmp_geqF (by omega))) rfl ?_)))); refine Xn (Xf rfl (Xe rfl ?_)); intro a hE; refine ⟨hE.cut ⟨rfl, rfl, trivial⟩, ?_⟩; rw [rv_end] at hS; simpa [ptrs] using hS
      · have e5 : ((j + 1 : Nat) : Int) - 1 = (j : Int) := by omega
        rw [e5] at hE; have hrl : (rv (ptrs Fs) (j + 1)).length = n := by rw [rv_len, hpl]
        obtain ⟨x, hx0⟩ : ∃ x, (ptrs Fs)[n - 1 - j]? = some x := ⟨_, List.getElem?_eq_getElem (by omega)⟩; obtain ⟨y, hy0⟩ : ∃ y, (ptrs Fs)[j]? = some y := ⟨_, List.getElem?_eq_getElem (by omega)⟩; have hx1 := ptrs_one Fs hx0; have hy1 := ptrs_one Fs hy0; have hA : (rv (ptrs Fs) (j + 1) ++ junk)[0 + (n - 1 - j)]? = some x := by
          rw [Nat.zero_add, List.getElem?_append_left (by omega), rv_get (by omega), if_neg (by omega), List.getD_eq_getElem?_getD, hx0]; rfl
        have hB : (rv (ptrs Fs) (j + 1) ++ junk)[0 + j]? = some y := by
          rw [Nat.zero_add, List.getElem?_append_left (by omega), rv_get (by omega), if_neg (by omega), List.getD_eq_getElem?_getD, hy0]; rfl
        have hA2 : ((rv (ptrs Fs) (j + 1) ++ junk).set (0 + j) x)[0 + (n - 1 - j)]? = some x := by
          rw [List.getElem?_set_ne (by omega)]; exact hA
        have hst : ((rv (ptrs Fs) (j + 1) ++ junk).set (0 + j) x).set (0 + (n - 1 - j)) y = rv (ptrs Fs) j ++ junk := by
          rw [Nat.zero_add, Nat.zero_add, List.set_append_left _ _ (by omega), List.set_append_left _ _ (by simp; omega)]; have := rv_step (cs := ptrs Fs) (j := j) (by omega); rw [hpl, List.getD_eq_getElem?_getD, List.getD_eq_getElem?_getD, hx0, hy0] at this; rw [← this]; rfl
        revert a; refine Xs (Xs (Xg (XX 1 hS rfl (XR hS (rCmp rfl rfl (cmp_geqT (by omega))) rfl ?_)))); refine Xn (Xt rfl (Xk (Xs (Xb (Xs (Xg (XX 1 hS rfl (XR hS (rLen rfl) rfl (XR hS (rSubN (m := n) (n := 1) rfl rfl (by omega) (by omega) rfl) rfl ?_))))))))); refine XX 1 hS rfl (XR hS (rSubN (m := n - 1) (n := j) rfl rfl (by omega) (by omega) rfl) rfl ?_); refine XX 1 hS rfl (Xn ?_); refine Xh ([]) [.s, .s, .s, .s, .s, .s, .s, .r, .s, .s, .s, .r, .s, .h, .s, .e] mixed (by kernel_rfl) hS ?_; clear hS; intro w hS; refine XS (rMove rfl) rfl (XS (rMove rfl) rfl (XS (rMove rfl) rfl (XS (rMove rfl) rfl (XS (rMove rfl) rfl (XS (rMove rfl) rfl (XS (rIdxA1 (i := n - 1 - j) rfl rfl (by omega)) rfl ?_)))))); refine XT hS (rLoad rfl hA) rfl (XS (rMove rfl) rfl (XS (rMove rfl) rfl (XS (rIdxA1 (i := j) rfl rfl (by omega)) rfl ?_)))
        refine XT hS (rLoad rfl hB) rfl (XS (rIdxA1 (i := j) rfl rfl (by omega)) rfl ?_); refine XI hS (dStore rfl rfl hB rfl hx1) ?_; clear hS; intro _ w hS; refine ⟨hS.sub, ?_⟩; refine XS (rIdxA1 (i := n - 1 - j) rfl rfl (by omega)) rfl ?_; refine XM hS (dStore rfl rfl hA2 rfl hy1) ?_; clear hS; intro _ w hS; refine Xn ?_; rw [hst] at hS; refine Xg (XX 1 hS rfl (XR hS (rSub rfl rfl (w64 (by omega) (by omega))) rfl ?_)); refine XX 1 hS rfl (Xn ?_); intro a hE; exact ⟨j, by omega, hE.cut ⟨rfl, rfl, rfl, trivial⟩, by omega, hS⟩
    · clear hS hE a; rintro a w ⟨hE, hS⟩; have hS1 := (hS.tk1 (bs fld Fs)).bs_perm Fs.reverse_perm.symm; replace hS := hS1.tk2 (cel b (ptrs Fs.reverse ++ junk) 141 (0, 0)) (bs fld Fs.reverse); clear hS1; have hrl : Fs.reverse.length = n := by simp [hnl]
      rcases Nat.eq_zero_or_pos n with h0 | h0
      · subst h0; obtain rfl : Fs = [] := List.length_eq_zero_iff.1 hnl.symm; revert a; refine Xs (Xg (XX 2 hS rfl ?_)); refine XC hS (gCall rfl) rfl (c77n hS) ?_; clear hS; intro e w hR; (try dsimp only [bfp, BS.cells, oint, List.length_nil, List.length_cons, List.nil_append] at hR); obtain ⟨rfl, hS⟩ := hR; refine ⟨_, rfl, ?_⟩; refine XR hS (rBuild rfl rfl) rfl ?_; refine XN hS (dStoreN (l := [.slice none 0 0, .map none]) rfl rfl (.tail (.tail .head)) rfl (by exact Nat.le_refl 2) (fun _ _ _ => rfl) (one_all rfl)) ?_; clear hS; intro _ w hS; refine Xn (Xr ?_); intro a hE; refine kretc1 hE rfl rfl (run_loadN hS (by exact Nat.le_refl 2)) ⟨.map none, rfl, ?_⟩; have hS2 := (hS.tk1 (cel b (ptrs [].reverse ++ junk) 141 (0, 0))).own_of (sz := 1) (n := 0) (cap := cap) rfl (by simpa using hj) (by omega); have hS3 := (St.hm_none hS2).swap; simp only [List.reverse_nil] at hS3 ⊢; exact hS3.arr
      · revert a; refine Xs (Xg (XX 2 hS rfl ?_)); refine XC hS (gCall rfl) rfl (c77 hS hrl h0 hmy) ?_; clear hS; intro e w hR; (try dsimp only [bfp, BS.cells, oint, List.length_nil, List.length_cons, List.nil_append] at hR); obtain ⟨mb, es, ⟨rfl, hok⟩, hS⟩ := hR; refine ⟨_, rfl, ?_⟩; refine XR hS (rBuild rfl rfl) rfl ?_; refine XN hS (dStoreN (l := [.slice none 0 0, .map none]) rfl rfl (.tail (.tail (.tail (.tail .head)))) rfl (by exact Nat.le_refl 2) (fun _ _ _ => rfl) (one_all rfl)) ?_; clear hS; intro _ w hS; refine Xn (Xr ?_); intro a hE; refine kretc1 hE rfl rfl (run_loadN hS (by exact Nat.le_refl 2)) ⟨.map (some mb), rfl, ?_⟩; have hS2 := (hS.tk1 (cel b (ptrs Fs.reverse ++ junk) 141 (0, 0))).own_of (sz := 1) (n := n) (cap := cap) (by simp [hnl]) (by simpa using hj) (by omega); have hS3 := St.hm_some hok (hS2.tk2 (mp mb (meE es)) (bs meSL es)); exact hS3.arr
end
end Go.Proofs
end
section
namespace Go.Proofs
open Go.Eng
/-- a field, as it is written -/
structure HF where
  name : List UInt8
  val : List UInt8
def HF.line (f : HF) : List UInt8 := f.name ++ 58 :: 32 :: f.val
def HF.raw (f : HF) : List UInt8 := f.line ++ [13, 10]
structure HF.ok (f : HF) : Prop where
  ne : f.name ≠ []
  nm : ∀ c ∈ f.name, isNm c = true
  can : canonF true f.name = f.name
  len : f.name.length ≤ 100
  val : IsVal f.val
def hraw (fs : List HF) : List UInt8 := fs.flatMap HF.raw
/-- the fields in memory are these -/
def FsAre (Fs : List Fld) (fs : List HF) : Prop := Fs.map (fun F => (F.key, F.val, F.raw)) = fs.map fun f => (f.name, f.val, f.raw)
theorem isNm_ne {c d : UInt8} (hc : isNm c = true) (hd : isNm d = false) : c ≠ d := fun e => by rw [e, hd] at hc; cases hc
theorem HF.no10 {f : HF} (h : f.ok) : (10 : UInt8) ∉ f.line := by
  intro hm; rcases List.mem_append.1 hm with h1 | h1
  · exact isNm_ne (h.nm _ h1) (by decide) rfl
  · simp at h1; exact h.val.lf h1
theorem head_sp {fs : List HF} {tail : List UInt8} (h : ∀ f ∈ fs, f.ok) : ∃ d t, hraw fs ++ 13 :: 10 :: tail = d :: t ∧ isSp d = false := by
  cases fs with
  | nil => exact ⟨13, 10 :: tail, rfl, rfl⟩
  | cons f fs =>
    obtain ⟨h1, h2, _⟩ := h f (List.mem_cons_self ..); cases hn : f.name with
    | nil => exact absurd hn h1
    | cons c l =>
      refine ⟨c, _, by simp [hraw, HF.raw, HF.line, hn]; rfl, ?_⟩; have hc := h2 c (by rw [hn]; exact List.mem_cons_self ..); cases hs : isSp c with
      | false => rfl
      | true =>
        unfold isSp at hs; rw [Bool.or_eq_true, beq_iff_eq, beq_iff_eq] at hs; rcases hs with rfl | rfl <;> exact absurd hc (by decide)
theorem own32 {W w : World} {s : List SL} {b : Nat} (h : St W (cel b (List.replicate 32 (.pointer none)) 141 (0, 0) :: s) w) : St W (own 141 1 (.slice (some ⟨b, 0, none⟩) 0 32) 0 (ptrs []) :: s) w :=
  St.own_of (cs := []) (junk := List.replicate 32 (.pointer none)) h rfl rfl (by omega)
theorem own_one {W w : World} {s : List SL} {v : Value} {n : Nat} {cs : List Value} (h : St W (own 141 1 v n cs :: s) w) : v.oneCell' = true := by
  rcases h.own_cases.2 with ⟨h1, _⟩ | ⟨_, _, _, h1, _⟩ <;> rw [h1] <;> rfl
theorem hm_one {W w : World} {s : List SL} {Fs : List Fld} {mv : Value} (h : St W (hmSL Fs mv :: s) w) : mv.oneCell' = true := by
  rcases St.hm_cases h with ⟨_, h1, _⟩ | ⟨_, _, h1, _⟩ <;> rw [h1] <;> rfl
theorem two_one {v u : Value} (h1 : v.oneCell' = true) (h2 : u.oneCell' = true) : ∀ x ∈ [v, u], x.oneCell' = true := by
  intro x hx; simp only [List.mem_cons, List.not_mem_nil, or_false] at hx; rcases hx with rfl | rfl <;> assumption
theorem nm_sp {c : UInt8} (hc : isNm c = true) : isSp c = false := by
  cases hs : isSp c with
  | false => rfl
  | true =>
    unfold isSp at hs; rw [Bool.or_eq_true, beq_iff_eq, beq_iff_eq] at hs; rcases hs with rfl | rfl <;> exact absurd hc (by decide)
section
variable {W w : World} {g : Gl W} {S : Src W g} {L : List SL} {b : Nat} {B : BS}
/-- textproto.ReadHeader, of right fields -/
theorem c41 {fs : List HF} {tail : List UInt8} (hS : St W (bfp S b B L) w) (hk : B.ok) (hstr : B.str = hraw fs ++ 13 :: 10 :: tail) (hfs : ∀ f ∈ fs, f.ok) (hlen : 3000 ≤ B.c.length) (hnf : fs.length ≤ 1000) :
    Calls Tryz.prog 41 #[ptr b 0] w fun e w' => ∃ (B' : BS) (v mv : Value) (Fs : List Fld), (e = .returned (.tuple #[.agg #[v, mv], .nilIface]) ∧ B'.ok ∧ B'.c.length = B.c.length ∧ B'.str = tail ∧ FsAre Fs fs) ∧
      St W (bfp S b B' (own 141 1 v Fs.length (ptrs Fs.reverse) :: hmSL Fs.reverse mv :: bs fld Fs.reverse :: L)) w' := by
  obtain ⟨d0, t0, hd0, hsp0⟩ := head_sp (tail := tail) hfs; refine fn_calls (args := [ptr b 0]) Tryz.func41 rfl rfl rfl ?_; refine Xs (Xg ?_); refine XD hS (dAlloc) rfl ?_; clear hS; intro vr w hR; obtain ⟨b2, rfl, hS⟩ := hR; replace hS := (show St W (cel b2 [.slice none 0 0, .map none] 80 (0, 0) :: _) w from hS); refine XX 1 hS rfl (Xn (Xs (Xg ?_))); refine XD hS (dMake (n := 0) (c := 32) rfl rfl rfl (by omega) (by omega) (by omega)) rfl ?_; clear hS; intro vr w hR; obtain ⟨bf, rfl, hS⟩ := hR; replace hS := (own32 hS).tk6 (S.inv B.rest) (bys 5 B.bb B.c) (old W) (cel b (B.cells S) 171 (0, 0)) (own 141 1 (.slice (some ⟨bf, 0, none⟩) 0 32) 0 (ptrs [])) (cel b2 [.slice none 0 0, .map none] 80 (0, 0)); refine XX 1 hS rfl (Xn (Xs (Xs (Xg (XX 1 hS rfl ?_))))); refine XC hS (gCall rfl) rfl (c56 hS hk (m := 1) (by omega)) ?_; clear hS; intro e w hR
  (try dsimp only [bfp, BS.cells, oint, List.length_nil, List.length_cons, List.nil_append] at hR); obtain ⟨B1, po, pcap, av, short, ⟨rfl, u0, u1, u2, u3, u4, u5, u6, u7, u8, u9, u10, u11⟩, hS⟩ := hR; refine ⟨_, rfl, ?_⟩; have hsh : short = false := by
    cases short with
    | false => rfl
    | true =>
      have h1 := u7 rfl
      have h2 : B1.have.length < 1 := by simpa using u6.symm
      have h3 : B1.have = [] := List.length_eq_zero_iff.1 (by omega)
      rw [← u3, BS.str, h1, h3, hd0] at hstr
      cases hstr
  subst hsh; have hav : 1 ≤ B1.have.length := by
    have : ¬ (B1.have.length < 1) := by simpa using u6.symm
    omega
  have hav1 : av = 1 := by omega
  have hd1 : B1.c[po + 0]? = some d0 := by
    refine take_at u8 ?_; rw [hav1, List.getElem?_take_of_lt (by omega)]; have : B1.str[0]? = some d0 := by rw [u3, hstr, hd0]; rfl
    rwa [BS.str, List.getElem?_append_left (by omega)] at this
  refine XX 1 hS rfl (XR hS (rExtract rfl rfl) rfl (XR hS (rExtract rfl rfl) rfl (XX 2 hS rfl (Xn (Xs (Xg (XX 1 hS rfl (XR hS (rNilNil rfl) rfl (XX 5 hS rfl (XA rfl rfl (XR hS (rIdxA1 (i := 0) rfl rfl (by omega)) rfl ?_))))))))))); refine XX 2 hS rfl (XA rfl rfl (XR hS (rLoadB rfl hd1) rfl (XX 1 hS rfl (XA rfl rfl ?_)))); refine XC hS (gCall rfl) rfl (c57 hS) ?_; clear hS; intro e w hR; (try dsimp only [bfp, BS.cells, oint, List.length_nil, List.length_cons, List.nil_append] at hR); obtain ⟨rfl, hS⟩ := hR; refine ⟨_, rfl, ?_⟩; intro a hE; rw [hsp0] at hE; revert a; refine XX 1 hS rfl (Xn (Xf rfl (Xk (Xb ?_)))); intro a hE
  refine cw_loop (fun (σ : BS × Value × List Fld × List HF × List HF) a w => Env Tryz.f41.ntmps (envL [(0, ptr b 0), (2, ptr b2 0), (3, .nilIface), (4, σ.2.1)]) a ∧ σ.1.ok ∧ σ.1.c.length = B.c.length ∧ σ.1.str = hraw σ.2.2.2.2 ++ 13 :: 10 :: tail ∧ σ.2.2.2.1 ++ σ.2.2.2.2 = fs ∧ FsAre σ.2.2.1 σ.2.2.2.1 ∧
      St W (bfp S b σ.1 (own 141 1 σ.2.1 σ.2.2.1.length (ptrs σ.2.2.1) :: bs fld σ.2.2.1 :: cel b2 [.slice none 0 0, .map none] 80 (0, 0) :: L)) w)
    (fun σ => σ.2.2.2.2.length) (B1, .slice (some ⟨bf, 0, none⟩) 0 32, [], [], fs) ⟨hE.cut ⟨rfl, rfl, rfl, rfl, trivial⟩, u0, u2, u3.trans hstr, rfl, rfl, (St.bs_nil (A := fld) hS).tk6 (S.inv B1.rest) (bys 5 B1.bb B1.c) (old W) (cel b (B1.cells S) 171 (0, 0)) (own 141 1 (.slice (some ⟨bf, 0, none⟩) 0 32) 0 (ptrs [])) (bs fld [])⟩ ?_
  clear hS hE a hstr hk u3; rintro ⟨B2, v, Fs, f1, f2⟩ a w ⟨hE, hk, x1, x2, x3, x4, hS⟩; dsimp only at *; have hbig : 3000 ≤ B2.c.length := by rw [x1]; exact hlen
  rcases f2 with _ | ⟨f, f2⟩
  · have x2' : B2.str = 13 :: 10 :: tail := x2; rw [List.append_nil] at x3; subst x3; have hFl : Fs.length = f1.length := by have := congrArg List.length x4; simpa using this
    revert a; refine Xb (Xs (Xg (XX 1 hS rfl ?_))); refine XC hS (gCall rfl) rfl (c60n hS hk x2') ?_; clear hS; intro e w hR; (try dsimp only [bfp, BS.cells, oint, List.length_nil, List.length_cons, List.nil_append] at hR); obtain ⟨B3, v3, ⟨rfl, y1, y2, y3⟩, hS⟩ := hR; refine ⟨_, rfl, ?_⟩; refine XX 1 hS rfl (XR hS (rExtract rfl rfl) rfl (XR hS (rExtract rfl rfl) rfl (XX 2 hS rfl (Xn (Xs (Xs (Xg (XX 1 hS rfl (XR hS (rLenOb rfl (.tail (.tail (.tail (.tail .head))))) rfl (XR hS (rCmp rfl rfl (cmp_eqlT rfl)) rfl (Xn (Xt rfl (Xs (Xg ?_)))))))))))))); refine XX 1 hS rfl ?_; refine XC hS (gCall rfl) rfl (c59 (hS.tk2 (own 141 1 v Fs.length (ptrs Fs)) (bs fld Fs)) (by omega)) ?_; clear hS; intro e w hR; (try dsimp only [bfp, BS.cells, oint, List.length_nil, List.length_cons, List.nil_append] at hR); obtain ⟨mv, rfl, hS⟩ := hR; refine ⟨_, rfl, ?_⟩; refine XX 1 hS rfl ?_
    refine XN hS (dStoreN (l := [.slice none 0 0, .map none]) rfl rfl (.tail (.tail (.tail (.tail (.tail (.tail (.tail (.tail .head)))))))) rfl (by exact Nat.le_refl 2) (fun _ _ _ => rfl) (two_one (own_one hS) (hm_one (St.tail hS)))) ?_; clear hS; intro _ w hS; refine XX 1 hS rfl (Xn (Xr ?_)); intro a hE; exact kretc2 hE rfl rfl rfl (run_loadN hS (by exact Nat.le_refl 2)) ⟨B3, v, mv, Fs, ⟨rfl, y1, y2.trans x1, y3, x4⟩, hS.arr⟩
  · have hok : f.ok := hfs f (by rw [← x3]; simp); obtain ⟨d, t, hdt, hsp⟩ := head_sp (fs := f2) (tail := tail) (fun f' hf' => hfs f' (by rw [← x3]; simp [hf'])); have x2' : B2.str = f.line ++ 13 :: 10 :: d :: t := by rw [x2, ← hdt]; simp [hraw, HF.raw]
    have hvl := hok.val.len; have hnl := hok.len; have hll : f.line.length = f.name.length + f.val.length + 2 := by simp [HF.line]; omega
    have hrl : f.raw.length = f.name.length + f.val.length + 4 := by rw [HF.raw, List.length_append, hll]; rfl
    have hrawsplit : f.raw = f.name ++ 58 :: (32 :: (f.val ++ [13, 10])) := by simp [HF.raw, HF.line]
    have h58 : (58 : UInt8) ∉ f.name := fun h => isNm_ne (hok.nm _ h) (by decide) rfl; have hFl : Fs.length = f1.length := by have := congrArg List.length x4; simpa using this
    have hfl : f1.length + (f2.length + 1) ≤ 1000 := by have := congrArg List.length x3; simp at this; omega
    have hname := List.length_pos_iff.2 hok.ne; revert a; refine Xb (Xs (Xg (XX 1 hS rfl ?_))); refine XC hS (gCall rfl) rfl (c60 hS hk x2' (by intro e; rw [e] at hll; simp at hll) (HF.no10 hok) (by omega) hsp) ?_; clear hS; intro e w hR; (try dsimp only [bfp, BS.cells, oint, List.length_nil, List.length_cons, List.nil_append] at hR); obtain ⟨B3, v3, ⟨rfl, y1, y2, y3⟩, hS⟩ := hR; refine ⟨_, rfl, ?_⟩; refine XX 1 hS rfl (XR hS (rExtract rfl rfl) rfl (XR hS (rExtract rfl rfl) rfl (XX 2 hS rfl (Xn (Xs (Xs ?_)))))); have hS0 := hS.tk1 (ob 5 v3 (f.line ++ [13, 10])); clear hS; rcases hS0.ob_cases with ⟨_, h, _⟩ | ⟨kb, junk, rfl, hS⟩
    · simp at h
    replace hS := (show St W (bys 5 kb (f.raw ++ junk) :: _) w from hS); intro a hE; change Env _ _ _ at hE; have hrow : RowIs (f.raw ++ junk) 0 f.raw.length f.raw := ⟨by simp, by simp⟩; have hrow1 : RowIs (f.raw ++ junk) 0 f.name.length f.name := by
      have := hrow.pre (k := f.name.length) (by omega); have e : f.raw.take f.name.length = f.name := by rw [hrawsplit, List.take_left]
      rwa [e] at this
    have hrow2 : RowIs (f.raw ++ junk) (0 + (f.name.length + 1)) (f.raw.length - (f.name.length + 1)) (32 :: (f.val ++ [13, 10])) := by
      have := hrow.sub (i := f.name.length + 1) (cap := (f.raw ++ junk).length) (by omega) (by simp); rw [slo_lt (by simp; omega)] at this; have e : f.raw.drop (f.name.length + 1) = 32 :: (f.val ++ [13, 10]) := by
        rw [hrawsplit, ← List.drop_drop, List.drop_left]; rfl
      rwa [e] at this
    have hcap : f.raw.length ≤ (f.raw ++ junk).length := by simp
    have hl1 : (f.line ++ [13, 10]).length = f.raw.length := rfl; obtain ⟨cap, hcapd⟩ : ∃ cap, cap = (f.raw ++ junk).length := ⟨_, rfl⟩; have hl2 : (f.line ++ [13, 10] ++ junk).length = cap := hcapd.symm; rw [hl2, hl1] at hE; rw [← hcapd] at hcap; revert a; refine Xg (XX 1 hS rfl (XR hS (rLen rfl) rfl (XR hS (rCmp rfl rfl (cmp_eqlF (by omega))) rfl ?_))); refine Xn (Xf rfl (Xk (Xs (Xg (XX 1 hS rfl ?_))))); refine XC hS (gCall rfl) rfl (c61 (d := 58) hS (by rw [← hcapd]; omega) (r := ((f.name.length : Nat) : Int)) (by rw [hrow.is, hrawsplit, idx_found h58])) ?_; clear hS; intro e w hR; (try dsimp only [bfp, BS.cells, oint, List.length_nil, List.length_cons, List.nil_append] at hR); obtain ⟨rfl, hS⟩ := hR; refine ⟨_, rfl, ?_⟩; refine XX 1 hS rfl (Xn (Xs (Xs (Xg (XX 1 hS rfl (XR hS (rCmp rfl rfl (cmp_lssF (by omega))) rfl ?_))))))
    refine Xn (Xf rfl (Xk (Xs (Xg (XX 2 hS rfl (XR hS (rSlc0 rfl rfl (by omega)) rfl ?_)))))); refine XC hS (gCall rfl) rfl (c62 hS hrow1 (by omega) (by omega) (p := []) (m := f.name) rfl (fun d hd => nomatch hd) (fun d hd => nm_sp (hok.nm d (List.mem_of_getElem? hd))) (fun d hd => nm_sp (hok.nm d (List.mem_of_getElem? hd)))) ?_; clear hS; intro e w hR; (try dsimp only [bfp, BS.cells, oint, List.length_nil, List.length_cons, List.nil_append] at hR); obtain ⟨rfl, hS⟩ := hR; refine ⟨_, rfl, ?_⟩; intro a hE; rw [slo_zero, Nat.sub_zero] at hE; revert a; refine XX 1 hS rfl (Xn ?_); intro a hE
    refine cw_seqj (fun a w => Env Tryz.f41.ntmps (envL [(0, ptr b 0), (2, ptr b2 0), (3, .nilIface), (4, v), (9, .slice (some ⟨kb, 0, none⟩) f.raw.length cap), (10, .nilIface), (11, .int .i64 (f.name.length : Int)), (12, .slice (some ⟨kb, 0, none⟩) f.name.length cap)]) a ∧ St W (bys 5 kb (f.raw ++ junk) :: bfp S b B3 (own 141 1 v Fs.length (ptrs Fs) :: bs fld Fs :: cel b2 [.slice none 0 0, .map none] 80 (0, 0) :: L)) w) ?_ ?_; revert a; refine Xs (Xg (XX 1 hS rfl (XR hS (rLen rfl) rfl (XX 1 hS rfl (Xn (Xb ?_))))))
    · intro a hE; refine cw_loop (fun (k : Nat) a w => Env Tryz.f41.ntmps (envL [(0, ptr b 0), (2, ptr b2 0), (3, .nilIface), (4, v), (9, .slice (some ⟨kb, 0, none⟩) f.raw.length cap), (10, .nilIface), (11, .int .i64 (f.name.length : Int)), (12, .slice (some ⟨kb, 0, none⟩) f.name.length cap), (67, .slice (some ⟨kb, 0, none⟩) f.name.length cap), (68, .int .i64 (f.name.length : Int)), (69, .int .i64 (k : Int))]) a ∧ k ≤ f.name.length ∧ St W (bys 5 kb (f.raw ++ junk) :: bfp S b B3 (own 141 1 v Fs.length (ptrs Fs) :: bs fld Fs :: cel b2 [.slice none 0 0, .map none] 80 (0, 0) :: L)) w) (fun k => f.name.length - k) 0 ⟨hE.cut ⟨rfl, rfl, rfl, rfl, rfl, rfl, rfl, rfl, rfl, rfl, rfl, trivial⟩, by omega, hS⟩ ?_; clear hS hE a; rintro k a w ⟨hE, hkk, hS⟩; rcases Nat.lt_or_ge k f.name.length with h1 | h1
      · obtain ⟨c, hc0⟩ : ∃ c, f.name[k]? = some c := ⟨_, List.getElem?_eq_getElem h1⟩; revert a; refine Xs (Xg (XR hS (rCmp rfl rfl (cmp_lssT (by omega))) rfl ?_)); refine Xn (Xs (Xt rfl (Xk (Xs (Xb (Xs (Xg (XR hS (rIdxA1 (i := k) rfl rfl (by omega)) rfl ?_)))))))); refine XR hS (rLoadB rfl (hrow1.at hc0)) rfl (XX 1 hS rfl (Xn (Xs (Xg (XX 1 hS rfl ?_))))); refine XC hS (gCall rfl) rfl (c63 hS (hok.nm c (List.mem_of_getElem? hc0))) ?_; clear hS; intro e w hR; (try dsimp only [bfp, BS.cells, oint, List.length_nil, List.length_cons, List.nil_append] at hR); obtain ⟨rfl, hS⟩ := hR; refine ⟨_, rfl, ?_⟩; refine XX 1 hS rfl (Xn (Xf rfl (Xk (Xg (XR hS (rAddN (n := 1) rfl rfl (by first | omega | (simp <;> omega)) rfl) rfl ?_))))); refine XX 1 hS rfl (Xn ?_); intro a hE; exact ⟨k + 1, by omega, hE.cut ⟨rfl, rfl, rfl, rfl, rfl, rfl, rfl, rfl, rfl, rfl, rfl, trivial⟩, by omega, hS⟩
      · revert a; refine Xs (Xg (XR hS (rCmp rfl rfl (cmp_lssF (by omega))) rfl ?_)); refine Xn (Xs (Xf rfl (Xe rfl ?_))); intro a hE; exact ⟨hE.cut ⟨rfl, rfl, rfl, rfl, rfl, rfl, rfl, rfl, trivial⟩, hS⟩
    · clear hS hE a; rintro a w ⟨hE, hS⟩; have hkne : (f.name == []) = false := by
        cases hh : f.name with
        | nil => exact absurd hh hok.ne
        | cons x l => rfl
      revert a; refine Xs (Xg (XX 1 hS rfl (XR hS (rToStr rfl hrow1.le) rfl ?_))); intro a hE; rw [hrow1.is] at hE; revert a; refine XC hS (gCall rfl) rfl (c46 hS hok.nm (by omega)) ?_; clear hS; intro e w hR; (try dsimp only [bfp, BS.cells, oint, List.length_nil, List.length_cons, List.nil_append] at hR); obtain ⟨rfl, hS⟩ := hR; refine ⟨_, rfl, ?_⟩; intro a hE; rw [hok.can] at hE; revert a; refine XX 1 hS rfl (Xn (Xs (Xs (Xg (XX 1 hS rfl (XR hS (rStrEq (k := []) rfl rfl hkne) rfl (Xn (Xf rfl (Xk (Xs (Xg (XX 1 hS rfl (XR hS (rAddN (n := 1) rfl rfl (by first | omega | (simp <;> omega)) rfl) rfl ?_))))))))))))); refine XX 1 hS rfl (Xn (Xs (Xg (XX 2 hS rfl (XR hS (rSlc1o rfl rfl (by omega) (slo_is (by omega) rfl)) rfl ?_))))); refine XX 1 hS rfl (Xn (Xs (Xg (XX 1 hS rfl ?_)))); refine XC hS (gCall rfl) rfl (c64 hS hrow2 (by omega) hok.val) ?_; clear hS; intro e w hR
      (try dsimp only [bfp, BS.cells, oint, List.length_nil, List.length_cons, List.nil_append] at hR); obtain ⟨rfl, hS⟩ := hR; refine ⟨_, rfl, ?_⟩; refine XX 1 hS rfl (Xn (Xs ?_)); replace hS := (hS.tk1 (bys 5 kb (f.raw ++ junk))).ob_of; intro a hE; rw [hcapd] at hE; revert a; refine Xg (XX 4 hS rfl ?_); refine XC hS (gCall rfl) rfl (c65 hS hok.nm (by omega)) ?_; clear hS; intro e w hR; (try dsimp only [bfp, BS.cells, oint, List.length_nil, List.length_cons, List.nil_append] at hR); obtain ⟨fp, rfl, hS⟩ := hR; refine ⟨_, rfl, ?_⟩; refine XD hS (dLit rfl rfl rfl rfl) rfl ?_; clear hS; intro vr w hR; obtain ⟨bl, rfl, hS⟩ := hR; refine XD hS (dAppO (k := 1) rfl rfl (.tail (.tail (.tail (.tail (.tail (.tail .head)))))) (AppSrc.of_cells (off := 0) (sz := 1) (by exact Nat.le_refl 1)) rfl rfl (one_all rfl) (by omega) (by omega) (by decide)) rfl ?_; clear hS; intro vr w hR
      have hS := hR; clear hR; refine XX 1 hS rfl (Xn (Xs (Xg (XX 1 hS rfl (XR hS (rNilNilN rfl) rfl (Xn (Xf rfl (Xk ?_)))))))); rw [hok.can] at hS; obtain ⟨F, hF⟩ : ∃ F : Fld, F = ⟨fp, .slice (some ⟨kb, 0, none⟩) f.raw.length (f.raw ++ junk).length, f.name, f.val, f.raw⟩ := ⟨_, rfl⟩; have hown : own 141 1 vr (Fs.length + 1) (ptrs Fs ++ [ptr fp 0]) = own 141 1 vr (Fs ++ [F]).length (ptrs (Fs ++ [F])) := by simp [ptrs, hF]
      replace hS := (show St W (own 141 1 vr (Fs.length + 1) (ptrs Fs ++ [ptr fp 0]) :: _) w from hS); rw [hown, ← hF] at hS; have hS1 := hS.tk2 (fld F) (bs fld Fs); rw [← List.append_nil Fs] at hS1; have hS2 := St.bs_in hS1; rw [List.append_nil] at hS2; intro a hE; refine ⟨(B3, vr, Fs ++ [F], f1 ++ [f], f2), by simp, hE.cut ⟨rfl, rfl, rfl, rfl, trivial⟩, y1, y2.trans x1, y3.trans hdt.symm, by rw [← x3]; simp, ?_, hS2.arr⟩; show (Fs ++ [F]).map _ = (f1 ++ [f]).map _; rw [List.map_append, List.map_append, x4, hF]; rfl
end
end Go.Proofs
end
section
namespace Go.Proofs
open Go.Eng
section
variable {W w : World} {g : Gl W} {S : Src W g} {L : List SL} {b : Nat}
instance : Enters Tryz.prog 202 := ⟨fun args w => by kernel_rfl⟩
instance : MethodOf Tryz.prog 198 "Read" 202 := ⟨fun v w => by kernel_rfl⟩
/-- (*Part).Read -/
theorem c177 {B : BS} {D : PD} {rest aft : List UInt8} {n tot db off m cap : Nat} {eof : Bool} {dc : List UInt8} (hS : St W (pst S b B D n tot eof (bys 5 db dc :: L)) w) (hD : D.ok) (hI : PInv B D rest aft n tot eof) (hm : 0 < m) (hmc : m ≤ cap) (ho : off + m ≤ dc.length) (hdc : dc.length ≤ 9223372036854775807) :
    Calls Tryz.prog 177 #[ptr D.p 0, .slice (some ⟨db, off, none⟩) m cap] w fun e w' => ∃ (B' : BS) (n' tot' : Nat) (eof' : Bool) (k : Nat) (dc' : List UInt8) (ef : Bool) (rest' : List UInt8), (e = .returned (.tuple #[.int .i64 (k : Int), erv g ef]) ∧ k ≤ m ∧ dc'.length = dc.length ∧ dc'.take off = dc.take off ∧
      rest = (dc'.drop off).take k ++ rest' ∧ (ef = true → rest' = []) ∧ (k = 0 → ef = true) ∧ PInv B' D rest' aft n' tot' eof') ∧ St W (pst S b B' D n' tot' eof' (bys 5 db dc' :: L)) w' := by
  refine fn_calls (args := [ptr D.p 0, .slice (some ⟨db, off, none⟩) m cap]) Tryz.func177 rfl rfl rfl ?_; refine Xs (Xg (XX 2 hS rfl (Xn (Xs (Xg (XX 1 hS rfl (XR hS (rNil rfl) rfl (XR hS (rField rfl) rfl (XR hS (rLoad rfl (by exact rfl)) rfl ?_))))))))); refine XX 1 hS rfl ?_; refine XC hS (gInv rfl rfl) rfl (c202 hS hD hI hm hmc ho hdc) ?_; clear hS; intro e w hR; (try dsimp only [bfp, BS.cells, oint, List.length_nil, List.length_cons, List.nil_append] at hR); obtain ⟨B', n', tot', eof', k, dc', ef, rest', ⟨rfl, x1, x2, x3, x4, x5, x6, x7⟩, hS⟩ := hR; refine ⟨_, rfl, ?_⟩; refine XR hS (rExtract rfl rfl) rfl (XR hS (rExtract rfl rfl) rfl (XX 2 hS rfl (Xn (Xr ?_)))); exact X2 rfl rfl rfl ⟨B', n', tot', eof', k, dc', ef, rest', ⟨rfl, x1, x2, x3, x4, x5, x6, x7⟩, hS⟩
/-- what of a part's reader lies in memory -/
def partSL (S : Src W g) (b : Nat) (B : BS) (D : PD) (n tot : Nat) (eof : Bool) : SL := star (S.inv B.rest) (star (bys 5 B.bb B.c) (star (cel b (B.cells S) 171 (0, 0)) (star (cel D.p (partC g D n tot eof) 105 (0, 0)) (star (cel D.m (mrC b D) 148 (0, 0)) (bys 5 D.mb D.bd)))))
def partInv (S : Src W g) (b : Nat) (D : PD) (aft rest : List UInt8) : SL := fun h => ∃ (B : BS) (n tot : Nat) (eof : Bool), PInv B D rest aft n tot eof ∧ partSL S b B D n tot eof h
theorem St.open_part {D : PD} {aft rest : List UInt8} (h : St W (partInv S b D aft rest :: L) w) : ∃ (B : BS) (n tot : Nat) (eof : Bool), PInv B D rest aft n tot eof ∧
    St W (S.inv B.rest :: bys 5 B.bb B.c :: cel b (B.cells S) 171 (0, 0) :: cel D.p (partC g D n tot eof) 105 (0, 0) :: cel D.m (mrC b D) 148 (0, 0) :: bys 5 D.mb D.bd :: L) w := by
  obtain ⟨a, k, ⟨B, n, tot, eof, h1, h3⟩, hb, hd, sa, sb⟩ := h.sat; have h4 : St W (partSL S b B D n tot eof :: L) w := ⟨h.os, h.tape, h.output, h.size, a, k, h3, hb, hd, sa, sb⟩; refine ⟨B, n, tot, eof, h1, ?_⟩; have h5 := St.open_star h4; have h6 := St.open_star h5.swap; have h7 := St.open_star h6.swap; have h8 := St.open_star h7.swap; have h9 := St.open_star h8.swap; exact h9.arr
theorem St.shut_part {D : PD} {aft rest : List UInt8} {B : BS} {n tot : Nat} {eof : Bool} (h1 : PInv B D rest aft n tot eof) (h : St W (S.inv B.rest :: bys 5 B.bb B.c :: cel b (B.cells S) 171 (0, 0) :: cel D.p (partC g D n tot eof) 105 (0, 0) :: cel D.m (mrC b D) 148 (0, 0) :: bys 5 D.mb D.bd :: L) w) : St W (partInv S b D aft rest :: L) w := by
  have h2 := (h.tk2 (cel D.m (mrC b D) 148 (0, 0)) (bys 5 D.mb D.bd)).shut_star; have h3 := (h2.tk1 (cel D.p (partC g D n tot eof) 105 (0, 0))).shut_star; have h4 := (h3.tk1 (cel b (B.cells S) 171 (0, 0))).shut_star; have h5 := (h4.tk1 (bys 5 B.bb B.c)).shut_star; have h6 := (h5.tk1 (S.inv B.rest)).shut_star; exact h6.imp fun _ k => ⟨B, n, tot, eof, h1, k⟩
def partSrc (S : Src W g) (b : Nat) (D : PD) (aft : List UInt8) (hD : D.ok) : Src W g where
  T := 101
  v := ptr D.p 0
  fn := 177
  one := rfl
  meth := ⟨fun v w => by kernel_rfl⟩
  ent := ⟨fun args w => by kernel_rfl⟩
  inv := partInv S b D aft
  read := by
    intro w L db off m cap dc rest hS hm hcp ho hdc
    obtain ⟨B, n, tot, eof, hI, hS⟩ := St.open_part hS
    refine (c177 (b := b) (B := B) (S := S) (D := D) (n := n) (tot := tot) (eof := eof) (dc := dc) (L := L) hS.arr hD hI hm hcp ho hdc).mono fun e w' hR => ?_
    obtain ⟨B', n', tot', eof', k, dc', ef, rest', ⟨q1, q2, q3, q4, q5, q6, q7, q8⟩, hS⟩ := hR
    exact ⟨k, dc', ef, rest', q1, q2, q3, q4, q5, q6, q7, St.shut_part q8 hS.arr⟩
end
end Go.Proofs
end
section
namespace Go.Proofs
open Go.Eng
section
variable {W w : World} {g : Gl W} {S : Src W g} {L : List SL} {b : Nat} {B : BS}
theorem mk512 {bb : Nat} {s : List SL} (hS : St W (bys 5 bb (List.replicate 512 0) :: s) w) : ∃ c : List UInt8, c.length = 512 ∧ St W (bys 5 bb c :: s) w := ⟨_, List.length_replicate .., hS⟩
/-- textproto.zzDiscard -/
theorem c103 {rest : List UInt8} (hS : St W (S.inv rest :: old W :: L) w) : Calls Tryz.prog 103 #[.iface S.T S.v] w fun e w' => e = .returned (.tuple #[]) ∧ St W (S.inv [] :: old W :: L) w' := by
  have := S.meth; have := S.ent; refine fn_calls (args := [.iface S.T S.v]) Tryz.func103 rfl rfl rfl ?_; refine Xs (Xg ?_); refine XD hS (dMakeB (n := 512) (c := 512) rfl rfl (by omega) (by omega)) rfl ?_; clear hS; intro vr w hR; obtain ⟨bb, rfl, hS⟩ := hR; refine XX 1 hS rfl (Xn (Xb ?_)); obtain ⟨c0, hc0, hS⟩ := mk512 hS; intro a hE; refine cw_loop (fun (σ : List UInt8 × List UInt8) a w => Env Tryz.f103.ntmps (envL [(0, .iface S.T S.v), (2, .slice (some ⟨bb, 0, none⟩) 512 512)]) a ∧ σ.2.length = 512 ∧ St W (S.inv σ.1 :: bys 5 bb σ.2 :: old W :: L) w) (fun σ => σ.1.length) (rest, c0) ⟨hE.cut ⟨rfl, rfl, trivial⟩, hc0, hS.swap⟩ ?_; clear hS hE a; rintro ⟨r, c⟩ a w ⟨hE, hc1, hS⟩; dsimp only at *; revert a; refine Xb (Xs (Xg (XX 2 hS rfl ?_))); refine XC hS (gInv rfl rfl) rfl (S.read hS (by omega) (by omega) (by omega) (by omega)) ?_; clear hS; intro e w hR
  (try dsimp only [bfp, BS.cells, oint, List.length_nil, List.length_cons, List.nil_append] at hR); obtain ⟨k, c2, eof, rest', rfl, k1, k2, k3, k4, k5, k6, hS⟩ := hR; refine ⟨_, rfl, ?_⟩; refine XX 1 hS rfl (XR hS (rExtract rfl rfl) rfl (XR hS (rExtract rfl rfl) rfl (XX 2 hS rfl (Xn (Xs ?_))))); intro a hE; cases eof with
  | true =>
    refine cw_rg ?_
    refine qx 1 hE hS rfl ?_; clear hE a; intro a hE
    refine pr hE hS (rINilN rfl) rfl ?_; clear hE a; intro a hE
    refine wk_nil ?_
    refine cw_condT hE rfl ?_
    refine cw_ret ?_
    rw [k5 rfl] at hS
    exact kret0 hE rfl ⟨rfl, hS.arr⟩
  | false =>
    refine cw_rg ?_
    refine qx 1 hE hS rfl ?_; clear hE a; intro a hE
    refine pr hE hS (rNilNilN rfl) rfl ?_; clear hE a; intro a hE
    refine wk_nil ?_
    refine cw_condF hE rfl ?_
    refine cw_skip ?_
    have hk0 : 0 < k := by rcases Nat.eq_zero_or_pos k with h | h; · have := k6 h; cases this
                           exact h
    refine ⟨(rest', c2), ?_, hE.cut ⟨rfl, rfl, trivial⟩, k2.trans hc1, hS⟩
    have := congrArg List.length k4
    simp only [List.length_append, List.length_take, List.length_drop] at this
    show rest'.length < r.length
    omega
/-- (*Part).Close -/
theorem c71 {D : PD} {aft rest : List UInt8} (hD : D.ok) (hS : St W (partInv S b D aft rest :: old W :: L) w) : Calls Tryz.prog 71 #[ptr D.p 0] w fun e w' => e = .returned .nilIface ∧ St W (partInv S b D aft [] :: old W :: L) w' := by
  refine fn_calls (args := [ptr D.p 0]) Tryz.func71 rfl rfl rfl ?_; refine Xs (Xg (XX 1 hS rfl (Xn (Xs (Xg (XX 1 hS rfl (XR hS (rIface rfl) rfl ?_))))))); refine XC hS (gCall rfl) rfl (c103 (S := partSrc S b D aft hD) hS) ?_; clear hS; intro e w hR; (try dsimp only [bfp, BS.cells, oint, List.length_nil, List.length_cons, List.nil_append] at hR); obtain ⟨rfl, hS⟩ := hR; refine ⟨_, rfl, ?_⟩; refine Xn (Xs (Xg (XX 1 hS rfl (Xn (Xr ?_))))); exact X1 rfl rfl ⟨rfl, hS⟩
abbrev part0 (m : Nat) (v mv : Value) : List Value := [v, mv, ptr m 0, .nilIface, .int .i64 0, .int .i64 0, .nilIface, .nilIface]
/-- (*Part).populateHeaders -/
theorem c107 {D : PD} {p : Nat} {fs : List HF} {tail : List UInt8} (hS : St W (bfp S b B (cel p (part0 D.m (.slice none 0 0) (.map none)) 105 (0, 0) :: cel D.m (mrC b D) 148 (0, 0) :: L)) w) (hk : B.ok) (hstr : B.str = hraw fs ++ 13 :: 10 :: tail) (hfs : ∀ f ∈ fs, f.ok) (hlen : 3000 ≤ B.c.length) (hnf : fs.length ≤ 1000) :
    Calls Tryz.prog 107 #[ptr p 0] w fun e w' => ∃ (B' : BS) (v mv : Value) (Fs : List Fld), (e = .returned .nilIface ∧ B'.ok ∧ B'.c.length = B.c.length ∧ B'.str = tail ∧ FsAre Fs fs) ∧
      St W (bfp S b B' (own 141 1 v Fs.length (ptrs Fs.reverse) :: hmSL Fs.reverse mv :: bs fld Fs.reverse :: cel p (part0 D.m v mv) 105 (0, 0) :: cel D.m (mrC b D) 148 (0, 0) :: L)) w' := by
  refine fn_calls (args := [ptr p 0]) Tryz.func107 rfl rfl rfl ?_; refine Xs (Xg (XX 1 hS rfl (Xn (Xs (Xg (XX 1 hS rfl (XR hS (rNil rfl) rfl (XR hS (rField rfl) rfl (XR hS (rLoad rfl (by exact rfl)) rfl ?_))))))))); refine XR hS (rNil rfl) rfl (XR hS (rField rfl) rfl (XR hS (rLoad rfl (by exact rfl)) rfl ?_)); refine XC hS (gCall rfl) rfl (c41 hS hk hstr hfs hlen hnf) ?_; clear hS; intro e w hR; (try dsimp only [bfp, BS.cells, oint, List.length_nil, List.length_cons, List.nil_append] at hR); obtain ⟨B', v, mv, Fs, ⟨rfl, x1, x2, x3, x4⟩, hS⟩ := hR; refine ⟨_, rfl, ?_⟩; have hv1 := own_one (hS.tk1 (own 141 1 v Fs.length (ptrs Fs.reverse))); have hv2 := hm_one (hS.tk1 (hmSL Fs.reverse mv)); refine XX 1 hS rfl (XR hS (rExtract rfl rfl) rfl (XR hS (rExtract rfl rfl) rfl ?_)); refine XD hS (dAlloc) rfl ?_; clear hS; intro vr w hR; obtain ⟨b3, rfl, hS⟩ := hR
  replace hS := (show St W (cel b3 [.slice none 0 0, .map none] 80 (0, 0) :: _) w from hS); refine XN hS (dStoreN (l := [.slice none 0 0, .map none]) rfl rfl .head rfl (by exact Nat.le_refl 2) (fun _ _ _ => rfl) (two_one hv1 hv2)) ?_; clear hS; intro _ w hS; refine XX 1 hS rfl (Xn (Xs (Xs (Xg (XX 1 hS rfl (XR hS (rNilNil rfl) rfl (Xn (Xt rfl (Xg (XX 1 hS rfl (XR hS (rLoadN rfl (by exact rfl)) rfl ?_))))))))))); refine XR hS (rNil rfl) rfl (XR hS (rField rfl) rfl ?_); refine XN hS (dStoreN (vs := [v, mv]) rfl rfl (.tail (.tail (.tail (.tail (.tail (.tail (.tail (.tail .head)))))))) rfl (by exact Nat.le_of_ble_eq_true rfl) (fun _ _ _ => rfl) (two_one hv1 hv2)) ?_; clear hS; intro _ w hS; refine Xn (Xs ?_); replace hS := (show St W (cel p (part0 D.m v mv) 105 (0, 0) :: _) w from hS); refine Xg (XX 2 hS rfl (Xn (Xr ?_))); exact X1 rfl rfl ⟨B', v, mv, Fs, ⟨rfl, x1, x2, x3, x4⟩, hS.arr⟩
/-- textproto.newPart -/
theorem c75 {D : PD} {fs : List HF} {tail : List UInt8} (hS : St W (bfp S b B (cel D.m (mrC b D) 148 (0, 0) :: L)) w) (hk : B.ok) (hstr : B.str = hraw fs ++ 13 :: 10 :: tail) (hfs : ∀ f ∈ fs, f.ok) (hlen : 3000 ≤ B.c.length) (hnf : fs.length ≤ 1000) :
    Calls Tryz.prog 75 #[ptr D.m 0] w fun e w' => ∃ (p : Nat) (B' : BS) (v mv : Value) (Fs : List Fld), (e = .returned (.tuple #[ptr p 0, .nilIface]) ∧ B'.ok ∧ B'.c.length = B.c.length ∧ B'.str = tail ∧ FsAre Fs fs) ∧
      St W (bfp S b B' (own 141 1 v Fs.length (ptrs Fs.reverse) :: hmSL Fs.reverse mv :: bs fld Fs.reverse :: cel p [v, mv, ptr D.m 0, .iface 198 (.agg #[ptr p 0]), .int .i64 0, .int .i64 0, .nilIface, .nilIface] 105 (0, 0) :: cel D.m (mrC b D) 148 (0, 0) :: L)) w' := by
  refine fn_calls (args := [ptr D.m 0]) Tryz.func75 rfl rfl rfl ?_; refine Xs (Xg (XX 2 hS rfl (Xn (Xs (Xg (XX 1 hS rfl (XR hS (rBuild rfl rfl) rfl ?_))))))); refine XD hS (dBox rfl) rfl ?_; clear hS; intro vr w hR; obtain ⟨b8, rfl, hS⟩ := hR; replace hS := (show St W (cel b8 (part0 D.m (.slice none 0 0) (.map none)) 105 (0, 0) :: _) w from hS); refine XX 1 hS rfl (Xn (Xs (Xs (Xg (XX 1 hS rfl ?_))))); refine XC hS (gCall rfl) rfl (c107 (S := S) (b := b) (B := B) (D := D) (L := L) hS.arr hk hstr hfs hlen hnf) ?_; clear hS; intro e w hR; (try dsimp only [bfp, BS.cells, oint, List.length_nil, List.length_cons, List.nil_append] at hR); obtain ⟨B', v, mv, Fs, ⟨rfl, x1, x2, x3, x4⟩, hS⟩ := hR; refine ⟨_, rfl, ?_⟩
  refine XX 1 hS rfl (Xn (Xs (Xg (XX 1 hS rfl (XR hS (rNilNilN rfl) rfl (Xn (Xf rfl (Xk (Xs (Xg (XX 2 hS rfl (XR hS (rBuild rfl rfl) rfl (XR hS (rIface rfl) rfl (XR hS (rNil rfl) rfl ?_)))))))))))))); refine XR hS (rField rfl) rfl ?_; refine XN hS (dStoreL rfl rfl (by exact rfl) rfl (by first | rfl | assumption | exact erv_one)) ?_; clear hS; intro _ w hS; refine Xn (Xs (Xg (XX 3 hS rfl (Xn (Xr ?_))))); exact X2 rfl rfl rfl ⟨b8, B', v, mv, Fs, ⟨rfl, x1, x2, x3, x4⟩, hS⟩
end
end Go.Proofs
end
section
namespace Go.Proofs
open Go.Eng
/-- what NextPart looks at -/
structure PD.ok2 (D : PD) (kn k5 : Nat) : Prop where
  nlv : D.slNl = .slice (some ⟨D.mb, 0, none⟩) 2 kn
  ddv : D.slDD = .slice (some ⟨D.mb, 2, none⟩) D.N k5
  kn : 2 ≤ kn
  k5 : D.N ≤ k5
  nl : RowIs D.bd 0 2 [13, 10]
  dd : RowIs D.bd 2 D.N (D.nl.drop 2 ++ [45, 45])
  nlp : D.nl.take 2 = [13, 10]
theorem PD.ok.dash {D : PD} (h : D.ok) : RowIs D.bd 2 (D.N - 2) (D.nl.drop 2) := by
  have := h.row.sub (i := 2) (cap := D.N) (by have := h.lo; omega) (Nat.le_refl _); rwa [slo_lt (by have := h.lo; omega)] at this
section
variable {W w : World} {s : List SL} {b : Nat}
/-- textproto.skipLWSPChar, where there is nothing to skip -/
theorem c106 {b1 off n cap : Nat} {c l : List UInt8} {d : UInt8} (hS : St W s w) [q : HasBys s 5 b1 c] (hr : RowIs c off n l) (hd0 : l[0]? = some d) (hsp : isSp d = false) :
    Calls Tryz.prog 106 #[.slice (some ⟨b1, off, none⟩) n cap] w fun e w' => e = .returned (.slice (some ⟨b1, off, none⟩) n cap) ∧ St W s w' := by
  have hn1 := hr.len; have hpos : 0 < n := by have := (List.getElem?_eq_some_iff.1 hd0).1; omega
  unfold isSp at hsp; rw [Bool.or_eq_false_iff] at hsp; obtain ⟨g1, g2⟩ := hsp; refine fn_calls (args := [.slice (some ⟨b1, off, none⟩) n cap]) Tryz.func106 rfl rfl rfl ?_; refine Xs (Xg (XX 1 hS rfl (Xn (Xs (Xb ?_))))); intro a hE; refine cw_loop (fun (i : Unit) a w => Env Tryz.f106.ntmps (envL [(0, .slice (some ⟨b1, off, none⟩) n cap)]) a ∧ St W s w) (fun i => 0) () ⟨hE.cut ⟨rfl, trivial⟩, hS⟩ ?_; clear hS hE a; rintro ⟨⟩ a w ⟨hE, hS⟩; revert a; refine Xs (Xs (Xg (XX 1 hS rfl (XR hS (rLen rfl) rfl (XR hS (rCmp rfl rfl (cmp_gtrT (by omega))) rfl ?_))))); refine XX 12 hS rfl (XA rfl rfl (XR hS (rIdxA1 (i := 0) rfl rfl (by omega)) rfl ?_)); refine XX 9 hS rfl (XA rfl rfl (XR hS (rLoadB rfl (hr.at hd0)) rfl (XX 8 hS rfl (XA rfl rfl (XR hS (rB8 (d := 32) rfl rfl g1) rfl (XX 7 hS rfl (XA rfl rfl (XR hS (rIdxA1 (i := 0) rfl rfl (by omega)) rfl ?_))))))))
  refine XX 4 hS rfl (XA rfl rfl (XR hS (rLoadB rfl (hr.at hd0)) rfl (XX 3 hS rfl (XA rfl rfl (XR hS (rB8 (d := 9) rfl rfl g2) rfl (XX 2 hS rfl (Xn (Xf rfl (Xe rfl (Xs (Xg (XX 2 hS rfl (Xn (Xr ?_)))))))))))))); exact X1 rfl rfl ⟨rfl, hS⟩
/-- isFinalBoundary: no, and yes -/
theorem c73n {D : PD} {kn k5 lb off n cap : Nat} {lc l : List UInt8} (hS : St W s w) [q : HasCel s D.m (mrC b D) 148 (0, 0)] [q1 : HasBys s 5 D.mb D.bd] [q2 : HasBys s 5 lb lc] (h2 : D.ok2 kn k5) (hr : RowIs lc off n l) (hcap : n ≤ cap) (hno : hasPre l (D.nl.drop 2 ++ [45, 45]) = false) :
    Calls Tryz.prog 73 #[ptr D.m 0, .slice (some ⟨lb, off, none⟩) n cap] w fun e w' => e = .returned (.bool false) ∧ St W s w' := by
  refine fn_calls (args := [ptr D.m 0, .slice (some ⟨lb, off, none⟩) n cap]) Tryz.func73 rfl rfl rfl ?_; refine Xs (Xg (XX 1 hS rfl (Xn (Xs (Xs (Xg (XX 2 hS rfl (XR hS (rNil rfl) rfl (XR hS (rField rfl) rfl (XR hS (rLoad rfl (by exact congrArg some h2.ddv)) rfl ?_)))))))))); refine XC hS (gCall rfl) rfl (c105 (q1 := q2) (q2 := q1) hS hr hcap h2.dd hno) ?_; clear hS; intro e w hR; (try dsimp only [bfp, BS.cells, oint, List.length_nil, List.length_cons, List.nil_append] at hR); obtain ⟨rfl, hS⟩ := hR; refine ⟨_, rfl, ?_⟩; refine XX 1 hS rfl (Xn (Xt rfl (Xs (Xg (XX 1 hS rfl (Xn (Xr ?_))))))); exact X1 rfl rfl ⟨rfl, hS⟩
theorem c73 {D : PD} {kn k5 lb off n cap : Nat} {lc : List UInt8} (hS : St W s w) [q : HasCel s D.m (mrC b D) 148 (0, 0)] [q1 : HasBys s 5 D.mb D.bd] [q2 : HasBys s 5 lb lc] (h2 : D.ok2 kn k5) (hr : RowIs lc off n (D.nl.drop 2 ++ [45, 45] ++ [13, 10])) (hcap : n ≤ cap) (hmy : n ≤ 100000) :
    Calls Tryz.prog 73 #[ptr D.m 0, .slice (some ⟨lb, off, none⟩) n cap] w fun e w' => e = .returned (.bool true) ∧ St W s w' := by
  have hn1 := hr.len; have hn2 := h2.dd.len; have hn3 : D.N + 2 = n := by rw [← hn1, List.length_append, hn2]; rfl
  have hr3 : RowIs lc (off + D.N) (n - D.N) [13, 10] := by
    have := hr.sub (i := D.N) (cap := cap) (by omega) hcap; rw [slo_lt (by omega)] at this; have e : (D.nl.drop 2 ++ [45, 45] ++ [13, 10]).drop D.N = [13, 10] := by rw [← hn2, List.drop_left]
    rwa [e] at this
  refine fn_calls (args := [ptr D.m 0, .slice (some ⟨lb, off, none⟩) n cap]) Tryz.func73 rfl rfl rfl ?_; refine Xs (Xg (XX 1 hS rfl (Xn (Xs (Xs (Xg (XX 2 hS rfl (XR hS (rNil rfl) rfl (XR hS (rField rfl) rfl (XR hS (rLoad rfl (by exact congrArg some h2.ddv)) rfl ?_)))))))))); refine XC hS (gCall rfl) rfl (c105 (q1 := q2) (q2 := q1) hS hr hcap h2.dd (hasPre_self _ _)) ?_; clear hS; intro e w hR; (try dsimp only [bfp, BS.cells, oint, List.length_nil, List.length_cons, List.nil_append] at hR); obtain ⟨rfl, hS⟩ := hR; refine ⟨_, rfl, ?_⟩; refine XX 1 hS rfl (Xn (Xf rfl (Xk (Xs (Xg (XX 2 hS rfl (XR hS (rNil rfl) rfl (XR hS (rField rfl) rfl (XR hS (rLoad rfl (by exact congrArg some h2.ddv)) rfl ?_))))))))); refine XR hS (rLen rfl) rfl (XR hS (rSlc1o rfl rfl (by omega) (slo_is (by omega) rfl)) rfl ?_); refine XX 1 hS rfl (Xn (Xs (Xg (XX 1 hS rfl ?_))))
  refine XC hS (gCall rfl) rfl (c106 (q := q2) hS hr3 rfl rfl) ?_; clear hS; intro e w hR; (try dsimp only [bfp, BS.cells, oint, List.length_nil, List.length_cons, List.nil_append] at hR); obtain ⟨rfl, hS⟩ := hR; refine ⟨_, rfl, ?_⟩; refine XX 1 hS rfl (Xn (Xs (Xg (XX 1 hS rfl (XR hS (rLen rfl) rfl (XR hS (rCmp rfl rfl (cmp_eqlF (by omega))) rfl ?_)))))); refine XX 9 hS rfl (XA rfl rfl (XR hS (rNil rfl) rfl (XX 5 hS rfl (XA rfl rfl (XR hS (rField rfl) rfl (XX 4 hS rfl (XA rfl rfl (XR hS (rLoad rfl (by exact congrArg some h2.nlv)) rfl ?_)))))))); refine XX 3 hS rfl (XA rfl rfl ?_); refine XC hS (gCall rfl) rfl (c76 (q1 := q2) (q2 := q1) hS hr3 h2.nl rfl) ?_; clear hS; intro e w hR; (try dsimp only [bfp, BS.cells, oint, List.length_nil, List.length_cons, List.nil_append] at hR); obtain ⟨rfl, hS⟩ := hR; refine ⟨_, rfl, ?_⟩; refine XX 2 hS rfl (Xn (Xr ?_)); exact X1 rfl rfl ⟨rfl, hS⟩
/-- isBoundaryDelimiterLine: another line -/
theorem c74n {D : PD} {lb off n cap : Nat} {lc l : List UInt8} (hS : St W s w) [q : HasCel s D.m (mrC b D) 148 (0, 0)] [q1 : HasBys s 5 D.mb D.bd] [q2 : HasBys s 5 lb lc] (hD : D.ok) (hr : RowIs lc off n l) (hcap : n ≤ cap) (hno : hasPre l (D.nl.drop 2) = false) :
    Calls Tryz.prog 74 #[ptr D.m 0, .slice (some ⟨lb, off, none⟩) n cap] w fun e w' => e = .returned (.bool false) ∧ St W s w' := by
  refine fn_calls (args := [ptr D.m 0, .slice (some ⟨lb, off, none⟩) n cap]) Tryz.func74 rfl rfl rfl ?_; refine Xs (Xg (XX 1 hS rfl (Xn (Xs (Xs (Xg (XX 2 hS rfl (XR hS (rNil rfl) rfl (XR hS (rField rfl) rfl (XR hS (rLoad rfl (by exact rfl)) rfl ?_)))))))))); refine XC hS (gCall rfl) rfl (c105 (q1 := q2) (q2 := q1) hS hr hcap hD.dash hno) ?_; clear hS; intro e w hR; (try dsimp only [bfp, BS.cells, oint, List.length_nil, List.length_cons, List.nil_append] at hR); obtain ⟨rfl, hS⟩ := hR; refine ⟨_, rfl, ?_⟩; refine XX 1 hS rfl (Xn (Xt rfl (Xs (Xg (XX 1 hS rfl (Xn (Xr ?_))))))); exact X1 rfl rfl ⟨rfl, hS⟩
/-- .. behind the boundary stand these -/
theorem c74 {D : PD} {kn k5 lb off n cap np : Nat} {lc r : List UInt8} {d : UInt8} {res : Bool} (hS : St W s w) [q : HasCel s D.m (mrC b D) 148 (0, 0)] [q1 : HasBys s 5 D.mb D.bd] [q2 : HasBys s 5 lb lc] (hD : D.ok) (h2 : D.ok2 kn k5) (hr : RowIs lc off n (D.nl.drop 2 ++ r)) (hcap : n ≤ cap) (hmy : n ≤ 100000)
    (hd0 : r[0]? = some d) (hsp : isSp d = false) (hlen : 2 ≤ r.length) (hnp : D.parts = (np : Int)) (hres : (r == [13, 10]) = res) :
    Calls Tryz.prog 74 #[ptr D.m 0, .slice (some ⟨lb, off, none⟩) n cap] w fun e w' => e = .returned (.bool res) ∧ St W s w' := by
  have hn1 := hr.len; have hn2 := hD.dash.len; have hn3 : D.N - 2 + r.length = n := by rw [← hn1, List.length_append, hn2]
  have hr3 : RowIs lc (off + (D.N - 2)) (n - (D.N - 2)) r := by
    have := hr.sub (i := D.N - 2) (cap := cap) (by omega) hcap; rw [slo_lt (by omega)] at this; have e : (D.nl.drop 2 ++ r).drop (D.N - 2) = r := by rw [← hn2, List.drop_left]
    rwa [e] at this
  refine fn_calls (args := [ptr D.m 0, .slice (some ⟨lb, off, none⟩) n cap]) Tryz.func74 rfl rfl rfl ?_; refine Xs (Xg (XX 1 hS rfl (Xn (Xs (Xs (Xg (XX 2 hS rfl (XR hS (rNil rfl) rfl (XR hS (rField rfl) rfl (XR hS (rLoad rfl (by exact rfl)) rfl ?_)))))))))); refine XC hS (gCall rfl) rfl (c105 (q1 := q2) (q2 := q1) hS hr hcap hD.dash (hasPre_self _ _)) ?_; clear hS; intro e w hR; (try dsimp only [bfp, BS.cells, oint, List.length_nil, List.length_cons, List.nil_append] at hR); obtain ⟨rfl, hS⟩ := hR; refine ⟨_, rfl, ?_⟩; refine XX 1 hS rfl (Xn (Xf rfl (Xk (Xs (Xg (XX 2 hS rfl (XR hS (rNil rfl) rfl (XR hS (rField rfl) rfl (XR hS (rLoad rfl (by exact rfl)) rfl ?_))))))))); refine XR hS (rLen rfl) rfl (XR hS (rSlc1o rfl rfl (by omega) (slo_is (by omega) rfl)) rfl ?_); refine XX 1 hS rfl (Xn (Xs (Xg (XX 1 hS rfl ?_))))
  refine XC hS (gCall rfl) rfl (c106 (q := q2) hS hr3 hd0 hsp) ?_; clear hS; intro e w hR; (try dsimp only [bfp, BS.cells, oint, List.length_nil, List.length_cons, List.nil_append] at hR); obtain ⟨rfl, hS⟩ := hR; refine ⟨_, rfl, ?_⟩; refine XX 1 hS rfl (Xn (Xs (Xs ?_))); intro a hE; cases hz : decide (np = 0) with
  | true =>
    revert a; refine Xg (XX 1 hS rfl (XR hS (rNil rfl) rfl (XR hS (rField rfl) rfl (XR hS (rLoad rfl (by exact congrArg (fun z => some (Value.int .i64 z)) hnp)) rfl ?_)))); refine XR hS (rEqN (n := 0) rfl rfl hz) rfl (XX 11 hS rfl (XA rfl rfl (XR hS (rLen rfl) rfl (XX 8 hS rfl (XA rfl rfl (XR hS (rCmp rfl rfl (cmp_eqlF (by omega))) rfl ?_)))))); refine XX 7 hS rfl (Xn (Xf rfl (Xk (Xs (Xg (XX 2 hS rfl (XR hS (rNil rfl) rfl (XR hS (rField rfl) rfl (XR hS (rLoad rfl (by exact congrArg some h2.nlv)) rfl ?_))))))))); refine XC hS (gCall rfl) rfl (c76 (q1 := q2) (q2 := q1) hS hr3 h2.nl hres) ?_; clear hS; intro e w hR; (try dsimp only [bfp, BS.cells, oint, List.length_nil, List.length_cons, List.nil_append] at hR); obtain ⟨rfl, hS⟩ := hR; refine ⟨_, rfl, ?_⟩; refine XX 1 hS rfl (Xn (Xr ?_)); exact X1 rfl rfl ⟨rfl, hS⟩
  | false =>
    revert a; refine Xg (XX 1 hS rfl (XR hS (rNil rfl) rfl (XR hS (rField rfl) rfl (XR hS (rLoad rfl (by exact congrArg (fun z => some (Value.int .i64 z)) hnp)) rfl ?_)))); refine XR hS (rEqN (n := 0) rfl rfl hz) rfl (XX 11 hS rfl (Xn (Xf rfl (Xk (Xs (Xg (XX 2 hS rfl (XR hS (rNil rfl) rfl (XR hS (rField rfl) rfl (XR hS (rLoad rfl (by exact congrArg some h2.nlv)) rfl ?_)))))))))); refine XC hS (gCall rfl) rfl (c76 (q1 := q2) (q2 := q1) hS hr3 h2.nl hres) ?_; clear hS; intro e w hR; (try dsimp only [bfp, BS.cells, oint, List.length_nil, List.length_cons, List.nil_append] at hR); obtain ⟨rfl, hS⟩ := hR; refine ⟨_, rfl, ?_⟩; refine XX 1 hS rfl (Xn (Xr ?_)); exact X1 rfl rfl ⟨rfl, hS⟩
end
end Go.Proofs
end
section
namespace Go.Proofs
open Go.Eng
instance : AsNo Tryz.prog 93 193 (.pointer none) := ⟨fun v xT w => by kernel_rfl⟩
instance : AsNo Tryz.prog 93 95 (.pointer none) := ⟨fun v xT w => by kernel_rfl⟩
section
variable {W w : World} {g : Gl W} {S : Src W g} {L : List SL} {b : Nat} {B : BS}
/-- textproto.NewMultipartReader -/
theorem c70 {rest bd : List UInt8} (hS : St W (S.inv rest :: old W :: L) w) (hbd : bd.length ≤ 100) : Calls Tryz.prog 70 #[.iface S.T S.v, .string (mkS bd)] w fun e w' => ∃ (m b bst mb : Nat) (B : BS) (jk : List UInt8) (cap : Nat), (e = .returned (ptr m 0) ∧ B.ok ∧ B.c.length = 4096 ∧ B.str = rest ∧ cap = ([13, 10, 45, 45] ++ bd ++ [45, 45] ++ jk).length) ∧
    St W (bfp (stickySrc S bst) b B (cel m [ptr b 0, .pointer none, .int .i64 0, .slice (some ⟨mb, 0, none⟩) 2 cap, .slice (some ⟨mb, 0, none⟩) (4 + bd.length) cap, .slice (some ⟨mb, 2, none⟩) (4 + bd.length) (cap - 2), .slice (some ⟨mb, 2, none⟩) (2 + bd.length) (cap - 2)] 148 (0, 0) :: bys 5 mb ([13, 10, 45, 45] ++ bd ++ [45, 45] ++ jk) :: L)) w' := by
  refine fn_calls (args := [.iface S.T S.v, .string (mkS bd)]) Tryz.func70 rfl rfl rfl ?_; refine Xs (Xg (XX 1 hS rfl (Xn (Xs (Xg (XX 1 hS rfl (XR hS (rCat (l := [13, 10, 45, 45]) rfl rfl (by simp <;> omega)) rfl ?_))))))); refine XR hS (rCat (m := [45, 45]) rfl rfl (by simp <;> omega)) rfl ?_; refine XD hS (dToBytes rfl) rfl ?_; clear hS; intro vr w hR; obtain ⟨b9, jk, rfl, hS⟩ := hR; refine XX 1 hS rfl (Xn (Xs ?_)); intro a hE; have hl : ([13, 10, 45, 45] ++ bd ++ [45, 45]).length = bd.length + 6 := by simp <;> omega
  revert a; refine Xh ([]) [.s, .s, .h, .s, .h, .s, .s, .s, .s, .s, .s, .s, .s, .s, .s, .s, .s, .s, .s, .s, .h, .s] mixed (by kernel_rfl) hS ?_; clear hS; intro w hS; refine XS (rMove rfl) rfl (XS (rBuild rfl rfl) rfl ?_); refine XH hS (dBox rfl) rfl ?_; clear hS; intro vr w hR; obtain ⟨b12, rfl, hS⟩ := hR; refine ⟨hS.sub, ?_⟩; replace hS := (show St W (cel b12 [.iface S.T S.v, .nilIface] 195 (0, 0) :: _) w from hS); replace hS := St.shut_sticky (S := S) (b := b12) (rest := rest) (eof := false) (fun h => nomatch h) (hS.tk2 (cel b12 [.iface S.T S.v, .nilIface] 195 (0, 0)) (S.inv rest)); have hno : AsNo Tryz.prog 93 (stickySrc S b12).T (.pointer none) := (inferInstance : AsNo Tryz.prog 93 193 (.pointer none)); refine XS (rIface rfl) rfl ?_; refine XJ hS (gCall rfl) rfl (c55 (S := stickySrc S b12) (hS.tk2 (stickyInv S b12 rest) (old W))) ?_; clear hS; intro e w hR
  (try dsimp only [bfp, BS.cells, oint, List.length_nil, List.length_cons, List.nil_append] at hR); obtain ⟨b, B, ⟨rfl, x1, x2, x3⟩, hS⟩ := hR; refine ⟨_, rfl, hS.sub, ?_⟩; refine XS (rMove rfl) rfl (XS (rSlc0 (j := 2) rfl rfl (by simp <;> omega)) rfl ?_); refine XS (rMove rfl) rfl (XS (rMove rfl) rfl (XS (rLen rfl) rfl (XS (rSubN (n := 2) rfl rfl (by rw [hl]; omega) (by rw [hl]; omega) rfl) rfl ?_))); refine XS (rSlc0 rfl rfl (by simp <;> omega)) rfl ?_; refine XS (rMove rfl) rfl (XS (rSlc1o (i := 2) rfl rfl (by rw [hl]; omega) (slo_is (by simp <;> omega) rfl)) rfl ?_); refine XS (rMove rfl) rfl (XS (rMove rfl) rfl (XS (rLen rfl) rfl (XS (rSubN (n := 2) rfl rfl (by rw [hl]; omega) (by rw [hl]; omega) rfl) rfl ?_))); refine XS (rSlc2o (i := 2) rfl rfl rfl (by rw [hl]; omega) (by simp <;> omega) (slo_is (by simp <;> omega) rfl)) rfl ?_; refine XS (rBuild rfl rfl) rfl ?_
  refine XH hS (dBox rfl) rfl ?_; clear hS; intro vr w hR; obtain ⟨b30, rfl, hS⟩ := hR; refine ⟨hS.sub, ?_⟩; refine XS (rAssign rfl) rfl (Xn (Xr ?_)); refine X1 rfl rfl ?_; obtain ⟨cap, hcap⟩ : ∃ cap, cap = ([13, 10, 45, 45] ++ bd ++ [45, 45] ++ jk).length := ⟨_, rfl⟩; obtain ⟨n, hnn⟩ : ∃ n, n = ([13, 10, 45, 45] ++ bd ++ [45, 45]).length := ⟨_, rfl⟩; rw [← hnn, ← hcap] at hS; replace hS := (show St W (cel b30 [ptr b 0, .pointer none, .int .i64 0, .slice (some ⟨b9, 0, none⟩) 2 cap, .slice (some ⟨b9, 0, none⟩) (n - 2) cap, .slice (some ⟨b9, 2, none⟩) (n - 2) (cap - 2), .slice (some ⟨b9, 2, none⟩) (n - 2 - 2) (cap - 2)] 148 (0, 0) :: _) w from hS); have e1 : n - 2 = 4 + bd.length := by omega
  have e2 : n - 2 - 2 = 2 + bd.length := by omega
  rw [e2, e1] at hS; exact ⟨b30, b, b12, b9, B, jk, cap, ⟨rfl, x1, x2, x3, hcap⟩, hS.arr⟩
end
end Go.Proofs
end

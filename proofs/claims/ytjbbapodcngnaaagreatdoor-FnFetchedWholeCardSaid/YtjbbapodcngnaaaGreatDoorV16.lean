/-
  Steps on the way to the cards of laws.FnFetched and laws.FnFetchedWhole; the conditions of each are the hypotheses that it names. In order:
  WALKS (printed by wx.py from Jl.px): backendutil.FetchBodySection.
-/
import Derived.Test.YtjbbapodcngnaaaGreatDoorV15
set_option linter.all false
namespace Go.Proofs
open Go.Eng
section
variable {W w : World} {g : Gl W} {L : List SL} {sb : Nat}
theorem rLoadH {s : List SL} {f : Ev} {x : Operand} {b E : Nat} {fz : Nat × Nat} {v mv : Value} {l : List Value} (hx : opv f x = some (ptr b 0)) [hm : HasCel s b (v :: mv :: l) E fz] : Reads Tryz.prog W s f (.load 80 x) (.agg #[v, mv]) :=
  rLoadN (P := Tryz.prog) (n := 2) (off := 0) (l := v :: mv :: l) hx (by simp)
theorem dStoreH {s r : List SL} {f : Ev} {x y : Operand} {b : Nat} {v mv v2 mv2 : Value} [k : Pl (cel b [v, mv] 80 (0, 0)) s r] (hx : opv f x = some (ptr b 0)) (hy : opv f y = some (.agg #[v2, mv2])) (h1 : v2.oneCell' = true) (h2 : mv2.oneCell' = true) :
    Does Tryz.prog W s f (.store 80 x y) (fun _ w' => St W (cel b [v2, mv2] 80 (0, 0) :: r) w') :=
  dStoreN (P := Tryz.prog) (n := 2) (off := 0) (l := [v, mv]) (vs := [v2, mv2]) hx hy k.pull rfl (Nat.le_refl 2) (fun _ _ _ => rfl) (two_one h1 h2)
theorem fsAre_raw {Fs : List Fld} {fs : List HF} (h : FsAre Fs fs) : Fs.map (·.raw) = fs.map HF.raw ∧ Fs.map (·.key) = fs.map (·.name) := by
  constructor
  · have := congrArg (List.map fun t : List UInt8 × List UInt8 × List UInt8 => t.2.2) h; simpa [Function.comp_def] using this
  · have := congrArg (List.map fun t : List UInt8 × List UInt8 × List UInt8 => t.1) h; simpa [Function.comp_def] using this
theorem mget_mset_ne {k k' : List UInt8} {v : Value} (h : k ≠ k') : ∀ {l : List (List UInt8 × Value)}, mget (mset l k v) k' = mget l k'
  | [] => by simp [mset, mget, h]
  | p :: l => by
    obtain ⟨k1, v1⟩ := p; by_cases h1 : k1 = k
    · subst h1; simp [mset, mget, h]
    · by_cases h2 : k1 = k'
      · subst h2; simp [mset, mget, h1]
      · simp [mset, mget, h1, h2, mget_mset_ne h]
theorem filter_pairs (pk : List UInt8 → Bool) : ∀ {A : List Fld} {B : List HF}, A.map (fun F => (F.key, F.raw)) = B.map (fun f => (f.name, f.raw)) → (A.filter fun F => pk F.key).map (·.raw) = (B.filter fun f => pk f.name).map HF.raw
  | [], [], _ => rfl
  | [], _ :: _, h => by cases h
  | _ :: _, [], h => by cases h
  | F :: A, f :: B, h => by
    simp only [List.map_cons, List.cons.injEq, Prod.mk.injEq] at h; have ih := filter_pairs pk h.2; rw [List.filter_cons, List.filter_cons, h.1.1]; split
    · rw [List.map_cons, List.map_cons, ih, h.1.2]
    · exact ih
/-- one of these names is meant -/
def pkN (names : List (List UInt8)) (k : List UInt8) : Bool := names.any fun y => decide (canonF true y = k)
theorem named_pk {names : List (List UInt8)} {f : HF} (h : ∀ y ∈ names, ∀ c ∈ y, isNm c = true) (hf : FdOk f) : named names f.name = pkN names f.name := by
  unfold named pkN; induction names with
  | nil => rfl
  | cons y l ih =>
    rw [List.any_cons, List.any_cons, ih fun z hz => h z (List.mem_cons_of_mem _ hz), canon_named (h y (List.mem_cons_self ..)) hf.ok.nm hf.ok.can]
theorem keep_map {G : List Fld} {fs : List HF} {names : List (List UInt8)} {no : Bool} (hG : G.reverse.map (fun F => (F.key, F.raw)) = fs.map fun f => (f.name, f.raw)) (hfs : ∀ f ∈ fs, FdOk f) (hn : names ≠ []) (h : ∀ y ∈ names, ∀ c ∈ y, isNm c = true) :
    (G.filter fun F => pkN names F.key != no).reverse.map (·.raw) = (fs.filter (keepF names no)).map HF.raw := by
  rw [← List.filter_reverse, filter_pairs (fun k => pkN names k != no) hG]; congr 1; refine List.filter_congr fun f hf => ?_; unfold keepF; rw [named_pk h (hfs f hf), show names.isEmpty = false by cases names with | nil => exact absurd rfl hn | cons _ _ => rfl]; rfl
/-- where the going over the fields has come to -/
structure GS where
  t : Nat
  kept : List Fld
  junk : List Value
  es : List ME
/-- where the search for a part has come to -/
structure FS (W : World) (g : Gl W) where
  i : Nat
  S : Src W g
  m : Ml
  pl : List UInt8
  v : Value
  mv : Value
  Fs : List Fld
structure FSok (m0 : Ml) (x : Sec) (σ : FS W g) : Prop where
  C : Copies σ.S
  i : σ.i ≤ x.path.length
  ha : FsAre σ.Fs (σ.m.flds σ.pl)
  d : ∃ d, σ.m.Ok d ∧ σ.pl.length + d ≤ 10
  low : ∀ c ∈ σ.pl, isLow c = true
  num : σ.m.num ≤ 16
  at0 : σ.i = 0 → σ.m = m0 ∧ σ.pl = []
  at1 : 0 < σ.i → m0.kind = 1
  path : pathTo m0 x.path [] = pathTo σ.m (x.path.drop σ.i) σ.pl
theorem FSok.none {m0 : Ml} {x : Sec} {σ : FS W g} (h : FSok m0 x σ) (h1 : pathTo σ.m (x.path.drop σ.i) σ.pl = none) (h2 : m0.kind ≠ 1 → x.path ≠ [] ∧ x.path ≠ [1]) : secB m0 x = none := by
  unfold secB partAt; by_cases hk : m0.kind = 1
  · rw [if_pos hk, h.path, h1]; rfl
  · rw [if_neg hk, if_neg (by have := h2 hk; simp [this.1, this.2])]; rfl
/-- what the search finds -/
structure FSend (m0 : Ml) (x : Sec) (S : Src W g) (m : Ml) (pl : List UInt8) (mv : Value) (Fs : List Fld) : Prop where
  C : Copies S
  at_ : partAt m0 x.path [] = some (m, pl)
  ha : FsAre Fs (m.flds pl)
  d : ∃ d, m.Ok d ∧ pl.length + d ≤ 10
  low : ∀ c ∈ pl, isLow c = true
  num : m.num ≤ 16
  one : mv.oneCell' = true
/-- backendutil.FetchBodySection -/
theorem c36 {m0 : Ml} {x : Sec} {S0 : Src W g} {v0 mv0 : Value} {Fs0 : List Fld} {pathV fldsV partV : Value} {peek : Bool}
    (hS : St W (hdrL v0 mv0 Fs0 (S0.inv (m0.cont []) :: old W :: cel sb (bsn x.part pathV fldsV x.no peek partV) 76 (0, 0) :: L)) w) (ha0 : FsAre Fs0 (m0.flds [])) (hm0 : m0.Ok 5) (hnum0 : m0.num ≤ 16) (hx : x.ok) (hC0 : Copies S0)
    (hpv : IntsV W pathV (x.path.map fun n : Nat => (n : Int))) (hfv : (x.flds = [] ∧ fldsV = .slice none 0 0) ∨ (x.flds ≠ [] ∧ StrsV W fldsV x.flds)) (hpt : IntsV W partV (cutL x.cut)) :
    Calls Tryz.prog 36 #[.agg #[v0, mv0], .iface S0.T S0.v, ptr sb 0] w fun e w' => (secB m0 x = none ∧ e = .returned (.tuple #[.nilIface, .iface 166 (.pointer (some g.b0))]) ∧ St W (old W :: L) w') ∨
      ∃ (out : List UInt8) (T : Nat) (v : Value), (secB m0 x = some out ∧ e = .returned (.tuple #[.iface T v, .nilIface]) ∧ out.length ≤ 100000) ∧ St W (lit T v out :: old W :: L) w' := by
  obtain ⟨qp, kp, e0⟩ := hpv.form; rw [List.length_map] at e0; subst e0; refine fn_calls (args := [.agg #[v0, mv0], .iface S0.T S0.v, ptr sb 0]) Tryz.func36 rfl rfl rfl ?_; refine Xs (Xg ?_); refine XD hS (dBox rfl) rfl ?_; clear hS; intro vr w hR; obtain ⟨b3, rfl, hS⟩ := hR; replace hS := (show St W (cel b3 [v0, mv0] 80 (0, 0) :: _) w from hS); refine XX 2 hS rfl (Xn ?_); intro a hE; refine cw_seqj (fun a w => ∃ (b3 : Nat) (S : Src W g) (m : Ml) (pl : List UInt8) (v mv : Value) (Fs : List Fld), FSend m0 x S m pl mv Fs ∧ Env Tryz.f36.ntmps (envL [(1, .iface S.T S.v), (2, ptr sb 0), (3, ptr b3 0)]) a ∧ St W (cel b3 [v, mv] 80 (0, 0) :: own 141 1 v Fs.length (ptrs Fs.reverse) :: bs fld Fs.reverse :: S.inv (m.cont pl) :: old W :: cel sb (bsn x.part (.slice qp x.path.length kp) fldsV x.no peek partV) 76 (0, 0) :: L) w) ?_ ?_; revert a; refine Xs (Xg (XX 1 hS rfl (Xn (Xb ?_))))
  · intro a hE; refine cw_loop (fun (σ : FS W g) a w => Env Tryz.f36.ntmps (envL [(1, .iface σ.S.T σ.S.v), (2, ptr sb 0), (3, ptr b3 0), (8, .int .i64 (σ.i : Int))]) a ∧ FSok m0 x σ ∧ St W (cel b3 [σ.v, σ.mv] 80 (0, 0) :: hdrL σ.v σ.mv σ.Fs (σ.S.inv (σ.m.cont σ.pl) :: old W :: cel sb (bsn x.part (.slice qp x.path.length kp) fldsV x.no peek partV) 76 (0, 0) :: L)) w) (fun σ => x.path.length - σ.i) ⟨0, S0, m0, [], v0, mv0, Fs0⟩ ⟨hE.cut ⟨rfl, rfl, rfl, rfl, trivial⟩, ⟨hC0, Nat.zero_le _, ha0, ⟨5, hm0, by simp⟩, (fun _ h => nomatch h), hnum0, fun _ => ⟨rfl, rfl⟩, (fun h => absurd h (Nat.lt_irrefl _)), rfl⟩, hS⟩ ?_; clear hS hE a; rintro ⟨i, S, m, pl, v, mv, Fs⟩ a w ⟨hE, hI, hS⟩; dsimp only at hE hS; have hpl6 := hx.plen; rcases Nat.lt_or_ge i x.path.length with hi | hi
    · obtain ⟨n, hn0⟩ : ∃ n, x.path[i]? = some n := ⟨_, List.getElem?_eq_getElem hi⟩; obtain ⟨hn1, hn99⟩ := hx.pnum n (List.mem_of_getElem? hn0); obtain ⟨bp, op, kp2, e1, a1⟩ := hpv.at (i := i) (n := (n : Int)) (by rw [List.getElem?_map, hn0]; rfl); simp only [Value.slice.injEq] at e1; obtain ⟨rfl, _, _⟩ := e1; have hdrop : x.path.drop i = n :: x.path.drop (i + 1) := by
        rw [List.drop_eq_getElem_cons hi]; rw [List.getElem?_eq_getElem hi] at hn0; rw [Option.some.inj hn0]
      obtain ⟨d, hd1, hd2⟩ := hI.d; dsimp only at hd1 hd2; have hd0 := (ml_ok_kids hd1).2; have hfl := flds_ok (pl := pl) hd1 hI.low (by have := (ml_ok_kids hd1).2; omega); have hlow : ∀ c ∈ pl, isLow c = true := hI.low; have hone := own_one (hS.tk1 (own 141 1 v Fs.length (ptrs Fs.reverse))); have hone2 := hm_one (hS.tk1 (hmSL Fs.reverse mv)); have haF : FsAre Fs (m.flds pl) := hI.ha; revert a; refine Xs (Xs (Xg (XX 2 hS rfl (XR hS (rNil rfl) rfl (XR hS (rField rfl) rfl (XR hS (rField rfl) rfl (XR hS (rLoad rfl (by exact rfl)) rfl ?_))))))); refine XR hS (rLen rfl) rfl (XR hS (rCmp rfl rfl (cmp_lssT (by omega))) rfl ?_); refine Xn (Xt rfl (Xk (Xs (Xb (Xs (Xg (XX 1 hS rfl (XR hS (rNil rfl) rfl (XR hS (rField rfl) rfl (XR hS (rField rfl) rfl (XR hS (rLoad rfl (by exact rfl)) rfl ?_))))))))))); refine XX 1 hS rfl (XR hS (rIdxA1 (i := i) rfl rfl (by omega)) rfl ?_)
      refine XR hS (rLoadO (V := W) rfl a1) rfl (XX 1 hS rfl (Xn (Xs ?_))); by_cases hk : m.kind = 1
      · obtain ⟨t1, t2, t3, t4, t5⟩ := ml_kind1 hd1 hk; have hct := ctIs_flds hd1 pl; rw [if_neg (by rw [t1]; decide)] at hct; unfold Ml.ctVal at hct; rw [if_pos hk] at hct; refine Xg (XR hS (rLoadH rfl) rfl (XX 1 hS rfl ?_)); refine XC hS (gCall rfl) rfl (c42 (S := S) (hS.tk5 (own 141 1 v Fs.length (ptrs Fs.reverse)) (hmSL Fs.reverse mv) (bs fld Fs.reverse) (S.inv (m.cont pl)) (old W)) haF hct t3 hlow t2 t4 (by omega) (by omega)) ?_; clear hS; intro e w hR; (try dsimp only [bfp, BS.cells, oint, List.length_nil, List.length_cons, List.nil_append] at hR); obtain ⟨mm, b, bst, mb, B, jk, cap, ⟨rfl, y1, y2, y3, y4⟩, hS⟩ := hR; refine ⟨_, rfl, ?_⟩; refine XX 1 hS rfl (Xn (Xs (Xs (Xg (XX 1 hS rfl (XR hS (rPNil rfl rfl) rfl (Xn (Xf rfl (Xk (Xs (Xg (XX 1 hS rfl (Xn (Xb ?_))))))))))))))
        have hS1 : MRS (stickySrc S bst) b mm mb cap jk pl m.kids 1 (cel b3 [v, mv] 80 (0, 0) :: cel sb (bsn x.part (.slice (some ⟨bp, op, none⟩) x.path.length kp) fldsV x.no peek partV) 76 (0, 0) :: L) w := by
          refine .inl ⟨rfl, B, y1, y2, by rw [y3, cont_kids hk], ?_⟩; show St W (bfp (stickySrc S bst) b B (cel mm [ptr b 0, .pointer none, .int .i64 0, .slice (some ⟨mb, 0, none⟩) 2 cap, .slice (some ⟨mb, 0, none⟩) (4 + (98 :: pl).length) cap, .slice (some ⟨mb, 2, none⟩) (4 + (98 :: pl).length) (cap - 2), .slice (some ⟨mb, 2, none⟩) (4 + (98 :: pl).length - 2) (cap - 2)] 148 (0, 0) :: _)) w; rw [show 4 + (98 :: pl).length - 2 = 2 + (98 :: pl).length by omega]; exact hS
        clear hS y1 y2 y3; intro a hE; refine cw_loop (fun (j : Nat) a w => Env Tryz.f36.ntmps (envL [(1, .iface S.T S.v), (2, ptr sb 0), (3, ptr b3 0), (8, .int .i64 (i : Int)), (9, .int .i64 (n : Int)), (10, ptr mm 0), (11, .int .i64 (j : Int))]) a ∧ (1 ≤ j ∧ j ≤ n) ∧ MRS (stickySrc S bst) b mm mb cap jk pl m.kids j (cel b3 [v, mv] 80 (0, 0) :: cel sb (bsn x.part (.slice (some ⟨bp, op, none⟩) x.path.length kp) fldsV x.no peek partV) 76 (0, 0) :: L) w) (fun j => n - j) 1 ⟨hE.cut ⟨rfl, rfl, rfl, rfl, rfl, rfl, rfl, trivial⟩, ⟨Nat.le_refl _, hn1⟩, hS1⟩ ?_; clear hS1 hE a; rintro j a w ⟨hE, ⟨hj1, hj2⟩, hM⟩; have hS : St W [] w := by
          rcases hM with ⟨_, B, _, _, _, h⟩ | ⟨_, _, _, _, _, h⟩
          · exact h.sub
          · exact h.sub
        rcases hkj : m.kids[j - 1]? with _ | k
        · have hdj : m.kids.drop (j - 1) = [] := List.drop_of_length_le (List.getElem?_eq_none_iff.1 hkj); revert a; refine Xs (Xs (Xg (XX 2 hS rfl (XR hS (rCmp rfl rfl (cmp_leqT (by omega))) rfl ?_)))); refine Xn (Xt rfl (Xk (Xs (Xb (Xs (Xg (XX 1 hS rfl ?_))))))); refine XC hS (gCall rfl) rfl (cNextE hM y4 hlow (by omega) hdj t5 (by omega)) ?_; clear hS; intro e w hR; (try dsimp only [bfp, BS.cells, oint, List.length_nil, List.length_cons, List.nil_append] at hR); obtain ⟨rfl, hS⟩ := hR; refine ⟨_, rfl, ?_⟩; refine XX 1 hS rfl (XR hS (rExtract rfl rfl) rfl (XR hS (rExtract rfl rfl) rfl (XX 2 hS rfl (Xn (Xs (Xs (Xg (XX 1 hS rfl (XR hS (rLoadO rfl g.g1) rfl (XR hS (rISame rfl rfl) rfl (Xn (Xt rfl (Xs ?_))))))))))))); refine Xd [.s, .s, .s] mixed (by kernel_rfl) hS ?_; clear hS; intro w hS; refine XS (rLoadO rfl g.g0) rfl (XS (rAssign rfl) rfl (XS (rAssign rfl) rfl (Xn (Xr ?_))))
          refine X2 rfl rfl rfl (.inl ⟨hI.none ?_ ?_, rfl, hS.arr⟩)
          · dsimp only; rw [hdrop, pathTo_step hk, List.getElem?_eq_none (by have := List.getElem?_eq_none_iff.1 hkj; omega)]
          · intro h0; rcases Nat.eq_zero_or_pos i with hi0 | hi0
            · have := (hI.at0 hi0).1; dsimp only at this; rw [this] at hk; exact absurd hk h0
            · exact absurd (hI.at1 hi0) h0
        · have hkok := mls_ok_at (ml_ok_kids hd1).1 hkj; have hul := undr_len pl (j - 1); have hkl := undr_low hlow (j - 1); have hkf := flds_ok hkok hkl (by omega); have hknum : k.num ≤ 16 := by
            have h1 := mls_num_at hkj; have h2 := ml_kids_num m; have h3 : m.num ≤ 16 := hI.num; omega
          revert a; refine Xs (Xs (Xg (XX 2 hS rfl (XR hS (rCmp rfl rfl (cmp_leqT (by omega))) rfl ?_)))); refine Xn (Xt rfl (Xk (Xs (Xb (Xs (Xg (XX 1 hS rfl ?_))))))); refine XC hS (gCall rfl) rfl (cNextS hM y4 hlow (by omega) hkj hkf.1 hkf.2 (by omega)) ?_; clear hS; intro e w hR; (try dsimp only [bfp, BS.cells, oint, List.length_nil, List.length_cons, List.nil_append] at hR); obtain ⟨p, B2, v2, mv2, Fs2, ⟨rfl, z1, z2, z3, z4⟩, hS⟩ := hR; refine ⟨_, rfl, ?_⟩; refine XX 1 hS rfl (XR hS (rExtract rfl rfl) rfl (XR hS (rExtract rfl rfl) rfl (XX 2 hS rfl (Xn (Xs (Xs (Xg (XX 1 hS rfl (XR hS (rLoadO rfl g.g1) rfl (XR hS (rNilI2 rfl rfl) rfl (Xn (Xf rfl (Xs (Xg ?_)))))))))))))); refine XX 1 hS rfl (XR hS (rNilNilN rfl) rfl (Xn (Xf rfl (Xk (Xs ?_))))); have hov := own_one (hS.tk1 (own 141 1 v2 Fs2.length (ptrs Fs2.reverse))); have hmv := hm_one (hS.tk1 (hmSL Fs2.reverse mv2))
          rcases Nat.lt_or_ge j n with hjn | hjn
          · refine Xg (XX 2 hS rfl (XR hS (rEqN (m := j) (n := n) rfl rfl (b := false) (decide_eq_false (by omega))) rfl ?_)); refine Xn (Xf rfl (Xk (Xg (XX 1 hS rfl (XR hS (rAddN (n := 1) rfl rfl (by first | omega | (simp <;> omega)) rfl) rfl ?_))))); refine XX 1 hS rfl (Xn ?_); have hS2 := mrp_shut (kids := m.kids) (d := d - 1) hS z1 z2 z3 hlow hkok (by omega) hknum; intro a hE; refine ⟨j + 1, by omega, hE.cut ⟨rfl, rfl, rfl, rfl, rfl, rfl, rfl, trivial⟩, ⟨by omega, by omega⟩, .inr ⟨by omega, p, v2, mv2, k.cont (undr pl (j - 1)), ?_⟩⟩; rw [Nat.add_sub_cancel]; exact hS2.arr
          · obtain rfl : j = n := by omega
            refine Xg (XX 2 hS rfl (XR hS (rEqN (m := j) (n := j) rfl rfl (b := true) (decide_eq_true rfl)) rfl (Xn (Xt rfl (Xs (Xg (XX 1 hS rfl (XR hS (rIface rfl) rfl (XX 1 hS rfl (Xn (Xs (Xg (XX 1 hS rfl (XR hS (rNil rfl) rfl ?_)))))))))))))); refine XR hS (rField rfl) rfl (XR hS (rLoadH rfl) rfl ?_); refine XN hS (dStoreH (v := v) (mv := mv) rfl rfl hov hmv) ?_; clear hS; intro _ w hS; refine Xn (Xe rfl (Xg (XX 1 hS rfl (XR hS (rAddN (n := 1) rfl rfl (by first | omega | (simp <;> omega)) rfl) rfl ?_)))); refine XX 1 hS rfl (Xn ?_); have hS1 := hS.tk6 ((stickySrc S bst).inv B2.rest) (bys 5 B2.bb B2.c) (old W) (cel b (B2.cells (stickySrc S bst)) 171 (0, 0)) (own 141 1 v2 Fs2.length (ptrs Fs2.reverse)) (hmSL Fs2.reverse mv2)
            have hS2 := mrp_shut (kids := m.kids) (d := d - 1) (L := cel b3 [v2, mv2] 80 (0, 0) :: cel sb (bsn x.part (.slice (some ⟨bp, op, none⟩) x.path.length kp) fldsV x.no peek partV) 76 (0, 0) :: L) (p := p) (Fs := Fs2) (v := v2) (mv := mv2) (SS := stickySrc S bst) (b := b) (mm := mm) (mb := mb) (cap := cap) (jk := jk) hS1.arr z1 z2 z3 hlow hkok (by omega) hknum; intro a hE; refine ⟨⟨i + 1, partSrc (stickySrc S bst) b (DD mm mb cap jk pl p v2 mv2 (ptr p 0) (j : Int)) (Mls.aft (m.kids.drop j) pl j) (DD_ok y4 hlow (by omega)), k, undr pl (j - 1), v2, mv2, Fs2⟩, by dsimp only; omega, hE.cut ⟨rfl, rfl, rfl, rfl, trivial⟩, ⟨copies_part (hD := DD_ok y4 hlow (by omega)), by dsimp only; omega, z4, ⟨d - 1, hkok, by dsimp only; omega⟩, hkl, hknum, (fun h => absurd h (Nat.succ_ne_zero _)), fun _ => ?_, ?_⟩, ?_⟩
            · rcases Nat.eq_zero_or_pos i with hi0 | hi0
              · have := (hI.at0 hi0).1; dsimp only at this; rw [← this]; exact hk
              · exact hI.at1 hi0
            · have h0 := hI.path; dsimp only at h0 ⊢; rw [h0, hdrop, pathTo_step hk, hkj]
            · show St W (cel b3 [v2, mv2] 80 (0, 0) :: own 141 1 v2 Fs2.length (ptrs Fs2.reverse) :: hmSL Fs2.reverse mv2 :: bs fld Fs2.reverse :: partInv (stickySrc S bst) b (DD mm mb cap jk pl p v2 mv2 (ptr p 0) (j : Int)) (Mls.aft (m.kids.drop j) pl j) (k.cont (undr pl (j - 1))) :: old W :: cel sb (bsn x.part (.slice (some ⟨bp, op, none⟩) x.path.length kp) fldsV x.no peek partV) 76 (0, 0) :: L) w; exact hS2.arr
      · obtain ⟨k1, k2, k3⟩ := ct_single hd1 hk pl; have hno : pathTo m (x.path.drop i) pl = none := by rw [hdrop, pathTo_no hk]
        have hm00 : i = 0 → m0.kind ≠ 1 := fun h0 => by
          have := (hI.at0 h0).1; dsimp only at this; rw [← this]; exact hk
        have hpne : x.path ≠ [] := fun h => by rw [h] at hi; exact absurd hi (Nat.not_lt_zero _)
        obtain ⟨n0, hn00⟩ : ∃ n0, x.path[0]? = some n0 := ⟨_, List.getElem?_eq_getElem (by omega)⟩; obtain ⟨bp2, op2, kp3, e2, a0⟩ := hpv.at (i := 0) (n := (n0 : Int)) (by rw [List.getElem?_map, hn00]; rfl); simp only [Value.slice.injEq, Option.some.injEq, Addr.mk.injEq, and_true] at e2; obtain ⟨⟨rfl, rfl⟩, _, _⟩ := e2; have hno2 : ¬ (x.path.length = 1 ∧ n0 = 1) → secB m0 x = none := fun hne => hI.none hno fun _ => ⟨hpne, fun h => by
          apply hne; rw [h] at hn00 ⊢; exact ⟨rfl, (Option.some.inj hn00).symm⟩⟩
        refine Xg (XR hS (rLoadH rfl) rfl (XX 1 hS rfl ?_)); refine XC hS (gCall rfl) rfl (c42n (S := S) (hS.tk5 (own 141 1 v Fs.length (ptrs Fs.reverse)) (hmSL Fs.reverse mv) (bs fld Fs.reverse) (S.inv (m.cont pl)) (old W)) haF (ctIs_flds hd1 pl) k1 k2 k3 (by omega)) ?_; clear hS; intro e w hR; (try dsimp only [bfp, BS.cells, oint, List.length_nil, List.length_cons, List.nil_append] at hR); obtain ⟨rfl, hS⟩ := hR; refine ⟨_, rfl, ?_⟩; refine XX 1 hS rfl (Xn (Xs (Xs (Xg (XX 1 hS rfl (XR hS (rNilP rfl rfl) rfl (Xn (Xt rfl (Xs (Xs ?_)))))))))); by_cases hl1 : x.path.length = 1
        · by_cases hn01 : n0 = 1
          · refine Xg (XX 1 hS rfl (XR hS (rNil rfl) rfl (XR hS (rField rfl) rfl (XR hS (rField rfl) rfl (XR hS (rLoad rfl (by exact rfl)) rfl ?_))))); refine XR hS (rLen rfl) rfl (XR hS (rEqN (n := 1) rfl rfl (b := true) (decide_eq_true hl1)) rfl (XX 10 hS rfl (XA rfl rfl (XR hS (rNil rfl) rfl (XX 7 hS rfl (XA rfl rfl (XR hS (rField rfl) rfl (XX 6 hS rfl (XA rfl rfl (XR hS (rField rfl) rfl (XX 5 hS rfl (XA rfl rfl (XR hS (rLoad rfl (by exact rfl)) rfl ?_))))))))))))); refine XX 4 hS rfl (XA rfl rfl (XR hS (rIdxA1 (i := 0) rfl rfl (by omega)) rfl ?_)); refine XX 3 hS rfl (XA rfl rfl (XR hS (rLoadO (V := W) rfl a0) rfl (XX 2 hS rfl (XA rfl rfl (XR hS (rEqN (m := n0) (n := 1) rfl rfl (b := true) (decide_eq_true hn01)) rfl (XX 1 hS rfl (Xn (Xt rfl (Xe rfl ?_))))))))); have hp1 : x.path = [1] := by
              match hpx : x.path, hl1, hn00 with
              | [y], _, hn00 => simp at hn00; rw [hn00, hn01]
            have hi0 : i = 0 := by omega
            obtain ⟨h1, h2⟩ := hI.at0 hi0; dsimp only at h1 h2; intro a hE; refine ⟨b3, S, m, pl, v, mv, Fs, ⟨hI.C, ?_, haF, ⟨d, hd1, hd2⟩, hlow, hI.num, hone2⟩, hE.cut ⟨rfl, rfl, rfl, trivial⟩, hS.arr⟩; unfold partAt; rw [if_neg (by rw [← h1]; exact hk), if_pos (.inr hp1), h1, h2]
          · refine Xg (XX 1 hS rfl (XR hS (rNil rfl) rfl (XR hS (rField rfl) rfl (XR hS (rField rfl) rfl (XR hS (rLoad rfl (by exact rfl)) rfl ?_))))); refine XR hS (rLen rfl) rfl (XR hS (rEqN (n := 1) rfl rfl (b := true) (decide_eq_true hl1)) rfl (XX 10 hS rfl (XA rfl rfl (XR hS (rNil rfl) rfl (XX 7 hS rfl (XA rfl rfl (XR hS (rField rfl) rfl (XX 6 hS rfl (XA rfl rfl (XR hS (rField rfl) rfl (XX 5 hS rfl (XA rfl rfl (XR hS (rLoad rfl (by exact rfl)) rfl ?_))))))))))))); refine XX 4 hS rfl (XA rfl rfl (XR hS (rIdxA1 (i := 0) rfl rfl (by omega)) rfl ?_)); refine XX 3 hS rfl (XA rfl rfl (XR hS (rLoadO (V := W) rfl a0) rfl (XX 2 hS rfl (XA rfl rfl (XR hS (rEqN (m := n0) (n := 1) rfl rfl (b := false) (decide_eq_false hn01)) rfl (XX 1 hS rfl (Xn (Xf rfl (Xk (Xs ?_)))))))))); refine Xd [.s, .s, .s] mixed (by kernel_rfl) hS ?_; clear hS; intro w hS
            refine XS (rLoadO rfl g.g0) rfl (XS (rAssign rfl) rfl (XS (rAssign rfl) rfl (Xn (Xr ?_)))); exact X2 rfl rfl rfl (.inl ⟨hno2 fun h => hn01 h.2, rfl, hS.arr⟩)
        · refine Xg (XX 1 hS rfl (XR hS (rNil rfl) rfl (XR hS (rField rfl) rfl (XR hS (rField rfl) rfl (XR hS (rLoad rfl (by exact rfl)) rfl ?_))))); refine XR hS (rLen rfl) rfl (XR hS (rEqN (n := 1) rfl rfl (b := false) (decide_eq_false hl1)) rfl (XX 10 hS rfl (Xn (Xf rfl (Xk (Xs ?_)))))); refine Xd [.s, .s, .s] mixed (by kernel_rfl) hS ?_; clear hS; intro w hS; refine XS (rLoadO rfl g.g0) rfl (XS (rAssign rfl) rfl (XS (rAssign rfl) rfl (Xn (Xr ?_)))); exact X2 rfl rfl rfl (.inl ⟨hno2 fun h => hl1 h.1, rfl, hS.arr⟩)
    · have hie : i = x.path.length := by have := hI.i; dsimp only at this; omega
      revert a; refine Xs (Xs (Xg (XX 2 hS rfl (XR hS (rNil rfl) rfl (XR hS (rField rfl) rfl (XR hS (rField rfl) rfl (XR hS (rLoad rfl (by exact rfl)) rfl ?_))))))); refine XR hS (rLen rfl) rfl (XR hS (rCmp rfl rfl (cmp_lssF (by omega))) rfl ?_); refine Xn (Xf rfl (Xe rfl ?_)); intro a hE; refine ⟨b3, S, m, pl, v, mv, Fs, ⟨hI.C, ?_, hI.ha, hI.d, hI.low, hI.num, hm_one (hS.tk1 (hmSL Fs.reverse mv))⟩, hE.cut ⟨rfl, rfl, rfl, trivial⟩, hS.arr⟩; have h0 := hI.path; dsimp only at h0; rw [hie, List.drop_length, pathTo] at h0; unfold partAt; by_cases hk : m0.kind = 1
      · rw [if_pos hk, h0]
      · rcases Nat.eq_zero_or_pos i with hi0 | hi0
        · have hnil : x.path = [] := List.length_eq_zero_iff.1 (by omega); obtain ⟨h1, h2⟩ := hI.at0 hi0; dsimp only at h1 h2; rw [if_neg hk, if_pos (.inl hnil), h1, h2]
        · exact absurd (hI.at1 hi0) hk
  · clear hS hE a; rintro a w ⟨b3, S, m, pl, v, mv, Fs, hF, hE, hS⟩; obtain ⟨d, hd1, hd2⟩ := hF.d; have hd0 := (ml_ok_kids hd1).2; have hfl := flds_ok (pl := pl) hd1 hF.low (by omega); have hFl := fsAre_len hF.ha; have hov := own_one (hS.tk1 (own 141 1 v Fs.length (ptrs Fs.reverse))); have hcl := cont_len m d pl hd1 hF.low hd2; have hnum := hF.num; obtain ⟨G, hG⟩ : ∃ G, G = Fs.reverse := ⟨_, rfl⟩; have hGl : G.length = Fs.length := by rw [hG, List.length_reverse]
    rw [← hG, ← hGl] at hS; have hGl2 : G.length ≤ 12 := by have := hfl.2; omega
    have hGk : G.reverse.map (fun F => (F.key, F.raw)) = (m.flds pl).map fun f => (f.name, f.raw) := by
      rw [hG, List.reverse_reverse]; have := congrArg (List.map fun t : List UInt8 × List UInt8 × List UInt8 => (t.1, t.2.2)) hF.ha; simpa [Function.comp_def] using this
    have hparts : x.part = [] ∨ x.part = txW ∨ x.part = hdW ∨ x.part = miW := by
      by_cases hpn : x.path = []
      · rcases (hx.top hpn).1 with h | h | h
        · exact .inl h
        · exact .inr (.inl h)
        · exact .inr (.inr (.inl h))
      · rcases (hx.deep hpn).1 with h | h
        · exact .inl h
        · exact .inr (.inr (.inr h))
    revert a; refine Xs (Xg ?_); refine XD hS (dAlloc) rfl ?_; clear hS; intro vr w hR; obtain ⟨b95, rfl, hS⟩ := hR; replace hS := St.bfw_nil (lr := 0) (show St W (cel b95 (bfC (.slice none 0 0) 0) 110 (0, 0) :: _) w from hS); refine XX 1 hS rfl (Xn (Xs (Xg (XR hS (rLoadH rfl) rfl ?_)))); refine XD hS (dAlloc) rfl ?_; clear hS; intro vr w hR; obtain ⟨b15, rfl, hS⟩ := hR; replace hS := (show St W (cel b15 [.slice none 0 0, .map none] 80 (0, 0) :: _) w from hS); refine XN hS (dStoreH (v := .slice none 0 0) (mv := .map none) rfl rfl hov hF.one) ?_; clear hS; intro _ w hS; refine Xn ?_; intro a hE
    refine cw_seqj (fun a w => ∃ (v2 mv2 : Value) (Cs : List Fld), (mv2.oneCell' = true ∧ Cs.length ≤ 12 ∧ Cs.reverse.map (·.raw) = ((m.flds pl).filter (keepF x.flds x.no)).map HF.raw) ∧ Env Tryz.f36.ntmps (envL [(1, .iface S.T S.v), (2, ptr sb 0), (14, ptr b95 0), (15, ptr b15 0)]) a ∧ St W (cel b15 [v2, mv2] 80 (0, 0) :: own 141 1 v2 Cs.length (ptrs Cs) :: bs fld Cs :: bfw b95 [] :: S.inv (m.cont pl) :: old W :: cel sb (bsn x.part (.slice qp x.path.length kp) fldsV x.no peek partV) 76 (0, 0) :: L) w) ?_ ?_; refine cw_seq ?_
    · rcases hfv with ⟨hf0, rfl⟩ | ⟨hf1, hf2⟩
      · revert a; refine Xg (XX 1 hS rfl (XR hS (rNil rfl) rfl (XR hS (rField rfl) rfl (XR hS (rField rfl) rfl (XR hS (rLoad rfl (by exact rfl)) rfl ?_))))); refine XR hS (rNilSN rfl rfl) rfl (Xn (Xf rfl (Xk ?_))); intro a hE; refine ⟨v, mv, G, ⟨hF.one, hGl2, ?_⟩, hE.cut ⟨rfl, rfl, rfl, rfl, trivial⟩, hS.arr⟩; rw [hf0, show (m.flds pl).filter (keepF [] x.no) = m.flds pl from List.filter_eq_self.2 (fun f _ => rfl)]; have := congrArg (List.map fun t : List UInt8 × List UInt8 => t.2) hGk; simpa [Function.comp_def] using this
      · obtain ⟨bf, off, kf, rfl, hat⟩ := hf2.some hf1; have hnm : ∀ y ∈ x.flds, ∀ c ∈ y, isNm c = true := fun y hy => (hx.fnam y hy).2.2; have hfl8 := hx.flen; revert a; refine Xg (XX 1 hS rfl (XR hS (rNil rfl) rfl (XR hS (rField rfl) rfl (XR hS (rField rfl) rfl (XR hS (rLoad rfl (by exact rfl)) rfl ?_))))); refine XR hS (rSNilN rfl rfl) rfl (Xn (Xt rfl (Xs (Xg ?_)))); refine XC hS (gCall rfl) rfl (c44 (hb := b3) (v := v) (mv := mv) (Gs := G) (hS.tk3 (cel b3 [v, mv] 80 (0, 0)) (own 141 1 v G.length (ptrs G)) (bs fld G)) (by omega)) ?_; clear hS; intro e w hR; (try dsimp only [bfp, BS.cells, oint, List.length_nil, List.length_cons, List.nil_append] at hR); obtain ⟨v', mv', rfl, hS⟩ := hR; refine ⟨_, rfl, ?_⟩; have hov2 := own_one (hS.tk1 (own 141 1 v' G.length (ptrs G))); have hmv2 := hm_one (hS.tk1 (hmSL G mv'))
        refine XN hS (dStoreH (v := v) (mv := mv) rfl rfl hov2 hmv2) ?_; clear hS; intro _ w hS; refine Xn (Xs (Xg (XX 1 hS rfl (XR hS (rNil rfl) rfl (XR hS (rField rfl) rfl (XR hS (rField rfl) rfl (XR hS (rLoad rfl (by exact rfl)) rfl ?_))))))); refine Xn ?_; intro a hE; have hnob : x.no = true ∨ x.no = false := by cases x.no <;> simp
        rcases hnob with hno | hno
        · rw [hno] at hE; revert a; refine Xt rfl (Xs (Xg (XX 1 hS rfl (XR hS (rNil rfl) rfl (XR hS (rField rfl) rfl (XR hS (rField rfl) rfl (XR hS (rLoad rfl (by exact rfl)) rfl ?_))))))); refine XR hS (rLen rfl) rfl (XX 1 hS rfl (Xn (Xb ?_))); have hS1 := St.hmx_of (hS.tk1 (hmSL G mv')); intro a hE
          refine cw_loop (fun (σ : Nat × Value × List Fld) a w => Env Tryz.f36.ntmps (envL [(1, .iface S.T S.v), (2, ptr sb 0), (14, ptr b95 0), (15, ptr b15 0), (113, .slice (some ⟨bf, off, none⟩) x.flds.length kf), (114, .int .i64 (x.flds.length : Int)), (115, .int .i64 (σ.1 : Int))]) a ∧ σ.1 ≤ x.flds.length ∧ σ.2.2 = G.filter (fun F => pkN (x.flds.take σ.1) F.key != true) ∧ St W (cel b15 [σ.2.1, mv'] 80 (0, 0) :: own 141 1 σ.2.1 σ.2.2.length (ptrs σ.2.2) :: hmx mv' :: bs fld G :: bfw b95 [] :: S.inv (m.cont pl) :: old W :: cel sb (bsn x.part (.slice qp x.path.length kp) (.slice (some ⟨bf, off, none⟩) x.flds.length kf) x.no peek partV) 76 (0, 0) :: L) w) (fun σ => x.flds.length - σ.1) (0, v', G) ⟨hE.cut ⟨rfl, rfl, rfl, rfl, rfl, rfl, rfl, trivial⟩, Nat.zero_le _, (List.filter_eq_self.2 (fun F _ => rfl)).symm, hS1.arr⟩ ?_; clear hS hS1 hE a; rintro ⟨q, v3, Cs⟩ a w ⟨hE, hq, hCs, hS⟩
          dsimp only at hE hq hCs hS; rcases Nat.lt_or_ge q x.flds.length with h1 | h1
          · obtain ⟨y, hy⟩ : ∃ y, x.flds[q]? = some y := ⟨_, List.getElem?_eq_getElem h1⟩; have hym := List.mem_of_getElem? hy; have hCl : Cs.length ≤ 12 := by rw [hCs]; exact Nat.le_trans (List.length_filter_le _ _) hGl2
            revert a; refine Xs (Xg (XR hS (rCmp rfl rfl (cmp_lssT (by omega))) rfl ?_)); refine Xn (Xs (Xt rfl (Xk (Xs (Xb (Xs (Xg (XR hS (rIdxA1 (i := q) rfl rfl (by omega)) rfl ?_)))))))); refine XR hS (rLoadO (V := W) rfl (hat q y hy)) rfl (XX 1 hS rfl (Xn (Xg (XX 1 hS rfl ?_)))); refine XC hS (gCall rfl) rfl (c45 (hb := b15) (Gs := G) (Cs := Cs) (k := y) hS (fun F hF => by rw [hCs] at hF; exact (List.mem_filter.1 hF).1) (hnm y hym) (by have := (hx.fnam y hym).2.1; omega) (by omega)) ?_; clear hS; intro e w hR; (try dsimp only [bfp, BS.cells, oint, List.length_nil, List.length_cons, List.nil_append] at hR); obtain ⟨v4, Cs', ⟨rfl, hCs'⟩, hS⟩ := hR; refine ⟨_, rfl, ?_⟩; refine Xn (Xg (XR hS (rAddN (n := 1) rfl rfl (by first | omega | (simp <;> omega)) rfl) rfl ?_)); refine XX 1 hS rfl (Xn ?_); intro a hE
            refine ⟨(q + 1, v4, Cs'), by dsimp only; omega, hE.cut ⟨rfl, rfl, rfl, rfl, rfl, rfl, rfl, trivial⟩, by dsimp only; omega, ?_, hS⟩; dsimp only; rw [hCs', hCs, List.filter_filter]; refine List.filter_congr fun F _ => ?_; rw [List.take_add_one, hy]; unfold pkN; simp only [Option.toList_some, List.any_append, List.any_cons, List.any_nil, Bool.or_false]; by_cases hc0 : canonF true y = F.key
            · simp [hc0]
            · have hc1 : F.key ≠ canonF true y := fun e => hc0 e.symm; simp [hc0, hc1]
          · have hqe : q = x.flds.length := by omega
            revert a; refine Xs (Xg (XR hS (rCmp rfl rfl (cmp_lssF (by omega))) rfl ?_)); refine Xn (Xs (Xf rfl (Xe rfl ?_))); rw [hqe, List.take_length] at hCs; intro a hE; refine ⟨v3, mv', Cs, ⟨hmv2, by rw [hCs]; exact Nat.le_trans (List.length_filter_le _ _) hGl2, ?_⟩, hE.cut ⟨rfl, rfl, rfl, rfl, trivial⟩, ?_⟩
            · rw [hCs, hno]; exact keep_map hGk hfl.1 hf1 hnm
            · have hS2 := St.bs_sub (l1 := Cs) (by rw [hCs]; exact List.filter_sublist) (hS.tk1 (bs fld G)); exact hS2.arr
        · rw [hno] at hE; revert a; refine Xf rfl (Xs (Xg (XX 1 hS rfl (XR hS (rNil rfl) rfl (XR hS (rField rfl) rfl (XR hS (rField rfl) rfl (XR hS (rLoad rfl (by exact rfl)) rfl ?_))))))); refine XR hS (rLen rfl) rfl ?_; refine XD hS (dMapN rfl) rfl ?_; clear hS; intro vr w hR; obtain ⟨b128, rfl, hS⟩ := hR; refine XX 1 hS rfl (Xn (Xs (Xs ?_))); replace hS := hS.new_mp; refine Xg (XX 1 hS rfl (XR hS (rNil rfl) rfl (XR hS (rField rfl) rfl (XR hS (rField rfl) rfl (XR hS (rLoad rfl (by exact rfl)) rfl ?_))))); refine XR hS (rLen rfl) rfl (XX 1 hS rfl (Xn (Xb ?_))); intro a hE
          refine cw_loop (fun (σ : Nat × List (List UInt8 × Value)) a w => Env Tryz.f36.ntmps (envL [(1, .iface S.T S.v), (2, ptr sb 0), (14, ptr b95 0), (15, ptr b15 0), (18, .map (some b128)), (133, .slice (some ⟨bf, off, none⟩) x.flds.length kf), (134, .int .i64 (x.flds.length : Int)), (135, .int .i64 (σ.1 : Int))]) a ∧ σ.1 ≤ x.flds.length ∧ (∀ k, mget σ.2 k = if pkN (x.flds.take σ.1) k = true then some (.agg #[]) else none) ∧ St W (mp b128 σ.2 :: cel b15 [v', mv'] 80 (0, 0) :: own 141 1 v' G.length (ptrs G) :: hmSL G mv' :: bs fld G :: bfw b95 [] :: S.inv (m.cont pl) :: old W :: cel sb (bsn x.part (.slice qp x.path.length kp) (.slice (some ⟨bf, off, none⟩) x.flds.length kf) x.no peek partV) 76 (0, 0) :: L) w) (fun σ => x.flds.length - σ.1) (0, []) ⟨hE.cut ⟨rfl, rfl, rfl, rfl, rfl, rfl, rfl, rfl, trivial⟩, Nat.zero_le _, fun k => rfl, hS.arr⟩ ?_; clear hS hE a
          rintro ⟨q, ks⟩ a w ⟨hE, hq, hks, hS⟩; dsimp only at hE hq hks hS; rcases Nat.lt_or_ge q x.flds.length with h1 | h1
          · obtain ⟨y, hy⟩ : ∃ y, x.flds[q]? = some y := ⟨_, List.getElem?_eq_getElem h1⟩; have hym := List.mem_of_getElem? hy; revert a; refine Xs (Xg (XR hS (rCmp rfl rfl (cmp_lssT (by omega))) rfl ?_)); refine Xn (Xs (Xt rfl (Xk (Xs (Xb (Xs (Xg (XR hS (rIdxA1 (i := q) rfl rfl (by omega)) rfl ?_)))))))); refine XR hS (rLoadO (V := W) rfl (hat q y hy)) rfl (XX 1 hS rfl (Xn (Xg (XX 2 hS rfl ?_)))); refine XC hS (gCall rfl) rfl (c46 hS (hnm y hym) (by have := (hx.fnam y hym).2.1; omega)) ?_; clear hS; intro e w hR; (try dsimp only [bfp, BS.cells, oint, List.length_nil, List.length_cons, List.nil_append] at hR); obtain ⟨rfl, hS⟩ := hR; refine ⟨_, rfl, ?_⟩; refine XR hS (rBuild rfl rfl) rfl ?_; refine XN hS (dMapSet rfl rfl rfl .head) ?_; clear hS; intro _ w hS; refine Xn (Xg (XR hS (rAddN (n := 1) rfl rfl (by first | omega | (simp <;> omega)) rfl) rfl ?_)); refine XX 1 hS rfl (Xn ?_)
            intro a hE; refine ⟨(q + 1, mset ks (canonF true y) (.agg #[])), by dsimp only; omega, hE.cut ⟨rfl, rfl, rfl, rfl, rfl, rfl, rfl, rfl, trivial⟩, by dsimp only; omega, ?_, hS⟩; intro k; dsimp only; rw [List.take_add_one, hy]; unfold pkN at hks ⊢; simp only [Option.toList_some, List.any_append, List.any_cons, List.any_nil, Bool.or_false]; by_cases hc0 : canonF true y = k
            · subst hc0; rw [mget_mset]; simp
            · rw [mget_mset_ne hc0, hks k, decide_eq_false hc0, Bool.or_false]
          · have hqe : q = x.flds.length := by omega
            subst hqe; rw [List.take_length] at hks; revert a; refine Xs (Xg (XR hS (rCmp rfl rfl (cmp_lssF (by omega))) rfl ?_)); refine Xn (Xs (Xf rfl (Xe rfl (Xs (Xg ?_))))); refine XC hS (gCall rfl) rfl (c47 hS) ?_; clear hS; intro e w hR; (try dsimp only [bfp, BS.cells, oint, List.length_nil, List.length_cons, List.nil_append] at hR); obtain ⟨fb, rfl, hS⟩ := hR; refine ⟨_, rfl, ?_⟩; refine XX 1 hS rfl (Xn (Xb ?_)); obtain ⟨q0, cap, rfl, hncap⟩ := own_form (hS.tk1 (own 141 1 v' G.length (ptrs G))); obtain ⟨n, hnG⟩ : ∃ n, n = G.length := ⟨_, rfl⟩; rw [← hnG] at hS hncap hGl2; have hfin : ∀ K : List Fld, K = G.filter (fun F => pkN x.flds F.key) → K.length ≤ 12 ∧ K.reverse.map (·.raw) = ((m.flds pl).filter (keepF x.flds x.no)).map HF.raw := fun K hK => by
              refine ⟨by rw [hK]; exact Nat.le_trans (List.length_filter_le _ _) (by omega), ?_⟩; have := keep_map (no := false) hGk hfl.1 hf1 hnm; rw [hno, ← this, hK]; congr 3; funext F; cases pkN x.flds F.key <;> rfl
            rcases Nat.eq_zero_or_pos n with hn0 | hn0
            · subst hn0; have hG0 : G = [] := List.length_eq_zero_iff.1 hnG.symm; intro a hE; refine cw_loop (fun (i : Unit) a w => Env Tryz.f36.ntmps (envL [(1, .iface S.T S.v), (2, ptr sb 0), (14, ptr b95 0), (15, ptr b15 0), (21, .iface 158 (ptr fb 0))]) a ∧ St W (cel fb [ptr b15 0, .int .i64 (-1)] 160 (0, 0) :: cel b15 [.slice q0 0 cap, mv'] 80 (0, 0) :: own 141 1 (.slice q0 0 cap) 0 (ptrs G) :: bs fld G :: bfw b95 [] :: S.inv (m.cont pl) :: old W :: cel sb (bsn x.part (.slice qp x.path.length kp) (.slice (some ⟨bf, off, none⟩) x.flds.length kf) x.no peek partV) 76 (0, 0) :: L) w) (fun i => 0) () ⟨hE.cut ⟨rfl, rfl, rfl, rfl, rfl, trivial⟩, hS.arr⟩ ?_; clear hS hE a; rintro ⟨⟩ a w ⟨hE, hS⟩; revert a; refine Xs (Xs (Xg (XX 1 hS rfl ?_)))
              refine XC hS (gInv rfl rfl) rfl (c194 (hb := b15) (q := q0) (n := 0) (cap := cap) (c := 0) (mv := mv') hS (by decide) (by omega) (by omega)) ?_; clear hS; intro e w hR; (try dsimp only [bfp, BS.cells, oint, List.length_nil, List.length_cons, List.nil_append] at hR); obtain ⟨rfl, hS⟩ := hR; refine ⟨_, rfl, ?_⟩; refine Xn (Xf rfl (Xe rfl ?_)); obtain ⟨r1, r2⟩ := hfin [] (by rw [hG0]; rfl); intro a hE; refine ⟨.slice q0 0 cap, mv', [], ⟨hmv2, r1, r2⟩, hE.cut ⟨rfl, rfl, rfl, rfl, trivial⟩, ?_⟩; rw [hG0] at hS; exact hS.arr
            · rcases (hS.tk1 (own 141 1 (.slice q0 n cap) n (ptrs G))).own_cases.2 with ⟨_, h2, _⟩ | ⟨b', cap', junk0, e1, hcap, hj, hS1⟩
              · intro a hE; omega
              simp only [Value.slice.injEq, true_and] at e1; obtain ⟨rfl, rfl⟩ := e1; rcases St.hm_cases (hS1.tk1 (hmSL G mv')) with ⟨h2, _, _⟩ | ⟨mb, es0, rfl, hok0, hS2⟩
              · intro a hE; rw [h2] at hnG; simp at hnG; omega
              clear hS hS1; intro a hE; refine cw_loop (fun (σ : GS) a w => Env Tryz.f36.ntmps (envL [(1, .iface S.T S.v), (2, ptr sb 0), (14, ptr b95 0), (15, ptr b15 0), (18, .map (some b128)), (21, .iface 158 (ptr fb 0))]) a ∧ (σ.t ≤ n ∧ σ.kept = (G.drop σ.t).filter (fun F => pkN x.flds F.key) ∧ σ.t + σ.kept.length ≤ n ∧ σ.junk.length = cap - (σ.t + σ.kept.length) ∧ MapOkP σ.es (G.take σ.t ++ σ.kept)) ∧
                St W (cel fb [ptr b15 0, .int .i64 ((σ.kept.length : Int) - 1)] 160 (0, 0) :: cel b15 [.slice (some ⟨b', 0, none⟩) (σ.t + σ.kept.length) cap, .map (some mb)] 80 (0, 0) :: cel b' (ptrs (G.take σ.t ++ σ.kept) ++ σ.junk) 141 (0, 0) :: mp mb (meE σ.es) :: bs meSL σ.es :: bs fld G :: mp b128 ks :: bfw b95 [] :: S.inv (m.cont pl) :: old W :: cel sb (bsn x.part (.slice qp x.path.length kp) (.slice (some ⟨bf, off, none⟩) x.flds.length kf) x.no peek partV) 76 (0, 0) :: L) w) (fun σ => σ.t) ⟨n, [], junk0, es0⟩ ⟨hE.cut ⟨rfl, rfl, rfl, rfl, rfl, rfl, trivial⟩, ⟨Nat.le_refl _, by dsimp only; rw [List.drop_of_length_le (by omega)]; rfl, Nat.le_refl _, by dsimp only; simpa using hj, fun k _ => by dsimp only; rw [List.take_of_length_le (by omega), List.append_nil]; exact hok0 k⟩, ?_⟩ ?_
              · dsimp only; rw [List.take_of_length_le (by omega), List.append_nil]; show St W (cel fb [ptr b15 0, .int .i64 (-1)] 160 (0, 0) :: cel b15 [.slice (some ⟨b', 0, none⟩) n cap, .map (some mb)] 80 (0, 0) :: cel b' (ptrs G ++ junk0) 141 (0, 0) :: mp mb (meE es0) :: bs meSL es0 :: bs fld G :: mp b128 ks :: bfw b95 [] :: S.inv (m.cont pl) :: old W :: cel sb (bsn x.part (.slice qp x.path.length kp) (.slice (some ⟨bf, off, none⟩) x.flds.length kf) x.no peek partV) 76 (0, 0) :: L) w; exact hS2.arr
              clear hS2 hE a; rintro ⟨t, kept, junk, es⟩ a w ⟨hE, ⟨g1, g2, g3, g4, g5⟩, hS⟩; dsimp only at g1 g2 g3 g4 g5 hS; rcases t with _ | j
              · rw [Nat.zero_add] at hS g4; revert a; refine Xs (Xs (Xg (XX 1 hS rfl ?_))); refine XC hS (gInv rfl rfl) rfl (c194 (hb := b15) (q := some ⟨b', 0, none⟩) (n := kept.length) (cap := cap) (c := kept.length) (mv := .map (some mb)) hS rfl (by omega) (by omega)) ?_; clear hS; intro e w hR; (try dsimp only [bfp, BS.cells, oint, List.length_nil, List.length_cons, List.nil_append] at hR); obtain ⟨rfl, hS⟩ := hR; refine ⟨_, rfl, ?_⟩; refine Xn ?_; intro a hE; rw [decide_eq_false (Nat.lt_irrefl _)] at hE; refine cw_condF hE rfl ?_; refine cw_exit rfl ?_; rw [List.drop_zero] at g2; obtain ⟨r1, r2⟩ := hfin kept g2; refine ⟨.slice (some ⟨b', 0, none⟩) kept.length cap, .map (some mb), kept, ⟨rfl, r1, r2⟩, hE.cut ⟨rfl, rfl, rfl, rfl, trivial⟩, ?_⟩; rw [List.take_zero, List.nil_append] at hS
                have hS3 := (hS.tk1 (cel b' (ptrs kept ++ junk) 141 (0, 0))).own_of (sz := 1) (n := kept.length) (cap := cap) (by simp) (by rw [g4]; omega) (by omega); have hS4 := St.bs_sub (l1 := kept) (by rw [g2]; exact List.filter_sublist) (hS3.tk1 (bs fld G)); exact hS4.arr
              · have hjl : j < G.length := by omega
                obtain ⟨F, hF0⟩ : ∃ F, G[j]? = some F := ⟨_, List.getElem?_eq_getElem hjl⟩; have hFm := List.mem_of_getElem? hF0; have hdrop : G.drop j = F :: G.drop (j + 1) := by
                  rw [List.drop_eq_getElem_cons hjl]; rw [List.getElem?_eq_getElem hjl] at hF0; rw [Option.some.inj hF0]
                have htake : G.take (j + 1) = G.take j ++ [F] := by rw [List.take_add_one, hF0]; rfl
                have hcat : G.take (j + 1) ++ kept = G.take j ++ F :: kept := by rw [htake]; simp
                obtain ⟨x1, x2, hsp⟩ := List.append_of_mem hFm; have hRat : (ptrs (G.take (j + 1) ++ kept) ++ junk)[j + 1 + kept.length - kept.length - 1]? = some (ptr F.p 0) := by
                  rw [show j + 1 + kept.length - kept.length - 1 = j by omega, hcat]; have h1 : (G.take j ++ F :: kept)[j]? = some F := by
                    rw [List.getElem?_append_right (by simp; omega)]; simp [Nat.min_eq_left (Nat.le_of_lt hjl)]
                  rw [List.getElem?_append_left (by simp; omega), List.getElem?_map, h1]; rfl
                revert a; refine Xs (Xs (Xg (XX 1 hS rfl ?_))); refine XC hS (gInv rfl rfl) rfl (c194 (hb := b15) (q := some ⟨b', 0, none⟩) (n := j + 1 + kept.length) (cap := cap) (c := kept.length) (mv := .map (some mb)) hS rfl (by omega) (by omega)) ?_; clear hS; intro e w hR; (try dsimp only [bfp, BS.cells, oint, List.length_nil, List.length_cons, List.nil_append] at hR); obtain ⟨rfl, hS⟩ := hR; refine ⟨_, rfl, ?_⟩; refine Xn ?_; intro a hE; rw [decide_eq_true (show kept.length < j + 1 + kept.length by omega)] at hE; revert a; refine Xt rfl (Xk (Xb (Xs ?_))); have hS1 := hS.tk1 (bs fld G); rw [hsp] at hS1; have hS2 := St.fld_open (St.bs_out hS1); rw [← hsp] at hS2; clear hS hS1; have hS := hS2; clear hS2; refine Xg (XX 2 hS rfl ?_)
                refine XC hS (gInv rfl rfl) rfl (c192 (F := F) (hb := b15) (b' := b') (n := j + 1 + kept.length) (cap := cap) (c := kept.length) (mv := .map (some mb)) (R := ptrs (G.take (j + 1) ++ kept) ++ junk) hS (by omega) (by omega) hRat) ?_; clear hS; intro e w hR; (try dsimp only [bfp, BS.cells, oint, List.length_nil, List.length_cons, List.nil_append] at hR); obtain ⟨rfl, hS⟩ := hR; refine ⟨_, rfl, ?_⟩; refine XR hS (rLookOk (es := ks) (v := .agg #[]) (q := pkN x.flds F.key) rfl rfl Pl.pull (by rw [hks]; split <;> rfl) (by rw [hks]; split <;> simp_all)) rfl ?_; refine XX 1 hS rfl (XR hS (rExtract rfl rfl) rfl (XR hS (rExtract rfl rfl) rfl ?_)); refine XD hS (dAlloc) rfl ?_; clear hS; intro vr w hR; obtain ⟨b22, rfl, hS⟩ := hR
                refine XN hS (dStoreN (l := []) (vs := []) rfl rfl .head rfl (by exact Nat.le_refl 0) (fun _ _ _ => rfl) (fun _ h => (nomatch h))) ?_; clear hS; intro _ w hS; refine XX 1 hS rfl (Xn (Xs ?_)); have hS1 := St.bs_in ((St.fld_shut (hS.tk2 (cel F.p [F.v, .string (mkS F.key), .string (mkS F.val)] 157 (0, 0)) (ob 5 F.v F.raw))).tk2 (fld F) (bs fld (x1 ++ x2))); rw [← hsp] at hS1; have hS2 := hS1.tk6 (cel fb [ptr b15 0, .int .i64 (kept.length : Int)] 160 (0, 0)) (cel b15 [.slice (some ⟨b', 0, none⟩) (j + 1 + kept.length) cap, .map (some mb)] 80 (0, 0)) (cel b' (ptrs (G.take (j + 1) ++ kept) ++ junk) 141 (0, 0)) (mp mb (meE es)) (bs meSL es) (bs fld G); clear hS hS1; have hS := hS2; clear hS2; intro a hE; have hpk : pkN x.flds F.key = true ∨ pkN x.flds F.key = false := by cases pkN x.flds F.key <;> simp
                rcases hpk with hpk | hpk
                · rw [hpk] at hE; revert a; refine Xg (XX 2 hS rfl (Xn (Xf rfl (Xk ?_)))); intro a hE; refine ⟨⟨j, F :: kept, junk, es⟩, Nat.lt_succ_self _, hE.cut ⟨rfl, rfl, rfl, rfl, rfl, rfl, trivial⟩, ⟨by dsimp only; omega, ?_, by simp; omega, by simp; omega, ?_⟩, ?_⟩
                  · dsimp only; rw [hdrop, List.filter_cons, if_pos (by exact hpk), g2]
                  · dsimp only; rw [← hcat]; exact g5
                  · dsimp only; rw [← hcat, show j + (F :: kept).length = j + 1 + kept.length by simp; omega, show (((F :: kept).length : Nat) : Int) - 1 = (kept.length : Int) by simp]; exact hS.arr
                · rw [hpk] at hE; rw [hcat] at hS g5; have hsub : (G.take j ++ F :: kept).Sublist G := by
                    have h1 : (F :: kept).Sublist (G.drop j) := by
                      rw [hdrop, g2]; exact List.Sublist.cons_cons _ List.filter_sublist
                    have h2 := List.Sublist.append (List.Sublist.refl (G.take j)) h1; rwa [List.take_append_drop] at h2
                  revert a; refine Xg (XX 2 hS rfl (Xn (Xt rfl (Xg (XX 1 hS rfl ?_))))); refine XC hS (gInv rfl rfl) rfl (c191 (hb := b15) (fb := fb) (b' := b') (mb := mb) (n := j + 1 + kept.length) (cap := cap) (c := kept.length) (Gs := G) (c1 := G.take j) (c2 := kept) (F := F) (es := es) (junk := junk) hS hsub (by simp; omega) (by omega) (by simp; omega) g5 (by omega) g4 (by omega)) ?_; clear hS; intro e w hR; (try dsimp only [bfp, BS.cells, oint, List.length_nil, List.length_cons, List.nil_append] at hR); obtain ⟨es', junk', ⟨rfl, k1, k2⟩, hS⟩ := hR; refine ⟨_, rfl, ?_⟩; refine Xn ?_; rw [show j + 1 + kept.length - 1 = j + kept.length by omega] at hS k2; intro a hE; refine ⟨⟨j, kept, junk', es'⟩, Nat.lt_succ_self _, hE.cut ⟨rfl, rfl, rfl, rfl, rfl, rfl, trivial⟩, ⟨by dsimp only; omega, ?_, by dsimp only; omega, by dsimp only; omega, k1⟩, by dsimp only; exact hS.arr⟩; dsimp only
                  rw [hdrop, List.filter_cons_of_neg (by simp [hpk]), g2]
    · clear hS hE a; rintro a w ⟨v2, mv2, Cs, ⟨hm2, hCl, hCr⟩, hE, hS⟩; have hrawlen : (Cs.flatMap Fld.raw).length ≤ 3000 := by
        have h1 : (Cs.reverse.flatMap Fld.raw).length = (Cs.flatMap Fld.raw).length := (Cs.reverse_perm.flatMap_right _).length_eq; have h2 : Cs.reverse.flatMap Fld.raw = hraw ((m.flds pl).filter (keepF x.flds x.no)) := by
          unfold hraw; rw [List.flatMap_def, hCr, List.flatMap_def]
        rw [← h1, h2]; have h3 := hraw_len (fs := (m.flds pl).filter (keepF x.flds x.no)) fun f hf => hfl.1 f (List.mem_filter.1 hf).1; have h4 := List.length_filter_le (keepF x.flds x.no) (m.flds pl); have := hfl.2; omega
      have hhdr : Cs.reverse.flatMap Fld.raw ++ [13, 10] = hdrT (m.flds pl) x.flds x.no := by
        unfold hdrT hraw; rw [List.flatMap_def, hCr, List.flatMap_def]
      have hne : ∀ F ∈ Cs, F.raw ≠ [] := by
        intro F hFm e; have : F.raw ∈ Cs.reverse.map (·.raw) := List.mem_map_of_mem (List.mem_reverse.2 hFm); rw [hCr] at this; obtain ⟨f, _, hf2⟩ := List.mem_map.1 this; rw [e] at hf2; simp [HF.raw] at hf2
      have hhl : (hdrT (m.flds pl) x.flds x.no).length ≤ 3002 := by
        rw [← hhdr]; have h1 : (Cs.reverse.flatMap Fld.raw).length = (Cs.flatMap Fld.raw).length := (Cs.reverse_perm.flatMap_right _).length_eq; rw [List.length_append, h1]; show _ + 2 ≤ _; omega
      have hc2l : (if x.part = txW ∨ (x.part = [] ∧ x.path ≠ []) then [] else hdrT (m.flds pl) x.flds x.no).length ≤ 3002 := by
        split
        · exact Nat.zero_le _
        · exact hhl
      revert a; refine Xs (Xg (XX 1 hS rfl (XR hS (rIface rfl) rfl (XR hS (rLoadH rfl) rfl ?_)))); refine XC hS (gCall rfl) rfl (c48 (Gs := Cs) (hS.tk3 (own 141 1 v2 Cs.length (ptrs Cs)) (bs fld Cs) (bfw b95 [])) hm2 hne (by omega) (by simp only [List.length_nil, Nat.zero_add]; omega)) ?_; clear hS; intro e w hR; (try dsimp only [bfp, BS.cells, oint, List.length_nil, List.length_cons, List.nil_append] at hR); obtain ⟨rfl, hS⟩ := hR; refine ⟨_, rfl, ?_⟩; refine XX 1 hS rfl (Xn (Xs (Xs (Xg (XX 1 hS rfl (XR hS (rNilNilN rfl) rfl (Xn (Xf rfl (Xk ?_))))))))); intro a hE
      refine cw_seqj (fun a w => Env Tryz.f36.ntmps (envL [(1, .iface S.T S.v), (2, ptr sb 0), (14, ptr b95 0)]) a ∧ St W (bfw b95 (if x.part = txW ∨ (x.part = [] ∧ x.path ≠ []) then [] else hdrT (m.flds pl) x.flds x.no) :: S.inv (m.cont pl) :: old W :: cel sb (bsn x.part (.slice qp x.path.length kp) fldsV x.no peek partV) 76 (0, 0) :: L) w) ?_ ?_; revert a; refine Xs ?_; rw [hhdr] at hS; refine Xg (XX 1 hS rfl (XR hS (rNil rfl) rfl (XR hS (rField rfl) rfl (XR hS (rField rfl) rfl (XR hS (rLoad rfl (by exact rfl)) rfl ?_))))); refine Xn (Xb (Xs ?_))
      · rcases hparts with h | h | h | h
        · refine Xg (XR hS (rStrEq (k := [84, 69, 88, 84]) rfl rfl (b := false) (by rw [h]; rfl)) rfl ?_); refine XX 1 hS rfl (Xn (Xf rfl (Xs (Xg (XR hS (rStrEq (k := []) rfl rfl (b := true) (by rw [h]; rfl)) rfl ?_))))); refine XX 1 hS rfl (Xn (Xt rfl (Xs ?_))); rcases Nat.eq_zero_or_pos x.path.length with h0 | h0
          · refine Xg (XX 1 hS rfl (XR hS (rNil rfl) rfl (XR hS (rField rfl) rfl (XR hS (rField rfl) rfl (XR hS (rLoad rfl (by exact rfl)) rfl ?_))))); refine XR hS (rLen rfl) rfl (XR hS (rGtN (n := 0) rfl rfl (b := false) (decide_eq_false (by omega))) rfl ?_); refine Xn (Xf rfl (Xk ?_)); intro a hE; refine ⟨hE.cut ⟨rfl, rfl, rfl, trivial⟩, ?_⟩; rw [if_neg (by rw [h]; rintro (hh | ⟨_, hh⟩); (cases hh); exact hh (List.length_eq_zero_iff.1 h0))]; exact hS.arr
          · refine Xg (XX 1 hS rfl (XR hS (rNil rfl) rfl (XR hS (rField rfl) rfl (XR hS (rField rfl) rfl (XR hS (rLoad rfl (by exact rfl)) rfl ?_))))); refine XR hS (rLen rfl) rfl (XR hS (rGtN (n := 0) rfl rfl (b := true) (decide_eq_true h0)) rfl (Xn (Xt rfl (Xg (XX 1 hS rfl ?_))))); refine XC hS (gCall rfl) rfl (c49 hS) ?_; clear hS; intro e w hR; (try dsimp only [bfp, BS.cells, oint, List.length_nil, List.length_cons, List.nil_append] at hR); obtain ⟨rfl, hS⟩ := hR; refine ⟨_, rfl, ?_⟩; refine Xn ?_; intro a hE; refine ⟨hE.cut ⟨rfl, rfl, rfl, trivial⟩, ?_⟩; rw [if_pos (.inr ⟨h, fun hh => by rw [hh] at h0; exact absurd h0 (Nat.lt_irrefl _)⟩)]; exact hS.arr
        · refine Xg (XR hS (rStrEq (k := [84, 69, 88, 84]) rfl rfl (b := true) (by rw [h]; rfl)) rfl ?_); refine XX 1 hS rfl (Xn (Xt rfl (Xg (XX 1 hS rfl ?_)))); refine XC hS (gCall rfl) rfl (c49 hS) ?_; clear hS; intro e w hR; (try dsimp only [bfp, BS.cells, oint, List.length_nil, List.length_cons, List.nil_append] at hR); obtain ⟨rfl, hS⟩ := hR; refine ⟨_, rfl, ?_⟩; refine Xn ?_; intro a hE; refine ⟨hE.cut ⟨rfl, rfl, rfl, trivial⟩, ?_⟩; rw [if_pos (.inl h)]; exact hS.arr
        · refine Xg (XR hS (rStrEq (k := [84, 69, 88, 84]) rfl rfl (b := false) (by rw [h]; rfl)) rfl ?_); refine XX 1 hS rfl (Xn (Xf rfl (Xs (Xg (XR hS (rStrEq (k := []) rfl rfl (b := false) (by rw [h]; rfl)) rfl ?_))))); refine XX 1 hS rfl (Xn (Xf rfl (Xk ?_))); intro a hE; refine ⟨hE.cut ⟨rfl, rfl, rfl, trivial⟩, ?_⟩; rw [if_neg (by rw [h]; rintro (hh | ⟨hh, _⟩) <;> cases hh)]; exact hS.arr
        · refine Xg (XR hS (rStrEq (k := [84, 69, 88, 84]) rfl rfl (b := false) (by rw [h]; rfl)) rfl ?_); refine XX 1 hS rfl (Xn (Xf rfl (Xs (Xg (XR hS (rStrEq (k := []) rfl rfl (b := false) (by rw [h]; rfl)) rfl ?_))))); refine XX 1 hS rfl (Xn (Xf rfl (Xk ?_))); intro a hE; refine ⟨hE.cut ⟨rfl, rfl, rfl, trivial⟩, ?_⟩; rw [if_neg (by rw [h]; rintro (hh | ⟨hh, _⟩) <;> cases hh)]; exact hS.arr
      · clear hS hE a; rintro a w ⟨hE, hS⟩; refine cw_seqj (fun a w => Env Tryz.f36.ntmps (envL [(2, ptr sb 0), (14, ptr b95 0)]) a ∧ St W (bfw b95 (secOf m pl x) :: old W :: cel sb (bsn x.part (.slice qp x.path.length kp) fldsV x.no peek partV) 76 (0, 0) :: L) w) ?_ ?_; revert a; refine Xs (Xg (XX 1 hS rfl (XR hS (rNil rfl) rfl (XR hS (rField rfl) rfl (XR hS (rField rfl) rfl (XR hS (rLoad rfl (by exact rfl)) rfl ?_)))))); refine Xn (Xb (Xs (Xs ?_)))
        · rcases hparts with h | h | h | h
          · refine Xg (XR hS (rStrEq (k := []) rfl rfl (b := true) (by rw [h]; rfl)) rfl ?_); refine XX 1 hS rfl (Xn (Xt rfl (Xk (Xt rfl (Xs (Xg (XX 1 hS rfl (XR hS (rIface rfl) rfl (XX 1 hS rfl ?_))))))))); refine XC hS (gCall rfl) rfl (hF.C hS (by omega)) ?_; clear hS; intro e w hR; (try dsimp only [bfp, BS.cells, oint, List.length_nil, List.length_cons, List.nil_append] at hR); obtain ⟨k, rfl, hS⟩ := hR; refine ⟨_, rfl, ?_⟩; refine XX 1 hS rfl (XR hS (rExtract rfl rfl) rfl (XR hS (rExtract rfl rfl) rfl (XX 2 hS rfl (Xn (Xs (Xg (XX 1 hS rfl (XR hS (rNilNilN rfl) rfl (Xn (Xf rfl (Xk ?_))))))))))); intro a hE; refine ⟨hE.cut ⟨rfl, rfl, trivial⟩, ?_⟩; have e : (if x.part = txW ∨ (x.part = [] ∧ x.path ≠ []) then [] else hdrT (m.flds pl) x.flds x.no) ++ m.cont pl = secOf m pl x := by
              unfold secOf; rw [if_neg (show ¬ (x.part = hdW ∨ x.part = miW) by rw [h]; decide)]; by_cases hpn : x.path = []
              · have hfn := (hx.top hpn).2.1; rcases hfn with hfn | hfn
                · rw [h] at hfn; cases hfn
                · rw [if_neg (by rw [h]; rintro (hh | ⟨_, hh⟩); (cases hh); exact hh hpn), if_pos ⟨h, hpn⟩, hfn]; unfold hdrT Ml.txt; rw [show (m.flds pl).filter (keepF [] x.no) = m.flds pl from List.filter_eq_self.2 (fun f _ => rfl)]; simp
              · rw [if_pos (.inr ⟨h, hpn⟩), if_neg (by simp [hpn])]; rfl
            rw [e] at hS; exact hS.arr
          · refine Xg (XR hS (rStrEq (k := []) rfl rfl (b := false) (by rw [h]; rfl)) rfl ?_); refine XX 1 hS rfl (Xn (Xf rfl (Xg (XR hS (rStrEq (k := [84, 69, 88, 84]) rfl rfl (b := true) (by rw [h]; rfl)) rfl ?_)))); refine XX 1 hS rfl (Xn (Xt rfl (Xs (Xg (XX 1 hS rfl (XR hS (rIface rfl) rfl (XX 1 hS rfl ?_))))))); refine XC hS (gCall rfl) rfl (hF.C hS (by omega)) ?_; clear hS; intro e w hR; (try dsimp only [bfp, BS.cells, oint, List.length_nil, List.length_cons, List.nil_append] at hR); obtain ⟨k, rfl, hS⟩ := hR; refine ⟨_, rfl, ?_⟩; refine XX 1 hS rfl (XR hS (rExtract rfl rfl) rfl (XR hS (rExtract rfl rfl) rfl (XX 2 hS rfl (Xn (Xs (Xg (XX 1 hS rfl (XR hS (rNilNilN rfl) rfl (Xn (Xf rfl (Xk ?_))))))))))); intro a hE; refine ⟨hE.cut ⟨rfl, rfl, trivial⟩, ?_⟩
            have e : (if x.part = txW ∨ (x.part = [] ∧ x.path ≠ []) then [] else hdrT (m.flds pl) x.flds x.no) ++ m.cont pl = secOf m pl x := by
              unfold secOf; rw [if_neg (show ¬ (x.part = hdW ∨ x.part = miW) by rw [h]; decide), if_pos (.inl h), if_neg (by rw [h]; intro hh; cases hh.1)]; rfl
            rw [e] at hS; exact hS.arr
          · refine Xg (XR hS (rStrEq (k := []) rfl rfl (b := false) (by rw [h]; rfl)) rfl ?_); refine XX 1 hS rfl (Xn (Xf rfl (Xg (XR hS (rStrEq (k := [84, 69, 88, 84]) rfl rfl (b := false) (by rw [h]; rfl)) rfl ?_)))); refine XX 1 hS rfl (Xn (Xf rfl (Xk ?_))); intro a hE; refine ⟨hE.cut ⟨rfl, rfl, trivial⟩, ?_⟩; have e : (if x.part = txW ∨ (x.part = [] ∧ x.path ≠ []) then [] else hdrT (m.flds pl) x.flds x.no) = secOf m pl x := by
              unfold secOf; rw [if_neg (by rw [h]; rintro (hh | ⟨hh, _⟩) <;> cases hh), if_pos (.inl h)]
            rw [e] at hS; exact hS.arr
          · refine Xg (XR hS (rStrEq (k := []) rfl rfl (b := false) (by rw [h]; rfl)) rfl ?_); refine XX 1 hS rfl (Xn (Xf rfl (Xg (XR hS (rStrEq (k := [84, 69, 88, 84]) rfl rfl (b := false) (by rw [h]; rfl)) rfl ?_)))); refine XX 1 hS rfl (Xn (Xf rfl (Xk ?_))); intro a hE; refine ⟨hE.cut ⟨rfl, rfl, trivial⟩, ?_⟩; have e : (if x.part = txW ∨ (x.part = [] ∧ x.path ≠ []) then [] else hdrT (m.flds pl) x.flds x.no) = secOf m pl x := by
              unfold secOf; rw [if_neg (by rw [h]; rintro (hh | ⟨hh, _⟩) <;> cases hh), if_pos (.inr h)]
            rw [e] at hS; exact hS.arr
        · clear hS hE a; rintro a w ⟨hE, hS⟩; have hsecl : (secOf m pl x).length ≤ 70000 := by
            have hcl2 : (hraw (m.flds pl)).length ≤ 3000 := by have := hraw_len hfl.1; have := hfl.2; omega
            unfold secOf; split
            · omega
            · split
              · unfold Ml.txt; simp; omega
              · omega
          have hsB : secB m0 x = some (cutB x.cut (secOf m pl x)) := by unfold secB; rw [hF.at_]; rfl
          have hcutl : (cutB x.cut (secOf m pl x)).length ≤ 70000 := by
            unfold cutB; split
            · exact hsecl
            · simp; omega
          revert a; refine Xs (Xg (XX 1 hS rfl (XR hS (rIface rfl) rfl (XX 1 hS rfl (Xn (Xs (Xs ?_))))))); have hpt0 := hpt; rcases hpt.split with ⟨kq, rfl, hcut⟩ | ⟨aq, kq, rfl⟩
          · have hcn : x.cut = none := by
              cases hh : x.cut with
              | none => rfl
              | some c => rw [hh] at hcut; cases hcut
            refine Xg (XX 1 hS rfl (XR hS (rNil rfl) rfl (XR hS (rField rfl) rfl (XR hS (rLoad rfl (by exact rfl)) rfl ?_)))); refine XR hS (rNilSN rfl rfl) rfl (Xn (Xf rfl (Xk (Xs (Xg (XX 3 hS rfl (Xn (Xr ?_)))))))); refine X2 rfl rfl rfl (.inr ⟨_, 106, ptr b95 0, ⟨hsB, rfl, by omega⟩, ?_⟩); rw [hcn]; exact (hS.imp (B := lit 106 (ptr b95 0) (cutB none (secOf m pl x))) fun _ k => .inl ⟨b95, rfl, rfl, k⟩).arr
          · obtain ⟨q0, cap0, lr0, r1, r2, hS1⟩ := St.bfw_ob hS; clear hS; have hS := hS1; clear hS1; have hq0 := St.ob_shape hS.tail rfl; refine Xg (XX 1 hS rfl (XR hS (rNil rfl) rfl (XR hS (rField rfl) rfl (XR hS (rLoad rfl (by exact rfl)) rfl ?_)))); refine XR hS (rSNilN rfl rfl) rfl (Xn (Xt rfl (Xg (XX 2 hS rfl ?_)))); refine XC hS (gCall rfl) rfl (c52 (b := b95) (lr := lr0) hS rfl) ?_; clear hS; intro e w hR; (try dsimp only [bfp, BS.cells, oint, List.length_nil, List.length_cons, List.nil_append] at hR); obtain ⟨rfl, hS⟩ := hR; refine ⟨_, rfl, ?_⟩; refine XC hS (gCall rfl) rfl (c51 (q := q0) (cap := cap0) (c := secOf m pl x) (cut := x.cut) hS hpt0 hq0 r1 (by omega) hx.cut) ?_; clear hS; intro e w hR; (try dsimp only [bfp, BS.cells, oint, List.length_nil, List.length_cons, List.nil_append] at hR); obtain ⟨q2, k2, ⟨rfl, hcs⟩, hS⟩ := hR; refine ⟨_, rfl, ?_⟩
            refine XC hS (gCall rfl) rfl (c40 hS) ?_; clear hS; intro e w hR; (try dsimp only [bfp, BS.cells, oint, List.length_nil, List.length_cons, List.nil_append] at hR); obtain ⟨rb, rfl, hS⟩ := hR; refine ⟨_, rfl, ?_⟩; refine XR hS (rIface rfl) rfl (XX 1 hS rfl (Xn (Xs (Xg (XX 3 hS rfl (Xn (Xr ?_))))))); refine X2 rfl rfl rfl (.inr ⟨_, 95, ptr rb 0, ⟨hsB, rfl, by omega⟩, ?_⟩); rcases hcs with hnil | ⟨b', rfl, rfl⟩
            · rw [hnil] at hS ⊢; have hS2 := hS.tk2 (cel rb [.slice q2 0 k2, .int .i64 0, .int .i64 (-1)] 132 (0, 0)) (old W); exact (hS2.imp (B := lit 95 (ptr rb 0) []) fun _ k => .inr (.inl ⟨rb, q2, k2, -1, rfl, rfl, rfl, k⟩)).arr
            · have hS2 := (hS.tk1 (ob 5 (.slice (some ⟨b', 0, none⟩) (secOf m pl x).length cap0) (secOf m pl x))); rcases hS2.ob_cases with ⟨e1, _, _⟩ | ⟨b2, jk, e1, hS3⟩
              · cases e1
              · simp only [Value.slice.injEq, Option.some.injEq, Addr.mk.injEq, true_and, and_true] at e1; obtain ⟨rfl, _⟩ := e1; by_cases hnil : cutB x.cut (secOf m pl x) = []
                · rw [hnil] at hS ⊢; have hS2 := hS.tk2 (cel rb [.slice (some ⟨b', cutO x.cut, none⟩) 0 k2, .int .i64 0, .int .i64 (-1)] 132 (0, 0)) (old W); exact (hS2.imp (B := lit 95 (ptr rb 0) []) fun _ k => .inr (.inl ⟨rb, _, k2, -1, rfl, rfl, rfl, k⟩)).arr
                · have hrow : RowIs (secOf m pl x ++ jk) (cutO x.cut) (cutB x.cut (secOf m pl x)).length (cutB x.cut (secOf m pl x)) := by
                    cases hcc : x.cut with
                    | none => exact ⟨by simp [cutO, cutB], by simp [cutO, cutB]⟩
                    | some cc =>
                      obtain ⟨ci, cn⟩ := cc
                      rw [hcc] at hnil
                      have hil : ci < (secOf m pl x).length := by
                        rcases Nat.lt_or_ge ci (secOf m pl x).length with h | h
                        · exact h
                        · exfalso; apply hnil; show ((secOf m pl x).drop ci).take cn = []; rw [List.drop_of_length_le h]; simp
                      refine ⟨by simp [cutO, cutB]; omega, ?_⟩
                      show ((secOf m pl x ++ jk).drop ci).take (((secOf m pl x).drop ci).take cn).length = ((secOf m pl x).drop ci).take cn
                      rw [List.drop_append_of_le_length (by omega), List.take_append_of_le_length (by simp; omega)]
                      rw [List.length_take, List.length_drop]
                      rcases Nat.lt_or_ge cn ((secOf m pl x).length - ci) with h | h
                      · rw [Nat.min_eq_left (by omega)]
                      · rw [Nat.min_eq_right h, List.take_of_length_le (by simp), List.take_of_length_le (by simp; omega)]
                  have hS4 := (hS3.tk2 (cel rb [.slice (some ⟨b', cutO x.cut, none⟩) (cutB x.cut (secOf m pl x)).length k2, .int .i64 0, .int .i64 (-1)] 132 (0, 0)) (bys 5 b' (secOf m pl x ++ jk))).shut_star; exact (hS4.imp (B := lit 95 (ptr rb 0) (cutB x.cut (secOf m pl x))) fun _ k => .inr (.inr ⟨rb, b', cutO x.cut, k2, -1, _, rfl, rfl, hrow, k⟩)).arr
end
end Go.Proofs

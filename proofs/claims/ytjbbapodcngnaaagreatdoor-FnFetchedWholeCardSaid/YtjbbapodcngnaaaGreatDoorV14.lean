/-
  Steps on the way to the cards of laws.FnFetched and laws.FnFetchedWhole; the conditions of each are the hypotheses that it names. In order:
  WALKS (printed by wx.py from Jd.px): textproto.WriteHeader.
  WALKS (printed by wx.py from Je.px): (*Header).Copy, Del.
  WALKS (printed by wx.py from Jf.px): going over a header's fields.
  WALKS (printed by wx.py from Jg.px): (*headerFields).Del.
  WALKS (printed by wx.py from Jh.px): what is told of a section is cut, and read to its end.
-/
import Derived.Test.YtjbbapodcngnaaaGreatDoorV13
set_option linter.all false
section
namespace Go.Proofs
open Go.Eng
section
variable {W w : World} {s : List SL} {L : List SL} {b wb : Nat}
theorem raw_some {F : Fld} (hS : St W (ob 5 F.v F.raw :: s) w) (hne : F.raw ≠ []) : ∃ (kb : Nat) (jk : List UInt8), F.v = .slice (some ⟨kb, 0, none⟩) F.raw.length (F.raw ++ jk).length ∧ St W (bys 5 kb (F.raw ++ jk) :: s) w := by
  rcases hS.ob_cases with ⟨_, e, _⟩ | ⟨kb, jk, e, h⟩
  · exact absurd e hne
  · exact ⟨kb, jk, e, h⟩
/-- (*headerField).raw -/
theorem c79 {F : Fld} (hS : St W (fld F :: s) w) (hne : F.raw ≠ []) : Calls Tryz.prog 79 #[ptr F.p 0] w fun e w' => e = .returned (.tuple #[F.v, .nilIface]) ∧ St W (fld F :: s) w' := by
  obtain ⟨p, v, key, val, raw⟩ := F; have hS1 := St.fld_open hS; obtain ⟨kb, jk, e1, _⟩ := raw_some (F := ⟨p, v, key, val, raw⟩) hS1.tail hne; dsimp only at e1 hS1 hne ⊢; clear hS; have hS := hS1; clear hS1; subst e1; refine fn_calls (args := [ptr p 0]) Tryz.func79 rfl rfl rfl ?_; refine Xs (Xg (XX 2 hS rfl (Xn (Xs (Xg (XX 1 hS rfl (XR hS (rNil rfl) rfl (XR hS (rField rfl) rfl (XR hS (rLoad rfl (by exact rfl)) rfl ?_))))))))); refine XR hS (rSNilN rfl rfl) rfl (Xn (Xt rfl (Xs (Xg (XX 1 hS rfl (XR hS (rNil rfl) rfl (XR hS (rField rfl) rfl (XR hS (rLoad rfl (by exact rfl)) rfl ?_)))))))); refine XX 2 hS rfl (Xn (Xr ?_)); exact X2 rfl rfl rfl ⟨rfl, St.fld_shut (F := ⟨p, _, key, val, raw⟩) hS⟩
theorem own_form {v : Value} {n : Nat} {cs : List Value} (h : St W (own 141 1 v n cs :: s) w) : ∃ q cap, v = .slice q n cap ∧ n ≤ cap := by
  rcases h.own_cases.2 with ⟨h1, h2, _⟩ | ⟨b, cap, _, h1, h2, _⟩
  · exact ⟨none, 0, by rw [h1, h2], by omega⟩
  · exact ⟨_, cap, h1, h2⟩
/-- (*bytes.Buffer).Write, of a row of bytes -/
theorem c183o {c l : List UInt8} {v : Value} (hS : St W (bfw wb c :: ob 5 v l :: s) w) (hne : l ≠ []) (hmy : c.length + l.length ≤ 4294967296) :
    Calls Tryz.prog 183 #[ptr wb 0, v] w fun e w' => e = .returned (.tuple #[.int .i64 (l.length : Int), .nilIface]) ∧ St W (bfw wb (c ++ l) :: ob 5 v l :: s) w' := by
  rcases hS.swap.ob_cases with ⟨_, e, _⟩ | ⟨kb, jk, e, h⟩
  · exact absurd e hne
  · subst e; exact (c183 (l := l) h.swap (pcb := l ++ jk) ⟨by simp, by simp⟩ (List.length_pos_iff.2 hne) hmy).mono fun e w' ⟨h1, h2⟩ => ⟨h1, (h2.swap.ob_of).swap⟩
/-- textproto.WriteHeader -/
theorem c48 {v mv : Value} {Gs : List Fld} {c : List UInt8} (hS : St W (own 141 1 v Gs.length (ptrs Gs) :: bs fld Gs :: bfw wb c :: s) w) (hm : mv.oneCell' = true) (hne : ∀ F ∈ Gs, F.raw ≠ []) (hlen : Gs.length ≤ 1000) (hmy : c.length + (Gs.flatMap Fld.raw).length ≤ 1000000) :
    Calls Tryz.prog 48 #[.iface 106 (ptr wb 0), .agg #[v, mv]] w fun e w' => e = .returned .nilIface ∧ St W (bfw wb (c ++ Gs.reverse.flatMap Fld.raw ++ [13, 10]) :: s) w' := by
  obtain ⟨n, hn0⟩ : ∃ n, n = Gs.length := ⟨_, rfl⟩; rw [← hn0] at hS hlen; obtain ⟨q, cap, rfl, hncap⟩ := own_form hS; refine fn_calls (args := [.iface 106 (ptr wb 0), .agg #[.slice q n cap, mv]]) Tryz.func48 rfl rfl rfl ?_; refine Xs (Xg ?_); refine XD hS (dBox rfl) rfl ?_; clear hS; intro vr w hR; obtain ⟨b3, rfl, hS⟩ := hR; replace hS := (show St W (cel b3 [.slice q n cap, mv] 80 (0, 0) :: _) w from hS); refine XX 1 hS rfl (Xn (Xs (Xs (Xg (XR hS (rField rfl) rfl (XR hS (rLoad rfl (by exact rfl)) rfl ?_)))))); refine XR hS (rLen rfl) rfl (XR hS (rSub rfl rfl (w64 (by omega) (by omega))) rfl ?_); refine XX 1 hS rfl (Xn (Xb ?_)); intro a hE
  refine cw_loop (fun (k : Nat) a w => Env Tryz.f48.ntmps (envL [(0, .iface 106 (ptr wb 0)), (3, ptr b3 0), (4, .nilIface), (5, .int .i64 ((k : Int) - 1))]) a ∧ k ≤ n ∧ St W (cel b3 [.slice q n cap, mv] 80 (0, 0) :: own 141 1 (.slice q n cap) n (ptrs Gs) :: bs fld Gs :: bfw wb (c ++ (Gs.drop k).reverse.flatMap Fld.raw) :: s) w) (fun k => k) n ⟨hE.cut ⟨rfl, rfl, rfl, rfl, trivial⟩, by omega, by rw [List.drop_of_length_le (by omega)]; simpa using hS⟩ ?_; clear hS hE a; rintro k a w ⟨hE, hkn, hS⟩; rcases k with _ | j
  · revert a; refine Xs (Xs (Xg (XX 1 hS rfl (XR hS (rCmp rfl rfl (cmp_geqF (by omega))) rfl ?_)))); refine Xn (Xf rfl (Xe rfl (Xs ?_))); rw [List.drop_zero] at hS; obtain ⟨c1, hc1⟩ : ∃ c1, c1 = c ++ Gs.reverse.flatMap Fld.raw := ⟨_, rfl⟩; intro a hE; rw [← hc1] at hS ⊢; have hc1l : c1.length ≤ 1000000 := by
      have : (Gs.reverse.flatMap Fld.raw).length = (Gs.flatMap Fld.raw).length := ((Gs.reverse_perm).flatMap_right _).length_eq; rw [hc1, List.length_append, this]; exact hmy
    revert a; refine Xg (XX 1 hS rfl ?_); refine XD hS (dLit rfl rfl rfl rfl) rfl ?_; clear hS; intro vr w hR; obtain ⟨b48, rfl, hS⟩ := hR; replace hS := St.shut_bys0 (E := 5) (b := b48) (c := [13, 10]) (show St W (cel b48 (byl [13, 10]) 5 (0, 0) :: _) w from hS); refine XC hS (gInv rfl rfl) rfl (c183 (pcb := [13, 10]) (po := 0) (l := [13, 10]) (hS.tk1 (bfw wb c1)) ⟨Nat.le_refl 2, rfl⟩ (by decide) (by omega)) ?_; clear hS; intro e w hR; (try dsimp only [bfp, BS.cells, oint, List.length_nil, List.length_cons, List.nil_append] at hR); obtain ⟨rfl, hS⟩ := hR; refine ⟨_, rfl, ?_⟩; refine XX 1 hS rfl (XR hS (rExtract rfl rfl) rfl (XR hS (rExtract rfl rfl) rfl (XX 2 hS rfl (Xn (Xs (Xg (XX 2 hS rfl (Xn (Xr ?_))))))))); exact X1 rfl rfl ⟨rfl, hS.arr⟩
  · have e5 : ((j + 1 : Nat) : Int) - 1 = (j : Int) := by omega
    rw [e5] at hE; have hjl : j < Gs.length := by omega
    obtain ⟨F, hF⟩ : ∃ F, Gs[j]? = some F := ⟨_, List.getElem?_eq_getElem hjl⟩; have hFm := List.mem_of_getElem? hF; have hdrop : Gs.drop j = F :: Gs.drop (j + 1) := by
      rw [List.drop_eq_getElem_cons hjl]; rw [List.getElem?_eq_getElem hjl] at hF; rw [Option.some.inj hF]
    have hsplit : Gs = Gs.take j ++ F :: Gs.drop (j + 1) := by conv => lhs; rw [← List.take_append_drop j Gs, hdrop]
    obtain ⟨c1, hc1⟩ : ∃ c1, c1 = c ++ (Gs.drop (j + 1)).reverse.flatMap Fld.raw := ⟨_, rfl⟩; rw [← hc1] at hS; have hc2 : c ++ (Gs.drop j).reverse.flatMap Fld.raw = c1 ++ F.raw := by rw [hdrop, hc1]; simp
    have hc1l : c1.length + F.raw.length ≤ 1000000 := by
      rw [← List.length_append, ← hc2, List.length_append]; have h1 : ((Gs.drop j).reverse.flatMap Fld.raw).length = ((Gs.drop j).flatMap Fld.raw).length := (((Gs.drop j).reverse_perm).flatMap_right _).length_eq; have h2 : (Gs.flatMap Fld.raw).length = ((Gs.take j).flatMap Fld.raw).length + ((Gs.drop j).flatMap Fld.raw).length := by
        conv => lhs; rw [← List.take_append_drop j Gs]
        rw [List.flatMap_append, List.length_append]
      omega
    rcases (hS.tk1 (own 141 1 (.slice q n cap) n (ptrs Gs))).own_cases.2 with ⟨_, h2, _⟩ | ⟨b', cap', junk, e1, hcap, hj, hS1⟩
    · omega
    · simp only [Value.slice.injEq, true_and] at e1; obtain ⟨rfl, rfl⟩ := e1; clear hS; have hS := hS1.tk4 (cel b3 [.slice (some ⟨b', 0, none⟩) n cap, mv] 80 (0, 0)) (cel b' (ptrs Gs ++ junk) 141 (0, 0)) (bfw wb c1) (bs fld Gs); clear hS1; have hat : (ptrs Gs ++ junk)[0 + j]? = some (ptr F.p 0) := by
        rw [Nat.zero_add, List.getElem?_append_left (by simpa using hjl), List.getElem?_map, hF]; rfl
      revert a; refine Xs (Xs (Xg (XX 1 hS rfl (XR hS (rCmp rfl rfl (cmp_geqT (by omega))) rfl ?_)))); refine Xn (Xt rfl (Xk (Xs (Xb (Xs (Xg (XR hS (rField rfl) rfl (XR hS (rLoad rfl (by exact rfl)) rfl ?_)))))))); refine XX 1 hS rfl (XR hS (rIdxA1 (i := j) rfl rfl (by omega)) rfl ?_); refine XR hS (rLoad rfl hat) rfl (XX 1 hS rfl (Xn (Xs ?_))); have hS2 := hS.tk1 (bs fld Gs); rw [hsplit] at hS2; have hS3 := St.bs_out hS2; rw [← hsplit] at hS3; clear hS hS2; have hS := hS3; clear hS3; refine Xg (XX 1 hS rfl ?_); refine XC hS (gCall rfl) rfl (c79 hS (hne F hFm)) ?_; clear hS; intro e w hR; (try dsimp only [bfp, BS.cells, oint, List.length_nil, List.length_cons, List.nil_append] at hR); obtain ⟨rfl, hS⟩ := hR; refine ⟨_, rfl, ?_⟩
      refine XX 1 hS rfl (XR hS (rExtract rfl rfl) rfl (XR hS (rExtract rfl rfl) rfl (XX 2 hS rfl (Xn (Xs (Xg (XX 1 hS rfl (XR hS (rNilNil rfl) rfl (Xn (Xt rfl (Xs ?_))))))))))); have hS4 := (St.fld_open hS).tk3 (bfw wb c1) (ob 5 F.v F.raw) (cel F.p [F.v, .string (mkS F.key), .string (mkS F.val)] 157 (0, 0)); clear hS; have hS := hS4; clear hS4; refine Xg (XX 2 hS rfl ?_); refine XC hS (gInv rfl rfl) rfl (c183o hS (hne F hFm) (by omega)) ?_; clear hS; intro e w hR; (try dsimp only [bfp, BS.cells, oint, List.length_nil, List.length_cons, List.nil_append] at hR); obtain ⟨rfl, hS⟩ := hR; refine ⟨_, rfl, ?_⟩; refine XX 1 hS rfl (XR hS (rExtract rfl rfl) rfl (XR hS (rExtract rfl rfl) rfl (XX 2 hS rfl (Xn (Xs (Xg (XX 1 hS rfl (XR hS (rNilNilN rfl) rfl (Xn (Xf rfl (Xk (Xg (XX 1 hS rfl (XR hS (rSub rfl rfl (w64 (by omega) (by omega))) rfl ?_)))))))))))))); refine XX 1 hS rfl (Xn ?_)
      have hS5 := St.fld_shut (hS.tk2 (cel F.p [F.v, .string (mkS F.key), .string (mkS F.val)] 157 (0, 0)) (ob 5 F.v F.raw)); have hS6 := St.bs_in (hS5.tk2 (fld F) (bs fld (Gs.take j ++ Gs.drop (j + 1)))); rw [← hsplit] at hS6; have hS7 := (hS6.tk1 (cel b' (ptrs Gs ++ junk) 141 (0, 0))).own_of (sz := 1) (n := n) (cap := cap) (by simp [hn0]) hj hcap; intro a hE; refine ⟨j, by omega, hE.cut ⟨rfl, rfl, rfl, rfl, trivial⟩, by omega, ?_⟩; rw [hc2]; exact hS7.arr
end
end Go.Proofs
end
section
namespace Go.Proofs
open Go.Eng
section
variable {W w : World} {s : List SL} {L : List SL} {b hb : Nat}
/-- (*Header).Copy -/
theorem c44 {v mv : Value} {Gs : List Fld} (hS : St W (cel hb [v, mv] 80 (0, 0) :: own 141 1 v Gs.length (ptrs Gs) :: bs fld Gs :: s) w) (hlen : Gs.length ≤ 1000) :
    Calls Tryz.prog 44 #[ptr hb 0] w fun e w' => ∃ v' mv', e = .returned (.agg #[v', mv']) ∧ St W (own 141 1 v' Gs.length (ptrs Gs) :: hmSL Gs mv' :: bs fld Gs :: s) w' := by
  obtain ⟨n, hn0⟩ : ∃ n, n = Gs.length := ⟨_, rfl⟩; rw [← hn0] at hS hlen ⊢; obtain ⟨q, cap, rfl, hncap⟩ := own_form hS.tail; rcases Nat.eq_zero_or_pos n with h0 | h0
  · subst h0; have hg : Gs = [] := List.length_eq_zero_iff.1 hn0.symm; subst hg; refine fn_calls (args := [ptr hb 0]) Tryz.func44 rfl rfl rfl ?_; refine Xs (Xg ?_); refine XD hS (dAlloc) rfl ?_; clear hS; intro vr w hR; obtain ⟨b2, rfl, hS⟩ := hR; replace hS := (show St W (cel b2 [.slice none 0 0, .map none] 80 (0, 0) :: _) w from hS); refine Xn (Xs (Xg (XX 1 hS rfl (XR hS (rNil rfl) rfl (XR hS (rField rfl) rfl (XR hS (rLoad rfl (by exact rfl)) rfl ?_)))))); refine XR hS (rLen rfl) rfl ?_; refine XD hS (dMake (n := 0) (c := 0) rfl rfl rfl (by omega) (by omega) (by omega)) rfl ?_; clear hS; intro vr w hR; obtain ⟨bf, rfl, hS⟩ := hR; refine XX 1 hS rfl (Xn (Xs (Xg (XX 2 hS rfl (XR hS (rNil rfl) rfl (XR hS (rField rfl) rfl (XR hS (rLoad rfl (by exact rfl)) rfl ?_))))))); refine XD hS (dCopy0 rfl rfl rfl) rfl ?_; clear hS; intro vr w hR; obtain ⟨rfl, hS⟩ := hR
    refine Xn (Xs (Xg (XX 1 hS rfl ?_))); refine XC hS (gCall rfl) rfl (c77n hS) ?_; clear hS; intro e w hR; (try dsimp only [bfp, BS.cells, oint, List.length_nil, List.length_cons, List.nil_append] at hR); obtain ⟨rfl, hS⟩ := hR; refine ⟨_, rfl, ?_⟩; refine XX 1 hS rfl (Xn (Xs (Xg (XX 2 hS rfl (XR hS (rBuild rfl rfl) rfl ?_))))); refine XN hS (dStoreN (l := [.slice none 0 0, .map none]) rfl rfl (.tail .head) rfl (by exact Nat.le_refl 2) (fun _ _ _ => rfl) (one_all rfl)) ?_; clear hS; intro _ w hS; refine Xn (Xr ?_); intro a hE; refine kretc1 hE rfl rfl (run_loadN hS (by exact Nat.le_refl 2)) ⟨_, .map none, rfl, ?_⟩; have hS1 := (hS.tk1 (cel bf (List.replicate 0 (.pointer none)) 141 (0, 0))).own_of (cs := ptrs []) (junk := []) (n := 0) (sz := 1) (cap := 0) rfl rfl (Nat.le_refl _); exact (St.hm_none hS1).arr
  · rcases (hS.tk1 (own 141 1 (.slice q n cap) n (ptrs Gs))).own_cases.2 with ⟨_, h2, _⟩ | ⟨b', cap', junk, e1, hcap, hj, hS1⟩
    · omega
    · simp only [Value.slice.injEq, true_and] at e1; obtain ⟨rfl, rfl⟩ := e1; clear hS; have hS := hS1.tk2 (cel hb [.slice (some ⟨b', 0, none⟩) n cap, mv] 80 (0, 0)) (cel b' (ptrs Gs ++ junk) 141 (0, 0)); clear hS1; have hpl : (ptrs Gs).length = n := by simp [hn0]
      have hone : ∀ v ∈ ((ptrs Gs ++ junk).drop 0).take n, v.oneCell' = true := by
        intro v hv; rw [List.drop_zero, ← hpl, List.take_left] at hv; obtain ⟨i, hi⟩ := List.getElem?_of_mem hv; exact ptrs_one Gs hi
      have hcopy : (List.replicate n (Value.pointer none)).take 0 ++ ((ptrs Gs ++ junk).drop 0).take n ++ (List.replicate n (Value.pointer none)).drop (0 + n) = ptrs Gs ++ [] := by
        rw [List.take_zero, List.nil_append, List.drop_zero, ← hpl, List.take_left, List.drop_of_length_le (by simp)]
      refine fn_calls (args := [ptr hb 0]) Tryz.func44 rfl rfl rfl ?_; refine Xs (Xg ?_); refine XD hS (dAlloc) rfl ?_; clear hS; intro vr w hR; obtain ⟨b2, rfl, hS⟩ := hR; replace hS := (show St W (cel b2 [.slice none 0 0, .map none] 80 (0, 0) :: _) w from hS); refine Xn (Xs (Xg (XX 1 hS rfl (XR hS (rNil rfl) rfl (XR hS (rField rfl) rfl (XR hS (rLoad rfl (by exact rfl)) rfl ?_)))))); refine XR hS (rLen rfl) rfl ?_; refine XD hS (dMake (n := n) (c := n) rfl rfl rfl (by omega) (by omega) (by omega)) rfl ?_; clear hS; intro vr w hR; obtain ⟨bf, rfl, hS⟩ := hR; refine XX 1 hS rfl (Xn (Xs (Xg (XX 2 hS rfl (XR hS (rNil rfl) rfl (XR hS (rField rfl) rfl (XR hS (rLoad rfl (by exact rfl)) rfl ?_)))))))
      refine XD hS (dCopyC (n := n) (l := List.replicate n (.pointer none)) (fz := (0, 0)) (l2 := ptrs Gs ++ junk) rfl rfl .head (Nat.min_self n) (by simp) (by rw [List.length_append, hpl]; omega) (fun _ _ _ => rfl) hone) rfl ?_; clear hS; intro vr w hR; obtain ⟨rfl, hS⟩ := hR; refine Xn (Xs ?_); rw [hcopy] at hS; refine Xg (XX 1 hS rfl ?_); refine XC hS (gCall rfl) rfl (c77 (junk := []) (hS.tk2 (cel bf (ptrs Gs ++ []) 141 (0, 0)) (bs fld Gs)) hn0.symm h0 (by omega)) ?_; clear hS; intro e w hR; (try dsimp only [bfp, BS.cells, oint, List.length_nil, List.length_cons, List.nil_append] at hR); obtain ⟨mb, es, ⟨rfl, hok⟩, hS⟩ := hR; refine ⟨_, rfl, ?_⟩; refine XX 1 hS rfl (Xn (Xs ?_))
      have hPull := (Pl.pull : Pull (cel b2 [.slice none 0 0, .map none] 80 (0, 0)) (mp mb (meE es) :: bs meSL es :: cel bf (ptrs Gs ++ []) 141 (0, 0) :: bs fld Gs :: cel b2 [.slice none 0 0, .map none] 80 (0, 0) :: cel hb [.slice (some ⟨b', 0, none⟩) n cap, mv] 80 (0, 0) :: cel b' (ptrs Gs ++ junk) 141 (0, 0) :: s) _); refine Xg (XX 2 hS rfl (XR hS (rBuild rfl rfl) rfl ?_)); refine XN hS (dStoreN (l := [.slice none 0 0, .map none]) rfl rfl hPull rfl (by exact Nat.le_refl 2) (fun _ _ _ => rfl) (one_all rfl)) ?_; clear hS; intro _ w hS; refine Xn (Xr ?_); intro a hE; refine kretc1 hE rfl rfl (run_loadN hS (by exact Nat.le_refl 2)) ⟨_, .map (some mb), rfl, ?_⟩; have hS1 := (hS.tk1 (cel bf (ptrs Gs ++ []) 141 (0, 0))).own_of (sz := 1) (n := n) (cap := n) (by simpa using hpl) (by simp) (Nat.le_refl _); have hS2 := St.hm_some hok (hS1.tk2 (mp mb (meE es)) (bs meSL es)); exact hS2.arr
/-- a map that may be nil -/
def hmx (mv : Value) : SL := fun h => mv = .map none ∨ ∃ mb es, mv = .map (some mb) ∧ mp mb es h
theorem St.hmx_of {mv : Value} {Fs : List Fld} (h : St W (hmSL Fs mv :: s) w) : St W (hmx mv :: s) w := by
  rcases St.hm_cases h with ⟨_, rfl, _⟩ | ⟨mb, es, rfl, _, h2⟩
  · exact h.imp fun _ _ => .inl rfl
  · exact (h2.swap.tail).imp fun _ k => .inr ⟨mb, _, rfl, k⟩
theorem St.hmx_cases {mv : Value} (h : St W (hmx mv :: s) w) : mv = .map none ∨ ∃ mb es, mv = .map (some mb) ∧ St W (mp mb es :: s) w := by
  obtain ⟨a, k, h1, hb, hd, sa, sb⟩ := h.sat; rcases h1 with h1 | ⟨mb, es, h1, h2⟩
  · exact .inl h1
  · exact .inr ⟨mb, es, h1, ⟨h.os, h.tape, h.output, h.size, a, k, h2, hb, hd, sa, sb⟩⟩
theorem dDelX {f : Ev} {x y : Operand} {t t' K E0 : Nat} {k : List UInt8} {mv : Value} {r : List SL} [ht : MapT Tryz.prog t K E0] [hK : StrT Tryz.prog K] (hx : opv f x = some mv) (hy : opv f y = some (.string (mkS k))) (hp : Pull (hmx mv) s r) :
    Does Tryz.prog W s f (.call { callee := .builtin .delete, args := #[x, y], argTypes := #[t, t'] }) (fun _ w' => St W (hmx mv :: r) w') := fun N a w dst ty pos aft hE hS => by
  have h1 := hS.pull hp; rcases St.hmx_cases h1 with rfl | ⟨mb, es, rfl, h2⟩
  · obtain ⟨v, w', h3, h4⟩ := dMapDelNil (P := Tryz.prog) (t := t) (K := K) (E := E0) (t' := t') (s := hmx (.map none) :: r) (W := W) hx hy N a w dst ty pos aft hE h1; exact ⟨v, w', h3, h4⟩
  · obtain ⟨v, w', h3, h4⟩ := dMapDel (P := Tryz.prog) (t := t) (K := K) (E := E0) (t' := t') (W := W) hx hy .head N a w dst ty pos aft hE h2; exact ⟨v, w', h3, h4.imp fun _ q => .inr ⟨mb, _, rfl, q⟩⟩
/-- (*Header).Del -/
theorem c45 {v mv : Value} {Gs Cs : List Fld} {k : List UInt8} (hS : St W (cel hb [v, mv] 80 (0, 0) :: own 141 1 v Cs.length (ptrs Cs) :: hmx mv :: bs fld Gs :: s) w) (hsub : ∀ F ∈ Cs, F ∈ Gs) (hk : ∀ c ∈ k, isNm c = true) (hkl : k.length ≤ 1000) (hlen : Cs.length ≤ 1000) :
    Calls Tryz.prog 45 #[ptr hb 0, .string (mkS k)] w fun e w' => ∃ v' Cs', (e = .returned (.tuple #[]) ∧ Cs' = Cs.filter (fun F => decide (F.key ≠ canonF true k))) ∧ St W (cel hb [v', mv] 80 (0, 0) :: own 141 1 v' Cs'.length (ptrs Cs') :: hmx mv :: bs fld Gs :: s) w' := by
  obtain ⟨kk, hkk⟩ : ∃ kk, kk = canonF true k := ⟨_, rfl⟩; obtain ⟨n, hn0⟩ : ∃ n, n = Cs.length := ⟨_, rfl⟩; rw [← hn0] at hS hlen; obtain ⟨q, cap, rfl, hncap⟩ := own_form hS.tail; refine fn_calls (args := [ptr hb 0, .string (mkS k)]) Tryz.func45 rfl rfl rfl ?_; refine Xs (Xg (XX 1 hS rfl ?_)); refine XC hS (gCall rfl) rfl (c46 hS hk (by omega)) ?_; clear hS; intro e w hR; (try dsimp only [bfp, BS.cells, oint, List.length_nil, List.length_cons, List.nil_append] at hR); obtain ⟨rfl, hS⟩ := hR; refine ⟨_, rfl, ?_⟩; intro a hE; rw [← hkk] at hE; revert a; refine XX 1 hS rfl (Xn (Xs (Xg (XX 1 hS rfl (XR hS (rNil rfl) rfl (XR hS (rField rfl) rfl (XR hS (rLoad rfl (by exact rfl)) rfl ?_))))))); refine XX 1 hS rfl ?_; refine XN hS (dDelX rfl rfl (.tail (.tail .head))) ?_; clear hS; intro _ w hS
  refine Xn (Xs (Xg (XX 1 hS rfl (XR hS (rNil rfl) rfl (XR hS (rField rfl) rfl (XR hS (rLoad rfl (by exact rfl)) rfl ?_)))))); refine XR hS (rLen rfl) rfl (XR hS (rSub rfl rfl (w64 (by omega) (by omega))) rfl ?_); refine XX 1 hS rfl (Xn (Xb ?_)); intro a hE; refine cw_loop (fun (σ : Nat × Value × List Fld) a w => Env Tryz.f45.ntmps (envL [(0, ptr hb 0), (1, .string (mkS kk)), (4, .int .i64 ((σ.1 : Int) - 1))]) a ∧ σ.1 ≤ n ∧ σ.2.2 = (Cs.drop σ.1).filter (fun F => decide (F.key ≠ kk)) ∧ St W (cel hb [σ.2.1, mv] 80 (0, 0) :: own 141 1 σ.2.1 (σ.1 + σ.2.2.length) (ptrs (Cs.take σ.1 ++ σ.2.2)) :: hmx mv :: bs fld Gs :: s) w)
    (fun σ => σ.1) (n, .slice q n cap, []) ⟨hE.cut ⟨rfl, rfl, rfl, trivial⟩, Nat.le_refl _, by dsimp only; rw [List.drop_of_length_le (by omega)]; rfl, by dsimp only; rw [List.take_of_length_le (by omega), List.append_nil]; exact hS.arr⟩ ?_
  clear hS hE a; rintro ⟨i, v1, T⟩ a w ⟨hE, hin, hT, hS⟩; dsimp only at *; rcases i with _ | j
  · revert a; refine Xs (Xs (Xg (XX 1 hS rfl (XR hS (rCmp rfl rfl (cmp_geqF (by omega))) rfl ?_)))); refine Xn (Xf rfl (Xe rfl ?_)); refine X0 rfl ?_; rw [List.drop_zero] at hT; rw [List.take_zero, List.nil_append, Nat.zero_add] at hS; exact ⟨v1, T, ⟨rfl, by rw [hT, hkk]⟩, hS⟩
  · have e5 : ((j + 1 : Nat) : Int) - 1 = (j : Int) := by omega
    rw [e5] at hE; have hjl : j < Cs.length := by omega
    obtain ⟨F, hF⟩ : ∃ F, Cs[j]? = some F := ⟨_, List.getElem?_eq_getElem hjl⟩; have hFm := hsub F (List.mem_of_getElem? hF); have hdrop : Cs.drop j = F :: Cs.drop (j + 1) := by
      rw [List.drop_eq_getElem_cons hjl]; rw [List.getElem?_eq_getElem hjl] at hF; rw [Option.some.inj hF]
    have htake : Cs.take (j + 1) = Cs.take j ++ [F] := by
      rw [List.take_add_one, hF]; rfl
    obtain ⟨g1, g2, hsplit⟩ := List.append_of_mem hFm; have hTl : T.length ≤ n := by
      rw [hT]; exact Nat.le_trans (List.length_filter_le _ _) (by simp; omega)
    rcases (hS.tk1 (own 141 1 v1 (j + 1 + T.length) (ptrs (Cs.take (j + 1) ++ T)))).own_cases.2 with ⟨_, h2, _⟩ | ⟨b', cap', junk, e1, hcap, hj, hS1⟩
    · omega
    · subst e1; have hS2 := hS1.tk1 (bs fld Gs); rw [hsplit] at hS2; have hS3 := St.fld_open (St.bs_out hS2); clear hS hS1 hS2; have hS := hS3.tk4 (cel hb [.slice (some ⟨b', 0, none⟩) (j + 1 + T.length) cap', mv] 80 (0, 0)) (cel b' (ptrs (Cs.take (j + 1) ++ T) ++ junk) 141 (0, 0)) (cel F.p [F.v, .string (mkS F.key), .string (mkS F.val)] 157 (0, 0)) (bs fld (g1 ++ g2)); clear hS3; obtain ⟨R, hR⟩ : ∃ R, R = ptrs (Cs.take (j + 1) ++ T) ++ junk := ⟨_, rfl⟩; have hRe : R = ptrs (Cs.take j) ++ (ptr F.p 0 :: ptrs T ++ junk) := by rw [hR, htake]; simp
      have hpj : (ptrs (Cs.take j)).length = j := by simp; omega
      have hat : R[0 + j]? = some (ptr F.p 0) := by
        rw [hRe, Nat.zero_add, List.getElem?_append_right (by omega), hpj, Nat.sub_self]; rfl
      have hRl : R.length = cap' := by rw [hR, List.length_append, hj]; simp; omega
      have hRd : (R.drop (j + 1)).take T.length = ptrs T := by
        rw [hRe, List.drop_append, List.drop_of_length_le (by omega), hpj, show j + 1 - j = 1 by omega]; simp
      rw [← hR] at hS; revert a; refine Xs (Xs (Xg (XX 1 hS rfl (XR hS (rCmp rfl rfl (cmp_geqT (by omega))) rfl ?_)))); refine Xn (Xt rfl (Xk (Xs (Xb (Xs ?_))))); have back : ∀ {w : World} {t : List SL}, St W (cel F.p [F.v, .string (mkS F.key), .string (mkS F.val)] 157 (0, 0) :: ob 5 F.v F.raw :: bs fld (g1 ++ g2) :: t) w → St W (bs fld Gs :: t) w := fun h => by
        have h1 := St.bs_in ((St.fld_shut h).tk2 (fld F) (bs fld (g1 ++ g2))); rw [← hsplit] at h1; exact h1
      by_cases hc0 : F.key = kk
      · refine Xg (XX 1 hS rfl (XR hS (rNil rfl) rfl (XR hS (rField rfl) rfl (XR hS (rLoad rfl (by exact rfl)) rfl ?_)))); refine XX 1 hS rfl (XR hS (rIdxA1 (i := j) rfl rfl (by omega)) rfl ?_); refine XR hS (rLoad rfl hat) rfl (XR hS (rNil rfl) rfl (XR hS (rField rfl) rfl (XR hS (rLoad rfl (by exact rfl)) rfl ?_))); refine XX 1 hS rfl (XR hS (rStrEq rfl rfl (b := true) (by rw [hc0]; exact beq_self_eq_true _)) rfl ?_); refine Xn (Xt rfl ?_); have hsl : (R.drop (slo 0 (j + 1) cap')).take (j + 1 + T.length - (j + 1)) = ptrs T := by
          rw [show j + 1 + T.length - (j + 1) = T.length by omega]; by_cases hc1 : cap' = j + 1
          · have : T.length = 0 := by omega
            rw [this, List.take_zero, List.length_eq_zero_iff.1 this]; rfl
          · rw [slo_lt (by omega), Nat.zero_add]; exact hRd
        have hone : ∀ v ∈ (R.drop (slo 0 (j + 1) cap')).take (j + 1 + T.length - (j + 1)), v.oneCell' = true := by
          intro v hv; rw [hsl] at hv; obtain ⟨i, hi⟩ := List.getElem?_of_mem hv; exact ptrs_one T hi
        have hput : putL R j (ptrs T) = ptrs (Cs.take j ++ T) ++ R.drop (j + T.length) := by
          rw [putL_eq _ _ _ (by simp; omega)]; have : R.take j = ptrs (Cs.take j) := by
            rw [hRe, List.take_append, List.take_of_length_le (by omega), hpj, Nat.sub_self, List.take_zero, List.append_nil]
          rw [this]; simp
        refine Xh ([]) [.s, .s, .s, .s, .r, .s, .s, .s, .s, .s, .r, .s, .s, .s, .h, .s, .s, .e] mixed (by kernel_rfl) hS ?_; clear hS; intro w hS; refine XS (rMove rfl) rfl (XS (rMove rfl) rfl (XS (rNil rfl) rfl (XS (rField rfl) rfl (XT hS (rLoad rfl (by exact rfl)) rfl ?_)))); refine XS (rMove rfl) rfl (XS (rSlc0 rfl rfl (by omega)) rfl ?_); refine XS (rMove rfl) rfl (XS (rNil rfl) rfl (XS (rField rfl) rfl (XT hS (rLoad rfl (by exact rfl)) rfl ?_))); refine XS (rMove rfl) rfl (XS (rAddN (n := 1) rfl rfl (by first | omega | (simp <;> omega)) rfl) rfl ?_); refine XS (rSlc1 rfl rfl (by omega)) rfl ?_; refine XH hS (dDel (i := j) (k := j + 1 + T.length - (j + 1)) (o := slo 0 (j + 1) cap') rfl rfl (.tail .head) (by omega) (by omega) (by unfold slo; split <;> omega) hone) rfl ?_; clear hS; intro vr w hR; obtain ⟨rfl, hS⟩ := hR; refine ⟨hS.sub, ?_⟩
        refine XS (rNil rfl) rfl (XS (rField rfl) rfl ?_); refine XM hS (dStoreL rfl rfl (by exact rfl) rfl (by first | rfl | assumption | exact erv_one)) ?_; clear hS; intro _ w hS; refine Xn ?_; rw [hsl, hput] at hS; refine Xg (XX 1 hS rfl (XR hS (rSub rfl rfl (w64 (by omega) (by omega))) rfl ?_)); refine XX 1 hS rfl (Xn ?_); have hS5 := (hS.tk1 (cel b' (ptrs (Cs.take j ++ T) ++ R.drop (j + T.length)) 141 (0, 0))).own_of (sz := 1) (n := j + T.length) (cap := cap') (by simp; omega) (by rw [List.length_drop, hRl]; omega) (by omega); rw [show j + (j + 1 + T.length - (j + 1)) = j + T.length by omega] at hS5; have hS6 := back (hS5.tk3 (cel F.p [F.v, .string (mkS F.key), .string (mkS F.val)] 157 (0, 0)) (ob 5 F.v F.raw) (bs fld (g1 ++ g2))); intro a hE; refine ⟨(j, .slice (some ⟨b', 0, none⟩) (j + T.length) cap', T), by simp, hE.cut ⟨rfl, rfl, rfl, trivial⟩, by dsimp only; omega, ?_, hS6.arr⟩
        dsimp only; rw [hdrop, List.filter_cons_of_neg (by simp [hc0]), hT]
      · refine Xg (XX 1 hS rfl (XR hS (rNil rfl) rfl (XR hS (rField rfl) rfl (XR hS (rLoad rfl (by exact rfl)) rfl ?_)))); refine XX 1 hS rfl (XR hS (rIdxA1 (i := j) rfl rfl (by omega)) rfl ?_); refine XR hS (rLoad rfl hat) rfl (XR hS (rNil rfl) rfl (XR hS (rField rfl) rfl (XR hS (rLoad rfl (by exact rfl)) rfl ?_))); refine XX 1 hS rfl (XR hS (rStrEq rfl rfl (b := false) (beq_eq_false_iff_ne.2 hc0)) rfl (Xn (Xf rfl (Xk (Xg (XX 1 hS rfl (XR hS (rSub rfl rfl (w64 (by omega) (by omega))) rfl ?_))))))); refine XX 1 hS rfl (Xn ?_); rw [hR] at hS; have hS5 := (hS.tk1 (cel b' (ptrs (Cs.take (j + 1) ++ T) ++ junk) 141 (0, 0))).own_of (sz := 1) (n := j + 1 + T.length) (cap := cap') (by simp; omega) hj hcap; have hS6 := back (hS5.tk3 (cel F.p [F.v, .string (mkS F.key), .string (mkS F.val)] 157 (0, 0)) (ob 5 F.v F.raw) (bs fld (g1 ++ g2)))
        have e1 : Cs.take (j + 1) ++ T = Cs.take j ++ F :: T := by rw [htake]; simp
        rw [e1, show j + 1 + T.length = j + (F :: T).length by simp; omega] at hS6; intro a hE; refine ⟨(j, .slice (some ⟨b', 0, none⟩) (j + (F :: T).length) cap', F :: T), by simp, hE.cut ⟨rfl, rfl, rfl, trivial⟩, by dsimp only; omega, ?_, hS6.arr⟩; dsimp only; rw [hdrop, List.filter_cons_of_pos (by simp [hc0]), hT]
end
end Go.Proofs
end
section
namespace Go.Proofs
open Go.Eng
instance : Enters Tryz.prog 191 := ⟨fun args w => by kernel_rfl⟩
instance : Enters Tryz.prog 192 := ⟨fun args w => by kernel_rfl⟩
instance : Enters Tryz.prog 194 := ⟨fun args w => by kernel_rfl⟩
instance : MethodOf Tryz.prog 158 "Del" 191 := ⟨fun v w => by kernel_rfl⟩
instance : MethodOf Tryz.prog 158 "Key" 192 := ⟨fun v w => by kernel_rfl⟩
instance : MethodOf Tryz.prog 158 "Next" 194 := ⟨fun v w => by kernel_rfl⟩
section
variable {W w : World} {s : List SL} {L : List SL} {b hb fb : Nat}
/-- (*Header).Fields -/
theorem c47 (hS : St W s w) : Calls Tryz.prog 47 #[ptr hb 0] w fun e w' => ∃ fb, e = .returned (.iface 158 (ptr fb 0)) ∧ St W (cel fb [ptr hb 0, .int .i64 (-1)] 160 (0, 0) :: s) w' := by
  refine fn_calls (args := [ptr hb 0]) Tryz.func47 rfl rfl rfl ?_; refine Xs (Xg (XX 1 hS rfl (Xn (Xs (Xg (XX 1 hS rfl (XR hS (rBuild rfl rfl) rfl ?_))))))); refine XD hS (dBox rfl) rfl ?_; clear hS; intro vr w hR; obtain ⟨b5, rfl, hS⟩ := hR; refine XR hS (rIface rfl) rfl (XX 1 hS rfl (Xn (Xr ?_))); exact X1 rfl rfl ⟨b5, rfl, hS⟩
/-- (*headerFields).Next -/
theorem c194 {q : Option Addr} {n cap c : Nat} {mv : Value} {i : Int} (hS : St W (cel fb [ptr hb 0, .int .i64 i] 160 (0, 0) :: s) w) [k : HasCel s hb [.slice q n cap, mv] 80 (0, 0)] (hi : i = (c : Int) - 1) (hn1 : n ≤ 100000) (hc1 : c ≤ 100000) :
    Calls Tryz.prog 194 #[ptr fb 0] w fun e w' => e = .returned (.bool (decide (c < n))) ∧ St W (cel fb [ptr hb 0, .int .i64 (c : Int)] 160 (0, 0) :: s) w' := by
  subst hi; refine fn_calls (args := [ptr fb 0]) Tryz.func194 rfl rfl rfl ?_; refine Xs (Xg (XX 1 hS rfl (Xn (Xs (Xg (XX 1 hS rfl (XR hS (rNil rfl) rfl (XR hS (rField rfl) rfl (XR hS (rLoad rfl (by exact rfl)) rfl ?_))))))))); refine XR hS (rAdd (r := (c : Int)) rfl rfl (by rw [show (c : Int) - 1 + 1 = c by omega]; exact w64 (by omega) (by omega))) rfl ?_; refine XR hS (rNil rfl) rfl (XR hS (rField rfl) rfl ?_); refine XN hS (dStoreL rfl rfl (by exact rfl) rfl (by first | rfl | assumption | exact erv_one)) ?_; clear hS; intro _ w hS; refine Xn (Xs ?_); refine Xd [.s, .s, .s, .s, .s, .s, .s, .s, .s, .s, .s, .s, .s, .s] mixed (by kernel_rfl) hS ?_; clear hS; intro w hS; refine XS (rMove rfl) rfl (XS (rNil rfl) rfl (XS (rField rfl) rfl (XS (rLoad rfl (by exact rfl)) rfl ?_))); refine XS (rMove rfl) rfl (XS (rNil rfl) rfl (XS (rField rfl) rfl (XS (rLoad rfl (by exact rfl)) rfl ?_)))
  refine XS (rNil rfl) rfl (XS (rField rfl) rfl (XS (rLoad rfl (by exact rfl)) rfl ?_)); refine XS (rLen rfl) rfl (XS (rLtN rfl rfl rfl) rfl (XS (rAssign rfl) rfl (Xn (Xr ?_)))); exact X1 rfl rfl ⟨rfl, hS⟩
/-- (*headerFields).index -/
theorem c198 {q : Option Addr} {n cap c : Nat} {mv : Value} (hS : St W s w) [k0 : HasCel s fb [ptr hb 0, .int .i64 (c : Int)] 160 (0, 0)] [k : HasCel s hb [.slice q n cap, mv] 80 (0, 0)] (hcn : c < n) (hn1 : n ≤ 100000) :
    Calls Tryz.prog 198 #[ptr fb 0] w fun e w' => e = .returned (.int .i64 ((n - c - 1 : Nat) : Int)) ∧ St W s w' := by
  refine fn_calls (args := [ptr fb 0]) Tryz.func198 rfl rfl rfl ?_; refine Xs (Xg (XX 1 hS rfl (Xn (Xs (Xs (Xg (XX 1 hS rfl (XR hS (rNil rfl) rfl (XR hS (rField rfl) rfl (XR hS (rLoad rfl (by exact rfl)) rfl ?_)))))))))); refine XR hS (rCmp rfl rfl (cmp_lssF (by omega))) rfl ?_; refine Xn (Xf rfl (Xk (Xs (Xs ?_)))); refine Xd [.s, .s, .s, .s, .s, .s, .s, .s, .s, .s, .s, .s, .s] mixed (by kernel_rfl) hS ?_; clear hS; intro w hS; refine XS (rMove rfl) rfl (XS (rNil rfl) rfl (XS (rField rfl) rfl (XS (rLoad rfl (by exact rfl)) rfl ?_))); refine XS (rMove rfl) rfl (XS (rNil rfl) rfl (XS (rField rfl) rfl (XS (rLoad rfl (by exact rfl)) rfl ?_))); refine XS (rNil rfl) rfl (XS (rField rfl) rfl (XS (rLoad rfl (by exact rfl)) rfl ?_)); refine XS (rLen rfl) rfl (XS (rCmp rfl rfl (cmp_geqF (by omega))) rfl ?_); refine Xn (Xf rfl (Xk (Xs ?_)))
  refine Xd [.s, .s, .s, .s, .s, .s, .s, .s, .s, .s, .s, .s, .s, .s, .s] mixed (by kernel_rfl) hS ?_; clear hS; intro w hS; refine XS (rMove rfl) rfl (XS (rNil rfl) rfl (XS (rField rfl) rfl (XS (rLoad rfl (by exact rfl)) rfl ?_))); refine XS (rNil rfl) rfl (XS (rField rfl) rfl (XS (rLoad rfl (by exact rfl)) rfl ?_)); refine XS (rLen rfl) rfl (XS (rMove rfl) rfl (XS (rNil rfl) rfl (XS (rField rfl) rfl (XS (rLoad rfl (by exact rfl)) rfl ?_)))); refine XS (rSubN rfl rfl (by first | omega | (simp <;> omega)) (by first | omega | (simp <;> omega)) rfl) rfl ?_; refine XS (rSubN (n := 1) rfl rfl (by first | omega | (simp <;> omega)) (by first | omega | (simp <;> omega)) rfl) rfl ?_; refine XS (rAssign rfl) rfl (Xn (Xr ?_)); exact X1 rfl rfl ⟨rfl, hS⟩
/-- (*headerFields).field -/
theorem c197 {n cap c p b' : Nat} {mv : Value} {R : List Value} (hS : St W s w) [k0 : HasCel s fb [ptr hb 0, .int .i64 (c : Int)] 160 (0, 0)] [k : HasCel s hb [.slice (some ⟨b', 0, none⟩) n cap, mv] 80 (0, 0)] [k2 : HasCel s b' R 141 (0, 0)] (hcn : c < n) (hn1 : n ≤ 100000) (hat : R[n - c - 1]? = some (ptr p 0)) :
    Calls Tryz.prog 197 #[ptr fb 0] w fun e w' => e = .returned (ptr p 0) ∧ St W s w' := by
  refine fn_calls (args := [ptr fb 0]) Tryz.func197 rfl rfl rfl ?_; refine Xs (Xg (XX 1 hS rfl (Xn (Xs ?_)))); refine Xd [.s, .s, .s, .s, .s, .s, .s, .s, .h, .s, .r, .s] mixed (by kernel_rfl) hS ?_; clear hS; intro w hS; refine XS (rMove rfl) rfl (XS (rNil rfl) rfl (XS (rField rfl) rfl (XS (rLoad rfl (by exact rfl)) rfl ?_))); refine XS (rNil rfl) rfl (XS (rField rfl) rfl (XS (rLoad rfl (by exact rfl)) rfl ?_)); refine XS (rMove rfl) rfl ?_; refine XJ hS (gCall rfl) rfl (c198 hS hcn hn1) ?_; clear hS; intro e w hR; (try dsimp only [bfp, BS.cells, oint, List.length_nil, List.length_cons, List.nil_append] at hR); obtain ⟨rfl, hS⟩ := hR; refine ⟨_, rfl, hS.sub, ?_⟩; refine XS (rIdxA1 rfl rfl (by omega)) rfl ?_; refine XT hS (rLoad rfl (by rw [Nat.zero_add]; exact hat)) rfl ?_; refine XS (rAssign rfl) rfl (Xn (Xr ?_)); exact X1 rfl rfl ⟨rfl, hS⟩
/-- (*headerFields).Key -/
theorem c192 {n cap c b' : Nat} {mv : Value} {R : List Value} {F : Fld} (hS : St W s w) [k0 : HasCel s fb [ptr hb 0, .int .i64 (c : Int)] 160 (0, 0)] [k : HasCel s hb [.slice (some ⟨b', 0, none⟩) n cap, mv] 80 (0, 0)] [k2 : HasCel s b' R 141 (0, 0)] [k3 : HasCel s F.p [F.v, .string (mkS F.key), .string (mkS F.val)] 157 (0, 0)] (hcn : c < n) (hn1 : n ≤ 100000) (hat : R[n - c - 1]? = some (ptr F.p 0)) :
    Calls Tryz.prog 192 #[ptr fb 0] w fun e w' => e = .returned (.string (mkS F.key)) ∧ St W s w' := by
  refine fn_calls (args := [ptr fb 0]) Tryz.func192 rfl rfl rfl ?_; refine Xs (Xg (XX 1 hS rfl (Xn (Xs (Xg (XX 1 hS rfl ?_)))))); refine XC hS (gCall rfl) rfl (c197 (p := F.p) (R := R) (b' := b') (n := n) (cap := cap) (c := c) (mv := mv) hS hcn hn1 hat) ?_; clear hS; intro e w hR; (try dsimp only [bfp, BS.cells, oint, List.length_nil, List.length_cons, List.nil_append] at hR); obtain ⟨rfl, hS⟩ := hR; refine ⟨_, rfl, ?_⟩; refine XR hS (rNil rfl) rfl (XR hS (rField rfl) rfl (XR hS (rLoad rfl (by exact rfl)) rfl ?_)); refine XX 1 hS rfl (Xn (Xr ?_)); exact X1 rfl rfl ⟨rfl, hS⟩
end
end Go.Proofs
end
section
namespace Go.Proofs
open Go.Eng
theorem sub_split {Gs c1 c2 : List Fld} {F : Fld} (h : (c1 ++ F :: c2).Sublist Gs) : ∃ g1 g2, Gs = g1 ++ F :: g2 ∧ (∀ x ∈ c1, x ∈ g1) ∧ (∀ x ∈ c2, x ∈ g2) := by
  obtain ⟨r1, r2, rfl, h1, h2⟩ := List.append_sublist_iff.1 h; obtain ⟨r3, r4, rfl, h3, h4⟩ := List.cons_sublist_iff.1 h2; obtain ⟨x, y, rfl⟩ := List.append_of_mem h3; exact ⟨r1 ++ x, y ++ r4, by simp, fun z hz => List.mem_append_left _ (h1.subset hz), fun z hz => List.mem_append_right _ (h4.subset hz)⟩
/-- the map has the fields of the keys that there are -/
def MapOkP (es : List ME) (Fs : List Fld) : Prop := ∀ k, Fs.filter (fun F => decide (F.key = k)) ≠ [] → look es k = (Fs.filter fun F => decide (F.key = k)).map (·.p)
theorem mget_mset {l : List (List UInt8 × Value)} {k : List UInt8} {v : Value} : mget (mset l k v) k = some v := by
  induction l with
  | nil => simp [mset, mget]
  | cons p l ih =>
    obtain ⟨k1, v1⟩ := p; by_cases h : k1 = k <;> simp [mset, mget, h, ih]
section
variable {W w : World} {s : List SL} {L : List SL} {b hb fb : Nat}
/-- (*headerFields).Del -/
theorem c191 {n cap c b' mb : Nat} {Gs c1 c2 : List Fld} {F : Fld} {es : List ME} {junk : List Value}
    (hS : St W (cel fb [ptr hb 0, .int .i64 (c : Int)] 160 (0, 0) :: cel hb [.slice (some ⟨b', 0, none⟩) n cap, .map (some mb)] 80 (0, 0) :: cel b' (ptrs (c1 ++ F :: c2) ++ junk) 141 (0, 0) :: mp mb (meE es) :: bs meSL es :: bs fld Gs :: s) w)
    (hsub : (c1 ++ F :: c2).Sublist Gs) (hn0 : n = (c1 ++ F :: c2).length) (hcn : c < n) (hc1 : c1.length = n - c - 1) (hok : MapOkP es (c1 ++ F :: c2)) (hcap : n ≤ cap) (hjl : junk.length = cap - n) (hlen : n ≤ 1000) :
    Calls Tryz.prog 191 #[ptr fb 0] w fun e w' => ∃ (es' : List ME) (junk' : List Value), (e = .returned (.tuple #[]) ∧ MapOkP es' (c1 ++ c2) ∧ junk'.length = cap - (n - 1)) ∧
      St W (cel fb [ptr hb 0, .int .i64 ((c : Int) - 1)] 160 (0, 0) :: cel hb [.slice (some ⟨b', 0, none⟩) (n - 1) cap, .map (some mb)] 80 (0, 0) :: cel b' (ptrs (c1 ++ c2) ++ junk') 141 (0, 0) :: mp mb (meE es') :: bs meSL es' :: bs fld Gs :: s) w' := by
  obtain ⟨g1, g2, hG, hg1, hg2⟩ := sub_split hsub; have hnl : n = c1.length + 1 + c2.length := by rw [hn0]; simp; omega
  obtain ⟨R, hR⟩ : ∃ R, R = ptrs (c1 ++ F :: c2) ++ junk := ⟨_, rfl⟩; rw [← hR] at hS; have hRe : R = ptrs c1 ++ (ptr F.p 0 :: ptrs c2 ++ junk) := by rw [hR]; simp
  have hp1 : (ptrs c1).length = c1.length := by simp
  have hat : R[n - c - 1]? = some (ptr F.p 0) := by
    rw [← hc1, hRe, List.getElem?_append_right (by omega), hp1, Nat.sub_self]; rfl
  have hRl : R.length = cap := by rw [hR, List.length_append, hjl]; simp; omega
  obtain ⟨e1, e2, v0, ps0, m1, m2, m3, m4, m5⟩ := me_step es F.key; obtain ⟨K1, hK1⟩ : ∃ K1, K1 = c1.filter (fun G => decide (G.key = F.key)) := ⟨_, rfl⟩; obtain ⟨K2, hK2⟩ : ∃ K2, K2 = c2.filter (fun G => decide (G.key = F.key)) := ⟨_, rfl⟩; have hfil : (c1 ++ F :: c2).filter (fun G => decide (G.key = F.key)) = K1 ++ F :: K2 := by
    rw [List.filter_append, List.filter_cons_of_pos (by simp), hK1, hK2]
  have hps : ps0 = (K1 ++ F :: K2).map (·.p) := by rw [← m4, hok F.key (by rw [hfil]; simp), hfil]
  have hpsl : ps0.length = K1.length + 1 + K2.length := by rw [hps]; simp; omega
  have hKl : K1.length + K2.length ≤ n := by
    have h1 := List.length_filter_le (fun G : Fld => decide (G.key = F.key)) c1; have h2 := List.length_filter_le (fun G : Fld => decide (G.key = F.key)) c2; rw [hK1, hK2]; omega
  rw [hG] at hS; have hS1 := St.fld_open (hS.tk1 (bs fld (g1 ++ F :: g2))).bs_out; have hS2 := m5 (hS1.tk1 (bs meSL es)); rcases hS2.own_cases.2 with ⟨_, h2, _⟩ | ⟨kb, kcap, kj, rfl, hkcap, hkj, hS3⟩
  · omega
  clear hS hS1 hS2; have hS := hS3.tk6 (cel F.p [F.v, .string (mkS F.key), .string (mkS F.val)] 157 (0, 0)) (cel fb [ptr hb 0, .int .i64 (c : Int)] 160 (0, 0)) (cel hb [.slice (some ⟨b', 0, none⟩) n cap, .map (some mb)] 80 (0, 0)) (mp mb (meE es)) (cel kb (ps0.map (fun p => ptr p 0) ++ kj) 141 (0, 0)) (cel b' R 141 (0, 0)); clear hS3; obtain ⟨Q, hQ⟩ : ∃ Q, Q = ps0.map (fun p => ptr p 0) ++ kj := ⟨_, rfl⟩; rw [← hQ] at hS; have hQe : Q = ptrs K1 ++ (ptr F.p 0 :: ptrs K2 ++ kj) := by rw [hQ, hps]; simp [Function.comp_def]
  have hq1 : (ptrs K1).length = K1.length := by simp
  have hQl : Q.length = kcap := by rw [hQ, List.length_append, hkj]; simp; omega
  refine fn_calls (args := [ptr fb 0]) Tryz.func191 rfl rfl rfl ?_; refine Xs (Xg (XX 1 hS rfl ?_)); refine XC hS (gCall rfl) rfl (c197 (p := F.p) (R := R) (b' := b') (n := n) (cap := cap) (c := c) (mv := .map (some mb)) hS hcn (by omega) hat) ?_; clear hS; intro e w hR; (try dsimp only [bfp, BS.cells, oint, List.length_nil, List.length_cons, List.nil_append] at hR); obtain ⟨rfl, hS⟩ := hR; refine ⟨_, rfl, ?_⟩; refine XX 1 hS rfl (Xn (Xs (Xg (XX 1 hS rfl (Xn (Xs (Xs ?_))))))); refine Xd [.s, .s, .s, .s, .s, .s, .s, .s, .s, .s, .s, .s, .s, .s] mixed (by kernel_rfl) hS ?_; clear hS; intro w hS; refine XS (rMove rfl) rfl (XS (rNil rfl) rfl (XS (rField rfl) rfl (XS (rLoad rfl (by exact rfl)) rfl ?_))); refine XS (rNil rfl) rfl (XS (rField rfl) rfl (XS (rLoad rfl (by exact rfl)) rfl ?_)); refine XS (rMove rfl) rfl (XS (rNil rfl) rfl (XS (rField rfl) rfl (XS (rLoad rfl (by exact rfl)) rfl ?_)))
  refine XS (rLook rfl rfl (.tail (.tail (.tail .head))) m1) rfl (XS (rLen rfl) rfl (XS (rMove rfl) rfl (Xn (Xb ?_)))); intro a hE; refine cw_loop (fun (i : Nat) a w => Env Tryz.f191.ntmps (envL [(0, ptr fb 0), (2, ptr F.p 0), (3, .bool false), (19, .slice (some ⟨kb, 0, none⟩) ps0.length kcap), (20, .int .i64 (ps0.length : Int)), (21, .int .i64 (i : Int))]) a ∧ i ≤ K1.length ∧ St W (cel F.p [F.v, .string (mkS F.key), .string (mkS F.val)] 157 (0, 0) :: cel fb [ptr hb 0, .int .i64 (c : Int)] 160 (0, 0) :: cel hb [.slice (some ⟨b', 0, none⟩) n cap, .map (some mb)] 80 (0, 0) :: mp mb (meE es) :: cel kb Q 141 (0, 0) :: cel b' R 141 (0, 0) :: bs meSL (e1 ++ e2) :: ob 5 F.v F.raw :: bs fld (g1 ++ g2) :: s) w) (fun i => K1.length - i) 0 ⟨hE.cut ⟨rfl, rfl, rfl, rfl, rfl, rfl, trivial⟩, Nat.zero_le _, hS.arr⟩ ?_; clear hS hE a; rintro i a w ⟨hE, hi, hS⟩; rcases Nat.lt_or_ge i K1.length with h1 | h1
  · obtain ⟨G, hG2⟩ : ∃ G, K1[i]? = some G := ⟨_, List.getElem?_eq_getElem h1⟩; have hGm : G ∈ g1 := hg1 G (by have := List.mem_of_getElem? hG2; rw [hK1] at this; exact (List.mem_filter.1 this).1); obtain ⟨x1, x2, hx⟩ := List.append_of_mem (List.mem_append_left g2 hGm); have hatK : Q[0 + i]? = some (ptr G.p 0) := by
      rw [hQe, Nat.zero_add, List.getElem?_append_left (by omega), List.getElem?_map, hG2]; rfl
    rw [hx] at hS; have hS1 := (St.fld_open (hS.tk1 (bs fld (x1 ++ G :: x2))).bs_out).tk2 (cel F.p [F.v, .string (mkS F.key), .string (mkS F.val)] 157 (0, 0)) (cel G.p [G.v, .string (mkS G.key), .string (mkS G.val)] 157 (0, 0)); have hap := hS1.apart; clear hS; have hS := hS1; clear hS1; revert a; refine Xs (Xg (XR hS (rCmp rfl rfl (cmp_lssT (by omega))) rfl ?_)); refine Xn (Xs (Xt rfl (Xk (Xs (Xb (Xs (Xg (XX 1 hS rfl (XR hS (rIdxA1 (i := i) rfl rfl (by omega)) rfl ?_))))))))); refine XR hS (rLoad rfl hatK) rfl (XX 2 hS rfl (Xn (Xs (Xg (XX 2 hS rfl (XR hS (rPNe rfl rfl (Ne.symm hap)) rfl (Xn (Xf rfl (Xk (Xg (XR hS (rAddN (n := 1) rfl rfl (by first | omega | (simp <;> omega)) rfl) rfl ?_))))))))))); refine XX 1 hS rfl (Xn ?_); have hS1 := St.bs_in ((St.fld_shut (hS.tk2 (cel G.p [G.v, .string (mkS G.key), .string (mkS G.val)] 157 (0, 0)) (ob 5 G.v G.raw))).tk2 (fld G) (bs fld (x1 ++ x2)))
    rw [← hx] at hS1; intro a hE; exact ⟨i + 1, by omega, hE.cut ⟨rfl, rfl, rfl, rfl, rfl, rfl, trivial⟩, by omega, hS1.arr⟩
  · obtain rfl : i = K1.length := by omega
    have hatK : Q[0 + K1.length]? = some (ptr F.p 0) := by
      rw [hQe, Nat.zero_add, List.getElem?_append_right (by omega), hq1, Nat.sub_self]; rfl
    have hkn : ps0.length - (K1.length + 1) = K2.length := by omega
    have hsl : (Q.drop (slo 0 (K1.length + 1) kcap)).take (ps0.length - (K1.length + 1)) = ptrs K2 := by
      rw [hkn]; by_cases hk1 : kcap = K1.length + 1
      · have : K2.length = 0 := by omega
        rw [this, List.take_zero, List.length_eq_zero_iff.1 this]; rfl
      · rw [slo_lt (by omega), Nat.zero_add, hQe, List.drop_append, List.drop_of_length_le (by omega), hq1, show K1.length + 1 - K1.length = 1 by omega]; simp
    have hone : ∀ v ∈ (Q.drop (slo 0 (K1.length + 1) kcap)).take (ps0.length - (K1.length + 1)), v.oneCell' = true := by
      intro v hv; rw [hsl] at hv; obtain ⟨i, hi⟩ := List.getElem?_of_mem hv; exact ptrs_one K2 hi
    have hput : putL Q K1.length (ptrs K2) = ptrs (K1 ++ K2) ++ Q.drop (K1.length + K2.length) := by
      rw [putL_eq _ _ _ (by simp; omega)]; have : Q.take K1.length = ptrs K1 := by
        rw [hQe, List.take_append, List.take_of_length_le (by omega), hq1, Nat.sub_self, List.take_zero, List.append_nil]
      rw [this]; simp
    revert a; refine Xs (Xg (XR hS (rCmp rfl rfl (cmp_lssT (by omega))) rfl ?_)); refine Xn (Xs (Xt rfl (Xk (Xs (Xb (Xs (Xg (XX 1 hS rfl (XR hS (rIdxA1 (i := K1.length) rfl rfl (by omega)) rfl ?_))))))))); refine XR hS (rLoad rfl hatK) rfl (XX 2 hS rfl (Xn (Xs (Xg (XX 2 hS rfl (XR hS (rPSame rfl rfl) rfl (Xn (Xt rfl (Xs (Xg (XX 1 hS rfl (Xn (Xs ?_))))))))))))); refine Xh ([cel F.p [F.v, .string (mkS F.key), .string (mkS F.val)] 157 (0, 0), cel fb [ptr hb 0, .int .i64 (c : Int)] 160 (0, 0), cel hb [.slice (some ⟨b', 0, none⟩) n cap, .map (some mb)] 80 (0, 0)]) [.s, .s, .s, .s, .s, .s, .s, .s, .s, .s, .s, .s, .s, .s, .r, .s, .s, .r, .s, .s, .s, .r, .r, .s, .s, .s, .s, .s, .r, .s, .s, .r, .s, .s, .s, .r, .r, .s, .s, .s, .h, .e] mixed (by kernel_rfl) hS ?_; clear hS; intro w hS; refine XS (rMove rfl) rfl (XS (rNil rfl) rfl (XS (rField rfl) rfl (XS (rLoad rfl (by exact rfl)) rfl ?_)))
    refine XS (rNil rfl) rfl (XS (rField rfl) rfl (XS (rLoad rfl (by exact rfl)) rfl ?_)); refine XS (rMove rfl) rfl (XS (rNil rfl) rfl (XS (rField rfl) rfl (XS (rLoad rfl (by exact rfl)) rfl ?_))); refine XS (rMove rfl) rfl (XS (rNil rfl) rfl (XS (rField rfl) rfl (XT hS (rLoad rfl (by exact rfl)) rfl ?_))); refine XS (rNil rfl) rfl (XS (rField rfl) rfl (XT hS (rLoad rfl (by exact rfl)) rfl ?_)); refine XS (rMove rfl) rfl (XS (rNil rfl) rfl (XS (rField rfl) rfl (XT hS (rLoad rfl (by exact rfl)) rfl ?_))); refine XT hS (rLook rfl rfl (.tail (.tail (.tail .head))) m1) rfl (XS (rMove rfl) rfl (XS (rSlc0 (j := K1.length) rfl rfl (by omega)) rfl ?_)); refine XS (rMove rfl) rfl (XS (rNil rfl) rfl (XS (rField rfl) rfl (XT hS (rLoad rfl (by exact rfl)) rfl ?_))); refine XS (rNil rfl) rfl (XS (rField rfl) rfl (XT hS (rLoad rfl (by exact rfl)) rfl ?_))
    refine XS (rMove rfl) rfl (XS (rNil rfl) rfl (XS (rField rfl) rfl (XT hS (rLoad rfl (by exact rfl)) rfl ?_))); refine XT hS (rLook rfl rfl (.tail (.tail (.tail .head))) m1) rfl (XS (rMove rfl) rfl (XS (rAddN (n := 1) rfl rfl (by first | omega | (simp <;> omega)) rfl) rfl ?_)); refine XS (rSlc1 rfl rfl (by omega)) rfl ?_; refine XH hS (dDel (i := K1.length) (k := ps0.length - (K1.length + 1)) (o := slo 0 (K1.length + 1) kcap) rfl rfl (.tail (.tail (.tail (.tail .head)))) (by omega) (by omega) (by unfold slo; split <;> omega) hone) rfl ?_; clear hS; intro vr w hR; obtain ⟨rfl, hS⟩ := hR; refine ⟨hS.sub, ?_⟩; replace hS := hS.tk4 (cel F.p [F.v, .string (mkS F.key), .string (mkS F.val)] 157 (0, 0)) (cel fb [ptr hb 0, .int .i64 (c : Int)] 160 (0, 0)) (cel hb [.slice (some ⟨b', 0, none⟩) n cap, .map (some mb)] 80 (0, 0)) (mp mb (meE es))
    refine XM hS (dMapSet rfl rfl rfl (.tail (.tail (.tail .head)))) ?_; clear hS; intro _ w hS; refine Xn ?_; intro a hE; refine cw_seqj (fun a w => Env Tryz.f191.ntmps (envL [(0, ptr fb 0), (2, ptr F.p 0), (3, .bool true)]) a ∧ ∃ es3, MapOkP es3 (c1 ++ c2) ∧ St W (cel F.p [F.v, .string (mkS F.key), .string (mkS F.val)] 157 (0, 0) :: cel fb [ptr hb 0, .int .i64 (c : Int)] 160 (0, 0) :: cel hb [.slice (some ⟨b', 0, none⟩) n cap, .map (some mb)] 80 (0, 0) :: mp mb (meE es3) :: bs meSL es3 :: cel b' R 141 (0, 0) :: ob 5 F.v F.raw :: bs fld (g1 ++ g2) :: s) w) ?_ ?_; refine cw_seq ?_; obtain ⟨M, hM⟩ : ∃ M, M = K1.length + K2.length := ⟨_, rfl⟩; obtain ⟨X, hX⟩ : ∃ X : ME, X = ⟨F.key, .slice (some ⟨kb, 0, none⟩) M kcap, (K1 ++ K2).map (·.p)⟩ := ⟨_, rfl⟩; rw [show K1.length + (ps0.length - (K1.length + 1)) = M by omega, m2 _ ((K1 ++ K2).map (·.p)), hsl, hput, ← hX, ← hM] at hS
    have hS1 := (hS.tk1 (cel kb (ptrs (K1 ++ K2) ++ Q.drop M) 141 (0, 0))).own_of (sz := 1) (n := M) (cap := kcap) (by simp [hM]) (by rw [List.length_drop, hQl]; omega) (by omega); have hXe : own 141 1 (.slice (some ⟨kb, 0, none⟩) M kcap) M (ptrs (K1 ++ K2)) = meSL X := by
      rw [hX]; unfold meSL; simp [hM, Function.comp_def]
    rw [hXe] at hS1; have hS2 := St.bs_in (hS1.tk2 (meSL X) (bs meSL (e1 ++ e2))); clear hS hS1; have hok2 : MapOkP (e1 ++ X :: e2) (c1 ++ c2) := by
      intro k hk; rw [hX, m3]; have hf2 : F.key ≠ k → (c1 ++ F :: c2).filter (fun G => decide (G.key = k)) = (c1 ++ c2).filter (fun G => decide (G.key = k)) := fun h => by
        rw [List.filter_append, List.filter_cons_of_neg (by simpa using h), List.filter_append]
      by_cases hkk : F.key = k
      · subst hkk; rw [if_pos rfl, List.filter_append, hK1, hK2]
      · rw [if_neg hkk, hok k (by rw [hf2 hkk]; exact hk), hf2 hkk]
    have hget : mget (meE (e1 ++ X :: e2)) F.key = some (.slice (some ⟨kb, 0, none⟩) M kcap) := by
      rw [hX, ← m2 (.slice (some ⟨kb, 0, none⟩) M kcap) ((K1 ++ K2).map (·.p)), mget_mset]
    have hS := hS2.tk4 (cel F.p [F.v, .string (mkS F.key), .string (mkS F.val)] 157 (0, 0)) (cel fb [ptr hb 0, .int .i64 (c : Int)] 160 (0, 0)) (cel hb [.slice (some ⟨b', 0, none⟩) n cap, .map (some mb)] 80 (0, 0)) (mp mb (meE (e1 ++ X :: e2))); clear hS2
    · rcases Nat.eq_zero_or_pos M with hM0 | hM0
      · revert a; refine Xd [.s, .s, .s, .s, .s, .s, .s, .s, .s, .s, .s, .s, .s, .s] mixed (by kernel_rfl) hS ?_; clear hS; intro w hS; refine XS (rMove rfl) rfl (XS (rNil rfl) rfl (XS (rField rfl) rfl (XS (rLoad rfl (by exact rfl)) rfl ?_))); refine XS (rNil rfl) rfl (XS (rField rfl) rfl (XS (rLoad rfl (by exact rfl)) rfl ?_)); refine XS (rMove rfl) rfl (XS (rNil rfl) rfl (XS (rField rfl) rfl (XS (rLoad rfl (by exact rfl)) rfl ?_))); refine XS (rLook rfl rfl (.tail (.tail (.tail .head))) (show (mget (meE (e1 ++ X :: e2)) F.key).getD _ = .slice (some ⟨kb, 0, none⟩) M kcap by rw [hget]; rfl)) rfl ?_; refine XS (rLen rfl) rfl (XS (rEqN (n := 0) rfl rfl (b := true) (decide_eq_true hM0)) rfl (Xn (Xt rfl ?_))); refine Xh ([]) [.s, .s, .s, .r, .s, .s, .r, .s, .s, .s, .r, .e] mixed (by kernel_rfl) hS ?_; clear hS; intro w hS
        refine XS (rMove rfl) rfl (XS (rNil rfl) rfl (XS (rField rfl) rfl (XT hS (rLoad rfl (by exact rfl)) rfl ?_))); refine XS (rNil rfl) rfl (XS (rField rfl) rfl (XT hS (rLoad rfl (by exact rfl)) rfl ?_)); refine XS (rMove rfl) rfl (XS (rNil rfl) rfl (XS (rField rfl) rfl (XT hS (rLoad rfl (by exact rfl)) rfl ?_))); refine XM hS (dMapDel rfl rfl (.tail (.tail (.tail .head)))) ?_; clear hS; intro _ w hS; refine Xn ?_; intro a hE; refine ⟨hE.cut ⟨rfl, rfl, rfl, trivial⟩, ?_⟩; rcases mget_split ME.k ME.v (k := F.key) (l := e1 ++ X :: e2) with ⟨h2, _, _⟩ | ⟨l1, e, l2, h2, h3, h4, h5, h6, h7⟩
        · unfold meE at hget; rw [h2] at hget; cases hget
        · refine ⟨l1 ++ l2, ?_, ?_⟩
          · intro k hk; have hne : k ≠ F.key := by
              intro he; subst he; apply hk; rw [List.filter_append, ← hK1, ← hK2, List.length_eq_zero_iff.1 (show K1.length = 0 by omega), List.length_eq_zero_iff.1 (show K2.length = 0 by omega)]; rfl
            rw [← hok2 k hk, h2]; unfold look; rw [List.find?_append, List.find?_append]; cases l1.find? (fun e => decide (e.k = k)) with
            | some _ => rfl
            | none => rw [List.find?_cons_of_neg (by simpa using fun he : e.k = k => hne (he.symm.trans h3))]
          · unfold meE at hS; rw [h7, h2] at hS; replace hS := (show St W (mp mb (meE (l1 ++ l2)) :: _) w from hS); exact ((hS.tk1 (bs meSL (l1 ++ e :: l2))).bs_out).arr
      · revert a; refine Xd [.s, .s, .s, .s, .s, .s, .s, .s, .s, .s, .s, .s, .s, .s] mixed (by kernel_rfl) hS ?_; clear hS; intro w hS; refine XS (rMove rfl) rfl (XS (rNil rfl) rfl (XS (rField rfl) rfl (XS (rLoad rfl (by exact rfl)) rfl ?_))); refine XS (rNil rfl) rfl (XS (rField rfl) rfl (XS (rLoad rfl (by exact rfl)) rfl ?_)); refine XS (rMove rfl) rfl (XS (rNil rfl) rfl (XS (rField rfl) rfl (XS (rLoad rfl (by exact rfl)) rfl ?_))); refine XS (rLook rfl rfl (.tail (.tail (.tail .head))) (show (mget (meE (e1 ++ X :: e2)) F.key).getD _ = .slice (some ⟨kb, 0, none⟩) M kcap by rw [hget]; rfl)) rfl ?_; refine XS (rLen rfl) rfl (XS (rEqN (n := 0) rfl rfl (b := false) (decide_eq_false (by omega))) rfl ?_); refine Xn (Xf rfl (Xk ?_)); intro a hE; exact ⟨hE.cut ⟨rfl, rfl, rfl, trivial⟩, e1 ++ X :: e2, hok2, hS.arr⟩
    · clear hS hE a; rintro a w ⟨hE, es3, hok3, hS⟩; have hsl2 : (R.drop (slo 0 (n - c - 1 + 1) cap)).take (n - (n - c - 1 + 1)) = ptrs c2 := by
        rw [show n - (n - c - 1 + 1) = c2.length by omega]; by_cases hk1 : cap = n - c - 1 + 1
        · have : c2.length = 0 := by omega
          rw [this, List.take_zero, List.length_eq_zero_iff.1 this]; rfl
        · rw [slo_lt (by omega), Nat.zero_add, hRe, List.drop_append, List.drop_of_length_le (by omega), hp1, show n - c - 1 + 1 - c1.length = 1 by omega]; simp
      have hone2 : ∀ v ∈ (R.drop (slo 0 (n - c - 1 + 1) cap)).take (n - (n - c - 1 + 1)), v.oneCell' = true := by
        intro v hv; rw [hsl2] at hv; obtain ⟨i, hi⟩ := List.getElem?_of_mem hv; exact ptrs_one c2 hi
      have hput2 : putL R (n - c - 1) (ptrs c2) = ptrs (c1 ++ c2) ++ R.drop (n - 1) := by
        rw [putL_eq _ _ _ (by simp; omega), ← hc1]; have : R.take c1.length = ptrs c1 := by
          rw [hRe, List.take_append, List.take_of_length_le (by omega), hp1, Nat.sub_self, List.take_zero, List.append_nil]
        rw [this, show c1.length + (ptrs c2).length = n - 1 by simp; omega]; simp
      revert a; refine Xe rfl (Xs (Xs (Xg (XX 2 hS rfl (Xn (Xf rfl (Xk (Xs ?_)))))))); refine Xh ([cel fb [ptr hb 0, .int .i64 (c : Int)] 160 (0, 0), cel hb [.slice (some ⟨b', 0, none⟩) n cap, .map (some mb)] 80 (0, 0)]) [.s, .s, .s, .s, .s, .s, .s, .s, .s, .s, .s, .s, .h, .s, .s, .s, .s, .s, .s, .s, .s, .s, .h, .s, .s, .h, .s, .s, .e] mixed (by kernel_rfl) hS ?_; clear hS; intro w hS; refine XS (rMove rfl) rfl (XS (rNil rfl) rfl (XS (rField rfl) rfl (XS (rLoad rfl (by exact rfl)) rfl ?_))); refine XS (rMove rfl) rfl (XS (rNil rfl) rfl (XS (rField rfl) rfl (XS (rLoad rfl (by exact rfl)) rfl ?_))); refine XS (rNil rfl) rfl (XS (rField rfl) rfl (XS (rLoad rfl (by exact rfl)) rfl ?_)); refine XS (rMove rfl) rfl ?_; refine XJ hS (gCall rfl) rfl (c198 (hb := hb) (q := some ⟨b', 0, none⟩) (n := n) (cap := cap) (c := c) (mv := .map (some mb)) hS hcn (by omega)) ?_; clear hS; intro e w hR
      (try dsimp only [bfp, BS.cells, oint, List.length_nil, List.length_cons, List.nil_append] at hR); obtain ⟨rfl, hS⟩ := hR; refine ⟨_, rfl, hS.sub, ?_⟩; refine XS (rSlc0 (j := n - c - 1) rfl rfl (by omega)) rfl ?_; refine XS (rMove rfl) rfl (XS (rNil rfl) rfl (XS (rField rfl) rfl (XS (rLoad rfl (by exact rfl)) rfl ?_))); refine XS (rNil rfl) rfl (XS (rField rfl) rfl (XS (rLoad rfl (by exact rfl)) rfl ?_)); refine XS (rMove rfl) rfl ?_; refine XJ hS (gCall rfl) rfl (c198 (hb := hb) (q := some ⟨b', 0, none⟩) (n := n) (cap := cap) (c := c) (mv := .map (some mb)) hS hcn (by omega)) ?_; clear hS; intro e w hR; (try dsimp only [bfp, BS.cells, oint, List.length_nil, List.length_cons, List.nil_append] at hR); obtain ⟨rfl, hS⟩ := hR; refine ⟨_, rfl, hS.sub, ?_⟩; refine XS (rAddN (m := n - c - 1) (n := 1) rfl rfl (by omega) rfl) rfl ?_; refine XS (rSlc1 rfl rfl (by omega)) rfl ?_
      refine XH hS (dDel (i := n - c - 1) (k := n - (n - c - 1 + 1)) (o := slo 0 (n - c - 1 + 1) cap) rfl rfl (.tail (.tail (.tail (.tail (.tail .head))))) (by omega) (by omega) (by unfold slo; split <;> omega) hone2) rfl ?_; clear hS; intro vr w hR; obtain ⟨rfl, hS⟩ := hR; refine ⟨hS.sub, ?_⟩; replace hS := hS.tk2 (cel fb [ptr hb 0, .int .i64 (c : Int)] 160 (0, 0)) (cel hb [.slice (some ⟨b', 0, none⟩) n cap, .map (some mb)] 80 (0, 0)); refine XS (rNil rfl) rfl (XS (rField rfl) rfl ?_); refine XM hS (dStoreL rfl rfl (by exact rfl) rfl (by first | rfl | assumption | exact erv_one)) ?_; clear hS; intro _ w hS; refine Xn ?_; rw [hsl2, hput2, show n - c - 1 + (n - (n - c - 1 + 1)) = n - 1 by omega] at hS; refine Xg (XX 1 hS rfl (XR hS (rNil rfl) rfl (XR hS (rField rfl) rfl (XR hS (rLoad rfl (by exact rfl)) rfl ?_)))); refine XR hS (rSub rfl rfl (w64 (by omega) (by omega))) rfl ?_
      refine XR hS (rNil rfl) rfl (XR hS (rField rfl) rfl ?_); refine XN hS (dStoreL rfl rfl (by exact rfl) rfl (by first | rfl | assumption | exact erv_one)) ?_; clear hS; intro _ w hS; refine Xn ?_; refine X0 rfl ⟨es3, R.drop (n - 1), ⟨rfl, hok3, by rw [List.length_drop, hRl]⟩, ?_⟩; have hS1 := St.bs_in ((St.fld_shut (hS.tk2 (cel F.p [F.v, .string (mkS F.key), .string (mkS F.val)] 157 (0, 0)) (ob 5 F.v F.raw))).tk2 (fld F) (bs fld (g1 ++ g2))); rw [← hG] at hS1; exact hS1.arr
end
end Go.Proofs
end
section
namespace Go.Proofs
open Go.Eng
/-- a slice of numbers, of texts, that lay there at the beginning -/
def IntsV (W : World) (v : Value) (l : List Int) : Prop := ∃ q cap, v = .slice q l.length cap ∧ ∀ i n, l[i]? = some n → ∃ b off, q = some ⟨b, off, none⟩ ∧ W.cell? ⟨b, off + i, none⟩ = some (.int .i64 n)
def StrsV (W : World) (v : Value) (l : List (List UInt8)) : Prop := ∃ q cap, v = .slice q l.length cap ∧ ∀ i x, l[i]? = some x → ∃ b off, q = some ⟨b, off, none⟩ ∧ W.cell? ⟨b, off + i, none⟩ = some (.string (mkS x))
theorem IntsV.form {W : World} {v : Value} {l : List Int} (h : IntsV W v l) : ∃ q k, v = .slice q l.length k := let ⟨q, k, e, _⟩ := h; ⟨q, k, e⟩
theorem IntsV.at {W : World} {v : Value} {l : List Int} (h : IntsV W v l) {i : Nat} {n : Int} (hi : l[i]? = some n) : ∃ b off cap, v = .slice (some ⟨b, off, none⟩) l.length cap ∧ W.cell? ⟨b, off + i, none⟩ = some (.int .i64 n) := by
  obtain ⟨q, k, rfl, h⟩ := h; obtain ⟨b, off, rfl, h2⟩ := h i n hi; exact ⟨b, off, k, rfl, h2⟩
theorem StrsV.form {W : World} {v : Value} {l : List (List UInt8)} (h : StrsV W v l) : ∃ q k, v = .slice q l.length k := let ⟨q, k, e, _⟩ := h; ⟨q, k, e⟩
theorem StrsV.at {W : World} {v : Value} {l : List (List UInt8)} (h : StrsV W v l) {i : Nat} {x : List UInt8} (hi : l[i]? = some x) : ∃ b off cap, v = .slice (some ⟨b, off, none⟩) l.length cap ∧ W.cell? ⟨b, off + i, none⟩ = some (.string (mkS x)) := by
  obtain ⟨q, k, rfl, h⟩ := h; obtain ⟨b, off, rfl, h2⟩ := h i x hi; exact ⟨b, off, k, rfl, h2⟩
theorem StrsV.some {W : World} {v : Value} {l : List (List UInt8)} (h : StrsV W v l) (hne : l ≠ []) : ∃ b off cap, v = .slice (some ⟨b, off, none⟩) l.length cap ∧ ∀ i x, l[i]? = some x → W.cell? ⟨b, off + i, none⟩ = some (.string (mkS x)) := by
  obtain ⟨q, k, rfl, h⟩ := h; obtain ⟨b, off, rfl, h2⟩ := h 0 (l.head hne) (by cases l with | nil => exact absurd rfl hne | cons _ _ => rfl); refine ⟨b, off, k, rfl, fun i x hx => ?_⟩; obtain ⟨b', off', e, h3⟩ := h i x hx; simp only [Option.some.injEq, Addr.mk.injEq, and_true] at e; obtain ⟨rfl, rfl⟩ := e; exact h3
theorem IntsV.split {W : World} {v : Value} {l : List Int} (h : IntsV W v l) : (∃ k, v = .slice none l.length k ∧ l = []) ∨ ∃ a k, v = .slice (some a) l.length k := by
  obtain ⟨q, k, rfl, h⟩ := h; cases q with
  | none =>
    left; refine ⟨k, rfl, ?_⟩; cases l with
    | nil => rfl
    | cons x l => obtain ⟨_, _, e, _⟩ := h 0 x rfl; cases e
  | some a => exact .inr ⟨a, k, rfl⟩
abbrev bsn (part : List UInt8) (pathV fldsV : Value) (no peek : Bool) (partV : Value) : List Value := [.string (mkS part), pathV, fldsV, .bool no, .bool peek, partV, .string (mkS [])]
def cutL : Option (Nat × Nat) → List Int
  | none => []
  | some (i, n) => [(i : Int), (n : Int)]
def cutO : Option (Nat × Nat) → Nat
  | none => 0
  | some (i, _) => i
section
variable {W w : World} {s : List SL} {L : List SL} {b hb fb sb : Nat}
/-- (*BodySectionName).ExtractPartial -/
theorem c51 {part : List UInt8} {pathV fldsV partV : Value} {no peek : Bool} {q : Option Addr} {cap : Nat} {c : List UInt8} {cut : Option (Nat × Nat)} (hS : St W s w) [ho : HasOld s W] [k : HasCel s sb (bsn part pathV fldsV no peek partV) 76 (0, 0)]
    (hp1 : IntsV W partV (cutL cut)) (hq : (q = none ∧ c.length = 0 ∧ cap = 0) ∨ ∃ b, q = some ⟨b, 0, none⟩) (hcap : c.length ≤ cap) (hcl : c.length ≤ 10000000) (hcut : ∀ i n, cut = some (i, n) → i ≤ 100000 ∧ n ≤ 100000) :
    Calls Tryz.prog 51 #[ptr sb 0, .slice q c.length cap] w fun e w' => ∃ q2 k2, (e = .returned (.slice q2 (cutB cut c).length k2) ∧ (cutB cut c = [] ∨ ∃ b', q = some ⟨b', 0, none⟩ ∧ q2 = some ⟨b', cutO cut, none⟩)) ∧ St W s w' := by
  obtain ⟨qp, kp, hpv⟩ := hp1.form; have hpv' := hpv; refine fn_calls (args := [ptr sb 0, .slice q c.length cap]) Tryz.func51 rfl rfl rfl fun a hE => ?_; rcases cut with _ | ⟨i, n⟩
  · rw [hpv, show (cutL none).length = 0 from rfl] at k; revert a; refine Xs (Xg (XX 1 hS rfl (Xn (Xs (Xs (Xg (XX 1 hS rfl (XR hS (rNil rfl) rfl (XR hS (rField rfl) rfl (XR hS (rLoad rfl (by exact rfl)) rfl ?_)))))))))); refine XR hS (rLen rfl) rfl (XR hS (rCmp rfl rfl (cmp_neqT (by omega))) rfl ?_); refine Xn (Xt rfl (Xs (Xg (XX 2 hS rfl (Xn (Xr ?_)))))); refine X1 rfl rfl ⟨q, cap, ⟨rfl, ?_⟩, hS⟩; rcases hq with ⟨_, h2, _⟩ | ⟨b, h2⟩
    · exact .inl (List.length_eq_zero_iff.1 h2)
    · exact .inr ⟨b, h2, h2⟩
  · obtain ⟨bp, offp, kp2, e1, a1⟩ := hp1.at (i := 0) (n := (i : Int)) rfl; obtain ⟨bp2, offp2, kp3, e2, a2⟩ := hp1.at (i := 1) (n := (n : Int)) rfl; rw [e1] at e2; simp only [Value.slice.injEq, Option.some.injEq, Addr.mk.injEq, true_and, and_true] at e2; obtain ⟨⟨rfl, rfl⟩, _⟩ := e2; rw [e1] at k; obtain ⟨hi1, hn1⟩ := hcut i n rfl; have hlen2 : (cutL (some (i, n))).length = 2 := rfl; rw [hlen2] at k; revert a; refine Xs (Xg (XX 1 hS rfl (Xn (Xs (Xs (Xg (XX 1 hS rfl (XR hS (rNil rfl) rfl (XR hS (rField rfl) rfl (XR hS (rLoad rfl (by exact rfl)) rfl ?_)))))))))); refine XR hS (rLen rfl) rfl (XR hS (rCmp rfl rfl (cmp_neqF (by omega))) rfl ?_); refine Xn (Xf rfl (Xk (Xs (Xg (XX 1 hS rfl (XR hS (rNil rfl) rfl (XR hS (rField rfl) rfl (XR hS (rLoad rfl (by exact rfl)) rfl ?_)))))))); refine XR hS (rIdxA1 (i := 0) rfl rfl (by omega)) rfl ?_
    refine XR hS (rLoadO (V := W) rfl a1) rfl (XX 1 hS rfl (Xn (Xs (Xg (XX 1 hS rfl (XR hS (rNil rfl) rfl (XR hS (rField rfl) rfl (XR hS (rLoad rfl (by exact rfl)) rfl ?_)))))))); refine XR hS (rIdxA1 (i := 1) rfl rfl (by omega)) rfl ?_; refine XR hS (rLoadO (V := W) rfl a2) rfl (XX 1 hS rfl (Xn (Xs (Xg (XX 2 hS rfl (XR hS (rAddN rfl rfl (by first | omega | (simp <;> omega)) rfl) rfl ?_)))))); refine XX 1 hS rfl (Xn (Xs (Xs ?_))); rcases Nat.lt_or_ge c.length i with h1 | h1
    · refine Xg (XX 2 hS rfl (XR hS (rLen rfl) rfl (XR hS (rCmp rfl rfl (cmp_gtrT (by omega))) rfl ?_))); refine Xn (Xt rfl (Xs (Xg (XX 1 hS rfl (Xn (Xr ?_)))))); have hnil : cutB (some (i, n)) c = [] := by show (c.drop i).take n = []; rw [List.drop_of_length_le (by omega)]; simp
      exact X1 rfl rfl ⟨none, 0, ⟨by rw [hnil]; rfl, .inl hnil⟩, hS⟩
    · refine Xg (XX 2 hS rfl (XR hS (rLen rfl) rfl (XR hS (rCmp rfl rfl (cmp_gtrF (by omega))) rfl ?_))); refine Xn (Xf rfl (Xk ?_)); intro a hE; refine cw_seqj (fun a w => Env Tryz.f51.ntmps (envL [(1, .slice q c.length cap), (5, .int .i64 (i : Int)), (7, .int .i64 ((min (i + n) c.length : Nat) : Int))]) a ∧ St W s w) ?_ ?_; refine cw_seq ?_
      · rcases Nat.lt_or_ge c.length (i + n) with h2 | h2
        · revert a; refine Xg (XX 2 hS rfl (XR hS (rLen rfl) rfl (XR hS (rCmp rfl rfl (cmp_gtrT (by omega))) rfl ?_))); refine Xn (Xt rfl (Xg (XX 1 hS rfl (XR hS (rLen rfl) rfl (XX 1 hS rfl (Xn ?_)))))); intro a hE; rw [show min (i + n) c.length = c.length by omega]; exact ⟨hE.cut ⟨rfl, rfl, rfl, trivial⟩, hS⟩
        · revert a; refine Xg (XX 2 hS rfl (XR hS (rLen rfl) rfl (XR hS (rCmp rfl rfl (cmp_gtrF (by omega))) rfl ?_))); refine Xn (Xf rfl (Xk ?_)); intro a hE; rw [show min (i + n) c.length = i + n by omega]; exact ⟨hE.cut ⟨rfl, rfl, rfl, trivial⟩, hS⟩
      · clear hS hE a; rintro a w ⟨hE, hS⟩; have hlen : (cutB (some (i, n)) c).length = min (i + n) c.length - i := by show ((c.drop i).take n).length = _; simp; omega
        rcases hq with ⟨rfl, h2, rfl⟩ | ⟨b, rfl⟩
        · have hi0 : i = 0 := by omega
          subst hi0; have hm0 : min (0 + n) c.length = 0 := by omega
          rw [h2, Nat.min_zero] at hE; revert a; refine Xs (Xg (XX 3 hS rfl (XR hS (rSlcN2 rfl rfl rfl) rfl (XX 1 hS rfl (Xn (Xr ?_)))))); have hnil : cutB (some (0, n)) c = [] := List.length_eq_zero_iff.1 (by rw [hlen, hm0]); exact X1 rfl rfl ⟨none, 0, ⟨by rw [hnil]; rfl, .inl hnil⟩, hS⟩
        · revert a; refine Xs (Xg (XX 3 hS rfl (XR hS (rSlc2 rfl rfl rfl (by omega) (by omega)) rfl ?_))); refine XX 1 hS rfl (Xn (Xr ?_)); refine X1 rfl rfl ⟨_, _, ⟨by rw [hlen], ?_⟩, hS⟩; by_cases hc1 : cap = i
          · left; exact List.length_eq_zero_iff.1 (by rw [hlen]; omega)
          · right; refine ⟨b, rfl, ?_⟩; unfold slo; rw [if_neg hc1, Nat.zero_add]; rfl
end
end Go.Proofs
end

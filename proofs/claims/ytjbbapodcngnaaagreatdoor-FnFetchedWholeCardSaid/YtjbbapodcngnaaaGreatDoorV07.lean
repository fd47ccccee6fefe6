/-
  Steps on the way to the cards of laws.FnFetched and laws.FnFetchedWhole; the conditions of each are the hypotheses that it names. In order:
  WALKS (printed by wx.py from Hf.px): (*bufio.Reader).Peek.
  WALKS (printed by wx.py from Hg.px): (*bufio.Reader).Read; bufio.NewReader.
  WALKS (printed by wx.py from Hh.px): bufio.NewReader; the readers of the program as sources.
  WALKS (printed by wx.py from Hi.px): the readers of the program as sources.
  WALKS (printed by wx.py from Hj.px): rows of bytes: equal, prefix, index.
-/
import Derived.Test.YtjbbapodcngnaaaGreatDoorV06
set_option linter.all false
section
namespace Go.Proofs
open Go.Eng
section
variable {W w : World} {g : Gl W} {S : Src W g} {L : List SL} {b : Nat} {B : BS}
/-- (*bufio.Reader).Peek -/
theorem c56 (hS : St W (bfp S b B L) w) (hk : B.ok) {m : Nat} (hm : m ≤ B.c.length) :
    Calls Tryz.prog 56 #[ptr b 0, .int .i64 (m : Int)] w fun e w' => ∃ (B' : BS) (off cap av : Nat) (short : Bool), (e = .returned (.tuple #[.slice (some ⟨B'.bb, off, none⟩) av cap, erv g short]) ∧ B'.ok ∧ B'.bb = B.bb ∧ B'.c.length = B.c.length ∧ B'.str = B.str ∧
      (∃ t, B'.have = B.have ++ t) ∧ av = min m B'.have.length ∧ short = decide (B'.have.length < m) ∧ (short = true → B'.rest = []) ∧ (B'.c.drop off).take av = B'.have.take av ∧ off + av ≤ B'.c.length ∧ av ≤ cap ∧ (m ≤ B.have.length → B' = { B with lb := -1, ls := -1 })) ∧ St W (bfp S b B' L) w' := by
  refine fn_calls (args := [ptr b 0, .int .i64 (m : Int)]) Tryz.func56 rfl rfl rfl ?_; refine Xs (Xg (XX 2 hS rfl (Xn (Xs (Xs (Xg (XX 1 hS rfl (XR hS (rCmp rfl rfl (cmp_lssF (by omega))) rfl ?_)))))))); refine Xn (Xf rfl (Xk (Xs (Xg (XX 1 hS rfl (XR hS (rNil rfl) rfl (XR hS (rField rfl) rfl ?_))))))); refine XN hS (dStoreL rfl rfl (by exact rfl) rfl (by first | rfl | assumption | exact erv_one)) ?_; clear hS; intro _ w hS; refine Xn (Xs (Xg (XX 1 hS rfl (XR hS (rNil rfl) rfl (XR hS (rField rfl) rfl ?_))))); refine XN hS (dStoreL rfl rfl (by exact rfl) rfl (by first | rfl | assumption | exact erv_one)) ?_; clear hS; intro _ w hS; refine Xn (Xs (Xb ?_)); intro a hE
  refine cw_loop (fun (B' : BS) a w => Env 109 (envL [(0, ptr b 0), (1, .int .i64 (m : Int)), (4, .slice none 0 0), (5, .nilIface)]) a ∧ B'.ok ∧ B'.bb = B.bb ∧ B'.c.length = B.c.length ∧ B'.str = B.str ∧ (∃ t, B'.have = B.have ++ t) ∧ (m ≤ B.have.length → B' = { B with lb := -1, ls := -1 }) ∧ B'.lb = -1 ∧ B'.ls = -1 ∧ St W (bfp S b B' L) w)
    (fun B' => (B.str.length - B'.have.length) * 2 + (bif B'.eof then 0 else 1)) { B with lb := -1, ls := -1 } ⟨hE.cut ⟨rfl, rfl, rfl, rfl, trivial⟩, ⟨hk.rw, hk.wc, hk.lo, hk.hi, hk.fin⟩, rfl, rfl, rfl, ⟨[], by simp [BS.have]⟩, fun _ => rfl, rfl, rfl, hS⟩ ?_
  clear hS hE a; rintro B' a w ⟨hE, hk', e1, e2, e3, e4, e5, e6, e7, hS⟩; have hlv := BS.have_len hk'; obtain ⟨bb, c, r, n, eof, lb, ls, rest⟩ := B'; obtain ⟨h1, h2, h3, h4, h5⟩ := hk'; dsimp only [BS.cells, bfp] at *; subst e1 e6 e7; have hrow := slo_row (c := c) (i := r) (n := n) h2; rcases Nat.lt_or_ge (n - r) m with hf | hf
  · cases eof with
    | true =>
      revert a; refine Xs (Xs ?_); refine Xd [.s, .s, .s, .s, .s, .s, .s, .s, .s, .s, .s, .s, .s, .s, .s, .s, .s, .s, .s, .s, .s, .s, .s, .s, .s, .s, .s, .s, .s, .s, .s, .s, .s, .s, .s] mixed (by kernel_rfl) hS ?_; clear hS; intro w hS; refine XS (rMove rfl) rfl (XS (rNil rfl) rfl (XS (rField rfl) rfl (XS (rLoad rfl (by exact rfl)) rfl ?_))); refine XS (rMove rfl) rfl (XS (rNil rfl) rfl (XS (rField rfl) rfl (XS (rLoad rfl (by exact rfl)) rfl ?_))); refine XS (rSubN rfl rfl (by first | omega | (simp <;> omega)) (by first | omega | (simp <;> omega)) rfl) rfl ?_; refine XS (rMove rfl) rfl (XS (rCmp rfl rfl (cmp_lssT (by omega))) rfl ?_); refine XS (rMove rfl) rfl (XA rfl rfl (XS (rMove rfl) rfl (XA rfl rfl (XS (rNil rfl) rfl (XA rfl rfl (XS (rField rfl) rfl (XA rfl rfl (XS (rLoad rfl (by exact rfl)) rfl ?_))))))))
      refine XA rfl rfl (XS (rMove rfl) rfl (XA rfl rfl (XS (rNil rfl) rfl (XA rfl rfl (XS (rField rfl) rfl (XA rfl rfl (XS (rLoad rfl (by exact rfl)) rfl ?_))))))); refine XA rfl rfl (XS (rSubN rfl rfl (by first | omega | (simp <;> omega)) (by first | omega | (simp <;> omega)) rfl) rfl ?_); refine XA rfl rfl (XS (rMove rfl) rfl (XA rfl rfl (XS (rNil rfl) rfl (XA rfl rfl (XS (rField rfl) rfl (XA rfl rfl (XS (rLoad rfl (by exact rfl)) rfl ?_))))))); refine XA rfl rfl (XS (rLen rfl) rfl (XA rfl rfl (XS (rCmp rfl rfl (cmp_lssT (by omega))) rfl ?_))); refine XS (rPickT rfl rfl) rfl (XS (rMove rfl) rfl (XA rfl rfl (XS (rMove rfl) rfl (XA rfl rfl (XS (rNil rfl) rfl (XA rfl rfl (XS (rField rfl) rfl (XA rfl rfl (XS (rLoad rfl (by exact rfl)) rfl ?_)))))))))
      refine XA rfl rfl (XS (rINil rfl) rfl (XS (rPickT rfl rfl) rfl (Xn (Xf rfl (Xe rfl (Xs (Xs (Xg (XX 2 hS rfl (XR hS (rNil rfl) rfl (XR hS (rField rfl) rfl (XR hS (rLoad rfl (by exact rfl)) rfl ?_)))))))))))); refine XR hS (rLen rfl) rfl (XR hS (rCmp rfl rfl (cmp_gtrF (by omega))) rfl ?_); refine Xn (Xf rfl (Xk (Xs (Xg (XX 1 hS rfl (Xn (Xs (Xs ?_)))))))); refine Xd [.s, .s, .s, .s, .s, .s, .s, .s, .s, .s] mixed (by kernel_rfl) hS ?_; clear hS; intro w hS; refine XS (rMove rfl) rfl (XS (rNil rfl) rfl (XS (rField rfl) rfl (XS (rLoad rfl (by exact rfl)) rfl ?_))); refine XS (rMove rfl) rfl (XS (rNil rfl) rfl (XS (rField rfl) rfl (XS (rLoad rfl (by exact rfl)) rfl ?_))); refine XS (rSubN rfl rfl (by first | omega | (simp <;> omega)) (by first | omega | (simp <;> omega)) rfl) rfl ?_
      refine XS (rAssign rfl) rfl (Xn (Xs (Xg (XX 2 hS rfl (XR hS (rCmp rfl rfl (cmp_lssT (by omega))) rfl ?_))))); refine Xn (Xt rfl (Xs (Xg (XX 2 hS rfl (Xn (Xs (Xg (XX 1 hS rfl ?_)))))))); refine XC hS (gCall rfl) rfl (c83 (B := ⟨B.bb, c, r, n, true, -1, -1, rest⟩) hS) ?_; clear hS; intro e w hR; (try dsimp only [bfp, BS.cells] at hR); obtain ⟨rfl, hS⟩ := hR; refine ⟨_, rfl, ?_⟩; refine XX 1 hS rfl (Xn (Xs (Xg (XX 1 hS rfl (XR hS (rINil rfl) rfl (Xn (Xf rfl (Xk (Xs ?_))))))))); refine Xd [.s, .s, .s, .s, .s, .s, .s, .s, .s, .s, .s, .s, .s, .s, .s, .s, .s, .s] mixed (by kernel_rfl) hS ?_; clear hS; intro w hS; refine XS (rMove rfl) rfl (XS (rNil rfl) rfl (XS (rField rfl) rfl (XS (rLoad rfl (by exact rfl)) rfl ?_))); refine XS (rMove rfl) rfl (XS (rNil rfl) rfl (XS (rField rfl) rfl (XS (rLoad rfl (by exact rfl)) rfl ?_)))
      refine XS (rMove rfl) rfl (XS (rNil rfl) rfl (XS (rField rfl) rfl (XS (rLoad rfl (by exact rfl)) rfl ?_))); refine XS (rMove rfl) rfl (XS (rAddN rfl rfl (by first | omega | (simp <;> omega)) rfl) rfl ?_); refine XS (rSlc2 rfl rfl rfl (by omega) (by omega)) rfl ?_; refine XS (rMove rfl) rfl (XS (rAssign rfl) rfl (XS (rAssign rfl) rfl (Xn (Xr ?_)))); refine X2 rfl rfl rfl ?_; refine ⟨⟨B.bb, c, r, n, false, -1, -1, rest⟩, slo 0 r c.length, c.length - r, n - r, true, ⟨?_, ⟨h1, h2, h3, h4, by simp⟩, rfl, e2, e3, e4, ?_, ?_, fun _ => h5 rfl, ?_, ?_, ?_, ?_⟩, hS⟩
      · rw [show r + (n - r) - r = n - r by omega]
      · rw [show (BS.have ⟨B.bb, c, r, n, false, -1, -1, rest⟩).length = n - r from hlv]; omega
      · rw [show (BS.have ⟨B.bb, c, r, n, false, -1, -1, rest⟩).length = n - r from hlv]; simp [hf]
      · rw [hrow]; exact (List.take_of_length_le (Nat.le_of_eq hlv)).symm
      · exact slo_le h2 h1
      · omega
      · intro hmb; have := hlv; obtain ⟨t, ht⟩ := e4; rw [ht, List.length_append] at this; omega
    | false =>
      revert a; refine Xs (Xs ?_); refine Xd [.s, .s, .s, .s, .s, .s, .s, .s, .s, .s, .s, .s, .s, .s, .s, .s, .s, .s, .s, .s, .s, .s, .s, .s, .s, .s, .s, .s, .s, .s, .s, .s, .s, .s, .s] mixed (by kernel_rfl) hS ?_; clear hS; intro w hS; refine XS (rMove rfl) rfl (XS (rNil rfl) rfl (XS (rField rfl) rfl (XS (rLoad rfl (by exact rfl)) rfl ?_))); refine XS (rMove rfl) rfl (XS (rNil rfl) rfl (XS (rField rfl) rfl (XS (rLoad rfl (by exact rfl)) rfl ?_))); refine XS (rSubN rfl rfl (by first | omega | (simp <;> omega)) (by first | omega | (simp <;> omega)) rfl) rfl ?_; refine XS (rMove rfl) rfl (XS (rCmp rfl rfl (cmp_lssT (by omega))) rfl ?_); refine XS (rMove rfl) rfl (XA rfl rfl (XS (rMove rfl) rfl (XA rfl rfl (XS (rNil rfl) rfl (XA rfl rfl (XS (rField rfl) rfl (XA rfl rfl (XS (rLoad rfl (by exact rfl)) rfl ?_))))))))
      refine XA rfl rfl (XS (rMove rfl) rfl (XA rfl rfl (XS (rNil rfl) rfl (XA rfl rfl (XS (rField rfl) rfl (XA rfl rfl (XS (rLoad rfl (by exact rfl)) rfl ?_))))))); refine XA rfl rfl (XS (rSubN rfl rfl (by first | omega | (simp <;> omega)) (by first | omega | (simp <;> omega)) rfl) rfl ?_); refine XA rfl rfl (XS (rMove rfl) rfl (XA rfl rfl (XS (rNil rfl) rfl (XA rfl rfl (XS (rField rfl) rfl (XA rfl rfl (XS (rLoad rfl (by exact rfl)) rfl ?_))))))); refine XA rfl rfl (XS (rLen rfl) rfl (XA rfl rfl (XS (rCmp rfl rfl (cmp_lssT (by omega))) rfl ?_))); refine XS (rPickT rfl rfl) rfl (XS (rMove rfl) rfl (XA rfl rfl (XS (rMove rfl) rfl (XA rfl rfl (XS (rNil rfl) rfl (XA rfl rfl (XS (rField rfl) rfl (XA rfl rfl (XS (rLoad rfl (by exact rfl)) rfl ?_))))))))); refine XA rfl rfl (XS (rNilNil rfl) rfl (XS (rPickT rfl rfl) rfl (Xn (Xt rfl (Xk (Xb (Xg (XX 1 hS rfl ?_))))))))
      refine XC hS (gCall rfl) rfl (c82 (B := ⟨B.bb, c, r, n, false, -1, -1, rest⟩) hS ⟨h1, h2, h3, h4, h5⟩ rfl (by dsimp only; omega)) ?_; clear hS; intro e w hR; (try dsimp only [bfp, BS.cells] at hR); obtain ⟨B', ⟨rfl, hk2, f1, f2, f3, f4, f5, f6, f7⟩, hS⟩ := hR; refine ⟨_, rfl, ?_⟩; refine Xn ?_; obtain ⟨t, g1, g2⟩ := f6; obtain ⟨t0, g0⟩ := e4; have hl2 : (BS.have ⟨B.bb, c, r, n, false, -1, -1, rest⟩).length = n - r := hlv; intro a hE; refine ⟨B', ?_, hE.cut ⟨rfl, rfl, rfl, rfl, trivial⟩, hk2, f2, f3.trans e2, f1.trans e3, ⟨t0 ++ t, ?_⟩, ?_, f4, f5, hS⟩
      · have q1 : B'.have.length = (n - r) + t.length := by rw [g1, List.length_append, hl2]
        have q2 : B'.have.length ≤ B.str.length := by
          have : B'.str.length = B.str.length := by rw [f1.trans e3]
          rw [← this, BS.str, List.length_append]; omega
        rw [q1, hl2]; rw [q1] at q2; rcases g2 with g2 | g2
        · rw [g2]; simp only [cond_true, cond_false]; omega
        · cases B'.eof <;> simp only [cond_true, cond_false] <;> omega
      · rw [g1, ← List.append_assoc, ← g0]
      · intro hmb; have := hlv; rw [g0, List.length_append] at this; omega
  · revert a; refine Xs (Xs ?_); refine Xd [.s, .s, .s, .s, .s, .s, .s, .s, .s, .s, .s, .s, .s, .s, .s, .s, .s, .s, .s, .s, .s, .s, .s, .s, .s, .s, .s, .s, .s, .s, .s, .s, .s, .s, .s] mixed (by kernel_rfl) hS ?_; clear hS; intro w hS; refine XS (rMove rfl) rfl (XS (rNil rfl) rfl (XS (rField rfl) rfl (XS (rLoad rfl (by exact rfl)) rfl ?_))); refine XS (rMove rfl) rfl (XS (rNil rfl) rfl (XS (rField rfl) rfl (XS (rLoad rfl (by exact rfl)) rfl ?_))); refine XS (rSubN rfl rfl (by first | omega | (simp <;> omega)) (by first | omega | (simp <;> omega)) rfl) rfl ?_; refine XS (rMove rfl) rfl (XS (rCmp rfl rfl (cmp_lssF (by omega))) rfl ?_)
    refine XS (rMove rfl) rfl (XF rfl rfl rfl (XF rfl rfl rfl (XF rfl rfl rfl (XF rfl rfl rfl (XF rfl rfl rfl (XF rfl rfl rfl (XF rfl rfl rfl (XF rfl rfl rfl (XF rfl rfl rfl (XF rfl rfl rfl (XF rfl rfl rfl (XF rfl rfl rfl (XF rfl rfl rfl (XF rfl rfl rfl ?_)))))))))))))); refine XF rfl rfl rfl (XS (rPickF rfl rfl) rfl (XS (rMove rfl) rfl (XF rfl rfl rfl (XF rfl rfl rfl (XF rfl rfl rfl (XF rfl rfl rfl (XF rfl rfl rfl (XS (rPickF rfl rfl) rfl (Xn (Xf rfl (Xe rfl (Xs (Xs (Xg ?_)))))))))))))); refine XX 2 hS rfl (XR hS (rNil rfl) rfl (XR hS (rField rfl) rfl (XR hS (rLoad rfl (by exact rfl)) rfl ?_))); refine XR hS (rLen rfl) rfl (XR hS (rCmp rfl rfl (cmp_gtrF (by omega))) rfl ?_); refine Xn (Xf rfl (Xk (Xs (Xg (XX 1 hS rfl (Xn (Xs (Xs ?_)))))))); refine Xd [.s, .s, .s, .s, .s, .s, .s, .s, .s, .s] mixed (by kernel_rfl) hS ?_; clear hS; intro w hS
    refine XS (rMove rfl) rfl (XS (rNil rfl) rfl (XS (rField rfl) rfl (XS (rLoad rfl (by exact rfl)) rfl ?_))); refine XS (rMove rfl) rfl (XS (rNil rfl) rfl (XS (rField rfl) rfl (XS (rLoad rfl (by exact rfl)) rfl ?_))); refine XS (rSubN rfl rfl (by first | omega | (simp <;> omega)) (by first | omega | (simp <;> omega)) rfl) rfl ?_; refine XS (rAssign rfl) rfl (Xn (Xs (Xg (XX 2 hS rfl (XR hS (rCmp rfl rfl (cmp_lssF (by omega))) rfl ?_))))); refine Xn (Xf rfl (Xk (Xs ?_))); refine Xd [.s, .s, .s, .s, .s, .s, .s, .s, .s, .s, .s, .s, .s, .s, .s, .s, .s, .s] mixed (by kernel_rfl) hS ?_; clear hS; intro w hS; refine XS (rMove rfl) rfl (XS (rNil rfl) rfl (XS (rField rfl) rfl (XS (rLoad rfl (by exact rfl)) rfl ?_))); refine XS (rMove rfl) rfl (XS (rNil rfl) rfl (XS (rField rfl) rfl (XS (rLoad rfl (by exact rfl)) rfl ?_)))
    refine XS (rMove rfl) rfl (XS (rNil rfl) rfl (XS (rField rfl) rfl (XS (rLoad rfl (by exact rfl)) rfl ?_))); refine XS (rMove rfl) rfl (XS (rAddN rfl rfl (by first | omega | (simp <;> omega)) rfl) rfl ?_); refine XS (rSlc2 rfl rfl rfl (by omega) (by omega)) rfl ?_; refine XS (rMove rfl) rfl (XS (rAssign rfl) rfl (XS (rAssign rfl) rfl (Xn (Xr ?_)))); refine X2 rfl rfl rfl ?_; refine ⟨⟨B.bb, c, r, n, eof, -1, -1, rest⟩, slo 0 r c.length, c.length - r, m, false, ⟨?_, ⟨h1, h2, h3, h4, h5⟩, rfl, e2, e3, e4, ?_, ?_, (fun h => nomatch h), ?_, ?_, by omega, e5⟩, hS⟩
    · rw [show r + m - r = m by omega]
    · rw [show (BS.have ⟨B.bb, c, r, n, eof, -1, -1, rest⟩).length = n - r from hlv]; omega
    · rw [show (BS.have ⟨B.bb, c, r, n, eof, -1, -1, rest⟩).length = n - r from hlv]; simp; omega
    · have := congrArg (fun x => x.take m) hrow; simp only [List.take_take, Nat.min_eq_left hf] at this; exact this
    · have := slo_le h2 h1; show slo 0 r c.length + m ≤ c.length; omega
end
end Go.Proofs
end
section
namespace Go.Proofs
open Go.Eng
section
variable {W w : World} {g : Gl W} {S : Src W g} {L : List SL} {b : Nat} {B : BS}
theorem copy_take {dc c : List UInt8} {off k o : Nat} (h : off + k ≤ dc.length) (ho : o + k ≤ c.length) : ((dc.take off ++ (c.drop o).take k ++ dc.drop (off + k)).drop off).take k = (c.drop o).take k ∧ (dc.take off ++ (c.drop o).take k ++ dc.drop (off + k)).take off = dc.take off ∧ (dc.take off ++ (c.drop o).take k ++ dc.drop (off + k)).length = dc.length := by
  refine ⟨?_, ?_, ?_⟩
  · rw [List.append_assoc, List.drop_append_of_le_length (by simp; omega), List.drop_eq_nil_of_le (by simp; omega), List.nil_append, List.take_append_of_le_length (by simp; omega), List.take_take, Nat.min_self]
  · rw [List.append_assoc, List.take_append_of_le_length (by simp; omega), List.take_take, Nat.min_self]
  · simp; omega
/-- (*bufio.Reader).Read, into another block -/
theorem c171 {db off n cap : Nat} {dc : List UInt8} (hS : St W (bfp S b B (bys 5 db dc :: L)) w) (hk : B.ok) (hnn : 0 < n) (hcap : n ≤ cap) (ho : off + n ≤ dc.length) (hdd : dc.length ≤ 9223372036854775807) :
    Calls Tryz.prog 171 #[ptr b 0, .slice (some ⟨db, off, none⟩) n cap] w fun e w' => ∃ (B' : BS) (k : Nat) (dc' : List UInt8) (eof : Bool), (e = .returned (.tuple #[.int .i64 (k : Int), erv g eof]) ∧ B'.ok ∧ B'.bb = B.bb ∧ B'.c.length = B.c.length ∧
      k ≤ n ∧ dc'.length = dc.length ∧ dc'.take off = dc.take off ∧ B.str = (dc'.drop off).take k ++ B'.str ∧ (eof = true → B'.str = []) ∧ (k = 0 → eof = true) ∧ (0 < B.have.length → k = min n B.have.length ∧ eof = false ∧ B'.rest = B.rest)) ∧ St W (bfp S b B' (bys 5 db dc' :: L)) w' := by
  obtain ⟨bb, c, r, m, eof, lb, ls, rest⟩ := B; obtain ⟨h1, h2, h3, h4, h5⟩ := hk; dsimp only [BS.cells, bfp, BS.str, BS.have] at *; have := S.meth; have := S.ent; refine fn_calls (args := [ptr b 0, .slice (some ⟨db, off, none⟩) n cap]) Tryz.func171 rfl rfl rfl ?_; refine Xs (Xg (XX 2 hS rfl (Xn (Xs (Xg (XX 1 hS rfl (XR hS (rLen rfl) rfl (XX 1 hS rfl (Xn (Xs (Xs (Xg (XX 1 hS rfl (XR hS (rCmp rfl rfl (cmp_eqlF (by omega))) rfl ?_)))))))))))))); refine Xn (Xf rfl (Xk ?_)); intro a hE
  refine cw_seqj (fun a w => Env 151 (envL [(0, ptr b 0), (1, .slice (some ⟨db, off, none⟩) n cap)]) a ∧ ∃ (c' : List UInt8) (r' m' : Nat) (eof' : Bool) (rest' : List UInt8), BS.ok ⟨bb, c', r', m', eof', lb, ls, rest'⟩ ∧ c'.length = c.length ∧ r' < m' ∧ (c'.take m').drop r' ++ rest' = (c.take m).drop r ++ rest ∧ (r < m → (c'.take m').drop r' = (c.take m).drop r ∧ rest' = rest) ∧ St W (bfp S b ⟨bb, c', r', m', eof', lb, ls, rest'⟩ (bys 5 db dc :: L)) w) ?_ ?_; refine cw_seq ?_
  · rcases Nat.lt_or_ge r m with hf | hf
    · revert a; refine Xd [.s, .s, .s, .s, .s, .s, .s, .s, .s] mixed (by kernel_rfl) hS ?_; clear hS; intro w hS; refine XS (rMove rfl) rfl (XS (rNil rfl) rfl (XS (rField rfl) rfl (XS (rLoad rfl (by exact rfl)) rfl ?_))); refine XS (rMove rfl) rfl (XS (rNil rfl) rfl (XS (rField rfl) rfl (XS (rLoad rfl (by exact rfl)) rfl ?_))); refine XS (rCmp rfl rfl (cmp_eqlF (by omega))) rfl ?_; refine Xn (Xf rfl (Xk ?_)); intro a hE; exact ⟨hE.cut ⟨rfl, rfl, trivial⟩, c, r, m, eof, rest, ⟨h1, h2, h3, h4, h5⟩, rfl, hf, rfl, fun _ => ⟨rfl, rfl⟩, hS⟩
    · obtain rfl : m = r := by omega
      have hnil : (c.take m).drop m = [] := List.drop_eq_nil_of_le (by simp; omega); rw [hnil, List.nil_append]; cases eof with
      | true =>
        revert a; refine Xd [.s, .s, .s, .s, .s, .s, .s, .s, .s] mixed (by kernel_rfl) hS ?_; clear hS; intro w hS; refine XS (rMove rfl) rfl (XS (rNil rfl) rfl (XS (rField rfl) rfl (XS (rLoad rfl (by exact rfl)) rfl ?_))); refine XS (rMove rfl) rfl (XS (rNil rfl) rfl (XS (rField rfl) rfl (XS (rLoad rfl (by exact rfl)) rfl ?_))); refine XS (rCmp rfl rfl (cmp_eqlT (by omega))) rfl ?_; refine Xn (Xt rfl (Xs (Xs (Xg (XX 1 hS rfl (XR hS (rNil rfl) rfl (XR hS (rField rfl) rfl (XR hS (rLoad rfl (by exact rfl)) rfl ?_)))))))); refine XR hS (rINilN rfl) rfl (Xn (Xt rfl (Xs (Xg (XX 1 hS rfl ?_))))); refine XC hS (gCall rfl) rfl (c83 (B := ⟨bb, c, m, m, true, lb, ls, rest⟩) hS) ?_; clear hS; intro e w hR; (try dsimp only [bfp, BS.cells] at hR); obtain ⟨rfl, hS⟩ := hR; refine ⟨_, rfl, ?_⟩; refine XX 2 hS rfl (Xn (Xr ?_)); refine X2 rfl rfl rfl ?_; have hr := h5 rfl; subst hr
        exact ⟨⟨bb, c, m, m, false, lb, ls, []⟩, 0, dc, true, ⟨rfl, ⟨h1, h2, h3, h4, fun h => nomatch h⟩, rfl, rfl, by omega, rfl, rfl, by simp, fun _ => by simp [hnil], fun _ => rfl, fun h => by simp at h⟩, hS⟩
      | false =>
        rcases Nat.lt_or_ge n c.length with hb | hb
        · revert a; refine Xd [.s, .s, .s, .s, .s, .s, .s, .s, .s] mixed (by kernel_rfl) hS ?_; clear hS; intro w hS; refine XS (rMove rfl) rfl (XS (rNil rfl) rfl (XS (rField rfl) rfl (XS (rLoad rfl (by exact rfl)) rfl ?_))); refine XS (rMove rfl) rfl (XS (rNil rfl) rfl (XS (rField rfl) rfl (XS (rLoad rfl (by exact rfl)) rfl ?_))); refine XS (rCmp rfl rfl (cmp_eqlT (by omega))) rfl ?_; refine Xn (Xt rfl (Xs (Xs (Xg (XX 1 hS rfl (XR hS (rNil rfl) rfl (XR hS (rField rfl) rfl (XR hS (rLoad rfl (by exact rfl)) rfl ?_)))))))); refine XR hS (rNilNilN rfl) rfl (Xn (Xf rfl (Xk (Xs (Xs (Xg (XX 1 hS rfl (XR hS (rLen rfl) rfl (XX 1 hS rfl (XR hS (rNil rfl) rfl (XR hS (rField rfl) rfl (XR hS (rLoad rfl (by exact rfl)) rfl ?_)))))))))))); refine XR hS (rLen rfl) rfl (XR hS (rCmp rfl rfl (cmp_geqF (by omega))) rfl ?_)
          refine Xn (Xf rfl (Xk (Xs (Xg (XX 1 hS rfl (XR hS (rNil rfl) rfl (XR hS (rField rfl) rfl ?_))))))); refine XN hS (dStoreL rfl rfl (by exact rfl) rfl (by first | rfl | assumption | exact erv_one)) ?_; clear hS; intro _ w hS; refine Xn (Xs (Xg (XX 1 hS rfl (XR hS (rNil rfl) rfl (XR hS (rField rfl) rfl ?_))))); refine XN hS (dStoreL rfl rfl (by exact rfl) rfl (by first | rfl | assumption | exact erv_one)) ?_; clear hS; intro _ w hS; refine Xn (Xs ?_); refine Xh ([]) [.s, .s, .s, .s, .r, .s, .s, .s, .r, .s, .s, .h, .s, .s, .s, .s, .s, .s, .e] mixed (by kernel_rfl) hS ?_; clear hS; intro w hS; refine XS (rMove rfl) rfl (XS (rMove rfl) rfl (XS (rNil rfl) rfl (XS (rField rfl) rfl (XT hS (rLoad rfl (by exact rfl)) rfl ?_)))); refine XS (rMove rfl) rfl (XS (rNil rfl) rfl (XS (rField rfl) rfl (XT hS (rLoad rfl (by exact rfl)) rfl ?_))); refine XS (rNilI rfl) rfl (XS (rMove rfl) rfl ?_)
          refine XJ hS (gInv rfl rfl) rfl (S.read (L := cel b [.slice (some ⟨bb, 0, none⟩) c.length c.length, .iface S.T S.v, .int .i64 0, .int .i64 0, .nilIface, .int .i64 lb, .int .i64 ls] 171 (0, 0) :: bys 5 db dc :: L) hS (by omega) (by omega) (by omega) (by omega)) ?_; clear hS; intro e w hR; (try dsimp only [bfp, BS.cells] at hR); obtain ⟨k, c2, eof, rest', rfl, k1, k2, k3, k4, k5, k6, hS⟩ := hR; refine ⟨_, rfl, hS.sub, ?_⟩; refine XS (rMove rfl) rfl (XS (rExtract rfl rfl) rfl (XS (rExtract rfl rfl) rfl (XS (rAssign rfl) rfl (XS (rNil rfl) rfl (XS (rField rfl) rfl ?_))))); refine XM hS (dStoreL rfl rfl (by exact rfl) rfl (by first | rfl | assumption | exact erv_one)) ?_; clear hS; intro _ w hS; refine Xn (Xs (Xs (Xg (XX 1 hS rfl (XR hS (rCmp rfl rfl (cmp_lssF (by omega))) rfl ?_))))); refine Xn (Xf rfl (Xk (Xs (Xs ?_)))); rcases Nat.eq_zero_or_pos k with hk0 | hk0
          · subst hk0; obtain rfl := k6 rfl; obtain rfl := k5 rfl; simp only [List.take_zero, List.nil_append] at k4; subst k4; refine Xg (XX 1 hS rfl (XR hS (rCmp rfl rfl (cmp_eqlT (by omega))) rfl ?_)); refine Xn (Xt rfl (Xs (Xg (XX 1 hS rfl ?_)))); refine XC hS (gCall rfl) rfl (c83 (B := ⟨bb, c2, 0, 0, true, lb, ls, []⟩) (L := bys 5 db dc :: L) (by dsimp only [bfp, BS.cells]; rw [k2]; exact hS)) ?_; clear hS; intro e w hR; (try dsimp only [bfp, BS.cells] at hR); obtain ⟨rfl, hS⟩ := hR; refine ⟨_, rfl, ?_⟩; refine XX 2 hS rfl (Xn (Xr ?_)); refine X2 rfl rfl rfl ?_; refine ⟨⟨bb, c2, 0, 0, false, lb, ls, []⟩, 0, dc, true, ⟨rfl, ⟨Nat.le_refl _, Nat.zero_le _, by dsimp only; omega, by dsimp only; omega, fun h => nomatch h⟩, rfl, k2, by omega, rfl, rfl, by simp, fun _ => by simp, fun _ => rfl, fun h => by simp at h⟩, hS⟩
          · refine Xg (XX 1 hS rfl (XR hS (rCmp rfl rfl (cmp_eqlF (by omega))) rfl ?_)); refine Xn (Xf rfl (Xk (Xg (XX 1 hS rfl (XR hS (rNil rfl) rfl (XR hS (rField rfl) rfl (XR hS (rLoad rfl (by exact rfl)) rfl ?_))))))); refine XX 1 hS rfl (XR hS (rAddN rfl rfl (by first | omega | (simp <;> omega)) rfl) rfl ?_); refine XR hS (rNil rfl) rfl (XR hS (rField rfl) rfl ?_); refine XN hS (dStoreL rfl rfl (by exact rfl) rfl (by first | rfl | assumption | exact erv_one)) ?_; clear hS; intro _ w hS; refine Xn ?_; intro a hE; refine ⟨hE.cut ⟨rfl, rfl, trivial⟩, c2, 0, k, eof, rest', ⟨by dsimp only; omega, by dsimp only; omega, by dsimp only; omega, by dsimp only; omega, k5⟩, k2, hk0, ?_, fun h => by omega, ?_⟩
            · rw [k4]; simp
            · dsimp only [bfp, BS.cells]; rw [Nat.zero_add] at hS; rw [k2]; exact hS
        · revert a; refine Xd [.s, .s, .s, .s, .s, .s, .s, .s, .s] mixed (by kernel_rfl) hS ?_; clear hS; intro w hS; refine XS (rMove rfl) rfl (XS (rNil rfl) rfl (XS (rField rfl) rfl (XS (rLoad rfl (by exact rfl)) rfl ?_))); refine XS (rMove rfl) rfl (XS (rNil rfl) rfl (XS (rField rfl) rfl (XS (rLoad rfl (by exact rfl)) rfl ?_))); refine XS (rCmp rfl rfl (cmp_eqlT (by omega))) rfl ?_; refine Xn (Xt rfl (Xs (Xs (Xg (XX 1 hS rfl (XR hS (rNil rfl) rfl (XR hS (rField rfl) rfl (XR hS (rLoad rfl (by exact rfl)) rfl ?_)))))))); refine XR hS (rNilNilN rfl) rfl (Xn (Xf rfl (Xk (Xs (Xs (Xg (XX 1 hS rfl (XR hS (rLen rfl) rfl (XX 1 hS rfl (XR hS (rNil rfl) rfl (XR hS (rField rfl) rfl (XR hS (rLoad rfl (by exact rfl)) rfl ?_)))))))))))); refine XR hS (rLen rfl) rfl (XR hS (rCmp rfl rfl (cmp_geqT (by omega))) rfl ?_)
          refine Xn (Xt rfl (Xs (Xg (XX 2 hS rfl (XR hS (rNil rfl) rfl (XR hS (rField rfl) rfl (XR hS (rLoad rfl (by exact rfl)) rfl ?_))))))); refine XX 1 hS rfl ?_; refine XC hS (gInv rfl rfl) rfl (S.read (hS.tk3 (S.inv rest) (bys 5 db dc) (old W)) hnn hcap ho hdd) ?_; clear hS; intro e w hR; (try dsimp only [bfp, BS.cells] at hR); obtain ⟨k, dc', eof, rest', rfl, k1, k2, k3, k4, k5, k6, hS⟩ := hR; refine ⟨_, rfl, ?_⟩; refine XX 1 hS rfl (XR hS (rExtract rfl rfl) rfl (XR hS (rExtract rfl rfl) rfl (XX 1 hS rfl (XR hS (rNil rfl) rfl (XR hS (rField rfl) rfl ?_))))); refine XN hS (dStoreL rfl rfl (by exact rfl) rfl (by first | rfl | assumption | exact erv_one)) ?_; clear hS; intro _ w hS; refine Xn (Xs (Xs (Xg (XX 1 hS rfl (XR hS (rCmp rfl rfl (cmp_lssF (by omega))) rfl ?_))))); refine Xn (Xf rfl (Xk (Xs (Xs ?_)))); rcases Nat.eq_zero_or_pos k with hk0 | hk0
          · subst hk0; obtain rfl := k6 rfl; obtain rfl := k5 rfl; simp only [List.take_zero, List.nil_append] at k4; subst k4; refine Xg (XX 1 hS rfl (XR hS (rCmp rfl rfl (cmp_gtrF (by omega))) rfl ?_)); refine Xn (Xf rfl (Xk (Xs (Xg (XX 2 hS rfl ?_))))); refine XC hS (gCall rfl) rfl (c83 (S := S) (B := ⟨bb, c, m, m, true, lb, ls, []⟩) (L := bys 5 db dc' :: L) hS.arr) ?_; clear hS; intro e w hR; (try dsimp only [bfp, BS.cells] at hR); obtain ⟨rfl, hS⟩ := hR; refine ⟨_, rfl, ?_⟩; refine XX 2 hS rfl (Xn (Xr ?_)); refine X2 rfl rfl rfl ?_; exact ⟨⟨bb, c, m, m, false, lb, ls, []⟩, 0, dc', true, ⟨rfl, ⟨h1, h2, h3, h4, fun h => nomatch h⟩, rfl, rfl, by omega, k2, k3, by simp [hnil], fun _ => by simp [hnil], fun _ => rfl, fun h => by simp [hnil] at h⟩, hS⟩
          · refine Xg (XX 1 hS rfl (XR hS (rCmp rfl rfl (cmp_gtrT (by omega))) rfl ?_)); refine Xn (Xt rfl (Xs (Xg (XX 3 hS rfl (XR hS (rSubN (n := 1) rfl rfl (by first | omega | (simp <;> omega)) (by first | omega | (simp <;> omega)) rfl) rfl ?_))))); refine XR hS (rIdxA1 rfl rfl (by omega)) rfl ?_; refine XR hS (rLoadB rfl (List.getElem?_eq_getElem (show off + (k - 1) < dc'.length by omega))) rfl ?_; refine XR hS (rConvB rfl) rfl (XR hS (rNil rfl) rfl (XR hS (rField rfl) rfl ?_)); refine XN hS (dStoreL rfl rfl (by exact rfl) rfl (by first | rfl | assumption | exact erv_one)) ?_; clear hS; intro _ w hS; refine Xn (Xg (XX 1 hS rfl (XR hS (rNil rfl) rfl (XR hS (rField rfl) rfl ?_)))); refine XN hS (dStoreL rfl rfl (by exact rfl) rfl (by first | rfl | assumption | exact erv_one)) ?_; clear hS; intro _ w hS; refine Xn (Xs (Xg (XX 2 hS rfl ?_)))
            refine XC hS (gCall rfl) rfl (c83 (S := S) (B := ⟨bb, c, m, m, eof, (dc'[off + (k - 1)].toNat : Int), -1, rest'⟩) (L := bys 5 db dc' :: L) hS.arr) ?_; clear hS; intro e w hR; (try dsimp only [bfp, BS.cells] at hR); obtain ⟨rfl, hS⟩ := hR; refine ⟨_, rfl, ?_⟩; refine XX 2 hS rfl (Xn (Xr ?_)); refine X2 rfl rfl rfl ?_; exact ⟨⟨bb, c, m, m, false, _, _, rest'⟩, k, dc', eof, ⟨rfl, ⟨h1, h2, h3, h4, fun h => nomatch h⟩, rfl, rfl, by omega, k2, k3, by simp [hnil, k4], fun h => by simp [hnil, k5 h], k6, fun h => by simp [hnil] at h⟩, hS⟩
  · rintro a w ⟨hE, c', r', m', eof', rest', hk', q1, q2, q3, q4, hS⟩; clear h1 h2 h3 h4 h5; have hrow := slo_row (c := c') (i := r') (n := m') hk'.wc; obtain ⟨h1, h2, h3, h4, h5⟩ := hk'; dsimp only [bfp, BS.cells] at *; have hle := slo_le h2 h1; obtain ⟨c1, c2, c3⟩ := copy_take (dc := dc) (c := c') (off := off) (k := min (m' - r') n) (o := slo 0 r' c'.length) (by omega) (by omega); have hsl : (c'.drop (slo 0 r' c'.length)).take (min (m' - r') n) = ((c'.take m').drop r').take (min (m' - r') n) := by
      rw [← hrow, List.take_take]; congr 1; omega
    revert a; refine Xs ?_; refine Xh ([]) [.s, .s, .s, .s, .r, .s, .s, .s, .r, .s, .s, .s, .r, .s, .h, .s] mixed (by kernel_rfl) hS ?_; clear hS; intro w hS; refine XS (rMove rfl) rfl (XS (rMove rfl) rfl (XS (rNil rfl) rfl (XS (rField rfl) rfl (XT hS (rLoad rfl (by exact rfl)) rfl ?_)))); refine XS (rMove rfl) rfl (XS (rNil rfl) rfl (XS (rField rfl) rfl (XT hS (rLoad rfl (by exact rfl)) rfl ?_))); refine XS (rMove rfl) rfl (XS (rNil rfl) rfl (XS (rField rfl) rfl (XT hS (rLoad rfl (by exact rfl)) rfl ?_))); refine XS (rSlc2 rfl rfl rfl (by omega) (by omega)) rfl ?_; refine XH hS (dCopyT (n := min (m' - r') n) (off2 := slo 0 r' c'.length) rfl rfl (.tail (.tail (.tail (.tail .head)))) (by omega) (by omega) (by omega) rfl (.tail (.tail (.tail (.tail .head))))) rfl ?_; clear hS; intro vr w hR; obtain ⟨rfl, hS⟩ := hR; refine ⟨hS.sub, ?_⟩
    refine XS (rAssign rfl) rfl (Xn (Xs (Xg (XX 1 hS rfl (XR hS (rNil rfl) rfl (XR hS (rField rfl) rfl (XR hS (rLoad rfl (by exact rfl)) rfl ?_))))))); refine XX 1 hS rfl (XR hS (rAddN rfl rfl (by first | omega | (simp <;> omega)) rfl) rfl ?_); refine XR hS (rNil rfl) rfl (XR hS (rField rfl) rfl ?_); refine XN hS (dStoreL rfl rfl (by exact rfl) rfl (by first | rfl | assumption | exact erv_one)) ?_; clear hS; intro _ w hS; refine Xn (Xs ?_); refine Xh ([]) [.s, .s, .s, .s, .r, .s, .s, .s, .r, .s, .s, .r, .r, .s, .s, .e] mixed (by kernel_rfl) hS ?_; clear hS; intro w hS; refine XS (rMove rfl) rfl (XS (rMove rfl) rfl (XS (rNil rfl) rfl (XS (rField rfl) rfl (XT hS (rLoad rfl (by exact rfl)) rfl ?_)))); refine XS (rMove rfl) rfl (XS (rNil rfl) rfl (XS (rField rfl) rfl (XT hS (rLoad rfl (by exact rfl)) rfl ?_)))
    refine XS (rSubN (n := 1) rfl rfl (by first | omega | (simp <;> omega)) (by first | omega | (simp <;> omega)) rfl) rfl ?_; refine XS (rIdxA1 rfl rfl (by omega)) rfl ?_; refine XT hS (rLoadB rfl (List.getElem?_eq_getElem (show 0 + (r' + min (m' - r') n - 1) < c'.length by omega))) rfl ?_; refine XT hS (rConvB rfl) rfl (XS (rNil rfl) rfl (XS (rField rfl) rfl ?_)); refine XM hS (dStoreL rfl rfl (by exact rfl) rfl (by first | rfl | assumption | exact erv_one)) ?_; clear hS; intro _ w hS; refine Xn (Xs (Xg (XX 1 hS rfl (XR hS (rNil rfl) rfl (XR hS (rField rfl) rfl ?_))))); refine XN hS (dStoreL rfl rfl (by exact rfl) rfl (by first | rfl | assumption | exact erv_one)) ?_; clear hS; intro _ w hS; refine Xn (Xs (Xg (XX 3 hS rfl (Xn (Xr ?_))))); refine X2 rfl rfl rfl ?_
    refine ⟨⟨bb, c', r' + min (m' - r') n, m', eof', _, _, rest'⟩, min (m' - r') n, _, false, ⟨rfl, ⟨by dsimp only; omega, h2, h3, h4, h5⟩, rfl, q1, by omega, c3, c2, ?_, (fun h => nomatch h), (fun h => by omega), fun h => ?_⟩, hS⟩
    · rw [c1, hsl, ← q3]; show _ = _ ++ ((c'.take m').drop (r' + min (m' - r') n) ++ rest'); rw [← List.append_assoc, ← List.drop_drop, List.take_append_drop]
    · simp at h; obtain ⟨g1, g2⟩ := q4 (by omega); have := congrArg List.length g1; simp at this; refine ⟨?_, rfl, g2⟩; simp; omega
end
end Go.Proofs
end
section
namespace Go.Proofs
open Go.Eng
section
variable {W w : World} {g : Gl W} {S : Src W g} {L : List SL} {b : Nat} {B : BS}
/-- (*bufio.Reader).reset -/
theorem c81 {l : List Value} {bb n : Nat} (hS : St W (cel b l 171 (0, 0) :: L) w) (hl : l.length = 7) : Calls Tryz.prog 81 #[ptr b 0, .slice (some ⟨bb, 0, none⟩) n n, .iface S.T S.v] w fun e w' => e = .returned (.tuple #[]) ∧
    St W (cel b [.slice (some ⟨bb, 0, none⟩) n n, .iface S.T S.v, .int .i64 0, .int .i64 0, .nilIface, .int .i64 (-1), .int .i64 (-1)] 171 (0, 0) :: L) w' := by
  refine fn_calls (args := [ptr b 0, .slice (some ⟨bb, 0, none⟩) n n, .iface S.T S.v]) Tryz.func81 rfl rfl rfl ?_; refine Xg (XX 3 hS rfl (XR hS (rBuild rfl rfl) rfl (XR hS (rNil rfl) rfl ?_))); refine XN hS (dStoreN (l := l) rfl rfl .head rfl (by rw [hl]; exact Nat.le_refl 7) (fun _ _ _ => rfl) (one_all rfl)) ?_; clear hS; intro _ w hS; refine Xn ?_; refine X0 rfl ⟨rfl, ?_⟩; rw [putL_eq _ _ _ (by rw [hl]; exact Nat.le_refl 7), List.take_zero, List.nil_append, List.drop_eq_nil_of_le (by rw [hl]; exact Nat.le_refl 7), List.append_nil] at hS; exact hS
/-- bufio.NewReaderSize, of 4096 bytes -/
theorem c55 {rest : List UInt8} (hS : St W (S.inv rest :: old W :: L) w) [hno : AsNo Tryz.prog 93 S.T (.pointer none)] : Calls Tryz.prog 55 #[.iface S.T S.v, .int .i64 4096] w fun e w' => ∃ (b : Nat) (B : BS), (e = .returned (ptr b 0) ∧ B.ok ∧ B.c.length = 4096 ∧ B.str = rest) ∧ St W (bfp S b B L) w' := by
  refine fn_calls (args := [.iface S.T S.v, .int .i64 4096]) Tryz.func55 rfl rfl rfl ?_; refine Xs (Xg (XX 1 hS rfl (Xn (Xs (Xg (XX 1 hS rfl (XR hS (rAsNo rfl) rfl (XX 1 hS rfl (XR hS (rExtract rfl rfl) rfl (XR hS (rExtract rfl rfl) rfl (XX 2 hS rfl (Xn (Xs (Xs ?_)))))))))))))); refine Xg (XX 10 hS rfl (Xn (Xf rfl (Xk (Xs (Xg ?_)))))); refine XD hS (dAlloc) rfl ?_; clear hS; intro vr w hR; obtain ⟨b24, rfl, hS⟩ := hR; refine XX 1 hS rfl (Xn (Xs (Xg (XX 2 hS rfl (XR hS (rMax rfl rfl (r := 4096) rfl) rfl ?_))))); refine XD hS (dMakeB (n := 4096) (c := 4096) rfl rfl (by omega) (by omega)) rfl ?_; clear hS; intro vr w hR; obtain ⟨bb, rfl, hS⟩ := hR; refine XX 1 hS rfl ?_; refine XC hS (gCall rfl) rfl (c81 (S := S) hS.swap rfl) ?_; clear hS; intro e w hR; (try dsimp only [bfp, BS.cells] at hR); obtain ⟨rfl, hS⟩ := hR; refine ⟨_, rfl, ?_⟩; refine Xn (Xs (Xg (XX 2 hS rfl (Xn (Xr ?_)))))
  refine X1 rfl rfl ?_; have hl : (List.replicate 4096 (0 : UInt8)).length = 4096 := List.length_replicate ..; generalize List.replicate 4096 (0 : UInt8) = c0 at hl hS; refine ⟨b24, ⟨bb, c0, 0, 0, false, -1, -1, rest⟩, ⟨rfl, ⟨Nat.le_refl _, Nat.zero_le _, by dsimp only; omega, by dsimp only; omega, fun h => nomatch h⟩, hl, rfl⟩, ?_⟩; dsimp only [bfp, BS.cells]; rw [hl]; exact hS.arr
/-- bufio.NewReader -/
theorem c39 {rest : List UInt8} (hS : St W (S.inv rest :: old W :: L) w) [hno : AsNo Tryz.prog 93 S.T (.pointer none)] : Calls Tryz.prog 39 #[.iface S.T S.v] w fun e w' => ∃ (b : Nat) (B : BS), (e = .returned (ptr b 0) ∧ B.ok ∧ B.c.length = 4096 ∧ B.str = rest) ∧ St W (bfp S b B L) w' := by
  refine fn_calls (args := [.iface S.T S.v]) Tryz.func39 rfl rfl rfl ?_; refine Xs (Xg (XX 1 hS rfl (Xn (Xs (Xg (XX 1 hS rfl ?_)))))); refine XC hS (gCall rfl) rfl (c55 hS) ?_; clear hS; intro e w hR; (try dsimp only [bfp, BS.cells] at hR); obtain ⟨b, B, ⟨rfl, h1, h2, h3⟩, hS⟩ := hR; refine ⟨_, rfl, ?_⟩; refine XX 1 hS rfl (Xn (Xr ?_)); exact X1 rfl rfl ⟨b, B, ⟨rfl, h1, h2, h3⟩, hS⟩
end
end Go.Proofs
end
section
namespace Go.Proofs
open Go.Eng
section
variable {W w : World} {g : Gl W} {S : Src W g} {L : List SL} {b : Nat} {B : BS}
theorem erv_cases (e : Bool) : (e = true ∧ erv g e = .iface 166 (.pointer (some g.b1))) ∨ (e = false ∧ erv g e = .nilIface) := by cases e <;> simp
/-- (*bytes.Reader).Read -/
theorem c175 {sb n i db off m cap : Nat} {lr : Int} {data dc : List UInt8} (hS : St W (cel b [.slice (some ⟨sb, 0, none⟩) n data.length, .int .i64 (i : Int), .int .i64 lr] 132 (0, 0) :: bys 5 sb data :: bys 5 db dc :: old W :: L) w)
    (hi : i ≤ n) (hnd : n ≤ data.length) (hmy : n ≤ 1073741824) (hm : 0 < m) (ho : off + m ≤ dc.length) : Calls Tryz.prog 175 #[ptr b 0, .slice (some ⟨db, off, none⟩) m cap] w fun e w' => ∃ (k : Nat) (dc' : List UInt8) (pr' : Int) (eof : Bool),
      (e = .returned (.tuple #[.int .i64 (k : Int), erv g eof]) ∧ k ≤ m ∧ dc'.length = dc.length ∧ dc'.take off = dc.take off ∧ (data.take n).drop i = (dc'.drop off).take k ++ (data.take n).drop (i + k) ∧ i + k ≤ n ∧ (eof = true → i + k = n) ∧ (k = 0 → eof = true)) ∧
      St W (cel b [.slice (some ⟨sb, 0, none⟩) n data.length, .int .i64 ((i + k : Nat) : Int), .int .i64 pr'] 132 (0, 0) :: bys 5 sb data :: bys 5 db dc' :: old W :: L) w' := by
  refine fn_calls (args := [ptr b 0, .slice (some ⟨db, off, none⟩) m cap]) Tryz.func175 rfl rfl rfl ?_; refine Xs (Xg (XX 2 hS rfl (Xn (Xs (Xs ?_))))); rcases Nat.lt_or_ge i n with hf | hf
  · refine Xd [.s, .s, .s, .s, .s, .s, .s, .s, .s, .s] mixed (by kernel_rfl) hS ?_; clear hS; intro w hS; refine XS (rMove rfl) rfl (XS (rNil rfl) rfl (XS (rField rfl) rfl (XS (rLoad rfl (by exact rfl)) rfl ?_))); refine XS (rMove rfl) rfl (XS (rNil rfl) rfl (XS (rField rfl) rfl (XS (rLoad rfl (by exact rfl)) rfl ?_))); refine XS (rLen rfl) rfl (XS (rCmp rfl rfl (cmp_geqF (by omega))) rfl ?_); refine Xn (Xf rfl (Xk (Xs (Xg (XX 1 hS rfl (XR hS (rNil rfl) rfl (XR hS (rField rfl) rfl ?_))))))); refine XN hS (dStoreL rfl rfl (by exact rfl) rfl (by first | rfl | assumption | exact erv_one)) ?_; clear hS; intro _ w hS; refine Xn (Xs ?_); refine Xh ([]) [.s, .s, .s, .s, .r, .s, .s, .s, .r, .s, .h, .s] mixed (by kernel_rfl) hS ?_; clear hS; intro w hS; refine XS (rMove rfl) rfl (XS (rMove rfl) rfl (XS (rNil rfl) rfl (XS (rField rfl) rfl (XT hS (rLoad rfl (by exact rfl)) rfl ?_))))
    refine XS (rMove rfl) rfl (XS (rNil rfl) rfl (XS (rField rfl) rfl (XT hS (rLoad rfl (by exact rfl)) rfl ?_))); refine XS (rSlc1o rfl rfl (by omega) (slo_is (by omega) rfl)) rfl ?_; refine XH hS (dCopyT (n := min (n - i) m) (off2 := 0 + i) rfl rfl (.tail (.tail .head)) (by omega) (by omega) (by omega) rfl (.tail (.tail .head))) rfl ?_; clear hS; intro vr w hR; obtain ⟨rfl, hS⟩ := hR; refine ⟨hS.sub, ?_⟩; refine XS (rAssign rfl) rfl (Xn (Xs (Xg (XX 1 hS rfl (XR hS (rNil rfl) rfl (XR hS (rField rfl) rfl (XR hS (rLoad rfl (by exact rfl)) rfl ?_))))))); refine XX 1 hS rfl (XR hS (rAddN rfl rfl (by first | omega | (simp <;> omega)) rfl) rfl ?_); refine XR hS (rNil rfl) rfl (XR hS (rField rfl) rfl ?_); refine XN hS (dStoreL rfl rfl (by exact rfl) rfl (by first | rfl | assumption | exact erv_one)) ?_; clear hS; intro _ w hS; refine Xn (Xr ?_); refine X2 rfl rfl rfl ?_
    obtain ⟨c1, c2, c3⟩ := copy_take (dc := dc) (c := data) (off := off) (k := min (n - i) m) (o := 0 + i) (by omega) (by omega); refine ⟨min (n - i) m, _, _, false, ⟨rfl, by omega, c3, c2, ?_, by omega, (fun h => nomatch h), fun h => by omega⟩, hS⟩; rw [c1, Nat.zero_add, ← List.drop_drop]; have : ((data.drop i).take (min (n - i) m)) = ((data.take n).drop i).take (min (n - i) m) := by
      rw [List.drop_take, List.take_take]; congr 1; omega
    rw [this, List.take_append_drop]
  · refine Xd [.s, .s, .s, .s, .s, .s, .s, .s, .s, .s] mixed (by kernel_rfl) hS ?_; clear hS; intro w hS; refine XS (rMove rfl) rfl (XS (rNil rfl) rfl (XS (rField rfl) rfl (XS (rLoad rfl (by exact rfl)) rfl ?_))); refine XS (rMove rfl) rfl (XS (rNil rfl) rfl (XS (rField rfl) rfl (XS (rLoad rfl (by exact rfl)) rfl ?_))); refine XS (rLen rfl) rfl (XS (rCmp rfl rfl (cmp_geqT (by omega))) rfl ?_); refine Xn (Xt rfl (Xs ?_)); refine Xd [.s, .s, .s] mixed (by kernel_rfl) hS ?_; clear hS; intro w hS; refine XS (rLoadO rfl g.g1) rfl (XS (rAssign rfl) rfl (XS (rAssign rfl) rfl (Xn (Xr ?_)))); refine X2 rfl rfl rfl ?_; exact ⟨0, dc, lr, true, ⟨rfl, by omega, rfl, rfl, by simp, by omega, fun _ => by omega, fun _ => rfl⟩, hS⟩
/-- a bytes.Reader as a source -/
def bytesInv (b sb n : Nat) (data rest : List UInt8) : SL := fun h => ∃ (i : Nat) (lr : Int), i ≤ n ∧ rest = (data.take n).drop i ∧ star (cel b [.slice (some ⟨sb, 0, none⟩) n data.length, .int .i64 (i : Int), .int .i64 lr] 132 (0, 0)) (bys 5 sb data) h
theorem St.open_bytes {sb n : Nat} {data rest : List UInt8} (h : St W (bytesInv b sb n data rest :: L) w) : ∃ (i : Nat) (lr : Int), i ≤ n ∧ rest = (data.take n).drop i ∧ St W (cel b [.slice (some ⟨sb, 0, none⟩) n data.length, .int .i64 (i : Int), .int .i64 lr] 132 (0, 0) :: bys 5 sb data :: L) w := by
  obtain ⟨a, k, ⟨i, lr, h1, h2, h3⟩, hb, hd, sa, sb⟩ := h.sat; exact ⟨i, lr, h1, h2, St.open_star ⟨h.os, h.tape, h.output, h.size, a, k, h3, hb, hd, sa, sb⟩⟩
theorem St.shut_bytes {sb n i : Nat} {lr : Int} {data rest : List UInt8} (h1 : i ≤ n) (h2 : rest = (data.take n).drop i) (h : St W (cel b [.slice (some ⟨sb, 0, none⟩) n data.length, .int .i64 (i : Int), .int .i64 lr] 132 (0, 0) :: bys 5 sb data :: L) w) : St W (bytesInv b sb n data rest :: L) w :=
  h.shut_star.imp fun _ k => ⟨i, lr, h1, h2, k⟩
def bytesSrc (g : Gl W) (b sb n : Nat) (data : List UInt8) (hnd : n ≤ data.length) (hmy : n ≤ 1073741824) : Src W g where
  T := 95
  v := ptr b 0
  fn := 175
  one := rfl
  meth := ⟨fun v w => by kernel_rfl⟩
  ent := ⟨fun args w => by kernel_rfl⟩
  inv := bytesInv b sb n data
  read := by
    intro w L db off m cap dc rest hS hm hcp ho hdc
    obtain ⟨i, lr, h1, h2, hS⟩ := St.open_bytes hS
    refine (c175 (g := g) hS h1 hnd hmy hm ho).mono fun e w' hR => ?_
    obtain ⟨k, dc', pr', eof, ⟨q1, q2, q3, q4, q5, q6, q7, q8⟩, hS⟩ := hR
    refine ⟨k, dc', eof, (data.take n).drop (i + k), q1, q2, q3, q4, by rw [h2]; exact q5, fun h => by rw [q7 h]; simp, q8, ?_⟩
    exact St.shut_bytes q6 rfl hS
/-- (*stickyErrorReader).Read -/
def stickyInv (S : Src W g) (b : Nat) (rest : List UInt8) : SL := fun h => ∃ eof : Bool, (eof = true → rest = []) ∧ star (cel b [.iface S.T S.v, erv g eof] 195 (0, 0)) (S.inv rest) h
theorem St.open_sticky {rest : List UInt8} (h : St W (stickyInv S b rest :: L) w) : ∃ eof : Bool, (eof = true → rest = []) ∧ St W (cel b [.iface S.T S.v, erv g eof] 195 (0, 0) :: S.inv rest :: L) w := by
  obtain ⟨a, k, ⟨i, h1, h3⟩, hb, hd, sa, sb⟩ := h.sat; exact ⟨i, h1, St.open_star ⟨h.os, h.tape, h.output, h.size, a, k, h3, hb, hd, sa, sb⟩⟩
theorem St.shut_sticky {rest : List UInt8} {eof : Bool} (h1 : eof = true → rest = []) (h : St W (cel b [.iface S.T S.v, erv g eof] 195 (0, 0) :: S.inv rest :: L) w) : St W (stickyInv S b rest :: L) w :=
  h.shut_star.imp fun _ k => ⟨eof, h1, k⟩
theorem c201 {db off m cap : Nat} {dc rest : List UInt8} (hS : St W (stickyInv S b rest :: bys 5 db dc :: old W :: L) w) (hm : 0 < m) (hcp : m ≤ cap) (ho : off + m ≤ dc.length) (hdc : dc.length ≤ 9223372036854775807) : Calls Tryz.prog 201 #[ptr b 0, .slice (some ⟨db, off, none⟩) m cap] w fun e w' => ∃ (k : Nat) (dc' : List UInt8) (eof : Bool) (rest' : List UInt8),
      e = .returned (.tuple #[.int .i64 (k : Int), erv g eof]) ∧ k ≤ m ∧ dc'.length = dc.length ∧ dc'.take off = dc.take off ∧ rest = (dc'.drop off).take k ++ rest' ∧ (eof = true → rest' = []) ∧ (k = 0 → eof = true) ∧ St W (stickyInv S b rest' :: bys 5 db dc' :: old W :: L) w' := by
  have := S.meth; have := S.ent; obtain ⟨eof, h1, hS⟩ := St.open_sticky hS; refine fn_calls (args := [ptr b 0, .slice (some ⟨db, off, none⟩) m cap]) Tryz.func201 rfl rfl rfl ?_; refine Xs (Xg (XX 2 hS rfl (Xn (Xs (Xs ?_))))); intro a hE; cases eof with
  | true =>
    revert a; refine Xg (XX 1 hS rfl (XR hS (rNil rfl) rfl (XR hS (rField rfl) rfl (XR hS (rLoad rfl (by exact rfl)) rfl ?_)))); refine XR hS (rINilN rfl) rfl (Xn (Xt rfl (Xs ?_))); refine Xd [.s, .s, .s, .s, .s, .s] mixed (by kernel_rfl) hS ?_; clear hS; intro w hS; refine XS (rMove rfl) rfl (XS (rNil rfl) rfl (XS (rField rfl) rfl (XS (rLoad rfl (by exact rfl)) rfl ?_))); refine XS (rAssign rfl) rfl (XS (rAssign rfl) rfl (Xn (Xr ?_))); refine X2 rfl rfl rfl ?_; obtain rfl := h1 rfl; exact ⟨0, dc, true, [], rfl, by omega, rfl, rfl, by simp, fun _ => rfl, fun _ => rfl, St.shut_sticky (fun _ => rfl) hS⟩
  | false =>
    revert a; refine Xg (XX 1 hS rfl (XR hS (rNil rfl) rfl (XR hS (rField rfl) rfl (XR hS (rLoad rfl (by exact rfl)) rfl ?_)))); refine XR hS (rNilNilN rfl) rfl (Xn (Xf rfl (Xk (Xs (Xg (XX 2 hS rfl (XR hS (rNil rfl) rfl (XR hS (rField rfl) rfl (XR hS (rLoad rfl (by exact rfl)) rfl ?_))))))))); refine XX 1 hS rfl ?_; refine XC hS (gInv rfl rfl) rfl (S.read (hS.tk3 (S.inv rest) (bys 5 db dc) (old W)) hm hcp ho hdc) ?_; clear hS; intro e w hR; (try dsimp only [bfp, BS.cells] at hR); obtain ⟨k, dc', eof, rest', rfl, k1, k2, k3, k4, k5, k6, hS⟩ := hR; refine ⟨_, rfl, ?_⟩; refine XX 1 hS rfl (XR hS (rExtract rfl rfl) rfl (XR hS (rExtract rfl rfl) rfl (XX 1 hS rfl (XR hS (rNil rfl) rfl (XR hS (rField rfl) rfl ?_))))); refine XN hS (dStoreL rfl rfl (by exact rfl) rfl (by first | rfl | assumption | exact erv_one)) ?_; clear hS; intro _ w hS; refine Xn (Xs ?_)
    refine Xd [.s, .s, .s, .s, .s, .s, .s] mixed (by kernel_rfl) hS ?_; clear hS; intro w hS; refine XS (rMove rfl) rfl (XS (rMove rfl) rfl (XS (rNil rfl) rfl (XS (rField rfl) rfl (XS (rLoad rfl (by exact rfl)) rfl ?_)))); refine XS (rAssign rfl) rfl (XS (rAssign rfl) rfl (Xn (Xr ?_))); refine X2 rfl rfl rfl ?_; refine ⟨k, dc', eof, rest', rfl, k1, k2, k3, k4, k5, k6, ?_⟩; have hS2 := hS.tk2 (cel b [.iface S.T S.v, erv g eof] 195 (0, 0)) (S.inv rest'); exact St.shut_sticky k5 hS2
def stickySrc (S : Src W g) (b : Nat) : Src W g where
  T := 193
  v := ptr b 0
  fn := 201
  one := rfl
  meth := ⟨fun v w => by kernel_rfl⟩
  ent := ⟨fun args w => by kernel_rfl⟩
  inv := stickyInv S b
  read := fun hS hm hcp ho hdc => c201 hS hm hcp ho hdc
/-- a bufio.Reader as a source -/
def bufInv (S : Src W g) (b : Nat) (str : List UInt8) : SL := fun h => ∃ B : BS, B.ok ∧ B.str = str ∧ star (S.inv B.rest) (star (bys 5 B.bb B.c) (cel b (B.cells S) 171 (0, 0))) h
theorem St.open_buf {str : List UInt8} (h : St W (bufInv S b str :: L) w) : ∃ B : BS, B.ok ∧ B.str = str ∧ St W (S.inv B.rest :: bys 5 B.bb B.c :: cel b (B.cells S) 171 (0, 0) :: L) w := by
  obtain ⟨a, k, ⟨B, h1, h2, h3⟩, hb, hd, sa, sb⟩ := h.sat; have h4 : St W (star (S.inv B.rest) (star (bys 5 B.bb B.c) (cel b (B.cells S) 171 (0, 0))) :: L) w := ⟨h.os, h.tape, h.output, h.size, a, k, h3, hb, hd, sa, sb⟩; exact ⟨B, h1, h2, (h4.open_star.swap.open_star.tk3 (S.inv B.rest) (bys 5 B.bb B.c) (cel b (B.cells S) 171 (0, 0)))⟩
theorem St.shut_buf {str : List UInt8} {B : BS} (h1 : B.ok) (h2 : B.str = str) (h : St W (S.inv B.rest :: bys 5 B.bb B.c :: cel b (B.cells S) 171 (0, 0) :: L) w) : St W (bufInv S b str :: L) w :=
  ((h.tk3 (bys 5 B.bb B.c) (cel b (B.cells S) 171 (0, 0)) (S.inv B.rest)).shut_star.swap.shut_star).imp fun _ k => ⟨B, h1, h2, k⟩
def bufSrc (S : Src W g) (b : Nat) : Src W g where
  T := 93
  v := ptr b 0
  fn := 171
  one := rfl
  meth := ⟨fun v w => by kernel_rfl⟩
  ent := ⟨fun args w => by kernel_rfl⟩
  inv := bufInv S b
  read := by
    intro w L db off m cap dc rest hS hm hcp ho hdc
    obtain ⟨B, h1, h2, hS⟩ := St.open_buf hS
    refine (c171 (B := B) (S := S) (hS.tk5 (S.inv B.rest) (bys 5 B.bb B.c) (old W) (cel b (B.cells S) 171 (0, 0)) (bys 5 db dc)) h1 hm hcp ho hdc).mono fun e w' hR => ?_
    obtain ⟨B', k, dc', eof, ⟨q1, q2, q3, q4, q5, q6, q7, q8, q9, q10, q11⟩, hS⟩ := hR
    refine ⟨k, dc', eof, B'.str, q1, q5, q6, q7, by rw [← h2]; exact q8, q9, q10, ?_⟩
    exact St.shut_buf q2 rfl (hS.tk5 (S.inv B'.rest) (bys 5 B'.bb B'.c) (cel b (B'.cells S) 171 (0, 0)) (bys 5 db dc') (old W))
end
end Go.Proofs
end
section
namespace Go.Proofs
open Go.Eng
/-- a row of a block of bytes -/
structure RowIs (c : List UInt8) (off n : Nat) (l : List UInt8) : Prop where
  le : off + n ≤ c.length
  is : (c.drop off).take n = l
theorem RowIs.len {c l : List UInt8} {off n : Nat} (h : RowIs c off n l) : l.length = n := by rw [← h.is]; have := h.le; simp; omega
theorem RowIs.at {c l : List UInt8} {off n i : Nat} {d : UInt8} (h : RowIs c off n l) (hd : l[i]? = some d) : c[off + i]? = some d := take_at h.is hd
theorem RowIs.pre {c l : List UInt8} {off n k : Nat} (h : RowIs c off n l) (hk : k ≤ n) : RowIs c off k (l.take k) := ⟨by have := h.le; omega, by rw [← h.is, List.take_take, Nat.min_eq_left hk]⟩
theorem RowIs.sub {c l : List UInt8} {off n i cap : Nat} (h : RowIs c off n l) (hi : i ≤ n) (hc : n ≤ cap) : RowIs c (slo off i cap) (n - i) (l.drop i) := by
  have h1 := h.le; unfold slo; split
  · have : n - i = 0 := by omega
    refine ⟨by omega, ?_⟩; rw [this, List.take_zero, List.drop_eq_nil_of_le (by rw [h.len]; omega)]
  · refine ⟨by omega, ?_⟩; rw [← h.is, List.drop_take, List.drop_drop]
/-- "HasPrefix" -/
def hasPre (l p : List UInt8) : Bool := decide (p.length ≤ l.length) && (l.take p.length == p)
theorem hasPre_iff {l p : List UInt8} : hasPre l p = true ↔ ∃ q, l = p ++ q := by
  unfold hasPre; simp only [Bool.and_eq_true, decide_eq_true_eq, beq_iff_eq]; constructor
  · rintro ⟨h1, h2⟩; exact ⟨l.drop p.length, by conv => lhs; rw [← List.take_append_drop p.length l, h2]⟩
  · rintro ⟨q, rfl⟩; simp
section
variable {W w : World} {s : List SL}
/-- bytes.Equal -/
theorem c76 {b1 o1 n1 k1 b2 o2 n2 k2 : Nat} {c1 c2 l1 l2 : List UInt8} (hS : St W s w) [q1 : HasBys s 5 b1 c1] [q2 : HasBys s 5 b2 c2] (h1 : RowIs c1 o1 n1 l1) (h2 : RowIs c2 o2 n2 l2) {r : Bool} (hr : (l1 == l2) = r) :
    Calls Tryz.prog 76 #[.slice (some ⟨b1, o1, none⟩) n1 k1, .slice (some ⟨b2, o2, none⟩) n2 k2] w fun e w' => e = .returned (.bool r) ∧ St W s w' := by
  refine fn_calls (args := [.slice (some ⟨b1, o1, none⟩) n1 k1, .slice (some ⟨b2, o2, none⟩) n2 k2]) Tryz.func76 rfl rfl rfl ?_; refine Xs (Xg (XX 1 hS rfl (Xn (Xs (Xg (XX 1 hS rfl (XR hS (rToStr rfl (k := q1) h1.le) rfl (XX 1 hS rfl (XR hS (rToStr rfl (k := q2) h2.le) rfl (XR hS (rStrEq (b := r) rfl rfl (by rw [h1.is, h2.is, hr])) rfl ?_)))))))))); refine XX 1 hS rfl (Xn (Xr ?_)); exact X1 rfl rfl ⟨rfl, hS⟩
/-- bytes.HasPrefix -/
theorem c105 {b1 o1 n1 k1 b2 o2 n2 k2 : Nat} {c1 c2 l1 l2 : List UInt8} (hS : St W s w) [q1 : HasBys s 5 b1 c1] [q2 : HasBys s 5 b2 c2] (h1 : RowIs c1 o1 n1 l1) (hk1 : n1 ≤ k1) (h2 : RowIs c2 o2 n2 l2) {r : Bool} (hr : hasPre l1 l2 = r) :
    Calls Tryz.prog 105 #[.slice (some ⟨b1, o1, none⟩) n1 k1, .slice (some ⟨b2, o2, none⟩) n2 k2] w fun e w' => e = .returned (.bool r) ∧ St W s w' := by
  subst hr; have e1 := h1.len; have e2 := h2.len; refine fn_calls (args := [.slice (some ⟨b1, o1, none⟩) n1 k1, .slice (some ⟨b2, o2, none⟩) n2 k2]) Tryz.func105 rfl rfl rfl ?_; refine Xs (Xg (XX 1 hS rfl (Xn (Xs ?_)))); rcases Nat.lt_or_ge n1 n2 with hf | hf
  · refine Xg (XX 1 hS rfl (XR hS (rLen rfl) rfl (XX 1 hS rfl (XR hS (rLen rfl) rfl (XR hS (rCmp rfl rfl (cmp_geqF (by omega))) rfl ?_))))); refine XX 9 hS rfl (Xn (Xr ?_)); refine X1 rfl rfl ⟨?_, hS⟩; rw [show hasPre l1 l2 = false by unfold hasPre; rw [show decide (l2.length ≤ l1.length) = false by simp; omega]; rfl]
  · refine Xg (XX 1 hS rfl (XR hS (rLen rfl) rfl (XX 1 hS rfl (XR hS (rLen rfl) rfl (XR hS (rCmp rfl rfl (cmp_geqT (by omega))) rfl ?_))))); refine XX 9 hS rfl (XA rfl rfl (XR hS (rLen rfl) rfl (XX 5 hS rfl (XA rfl rfl (XR hS (rSlc0 rfl rfl (by omega)) rfl ?_))))); refine XX 4 hS rfl (XA rfl rfl ?_); refine XC hS (gCall rfl) rfl (c76 (q1 := q1) (q2 := q2) hS (h1.pre hf) h2 rfl) ?_; clear hS; intro e w hR; (try dsimp only [bfp, BS.cells] at hR); obtain ⟨rfl, hS⟩ := hR; refine ⟨_, rfl, ?_⟩; refine XX 2 hS rfl (Xn (Xr ?_)); refine X1 rfl rfl ⟨?_, hS⟩; rw [show hasPre l1 l2 = (l1.take n2 == l2) by unfold hasPre; rw [e2, e1, show decide (n2 ≤ n1) = true by simp; omega]; rfl]
/-- the first place where 'p' stands -/
def idxOf (p : List UInt8) : List UInt8 → Option Nat
  | [] => if p = [] then some 0 else none
  | x :: l => if hasPre (x :: l) p then some 0 else (idxOf p l).map (· + 1)
theorem idxOf_step {p l : List UInt8} {i : Nat} (hi : i + p.length ≤ l.length) (hp : p ≠ []) : idxOf p (l.drop i) = if hasPre (l.drop i) p then some 0 else (idxOf p (l.drop (i + 1))).map (· + 1) := by
  have hlt : i < l.length := by have := List.length_pos_iff.2 hp; omega
  rw [List.drop_eq_getElem_cons hlt]; rfl
theorem idxOf_short {p : List UInt8} : ∀ {l : List UInt8}, l.length < p.length → idxOf p l = none
  | [], h => by simp [idxOf]; intro e; subst e; simp at h
  | x :: l, h => by
    unfold idxOf; rw [if_neg, idxOf_short (by simp at h; omega)]; rfl; intro h2; obtain ⟨q, hq⟩ := hasPre_iff.1 h2; rw [hq] at h; simp at h; omega
def oint : Option Nat → Int
  | some n => n
  | none => -1
/-- textproto.zzIndex -/
theorem c205 {b1 o1 n1 k1 b2 o2 n2 k2 : Nat} {c1 c2 l1 l2 : List UInt8} (hS : St W s w) [q1 : HasBys s 5 b1 c1] [q2 : HasBys s 5 b2 c2] (h1 : RowIs c1 o1 n1 l1) (hk1 : n1 ≤ k1) (h2 : RowIs c2 o2 n2 l2) (hp : 0 < n2) (hmy : n1 + n2 ≤ 4294967296) {r : Option Nat} (hr : idxOf l2 l1 = r) :
    Calls Tryz.prog 205 #[.slice (some ⟨b1, o1, none⟩) n1 k1, .slice (some ⟨b2, o2, none⟩) n2 k2] w fun e w' => e = .returned (.int .i64 (oint r)) ∧ St W s w' := by
  have e1 := h1.len; have e2 := h2.len; have hle := h1.le; refine fn_calls (args := [.slice (some ⟨b1, o1, none⟩) n1 k1, .slice (some ⟨b2, o2, none⟩) n2 k2]) Tryz.func205 rfl rfl rfl ?_; refine Xs (Xg (XX 1 hS rfl (Xn (Xs (Xs (Xg (XX 1 hS rfl (Xn (Xb ?_))))))))); intro a hE; refine cw_loop (fun (i : Nat) a w => Env 27 (envL [(0, .slice (some ⟨b1, o1, none⟩) n1 k1), (1, .slice (some ⟨b2, o2, none⟩) n2 k2), (4, .int .i64 0), (5, .int .i64 (i : Int))]) a ∧ i ≤ n1 ∧ r = (idxOf l2 (l1.drop i)).map (· + i) ∧ St W s w)
    (fun i => n1 - i) 0 ⟨hE.cut ⟨rfl, rfl, rfl, rfl, trivial⟩, by omega, by simp [hr], hS⟩ ?_
  clear hS hE a; rintro i a w ⟨hE, hi, hri, hS⟩; rcases Nat.lt_or_ge n1 (i + n2) with hf | hf
  · revert a; refine Xs (Xs (Xg (XX 2 hS rfl (XR hS (rLen rfl) rfl (XR hS (rAddN rfl rfl (by first | omega | (simp <;> omega)) rfl) rfl ?_))))); refine XX 1 hS rfl (XR hS (rLen rfl) rfl (XR hS (rCmp rfl rfl (cmp_leqF (by omega))) rfl ?_)); refine Xn (Xf rfl (Xe rfl (Xs (Xg (XX 1 hS rfl (Xn (Xr ?_))))))); refine X1 rfl rfl ⟨?_, hS⟩; rw [hri, idxOf_short (by simp; omega)]; rfl
  · rw [idxOf_step (by omega) (by intro e; subst e; simp at e2; omega)] at hri; have hbb : hasPre (l1.drop i) l2 = ((c1.drop (o1 + i)).take (i + n2 - i) == (c2.drop o2).take n2) := by
      unfold hasPre; rw [h2.is, show decide (l2.length ≤ (l1.drop i).length) = true by simp; omega, Bool.true_and, e2, ← h1.is, List.drop_take, List.drop_drop, List.take_take]; congr 2; omega
    cases hb : ((c1.drop (o1 + i)).take (i + n2 - i) == (c2.drop o2).take n2) with
    | true =>
      rw [hbb, hb] at hri; revert a; refine Xs (Xs (Xg (XX 2 hS rfl (XR hS (rLen rfl) rfl (XR hS (rAddN rfl rfl (by first | omega | (simp <;> omega)) rfl) rfl ?_))))); refine XX 1 hS rfl (XR hS (rLen rfl) rfl (XR hS (rCmp rfl rfl (cmp_leqT (by omega))) rfl ?_)); refine Xn (Xt rfl (Xk (Xs (Xb (Xs ?_))))); refine Xd [.s, .s, .s, .s, .s, .s, .s, .s, .s, .s, .s] mixed (by kernel_rfl) hS ?_; clear hS; intro w hS; refine XS (rMove rfl) rfl (XS (rMove rfl) rfl (XS (rMove rfl) rfl (XS (rMove rfl) rfl (XS (rLen rfl) rfl (XS (rAddN rfl rfl (by first | omega | (simp <;> omega)) rfl) rfl ?_))))); refine XS (rSlc2o rfl rfl rfl (by omega) (by omega) (slo_is (by omega) rfl)) rfl ?_; refine XS (rToStr rfl (k := q1) (by have := h1.le; omega)) rfl ?_; refine XS (rMove rfl) rfl (XS (rToStr rfl (k := q2) h2.le) rfl (XS (rStrEq rfl rfl hb) rfl (Xn (Xt rfl (Xs (Xg (XX 2 hS rfl (Xn (Xr ?_)))))))))
      refine X1 rfl rfl ⟨?_, hS⟩; rw [hri]; simp [oint]
    | false =>
      rw [hbb, hb] at hri; revert a; refine Xs (Xs (Xg (XX 2 hS rfl (XR hS (rLen rfl) rfl (XR hS (rAddN rfl rfl (by first | omega | (simp <;> omega)) rfl) rfl ?_))))); refine XX 1 hS rfl (XR hS (rLen rfl) rfl (XR hS (rCmp rfl rfl (cmp_leqT (by omega))) rfl ?_)); refine Xn (Xt rfl (Xk (Xs (Xb (Xs ?_))))); refine Xd [.s, .s, .s, .s, .s, .s, .s, .s, .s, .s, .s] mixed (by kernel_rfl) hS ?_; clear hS; intro w hS; refine XS (rMove rfl) rfl (XS (rMove rfl) rfl (XS (rMove rfl) rfl (XS (rMove rfl) rfl (XS (rLen rfl) rfl (XS (rAddN rfl rfl (by first | omega | (simp <;> omega)) rfl) rfl ?_))))); refine XS (rSlc2o rfl rfl rfl (by omega) (by omega) (slo_is (by omega) rfl)) rfl ?_; refine XS (rToStr rfl (k := q1) (by have := h1.le; omega)) rfl ?_
      refine XS (rMove rfl) rfl (XS (rToStr rfl (k := q2) h2.le) rfl (XS (rStrEq rfl rfl hb) rfl (Xn (Xf rfl (Xk (Xg (XX 1 hS rfl (XR hS (rAddN (n := 1) rfl rfl (by first | omega | (simp <;> omega)) rfl) rfl ?_)))))))); refine XX 1 hS rfl (Xn ?_); intro a hE; refine ⟨i + 1, by omega, hE.cut ⟨rfl, rfl, rfl, rfl, trivial⟩, by omega, ?_, hS⟩; rw [hri]; cases idxOf l2 (l1.drop (i + 1)) <;> simp <;> omega
/-- the last place where 'd' stands, below 'k' -/
def lastIdx (l : List UInt8) (d : UInt8) : Nat → Option Nat
  | 0 => none
  | k + 1 => if l[k]? = some d then some k else lastIdx l d k
/-- bytes.LastIndexByte -/
theorem c207 {b1 o1 n1 k1 : Nat} {c1 l1 : List UInt8} {d : UInt8} (hS : St W s w) [q1 : HasBys s 5 b1 c1] (h1 : RowIs c1 o1 n1 l1) (hmy : n1 ≤ 4294967296) {r : Option Nat} (hr : lastIdx l1 d l1.length = r) :
    Calls Tryz.prog 207 #[.slice (some ⟨b1, o1, none⟩) n1 k1, byteV d] w fun e w' => e = .returned (.int .i64 (oint r)) ∧ St W s w' := by
  have e1 := h1.len; refine fn_calls (args := [.slice (some ⟨b1, o1, none⟩) n1 k1, byteV d]) Tryz.func207 rfl rfl rfl ?_; refine Xs (Xg (XX 1 hS rfl (Xn (Xs (Xs (Xg (XX 1 hS rfl (XR hS (rLen rfl) rfl (XR hS (rSub rfl rfl (w64 (by omega) (by omega))) rfl ?_))))))))); refine XX 1 hS rfl (Xn (Xb ?_)); intro a hE; refine cw_loop (fun (i : Nat) a w => Env 20 (envL [(0, .slice (some ⟨b1, o1, none⟩) n1 k1), (1, byteV d), (4, .int .i64 0), (5, .int .i64 ((i : Int) - 1))]) a ∧ i ≤ n1 ∧ r = lastIdx l1 d i ∧ St W s w)
    (fun i => i) n1 ⟨hE.cut ⟨rfl, rfl, rfl, rfl, trivial⟩, by omega, by rw [← hr, e1], hS⟩ ?_
  clear hS hE a; rintro i a w ⟨hE, hi, hri, hS⟩; rcases i with _ | j
  · revert a; refine Xs (Xs (Xg (XX 1 hS rfl (XR hS (rCmp rfl rfl (cmp_geqF (by omega))) rfl ?_)))); refine Xn (Xf rfl (Xe rfl (Xs (Xg (XX 1 hS rfl (Xn (Xr ?_))))))); exact X1 rfl rfl ⟨by rw [hri]; rfl, hS⟩
  · have hj : j < n1 := by omega
    have e5 : ((j + 1 : Nat) : Int) - 1 = (j : Int) := by omega
    rw [e5] at hE; unfold lastIdx at hri; rw [List.getElem?_eq_getElem (show j < l1.length by omega)] at hri; cases hb : (l1[j]'(by omega) == d) with
    | true =>
      rw [if_pos (by simpa using hb)] at hri; revert a; refine Xs (Xs (Xg (XX 1 hS rfl (XR hS (rCmp rfl rfl (cmp_geqT (by omega))) rfl ?_)))); refine Xn (Xt rfl (Xk (Xs (Xb (Xs (Xg (XX 2 hS rfl (XR hS (rIdxA1 (i := j) rfl rfl hj) rfl (XR hS (rLoadB rfl (h1.at (List.getElem?_eq_getElem (show j < l1.length by omega)))) rfl ?_))))))))); refine XX 1 hS rfl (XR hS (rB8 rfl rfl hb) rfl (Xn (Xt rfl (Xs (Xg (XX 2 hS rfl (Xn (Xr ?_)))))))); exact X1 rfl rfl ⟨by rw [hri]; rfl, hS⟩
    | false =>
      rw [if_neg (by simpa using hb)] at hri; revert a; refine Xs (Xs (Xg (XX 1 hS rfl (XR hS (rCmp rfl rfl (cmp_geqT (by omega))) rfl ?_)))); refine Xn (Xt rfl (Xk (Xs (Xb (Xs (Xg (XX 2 hS rfl (XR hS (rIdxA1 (i := j) rfl rfl hj) rfl (XR hS (rLoadB rfl (h1.at (List.getElem?_eq_getElem (show j < l1.length by omega)))) rfl ?_))))))))); refine XX 1 hS rfl (XR hS (rB8 rfl rfl hb) rfl (Xn (Xf rfl (Xk (Xg (XX 1 hS rfl (XR hS (rSub rfl rfl (w64 (by omega) (by omega))) rfl ?_))))))); refine XX 1 hS rfl (Xn ?_); intro a hE; exact ⟨j, by omega, hE.cut ⟨rfl, rfl, rfl, rfl, trivial⟩, by omega, hri, hS⟩
theorem c206 {b1 o1 n1 k1 : Nat} {c1 l1 : List UInt8} {d : UInt8} (hS : St W s w) [q1 : HasBys s 5 b1 c1] (h1 : RowIs c1 o1 n1 l1) (hmy : n1 ≤ 4294967296) {r : Option Nat} (hr : lastIdx l1 d l1.length = r) :
    Calls Tryz.prog 206 #[.slice (some ⟨b1, o1, none⟩) n1 k1, byteV d] w fun e w' => e = .returned (.int .i64 (oint r)) ∧ St W s w' := by
  refine fn_calls (args := [.slice (some ⟨b1, o1, none⟩) n1 k1, byteV d]) Tryz.func206 rfl rfl rfl ?_; refine Xs (Xg (XX 1 hS rfl (Xn (Xs (Xg (XX 2 hS rfl ?_)))))); refine XC hS (gCall rfl) rfl (c207 hS h1 hmy hr) ?_; clear hS; intro e w hR; (try dsimp only [bfp, BS.cells] at hR); obtain ⟨rfl, hS⟩ := hR; refine ⟨_, rfl, ?_⟩; refine XX 1 hS rfl (Xn (Xr ?_)); exact X1 rfl rfl ⟨rfl, hS⟩
end
end Go.Proofs
end

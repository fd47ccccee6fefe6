/-
  Steps on the way to the cards of laws.FnFetched and laws.FnFetchedWhole; the conditions of each are the hypotheses that it names. In order:
  WALKS (printed by wx.py from Hk.px): textproto.matchAfterPrefix, scanUntilBoundary.
  PLAIN: what scanUntilBoundary tells of the head of a stream in which the boundary stands.
  WALKS (printed by wx.py from Hl.px): a part of a multipart body is read.
  WALKS (printed by wx.py from Hm.px): names of fields.
-/
import Derived.Test.YtjbbapodcngnaaaGreatDoorV07
set_option linter.all false
section
namespace Go.Proofs
open Go.Eng
def isTerm (c : UInt8) : Bool := c == 32 || c == 9 || c == 13 || c == 10 || c == 45
def matchF (l : List UInt8) (k : Nat) : Int := if l.length = k then 0 else match l[k]? with | some c => if isTerm c then 1 else -1 | none => -1
def scanG (nl l : List UInt8) : Nat × Bool :=
  match idxOf nl l with
    | some i => if matchF (l.drop i) nl.length = -1 then (i + nl.length, false) else (i, decide (matchF (l.drop i) nl.length = 1))
    | none => if hasPre nl l then (0, false) else match lastIdx l 13 l.length with
      | some j => if hasPre nl (l.drop j) then (j, false) else (l.length, false)
      | none => (l.length, false)
/-- textproto.scanUntilBoundary, without an error: how many bytes may be told, and whether the part ends behind them -/
def scanF (nl l : List UInt8) (t0 : Bool) : Nat × Bool :=
  if t0 && hasPre l (nl.drop 2) then (if matchF l (nl.drop 2).length = -1 then ((nl.drop 2).length, false) else (0, decide (matchF l (nl.drop 2).length = 1)))
  else if t0 && hasPre (nl.drop 2) l then (0, false)
  else scanG nl l
theorem matchF_cases (l : List UInt8) (k : Nat) : matchF l k = -1 ∨ matchF l k = 0 ∨ matchF l k = 1 := by
  unfold matchF; split
  · simp
  · split
    · split <;> simp
    · simp
theorem idxOf_le {p : List UInt8} (hp : p ≠ []) : ∀ {l : List UInt8} {i : Nat}, idxOf p l = some i → i + p.length ≤ l.length ∧ hasPre (l.drop i) p = true
  | [], i, h => by simp [idxOf, hp] at h
  | x :: l, i, h => by
    unfold idxOf at h; split at h
    · rename_i h2; obtain rfl := Option.some.inj h; obtain ⟨q, hq⟩ := hasPre_iff.1 h2; refine ⟨?_, h2⟩; rw [hq]; simp
    · cases hh : idxOf p l with
      | none => rw [hh] at h; cases h
      | some j =>
        rw [hh] at h; obtain rfl := Option.some.inj h; obtain ⟨h3, h4⟩ := idxOf_le hp hh; exact ⟨by simp; omega, h4⟩
theorem lastIdx_lt {l : List UInt8} {d : UInt8} : ∀ {k j : Nat}, lastIdx l d k = some j → j < k ∧ l[j]? = some d
  | 0, j, h => by cases h
  | k + 1, j, h => by
    unfold lastIdx at h; split at h
    · rename_i h2; obtain rfl := Option.some.inj h; exact ⟨by omega, h2⟩
    · have := lastIdx_lt h; exact ⟨by omega, this.2⟩
section
variable {W w : World} {g : Gl W} {s : List SL}
/-- textproto.matchAfterPrefix, no error yet -/
theorem c204 {b1 o1 n1 k1 n2 k2 : Nat} {p2 : Option Addr} {c1 l1 : List UInt8} (hS : St W s w) [q1 : HasBys s 5 b1 c1] (h1 : RowIs c1 o1 n1 l1) (hle : n2 ≤ n1) :
    Calls Tryz.prog 204 #[.slice (some ⟨b1, o1, none⟩) n1 k1, .slice p2 n2 k2, .nilIface] w fun e w' => e = .returned (.int .i64 (matchF l1 n2)) ∧ St W s w' := by
  have e1 := h1.len; refine fn_calls (args := [.slice (some ⟨b1, o1, none⟩) n1 k1, .slice p2 n2 k2, .nilIface]) Tryz.func204 rfl rfl rfl ?_; refine Xs (Xg (XX 1 hS rfl (Xn (Xs (Xs ?_))))); rcases Nat.eq_or_lt_of_le hle with hf | hf
  · refine Xg (XX 1 hS rfl (XR hS (rLen rfl) rfl (XX 1 hS rfl (XR hS (rLen rfl) rfl (XR hS (rCmp rfl rfl (cmp_eqlT (by omega))) rfl ?_))))); refine Xn (Xt rfl (Xs (Xs (Xg (XX 1 hS rfl (XR hS (rNilNilN rfl) rfl (Xn (Xf rfl (Xk (Xs (Xg (XX 1 hS rfl (Xn (Xr ?_)))))))))))))); refine X1 rfl rfl ⟨?_, hS⟩; rw [show matchF l1 n2 = 0 by unfold matchF; rw [if_pos (by omega)]]
  · obtain ⟨c, hc⟩ : ∃ c, l1[n2]? = some c := ⟨_, List.getElem?_eq_getElem (by omega)⟩; have hm : matchF l1 n2 = if isTerm c then 1 else -1 := by unfold matchF; rw [if_neg (by omega), hc]
    intro a hE; rw [hm]; revert a; refine Xg (XX 1 hS rfl (XR hS (rLen rfl) rfl (XX 1 hS rfl (XR hS (rLen rfl) rfl (XR hS (rCmp rfl rfl (cmp_eqlF (by omega))) rfl ?_))))); refine Xn (Xf rfl (Xk (Xs (Xg (XX 2 hS rfl (XR hS (rLen rfl) rfl (XR hS (rIdxA1 rfl rfl (by omega)) rfl ?_))))))); refine XR hS (rLoadB rfl (h1.at hc)) rfl (XX 1 hS rfl (Xn (Xs (Xs ?_)))); intro a hE; cases g1 : (c == 32) with
    | true =>
      revert a; refine Xg (XX 1 hS rfl (XR hS (rB8 (d := 32) rfl rfl g1) rfl (XX 16 hS rfl (Xn (Xt rfl (Xs (Xg (XX 1 hS rfl (Xn (Xr ?_)))))))))); exact X1 rfl rfl ⟨by simp [isTerm, g1], hS⟩
    | false =>
      cases g2 : (c == 9) with
      | true =>
        revert a; refine Xg (XX 1 hS rfl (XR hS (rB8 (d := 32) rfl rfl g1) rfl (XX 16 hS rfl (XA rfl rfl (XR hS (rB8 (d := 9) rfl rfl g2) rfl (XX 13 hS rfl (Xn (Xt rfl (Xs (Xg (XX 1 hS rfl (Xn (Xr ?_))))))))))))); exact X1 rfl rfl ⟨by simp [isTerm, g1, g2], hS⟩
      | false =>
        cases g3 : (c == 13) with
        | true =>
          revert a; refine Xg (XX 1 hS rfl (XR hS (rB8 (d := 32) rfl rfl g1) rfl (XX 16 hS rfl (XA rfl rfl (XR hS (rB8 (d := 9) rfl rfl g2) rfl (XX 13 hS rfl (XA rfl rfl (XR hS (rB8 (d := 13) rfl rfl g3) rfl (XX 9 hS rfl (Xn (Xt rfl (Xs (Xg (XX 1 hS rfl ?_)))))))))))))); refine Xn (Xr ?_); exact X1 rfl rfl ⟨by simp [isTerm, g1, g2, g3], hS⟩
        | false =>
          cases g4 : (c == 10) with
          | true =>
            revert a; refine Xg (XX 1 hS rfl (XR hS (rB8 (d := 32) rfl rfl g1) rfl (XX 16 hS rfl (XA rfl rfl (XR hS (rB8 (d := 9) rfl rfl g2) rfl (XX 13 hS rfl (XA rfl rfl (XR hS (rB8 (d := 13) rfl rfl g3) rfl (XX 9 hS rfl (XA rfl rfl (XR hS (rB8 (d := 10) rfl rfl g4) rfl (XX 5 hS rfl (Xn (Xt rfl ?_)))))))))))))); refine Xs (Xg (XX 1 hS rfl (Xn (Xr ?_)))); exact X1 rfl rfl ⟨by simp [isTerm, g1, g2, g3, g4], hS⟩
          | false =>
            cases g5 : (c == 45) with
            | true =>
              revert a; refine Xg (XX 1 hS rfl (XR hS (rB8 (d := 32) rfl rfl g1) rfl (XX 16 hS rfl (XA rfl rfl (XR hS (rB8 (d := 9) rfl rfl g2) rfl (XX 13 hS rfl (XA rfl rfl (XR hS (rB8 (d := 13) rfl rfl g3) rfl (XX 9 hS rfl (XA rfl rfl (XR hS (rB8 (d := 10) rfl rfl g4) rfl (XX 5 hS rfl (XA rfl rfl (XR hS (rB8 (d := 45) rfl rfl g5) rfl ?_)))))))))))))); refine XX 1 hS rfl (Xn (Xt rfl (Xs (Xg (XX 1 hS rfl (Xn (Xr ?_))))))); exact X1 rfl rfl ⟨by simp [isTerm, g1, g2, g3, g4, g5], hS⟩
            | false =>
              revert a; refine Xg (XX 1 hS rfl (XR hS (rB8 (d := 32) rfl rfl g1) rfl (XX 16 hS rfl (XA rfl rfl (XR hS (rB8 (d := 9) rfl rfl g2) rfl (XX 13 hS rfl (XA rfl rfl (XR hS (rB8 (d := 13) rfl rfl g3) rfl (XX 9 hS rfl (XA rfl rfl (XR hS (rB8 (d := 10) rfl rfl g4) rfl (XX 5 hS rfl (XA rfl rfl (XR hS (rB8 (d := 45) rfl rfl g5) rfl ?_)))))))))))))); refine XX 1 hS rfl (Xn (Xf rfl (Xk (Xs (Xg (XX 1 hS rfl (Xn (Xr ?_)))))))); exact X1 rfl rfl ⟨by simp [isTerm, g1, g2, g3, g4, g5], hS⟩
/-- textproto.scanUntilBoundary, no error yet -/
theorem c203 {b1 o1 n1 k1 b2 n k kd n2 tot : Nat} {c1 bd l1 nl : List UInt8} (hS : St W s w) [q0 : HasOld s W] [q1 : HasBys s 5 b1 c1] [q2 : HasBys s 5 b2 bd] (h1 : RowIs c1 o1 n1 l1) (hk1 : n1 ≤ k1) (h2 : RowIs bd 0 n nl) (hnk : n ≤ k)
    (hn2 : 2 < n) (h13 : nl[0]? = some 13) (hmy : n1 + n ≤ 4294967296) (htot : tot ≤ 1073741824) (hkd : n2 = n - 2) (hkd2 : n2 ≤ kd) :
    Calls Tryz.prog 203 #[.slice (some ⟨b1, o1, none⟩) n1 k1, .slice (some ⟨b2, 2, none⟩) n2 kd, .slice (some ⟨b2, 0, none⟩) n k, .int .i64 (tot : Int), .nilIface] w fun e w' => e = .returned (.tuple #[.int .i64 ((scanF nl l1 (decide (tot = 0))).1 : Int), erv g (scanF nl l1 (decide (tot = 0))).2]) ∧ St W s w' := by
  have hd2 : RowIs bd 2 n2 (nl.drop 2) := by
    have := h2.sub (i := 2) (cap := n) (by omega) (Nat.le_refl _); rw [slo_lt (by omega)] at this; subst hkd; exact this
  have e1 := h1.len; have e2 := h2.len; refine fn_calls (args := [.slice (some ⟨b1, o1, none⟩) n1 k1, .slice (some ⟨b2, 2, none⟩) n2 kd, .slice (some ⟨b2, 0, none⟩) n k, .int .i64 (tot : Int), .nilIface]) Tryz.func203 rfl rfl rfl ?_; refine Xs (Xg (XX 2 hS rfl (Xn ?_))); intro a hE; refine cw_seqj (fun a w => Env Tryz.f203.ntmps (envL [(0, .slice (some ⟨b1, o1, none⟩) n1 k1), (1, .slice (some ⟨b2, 2, none⟩) n2 kd), (2, .slice (some ⟨b2, 0, none⟩) n k), (3, .int .i64 (tot : Int)), (4, .nilIface)]) a ∧ scanF nl l1 (decide (tot = 0)) = scanG nl l1 ∧ St W s w) ?_ ?_; refine cw_seq ?_
  · rcases Nat.eq_zero_or_pos tot with h0 | h0
    · subst h0; cases g1 : hasPre l1 (nl.drop 2) with
      | true =>
        have hle1 : n2 ≤ n1 := by
          obtain ⟨q, hq⟩ := hasPre_iff.1 g1; have := congrArg List.length hq; simp at this; omega
        have hr : scanF nl l1 (decide (0 = 0)) = if matchF l1 n2 = -1 then (n2, false) else (0, decide (matchF l1 n2 = 1)) := by
          unfold scanF; rw [g1, hd2.len]; rfl
        rw [hr]; rcases matchF_cases l1 n2 with g7 | g7 | g7
        · rw [g7]; revert a; refine Xg (XX 1 hS rfl (XR hS (rCmp rfl rfl (cmp_eqlT (by omega))) rfl ?_)); refine Xn (Xt rfl (Xs (Xs (Xg (XX 2 hS rfl ?_))))); refine XC hS (gCall rfl) rfl (c105 (q1 := q1) (q2 := q2) hS h1 hk1 hd2 g1) ?_; clear hS; intro e w hR; (try dsimp only [bfp, BS.cells, oint] at hR); obtain ⟨rfl, hS⟩ := hR; refine ⟨_, rfl, ?_⟩; refine Xn (Xt rfl (Xs (Xg (XX 3 hS rfl ?_)))); refine XC hS (gCall rfl) rfl (c204 (q1 := q1) hS h1 hle1) ?_; clear hS; intro e w hR; (try dsimp only [bfp, BS.cells, oint] at hR); obtain ⟨rfl, hS⟩ := hR; refine ⟨_, rfl, ?_⟩; refine Xn (Xb (Xs ?_)); intro a hE; rw [g7] at hE; revert a; refine Xg (XR hS (rCmp rfl rfl (cmp_eqlT (by omega))) rfl ?_); refine XX 1 hS rfl (Xn (Xt rfl (Xs (Xg (XX 1 hS rfl (XR hS (rLen rfl) rfl (XX 2 hS rfl (Xn (Xr ?_))))))))); exact X2 rfl rfl rfl ⟨rfl, hS⟩
        · rw [g7]; revert a; refine Xg (XX 1 hS rfl (XR hS (rCmp rfl rfl (cmp_eqlT (by omega))) rfl ?_)); refine Xn (Xt rfl (Xs (Xs (Xg (XX 2 hS rfl ?_))))); refine XC hS (gCall rfl) rfl (c105 (q1 := q1) (q2 := q2) hS h1 hk1 hd2 g1) ?_; clear hS; intro e w hR; (try dsimp only [bfp, BS.cells, oint] at hR); obtain ⟨rfl, hS⟩ := hR; refine ⟨_, rfl, ?_⟩; refine Xn (Xt rfl (Xs (Xg (XX 3 hS rfl ?_)))); refine XC hS (gCall rfl) rfl (c204 (q1 := q1) hS h1 hle1) ?_; clear hS; intro e w hR; (try dsimp only [bfp, BS.cells, oint] at hR); obtain ⟨rfl, hS⟩ := hR; refine ⟨_, rfl, ?_⟩; refine Xn (Xb (Xs ?_)); intro a hE; rw [g7] at hE; revert a; refine Xg (XR hS (rCmp rfl rfl (cmp_eqlF (by omega))) rfl ?_); refine XX 1 hS rfl (Xn (Xf rfl (Xs (Xg (XR hS (rCmp rfl rfl (cmp_eqlT (by omega))) rfl ?_))))); refine XX 1 hS rfl (Xn (Xt rfl (Xs (Xg (XX 2 hS rfl (Xn (Xr ?_))))))); exact X2 rfl rfl rfl ⟨rfl, hS⟩
        · rw [g7]; revert a; refine Xg (XX 1 hS rfl (XR hS (rCmp rfl rfl (cmp_eqlT (by omega))) rfl ?_)); refine Xn (Xt rfl (Xs (Xs (Xg (XX 2 hS rfl ?_))))); refine XC hS (gCall rfl) rfl (c105 (q1 := q1) (q2 := q2) hS h1 hk1 hd2 g1) ?_; clear hS; intro e w hR; (try dsimp only [bfp, BS.cells, oint] at hR); obtain ⟨rfl, hS⟩ := hR; refine ⟨_, rfl, ?_⟩; refine Xn (Xt rfl (Xs (Xg (XX 3 hS rfl ?_)))); refine XC hS (gCall rfl) rfl (c204 (q1 := q1) hS h1 hle1) ?_; clear hS; intro e w hR; (try dsimp only [bfp, BS.cells, oint] at hR); obtain ⟨rfl, hS⟩ := hR; refine ⟨_, rfl, ?_⟩; refine Xn (Xb (Xs ?_)); intro a hE; rw [g7] at hE; revert a; refine Xg (XR hS (rCmp rfl rfl (cmp_eqlF (by omega))) rfl ?_); refine XX 1 hS rfl (Xn (Xf rfl (Xs (Xg (XR hS (rCmp rfl rfl (cmp_eqlF (by omega))) rfl ?_))))); refine XX 1 hS rfl (Xn (Xf rfl (Xs (Xg (XR hS (rCmp rfl rfl (cmp_eqlT (by omega))) rfl ?_)))))
          refine XX 1 hS rfl (Xn (Xt rfl (Xs ?_))); refine Xd [.s, .s, .s] mixed (by kernel_rfl) hS ?_; clear hS; intro w hS; refine XS (rLoadO rfl g.g1) rfl (XS (rAssign rfl) rfl (XS (rAssign rfl) rfl (Xn (Xr ?_)))); exact X2 rfl rfl rfl ⟨rfl, hS⟩
      | false =>
        cases g2 : hasPre (nl.drop 2) l1 with
        | true =>
          have hr : scanF nl l1 (decide (0 = 0)) = (0, false) := by unfold scanF; rw [g1, g2]; rfl
          rw [hr]; revert a; refine Xg (XX 1 hS rfl (XR hS (rCmp rfl rfl (cmp_eqlT (by omega))) rfl ?_)); refine Xn (Xt rfl (Xs (Xs (Xg (XX 2 hS rfl ?_))))); refine XC hS (gCall rfl) rfl (c105 (q1 := q1) (q2 := q2) hS h1 hk1 hd2 g1) ?_; clear hS; intro e w hR; (try dsimp only [bfp, BS.cells, oint] at hR); obtain ⟨rfl, hS⟩ := hR; refine ⟨_, rfl, ?_⟩; refine Xn (Xf rfl (Xk (Xs (Xg (XX 2 hS rfl ?_))))); refine XC hS (gCall rfl) rfl (c105 (q1 := q2) (q2 := q1) hS hd2 hkd2 h1 g2) ?_; clear hS; intro e w hR; (try dsimp only [bfp, BS.cells, oint] at hR); obtain ⟨rfl, hS⟩ := hR; refine ⟨_, rfl, ?_⟩; refine Xn (Xt rfl (Xs (Xg (XX 3 hS rfl (Xn (Xr ?_)))))); exact X2 rfl rfl rfl ⟨rfl, hS⟩
        | false =>
          revert a; refine Xg (XX 1 hS rfl (XR hS (rCmp rfl rfl (cmp_eqlT (by omega))) rfl ?_)); refine Xn (Xt rfl (Xs (Xs (Xg (XX 2 hS rfl ?_))))); refine XC hS (gCall rfl) rfl (c105 (q1 := q1) (q2 := q2) hS h1 hk1 hd2 g1) ?_; clear hS; intro e w hR; (try dsimp only [bfp, BS.cells, oint] at hR); obtain ⟨rfl, hS⟩ := hR; refine ⟨_, rfl, ?_⟩; refine Xn (Xf rfl (Xk (Xs (Xg (XX 2 hS rfl ?_))))); refine XC hS (gCall rfl) rfl (c105 (q1 := q2) (q2 := q1) hS hd2 hkd2 h1 g2) ?_; clear hS; intro e w hR; (try dsimp only [bfp, BS.cells, oint] at hR); obtain ⟨rfl, hS⟩ := hR; refine ⟨_, rfl, ?_⟩; refine Xn (Xf rfl (Xk ?_)); intro a hE; exact ⟨hE.cut ⟨rfl, rfl, rfl, rfl, rfl, trivial⟩, by unfold scanF; rw [g1, g2]; rfl, hS⟩
    · revert a; refine Xg (XX 1 hS rfl (XR hS (rCmp rfl rfl (cmp_eqlF (by omega))) rfl ?_)); refine Xn (Xf rfl (Xk ?_)); intro a hE; exact ⟨hE.cut ⟨rfl, rfl, rfl, rfl, rfl, trivial⟩, by unfold scanF; rw [show decide (tot = 0) = false by simp; omega]; rfl, hS⟩
  · rintro a w ⟨hE, hr, hS⟩; rw [hr]; cases g3 : idxOf nl l1 with
    | some i =>
      obtain ⟨f1, f2⟩ := idxOf_le (by intro e; subst e; simp at e2; omega) g3; have hsub := h1.sub (i := i) (by omega) hk1; have hle2 : n ≤ n1 - i := by omega
      have hr : scanG nl l1 = if matchF (l1.drop i) n = -1 then (i + n, false) else (i, decide (matchF (l1.drop i) n = 1)) := by
        unfold scanG; rw [g3, ← e2]
      rw [hr]; rcases matchF_cases (l1.drop i) n with g7 | g7 | g7
      · rw [g7]; revert a; refine Xs (Xs (Xg (XX 2 hS rfl ?_))); refine XC hS (gCall rfl) rfl (c205 (q1 := q1) (q2 := q2) hS h1 hk1 h2 (by omega) (by omega) g3) ?_; clear hS; intro e w hR; (try dsimp only [bfp, BS.cells, oint] at hR); obtain ⟨rfl, hS⟩ := hR; refine ⟨_, rfl, ?_⟩; refine XX 1 hS rfl (Xn (Xs (Xg (XX 1 hS rfl (XR hS (rCmp rfl rfl (cmp_geqT (by omega))) rfl ?_))))); refine Xn (Xt rfl (Xs (Xg (XX 2 hS rfl (XR hS (rSlc1 rfl rfl (by omega)) rfl ?_))))); refine XX 2 hS rfl ?_; refine XC hS (gCall rfl) rfl (c204 (q1 := q1) hS hsub hle2) ?_; clear hS; intro e w hR; (try dsimp only [bfp, BS.cells, oint] at hR); obtain ⟨rfl, hS⟩ := hR; refine ⟨_, rfl, ?_⟩; refine Xn (Xb (Xs ?_)); intro a hE; rw [g7] at hE; revert a; refine Xg (XR hS (rCmp rfl rfl (cmp_eqlT (by omega))) rfl ?_)
        refine XX 1 hS rfl (Xn (Xt rfl (Xs (Xg (XX 2 hS rfl (XR hS (rLen rfl) rfl (XR hS (rAddN rfl rfl (by first | omega | (simp <;> omega)) rfl) rfl ?_))))))); refine XX 2 hS rfl (Xn (Xr ?_)); exact X2 rfl rfl rfl ⟨rfl, hS⟩
      · rw [g7]; revert a; refine Xs (Xs (Xg (XX 2 hS rfl ?_))); refine XC hS (gCall rfl) rfl (c205 (q1 := q1) (q2 := q2) hS h1 hk1 h2 (by omega) (by omega) g3) ?_; clear hS; intro e w hR; (try dsimp only [bfp, BS.cells, oint] at hR); obtain ⟨rfl, hS⟩ := hR; refine ⟨_, rfl, ?_⟩; refine XX 1 hS rfl (Xn (Xs (Xg (XX 1 hS rfl (XR hS (rCmp rfl rfl (cmp_geqT (by omega))) rfl ?_))))); refine Xn (Xt rfl (Xs (Xg (XX 2 hS rfl (XR hS (rSlc1 rfl rfl (by omega)) rfl ?_))))); refine XX 2 hS rfl ?_; refine XC hS (gCall rfl) rfl (c204 (q1 := q1) hS hsub hle2) ?_; clear hS; intro e w hR; (try dsimp only [bfp, BS.cells, oint] at hR); obtain ⟨rfl, hS⟩ := hR; refine ⟨_, rfl, ?_⟩; refine Xn (Xb (Xs ?_)); intro a hE; rw [g7] at hE; revert a; refine Xg (XR hS (rCmp rfl rfl (cmp_eqlF (by omega))) rfl ?_); refine XX 1 hS rfl (Xn (Xf rfl (Xs (Xg (XR hS (rCmp rfl rfl (cmp_eqlT (by omega))) rfl ?_)))))
        refine XX 1 hS rfl (Xn (Xt rfl (Xs (Xg (XX 3 hS rfl (Xn (Xr ?_))))))); exact X2 rfl rfl rfl ⟨rfl, hS⟩
      · rw [g7]; revert a; refine Xs (Xs (Xg (XX 2 hS rfl ?_))); refine XC hS (gCall rfl) rfl (c205 (q1 := q1) (q2 := q2) hS h1 hk1 h2 (by omega) (by omega) g3) ?_; clear hS; intro e w hR; (try dsimp only [bfp, BS.cells, oint] at hR); obtain ⟨rfl, hS⟩ := hR; refine ⟨_, rfl, ?_⟩; refine XX 1 hS rfl (Xn (Xs (Xg (XX 1 hS rfl (XR hS (rCmp rfl rfl (cmp_geqT (by omega))) rfl ?_))))); refine Xn (Xt rfl (Xs (Xg (XX 2 hS rfl (XR hS (rSlc1 rfl rfl (by omega)) rfl ?_))))); refine XX 2 hS rfl ?_; refine XC hS (gCall rfl) rfl (c204 (q1 := q1) hS hsub hle2) ?_; clear hS; intro e w hR; (try dsimp only [bfp, BS.cells, oint] at hR); obtain ⟨rfl, hS⟩ := hR; refine ⟨_, rfl, ?_⟩; refine Xn (Xb (Xs ?_)); intro a hE; rw [g7] at hE; revert a; refine Xg (XR hS (rCmp rfl rfl (cmp_eqlF (by omega))) rfl ?_); refine XX 1 hS rfl (Xn (Xf rfl (Xs (Xg (XR hS (rCmp rfl rfl (cmp_eqlF (by omega))) rfl ?_)))))
        refine XX 1 hS rfl (Xn (Xf rfl (Xs (Xg (XR hS (rCmp rfl rfl (cmp_eqlT (by omega))) rfl ?_))))); refine XX 1 hS rfl (Xn (Xt rfl (Xs ?_))); refine Xd [.s, .s, .s, .s] mixed (by kernel_rfl) hS ?_; clear hS; intro w hS; refine XS (rMove rfl) rfl (XS (rLoadO rfl g.g1) rfl (XS (rAssign rfl) rfl (XS (rAssign rfl) rfl (Xn (Xr ?_))))); exact X2 rfl rfl rfl ⟨rfl, hS⟩
    | none =>
      cases g4 : hasPre nl l1 with
      | true =>
        have hr : scanG nl l1 = (0, false) := by unfold scanG; rw [g3]; simp only [g4]; rfl
        rw [hr]; revert a; refine Xs (Xs (Xg (XX 2 hS rfl ?_))); refine XC hS (gCall rfl) rfl (c205 (q1 := q1) (q2 := q2) hS h1 hk1 h2 (by omega) (by omega) g3) ?_; clear hS; intro e w hR; (try dsimp only [bfp, BS.cells, oint] at hR); obtain ⟨rfl, hS⟩ := hR; refine ⟨_, rfl, ?_⟩; refine XX 1 hS rfl (Xn (Xs (Xg (XX 1 hS rfl (XR hS (rCmp rfl rfl (cmp_geqF (by omega))) rfl ?_))))); refine Xn (Xf rfl (Xk (Xs (Xs (Xg (XX 2 hS rfl ?_)))))); refine XC hS (gCall rfl) rfl (c105 (q1 := q2) (q2 := q1) hS h2 hnk h1 g4) ?_; clear hS; intro e w hR; (try dsimp only [bfp, BS.cells, oint] at hR); obtain ⟨rfl, hS⟩ := hR; refine ⟨_, rfl, ?_⟩; refine Xn (Xt rfl (Xs (Xg (XX 3 hS rfl (Xn (Xr ?_)))))); exact X2 rfl rfl rfl ⟨rfl, hS⟩
      | false =>
        cases g5 : lastIdx l1 13 l1.length with
        | none =>
          have hr : scanG nl l1 = (l1.length, false) := by unfold scanG; rw [g3]; simp only [g4, g5]; rfl
          rw [hr, e1]; revert a; refine Xs (Xs (Xg (XX 2 hS rfl ?_))); refine XC hS (gCall rfl) rfl (c205 (q1 := q1) (q2 := q2) hS h1 hk1 h2 (by omega) (by omega) g3) ?_; clear hS; intro e w hR; (try dsimp only [bfp, BS.cells, oint] at hR); obtain ⟨rfl, hS⟩ := hR; refine ⟨_, rfl, ?_⟩; refine XX 1 hS rfl (Xn (Xs (Xg (XX 1 hS rfl (XR hS (rCmp rfl rfl (cmp_geqF (by omega))) rfl ?_))))); refine Xn (Xf rfl (Xk (Xs (Xs (Xg (XX 2 hS rfl ?_)))))); refine XC hS (gCall rfl) rfl (c105 (q1 := q2) (q2 := q1) hS h2 hnk h1 g4) ?_; clear hS; intro e w hR; (try dsimp only [bfp, BS.cells, oint] at hR); obtain ⟨rfl, hS⟩ := hR; refine ⟨_, rfl, ?_⟩; refine Xn (Xf rfl (Xk (Xs (Xg (XX 2 hS rfl (XR hS (rIdxA1 (i := 0) rfl rfl (by omega)) rfl ?_)))))); refine XR hS (rLoadB rfl (by rw [Nat.zero_add]; exact (by have := h2.at h13; rwa [Nat.zero_add] at this))) rfl ?_
          refine XC hS (gCall rfl) rfl (c206 (d := 13) (q1 := q1) hS h1 (by omega) g5) ?_; clear hS; intro e w hR; (try dsimp only [bfp, BS.cells, oint] at hR); obtain ⟨rfl, hS⟩ := hR; refine ⟨_, rfl, ?_⟩; refine XX 1 hS rfl (Xn (Xs (Xs (Xg (XX 1 hS rfl (XR hS (rCmp rfl rfl (cmp_geqF (by omega))) rfl ?_)))))); refine XX 7 hS rfl (Xn (Xf rfl (Xk (Xs (Xg (XX 1 hS rfl (XR hS (rLen rfl) rfl (XX 3 hS rfl (Xn (Xr ?_)))))))))); exact X2 rfl rfl rfl ⟨rfl, hS⟩
        | some j =>
          have hj := (lastIdx_lt g5).1; have hsub := h1.sub (i := j) (by omega) hk1; cases g6 : hasPre nl (l1.drop j) with
          | true =>
            have hr : scanG nl l1 = (j, false) := by unfold scanG; rw [g3]; simp only [g4, g5, g6]; rfl
            rw [hr]; revert a; refine Xs (Xs (Xg (XX 2 hS rfl ?_))); refine XC hS (gCall rfl) rfl (c205 (q1 := q1) (q2 := q2) hS h1 hk1 h2 (by omega) (by omega) g3) ?_; clear hS; intro e w hR; (try dsimp only [bfp, BS.cells, oint] at hR); obtain ⟨rfl, hS⟩ := hR; refine ⟨_, rfl, ?_⟩; refine XX 1 hS rfl (Xn (Xs (Xg (XX 1 hS rfl (XR hS (rCmp rfl rfl (cmp_geqF (by omega))) rfl ?_))))); refine Xn (Xf rfl (Xk (Xs (Xs (Xg (XX 2 hS rfl ?_)))))); refine XC hS (gCall rfl) rfl (c105 (q1 := q2) (q2 := q1) hS h2 hnk h1 g4) ?_; clear hS; intro e w hR; (try dsimp only [bfp, BS.cells, oint] at hR); obtain ⟨rfl, hS⟩ := hR; refine ⟨_, rfl, ?_⟩; refine Xn (Xf rfl (Xk (Xs (Xg (XX 2 hS rfl (XR hS (rIdxA1 (i := 0) rfl rfl (by omega)) rfl ?_)))))); refine XR hS (rLoadB rfl (by rw [Nat.zero_add]; exact (by have := h2.at h13; rwa [Nat.zero_add] at this))) rfl ?_
            refine XC hS (gCall rfl) rfl (c206 (d := 13) (q1 := q1) hS h1 (by omega) g5) ?_; clear hS; intro e w hR; (try dsimp only [bfp, BS.cells, oint] at hR); obtain ⟨rfl, hS⟩ := hR; refine ⟨_, rfl, ?_⟩; refine XX 1 hS rfl (Xn (Xs (Xs (Xg (XX 1 hS rfl (XR hS (rCmp rfl rfl (cmp_geqT (by omega))) rfl ?_)))))); refine XX 7 hS rfl (XA rfl rfl (XR hS (rSlc1 rfl rfl (by omega)) rfl ?_)); refine XX 2 hS rfl (XA rfl rfl ?_); refine XC hS (gCall rfl) rfl (c105 (q1 := q2) (q2 := q1) hS h2 hnk hsub g6) ?_; clear hS; intro e w hR; (try dsimp only [bfp, BS.cells, oint] at hR); obtain ⟨rfl, hS⟩ := hR; refine ⟨_, rfl, ?_⟩; refine XX 1 hS rfl (Xn (Xt rfl (Xs (Xg (XX 3 hS rfl (Xn (Xr ?_))))))); exact X2 rfl rfl rfl ⟨rfl, hS⟩
          | false =>
            have hr : scanG nl l1 = (l1.length, false) := by unfold scanG; rw [g3]; simp only [g4, g5, g6]; rfl
            rw [hr, e1]; revert a; refine Xs (Xs (Xg (XX 2 hS rfl ?_))); refine XC hS (gCall rfl) rfl (c205 (q1 := q1) (q2 := q2) hS h1 hk1 h2 (by omega) (by omega) g3) ?_; clear hS; intro e w hR; (try dsimp only [bfp, BS.cells, oint] at hR); obtain ⟨rfl, hS⟩ := hR; refine ⟨_, rfl, ?_⟩; refine XX 1 hS rfl (Xn (Xs (Xg (XX 1 hS rfl (XR hS (rCmp rfl rfl (cmp_geqF (by omega))) rfl ?_))))); refine Xn (Xf rfl (Xk (Xs (Xs (Xg (XX 2 hS rfl ?_)))))); refine XC hS (gCall rfl) rfl (c105 (q1 := q2) (q2 := q1) hS h2 hnk h1 g4) ?_; clear hS; intro e w hR; (try dsimp only [bfp, BS.cells, oint] at hR); obtain ⟨rfl, hS⟩ := hR; refine ⟨_, rfl, ?_⟩; refine Xn (Xf rfl (Xk (Xs (Xg (XX 2 hS rfl (XR hS (rIdxA1 (i := 0) rfl rfl (by omega)) rfl ?_)))))); refine XR hS (rLoadB rfl (by rw [Nat.zero_add]; exact (by have := h2.at h13; rwa [Nat.zero_add] at this))) rfl ?_
            refine XC hS (gCall rfl) rfl (c206 (d := 13) (q1 := q1) hS h1 (by omega) g5) ?_; clear hS; intro e w hR; (try dsimp only [bfp, BS.cells, oint] at hR); obtain ⟨rfl, hS⟩ := hR; refine ⟨_, rfl, ?_⟩; refine XX 1 hS rfl (Xn (Xs (Xs (Xg (XX 1 hS rfl (XR hS (rCmp rfl rfl (cmp_geqT (by omega))) rfl ?_)))))); refine XX 7 hS rfl (XA rfl rfl (XR hS (rSlc1 rfl rfl (by omega)) rfl ?_)); refine XX 2 hS rfl (XA rfl rfl ?_); refine XC hS (gCall rfl) rfl (c105 (q1 := q2) (q2 := q1) hS h2 hnk hsub g6) ?_; clear hS; intro e w hR; (try dsimp only [bfp, BS.cells, oint] at hR); obtain ⟨rfl, hS⟩ := hR; refine ⟨_, rfl, ?_⟩; refine XX 1 hS rfl (Xn (Xf rfl (Xk (Xs (Xg (XX 1 hS rfl (XR hS (rLen rfl) rfl (XX 3 hS rfl (Xn (Xr ?_)))))))))); exact X2 rfl rfl rfl ⟨rfl, hS⟩
end
end Go.Proofs
end
section
namespace Go.Proofs
open Go.Eng

/-- a delimiter: CR LF, two hyphens, and no other CR -/
structure IsNl (nl : List UInt8) : Prop where
  two : 2 < nl.length
  cr : nl[0]? = some 13
  no : ∀ i, 0 < i → nl[i]? ≠ some 13
/-- 'rest', before a delimiter and 'aft', holds no delimiter that ends -/
structure Clean (nl rest aft : List UInt8) : Prop where
  term : ∃ x q, aft = x :: q ∧ isTerm x = true
  no : ∀ i, i < rest.length → hasPre ((rest ++ nl ++ aft).drop i) nl = true → ∃ c, (rest ++ nl ++ aft)[i + nl.length]? = some c ∧ isTerm c = false
/-- at the beginning of a part -/
def CleanB (nl rest aft : List UInt8) : Prop := hasPre (rest ++ nl ++ aft) (nl.drop 2) = true → ∃ c, (rest ++ nl ++ aft)[(nl.drop 2).length]? = some c ∧ isTerm c = false

theorem Clean.drop {nl rest aft : List UInt8} (h : Clean nl rest aft) {k : Nat} (hk : k ≤ rest.length) : Clean nl (rest.drop k) aft := by
  have e : rest.drop k ++ nl ++ aft = (rest ++ nl ++ aft).drop k := by rw [List.append_assoc, List.append_assoc, List.drop_append_of_le_length hk]
  refine ⟨h.term, fun i hi hp => ?_⟩
  rw [e] at hp ⊢
  rw [List.drop_drop] at hp
  obtain ⟨c, h1, h2⟩ := h.no (k + i) (by simp at hi; omega) hp
  exact ⟨c, by rw [List.getElem?_drop]; rw [← h1]; congr 1; omega, h2⟩

theorem hasPre_at {l p : List UInt8} (h : hasPre l p = true) {i : Nat} (hi : i < p.length) : l[i]? = p[i]? := by
  obtain ⟨q, rfl⟩ := hasPre_iff.1 h
  rw [List.getElem?_append_left hi]
theorem hasPre_len {l p : List UInt8} (h : hasPre l p = true) : p.length ≤ l.length := by
  obtain ⟨q, rfl⟩ := hasPre_iff.1 h
  simp
theorem hasPre_grow {l p q : List UInt8} (h : hasPre l p = true) : hasPre (l ++ q) p = true := by
  obtain ⟨r, rfl⟩ := hasPre_iff.1 h
  exact hasPre_iff.2 ⟨r ++ q, by simp⟩
theorem hasPre_self (l q : List UInt8) : hasPre (l ++ q) l = true := hasPre_iff.2 ⟨q, rfl⟩
/-- a head of what begins with 'p' begins with 'p', or is a head of 'p' -/
theorem hasPre_head {l q p r : List UInt8} (h : l ++ q = p ++ r) : (p.length ≤ l.length → hasPre l p = true) ∧ (l.length ≤ p.length → hasPre p l = true) := by
  refine ⟨fun hl => ?_, fun hl => ?_⟩
  · rcases List.append_eq_append_iff.1 h with ⟨a, h1, h2⟩ | ⟨a, h1, h2⟩
    · have : a = [] := by have := congrArg List.length h1; simp at this; exact List.length_eq_zero_iff.1 (by omega)
      subst this
      rw [h1]; simp only [List.append_nil]; have := hasPre_self l []; simpa using this
    · rw [h1]; exact hasPre_self p a
  · rcases List.append_eq_append_iff.1 h with ⟨a, h1, h2⟩ | ⟨a, h1, h2⟩
    · rw [h1]; exact hasPre_self l a
    · have : a = [] := by have := congrArg List.length h1; simp at this; exact List.length_eq_zero_iff.1 (by omega)
      subst this
      rw [h1]; simp only [List.append_nil]; have := hasPre_self p []; simpa using this
theorem idxOf_least {p : List UInt8} : ∀ {l : List UInt8} {i j : Nat}, idxOf p l = some i → j < l.length → hasPre (l.drop j) p = true → i ≤ j
  | [], i, j, h, hj, _ => by simp at hj
  | x :: l, i, j, h, hj, hp => by
    unfold idxOf at h
    split at h
    · obtain rfl := Option.some.inj h; omega
    · rename_i h2
      cases j with
      | zero => exact absurd hp (by simpa using h2)
      | succ j =>
        cases hh : idxOf p l with
        | none => rw [hh] at h; cases h
        | some m =>
          rw [hh] at h
          have e : m + 1 = i := Option.some.inj h
          have := idxOf_least hh (by simpa using hj) (by simpa using hp)
          omega
theorem idxOf_none {p : List UInt8} : ∀ {l : List UInt8} {j : Nat}, idxOf p l = none → j < l.length → hasPre (l.drop j) p = false
  | [], j, h, hj => by simp at hj
  | x :: l, j, h, hj => by
    unfold idxOf at h
    split at h
    · cases h
    · rename_i h2
      cases j with
      | zero => simpa using h2
      | succ j =>
        have : idxOf p l = none := by cases hh : idxOf p l with | none => rfl | some m => rw [hh] at h; cases h
        have := idxOf_none this (show j < l.length by simpa using hj)
        simpa using this
theorem lastIdx_none {l : List UInt8} {d : UInt8} : ∀ {k i : Nat}, lastIdx l d k = none → i < k → l[i]? ≠ some d
  | 0, i, _, h => by omega
  | k + 1, i, h, hi => by
    unfold lastIdx at h
    split at h
    · cases h
    · rename_i h2
      rcases Nat.lt_or_ge i k with h3 | h3
      · exact lastIdx_none h h3
      · have : i = k := by omega
        subst this; exact h2
theorem lastIdx_last {l : List UInt8} {d : UInt8} : ∀ {k i j : Nat}, lastIdx l d k = some j → i < k → l[i]? = some d → i ≤ j
  | 0, i, j, _, h, _ => by omega
  | k + 1, i, j, h, hi, hd => by
    unfold lastIdx at h
    split at h
    · obtain rfl := Option.some.inj h; omega
    · rename_i h2
      rcases Nat.lt_or_ge i k with h3 | h3
      · exact lastIdx_last h h3 hd
      · have : i = k := by omega
        subst this; exact absurd hd h2

theorem matchF_eq {l : List UInt8} {k : Nat} (h : l.length = k) : matchF l k = 0 := by unfold matchF; rw [if_pos h]
theorem matchF_term {l : List UInt8} {k : Nat} {c : UInt8} (h : l[k]? = some c) : matchF l k = if isTerm c then 1 else -1 := by
  unfold matchF
  rw [if_neg, h]
  have := (List.getElem?_eq_some_iff.1 h).1
  omega

section
variable {nl rest aft l q : List UInt8}
theorem full_get (hn : IsNl nl) (i : Nat) (hi : i < nl.length) : (rest ++ nl ++ aft)[rest.length + i]? = nl[i]? := by
  rw [List.append_assoc, List.getElem?_append_right (by omega), Nat.add_sub_cancel_left, List.getElem?_append_left hi]
theorem scanG_law (hn : IsNl nl) (hc : Clean nl rest aft) (hl : rest ++ nl ++ aft = l ++ q) :
    (scanG nl l).1 ≤ rest.length ∧ (scanG nl l).1 ≤ l.length ∧ ((scanG nl l).2 = true → (scanG nl l).1 = rest.length) ∧ ((scanG nl l).1 = 0 → (scanG nl l).2 = false → l.length ≤ nl.length) := by
  have hne : nl ≠ [] := by intro e; have := hn.two; rw [e] at this; simp at this
  have hg : ∀ i, i < l.length → l[i]? = (rest ++ nl ++ aft)[i]? := fun i hi => by rw [hl, List.getElem?_append_left hi]
  have hdr : ∀ i, i ≤ l.length → (rest ++ nl ++ aft).drop i = l.drop i ++ q := fun i hi => by rw [hl, List.drop_append_of_le_length hi]
  have hcl : (rest ++ nl ++ aft).drop rest.length = nl ++ aft := by rw [List.append_assoc, List.drop_left]
  obtain ⟨x, r, hx, hxt⟩ := hc.term
  unfold scanG
  cases h1 : idxOf nl l with
  | some i =>
    obtain ⟨h2, h3⟩ := idxOf_le hne h1
    have h3' : hasPre ((rest ++ nl ++ aft).drop i) nl = true := by rw [hdr i (by omega)]; exact hasPre_grow h3
    have hle : i ≤ rest.length := by
      rcases Nat.lt_or_ge rest.length i with h | h
      · refine idxOf_least h1 (by omega) ?_
        have := hdr rest.length (by omega)
        rw [hcl] at this
        exact (hasPre_head this.symm).1 (by simp; omega)
      · exact h
    simp only
    rcases Nat.lt_or_ge i rest.length with hlt | hge
    · obtain ⟨c, hc1, hc2⟩ := hc.no i hlt h3'
      rcases Nat.lt_or_ge (i + nl.length) l.length with h4 | h4
      · have hm : matchF (l.drop i) nl.length = -1 := by
          rw [matchF_term (c := c) (by rw [List.getElem?_drop, hg _ h4]; exact hc1), hc2]; rfl
        rw [hm, if_pos rfl]
        have hin : i + nl.length ≤ rest.length := by
          rcases Nat.lt_or_ge rest.length (i + nl.length) with h | h
          · have h5 := hasPre_at h3' (i := rest.length - i) (by omega)
            rw [List.getElem?_drop, show i + (rest.length - i) = rest.length + 0 by omega, full_get hn 0 (by have := hn.two; omega), hn.cr] at h5
            exact absurd h5.symm (hn.no _ (by omega))
          · exact h
        exact ⟨hin, h2, (fun h => nomatch h), fun h => absurd (show i + nl.length = 0 from h) (by have := hn.two; omega)⟩
      · have hm : matchF (l.drop i) nl.length = 0 := matchF_eq (by simp; omega)
        rw [hm]
        simp only [show ¬ ((0 : Int) = -1) by omega, if_false, show decide ((0 : Int) = 1) = false from rfl]
        exact ⟨hle, by omega, (fun h => nomatch h), fun h _ => by omega⟩
    · have hi : i = rest.length := by omega
      rcases Nat.lt_or_ge (i + nl.length) l.length with h4 | h4
      · have hm : matchF (l.drop i) nl.length = 1 := by
          rw [matchF_term (c := x) (by
            rw [List.getElem?_drop, hg _ h4, hi, List.append_assoc, List.getElem?_append_right (by omega), Nat.add_sub_cancel_left, List.getElem?_append_right (by omega), Nat.sub_self, hx]; rfl), hxt]; rfl
        rw [hm]
        simp only [show ¬ ((1 : Int) = -1) by omega, if_false]
        exact ⟨hle, by omega, fun _ => hi, fun _ h => by simp at h⟩
      · have hm : matchF (l.drop i) nl.length = 0 := matchF_eq (by simp; omega)
        rw [hm]
        simp only [show ¬ ((0 : Int) = -1) by omega, if_false, show decide ((0 : Int) = 1) = false from rfl]
        exact ⟨hle, by omega, (fun h => nomatch h), fun h _ => by omega⟩
  | none =>
    simp only
    have hshort : l.length < rest.length + nl.length := by
      rcases Nat.lt_or_ge l.length (rest.length + nl.length) with h | h
      · exact h
      · have h5 := idxOf_none h1 (j := rest.length) (by have := hn.two; omega)
        have := hdr rest.length (by omega)
        rw [hcl] at this
        rw [(hasPre_head this.symm).1 (by simp; omega)] at h5
        cases h5
    have hpast : ∀ j, j < l.length → l[j]? = some 13 → j ≤ rest.length := fun j hj h13 => by
      rcases Nat.lt_or_ge rest.length j with h | h
      · rw [hg j hj, show j = rest.length + (j - rest.length) by omega, full_get hn _ (by omega)] at h13
        exact absurd h13 (hn.no _ (by omega))
      · exact h
    have hcr : rest.length < l.length → l[rest.length]? = some 13 := fun h => by
      rw [hg _ h]
      have := full_get (rest := rest) (aft := aft) hn 0 (by have := hn.two; omega)
      rw [Nat.add_zero] at this
      rw [this, hn.cr]
    cases h2 : hasPre nl l with
    | true =>
      simp only [if_true]
      exact ⟨by omega, by omega, (fun h => nomatch h), fun _ _ => hasPre_len h2⟩
    | false =>
      simp only [Bool.false_eq_true, if_false]
      cases h3 : lastIdx l 13 l.length with
      | none =>
        have : l.length ≤ rest.length := by
          rcases Nat.lt_or_ge rest.length l.length with h | h
          · exact absurd (hcr h) (lastIdx_none h3 h)
          · exact h
        exact ⟨this, Nat.le_refl _, (fun h => nomatch h), fun h _ => by simp only at h; omega⟩
      | some j =>
        obtain ⟨h4, h5⟩ := lastIdx_lt h3
        simp only
        cases h6 : hasPre nl (l.drop j) with
        | true =>
          simp only [if_true]
          refine ⟨hpast j h4 h5, by omega, (fun h => nomatch h), fun h _ => ?_⟩
          subst h
          rw [List.drop_zero, h2] at h6; cases h6
        | false =>
          simp only [Bool.false_eq_true, if_false]
          have : l.length ≤ rest.length := by
            rcases Nat.lt_or_ge rest.length l.length with h | h
            · have h7 := lastIdx_last h3 h (hcr h)
              have h8 := hpast j h4 h5
              have : j = rest.length := by omega
              subst this
              have h9 := hdr rest.length (by omega)
              rw [hcl] at h9
              rw [(hasPre_head h9.symm).2 (by simp; omega)] at h6
              cases h6
            · exact h
          exact ⟨this, Nat.le_refl _, (fun h => nomatch h), fun h _ => by omega⟩
theorem scanF_law (hn : IsNl nl) (hc : Clean nl rest aft) (hl : rest ++ nl ++ aft = l ++ q) {t0 : Bool} (hb : t0 = true → CleanB nl rest aft) :
    (scanF nl l t0).1 ≤ rest.length ∧ (scanF nl l t0).1 ≤ l.length ∧ ((scanF nl l t0).2 = true → (scanF nl l t0).1 = rest.length) ∧ ((scanF nl l t0).1 = 0 → (scanF nl l t0).2 = false → l.length ≤ nl.length) := by
  have hd : (nl.drop 2).length + 2 = nl.length := by have := hn.two; simp; omega
  have hg : ∀ i, i < l.length → l[i]? = (rest ++ nl ++ aft)[i]? := fun i hi => by rw [hl, List.getElem?_append_left hi]
  unfold scanF
  cases t0 with
  | false => simp only [Bool.false_and, Bool.false_eq_true, if_false]; exact scanG_law hn hc hl
  | true =>
    simp only [Bool.true_and]
    cases h1 : hasPre l (nl.drop 2) with
    | true =>
      simp only [if_true]
      have h2 : hasPre (rest ++ nl ++ aft) (nl.drop 2) = true := by rw [hl]; exact hasPre_grow h1
      obtain ⟨c, hc1, hc2⟩ := hb rfl h2
      rcases Nat.eq_or_lt_of_le (hasPre_len h1) with h3 | h3
      · rw [matchF_eq h3.symm]
        simp only [show ¬ ((0 : Int) = -1) by omega, if_false, show decide ((0 : Int) = 1) = false from rfl]
        exact ⟨by omega, by omega, (fun h => nomatch h), fun _ _ => by omega⟩
      · have hm : matchF l (nl.drop 2).length = -1 := by rw [matchF_term (c := c) (by rw [hg _ h3]; exact hc1), hc2]; rfl
        rw [hm, if_pos rfl]
        refine ⟨?_, by simp only; omega, (fun h => nomatch h), fun h => by have := hn.two; simp only at h; omega⟩
        simp only
        rcases Nat.lt_or_ge rest.length (nl.drop 2).length with h | h
        · have h5 := hasPre_at h2 h
          have := full_get (rest := rest) (aft := aft) hn 0 (by have := hn.two; omega)
          rw [Nat.add_zero] at this
          rw [this, hn.cr, List.getElem?_drop] at h5
          exact absurd h5.symm (hn.no _ (by omega))
        · exact h
    | false =>
      simp only [Bool.false_eq_true, if_false]
      cases h2 : hasPre (nl.drop 2) l with
      | true =>
        simp only [if_true]
        have := hasPre_len h2
        exact ⟨by omega, by omega, (fun h => nomatch h), fun _ _ => by omega⟩
      | false =>
        simp only [Bool.false_eq_true, if_false]
        exact scanG_law hn hc hl
end
end Go.Proofs
end
section
namespace Go.Proofs
open Go.Eng
/-- what of a part, and of its reader, stays the same -/
structure PD where
  p : Nat
  m : Nat
  mb : Nat
  hl : Value
  hm : Value
  cur : Value
  parts : Int
  slNl : Value
  slDD : Value
  N : Nat
  kk : Nat
  kd : Nat
  bd : List UInt8
  nl : List UInt8
structure PD.ok (D : PD) : Prop where
  row : RowIs D.bd 0 D.N D.nl
  nl : IsNl D.nl
  kk : D.N ≤ D.kk
  kd : D.N - 2 ≤ D.kd
  lo : 2 < D.N
  hi : D.N ≤ 200
section
variable {W w : World} {g : Gl W} {S : Src W g} {L : List SL} {b : Nat}
abbrev partC (g : Gl W) (D : PD) (n tot : Nat) (eof : Bool) : List Value := [D.hl, D.hm, ptr D.m 0, .iface 198 (.agg #[ptr D.p 0]), .int .i64 (n : Int), .int .i64 (tot : Int), erv g eof, .nilIface]
abbrev mrC (b : Nat) (D : PD) : List Value := [ptr b 0, D.cur, .int .i64 D.parts, D.slNl, .slice (some ⟨D.mb, 0, none⟩) D.N D.kk, D.slDD, .slice (some ⟨D.mb, 2, none⟩) (D.N - 2) D.kd]
abbrev pst (S : Src W g) (b : Nat) (B : BS) (D : PD) (n tot : Nat) (eof : Bool) (L : List SL) : List SL := bfp S b B (cel D.p (partC g D n tot eof) 105 (0, 0) :: cel D.m (mrC b D) 148 (0, 0) :: bys 5 D.mb D.bd :: L)
structure PInv (B : BS) (D : PD) (rest aft : List UInt8) (n tot : Nat) (eof : Bool) : Prop where
  ok : B.ok
  str : B.str = rest ++ D.nl ++ aft
  nle : n ≤ rest.length
  nhv : n ≤ B.have.length
  fin : eof = true → n = rest.length
  clean : Clean D.nl rest aft
  begin : tot = 0 → CleanB D.nl rest aft
  tot : tot + rest.length ≤ 1073741824
  big : 3000 ≤ B.c.length
theorem c203' {s : List SL} {b1 o1 n1 k1 b2 n k kd n2 tot : Nat} {c1 bd l1 nl : List UInt8} (hS : St W s w) [q0 : HasOld s W] [q1 : HasBys s 5 b1 c1] [q2 : HasBys s 5 b2 bd] (h1 : RowIs c1 o1 n1 l1) (hk1 : n1 ≤ k1) (h2 : RowIs bd 0 n nl) (hnk : n ≤ k)
    (hn2 : 2 < n) (h13 : nl[0]? = some 13) (hmy : n1 + n ≤ 4294967296) (htot : tot ≤ 1073741824) (hkd : n2 = n - 2) (hkd2 : n2 ≤ kd) {rn : Nat} {re : Bool} (hr : scanF nl l1 (decide (tot = 0)) = (rn, re)) :
    Calls Tryz.prog 203 #[.slice (some ⟨b1, o1, none⟩) n1 k1, .slice (some ⟨b2, 2, none⟩) n2 kd, .slice (some ⟨b2, 0, none⟩) n k, .int .i64 (tot : Int), .nilIface] w fun e w' => e = .returned (.tuple #[.int .i64 (rn : Int), erv g re]) ∧ St W s w' := by
  have := c203 (g := g) hS (q0 := q0) (q1 := q1) (q2 := q2) h1 hk1 h2 hnk hn2 h13 hmy htot hkd hkd2; rw [hr] at this; exact this
/-- (partReader).Read -/
theorem c202 {B : BS} {D : PD} {rest aft : List UInt8} {n tot db off m cap : Nat} {eof : Bool} {dc : List UInt8} (hS : St W (pst S b B D n tot eof (bys 5 db dc :: L)) w) (hD : D.ok) (hI : PInv B D rest aft n tot eof) (hm : 0 < m) (hmc : m ≤ cap) (ho : off + m ≤ dc.length) (hdc : dc.length ≤ 9223372036854775807) :
    Calls Tryz.prog 202 #[.agg #[ptr D.p 0], .slice (some ⟨db, off, none⟩) m cap] w fun e w' => ∃ (B' : BS) (n' tot' : Nat) (eof' : Bool) (k : Nat) (dc' : List UInt8) (ef : Bool) (rest' : List UInt8), (e = .returned (.tuple #[.int .i64 (k : Int), erv g ef]) ∧ k ≤ m ∧ dc'.length = dc.length ∧ dc'.take off = dc.take off ∧
      rest = (dc'.drop off).take k ++ rest' ∧ (ef = true → rest' = []) ∧ (k = 0 → ef = true) ∧ PInv B' D rest' aft n' tot' eof') ∧ St W (pst S b B' D n' tot' eof' (bys 5 db dc' :: L)) w' := by
  have hNl := hD.row.len; obtain ⟨tx, tq, haft, htx⟩ := hI.clean.term; refine fn_calls (args := [.agg #[ptr D.p 0], .slice (some ⟨db, off, none⟩) m cap]) Tryz.func202 rfl rfl rfl ?_; refine Xs (Xg ?_); refine XD hS (dBox rfl) rfl ?_; clear hS; intro vr w hR; obtain ⟨b2, rfl, hS⟩ := hR; refine XX 2 hS rfl (Xn (Xs (Xg (XR hS (rField rfl) rfl (XR hS (rLoad rfl (by exact rfl)) rfl ?_))))); refine XX 1 hS rfl (Xn (Xs ?_)); replace hS := hS.tail; refine Xg (XX 1 hS rfl (XR hS (rNil rfl) rfl (XR hS (rField rfl) rfl (XR hS (rLoad rfl (by exact rfl)) rfl ?_)))); refine XR hS (rNil rfl) rfl (XR hS (rField rfl) rfl (XR hS (rLoad rfl (by exact rfl)) rfl ?_)); refine XX 1 hS rfl (Xn ?_); intro a hE
  refine cw_seqj (fun a w => Env Tryz.f202.ntmps (envL [(1, .slice (some ⟨db, off, none⟩) m cap), (6, ptr D.p 0), (7, ptr b 0)]) a ∧ ∃ (B1 : BS) (n1 : Nat) (e1 : Bool), PInv B1 D rest aft n1 tot e1 ∧ (n1 = 0 → e1 = true) ∧ St W (pst S b B1 D n1 tot e1 (bys 5 db dc :: L)) w) ?_ ?_; refine cw_block ?_
  · refine cw_loop (fun (σ : BS × Nat × Bool) a w => Env Tryz.f202.ntmps (envL [(1, .slice (some ⟨db, off, none⟩) m cap), (6, ptr D.p 0), (7, ptr b 0)]) a ∧ PInv σ.1 D rest aft σ.2.1 tot σ.2.2 ∧ St W (pst S b σ.1 D σ.2.1 tot σ.2.2 (bys 5 db dc :: L)) w)
      (fun σ => if σ.2.1 = 0 ∧ σ.2.2 = false then B.str.length - σ.1.have.length + 1 else 0) (B, n, eof) ⟨hE.cut ⟨rfl, rfl, rfl, trivial⟩, hI, hS⟩ ?_
    have hstr := hI.str; clear hS hE a hI; rintro ⟨B1, n1, e1⟩ a w ⟨hE, hI, hS⟩; dsimp only [pst, bfp, BS.cells, partC, mrC] at *; rcases Nat.eq_zero_or_pos n1 with h0 | h0
    · subst h0; cases e1 with
      | true =>
        revert a; refine Xs (Xs (Xg (XX 1 hS rfl (XR hS (rNil rfl) rfl (XR hS (rField rfl) rfl (XR hS (rLoad rfl (by exact rfl)) rfl ?_)))))); refine XR hS (rCmp rfl rfl (cmp_eqlT (by omega))) rfl ?_; refine XX 7 hS rfl (XA rfl rfl (XR hS (rNil rfl) rfl (XX 4 hS rfl (XA rfl rfl (XR hS (rField rfl) rfl (XX 3 hS rfl (XA rfl rfl (XR hS (rLoad rfl (by exact rfl)) rfl ?_)))))))); refine XX 2 hS rfl (XA rfl rfl (XR hS (rINil rfl) rfl (XX 1 hS rfl (Xn (Xf rfl (Xe rfl ?_)))))); intro a hE; exact ⟨hE.cut ⟨rfl, rfl, rfl, trivial⟩, B1, 0, true, hI, fun _ => rfl, hS⟩
      | false =>
        have hal := BS.have_len hI.ok; revert a; refine Xs (Xs (Xg (XX 1 hS rfl (XR hS (rNil rfl) rfl (XR hS (rField rfl) rfl (XR hS (rLoad rfl (by exact rfl)) rfl ?_)))))); refine XR hS (rCmp rfl rfl (cmp_eqlT (by omega))) rfl ?_; refine XX 7 hS rfl (XA rfl rfl (XR hS (rNil rfl) rfl (XX 4 hS rfl (XA rfl rfl (XR hS (rField rfl) rfl (XX 3 hS rfl (XA rfl rfl (XR hS (rLoad rfl (by exact rfl)) rfl ?_)))))))); refine XX 2 hS rfl (XA rfl rfl (XR hS (rNilNil rfl) rfl (XX 1 hS rfl (Xn (Xt rfl (Xk (Xb (Xs (Xg (XX 2 hS rfl ?_)))))))))); refine XC hS (gCall rfl) rfl (c104 (B := B1) hS hI.ok) ?_; clear hS; intro e w hR; (try dsimp only [bfp, BS.cells, oint] at hR); obtain ⟨rfl, hS⟩ := hR; refine ⟨_, rfl, ?_⟩; refine XC hS (gCall rfl) rfl (c56 (B := B1) hS hI.ok (m := B1.w - B1.r) (by have := hI.ok.wc; omega)) ?_; clear hS; intro e w hR; (try dsimp only [bfp, BS.cells, oint] at hR)
        obtain ⟨B2, po, pcap, av, short, ⟨rfl, hk2, u1, u2, u3, u4, u5, u6, u7, u8, u9, u10, u11⟩, hS⟩ := hR; refine ⟨_, rfl, ?_⟩; refine XX 1 hS rfl (XR hS (rExtract rfl rfl) rfl (XR hS (rExtract rfl rfl) rfl (XX 2 hS rfl (Xn (Xs ?_))))); have hB2 := u11 (Nat.le_of_eq hal.symm); subst hB2; have hav : av = B1.have.length := by rw [u5]; show min _ B1.have.length = _; omega
        have hrow : RowIs B1.c po av B1.have := ⟨u9, by rw [u8]; show B1.have.take av = _; rw [hav, List.take_length]⟩; obtain rfl : short = false := by rw [u6]; show decide (B1.have.length < _) = false; simp; omega
        have hcl := hI.ok.hi; have hwc := hI.ok.wc; have hbig := hI.big; have hlaw := scanF_law (nl := D.nl) (rest := rest) (aft := aft) (l := B1.have) (q := B1.rest) (t0 := decide (tot = 0)) hD.nl hI.clean hI.str.symm (fun h => hI.begin (by simpa using h)); obtain ⟨rn, re, hsc⟩ : ∃ rn re, scanF D.nl B1.have (decide (tot = 0)) = (rn, re) := ⟨_, _, rfl⟩; rw [hsc] at hlaw; obtain ⟨l1, l2, l3, l4⟩ := hlaw; dsimp only at l1 l2 l3 l4; have hD1 := hD.kk; have hD2 := hD.kd; have hD3 := hD.lo; have hD4 := hD.hi; have htt := hI.tot; refine Xh ([]) [.s, .s, .s, .s, .s, .s, .r, .s, .s, .r, .s, .s, .s, .r, .s, .s, .r, .s, .s, .s, .r, .s, .s, .s, .r, .h, .s, .s, .s, .s, .s, .h, .s, .s, .e] mixed (by kernel_rfl) hS ?_; clear hS; intro w hS
        refine XS (rMove rfl) rfl (XS (rMove rfl) rfl (XS (rMove rfl) rfl (XS (rMove rfl) rfl (XS (rNil rfl) rfl (XS (rField rfl) rfl (XT hS (rLoad rfl (by exact rfl)) rfl ?_)))))); refine XS (rNil rfl) rfl (XS (rField rfl) rfl (XT hS (rLoad rfl (by exact rfl)) rfl ?_)); refine XS (rMove rfl) rfl (XS (rNil rfl) rfl (XS (rField rfl) rfl (XT hS (rLoad rfl (by exact rfl)) rfl ?_))); refine XS (rNil rfl) rfl (XS (rField rfl) rfl (XT hS (rLoad rfl (by exact rfl)) rfl ?_)); refine XS (rMove rfl) rfl (XS (rNil rfl) rfl (XS (rField rfl) rfl (XT hS (rLoad rfl (by exact rfl)) rfl ?_))); refine XS (rMove rfl) rfl (XS (rNil rfl) rfl (XS (rField rfl) rfl (XT hS (rLoad rfl (by exact rfl)) rfl ?_))); refine XJ hS (gCall rfl) rfl (c203' (g := g) hS hrow u10 hD.row hD.kk hD.lo hD.nl.cr (by omega) (by omega) rfl hD.kd hsc) ?_; clear hS; intro e w hR; (try dsimp only [bfp, BS.cells, oint] at hR)
        obtain ⟨rfl, hS⟩ := hR; refine ⟨_, rfl, hS.sub, ?_⟩; refine XS (rMove rfl) rfl (XS (rExtract rfl rfl) rfl (XS (rExtract rfl rfl) rfl (XS (rNil rfl) rfl (XS (rField rfl) rfl ?_)))); refine XI hS (dStoreL rfl rfl (by exact rfl) rfl (by first | rfl | assumption | exact erv_one)) ?_; clear hS; intro _ w hS; refine ⟨hS.sub, ?_⟩; refine XS (rNil rfl) rfl (XS (rField rfl) rfl ?_); refine XM hS (dStoreL rfl rfl (by exact rfl) rfl (by first | rfl | assumption | exact erv_one)) ?_; clear hS; intro _ w hS; refine Xn (Xs ?_); by_cases hz : rn = 0 ∧ re = false
        · obtain ⟨rfl, rfl⟩ := hz; have hl4 := l4 rfl rfl; refine Xg (XX 1 hS rfl (XR hS (rNil rfl) rfl (XR hS (rField rfl) rfl (XR hS (rLoad rfl (by exact rfl)) rfl ?_)))); refine XR hS (rCmp rfl rfl (cmp_eqlT (by omega))) rfl ?_; refine XX 7 hS rfl (XA rfl rfl (XR hS (rNil rfl) rfl (XX 4 hS rfl (XA rfl rfl (XR hS (rField rfl) rfl (XX 3 hS rfl (XA rfl rfl (XR hS (rLoad rfl (by exact rfl)) rfl ?_)))))))); refine XX 2 hS rfl (XA rfl rfl (XR hS (rNilNil rfl) rfl (XX 1 hS rfl (Xn (Xt rfl (Xs (Xg (XX 3 hS rfl (XR hS (rLen rfl) rfl (XR hS (rAddN (n := 1) rfl rfl (by first | omega | (simp <;> omega)) rfl) rfl ?_)))))))))); refine XC hS (gCall rfl) rfl (c56 (B := { B1 with lb := -1, ls := -1 }) hS ⟨hI.ok.rw, hI.ok.wc, hI.ok.lo, hI.ok.hi, hI.ok.fin⟩ (m := av + 1) (by dsimp only; omega)) ?_; clear hS; intro e w hR; (try dsimp only [bfp, BS.cells, oint] at hR)
          obtain ⟨B3, po2, pcap2, av2, short2, ⟨rfl, hk3, v1, v2, v3, v4, v5, v6, v7, v8, v9, v10, v11⟩, hS⟩ := hR; refine ⟨_, rfl, ?_⟩; have hs2 : short2 = false := by
            cases short2 with
            | false => rfl
            | true =>
              have h1 := v7 rfl
              have h2 : B3.have.length < av + 1 := by simpa using v6.symm
              have h3 : B3.str = rest ++ D.nl ++ aft := v3.trans hI.str
              have h4 := congrArg List.length h3
              rw [BS.str, h1, List.append_nil, haft] at h4
              simp only [List.length_append, List.length_cons] at h4
              omega
          subst hs2; refine XX 1 hS rfl (XR hS (rExtract rfl rfl) rfl (XR hS (rExtract rfl rfl) rfl (XR hS (rNil rfl) rfl (XR hS (rField rfl) rfl ?_)))); refine XN hS (dStoreL rfl rfl (by exact rfl) rfl (by first | rfl | assumption | exact erv_one)) ?_; clear hS; intro _ w hS; refine Xn (Xs ?_); refine Xd [.s, .s, .s, .s, .s, .s] mixed (by kernel_rfl) hS ?_; clear hS; intro w hS; refine XS (rMove rfl) rfl (XS (rNil rfl) rfl (XS (rField rfl) rfl (XS (rLoad rfl (by exact rfl)) rfl ?_))); refine XS (rLoadO rfl g.g1) rfl (XS (rNilI2 rfl rfl) rfl (Xn (Xf rfl (Xk ?_)))); have hlong : av + 1 ≤ B3.have.length := by
            have : ¬ (B3.have.length < av + 1) := by simpa using v6.symm
            omega
          intro a hE; refine ⟨(B3, 0, false), ?_, hE.cut ⟨rfl, rfl, rfl, trivial⟩, ⟨hk3, v3.trans hI.str, l1, by dsimp only; omega, (fun h => nomatch h), hI.clean, hI.begin, hI.tot, by dsimp only; rw [v2]; exact hbig⟩, hS⟩; rw [if_pos ⟨rfl, rfl⟩, if_pos ⟨rfl, rfl⟩]; have h5 : B3.have.length ≤ B.str.length := by
            have h6 : B3.str.length = B.str.length := by rw [v3.trans hI.str, ← hstr]
            rw [← h6, BS.str, List.length_append]; omega
          dsimp only; omega
        · have hI2 : PInv { B1 with lb := -1, ls := -1 } D rest aft rn tot re := ⟨⟨hI.ok.rw, hI.ok.wc, hI.ok.lo, hI.ok.hi, hI.ok.fin⟩, hI.str, l1, l2, l3, hI.clean, hI.begin, hI.tot, hI.big⟩; have hlt : (if rn = 0 ∧ re = false then B.str.length - B1.have.length + 1 else 0) < (if (0 : Nat) = 0 ∧ false = false then B.str.length - B1.have.length + 1 else 0) := by
            rw [if_neg hz, if_pos ⟨rfl, rfl⟩]; omega
          rcases Nat.eq_zero_or_pos rn with hz1 | hz1
          · subst hz1; obtain rfl : re = true := by cases re with | true => rfl | false => exact absurd ⟨rfl, rfl⟩ hz
            refine Xg (XX 1 hS rfl (XR hS (rNil rfl) rfl (XR hS (rField rfl) rfl (XR hS (rLoad rfl (by exact rfl)) rfl ?_)))); refine XR hS (rCmp rfl rfl (cmp_eqlT (by omega))) rfl ?_; refine XX 7 hS rfl (XA rfl rfl (XR hS (rNil rfl) rfl (XX 4 hS rfl (XA rfl rfl (XR hS (rField rfl) rfl (XX 3 hS rfl (XA rfl rfl (XR hS (rLoad rfl (by exact rfl)) rfl ?_)))))))); refine XX 2 hS rfl (XA rfl rfl (XR hS (rINil rfl) rfl (XX 1 hS rfl (Xn (Xf rfl (Xk ?_)))))); intro a hE; exact ⟨({ B1 with lb := -1, ls := -1 }, 0, true), hlt, hE.cut ⟨rfl, rfl, rfl, trivial⟩, hI2, hS⟩
          · refine Xg (XX 1 hS rfl (XR hS (rNil rfl) rfl (XR hS (rField rfl) rfl (XR hS (rLoad rfl (by exact rfl)) rfl ?_)))); refine XR hS (rCmp rfl rfl (cmp_eqlF (by omega))) rfl ?_; refine XX 7 hS rfl (Xn (Xf rfl (Xk ?_))); intro a hE; exact ⟨({ B1 with lb := -1, ls := -1 }, rn, re), hlt, hE.cut ⟨rfl, rfl, rfl, trivial⟩, hI2, hS⟩
    · revert a; refine Xs (Xs (Xg (XX 1 hS rfl (XR hS (rNil rfl) rfl (XR hS (rField rfl) rfl (XR hS (rLoad rfl (by exact rfl)) rfl ?_)))))); refine XR hS (rCmp rfl rfl (cmp_eqlF (by omega))) rfl ?_; refine XX 7 hS rfl (Xn (Xf rfl (Xe rfl ?_))); intro a hE; exact ⟨hE.cut ⟨rfl, rfl, rfl, trivial⟩, B1, n1, e1, hI, fun h => by omega, hS⟩
  · rintro a w ⟨hE, B1, n1, e1, hJ, hz, hS⟩; clear hI; dsimp only [pst, bfp, BS.cells, partC, mrC] at hS; have htt := hJ.tot; rcases Nat.eq_zero_or_pos n1 with h0 | h0
    · subst h0; obtain rfl := hz rfl; have hnil : rest = [] := List.length_eq_zero_iff.1 (hJ.fin rfl).symm; subst hnil; revert a; refine Xs (Xs (Xg (XX 1 hS rfl (XR hS (rNil rfl) rfl (XR hS (rField rfl) rfl (XR hS (rLoad rfl (by exact rfl)) rfl ?_)))))); refine XR hS (rCmp rfl rfl (cmp_eqlT (by omega))) rfl ?_; refine Xn (Xt rfl (Xs ?_)); refine Xd [.s, .s, .s, .s, .s, .s] mixed (by kernel_rfl) hS ?_; clear hS; intro w hS; refine XS (rMove rfl) rfl (XS (rNil rfl) rfl (XS (rField rfl) rfl (XS (rLoad rfl (by exact rfl)) rfl ?_))); refine XS (rAssign rfl) rfl (XS (rAssign rfl) rfl (Xn (Xr ?_))); exact X2 rfl rfl rfl ⟨B1, 0, tot, true, 0, dc, true, [], ⟨rfl, by omega, rfl, rfl, by simp, fun _ => rfl, fun _ => rfl, hJ⟩, hS⟩
    · obtain ⟨k, hk⟩ : ∃ k, k = min m n1 := ⟨_, rfl⟩; have hnle := hJ.nle; have hnhv := hJ.nhv; revert a; refine Xs (Xs (Xg (XX 1 hS rfl (XR hS (rNil rfl) rfl (XR hS (rField rfl) rfl (XR hS (rLoad rfl (by exact rfl)) rfl ?_)))))); refine XR hS (rCmp rfl rfl (cmp_eqlF (by omega))) rfl ?_; refine Xn (Xf rfl (Xk (Xs (Xg (XX 1 hS rfl (XR hS (rLen rfl) rfl (XX 1 hS rfl (Xn ?_)))))))); intro a hE; refine cw_seqj (fun a w => Env Tryz.f202.ntmps (envL [(1, .slice (some ⟨db, off, none⟩) m cap), (6, ptr D.p 0), (7, ptr b 0), (10, .int .i64 (k : Int))]) a ∧ St W (pst S b B1 D n1 tot e1 (bys 5 db dc :: L)) w) ?_ ?_; refine cw_seq ?_
      · rcases Nat.lt_or_ge n1 m with h1 | h1
        · obtain rfl : k = n1 := by omega
          revert a; refine Xg (XX 2 hS rfl (XR hS (rNil rfl) rfl (XR hS (rField rfl) rfl (XR hS (rLoad rfl (by exact rfl)) rfl ?_)))); refine XR hS (rCmp rfl rfl (cmp_gtrT (by omega))) rfl ?_; refine Xn (Xt rfl (Xg (XX 1 hS rfl (XR hS (rNil rfl) rfl (XR hS (rField rfl) rfl (XR hS (rLoad rfl (by exact rfl)) rfl ?_)))))); refine XX 1 hS rfl (Xn ?_); intro a hE; exact ⟨hE.cut ⟨rfl, rfl, rfl, rfl, trivial⟩, hS⟩
        · obtain rfl : k = m := by omega
          revert a; refine Xg (XX 2 hS rfl (XR hS (rNil rfl) rfl (XR hS (rField rfl) rfl (XR hS (rLoad rfl (by exact rfl)) rfl ?_)))); refine XR hS (rCmp rfl rfl (cmp_gtrF (by omega))) rfl ?_; refine Xn (Xf rfl (Xk ?_)); intro a hE; exact ⟨hE.cut ⟨rfl, rfl, rfl, rfl, trivial⟩, hS⟩
      · clear hE hS a; rintro a w ⟨hE, hS⟩; dsimp only [pst, bfp, BS.cells, partC, mrC] at hS; have hbd := hJ.ok.hi; revert a; refine Xs (Xg (XX 3 hS rfl (XR hS (rSlc0 rfl rfl (by omega)) rfl ?_))); refine XC hS (gCall rfl) rfl (c171 (B := B1) (S := S) (n := k) (cap := cap) (hS.tk5 (S.inv B1.rest) (bys 5 B1.bb B1.c) (old W) (cel b (B1.cells S) 171 (0, 0)) (bys 5 db dc)) hJ.ok (by omega) (by omega) (by omega) hdc) ?_; clear hS; intro e w hR; (try dsimp only [bfp, BS.cells, oint] at hR); obtain ⟨B2, kx, dc', efx, ⟨rfl, x1, x2, x3, x5, x6, x7, x8, x9, x10, x11⟩, hS⟩ := hR; refine ⟨_, rfl, ?_⟩; obtain ⟨rfl, rfl, y3⟩ := x11 (by omega); have hkk : min k B1.have.length = k := by omega
        intro a hE; rw [hkk] at hE x5 x8; have hkr : k ≤ rest.length := by omega
        have hl1 : ((dc'.drop off).take k).length = k := by simp; omega
        have hspl : rest.take k ++ (rest.drop k ++ D.nl ++ aft) = (dc'.drop off).take k ++ B2.str := by
          rw [← x8, hJ.str, ← List.append_assoc, ← List.append_assoc, List.take_append_drop]
        obtain ⟨z1, z2⟩ := List.append_inj hspl (by rw [hl1]; simp; omega); have hB : PInv B2 D (rest.drop k) aft (n1 - k) (tot + k) e1 := by
          refine ⟨x1, z2.symm, by simp; omega, ?_, fun h => by have := hJ.fin h; simp; omega, hJ.clean.drop hkr, fun h => by omega, by simp; omega, by rw [x3]; exact hJ.big⟩; have q1 := congrArg List.length x8; rw [BS.str, BS.str, y3, List.length_append, List.length_append, List.length_append, hl1] at q1; omega
        have hrest : rest = (dc'.drop off).take k ++ rest.drop k := by rw [← z1, List.take_append_drop]
        revert a; refine XX 1 hS rfl (XR hS (rExtract rfl rfl) rfl (XR hS (rExtract rfl rfl) rfl (XX 1 hS rfl (Xn (Xs (Xg (XX 1 hS rfl (XR hS (rNil rfl) rfl (XR hS (rField rfl) rfl (XR hS (rLoad rfl (by exact rfl)) rfl ?_)))))))))); refine XX 1 hS rfl (XR hS (rAddN rfl rfl (by first | omega | (simp <;> omega)) rfl) rfl ?_); refine XR hS (rNil rfl) rfl (XR hS (rField rfl) rfl ?_); refine XN hS (dStoreL rfl rfl (by exact rfl) rfl (by first | rfl | assumption | exact erv_one)) ?_; clear hS; intro _ w hS; refine Xn (Xs (Xg (XX 1 hS rfl (XR hS (rNil rfl) rfl (XR hS (rField rfl) rfl (XR hS (rLoad rfl (by exact rfl)) rfl ?_)))))); refine XX 1 hS rfl (XR hS (rSubN rfl rfl (by first | omega | (simp <;> omega)) (by first | omega | (simp <;> omega)) rfl) rfl ?_); refine XR hS (rNil rfl) rfl (XR hS (rField rfl) rfl ?_)
        refine XN hS (dStoreL rfl rfl (by exact rfl) rfl (by first | rfl | assumption | exact erv_one)) ?_; clear hS; intro _ w hS; refine Xn (Xs (Xs ?_)); rcases Nat.eq_zero_or_pos (n1 - k) with h2 | h2
        · refine Xg (XX 1 hS rfl (XR hS (rNil rfl) rfl (XR hS (rField rfl) rfl (XR hS (rLoad rfl (by exact rfl)) rfl ?_)))); refine XR hS (rCmp rfl rfl (cmp_eqlT (by omega))) rfl ?_; refine Xn (Xt rfl (Xs ?_)); refine Xd [.s, .s, .s, .s, .s, .s, .s] mixed (by kernel_rfl) hS ?_; clear hS; intro w hS; refine XS (rMove rfl) rfl (XS (rMove rfl) rfl (XS (rNil rfl) rfl (XS (rField rfl) rfl (XS (rLoad rfl (by exact rfl)) rfl ?_)))); refine XS (rAssign rfl) rfl (XS (rAssign rfl) rfl (Xn (Xr ?_))); refine X2 rfl rfl rfl ⟨B2, n1 - k, tot + k, e1, k, dc', e1, rest.drop k, ⟨rfl, by omega, x6, x7, hrest, fun h => ?_, fun h => by omega, hB⟩, ?_⟩
          · have := hJ.fin h; rw [List.drop_eq_nil_of_le (by omega)]
          · exact hS.arr
        · refine Xg (XX 1 hS rfl (XR hS (rNil rfl) rfl (XR hS (rField rfl) rfl (XR hS (rLoad rfl (by exact rfl)) rfl ?_)))); refine XR hS (rCmp rfl rfl (cmp_eqlF (by omega))) rfl ?_; refine Xn (Xf rfl (Xk (Xs (Xg (XX 3 hS rfl (Xn (Xr ?_))))))); refine X2 rfl rfl rfl ⟨B2, n1 - k, tot + k, e1, k, dc', false, rest.drop k, ⟨rfl, by omega, x6, x7, hrest, (fun h => nomatch h), fun h => by omega, hB⟩, ?_⟩; exact hS.arr
end
end Go.Proofs
end
section
namespace Go.Proofs
open Go.Eng
def isLow (c : UInt8) : Bool := decide (97 ≤ c) && decide (c ≤ 122)
def isUp (c : UInt8) : Bool := decide (65 ≤ c) && decide (c ≤ 90)
def isLet (c : UInt8) : Bool := isLow c || isUp c
def isNm (c : UInt8) : Bool := isLet c || c == 45
theorem ne_let {c d : UInt8} (hc : isLet c = true) (hd : isLet d = false) : (c == d) = false := by
  cases h : (c == d) with
  | false => rfl
  | true => rw [beq_iff_eq] at h; rw [h, hd] at hc; cases hc
theorem isLow_iff {c : UInt8} : isLow c = true ↔ 97 ≤ c.toNat ∧ c.toNat ≤ 122 := by simp [isLow, UInt8.le_iff_toNat_le]
theorem isUp_iff {c : UInt8} : isUp c = true ↔ 65 ≤ c.toNat ∧ c.toNat ≤ 90 := by simp [isUp, UInt8.le_iff_toNat_le]
section
variable {W w : World} {s : List SL}
/-- textproto.tokenByte, of a letter -/
theorem c78l {c : UInt8} (hS : St W s w) (hc : isLet c = true) : Calls Tryz.prog 78 #[byteV c] w fun e w' => e = .returned (.bool true) ∧ St W s w' := by
  have hr : 65 ≤ c.toNat := by
    unfold isLet at hc; rw [Bool.or_eq_true, isLow_iff, isUp_iff] at hc; omega
  refine fn_calls (args := [byteV c]) Tryz.func78 rfl rfl rfl ?_; refine Xs (Xg (XX 1 hS rfl (Xn (Xs (Xs (Xg (XX 1 hS rfl (Xn (Xb (Xs (Xs (Xg (XR hS (rB8 (d := 33) rfl rfl (ne_let hc rfl)) rfl (XX 1 hS rfl ?_)))))))))))))); refine Xn (Xf rfl (Xs (Xg (XR hS (rB8 (d := 35) rfl rfl (ne_let hc rfl)) rfl (XX 1 hS rfl (Xn (Xf rfl (Xs (Xg (XR hS (rB8 (d := 36) rfl rfl (ne_let hc rfl)) rfl (XX 1 hS rfl (Xn (Xf rfl (Xs ?_)))))))))))))); refine Xg (XR hS (rB8 (d := 37) rfl rfl (ne_let hc rfl)) rfl (XX 1 hS rfl (Xn (Xf rfl (Xs (Xg (XR hS (rB8 (d := 38) rfl rfl (ne_let hc rfl)) rfl (XX 1 hS rfl (Xn (Xf rfl (Xs (Xg (XR hS (rB8 (d := 39) rfl rfl (ne_let hc rfl)) rfl (XX 1 hS rfl ?_)))))))))))))); refine Xn (Xf rfl (Xs (Xg (XR hS (rB8 (d := 42) rfl rfl (ne_let hc rfl)) rfl (XX 1 hS rfl (Xn (Xf rfl (Xs (Xg (XR hS (rB8 (d := 43) rfl rfl (ne_let hc rfl)) rfl (XX 1 hS rfl (Xn (Xf rfl (Xs ?_))))))))))))))
  refine Xg (XR hS (rB8 (d := 45) rfl rfl (ne_let hc rfl)) rfl (XX 1 hS rfl (Xn (Xf rfl (Xs (Xg (XR hS (rB8 (d := 46) rfl rfl (ne_let hc rfl)) rfl (XX 1 hS rfl (Xn (Xf rfl (Xs (Xg (XR hS (rB8 (d := 94) rfl rfl (ne_let hc rfl)) rfl (XX 1 hS rfl ?_)))))))))))))); refine Xn (Xf rfl (Xs (Xg (XR hS (rB8 (d := 95) rfl rfl (ne_let hc rfl)) rfl (XX 1 hS rfl (Xn (Xf rfl (Xs (Xg (XR hS (rB8 (d := 96) rfl rfl (ne_let hc rfl)) rfl (XX 1 hS rfl (Xn (Xf rfl (Xs ?_)))))))))))))); refine Xg (XR hS (rB8 (d := 124) rfl rfl (ne_let hc rfl)) rfl (XX 1 hS rfl (Xn (Xf rfl (Xg (XR hS (rB8 (d := 126) rfl rfl (ne_let hc rfl)) rfl (XX 1 hS rfl (Xn (Xf rfl (Xk (Xs ?_))))))))))); unfold isLet at hc; rw [Bool.or_eq_true] at hc; intro a hE; cases hl : isLow c with
  | true =>
    rw [isLow_iff] at hl; have g1 : decide (97 ≤ c) = true := by simp [UInt8.le_iff_toNat_le]; omega
    have g2 : decide (c ≤ 122) = true := by simp [UInt8.le_iff_toNat_le]; omega
    revert a; refine Xg (XX 1 hS rfl (XR hS (rB8ge (d := 48) rfl rfl (show decide (48 ≤ c) = true by simp [UInt8.le_iff_toNat_le]; omega)) rfl ?_)); refine XX 21 hS rfl (XA rfl rfl (XR hS (rB8le (d := 57) rfl rfl (show decide (c ≤ 57) = false by simp [UInt8.lt_iff_toNat_lt]; omega)) rfl ?_)); refine XX 18 hS rfl (XA rfl rfl (XR hS (rB8ge (d := 97) rfl rfl g1) rfl (XX 14 hS rfl (XA rfl rfl (XR hS (rB8le (d := 122) rfl rfl g2) rfl (XX 11 hS rfl (Xn (Xr ?_)))))))); exact X1 rfl rfl ⟨rfl, hS⟩
  | false =>
    rw [hl] at hc; have hu : isUp c = true := by simpa using hc
    rw [isUp_iff] at hu; have g1 : decide (97 ≤ c) = false := by simp [UInt8.lt_iff_toNat_lt]; omega
    have g3 : decide (c ≤ 90) = true := by simp [UInt8.le_iff_toNat_le]; omega
    revert a; refine Xg (XX 1 hS rfl (XR hS (rB8ge (d := 48) rfl rfl (show decide (48 ≤ c) = true by simp [UInt8.le_iff_toNat_le]; omega)) rfl ?_)); refine XX 21 hS rfl (XA rfl rfl (XR hS (rB8le (d := 57) rfl rfl (show decide (c ≤ 57) = false by simp [UInt8.lt_iff_toNat_lt]; omega)) rfl ?_)); refine XX 18 hS rfl (XA rfl rfl (XR hS (rB8ge (d := 97) rfl rfl g1) rfl (XX 14 hS rfl (XA rfl rfl (XR hS (rB8ge (d := 65) rfl rfl (show decide (65 ≤ c) = true by simp [UInt8.le_iff_toNat_le]; omega)) rfl ?_))))); refine XX 6 hS rfl (XA rfl rfl (XR hS (rB8le (d := 90) rfl rfl g3) rfl (XX 3 hS rfl (Xn (Xr ?_))))); exact X1 rfl rfl ⟨rfl, hS⟩
end
end Go.Proofs
end

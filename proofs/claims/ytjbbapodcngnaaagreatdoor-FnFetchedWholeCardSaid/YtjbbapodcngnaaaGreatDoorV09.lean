/-
  Steps on the way to the cards of laws.FnFetched and laws.FnFetchedWhole; the conditions of each are the hypotheses that it names. In order:
  WALKS (printed by wx.py from Hn.px): names of fields, canonically.
  WALKS (printed by wx.py from Ho.px): lines of a header.
  WALKS (printed by wx.py from Hp.px): strings.Builder, as trimAroundNewlines uses it.
  WALKS (printed by wx.py from Hq.px): the value of a field, a field's lines.
  WALKS (printed by wx.py from Hr.px): a header's fields.
-/
import Derived.Test.YtjbbapodcngnaaaGreatDoorV08
import Derived.Lib.UnsafeStr
import Derived.Lib.Builder
import Derived.Room.MakeNoZero
import Derived.Test.YtjbbapodcngnaaaGreatDoorV05
set_option linter.all false
section
namespace Go.Proofs
open Go.Eng
def canonB (up : Bool) (c : UInt8) : UInt8 := if up && isLow c then c - 32 else if !up && isUp c then c + 32 else c
def canonF : Bool → List UInt8 → List UInt8
  | _, [] => []
  | up, c :: l => canonB up c :: canonF (c == 45) l
theorem canonF_len : ∀ (up : Bool) (l : List UInt8), (canonF up l).length = l.length
  | _, [] => rfl
  | up, c :: l => by simp [canonF, canonF_len]
theorem isNm_cases {c : UInt8} (h : isNm c = true) : isLet c = true ∨ c = 45 := by
  unfold isNm at h; rw [Bool.or_eq_true, beq_iff_eq] at h; exact h
section
variable {W w : World} {s : List SL}
/-- textproto.tokenByte, of a letter or a hyphen -/
theorem c78 {c : UInt8} (hS : St W s w) (hc : isNm c = true) : Calls Tryz.prog 78 #[byteV c] w fun e w' => e = .returned (.bool true) ∧ St W s w' := by
  rcases isNm_cases hc with hc | rfl
  · exact c78l hS hc
  refine fn_calls (args := [byteV 45]) Tryz.func78 rfl rfl rfl ?_; refine Xs (Xg (XX 1 hS rfl (Xn (Xs (Xs (Xg (XX 1 hS rfl (Xn (Xb (Xs (Xs (Xg (XR hS (rB8 (d := 33) rfl rfl (show ((45 : UInt8) == 33) = false from rfl)) rfl (XX 1 hS rfl ?_)))))))))))))); refine Xn (Xf rfl (Xs (Xg (XR hS (rB8 (d := 35) rfl rfl (show ((45 : UInt8) == 35) = false from rfl)) rfl (XX 1 hS rfl (Xn (Xf rfl (Xs (Xg (XR hS (rB8 (d := 36) rfl rfl (show ((45 : UInt8) == 36) = false from rfl)) rfl (XX 1 hS rfl (Xn (Xf rfl (Xs ?_)))))))))))))); refine Xg (XR hS (rB8 (d := 37) rfl rfl (show ((45 : UInt8) == 37) = false from rfl)) rfl (XX 1 hS rfl (Xn (Xf rfl (Xs (Xg (XR hS (rB8 (d := 38) rfl rfl (show ((45 : UInt8) == 38) = false from rfl)) rfl (XX 1 hS rfl (Xn (Xf rfl (Xs (Xg (XR hS (rB8 (d := 39) rfl rfl (show ((45 : UInt8) == 39) = false from rfl)) rfl (XX 1 hS rfl ?_))))))))))))))
  refine Xn (Xf rfl (Xs (Xg (XR hS (rB8 (d := 42) rfl rfl (show ((45 : UInt8) == 42) = false from rfl)) rfl (XX 1 hS rfl (Xn (Xf rfl (Xs (Xg (XR hS (rB8 (d := 43) rfl rfl (show ((45 : UInt8) == 43) = false from rfl)) rfl (XX 1 hS rfl (Xn (Xf rfl (Xs ?_)))))))))))))); refine Xg (XR hS (rB8 (d := 45) rfl rfl (show ((45 : UInt8) == 45) = true from rfl)) rfl (XX 1 hS rfl (Xn (Xt rfl (Xk (Xt rfl (Xs (Xg (XX 1 hS rfl (Xn (Xr ?_))))))))))); exact X1 rfl rfl ⟨rfl, hS⟩
/-- textproto.CanonicalKey, of letters and hyphens -/
theorem c46 {key : List UInt8} (hS : St W s w) (hk : ∀ c ∈ key, isNm c = true) (hmy : key.length ≤ 1073741824) : Calls Tryz.prog 46 #[.string (mkS key)] w fun e w' => e = .returned (.string (mkS (canonF true key))) ∧ St W s w' := by
  refine fn_calls (args := [.string (mkS key)]) Tryz.func46 rfl rfl rfl ?_; refine Xs (Xg (XX 1 hS rfl (Xn (Xs (Xg (XX 1 hS rfl (Xn (Xs (Xg (XX 1 hS rfl ?_)))))))))); refine XD hS (dToBytes rfl) rfl ?_; clear hS; intro vr w hR; obtain ⟨b8, jk, rfl, hS⟩ := hR; refine XX 1 hS rfl (Xn (Xs (Xs (Xg (XX 1 hS rfl (XR hS (rLen rfl) rfl (XX 1 hS rfl (Xn (Xb ?_))))))))); intro a hE; refine cw_loop (fun (σ : List UInt8 × List UInt8 × Bool) a w => Env Tryz.f46.ntmps (envL [(0, .string (mkS key)), (3, .bool σ.2.2), (4, .slice (some ⟨b8, 0, none⟩) key.length (key ++ jk).length), (9, .slice (some ⟨b8, 0, none⟩) key.length (key ++ jk).length), (10, .int .i64 (key.length : Int)), (11, .int .i64 (σ.1.length : Int))]) a ∧ σ.1.length + σ.2.1.length = key.length ∧ (∀ c ∈ σ.2.1, isNm c = true) ∧ canonF true key = σ.1 ++ canonF σ.2.2 σ.2.1 ∧ St W (bys 5 b8 (σ.1 ++ σ.2.1 ++ jk) :: s) w)
    (fun σ => σ.2.1.length) ([], key, true) ⟨hE.cut ⟨rfl, rfl, rfl, rfl, rfl, rfl, trivial⟩, by simp, hk, rfl, hS⟩ ?_
  clear hS hE a; rintro ⟨q, r, up⟩ a w ⟨hE, hl, hr, hcan, hS⟩; dsimp only at *; have hlen : (q ++ r ++ jk).length = key.length + jk.length := by simp; omega
  rcases r with _ | ⟨c, r⟩
  · simp only [List.length_nil, Nat.add_zero] at hl; have hfin : (((q ++ [] ++ jk).drop 0).take key.length) = canonF true key := by
      rw [hcan]; simp [canonF, ← hl]
    revert a; refine Xs (Xg (XR hS (rCmp rfl rfl (cmp_lssF (by omega))) rfl ?_)); refine Xn (Xs (Xf rfl (Xe rfl (Xs (Xg (XX 1 hS rfl (XR hS (rToStr rfl (by omega)) rfl ?_))))))); refine XX 1 hS rfl (Xn (Xr ?_)); intro a hE; rw [hfin] at hE; exact kret1 hE rfl rfl ⟨rfl, hS.tail⟩
  · have hcn := hr c (List.mem_cons_self ..); have hr' := fun c hc => hr c (List.mem_cons_of_mem _ hc); simp only [List.length_cons] at hl; have hci : (q ++ c :: r ++ jk)[q.length]? = some c := by simp
    have hc256 : c.toNat < 256 := c.toNat_lt; have hset : ∀ d : UInt8, (q ++ c :: r ++ jk).set (0 + q.length) d = (q ++ [d]) ++ r ++ jk := fun d => by simp [List.set_append]
    have hstep : ∀ (d : UInt8), canonB up c = d → canonF true key = (q ++ [d]) ++ canonF (c == 45) r := fun d hd => by rw [hcan, canonF, hd]; simp
    revert a; refine Xs (Xg (XR hS (rCmp rfl rfl (cmp_lssT (by omega))) rfl ?_)); refine Xn (Xs (Xt rfl (Xk (Xs (Xb (Xs (Xg (XX 1 hS rfl (XR hS (rIdxA1 (i := q.length) rfl rfl (by omega)) rfl ?_))))))))); refine XR hS (rLoadB rfl (idx_eq hci (by omega))) rfl ?_; refine XX 2 hS rfl (Xn (Xs (Xs (Xg (XX 1 hS rfl ?_))))); refine XC hS (gCall rfl) rfl (c78 hS hcn) ?_; clear hS; intro e w hR; (try dsimp only at hR); obtain ⟨rfl, hS⟩ := hR; refine ⟨_, rfl, ?_⟩; refine XX 1 hS rfl (Xn (Xf rfl (Xk ?_))); intro a hE; refine cw_seqj (fun a w => ∃ d, canonB up c = d ∧ Env Tryz.f46.ntmps (envL [(0, .string (mkS key)), (4, .slice (some ⟨b8, 0, none⟩) key.length (key ++ jk).length), (6, byteV c), (9, .slice (some ⟨b8, 0, none⟩) key.length (key ++ jk).length), (10, .int .i64 (key.length : Int)), (11, .int .i64 (q.length : Int))]) a ∧ St W (bys 5 b8 ((q ++ [d]) ++ r ++ jk) :: s) w) ?_ ?_; refine cw_seq ?_
    · have keep : ∀ (w : World), St W (bys 5 b8 (q ++ c :: r ++ jk) :: s) w → St W (bys 5 b8 ((q ++ [c]) ++ r ++ jk) :: s) w := fun w h => by simpa using h
      have hcc : isLow c = true ∨ isUp c = true ∨ c = 45 := by
        rcases isNm_cases hcn with h | h
        · unfold isLet at h; rw [Bool.or_eq_true] at h; rcases h with h | h
          · exact .inl h
          · exact .inr (.inl h)
        · exact .inr (.inr h)
      cases up with
      | true =>
        cases hlow : isLow c with
        | true =>
          have hln := isLow_iff.1 hlow; have g1 : decide (97 ≤ c) = true := by simp [UInt8.le_iff_toNat_le]; omega
          have g2 : decide (c ≤ 122) = true := by simp [UInt8.le_iff_toNat_le]; omega
          revert a; refine Xg (XX 9 hS rfl (XA rfl rfl (XR hS (rB8ge (d := 97) rfl rfl g1) rfl (XX 5 hS rfl (XA rfl rfl (XR hS (rB8le (d := 122) rfl rfl g2) rfl (XX 1 hS rfl (Xn (Xt rfl (Xg (XX 3 hS rfl (XR hS (rSub rfl rfl (r := ((c.toNat - 97 : Nat) : Int)) (by rw [w8 (by omega) (by omega)]; omega)) rfl ?_)))))))))))); refine XR hS (rAdd rfl rfl (r := ((c - 32).toNat : Int)) (by rw [w8 (by omega) (by omega), UInt8.toNat_sub_of_le _ _ (by rw [UInt8.le_iff_toNat_le]; show 32 ≤ _; omega)]; show _ = ((c.toNat - 32 : Nat) : Int); omega)) rfl ?_; refine XR hS (rIdxA1 rfl rfl (by omega)) rfl ?_; refine XN hS (dStoreB (d := c - 32) rfl rfl (by rw [hlen]; omega)) ?_; clear hS; intro _ w hS; refine Xn ?_; rw [hset] at hS; intro a hE; exact ⟨c - 32, by simp [canonB, hlow], hE.cut ⟨rfl, rfl, rfl, rfl, rfl, rfl, trivial⟩, hS⟩
        | false =>
          have hlt : c.toNat < 97 := by
            rcases hcc with h | h | h
            · rw [hlow] at h; cases h
            · have := isUp_iff.1 h; omega
            · rw [h]; decide
          have g1 : decide (97 ≤ c) = false := by simp [UInt8.lt_iff_toNat_lt]; omega
          revert a; refine Xg (XX 9 hS rfl (XA rfl rfl (XR hS (rB8ge (d := 97) rfl rfl g1) rfl (XX 5 hS rfl (Xn (Xf rfl (Xs (Xg (XX 10 hS rfl (Xn (Xf rfl (Xk ?_)))))))))))); intro a hE; exact ⟨c, by simp [canonB, hlow], hE.cut ⟨rfl, rfl, rfl, rfl, rfl, rfl, trivial⟩, keep _ hS⟩
      | false =>
        cases hup : isUp c with
        | true =>
          have hun := isUp_iff.1 hup; have g3 : decide (65 ≤ c) = true := by simp [UInt8.le_iff_toNat_le]; omega
          have g4 : decide (c ≤ 90) = true := by simp [UInt8.le_iff_toNat_le]; omega
          revert a; refine Xg (XX 9 hS rfl (Xn (Xf rfl (Xs (Xg (XX 10 hS rfl (XA rfl rfl (XR hS (rB8ge (d := 65) rfl rfl g3) rfl (XX 5 hS rfl (XA rfl rfl (XR hS (rB8le (d := 90) rfl rfl g4) rfl (XX 1 hS rfl (Xn (Xt rfl ?_)))))))))))))); refine Xg (XX 3 hS rfl (XR hS (rSub rfl rfl (r := ((c.toNat - 65 : Nat) : Int)) (by rw [w8 (by omega) (by omega)]; omega)) rfl ?_)); refine XR hS (rAdd rfl rfl (r := ((c + 32).toNat : Int)) (by rw [w8 (by omega) (by omega), UInt8.toNat_add]; show _ = (((c.toNat + 32) % 256 : Nat) : Int); omega)) rfl ?_; refine XR hS (rIdxA1 rfl rfl (by omega)) rfl ?_; refine XN hS (dStoreB (d := c + 32) rfl rfl (by rw [hlen]; omega)) ?_; clear hS; intro _ w hS; refine Xn ?_; rw [hset] at hS; intro a hE; exact ⟨c + 32, by simp [canonB, hup], hE.cut ⟨rfl, rfl, rfl, rfl, rfl, rfl, trivial⟩, hS⟩
        | false =>
          rcases Nat.lt_or_ge c.toNat 65 with h65 | h65
          · have g3 : decide (65 ≤ c) = false := by simp [UInt8.lt_iff_toNat_lt]; omega
            revert a; refine Xg (XX 9 hS rfl (Xn (Xf rfl (Xs (Xg (XX 10 hS rfl (XA rfl rfl (XR hS (rB8ge (d := 65) rfl rfl g3) rfl (XX 5 hS rfl (Xn (Xf rfl (Xk ?_)))))))))))); intro a hE; exact ⟨c, by simp [canonB, hup], hE.cut ⟨rfl, rfl, rfl, rfl, rfl, rfl, trivial⟩, keep _ hS⟩
          · have hgt : 90 < c.toNat := by
              rcases hcc with h | h | h
              · have := isLow_iff.1 h; omega
              · rw [hup] at h; cases h
              · rw [h] at h65; exact absurd h65 (by decide)
            have g3 : decide (65 ≤ c) = true := by simp [UInt8.le_iff_toNat_le]; omega
            have g4 : decide (c ≤ 90) = false := by simp [UInt8.lt_iff_toNat_lt]; omega
            revert a; refine Xg (XX 9 hS rfl (Xn (Xf rfl (Xs (Xg (XX 10 hS rfl (XA rfl rfl (XR hS (rB8ge (d := 65) rfl rfl g3) rfl (XX 5 hS rfl (XA rfl rfl (XR hS (rB8le (d := 90) rfl rfl g4) rfl (XX 1 hS rfl (Xn (Xf rfl ?_)))))))))))))); refine Xk ?_; intro a hE; exact ⟨c, by simp [canonB, hup], hE.cut ⟨rfl, rfl, rfl, rfl, rfl, rfl, trivial⟩, keep _ hS⟩
    · rintro a w ⟨d, hd, hE, hS⟩; revert a; refine Xg (XX 1 hS rfl (XR hS (rB8 (d := 45) rfl rfl rfl) rfl (XX 1 hS rfl (Xn (Xg (XR hS (rAddN (n := 1) rfl rfl (by first | omega | (simp <;> omega)) rfl) rfl ?_)))))); refine XX 1 hS rfl (Xn ?_); intro a hE; exact ⟨(q ++ [d], r, c == 45), by simp, hE.cut ⟨rfl, rfl, rfl, rfl, rfl, by simp; rfl, trivial⟩, by simp; omega, hr', hstep d hd, hS⟩
end
end Go.Proofs
end
section
namespace Go.Proofs
open Go.Eng
section
variable {W w : World} {s : List SL}
/-- textproto.validHeaderKeyByte, of a letter or a hyphen -/
theorem c63 {c : UInt8} (hS : St W s w) (hc : isNm c = true) : Calls Tryz.prog 63 #[byteV c] w fun e w' => e = .returned (.bool true) ∧ St W s w' := by
  have hr : 45 ≤ c.toNat ∧ c.toNat ≤ 122 ∧ c.toNat ≠ 58 := by
    rcases isNm_cases hc with h | rfl
    · unfold isLet at h; rw [Bool.or_eq_true, isLow_iff, isUp_iff] at h; omega
    · decide
  refine fn_calls (args := [byteV c]) Tryz.func63 rfl rfl rfl ?_; refine Xs (Xg (XX 1 hS rfl (Xn (Xs (Xg (XX 1 hS rfl (XR hS (rConvB rfl) rfl (XX 1 hS rfl (Xn (Xs (Xg (XX 1 hS rfl (XR hS (rCmp rfl rfl (cmp_geqT (by omega))) rfl ?_))))))))))))); refine XX 9 hS rfl (XA rfl rfl (XR hS (rCmp rfl rfl (cmp_leqT (by omega))) rfl ?_)); refine XX 6 hS rfl (XA rfl rfl (XR hS (rCmp rfl rfl (cmp_neqT (by omega))) rfl ?_)); refine XX 2 hS rfl (Xn (Xr ?_)); exact X1 rfl rfl ⟨rfl, hS⟩
/-- textproto.trim -/
theorem c62 {b off n cap : Nat} {c l p m : List UInt8} (hS : St W s w) [q : HasBys s 5 b c] (hr : RowIs c off n l) (hcap : n ≤ cap) (hmy : n ≤ 1073741824) (hl : l = p ++ m) (hp : ∀ d ∈ p, isSp d = true) (hm1 : ∀ d, m[0]? = some d → isSp d = false) (hm2 : ∀ d, m[m.length - 1]? = some d → isSp d = false) :
    Calls Tryz.prog 62 #[.slice (some ⟨b, off, none⟩) n cap] w fun e w' => e = .returned (.slice (some ⟨b, slo off p.length cap, none⟩) m.length (cap - p.length)) ∧ St W s w' := by
  have hn := hr.len; have hlen : p.length + m.length = n := by rw [← hn, hl]; simp
  have hle := hr.le; refine fn_calls (args := [.slice (some ⟨b, off, none⟩) n cap]) Tryz.func62 rfl rfl rfl ?_; refine Xs (Xg (XX 1 hS rfl (Xn (Xs (Xg (XX 1 hS rfl (Xn ?_))))))); intro a hE; refine cw_seqj (fun a w => Env Tryz.f62.ntmps (envL [(0, .slice (some ⟨b, off, none⟩) n cap), (2, .slice none 0 0), (3, .int .i64 (p.length : Int))]) a ∧ St W s w) ?_ ?_; refine cw_block ?_
  · refine cw_loop (fun (i : Nat) a w => Env Tryz.f62.ntmps (envL [(0, .slice (some ⟨b, off, none⟩) n cap), (2, .slice none 0 0), (3, .int .i64 (i : Int))]) a ∧ i ≤ p.length ∧ St W s w) (fun i => p.length - i) 0 ⟨hE.cut ⟨rfl, rfl, rfl, trivial⟩, by omega, hS⟩ ?_; clear hS hE a; rintro i a w ⟨hE, hi, hS⟩; rcases Nat.lt_or_ge i p.length with h1 | h1
    · obtain ⟨d, hd0⟩ : ∃ d, p[i]? = some d := ⟨_, List.getElem?_eq_getElem h1⟩; have hd : l[i]? = some d := by rw [hl, List.getElem?_append_left h1]; exact hd0
      have hsp := hp d (List.mem_of_getElem? hd0); revert a; refine Xs (Xs (Xg (XX 2 hS rfl (XR hS (rLen rfl) rfl (XR hS (rCmp rfl rfl (cmp_lssT (by omega))) rfl ?_))))); refine XX 6 hS rfl (XA rfl rfl (XR hS (rIdxA1 rfl rfl (by omega)) rfl ?_)); refine XX 2 hS rfl (XA rfl rfl (XR hS (rLoadB rfl (hr.at hd)) rfl (XX 1 hS rfl (XA rfl rfl ?_)))); refine XC hS (gCall rfl) rfl (c57 hS) ?_; clear hS; intro e w hR; (try dsimp only [bfp, BS.cells, oint] at hR); obtain ⟨rfl, hS⟩ := hR; refine ⟨_, rfl, ?_⟩; intro a hE; rw [hsp] at hE; revert a; refine XX 1 hS rfl (Xn (Xt rfl (Xk (Xb (Xg (XX 1 hS rfl (XR hS (rAddN (n := 1) rfl rfl (by first | omega | (simp <;> omega)) rfl) rfl ?_))))))); refine XX 1 hS rfl (Xn ?_); intro a hE; exact ⟨i + 1, by omega, hE.cut ⟨rfl, rfl, rfl, trivial⟩, by omega, hS⟩
    · obtain rfl : i = p.length := by omega
      rcases Nat.eq_zero_or_pos m.length with h2 | h2
      · revert a; refine Xs (Xs (Xg (XX 2 hS rfl (XR hS (rLen rfl) rfl (XR hS (rCmp rfl rfl (cmp_lssF (by omega))) rfl ?_))))); refine XX 7 hS rfl (Xn (Xf rfl (Xe rfl ?_))); intro a hE; exact ⟨hE.cut ⟨rfl, rfl, rfl, trivial⟩, hS⟩
      · obtain ⟨d, hd0⟩ : ∃ d, m[0]? = some d := ⟨_, List.getElem?_eq_getElem h2⟩; have hd : l[p.length]? = some d := by rw [hl, List.getElem?_append_right (by omega), Nat.sub_self]; exact hd0
        have hsp := hm1 d hd0; revert a; refine Xs (Xs (Xg (XX 2 hS rfl (XR hS (rLen rfl) rfl (XR hS (rCmp rfl rfl (cmp_lssT (by omega))) rfl ?_))))); refine XX 6 hS rfl (XA rfl rfl (XR hS (rIdxA1 rfl rfl (by omega)) rfl ?_)); refine XX 2 hS rfl (XA rfl rfl (XR hS (rLoadB rfl (hr.at hd)) rfl (XX 1 hS rfl (XA rfl rfl ?_)))); refine XC hS (gCall rfl) rfl (c57 hS) ?_; clear hS; intro e w hR; (try dsimp only [bfp, BS.cells, oint] at hR); obtain ⟨rfl, hS⟩ := hR; refine ⟨_, rfl, ?_⟩; intro a hE; rw [hsp] at hE; revert a; refine XX 1 hS rfl (Xn (Xf rfl (Xe rfl ?_))); intro a hE; exact ⟨hE.cut ⟨rfl, rfl, rfl, trivial⟩, hS⟩
  · clear hS hE a; rintro a w ⟨hE, hS⟩; revert a; refine Xs (Xg (XX 1 hS rfl (XR hS (rLen rfl) rfl (XX 1 hS rfl (Xn (Xs (Xb ?_))))))); intro a hE; refine cw_loop (fun (i : Unit) a w => Env Tryz.f62.ntmps (envL [(0, .slice (some ⟨b, off, none⟩) n cap), (2, .slice none 0 0), (3, .int .i64 (p.length : Int)), (4, .int .i64 (n : Int))]) a ∧ St W s w) (fun i => 0) () ⟨hE.cut ⟨rfl, rfl, rfl, rfl, trivial⟩, hS⟩ ?_; clear hS hE a; rintro ⟨⟩ a w ⟨hE, hS⟩; rcases Nat.eq_zero_or_pos m.length with h2 | h2
    · revert a; refine Xs (Xs (Xg (XX 2 hS rfl (XR hS (rCmp rfl rfl (cmp_gtrF (by omega))) rfl ?_)))); refine XX 8 hS rfl (Xn (Xf rfl (Xe rfl (Xs (Xg (XX 3 hS rfl (XR hS (rSlc2 rfl rfl rfl (by omega) (by omega)) rfl ?_))))))); refine XX 1 hS rfl (Xn (Xr ?_)); exact X1 rfl rfl ⟨by rw [show n - p.length = m.length by omega], hS⟩
    · obtain ⟨d, hd0⟩ : ∃ d, m[m.length - 1]? = some d := ⟨_, List.getElem?_eq_getElem (by omega)⟩; have hd2 : l[n - 1]? = some d := by rw [hl, List.getElem?_append_right (by omega), show n - 1 - p.length = m.length - 1 by omega]; exact hd0
      have hsp := hm2 d hd0; revert a; refine Xs (Xs (Xg (XX 2 hS rfl (XR hS (rCmp rfl rfl (cmp_gtrT (by omega))) rfl ?_)))); refine XX 7 hS rfl (XA rfl rfl (XR hS (rSubN (n := 1) rfl rfl (by first | omega | (simp <;> omega)) (by first | omega | (simp <;> omega)) rfl) rfl ?_)); refine XX 3 hS rfl (XA rfl rfl (XR hS (rIdxA1 rfl rfl (by omega)) rfl ?_)); refine XX 2 hS rfl (XA rfl rfl (XR hS (rLoadB rfl (idx_eq (hr.at hd2) (by omega))) rfl ?_)); refine XX 1 hS rfl (XA rfl rfl ?_); refine XC hS (gCall rfl) rfl (c57 hS) ?_; clear hS; intro e w hR; (try dsimp only [bfp, BS.cells, oint] at hR); obtain ⟨rfl, hS⟩ := hR; refine ⟨_, rfl, ?_⟩; intro a hE; rw [hsp] at hE; revert a; refine XX 1 hS rfl (Xn (Xf rfl (Xe rfl (Xs (Xg (XX 3 hS rfl (XR hS (rSlc2 rfl rfl rfl (by omega) (by omega)) rfl ?_))))))); refine XX 1 hS rfl (Xn (Xr ?_))
      exact X1 rfl rfl ⟨by rw [show n - p.length = m.length by omega], hS⟩
end
section
variable {W w : World} {g : Gl W} {S : Src W g} {L : List SL} {b : Nat} {B : BS}
/-- textproto.readLineSlice -/
theorem c58 {v : Value} {c0 : List UInt8} (hS : St W (bfp S b B (ob 5 v c0 :: L)) w) (hk : B.ok) {line tail : List UInt8} (hstr : B.str = line ++ 13 :: 10 :: tail) (hno : (10 : UInt8) ∉ line) (hlen : line.length + 2 ≤ B.c.length) (hb : c0.length + line.length ≤ 1099511627776) :
    Calls Tryz.prog 58 #[ptr b 0, v] w fun e w' => ∃ (B' : BS) (v' : Value), (e = .returned (.tuple #[v', .nilIface]) ∧ B'.ok ∧ B'.c.length = B.c.length ∧ B'.str = tail) ∧ St W (bfp S b B' (ob 5 v' (c0 ++ line) :: L)) w' := by
  refine fn_calls (args := [ptr b 0, v]) Tryz.func58 rfl rfl rfl ?_; refine Xs (Xg (XX 2 hS rfl (Xn (Xs (Xb ?_))))); intro a hE; refine cw_loop (fun (i : Unit) a w => Env Tryz.f58.ntmps (envL [(0, ptr b 0), (1, v), (4, .slice none 0 0), (5, .nilIface)]) a ∧ St W (bfp S b B (ob 5 v c0 :: L)) w) (fun i => 0) () ⟨hE.cut ⟨rfl, rfl, rfl, rfl, trivial⟩, hS⟩ ?_; clear hS hE a; rintro ⟨⟩ a w ⟨hE, hS⟩; revert a; refine Xb (Xs (Xg (XX 1 hS rfl ?_))); refine XC hS (gCall rfl) rfl (c84 hS hk hstr hno hlen) ?_; clear hS; intro e w hR; (try dsimp only [bfp, BS.cells, oint] at hR); obtain ⟨B', off, cap, ⟨rfl, x1, x2, x3, x4, x5, x6⟩, hS⟩ := hR; refine ⟨_, rfl, ?_⟩; refine XX 1 hS rfl (XR hS (rExtract rfl rfl) rfl (XR hS (rExtract rfl rfl) rfl (XR hS (rExtract rfl rfl) rfl (XX 3 hS rfl (Xn (Xs (Xg (XX 2 hS rfl ?_))))))))
  refine XD hS (dAppB rfl rfl (.tail (.tail (.tail (.tail .head)))) x6 hb) rfl ?_; clear hS; intro vr w hR; have hS := hR; clear hR; refine XX 1 hS rfl (Xn (Xs (Xs (Xg (XX 1 hS rfl (XR hS (rNilNilN rfl) rfl (Xn (Xf rfl (Xk (Xs (Xg (XX 2 hS rfl (Xn (Xt rfl ?_)))))))))))))); refine Xe rfl (Xs (Xg (XX 3 hS rfl (Xn (Xr ?_))))); rw [x5] at hS; exact X2 rfl rfl rfl ⟨B', vr, ⟨rfl, x1, x3, x4⟩, hS.arr⟩
/-- textproto.hasContinuationLine -/
theorem c85 (hS : St W (bfp S b B L) w) (hk : B.ok) {d : UInt8} {tail : List UInt8} (hstr : B.str = d :: tail) :
    Calls Tryz.prog 85 #[ptr b 0] w fun e w' => ∃ (B' : BS), (e = .returned (.bool (isSp d)) ∧ B'.ok ∧ B'.c.length = B.c.length ∧ B'.str = d :: tail) ∧ St W (bfp S b B' L) w' := by
  refine fn_calls (args := [ptr b 0]) Tryz.func85 rfl rfl rfl ?_; refine Xs (Xg (XX 1 hS rfl (Xn (Xs (Xg (XX 1 hS rfl ?_)))))); refine XC hS (gCall rfl) rfl (c110 hS hk hstr) ?_; clear hS; intro e w hR; (try dsimp only [bfp, BS.cells, oint] at hR); obtain ⟨B1, ⟨rfl, x1, x2, x3, x4, x5, x6, x7⟩, hS⟩ := hR; refine ⟨_, rfl, ?_⟩; refine XX 1 hS rfl (XR hS (rExtract rfl rfl) rfl (XR hS (rExtract rfl rfl) rfl (XX 2 hS rfl (Xn (Xs (Xs (Xg (XX 1 hS rfl (XR hS (rNilNilN rfl) rfl (Xn (Xf rfl (Xk (Xs (Xg ?_)))))))))))))); refine XX 1 hS rfl ?_; refine XC hS (gCall rfl) rfl (c111 hS x1 x5 x6 x7) ?_; clear hS; intro e w hR; (try dsimp only [bfp, BS.cells, oint] at hR); obtain ⟨B2, ⟨rfl, y1, y2, y3, y4⟩, hS⟩ := hR; refine ⟨_, rfl, ?_⟩; refine Xn (Xs (Xg (XX 1 hS rfl ?_))); refine XC hS (gCall rfl) rfl (c57 hS) ?_; clear hS; intro e w hR; (try dsimp only [bfp, BS.cells, oint] at hR)
  obtain ⟨rfl, hS⟩ := hR; refine ⟨_, rfl, ?_⟩; refine XX 1 hS rfl (Xn (Xr ?_)); exact X1 rfl rfl ⟨B2, ⟨rfl, y1, y3.trans x3, by rw [y4, x4]⟩, hS⟩
end
end Go.Proofs
end
section
namespace Go.Proofs
open Go.Eng
theorem digits_byl : ∀ (n t : Nat) (c0 : List UInt8), ∃ c, Extern.BytealgMakeNoZero.digits n t (byl c0).toArray = (byl (c0 ++ c)).toArray ∧ c.length = n
  | 0, t, c0 => ⟨[], by simp [Extern.BytealgMakeNoZero.digits], rfl⟩
  | n + 1, t, c0 => by
    obtain ⟨c, h1, h2⟩ := digits_byl n (t / 256) (c0 ++ [UInt8.ofNat (t % 256)]); refine ⟨UInt8.ofNat (t % 256) :: c, ?_, by simp [h2]⟩; rw [Extern.BytealgMakeNoZero.digits]; have e : (byl c0).toArray.push (Value.int .u8 (Int.ofNat (t % 256))) = (byl (c0 ++ [UInt8.ofNat (t % 256)])).toArray := by
      simp [byl, byteV]
    rw [e, h1]; simp
section
variable {W w : World} {s r m : List SL} {f : Ev} {x y : Operand} {L : List SL} {b : Nat}
theorem St.shape {l : List Value} {E : TypeId} {fz : Nat × Nat} (h : St W s w) [k : HasCel s b l E fz] : w.shape? b = some (E, l.length) := by
  simp [World.shape?, h.blk (b := b)]
theorem dMakeNoZero {n : Nat} {ats : Array TypeId} (hx : opv f x = some (.int .i64 (n : Int))) (hn : n ≤ 1073741824) : Does Tryz.prog W s f (.call { callee := .value (.func 133), args := #[x], argTypes := ats }) (fun v w' => ∃ b c, v = .slice (some ⟨b, 0, none⟩) n c.length ∧ n ≤ c.length ∧ St W (bys 5 b c :: s) w') := by
  refine dExt (vs := [.int .i64 (n : Int)]) (xs := [x]) (by simp [opvs, hx]) fun w hS => ?_; have h := run_callFunc_extern (P := Tryz.prog) (f := 133) (fn := Tryz.f133) Tryz.func133 (by kernel_rfl) (by kernel_rfl) (by kernel_rfl) (by kernel_rfl : Extern.find Tryz.f133 = some (Extern.BytealgMakeNoZero.makeNoZero #[3] #[49])) #[.int .i64 (n : Int)] w; obtain ⟨c, hc1, hc2⟩ := digits_byl (grownCap w n 0 5) ((Question.extern "internal/bytealg.MakeNoZero.bytes" 0).cut (w.tape (w.drawn + 1) (.extern "internal/bytealg.MakeNoZero.bytes" 0))) []; have h1 : ¬ (n : Int) < 0 := by omega
  have h2 : ¬ (281474976710656 : Int) < (n : Int) := by omega
  have hrun : (Extern.BytealgMakeNoZero.makeNoZero #[3] #[49] #[.int .i64 n]).run Tryz.prog w = .ok (.slice (some ⟨w.heap.size, 0, none⟩) n (grownCap w n 0 5)) (w.drew.drew.alloc (.cells (byl c).toArray 5)) := by
    simp only [byl, List.map_nil, List.nil_append] at hc1; rw [show Extern.BytealgMakeNoZero.makeNoZero #[3] #[49] #[.int .i64 n] = (underlying 49 >>= _) from rfl]; simp [run_underlying Tryz.underlying49, h1, h2, Question.forced, newRow, grownCap]; exact congrArg (fun z => w.drew.drew.alloc (.cells z 5)) hc1
  rw [hrun, Result.andThen_ok] at h; refine ⟨_, _, h, w.heap.size, c, by rw [hc2], by rw [hc2]; have := grownCap_ge w n 0 5; simpa using this, ?_⟩; exact (hS.drew.drew.alloc_bys (E := 5) (c := c))
theorem rNoEsc {v : Value} {ats : Array TypeId} (hx : opv f x = some v) : Reads Tryz.prog W s f (.call { callee := .value (.func 132), args := #[x], argTypes := ats }) v := by
  refine rExt (vs := [v]) (xs := [x]) (by simp [opvs, hx]) fun w hS => ?_; have h := run_callFunc_extern (P := Tryz.prog) (f := 132) (fn := Tryz.f132) Tryz.func132 (by kernel_rfl) (by kernel_rfl) (by kernel_rfl) (by kernel_rfl : Extern.find Tryz.f132 = some Extern.AbiNoEscape.same) #[v] w; rw [Lib.run_noEscape, Result.andThen_ok] at h; exact h
theorem rToUns {l : List Value} {fz : Nat × Nat} (hx : opv f x = some (ptr b 0)) [k : HasCel s b l 178 fz] (hl : 0 < l.length) : Reads Tryz.prog W s f (.convert 176 229 x) (ptr b 0) := fun N a w dst ty pos aft hE hS => by
  simp only [execOp, hE.eval hx]; exact run_v (Lib.run_to_unsafe (P := Tryz.prog) w ⟨b, 0, none⟩ Tryz.underlying176 Tryz.underlying229 (by kernel_rfl : Tryz.prog.info? 178 = some Tryz.t178) (by decide) (St.shape hS) hl)
theorem rFromUns {l : List Value} {fz : Nat × Nat} (hx : opv f x = some (ptr b 0)) [k : HasCel s b l 178 fz] (hl : l.length = 2) : Reads Tryz.prog W s f (.convert 229 176 x) (ptr b 0) := fun N a w dst ty pos aft hE hS => by
  simp only [execOp, hE.eval hx]; refine run_v (Lib.run_from_unsafe (P := Tryz.prog) (e := 178) (cells := 2) w ⟨b, 0, none⟩ Tryz.underlying229 Tryz.underlying176 (by kernel_rfl : Tryz.prog.info? 178 = some Tryz.t178) (by rw [← hl]; exact (St.shape hS)) ?_); kernel_rfl
/-- (*strings.Builder).copyCheck -/
theorem c112 {pv v : Value} (hS : St W (cel b [pv, v] 178 (0, 0) :: L) w) (hp : pv = .pointer none ∨ pv = ptr b 0) : Calls Tryz.prog 112 #[ptr b 0] w fun e w' => e = .returned (.tuple #[]) ∧ St W (cel b [ptr b 0, v] 178 (0, 0) :: L) w' := by
  refine fn_calls (args := [ptr b 0]) Tryz.func112 rfl rfl rfl fun a hE => ?_; refine cw_seq ?_; rcases hp with rfl | rfl
  · revert a; refine Xg (XX 1 hS rfl (XR hS (rNil rfl) rfl (XR hS (rField rfl) rfl (XR hS (rLoad rfl (by exact rfl)) rfl ?_)))); refine XR hS (rNilP rfl rfl) rfl (Xn (Xt rfl (Xg (XX 2 hS rfl (XR hS (rToUns rfl (by exact Nat.zero_lt_succ _)) rfl ?_))))); refine XR hS (rNoEsc rfl) rfl (XR hS (rFromUns rfl rfl) rfl (XR hS (rNil rfl) rfl (XR hS (rField rfl) rfl ?_))); refine XN hS (dStoreL rfl rfl (by exact rfl) rfl (by first | rfl | assumption | exact erv_one)) ?_; clear hS; intro _ w hS; refine Xn ?_; exact X0 rfl ⟨rfl, hS⟩
  · revert a; refine Xg (XX 1 hS rfl (XR hS (rNil rfl) rfl (XR hS (rField rfl) rfl (XR hS (rLoad rfl (by exact rfl)) rfl ?_)))); refine XR hS (rPNil rfl rfl) rfl (Xn (Xf rfl (Xs (Xg (XX 1 hS rfl (XR hS (rNil rfl) rfl (XR hS (rField rfl) rfl (XR hS (rLoad rfl (by exact rfl)) rfl ?_)))))))); refine XX 1 hS rfl (XR hS (rPSameN rfl rfl) rfl (Xn (Xf rfl (Xk ?_)))); exact X0 rfl ⟨rfl, hS⟩
/-- (*strings.Builder).grow, of a fresh one -/
theorem c113 {n : Nat} (hS : St W (cel b [ptr b 0, .slice none 0 0] 178 (0, 0) :: L) w) (hn1 : n ≤ 1073741824) : Calls Tryz.prog 113 #[ptr b 0, .int .i64 (n : Int)] w fun e w' => ∃ v, e = .returned (.tuple #[]) ∧ St W (cel b [ptr b 0, v] 178 (0, 0) :: ob 5 v [] :: L) w' := by
  refine fn_calls (args := [ptr b 0, .int .i64 (n : Int)]) Tryz.func113 rfl rfl rfl ?_; refine Xs ?_; refine Xh ([cel b [ptr b 0, .slice none 0 0] 178 (0, 0)]) [.s, .s, .s, .r, .r, .s, .s, .s, .h, .s, .s, .s, .s, .s, .s, .s] mixed (by kernel_rfl) hS ?_; clear hS; intro w hS; refine XS (rMove rfl) rfl (XS (rNil rfl) rfl (XS (rField rfl) rfl (XT hS (rLoad rfl (by exact rfl)) rfl ?_))); refine XT hS (rCap rfl) rfl (XS (rMul rfl rfl (r := ((0 : Nat) : Int)) rfl) rfl (XS (rMove rfl) rfl (XS (rAddN (m := 0) rfl rfl (by omega) rfl) rfl ?_))); refine XH hS (dMakeNoZero rfl (by omega)) rfl ?_; clear hS; intro vr w hR; obtain ⟨bb, c, rfl, hc, hS⟩ := hR; refine ⟨hS.sub, ?_⟩; refine XS (rMove rfl) rfl (XS (rNil rfl) rfl (XS (rField rfl) rfl (XS (rLoad rfl (by exact rfl)) rfl ?_))); refine XS (rLen rfl) rfl (XS (rSlc0 (j := 0) rfl rfl (by omega)) rfl ?_)
  refine XS (rAssign rfl) rfl (Xn (Xs (Xg (XX 2 hS rfl (XR hS (rNil rfl) rfl (XR hS (rField rfl) rfl (XR hS (rLoad rfl (by exact rfl)) rfl ?_))))))); refine XD hS (dCopy0 rfl rfl (by decide)) rfl ?_; clear hS; intro vr w hR; obtain ⟨rfl, hS⟩ := hR; refine Xn (Xg (XX 2 hS rfl (XR hS (rNil rfl) rfl (XR hS (rField rfl) rfl ?_)))); refine XN hS (dStoreL rfl rfl (by exact rfl) rfl (by first | rfl | assumption | exact erv_one)) ?_; clear hS; intro _ w hS; refine Xn ?_; refine X0 rfl ⟨.slice (some ⟨bb, 0, none⟩) 0 c.length, rfl, ?_⟩; have h2 : St W (ob 5 (.slice (some ⟨bb, 0, none⟩) 0 c.length) [] :: cel b [ptr b 0, .slice (some ⟨bb, 0, none⟩) 0 c.length] 178 (0, 0) :: L) w := hS.ob_of (c := []) (junk := c); exact h2.swap
/-- (*strings.Builder).Grow, of a fresh one -/
theorem c87 {n : Nat} (hS : St W (cel b [.pointer none, .slice none 0 0] 178 (0, 0) :: L) w) (hn1 : n ≤ 1073741824) (hn0 : 0 < n) : Calls Tryz.prog 87 #[ptr b 0, .int .i64 (n : Int)] w fun e w' => ∃ v, e = .returned (.tuple #[]) ∧ St W (cel b [ptr b 0, v] 178 (0, 0) :: ob 5 v [] :: L) w' := by
  refine fn_calls (args := [ptr b 0, .int .i64 (n : Int)]) Tryz.func87 rfl rfl rfl ?_; refine Xs (Xg (XX 1 hS rfl ?_)); refine XC hS (gCall rfl) rfl (c112 hS (.inl rfl)) ?_; clear hS; intro e w hR; (try dsimp only [bfp, BS.cells, oint] at hR); obtain ⟨rfl, hS⟩ := hR; refine ⟨_, rfl, ?_⟩; refine Xn (Xs (Xs (Xg (XX 1 hS rfl (XR hS (rCmp rfl rfl (cmp_lssF (by omega))) rfl ?_))))); refine Xn (Xf rfl (Xk (Xs ?_))); refine Xd [.s, .s, .s, .s, .s, .s, .s, .s, .s, .s, .s, .s, .s] mixed (by kernel_rfl) hS ?_; clear hS; intro w hS; refine XS (rMove rfl) rfl (XS (rNil rfl) rfl (XS (rField rfl) rfl (XS (rLoad rfl (by exact rfl)) rfl ?_))); refine XS (rCap rfl) rfl (XS (rMove rfl) rfl (XS (rNil rfl) rfl (XS (rField rfl) rfl (XS (rLoad rfl (by exact rfl)) rfl ?_)))); refine XS (rLen rfl) rfl (XS (rSubN rfl rfl (by first | omega | (simp <;> omega)) (by first | omega | (simp <;> omega)) rfl) rfl ?_)
  refine XS (rMove rfl) rfl (XS (rCmp rfl rfl (cmp_lssT (by omega))) rfl ?_); refine Xn (Xt rfl (Xg (XX 2 hS rfl ?_))); refine XC hS (gCall rfl) rfl (c113 hS hn1) ?_; clear hS; intro e w hR; (try dsimp only [bfp, BS.cells, oint] at hR); obtain ⟨v, rfl, hS⟩ := hR; refine ⟨_, rfl, ?_⟩; refine Xn ?_; exact X0 rfl ⟨v, rfl, hS⟩
/-- (*strings.Builder).Len -/
theorem c114 {pv v : Value} {c : List UInt8} (hS : St W (cel b [pv, v] 178 (0, 0) :: ob 5 v c :: L) w) : Calls Tryz.prog 114 #[ptr b 0] w fun e w' => e = .returned (.int .i64 (c.length : Int)) ∧ St W (cel b [pv, v] 178 (0, 0) :: ob 5 v c :: L) w' := by
  refine fn_calls (args := [ptr b 0]) Tryz.func114 rfl rfl rfl ?_; refine Xs (Xg (XX 1 hS rfl (Xn (Xs (Xg (XX 1 hS rfl (XR hS (rNil rfl) rfl (XR hS (rField rfl) rfl (XR hS (rLoad rfl (by exact rfl)) rfl ?_))))))))); refine XR hS (rLenOb rfl (.tail .head)) rfl (XX 1 hS rfl (Xn (Xr ?_))); exact X1 rfl rfl ⟨rfl, hS⟩
/-- (*strings.Builder).Write -/
theorem c115 {v : Value} {c c1 l : List UInt8} {b1 off n cap : Nat} (hS : St W (cel b [ptr b 0, v] 178 (0, 0) :: ob 5 v c :: L) w) [q : HasBys L 5 b1 c1] (hr : RowIs c1 off n l) (hb : c.length + n ≤ 1099511627776) :
    Calls Tryz.prog 115 #[ptr b 0, .slice (some ⟨b1, off, none⟩) n cap] w fun e w' => ∃ v', e = .returned (.tuple #[.int .i64 (n : Int), .nilIface]) ∧ St W (cel b [ptr b 0, v'] 178 (0, 0) :: ob 5 v' (c ++ l) :: L) w' := by
  refine fn_calls (args := [ptr b 0, .slice (some ⟨b1, off, none⟩) n cap]) Tryz.func115 rfl rfl rfl ?_; refine Xs (Xg (XX 2 hS rfl (Xn (Xs (Xg (XX 1 hS rfl ?_)))))); refine XC hS (gCall rfl) rfl (c112 hS (.inr rfl)) ?_; clear hS; intro e w hR; (try dsimp only [bfp, BS.cells, oint] at hR); obtain ⟨rfl, hS⟩ := hR; refine ⟨_, rfl, ?_⟩; refine Xn (Xs (Xg (XX 2 hS rfl (XR hS (rNil rfl) rfl (XR hS (rField rfl) rfl (XR hS (rLoad rfl (by exact rfl)) rfl ?_)))))); refine XX 1 hS rfl ?_; refine XD hS (dAppB (c := c) (c2 := c1) rfl rfl (.tail .head) hr.le hb) rfl ?_; clear hS; intro vr w hR; have hS := hR; clear hR; have hone := hS.ob_one; refine XR hS (rNil rfl) rfl (XR hS (rField rfl) rfl ?_); refine XN hS (dStoreL rfl rfl (by exact rfl) rfl (by first | rfl | assumption | exact erv_one)) ?_; clear hS; intro _ w hS; refine Xn (Xs (Xg (XX 1 hS rfl (XR hS (rLen rfl) rfl (XX 2 hS rfl (Xn (Xr ?_)))))))
  rw [hr.is] at hS; exact X2 rfl rfl rfl ⟨vr, rfl, hS.swap⟩
theorem freeze_eq {w : World} {b n : Nat} {c : Array Value} {E : TypeId} {fz : Nat × Nat} (h : w.heap[b]? = some (.cells c E fz)) (hn : n ≠ 0) : ∃ o, w.freeze ⟨b, 0, none⟩ n = { w with heap := w.heap.setIfInBounds b o } := by
  obtain ⟨hlt, hget⟩ := Array.getElem?_eq_some_iff.1 h; refine ⟨.cells c E (if fz.1 == fz.2 then (0, 0 + n) else (min fz.1 0, max fz.2 (0 + n))), ?_⟩; unfold World.freeze; rw [if_neg hn]; congr 1; apply Array.ext
  · simp
  · intro i h1 h2; by_cases e : b = i
    · subst e; simp [Array.getElem_modify, hget]
    · simp only [Array.getElem_modify, e, if_false]; have h3 := Array.getElem?_setIfInBounds_ne (xs := w.heap) (a := Obj.cells c E (if fz.1 == fz.2 then (0, 0 + n) else (min fz.1 0, max fz.2 (0 + n)))) e; rw [Array.getElem?_eq_getElem h2, Array.getElem?_eq_getElem (by simpa using h1)] at h3; exact (Option.some.inj h3).symm
theorem rSliceData {q : Addr} {n cap : Nat} {t : TypeId} (hx : opv f x = some (.slice (some q) n cap)) (hc : cap ≠ 0) : Reads Tryz.prog W s f (.call { callee := .builtin .unsafeSliceData, args := #[x], argTypes := #[t] }) (.pointer (some q)) := fun N a w dst ty pos aft hE hS => by
  rw [BigFrame.execOp_builtin]; simp only [List.map_toArray, List.map_cons, List.map_nil, hE.eval hx]; exact run_v (Lib.run_unsafeSliceData_row (P := Tryz.prog) w #[t] ty q n cap hc)
theorem dUnsafeString {c junk : List UInt8} (hx : opv f x = some (ptr b 0)) (hy : opv f y = some (.int .i64 (c.length : Int))) (hp : Pull (bys 5 b (c ++ junk)) s r) (hc : c ≠ []) (hmy : c.length ≤ 1099511627776) :
    Does Tryz.prog W s f (.call { callee := .builtin .unsafeString, args := #[x, y], argTypes := #[215, 3] }) (fun v w' => v = .string (mkS c) ∧ St W r w') := fun N a w dst ty pos aft hE hS => by
  obtain ⟨fz, h1, h2⟩ := (hS.pull hp).open_bys; have hb := h2.blk (b := b); have hl : c.length ≠ 0 := fun e => hc (List.length_eq_zero_iff.1 e); have hrun := Lib.run_unsafeString_row (P := Tryz.prog) w 215 3 ty 5 Tryz.underlying215 (by kernel_rfl) b (byl (c ++ junk)).length (by simp [World.shape?, hb]) c hc (by rw [length_byl]; simp) (by omega) (fun j d hd => by
    rw [add_addr, Nat.zero_add]; exact h2.cell (b := b) (byl_get (by rw [List.getElem?_append_left (List.getElem?_eq_some_iff.1 hd).1]; exact hd)))
  obtain ⟨o, ho⟩ := freeze_eq hb hl; rw [ho] at hrun; refine ⟨_, _, .inl ?_, rfl, (h2.write (o' := o) (m := pt b o :: r) .head).tail⟩; rw [BigFrame.execOp_builtin]; simp only [List.map_toArray, List.map_cons, List.map_nil, hE.eval hx, hE.eval hy]; exact run_v hrun
/-- (*strings.Builder).String, for the last time -/
theorem c89 {pv v : Value} {c : List UInt8} (hS : St W (cel b [pv, v] 178 (0, 0) :: ob 5 v c :: L) w) (hc : c ≠ []) (hmy : c.length ≤ 1099511627776) : Calls Tryz.prog 89 #[ptr b 0] w fun e w' => e = .returned (.string (mkS c)) ∧ St W L w' := by
  have hpos : 0 < c.length := List.length_pos_iff.2 hc; rcases hS.swap.ob_cases with ⟨_, h, _⟩ | ⟨b', junk, rfl, hS⟩
  · exact absurd h hc
  replace hS := hS.swap; have hcap : (c ++ junk).length ≠ 0 := by rw [List.length_append]; omega
  refine fn_calls (args := [ptr b 0]) Tryz.func89 rfl rfl rfl ?_; refine Xs (Xg (XX 1 hS rfl (Xn (Xs ?_)))); refine Xh ([]) [.s, .s, .s, .r, .s, .s, .s, .s, .r, .r, .h, .s] mixed (by kernel_rfl) hS ?_; clear hS; intro w hS; refine XS (rMove rfl) rfl (XS (rNil rfl) rfl (XS (rField rfl) rfl (XT hS (rLoad rfl (by exact rfl)) rfl ?_))); refine XS (rSliceData rfl hcap) rfl (XS (rMove rfl) rfl (XS (rNil rfl) rfl (XS (rField rfl) rfl (XT hS (rLoad rfl (by exact rfl)) rfl ?_)))); refine XT hS (rLen rfl) rfl ?_; refine XH hS (dUnsafeString rfl rfl (.tail .head) hc hmy) rfl ?_; clear hS; intro vr w hR; obtain ⟨rfl, hS⟩ := hR; refine ⟨hS.sub, ?_⟩; refine XS (rAssign rfl) rfl (Xn (Xr ?_)); exact X1 rfl rfl ⟨rfl, hS.tail⟩
end
end Go.Proofs
end
section
namespace Go.Proofs
open Go.Eng
/-- what a field may say: no blank at its ends, no line end -/
structure IsVal (l : List UInt8) : Prop where
  ne : l ≠ []
  first : ∀ d, l[0]? = some d → isSp d = false
  last : ∀ d, l[l.length - 1]? = some d → isSp d = false
  cr : (13 : UInt8) ∉ l
  lf : (10 : UInt8) ∉ l
  len : l.length ≤ 2000
section
variable {W w : World} {s : List SL} {L : List SL} {b : Nat}
/-- textproto.writeContinued, of a line -/
theorem c88 {v : Value} {val c1 : List UInt8} {b1 off n cap : Nat} (hS : St W (cel b [ptr b 0, v] 178 (0, 0) :: ob 5 v [] :: L) w) [q : HasBys L 5 b1 c1] (hr : RowIs c1 off n (32 :: (val ++ [13]))) (hcap : n ≤ cap) (hv : IsVal val) :
    Calls Tryz.prog 88 #[ptr b 0, .slice (some ⟨b1, off, none⟩) n cap] w fun e w' => ∃ v', e = .returned (.tuple #[]) ∧ St W (cel b [ptr b 0, v'] 178 (0, 0) :: ob 5 v' val :: L) w' := by
  have hn := hr.len; simp only [List.length_cons, List.length_append, List.length_nil] at hn; have hpos := List.length_pos_iff.2 hv.ne; have hl := hv.len; have hr2 : RowIs c1 off (n - 1) (32 :: val) := by
    have := hr.pre (k := n - 1) (by omega); rw [← hn] at this; simp only [Nat.zero_add, Nat.add_sub_cancel] at this; rw [show n - 1 = val.length + 1 by omega]; simpa using this
  have hr3 : RowIs c1 (slo off [32].length cap) val.length val := by
    have := hr2.sub (i := 1) (cap := cap) (by omega) (by omega); rw [show n - 1 - 1 = val.length by omega] at this; simpa using this
  refine fn_calls (args := [ptr b 0, .slice (some ⟨b1, off, none⟩) n cap]) Tryz.func88 rfl rfl rfl ?_; refine Xs (Xs (Xg (XX 1 hS rfl (XR hS (rLen rfl) rfl (XR hS (rCmp rfl rfl (cmp_gtrT (by omega))) rfl ?_))))); refine XX 9 hS rfl (XA rfl rfl (XR hS (rLen rfl) rfl (XX 5 hS rfl (XA rfl rfl (XR hS (rSubN (n := 1) rfl rfl (by first | omega | (simp <;> omega)) (by first | omega | (simp <;> omega)) rfl) rfl ?_))))); refine XX 4 hS rfl (XA rfl rfl (XR hS (rIdxA1 rfl rfl (by omega)) rfl ?_)); refine XX 3 hS rfl (XA rfl rfl (XR hS (rLoadB rfl (idx_eq (hr.at (d := 13) (i := val.length + 1) (by simp)) (by omega))) rfl ?_)); refine XX 2 hS rfl (XA rfl rfl (XR hS (rB8 (d := 13) rfl rfl rfl) rfl (XX 1 hS rfl (Xn (Xt rfl (Xg (XX 2 hS rfl (XR hS (rLen rfl) rfl (XR hS (rSubN (n := 1) rfl rfl (by first | omega | (simp <;> omega)) (by first | omega | (simp <;> omega)) rfl) rfl ?_)))))))))
  refine XR hS (rSlc0 rfl rfl (by omega)) rfl ?_; refine XX 1 hS rfl (Xn (Xs (Xg (XX 1 hS rfl ?_)))); refine XC hS (gCall rfl) rfl (c62 hS hr2 (by omega) (by omega) (p := [32]) (m := val) rfl (by intro d hd; simp at hd; subst hd; decide) hv.first hv.last) ?_; clear hS; intro e w hR; (try dsimp only [bfp, BS.cells, oint, List.length_nil, List.length_cons, List.nil_append] at hR); obtain ⟨rfl, hS⟩ := hR; refine ⟨_, rfl, ?_⟩; refine XX 1 hS rfl (Xn (Xs (Xs (Xg (XX 1 hS rfl (XR hS (rLen rfl) rfl (XR hS (rCmp rfl rfl (cmp_eqlF (by omega))) rfl ?_))))))); refine Xn (Xf rfl (Xk (Xs (Xs (Xg (XX 1 hS rfl ?_)))))); refine XC hS (gCall rfl) rfl (c114 hS) ?_; clear hS; intro e w hR; (try dsimp only [bfp, BS.cells, oint, List.length_nil, List.length_cons, List.nil_append] at hR); obtain ⟨rfl, hS⟩ := hR; refine ⟨_, rfl, ?_⟩; refine XR hS (rCmp rfl rfl (cmp_gtrF (by omega))) rfl ?_
  refine Xn (Xf rfl (Xk (Xg (XX 2 hS rfl ?_)))); refine XC hS (gCall rfl) rfl (c115 hS hr3 (by simp; omega)) ?_; clear hS; intro e w hR; (try dsimp only [bfp, BS.cells, oint, List.length_nil, List.length_cons, List.nil_append] at hR); obtain ⟨v', rfl, hS⟩ := hR; refine ⟨_, rfl, ?_⟩; refine Xn ?_; exact X0 rfl ⟨v', rfl, hS⟩
/-- .. of nothing -/
theorem c88n {b1 off cap : Nat} {c1 : List UInt8} (hS : St W s w) [q : HasBys s 5 b1 c1] (ho : off ≤ c1.length) :
    Calls Tryz.prog 88 #[ptr b 0, .slice (some ⟨b1, off, none⟩) 0 cap] w fun e w' => e = .returned (.tuple #[]) ∧ St W s w' := by
  refine fn_calls (args := [ptr b 0, .slice (some ⟨b1, off, none⟩) 0 cap]) Tryz.func88 rfl rfl rfl ?_; refine Xs (Xs (Xg (XX 1 hS rfl (XR hS (rLen rfl) rfl (XR hS (rCmp rfl rfl (cmp_gtrF (by omega))) rfl ?_))))); refine XX 9 hS rfl (Xn (Xf rfl (Xk (Xs (Xg (XX 1 hS rfl ?_)))))); refine XC hS (gCall rfl) rfl (c62 hS (n := 0) (l := []) ⟨by omega, by simp⟩ (by omega) (by omega) (p := []) (m := []) rfl (by intro d hd; cases hd) (by intro d hd; cases hd) (by intro d hd; cases hd)) ?_; clear hS; intro e w hR; (try dsimp only [bfp, BS.cells, oint, List.length_nil, List.length_cons, List.nil_append] at hR); obtain ⟨rfl, hS⟩ := hR; refine ⟨_, rfl, ?_⟩; refine XX 1 hS rfl (Xn (Xs (Xs (Xg (XX 1 hS rfl (XR hS (rLen rfl) rfl (XR hS (rCmp rfl rfl (cmp_eqlT (by omega))) rfl ?_))))))); refine Xn (Xt rfl (Xr ?_)); exact X0 rfl ⟨rfl, hS⟩
/-- textproto.trimAroundNewlines, of one line -/
theorem c64 {val c1 : List UInt8} {b1 off n cap : Nat} (hS : St W L w) [q : HasBys L 5 b1 c1] (hr : RowIs c1 off n (32 :: (val ++ [13, 10]))) (hcap : n ≤ cap) (hv : IsVal val) :
    Calls Tryz.prog 64 #[.slice (some ⟨b1, off, none⟩) n cap] w fun e w' => e = .returned (.string (mkS val)) ∧ St W L w' := by
  have hn := hr.len; simp only [List.length_cons, List.length_append, List.length_nil] at hn; have hl := hv.len; have hr1 : RowIs c1 off (val.length + 2) (32 :: (val ++ [13])) := by
    have := hr.pre (k := val.length + 2) (by omega); rw [List.take_succ_cons, List.take_append, List.take_of_length_le (show val.length ≤ val.length + 1 by omega), show val.length + 1 - val.length = 1 by omega] at this; simpa using this
  refine fn_calls (args := [.slice (some ⟨b1, off, none⟩) n cap]) Tryz.func64 rfl rfl rfl ?_; refine Xs (Xg (XX 1 hS rfl (Xn (Xs (Xg ?_))))); refine XD hS (dAlloc) rfl ?_; clear hS; intro vr w hR; obtain ⟨b3, rfl, hS⟩ := hR; refine Xn (Xs (Xg (XX 1 hS rfl (XR hS (rLen rfl) rfl ?_)))); refine XC hS (gCall rfl) rfl (c87 hS (by omega) (by omega)) ?_; clear hS; intro e w hR; (try dsimp only [bfp, BS.cells, oint, List.length_nil, List.length_cons, List.nil_append] at hR); obtain ⟨v, rfl, hS⟩ := hR; refine ⟨_, rfl, ?_⟩; refine Xn (Xs (Xb ?_)); intro a hE
  refine cw_loop (fun (σ : Bool) a w => Env Tryz.f64.ntmps (envL [(0, bif σ then .slice (some ⟨b1, slo off (val.length + 2 + 1) cap, none⟩) 0 (cap - (val.length + 2 + 1)) else .slice (some ⟨b1, off, none⟩) n cap), (3, ptr b3 0)]) a ∧ ∃ v, St W (cel b3 [ptr b3 0, v] 178 (0, 0) :: ob 5 v (bif σ then val else []) :: L) w) (fun σ => bif σ then 0 else 1) false ⟨hE.cut ⟨rfl, rfl, trivial⟩, v, hS⟩ ?_; clear hS hE a; rintro σ a w ⟨hE, v, hS⟩; cases σ with
  | false =>
    simp only [cond_false] at hE hS; revert a; refine Xb (Xs (Xg (XX 1 hS rfl ?_))); refine XC hS (gCall rfl) rfl (c61 (d := 10) hS hr.le (r := ((val.length + 2 : Nat) : Int)) (by rw [hr.is, show 32 :: (val ++ [13, 10]) = (32 :: (val ++ [13])) ++ 10 :: [] by simp, idx_found (by simp [hv.lf])]; simp; omega)) ?_; clear hS; intro e w hR; (try dsimp only [bfp, BS.cells, oint, List.length_nil, List.length_cons, List.nil_append] at hR); obtain ⟨rfl, hS⟩ := hR; refine ⟨_, rfl, ?_⟩; refine XX 1 hS rfl (Xn (Xs (Xs (Xg (XX 1 hS rfl (XR hS (rCmp rfl rfl (cmp_lssF (by omega))) rfl ?_)))))); refine Xn (Xf rfl (Xk (Xs (Xg (XX 2 hS rfl (XR hS (rSlc0 rfl rfl (by omega)) rfl ?_)))))); refine XC hS (gCall rfl) rfl (c88 hS (hr1) (by omega) hv) ?_; clear hS; intro e w hR; (try dsimp only [bfp, BS.cells, oint, List.length_nil, List.length_cons, List.nil_append] at hR); obtain ⟨v', rfl, hS⟩ := hR
    refine ⟨_, rfl, ?_⟩; refine Xn (Xg (XX 2 hS rfl (XR hS (rAddN (n := 1) rfl rfl (by first | omega | (simp <;> omega)) rfl) rfl ?_))); refine XR hS (rSlc1 rfl rfl (by omega)) rfl ?_; refine XX 1 hS rfl (Xn ?_); intro a hE; rw [show n - (val.length + 2 + 1) = 0 by omega] at hE; exact ⟨true, by decide, hE.cut ⟨rfl, rfl, trivial⟩, v', hS⟩
  | true =>
    simp only [cond_true] at hE hS; revert a; refine Xb (Xs (Xg (XX 1 hS rfl ?_))); refine XC hS (gCall rfl) rfl (c61 (d := 10) hS (by have := hr.le; unfold slo; split <;> omega) (r := -1) (by rw [List.take_zero]; rfl)) ?_; clear hS; intro e w hR; (try dsimp only [bfp, BS.cells, oint, List.length_nil, List.length_cons, List.nil_append] at hR); obtain ⟨rfl, hS⟩ := hR; refine ⟨_, rfl, ?_⟩; refine XX 1 hS rfl (Xn (Xs (Xs (Xg (XX 1 hS rfl (XR hS (rCmp rfl rfl (cmp_lssT (by omega))) rfl ?_)))))); refine Xn (Xt rfl (Xs (Xg (XX 1 hS rfl ?_)))); refine XC hS (gCall rfl) rfl (c88n hS (by have := hr.le; unfold slo; split <;> omega)) ?_; clear hS; intro e w hR; (try dsimp only [bfp, BS.cells, oint, List.length_nil, List.length_cons, List.nil_append] at hR); obtain ⟨rfl, hS⟩ := hR; refine ⟨_, rfl, ?_⟩; refine Xn (Xe rfl (Xs (Xg ?_)))
    refine XC hS (gCall rfl) rfl (c89 hS hv.ne (by have := hv.len; omega)) ?_; clear hS; intro e w hR; (try dsimp only [bfp, BS.cells, oint, List.length_nil, List.length_cons, List.nil_append] at hR); obtain ⟨rfl, hS⟩ := hR; refine ⟨_, rfl, ?_⟩; refine XX 1 hS rfl (Xn (Xr ?_)); exact X1 rfl rfl ⟨rfl, hS⟩
end
section
variable {W w : World} {g : Gl W} {S : Src W g} {L : List SL} {b : Nat} {B : BS}
theorem mk256 {bb : Nat} {s : List SL} (hS : St W (bys 5 bb (List.replicate 256 0) :: s) w) : St W (ob 5 (.slice (some ⟨bb, 0, none⟩) 0 256) [] :: s) w := by
  have h := St.ob_of (c := []) (junk := List.replicate 256 0) hS; have e : (([] : List UInt8) ++ List.replicate 256 0).length = 256 := by rw [List.nil_append]; exact List.length_replicate ..
  rw [e] at h; exact h
/-- textproto.readContinuedLineSlice, at the end of a header -/
theorem c60n {tail : List UInt8} (hS : St W (bfp S b B L) w) (hk : B.ok) (hstr : B.str = 13 :: 10 :: tail) :
    Calls Tryz.prog 60 #[ptr b 0] w fun e w' => ∃ (B' : BS) (v : Value), (e = .returned (.tuple #[v, .nilIface]) ∧ B'.ok ∧ B'.c.length = B.c.length ∧ B'.str = tail) ∧ St W (bfp S b B' (ob 5 v [] :: L)) w' := by
  refine fn_calls (args := [ptr b 0]) Tryz.func60 rfl rfl rfl ?_; refine Xs (Xg (XX 2 hS rfl (Xn (Xs (Xg (XX 1 hS rfl ?_)))))); refine XD hS (dMakeB (n := 0) (c := 256) rfl rfl (by omega) (by omega)) rfl ?_; clear hS; intro vr w hR; obtain ⟨bb, rfl, hS⟩ := hR; replace hS := (mk256 hS).tk4 (S.inv B.rest) (bys 5 B.bb B.c) (old W) (cel b (B.cells S) 171 (0, 0)); refine XC hS (gCall rfl) rfl (c58 hS hk (line := []) (by rw [hstr]; rfl) (by simp) (by have := hk.lo; simp; omega) (by simp)) ?_; clear hS; intro e w hR; (try dsimp only [bfp, BS.cells, oint, List.length_nil, List.length_cons, List.nil_append] at hR); obtain ⟨B', v, ⟨rfl, x1, x2, x3⟩, hS⟩ := hR; refine ⟨_, rfl, ?_⟩
  refine XX 1 hS rfl (XR hS (rExtract rfl rfl) rfl (XR hS (rExtract rfl rfl) rfl (XX 2 hS rfl (Xn (Xs (Xs (Xg (XX 1 hS rfl (XR hS (rLoadO rfl g.g1) rfl (XR hS (rNilI2 rfl rfl) rfl (XX 5 hS rfl (Xn (Xf rfl (Xs ?_)))))))))))))); refine Xg (XX 1 hS rfl (XR hS (rNilNilN rfl) rfl (Xn (Xf rfl (Xk (Xs (Xs (Xg (XX 1 hS rfl (XR hS (rLenOb rfl (.tail (.tail (.tail (.tail .head))))) rfl (XR hS (rCmp rfl rfl (cmp_eqlT rfl)) rfl (Xn (Xt rfl (Xs ?_)))))))))))))); refine Xg (XX 3 hS rfl (Xn (Xr ?_))); exact X2 rfl rfl rfl ⟨B', v, ⟨rfl, x1, x2, x3⟩, hS⟩
/-- .. of a field on one line -/
theorem c60 {line tail : List UInt8} {d : UInt8} (hS : St W (bfp S b B L) w) (hk : B.ok) (hstr : B.str = line ++ 13 :: 10 :: d :: tail) (hne : line ≠ []) (hno : (10 : UInt8) ∉ line) (hlen : line.length + 2 ≤ B.c.length) (hd1 : isSp d = false) :
    Calls Tryz.prog 60 #[ptr b 0] w fun e w' => ∃ (B' : BS) (v : Value), (e = .returned (.tuple #[v, .nilIface]) ∧ B'.ok ∧ B'.c.length = B.c.length ∧ B'.str = d :: tail) ∧ St W (bfp S b B' (ob 5 v (line ++ [13, 10]) :: L)) w' := by
  have hmy := hk.hi; have hpos := List.length_pos_iff.2 hne; refine fn_calls (args := [ptr b 0]) Tryz.func60 rfl rfl rfl ?_; refine Xs (Xg (XX 2 hS rfl (Xn (Xs (Xg (XX 1 hS rfl ?_)))))); refine XD hS (dMakeB (n := 0) (c := 256) rfl rfl (by omega) (by omega)) rfl ?_; clear hS; intro vr w hR; obtain ⟨bb, rfl, hS⟩ := hR; replace hS := (mk256 hS).tk4 (S.inv B.rest) (bys 5 B.bb B.c) (old W) (cel b (B.cells S) 171 (0, 0)); refine XC hS (gCall rfl) rfl (c58 hS hk (line := line) hstr hno hlen (by simp; omega)) ?_; clear hS; intro e w hR; (try dsimp only [bfp, BS.cells, oint, List.length_nil, List.length_cons, List.nil_append] at hR); obtain ⟨B', v, ⟨rfl, x1, x2, x3⟩, hS⟩ := hR; refine ⟨_, rfl, ?_⟩
  refine XX 1 hS rfl (XR hS (rExtract rfl rfl) rfl (XR hS (rExtract rfl rfl) rfl (XX 2 hS rfl (Xn (Xs (Xs (Xg (XX 1 hS rfl (XR hS (rLoadO rfl g.g1) rfl (XR hS (rNilI2 rfl rfl) rfl (XX 5 hS rfl (Xn (Xf rfl (Xs ?_)))))))))))))); refine Xg (XX 1 hS rfl (XR hS (rNilNilN rfl) rfl (Xn (Xf rfl (Xk (Xs (Xs (Xg (XX 1 hS rfl (XR hS (rLenOb rfl (.tail (.tail (.tail (.tail .head))))) rfl (XR hS (rCmp rfl rfl (cmp_eqlF (by omega))) rfl ?_))))))))))); refine Xn (Xf rfl (Xk (Xs (Xg (XX 1 hS rfl ?_))))); refine XD hS (dLit rfl rfl rfl rfl) rfl ?_; clear hS; intro vr w hR; obtain ⟨bl, rfl, hS⟩ := hR; replace hS := St.shut_bys0 (c := [13, 10]) hS; refine XD hS (dAppB (c := line) (c2 := [13, 10]) rfl rfl (.tail (.tail (.tail (.tail (.tail .head))))) (by decide) (by omega)) rfl ?_; clear hS; intro vr w hR; have hS := hR; clear hR; replace hS := (show St W (ob 5 vr (line ++ [13, 10]) :: _) w from hS)
  refine XX 1 hS rfl (Xn (Xs (Xb ?_))); replace hS := hS.tk5 (S.inv B'.rest) (bys 5 B'.bb B'.c) (old W) (cel b (B'.cells S) 171 (0, 0)) (ob 5 vr (line ++ [13, 10])); intro a hE; refine cw_loop (fun (i : Unit) a w => Env Tryz.f60.ntmps (envL [(0, ptr b 0), (4, vr)]) a ∧ St W (bfp S b B' (ob 5 vr (line ++ [13, 10]) :: L)) w) (fun i => 0) () ⟨hE.cut ⟨rfl, rfl, trivial⟩, hS.arr⟩ ?_; clear hS hE a; rintro ⟨⟩ a w ⟨hE, hS⟩; revert a; refine Xs (Xs (Xg (XX 1 hS rfl ?_))); refine XC hS (gCall rfl) rfl (c85 hS x1 x3) ?_; clear hS; intro e w hR; (try dsimp only [bfp, BS.cells, oint, List.length_nil, List.length_cons, List.nil_append] at hR); obtain ⟨B2, ⟨rfl, y1, y2, y3⟩, hS⟩ := hR; refine ⟨_, rfl, ?_⟩; refine Xn ?_; intro a hE; rw [hd1] at hE; revert a; refine Xf rfl (Xe rfl (Xs (Xg (XX 3 hS rfl (Xn (Xr ?_)))))); exact X2 rfl rfl rfl ⟨B2, vr, ⟨rfl, y1, y2.trans x2, y3⟩, hS⟩
end
end Go.Proofs
end
section
namespace Go.Proofs
open Go.Eng
/-- a field of a header -/
structure Fld where
  p : Nat
  v : Value
  key : List UInt8
  val : List UInt8
  raw : List UInt8
def fld (F : Fld) : SL := star (cel F.p [F.v, .string (mkS F.key), .string (mkS F.val)] 157 (0, 0)) (ob 5 F.v F.raw)
/-- an entry of a header's map -/
structure ME where
  k : List UInt8
  v : Value
  ps : List Nat
def meSL (e : ME) : SL := own 141 1 e.v e.ps.length (e.ps.map fun p => ptr p 0)
def meE (es : List ME) : List (List UInt8 × Value) := es.map fun e => (e.k, e.v)
def look (es : List ME) (k : List UInt8) : List Nat := match es.find? (fun e => decide (e.k = k)) with | some e => e.ps | none => []
def MapOk (es : List ME) (Fs : List Fld) : Prop := ∀ k, look es k = (Fs.filter fun F => decide (F.key = k)).map (·.p)
theorem look_none {es : List ME} {k : List UInt8} (h : ∀ e ∈ es, e.k ≠ k) : look es k = [] := by
  unfold look; rw [List.find?_eq_none.2 (fun e he => by simpa using h e he)]
theorem look_split {l1 l2 : List ME} {e : ME} {k : List UInt8} (h1 : ∀ e ∈ l1, e.k ≠ k) : look (l1 ++ e :: l2) k = if e.k = k then e.ps else look l2 k := by
  unfold look; rw [List.find?_append, List.find?_eq_none.2 (fun e he => by simpa using h1 e he)]; by_cases h : e.k = k <;> simp [h]
theorem look_app {l1 l2 : List ME} {k : List UInt8} : look (l1 ++ l2) k = if l1.find? (fun e => decide (e.k = k)) = none then look l2 k else look l1 k := by
  unfold look; rw [List.find?_append]; cases l1.find? (fun e => decide (e.k = k)) <;> simp
theorem St.fld_open {W w : World} {F : Fld} {s : List SL} (h : St W (fld F :: s) w) : St W (cel F.p [F.v, .string (mkS F.key), .string (mkS F.val)] 157 (0, 0) :: ob 5 F.v F.raw :: s) w := St.open_star h
theorem St.fld_shut {W w : World} {F : Fld} {s : List SL} (h : St W (cel F.p [F.v, .string (mkS F.key), .string (mkS F.val)] 157 (0, 0) :: ob 5 F.v F.raw :: s) w) : St W (fld F :: s) w := St.shut_star h
/-- an entry is looked for, and gets one more -/
theorem me_step (es : List ME) (k : List UInt8) : ∃ (e1 e2 : List ME) (v0 : Value) (ps0 : List Nat), (mget (meE es) k).getD (.slice none 0 0) = v0 ∧ (∀ v' ps', mset (meE es) k v' = meE (e1 ++ ⟨k, v', ps'⟩ :: e2)) ∧
    (∀ v' ps' k', look (e1 ++ ⟨k, v', ps'⟩ :: e2) k' = if k = k' then ps' else look es k') ∧ look es k = ps0 ∧
    (∀ {W w : World} {s : List SL}, St W (bs meSL es :: s) w → St W (own 141 1 v0 ps0.length (ps0.map fun p => ptr p 0) :: bs meSL (e1 ++ e2) :: s) w) := by
  rcases mget_split ME.k ME.v (k := k) (l := es) with ⟨h1, h2, h3⟩ | ⟨l1, e, l2, h1, h2, h3, h4, h5, h6⟩
  · refine ⟨es, [], .slice none 0 0, [], by unfold meE; rw [h1]; rfl, fun v' ps' => by unfold meE; rw [h2 v']; simp, fun v' ps' k' => ?_, look_none h3, fun h => ?_⟩
    · by_cases hk : k = k'
      · subst hk; rw [look_split h3]; simp
      · rw [if_neg hk, look_app]; by_cases hf : es.find? (fun e => decide (e.k = k')) = none
        · rw [if_pos hf]; unfold look; rw [hf]; simp [hk]
        · rw [if_neg hf]
    · rw [List.append_nil]; exact h.own_nil 141 1
  · subst h1; subst h2; refine ⟨l1, l2, e.v, e.ps, by unfold meE; rw [h4]; rfl, fun v' ps' => by unfold meE; rw [h5 v']; simp, fun v' ps' k' => ?_, by rw [look_split h3]; simp, fun h => h.bs_out⟩; by_cases hk : e.k = k'
    · subst hk; rw [look_split h3]; simp
    · rw [if_neg hk, look_app, look_app]; by_cases hf : l1.find? (fun e => decide (e.k = k')) = none
      · rw [if_pos hf, if_pos hf]; unfold look; simp [hk]
      · rw [if_neg hf, if_neg hf]
section
variable {W w : World} {s : List SL} {L : List SL}
/-- textproto.newHeaderField -/
theorem c65 {key val raw : List UInt8} {v : Value} (hS : St W (ob 5 v raw :: L) w) (hk : ∀ c ∈ key, isNm c = true) (hmy : key.length ≤ 1073741824) :
    Calls Tryz.prog 65 #[.string (mkS key), .string (mkS val), v] w fun e w' => ∃ p, e = .returned (ptr p 0) ∧ St W (fld ⟨p, v, canonF true key, val, raw⟩ :: L) w' := by
  obtain ⟨q, k, rfl, hqk⟩ := hS.ob_len .head; refine fn_calls (args := [.string (mkS key), .string (mkS val), .slice q raw.length k]) Tryz.func65 rfl rfl rfl ?_; refine Xs (Xg (XX 1 hS rfl (Xn (Xs (Xg (XX 1 hS rfl ?_)))))); refine XC hS (gCall rfl) rfl (c46 hS hk hmy) ?_; clear hS; intro e w hR; (try dsimp only [bfp, BS.cells, oint, List.length_nil, List.length_cons, List.nil_append] at hR); obtain ⟨rfl, hS⟩ := hR; refine ⟨_, rfl, ?_⟩; refine XX 2 hS rfl (XR hS (rBuild rfl rfl) rfl ?_); refine XD hS (dBox rfl) rfl ?_; clear hS; intro vr w hR; obtain ⟨b12, rfl, hS⟩ := hR; refine XX 1 hS rfl (Xn (Xr ?_)); refine X1 rfl rfl ⟨b12, rfl, ?_⟩; exact St.shut_star hS
/-- textproto.makeHeaderMap, of no field -/
theorem c77n {q : Option Addr} {k : Nat} (hS : St W s w) : Calls Tryz.prog 77 #[.slice q 0 k] w fun e w' => e = .returned (.map none) ∧ St W s w' := by
  refine fn_calls (args := [.slice q 0 k]) Tryz.func77 rfl rfl rfl ?_; refine Xs (Xg (XX 1 hS rfl (Xn (Xs (Xs (Xg (XX 1 hS rfl (XR hS (rLen rfl) rfl (XR hS (rCmp rfl rfl (cmp_eqlT (by omega))) rfl ?_))))))))); refine Xn (Xt rfl (Xs (Xg (XX 1 hS rfl (Xn (Xr ?_)))))); exact X1 rfl rfl ⟨rfl, hS⟩
/-- textproto.makeHeaderMap -/
theorem c77 {fb n cap : Nat} {Fs : List Fld} {junk : List Value} (hS : St W (cel fb ((Fs.map fun F => ptr F.p 0) ++ junk) 141 (0, 0) :: bs fld Fs :: L) w) (hn0 : Fs.length = n) (hpos : 0 < n) (hmy : n ≤ 1000000) :
    Calls Tryz.prog 77 #[.slice (some ⟨fb, 0, none⟩) n cap] w fun e w' => ∃ mb es, (e = .returned (.map (some mb)) ∧ MapOk es Fs) ∧ St W (mp mb (meE es) :: bs meSL es :: cel fb ((Fs.map fun F => ptr F.p 0) ++ junk) 141 (0, 0) :: bs fld Fs :: L) w' := by
  refine fn_calls (args := [.slice (some ⟨fb, 0, none⟩) n cap]) Tryz.func77 rfl rfl rfl ?_; refine Xs (Xg (XX 1 hS rfl (Xn (Xs (Xs (Xg (XX 1 hS rfl (XR hS (rLen rfl) rfl (XR hS (rCmp rfl rfl (cmp_eqlF (by omega))) rfl ?_))))))))); refine Xn (Xf rfl (Xk (Xs (Xg (XX 1 hS rfl (XR hS (rLen rfl) rfl ?_)))))); refine XD hS (dMapN rfl) rfl ?_; clear hS; intro vr w hR; obtain ⟨b11, rfl, hS⟩ := hR; refine XX 1 hS rfl (Xn (Xs (Xs (Xg (XX 1 hS rfl (XR hS (rLen rfl) rfl (XX 1 hS rfl (Xn (Xb ?_))))))))); intro a hE
  refine cw_loop (fun (σ : List Fld × List Fld × List ME) a w => Env Tryz.f77.ntmps (envL [(0, .slice (some ⟨fb, 0, none⟩) n cap), (3, .map (some b11)), (12, .slice (some ⟨fb, 0, none⟩) n cap), (13, .int .i64 (n : Int)), (14, .int .i64 (σ.1.length : Int))]) a ∧ σ.1 ++ σ.2.1 = Fs ∧ MapOk σ.2.2 σ.1 ∧ St W (mp b11 (meE σ.2.2) :: bs meSL σ.2.2 :: cel fb ((Fs.map fun F => ptr F.p 0) ++ junk) 141 (0, 0) :: bs fld Fs :: L) w)
    (fun σ => σ.2.1.length) ([], Fs, []) ⟨hE.cut ⟨rfl, rfl, rfl, rfl, rfl, trivial⟩, rfl, fun k => rfl, (St.bs_nil (A := meSL) hS.new_mp).swap⟩ ?_
  clear hS hE a; rintro ⟨l1, l2, es⟩ a w ⟨hE, hl, hok, hS⟩; dsimp only at *; rcases l2 with _ | ⟨F, l2⟩
  · have h1 : l1.length = n := by rw [← hn0, ← hl]; simp
    revert a; refine Xs (Xg (XR hS (rCmp rfl rfl (cmp_lssF (by omega))) rfl ?_)); refine Xn (Xs (Xf rfl (Xe rfl (Xs (Xg (XX 2 hS rfl (Xn (Xr ?_)))))))); rw [List.append_nil] at hl; subst hl; exact X1 rfl rfl ⟨b11, es, ⟨rfl, hok⟩, hS⟩
  · have h1 : l1.length + (l2.length + 1) = n := by rw [← hn0, ← hl]; simp
    have hci : ((Fs.map fun F => ptr F.p 0) ++ junk)[0 + l1.length]? = some (ptr F.p 0) := by rw [← hl]; simp
    revert a; refine Xs (Xg (XR hS (rCmp rfl rfl (cmp_lssT (by omega))) rfl ?_)); refine Xn (Xs (Xt rfl (Xk (Xs (Xb (Xs (Xg (XX 1 hS rfl (XR hS (rIdxA1 (i := l1.length) rfl rfl (by omega)) rfl ?_))))))))); refine XR hS (rLoad rfl hci) rfl (XX 2 hS rfl (Xn ?_)); subst hl; obtain ⟨e1, e2, v0, ps0, m1, m2, m3, m4, m5⟩ := me_step es F.key; have hS1 := St.fld_open (hS.tk1 (bs fld (l1 ++ F :: l2))).bs_out; have hS2 := m5 (hS1.tk1 (bs meSL es)); have hps : ps0.length ≤ l1.length := by rw [← m4, hok F.key, List.length_map]; exact List.length_filter_le ..
    replace hS := hS2.tk4 (cel F.p [F.v, .string (mkS F.key), .string (mkS F.val)] 157 (0, 0)) (mp b11 (meE es)) (own 141 1 v0 ps0.length (ps0.map fun p => ptr p 0)) (bs meSL (e1 ++ e2)); clear hS1 hS2; refine Xh ([cel F.p [F.v, .string (mkS F.key), .string (mkS F.val)] 157 (0, 0), mp b11 (meE es)]) [.s, .s, .s, .s, .s, .s, .s, .s, .s, .s, .s, .s, .s, .s, .r, .h, .h, .e] mixed (by kernel_rfl) hS ?_; clear hS; intro w hS; refine XS (rMove rfl) rfl (XS (rMove rfl) rfl (XS (rNil rfl) rfl (XS (rField rfl) rfl (XS (rLoad rfl (by exact rfl)) rfl ?_)))); refine XS (rMove rfl) rfl (XS (rMove rfl) rfl (XS (rNil rfl) rfl (XS (rField rfl) rfl (XS (rLoad rfl (by exact rfl)) rfl ?_)))); refine XS (rLook rfl rfl (.tail .head) m1) rfl (XS (rMove rfl) rfl (XS (rMove rfl) rfl (XS (rIdxA1 (i := l1.length) rfl rfl (by omega)) rfl ?_))); refine XT hS (rLoad rfl hci) rfl ?_
    refine XH hS (dLit rfl rfl rfl rfl) rfl ?_; clear hS; intro vr w hR; obtain ⟨b34, rfl, hS⟩ := hR; refine ⟨hS.sub, ?_⟩; refine XH hS (dAppO (k := 1) rfl rfl (.tail (.tail (.tail .head))) (AppSrc.of_cells (off := 0) (sz := 1) (by exact Nat.le_refl 1)) rfl rfl (one_all rfl) (by omega) (by omega) (by decide)) rfl ?_; clear hS; intro vr w hR; have hS := hR; clear hR; refine ⟨hS.sub, ?_⟩; refine XM hS (dMapSet rfl rfl rfl (.tail (.tail (.tail .head)))) ?_; clear hS; intro _ w hS; refine Xn (Xg (XR hS (rAddN (n := 1) rfl rfl (by first | omega | (simp <;> omega)) rfl) rfl ?_)); refine XX 1 hS rfl (Xn ?_); have hown : own 141 1 vr (ps0.length + 1) ((ps0.map fun p => ptr p 0) ++ [ptr F.p 0]) = meSL ⟨F.key, vr, ps0 ++ [F.p]⟩ := by simp [meSL]
    replace hS := (show St W (_ :: own 141 1 vr (ps0.length + 1) ((ps0.map fun p => ptr p 0) ++ [ptr F.p 0]) :: _) w from hS); rw [m2 vr (ps0 ++ [F.p]), hown] at hS; have hS3 := St.bs_in (hS.tk2 (meSL ⟨F.key, vr, ps0 ++ [F.p]⟩) (bs meSL (e1 ++ e2))); have hS4 := St.fld_shut (hS3.tk2 (cel F.p [F.v, .string (mkS F.key), .string (mkS F.val)] 157 (0, 0)) (ob 5 F.v F.raw)); have hS5 := St.bs_in (hS4.tk2 (fld F) (bs fld (l1 ++ l2))); intro a hE; refine ⟨(l1 ++ [F], l2, e1 ++ ⟨F.key, vr, ps0 ++ [F.p]⟩ :: e2), by simp, hE.cut ⟨rfl, rfl, rfl, rfl, by simp; rfl, trivial⟩, by simp, fun k => ?_, hS5.arr⟩; rw [m3, List.filter_append, List.map_append, ← hok k]; by_cases hk : F.key = k
    · subst hk; rw [if_pos rfl, m4]; simp
    · rw [if_neg hk]; simp [hk]
end
end Go.Proofs
end

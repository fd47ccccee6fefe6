/-
  Steps on the way to the cards of laws.FnFetched and laws.FnFetchedWhole; the conditions of each are the hypotheses that it names. In order:
  WALKS (printed by wx.py from Jy.px): laws.FnFetched, FnFetchedWhole.
  WALKS (printed by wx.py from Jz.px): laws.FnFetchedWhole.
  PLAIN: arguments that read as data hold mails and sections in their cells.
-/
import Derived.Test.YtjbbapodcngnaaaGreatDoorV21
import Derived.ChangeArms
import Derived.ChangeSame
import Derived.Deep.Slices
set_option linter.all false
section
namespace Go.Proofs
open Go.Eng
theorem St.rebase {W w w' : World} {s L : List SL} (h : St W s w) (k : St w (old w :: L) w') : St W s w' := by
  refine ⟨k.os.trans h.os, k.tape.trans h.tape, k.output.trans h.output, Nat.le_trans h.size k.size, h.sat.mono fun j o e => ?_⟩; obtain ⟨a, b, ha, _, _, sa, _⟩ := k.sat; have hj : j < w.heap.size := by
    unfold hp at e; exact (Array.getElem?_eq_some_iff.1 e).1
  exact sa j o ((ha j hj).trans e)
def Gl.up {W w : World} {s : List SL} [ho : HasOld s W] (g : Gl W) (h : St W s w) : Gl w :=
  ⟨g.b1, St.oldcell h g.g1, g.b3, St.oldcell h g.g3, g.b0, St.oldcell h g.g0, fun n h1 h2 => St.oldcell h (g.g12 n h1 h2), g.b5, St.oldcell h g.g5⟩
theorem IntsV.up {W w : World} {s : List SL} [ho : HasOld s W] (h : St W s w) {v : Value} {l : List Int} (k : IntsV W v l) : IntsV w v l := by
  obtain ⟨q, c, e, k⟩ := k; exact ⟨q, c, e, fun i n hi => let ⟨b, off, e2, k2⟩ := k i n hi; ⟨b, off, e2, St.oldcell h k2⟩⟩
theorem StrsV.up {W w : World} {s : List SL} [ho : HasOld s W] (h : St W s w) {v : Value} {l : List (List UInt8)} (k : StrsV W v l) : StrsV w v l := by
  obtain ⟨q, c, e, k⟩ := k; exact ⟨q, c, e, fun i n hi => let ⟨b, off, e2, k2⟩ := k i n hi; ⟨b, off, e2, St.oldcell h k2⟩⟩
theorem IntsV.nil (w : World) : IntsV w (.slice none 0 0) [] := ⟨none, 0, rfl, fun _ _ h => (nomatch h)⟩
theorem StrsV.nil (w : World) : StrsV w (.slice none 0 0) [] := ⟨none, 0, rfl, fun _ _ h => (nomatch h)⟩
section
variable {W w : World} {s : List SL}
/-- impl.Fetched, whatever lies beside -/
theorem c11b {m0 : Ml} {x : Sec} {pathV fldsV partV : Value} {peek : Bool} (g : Gl W) [ho : HasOld s W] (hS : St W s w) (hm : m0.Ok 5) (hnum : m0.num ≤ 16) (hx : x.ok) (hpv : IntsV w pathV (x.path.map fun n : Nat => (n : Int))) (hfv : StrsV w fldsV x.flds) (hpt : IntsV w partV (cutL x.cut)) :
    Calls Tryz.prog 11 #[.string (mkS (m0.txt [])), .agg #[pathV, .string (mkS x.part), fldsV, .bool x.no, .bool peek, partV]] w fun e w' => e = .returned (.tuple #[.string (mkS ((secB m0 x).getD [])), .bool (secB m0 x).isSome]) ∧ St W s w' :=
  (c11 (g.up hS) (St.start w) hm hnum hx hpv hfv hpt).mono fun e w' ⟨h, k⟩ => ⟨h, St.rebase hS k⟩
/-- a mail of one field -/
def ml1 : Ml := .mk [⟨[65], [98]⟩] 0 [] [] [] [] [] [] []
theorem ml1_txt : ml1.txt [] = [65, 58, 32, 98, 13, 10, 13, 10] := by
  unfold ml1; rw [Ml.txt, Ml.cont]; rfl
theorem ml1_ok : ml1.Ok 5 := by
  unfold ml1; rw [Ml.Ok]; refine ⟨by decide, fun f hf => ?_, by decide, ⟨by simp, by decide⟩, ⟨by simp, by decide⟩, .inl rfl, .inl rfl, .inl rfl, .inl ⟨rfl, rfl, ⟨Lns.nil, by decide⟩, by simp, by decide⟩, by rw [Mls.Ok]; trivial⟩; obtain rfl := List.mem_singleton.1 hf; exact ⟨⟨⟨by decide, by decide, by decide, by decide, ⟨by decide, by decide, by decide, by decide, by decide, by decide⟩⟩, by decide, by decide, by decide⟩, by decide⟩
theorem ml1_num : ml1.num ≤ 16 := by
  unfold ml1; rw [Ml.num, Mls.num]; decide
def sec0 : Sec := ⟨[], [], [], false, none⟩
theorem sec0_ok : sec0.ok := ⟨by decide, by decide, by decide, by decide, fun _ _ h => (nomatch h), fun h => absurd rfl h, fun _ => ⟨.inl rfl, .inr rfl, fun h => nomatch h⟩⟩
theorem ml1_sec : (secB ml1 sec0).isSome = true := rfl
theorem c11c (g : Gl W) [ho : HasOld s W] (hS : St W s w) : Calls Tryz.prog 11 #[.string (mkS [65, 58, 32, 98, 13, 10, 13, 10]), .agg #[.slice none 0 0, .string (mkS []), .slice none 0 0, .bool false, .bool false, .slice none 0 0]] w fun e w' => e = .returned (.tuple #[.string (mkS ((secB ml1 sec0).getD [])), .bool true]) ∧ St W s w' := by
  have h := c11b (m0 := ml1) (x := sec0) (peek := false) g hS ml1_ok ml1_num sec0_ok (IntsV.nil _) (StrsV.nil _) (IntsV.nil _); rw [ml1_txt, ml1_sec] at h; exact h
/-- laws.FnFetched -/
theorem c3 {m : Ml} {hv kv pv fv tv : Value} {path pt : List Int} {part : List UInt8} {fs : List (List UInt8)} {no peek : Bool} (g : Gl W) [ho : HasOld s W] (hS : St W s w) (hm : MlP W m hv kv) (hp : IntsV W pv path) (hf : StrsV W fv fs) (hfl : ∀ l ∈ fs, l.length ≤ 9223372036854775807) (hbig : fs.length ≤ 9223372036854775807) (ht : IntsV W tv pt) :
    Calls Tryz.prog 3 #[.agg (m.cells hv kv).toArray, .agg #[pv, .string (mkS part), fv, .bool no, .bool peek, tv]] w fun e w' => e = .returned (.bool true) ∧ St W s w' := by
  refine fn_calls (args := [.agg (m.cells hv kv).toArray, .agg #[pv, .string (mkS part), fv, .bool no, .bool peek, tv]]) Tryz.func3 rfl rfl rfl ?_; refine Xs (Xg ?_); refine XD hS (dBox rfl) rfl ?_; clear hS; intro vr w hR; obtain ⟨b2, rfl, hS⟩ := hR; replace hS := (show St W (cel b2 (m.cells hv kv) 25 (0, 0) :: s) w from hS); refine XD hS (dBox rfl) rfl ?_; clear hS; intro vr w hR; obtain ⟨b3, rfl, hS⟩ := hR; replace hS := (show St W (cel b3 [pv, .string (mkS part), fv, .bool no, .bool peek, tv] 29 (0, 0) :: cel b2 (m.cells hv kv) 25 (0, 0) :: s) w from hS); refine XX 1 hS rfl (Xn (Xs (Xs (Xg (XR hS (rLoadN (l := m.cells hv kv) rfl (by exact rfl)) rfl ?_))))); refine XC hS (gCall rfl) rfl (c5 hS hm) ?_; clear hS; intro e w hR; (try dsimp only [bfp, BS.cells, oint, List.length_nil, List.length_cons, List.nil_append] at hR); obtain ⟨ok1, rfl, hS⟩ := hR; refine ⟨_, rfl, ?_⟩
  rcases ok1 with _ | _
  · refine XX 2 hS rfl ?_; repeat first | refine XU rfl rfl rfl ?_ | refine XF rfl rfl rfl ?_ | refine XR hS (rPickT rfl rfl) rfl ?_ | refine XR hS (rPickF rfl rfl) rfl ?_ | refine XR hS (rMove rfl) rfl ?_ | refine XR hS (rAssign rfl) rfl ?_ | refine XA rfl rfl ?_
    refine Xn (Xt rfl (Xs (Xg (XX 1 hS rfl (Xn (Xr ?_)))))); exact X1 rfl rfl ⟨rfl, hS.tail.tail⟩
  refine XX 4 hS rfl (XA rfl rfl (XR hS (rLoadN (l := [pv, .string (mkS part), fv, .bool no, .bool peek, tv]) rfl (by exact rfl)) rfl ?_)); refine XX 1 hS rfl (XA rfl rfl ?_); refine XC hS (gCall rfl) rfl (c6 hS hp hf hbig ht) ?_; clear hS; intro e w hR; (try dsimp only [bfp, BS.cells, oint, List.length_nil, List.length_cons, List.nil_append] at hR); obtain ⟨ok2, rfl, hS⟩ := hR; refine ⟨_, rfl, ?_⟩; rcases ok2 with _ | _
  · refine XX 2 hS rfl (Xn (Xt rfl (Xs (Xg (XX 1 hS rfl (Xn (Xr ?_))))))); exact X1 rfl rfl ⟨rfl, hS.tail.tail⟩
  refine XX 2 hS rfl (Xn (Xf rfl (Xk (Xs (Xs (Xg (XR hS (rLoadN (l := m.cells hv kv) rfl (by exact rfl)) rfl ?_))))))); refine XC hS (gCall rfl) rfl (c7 hS hm) ?_; clear hS; intro e w hR; (try dsimp only [bfp, BS.cells, oint, List.length_nil, List.length_cons, List.nil_append] at hR); obtain ⟨ok3, ⟨rfl, hok3⟩, hS⟩ := hR; refine ⟨_, rfl, ?_⟩; rcases ok3 with _ | _
  · refine XX 2 hS rfl ?_; repeat first | refine XU rfl rfl rfl ?_ | refine XF rfl rfl rfl ?_ | refine XR hS (rPickT rfl rfl) rfl ?_ | refine XR hS (rPickF rfl rfl) rfl ?_ | refine XR hS (rMove rfl) rfl ?_ | refine XR hS (rAssign rfl) rfl ?_ | refine XA rfl rfl ?_
    refine Xn (Xt rfl (Xs (Xg (XX 1 hS rfl (Xn (Xr ?_)))))); exact X1 rfl rfl ⟨rfl, hS.tail.tail⟩
  refine XX 4 hS rfl (XA rfl rfl (XR hS (rLoadN (l := [pv, .string (mkS part), fv, .bool no, .bool peek, tv]) rfl (by exact rfl)) rfl ?_)); refine XX 1 hS rfl (XA rfl rfl ?_); refine XC hS (gCall rfl) rfl (c8 hS hp hf hfl ht) ?_; clear hS; intro e w hR; (try dsimp only [bfp, BS.cells, oint, List.length_nil, List.length_cons, List.nil_append] at hR); obtain ⟨ok4, ⟨rfl, hok4⟩, hS⟩ := hR; refine ⟨_, rfl, ?_⟩; rcases ok4 with _ | _
  · refine XX 2 hS rfl ?_; repeat first | refine XU rfl rfl rfl ?_ | refine XF rfl rfl rfl ?_ | refine XR hS (rPickT rfl rfl) rfl ?_ | refine XR hS (rPickF rfl rfl) rfl ?_ | refine XR hS (rMove rfl) rfl ?_ | refine XR hS (rAssign rfl) rfl ?_ | refine XA rfl rfl ?_
    refine Xn (Xt rfl (Xs (Xg (XX 1 hS rfl (Xn (Xr ?_)))))); exact X1 rfl rfl ⟨rfl, hS.tail.tail⟩
  obtain ⟨hOk, hnum⟩ := hok3 rfl; obtain ⟨x, hx, e1, e2, e3, e4, e5⟩ := (hok4 rfl).sec; subst e1 e2 e3 e4 e5; refine XX 7 hS rfl (XA rfl rfl (XR hS (rLoadN (l := m.cells hv kv) rfl (by exact rfl)) rfl ?_)); refine XX 3 hS rfl (XA rfl rfl (XR hS (rField rfl) rfl (XX 2 hS rfl (XA rfl rfl (XR hS (rLoad rfl (by exact rfl)) rfl ?_))))); refine XX 1 hS rfl (XA rfl rfl ?_); refine XC hS (gCall rfl) rfl (c9 hS hm hp hx.pnum hx.plen) ?_; clear hS; intro e w hR; (try dsimp only [bfp, BS.cells, oint, List.length_nil, List.length_cons, List.nil_append] at hR); obtain ⟨ok5, rfl, hS⟩ := hR; refine ⟨_, rfl, ?_⟩; rcases ok5 with _ | _; rotate_left
  · refine XX 1 hS rfl (Xn (Xt rfl (Xs (Xg (XX 1 hS rfl (Xn (Xr ?_))))))); exact X1 rfl rfl ⟨rfl, hS.tail.tail⟩
  have h18 := c18 (W := W) 5 m hv kv [] hOk hnum hm (by simp) (by decide); refine XX 1 hS rfl (Xn (Xf rfl (Xk (Xs (Xg (XR hS (rLoadN (l := m.cells hv kv) rfl (by exact rfl)) rfl ?_)))))); refine XR hS (rLoadN (l := [pv, .string (mkS x.part), fv, .bool x.no, .bool peek, tv]) rfl (by exact rfl)) rfl ?_; refine XC hS (gCall rfl) rfl (c10 hS hm hOk hnum hx hp hf ht) ?_; clear hS; intro e w hR; (try dsimp only [bfp, BS.cells, oint, List.length_nil, List.length_cons, List.nil_append] at hR); obtain ⟨rfl, hS⟩ := hR; refine ⟨_, rfl, ?_⟩; refine XX 1 hS rfl (XR hS (rExtract rfl rfl) rfl (XR hS (rExtract rfl rfl) rfl (XX 2 hS rfl (Xn (Xs ?_))))); refine Xh ([cel b3 [pv, .string (mkS x.part), fv, .bool x.no, .bool peek, tv] 29 (0, 0)]) [.r, .h, .s, .h, .s, .s, .s, .s, .s] mixed (by kernel_rfl) hS ?_; clear hS; intro w hS; refine XT hS (rLoadN (l := m.cells hv kv) rfl (by exact rfl)) rfl ?_
  refine XJ hS (gCall rfl) rfl (c12 (pl := []) hS hm hOk (by simp) (by decide) hnum h18) ?_; clear hS; intro e w hR; (try dsimp only [bfp, BS.cells, oint, List.length_nil, List.length_cons, List.nil_append] at hR); obtain ⟨rfl, hS⟩ := hR; refine ⟨_, rfl, hS.sub, ?_⟩; refine XS (rLoadN (l := [pv, .string (mkS x.part), fv, .bool x.no, .bool peek, tv]) rfl (by exact rfl)) rfl ?_; refine XJ hS (gCall rfl) rfl (c11b g hS hOk hnum hx (hp.up hS) (hf.up hS) (ht.up hS)) ?_; clear hS; intro e w hR; (try dsimp only [bfp, BS.cells, oint, List.length_nil, List.length_cons, List.nil_append] at hR); obtain ⟨rfl, hS⟩ := hR; refine ⟨_, rfl, hS.sub, ?_⟩; refine XS (rMove rfl) rfl (XS (rExtract rfl rfl) rfl (XS (rExtract rfl rfl) rfl (XS (rAssign rfl) rfl (XS (rAssign rfl) rfl (Xn (Xs (Xs ?_))))))); intro a hE; cases hsb : secB m x with
  | none =>
    rw [hsb] at hE; revert a; refine Xg (XX 2 hS rfl (Xn (Xt rfl (Xs (Xg (XR hS (rBuild rfl rfl) rfl ?_)))))); refine XC hS (gCall rfl) rfl (c11c g hS) ?_; clear hS; intro e w hR; (try dsimp only [bfp, BS.cells, oint, List.length_nil, List.length_cons, List.nil_append] at hR); obtain ⟨rfl, hS⟩ := hR; refine ⟨_, rfl, ?_⟩; refine XX 1 hS rfl (XR hS (rExtract rfl rfl) rfl (XR hS (rExtract rfl rfl) rfl (XX 2 hS rfl (Xn (Xs (Xg (XX 6 hS rfl (Xn (Xr ?_))))))))); exact X1 rfl rfl ⟨rfl, hS.tail.tail⟩
  | some t =>
    rw [hsb] at hE; revert a; refine Xg (XX 2 hS rfl (Xn (Xf rfl (Xk (Xs (Xg (XX 7 hS rfl (XA rfl rfl (XR hS (rStrEq rfl rfl (b := true) (beq_self_eq_true t)) rfl (XX 2 hS rfl (Xn (Xr ?_)))))))))))); exact X1 rfl rfl ⟨rfl, hS.tail.tail⟩
end
end Go.Proofs
end
section
namespace Go.Proofs
open Go.Eng
theorem partAt_nil (m : Ml) (pl : List UInt8) : partAt m [] pl = some (m, pl) := by
  unfold partAt; split
  · rw [pathTo]
  · rw [if_pos (.inl rfl)]
theorem hdrT_all (fs : List HF) : hdrT fs [] false = hraw fs ++ [13, 10] := by
  unfold hdrT; rw [List.filter_eq_self.2 (fun f _ => (rfl : keepF [] false f = true))]
/-- a section of a part alone -/
def secP (part : List UInt8) (path : List Nat) : Sec := ⟨part, path, [], false, none⟩
theorem secP_top {part : List UInt8} (h : part = [] ∨ part = txW ∨ part = hdW) : (secP part []).ok :=
  ⟨Nat.zero_le _, (fun n h => nomatch h), Nat.zero_le _, (fun l h => nomatch h), fun _ _ h => (nomatch h), fun h => absurd rfl h, fun _ => ⟨h, .inr rfl, fun h => nomatch h⟩⟩
theorem secP_deep {part : List UInt8} {n : Nat} (h : part = [] ∨ part = miW) (h1 : 1 ≤ n) (h2 : n ≤ 99) : (secP part [n]).ok :=
  ⟨Nat.le_add_left 1 5, fun k hk => by obtain rfl := List.mem_singleton.1 hk; exact ⟨h1, h2⟩, Nat.zero_le _, (fun l h => nomatch h), fun _ _ h => (nomatch h), fun _ => ⟨h, rfl, rfl⟩, fun h => (nomatch h)⟩
theorem sec_head (m : Ml) : secB m (secP hdW []) = some (hraw (m.flds []) ++ [13, 10]) := by
  unfold secB; rw [show (secP hdW []).path = [] from rfl, partAt_nil]; show some (secOf m [] (secP hdW [])) = _; unfold secOf; rw [if_pos (.inl rfl)]; exact congrArg some (hdrT_all _)
theorem sec_text (m : Ml) : secB m (secP txW []) = some (m.cont []) := by
  unfold secB; rw [show (secP txW []).path = [] from rfl, partAt_nil]; rfl
theorem sec_all (m : Ml) : secB m (secP [] []) = some (m.txt []) := by
  unfold secB; rw [show (secP [] []).path = [] from rfl, partAt_nil]; rfl
theorem sec_one {m : Ml} (h : m.kind ≠ 1) : secB m (secP [] [1]) = some (m.cont []) := by
  unfold secB partAt; rw [if_neg h, show (secP [] [1]).path = [1] from rfl, if_pos (.inr rfl)]; rfl
theorem sec_mime {m k : Ml} {i : Nat} (h : m.kind = 1) (hk : m.kids[i]? = some k) : secB m (secP miW [i + 1]) = some (hraw (k.flds (undr [] i)) ++ [13, 10]) := by
  unfold secB partAt; rw [if_pos h, show (secP miW [i + 1]).path = [i + 1] from rfl, pathTo_step h, show i + 1 - 1 = i from rfl, hk]; simp only [pathTo]; show some (secOf k (undr [] i) (secP miW [i + 1])) = _; unfold secOf; rw [if_pos (.inr rfl)]; exact congrArg some (hdrT_all _)
theorem sec_part {m k : Ml} {i : Nat} (h : m.kind = 1) (hk : m.kids[i]? = some k) : secB m (secP [] [i + 1]) = some (k.cont (undr [] i)) := by
  unfold secB partAt; rw [if_pos h, show (secP [] [i + 1]).path = [i + 1] from rfl, pathTo_step h, show i + 1 - 1 = i from rfl, hk]; simp only [pathTo]; rfl
theorem kids_num : ∀ (ms : List Ml), ms.length ≤ Mls.num ms
  | [] => Nat.zero_le _
  | x :: ms => by
    rw [Mls.num, List.length_cons, Ml.num_eq]; have := kids_num ms; omega
section
variable {W w : World} {s : List SL}
/-- impl.Fetched of a section that names nothing but a part -/
theorem c11p {m0 : Ml} {part t : List UInt8} {path : List Nat} {pv : Value} (g : Gl W) [ho : HasOld s W] (hS : St W s w) (hm : m0.Ok 5) (hnum : m0.num ≤ 16) (hx : (secP part path).ok) (hpv : IntsV w pv (path.map fun n : Nat => (n : Int))) (ht : secB m0 (secP part path) = some t) :
    Calls Tryz.prog 11 #[.string (mkS (m0.txt [])), .agg #[pv, .string (mkS part), .slice none 0 0, .bool false, .bool false, .slice none 0 0]] w fun e w' => e = .returned (.tuple #[.string (mkS t), .bool true]) ∧ St W s w' := by
  have h := c11b (x := secP part path) (peek := false) g hS hm hnum hx hpv (StrsV.nil _) (IntsV.nil _); rw [ht] at h; exact h
theorem ints_one {b : Nat} {n : Nat} (h : St W (cel b [.int .i64 (n : Int)] 3 (0, 0) :: s) w) : IntsV w (.slice (some ⟨b, 0, none⟩) 1 1) ([n].map fun n : Nat => (n : Int)) := by
  refine ⟨_, _, rfl, fun i k hi => ⟨b, 0, rfl, ?_⟩⟩; cases i with
  | zero =>
    simp only [List.map_cons, List.map_nil, List.getElem?_cons_zero, Option.some.injEq] at hi; subst hi; exact h.cell (b := b) rfl
  | succ i => simp at hi
/-- laws.FnFetchedWhole -/
theorem c4 {m : Ml} {hv kv : Value} (g : Gl W) [ho : HasOld s W] (hS : St W s w) (hm : MlP W m hv kv) :
    Calls Tryz.prog 4 #[.agg (m.cells hv kv).toArray] w fun e w' => e = .returned (.bool true) ∧ St W s w' := by
  refine fn_calls (args := [.agg (m.cells hv kv).toArray]) Tryz.func4 rfl rfl rfl ?_; refine Xs (Xg ?_); refine XD hS (dBox rfl) rfl ?_; clear hS; intro vr w hR; obtain ⟨b1, rfl, hS⟩ := hR; replace hS := (show St W (cel b1 (m.cells hv kv) 25 (0, 0) :: s) w from hS); refine XX 1 hS rfl (Xn (Xs (Xs (Xg (XR hS (rLoadN (l := m.cells hv kv) rfl (by exact rfl)) rfl ?_))))); refine XC hS (gCall rfl) rfl (c5 hS hm) ?_; clear hS; intro e w hR; (try dsimp only [bfp, BS.cells, oint, List.length_nil, List.length_cons, List.nil_append] at hR); obtain ⟨ok1, rfl, hS⟩ := hR; refine ⟨_, rfl, ?_⟩; rcases ok1 with _ | _
  · refine XX 1 hS rfl (Xn (Xt rfl (Xs (Xg (XX 1 hS rfl (Xn (Xr ?_))))))); exact X1 rfl rfl ⟨rfl, hS.tail⟩
  refine XX 1 hS rfl (Xn (Xf rfl (Xk (Xs (Xs (Xg (XR hS (rLoadN (l := m.cells hv kv) rfl (by exact rfl)) rfl ?_))))))); refine XC hS (gCall rfl) rfl (c7 hS hm) ?_; clear hS; intro e w hR; (try dsimp only [bfp, BS.cells, oint, List.length_nil, List.length_cons, List.nil_append] at hR); obtain ⟨ok3, ⟨rfl, hok3⟩, hS⟩ := hR; refine ⟨_, rfl, ?_⟩; rcases ok3 with _ | _
  · refine XX 1 hS rfl (Xn (Xt rfl (Xs (Xg (XX 1 hS rfl (Xn (Xr ?_))))))); exact X1 rfl rfl ⟨rfl, hS.tail⟩
  obtain ⟨hOk, hnum⟩ := hok3 rfl; have h18 := c18 (W := W) 5 m hv kv [] hOk hnum hm (by simp) (by decide); have hclen := cont_len m 5 [] hOk (by simp) (by decide); have hflen := hraw_flds_len (pl := []) hOk (by simp) (by decide); have htx : hraw (m.flds []) ++ [13, 10] ++ m.cont [] = m.txt [] := by simp [Ml.txt]
  obtain ⟨hd, hhd⟩ : ∃ x, x = hraw (m.flds []) ++ [13, 10] := ⟨_, rfl⟩; rw [← hhd] at htx; have hdlen := congrArg List.length hhd; simp only [List.length_append, List.length_cons, List.length_nil] at hdlen; refine XX 1 hS rfl (Xn (Xf rfl (Xk (Xs (Xg (XR hS (rLoadN (l := m.cells hv kv) rfl (by exact rfl)) rfl ?_)))))); refine XC hS (gCall rfl) rfl (c12 (pl := []) hS hm hOk (by simp) (by decide) hnum h18) ?_; clear hS; intro e w hR; (try dsimp only [bfp, BS.cells, oint, List.length_nil, List.length_cons, List.nil_append] at hR); obtain ⟨rfl, hS⟩ := hR; refine ⟨_, rfl, ?_⟩; refine XX 1 hS rfl (Xn (Xs (Xg (XX 1 hS rfl (XR hS (rBuild rfl rfl) rfl ?_))))); refine XC hS (gCall rfl) rfl (c11p (part := hdW) (path := []) g hS hOk hnum (secP_top (.inr (.inr rfl))) (IntsV.nil _) (sec_head m)) ?_; clear hS; intro e w hR
  (try dsimp only [bfp, BS.cells, oint, List.length_nil, List.length_cons, List.nil_append] at hR); obtain ⟨rfl, hS⟩ := hR; refine ⟨_, rfl, ?_⟩; refine XX 1 hS rfl (XR hS (rExtract rfl rfl) rfl (XR hS (rExtract rfl rfl) rfl (XX 2 hS rfl (Xn (Xs (Xg (XX 1 hS rfl (XR hS (rBuild rfl rfl) rfl ?_)))))))); refine XC hS (gCall rfl) rfl (c11p (part := txW) (path := []) g hS hOk hnum (secP_top (.inr (.inl rfl))) (IntsV.nil _) (sec_text m)) ?_; clear hS; intro e w hR; (try dsimp only [bfp, BS.cells, oint, List.length_nil, List.length_cons, List.nil_append] at hR); obtain ⟨rfl, hS⟩ := hR; refine ⟨_, rfl, ?_⟩; refine XX 1 hS rfl (XR hS (rExtract rfl rfl) rfl (XR hS (rExtract rfl rfl) rfl (XX 2 hS rfl (Xn (Xs (Xg (XX 1 hS rfl (XR hS (rBuild rfl rfl) rfl ?_))))))))
  refine XC hS (gCall rfl) rfl (c11p (part := []) (path := []) g hS hOk hnum (secP_top (.inl rfl)) (IntsV.nil _) (sec_all m)) ?_; clear hS; intro e w hR; (try dsimp only [bfp, BS.cells, oint, List.length_nil, List.length_cons, List.nil_append] at hR); obtain ⟨rfl, hS⟩ := hR; refine ⟨_, rfl, ?_⟩; refine XX 1 hS rfl (XR hS (rExtract rfl rfl) rfl (XR hS (rExtract rfl rfl) rfl (XX 2 hS rfl (Xn (Xs (Xs ?_)))))); intro a hE; rw [← hhd] at hE; revert a; refine Xg (XX 22 hS rfl (XA rfl rfl (XR hS (rCat rfl rfl (by omega)) rfl ?_))); refine XX 8 hS rfl (XA rfl rfl (XR hS (rStrNe rfl rfl (b := true) (beq_iff_eq.2 htx)) rfl (XX 6 hS rfl (XA rfl rfl (XR hS (rStrNe rfl rfl (b := true) (beq_self_eq_true _)) rfl (XX 1 hS rfl (Xn (Xf rfl (Xk (Xs (Xs ?_))))))))))); by_cases hk : m.kind = 1; rotate_left
  · refine Xg (XR hS (rField rfl) rfl (XR hS (rLoad rfl (by exact rfl)) rfl ?_)); refine XR hS (rCmp rfl rfl (cmp_neqT (by omega))) rfl ?_; refine Xn (Xt rfl (Xs (Xg (XX 1 hS rfl ?_)))); refine XD hS (dLit rfl rfl rfl rfl) rfl ?_; clear hS; intro vr w hR; obtain ⟨b71, rfl, hS⟩ := hR; replace hS := (show St W (cel b71 [.int .i64 ((1 : Nat) : Int)] 3 (0, 0) :: _) w from hS); refine XR hS (rBuild rfl rfl) rfl ?_; refine XC hS (gCall rfl) rfl (c11p (part := []) (path := [1]) g hS hOk hnum (secP_deep (.inl rfl) (by decide) (by decide)) (ints_one hS) (sec_one hk)) ?_; clear hS; intro e w hR; (try dsimp only [bfp, BS.cells, oint, List.length_nil, List.length_cons, List.nil_append] at hR); obtain ⟨rfl, hS⟩ := hR; refine ⟨_, rfl, ?_⟩
    refine XX 1 hS rfl (XR hS (rExtract rfl rfl) rfl (XR hS (rExtract rfl rfl) rfl (XX 2 hS rfl (Xn (Xs (Xg (XX 7 hS rfl (XA rfl rfl (XR hS (rStrEq rfl rfl (b := true) (beq_self_eq_true _)) rfl (XX 2 hS rfl (Xn (Xr ?_)))))))))))); exact X1 rfl rfl ⟨rfl, hS.tail.tail⟩
  have hct : m.cont [] = Mls.parts m.kids [] 0 := by
    rcases hOk.cont [] with ⟨h, _⟩ | ⟨_, h, _⟩ | ⟨h, _⟩
    · rw [hk] at h; cases h
    · exact h
    · rw [hk] at h; cases h
  have hkl := kids_num m.kids; have hn1 := m.num_eq; obtain ⟨qk, ck, hkf⟩ := hm.klen; intro a hE; rw [hct] at hE hclen; revert a; refine Xg (XR hS (rField rfl) rfl (XR hS (rLoad rfl (by exact rfl)) rfl ?_)); refine XR hS (rCmp rfl rfl (cmp_neqF (by omega))) rfl ?_; refine Xn (Xf rfl (Xk (Xs (Xg (XX 1 hS rfl (Xn (Xs (Xs (Xg (XX 1 hS rfl (Xn (Xb ?_)))))))))))); intro a hE; refine cw_loop (fun (σ : Nat × List UInt8) a w => Env Tryz.f4.ntmps (envL [(1, ptr b1 0), (3, .string (mkS (m.txt []))), (6, .string (mkS (Mls.parts m.kids [] 0))), (12, .string (mkS σ.2)), (13, .int .i64 (σ.1 : Int))]) a ∧ (σ.1 ≤ m.kids.length ∧ Mls.parts m.kids [] 0 = σ.2 ++ Mls.parts (m.kids.drop σ.1) [] σ.1) ∧ St W (cel b1 (m.cells hv kv) 25 (0, 0) :: s) w) (fun σ => m.kids.length - σ.1) (0, []) ⟨hE.cut ⟨rfl, rfl, rfl, rfl, rfl, trivial⟩, ⟨Nat.zero_le _, rfl⟩, hS⟩ ?_; clear hS hE a
  rintro ⟨i, out⟩ a w ⟨hE, ⟨hi, hout⟩, hS⟩; dsimp only at *; have hlen := congrArg List.length hout; rw [List.length_append] at hlen; rcases Nat.lt_or_ge i m.kids.length with h1 | h1
  · obtain ⟨k, hk2⟩ : ∃ k, m.kids[i]? = some k := ⟨_, List.getElem?_eq_getElem h1⟩; have hpa := parts_at (pl := []) hk2; have hpe : dash [] ++ 13 :: 10 :: (k.txt (undr [] i) ++ 13 :: 10 :: Mls.parts (m.kids.drop (i + 1)) [] (i + 1)) = [45, 45, 98, 13, 10] ++ (hraw (k.flds (undr [] i)) ++ [13, 10]) ++ k.cont (undr [] i) ++ [13, 10] ++ Mls.parts (m.kids.drop (i + 1)) [] (i + 1) := by simp [dash, Ml.txt]
    rw [hpe] at hpa; have hlen2 := congrArg List.length hpa; simp only [List.length_append, List.length_cons, List.length_nil] at hlen2; revert a; refine Xs (Xs (Xg (XX 1 hS rfl (XR hS (rField rfl) rfl (XR hS (rLoad rfl (by exact congrArg some hkf)) rfl ?_))))); refine XR hS (rLen rfl) rfl (XR hS (rLtN rfl rfl (b := true) (decide_eq_true h1)) rfl (Xn (Xt rfl (Xk (Xs (Xb (Xs (Xg (XX 2 hS rfl (XR hS (rAddN (n := 1) rfl rfl (by first | omega | (simp <;> omega)) rfl) rfl ?_)))))))))); refine XD hS (dLit rfl rfl rfl rfl) rfl ?_; clear hS; intro vr w hR; obtain ⟨b93, rfl, hS⟩ := hR; replace hS := (show St W (cel b93 [.int .i64 ((i + 1 : Nat) : Int)] 3 (0, 0) :: _) w from hS); refine XR hS (rBuild rfl rfl) rfl ?_
    refine XC hS (gCall rfl) rfl (c11p (part := miW) (path := [i + 1]) g hS hOk hnum (secP_deep (.inr rfl) (by omega) (by omega)) (ints_one hS) (sec_mime hk hk2)) ?_; clear hS; intro e w hR; (try dsimp only [bfp, BS.cells, oint, List.length_nil, List.length_cons, List.nil_append] at hR); obtain ⟨rfl, hS⟩ := hR; refine ⟨_, rfl, ?_⟩; refine XX 1 hS rfl (XR hS (rExtract rfl rfl) rfl (XR hS (rExtract rfl rfl) rfl (XX 2 hS rfl (Xn (Xs (Xg (XX 2 hS rfl (XR hS (rAddN (n := 1) rfl rfl (by first | omega | (simp <;> omega)) rfl) rfl ?_)))))))); refine XD hS (dLit rfl rfl rfl rfl) rfl ?_; clear hS; intro vr w hR; obtain ⟨b102, rfl, hS⟩ := hR; replace hS := (show St W (cel b102 [.int .i64 ((i + 1 : Nat) : Int)] 3 (0, 0) :: _) w from hS); refine XR hS (rBuild rfl rfl) rfl ?_
    refine XC hS (gCall rfl) rfl (c11p (part := []) (path := [i + 1]) g hS hOk hnum (secP_deep (.inl rfl) (by omega) (by omega)) (ints_one hS) (sec_part hk hk2)) ?_; clear hS; intro e w hR; (try dsimp only [bfp, BS.cells, oint, List.length_nil, List.length_cons, List.nil_append] at hR); obtain ⟨rfl, hS⟩ := hR; refine ⟨_, rfl, ?_⟩; refine XX 1 hS rfl (XR hS (rExtract rfl rfl) rfl (XR hS (rExtract rfl rfl) rfl (XX 2 hS rfl (Xn (Xs (Xs (Xg (XX 6 hS rfl (Xn (Xf rfl (Xk (Xg (XX 2 hS rfl (XR hS (rCat (l := [45, 45, 98, 13, 10]) rfl rfl (by simp; omega)) rfl ?_)))))))))))))); refine XX 1 hS rfl (XR hS (rCat rfl rfl (by simp; omega)) rfl ?_); refine XR hS (rCat (m := [13, 10]) rfl rfl (by simp; omega)) rfl ?_; refine XR hS (rCat rfl rfl (by simp; omega)) rfl ?_; refine XX 1 hS rfl (Xn (Xg (XX 1 hS rfl (XR hS (rAddN (n := 1) rfl rfl (by first | omega | (simp <;> omega)) rfl) rfl ?_))))
    refine XX 1 hS rfl (Xn ?_); intro a hE; refine ⟨(i + 1, _), by simp only; omega, hE.cut ⟨rfl, rfl, rfl, rfl, rfl, trivial⟩, ⟨h1, ?_⟩, hS.tail.tail⟩; simp only; rw [hout, hpa]; simp
  · obtain rfl : i = m.kids.length := by omega
    rw [List.drop_length, Mls.parts] at hout hlen; have hfin : out ++ [45, 45, 98, 45, 45, 13, 10] = Mls.parts m.kids [] 0 := by rw [hout]; rfl
    revert a; refine Xs (Xs (Xg (XX 1 hS rfl (XR hS (rField rfl) rfl (XR hS (rLoad rfl (by exact congrArg some hkf)) rfl ?_))))); refine XR hS (rLen rfl) rfl (XR hS (rLtN rfl rfl (b := false) (decide_eq_false (by omega))) rfl ?_); refine Xn (Xf rfl (Xe rfl (Xs (Xg (XX 1 hS rfl (XR hS (rCat (m := [45, 45, 98, 45, 45, 13, 10]) rfl rfl (by simp; omega)) rfl ?_)))))); refine XX 1 hS rfl (XR hS (rStrEq rfl rfl (b := true) (beq_iff_eq.2 hfin)) rfl (XX 1 hS rfl (Xn (Xr ?_)))); exact X1 rfl rfl ⟨rfl, hS.tail⟩
end
end Go.Proofs
end
section
namespace Go.Proofs
open Go.Eng Go.ChangeShapes Go.WideShapes
instance : Inhabited Ml := ⟨.mk [] 0 [] [] [] [] [] [] []⟩
theorem flat_get {sz : Nat} (hsz : 0 < sz) : ∀ (fs : List (List Value)), (∀ c ∈ fs, c.length = sz) → ∀ (k : Nat) (u : Value), fs.flatten[k]? = some u → ∃ c, fs[k / sz]? = some c ∧ c[k % sz]? = some u
  | [], _, k, u, h => by simp at h
  | c :: fs, hl, k, u, h => by
    have hc := hl c (List.mem_cons_self ..)
    rw [List.flatten_cons] at h
    rcases Nat.lt_or_ge k sz with hk | hk
    · rw [List.getElem?_append_left (by omega)] at h
      exact ⟨c, by rw [Nat.div_eq_of_lt hk]; rfl, by rw [Nat.mod_eq_of_lt hk]; exact h⟩
    · rw [List.getElem?_append_right (by omega), hc] at h
      obtain ⟨c', h1, h2⟩ := flat_get hsz fs (fun x hx => hl x (List.mem_cons_of_mem _ hx)) (k - sz) u h
      refine ⟨c', ?_, ?_⟩
      · rw [Nat.div_eq_sub_div hsz hk]; exact h1
      · rw [Nat.mod_eq_sub_mod hk]; exact h2
theorem rowV_of {W : World} {sz len cap : Nat} {a : Addr} {fs : List (List Value)} (hlen : fs.length = len) (hsz : 0 < sz) (hbig : len ≤ 9223372036854775807)
    (h : ∀ i c, fs[i]? = some c → (∀ u ∈ c, u.oneCell' = true) ∧ W.cells? 0 (a.add (i * sz)) sz = some c) : RowV W sz (.slice (some a) len cap) len fs.flatten := by
  have hl : ∀ c ∈ fs, c.length = sz := fun c hc => by
    obtain ⟨i, hi⟩ := List.getElem?_of_mem hc
    exact (World.cells?_some (h i c hi).2).2.1
  refine ⟨?_, hbig, fun u hu => ?_, some a, cap, rfl, fun hpos => ?_⟩
  · rw [← hlen]
    clear h hlen
    induction fs with
    | nil => simp
    | cons c fs ih =>
      rw [List.flatten_cons, List.length_append, List.length_cons, hl c (List.mem_cons_self ..), ih fun x hx => hl x (List.mem_cons_of_mem _ hx)]
      rw [Nat.add_mul]; omega
  · obtain ⟨c, hc, hu⟩ := List.mem_flatten.1 hu
    obtain ⟨i, hi⟩ := List.getElem?_of_mem hc
    exact (h i c hi).1 u hu
  · have cellOf : ∀ i c j u, fs[i]? = some c → c[j]? = some u → W.cell? ((a.add (i * sz)).add j) = some u := fun i c j u hi hj => by
      obtain ⟨_, h2, h3⟩ := World.cells?_some (h i c hi).2
      rw [h3 j (by have := (List.getElem?_eq_some_iff.1 hj).1; omega)]
      exact hj
    obtain ⟨c0, hc0⟩ : ∃ c, fs[0]? = some c := ⟨_, List.getElem?_eq_getElem (by omega)⟩
    have hc0l := hl c0 (List.mem_of_getElem? hc0)
    obtain ⟨u0, hu0⟩ : ∃ u, c0[0]? = some u := ⟨_, List.getElem?_eq_getElem (by omega)⟩
    have hsp := World.cell?_spot (cellOf 0 c0 0 u0 hc0 hu0)
    obtain ⟨b, off, spot⟩ := a
    have hs : spot = none := by simpa [Addr.add] using hsp
    subst hs
    refine ⟨b, off, rfl, fun k u hk => ?_⟩
    obtain ⟨c, h1, h2⟩ := flat_get hsz fs hl k u hk
    have h3 := cellOf _ _ _ _ h1 h2
    have e : (Addr.add (Addr.add ⟨b, off, none⟩ (k / sz * sz)) (k % sz)) = ⟨b, off + k, none⟩ := by
      rw [Go.Deep.add_add]
      have : k / sz * sz + k % sz = k := by rw [Nat.mul_comm]; exact Nat.div_add_mod k sz
      rw [this]
      unfold Addr.add
      split
      · rename_i h0; rw [h0]; rfl
      · rfl
    rw [e] at h3
    exact h3
theorem rowV_nil (W : World) (sz : Nat) : RowV W sz (.slice none 0 0) 0 [] := ⟨by simp, by omega, fun u h => (nomatch h), none, 0, rfl, fun h => absurd h (by decide)⟩
section
variable {H : Type} {enc : TypeId × Value → H} {W : World} {spare : Nat → Bool} {held : Bool}
theorem mk_of (s : ByteArray) : (Value.string s) = .string (mkS s.data.toList) := by cases s; simp [mkS]
/-- a slice: its elements' cells, and their own readings -/
theorem open_row {t e sz : Nat} {fuel : Nat} {cs : List Value} {x : DataW H × List MemPlace} (ht : Tryz.prog.underlying t = some (.slice e)) (hc : Tryz.prog.cellsOf e = sz) (h : DataW.trod enc Tryz.prog W 0 spare held fuel t cs = some x) :
    cs = [.slice none 0 0] ∨ ∃ (a : Addr) (len cap n : Nat) (fs : List (List Value)), fuel = n + 1 ∧ cs = [.slice (some a) len cap] ∧ len ≤ 9223372036854775807 ∧ fs.length = len ∧
      ∀ i c, fs[i]? = some c → W.cells? 0 (a.add (i * sz)) sz = some c ∧ ∃ y, DataW.trod enc Tryz.prog W 0 spare held n e c = some y := by
  rcases DataW.trod_slice ht h with ⟨h0, _⟩ | ⟨a, len, cap, elems, rest, n, hn, hcs, _, _, hl, hm, hlen, hel, _⟩
  · exact .inl h0
  right
  rw [hc] at hel
  obtain ⟨f, hf⟩ := Go.Deep.choose_lt (α := List Value) (n := len) (p := fun i c => W.cells? 0 (a.add (i * sz)) sz = some c ∧ ∃ y, DataW.trod enc Tryz.prog W 0 spare held n e c = some y) (fun i hi => by
    have h1 := hel i hi
    rw [List.getElem?_eq_getElem (by omega)] at h1
    obtain ⟨c, h2, h3⟩ := Option.bind_eq_some_iff.1 h1
    exact ⟨c, h2, _, h3⟩)
  refine ⟨a, len, cap, n, (List.range len).map f, hn, hcs, ?_, by simp, fun i c hi => ?_⟩
  · have : maxLen = 9223372036854775807 := rfl
    omega
  · rw [List.getElem?_map] at hi
    obtain ⟨j, hj, rfl⟩ := Option.map_eq_some_iff.1 hi
    obtain ⟨hj1, rfl⟩ : j < len ∧ j = i := by
      have := List.getElem?_eq_some_iff.1 hj
      obtain ⟨h1, h2⟩ := this
      simp at h1 h2
      omega
    exact hf j hj1
theorem open_str {fuel : Nat} {c : Value} {x : DataW H × List MemPlace} (h : DataW.trod enc Tryz.prog W 0 spare held fuel 9 [c] = some x) : ∃ l : List UInt8, c = .string (mkS l) ∧ l.length ≤ 9223372036854775807 := by
  obtain ⟨s, e, _, hs⟩ := DataW.trod_string Tryz.underlying9 h
  simp only [List.cons.injEq, and_true] at e
  refine ⟨s.data.toList, by rw [e, ← mk_of], ?_⟩
  have : maxLen = 9223372036854775807 := rfl
  have h2 : s.data.toList.length = s.size := s.data.length_toList
  omega
theorem list_choice {α β : Type} {g : β → α} {p : β → Prop} : ∀ (l : List α), (∀ a ∈ l, ∃ b, a = g b ∧ p b) → ∃ m : List β, l = m.map g ∧ ∀ b ∈ m, p b
  | [], _ => ⟨[], rfl, fun _ h => (nomatch h)⟩
  | a :: l, h => by
    obtain ⟨b, rfl, hb⟩ := h a (List.mem_cons_self ..)
    obtain ⟨m, h1, h2⟩ := list_choice l fun x hx => h x (List.mem_cons_of_mem _ hx)
    exact ⟨b :: m, by rw [h1]; rfl, fun x hx => (List.mem_cons.1 hx).elim (fun e => e ▸ hb) (h2 x)⟩
theorem flat_one {β : Type} (f : β → Value) : ∀ m : List β, (m.map fun z => [f z]).flatten = m.map f
  | [] => rfl
  | z :: m => by rw [List.map_cons, List.flatten_cons, flat_one f m]; rfl
theorem open_ints {fuel : Nat} {c : Value} {x : DataW H × List MemPlace} (h : DataW.trod enc Tryz.prog W 0 spare held fuel 26 [c] = some x) : ∃ l : List Int, IntsV W c l := by
  rcases open_row (sz := 1) Tryz.underlying26 (by kernel_rfl) h with h0 | ⟨a, len, cap, n, fs, _, hcs, hb, hl, hf⟩
  · simp only [List.cons.injEq, and_true] at h0
    exact ⟨[], none, 0, h0, fun _ _ h => (nomatch h)⟩
  · simp only [List.cons.injEq, and_true] at hcs
    obtain ⟨zs, rfl, _⟩ := list_choice (g := fun z : Int => [Value.int .i64 z]) (p := fun _ => True) fs (fun c hc => by
      obtain ⟨i, hi⟩ := List.getElem?_of_mem hc
      obtain ⟨_, y, hy⟩ := hf i c hi
      obtain ⟨z, e, _⟩ := DataW.trod_int Tryz.underlying3 hy
      exact ⟨z, e, trivial⟩)
    rw [List.length_map] at hl
    have hr := rowV_of (cap := cap) (fs := zs.map fun z : Int => [Value.int .i64 z]) (by rw [List.length_map, hl]) (sz := 1) (by decide) hb (fun i c hi => ⟨fun u hu => by
      rw [List.getElem?_map] at hi
      obtain ⟨z, _, rfl⟩ := Option.map_eq_some_iff.1 hi
      obtain rfl := List.mem_singleton.1 hu
      rfl, (hf i c hi).1⟩)
    rw [flat_one] at hr
    obtain ⟨h1, _, _, q, k, e, h5⟩ := hr
    refine ⟨zs, q, k, ?_, fun i z hi => ?_⟩
    · rw [hcs, e, hl]
    · obtain ⟨b, off, e2, h6⟩ := h5 (by have := (List.getElem?_eq_some_iff.1 hi).1; omega)
      exact ⟨b, off, e2, h6 i _ (by rw [List.getElem?_map, hi]; rfl)⟩
theorem open_strs {fuel : Nat} {c : Value} {x : DataW H × List MemPlace} (h : DataW.trod enc Tryz.prog W 0 spare held fuel 27 [c] = some x) : ∃ l : List (List UInt8), StrsV W c l ∧ l.length ≤ 9223372036854775807 ∧ ∀ x ∈ l, x.length ≤ 9223372036854775807 := by
  rcases open_row (sz := 1) Tryz.underlying27 (by kernel_rfl) h with h0 | ⟨a, len, cap, n, fs, _, hcs, hb, hl, hf⟩
  · simp only [List.cons.injEq, and_true] at h0
    exact ⟨[], ⟨none, 0, h0, fun _ _ h => (nomatch h)⟩, by simp, fun _ h => (nomatch h)⟩
  · simp only [List.cons.injEq, and_true] at hcs
    obtain ⟨zs, rfl, hzl⟩ := list_choice (g := fun z : List UInt8 => [Value.string (mkS z)]) (p := fun z => z.length ≤ 9223372036854775807) fs (fun c hc => by
      obtain ⟨i, hi⟩ := List.getElem?_of_mem hc
      obtain ⟨h0, y, hy⟩ := hf i c hi
      obtain ⟨_, h1, _⟩ := World.cells?_some h0
      match c, h1 with
      | [c], _ =>
        obtain ⟨l, e, hl⟩ := open_str hy
        exact ⟨l, by rw [e], hl⟩)
    rw [List.length_map] at hl
    have hr := rowV_of (cap := cap) (fs := zs.map fun z : List UInt8 => [Value.string (mkS z)]) (by rw [List.length_map, hl]) (sz := 1) (by decide) hb (fun i c hi => ⟨fun u hu => by
      rw [List.getElem?_map] at hi
      obtain ⟨z, _, rfl⟩ := Option.map_eq_some_iff.1 hi
      obtain rfl := List.mem_singleton.1 hu
      rfl, (hf i c hi).1⟩)
    rw [flat_one] at hr
    obtain ⟨h1, _, _, q, k, e, h5⟩ := hr
    refine ⟨zs, ⟨q, k, ?_, fun i z hi => ?_⟩, by omega, hzl⟩
    · rw [hcs, e, hl]
    · obtain ⟨b, off, e2, h6⟩ := h5 (by have := (List.getElem?_eq_some_iff.1 hi).1; omega)
      exact ⟨b, off, e2, h6 i _ (by rw [List.getElem?_map, hi]; rfl)⟩
theorem list2 {c : List Value} (h : c.length = 2) : ∃ a0 a1, c = [a0, a1] := by
  match c, h with
  | [a0, a1], _ => exact ⟨_, _, rfl⟩
theorem list6 {c : List Value} (h : c.length = 6) : ∃ a0 a1 a2 a3 a4 a5, c = [a0, a1, a2, a3, a4, a5] := by
  match c, h with
  | [a0, a1, a2, a3, a4, a5], _ => exact ⟨_, _, _, _, _, _, rfl⟩
theorem list9 {c : List Value} (h : c.length = 9) : ∃ a0 a1 a2 a3 a4 a5 a6 a7 a8, c = [a0, a1, a2, a3, a4, a5, a6, a7, a8] := by
  match c, h with
  | [a0, a1, a2, a3, a4, a5, a6, a7, a8], _ => exact ⟨_, _, _, _, _, _, _, _, _, rfl⟩
/-- a header's field in its two cells -/
theorem open_hf {fuel : Nat} {c : List Value} {x : DataW H × List MemPlace} (h : DataW.trod enc Tryz.prog W 0 spare held fuel 64 c = some x) : ∃ f : HF, c = [.string (mkS f.name), .string (mkS f.val)] ∧ f.name.length ≤ 9223372036854775807 ∧ f.val.length ≤ 9223372036854775807 := by
  obtain ⟨xs, n, _, _, hl, hxl, hall⟩ := DataW.trod_struct Tryz.underlying64 h
  rw [show Tryz.prog.cellsOf 64 = 2 from by kernel_rfl] at hl
  have k9 : Tryz.prog.cellsOf 9 = 1 := by kernel_rfl
  obtain ⟨u, v, rfl⟩ := list2 hl
  have h0 : DataW.trod enc Tryz.prog W 0 spare held n 9 ((([u, v] : List Value).drop 0).take (Tryz.prog.cellsOf 9)) = xs[0]? := hall 0 _ rfl
  have h1 : DataW.trod enc Tryz.prog W 0 spare held n 9 ((([u, v] : List Value).drop 1).take (Tryz.prog.cellsOf 9)) = xs[1]? := hall 1 _ rfl
  rw [k9, List.getElem?_eq_getElem (by rw [hxl]; decide)] at h0
  rw [k9, List.getElem?_eq_getElem (by rw [hxl]; decide)] at h1
  obtain ⟨l0, e0, g0⟩ := open_str (c := u) h0
  obtain ⟨l1, e1, g1⟩ := open_str (c := v) h1
  exact ⟨⟨l0, l1⟩, by rw [e0, e1], g0, g1⟩
theorem open_head {fuel : Nat} {c : Value} {x : DataW H × List MemPlace} (h : DataW.trod enc Tryz.prog W 0 spare held fuel 22 [c] = some x) : ∃ fs : List HF, RowV W 2 c fs.length (hcells fs) ∧ ∀ f ∈ fs, f.name.length ≤ 9223372036854775807 ∧ f.val.length ≤ 9223372036854775807 := by
  rcases open_row (sz := 2) Tryz.underlying22 (by kernel_rfl) h with h0 | ⟨a, len, cap, n, fs, _, hcs, hb, hl, hf⟩
  · simp only [List.cons.injEq, and_true] at h0
    subst h0
    exact ⟨[], rowV_nil W 2, fun _ h => (nomatch h)⟩
  · simp only [List.cons.injEq, and_true] at hcs
    obtain ⟨zs, rfl, hzl⟩ := list_choice (g := fun z : HF => [Value.string (mkS z.name), .string (mkS z.val)]) (p := fun z => z.name.length ≤ 9223372036854775807 ∧ z.val.length ≤ 9223372036854775807) fs (fun c hc => by
      obtain ⟨i, hi⟩ := List.getElem?_of_mem hc
      obtain ⟨h0, y, hy⟩ := hf i c hi
      exact open_hf hy)
    rw [List.length_map] at hl
    have hr := rowV_of (cap := cap) (fs := zs.map fun z : HF => [Value.string (mkS z.name), .string (mkS z.val)]) (by rw [List.length_map, hl]) (sz := 2) (by decide) hb (fun i c hi => ⟨fun u hu => by
      rw [List.getElem?_map] at hi
      obtain ⟨z, _, rfl⟩ := Option.map_eq_some_iff.1 hi
      exact str2_one _ _ u hu, (hf i c hi).1⟩)
    refine ⟨zs, ?_, hzl⟩
    rw [hcs, hl]
    exact hr
theorem MlV.one {m : Ml} {cs : List Value} (h : MlV W m cs) : ∀ u ∈ cs, u.oneCell' = true := by
  obtain ⟨hv, kv, rfl, hP⟩ := h.open
  exact hP.one
theorem mlsV_of : ∀ (ms : List Ml) (ks : List (List Value)), ks.length = ms.length → (∀ (i : Nat) (m : Ml), ms[i]? = some m → ∃ c, ks[i]? = some c ∧ MlV W m c) → MlsV W ms ks
  | [], ks, hl, _ => by rw [MlsV]; exact List.length_eq_zero_iff.1 hl
  | m :: ms, ks, hl, h => by
    rw [MlsV]
    cases ks with
    | nil => simp at hl
    | cons c ks =>
      obtain ⟨c', h1, h2⟩ := h 0 m rfl
      obtain rfl := Option.some.inj h1
      exact ⟨c, ks, rfl, h2, mlsV_of ms ks (by simpa using hl) fun i m hi => h (i + 1) m hi⟩
/-- a mail in its nine cells -/
theorem open_mail : ∀ (fuel : Nat) (c : List Value) (x : DataW H × List MemPlace), DataW.trod enc Tryz.prog W 0 spare held fuel 25 c = some x → ∃ m : Ml, MlV W m c := by
  intro fuel
  induction fuel using Nat.strongRecOn with
  | _ fuel ih =>
  intro c x h
  obtain ⟨xs, n, hn, _, hl, hxl, hall⟩ := DataW.trod_struct Tryz.underlying25 h
  rw [show Tryz.prog.cellsOf 25 = 9 from by kernel_rfl] at hl
  have k9 : Tryz.prog.cellsOf 9 = 1 := by kernel_rfl
  have k3 : Tryz.prog.cellsOf 3 = 1 := by kernel_rfl
  have k22 : Tryz.prog.cellsOf 22 = 1 := by kernel_rfl
  have k23 : Tryz.prog.cellsOf 23 = 1 := by kernel_rfl
  obtain ⟨a0, a1, a2, a3, a4, a5, a6, a7, a8, rfl⟩ := list9 hl
  have h0 : DataW.trod enc Tryz.prog W 0 spare held n 22 ((([a0, a1, a2, a3, a4, a5, a6, a7, a8] : List Value).drop 0).take (Tryz.prog.cellsOf 22)) = xs[0]? := hall 0 _ rfl
  have h1 : DataW.trod enc Tryz.prog W 0 spare held n 3 ((([a0, a1, a2, a3, a4, a5, a6, a7, a8] : List Value).drop 1).take (Tryz.prog.cellsOf 3)) = xs[1]? := hall 1 _ rfl
  have h2 : DataW.trod enc Tryz.prog W 0 spare held n 9 ((([a0, a1, a2, a3, a4, a5, a6, a7, a8] : List Value).drop 2).take (Tryz.prog.cellsOf 9)) = xs[2]? := hall 2 _ rfl
  have h3 : DataW.trod enc Tryz.prog W 0 spare held n 9 ((([a0, a1, a2, a3, a4, a5, a6, a7, a8] : List Value).drop 3).take (Tryz.prog.cellsOf 9)) = xs[3]? := hall 3 _ rfl
  have h4 : DataW.trod enc Tryz.prog W 0 spare held n 9 ((([a0, a1, a2, a3, a4, a5, a6, a7, a8] : List Value).drop 4).take (Tryz.prog.cellsOf 9)) = xs[4]? := hall 4 _ rfl
  have h5 : DataW.trod enc Tryz.prog W 0 spare held n 9 ((([a0, a1, a2, a3, a4, a5, a6, a7, a8] : List Value).drop 5).take (Tryz.prog.cellsOf 9)) = xs[5]? := hall 5 _ rfl
  have h6 : DataW.trod enc Tryz.prog W 0 spare held n 9 ((([a0, a1, a2, a3, a4, a5, a6, a7, a8] : List Value).drop 6).take (Tryz.prog.cellsOf 9)) = xs[6]? := hall 6 _ rfl
  have h7 : DataW.trod enc Tryz.prog W 0 spare held n 9 ((([a0, a1, a2, a3, a4, a5, a6, a7, a8] : List Value).drop 7).take (Tryz.prog.cellsOf 9)) = xs[7]? := hall 7 _ rfl
  have h8 : DataW.trod enc Tryz.prog W 0 spare held n 23 ((([a0, a1, a2, a3, a4, a5, a6, a7, a8] : List Value).drop 8).take (Tryz.prog.cellsOf 23)) = xs[8]? := hall 8 _ rfl
  rw [k22, List.getElem?_eq_getElem (by rw [hxl]; decide)] at h0
  rw [k3, List.getElem?_eq_getElem (by rw [hxl]; decide)] at h1
  rw [k9, List.getElem?_eq_getElem (by rw [hxl]; decide)] at h2
  rw [k9, List.getElem?_eq_getElem (by rw [hxl]; decide)] at h3
  rw [k9, List.getElem?_eq_getElem (by rw [hxl]; decide)] at h4
  rw [k9, List.getElem?_eq_getElem (by rw [hxl]; decide)] at h5
  rw [k9, List.getElem?_eq_getElem (by rw [hxl]; decide)] at h6
  rw [k9, List.getElem?_eq_getElem (by rw [hxl]; decide)] at h7
  rw [k23, List.getElem?_eq_getElem (by rw [hxl]; decide)] at h8
  obtain ⟨head, r0, r1⟩ := open_head (c := a0) h0
  obtain ⟨kind, e1, _⟩ := DataW.trod_int (t := 3) (cs := [a1]) (x := xs[1]'(by rw [hxl]; decide)) Tryz.underlying3 h1
  simp only [List.cons.injEq, and_true] at e1
  obtain ⟨l2, e2, g2⟩ := open_str (c := a2) h2
  obtain ⟨l3, e3, g3⟩ := open_str (c := a3) h3
  obtain ⟨l4, e4, g4⟩ := open_str (c := a4) h4
  obtain ⟨l5, e5, g5⟩ := open_str (c := a5) h5
  obtain ⟨l6, e6, g6⟩ := open_str (c := a6) h6
  obtain ⟨l7, e7, g7⟩ := open_str (c := a7) h7
  obtain ⟨y8, h8'⟩ : ∃ y, DataW.trod enc Tryz.prog W 0 spare held n 23 [a8] = some y := ⟨_, h8⟩
  obtain ⟨kids, ks, s1, s2⟩ : ∃ (kids : List Ml) (ks : List (List Value)), RowV W 9 a8 kids.length ks.flatten ∧ MlsV W kids ks := by
    rcases open_row (sz := 9) Tryz.underlying23 (by kernel_rfl) h8' with z0 | ⟨a, len, cap, n2, fs, hn2, hcs, hb, hl2, hf⟩
    · simp only [List.cons.injEq, and_true] at z0
      rw [z0]
      exact ⟨[], [], rowV_nil W 9, by rw [MlsV]⟩
    · simp only [List.cons.injEq, and_true] at hcs
      obtain ⟨f, hfm⟩ := Go.Deep.choose_lt (α := Ml) (n := len) (p := fun i m => ∃ c, fs[i]? = some c ∧ MlV W m c) (fun i hi => by
        obtain ⟨c, hc⟩ : ∃ c, fs[i]? = some c := ⟨_, List.getElem?_eq_getElem (by omega)⟩
        obtain ⟨_, y, hy⟩ := hf i c hc
        obtain ⟨m, hm⟩ := ih n2 (by omega) c y hy
        exact ⟨m, c, hc, hm⟩)
      refine ⟨(List.range len).map f, fs, ?_, mlsV_of _ _ (by simp [hl2]) fun i m hi => ?_⟩
      · rw [hcs, List.length_map, List.length_range]
        refine rowV_of hl2 (by decide) hb fun i c hi => ⟨?_, (hf i c hi).1⟩
        obtain ⟨c', h1, h2⟩ := hfm i (by have := (List.getElem?_eq_some_iff.1 hi).1; omega)
        rw [hi] at h1
        obtain rfl := Option.some.inj h1
        exact h2.one
      · rw [List.getElem?_map] at hi
        obtain ⟨j, hj, rfl⟩ := Option.map_eq_some_iff.1 hi
        obtain ⟨hj1, hj2⟩ := List.getElem?_eq_some_iff.1 hj
        simp at hj1 hj2
        subst hj2
        exact hfm i hj1
  refine ⟨.mk head kind l2 l3 l4 l5 l6 l7 kids, ?_⟩
  rw [MlV]
  exact ⟨a0, a8, by rw [e1, e2, e3, e4, e5, e6, e7], r0, r1, ⟨g2, g3, g4, g5, g6, g7⟩, ks, s1, s2⟩
/-- a section in its six cells -/
theorem open_sec {fuel : Nat} {c : List Value} {x : DataW H × List MemPlace} (h : DataW.trod enc Tryz.prog W 0 spare held fuel 29 c = some x) :
    ∃ (pv fv tv : Value) (part : List UInt8) (no peek : Bool) (path pt : List Int) (fs : List (List UInt8)), c = [pv, .string (mkS part), fv, .bool no, .bool peek, tv] ∧ IntsV W pv path ∧ StrsV W fv fs ∧ fs.length ≤ 9223372036854775807 ∧ (∀ x ∈ fs, x.length ≤ 9223372036854775807) ∧ IntsV W tv pt := by
  obtain ⟨xs, n, _, _, hl, hxl, hall⟩ := DataW.trod_struct Tryz.underlying29 h
  rw [show Tryz.prog.cellsOf 29 = 6 from by kernel_rfl] at hl
  have k9 : Tryz.prog.cellsOf 9 = 1 := by kernel_rfl
  have k26 : Tryz.prog.cellsOf 26 = 1 := by kernel_rfl
  have k27 : Tryz.prog.cellsOf 27 = 1 := by kernel_rfl
  have k4 : Tryz.prog.cellsOf 4 = 1 := by kernel_rfl
  obtain ⟨a0, a1, a2, a3, a4, a5, rfl⟩ := list6 hl
  have h0 : DataW.trod enc Tryz.prog W 0 spare held n 26 ((([a0, a1, a2, a3, a4, a5] : List Value).drop 0).take (Tryz.prog.cellsOf 26)) = xs[0]? := hall 0 _ rfl
  have h1 : DataW.trod enc Tryz.prog W 0 spare held n 9 ((([a0, a1, a2, a3, a4, a5] : List Value).drop 1).take (Tryz.prog.cellsOf 9)) = xs[1]? := hall 1 _ rfl
  have h2 : DataW.trod enc Tryz.prog W 0 spare held n 27 ((([a0, a1, a2, a3, a4, a5] : List Value).drop 2).take (Tryz.prog.cellsOf 27)) = xs[2]? := hall 2 _ rfl
  have h3 : DataW.trod enc Tryz.prog W 0 spare held n 4 ((([a0, a1, a2, a3, a4, a5] : List Value).drop 3).take (Tryz.prog.cellsOf 4)) = xs[3]? := hall 3 _ rfl
  have h4 : DataW.trod enc Tryz.prog W 0 spare held n 4 ((([a0, a1, a2, a3, a4, a5] : List Value).drop 4).take (Tryz.prog.cellsOf 4)) = xs[4]? := hall 4 _ rfl
  have h5 : DataW.trod enc Tryz.prog W 0 spare held n 26 ((([a0, a1, a2, a3, a4, a5] : List Value).drop 5).take (Tryz.prog.cellsOf 26)) = xs[5]? := hall 5 _ rfl
  rw [k26, List.getElem?_eq_getElem (by rw [hxl]; decide)] at h0
  rw [k9, List.getElem?_eq_getElem (by rw [hxl]; decide)] at h1
  rw [k27, List.getElem?_eq_getElem (by rw [hxl]; decide)] at h2
  rw [k4, List.getElem?_eq_getElem (by rw [hxl]; decide)] at h3
  rw [k4, List.getElem?_eq_getElem (by rw [hxl]; decide)] at h4
  rw [k26, List.getElem?_eq_getElem (by rw [hxl]; decide)] at h5
  obtain ⟨path, p1⟩ := open_ints (c := a0) h0
  obtain ⟨part, e1, _⟩ := open_str (c := a1) h1
  obtain ⟨fs, f1, f2, f3⟩ := open_strs (c := a2) h2
  obtain ⟨no, e3, _⟩ := DataW.trod_bool (cs := [a3]) Tryz.underlying4 h3
  obtain ⟨peek, e4, _⟩ := DataW.trod_bool (cs := [a4]) Tryz.underlying4 h4
  obtain ⟨pt, t1⟩ := open_ints (c := a5) h5
  simp only [List.cons.injEq, and_true] at e3 e4
  exact ⟨a0, a2, a5, part, no, peek, path, pt, fs, by rw [e1, e3, e4], p1, f1, f2, f3, t1⟩
end
end Go.Proofs
end

/-
  Steps on the way to the cards of laws.FnFetched and laws.FnFetchedWhole; the conditions of each are the hypotheses that it names. In order:
  WALKS (printed by wx.py from Ij.px): strings.TrimSpace, of what has no blank at its ends.
  PLAIN: mails as data, their text; what stands between boundaries is clean.
  PLAIN: sections of a mail.
  PLAIN: mails as they lie in memory.
  WALKS (printed by wx.py from Ik.px): message.ParseMediaType, of several parts with a boundary.
  WALKS (printed by wx.py from Il.px): backendutil.multipartReader.
-/
import Derived.Test.YtjbbapodcngnaaaGreatDoorV11
import Derived.Test.YtjbbapodcngnaaaGreatDoorV06
set_option linter.all false
section
namespace Go.Proofs
open Go.Eng
section
variable {W w : World} {g : Gl W} {s : List SL}
theorem c96 {c d : UInt8} {l : List UInt8} (g : Gl W) (hS : St W s w) [ho : HasOld s W] (h0 : l[0]? = some c) (h1 : l[l.length - 1]? = some d) (hc0 : 32 < c.toNat ∧ c.toNat < 127) (hd0 : 32 < d.toNat ∧ d.toNat < 127) (hmy : l.length ≤ 100000) :
    Calls Tryz.prog 96 #[.string (mkS l)] w fun e w' => e = .returned (.string (mkS l)) ∧ St W s w' := by
  have hpos := (List.getElem?_eq_some_iff.1 h0).1; have q1 : decide (128 ≤ c) = false := by simp [UInt8.lt_iff_toNat_lt]; omega
  have q2 : decide (128 ≤ d) = false := by simp [UInt8.lt_iff_toNat_lt]; omega
  refine fn_calls (args := [.string (mkS l)]) Tryz.func96 rfl rfl rfl ?_; refine Xs (Xg (XX 1 hS rfl (Xn (Xs (Xs (Xg (XX 1 hS rfl ?_))))))); refine XD hS (dToBytes rfl) rfl ?_; clear hS; intro vr w hR; obtain ⟨b8, jk, rfl, hS⟩ := hR; refine XR hS (rLen rfl) rfl (XX 1 hS rfl (Xn (Xb ?_))); intro a hE; refine cw_loop (fun (i : Unit) a w => Env Tryz.f96.ntmps (envL [(0, .string (mkS l)), (8, .slice (some ⟨b8, 0, none⟩) l.length (l ++ jk).length), (9, .int .i64 (l.length : Int)), (10, .int .i64 0)]) a ∧ St W (bys 5 b8 (l ++ jk) :: s) w) (fun i => 0) () ⟨hE.cut ⟨rfl, rfl, rfl, rfl, trivial⟩, hS⟩ ?_; clear hS hE a; rintro ⟨⟩ a w ⟨hE, hS⟩; revert a; refine Xs (Xg (XR hS (rCmp rfl rfl (cmp_lssT (by omega))) rfl ?_)); refine Xn (Xs (Xt rfl (Xk (Xs (Xb (Xs (Xg (XX 1 hS rfl (XR hS (rIdxA1 (i := 0) rfl rfl (by omega)) rfl ?_)))))))))
  refine XR hS (rLoadB rfl (idx_eq (show (l ++ jk)[0]? = some c by rw [List.getElem?_append_left hpos]; exact h0) rfl)) rfl ?_; refine XX 2 hS rfl (Xn (Xs (Xs (Xg (XX 1 hS rfl (XR hS (rB8ge (d := 128) rfl rfl q1) rfl (Xn (Xf rfl (Xk (Xs (Xs (Xg (XX 1 hS rfl (XR hS (rIdxArr (i := c.toNat) rfl rfl (by omega)) rfl ?_)))))))))))))); refine XR hS (rLoadO (V := W) rfl (by rw [Nat.zero_add, Nat.mul_one]; exact g.g12 _ hc0.1 (by omega))) rfl ?_; refine XR hS (rB8n (c := 0) (d := 0) rfl rfl rfl) rfl (Xn (Xf rfl (Xk (Xs (Xg (XX 2 hS rfl (XR hS (rSlcS1 (i := 0) rfl rfl (by omega)) rfl ?_))))))); refine XX 1 hS rfl (Xn (Xs ?_)); intro a hE; rw [List.drop_zero] at hE; revert a; refine Xg (XX 1 hS rfl (XR hS (rLenS (ty0 := 0) rfl) rfl (XR hS (rSubN (n := 1) rfl rfl (by first | omega | (simp <;> omega)) (by first | omega | (simp <;> omega)) rfl) rfl ?_))); refine XX 1 hS rfl (Xn (Xb ?_)); intro a hE
  refine cw_loop (fun (i : Unit) a w => Env Tryz.f96.ntmps (envL [(0, .string (mkS l)), (5, .int .i64 ((l.length - 1 : Nat) : Int))]) a ∧ St W (bys 5 b8 (l ++ jk) :: s) w) (fun i => 0) () ⟨hE.cut ⟨rfl, rfl, trivial⟩, hS⟩ ?_; clear hS hE a; rintro ⟨⟩ a w ⟨hE, hS⟩; revert a; refine Xs (Xs (Xg (XX 1 hS rfl (XR hS (rCmp rfl rfl (cmp_geqT (by omega))) rfl ?_)))); refine Xn (Xt rfl (Xk (Xs (Xb (Xs (Xg (XX 2 hS rfl (XR hS (rIdxS (i := l.length - 1) rfl rfl h1) rfl (XX 1 hS rfl (Xn (Xs (Xs (Xg (XX 1 hS rfl ?_)))))))))))))); refine XR hS (rB8ge (d := 128) rfl rfl q2) rfl (Xn (Xf rfl (Xk (Xs (Xg (XX 1 hS rfl (XR hS (rIdxArr (i := d.toNat) rfl rfl (by omega)) rfl ?_))))))); refine XR hS (rLoadO (V := W) rfl (by rw [Nat.zero_add, Nat.mul_one]; exact g.g12 _ hd0.1 (by omega))) rfl ?_
  refine XR hS (rB8 (c := 0) (d := 0) rfl rfl rfl) rfl (Xn (Xt rfl (Xs (Xg (XX 2 hS rfl (XR hS (rAddN (n := 1) rfl rfl (by omega) rfl) rfl ?_)))))); refine XR hS (rSlcS0 rfl rfl (by omega)) rfl ?_; refine XX 1 hS rfl (Xn (Xr ?_)); intro a hE; rw [show l.length - 1 + 1 = l.length by omega, List.take_length] at hE; exact kret1 hE rfl rfl ⟨rfl, hS.tail⟩
end
end Go.Proofs
end
section
namespace Go.Proofs
open Go.Eng

/-- a mail, or a part of one -/
inductive Ml where
  | mk (head : List HF) (kind : Int) (ty sub id ab way text : List UInt8) (kids : List Ml)
namespace Ml
def head : Ml → List HF | mk h _ _ _ _ _ _ _ _ => h
def kind : Ml → Int | mk _ k _ _ _ _ _ _ _ => k
def ty : Ml → List UInt8 | mk _ _ t _ _ _ _ _ _ => t
def sub : Ml → List UInt8 | mk _ _ _ s _ _ _ _ _ => s
def id : Ml → List UInt8 | mk _ _ _ _ i _ _ _ _ => i
def ab : Ml → List UInt8 | mk _ _ _ _ _ a _ _ _ => a
def way : Ml → List UInt8 | mk _ _ _ _ _ _ w _ _ => w
def text : Ml → List UInt8 | mk _ _ _ _ _ _ _ t _ => t
def kids : Ml → List Ml | mk _ _ _ _ _ _ _ _ k => k
end Ml
/-- "Content-Type" -/
def ctN : List UInt8 := [67, 111, 110, 116, 101, 110, 116, 45, 84, 121, 112, 101]
/-- "Content-Id" -/
def ciN : List UInt8 := [67, 111, 110, 116, 101, 110, 116, 45, 73, 100]
/-- "Content-Description" -/
def cdN : List UInt8 := [67, 111, 110, 116, 101, 110, 116, 45, 68, 101, 115, 99, 114, 105, 112, 116, 105, 111, 110]
/-- "Content-Transfer-Encoding" -/
def ceN : List UInt8 := [67, 111, 110, 116, 101, 110, 116, 45, 84, 114, 97, 110, 115, 102, 101, 114, 45, 69, 110, 99, 111, 100, 105, 110, 103]
/-- "multipart/" -/
def mpW : List UInt8 := [109, 117, 108, 116, 105, 112, 97, 114, 116, 47]
/-- "; boundary=" -/
def bdW : List UInt8 := [59, 32, 98, 111, 117, 110, 100, 97, 114, 121, 61]
def Ml.ctVal (m : Ml) (pl : List UInt8) : List UInt8 := if m.kind = 1 then mpW ++ m.sub ++ bdW ++ 98 :: pl else m.ty ++ 47 :: m.sub
def fldOf (n v : List UInt8) : List HF := if v = [] then [] else [⟨n, v⟩]
def Ml.flds (m : Ml) (pl : List UInt8) : List HF := m.head ++ (if m.ty = [] then [] else [⟨ctN, m.ctVal pl⟩]) ++ fldOf ciN m.id ++ fldOf cdN m.ab ++ fldOf ceN m.way
def undr (pl : List UInt8) (i : Nat) : List UInt8 := pl ++ [97 + UInt8.ofNat (i % 26)]
def dash (pl : List UInt8) : List UInt8 := 45 :: 45 :: 98 :: pl
mutual
/-- what stands behind the header -/
def Ml.cont : Ml → List UInt8 → List UInt8
  | .mk _ kind _ _ _ _ _ text kids, pl => if kind = 0 then text else if kind = 2 then Mls.fst kids pl else Mls.parts kids pl 0
def Mls.fst : List Ml → List UInt8 → List UInt8
  | [], _ => []
  | m :: _, pl => hraw (m.flds (undr pl 0)) ++ 13 :: 10 :: m.cont (undr pl 0)
def Mls.parts : List Ml → List UInt8 → Nat → List UInt8
  | [], pl, _ => dash pl ++ [45, 45, 13, 10]
  | m :: ms, pl, i => dash pl ++ 13 :: 10 :: (hraw (m.flds (undr pl i)) ++ 13 :: 10 :: (m.cont (undr pl i) ++ 13 :: 10 :: Mls.parts ms pl (i + 1)))
end
def Ml.txt (m : Ml) (pl : List UInt8) : List UInt8 := hraw (m.flds pl) ++ 13 :: 10 :: m.cont pl
/-! ## lines -/
def Lns (P : List UInt8 → Prop) (t : List UInt8) : Prop := ∃ ls : List (List UInt8), t = ls.flatMap (fun l => l ++ [13, 10]) ∧ ∀ l ∈ ls, 13 ∉ l ∧ P l
theorem Lns.nil {P : List UInt8 → Prop} : Lns P [] := ⟨[], rfl, fun _ h => nomatch h⟩
theorem Lns.app {P : List UInt8 → Prop} {a b : List UInt8} (h : Lns P a) (k : Lns P b) : Lns P (a ++ b) := by
  obtain ⟨l1, rfl, h1⟩ := h
  obtain ⟨l2, rfl, h2⟩ := k
  exact ⟨l1 ++ l2, by simp, fun l hl => (List.mem_append.1 hl).elim (h1 l) (h2 l)⟩
theorem Lns.one {P : List UInt8 → Prop} {l : List UInt8} (h : 13 ∉ l) (hp : P l) : Lns P (l ++ [13, 10]) := ⟨[l], by simp, fun x hx => by obtain rfl := List.mem_singleton.1 hx; exact ⟨h, hp⟩⟩
theorem Lns.line {P : List UInt8 → Prop} {l t : List UInt8} (h : 13 ∉ l) (hp : P l) (k : Lns P t) : Lns P (l ++ 13 :: 10 :: t) := by
  have := (Lns.one h hp).app k
  simpa using this
theorem Lns.empty {P : List UInt8 → Prop} {t : List UInt8} (hp : P []) (k : Lns P t) : Lns P (13 :: 10 :: t) := Lns.line (l := []) (by simp) hp k
theorem Lns.mono {P Q : List UInt8 → Prop} {t : List UInt8} (h : ∀ l, P l → Q l) (k : Lns P t) : Lns Q t := by
  obtain ⟨ls, e, h1⟩ := k
  exact ⟨ls, e, fun l hl => ⟨(h1 l hl).1, h _ (h1 l hl).2⟩⟩
/-- a line that begins with two hyphens goes on behind the boundary of this place -/
def Dl (q l : List UInt8) : Prop := hasPre l [45, 45] = true → ∃ c t, l = dash q ++ c :: t ∧ isTerm c = false
theorem nl_no {q : List UInt8} {ls : List (List UInt8)} {tail : List UInt8} (hls : ∀ l ∈ ls, 13 ∉ l ∧ Dl q l) (ht : ∃ t, tail = 13 :: t) :
    ∀ i, i < (ls.flatMap (fun l => l ++ [13, 10])).length → hasPre ((ls.flatMap (fun l => l ++ [13, 10]) ++ tail).drop i) (13 :: 10 :: dash q) = true →
      ∃ c, (ls.flatMap (fun l => l ++ [13, 10]) ++ tail)[i + (13 :: 10 :: dash q).length]? = some c ∧ isTerm c = false := by
  induction ls with
  | nil => intro i hi; simp at hi
  | cons l ls ih =>
    intro i hi hp
    obtain ⟨hl13, hld⟩ := hls l (List.mem_cons_self ..)
    have ih := ih fun l' hl' => hls l' (List.mem_cons_of_mem _ hl')
    obtain ⟨rr, hrr⟩ : ∃ rr, rr = ls.flatMap (fun l => l ++ [13, 10]) := ⟨_, rfl⟩
    have e1 : (l :: ls).flatMap (fun l => l ++ [13, 10]) = l ++ 13 :: 10 :: rr := by rw [hrr]; simp
    rw [e1] at hi hp ⊢
    rw [← hrr] at ih
    obtain ⟨q0, hq0⟩ := hasPre_iff.1 hp
    have at0 : (l ++ 13 :: 10 :: rr ++ tail)[i]? = some 13 := by
      have := congrArg (fun x => x[0]?) hq0
      simpa using this
    have at1 : (l ++ 13 :: 10 :: rr ++ tail)[i + 1]? = some 10 := by
      have := congrArg (fun x => x[1]?) hq0
      simpa using this
    rcases Nat.lt_trichotomy i l.length with h | h | h
    · rw [List.append_assoc, List.getElem?_append_left h] at at0
      exact absurd (List.mem_of_getElem? at0) hl13
    · subst h
      have e2 : (l ++ 13 :: 10 :: rr ++ tail).drop l.length = 13 :: 10 :: (rr ++ tail) := by simp
      rw [e2] at hq0
      have e3 : rr ++ tail = dash q ++ q0 := by simpa using hq0
      cases ls with
      | nil =>
        obtain ⟨t, rfl⟩ := ht
        have : rr = [] := by rw [hrr]; rfl
        rw [this] at e3
        simp [dash] at e3
      | cons l2 ls =>
        obtain ⟨k13, kd⟩ := hls l2 (by simp)
        have e4 : rr = l2 ++ 13 :: 10 :: ls.flatMap (fun l => l ++ [13, 10]) := by rw [hrr]; simp
        have hp2 : hasPre l2 [45, 45] = true := by
          rw [e4] at e3
          match l2, e3 with
          | [], e3 => simp [dash] at e3
          | [x], e3 => simp [dash] at e3
          | x :: y :: l2, e3 => simp [dash] at e3; exact hasPre_iff.2 ⟨l2, by simp [e3.1, e3.2.1]⟩
        obtain ⟨c, t, h1, h2⟩ := kd hp2
        refine ⟨c, ?_, h2⟩
        rw [e4, h1]
        have e5 : l ++ 13 :: 10 :: (dash q ++ c :: t ++ 13 :: 10 :: ls.flatMap (fun l => l ++ [13, 10])) ++ tail = (l ++ 13 :: 10 :: dash q) ++ c :: (t ++ 13 :: 10 :: ls.flatMap (fun l => l ++ [13, 10]) ++ tail) := by simp
        rw [e5, List.getElem?_append_right (by simp)]
        simp
    · rcases Nat.lt_or_ge i (l.length + 2) with h' | h'
      · have : i = l.length + 1 := by omega
        subst this
        rw [List.append_assoc, List.getElem?_append_right (by omega)] at at0
        simp at at0
      · obtain ⟨j, rfl⟩ : ∃ j, i = l.length + 2 + j := ⟨i - (l.length + 2), by omega⟩
        have e6 : (l ++ 13 :: 10 :: rr ++ tail) = (l ++ [13, 10]) ++ (rr ++ tail) := by simp
        rw [e6] at hp ⊢
        have hl2 : (l ++ [13, 10]).length = l.length + 2 := by simp
        rw [← hl2, List.drop_length_add_append] at hp
        obtain ⟨c, h1, h2⟩ := ih j (by simp at hi; omega) hp
        refine ⟨c, ?_, h2⟩
        rw [List.getElem?_append_right (by omega), ← h1]
        congr 1; omega
theorem clean_of {q rest aft : List UInt8} (h : Lns (Dl q) rest) (ha : ∃ x t, aft = x :: t ∧ isTerm x = true) : Clean (13 :: 10 :: dash q) rest aft := by
  obtain ⟨ls, rfl, h1⟩ := h
  refine ⟨ha, fun i hi hp => ?_⟩
  rw [List.append_assoc] at hp ⊢
  exact nl_no h1 ⟨_, rfl⟩ i hi hp
theorem cleanB_of {q rest aft : List UInt8} (h : Lns (Dl q) rest) : CleanB (13 :: 10 :: dash q) rest aft := by
  intro hp
  have ed : (13 :: 10 :: dash q).drop 2 = dash q := rfl
  rw [ed] at hp ⊢
  obtain ⟨ls, rfl, h1⟩ := h
  obtain ⟨q0, hq0⟩ := hasPre_iff.1 hp
  cases ls with
  | nil => simp [dash] at hq0
  | cons l ls =>
    obtain ⟨k13, kd⟩ := h1 l (by simp)
    have hp2 : hasPre l [45, 45] = true := by
      match l, hq0 with
      | [], e3 => simp [dash] at e3
      | [x], e3 => simp [dash] at e3
      | x :: y :: l2, e3 => simp [dash] at e3; exact hasPre_iff.2 ⟨l2, by simp [e3.1, e3.2.1]⟩
    obtain ⟨c, t, h1, h2⟩ := kd hp2
    refine ⟨c, ?_, h2⟩
    rw [h1]
    simp
theorem nl_is {q : List UInt8} (h : ∀ c ∈ q, isLow c = true) : IsNl (13 :: 10 :: dash q) := by
  refine ⟨by simp [dash], rfl, fun i hi hh => ?_⟩
  match i, hi with
  | 1, _ => simp at hh
  | 2, _ => simp [dash] at hh
  | 3, _ => simp [dash] at hh
  | 4, _ => simp [dash] at hh
  | i + 5, _ =>
    have : q[i]? = some 13 := by simpa [dash] using hh
    have := h _ (List.mem_of_getElem? this)
    revert this; decide
/-! ## right mails -/
structure FdOk (f : HF) : Prop where
  ok : f.ok
  hy : f.name[0]? ≠ some 45
  n20 : f.name.length ≤ 100
  v60 : f.val.length ≤ 100
/-- a text: lines that do not begin with two hyphens -/
def TxtOk (t : List UInt8) : Prop := Lns (fun l => hasPre l [45, 45] = false) t ∧ t.length ≤ 800
/-- what a field says, or nothing -/
def SayOk (v : List UInt8) : Prop := v = [] ∨ (IsVal v ∧ v.length ≤ 60)
def LDs (t : List UInt8) : Prop := (∀ c ∈ t, isLD c = true) ∧ t.length ≤ 20
/-- "multipart" -/
def mpT : List UInt8 := [109, 117, 108, 116, 105, 112, 97, 114, 116]
mutual
def Ml.Ok : Ml → Nat → Prop
  | .mk head kind ty sub id ab way text kids, d => 0 < d ∧ (∀ f ∈ head, FdOk f ∧ f.name ≠ ctN) ∧ head.length ≤ 8 ∧ LDs ty ∧ LDs sub ∧ SayOk id ∧ SayOk ab ∧ SayOk way ∧
      ((kind = 0 ∧ kids = [] ∧ TxtOk text ∧ (ty = [] ↔ sub = []) ∧ ty ≠ mpT) ∨ (kind = 1 ∧ kids ≠ [] ∧ ty = mpT ∧ sub ≠ []) ∨ (kind = 2 ∧ kids.length = 1 ∧ ty ≠ [] ∧ sub ≠ [] ∧ ty ≠ mpT)) ∧ Mls.Ok kids (d - 1)
def Mls.Ok : List Ml → Nat → Prop
  | [], _ => True
  | m :: ms, d => m.Ok d ∧ Mls.Ok ms d
end
mutual
def Ml.num : Ml → Nat
  | .mk _ _ _ _ _ _ _ _ kids => 1 + Mls.num kids
def Mls.num : List Ml → Nat
  | [] => 0
  | m :: ms => m.num + Mls.num ms
end
theorem undr_low {q : List UInt8} (h : ∀ c ∈ q, isLow c = true) (i : Nat) : ∀ c ∈ undr q i, isLow c = true := by
  intro c hc
  rcases List.mem_append.1 hc with hc | hc
  · exact h c hc
  · obtain rfl := List.mem_singleton.1 hc
    have key : ∀ k : Fin 26, isLow (97 + UInt8.ofNat k.val) = true := by decide
    exact key ⟨i % 26, Nat.mod_lt _ (by decide)⟩
theorem low_ne {c : UInt8} (h : isLow c = true) : c ≠ 13 ∧ c ≠ 10 ∧ isTerm c = false ∧ isSp c = false := by
  rw [isLow_iff] at h
  have k : ∀ d : UInt8, d.toNat < 97 → c ≠ d := fun d hd e => by subst e; omega
  refine ⟨k 13 (by decide), k 10 (by decide), ?_, ?_⟩
  · simp [isTerm, k 32 (by decide), k 9 (by decide), k 13 (by decide), k 10 (by decide), k 45 (by decide)]
  · simp [isSp, k 32 (by decide), k 9 (by decide)]
theorem ld_ne {c : UInt8} (h : isLD c = true) : c ≠ 13 ∧ c ≠ 10 ∧ isSp c = false := by
  have h := isLD_n h
  have k : ∀ d : UInt8, d.toNat < 48 → c ≠ d := fun d hd e => by subst e; omega
  refine ⟨k 13 (by decide), k 10 (by decide), ?_⟩
  simp [isSp, k 32 (by decide), k 9 (by decide)]
theorem last_of {l x : List UInt8} {y d : UInt8} (e : l = x ++ [y]) (h : l[l.length - 1]? = some d) : d = y := by
  subst e
  simp at h
  exact h.symm
theorem exists_last {l : List UInt8} (h : l ≠ []) : ∃ x y, l = x ++ [y] ∧ y ∈ l :=
  ⟨l.dropLast, l.getLast h, (List.dropLast_concat_getLast h).symm, List.getLast_mem h⟩
theorem ctVal_ok {m : Ml} {pl : List UInt8} (h1 : LDs m.ty) (h2 : LDs m.sub) (hk : m.kind = 1 ∨ (m.ty ≠ [] ∧ m.sub ≠ [])) (hpl : ∀ c ∈ pl, isLow c = true) (hl : pl.length ≤ 10) : IsVal (m.ctVal pl) ∧ (m.ctVal pl).length ≤ 60 := by
  unfold Ml.ctVal
  by_cases hk1 : m.kind = 1
  · rw [if_pos hk1]
    have h2l := h2.2
    have hlen : (mpW ++ m.sub ++ bdW ++ 98 :: pl).length = 22 + m.sub.length + pl.length := by simp [mpW, bdW]; omega
    have key : ∀ c ∈ mpW ++ m.sub ++ bdW ++ 98 :: pl, c ≠ 13 ∧ c ≠ 10 := by
      intro c hc
      simp only [List.mem_append, List.mem_cons] at hc
      rcases hc with ((hc | hc) | hc) | hc | hc
      · have : ∀ c ∈ mpW, c ≠ 13 ∧ c ≠ 10 := by decide
        exact this c hc
      · exact ⟨(ld_ne (h2.1 c hc)).1, (ld_ne (h2.1 c hc)).2.1⟩
      · have : ∀ c ∈ bdW, c ≠ 13 ∧ c ≠ 10 := by decide
        exact this c hc
      · subst hc; decide
      · exact ⟨(low_ne (hpl c hc)).1, (low_ne (hpl c hc)).2.1⟩
    obtain ⟨x, y, e, hy⟩ := exists_last (l := 98 :: pl) (by simp)
    have hyl : isLow y = true := by
      rcases List.mem_cons.1 hy with rfl | hy
      · decide
      · exact hpl y hy
    refine ⟨⟨by simp, ?_, ?_, fun h => (key 13 h).1 rfl, fun h => (key 10 h).2 rfl, by omega⟩, by omega⟩
    · intro d hd
      have : d = 109 := by simpa [mpW] using hd.symm
      subst this; decide
    · intro d hd
      have := last_of (x := mpW ++ m.sub ++ bdW ++ x) (y := y) (by rw [e]; simp) hd
      subst this
      exact (low_ne hyl).2.2.2
  · rw [if_neg hk1]
    obtain ⟨t1, t2⟩ := hk.resolve_left hk1
    have h1l := h1.2
    have h2l := h2.2
    have key : ∀ c ∈ m.ty ++ 47 :: m.sub, c ≠ 13 ∧ c ≠ 10 := by
      intro c hc
      simp only [List.mem_append, List.mem_cons] at hc
      rcases hc with hc | hc | hc
      · exact ⟨(ld_ne (h1.1 c hc)).1, (ld_ne (h1.1 c hc)).2.1⟩
      · subst hc; decide
      · exact ⟨(ld_ne (h2.1 c hc)).1, (ld_ne (h2.1 c hc)).2.1⟩
    obtain ⟨x, y, e, hy⟩ := exists_last t2
    refine ⟨⟨by simp, ?_, ?_, fun h => (key 13 h).1 rfl, fun h => (key 10 h).2 rfl, by simp; omega⟩, by simp; omega⟩
    · intro d hd
      rw [List.getElem?_append_left (List.length_pos_iff.2 t1)] at hd
      exact (ld_ne (h1.1 d (List.mem_of_getElem? hd))).2.2
    · intro d hd
      have := last_of (x := m.ty ++ 47 :: x) (y := y) (by conv => lhs; rw [e]
                                                          simp) hd
      subst this
      exact (ld_ne (h2.1 _ hy)).2.2
theorem fd_of {n v : List UInt8} (hn : n = ctN ∨ n = ciN ∨ n = cdN ∨ n = ceN) (hv : IsVal v) (hl : v.length ≤ 60) : FdOk ⟨n, v⟩ := by
  have key : ∀ n ∈ [ctN, ciN, cdN, ceN], n ≠ [] ∧ (∀ c ∈ n, isNm c = true) ∧ canonF true n = n ∧ n.length ≤ 100 ∧ n[0]? ≠ some 45 := by decide +kernel
  obtain ⟨h1, h2, h3, h4, h5⟩ := key n (by rcases hn with rfl | rfl | rfl | rfl <;> simp)
  exact ⟨⟨h1, h2, h3, h4, hv⟩, h5, h4, by dsimp only; omega⟩
theorem fldOf_ok {n v : List UInt8} (hn : n = ctN ∨ n = ciN ∨ n = cdN ∨ n = ceN) (hv : SayOk v) : ∀ f ∈ fldOf n v, FdOk f := by
  intro f hf
  unfold fldOf at hf
  split at hf
  · cases hf
  · rename_i h
    obtain rfl := List.mem_singleton.1 hf
    exact fd_of hn (hv.resolve_left h).1 (hv.resolve_left h).2
theorem fldOf_len (n v : List UInt8) : (fldOf n v).length ≤ 1 := by unfold fldOf; split <;> simp
theorem flds_ok {m : Ml} {d : Nat} {pl : List UInt8} (h : m.Ok d) (hpl : ∀ c ∈ pl, isLow c = true) (hl : pl.length ≤ 10) : (∀ f ∈ m.flds pl, FdOk f) ∧ (m.flds pl).length ≤ 12 := by
  cases m with
  | mk head kind ty sub id ab way text kids =>
    rw [Ml.Ok] at h
    obtain ⟨h0, h1, h2, h3, h4, h5, h6, h7, h8, h9⟩ := h
    constructor
    · intro f hf
      unfold Ml.flds at hf
      simp only [List.mem_append] at hf
      rcases hf with (((hf | hf) | hf) | hf) | hf
      · exact (h1 f hf).1
      · split at hf
        · cases hf
        · rename_i hty
          obtain rfl := List.mem_singleton.1 hf
          have := ctVal_ok (m := .mk head kind ty sub id ab way text kids) (pl := pl) h3 h4 (by
            rcases h8 with h8 | h8 | h8
            · exact .inr ⟨hty, fun e => hty (h8.2.2.2.1.2 e)⟩
            · exact .inl h8.1
            · exact .inr ⟨h8.2.2.1, h8.2.2.2.1⟩) hpl hl
          exact fd_of (.inl rfl) this.1 this.2
      · exact fldOf_ok (.inr (.inl rfl)) h5 f hf
      · exact fldOf_ok (.inr (.inr (.inl rfl))) h6 f hf
      · exact fldOf_ok (.inr (.inr (.inr rfl))) h7 f hf
    · unfold Ml.flds
      simp only [List.length_append]
      have e1 := fldOf_len ciN id
      have e2 := fldOf_len cdN ab
      have e3 := fldOf_len ceN way
      have e4 : (if (Ml.mk head kind ty sub id ab way text kids).ty = [] then [] else [(⟨ctN, (Ml.mk head kind ty sub id ab way text kids).ctVal pl⟩ : HF)]).length ≤ 1 := by split <;> simp
      simp only [Ml.head, Ml.id, Ml.ab, Ml.way] at *
      omega
theorem flds_ct {m : Ml} {d : Nat} {pl : List UInt8} (h : m.Ok d) : (m.flds pl).filter (fun f => decide (f.name = ctN)) = if m.ty = [] then [] else [⟨ctN, m.ctVal pl⟩] := by
  cases m with
  | mk head kind ty sub id ab way text kids =>
    rw [Ml.Ok] at h
    have h1 := h.2.1
    have e0 : head.filter (fun f => decide (f.name = ctN)) = [] := List.filter_eq_nil_iff.2 fun f hf => by simpa using (h1 f hf).2
    have e1 : ∀ n v : List UInt8, n ≠ ctN → (fldOf n v).filter (fun f => decide (f.name = ctN)) = [] := fun n v hn => by
      unfold fldOf
      split
      · rfl
      · simp [hn]
    unfold Ml.flds
    simp only [List.filter_append, Ml.head, Ml.ty, Ml.id, Ml.ab, Ml.way, e0, e1 ciN id (by decide), e1 cdN ab (by decide), e1 ceN way (by decide), List.nil_append, List.append_nil]
    by_cases hty : ty = [] <;> simp [hty]
theorem hraw_len {fs : List HF} (h : ∀ f ∈ fs, FdOk f) : (hraw fs).length ≤ 204 * fs.length := by
  induction fs with
  | nil => simp [hraw]
  | cons f fs ih =>
    have := ih fun f hf => h f (List.mem_cons_of_mem _ hf)
    have hf := h f (List.mem_cons_self ..)
    have h1 := hf.n20
    have h2 := hf.v60
    have e : hraw (f :: fs) = f.raw ++ hraw fs := by simp [hraw]
    rw [e, List.length_append, List.length_cons]
    have : f.raw.length ≤ 204 := by simp [HF.raw, HF.line]; omega
    omega
theorem hraw_lns {q : List UInt8} {fs : List HF} (h : ∀ f ∈ fs, FdOk f) : Lns (Dl q) (hraw fs) := by
  induction fs with
  | nil => exact Lns.nil
  | cons f fs ih =>
    have hf := h f (List.mem_cons_self ..)
    have e : hraw (f :: fs) = f.line ++ [13, 10] ++ hraw fs := by simp [hraw, HF.raw]
    rw [e]
    refine (Lns.one ?_ ?_).app (ih fun f hf => h f (List.mem_cons_of_mem _ hf))
    · intro hm
      simp only [HF.line, List.mem_append, List.mem_cons] at hm
      rcases hm with hm | hm | hm | hm
      · exact isNm_ne (hf.ok.nm _ hm) (d := 13) (by decide) rfl
      · revert hm; decide
      · revert hm; decide
      · exact hf.ok.val.cr hm
    · intro hp
      obtain ⟨r, hr⟩ := hasPre_iff.1 hp
      exfalso
      have hne := hf.ok.ne
      have hy := hf.hy
      cases hn : f.name with
      | nil => exact hne hn
      | cons x l =>
        rw [HF.line, hn] at hr
        rw [hn] at hy
        simp at hr hy
        exact hy hr.1
theorem Dl.nil {q : List UInt8} : Dl q [] := fun h => by exfalso; revert h; decide
theorem Dl.of_no {q l : List UInt8} (h : hasPre l [45, 45] = false) : Dl q l := fun h' => by rw [h] at h'; cases h'
/-- a place below another -/
def Below (q pl : List UInt8) : Prop := ∃ c r, pl = q ++ c :: r ∧ isLow c = true
theorem Below.dl {q pl t : List UInt8} (h : Below q pl) : Dl q (dash pl ++ t) := by
  obtain ⟨c, r, rfl, hc⟩ := h
  exact fun _ => ⟨c, r ++ t, by simp [dash], (low_ne hc).2.2.1⟩
theorem undr_one (i : Nat) : ∃ c, isLow c = true ∧ ∀ q, undr q i = q ++ [c] := by
  have key : ∀ k : Fin 26, isLow (97 + UInt8.ofNat k.val) = true := by decide
  exact ⟨_, key ⟨i % 26, Nat.mod_lt _ (by decide)⟩, fun q => rfl⟩
theorem Below.undr {q pl : List UInt8} (h : Below q pl) (i : Nat) : Below q (undr pl i) := by
  obtain ⟨c, r, rfl, hc⟩ := h
  obtain ⟨d, _, e⟩ := undr_one i
  exact ⟨c, r ++ [d], by rw [e]; simp, hc⟩
theorem below_undr (q : List UInt8) (i : Nat) : Below q (undr q i) := by
  obtain ⟨d, h, e⟩ := undr_one i
  exact ⟨d, [], e q, h⟩
theorem dash13 {pl : List UInt8} (h : ∀ c ∈ pl, isLow c = true) {x : UInt8} (hx : x = 13 ∨ x = 10) : x ∉ dash pl := by
  intro hm
  simp only [dash, List.mem_cons] at hm
  rcases hm with hm | hm | hm | hm
  · rcases hx with rfl | rfl <;> revert hm <;> decide
  · rcases hx with rfl | rfl <;> revert hm <;> decide
  · rcases hx with rfl | rfl <;> revert hm <;> decide
  · have := low_ne (h _ hm)
    rcases hx with rfl | rfl
    · exact this.1 rfl
    · exact this.2.1 rfl
theorem undr_len (pl : List UInt8) (i : Nat) : (undr pl i).length = pl.length + 1 := by simp [undr]
mutual
theorem cont_lns : ∀ (m : Ml) (d : Nat) (q pl : List UInt8), m.Ok d → Below q pl → (∀ c ∈ pl, isLow c = true) → pl.length + d ≤ 10 → Lns (Dl q) (m.cont pl)
  | .mk head kind ty sub id ab way text kids, d, q, pl, h, hb, hpl, hl => by
    rw [Ml.Ok] at h
    rw [Ml.cont]
    obtain ⟨h0, _, _, _, _, _, _, _, h8, h9⟩ := h
    rcases h8 with h8 | h8 | h8
    · rw [if_pos h8.1]
      exact h8.2.2.1.1.mono fun l hl => Dl.of_no hl
    · rw [if_neg (by rw [h8.1]; decide), if_neg (by rw [h8.1]; decide)]
      exact parts_lns kids (d - 1) q pl 0 h9 hb hpl (by omega)
    · rw [if_neg (by rw [h8.1]; decide), if_pos h8.1]
      exact fst_lns kids (d - 1) q pl h9 hb hpl (by omega)
theorem fst_lns : ∀ (ms : List Ml) (d : Nat) (q pl : List UInt8), Mls.Ok ms d → Below q pl → (∀ c ∈ pl, isLow c = true) → pl.length + d ≤ 9 → Lns (Dl q) (Mls.fst ms pl)
  | [], d, q, pl, h, hb, hpl, hl => by rw [Mls.fst]; exact Lns.nil
  | m :: ms, d, q, pl, h, hb, hpl, hl => by
    rw [Mls.fst]
    rw [Mls.Ok] at h
    have hlow := undr_low hpl 0
    have hlen := undr_len pl 0
    exact (hraw_lns (flds_ok h.1 hlow (by omega)).1).app (Lns.empty Dl.nil (cont_lns m d q _ h.1 (hb.undr 0) hlow (by omega)))
theorem parts_lns : ∀ (ms : List Ml) (d : Nat) (q pl : List UInt8) (i : Nat), Mls.Ok ms d → Below q pl → (∀ c ∈ pl, isLow c = true) → pl.length + d ≤ 9 → Lns (Dl q) (Mls.parts ms pl i)
  | [], d, q, pl, i, h, hb, hpl, hl => by
    rw [Mls.parts]
    have := Lns.one (P := Dl q) (l := dash pl ++ [45, 45]) (by
      intro hm
      rcases List.mem_append.1 hm with hm | hm
      · exact dash13 hpl (.inl rfl) hm
      · revert hm; decide) hb.dl
    simpa using this
  | m :: ms, d, q, pl, i, h, hb, hpl, hl => by
    rw [Mls.parts]
    rw [Mls.Ok] at h
    have hlow := undr_low hpl i
    have hlen := undr_len pl i
    have h1 := cont_lns m d q _ h.1 (hb.undr i) hlow (by omega)
    have h2 := parts_lns ms d q pl (i + 1) h.2 hb hpl hl
    exact Lns.line (dash13 hpl (.inl rfl)) (by simpa using hb.dl (t := [])) ((hraw_lns (flds_ok h.1 hlow (by omega)).1).app (Lns.empty Dl.nil (h1.app (Lns.empty Dl.nil h2))))
end
mutual
theorem cont_len : ∀ (m : Ml) (d : Nat) (pl : List UInt8), m.Ok d → (∀ c ∈ pl, isLow c = true) → pl.length + d ≤ 10 → (m.cont pl).length + 3000 ≤ 4000 * m.num
  | .mk head kind ty sub id ab way text kids, d, pl, h, hpl, hl => by
    rw [Ml.Ok] at h
    rw [Ml.cont, Ml.num]
    obtain ⟨h0, _, _, _, _, _, _, _, h8, h9⟩ := h
    rcases h8 with h8 | h8 | h8
    · rw [if_pos h8.1]
      have := h8.2.2.1.2
      omega
    · rw [if_neg (by rw [h8.1]; decide), if_neg (by rw [h8.1]; decide)]
      have := parts_len kids (d - 1) pl 0 h9 hpl (by omega)
      omega
    · rw [if_neg (by rw [h8.1]; decide), if_pos h8.1]
      have := fst_len kids (d - 1) pl h9 hpl (by omega)
      omega
theorem fst_len : ∀ (ms : List Ml) (d : Nat) (pl : List UInt8), Mls.Ok ms d → (∀ c ∈ pl, isLow c = true) → pl.length + d ≤ 9 → (Mls.fst ms pl).length ≤ 4000 * Mls.num ms
  | [], d, pl, h, hpl, hl => by rw [Mls.fst]; exact Nat.zero_le _
  | m :: ms, d, pl, h, hpl, hl => by
    rw [Mls.fst, Mls.num]
    rw [Mls.Ok] at h
    have hlow := undr_low hpl 0
    have hlen := undr_len pl 0
    have h1 := cont_len m d _ h.1 hlow (by omega)
    have h2 := flds_ok h.1 hlow (by omega)
    have h3 := hraw_len h2.1
    simp only [List.length_append, List.length_cons]
    omega
theorem parts_len : ∀ (ms : List Ml) (d : Nat) (pl : List UInt8) (i : Nat), Mls.Ok ms d → (∀ c ∈ pl, isLow c = true) → pl.length + d ≤ 9 → (Mls.parts ms pl i).length ≤ 100 + 4000 * Mls.num ms
  | [], d, pl, i, h, hpl, hl => by
    rw [Mls.parts]
    simp [dash]; omega
  | m :: ms, d, pl, i, h, hpl, hl => by
    rw [Mls.parts, Mls.num]
    rw [Mls.Ok] at h
    have hlow := undr_low hpl i
    have hlen := undr_len pl i
    have h1 := cont_len m d _ h.1 hlow (by omega)
    have h2 := flds_ok h.1 hlow (by omega)
    have h3 := hraw_len h2.1
    have h4 := parts_len ms d pl (i + 1) h.2 hpl hl
    simp only [List.length_append, List.length_cons, dash] at *
    omega
end
end Go.Proofs
end
section
namespace Go.Proofs
open Go.Eng

def lowB (c : UInt8) : UInt8 := if isUp c then c + 32 else c
def small (l : List UInt8) : List UInt8 := l.map lowB
def named (names : List (List UInt8)) (n : List UInt8) : Bool := names.any fun x => small x == small n
def keepF (names : List (List UInt8)) (no : Bool) (f : HF) : Bool := names.isEmpty || (named names f.name != no)
def hdrT (fs : List HF) (names : List (List UInt8)) (no : Bool) : List UInt8 := hraw (fs.filter (keepF names no)) ++ [13, 10]
/-- the part that a path leads to -/
def pathTo : Ml → List Nat → List UInt8 → Option (Ml × List UInt8)
  | m, [], pl => some (m, pl)
  | m, n :: p, pl => if m.kind = 1 then (match m.kids[n - 1]? with | some k => pathTo k p (undr pl (n - 1)) | none => none) else none
def partAt (m : Ml) (p : List Nat) (pl : List UInt8) : Option (Ml × List UInt8) := if m.kind = 1 then pathTo m p pl else if p = [] ∨ p = [1] then some (m, pl) else none
/-- what is asked for -/
structure Sec where
  part : List UInt8
  path : List Nat
  flds : List (List UInt8)
  no : Bool
  cut : Option (Nat × Nat)
/-- "HEADER", "MIME", "TEXT" -/
def hdW : List UInt8 := [72, 69, 65, 68, 69, 82]
def miW : List UInt8 := [77, 73, 77, 69]
def txW : List UInt8 := [84, 69, 88, 84]
structure Sec.ok (x : Sec) : Prop where
  plen : x.path.length ≤ 6
  pnum : ∀ n ∈ x.path, 1 ≤ n ∧ n ≤ 99
  flen : x.flds.length ≤ 8
  fnam : ∀ l ∈ x.flds, l ≠ [] ∧ l.length ≤ 20 ∧ ∀ c ∈ l, isNm c = true
  cut : ∀ i n, x.cut = some (i, n) → i ≤ 100000 ∧ n ≤ 100000
  deep : x.path ≠ [] → (x.part = [] ∨ x.part = miW) ∧ x.flds = [] ∧ x.no = false
  top : x.path = [] → (x.part = [] ∨ x.part = txW ∨ x.part = hdW) ∧ (x.part = hdW ∨ x.flds = []) ∧ (x.no = true → x.flds ≠ [])
def cutB (c : Option (Nat × Nat)) (l : List UInt8) : List UInt8 := match c with | none => l | some (i, n) => (l.drop i).take n
def secOf (p : Ml) (pl : List UInt8) (x : Sec) : List UInt8 := if x.part = hdW ∨ x.part = miW then hdrT (p.flds pl) x.flds x.no else if x.part = [] ∧ x.path = [] then p.txt pl else p.cont pl
/-- the bytes of a section, or that there is none -/
def secB (m : Ml) (x : Sec) : Option (List UInt8) := (partAt m x.path []).map fun q => cutB x.cut (secOf q.1 q.2 x)

theorem canonB_low (up : Bool) {c : UInt8} (h : isNm c = true) : canonB up (lowB c) = canonB up c ∧ lowB (canonB up c) = lowB c ∧ ((lowB c == 45) = (c == 45)) := by
  have key : ∀ up : Bool, ∀ k : Fin 128, isNm (UInt8.ofNat k.val) = true → canonB up (lowB (UInt8.ofNat k.val)) = canonB up (UInt8.ofNat k.val) ∧ lowB (canonB up (UInt8.ofNat k.val)) = lowB (UInt8.ofNat k.val) ∧ ((lowB (UInt8.ofNat k.val) == 45) = (UInt8.ofNat k.val == 45)) := by decide +kernel
  have hlt : c.toNat < 128 := by
    rcases isNm_cases h with h | h
    · unfold isLet at h
      rw [Bool.or_eq_true] at h
      rcases h with h | h
      · rw [isLow_iff] at h; omega
      · rw [isUp_iff] at h; omega
    · subst h; decide
  have := key up ⟨c.toNat, hlt⟩
  simp only [UInt8.ofNat_toNat] at this
  exact this h
theorem canon_small : ∀ (up : Bool) (l : List UInt8), (∀ c ∈ l, isNm c = true) → canonF up (small l) = canonF up l ∧ small (canonF up l) = small l
  | up, [], _ => ⟨rfl, rfl⟩
  | up, c :: l, h => by
    obtain ⟨h1, h2, h3⟩ := canonB_low up (h c (List.mem_cons_self ..))
    obtain ⟨h4, h5⟩ := canon_small (c == 45) l fun d hd => h d (List.mem_cons_of_mem _ hd)
    constructor
    · show canonB up (lowB c) :: canonF (lowB c == 45) (small l) = canonB up c :: canonF (c == 45) l
      rw [h1, h3, h4]
    · show lowB (canonB up c) :: small (canonF (c == 45) l) = lowB c :: small l
      rw [h2, h5]
/-- a field's name is meant: the same in small letters, or as it is told -/
theorem canon_named {x n : List UInt8} (hx : ∀ c ∈ x, isNm c = true) (hn : ∀ c ∈ n, isNm c = true) (hc : canonF true n = n) : (small x == small n) = decide (canonF true x = n) := by
  obtain ⟨a1, a2⟩ := canon_small true x hx
  obtain ⟨b1, b2⟩ := canon_small true n hn
  by_cases h : canonF true x = n
  · rw [decide_eq_true h, beq_iff_eq, ← a2, h]
  · rw [decide_eq_false h, beq_eq_false_iff_ne]
    intro e
    apply h
    rw [← a1, e, b1, hc]
end Go.Proofs
end
section
namespace Go.Proofs
open Go.Eng
/-- the cells of fields -/
def hcells (fs : List HF) : List Value := fs.flatMap fun f => [.string (mkS f.name), .string (mkS f.val)]
theorem hcells_len (fs : List HF) : (hcells fs).length = fs.length * 2 := by
  induction fs with
  | nil => rfl
  | cons f fs ih => simp [hcells] at ih ⊢; omega
theorem hcells_app (a b : List HF) : hcells (a ++ b) = hcells a ++ hcells b := by simp [hcells]
theorem hcells_at {fs : List HF} {i : Nat} {f : HF} (h : fs[i]? = some f) : ((hcells fs).drop (i * 2)).take 2 = [.string (mkS f.name), .string (mkS f.val)] := by
  induction fs generalizing i with
  | nil => cases h
  | cons g fs ih =>
    cases i with
    | zero => obtain rfl := Option.some.inj h; rfl
    | succ i =>
      have := ih (i := i) h
      rw [show (i + 1) * 2 = i * 2 + 2 by omega]
      exact this
theorem Ml.Ok.lens : ∀ {m : Ml} {d : Nat}, m.Ok d → m.head.length ≤ 1000 ∧ m.ty.length ≤ 1000 ∧ m.sub.length ≤ 1000
  | .mk _ _ _ _ _ _ _ _ _, d, h => by
    unfold Ml.Ok at h
    obtain ⟨_, _, h1, h2, h3, _⟩ := h
    have h2 := h2.2; have h3 := h3.2
    simp only [Ml.head, Ml.ty, Ml.sub]
    omega
/-- `n` elements of `sz` cells in a world, behind a slice -/
def RowV (W : World) (sz : Nat) (v : Value) (n : Nat) (cs : List Value) : Prop :=
  cs.length = n * sz ∧ n ≤ 9223372036854775807 ∧ (∀ u ∈ cs, u.oneCell' = true) ∧ ∃ q cap, v = .slice q n cap ∧ (0 < n → ∃ b off, q = some ⟨b, off, none⟩ ∧ ∀ j u, cs[j]? = some u → W.cell? ⟨b, off + j, none⟩ = some u)
theorem RowV.form {W : World} {sz n : Nat} {v : Value} {cs : List Value} (h : RowV W sz v n cs) : ∃ q cap, v = .slice q n cap := let ⟨_, _, _, q, cap, e, _⟩ := h; ⟨q, cap, e⟩
theorem RowV.at {W : World} {sz n : Nat} {v : Value} {cs : List Value} (h : RowV W sz v n cs) {i : Nat} (hi : i < n) : ∃ b off cap, v = .slice (some ⟨b, off, none⟩) n cap ∧ ∀ j u, ((cs.drop (i * sz)).take sz)[j]? = some u → W.cell? ⟨b, off + i * sz + j, none⟩ = some u := by
  obtain ⟨h1, h2, h3, q, cap, e, h4⟩ := h
  obtain ⟨b, off, rfl, h5⟩ := h4 (by omega)
  refine ⟨b, off, cap, e, fun j u hj => ?_⟩
  have hlt := (List.getElem?_eq_some_iff.1 hj).1
  rw [List.length_take] at hlt
  rw [List.getElem?_take_of_lt (by omega), List.getElem?_drop] at hj
  rw [Nat.add_assoc]
  exact h5 _ _ hj
mutual
/-- the nine cells of a mail -/
def MlV (W : World) : Ml → List Value → Prop
  | .mk head kind ty sub id ab way text kids, cs => ∃ hv kv, cs = [hv, .int .i64 kind, .string (mkS ty), .string (mkS sub), .string (mkS id), .string (mkS ab), .string (mkS way), .string (mkS text), kv] ∧
      RowV W 2 hv head.length (hcells head) ∧ (∀ f ∈ head, f.name.length ≤ 9223372036854775807 ∧ f.val.length ≤ 9223372036854775807) ∧
      (ty.length ≤ 9223372036854775807 ∧ sub.length ≤ 9223372036854775807 ∧ id.length ≤ 9223372036854775807 ∧ ab.length ≤ 9223372036854775807 ∧ way.length ≤ 9223372036854775807 ∧ text.length ≤ 9223372036854775807) ∧
      ∃ ks : List (List Value), RowV W 9 kv kids.length ks.flatten ∧ MlsV W kids ks
def MlsV (W : World) : List Ml → List (List Value) → Prop
  | [], ks => ks = []
  | m :: ms, ks => ∃ c cs, ks = c :: cs ∧ MlV W m c ∧ MlsV W ms cs
end
theorem MlV.len {W : World} : ∀ {m : Ml} {cs : List Value}, MlV W m cs → cs.length = 9
  | .mk _ _ _ _ _ _ _ _ _, _, h => by
    unfold MlV at h
    obtain ⟨hv, kv, e, _⟩ := h
    rw [e]; rfl
theorem MlsV.at {W : World} : ∀ {ms : List Ml} {ks : List (List Value)}, MlsV W ms ks → ∀ {i : Nat} {m : Ml}, ms[i]? = some m → ∃ c, (ks.flatten.drop (i * 9)).take 9 = c ∧ MlV W m c
  | [], _, _, _, _, h => by cases h
  | m :: ms, ks, hk, i, m', h => by
    unfold MlsV at hk
    obtain ⟨c, cs, rfl, h1, h2⟩ := hk
    cases i with
    | zero =>
      obtain rfl := Option.some.inj h
      refine ⟨c, ?_, h1⟩
      rw [Nat.zero_mul, List.drop_zero, List.flatten_cons, ← h1.len, List.take_left]
    | succ i =>
      obtain ⟨c', h3, h4⟩ := MlsV.at h2 (i := i) h
      refine ⟨c', ?_, h4⟩
      rw [← h3, show (i + 1) * 9 = c.length + i * 9 by rw [h1.len]; omega, List.flatten_cons, List.drop_length_add_append]
/-- the first field's cells, and the kids, of a mail -/
structure MlP (W : World) (m : Ml) (hv kv : Value) : Prop where
  head : RowV W 2 hv m.head.length (hcells m.head)
  hlen : ∀ f ∈ m.head, f.name.length ≤ 9223372036854775807 ∧ f.val.length ≤ 9223372036854775807
  tyl : m.ty.length ≤ 9223372036854775807
  subl : m.sub.length ≤ 9223372036854775807
  idl : m.id.length ≤ 9223372036854775807
  abl : m.ab.length ≤ 9223372036854775807
  wayl : m.way.length ≤ 9223372036854775807
  textl : m.text.length ≤ 9223372036854775807
  klen : ∃ q cap, kv = .slice q m.kids.length cap
  kbig : m.kids.length ≤ 9223372036854775807
  kid : ∀ i k, m.kids[i]? = some k → ∃ b off cap c, kv = .slice (some ⟨b, off, none⟩) m.kids.length cap ∧ MlV W k c ∧ ∀ j u, c[j]? = some u → W.cell? ⟨b, off + i * 9 + j, none⟩ = some u
def Ml.cells (m : Ml) (hv kv : Value) : List Value := [hv, .int .i64 m.kind, .string (mkS m.ty), .string (mkS m.sub), .string (mkS m.id), .string (mkS m.ab), .string (mkS m.way), .string (mkS m.text), kv]
theorem MlV.open {W : World} : ∀ {m : Ml} {cs : List Value}, MlV W m cs → ∃ hv kv, cs = m.cells hv kv ∧ MlP W m hv kv
  | .mk head kind ty sub id ab way text kids, cs, h => by
    unfold MlV at h
    obtain ⟨hv, kv, e, h1, h2, ⟨l1, l2, l3, l4, l5, l6⟩, ks, h3, h4⟩ := h
    refine ⟨hv, kv, e, h1, h2, l1, l2, l3, l4, l5, l6, h3.form, h3.2.1, fun i k hk => ?_⟩
    obtain ⟨c, h5, h6⟩ := h4.at hk
    obtain ⟨b, off, cap, e2, h7⟩ := h3.at (i := i) (List.getElem?_eq_some_iff.1 hk).1
    rw [h5] at h7
    exact ⟨b, off, cap, c, e2, h6, h7⟩
section
variable {P : Program} {W V : World} {s r : List SL}
/-- a row in the start memory, to be appended -/
theorem AppSrc.of_old {t' n sz : Nat} {v : Value} {cs : List Value} {e z0 : Nat} [ht : SliceT P t' e z0] [k : HasOld r V] (h : RowV V sz v n cs) : AppSrc P W r t' n sz v cs := by
  obtain ⟨h1, h2, h3, q, cap, rfl, h4⟩ := h
  refine ⟨.inl ⟨e, ht.und⟩, fun w => rfl, fun w hS => ?_⟩
  rcases Nat.eq_zero_or_pos n with h0 | h0
  · subst h0
    obtain rfl : cs = [] := List.length_eq_zero_iff.1 (by omega)
    simp only [Builtin.firstCells]
    cases q with
    | none => rfl
    | some a =>
      have := run_loadCells_list (P := P) w a [] (fun j v hj => by cases hj)
      simpa using this
  · obtain ⟨b, off, rfl, h5⟩ := h4 h0
    simp only [Builtin.firstCells]
    have := run_loadCells_list (P := P) w ⟨b, off, none⟩ cs (fun j v hj => by
      rw [add_addr]
      exact hS.oldcell (V := V) (h5 j v hj))
    rwa [h1] at this
end
end Go.Proofs
end
section
namespace Go.Proofs
open Go.Eng
theorem idxOf_one {d : UInt8} : ∀ {l t : List UInt8}, d ∉ l → idxOf [d] (l ++ d :: t) = some l.length
  | [], t, _ => by
    rw [List.nil_append, idxOf, if_pos (show hasPre (d :: t) [d] = true from hasPre_iff.2 ⟨t, rfl⟩)]; rfl
  | x :: l, t, h => by
    have hne : x ≠ d := fun e => h (by subst e; exact List.mem_cons_self ..)
    have hno : hasPre (x :: (l ++ d :: t)) [d] = false := by
      cases hh : hasPre (x :: (l ++ d :: t)) [d] with
      | false => rfl
      | true =>
        obtain ⟨q, hq⟩ := hasPre_iff.1 hh
        simp at hq
        exact absurd hq.1 hne
    rw [List.cons_append, idxOf, hno, idxOf_one fun hm => h (List.mem_cons_of_mem _ hm)]
    rfl
theorem ld_no {l : List UInt8} {d : UInt8} (h : ∀ c ∈ l, isLD c = true) (hd : isLD d = false) : d ∉ l := fun hm => by rw [h d hm] at hd; cases hd
section
variable {W w : World} {s : List SL}
/-- message.checkMediaTypeDisposition -/
theorem c97 {l q : List UInt8} (hS : St W s w) (hl : ∀ c ∈ l, isLD c = true) (hq : ∀ c ∈ q, isLD c = true) (hl0 : l ≠ []) (hq0 : q ≠ []) (h1 : l.length ≤ 1000) (h2 : q.length ≤ 1000) :
    Calls Tryz.prog 97 #[.string (mkS (l ++ 47 :: q))] w fun e w' => e = .returned .nilIface ∧ St W s w' := by
  have e1 : (l == []) = false := by cases l with | nil => exact absurd rfl hl0 | cons _ _ => rfl
  have e2 : (q == []) = false := by cases q with | nil => exact absurd rfl hq0 | cons _ _ => rfl
  have e3 : hasPre (47 :: q) [47] = true := hasPre_iff.2 ⟨q, rfl⟩; refine fn_calls (args := [.string (mkS (l ++ 47 :: q))]) Tryz.func97 rfl rfl rfl ?_; refine Xs (Xg (XX 1 hS rfl (Xn (Xs (Xg (XX 1 hS rfl ?_)))))); refine XC hS (gCall rfl) rfl (c125' (l := l) (q := 47 :: q) hS rfl hl (.inr (.inl ⟨_, rfl⟩)) (by omega)) ?_; clear hS; intro e w hR; (try dsimp only [oint] at hR); obtain ⟨rfl, hS⟩ := hR; refine ⟨_, rfl, ?_⟩; refine XX 1 hS rfl (XR hS (rExtract rfl rfl) rfl (XR hS (rExtract rfl rfl) rfl (XX 2 hS rfl (Xn (Xs (Xs (Xg (XX 1 hS rfl (XR hS (rStrEq (k := []) rfl rfl (b := false) e1) rfl (Xn (Xf rfl (Xk (Xs (Xs ?_)))))))))))))); refine Xg (XX 1 hS rfl (XR hS (rStrEq (k := []) rfl rfl (b := false) rfl) rfl (Xn (Xf rfl (Xk (Xs (Xs (Xg (XX 1 hS rfl ?_))))))))); refine XC hS (gCall rfl) rfl (c67 hS) ?_; clear hS; intro e w hR; (try dsimp only [oint] at hR); obtain ⟨rfl, hS⟩ := hR
  refine ⟨_, rfl, ?_⟩; intro a hE; rw [e3] at hE; revert a; refine XX 1 hS rfl (Xn (Xf rfl (Xk (Xs (Xg (XX 1 hS rfl (XR hS (rSlcS1 (i := 1) rfl rfl (by exact Nat.succ_le_succ (Nat.zero_le _))) rfl ?_))))))); refine XC hS (gCall rfl) rfl (c125' (l := q) (q := []) hS (by simp) hq (.inl rfl) (by omega)) ?_; clear hS; intro e w hR; (try dsimp only [oint] at hR); obtain ⟨rfl, hS⟩ := hR; refine ⟨_, rfl, ?_⟩; refine XX 1 hS rfl (XR hS (rExtract rfl rfl) rfl (XR hS (rExtract rfl rfl) rfl (XX 2 hS rfl (Xn (Xs (Xs (Xg (XX 1 hS rfl (XR hS (rStrEq (k := []) rfl rfl (b := false) e2) rfl (Xn (Xf rfl (Xk (Xs (Xs ?_)))))))))))))); refine Xg (XX 1 hS rfl (XR hS (rStrNe (k := []) rfl rfl (b := true) rfl) rfl (Xn (Xf rfl (Xk (Xs (Xg (XX 1 hS rfl (Xn (Xr ?_)))))))))); exact X1 rfl rfl ⟨rfl, hS⟩
theorem c95' {l p : List UInt8} {i : Nat} {x y : List UInt8} (hS : St W s w) (hp : 0 < p.length) (hmy : l.length + p.length ≤ 4294967296) (hr : idxOf p l = some i) (hx : l.take i = x) (hy : l.drop (i + p.length) = y) :
    Calls Tryz.prog 95 #[.string (mkS l), .string (mkS p)] w fun e w' => e = .returned (.tuple #[.string (mkS x), .string (mkS y), .bool true]) ∧ St W s w' := by subst hx hy; exact c95 hS hp hmy hr
/-- message.ParseMediaType -/
theorem c69 {sub pl : List UInt8} (g : Gl W) (hS : St W s w) [ho : HasOld s W] (hl : ∀ c ∈ sub, isLD c = true) (hq : ∀ c ∈ pl, isLD c = true) (hl0 : sub ≠ []) (h1 : sub.length ≤ 100) (h2 : pl.length ≤ 100) :
    Calls Tryz.prog 69 #[.string (mkS (mpW ++ sub ++ bdW ++ 98 :: pl))] w fun e w' => ∃ b, e = .returned (.tuple #[.string (mkS (mpW ++ sub)), .map (some b), .nilIface]) ∧ St W (mp b [(bword, .string (mkS (98 :: pl)))] :: s) w' := by
  have hmp : mpW ++ sub = mpT ++ 47 :: sub := rfl; have hmpl : (mpW ++ sub).length = 10 + sub.length := by simp [mpW]; omega
  have hsub0 := List.length_pos_iff.2 hl0; have h59 : (59 : UInt8) ∉ mpW ++ sub := by
    intro hm; rcases List.mem_append.1 hm with hm | hm
    · revert hm; decide
    · exact ld_no hl (by decide) hm
  have hsplit : mpW ++ sub ++ bdW ++ 98 :: pl = (mpW ++ sub) ++ 59 :: 32 :: (bword ++ 61 :: 98 :: pl) := by simp [bdW, bword]
  have hlow : ∀ c ∈ mpW ++ sub, c.toNat < 128 ∧ isUp c = false := by
    intro c hc; rcases List.mem_append.1 hc with hc | hc
    · have : ∀ c ∈ mpW, c.toNat < 128 ∧ isUp c = false := by decide
      exact this c hc
    · have := isLD_n (hl c hc); refine ⟨by omega, ?_⟩; cases hu : isUp c with
      | false => rfl
      | true => rw [isUp_iff] at hu; omega
  obtain ⟨x, y, hxy, hyl⟩ := exists_last hl0; have hy1 := isLD_n (hl y hyl); have hlast : (mpW ++ sub)[(mpW ++ sub).length - 1]? = some y := by
    rw [hxy]; simp
  have hq98 : ∀ d ∈ (98 : UInt8) :: pl, isLD d = true := by
    intro d hd; rcases List.mem_cons.1 hd with rfl | hd
    · decide
    · exact hq d hd
  rw [hsplit]; refine fn_calls (args := [.string (mkS ((mpW ++ sub) ++ 59 :: 32 :: (bword ++ 61 :: 98 :: pl)))]) Tryz.func69 rfl rfl rfl ?_; refine Xs (Xg (XX 3 hS rfl (Xn (Xs (Xg (XX 1 hS rfl ?_)))))); refine XC hS (gCall rfl) rfl (c95' hS (by decide) (by simp only [List.length_append, List.length_cons, hmpl]; simp [bword]; omega) (idxOf_one h59) (List.take_left ..) (show _ = 32 :: (bword ++ 61 :: 98 :: pl) by rw [List.drop_append]; simp)) ?_; clear hS; intro e w hR; (try dsimp only [oint] at hR); obtain ⟨rfl, hS⟩ := hR; refine ⟨_, rfl, ?_⟩; refine XX 1 hS rfl (XR hS (rExtract rfl rfl) rfl (XR hS (rExtract rfl rfl) rfl (XR hS (rExtract rfl rfl) rfl (XX 3 hS rfl (Xn (Xs (Xg (XX 1 hS rfl ?_)))))))); refine XC hS (gCall rfl) rfl (c68 hS hlow (by omega)) ?_; clear hS; intro e w hR; (try dsimp only [oint] at hR); obtain ⟨rfl, hS⟩ := hR; refine ⟨_, rfl, ?_⟩
  refine XC hS (gCall rfl) rfl (c96 (c := 109) (d := y) (l := mpW ++ sub) g hS rfl hlast (by decide) (by omega) (by omega)) ?_; clear hS; intro e w hR; (try dsimp only [oint] at hR); obtain ⟨rfl, hS⟩ := hR; refine ⟨_, rfl, ?_⟩; refine XX 1 hS rfl (Xn (Xs (Xg (XX 1 hS rfl ?_)))); refine XC hS (gCall rfl) rfl (c97 (l := mpT) (q := sub) hS (by decide) hl (by decide) hl0 (by decide) (by omega)) ?_; clear hS; intro e w hR; (try dsimp only [oint] at hR); obtain ⟨rfl, hS⟩ := hR; refine ⟨_, rfl, ?_⟩; refine XX 1 hS rfl (Xn (Xs (Xs (Xg (XX 1 hS rfl (XR hS (rNilNilN rfl) rfl (Xn (Xf rfl (Xk (Xs (Xg ?_))))))))))); refine XD hS (dMap) rfl ?_; clear hS; intro vr w hR; obtain ⟨b52, rfl, hS⟩ := hR; refine XX 1 hS rfl (Xn (Xs ?_)); replace hS := hS.new_mp; refine Xg ?_; refine XD hS (dMap) rfl ?_; clear hS; intro vr w hR; obtain ⟨b53, rfl, hS⟩ := hR; refine XX 1 hS rfl (Xn (Xs ?_))
  replace hS := hS.new_mp; refine Xg (XX 2 hS rfl (XR hS (rLenS (ty0 := 0) rfl) rfl (XR hS (rSlcS1 (i := (mpW ++ sub).length) rfl rfl (by simp)) rfl ?_))); refine XX 1 hS rfl (Xn (Xs (Xb ?_))); intro a hE; rw [List.drop_left] at hE; refine cw_loop (fun (i : Bool) a w => Env Tryz.f69.ntmps (envL [(0, .string (mkS (bif i then [] else 59 :: 32 :: (bword ++ 61 :: 98 :: pl)))), (2, .string (mkS (mpW ++ sub))), (3, .map (some b52)), (4, .nilIface), (8, .map (some b53))]) a ∧ St W (mp b53 [] :: mp b52 (bif i then [(bword, .string (mkS (98 :: pl)))] else []) :: s) w) (fun i => bif i then 0 else 1) false ⟨hE.cut ⟨rfl, rfl, rfl, rfl, rfl, trivial⟩, hS⟩ ?_; clear hS hE a; rintro (_ | _) a w ⟨hE, hS⟩
  · dsimp only [cond_false] at hE hS; revert a; refine Xs (Xs (Xg (XX 1 hS rfl (XR hS (rLenS (ty0 := 0) rfl) rfl (XR hS (rGtN (n := 0) rfl rfl (b := true) (decide_eq_true (by simp))) rfl ?_))))); refine Xn (Xt rfl (Xk (Xb (Xs (Xg (XX 1 hS rfl ?_)))))); refine XC hS (gCall rfl) rfl (c98 (i := 0) (d := 59) hS (by omega) (fun h => nomatch h) rfl (by decide) (by simp [bword]; omega)) ?_; clear hS; intro e w hR; (try dsimp only [oint] at hR); obtain ⟨rfl, hS⟩ := hR; refine ⟨_, rfl, ?_⟩; refine XX 1 hS rfl (Xn (Xs (Xs (Xg (XX 1 hS rfl (XR hS (rLenS (ty0 := 0) rfl) rfl (XR hS (rEqN (n := 0) rfl rfl (b := false) (decide_eq_false (by simp))) rfl ?_))))))); refine Xn (Xf rfl (Xk (Xs (Xg (XX 1 hS rfl ?_))))); refine XC hS (gCall rfl) rfl (c99 (c := 98) (l := pl) hS hq98 (by omega)) ?_; clear hS; intro e w hR; (try dsimp only [oint] at hR); obtain ⟨rfl, hS⟩ := hR; refine ⟨_, rfl, ?_⟩
    refine XX 1 hS rfl (XR hS (rExtract rfl rfl) rfl (XR hS (rExtract rfl rfl) rfl (XR hS (rExtract rfl rfl) rfl (XX 3 hS rfl (Xn (Xs (Xs (Xg (XX 1 hS rfl (XR hS (rStrEq (k := []) rfl rfl (b := false) rfl) rfl (Xn (Xf rfl (Xk (Xs ?_)))))))))))))); refine Xg (XX 2 hS rfl (Xn (Xs (Xs (Xg (XX 1 hS rfl ?_)))))); refine XC hS (gCall rfl) rfl (c95n hS (by decide) (by decide) (show idxOf [42] bword = none by decide)) ?_; clear hS; intro e w hR; (try dsimp only [oint] at hR); obtain ⟨rfl, hS⟩ := hR; refine ⟨_, rfl, ?_⟩; refine XX 1 hS rfl (XR hS (rExtract rfl rfl) rfl (XR hS (rExtract rfl rfl) rfl (XR hS (rExtract rfl rfl) rfl (XX 3 hS rfl (Xn (Xs (Xg (XX 1 hS rfl (Xn (Xf rfl (Xk (Xs (Xs (Xg ?_))))))))))))))
    refine XX 2 hS rfl (XR hS (rLookOk rfl rfl (.tail .head) rfl rfl) rfl (XX 1 hS rfl (XR hS (rExtract rfl rfl) rfl (XR hS (rExtract rfl rfl) rfl (XX 2 hS rfl (Xn (Xs (Xg (XX 6 hS rfl (Xn (Xf rfl (Xk (Xs (Xg ?_)))))))))))))); refine XX 3 hS rfl ?_; refine XN hS (dMapSet rfl rfl rfl (.tail .head)) ?_; clear hS; intro _ w hS; refine Xn (Xg (XX 2 hS rfl (Xn ?_))); intro a hE; exact ⟨true, Nat.zero_lt_one, hE.cut ⟨rfl, rfl, rfl, rfl, rfl, trivial⟩, St.swap (show St W (mp b52 [(bword, .string (mkS (98 :: pl)))] :: mp b53 [] :: s) w from hS)⟩
  · dsimp only [cond_true] at hE hS; revert a; refine Xs (Xs (Xg (XX 1 hS rfl (XR hS (rLenS (ty0 := 0) rfl) rfl (XR hS (rGtN (n := 0) rfl rfl (b := false) rfl) rfl (Xn (Xf rfl (Xe rfl (Xs (Xs (Xg (XX 1 hS rfl ?_)))))))))))); refine XD hS (dRangeM rfl .head) rfl ?_; clear hS; intro vr w hR; obtain ⟨bi, ci, rfl, hS⟩ := hR; refine Xn (Xb ?_); intro a hE; refine cw_loop (fun (i : Unit) a w => Env Tryz.f69.ntmps (envL [(2, .string (mkS (mpW ++ sub))), (3, .map (some b52)), (4, .nilIface), (117, ptr bi 0)]) a ∧ St W (pt bi (.mapIter (some b53) ci #[] ci) :: mp b53 [] :: mp b52 [(bword, .string (mkS (98 :: pl)))] :: s) w) (fun i => 0) () ⟨hE.cut ⟨rfl, rfl, rfl, rfl, trivial⟩, hS⟩ ?_; clear hS hE a; rintro ⟨⟩ a w ⟨hE, hS⟩; revert a; refine Xs (Xg ?_); refine XD hS (dNextM0 rfl .head (.tail .head)) rfl ?_; clear hS; intro vr w hR; obtain ⟨rfl, hS⟩ := hR
    refine XR hS (rExtract rfl rfl) rfl (Xn (Xs (Xf rfl (Xe rfl (Xr ?_))))); exact X3 rfl rfl rfl rfl ⟨b52, rfl, hS.tail.tail⟩
end
end Go.Proofs
end
section
namespace Go.Proofs
open Go.Eng
section
variable {W w : World} {g : Gl W} {L : List SL}
/-- (*Header).Get, of a header with a map but without such a field -/
theorem c66e {hb mb : Nat} {v : Value} {k : List UInt8} {es : List ME} {Fs : List Fld} (hS : St W (cel hb [v, .map (some mb)] 80 (0, 0) :: mp mb (meE es) :: bs meSL es :: bs fld Fs :: L) w) (hk : ∀ c ∈ k, isNm c = true) (hmy : k.length ≤ 1000) (hok : MapOk es Fs)
    (hcan : canonF true k = k) (hF : Fs.filter (fun F => decide (F.key = k)) = []) :
    Calls Tryz.prog 66 #[ptr hb 0, .string (mkS k)] w fun e w' => e = .returned (.string (mkS [])) ∧ St W (cel hb [v, .map (some mb)] 80 (0, 0) :: bs fld Fs :: L) w' := by
  obtain ⟨e1, e2, v0, ps0, m1, m2, m3, m4, m5⟩ := me_step es k; have hps : ps0 = [] := by rw [← m4, hok k, hF]; rfl
  subst hps; obtain ⟨q, n, hv0⟩ : ∃ q n, v0 = .slice q 0 n := by
    rcases (m5 (hS.tk1 (bs meSL es))).own_cases.2 with ⟨h1, _⟩ | ⟨b, cap, _, h1, _⟩
    · exact ⟨_, _, h1⟩
    · exact ⟨_, _, h1⟩
  subst hv0; refine fn_calls (args := [ptr hb 0, .string (mkS k)]) Tryz.func66 rfl rfl rfl ?_; refine Xs (Xg (XX 1 hS rfl (Xn (Xs ?_)))); refine Xd [.s, .s, .s, .s, .s, .h, .r, .s] mixed (by kernel_rfl) hS ?_; clear hS; intro w hS; refine XS (rMove rfl) rfl (XS (rNil rfl) rfl (XS (rField rfl) rfl (XS (rLoad rfl (by exact rfl)) rfl ?_))); refine XS (rMove rfl) rfl ?_; refine XJ hS (gCall rfl) rfl (c46 hS hk (by omega)) ?_; clear hS; intro e w hR; (try dsimp only [bfp, BS.cells, oint, List.length_nil, List.length_cons, List.nil_append] at hR); obtain ⟨rfl, hS⟩ := hR; refine ⟨_, rfl, hS.sub, ?_⟩; intro a hE; rw [hcan] at hE; revert a; refine XT hS (rLook rfl rfl (.tail .head) m1) rfl (XS (rAssign rfl) rfl (Xn (Xs (Xs (Xg (XX 1 hS rfl (XR hS (rLen rfl) rfl (XR hS (rCmp rfl rfl (cmp_eqlT (by omega))) rfl ?_)))))))); refine Xn (Xt rfl (Xs (Xg (XX 1 hS rfl (Xn (Xr ?_))))))
  exact X1 rfl rfl ⟨rfl, hS.arr⟩
/-- .. of any header -/
theorem cGet {hb : Nat} {v mv : Value} {k ct : List UInt8} {Fs : List Fld} (hS : St W (cel hb [v, mv] 80 (0, 0) :: hmSL Fs mv :: bs fld Fs :: L) w) (hk : ∀ c ∈ k, isNm c = true) (hmy : k.length ≤ 1000)
    (hcan : canonF true k = k) (hF : (Fs.filter (fun F => decide (F.key = k)) = [] ∧ ct = []) ∨ ∃ F, Fs.filter (fun F => decide (F.key = k)) = [F] ∧ F.val = ct) (hlen : Fs.length ≤ 1000) :
    Calls Tryz.prog 66 #[ptr hb 0, .string (mkS k)] w fun e w' => e = .returned (.string (mkS ct)) ∧ St W (cel hb [v, mv] 80 (0, 0) :: bs fld Fs :: L) w' := by
  rcases St.hm_cases hS.swap with ⟨rfl, rfl, hS1⟩ | ⟨mb, es, rfl, hok, hS1⟩
  · rcases hF with ⟨_, rfl⟩ | ⟨F, h, _⟩
    · exact c66n hS1 hk hmy
    · cases h
  · have hS2 := hS1.tk4 (cel hb [v, .map (some mb)] 80 (0, 0)) (mp mb (meE es)) (bs meSL es) (bs fld Fs); rcases hF with ⟨hF, rfl⟩ | ⟨F, hF, rfl⟩
    · exact c66e hS2 hk hmy hok hcan hF
    · exact c66 (fl := []) hS2 hk hmy hok hcan hF hlen
/-- what a header is in memory -/
abbrev hdrL (v mv : Value) (Fs : List Fld) (L : List SL) : List SL := own 141 1 v Fs.length (ptrs Fs.reverse) :: hmSL Fs.reverse mv :: bs fld Fs.reverse :: L
/-- what the fields say of a type, or nothing -/
def CtIs (fs : List HF) (ct : List UInt8) : Prop := (fs.filter (fun f => decide (f.name = ctN)) = [] ∧ ct = []) ∨ fs.filter (fun f => decide (f.name = ctN)) = [⟨ctN, ct⟩]
theorem ct_flds {Fs : List Fld} {fs : List HF} {ct : List UInt8} (ha : FsAre Fs fs) (h : CtIs fs ct) : (Fs.reverse.filter (fun F => decide (F.key = ctN)) = [] ∧ ct = []) ∨ ∃ F, Fs.reverse.filter (fun F => decide (F.key = ctN)) = [F] ∧ F.val = ct := by
  have key : ∀ (Fs : List Fld) (fs : List HF), FsAre Fs fs → FsAre (Fs.filter (fun F => decide (F.key = ctN))) (fs.filter (fun f => decide (f.name = ctN))) := by
    intro Fs
    induction Fs with
    | nil => intro fs h; cases fs with | nil => exact h | cons _ _ => cases h
    | cons F Fs ih =>
      intro fs h
      cases fs with
      | nil => cases h
      | cons f fs =>
        unfold FsAre at h
        simp only [List.map_cons, List.cons.injEq, Prod.mk.injEq] at h
        have := ih fs h.2
        unfold FsAre at this ⊢
        rw [List.filter_cons, List.filter_cons, h.1.1]
        split
        · simp only [List.map_cons, List.cons.injEq, Prod.mk.injEq]
          exact ⟨⟨h.1.1, h.1.2⟩, this⟩
        · exact this
  have hk := key Fs fs ha; rw [List.filter_reverse]; rcases h with ⟨h, rfl⟩ | h
  · rw [h] at hk; have : Fs.filter (fun F => decide (F.key = ctN)) = [] := by
      cases hh : Fs.filter (fun F => decide (F.key = ctN)) with
      | nil => rfl
      | cons _ _ => rw [hh] at hk; cases hk
    exact .inl ⟨by rw [this]; rfl, rfl⟩
  · rw [h] at hk; generalize Fs.filter (fun F => decide (F.key = ctN)) = X at hk ⊢; unfold FsAre at hk; cases X with
    | nil => cases hk
    | cons F X =>
      cases X with
      | cons _ _ => simp at hk
      | nil =>
        simp at hk; exact .inr ⟨F, rfl, hk.2.1⟩
theorem fsAre_len {Fs : List Fld} {fs : List HF} (h : FsAre Fs fs) : Fs.length = fs.length := by simpa using congrArg List.length h
variable {S : Src W g}
/-- backendutil.multipartReader: of no several parts -/
theorem c42n {v mv : Value} {Fs : List Fld} {fs : List HF} {rest ct : List UInt8} (hS : St W (hdrL v mv Fs (S.inv rest :: old W :: L)) w) (ha : FsAre Fs fs) (hct : CtIs fs ct) (hlow : ∀ c ∈ ct, c.toNat < 128 ∧ isUp c = false) (hcl : ct.length ≤ 1000) (hno : hasPre ct mpW = false) (hlen : fs.length ≤ 1000) :
    Calls Tryz.prog 42 #[.agg #[v, mv], .iface S.T S.v] w fun e w' => e = .returned (.pointer none) ∧ St W (own 141 1 v Fs.length (ptrs Fs.reverse) :: bs fld Fs.reverse :: S.inv rest :: old W :: L) w' := by
  refine fn_calls (args := [.agg #[v, mv], .iface S.T S.v]) Tryz.func42 rfl rfl rfl ?_; refine Xs (Xg ?_); refine XD hS (dBox rfl) rfl ?_; clear hS; intro vr w hR; obtain ⟨b2, rfl, hS⟩ := hR; replace hS := (show St W (cel b2 [v, mv] 80 (0, 0) :: _) w from hS); refine XX 1 hS rfl (Xn (Xs (Xg ?_))); refine XC hS (gCall rfl) rfl (cGet (k := ctN) (ct := ct) (Fs := Fs.reverse) (hS.tk3 (cel b2 [v, mv] 80 (0, 0)) (hmSL Fs.reverse mv) (bs fld Fs.reverse)) (by decide) (by decide) (by decide) (ct_flds ha hct) (by rw [List.length_reverse, fsAre_len ha]; exact hlen)) ?_; clear hS; intro e w hR; (try dsimp only [bfp, BS.cells, oint, List.length_nil, List.length_cons, List.nil_append] at hR); obtain ⟨rfl, hS⟩ := hR; refine ⟨_, rfl, ?_⟩; refine XX 1 hS rfl (Xn (Xs (Xs (Xg (XX 1 hS rfl ?_))))); refine XC hS (gCall rfl) rfl (c68 hS hlow (by omega)) ?_; clear hS; intro e w hR
  (try dsimp only [bfp, BS.cells, oint, List.length_nil, List.length_cons, List.nil_append] at hR); obtain ⟨rfl, hS⟩ := hR; refine ⟨_, rfl, ?_⟩; refine XC hS (gCall rfl) rfl (c67 (p := mpW) hS) ?_; clear hS; intro e w hR; (try dsimp only [bfp, BS.cells, oint, List.length_nil, List.length_cons, List.nil_append] at hR); obtain ⟨rfl, hS⟩ := hR; refine ⟨_, rfl, ?_⟩; intro a hE; rw [hno] at hE; revert a; refine XX 1 hS rfl (Xn (Xt rfl (Xs (Xg (XX 1 hS rfl (Xn (Xr ?_))))))); exact X1 rfl rfl ⟨rfl, hS.arr⟩
/-- .. of several parts -/
theorem c42 {v mv : Value} {Fs : List Fld} {fs : List HF} {rest sub pl : List UInt8} (hS : St W (hdrL v mv Fs (S.inv rest :: old W :: L)) w) (ha : FsAre Fs fs) (hct : CtIs fs (mpW ++ sub ++ bdW ++ 98 :: pl)) (hl : ∀ c ∈ sub, isLD c = true) (hq : ∀ c ∈ pl, isLow c = true) (hl0 : sub ≠ []) (h1 : sub.length ≤ 20) (h2 : pl.length ≤ 20) (hlen : fs.length ≤ 1000) :
    Calls Tryz.prog 42 #[.agg #[v, mv], .iface S.T S.v] w fun e w' => ∃ (m b bst mb : Nat) (B : BS) (jk : List UInt8) (cap : Nat), (e = .returned (ptr m 0) ∧ B.ok ∧ B.c.length = 4096 ∧ B.str = rest ∧ cap = ([13, 10, 45, 45] ++ 98 :: pl ++ [45, 45] ++ jk).length) ∧
    St W (bfp (stickySrc S bst) b B (cel m [ptr b 0, .pointer none, .int .i64 0, .slice (some ⟨mb, 0, none⟩) 2 cap, .slice (some ⟨mb, 0, none⟩) (4 + (98 :: pl).length) cap, .slice (some ⟨mb, 2, none⟩) (4 + (98 :: pl).length) (cap - 2), .slice (some ⟨mb, 2, none⟩) (2 + (98 :: pl).length) (cap - 2)] 148 (0, 0) :: bys 5 mb ([13, 10, 45, 45] ++ 98 :: pl ++ [45, 45] ++ jk) :: L)) w' := by
  have hqd : ∀ c ∈ pl, isLD c = true := fun c hc => by unfold isLD; rw [hq c hc]; rfl
  have hlow : ∀ c ∈ mpW ++ sub ++ bdW ++ 98 :: pl, c.toNat < 128 ∧ isUp c = false := by
    have hld : ∀ c : UInt8, isLD c = true → c.toNat < 128 ∧ isUp c = false := fun c hc => by
      have := isLD_n hc
      refine ⟨by omega, ?_⟩
      cases hu : isUp c with
      | false => rfl
      | true => rw [isUp_iff] at hu; omega
    intro c hc; simp only [List.mem_append, List.mem_cons] at hc; rcases hc with ((hc | hc) | hc) | hc | hc
    · have : ∀ c ∈ mpW, c.toNat < 128 ∧ isUp c = false := by decide
      exact this c hc
    · exact hld c (hl c hc)
    · have : ∀ c ∈ bdW, c.toNat < 128 ∧ isUp c = false := by decide
      exact this c hc
    · subst hc; decide
    · exact hld c (hqd c hc)
  have hpre : hasPre (mpW ++ sub ++ bdW ++ 98 :: pl) mpW = true := hasPre_iff.2 ⟨sub ++ bdW ++ 98 :: pl, by simp⟩; have hcl : (mpW ++ sub ++ bdW ++ 98 :: pl).length ≤ 1000 := by simp [mpW, bdW]; omega
  refine fn_calls (args := [.agg #[v, mv], .iface S.T S.v]) Tryz.func42 rfl rfl rfl ?_; refine Xs (Xg ?_); refine XD hS (dBox rfl) rfl ?_; clear hS; intro vr w hR; obtain ⟨b2, rfl, hS⟩ := hR; replace hS := (show St W (cel b2 [v, mv] 80 (0, 0) :: _) w from hS); refine XX 1 hS rfl (Xn (Xs (Xg ?_))); refine XC hS (gCall rfl) rfl (cGet (k := ctN) (ct := mpW ++ sub ++ bdW ++ 98 :: pl) (Fs := Fs.reverse) (hS.tk3 (cel b2 [v, mv] 80 (0, 0)) (hmSL Fs.reverse mv) (bs fld Fs.reverse)) (by decide) (by decide) (by decide) (ct_flds ha hct) (by rw [List.length_reverse, fsAre_len ha]; exact hlen)) ?_; clear hS; intro e w hR; (try dsimp only [bfp, BS.cells, oint, List.length_nil, List.length_cons, List.nil_append] at hR); obtain ⟨rfl, hS⟩ := hR; refine ⟨_, rfl, ?_⟩; refine XX 1 hS rfl (Xn (Xs (Xs (Xg (XX 1 hS rfl ?_))))); refine XC hS (gCall rfl) rfl (c68 hS hlow (by omega)) ?_; clear hS; intro e w hR
  (try dsimp only [bfp, BS.cells, oint, List.length_nil, List.length_cons, List.nil_append] at hR); obtain ⟨rfl, hS⟩ := hR; refine ⟨_, rfl, ?_⟩; refine XC hS (gCall rfl) rfl (c67 (p := mpW) hS) ?_; clear hS; intro e w hR; (try dsimp only [bfp, BS.cells, oint, List.length_nil, List.length_cons, List.nil_append] at hR); obtain ⟨rfl, hS⟩ := hR; refine ⟨_, rfl, ?_⟩; intro a hE; rw [hpre] at hE; revert a; refine XX 1 hS rfl (Xn (Xf rfl (Xk (Xs (Xg (XX 1 hS rfl ?_)))))); refine XC hS (gCall rfl) rfl (c69 g hS hl hqd hl0 (by omega) (by omega)) ?_; clear hS; intro e w hR; (try dsimp only [bfp, BS.cells, oint, List.length_nil, List.length_cons, List.nil_append] at hR); obtain ⟨bm, rfl, hS⟩ := hR; refine ⟨_, rfl, ?_⟩
  refine XX 1 hS rfl (XR hS (rExtract rfl rfl) rfl (XR hS (rExtract rfl rfl) rfl (XR hS (rExtract rfl rfl) rfl (XX 3 hS rfl (Xn (Xs (Xs (Xg (XX 1 hS rfl (XR hS (rNilNilN rfl) rfl (Xn (Xf rfl (Xk (Xs ?_)))))))))))))); refine Xg (XX 2 hS rfl (XR hS (rLook (k := bword) rfl rfl .head rfl) rfl ?_)); refine XC hS (gCall rfl) rfl (c70 (S := S) (bd := 98 :: pl) (hS.tk2 (S.inv rest) (old W)) (by simp; omega)) ?_; clear hS; intro e w hR; (try dsimp only [bfp, BS.cells, oint, List.length_nil, List.length_cons, List.nil_append] at hR); obtain ⟨m, b, bst, mb, B, jk, cap, ⟨rfl, x1, x2, x3, x4⟩, hS⟩ := hR; refine ⟨_, rfl, ?_⟩; refine XX 1 hS rfl (Xn (Xr ?_)); refine X1 rfl rfl ?_; exact ⟨m, b, bst, mb, B, jk, cap, ⟨rfl, x1, x2, x3, x4⟩, hS.arr⟩
end
end Go.Proofs
end

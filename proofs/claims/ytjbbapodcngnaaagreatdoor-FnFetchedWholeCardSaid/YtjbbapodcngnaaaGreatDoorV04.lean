/-
  Steps on the way to the cards of laws.FnFetched and laws.FnFetchedWhole; the conditions of each are the hypotheses that it names. In order:
  Additions: drawn regions with a class of worlds that is less than the state; natural numbers; blocks that are only read; structs built.
  Runs of operations that need no memory: moves, picks, negations, operations that a guard shuts out.
  The steps once more, each ahead of 'for every frame': the goal is 'forall a, Env N f a -> ..' throughout, so that a row of steps is one term.
-/
import Derived.Test.YtjbbapodcngnaaaGreatDoorV03
import Derived.Laws.Tables
set_option linter.all false
section
namespace Go
namespace Eng

/-! ## A part of the state -/
class Sub (s t : List SL) : Prop where
  sat : ∀ {h : Hp}, Sat s h → Sat t h
instance (priority := low) Sub.nil {s : List SL} : Sub s [] := ⟨fun _ => trivial⟩
instance Sub.refl {s : List SL} : Sub s s := ⟨fun h => h⟩
instance (priority := low) Sub.cons {A : SL} {s t : List SL} [k : Sub s t] : Sub (A :: s) (A :: t) := ⟨fun ⟨a, b, ha, hb, hd, sa, sb⟩ => ⟨a, b, ha, k.sat hb, hd, sa, sb⟩⟩
instance (priority := low) Sub.skip {A : SL} {s t : List SL} [k : Sub s t] : Sub (A :: s) t := ⟨fun h => k.sat h.tail⟩
theorem St.sub {W w : World} {s t : List SL} [k : Sub s t] (h : St W s w) : St W t w := h.of_sat fun _ => k.sat
/-! The parts in another order -/
class Pl (A : SL) (s : List SL) (r : outParam (List SL)) : Prop where
  pull : Pull A s r
instance Pl.tail {A B : SL} {s r : List SL} [k : Pl A s r] : Pl A (B :: s) (B :: r) := ⟨.tail k.pull⟩
instance Pl.head {A : SL} {s : List SL} : Pl A (A :: s) s := ⟨.head⟩
class Tk (s pre : List SL) (r : outParam (List SL)) : Prop where
  take : Take pre s r
instance Tk.nil {s : List SL} : Tk s [] s := ⟨.nil⟩
instance Tk.cons {A : SL} {s pre m r : List SL} [k : Pl A s m] [t : Tk m pre r] : Tk s (A :: pre) r := ⟨.cons k.pull t.take⟩
theorem St.tk {W w : World} {s r : List SL} (h : St W s w) (pre : List SL) [t : Tk s pre r] : St W (pre ++ r) w := h.take t.take
theorem St.tk1 {W w : World} {s r : List SL} (h : St W s w) (A : SL) [k0 : Pl A s r] : St W (A :: r) w := h.take (Take.cons k0.pull (Take.nil))
theorem St.tk2 {W w : World} {s m1 r : List SL} (h : St W s w) (A : SL) (B : SL) [k0 : Pl A s m1] [k1 : Pl B m1 r] : St W (A :: B :: r) w := h.take (Take.cons k0.pull (Take.cons k1.pull (Take.nil)))
theorem St.tk3 {W w : World} {s m1 m2 r : List SL} (h : St W s w) (A : SL) (B : SL) (C : SL) [k0 : Pl A s m1] [k1 : Pl B m1 m2] [k2 : Pl C m2 r] : St W (A :: B :: C :: r) w := h.take (Take.cons k0.pull (Take.cons k1.pull (Take.cons k2.pull (Take.nil))))
theorem St.tk4 {W w : World} {s m1 m2 m3 r : List SL} (h : St W s w) (A : SL) (B : SL) (C : SL) (D : SL) [k0 : Pl A s m1] [k1 : Pl B m1 m2] [k2 : Pl C m2 m3] [k3 : Pl D m3 r] : St W (A :: B :: C :: D :: r) w := h.take (Take.cons k0.pull (Take.cons k1.pull (Take.cons k2.pull (Take.cons k3.pull (Take.nil)))))
theorem St.tk5 {W w : World} {s m1 m2 m3 m4 r : List SL} (h : St W s w) (A : SL) (B : SL) (C : SL) (D : SL) (E : SL) [k0 : Pl A s m1] [k1 : Pl B m1 m2] [k2 : Pl C m2 m3] [k3 : Pl D m3 m4] [k4 : Pl E m4 r] : St W (A :: B :: C :: D :: E :: r) w := h.take (Take.cons k0.pull (Take.cons k1.pull (Take.cons k2.pull (Take.cons k3.pull (Take.cons k4.pull (Take.nil))))))
theorem St.tk6 {W w : World} {s m1 m2 m3 m4 m5 r : List SL} (h : St W s w) (A : SL) (B : SL) (C : SL) (D : SL) (E : SL) (F : SL) [k0 : Pl A s m1] [k1 : Pl B m1 m2] [k2 : Pl C m2 m3] [k3 : Pl D m3 m4] [k4 : Pl E m4 m5] [k5 : Pl F m5 r] : St W (A :: B :: C :: D :: E :: F :: r) w := h.take (Take.cons k0.pull (Take.cons k1.pull (Take.cons k2.pull (Take.cons k3.pull (Take.cons k4.pull (Take.cons k5.pull (Take.nil)))))))
class Arr (s m : List SL) : Prop where
  sat : ∀ {h : Hp}, Sat s h → Sat m h
instance Arr.refl {s : List SL} : Arr s s := ⟨fun h => h⟩
instance (priority := low) Arr.cons {A : SL} {s m r : List SL} [k : Pl A s r] [t : Arr r m] : Arr s (A :: m) := ⟨fun h => by
  obtain ⟨a, b, ha, hb, hd, sa, sb⟩ := k.pull.sat h
  exact ⟨a, b, ha, t.sat hb, hd, sa, sb⟩⟩
instance (priority := 10) Arr.drop {A : SL} {s m : List SL} [t : Arr s m] : Arr (A :: s) m := ⟨fun h => t.sat h.tail⟩
theorem St.arr {W w : World} {s m : List SL} [k : Arr s m] (h : St W s w) : St W m w := h.of_sat fun _ => k.sat
theorem cw_rgd2 {P : Program} {n r : Act → World → Prop} {t : Nat → Option (Act → World → Prop)} {a : Act} {w : World} {id : Nat} {l : List Oper} {W : World} {s : List SL} (s0 : List SL) [ks : Sub s s0] (fl : List Fg) (hm : P.follows .mixedOrders = true) (hok : okB l.toArray (flag fl) (Region.before l.toArray) = true)
    (hS : St W s w) (h : ∀ w, St W s w → wk P l.toArray (St W s0) n fl l a w) : cw P (.region id l.toArray true) ⟨n, r, t⟩ a w := by
  unfold cw
  exact region_draws (Q := (Kt.mk n r t).q) (ops := l.toArray) (C := St W s0) hm hok hS.drew.sub (h _ hS.drew)

/-- a guard that was itself not looked at -/
theorem yields_undef {ops : Array Oper} {j : Nat} {t : Tmp} {N : Nat} {f : Ev} {a : Act} (hj : gslot ops j = some t) (hE : Env N f a) (hv : f t = some undef) : yielded ops a.tmps j = none := by
  unfold gslot at hj
  cases h : ops[j]? with
  | none => rw [h] at hj; cases hj
  | some o =>
    rw [h] at hj
    have h2 := hE.get _ _ hv
    simp [yielded, h, hj, h2, undef]
theorem gU {P : Program} {N : Nat} {f : Ev} {a : Act} {w : World} {ops : Array Oper} {K : Act → World → Prop} {CW : World → Prop} {d : Nat} {op : Op} {ty : TypeId} {pos : String} {aft : Array Edge} {l : List Oper} {fl : List Fg} {j : Nat} {t : Tmp} {b : Bool} (hE : Env N f a) (hj : gslot ops j = some t) (hv : f t = some undef) (hd : Nat.blt d N = true)
    (h : ∀ a, Env N (upd f d undef) a → wk P ops CW K fl.tail l a w) : wk P ops CW K fl (⟨some d, op, ty, pos, aft, some (j, b)⟩ :: l) a w := by
  have hy := yields_undef hj hE hv
  have hb : ((none : Option Bool) == some b) = false := by cases b <;> rfl
  have h' := h _ (hE.put hd)
  cases fl with
  | nil => simp only [wk, Region.wanted, hy, hb, Bool.false_eq_true, if_false] at h' ⊢; exact h'
  | cons x fl => cases x <;> (simp only [wk, Region.wanted, hy, hb, Bool.false_eq_true, if_false] at h' ⊢; exact h')
/-! ## Natural numbers -/
section
variable {P : Program} {W V w : World} {s m r : List SL} {f : Ev} {v u : Value} {x y z : Operand}
theorem rAddN {m n r : Nat} {t t' : TypeId} (hx : opv f x = some (.int .i64 (m : Int))) (hy : opv f y = some (.int .i64 (n : Int))) (hb : m + n ≤ 9223372036854775807) (hr : m + n = r) :
    Reads P W s f (.binOp .add t x y t') (.int .i64 (r : Int)) := by
  subst hr
  exact rAdd hx hy (by rw [w64 (by omega) (by omega)]; omega)
theorem rSubN {m n r : Nat} {t t' : TypeId} (hx : opv f x = some (.int .i64 (m : Int))) (hy : opv f y = some (.int .i64 (n : Int))) (hb : n ≤ m) (hm : m ≤ 9223372036854775807) (hr : m - n = r) :
    Reads P W s f (.binOp .sub t x y t') (.int .i64 (r : Int)) := by
  subst hr
  exact rSub hx hy (by rw [w64 (by omega) (by omega)]; omega)
theorem rEqN {m n : Nat} {k : IntKind} {t t' : TypeId} (hx : opv f x = some (.int k (m : Int))) (hy : opv f y = some (.int k (n : Int))) {b : Bool} (hb : decide (m = n) = b) : Reads P W s f (.binOp .eql t x y t') (.bool b) :=
  rCmp hx hy (by subst hb; simp only [cmpI, Option.some.injEq]; rw [Bool.eq_iff_iff]; simp; omega)
theorem rNeN {m n : Nat} {k : IntKind} {t t' : TypeId} (hx : opv f x = some (.int k (m : Int))) (hy : opv f y = some (.int k (n : Int))) {b : Bool} (hb : decide (m ≠ n) = b) : Reads P W s f (.binOp .neq t x y t') (.bool b) :=
  rCmp hx hy (by subst hb; simp only [cmpI, Option.some.injEq]; rw [Bool.eq_iff_iff]; simp; omega)
theorem rLtN {m n : Nat} {k : IntKind} {t t' : TypeId} (hx : opv f x = some (.int k (m : Int))) (hy : opv f y = some (.int k (n : Int))) {b : Bool} (hb : decide (m < n) = b) : Reads P W s f (.binOp .lss t x y t') (.bool b) :=
  rCmp hx hy (by subst hb; simp only [cmpI, Option.some.injEq]; rw [Bool.eq_iff_iff]; simp)
theorem rLeN {m n : Nat} {k : IntKind} {t t' : TypeId} (hx : opv f x = some (.int k (m : Int))) (hy : opv f y = some (.int k (n : Int))) {b : Bool} (hb : decide (m ≤ n) = b) : Reads P W s f (.binOp .leq t x y t') (.bool b) :=
  rCmp hx hy (by subst hb; simp only [cmpI, Option.some.injEq]; rw [Bool.eq_iff_iff]; simp)
theorem rGtN {m n : Nat} {k : IntKind} {t t' : TypeId} (hx : opv f x = some (.int k (m : Int))) (hy : opv f y = some (.int k (n : Int))) {b : Bool} (hb : decide (n < m) = b) : Reads P W s f (.binOp .gtr t x y t') (.bool b) :=
  rCmp hx hy (by subst hb; simp only [cmpI, Option.some.injEq]; rw [Bool.eq_iff_iff]; simp)
theorem rGeN {m n : Nat} {k : IntKind} {t t' : TypeId} (hx : opv f x = some (.int k (m : Int))) (hy : opv f y = some (.int k (n : Int))) {b : Bool} (hb : decide (n ≤ m) = b) : Reads P W s f (.binOp .geq t x y t') (.bool b) :=
  rCmp hx hy (by subst hb; simp only [cmpI, Option.some.injEq]; rw [Bool.eq_iff_iff]; simp)
/-! bytes -/
theorem byte_eq {c d : UInt8} : (c.toNat = d.toNat) ↔ c = d := by rw [UInt8.toNat_inj]
theorem rB8 {c d : UInt8} {t t' : TypeId} (hx : opv f x = some (byteV c)) (hy : opv f y = some (byteV d)) {b : Bool} (hb : (c == d) = b) : Reads P W s f (.binOp .eql t x y t') (.bool b) :=
  rEqN (m := c.toNat) (n := d.toNat) hx hy (by subst hb; rw [Bool.eq_iff_iff]; simp [byte_eq])
theorem rB8n {c d : UInt8} {t t' : TypeId} (hx : opv f x = some (byteV c)) (hy : opv f y = some (byteV d)) {b : Bool} (hb : (c != d) = b) : Reads P W s f (.binOp .neq t x y t') (.bool b) :=
  rNeN (m := c.toNat) (n := d.toNat) hx hy (by subst hb; rw [Bool.eq_iff_iff]; simp [byte_eq])
theorem rB8lt {c d : UInt8} {t t' : TypeId} (hx : opv f x = some (byteV c)) (hy : opv f y = some (byteV d)) {b : Bool} (hb : decide (c < d) = b) : Reads P W s f (.binOp .lss t x y t') (.bool b) :=
  rLtN (m := c.toNat) (n := d.toNat) hx hy (by subst hb; rw [Bool.eq_iff_iff]; simp [UInt8.lt_iff_toNat_lt])
theorem rB8le {c d : UInt8} {t t' : TypeId} (hx : opv f x = some (byteV c)) (hy : opv f y = some (byteV d)) {b : Bool} (hb : decide (c ≤ d) = b) : Reads P W s f (.binOp .leq t x y t') (.bool b) :=
  rLeN (m := c.toNat) (n := d.toNat) hx hy (by subst hb; rw [Bool.eq_iff_iff]; simp [UInt8.le_iff_toNat_le])
theorem rB8gt {c d : UInt8} {t t' : TypeId} (hx : opv f x = some (byteV c)) (hy : opv f y = some (byteV d)) {b : Bool} (hb : decide (d < c) = b) : Reads P W s f (.binOp .gtr t x y t') (.bool b) :=
  rGtN (m := c.toNat) (n := d.toNat) hx hy (by subst hb; rw [Bool.eq_iff_iff]; simp [UInt8.lt_iff_toNat_lt])
theorem rB8ge {c d : UInt8} {t t' : TypeId} (hx : opv f x = some (byteV c)) (hy : opv f y = some (byteV d)) {b : Bool} (hb : decide (d ≤ c) = b) : Reads P W s f (.binOp .geq t x y t') (.bool b) :=
  rGeN (m := c.toNat) (n := d.toNat) hx hy (by subst hb; rw [Bool.eq_iff_iff]; simp [UInt8.le_iff_toNat_le])
theorem rConvN {k j : IntKind} {n : Nat} {t t' : TypeId} [h : IntT P t k] [h' : IntT P t' j] (hx : opv f x = some (.int k (n : Int))) (hr : j.wrap (n : Int) = n) : Reads P W s f (.convert t t' x) (.int j (n : Int)) := rConvI hx hr

theorem rConvB {d : UInt8} {t t' : TypeId} [h : IntT P t .u8] [h' : IntT P t' .i64] (hx : opv f x = some (byteV d)) : Reads P W s f (.convert t t' x) (.int .i64 (d.toNat : Int)) :=
  rConvN hx (w64 (by omega) (by have := d.toNat_lt; omega))
/-! slices -/
theorem slo_is {off i c o : Nat} (h : i < c) (e : off + i = o) : slo off i c = o := by rw [slo_lt h, e]
theorem rSlc1o {t E : Nat} [h : SliceT P t E 1] {b off n c i o : Nat} {k : IntKind} (hx : opv f x = some (.slice (some ⟨b, off, none⟩) n c)) (hy : opv f y = some (.int k (i : Int))) (hi : i ≤ n) (ho : slo off i c = o) :
    Reads P W s f (.slice t x (some y) none none) (.slice (some ⟨b, o, none⟩) (n - i) (c - i)) := by
  subst ho; exact rSlc1 hx hy hi
theorem rSlc2o {t E : Nat} [h : SliceT P t E 1] {b off n c i j o : Nat} {k k' : IntKind} (hx : opv f x = some (.slice (some ⟨b, off, none⟩) n c)) (hy : opv f y = some (.int k (i : Int))) (hz : opv f z = some (.int k' (j : Int))) (hi : i ≤ j) (hj : j ≤ c) (ho : slo off i c = o) :
    Reads P W s f (.slice t x (some y) (some z) none) (.slice (some ⟨b, o, none⟩) (j - i) (c - i)) := by
  subst ho; exact rSlc2 hx hy hz hi hj

/-! copy, in place -/
theorem dCopyS {t t' E b off dl dc off2 sl sc n : Nat} {c c' : List UInt8} [ht : SliceT P t E 1] (hx : opv f x = some (.slice (some ⟨b, off, none⟩) dl dc)) (hy : opv f y = some (.slice (some ⟨b, off2, none⟩) sl sc)) [hb : HasBys s E b c]
    (hn : min sl dl = n) (ho : off + n ≤ c.length) (ho2 : off2 + n ≤ c.length) (hc : c.take off ++ (c.drop off2).take n ++ c.drop (off + n) = c') [k : SetBys s E b c c' m] :
    Does P W s f (.call { callee := .builtin .copy, args := #[x, y], argTypes := #[t, t'] }) (fun v w' => v = .int .i64 (n : Int) ∧ St W m w') := fun N a w dst ty pos aft hE hS => by
  subst hc
  obtain ⟨q, p1, p2⟩ := k.repl.pulls
  obtain ⟨v, w', h1, h2, h3⟩ := dCopySelf (P := P) (W := W) (t := t) (t' := t') hx hy p1 hn ho ho2 N a w dst ty pos aft hE hS
  exact ⟨v, w', h1, h2, h3.back p2⟩
theorem dCopyT {t t' E b off dl dc b2 off2 sl sc n : Nat} {c c2 c' : List UInt8} [ht : SliceT P t E 1] (hx : opv f x = some (.slice (some ⟨b, off, none⟩) dl dc)) (hy : opv f y = some (.slice (some ⟨b2, off2, none⟩) sl sc)) (hp : Pull (bys E b c) s r) [k2 : HasBys r E b2 c2]
    (hn : min sl dl = n) (ho : off + n ≤ c.length) (ho2 : off2 + n ≤ c2.length) (hc : c.take off ++ (c2.drop off2).take n ++ c.drop (off + n) = c') [k : SetBys s E b c c' m] (hq : Pull (bys E b c') m r) :
    Does P W s f (.call { callee := .builtin .copy, args := #[x, y], argTypes := #[t, t'] }) (fun v w' => v = .int .i64 (n : Int) ∧ St W m w') := fun N a w dst ty pos aft hE hS => by
  subst hc
  obtain ⟨v, w', h1, h2, h3⟩ := dCopyB (P := P) (W := W) (t := t) (t' := t') hx hy hp (k := k2) hn ho ho2 N a w dst ty pos aft hE hS
  exact ⟨v, w', h1, h2, h3.back hq⟩

/-- a store, the cells afterwards written out -/
class SetL (l : List Value) (o : Nat) (v : Value) (l' : outParam (List Value)) : Prop where
  eq : l.set o v = l'
instance SetL.succ {a v : Value} {l l' : List Value} {n : Nat} [h : SetL l n v l'] : SetL (a :: l) (n + 1) v (a :: l') := ⟨by rw [List.set_cons_succ, h.eq]⟩
instance SetL.zero {a v : Value} {l : List Value} : SetL (a :: l) 0 v (v :: l) := ⟨rfl⟩
instance SetL.plus {v : Value} {l l' : List Value} {n : Nat} [h : SetL l n v l'] : SetL l (0 + n) v l' := ⟨by rw [Nat.zero_add]; exact h.eq⟩
theorem dStoreL {t : TypeId} [ht : OneCell P t] {b off : Nat} {l l' : List Value} {E : TypeId} {fz : Nat × Nat} (hx : opv f x = some (ptr b off)) (hy : opv f y = some v) [hh : HasCel s b l E fz] [q : SetL l off v l'] [k : SetCel s b l E fz l' m] (ho : l[off]? = some u) (hz : frzd fz off = false) (hv : v.oneCell' = true) :
    Does P W s f (.store t x y) (fun _ w' => St W m w') := by
  have e := q.eq
  subst e
  exact dStore hx hy ho hz hv

theorem one_all {vs : List Value} (h : vs.all Value.oneCell' = true) : ∀ v ∈ vs, v.oneCell' = true := List.all_eq_true.1 h

theorem St.ob_len {E : Nat} {c : List UInt8} (h : St W s w) (p : Pull (ob E v c) s r) : ∃ q k, v = .slice q c.length k ∧ c.length ≤ k := by
  rcases (h.pull p).ob_cases with ⟨h1, h2, _⟩ | ⟨b, junk, h1, _⟩
  · subst h2; exact ⟨none, 0, h1, Nat.le_refl _⟩
  · exact ⟨_, _, h1, by simp⟩
theorem rLenOb {t E E' z0 : Nat} {c : List UInt8} [h : SliceT P t E z0] (hx : opv f x = some v) (hp : Pull (ob E' v c) s r) : Reads P W s f (.call { callee := .builtin .len, args := #[x], argTypes := #[t] }) (.int .i64 (c.length : Int)) := fun N a w dst ty pos aft hE hS => by
  obtain ⟨q, k, rfl, _⟩ := hS.ob_len hp
  exact rLen hx N a w dst ty pos aft hE hS

/-- a function without a body that only reads -/
theorem rExt {g : FuncId} {xs : List Operand} {ats : Array TypeId} {vs : List Value} (hv : opvs f xs = some vs) (h : ∀ w, St W s w → (callFunc g vs.toArray).run P w = .ok (.value v) w) :
    Reads P W s f (.call { callee := .value (.func g), args := xs.toArray, argTypes := ats }) v := fun N a w dst ty pos aft hE hS => by
  have e := hE.evals xs vs hv
  have h1 := h w hS
  simp only [execOp, resolve, Deferred.ofValue, Act.eval, invoke, List.map_toArray, Sem.run_bind, Sem.run_pure, Result.andThen_ok]
  simp only [e]
  simpa using h1

/-- a function without a body that writes -/
theorem dExt {g : FuncId} {xs : List Operand} {ats : Array TypeId} {vs : List Value} {R : Value → World → Prop} (hv : opvs f xs = some vs) (h : ∀ w, St W s w → ∃ v w', (callFunc g vs.toArray).run P w = .ok (.value v) w' ∧ R v w') :
    Does P W s f (.call { callee := .value (.func g), args := xs.toArray, argTypes := ats }) R := fun N a w dst ty pos aft hE hS => by
  have e := hE.evals xs vs hv
  obtain ⟨v, w', h1, h2⟩ := h w hS
  refine ⟨v, w', .inl ?_, h2⟩
  simp only [execOp, resolve, Deferred.ofValue, Act.eval, invoke, List.map_toArray, Sem.run_bind, Sem.run_pure, Result.andThen_ok]
  simp only [e]
  simpa using h1

/-! ## Blocks that are only read -/
def ro (l : List (Nat × Obj)) : SL := fun h => ∀ p ∈ l, h p.1 = some p.2
theorem St.ro_nil (h : St W s w) : St W (ro [] :: s) w :=
  ⟨h.os, h.tape, h.output, h.size, fun _ => none, hp w, (fun p hp => by cases hp), h.sat, fun _ => .inl rfl, (fun _ _ e => by cases e), Eng.sub.refl _⟩
theorem St.ro_add {b : Nat} {o : Obj} {l : List (Nat × Obj)} (h : St W (pt b o :: ro l :: s) w) : St W (ro ((b, o) :: l) :: s) w := h.of_sat fun h ⟨a, r, ha, ⟨c, d, hc, hd, hcd, sc, sd⟩, har, sa, sr⟩ =>
  ⟨uni a c, d, fun p hp => by
      rcases List.mem_cons.1 hp with rfl | hp
      · exact sub_uni_left a c _ _ ha
      · exact sub_uni_right (har.mono (Eng.sub.refl _) sc) _ _ (hc p hp),
    hd, dis_uni (har.mono (Eng.sub.refl _) sd) hcd, uni_sub sa (sc.trans sr), sd.trans sr⟩
theorem St.ro_at {b : Nat} {o : Obj} {l : List (Nat × Obj)} (h : St W s w) (p : Pull (ro l) s r) (hm : (b, o) ∈ l) : w.heap[b]? = some o := by
  obtain ⟨a, c, ha, _, _, sa, _⟩ := (h.pull p).sat
  exact sa b o (ha (b, o) hm)
theorem rLoadR {t : TypeId} [ht : OneCell P t] {b off : Nat} {c : List Value} {E : TypeId} {fz : Nat × Nat} {l : List (Nat × Obj)} (hx : opv f x = some (ptr b off)) (p : Pull (ro l) s r) (hm : (b, Obj.cells c.toArray E fz) ∈ l) (hv : c[off]? = some v) :
    Reads P W s f (.load t x) v := fun N a w dst ty pos aft hE hS => by
  have hc : w.cell? ⟨b, off, none⟩ = some v := by simp [World.cell?, hS.ro_at p hm, hv]
  have h := run_loadAt (P := P) (t := t) hc
  simp only [execOp, hE.eval hx]; exact run_v h

/-! ## Structs -/
def buildInfo (P : Program) (T : TypeId) : Option (List (Nat × Nat) × List Value) :=
  match P.info? T, P.underlying T with
  | some it, some (.struct fields) =>
    match it.zero, fields.toList.mapM (fun f => (P.info? f.type).map fun i => (f.offset, i.size)) with
    | some z, some places => some (places, z.cells.toList)
    | _, _ => none
  | _, _ => none
theorem BuildT.of {T : TypeId} {places : List (Nat × Nat)} {zero : List Value} (h : buildInfo P T = some (places, zero)) : BuildT P T places zero := ⟨fun parts cs w hc => by
  refine run_build w T _ _ ?_
  unfold buildInfo at h
  unfold Program.built
  cases hit : P.info? T with
  | none => rw [hit] at h; cases h
  | some it =>
    cases hu : P.underlying T with
    | none => rw [hit, hu] at h; cases h
    | some d =>
      rw [hit, hu] at h
      cases d with
      | struct fields =>
        simp only at h ⊢
        cases hz : it.zero with
        | none => rw [hz] at h; cases h
        | some z =>
          cases hp : fields.toList.mapM (fun f => (P.info? f.type).map fun i => (f.offset, i.size)) with
          | none => rw [hz, hp] at h; cases h
          | some pl =>
            rw [hz, hp] at h
            obtain ⟨rfl, rfl⟩ := Prod.mk.inj (Option.some.inj h)
            simpa using hc
      | _ => cases h⟩
end
end Eng
end Go
end
section
namespace Go
namespace Eng
def pv (f : Ev) : Op → Option Value
  | .move x => opv f x
  | .assign x => opv f x
  | .pick c x y => match opv f c with | some (.bool true) => opv f x | some (.bool false) => opv f y | _ => none
  | .unOp .not _ x => match opv f x with | some (.bool b) => some (.bool !b) | _ => none
  | _ => none
def isU : Value → Bool
  | .tuple vs => Nat.beq vs.size 0
  | _ => false
theorem isU_eq {v : Value} (h : isU v = true) : v = undef := by
  unfold isU at h
  split at h
  · have := Nat.eq_of_beq_eq_true h
    rw [Array.eq_empty_of_size_eq_zero this]; rfl
  · cases h
/-- what at most n operations make of the environment -/
def qrun (ops : Array Oper) (N : Nat) : Nat → Ev → List Oper → Option (Ev × List Oper)
  | 0, f, l => some (f, l)
  | n + 1, f, ⟨some d, op, ty, pos, aft, none⟩ :: l => match Nat.blt d N, pv f op with
    | true, some v => qrun ops N n (upd f d v) l
    | _, _ => some (f, ⟨some d, op, ty, pos, aft, none⟩ :: l)
  | n + 1, f, ⟨some d, op, ty, pos, aft, some (j, b)⟩ :: l => match Nat.blt d N, gslot ops j with
    | true, some t => match f t with
      | some (.bool c) => match c == b with
        | true => match pv f op with
          | some v => qrun ops N n (upd f d v) l
          | none => some (f, ⟨some d, op, ty, pos, aft, some (j, b)⟩ :: l)
        | false => qrun ops N n (upd f d undef) l
      | some v => match isU v with
        | true => qrun ops N n (upd f d undef) l
        | false => some (f, ⟨some d, op, ty, pos, aft, some (j, b)⟩ :: l)
      | none => some (f, ⟨some d, op, ty, pos, aft, some (j, b)⟩ :: l)
    | _, _ => some (f, ⟨some d, op, ty, pos, aft, some (j, b)⟩ :: l)
  | _ + 1, f, l => some (f, l)
section
variable {P : Program} {W : World} {s : List SL} {f f' : Ev} {v : Value} {N : Nat} {a : Act} {w : World} {ops : Array Oper} {K : Act → World → Prop} {l l' : List Oper}
theorem pv_reads {op : Op} (h : pv f op = some v) : Reads P W s f op v := by
  unfold pv at h
  split at h
  · exact rMove h
  · exact rAssign h
  · split at h
    · exact rPickT (by assumption) h
    · exact rPickF (by assumption) h
    · cases h
  · split at h
    · obtain rfl := Option.some.inj h
      exact rNot (by assumption)
    · cases h
  · cases h
theorem qrun_ok : ∀ (n : Nat) (f : Ev) (l : List Oper) {f' : Ev} {l' : List Oper} {a : Act} {w : World}, qrun ops N n f l = some (f', l') → Env N f a → St W s w → (∀ a, Env N f' a → wk P ops (fun _ => True) K [] l' a w) → wk P ops (fun _ => True) K [] l a w := by
  intro n
  induction n with
  | zero =>
    intro f l f' l' a w h hE hS k
    unfold qrun at h
    obtain ⟨rfl, rfl⟩ := Prod.mk.inj (Option.some.inj h)
    exact k a hE
  | succ n ih =>
    intro f l f' l' a w h hE hS k
    have stop : ∀ {l0 : List Oper}, some (f, l0) = some (f', l') → wk P ops (fun _ => True) K [] l0 a w := fun h => by
      obtain ⟨rfl, rfl⟩ := Prod.mk.inj (Option.some.inj h)
      exact k a hE
    cases l with
    | nil => simp only [qrun] at h; exact stop h
    | cons o l =>
      obtain ⟨dst, op, ty, pos, aft, g⟩ := o
      cases dst with
      | none => simp only [qrun] at h; exact stop h
      | some d =>
        cases g with
        | none =>
          simp only [qrun] at h
          split at h
          · rename_i v hd hv
            exact pr hE hS (pv_reads hv) hd fun a hE => ih _ _ h hE hS k
          · exact stop h
        | some g =>
          obtain ⟨j, b⟩ := g
          simp only [qrun] at h
          split at h
          · rename_i t hd hj
            split at h
            · rename_i c hc
              split at h
              · rename_i hcb
                obtain rfl := beq_iff_eq.1 hcb
                split at h
                · rename_i v hv
                  exact gT hE hj hc (pr hE hS (pv_reads hv) hd fun a hE => ih _ _ h hE hS k)
                · exact stop h
              · rename_i hcb
                have hb : c = !b := by cases c <;> cases b <;> simp_all
                exact gF hE hj (hb ▸ hc) hd fun a hE => ih _ _ h hE hS k
            · rename_i v hx hc
              split at h
              · rename_i hu
                rw [isU_eq hu] at hc
                exact gU hE hj hc hd fun a hE => ih _ _ h hE hS k
              · exact stop h
            · exact stop h
          · exact stop h
/-- a run of at most n operations -/
theorem qx (n : Nat) (hE : Env N f a) (hS : St W s w) (h : qrun ops N n f l = some (f', l')) (k : ∀ a, Env N f' a → wk P ops (fun _ => True) K [] l' a w) : wk P ops (fun _ => True) K [] l a w := qrun_ok n f l h hE hS k
end
end Eng
end Go
end
section
namespace Go
namespace Eng
section
variable {P : Program} {W : World} {s s0 : List SL} {f f' : Ev} {op : Op} {v : Value} {N : Nat} {w : World} {ops : Array Oper} {K : Act → World → Prop}
  {CW : World → Prop} {d : Nat} {ty : TypeId} {pos : String} {aft : Array Edge} {l l' : List Oper} {fl : List Fg}
theorem XR (hS : St W s w) (r : Reads P W s f op v) (hd : Nat.blt d N = true) (h : ∀ a, Env N (upd f d v) a → wk P ops (fun _ => True) K [] l a w) : ∀ a, Env N f a → wk P ops (fun _ => True) K [] (⟨some d, op, ty, pos, aft, none⟩ :: l) a w :=
  fun _ hE => pr hE hS r hd h
theorem XS (r : Reads P W s0 f op v) (hd : Nat.blt d N = true) (h : ∀ a, Env N (upd f d v) a → wk P ops (St W s0) K fl l a w) : ∀ a, Env N f a → wk P ops (St W s0) K (.s :: fl) (⟨some d, op, ty, pos, aft, none⟩ :: l) a w :=
  fun _ hE => sr hE r hd h
theorem XT (hS : St W s w) (r : Reads P W s f op v) (hd : Nat.blt d N = true) (h : ∀ a, Env N (upd f d v) a → wk P ops CW K fl l a w) : ∀ a, Env N f a → wk P ops CW K (.r :: fl) (⟨some d, op, ty, pos, aft, none⟩ :: l) a w :=
  fun _ hE => rr hE hS r hd h
theorem XV (hS : St W s w) (r : Reads P W s f op v) (hd : Nat.blt d N = true) (h : ∀ a, Env N (upd f d v) a → wk P ops CW K fl l a w) : ∀ a, Env N f a → wk P ops CW K (.e :: fl) (⟨some d, op, ty, pos, aft, none⟩ :: l) a w :=
  fun _ hE => xr hE hS r hd h
theorem XX (n : Nat) (hS : St W s w) (h : qrun ops N n f l = some (f', l')) (k : ∀ a, Env N f' a → wk P ops (fun _ => True) K [] l' a w) : ∀ a, Env N f a → wk P ops (fun _ => True) K [] l a w :=
  fun _ hE => qx n hE hS h k
theorem XA {j : Nat} {t : Tmp} {b : Bool} {dst : Option Tmp} (hj : gslot ops j = some t) (hv : f t = some (.bool b))
    (h : ∀ a, Env N f a → wk P ops CW K fl (⟨dst, op, ty, pos, aft, none⟩ :: l) a w) : ∀ a, Env N f a → wk P ops CW K fl (⟨dst, op, ty, pos, aft, some (j, b)⟩ :: l) a w :=
  fun a hE => gT hE hj hv (h a hE)
theorem XF {j : Nat} {t : Tmp} {b : Bool} (hj : gslot ops j = some t) (hv : f t = some (.bool (!b))) (hd : Nat.blt d N = true)
    (h : ∀ a, Env N (upd f d undef) a → wk P ops CW K fl.tail l a w) : ∀ a, Env N f a → wk P ops CW K fl (⟨some d, op, ty, pos, aft, some (j, b)⟩ :: l) a w :=
  fun _ hE => gF hE hj hv hd h
theorem XU {j : Nat} {t : Tmp} {b : Bool} (hj : gslot ops j = some t) (hv : f t = some undef) (hd : Nat.blt d N = true)
    (h : ∀ a, Env N (upd f d undef) a → wk P ops CW K fl.tail l a w) : ∀ a, Env N f a → wk P ops CW K fl (⟨some d, op, ty, pos, aft, some (j, b)⟩ :: l) a w :=
  fun _ hE => gU hE hj hv hd h
theorem XD {R : Value → World → Prop} (hS : St W s w) (r : Does P W s f op R) (hd : Nat.blt d N = true)
    (h : ∀ v w', R v w' → ∀ a, Env N (upd f d v) a → wk P ops (fun _ => True) K [] l a w') : ∀ a, Env N f a → wk P ops (fun _ => True) K [] (⟨some d, op, ty, pos, aft, none⟩ :: l) a w :=
  fun _ hE => pd hE hS r hd fun v w' a hR hE => h v w' hR a hE
theorem XN {R : Value → World → Prop} (hS : St W s w) (r : Does P W s f op R)
    (h : ∀ v w', R v w' → ∀ a, Env N f a → wk P ops (fun _ => True) K [] l a w') : ∀ a, Env N f a → wk P ops (fun _ => True) K [] (⟨none, op, ty, pos, aft, none⟩ :: l) a w :=
  fun a hE => pn hE hS r fun v w' hR => h v w' hR a hE
theorem XH {R : Value → World → Prop} (hS : St W s w) (r : Does P W s f op R) (hd : Nat.blt d N = true)
    (h : ∀ v w', R v w' → St W s0 w' ∧ ∀ a, Env N (upd f d v) a → wk P ops (St W s0) K fl l a w') : ∀ a, Env N f a → wk P ops (St W s0) K (.h :: fl) (⟨some d, op, ty, pos, aft, none⟩ :: l) a w :=
  fun _ hE => Eng.hd hE hS r hd fun v w' a hR hE => ⟨(h v w' hR).1, (h v w' hR).2 a hE⟩
theorem XI {R : Value → World → Prop} (hS : St W s w) (r : Does P W s f op R)
    (h : ∀ v w', R v w' → St W s0 w' ∧ ∀ a, Env N f a → wk P ops (St W s0) K fl l a w') : ∀ a, Env N f a → wk P ops (St W s0) K (.h :: fl) (⟨none, op, ty, pos, aft, none⟩ :: l) a w :=
  fun a hE => hn hE hS r fun v w' hR => ⟨(h v w' hR).1, (h v w' hR).2 a hE⟩
theorem XC {g : FuncId} {args : List Value} {R : Ending → World → Prop} (hS : St W s w) (r : Goes P W s f op g args) (hd : Nat.blt d N = true) (hc : Calls P g args.toArray w R)
    (h : ∀ e w', R e w' → ∃ v, e = .returned v ∧ ∀ a, Env N (upd f d v) a → wk P ops (fun _ => True) K [] l a w') : ∀ a, Env N f a → wk P ops (fun _ => True) K [] (⟨some d, op, ty, pos, aft, none⟩ :: l) a w :=
  fun _ hE => pc hE hS r hd hc h
theorem XJ {g : FuncId} {args : List Value} {R : Ending → World → Prop} (hS : St W s w) (r : Goes P W s f op g args) (hd : Nat.blt d N = true) (hc : Calls P g args.toArray w R)
    (h : ∀ e w', R e w' → ∃ v, e = .returned v ∧ St W s0 w' ∧ ∀ a, Env N (upd f d v) a → wk P ops (St W s0) K fl l a w') : ∀ a, Env N f a → wk P ops (St W s0) K (.h :: fl) (⟨some d, op, ty, pos, aft, none⟩ :: l) a w :=
  fun _ hE => Eng.hc hE hS r hd hc h
theorem XL {R : Value → World → Prop} (hS : St W s w) (r : Does P W s f op R) (hd : Nat.blt d N = true)
    (h : ∀ v w', R v w' → ∀ a, Env N (upd f d v) a → wk P ops CW K fl l a w') : ∀ a, Env N f a → wk P ops CW K (.e :: fl) (⟨some d, op, ty, pos, aft, none⟩ :: l) a w :=
  fun _ hE => xd hE hS r hd fun v w' a hR hE => h v w' hR a hE
theorem XM {R : Value → World → Prop} (hS : St W s w) (r : Does P W s f op R)
    (h : ∀ v w', R v w' → ∀ a, Env N f a → wk P ops CW K fl l a w') : ∀ a, Env N f a → wk P ops CW K (.e :: fl) (⟨none, op, ty, pos, aft, none⟩ :: l) a w :=
  fun a hE => xn hE hS r fun v w' hR => h v w' hR a hE
theorem XO {g : FuncId} {args : List Value} {R : Ending → World → Prop} (hS : St W s w) (r : Goes P W s f op g args) (hd : Nat.blt d N = true) (hc : Calls P g args.toArray w R)
    (h : ∀ e w', R e w' → ∃ v, e = .returned v ∧ ∀ a, Env N (upd f d v) a → wk P ops CW K fl l a w') : ∀ a, Env N f a → wk P ops CW K (.e :: fl) (⟨some d, op, ty, pos, aft, none⟩ :: l) a w :=
  fun _ hE => xc hE hS r hd hc h
theorem Xn (h : ∀ a, Env N f a → K a w) : ∀ a, Env N f a → wk P ops CW K fl [] a w := fun a hE => wk_nil (h a hE)
end
section
variable {P : Program} {k : Kt} {n r : Act → World → Prop} {t : Nat → Option (Act → World → Prop)} {w : World} {N : Nat} {f : Ev} {x y : Code}
theorem Xs (h : ∀ a, Env N f a → cw P x ⟨fun a w => cw P y ⟨n, r, t⟩ a w, r, t⟩ a w) : ∀ a, Env N f a → cw P (.seq x y) ⟨n, r, t⟩ a w := fun a hE => cw_seq (h a hE)
theorem Xk (h : ∀ a, Env N f a → n a w) : ∀ a, Env N f a → cw P .skip ⟨n, r, t⟩ a w := fun a hE => cw_skip (h a hE)
theorem Xr (h : ∀ a, Env N f a → r a w) : ∀ a, Env N f a → cw P .ret ⟨n, r, t⟩ a w := fun a hE => cw_ret (h a hE)
theorem Xe {i : Nat} {K : Act → World → Prop} (hk : t i = some K) (h : ∀ a, Env N f a → K a w) : ∀ a, Env N f a → cw P (.exit i) ⟨n, r, t⟩ a w := fun a hE => cw_exit hk (h a hE)
theorem Xb {id : Nat} (h : ∀ a, Env N f a → cw P x ⟨n, r, fun i => bif Nat.beq i id then some n else t i⟩ a w) : ∀ a, Env N f a → cw P (.block id x) ⟨n, r, t⟩ a w := fun a hE => cw_block (h a hE)
theorem Xt {c : Operand} (hc : opv f c = some (.bool true)) (h : ∀ a, Env N f a → cw P x k a w) : ∀ a, Env N f a → cw P (.cond c x y) k a w := fun a hE => cw_condT hE hc (h a hE)
theorem Xf {c : Operand} (hc : opv f c = some (.bool false)) (h : ∀ a, Env N f a → cw P y k a w) : ∀ a, Env N f a → cw P (.cond c x y) k a w := fun a hE => cw_condF hE hc (h a hE)
theorem Xg {id : Nat} {l : List Oper} (h : ∀ a, Env N f a → wk P l.toArray (fun _ => True) n [] l a w) : ∀ a, Env N f a → cw P (.region id l.toArray false) ⟨n, r, t⟩ a w := fun a hE => cw_rg (h a hE)
theorem Xd {id : Nat} {l : List Oper} {W : World} {s : List SL} (fl : List Fg) (hm : P.follows .mixedOrders = true) (hok : okB l.toArray (flag fl) (Region.before l.toArray) = true)
    (hS : St W s w) (h : ∀ w, St W s w → ∀ a, Env N f a → wk P l.toArray (St W s) n fl l a w) : ∀ a, Env N f a → cw P (.region id l.toArray true) ⟨n, r, t⟩ a w :=
  fun a hE => cw_rgd fl hm hok hS fun w hw => h w hw a hE
theorem Xh {id : Nat} {l : List Oper} {W : World} {s : List SL} (s0 : List SL) [ks : Sub s s0] (fl : List Fg) (hm : P.follows .mixedOrders = true) (hok : okB l.toArray (flag fl) (Region.before l.toArray) = true)
    (hS : St W s w) (h : ∀ w, St W s w → ∀ a, Env N f a → wk P l.toArray (St W s0) n fl l a w) : ∀ a, Env N f a → cw P (.region id l.toArray true) ⟨n, r, t⟩ a w :=
  fun a hE => cw_rgd2 s0 fl hm hok hS fun w hw => h w hw a hE
end
section
variable {P : Program} {w : World} {fn : Func} {R : Ending → World → Prop} {N : Nat} {f : Ev} {t u s : Tmp} {v x y : Value}
theorem X0 (hr : fn.results = #[]) (hR : R (.returned (.tuple #[])) w) : ∀ a, Env N f a → rets P fn R a w := fun _ hE => kret0 hE hr hR
theorem X1 (hr : fn.results = #[.tmp t]) (ht : f t = some v) (hR : R (.returned v) w) : ∀ a, Env N f a → rets P fn R a w := fun _ hE => kret1 hE hr ht hR
theorem X2 (hr : fn.results = #[.tmp t, .tmp u]) (ht : f t = some v) (hu : f u = some x) (hR : R (.returned (.tuple #[v, x])) w) : ∀ a, Env N f a → rets P fn R a w := fun _ hE => kret2 hE hr ht hu hR
theorem X3 (hr : fn.results = #[.tmp t, .tmp u, .tmp s]) (ht : f t = some v) (hu : f u = some x) (hs : f s = some y) (hR : R (.returned (.tuple #[v, x, y])) w) : ∀ a, Env N f a → rets P fn R a w := fun _ hE => kret3 hE hr ht hu hs hR
end
end Eng
end Go
end

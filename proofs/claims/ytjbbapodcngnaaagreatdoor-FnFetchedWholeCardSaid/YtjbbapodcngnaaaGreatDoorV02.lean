/-
  Steps on the way to the cards of laws.FnFetched and laws.FnFetchedWhole; the conditions of each are the hypotheses that it names. In order:
  What single operations yield, over a heap in parts.
  What single operations yield, and what they do to a heap in parts (2).
  What single operations yield, over a heap in parts (3): strings, slices, lengths.
  What operations do to a heap in parts: stores, new memory, calls.
-/
import Derived.Test.YtjbbapodcngnaaaGreatDoorV01
set_option linter.all false
section
namespace Go
namespace Eng

/-! ## Facts on a program's types -/
class OneCell (P : Program) (t : TypeId) : Prop where
  agg : ∀ w, (isAgg t).run P w = .ok false w
  size : ∀ w, (sizeOf t).run P w = .ok 1 w
class FieldAt (P : Program) (T i : Nat) (off : outParam Nat) : Prop where
  has : ∃ fs fd, P.underlying T = some (.struct fs) ∧ fs[i]? = some fd ∧ fd.offset = off ∧ ∃ n, n ≠ 0 ∧ ∀ w, (sizeOf fd.type).run P w = .ok n w
class SliceT (P : Program) (T : Nat) (E : outParam Nat) (sz : outParam Nat) : Prop where
  und : P.underlying T = some (.slice E)
  size : ∀ w, (sizeOf E).run P w = .ok sz w
class ArrT (P : Program) (T : Nat) (n : outParam Nat) (E : outParam Nat) (sz : outParam Nat) : Prop where
  und : P.underlying T = some (.array n E)
  size : ∀ w, (sizeOf E).run P w = .ok sz w
class StrT (P : Program) (T : Nat) : Prop where
  und : P.underlying T = some .string
class IfaceT (P : Program) (T : Nat) : Prop where
  und : ∃ ms, P.underlying T = some (.interface ms)
class PtrT (P : Program) (T : Nat) : Prop where
  und : ∃ e n, P.underlying T = some (.pointer e) ∧ n ≠ 0 ∧ ∀ w, (sizeOf e).run P w = .ok n w
class MapT (P : Program) (T : Nat) (K : outParam Nat) (E : outParam Nat) : Prop where
  und : P.underlying T = some (.map K E)
class IntT (P : Program) (T : Nat) (k : outParam IntKind) : Prop where
  und : P.underlying T = some (.int k)
class BoolT (P : Program) (T : Nat) : Prop where
  und : P.underlying T = some .bool
class Concrete (P : Program) (T : Nat) : Prop where
  und : ∃ d, P.underlying T = some d ∧ ∀ ms, d ≠ .interface ms
class Comparable (P : Program) (T : Nat) : Prop where
  info : ∃ i, P.info? T = some i ∧ i.comparable = true
class ZeroV (P : Program) (T : Nat) (v : outParam Value) : Prop where
  run : ∀ w, (zeroValue T).run P w = .ok v w
class Enters (P : Program) (g : FuncId) : Prop where
  run : ∀ args w, (callFunc g args).run P w = .ok (.enter g args) w
class MethodOf (P : Program) (T : Nat) (name : String) (g : outParam FuncId) : Prop where
  run : ∀ v w, (method (P.types.size + Made.depth) T v name).run P w = .ok (g, v) w

/-! ## Parts -/
def cel (b : Nat) (l : List Value) (E : TypeId) (fz : Nat × Nat) : SL := pt b (.cells l.toArray E fz)
class HasCel (s : List SL) (b : Nat) (l : outParam (List Value)) (E : outParam TypeId) (fz : outParam (Nat × Nat)) : Prop where
  pull : ∃ r, Pull (cel b l E fz) s r
instance HasCel.tail {s : List SL} {b : Nat} {l : List Value} {E : TypeId} {fz : Nat × Nat} {A : SL} [h : HasCel s b l E fz] : HasCel (A :: s) b l E fz := ⟨let ⟨r, p⟩ := h.pull; ⟨_, .tail p⟩⟩
instance HasCel.head {s : List SL} {b : Nat} {l : List Value} {E : TypeId} {fz : Nat × Nat} : HasCel (cel b l E fz :: s) b l E fz := ⟨_, .head⟩
class HasOld (s : List SL) (V : World) : Prop where
  pull : ∃ r, Pull (old V) s r
instance HasOld.tail {s : List SL} {V : World} {A : SL} [h : HasOld s V] : HasOld (A :: s) V := ⟨let ⟨r, p⟩ := h.pull; ⟨_, .tail p⟩⟩
instance HasOld.head {s : List SL} {V : World} : HasOld (old V :: s) V := ⟨_, .head⟩
/-- 's' with another content in block 'b' is 'm'. -/
class SetCel (s : List SL) (b : Nat) (l : outParam (List Value)) (E : outParam TypeId) (fz : outParam (Nat × Nat)) (l' : List Value) (m : outParam (List SL)) : Prop where
  repl : Repl (cel b l E fz) (cel b l' E fz) s m
instance SetCel.tail {s m : List SL} {b : Nat} {l l' : List Value} {E : TypeId} {fz : Nat × Nat} {A : SL} [h : SetCel s b l E fz l' m] : SetCel (A :: s) b l E fz l' (A :: m) := ⟨.tail h.repl⟩
instance SetCel.head {s : List SL} {b : Nat} {l l' : List Value} {E : TypeId} {fz : Nat × Nat} : SetCel (cel b l E fz :: s) b l E fz l' (cel b l' E fz :: s) := ⟨.head⟩

theorem St.blk {W w : World} {s : List SL} {b : Nat} {l : List Value} {E : TypeId} {fz : Nat × Nat} (h : St W s w) [k : HasCel s b l E fz] : w.heap[b]? = some (.cells l.toArray E fz) := by
  obtain ⟨r, p⟩ := k.pull
  exact h.block p
theorem St.cell {W w : World} {s : List SL} {b : Nat} {l : List Value} {E : TypeId} {fz : Nat × Nat} (h : St W s w) [k : HasCel s b l E fz] {off : Nat} {v : Value} (hv : l[off]? = some v) :
    w.cell? ⟨b, off, none⟩ = some v := by
  simp [World.cell?, h.blk, hv]
theorem St.frz {W w : World} {s : List SL} {b : Nat} {l : List Value} {E : TypeId} {fz : Nat × Nat} (h : St W s w) [k : HasCel s b l E fz] (off : Nat) :
    w.frozen? ⟨b, off, none⟩ = (decide (fz.1 ≤ off) && decide (off < fz.2)) := by
  obtain ⟨lo, hi⟩ := fz
  simp [World.frozen?, h.blk]
theorem St.old {W V w : World} {s : List SL} (h : St W s w) [k : HasOld s V] {b : Nat} {o : Obj} (hb : V.heap[b]? = some o) : w.heap[b]? = some o := by
  obtain ⟨r, p⟩ := k.pull
  exact h.older p hb
theorem St.oldcell {W V w : World} {s : List SL} (h : St W s w) [k : HasOld s V] {a : Addr} {v : Value} (hb : V.cell? a = some v) : w.cell? a = some v := by
  unfold World.cell? at *
  cases e : V.heap[a.block]? with
  | none => rw [e] at hb; cases hb
  | some o => rw [e] at hb; rw [h.old e]; exact hb

abbrev mkS (l : List UInt8) : ByteArray := ⟨l.toArray⟩
def byteV (c : UInt8) : Value := .int .u8 c.toNat
abbrev ptr (b off : Nat) : Value := .pointer (some ⟨b, off, none⟩)

section
variable {P : Program} {W : World} {s : List SL} {f : Ev} {v u : Value} {x y z : Operand}

theorem rMove (hx : opv f x = some v) : Reads P W s f (.move x) v := fun N a w dst ty pos aft hE hS => by
  simp only [execOp, hE.eval hx]; rfl
theorem rAssign (hx : opv f x = some v) : Reads P W s f (.assign x) v := fun N a w dst ty pos aft hE hS => by
  simp only [execOp, hE.eval hx]; rfl
theorem rPickT (hc : opv f z = some (.bool true)) (hx : opv f x = some v) : Reads P W s f (.pick z x y) v := fun N a w dst ty pos aft hE hS => by
  simp only [execOp, hE.eval hc, hE.eval hx]; rfl
theorem rPickF (hc : opv f z = some (.bool false)) (hy : opv f y = some v) : Reads P W s f (.pick z x y) v := fun N a w dst ty pos aft hE hS => by
  simp only [execOp, hE.eval hc, hE.eval hy]; rfl

theorem run_v {S : Sem Value} {w w' : World} (h : S.run P w = .ok v w') : (do pure (Next.value (← S)) : Sem Next).run P w = .ok (.value v) w' := by
  rw [Sem.run_bind, h]; rfl
theorem run_u {S : Sem Unit} {w w' : World} (h : S.run P w = .ok () w') : (do S; pure Next.skip : Sem Next).run P w = .ok .skip w' := by
  rw [Sem.run_bind, h]; rfl
theorem run_loadAt {t : TypeId} [ht : OneCell P t] {a : Addr} {w : World} (h : w.cell? a = some v) : (Instr.loadAt t (.pointer (some a))).run P w = .ok v w := by
  simp [Instr.loadAt, Instr.sureAddr, loadVar, ht.agg, h]
theorem rLoad {t : TypeId} [ht : OneCell P t] {b off : Nat} {l : List Value} {E : TypeId} {fz : Nat × Nat} (hx : opv f x = some (ptr b off)) [hm : HasCel s b l E fz] (hv : l[off]? = some v) :
    Reads P W s f (.load t x) v := fun N a w dst ty pos aft hE hS => by
  have h := run_loadAt (P := P) (t := t) (hS.cell (b := b) (l := l) (E := E) (fz := fz) (off := off) hv)
  simp only [execOp, hE.eval hx]; exact run_v h
theorem rLoadO {t : TypeId} [ht : OneCell P t] {a : Addr} {V : World} (hx : opv f x = some (.pointer (some a))) [hm : HasOld s V] (hv : V.cell? a = some v) :
    Reads P W s f (.load t x) v := fun N a' w dst ty pos aft hE hS => by
  have h := run_loadAt (P := P) (t := t) (hS.oldcell hv)
  simp only [execOp, hE.eval hx]; exact run_v h
theorem rNil {a : Addr} (hx : opv f x = some (.pointer (some a))) : Reads P W s f (.nilCheck x) (.pointer (some a)) := fun N a w dst ty pos aft hE hS => by
  simp only [execOp, hE.eval hx]; rfl
theorem rNilI {t : TypeId} (hx : opv f x = some (.iface t v)) : Reads P W s f (.nilCheck x) (.iface t v) := fun N a w dst ty pos aft hE hS => by
  simp only [execOp, hE.eval hx]; rfl
theorem rNilF {g : FuncId} {fs cs : Array Value} (hx : opv f x = some (.func (.func g) fs cs)) : Reads P W s f (.nilCheck x) (.func (.func g) fs cs) := fun N a w dst ty pos aft hE hS => by
  simp only [execOp, hE.eval hx]; rfl
theorem add_addr (b off k : Nat) : (⟨b, off, none⟩ : Addr).add k = ⟨b, off + k, none⟩ := by
  unfold Addr.add
  split
  · rename_i h; subst h; rfl
  · rfl
theorem rField {T i k : Nat} [h : FieldAt P T i k] {b off : Nat} (hx : opv f x = some (ptr b off)) : Reads P W s f (.fieldAddr T x i) (ptr b (off + k)) := fun N a w dst ty pos aft hE hS => by
  obtain ⟨fs, fd, h1, h2, h3, n, h4, h5⟩ := h.has
  subst h3
  have h' : (Instr.fieldAt T (ptr b off) i).run P w = .ok (ptr b (off + fd.offset)) w := by
    simp [Instr.fieldAt, Instr.sureAddr, fieldPlace, underlying, h1, h2, h5, h4, add_addr]
  simp only [execOp, hE.eval hx]; exact run_v h'
theorem rNot {b : Bool} (hx : opv f x = some (.bool b)) {t : TypeId} : Reads P W s f (.unOp .not t x) (.bool !b) := fun N a w dst ty pos aft hE hS => by
  simp only [execOp, hE.eval hx]; rfl
theorem rExtract {vs : List Value} {i : Nat} (hx : opv f x = some (.tuple vs.toArray)) (hv : vs[i]? = some v) : Reads P W s f (.extract x i) v := fun N a w dst ty pos aft hE hS => by
  have h : (Instr.extract (.tuple vs.toArray) i).run P w = .ok v w := by simp [Instr.extract, hv]
  simp only [execOp, hE.eval hx]; exact run_v h
theorem rIface {T : Nat} [h : Concrete P T] (hx : opv f x = some v) : Reads P W s f (.makeInterface T x) (.iface T v) := fun N a w dst ty pos aft hE hS => by
  obtain ⟨d, h1, h2⟩ := h.und
  have : (Instr.makeInterface T v).run P w = .ok (.iface T v) w := by
    cases d <;> simp_all [Instr.makeInterface, underlying]
  simp only [execOp, hE.eval hx]; exact run_v this
theorem rFunc {fn : Fn} {xs ys : List Operand} {vs us : List Value} (h1 : opvs f xs = some vs) (h2 : opvs f ys = some us) : Reads P W s f (.makeFunc fn xs.toArray ys.toArray) (.func fn vs.toArray us.toArray) := fun N a w dst ty pos aft hE hS => by
  have e1 := hE.evals xs vs h1
  have e2 := hE.evals ys us h2
  subst e1 e2
  simp only [execOp, List.map_toArray]; exact run_v rfl

/-! integers -/
theorem rAdd {k : IntKind} {m n r : Int} {t t' : TypeId} (hx : opv f x = some (.int k m)) (hy : opv f y = some (.int k n)) (hr : k.wrap (m + n) = r) : Reads P W s f (.binOp .add t x y t') (.int k r) := fun N a w dst ty pos aft hE hS => by
  subst hr
  simp only [execOp, hE.eval hx, hE.eval hy]; refine run_v ?_
  simp [eqGuard, binOp, Op.intArith]
theorem rSub {k : IntKind} {m n r : Int} {t t' : TypeId} (hx : opv f x = some (.int k m)) (hy : opv f y = some (.int k n)) (hr : k.wrap (m - n) = r) : Reads P W s f (.binOp .sub t x y t') (.int k r) := fun N a w dst ty pos aft hE hS => by
  subst hr
  simp only [execOp, hE.eval hx, hE.eval hy]; refine run_v ?_
  simp [eqGuard, binOp, Op.intArith]
theorem rMul {k : IntKind} {m n r : Int} {t t' : TypeId} (hx : opv f x = some (.int k m)) (hy : opv f y = some (.int k n)) (hr : k.wrap (m * n) = r) : Reads P W s f (.binOp .mul t x y t') (.int k r) := fun N a w dst ty pos aft hE hS => by
  subst hr
  simp only [execOp, hE.eval hx, hE.eval hy]; refine run_v ?_
  simp [eqGuard, binOp, Op.intArith]
def cmpI : BinOp → Int → Int → Option Bool
  | .eql, m, n => some (m == n)
  | .neq, m, n => some (m != n)
  | .lss, m, n => some (decide (m < n))
  | .leq, m, n => some (decide (m ≤ n))
  | .gtr, m, n => some (decide (m > n))
  | .geq, m, n => some (decide (m ≥ n))
  | _, _, _ => none
theorem rCmp {k : IntKind} {m n : Int} {op : BinOp} {b : Bool} {t t' : TypeId} (hx : opv f x = some (.int k m)) (hy : opv f y = some (.int k n)) (hr : cmpI op m n = some b) : Reads P W s f (.binOp op t x y t') (.bool b) := fun N a w dst ty pos aft hE hS => by
  cases op <;> simp only [cmpI] at hr <;> first
    | (obtain rfl := Option.some.inj hr; simp only [execOp, hE.eval hx, hE.eval hy]; refine run_v ?_; simp [eqGuard, binOp, Op.intCmp])
    | cases hr
theorem rConvI {k j : IntKind} {n r : Int} {t t' : TypeId} [h : IntT P t k] [h' : IntT P t' j] (hx : opv f x = some (.int k n)) (hr : j.wrap n = r) : Reads P W s f (.convert t t' x) (.int j r) := fun N a w dst ty pos aft hE hS => by
  subst hr
  simp only [execOp, hE.eval hx]; refine run_v ?_
  simp [convert, underlying, h.und, h'.und, Conv.intToInt]

/-! strings -/
theorem rCat {l m : List UInt8} {t t' : TypeId} (hx : opv f x = some (.string (mkS l))) (hy : opv f y = some (.string (mkS m))) (hr : l.length + m.length ≤ 9223372036854775807) :
    Reads P W s f (.binOp .add t x y t') (.string (mkS (l ++ m))) := fun N a w dst ty pos aft hE hS => by
  have e : mkS l ++ mkS m = mkS (l ++ m) := by apply ByteArray.ext; simp
  have h : ¬ (((mkS l).size + (mkS m).size : Nat) : Int) > IntKind.i64.max := by
    have h1 : (mkS l).size = l.length := by simp [ByteArray.size]
    have h2 : (mkS m).size = m.length := by simp [ByteArray.size]
    have h3 : IntKind.i64.max = 9223372036854775807 := by decide
    rw [h1, h2, h3]; omega
  have h' : (Op.stringOp .add (mkS l) (mkS m)).run P w = .ok (.string (mkS (l ++ m))) w := by
    unfold Op.stringOp
    simp only [if_neg h]
    rw [e]; rfl
  have h2 : (binOp .add t (.string (mkS l)) (.string (mkS m))).run P w = .ok (.string (mkS (l ++ m))) w := h'
  have h3 : (eqGuard .add t x y (.string (mkS l)) (.string (mkS m))).run P w = .ok () w := rfl
  simp only [execOp, hE.eval hx, hE.eval hy]
  refine run_v ?_
  rw [Sem.run_bind, h3]
  exact h2
end
end Eng
end Go
end
section
namespace Go
namespace Eng
section
variable {P : Program} {W : World} {s m : List SL} {f : Ev} {v u : Value} {x y z : Operand}

/-! comparisons -/
theorem cmp_lssT {a b : Int} (h : a < b) : cmpI .lss a b = some true := by simp [cmpI, h]
theorem cmp_lssF {a b : Int} (h : b ≤ a) : cmpI .lss a b = some false := by simp [cmpI, h]
theorem cmp_leqT {a b : Int} (h : a ≤ b) : cmpI .leq a b = some true := by simp [cmpI, h]
theorem cmp_leqF {a b : Int} (h : b < a) : cmpI .leq a b = some false := by simp [cmpI, h]
theorem cmp_gtrT {a b : Int} (h : b < a) : cmpI .gtr a b = some true := by simp [cmpI, h]
theorem cmp_gtrF {a b : Int} (h : a ≤ b) : cmpI .gtr a b = some false := by simp [cmpI, h]
theorem cmp_geqT {a b : Int} (h : b ≤ a) : cmpI .geq a b = some true := by simp [cmpI, h]
theorem cmp_geqF {a b : Int} (h : a < b) : cmpI .geq a b = some false := by simp [cmpI, h]
theorem cmp_eqlT {a b : Int} (h : a = b) : cmpI .eql a b = some true := by simp [cmpI, h]
theorem cmp_eqlF {a b : Int} (h : a ≠ b) : cmpI .eql a b = some false := by simp [cmpI, h]
theorem cmp_neqT {a b : Int} (h : a ≠ b) : cmpI .neq a b = some true := by simp [cmpI, h]
theorem cmp_neqF {a b : Int} (h : a = b) : cmpI .neq a b = some false := by simp [cmpI, h]

theorem w64 {n : Int} (h0 : -9223372036854775808 ≤ n) (h1 : n ≤ 9223372036854775807) : IntKind.i64.wrap n = n := IntWalk.i64_in n ⟨h0, h1⟩
theorem w32 {n : Int} (h0 : -2147483648 ≤ n) (h1 : n ≤ 2147483647) : IntKind.i32.wrap n = n := IntWalk.i32_in n ⟨h0, h1⟩
theorem w8 {n : Int} (h0 : 0 ≤ n) (h1 : n ≤ 255) : IntKind.u8.wrap n = n := IntWalk.u8_in n ⟨h0, h1⟩
theorem wu32 {n : Int} (h0 : 0 ≤ n) (h1 : n ≤ 4294967295) : IntKind.u32.wrap n = n := IntWalk.u32_in n ⟨h0, h1⟩

theorem toList_mkS (l : List UInt8) : (mkS l).toList = l := by rw [ByteArray.toList_eq]
theorem size_mkS (l : List UInt8) : (mkS l).size = l.length := by simp [ByteArray.size]
theorem rStrEq {l k : List UInt8} {t t' : TypeId} (hx : opv f x = some (.string (mkS l))) (hy : opv f y = some (.string (mkS k))) {b : Bool} (hr : (l == k) = b) :
    Reads P W s f (.binOp .eql t x y t') (.bool b) := fun N a w dst ty pos aft hE hS => by
  subst hr
  simp only [execOp, hE.eval hx, hE.eval hy]; refine run_v ?_
  have h : binOp .eql t (.string (mkS l)) (.string (mkS k)) = pure (.bool ((mkS l).toList == (mkS k).toList)) := rfl
  rw [h, toList_mkS, toList_mkS]; rfl
theorem rStrNe {l k : List UInt8} {t t' : TypeId} (hx : opv f x = some (.string (mkS l))) (hy : opv f y = some (.string (mkS k))) {b : Bool} (hr : (l == k) = b) :
    Reads P W s f (.binOp .neq t x y t') (.bool !b) := fun N a w dst ty pos aft hE hS => by
  subst hr
  simp only [execOp, hE.eval hx, hE.eval hy]; refine run_v ?_
  have h : binOp .neq t (.string (mkS l)) (.string (mkS k)) = pure (.bool (!((mkS l).toList == (mkS k).toList))) := rfl
  rw [h, toList_mkS, toList_mkS]; rfl

/-- '==' and '!=' by the types' own equality -/
theorem run_equal {t : TypeId} {c d : Value} {b : Bool} {w : World} (h : ∀ n, (Op.equalIn (n + 2) t c d).run P w = .ok b w) : (Op.equal t c d).run P w = .ok b w := h 9998
theorem reads_eq {t t' : TypeId} {c d : Value} {b : Bool} (hx : opv f x = some c) (hy : opv f y = some d) (hb : binOp .eql t c d = (do pure (.bool (← Op.equal t c d))))
    (hg : ∀ w, (eqGuard .eql t x y c d).run P w = .ok () w) (h : ∀ w, St W s w → ∀ n, (Op.equalIn (n + 2) t c d).run P w = .ok b w) : Reads P W s f (.binOp .eql t x y t') (.bool b) := fun N a w dst ty pos aft hE hS => by
  simp only [execOp, hE.eval hx, hE.eval hy]; refine run_v ?_
  rw [Sem.run_bind, hg, Result.andThen_ok, hb, Sem.run_bind, run_equal (h w hS)]
  rfl
theorem reads_ne {t t' : TypeId} {c d : Value} {b : Bool} (hx : opv f x = some c) (hy : opv f y = some d) (hb : binOp .neq t c d = (do pure (.bool (!(← Op.equal t c d)))))
    (hg : ∀ w, (eqGuard .neq t x y c d).run P w = .ok () w) (h : ∀ w, St W s w → ∀ n, (Op.equalIn (n + 2) t c d).run P w = .ok b w) : Reads P W s f (.binOp .neq t x y t') (.bool !b) := fun N a w dst ty pos aft hE hS => by
  simp only [execOp, hE.eval hx, hE.eval hy]; refine run_v ?_
  rw [Sem.run_bind, hg, Result.andThen_ok, hb, Sem.run_bind, run_equal (h w hS)]
  rfl
theorem rBoolEq {p q : Bool} {t t' : TypeId} [h : BoolT P t] (hx : opv f x = some (.bool p)) (hy : opv f y = some (.bool q)) : Reads P W s f (.binOp .eql t x y t') (.bool (p == q)) := by
  exact reads_eq hx hy rfl (fun w => rfl) (fun w hS n => by simp [Op.equalIn, underlying, h.und])
theorem rBoolNe {p q : Bool} {t t' : TypeId} [h : BoolT P t] (hx : opv f x = some (.bool p)) (hy : opv f y = some (.bool q)) : Reads P W s f (.binOp .neq t x y t') (.bool (!(p == q))) := by
  exact reads_ne hx hy rfl (fun w => rfl) (fun w hS n => by simp [Op.equalIn, underlying, h.und])
/-- interface values against the literal nil -/
theorem rINil {t t' tt : TypeId} {c : Value} [h : IfaceT P t] (hx : opv f x = some (.iface tt c)) : Reads P W s f (.binOp .eql t x (.const .nilIface) t') (.bool false) := by
  obtain ⟨ms, hu⟩ := h.und
  exact reads_eq hx rfl rfl (fun w => rfl) (fun w hS n => by simp [Op.equalIn, underlying, hu])
theorem rINilN {t t' tt : TypeId} {c : Value} [h : IfaceT P t] (hx : opv f x = some (.iface tt c)) : Reads P W s f (.binOp .neq t x (.const .nilIface) t') (.bool (!false)) := by
  obtain ⟨ms, hu⟩ := h.und
  exact reads_ne hx rfl rfl (fun w => rfl) (fun w hS n => by simp [Op.equalIn, underlying, hu])
theorem rNilNil {t t' : TypeId} [h : IfaceT P t] (hx : opv f x = some .nilIface) : Reads P W s f (.binOp .eql t x (.const .nilIface) t') (.bool true) := by
  obtain ⟨ms, hu⟩ := h.und
  exact reads_eq hx rfl rfl (fun w => by cases x <;> rfl) (fun w hS n => by simp [Op.equalIn, underlying, hu])
theorem rNilNilN {t t' : TypeId} [h : IfaceT P t] (hx : opv f x = some .nilIface) : Reads P W s f (.binOp .neq t x (.const .nilIface) t') (.bool (!true)) := by
  obtain ⟨ms, hu⟩ := h.und
  exact reads_ne hx rfl rfl (fun w => by cases x <;> rfl) (fun w hS n => by simp [Op.equalIn, underlying, hu])
/-- nil against an interface value that is none; the same pointer in two -/
theorem rNilI2 {t t' tt : TypeId} {c : Value} [h : IfaceT P t] (hx : opv f x = some .nilIface) (hy : opv f y = some (.iface tt c)) : Reads P W s f (.binOp .eql t x y t') (.bool false) := by
  obtain ⟨ms, hu⟩ := h.und
  exact reads_eq hx hy rfl (fun w => rfl) (fun w hS n => by simp [Op.equalIn, underlying, hu])
theorem rISame {t t' tt : TypeId} {c : Addr} [h : IfaceT P t] [hp : PtrT P tt] [hk : Comparable P tt] (hx : opv f x = some (.iface tt (.pointer (some c)))) (hy : opv f y = some (.iface tt (.pointer (some c)))) :
    Reads P W s f (.binOp .eql t x y t') (.bool true) := by
  obtain ⟨ms, hu⟩ := h.und
  obtain ⟨e, n, hu2, hn, hsz⟩ := hp.und
  obtain ⟨i, hi, hc⟩ := hk.info
  exact reads_eq hx hy rfl (fun w => rfl) (fun w hS n => by simp [Op.equalIn, underlying, hu, hu2, typeInfo, hi, hc, hsz, sameAddr])
/-- pointers -/
theorem rPNil {t t' : TypeId} {a0 : Addr} [hp : PtrT P t] (hx : opv f x = some (.pointer (some a0))) (hy : opv f y = some (.pointer none)) : Reads P W s f (.binOp .eql t x y t') (.bool false) := by
  obtain ⟨e, n, hu, hn, hsz⟩ := hp.und
  exact reads_eq hx hy rfl (fun w => rfl) (fun w hS n => by simp [Op.equalIn, underlying, hu])
theorem rPNilN {t t' : TypeId} {a0 : Addr} [hp : PtrT P t] (hx : opv f x = some (.pointer (some a0))) (hy : opv f y = some (.pointer none)) : Reads P W s f (.binOp .neq t x y t') (.bool (!false)) := by
  obtain ⟨e, n, hu, hn, hsz⟩ := hp.und
  exact reads_ne hx hy rfl (fun w => rfl) (fun w hS n => by simp [Op.equalIn, underlying, hu])
theorem rNilP {t t' : TypeId} [hp : PtrT P t] (hx : opv f x = some (.pointer none)) (hy : opv f y = some (.pointer none)) : Reads P W s f (.binOp .eql t x y t') (.bool true) := by
  obtain ⟨e, n, hu, hn, hsz⟩ := hp.und
  exact reads_eq hx hy rfl (fun w => rfl) (fun w hS n => by simp [Op.equalIn, underlying, hu])
theorem rNilPN {t t' : TypeId} [hp : PtrT P t] (hx : opv f x = some (.pointer none)) (hy : opv f y = some (.pointer none)) : Reads P W s f (.binOp .neq t x y t') (.bool (!true)) := by
  obtain ⟨e, n, hu, hn, hsz⟩ := hp.und
  exact reads_ne hx hy rfl (fun w => rfl) (fun w hS n => by simp [Op.equalIn, underlying, hu])
theorem rPSame {t t' : TypeId} {a0 : Addr} [hp : PtrT P t] (hx : opv f x = some (.pointer (some a0))) (hy : opv f y = some (.pointer (some a0))) : Reads P W s f (.binOp .eql t x y t') (.bool true) := by
  obtain ⟨e, n, hu, hn, hsz⟩ := hp.und
  exact reads_eq hx hy rfl (fun w => rfl) (fun w hS n => by simp [Op.equalIn, underlying, hu, hsz, sameAddr])
theorem rPSameN {t t' : TypeId} {a0 : Addr} [hp : PtrT P t] (hx : opv f x = some (.pointer (some a0))) (hy : opv f y = some (.pointer (some a0))) : Reads P W s f (.binOp .neq t x y t') (.bool (!true)) := by
  obtain ⟨e, n, hu, hn, hsz⟩ := hp.und
  exact reads_ne hx hy rfl (fun w => rfl) (fun w hS n => by simp [Op.equalIn, underlying, hu, hsz, sameAddr])
/-- slices and maps against nil -/
theorem rSNil {t t' E z0 n c n' c' : Nat} {a0 : Addr} [hp : SliceT P t E z0] (hx : opv f x = some (.slice (some a0) n c)) (hy : opv f y = some (.slice none n' c')) : Reads P W s f (.binOp .eql t x y t') (.bool false) := by
  exact reads_eq hx hy rfl (fun w => rfl) (fun w hS n => by simp [Op.equalIn, underlying, hp.und])
theorem rSNilN {t t' E z0 n c n' c' : Nat} {a0 : Addr} [hp : SliceT P t E z0] (hx : opv f x = some (.slice (some a0) n c)) (hy : opv f y = some (.slice none n' c')) : Reads P W s f (.binOp .neq t x y t') (.bool (!false)) := by
  exact reads_ne hx hy rfl (fun w => rfl) (fun w hS n => by simp [Op.equalIn, underlying, hp.und])
theorem rNilS {t t' E z0 n c n' c' : Nat} [hp : SliceT P t E z0] (hx : opv f x = some (.slice none n c)) (hy : opv f y = some (.slice none n' c')) : Reads P W s f (.binOp .eql t x y t') (.bool true) := by
  exact reads_eq hx hy rfl (fun w => rfl) (fun w hS n => by simp [Op.equalIn, underlying, hp.und])
theorem rNilSN {t t' E z0 n c n' c' : Nat} [hp : SliceT P t E z0] (hx : opv f x = some (.slice none n c)) (hy : opv f y = some (.slice none n' c')) : Reads P W s f (.binOp .neq t x y t') (.bool (!true)) := by
  exact reads_ne hx hy rfl (fun w => rfl) (fun w hS n => by simp [Op.equalIn, underlying, hp.und])
theorem rMNil {t t' K0 E0 r : Nat} [hp : MapT P t K0 E0] (hx : opv f x = some (.map (some r))) (hy : opv f y = some (.map none)) : Reads P W s f (.binOp .eql t x y t') (.bool false) := by
  exact reads_eq hx hy rfl (fun w => rfl) (fun w hS n => by simp [Op.equalIn, underlying, hp.und])
theorem rNilM {t t' K0 E0 : Nat} [hp : MapT P t K0 E0] (hx : opv f x = some (.map none)) (hy : opv f y = some (.map none)) : Reads P W s f (.binOp .eql t x y t') (.bool true) := by
  exact reads_eq hx hy rfl (fun w => rfl) (fun w hS n => by simp [Op.equalIn, underlying, hp.und])

end
end Eng
end Go
end
section
namespace Go
namespace Eng
section
variable {P : Program} {W : World} {s m : List SL} {f : Ev} {v u : Value} {x y z : Operand}

/-! indexes and parts of strings and slices -/
theorem rIdxS {l : List UInt8} {i : Nat} {k : IntKind} {t : TypeId} {c : UInt8} [h : StrT P t] (hx : opv f x = some (.string (mkS l))) (hy : opv f y = some (.int k (i : Int))) (hc : l[i]? = some c) :
    Reads P W s f (.index t x y) (byteV c) := fun N a w dst ty pos aft hE hS => by
  have hlt := (List.getElem?_eq_some_iff.1 hc).1
  have e : (mkS l)[i]? = some c := by
    have h1 : i < (mkS l).size := by rw [size_mkS]; exact hlt
    rw [getElem?_pos (mkS l) i h1]
    have h2 : l[i] = c := by simpa [hlt] using hc
    exact congrArg some h2
  have h' : (Instr.index t (.string (mkS l)) (.int k (i : Int))).run P w = .ok (byteV c) w := by
    simp [Instr.index, asIntOf, underlying, h.und, e, byteV]
  simp only [execOp, hE.eval hx, hE.eval hy]; exact run_v h'
theorem extract_mkS (l : List UInt8) (i j : Nat) : (mkS l).extract i j = mkS ((l.drop i).take (j - i)) := by
  rw [ByteArray.extract_mk]
theorem run_sliceStr {t : TypeId} [h : StrT P t] {l : List UInt8} {lo hi : Option Value} {i j : Nat} {w : World}
    (hb : (Instr.sliceBounds false l.length l.length lo hi none).run P w = .ok (i, j, l.length) w) : (Instr.sliceAt t (.string (mkS l)) lo hi none).run P w = .ok (.string (mkS ((l.drop i).take (j - i)))) w := by
  rw [← extract_mkS, Instr.sliceAt, Sem.run_bind]
  have hu : ∀ w, (underlying t).run P w = .ok .string w := fun w => by simp [underlying, h.und]
  rw [hu, Result.andThen_ok]
  simp only [Instr.slice]
  rw [Sem.run_bind, hu, Result.andThen_ok]
  have hb' : (Instr.sliceBounds false (mkS l).size (mkS l).size lo hi none).run P w = .ok (i, j, l.length) w := by rw [size_mkS]; exact hb
  simp [hb']
theorem rSlcS0 {l : List UInt8} {j : Nat} {k : IntKind} {t : TypeId} [h : StrT P t] (hx : opv f x = some (.string (mkS l))) (hy : opv f y = some (.int k (j : Int))) (hj : j ≤ l.length) :
    Reads P W s f (.slice t x none (some y) none) (.string (mkS (l.take j))) := fun N a w dst ty pos aft hE hS => by
  have := run_sliceStr (P := P) (t := t) (l := l) (lo := none) (hi := some (.int k (j : Int))) (i := 0) (j := j) (w := w) (by simp [Instr.sliceBounds, Instr.sliceBound, asIntOf, hj])
  simp only [execOp, hE.eval hx, hE.eval hy, Option.map]; exact run_v this
theorem rSlcS1 {l : List UInt8} {i : Nat} {k : IntKind} {t : TypeId} [h : StrT P t] (hx : opv f x = some (.string (mkS l))) (hy : opv f y = some (.int k (i : Int))) (hj : i ≤ l.length) :
    Reads P W s f (.slice t x (some y) none none) (.string (mkS (l.drop i))) := fun N a w dst ty pos aft hE hS => by
  have := run_sliceStr (P := P) (t := t) (l := l) (lo := some (.int k (i : Int))) (hi := none) (i := i) (j := l.length) (w := w) (by simp [Instr.sliceBounds, Instr.sliceBound, asIntOf, hj])
  rw [List.take_of_length_le (by simp)] at this
  simp only [execOp, hE.eval hx, hE.eval hy, Option.map]; exact run_v this
theorem rSlcS2 {l : List UInt8} {i j : Nat} {k k' : IntKind} {t : TypeId} [h : StrT P t] (hx : opv f x = some (.string (mkS l))) (hy : opv f y = some (.int k (i : Int))) (hz : opv f z = some (.int k' (j : Int))) (hi : i ≤ j) (hj : j ≤ l.length) :
    Reads P W s f (.slice t x (some y) (some z) none) (.string (mkS ((l.drop i).take (j - i)))) := fun N a w dst ty pos aft hE hS => by
  have := run_sliceStr (P := P) (t := t) (l := l) (lo := some (.int k (i : Int))) (hi := some (.int k' (j : Int))) (i := i) (j := j) (w := w) (by simp [Instr.sliceBounds, Instr.sliceBound, asIntOf, hj, hi])
  simp only [execOp, hE.eval hx, hE.eval hy, hE.eval hz, Option.map]; exact run_v this

/-! slices -/
theorem rIdxA {t E z0 : Nat} [h : SliceT P t E z0] {b off n c i : Nat} {k : IntKind} (hx : opv f x = some (.slice (some ⟨b, off, none⟩) n c)) (hy : opv f y = some (.int k (i : Int))) (hi : i < n) :
    Reads P W s f (.indexAddr t x y) (ptr b (off + i * z0)) := fun N a w dst ty pos aft hE hS => by
  have h' : (Instr.indexAt t (.slice (some ⟨b, off, none⟩) n c) (.int k (i : Int))).run P w = .ok (ptr b (off + i * z0)) w := by
    simp [Instr.indexAt, asIntOf, underlying, h.und, h.size, add_addr, hi]
  simp only [execOp, hE.eval hx, hE.eval hy]; exact run_v h'
/-- elements of one cell -/
theorem rIdxA1 {t E : Nat} [h : SliceT P t E 1] {b off n c i : Nat} {k : IntKind} (hx : opv f x = some (.slice (some ⟨b, off, none⟩) n c)) (hy : opv f y = some (.int k (i : Int))) (hi : i < n) :
    Reads P W s f (.indexAddr t x y) (ptr b (off + i)) := by
  have := rIdxA (P := P) (W := W) (s := s) (t := t) hx hy hi
  rwa [Nat.mul_one] at this
/-- an array's element -/
theorem rIdxArr {t L E z0 : Nat} [h : ArrT P t L E z0] {b off i : Nat} {k : IntKind} (hx : opv f x = some (ptr b off)) (hy : opv f y = some (.int k (i : Int))) (hi : i < L) :
    Reads P W s f (.indexAddr t x y) (ptr b (off + i * z0)) := fun N a w dst ty pos aft hE hS => by
  have h' : (Instr.indexAt t (ptr b off) (.int k (i : Int))).run P w = .ok (ptr b (off + i * z0)) w := by
    simp [Instr.indexAt, Instr.sureAddr, asIntOf, underlying, h.und, h.size, add_addr, hi]
  simp only [execOp, hE.eval hx, hE.eval hy]; exact run_v h'
/-- where a part of a slice begins: at 'off + i', but at the old place if nothing stands behind 'i' -/
def slo (off i c : Nat) : Nat := if c = i then off else off + i
theorem slo_lt {off i c : Nat} (h : i < c) : slo off i c = off + i := by unfold slo; rw [if_neg (by omega)]
theorem slo_zero (off c : Nat) : slo off 0 c = off := by unfold slo; split <;> rfl
theorem run_sliceSl {t E : Nat} [h : SliceT P t E 1] {b off n c : Nat} {lo hi mx : Option Value} {i j m : Nat} {w : World}
    (hb : (Instr.sliceBounds true n c lo hi mx).run P w = .ok (i, j, m) w) : (Instr.sliceAt t (.slice (some ⟨b, off, none⟩) n c) lo hi mx).run P w = .ok (.slice (some ⟨b, slo off i m, none⟩) (j - i) (m - i)) w := by
  have hu : ∀ w, (underlying t).run P w = .ok (.slice E) w := fun w => by simp [underlying, h.und]
  rw [Instr.sliceAt, Sem.run_bind, hu, Result.andThen_ok]
  simp only [Instr.slice]
  rw [Sem.run_bind, hu, Result.andThen_ok]
  simp only
  rw [Sem.run_bind, hb, Result.andThen_ok]
  simp only
  rw [Sem.run_bind, h.size, Result.andThen_ok]
  unfold slo
  by_cases e : m = i <;> simp [e, add_addr]
theorem rSlc0 {t E : Nat} [h : SliceT P t E 1] {b off n c j : Nat} {k : IntKind} (hx : opv f x = some (.slice (some ⟨b, off, none⟩) n c)) (hy : opv f y = some (.int k (j : Int))) (hj : j ≤ c) :
    Reads P W s f (.slice t x none (some y) none) (.slice (some ⟨b, off, none⟩) j c) := fun N a w dst ty pos aft hE hS => by
  have := run_sliceSl (P := P) (t := t) (b := b) (off := off) (n := n) (c := c) (lo := none) (hi := some (.int k (j : Int))) (mx := none) (i := 0) (j := j) (m := c) (w := w) (by simp [Instr.sliceBounds, Instr.sliceBound, asIntOf, hj])
  simp only [slo_zero, Nat.sub_zero] at this
  simp only [execOp, hE.eval hx, hE.eval hy, Option.map]; exact run_v this
theorem rSlc1 {t E : Nat} [h : SliceT P t E 1] {b off n c i : Nat} {k : IntKind} (hx : opv f x = some (.slice (some ⟨b, off, none⟩) n c)) (hy : opv f y = some (.int k (i : Int))) (hi : i ≤ n) :
    Reads P W s f (.slice t x (some y) none none) (.slice (some ⟨b, slo off i c, none⟩) (n - i) (c - i)) := fun N a w dst ty pos aft hE hS => by
  have := run_sliceSl (P := P) (t := t) (b := b) (off := off) (n := n) (c := c) (lo := some (.int k (i : Int))) (hi := none) (mx := none) (i := i) (j := n) (m := c) (w := w) (by simp [Instr.sliceBounds, Instr.sliceBound, asIntOf, hi])
  simp only [execOp, hE.eval hx, hE.eval hy, Option.map]; exact run_v this
theorem rSlc2 {t E : Nat} [h : SliceT P t E 1] {b off n c i j : Nat} {k k' : IntKind} (hx : opv f x = some (.slice (some ⟨b, off, none⟩) n c)) (hy : opv f y = some (.int k (i : Int))) (hz : opv f z = some (.int k' (j : Int))) (hi : i ≤ j) (hj : j ≤ c) :
    Reads P W s f (.slice t x (some y) (some z) none) (.slice (some ⟨b, slo off i c, none⟩) (j - i) (c - i)) := fun N a w dst ty pos aft hE hS => by
  have := run_sliceSl (P := P) (t := t) (b := b) (off := off) (n := n) (c := c) (lo := some (.int k (i : Int))) (hi := some (.int k' (j : Int))) (mx := none) (i := i) (j := j) (m := c) (w := w) (by simp [Instr.sliceBounds, Instr.sliceBound, asIntOf, hi, hj])
  simp only [execOp, hE.eval hx, hE.eval hy, hE.eval hz, Option.map]; exact run_v this

/-! len, cap, min, max -/
theorem rLenS {t ty0 : TypeId} [h : StrT P t] {l : List UInt8} (hx : opv f x = some (.string (mkS l))) : Reads P W s f (.call { callee := .builtin .len, args := #[x], argTypes := #[t] }) (.int .i64 (l.length : Int)) := fun N a w dst ty pos aft hE hS => by
  have : (Builtin.len_ #[t] ty #[.string (mkS l)]).run P w = .ok (.int .i64 (l.length : Int)) w := by
    simp [Builtin.len_, underlying, h.und, goInt, size_mkS]
  rw [BigFrame.execOp_builtin, BigFrame.builtin_len]
  simp only [List.map_toArray, List.map_cons, List.map_nil, hE.eval hx]; exact run_v this
theorem rLen {t E z0 : Nat} [h : SliceT P t E z0] {p : Option Addr} {n c : Nat} (hx : opv f x = some (.slice p n c)) : Reads P W s f (.call { callee := .builtin .len, args := #[x], argTypes := #[t] }) (.int .i64 (n : Int)) := fun N a w dst ty pos aft hE hS => by
  have : (Builtin.len_ #[t] ty #[.slice p n c]).run P w = .ok (.int .i64 (n : Int)) w := by
    simp [Builtin.len_, underlying, h.und, goInt]
  rw [BigFrame.execOp_builtin, BigFrame.builtin_len]
  simp only [List.map_toArray, List.map_cons, List.map_nil, hE.eval hx]; exact run_v this
theorem rCap {t E z0 : Nat} [h : SliceT P t E z0] {p : Option Addr} {n c : Nat} (hx : opv f x = some (.slice p n c)) : Reads P W s f (.call { callee := .builtin .cap, args := #[x], argTypes := #[t] }) (.int .i64 (c : Int)) := fun N a w dst ty pos aft hE hS => by
  have : (Builtin.cap_ #[t] ty #[.slice p n c]).run P w = .ok (.int .i64 (c : Int)) w := by
    simp [Builtin.cap_, underlying, h.und, goInt]
  rw [BigFrame.execOp_builtin, BigFrame.builtin_cap]
  simp only [List.map_toArray, List.map_cons, List.map_nil, hE.eval hx]; exact run_v this
theorem rMin {t t' : Nat} {k k' : IntKind} {m n r : Int} (hx : opv f x = some (.int k m)) (hy : opv f y = some (.int k' n)) (hr : (if n < m then n else m) = r) : Reads P W s f (.call { callee := .builtin .min, args := #[x, y], argTypes := #[t, t'] }) (.int k r) := fun N a w dst ty pos aft hE hS => by
  subst hr
  have : (Builtin.min_ #[t, t'] ty #[.int k m, .int k' n]).run P w = .ok (.int k (if n < m then n else m)) w := by
    simp [Builtin.min_, Builtin.min2]
  rw [BigFrame.execOp_builtin, BigFrame.builtin_min]
  simp only [List.map_toArray, List.map_cons, List.map_nil, hE.eval hx, hE.eval hy]; exact run_v this
theorem rMax {t t' : Nat} {k k' : IntKind} {m n r : Int} (hx : opv f x = some (.int k m)) (hy : opv f y = some (.int k' n)) (hr : (if m < n then n else m) = r) : Reads P W s f (.call { callee := .builtin .max, args := #[x, y], argTypes := #[t, t'] }) (.int k r) := fun N a w dst ty pos aft hE hS => by
  subst hr
  have : (Builtin.max_ #[t, t'] ty #[.int k m, .int k' n]).run P w = .ok (.int k (if m < n then n else m)) w := by
    simp [Builtin.max_, Builtin.max2]
  rw [BigFrame.execOp_builtin, BigFrame.builtin_max]
  simp only [List.map_toArray, List.map_cons, List.map_nil, hE.eval hx, hE.eval hy]; exact run_v this
end
end Eng
end Go
end
section
namespace Go
namespace Eng

class ElemI (P : Program) (E : Nat) (sz by_ : outParam Nat) (z : outParam Value) : Prop where
  info : ∃ i, P.info? E = some i ∧ i.size = sz ∧ i.bytes = by_ ∧ i.zero = some z
class AggT (P : Program) (T : Nat) (n : outParam Nat) : Prop where
  agg : ∀ w, (isAgg T).run P w = .ok true w
  size : ∀ w, (sizeOf T).run P w = .ok n w
def frzd (fz : Nat × Nat) (off : Nat) : Bool := Nat.ble fz.1 off && Nat.blt off fz.2
theorem frzd_eq (fz : Nat × Nat) (off : Nat) : (decide (fz.1 ≤ off) && decide (off < fz.2)) = frzd fz off := by
  have h1 : decide (fz.1 ≤ off) = Nat.ble fz.1 off := by rw [Bool.eq_iff_iff]; simp
  have h2 : decide (off < fz.2) = Nat.blt off fz.2 := by rw [Bool.eq_iff_iff]; simp
  unfold frzd
  rw [h1, h2]

/-- 'vs' written into 'l' from place 'o' on -/
def putL : List Value → Nat → List Value → List Value
  | l, _, [] => l
  | l, o, v :: vs => putL (l.set o v) (o + 1) vs
theorem length_putL : ∀ (vs l : List Value) (o : Nat), (putL l o vs).length = l.length
  | [], _, _ => rfl
  | v :: vs, l, o => by simp [putL, length_putL vs]
theorem putL_eq : ∀ (vs l : List Value) (o : Nat), o + vs.length ≤ l.length → putL l o vs = l.take o ++ vs ++ l.drop (o + vs.length)
  | [], l, o, _ => by simp [putL]
  | v :: vs, l, o, h => by
    simp only [List.length_cons] at h
    rw [putL, putL_eq vs _ _ (by simp; omega)]
    have ho : o < l.length := by omega
    have e1 : (l.set o v).take (o + 1) = l.take o ++ [v] := by
      rw [List.take_succ_eq_append_getElem (by simpa using ho)]
      simp [List.take_set_of_le]
    have e2 : (l.set o v).drop (o + 1 + vs.length) = l.drop (o + 1 + vs.length) := by rw [List.drop_set_of_lt (by omega)]
    rw [e1, e2]
    simp [Nat.add_assoc, Nat.add_comm 1]

section
variable {P : Program} {W V w : World} {s m r : List SL} {f : Ev} {v u : Value} {x y z : Operand}

theorem setCell_eq {b off : Nat} {l : List Value} {E : TypeId} {fz : Nat × Nat} (h : w.heap[b]? = some (.cells l.toArray E fz)) (v : Value) :
    w.setCell ⟨b, off, none⟩ v = { w with heap := w.heap.setIfInBounds b (.cells (l.set off v).toArray E fz) } := by
  have hlt := (Array.getElem?_eq_some_iff.1 h).1
  have hget : w.heap[b] = .cells l.toArray E fz := (Array.getElem?_eq_some_iff.1 h).2
  unfold World.setCell
  congr 1
  apply Array.ext
  · simp
  · intro i h1 h2
    by_cases e : b = i
    · subst e; simp [Array.getElem_modify, hget]
    · simp only [Array.getElem_modify, e, if_false]
      have h3 : (w.heap.setIfInBounds b (.cells (l.set off v).toArray E fz))[i]? = w.heap[i]? := Array.getElem?_setIfInBounds_ne e
      rw [Array.getElem?_eq_getElem h2, Array.getElem?_eq_getElem (by simpa using h1)] at h3
      exact (Option.some.inj h3).symm
theorem run_store1 {b off : Nat} {l : List Value} {E : TypeId} {fz : Nat × Nat} (hS : St W s w) [k : HasCel s b l E fz] (ho : l[off]? = some u) (hz : frzd fz off = false) (hv : v.oneCell' = true) :
    (store ⟨b, off, none⟩ v).run P w = .ok () { w with heap := w.heap.setIfInBounds b (.cells (l.set off v).toArray E fz) } := by
  rw [run_store P w _ v _ hv, hS.cell ho]
  simp only [hS.frz, frzd_eq, hz, Bool.false_eq_true, if_false]
  rw [setCell_eq hS.blk]
theorem cells_one (hv : v.oneCell' = true) : v.cells = #[v] := by cases v <;> first | rfl | (simp [Value.oneCell'] at hv)
theorem run_storeAt {t : TypeId} [ht : OneCell P t] {b off : Nat} {l : List Value} {E : TypeId} {fz : Nat × Nat} (hS : St W s w) [k : HasCel s b l E fz] (ho : l[off]? = some u) (hz : frzd fz off = false) (hv : v.oneCell' = true) :
    (Instr.storeAt t (ptr b off) v).run P w = .ok () { w with heap := w.heap.setIfInBounds b (.cells (l.set off v).toArray E fz) } := by
  have e : (⟨b, off, none⟩ : Addr).add 0 = ⟨b, off, none⟩ := rfl
  simp only [Instr.storeAt, Instr.sureAddr, storeVar, cells_one hv, storeCells, Sem.run_bind, Sem.run_pure, Result.andThen_ok, ht.size, e]
  simp
  rw [run_store1 hS ho hz hv]
theorem dStore {t : TypeId} [ht : OneCell P t] {b off : Nat} {l : List Value} {E : TypeId} {fz : Nat × Nat} (hx : opv f x = some (ptr b off)) (hy : opv f y = some v) [k : SetCel s b l E fz (l.set off v) m] [hh : HasCel s b l E fz] (ho : l[off]? = some u) (hz : frzd fz off = false) (hv : v.oneCell' = true) :
    Does P W s f (.store t x y) (fun _ w' => St W m w') := fun N a w dst ty pos aft hE hS => by
  have h := run_storeAt (P := P) (t := t) hS (k := hh) ho hz hv
  refine ⟨undef, _, .inr ⟨rfl, ?_⟩, hS.write k.repl⟩
  simp only [execOp, hE.eval hx, hE.eval hy]; exact run_u h

/-- several cells -/
theorem run_storeMany {b : Nat} {E : TypeId} {fz : Nat × Nat} : ∀ (vs : List Value) (l : List Value) (o i : Nat) (w : World) (r : List SL), St W (cel b l E fz :: r) w → o + i + vs.length ≤ l.length → (∀ j, o + i ≤ j → j < o + i + vs.length → frzd fz j = false) → (∀ v ∈ vs, v.oneCell' = true) →
    ∃ w', (storeCells ⟨b, o, none⟩ vs i).run P w = .ok () w' ∧ St W (cel b (putL l (o + i) vs) E fz :: r) w'
  | [], l, o, i, w, r, hS, _, _, _ => ⟨w, rfl, hS⟩
  | v :: vs, l, o, i, w, r, hS, hl, hz, hv => by
    simp only [List.length_cons] at hl hz
    have hold : l[o + i]? = some l[o + i] := List.getElem?_eq_getElem (by omega)
    have h1 := run_store1 (P := P) (b := b) (E := E) (fz := fz) hS hold (hz (o + i) (Nat.le_refl _) (by omega)) (hv v (List.mem_cons_self ..))
    have hS' := hS.write (o' := .cells (l.set (o + i) v).toArray E fz) (m := cel b (l.set (o + i) v) E fz :: r) .head
    obtain ⟨w', h2, h3⟩ := run_storeMany vs (l.set (o + i) v) o (i + 1) _ r hS' (by simp; omega) (fun j h1 h2 => hz j (by omega) (by omega)) (fun u hu => hv u (List.mem_cons_of_mem _ hu))
    refine ⟨w', ?_, by rw [putL]; exact h3⟩
    rw [storeCells, Sem.run_bind, add_addr, h1, Result.andThen_ok]
    exact h2
theorem dStoreN {t n : Nat} [ht : AggT P t n] {b off : Nat} {l vs : List Value} {E : TypeId} {fz : Nat × Nat} (hx : opv f x = some (ptr b off)) (hy : opv f y = some (.agg vs.toArray)) (hp : Pull (cel b l E fz) s r) (hn : vs.length = n) (ho : off + n ≤ l.length) (hz : ∀ j, off ≤ j → j < off + n → frzd fz j = false) (hv : ∀ v ∈ vs, v.oneCell' = true) :
    Does P W s f (.store t x y) (fun _ w' => St W (cel b (putL l off vs) E fz :: r) w') := fun N a w dst ty pos aft hE hS => by
  subst hn
  obtain ⟨w', h1, h2⟩ := run_storeMany (P := P) vs l off 0 w r (hS.pull hp) (by omega) (fun j h1 h2 => hz j (by omega) (by omega)) hv
  refine ⟨undef, w', .inr ⟨rfl, ?_⟩, h2⟩
  simp only [execOp, hE.eval hx, hE.eval hy]
  refine run_u ?_
  have e : (Value.agg vs.toArray).cells = vs.toArray := rfl
  simp only [Instr.storeAt, Instr.sureAddr, storeVar, e, Sem.run_bind, Sem.run_pure, Result.andThen_ok, ht.size]
  simpa using h1
theorem rLoadN {t n : Nat} [ht : AggT P t n] {b off : Nat} {l : List Value} {E : TypeId} {fz : Nat × Nat} (hx : opv f x = some (ptr b off)) [hm : HasCel s b l E fz] (ho : Nat.ble (off + n) l.length = true) :
    Reads P W s f (.load t x) (.agg ((l.drop off).take n).toArray) := fun N a w dst ty pos aft hE hS => by
  have ho : off + n ≤ l.length := by simpa using ho
  have h : (loadCells ⟨b, off, none⟩ ((l.drop off).take n).length).run P w = .ok ((l.drop off).take n).toArray w := run_loadCells_list w ⟨b, off, none⟩ ((l.drop off).take n) (fun j v hj => by
    rw [add_addr]
    have hlt := (List.getElem?_eq_some_iff.1 hj).1
    rw [List.length_take, List.length_drop] at hlt
    rw [List.getElem?_take_of_lt (by omega), List.getElem?_drop] at hj
    exact hS.cell hj)
  rw [List.length_take, List.length_drop, Nat.min_eq_left (by omega)] at h
  have h' : (Instr.loadAt t (ptr b off)).run P w = .ok (.agg ((l.drop off).take n).toArray) w := by
    simp only [Instr.loadAt, Instr.sureAddr, loadVar, Sem.run_bind, Sem.run_pure, Result.andThen_ok, ht.agg, if_true, ht.size, h]
  simp only [execOp, hE.eval hx]; exact run_v h'

/-! new memory -/
theorem dAlloc {t : TypeId} {z0 : Value} [h : ZeroV P t z0] : Does P W s f (.alloc t) (fun v w' => ∃ b, v = ptr b 0 ∧ St W (cel b z0.cells.toList t (0, 0) :: s) w') := fun N a w dst ty pos aft hE hS => by
  refine ⟨ptr w.heap.size 0, w.alloc (.cells z0.cells t), .inl ?_, w.heap.size, rfl, by have := hS.alloc (.cells z0.cells.toList.toArray t); simpa [cel] using this⟩
  simp only [execOp]; refine run_v ?_
  simp only [Instr.alloc, Sem.run_bind, h.run, Result.andThen_ok]
  rfl
theorem dBox {t : TypeId} (hx : opv f x = some v) : Does P W s f (.box t x) (fun u w' => ∃ b, u = ptr b 0 ∧ St W (cel b v.cells.toList t (0, 0) :: s) w') := fun N a w dst ty pos aft hE hS => by
  refine ⟨ptr w.heap.size 0, w.alloc (.cells v.cells t), .inl ?_, w.heap.size, rfl, by have := hS.alloc (.cells v.cells.toList.toArray t); simpa [cel] using this⟩
  simp only [execOp, hE.eval hx]; exact run_v rfl
theorem dMap {t : TypeId} : Does P W s f (.makeMap t none) (fun u w' => ∃ b, u = .map (some b) ∧ St W (pt b (.map #[] 0) :: s) w') := fun N a w dst ty pos aft hE hS =>
  ⟨.map (some w.heap.size), w.alloc (.map #[] 0), .inl (by simp only [execOp]; exact run_v rfl), w.heap.size, rfl, hS.alloc _⟩
theorem dMapN {t K E : Nat} {k : IntKind} {n : Int} [h : MapT P t K E] (hx : opv f x = some (.int k n)) : Does P W s f (.makeMap t (some x)) (fun u w' => ∃ b, u = .map (some b) ∧ St W (pt b (.map #[] 0) :: s) w') := fun N a w dst ty pos aft hE hS => by
  refine ⟨.map (some w.heap.size), w.alloc (.map #[] 0), .inl ?_, w.heap.size, rfl, hS.alloc _⟩
  simp only [execOp, Option.map, hE.eval hx]
  refine run_v ?_
  simp [Instr.makeMap, underlying, h.und, asInt, asIntOf]

class BuildT (P : Program) (T : Nat) (places : outParam (List (Nat × Nat))) (zero : outParam (List Value)) : Prop where
  run : ∀ (parts : List (Nat × Value)) (cs : List Value) w, Instr.fill (fun i => places[i]?) zero.toArray parts = some cs.toArray → (Instr.build T parts.toArray).run P w = .ok (.agg cs.toArray) w
/-- 'parts' laid into 'cells' at their places -/
def fillL (places : List (Nat × Nat)) : List Value → List (Nat × Value) → Option (List Value)
  | cs, [] => some cs
  | cs, (i, v) :: rest => match places[i]? with
    | none => none
    | some (off, size) => bif Nat.beq v.cells.toList.length size && Nat.ble (off + v.cells.toList.length) cs.length then fillL places (putL cs off v.cells.toList) rest else none
def partsV (f : Ev) : List (Nat × Operand) → Option (List (Nat × Value))
  | [] => some []
  | (i, x) :: l => match opv f x, partsV f l with
    | some v, some r => some ((i, v) :: r)
    | _, _ => none
theorem partsV_eq {N : Nat} {a : Act} (hE : Env N f a) : ∀ (l : List (Nat × Operand)) (r : List (Nat × Value)), partsV f l = some r → l.map (fun (i, x) => (i, a.eval x)) = r
  | [], r, h => by cases h; rfl
  | (i, x) :: l, r, h => by
    unfold partsV at h
    cases h1 : opv f x with
    | none => rw [h1] at h; cases h
    | some v =>
      cases h2 : partsV f l with
      | none => rw [h1, h2] at h; cases h
      | some r' =>
        rw [h1, h2] at h
        obtain rfl := Option.some.inj h
        simp [hE.eval h1, partsV_eq hE l r' h2]
theorem foldl_set : ∀ (cs : List Value) (l : List Value) (off k : Nat), (cs.zipIdx k).foldl (fun (acc : Array Value) (p : Value × Nat) => acc.setIfInBounds (off + p.2) p.1) l.toArray = (putL l (off + k) cs).toArray
  | [], l, off, k => rfl
  | c :: cs, l, off, k => by
    simp only [List.zipIdx_cons, List.foldl_cons, putL]
    have := foldl_set cs (l.set (off + k) c) off (k + 1)
    rw [List.setIfInBounds_toArray]
    rw [this, Nat.add_assoc]
theorem fill_of {places : List (Nat × Nat)} : ∀ (parts : List (Nat × Value)) (cs cs' : List Value), fillL places cs parts = some cs' → Instr.fill (fun i => places[i]?) cs.toArray parts = some cs'.toArray
  | [], cs, cs', h => by cases h; rfl
  | (i, v) :: rest, cs, cs', h => by
    unfold fillL at h
    unfold Instr.fill
    cases hp : places[i]? with
    | none => rw [hp] at h; cases h
    | some os =>
      obtain ⟨off, size⟩ := os
      rw [hp] at h
      simp only at h ⊢
      cases hb : (Nat.beq v.cells.toList.length size && Nat.ble (off + v.cells.toList.length) cs.length) with
      | false => rw [hb] at h; cases h
      | true =>
        rw [hb] at h
        simp only [cond_true] at h
        simp only [Bool.and_eq_true] at hb
        have h1 : v.cells.size = size := by have := Nat.eq_of_beq_eq_true hb.1; simpa using this
        have h2 : off + v.cells.size ≤ cs.length := by simpa using hb.2
        have h3 : ¬ ((decide (v.cells.size ≠ size) || decide (off + v.cells.size > cs.toArray.size)) = true) := by simp [h1]; omega
        rw [if_neg h3]
        have e : v.cells.zipIdx.foldl (fun cs (x : Value × Nat) => cs.setIfInBounds (off + x.2) x.1) cs.toArray = (putL cs off v.cells.toList).toArray := by
          have := foldl_set v.cells.toList cs off 0
          simp only [Nat.add_zero] at this
          rw [← this, ← Array.foldl_toList]
          simp [Array.toList_zipIdx]
        have := fill_of rest _ _ h
        rw [← e] at this
        exact this
theorem rBuild {T : Nat} {places : List (Nat × Nat)} {zero cs : List Value} [h : BuildT P T places zero] {ps : List (Nat × Operand)} {vs : List (Nat × Value)} (hp : partsV f ps = some vs) (hc : fillL places zero vs = some cs) :
    Reads P W s f (.build T ps.toArray) (.agg cs.toArray) := fun N a w dst ty pos aft hE hS => by
  have h1 := h.run vs cs w (fill_of _ _ _ hc)
  have e : ps.toArray.map (fun (p : Nat × Operand) => (p.1, a.eval p.2)) = vs.toArray := by
    rw [List.map_toArray, ← partsV_eq hE ps vs hp]
  simp only [execOp]
  rw [e]
  exact run_v h1

/-! calls -/
theorem gCall {g : FuncId} [h : Enters P g] {xs : List Operand} {ats : Array TypeId} {vs : List Value} (hv : opvs f xs = some vs) : Goes P W s f (.call { callee := .value (.func g), args := xs.toArray, argTypes := ats }) g vs :=
  fun N a w dst ty pos aft hE hS => by
    have e := hE.evals xs vs hv
    have h1 := h.run vs.toArray w
    simp only [execOp, resolve, Deferred.ofValue, Act.eval, invoke, List.map_toArray, Sem.run_bind, Sem.run_pure, Result.andThen_ok]
    simp only [e] 
    simpa using h1
/-- a closure's -/
theorem gCallV {g : FuncId} [h : Enters P g] {c : Operand} {caps : List Value} {xs : List Operand} {ats : Array TypeId} {vs : List Value} (hc : opv f c = some (.func (.func g) #[] caps.toArray)) (hv : opvs f xs = some vs) :
    Goes P W s f (.call { callee := .value c, args := xs.toArray, argTypes := ats }) g (vs ++ caps) := fun N a w dst ty pos aft hE hS => by
  have e := hE.evals xs vs hv
  have h1 := h.run (vs ++ caps).toArray w
  simp only [execOp, resolve, hE.eval hc, Deferred.ofValue, invoke, List.map_toArray, Sem.run_bind, Sem.run_pure, Result.andThen_ok, e]
  simpa using h1
/-- a method, behind an interface value -/
theorem gInv {T : Nat} {name : String} {g : FuncId} [hm : MethodOf P T name g] [h : Enters P g] {c : Operand} {recv : Value} {xs : List Operand} {ats : Array TypeId} {vs : List Value} (hc : opv f c = some (.iface T recv)) (hv : opvs f xs = some vs) :
    Goes P W s f (.call { callee := .invoke c name, args := xs.toArray, argTypes := ats }) g (recv :: vs) := fun N a w dst ty pos aft hE hS => by
  have e := hE.evals xs vs hv
  have h1 := h.run (recv :: vs).toArray w
  have h2 : (callMethod (.iface T recv) name vs.toArray).run P w = .ok (.enter g (recv :: vs).toArray) w := by
    simp only [callMethod, Sem.run_bind, run_program, Result.andThen_ok, hm.run]
    rw [show (#[recv] ++ vs.toArray : Array Value) = (recv :: vs).toArray by simp]
    exact h1
  have e2 : ((#[Value.iface T recv] ++ vs.toArray).extract 1 (#[Value.iface T recv] ++ vs.toArray).size) = vs.toArray := by simp
  simp only [execOp, resolve, hE.eval hc, List.map_toArray, Sem.run_bind, Sem.run_pure, Result.andThen_ok, invoke]
  rw [e]
  simp only [e2]
  simpa using h2
end
end Eng
end Go
end

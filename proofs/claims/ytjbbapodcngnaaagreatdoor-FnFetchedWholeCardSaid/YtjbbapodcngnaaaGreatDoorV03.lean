/-
  Steps on the way to the cards of laws.FnFetched and laws.FnFetchedWhole; the conditions of each are the hypotheses that it names. In order:
  What operations do to a heap in parts (2): rows of bytes, append, copy, conversions, ranging over a string.
  What operations do to a heap in parts (3): append, copy, make, literals of slices, ranging over a string.
  What operations do to a heap in parts (4): copy, make, literals of slices, ranging over a string, maps, asserted types.
  What operations do to a heap in parts (5): maps with strings as keys, asserted types, some of the library's functions without a body.
-/
import Derived.Test.YtjbbapodcngnaaaGreatDoorV02
import Derived.Laws.BytesString
import Derived.Lib.ConvBytes
import Derived.Laws.Externs
set_option linter.all false
section
namespace Go
namespace Eng

def byl (c : List UInt8) : List Value := c.map byteV
theorem length_byl (c : List UInt8) : (byl c).length = c.length := by simp [byl]
theorem byl_append (c d : List UInt8) : byl (c ++ d) = byl c ++ byl d := by simp [byl]
theorem byl_take (c : List UInt8) (n : Nat) : byl (c.take n) = (byl c).take n := by simp [byl]
theorem byl_drop (c : List UInt8) (n : Nat) : byl (c.drop n) = (byl c).drop n := by simp [byl]
theorem byl_get {c : List UInt8} {i : Nat} {b : UInt8} (h : c[i]? = some b) : (byl c)[i]? = some (byteV b) := by simp [byl, h]
theorem byl_one (c : List UInt8) : ∀ v ∈ byl c, v.oneCell' = true := by
  intro v hv
  obtain ⟨b, _, rfl⟩ := List.mem_map.1 hv
  rfl
theorem byl_put {c d : List UInt8} {o : Nat} (h : o + d.length ≤ c.length) : putL (byl c) o (byl d) = byl (c.take o ++ d ++ c.drop (o + d.length)) := by
  rw [putL_eq _ _ _ (by simpa [length_byl] using h), length_byl, byl_append, byl_append, byl_take, byl_drop]
theorem byl_set {c : List UInt8} {o : Nat} {b : UInt8} : (byl c).set o (byteV b) = byl (c.set o b) := by simp [byl, List.map_set]

/-- a block of bytes, none of them frozen -/
def bys (E b : Nat) (c : List UInt8) : SL := fun h => ∃ fz : Nat × Nat, (∀ i, i < c.length → frzd fz i = false) ∧ cel b (byl c) E fz h
class HasBys (s : List SL) (E : outParam Nat) (b : Nat) (c : outParam (List UInt8)) : Prop where
  pull : ∃ r, Pull (bys E b c) s r
instance HasBys.tail {s : List SL} {E b : Nat} {c : List UInt8} {A : SL} [h : HasBys s E b c] : HasBys (A :: s) E b c := ⟨let ⟨r, p⟩ := h.pull; ⟨_, .tail p⟩⟩
instance HasBys.head {s : List SL} {E b : Nat} {c : List UInt8} : HasBys (bys E b c :: s) E b c := ⟨_, .head⟩
class SetBys (s : List SL) (E : outParam Nat) (b : Nat) (c : outParam (List UInt8)) (c' : List UInt8) (m : outParam (List SL)) : Prop where
  repl : Repl (bys E b c) (bys E b c') s m
instance SetBys.tail {s m : List SL} {E b : Nat} {c c' : List UInt8} {A : SL} [h : SetBys s E b c c' m] : SetBys (A :: s) E b c c' (A :: m) := ⟨.tail h.repl⟩
instance SetBys.head {s : List SL} {E b : Nat} {c c' : List UInt8} : SetBys (bys E b c :: s) E b c c' (bys E b c' :: s) := ⟨.head⟩

section
variable {P : Program} {W V w : World} {s m r : List SL} {f : Ev} {v u : Value} {x y z : Operand}

theorem St.open_bys {E b : Nat} {c : List UInt8} (h : St W (bys E b c :: r) w) : ∃ fz : Nat × Nat, (∀ i, i < c.length → frzd fz i = false) ∧ St W (cel b (byl c) E fz :: r) w := by
  obtain ⟨a, k, ⟨fz, h1, h2⟩, hb, hd, sa, sb⟩ := h.sat
  exact ⟨fz, h1, h.os, h.tape, h.output, h.size, a, k, h2, hb, hd, sa, sb⟩
theorem St.shut_bys {E b : Nat} {c : List UInt8} {fz : Nat × Nat} (hz : ∀ i, i < c.length → frzd fz i = false) (h : St W (cel b (byl c) E fz :: r) w) : St W (bys E b c :: r) w := h.imp fun _ k => ⟨fz, hz, k⟩
theorem frzd_none (i : Nat) : frzd (0, 0) i = false := rfl
theorem St.shut_bys0 {E b : Nat} {c : List UInt8} (h : St W (cel b (byl c) E (0, 0) :: r) w) : St W (bys E b c :: r) w := h.shut_bys fun _ _ => rfl
theorem St.bcell {E b : Nat} {c : List UInt8} (h : St W s w) [k : HasBys s E b c] {off : Nat} {d : UInt8} (hv : c[off]? = some d) : w.cell? ⟨b, off, none⟩ = some (byteV d) := by
  obtain ⟨r, p⟩ := k.pull
  obtain ⟨fz, _, h2⟩ := (h.pull p).open_bys
  exact h2.cell (b := b) (byl_get hv)
theorem St.bfrz {E b : Nat} {c : List UInt8} (h : St W s w) [k : HasBys s E b c] {off : Nat} (ho : off < c.length) : w.frozen? ⟨b, off, none⟩ = false := by
  obtain ⟨r, p⟩ := k.pull
  obtain ⟨fz, h1, h2⟩ := (h.pull p).open_bys
  rw [h2.frz (b := b), frzd_eq, h1 off ho]
theorem rLoadB {t : TypeId} [ht : OneCell P t] {b off E : Nat} {c : List UInt8} {d : UInt8} (hx : opv f x = some (ptr b off)) [hm : HasBys s E b c] (hv : c[off]? = some d) : Reads P W s f (.load t x) (byteV d) := fun N a w dst ty pos aft hE hS => by
  have h := run_loadAt (P := P) (t := t) (hS.bcell (b := b) hv)
  simp only [execOp, hE.eval hx]; exact run_v h
theorem dStoreB {t : TypeId} [ht : OneCell P t] {b off E : Nat} {c : List UInt8} {d : UInt8} (hx : opv f x = some (ptr b off)) (hy : opv f y = some (byteV d)) [k : SetBys s E b c (c.set off d) m] (ho : off < c.length) :
    Does P W s f (.store t x y) (fun _ w' => St W m w') := fun N a w dst ty pos aft hE hS => by
  obtain ⟨r, p1, p2⟩ := k.repl.pulls
  obtain ⟨fz, h1, h2⟩ := (hS.pull p1).open_bys
  have h := run_storeAt (P := P) (t := t) (b := b) (off := off) (v := byteV d) h2 (u := byteV c[off]) (byl_get (List.getElem?_eq_getElem ho)) (h1 off ho) rfl
  refine ⟨undef, { w with heap := w.heap.setIfInBounds b (.cells ((byl c).set off (byteV d)).toArray E fz) }, .inr ⟨rfl, ?_⟩, ?_⟩
  · simp only [execOp, hE.eval hx, hE.eval hy]; exact run_u h
  · have h3 := h2.write (o' := .cells ((byl c).set off (byteV d)).toArray E fz) (m := cel b ((byl c).set off (byteV d)) E fz :: r) .head
    rw [byl_set] at h3
    rw [byl_set]
    exact (h3.shut_bys (fun i hi => h1 i (by simpa using hi))).back p2

/-! strings of bytes -/
theorem run_loadBys {E b : Nat} {c : List UInt8} (h : St W s w) [k : HasBys s E b c] {off n : Nat} (ho : off + n ≤ c.length) : (loadCells ⟨b, off, none⟩ n).run P w = .ok (byl ((c.drop off).take n)).toArray w := by
  have := run_loadCells_list (P := P) w ⟨b, off, none⟩ (byl ((c.drop off).take n)) (fun j v hj => by
    rw [add_addr]
    have hlt := (List.getElem?_eq_some_iff.1 hj).1
    rw [length_byl, List.length_take, List.length_drop] at hlt
    have hlt2 : off + j < c.length := by omega
    have e : (byl ((c.drop off).take n))[j]? = some (byteV c[off + j]) := byl_get (by rw [List.getElem?_take_of_lt (by omega), List.getElem?_drop, List.getElem?_eq_getElem hlt2])
    rw [e] at hj
    obtain rfl := Option.some.inj hj
    exact h.bcell (b := b) (List.getElem?_eq_getElem hlt2))
  rwa [length_byl, List.length_take, List.length_drop, Nat.min_eq_left (by omega)] at this
theorem foldl_push : ∀ (l : List UInt8) (acc : ByteArray), (l.map fun (x : UInt8) => (x.toNat : Int)).foldl (fun (r : ByteArray) (n : Int) => r.push (UInt8.ofNat n.toNat)) acc = ⟨acc.data ++ l.toArray⟩
  | [], acc => by simp
  | c :: l, acc => by
    rw [List.map_cons, List.foldl_cons, foldl_push l]
    apply ByteArray.ext
    simp
theorem run_toString {E b off n cap : Nat} {c : List UInt8} (h : St W s w) [k : HasBys s E b c] (ho : off + n ≤ c.length) : (Conv.bytesToString (.slice (some ⟨b, off, none⟩) n cap)).run P w = .ok (.string (mkS ((c.drop off).take n))) w := by
  have := run_bytesToString (P := P) w ⟨b, off, none⟩ n cap (((c.drop off).take n).map fun (x : UInt8) => (x.toNat : Int)) (by
    rw [run_loadBys h (b := b) ho, List.map_map]; rfl)
  rw [foldl_push] at this
  rw [this]
  congr 2
  apply ByteArray.ext
  simp
class ByteT (P : Program) (E : Nat) : Prop where
  und : P.underlying E = some (.int .u8)
  info : ∃ i, P.info? E = some i ∧ i.size = 1 ∧ i.bytes = 1 ∧ i.zero = some (.int .u8 0)
theorem rToStr {t t' E E' b off n cap z0 : Nat} {c : List UInt8} [ht : SliceT P t E' z0] [he : ByteT P E'] [ht' : StrT P t'] (hx : opv f x = some (.slice (some ⟨b, off, none⟩) n cap)) [k : HasBys s E b c] (ho : off + n ≤ c.length) :
    Reads P W s f (.convert t t' x) (.string (mkS ((c.drop off).take n))) := fun N a w dst ty pos aft hE hS => by
  simp only [execOp, hE.eval hx]; refine run_v ?_
  rw [run_convert_bytes_string w t t' E' _ _ _ ht.und he.und ht'.und]
  exact run_toString hS ho
theorem rToStrNil {t t' E' z0 n cap : Nat} [ht : SliceT P t E' z0] [he : ByteT P E'] [ht' : StrT P t'] (hx : opv f x = some (.slice none n cap)) :
    Reads P W s f (.convert t t' x) (.string (mkS [])) := fun N a w dst ty pos aft hE hS => by
  simp only [execOp, hE.eval hx]; refine run_v ?_
  rw [run_convert_bytes_string w t t' E' _ _ _ ht.und he.und ht'.und]
  rfl
theorem St.grow {w' : World} {o : Obj} (h : St W s w) (h1 : w'.os = w.os) (h2 : w'.tape = w.tape) (h3 : w'.output = w.output) (h4 : w.heap.size ≤ w'.heap.size) (h5 : ∀ k, k < w.heap.size → w'.heap[k]? = w.heap[k]?)
    (h6 : w'.heap[w.heap.size]? = some o) : St W (pt w.heap.size o :: s) w' := by
  refine ⟨h1.trans h.os, h2.trans h.tape, h3.trans h.output, Nat.le_trans h.size h4, fun k => if k = w.heap.size then some o else none, hp w, by simp [pt], h.sat, ?_, ?_, ?_⟩
  · intro k
    by_cases e : k = w.heap.size
    · right; subst e; simp [hp]
    · left; simp [e]
  · intro k o' e
    by_cases e' : k = w.heap.size
    · subst e'; simp at e; subst e; exact h6
    · simp [e'] at e
  · intro k o' e
    have hlt := (Array.getElem?_eq_some_iff.1 e).1
    exact (h5 k hlt).trans e
/-- '[]byte(s)' -/
theorem dToBytes {t t' E z0 : Nat} {l : List UInt8} [ht : StrT P t] [ht' : SliceT P t' E z0] [he : ByteT P E] (hx : opv f x = some (.string (mkS l))) :
    Does P W s f (.convert t t' x) (fun v w' => ∃ b junk, v = .slice (some ⟨b, 0, none⟩) l.length (l ++ junk).length ∧ St W (bys E b (l ++ junk) :: s) w') := fun N a w dst ty pos aft hE hS => by
  obtain ⟨k, hk⟩ : ∃ k, grownCap w (mkS l).size 0 E = l.length + k := ⟨_, by rw [size_mkS]; rfl⟩
  have hcells : Lib.bytesCells w E (mkS l) = (byl (l ++ List.replicate k 0)).toArray := by
    unfold Lib.bytesCells
    rw [hk, size_mkS, Nat.add_sub_cancel_left]
    simp [byl, byteV]
  have h1 := Lib.run_convert_string_bytes (P := P) w t t' E (mkS l) ht.und ht'.und he.und
  rw [hk, size_mkS] at h1
  refine ⟨_, _, .inl (by simp only [execOp, hE.eval hx]; exact run_v h1), w.heap.size, List.replicate k 0, by simp, ?_⟩
  have h2 := hS.grow (w' := Lib.bytesWorld w E (mkS l)) rfl rfl rfl (by rw [Lib.bytesWorld_size]; omega) (fun k hk => Lib.bytesWorld_at_old w E (mkS l) k hk) (Lib.bytesWorld_at_new w E (mkS l))
  rw [hcells] at h2
  refine St.shut_bys (fz := (_, _)) ?_ h2
  intro i hi
  simp at hi
  simp [frzd, length_byl]; omega

/-! a slice of bytes that lies at the head of a block of its own -/
def ob (E : Nat) (v : Value) (c : List UInt8) : SL := fun h => (v = .slice none 0 0 ∧ c = []) ∨ ∃ b junk, v = .slice (some ⟨b, 0, none⟩) c.length (c ++ junk).length ∧ bys E b (c ++ junk) h
theorem St.ob_nil (h : St W s w) (E : Nat) : St W (ob E (.slice none 0 0) [] :: s) w :=
  ⟨h.os, h.tape, h.output, h.size, fun _ => none, hp w, .inl ⟨rfl, rfl⟩, h.sat, fun _ => .inl rfl, (fun _ _ e => by cases e), sub.refl _⟩
theorem St.ob_of {E b : Nat} {c junk : List UInt8} (h : St W (bys E b (c ++ junk) :: s) w) : St W (ob E (.slice (some ⟨b, 0, none⟩) c.length (c ++ junk).length) c :: s) w := h.imp fun _ k => .inr ⟨b, junk, rfl, k⟩
theorem St.ob_cases {E : Nat} {c : List UInt8} (h : St W (ob E v c :: s) w) : (v = .slice none 0 0 ∧ c = [] ∧ St W s w) ∨ ∃ b junk, v = .slice (some ⟨b, 0, none⟩) c.length (c ++ junk).length ∧ St W (bys E b (c ++ junk) :: s) w := by
  obtain ⟨a, k, h1, hb, hd, sa, sb⟩ := h.sat
  rcases h1 with ⟨h1, h2⟩ | ⟨b, junk, h1, h2⟩
  · exact .inl ⟨h1, h2, h.tail⟩
  · exact .inr ⟨b, junk, h1, h.os, h.tape, h.output, h.size, a, k, h2, hb, hd, sa, sb⟩
theorem St.ob_one {E : Nat} {c : List UInt8} (h : St W (ob E v c :: s) w) : v.oneCell' = true := by
  rcases h.ob_cases with ⟨rfl, _, _⟩ | ⟨b, j, rfl, _⟩ <;> rfl

theorem run_zeroCells (n : Nat) (z0 : Value) : Builtin.zeroCells #[z0] n = (List.replicate n z0).toArray := by
  unfold Builtin.zeroCells
  apply Array.ext'
  simp only [List.size_toArray, List.length_cons, List.length_nil, Nat.zero_add, Nat.mul_one, Nat.mod_one, Array.toList_map, Array.toList_range]
  apply List.ext_getElem
  · simp
  · intro i h1 h2
    simp

theorem St.alloc_bys {E : Nat} {c : List UInt8} (h : St W s w) : St W (bys E w.heap.size c :: s) (w.alloc (.cells (byl c).toArray E)) := (h.alloc _).shut_bys0

/-! append: the two ways of the model's text -/
section
variable {t t' ty E sz n : Nat} {z0 : Value} {xv : Value} {news olds : List Value}
structure AppSrc (P : Program) (W : World) (r : List SL) (t' n sz : Nat) (xv : Value) (news : List Value) : Prop where
  type : (∃ e, P.underlying t' = some (.slice e)) ∨ P.underlying t' = some .string
  len : ∀ w, (Builtin.lenOf xv).run P w = .ok n w
  cells : ∀ w, St W r w → (Builtin.firstCells sz n xv).run P w = .ok news.toArray w
theorem run_app_fits {p : Option Addr} {sLen sCap : Nat} {w' : World} (ht : P.underlying t = some (.slice E)) (hsz : ∀ w, (sizeOf E).run P w = .ok sz w) (hs : AppSrc P W r t' n sz xv news) (hr : St W r w)
    (hfit : sLen + n ≤ sCap) (hst : (match p with | some a => storeCells (a.add (sLen * sz)) news | none => pure ()).run P w = .ok () w') :
    (Builtin.append_ #[t, t'] ty #[.slice p sLen sCap, xv]).run P w = .ok (.slice p (sLen + n) sCap) w' := by
  have h1 := hs.len
  have h2 := hs.cells w hr
  cases p with
  | none =>
    obtain rfl : w = w' := by simpa using hst
    rcases hs.type with ⟨e, hd⟩ | hd <;> simp [Builtin.append_, underlying, ht, hd, hsz, h1, h2, hfit]
  | some a =>
    simp only at hst
    rcases hs.type with ⟨e, hd⟩ | hd <;> simp [Builtin.append_, underlying, ht, hd, hsz, h1, h2, hfit, hst]
theorem run_app_grows {p : Option Addr} {sLen sCap : Nat} {i : TypeInfo} {A : SL} (ht : P.underlying t = some (.slice E)) (hi : P.info? E = some i) (hz : i.zero = some z0) (hs : AppSrc P W r t' n i.size xv news)
    (ho : ∀ w, St W (A :: r) w → (Builtin.firstCells i.size sLen (.slice p sLen sCap)).run P w = .ok olds.toArray w) (hA : St W (A :: r) w)
    (hfit : sCap < sLen + n) (hb : (sLen + n) * i.bytes ≤ 140737488355328) (h63 : sLen + n ≤ 9223372036854775807) :
    ∃ k, (Builtin.append_ #[t, t'] ty #[.slice p sLen sCap, xv]).run P w = .ok (.slice (some ⟨w.heap.size, 0, none⟩) (sLen + n) (sLen + n + k)) (w.drew.alloc (.cells (olds.toArray ++ news.toArray ++ Builtin.zeroCells z0.cells k) E)) := by
  have h1 := hs.len
  have h2 := hs.cells w.drew hA.tail.drew
  have h3 := ho w.drew hA.drew
  obtain ⟨k, hk⟩ : ∃ k, (Question.appendCap (sLen + n) sCap E).cut (w.tape w.drawn (.appendCap (sLen + n) sCap E)) = sLen + n + k := ⟨_, rfl⟩
  have hn : ¬ (sLen + n ≤ sCap) := by omega
  have h63' : ¬ (9223372036854775807 < ((sLen : Int) + (n : Int))) := by omega
  have h48' : ¬ (281474976710656 < Builtin.nextslicecap (sLen + n) sCap * i.bytes) := by have := growslice_fits hfit hb; omega
  refine ⟨k, ?_⟩
  rcases hs.type with ⟨e, hd⟩ | hd <;> simp [Builtin.append_, underlying, ht, hd, h1, sizeOf, typeInfo, zeroValue, hi, hz, hn, h63', h48', Question.forced, h2, h3, newRow, hk] <;> (congr 2; apply Array.ext'; simp)
end
theorem AppSrc.of_bytes {t' n n' E b off : Nat} {c : List UInt8} {e z0 : Nat} [ht : SliceT P t' e z0] [k : HasBys r E b c] (ho : off + n ≤ c.length) : AppSrc P W r t' n 1 (.slice (some ⟨b, off, none⟩) n n') (byl ((c.drop off).take n)) :=
  ⟨.inl ⟨e, ht.und⟩, fun w => rfl, fun w h => by simp only [Builtin.firstCells, Nat.mul_one]; exact run_loadBys h (b := b) ho⟩
theorem AppSrc.of_string {t' : Nat} {l : List UInt8} [ht : StrT P t'] : AppSrc P W r t' l.length 1 (.string (mkS l)) (byl l) :=
  ⟨.inr ht.und, fun w => by simp [Builtin.lenOf, size_mkS], fun w h => by
    simp only [Builtin.firstCells]
    rw [extract_mkS]; simp [byl, byteV]⟩
theorem AppSrc.of_none {t' n' : Nat} {p : Option Addr} {e z0 : Nat} [ht : SliceT P t' e z0] : AppSrc P W r t' 0 1 (.slice p 0 n') (byl []) :=
  ⟨.inl ⟨e, ht.und⟩, fun w => rfl, fun w h => by cases p <;> rfl⟩
theorem run_appB {t t' ty E n : Nat} {xv : Value} {c d : List UInt8} [ht : SliceT P t E 1] [he : ByteT P E] (hS : St W (ob E v c :: r) w) (hd : d.length = n) (hs : AppSrc P W r t' n 1 xv (byl d)) (hb : c.length + n ≤ 1099511627776) :
    ∃ v' w', (Builtin.append_ #[t, t'] ty #[v, xv]).run P w = .ok v' w' ∧ St W (ob E v' (c ++ d) :: r) w' := by
  obtain ⟨i, hi, hs1, hb1, hz⟩ := he.info
  subst hd
  have hzc : ∀ k, Builtin.zeroCells (Value.int .u8 0).cells k = (byl (List.replicate k 0)).toArray := fun k => by
    rw [show (Value.int .u8 0).cells = #[.int .u8 0] from rfl, run_zeroCells]
    simp [byl, byteV]
  have hcat : ∀ k, (byl c).toArray ++ (byl d).toArray ++ Builtin.zeroCells (Value.int .u8 0).cells k = (byl (c ++ d ++ List.replicate k 0)).toArray := fun k => by
    rw [hzc]; simp [byl]
  rcases hS.ob_cases with ⟨rfl, rfl, hS'⟩ | ⟨b, junk, rfl, hS'⟩
  · rcases Nat.eq_zero_or_pos d.length with h0 | h0
    · have hd0 : d = [] := List.length_eq_zero_iff.1 h0
      subst hd0
      exact ⟨_, w, run_app_fits (p := none) (sLen := 0) (sCap := 0) (w' := w) ht.und ht.size hs hS' (by simp) rfl, hS'.ob_nil E⟩
    · obtain ⟨k, h1⟩ := run_app_grows (P := P) (p := none) (sLen := 0) (sCap := 0) (ty := ty) (olds := byl []) (A := fun _ => True) (W := W) (w := w) (r := r) ht.und hi hz (hs1 ▸ hs) (fun w _ => rfl)
        ⟨hS'.os, hS'.tape, hS'.output, hS'.size, fun _ => none, hp w, trivial, hS'.sat, fun _ => .inl rfl, (fun _ _ e => by cases e), sub.refl _⟩ (by omega) (by rw [hb1]; simp at hb; omega) (by simp at hb; omega)
      rw [hcat] at h1
      refine ⟨_, _, h1, ?_⟩
      have h2 := (hS'.drew).alloc_bys (E := E) (c := [] ++ d ++ List.replicate k 0)
      have h3 := h2.ob_of (c := [] ++ d) (junk := List.replicate k 0)
      simpa using h3
  · by_cases hfit : d.length ≤ junk.length
    · obtain ⟨fz, hz1, hS2⟩ := hS'.open_bys
      have hlen : (byl (c ++ junk)).length = c.length + junk.length := by rw [length_byl]; simp
      obtain ⟨w', h1, h2⟩ := run_storeMany (P := P) (byl d) (byl (c ++ junk)) c.length 0 w r hS2 (by rw [length_byl, hlen]; omega) (fun j h1 h2 => hz1 j (by rw [length_byl] at h2; simp; omega)) (byl_one d)
      rw [Nat.add_zero, byl_put (by simp; omega)] at h2
      have e : (c ++ junk).take c.length ++ d ++ (c ++ junk).drop (c.length + d.length) = c ++ d ++ junk.drop d.length := by
        rw [List.take_left, List.drop_append, List.drop_eq_nil_of_le (by omega), List.nil_append, Nat.add_sub_cancel_left]
      rw [e] at h2
      have h3 := h2.shut_bys (fun j hj => hz1 j (by simp at hj ⊢; omega))
      have h4 := h3.ob_of (c := c ++ d) (junk := junk.drop d.length)
      have hl : (c ++ d ++ junk.drop d.length).length = (c ++ junk).length := by simp; omega
      rw [hl, show (c ++ d).length = c.length + d.length by simp] at h4
      exact ⟨_, w', run_app_fits (p := some ⟨b, 0, none⟩) (w' := w') ht.und ht.size hs hS'.tail (by simp; omega) (by simp only [add_addr]; simpa using h1), h4⟩
    · obtain ⟨k, h1⟩ := run_app_grows (P := P) (p := some ⟨b, 0, none⟩) (sLen := c.length) (sCap := (c ++ junk).length) (ty := ty) (olds := byl c) (A := bys E b (c ++ junk)) (W := W) (w := w) (r := r) ht.und hi hz (hs1 ▸ hs)
        (fun w h => by
          rw [hs1]
          have := run_loadBys (P := P) (off := 0) (n := c.length) h (b := b) (by simp)
          simpa [Builtin.firstCells] using this) hS' (by simp; omega) (by rw [hb1]; omega) (by omega)
      rw [hcat] at h1
      refine ⟨_, _, h1, ?_⟩
      have h2 := (hS'.tail.drew).alloc_bys (E := E) (c := c ++ d ++ List.replicate k 0)
      have h3 := h2.ob_of (c := c ++ d) (junk := List.replicate k 0)
      simpa [Nat.add_assoc] using h3
end
end Eng
end Go
end
section
namespace Go
namespace Eng
section
variable {P : Program} {W V w : World} {s m r : List SL} {f : Ev} {v u : Value} {x y z : Operand}

/-- 'append(x, y...)': bytes onto bytes of its own -/
theorem dApp {t t' E n : Nat} {xv : Value} {c d : List UInt8} [ht : SliceT P t E 1] [he : ByteT P E] (hx : opv f x = some v) (hy : opv f y = some xv) (hp : Pull (ob E v c) s r) (hs : AppSrc P W r t' n 1 xv (byl d)) (hd : d.length = n) (hb : c.length + n ≤ 1099511627776) :
    Does P W s f (.call { callee := .builtin .append, args := #[x, y], argTypes := #[t, t'] }) (fun v' w' => St W (ob E v' (c ++ d) :: r) w') := fun N a w dst ty pos aft hE hS => by
  obtain ⟨v', w', h1, h2⟩ := run_appB (P := P) (t := t) (t' := t') (ty := ty) (hS.pull hp) hd hs hb
  refine ⟨v', w', .inl ?_, h2⟩
  rw [BigFrame.execOp_builtin, BigFrame.builtin_append]
  simp only [List.map_toArray, List.map_cons, List.map_nil, hE.eval hx, hE.eval hy]; exact run_v h1
theorem dAppB {t t' E e z0 n n' b off : Nat} {c c2 : List UInt8} [ht : SliceT P t E 1] [ht' : SliceT P t' e z0] [he : ByteT P E] (hx : opv f x = some v) (hy : opv f y = some (.slice (some ⟨b, off, none⟩) n n')) (hp : Pull (ob E v c) s r) [k : HasBys r E b c2] (ho : off + n ≤ c2.length) (hb : c.length + n ≤ 1099511627776) :
    Does P W s f (.call { callee := .builtin .append, args := #[x, y], argTypes := #[t, t'] }) (fun v' w' => St W (ob E v' (c ++ (c2.drop off).take n) :: r) w') :=
  dApp hx hy hp (AppSrc.of_bytes ho) (by simp; omega) hb
theorem dAppS {t t' E : Nat} {c l : List UInt8} [ht : SliceT P t E 1] [ht' : StrT P t'] [he : ByteT P E] (hx : opv f x = some v) (hy : opv f y = some (.string (mkS l))) (hp : Pull (ob E v c) s r) (hb : c.length + l.length ≤ 1099511627776) :
    Does P W s f (.call { callee := .builtin .append, args := #[x, y], argTypes := #[t, t'] }) (fun v' w' => St W (ob E v' (c ++ l) :: r) w') :=
  dApp hx hy hp AppSrc.of_string rfl hb
theorem dApp0 {t t' E e z0 n' : Nat} {p : Option Addr} {c : List UInt8} [ht : SliceT P t E 1] [ht' : SliceT P t' e z0] [he : ByteT P E] (hx : opv f x = some v) (hy : opv f y = some (.slice p 0 n')) (hp : Pull (ob E v c) s r) (hb : c.length ≤ 1099511627776) :
    Does P W s f (.call { callee := .builtin .append, args := #[x, y], argTypes := #[t, t'] }) (fun v' w' => St W (ob E v' c :: r) w') := by
  have := dApp (P := P) (W := W) (t := t) (t' := t') (d := []) hx hy hp AppSrc.of_none rfl hb
  simpa using this

/-- a slice of cells that lies at the head of a block of its own -/
def own (E sz : Nat) (v : Value) (n : Nat) (cs : List Value) : SL := fun h => cs.length = n * sz ∧ ((v = .slice none 0 0 ∧ n = 0) ∨ ∃ b cap junk, v = .slice (some ⟨b, 0, none⟩) n cap ∧ n ≤ cap ∧ junk.length = (cap - n) * sz ∧ cel b (cs ++ junk) E (0, 0) h)
theorem St.own_nil (h : St W s w) (E sz : Nat) : St W (own E sz (.slice none 0 0) 0 [] :: s) w :=
  ⟨h.os, h.tape, h.output, h.size, fun _ => none, hp w, ⟨by simp, .inl ⟨rfl, rfl⟩⟩, h.sat, fun _ => .inl rfl, (fun _ _ e => by cases e), sub.refl _⟩
theorem St.own_of {E sz b n cap : Nat} {cs junk : List Value} (h : St W (cel b (cs ++ junk) E (0, 0) :: s) w) (h1 : cs.length = n * sz) (h2 : junk.length = (cap - n) * sz) (h3 : n ≤ cap) : St W (own E sz (.slice (some ⟨b, 0, none⟩) n cap) n cs :: s) w :=
  h.imp fun _ k => ⟨h1, .inr ⟨b, cap, junk, rfl, h3, h2, k⟩⟩
theorem St.own_cases {E sz n : Nat} {cs : List Value} (h : St W (own E sz v n cs :: s) w) : cs.length = n * sz ∧ ((v = .slice none 0 0 ∧ n = 0 ∧ cs = [] ∧ St W s w) ∨ ∃ b cap junk, v = .slice (some ⟨b, 0, none⟩) n cap ∧ n ≤ cap ∧ junk.length = (cap - n) * sz ∧ St W (cel b (cs ++ junk) E (0, 0) :: s) w) := by
  obtain ⟨a, k, ⟨h0, h1⟩, hb, hd, sa, sb⟩ := h.sat
  refine ⟨h0, ?_⟩
  rcases h1 with ⟨h1, h2⟩ | ⟨b, cap, junk, h1, h2, h3, h4⟩
  · subst h2
    exact .inl ⟨h1, rfl, List.length_eq_zero_iff.1 (by simpa using h0), h.tail⟩
  · exact .inr ⟨b, cap, junk, h1, h2, h3, h.os, h.tape, h.output, h.size, a, k, h4, hb, hd, sa, sb⟩
theorem AppSrc.of_cells {t' n n' E b off sz : Nat} {l : List Value} {fz : Nat × Nat} {e z0 : Nat} [ht : SliceT P t' e z0] [k : HasCel r b l E fz] (ho : off + n * sz ≤ l.length) : AppSrc P W r t' n sz (.slice (some ⟨b, off, none⟩) n n') ((l.drop off).take (n * sz)) :=
  ⟨.inl ⟨e, ht.und⟩, fun w => rfl, fun w h => by
    simp only [Builtin.firstCells]
    have := run_loadCells_list (P := P) w ⟨b, off, none⟩ ((l.drop off).take (n * sz)) (fun j v hj => by
      rw [add_addr]
      have hlt := (List.getElem?_eq_some_iff.1 hj).1
      rw [List.length_take, List.length_drop] at hlt
      rw [List.getElem?_take_of_lt (by omega), List.getElem?_drop] at hj
      exact h.cell (b := b) hj)
    rwa [List.length_take, List.length_drop, Nat.min_eq_left (by omega)] at this⟩
theorem run_app {t t' ty E n k sz by_ : Nat} {xv z0 : Value} {cs news : List Value} [ht : SliceT P t E sz] [he : ElemI P E sz by_ z0] (hS : St W (own E sz v n cs :: r) w) (hs : AppSrc P W r t' k sz xv news) (hk : news.length = k * sz) (hz0 : z0.cells.size = sz) (hone : ∀ u ∈ news, u.oneCell' = true) (hb : (n + k) * by_ ≤ 1099511627776) (h63 : n + k ≤ 1099511627776) (hsz : 0 < sz) :
    ∃ v' w', (Builtin.append_ #[t, t'] ty #[v, xv]).run P w = .ok v' w' ∧ St W (own E sz v' (n + k) (cs ++ news) :: r) w' := by
  obtain ⟨i, hi, hs1, hb1, hz⟩ := he.info
  subst hs1 hb1
  have hcat : ∀ (a b : List Value) j, a.toArray ++ b.toArray ++ Builtin.zeroCells z0.cells j = (a ++ b ++ (Builtin.zeroCells z0.cells j).toList).toArray := fun a b j => by apply Array.ext'; simp
  have hlenz : ∀ j, (Builtin.zeroCells z0.cells j).toList.length = j * i.size := fun j => by simp [Builtin.zeroCells, hz0]
  obtain ⟨hlen, hc⟩ := hS.own_cases
  have hnew : (cs ++ news).length = (n + k) * i.size := by rw [List.length_append, hlen, hk, Nat.add_mul]
  rcases hc with ⟨rfl, rfl, rfl, hS'⟩ | ⟨b, cap, junk, rfl, hcap, hj, hS'⟩
  · rcases Nat.eq_zero_or_pos k with h0 | h0
    · subst h0
      obtain rfl : news = [] := List.length_eq_zero_iff.1 (by simpa using hk)
      exact ⟨_, w, run_app_fits (p := none) (sLen := 0) (sCap := 0) (w' := w) ht.und ht.size hs hS' (by simp) rfl, hS'.own_nil E i.size⟩
    · obtain ⟨j, h1⟩ := run_app_grows (P := P) (p := none) (sLen := 0) (sCap := 0) (ty := ty) (olds := []) (A := fun _ => True) (W := W) (w := w) (r := r) ht.und hi hz hs (fun w _ => rfl)
        ⟨hS'.os, hS'.tape, hS'.output, hS'.size, fun _ => none, hp w, trivial, hS'.sat, fun _ => .inl rfl, (fun _ _ e => by cases e), sub.refl _⟩ (by omega) (by omega) (by omega)
      rw [hcat] at h1
      refine ⟨_, _, h1, ?_⟩
      have h2 := (hS'.drew).alloc (.cells (([] ++ news) ++ (Builtin.zeroCells z0.cells j).toList).toArray E)
      have h3 := St.own_of (E := E) (sz := i.size) (b := w.heap.size) (n := 0 + k) (cap := 0 + k + j) (cs := [] ++ news) (junk := (Builtin.zeroCells z0.cells j).toList) h2 hnew (by rw [hlenz]; congr 1; omega) (by omega)
      exact h3
  · by_cases hfit : n + k ≤ cap
    · have hjl : k * i.size ≤ junk.length := by rw [hj]; exact Nat.mul_le_mul_right _ (by omega)
      obtain ⟨w', h1, h2⟩ := run_storeMany (P := P) news (cs ++ junk) (n * i.size) 0 w r hS' (by rw [hk, List.length_append, hlen]; omega) (fun _ _ _ => rfl) hone
      rw [Nat.add_zero, putL_eq _ _ _ (by rw [hk, List.length_append, hlen]; omega), ← hlen, List.take_left, List.drop_append, List.drop_eq_nil_of_le (by omega), List.nil_append, Nat.add_sub_cancel_left] at h2
      refine ⟨_, w', run_app_fits (p := some ⟨b, 0, none⟩) (w' := w') ht.und ht.size hs hS'.tail hfit (by simp only [add_addr]; simpa using h1), ?_⟩
      refine h2.own_of (cap := cap) hnew ?_ hfit
      rw [List.length_drop, hj, hk, ← Nat.sub_mul]; congr 1; omega
    · obtain ⟨j, h1⟩ := run_app_grows (P := P) (p := some ⟨b, 0, none⟩) (sLen := n) (sCap := cap) (ty := ty) (olds := cs) (A := cel b (cs ++ junk) E (0, 0)) (W := W) (w := w) (r := r) ht.und hi hz hs
        (fun w h => by
          have := run_firstCells_some (P := P) w i.size n ⟨b, 0, none⟩ n cap cs hlen (fun j u hj => by
            rw [add_addr, Nat.zero_add]
            exact h.cell (b := b) (by rw [List.getElem?_append_left (List.getElem?_eq_some_iff.1 hj).1]; exact hj))
          exact this) hS' (by omega) (by omega) (by omega)
      rw [hcat] at h1
      refine ⟨_, _, h1, ?_⟩
      have h2 := (hS'.tail.drew).alloc (.cells ((cs ++ news) ++ (Builtin.zeroCells z0.cells j).toList).toArray E)
      have h3 := St.own_of (E := E) (sz := i.size) (n := n + k) (cap := n + k + j) (cs := cs ++ news) (junk := (Builtin.zeroCells z0.cells j).toList) h2 hnew (by rw [hlenz]; congr 1; omega) (by omega)
      exact h3
theorem dAppO {t t' E n k sz by_ : Nat} {xv z0 : Value} {cs news : List Value} [ht : SliceT P t E sz] [he : ElemI P E sz by_ z0] (hx : opv f x = some v) (hy : opv f y = some xv) (hp : Pull (own E sz v n cs) s r) (hs : AppSrc P W r t' k sz xv news) (hk : news.length = k * sz) (hz0 : z0.cells.size = sz) (hone : ∀ u ∈ news, u.oneCell' = true) (hb : (n + k) * by_ ≤ 1099511627776) (h63 : n + k ≤ 1099511627776) (hsz : 0 < sz) :
    Does P W s f (.call { callee := .builtin .append, args := #[x, y], argTypes := #[t, t'] }) (fun v' w' => St W (own E sz v' (n + k) (cs ++ news) :: r) w') := fun N a w dst ty pos aft hE hS => by
  obtain ⟨v', w', h1, h2⟩ := run_app (P := P) (t := t) (t' := t') (ty := ty) (hS.pull hp) hs hk hz0 hone hb h63 hsz
  refine ⟨v', w', .inl ?_, h2⟩
  rw [BigFrame.execOp_builtin, BigFrame.builtin_append]
  simp only [List.map_toArray, List.map_cons, List.map_nil, hE.eval hx, hE.eval hy]; exact run_v h1
end
end Eng
end Go
end
section
namespace Go
namespace Eng
section
variable {P : Program} {W V w : World} {s m r : List SL} {f : Ev} {v u : Value} {x y z : Operand}

/-! copy -/
theorem run_copyB {t t' ty E b off dl dc n ln : Nat} {xv : Value} {c d : List UInt8} [ht : SliceT P t E 1] (hS : St W (bys E b c :: r) w) (hl : ∀ w, (Builtin.lenOf xv).run P w = .ok ln w) (hn : Nat.min ln dl = n)
    (hf : (Builtin.firstCells 1 n xv).run P w = .ok (byl d).toArray w) (hd : d.length = n) (ho : off + n ≤ c.length) :
    ∃ w', (Builtin.copy_ #[t, t'] ty #[.slice (some ⟨b, off, none⟩) dl dc, xv]).run P w = .ok (.int .i64 (n : Int)) w' ∧ St W (bys E b (c.take off ++ d ++ c.drop (off + n)) :: r) w' := by
  obtain ⟨fz, hz1, hS2⟩ := hS.open_bys
  obtain ⟨w', h1, h2⟩ := run_storeMany (P := P) (byl d) (byl c) off 0 w r hS2 (by rw [length_byl, length_byl]; omega) (fun j h1 h2 => hz1 j (by rw [length_byl] at h2; omega)) (byl_one d)
  rw [Nat.add_zero, byl_put (by omega)] at h2
  subst hd
  refine ⟨w', ?_, h2.shut_bys (fun j hj => hz1 j (by simp at hj; omega))⟩
  simp [Builtin.copy_, underlying, ht.und, ht.size, hl, hn, hf, h1, goInt]
theorem does_copy {t t' : Nat} {dv xv : Value} {R : Value → World → Prop} (hx : opv f x = some dv) (hy : opv f y = some xv) (h : ∀ ty w, St W s w → ∃ v w', (Builtin.copy_ #[t, t'] ty #[dv, xv]).run P w = .ok v w' ∧ R v w') :
    Does P W s f (.call { callee := .builtin .copy, args := #[x, y], argTypes := #[t, t'] }) R := fun N a w dst ty pos aft hE hS => by
  obtain ⟨v', w', h1, h2⟩ := h ty w hS
  refine ⟨v', w', .inl ?_, h2⟩
  rw [BigFrame.execOp_builtin, BigFrame.builtin_copy]
  simp only [List.map_toArray, List.map_cons, List.map_nil, hE.eval hx, hE.eval hy]; exact run_v h1
/-- from another block -/
theorem dCopyB {t t' E b off dl dc b2 off2 sl sc n : Nat} {c c2 : List UInt8} [ht : SliceT P t E 1] (hx : opv f x = some (.slice (some ⟨b, off, none⟩) dl dc)) (hy : opv f y = some (.slice (some ⟨b2, off2, none⟩) sl sc)) (hp : Pull (bys E b c) s r) [k : HasBys r E b2 c2]
    (hn : Nat.min sl dl = n) (ho : off + n ≤ c.length) (ho2 : off2 + n ≤ c2.length) :
    Does P W s f (.call { callee := .builtin .copy, args := #[x, y], argTypes := #[t, t'] }) (fun v w' => v = .int .i64 (n : Int) ∧ St W (bys E b (c.take off ++ (c2.drop off2).take n ++ c.drop (off + n)) :: r) w') :=
  does_copy hx hy fun ty w hS => by
    obtain ⟨w', h1, h2⟩ := run_copyB (P := P) (t := t) (t' := t') (ty := ty) (dl := dl) (dc := dc) (ln := sl) (n := n) (off := off) (xv := .slice (some ⟨b2, off2, none⟩) sl sc) (d := (c2.drop off2).take n) (hS.pull hp) (fun w => rfl) hn
      (by simp only [Builtin.firstCells, Nat.mul_one]; exact run_loadBys (hS.pull hp).tail (b := b2) ho2) (by simp; omega) ho
    exact ⟨_, w', h1, rfl, h2⟩
/-- within a block -/
theorem dCopySelf {t t' E b off dl dc off2 sl sc n : Nat} {c : List UInt8} [ht : SliceT P t E 1] (hx : opv f x = some (.slice (some ⟨b, off, none⟩) dl dc)) (hy : opv f y = some (.slice (some ⟨b, off2, none⟩) sl sc)) (hp : Pull (bys E b c) s r)
    (hn : Nat.min sl dl = n) (ho : off + n ≤ c.length) (ho2 : off2 + n ≤ c.length) :
    Does P W s f (.call { callee := .builtin .copy, args := #[x, y], argTypes := #[t, t'] }) (fun v w' => v = .int .i64 (n : Int) ∧ St W (bys E b (c.take off ++ (c.drop off2).take n ++ c.drop (off + n)) :: r) w') :=
  does_copy hx hy fun ty w hS => by
    have k : HasBys (bys E b c :: r) E b c := inferInstance
    obtain ⟨w', h1, h2⟩ := run_copyB (P := P) (t := t) (t' := t') (ty := ty) (dl := dl) (dc := dc) (ln := sl) (n := n) (off := off) (xv := .slice (some ⟨b, off2, none⟩) sl sc) (d := (c.drop off2).take n) (hS.pull hp) (fun w => rfl) hn
      (by simp only [Builtin.firstCells, Nat.mul_one]; exact run_loadBys (hS.pull hp) (b := b) ho2) (by simp; omega) ho
    exact ⟨_, w', h1, rfl, h2⟩
/-- nothing is copied -/
theorem dCopy0 {t t' E sz : Nat} {p q : Option Addr} {dl dc sl sc : Nat} [ht : SliceT P t E sz] (hx : opv f x = some (.slice p dl dc)) (hy : opv f y = some (.slice q sl sc)) (hn : Nat.min sl dl = 0) :
    Does P W s f (.call { callee := .builtin .copy, args := #[x, y], argTypes := #[t, t'] }) (fun v w' => v = .int .i64 0 ∧ St W s w') :=
  does_copy hx hy fun ty w hS => by
    refine ⟨.int .i64 0, w, ?_, rfl, hS⟩
    have hf : (Builtin.firstCells sz 0 (.slice q sl sc)).run P w = .ok #[] w := by
      have hl0 : ∀ ad : Addr, (loadCells ad 0).run P w = .ok #[] w := fun _ => rfl
      cases q <;> simp [Builtin.firstCells, hl0]
    have hst : ∀ ad : Addr, (storeCells ad []).run P w = .ok () w := fun _ => rfl
    cases p <;> simp [Builtin.copy_, underlying, ht.und, ht.size, Builtin.lenOf, hn, hf, hst, goInt]
/-- cells -/
theorem dCopyC {t t' E E2 b off dl dc b2 off2 sl sc n : Nat} {l l2 : List Value} {fz fz2 : Nat × Nat} [ht : SliceT P t E 1] (hx : opv f x = some (.slice (some ⟨b, off, none⟩) dl dc)) (hy : opv f y = some (.slice (some ⟨b2, off2, none⟩) sl sc)) (hp : Pull (cel b l E2 fz) s r) [k : HasCel r b2 l2 E fz2]
    (hn : Nat.min sl dl = n) (ho : off + n ≤ l.length) (ho2 : off2 + n ≤ l2.length) (hz : ∀ j, off ≤ j → j < off + n → frzd fz j = false) (hone : ∀ v ∈ (l2.drop off2).take n, v.oneCell' = true) :
    Does P W s f (.call { callee := .builtin .copy, args := #[x, y], argTypes := #[t, t'] }) (fun v w' => v = .int .i64 (n : Int) ∧ St W (cel b (l.take off ++ (l2.drop off2).take n ++ l.drop (off + n)) E2 fz :: r) w') :=
  does_copy hx hy fun ty w hS => by
    have hlen : ((l2.drop off2).take n).length = n := by simp; omega
    have hf : (Builtin.firstCells 1 n (.slice (some ⟨b2, off2, none⟩) sl sc)).run P w = .ok ((l2.drop off2).take n).toArray w := by
      refine run_firstCells_some (P := P) w 1 n ⟨b2, off2, none⟩ sl sc ((l2.drop off2).take n) (by rw [hlen, Nat.mul_one]) (fun j v hj => ?_)
      rw [add_addr]
      have hlt := (List.getElem?_eq_some_iff.1 hj).1
      rw [hlen] at hlt
      rw [List.getElem?_take_of_lt (by omega), List.getElem?_drop] at hj
      exact (hS.pull hp).tail.cell (b := b2) hj
    obtain ⟨w', h1, h2⟩ := run_storeMany (P := P) ((l2.drop off2).take n) l off 0 w r (hS.pull hp) (by omega) (fun j h1 h2 => hz j (by omega) (by omega)) hone
    rw [Nat.add_zero, putL_eq _ _ _ (by omega), hlen] at h2
    refine ⟨_, w', ?_, rfl, h2⟩
    simp only [Builtin.copy_, List.getElem?_toArray, List.getElem?_cons_zero, List.getElem?_cons_succ, Sem.run_bind, underlying, run_program, Result.andThen_ok, ht.und, Sem.run_pure, ht.size, Builtin.lenOf, hn, hf, h1, goInt]

/-! make -/
theorem zl_eq (n : Nat) (z0 : Value) : (Array.range n).map (fun i => #[z0][i % #[z0].size]!) = (List.replicate n z0).toArray := by
  apply Array.ext'
  simp only [Array.toList_map, Array.toList_range]
  apply List.ext_getElem
  · simp
  · intro i h1 h2
    rw [List.getElem_map, List.getElem_replicate]
    show #[z0][_ % 1]! = z0
    rw [Nat.mod_one]; rfl
theorem range0 : Array.range 0 = #[] := rfl
theorem dMake {t E by_ n c : Nat} {z0 : Value} {k k' : IntKind} [ht : SliceT P t E 1] [he : ElemI P E 1 by_ z0] (hz1 : z0.cells = #[z0]) (hx : opv f x = some (.int k (n : Int))) (hy : opv f y = some (.int k' (c : Int))) (hnc : n ≤ c) (hb : by_ * c ≤ 281474976710656) (hc : c ≤ 281474976710656) :
    Does P W s f (.makeSlice t x y) (fun v w' => ∃ b, v = .slice (some ⟨b, 0, none⟩) n c ∧ St W (cel b (List.replicate c z0) E (0, 0) :: s) w') := fun N a w dst ty pos aft hE hS => by
  obtain ⟨i, hi, hs1, hb1, hz⟩ := he.info
  refine ⟨.slice (some ⟨w.heap.size, 0, none⟩) n c, w.alloc (.cells (List.replicate c z0).toArray E), .inl ?_, w.heap.size, rfl, hS.alloc _⟩
  simp only [execOp, hE.eval hx, hE.eval hy]; refine run_v ?_
  have w1 : IntKind.i64.wrap (n : Int) = n := w64 (by omega) (by omega)
  have w2 : IntKind.i64.wrap (c : Int) = c := w64 (by omega) (by omega)
  have h1 : ¬ ((n : Int) < 0) := by omega
  have h2 : ¬ ((c : Int) < 0) := by omega
  have h3 : ¬ ((c : Int) < (n : Int)) := by omega
  have h4 : ¬ (281474976710656 < (by_ : Int) * (c : Int)) := by
    have hm : ((by_ : Int) * (c : Int)) = ((by_ * c : Nat) : Int) := (Int.natCast_mul ..).symm
    rw [hm]
    generalize by_ * c = q at hb
    omega
  have hlen : (List.replicate c z0).toArray = (Array.range c).map (fun i => #[z0][i % #[z0].size]!) := (zl_eq c z0).symm
  rcases Nat.eq_zero_or_pos c with h0 | h0
  · subst h0
    have hn0 : n = 0 := by omega
    subst hn0
    simp [Instr.makeSlice, underlying, ht.und, asInt, asIntOf, typeInfo, hi, sizeOf, newRow, w64, range0]
  · have h5 : c ≠ 0 := by omega
    simp [Instr.makeSlice, underlying, ht.und, asInt, asIntOf, typeInfo, hi, hb1, hs1, sizeOf, w1, w2, h1, h2, h3, h4, h5, zeroValue, hz, newRow, hz1, hlen]
theorem dMakeB {t E n c : Nat} {k k' : IntKind} [ht : SliceT P t E 1] [he : ByteT P E] (hx : opv f x = some (.int k (n : Int))) (hy : opv f y = some (.int k' (c : Int))) (hnc : n ≤ c) (hc : c ≤ 281474976710656) :
    Does P W s f (.makeSlice t x y) (fun v w' => ∃ b, v = .slice (some ⟨b, 0, none⟩) n c ∧ St W (bys E b (List.replicate c 0) :: s) w') := fun N a w dst ty pos aft hE hS => by
  have : ElemI P E 1 1 (.int .u8 0) := ⟨he.info⟩
  obtain ⟨v, w', h1, b, h2, h3⟩ := dMake (P := P) (W := W) (s := s) (t := t) rfl hx hy hnc (by omega) hc N a w dst ty pos aft hE hS
  refine ⟨v, w', h1, b, h2, ?_⟩
  have e : List.replicate c (Value.int .u8 0) = byl (List.replicate c 0) := by simp [byl, byteV]
  rw [e] at h3
  exact h3.shut_bys0

/-! literals of slices -/
def fillS (sz : Nat) : List Value → List (Nat × Value) → Option (List Value)
  | cs, [] => some cs
  | cs, (i, v) :: rest => bif Nat.beq v.cells.toList.length sz && Nat.ble (i * sz + v.cells.toList.length) cs.length then fillS sz (putL cs (i * sz) v.cells.toList) rest else none
theorem fillS_of {sz : Nat} : ∀ (parts : List (Nat × Value)) (cs cs' : List Value), fillS sz cs parts = some cs' → Instr.fill (fun i => some (i * sz, sz)) cs.toArray parts = some cs'.toArray
  | [], cs, cs', h => by cases h; rfl
  | (i, v) :: rest, cs, cs', h => by
    unfold fillS at h
    unfold Instr.fill
    cases hb : (Nat.beq v.cells.toList.length sz && Nat.ble (i * sz + v.cells.toList.length) cs.length) with
    | false => rw [hb] at h; cases h
    | true =>
      rw [hb] at h
      simp only [cond_true] at h
      simp only [Bool.and_eq_true] at hb
      have h1 : v.cells.size = sz := by have := Nat.eq_of_beq_eq_true hb.1; simpa using this
      have h2 : i * sz + v.cells.size ≤ cs.length := by simpa using hb.2
      have h3 : ¬ ((decide (v.cells.size ≠ sz) || decide (i * sz + v.cells.size > cs.toArray.size)) = true) := by simp [h1]; omega
      dsimp only
      rw [if_neg h3]
      have e : v.cells.zipIdx.foldl (fun cs (x : Value × Nat) => cs.setIfInBounds (i * sz + x.2) x.1) cs.toArray = (putL cs (i * sz) v.cells.toList).toArray := by
        have := foldl_set v.cells.toList cs (i * sz) 0
        simp only [Nat.add_zero] at this
        rw [← this, ← Array.foldl_toList]
        simp [Array.toList_zipIdx]
      have := fillS_of rest _ _ h
      rw [← e] at this
      exact this
def zl (n : Nat) (zs : List Value) : List Value := (List.range n).map fun i => zs.toArray[i % zs.toArray.size]!
theorem dLit {t E len sz by_ : Nat} {z0 : Value} {cs : List Value} [ht : SliceT P t E sz] [he : ElemI P E sz by_ z0] {ps : List (Nat × Operand)} {vs : List (Nat × Value)} (hp : partsV f ps = some vs) (hc : fillS sz (zl (len * sz) z0.cells.toList) vs = some cs) (hsz : Nat.blt 0 (len * sz) = true) (hle : Nat.ble (len * sz) 1000 = true) :
    Does P W s f (.buildSlice t len ps.toArray) (fun v w' => ∃ b, v = .slice (some ⟨b, 0, none⟩) len len ∧ St W (cel b cs E (0, 0) :: s) w') := fun N a w dst ty pos aft hE hS => by
  obtain ⟨i, hi, hs1, hb1, hz⟩ := he.info
  refine ⟨.slice (some ⟨w.heap.size, 0, none⟩) len len, w.alloc (.cells cs.toArray E), .inl ?_, w.heap.size, rfl, hS.alloc _⟩
  have hf := fillS_of _ _ _ hc
  have hsz : 0 < len * sz := by simpa [Nat.blt_eq] using hsz
  have hle : len * sz ≤ 1000 := by simpa using hle
  have hz' : (zl (len * sz) z0.cells.toList).toArray = (Array.range (len * sz)).map (fun i => z0.cells[i % z0.cells.size]!) := by
    apply Array.ext'
    simp [zl]
  rw [hz'] at hf
  have e : ps.toArray.map (fun (p : Nat × Operand) => (p.1, a.eval p.2)) = vs.toArray := by
    rw [List.map_toArray, ← partsV_eq hE ps vs hp]
  simp only [execOp]
  rw [e]
  refine run_v ?_
  have h1 : ¬ (2 ^ 24 < len * sz) := by omega
  have h2 : len * sz ≠ 0 := by omega
  simp only [Instr.buildSlice, Sem.run_bind, underlying, run_program, Result.andThen_ok, ht.und, Sem.run_pure, ht.size]
  simp only [gt_iff_lt, if_neg h1, h2, if_false, Sem.run_bind, Sem.run_pure, Result.andThen_ok, zeroValue, typeInfo, run_program, hi, hz, hf, newRow, run_newObj]
  rfl
theorem dLit0 {t E sz : Nat} [ht : SliceT P t E sz] : Does P W s f (.buildSlice t 0 #[]) (fun v w' => ∃ b, v = .slice (some ⟨b, 0, none⟩) 0 0 ∧ St W (cel b [] E (0, 0) :: s) w') := fun N a w dst ty pos aft hE hS => by
  refine ⟨.slice (some ⟨w.heap.size, 0, none⟩) 0 0, w.alloc (.cells #[] E), .inl ?_, w.heap.size, rfl, hS.alloc _⟩
  simp only [execOp]
  refine run_v ?_
  simp [Instr.buildSlice, underlying, ht.und, ht.size, Instr.fill, newRow, range0]

/-! ranging over a string -/
theorem dRange {t : Nat} {l : List UInt8} [ht : StrT P t] (hx : opv f x = some (.string (mkS l))) : Does P W s f (.range t x) (fun v w' => ∃ b, v = ptr b 0 ∧ St W (pt b (.stringIter (mkS l) 0) :: s) w') := fun N a w dst ty pos aft hE hS => by
  refine ⟨ptr w.heap.size 0, w.alloc (.stringIter (mkS l) 0), .inl ?_, w.heap.size, rfl, hS.alloc _⟩
  simp only [execOp, hE.eval hx]; refine run_v ?_
  simp [Instr.range, underlying, ht.und]
theorem decode_ascii {l : List UInt8} {p : Nat} {c : UInt8} (h : l[p]? = some c) (hc : c.toNat < 128) : Utf8.decode (mkS l) p = (c.toNat, 1) := by
  have hlt := (List.getElem?_eq_some_iff.1 h).1
  have hget : (mkS l).get! p = c := by
    have h2 : l[p] = c := (List.getElem?_eq_some_iff.1 h).2
    have : (mkS l).get! p = (l.toArray)[p]! := rfl
    rw [this]
    simp [hlt, h2]
  unfold Utf8.decode
  simp only [Nat.add_zero, hget]
  rw [if_pos (by omega)]
theorem dNext {b p : Nat} {l : List UInt8} {c : UInt8} (hx : opv f x = some (ptr b 0)) (hp : Pull (pt b (.stringIter (mkS l) p)) s r) (h : l[p]? = some c) (hc : c.toNat < 128) :
    Does P W s f (.next x true) (fun v w' => v = .tuple #[.bool true, .int .i64 (p : Int), .int .i32 (c.toNat : Int)] ∧ St W (pt b (.stringIter (mkS l) (p + 1)) :: r) w') := fun N a w dst ty pos aft hE hS => by
  have hb := hS.block hp
  have hlt := (List.getElem?_eq_some_iff.1 h).1
  have hrun : (Instr.next (ptr b 0) true ty).run P w = .ok (.tuple #[.bool true, .int .i64 (p : Int), .int .i32 (c.toNat : Int)]) { w with heap := w.heap.setIfInBounds b (.stringIter (mkS l) (p + 1)) } := by
    have hg : (getObj b).run P w = .ok (.stringIter (mkS l) p) w := by simp [getObj, Sem.run, hb]
    have hs : (setObj b (.stringIter (mkS l) (p + 1))).run P w = .ok () { w with heap := w.heap.setIfInBounds b (.stringIter (mkS l) (p + 1)) } := by simp [setObj, Sem.run, hb]
    simp only [Instr.next, Sem.run_bind, hg, Result.andThen_ok, size_mkS, hlt, if_true, decode_ascii h hc, hs]
    rfl
  refine ⟨_, _, .inl (by simp only [execOp, hE.eval hx]; exact run_v hrun), rfl, ?_⟩
  exact (hS.pull hp).write .head
theorem dNextEnd {b p : Nat} {l : List UInt8} (hx : opv f x = some (ptr b 0)) (hp : Pull (pt b (.stringIter (mkS l) p)) s r) (h : l.length ≤ p) :
    Does P W s f (.next x true) (fun v w' => v = .tuple #[.bool false] ∧ St W s w') := fun N a w dst ty pos aft hE hS => by
  have hb := hS.block hp
  have hrun : (Instr.next (ptr b 0) true ty).run P w = .ok (.tuple #[.bool false]) w := by
    have hg : (getObj b).run P w = .ok (.stringIter (mkS l) p) w := by simp [getObj, Sem.run, hb]
    have hlt : ¬ (p < l.length) := by omega
    simp only [Instr.next, Sem.run_bind, hg, Result.andThen_ok, size_mkS, hlt, if_false]
    rfl
  exact ⟨_, _, .inl (by simp only [execOp, hE.eval hx]; exact run_v hrun), rfl, hS⟩
end
end Eng
end Go
end
section
namespace Go
namespace Eng

/-- a map whose keys are strings: its entries, in the order in which they came -/
def mp (b : Nat) (es : List (List UInt8 × Value)) : SL := fun h => ∃ (arr : Array MapEntry) (clock : Nat), arr.toList.map (fun e => (e.key, e.val)) = es.map (fun p => (Value.string (mkS p.1), p.2)) ∧ pt b (.map arr clock) h
def mget : List (List UInt8 × Value) → List UInt8 → Option Value
  | [], _ => none
  | p :: l, k => if p.1 = k then some p.2 else mget l k
def mset : List (List UInt8 × Value) → List UInt8 → Value → List (List UInt8 × Value)
  | [], k, v => [(k, v)]
  | p :: l, k, v => if p.1 = k then (k, v) :: l else p :: mset l k v
def mdel : List (List UInt8 × Value) → List UInt8 → List (List UInt8 × Value)
  | [], _ => []
  | p :: l, k => if p.1 = k then l else p :: mdel l k

theorem mkS_inj {a b : List UInt8} (h : mkS a = mkS b) : a = b := by
  have : (mkS a).data.toList = (mkS b).data.toList := by rw [h]
  simpa using this
theorem mkS_beq (a b : List UInt8) : (mkS a == mkS b) = decide (a = b) := by
  change (a.toArray == b.toArray) = _
  rw [Bool.eq_iff_iff]; simp

section
variable {P : Program} {W V w : World} {s m r : List SL} {f : Ev} {v u : Value} {x y z : Operand}

theorem St.open_mp {b : Nat} {es : List (List UInt8 × Value)} (h : St W (mp b es :: r) w) : ∃ (arr : Array MapEntry) (clock : Nat), arr.toList.map (fun e => (e.key, e.val)) = es.map (fun p => (Value.string (mkS p.1), p.2)) ∧ St W (pt b (.map arr clock) :: r) w := by
  obtain ⟨a, k, ⟨arr, clock, h1, h2⟩, hb, hd, sa, sb⟩ := h.sat
  exact ⟨arr, clock, h1, h.os, h.tape, h.output, h.size, a, k, h2, hb, hd, sa, sb⟩
theorem St.shut_mp {b : Nat} {es : List (List UInt8 × Value)} {arr : Array MapEntry} {clock : Nat} (h1 : arr.toList.map (fun e => (e.key, e.val)) = es.map (fun p => (Value.string (mkS p.1), p.2))) (h : St W (pt b (.map arr clock) :: r) w) : St W (mp b es :: r) w :=
  h.imp fun _ k => ⟨arr, clock, h1, k⟩
theorem St.new_mp {b : Nat} (h : St W (pt b (.map #[] 0) :: r) w) : St W (mp b [] :: r) w := h.shut_mp rfl

theorem findNow_eq (k : List UInt8) : ∀ (l : List MapEntry) (es : List (List UInt8 × Value)) (i : Nat), l.map (fun e => (e.key, e.val)) = es.map (fun p => (Value.string (mkS p.1), p.2)) →
    (mget es k = none ∧ Instr.findNow .string (.string (mkS k)) l i = some none) ∨ ∃ j v, mget es k = some v ∧ Instr.findNow .string (.string (mkS k)) l i = some (some (i + j, v)) ∧ j < l.length ∧
      (∀ u, ((l.modify j fun e => { e with key := .string (mkS k), val := u }).map (fun e => (e.key, e.val))) = (mset es k u).map (fun p => (Value.string (mkS p.1), p.2))) ∧
      ((l.eraseIdx j).map (fun e => (e.key, e.val))) = (mdel es k).map (fun p => (Value.string (mkS p.1), p.2)) ∧ (∃ e, l[j]? = some e ∧ e.key = .string (mkS k))
  | [], es, i, h => by
    cases es with
    | nil => exact .inl ⟨rfl, rfl⟩
    | cons p es => simp at h
  | e :: l, es, i, h => by
    cases es with
    | nil => simp at h
    | cons p es =>
      obtain ⟨p1, p2⟩ := p
      simp only [List.map_cons, List.cons.injEq, Prod.mk.injEq] at h
      obtain ⟨⟨hk, hv⟩, ht⟩ := h
      have hs : Instr.sameNow .string (.string (mkS k)) e.key = some (decide (k = p1)) := by
        rw [hk]; show some (mkS k == mkS p1) = _; rw [mkS_beq]
      by_cases hkp : k = p1
      · subst hkp
        right
        refine ⟨0, p2, by simp [mget], ?_, by simp, ?_, ?_, e, rfl, hk⟩
        · simp [Instr.findNow, hs, hv]
        · intro u; simp [mset, ht]
        · simp [mdel, ht]
      · have hne : ¬ p1 = k := fun h => hkp h.symm
        rcases findNow_eq k l es (i + 1) ht with ⟨h1, h2⟩ | ⟨j, v, h1, h2, h3, h4, h5, h6⟩
        · left
          exact ⟨by simp [mget, hne, h1], by simp [Instr.findNow, hs, hkp, h2]⟩
        · right
          refine ⟨j + 1, v, by simp [mget, hne, h1], ?_, by simpa using h3, ?_, ?_, ?_⟩
          · simp [Instr.findNow, hs, hkp, h2, Nat.add_assoc, Nat.add_comm 1 j]
          · intro u; simp [mset, hne, hk, hv, h4 u]
          · simp [mdel, hne, hk, hv, h5]
          · simpa using h6
theorem run_checkKey {K : Nat} {empty : Bool} {k : List UInt8} [hK : StrT P K] (n : Nat) : (Instr.checkKey empty (n + 1) K (.string (mkS k))).run P w = .ok () w := by
  simp [Instr.checkKey, underlying, hK.und]
theorem run_checkKey' {K : Nat} {empty : Bool} {k : List UInt8} [hK : StrT P K] : (Instr.checkKey empty 10000 K (.string (mkS k))).run P w = .ok () w := run_checkKey 9999
theorem run_findKey {K : Nat} {k : List UInt8} {l : List MapEntry} {q : Option (Nat × Value)} [hK : StrT P K] (h : Instr.findNow .string (.string (mkS k)) l 0 = some q) : (Instr.findKey K (.string (mkS k)) l).run P w = .ok q w := by
  simp [Instr.findKey, underlying, hK.und, h]
theorem run_getMap {b : Nat} {arr : Array MapEntry} {clock : Nat} (h : w.heap[b]? = some (.map arr clock)) : (getObj b).run P w = .ok (.map arr clock) w := by simp [getObj, Sem.run, h]

/-- 'm[k]' -/
theorem run_lookup {t K E b : Nat} {k : List UInt8} {es : List (List UInt8 × Value)} {z0 : Value} {ok : Bool} [ht : MapT P t K E] [hK : StrT P K] [hz : ZeroV P E z0] (hS : St W (mp b es :: r) w) :
    (Instr.lookup t (.map (some b)) (.string (mkS k)) ok).run P w = .ok (if ok then .tuple #[(mget es k).getD z0, .bool (mget es k).isSome] else (mget es k).getD z0) w := by
  obtain ⟨arr, clock, h1, h2⟩ := hS.open_mp
  have hb := h2.block .head
  have hg := run_getMap (P := P) hb
  rcases findNow_eq k arr.toList es 0 h1 with ⟨h3, h4⟩ | ⟨j, v, h3, h4, _⟩
  · have hf := run_findKey (P := P) (w := w) (K := K) h4
    simp only [Instr.lookup, Sem.run_bind, underlying, run_program, Result.andThen_ok, ht.und, Sem.run_pure, hg, run_checkKey', hf, hz.run, h3]
    cases ok <;> simp
  · have hf := run_findKey (P := P) (w := w) (K := K) h4
    simp only [Instr.lookup, Sem.run_bind, underlying, run_program, Result.andThen_ok, ht.und, Sem.run_pure, hg, run_checkKey', hf, h3]
    cases ok <;> simp
theorem rLook {t K E b : Nat} {k : List UInt8} {es : List (List UInt8 × Value)} {z0 : Value} [ht : MapT P t K E] [hK : StrT P K] [hz : ZeroV P E z0] (hx : opv f x = some (.map (some b))) (hy : opv f y = some (.string (mkS k))) (hp : Pull (mp b es) s r) (hr : (mget es k).getD z0 = v) :
    Reads P W s f (.lookup t x y false) v := fun N a w dst ty pos aft hE hS => by
  subst hr
  simp only [execOp, hE.eval hx, hE.eval hy]
  have := run_lookup (P := P) (t := t) (k := k) (ok := false) (hS.pull hp)
  exact run_v this
theorem rLookOk {t K E b : Nat} {k : List UInt8} {es : List (List UInt8 × Value)} {z0 : Value} {q : Bool} [ht : MapT P t K E] [hK : StrT P K] [hz : ZeroV P E z0] (hx : opv f x = some (.map (some b))) (hy : opv f y = some (.string (mkS k))) (hp : Pull (mp b es) s r) (hr : (mget es k).getD z0 = v) (hq : (mget es k).isSome = q) :
    Reads P W s f (.lookup t x y true) (.tuple #[v, .bool q]) := fun N a w dst ty pos aft hE hS => by
  subst hr hq
  simp only [execOp, hE.eval hx, hE.eval hy]
  have := run_lookup (P := P) (t := t) (k := k) (ok := true) (hS.pull hp)
  exact run_v this
theorem rLookNil {t K E : Nat} {k : List UInt8} {z0 : Value} [ht : MapT P t K E] [hK : StrT P K] [hz : ZeroV P E z0] (hx : opv f x = some (.map none)) (hy : opv f y = some (.string (mkS k))) :
    Reads P W s f (.lookup t x y false) z0 := fun N a w dst ty pos aft hE hS => by
  simp only [execOp, hE.eval hx, hE.eval hy]
  refine run_v ?_
  have hf := run_findKey (P := P) (w := w) (K := K) (k := k) (l := []) (q := none) rfl
  simp only [Instr.lookup, Sem.run_bind, underlying, run_program, Result.andThen_ok, ht.und, Sem.run_pure, run_checkKey', hf, hz.run]
  simp
/-- 'm[k] = v' -/
theorem dMapSet {t K E b : Nat} {k : List UInt8} {es : List (List UInt8 × Value)} [ht : MapT P t K E] [hK : StrT P K] (hx : opv f x = some (.map (some b))) (hy : opv f y = some (.string (mkS k))) (hz : opv f z = some v) (hp : Pull (mp b es) s r) :
    Does P W s f (.mapUpdate t x y z) (fun _ w' => St W (mp b (mset es k v) :: r) w') := fun N a w dst ty pos aft hE hS => by
  obtain ⟨arr, clock, h1, h2⟩ := (hS.pull hp).open_mp
  have hb := h2.block .head
  have hg := run_getMap (P := P) hb
  have hso : ∀ o, (setObj b (.map o (clock))).run P w = .ok () { w with heap := w.heap.setIfInBounds b (.map o clock) } := fun o => by simp [setObj, Sem.run, hb]
  have hso' : ∀ o c, (setObj b (.map o c)).run P w = .ok () { w with heap := w.heap.setIfInBounds b (.map o c) } := fun o c => by simp [setObj, Sem.run, hb]
  rcases findNow_eq k arr.toList es 0 h1 with ⟨h3, h4⟩ | ⟨j, u, h3, h4, h5, h6, h7, e, he, hek⟩
  · have hf := run_findKey (P := P) (w := w) (K := K) h4
    refine ⟨undef, { w with heap := w.heap.setIfInBounds b (.map (arr.push { key := .string (mkS k), val := v, born := clock }) (clock + 1)) }, .inr ⟨rfl, ?_⟩, ?_⟩
    · simp only [execOp, hE.eval hx, hE.eval hy, hE.eval hz]
      refine run_u ?_
      simp only [Instr.mapUpdate, Sem.run_bind, underlying, run_program, Result.andThen_ok, ht.und, Sem.run_pure, hg, run_checkKey', hf, hso']
    · refine St.shut_mp ?_ (h2.write .head)
      have : ∀ (es : List (List UInt8 × Value)), mget es k = none → mset es k v = es ++ [(k, v)] := by
        intro es
        induction es with
        | nil => intro _; rfl
        | cons p es ih =>
          intro h
          unfold mget at h
          split at h
          · cases h
          · rename_i hne; simp [mset, hne, ih h]
      rw [this es h3]
      simp [h1]
  · have hf := run_findKey (P := P) (w := w) (K := K) h4
    refine ⟨undef, { w with heap := w.heap.setIfInBounds b (.map (arr.modify j fun e => { e with key := .string (mkS k), val := v }) clock) }, .inr ⟨rfl, ?_⟩, ?_⟩
    · simp only [execOp, hE.eval hx, hE.eval hy, hE.eval hz]
      refine run_u ?_
      have he' : arr[j]? = some e := by simpa using he
      have hst : (Instr.keyThatStays (.string (mkS k)) (.string (mkS k))).run P w = .ok (.string (mkS k)) w := by
        have : Instr.sameBits 10000 (.string (mkS k)) (.string (mkS k)) = true := by
          show (mkS k == mkS k) = true
          rw [mkS_beq]; simp
        unfold Instr.keyThatStays
        rw [this]; rfl
      simp only [Nat.zero_add] at hf
      simp only [Instr.mapUpdate, Sem.run_bind, underlying, run_program, Result.andThen_ok, ht.und, Sem.run_pure, hg, run_checkKey', hf, he', Option.map_some, Option.getD_some, hek, hst, hso]
    · refine St.shut_mp ?_ (h2.write .head)
      rw [← h6 v, Array.toList_modify]
/-- 'delete(m, k)' -/
theorem dMapDel {t t' K E b : Nat} {k : List UInt8} {es : List (List UInt8 × Value)} [ht : MapT P t K E] [hK : StrT P K] (hx : opv f x = some (.map (some b))) (hy : opv f y = some (.string (mkS k))) (hp : Pull (mp b es) s r) :
    Does P W s f (.call { callee := .builtin .delete, args := #[x, y], argTypes := #[t, t'] }) (fun _ w' => St W (mp b (mdel es k) :: r) w') := fun N a w dst ty pos aft hE hS => by
  obtain ⟨arr, clock, h1, h2⟩ := (hS.pull hp).open_mp
  have hb := h2.block .head
  have hg := run_getMap (P := P) hb
  have hso' : ∀ o c, (setObj b (.map o c)).run P w = .ok () { w with heap := w.heap.setIfInBounds b (.map o c) } := fun o c => by simp [setObj, Sem.run, hb]
  have key : ∃ arr', (Builtin.delete_ #[t, t'] ty #[.map (some b), .string (mkS k)]).run P w = .ok (.tuple #[]) { w with heap := w.heap.setIfInBounds b (.map arr' clock) } ∧ arr'.toList.map (fun e => (e.key, e.val)) = (mdel es k).map (fun p => (Value.string (mkS p.1), p.2)) := by
    rcases findNow_eq k arr.toList es 0 h1 with ⟨h3, h4⟩ | ⟨j, u, h3, h4, h5, h6, h7, e, he, hek⟩
    · have hf := run_findKey (P := P) (w := w) (K := K) h4
      refine ⟨arr, ?_, ?_⟩
      · simp only [Builtin.delete_, List.getElem?_toArray, List.getElem?_cons_zero, List.getElem?_cons_succ, Sem.run_bind, underlying, run_program, Result.andThen_ok, ht.und, Sem.run_pure, hg, run_checkKey', hf, hso']
      · have : ∀ (es : List (List UInt8 × Value)), mget es k = none → mdel es k = es := by
          intro es
          induction es with
          | nil => intro _; rfl
          | cons p es ih =>
            intro h
            unfold mget at h
            split at h
            · cases h
            · rename_i hne; simp [mdel, hne, ih h]
        rw [this es h3]; exact h1
    · have hf := run_findKey (P := P) (w := w) (K := K) h4
      simp only [Nat.zero_add] at hf
      refine ⟨arr.eraseIdxIfInBounds j, ?_, ?_⟩
      · simp only [Builtin.delete_, List.getElem?_toArray, List.getElem?_cons_zero, List.getElem?_cons_succ, Sem.run_bind, underlying, run_program, Result.andThen_ok, ht.und, Sem.run_pure, hg, run_checkKey', hf, hso']
      · rw [← h7]; simp
  obtain ⟨arr', h3, h4⟩ := key
  refine ⟨.tuple #[], { w with heap := w.heap.setIfInBounds b (.map arr' clock) }, .inl ?_, St.shut_mp h4 (h2.write .head)⟩
  rw [BigFrame.execOp_builtin, BigFrame.builtin_delete]
  simp only [List.map_toArray, List.map_cons, List.map_nil, hE.eval hx, hE.eval hy]; exact run_v h3
theorem dMapDelNil {t t' K E : Nat} {k : List UInt8} [ht : MapT P t K E] [hK : StrT P K] (hx : opv f x = some (.map none)) (hy : opv f y = some (.string (mkS k))) :
    Does P W s f (.call { callee := .builtin .delete, args := #[x, y], argTypes := #[t, t'] }) (fun _ w' => St W s w') := fun N a w dst ty pos aft hE hS => by
  refine ⟨.tuple #[], w, .inl ?_, hS⟩
  rw [BigFrame.execOp_builtin, BigFrame.builtin_delete]
  simp only [List.map_toArray, List.map_cons, List.map_nil, hE.eval hx, hE.eval hy]
  refine run_v ?_
  simp only [Builtin.delete_, List.getElem?_toArray, List.getElem?_cons_zero, List.getElem?_cons_succ, Sem.run_bind, underlying, run_program, Result.andThen_ok, ht.und, Sem.run_pure, run_checkKey']

/-! asserted types -/
class AsYes (P : Program) (A T : Nat) : Prop where
  run : ∀ v xT w, (Instr.typeAssert (.iface T v) xT A true).run P w = .ok (.tuple #[.iface T v, .bool true]) w
class AsVal (P : Program) (A T : Nat) : Prop where
  run : ∀ v xT w, (Instr.typeAssert (.iface T v) xT A true).run P w = .ok (.tuple #[v, .bool true]) w
class AsNo (P : Program) (A T : Nat) (z : outParam Value) : Prop where
  run : ∀ v xT w, (Instr.typeAssert (.iface T v) xT A true).run P w = .ok (.tuple #[z, .bool false]) w
theorem rAsYes {A T xT : Nat} [h : AsYes P A T] (hx : opv f x = some (.iface T v)) : Reads P W s f (.typeAssert x xT A true) (.tuple #[.iface T v, .bool true]) := fun N a w dst ty pos aft hE hS => by
  simp only [execOp, hE.eval hx]; exact run_v (h.run _ _ _)
theorem rAsVal {A T xT : Nat} [h : AsVal P A T] (hx : opv f x = some (.iface T v)) : Reads P W s f (.typeAssert x xT A true) (.tuple #[v, .bool true]) := fun N a w dst ty pos aft hE hS => by
  simp only [execOp, hE.eval hx]; exact run_v (h.run _ _ _)
theorem rAsNo {A T xT : Nat} {z0 : Value} [h : AsNo P A T z0] (hx : opv f x = some (.iface T v)) : Reads P W s f (.typeAssert x xT A true) (.tuple #[z0, .bool false]) := fun N a w dst ty pos aft hE hS => by
  simp only [execOp, hE.eval hx]; exact run_v (h.run _ _ _)
/-- the nil check of a method value -/
class NilAhead (P : Program) (T : Nat) (name : String) : Prop where
  run : ∀ v w, (nilAhead (P.types.size + Made.depth) T v name).run P w = .ok (some false) w
theorem rNilM2 {T : Nat} {name : String} {cs : Array Value} [h : NilAhead P T name] (hx : opv f x = some (.func (.method name) #[.iface T v] cs)) : Reads P W s f (.nilCheck x) (.func (.method name) #[.iface T v] cs) := fun N a w dst ty pos aft hE hS => by
  simp only [execOp, hE.eval hx]
  have e : (#[Value.iface T v])[0]? = some (.iface T v) := rfl
  simp only [e, Sem.run_bind, run_program, Result.andThen_ok, h.run]
  rfl

end
end Eng
end Go
end

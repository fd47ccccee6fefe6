/-
  Steps on the way to the cards of laws.FnFetched and laws.FnFetchedWhole; the conditions of each are the hypotheses that it names. In order:
  More operations: a cut in place; pointers that differ; data that lay there at the beginning.
  WALKS (printed by wx.py from Ha.px).
  WALKS (printed by wx.py from Hb.px): readers.
  WALKS (printed by wx.py from Hc.px): bytes.IndexByte; lines of a bufio.Reader.
  WALKS (printed by wx.py from Hd.px): (*bufio.Reader).ReadSlice, ReadLine.
  WALKS (printed by wx.py from He.px): (*bufio.Reader).ReadLine, ReadByte, UnreadByte, Peek.
-/
import Derived.Test.YtjbbapodcngnaaaGreatDoorV05
import Derived.Recover
import Derived.Lib.BytesEntry
set_option linter.all false
section
namespace Go
namespace Eng
section
variable {P : Program} {W V w : World} {s m r : List SL} {f : Ev} {v u : Value} {x y z : Operand}
theorem rPNe {t t' : TypeId} {b b' : Nat} {l l' : List Value} {E E' : TypeId} [hp : PtrT P t] [k1 : HasCel s b l E (0, 0)] [k2 : HasCel s b' l' E' (0, 0)] (hx : opv f x = some (ptr b 0)) (hy : opv f y = some (ptr b' 0)) (hne : b ≠ b') : Reads P W s f (.binOp .eql t x y t') (.bool false) := by
  obtain ⟨e, n0, hu, hn, hsz⟩ := hp.und
  refine reads_eq hx hy rfl (fun w => rfl) (fun w hS n => ?_)
  have h1 := hS.frz (b := b)
  have h2 := hS.frz (b := b')
  have h3 : w.shape? b = some (E, l.length) := by simp [World.shape?, hS.blk (b := b)]
  have h4 : w.shape? b' = some (E', l'.length) := by simp [World.shape?, hS.blk (b := b')]
  simp [Op.equalIn, underlying, hu, hsz, sameAddr, hne, frozen, noView, viewAt, mayBeOne, stringish, shape, Sem.run, h1, h2, h3, h4, hn]
/-- two cells that are held apart lie in different blocks -/
theorem St.apart {b b' : Nat} {l l' : List Value} {E E' : TypeId} {fz fz' : Nat × Nat} (h : St W (cel b l E fz :: cel b' l' E' fz' :: s) w) : b ≠ b' := by
  intro e
  subst e
  obtain ⟨a, c, ha, ⟨d, _, hd, _, _, sd, _⟩, hdis, sa, sc⟩ := h.sat
  have h1 : a b = some (.cells l.toArray E fz) := ha
  have h2 : c b = some (.cells l'.toArray E' fz') := sd b _ hd
  rcases hdis b with h | h
  · rw [h1] at h; cases h
  · rw [h2] at h; cases h
/-- append(s[:i], s[j:]...) in place -/
theorem dDel {t t' E e z0 i k k' cap b o : Nat} {l : List Value} [ht : SliceT P t E 1] [ht' : SliceT P t' e z0] (hx : opv f x = some (.slice (some ⟨b, 0, none⟩) i cap)) (hy : opv f y = some (.slice (some ⟨b, o, none⟩) k k')) (hp : Pull (cel b l E (0, 0)) s r)
    (hcap : i + k ≤ cap) (hl : cap ≤ l.length) (ho : o + k ≤ l.length) (hone : ∀ v ∈ (l.drop o).take k, v.oneCell' = true) :
    Does P W s f (.call { callee := .builtin .append, args := #[x, y], argTypes := #[t, t'] }) (fun v' w' => v' = .slice (some ⟨b, 0, none⟩) (i + k) cap ∧ St W (cel b (putL l i ((l.drop o).take k)) E (0, 0) :: r) w') := fun N a w dst ty pos aft hE hS => by
  have hS' := hS.pull hp
  have hs : AppSrc P W (cel b l E (0, 0) :: r) t' k 1 (.slice (some ⟨b, o, none⟩) k k') ((l.drop o).take (k * 1)) := AppSrc.of_cells (by omega)
  rw [Nat.mul_one] at hs
  have hk : ((l.drop o).take k).length = k := by simp; omega
  obtain ⟨w', h1, h2⟩ := run_storeMany (P := P) ((l.drop o).take k) l i 0 w r hS' (by rw [hk]; omega) (fun _ _ _ => rfl) hone
  have h3 := run_app_fits (P := P) (t := t) (t' := t') (ty := ty) (p := some ⟨b, 0, none⟩) (sLen := i) (sCap := cap) (w' := w') ht.und ht.size hs hS' hcap (by simp only [add_addr]; simpa using h1)
  refine ⟨_, w', .inl ?_, rfl, by simpa using h2⟩
  rw [BigFrame.execOp_builtin, BigFrame.builtin_append]
  simp only [List.map_toArray, List.map_cons, List.map_nil, hE.eval hx, hE.eval hy]; exact run_v h3
/-- an aggregate that lay there at the beginning -/
theorem rLoadNO {t n : Nat} [ht : AggT P t n] {b off : Nat} {cs : List Value} (hx : opv f x = some (ptr b off)) [hm : HasOld s V] (hn : cs.length = n) (hv : ∀ j v, cs[j]? = some v → V.cell? ⟨b, off + j, none⟩ = some v) :
    Reads P W s f (.load t x) (.agg cs.toArray) := fun N a w dst ty pos aft hE hS => by
  have h : (loadCells ⟨b, off, none⟩ cs.length).run P w = .ok cs.toArray w := run_loadCells_list w ⟨b, off, none⟩ cs (fun j v hj => by
    rw [add_addr]
    exact hS.oldcell (V := V) (hv j v hj))
  rw [hn] at h
  have h' : (Instr.loadAt t (ptr b off)).run P w = .ok (.agg cs.toArray) w := by
    simp only [Instr.loadAt, Instr.sureAddr, loadVar, Sem.run_bind, Sem.run_pure, Result.andThen_ok, ht.agg, if_true, ht.size, h]
  simp only [execOp, hE.eval hx]; exact run_v h'
/-- slices of nothing -/
theorem rSlcN1 {t E : Nat} {k : IntKind} [h : SliceT P t E 1] (hx : opv f x = some (.slice none 0 0)) (hy : opv f y = some (.int k (0 : Nat))) : Reads P W s f (.slice t x (some y) none none) (.slice none 0 0) := fun N a w dst ty pos aft hE hS => by
  have hu : ∀ w, (underlying t).run P w = .ok (.slice E) w := fun w => by simp [underlying, h.und]
  have hb : (Instr.sliceBounds true 0 0 (some (.int k (0 : Nat))) none none).run P w = .ok (0, 0, 0) w := by simp [Instr.sliceBounds, Instr.sliceBound, asIntOf]
  have : (Instr.sliceAt t (.slice none 0 0) (some (.int k (0 : Nat))) none none).run P w = .ok (.slice none 0 0) w := by
    rw [Instr.sliceAt, Sem.run_bind, hu, Result.andThen_ok]
    simp only [Instr.slice]
    rw [Sem.run_bind, hu, Result.andThen_ok]
    simp only
    rw [Sem.run_bind, hb, Result.andThen_ok]
    simp only
    rw [Sem.run_bind, h.size, Result.andThen_ok]
    simp
  simp only [execOp, hE.eval hx, hE.eval hy, Option.map]; exact run_v this
theorem rSlcN0 {t E : Nat} {k : IntKind} [h : SliceT P t E 1] (hx : opv f x = some (.slice none 0 0)) (hy : opv f y = some (.int k (0 : Nat))) : Reads P W s f (.slice t x none (some y) none) (.slice none 0 0) := fun N a w dst ty pos aft hE hS => by
  have hu : ∀ w, (underlying t).run P w = .ok (.slice E) w := fun w => by simp [underlying, h.und]
  have hb : (Instr.sliceBounds true 0 0 none (some (.int k (0 : Nat))) none).run P w = .ok (0, 0, 0) w := by simp [Instr.sliceBounds, Instr.sliceBound, asIntOf]
  have : (Instr.sliceAt t (.slice none 0 0) none (some (.int k (0 : Nat))) none).run P w = .ok (.slice none 0 0) w := by
    rw [Instr.sliceAt, Sem.run_bind, hu, Result.andThen_ok]
    simp only [Instr.slice]
    rw [Sem.run_bind, hu, Result.andThen_ok]
    simp only
    rw [Sem.run_bind, hb, Result.andThen_ok]
    simp only
    rw [Sem.run_bind, h.size, Result.andThen_ok]
    simp
  simp only [execOp, hE.eval hx, hE.eval hy, Option.map]; exact run_v this
theorem rSlcN2 {t E : Nat} {k k' : IntKind} [h : SliceT P t E 1] (hx : opv f x = some (.slice none 0 0)) (hy : opv f y = some (.int k (0 : Nat))) (hz : opv f z = some (.int k' (0 : Nat))) : Reads P W s f (.slice t x (some y) (some z) none) (.slice none 0 0) := fun N a w dst ty pos aft hE hS => by
  have hu : ∀ w, (underlying t).run P w = .ok (.slice E) w := fun w => by simp [underlying, h.und]
  have hb : (Instr.sliceBounds true 0 0 (some (.int k (0 : Nat))) (some (.int k' (0 : Nat))) none).run P w = .ok (0, 0, 0) w := by simp [Instr.sliceBounds, Instr.sliceBound, asIntOf]
  have : (Instr.sliceAt t (.slice none 0 0) (some (.int k (0 : Nat))) (some (.int k' (0 : Nat))) none).run P w = .ok (.slice none 0 0) w := by
    rw [Instr.sliceAt, Sem.run_bind, hu, Result.andThen_ok]
    simp only [Instr.slice]
    rw [Sem.run_bind, hu, Result.andThen_ok]
    simp only
    rw [Sem.run_bind, hb, Result.andThen_ok]
    simp only
    rw [Sem.run_bind, h.size, Result.andThen_ok]
    simp
  simp only [execOp, hE.eval hx, hE.eval hy, hE.eval hz, Option.map]; exact run_v this
/-- append(nil, make([]byte, n)...) -/
theorem dAppMk {t t' E n : Nat} [ht : SliceT P t E 1] [he : ByteT P E] [hi : IntT P t' .i64] (hx : opv f x = some (.slice none 0 0)) (hy : opv f y = some (.int .i64 (n : Int))) (h0 : 0 < n) (hb : n ≤ 1099511627776) :
    Does P W s f (.call { callee := .builtin .append, args := #[x, y], argTypes := #[t, t'] }) (fun v' w' => ∃ b k, (v' = .slice (some ⟨b, 0, none⟩) n (n + k) ∧ n + k ≤ 9223372036854775807) ∧ St W (bys E b (List.replicate (n + k) 0) :: s) w') := fun N a w dst ty pos aft hE hS => by
  obtain ⟨i, hi1, hs1, hb1, hz⟩ := he.info
  obtain ⟨k, hk, hkl⟩ : ∃ k, (Question.appendCap (0 + n) 0 E).cut (w.tape w.drawn (.appendCap (0 + n) 0 E)) = 0 + n + k ∧ k < 9223372036854775808 - (0 + n) := ⟨_, rfl, Nat.mod_lt _ (by omega)⟩
  have hn : ¬ (0 + n ≤ 0) := by omega
  have h63' : ¬ (9223372036854775807 < (((0 : Nat) : Int) + (n : Int))) := by omega
  have h48' : ¬ (281474976710656 < Builtin.nextslicecap (0 + n) 0 * i.bytes) := by have := growslice_fits (need := 0 + n) (old := 0) (bytes := i.bytes) (by omega) (by rw [hb1]; omega); omega
  have hw : IntKind.i64.wrap (n : Int) = n := w64 (by omega) (by omega)
  have hl : ¬ ((n : Int) < 0) := by omega
  have hl2 : ¬ (281474976710656 < (n : Int) * (i.bytes : Int)) := by rw [hb1]; omega
  have hzc : ∀ k, Builtin.zeroCells (Value.int .u8 0).cells k = (byl (List.replicate k 0)).toArray := fun k => by
    rw [show (Value.int .u8 0).cells = #[.int .u8 0] from rfl, run_zeroCells]
    simp [byl, byteV]
  have hrun : (Builtin.append_ #[t, t'] ty #[.slice none 0 0, .int .i64 (n : Int)]).run P w = .ok (.slice (some ⟨w.heap.size, 0, none⟩) n (n + k)) (w.drew.alloc (.cells (byl (List.replicate (n + k) 0)).toArray E)) := by
    rw [hb1] at h48' hl2
    simp only [Nat.zero_add, Nat.mul_one] at hk h48' hn
    have h63 : ¬ (9223372036854775807 < (n : Int)) := by omega
    have hl3 : ¬ (281474976710656 < (n : Int)) := by omega
    have hn0 : n ≠ 0 := by omega
    have hne : ¬ ((n : Int) ≤ 0) := by omega
    have hle : n ≤ n + k := by omega
    simp [Builtin.append_, underlying, ht.und, hi.und, sizeOf, typeInfo, zeroValue, hi1, hz, hs1, hb1, asInt, asIntOf, hw, hl, hl3, hn0, hne, h63, h48', Builtin.firstCells, Question.forced, hk, newRow, hzc]
    rw [← byl_append, List.replicate_append_replicate]
  refine ⟨_, _, .inl ?_, w.heap.size, k, ⟨rfl, by omega⟩, (hS.drew).alloc_bys⟩
  rw [BigFrame.execOp_builtin, BigFrame.builtin_append]
  simp only [List.map_toArray, List.map_cons, List.map_nil, hE.eval hx, hE.eval hy]; exact run_v hrun
/-- ranging over a map; over an empty one -/
theorem dRangeM {t K E0 b : Nat} {es : List (List UInt8 × Value)} [ht : MapT P t K E0] (hx : opv f x = some (.map (some b))) (hp : Pull (mp b es) s r) : Does P W s f (.range t x) (fun v w' => ∃ b' c, v = ptr b' 0 ∧ St W (pt b' (.mapIter (some b) c #[] c) :: s) w') := fun N a w dst ty pos aft hE hS => by
  obtain ⟨arr, clock, h1, h2⟩ := (hS.pull hp).open_mp
  have hb := h2.block .head
  refine ⟨ptr w.heap.size 0, w.alloc (.mapIter (some b) clock #[] clock), .inl ?_, w.heap.size, clock, rfl, hS.alloc _⟩
  simp only [execOp, hE.eval hx]; refine run_v ?_
  simp [Instr.range, underlying, ht.und, getObj, Sem.run, hb]
theorem dNextM0 {b b' c : Nat} (hx : opv f x = some (ptr b' 0)) (hp : Pull (pt b' (.mapIter (some b) c #[] c)) s r) (hq : Pull (mp b []) s m) :
    Does P W s f (.next x false) (fun v w' => v = .tuple #[.bool false] ∧ St W s w') := fun N a w dst ty pos aft hE hS => by
  have hb := hS.block hp
  obtain ⟨arr, clock, h1, h2⟩ := (hS.pull hq).open_mp
  have hb2 := h2.block .head
  have harr : arr = #[] := by
    have : arr.toList = [] := by simpa using h1
    exact Array.ext' (by simpa using this)
  subst harr
  have hrun : (Instr.next (ptr b' 0) false ty).run P w = .ok (.tuple #[.bool false]) w := by
    simp [Instr.next, getObj, Sem.run, hb, hb2, Question.forced]
  exact ⟨_, _, .inl (by simp only [execOp, hE.eval hx]; exact run_v hrun), rfl, hS⟩

/-! ## frames with deferred calls -/
structure EnvD (D : List Deferred) (N : Nat) (f : Ev) (a : Act) : Prop where
  defers : a.defers = D
  size : a.tmps.size = N
  get : ∀ i v, f i = some v → a.tmps[i]? = some v
variable {D : List Deferred} {N : Nat} {a : Act} {ops : Array Oper} {C K : Act → World → Prop} {d : Nat} {ty : TypeId} {pos : String} {aft : Array Edge} {l : List Oper} {op : Op}
theorem EnvD.base (h : EnvD D N f a) : Env N f { a with defers := [] } := ⟨rfl, h.size, h.get⟩
theorem EnvD.eval {D : List Deferred} (h : EnvD D N f a) {x : Operand} (hx : opv f x = some v) : a.eval x = v := h.base.eval hx
theorem EnvD.put (h : EnvD D N f a) {d : Nat} (hd : Nat.blt d N = true) : EnvD D N (upd f d v) (a.put (some d) v) := by
  have k := h.base.put (v := v) hd
  exact ⟨h.defers, k.size, k.get⟩
theorem EnvD.cut (h : EnvD D N f a) {l : List (Nat × Value)} (k : allIn f l) : EnvD D N (envL l) a := by
  have q := h.base.cut k
  exact ⟨h.defers, q.size, q.get⟩
theorem EnvD.of (h : Env N f a) (hd : a.defers = D) : EnvD D N f a := ⟨hd, h.size, h.get⟩
theorem prD (hE : EnvD D N f a) (hS : St W s w) (r : Reads P W s f op v) (hd : Nat.blt d N = true) (h : ∀ a, EnvD D N (upd f d v) a → wk P ops (fun _ => True) K [] l a w) :
    wk P ops (fun _ => True) K [] (⟨some d, op, ty, pos, aft, none⟩ :: l) a w := by
  have hr : (execOp a.eval ⟨some d, op, ty, pos, aft, none⟩).run P w = .ok (.value v) w := r N { a with defers := [] } w (some d) ty pos aft hE.base hS
  simp only [wk, Region.wanted, if_true, swp, hr]
  exact ⟨trivial, h _ (hE.put hd)⟩
theorem pdD {R : Value → World → Prop} (hE : EnvD D N f a) (hS : St W s w) (r : Does P W s f op R) (hd : Nat.blt d N = true)
    (h : ∀ v w' a, R v w' → EnvD D N (upd f d v) a → wk P ops (fun _ => True) K [] l a w') : wk P ops (fun _ => True) K [] (⟨some d, op, ty, pos, aft, none⟩ :: l) a w := by
  obtain ⟨v, w', h1, hR⟩ := r N { a with defers := [] } w (some d) ty pos aft hE.base hS
  change (execOp a.eval ⟨some d, op, ty, pos, aft, none⟩).run P w = _ ∨ v = undef ∧ (execOp a.eval ⟨some d, op, ty, pos, aft, none⟩).run P w = _ at h1
  simp only [wk, Region.wanted, if_true, swp]
  rcases h1 with h1 | ⟨rfl, h1⟩
  · rw [h1]; exact ⟨trivial, h _ _ _ hR (hE.put hd)⟩
  · rw [h1]; exact ⟨trivial, h _ _ _ hR (hE.put hd)⟩
theorem pnD {R : Value → World → Prop} (hE : EnvD D N f a) (hS : St W s w) (r : Does P W s f op R)
    (h : ∀ v w', R v w' → wk P ops (fun _ => True) K [] l a w') : wk P ops (fun _ => True) K [] (⟨none, op, ty, pos, aft, none⟩ :: l) a w := by
  obtain ⟨v, w', h1, hR⟩ := r N { a with defers := [] } w none ty pos aft hE.base hS
  change (execOp a.eval ⟨none, op, ty, pos, aft, none⟩).run P w = _ ∨ v = undef ∧ (execOp a.eval ⟨none, op, ty, pos, aft, none⟩).run P w = _ at h1
  simp only [wk, Region.wanted, if_true, swp]
  rcases h1 with h1 | ⟨rfl, h1⟩
  · rw [h1]; exact ⟨trivial, h _ _ hR⟩
  · rw [h1]; exact ⟨trivial, h _ _ hR⟩
theorem pcD {g : FuncId} {args : List Value} {R : Ending → World → Prop} (hE : EnvD D N f a) (hS : St W s w) (r : Goes P W s f op g args) (hd : Nat.blt d N = true) (hc : Calls P g args.toArray w R)
    (h : ∀ e w', R e w' → ∃ v, e = .returned v ∧ ∀ a, EnvD D N (upd f d v) a → wk P ops (fun _ => True) K [] l a w') : wk P ops (fun _ => True) K [] (⟨some d, op, ty, pos, aft, none⟩ :: l) a w := by
  have hr : (execOp a.eval ⟨some d, op, ty, pos, aft, none⟩).run P w = .ok (.enter g args.toArray) w := r N { a with defers := [] } w (some d) ty pos aft hE.base hS
  simp only [wk, Region.wanted, if_true, swp, hr]
  exact hc.mono fun e w' hR => let ⟨v, he, hk⟩ := h e w' hR; ⟨v, he, trivial, hk _ (hE.put hd)⟩
theorem cw_condTD {k : Kt} {c : Operand} {x y : Code} (hE : EnvD D N f a) (hc : opv f c = some (.bool true)) (h : cw P x k a w) : cw P (.cond c x y) k a w := by
  unfold cw at *
  exact wp_cond_true (hE.eval hc) h
theorem cw_condFD {k : Kt} {c : Operand} {x y : Code} (hE : EnvD D N f a) (hc : opv f c = some (.bool false)) (h : cw P y k a w) : cw P (.cond c x y) k a w := by
  unfold cw at *
  exact wp_cond_false (hE.eval hc) h
/-- what follows when a function with deferred calls ends -/
def retsD (P : Program) (fn : Func) (R : Ending → World → Prop) (a : Act) (w : World) : Prop := Leaves P fn a.tmps R a.defers .returning w
theorem fn_callsD {f : FuncId} {fn : Func} {c : Code} {args : List Value} {w : World} {R : Ending → World → Prop} {N : Nat} (hf : P.funcs[f]? = some fn) (hb : fn.body = some c)
    (hn : fn.ntmps = N) (hle : Nat.ble args.length N = true) (h : ∀ a, Env N (argE 0 args) a → cw P c ⟨retsD P fn R, retsD P fn R, fun _ => none⟩ a w) : Calls P f args.toArray w R := by
  refine calls_of_wp_defers hf hb ?_
  subst hn
  have := h _ (env_enter hle)
  unfold cw at this
  refine wp_mono this fun e a w q => ?_
  cases e with
  | normal => exact q
  | ret => exact q
  | exit i => exact q.elim
  | _ => exact q.elim
/-- a deferred function that looks for a panic where there is none -/
theorem recover_quiet {g : FuncId} {fn : Func} {X : Code} {id : Nat} {d1 d2 : Nat} {t t' ty1 ty2 : TypeId} {pos1 pos2 : String} {aft1 aft2 : Array Edge} {args : List Value} {N : Nat} (hf : P.funcs[g]? = some fn)
    (hb : fn.body = some (.seq (.region id #[⟨some d1, .call { callee := .builtin .recover, args := #[], argTypes := #[] }, ty1, pos1, aft1, none⟩, ⟨some d2, .binOp .neq t (.tmp d1) (.const .nilIface) t', ty2, pos2, aft2, none⟩] false) (.cond (.tmp d2) X .skip)))
    (hr : fn.results = #[]) (hn : fn.ntmps = N) (hle : Nat.ble args.length N = true) (h1 : Nat.blt d1 N = true) (h2 : Nat.blt d2 N = true) [ht : IfaceT P t] :
    CallsD P g args.toArray .returning w fun e u w' => u = .returning ∧ (∃ v, e = .returned v) ∧ w' = w := by
  refine callsD_of_wpS hf hb fun c₀ cs hc => wpS_seq (wpS_region ?_)
  have hE := env_enter (args := args) (N := N) hle
  subst hn
  have hE1 := hE.put (v := .nilIface) h1
  have hrun : ∀ a : Act, Env fn.ntmps (upd (argE 0 args) d1 .nilIface) a → (execOp a.eval ⟨some d2, .binOp .neq t (.tmp d1) (.const .nilIface) t', ty2, pos2, aft2, none⟩).run P w = .ok (.value (.bool (!true))) w :=
    fun a hE => rNilNilN (W := w) (s := [old w]) (x := .tmp d1) (show opv (upd (argE 0 args) d1 .nilIface) (.tmp d1) = some .nilIface from upd_same _ _ _) _ a w _ _ _ _ hE (St.start w)
  have hE2 := hE1.put (v := .bool false) h2
  have hrec : recoverD (c₀ :: cs) = none := by simp [recoverD, hc]
  have hx := hrun _ hE1
  have e1 : ∀ a : Act, (execOp a.eval ⟨some d1, .call { callee := .builtin .recover, args := #[], argTypes := #[] }, ty1, pos1, aft1, none⟩).run P w = .ok .recover w := fun a => by
    rw [BigFrame.execOp_builtin, BigFrame.builtin_recover]; rfl
  rw [show List.range (#[(⟨some d1, .call { callee := .builtin .recover, args := #[], argTypes := #[] }, ty1, pos1, aft1, none⟩ : Oper), ⟨some d2, .binOp .neq t (.tmp d1) (.const .nilIface) t', ty2, pos2, aft2, none⟩]).size = [0, 1] from rfl]
  simp only [wpOpsS, List.getElem?_toArray, List.getElem?_cons_zero, List.getElem?_cons_succ, Region.wanted, if_true, e1, hrec, hx]
  refine wpS_cond (t := false) (hE2.eval (x := .tmp d2) (upd_same _ _ _)) ?_
  refine wpS_of_wp (wp_skip ?_)
  refine ⟨hE2.defers, .returning, ?_, .tuple #[], results_none hr _ _ _, rfl, ⟨_, rfl⟩, rfl⟩
  rw [← hc]
/-- a region that makes a function and defers it; one that defers a function -/
theorem cw_defer1 {k : Kt} {id : Nat} {g : FuncId} {ty1 ty2 : TypeId} {pos1 pos2 : String} {aft1 aft2 : Array Edge} {d1 : Nat} {z : Operand} (hE : Env N f a) (hz : opv f z = some v) (h1 : Nat.blt d1 N = true)
    (h : ∀ a, EnvD [⟨.fn (.func g) #[v], #[]⟩] N (upd f d1 (.func (.func g) #[] #[v])) a → k.nrm a w) :
    cw P (.region id #[⟨some d1, .makeFunc (.func g) #[] #[z], ty1, pos1, aft1, none⟩, ⟨none, .defer { callee := .value (.tmp d1), args := #[], argTypes := #[] }, ty2, pos2, aft2, none⟩] false) k a w := by
  unfold cw
  refine wp_region ?_
  have e1 : (execOp a.eval ⟨some d1, .makeFunc (.func g) #[] #[z], ty1, pos1, aft1, none⟩).run P w = .ok (.value (.func (.func g) #[] #[v])) w :=
    rFunc (fn := .func g) (W := w) (s := [old w]) (xs := []) (ys := [z]) (vs := []) (us := [v]) rfl (by simp [opvs, hz]) N a w _ _ _ _ hE (St.start w)
  have hE1 := hE.put (v := .func (.func g) #[] #[v]) h1
  have he := hE1.eval (x := .tmp d1) (upd_same _ _ _)
  have e2 : (execOp (a.put (some d1) (.func (.func g) #[] #[v])).eval ⟨none, .defer { callee := .value (.tmp d1), args := #[], argTypes := #[] }, ty2, pos2, aft2, none⟩).run P w = .ok (.defer ⟨.fn (.func g) #[v], #[]⟩) w := by
    simp [execOp, resolve, he, Deferred.ofValue]
  rw [show List.range (#[(⟨some d1, .makeFunc (.func g) #[] #[z], ty1, pos1, aft1, none⟩ : Oper), ⟨none, .defer { callee := .value (.tmp d1), args := #[], argTypes := #[] }, ty2, pos2, aft2, none⟩]).size = [0, 1] from rfl]
  simp only [wpOps, wpOp, List.getElem?_toArray, List.getElem?_cons_zero, List.getElem?_cons_succ, Region.wanted, if_true, Oper.wp, e1, e2, Oper.upon]
  left
  left
  refine h _ ⟨?_, ?_, ?_⟩
  · show _ :: _ = _; rw [hE1.defers]
  · exact hE1.size
  · exact hE1.get
theorem cw_defer0 {k : Kt} {id : Nat} {g : FuncId} {ty2 : TypeId} {pos2 : String} {aft2 : Array Edge} (hE : Env N f a)
    (h : ∀ a, EnvD [⟨.fn (.func g) #[], #[]⟩] N f a → k.nrm a w) :
    cw P (.region id #[⟨none, .defer { callee := .value (.func g), args := #[], argTypes := #[] }, ty2, pos2, aft2, none⟩] false) k a w := by
  unfold cw
  refine wp_region ?_
  have e2 : (execOp a.eval ⟨none, .defer { callee := .value (.func g), args := #[], argTypes := #[] }, ty2, pos2, aft2, none⟩).run P w = .ok (.defer ⟨.fn (.func g) #[], #[]⟩) w := by
    simp [execOp, resolve, Act.eval, Deferred.ofValue]
  rw [show List.range (#[(⟨none, .defer { callee := .value (.func g), args := #[], argTypes := #[] }, ty2, pos2, aft2, none⟩ : Oper)]).size = [0] from rfl]
  simp only [wpOps, wpOp, List.getElem?_toArray, List.getElem?_cons_zero, Region.wanted, if_true, Oper.wp, e2, Oper.upon]
  left
  refine h _ ⟨?_, ?_, ?_⟩
  · show _ :: _ = _; rw [hE.defers]
  · exact hE.size
  · exact hE.get
/-- the end of a function with one deferred call that looks for a panic -/
theorem kretD {fn : Func} {R : Ending → World → Prop} {g : FuncId} {caps : List Value} [he : Enters P g] (hE : EnvD [⟨.fn (.func g) caps.toArray, #[]⟩] N f a)
    (hq : CallsD P g caps.toArray .returning w fun e u w' => u = .returning ∧ (∃ v, e = .returned v) ∧ w' = w) (hl : (results fn a.tmps).run P w = .ok v w) (hR : R (.returned v) w) : retsD P fn R a w := by
  unfold retsD
  rw [hE.defers]
  refine leaves_cons (f := g) (args := caps.toArray) (fun h => by cases h) ?_ (hq.mono fun e u w' ⟨h1, ⟨x, h2⟩, h3⟩ => ?_)
  · simp [invoke, he.run]
  · subst h1 h2 h3
    exact ⟨v, hl, hR⟩
theorem kretD1 {fn : Func} {R : Ending → World → Prop} {g : FuncId} {caps : List Value} {t : Tmp} [he : Enters P g] (hE : EnvD [⟨.fn (.func g) caps.toArray, #[]⟩] N f a)
    (hq : CallsD P g caps.toArray .returning w fun e u w' => u = .returning ∧ (∃ v, e = .returned v) ∧ w' = w) (hr : fn.results = #[.tmp t]) (ht : f t = some v) (hR : R (.returned v) w) : retsD P fn R a w := by
  refine kretD (v := v) hE hq ?_ hR
  have := hE.get _ _ ht
  rw [results_tmp hr]; simp [this]
theorem kretDc {fn : Func} {R : Ending → World → Prop} {g : FuncId} {caps : List Value} {t : Tmp} {T : TypeId} {b off : Nat} [he : Enters P g] (hE : EnvD [⟨.fn (.func g) caps.toArray, #[]⟩] N f a)
    (hq : CallsD P g caps.toArray .returning w fun e u w' => u = .returning ∧ (∃ v, e = .returned v) ∧ w' = w) (hr : fn.results = #[.cell t T]) (ht : f t = some (ptr b off)) (hl : (loadVar T ⟨b, off, none⟩).run P w = .ok v w) (hR : R (.returned v) w) : retsD P fn R a w := by
  refine kretD (v := v) hE hq ?_ hR
  have := hE.get _ _ ht
  simp [results, hr, this, asAddr, hl]
end
end Eng
end Go
end
section
namespace Go.Proofs
open Go.Eng
def isSp (c : UInt8) : Bool := c == 32 || c == 9
theorem c57 {W w : World} {L : List SL} {c : UInt8} (hS : St W L w) : Calls Tryz.prog 57 #[byteV c] w fun e w' => e = .returned (.bool (isSp c)) ∧ St W L w' := by
  refine fn_calls (args := [byteV c]) Tryz.func57 rfl rfl rfl ?_; refine Xs (Xg (XX 1 hS rfl (Xn (Xs ?_)))); intro a hE; cases h : (c == 32) with
  | true =>
    revert a; refine Xg (XX 1 hS rfl ?_); intro a hE; refine pr hE hS (rB8 (d := 32) rfl rfl h) rfl fun a hE => ?_; revert a; refine XX 5 hS rfl (Xn (Xr ?_)); exact X1 rfl rfl ⟨by simp [isSp, h], hS⟩
  | false =>
    revert a; refine Xg (XX 1 hS rfl ?_); intro a hE; refine pr hE hS (rB8 (d := 32) rfl rfl h) rfl fun a hE => ?_; revert a; refine XX 5 hS rfl (XA rfl rfl (XR hS (rB8 (d := 9) rfl rfl rfl) rfl (XX 2 hS rfl (Xn (Xr ?_))))); exact X1 rfl rfl ⟨by simp [isSp, h], hS⟩
end Go.Proofs
end
section
namespace Go.Proofs
open Go.Eng

/-- the package-level variables that are read -/
structure Gl (W : World) where
  b1 : Addr
  g1 : W.cell? ⟨1, 0, none⟩ = some (.iface 166 (.pointer (some b1)))
  b3 : Addr
  g3 : W.cell? ⟨3, 0, none⟩ = some (.iface 166 (.pointer (some b3)))
  b0 : Addr
  g0 : W.cell? ⟨0, 0, none⟩ = some (.iface 166 (.pointer (some b0)))
  g12 : ∀ n, 32 < n → n < 128 → W.cell? ⟨12, n, none⟩ = some (.int .u8 0)
  b5 : Addr
  g5 : W.cell? ⟨5, 0, none⟩ = some (.iface 166 (.pointer (some b5)))

/-- nil, or io.EOF -/
abbrev erv {W : World} (g : Gl W) : Bool → Value
  | true => .iface 166 (.pointer (some g.b1))
  | false => .nilIface

theorem erv_one {W : World} {g : Gl W} {e : Bool} : (erv g e).oneCell' = true := by cases e <;> rfl
/-- something that is read from: what is left, and what Read does -/
structure Src (W : World) (g : Gl W) where
  T : TypeId
  v : Value
  fn : FuncId
  one : v.oneCell' = true
  meth : MethodOf Tryz.prog T "Read" fn
  ent : Enters Tryz.prog fn
  inv : List UInt8 → SL
  read : ∀ {w : World} {L : List SL} {bb off n cap : Nat} {c rest : List UInt8}, St W (inv rest :: bys 5 bb c :: old W :: L) w → 0 < n → n ≤ cap → off + n ≤ c.length → c.length ≤ 9223372036854775807 →
    Calls Tryz.prog fn #[v, .slice (some ⟨bb, off, none⟩) n cap] w fun e w' => ∃ (k : Nat) (c' : List UInt8) (eof : Bool) (rest' : List UInt8),
      e = .returned (.tuple #[.int .i64 (k : Int), erv g eof]) ∧ k ≤ n ∧ c'.length = c.length ∧ c'.take off = c.take off ∧ rest = (c'.drop off).take k ++ rest' ∧ (eof = true → rest' = []) ∧ (k = 0 → eof = true) ∧
      St W (inv rest' :: bys 5 bb c' :: old W :: L) w'

/-- a bufio.Reader's fields and buffer, and what is left behind it -/
structure BS where
  bb : Nat
  c : List UInt8
  r : Nat
  w : Nat
  eof : Bool
  lb : Int
  ls : Int
  rest : List UInt8
structure BS.ok (B : BS) : Prop where
  rw : B.r ≤ B.w
  wc : B.w ≤ B.c.length
  lo : 16 ≤ B.c.length
  hi : B.c.length ≤ 1073741824
  fin : B.eof = true → B.rest = []
/-- what is read but not told yet -/
def BS.have (B : BS) : List UInt8 := (B.c.take B.w).drop B.r
def BS.str (B : BS) : List UInt8 := B.have ++ B.rest
abbrev BS.cells {W : World} {g : Gl W} (B : BS) (S : Src W g) : List Value :=
  [.slice (some ⟨B.bb, 0, none⟩) B.c.length B.c.length, .iface S.T S.v, .int .i64 (B.r : Int), .int .i64 (B.w : Int), erv g B.eof, .int .i64 B.lb, .int .i64 B.ls]
theorem BS.have_len {B : BS} (h : B.ok) : B.have.length = B.w - B.r := by
  have := h.wc; simp [BS.have]; omega

/-- a bufio.Reader at 'b', its parts -/
abbrev bfp {W : World} {g : Gl W} (S : Src W g) (b : Nat) (B : BS) (L : List SL) : List SL := S.inv B.rest :: bys 5 B.bb B.c :: old W :: cel b (B.cells S) 171 (0, 0) :: L
section
variable {W w : World} {g : Gl W} {S : Src W g} {L : List SL} {b : Nat} {B : BS}
/-- (*bufio.Reader).fill -/
theorem c82 (hS : St W (bfp S b B L) w) (hk : B.ok) (hne : B.eof = false) (hfull : B.w - B.r < B.c.length) :
    Calls Tryz.prog 82 #[ptr b 0] w fun e w' => ∃ B' : BS, (e = .returned (.tuple #[]) ∧ B'.ok ∧ B'.str = B.str ∧ B'.bb = B.bb ∧ B'.c.length = B.c.length ∧ B'.lb = B.lb ∧ B'.ls = B.ls ∧ (∃ t, B'.have = B.have ++ t ∧ (B'.eof = true ∨ 0 < t.length)) ∧ B'.r = 0) ∧ St W (bfp S b B' L) w' := by
  obtain ⟨bb, c, r, n, eof, lb, ls, rest⟩ := B; obtain ⟨h1, h2, h3, h4, h5⟩ := hk; dsimp only [BS.cells, bfp, BS.str, BS.have] at *; subst hne; have := S.meth; have := S.ent; refine fn_calls (args := [ptr b 0]) Tryz.func82 rfl rfl rfl fun a hE => ?_; refine cw_seqj (fun a w => Env 99 (envL [(0, ptr b 0)]) a ∧ ∃ (c' : List UInt8) (n' : Nat), c'.length = c.length ∧ n' = n - r ∧ c'.take n' = (c.take n).drop r ∧ St W (S.inv rest :: bys 5 bb c' :: old W :: cel b [.slice (some ⟨bb, 0, none⟩) c'.length c'.length, .iface S.T S.v, .int .i64 ((0 : Nat) : Int), .int .i64 (n' : Int), erv g false, .int .i64 lb, .int .i64 ls] 171 (0, 0) :: L) w) ?_ ?_; refine cw_seq ?_
  · rcases Nat.eq_zero_or_pos r with h0 | h0
    · subst h0; revert a; refine Xg (XX 1 hS rfl (XR hS (rNil rfl) rfl (XR hS (rField rfl) rfl (XR hS (rLoad rfl (by exact rfl)) rfl ?_)))); refine XR hS (rCmp rfl rfl (cmp_gtrF (by omega))) rfl ?_; refine Xn (Xf rfl (Xk ?_)); intro a hE; exact ⟨hE.cut ⟨rfl, trivial⟩, c, n, rfl, by omega, by simp, hS⟩
    · revert a; refine Xg (XX 1 hS rfl (XR hS (rNil rfl) rfl (XR hS (rField rfl) rfl (XR hS (rLoad rfl (by exact rfl)) rfl ?_)))); refine XR hS (rCmp rfl rfl (cmp_gtrT (by omega))) rfl ?_; refine Xn (Xt rfl (Xs ?_)); refine Xh ([]) [.s, .s, .s, .r, .s, .s, .s, .r, .s, .s, .s, .r, .s, .s, .s, .r, .s, .e] mixed (by kernel_rfl) hS ?_; clear hS; intro w hS; refine XS (rMove rfl) rfl (XS (rNil rfl) rfl (XS (rField rfl) rfl (XT hS (rLoad rfl (by exact rfl)) rfl ?_))); refine XS (rMove rfl) rfl (XS (rNil rfl) rfl (XS (rField rfl) rfl (XT hS (rLoad rfl (by exact rfl)) rfl ?_))); refine XS (rMove rfl) rfl (XS (rNil rfl) rfl (XS (rField rfl) rfl (XT hS (rLoad rfl (by exact rfl)) rfl ?_))); refine XS (rMove rfl) rfl (XS (rNil rfl) rfl (XS (rField rfl) rfl (XT hS (rLoad rfl (by exact rfl)) rfl ?_))); refine XS (rSlc2 rfl rfl rfl (by omega) (by omega)) rfl ?_
      refine XL hS (dCopyS (n := n - r) (off := 0) (off2 := slo 0 r c.length) rfl rfl (by omega) (by omega) (by unfold slo; split <;> omega) rfl) rfl ?_; clear hS; intro vr w hR; obtain ⟨rfl, hS⟩ := hR; refine Xn (Xs ?_); refine Xh ([]) [.s, .s, .s, .r, .s, .s, .s, .r, .s, .s, .s, .e] mixed (by kernel_rfl) hS ?_; clear hS; intro w hS; refine XS (rMove rfl) rfl (XS (rNil rfl) rfl (XS (rField rfl) rfl (XT hS (rLoad rfl (by exact rfl)) rfl ?_))); refine XS (rMove rfl) rfl (XS (rNil rfl) rfl (XS (rField rfl) rfl (XT hS (rLoad rfl (by exact rfl)) rfl ?_))); refine XS (rSubN rfl rfl (by first | omega | (simp <;> omega)) (by first | omega | (simp <;> omega)) rfl) rfl ?_; refine XS (rNil rfl) rfl (XS (rField rfl) rfl ?_); refine XM hS (dStoreL rfl rfl (by exact rfl) rfl (by first | rfl | assumption | exact erv_one)) ?_; clear hS; intro _ w hS
      refine Xn (Xg (XX 1 hS rfl (XR hS (rNil rfl) rfl (XR hS (rField rfl) rfl ?_)))); refine XN hS (dStoreL rfl rfl (by exact rfl) rfl (by first | rfl | assumption | exact erv_one)) ?_; clear hS; intro _ w hS; refine Xn ?_; obtain ⟨c', hc'⟩ : ∃ c', c' = c.take 0 ++ (c.drop (slo 0 r c.length)).take (n - r) ++ c.drop (0 + (n - r)) := ⟨_, rfl⟩; rw [← hc'] at hS; intro a hE; have hl : c'.length = c.length := by rw [hc']; simp [slo]; split <;> omega
      have ht : c'.take (n - r) = (c.take n).drop r := by
        rw [hc']; rcases Nat.lt_or_ge r c.length with hr | hr
        · rw [slo_is hr rfl, List.take_zero, List.nil_append, Nat.zero_add, List.take_append_of_le_length (by simp; omega), List.take_take, Nat.min_self, List.drop_take]
        · have : n - r = 0 := by omega
          rw [this]; simp; omega
      refine ⟨hE.cut ⟨rfl, trivial⟩, c', n - r, hl, rfl, ht, ?_⟩; rw [hl]; exact hS
  · rintro a w ⟨hE, c', n', q1, q2, q3, hS⟩; have hlen : n' < c'.length := by omega
    revert a; refine Xs (Xs ?_); refine Xd [.s, .s, .s, .s, .s, .s, .s, .s, .s, .s] mixed (by kernel_rfl) hS ?_; clear hS; intro w hS; refine XS (rMove rfl) rfl (XS (rNil rfl) rfl (XS (rField rfl) rfl (XS (rLoad rfl (by exact rfl)) rfl ?_))); refine XS (rMove rfl) rfl (XS (rNil rfl) rfl (XS (rField rfl) rfl (XS (rLoad rfl (by exact rfl)) rfl ?_))); refine XS (rLen rfl) rfl (XS (rCmp rfl rfl (cmp_geqF (by omega))) rfl ?_); refine Xn (Xf rfl (Xk (Xs (Xs (Xg (XX 1 hS rfl (Xn (Xb ?_)))))))); intro a hE; refine cw_loop (fun (_ : Unit) a w => Env 99 (envL [(0, ptr b 0), (2, .int .i64 100)]) a ∧ St W _ w) (fun _ => 0) () ⟨hE.cut ⟨rfl, rfl, trivial⟩, hS⟩ ?_; rintro ⟨⟩ a w ⟨hE, hS⟩; revert a; refine Xs (Xs (Xg (XX 1 hS rfl (XR hS (rCmp rfl rfl (cmp_gtrT (by omega))) rfl ?_)))); refine Xn (Xt rfl (Xk (Xs (Xb (Xs ?_)))))
    refine Xh ([]) [.s, .s, .s, .r, .s, .s, .s, .r, .s, .s, .s, .r, .s, .s, .s, .h, .s, .s, .s, .s, .s] mixed (by kernel_rfl) hS ?_; clear hS; intro w hS; refine XS (rMove rfl) rfl (XS (rNil rfl) rfl (XS (rField rfl) rfl (XT hS (rLoad rfl (by exact rfl)) rfl ?_))); refine XS (rMove rfl) rfl (XS (rNil rfl) rfl (XS (rField rfl) rfl (XT hS (rLoad rfl (by exact rfl)) rfl ?_))); refine XS (rMove rfl) rfl (XS (rNil rfl) rfl (XS (rField rfl) rfl (XT hS (rLoad rfl (by exact rfl)) rfl ?_))); refine XS (rSlc1o rfl rfl (by omega) (slo_is (by omega) rfl)) rfl ?_; refine XS (rNilI rfl) rfl (XS (rMove rfl) rfl ?_); refine XJ hS (gInv rfl rfl) rfl (S.read hS (by omega) (by omega) (by omega) (by omega)) ?_; clear hS; intro e w hR; (try dsimp only at hR); obtain ⟨k, c2, eof, rest', rfl, k1, k2, k3, k4, k5, k6, hS⟩ := hR; refine ⟨_, rfl, hS.sub, ?_⟩
    refine XS (rMove rfl) rfl (XS (rExtract rfl rfl) rfl (XS (rExtract rfl rfl) rfl (XS (rAssign rfl) rfl (XS (rAssign rfl) rfl (Xn (Xs (Xs (Xg (XX 1 hS rfl (XR hS (rCmp rfl rfl (cmp_lssF (by omega))) rfl ?_)))))))))); refine Xn (Xf rfl (Xk (Xs (Xg (XX 1 hS rfl (XR hS (rNil rfl) rfl (XR hS (rField rfl) rfl (XR hS (rLoad rfl (by exact rfl)) rfl ?_)))))))); refine XX 1 hS rfl (XR hS (rAddN rfl rfl (by first | omega | (simp <;> omega)) rfl) rfl ?_); refine XR hS (rNil rfl) rfl (XR hS (rField rfl) rfl ?_); refine XN hS (dStoreL rfl rfl (by exact rfl) rfl (by first | rfl | assumption | exact erv_one)) ?_; clear hS; intro _ w hS; refine Xn (Xs (Xs ?_)); have hstr : (c2.take (n' + k)) = (c.take n).drop r ++ (c2.drop n').take k := by
      rw [← q3, List.take_add]; congr 1; have : c2.take n' = c'.take n' := by simpa using k3
      exact this
    have hB' : ∀ eof', (eof' = true → rest' = []) → BS.ok ⟨bb, c2, 0, n' + k, eof', lb, ls, rest'⟩ := fun e h => ⟨by simp, by simp; omega, by simp; omega, by simp; omega, h⟩; intro a hE; cases eof with
    | true =>
      revert a; refine Xg (XX 1 hS rfl (XR hS (rINilN rfl) rfl (Xn (Xt rfl (Xs (Xg (XX 2 hS rfl (XR hS (rNil rfl) rfl (XR hS (rField rfl) rfl ?_))))))))); refine XN hS (dStoreL rfl rfl (by exact rfl) rfl (by first | rfl | assumption | exact erv_one)) ?_; clear hS; intro _ w hS; refine Xn (Xr ?_); refine X0 rfl ?_; exact ⟨⟨bb, c2, 0, n' + k, true, lb, ls, rest'⟩, ⟨rfl, hB' true k5, by simp [hstr, k4], rfl, by simp; omega, rfl, rfl, ⟨(c2.drop n').take k, by simp [hstr], .inl rfl⟩, rfl⟩, by rw [k2]; exact hS⟩
    | false =>
      have hk : 0 < k := by rcases Nat.eq_zero_or_pos k with h | h; · have := k6 h; cases this
                            exact h
      revert a; refine Xg (XX 1 hS rfl (XR hS (rNilNilN rfl) rfl (Xn (Xf rfl (Xk (Xs (Xg (XX 1 hS rfl (XR hS (rCmp rfl rfl (cmp_gtrT (by omega))) rfl ?_))))))))); refine Xn (Xt rfl (Xr ?_)); refine X0 rfl ?_; exact ⟨⟨bb, c2, 0, n' + k, false, lb, ls, rest'⟩, ⟨rfl, hB' false (fun h => by cases h), by simp [hstr, k4], rfl, by simp; omega, rfl, rfl, ⟨(c2.drop n').take k, by simp [hstr], .inr (by simp; omega)⟩, rfl⟩, by rw [k2]; exact hS⟩
end
end Go.Proofs
end
section
namespace Go.Proofs
open Go.Eng

/-! plain -/
theorem slo_row {c : List UInt8} {i n : Nat} (h : n ≤ c.length) : (c.drop (slo 0 i c.length)).take (n - i) = (c.take n).drop i := by
  unfold slo; split
  · rename_i e; subst e; have : n - c.length = 0 := by omega
    rw [this, List.take_zero, List.drop_eq_nil_of_le (by simp; omega)]
  · rw [Nat.zero_add, List.drop_take]
theorem slo_le {c i n : Nat} (h : n ≤ c) (hi : i ≤ n) : slo 0 i c + (n - i) ≤ c := by unfold slo; split <;> omega
theorem idx_found {p q : List UInt8} {d : UInt8} (h : d ∉ p) : Lib.indexByte (p ++ d :: q) d = (p.length : Int) := by
  induction p with
  | nil => simp [Lib.indexByte]
  | cons b p ih =>
    have h1 : ¬ (b = d) := fun e => h (by simp [e]); have h2 := ih (fun e => h (by simp [e])); simp only [List.cons_append, Lib.indexByte, beq_iff_eq, h1, if_false, h2]; rw [if_neg (by omega)]; simp
theorem idx_none {l : List UInt8} {d : UInt8} (h : d ∉ l) : Lib.indexByte l d = -1 := by
  induction l with
  | nil => rfl
  | cons b p ih =>
    have h1 : ¬ (b = d) := fun e => h (by simp [e]); simp [Lib.indexByte, h1, ih (fun e => h (by simp [e]))]

theorem bytesOf_map (l : List UInt8) : Lib.bytesOf (l.map fun c => (c.toNat : Int)) = l := by
  unfold Lib.bytesOf; rw [List.map_map]; conv => rhs; rw [← List.map_id l]
  apply List.map_congr_left; intro a _; simp
section
variable {W w : World} {s : List SL} {f : Ev} {x y : Operand}
theorem rIdxByte {b off n cap : Nat} {c : List UInt8} {d : UInt8} {ats : Array TypeId} {r : Int} (hx : opv f x = some (.slice (some ⟨b, off, none⟩) n cap)) (hy : opv f y = some (byteV d)) [k : HasBys s 5 b c] (ho : off + n ≤ c.length)
    (hr : Lib.indexByte ((c.drop off).take n) d = r) : Reads Tryz.prog W s f (.call { callee := .value (.func 86), args := #[x, y], argTypes := ats }) (.int .i64 r) := by
  refine rExt (vs := [.slice (some ⟨b, off, none⟩) n cap, byteV d]) (xs := [x, y]) (by simp [opvs, hx, hy]) fun w hS => ?_; have hrun := Lib.run_indexByteSlice (P := Tryz.prog) w b off n cap (((c.drop off).take n).map fun c => (c.toNat : Int)) (by simp; omega) (fun i hi => by
    have hlt : off + i < c.length := by omega
    have e1 : ((c.drop off).take n)[i]? = some c[off + i] := by rw [List.getElem?_take_of_lt hi, List.getElem?_drop, List.getElem?_eq_getElem hlt]
    rw [hS.bcell (b := b) (d := c[off + i]) (List.getElem?_eq_getElem hlt)]; simp only [List.getD_eq_getElem?_getD, List.getElem?_map, e1, Option.map_some, Option.getD_some]; rfl) (d.toNat : Int)
  rw [bytesOf_map] at hrun; have hd : ((d.toNat : Int).toNat.toUInt8) = d := by simp
  rw [hd, hr] at hrun; have h := run_callFunc_extern (P := Tryz.prog) (f := 86) (fn := Tryz.f86) Tryz.func86 (by kernel_rfl) (by kernel_rfl) (by kernel_rfl) (by kernel_rfl : Extern.find Tryz.f86 = some Extern.BytealgIndexByte.indexByte) #[.slice (some ⟨b, off, none⟩) n cap, byteV d] w; have hrun' : (Extern.BytealgIndexByte.indexByte #[.slice (some ⟨b, off, none⟩) n cap, byteV d]).run Tryz.prog w = .ok (.int .i64 r) w := hrun; rw [hrun', Result.andThen_ok] at h; exact h
/-- bytes.IndexByte -/
theorem c61 {b off n cap : Nat} {c : List UInt8} {d : UInt8} {r : Int} (hS : St W s w) [k : HasBys s 5 b c] (ho : off + n ≤ c.length) (hr : Lib.indexByte ((c.drop off).take n) d = r) :
    Calls Tryz.prog 61 #[.slice (some ⟨b, off, none⟩) n cap, byteV d] w fun e w' => e = .returned (.int .i64 r) ∧ St W s w' := by
  refine fn_calls (args := [.slice (some ⟨b, off, none⟩) n cap, byteV d]) Tryz.func61 rfl rfl rfl ?_; refine Xs (Xg (XX 1 hS rfl (Xn (Xs (Xg (XX 2 hS rfl (XR hS (rIdxByte rfl rfl ho hr) rfl (XX 1 hS rfl (Xn (Xr ?_)))))))))); exact X1 rfl rfl ⟨rfl, hS⟩
end
section
variable {W w : World} {g : Gl W} {S : Src W g} {L : List SL} {b : Nat} {B : BS}
/-- (*bufio.Reader).Buffered -/
theorem c104 (hS : St W (bfp S b B L) w) (hk : B.ok) : Calls Tryz.prog 104 #[ptr b 0] w fun e w' => e = .returned (.int .i64 ((B.w - B.r : Nat) : Int)) ∧ St W (bfp S b B L) w' := by
  obtain ⟨h1, h2, h3, h4, h5⟩ := hk; refine fn_calls (args := [ptr b 0]) Tryz.func104 rfl rfl rfl ?_; refine Xs (Xg (XX 1 hS rfl (Xn (Xs ?_)))); refine Xd [.s, .s, .s, .s, .s, .s, .s, .s, .s, .s] mixed (by kernel_rfl) hS ?_; clear hS; intro w hS; refine XS (rMove rfl) rfl (XS (rNil rfl) rfl (XS (rField rfl) rfl (XS (rLoad rfl (by exact rfl)) rfl ?_))); refine XS (rMove rfl) rfl (XS (rNil rfl) rfl (XS (rField rfl) rfl (XS (rLoad rfl (by exact rfl)) rfl ?_))); refine XS (rSubN rfl rfl (by first | omega | (simp <;> omega)) (by first | omega | (simp <;> omega)) rfl) rfl ?_; refine XS (rAssign rfl) rfl (Xn (Xr ?_)); exact X1 rfl rfl ⟨rfl, hS⟩
/-- (*bufio.Reader).readErr -/
theorem c83 (hS : St W (bfp S b B L) w) : Calls Tryz.prog 83 #[ptr b 0] w fun e w' => e = .returned (erv g B.eof) ∧ St W (bfp S b { B with eof := false } L) w' := by
  obtain ⟨bb, c, r, n, eof, lb, ls, rest⟩ := B; refine fn_calls (args := [ptr b 0]) Tryz.func83 rfl rfl rfl ?_; refine Xs (Xg (XX 1 hS rfl (Xn (Xs (Xg (XX 1 hS rfl (XR hS (rNil rfl) rfl (XR hS (rField rfl) rfl (XR hS (rLoad rfl (by exact rfl)) rfl ?_))))))))); refine XX 1 hS rfl (Xn (Xs (Xg (XX 1 hS rfl (XR hS (rNil rfl) rfl (XR hS (rField rfl) rfl ?_)))))); refine XN hS (dStoreL rfl rfl (by exact rfl) rfl (by first | rfl | assumption | exact erv_one)) ?_; clear hS; intro _ w hS; refine Xn (Xs (Xg (XX 2 hS rfl (Xn (Xr ?_))))); exact X1 rfl rfl ⟨rfl, hS⟩
end
end Go.Proofs
end
section
namespace Go.Proofs
open Go.Eng

theorem take_has {l : List UInt8} {line tail t : List UInt8} {m : Nat} (h : l ++ t = line ++ 10 :: tail) (hm : line.length < l.length) : ∃ q, l = line ++ 10 :: q ∧ q ++ t = tail := by
  have h1 : l = (line ++ 10 :: tail).take l.length := by rw [← h]; simp
  obtain ⟨j, hj⟩ : ∃ j, l.length = line.length + (1 + j) := ⟨l.length - line.length - 1, by omega⟩; rw [hj, List.take_append, List.take_of_length_le (by omega), Nat.add_sub_cancel_left, Nat.add_comm 1 j, List.take_succ_cons] at h1; refine ⟨tail.take j, h1, ?_⟩; rw [h1] at h; simpa using h
theorem pre_of {l line tail t : List UInt8} (h : l ++ t = line ++ 10 :: tail) (hm : l.length ≤ line.length) : ∃ q, line = l ++ q := by
  refine ⟨line.drop l.length, ?_⟩; have : l = line.take l.length := by
    have h1 : (l ++ t).take l.length = (line ++ 10 :: tail).take l.length := by rw [h]
    rw [List.take_left, List.take_append_of_le_length hm] at h1; exact h1
  conv => lhs; rw [← List.take_append_drop l.length line, ← this]

theorem idx_eq {α : Type} {l : List α} {i j : Nat} {v : α} (h : l[i]? = some v) (e : j = i) : l[j]? = some v := by rw [e]; exact h
theorem row_at {c l : List UInt8} {r n i : Nat} {d : UInt8} (h : (c.take n).drop r = l) (hd : l[i]? = some d) : c[r + i]? = some d := by
  rw [← h, List.getElem?_drop] at hd; have hlt := (List.getElem?_eq_some_iff.1 hd).1; rw [List.length_take] at hlt; rwa [List.getElem?_take_of_lt (by omega)] at hd
theorem row_take {c l q : List UInt8} {r n : Nat} (h : (c.take n).drop r = l ++ q) : (c.drop r).take l.length = l := by
  have h1 := congrArg (fun x => x.take l.length) h; simp only [List.take_left] at h1; have hlen : l.length ≤ n - r := by
    have := congrArg List.length h; simp at this; omega
  rw [List.drop_take, List.take_take, Nat.min_eq_left hlen] at h1; exact h1
theorem row_drop {c l q : List UInt8} {r n : Nat} (h : (c.take n).drop r = l ++ q) : (c.take n).drop (r + l.length) = q := by
  rw [← List.drop_drop, h, List.drop_left]
theorem take_at {c l : List UInt8} {off n i : Nat} {d : UInt8} (h : (c.drop off).take n = l) (hd : l[i]? = some d) : c[off + i]? = some d := by
  rw [← h] at hd; have hlt := (List.getElem?_eq_some_iff.1 hd).1; rw [List.length_take] at hlt; rwa [List.getElem?_take_of_lt (by omega), List.getElem?_drop] at hd
section
variable {W w : World} {g : Gl W} {S : Src W g} {L : List SL} {b : Nat} {B : BS}
/-- (*bufio.Reader).ReadSlice, of a line that the buffer holds -/
theorem c72 (hS : St W (bfp S b B L) w) (hk : B.ok) {line tail : List UInt8} (hstr : B.str = line ++ 10 :: tail) (hno : (10 : UInt8) ∉ line) (hlen : line.length + 1 ≤ B.c.length) :
    Calls Tryz.prog 72 #[ptr b 0, byteV 10] w fun e w' => ∃ (B' : BS) (off cap : Nat), (e = .returned (.tuple #[.slice (some ⟨B'.bb, off, none⟩) (line.length + 1) cap, .nilIface]) ∧ B'.ok ∧ B'.bb = B.bb ∧ B'.c.length = B.c.length ∧ B'.str = tail ∧
      (B'.c.drop off).take (line.length + 1) = line ++ [10] ∧ off + line.length + 1 = B'.r ∧ line.length + 1 ≤ cap) ∧ St W (bfp S b B' L) w' := by
  refine fn_calls (args := [ptr b 0, byteV 10]) Tryz.func72 rfl rfl rfl ?_; refine Xs (Xg (XX 2 hS rfl (Xn (Xs (Xg (XX 1 hS rfl (Xn (Xs (Xb ?_))))))))); intro a hE; refine cw_loop (fun (σ : BS × Nat) a w => Env 130 (envL [(0, ptr b 0), (1, byteV 10), (4, .slice none 0 0), (5, .nilIface), (6, .int .i64 (σ.2 : Int))]) a ∧ σ.1.ok ∧ σ.1.bb = B.bb ∧ σ.1.c.length = B.c.length ∧ σ.1.str = line ++ 10 :: tail ∧ σ.2 ≤ line.length ∧ σ.2 ≤ σ.1.have.length ∧ St W (bfp S b σ.1 L) w)
    (fun σ => (B.str.length - σ.1.have.length) * 2 + (bif σ.1.eof then 0 else 1)) (B, 0) ⟨hE.cut ⟨rfl, rfl, rfl, rfl, rfl, trivial⟩, hk, rfl, rfl, hstr, by omega, by omega, hS⟩ ?_
  clear hS hE a; rintro ⟨B', s⟩ a w ⟨hE, hk', e1, e2, e3, e4, e5, hS⟩; have hlv := BS.have_len hk'; obtain ⟨bb, c, r, n, eof, lb, ls, rest⟩ := B'; obtain ⟨h1, h2, h3, h4, h5⟩ := hk'; dsimp only [BS.cells, bfp, BS.str, BS.have] at *; subst e1; have hrow := slo_row (c := c) (i := r + s) (n := n) h2; rw [hlv] at e5; rcases Nat.lt_or_ge line.length (n - r) with hf | hf
  · obtain ⟨q, hq1, hq2⟩ := take_has (m := 0) e3 (by rw [hlv]; exact hf); have hri : Lib.indexByte ((c.drop (slo 0 (r + s) c.length)).take (n - (r + s))) 10 = ((line.length - s : Nat) : Int) := by
      rw [hrow, ← List.drop_drop, hq1, List.drop_append_of_le_length e4, idx_found (fun h => hno (List.mem_of_mem_drop h))]; simp
    revert a; refine Xb (Xs (Xs ?_)); refine Xh ([]) [.s, .s, .s, .r, .s, .s, .s, .r, .s, .s, .s, .s, .s, .r, .s, .s, .h, .s] mixed (by kernel_rfl) hS ?_; clear hS; intro w hS; refine XS (rMove rfl) rfl (XS (rNil rfl) rfl (XS (rField rfl) rfl (XT hS (rLoad rfl (by exact rfl)) rfl ?_))); refine XS (rMove rfl) rfl (XS (rNil rfl) rfl (XS (rField rfl) rfl (XT hS (rLoad rfl (by exact rfl)) rfl ?_))); refine XS (rMove rfl) rfl (XS (rAddN rfl rfl (by first | omega | (simp <;> omega)) rfl) rfl ?_); refine XS (rMove rfl) rfl (XS (rNil rfl) rfl (XS (rField rfl) rfl (XT hS (rLoad rfl (by exact rfl)) rfl ?_))); refine XS (rSlc2 rfl rfl rfl (by omega) (by omega)) rfl ?_; refine XS (rMove rfl) rfl ?_; refine XJ hS (gCall rfl) rfl (c61 hS (slo_le (by omega) (by omega)) hri) ?_; clear hS; intro e w hR; (try dsimp only [bfp, BS.cells] at hR); obtain ⟨rfl, hS⟩ := hR; refine ⟨_, rfl, hS.sub, ?_⟩
    refine XS (rAssign rfl) rfl (Xn (Xs (Xg (XX 1 hS rfl (XR hS (rCmp rfl rfl (cmp_geqT (by omega))) rfl ?_))))); refine Xn (Xt rfl (Xs (Xg (XX 2 hS rfl (XR hS (rAddN rfl rfl (by first | omega | (simp <;> omega)) rfl) rfl ?_))))); refine XX 1 hS rfl (Xn (Xs ?_)); refine Xd [.s, .s, .s, .s, .s, .s, .s, .s, .s, .s, .s, .s, .s, .s, .s, .s, .s] mixed (by kernel_rfl) hS ?_; clear hS; intro w hS; refine XS (rMove rfl) rfl (XS (rNil rfl) rfl (XS (rField rfl) rfl (XS (rLoad rfl (by exact rfl)) rfl ?_))); refine XS (rMove rfl) rfl (XS (rNil rfl) rfl (XS (rField rfl) rfl (XS (rLoad rfl (by exact rfl)) rfl ?_))); refine XS (rMove rfl) rfl (XS (rNil rfl) rfl (XS (rField rfl) rfl (XS (rLoad rfl (by exact rfl)) rfl ?_))); refine XS (rMove rfl) rfl (XS (rAddN rfl rfl (by first | omega | (simp <;> omega)) rfl) rfl ?_); refine XS (rAddN (n := 1) rfl rfl (by first | omega | (simp <;> omega)) rfl) rfl ?_
    refine XS (rSlc2o rfl rfl rfl (by omega) (by omega) (slo_is (by omega) rfl)) rfl ?_; refine XS (rAssign rfl) rfl (Xn (Xs (Xg (XX 1 hS rfl (XR hS (rNil rfl) rfl (XR hS (rField rfl) rfl (XR hS (rLoad rfl (by exact rfl)) rfl ?_))))))); refine XX 1 hS rfl (XR hS (rAddN (n := 1) rfl rfl (by first | omega | (simp <;> omega)) rfl) rfl ?_); refine XR hS (rAddN rfl rfl (by first | omega | (simp <;> omega)) rfl) rfl ?_; refine XR hS (rNil rfl) rfl (XR hS (rField rfl) rfl ?_); refine XN hS (dStoreL rfl rfl (by exact rfl) rfl (by first | rfl | assumption | exact erv_one)) ?_; clear hS; intro _ w hS; refine Xn (Xe rfl (Xs (Xs (Xg (XX 1 hS rfl (XR hS (rLen rfl) rfl (XR hS (rSubN (n := 1) rfl rfl (by first | omega | (simp <;> omega)) (by first | omega | (simp <;> omega)) rfl) rfl ?_))))))); refine XX 1 hS rfl (Xn (Xs (Xg (XX 1 hS rfl (XR hS (rCmp rfl rfl (cmp_geqT (by omega))) rfl ?_)))))
    refine Xn (Xt rfl (Xs (Xg (XX 3 hS rfl (XR hS (rIdxA1 rfl rfl (by omega)) rfl ?_))))); refine XR hS (rLoadB rfl (idx_eq (row_at (d := 10) hq1 (i := line.length) (by simp)) (by omega))) rfl ?_; refine XR hS (rConvN rfl (by decide)) rfl ?_; refine XR hS (rNil rfl) rfl (XR hS (rField rfl) rfl ?_); refine XN hS (dStoreL rfl rfl (by exact rfl) rfl (by first | rfl | assumption | exact erv_one)) ?_; clear hS; intro _ w hS; refine Xn (Xg (XX 1 hS rfl (XR hS (rNil rfl) rfl (XR hS (rField rfl) rfl ?_)))); refine XN hS (dStoreL rfl rfl (by exact rfl) rfl (by first | rfl | assumption | exact erv_one)) ?_; clear hS; intro _ w hS; refine Xn (Xr ?_); refine X2 rfl rfl rfl ?_; refine ⟨⟨B.bb, c, r + (line.length + 1), n, eof, 10, -1, rest⟩, r, c.length - r, ⟨?_, ⟨by dsimp only; omega, h2, h3, h4, h5⟩, rfl, e2, ?_, ?_, by dsimp only; omega, by omega⟩, ?_⟩
    · simp only [Nat.zero_add]; congr 5; omega
    · have := row_drop (l := line ++ [10]) (q := q) (by rw [hq1]; simp); simp only [List.length_append, List.length_singleton] at this; rw [this, hq2]
    · have := row_take (l := line ++ [10]) (q := q) (r := r) (n := n) (c := c) (by rw [hq1]; simp); simpa using this
    · have e : r + (line.length - s + s + 1) = r + (line.length + 1) := by omega
      rw [← e]; exact hS
  · obtain ⟨q, hq⟩ := pre_of e3 (by rw [hlv]; exact hf); have hri : Lib.indexByte ((c.drop (slo 0 (r + s) c.length)).take (n - (r + s))) 10 = -1 := by
      rw [hrow, ← List.drop_drop]; refine idx_none (fun h => hno ?_); rw [hq]; exact List.mem_append_left _ (List.mem_of_mem_drop h)
    obtain rfl : eof = false := by
      cases eof with
      | false => rfl
      | true =>
        rw [h5 rfl, List.append_nil] at e3
        have := congrArg List.length e3
        simp only [hlv, List.length_append, List.length_cons] at this
        omega
    revert a; refine Xb (Xs (Xs ?_)); refine Xh ([]) [.s, .s, .s, .r, .s, .s, .s, .r, .s, .s, .s, .s, .s, .r, .s, .s, .h, .s] mixed (by kernel_rfl) hS ?_; clear hS; intro w hS; refine XS (rMove rfl) rfl (XS (rNil rfl) rfl (XS (rField rfl) rfl (XT hS (rLoad rfl (by exact rfl)) rfl ?_))); refine XS (rMove rfl) rfl (XS (rNil rfl) rfl (XS (rField rfl) rfl (XT hS (rLoad rfl (by exact rfl)) rfl ?_))); refine XS (rMove rfl) rfl (XS (rAddN rfl rfl (by first | omega | (simp <;> omega)) rfl) rfl ?_); refine XS (rMove rfl) rfl (XS (rNil rfl) rfl (XS (rField rfl) rfl (XT hS (rLoad rfl (by exact rfl)) rfl ?_))); refine XS (rSlc2 rfl rfl rfl (by omega) (by omega)) rfl ?_; refine XS (rMove rfl) rfl ?_; refine XJ hS (gCall rfl) rfl (c61 hS (slo_le (by omega) (by omega)) hri) ?_; clear hS; intro e w hR; (try dsimp only [bfp, BS.cells] at hR); obtain ⟨rfl, hS⟩ := hR; refine ⟨_, rfl, hS.sub, ?_⟩
    refine XS (rAssign rfl) rfl (Xn (Xs (Xg (XX 1 hS rfl (XR hS (rCmp rfl rfl (cmp_geqF (by omega))) rfl ?_))))); refine Xn (Xf rfl (Xk (Xs (Xs (Xg (XX 1 hS rfl (XR hS (rNil rfl) rfl (XR hS (rField rfl) rfl (XR hS (rLoad rfl (by exact rfl)) rfl ?_))))))))); refine XR hS (rNilNilN rfl) rfl (Xn (Xf rfl (Xk (Xs (Xs ?_))))); refine Xd [.s, .h, .s, .s, .s, .s, .s, .s] mixed (by kernel_rfl) hS ?_; clear hS; intro w hS; refine XS (rMove rfl) rfl ?_; refine XJ hS (gCall rfl) rfl (c104 (B := ⟨B.bb, c, r, n, false, lb, ls, rest⟩) hS ⟨h1, h2, h3, h4, h5⟩) ?_; clear hS; intro e w hR; (try dsimp only [bfp, BS.cells] at hR); obtain ⟨rfl, hS⟩ := hR; refine ⟨_, rfl, hS.sub, ?_⟩; refine XS (rMove rfl) rfl (XS (rNil rfl) rfl (XS (rField rfl) rfl (XS (rLoad rfl (by exact rfl)) rfl ?_))); refine XS (rLen rfl) rfl (XS (rCmp rfl rfl (cmp_geqF (by omega))) rfl ?_); refine Xn (Xf rfl (Xk (Xs ?_)))
    refine Xd [.s, .s, .s, .s, .s, .s, .s, .s, .s, .s] mixed (by kernel_rfl) hS ?_; clear hS; intro w hS; refine XS (rMove rfl) rfl (XS (rNil rfl) rfl (XS (rField rfl) rfl (XS (rLoad rfl (by exact rfl)) rfl ?_))); refine XS (rMove rfl) rfl (XS (rNil rfl) rfl (XS (rField rfl) rfl (XS (rLoad rfl (by exact rfl)) rfl ?_))); refine XS (rSubN rfl rfl (by first | omega | (simp <;> omega)) (by first | omega | (simp <;> omega)) rfl) rfl ?_; refine XS (rAssign rfl) rfl (Xn (Xg (XX 1 hS rfl ?_))); refine XC hS (gCall rfl) rfl (c82 (B := ⟨B.bb, c, r, n, false, lb, ls, rest⟩) hS ⟨h1, h2, h3, h4, h5⟩ rfl (by dsimp only; omega)) ?_; clear hS; intro e w hR; (try dsimp only [bfp, BS.cells] at hR); obtain ⟨B', ⟨rfl, hk2, f1, f2, f3, f4, f5, f6, f7⟩, hS⟩ := hR; refine ⟨_, rfl, ?_⟩; refine Xn ?_; obtain ⟨t, g1, g2⟩ := f6
    have hl2 : (BS.have ⟨B.bb, c, r, n, false, lb, ls, rest⟩).length = n - r := BS.have_len (B := ⟨B.bb, c, r, n, false, lb, ls, rest⟩) ⟨h1, h2, h3, h4, h5⟩; intro a hE; refine ⟨(B', n - r), ?_, hE.cut ⟨rfl, rfl, rfl, rfl, rfl, trivial⟩, hk2, f2, f3.trans e2, f1.trans e3, hf, ?_, hS⟩
    · have q1 : B'.have.length = (n - r) + t.length := by rw [g1, List.length_append, hl2]
      have q2 : B'.have.length ≤ B.str.length := by
        have : B'.str.length = B.str.length := by rw [f1.trans e3, ← hstr]; rfl
        rw [← this, BS.str, List.length_append]; omega
      change (B.str.length - B'.have.length) * 2 + (bif B'.eof then 0 else 1) < (B.str.length - (BS.have ⟨B.bb, c, r, n, false, lb, ls, rest⟩).length) * 2 + 1; rw [q1, hl2]; rw [q1] at q2; rcases g2 with g2 | g2
      · rw [g2]; simp only [cond_true, cond_false]; omega
      · cases B'.eof <;> simp only [cond_true, cond_false] <;> omega
    · change n - r ≤ B'.have.length; rw [g1, List.length_append, hl2]; omega
end
end Go.Proofs
end
section
namespace Go.Proofs
open Go.Eng
section
variable {W w : World} {g : Gl W} {S : Src W g} {L : List SL} {b : Nat} {B : BS}
/-- (*bufio.Reader).ReadLine, of a line that the buffer holds -/
theorem c84 (hS : St W (bfp S b B L) w) (hk : B.ok) {line tail : List UInt8} (hstr : B.str = line ++ 13 :: 10 :: tail) (hno : (10 : UInt8) ∉ line) (hlen : line.length + 2 ≤ B.c.length) :
    Calls Tryz.prog 84 #[ptr b 0] w fun e w' => ∃ (B' : BS) (off cap : Nat), (e = .returned (.tuple #[.slice (some ⟨B'.bb, off, none⟩) line.length cap, .bool false, .nilIface]) ∧ B'.ok ∧ B'.bb = B.bb ∧ B'.c.length = B.c.length ∧ B'.str = tail ∧
      (B'.c.drop off).take line.length = line ∧ off + line.length ≤ B'.c.length) ∧ St W (bfp S b B' L) w' := by
  have hmy := hk.hi; refine fn_calls (args := [ptr b 0]) Tryz.func84 rfl rfl rfl ?_; refine Xs (Xg (XX 3 hS rfl (Xn (Xs (Xg (XX 1 hS rfl ?_)))))); refine XC hS (gCall rfl) rfl (c72 hS hk (line := line ++ [13]) (tail := tail) (by rw [hstr]; simp) (by simp [hno]) (by simp; omega)) ?_; clear hS; intro e w hR; (try dsimp only [bfp, BS.cells] at hR); obtain ⟨B', off, cap, ⟨rfl, hk', q1, q2, q3, q4, q5, q6⟩, hS⟩ := hR; refine ⟨_, rfl, ?_⟩; intro a hE; simp only [List.length_append, List.length_singleton] at q4 q5 q6 hE; revert a; refine XX 1 hS rfl (XR hS (rExtract rfl rfl) rfl (XR hS (rExtract rfl rfl) rfl (XX 2 hS rfl (Xn (Xs (Xs (Xg (XX 1 hS rfl (XR hS (rLoadO rfl g.g5) rfl (XR hS (rNilI2 rfl rfl) rfl (Xn (Xf rfl (Xk (Xs ?_)))))))))))))); refine Xs (Xg (XX 1 hS rfl (XR hS (rLen rfl) rfl (XR hS (rCmp rfl rfl (cmp_eqlF (by omega))) rfl ?_))))
  refine Xn (Xf rfl (Xk (Xs (Xg (XX 1 hS rfl (Xn (Xs (Xs (Xg (XX 2 hS rfl (XR hS (rLen rfl) rfl (XR hS (rSubN (n := 1) rfl rfl (by first | omega | (simp <;> omega)) (by first | omega | (simp <;> omega)) rfl) rfl ?_)))))))))))); refine XR hS (rIdxA1 rfl rfl (by omega)) rfl ?_; refine XR hS (rLoadB rfl (idx_eq (take_at q4 (d := 10) (i := line.length + 1) (by simp)) (by omega))) rfl ?_; refine XR hS (rB8 (d := 10) rfl rfl rfl) rfl (Xn (Xt rfl (Xs (Xg (XX 1 hS rfl (Xn (Xs (Xs (Xg (XX 1 hS rfl (XR hS (rLen rfl) rfl (XR hS (rCmp rfl rfl (cmp_gtrT (by omega))) rfl ?_)))))))))))); refine XX 9 hS rfl (XA rfl rfl (XR hS (rLen rfl) rfl (XX 5 hS rfl (XA rfl rfl (XR hS (rSubN (n := 2) rfl rfl (by first | omega | (simp <;> omega)) (by first | omega | (simp <;> omega)) rfl) rfl ?_))))); refine XX 4 hS rfl (XA rfl rfl (XR hS (rIdxA1 rfl rfl (by omega)) rfl ?_))
  refine XX 3 hS rfl (XA rfl rfl (XR hS (rLoadB rfl (idx_eq (take_at q4 (d := 13) (i := line.length) (by simp)) (by omega))) rfl ?_)); refine XX 2 hS rfl (XA rfl rfl (XR hS (rB8 (d := 13) rfl rfl rfl) rfl (XX 1 hS rfl (Xn (Xt rfl (Xg (XX 1 hS rfl (Xn (Xg (XX 2 hS rfl (XR hS (rLen rfl) rfl (XX 1 hS rfl (XR hS (rSubN (n := 2) rfl rfl (by omega) (by omega) rfl) rfl ?_))))))))))))); refine XR hS (rSlc0 rfl rfl (by omega)) rfl ?_; refine XX 1 hS rfl (Xn (Xr ?_)); refine X3 rfl rfl rfl rfl ?_; refine ⟨B', off, cap, ⟨?_, hk', q1, q2, q3, ?_, ?_⟩, hS⟩
  · rw [show line.length + 1 + 1 - 2 = line.length by omega]
  · have h1 : ((B'.c.drop off).take (line.length + 1 + 1)).take line.length = line := by rw [q4]; simp
    rwa [List.take_take, Nat.min_eq_left (by omega)] at h1
  · have h2 := hk'.rw; have h3 := hk'.wc; omega
/-- (*bufio.Reader).ReadByte, where there is one -/
theorem c110 (hS : St W (bfp S b B L) w) (hk : B.ok) {d : UInt8} {tail : List UInt8} (hstr : B.str = d :: tail) :
    Calls Tryz.prog 110 #[ptr b 0] w fun e w' => ∃ (B' : BS), (e = .returned (.tuple #[byteV d, .nilIface]) ∧ B'.ok ∧ B'.bb = B.bb ∧ B'.c.length = B.c.length ∧ B'.str = tail ∧ 0 < B'.r ∧ B'.lb = (d.toNat : Int) ∧ B'.c[B'.r - 1]? = some d) ∧ St W (bfp S b B' L) w' := by
  refine fn_calls (args := [ptr b 0]) Tryz.func110 rfl rfl rfl ?_; refine Xs (Xg (XX 2 hS rfl (Xn (Xs (Xg (XX 1 hS rfl (XR hS (rNil rfl) rfl (XR hS (rField rfl) rfl ?_)))))))); refine XN hS (dStoreL rfl rfl (by exact rfl) rfl (by first | rfl | assumption | exact erv_one)) ?_; clear hS; intro _ w hS; refine Xn (Xs (Xb ?_)); intro a hE; refine cw_loop (fun (B' : BS) a w => Env 49 (envL [(0, ptr b 0), (2, .int .u8 0), (3, .nilIface)]) a ∧ B'.ok ∧ B'.bb = B.bb ∧ B'.c.length = B.c.length ∧ B'.str = d :: tail ∧ B'.ls = -1 ∧ St W (bfp S b B' L) w)
    (fun B' => bif Nat.beq B'.r B'.w then 1 else 0) { B with ls := -1 } ⟨hE.cut ⟨rfl, rfl, rfl, trivial⟩, ⟨hk.rw, hk.wc, hk.lo, hk.hi, hk.fin⟩, rfl, rfl, hstr, rfl, hS⟩ ?_
  clear hS hE a; rintro B' a w ⟨hE, hk', e1, e2, e3, e6, hS⟩; have hlv := BS.have_len hk'; obtain ⟨bb, c, r, n, eof, lb, ls, rest⟩ := B'; obtain ⟨h1, h2, h3, h4, h5⟩ := hk'; dsimp only [BS.cells, bfp, BS.str, BS.have] at *; subst e1 e6; rcases Nat.lt_or_ge r n with hf | hf
  · have hd : c[r]? = some d := by
      cases hh : (c.take n).drop r with
      | nil => rw [hh] at hlv; simp at hlv; omega
      | cons x l =>
        rw [hh] at e3
        simp only [List.cons_append, List.cons.injEq] at e3
        exact row_at (i := 0) hh (by simp [e3.1])
    have hdl : d.toNat < 256 := d.toNat_lt; revert a; refine Xs (Xs ?_); refine Xd [.s, .s, .s, .s, .s, .s, .s, .s, .s] mixed (by kernel_rfl) hS ?_; clear hS; intro w hS; refine XS (rMove rfl) rfl (XS (rNil rfl) rfl (XS (rField rfl) rfl (XS (rLoad rfl (by exact rfl)) rfl ?_))); refine XS (rMove rfl) rfl (XS (rNil rfl) rfl (XS (rField rfl) rfl (XS (rLoad rfl (by exact rfl)) rfl ?_))); refine XS (rCmp rfl rfl (cmp_eqlF (by omega))) rfl ?_; refine Xn (Xf rfl (Xe rfl (Xs ?_))); refine Xd [.s, .s, .s, .s, .s, .s, .s, .s, .s, .s, .s] mixed (by kernel_rfl) hS ?_; clear hS; intro w hS; refine XS (rMove rfl) rfl (XS (rNil rfl) rfl (XS (rField rfl) rfl (XS (rLoad rfl (by exact rfl)) rfl ?_))); refine XS (rMove rfl) rfl (XS (rNil rfl) rfl (XS (rField rfl) rfl (XS (rLoad rfl (by exact rfl)) rfl ?_))); refine XS (rIdxA1 rfl rfl (by omega)) rfl ?_
    refine XS (rLoadB rfl (by first | assumption | exact idx_eq (by assumption) (by omega))) rfl ?_; refine XS (rAssign rfl) rfl (Xn (Xs (Xg (XX 1 hS rfl (XR hS (rNil rfl) rfl (XR hS (rField rfl) rfl (XR hS (rLoad rfl (by exact rfl)) rfl ?_))))))); refine XR hS (rAddN (n := 1) rfl rfl (by first | omega | (simp <;> omega)) rfl) rfl ?_; refine XR hS (rNil rfl) rfl (XR hS (rField rfl) rfl ?_); refine XN hS (dStoreL rfl rfl (by exact rfl) rfl (by first | rfl | assumption | exact erv_one)) ?_; clear hS; intro _ w hS; refine Xn (Xs (Xg (XX 2 hS rfl (XR hS (rConvB rfl) rfl (XR hS (rNil rfl) rfl (XR hS (rField rfl) rfl ?_)))))); refine XN hS (dStoreL rfl rfl (by exact rfl) rfl (by first | rfl | assumption | exact erv_one)) ?_; clear hS; intro _ w hS; refine Xn (Xs (Xg (XX 3 hS rfl (Xn (Xr ?_))))); refine X2 rfl rfl rfl ?_
    refine ⟨⟨B.bb, c, r + 1, n, eof, (d.toNat : Int), -1, rest⟩, ⟨rfl, ⟨by dsimp only; omega, h2, h3, h4, h5⟩, rfl, e2, ?_, by dsimp only; omega, rfl, ?_⟩, hS⟩
    · have hh : (c.take n).drop r = d :: (c.take n).drop (r + 1) := by
        rw [List.drop_eq_getElem_cons (by simp; omega)]; congr 1; rw [List.getElem_take]; exact (List.getElem?_eq_some_iff.1 hd).2
      rw [hh] at e3; simpa using e3
    · simpa using hd
  · have hrn : n = r := by omega
    subst hrn; have hnil : (c.take n).drop n = [] := List.length_eq_zero_iff.1 (by omega); rw [hnil, List.nil_append] at e3; obtain rfl : eof = false := by
      cases eof with
      | false => rfl
      | true => rw [h5 rfl] at e3; cases e3
    revert a; refine Xs (Xs ?_); refine Xd [.s, .s, .s, .s, .s, .s, .s, .s, .s] mixed (by kernel_rfl) hS ?_; clear hS; intro w hS; refine XS (rMove rfl) rfl (XS (rNil rfl) rfl (XS (rField rfl) rfl (XS (rLoad rfl (by exact rfl)) rfl ?_))); refine XS (rMove rfl) rfl (XS (rNil rfl) rfl (XS (rField rfl) rfl (XS (rLoad rfl (by exact rfl)) rfl ?_))); refine XS (rCmp rfl rfl (cmp_eqlT (by omega))) rfl ?_; refine Xn (Xt rfl (Xk (Xb (Xs (Xs (Xg (XX 1 hS rfl (XR hS (rNil rfl) rfl (XR hS (rField rfl) rfl (XR hS (rLoad rfl (by exact rfl)) rfl ?_)))))))))); refine XR hS (rNilNilN rfl) rfl (Xn (Xf rfl (Xk (Xg (XX 1 hS rfl ?_))))); refine XC hS (gCall rfl) rfl (c82 (B := ⟨B.bb, c, n, n, false, lb, -1, rest⟩) hS ⟨h1, h2, h3, h4, h5⟩ rfl (by dsimp only; omega)) ?_; clear hS; intro e w hR; (try dsimp only [bfp, BS.cells] at hR); obtain ⟨B', ⟨rfl, hk2, f1, f2, f3, f4, f5, f6, f7⟩, hS⟩ := hR
    refine ⟨_, rfl, ?_⟩; refine Xn ?_; intro a hE; refine ⟨B', ?_, hE.cut ⟨rfl, rfl, rfl, trivial⟩, hk2, f2, f3.trans e2, ?_, f5, hS⟩
    · have hl2 := BS.have_len hk2; obtain ⟨t, g1, g2⟩ := f6; have : B'.r ≠ B'.w := fun he => by
        have h0 : B'.have = [] := List.length_eq_zero_iff.1 (by omega); rcases g2 with g2 | g2
        · have := hk2.fin g2; rw [BS.str, h0, this, BS.str, BS.have] at f1; simp only [hnil, e3, List.nil_append] at f1; cases f1
        · rw [h0] at g1; have := congrArg List.length g1; simp only [List.length_nil, List.length_append] at this; omega
      have hb1 : Nat.beq B'.r B'.w = false := by
        cases hb : Nat.beq B'.r B'.w with
        | false => rfl
        | true => exact absurd (Nat.eq_of_beq_eq_true hb) this
      have hb2 : Nat.beq n n = true := Nat.beq_refl n; simp only [hb1, hb2, cond_true, cond_false]; decide
    · rw [← e3]; have := f1; simp only [BS.str, BS.have, hnil, List.nil_append] at this ⊢; exact this
/-- (*bufio.Reader).UnreadByte, behind ReadByte -/
theorem c111 (hS : St W (bfp S b B L) w) (hk : B.ok) {d : UInt8} (hr : 0 < B.r) (hlb : B.lb = (d.toNat : Int)) (hd : B.c[B.r - 1]? = some d) :
    Calls Tryz.prog 111 #[ptr b 0] w fun e w' => ∃ (B' : BS), (e = .returned .nilIface ∧ B'.ok ∧ B'.bb = B.bb ∧ B'.c.length = B.c.length ∧ B'.str = d :: B.str) ∧ St W (bfp S b B' L) w' := by
  have hmy := hk.hi; have hdl : d.toNat < 256 := d.toNat_lt; obtain ⟨bb, c, r, n, eof, lb, ls, rest⟩ := B; obtain ⟨h1, h2, h3, h4, h5⟩ := hk; dsimp only [BS.cells, bfp, BS.str, BS.have] at *; subst hlb; refine fn_calls (args := [ptr b 0]) Tryz.func111 rfl rfl rfl ?_; refine Xs (Xg (XX 1 hS rfl (Xn (Xs (Xs (Xg (XX 1 hS rfl (XR hS (rNil rfl) rfl (XR hS (rField rfl) rfl (XR hS (rLoad rfl (by exact rfl)) rfl ?_)))))))))); refine XR hS (rCmp rfl rfl (cmp_lssF (by omega))) rfl ?_; refine XX 14 hS rfl (XA rfl rfl (XR hS (rNil rfl) rfl (XX 11 hS rfl (XA rfl rfl (XR hS (rField rfl) rfl (XX 10 hS rfl (XA rfl rfl (XR hS (rLoad rfl (by exact rfl)) rfl ?_)))))))); refine XX 9 hS rfl (XA rfl rfl (XR hS (rCmp rfl rfl (cmp_eqlF (by omega))) rfl ?_)); refine XX 8 hS rfl (Xn (Xf rfl (Xk (Xs (Xs (Xg (XX 1 hS rfl (XR hS (rNil rfl) rfl (XR hS (rField rfl) rfl (XR hS (rLoad rfl (by exact rfl)) rfl ?_))))))))))
  refine XR hS (rCmp rfl rfl (cmp_gtrT (by omega))) rfl ?_; refine Xn (Xt rfl (Xg (XX 1 hS rfl (XR hS (rNil rfl) rfl (XR hS (rField rfl) rfl (XR hS (rLoad rfl (by exact rfl)) rfl ?_)))))); refine XR hS (rSubN (n := 1) rfl rfl (by first | omega | (simp <;> omega)) (by first | omega | (simp <;> omega)) rfl) rfl ?_; refine XR hS (rNil rfl) rfl (XR hS (rField rfl) rfl ?_); refine XN hS (dStoreL rfl rfl (by exact rfl) rfl (by first | rfl | assumption | exact erv_one)) ?_; clear hS; intro _ w hS; refine Xn (Xs ?_); refine Xh ([]) [.s, .s, .s, .r, .s, .s, .s, .r, .s, .s, .s, .r, .r, .s, .e] mixed (by kernel_rfl) hS ?_; clear hS; intro w hS; refine XS (rMove rfl) rfl (XS (rNil rfl) rfl (XS (rField rfl) rfl (XT hS (rLoad rfl (by exact rfl)) rfl ?_))); refine XS (rMove rfl) rfl (XS (rNil rfl) rfl (XS (rField rfl) rfl (XT hS (rLoad rfl (by exact rfl)) rfl ?_)))
  refine XS (rMove rfl) rfl (XS (rNil rfl) rfl (XS (rField rfl) rfl (XT hS (rLoad rfl (by exact rfl)) rfl ?_))); refine XT hS (rConvN rfl (w8 (by omega) (by omega))) rfl ?_; refine XS (rIdxA1 rfl rfl (by omega)) rfl ?_; refine XM hS (dStoreB rfl rfl (by omega)) ?_; clear hS; intro _ w hS; refine Xn (Xs (Xg (XX 1 hS rfl (XR hS (rNil rfl) rfl (XR hS (rField rfl) rfl ?_))))); refine XN hS (dStoreL rfl rfl (by exact rfl) rfl (by first | rfl | assumption | exact erv_one)) ?_; clear hS; intro _ w hS; refine Xn (Xs (Xg (XX 1 hS rfl (XR hS (rNil rfl) rfl (XR hS (rField rfl) rfl ?_))))); refine XN hS (dStoreL rfl rfl (by exact rfl) rfl (by first | rfl | assumption | exact erv_one)) ?_; clear hS; intro _ w hS; refine Xn (Xs (Xg (XX 1 hS rfl (Xn (Xr ?_))))); refine X1 rfl rfl ?_; have hc : c.set (0 + (r - 1)) d = c := by
    rw [Nat.zero_add]; have := (List.getElem?_eq_some_iff.1 hd); obtain ⟨q1, q2⟩ := this; rw [← q2]; exact List.set_getElem_self q1
  rw [hc] at hS; refine ⟨⟨bb, c, r - 1, n, eof, -1, -1, rest⟩, ⟨rfl, ⟨by dsimp only; omega, h2, h3, h4, h5⟩, rfl, rfl, ?_⟩, hS⟩; have hh : (c.take n).drop (r - 1) = d :: (c.take n).drop r := by
    have h := (List.getElem?_eq_some_iff.1 hd); obtain ⟨q1, q2⟩ := h; rw [List.drop_eq_getElem_cons (by simp; omega), List.getElem_take]; congr 2; omega
  rw [hh]; rfl
end
end Go.Proofs
end

/-
  Steps on the way to the cards of laws.FnFetched and laws.FnFetchedWhole; the conditions of each are the hypotheses that it names. In order:
  Heaps as lists of separate parts; a region's operations in the text's order, whatever order is drawn.
  A region whose order is drawn: one walk in the text's order serves, if each two operations that may come in either order are apart and one of them yields one value in every world of a class.
  A frame whose slots are partly known; the steps of the code.
-/
import Derived.WalkKit
import Derived.Defers
import Derived.Orders
set_option linter.all false
section
namespace Go
namespace Eng

/-! ## Heaps in parts -/
abbrev Hp := Nat → Option Obj
abbrev SL := Hp → Prop
def hp (w : World) : Hp := fun b => w.heap[b]?
def sub (a b : Hp) : Prop := ∀ k o, a k = some o → b k = some o
def dis (a b : Hp) : Prop := ∀ k, a k = none ∨ b k = none
theorem sub.refl (a : Hp) : sub a a := fun _ _ h => h
theorem sub.trans {a b c : Hp} (h : sub a b) (h' : sub b c) : sub a c := fun k o e => h' k o (h k o e)
theorem dis.symm {a b : Hp} (h : dis a b) : dis b a := fun k => (h k).symm
theorem dis.mono {a b a' b' : Hp} (h : dis a b) (ha : sub a' a) (hb : sub b' b) : dis a' b' := fun k => by
  rcases h k with h | h
  · left
    cases e : a' k with
    | none => rfl
    | some o => rw [ha k o e] at h; cases h
  · right
    cases e : b' k with
    | none => rfl
    | some o => rw [hb k o e] at h; cases h
def uni (a b : Hp) : Hp := fun k => match a k with | some o => some o | none => b k
theorem sub_uni_left (a b : Hp) : sub a (uni a b) := fun k o h => by simp [uni, h]
theorem sub_uni_right {a b : Hp} (h : dis a b) : sub b (uni a b) := fun k o e => by
  rcases h k with h | h
  · simp [uni, h, e]
  · rw [e] at h; cases h
theorem uni_sub {a b c : Hp} (ha : sub a c) (hb : sub b c) : sub (uni a b) c := fun k o e => by
  unfold uni at e
  cases ea : a k with
  | none => rw [ea] at e; exact hb k o e
  | some o' => rw [ea] at e; simp at e; subst e; exact ha k _ ea
theorem dis_uni {a b c : Hp} (h : dis a c) (h' : dis b c) : dis (uni a b) c := fun k => by
  rcases h k with e | e
  · rcases h' k with e' | e'
    · left; simp [uni, e, e']
    · exact .inr e'
  · exact .inr e

def Sat : List SL → Hp → Prop
  | [], _ => True
  | A :: l, h => ∃ a b, A a ∧ Sat l b ∧ dis a b ∧ sub a h ∧ sub b h

theorem Sat.mono {l : List SL} {h h' : Hp} (hs : Sat l h) (k : sub h h') : Sat l h' := by
  cases l with
  | nil => trivial
  | cons A l => obtain ⟨a, b, ha, hb, hd, sa, sb⟩ := hs; exact ⟨a, b, ha, hb, hd, sa.trans k, sb.trans k⟩

theorem Sat.swap {A B : SL} {l : List SL} {h : Hp} (hs : Sat (A :: B :: l) h) : Sat (B :: A :: l) h := by
  obtain ⟨a, r, ha, ⟨b, c, hb, hc, hbc, sb, sc⟩, har, sa, sr⟩ := hs
  refine ⟨b, uni a c, hb, ⟨a, c, ha, hc, har.mono (sub.refl _) sc, sub_uni_left _ _, sub_uni_right (har.mono (sub.refl _) sc)⟩, ?_, sb.trans sr, uni_sub sa (sc.trans sr)⟩
  exact (dis_uni (har.mono (sub.refl _) sb) hbc.symm).symm

theorem Sat.tail {A : SL} {l : List SL} {h : Hp} (hs : Sat (A :: l) h) : Sat l h := by
  obtain ⟨a, b, _, hb, _, _, sb⟩ := hs
  exact hb.mono sb

/-- 'l' is 'A' and 'r'. -/
inductive Pull (A : SL) : List SL → List SL → Prop
  | head {l : List SL} : Pull A (A :: l) l
  | tail {B : SL} {l r : List SL} : Pull A l r → Pull A (B :: l) (B :: r)

theorem Pull.sat {A : SL} {l r : List SL} (p : Pull A l r) : ∀ {h : Hp}, Sat l h → Sat (A :: r) h := by
  induction p with
  | head => exact fun h => h
  | tail _ ih =>
    intro h ⟨a, b, ha, hb, hd, sa, sb⟩
    exact Sat.swap ⟨a, b, ha, ih hb, hd, sa, sb⟩
theorem Pull.back {A : SL} {l r : List SL} (p : Pull A l r) : ∀ {h : Hp}, Sat (A :: r) h → Sat l h := by
  induction p with
  | head => exact fun h => h
  | tail _ ih =>
    intro h hs
    obtain ⟨a, b, ha, hb, hd, sa, sb⟩ := hs.swap
    exact ⟨a, b, ha, ih hb, hd, sa, sb⟩

/-- 'l' holds 'A', and is 'm' with 'B' in its place. -/
inductive Repl (A B : SL) : List SL → List SL → Prop
  | head {l : List SL} : Repl A B (A :: l) (B :: l)
  | tail {C : SL} {l m : List SL} : Repl A B l m → Repl A B (C :: l) (C :: m)
theorem Repl.pulls {A B : SL} {l m : List SL} (p : Repl A B l m) : ∃ r, Pull A l r ∧ Pull B m r := by
  induction p with
  | head => exact ⟨_, .head, .head⟩
  | tail _ ih => obtain ⟨r, h, k⟩ := ih; exact ⟨_, .tail h, .tail k⟩

/-- 'l' is 'pre' and 'r'. -/
inductive Take : List SL → List SL → List SL → Prop
  | nil {l : List SL} : Take [] l l
  | cons {A : SL} {pre l m r : List SL} : Pull A l m → Take pre m r → Take (A :: pre) l r
theorem Take.sat {pre l r : List SL} (t : Take pre l r) : ∀ {h : Hp}, Sat l h → Sat (pre ++ r) h := by
  induction t with
  | nil => exact fun h => h
  | cons p _ ih =>
    intro h hs
    obtain ⟨a, b, ha, hb, hd, sa, sb⟩ := p.sat hs
    exact ⟨a, b, ha, ih hb, hd, sa, sb⟩

/-! ## A world that holds parts -/
structure St (W : World) (l : List SL) (w : World) : Prop where
  os : w.os = W.os
  tape : w.tape = W.tape
  output : w.output = W.output
  size : W.heap.size ≤ w.heap.size
  sat : Sat l (hp w)

def pt (b : Nat) (o : Obj) : SL := fun h => h b = some o
/-- all that lay there at the beginning, as it was -/
def old (W : World) : SL := fun h => ∀ k, k < W.heap.size → h k = W.heap[k]?
def star (A B : SL) : SL := fun h => ∃ a b, A a ∧ B b ∧ dis a b ∧ sub a h ∧ sub b h
def ex {α : Sort _} (A : α → SL) : SL := fun h => ∃ x, A x h

section
variable {W w : World} {l r m : List SL} {A B : SL}
theorem St.start (W : World) : St W [old W] W :=
  ⟨rfl, rfl, rfl, Nat.le_refl _, hp W, fun _ => none, fun _ _ => rfl, trivial, fun _ => .inr rfl, sub.refl _, fun _ _ h => by cases h⟩
theorem St.of_sat (h : St W l w) (k : ∀ h, Sat l h → Sat m h) : St W m w := ⟨h.os, h.tape, h.output, h.size, k _ h.sat⟩
theorem St.pull (h : St W l w) (p : Pull A l r) : St W (A :: r) w := h.of_sat fun _ => p.sat
theorem St.back (h : St W (A :: r) w) (p : Pull A l r) : St W l w := h.of_sat fun _ => p.back
theorem St.take {pre : List SL} (h : St W l w) (t : Take pre l r) : St W (pre ++ r) w := h.of_sat fun _ => t.sat
theorem St.tail (h : St W (A :: l) w) : St W l w := h.of_sat fun _ => Sat.tail
theorem St.swap (h : St W (A :: B :: l) w) : St W (B :: A :: l) w := h.of_sat fun _ => Sat.swap
theorem St.imp (h : St W (A :: l) w) (k : ∀ h, A h → B h) : St W (B :: l) w := h.of_sat fun _ ⟨a, b, ha, hb, hd, sa, sb⟩ => ⟨a, b, k _ ha, hb, hd, sa, sb⟩
theorem St.open_ex {α : Sort _} {A : α → SL} (h : St W (ex A :: l) w) : ∃ x, St W (A x :: l) w := by
  obtain ⟨a, b, ⟨x, ha⟩, hb, hd, sa, sb⟩ := h.sat
  exact ⟨x, h.os, h.tape, h.output, h.size, a, b, ha, hb, hd, sa, sb⟩
theorem St.shut_ex {α : Sort _} {A : α → SL} (x : α) (h : St W (A x :: l) w) : St W (ex A :: l) w := h.imp fun _ h => ⟨x, h⟩
theorem St.open_star (h : St W (star A B :: l) w) : St W (A :: B :: l) w := h.of_sat fun _ ⟨s, c, ⟨a, b, ha, hb, hab, sa, sb⟩, hc, hd, ss, sc⟩ =>
  ⟨a, uni b c, ha, ⟨b, c, hb, hc, hd.mono sb (sub.refl _), sub_uni_left _ _, sub_uni_right (hd.mono sb (sub.refl _))⟩,
    (dis_uni hab.symm (hd.mono sa (sub.refl _)).symm).symm, sa.trans ss, uni_sub (sb.trans ss) sc⟩
theorem St.shut_star (h : St W (A :: B :: l) w) : St W (star A B :: l) w := h.of_sat fun h ⟨a, r, ha, ⟨b, c, hb, hc, hbc, sb, sc⟩, har, sa, sr⟩ =>
  ⟨uni a b, c, ⟨a, b, ha, hb, har.mono (sub.refl _) sb, sub_uni_left _ _, sub_uni_right (har.mono (sub.refl _) sb)⟩, hc,
    dis_uni (har.mono (sub.refl _) sc) hbc, uni_sub sa (sb.trans sr), sc.trans sr⟩
/-- What a part says alone. -/
theorem St.fact {p : Prop} (h : St W l w) (q : Pull A l r) (k : ∀ h, A h → p) : p := by
  obtain ⟨a, b, ha, _⟩ := (h.pull q).sat
  exact k _ ha
theorem St.block {b : Nat} {o : Obj} (h : St W l w) (q : Pull (pt b o) l r) : w.heap[b]? = some o := by
  obtain ⟨a, c, ha, _, _, sa, _⟩ := (h.pull q).sat
  exact sa b o ha
theorem St.older {V : World} {k : Nat} {o : Obj} (h : St W l w) (q : Pull (old V) l r) (hk : V.heap[k]? = some o) : w.heap[k]? = some o := by
  obtain ⟨a, c, ha, _, _, sa, _⟩ := (h.pull q).sat
  refine sa k o ?_
  rw [ha k (Array.getElem?_eq_some_iff.1 hk).1, hk]
theorem St.drew (h : St W l w) : St W l w.drew := ⟨h.os, h.tape, h.output, h.size, h.sat⟩
theorem St.drawn (h : St W l w) (n : Nat) : St W l { w with drawn := n } := ⟨h.os, h.tape, h.output, h.size, h.sat⟩
theorem St.alloc (h : St W l w) (o : Obj) : St W (pt w.heap.size o :: l) (w.alloc o) := by
  refine ⟨h.os, h.tape, h.output, Nat.le_trans h.size (by simp), fun k => if k = w.heap.size then some o else none, hp w, by simp [pt], h.sat, ?_, ?_, ?_⟩
  · intro k
    by_cases e : k = w.heap.size
    · right; subst e; simp [hp]
    · left; simp [e]
  · intro k o' e
    by_cases e' : k = w.heap.size
    · subst e'; simp at e; subst e; show (w.heap.push _)[w.heap.size]? = _; simp
    · simp [e'] at e
  · intro k o' e
    simp only [hp] at e ⊢
    have hlt := (Array.getElem?_eq_some_iff.1 e).1
    show (w.heap.push o)[k]? = _
    simp [Array.getElem?_push, Nat.ne_of_lt hlt, e]
/-- A part's block gets another content. -/
theorem St.write {b : Nat} {o o' : Obj} (h : St W l w) (q : Repl (pt b o) (pt b o') l m) : St W m { w with heap := w.heap.setIfInBounds b o' } := by
  obtain ⟨r, p1, p2⟩ := q.pulls
  obtain ⟨a, c, ha, hc, hd, sa, sc⟩ := (h.pull p1).sat
  have hb : w.heap[b]? = some o := sa b o ha
  have hlt := (Array.getElem?_eq_some_iff.1 hb).1
  have : St W (pt b o' :: r) { w with heap := w.heap.setIfInBounds b o' } := by
    refine ⟨h.os, h.tape, h.output, by simpa using h.size, fun k => if k = b then some o' else a k, c, by simp [pt], hc, ?_, ?_, ?_⟩
    · intro k
      by_cases e : k = b
      · subst e
        rcases hd k with h | h
        · rw [ha] at h; cases h
        · exact .inr h
      · simpa [e] using hd k
    · intro k x e
      by_cases e' : k = b
      · subst e'; simp at e; subst e; simp [hp, hlt]
      · simp [e'] at e
        simpa [hp, Array.getElem?_setIfInBounds, Ne.symm e'] using sa k x e
    · intro k x e
      by_cases e' : k = b
      · subst e'
        rcases hd k with h | h
        · rw [ha] at h; cases h
        · rw [e] at h; cases h
      · simpa [hp, Array.getElem?_setIfInBounds, Ne.symm e'] using sc k x e
  exact this.back p2
end
end Eng
end Go
end
section
namespace Go
namespace Eng

/-- How an operation is looked at: it yields one value in every world of the class; it only reads; anything. -/
inductive Fg | s | r | h | e
  deriving DecidableEq
def Fg.rd : Fg → Bool
  | .s => true
  | .r => true
  | _ => false
/-- the class after an operation: none is asked for after the last one -/
def cl (C : World → Prop) : Fg → World → Prop
  | .e => fun _ => True
  | _ => C
/-- The operation 'o' ends, without a panic, in a world of 'C', and 'K' holds behind it. -/
def swp (P : Program) (C : World → Prop) (o : Oper) (a : Act) (w : World) (K : Act → World → Prop) : Prop :=
  match (execOp a.eval o).run P w with
  | .ok (.value v) w' => C w' ∧ K (a.put o.dst v) w'
  | .ok .skip w' => C w' ∧ K (a.put o.dst undef) w'
  | .ok (.enter f args) w' => Calls P f args w' fun e w'' => ∃ v, e = .returned v ∧ C w'' ∧ K (a.put o.dst v) w''
  | _ => False

section
variable {P : Program} {ops : Array Oper} {C : World → Prop} {soft : Nat → Fg} {K K' : Act → World → Prop} {a : Act} {w : World} {o : Oper}

theorem swp_mono (h : ∀ a w, C w → K a w → K' a w) (hh : swp P C o a w K) : swp P C o a w K' := by
  unfold swp at *
  generalize (execOp a.eval o).run P w = r at *
  cases r with
  | halt x w' => exact hh
  | ok n w' =>
    cases n <;> simp only at hh ⊢ <;> first
      | exact ⟨hh.1, h _ _ hh.1 hh.2⟩
      | exact hh.mono fun e w'' ⟨v, he, hc, hk⟩ => ⟨v, he, hc, h _ _ hc hk⟩
      | exact hh

theorem wp_of_swp {Q : Exit → Act → World → Prop} (h : ∀ a w, C w → K a w → K' a w) (hh : swp P C o a w K) : o.wp P a w K' Q := by
  unfold swp at hh
  unfold Oper.wp
  generalize (execOp a.eval o).run P w = r at *
  cases r with
  | halt x w' => exact hh.elim
  | ok n w' =>
    cases n <;> simp only [Oper.upon] at hh ⊢ <;> first
      | exact h _ _ hh.1 hh.2
      | exact hh.mono fun e w'' ⟨v, he, hc, hk⟩ => by subst he; exact h _ _ hc hk
      | exact hh.elim

def softAt (P : Program) (C : World → Prop) (o : Oper) (a : Act) (v : Value) : Prop := ∀ w, C w → (execOp a.eval o).run P w = .ok (.value v) w

def valAt (P : Program) (C : World → Prop) (k : Fg) (o : Oper) (a : Act) (w : World) (v : Value) : Prop := match k with
  | .s => softAt P C o a v
  | _ => (execOp a.eval o).run P w = .ok (.value v) w
theorem valAt_run {P : Program} {C : World → Prop} {k : Fg} {o : Oper} {a : Act} {w : World} {v : Value} (hw : C w) (h : valAt P C k o a w v) : (execOp a.eval o).run P w = .ok (.value v) w := by
  cases k with
  | s => exact h w hw
  | r => exact h
  | h => exact h
  | e => exact h

def opS (P : Program) (ops : Array Oper) (C : World → Prop) (soft : Nat → Fg) (i : Nat) (K : Act → World → Prop) (a : Act) (w : World) : Prop :=
  match ops[i]? with
  | none => K a w
  | some o => if Region.wanted o (yielded ops a.tmps) then (if (soft i).rd then ∃ v, valAt P C (soft i) o a w v ∧ K (a.put o.dst v) w else swp P (cl C (soft i)) o a w K) else K (a.put o.dst undef) w

theorem cl_ne {C : World → Prop} {k : Fg} (h : k ≠ .e) : cl C k = C := by cases k <;> first | rfl | exact absurd rfl h
theorem opS_mono {i : Nat} (he : soft i ≠ .e) (h : ∀ a w, C w → K a w → K' a w) (hw : C w) (hh : opS P ops C soft i K a w) : opS P ops C soft i K' a w := by
  unfold opS at *
  cases eo : ops[i]? with
  | none => simp only [eo] at hh ⊢; exact h _ _ hw hh
  | some o =>
    simp only [eo] at hh ⊢
    split
    · rename_i h1; rw [if_pos h1] at hh
      split
      · rename_i h2; rw [if_pos h2] at hh; obtain ⟨v, h3, h4⟩ := hh; exact ⟨v, h3, h _ _ hw h4⟩
      · rename_i h2; rw [if_neg h2, cl_ne he] at hh; rw [cl_ne he]; exact swp_mono h hh
    · rename_i h1; rw [if_neg h1] at hh; exact h _ _ hw hh

theorem wpOp_of_opS {Q : Exit → Act → World → Prop} {i : Nat} (h : ∀ a w, (soft i ≠ .e → C w) → K a w → K' a w) (hw : C w) (hh : opS P ops C soft i K a w) : wpOp P ops Q i K' a w := by
  unfold opS at hh
  unfold wpOp
  cases eo : ops[i]? with
  | none => simp only [eo] at hh ⊢; exact h _ _ (fun _ => hw) hh
  | some o =>
    simp only [eo] at hh ⊢
    split
    · rename_i h1; rw [if_pos h1] at hh
      left
      split at hh
      · obtain ⟨v, h3, h4⟩ := hh
        unfold Oper.wp
        rw [valAt_run hw h3]
        exact h _ _ (fun _ => hw) h4
      · exact wp_of_swp (fun a w hc hk => h a w (fun he => by rw [cl_ne he] at hc; exact hc) hk) hh
    · rename_i h1; rw [if_neg h1] at hh; exact h _ _ (fun _ => hw) hh

theorem wpOp_of_opSe {Q : Exit → Act → World → Prop} {i : Nat} (he : soft i = .e) (h : ∀ a w, K a w → K' a w) (hh : opS P ops C soft i K a w) : wpOp P ops Q i K' a w := by
  unfold opS at hh
  unfold wpOp
  rw [he] at hh
  cases eo : ops[i]? with
  | none => simp only [eo] at hh ⊢; exact h _ _ hh
  | some o =>
    simp only [eo] at hh ⊢
    split
    · rename_i h1; rw [if_pos h1] at hh
      left
      exact wp_of_swp (fun a w _ hk => h a w hk) hh
    · rename_i h1; rw [if_neg h1] at hh; exact h _ _ hh

/-- Two operations that may come in either order. -/
structure Comm (ops : Array Oper) (soft : Nat → Fg) (i j : Nat) : Prop where
  kinds : soft i = .s ∨ soft j = .s ∨ (soft i = .r ∧ soft j = .r)
  ei : soft i ≠ .e
  ej : soft j ≠ .e
  apart : ∀ (oi oj : Oper), ops[i]? = some oi → ops[j]? = some oj → oi.apart ops oj = true
  seli : ∀ (o : Oper) cs b, ops[i]? = some o → o.op ≠ .select cs b
  selj : ∀ (o : Oper) cs b, ops[j]? = some o → o.op ≠ .select cs b

theorem opS_comm {i j : Nat} (hc : Comm ops soft i j) (hw : C w) (hh : opS P ops C soft i (opS P ops C soft j K) a w) :
    opS P ops C soft j (opS P ops C soft i K) a w := by
  cases hi : ops[i]? with
  | none =>
    have e : ∀ K a w, opS P ops C soft i K a w = K a w := fun K a w => by simp [opS, hi]
    rw [e] at hh
    exact opS_mono hc.ej (fun a w _ h => by rw [e]; exact h) hw hh
  | some oi =>
    cases hj : ops[j]? with
    | none =>
      have e : ∀ K a w, opS P ops C soft j K a w = K a w := fun K a w => by simp [opS, hj]
      rw [e]
      exact opS_mono hc.ei (fun a w _ h => by rw [e] at h; exact h) hw hh
    | some oj =>
      obtain ⟨a1, a2, a3⟩ := Oper.apart_spec (hc.apart oi oj hi hj)
      have si := fun cs b => hc.seli oi cs b hi
      have sj := fun cs b => hc.selj oj cs b hj
      have ei : ∀ (K : Act → World → Prop) (a : Act) (w : World), opS P ops C soft i K a w = if Region.wanted oi (yielded ops a.tmps) then (if (soft i).rd then ∃ v, valAt P C (soft i) oi a w v ∧ K (a.put oi.dst v) w else swp P C oi a w K) else K (a.put oi.dst undef) w := fun K a w => by simp [opS, hi, cl_ne hc.ei]
      have ej : ∀ (K : Act → World → Prop) (a : Act) (w : World), opS P ops C soft j K a w = if Region.wanted oj (yielded ops a.tmps) then (if (soft j).rd then ∃ v, valAt P C (soft j) oj a w v ∧ K (a.put oj.dst v) w else swp P C oj a w K) else K (a.put oj.dst undef) w := fun K a w => by simp [opS, hj, cl_ne hc.ej]
      have wi : ∀ (a : Act) (v : Value), Region.wanted oi (yielded ops (a.put oj.dst v).tmps) = Region.wanted oi (yielded ops a.tmps) := fun a v => wanted_put oi a oj.dst v a3
      have wj : ∀ (a : Act) (v : Value), Region.wanted oj (yielded ops (a.put oi.dst v).tmps) = Region.wanted oj (yielded ops a.tmps) := fun a v => wanted_put oj a oi.dst v a1
      have xi : ∀ (a : Act) (v : Value), execOp (a.put oj.dst v).eval oi = execOp a.eval oi := fun a v => execOp_put oi si a oj.dst v a3
      have xj : ∀ (a : Act) (v : Value), execOp (a.put oi.dst v).eval oj = execOp a.eval oj := fun a v => execOp_put oj sj a oi.dst v a1
      have pc : ∀ (a : Act) (v u : Value), (a.put oi.dst v).put oj.dst u = (a.put oj.dst u).put oi.dst v := fun a v u => Act.put_comm a v u a2
      have fi : ∀ (a : Act) (w : World) (u v : Value), valAt P C (soft i) oi (a.put oj.dst u) w v ↔ valAt P C (soft i) oi a w v := fun a w u v => by unfold valAt softAt; rw [xi]
      have fj : ∀ (a : Act) (w : World) (u v : Value), valAt P C (soft j) oj (a.put oi.dst u) w v ↔ valAt P C (soft j) oj a w v := fun a w u v => by unfold valAt softAt; rw [xj]
      have sw : ∀ (o : Oper) (a : Act) (w w' : World) (v : Value) (k : Fg), k = .s → valAt P C k o a w v → valAt P C k o a w' v := fun o a w w' v k hk h => by subst hk; exact h
      rw [ej]
      by_cases hwi : Region.wanted oi (yielded ops a.tmps) = true
      · rw [ei, if_pos hwi] at hh
        by_cases hsi : (soft i).rd = true
        · rw [if_pos hsi] at hh
          obtain ⟨v, hv, hh⟩ := hh
          rw [ej, wj] at hh
          by_cases hwj : Region.wanted oj (yielded ops a.tmps) = true
          · rw [if_pos hwj] at hh ⊢
            by_cases hsj : (soft j).rd = true
            · rw [if_pos hsj] at hh ⊢
              obtain ⟨u, hu, hh⟩ := hh
              refine ⟨u, (fj _ _ _ _).1 hu, ?_⟩
              rw [ei, wi, if_pos hwi, if_pos hsi]
              exact ⟨v, (fi _ _ _ _).2 hv, by rw [← pc]; exact hh⟩
            · rw [if_neg hsj] at hh ⊢
              have hjh : soft j = .h := by have := hc.ej; revert hsj this; cases soft j <;> simp [Fg.rd]
              have his : soft i = .s := by
                rcases hc.kinds with h | h | h
                · exact h
                · rw [hjh] at h; cases h
                · rw [hjh] at h; cases h.2
              unfold swp at hh ⊢
              rw [xj] at hh
              have key : ∀ u w', K ((a.put oi.dst v).put oj.dst u) w' → opS P ops C soft i K (a.put oj.dst u) w' := fun u w' hk => by
                rw [ei, wi, if_pos hwi, if_pos hsi]
                exact ⟨v, (fi _ _ _ _).2 (sw _ _ _ _ _ _ his hv), by rw [← pc]; exact hk⟩
              generalize (execOp a.eval oj).run P w = r at *
              cases r with
              | halt x w' => exact hh
              | ok n w' =>
                cases n <;> simp only at hh ⊢ <;> first
                  | exact ⟨hh.1, key _ _ hh.2⟩
                  | exact hh.mono fun e w'' ⟨u, he, hc, hk⟩ => ⟨u, he, hc, key _ _ hk⟩
                  | exact hh
          · rw [if_neg hwj] at hh ⊢
            rw [ei, wi, if_pos hwi, if_pos hsi]
            exact ⟨v, (fi _ _ _ _).2 hv, by rw [← pc]; exact hh⟩
        · rw [if_neg hsi] at hh
          have hih : soft i = .h := by have := hc.ei; revert hsi this; cases soft i <;> simp [Fg.rd]
          have hjs : soft j = .s := by
            rcases hc.kinds with h | h | h
            · rw [hih] at h; cases h
            · exact h
            · rw [hih] at h; cases h.1
          have hsj : (soft j).rd = true := by rw [hjs]; rfl
          by_cases hwj : Region.wanted oj (yielded ops a.tmps) = true
          · rw [if_pos hwj, if_pos hsj]
            have inner : ∀ v w', opS P ops C soft j K (a.put oi.dst v) w' → ∃ u, valAt P C (soft j) oj a w u ∧ K ((a.put oi.dst v).put oj.dst u) w' := fun v w' h => by
              rw [ej, wj, if_pos hwj, if_pos hsj] at h
              obtain ⟨u, hu, hk⟩ := h
              exact ⟨u, sw _ _ _ _ _ _ hjs ((fj _ _ _ _).1 hu), hk⟩
            have uniq : ∀ u u', valAt P C (soft j) oj a w u → valAt P C (soft j) oj a w u' → u = u' := fun u u' h h' => by
              have := (valAt_run hw h).symm.trans (valAt_run hw h')
              simpa using this
            unfold swp at hh
            cases hr : (execOp a.eval oi).run P w with
            | halt x w' => rw [hr] at hh; exact hh.elim
            | ok n w' =>
              rw [hr] at hh
              cases n <;> simp only at hh
              case value v =>
                obtain ⟨u, hu, hk⟩ := inner _ _ hh.2
                refine ⟨u, hu, ?_⟩
                rw [ei, wi, if_pos hwi, if_neg hsi]
                unfold swp
                rw [xi, hr]
                exact ⟨hh.1, by rw [← pc]; exact hk⟩
              case skip =>
                obtain ⟨u, hu, hk⟩ := inner _ _ hh.2
                refine ⟨u, hu, ?_⟩
                rw [ei, wi, if_pos hwi, if_neg hsi]
                unfold swp
                rw [xi, hr]
                exact ⟨hh.1, by rw [← pc]; exact hk⟩
              case enter f args =>
                obtain ⟨e0, w0, _, ⟨v0, _, _, h0⟩, _⟩ := hh []
                obtain ⟨u, hu, _⟩ := inner _ _ h0
                refine ⟨u, hu, ?_⟩
                rw [ei, wi, if_pos hwi, if_neg hsi]
                unfold swp
                rw [xi, hr]
                refine hh.mono fun e w'' ⟨v, he, hc, hk⟩ => ⟨v, he, hc, ?_⟩
                obtain ⟨u', hu', hk'⟩ := inner _ _ hk
                rw [uniq u u' hu hu', ← pc]
                exact hk'
          · rw [if_neg hwj]
            rw [ei, wi, if_pos hwi, if_neg hsi]
            have inner : ∀ v w', opS P ops C soft j K (a.put oi.dst v) w' → K ((a.put oj.dst undef).put oi.dst v) w' := fun v w' h => by
              rw [ej, wj, if_neg hwj] at h
              rw [← pc]; exact h
            unfold swp at hh ⊢
            rw [xi]
            generalize (execOp a.eval oi).run P w = r at *
            cases r with
            | halt x w' => exact hh
            | ok n w' =>
              cases n <;> simp only at hh ⊢ <;> first
                | exact ⟨hh.1, inner _ _ hh.2⟩
                | exact hh.mono fun e w'' ⟨u, he, hc, hk⟩ => ⟨u, he, hc, inner _ _ hk⟩
                | exact hh
      · rw [ei, if_neg hwi] at hh
        rw [ej, wj] at hh
        have key : ∀ u w', K ((a.put oi.dst undef).put oj.dst u) w' → opS P ops C soft i K (a.put oj.dst u) w' := fun u w' hk => by
          rw [ei, wi, if_neg hwi, ← pc]; exact hk
        by_cases hwj : Region.wanted oj (yielded ops a.tmps) = true
        · rw [if_pos hwj] at hh ⊢
          by_cases hsj : (soft j).rd = true
          · rw [if_pos hsj] at hh ⊢
            obtain ⟨u, hu, hh⟩ := hh
            exact ⟨u, (fj _ _ _ _).1 hu, key _ _ hh⟩
          · rw [if_neg hsj] at hh ⊢
            unfold swp at hh ⊢
            rw [xj] at hh
            generalize (execOp a.eval oj).run P w = r at *
            cases r with
            | halt x w' => exact hh
            | ok n w' =>
              cases n <;> simp only at hh ⊢ <;> first
                | exact ⟨hh.1, key _ _ hh.2⟩
                | exact hh.mono fun e w'' ⟨u, he, hc, hk⟩ => ⟨u, he, hc, key _ _ hk⟩
                | exact hh
        · rw [if_neg hwj] at hh ⊢
          exact key _ _ hh

/-- The operations of a list of places, in its order. -/
def wS (P : Program) (ops : Array Oper) (C : World → Prop) (soft : Nat → Fg) (K : Act → World → Prop) : List Nat → Act → World → Prop
  | [], a, w => K a w
  | i :: l, a, w => opS P ops C soft i (wS P ops C soft K l) a w

theorem wS_extract {j : Nat} : ∀ (l : List Nat) (a : Act) (w : World), l.Pairwise (· < ·) → j ∈ l → (∀ i, i ∈ l → i < j → Comm ops soft i j) → C w →
    wS P ops C soft K l a w → opS P ops C soft j (wS P ops C soft K (l.erase j)) a w := by
  intro l
  induction l with
  | nil => intro a w _ hj; cases hj
  | cons i l ih =>
    intro a w hp hj hc hw h
    by_cases e : i = j
    · subst e
      rw [List.erase_cons_head]
      exact h
    · have hj' : j ∈ l := by
        cases hj with
        | head => exact absurd rfl e
        | tail _ h => exact h
      have hlt : i < j := (List.pairwise_cons.1 hp).1 j hj'
      rw [List.erase_cons_tail (by simpa using e)]
      refine opS_comm (hc i (List.mem_cons_self ..) hlt) hw ?_
      exact opS_mono (hc i (List.mem_cons_self ..) hlt).ei (fun a w hw h => ih a w (List.pairwise_cons.1 hp).2 hj' (fun i hi => hc i (List.mem_cons_of_mem _ hi)) hw h) hw h

/-- What is asked of a region, by reckoning: edges go back; of each two operations the one is surely ahead ('B') or they may come in either order. -/
def notSel (o : Oper) : Bool := match o.op with | .select _ _ => false | _ => true
def okB (ops : Array Oper) (soft : Nat → Fg) (B : Array Nat) : Bool :=
  (List.range ops.size).all fun j =>
    match ops[j]? with
    | none => true
    | some oj =>
      oj.after.all (fun e => !Region.binds .any e || decide (e.on < j)) && notSel oj && (decide (soft j ≠ .e) || (List.range ops.size).all fun k => decide (k ≤ j) || decide (soft k = .e)) &&
      (List.range j).all fun i =>
        match ops[i]? with
        | none => true
        | some oi =>
          if (B.getD j 0).testBit i then oj.after.any (fun e => Region.binds .any e && (e.on == i || (decide (i < e.on) && (B.getD e.on 0).testBit i)))
          else decide (soft i ≠ .e) && decide (soft j ≠ .e) && (decide (soft i = .s) || decide (soft j = .s) || (decide (soft i = .r) && decide (soft j = .r))) && oi.apart ops oj

structure OkFacts (ops : Array Oper) (soft : Nat → Fg) (B : Array Nat) : Prop where
  back : ∀ (j : Nat) (oj : Oper), ops[j]? = some oj → ∀ e ∈ oj.after, Region.binds .any e = true → e.on < j
  sel : ∀ (j : Nat) (oj : Oper) cs b, ops[j]? = some oj → oj.op ≠ .select cs b
  last : ∀ (j : Nat) (oj : Oper), ops[j]? = some oj → soft j = .e → ∀ k, j < k → k < ops.size → soft k = .e
  ahead : ∀ (i j : Nat) (oi oj : Oper), i < j → ops[i]? = some oi → ops[j]? = some oj → (B.getD j 0).testBit i = true →
    ∃ e ∈ oj.after, Region.binds .any e = true ∧ (e.on = i ∨ (i < e.on ∧ (B.getD e.on 0).testBit i = true))
  free : ∀ (i j : Nat) (oi oj : Oper), i < j → ops[i]? = some oi → ops[j]? = some oj → (B.getD j 0).testBit i = false → (soft i ≠ .e ∧ soft j ≠ .e) ∧ (soft i = .s ∨ soft j = .s ∨ (soft i = .r ∧ soft j = .r)) ∧ oi.apart ops oj = true

theorem okB_facts {B : Array Nat} (h : okB ops soft B = true) : OkFacts ops soft B := by
  unfold okB at h
  rw [List.all_eq_true] at h
  have lt : ∀ {j oj}, ops[j]? = some oj → j < ops.size := fun h => (Array.getElem?_eq_some_iff.1 h).1
  refine ⟨fun j oj hj e he hb => ?_, fun j oj cs b hj hs => ?_, fun j oj hj he k hjk hk => ?_, fun i j oi oj hij hi hj hb => ?_, fun i j oi oj hij hi hj hb => ?_⟩
  · have h1 := h j (List.mem_range.2 (lt hj))
    simp only [hj, Bool.and_eq_true] at h1
    have h2 := (Array.all_eq_true_iff_forall_mem.1 h1.1.1.1) e he
    simpa [hb] using h2
  · have h1 := h j (List.mem_range.2 (lt hj))
    simp only [hj, Bool.and_eq_true] at h1
    have h2 := h1.1.1.2
    unfold notSel at h2
    rw [hs] at h2
    cases h2
  · have h1 := h j (List.mem_range.2 (lt hj))
    simp only [hj, Bool.and_eq_true] at h1
    have h2 := h1.1.2
    rw [he] at h2
    simp only [ne_eq, not_true_eq_false, decide_false, Bool.false_or] at h2
    have h3 := (List.all_eq_true.1 h2) k (List.mem_range.2 hk)
    simp only [Bool.or_eq_true, decide_eq_true_eq] at h3
    rcases h3 with h3 | h3
    · omega
    · exact h3
  · have h1 := h j (List.mem_range.2 (lt hj))
    simp only [hj, Bool.and_eq_true] at h1
    have h2 := (List.all_eq_true.1 h1.2) i (List.mem_range.2 hij)
    simp only [hi] at h2
    rw [if_pos hb] at h2
    obtain ⟨e, he, h3⟩ := Array.any_eq_true'.1 h2
    simp only [Bool.and_eq_true, Bool.or_eq_true, beq_iff_eq, decide_eq_true_eq] at h3
    exact ⟨e, he, h3.1, h3.2⟩
  · have h1 := h j (List.mem_range.2 (lt hj))
    simp only [hj, Bool.and_eq_true] at h1
    have h2 := (List.all_eq_true.1 h1.2) i (List.mem_range.2 hij)
    simp only [hi] at h2
    rw [if_neg (by rw [hb]; exact Bool.false_ne_true)] at h2
    simp only [Bool.and_eq_true, Bool.or_eq_true, decide_eq_true_eq] at h2
    exact ⟨h2.1.1, or_assoc.1 h2.1.2, h2.2⟩

def Closed (ops : Array Oper) (listed : Array Bool) : Prop :=
  listed.size = ops.size ∧ ∀ j oj, ops[j]? = some oj → listed.getD j false = true → ∀ e ∈ oj.after, Region.binds .any e = true → listed.getD e.on false = true

theorem held_back {B : Array Nat} {listed : Array Bool} (hk : OkFacts ops soft B) (hcl : Closed ops listed) : ∀ (n i j : Nat) (oj : Oper), j ≤ n → i < j → ops[j]? = some oj →
    (B.getD j 0).testBit i = true → listed.getD i false = false → ∃ e ∈ oj.after, Region.binds .any e = true ∧ listed.getD e.on false = false := by
  intro n
  induction n with
  | zero => intro i j oj hj hij; omega
  | succ n ih =>
    intro i j oj hjn hij hj hb hl
    have hlt := (Array.getElem?_eq_some_iff.1 hj).1
    have hi : ∃ oi, ops[i]? = some oi := ⟨_, Array.getElem?_eq_getElem (by omega)⟩
    obtain ⟨oi, hi⟩ := hi
    obtain ⟨e, he, hbe, h⟩ := hk.ahead i j oi oj hij hi hj hb
    rcases h with rfl | ⟨hlt2, hb2⟩
    · exact ⟨e, he, hbe, hl⟩
    · have hback := hk.back j oj hj e he hbe
      have : ∃ oe, ops[e.on]? = some oe := ⟨_, Array.getElem?_eq_getElem (by omega)⟩
      obtain ⟨oe, hoe⟩ := this
      obtain ⟨e', he', hbe', hl'⟩ := ih i e.on oe (by omega) hlt2 hoe hb2 hl
      refine ⟨e, he, hbe, ?_⟩
      cases hx : listed.getD e.on false with
      | false => rfl
      | true => rw [hcl.2 e.on oe hoe hx e' he' hbe'] at hl'; cases hl'

theorem getD_tf {listed : Array Bool} {j : Nat} (h : j < listed.size) : listed.getD j true = listed.getD j false := by
  simp [h]
theorem getD_set_self {listed : Array Bool} {j : Nat} (h : j < listed.size) (d : Bool) : (listed.setIfInBounds j true).getD j d = true := by
  simp [h]

def rest (ops : Array Oper) (listed : Array Bool) : List Nat := (List.range ops.size).filter fun i => !listed.getD i true

theorem rest_pairwise (listed : Array Bool) : (rest ops listed).Pairwise (· < ·) := List.pairwise_lt_range.filter _
theorem mem_rest {listed : Array Bool} {j : Nat} : j ∈ rest ops listed ↔ j < ops.size ∧ listed.getD j true = false := by
  simp [rest]

theorem rest_erase {listed : Array Bool} (hs : listed.size = ops.size) {j : Nat} (hj : j ∈ rest ops listed) : rest ops (listed.setIfInBounds j true) = (rest ops listed).erase j := by
  have hn : (rest ops listed).Nodup := (rest_pairwise listed).imp fun h => Nat.ne_of_lt h
  rw [hn.erase_eq_filter]
  unfold rest
  rw [List.filter_filter]
  apply List.filter_congr
  intro i hi
  have hjlt := (mem_rest.1 hj).1
  by_cases e : j = i
  · subst e
    rw [getD_set_self (by omega)]
    simp
  · rw [getD_set_ne true e]
    simp [Ne.symm e]

theorem closed_set {listed : Array Bool} {j : Nat} (hcl : Closed ops listed) (hj : j ∈ Region.ready .any ops listed) : Closed ops (listed.setIfInBounds j true) := by
  obtain ⟨_, oj, hoj, hall⟩ := mem_ready.1 hj
  refine ⟨by simp [hcl.1], fun k ok hk hl e he hb => ?_⟩
  by_cases hjk : j = k
  · subst hjk
    have : ok = oj := Option.some.inj (hk.symm.trans hoj)
    subst this
    exact getD_set_true (hall e he hb)
  · rw [getD_set_ne false hjk] at hl
    exact getD_set_true (hcl.2 k ok hk hl e he hb)

theorem ready_of_rest {B : Array Nat} {listed : Array Bool} (hk : OkFacts ops soft B) (hcl : Closed ops listed) (hne : rest ops listed ≠ []) : Region.ready .any ops listed ≠ [] := by
  cases hr : rest ops listed with
  | nil => exact absurd hr hne
  | cons i l =>
    have hi : i ∈ rest ops listed := by rw [hr]; exact List.mem_cons_self ..
    have hmin : ∀ j, j < i → j < ops.size → listed.getD j true = true := fun j hj hjs => by
      cases h : listed.getD j true with
      | true => rfl
      | false =>
        have : j ∈ rest ops listed := mem_rest.2 ⟨hjs, h⟩
        rw [hr] at this
        have hp := rest_pairwise (ops := ops) listed
        rw [hr] at hp
        cases this with
        | head => omega
        | tail _ h' => have := (List.pairwise_cons.1 hp).1 j h'; omega
    obtain ⟨his, hil⟩ := mem_rest.1 hi
    have : ∃ oi, ops[i]? = some oi := ⟨_, Array.getElem?_eq_getElem his⟩
    obtain ⟨oi, hoi⟩ := this
    intro h0
    have : i ∈ Region.ready .any ops listed := mem_ready.2 ⟨hil, oi, hoi, fun e he hb => by
      have := hk.back i oi hoi e he hb
      rw [← getD_tf (by rw [hcl.1]; omega)]
      exact hmin e.on this (by omega)⟩
    rw [h0] at this
    cases this

theorem wpAny_of_wS {B : Array Nat} (hk : OkFacts ops soft B) {Q : Exit → Act → World → Prop} (hQ : ∀ a w, K a w → Q .normal a w) : ∀ (fuel : Nat) (listed : Array Bool) (a : Act) (w : World),
    ((∃ i ∈ rest ops listed, soft i ≠ .e) → C w) → Closed ops listed → (rest ops listed).length ≤ fuel → wS P ops C soft K (rest ops listed) a w → wpAny P .any ops Q fuel listed a w := by
  intro fuel
  induction fuel with
  | zero =>
    intro listed a w hw hcl hlen h
    have hnil : rest ops listed = [] := List.length_eq_zero_iff.1 (Nat.le_zero.1 hlen)
    rw [hnil] at h
    refine ⟨?_, hQ _ _ h⟩
    rw [List.eq_nil_iff_forall_not_mem]
    intro j hj
    obtain ⟨h1, o, ho, _⟩ := mem_ready.1 hj
    have : j ∈ rest ops listed := mem_rest.2 ⟨(Array.getElem?_eq_some_iff.1 ho).1, h1⟩
    rw [hnil] at this
    cases this
  | succ fuel ih =>
    intro listed a w hw hcl hlen h
    refine ⟨fun h0 => ?_, fun j hj => ?_⟩
    · by_cases hnil : rest ops listed = []
      · rw [hnil] at h; exact hQ _ _ h
      · exact absurd h0 (ready_of_rest hk hcl hnil)
    · obtain ⟨h1, oj, hoj, hall⟩ := mem_ready.1 hj
      have hjs := (Array.getElem?_eq_some_iff.1 hoj).1
      have hjr : j ∈ rest ops listed := mem_rest.2 ⟨hjs, h1⟩
      have pairs : ∀ i, i ∈ rest ops listed → i < j → Comm ops soft i j := fun i hi hij => by
        obtain ⟨his, hil⟩ := mem_rest.1 hi
        have : ∃ oi, ops[i]? = some oi := ⟨_, Array.getElem?_eq_getElem his⟩
        obtain ⟨oi, hoi⟩ := this
        have hil' : listed.getD i false = false := by rw [← getD_tf (by rw [hcl.1]; exact his)]; exact hil
        cases hb : (B.getD j 0).testBit i with
        | true =>
          obtain ⟨e, he, hbe, hl⟩ := held_back hk hcl j i j oj (Nat.le_refl _) hij hoj hb hil'
          rw [hall e he hbe] at hl
          cases hl
        | false =>
          obtain ⟨⟨he1, he2⟩, hs, hap⟩ := hk.free i j oi oj hij hoi hoj hb
          exact ⟨hs, he1, he2, fun oi' oj' hi' hj' => by
            obtain rfl := Option.some.inj (hi'.symm.trans hoi)
            obtain rfl := Option.some.inj (hj'.symm.trans hoj)
            exact hap, fun o cs b ho => hk.sel i o cs b ho, fun o cs b ho => hk.sel j o cs b ho⟩
      have hn : (rest ops listed).Nodup := (rest_pairwise listed).imp fun h => Nat.ne_of_lt h
      have hlen' : (rest ops (listed.setIfInBounds j true)).length ≤ fuel := by
        rw [rest_erase hcl.1 hjr, List.length_erase_of_mem hjr]
        omega
      by_cases hex : ∃ i ∈ rest ops listed, soft i ≠ .e
      · have hw : C w := hw hex
        have h2 := wS_extract (rest ops listed) a w (rest_pairwise listed) hjr pairs hw h
        refine wpOp_of_opS (K := wS P ops C soft K ((rest ops listed).erase j)) (fun a' w' hw' h3 => ?_) hw h2
        rw [← rest_erase hcl.1 hjr] at h3
        refine ih _ a' w' (fun hne => hw' fun he => ?_) (closed_set hcl hj) hlen' h3
        obtain ⟨i, hi, hie⟩ := hne
        rw [rest_erase hcl.1 hjr] at hi
        have h4 := (List.Nodup.mem_erase_iff hn).1 hi
        rcases Nat.lt_trichotomy i j with hij | hij | hij
        · exact absurd he (pairs i h4.2 hij).ej
        · exact h4.1 hij
        · exact hie (hk.last j oj hoj he i hij (mem_rest.1 h4.2).1)
      · have hall : ∀ i, i ∈ rest ops listed → soft i = .e := fun i hi => Classical.byContradiction fun h => hex ⟨i, hi, h⟩
        obtain ⟨tl, htl⟩ : ∃ tl, rest ops listed = j :: tl := by
          cases hr : rest ops listed with
          | nil => rw [hr] at hjr; cases hjr
          | cons x tl =>
            have hx : x ∈ rest ops listed := by rw [hr]; exact List.mem_cons_self ..
            refine ⟨tl, ?_⟩
            rw [hr] at hjr
            rcases List.mem_cons.1 hjr with rfl | hjt
            · rfl
            · have hp := rest_pairwise (ops := ops) listed
              rw [hr] at hp
              have hlt := (List.pairwise_cons.1 hp).1 j hjt
              exact absurd (hall j (by rw [hr]; exact hjr)) (pairs x hx hlt).ej
        have h2 : opS P ops C soft j (wS P ops C soft K ((rest ops listed).erase j)) a w := by
          rw [htl, List.erase_cons_head]
          rw [htl] at h
          exact h
        refine wpOp_of_opSe (K := wS P ops C soft K ((rest ops listed).erase j)) (hall j hjr) (fun a' w' h3 => ?_) h2
        rw [← rest_erase hcl.1 hjr] at h3
        refine ih _ a' w' (fun hne => ?_) (closed_set hcl hj) hlen' h3
        obtain ⟨i, hi, hie⟩ := hne
        rw [rest_erase hcl.1 hjr] at hi
        exact absurd (hall i (List.mem_of_mem_erase hi)) hie

/-- THE WALK OF A REGION, in the text's order; the flags: which operations yield one value in every world of 'C' (no flag: not so). -/
def wk (P : Program) (ops : Array Oper) (C : World → Prop) (K : Act → World → Prop) : List Fg → List Oper → Act → World → Prop
  | _, [], a, w => K a w
  | .s :: fl, o :: l, a, w => if Region.wanted o (yielded ops a.tmps) then ∃ v, valAt P C .s o a w v ∧ wk P ops C K fl l (a.put o.dst v) w else wk P ops C K fl l (a.put o.dst undef) w
  | .r :: fl, o :: l, a, w => if Region.wanted o (yielded ops a.tmps) then ∃ v, valAt P C .r o a w v ∧ wk P ops C K fl l (a.put o.dst v) w else wk P ops C K fl l (a.put o.dst undef) w
  | .h :: fl, o :: l, a, w => if Region.wanted o (yielded ops a.tmps) then swp P C o a w (wk P ops C K fl l) else wk P ops C K fl l (a.put o.dst undef) w
  | .e :: fl, o :: l, a, w => if Region.wanted o (yielded ops a.tmps) then swp P (fun _ => True) o a w (wk P ops C K fl l) else wk P ops C K fl l (a.put o.dst undef) w
  | [], o :: l, a, w => if Region.wanted o (yielded ops a.tmps) then swp P C o a w (wk P ops C K [] l) else wk P ops C K [] l (a.put o.dst undef) w

def flag (fl : List Fg) (i : Nat) : Fg := fl.getD i .h

theorem wS_of_wk {fl0 : List Fg} (hlast : ∀ (j : Nat) (oj : Oper), ops[j]? = some oj → flag fl0 j = .e → ∀ k, j < k → k < ops.size → flag fl0 k = .e) : ∀ (l : List Oper) (fl : List Fg) (k : Nat) (a : Act) (w : World), ((∃ j, j < l.length ∧ fl.getD j .h ≠ .e) → C w) → (∀ j, l[j]? = ops[k + j]?) → (∀ j, fl.getD j .h = fl0.getD (k + j) .h) →
    wk P ops C K fl l a w → wS P ops C (flag fl0) K (List.range' k l.length) a w := by
  intro l
  induction l with
  | nil => intro fl k a w _ _ _ h; cases fl <;> simpa [wk, wS] using h
  | cons o l ih =>
    intro fl k a w hw hl hf h
    have hw0 : fl.getD 0 .h ≠ .e → C w := fun h => hw ⟨0, by simp, h⟩
    have h0 : ops[k]? = some o := by simpa using (hl 0).symm
    have hl' : ∀ j, l[j]? = ops[k + 1 + j]? := fun j => by have := hl (j + 1); simpa [Nat.add_assoc, Nat.add_comm 1 j] using this
    simp only [List.length_cons, List.range'_succ, wS, opS, h0]
    have hk0 : flag fl0 k = fl.getD 0 .h := by have := hf 0; simp at this; simp [flag, this]
    have hf' : ∀ j, fl.tail.getD j .h = fl0.getD (k + 1 + j) .h := fun j => by
      have := hf (j + 1)
      rw [show k + 1 + j = k + (j + 1) by omega, ← this]
      cases fl <;> simp
    have ih' := fun a w (hw : (∃ j, j < l.length ∧ fl.tail.getD j .h ≠ .e) → C w) h => ih fl.tail (k + 1) a w hw hl' hf' h
    rw [hk0]
    cases fl with
    | nil =>
      have hw : C w := hw0 (by simp)
      simp only [wk] at h
      simp only [List.getD_nil, Fg.rd, Bool.false_eq_true, if_false, cl]
      split
      · rename_i h1; rw [if_pos h1] at h; exact swp_mono (fun a w hw h => ih' a w (fun _ => hw) h) h
      · rename_i h1; rw [if_neg h1] at h; exact ih' _ _ (fun _ => hw) h
    | cons b fl =>
      cases b with
      | h =>
        have hw : C w := hw0 (by simp)
        simp only [wk] at h
        simp only [List.getD_cons_zero, Fg.rd, Bool.false_eq_true, if_false, cl]
        split
        · rename_i h1; rw [if_pos h1] at h; exact swp_mono (fun a w hw h => ih' a w (fun _ => hw) h) h
        · rename_i h1; rw [if_neg h1] at h; exact ih' _ _ (fun _ => hw) h
      | e =>
        simp only [wk] at h
        simp only [List.getD_cons_zero, Fg.rd, Bool.false_eq_true, if_false, cl]
        have hno : ¬ ∃ j, j < l.length ∧ fl.getD j .h ≠ .e := fun ⟨j, h1, h2⟩ => by
          have h3 := hl' j
          rw [List.getElem?_eq_getElem h1] at h3
          have h4 := (Array.getElem?_eq_some_iff.1 h3.symm).1
          have h5 := hlast k o h0 (by rw [hk0]; rfl) (k + 1 + j) (by omega) h4
          have h6 := hf' j
          simp only [List.tail_cons] at h6
          exact h2 (h6.trans h5)
        split
        · rename_i h1; rw [if_pos h1] at h; exact swp_mono (fun a w _ h => ih' a w (fun hne => absurd hne hno) h) h
        · rename_i h1; rw [if_neg h1] at h; exact ih' _ _ (fun hne => absurd hne hno) h
      | s =>
        have hw : C w := hw0 (by simp)
        simp only [wk] at h
        simp only [List.getD_cons_zero, Fg.rd, if_true]
        split
        · rename_i h1; rw [if_pos h1] at h; obtain ⟨v, hv, h⟩ := h; exact ⟨v, hv, ih' _ _ (fun _ => hw) h⟩
        · rename_i h1; rw [if_neg h1] at h; exact ih' _ _ (fun _ => hw) h
      | r =>
        have hw : C w := hw0 (by simp)
        simp only [wk] at h
        simp only [List.getD_cons_zero, Fg.rd, if_true]
        split
        · rename_i h1; rw [if_pos h1] at h; obtain ⟨v, hv, h⟩ := h; exact ⟨v, hv, ih' _ _ (fun _ => hw) h⟩
        · rename_i h1; rw [if_neg h1] at h; exact ih' _ _ (fun _ => hw) h

theorem rest_all : rest ops (Array.replicate ops.size false) = List.range ops.size := by
  unfold rest
  rw [List.filter_eq_self]
  intro i hi
  simp [List.mem_range.1 hi]

/-- A REGION THAT DRAWS ITS ORDER. -/
theorem region_draws {id : Nat} {Q : Exit → Act → World → Prop} {fl : List Fg} (hm : P.follows .mixedOrders = true) (hok : okB ops (flag fl) (Region.before ops) = true)
    (hC : C w.drew) (h : wk P ops C (fun a w => Q .normal a w) fl ops.toList a w.drew) : (Code.region id ops true).wp P Q a w := by
  refine wp_region_any hm ?_
  refine wpAny_of_wS (C := C) (soft := flag fl) (K := fun a w => Q .normal a w) (okB_facts hok) (fun _ _ h => h) ops.size _ a _ (fun _ => hC) ⟨by simp, fun j oj hj hl => ?_⟩ ?_ ?_
  · have : (Array.replicate ops.size false).getD j false = false := by
      rcases Nat.lt_or_ge j ops.size with h' | h'
      · simp [h']
      · simp [h']
    rw [this] at hl
    cases hl
  · rw [rest_all]; simp
  · rw [rest_all, List.range_eq_range', ← Array.length_toList]
    exact wS_of_wk (okB_facts hok).last ops.toList fl 0 a _ (fun _ => hC) (by simp) (by simp) h

/-- A REGION IN THE TEXT's ORDER. -/
theorem region_plain {id : Nat} {Q : Exit → Act → World → Prop} (h : wk P ops (fun _ => True) (fun a w => Q .normal a w) [] ops.toList a w) : (Code.region id ops false).wp P Q a w := by
  refine wp_region_list ?_
  generalize ops.toList = l at h
  induction l generalizing a w with
  | nil => exact h
  | cons o l ih =>
    simp only [wk] at h
    unfold wpList
    split
    · rename_i h1; rw [if_pos h1] at h; exact .inl (wp_of_swp (fun a w _ h => ih h) h)
    · rename_i h1; rw [if_neg h1] at h; exact ih h
end
attribute [irreducible] wk
end Eng
end Go
end
section
namespace Go
namespace Eng

/-! ## Frames -/
abbrev Ev := Nat → Option Value
def upd (f : Ev) (d : Nat) (v : Value) : Ev := fun i => bif Nat.beq i d then some v else f i
def emp : Ev := fun _ => none
def envL : List (Nat × Value) → Ev
  | [] => emp
  | (i, v) :: l => upd (envL l) i v
def argE : Nat → List Value → Ev
  | _, [] => emp
  | k, v :: l => upd (argE (k + 1) l) k v

structure Env (N : Nat) (f : Ev) (a : Act) : Prop where
  defers : a.defers = []
  size : a.tmps.size = N
  get : ∀ i v, f i = some v → a.tmps[i]? = some v

def opv (f : Ev) : Operand → Option Value
  | .tmp t => f t
  | .const v => some v
  | .global g => some (.pointer (some ⟨g, 0, none⟩))
  | .func k => some (.func (.func k) #[] #[])
def opvs (f : Ev) : List Operand → Option (List Value)
  | [] => some []
  | x :: xs => match opv f x, opvs f xs with
    | some v, some vs => some (v :: vs)
    | _, _ => none

theorem upd_same (f : Ev) (d : Nat) (v : Value) : upd f d v d = some v := by simp [upd]
theorem upd_ne (f : Ev) {d i : Nat} (v : Value) (h : i ≠ d) : upd f d v i = f i := by
  unfold upd
  cases hb : Nat.beq i d with
  | true => exact absurd (Nat.eq_of_beq_eq_true hb) h
  | false => rfl

section
variable {N : Nat} {f : Ev} {a : Act} {v : Value}
theorem Env.eval (h : Env N f a) {x : Operand} (hx : opv f x = some v) : a.eval x = v := by
  cases x with
  | tmp t => have := h.get t v hx; simp [Act.eval, this]
  | const u => exact Option.some.inj hx
  | global g => exact Option.some.inj hx
  | func k => exact Option.some.inj hx
theorem Env.evals (h : Env N f a) : ∀ (xs : List Operand) (vs : List Value), opvs f xs = some vs → xs.map a.eval = vs
  | [], vs, e => by cases e; rfl
  | x :: xs, vs, e => by
    unfold opvs at e
    cases h1 : opv f x with
    | none => rw [h1] at e; cases e
    | some v =>
      cases h2 : opvs f xs with
      | none => rw [h1, h2] at e; cases e
      | some us =>
        rw [h1, h2] at e
        obtain rfl := Option.some.inj e
        rw [List.map_cons, h.eval h1, Env.evals h xs us h2]
theorem Env.put (h : Env N f a) {d : Nat} (hd : Nat.blt d N = true) : Env N (upd f d v) (a.put (some d) v) := by
  have hd : d < N := by simpa [Nat.blt_eq] using hd
  refine ⟨h.defers, by simp [Act.put, h.size], fun i u hu => ?_⟩
  by_cases e : i = d
  · subst e
    rw [upd_same] at hu
    obtain rfl := Option.some.inj hu
    simp [Act.put, h.size, hd]
  · rw [upd_ne _ _ e] at hu
    simp [Act.put, Ne.symm e, h.get i u hu]
theorem Env.put_none (h : Env N f a) : Env N f (a.put none v) := h
theorem Env.weaken {g : Ev} (h : Env N f a) (k : ∀ i v, g i = some v → f i = some v) : Env N g a := ⟨h.defers, h.size, fun i v e => h.get i v (k i v e)⟩
def allIn (f : Ev) : List (Nat × Value) → Prop
  | [] => True
  | p :: l => f p.1 = some p.2 ∧ allIn f l
theorem envL_mem : ∀ (l : List (Nat × Value)) (i : Nat) (v : Value), envL l i = some v → (i, v) ∈ l
  | [], i, v, h => by cases h
  | p :: l, i, v, h => by
    obtain ⟨p1, p2⟩ := p
    let p : Nat × Value := (p1, p2)
    change upd (envL l) p.1 p.2 i = some v at h
    by_cases e : i = p.1
    · subst e; rw [upd_same] at h; obtain rfl := Option.some.inj h; exact List.mem_cons_self ..
    · rw [upd_ne _ _ e] at h; exact List.mem_cons_of_mem _ (envL_mem l i v h)
theorem allIn_mem {f : Ev} : ∀ {l : List (Nat × Value)}, allIn f l → ∀ p ∈ l, f p.1 = some p.2
  | _ :: _, ⟨h, _⟩, _, .head _ => h
  | _ :: _, ⟨_, h⟩, _, .tail _ k => allIn_mem h _ k
/-- Only these slots are remembered. -/
theorem Env.cut (h : Env N f a) {l : List (Nat × Value)} (k : allIn f l) : Env N (envL l) a := h.weaken fun i v e => allIn_mem k (i, v) (envL_mem l i v e)
theorem Env.defersNil (h : Env N f a) : a.defers = [] := h.defers
end

theorem argE_get : ∀ (l : List Value) (k i : Nat) (v : Value), argE k l i = some v → k ≤ i ∧ l[i - k]? = some v
  | [], k, i, v, h => by cases h
  | u :: l, k, i, v, h => by
    change upd (argE (k + 1) l) k u i = some v at h
    by_cases e : i = k
    · subst e; rw [upd_same] at h; obtain rfl := Option.some.inj h; simp
    · rw [upd_ne _ _ e] at h
      obtain ⟨h1, h2⟩ := argE_get l (k + 1) i v h
      refine ⟨by omega, ?_⟩
      rw [show i - k = (i - (k + 1)) + 1 by omega]
      simpa using h2

theorem env_enter {args : List Value} {N : Nat} (hle : Nat.ble args.length N = true) : Env N (argE 0 args) { tmps := args.toArray ++ Array.replicate (N - args.toArray.size) undef, defers := [] } := by
  have hle : args.length ≤ N := by simpa using hle
  refine ⟨rfl, by simp; omega, fun i v h => ?_⟩
  obtain ⟨_, h2⟩ := argE_get args 0 i v h
  have hlt := (List.getElem?_eq_some_iff.1 h2).1
  simp only [Nat.sub_zero] at h2 hlt
  rw [Array.getElem?_append]
  simp [hlt, List.getElem?_eq_getElem hlt ▸ h2]

/-! ## What follows behind a piece of code -/
structure Kt where
  nrm : Act → World → Prop
  ret : Act → World → Prop
  ext : Nat → Option (Act → World → Prop)
def Kt.q (k : Kt) : Exit → Act → World → Prop
  | .normal, a, w => k.nrm a w
  | .ret, a, w => k.ret a w
  | .exit i, a, w => match k.ext i with | some K => K a w | none => False
  | _, _, _ => False
def cw (P : Program) (c : Code) (k : Kt) (a : Act) (w : World) : Prop := c.wp P k.q a w
def rets (P : Program) (fn : Func) (R : Ending → World → Prop) (a : Act) (w : World) : Prop := a.defers = [] ∧ ∃ v, (results fn a.tmps).run P w = .ok v w ∧ R (.returned v) w
abbrev kfn (P : Program) (fn : Func) (R : Ending → World → Prop) : Kt := ⟨rets P fn R, rets P fn R, fun _ => none⟩

section
variable {P : Program} {k : Kt} {n r : Act → World → Prop} {t : Nat → Option (Act → World → Prop)} {a : Act} {w : World}
theorem cw_seq {x y : Code} (h : cw P x ⟨fun a w => cw P y ⟨n, r, t⟩ a w, r, t⟩ a w) : cw P (.seq x y) ⟨n, r, t⟩ a w := by
  refine wp_seq (wp_mono h fun e a w q => ?_)
  cases e <;> exact q
theorem cw_skip (h : n a w) : cw P .skip ⟨n, r, t⟩ a w := wp_skip h
theorem cw_ret (h : r a w) : cw P .ret ⟨n, r, t⟩ a w := wp_ret h
theorem cw_exit {i : Nat} {K : Act → World → Prop} (hk : t i = some K) (h : K a w) : cw P (.exit i) ⟨n, r, t⟩ a w := wp_exit (by simp [Kt.q, hk, h])
theorem cw_block {id : Nat} {c : Code} (h : cw P c ⟨n, r, fun i => bif Nat.beq i id then some n else t i⟩ a w) : cw P (.block id c) ⟨n, r, t⟩ a w := by
  refine wp_block (wp_mono h fun e a w q => ?_)
  cases e with
  | exit i =>
    simp only [Kt.q, Exit.inBlock] at q ⊢
    by_cases e : i = id
    · subst e; simpa using q
    · rw [if_neg e]
      have hb : Nat.beq i id = false := by
        cases hb : Nat.beq i id with
        | true => exact absurd (Nat.eq_of_beq_eq_true hb) e
        | false => rfl
      rw [hb] at q
      exact q
  | _ => exact q
theorem cw_condT {N : Nat} {f : Ev} {c : Operand} {x y : Code} (hE : Env N f a) (hc : opv f c = some (.bool true)) (h : cw P x k a w) : cw P (.cond c x y) k a w :=
  wp_cond_true (hE.eval hc) h
theorem cw_condF {N : Nat} {f : Ev} {c : Operand} {x y : Code} (hE : Env N f a) (hc : opv f c = some (.bool false)) (h : cw P y k a w) : cw P (.cond c x y) k a w :=
  wp_cond_false (hE.eval hc) h
/-- The ways of a piece meet again. -/
theorem cw_cut {c : Code} (J : Act → World → Prop) (h : cw P c ⟨J, r, t⟩ a w) (hj : ∀ a w, J a w → n a w) : cw P c ⟨n, r, t⟩ a w := by
  refine wp_mono h fun e a w q => ?_
  cases e with
  | normal => exact hj _ _ q
  | _ => exact q
theorem cw_seqj {x y : Code} (J : Act → World → Prop) (h : cw P x ⟨J, r, t⟩ a w) (hj : ∀ a w, J a w → cw P y ⟨n, r, t⟩ a w) : cw P (.seq x y) ⟨n, r, t⟩ a w :=
  cw_seq (cw_cut J h hj)
/-- A LOOP, its state apart from the frame. -/
theorem cw_loop {c : Code} {σ : Sort _} (I : σ → Act → World → Prop) (μ : σ → Nat) (s : σ) (h0 : I s a w)
    (round : ∀ s a w, I s a w → cw P c ⟨fun a' w' => ∃ s', μ s' < μ s ∧ I s' a' w', r, t⟩ a w) : cw P (.loop c) ⟨n, r, t⟩ a w := by
  intro b kk cs
  have key : ∀ m s a w, μ s = m → I s a w →
      ∃ e a' w', (Kt.mk n r t).q e a' w' ∧ Arrives P (lone (b.at a (.code c :: .inLoop c :: kk)) cs w) b kk cs e a' w' := by
    intro m
    induction m using Nat.strongRecOn with
    | _ m ih =>
      intro s a w hn hI
      obtain ⟨e, a₁, w₁, hq, harr⟩ := round s a w hI b (.inLoop c :: kk) cs
      cases e with
      | normal =>
        obtain ⟨s', hlt, hI₁⟩ := hq
        obtain ⟨e₂, a₂, w₂, hq₂, harr₂⟩ := ih (μ s') (hn ▸ hlt) s' a₁ w₁ rfl hI₁
        exact ⟨e₂, a₂, w₂, hq₂, .of_steps (Steps.trans harr (.one step_inLoop)) harr₂⟩
      | exit id => exact ⟨.exit id, a₁, w₁, hq, .pass (x := .inLoop c) rfl (fun _ _ => .inl (by simp)) harr⟩
      | goto l => exact ⟨.goto l, a₁, w₁, hq, .pass (x := .inLoop c) rfl (fun _ _ => .inl (by simp)) harr⟩
      | ret => exact ⟨.ret, a₁, w₁, hq, .pass (x := .inLoop c) rfl (fun _ _ => .inl (by simp)) harr⟩
      | panic ch => exact ⟨.panic ch, a₁, w₁, hq, .pass (x := .inLoop c) rfl (fun _ _ => .inl (by simp)) harr⟩
      | outgrown => exact ⟨.outgrown, a₁, w₁, hq, .pass (x := .inLoop c) rfl (fun _ _ => .inl (by simp)) harr⟩
  obtain ⟨e, a', w', hq, harr⟩ := key _ s a w rfl h0
  exact ⟨e, a', w', hq, .of_steps (.one step_loop) harr⟩
/-- A region in the text's order; one whose order is drawn. -/
theorem cw_rg {id : Nat} {l : List Oper} (h : wk P l.toArray (fun _ => True) n [] l a w) : cw P (.region id l.toArray false) ⟨n, r, t⟩ a w :=
  region_plain (Q := (Kt.mk n r t).q) (ops := l.toArray) h
theorem cw_rgd {id : Nat} {l : List Oper} {W : World} {s : List SL} (fl : List Fg) (hm : P.follows .mixedOrders = true) (hok : okB l.toArray (flag fl) (Region.before l.toArray) = true)
    (hS : St W s w) (h : ∀ w, St W s w → wk P l.toArray (St W s) n fl l a w) : cw P (.region id l.toArray true) ⟨n, r, t⟩ a w :=
  region_draws (Q := (Kt.mk n r t).q) (ops := l.toArray) (C := St W s) hm hok hS.drew (h _ hS.drew)

theorem fn_calls {f : FuncId} {fn : Func} {c : Code} {args : List Value} {w : World} {R : Ending → World → Prop} {N : Nat} (hf : P.funcs[f]? = some fn) (hb : fn.body = some c)
    (hn : fn.ntmps = N) (hle : Nat.ble args.length N = true) (h : ∀ a, Env N (argE 0 args) a → cw P c (kfn P fn R) a w) : Calls P f args.toArray w R := by
  refine calls_of_wp hf hb ?_
  subst hn
  refine wp_mono (h _ (env_enter hle)) fun e a w q => ?_
  cases e with
  | normal => exact q
  | ret => exact q
  | exit i => exact q.elim
  | _ => exact q.elim

theorem kret0 {fn : Func} {R : Ending → World → Prop} {N : Nat} {f : Ev} (hE : Env N f a) (hr : fn.results = #[]) (hR : R (.returned (.tuple #[])) w) : rets P fn R a w :=
  ⟨hE.defers, _, results_none hr _ _ _, hR⟩
theorem kret1 {fn : Func} {R : Ending → World → Prop} {N : Nat} {f : Ev} {t : Tmp} {v : Value} (hE : Env N f a) (hr : fn.results = #[.tmp t]) (ht : f t = some v) (hR : R (.returned v) w) : rets P fn R a w :=
  ⟨hE.defers, _, results_tmp hr _ _ _, by have := hE.get _ _ ht; simpa [this] using hR⟩
theorem kret2 {fn : Func} {R : Ending → World → Prop} {N : Nat} {f : Ev} {t u : Tmp} {v x : Value} (hE : Env N f a) (hr : fn.results = #[.tmp t, .tmp u]) (ht : f t = some v) (hu : f u = some x)
    (hR : R (.returned (.tuple #[v, x])) w) : rets P fn R a w :=
  ⟨hE.defers, _, results_tmp2 hr _ _ _, by have h1 := hE.get _ _ ht; have h2 := hE.get _ _ hu; simpa [h1, h2] using hR⟩
theorem kret3 {fn : Func} {R : Ending → World → Prop} {N : Nat} {f : Ev} {t u s : Tmp} {v x y : Value} (hE : Env N f a) (hr : fn.results = #[.tmp t, .tmp u, .tmp s]) (ht : f t = some v) (hu : f u = some x) (hs : f s = some y)
    (hR : R (.returned (.tuple #[v, x, y])) w) : rets P fn R a w := by
  refine ⟨hE.defers, .tuple #[v, x, y], ?_, hR⟩
  have h1 := hE.get _ _ ht
  have h2 := hE.get _ _ hu
  have h3 := hE.get _ _ hs
  simp [results, hr, h1, h2, h3]
end

/-! ## Steps of a region -/
def Reads (P : Program) (W : World) (s : List SL) (f : Ev) (op : Op) (v : Value) : Prop :=
  ∀ (N : Nat) (a : Act) (w : World) (dst : Option Tmp) (ty : TypeId) (pos : String) (aft : Array Edge), Env N f a → St W s w →
    (execOp a.eval ⟨dst, op, ty, pos, aft, none⟩).run P w = .ok (.value v) w
def Does (P : Program) (W : World) (s : List SL) (f : Ev) (op : Op) (R : Value → World → Prop) : Prop :=
  ∀ (N : Nat) (a : Act) (w : World) (dst : Option Tmp) (ty : TypeId) (pos : String) (aft : Array Edge), Env N f a → St W s w →
    ∃ v w', ((execOp a.eval ⟨dst, op, ty, pos, aft, none⟩).run P w = .ok (.value v) w' ∨ (v = undef ∧ (execOp a.eval ⟨dst, op, ty, pos, aft, none⟩).run P w = .ok .skip w')) ∧ R v w'
def Goes (P : Program) (W : World) (s : List SL) (f : Ev) (op : Op) (g : FuncId) (args : List Value) : Prop :=
  ∀ (N : Nat) (a : Act) (w : World) (dst : Option Tmp) (ty : TypeId) (pos : String) (aft : Array Edge), Env N f a → St W s w →
    (execOp a.eval ⟨dst, op, ty, pos, aft, none⟩).run P w = .ok (.enter g args.toArray) w

section
variable {P : Program} {W : World} {s s0 : List SL} {f : Ev} {op : Op} {v : Value} {N : Nat} {a : Act} {w : World} {ops : Array Oper} {C K : Act → World → Prop}
  {CW : World → Prop} {d : Nat} {ty : TypeId} {pos : String} {aft : Array Edge} {l : List Oper} {fl : List Fg}

theorem wk_nil {CW : World → Prop} (h : K a w) : wk P ops CW K fl [] a w := by cases fl with | nil => unfold wk; exact h | cons b fl => cases b <;> (unfold wk; exact h)

/-- plain -/
theorem pr (hE : Env N f a) (hS : St W s w) (r : Reads P W s f op v) (hd : Nat.blt d N = true) (h : ∀ a, Env N (upd f d v) a → wk P ops (fun _ => True) K [] l a w) :
    wk P ops (fun _ => True) K [] (⟨some d, op, ty, pos, aft, none⟩ :: l) a w := by
  simp only [wk, Region.wanted, if_true, swp, r N a w (some d) ty pos aft hE hS]
  exact ⟨trivial, h _ (hE.put hd)⟩
/-- a read that yields one value in every world of the class -/
theorem sr (hE : Env N f a) (r : Reads P W s0 f op v) (hd : Nat.blt d N = true) (h : ∀ a, Env N (upd f d v) a → wk P ops (St W s0) K fl l a w) :
    wk P ops (St W s0) K (.s :: fl) (⟨some d, op, ty, pos, aft, none⟩ :: l) a w := by
  simp only [wk, Region.wanted, if_true]
  exact ⟨v, fun w' hw => r N a w' (some d) ty pos aft hE hw, h _ (hE.put hd)⟩
/-- a read in a drawn region -/
theorem rr (hE : Env N f a) (hS : St W s w) (r : Reads P W s f op v) (hd : Nat.blt d N = true) (h : ∀ a, Env N (upd f d v) a → wk P ops CW K fl l a w) :
    wk P ops CW K (.r :: fl) (⟨some d, op, ty, pos, aft, none⟩ :: l) a w := by
  simp only [wk, Region.wanted, if_true]
  exact ⟨v, r N a w (some d) ty pos aft hE hS, h _ (hE.put hd)⟩
/-- operations that write or make memory: with a slot -/
theorem pd {R : Value → World → Prop} (hE : Env N f a) (hS : St W s w) (r : Does P W s f op R) (hd : Nat.blt d N = true)
    (h : ∀ v w' a, R v w' → Env N (upd f d v) a → wk P ops (fun _ => True) K [] l a w') : wk P ops (fun _ => True) K [] (⟨some d, op, ty, pos, aft, none⟩ :: l) a w := by
  obtain ⟨v, w', h1, hR⟩ := r N a w (some d) ty pos aft hE hS
  simp only [wk, Region.wanted, if_true, swp]
  rcases h1 with h1 | ⟨rfl, h1⟩
  · rw [h1]; exact ⟨trivial, h _ _ _ hR (hE.put hd)⟩
  · rw [h1]; exact ⟨trivial, h _ _ _ hR (hE.put hd)⟩
/-- without one -/
theorem pn {R : Value → World → Prop} (hE : Env N f a) (hS : St W s w) (r : Does P W s f op R)
    (h : ∀ v w', R v w' → wk P ops (fun _ => True) K [] l a w') : wk P ops (fun _ => True) K [] (⟨none, op, ty, pos, aft, none⟩ :: l) a w := by
  obtain ⟨v, w', h1, hR⟩ := r N a w none ty pos aft hE hS
  simp only [wk, Region.wanted, if_true, swp]
  rcases h1 with h1 | ⟨rfl, h1⟩
  · rw [h1]; exact ⟨trivial, h _ _ hR⟩
  · rw [h1]; exact ⟨trivial, h _ _ hR⟩
theorem hd {R : Value → World → Prop} (hE : Env N f a) (hS : St W s w) (r : Does P W s f op R) (hd : Nat.blt d N = true)
    (h : ∀ v w' a, R v w' → Env N (upd f d v) a → St W s0 w' ∧ wk P ops (St W s0) K fl l a w') : wk P ops (St W s0) K (.h :: fl) (⟨some d, op, ty, pos, aft, none⟩ :: l) a w := by
  obtain ⟨v, w', h1, hR⟩ := r N a w (some d) ty pos aft hE hS
  simp only [wk, Region.wanted, if_true, swp]
  rcases h1 with h1 | ⟨rfl, h1⟩
  · rw [h1]; exact h _ _ _ hR (hE.put hd)
  · rw [h1]; exact h _ _ _ hR (hE.put hd)
theorem hn {R : Value → World → Prop} (hE : Env N f a) (hS : St W s w) (r : Does P W s f op R)
    (h : ∀ v w', R v w' → St W s0 w' ∧ wk P ops (St W s0) K fl l a w') : wk P ops (St W s0) K (.h :: fl) (⟨none, op, ty, pos, aft, none⟩ :: l) a w := by
  obtain ⟨v, w', h1, hR⟩ := r N a w none ty pos aft hE hS
  simp only [wk, Region.wanted, if_true, swp]
  rcases h1 with h1 | ⟨rfl, h1⟩
  · rw [h1]; exact h _ _ hR
  · rw [h1]; exact h _ _ hR
/-- calls -/
theorem pc {g : FuncId} {args : List Value} {R : Ending → World → Prop} (hE : Env N f a) (hS : St W s w) (r : Goes P W s f op g args) (hd : Nat.blt d N = true) (hc : Calls P g args.toArray w R)
    (h : ∀ e w', R e w' → ∃ v, e = .returned v ∧ ∀ a, Env N (upd f d v) a → wk P ops (fun _ => True) K [] l a w') : wk P ops (fun _ => True) K [] (⟨some d, op, ty, pos, aft, none⟩ :: l) a w := by
  simp only [wk, Region.wanted, if_true, swp, r N a w (some d) ty pos aft hE hS]
  exact hc.mono fun e w' hR => let ⟨v, he, hk⟩ := h e w' hR; ⟨v, he, trivial, hk _ (hE.put hd)⟩
theorem hc {g : FuncId} {args : List Value} {R : Ending → World → Prop} (hE : Env N f a) (hS : St W s w) (r : Goes P W s f op g args) (hd : Nat.blt d N = true) (hc : Calls P g args.toArray w R)
    (h : ∀ e w', R e w' → ∃ v, e = .returned v ∧ St W s0 w' ∧ ∀ a, Env N (upd f d v) a → wk P ops (St W s0) K fl l a w') : wk P ops (St W s0) K (.h :: fl) (⟨some d, op, ty, pos, aft, none⟩ :: l) a w := by
  simp only [wk, Region.wanted, if_true, swp, r N a w (some d) ty pos aft hE hS]
  exact hc.mono fun e w' hR => let ⟨v, he, hk1, hk⟩ := h e w' hR; ⟨v, he, hk1, hk _ (hE.put hd)⟩
/-- the last operation of a drawn region -/
theorem xd {R : Value → World → Prop} (hE : Env N f a) (hS : St W s w) (r : Does P W s f op R) (hd : Nat.blt d N = true)
    (h : ∀ v w' a, R v w' → Env N (upd f d v) a → wk P ops CW K fl l a w') : wk P ops CW K (.e :: fl) (⟨some d, op, ty, pos, aft, none⟩ :: l) a w := by
  obtain ⟨v, w', h1, hR⟩ := r N a w (some d) ty pos aft hE hS
  simp only [wk, Region.wanted, if_true, swp]
  rcases h1 with h1 | ⟨rfl, h1⟩
  · rw [h1]; exact ⟨trivial, h _ _ _ hR (hE.put hd)⟩
  · rw [h1]; exact ⟨trivial, h _ _ _ hR (hE.put hd)⟩
theorem xr (hE : Env N f a) (hS : St W s w) (r : Reads P W s f op v) (hd : Nat.blt d N = true) (h : ∀ a, Env N (upd f d v) a → wk P ops CW K fl l a w) :
    wk P ops CW K (.e :: fl) (⟨some d, op, ty, pos, aft, none⟩ :: l) a w := by
  simp only [wk, Region.wanted, if_true, swp, r N a w (some d) ty pos aft hE hS]
  exact ⟨trivial, h _ (hE.put hd)⟩
theorem xn {R : Value → World → Prop} (hE : Env N f a) (hS : St W s w) (r : Does P W s f op R)
    (h : ∀ v w', R v w' → wk P ops CW K fl l a w') : wk P ops CW K (.e :: fl) (⟨none, op, ty, pos, aft, none⟩ :: l) a w := by
  obtain ⟨v, w', h1, hR⟩ := r N a w none ty pos aft hE hS
  simp only [wk, Region.wanted, if_true, swp]
  rcases h1 with h1 | ⟨rfl, h1⟩
  · rw [h1]; exact ⟨trivial, h _ _ hR⟩
  · rw [h1]; exact ⟨trivial, h _ _ hR⟩
theorem xc {g : FuncId} {args : List Value} {R : Ending → World → Prop} (hE : Env N f a) (hS : St W s w) (r : Goes P W s f op g args) (hd : Nat.blt d N = true) (hc : Calls P g args.toArray w R)
    (h : ∀ e w', R e w' → ∃ v, e = .returned v ∧ ∀ a, Env N (upd f d v) a → wk P ops CW K fl l a w') : wk P ops CW K (.e :: fl) (⟨some d, op, ty, pos, aft, none⟩ :: l) a w := by
  simp only [wk, Region.wanted, if_true, swp, r N a w (some d) ty pos aft hE hS]
  exact hc.mono fun e w' hR => let ⟨v, he, hk⟩ := h e w' hR; ⟨v, he, trivial, hk _ (hE.put hd)⟩
/-- guards -/
theorem yielded_of {j : Nat} {oj : Oper} {t : Tmp} {b : Bool} (hj : ops[j]? = some oj) (ht : oj.dst = some t) (hE : Env N f a) (hv : f t = some (.bool b)) : yielded ops a.tmps j = some b := by
  have := hE.get _ _ hv
  simp [yielded, hj, ht, this]
def gslot (ops : Array Oper) (j : Nat) : Option Tmp := match ops[j]? with | some o => o.dst | none => none
theorem yields {j : Nat} {t : Tmp} {b : Bool} (hj : gslot ops j = some t) (hE : Env N f a) (hv : f t = some (.bool b)) : yielded ops a.tmps j = some b := by
  unfold gslot at hj
  cases h : ops[j]? with
  | none => rw [h] at hj; cases hj
  | some o => rw [h] at hj; exact yielded_of h hj hE hv
theorem gT {j : Nat} {t : Tmp} {b : Bool} {dst : Option Tmp} (hE : Env N f a) (hj : gslot ops j = some t) (hv : f t = some (.bool b))
    (h : wk P ops CW K fl (⟨dst, op, ty, pos, aft, none⟩ :: l) a w) : wk P ops CW K fl (⟨dst, op, ty, pos, aft, some (j, b)⟩ :: l) a w := by
  have hy := yields hj hE hv
  cases fl with
  | nil => simp only [wk, Region.wanted, hy, if_true, beq_self_eq_true] at h ⊢; exact h
  | cons x fl => cases x <;> (simp only [wk, Region.wanted, hy, if_true, beq_self_eq_true] at h ⊢; exact h)
theorem gF {j : Nat} {t : Tmp} {b : Bool} (hE : Env N f a) (hj : gslot ops j = some t) (hv : f t = some (.bool (!b))) (hd : Nat.blt d N = true)
    (h : ∀ a, Env N (upd f d undef) a → wk P ops CW K fl.tail l a w) : wk P ops CW K fl (⟨some d, op, ty, pos, aft, some (j, b)⟩ :: l) a w := by
  have hy := yields hj hE hv
  have hb : ((some !b : Option Bool) == some b) = false := by cases b <;> rfl
  have h' := h _ (hE.put hd)
  cases fl with
  | nil => simp only [wk, Region.wanted, hy, hb, Bool.false_eq_true, if_false] at h' ⊢; exact h'
  | cons x fl => cases x <;> (simp only [wk, Region.wanted, hy, hb, Bool.false_eq_true, if_false] at h' ⊢; exact h')
end
attribute [irreducible] cw
end Eng
end Go
end

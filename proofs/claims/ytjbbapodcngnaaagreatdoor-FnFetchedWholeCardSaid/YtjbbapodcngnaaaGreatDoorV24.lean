/-
  THE ROWS: laws.FnFetched and laws.FnFetchedWhole return true for every input and leave their arguments as they were.
-/
import Derived.Test.YtjbbapodcngnaaaGreatDoorV23
set_option linter.all false
namespace Go.Proofs.YtjbbapodcngnaaaGreatDoor
open Go.ChangeShapes Go.WideShapes Go.ChangeAt Go.RowKit

theorem below_of {W W' : World} (h : Go.Eng.St W [Go.Eng.old W] W') : Go.RowKit.Below W.heap.size W W' := by
  obtain ⟨a, b, ha, _, _, sa, _⟩ := h.sat
  refine ⟨h.os, h.tape, h.output, h.size, fun k hk => ?_⟩
  have h1 := ha k hk
  have h2 : ∃ o, W.heap[k]? = some o := ⟨_, Array.getElem?_eq_getElem hk⟩
  obtain ⟨o, ho⟩ := h2
  rw [ho]
  exact sa k o (h1.trans ho)
theorem r25 : Tryz.prog.readableRec 25 = true := by kernel_rfl
theorem r29 : Tryz.prog.readableRec 29 = true := by kernel_rfl
theorem t25 : 25 < Tryz.prog.types.size := of_decide_eq_true (by kernel_rfl)
theorem t29 : 29 < Tryz.prog.types.size := of_decide_eq_true (by kernel_rfl)
theorem vrow : varsRowed Tryz.prog Rows.fnFetchedSpec.vars = true := by kernel_rfl
set_option maxRecDepth 100000 in
theorem contract3 (H : Type) (enc : TypeId × Value → H) (W : World) (base : Nat) (args : Array Value) (ds gs : List (DataW H)) (before : List MemPlace)
    (hval : ∀ (j : Nat) t v, Tryz.f3.params[j]? = some t → args[j]? = some v → Value.okWide Tryz.prog W .any base t v)
    (hW : DataW.Whole enc Tryz.prog Tryz.f3.params.toList Rows.fnFetchedSpec.vars false W args.toList ds gs before) (hL : laidMetH Tryz.prog LL W) :
    Calls Tryz.prog 3 args W fun e W' => ∃ v, e = .returned v ∧ Rows.fnFetchedSpec.post enc Tryz.prog Tryz.f3 false true false false W args v W' := by
  have hW' := hW
  obtain ⟨p, q, hA0, hV, rfl, hfz, hnd⟩ := hW
  have hA : DataW.TrodAll enc Tryz.prog W 0 (fun _ => true) true Tryz.f3.params.toList args.toList ds p := hA0
  rw [Tryz.params3] at hA hval
  obtain ⟨v0, vs0, d0, ds0, p0, q0, hargs, rfl, rfl, h0, r0⟩ := trodAll_cons hA
  obtain ⟨v1, vs1, d1, ds1, p1, q1, rfl, rfl, rfl, h1, r1⟩ := trodAll_cons r0
  obtain ⟨rfl, rfl, rfl⟩ := trodAll_nil r1
  obtain rfl : args = #[v0, v1] := by cases args; simp_all
  obtain ⟨_, _, _, _, dA, _, _, _, _, _, dB, _, rfl, _⟩ := trodVars_two (n0 := "given.example/pub-redelivery/pub/goimap/backend/backendutil.errNoSuchPart") (n1 := "given.example/pub-redelivery/pub/message.errInvalidMediaParameter") hV
  obtain ⟨cs0, rfl, _⟩ := okWide_struct Tryz.underlying25 (hval 0 25 v0 rfl rfl)
  obtain ⟨cs1, rfl, _⟩ := okWide_struct Tryz.underlying29 (hval 1 29 v1 rfl rfl)
  obtain ⟨g⟩ := globals hL
  have k0 := h0
  have k1 := h1
  obtain ⟨f0, e0⟩ := k0
  obtain ⟨f1, e1⟩ := k1
  obtain ⟨m, hm⟩ := open_mail f0 _ _ e0
  obtain ⟨hv, kv, hc0, hP⟩ := hm.open
  obtain ⟨pv, fv, tv, part, no, peek, path, pt, fs, hc1, s1, s2, s3, s4, s5⟩ := open_sec e1
  have ec0 : cs0 = (m.cells hv kv).toArray := by
    apply Array.toList_inj.1
    simpa [Value.cells] using hc0
  have ec1 : cs1 = #[pv, .string (Go.Eng.mkS part), fv, .bool no, .bool peek, tv] := by
    apply Array.toList_inj.1
    simpa [Value.cells] using hc1
  have walk : Calls Tryz.prog 3 #[.agg cs0, .agg cs1] W fun e w' => e = .returned (.bool true) ∧ Go.Eng.St W [Go.Eng.old W] w' := by
    rw [ec0, ec1]
    exact c3 g (Go.Eng.St.start W) hP s1 s2 s4 s3 s5
  have hlt : ∀ x ∈ p0 ++ (p1 ++ []) ++ q, x.block < W.heap.size := fun x hx => hW'.lt x hx
  refine walk.mono fun e W' ⟨he, hg⟩ => ?_
  have hb := below_of hg
  refine ⟨_, he, [d0, d1], [dA, dB], p0 ++ (p1 ++ []) ++ q, [], p0 ++ (p1 ++ []), q, hW', ?_, ?_, ?_, hb.frame _, fun h => nomatch h⟩
  · exact trodAll_cons_mk (shut_bool Tryz.underlying4 _) trodAll_mk0
  · exact trodAll_cons_mk (Go.RowKit.Below.trod laidOut r25 t25 h0 hb (fun x hx => hlt x (by simp [hx]))) (trodAll_cons_mk (Go.RowKit.Below.trod laidOut r29 t29 h1 hb (fun x hx => hlt x (by simp [hx]))) trodAll_mk0)
  · exact Go.RowKit.Below.trodVars laidOut hb vrow hV
set_option maxRecDepth 100000 in
theorem contract4 (H : Type) (enc : TypeId × Value → H) (W : World) (base : Nat) (args : Array Value) (ds gs : List (DataW H)) (before : List MemPlace)
    (hval : ∀ (j : Nat) t v, Tryz.f4.params[j]? = some t → args[j]? = some v → Value.okWide Tryz.prog W .any base t v)
    (hW : DataW.Whole enc Tryz.prog Tryz.f4.params.toList Rows.fnFetchedWholeSpec.vars false W args.toList ds gs before) (hL : laidMetH Tryz.prog LL W) :
    Calls Tryz.prog 4 args W fun e W' => ∃ v, e = .returned v ∧ Rows.fnFetchedWholeSpec.post enc Tryz.prog Tryz.f4 false true false false W args v W' := by
  have hW' := hW
  obtain ⟨p, q, hA0, hV, rfl, hfz, hnd⟩ := hW
  have hA : DataW.TrodAll enc Tryz.prog W 0 (fun _ => true) true Tryz.f4.params.toList args.toList ds p := hA0
  rw [Tryz.params4] at hA hval
  obtain ⟨v0, vs0, d0, ds0, p0, q0, hargs, rfl, rfl, h0, r0⟩ := trodAll_cons hA
  obtain ⟨rfl, rfl, rfl⟩ := trodAll_nil r0
  obtain rfl : args = #[v0] := by cases args; simp_all
  obtain ⟨_, _, _, _, dA, _, _, _, _, _, dB, _, rfl, _⟩ := trodVars_two (n0 := "given.example/pub-redelivery/pub/goimap/backend/backendutil.errNoSuchPart") (n1 := "given.example/pub-redelivery/pub/message.errInvalidMediaParameter") hV
  obtain ⟨cs0, rfl, _⟩ := okWide_struct Tryz.underlying25 (hval 0 25 v0 rfl rfl)
  obtain ⟨g⟩ := globals hL
  have k0 := h0
  obtain ⟨f0, e0⟩ := k0
  obtain ⟨m, hm⟩ := open_mail f0 _ _ e0
  obtain ⟨hv, kv, hc0, hP⟩ := hm.open
  have ec0 : cs0 = (m.cells hv kv).toArray := by
    apply Array.toList_inj.1
    simpa [Value.cells] using hc0
  have walk : Calls Tryz.prog 4 #[.agg cs0] W fun e w' => e = .returned (.bool true) ∧ Go.Eng.St W [Go.Eng.old W] w' := by
    rw [ec0]
    exact c4 g (Go.Eng.St.start W) hP
  have hlt : ∀ x ∈ p0 ++ [] ++ q, x.block < W.heap.size := fun x hx => hW'.lt x hx
  refine walk.mono fun e W' ⟨he, hg⟩ => ?_
  have hb := below_of hg
  refine ⟨_, he, [d0], [dA, dB], p0 ++ [] ++ q, [], p0 ++ [], q, hW', ?_, ?_, ?_, hb.frame _, fun h => nomatch h⟩
  · exact trodAll_cons_mk (shut_bool Tryz.underlying4 _) trodAll_mk0
  · exact trodAll_cons_mk (Go.RowKit.Below.trod laidOut r25 t25 h0 hb (fun x hx => hlt x (by simp [hx]))) trodAll_mk0
  · exact Go.RowKit.Below.trodVars laidOut hb vrow hV
end Go.Proofs.YtjbbapodcngnaaaGreatDoor

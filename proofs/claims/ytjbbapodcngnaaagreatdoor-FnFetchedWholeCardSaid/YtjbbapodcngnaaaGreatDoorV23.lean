/-
  THE ROWS AND THE CARDS: laws.FnFetched and laws.FnFetchedWhole return true for every input and leave their arguments as they were.
-/
import Derived.Test.YtjbbapodcngnaaaGreatDoorV22
import Derived.Test.YtjbbapodcngnaaaGreatDoorCards
import Derived.Test.YtjbbapodcngnaaaGreatDoorTie
import Derived.ProofKit
import Derived.OpenShut
import Derived.OpenVars
import Derived.Carry
import Derived.LaidMore
import Derived.LaidLaws
import Derived.Lay
import Derived.MakeChecks
import Derived.Deep.DeepHandedRow
import Derived.Deep.DeepWitnessRowRef
import Derived.Lib.LaidTab
set_option linter.all false
namespace Go.Proofs.YtjbbapodcngnaaaGreatDoor
open Go.ChangeShapes Go.WideShapes Go.ChangeAt Go.RowKit

theorem own : ownKnob Tryz.prog.godebug = none := by kernel_rfl
theorem laidOut : laidOutB Tryz.prog = true := by kernel_rfl
theorem star : "*" ++ "errors.errorString" = "*errors.errorString" := by decide
theorem row166 (u : TypeId) (h : Tryz.prog.typeName? 3 u = some "*errors.errorString") : u = 166 :=
  typeName_ptr_named (nm := "errors.errorString") (by rw [star]; kernel_rfl) (by kernel_rfl) (by decide) u (by rw [star]; exact h)
abbrev LL : List (String × DataW Unit) := Rows.fnFetchedRow.laid
theorem laidVar {P : Program} {w : World} : ∀ {l : List (String × DataW Unit)} {ps : List MemPlace}, DataW.LaidVars P w l ps → ∀ n d, (n, d) ∈ l →
    ∃ g t cs fuel p, P.globalNamed n = some g ∧ (P.globals[g]?).map (·.type) = some t ∧ w.var? P n = some cs ∧ DataW.trod (fun _ => ()) P w 0 (fun _ => true) false fuel t cs.toList = some (d, p) ∧ ∀ x ∈ MemPlace.row ⟨g, 0, none⟩ cs.size, x ∈ ps
  | [], _, _, _, _, hm => by cases hm
  | (n', d') :: r, ps, h, n, d, hm => by
    obtain ⟨g, t, cs, fuel, p, q, h1, h2, h3, h4, h5, h6⟩ := h
    rcases List.mem_cons.1 hm with e | e
    · cases e
      exact ⟨g, t, cs, fuel, p, h1, h2, h3, h4, fun x hx => by rw [h6]; simp [hx]⟩
    · obtain ⟨g', t', cs', fuel', p', k1, k2, k3, k4, k5⟩ := laidVar h5 n d e
      exact ⟨g', t', cs', fuel', p', k1, k2, k3, k4, fun x hx => by rw [h6]; simp [k5 x hx]⟩
set_option maxRecDepth 100000 in
/-- a listed error's variable leads to a text -/
theorem err_cell {W : World} {l : List (String × DataW Unit)} (h : laidMet Tryz.prog l W) {n : String} {g : Nat} {text : List UInt8} (hm : (n, DataW.iface "*errors.errorString" (.ptr (.agg [.lit (.string text)]))) ∈ l)
    (hg : Tryz.prog.globalNamed n = some g) (ht : (Tryz.prog.globals[g]?).map (·.type) = some 58) : ∃ a, W.cell? ⟨g, 0, none⟩ = some (.iface 166 (.pointer (some a))) := by
  obtain ⟨ps, hv, _, hrows⟩ := h
  obtain ⟨g', t, cs, fuel, p, k1, k2, k3, k4, k5⟩ := laidVar hv _ _ hm
  obtain rfl := Option.some.inj (hg.symm.trans k1)
  obtain rfl := Option.some.inj (ht.symm.trans k2)
  have hcell : ∀ i, W.cell? ⟨g, i, none⟩ = cs[i]? := World.var?_cell k1 k3
  obtain ⟨a, s, e, _⟩ := errorString_of_trod (ti := 58) (tp := 166) (te := 168) (ts := 9) Tryz.underlying58 row166 Tryz.underlying166 Tryz.underlying168 rfl rfl Tryz.underlying9 (by kernel_rfl) (by kernel_rfl) k4 (fun u v e => by
    have hsz : 0 < cs.size := by
      rw [← Array.length_toList, e]; exact Nat.zero_lt_one
    have hc : cs[0]? = some (.iface u v) := by
      rw [← Array.getElem?_toList, e]; rfl
    have hmem : MemPlace.cell g 0 ∈ ps := k5 _ (MemPlace.mem_row.2 ⟨0, hsz, rfl⟩)
    obtain ⟨_, h2⟩ := hrows g 0 hmem
    exact h2 u v ((hcell 0).trans hc))
  refine ⟨a, (hcell 0).trans ?_⟩
  rw [← Array.getElem?_toList, e]; rfl
def asciiZ : List Int := (List.range 256).map fun i => if i = 9 ∨ i = 10 ∨ i = 11 ∨ i = 12 ∨ i = 13 ∨ i = 32 then 1 else 0
theorem ascii_eq : Rows.laid_strings_asciiSpace (H := Unit) = Lib.tabData .u8 asciiZ := by kernel_rfl
theorem ascii_zero : ((List.range 128).all fun n => decide (n ≤ 32) || decide (asciiZ.getD n 0 = 0)) = true := by kernel_rfl
theorem ascii_len : asciiZ.length = 256 := by kernel_rfl
theorem ascii_cell {W : World} {l : List (String × DataW Unit)} (h : laidMet Tryz.prog l W) (hm : ("strings.asciiSpace", Rows.laid_strings_asciiSpace) ∈ l) : ∀ n, 32 < n → n < 128 → W.cell? ⟨12, n, none⟩ = some (.int .u8 0) := by
  intro n h1 h2
  obtain ⟨ps, hv, _, _⟩ := h
  obtain ⟨g', t, cs, fuel, p, k1, k2, k3, k4, _⟩ := laidVar hv _ _ hm
  have hg : Tryz.prog.globalNamed "strings.asciiSpace" = some 12 := by kernel_rfl
  obtain rfl := Option.some.inj (hg.symm.trans k1)
  obtain rfl := Option.some.inj ((show (Tryz.prog.globals[12]?).map (·.type) = some 223 by kernel_rfl).symm.trans k2)
  rw [ascii_eq] at k4
  have e := Lib.cells_of_tab Tryz.underlying223 Tryz.underlying5 (by kernel_rfl) (by kernel_rfl) k4
  have hz : asciiZ.getD n 0 = 0 := by
    have := List.all_eq_true.1 ascii_zero n (List.mem_range.2 h2)
    simp only [Bool.or_eq_true, decide_eq_true_eq] at this
    rcases this with h | h
    · omega
    · exact h
  rw [World.var?_cell k1 k3 n, ← Array.getElem?_toList, e, List.getElem?_map]
  rw [List.getD, List.getElem?_eq_getElem (by rw [ascii_len]; omega)] at hz
  rw [List.getElem?_eq_getElem (by rw [ascii_len]; omega)]
  simp only [Option.getD_some] at hz
  rw [Option.map_some, hz]
/-- the cells that the code reads -/
theorem globals {W : World} (h : laidMetH Tryz.prog LL W) : Nonempty (Gl W) := by
  rw [MakeChecks.laidMetH_plain _ _ _ (by kernel_rfl)] at h
  obtain ⟨a1, h1⟩ := err_cell h (n := "io.EOF") (g := 1) (text := [69, 79, 70]) (List.mem_of_getElem? (i := 4) rfl) (by kernel_rfl) (by kernel_rfl)
  obtain ⟨a3, h3⟩ := err_cell h (n := "io.ErrUnexpectedEOF") (g := 3) (List.mem_of_getElem? (i := 5) rfl) (by kernel_rfl) (by kernel_rfl)
  obtain ⟨a5, h5⟩ := err_cell h (n := "bufio.ErrBufferFull") (g := 5) (List.mem_of_getElem? (i := 10) rfl) (by kernel_rfl) (by kernel_rfl)
  obtain ⟨a0, h0⟩ := err_cell h (n := "given.example/pub-redelivery/pub/goimap/backend/backendutil.errNoSuchPart") (g := 0) (List.mem_of_getElem? (i := 14) rfl) (by kernel_rfl) (by kernel_rfl)
  exact ⟨⟨a1, h1, a3, h3, a0, h0, ascii_cell h (List.mem_of_getElem? (i := 8) rfl), a5, h5⟩⟩
end Go.Proofs.YtjbbapodcngnaaaGreatDoor

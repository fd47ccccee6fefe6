/-
  Steps on the way to the cards of laws.FnFetched and laws.FnFetchedWhole; the conditions of each are the hypotheses that it names. In order:
  FACTS on the program's types and functions (printed by genfacts.py).
  Rows of parts.
-/
import Derived.Test.YtjbbapodcngnaaaGreatDoorV04
import Derived.Test.YtjbbapodcngnaaaGreatDoorProg
import Derived.KernelRfl
set_option linter.all false
section
namespace Go.Proofs
open Go.Eng
theorem mixed : Tryz.prog.follows .mixedOrders = true := by kernel_rfl
instance : OneCell Tryz.prog 1 := ⟨fun w => by kernel_rfl, fun w => by kernel_rfl⟩
instance : Concrete Tryz.prog 1 := ⟨⟨_, Tryz.underlying1, fun ms h => by cases h⟩⟩
instance : OneCell Tryz.prog 2 := ⟨fun w => by kernel_rfl, fun w => by kernel_rfl⟩
instance : ZeroV Tryz.prog 2 (.int .i64 0) := ⟨fun w => by kernel_rfl⟩
instance : ElemI Tryz.prog 2 1 8 (.int .i64 0) := ⟨⟨Tryz.t2, by kernel_rfl, by kernel_rfl, by kernel_rfl, by kernel_rfl⟩⟩
instance : Concrete Tryz.prog 2 := ⟨⟨_, Tryz.underlying2, fun ms h => by cases h⟩⟩
instance : Comparable Tryz.prog 2 := ⟨⟨Tryz.t2, by kernel_rfl, by kernel_rfl⟩⟩
instance : IntT Tryz.prog 2 .i64 := ⟨Tryz.underlying2⟩
instance : OneCell Tryz.prog 3 := ⟨fun w => by kernel_rfl, fun w => by kernel_rfl⟩
instance : ZeroV Tryz.prog 3 (.int .i64 0) := ⟨fun w => by kernel_rfl⟩
instance : ElemI Tryz.prog 3 1 8 (.int .i64 0) := ⟨⟨Tryz.t3, by kernel_rfl, by kernel_rfl, by kernel_rfl, by kernel_rfl⟩⟩
instance : Concrete Tryz.prog 3 := ⟨⟨_, Tryz.underlying3, fun ms h => by cases h⟩⟩
instance : Comparable Tryz.prog 3 := ⟨⟨Tryz.t3, by kernel_rfl, by kernel_rfl⟩⟩
instance : IntT Tryz.prog 3 .i64 := ⟨Tryz.underlying3⟩
instance : OneCell Tryz.prog 4 := ⟨fun w => by kernel_rfl, fun w => by kernel_rfl⟩
instance : ZeroV Tryz.prog 4 (.bool false) := ⟨fun w => by kernel_rfl⟩
instance : ElemI Tryz.prog 4 1 1 (.bool false) := ⟨⟨Tryz.t4, by kernel_rfl, by kernel_rfl, by kernel_rfl, by kernel_rfl⟩⟩
instance : Concrete Tryz.prog 4 := ⟨⟨_, Tryz.underlying4, fun ms h => by cases h⟩⟩
instance : Comparable Tryz.prog 4 := ⟨⟨Tryz.t4, by kernel_rfl, by kernel_rfl⟩⟩
instance : BoolT Tryz.prog 4 := ⟨Tryz.underlying4⟩
instance : OneCell Tryz.prog 5 := ⟨fun w => by kernel_rfl, fun w => by kernel_rfl⟩
instance : ZeroV Tryz.prog 5 (.int .u8 0) := ⟨fun w => by kernel_rfl⟩
instance : ElemI Tryz.prog 5 1 1 (.int .u8 0) := ⟨⟨Tryz.t5, by kernel_rfl, by kernel_rfl, by kernel_rfl, by kernel_rfl⟩⟩
instance : Concrete Tryz.prog 5 := ⟨⟨_, Tryz.underlying5, fun ms h => by cases h⟩⟩
instance : Comparable Tryz.prog 5 := ⟨⟨Tryz.t5, by kernel_rfl, by kernel_rfl⟩⟩
instance : IntT Tryz.prog 5 .u8 := ⟨Tryz.underlying5⟩
instance : ByteT Tryz.prog 5 := ⟨Tryz.underlying5, Tryz.t5, by kernel_rfl, by kernel_rfl, by kernel_rfl, by kernel_rfl⟩
instance : OneCell Tryz.prog 9 := ⟨fun w => by kernel_rfl, fun w => by kernel_rfl⟩
instance : ZeroV Tryz.prog 9 (.string (mkS [])) := ⟨fun w => by kernel_rfl⟩
instance : ElemI Tryz.prog 9 1 16 (.string (mkS [])) := ⟨⟨Tryz.t9, by kernel_rfl, by kernel_rfl, by kernel_rfl, by kernel_rfl⟩⟩
instance : Concrete Tryz.prog 9 := ⟨⟨_, Tryz.underlying9, fun ms h => by cases h⟩⟩
instance : Comparable Tryz.prog 9 := ⟨⟨Tryz.t9, by kernel_rfl, by kernel_rfl⟩⟩
instance : StrT Tryz.prog 9 := ⟨Tryz.underlying9⟩
instance : OneCell Tryz.prog 20 := ⟨fun w => by kernel_rfl, fun w => by kernel_rfl⟩
instance : ZeroV Tryz.prog 20 (.nilIface) := ⟨fun w => by kernel_rfl⟩
instance : ElemI Tryz.prog 20 1 16 (.nilIface) := ⟨⟨Tryz.t20, by kernel_rfl, by kernel_rfl, by kernel_rfl, by kernel_rfl⟩⟩
instance : Comparable Tryz.prog 20 := ⟨⟨Tryz.t20, by kernel_rfl, by kernel_rfl⟩⟩
instance : IfaceT Tryz.prog 20 := ⟨⟨_, Tryz.underlying20⟩⟩
instance : OneCell Tryz.prog 21 := ⟨fun w => by kernel_rfl, fun w => by kernel_rfl⟩
instance : ZeroV Tryz.prog 21 (.int .i32 0) := ⟨fun w => by kernel_rfl⟩
instance : ElemI Tryz.prog 21 1 4 (.int .i32 0) := ⟨⟨Tryz.t21, by kernel_rfl, by kernel_rfl, by kernel_rfl, by kernel_rfl⟩⟩
instance : Concrete Tryz.prog 21 := ⟨⟨_, Tryz.underlying21, fun ms h => by cases h⟩⟩
instance : Comparable Tryz.prog 21 := ⟨⟨Tryz.t21, by kernel_rfl, by kernel_rfl⟩⟩
instance : IntT Tryz.prog 21 .i32 := ⟨Tryz.underlying21⟩
instance : OneCell Tryz.prog 22 := ⟨fun w => by kernel_rfl, fun w => by kernel_rfl⟩
instance : ZeroV Tryz.prog 22 (.slice none 0 0) := ⟨fun w => by kernel_rfl⟩
instance : ElemI Tryz.prog 22 1 24 (.slice none 0 0) := ⟨⟨Tryz.t22, by kernel_rfl, by kernel_rfl, by kernel_rfl, by kernel_rfl⟩⟩
instance : Concrete Tryz.prog 22 := ⟨⟨_, Tryz.underlying22, fun ms h => by cases h⟩⟩
instance : SliceT Tryz.prog 22 64 2 := ⟨Tryz.underlying22, fun w => by kernel_rfl⟩
instance : OneCell Tryz.prog 23 := ⟨fun w => by kernel_rfl, fun w => by kernel_rfl⟩
instance : ZeroV Tryz.prog 23 (.slice none 0 0) := ⟨fun w => by kernel_rfl⟩
instance : ElemI Tryz.prog 23 1 24 (.slice none 0 0) := ⟨⟨Tryz.t23, by kernel_rfl, by kernel_rfl, by kernel_rfl, by kernel_rfl⟩⟩
instance : Concrete Tryz.prog 23 := ⟨⟨_, Tryz.underlying23, fun ms h => by cases h⟩⟩
instance : SliceT Tryz.prog 23 25 9 := ⟨Tryz.underlying23, fun w => by kernel_rfl⟩
instance : AggT Tryz.prog 25 9 := ⟨fun w => by kernel_rfl, fun w => by kernel_rfl⟩
instance : ZeroV Tryz.prog 25 (.agg #[.slice none 0 0, .int .i64 0, .string (mkS []), .string (mkS []), .string (mkS []), .string (mkS []), .string (mkS []), .string (mkS []), .slice none 0 0]) := ⟨fun w => by kernel_rfl⟩
instance : ElemI Tryz.prog 25 9 152 (.agg #[.slice none 0 0, .int .i64 0, .string (mkS []), .string (mkS []), .string (mkS []), .string (mkS []), .string (mkS []), .string (mkS []), .slice none 0 0]) := ⟨⟨Tryz.t25, by kernel_rfl, by kernel_rfl, by kernel_rfl, by kernel_rfl⟩⟩
instance : Concrete Tryz.prog 25 := ⟨⟨_, Tryz.underlying25, fun ms h => by cases h⟩⟩
instance : OneCell Tryz.prog 26 := ⟨fun w => by kernel_rfl, fun w => by kernel_rfl⟩
instance : ZeroV Tryz.prog 26 (.slice none 0 0) := ⟨fun w => by kernel_rfl⟩
instance : ElemI Tryz.prog 26 1 24 (.slice none 0 0) := ⟨⟨Tryz.t26, by kernel_rfl, by kernel_rfl, by kernel_rfl, by kernel_rfl⟩⟩
instance : Concrete Tryz.prog 26 := ⟨⟨_, Tryz.underlying26, fun ms h => by cases h⟩⟩
instance : SliceT Tryz.prog 26 3 1 := ⟨Tryz.underlying26, fun w => by kernel_rfl⟩
instance : OneCell Tryz.prog 27 := ⟨fun w => by kernel_rfl, fun w => by kernel_rfl⟩
instance : ZeroV Tryz.prog 27 (.slice none 0 0) := ⟨fun w => by kernel_rfl⟩
instance : ElemI Tryz.prog 27 1 24 (.slice none 0 0) := ⟨⟨Tryz.t27, by kernel_rfl, by kernel_rfl, by kernel_rfl, by kernel_rfl⟩⟩
instance : Concrete Tryz.prog 27 := ⟨⟨_, Tryz.underlying27, fun ms h => by cases h⟩⟩
instance : SliceT Tryz.prog 27 9 1 := ⟨Tryz.underlying27, fun w => by kernel_rfl⟩
instance : AggT Tryz.prog 29 6 := ⟨fun w => by kernel_rfl, fun w => by kernel_rfl⟩
instance : ZeroV Tryz.prog 29 (.agg #[.slice none 0 0, .string (mkS []), .slice none 0 0, .bool false, .bool false, .slice none 0 0]) := ⟨fun w => by kernel_rfl⟩
instance : ElemI Tryz.prog 29 6 96 (.agg #[.slice none 0 0, .string (mkS []), .slice none 0 0, .bool false, .bool false, .slice none 0 0]) := ⟨⟨Tryz.t29, by kernel_rfl, by kernel_rfl, by kernel_rfl, by kernel_rfl⟩⟩
instance : Concrete Tryz.prog 29 := ⟨⟨_, Tryz.underlying29, fun ms h => by cases h⟩⟩
instance : OneCell Tryz.prog 41 := ⟨fun w => by kernel_rfl, fun w => by kernel_rfl⟩
instance : ZeroV Tryz.prog 41 (.pointer none) := ⟨fun w => by kernel_rfl⟩
instance : ElemI Tryz.prog 41 1 8 (.pointer none) := ⟨⟨Tryz.t41, by kernel_rfl, by kernel_rfl, by kernel_rfl, by kernel_rfl⟩⟩
instance : Concrete Tryz.prog 41 := ⟨⟨_, Tryz.underlying41, fun ms h => by cases h⟩⟩
instance : Comparable Tryz.prog 41 := ⟨⟨Tryz.t41, by kernel_rfl, by kernel_rfl⟩⟩
instance : PtrT Tryz.prog 41 := ⟨⟨3, 1, Tryz.underlying41, by decide, fun w => by kernel_rfl⟩⟩
instance : OneCell Tryz.prog 45 := ⟨fun w => by kernel_rfl, fun w => by kernel_rfl⟩
instance : ZeroV Tryz.prog 45 (.pointer none) := ⟨fun w => by kernel_rfl⟩
instance : ElemI Tryz.prog 45 1 8 (.pointer none) := ⟨⟨Tryz.t45, by kernel_rfl, by kernel_rfl, by kernel_rfl, by kernel_rfl⟩⟩
instance : Concrete Tryz.prog 45 := ⟨⟨_, Tryz.underlying45, fun ms h => by cases h⟩⟩
instance : Comparable Tryz.prog 45 := ⟨⟨Tryz.t45, by kernel_rfl, by kernel_rfl⟩⟩
instance : PtrT Tryz.prog 45 := ⟨⟨76, 7, Tryz.underlying45, by decide, fun w => by kernel_rfl⟩⟩
instance : OneCell Tryz.prog 48 := ⟨fun w => by kernel_rfl, fun w => by kernel_rfl⟩
instance : ZeroV Tryz.prog 48 (.pointer none) := ⟨fun w => by kernel_rfl⟩
instance : ElemI Tryz.prog 48 1 8 (.pointer none) := ⟨⟨Tryz.t48, by kernel_rfl, by kernel_rfl, by kernel_rfl, by kernel_rfl⟩⟩
instance : Concrete Tryz.prog 48 := ⟨⟨_, Tryz.underlying48, fun ms h => by cases h⟩⟩
instance : Comparable Tryz.prog 48 := ⟨⟨Tryz.t48, by kernel_rfl, by kernel_rfl⟩⟩
instance : PtrT Tryz.prog 48 := ⟨⟨53, 5, Tryz.underlying48, by decide, fun w => by kernel_rfl⟩⟩
instance : OneCell Tryz.prog 49 := ⟨fun w => by kernel_rfl, fun w => by kernel_rfl⟩
instance : ZeroV Tryz.prog 49 (.slice none 0 0) := ⟨fun w => by kernel_rfl⟩
instance : ElemI Tryz.prog 49 1 24 (.slice none 0 0) := ⟨⟨Tryz.t49, by kernel_rfl, by kernel_rfl, by kernel_rfl, by kernel_rfl⟩⟩
instance : Concrete Tryz.prog 49 := ⟨⟨_, Tryz.underlying49, fun ms h => by cases h⟩⟩
instance : SliceT Tryz.prog 49 5 1 := ⟨Tryz.underlying49, fun w => by kernel_rfl⟩
instance : AggT Tryz.prog 53 5 := ⟨fun w => by kernel_rfl, fun w => by kernel_rfl⟩
instance : ZeroV Tryz.prog 53 (.agg #[.int .u32 0, .int .i64 0, .int .u32 0, .slice none 0 0, .slice none 0 0]) := ⟨fun w => by kernel_rfl⟩
instance : ElemI Tryz.prog 53 5 72 (.agg #[.int .u32 0, .int .i64 0, .int .u32 0, .slice none 0 0, .slice none 0 0]) := ⟨⟨Tryz.t53, by kernel_rfl, by kernel_rfl, by kernel_rfl, by kernel_rfl⟩⟩
instance : Concrete Tryz.prog 53 := ⟨⟨_, Tryz.underlying53, fun ms h => by cases h⟩⟩
instance : OneCell Tryz.prog 56 := ⟨fun w => by kernel_rfl, fun w => by kernel_rfl⟩
instance : ZeroV Tryz.prog 56 (.nilIface) := ⟨fun w => by kernel_rfl⟩
instance : ElemI Tryz.prog 56 1 16 (.nilIface) := ⟨⟨Tryz.t56, by kernel_rfl, by kernel_rfl, by kernel_rfl, by kernel_rfl⟩⟩
instance : Comparable Tryz.prog 56 := ⟨⟨Tryz.t56, by kernel_rfl, by kernel_rfl⟩⟩
instance : IfaceT Tryz.prog 56 := ⟨⟨_, Tryz.underlying56⟩⟩
instance : OneCell Tryz.prog 58 := ⟨fun w => by kernel_rfl, fun w => by kernel_rfl⟩
instance : ZeroV Tryz.prog 58 (.nilIface) := ⟨fun w => by kernel_rfl⟩
instance : ElemI Tryz.prog 58 1 16 (.nilIface) := ⟨⟨Tryz.t58, by kernel_rfl, by kernel_rfl, by kernel_rfl, by kernel_rfl⟩⟩
instance : Comparable Tryz.prog 58 := ⟨⟨Tryz.t58, by kernel_rfl, by kernel_rfl⟩⟩
instance : IfaceT Tryz.prog 58 := ⟨⟨_, Tryz.underlying58⟩⟩
instance : AggT Tryz.prog 64 2 := ⟨fun w => by kernel_rfl, fun w => by kernel_rfl⟩
instance : ZeroV Tryz.prog 64 (.agg #[.string (mkS []), .string (mkS [])]) := ⟨fun w => by kernel_rfl⟩
instance : ElemI Tryz.prog 64 2 32 (.agg #[.string (mkS []), .string (mkS [])]) := ⟨⟨Tryz.t64, by kernel_rfl, by kernel_rfl, by kernel_rfl, by kernel_rfl⟩⟩
instance : Concrete Tryz.prog 64 := ⟨⟨_, Tryz.underlying64, fun ms h => by cases h⟩⟩
instance : Comparable Tryz.prog 64 := ⟨⟨Tryz.t64, by kernel_rfl, by kernel_rfl⟩⟩
instance : OneCell Tryz.prog 71 := ⟨fun w => by kernel_rfl, fun w => by kernel_rfl⟩
instance : ZeroV Tryz.prog 71 (.string (mkS [])) := ⟨fun w => by kernel_rfl⟩
instance : ElemI Tryz.prog 71 1 16 (.string (mkS [])) := ⟨⟨Tryz.t71, by kernel_rfl, by kernel_rfl, by kernel_rfl, by kernel_rfl⟩⟩
instance : Concrete Tryz.prog 71 := ⟨⟨_, Tryz.underlying71, fun ms h => by cases h⟩⟩
instance : Comparable Tryz.prog 71 := ⟨⟨Tryz.t71, by kernel_rfl, by kernel_rfl⟩⟩
instance : StrT Tryz.prog 71 := ⟨Tryz.underlying71⟩
instance : AggT Tryz.prog 73 4 := ⟨fun w => by kernel_rfl, fun w => by kernel_rfl⟩
instance : ZeroV Tryz.prog 73 (.agg #[.string (mkS []), .slice none 0 0, .slice none 0 0, .bool false]) := ⟨fun w => by kernel_rfl⟩
instance : ElemI Tryz.prog 73 4 72 (.agg #[.string (mkS []), .slice none 0 0, .slice none 0 0, .bool false]) := ⟨⟨Tryz.t73, by kernel_rfl, by kernel_rfl, by kernel_rfl, by kernel_rfl⟩⟩
instance : Concrete Tryz.prog 73 := ⟨⟨_, Tryz.underlying73, fun ms h => by cases h⟩⟩
instance : AggT Tryz.prog 76 7 := ⟨fun w => by kernel_rfl, fun w => by kernel_rfl⟩
instance : ZeroV Tryz.prog 76 (.agg #[.string (mkS []), .slice none 0 0, .slice none 0 0, .bool false, .bool false, .slice none 0 0, .string (mkS [])]) := ⟨fun w => by kernel_rfl⟩
instance : ElemI Tryz.prog 76 7 120 (.agg #[.string (mkS []), .slice none 0 0, .slice none 0 0, .bool false, .bool false, .slice none 0 0, .string (mkS [])]) := ⟨⟨Tryz.t76, by kernel_rfl, by kernel_rfl, by kernel_rfl, by kernel_rfl⟩⟩
instance : Concrete Tryz.prog 76 := ⟨⟨_, Tryz.underlying76, fun ms h => by cases h⟩⟩
instance : OneCell Tryz.prog 77 := ⟨fun w => by kernel_rfl, fun w => by kernel_rfl⟩
instance : ZeroV Tryz.prog 77 (.slice none 0 0) := ⟨fun w => by kernel_rfl⟩
instance : ElemI Tryz.prog 77 1 24 (.slice none 0 0) := ⟨⟨Tryz.t77, by kernel_rfl, by kernel_rfl, by kernel_rfl, by kernel_rfl⟩⟩
instance : Concrete Tryz.prog 77 := ⟨⟨_, Tryz.underlying77, fun ms h => by cases h⟩⟩
instance : SliceT Tryz.prog 77 141 1 := ⟨Tryz.underlying77, fun w => by kernel_rfl⟩
instance : OneCell Tryz.prog 78 := ⟨fun w => by kernel_rfl, fun w => by kernel_rfl⟩
instance : ZeroV Tryz.prog 78 (.map none) := ⟨fun w => by kernel_rfl⟩
instance : ElemI Tryz.prog 78 1 8 (.map none) := ⟨⟨Tryz.t78, by kernel_rfl, by kernel_rfl, by kernel_rfl, by kernel_rfl⟩⟩
instance : Concrete Tryz.prog 78 := ⟨⟨_, Tryz.underlying78, fun ms h => by cases h⟩⟩
instance : MapT Tryz.prog 78 9 77 := ⟨Tryz.underlying78⟩
instance : AggT Tryz.prog 80 2 := ⟨fun w => by kernel_rfl, fun w => by kernel_rfl⟩
instance : ZeroV Tryz.prog 80 (.agg #[.slice none 0 0, .map none]) := ⟨fun w => by kernel_rfl⟩
instance : ElemI Tryz.prog 80 2 32 (.agg #[.slice none 0 0, .map none]) := ⟨⟨Tryz.t80, by kernel_rfl, by kernel_rfl, by kernel_rfl, by kernel_rfl⟩⟩
instance : Concrete Tryz.prog 80 := ⟨⟨_, Tryz.underlying80, fun ms h => by cases h⟩⟩
instance : OneCell Tryz.prog 82 := ⟨fun w => by kernel_rfl, fun w => by kernel_rfl⟩
instance : ZeroV Tryz.prog 82 (.nilIface) := ⟨fun w => by kernel_rfl⟩
instance : ElemI Tryz.prog 82 1 16 (.nilIface) := ⟨⟨Tryz.t82, by kernel_rfl, by kernel_rfl, by kernel_rfl, by kernel_rfl⟩⟩
instance : Comparable Tryz.prog 82 := ⟨⟨Tryz.t82, by kernel_rfl, by kernel_rfl⟩⟩
instance : IfaceT Tryz.prog 82 := ⟨⟨_, Tryz.underlying82⟩⟩
instance : OneCell Tryz.prog 86 := ⟨fun w => by kernel_rfl, fun w => by kernel_rfl⟩
instance : ZeroV Tryz.prog 86 (.string (mkS [])) := ⟨fun w => by kernel_rfl⟩
instance : ElemI Tryz.prog 86 1 16 (.string (mkS [])) := ⟨⟨Tryz.t86, by kernel_rfl, by kernel_rfl, by kernel_rfl, by kernel_rfl⟩⟩
instance : Concrete Tryz.prog 86 := ⟨⟨_, Tryz.underlying86, fun ms h => by cases h⟩⟩
instance : Comparable Tryz.prog 86 := ⟨⟨Tryz.t86, by kernel_rfl, by kernel_rfl⟩⟩
instance : StrT Tryz.prog 86 := ⟨Tryz.underlying86⟩
instance : OneCell Tryz.prog 93 := ⟨fun w => by kernel_rfl, fun w => by kernel_rfl⟩
instance : ZeroV Tryz.prog 93 (.pointer none) := ⟨fun w => by kernel_rfl⟩
instance : ElemI Tryz.prog 93 1 8 (.pointer none) := ⟨⟨Tryz.t93, by kernel_rfl, by kernel_rfl, by kernel_rfl, by kernel_rfl⟩⟩
instance : Concrete Tryz.prog 93 := ⟨⟨_, Tryz.underlying93, fun ms h => by cases h⟩⟩
instance : Comparable Tryz.prog 93 := ⟨⟨Tryz.t93, by kernel_rfl, by kernel_rfl⟩⟩
instance : PtrT Tryz.prog 93 := ⟨⟨171, 7, Tryz.underlying93, by decide, fun w => by kernel_rfl⟩⟩
instance : OneCell Tryz.prog 95 := ⟨fun w => by kernel_rfl, fun w => by kernel_rfl⟩
instance : ZeroV Tryz.prog 95 (.pointer none) := ⟨fun w => by kernel_rfl⟩
instance : ElemI Tryz.prog 95 1 8 (.pointer none) := ⟨⟨Tryz.t95, by kernel_rfl, by kernel_rfl, by kernel_rfl, by kernel_rfl⟩⟩
instance : Concrete Tryz.prog 95 := ⟨⟨_, Tryz.underlying95, fun ms h => by cases h⟩⟩
instance : Comparable Tryz.prog 95 := ⟨⟨Tryz.t95, by kernel_rfl, by kernel_rfl⟩⟩
instance : PtrT Tryz.prog 95 := ⟨⟨132, 3, Tryz.underlying95, by decide, fun w => by kernel_rfl⟩⟩
instance : OneCell Tryz.prog 99 := ⟨fun w => by kernel_rfl, fun w => by kernel_rfl⟩
instance : ZeroV Tryz.prog 99 (.pointer none) := ⟨fun w => by kernel_rfl⟩
instance : ElemI Tryz.prog 99 1 8 (.pointer none) := ⟨⟨Tryz.t99, by kernel_rfl, by kernel_rfl, by kernel_rfl, by kernel_rfl⟩⟩
instance : Concrete Tryz.prog 99 := ⟨⟨_, Tryz.underlying99, fun ms h => by cases h⟩⟩
instance : Comparable Tryz.prog 99 := ⟨⟨Tryz.t99, by kernel_rfl, by kernel_rfl⟩⟩
instance : PtrT Tryz.prog 99 := ⟨⟨148, 7, Tryz.underlying99, by decide, fun w => by kernel_rfl⟩⟩
instance : OneCell Tryz.prog 101 := ⟨fun w => by kernel_rfl, fun w => by kernel_rfl⟩
instance : ZeroV Tryz.prog 101 (.pointer none) := ⟨fun w => by kernel_rfl⟩
instance : ElemI Tryz.prog 101 1 8 (.pointer none) := ⟨⟨Tryz.t101, by kernel_rfl, by kernel_rfl, by kernel_rfl, by kernel_rfl⟩⟩
instance : Concrete Tryz.prog 101 := ⟨⟨_, Tryz.underlying101, fun ms h => by cases h⟩⟩
instance : Comparable Tryz.prog 101 := ⟨⟨Tryz.t101, by kernel_rfl, by kernel_rfl⟩⟩
instance : PtrT Tryz.prog 101 := ⟨⟨105, 8, Tryz.underlying101, by decide, fun w => by kernel_rfl⟩⟩
instance : AggT Tryz.prog 105 8 := ⟨fun w => by kernel_rfl, fun w => by kernel_rfl⟩
instance : ZeroV Tryz.prog 105 (.agg #[.slice none 0 0, .map none, .pointer none, .nilIface, .int .i64 0, .int .i64 0, .nilIface, .nilIface]) := ⟨fun w => by kernel_rfl⟩
instance : ElemI Tryz.prog 105 8 104 (.agg #[.slice none 0 0, .map none, .pointer none, .nilIface, .int .i64 0, .int .i64 0, .nilIface, .nilIface]) := ⟨⟨Tryz.t105, by kernel_rfl, by kernel_rfl, by kernel_rfl, by kernel_rfl⟩⟩
instance : Concrete Tryz.prog 105 := ⟨⟨_, Tryz.underlying105, fun ms h => by cases h⟩⟩
instance : OneCell Tryz.prog 106 := ⟨fun w => by kernel_rfl, fun w => by kernel_rfl⟩
instance : ZeroV Tryz.prog 106 (.pointer none) := ⟨fun w => by kernel_rfl⟩
instance : ElemI Tryz.prog 106 1 8 (.pointer none) := ⟨⟨Tryz.t106, by kernel_rfl, by kernel_rfl, by kernel_rfl, by kernel_rfl⟩⟩
instance : Concrete Tryz.prog 106 := ⟨⟨_, Tryz.underlying106, fun ms h => by cases h⟩⟩
instance : Comparable Tryz.prog 106 := ⟨⟨Tryz.t106, by kernel_rfl, by kernel_rfl⟩⟩
instance : PtrT Tryz.prog 106 := ⟨⟨110, 3, Tryz.underlying106, by decide, fun w => by kernel_rfl⟩⟩
instance : OneCell Tryz.prog 108 := ⟨fun w => by kernel_rfl, fun w => by kernel_rfl⟩
instance : ZeroV Tryz.prog 108 (.int .i8 0) := ⟨fun w => by kernel_rfl⟩
instance : ElemI Tryz.prog 108 1 1 (.int .i8 0) := ⟨⟨Tryz.t108, by kernel_rfl, by kernel_rfl, by kernel_rfl, by kernel_rfl⟩⟩
instance : Concrete Tryz.prog 108 := ⟨⟨_, Tryz.underlying108, fun ms h => by cases h⟩⟩
instance : Comparable Tryz.prog 108 := ⟨⟨Tryz.t108, by kernel_rfl, by kernel_rfl⟩⟩
instance : IntT Tryz.prog 108 .i8 := ⟨Tryz.underlying108⟩
instance : AggT Tryz.prog 110 3 := ⟨fun w => by kernel_rfl, fun w => by kernel_rfl⟩
instance : ZeroV Tryz.prog 110 (.agg #[.slice none 0 0, .int .i64 0, .int .i8 0]) := ⟨fun w => by kernel_rfl⟩
instance : ElemI Tryz.prog 110 3 40 (.agg #[.slice none 0 0, .int .i64 0, .int .i8 0]) := ⟨⟨Tryz.t110, by kernel_rfl, by kernel_rfl, by kernel_rfl, by kernel_rfl⟩⟩
instance : Concrete Tryz.prog 110 := ⟨⟨_, Tryz.underlying110, fun ms h => by cases h⟩⟩
instance : OneCell Tryz.prog 113 := ⟨fun w => by kernel_rfl, fun w => by kernel_rfl⟩
instance : ZeroV Tryz.prog 113 (.map none) := ⟨fun w => by kernel_rfl⟩
instance : ElemI Tryz.prog 113 1 8 (.map none) := ⟨⟨Tryz.t113, by kernel_rfl, by kernel_rfl, by kernel_rfl, by kernel_rfl⟩⟩
instance : Concrete Tryz.prog 113 := ⟨⟨_, Tryz.underlying113, fun ms h => by cases h⟩⟩
instance : MapT Tryz.prog 113 9 114 := ⟨Tryz.underlying113⟩
instance : AggT Tryz.prog 114 0 := ⟨fun w => by kernel_rfl, fun w => by kernel_rfl⟩
instance : ZeroV Tryz.prog 114 (.agg #[]) := ⟨fun w => by kernel_rfl⟩
instance : ElemI Tryz.prog 114 0 0 (.agg #[]) := ⟨⟨Tryz.t114, by kernel_rfl, by kernel_rfl, by kernel_rfl, by kernel_rfl⟩⟩
instance : Concrete Tryz.prog 114 := ⟨⟨_, Tryz.underlying114, fun ms h => by cases h⟩⟩
instance : Comparable Tryz.prog 114 := ⟨⟨Tryz.t114, by kernel_rfl, by kernel_rfl⟩⟩
instance : OneCell Tryz.prog 116 := ⟨fun w => by kernel_rfl, fun w => by kernel_rfl⟩
instance : ZeroV Tryz.prog 116 (.nilIface) := ⟨fun w => by kernel_rfl⟩
instance : ElemI Tryz.prog 116 1 16 (.nilIface) := ⟨⟨Tryz.t116, by kernel_rfl, by kernel_rfl, by kernel_rfl, by kernel_rfl⟩⟩
instance : Comparable Tryz.prog 116 := ⟨⟨Tryz.t116, by kernel_rfl, by kernel_rfl⟩⟩
instance : IfaceT Tryz.prog 116 := ⟨⟨_, Tryz.underlying116⟩⟩
instance : AggT Tryz.prog 132 3 := ⟨fun w => by kernel_rfl, fun w => by kernel_rfl⟩
instance : ZeroV Tryz.prog 132 (.agg #[.slice none 0 0, .int .i64 0, .int .i64 0]) := ⟨fun w => by kernel_rfl⟩
instance : ElemI Tryz.prog 132 3 40 (.agg #[.slice none 0 0, .int .i64 0, .int .i64 0]) := ⟨⟨Tryz.t132, by kernel_rfl, by kernel_rfl, by kernel_rfl, by kernel_rfl⟩⟩
instance : Concrete Tryz.prog 132 := ⟨⟨_, Tryz.underlying132, fun ms h => by cases h⟩⟩
instance : OneCell Tryz.prog 141 := ⟨fun w => by kernel_rfl, fun w => by kernel_rfl⟩
instance : ZeroV Tryz.prog 141 (.pointer none) := ⟨fun w => by kernel_rfl⟩
instance : ElemI Tryz.prog 141 1 8 (.pointer none) := ⟨⟨Tryz.t141, by kernel_rfl, by kernel_rfl, by kernel_rfl, by kernel_rfl⟩⟩
instance : Concrete Tryz.prog 141 := ⟨⟨_, Tryz.underlying141, fun ms h => by cases h⟩⟩
instance : Comparable Tryz.prog 141 := ⟨⟨Tryz.t141, by kernel_rfl, by kernel_rfl⟩⟩
instance : PtrT Tryz.prog 141 := ⟨⟨157, 3, Tryz.underlying141, by decide, fun w => by kernel_rfl⟩⟩
instance : OneCell Tryz.prog 143 := ⟨fun w => by kernel_rfl, fun w => by kernel_rfl⟩
instance : ZeroV Tryz.prog 143 (.map none) := ⟨fun w => by kernel_rfl⟩
instance : ElemI Tryz.prog 143 1 8 (.map none) := ⟨⟨Tryz.t143, by kernel_rfl, by kernel_rfl, by kernel_rfl, by kernel_rfl⟩⟩
instance : Concrete Tryz.prog 143 := ⟨⟨_, Tryz.underlying143, fun ms h => by cases h⟩⟩
instance : MapT Tryz.prog 143 9 9 := ⟨Tryz.underlying143⟩
instance : AggT Tryz.prog 148 7 := ⟨fun w => by kernel_rfl, fun w => by kernel_rfl⟩
instance : ZeroV Tryz.prog 148 (.agg #[.pointer none, .pointer none, .int .i64 0, .slice none 0 0, .slice none 0 0, .slice none 0 0, .slice none 0 0]) := ⟨fun w => by kernel_rfl⟩
instance : ElemI Tryz.prog 148 7 120 (.agg #[.pointer none, .pointer none, .int .i64 0, .slice none 0 0, .slice none 0 0, .slice none 0 0, .slice none 0 0]) := ⟨⟨Tryz.t148, by kernel_rfl, by kernel_rfl, by kernel_rfl, by kernel_rfl⟩⟩
instance : Concrete Tryz.prog 148 := ⟨⟨_, Tryz.underlying148, fun ms h => by cases h⟩⟩
instance : OneCell Tryz.prog 154 := ⟨fun w => by kernel_rfl, fun w => by kernel_rfl⟩
instance : ZeroV Tryz.prog 154 (.pointer none) := ⟨fun w => by kernel_rfl⟩
instance : ElemI Tryz.prog 154 1 8 (.pointer none) := ⟨⟨Tryz.t154, by kernel_rfl, by kernel_rfl, by kernel_rfl, by kernel_rfl⟩⟩
instance : Concrete Tryz.prog 154 := ⟨⟨_, Tryz.underlying154, fun ms h => by cases h⟩⟩
instance : Comparable Tryz.prog 154 := ⟨⟨Tryz.t154, by kernel_rfl, by kernel_rfl⟩⟩
instance : PtrT Tryz.prog 154 := ⟨⟨80, 2, Tryz.underlying154, by decide, fun w => by kernel_rfl⟩⟩
instance : AggT Tryz.prog 157 3 := ⟨fun w => by kernel_rfl, fun w => by kernel_rfl⟩
instance : ZeroV Tryz.prog 157 (.agg #[.slice none 0 0, .string (mkS []), .string (mkS [])]) := ⟨fun w => by kernel_rfl⟩
instance : ElemI Tryz.prog 157 3 56 (.agg #[.slice none 0 0, .string (mkS []), .string (mkS [])]) := ⟨⟨Tryz.t157, by kernel_rfl, by kernel_rfl, by kernel_rfl, by kernel_rfl⟩⟩
instance : Concrete Tryz.prog 157 := ⟨⟨_, Tryz.underlying157, fun ms h => by cases h⟩⟩
instance : OneCell Tryz.prog 158 := ⟨fun w => by kernel_rfl, fun w => by kernel_rfl⟩
instance : ZeroV Tryz.prog 158 (.pointer none) := ⟨fun w => by kernel_rfl⟩
instance : ElemI Tryz.prog 158 1 8 (.pointer none) := ⟨⟨Tryz.t158, by kernel_rfl, by kernel_rfl, by kernel_rfl, by kernel_rfl⟩⟩
instance : Concrete Tryz.prog 158 := ⟨⟨_, Tryz.underlying158, fun ms h => by cases h⟩⟩
instance : Comparable Tryz.prog 158 := ⟨⟨Tryz.t158, by kernel_rfl, by kernel_rfl⟩⟩
instance : PtrT Tryz.prog 158 := ⟨⟨160, 2, Tryz.underlying158, by decide, fun w => by kernel_rfl⟩⟩
instance : AggT Tryz.prog 160 2 := ⟨fun w => by kernel_rfl, fun w => by kernel_rfl⟩
instance : ZeroV Tryz.prog 160 (.agg #[.pointer none, .int .i64 0]) := ⟨fun w => by kernel_rfl⟩
instance : ElemI Tryz.prog 160 2 16 (.agg #[.pointer none, .int .i64 0]) := ⟨⟨Tryz.t160, by kernel_rfl, by kernel_rfl, by kernel_rfl, by kernel_rfl⟩⟩
instance : Concrete Tryz.prog 160 := ⟨⟨_, Tryz.underlying160, fun ms h => by cases h⟩⟩
instance : Comparable Tryz.prog 160 := ⟨⟨Tryz.t160, by kernel_rfl, by kernel_rfl⟩⟩
instance : OneCell Tryz.prog 162 := ⟨fun w => by kernel_rfl, fun w => by kernel_rfl⟩
instance : ZeroV Tryz.prog 162 (.nilIface) := ⟨fun w => by kernel_rfl⟩
instance : ElemI Tryz.prog 162 1 16 (.nilIface) := ⟨⟨Tryz.t162, by kernel_rfl, by kernel_rfl, by kernel_rfl, by kernel_rfl⟩⟩
instance : Comparable Tryz.prog 162 := ⟨⟨Tryz.t162, by kernel_rfl, by kernel_rfl⟩⟩
instance : IfaceT Tryz.prog 162 := ⟨⟨_, Tryz.underlying162⟩⟩
instance : OneCell Tryz.prog 164 := ⟨fun w => by kernel_rfl, fun w => by kernel_rfl⟩
instance : Concrete Tryz.prog 164 := ⟨⟨_, Tryz.underlying164, fun ms h => by cases h⟩⟩
instance : OneCell Tryz.prog 166 := ⟨fun w => by kernel_rfl, fun w => by kernel_rfl⟩
instance : ZeroV Tryz.prog 166 (.pointer none) := ⟨fun w => by kernel_rfl⟩
instance : ElemI Tryz.prog 166 1 8 (.pointer none) := ⟨⟨Tryz.t166, by kernel_rfl, by kernel_rfl, by kernel_rfl, by kernel_rfl⟩⟩
instance : Concrete Tryz.prog 166 := ⟨⟨_, Tryz.underlying166, fun ms h => by cases h⟩⟩
instance : Comparable Tryz.prog 166 := ⟨⟨Tryz.t166, by kernel_rfl, by kernel_rfl⟩⟩
instance : PtrT Tryz.prog 166 := ⟨⟨168, 1, Tryz.underlying166, by decide, fun w => by kernel_rfl⟩⟩
instance : AggT Tryz.prog 168 1 := ⟨fun w => by kernel_rfl, fun w => by kernel_rfl⟩
instance : ZeroV Tryz.prog 168 (.agg #[.string (mkS [])]) := ⟨fun w => by kernel_rfl⟩
instance : ElemI Tryz.prog 168 1 16 (.agg #[.string (mkS [])]) := ⟨⟨Tryz.t168, by kernel_rfl, by kernel_rfl, by kernel_rfl, by kernel_rfl⟩⟩
instance : Concrete Tryz.prog 168 := ⟨⟨_, Tryz.underlying168, fun ms h => by cases h⟩⟩
instance : Comparable Tryz.prog 168 := ⟨⟨Tryz.t168, by kernel_rfl, by kernel_rfl⟩⟩
instance : AggT Tryz.prog 171 7 := ⟨fun w => by kernel_rfl, fun w => by kernel_rfl⟩
instance : ZeroV Tryz.prog 171 (.agg #[.slice none 0 0, .nilIface, .int .i64 0, .int .i64 0, .nilIface, .int .i64 0, .int .i64 0]) := ⟨fun w => by kernel_rfl⟩
instance : ElemI Tryz.prog 171 7 88 (.agg #[.slice none 0 0, .nilIface, .int .i64 0, .int .i64 0, .nilIface, .int .i64 0, .int .i64 0]) := ⟨⟨Tryz.t171, by kernel_rfl, by kernel_rfl, by kernel_rfl, by kernel_rfl⟩⟩
instance : Concrete Tryz.prog 171 := ⟨⟨_, Tryz.underlying171, fun ms h => by cases h⟩⟩
instance : OneCell Tryz.prog 176 := ⟨fun w => by kernel_rfl, fun w => by kernel_rfl⟩
instance : ZeroV Tryz.prog 176 (.pointer none) := ⟨fun w => by kernel_rfl⟩
instance : ElemI Tryz.prog 176 1 8 (.pointer none) := ⟨⟨Tryz.t176, by kernel_rfl, by kernel_rfl, by kernel_rfl, by kernel_rfl⟩⟩
instance : Concrete Tryz.prog 176 := ⟨⟨_, Tryz.underlying176, fun ms h => by cases h⟩⟩
instance : Comparable Tryz.prog 176 := ⟨⟨Tryz.t176, by kernel_rfl, by kernel_rfl⟩⟩
instance : PtrT Tryz.prog 176 := ⟨⟨178, 2, Tryz.underlying176, by decide, fun w => by kernel_rfl⟩⟩
instance : AggT Tryz.prog 178 2 := ⟨fun w => by kernel_rfl, fun w => by kernel_rfl⟩
instance : ZeroV Tryz.prog 178 (.agg #[.pointer none, .slice none 0 0]) := ⟨fun w => by kernel_rfl⟩
instance : ElemI Tryz.prog 178 2 32 (.agg #[.pointer none, .slice none 0 0]) := ⟨⟨Tryz.t178, by kernel_rfl, by kernel_rfl, by kernel_rfl, by kernel_rfl⟩⟩
instance : Concrete Tryz.prog 178 := ⟨⟨_, Tryz.underlying178, fun ms h => by cases h⟩⟩
instance : OneCell Tryz.prog 184 := ⟨fun w => by kernel_rfl, fun w => by kernel_rfl⟩
instance : Concrete Tryz.prog 184 := ⟨⟨_, Tryz.underlying184, fun ms h => by cases h⟩⟩
instance : OneCell Tryz.prog 187 := ⟨fun w => by kernel_rfl, fun w => by kernel_rfl⟩
instance : ZeroV Tryz.prog 187 (.map none) := ⟨fun w => by kernel_rfl⟩
instance : ElemI Tryz.prog 187 1 8 (.map none) := ⟨⟨Tryz.t187, by kernel_rfl, by kernel_rfl, by kernel_rfl, by kernel_rfl⟩⟩
instance : Concrete Tryz.prog 187 := ⟨⟨_, Tryz.underlying187, fun ms h => by cases h⟩⟩
instance : MapT Tryz.prog 187 9 143 := ⟨Tryz.underlying187⟩
instance : OneCell Tryz.prog 193 := ⟨fun w => by kernel_rfl, fun w => by kernel_rfl⟩
instance : ZeroV Tryz.prog 193 (.pointer none) := ⟨fun w => by kernel_rfl⟩
instance : ElemI Tryz.prog 193 1 8 (.pointer none) := ⟨⟨Tryz.t193, by kernel_rfl, by kernel_rfl, by kernel_rfl, by kernel_rfl⟩⟩
instance : Concrete Tryz.prog 193 := ⟨⟨_, Tryz.underlying193, fun ms h => by cases h⟩⟩
instance : Comparable Tryz.prog 193 := ⟨⟨Tryz.t193, by kernel_rfl, by kernel_rfl⟩⟩
instance : PtrT Tryz.prog 193 := ⟨⟨195, 2, Tryz.underlying193, by decide, fun w => by kernel_rfl⟩⟩
instance : AggT Tryz.prog 195 2 := ⟨fun w => by kernel_rfl, fun w => by kernel_rfl⟩
instance : ZeroV Tryz.prog 195 (.agg #[.nilIface, .nilIface]) := ⟨fun w => by kernel_rfl⟩
instance : ElemI Tryz.prog 195 2 32 (.agg #[.nilIface, .nilIface]) := ⟨⟨Tryz.t195, by kernel_rfl, by kernel_rfl, by kernel_rfl, by kernel_rfl⟩⟩
instance : Concrete Tryz.prog 195 := ⟨⟨_, Tryz.underlying195, fun ms h => by cases h⟩⟩
instance : Comparable Tryz.prog 195 := ⟨⟨Tryz.t195, by kernel_rfl, by kernel_rfl⟩⟩
instance : AggT Tryz.prog 198 1 := ⟨fun w => by kernel_rfl, fun w => by kernel_rfl⟩
instance : ZeroV Tryz.prog 198 (.agg #[.pointer none]) := ⟨fun w => by kernel_rfl⟩
instance : ElemI Tryz.prog 198 1 8 (.agg #[.pointer none]) := ⟨⟨Tryz.t198, by kernel_rfl, by kernel_rfl, by kernel_rfl, by kernel_rfl⟩⟩
instance : Concrete Tryz.prog 198 := ⟨⟨_, Tryz.underlying198, fun ms h => by cases h⟩⟩
instance : Comparable Tryz.prog 198 := ⟨⟨Tryz.t198, by kernel_rfl, by kernel_rfl⟩⟩
instance : OneCell Tryz.prog 202 := ⟨fun w => by kernel_rfl, fun w => by kernel_rfl⟩
instance : ZeroV Tryz.prog 202 (.nilIface) := ⟨fun w => by kernel_rfl⟩
instance : ElemI Tryz.prog 202 1 16 (.nilIface) := ⟨⟨Tryz.t202, by kernel_rfl, by kernel_rfl, by kernel_rfl, by kernel_rfl⟩⟩
instance : Comparable Tryz.prog 202 := ⟨⟨Tryz.t202, by kernel_rfl, by kernel_rfl⟩⟩
instance : IfaceT Tryz.prog 202 := ⟨⟨_, Tryz.underlying202⟩⟩
instance : OneCell Tryz.prog 206 := ⟨fun w => by kernel_rfl, fun w => by kernel_rfl⟩
instance : ZeroV Tryz.prog 206 (.nilIface) := ⟨fun w => by kernel_rfl⟩
instance : ElemI Tryz.prog 206 1 16 (.nilIface) := ⟨⟨Tryz.t206, by kernel_rfl, by kernel_rfl, by kernel_rfl, by kernel_rfl⟩⟩
instance : Comparable Tryz.prog 206 := ⟨⟨Tryz.t206, by kernel_rfl, by kernel_rfl⟩⟩
instance : IfaceT Tryz.prog 206 := ⟨⟨_, Tryz.underlying206⟩⟩
instance : OneCell Tryz.prog 208 := ⟨fun w => by kernel_rfl, fun w => by kernel_rfl⟩
instance : Concrete Tryz.prog 208 := ⟨⟨_, Tryz.underlying208, fun ms h => by cases h⟩⟩
instance : OneCell Tryz.prog 209 := ⟨fun w => by kernel_rfl, fun w => by kernel_rfl⟩
instance : ZeroV Tryz.prog 209 (.pointer none) := ⟨fun w => by kernel_rfl⟩
instance : ElemI Tryz.prog 209 1 8 (.pointer none) := ⟨⟨Tryz.t209, by kernel_rfl, by kernel_rfl, by kernel_rfl, by kernel_rfl⟩⟩
instance : Concrete Tryz.prog 209 := ⟨⟨_, Tryz.underlying209, fun ms h => by cases h⟩⟩
instance : Comparable Tryz.prog 209 := ⟨⟨Tryz.t209, by kernel_rfl, by kernel_rfl⟩⟩
instance : PtrT Tryz.prog 209 := ⟨⟨212, 2, Tryz.underlying209, by decide, fun w => by kernel_rfl⟩⟩
instance : OneCell Tryz.prog 215 := ⟨fun w => by kernel_rfl, fun w => by kernel_rfl⟩
instance : ZeroV Tryz.prog 215 (.pointer none) := ⟨fun w => by kernel_rfl⟩
instance : ElemI Tryz.prog 215 1 8 (.pointer none) := ⟨⟨Tryz.t215, by kernel_rfl, by kernel_rfl, by kernel_rfl, by kernel_rfl⟩⟩
instance : Concrete Tryz.prog 215 := ⟨⟨_, Tryz.underlying215, fun ms h => by cases h⟩⟩
instance : Comparable Tryz.prog 215 := ⟨⟨Tryz.t215, by kernel_rfl, by kernel_rfl⟩⟩
instance : PtrT Tryz.prog 215 := ⟨⟨5, 1, Tryz.underlying215, by decide, fun w => by kernel_rfl⟩⟩
instance : OneCell Tryz.prog 222 := ⟨fun w => by kernel_rfl, fun w => by kernel_rfl⟩
instance : Concrete Tryz.prog 222 := ⟨⟨_, Tryz.underlying222, fun ms h => by cases h⟩⟩
instance : AggT Tryz.prog 223 256 := ⟨fun w => by kernel_rfl, fun w => by kernel_rfl⟩
instance : Concrete Tryz.prog 223 := ⟨⟨_, Tryz.underlying223, fun ms h => by cases h⟩⟩
instance : Comparable Tryz.prog 223 := ⟨⟨Tryz.t223, by kernel_rfl, by kernel_rfl⟩⟩
instance : ArrT Tryz.prog 223 256 5 1 := ⟨Tryz.underlying223, fun w => by kernel_rfl⟩
instance : OneCell Tryz.prog 229 := ⟨fun w => by kernel_rfl, fun w => by kernel_rfl⟩
instance : ZeroV Tryz.prog 229 (.pointer none) := ⟨fun w => by kernel_rfl⟩
instance : ElemI Tryz.prog 229 1 8 (.pointer none) := ⟨⟨Tryz.t229, by kernel_rfl, by kernel_rfl, by kernel_rfl, by kernel_rfl⟩⟩
instance : Concrete Tryz.prog 229 := ⟨⟨_, Tryz.underlying229, fun ms h => by cases h⟩⟩
instance : Comparable Tryz.prog 229 := ⟨⟨Tryz.t229, by kernel_rfl, by kernel_rfl⟩⟩
instance : FieldAt Tryz.prog 25 0 0 := ⟨⟨_, _, Tryz.underlying25, rfl, rfl, 1, by decide, fun w => by kernel_rfl⟩⟩
instance : FieldAt Tryz.prog 25 1 1 := ⟨⟨_, _, Tryz.underlying25, rfl, rfl, 1, by decide, fun w => by kernel_rfl⟩⟩
instance : FieldAt Tryz.prog 25 2 2 := ⟨⟨_, _, Tryz.underlying25, rfl, rfl, 1, by decide, fun w => by kernel_rfl⟩⟩
instance : FieldAt Tryz.prog 25 3 3 := ⟨⟨_, _, Tryz.underlying25, rfl, rfl, 1, by decide, fun w => by kernel_rfl⟩⟩
instance : FieldAt Tryz.prog 25 4 4 := ⟨⟨_, _, Tryz.underlying25, rfl, rfl, 1, by decide, fun w => by kernel_rfl⟩⟩
instance : FieldAt Tryz.prog 25 5 5 := ⟨⟨_, _, Tryz.underlying25, rfl, rfl, 1, by decide, fun w => by kernel_rfl⟩⟩
instance : FieldAt Tryz.prog 25 6 6 := ⟨⟨_, _, Tryz.underlying25, rfl, rfl, 1, by decide, fun w => by kernel_rfl⟩⟩
instance : FieldAt Tryz.prog 25 7 7 := ⟨⟨_, _, Tryz.underlying25, rfl, rfl, 1, by decide, fun w => by kernel_rfl⟩⟩
instance : FieldAt Tryz.prog 25 8 8 := ⟨⟨_, _, Tryz.underlying25, rfl, rfl, 1, by decide, fun w => by kernel_rfl⟩⟩
instance : FieldAt Tryz.prog 29 0 0 := ⟨⟨_, _, Tryz.underlying29, rfl, rfl, 1, by decide, fun w => by kernel_rfl⟩⟩
instance : FieldAt Tryz.prog 29 1 1 := ⟨⟨_, _, Tryz.underlying29, rfl, rfl, 1, by decide, fun w => by kernel_rfl⟩⟩
instance : FieldAt Tryz.prog 29 2 2 := ⟨⟨_, _, Tryz.underlying29, rfl, rfl, 1, by decide, fun w => by kernel_rfl⟩⟩
instance : FieldAt Tryz.prog 29 3 3 := ⟨⟨_, _, Tryz.underlying29, rfl, rfl, 1, by decide, fun w => by kernel_rfl⟩⟩
instance : FieldAt Tryz.prog 29 4 4 := ⟨⟨_, _, Tryz.underlying29, rfl, rfl, 1, by decide, fun w => by kernel_rfl⟩⟩
instance : FieldAt Tryz.prog 29 5 5 := ⟨⟨_, _, Tryz.underlying29, rfl, rfl, 1, by decide, fun w => by kernel_rfl⟩⟩
instance : FieldAt Tryz.prog 53 4 4 := ⟨⟨_, _, Tryz.underlying53, rfl, rfl, 1, by decide, fun w => by kernel_rfl⟩⟩
instance : FieldAt Tryz.prog 64 0 0 := ⟨⟨_, _, Tryz.underlying64, rfl, rfl, 1, by decide, fun w => by kernel_rfl⟩⟩
instance : FieldAt Tryz.prog 64 1 1 := ⟨⟨_, _, Tryz.underlying64, rfl, rfl, 1, by decide, fun w => by kernel_rfl⟩⟩
instance : FieldAt Tryz.prog 73 0 0 := ⟨⟨_, _, Tryz.underlying73, rfl, rfl, 1, by decide, fun w => by kernel_rfl⟩⟩
instance : FieldAt Tryz.prog 73 1 1 := ⟨⟨_, _, Tryz.underlying73, rfl, rfl, 1, by decide, fun w => by kernel_rfl⟩⟩
instance : FieldAt Tryz.prog 73 2 2 := ⟨⟨_, _, Tryz.underlying73, rfl, rfl, 1, by decide, fun w => by kernel_rfl⟩⟩
instance : FieldAt Tryz.prog 73 3 3 := ⟨⟨_, _, Tryz.underlying73, rfl, rfl, 1, by decide, fun w => by kernel_rfl⟩⟩
instance : FieldAt Tryz.prog 76 0 0 := ⟨⟨_, _, Tryz.underlying76, rfl, rfl, 4, by decide, fun w => by kernel_rfl⟩⟩
instance : FieldAt Tryz.prog 76 2 5 := ⟨⟨_, _, Tryz.underlying76, rfl, rfl, 1, by decide, fun w => by kernel_rfl⟩⟩
instance : FieldAt Tryz.prog 80 0 0 := ⟨⟨_, _, Tryz.underlying80, rfl, rfl, 1, by decide, fun w => by kernel_rfl⟩⟩
instance : FieldAt Tryz.prog 80 1 1 := ⟨⟨_, _, Tryz.underlying80, rfl, rfl, 1, by decide, fun w => by kernel_rfl⟩⟩
instance : FieldAt Tryz.prog 105 0 0 := ⟨⟨_, _, Tryz.underlying105, rfl, rfl, 2, by decide, fun w => by kernel_rfl⟩⟩
instance : FieldAt Tryz.prog 105 1 2 := ⟨⟨_, _, Tryz.underlying105, rfl, rfl, 1, by decide, fun w => by kernel_rfl⟩⟩
instance : FieldAt Tryz.prog 105 2 3 := ⟨⟨_, _, Tryz.underlying105, rfl, rfl, 1, by decide, fun w => by kernel_rfl⟩⟩
instance : FieldAt Tryz.prog 105 3 4 := ⟨⟨_, _, Tryz.underlying105, rfl, rfl, 1, by decide, fun w => by kernel_rfl⟩⟩
instance : FieldAt Tryz.prog 105 4 5 := ⟨⟨_, _, Tryz.underlying105, rfl, rfl, 1, by decide, fun w => by kernel_rfl⟩⟩
instance : FieldAt Tryz.prog 105 5 6 := ⟨⟨_, _, Tryz.underlying105, rfl, rfl, 1, by decide, fun w => by kernel_rfl⟩⟩
instance : FieldAt Tryz.prog 105 6 7 := ⟨⟨_, _, Tryz.underlying105, rfl, rfl, 1, by decide, fun w => by kernel_rfl⟩⟩
instance : FieldAt Tryz.prog 110 0 0 := ⟨⟨_, _, Tryz.underlying110, rfl, rfl, 1, by decide, fun w => by kernel_rfl⟩⟩
instance : FieldAt Tryz.prog 110 1 1 := ⟨⟨_, _, Tryz.underlying110, rfl, rfl, 1, by decide, fun w => by kernel_rfl⟩⟩
instance : FieldAt Tryz.prog 110 2 2 := ⟨⟨_, _, Tryz.underlying110, rfl, rfl, 1, by decide, fun w => by kernel_rfl⟩⟩
instance : FieldAt Tryz.prog 132 0 0 := ⟨⟨_, _, Tryz.underlying132, rfl, rfl, 1, by decide, fun w => by kernel_rfl⟩⟩
instance : FieldAt Tryz.prog 132 1 1 := ⟨⟨_, _, Tryz.underlying132, rfl, rfl, 1, by decide, fun w => by kernel_rfl⟩⟩
instance : FieldAt Tryz.prog 132 2 2 := ⟨⟨_, _, Tryz.underlying132, rfl, rfl, 1, by decide, fun w => by kernel_rfl⟩⟩
instance : FieldAt Tryz.prog 148 0 0 := ⟨⟨_, _, Tryz.underlying148, rfl, rfl, 1, by decide, fun w => by kernel_rfl⟩⟩
instance : FieldAt Tryz.prog 148 1 1 := ⟨⟨_, _, Tryz.underlying148, rfl, rfl, 1, by decide, fun w => by kernel_rfl⟩⟩
instance : FieldAt Tryz.prog 148 2 2 := ⟨⟨_, _, Tryz.underlying148, rfl, rfl, 1, by decide, fun w => by kernel_rfl⟩⟩
instance : FieldAt Tryz.prog 148 3 3 := ⟨⟨_, _, Tryz.underlying148, rfl, rfl, 1, by decide, fun w => by kernel_rfl⟩⟩
instance : FieldAt Tryz.prog 148 4 4 := ⟨⟨_, _, Tryz.underlying148, rfl, rfl, 1, by decide, fun w => by kernel_rfl⟩⟩
instance : FieldAt Tryz.prog 148 5 5 := ⟨⟨_, _, Tryz.underlying148, rfl, rfl, 1, by decide, fun w => by kernel_rfl⟩⟩
instance : FieldAt Tryz.prog 148 6 6 := ⟨⟨_, _, Tryz.underlying148, rfl, rfl, 1, by decide, fun w => by kernel_rfl⟩⟩
instance : FieldAt Tryz.prog 157 0 0 := ⟨⟨_, _, Tryz.underlying157, rfl, rfl, 1, by decide, fun w => by kernel_rfl⟩⟩
instance : FieldAt Tryz.prog 157 1 1 := ⟨⟨_, _, Tryz.underlying157, rfl, rfl, 1, by decide, fun w => by kernel_rfl⟩⟩
instance : FieldAt Tryz.prog 157 2 2 := ⟨⟨_, _, Tryz.underlying157, rfl, rfl, 1, by decide, fun w => by kernel_rfl⟩⟩
instance : FieldAt Tryz.prog 160 0 0 := ⟨⟨_, _, Tryz.underlying160, rfl, rfl, 1, by decide, fun w => by kernel_rfl⟩⟩
instance : FieldAt Tryz.prog 160 1 1 := ⟨⟨_, _, Tryz.underlying160, rfl, rfl, 1, by decide, fun w => by kernel_rfl⟩⟩
instance : FieldAt Tryz.prog 171 0 0 := ⟨⟨_, _, Tryz.underlying171, rfl, rfl, 1, by decide, fun w => by kernel_rfl⟩⟩
instance : FieldAt Tryz.prog 171 1 1 := ⟨⟨_, _, Tryz.underlying171, rfl, rfl, 1, by decide, fun w => by kernel_rfl⟩⟩
instance : FieldAt Tryz.prog 171 2 2 := ⟨⟨_, _, Tryz.underlying171, rfl, rfl, 1, by decide, fun w => by kernel_rfl⟩⟩
instance : FieldAt Tryz.prog 171 3 3 := ⟨⟨_, _, Tryz.underlying171, rfl, rfl, 1, by decide, fun w => by kernel_rfl⟩⟩
instance : FieldAt Tryz.prog 171 4 4 := ⟨⟨_, _, Tryz.underlying171, rfl, rfl, 1, by decide, fun w => by kernel_rfl⟩⟩
instance : FieldAt Tryz.prog 171 5 5 := ⟨⟨_, _, Tryz.underlying171, rfl, rfl, 1, by decide, fun w => by kernel_rfl⟩⟩
instance : FieldAt Tryz.prog 171 6 6 := ⟨⟨_, _, Tryz.underlying171, rfl, rfl, 1, by decide, fun w => by kernel_rfl⟩⟩
instance : FieldAt Tryz.prog 178 0 0 := ⟨⟨_, _, Tryz.underlying178, rfl, rfl, 1, by decide, fun w => by kernel_rfl⟩⟩
instance : FieldAt Tryz.prog 178 1 1 := ⟨⟨_, _, Tryz.underlying178, rfl, rfl, 1, by decide, fun w => by kernel_rfl⟩⟩
instance : FieldAt Tryz.prog 195 0 0 := ⟨⟨_, _, Tryz.underlying195, rfl, rfl, 1, by decide, fun w => by kernel_rfl⟩⟩
instance : FieldAt Tryz.prog 195 1 1 := ⟨⟨_, _, Tryz.underlying195, rfl, rfl, 1, by decide, fun w => by kernel_rfl⟩⟩
instance : FieldAt Tryz.prog 198 0 0 := ⟨⟨_, _, Tryz.underlying198, rfl, rfl, 1, by decide, fun w => by kernel_rfl⟩⟩
instance : FieldAt Tryz.prog 212 1 1 := ⟨⟨_, _, Tryz.underlying212, rfl, rfl, 1, by decide, fun w => by kernel_rfl⟩⟩
instance : BuildT Tryz.prog 25 [(0, 1), (1, 1), (2, 1), (3, 1), (4, 1), (5, 1), (6, 1), (7, 1), (8, 1)] [.slice none 0 0, .int .i64 0, .string (mkS []), .string (mkS []), .string (mkS []), .string (mkS []), .string (mkS []), .string (mkS []), .slice none 0 0] := .of (by kernel_rfl)
instance : BuildT Tryz.prog 29 [(0, 1), (1, 1), (2, 1), (3, 1), (4, 1), (5, 1)] [.slice none 0 0, .string (mkS []), .slice none 0 0, .bool false, .bool false, .slice none 0 0] := .of (by kernel_rfl)
instance : BuildT Tryz.prog 53 [(0, 1), (1, 1), (2, 1), (3, 1), (4, 1)] [.int .u32 0, .int .i64 0, .int .u32 0, .slice none 0 0, .slice none 0 0] := .of (by kernel_rfl)
instance : BuildT Tryz.prog 64 [(0, 1), (1, 1)] [.string (mkS []), .string (mkS [])] := .of (by kernel_rfl)
instance : BuildT Tryz.prog 73 [(0, 1), (1, 1), (2, 1), (3, 1)] [.string (mkS []), .slice none 0 0, .slice none 0 0, .bool false] := .of (by kernel_rfl)
instance : BuildT Tryz.prog 76 [(0, 4), (4, 1), (5, 1), (6, 1)] [.string (mkS []), .slice none 0 0, .slice none 0 0, .bool false, .bool false, .slice none 0 0, .string (mkS [])] := .of (by kernel_rfl)
instance : BuildT Tryz.prog 80 [(0, 1), (1, 1)] [.slice none 0 0, .map none] := .of (by kernel_rfl)
instance : BuildT Tryz.prog 105 [(0, 2), (2, 1), (3, 1), (4, 1), (5, 1), (6, 1), (7, 1)] [.slice none 0 0, .map none, .pointer none, .nilIface, .int .i64 0, .int .i64 0, .nilIface, .nilIface] := .of (by kernel_rfl)
instance : BuildT Tryz.prog 114 [] [] := .of (by kernel_rfl)
instance : BuildT Tryz.prog 132 [(0, 1), (1, 1), (2, 1)] [.slice none 0 0, .int .i64 0, .int .i64 0] := .of (by kernel_rfl)
instance : BuildT Tryz.prog 148 [(0, 1), (1, 1), (2, 1), (3, 1), (4, 1), (5, 1), (6, 1)] [.pointer none, .pointer none, .int .i64 0, .slice none 0 0, .slice none 0 0, .slice none 0 0, .slice none 0 0] := .of (by kernel_rfl)
instance : BuildT Tryz.prog 157 [(0, 1), (1, 1), (2, 1)] [.slice none 0 0, .string (mkS []), .string (mkS [])] := .of (by kernel_rfl)
instance : BuildT Tryz.prog 160 [(0, 1), (1, 1)] [.pointer none, .int .i64 0] := .of (by kernel_rfl)
instance : BuildT Tryz.prog 168 [(0, 1)] [.string (mkS [])] := .of (by kernel_rfl)
instance : BuildT Tryz.prog 171 [(0, 1), (1, 1), (2, 1), (3, 1), (4, 1), (5, 1), (6, 1)] [.slice none 0 0, .nilIface, .int .i64 0, .int .i64 0, .nilIface, .int .i64 0, .int .i64 0] := .of (by kernel_rfl)
instance : BuildT Tryz.prog 195 [(0, 1), (1, 1)] [.nilIface, .nilIface] := .of (by kernel_rfl)
instance : BuildT Tryz.prog 198 [(0, 1)] [.pointer none] := .of (by kernel_rfl)
instance : Enters Tryz.prog 5 := ⟨fun args w => by kernel_rfl⟩
instance : Enters Tryz.prog 6 := ⟨fun args w => by kernel_rfl⟩
instance : Enters Tryz.prog 7 := ⟨fun args w => by kernel_rfl⟩
instance : Enters Tryz.prog 8 := ⟨fun args w => by kernel_rfl⟩
instance : Enters Tryz.prog 9 := ⟨fun args w => by kernel_rfl⟩
instance : Enters Tryz.prog 10 := ⟨fun args w => by kernel_rfl⟩
instance : Enters Tryz.prog 11 := ⟨fun args w => by kernel_rfl⟩
instance : Enters Tryz.prog 12 := ⟨fun args w => by kernel_rfl⟩
instance : Enters Tryz.prog 13 := ⟨fun args w => by kernel_rfl⟩
instance : Enters Tryz.prog 14 := ⟨fun args w => by kernel_rfl⟩
instance : Enters Tryz.prog 15 := ⟨fun args w => by kernel_rfl⟩
instance : Enters Tryz.prog 16 := ⟨fun args w => by kernel_rfl⟩
instance : Enters Tryz.prog 17 := ⟨fun args w => by kernel_rfl⟩
instance : Enters Tryz.prog 18 := ⟨fun args w => by kernel_rfl⟩
instance : Enters Tryz.prog 19 := ⟨fun args w => by kernel_rfl⟩
instance : Enters Tryz.prog 20 := ⟨fun args w => by kernel_rfl⟩
instance : Enters Tryz.prog 22 := ⟨fun args w => by kernel_rfl⟩
instance : Enters Tryz.prog 23 := ⟨fun args w => by kernel_rfl⟩
instance : Enters Tryz.prog 24 := ⟨fun args w => by kernel_rfl⟩
instance : Enters Tryz.prog 26 := ⟨fun args w => by kernel_rfl⟩
instance : Enters Tryz.prog 28 := ⟨fun args w => by kernel_rfl⟩
instance : Enters Tryz.prog 29 := ⟨fun args w => by kernel_rfl⟩
instance : Enters Tryz.prog 30 := ⟨fun args w => by kernel_rfl⟩
instance : Enters Tryz.prog 31 := ⟨fun args w => by kernel_rfl⟩
instance : Enters Tryz.prog 32 := ⟨fun args w => by kernel_rfl⟩
instance : Enters Tryz.prog 33 := ⟨fun args w => by kernel_rfl⟩
instance : Enters Tryz.prog 35 := ⟨fun args w => by kernel_rfl⟩
instance : Enters Tryz.prog 36 := ⟨fun args w => by kernel_rfl⟩
instance : Enters Tryz.prog 37 := ⟨fun args w => by kernel_rfl⟩
instance : Enters Tryz.prog 38 := ⟨fun args w => by kernel_rfl⟩
instance : Enters Tryz.prog 39 := ⟨fun args w => by kernel_rfl⟩
instance : Enters Tryz.prog 40 := ⟨fun args w => by kernel_rfl⟩
instance : Enters Tryz.prog 41 := ⟨fun args w => by kernel_rfl⟩
instance : Enters Tryz.prog 42 := ⟨fun args w => by kernel_rfl⟩
instance : Enters Tryz.prog 43 := ⟨fun args w => by kernel_rfl⟩
instance : Enters Tryz.prog 44 := ⟨fun args w => by kernel_rfl⟩
instance : Enters Tryz.prog 45 := ⟨fun args w => by kernel_rfl⟩
instance : Enters Tryz.prog 46 := ⟨fun args w => by kernel_rfl⟩
instance : Enters Tryz.prog 47 := ⟨fun args w => by kernel_rfl⟩
instance : Enters Tryz.prog 48 := ⟨fun args w => by kernel_rfl⟩
instance : Enters Tryz.prog 49 := ⟨fun args w => by kernel_rfl⟩
instance : Enters Tryz.prog 50 := ⟨fun args w => by kernel_rfl⟩
instance : Enters Tryz.prog 51 := ⟨fun args w => by kernel_rfl⟩
instance : Enters Tryz.prog 52 := ⟨fun args w => by kernel_rfl⟩
instance : Enters Tryz.prog 53 := ⟨fun args w => by kernel_rfl⟩
instance : Enters Tryz.prog 54 := ⟨fun args w => by kernel_rfl⟩
instance : Enters Tryz.prog 55 := ⟨fun args w => by kernel_rfl⟩
instance : Enters Tryz.prog 56 := ⟨fun args w => by kernel_rfl⟩
instance : Enters Tryz.prog 57 := ⟨fun args w => by kernel_rfl⟩
instance : Enters Tryz.prog 58 := ⟨fun args w => by kernel_rfl⟩
instance : Enters Tryz.prog 59 := ⟨fun args w => by kernel_rfl⟩
instance : Enters Tryz.prog 60 := ⟨fun args w => by kernel_rfl⟩
instance : Enters Tryz.prog 61 := ⟨fun args w => by kernel_rfl⟩
instance : Enters Tryz.prog 62 := ⟨fun args w => by kernel_rfl⟩
instance : Enters Tryz.prog 63 := ⟨fun args w => by kernel_rfl⟩
instance : Enters Tryz.prog 64 := ⟨fun args w => by kernel_rfl⟩
instance : Enters Tryz.prog 65 := ⟨fun args w => by kernel_rfl⟩
instance : Enters Tryz.prog 66 := ⟨fun args w => by kernel_rfl⟩
instance : Enters Tryz.prog 67 := ⟨fun args w => by kernel_rfl⟩
instance : Enters Tryz.prog 68 := ⟨fun args w => by kernel_rfl⟩
instance : Enters Tryz.prog 69 := ⟨fun args w => by kernel_rfl⟩
instance : Enters Tryz.prog 70 := ⟨fun args w => by kernel_rfl⟩
instance : Enters Tryz.prog 71 := ⟨fun args w => by kernel_rfl⟩
instance : Enters Tryz.prog 72 := ⟨fun args w => by kernel_rfl⟩
instance : Enters Tryz.prog 73 := ⟨fun args w => by kernel_rfl⟩
instance : Enters Tryz.prog 74 := ⟨fun args w => by kernel_rfl⟩
instance : Enters Tryz.prog 75 := ⟨fun args w => by kernel_rfl⟩
instance : Enters Tryz.prog 76 := ⟨fun args w => by kernel_rfl⟩
instance : Enters Tryz.prog 77 := ⟨fun args w => by kernel_rfl⟩
instance : Enters Tryz.prog 78 := ⟨fun args w => by kernel_rfl⟩
instance : Enters Tryz.prog 79 := ⟨fun args w => by kernel_rfl⟩
instance : Enters Tryz.prog 80 := ⟨fun args w => by kernel_rfl⟩
instance : Enters Tryz.prog 81 := ⟨fun args w => by kernel_rfl⟩
instance : Enters Tryz.prog 82 := ⟨fun args w => by kernel_rfl⟩
instance : Enters Tryz.prog 83 := ⟨fun args w => by kernel_rfl⟩
instance : Enters Tryz.prog 84 := ⟨fun args w => by kernel_rfl⟩
instance : Enters Tryz.prog 85 := ⟨fun args w => by kernel_rfl⟩
instance : Enters Tryz.prog 87 := ⟨fun args w => by kernel_rfl⟩
instance : Enters Tryz.prog 88 := ⟨fun args w => by kernel_rfl⟩
instance : Enters Tryz.prog 89 := ⟨fun args w => by kernel_rfl⟩
instance : Enters Tryz.prog 90 := ⟨fun args w => by kernel_rfl⟩
instance : Enters Tryz.prog 91 := ⟨fun args w => by kernel_rfl⟩
instance : Enters Tryz.prog 92 := ⟨fun args w => by kernel_rfl⟩
instance : Enters Tryz.prog 93 := ⟨fun args w => by kernel_rfl⟩
instance : Enters Tryz.prog 95 := ⟨fun args w => by kernel_rfl⟩
instance : Enters Tryz.prog 96 := ⟨fun args w => by kernel_rfl⟩
instance : Enters Tryz.prog 97 := ⟨fun args w => by kernel_rfl⟩
instance : Enters Tryz.prog 98 := ⟨fun args w => by kernel_rfl⟩
instance : Enters Tryz.prog 99 := ⟨fun args w => by kernel_rfl⟩
instance : Enters Tryz.prog 100 := ⟨fun args w => by kernel_rfl⟩
instance : Enters Tryz.prog 101 := ⟨fun args w => by kernel_rfl⟩
instance : Enters Tryz.prog 102 := ⟨fun args w => by kernel_rfl⟩
instance : Enters Tryz.prog 103 := ⟨fun args w => by kernel_rfl⟩
instance : Enters Tryz.prog 104 := ⟨fun args w => by kernel_rfl⟩
instance : Enters Tryz.prog 105 := ⟨fun args w => by kernel_rfl⟩
instance : Enters Tryz.prog 106 := ⟨fun args w => by kernel_rfl⟩
instance : Enters Tryz.prog 107 := ⟨fun args w => by kernel_rfl⟩
instance : Enters Tryz.prog 108 := ⟨fun args w => by kernel_rfl⟩
instance : Enters Tryz.prog 109 := ⟨fun args w => by kernel_rfl⟩
instance : Enters Tryz.prog 110 := ⟨fun args w => by kernel_rfl⟩
instance : Enters Tryz.prog 111 := ⟨fun args w => by kernel_rfl⟩
instance : Enters Tryz.prog 112 := ⟨fun args w => by kernel_rfl⟩
instance : Enters Tryz.prog 113 := ⟨fun args w => by kernel_rfl⟩
instance : Enters Tryz.prog 114 := ⟨fun args w => by kernel_rfl⟩
instance : Enters Tryz.prog 115 := ⟨fun args w => by kernel_rfl⟩
instance : Enters Tryz.prog 116 := ⟨fun args w => by kernel_rfl⟩
instance : Enters Tryz.prog 121 := ⟨fun args w => by kernel_rfl⟩
instance : Enters Tryz.prog 122 := ⟨fun args w => by kernel_rfl⟩
instance : Enters Tryz.prog 124 := ⟨fun args w => by kernel_rfl⟩
instance : Enters Tryz.prog 125 := ⟨fun args w => by kernel_rfl⟩
instance : Enters Tryz.prog 126 := ⟨fun args w => by kernel_rfl⟩
instance : Enters Tryz.prog 128 := ⟨fun args w => by kernel_rfl⟩
instance : Enters Tryz.prog 138 := ⟨fun args w => by kernel_rfl⟩
instance : Enters Tryz.prog 139 := ⟨fun args w => by kernel_rfl⟩
instance : Enters Tryz.prog 140 := ⟨fun args w => by kernel_rfl⟩
instance : Enters Tryz.prog 141 := ⟨fun args w => by kernel_rfl⟩
instance : Enters Tryz.prog 171 := ⟨fun args w => by kernel_rfl⟩
instance : Enters Tryz.prog 173 := ⟨fun args w => by kernel_rfl⟩
instance : Enters Tryz.prog 178 := ⟨fun args w => by kernel_rfl⟩
instance : Enters Tryz.prog 185 := ⟨fun args w => by kernel_rfl⟩
instance : Enters Tryz.prog 186 := ⟨fun args w => by kernel_rfl⟩
instance : Enters Tryz.prog 187 := ⟨fun args w => by kernel_rfl⟩
instance : Enters Tryz.prog 188 := ⟨fun args w => by kernel_rfl⟩
instance : Enters Tryz.prog 197 := ⟨fun args w => by kernel_rfl⟩
instance : Enters Tryz.prog 198 := ⟨fun args w => by kernel_rfl⟩
instance : Enters Tryz.prog 203 := ⟨fun args w => by kernel_rfl⟩
instance : Enters Tryz.prog 204 := ⟨fun args w => by kernel_rfl⟩
instance : Enters Tryz.prog 205 := ⟨fun args w => by kernel_rfl⟩
instance : Enters Tryz.prog 206 := ⟨fun args w => by kernel_rfl⟩
instance : Enters Tryz.prog 207 := ⟨fun args w => by kernel_rfl⟩
end Go.Proofs
end
section
namespace Go
namespace Eng
/-- the parts of all of a list -/
def bs {α : Type} (A : α → SL) : List α → SL
  | [] => fun _ => True
  | x :: l => star (A x) (bs A l)
section
variable {α : Type} {A : α → SL} {W w : World} {s : List SL} {x : α} {l l1 l2 : List α}
theorem St.bs_nil (h : St W s w) : St W (bs A [] :: s) w :=
  ⟨h.os, h.tape, h.output, h.size, fun _ => none, hp w, trivial, h.sat, fun _ => .inl rfl, (fun _ _ e => by cases e), Eng.sub.refl _⟩
theorem St.bs_cons (h : St W (A x :: bs A l :: s) w) : St W (bs A (x :: l) :: s) w := h.shut_star
theorem St.bs_open (h : St W (bs A (x :: l) :: s) w) : St W (A x :: bs A l :: s) w := h.open_star
theorem St.bs_out : ∀ {l1 : List α} {s : List SL}, St W (bs A (l1 ++ x :: l2) :: s) w → St W (A x :: bs A (l1 ++ l2) :: s) w
  | [], _, h => h.bs_open
  | y :: l1, s, h => by
    have h1 : St W (bs A (l1 ++ x :: l2) :: A y :: s) w := (St.bs_open (x := y) h).swap
    have h2 := St.bs_out h1
    have h3 : St W (A y :: bs A (l1 ++ l2) :: A x :: s) w := h2.tk3 (A y) (bs A (l1 ++ l2)) (A x)
    exact (St.bs_cons h3).swap
theorem St.bs_in : ∀ {l1 : List α} {s : List SL}, St W (A x :: bs A (l1 ++ l2) :: s) w → St W (bs A (l1 ++ x :: l2) :: s) w
  | [], _, h => h.bs_cons
  | y :: l1, s, h => by
    have h1 : St W (A y :: bs A (l1 ++ l2) :: A x :: s) w := (St.bs_open (x := y) h.swap).tk3 (A y) (bs A (l1 ++ l2)) (A x)
    have h2 : St W (A x :: bs A (l1 ++ l2) :: A y :: s) w := h1.tk3 (A x) (bs A (l1 ++ l2)) (A y)
    have h3 := St.bs_in h2
    exact St.bs_cons h3.swap
end
/-- 'm[k] = v' and 'm[k]', of a list of entries with more in it -/
theorem mget_split {β : Type} (f : β → List UInt8) (g : β → Value) {k : List UInt8} : ∀ {l : List β}, (mget (l.map fun e => (f e, g e)) k = none ∧ (∀ v, mset (l.map fun e => (f e, g e)) k v = (l.map fun e => (f e, g e)) ++ [(k, v)]) ∧ ∀ e ∈ l, f e ≠ k) ∨
    ∃ l1 e l2, l = l1 ++ e :: l2 ∧ f e = k ∧ (∀ e ∈ l1, f e ≠ k) ∧ mget (l.map fun e => (f e, g e)) k = some (g e) ∧ (∀ v, mset (l.map fun e => (f e, g e)) k v = (l1.map fun e => (f e, g e)) ++ (k, v) :: (l2.map fun e => (f e, g e))) ∧ mdel (l.map fun e => (f e, g e)) k = ((l1 ++ l2).map fun e => (f e, g e))
  | [] => .inl ⟨rfl, fun _ => rfl, fun _ h => by cases h⟩
  | e :: l => by
    by_cases h : f e = k
    · right
      exact ⟨[], e, l, rfl, h, (fun _ h => by cases h), by simp [mget, h], fun v => by simp [mset, h], by simp [mdel, h]⟩
    · rcases mget_split f g (k := k) (l := l) with ⟨h1, h2, h3⟩ | ⟨l1, e1, l2, h1, h2, h3, h4, h5, h6⟩
      · left
        refine ⟨by simp [mget, h, h1], fun v => by simp [mset, h, h2 v], fun e' he' => ?_⟩
        rcases List.mem_cons.1 he' with rfl | he'
        · exact h
        · exact h3 _ he'
      · right
        subst h1
        refine ⟨e :: l1, e1, l2, rfl, h2, fun e' he' => ?_, ?_, fun v => ?_, ?_⟩
        · rcases List.mem_cons.1 he' with rfl | he'
          · exact h
          · exact h3 _ he'
        · simpa [mget, h] using h4
        · have := h5 v; simp only [List.map_cons, mset, h, if_false, this]; simp
        · simp only [List.map_cons, mdel, h, if_false, h6]; simp
theorem St.bs_perm {α : Type} {A : α → SL} {W w : World} {l l' : List α} (p : l.Perm l') : ∀ {s : List SL}, St W (bs A l :: s) w → St W (bs A l' :: s) w := by
  induction p with
  | nil => exact fun h => h
  | cons x _ ih => exact fun h => St.bs_cons ((ih h.bs_open.swap).swap)
  | swap x y l =>
    intro s h
    have h1 := h.bs_open
    have h3 : St W (A y :: bs A l :: A x :: s) w := (St.bs_open h1.swap).tk3 (A y) (bs A l) (A x)
    exact St.bs_cons ((St.bs_cons h3).swap)
  | trans _ _ ih1 ih2 => exact fun h => ih2 (ih1 h)

/-! results that lie in memory -/
section
variable {P : Program} {W w : World} {s : List SL} {a : Act} {fn : Func} {R : Ending → World → Prop} {N : Nat} {f : Ev} {v u : Value} {b off : Nat} {l : List Value} {E : TypeId} {fz : Nat × Nat}
theorem run_loadN {t n : Nat} [ht : AggT P t n] (hS : St W s w) [hm : HasCel s b l E fz] (ho : off + n ≤ l.length) : (loadVar t ⟨b, off, none⟩).run P w = .ok (.agg ((l.drop off).take n).toArray) w := by
  have h : (loadCells ⟨b, off, none⟩ ((l.drop off).take n).length).run P w = .ok ((l.drop off).take n).toArray w := run_loadCells_list w ⟨b, off, none⟩ ((l.drop off).take n) (fun j v hj => by
    rw [add_addr]
    have hlt := (List.getElem?_eq_some_iff.1 hj).1
    rw [List.length_take, List.length_drop] at hlt
    rw [List.getElem?_take_of_lt (by omega), List.getElem?_drop] at hj
    exact hS.cell (b := b) hj)
  rw [List.length_take, List.length_drop, Nat.min_eq_left (by omega)] at h
  simp only [loadVar, Sem.run_bind, Sem.run_pure, Result.andThen_ok, ht.agg, if_true, ht.size, h]
theorem run_load1 {t : TypeId} [ht : OneCell P t] (hS : St W s w) [hm : HasCel s b l E fz] (hv : l[off]? = some v) : (loadVar t ⟨b, off, none⟩).run P w = .ok v w := by
  simp [loadVar, ht.agg, hS.cell (b := b) hv]
theorem kretc1 {t : Tmp} {T : TypeId} (hE : Env N f a) (hr : fn.results = #[.cell t T]) (ht : f t = some (ptr b off)) (hl : (loadVar T ⟨b, off, none⟩).run P w = .ok v w) (hR : R (.returned v) w) : rets P fn R a w := by
  refine ⟨hE.defers, v, ?_, hR⟩
  have h1 := hE.get _ _ ht
  simp [results, hr, h1, asAddr, hl]
theorem kretc2 {t x : Tmp} {T : TypeId} (hE : Env N f a) (hr : fn.results = #[.cell t T, .tmp x]) (ht : f t = some (ptr b off)) (hx : f x = some u) (hl : (loadVar T ⟨b, off, none⟩).run P w = .ok v w) (hR : R (.returned (.tuple #[v, u])) w) : rets P fn R a w := by
  refine ⟨hE.defers, .tuple #[v, u], ?_, hR⟩
  have h1 := hE.get _ _ ht
  have h2 := hE.get _ _ hx
  simp [results, hr, h1, h2, asAddr, hl]
end
theorem rQuoN {P : Program} {W : World} {s : List SL} {f : Ev} {x y : Operand} {m n r : Nat} {t t' : TypeId} (hx : opv f x = some (.int .i64 (m : Int))) (hy : opv f y = some (.int .i64 (n : Int))) (hn0 : n ≠ 0) (hm : m ≤ 9223372036854775807) (hr : m / n = r) :
    Reads P W s f (.binOp .quo t x y t') (.int .i64 (r : Int)) := fun N a w dst ty pos aft hE hS => by
  subst hr
  simp only [execOp, hE.eval hx, hE.eval hy]; refine run_v ?_
  have h1 : ((m : Int).tdiv (n : Int)) = ((m / n : Nat) : Int) := by rw [Int.natCast_ediv]; exact Int.tdiv_eq_ediv_of_nonneg (by omega)
  have h2 : m / n ≤ m := Nat.div_le_self ..
  have h3 : IntKind.i64.wrap ((m / n : Nat) : Int) = ((m / n : Nat) : Int) := by
    generalize m / n = q at h2
    exact w64 (by omega) (by omega)
  simp [eqGuard, binOp, Op.intDiv, hn0]
  rw [Int.natCast_ediv] at h3
  exact h3
end Eng
end Go
end

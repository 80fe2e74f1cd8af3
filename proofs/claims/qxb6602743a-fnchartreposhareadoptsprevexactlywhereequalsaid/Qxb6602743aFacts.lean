/-
  THREE CLOSED FACTS OF THE PROGRAM, each of which wants much of the memory that a process may take: so each is a theorem of its own, and the rows' builder is handed the parts.
-/
import Derived.Test.Qxb6602743aRows
import Derived.JoinedOf
namespace Go.Proofs.Qxb6602743a
set_option maxRecDepth 100000
theorem factEnter : Try.prog.mayEnter = true := by kernel_rfl
theorem factLifted : (Rows.fnChartrepoDecimalMatchesParseRenderRow.lifted == Try.prog.liftsFinal) = true := by kernel_rfl
theorem factMake : (Try.prog.make == some Rows.fnChartrepoDecimalMatchesParseRenderRow.make) = true := by kernel_rfl
theorem band {a b : Bool} (ha : a = true) (hb : b = true) : (a && b) = true := by rw [ha, hb]; rfl
end Go.Proofs.Qxb6602743a

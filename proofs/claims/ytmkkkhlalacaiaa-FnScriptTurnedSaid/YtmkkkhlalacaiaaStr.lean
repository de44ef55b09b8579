/- Tests of strings, as run equations. -/
import Derived.Test.YtmkkkhlalacaiaaLook
import Derived.Laws.StructEq
namespace Go.Proofs.Ytmkkkhlalacaiaa
open Go.RowKit

theorem run_eq_str (kd c : ByteArray) (w : World) : (binOp .neq 9 (.string kd) (.string c)).run Try.prog w = .ok (.bool (!(kd.toList == c.toList))) w ∧ (binOp .eql 9 (.string kd) (.string c)).run Try.prog w = .ok (.bool (kd.toList == c.toList)) w := by
  constructor
  · simp only [binOp]; simp [Op.stringOp, go_sem]
  · simp only [binOp]; simp [Op.stringOp, go_sem]

end Go.Proofs.Ytmkkkhlalacaiaa

/- The facts of the program that the row of fnNfsClientRead names, one by one: their walks over the program are long. -/
import Derived.Test.YtgeaomghbiamgaaGreatDoorRows
import Derived.ProofKit
import Derived.JoinedOf
set_option linter.unusedVariables false
namespace Go.Proofs.YtgeaomghbiamgaaGreatDoor
open Go.ChangeShapes Go.WideShapes Go.ChangeAt Go.RowKit

set_option maxHeartbeats 100000000 in
theorem facts5 : joinedFacts Tryz.pinned.checked.prog 5 Tryz.f5 Rows.fnNfsClientReadSpec Rows.fnNfsClientReadRow = true := by
  unfold joinedFacts
  simp only [Bool.and_eq_true]
  repeat' (refine And.intro ?_ ?_)
  all_goals (as_aux_lemma => kernel_rfl)

end Go.Proofs.YtgeaomghbiamgaaGreatDoor

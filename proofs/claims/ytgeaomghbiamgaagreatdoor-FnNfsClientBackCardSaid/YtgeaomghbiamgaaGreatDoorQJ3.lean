/- The facts of the program that the row of fnNfsClientBack names, one by one: their walks over the program are long. -/
import Derived.Test.YtgeaomghbiamgaaGreatDoorRows
import Derived.ProofKit
import Derived.JoinedOf
set_option linter.unusedVariables false
namespace Go.Proofs.YtgeaomghbiamgaaGreatDoor
open Go.ChangeShapes Go.WideShapes Go.ChangeAt Go.RowKit

set_option maxHeartbeats 100000000 in
theorem facts3 : joinedFacts Tryz.pinned.checked.prog 3 Tryz.f3 Rows.fnNfsClientBackSpec Rows.fnNfsClientBackRow = true := by
  unfold joinedFacts
  simp only [Bool.and_eq_true]
  repeat' (refine And.intro ?_ ?_)
  all_goals (as_aux_lemma => kernel_rfl)

end Go.Proofs.YtgeaomghbiamgaaGreatDoor

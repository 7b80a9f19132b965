import Derived.Test.YtofmickjbpkgbaaGreatDoorRows
import Derived.ProofKit
namespace Go.Proofs.YtofmickjbpkgbaaGreatDoor
open Go.ChangeShapes Go.WideShapes Go.ChangeAt Go.RowKit
set_option maxRecDepth 100000
theorem and_intro' {a b : Bool} (ha : a = true) (hb : b = true) : (a && b) = true := by rw [ha, hb]; rfl
set_option maxHeartbeats 20000000 in
theorem facts1 : joinedFacts Tryz.pinned.checked.prog 3 Tryz.f3 Rows.fnFloatIntSpec Rows.fnFloatIntRow = true := by
  unfold joinedFacts
  simp only [Bool.and_eq_true]
  and_intros
  all_goals (as_aux_lemma => kernel_rfl)
end Go.Proofs.YtofmickjbpkgbaaGreatDoor

import Derived.Test.YtofmickjbpkgbaaGreatDoorRows
import Derived.ProofKit
set_option maxRecDepth 100000
namespace Go.Proofs.YtofmickjbpkgbaaGreatDoor
section
open Go.ChangeShapes Go.WideShapes Go.ChangeAt Go.RowKit
theorem and_intro4 {a b : Bool} (ha : a = true) (hb : b = true) : (a && b) = true := by rw [ha, hb]; rfl
set_option maxHeartbeats 20000000 in
theorem facts4 : joinedFacts Tryz.pinned.checked.prog 4 Tryz.f4 Rows.fnMarshalSpec Rows.fnMarshalRow = true := by
  unfold joinedFacts
  simp only [Bool.and_eq_true]
  and_intros
  all_goals (as_aux_lemma => kernel_rfl)
end

end Go.Proofs.YtofmickjbpkgbaaGreatDoor

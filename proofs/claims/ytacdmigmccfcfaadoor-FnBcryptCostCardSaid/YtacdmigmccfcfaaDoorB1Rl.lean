/- readLetters: run once. No condition. -/
import Derived.Test.YtacdmigmccfcfaaDoorB1Ok
import Derived.Test.YtacdmigmccfcfaaDoorEngD
namespace Go.Proofs.YtacdmigmccfcfaaDoor.E
set_option linter.unusedVariables false
set_option linter.unusedSimpArgs false
set_option linter.unusedSectionVars false
open Go.Eng
set_option maxRecDepth 100000 in
theorem run4 : verdict (goB noSpec noLoop 4 [] ⟨[], big, [], []⟩) = some (true, []) := by kernel_rfl
theorem letters (w : World) : Calls Tryd.prog 4 #[] w fun e w' => e = .returned (.bool true) ∧ Still w w' := by
  obtain ⟨β, hH, -⟩ := ro_heap (W := w) [] (fun p hp => by cases hp)
  exact run_law (goB_ok no_specs (no_loops _)) (args := []) (vs := []) run4 rfl (fun x hx => by cases hx) (.nil β) hH (fun b k h => by simp at h)
end Go.Proofs.YtacdmigmccfcfaaDoor.E

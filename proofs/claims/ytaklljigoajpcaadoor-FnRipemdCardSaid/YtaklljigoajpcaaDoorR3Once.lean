/- What is run once, without arguments. -/
import Derived.Test.YtaklljigoajpcaaDoorR3Ok
namespace Go.Proofs.YtaklljigoajpcaaDoor
open Go.Eng
set_option linter.unusedSectionVars false
variable [RowAddr]
theorem run8  : endsAs 0 (some []) [] (.bool (.c true)) (goB noSpec noLoop 8 [] ⟨[], big, [], []⟩) = some ([], (.bool (.c true)), []) := by kernel_rfl
def sp8 : Eng.Spec := fun args H dec =>
  match args with
  | [] =>
    match H with
    | [] => some ⟨.bool (.c true), [], dec, []⟩
    | _ => none
  | _ => none
theorem ok8 : SpecOk Tryd.prog noGlob 8 sp8 := by
  refine SpecOk.ends (goB_ok no_specs (no_loops _)) (fun args H dec r hr hc => ?_) (fun args H dec r hr i k hk hm => ?_)
  · unfold sp8 at hr
    split at hr
    case h_2 => cases hr
    split at hr
    case h_2 => cases hr
    injection hr with hr; subst hr
    exact ⟨[], [], _, _, [], some [], _, _, rfl, rfl, run8, all_true_nil, rfl⟩
  · unfold sp8 at hr
    split at hr
    case h_2 => cases hr
    split at hr
    case h_2 => cases hr
    injection hr with hr; subst hr
    simp at hk
end Go.Proofs.YtaklljigoajpcaaDoor

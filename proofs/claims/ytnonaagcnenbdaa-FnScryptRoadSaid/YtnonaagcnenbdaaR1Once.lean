/- What is run once, without arguments. -/
import Derived.Test.YtnonaagcnenbdaaR1Ok
import Derived.Test.YtnonaagcnenbdaaEngD
namespace Go.Proofs.Ytnonaagcnenbdaa
open Go.Eng
set_option linter.unusedSectionVars false
variable [RowAddr]
theorem run9  : endsAs 0 (some []) [] (.bool (.c true)) (goB noSpec noLoop 9 [] ⟨[], big, [], []⟩) = some ([], (.bool (.c true)), []) := by kernel_rfl
def sp9 : Eng.Spec := fun args H dec =>
  match args with
  | [] =>
    match H with
    | [] => some ⟨.bool (.c true), [], dec, []⟩
    | _ => none
  | _ => none
theorem ok9 : SpecOk Try.prog noGlob 9 sp9 := by
  refine SpecOk.ends (goB_ok no_specs (no_loops _)) (fun args H dec r hr hc => ?_) (fun args H dec r hr i k hk hm => ?_)
  · unfold sp9 at hr
    split at hr
    case h_2 => cases hr
    split at hr
    case h_2 => cases hr
    injection hr with hr; subst hr
    exact ⟨[], [], _, _, [], some [], _, _, rfl, rfl, run9, all_true_nil, rfl⟩
  · unfold sp9 at hr
    split at hr
    case h_2 => cases hr
    split at hr
    case h_2 => cases hr
    injection hr with hr; subst hr
    simp at hk
end Go.Proofs.Ytnonaagcnenbdaa

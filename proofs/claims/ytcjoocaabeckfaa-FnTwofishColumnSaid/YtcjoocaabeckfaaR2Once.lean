/- What is run once, without arguments. -/
import Derived.Test.YtcjoocaabeckfaaR2Ok
import Derived.Test.YtcjoocaabeckfaaEngD
namespace Go.Proofs.Ytcjoocaabeckfaa
open Go.Eng
theorem run18  : endsAs 0 (some []) [] (.bool (.c true)) (goB noSpec noLoop 18 [] ⟨[], big, [], []⟩) = some ([], (.bool (.c true)), []) := by kernel_rfl
def sp18 : Eng.Spec := fun args H dec =>
  match args with
  | [] =>
    match H with
    | [] => some ⟨.bool (.c true), [], dec, []⟩
    | _ => none
  | _ => none
theorem ok18 : SpecOk Try.prog noGlob 18 sp18 := by
  refine SpecOk.ends (goB_ok no_specs (no_loops _)) (fun args H dec r hr hc => ?_) (fun args H dec r hr i k hk hm => ?_)
  · unfold sp18 at hr
    split at hr
    case h_2 => cases hr
    split at hr
    case h_2 => cases hr
    injection hr with hr; subst hr
    exact ⟨[], [], _, _, [], some [], _, _, rfl, rfl, run18, all_true_nil, rfl⟩
  · unfold sp18 at hr
    split at hr
    case h_2 => cases hr
    split at hr
    case h_2 => cases hr
    injection hr with hr; subst hr
    simp at hk
def specs1 : FuncId → Option Eng.Spec
  | 18 => some sp18
  | _ => none
theorem specs1_ok : ∀ f sp, specs1 f = some sp → SpecOk Try.prog noGlob f sp := by
  intro f sp h
  unfold specs1 at h
  split at h
  · injection h with h; subst h; exact ok18
  · cases h
end Go.Proofs.Ytcjoocaabeckfaa

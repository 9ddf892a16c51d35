/- Contracts for what is refused. -/
import Derived.Test.YtcjoocaabeckfaaR2Tea2
namespace Go.Proofs.Ytcjoocaabeckfaa
open Go.Eng
def specsTN : FuncId → Option Eng.Spec
  | 15 => some spEqual
  | 18 => some sp18
  | _ => none
theorem specsTN_ok : ∀ f sp, specsTN f = some sp → SpecOk Try.prog noGlob f sp := by
  intro f sp h
  unfold specsTN at h
  split at h
  · injection h with h; subst h; exact okEqual
  · injection h with h; subst h; exact ok18
  · cases h
end Go.Proofs.Ytcjoocaabeckfaa

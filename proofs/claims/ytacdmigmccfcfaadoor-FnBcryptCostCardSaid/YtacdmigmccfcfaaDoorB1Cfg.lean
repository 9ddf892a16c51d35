/- The seat's annotations for the interpreter. -/
import Derived.Test.YtacdmigmccfcfaaDoorEngD
import Derived.Test.YtacdmigmccfcfaaDoorProg
import Derived.KernelRfl
namespace Go.Proofs.YtacdmigmccfcfaaDoor.E
set_option linter.unusedVariables false
set_option linter.unusedSimpArgs false
set_option linter.unusedSectionVars false
open Go.Eng
instance : RowAddr := ⟨fun _ => (0, 0)⟩
def noGlob : Nat → Option (List AV) := fun _ => none
def nv : Nat → Nat
  | 4 => 1 | 7 => 6 | 8 => 3 | 11 => 3 | 15 => 5 | 24 => 1 | 25 => 5 | 26 => 132 | 31 => 43 | _ => 0
def keep : Nat → List Nat
  | 7 => [10, 14, 25] | 15 => [20] | 25 => [9] | 26 => [178] | _ => []
def dyn : Nat → Nat → Bool
  | _, _ => false
def scope (f : Nat) : Bool := elemN f [4, 7, 8, 11, 15, 24, 25, 26, 31]

def meth (t : Nat) (m : String) : Option FuncId :=
  none
noncomputable def cfg (spec : FuncId → Option Eng.Spec) (loop : FuncId → Nat → Option LSpec) : Cfg := { P := Tryd.prog, glob := noGlob, nv := nv, keep := keep, dyn := dyn, spec := spec, loop := loop, scope := scope, meth := meth }
def noSpec : FuncId → Option Eng.Spec := fun _ => none
def noLoop : FuncId → Nat → Option LSpec := fun _ _ => none
theorem fnOk_any (spec : FuncId → Option Eng.Spec) (loop : FuncId → Nat → Option LSpec) (f : FuncId) : fnOk (cfg spec loop) f = fnOk (cfg noSpec noLoop) f := rfl
/-- The check of a function, as it is handed about. -/
def Fine (f : FuncId) : Prop := fnOk (cfg noSpec noLoop) f = true
theorem mixed : Tryd.prog.follows .mixedOrders = true := by kernel_rfl

theorem methOk : MethOk Tryd.prog meth := by
  intro t m f h v w
  unfold meth at h
  cases h
end Go.Proofs.YtacdmigmccfcfaaDoor.E

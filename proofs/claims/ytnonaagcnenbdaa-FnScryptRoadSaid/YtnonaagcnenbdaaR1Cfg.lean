/- The seat's annotations for the interpreter. -/
import Derived.Test.YtnonaagcnenbdaaEngD
import Derived.Test.YtnonaagcnenbdaaProg
import Derived.KernelRfl
namespace Go.Proofs.Ytnonaagcnenbdaa
open Go.Eng
set_option linter.unusedSectionVars false
variable [RowAddr]
def nv : Nat → Nat
  | 3 => 7 | 4 => 5 | 5 => 5 | 6 => 15 | 7 => 10 | 8 => 3 | 9 => 3 | 10 => 6 | 11 => 8 | 12 => 7 | 13 => 5 | 14 => 8 | 15 => 6 | 16 => 5 | 17 => 9 | 18 => 5 | 19 => 3 | 20 => 10 | 21 => 6 | 22 => 6 | 23 => 7 | 24 => 3 | 25 => 10 | 26 => 3 | 27 => 21 | 28 => 7 | 29 => 39 | 30 => 5 | 31 => 9 | 32 => 5 | 33 => 5 | 34 => 3 | 35 => 6 | 36 => 8 | 37 => 3 | 38 => 6 | 39 => 12 | 40 => 8 | 41 => 3 | 42 => 5 | _ => 0
def keep : Nat → List Nat
  | 3 => [9, 27] | 5 => [7, 20] | 6 => [17, 35, 43, 84, 98, 101, 123, 145] | 7 => [12, 25, 40, 59, 65] | 10 => [10, 14, 25] | 12 => [32] | 14 => [9, 23] | 15 => [10, 14, 25] | 17 => [23, 27, 42] | 18 => [8] | 20 => [12, 23] | 22 => [8] | 25 => [20, 28, 47] | 27 => [29, 44, 74, 120, 121, 122, 119] | 28 => [16] | 29 => [184] | 30 => [6, 26] | 31 => [22] | 32 => [6] | 36 => [11, 12, 13, 10] | 40 => [12] | _ => []
def dyn : Nat → Nat → Bool
  | 4, 1 => true | 25, 10 => true | 39, 2 => true | 40, 6 => true | 41, 1 => true | 41, 2 => true | 41, 3 => true | 41, 4 => true | _, _ => false
def scope (f : Nat) : Bool := elemN f [3, 4, 5, 6, 7, 8, 9, 10, 11, 12, 13, 14, 15, 16, 17, 18, 19, 20, 21, 22, 23, 24, 25, 26, 27, 28, 29, 30, 31, 32, 33, 34, 35, 36, 37, 38, 39, 40, 41, 42]

def meth (t : Nat) (m : String) : Option FuncId :=
  none
noncomputable def cfg (spec : FuncId → Option Eng.Spec) (loop : FuncId → Nat → Option LSpec) : Cfg := { P := Try.prog, glob := noGlob, nv := nv, keep := keep, dyn := dyn, spec := spec, loop := loop, scope := scope, meth := meth }
def noSpec : FuncId → Option Eng.Spec := fun _ => none
def noLoop : FuncId → Nat → Option LSpec := fun _ _ => none
theorem fnOk_any (spec : FuncId → Option Eng.Spec) (loop : FuncId → Nat → Option LSpec) (f : FuncId) : fnOk (cfg spec loop) f = fnOk (cfg noSpec noLoop) f := rfl
/-- The check of a function, as it is handed about. -/
def Fine (f : FuncId) : Prop := fnOk (cfg noSpec noLoop) f = true
theorem mixed : Try.prog.follows .mixedOrders = true := by kernel_rfl

theorem methOk : MethOk Try.prog meth := by
  intro t m f h v w
  unfold meth at h
  cases h
end Go.Proofs.Ytnonaagcnenbdaa

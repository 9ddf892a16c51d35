/- The seat's annotations for the interpreter. -/
import Derived.Test.YtlelgligkkegnaaEngD
import Derived.Test.YtlelgligkkegnaaProg
import Derived.KernelRfl
namespace Go.Proofs.Ytlelgligkkegnaa
open Go.Eng
instance : RowAddr := ⟨fun _ => (0, 0)⟩
def noGlob : Nat → Option (List AV) := fun _ => none
def nv : Nat → Nat
  | 3 => 6 | 4 => 1 | 5 => 3 | 6 => 6 | 7 => 8 | 8 => 6 | 9 => 3 | 10 => 4 | 11 => 5 | 12 => 9 | 13 => 1 | 14 => 5 | 15 => 9 | 16 => 5 | 17 => 18 | 18 => 5 | 19 => 5 | 20 => 18 | 21 => 2 | 22 => 200 | 23 => 10 | 24 => 2 | _ => 0
def keep : Nat → List Nat
  | 3 => [8, 16, 24, 28] | 6 => [10, 14, 25] | 7 => [13, 17, 30] | 11 => [20] | 12 => [15, 34] | 14 => [9] | 15 => [11, 18, 82, 116, 178, 131, 85, 83] | 17 => [20, 38, 137, 112, 151, 218, 193, 224, 240] | 18 => [7, 27, 42, 30] | 19 => [6] | 20 => [33] | 22 => [218, 241] | 23 => [17] | _ => []
def dyn : Nat → Nat → Bool
  | _, _ => false
def scope (f : Nat) : Bool := elemN f [3, 4, 5, 6, 7, 8, 9, 10, 11, 12, 13, 14, 15, 16, 17, 18, 19, 20, 21, 22, 23, 24]

def meth (t : Nat) (m : String) : Option FuncId :=
  none
noncomputable def cfg (spec : FuncId → Option Eng.Spec) (loop : FuncId → Nat → Option LSpec) : Cfg := { P := Try.prog, glob := noGlob, nv := nv, keep := keep, dyn := dyn, spec := spec, loop := loop, scope := scope, meth := meth }
def noSpec : FuncId → Option Eng.Spec := fun _ => none
def noLoop : FuncId → Nat → Option LSpec := fun _ _ => none
theorem fnOk_any (spec : FuncId → Option Eng.Spec) (loop : FuncId → Nat → Option LSpec) (f : FuncId) : fnOk (cfg spec loop) f = fnOk (cfg noSpec noLoop) f := rfl
/-- The check of a function, as it is handed about. -/
def Fine (f : FuncId) : Prop := fnOk (cfg noSpec noLoop) f = true
theorem mixed : Try.prog.follows .mixedOrders = true := by kernel_rfl

theorem methOk : MethOk Try.prog meth := by
  intro t m f h v w
  unfold meth at h
  cases h
end Go.Proofs.Ytlelgligkkegnaa

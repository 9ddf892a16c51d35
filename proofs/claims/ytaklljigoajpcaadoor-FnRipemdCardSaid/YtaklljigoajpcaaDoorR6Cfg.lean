/- The seat's annotations for the interpreter. -/
import Derived.Test.YtaklljigoajpcaaDoorEngD
import Derived.Test.YtaklljigoajpcaaDoorProg
import Derived.KernelRfl
namespace Go.Proofs.YtaklljigoajpcaaDoor.D
open Go.Eng
set_option linter.unusedSectionVars false
variable [RowAddr]
def tabN : List AV := [.int .u64 (.c 0), .int .u64 (.c 1), .int .u64 (.c 2), .int .u64 (.c 3), .int .u64 (.c 4), .int .u64 (.c 5), .int .u64 (.c 6), .int .u64 (.c 7), .int .u64 (.c 8), .int .u64 (.c 9), .int .u64 (.c 10), .int .u64 (.c 11), .int .u64 (.c 12), .int .u64 (.c 13), .int .u64 (.c 14), .int .u64 (.c 15), .int .u64 (.c 7), .int .u64 (.c 4), .int .u64 (.c 13), .int .u64 (.c 1), .int .u64 (.c 10), .int .u64 (.c 6), .int .u64 (.c 15), .int .u64 (.c 3), .int .u64 (.c 12), .int .u64 (.c 0), .int .u64 (.c 9), .int .u64 (.c 5), .int .u64 (.c 2), .int .u64 (.c 14), .int .u64 (.c 11), .int .u64 (.c 8), .int .u64 (.c 3), .int .u64 (.c 10), .int .u64 (.c 14), .int .u64 (.c 4), .int .u64 (.c 9), .int .u64 (.c 15), .int .u64 (.c 8), .int .u64 (.c 1), .int .u64 (.c 2), .int .u64 (.c 7), .int .u64 (.c 0), .int .u64 (.c 6), .int .u64 (.c 13), .int .u64 (.c 11), .int .u64 (.c 5), .int .u64 (.c 12), .int .u64 (.c 1), .int .u64 (.c 9), .int .u64 (.c 11), .int .u64 (.c 10), .int .u64 (.c 0), .int .u64 (.c 8), .int .u64 (.c 12), .int .u64 (.c 4), .int .u64 (.c 13), .int .u64 (.c 3), .int .u64 (.c 7), .int .u64 (.c 15), .int .u64 (.c 14), .int .u64 (.c 5), .int .u64 (.c 6), .int .u64 (.c 2), .int .u64 (.c 4), .int .u64 (.c 0), .int .u64 (.c 5), .int .u64 (.c 9), .int .u64 (.c 7), .int .u64 (.c 12), .int .u64 (.c 2), .int .u64 (.c 10), .int .u64 (.c 14), .int .u64 (.c 1), .int .u64 (.c 3), .int .u64 (.c 8), .int .u64 (.c 11), .int .u64 (.c 6), .int .u64 (.c 15), .int .u64 (.c 13)]
def tabN2 : List AV := [.int .u64 (.c 5), .int .u64 (.c 14), .int .u64 (.c 7), .int .u64 (.c 0), .int .u64 (.c 9), .int .u64 (.c 2), .int .u64 (.c 11), .int .u64 (.c 4), .int .u64 (.c 13), .int .u64 (.c 6), .int .u64 (.c 15), .int .u64 (.c 8), .int .u64 (.c 1), .int .u64 (.c 10), .int .u64 (.c 3), .int .u64 (.c 12), .int .u64 (.c 6), .int .u64 (.c 11), .int .u64 (.c 3), .int .u64 (.c 7), .int .u64 (.c 0), .int .u64 (.c 13), .int .u64 (.c 5), .int .u64 (.c 10), .int .u64 (.c 14), .int .u64 (.c 15), .int .u64 (.c 8), .int .u64 (.c 12), .int .u64 (.c 4), .int .u64 (.c 9), .int .u64 (.c 1), .int .u64 (.c 2), .int .u64 (.c 15), .int .u64 (.c 5), .int .u64 (.c 1), .int .u64 (.c 3), .int .u64 (.c 7), .int .u64 (.c 14), .int .u64 (.c 6), .int .u64 (.c 9), .int .u64 (.c 11), .int .u64 (.c 8), .int .u64 (.c 12), .int .u64 (.c 2), .int .u64 (.c 10), .int .u64 (.c 0), .int .u64 (.c 4), .int .u64 (.c 13), .int .u64 (.c 8), .int .u64 (.c 6), .int .u64 (.c 4), .int .u64 (.c 1), .int .u64 (.c 3), .int .u64 (.c 11), .int .u64 (.c 15), .int .u64 (.c 0), .int .u64 (.c 5), .int .u64 (.c 12), .int .u64 (.c 2), .int .u64 (.c 13), .int .u64 (.c 9), .int .u64 (.c 7), .int .u64 (.c 10), .int .u64 (.c 14), .int .u64 (.c 12), .int .u64 (.c 15), .int .u64 (.c 10), .int .u64 (.c 4), .int .u64 (.c 1), .int .u64 (.c 5), .int .u64 (.c 8), .int .u64 (.c 7), .int .u64 (.c 6), .int .u64 (.c 2), .int .u64 (.c 13), .int .u64 (.c 14), .int .u64 (.c 0), .int .u64 (.c 3), .int .u64 (.c 9), .int .u64 (.c 11)]
def tabR : List AV := [.int .u64 (.c 11), .int .u64 (.c 14), .int .u64 (.c 15), .int .u64 (.c 12), .int .u64 (.c 5), .int .u64 (.c 8), .int .u64 (.c 7), .int .u64 (.c 9), .int .u64 (.c 11), .int .u64 (.c 13), .int .u64 (.c 14), .int .u64 (.c 15), .int .u64 (.c 6), .int .u64 (.c 7), .int .u64 (.c 9), .int .u64 (.c 8), .int .u64 (.c 7), .int .u64 (.c 6), .int .u64 (.c 8), .int .u64 (.c 13), .int .u64 (.c 11), .int .u64 (.c 9), .int .u64 (.c 7), .int .u64 (.c 15), .int .u64 (.c 7), .int .u64 (.c 12), .int .u64 (.c 15), .int .u64 (.c 9), .int .u64 (.c 11), .int .u64 (.c 7), .int .u64 (.c 13), .int .u64 (.c 12), .int .u64 (.c 11), .int .u64 (.c 13), .int .u64 (.c 6), .int .u64 (.c 7), .int .u64 (.c 14), .int .u64 (.c 9), .int .u64 (.c 13), .int .u64 (.c 15), .int .u64 (.c 14), .int .u64 (.c 8), .int .u64 (.c 13), .int .u64 (.c 6), .int .u64 (.c 5), .int .u64 (.c 12), .int .u64 (.c 7), .int .u64 (.c 5), .int .u64 (.c 11), .int .u64 (.c 12), .int .u64 (.c 14), .int .u64 (.c 15), .int .u64 (.c 14), .int .u64 (.c 15), .int .u64 (.c 9), .int .u64 (.c 8), .int .u64 (.c 9), .int .u64 (.c 14), .int .u64 (.c 5), .int .u64 (.c 6), .int .u64 (.c 8), .int .u64 (.c 6), .int .u64 (.c 5), .int .u64 (.c 12), .int .u64 (.c 9), .int .u64 (.c 15), .int .u64 (.c 5), .int .u64 (.c 11), .int .u64 (.c 6), .int .u64 (.c 8), .int .u64 (.c 13), .int .u64 (.c 12), .int .u64 (.c 5), .int .u64 (.c 12), .int .u64 (.c 13), .int .u64 (.c 14), .int .u64 (.c 11), .int .u64 (.c 8), .int .u64 (.c 5), .int .u64 (.c 6)]
def tabR2 : List AV := [.int .u64 (.c 8), .int .u64 (.c 9), .int .u64 (.c 9), .int .u64 (.c 11), .int .u64 (.c 13), .int .u64 (.c 15), .int .u64 (.c 15), .int .u64 (.c 5), .int .u64 (.c 7), .int .u64 (.c 7), .int .u64 (.c 8), .int .u64 (.c 11), .int .u64 (.c 14), .int .u64 (.c 14), .int .u64 (.c 12), .int .u64 (.c 6), .int .u64 (.c 9), .int .u64 (.c 13), .int .u64 (.c 15), .int .u64 (.c 7), .int .u64 (.c 12), .int .u64 (.c 8), .int .u64 (.c 9), .int .u64 (.c 11), .int .u64 (.c 7), .int .u64 (.c 7), .int .u64 (.c 12), .int .u64 (.c 7), .int .u64 (.c 6), .int .u64 (.c 15), .int .u64 (.c 13), .int .u64 (.c 11), .int .u64 (.c 9), .int .u64 (.c 7), .int .u64 (.c 15), .int .u64 (.c 11), .int .u64 (.c 8), .int .u64 (.c 6), .int .u64 (.c 6), .int .u64 (.c 14), .int .u64 (.c 12), .int .u64 (.c 13), .int .u64 (.c 5), .int .u64 (.c 14), .int .u64 (.c 13), .int .u64 (.c 13), .int .u64 (.c 7), .int .u64 (.c 5), .int .u64 (.c 15), .int .u64 (.c 5), .int .u64 (.c 8), .int .u64 (.c 11), .int .u64 (.c 14), .int .u64 (.c 14), .int .u64 (.c 6), .int .u64 (.c 14), .int .u64 (.c 6), .int .u64 (.c 9), .int .u64 (.c 12), .int .u64 (.c 9), .int .u64 (.c 12), .int .u64 (.c 5), .int .u64 (.c 15), .int .u64 (.c 8), .int .u64 (.c 8), .int .u64 (.c 5), .int .u64 (.c 12), .int .u64 (.c 9), .int .u64 (.c 12), .int .u64 (.c 5), .int .u64 (.c 14), .int .u64 (.c 6), .int .u64 (.c 8), .int .u64 (.c 13), .int .u64 (.c 6), .int .u64 (.c 5), .int .u64 (.c 15), .int .u64 (.c 13), .int .u64 (.c 11), .int .u64 (.c 11)]
/-- The package's variables. -/
def noGlob : Nat → Option (List AV)
  | 0 => some tabN
  | 2 => some tabN2
  | 4 => some tabR
  | 6 => some tabR2
  | _ => none
def nv : Nat → Nat
  | 3 => 3 | 8 => 1 | 9 => 6 | 10 => 4 | 11 => 8 | 12 => 3 | 22 => 2 | 23 => 1 | 24 => 8 | 25 => 16 | 26 => 6 | 27 => 7 | 33 => 1 | 34 => 3 | 35 => 5 | 36 => 36 | 37 => 6 | 39 => 27 | 41 => 6 | 59 => 12 | 60 => 9 | _ => 0
def keep : Nat → List Nat
  | 3 => [5, 8] | 9 => [10, 14, 25] | 11 => [11, 12, 13, 10] | 24 => [19, 24, 37, 38, 39] | 25 => [19, 20, 24, 30, 85, 86] | 26 => [7, 8, 6] | 27 => [7, 8] | 39 => [29, 61, 98, 162, 231, 297, 366] | 59 => [20, 34, 48, 52, 53, 51] | 60 => [33, 41, 70, 24, 91] | _ => []
def dyn : Nat → Nat → Bool
  | 11, 7 => true | 25, 13 => true | 25, 14 => true | 27, 7 => true | _, _ => false
def scope (f : Nat) : Bool := elemN f [3, 8, 9, 10, 11, 12, 22, 23, 24, 25, 26, 27, 33, 34, 35, 36, 37, 39, 41, 59, 60]

def meth (t : Nat) (m : String) : Option FuncId :=
  if t = 65 ∧ m = "Write" then some 60 else
  if t = 65 ∧ m = "Sum" then some 59 else
  none
noncomputable def cfg (spec : FuncId → Option Eng.Spec) (loop : FuncId → Nat → Option LSpec) : Cfg := { P := Tryd.prog, glob := noGlob, nv := nv, keep := keep, dyn := dyn, spec := spec, loop := loop, scope := scope, meth := meth }
def noSpec : FuncId → Option Eng.Spec := fun _ => none
def noLoop : FuncId → Nat → Option LSpec := fun _ _ => none
theorem fnOk_any (spec : FuncId → Option Eng.Spec) (loop : FuncId → Nat → Option LSpec) (f : FuncId) : fnOk (cfg spec loop) f = fnOk (cfg noSpec noLoop) f := rfl
/-- The check of a function, as it is handed about. -/
def Fine (f : FuncId) : Prop := fnOk (cfg noSpec noLoop) f = true
theorem mixed : Tryd.prog.follows .mixedOrders = true := by kernel_rfl
theorem meth0 (v : Value) (w : World) : (method (Tryd.prog.types.size + Made.depth) 65 v "Write").run Tryd.prog w = .ok (60, v) w := by kernel_rfl
theorem meth1 (v : Value) (w : World) : (method (Tryd.prog.types.size + Made.depth) 65 v "Sum").run Tryd.prog w = .ok (59, v) w := by kernel_rfl
theorem methOk : MethOk Tryd.prog meth := by
  intro t m f h v w
  unfold meth at h
  split at h
  · rename_i e; obtain ⟨rfl, rfl⟩ := e; have h := Option.some.inj h; subst h; exact meth0 v w
  split at h
  · rename_i e; obtain ⟨rfl, rfl⟩ := e; have h := Option.some.inj h; subst h; exact meth1 v w
  cases h
end Go.Proofs.YtaklljigoajpcaaDoor.D

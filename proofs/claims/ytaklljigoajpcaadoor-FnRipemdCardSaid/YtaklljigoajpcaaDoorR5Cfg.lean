/- The seat's annotations for the interpreter. -/
import Derived.Test.YtaklljigoajpcaaDoorEngD
import Derived.Test.YtaklljigoajpcaaDoorProg
import Derived.KernelRfl
namespace Go.Proofs.YtaklljigoajpcaaDoor.B
open Go.Eng
set_option linter.unusedSectionVars false
variable [RowAddr]
def tabN : List AV := [.int .u64 (.c 0), .int .u64 (.c 1), .int .u64 (.c 2), .int .u64 (.c 3), .int .u64 (.c 4), .int .u64 (.c 5), .int .u64 (.c 6), .int .u64 (.c 7), .int .u64 (.c 8), .int .u64 (.c 9), .int .u64 (.c 10), .int .u64 (.c 11), .int .u64 (.c 12), .int .u64 (.c 13), .int .u64 (.c 14), .int .u64 (.c 15), .int .u64 (.c 7), .int .u64 (.c 4), .int .u64 (.c 13), .int .u64 (.c 1), .int .u64 (.c 10), .int .u64 (.c 6), .int .u64 (.c 15), .int .u64 (.c 3), .int .u64 (.c 12), .int .u64 (.c 0), .int .u64 (.c 9), .int .u64 (.c 5), .int .u64 (.c 2), .int .u64 (.c 14), .int .u64 (.c 11), .int .u64 (.c 8), .int .u64 (.c 3), .int .u64 (.c 10), .int .u64 (.c 14), .int .u64 (.c 4), .int .u64 (.c 9), .int .u64 (.c 15), .int .u64 (.c 8), .int .u64 (.c 1), .int .u64 (.c 2), .int .u64 (.c 7), .int .u64 (.c 0), .int .u64 (.c 6), .int .u64 (.c 13), .int .u64 (.c 11), .int .u64 (.c 5), .int .u64 (.c 12), .int .u64 (.c 1), .int .u64 (.c 9), .int .u64 (.c 11), .int .u64 (.c 10), .int .u64 (.c 0), .int .u64 (.c 8), .int .u64 (.c 12), .int .u64 (.c 4), .int .u64 (.c 13), .int .u64 (.c 3), .int .u64 (.c 7), .int .u64 (.c 15), .int .u64 (.c 14), .int .u64 (.c 5), .int .u64 (.c 6), .int .u64 (.c 2), .int .u64 (.c 4), .int .u64 (.c 0), .int .u64 (.c 5), .int .u64 (.c 9), .int .u64 (.c 7), .int .u64 (.c 12), .int .u64 (.c 2), .int .u64 (.c 10), .int .u64 (.c 14), .int .u64 (.c 1), .int .u64 (.c 3), .int .u64 (.c 8), .int .u64 (.c 11), .int .u64 (.c 6), .int .u64 (.c 15), .int .u64 (.c 13)]
def tabN2 : List AV := [.int .u64 (.c 5), .int .u64 (.c 14), .int .u64 (.c 7), .int .u64 (.c 0), .int .u64 (.c 9), .int .u64 (.c 2), .int .u64 (.c 11), .int .u64 (.c 4), .int .u64 (.c 13), .int .u64 (.c 6), .int .u64 (.c 15), .int .u64 (.c 8), .int .u64 (.c 1), .int .u64 (.c 10), .int .u64 (.c 3), .int .u64 (.c 12), .int .u64 (.c 6), .int .u64 (.c 11), .int .u64 (.c 3), .int .u64 (.c 7), .int .u64 (.c 0), .int .u64 (.c 13), .int .u64 (.c 5), .int .u64 (.c 10), .int .u64 (.c 14), .int .u64 (.c 15), .int .u64 (.c 8), .int .u64 (.c 12), .int .u64 (.c 4), .int .u64 (.c 9), .int .u64 (.c 1), .int .u64 (.c 2), .int .u64 (.c 15), .int .u64 (.c 5), .int .u64 (.c 1), .int .u64 (.c 3), .int .u64 (.c 7), .int .u64 (.c 14), .int .u64 (.c 6), .int .u64 (.c 9), .int .u64 (.c 11), .int .u64 (.c 8), .int .u64 (.c 12), .int .u64 (.c 2), .int .u64 (.c 10), .int .u64 (.c 0), .int .u64 (.c 4), .int .u64 (.c 13), .int .u64 (.c 8), .int .u64 (.c 6), .int .u64 (.c 4), .int .u64 (.c 1), .int .u64 (.c 3), .int .u64 (.c 11), .int .u64 (.c 15), .int .u64 (.c 0), .int .u64 (.c 5), .int .u64 (.c 12), .int .u64 (.c 2), .int .u64 (.c 13), .int .u64 (.c 9), .int .u64 (.c 7), .int .u64 (.c 10), .int .u64 (.c 14), .int .u64 (.c 12), .int .u64 (.c 15), .int .u64 (.c 10), .int .u64 (.c 4), .int .u64 (.c 1), .int .u64 (.c 5), .int .u64 (.c 8), .int .u64 (.c 7), .int .u64 (.c 6), .int .u64 (.c 2), .int .u64 (.c 13), .int .u64 (.c 14), .int .u64 (.c 0), .int .u64 (.c 3), .int .u64 (.c 9), .int .u64 (.c 11)]
def tabR : List AV := [.int .u64 (.c 11), .int .u64 (.c 14), .int .u64 (.c 15), .int .u64 (.c 12), .int .u64 (.c 5), .int .u64 (.c 8), .int .u64 (.c 7), .int .u64 (.c 9), .int .u64 (.c 11), .int .u64 (.c 13), .int .u64 (.c 14), .int .u64 (.c 15), .int .u64 (.c 6), .int .u64 (.c 7), .int .u64 (.c 9), .int .u64 (.c 8), .int .u64 (.c 7), .int .u64 (.c 6), .int .u64 (.c 8), .int .u64 (.c 13), .int .u64 (.c 11), .int .u64 (.c 9), .int .u64 (.c 7), .int .u64 (.c 15), .int .u64 (.c 7), .int .u64 (.c 12), .int .u64 (.c 15), .int .u64 (.c 9), .int .u64 (.c 11), .int .u64 (.c 7), .int .u64 (.c 13), .int .u64 (.c 12), .int .u64 (.c 11), .int .u64 (.c 13), .int .u64 (.c 6), .int .u64 (.c 7), .int .u64 (.c 14), .int .u64 (.c 9), .int .u64 (.c 13), .int .u64 (.c 15), .int .u64 (.c 14), .int .u64 (.c 8), .int .u64 (.c 13), .int .u64 (.c 6), .int .u64 (.c 5), .int .u64 (.c 12), .int .u64 (.c 7), .int .u64 (.c 5), .int .u64 (.c 11), .int .u64 (.c 12), .int .u64 (.c 14), .int .u64 (.c 15), .int .u64 (.c 14), .int .u64 (.c 15), .int .u64 (.c 9), .int .u64 (.c 8), .int .u64 (.c 9), .int .u64 (.c 14), .int .u64 (.c 5), .int .u64 (.c 6), .int .u64 (.c 8), .int .u64 (.c 6), .int .u64 (.c 5), .int .u64 (.c 12), .int .u64 (.c 9), .int .u64 (.c 15), .int .u64 (.c 5), .int .u64 (.c 11), .int .u64 (.c 6), .int .u64 (.c 8), .int .u64 (.c 13), .int .u64 (.c 12), .int .u64 (.c 5), .int .u64 (.c 12), .int .u64 (.c 13), .int .u64 (.c 14), .int .u64 (.c 11), .int .u64 (.c 8), .int .u64 (.c 5), .int .u64 (.c 6)]
def tabR2 : List AV := [.int .u64 (.c 8), .int .u64 (.c 9), .int .u64 (.c 9), .int .u64 (.c 11), .int .u64 (.c 13), .int .u64 (.c 15), .int .u64 (.c 15), .int .u64 (.c 5), .int .u64 (.c 7), .int .u64 (.c 7), .int .u64 (.c 8), .int .u64 (.c 11), .int .u64 (.c 14), .int .u64 (.c 14), .int .u64 (.c 12), .int .u64 (.c 6), .int .u64 (.c 9), .int .u64 (.c 13), .int .u64 (.c 15), .int .u64 (.c 7), .int .u64 (.c 12), .int .u64 (.c 8), .int .u64 (.c 9), .int .u64 (.c 11), .int .u64 (.c 7), .int .u64 (.c 7), .int .u64 (.c 12), .int .u64 (.c 7), .int .u64 (.c 6), .int .u64 (.c 15), .int .u64 (.c 13), .int .u64 (.c 11), .int .u64 (.c 9), .int .u64 (.c 7), .int .u64 (.c 15), .int .u64 (.c 11), .int .u64 (.c 8), .int .u64 (.c 6), .int .u64 (.c 6), .int .u64 (.c 14), .int .u64 (.c 12), .int .u64 (.c 13), .int .u64 (.c 5), .int .u64 (.c 14), .int .u64 (.c 13), .int .u64 (.c 13), .int .u64 (.c 7), .int .u64 (.c 5), .int .u64 (.c 15), .int .u64 (.c 5), .int .u64 (.c 8), .int .u64 (.c 11), .int .u64 (.c 14), .int .u64 (.c 14), .int .u64 (.c 6), .int .u64 (.c 14), .int .u64 (.c 6), .int .u64 (.c 9), .int .u64 (.c 12), .int .u64 (.c 9), .int .u64 (.c 12), .int .u64 (.c 5), .int .u64 (.c 15), .int .u64 (.c 8), .int .u64 (.c 8), .int .u64 (.c 5), .int .u64 (.c 12), .int .u64 (.c 9), .int .u64 (.c 12), .int .u64 (.c 5), .int .u64 (.c 14), .int .u64 (.c 6), .int .u64 (.c 8), .int .u64 (.c 13), .int .u64 (.c 6), .int .u64 (.c 5), .int .u64 (.c 15), .int .u64 (.c 13), .int .u64 (.c 11), .int .u64 (.c 11)]
def tabS1 : List AV := [.int .i64 (.c 3), .int .i64 (.c 7), .int .i64 (.c 11), .int .i64 (.c 19)]
def tabX2 : List AV := [.int .u64 (.c 0), .int .u64 (.c 4), .int .u64 (.c 8), .int .u64 (.c 12), .int .u64 (.c 1), .int .u64 (.c 5), .int .u64 (.c 9), .int .u64 (.c 13), .int .u64 (.c 2), .int .u64 (.c 6), .int .u64 (.c 10), .int .u64 (.c 14), .int .u64 (.c 3), .int .u64 (.c 7), .int .u64 (.c 11), .int .u64 (.c 15)]
def tabS2 : List AV := [.int .i64 (.c 3), .int .i64 (.c 5), .int .i64 (.c 9), .int .i64 (.c 13)]
def tabX3 : List AV := [.int .u64 (.c 0), .int .u64 (.c 8), .int .u64 (.c 4), .int .u64 (.c 12), .int .u64 (.c 2), .int .u64 (.c 10), .int .u64 (.c 6), .int .u64 (.c 14), .int .u64 (.c 1), .int .u64 (.c 9), .int .u64 (.c 5), .int .u64 (.c 13), .int .u64 (.c 3), .int .u64 (.c 11), .int .u64 (.c 7), .int .u64 (.c 15)]
def tabS3 : List AV := [.int .i64 (.c 3), .int .i64 (.c 9), .int .i64 (.c 11), .int .i64 (.c 15)]
/-- The packages' variables, and the rows behind them. -/
def noGlob : Nat → Option (List AV)
  | 0 => some tabN
  | 2 => some tabN2
  | 4 => some tabR
  | 6 => some tabR2
  | 8 => some [.gs 9 (.c 0) (.c 4)]
  | 9 => some tabS1
  | 10 => some [.gs 11 (.c 0) (.c 16)]
  | 11 => some tabX2
  | 12 => some [.gs 13 (.c 0) (.c 4)]
  | 13 => some tabS2
  | 14 => some [.gs 15 (.c 0) (.c 16)]
  | 15 => some tabX3
  | 16 => some [.gs 17 (.c 0) (.c 4)]
  | 17 => some tabS3
  | _ => none
def nv : Nat → Nat
  | 4 => 8 | 5 => 8 | 6 => 15 | 7 => 8 | 8 => 1 | 9 => 6 | 10 => 4 | 12 => 3 | 13 => 1 | 14 => 6 | 15 => 7 | 16 => 6 | 17 => 9 | 18 => 5 | 19 => 5 | 20 => 4 | 21 => 5 | 22 => 2 | 25 => 31 | 27 => 7 | 28 => 8 | 29 => 66 | 30 => 5 | 31 => 8 | 32 => 2 | 33 => 1 | 34 => 3 | 35 => 5 | 36 => 36 | 37 => 6 | 38 => 29 | 39 => 27 | 40 => 1 | 41 => 6 | 59 => 12 | 60 => 9 | 63 => 11 | 64 => 9 | _ => 0
def keep : Nat → List Nat
  | 4 => [11, 14] | 5 => [11, 14] | 6 => [23, 29] | 7 => [10, 13] | 9 => [10, 14, 25] | 15 => [11] | 17 => [13] | 19 => [12, 17] | 21 => [8] | 25 => [85, 86] | 27 => [7, 8] | 30 => [5, 6] | 38 => [51, 57, 94, 125, 164] | 39 => [29, 61, 98, 162, 231, 297, 366] | 59 => [20, 34, 48, 52, 53, 51] | 60 => [33, 41, 70, 24, 91] | 63 => [24, 40, 57, 63, 64, 62] | 64 => [33, 41, 70, 24, 91] | _ => []
def dyn : Nat → Nat → Bool
  | 5, 6 => true | 6, 9 => true | 6, 12 => true | 7, 6 => true | 7, 7 => true | 7, 8 => true | 15, 4 => true | 17, 4 => true | 25, 13 => true | 25, 14 => true | 27, 7 => true | _, _ => false
def scope (f : Nat) : Bool := elemN f [4, 5, 6, 7, 8, 9, 10, 12, 13, 14, 15, 16, 17, 18, 19, 20, 21, 22, 25, 27, 28, 29, 30, 31, 32, 33, 34, 35, 36, 37, 38, 39, 40, 41, 59, 60, 63, 64]

def meth (t : Nat) (m : String) : Option FuncId :=
  if t = 65 ∧ m = "Write" then some 60 else
  if t = 65 ∧ m = "Sum" then some 59 else
  if t = 76 ∧ m = "Write" then some 64 else
  if t = 76 ∧ m = "Sum" then some 63 else
  none
noncomputable def cfg (spec : FuncId → Option Eng.Spec) (loop : FuncId → Nat → Option LSpec) : Cfg := { P := Tryd.prog, glob := noGlob, nv := nv, keep := keep, dyn := dyn, spec := spec, loop := loop, scope := scope, meth := meth }
def noSpec : FuncId → Option Eng.Spec := fun _ => none
def noLoop : FuncId → Nat → Option LSpec := fun _ _ => none
theorem fnOk_any (spec : FuncId → Option Eng.Spec) (loop : FuncId → Nat → Option LSpec) (f : FuncId) : fnOk (cfg spec loop) f = fnOk (cfg noSpec noLoop) f := rfl
/-- The check of a function, as it is handed about. -/
def Fine (f : FuncId) : Prop := fnOk (cfg noSpec noLoop) f = true
theorem mixed : Tryd.prog.follows .mixedOrders = true := by kernel_rfl
theorem meth0 (v : Value) (w : World) : (method (Tryd.prog.types.size + Made.depth) 65 v "Write").run Tryd.prog w = .ok (60, v) w := by kernel_rfl
theorem meth1 (v : Value) (w : World) : (method (Tryd.prog.types.size + Made.depth) 65 v "Sum").run Tryd.prog w = .ok (59, v) w := by kernel_rfl
theorem meth2 (v : Value) (w : World) : (method (Tryd.prog.types.size + Made.depth) 76 v "Write").run Tryd.prog w = .ok (64, v) w := by kernel_rfl
theorem meth3 (v : Value) (w : World) : (method (Tryd.prog.types.size + Made.depth) 76 v "Sum").run Tryd.prog w = .ok (63, v) w := by kernel_rfl
theorem methOk : MethOk Tryd.prog meth := by
  intro t m f h v w
  unfold meth at h
  split at h
  · rename_i e; obtain ⟨rfl, rfl⟩ := e; have h := Option.some.inj h; subst h; exact meth0 v w
  split at h
  · rename_i e; obtain ⟨rfl, rfl⟩ := e; have h := Option.some.inj h; subst h; exact meth1 v w
  split at h
  · rename_i e; obtain ⟨rfl, rfl⟩ := e; have h := Option.some.inj h; subst h; exact meth2 v w
  split at h
  · rename_i e; obtain ⟨rfl, rfl⟩ := e; have h := Option.some.inj h; subst h; exact meth3 v w
  cases h
end Go.Proofs.YtaklljigoajpcaaDoor.B

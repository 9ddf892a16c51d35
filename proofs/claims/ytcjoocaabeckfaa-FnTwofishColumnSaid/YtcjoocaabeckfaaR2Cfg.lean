/- The seat's annotations for the interpreter. -/
import Derived.Test.YtcjoocaabeckfaaEngD
import Derived.Test.YtcjoocaabeckfaaProg
import Derived.KernelRfl
namespace Go.Proofs.Ytcjoocaabeckfaa
open Go.Eng
def nv : Nat → Nat
  | 4 => 11 | 5 => 11 | 6 => 6 | 7 => 13 | 8 => 11 | 9 => 13 | 10 => 16 | 11 => 15 | 12 => 5 | 15 => 6 | 18 => 3 | 19 => 10 | 20 => 10 | 21 => 11 | 22 => 3 | 23 => 4 | 24 => 6 | 25 => 3 | 26 => 5 | 27 => 7 | 28 => 7 | 29 => 12 | 30 => 12 | 31 => 5 | 32 => 6 | 35 => 12 | 36 => 10 | 37 => 10 | 38 => 10 | 39 => 3 | 40 => 6 | 41 => 3 | 42 => 7 | 43 => 10 | 44 => 4 | 45 => 7 | 46 => 12 | 47 => 12 | 48 => 5 | 49 => 8 | 52 => 9 | 53 => 4 | 54 => 5 | 55 => 3 | 56 => 6 | 57 => 5 | 58 => 11 | 59 => 3 | 60 => 9 | 61 => 63 | 67 => 3 | 68 => 3 | 92 => 3 | 93 => 3 | 94 => 9 | 95 => 9 | 96 => 6 | 97 => 3 | 100 => 16 | 101 => 16 | 102 => 5 | 103 => 3 | _ => 0
def keep : Nat → List Nat
  | 4 => [18, 26] | 5 => [18, 26] | 6 => [7, 23] | 7 => [20, 28, 41, 56, 87] | 8 => [11, 43] | 9 => [20, 36] | 10 => [24, 45] | 11 => [22, 43, 47] | 15 => [10, 14, 25] | 19 => [16] | 20 => [17, 24] | 24 => [12] | 26 => [8] | 29 => [18, 26] | 30 => [28, 30, 37] | 36 => [12] | 37 => [20] | 38 => [18] | 40 => [9, 28] | 43 => [13, 20, 27] | 45 => [9, 13] | 46 => [26] | 47 => [22] | 49 => [13, 14, 16, 17] | 52 => [10, 48] | 54 => [6] | 57 => [5, 6, 29] | 58 => [17] | 94 => [15] | 95 => [15] | 100 => [62] | 101 => [54] | _ => []
def dyn : Nat → Nat → Bool
  | 6, 10 => true | 7, 11 => true | 7, 15 => true | 23, 2 => true | 37, 8 => true | 37, 10 => true | 38, 7 => true | 38, 9 => true | 53, 1 => true | 56, 2 => true | 56, 3 => true | 100, 1 => true | 100, 2 => true | 101, 1 => true | 101, 2 => true | _, _ => false
def scope (f : Nat) : Bool := elemN f [4, 5, 6, 7, 8, 9, 10, 11, 12, 15, 18, 19, 20, 21, 22, 23, 24, 25, 26, 27, 28, 29, 30, 31, 32, 35, 36, 37, 38, 39, 40, 41, 42, 43, 44, 45, 46, 47, 48, 49, 52, 53, 54, 55, 56, 57, 58, 59, 60, 61, 67, 68, 92, 93, 94, 95, 96, 97, 100, 101, 102, 103]

def meth (t : Nat) (m : String) : Option FuncId :=
  if t = 53 ∧ m = "Encrypt" then some 93 else
  if t = 53 ∧ m = "Decrypt" then some 92 else
  if t = 85 ∧ m = "Encrypt" then some 101 else
  if t = 85 ∧ m = "Decrypt" then some 100 else
  none
noncomputable def cfg (spec : FuncId → Option Eng.Spec) (loop : FuncId → Nat → Option LSpec) : Cfg := { P := Try.prog, glob := noGlob, nv := nv, keep := keep, dyn := dyn, spec := spec, loop := loop, scope := scope, meth := meth }
def noSpec : FuncId → Option Eng.Spec := fun _ => none
def noLoop : FuncId → Nat → Option LSpec := fun _ _ => none
theorem fnOk_any (spec : FuncId → Option Eng.Spec) (loop : FuncId → Nat → Option LSpec) (f : FuncId) : fnOk (cfg spec loop) f = fnOk (cfg noSpec noLoop) f := rfl
/-- The check of a function, as it is handed about. -/
def Fine (f : FuncId) : Prop := fnOk (cfg noSpec noLoop) f = true
theorem mixed : Try.prog.follows .mixedOrders = true := by kernel_rfl
theorem meth0 (v : Value) (w : World) : (method (Try.prog.types.size + Made.depth) 53 v "Encrypt").run Try.prog w = .ok (93, v) w := by kernel_rfl
theorem meth1 (v : Value) (w : World) : (method (Try.prog.types.size + Made.depth) 53 v "Decrypt").run Try.prog w = .ok (92, v) w := by kernel_rfl
theorem meth2 (v : Value) (w : World) : (method (Try.prog.types.size + Made.depth) 85 v "Encrypt").run Try.prog w = .ok (101, v) w := by kernel_rfl
theorem meth3 (v : Value) (w : World) : (method (Try.prog.types.size + Made.depth) 85 v "Decrypt").run Try.prog w = .ok (100, v) w := by kernel_rfl
theorem methOk : MethOk Try.prog meth := by
  intro t m f h v w
  unfold meth at h
  split at h
  · rename_i e; obtain ⟨rfl, rfl⟩ := e; have h := Option.some.inj h; subst h; exact meth0 v w
  split at h
  · rename_i e; obtain ⟨rfl, rfl⟩ := e; have h := Option.some.inj h; subst h; exact meth1 v w
  split at h
  · rename_i e; obtain ⟨rfl, rfl⟩ := e; have h := Option.some.inj h; subst h; exact meth2 v w
  split at h
  · rename_i e; obtain ⟨rfl, rfl⟩ := e; have h := Option.some.inj h; subst h; exact meth3 v w
  cases h
end Go.Proofs.Ytcjoocaabeckfaa

/- FnScryptSalsa: of all blocks a and b of sixteen words: the eight rounds of the package are those of the reference, and it does not matter which block is which. No condition. -/
import Derived.Test.YtnonaagcnenbdaaR1S
import Derived.Test.YtnonaagcnenbdaaRows
import Derived.WalkKit
import Derived.ProofKit
import Derived.OpenShut
namespace Go.Proofs.Ytnonaagcnenbdaa.salsa
open Go.ChangeShapes Go.WideShapes Go.ChangeAt Go.RowKit
open Go.Eng
def imp (x y : W16) : List (BitVec 32) := (sw29 x (Vec.of y.list) 0).list
def ref (x y : W16) : List (BitVec 32) := (add16 (xor16 x y) (dbl (dbl (dbl (dbl (xor16 x y)))))).list
def eqq (l m : List (BitVec 32)) : Bool := chain l m == true
def fits : Bool := decide (0 + 16 ≤ 16 ∧ 0 + 16 ≤ 16 ∧ 16 ≤ 16 ∧ 16 ≤ 16)
theorem run4 (x y : W16) : verdict (goB specs4 noLoop 4 [x.av, y.av] ⟨[], big, List.replicate 30 true, []⟩) = some (true, [eqq (imp x y) (imp y x), eqq (imp x y) (imp y x), eqq (imp x y) (ref x y), eqq (imp x y) (ref x y), fits, eqq (imp x y) (ref x y), eqq (imp x y) (ref x y), eqq (imp x y) (ref x y), fits, eqq (imp x y) (ref x y), eqq (imp x y) (ref x y), eqq (imp x y) (ref x y), fits]) := by kernel_rfl
theorem imp_ref (x y : W16) : imp x y = ref x y := by
  show (add16 (dbl (dbl (dbl (dbl (xor16 x y))))) (xor16 x y)).list = _
  simp only [ref, add16, BitVec.add_comm]
theorem imp_swap (x y : W16) : imp x y = imp y x := by
  show (salsa8 (xor16 x y)).list = (salsa8 (xor16 y x)).list
  have : xor16 x y = xor16 y x := by simp only [xor16, BitVec.xor_comm]
  rw [this]
theorem own : ownKnob Try.prog.godebug = none := by kernel_rfl
theorem laidOut : laidOutB Try.prog = true := by kernel_rfl
theorem cells28 : Try.prog.cellsOf 28 = 1 := by kernel_rfl
theorem cells29 : Try.prog.cellsOf 29 = 16 := by kernel_rfl
theorem read29 : Try.prog.readableRec 29 = true ∧ 29 < Try.prog.types.size := ⟨by kernel_rfl, of_decide_eq_true (by kernel_rfl)⟩
def w16 (z : Nat → Int) : W16 := ⟨BitVec.ofInt 32 (z 0), BitVec.ofInt 32 (z 1), BitVec.ofInt 32 (z 2), BitVec.ofInt 32 (z 3), BitVec.ofInt 32 (z 4), BitVec.ofInt 32 (z 5), BitVec.ofInt 32 (z 6), BitVec.ofInt 32 (z 7), BitVec.ofInt 32 (z 8), BitVec.ofInt 32 (z 9), BitVec.ofInt 32 (z 10), BitVec.ofInt 32 (z 11), BitVec.ofInt 32 (z 12), BitVec.ofInt 32 (z 13), BitVec.ofInt 32 (z 14), BitVec.ofInt 32 (z 15)⟩
theorem rel16 {β : Map} {z : Nat → Int} (h : ∀ i, i < 16 → (Lit.int .u32 (z i)).wf = true) : VRel β (w16 z).av (.agg ⟨(List.range 16).map fun i => .int .u32 (z i)⟩) := by
  have : (w16 z).av = .agg ((List.range 16).map fun i => .w32 (BitVec.ofInt 32 (z i))) := rfl
  rw [this]
  exact rel_arr fun i hi => rel_w32 (h i hi)
theorem walk (z1 z2 : Nat → Int) (h1 : ∀ i, i < 16 → (Lit.int .u32 (z1 i)).wf = true) (h2 : ∀ i, i < 16 → (Lit.int .u32 (z2 i)).wf = true) (W : World) :
    Calls Try.prog 4 ⟨[.agg ⟨(List.range 16).map fun i => .int .u32 (z1 i)⟩, .agg ⟨(List.range 16).map fun i => .int .u32 (z2 i)⟩]⟩ W fun e W' => e = .returned (.bool true) ∧ Still W W' := by
  obtain ⟨β, hH, _⟩ := ro_heap (W := W) [] (fun p hp => by cases hp)
  refine run_law (goB_ok specs4_ok (no_loops _)) (run4 (w16 z1) (w16 z2)) rfl ?_ (LRel.cons (rel16 h1) (LRel.cons (rel16 h2) (LRel.nil β))) hH (fun b k hk => by simp at hk)
  have e1 : eqq (imp (w16 z1) (w16 z2)) (ref (w16 z1) (w16 z2)) = true := by rw [eqq, ← imp_ref, chain_self]; rfl
  have e2 : eqq (imp (w16 z1) (w16 z2)) (imp (w16 z2) (w16 z1)) = true := by rw [eqq, ← imp_swap, chain_self]; rfl
  repeat' (refine all_true_cons ?_ ?_)
  all_goals first | exact all_true_nil | exact e1 | exact e2 | rfl
theorem contract (H : Type) (enc : TypeId × Value → H) (W : World) (base : Nat) (args : Array Value) (ds gs : List (DataW H)) (before : List MemPlace)
    (hval : ∀ (j : Nat) t v, Try.f4.params[j]? = some t → args[j]? = some v → Value.okWide Try.prog W .any base t v)
    (hW : DataW.Whole enc Try.prog Try.f4.params.toList Rows.fnScryptSalsaSpec.vars false W args.toList ds gs before) :
    Calls Try.prog 4 args W fun e W' => ∃ v, e = .returned v ∧ Rows.fnScryptSalsaSpec.post enc Try.prog Try.f4 false true false false W args v W' := by
  have hW' := hW
  obtain ⟨p, q, hA0, hV, rfl, hfz, hnd⟩ := hW
  have hA : DataW.TrodAll enc Try.prog W 0 (fun _ => true) true Try.f4.params.toList args.toList ds p := hA0
  rw [Try.params4] at hA hval
  obtain ⟨v0, vs0, d0, ds0, p0, q0, hargs, rfl, rfl, h0, r0⟩ := trodAll_cons hA
  obtain ⟨v1, vs1, d1, ds1, p1, q1, rfl, rfl, rfl, h1, r1⟩ := trodAll_cons r0
  obtain ⟨rfl, rfl, rfl⟩ := trodAll_nil r1
  obtain rfl : args = #[v0, v1] := by cases args; simp_all
  obtain ⟨z1, rfl, w1⟩ := open_arr Try.underlying29 Try.underlying28 cells28 cells29 (hval 0 29 v0 rfl rfl) h0
  obtain ⟨z2, rfl, w2⟩ := open_arr Try.underlying29 Try.underlying28 cells28 cells29 (hval 1 29 v1 rfl rfl) h1
  refine (walk z1 z2 w1 w2 W).mono fun e W' ⟨he, hs⟩ => ?_
  subst he
  exact ⟨_, rfl, post_of_still (tb := 4) hW' rfl rfl laidOut (by
    intro t ht
    rw [Try.params4] at ht
    have : t = 29 := by simpa using ht
    subst this; exact read29) (by kernel_rfl) Try.underlying4 hs⟩
set_option maxRecDepth 100000 in
theorem lifted (os : Os) (started : os.Started) (H : Type) (enc : TypeId × Value → H) :
    ReturnsInHanded {} Try.checked os 4 .any (Rows.fnScryptSalsaSpec.pre6 enc Try.prog Try.f4 Rows.fnScryptSalsaRow.domain false) (Rows.fnScryptSalsaSpec.post enc Try.prog Try.f4 false true false false) := by
  refine returnsInHanded_of_change (C := Try.checked) own started (by kernel_rfl) Try.func4
    (ChangeSpec.witness6 (enc := enc) (C := Try.checked) false ⟨#[], #[.agg (Array.replicate 16 (.int .u32 0)), .agg (Array.replicate 16 (.int .u32 0))], []⟩ 8 (by kernel_rfl) (by kernel_rfl) (by kernel_rfl) (by kernel_rfl)) ?_
  intro W base args ds gs before hval hW _ _
  exact contract H enc W base args ds gs before hval hW
theorem holds : Rows.FnScryptSalsaSaid :=
  OpenClaim.holds_of_wide 4 Try.f4 rfl rfl rfl rfl rfl rfl rfl ⟨rfl, rfl, rfl, rfl, rfl⟩ rfl rfl rfl rfl rfl (by kernel_rfl) Try.func4 (by kernel_rfl)
    (of_decide_eq_true (by kernel_rfl)) (by unfold Func.isWrapper; first | (rw [if_pos (by decide +kernel)]; kernel_rfl) | (rw [if_neg (by decide +kernel)]; exact ⟨rfl, rfl⟩))
    (fun os started H enc _ => lifted os started H enc)
end Go.Proofs.Ytnonaagcnenbdaa.salsa

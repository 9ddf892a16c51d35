/- FnXtsDouble: of all tweaks of sixteen bytes: the package doubles them as the statement and the reference say. No condition. -/
import Derived.Test.YtcjoocaabeckfaaR2Once
import Derived.Test.YtcjoocaabeckfaaRows
import Derived.WalkKit
import Derived.ProofKit
import Derived.OpenShut
namespace Go.Proofs.Ytcjoocaabeckfaa.xtsDouble
open Go.ChangeShapes Go.WideShapes Go.ChangeAt Go.RowKit
open Go.Eng
def car (f : Nat → BitVec 8) : Nat → BitVec 8
  | 0 => 0#8
  | i + 1 => f i >>> 7
def up (op : BitVec 8 → BitVec 8 → BitVec 8) (f : Nat → BitVec 8) (d : Bool) (i : Nat) : BitVec 8 :=
  match i with
  | 0 =>
    match d with
    | true => op (f 0 <<< 1) (car f 0) ^^^ 135#8
    | false => op (f 0 <<< 1) (car f 0)
  | i + 1 => op (f (i + 1) <<< 1) (car f (i + 1))
def ups (op : BitVec 8 → BitVec 8 → BitVec 8) (f : Nat → BitVec 8) (d : Bool) : List (BitVec 8) := (List.range 16).map (up op f d)
def eqq (f : Nat → BitVec 8) (d : Bool) : Bool := chain (ups (fun x y => x + y) f d) (ups (fun x y => x ||| y) f d) == true
def c1 (f : Nat → BitVec 8) (d : Bool) : Bool := (f 15 >>> 7 == 1#8) == d
def c2 (f : Nat → BitVec 8) (d : Bool) : Bool := (f 15 >>> 7 != 0#8) == d
def decs (d : Bool) : List Bool := [d, d, true, true, d, true, true, d, true, true, true, true]
theorem run6t (f : Nat → BitVec 8) : verdict (goB specs1 noLoop 6 [.agg ((List.range 16).map fun i => .w8 (f i))] ⟨[], big, decs true, []⟩) =
    some (true, [eqq f true, eqq f true, eqq f true, eqq f true, c1 f true, eqq f true, eqq f true, c2 f true, eqq f true, eqq f true, c2 f true, c1 f true]) := by kernel_rfl
theorem run6f (f : Nat → BitVec 8) : verdict (goB specs1 noLoop 6 [.agg ((List.range 16).map fun i => .w8 (f i))] ⟨[], big, decs false, []⟩) =
    some (true, [eqq f false, eqq f false, eqq f false, eqq f false, c1 f false, eqq f false, eqq f false, c2 f false, eqq f false, eqq f false, c2 f false, c1 f false]) := by kernel_rfl
theorem add_or (x y : BitVec 8) : x <<< 1 + y >>> 7 = x <<< 1 ||| y >>> 7 := by
  apply BitVec.add_eq_or_of_and_eq_zero
  apply BitVec.eq_of_getLsbD_eq
  intro i hi
  simp only [BitVec.getLsbD_and, BitVec.getLsbD_shiftLeft, BitVec.getLsbD_ushiftRight, BitVec.getLsbD_zero]
  rcases i with _ | i
  · simp
  · have : y.getLsbD (7 + (i + 1)) = false := BitVec.getLsbD_of_ge _ _ (by omega)
    simp [this]
theorem ups_eq (f : Nat → BitVec 8) (d : Bool) : ups (fun x y => x + y) f d = ups (fun x y => x ||| y) f d := by
  have h0 : ∀ i, f i <<< 1 + car f i = f i <<< 1 ||| car f i := by
    intro i
    cases i with
    | zero => simp [car]
    | succ i => exact add_or _ _
  unfold ups
  apply List.map_congr_left
  intro i _
  cases i with
  | zero => cases d <;> simp only [up, h0]
  | succ i => simp only [up, h0]
theorem top (x : BitVec 8) : ∃ d, ((x >>> 7 == 1#8) == d) = true ∧ ((x >>> 7 != 0#8) == d) = true := by
  have h : (x >>> 7) = 0#8 ∨ (x >>> 7) = 1#8 := by
    have : (x >>> 7).toNat < 2 := by rw [BitVec.toNat_ushiftRight, Nat.shiftRight_eq_div_pow]; have := x.isLt; omega
    rcases Nat.lt_or_ge (x >>> 7).toNat 1 with h | h
    · left; apply BitVec.eq_of_toNat_eq
      have : (x >>> 7).toNat = 0 := by omega
      rw [this]; rfl
    · right; apply BitVec.eq_of_toNat_eq
      have : (x >>> 7).toNat = 1 := by omega
      rw [this]; rfl
  rcases h with h | h
  · exact ⟨false, by rw [h]; rfl, by rw [h]; rfl⟩
  · exact ⟨true, by rw [h]; rfl, by rw [h]; rfl⟩
theorem walk (z : Nat → Int) (hz : ∀ i, i < 16 → (Lit.int .u8 (z i)).wf = true) (W : World) :
    Calls Try.prog 6 #[.agg ⟨(List.range 16).map fun i => .int .u8 (z i)⟩] W fun e W' => e = .returned (.bool true) ∧ Still W W' := by
  obtain ⟨β, hH, _⟩ := ro_heap (W := W) [] (fun p hp => by cases hp)
  have hrel : LRel β [.agg ((List.range 16).map fun i => .w8 (BitVec.ofInt 8 (z i)))] [.agg ⟨(List.range 16).map fun i => .int .u8 (z i)⟩] :=
    LRel.cons (rel_arr fun i hi => rel_w8 (hz i hi)) (LRel.nil β)
  obtain ⟨d, h1, h2⟩ := top (BitVec.ofInt 8 (z 15))
  have e1 : ∀ d, eqq (fun i => BitVec.ofInt 8 (z i)) d = true := by intro d; rw [eqq, ups_eq, chain_self]; rfl
  cases d with
  | true =>
    refine run_law (goB_ok specs1_ok (no_loops _)) (run6t _) rfl ?_ hrel hH (fun b k hk => by simp at hk)
    repeat' (refine all_true_cons ?_ ?_)
    all_goals first | exact all_true_nil | exact e1 _ | exact h1 | exact h2
  | false =>
    refine run_law (goB_ok specs1_ok (no_loops _)) (run6f _) rfl ?_ hrel hH (fun b k hk => by simp at hk)
    repeat' (refine all_true_cons ?_ ?_)
    all_goals first | exact all_true_nil | exact e1 _ | exact h1 | exact h2
theorem own : ownKnob Try.prog.godebug = none := by kernel_rfl
theorem laidOut : laidOutB Try.prog = true := by kernel_rfl
theorem read32 : Try.prog.readableRec 32 = true ∧ 32 < Try.prog.types.size := ⟨by kernel_rfl, of_decide_eq_true (by kernel_rfl)⟩
theorem cells5 : Try.prog.cellsOf 5 = 1 := by kernel_rfl
theorem cells32 : Try.prog.cellsOf 32 = 16 := by kernel_rfl
set_option maxRecDepth 100000 in
theorem contract (H : Type) (enc : TypeId × Value → H) (W : World) (base : Nat) (args : Array Value) (ds gs : List (DataW H)) (before : List MemPlace)
    (hval : ∀ (j : Nat) t v, Try.f6.params[j]? = some t → args[j]? = some v → Value.okWide Try.prog W .any base t v)
    (hW : DataW.Whole enc Try.prog Try.f6.params.toList Rows.fnXtsDoubleSpec.vars false W args.toList ds gs before) :
    Calls Try.prog 6 args W fun e W' => ∃ v, e = .returned v ∧ Rows.fnXtsDoubleSpec.post enc Try.prog Try.f6 false true false false W args v W' := by
  have hW' := hW
  obtain ⟨p, q, hA0, hV, rfl, hfz, hnd⟩ := hW
  have hA : DataW.TrodAll enc Try.prog W 0 (fun _ => true) true Try.f6.params.toList args.toList ds p := hA0
  rw [Try.params6] at hA hval
  obtain ⟨v0, vs0, d0, ds0, p0, q0, hargs, rfl, rfl, h0, r0⟩ := trodAll_cons hA
  obtain ⟨rfl, rfl, rfl⟩ := trodAll_nil r0
  obtain rfl : args = #[v0] := by cases args; simp_all
  obtain ⟨z0, rfl, w0⟩ := open_arr Try.underlying32 Try.underlying5 cells5 cells32 (hval 0 32 v0 rfl rfl) h0
  refine (walk z0 w0 W).mono fun e W' ⟨he, hs⟩ => ?_
  subst he
  exact ⟨_, rfl, post_of_still (tb := 4) hW' rfl rfl laidOut (by
    intro t ht
    rw [Try.params6] at ht
    have : t = 32 := by simpa using ht
    rcases this with rfl
    · exact read32
    ) (by kernel_rfl) Try.underlying4 hs⟩
set_option maxRecDepth 100000 in
theorem lifted (os : Os) (started : os.Started) (H : Type) (enc : TypeId × Value → H) :
    ReturnsInHanded {} Try.checked os 6 .any (Rows.fnXtsDoubleSpec.pre6 enc Try.prog Try.f6 Rows.fnXtsDoubleRow.domain false) (Rows.fnXtsDoubleSpec.post enc Try.prog Try.f6 false true false false) := by
  refine returnsInHanded_of_change (C := Try.checked) own started (by kernel_rfl) Try.func6
    (ChangeSpec.witness6 (enc := enc) (C := Try.checked) false ⟨#[], #[.agg (Array.replicate 16 (.int .u8 0))], []⟩ 8 (by kernel_rfl) (by kernel_rfl) (by kernel_rfl) (by kernel_rfl)) ?_
  intro W base args ds gs before hval hW _ _
  exact contract H enc W base args ds gs before hval hW
theorem holds : Rows.FnXtsDoubleSaid :=
  OpenClaim.holds_of_wide 6 Try.f6 rfl rfl rfl rfl rfl rfl rfl ⟨rfl, rfl, rfl, rfl, rfl⟩ rfl rfl rfl rfl rfl (by kernel_rfl) Try.func6 (by kernel_rfl)
    (of_decide_eq_true (by kernel_rfl)) (by unfold Func.isWrapper; first | (rw [if_pos (by decide +kernel)]; kernel_rfl) | (rw [if_neg (by decide +kernel)]; exact ⟨rfl, rfl⟩))
    (fun os started H enc _ => lifted os started H enc)
end Go.Proofs.Ytcjoocaabeckfaa.xtsDouble

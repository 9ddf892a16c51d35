/- FnScryptMix: of all bytes, all r and all n: where r is from 1 to 8, n a power of two from 2 to 2^10 and there are 128 * r bytes, the package's mix of scrypt is the reference's; else the law says true. No condition. -/
import Derived.Test.YtnonaagcnenbdaaR1MxB
import Derived.Test.YtnonaagcnenbdaaR1Eq
import Derived.Test.YtnonaagcnenbdaaR1Pm
import Derived.Test.YtnonaagcnenbdaaRows
import Derived.WalkKit
import Derived.ProofKit
import Derived.OpenShut
namespace Go.Proofs.Ytnonaagcnenbdaa.mixLaw
open Go.ChangeShapes Go.WideShapes Go.ChangeAt Go.RowKit
open Go.Eng blockRoad
instance : RowAddr := ⟨fun _ => (0, 0)⟩
def specs3 : FuncId → Option Eng.Spec
  | 11 => some c11.spec
  | 12 => some c12.spec
  | 10 => some spEqual
  | 9 => some sp9
  | _ => none
theorem specs3_ok : ∀ f sp, specs3 f = some sp → SpecOk Try.prog noGlob f sp := by
  intro f sp h
  unfold specs3 at h
  split at h
  · injection h with h; subst h; exact c11_ok
  · injection h with h; subst h; exact c12_ok
  · injection h with h; subst h; exact okEqual
  · injection h with h; subst h; exact ok9
  · cases h
theorem even_of (N : Int) (h1 : ¬ N < 2) (h2 : ¬ 1024 < N) (h : andV .i64 N (N - 1) = 0) : N % 2 = 0 := by
  rw [(andV_nat N N (by omega) (by omega)).1] at h
  have h0 : (BitVec.ofInt 64 N &&& BitVec.ofInt 64 (N - 1)) = 0#64 := by
    refine BitVec.eq_of_toNat_eq ?_
    have : (BitVec.ofInt 64 N &&& BitVec.ofInt 64 (N - 1)).toNat = 0 := by omega
    rw [this]; rfl
  obtain ⟨n, rfl⟩ := Int.eq_ofNat_of_zero_le (show 0 ≤ N by omega)
  rcases Nat.mod_two_eq_zero_or_one n with e | e
  · omega
  · -- odd: take away one, the bits above stay
    exfalso
    obtain ⟨k, rfl⟩ : ∃ k, n = 2 * k + 1 := ⟨n / 2, by omega⟩
    have hk : 1 ≤ k := by omega
    have t1 : (BitVec.ofInt 64 ((2 * k + 1 : Nat) : Int)).toNat = 2 * k + 1 := by rw [BitVec.toNat_ofInt]; omega
    have t2 : (BitVec.ofInt 64 (((2 * k + 1 : Nat) : Int) - 1)).toNat = 2 * k := by rw [BitVec.toNat_ofInt]; omega
    have t3 := congrArg BitVec.toNat h0
    rw [BitVec.toNat_and, t1, t2] at t3
    have t4 : (2 * k + 1) &&& (2 * k) = 2 * k := by
      refine Nat.eq_of_testBit_eq fun i => ?_
      rw [Nat.testBit_and]
      cases i with
      | zero => simp
      | succ i =>
        rw [Nat.testBit_succ, Nat.testBit_succ, show (2 * k + 1) / 2 = k by omega, show 2 * k / 2 = k by omega, Bool.and_self]
    rw [t4] at t3
    have : 2 * k = 0 := t3
    omega
theorem runA (l : Vec 8) (r N : Int) : verdict (goB specs3 noLoop 3 [.sl 0 (.c 0) (.s l.n) none, .int .i64 (.s r), .int .i64 (.s N)] ⟨[⟨.b8 l, .ro⟩], big, [true], []⟩) = some (true, [(decide ((2147483647 : Int) < ((l.n : Nat) : Int)) == true)]) := by kernel_rfl
theorem runB (l : Vec 8) (r N : Int) : verdict (goB specs3 noLoop 3 [.sl 0 (.c 0) (.s l.n) none, .int .i64 (.s r), .int .i64 (.s N)] ⟨[⟨.b8 l, .ro⟩], big, [false, true, true, true], []⟩) = some (true, [(decide (r < 1) == true), (decide (r < 1) == true), (decide (r < 1) == true), (decide ((2147483647 : Int) < ((l.n : Nat) : Int)) == false)]) := by kernel_rfl
theorem runC (l : Vec 8) (r N : Int) : verdict (goB specs3 noLoop 3 [.sl 0 (.c 0) (.s l.n) none, .int .i64 (.s r), .int .i64 (.s N)] ⟨[⟨.b8 l, .ro⟩], big, [false, false, false, false, true, true, true, true], []⟩) = some (true, [(decide ((8 : Int) < r) == true), (decide ((8 : Int) < r) == true), (decide ((8 : Int) < r) == true), (decide ((8 : Int) < r) == true), (decide (r < 1) == false), (decide (r < 1) == false), (decide (r < 1) == false), (decide ((2147483647 : Int) < ((l.n : Nat) : Int)) == false)]) := by kernel_rfl
theorem runD (l : Vec 8) (r N : Int) : verdict (goB specs3 noLoop 3 [.sl 0 (.c 0) (.s l.n) none, .int .i64 (.s r), .int .i64 (.s N)] ⟨[⟨.b8 l, .ro⟩], big, [false, false, false, false, false, false, false, false, false, false, false], []⟩) = some (true, [(decide ((8 : Int) < r) == false), (decide ((8 : Int) < r) == false), (decide ((2 : Int) ≤ N) == false), (decide ((2 : Int) ≤ N) == false), (decide ((2 : Int) ≤ N) == false), (decide ((8 : Int) < r) == false), (decide ((8 : Int) < r) == false), (decide (r < 1) == false), (decide (r < 1) == false), (decide (r < 1) == false), (decide ((2147483647 : Int) < ((l.n : Nat) : Int)) == false)]) := by kernel_rfl
theorem runE (l : Vec 8) (r N : Int) : verdict (goB specs3 noLoop 3 [.sl 0 (.c 0) (.s l.n) none, .int .i64 (.s r), .int .i64 (.s N)] ⟨[⟨.b8 l, .ro⟩], big, [false, false, false, false, false, false, true, true, true, false, false, false, false, false, false, false, false], []⟩) = some (true, [(decide ((8 : Int) < r) == false), (decide ((8 : Int) < r) == false), (decide (N ≤ 1024) == false), (decide (N ≤ 1024) == false), (decide (N ≤ 1024) == false), (decide (N ≤ 1024) == false), (decide (N ≤ 1024) == false), (decide (N ≤ 1024) == false), (decide ((2 : Int) ≤ N) == true), (decide ((2 : Int) ≤ N) == true), (decide ((2 : Int) ≤ N) == true), (decide ((8 : Int) < r) == false), (decide ((8 : Int) < r) == false), (decide (r < 1) == false), (decide (r < 1) == false), (decide (r < 1) == false), (decide ((2147483647 : Int) < ((l.n : Nat) : Int)) == false)]) := by kernel_rfl
theorem runF (l : Vec 8) (r N : Int) : verdict (goB specs3 noLoop 3 [.sl 0 (.c 0) (.s l.n) none, .int .i64 (.s r), .int .i64 (.s N)] ⟨[⟨.b8 l, .ro⟩], big, [false, false, false, false, false, false, true, true, true, true, true, true, true, true, true, false, false, true, true, true, true, true, true], []⟩) = some (true, [((!((andV .i64 N (N - 1)) == 0)) == true), ((!((andV .i64 N (N - 1)) == 0)) == true), ((!((andV .i64 N (N - 1)) == 0)) == true), ((!((andV .i64 N (N - 1)) == 0)) == true), ((!((andV .i64 N (N - 1)) == 0)) == true), ((!((andV .i64 N (N - 1)) == 0)) == true), (decide ((8 : Int) < r) == false), (decide ((8 : Int) < r) == false), (decide (N ≤ 1024) == true), (decide (N ≤ 1024) == true), decide ((0 : Int) ≤ (N - 1)), (decide (N ≤ 1024) == true), decide ((((-9223372036854775808) : Int) ≤ (N - 1) ∧ (N - 1) ≤ 9223372036854775807)), (decide (N ≤ 1024) == true), (decide (N ≤ 1024) == true), (decide (N ≤ 1024) == true), (decide ((2 : Int) ≤ N) == true), (decide ((2 : Int) ≤ N) == true), (decide ((2 : Int) ≤ N) == true), (decide ((8 : Int) < r) == false), (decide ((8 : Int) < r) == false), (decide (r < 1) == false), (decide (r < 1) == false), (decide (r < 1) == false), (decide ((2147483647 : Int) < ((l.n : Nat) : Int)) == false)]) := by kernel_rfl
theorem runG (l : Vec 8) (r N : Int) : verdict (goB specs3 noLoop 3 [.sl 0 (.c 0) (.s l.n) none, .int .i64 (.s r), .int .i64 (.s N)] ⟨[⟨.b8 l, .ro⟩], big, [false, false, false, false, false, false, true, true, true, true, true, true, true, true, true, false, false, false, false, false, false, false, false, true], []⟩) = some (true, [((!(((l.n : Nat) : Int) == (128 * r))) == true), ((!((andV .i64 N (N - 1)) == 0)) == false), ((!((andV .i64 N (N - 1)) == 0)) == false), decide ((((-9223372036854775808) : Int) ≤ (128 * r) ∧ (128 * r) ≤ 9223372036854775807)), ((!((andV .i64 N (N - 1)) == 0)) == false), ((!((andV .i64 N (N - 1)) == 0)) == false), ((!((andV .i64 N (N - 1)) == 0)) == false), ((!((andV .i64 N (N - 1)) == 0)) == false), (decide ((8 : Int) < r) == false), (decide ((8 : Int) < r) == false), (decide (N ≤ 1024) == true), (decide (N ≤ 1024) == true), decide ((0 : Int) ≤ (N - 1)), (decide (N ≤ 1024) == true), decide ((((-9223372036854775808) : Int) ≤ (N - 1) ∧ (N - 1) ≤ 9223372036854775807)), (decide (N ≤ 1024) == true), (decide (N ≤ 1024) == true), (decide (N ≤ 1024) == true), (decide ((2 : Int) ≤ N) == true), (decide ((2 : Int) ≤ N) == true), (decide ((2 : Int) ≤ N) == true), (decide ((8 : Int) < r) == false), (decide ((8 : Int) < r) == false), (decide (r < 1) == false), (decide (r < 1) == false), (decide (r < 1) == false), (decide ((2147483647 : Int) < ((l.n : Nat) : Int)) == false)]) := by kernel_rfl
theorem runH (l : Vec 8) (r N : Int) : verdict (goB specs3 noLoop 3 [.sl 0 (.c 0) (.s l.n) none, .int .i64 (.s r), .int .i64 (.s N)] ⟨[⟨.b8 l, .ro⟩], big, [false, false, false, false, false, false, true, true, true, true, true, true, true, true, true, false, false, false, false, false, false, false, false, false], []⟩) = some (true, [(eqCond (smixV l 0 l.n r N) (mixRef l l.n N) 0 0 l.n l.n), decide ((l.n = l.n ∧ ((1 : Int) ≤ r ∧ (((l.n : Nat) : Int) = (128 * r) ∧ (r ≤ 1000 ∧ ((2 : Int) ≤ N ∧ (N ≤ 1000000 ∧ (andV .i64 N (N - 1)) = 0))))))), decide (((1 : Int) ≤ r ∧ (r ≤ 1000 ∧ ((2 : Int) ≤ N ∧ ((N % 2) = 0 ∧ (N ≤ 1000000 ∧ (((l.n : Nat) : Int) = (128 * r) ∧ ((0 + l.n) ≤ l.n ∧ ((32 * N) * r) ≤ 1000000000)))))))), ((!(((l.n : Nat) : Int) == (128 * r))) == false), ((!((andV .i64 N (N - 1)) == 0)) == false), ((!((andV .i64 N (N - 1)) == 0)) == false), decide ((((-9223372036854775808) : Int) ≤ (128 * r) ∧ (128 * r) ≤ 9223372036854775807)), ((!((andV .i64 N (N - 1)) == 0)) == false), ((!((andV .i64 N (N - 1)) == 0)) == false), ((!((andV .i64 N (N - 1)) == 0)) == false), ((!((andV .i64 N (N - 1)) == 0)) == false), (decide ((8 : Int) < r) == false), (decide ((8 : Int) < r) == false), (decide (N ≤ 1024) == true), (decide (N ≤ 1024) == true), decide ((0 : Int) ≤ (N - 1)), (decide (N ≤ 1024) == true), decide ((((-9223372036854775808) : Int) ≤ (N - 1) ∧ (N - 1) ≤ 9223372036854775807)), (decide (N ≤ 1024) == true), (decide (N ≤ 1024) == true), (decide (N ≤ 1024) == true), (decide ((2 : Int) ≤ N) == true), (decide ((2 : Int) ≤ N) == true), (decide ((2 : Int) ≤ N) == true), (decide ((8 : Int) < r) == false), (decide ((8 : Int) < r) == false), (decide (r < 1) == false), (decide (r < 1) == false), (decide (r < 1) == false), (decide ((2147483647 : Int) < ((l.n : Nat) : Int)) == false)]) := by kernel_rfl
theorem walk {W0 : World} {v0 : Value} (l : Vec 8) (w0 : SlOk W0 v0 (.b8 l)) (m0 : l.n ≤ maxLen) (r : Int) (_ : (Lit.int .i64 r).wf = true) (N : Int) (_ : (Lit.int .i64 N).wf = true) :
    Calls Try.prog 3 #[v0, .int .i64 r, .int .i64 N] W0 fun e W' => e = .returned (.bool true) ∧ Still W0 W' := by
  have hb := goB_ok specs3_ok (no_loops specs3)
  have args3 : ∀ β, (∀ (i : Nat) v d, [(v0, Eng.Data.b8 l)][i]? = some (v, d) → VRel β (.sl i (.c 0) (.s d.len) none) v) → LRel β [.sl 0 (.c 0) (.s l.n) none, .int .i64 (.s r), .int .i64 (.s N)] [v0, .int .i64 r, .int .i64 N] :=
    fun β h => LRel.cons (h 0 v0 _ rfl) (LRel.cons (rel_int .i64 r) (LRel.cons (rel_int .i64 N) (LRel.nil β)))
  by_cases hA : 2147483647 < l.n
  case pos =>
    refine law_run hb [(v0, .b8 l)] (ss_cons w0 ss_nil) (runA l r N) ?_ args3
    repeat' (refine all_true_cons ?_ ?_)
    all_goals first | exact all_true_nil | (simp only [Bool.and_eq_true, decide_eq_true_eq, beq_iff_eq, beq_true, beq_false, Bool.not_eq_true', decide_eq_false_iff_not, beq_eq_false_iff_ne, ne_eq, Bool.not_eq_false', bne_iff_ne, true_and, and_true] <;> omega)
  by_cases hB : r < 1
  case pos =>
    refine law_run hb [(v0, .b8 l)] (ss_cons w0 ss_nil) (runB l r N) ?_ args3
    repeat' (refine all_true_cons ?_ ?_)
    all_goals first | exact all_true_nil | (simp only [Bool.and_eq_true, decide_eq_true_eq, beq_iff_eq, beq_true, beq_false, Bool.not_eq_true', decide_eq_false_iff_not, beq_eq_false_iff_ne, ne_eq, Bool.not_eq_false', bne_iff_ne, true_and, and_true] <;> omega)
  by_cases hC : 8 < r
  case pos =>
    refine law_run hb [(v0, .b8 l)] (ss_cons w0 ss_nil) (runC l r N) ?_ args3
    repeat' (refine all_true_cons ?_ ?_)
    all_goals first | exact all_true_nil | (simp only [Bool.and_eq_true, decide_eq_true_eq, beq_iff_eq, beq_true, beq_false, Bool.not_eq_true', decide_eq_false_iff_not, beq_eq_false_iff_ne, ne_eq, Bool.not_eq_false', bne_iff_ne, true_and, and_true] <;> omega)
  by_cases hD : N < 2
  case pos =>
    refine law_run hb [(v0, .b8 l)] (ss_cons w0 ss_nil) (runD l r N) ?_ args3
    repeat' (refine all_true_cons ?_ ?_)
    all_goals first | exact all_true_nil | (simp only [Bool.and_eq_true, decide_eq_true_eq, beq_iff_eq, beq_true, beq_false, Bool.not_eq_true', decide_eq_false_iff_not, beq_eq_false_iff_ne, ne_eq, Bool.not_eq_false', bne_iff_ne, true_and, and_true] <;> omega)
  by_cases hE : 1024 < N
  case pos =>
    refine law_run hb [(v0, .b8 l)] (ss_cons w0 ss_nil) (runE l r N) ?_ args3
    repeat' (refine all_true_cons ?_ ?_)
    all_goals first | exact all_true_nil | (simp only [Bool.and_eq_true, decide_eq_true_eq, beq_iff_eq, beq_true, beq_false, Bool.not_eq_true', decide_eq_false_iff_not, beq_eq_false_iff_ne, ne_eq, Bool.not_eq_false', bne_iff_ne, true_and, and_true] <;> omega)
  by_cases hF : andV .i64 N (N - 1) ≠ 0
  case pos =>
    refine law_run hb [(v0, .b8 l)] (ss_cons w0 ss_nil) (runF l r N) ?_ args3
    repeat' (refine all_true_cons ?_ ?_)
    all_goals first | exact all_true_nil | (simp only [Bool.and_eq_true, decide_eq_true_eq, beq_iff_eq, beq_true, beq_false, Bool.not_eq_true', decide_eq_false_iff_not, beq_eq_false_iff_ne, ne_eq, Bool.not_eq_false', bne_iff_ne, true_and, and_true] <;> omega)
  by_cases hG : (l.n : Int) ≠ 128 * r
  case pos =>
    refine law_run hb [(v0, .b8 l)] (ss_cons w0 ss_nil) (runG l r N) ?_ args3
    repeat' (refine all_true_cons ?_ ?_)
    all_goals first | exact all_true_nil | (simp only [Bool.and_eq_true, decide_eq_true_eq, beq_iff_eq, beq_true, beq_false, Bool.not_eq_true', decide_eq_false_iff_not, beq_eq_false_iff_ne, ne_eq, Bool.not_eq_false', bne_iff_ne, true_and, and_true] <;> omega)
  obtain ⟨p, rfl⟩ := Int.eq_ofNat_of_zero_le (show 0 ≤ r by omega)
  have hF : andV .i64 N (N - 1) = 0 := by omega
  have hn : l.n = 4 * (32 * p) := by omega
  have hev : N % 2 = 0 := even_of N hD hE hF
  have hs := smix_ref p (by omega) (by omega) l hn N (by omega) (by omega) hev
  have hm : 32 * N * (p : Int) ≤ 32 * 1024 * 8 := by
    have := Int.mul_le_mul (show 32 * N ≤ 32 * 1024 by omega) (show (p : Int) ≤ 8 by omega) (by omega) (by omega)
    exact this
  refine law_run hb [(v0, .b8 l)] (ss_cons w0 ss_nil) (runH l p N) ?_ args3
  refine all_true_cons ?_ ?_
  · show eqCond (smixV l 0 l.n p N) (mixRef l l.n N) 0 0 l.n l.n = true
    rw [hn, hs]
    have hn2 : (mixRef l (4 * (32 * p)) N).n = 4 * (32 * p) := by
      rw [ref_mix p (by omega) (by omega) l hn N (by omega) (by omega)]; rfl
    exact decide_eq_true ⟨rfl, by omega, by omega, by omega, fun _ _ => rfl⟩
  repeat' (refine all_true_cons ?_ ?_)
  all_goals first | exact all_true_nil | (simp only [hF, Bool.and_eq_true, decide_eq_true_eq, beq_iff_eq, beq_true, beq_false, Bool.not_eq_true', decide_eq_false_iff_not, beq_eq_false_iff_ne, ne_eq, Bool.not_eq_false', bne_iff_ne, true_and, and_true] <;> omega)


theorem own : ownKnob Try.prog.godebug = none := by kernel_rfl
theorem laidOut : laidOutB Try.prog = true := by kernel_rfl
theorem read22 : Try.prog.readableRec 22 = true ∧ 22 < Try.prog.types.size := ⟨by kernel_rfl, of_decide_eq_true (by kernel_rfl)⟩
theorem read3 : Try.prog.readableRec 3 = true ∧ 3 < Try.prog.types.size := ⟨by kernel_rfl, of_decide_eq_true (by kernel_rfl)⟩
theorem cells5 : Try.prog.cellsOf 5 = 1 := by kernel_rfl
set_option maxRecDepth 100000 in
theorem contract (H : Type) (enc : TypeId × Value → H) (W : World) (base : Nat) (args : Array Value) (ds gs : List (DataW H)) (before : List MemPlace)
    (hval : ∀ (j : Nat) t v, Try.f3.params[j]? = some t → args[j]? = some v → Value.okWide Try.prog W .any base t v)
    (hW : DataW.Whole enc Try.prog Try.f3.params.toList Rows.fnScryptMixSpec.vars false W args.toList ds gs before) :
    Calls Try.prog 3 args W fun e W' => ∃ v, e = .returned v ∧ Rows.fnScryptMixSpec.post enc Try.prog Try.f3 false true false false W args v W' := by
  have hW' := hW
  obtain ⟨p, q, hA0, hV, rfl, hfz, hnd⟩ := hW
  have hA : DataW.TrodAll enc Try.prog W 0 (fun _ => true) true Try.f3.params.toList args.toList ds p := hA0
  rw [Try.params3] at hA hval
  obtain ⟨v0, vs0, d0, ds0, p0, q0, hargs, rfl, rfl, h0, r0⟩ := trodAll_cons hA
  obtain ⟨v1, vs1, d1, ds1, p1, q1, rfl, rfl, rfl, h1, r1⟩ := trodAll_cons r0
  obtain ⟨v2, vs2, d2, ds2, p2, q2, rfl, rfl, rfl, h2, r2⟩ := trodAll_cons r1
  obtain ⟨rfl, rfl, rfl⟩ := trodAll_nil r2
  obtain rfl : args = #[v0, v1, v2] := by cases args; simp_all
  obtain ⟨l0, w0, m0⟩ := open_sl8 Try.underlying22 Try.underlying5 cells5 (hval 0 22 v0 rfl rfl) h0
  obtain ⟨n1, rfl, rfl, rfl, w1⟩ := open_int Try.underlying3 (hval 1 3 v1 rfl rfl) h1
  obtain ⟨n2, rfl, rfl, rfl, w2⟩ := open_int Try.underlying3 (hval 2 3 v2 rfl rfl) h2
  refine (walk l0 w0 m0 n1 w1 n2 w2).mono fun e W' ⟨he, hs⟩ => ?_
  subst he
  exact ⟨_, rfl, post_of_still (tb := 4) hW' rfl rfl laidOut (by
    intro t ht
    rw [Try.params3] at ht
    have : t = 22 ∨ t = 3 := by simpa using ht
    rcases this with rfl | rfl
    · exact read22
    · exact read3
    ) (by kernel_rfl) Try.underlying4 hs⟩
set_option maxRecDepth 100000 in
theorem lifted (os : Os) (started : os.Started) (H : Type) (enc : TypeId × Value → H) :
    ReturnsInHanded {} Try.checked os 3 .any (Rows.fnScryptMixSpec.pre6 enc Try.prog Try.f3 Rows.fnScryptMixRow.domain false) (Rows.fnScryptMixSpec.post enc Try.prog Try.f3 false true false false) := by
  refine returnsInHanded_of_change (C := Try.checked) own started (by kernel_rfl) Try.func3
    (ChangeSpec.witness6 (enc := enc) (C := Try.checked) false ⟨#[], #[.slice none 0 0, .int .i64 0, .int .i64 0], []⟩ 8 (by kernel_rfl) (by kernel_rfl) (by kernel_rfl) (by kernel_rfl)) ?_
  intro W base args ds gs before hval hW _ _
  exact contract H enc W base args ds gs before hval hW
theorem holds : Rows.FnScryptMixSaid :=
  OpenClaim.holds_of_wide 3 Try.f3 rfl rfl rfl rfl rfl rfl rfl ⟨rfl, rfl, rfl, rfl, rfl⟩ rfl rfl rfl rfl rfl (by kernel_rfl) Try.func3 (by kernel_rfl)
    (of_decide_eq_true (by kernel_rfl)) (by unfold Func.isWrapper; first | (rw [if_pos (by decide +kernel)]; kernel_rfl) | (rw [if_neg (by decide +kernel)]; exact ⟨rfl, rfl⟩))
    (fun os started H enc _ => lifted os started H enc)
end Go.Proofs.Ytnonaagcnenbdaa.mixLaw

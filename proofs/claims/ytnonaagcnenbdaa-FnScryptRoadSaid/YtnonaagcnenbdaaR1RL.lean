/- FnScryptRoad: of all bytes, all r and all n: where r is from 1 to 8, n a power of two from 2 to 2^10 and there are 128 * r bytes, the package's mix of scrypt is what its mix of blocks makes: all states are kept, then mixed with those that they point to; else the law says true. No condition. -/
import Derived.Test.YtnonaagcnenbdaaR1Rq
import Derived.Test.YtnonaagcnenbdaaR1Wd
import Derived.Test.YtnonaagcnenbdaaR1Eq
import Derived.Test.YtnonaagcnenbdaaRows
import Derived.WalkKit
import Derived.ProofKit
import Derived.OpenShut
namespace Go.Proofs.Ytnonaagcnenbdaa.roadLaw
open Go.ChangeShapes Go.WideShapes Go.ChangeAt Go.RowKit
open Go.Eng blockRoad
set_option linter.unusedSimpArgs false
instance : RowAddr := ⟨fun _ => (0, 0)⟩
def specsZ : FuncId → Option Eng.Spec
  | 16 => some sp16
  | 11 => some c11.spec
  | 18 => some c18.spec
  | 10 => some spEqual
  | 9 => some sp9
  | _ => none
theorem specsZ_ok : ∀ f sp, specsZ f = some sp → SpecOk Try.prog noGlob f sp := by
  intro f sp h
  unfold specsZ at h
  split at h
  · injection h with h; subst h; exact ok16
  · injection h with h; subst h; exact c11_ok
  · injection h with h; subst h; exact c18_ok
  · injection h with h; subst h; exact okEqual
  · injection h with h; subst h; exact ok9
  · cases h
def q0 (nb : Nat) (r N : Int) : Fr := ⟨[.sl 0 (.c 0) (.s nb) none, .int .i64 (.s r), .int .i64 (.s N), .undef, .undef, .undef, .undef, .undef, .undef, .undef, .undef, .undef, .undef, .undef, .undef], []⟩
def q1 (nb R : Nat) (r N : Int) : Fr := ⟨[.sl 0 (.c 0) (.s nb) none, .int .i64 (.s r), .int .i64 (.s N), .undef, .undef, .undef, .undef, .sl 1 (.c 0) (.s R) none, .undef, .undef, .undef, .undef, .undef, .undef, .undef], []⟩
def q2 (nb R : Nat) (r N : Int) : Fr := ⟨[.sl 0 (.c 0) (.s nb) none, .int .i64 (.s r), .int .i64 (.s N), .undef, .undef, .undef, .undef, .sl 1 (.c 0) (.s R) none, .undef, .nils, .undef, .undef, .undef, .undef, .undef], []⟩
def q3 (nb R : Nat) (r N : Int) : Fr := ⟨[.sl 0 (.c 0) (.s nb) none, .int .i64 (.s r), .int .i64 (.s N), .undef, .undef, .undef, .undef, .sl 1 (.c 0) (.s R) none, .undef, .nils, .int .i64 (.c 0), .undef, .undef, .undef, .undef], []⟩
def qZ : Fr := ⟨[.undef, .undef, .undef, .undef, .undef, .undef, .bool (.c true), .undef, .undef, .undef, .undef, .undef, .undef, .undef, .undef], []⟩
theorem za (b : Vec 8) (nb : Nat) (r N : Int) : ranAs 1 none (q0 nb r N, [⟨.b8 b, .ro⟩]) (goP specsZ ras 6 [false] (q0 nb r N) ⟨[⟨.b8 b, .ro⟩], big, [], []⟩) = some (.normal, (q0 nb r N, [⟨.b8 b, .ro⟩]), []) := by kernel_rfl
theorem zb (b : Vec 8) (nb : Nat) (r N : Int) : ranAs 1 none (q0 nb r N, [⟨.b8 b, .ro⟩]) (goP specsZ ras 6 [true, false] (q0 nb r N) ⟨[⟨.b8 b, .ro⟩], big, [false], []⟩) = some (.normal, (q0 nb r N, [⟨.b8 b, .ro⟩]), [(decide ((2147483647 : Int) < ((nb : Nat) : Int)) == false)]) := by kernel_rfl
theorem zc (b : Vec 8) (nb : Nat) (r N : Int) : ranAs 1 none (q0 nb r N, [⟨.b8 b, .ro⟩]) (goP specsZ ras 6 [true, true, false] (q0 nb r N) ⟨[⟨.b8 b, .ro⟩], big, [false, false, false, false, false, true, true, true, true, true, true, true, true, true, false, false, false, false, false, false, false, false, false], []⟩) = some (.normal, (q0 nb r N, [⟨.b8 b, .ro⟩]), [((!(((nb : Nat) : Int) == (128 * r))) == false), ((!((andV .i64 N (N - 1)) == 0)) == false), ((!((andV .i64 N (N - 1)) == 0)) == false), decide ((((-9223372036854775808) : Int) ≤ (128 * r) ∧ (128 * r) ≤ 9223372036854775807)), ((!((andV .i64 N (N - 1)) == 0)) == false), ((!((andV .i64 N (N - 1)) == 0)) == false), ((!((andV .i64 N (N - 1)) == 0)) == false), ((!((andV .i64 N (N - 1)) == 0)) == false), (decide ((8 : Int) < r) == false), (decide ((8 : Int) < r) == false), (decide (N ≤ 1024) == true), (decide (N ≤ 1024) == true), decide ((0 : Int) ≤ (N - 1)), (decide (N ≤ 1024) == true), decide ((((-9223372036854775808) : Int) ≤ (N - 1) ∧ (N - 1) ≤ 9223372036854775807)), (decide (N ≤ 1024) == true), (decide (N ≤ 1024) == true), (decide (N ≤ 1024) == true), (decide ((2 : Int) ≤ N) == true), (decide ((2 : Int) ≤ N) == true), (decide ((2 : Int) ≤ N) == true), (decide ((8 : Int) < r) == false), (decide ((8 : Int) < r) == false), (decide (r < 1) == false), (decide (r < 1) == false), (decide (r < 1) == false)]) := by kernel_rfl
theorem zd (b : Vec 8) (nb : Nat) (r N : Int) : ranAs 1 none (q1 nb (32 * r).toNat r N, [⟨.b8 b, .ro⟩, ⟨.b32 (Vec.zero 32 (32 * r).toNat), .own⟩]) (goP specsZ ras 6 [true, true, true, false] (q0 nb r N) ⟨[⟨.b8 b, .ro⟩], big, [], []⟩) = some (.normal, (q1 nb (32 * r).toNat r N, [⟨.b8 b, .ro⟩, ⟨.b32 (Vec.zero 32 (32 * r).toNat), .own⟩]), [decide (((((32 * r)) : Int).toNat * 4) ≤ 1099511627776), ((decide ((0 : Int) ≤ (32 * r)) && decide ((32 * r) ≤ (32 * r))) && decide ((32 * r) ≤ 1099511627776)), decide ((((-9223372036854775808) : Int) ≤ (32 * r) ∧ (32 * r) ≤ 9223372036854775807))]) := by kernel_rfl
theorem ze (b : Vec 8) (nb : Nat) (r N : Int) : ranAs 1 none (q1 (raI b nb r N).nb (raI b nb r N).R (raI b nb r N).r (raI b nb r N).N, [⟨.b8 b, .ro⟩, ⟨.b32 (raI b nb r N).x, .own⟩]) (goP specsZ ras 6 [true, true, true, true, false] (q1 nb (32 * r).toNat r N) ⟨[⟨.b8 b, .ro⟩, ⟨.b32 (Vec.zero 32 (32 * r).toNat), .own⟩], big, [], []⟩) = some (.normal, (q1 (raI b nb r N).nb (raI b nb r N).R (raI b nb r N).r (raI b nb r N).N, [⟨.b8 b, .ro⟩, ⟨.b32 (raI b nb r N).x, .own⟩]), [decide (((0 : Int) ≤ 0 ∧ ((0 : Int) ≤ (((((32 * r)) : Int).toNat : Nat) : Int) ∧ ((((32 * r)) : Int).toNat ≤ 1000000 ∧ ((4 * (((32 * r)) : Int).toNat) ≤ nb ∧ (nb ≤ b.n ∧ (((32 * r)) : Int).toNat ≤ (((32 * r)) : Int).toNat))))))]) := by kernel_rfl
theorem zf (b : Vec 8) (x : Vec 32) (nb R : Nat) (r N : Int) : ranAs 1 none (q2 nb R r N, [⟨.b8 b, .ro⟩, ⟨.b32 x, .own⟩]) (goP specsZ ras 6 [true, true, true, true, true, false] (q1 nb R r N) ⟨[⟨.b8 b, .ro⟩, ⟨.b32 x, .own⟩], big, [], []⟩) = some (.normal, (q2 nb R r N, [⟨.b8 b, .ro⟩, ⟨.b32 x, .own⟩]), []) := by kernel_rfl
theorem zg (b : Vec 8) (x : Vec 32) (nb R : Nat) (r N : Int) : ranAs 1 none (q3 nb R r N, [⟨.b8 b, .ro⟩, ⟨.b32 x, .own⟩]) (goP specsZ ras 6 [true, true, true, true, true, true, false, false] (q2 nb R r N) ⟨[⟨.b8 b, .ro⟩, ⟨.b32 x, .own⟩], big, [], []⟩) = some (.normal, (q3 nb R r N, [⟨.b8 b, .ro⟩, ⟨.b32 x, .own⟩]), []) := by kernel_rfl
theorem zz (b : Vec 8) (v : Vec 32) (F : Nat → Vec 32) (nb k : Nat) (r N i : Int) : ranAs 1 (some [0]) (qZ, [⟨.b8 b, .ro⟩]) (goP specsZ ras 6 [true, true, true, true, true, true, true, true] ((prSt ⟨b, v, F, nb, k, r, N, i⟩).1) ⟨(prSt ⟨b, v, F, nb, k, r, N, i⟩).2, big, [], []⟩) = some (.ret, (qZ, [⟨.b8 b, .ro⟩]), [(eqCond (smixV b 0 nb r N) (encV v 0 (((32 * r)) : Int).toNat) 0 0 nb (4 * (((32 * r)) : Int).toNat)), decide (((0 + (((32 * r)) : Int).toNat) ≤ v.n ∧ (((32 * r)) : Int).toNat ≤ 1000000)), decide (((1 : Int) ≤ r ∧ (r ≤ 1000 ∧ ((2 : Int) ≤ N ∧ ((N % 2) = 0 ∧ (N ≤ 1000000 ∧ (((nb : Nat) : Int) = (128 * r) ∧ ((0 + nb) ≤ b.n ∧ ((32 * N) * r) ≤ 1000000000))))))))]) := by kernel_rfl
theorem runA (l : Vec 8) (r N : Int) : verdict (goB specsZ ras 6 [.sl 0 (.c 0) (.s l.n) none, .int .i64 (.s r), .int .i64 (.s N)] ⟨[⟨.b8 l, .ro⟩], big, [true], []⟩) = some (true, [(decide ((2147483647 : Int) < ((l.n : Nat) : Int)) == true)]) := by kernel_rfl
theorem runB (l : Vec 8) (r N : Int) : verdict (goB specsZ ras 6 [.sl 0 (.c 0) (.s l.n) none, .int .i64 (.s r), .int .i64 (.s N)] ⟨[⟨.b8 l, .ro⟩], big, [false, true, true, true], []⟩) = some (true, [(decide (r < 1) == true), (decide (r < 1) == true), (decide (r < 1) == true), (decide ((2147483647 : Int) < ((l.n : Nat) : Int)) == false)]) := by kernel_rfl
theorem runC (l : Vec 8) (r N : Int) : verdict (goB specsZ ras 6 [.sl 0 (.c 0) (.s l.n) none, .int .i64 (.s r), .int .i64 (.s N)] ⟨[⟨.b8 l, .ro⟩], big, [false, false, false, false, true, true, true, true], []⟩) = some (true, [(decide ((8 : Int) < r) == true), (decide ((8 : Int) < r) == true), (decide ((8 : Int) < r) == true), (decide ((8 : Int) < r) == true), (decide (r < 1) == false), (decide (r < 1) == false), (decide (r < 1) == false), (decide ((2147483647 : Int) < ((l.n : Nat) : Int)) == false)]) := by kernel_rfl
theorem runD (l : Vec 8) (r N : Int) : verdict (goB specsZ ras 6 [.sl 0 (.c 0) (.s l.n) none, .int .i64 (.s r), .int .i64 (.s N)] ⟨[⟨.b8 l, .ro⟩], big, [false, false, false, false, false, false, false, false, false, false, false], []⟩) = some (true, [(decide ((8 : Int) < r) == false), (decide ((8 : Int) < r) == false), (decide ((2 : Int) ≤ N) == false), (decide ((2 : Int) ≤ N) == false), (decide ((2 : Int) ≤ N) == false), (decide ((8 : Int) < r) == false), (decide ((8 : Int) < r) == false), (decide (r < 1) == false), (decide (r < 1) == false), (decide (r < 1) == false), (decide ((2147483647 : Int) < ((l.n : Nat) : Int)) == false)]) := by kernel_rfl
theorem runE (l : Vec 8) (r N : Int) : verdict (goB specsZ ras 6 [.sl 0 (.c 0) (.s l.n) none, .int .i64 (.s r), .int .i64 (.s N)] ⟨[⟨.b8 l, .ro⟩], big, [false, false, false, false, false, false, true, true, true, false, false, false, false, false, false, false, false], []⟩) = some (true, [(decide ((8 : Int) < r) == false), (decide ((8 : Int) < r) == false), (decide (N ≤ 1024) == false), (decide (N ≤ 1024) == false), (decide (N ≤ 1024) == false), (decide (N ≤ 1024) == false), (decide (N ≤ 1024) == false), (decide (N ≤ 1024) == false), (decide ((2 : Int) ≤ N) == true), (decide ((2 : Int) ≤ N) == true), (decide ((2 : Int) ≤ N) == true), (decide ((8 : Int) < r) == false), (decide ((8 : Int) < r) == false), (decide (r < 1) == false), (decide (r < 1) == false), (decide (r < 1) == false), (decide ((2147483647 : Int) < ((l.n : Nat) : Int)) == false)]) := by kernel_rfl
theorem runF (l : Vec 8) (r N : Int) : verdict (goB specsZ ras 6 [.sl 0 (.c 0) (.s l.n) none, .int .i64 (.s r), .int .i64 (.s N)] ⟨[⟨.b8 l, .ro⟩], big, [false, false, false, false, false, false, true, true, true, true, true, true, true, true, true, false, false, true, true, true, true, true, true], []⟩) = some (true, [((!((andV .i64 N (N - 1)) == 0)) == true), ((!((andV .i64 N (N - 1)) == 0)) == true), ((!((andV .i64 N (N - 1)) == 0)) == true), ((!((andV .i64 N (N - 1)) == 0)) == true), ((!((andV .i64 N (N - 1)) == 0)) == true), ((!((andV .i64 N (N - 1)) == 0)) == true), (decide ((8 : Int) < r) == false), (decide ((8 : Int) < r) == false), (decide (N ≤ 1024) == true), (decide (N ≤ 1024) == true), decide ((0 : Int) ≤ (N - 1)), (decide (N ≤ 1024) == true), decide ((((-9223372036854775808) : Int) ≤ (N - 1) ∧ (N - 1) ≤ 9223372036854775807)), (decide (N ≤ 1024) == true), (decide (N ≤ 1024) == true), (decide (N ≤ 1024) == true), (decide ((2 : Int) ≤ N) == true), (decide ((2 : Int) ≤ N) == true), (decide ((2 : Int) ≤ N) == true), (decide ((8 : Int) < r) == false), (decide ((8 : Int) < r) == false), (decide (r < 1) == false), (decide (r < 1) == false), (decide (r < 1) == false), (decide ((2147483647 : Int) < ((l.n : Nat) : Int)) == false)]) := by kernel_rfl
theorem runG (l : Vec 8) (r N : Int) : verdict (goB specsZ ras 6 [.sl 0 (.c 0) (.s l.n) none, .int .i64 (.s r), .int .i64 (.s N)] ⟨[⟨.b8 l, .ro⟩], big, [false, false, false, false, false, false, true, true, true, true, true, true, true, true, true, false, false, false, false, false, false, false, false, true], []⟩) = some (true, [((!(((l.n : Nat) : Int) == (128 * r))) == true), ((!((andV .i64 N (N - 1)) == 0)) == false), ((!((andV .i64 N (N - 1)) == 0)) == false), decide ((((-9223372036854775808) : Int) ≤ (128 * r) ∧ (128 * r) ≤ 9223372036854775807)), ((!((andV .i64 N (N - 1)) == 0)) == false), ((!((andV .i64 N (N - 1)) == 0)) == false), ((!((andV .i64 N (N - 1)) == 0)) == false), ((!((andV .i64 N (N - 1)) == 0)) == false), (decide ((8 : Int) < r) == false), (decide ((8 : Int) < r) == false), (decide (N ≤ 1024) == true), (decide (N ≤ 1024) == true), decide ((0 : Int) ≤ (N - 1)), (decide (N ≤ 1024) == true), decide ((((-9223372036854775808) : Int) ≤ (N - 1) ∧ (N - 1) ≤ 9223372036854775807)), (decide (N ≤ 1024) == true), (decide (N ≤ 1024) == true), (decide (N ≤ 1024) == true), (decide ((2 : Int) ≤ N) == true), (decide ((2 : Int) ≤ N) == true), (decide ((2 : Int) ≤ N) == true), (decide ((8 : Int) < r) == false), (decide ((8 : Int) < r) == false), (decide (r < 1) == false), (decide (r < 1) == false), (decide (r < 1) == false), (decide ((2147483647 : Int) < ((l.n : Nat) : Int)) == false)]) := by kernel_rfl
theorem body6 : bodyIn Try.prog 6 = .seq (sub [false] (bodyIn Try.prog 6)) (.seq (sub [true, false] (bodyIn Try.prog 6)) (.seq (sub [true, true, false] (bodyIn Try.prog 6)) (.seq (sub [true, true, true, false] (bodyIn Try.prog 6)) (.seq (sub [true, true, true, true, false] (bodyIn Try.prog 6)) (.seq (sub [true, true, true, true, true, false] (bodyIn Try.prog 6)) (.seq (.seq (sub [true, true, true, true, true, true, false, false] (bodyIn Try.prog 6)) (.block 2 (.loop (loopIn Try.prog 6 1)))) (.seq (.seq (sub [true, true, true, true, true, true, true, false, false] (bodyIn Try.prog 6)) (.block 4 (.loop (loopIn Try.prog 6 2)))) (sub [true, true, true, true, true, true, true, true] (bodyIn Try.prog 6))))))))) := by kernel_rfl
theorem nil_ok : ∀ x ∈ ([] : List Bool), x = true := fun x h => by cases h
theorem main_wp (b : Vec 8) (nb p : Nat) (N : Int) (g1 : b.n = nb) (g2 : nb = 4 * (32 * p)) (g3 : 1 ≤ p) (g4 : p ≤ 8) (g5 : 2 ≤ N) (g6 : N ≤ 1024) (g7 : N % 2 = 0) (g8 : andV .i64 N (N - 1) = 0) {β : Map} {w : World} {a : Act} (hdB : ∀ b L, β b = some L → b < 1)
    (hF : FRel (nv 6) (ntmpsIn Try.prog 6) β (q0 nb p N) a) (hH : HRel noGlob β [⟨.b8 b, .ro⟩] w) (Q : Exit → Act → World → Prop)
    (hQ : ∀ a' w' β', FRel (nv 6) (ntmpsIn Try.prog 6) β' qZ a' → HRel noGlob β' [⟨.b8 b, .ro⟩] w' → Stq 1 β [⟨.b8 b, .ro⟩] w β' [⟨.b8 b, .ro⟩] w' → Q .ret a' w') : (bodyIn Try.prog 6).wp Try.prog Q a w := by
  have P (q : List Bool) := goP_ok specsZ_ok (ras_ok specsZ) 6 q fine6
  have hm : 32 * N * (p : Int) ≤ 32 * 1024 * 8 := Int.mul_le_mul (show 32 * N ≤ 32 * 1024 by omega) (show (p : Int) ≤ 8 by omega) (by omega) (by omega)
  have hx0 : (wordsV b (32 * p)).n = 32 * p := rfl
  rw [body6]
  refine wp_seq ((P [false]).step (n0 := 1) (za b nb p N) nil_ok (Nat.le_refl _) (Nat.le_refl _) hdB hF hH ((Stp.refl ..).q (Nat.le_refl _)) fun a1 w1 β1 f1 h1 s1 _ _ => ?_)
  refine wp_seq ((P [true, false]).step (n0 := 1) (zb b nb p N) ?_ (Nat.le_refl _) (Nat.le_refl _) hdB f1 h1 s1 fun a2 w2 β2 f2 h2 s2 _ _ => ?_)
  · repeat' (refine all_true_cons ?_ ?_)
    all_goals first | exact all_true_nil | (simp only [Bool.and_eq_true, decide_eq_true_eq, beq_iff_eq, beq_true, beq_false, Bool.not_eq_true', decide_eq_false_iff_not, beq_eq_false_iff_ne, ne_eq, Bool.not_eq_false', bne_iff_ne, true_and, and_true] <;> omega)
  refine wp_seq ((P [true, true, false]).step (n0 := 1) (zc b nb p N) ?_ (Nat.le_refl _) (Nat.le_refl _) hdB f2 h2 s2 fun a3 w3 β3 f3 h3 s3 _ _ => ?_)
  · repeat' (refine all_true_cons ?_ ?_)
    all_goals first | exact all_true_nil | (simp only [g8, Bool.and_eq_true, decide_eq_true_eq, beq_iff_eq, beq_true, beq_false, Bool.not_eq_true', decide_eq_false_iff_not, beq_eq_false_iff_ne, ne_eq, Bool.not_eq_false', bne_iff_ne, true_and, and_true] <;> omega)
  refine wp_seq ((P [true, true, true, false]).step (n0 := 1) (zd b nb p N) ?_ (Nat.le_refl _) (Nat.le_refl _) hdB f3 h3 s3 fun a4 w4 β4 f4 h4 s4 _ _ => ?_)
  · repeat' (refine all_true_cons ?_ ?_)
    all_goals first | exact all_true_nil | (simp only [Bool.and_eq_true, decide_eq_true_eq, beq_iff_eq, beq_true, beq_false, Bool.not_eq_true', decide_eq_false_iff_not, beq_eq_false_iff_ne, ne_eq, Bool.not_eq_false', bne_iff_ne, true_and, and_true] <;> omega)
  refine wp_seq ((P [true, true, true, true, false]).step (n0 := 1) (ze b nb p N) ?_ (Nat.le_refl _) (by show 1 ≤ 2; omega) hdB f4 h4 s4 fun a5 w5 β5 f5 h5 s5 _ _ => ?_)
  · repeat' (refine all_true_cons ?_ ?_)
    all_goals first | exact all_true_nil | (simp only [Bool.and_eq_true, decide_eq_true_eq, beq_iff_eq, beq_true, beq_false, Bool.not_eq_true', decide_eq_false_iff_not, beq_eq_false_iff_ne, ne_eq, Bool.not_eq_false', bne_iff_ne, true_and, and_true] <;> omega)
  rw [raI_eq, pR] at f5 h5 s5
  refine wp_seq ((P [true, true, true, true, true, false]).step (n0 := 1) (zf b (wordsV b (32 * p)) nb (32 * p) p N) nil_ok (Nat.le_refl _) (by show 1 ≤ 2; omega) hdB f5 h5 s5 fun a6 w6 β6 f6 h6 s6 _ _ => ?_)
  refine wp_seq (wp_seq ((P [true, true, true, true, true, true, false, false]).step (n0 := 1) (zg b (wordsV b (32 * p)) nb (32 * p) p N) nil_ok (Nat.le_refl _) (by show 1 ≤ 2; omega) hdB f6 h6 s6 fun a7 w7 β7 f7 h7 s7 _ _ => wp_block ?_))
  -- the rows that are kept: none yet
  obtain ⟨u1, u2⟩ := h7.ghost (gh := [⟨.kn [] [], .own⟩, ⟨.gen [], .dead⟩]) (by intro k hk; simp only [List.mem_cons, List.not_mem_nil, or_false] at hk; rcases hk with rfl | rfl <;> rfl)
  have s8 : Stq 1 β [⟨.b8 b, .ro⟩] w β7 [⟨.b8 b, .ro⟩, ⟨.b32 (wordsV b (32 * p)), .own⟩, ⟨.kn [] [], .own⟩, ⟨.gen [], .dead⟩] w7 := s7.wk hdB (fun _ _ => rfl) (by show 1 ≤ 4; omega) u2
  have f7' : FRel (nv 6) (ntmpsIn Try.prog 6) β7 (q3 nb (32 * (p : Int)).toNat p N) a7 := by rw [pR]; exact f7
  obtain ⟨β8, f8, h8, s9, _, _⟩ := weaker (p := krSt ⟨b, wordsV b (32 * p), nb, 0, p, N, 0⟩ []) (rs := some [0, 2, 1, 3]) s8 hdB (Nat.le_refl _) (by show 1 ≤ 4; omega) (F2 := q3 nb (32 * (p : Int)).toNat p N) rfl rfl f7' u1 (Stp.refl ..)
  refine kr_told ⟨b, wordsV b (32 * p), nb, 0, p, N, 0⟩ (decide_eq_true ⟨by show (0 : Int) ≤ 0; omega, by show 0 ≤ N; omega, by show N ≤ 1000000; omega, rfl, by show 32 * p = (32 * (p : Int)).toNat; omega, by show 1 ≤ (p : Int); omega, by show (p : Int) ≤ 1000; omega⟩) rfl hdB f8 h8 s9 _ fun a10 w10 β10 l hl f10 h10 s10 hfam => ?_
  have hl : l.length = (N - 0).toNat := hl
  rw [Int.sub_zero] at hl
  have e0 : (KrD.N ⟨b, wordsV b (32 * p), nb, 0, p, N, 0⟩ - KrD.i ⟨b, wordsV b (32 * p), nb, 0, p, N, 0⟩).toNat = N.toNat := by show (N - 0).toNat = _; rw [Int.sub_zero]
  rw [e0, kr_iter p g3 b _ hx0] at f10 h10 s10 hfam
  have hfam : Fam β10 (krSt ⟨b, wK p (wordsV b (32 * p)) N.toNat, nb, N.toNat, p, N, ((N.toNat : Nat) : Int)⟩ l).2 w10 l (fun K => .b32 (wK p (wordsV b (32 * p)) K)) := by
    have e : (fun K => Data.b32 (iter krNext K ⟨b, wordsV b (32 * p), nb, 0, p, N, 0⟩).v) = fun K => Data.b32 (wK p (wordsV b (32 * p)) K) := by
      funext K; rw [kr_iter p g3 b _ hx0]
    rw [e] at hfam; exact hfam
  show (Exit.inBlock 2 _) (.exit 2) a10 w10
  simp only [Exit.inBlock, if_true]
  refine wp_seq (wp_seq ((goP_ok specsR_ok (ras_ok specsR) 6 [true, true, true, true, true, true, true, false, false] fine6).step (n0 := 1) (gr_run b (wK p (wordsV b (32 * p)) N.toNat) l nb N.toNat p N _) nil_ok (by omega) (by show 2 ≤ 4; omega) hdB f10 h10 s10 fun a11 w11 β11 f11 h11 s11 k11 _ => wp_block ?_))
  obtain ⟨z1, z2, z3⟩ := kn_kept (a := 1) (l := l) h11 rfl (by omega)
  have s12 : Stq 1 β [⟨.b8 b, .ro⟩] w β11 ((grSt b (wK p (wordsV b (32 * p)) N.toNat) l nb N.toNat p N).2.set 1 ⟨.gen [], .dead⟩) w11 := s11.wk hdB (fun _ _ => rfl) (by show 1 ≤ 4; omega) z3
  have k12 : Keeps β10 (krSt ⟨b, wK p (wordsV b (32 * p)) N.toNat, nb, N.toNat, p, N, ((N.toNat : Nat) : Int)⟩ l).2 w10 β11 ((grSt b (wK p (wordsV b (32 * p)) N.toNat) l nb N.toNat p N).2.set 1 ⟨.gen [], .dead⟩) w11 := k11.less z3
  have hfam12 := hfam.keep k12
  have hwn : ∀ K, (wK p (wordsV b (32 * p)) K).n = (32 * (p : Int)).toNat := fun K => by rw [wK_n p _ g3 hx0 K]; omega
  refine pr_told (n0 := 1) (by omega) ⟨b, wK p (wordsV b (32 * p)) N.toNat, wK p (wordsV b (32 * p)), nb, N.toNat, p, N, 0⟩ ⟨by show (0 : Int) ≤ 0; omega, by show 0 ≤ N; omega, g5, by show N ≤ 1000000; omega, by show ((N.toNat : Nat) : Int) = N; omega, hwn _, by show 1 ≤ (p : Int); omega, by show (p : Int) ≤ 1000; omega, fun K _ => hwn K⟩ hdB (l := l) hl f11 z1 s12 z2 (fun K _ v hv => hfam12 K v hv) _ fun a13 w13 β13 f13 h13 s13 => ?_
  have e1 : (PrD.N ⟨b, wK p (wordsV b (32 * p)) N.toNat, wK p (wordsV b (32 * p)), nb, N.toNat, p, N, 0⟩ - PrD.i ⟨b, wK p (wordsV b (32 * p)) N.toNat, wK p (wordsV b (32 * p)), nb, N.toNat, p, N, 0⟩).toNat = N.toNat := by show (N - 0).toNat = _; rw [Int.sub_zero]
  rw [e1, pr_iter p g3 b _ hx0 nb N.toNat N g5 (by omega)] at f13 h13 s13
  show (Exit.inBlock 4 _) (.exit 4) a13 w13
  simp only [Exit.inBlock, if_true]
  have hyn := yK_n p (wordsV b (32 * p)) N g3 hx0 N.toNat
  have hs : smixV b 0 nb p N = encV (yK p (wordsV b (32 * p)) N N.toNat) 0 (32 * p) := by
    rw [g2, smix_ref p g3 (by omega) b (g1.trans g2) N g5 (by omega) g7, ref_mix p g3 (by omega) b (g1.trans g2) N g5 (by omega)]
  refine (P [true, true, true, true, true, true, true, true]).step (n0 := 1) (zz b (yK p (wordsV b (32 * p)) N N.toNat) (wK p (wordsV b (32 * p))) nb N.toNat p N _) ?_ (Nat.le_refl _) (by show 1 ≤ 4; omega) hdB f13 h13 s13 fun a14 w14 β14 f14 h14 s14 _ _ => hQ a14 w14 β14 f14 h14 s14
  refine all_true_cons ?_ ?_
  · rw [hs, pR]
    exact decide_eq_true ⟨g2, by show 0 + nb ≤ 4 * (32 * p); omega, by show 0 + 4 * (32 * p) ≤ 4 * (32 * p); omega, by omega, fun _ _ => rfl⟩
  repeat' (refine all_true_cons ?_ ?_)
  all_goals first | exact all_true_nil | (simp only [hyn, Bool.and_eq_true, decide_eq_true_eq, beq_iff_eq, beq_true, beq_false, Bool.not_eq_true', decide_eq_false_iff_not, beq_eq_false_iff_ne, ne_eq, Bool.not_eq_false', bne_iff_ne, true_and, and_true] <;> omega)
theorem even_of (N : Int) (h1 : ¬ N < 2) (h2 : ¬ 1024 < N) (h : andV .i64 N (N - 1) = 0) : N % 2 = 0 := by
  rw [(andV_nat N N (by omega) (by omega)).1] at h
  have h0 : (BitVec.ofInt 64 N &&& BitVec.ofInt 64 (N - 1)) = 0#64 := by
    refine BitVec.eq_of_toNat_eq ?_
    have : (BitVec.ofInt 64 N &&& BitVec.ofInt 64 (N - 1)).toNat = 0 := by omega
    rw [this]; rfl
  obtain ⟨n, rfl⟩ := Int.eq_ofNat_of_zero_le (show 0 ≤ N by omega)
  rcases Nat.mod_two_eq_zero_or_one n with e | e
  · omega
  · -- odd: take away one, the bits above stay
    exfalso
    obtain ⟨k, rfl⟩ : ∃ k, n = 2 * k + 1 := ⟨n / 2, by omega⟩
    have hk : 1 ≤ k := by omega
    have t1 : (BitVec.ofInt 64 ((2 * k + 1 : Nat) : Int)).toNat = 2 * k + 1 := by rw [BitVec.toNat_ofInt]; omega
    have t2 : (BitVec.ofInt 64 (((2 * k + 1 : Nat) : Int) - 1)).toNat = 2 * k := by rw [BitVec.toNat_ofInt]; omega
    have t3 := congrArg BitVec.toNat h0
    rw [BitVec.toNat_and, t1, t2] at t3
    have t4 : (2 * k + 1) &&& (2 * k) = 2 * k := by
      refine Nat.eq_of_testBit_eq fun i => ?_
      rw [Nat.testBit_and]
      cases i with
      | zero => simp
      | succ i =>
        rw [Nat.testBit_succ, Nat.testBit_succ, show (2 * k + 1) / 2 = k by omega, show 2 * k / 2 = k by omega, Bool.and_self]
    rw [t4] at t3
    have : 2 * k = 0 := t3
    omega
theorem walk {W0 : World} {v0 : Value} (l : Vec 8) (w0 : SlOk W0 v0 (.b8 l)) (m0 : l.n ≤ maxLen) (r : Int) (_ : (Lit.int .i64 r).wf = true) (N : Int) (_ : (Lit.int .i64 N).wf = true) :
    Calls Try.prog 6 #[v0, .int .i64 r, .int .i64 N] W0 fun e W' => e = .returned (.bool true) ∧ Still W0 W' := by
  have hb := goB_ok specsZ_ok (ras_ok specsZ)
  have args3 : ∀ β, (∀ (i : Nat) v d, [(v0, Eng.Data.b8 l)][i]? = some (v, d) → VRel β (.sl i (.c 0) (.s d.len) none) v) → LRel β [.sl 0 (.c 0) (.s l.n) none, .int .i64 (.s r), .int .i64 (.s N)] [v0, .int .i64 r, .int .i64 N] :=
    fun β h => LRel.cons (h 0 v0 _ rfl) (LRel.cons (rel_int .i64 r) (LRel.cons (rel_int .i64 N) (LRel.nil β)))
  by_cases hA : 2147483647 < l.n
  case pos =>
    refine law_run hb [(v0, .b8 l)] (ss_cons w0 ss_nil) (runA l r N) ?_ args3
    repeat' (refine all_true_cons ?_ ?_)
    all_goals first | exact all_true_nil | (simp only [Bool.and_eq_true, decide_eq_true_eq, beq_iff_eq, beq_true, beq_false, Bool.not_eq_true', decide_eq_false_iff_not, beq_eq_false_iff_ne, ne_eq, Bool.not_eq_false', bne_iff_ne, true_and, and_true] <;> omega)
  by_cases hB : r < 1
  case pos =>
    refine law_run hb [(v0, .b8 l)] (ss_cons w0 ss_nil) (runB l r N) ?_ args3
    repeat' (refine all_true_cons ?_ ?_)
    all_goals first | exact all_true_nil | (simp only [Bool.and_eq_true, decide_eq_true_eq, beq_iff_eq, beq_true, beq_false, Bool.not_eq_true', decide_eq_false_iff_not, beq_eq_false_iff_ne, ne_eq, Bool.not_eq_false', bne_iff_ne, true_and, and_true] <;> omega)
  by_cases hC : 8 < r
  case pos =>
    refine law_run hb [(v0, .b8 l)] (ss_cons w0 ss_nil) (runC l r N) ?_ args3
    repeat' (refine all_true_cons ?_ ?_)
    all_goals first | exact all_true_nil | (simp only [Bool.and_eq_true, decide_eq_true_eq, beq_iff_eq, beq_true, beq_false, Bool.not_eq_true', decide_eq_false_iff_not, beq_eq_false_iff_ne, ne_eq, Bool.not_eq_false', bne_iff_ne, true_and, and_true] <;> omega)
  by_cases hD : N < 2
  case pos =>
    refine law_run hb [(v0, .b8 l)] (ss_cons w0 ss_nil) (runD l r N) ?_ args3
    repeat' (refine all_true_cons ?_ ?_)
    all_goals first | exact all_true_nil | (simp only [Bool.and_eq_true, decide_eq_true_eq, beq_iff_eq, beq_true, beq_false, Bool.not_eq_true', decide_eq_false_iff_not, beq_eq_false_iff_ne, ne_eq, Bool.not_eq_false', bne_iff_ne, true_and, and_true] <;> omega)
  by_cases hE : 1024 < N
  case pos =>
    refine law_run hb [(v0, .b8 l)] (ss_cons w0 ss_nil) (runE l r N) ?_ args3
    repeat' (refine all_true_cons ?_ ?_)
    all_goals first | exact all_true_nil | (simp only [Bool.and_eq_true, decide_eq_true_eq, beq_iff_eq, beq_true, beq_false, Bool.not_eq_true', decide_eq_false_iff_not, beq_eq_false_iff_ne, ne_eq, Bool.not_eq_false', bne_iff_ne, true_and, and_true] <;> omega)
  by_cases hF : andV .i64 N (N - 1) ≠ 0
  case pos =>
    refine law_run hb [(v0, .b8 l)] (ss_cons w0 ss_nil) (runF l r N) ?_ args3
    repeat' (refine all_true_cons ?_ ?_)
    all_goals first | exact all_true_nil | (simp only [Bool.and_eq_true, decide_eq_true_eq, beq_iff_eq, beq_true, beq_false, Bool.not_eq_true', decide_eq_false_iff_not, beq_eq_false_iff_ne, ne_eq, Bool.not_eq_false', bne_iff_ne, true_and, and_true] <;> omega)
  by_cases hG : (l.n : Int) ≠ 128 * r
  case pos =>
    refine law_run hb [(v0, .b8 l)] (ss_cons w0 ss_nil) (runG l r N) ?_ args3
    repeat' (refine all_true_cons ?_ ?_)
    all_goals first | exact all_true_nil | (simp only [Bool.and_eq_true, decide_eq_true_eq, beq_iff_eq, beq_true, beq_false, Bool.not_eq_true', decide_eq_false_iff_not, beq_eq_false_iff_ne, ne_eq, Bool.not_eq_false', bne_iff_ne, true_and, and_true] <;> omega)
  obtain ⟨p, rfl⟩ := Int.eq_ofNat_of_zero_le (show 0 ≤ r by omega)
  have hF8 : andV .i64 N (N - 1) = 0 := by omega
  have hev : N % 2 = 0 := even_of N hD hE hF8
  obtain ⟨β, hH, hv⟩ := ro_heap (W := W0) [(v0, .b8 l)] (ss_cons w0 ss_nil)
  have hargs := args3 β hv
  refine (calls_body (C := cfg specsZ ras) (G := noGlob) rfl (f := 6) (by kernel_rfl) hargs (by show 3 ≤ ntmpsIn Try.prog 6; rw [show ntmpsIn Try.prog 6 = 156 by kernel_rfl]; omega) fun a hF => ?_).2
  refine main_wp l l.n p N rfl (by omega) (by omega) (by omega) (by omega) (by omega) hev hF8 (fun x L h => hH.dom x L h) hF hH _ fun a' w' β' f h s => ⟨rfl, qZ, ⟨[⟨.b8 l, .ro⟩], big, [], []⟩, ⟨[⟨.b8 l, .ro⟩], big, [], []⟩, [.bool (.c true)], β', by kernel_rfl, nil_ok, f, h, fun u hu => ?_⟩
  have hu : VRel β' (.atom (.bool (.c true))) u := hu
  refine ⟨by rw [hu.bool_inv]; rfl, s.os, s.output, s.size, fun c hc => s.kept c hc ?_⟩
  rintro ⟨b', k, L, hk, ho, _⟩
  match b', hk with
  | 0, hk =>
    have hk : some (Blk.mk (.b8 l) .ro) = some k := hk
    injection hk with hk; subst hk; cases ho
  | b' + 1, hk => exact absurd hk (by simp)


theorem own : ownKnob Try.prog.godebug = none := by kernel_rfl
theorem laidOut : laidOutB Try.prog = true := by kernel_rfl
theorem read22 : Try.prog.readableRec 22 = true ∧ 22 < Try.prog.types.size := ⟨by kernel_rfl, of_decide_eq_true (by kernel_rfl)⟩
theorem read3 : Try.prog.readableRec 3 = true ∧ 3 < Try.prog.types.size := ⟨by kernel_rfl, of_decide_eq_true (by kernel_rfl)⟩
theorem cells5 : Try.prog.cellsOf 5 = 1 := by kernel_rfl
set_option maxRecDepth 100000 in
theorem contract (H : Type) (enc : TypeId × Value → H) (W : World) (base : Nat) (args : Array Value) (ds gs : List (DataW H)) (before : List MemPlace)
    (hval : ∀ (j : Nat) t v, Try.f6.params[j]? = some t → args[j]? = some v → Value.okWide Try.prog W .any base t v)
    (hW : DataW.Whole enc Try.prog Try.f6.params.toList Rows.fnScryptRoadSpec.vars false W args.toList ds gs before) :
    Calls Try.prog 6 args W fun e W' => ∃ v, e = .returned v ∧ Rows.fnScryptRoadSpec.post enc Try.prog Try.f6 false true false false W args v W' := by
  have hW' := hW
  obtain ⟨p, q, hA0, hV, rfl, hfz, hnd⟩ := hW
  have hA : DataW.TrodAll enc Try.prog W 0 (fun _ => true) true Try.f6.params.toList args.toList ds p := hA0
  rw [Try.params6] at hA hval
  obtain ⟨v0, vs0, d0, ds0, p0, q0, hargs, rfl, rfl, h0, r0⟩ := trodAll_cons hA
  obtain ⟨v1, vs1, d1, ds1, p1, q1, rfl, rfl, rfl, h1, r1⟩ := trodAll_cons r0
  obtain ⟨v2, vs2, d2, ds2, p2, q2, rfl, rfl, rfl, h2, r2⟩ := trodAll_cons r1
  obtain ⟨rfl, rfl, rfl⟩ := trodAll_nil r2
  obtain rfl : args = #[v0, v1, v2] := by cases args; simp_all
  obtain ⟨l0, w0, m0⟩ := open_sl8 Try.underlying22 Try.underlying5 cells5 (hval 0 22 v0 rfl rfl) h0
  obtain ⟨n1, rfl, rfl, rfl, w1⟩ := open_int Try.underlying3 (hval 1 3 v1 rfl rfl) h1
  obtain ⟨n2, rfl, rfl, rfl, w2⟩ := open_int Try.underlying3 (hval 2 3 v2 rfl rfl) h2
  refine (walk l0 w0 m0 n1 w1 n2 w2).mono fun e W' ⟨he, hs⟩ => ?_
  subst he
  exact ⟨_, rfl, post_of_still (tb := 4) hW' rfl rfl laidOut (by
    intro t ht
    rw [Try.params6] at ht
    have : t = 22 ∨ t = 3 := by simpa using ht
    rcases this with rfl | rfl
    · exact read22
    · exact read3
    ) (by kernel_rfl) Try.underlying4 hs⟩
set_option maxRecDepth 100000 in
theorem lifted (os : Os) (started : os.Started) (H : Type) (enc : TypeId × Value → H) :
    ReturnsInHanded {} Try.checked os 6 .any (Rows.fnScryptRoadSpec.pre6 enc Try.prog Try.f6 Rows.fnScryptRoadRow.domain false) (Rows.fnScryptRoadSpec.post enc Try.prog Try.f6 false true false false) := by
  refine returnsInHanded_of_change (C := Try.checked) own started (by kernel_rfl) Try.func6
    (ChangeSpec.witness6 (enc := enc) (C := Try.checked) false ⟨#[], #[.slice none 0 0, .int .i64 0, .int .i64 0], []⟩ 8 (by kernel_rfl) (by kernel_rfl) (by kernel_rfl) (by kernel_rfl)) ?_
  intro W base args ds gs before hval hW _ _
  exact contract H enc W base args ds gs before hval hW
theorem holds : Rows.FnScryptRoadSaid :=
  OpenClaim.holds_of_wide 6 Try.f6 rfl rfl rfl rfl rfl rfl rfl ⟨rfl, rfl, rfl, rfl, rfl⟩ rfl rfl rfl rfl rfl (by kernel_rfl) Try.func6 (by kernel_rfl)
    (of_decide_eq_true (by kernel_rfl)) (by unfold Func.isWrapper; first | (rw [if_pos (by decide +kernel)]; kernel_rfl) | (rw [if_neg (by decide +kernel)]; exact ⟨rfl, rfl⟩))
    (fun os started H enc _ => lifted os started H enc)
end Go.Proofs.Ytnonaagcnenbdaa.roadLaw

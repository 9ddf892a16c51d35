/- FnScryptBlockMix: of all words and all r: where r is from 1 to 8 and there are 32 * r words, the package's mix of blocks is the reference's; else the law says true. No condition. -/
import Derived.Test.YtnonaagcnenbdaaR1BMixQ
import Derived.Test.YtnonaagcnenbdaaRows
import Derived.WalkKit
import Derived.ProofKit
import Derived.OpenShut
namespace Go.Proofs.Ytnonaagcnenbdaa.blockMixLaw
open Go.ChangeShapes Go.WideShapes Go.ChangeAt Go.RowKit
open Go.Eng blockRoad
def specs5 : FuncId → Option Eng.Spec
  | 16 => some sp16
  | 17 => some c17.spec
  | 15 => some spNqual
  | 9 => some sp9
  | _ => none
theorem specs5_ok : ∀ f sp, specs5 f = some sp → SpecOk Try.prog noGlob f sp := by
  intro f sp h
  unfold specs5 at h
  split at h
  · injection h with h; subst h; exact ok16
  · injection h with h; subst h; exact c17_ok
  · injection h with h; subst h; exact okNqual
  · injection h with h; subst h; exact ok9
  · cases h
theorem runA (l : Vec 32) (r : Int) : verdict (goB specs5 noLoop 5 [.sl 0 (.c 0) (.s l.n) none, .int .i64 (.s r)] ⟨[⟨.b32 l, .ro⟩], big, [true], []⟩) = some (true, [(decide ((2147483647 : Int) < ((l.n : Nat) : Int)) == true)]) := by kernel_rfl
theorem runB (l : Vec 32) (r : Int) : verdict (goB specs5 noLoop 5 [.sl 0 (.c 0) (.s l.n) none, .int .i64 (.s r)] ⟨[⟨.b32 l, .ro⟩], big, false :: List.replicate 30 true, []⟩) = some (true, [(decide (r < 1) == true), (decide (r < 1) == true), (decide (r < 1) == true), (decide ((2147483647 : Int) < ((l.n : Nat) : Int)) == false)]) := by kernel_rfl
theorem runC (l : Vec 32) (r : Int) : verdict (goB specs5 noLoop 5 [.sl 0 (.c 0) (.s l.n) none, .int .i64 (.s r)] ⟨[⟨.b32 l, .ro⟩], big, false :: false :: false :: false :: List.replicate 30 true, []⟩) = some (true, [(decide ((8 : Int) < r) == true), (decide ((8 : Int) < r) == true), (decide ((8 : Int) < r) == true), (decide ((8 : Int) < r) == true), (decide ((8 : Int) < r) == true), (decide ((8 : Int) < r) == true), (decide (r < 1) == false), (decide (r < 1) == false), (decide (r < 1) == false), (decide ((2147483647 : Int) < ((l.n : Nat) : Int)) == false)]) := by kernel_rfl
theorem runD (l : Vec 32) (r : Int) : verdict (goB specs5 noLoop 5 [.sl 0 (.c 0) (.s l.n) none, .int .i64 (.s r)] ⟨[⟨.b32 l, .ro⟩], big, List.replicate 10 false ++ [true], []⟩) = some (true, [((!(((l.n : Nat) : Int) == (32 * r))) == true), (decide ((8 : Int) < r) == false), (decide ((8 : Int) < r) == false), decide (((-9223372036854775808) ≤ (32 * r) ∧ (32 * r) ≤ 9223372036854775807)), (decide ((8 : Int) < r) == false), (decide ((8 : Int) < r) == false), (decide ((8 : Int) < r) == false), (decide ((8 : Int) < r) == false), (decide (r < 1) == false), (decide (r < 1) == false), (decide (r < 1) == false), (decide ((2147483647 : Int) < ((l.n : Nat) : Int)) == false)]) := by kernel_rfl
theorem runE (l : Vec 32) (r : Int) : verdict (goB specs5 noLoop 5 [.sl 0 (.c 0) (.s l.n) none, .int .i64 (.s r)] ⟨[⟨.b32 l, .ro⟩], big, List.replicate 11 false, []⟩) = some (true, [nqCond (mixV l 0 l.n r) (bmRef l 0 l.n) 0 0 (32 * r).toNat l.n, decide (1 ≤ r ∧ r ≤ 1000 ∧ (l.n : Int) = 32 * r ∧ 0 + l.n ≤ l.n), decide (1 ≤ r ∧ r ≤ 1000000 ∧ ((0 : Nat) : Int) + 32 * r ≤ l.n ∧ 32 * r ≤ l.n), ((!(((l.n : Nat) : Int) == (32 * r))) == false), (decide ((8 : Int) < r) == false), (decide ((8 : Int) < r) == false), decide (((-9223372036854775808) ≤ (32 * r) ∧ (32 * r) ≤ 9223372036854775807)), (decide ((8 : Int) < r) == false), (decide ((8 : Int) < r) == false), (decide ((8 : Int) < r) == false), (decide ((8 : Int) < r) == false), (decide (r < 1) == false), (decide (r < 1) == false), (decide (r < 1) == false), (decide ((2147483647 : Int) < ((l.n : Nat) : Int)) == false)]) := by kernel_rfl
theorem walk {W0 : World} {v0 : Value} (l : Vec 32) (w0 : SlOk W0 v0 (.b32 l)) (m0 : l.n ≤ maxLen) (r : Int) (_ : (Lit.int .i64 r).wf = true) :
    Calls Try.prog 5 #[v0, .int .i64 r] W0 fun e W' => e = .returned (.bool true) ∧ Still W0 W' := by
  have hb := goB_ok specs5_ok (no_loops specs5)
  have args2 : ∀ β, (∀ (i : Nat) v d, [(v0, Eng.Data.b32 l)][i]? = some (v, d) → VRel β (.sl i (.c 0) (.s d.len) none) v) → LRel β [.sl 0 (.c 0) (.s l.n) none, .int .i64 (.s r)] [v0, .int .i64 r] :=
    fun β h => LRel.cons (h 0 v0 _ rfl) (LRel.cons (rel_int .i64 r) (LRel.nil β))
  by_cases hA : 2147483647 < l.n
  case pos =>
    refine law_run hb [(v0, .b32 l)] (ss_cons w0 ss_nil) (runA l r) ?_ args2
    repeat' (refine all_true_cons ?_ ?_)
    all_goals first | exact all_true_nil | (simp only [beq_true, beq_false, decide_eq_true_eq, Bool.not_eq_true', decide_eq_false_iff_not, beq_eq_false_iff_ne, ne_eq, Bool.not_eq_false', beq_iff_eq, Bool.and_eq_true]; omega)
  by_cases hB : r < 1
  case pos =>
    refine law_run hb [(v0, .b32 l)] (ss_cons w0 ss_nil) (runB l r) ?_ args2
    repeat' (refine all_true_cons ?_ ?_)
    all_goals first | exact all_true_nil | (simp only [beq_true, beq_false, decide_eq_true_eq, Bool.not_eq_true', decide_eq_false_iff_not, beq_eq_false_iff_ne, ne_eq, Bool.not_eq_false', beq_iff_eq, Bool.and_eq_true]; omega)
  by_cases hC : 8 < r
  case pos =>
    refine law_run hb [(v0, .b32 l)] (ss_cons w0 ss_nil) (runC l r) ?_ args2
    repeat' (refine all_true_cons ?_ ?_)
    all_goals first | exact all_true_nil | (simp only [beq_true, beq_false, decide_eq_true_eq, Bool.not_eq_true', decide_eq_false_iff_not, beq_eq_false_iff_ne, ne_eq, Bool.not_eq_false', beq_iff_eq, Bool.and_eq_true]; omega)
  by_cases hD : (l.n : Int) ≠ 32 * r
  case pos =>
    refine law_run hb [(v0, .b32 l)] (ss_cons w0 ss_nil) (runD l r) ?_ args2
    repeat' (refine all_true_cons ?_ ?_)
    all_goals first | exact all_true_nil | (simp only [beq_true, beq_false, decide_eq_true_eq, Bool.not_eq_true', decide_eq_false_iff_not, beq_eq_false_iff_ne, ne_eq, Bool.not_eq_false', beq_iff_eq, Bool.and_eq_true]; omega)
  refine law_run hb [(v0, .b32 l)] (ss_cons w0 ss_nil) (runE l r) ?_ args2
  have hN : (l.n : Int) = 32 * r := by omega
  obtain ⟨R, hR⟩ := Int.eq_ofNat_of_zero_le (show 0 ≤ r by omega)
  have hr0 : bmRef l 0 l.n = road l 0 l.n r := by rw [hR]; exact ref_road l 0 l.n R (by omega) (by omega)
  have hM : mixV l 0 l.n r = bmRef l 0 l.n := (mix_road l 0 l.n r (by omega) (by omega)).trans hr0.symm
  have hn : (mixV l 0 l.n r).n = (32 * r).toNat := mixV_n l 0 l.n r
  refine all_true_cons ?_ (all_true_cons ?_ (all_true_cons ?_ ?_))
  · rw [← hM]
    refine decide_eq_true ⟨by omega, ?_, ?_, ?_, fun _ _ => rfl⟩
    · rw [hn]; omega
    · rw [hn]; omega
    · omega
  · exact decide_eq_true ⟨by omega, by omega, by omega, by omega⟩
  · exact decide_eq_true ⟨by omega, by omega, by omega, by omega⟩
  repeat' (refine all_true_cons ?_ ?_)
  all_goals first | exact all_true_nil | (simp only [beq_true, beq_false, decide_eq_true_eq, Bool.not_eq_true', decide_eq_false_iff_not, beq_eq_false_iff_ne, ne_eq, Bool.not_eq_false', beq_iff_eq, Bool.and_eq_true]; omega)


theorem own : ownKnob Try.prog.godebug = none := by kernel_rfl
theorem laidOut : laidOutB Try.prog = true := by kernel_rfl
theorem read32 : Try.prog.readableRec 32 = true ∧ 32 < Try.prog.types.size := ⟨by kernel_rfl, of_decide_eq_true (by kernel_rfl)⟩
theorem read3 : Try.prog.readableRec 3 = true ∧ 3 < Try.prog.types.size := ⟨by kernel_rfl, of_decide_eq_true (by kernel_rfl)⟩
theorem cells28 : Try.prog.cellsOf 28 = 1 := by kernel_rfl
set_option maxRecDepth 100000 in
theorem contract (H : Type) (enc : TypeId × Value → H) (W : World) (base : Nat) (args : Array Value) (ds gs : List (DataW H)) (before : List MemPlace)
    (hval : ∀ (j : Nat) t v, Try.f5.params[j]? = some t → args[j]? = some v → Value.okWide Try.prog W .any base t v)
    (hW : DataW.Whole enc Try.prog Try.f5.params.toList Rows.fnScryptBlockMixSpec.vars false W args.toList ds gs before) :
    Calls Try.prog 5 args W fun e W' => ∃ v, e = .returned v ∧ Rows.fnScryptBlockMixSpec.post enc Try.prog Try.f5 false true false false W args v W' := by
  have hW' := hW
  obtain ⟨p, q, hA0, hV, rfl, hfz, hnd⟩ := hW
  have hA : DataW.TrodAll enc Try.prog W 0 (fun _ => true) true Try.f5.params.toList args.toList ds p := hA0
  rw [Try.params5] at hA hval
  obtain ⟨v0, vs0, d0, ds0, p0, q0, hargs, rfl, rfl, h0, r0⟩ := trodAll_cons hA
  obtain ⟨v1, vs1, d1, ds1, p1, q1, rfl, rfl, rfl, h1, r1⟩ := trodAll_cons r0
  obtain ⟨rfl, rfl, rfl⟩ := trodAll_nil r1
  obtain rfl : args = #[v0, v1] := by cases args; simp_all
  obtain ⟨l0, w0, m0⟩ := open_sl32 Try.underlying32 Try.underlying28 cells28 (hval 0 32 v0 rfl rfl) h0
  obtain ⟨n1, rfl, rfl, rfl, w1⟩ := open_int Try.underlying3 (hval 1 3 v1 rfl rfl) h1
  refine (walk l0 w0 m0 n1 w1).mono fun e W' ⟨he, hs⟩ => ?_
  subst he
  exact ⟨_, rfl, post_of_still (tb := 4) hW' rfl rfl laidOut (by
    intro t ht
    rw [Try.params5] at ht
    have : t = 32 ∨ t = 3 := by simpa using ht
    rcases this with rfl | rfl
    · exact read32
    · exact read3
    ) (by kernel_rfl) Try.underlying4 hs⟩
set_option maxRecDepth 100000 in
theorem lifted (os : Os) (started : os.Started) (H : Type) (enc : TypeId × Value → H) :
    ReturnsInHanded {} Try.checked os 5 .any (Rows.fnScryptBlockMixSpec.pre6 enc Try.prog Try.f5 Rows.fnScryptBlockMixRow.domain false) (Rows.fnScryptBlockMixSpec.post enc Try.prog Try.f5 false true false false) := by
  refine returnsInHanded_of_change (C := Try.checked) own started (by kernel_rfl) Try.func5
    (ChangeSpec.witness6 (enc := enc) (C := Try.checked) false ⟨#[], #[.slice none 0 0, .int .i64 0], []⟩ 8 (by kernel_rfl) (by kernel_rfl) (by kernel_rfl) (by kernel_rfl)) ?_
  intro W base args ds gs before hval hW _ _
  exact contract H enc W base args ds gs before hval hW
theorem holds : Rows.FnScryptBlockMixSaid :=
  OpenClaim.holds_of_wide 5 Try.f5 rfl rfl rfl rfl rfl rfl rfl ⟨rfl, rfl, rfl, rfl, rfl⟩ rfl rfl rfl rfl rfl (by kernel_rfl) Try.func5 (by kernel_rfl)
    (of_decide_eq_true (by kernel_rfl)) (by unfold Func.isWrapper; first | (rw [if_pos (by decide +kernel)]; kernel_rfl) | (rw [if_neg (by decide +kernel)]; exact ⟨rfl, rfl⟩))
    (fun os started H enc _ => lifted os started H enc)
end Go.Proofs.Ytnonaagcnenbdaa.blockMixLaw

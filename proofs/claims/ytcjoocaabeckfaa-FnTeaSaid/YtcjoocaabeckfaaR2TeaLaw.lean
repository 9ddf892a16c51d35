/- FnTea: of all keys, blocks of eight bytes and numbers of rounds up to 4096: the package and the reference encipher and decipher alike, and refuse alike. No condition. -/
import Derived.Test.YtcjoocaabeckfaaR2TeaS
import Derived.Test.YtcjoocaabeckfaaRows
import Derived.WalkKit
import Derived.ProofKit
import Derived.OpenShut
namespace Go.Proofs.Ytcjoocaabeckfaa.teaLaw
open Go.ChangeShapes Go.WideShapes Go.ChangeAt Go.RowKit
open Go.Eng
noncomputable def go (args : List AV) (H : List Blk) (dec : List Bool) : Option (AV × St) := goB specsTL noLoop 9 args ⟨H, big, dec, []⟩
noncomputable def goN (args : List AV) (H : List Blk) (dec : List Bool) : Option (AV × St) := goB specsTN noLoop 9 args ⟨H, big, dec, []⟩
theorem runA1 (k b : Vec 8) (n : Int) (w : Bool) : verdict (goN [.sl 0 (.c 0) (.s k.n) none, .sl 1 (.c 0) (.s b.n) none, .int .i64 (.s n), .bool (.s w)] [⟨.b8 k, .ro⟩, ⟨.b8 b, .ro⟩] [true, true, true, true]) = some (true, [(decide ((2147483647 : Int) < ((k.n : Nat) : Int)) == true), (decide ((2147483647 : Int) < ((k.n : Nat) : Int)) == true), (decide ((2147483647 : Int) < ((k.n : Nat) : Int)) == true), (decide ((2147483647 : Int) < ((k.n : Nat) : Int)) == true)]) := by kernel_rfl
theorem runA2 (k b : Vec 8) (n : Int) (w : Bool) : verdict (goN [.sl 0 (.c 0) (.s k.n) none, .sl 1 (.c 0) (.s b.n) none, .int .i64 (.s n), .bool (.s w)] [⟨.b8 k, .ro⟩, ⟨.b8 b, .ro⟩] [false, false, false, false, true]) = some (true, [(decide ((2147483647 : Int) < ((b.n : Nat) : Int)) == true), (decide ((2147483647 : Int) < ((k.n : Nat) : Int)) == false), (decide ((2147483647 : Int) < ((k.n : Nat) : Int)) == false), (decide ((2147483647 : Int) < ((k.n : Nat) : Int)) == false), (decide ((2147483647 : Int) < ((k.n : Nat) : Int)) == false)]) := by kernel_rfl
theorem runB1 (k b : Vec 8) (n : Int) (w : Bool) : verdict (goN [.sl 0 (.c 0) (.s k.n) none, .sl 1 (.c 0) (.s b.n) none, .int .i64 (.s n), .bool (.s w)] [⟨.b8 k, .ro⟩, ⟨.b8 b, .ro⟩] [false, false, false, false, false, true, true, true, true]) = some (true, [(decide ((1024 : Int) < ((k.n : Nat) : Int)) == true), (decide ((1024 : Int) < ((k.n : Nat) : Int)) == true), (decide ((1024 : Int) < ((k.n : Nat) : Int)) == true), (decide ((1024 : Int) < ((k.n : Nat) : Int)) == true), (decide ((2147483647 : Int) < ((b.n : Nat) : Int)) == false), (decide ((2147483647 : Int) < ((k.n : Nat) : Int)) == false), (decide ((2147483647 : Int) < ((k.n : Nat) : Int)) == false), (decide ((2147483647 : Int) < ((k.n : Nat) : Int)) == false), (decide ((2147483647 : Int) < ((k.n : Nat) : Int)) == false)]) := by kernel_rfl
theorem runB2 (k b : Vec 8) (n : Int) (w : Bool) : verdict (goN [.sl 0 (.c 0) (.s k.n) none, .sl 1 (.c 0) (.s b.n) none, .int .i64 (.s n), .bool (.s w)] [⟨.b8 k, .ro⟩, ⟨.b8 b, .ro⟩] [false, false, false, false, false, false, false, false, false, true, true, true]) = some (true, [((!(((b.n : Nat) : Int) == 8)) == true), ((!(((b.n : Nat) : Int) == 8)) == true), ((!(((b.n : Nat) : Int) == 8)) == true), (decide ((1024 : Int) < ((k.n : Nat) : Int)) == false), (decide ((1024 : Int) < ((k.n : Nat) : Int)) == false), (decide ((1024 : Int) < ((k.n : Nat) : Int)) == false), (decide ((1024 : Int) < ((k.n : Nat) : Int)) == false), (decide ((2147483647 : Int) < ((b.n : Nat) : Int)) == false), (decide ((2147483647 : Int) < ((k.n : Nat) : Int)) == false), (decide ((2147483647 : Int) < ((k.n : Nat) : Int)) == false), (decide ((2147483647 : Int) < ((k.n : Nat) : Int)) == false), (decide ((2147483647 : Int) < ((k.n : Nat) : Int)) == false)]) := by kernel_rfl
theorem runB3 (k b : Vec 8) (n : Int) (w : Bool) : verdict (goN [.sl 0 (.c 0) (.s k.n) none, .sl 1 (.c 0) (.c 8) none, .int .i64 (.s n), .bool (.s w)] [⟨.b8 k, .ro⟩, ⟨.b8 b, .ro⟩] [false, false, false, false, false, false, false, false, true, true, true]) = some (true, [(decide (n < 0) == true), (decide (n < 0) == true), (decide (n < 0) == true), (decide ((1024 : Int) < ((k.n : Nat) : Int)) == false), (decide ((1024 : Int) < ((k.n : Nat) : Int)) == false), (decide ((1024 : Int) < ((k.n : Nat) : Int)) == false), (decide ((1024 : Int) < ((k.n : Nat) : Int)) == false), (decide ((2147483647 : Int) < ((k.n : Nat) : Int)) == false), (decide ((2147483647 : Int) < ((k.n : Nat) : Int)) == false), (decide ((2147483647 : Int) < ((k.n : Nat) : Int)) == false), (decide ((2147483647 : Int) < ((k.n : Nat) : Int)) == false)]) := by kernel_rfl
theorem runB4 (k b : Vec 8) (n : Int) (w : Bool) : verdict (goN [.sl 0 (.c 0) (.s k.n) none, .sl 1 (.c 0) (.c 8) none, .int .i64 (.s n), .bool (.s w)] [⟨.b8 k, .ro⟩, ⟨.b8 b, .ro⟩] [false, false, false, false, false, false, false, false, false, false, false, true]) = some (true, [(decide ((4096 : Int) < n) == true), (decide (n < 0) == false), (decide (n < 0) == false), (decide (n < 0) == false), (decide ((1024 : Int) < ((k.n : Nat) : Int)) == false), (decide ((1024 : Int) < ((k.n : Nat) : Int)) == false), (decide ((1024 : Int) < ((k.n : Nat) : Int)) == false), (decide ((1024 : Int) < ((k.n : Nat) : Int)) == false), (decide ((2147483647 : Int) < ((k.n : Nat) : Int)) == false), (decide ((2147483647 : Int) < ((k.n : Nat) : Int)) == false), (decide ((2147483647 : Int) < ((k.n : Nat) : Int)) == false), (decide ((2147483647 : Int) < ((k.n : Nat) : Int)) == false)]) := by kernel_rfl
theorem runC0 (k b : Vec 8) (n : Int) (w : Bool) : verdict (goN [.sl 0 (.c 0) (.s k.n) none, .sl 1 (.c 0) (.c 8) none, .int .i64 (.s n), .bool (.s w)] [⟨.b8 k, .ro⟩, ⟨.b8 b, .ro⟩] [false, false, false, false, false, false, false, false, false, false, false, false, true, false, true, true, true, true]) = some (true, [((!(((k.n : Nat) : Int) == 16)) == true), ((!(((k.n : Nat) : Int) == 16)) == true), ((!(((k.n : Nat) : Int) == 16)) == true), ((!(((k.n : Nat) : Int) == 16)) == true), ((!(n == 0)) == false), ((!(((k.n : Nat) : Int) == 16)) == true), (decide ((4096 : Int) < n) == false), (decide (n < 0) == false), (decide (n < 0) == false), (decide (n < 0) == false), (decide ((1024 : Int) < ((k.n : Nat) : Int)) == false), (decide ((1024 : Int) < ((k.n : Nat) : Int)) == false), (decide ((1024 : Int) < ((k.n : Nat) : Int)) == false), (decide ((1024 : Int) < ((k.n : Nat) : Int)) == false), (decide ((2147483647 : Int) < ((k.n : Nat) : Int)) == false), (decide ((2147483647 : Int) < ((k.n : Nat) : Int)) == false), (decide ((2147483647 : Int) < ((k.n : Nat) : Int)) == false), (decide ((2147483647 : Int) < ((k.n : Nat) : Int)) == false)]) := by kernel_rfl
theorem runC1 (k b : Vec 8) (n : Int) (w : Bool) : verdict (goN [.sl 0 (.c 0) (.s k.n) none, .sl 1 (.c 0) (.c 8) none, .int .i64 (.s n), .bool (.s w)] [⟨.b8 k, .ro⟩, ⟨.b8 b, .ro⟩] [false, false, false, false, false, false, false, false, false, false, false, false, true, true, true, true, true, true, true]) = some (true, [((!(((k.n : Nat) : Int) == 16)) == true), ((!(((k.n : Nat) : Int) == 16)) == true), ((!(((k.n : Nat) : Int) == 16)) == true), ((!(((k.n : Nat) : Int) == 16)) == true), ((!(((k.n : Nat) : Int) == 16)) == true), ((!(n == 0)) == true), ((!(((k.n : Nat) : Int) == 16)) == true), (decide ((4096 : Int) < n) == false), (decide (n < 0) == false), (decide (n < 0) == false), (decide (n < 0) == false), (decide ((1024 : Int) < ((k.n : Nat) : Int)) == false), (decide ((1024 : Int) < ((k.n : Nat) : Int)) == false), (decide ((1024 : Int) < ((k.n : Nat) : Int)) == false), (decide ((1024 : Int) < ((k.n : Nat) : Int)) == false), (decide ((2147483647 : Int) < ((k.n : Nat) : Int)) == false), (decide ((2147483647 : Int) < ((k.n : Nat) : Int)) == false), (decide ((2147483647 : Int) < ((k.n : Nat) : Int)) == false), (decide ((2147483647 : Int) < ((k.n : Nat) : Int)) == false)]) := by kernel_rfl
theorem runD (f g : Nat → BitVec 8) (n : Int) (w : Bool) : verdict (goN [.sl 0 (.c 0) (.c 16) none, .sl 1 (.c 0) (.c 8) none, .int .i64 (.s n), .bool (.s w)] [⟨.gen (c8 16 f), .ro⟩, ⟨.gen (c8 8 g), .ro⟩] [false, false, false, false, true, true, false, false, false, false, true]) = some (true, [((!((Int.tmod n 2) == 0)) == true), (decide (n < 0) == false), (decide (n < 0) == false), decide ((2 : Int) ≠ 0), (decide (n < 0) == false), (decide (n < 0) == false), ((!((((((n) : Int).toNat &&& 1) : Nat) : Int) == 0)) == true), decide (((0 : Int) ≤ n ∧ ((0 : Int) ≤ 1 ∧ (n ≤ 9223372036854775807 ∧ (1 : Int) ≤ 9223372036854775807)))), ((!(n == 0)) == true), (decide ((4096 : Int) < n) == false), (decide (n < 0) == false), (decide (n < 0) == false), (decide (n < 0) == false)]) := by kernel_rfl
def eo (w : Bool) (f g : Nat → BitVec 8) (n : Int) : Vec 8 := Vec.of ((List.range 8).map (outI w (nf8 16 (nf8 16 f)) (nf8 8 (nf8 8 g)) (rnd n)))
def so (w : Bool) (f g : Nat → BitVec 8) (n : Int) : Vec 8 := Vec.of ((List.range 8).map (outS w (nf8 16 (nf8 16 f)) (nf8 8 (nf8 8 g)) (rnd n)))
def small (n : Int) : Bool := decide (0 ≤ n ∧ n ≤ 4096 ∧ n % 2 = 0)
def lowN (n : Int) : Bool := decide (n < 0) == false
def highN (n : Int) : Bool := decide (4096 < n) == false
theorem runEt (f g : Nat → BitVec 8) (n : Int) : verdict (go [.sl 0 (.c 0) (.c 16) none, .sl 1 (.c 0) (.c 8) none, .int .i64 (.s n), .bool (.c true)] [⟨.gen (c8 16 f), .ro⟩, ⟨.gen (c8 8 g), .ro⟩] [false, false, false, false]) = some (true, [eqCond (eo true f g n) (so true f g n) 0 0 8 8, small n, small n, highN n, lowN n, lowN n, lowN n]) := by kernel_rfl
theorem runEf (f g : Nat → BitVec 8) (n : Int) : verdict (go [.sl 0 (.c 0) (.c 16) none, .sl 1 (.c 0) (.c 8) none, .int .i64 (.s n), .bool (.c false)] [⟨.gen (c8 16 f), .ro⟩, ⟨.gen (c8 8 g), .ro⟩] [false, false, false, false]) = some (true, [eqCond (eo false f g n) (so false f g n) 0 0 8 8, small n, small n, highN n, lowN n, lowN n, lowN n]) := by kernel_rfl
theorem so_eq (w : Bool) (f g : Nat → BitVec 8) (n : Int) : eqCond (eo w f g n) (so w f g n) 0 0 8 8 = true := by
  have : so w f g n = eo w f g n := by unfold so eo; rw [outS_eq]
  rw [this]
  exact decide_eq_true ⟨rfl, Nat.le_refl _, Nat.le_refl _, by omega, fun _ _ => rfl⟩
theorem walk {W0 : World} {v0 v1 : Value} (l0 : Vec 8) (w0 : SlOk W0 v0 (.b8 l0)) (_ : l0.n ≤ maxLen) (l1 : Vec 8) (w1 : SlOk W0 v1 (.b8 l1)) (_ : l1.n ≤ maxLen) (n : Int) (_ : (Lit.int .i64 n).wf = true) (b3 : Bool) :
    Calls Try.prog 9 #[v0, v1, .int .i64 n, .bool b3] W0 fun e W' => e = .returned (.bool true) ∧ Still W0 W' := by
  have hb := goB_ok specsTL_ok (no_loops specsTL)
  have hn := goB_ok specsTN_ok (no_loops specsTN)
  have args2 : ∀ β, (∀ (i : Nat) v d, [(v0, Eng.Data.b8 l0), (v1, Eng.Data.b8 l1)][i]? = some (v, d) → VRel β (.sl i (.c 0) (.s d.len) none) v) → LRel β [.sl 0 (.c 0) (.s l0.n) none, .sl 1 (.c 0) (.s l1.n) none, .int .i64 (.s n), .bool (.s b3)] [v0, v1, .int .i64 n, .bool b3] :=
    fun β h => LRel.cons (h 0 v0 _ rfl) (LRel.cons (h 1 v1 _ rfl) (LRel.cons (rel_int .i64 n) (LRel.cons (rel_bool b3) (LRel.nil β))))
  by_cases hA1 : 2147483647 < l0.n
  case pos =>
    refine law_run hn [(v0, .b8 l0), (v1, .b8 l1)] (ss_cons w0 (ss_cons w1 ss_nil)) (runA1 l0 l1 n b3) ?_ args2
    repeat' (refine all_true_cons ?_ ?_)
    all_goals first | exact all_true_nil | (simp only [beq_true, beq_false, decide_eq_true_eq, Bool.not_eq_true', decide_eq_false_iff_not, beq_eq_false_iff_ne, ne_eq, Bool.not_eq_false', beq_iff_eq]; omega)
  by_cases hA2 : 2147483647 < l1.n
  case pos =>
    refine law_run hn [(v0, .b8 l0), (v1, .b8 l1)] (ss_cons w0 (ss_cons w1 ss_nil)) (runA2 l0 l1 n b3) ?_ args2
    repeat' (refine all_true_cons ?_ ?_)
    all_goals first | exact all_true_nil | (simp only [beq_true, beq_false, decide_eq_true_eq, Bool.not_eq_true', decide_eq_false_iff_not, beq_eq_false_iff_ne, ne_eq, Bool.not_eq_false', beq_iff_eq]; omega)
  by_cases hB1 : 1024 < l0.n
  case pos =>
    refine law_run hn [(v0, .b8 l0), (v1, .b8 l1)] (ss_cons w0 (ss_cons w1 ss_nil)) (runB1 l0 l1 n b3) ?_ args2
    repeat' (refine all_true_cons ?_ ?_)
    all_goals first | exact all_true_nil | (simp only [beq_true, beq_false, decide_eq_true_eq, Bool.not_eq_true', decide_eq_false_iff_not, beq_eq_false_iff_ne, ne_eq, Bool.not_eq_false', beq_iff_eq]; omega)
  by_cases hB2 : l1.n = 8
  case neg =>
    refine law_run hn [(v0, .b8 l0), (v1, .b8 l1)] (ss_cons w0 (ss_cons w1 ss_nil)) (runB2 l0 l1 n b3) ?_ args2
    repeat' (refine all_true_cons ?_ ?_)
    all_goals first | exact all_true_nil | (simp only [beq_true, beq_false, decide_eq_true_eq, Bool.not_eq_true', decide_eq_false_iff_not, beq_eq_false_iff_ne, ne_eq, Bool.not_eq_false', beq_iff_eq]; omega)
  by_cases hB3 : n < 0
  case pos =>
    refine law_run hn [(v0, .b8 l0), (v1, .b8 l1)] (ss_cons w0 (ss_cons w1 ss_nil)) (runB3 l0 l1 n b3) ?_ (fun β h => LRel.cons (h 0 v0 _ rfl) (LRel.cons (rel_sl (h 1 v1 _ rfl) hB2) (LRel.cons (rel_int .i64 n) (LRel.cons (rel_bool b3) (LRel.nil β)))))
    repeat' (refine all_true_cons ?_ ?_)
    all_goals first | exact all_true_nil | (simp only [beq_true, beq_false, decide_eq_true_eq, Bool.not_eq_true', decide_eq_false_iff_not, beq_eq_false_iff_ne, ne_eq, Bool.not_eq_false', beq_iff_eq]; omega)
  by_cases hB4 : 4096 < n
  case pos =>
    refine law_run hn [(v0, .b8 l0), (v1, .b8 l1)] (ss_cons w0 (ss_cons w1 ss_nil)) (runB4 l0 l1 n b3) ?_ (fun β h => LRel.cons (h 0 v0 _ rfl) (LRel.cons (rel_sl (h 1 v1 _ rfl) hB2) (LRel.cons (rel_int .i64 n) (LRel.cons (rel_bool b3) (LRel.nil β)))))
    repeat' (refine all_true_cons ?_ ?_)
    all_goals first | exact all_true_nil | (simp only [beq_true, beq_false, decide_eq_true_eq, Bool.not_eq_true', decide_eq_false_iff_not, beq_eq_false_iff_ne, ne_eq, Bool.not_eq_false', beq_iff_eq]; omega)
  by_cases hC : l0.n = 16
  case neg =>
    by_cases hz : n = 0
    case pos =>
      refine law_run hn [(v0, .b8 l0), (v1, .b8 l1)] (ss_cons w0 (ss_cons w1 ss_nil)) (runC0 l0 l1 n b3) ?_ (fun β h => LRel.cons (h 0 v0 _ rfl) (LRel.cons (rel_sl (h 1 v1 _ rfl) hB2) (LRel.cons (rel_int .i64 n) (LRel.cons (rel_bool b3) (LRel.nil β)))))
      repeat' (refine all_true_cons ?_ ?_)
      all_goals first | exact all_true_nil | (simp only [beq_true, beq_false, decide_eq_true_eq, Bool.not_eq_true', decide_eq_false_iff_not, beq_eq_false_iff_ne, ne_eq, Bool.not_eq_false', beq_iff_eq]; omega)
    case neg =>
      refine law_run hn [(v0, .b8 l0), (v1, .b8 l1)] (ss_cons w0 (ss_cons w1 ss_nil)) (runC1 l0 l1 n b3) ?_ (fun β h => LRel.cons (h 0 v0 _ rfl) (LRel.cons (rel_sl (h 1 v1 _ rfl) hB2) (LRel.cons (rel_int .i64 n) (LRel.cons (rel_bool b3) (LRel.nil β)))))
      repeat' (refine all_true_cons ?_ ?_)
      all_goals first | exact all_true_nil | (simp only [beq_true, beq_false, decide_eq_true_eq, Bool.not_eq_true', decide_eq_false_iff_not, beq_eq_false_iff_ne, ne_eq, Bool.not_eq_false', beq_iff_eq]; omega)
  have g0 := w0.gen8 hC
  have g1 := w1.gen8 hB2
  by_cases hE : n % 2 = 0
  case neg =>
    have e1 : n.toNat &&& 1 = 1 := by rw [Nat.and_one_is_mod]; omega
    have e2 : Int.tmod n 2 = 1 := by rw [Int.tmod_eq_emod_of_nonneg (by omega)]; omega
    refine law_run hn [(v0, .gen _), (v1, .gen _)] (ss_cons g0 (ss_cons g1 ss_nil)) (runD _ _ n b3) ?_ (fun β h => LRel.cons (rel_sl (h 0 v0 _ rfl) (by simp [Data.len])) (LRel.cons (rel_sl (h 1 v1 _ rfl) (by simp [Data.len])) (LRel.cons (rel_int .i64 n) (LRel.cons (rel_bool b3) (LRel.nil β)))))
    repeat' (refine all_true_cons ?_ ?_)
    all_goals first | exact all_true_nil | (rw [e1]; rfl) | (rw [e2]; rfl) | (simp only [beq_true, beq_false, decide_eq_true_eq, Bool.not_eq_true', decide_eq_false_iff_not, beq_eq_false_iff_ne, ne_eq, Bool.not_eq_false', beq_iff_eq]; omega)
  have hs : small n = true := decide_eq_true ⟨by omega, by omega, hE⟩
  have hl : lowN n = true := by simp only [lowN, beq_false, Bool.not_eq_true', decide_eq_false_iff_not]; omega
  have hh : highN n = true := by simp only [highN, beq_false, Bool.not_eq_true', decide_eq_false_iff_not]; omega
  cases b3 with
  | true =>
    refine law_run hb [(v0, .gen _), (v1, .gen _)] (ss_cons g0 (ss_cons g1 ss_nil)) (runEt _ _ n) ?_ (fun β h => LRel.cons (rel_sl (h 0 v0 _ rfl) (by simp [Data.len])) (LRel.cons (rel_sl (h 1 v1 _ rfl) (by simp [Data.len])) (LRel.cons (rel_int .i64 n) (LRel.cons (.bool (.c true)) (LRel.nil β)))))
    repeat' (refine all_true_cons ?_ ?_)
    all_goals first | exact all_true_nil | exact so_eq _ _ _ _ | exact hs | exact hl | exact hh
  | false =>
    refine law_run hb [(v0, .gen _), (v1, .gen _)] (ss_cons g0 (ss_cons g1 ss_nil)) (runEf _ _ n) ?_ (fun β h => LRel.cons (rel_sl (h 0 v0 _ rfl) (by simp [Data.len])) (LRel.cons (rel_sl (h 1 v1 _ rfl) (by simp [Data.len])) (LRel.cons (rel_int .i64 n) (LRel.cons (.bool (.c false)) (LRel.nil β)))))
    repeat' (refine all_true_cons ?_ ?_)
    all_goals first | exact all_true_nil | exact so_eq _ _ _ _ | exact hs | exact hl | exact hh


theorem own : ownKnob Try.prog.godebug = none := by kernel_rfl
theorem laidOut : laidOutB Try.prog = true := by kernel_rfl
theorem read22 : Try.prog.readableRec 22 = true ∧ 22 < Try.prog.types.size := ⟨by kernel_rfl, of_decide_eq_true (by kernel_rfl)⟩
theorem read3 : Try.prog.readableRec 3 = true ∧ 3 < Try.prog.types.size := ⟨by kernel_rfl, of_decide_eq_true (by kernel_rfl)⟩
theorem read4 : Try.prog.readableRec 4 = true ∧ 4 < Try.prog.types.size := ⟨by kernel_rfl, of_decide_eq_true (by kernel_rfl)⟩
theorem cells5 : Try.prog.cellsOf 5 = 1 := by kernel_rfl
set_option maxRecDepth 100000 in
theorem contract (H : Type) (enc : TypeId × Value → H) (W : World) (base : Nat) (args : Array Value) (ds gs : List (DataW H)) (before : List MemPlace)
    (hval : ∀ (j : Nat) t v, Try.f9.params[j]? = some t → args[j]? = some v → Value.okWide Try.prog W .any base t v)
    (hW : DataW.Whole enc Try.prog Try.f9.params.toList Rows.fnTeaSpec.vars false W args.toList ds gs before) :
    Calls Try.prog 9 args W fun e W' => ∃ v, e = .returned v ∧ Rows.fnTeaSpec.post enc Try.prog Try.f9 false true false false W args v W' := by
  have hW' := hW
  obtain ⟨p, q, hA0, hV, rfl, hfz, hnd⟩ := hW
  have hA : DataW.TrodAll enc Try.prog W 0 (fun _ => true) true Try.f9.params.toList args.toList ds p := hA0
  rw [Try.params9] at hA hval
  obtain ⟨v0, vs0, d0, ds0, p0, q0, hargs, rfl, rfl, h0, r0⟩ := trodAll_cons hA
  obtain ⟨v1, vs1, d1, ds1, p1, q1, rfl, rfl, rfl, h1, r1⟩ := trodAll_cons r0
  obtain ⟨v2, vs2, d2, ds2, p2, q2, rfl, rfl, rfl, h2, r2⟩ := trodAll_cons r1
  obtain ⟨v3, vs3, d3, ds3, p3, q3, rfl, rfl, rfl, h3, r3⟩ := trodAll_cons r2
  obtain ⟨rfl, rfl, rfl⟩ := trodAll_nil r3
  obtain rfl : args = #[v0, v1, v2, v3] := by cases args; simp_all
  obtain ⟨l0, w0, m0⟩ := open_sl8 Try.underlying22 Try.underlying5 cells5 (hval 0 22 v0 rfl rfl) h0
  obtain ⟨l1, w1, m1⟩ := open_sl8 Try.underlying22 Try.underlying5 cells5 (hval 1 22 v1 rfl rfl) h1
  obtain ⟨n2, rfl, rfl, rfl, w2⟩ := open_int Try.underlying3 (hval 2 3 v2 rfl rfl) h2
  obtain ⟨b3, rfl, rfl, rfl⟩ := open_bool Try.underlying4 (hval 3 4 v3 rfl rfl) h3
  refine (walk l0 w0 m0 l1 w1 m1 n2 w2 b3).mono fun e W' ⟨he, hs⟩ => ?_
  subst he
  exact ⟨_, rfl, post_of_still (tb := 4) hW' rfl rfl laidOut (by
    intro t ht
    rw [Try.params9] at ht
    have : t = 22 ∨ t = 3 ∨ t = 4 := by simpa using ht
    rcases this with rfl | rfl | rfl
    · exact read22
    · exact read3
    · exact read4
    ) (by kernel_rfl) Try.underlying4 hs⟩
set_option maxRecDepth 100000 in
theorem lifted (os : Os) (started : os.Started) (H : Type) (enc : TypeId × Value → H) :
    ReturnsInHanded {} Try.checked os 9 .any (Rows.fnTeaSpec.pre6 enc Try.prog Try.f9 Rows.fnTeaRow.domain false) (Rows.fnTeaSpec.post enc Try.prog Try.f9 false true false false) := by
  refine returnsInHanded_of_change (C := Try.checked) own started (by kernel_rfl) Try.func9
    (ChangeSpec.witness6 (enc := enc) (C := Try.checked) false ⟨#[], #[.slice none 0 0, .slice none 0 0, .int .i64 0, .bool false], []⟩ 8 (by kernel_rfl) (by kernel_rfl) (by kernel_rfl) (by kernel_rfl)) ?_
  intro W base args ds gs before hval hW _ _
  exact contract H enc W base args ds gs before hval hW
theorem holds : Rows.FnTeaSaid :=
  OpenClaim.holds_of_wide 9 Try.f9 rfl rfl rfl rfl rfl rfl rfl ⟨rfl, rfl, rfl, rfl, rfl⟩ rfl rfl rfl rfl rfl (by kernel_rfl) Try.func9 (by kernel_rfl)
    (of_decide_eq_true (by kernel_rfl)) (by unfold Func.isWrapper; first | (rw [if_pos (by decide +kernel)]; kernel_rfl) | (rw [if_neg (by decide +kernel)]; exact ⟨rfl, rfl⟩))
    (fun os started H enc _ => lifted os started H enc)
end Go.Proofs.Ytcjoocaabeckfaa.teaLaw

/- FnTeaBack: of all keys of 16 bytes, blocks of eight, and even numbers of rounds up to 4096: what was enciphered is deciphered again, and the other way round; and the usual rounds are 64. No condition. -/
import Derived.Test.YtcjoocaabeckfaaR2TeaS
import Derived.Test.YtcjoocaabeckfaaRows
import Derived.WalkKit
import Derived.ProofKit
import Derived.OpenShut
namespace Go.Proofs.Ytcjoocaabeckfaa.teaBack
open Go.ChangeShapes Go.WideShapes Go.ChangeAt Go.RowKit
open Go.Eng
noncomputable def go (args : List AV) (H : List Blk) (dec : List Bool) : Option (AV × St) := goB specsTL noLoop 10 args ⟨H, big, dec, []⟩
noncomputable def goN (args : List AV) (H : List Blk) (dec : List Bool) : Option (AV × St) := goB specsTN noLoop 10 args ⟨H, big, dec, []⟩
theorem runA1 (k b : Vec 8) (n : Int) (w : Bool) : verdict (goN [.sl 0 (.c 0) (.s k.n) none, .sl 1 (.c 0) (.s b.n) none, .int .i64 (.s n), .bool (.s w)] [⟨.b8 k, .ro⟩, ⟨.b8 b, .ro⟩] [true, true, true, true]) = some (true, [(decide ((2147483647 : Int) < ((k.n : Nat) : Int)) == true), (decide ((2147483647 : Int) < ((k.n : Nat) : Int)) == true), (decide ((2147483647 : Int) < ((k.n : Nat) : Int)) == true), (decide ((2147483647 : Int) < ((k.n : Nat) : Int)) == true)]) := by kernel_rfl
theorem runA2 (k b : Vec 8) (n : Int) (w : Bool) : verdict (goN [.sl 0 (.c 0) (.s k.n) none, .sl 1 (.c 0) (.s b.n) none, .int .i64 (.s n), .bool (.s w)] [⟨.b8 k, .ro⟩, ⟨.b8 b, .ro⟩] [false, false, false, false, true]) = some (true, [(decide ((2147483647 : Int) < ((b.n : Nat) : Int)) == true), (decide ((2147483647 : Int) < ((k.n : Nat) : Int)) == false), (decide ((2147483647 : Int) < ((k.n : Nat) : Int)) == false), (decide ((2147483647 : Int) < ((k.n : Nat) : Int)) == false), (decide ((2147483647 : Int) < ((k.n : Nat) : Int)) == false)]) := by kernel_rfl
theorem runB1 (k b : Vec 8) (n : Int) (w : Bool) : verdict (goN [.sl 0 (.c 0) (.s k.n) none, .sl 1 (.c 0) (.s b.n) none, .int .i64 (.s n), .bool (.s w)] [⟨.b8 k, .ro⟩, ⟨.b8 b, .ro⟩] [false, false, false, false, false, true, true, true, true]) = some (true, [((!(((k.n : Nat) : Int) == 16)) == true), ((!(((k.n : Nat) : Int) == 16)) == true), ((!(((k.n : Nat) : Int) == 16)) == true), ((!(((k.n : Nat) : Int) == 16)) == true), (decide ((2147483647 : Int) < ((b.n : Nat) : Int)) == false), (decide ((2147483647 : Int) < ((k.n : Nat) : Int)) == false), (decide ((2147483647 : Int) < ((k.n : Nat) : Int)) == false), (decide ((2147483647 : Int) < ((k.n : Nat) : Int)) == false), (decide ((2147483647 : Int) < ((k.n : Nat) : Int)) == false)]) := by kernel_rfl
theorem runB2 (k b : Vec 8) (n : Int) (w : Bool) : verdict (goN [.sl 0 (.c 0) (.s k.n) none, .sl 1 (.c 0) (.s b.n) none, .int .i64 (.s n), .bool (.s w)] [⟨.b8 k, .ro⟩, ⟨.b8 b, .ro⟩] [false, false, false, false, false, false, false, false, false, true, true, true]) = some (true, [((!(((b.n : Nat) : Int) == 8)) == true), ((!(((b.n : Nat) : Int) == 8)) == true), ((!(((b.n : Nat) : Int) == 8)) == true), ((!(((k.n : Nat) : Int) == 16)) == false), ((!(((k.n : Nat) : Int) == 16)) == false), ((!(((k.n : Nat) : Int) == 16)) == false), ((!(((k.n : Nat) : Int) == 16)) == false), (decide ((2147483647 : Int) < ((b.n : Nat) : Int)) == false), (decide ((2147483647 : Int) < ((k.n : Nat) : Int)) == false), (decide ((2147483647 : Int) < ((k.n : Nat) : Int)) == false), (decide ((2147483647 : Int) < ((k.n : Nat) : Int)) == false), (decide ((2147483647 : Int) < ((k.n : Nat) : Int)) == false)]) := by kernel_rfl
theorem runB3 (f g : Nat → BitVec 8) (n : Int) (w : Bool) : verdict (goN [.sl 0 (.c 0) (.c 16) none, .sl 1 (.c 0) (.c 8) none, .int .i64 (.s n), .bool (.s w)] [⟨.gen (c8 16 f), .ro⟩, ⟨.gen (c8 8 g), .ro⟩] [true, true, true]) = some (true, [(decide (n < 0) == true), (decide (n < 0) == true), (decide (n < 0) == true)]) := by kernel_rfl
theorem runB4 (f g : Nat → BitVec 8) (n : Int) (w : Bool) : verdict (goN [.sl 0 (.c 0) (.c 16) none, .sl 1 (.c 0) (.c 8) none, .int .i64 (.s n), .bool (.s w)] [⟨.gen (c8 16 f), .ro⟩, ⟨.gen (c8 8 g), .ro⟩] [false, false, false, true, true, true, true]) = some (true, [(decide ((4096 : Int) < n) == true), (decide ((4096 : Int) < n) == true), (decide ((4096 : Int) < n) == true), (decide ((4096 : Int) < n) == true), (decide (n < 0) == false), (decide (n < 0) == false), (decide (n < 0) == false)]) := by kernel_rfl
theorem runB5 (f g : Nat → BitVec 8) (n : Int) (w : Bool) : verdict (goN [.sl 0 (.c 0) (.c 16) none, .sl 1 (.c 0) (.c 8) none, .int .i64 (.s n), .bool (.s w)] [⟨.gen (c8 16 f), .ro⟩, ⟨.gen (c8 8 g), .ro⟩] [false, false, false, false, false, false, false, true]) = some (true, [((!((Int.tmod n 2) == 0)) == true), (decide ((4096 : Int) < n) == false), (decide ((4096 : Int) < n) == false), decide ((2 : Int) ≠ 0), (decide ((4096 : Int) < n) == false), (decide ((4096 : Int) < n) == false), (decide (n < 0) == false), (decide (n < 0) == false), (decide (n < 0) == false)]) := by kernel_rfl
def small (n : Int) : Bool := decide (0 ≤ n ∧ n ≤ 4096 ∧ n % 2 = 0)
def lowN (n : Int) : Bool := decide (n < 0) == false
def highN (n : Int) : Bool := decide ((4096 : Int) < n) == false
def evenN (n : Int) : Bool := (!((Int.tmod n 2) == 0)) == false
theorem s64 : small 64 = true := by decide
theorem s0 : small 0 = true := by decide
def two : Bool := decide ((2 : Int) ≠ 0)
def oo (w : Bool) (f g : Nat → BitVec 8) (n : Int) : Nat → BitVec 8 := outI w (nf8 16 (nf8 16 f)) (nf8 8 (nf8 8 g)) (rnd n)
def vo (h : Nat → BitVec 8) : Vec 8 := Vec.of ((List.range 8).map h)
theorem oo_rnd (w : Bool) (f g : Nat → BitVec 8) : oo w f g 0 = oo w f g 64 := rfl
theorem eq1 (w : Bool) (f g : Nat → BitVec 8) (n : Int) (h0 : 0 ≤ n) : eqCond (vo g) (vo (oo (!w) f (oo w f g n) n)) 0 0 8 8 = true := by
  refine decide_eq_true ⟨rfl, Nat.le_refl _, Nat.le_refl _, by omega, fun j hj => ?_⟩
  rw [Nat.zero_add]
  have hr : 0 ≤ rnd n := by unfold rnd; split <;> omega
  have e : oo (!w) f (oo w f g n) n = outI (!w) (nf8 16 (nf8 16 f)) (outI w (nf8 16 (nf8 16 f)) (nf8 8 (nf8 8 g)) (rnd n)) (rnd n) := outI_congr (!w) _ (fun i hi => by rw [nf8_lt _ hi, nf8_lt _ hi]; rfl) _
  have e2 := tea_back w (nf8 16 (nf8 16 f)) (nf8 8 (nf8 8 g)) (rnd n) hr j hj
  rw [nf8_lt _ hj, nf8_lt _ hj] at e2
  show ((List.range 8).map g).getD j 0#8 = ((List.range 8).map (oo (!w) f (oo w f g n) n)).getD j 0#8
  rw [e]
  simp [hj, e2]
theorem eq2 (w : Bool) (f g : Nat → BitVec 8) (n : Int) (_ : 0 ≤ n) : eqCond (vo (oo w f g 0)) (vo (oo w f g 64)) 0 0 8 8 = true := by
  rw [oo_rnd]
  exact decide_eq_true ⟨rfl, Nat.le_refl _, Nat.le_refl _, by omega, fun _ _ => rfl⟩
theorem runEt (f g : Nat → BitVec 8) (n : Int) : verdict (go [.sl 0 (.c 0) (.c 16) none, .sl 1 (.c 0) (.c 8) none, .int .i64 (.s n), .bool (.c true)] [⟨.gen (c8 16 f), .ro⟩, ⟨.gen (c8 8 g), .ro⟩] [false, false, false, false, false, false, false, false]) = some (true, [eqCond (vo (oo true f g 0)) (vo (oo true f g 64)) 0 0 8 8, eqCond (vo g) (vo (oo (!true) f (oo true f g n) n)) 0 0 8 8, small 64, small 0, small n, small n, evenN n, highN n, highN n, two, highN n, highN n, lowN n, lowN n, lowN n]) := by kernel_rfl
theorem runEf (f g : Nat → BitVec 8) (n : Int) : verdict (go [.sl 0 (.c 0) (.c 16) none, .sl 1 (.c 0) (.c 8) none, .int .i64 (.s n), .bool (.c false)] [⟨.gen (c8 16 f), .ro⟩, ⟨.gen (c8 8 g), .ro⟩] [false, false, false, false, false, false, false, false]) = some (true, [eqCond (vo (oo false f g 0)) (vo (oo false f g 64)) 0 0 8 8, eqCond (vo g) (vo (oo (!false) f (oo false f g n) n)) 0 0 8 8, small 64, small 0, small n, small n, evenN n, highN n, highN n, two, highN n, highN n, lowN n, lowN n, lowN n]) := by kernel_rfl
theorem walk {W0 : World} {v0 v1 : Value} (l0 : Vec 8) (w0 : SlOk W0 v0 (.b8 l0)) (_ : l0.n ≤ maxLen) (l1 : Vec 8) (w1 : SlOk W0 v1 (.b8 l1)) (_ : l1.n ≤ maxLen) (n : Int) (_ : (Lit.int .i64 n).wf = true) (b3 : Bool) :
    Calls Try.prog 10 #[v0, v1, .int .i64 n, .bool b3] W0 fun e W' => e = .returned (.bool true) ∧ Still W0 W' := by
  have hb := goB_ok specsTL_ok (no_loops specsTL)
  have hn := goB_ok specsTN_ok (no_loops specsTN)
  have args2 : ∀ β, (∀ (i : Nat) v d, [(v0, Eng.Data.b8 l0), (v1, Eng.Data.b8 l1)][i]? = some (v, d) → VRel β (.sl i (.c 0) (.s d.len) none) v) → LRel β [.sl 0 (.c 0) (.s l0.n) none, .sl 1 (.c 0) (.s l1.n) none, .int .i64 (.s n), .bool (.s b3)] [v0, v1, .int .i64 n, .bool b3] :=
    fun β h => LRel.cons (h 0 v0 _ rfl) (LRel.cons (h 1 v1 _ rfl) (LRel.cons (rel_int .i64 n) (LRel.cons (rel_bool b3) (LRel.nil β))))
  by_cases hA1 : 2147483647 < l0.n
  case pos =>
    refine law_run hn [(v0, .b8 l0), (v1, .b8 l1)] (ss_cons w0 (ss_cons w1 ss_nil)) (runA1 l0 l1 n b3) ?_ args2
    repeat' (refine all_true_cons ?_ ?_)
    all_goals first | exact all_true_nil | (simp only [beq_true, beq_false, decide_eq_true_eq, Bool.not_eq_true', decide_eq_false_iff_not, beq_eq_false_iff_ne, ne_eq, Bool.not_eq_false', beq_iff_eq]; omega)
  by_cases hA2 : 2147483647 < l1.n
  case pos =>
    refine law_run hn [(v0, .b8 l0), (v1, .b8 l1)] (ss_cons w0 (ss_cons w1 ss_nil)) (runA2 l0 l1 n b3) ?_ args2
    repeat' (refine all_true_cons ?_ ?_)
    all_goals first | exact all_true_nil | (simp only [beq_true, beq_false, decide_eq_true_eq, Bool.not_eq_true', decide_eq_false_iff_not, beq_eq_false_iff_ne, ne_eq, Bool.not_eq_false', beq_iff_eq]; omega)
  by_cases hB1 : l0.n = 16
  case neg =>
    refine law_run hn [(v0, .b8 l0), (v1, .b8 l1)] (ss_cons w0 (ss_cons w1 ss_nil)) (runB1 l0 l1 n b3) ?_ args2
    repeat' (refine all_true_cons ?_ ?_)
    all_goals first | exact all_true_nil | (simp only [beq_true, beq_false, decide_eq_true_eq, Bool.not_eq_true', decide_eq_false_iff_not, beq_eq_false_iff_ne, ne_eq, Bool.not_eq_false', beq_iff_eq]; omega)
  by_cases hB2 : l1.n = 8
  case neg =>
    refine law_run hn [(v0, .b8 l0), (v1, .b8 l1)] (ss_cons w0 (ss_cons w1 ss_nil)) (runB2 l0 l1 n b3) ?_ args2
    repeat' (refine all_true_cons ?_ ?_)
    all_goals first | exact all_true_nil | (simp only [beq_true, beq_false, decide_eq_true_eq, Bool.not_eq_true', decide_eq_false_iff_not, beq_eq_false_iff_ne, ne_eq, Bool.not_eq_false', beq_iff_eq]; omega)
  have g0 := w0.gen8 hB1
  have g1 := w1.gen8 hB2
  by_cases hB3 : n < 0
  case pos =>
    refine law_run hn [(v0, .gen _), (v1, .gen _)] (ss_cons g0 (ss_cons g1 ss_nil)) (runB3 _ _ n b3) ?_ (fun β h => LRel.cons (rel_sl (h 0 v0 _ rfl) (by simp [Data.len])) (LRel.cons (rel_sl (h 1 v1 _ rfl) (by simp [Data.len])) (LRel.cons (rel_int .i64 n) (LRel.cons (rel_bool b3) (LRel.nil β)))))
    repeat' (refine all_true_cons ?_ ?_)
    all_goals first | exact all_true_nil | (simp only [beq_true, beq_false, decide_eq_true_eq, Bool.not_eq_true', decide_eq_false_iff_not, beq_eq_false_iff_ne, ne_eq, Bool.not_eq_false', beq_iff_eq]; omega)
  by_cases hB4 : 4096 < n
  case pos =>
    refine law_run hn [(v0, .gen _), (v1, .gen _)] (ss_cons g0 (ss_cons g1 ss_nil)) (runB4 _ _ n b3) ?_ (fun β h => LRel.cons (rel_sl (h 0 v0 _ rfl) (by simp [Data.len])) (LRel.cons (rel_sl (h 1 v1 _ rfl) (by simp [Data.len])) (LRel.cons (rel_int .i64 n) (LRel.cons (rel_bool b3) (LRel.nil β)))))
    repeat' (refine all_true_cons ?_ ?_)
    all_goals first | exact all_true_nil | (simp only [beq_true, beq_false, decide_eq_true_eq, Bool.not_eq_true', decide_eq_false_iff_not, beq_eq_false_iff_ne, ne_eq, Bool.not_eq_false', beq_iff_eq]; omega)
  by_cases hE : n % 2 = 0
  case neg =>
    have e2 : Int.tmod n 2 = 1 := by rw [Int.tmod_eq_emod_of_nonneg (by omega)]; omega
    refine law_run hn [(v0, .gen _), (v1, .gen _)] (ss_cons g0 (ss_cons g1 ss_nil)) (runB5 _ _ n b3) ?_ (fun β h => LRel.cons (rel_sl (h 0 v0 _ rfl) (by simp [Data.len])) (LRel.cons (rel_sl (h 1 v1 _ rfl) (by simp [Data.len])) (LRel.cons (rel_int .i64 n) (LRel.cons (rel_bool b3) (LRel.nil β)))))
    repeat' (refine all_true_cons ?_ ?_)
    all_goals first | exact all_true_nil | (rw [e2]; rfl) | (simp only [beq_true, beq_false, decide_eq_true_eq, Bool.not_eq_true', decide_eq_false_iff_not, beq_eq_false_iff_ne, ne_eq, Bool.not_eq_false', beq_iff_eq]; omega)
  have hs : small n = true := decide_eq_true ⟨by omega, by omega, hE⟩
  have hl : lowN n = true := by simp only [lowN, beq_false, Bool.not_eq_true', decide_eq_false_iff_not]; omega
  have hh : highN n = true := by simp only [highN, beq_false, Bool.not_eq_true', decide_eq_false_iff_not]; omega
  have he : evenN n = true := by unfold evenN; rw [even_tmod (by omega) hE]; rfl
  cases b3 with
  | true =>
    refine law_run hb [(v0, .gen _), (v1, .gen _)] (ss_cons g0 (ss_cons g1 ss_nil)) (runEt _ _ n) ?_ (fun β h => LRel.cons (rel_sl (h 0 v0 _ rfl) (by simp [Data.len])) (LRel.cons (rel_sl (h 1 v1 _ rfl) (by simp [Data.len])) (LRel.cons (rel_int .i64 n) (LRel.cons (.bool (.c true)) (LRel.nil β)))))
    exact all_true_cons (eq2 true _ _ n (by omega)) (all_true_cons (eq1 true _ _ n (by omega)) (all_true_cons s64 (all_true_cons s0 (all_true_cons hs (all_true_cons hs (all_true_cons he (all_true_cons hh (all_true_cons hh (all_true_cons rfl (all_true_cons hh (all_true_cons hh (all_true_cons hl (all_true_cons hl (all_true_cons hl all_true_nil))))))))))))))
  | false =>
    refine law_run hb [(v0, .gen _), (v1, .gen _)] (ss_cons g0 (ss_cons g1 ss_nil)) (runEf _ _ n) ?_ (fun β h => LRel.cons (rel_sl (h 0 v0 _ rfl) (by simp [Data.len])) (LRel.cons (rel_sl (h 1 v1 _ rfl) (by simp [Data.len])) (LRel.cons (rel_int .i64 n) (LRel.cons (.bool (.c false)) (LRel.nil β)))))
    exact all_true_cons (eq2 false _ _ n (by omega)) (all_true_cons (eq1 false _ _ n (by omega)) (all_true_cons s64 (all_true_cons s0 (all_true_cons hs (all_true_cons hs (all_true_cons he (all_true_cons hh (all_true_cons hh (all_true_cons rfl (all_true_cons hh (all_true_cons hh (all_true_cons hl (all_true_cons hl (all_true_cons hl all_true_nil))))))))))))))


theorem own : ownKnob Try.prog.godebug = none := by kernel_rfl
theorem laidOut : laidOutB Try.prog = true := by kernel_rfl
theorem read22 : Try.prog.readableRec 22 = true ∧ 22 < Try.prog.types.size := ⟨by kernel_rfl, of_decide_eq_true (by kernel_rfl)⟩
theorem read3 : Try.prog.readableRec 3 = true ∧ 3 < Try.prog.types.size := ⟨by kernel_rfl, of_decide_eq_true (by kernel_rfl)⟩
theorem read4 : Try.prog.readableRec 4 = true ∧ 4 < Try.prog.types.size := ⟨by kernel_rfl, of_decide_eq_true (by kernel_rfl)⟩
theorem cells5 : Try.prog.cellsOf 5 = 1 := by kernel_rfl
set_option maxRecDepth 100000 in
theorem contract (H : Type) (enc : TypeId × Value → H) (W : World) (base : Nat) (args : Array Value) (ds gs : List (DataW H)) (before : List MemPlace)
    (hval : ∀ (j : Nat) t v, Try.f10.params[j]? = some t → args[j]? = some v → Value.okWide Try.prog W .any base t v)
    (hW : DataW.Whole enc Try.prog Try.f10.params.toList Rows.fnTeaBackSpec.vars false W args.toList ds gs before) :
    Calls Try.prog 10 args W fun e W' => ∃ v, e = .returned v ∧ Rows.fnTeaBackSpec.post enc Try.prog Try.f10 false true false false W args v W' := by
  have hW' := hW
  obtain ⟨p, q, hA0, hV, rfl, hfz, hnd⟩ := hW
  have hA : DataW.TrodAll enc Try.prog W 0 (fun _ => true) true Try.f10.params.toList args.toList ds p := hA0
  rw [Try.params10] at hA hval
  obtain ⟨v0, vs0, d0, ds0, p0, q0, hargs, rfl, rfl, h0, r0⟩ := trodAll_cons hA
  obtain ⟨v1, vs1, d1, ds1, p1, q1, rfl, rfl, rfl, h1, r1⟩ := trodAll_cons r0
  obtain ⟨v2, vs2, d2, ds2, p2, q2, rfl, rfl, rfl, h2, r2⟩ := trodAll_cons r1
  obtain ⟨v3, vs3, d3, ds3, p3, q3, rfl, rfl, rfl, h3, r3⟩ := trodAll_cons r2
  obtain ⟨rfl, rfl, rfl⟩ := trodAll_nil r3
  obtain rfl : args = #[v0, v1, v2, v3] := by cases args; simp_all
  obtain ⟨l0, w0, m0⟩ := open_sl8 Try.underlying22 Try.underlying5 cells5 (hval 0 22 v0 rfl rfl) h0
  obtain ⟨l1, w1, m1⟩ := open_sl8 Try.underlying22 Try.underlying5 cells5 (hval 1 22 v1 rfl rfl) h1
  obtain ⟨n2, rfl, rfl, rfl, w2⟩ := open_int Try.underlying3 (hval 2 3 v2 rfl rfl) h2
  obtain ⟨b3, rfl, rfl, rfl⟩ := open_bool Try.underlying4 (hval 3 4 v3 rfl rfl) h3
  refine (walk l0 w0 m0 l1 w1 m1 n2 w2 b3).mono fun e W' ⟨he, hs⟩ => ?_
  subst he
  exact ⟨_, rfl, post_of_still (tb := 4) hW' rfl rfl laidOut (by
    intro t ht
    rw [Try.params10] at ht
    have : t = 22 ∨ t = 3 ∨ t = 4 := by simpa using ht
    rcases this with rfl | rfl | rfl
    · exact read22
    · exact read3
    · exact read4
    ) (by kernel_rfl) Try.underlying4 hs⟩
set_option maxRecDepth 100000 in
theorem lifted (os : Os) (started : os.Started) (H : Type) (enc : TypeId × Value → H) :
    ReturnsInHanded {} Try.checked os 10 .any (Rows.fnTeaBackSpec.pre6 enc Try.prog Try.f10 Rows.fnTeaBackRow.domain false) (Rows.fnTeaBackSpec.post enc Try.prog Try.f10 false true false false) := by
  refine returnsInHanded_of_change (C := Try.checked) own started (by kernel_rfl) Try.func10
    (ChangeSpec.witness6 (enc := enc) (C := Try.checked) false ⟨#[], #[.slice none 0 0, .slice none 0 0, .int .i64 0, .bool false], []⟩ 8 (by kernel_rfl) (by kernel_rfl) (by kernel_rfl) (by kernel_rfl)) ?_
  intro W base args ds gs before hval hW _ _
  exact contract H enc W base args ds gs before hval hW
theorem holds : Rows.FnTeaBackSaid :=
  OpenClaim.holds_of_wide 10 Try.f10 rfl rfl rfl rfl rfl rfl rfl ⟨rfl, rfl, rfl, rfl, rfl⟩ rfl rfl rfl rfl rfl (by kernel_rfl) Try.func10 (by kernel_rfl)
    (of_decide_eq_true (by kernel_rfl)) (by unfold Func.isWrapper; first | (rw [if_pos (by decide +kernel)]; kernel_rfl) | (rw [if_neg (by decide +kernel)]; exact ⟨rfl, rfl⟩))
    (fun os started H enc _ => lifted os started H enc)
end Go.Proofs.Ytcjoocaabeckfaa.teaBack

/- FnXteaBack: of all keys of 16 bytes and blocks of eight: what was enciphered is deciphered again, and the other way round. No condition. -/
import Derived.Test.YtcjoocaabeckfaaR2Xtea
import Derived.Test.YtcjoocaabeckfaaRows
import Derived.WalkKit
import Derived.ProofKit
import Derived.OpenShut
namespace Go.Proofs.Ytcjoocaabeckfaa.xteaBack
open Go.ChangeShapes Go.WideShapes Go.ChangeAt Go.RowKit
open Go.Eng
noncomputable def go (args : List AV) (H : List Blk) (dec : List Bool) : Option (AV × St) := goB specsX noLoop 5 args ⟨H, big, dec, []⟩
theorem runA1 (k b : Vec 8) (w : Bool) : verdict (go [.sl 0 (.c 0) (.s k.n) none, .sl 1 (.c 0) (.s b.n) none, .bool (.s w)] [⟨.b8 k, .ro⟩, ⟨.b8 b, .ro⟩] [true, true, true, true]) = some (true, [(decide (2147483647 < ((k.n : Nat) : Int)) == true), (decide (2147483647 < ((k.n : Nat) : Int)) == true), (decide (2147483647 < ((k.n : Nat) : Int)) == true), (decide (2147483647 < ((k.n : Nat) : Int)) == true)]) := by kernel_rfl
theorem runA2 (k b : Vec 8) (w : Bool) : verdict (go [.sl 0 (.c 0) (.s k.n) none, .sl 1 (.c 0) (.s b.n) none, .bool (.s w)] [⟨.b8 k, .ro⟩, ⟨.b8 b, .ro⟩] [false, false, false, false, true]) = some (true, [(decide (2147483647 < ((b.n : Nat) : Int)) == true), (decide (2147483647 < ((k.n : Nat) : Int)) == false), (decide (2147483647 < ((k.n : Nat) : Int)) == false), (decide (2147483647 < ((k.n : Nat) : Int)) == false), (decide (2147483647 < ((k.n : Nat) : Int)) == false)]) := by kernel_rfl
theorem runB1 (k b : Vec 8) (w : Bool) : verdict (go [.sl 0 (.c 0) (.s k.n) none, .sl 1 (.c 0) (.s b.n) none, .bool (.s w)] [⟨.b8 k, .ro⟩, ⟨.b8 b, .ro⟩] [false, false, false, false, false, true, true, true, true]) = some (true, [((!(((k.n : Nat) : Int) == 16)) == true), ((!(((k.n : Nat) : Int) == 16)) == true), ((!(((k.n : Nat) : Int) == 16)) == true), ((!(((k.n : Nat) : Int) == 16)) == true), (decide (2147483647 < ((b.n : Nat) : Int)) == false), (decide (2147483647 < ((k.n : Nat) : Int)) == false), (decide (2147483647 < ((k.n : Nat) : Int)) == false), (decide (2147483647 < ((k.n : Nat) : Int)) == false), (decide (2147483647 < ((k.n : Nat) : Int)) == false)]) := by kernel_rfl
theorem runB2 (k b : Vec 8) (w : Bool) : verdict (go [.sl 0 (.c 0) (.s k.n) none, .sl 1 (.c 0) (.s b.n) none, .bool (.s w)] [⟨.b8 k, .ro⟩, ⟨.b8 b, .ro⟩] [false, false, false, false, false, false, false, false, false, true]) = some (true, [((!(((b.n : Nat) : Int) == 8)) == true), ((!(((k.n : Nat) : Int) == 16)) == false), ((!(((k.n : Nat) : Int) == 16)) == false), ((!(((k.n : Nat) : Int) == 16)) == false), ((!(((k.n : Nat) : Int) == 16)) == false), (decide (2147483647 < ((b.n : Nat) : Int)) == false), (decide (2147483647 < ((k.n : Nat) : Int)) == false), (decide (2147483647 < ((k.n : Nat) : Int)) == false), (decide (2147483647 < ((k.n : Nat) : Int)) == false), (decide (2147483647 < ((k.n : Nat) : Int)) == false)]) := by kernel_rfl
def bo (f g : Nat → BitVec 8) (w : Bool) : Vec 8 := Vec.of ((List.range 8).map (xteaB (nf8 16 f) (nf8 8 (xteaB (nf8 16 f) (nf8 8 g) w)) (!w)))
theorem runD (f g : Nat → BitVec 8) : verdict (go [.sl 0 (.c 0) (.c 16) none, .sl 1 (.c 0) (.c 8) none, .bool (.c true)] [⟨.gen (c8 16 f), .ro⟩, ⟨.gen (c8 8 g), .ro⟩] []) = some (true, [eqCond (Vec.of ((List.range 8).map g)) (bo f g true) 0 0 8 8]) := by kernel_rfl
theorem runE (f g : Nat → BitVec 8) : verdict (go [.sl 0 (.c 0) (.c 16) none, .sl 1 (.c 0) (.c 8) none, .bool (.c false)] [⟨.gen (c8 16 f), .ro⟩, ⟨.gen (c8 8 g), .ro⟩] []) = some (true, [eqCond (Vec.of ((List.range 8).map g)) (bo f g false) 0 0 8 8]) := by kernel_rfl
theorem be_congr {f g : Nat → BitVec 8} {o : Nat} (h : ∀ i, i < 4 → f (o + i) = g (o + i)) : be f o = be g o := by
  have h0 := h 0 (by omega)
  rw [Nat.add_zero] at h0
  unfold be
  rw [h0, h 1 (by omega), h 2 (by omega), h 3 (by omega)]
theorem xteaB_congr {F g g' : Nat → BitVec 8} {w : Bool} (h : ∀ i, i < 8 → g i = g' i) : xteaB F g w = xteaB F g' w := by
  have h0 : be g 0 = be g' 0 := be_congr fun i hi => h _ (by omega)
  have h4 : be g 4 = be g' 4 := be_congr fun i hi => h _ (by omega)
  funext i
  unfold xteaB xtea
  rw [h0, h4]
theorem bo_eq (f g : Nat → BitVec 8) (w : Bool) : eqCond (Vec.of ((List.range 8).map g)) (bo f g w) 0 0 8 8 = true := by
  refine decide_eq_true ⟨rfl, Nat.le_refl _, Nat.le_refl _, by omega, fun j hj => ?_⟩
  rw [Nat.zero_add]
  show ((List.range 8).map g).getD j 0#8 = ((List.range 8).map (xteaB (nf8 16 f) (nf8 8 (xteaB (nf8 16 f) (nf8 8 g) w)) (!w))).getD j 0#8
  have e : xteaB (nf8 16 f) (nf8 8 (xteaB (nf8 16 f) (nf8 8 g) w)) (!w) = xteaB (nf8 16 f) (xteaB (nf8 16 f) (nf8 8 g) w) (!w) := xteaB_congr fun i hi => nf8_lt _ hi
  rw [e]
  have e2 := xtea_back (nf8 16 f) (nf8 8 g) w j hj
  rw [nf8_lt g hj] at e2
  simp [hj, e2]
theorem walk {W0 : World} {v0 v1 : Value} (l0 : Vec 8) (w0 : SlOk W0 v0 (.b8 l0)) (_ : l0.n ≤ maxLen) (l1 : Vec 8) (w1 : SlOk W0 v1 (.b8 l1)) (_ : l1.n ≤ maxLen) (b2 : Bool) :
    Calls Try.prog 5 #[v0, v1, .bool b2] W0 fun e W' => e = .returned (.bool true) ∧ Still W0 W' := by
  have hb := goB_ok specsX_ok (no_loops specsX)
  have args2 : ∀ β, (∀ (i : Nat) v d, [(v0, Eng.Data.b8 l0), (v1, Eng.Data.b8 l1)][i]? = some (v, d) → VRel β (.sl i (.c 0) (.s d.len) none) v) → LRel β [.sl 0 (.c 0) (.s l0.n) none, .sl 1 (.c 0) (.s l1.n) none, .bool (.s b2)] [v0, v1, .bool b2] :=
    fun β h => LRel.cons (h 0 v0 _ rfl) (LRel.cons (h 1 v1 _ rfl) (LRel.cons (rel_bool b2) (LRel.nil β)))
  by_cases hA1 : 2147483647 < l0.n
  · refine law_run hb [(v0, .b8 l0), (v1, .b8 l1)] (ss_cons w0 (ss_cons w1 ss_nil)) (runA1 l0 l1 b2) ?_ args2
    repeat' (refine all_true_cons ?_ ?_)
    all_goals first | exact all_true_nil | (simp only [beq_true, beq_false, decide_eq_true_eq, Bool.not_eq_true', decide_eq_false_iff_not]; omega)
  by_cases hA2 : 2147483647 < l1.n
  · refine law_run hb [(v0, .b8 l0), (v1, .b8 l1)] (ss_cons w0 (ss_cons w1 ss_nil)) (runA2 l0 l1 b2) ?_ args2
    repeat' (refine all_true_cons ?_ ?_)
    all_goals first | exact all_true_nil | (simp only [beq_true, beq_false, decide_eq_true_eq, Bool.not_eq_true', decide_eq_false_iff_not]; omega)
  by_cases hB1 : l0.n = 16
  case neg =>
    refine law_run hb [(v0, .b8 l0), (v1, .b8 l1)] (ss_cons w0 (ss_cons w1 ss_nil)) (runB1 l0 l1 b2) ?_ args2
    repeat' (refine all_true_cons ?_ ?_)
    all_goals first | exact all_true_nil | (simp only [beq_true, beq_false, decide_eq_true_eq, Bool.not_eq_true', decide_eq_false_iff_not, beq_eq_false_iff_ne, ne_eq]; omega)
  by_cases hB2 : l1.n = 8
  case neg =>
    refine law_run hb [(v0, .b8 l0), (v1, .b8 l1)] (ss_cons w0 (ss_cons w1 ss_nil)) (runB2 l0 l1 b2) ?_ args2
    repeat' (refine all_true_cons ?_ ?_)
    all_goals first | exact all_true_nil | (simp only [beq_true, beq_false, decide_eq_true_eq, Bool.not_eq_true', decide_eq_false_iff_not, beq_eq_false_iff_ne, ne_eq, Bool.not_eq_false', beq_iff_eq]; omega)
  have g0 := w0.gen8 hB1
  have g1 := w1.gen8 hB2
  cases b2 with
  | true => exact law_run hb [(v0, .gen _), (v1, .gen _)] (ss_cons g0 (ss_cons g1 ss_nil)) (runD _ _) (all_true_cons (bo_eq _ _ _) all_true_nil) (fun β h => LRel.cons (rel_sl (h 0 v0 _ rfl) (by simp [Data.len])) (LRel.cons (rel_sl (h 1 v1 _ rfl) (by simp [Data.len])) (LRel.cons (.bool (.c true)) (LRel.nil β))))
  | false => exact law_run hb [(v0, .gen _), (v1, .gen _)] (ss_cons g0 (ss_cons g1 ss_nil)) (runE _ _) (all_true_cons (bo_eq _ _ _) all_true_nil) (fun β h => LRel.cons (rel_sl (h 0 v0 _ rfl) (by simp [Data.len])) (LRel.cons (rel_sl (h 1 v1 _ rfl) (by simp [Data.len])) (LRel.cons (.bool (.c false)) (LRel.nil β))))


theorem own : ownKnob Try.prog.godebug = none := by kernel_rfl
theorem laidOut : laidOutB Try.prog = true := by kernel_rfl
theorem read22 : Try.prog.readableRec 22 = true ∧ 22 < Try.prog.types.size := ⟨by kernel_rfl, of_decide_eq_true (by kernel_rfl)⟩
theorem read4 : Try.prog.readableRec 4 = true ∧ 4 < Try.prog.types.size := ⟨by kernel_rfl, of_decide_eq_true (by kernel_rfl)⟩
theorem cells5 : Try.prog.cellsOf 5 = 1 := by kernel_rfl
set_option maxRecDepth 100000 in
theorem contract (H : Type) (enc : TypeId × Value → H) (W : World) (base : Nat) (args : Array Value) (ds gs : List (DataW H)) (before : List MemPlace)
    (hval : ∀ (j : Nat) t v, Try.f5.params[j]? = some t → args[j]? = some v → Value.okWide Try.prog W .any base t v)
    (hW : DataW.Whole enc Try.prog Try.f5.params.toList Rows.fnXteaBackSpec.vars false W args.toList ds gs before) :
    Calls Try.prog 5 args W fun e W' => ∃ v, e = .returned v ∧ Rows.fnXteaBackSpec.post enc Try.prog Try.f5 false true false false W args v W' := by
  have hW' := hW
  obtain ⟨p, q, hA0, hV, rfl, hfz, hnd⟩ := hW
  have hA : DataW.TrodAll enc Try.prog W 0 (fun _ => true) true Try.f5.params.toList args.toList ds p := hA0
  rw [Try.params5] at hA hval
  obtain ⟨v0, vs0, d0, ds0, p0, q0, hargs, rfl, rfl, h0, r0⟩ := trodAll_cons hA
  obtain ⟨v1, vs1, d1, ds1, p1, q1, rfl, rfl, rfl, h1, r1⟩ := trodAll_cons r0
  obtain ⟨v2, vs2, d2, ds2, p2, q2, rfl, rfl, rfl, h2, r2⟩ := trodAll_cons r1
  obtain ⟨rfl, rfl, rfl⟩ := trodAll_nil r2
  obtain rfl : args = #[v0, v1, v2] := by cases args; simp_all
  obtain ⟨l0, w0, m0⟩ := open_sl8 Try.underlying22 Try.underlying5 cells5 (hval 0 22 v0 rfl rfl) h0
  obtain ⟨l1, w1, m1⟩ := open_sl8 Try.underlying22 Try.underlying5 cells5 (hval 1 22 v1 rfl rfl) h1
  obtain ⟨b2, rfl, rfl, rfl⟩ := open_bool Try.underlying4 (hval 2 4 v2 rfl rfl) h2
  refine (walk l0 w0 m0 l1 w1 m1 b2).mono fun e W' ⟨he, hs⟩ => ?_
  subst he
  exact ⟨_, rfl, post_of_still (tb := 4) hW' rfl rfl laidOut (by
    intro t ht
    rw [Try.params5] at ht
    have : t = 22 ∨ t = 4 := by simpa using ht
    rcases this with rfl | rfl
    · exact read22
    · exact read4
    ) (by kernel_rfl) Try.underlying4 hs⟩
set_option maxRecDepth 100000 in
theorem lifted (os : Os) (started : os.Started) (H : Type) (enc : TypeId × Value → H) :
    ReturnsInHanded {} Try.checked os 5 .any (Rows.fnXteaBackSpec.pre6 enc Try.prog Try.f5 Rows.fnXteaBackRow.domain false) (Rows.fnXteaBackSpec.post enc Try.prog Try.f5 false true false false) := by
  refine returnsInHanded_of_change (C := Try.checked) own started (by kernel_rfl) Try.func5
    (ChangeSpec.witness6 (enc := enc) (C := Try.checked) false ⟨#[], #[.slice none 0 0, .slice none 0 0, .bool false], []⟩ 8 (by kernel_rfl) (by kernel_rfl) (by kernel_rfl) (by kernel_rfl)) ?_
  intro W base args ds gs before hval hW _ _
  exact contract H enc W base args ds gs before hval hW
theorem holds : Rows.FnXteaBackSaid :=
  OpenClaim.holds_of_wide 5 Try.f5 rfl rfl rfl rfl rfl rfl rfl ⟨rfl, rfl, rfl, rfl, rfl⟩ rfl rfl rfl rfl rfl (by kernel_rfl) Try.func5 (by kernel_rfl)
    (of_decide_eq_true (by kernel_rfl)) (by unfold Func.isWrapper; first | (rw [if_pos (by decide +kernel)]; kernel_rfl) | (rw [if_neg (by decide +kernel)]; exact ⟨rfl, rfl⟩))
    (fun os started H enc _ => lifted os started H enc)
end Go.Proofs.Ytcjoocaabeckfaa.xteaBack

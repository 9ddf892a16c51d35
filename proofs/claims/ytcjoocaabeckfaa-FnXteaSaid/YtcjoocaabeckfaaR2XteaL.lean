/- FnXtea: of all keys, and of blocks of eight bytes: the package and the reference encipher and decipher alike, and refuse alike. No condition. -/
import Derived.Test.YtcjoocaabeckfaaR2Xtea
import Derived.Test.YtcjoocaabeckfaaRows
import Derived.WalkKit
import Derived.ProofKit
import Derived.OpenShut
namespace Go.Proofs.Ytcjoocaabeckfaa.xteaLaw
open Go.ChangeShapes Go.WideShapes Go.ChangeAt Go.RowKit
open Go.Eng
noncomputable def go (f : FuncId) (args : List AV) (H : List Blk) (dec : List Bool) : Option (AV × St) := goB specsX noLoop f args ⟨H, big, dec, []⟩
theorem runA1 (k b : Vec 8) (w : Bool) : verdict (go 4 [.sl 0 (.c 0) (.s k.n) none, .sl 1 (.c 0) (.s b.n) none, .bool (.s w)] [⟨.b8 k, .ro⟩, ⟨.b8 b, .ro⟩] [true, true, true, true]) = some (true, [(decide (2147483647 < ((k.n : Nat) : Int)) == true), (decide (2147483647 < ((k.n : Nat) : Int)) == true), (decide (2147483647 < ((k.n : Nat) : Int)) == true), (decide (2147483647 < ((k.n : Nat) : Int)) == true)]) := by kernel_rfl
theorem runA2 (k b : Vec 8) (w : Bool) : verdict (go 4 [.sl 0 (.c 0) (.s k.n) none, .sl 1 (.c 0) (.s b.n) none, .bool (.s w)] [⟨.b8 k, .ro⟩, ⟨.b8 b, .ro⟩] [false, false, false, false, true]) = some (true, [(decide (2147483647 < ((b.n : Nat) : Int)) == true), (decide (2147483647 < ((k.n : Nat) : Int)) == false), (decide (2147483647 < ((k.n : Nat) : Int)) == false), (decide (2147483647 < ((k.n : Nat) : Int)) == false), (decide (2147483647 < ((k.n : Nat) : Int)) == false)]) := by kernel_rfl
theorem runB1 (k b : Vec 8) (w : Bool) : verdict (go 4 [.sl 0 (.c 0) (.s k.n) none, .sl 1 (.c 0) (.s b.n) none, .bool (.s w)] [⟨.b8 k, .ro⟩, ⟨.b8 b, .ro⟩] [false, false, false, false, false, true, true, true, true]) = some (true, [(decide (1024 < ((k.n : Nat) : Int)) == true), (decide (1024 < ((k.n : Nat) : Int)) == true), (decide (1024 < ((k.n : Nat) : Int)) == true), (decide (1024 < ((k.n : Nat) : Int)) == true), (decide (2147483647 < ((b.n : Nat) : Int)) == false), (decide (2147483647 < ((k.n : Nat) : Int)) == false), (decide (2147483647 < ((k.n : Nat) : Int)) == false), (decide (2147483647 < ((k.n : Nat) : Int)) == false), (decide (2147483647 < ((k.n : Nat) : Int)) == false)]) := by kernel_rfl
theorem runB2 (k b : Vec 8) (w : Bool) : verdict (go 4 [.sl 0 (.c 0) (.s k.n) none, .sl 1 (.c 0) (.s b.n) none, .bool (.s w)] [⟨.b8 k, .ro⟩, ⟨.b8 b, .ro⟩] [false, false, false, false, false, false, false, false, false, true]) = some (true, [((!(((b.n : Nat) : Int) == 8)) == true), (decide (1024 < ((k.n : Nat) : Int)) == false), (decide (1024 < ((k.n : Nat) : Int)) == false), (decide (1024 < ((k.n : Nat) : Int)) == false), (decide (1024 < ((k.n : Nat) : Int)) == false), (decide (2147483647 < ((b.n : Nat) : Int)) == false), (decide (2147483647 < ((k.n : Nat) : Int)) == false), (decide (2147483647 < ((k.n : Nat) : Int)) == false), (decide (2147483647 < ((k.n : Nat) : Int)) == false), (decide (2147483647 < ((k.n : Nat) : Int)) == false)]) := by kernel_rfl
noncomputable def specsN : FuncId → Option Eng.Spec
  | 15 => some spEqual
  | 18 => some sp18
  | _ => none
noncomputable def goN (f : FuncId) (args : List AV) (H : List Blk) (dec : List Bool) : Option (AV × St) := goB specsN noLoop f args ⟨H, big, dec, []⟩
theorem specsN_ok : ∀ f sp, specsN f = some sp → SpecOk Try.prog noGlob f sp := by
  intro f sp h
  unfold specsN at h
  split at h
  · injection h with h; subst h; exact okEqual
  · injection h with h; subst h; exact ok18
  · cases h
theorem runC (k b : Vec 8) (w : Bool) : verdict (goN 4 [.sl 0 (.c 0) (.s k.n) none, .sl 1 (.c 0) (.c 8) none, .bool (.s w)] [⟨.b8 k, .ro⟩, ⟨.b8 b, .ro⟩] [false, false, false, false, false, false, false, false, false, true, true, true, true, true, true]) = some (true, [((!(((k.n : Nat) : Int) == 16)) == true), ((!(((k.n : Nat) : Int) == 16)) == true), ((!(((k.n : Nat) : Int) == 16)) == true), ((!(((k.n : Nat) : Int) == 16)) == true), ((((k.n : Nat) : Int) == 16) == false), (decide (1024 < ((k.n : Nat) : Int)) == false), (decide (1024 < ((k.n : Nat) : Int)) == false), (decide (1024 < ((k.n : Nat) : Int)) == false), (decide (1024 < ((k.n : Nat) : Int)) == false), (decide (2147483647 < ((k.n : Nat) : Int)) == false), (decide (2147483647 < ((k.n : Nat) : Int)) == false), (decide (2147483647 < ((k.n : Nat) : Int)) == false), (decide (2147483647 < ((k.n : Nat) : Int)) == false)]) := by kernel_rfl
def xo (f g : Nat → BitVec 8) (w : Bool) : Vec 8 := Vec.of ((List.range 8).map (xteaB (nf8 16 f) (nf8 8 g) w))
theorem runD (f g : Nat → BitVec 8) : verdict (go 4 [.sl 0 (.c 0) (.c 16) none, .sl 1 (.c 0) (.c 8) none, .bool (.c true)] [⟨.gen (c8 16 f), .ro⟩, ⟨.gen (c8 8 g), .ro⟩] []) = some (true, [eqCond (xo f g true) (xo f g true) 0 0 8 8]) := by kernel_rfl
theorem runE (f g : Nat → BitVec 8) : verdict (go 4 [.sl 0 (.c 0) (.c 16) none, .sl 1 (.c 0) (.c 8) none, .bool (.c false)] [⟨.gen (c8 16 f), .ro⟩, ⟨.gen (c8 8 g), .ro⟩] []) = some (true, [eqCond (xo f g false) (xo f g false) 0 0 8 8]) := by kernel_rfl
theorem xo_eq (f g : Nat → BitVec 8) (w : Bool) : eqCond (xo f g w) (xo f g w) 0 0 8 8 = true := decide_eq_true ⟨rfl, Nat.le_refl _, Nat.le_refl _, by omega, fun _ _ => rfl⟩
theorem walk {W0 : World} {v0 v1 : Value} (l0 : Vec 8) (w0 : SlOk W0 v0 (.b8 l0)) (_ : l0.n ≤ maxLen) (l1 : Vec 8) (w1 : SlOk W0 v1 (.b8 l1)) (_ : l1.n ≤ maxLen) (b2 : Bool) :
    Calls Try.prog 4 #[v0, v1, .bool b2] W0 fun e W' => e = .returned (.bool true) ∧ Still W0 W' := by
  have two : ∀ (d0 d1 : Eng.Data) (p0 p1 : AV) (P2 : AV) (dec cs : List Bool), SlOk W0 v0 d0 → SlOk W0 v1 d1 → (∀ β, VRel β (.sl 0 (.c 0) (.s d0.len) none) v0 → VRel β p0 v0) → (∀ β, VRel β (.sl 1 (.c 0) (.s d1.len) none) v1 → VRel β p1 v1) → (∀ β, VRel β P2 (.bool b2)) →
      ∀ (sp : FuncId → Option Eng.Spec) (hs : ∀ f s, sp f = some s → SpecOk Try.prog noGlob f s), verdict (goB sp noLoop 4 [p0, p1, P2] ⟨[⟨d0, .ro⟩, ⟨d1, .ro⟩], big, dec, []⟩) = some (true, cs) → (∀ x ∈ cs, x = true) →
      Calls Try.prog 4 #[v0, v1, .bool b2] W0 fun e W' => e = .returned (.bool true) ∧ Still W0 W' := by
    intro d0 d1 p0 p1 P2 dec cs h0 h1 r0 r1 r2 sp hs hrun hcs
    obtain ⟨β, hH, hv⟩ := ro_heap (W := W0) [(v0, d0), (v1, d1)] (fun p hp => by
      rcases List.mem_cons.1 hp with rfl | hp
      · exact h0
      · rcases List.mem_cons.1 hp with rfl | hp
        · exact h1
        · cases hp)
    exact run_law (goB_ok hs (no_loops _)) hrun rfl hcs (LRel.cons (r0 β (hv 0 v0 d0 rfl)) (LRel.cons (r1 β (hv 1 v1 d1 rfl)) (LRel.cons (r2 β) (LRel.nil β)))) hH (fun b k hk => by
      match b, hk with
      | 0, hk => simp at hk; subst hk; intro h; cases h
      | 1, hk => simp at hk; subst hk; intro h; cases h
      | b + 2, hk => simp at hk)
  by_cases hA1 : 2147483647 < l0.n
  · refine two _ _ _ _ _ _ _ w0 w1 (fun _ h => h) (fun _ h => h) (fun _ => rel_bool b2) specsX specsX_ok (runA1 l0 l1 b2) ?_
    repeat' (refine all_true_cons ?_ ?_)
    all_goals first | exact all_true_nil | (simp only [beq_true, beq_false, decide_eq_true_eq, Bool.not_eq_true', decide_eq_false_iff_not]; omega)
  by_cases hA2 : 2147483647 < l1.n
  · refine two _ _ _ _ _ _ _ w0 w1 (fun _ h => h) (fun _ h => h) (fun _ => rel_bool b2) specsX specsX_ok (runA2 l0 l1 b2) ?_
    repeat' (refine all_true_cons ?_ ?_)
    all_goals first | exact all_true_nil | (simp only [beq_true, beq_false, decide_eq_true_eq, Bool.not_eq_true', decide_eq_false_iff_not]; omega)
  by_cases hB1 : 1024 < l0.n
  · refine two _ _ _ _ _ _ _ w0 w1 (fun _ h => h) (fun _ h => h) (fun _ => rel_bool b2) specsX specsX_ok (runB1 l0 l1 b2) ?_
    repeat' (refine all_true_cons ?_ ?_)
    all_goals first | exact all_true_nil | (simp only [beq_true, beq_false, decide_eq_true_eq, Bool.not_eq_true', decide_eq_false_iff_not]; omega)
  by_cases hB2 : l1.n = 8
  case neg =>
    refine two _ _ _ _ _ _ _ w0 w1 (fun _ h => h) (fun _ h => h) (fun _ => rel_bool b2) specsX specsX_ok (runB2 l0 l1 b2) ?_
    repeat' (refine all_true_cons ?_ ?_)
    all_goals first | exact all_true_nil | (simp only [beq_true, beq_false, decide_eq_true_eq, Bool.not_eq_true', decide_eq_false_iff_not, beq_eq_false_iff_ne, ne_eq]; omega)
  by_cases hC : l0.n = 16
  case neg =>
    refine two _ _ _ _ _ _ _ w0 w1 (fun _ h => h) (fun _ h => rel_sl h hB2) (fun _ => rel_bool b2) specsN specsN_ok (runC l0 l1 b2) ?_
    repeat' (refine all_true_cons ?_ ?_)
    all_goals first | exact all_true_nil | (simp only [beq_true, beq_false, decide_eq_true_eq, Bool.not_eq_true', decide_eq_false_iff_not, beq_eq_false_iff_ne, ne_eq]; omega)
  have g0 := w0.gen8 hC
  have g1 := w1.gen8 hB2
  cases b2 with
  | true => exact two _ _ _ _ _ _ _ g0 g1 (fun _ h => rel_sl h (by simp [Data.len])) (fun _ h => rel_sl h (by simp [Data.len])) (fun _ => .bool (.c true)) specsX specsX_ok (runD _ _) (all_true_cons (xo_eq _ _ _) all_true_nil)
  | false => exact two _ _ _ _ _ _ _ g0 g1 (fun _ h => rel_sl h (by simp [Data.len])) (fun _ h => rel_sl h (by simp [Data.len])) (fun _ => .bool (.c false)) specsX specsX_ok (runE _ _) (all_true_cons (xo_eq _ _ _) all_true_nil)
theorem own : ownKnob Try.prog.godebug = none := by kernel_rfl
theorem laidOut : laidOutB Try.prog = true := by kernel_rfl
theorem read22 : Try.prog.readableRec 22 = true ∧ 22 < Try.prog.types.size := ⟨by kernel_rfl, of_decide_eq_true (by kernel_rfl)⟩
theorem read4 : Try.prog.readableRec 4 = true ∧ 4 < Try.prog.types.size := ⟨by kernel_rfl, of_decide_eq_true (by kernel_rfl)⟩
theorem cells5 : Try.prog.cellsOf 5 = 1 := by kernel_rfl
set_option maxRecDepth 100000 in
theorem contract (H : Type) (enc : TypeId × Value → H) (W : World) (base : Nat) (args : Array Value) (ds gs : List (DataW H)) (before : List MemPlace)
    (hval : ∀ (j : Nat) t v, Try.f4.params[j]? = some t → args[j]? = some v → Value.okWide Try.prog W .any base t v)
    (hW : DataW.Whole enc Try.prog Try.f4.params.toList Rows.fnXteaSpec.vars false W args.toList ds gs before) :
    Calls Try.prog 4 args W fun e W' => ∃ v, e = .returned v ∧ Rows.fnXteaSpec.post enc Try.prog Try.f4 false true false false W args v W' := by
  have hW' := hW
  obtain ⟨p, q, hA0, hV, rfl, hfz, hnd⟩ := hW
  have hA : DataW.TrodAll enc Try.prog W 0 (fun _ => true) true Try.f4.params.toList args.toList ds p := hA0
  rw [Try.params4] at hA hval
  obtain ⟨v0, vs0, d0, ds0, p0, q0, hargs, rfl, rfl, h0, r0⟩ := trodAll_cons hA
  obtain ⟨v1, vs1, d1, ds1, p1, q1, rfl, rfl, rfl, h1, r1⟩ := trodAll_cons r0
  obtain ⟨v2, vs2, d2, ds2, p2, q2, rfl, rfl, rfl, h2, r2⟩ := trodAll_cons r1
  obtain ⟨rfl, rfl, rfl⟩ := trodAll_nil r2
  obtain rfl : args = #[v0, v1, v2] := by cases args; simp_all
  obtain ⟨l0, w0, m0⟩ := open_sl8 Try.underlying22 Try.underlying5 cells5 (hval 0 22 v0 rfl rfl) h0
  obtain ⟨l1, w1, m1⟩ := open_sl8 Try.underlying22 Try.underlying5 cells5 (hval 1 22 v1 rfl rfl) h1
  obtain ⟨b2, rfl, rfl, rfl⟩ := open_bool Try.underlying4 (hval 2 4 v2 rfl rfl) h2
  refine (walk l0 w0 m0 l1 w1 m1 b2).mono fun e W' ⟨he, hs⟩ => ?_
  subst he
  exact ⟨_, rfl, post_of_still (tb := 4) hW' rfl rfl laidOut (by
    intro t ht
    rw [Try.params4] at ht
    have : t = 22 ∨ t = 4 := by simpa using ht
    rcases this with rfl | rfl
    · exact read22
    · exact read4
    ) (by kernel_rfl) Try.underlying4 hs⟩
set_option maxRecDepth 100000 in
theorem lifted (os : Os) (started : os.Started) (H : Type) (enc : TypeId × Value → H) :
    ReturnsInHanded {} Try.checked os 4 .any (Rows.fnXteaSpec.pre6 enc Try.prog Try.f4 Rows.fnXteaRow.domain false) (Rows.fnXteaSpec.post enc Try.prog Try.f4 false true false false) := by
  refine returnsInHanded_of_change (C := Try.checked) own started (by kernel_rfl) Try.func4
    (ChangeSpec.witness6 (enc := enc) (C := Try.checked) false ⟨#[], #[.slice none 0 0, .slice none 0 0, .bool false], []⟩ 8 (by kernel_rfl) (by kernel_rfl) (by kernel_rfl) (by kernel_rfl)) ?_
  intro W base args ds gs before hval hW _ _
  exact contract H enc W base args ds gs before hval hW
theorem holds : Rows.FnXteaSaid :=
  OpenClaim.holds_of_wide 4 Try.f4 rfl rfl rfl rfl rfl rfl rfl ⟨rfl, rfl, rfl, rfl, rfl⟩ rfl rfl rfl rfl rfl (by kernel_rfl) Try.func4 (by kernel_rfl)
    (of_decide_eq_true (by kernel_rfl)) (by unfold Func.isWrapper; first | (rw [if_pos (by decide +kernel)]; kernel_rfl) | (rw [if_neg (by decide +kernel)]; exact ⟨rfl, rfl⟩))
    (fun os started H enc _ => lifted os started H enc)
end Go.Proofs.Ytcjoocaabeckfaa.xteaLaw

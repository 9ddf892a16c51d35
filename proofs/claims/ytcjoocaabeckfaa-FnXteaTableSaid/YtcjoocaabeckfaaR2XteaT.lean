/- FnXteaTable: of all keys of 16 bytes and blocks of eight: what is added in each half round is the sum so far and a word of the key, and a block is enciphered by these alone. No condition. -/
import Derived.Test.YtcjoocaabeckfaaR2Xtea
import Derived.Test.YtcjoocaabeckfaaRows
import Derived.WalkKit
import Derived.ProofKit
import Derived.OpenShut
namespace Go.Proofs.Ytcjoocaabeckfaa.xteaTable
open Go.ChangeShapes Go.WideShapes Go.ChangeAt Go.RowKit
open Go.Eng
theorem run24 (f : Nat → BitVec 8) : endsAs 1 (some [0]) [⟨.gen (c8 16 f), .ro⟩] (.tup [.agg (c32 64 (xtab f)), .bool (.c true)]) (goB noSpec noLoop 24 [.sl 0 (.c 0) (.c 16) none] ⟨[⟨.gen (c8 16 f), .ro⟩], big, [], []⟩) = some ([⟨.gen (c8 16 f), .ro⟩], (.tup [.agg (c32 64 (xtab f)), .bool (.c true)]), []) := by kernel_rfl
def sp24 : Eng.Spec := fun args H dec =>
  match args with
  | [.ref (.sl 0 (.c 0) (.c n) _)] =>
    match H with
    | [⟨d0, m0⟩] =>
      match gen8 16 d0, isDead m0, Nat.beq n 16 with
      | some f, false, true => some ⟨.tup [.agg (c32 64 (xtab f)), .bool (.c true)], [⟨d0, m0⟩], dec, []⟩
      | _, _, _ => none
    | _ => none
  | _ => none
theorem ok24 : SpecOk Try.prog noGlob 24 sp24 := by
  refine SpecOk.ends (goB_ok no_specs (no_loops _)) (fun args H dec r hr hc => ?_) (fun args H dec r hr i k hk hm => ?_)
  · unfold sp24 at hr
    split at hr
    case h_2 => cases hr
    split at hr
    case h_2 => cases hr
    split at hr
    case h_2 => cases hr
    rename_i a h1 h2 h3
    injection hr with hr; subst hr
    have h3 := Nat.eq_of_beq_eq_true h3
    subst h3
    refine ⟨[.sl 0 (.c 0) (.c 16) none], [⟨.gen (c8 16 a), .ro⟩], _, _, [], some [0], _, _, rfl, ?_, run24 a, all_true_nil, ?_⟩
    · rcases isDead_mode h2 with rfl | rfl <;> simp only [cH, cB, gen8_fit h1]
    · rcases isDead_mode h2 with rfl | rfl <;> rfl
  · unfold sp24 at hr
    split at hr
    case h_2 => cases hr
    split at hr
    case h_2 => cases hr
    split at hr
    case h_2 => cases hr
    injection hr with hr; subst hr
    exact ⟨k, hk, hm⟩
def specsT : FuncId → Option Eng.Spec
  | 15 => some spEqual
  | 18 => some sp18
  | 19 => some spX
  | 24 => some sp24
  | _ => none
theorem specsT_ok : ∀ f sp, specsT f = some sp → SpecOk Try.prog noGlob f sp := by
  intro f sp h
  unfold specsT at h
  split at h
  · injection h with h; subst h; exact okEqual
  · injection h with h; subst h; exact ok18
  · injection h with h; subst h; exact ok19
  · injection h with h; subst h; exact ok24
  · cases h
noncomputable def go (args : List AV) (H : List Blk) (dec : List Bool) : Option (AV × St) := goB specsT noLoop 7 args ⟨H, big, dec, []⟩
theorem runA1 (k b : Vec 8) : verdict (go [.sl 0 (.c 0) (.s k.n) none, .sl 1 (.c 0) (.s b.n) none] [⟨.b8 k, .ro⟩, ⟨.b8 b, .ro⟩] [true, true, true, true]) = some (true, [(decide (2147483647 < ((k.n : Nat) : Int)) == true), (decide (2147483647 < ((k.n : Nat) : Int)) == true), (decide (2147483647 < ((k.n : Nat) : Int)) == true), (decide (2147483647 < ((k.n : Nat) : Int)) == true)]) := by kernel_rfl
theorem runA2 (k b : Vec 8) : verdict (go [.sl 0 (.c 0) (.s k.n) none, .sl 1 (.c 0) (.s b.n) none] [⟨.b8 k, .ro⟩, ⟨.b8 b, .ro⟩] [false, false, false, false, true]) = some (true, [(decide (2147483647 < ((b.n : Nat) : Int)) == true), (decide (2147483647 < ((k.n : Nat) : Int)) == false), (decide (2147483647 < ((k.n : Nat) : Int)) == false), (decide (2147483647 < ((k.n : Nat) : Int)) == false), (decide (2147483647 < ((k.n : Nat) : Int)) == false)]) := by kernel_rfl
theorem runB1 (k b : Vec 8) : verdict (go [.sl 0 (.c 0) (.s k.n) none, .sl 1 (.c 0) (.s b.n) none] [⟨.b8 k, .ro⟩, ⟨.b8 b, .ro⟩] [false, false, false, false, false, true, true, true, true]) = some (true, [((!(((k.n : Nat) : Int) == 16)) == true), ((!(((k.n : Nat) : Int) == 16)) == true), ((!(((k.n : Nat) : Int) == 16)) == true), ((!(((k.n : Nat) : Int) == 16)) == true), (decide (2147483647 < ((b.n : Nat) : Int)) == false), (decide (2147483647 < ((k.n : Nat) : Int)) == false), (decide (2147483647 < ((k.n : Nat) : Int)) == false), (decide (2147483647 < ((k.n : Nat) : Int)) == false), (decide (2147483647 < ((k.n : Nat) : Int)) == false)]) := by kernel_rfl
theorem runB2 (k b : Vec 8) : verdict (go [.sl 0 (.c 0) (.s k.n) none, .sl 1 (.c 0) (.s b.n) none] [⟨.b8 k, .ro⟩, ⟨.b8 b, .ro⟩] [false, false, false, false, false, false, false, false, false, true]) = some (true, [((!(((b.n : Nat) : Int) == 8)) == true), ((!(((k.n : Nat) : Int) == 16)) == false), ((!(((k.n : Nat) : Int) == 16)) == false), ((!(((k.n : Nat) : Int) == 16)) == false), ((!(((k.n : Nat) : Int) == 16)) == false), (decide (2147483647 < ((b.n : Nat) : Int)) == false), (decide (2147483647 < ((k.n : Nat) : Int)) == false), (decide (2147483647 < ((k.n : Nat) : Int)) == false), (decide (2147483647 < ((k.n : Nat) : Int)) == false), (decide (2147483647 < ((k.n : Nat) : Int)) == false)]) := by kernel_rfl
def same (F : Nat → BitVec 8) (i : Nat) : Bool := (xtab F i != xtab F i) == false
def xo (f g : Nat → BitVec 8) : Vec 8 := Vec.of ((List.range 8).map (xteaB (nf8 16 f) (nf8 8 g) false))
theorem runD (f g : Nat → BitVec 8) : verdict (go [.sl 0 (.c 0) (.c 16) none, .sl 1 (.c 0) (.c 8) none] [⟨.gen (c8 16 f), .ro⟩, ⟨.gen (c8 8 g), .ro⟩] (List.replicate 64 false)) = some (true, (eqCond (xo f g) (xo f g) 0 0 8 8 :: (List.range 64).reverse.map (same (nf8 16 f)))) := by kernel_rfl
theorem walk {W0 : World} {v0 v1 : Value} (l0 : Vec 8) (w0 : SlOk W0 v0 (.b8 l0)) (_ : l0.n ≤ maxLen) (l1 : Vec 8) (w1 : SlOk W0 v1 (.b8 l1)) (_ : l1.n ≤ maxLen) :
    Calls Try.prog 7 #[v0, v1] W0 fun e W' => e = .returned (.bool true) ∧ Still W0 W' := by
  have hb := goB_ok specsT_ok (no_loops specsT)
  have args2 : ∀ β, (∀ (i : Nat) v d, [(v0, Eng.Data.b8 l0), (v1, Eng.Data.b8 l1)][i]? = some (v, d) → VRel β (.sl i (.c 0) (.s d.len) none) v) → LRel β [.sl 0 (.c 0) (.s l0.n) none, .sl 1 (.c 0) (.s l1.n) none] [v0, v1] :=
    fun β h => LRel.cons (h 0 v0 _ rfl) (LRel.cons (h 1 v1 _ rfl) (LRel.nil β))
  by_cases hA1 : 2147483647 < l0.n
  · refine law_run hb [(v0, .b8 l0), (v1, .b8 l1)] (ss_cons w0 (ss_cons w1 ss_nil)) (runA1 l0 l1) ?_ args2
    repeat' (refine all_true_cons ?_ ?_)
    all_goals first | exact all_true_nil | (simp only [beq_true, beq_false, decide_eq_true_eq, Bool.not_eq_true', decide_eq_false_iff_not]; omega)
  by_cases hA2 : 2147483647 < l1.n
  · refine law_run hb [(v0, .b8 l0), (v1, .b8 l1)] (ss_cons w0 (ss_cons w1 ss_nil)) (runA2 l0 l1) ?_ args2
    repeat' (refine all_true_cons ?_ ?_)
    all_goals first | exact all_true_nil | (simp only [beq_true, beq_false, decide_eq_true_eq, Bool.not_eq_true', decide_eq_false_iff_not]; omega)
  by_cases hB1 : l0.n = 16
  case neg =>
    refine law_run hb [(v0, .b8 l0), (v1, .b8 l1)] (ss_cons w0 (ss_cons w1 ss_nil)) (runB1 l0 l1) ?_ args2
    repeat' (refine all_true_cons ?_ ?_)
    all_goals first | exact all_true_nil | (simp only [beq_true, beq_false, decide_eq_true_eq, Bool.not_eq_true', decide_eq_false_iff_not, beq_eq_false_iff_ne, ne_eq]; omega)
  by_cases hB2 : l1.n = 8
  case neg =>
    refine law_run hb [(v0, .b8 l0), (v1, .b8 l1)] (ss_cons w0 (ss_cons w1 ss_nil)) (runB2 l0 l1) ?_ args2
    repeat' (refine all_true_cons ?_ ?_)
    all_goals first | exact all_true_nil | (simp only [beq_true, beq_false, decide_eq_true_eq, Bool.not_eq_true', decide_eq_false_iff_not, beq_eq_false_iff_ne, ne_eq, Bool.not_eq_false', beq_iff_eq]; omega)
  have g0 := w0.gen8 hB1
  have g1 := w1.gen8 hB2
  refine law_run hb [(v0, .gen _), (v1, .gen _)] (ss_cons g0 (ss_cons g1 ss_nil)) (runD _ _) (all_true_cons (decide_eq_true ⟨rfl, Nat.le_refl _, Nat.le_refl _, by omega, fun _ _ => rfl⟩) (fun x hx => ?_)) (fun β h => LRel.cons (rel_sl (h 0 v0 _ rfl) (by simp [Data.len])) (LRel.cons (rel_sl (h 1 v1 _ rfl) (by simp [Data.len])) (LRel.nil β)))
  rw [List.mem_map] at hx
  obtain ⟨i, _, rfl⟩ := hx
  simp [same]


theorem own : ownKnob Try.prog.godebug = none := by kernel_rfl
theorem laidOut : laidOutB Try.prog = true := by kernel_rfl
theorem read22 : Try.prog.readableRec 22 = true ∧ 22 < Try.prog.types.size := ⟨by kernel_rfl, of_decide_eq_true (by kernel_rfl)⟩
theorem cells5 : Try.prog.cellsOf 5 = 1 := by kernel_rfl
set_option maxRecDepth 100000 in
theorem contract (H : Type) (enc : TypeId × Value → H) (W : World) (base : Nat) (args : Array Value) (ds gs : List (DataW H)) (before : List MemPlace)
    (hval : ∀ (j : Nat) t v, Try.f7.params[j]? = some t → args[j]? = some v → Value.okWide Try.prog W .any base t v)
    (hW : DataW.Whole enc Try.prog Try.f7.params.toList Rows.fnXteaTableSpec.vars false W args.toList ds gs before) :
    Calls Try.prog 7 args W fun e W' => ∃ v, e = .returned v ∧ Rows.fnXteaTableSpec.post enc Try.prog Try.f7 false true false false W args v W' := by
  have hW' := hW
  obtain ⟨p, q, hA0, hV, rfl, hfz, hnd⟩ := hW
  have hA : DataW.TrodAll enc Try.prog W 0 (fun _ => true) true Try.f7.params.toList args.toList ds p := hA0
  rw [Try.params7] at hA hval
  obtain ⟨v0, vs0, d0, ds0, p0, q0, hargs, rfl, rfl, h0, r0⟩ := trodAll_cons hA
  obtain ⟨v1, vs1, d1, ds1, p1, q1, rfl, rfl, rfl, h1, r1⟩ := trodAll_cons r0
  obtain ⟨rfl, rfl, rfl⟩ := trodAll_nil r1
  obtain rfl : args = #[v0, v1] := by cases args; simp_all
  obtain ⟨l0, w0, m0⟩ := open_sl8 Try.underlying22 Try.underlying5 cells5 (hval 0 22 v0 rfl rfl) h0
  obtain ⟨l1, w1, m1⟩ := open_sl8 Try.underlying22 Try.underlying5 cells5 (hval 1 22 v1 rfl rfl) h1
  refine (walk l0 w0 m0 l1 w1 m1).mono fun e W' ⟨he, hs⟩ => ?_
  subst he
  exact ⟨_, rfl, post_of_still (tb := 4) hW' rfl rfl laidOut (by
    intro t ht
    rw [Try.params7] at ht
    have : t = 22 := by simpa using ht
    rcases this with rfl
    · exact read22
    ) (by kernel_rfl) Try.underlying4 hs⟩
set_option maxRecDepth 100000 in
theorem lifted (os : Os) (started : os.Started) (H : Type) (enc : TypeId × Value → H) :
    ReturnsInHanded {} Try.checked os 7 .any (Rows.fnXteaTableSpec.pre6 enc Try.prog Try.f7 Rows.fnXteaTableRow.domain false) (Rows.fnXteaTableSpec.post enc Try.prog Try.f7 false true false false) := by
  refine returnsInHanded_of_change (C := Try.checked) own started (by kernel_rfl) Try.func7
    (ChangeSpec.witness6 (enc := enc) (C := Try.checked) false ⟨#[], #[.slice none 0 0, .slice none 0 0], []⟩ 8 (by kernel_rfl) (by kernel_rfl) (by kernel_rfl) (by kernel_rfl)) ?_
  intro W base args ds gs before hval hW _ _
  exact contract H enc W base args ds gs before hval hW
theorem holds : Rows.FnXteaTableSaid :=
  OpenClaim.holds_of_wide 7 Try.f7 rfl rfl rfl rfl rfl rfl rfl ⟨rfl, rfl, rfl, rfl, rfl⟩ rfl rfl rfl rfl rfl (by kernel_rfl) Try.func7 (by kernel_rfl)
    (of_decide_eq_true (by kernel_rfl)) (by unfold Func.isWrapper; first | (rw [if_pos (by decide +kernel)]; kernel_rfl) | (rw [if_neg (by decide +kernel)]; exact ⟨rfl, rfl⟩))
    (fun os started H enc _ => lifted os started H enc)
end Go.Proofs.Ytcjoocaabeckfaa.xteaTable

/- The contract of 'equal': where both slices hold the same bytes, it says true. -/
import Derived.Test.YtnonaagcnenbdaaR1Once
namespace Go.Proofs.Ytnonaagcnenbdaa
open Go.Eng
set_option linter.unusedSectionVars false
variable [RowAddr]
structure EqD where
  (a b : Vec 8)
  (oa ob na nb : Nat)
  i : Int
def EqD.good (d : EqD) : Bool := decide (0 ≤ d.i ∧ d.i ≤ d.na ∧ d.na = d.nb ∧ d.oa + d.na ≤ d.a.n ∧ d.ob + d.nb ≤ d.b.n ∧ d.na ≤ 4611686018427387904 ∧ ∀ j, j < d.na → d.a.l.getD (d.oa + j) 0#8 = d.b.l.getD (d.ob + j) 0#8)
def EqD.st (d : EqD) : Fr × List Blk := (⟨[.sl 0 (.s d.oa) (.s d.na) none, .sl 1 (.s d.ob) (.s d.nb) none, .undef, .undef, .undef, .int .i64 (.s d.i)], []⟩, [⟨.b8 d.a, .ro⟩, ⟨.b8 d.b, .ro⟩])
def EqD.next (d : EqD) : EqD := { d with i := d.i + 1 }
def eqParse (F : Fr) (H : List Blk) : Option EqD :=
  match F.vars with
  | [.ref (.sl 0 oa na _), .ref (.sl 1 ob nb _), _, _, _, .num (.int .i64 i)] =>
    match H with
    | [⟨d0, m0⟩, ⟨d1, m1⟩] =>
      match d0.as8, d1.as8, isDead m0, isDead m1 with
      | some a, some b, false, false => some ⟨a, b, oa.v, ob.v, na.v, nb.v, i.v⟩
      | _, _, _, _ => none
    | _ => none
  | _ => none
def eqT : LoopT EqD where
  parse := eqParse
  gh := []
  st := EqD.st
  next := EqD.next
  rem d := (d.na - d.i).toNat
  good := EqD.good
  out := .exit 0
  fin := EqD.st
theorem eqParse_in (F : Fr) (H : List Blk) (d : EqD) (h : eqParse F H = some d) : wkF none d.st.1 F = some d.st.1 ∧ cH d.st.2 (H ++ []) = some d.st.2 := by
  unfold eqParse at h
  split at h
  case h_2 => cases h
  rename_i hv
  split at h
  case h_2 => cases h
  rename_i d0 m0 d1 m1
  split at h
  case h_2 => cases h
  rename_i h1 h2 h3 h4
  injection h with h; subst h
  constructor
  · simp only [wkF, hv]; rfl
  · cases m0 <;> cases m1 <;> simp only [isDead, Bool.true_eq_false] at h3 h4 <;> simp only [EqD.st, List.append_nil, cH, cB, cD, h1, h2, Option.map_some]
theorem eqRound (d : EqD) : ranAs 2 none (EqD.st (EqD.next d)) (goL noSpec noLoop 10 0 d.st.1 ⟨d.st.2, big, [true, false], []⟩) = some (.normal, (EqD.st (EqD.next d)), [decide ((((-9223372036854775808) : Int) ≤ (d.i + 1) ∧ (d.i + 1) ≤ 9223372036854775807)), (((d.a.l.getD (d.oa + (((d.i) : Int).toNat * 1)) (0#8)) != (d.b.l.getD (d.ob + (((d.i) : Int).toNat * 1)) (0#8))) == false), decide ((d.ob + (((d.i) : Int).toNat * 1)) < d.b.n), (decide ((0 : Int) ≤ d.i) && decide (d.i < ((d.nb : Nat) : Int))), decide ((d.oa + (((d.i) : Int).toNat * 1)) < d.a.n), (decide ((0 : Int) ≤ d.i) && decide (d.i < ((d.na : Nat) : Int))), (decide (d.i < ((d.na : Nat) : Int)) == true)]) := by kernel_rfl
theorem eqEnd (d : EqD) : ranAs 2 none (EqD.st d) (goL noSpec noLoop 10 0 d.st.1 ⟨d.st.2, big, [false], []⟩) = some ((.exit 0), (EqD.st d), [(decide (d.i < ((d.na : Nat) : Int)) == false)]) := by kernel_rfl
theorem eqLen : (loopsIn Try.prog 10).length = 1 := by kernel_rfl
theorem eqTold : Told 10 0 eqT.told := by
  refine loop_ran eqT (goL_ok no_specs (no_loops _) 10 0 fine10 (by rw [eqLen]; omega)) (by intro k hk; cases hk) (by intro h; cases h) eqParse_in (fun d k hg hr => ?_) (fun d hg hr => ?_)
  · have hg' := of_decide_eq_true hg
    obtain ⟨g1, g2, g3, g4, g5, g6, g7⟩ := hg'
    have hr' : (d.na - d.i).toNat = k + 1 := hr
    obtain ⟨j, hj⟩ := Int.eq_ofNat_of_zero_le g1
    have gj := g7 j (by omega)
    have e1 : d.i.toNat = j := by omega
    refine ⟨⟨[true, false], none, _, eqRound d, ?_⟩, decide_eq_true ⟨?_, ?_, g3, g4, g5, g6, g7⟩, ?_, rfl⟩
    · repeat' (refine all_true_cons ?_ ?_)
      all_goals first | exact all_true_nil | (simp only [decide_eq_true_eq, Bool.and_eq_true, beq_iff_eq, beq_true]; omega) | (simp only [Nat.mul_one, e1, gj, bne_self_eq_false]; rfl)
    · show 0 ≤ d.i + 1; omega
    · show d.i + 1 ≤ (d.na : Int); omega
    · show (d.na - (d.i + 1)).toNat = k; omega
  · have hg' := of_decide_eq_true hg
    obtain ⟨g1, g2, g3, g4, g5, g6, g7⟩ := hg'
    have hr' : (d.na - d.i).toNat = 0 := hr
    refine ⟨[false], none, _, eqEnd d, ?_⟩
    repeat' (refine all_true_cons ?_ ?_)
    all_goals first | exact all_true_nil | (simp only [beq_false, Bool.not_eq_true', decide_eq_false_iff_not]; omega)
def eqLoops : FuncId → Nat → Option LSpec
  | 10, 4 => some eqT.told
  | _, _ => none
theorem eqLoops_ok (spec : FuncId → Option Eng.Spec) : LoopsOk (cfg spec eqLoops) noGlob := by
  refine LoopsOk.of fun f => ?_
  by_cases hf : f = 10
  · subst hf
    refine .inr ⟨by kernel_rfl, fun i hi sp hsp => ?_⟩
    have hi : i < (loopsIn Try.prog 10).length := hi
    rw [eqLen] at hi
    obtain rfl : i = 0 := by omega
    have e : (firstRid (loopIn Try.prog 10 0)).bind (eqLoops 10) = some eqT.told := by kernel_rfl
    obtain rfl := Option.some.inj (e.symm.trans hsp)
    exact eqTold
  · refine .inl fun r => ?_
    show eqLoops f r = none
    unfold eqLoops
    split
    · exact absurd rfl hf
    · rfl
def eqCond (a b : Vec 8) (oa ob na nb : Nat) : Bool := decide (na = nb ∧ oa + na ≤ a.n ∧ ob + nb ≤ b.n ∧ na ≤ 4611686018427387904 ∧ ∀ j, j < na → a.l.getD (oa + j) 0#8 = b.l.getD (ob + j) 0#8)
def spEq : Eng.Spec := fun args H dec =>
  match args with
  | [.ref (.sl 0 oa na _), .ref (.sl 1 ob nb _)] =>
    match H with
    | [⟨d0, m0⟩, ⟨d1, m1⟩] =>
      match d0.as8, d1.as8, isDead m0, isDead m1 with
      | some a, some b, false, false => some ⟨.bool (.c true), [⟨d0, m0⟩, ⟨d1, m1⟩], dec, [eqCond a b oa.v ob.v na.v nb.v]⟩
      | _, _, _, _ => none
    | _ => none
  | _ => none
def spEq0 : Eng.Spec := fun args H dec =>
  match args with
  | [.atom .nils, .atom .nils] =>
    match H with
    | [] => some ⟨.bool (.c true), [], dec, []⟩
    | _ => none
  | _ => none
theorem runEq (a b : Vec 8) (oa ob na nb : Nat) : endsAs 2 none [⟨.b8 a, .ro⟩, ⟨.b8 b, .ro⟩] (.bool (.c true)) (goB noSpec eqLoops 10 [.sl 0 (.s oa) (.s na) none, .sl 1 (.s ob) (.s nb) none] ⟨[⟨.b8 a, .ro⟩, ⟨.b8 b, .ro⟩], big, [false], []⟩) = some ([⟨.b8 a, .ro⟩, ⟨.b8 b, .ro⟩], (.bool (.c true)), [(EqD.good (⟨a, b, oa, ob, na, nb, 0⟩ : EqD)), ((!(((na : Nat) : Int) == ((nb : Nat) : Int))) == false)]) := by kernel_rfl
theorem runEq0  : endsAs 0 none [] (.bool (.c true)) (goB noSpec noLoop 10 [.nils, .nils] ⟨[], big, [], []⟩) = some ([], (.bool (.c true)), []) := by kernel_rfl
theorem okEq0 : SpecOk Try.prog noGlob 10 spEq0 := by
  refine SpecOk.ends (goB_ok no_specs (no_loops _)) (fun args H dec r hr hc => ?_) (fun args H dec r hr i k hk hm => ?_)
  · unfold spEq0 at hr
    split at hr
    case h_2 => cases hr
    split at hr
    case h_2 => cases hr
    injection hr with hr; subst hr
    exact ⟨[.nils, .nils], [], _, _, [], none, _, _, rfl, rfl, runEq0, all_true_nil, rfl⟩
  · unfold spEq0 at hr
    split at hr
    case h_2 => cases hr
    split at hr
    case h_2 => cases hr
    injection hr with hr; subst hr
    simp at hk
theorem okEq : SpecOk Try.prog noGlob 10 spEq := by
  refine SpecOk.ends (goB_ok no_specs (eqLoops_ok _)) (fun args H dec r hr hc => ?_) (fun args H dec r hr i k hk hm => ?_)
  · unfold spEq at hr
    split at hr
    case h_2 => cases hr
    rename_i oa na ca ob nb cb
    split at hr
    case h_2 => cases hr
    rename_i d0 m0 d1 m1
    split at hr
    case h_2 => cases hr
    rename_i a b h1 h2 h3 h4
    injection hr with hr; subst hr
    obtain ⟨g1, g2, g3, g4, g5⟩ := of_decide_eq_true (hc _ (List.mem_singleton.2 rfl))
    refine ⟨[.sl 0 (.s oa.v) (.s na.v) none, .sl 1 (.s ob.v) (.s nb.v) none], [⟨.b8 a, .ro⟩, ⟨.b8 b, .ro⟩], _, _, [false], none, _, _, rfl, ?_, runEq a b oa.v ob.v na.v nb.v, ?_, ?_⟩
    · cases m0 <;> cases m1 <;> simp only [isDead, Bool.true_eq_false] at h3 h4 <;> simp only [cH, cB, cD, h1, h2, Option.map_some]
    · repeat' (refine all_true_cons ?_ ?_)
      · exact decide_eq_true ⟨Int.le_refl _, Int.natCast_nonneg _, g1, g2, g3, g4, g5⟩
      · rw [g1]; simp
      · exact all_true_nil
    · cases m0 <;> cases m1 <;> first | rfl | cases h3 | cases h4
  · unfold spEq at hr
    split at hr
    case h_2 => cases hr
    split at hr
    case h_2 => cases hr
    split at hr
    case h_2 => cases hr
    injection hr with hr; subst hr
    exact ⟨k, hk, hm⟩
def spEqual : Eng.Spec := orSpec spEq spEq0
theorem okEqual : SpecOk Try.prog noGlob 10 spEqual := okEq.or okEq0
end Go.Proofs.Ytnonaagcnenbdaa

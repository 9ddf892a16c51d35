/- The package's mix of blocks, by its door. -/
import Derived.Test.YtnonaagcnenbdaaR1Mix
namespace Go.Proofs.Ytnonaagcnenbdaa
open Go.Eng
set_option linter.unusedSectionVars false
variable [RowAddr]
def specs31 : FuncId → Option Eng.Spec
  | 31 => some sp31
  | _ => none
theorem specs31_ok : ∀ f sp, specs31 f = some sp → SpecOk Try.prog noGlob f sp := by
  intro f sp h
  unfold specs31 at h
  split at h
  · injection h with h; subst h; exact ok31
  · cases h
def w0 : W16 := ⟨0#32, 0#32, 0#32, 0#32, 0#32, 0#32, 0#32, 0#32, 0#32, 0#32, 0#32, 0#32, 0#32, 0#32, 0#32, 0#32⟩
/-- What the mix makes of words. -/
def mixV (a : Vec 32) (oa na : Nat) (r : Int) : Vec 32 := (bm1 w0 a (Vec.zero 32 (32 * r).toNat) oa na 0 (32 * r).toNat r).c
theorem run16 (a : Vec 32) (oa na : Nat) (r : Int) : endsAs 1 (some [0, 2]) [⟨.b32 a, .ro⟩, ⟨.b32 (mixV a oa na r), .own⟩] (.sl 1 (.c 0) (.s (32 * r).toNat) (some (.s (32 * r).toNat))) (goB specs31 noLoop 16 [.sl 0 (.s oa) (.s na) none, .int .i64 (.s r)] ⟨[⟨.b32 a, .ro⟩], big, [], []⟩) = some ([⟨.b32 a, .ro⟩, ⟨.b32 (mixV a oa na r), .own⟩], (.sl 1 (.c 0) (.s (32 * r).toNat) (some (.s (32 * r).toNat))), [decide (((1 : Int) ≤ r ∧ (r ≤ 1000000 ∧ ((((oa : Nat) : Int) + (32 * r)) ≤ ((a.n : Nat) : Int) ∧ ((32 * r) ≤ ((na : Nat) : Int) ∧ ((((0 : Nat) : Int) + (32 * r)) ≤ (((((32 * r)) : Int).toNat : Nat) : Int) ∧ (32 * r) ≤ (((((32 * r)) : Int).toNat : Nat) : Int))))))), decide (((((32 * r)) : Int).toNat * 4) ≤ 1099511627776), ((decide ((0 : Int) ≤ (32 * r)) && decide ((32 * r) ≤ (32 * r))) && decide ((32 * r) ≤ 1099511627776)), decide (((-9223372036854775808) ≤ (32 * r) ∧ (32 * r) ≤ 9223372036854775807))]) := by kernel_rfl
def sp16 : Eng.Spec := fun args H dec =>
  match args with
  | [.ref (.sl 0 oa na _), .num (.int .i64 r)] =>
    match H with
    | [⟨d1, m1⟩] =>
      match d1.as32, isDead m1 with
      | some a, false => some ⟨.sl 1 (.c 0) (.s (32 * r.v).toNat) (some (.s (32 * r.v).toNat)), [⟨d1, m1⟩, ⟨.b32 (mixV a oa.v na.v r.v), .own⟩], dec, [decide (1 ≤ r.v ∧ r.v ≤ 1000000 ∧ oa.v + 32 * r.v ≤ a.n ∧ 32 * r.v ≤ na.v)]⟩
      | _, _ => none
    | _ => none
  | _ => none
theorem ok16 : SpecOk Try.prog noGlob 16 sp16 := by
  refine SpecOk.ends (goB_ok specs31_ok (no_loops _)) (fun args H dec r hr hc => ?_) (fun args H dec r hr i k hk hm => ?_)
  · unfold sp16 at hr
    split at hr
    case h_2 => cases hr
    rename_i oa na ca rr
    split at hr
    case h_2 => cases hr
    rename_i d1 m1
    split at hr
    case h_2 => cases hr
    rename_i a hb hm1
    injection hr with hr; subst hr
    obtain ⟨g1, g2, g3, g4⟩ := of_decide_eq_true (hc _ (List.mem_singleton.2 rfl))
    refine ⟨[.sl 0 (.s oa.v) (.s na.v) none, .int .i64 (.s rr.v)], [⟨.b32 a, .ro⟩], _, _, [], some [0, 2], _, _, rfl, ?_, run16 a oa.v na.v rr.v, ?_, ?_⟩
    · cases m1
      · simp only [cH, cB, cD, hb, Option.map_some]
      · simp only [cH, cB, cD, hb, Option.map_some]
      · cases hm1
    · repeat' (refine all_true_cons ?_ ?_)
      all_goals first | exact all_true_nil | (simp only [Bool.and_eq_true, decide_eq_true_eq, true_and]; omega)
    · cases m1 <;> first | rfl | cases hm1
  · unfold sp16 at hr
    split at hr
    case h_2 => cases hr
    split at hr
    case h_2 => cases hr
    rename_i d1 m1
    split at hr
    case h_2 => cases hr
    injection hr with hr; subst hr
    match i, hk with
    | 0, hk => simp at hk; subst hk; exact ⟨_, rfl, hm⟩
    | 1, hk => simp at hk; subst hk; cases hm
end Go.Proofs.Ytnonaagcnenbdaa

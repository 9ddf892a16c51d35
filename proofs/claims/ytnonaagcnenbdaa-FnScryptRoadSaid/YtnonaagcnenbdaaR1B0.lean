/- The package's mix of blocks: the contract of its loop. -/
import Derived.Test.YtnonaagcnenbdaaR1S
import Derived.Test.YtnonaagcnenbdaaR1Num
namespace Go.Proofs.Ytnonaagcnenbdaa
open Go.Eng
set_option linter.unusedSectionVars false
variable [RowAddr]
def sv29 (t b : Vec 32) (o : Nat) : W16 := salsa8 (xor16 (take16 t 0) (take16 b o))
theorem run29v (t b c : Vec 32) (o1 o2 n1 n2 : Nat) : endsAs 3 none [⟨.b32 (put16 t 0 (sv29 t b o1)), .own⟩, ⟨.b32 b, .ro⟩, ⟨.b32 (put16 c o2 (sv29 t b o1)), .own⟩] (.tup []) (goB noSpec noLoop 29 [.ptr 0 (.c 0), .sl 1 (.s o1) (.s n1) none, .sl 2 (.s o2) (.s n2) none] ⟨[⟨.b32 t, .own⟩, ⟨.b32 b, .ro⟩, ⟨.b32 c, .own⟩], big, [], []⟩) = some ([⟨.b32 (put16 t 0 (sv29 t b o1)), .own⟩, ⟨.b32 b, .ro⟩, ⟨.b32 (put16 c o2 (sv29 t b o1)), .own⟩], (.tup []), [decide ((15 : Nat) < t.n), decide ((o2 + 15) < c.n), (true && decide ((15 : Int) < ((n2 : Nat) : Int))), decide ((14 : Nat) < t.n), decide ((o2 + 14) < c.n), (true && decide ((14 : Int) < ((n2 : Nat) : Int))), decide ((13 : Nat) < t.n), decide ((o2 + 13) < c.n), (true && decide ((13 : Int) < ((n2 : Nat) : Int))), decide ((12 : Nat) < t.n), decide ((o2 + 12) < c.n), (true && decide ((12 : Int) < ((n2 : Nat) : Int))), decide ((11 : Nat) < t.n), decide ((o2 + 11) < c.n), (true && decide ((11 : Int) < ((n2 : Nat) : Int))), decide ((10 : Nat) < t.n), decide ((o2 + 10) < c.n), (true && decide ((10 : Int) < ((n2 : Nat) : Int))), decide ((9 : Nat) < t.n), decide ((o2 + 9) < c.n), (true && decide ((9 : Int) < ((n2 : Nat) : Int))), decide ((8 : Nat) < t.n), decide ((o2 + 8) < c.n), (true && decide ((8 : Int) < ((n2 : Nat) : Int))), decide ((7 : Nat) < t.n), decide ((o2 + 7) < c.n), (true && decide ((7 : Int) < ((n2 : Nat) : Int))), decide ((6 : Nat) < t.n), decide ((o2 + 6) < c.n), (true && decide ((6 : Int) < ((n2 : Nat) : Int))), decide ((5 : Nat) < t.n), decide ((o2 + 5) < c.n), (true && decide ((5 : Int) < ((n2 : Nat) : Int))), decide ((4 : Nat) < t.n), decide ((o2 + 4) < c.n), (true && decide ((4 : Int) < ((n2 : Nat) : Int))), decide ((3 : Nat) < t.n), decide ((o2 + 3) < c.n), (true && decide ((3 : Int) < ((n2 : Nat) : Int))), decide ((2 : Nat) < t.n), decide ((o2 + 2) < c.n), (true && decide ((2 : Int) < ((n2 : Nat) : Int))), decide ((1 : Nat) < t.n), decide ((o2 + 1) < c.n), (true && decide ((1 : Int) < ((n2 : Nat) : Int))), decide ((0 : Nat) < t.n), decide ((o2 + 0) < c.n), (true && decide ((0 : Int) < ((n2 : Nat) : Int))), decide ((o1 + 15) < b.n), (true && decide ((15 : Int) < ((n1 : Nat) : Int))), decide ((15 : Nat) < t.n), decide ((o1 + 14) < b.n), (true && decide ((14 : Int) < ((n1 : Nat) : Int))), decide ((14 : Nat) < t.n), decide ((o1 + 13) < b.n), (true && decide ((13 : Int) < ((n1 : Nat) : Int))), decide ((13 : Nat) < t.n), decide ((o1 + 12) < b.n), (true && decide ((12 : Int) < ((n1 : Nat) : Int))), decide ((12 : Nat) < t.n), decide ((o1 + 11) < b.n), (true && decide ((11 : Int) < ((n1 : Nat) : Int))), decide ((11 : Nat) < t.n), decide ((o1 + 10) < b.n), (true && decide ((10 : Int) < ((n1 : Nat) : Int))), decide ((10 : Nat) < t.n), decide ((o1 + 9) < b.n), (true && decide ((9 : Int) < ((n1 : Nat) : Int))), decide ((9 : Nat) < t.n), decide ((o1 + 8) < b.n), (true && decide ((8 : Int) < ((n1 : Nat) : Int))), decide ((8 : Nat) < t.n), decide ((o1 + 7) < b.n), (true && decide ((7 : Int) < ((n1 : Nat) : Int))), decide ((7 : Nat) < t.n), decide ((o1 + 6) < b.n), (true && decide ((6 : Int) < ((n1 : Nat) : Int))), decide ((6 : Nat) < t.n), decide ((o1 + 5) < b.n), (true && decide ((5 : Int) < ((n1 : Nat) : Int))), decide ((5 : Nat) < t.n), decide ((o1 + 4) < b.n), (true && decide ((4 : Int) < ((n1 : Nat) : Int))), decide ((4 : Nat) < t.n), decide ((o1 + 3) < b.n), (true && decide ((3 : Int) < ((n1 : Nat) : Int))), decide ((3 : Nat) < t.n), decide ((o1 + 2) < b.n), (true && decide ((2 : Int) < ((n1 : Nat) : Int))), decide ((2 : Nat) < t.n), decide ((o1 + 1) < b.n), (true && decide ((1 : Int) < ((n1 : Nat) : Int))), decide ((1 : Nat) < t.n), decide ((o1 + 0) < b.n), (true && decide ((0 : Int) < ((n1 : Nat) : Int))), decide ((0 : Nat) < t.n)]) := by kernel_rfl
def sp29v : Eng.Spec := fun args H dec =>
  match args with
  | [.ref (.ptr 0 (.c 0)), .ref (.sl 1 o1 n1 _), .ref (.sl 2 o2 n2 _)] =>
    match H with
    | [⟨d0, m0⟩, ⟨d1, m1⟩, ⟨d2, m2⟩] =>
      match m0, m2, d0, d1.as32, d2.as32 with
      | .own, .own, .b32 t, some b, some c =>
        match isDead m1 with
        | true => none
        | false => some ⟨.tup [], [⟨.b32 (put16 t 0 (sv29 t b o1.v)), .own⟩, ⟨d1, m1⟩, ⟨.b32 (put16 c o2.v (sv29 t b o1.v)), .own⟩], dec, [decide (16 ≤ t.n ∧ o1.v + 16 ≤ b.n ∧ o2.v + 16 ≤ c.n ∧ 16 ≤ n1.v ∧ 16 ≤ n2.v)]⟩
      | _, _, _, _, _ => none
    | _ => none
  | _ => none
theorem ok29v : SpecOk Try.prog noGlob 29 sp29v := by
  refine SpecOk.ends (goB_ok no_specs (no_loops _)) (fun args H dec r hr hc => ?_) (fun args H dec r hr i k hk hm => ?_)
  · unfold sp29v at hr
    split at hr
    case h_2 => cases hr
    rename_i o1 n1 c1 o2 n2 c2
    split at hr
    case h_2 => cases hr
    rename_i d0 m0 d1 m1 d2 m2
    split at hr
    case h_2 => cases hr
    rename_i t b c hb hc'
    split at hr
    · cases hr
    rename_i hm1
    injection hr with hr; subst hr
    have hd := of_decide_eq_true (hc _ (List.mem_singleton.2 rfl))
    refine ⟨[.ptr 0 (.c 0), .sl 1 (.s o1.v) (.s n1.v) none, .sl 2 (.s o2.v) (.s n2.v) none], [⟨.b32 t, .own⟩, ⟨.b32 b, .ro⟩, ⟨.b32 c, .own⟩], _, _, [], none, _, _, rfl, ?_, run29v t b c o1.v o2.v n1.v n2.v, ?_, ?_⟩
    · have e : (Eng.Data.b32 t).as32 = some t := rfl
      cases m1
      · simp only [cH, cB, cD, e, hb, hc', Option.map_some]
      · simp only [cH, cB, cD, e, hb, hc', Option.map_some]
      · cases hm1
    · repeat' (refine all_true_cons ?_ ?_)
      all_goals first | exact all_true_nil | (simp only [Bool.and_eq_true, decide_eq_true_eq, true_and]; omega)
    · cases m1 <;> rfl
  · unfold sp29v at hr
    split at hr
    case h_2 => cases hr
    split at hr
    case h_2 => cases hr
    rename_i d0 m0 d1 m1 d2 m2
    split at hr
    case h_2 => cases hr
    split at hr
    · cases hr
    injection hr with hr; subst hr
    match i, hk with
    | 0, hk => simp at hk; subst hk; cases hm
    | 1, hk => simp at hk; subst hk; exact ⟨_, rfl, hm⟩
    | 2, hk => simp at hk; subst hk; cases hm
def sp29w : Eng.Spec := orSpec sp29 sp29v
theorem ok29w : SpecOk Try.prog noGlob 29 sp29w := ok29.or ok29v
def specsB : FuncId → Option Eng.Spec
  | 29 => some sp29w
  | _ => none
theorem specsB_ok : ∀ f sp, specsB f = some sp → SpecOk Try.prog noGlob f sp := by
  intro f sp h
  unfold specsB at h
  split at h
  · injection h with h; subst h; exact ok29w
  · cases h
end Go.Proofs.Ytnonaagcnenbdaa

/- Contracts of the rounds of Salsa20, and of what is run once. -/
import Derived.Test.YtnonaagcnenbdaaR1Once
import Derived.Test.YtnonaagcnenbdaaSalsa0
import Derived.Test.YtnonaagcnenbdaaEngD
namespace Go.Proofs.Ytnonaagcnenbdaa
open Go.Eng
set_option linter.unusedSectionVars false
variable [RowAddr]
def sw29 (t : W16) (b : Vec 32) (o : Nat) : W16 := salsa8 (xor16 t (take16 b o))
theorem run29 (t : W16) (b c : Vec 32) (o1 o2 n1 n2 : Nat) : endsAs 3 none [⟨.gen (sw29 t b o1).cells, .own⟩, ⟨.b32 b, .ro⟩, ⟨.b32 (put16 c o2 (sw29 t b o1)), .own⟩] (.tup []) (goB noSpec noLoop 29 [.ptr 0 (.c 0), .sl 1 (.s o1) (.s n1) none, .sl 2 (.s o2) (.s n2) none] ⟨[⟨.gen t.cells, .own⟩, ⟨.b32 b, .ro⟩, ⟨.b32 c, .own⟩], big, [], []⟩) = some ([⟨.gen (sw29 t b o1).cells, .own⟩, ⟨.b32 b, .ro⟩, ⟨.b32 (put16 c o2 (sw29 t b o1)), .own⟩], (.tup []), [decide ((o2 + 15) < c.n), (true && decide ((15 : Int) < ((n2 : Nat) : Int))), decide ((o2 + 14) < c.n), (true && decide ((14 : Int) < ((n2 : Nat) : Int))), decide ((o2 + 13) < c.n), (true && decide ((13 : Int) < ((n2 : Nat) : Int))), decide ((o2 + 12) < c.n), (true && decide ((12 : Int) < ((n2 : Nat) : Int))), decide ((o2 + 11) < c.n), (true && decide ((11 : Int) < ((n2 : Nat) : Int))), decide ((o2 + 10) < c.n), (true && decide ((10 : Int) < ((n2 : Nat) : Int))), decide ((o2 + 9) < c.n), (true && decide ((9 : Int) < ((n2 : Nat) : Int))), decide ((o2 + 8) < c.n), (true && decide ((8 : Int) < ((n2 : Nat) : Int))), decide ((o2 + 7) < c.n), (true && decide ((7 : Int) < ((n2 : Nat) : Int))), decide ((o2 + 6) < c.n), (true && decide ((6 : Int) < ((n2 : Nat) : Int))), decide ((o2 + 5) < c.n), (true && decide ((5 : Int) < ((n2 : Nat) : Int))), decide ((o2 + 4) < c.n), (true && decide ((4 : Int) < ((n2 : Nat) : Int))), decide ((o2 + 3) < c.n), (true && decide ((3 : Int) < ((n2 : Nat) : Int))), decide ((o2 + 2) < c.n), (true && decide ((2 : Int) < ((n2 : Nat) : Int))), decide ((o2 + 1) < c.n), (true && decide ((1 : Int) < ((n2 : Nat) : Int))), decide ((o2 + 0) < c.n), (true && decide ((0 : Int) < ((n2 : Nat) : Int))), decide ((o1 + 15) < b.n), (true && decide ((15 : Int) < ((n1 : Nat) : Int))), decide ((o1 + 14) < b.n), (true && decide ((14 : Int) < ((n1 : Nat) : Int))), decide ((o1 + 13) < b.n), (true && decide ((13 : Int) < ((n1 : Nat) : Int))), decide ((o1 + 12) < b.n), (true && decide ((12 : Int) < ((n1 : Nat) : Int))), decide ((o1 + 11) < b.n), (true && decide ((11 : Int) < ((n1 : Nat) : Int))), decide ((o1 + 10) < b.n), (true && decide ((10 : Int) < ((n1 : Nat) : Int))), decide ((o1 + 9) < b.n), (true && decide ((9 : Int) < ((n1 : Nat) : Int))), decide ((o1 + 8) < b.n), (true && decide ((8 : Int) < ((n1 : Nat) : Int))), decide ((o1 + 7) < b.n), (true && decide ((7 : Int) < ((n1 : Nat) : Int))), decide ((o1 + 6) < b.n), (true && decide ((6 : Int) < ((n1 : Nat) : Int))), decide ((o1 + 5) < b.n), (true && decide ((5 : Int) < ((n1 : Nat) : Int))), decide ((o1 + 4) < b.n), (true && decide ((4 : Int) < ((n1 : Nat) : Int))), decide ((o1 + 3) < b.n), (true && decide ((3 : Int) < ((n1 : Nat) : Int))), decide ((o1 + 2) < b.n), (true && decide ((2 : Int) < ((n1 : Nat) : Int))), decide ((o1 + 1) < b.n), (true && decide ((1 : Int) < ((n1 : Nat) : Int))), decide ((o1 + 0) < b.n), (true && decide ((0 : Int) < ((n1 : Nat) : Int)))]) := by kernel_rfl
theorem run30 (x : W16) : endsAs 0 (some []) [] (dbl x).av (goB noSpec noLoop 30 [x.av] ⟨[], big, [], []⟩) = some ([], (dbl x).av, []) := by kernel_rfl
/-- Sixteen words by value. -/
def cells16 (xs : List AV) : Option W16 :=
  match mapOpt AV.bv32 xs with
  | some [x0, x1, x2, x3, x4, x5, x6, x7, x8, x9, x10, x11, x12, x13, x14, x15] => some ⟨x0, x1, x2, x3, x4, x5, x6, x7, x8, x9, x10, x11, x12, x13, x14, x15⟩
  | _ => none
def av16 (v : AV) : Option W16 :=
  match v with
  | .agg xs => cells16 xs
  | _ => none
def gen16 (d : Eng.Data) : Option W16 :=
  match d with
  | .gen xs => cells16 xs
  | _ => none
theorem cells16_fit {xs : List AV} {x : W16} (h : cells16 xs = some x) : cL x.cells xs = some x.cells := by
  unfold cells16 at h
  split at h
  · rename_i hm
    injection h with h; subst h
    have := fit32 hm
    simp only [List.map_cons, List.map_nil] at this
    simp only [W16.cells, this]
  · cases h
theorem av16_fit {v : AV} {x : W16} (h : av16 v = some x) : cV x.av v = some x.av := by
  unfold av16 at h
  split at h
  · simp only [W16.av, cV, cells16_fit h]
  · cases h
theorem gen16_fit {d : Eng.Data} {x : W16} (h : gen16 d = some x) : cD (.gen x.cells) d = some (.gen x.cells) := by
  unfold gen16 at h
  split at h
  · simp only [cD, cells16_fit h, Option.map_some]
  · cases h
theorem wk1 {p x y : AV} (h : cV p x = some y) (hp : wkV none p x = cV p x) : wkL none [p] [x] = some [y] := by
  simp only [wkL, hp, h]
def sp29 : Eng.Spec := fun args H dec =>
  match args with
  | [.ref (.ptr 0 (.c 0)), .ref (.sl 1 o1 n1 _), .ref (.sl 2 o2 n2 _)] =>
    match H with
    | [⟨d0, m0⟩, ⟨d1, m1⟩, ⟨d2, m2⟩] =>
      match m0, m2, gen16 d0, d1.as32, d2.as32 with
      | .own, .own, some t, some b, some c =>
        match isDead m1 with
        | true => none
        | false => some ⟨.tup [], [⟨.gen (sw29 t b o1.v).cells, .own⟩, ⟨d1, m1⟩, ⟨.b32 (put16 c o2.v (sw29 t b o1.v)), .own⟩], dec, [decide (o1.v + 16 ≤ b.n ∧ o2.v + 16 ≤ c.n ∧ 16 ≤ n1.v ∧ 16 ≤ n2.v)]⟩
      | _, _, _, _, _ => none
    | _ => none
  | _ => none
theorem ok29 : SpecOk Try.prog noGlob 29 sp29 := by
  refine SpecOk.ends (goB_ok no_specs (no_loops _)) (fun args H dec r hr hc => ?_) (fun args H dec r hr i k hk hm => ?_)
  · unfold sp29 at hr
    split at hr
    case h_2 => cases hr
    rename_i o1 n1 c1 o2 n2 c2
    split at hr
    case h_2 => cases hr
    rename_i d0 m0 d1 m1 d2 m2
    split at hr
    case h_2 => cases hr
    rename_i t b c ha hb hc'
    split at hr
    · cases hr
    rename_i hm1
    injection hr with hr; subst hr
    have hd := of_decide_eq_true (hc _ (List.mem_singleton.2 rfl))
    refine ⟨[.ptr 0 (.c 0), .sl 1 (.s o1.v) (.s n1.v) none, .sl 2 (.s o2.v) (.s n2.v) none], [⟨.gen t.cells, .own⟩, ⟨.b32 b, .ro⟩, ⟨.b32 c, .own⟩], _, _, [], none, _, _, rfl, ?_, run29 t b c o1.v o2.v n1.v n2.v, ?_, ?_⟩
    · cases m1
      · simp only [cH, cB, gen16_fit ha]
        simp only [cD, hb, hc', Option.map_some]
      · simp only [cH, cB, gen16_fit ha]
        simp only [cD, hb, hc', Option.map_some]
      · cases hm1
    · repeat' (refine all_true_cons ?_ ?_)
      all_goals first | exact all_true_nil | (simp only [Bool.and_eq_true, decide_eq_true_eq, true_and]; omega)
    · cases m1 <;> rfl
  · unfold sp29 at hr
    split at hr
    case h_2 => cases hr
    split at hr
    case h_2 => cases hr
    rename_i d0 m0 d1 m1 d2 m2
    split at hr
    case h_2 => cases hr
    split at hr
    · cases hr
    injection hr with hr; subst hr
    match i, hk with
    | 0, hk => simp at hk; subst hk; cases hm
    | 1, hk => simp at hk; subst hk; exact ⟨_, rfl, hm⟩
    | 2, hk => simp at hk; subst hk; cases hm
def sp30 : Eng.Spec := fun args H dec =>
  match args with
  | [v] =>
    match H with
    | [] =>
      match av16 v with
      | some x => some ⟨(dbl x).av, [], dec, []⟩
      | none => none
    | _ => none
  | _ => none
theorem ok30 : SpecOk Try.prog noGlob 30 sp30 := by
  refine SpecOk.ends (goB_ok no_specs (no_loops _)) (fun args H dec r hr hc => ?_) (fun args H dec r hr i k hk hm => ?_)
  · unfold sp30 at hr
    split at hr
    case h_2 => cases hr
    rename_i v
    split at hr
    case h_2 => cases hr
    split at hr
    case h_2 => cases hr
    rename_i x hx
    injection hr with hr; subst hr
    exact ⟨[x.av], [], _, _, [], some [], _, _, wk1 (av16_fit hx) rfl, rfl, run30 x, all_true_nil, rfl⟩
  · unfold sp30 at hr
    split at hr
    case h_2 => cases hr
    split at hr
    case h_2 => cases hr
    split at hr
    case h_2 => cases hr
    injection hr with hr; subst hr
    simp at hk
def specs4 : FuncId → Option Eng.Spec
  | 29 => some sp29
  | 30 => some sp30
  | 9 => some sp9
  | _ => none
theorem specs4_ok : ∀ f sp, specs4 f = some sp → SpecOk Try.prog noGlob f sp := by
  intro f sp h
  unfold specs4 at h
  split at h
  · injection h with h; subst h; exact ok29
  · injection h with h; subst h; exact ok30
  · injection h with h; subst h; exact ok9
  · cases h
end Go.Proofs.Ytnonaagcnenbdaa

/- The package's mix of blocks: contracts. -/
import Derived.Test.YtnonaagcnenbdaaR1Bm
namespace Go.Proofs.Ytnonaagcnenbdaa
open Go.Eng
set_option linter.unusedSectionVars false
variable [RowAddr]
def bm0 (t : W16) (a c : Vec 32) (oa na oc nc : Nat) (r : Int) : BmD := ⟨(Vec.of t.list).over 0 (a.sub (oa + ((2 * r - 1) * 16).toNat) 16), a, c, oa, na, oc, nc, r, 0⟩
def bm1 (t : W16) (a c : Vec 32) (oa na oc nc : Nat) (r : Int) : BmD := iter BmD.next ((2 * r - 0) / 2).toNat (bm0 t a c oa na oc nc r)
theorem run31 (t : W16) (a c : Vec 32) (oa na oc nc : Nat) (r : Int) : endsAs 3 none [⟨.b32 (bm1 t a c oa na oc nc r).t, .own⟩, ⟨.b32 a, .ro⟩, ⟨.b32 (bm1 t a c oa na oc nc r).c, .own⟩] (.tup []) (goB specsB bmLoops 31 [.ptr 0 (.c 0), .sl 1 (.s oa) (.s na) none, .sl 2 (.s oc) (.s nc) none, .int .i64 (.s r)] ⟨[⟨.gen t.cells, .own⟩, ⟨.b32 a, .ro⟩, ⟨.b32 c, .own⟩], big, [], []⟩) = some ([⟨.b32 (bm1 t a c oa na oc nc r).t, .own⟩, ⟨.b32 a, .ro⟩, ⟨.b32 (bm1 t a c oa na oc nc r).c, .own⟩], (.tup []), [(BmD.good (⟨((Vec.of [t.x0, t.x1, t.x2, t.x3, t.x4, t.x5, t.x6, t.x7, t.x8, t.x9, t.x10, t.x11, t.x12, t.x13, t.x14, t.x15]).over (0 + (((((0 : Nat) : Int)) : Int).toNat * 1)) (a.sub ((oa + (((((2 * r) - 1) * 16)) : Int).toNat) + ((((0 : Nat) : Int)) : Int).toNat) (Nat.min (16 - ((((0 : Nat) : Int)) : Int).toNat) (((((16 : Nat) : Int)) : Int).toNat - ((((0 : Nat) : Int)) : Int).toNat)))), a, c, oa, na, oc, nc, r, 0⟩ : BmD)), decide (((0 + (((((0 : Nat) : Int)) : Int).toNat * 1)) + (Nat.min (16 - ((((0 : Nat) : Int)) : Int).toNat) (((((16 : Nat) : Int)) : Int).toNat - ((((0 : Nat) : Int)) : Int).toNat))) ≤ 16), decide ((((oa + (((((2 * r) - 1) * 16)) : Int).toNat) + ((((0 : Nat) : Int)) : Int).toNat) + (Nat.min (16 - ((((0 : Nat) : Int)) : Int).toNat) (((((16 : Nat) : Int)) : Int).toNat - ((((0 : Nat) : Int)) : Int).toNat))) ≤ a.n), ((true && true) && decide ((16 : Int) ≤ (((((((na : Nat) : Int)) : Int).toNat - (((((2 * r) - 1) * 16)) : Int).toNat) : Nat) : Int))), ((decide ((0 : Int) ≤ (((2 * r) - 1) * 16)) && decide ((((2 * r) - 1) * 16) ≤ ((na : Nat) : Int))) && decide (((na : Nat) : Int) ≤ ((na : Nat) : Int))), decide (((-9223372036854775808) ≤ (((2 * r) - 1) * 16) ∧ (((2 * r) - 1) * 16) ≤ 9223372036854775807)), decide (((-9223372036854775808) ≤ ((2 * r) - 1) ∧ ((2 * r) - 1) ≤ 9223372036854775807)), decide (((-9223372036854775808) ≤ (2 * r) ∧ (2 * r) ≤ 9223372036854775807))]) := by kernel_rfl
def sp31 : Eng.Spec := fun args H dec =>
  match args with
  | [.ref (.ptr 0 (.c 0)), .ref (.sl 1 oa na _), .ref (.sl 2 oc nc _), .num (.int .i64 r)] =>
    match H with
    | [⟨d0, m0⟩, ⟨d1, m1⟩, ⟨d2, m2⟩] =>
      match m0, m2, gen16 d0, d1.as32, d2.as32 with
      | .own, .own, some t, some a, some c =>
        match isDead m1 with
        | true => none
        | false => some ⟨.tup [], [⟨.b32 (bm1 t a c oa.v na.v oc.v nc.v r.v).t, .own⟩, ⟨d1, m1⟩, ⟨.b32 (bm1 t a c oa.v na.v oc.v nc.v r.v).c, .own⟩], dec, [decide (1 ≤ r.v ∧ r.v ≤ 1000000 ∧ oa.v + 32 * r.v ≤ a.n ∧ 32 * r.v ≤ na.v ∧ oc.v + 32 * r.v ≤ c.n ∧ 32 * r.v ≤ nc.v)]⟩
      | _, _, _, _, _ => none
    | _ => none
  | _ => none
theorem min16 : Nat.min (16 - (((0 : Nat) : Int)).toNat) ((((16 : Nat) : Int)).toNat - (((0 : Nat) : Int)).toNat) = 16 := rfl
theorem bm0_good (t : W16) (a c : Vec 32) (oa na oc nc : Nat) (r : Int) (h1 : 1 ≤ r) (h2 : r ≤ 1000000) (h3 : oa + 32 * r ≤ a.n) (h4 : 32 * r ≤ na) (h5 : oc + 32 * r ≤ c.n) (h6 : 32 * r ≤ nc) : (bm0 t a c oa na oc nc r).good = true := by
  have e : (bm0 t a c oa na oc nc r).good = decide (0 ≤ (0 : Int) ∧ 0 ≤ 2 * r ∧ (0 : Int) % 2 = 0 ∧ 1 ≤ r ∧ r ≤ 1000000 ∧ 16 = 16 ∧ oa + 32 * r ≤ a.n ∧ 32 * r ≤ na ∧ oc + 32 * r ≤ c.n ∧ 32 * r ≤ nc) := by kernel_rfl
  rw [e]
  exact decide_eq_true ⟨Int.le_refl _, by omega, rfl, h1, h2, rfl, h3, h4, h5, h6⟩
theorem ok31 : SpecOk Try.prog noGlob 31 sp31 := by
  refine SpecOk.ends (goB_ok specsB_ok (bmLoops_ok _)) (fun args H dec r hr hc => ?_) (fun args H dec r hr i k hk hm => ?_)
  · unfold sp31 at hr
    split at hr
    case h_2 => cases hr
    rename_i oa na ca oc nc cc rr
    split at hr
    case h_2 => cases hr
    rename_i d0 m0 d1 m1 d2 m2
    split at hr
    case h_2 => cases hr
    rename_i t a c ha hb hc'
    split at hr
    · cases hr
    rename_i hm1
    injection hr with hr; subst hr
    obtain ⟨g1, g2, g3, g4, g5, g6⟩ := of_decide_eq_true (hc _ (List.mem_singleton.2 rfl))
    refine ⟨[.ptr 0 (.c 0), .sl 1 (.s oa.v) (.s na.v) none, .sl 2 (.s oc.v) (.s nc.v) none, .int .i64 (.s rr.v)], [⟨.gen t.cells, .own⟩, ⟨.b32 a, .ro⟩, ⟨.b32 c, .own⟩], _, _, [], none, _, _, rfl, ?_, run31 t a c oa.v na.v oc.v nc.v rr.v, ?_, ?_⟩
    · cases m1
      · simp only [cH, cB, gen16_fit ha]
        simp only [cD, hb, hc', Option.map_some]
      · simp only [cH, cB, gen16_fit ha]
        simp only [cD, hb, hc', Option.map_some]
      · cases hm1
    · refine all_true_cons (bm0_good t a c oa.v na.v oc.v nc.v rr.v g1 g2 g3 g4 g5 g6) ?_
      repeat' (refine all_true_cons ?_ ?_)
      all_goals first | exact all_true_nil | (simp only [Bool.and_eq_true, decide_eq_true_eq, true_and, min16]; omega)
    · cases m1 <;> rfl
  · unfold sp31 at hr
    split at hr
    case h_2 => cases hr
    split at hr
    case h_2 => cases hr
    rename_i d0 m0 d1 m1 d2 m2
    split at hr
    case h_2 => cases hr
    split at hr
    · cases hr
    injection hr with hr; subst hr
    match i, hk with
    | 0, hk => simp at hk; subst hk; cases hm
    | 1, hk => simp at hk; subst hk; exact ⟨_, rfl, hm⟩
    | 2, hk => simp at hk; subst hk; cases hm
end Go.Proofs.Ytnonaagcnenbdaa

/- The package's mix of blocks: its loop, and what it makes. -/
import Derived.Test.YtnonaagcnenbdaaR1B0
namespace Go.Proofs.Ytnonaagcnenbdaa
open Go.Eng
set_option linter.unusedSectionVars false
variable [RowAddr]
structure BmD where
  (t a c : Vec 32)
  (oa na oc nc : Nat)
  (r i : Int)
def BmD.st (d : BmD) : Fr × List Blk := (⟨[.ptr 0 (.c 0), .sl 1 (.s d.oa) (.s d.na) none, .sl 2 (.s d.oc) (.s d.nc) none, .int .i64 (.s d.r), .undef, .undef, .undef, .undef, .int .i64 (.s d.i)], []⟩, [⟨.b32 d.t, .own⟩, ⟨.b32 d.a, .ro⟩, ⟨.b32 d.c, .own⟩])
/-- Half a round: one block. -/
def BmD.half (d : BmD) (lo hi : Int) : BmD := { d with t := put16 d.t 0 (sv29 d.t d.a (d.oa + lo.toNat)), c := put16 d.c (d.oc + hi.toNat) (sv29 d.t d.a (d.oa + lo.toNat)) }
def BmD.next (d : BmD) : BmD := { (d.half (d.i * 16) (d.i * 8)).half (d.i * 16 + 16) (d.i * 8 + d.r * 16) with i := d.i + 2 }
def BmD.good (d : BmD) : Bool := decide (0 ≤ d.i ∧ d.i ≤ 2 * d.r ∧ d.i % 2 = 0 ∧ 1 ≤ d.r ∧ d.r ≤ 1000000 ∧ d.t.n = 16 ∧ d.oa + 32 * d.r ≤ d.a.n ∧ 32 * d.r ≤ d.na ∧ d.oc + 32 * d.r ≤ d.c.n ∧ 32 * d.r ≤ d.nc)
def bmParse (F : Fr) (H : List Blk) : Option BmD :=
  match F.vars with
  | [.ref (.ptr 0 (.c 0)), .ref (.sl 1 oa na _), .ref (.sl 2 oc nc _), .num (.int .i64 r), _, _, _, _, .num (.int .i64 i)] =>
    match H with
    | [⟨.b32 t, .own⟩, ⟨d1, m1⟩, ⟨d2, .own⟩] =>
      match d1.as32, d2.as32, isDead m1 with
      | some a, some c, false => some ⟨t, a, c, oa.v, na.v, oc.v, nc.v, r.v, i.v⟩
      | _, _, _ => none
    | _ => none
  | _ => none
theorem bmParse_in (F : Fr) (H : List Blk) (d : BmD) (h : bmParse F H = some d) : wkF none d.st.1 F = some d.st.1 ∧ cH d.st.2 (H ++ []) = some d.st.2 := by
  unfold bmParse at h
  split at h
  case h_2 => cases h
  rename_i hv
  split at h
  case h_2 => cases h
  rename_i t d1 m1 d2
  split at h
  case h_2 => cases h
  rename_i h1 h2 h3
  injection h with h; subst h
  constructor
  · simp only [wkF, hv]; rfl
  · have e : (Eng.Data.b32 t).as32 = some t := rfl
    cases m1 <;> simp only [isDead, Bool.true_eq_false] at h3 <;> simp only [BmD.st, List.append_nil, cH, cB, cD, e, h1, h2, Option.map_some]
def bmT : LoopT BmD where
  parse := bmParse
  gh := []
  st := BmD.st
  next := BmD.next
  rem d := ((2 * d.r - d.i) / 2).toNat
  good := BmD.good
  out := .exit 0
  fin := BmD.st
theorem bmRound (d : BmD) : ranAs 3 none (BmD.st (BmD.next d)) (goL specsB noLoop 31 0 d.st.1 ⟨d.st.2, big, [true], []⟩) = some (.normal, (BmD.st (BmD.next d)), [decide (((-9223372036854775808) ≤ (d.i + 2) ∧ (d.i + 2) ≤ 9223372036854775807)), decide (((16 : Nat) ≤ d.t.n ∧ (((d.oa + ((((d.i * 16) + 16)) : Int).toNat) + 16) ≤ d.a.n ∧ (((d.oc + ((((d.i * 8) + (d.r * 16))) : Int).toNat) + 16) ≤ d.c.n ∧ ((16 : Nat) ≤ (((((d.na : Nat) : Int)) : Int).toNat - ((((d.i * 16) + 16)) : Int).toNat) ∧ (16 : Nat) ≤ (((((d.nc : Nat) : Int)) : Int).toNat - ((((d.i * 8) + (d.r * 16))) : Int).toNat)))))), ((decide ((0 : Int) ≤ ((d.i * 8) + (d.r * 16))) && decide (((d.i * 8) + (d.r * 16)) ≤ ((d.nc : Nat) : Int))) && decide (((d.nc : Nat) : Int) ≤ ((d.nc : Nat) : Int))), decide (((-9223372036854775808) ≤ ((d.i * 8) + (d.r * 16)) ∧ ((d.i * 8) + (d.r * 16)) ≤ 9223372036854775807)), decide (((-9223372036854775808) ≤ (d.r * 16) ∧ (d.r * 16) ≤ 9223372036854775807)), decide (((-9223372036854775808) ≤ (d.i * 8) ∧ (d.i * 8) ≤ 9223372036854775807)), ((decide ((0 : Int) ≤ ((d.i * 16) + 16)) && decide (((d.i * 16) + 16) ≤ ((d.na : Nat) : Int))) && decide (((d.na : Nat) : Int) ≤ ((d.na : Nat) : Int))), decide (((-9223372036854775808) ≤ ((d.i * 16) + 16) ∧ ((d.i * 16) + 16) ≤ 9223372036854775807)), decide (((-9223372036854775808) ≤ (d.i * 16) ∧ (d.i * 16) ≤ 9223372036854775807)), decide (((16 : Nat) ≤ d.t.n ∧ (((d.oa + (((d.i * 16)) : Int).toNat) + 16) ≤ d.a.n ∧ (((d.oc + (((d.i * 8)) : Int).toNat) + 16) ≤ d.c.n ∧ ((16 : Nat) ≤ (((((d.na : Nat) : Int)) : Int).toNat - (((d.i * 16)) : Int).toNat) ∧ (16 : Nat) ≤ (((((d.nc : Nat) : Int)) : Int).toNat - (((d.i * 8)) : Int).toNat)))))), ((decide ((0 : Int) ≤ (d.i * 8)) && decide ((d.i * 8) ≤ ((d.nc : Nat) : Int))) && decide (((d.nc : Nat) : Int) ≤ ((d.nc : Nat) : Int))), decide (((-9223372036854775808) ≤ (d.i * 8) ∧ (d.i * 8) ≤ 9223372036854775807)), ((decide ((0 : Int) ≤ (d.i * 16)) && decide ((d.i * 16) ≤ ((d.na : Nat) : Int))) && decide (((d.na : Nat) : Int) ≤ ((d.na : Nat) : Int))), decide (((-9223372036854775808) ≤ (d.i * 16) ∧ (d.i * 16) ≤ 9223372036854775807)), (decide (d.i < (2 * d.r)) == true), decide (((-9223372036854775808) ≤ (2 * d.r) ∧ (2 * d.r) ≤ 9223372036854775807))]) := by kernel_rfl
theorem bmEnd (d : BmD) : ranAs 3 none (BmD.st d) (goL specsB noLoop 31 0 d.st.1 ⟨d.st.2, big, [false], []⟩) = some ((.exit 0), (BmD.st d), [(decide (d.i < (2 * d.r)) == false), decide (((-9223372036854775808) ≤ (2 * d.r) ∧ (2 * d.r) ≤ 9223372036854775807))]) := by kernel_rfl
theorem set_n (v : Vec 32) (i : Nat) (x : BitVec 32) : (v.set i x).n = v.n := rfl
theorem put16_n (l : Vec 32) (o : Nat) (x : W16) : (put16 l o x).n = l.n := by
  unfold put16
  simp only [set_n]
theorem next_t (d : BmD) : d.next.t.n = d.t.n := by
  show (put16 _ _ _).n = _
  rw [put16_n]
  show (put16 _ _ _).n = _
  rw [put16_n]
theorem next_c (d : BmD) : d.next.c.n = d.c.n := by
  show (put16 _ _ _).n = _
  rw [put16_n]
  show (put16 _ _ _).n = _
  rw [put16_n]
theorem good_next (d : BmD) (h : d.good = true) (gi : d.i + 2 ≤ 2 * d.r) : d.next.good = true := by
  obtain ⟨g1, g2, g3, g4, g5, g6, g7, g8, g9, g10⟩ := of_decide_eq_true h
  have g6' := (next_t d).trans g6
  have g9' : d.oc + 32 * d.r ≤ d.next.c.n := by rw [next_c]; exact g9
  have e : d.next.good = decide (0 ≤ d.i + 2 ∧ d.i + 2 ≤ 2 * d.r ∧ (d.i + 2) % 2 = 0 ∧ 1 ≤ d.r ∧ d.r ≤ 1000000 ∧ d.next.t.n = 16 ∧ d.oa + 32 * d.r ≤ d.a.n ∧ 32 * d.r ≤ d.na ∧ d.oc + 32 * d.r ≤ d.next.c.n ∧ 32 * d.r ≤ d.nc) := by kernel_rfl
  rw [e]
  exact decide_eq_true ⟨by omega, gi, by omega, g4, g5, g6', g7, g8, g9', g10⟩
theorem bmLen : (loopsIn Try.prog 31).length = 1 := by kernel_rfl
theorem bmTold : Told 31 0 bmT.told := by
  refine loop_ran bmT (goL_ok specsB_ok (no_loops _) 31 0 fine31 (by rw [bmLen]; omega)) (by intro k hk; cases hk) (by intro h; cases h) bmParse_in (fun d k hg hr => ?_) (fun d hg hr => ?_)
  · obtain ⟨g1, g2, g3, g4, g5, g6, g7, g8, g9, g10⟩ := of_decide_eq_true hg
    have hr' : ((2 * d.r - d.i) / 2).toNat = k + 1 := hr
    have gi : d.i + 2 ≤ 2 * d.r := by omega
    refine ⟨⟨[true], none, _, bmRound d, ?_⟩, good_next d hg gi, ?_, by kernel_rfl⟩
    · repeat' (refine all_true_cons ?_ ?_)
      all_goals first | exact all_true_nil | (simp only [decide_eq_true_eq, Bool.and_eq_true, beq_true]; omega)
    · have e : bmT.rem (bmT.next d) = ((2 * d.r - (d.i + 2)) / 2).toNat := by kernel_rfl
      exact e.trans (by omega)
  · obtain ⟨g1, g2, g3, g4, g5, g6, g7, g8, g9, g10⟩ := of_decide_eq_true hg
    have hr' : ((2 * d.r - d.i) / 2).toNat = 0 := hr
    refine ⟨[false], none, _, bmEnd d, ?_⟩
    repeat' (refine all_true_cons ?_ ?_)
    all_goals first | exact all_true_nil | (simp only [decide_eq_true_eq, beq_false, Bool.not_eq_true', decide_eq_false_iff_not]; omega)
def bmLoops : FuncId → Nat → Option LSpec
  | 31, 2 => some bmT.told
  | _, _ => none
theorem bmLoops_ok (spec : FuncId → Option Eng.Spec) : LoopsOk (cfg spec bmLoops) noGlob := by
  refine LoopsOk.of fun f => ?_
  by_cases hf : f = 31
  · subst hf
    refine .inr ⟨by kernel_rfl, fun i hi sp hsp => ?_⟩
    have hi : i < (loopsIn Try.prog 31).length := hi
    rw [bmLen] at hi
    obtain rfl : i = 0 := by omega
    have e : (firstRid (loopIn Try.prog 31 0)).bind (bmLoops 31) = some bmT.told := by kernel_rfl
    obtain rfl := Option.some.inj (e.symm.trans hsp)
    exact bmTold
  · refine .inl fun r => ?_
    show bmLoops f r = none
    unfold bmLoops
    split
    · exact absurd rfl hf
    · rfl
end Go.Proofs.Ytnonaagcnenbdaa

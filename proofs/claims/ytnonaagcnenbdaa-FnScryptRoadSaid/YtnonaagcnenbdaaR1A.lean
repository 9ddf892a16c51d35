/- The package's mix of blocks within one row of words: contracts. -/
import Derived.Test.YtnonaagcnenbdaaR1Mix
namespace Go.Proofs.Ytnonaagcnenbdaa
open Go.Eng
set_option linter.unusedSimpArgs false
set_option linter.unusedVariables false
set_option linter.unusedSectionVars false
variable [RowAddr]
structure c29aD where
  t : Vec 32
  c : Vec 32
  o1 : Nat
  o2 : Nat
  n1 : Nat
  n2 : Nat
def c29a_rd (a : List AV) (K : List Blk) : Option c29aD :=
    match a with
    | [(.ref (.ptr 0 (.c 0))), (.ref (.sl 1 (.s o1) (.s n1) none)), (.ref (.sl 1 (.s o2) (.s n2) none))] =>
      match K with
      | [⟨(.b32 t), .own⟩, ⟨(.b32 c), .own⟩] => some ⟨t, c, o1, o2, n1, n2⟩
      | _ => none
    | _ => none
def c29a : Ct c29aD where
  pat := [(.ref (.ptr 0 (.c 0))), (.ref (.sl 1 (.s 0) (.s 0) none)), (.ref (.sl 1 (.s 0) (.s 0) none))]
  patH := [⟨(.b32 (Vec.zero 32 0)), .own⟩, ⟨(.b32 (Vec.zero 32 0)), .own⟩]
  read := c29a_rd
  args := fun ⟨_, c, o1, o2, n1, n2⟩ => [(.ref (.ptr 0 (.c 0))), (.ref (.sl 1 (.s o1) (.s n1) none)), (.ref (.sl 1 (.s o2) (.s n2) none))]
  heap := fun ⟨t, c, _, _, _, _⟩ => [⟨(.b32 t), .own⟩, ⟨(.b32 c), .own⟩]
  out := fun ⟨t, c, o1, o2, _, _⟩ => [⟨(.b32 (put16 t 0 (sv29 t c o1))), .own⟩, ⟨(.b32 (put16 c o2 (sv29 t c o1))), .own⟩]
  val := fun ⟨_, _, _, _, _, _⟩ => (.obj .tup [])
  good := fun ⟨t, c, o1, o2, n1, n2⟩ => decide (16 ≤ t.n ∧ o1 + 16 ≤ c.n ∧ o2 + 16 ≤ c.n ∧ 16 ≤ n1 ∧ 16 ≤ n2)
theorem c29a_run (t c : Vec 32) (o1 o2 n1 n2 : Nat) : endsAs (c29a.heap ⟨t, c, o1, o2, n1, n2⟩).length none (c29a.out ⟨t, c, o1, o2, n1, n2⟩) (c29a.val ⟨t, c, o1, o2, n1, n2⟩) (goB noSpec noLoop 29 (c29a.args ⟨t, c, o1, o2, n1, n2⟩) ⟨c29a.heap ⟨t, c, o1, o2, n1, n2⟩, big, [], []⟩) = some ((c29a.out ⟨t, c, o1, o2, n1, n2⟩), (c29a.val ⟨t, c, o1, o2, n1, n2⟩), [decide ((15 : Nat) < t.n), decide ((o2 + 15) < c.n), (true && decide ((15 : Int) < ((n2 : Nat) : Int))), decide ((14 : Nat) < t.n), decide ((o2 + 14) < c.n), (true && decide ((14 : Int) < ((n2 : Nat) : Int))), decide ((13 : Nat) < t.n), decide ((o2 + 13) < c.n), (true && decide ((13 : Int) < ((n2 : Nat) : Int))), decide ((12 : Nat) < t.n), decide ((o2 + 12) < c.n), (true && decide ((12 : Int) < ((n2 : Nat) : Int))), decide ((11 : Nat) < t.n), decide ((o2 + 11) < c.n), (true && decide ((11 : Int) < ((n2 : Nat) : Int))), decide ((10 : Nat) < t.n), decide ((o2 + 10) < c.n), (true && decide ((10 : Int) < ((n2 : Nat) : Int))), decide ((9 : Nat) < t.n), decide ((o2 + 9) < c.n), (true && decide ((9 : Int) < ((n2 : Nat) : Int))), decide ((8 : Nat) < t.n), decide ((o2 + 8) < c.n), (true && decide ((8 : Int) < ((n2 : Nat) : Int))), decide ((7 : Nat) < t.n), decide ((o2 + 7) < c.n), (true && decide ((7 : Int) < ((n2 : Nat) : Int))), decide ((6 : Nat) < t.n), decide ((o2 + 6) < c.n), (true && decide ((6 : Int) < ((n2 : Nat) : Int))), decide ((5 : Nat) < t.n), decide ((o2 + 5) < c.n), (true && decide ((5 : Int) < ((n2 : Nat) : Int))), decide ((4 : Nat) < t.n), decide ((o2 + 4) < c.n), (true && decide ((4 : Int) < ((n2 : Nat) : Int))), decide ((3 : Nat) < t.n), decide ((o2 + 3) < c.n), (true && decide ((3 : Int) < ((n2 : Nat) : Int))), decide ((2 : Nat) < t.n), decide ((o2 + 2) < c.n), (true && decide ((2 : Int) < ((n2 : Nat) : Int))), decide ((1 : Nat) < t.n), decide ((o2 + 1) < c.n), (true && decide ((1 : Int) < ((n2 : Nat) : Int))), decide ((0 : Nat) < t.n), decide ((o2 + 0) < c.n), (true && decide ((0 : Int) < ((n2 : Nat) : Int))), decide ((o1 + 15) < c.n), (true && decide ((15 : Int) < ((n1 : Nat) : Int))), decide ((15 : Nat) < t.n), decide ((o1 + 14) < c.n), (true && decide ((14 : Int) < ((n1 : Nat) : Int))), decide ((14 : Nat) < t.n), decide ((o1 + 13) < c.n), (true && decide ((13 : Int) < ((n1 : Nat) : Int))), decide ((13 : Nat) < t.n), decide ((o1 + 12) < c.n), (true && decide ((12 : Int) < ((n1 : Nat) : Int))), decide ((12 : Nat) < t.n), decide ((o1 + 11) < c.n), (true && decide ((11 : Int) < ((n1 : Nat) : Int))), decide ((11 : Nat) < t.n), decide ((o1 + 10) < c.n), (true && decide ((10 : Int) < ((n1 : Nat) : Int))), decide ((10 : Nat) < t.n), decide ((o1 + 9) < c.n), (true && decide ((9 : Int) < ((n1 : Nat) : Int))), decide ((9 : Nat) < t.n), decide ((o1 + 8) < c.n), (true && decide ((8 : Int) < ((n1 : Nat) : Int))), decide ((8 : Nat) < t.n), decide ((o1 + 7) < c.n), (true && decide ((7 : Int) < ((n1 : Nat) : Int))), decide ((7 : Nat) < t.n), decide ((o1 + 6) < c.n), (true && decide ((6 : Int) < ((n1 : Nat) : Int))), decide ((6 : Nat) < t.n), decide ((o1 + 5) < c.n), (true && decide ((5 : Int) < ((n1 : Nat) : Int))), decide ((5 : Nat) < t.n), decide ((o1 + 4) < c.n), (true && decide ((4 : Int) < ((n1 : Nat) : Int))), decide ((4 : Nat) < t.n), decide ((o1 + 3) < c.n), (true && decide ((3 : Int) < ((n1 : Nat) : Int))), decide ((3 : Nat) < t.n), decide ((o1 + 2) < c.n), (true && decide ((2 : Int) < ((n1 : Nat) : Int))), decide ((2 : Nat) < t.n), decide ((o1 + 1) < c.n), (true && decide ((1 : Int) < ((n1 : Nat) : Int))), decide ((1 : Nat) < t.n), decide ((o1 + 0) < c.n), (true && decide ((0 : Int) < ((n1 : Nat) : Int))), decide ((0 : Nat) < t.n)]) := by kernel_rfl
set_option maxRecDepth 100000 in
theorem c29a_read (a : List AV) (K : List Blk) (d : c29aD) (h : c29a.read a K = some d) : a = c29a.args d ∧ K = c29a.heap d := by
  replace h : c29a_rd a K = some d := h
  unfold c29a_rd at h
  split at h
  case h_2 => cases h
  split at h
  case h_2 => cases h
  injection h with h; subst h
  exact ⟨rfl, rfl⟩
theorem c29a_ok : SpecOk Try.prog noGlob 29 c29a.spec := by
  refine c29a.ok (goB_ok no_specs (no_loops _)) c29a_read ?_
  rintro ⟨t, c, o1, o2, n1, n2⟩ hg
  have hg : 16 ≤ t.n ∧ o1 + 16 ≤ c.n ∧ o2 + 16 ≤ c.n ∧ 16 ≤ n1 ∧ 16 ≤ n2 := of_decide_eq_true hg
  refine ⟨[], none, _, c29a_run t c o1 o2 n1 n2, ?_⟩
  repeat' (refine all_true_cons ?_ ?_)
  all_goals first | exact all_true_nil | rfl | (simp only [Bool.and_eq_true, decide_eq_true_eq, beq_iff_eq, beq_true, beq_false, Bool.not_eq_true', decide_eq_false_iff_not, beq_eq_false_iff_ne, ne_eq, Bool.not_eq_false', bne_iff_ne, true_and, and_true] <;> omega)
def specsA : FuncId → Option Eng.Spec
  | 29 => some c29a.spec
  | _ => none
theorem specsA_ok : ∀ f sp, specsA f = some sp → SpecOk Try.prog noGlob f sp := by
  intro f sp h
  unfold specsA at h
  split at h
  · injection h with h; subst h; exact c29a_ok
  · cases h
structure TC where
  t : Vec 32
  c : Vec 32
/-- Half a round: one block. -/
def halfA (x : TC) (p q : Nat) : TC := ⟨put16 x.t 0 (sv29 x.t x.c p), put16 x.c q (sv29 x.t x.c p)⟩
def roundA (x : TC) (oa oc : Nat) (r i : Int) : TC := halfA (halfA x (oa + (i * 16).toNat) (oc + (i * 8).toNat)) (oa + (i * 16 + 16).toNat) (oc + (i * 8 + r * 16).toNat)
theorem roundA_n (x : TC) (oa oc : Nat) (r i : Int) : (roundA x oa oc r i).t.n = x.t.n ∧ (roundA x oa oc r i).c.n = x.c.n := by
  unfold roundA halfA
  constructor
  · show (put16 (put16 _ _ _) _ _).n = _
    rw [put16_n, put16_n]
  · show (put16 (put16 _ _ _) _ _).n = _
    rw [put16_n, put16_n]
structure laD where
  t : Vec 32
  c : Vec 32
  oa : Nat
  oc : Nat
  na : Nat
  nc : Nat
  r : Int
  i : Int
def la_st (d : laD) : Fr × List Blk :=
  match d with
  | ⟨t, c, oa, oc, na, nc, r, i⟩ => (⟨[(.ref (.ptr 0 (.c 0))), (.ref (.sl 1 (.s oa) (.s na) none)), (.ref (.sl 1 (.s oc) (.s nc) none)), (.num (.int .i64 (.s r))), (.atom .undef), (.atom .undef), (.atom .undef), (.atom .undef), (.num (.int .i64 (.s i)))], []⟩, [⟨(.b32 t), .own⟩, ⟨(.b32 c), .own⟩])
def la_next (d : laD) : laD :=
  match d with
  | ⟨t, c, oa, oc, na, nc, r, i⟩ => ⟨(roundA ⟨t, c⟩ oa oc r i).t, (roundA ⟨t, c⟩ oa oc r i).c, oa, oc, na, nc, r, i + 2⟩
def la_rd (F : Fr) (K : List Blk) : Option laD :=
    match F with
    | ⟨[(.ref (.ptr 0 (.c 0))), (.ref (.sl 1 (.s oa) (.s na) none)), (.ref (.sl 1 (.s oc) (.s nc) none)), (.num (.int .i64 (.s r))), (.atom .undef), (.atom .undef), (.atom .undef), (.atom .undef), (.num (.int .i64 (.s i)))], []⟩ =>
      match K with
      | [⟨(.b32 t), .own⟩, ⟨(.b32 c), .own⟩] => some ⟨t, c, oa, oc, na, nc, r, i⟩
      | _ => none
    | _ => none
def la : LoopP laD where
  pat := ⟨[(.ref (.ptr 0 (.c 0))), (.ref (.sl 1 (.s 0) (.s 0) none)), (.ref (.sl 1 (.s 0) (.s 0) none)), (.num (.int .i64 (.s 0))), (.atom .undef), (.atom .undef), (.atom .undef), (.atom .undef), (.num (.int .i64 (.s 0)))], []⟩
  patH := [⟨(.b32 (Vec.zero 32 0)), .own⟩, ⟨(.b32 (Vec.zero 32 0)), .own⟩]
  gh := []
  read := la_rd
  st := la_st
  next := la_next
  rem := fun ⟨_, _, _, _, _, _, r, i⟩ => ((2 * r - i) / 2).toNat
  good := fun ⟨t, c, oa, oc, na, nc, r, i⟩ => decide (0 ≤ i ∧ i ≤ 2 * r ∧ i % 2 = 0 ∧ 1 ≤ r ∧ r ≤ 1000000 ∧ t.n = 16 ∧ oa + 32 * r ≤ c.n ∧ 32 * r ≤ na ∧ oc + 32 * r ≤ c.n ∧ 32 * r ≤ nc)
  out := .exit 0
  fin := la_st
theorem la_round (t c : Vec 32) (oa oc na nc : Nat) (r i : Int) : ranAs ((la.st ⟨t, c, oa, oc, na, nc, r, i⟩).2.length - la.gh.length) none (la.st (la_next ⟨t, c, oa, oc, na, nc, r, i⟩)) (goL specsA noLoop 31 0 (la.st ⟨t, c, oa, oc, na, nc, r, i⟩).1 ⟨(la.st ⟨t, c, oa, oc, na, nc, r, i⟩).2, big, [true], []⟩) = some (.normal, (la.st (la_next ⟨t, c, oa, oc, na, nc, r, i⟩)), [decide (((-9223372036854775808) ≤ (i + 2) ∧ (i + 2) ≤ 9223372036854775807)), decide (((16 : Nat) ≤ t.n ∧ (((oa + ((((i * 16) + 16)) : Int).toNat) + 16) ≤ c.n ∧ (((oc + ((((i * 8) + (r * 16))) : Int).toNat) + 16) ≤ c.n ∧ ((16 : Nat) ≤ (((((na : Nat) : Int)) : Int).toNat - ((((i * 16) + 16)) : Int).toNat) ∧ (16 : Nat) ≤ (((((nc : Nat) : Int)) : Int).toNat - ((((i * 8) + (r * 16))) : Int).toNat)))))), ((decide ((0 : Int) ≤ ((i * 8) + (r * 16))) && decide (((i * 8) + (r * 16)) ≤ ((nc : Nat) : Int))) && decide (((nc : Nat) : Int) ≤ ((nc : Nat) : Int))), decide (((-9223372036854775808) ≤ ((i * 8) + (r * 16)) ∧ ((i * 8) + (r * 16)) ≤ 9223372036854775807)), decide (((-9223372036854775808) ≤ (r * 16) ∧ (r * 16) ≤ 9223372036854775807)), decide (((-9223372036854775808) ≤ (i * 8) ∧ (i * 8) ≤ 9223372036854775807)), ((decide ((0 : Int) ≤ ((i * 16) + 16)) && decide (((i * 16) + 16) ≤ ((na : Nat) : Int))) && decide (((na : Nat) : Int) ≤ ((na : Nat) : Int))), decide (((-9223372036854775808) ≤ ((i * 16) + 16) ∧ ((i * 16) + 16) ≤ 9223372036854775807)), decide (((-9223372036854775808) ≤ (i * 16) ∧ (i * 16) ≤ 9223372036854775807)), decide (((16 : Nat) ≤ t.n ∧ (((oa + (((i * 16)) : Int).toNat) + 16) ≤ c.n ∧ (((oc + (((i * 8)) : Int).toNat) + 16) ≤ c.n ∧ ((16 : Nat) ≤ (((((na : Nat) : Int)) : Int).toNat - (((i * 16)) : Int).toNat) ∧ (16 : Nat) ≤ (((((nc : Nat) : Int)) : Int).toNat - (((i * 8)) : Int).toNat)))))), ((decide ((0 : Int) ≤ (i * 8)) && decide ((i * 8) ≤ ((nc : Nat) : Int))) && decide (((nc : Nat) : Int) ≤ ((nc : Nat) : Int))), decide (((-9223372036854775808) ≤ (i * 8) ∧ (i * 8) ≤ 9223372036854775807)), ((decide ((0 : Int) ≤ (i * 16)) && decide ((i * 16) ≤ ((na : Nat) : Int))) && decide (((na : Nat) : Int) ≤ ((na : Nat) : Int))), decide (((-9223372036854775808) ≤ (i * 16) ∧ (i * 16) ≤ 9223372036854775807)), (decide (i < (2 * r)) == true), decide (((-9223372036854775808) ≤ (2 * r) ∧ (2 * r) ≤ 9223372036854775807))]) := by kernel_rfl
theorem la_end (t c : Vec 32) (oa oc na nc : Nat) (r i : Int) : ranAs ((la.st ⟨t, c, oa, oc, na, nc, r, i⟩).2.length - la.gh.length) none (la.fin ⟨t, c, oa, oc, na, nc, r, i⟩) (goL specsA noLoop 31 0 (la.st ⟨t, c, oa, oc, na, nc, r, i⟩).1 ⟨(la.st ⟨t, c, oa, oc, na, nc, r, i⟩).2, big, [false], []⟩) = some (la.out, (la.fin ⟨t, c, oa, oc, na, nc, r, i⟩), [(decide (i < (2 * r)) == false), decide (((-9223372036854775808) ≤ (2 * r) ∧ (2 * r) ≤ 9223372036854775807))]) := by kernel_rfl
set_option maxRecDepth 100000 in
theorem la_read (F : Fr) (K : List Blk) (d : laD) (h : la.read F K = some d) : (F, K) = la.st d := by
  replace h : la_rd F K = some d := h
  unfold la_rd at h
  split at h
  case h_2 => cases h
  split at h
  case h_2 => cases h
  injection h with h; subst h
  rfl
theorem la_body : RunOk Try.prog noGlob (nv 31) (ntmpsIn Try.prog 31) (loopIn Try.prog 31 0) (goL specsA noLoop 31 0) := goL_ok specsA_ok (no_loops _) 31 0 fine31 (by rw [show (loopsIn Try.prog 31).length = 1 by kernel_rfl]; omega)
theorem la_toldL : LoopOk Try.prog noGlob (nv 31) (ntmpsIn Try.prog 31) (loopIn Try.prog 31 0) la.T.told := by
  refine la.ran la_body (by intro k hk; have hk : k ∈ ([] : List Blk) := hk; cases hk) (by intro h; cases h) la_read ?_ ?_
  · rintro ⟨t, c, oa, oc, na, nc, r, i⟩ kk hg hr
    have hg : 0 ≤ i ∧ i ≤ 2 * r ∧ i % 2 = 0 ∧ 1 ≤ r ∧ r ≤ 1000000 ∧ t.n = 16 ∧ oa + 32 * r ≤ c.n ∧ 32 * r ≤ na ∧ oc + 32 * r ≤ c.n ∧ 32 * r ≤ nc := of_decide_eq_true hg
    have hr : ((2 * r - i) / 2).toNat = kk + 1 := hr
    have en : la.next ⟨t, c, oa, oc, na, nc, r, i⟩ = la_next ⟨t, c, oa, oc, na, nc, r, i⟩ := rfl
    rw [en]
    refine ⟨⟨[true], none, _, la_round t c oa oc na nc r i, ?_⟩, ?_, ?_, (show (la.st (la_next ⟨t, c, oa, oc, na, nc, r, i⟩)).2.length = 2 by kernel_rfl).trans (show (la.st ⟨t, c, oa, oc, na, nc, r, i⟩).2.length = 2 by kernel_rfl).symm⟩
    · repeat' (refine all_true_cons ?_ ?_)
      all_goals first | exact all_true_nil | rfl | (simp only [Bool.and_eq_true, decide_eq_true_eq, beq_iff_eq, beq_true, beq_false, Bool.not_eq_true', decide_eq_false_iff_not, beq_eq_false_iff_ne, ne_eq, Bool.not_eq_false', bne_iff_ne, true_and, and_true] <;> omega)
    · have e : la.good (la_next ⟨t, c, oa, oc, na, nc, r, i⟩) = decide (0 ≤ (i + 2 : Int) ∧ (i + 2 : Int) ≤ 2 * r ∧ (i + 2 : Int) % 2 = 0 ∧ 1 ≤ r ∧ r ≤ 1000000 ∧ ((roundA ⟨t, c⟩ oa oc r i).t : Vec 32).n = 16 ∧ oa + 32 * r ≤ ((roundA ⟨t, c⟩ oa oc r i).c : Vec 32).n ∧ 32 * r ≤ na ∧ oc + 32 * r ≤ ((roundA ⟨t, c⟩ oa oc r i).c : Vec 32).n ∧ 32 * r ≤ nc) := by kernel_rfl
      refine e.trans (decide_eq_true ?_)
      rw [(roundA_n ⟨t, c⟩ oa oc r i).1, (roundA_n ⟨t, c⟩ oa oc r i).2]
      show 0 ≤ i + 2 ∧ i + 2 ≤ 2 * r ∧ (i + 2) % 2 = 0 ∧ 1 ≤ r ∧ r ≤ 1000000 ∧ t.n = 16 ∧ oa + 32 * r ≤ c.n ∧ 32 * r ≤ na ∧ oc + 32 * r ≤ c.n ∧ 32 * r ≤ nc
      omega
    · have e : la.rem (la_next ⟨t, c, oa, oc, na, nc, r, i⟩) = (((2 * r - (i + 2 : Int)) / 2).toNat) := by kernel_rfl
      refine e.trans ?_
      omega
  · rintro ⟨t, c, oa, oc, na, nc, r, i⟩ hg hr
    have hg : 0 ≤ i ∧ i ≤ 2 * r ∧ i % 2 = 0 ∧ 1 ≤ r ∧ r ≤ 1000000 ∧ t.n = 16 ∧ oa + 32 * r ≤ c.n ∧ 32 * r ≤ na ∧ oc + 32 * r ≤ c.n ∧ 32 * r ≤ nc := of_decide_eq_true hg
    have hr : ((2 * r - i) / 2).toNat = 0 := hr
    refine ⟨[false], none, _, la_end t c oa oc na nc r i, ?_⟩
    repeat' (refine all_true_cons ?_ ?_)
    all_goals first | exact all_true_nil | rfl | (simp only [Bool.and_eq_true, decide_eq_true_eq, beq_iff_eq, beq_true, beq_false, Bool.not_eq_true', decide_eq_false_iff_not, beq_eq_false_iff_ne, ne_eq, Bool.not_eq_false', bne_iff_ne, true_and, and_true] <;> omega)
def la_spec : LSpec := la.T.told
theorem la_told : Told 31 0 la_spec := la_toldL.run
def las : FuncId → Nat → Option LSpec
  | 31, 2 => some la_spec
  | _, _ => none
theorem las_len : (loopsIn Try.prog 31).length = 1 := by kernel_rfl
theorem las_ok (spec : FuncId → Option Eng.Spec) : LoopsOk (cfg spec las) noGlob := by
  refine LoopsOk.of fun f => ?_
  by_cases hf : f = 31
  · subst hf
    refine .inr ⟨by kernel_rfl, fun i hi sp hsp => ?_⟩
    have hi : i < (loopsIn Try.prog 31).length := hi
    rw [las_len] at hi
    match i, hi with
    | 0, _ =>
      have e : (firstRid (loopIn Try.prog 31 0)).bind (las 31) = some la_spec := by kernel_rfl
      obtain rfl := Option.some.inj (e.symm.trans hsp)
      exact la_told
  · refine .inl fun r => ?_
    show las f r = none
    unfold las
    split
    · exact absurd rfl hf
    · rfl
/-- All rounds. -/
def mixR (oa oc : Nat) (r : Int) : Nat → TC → TC
  | 0, x => x
  | m + 1, x => roundA (mixR oa oc r m x) oa oc r (2 * (m : Int))
theorem mixR_n (oa oc : Nat) (r : Int) (x : TC) : ∀ m : Nat, (mixR oa oc r m x).t.n = x.t.n ∧ (mixR oa oc r m x).c.n = x.c.n
  | 0 => ⟨rfl, rfl⟩
  | m + 1 => by
    have h := mixR_n oa oc r x m
    have k := roundA_n (mixR oa oc r m x) oa oc r (2 * (m : Int))
    exact ⟨k.1.trans h.1, k.2.trans h.2⟩
theorem la_it (t c : Vec 32) (oa oc na nc : Nat) (r : Int) : ∀ m : Nat, iter la_next m ⟨t, c, oa, oc, na, nc, r, 0⟩ = ⟨(mixR oa oc r m ⟨t, c⟩).t, (mixR oa oc r m ⟨t, c⟩).c, oa, oc, na, nc, r, 2 * (m : Int)⟩
  | 0 => rfl
  | m + 1 => by
    rw [iter_succ, la_it t c oa oc na nc r m]
    show (⟨(roundA ⟨(mixR oa oc r m ⟨t, c⟩).t, (mixR oa oc r m ⟨t, c⟩).c⟩ oa oc r (2 * (m : Int))).t, (roundA ⟨(mixR oa oc r m ⟨t, c⟩).t, (mixR oa oc r m ⟨t, c⟩).c⟩ oa oc r (2 * (m : Int))).c, oa, oc, na, nc, r, 2 * (m : Int) + 2⟩ : laD) = _
    rw [show 2 * (m : Int) + 2 = 2 * ((m + 1 : Nat) : Int) by omega]
    rfl
def tc0 (t c : Vec 32) (oa : Nat) (r : Int) : TC := ⟨t.over 0 (c.sub (oa + ((2 * r - 1) * 16).toNat) 16), c⟩
def LA (t c : Vec 32) (oa oc na nc : Nat) (r : Int) : laD := iter la_next ((2 * r - 0) / 2).toNat ⟨t.over 0 (c.sub (oa + ((2 * r - 1) * 16).toNat) 16), c, oa, oc, na, nc, r, 0⟩
def mixT (t c : Vec 32) (oa oc : Nat) (r : Int) : Vec 32 := (mixR oa oc r ((2 * r - 0) / 2).toNat (tc0 t c oa r)).t
def mixC (t c : Vec 32) (oa oc : Nat) (r : Int) : Vec 32 := (mixR oa oc r ((2 * r - 0) / 2).toNat (tc0 t c oa r)).c
theorem mixT_n (t c : Vec 32) (oa oc : Nat) (r : Int) : (mixT t c oa oc r).n = t.n := (mixR_n oa oc r _ _).1
theorem mixC_n (t c : Vec 32) (oa oc : Nat) (r : Int) : (mixC t c oa oc r).n = c.n := (mixR_n oa oc r _ _).2
theorem LA_eq (t c : Vec 32) (oa oc na nc : Nat) (r : Int) : LA t c oa oc na nc r = ⟨mixT t c oa oc r, mixC t c oa oc r, oa, oc, na, nc, r, 2 * ((((2 * r - 0) / 2).toNat : Nat) : Int)⟩ := la_it _ _ _ _ _ _ _ _
structure c31aD where
  t : Vec 32
  c : Vec 32
  oa : Nat
  oc : Nat
  na : Nat
  nc : Nat
  r : Int
def c31a_rd (a : List AV) (K : List Blk) : Option c31aD :=
    match a with
    | [(.ref (.ptr 0 (.c 0))), (.ref (.sl 1 (.s oa) (.s na) none)), (.ref (.sl 1 (.s oc) (.s nc) none)), (.num (.int .i64 (.s r)))] =>
      match K with
      | [⟨(.b32 t), .own⟩, ⟨(.b32 c), .own⟩] => some ⟨t, c, oa, oc, na, nc, r⟩
      | _ => none
    | _ => none
def c31a : Ct c31aD where
  pat := [(.ref (.ptr 0 (.c 0))), (.ref (.sl 1 (.s 0) (.s 0) none)), (.ref (.sl 1 (.s 0) (.s 0) none)), (.num (.int .i64 (.s 0)))]
  patH := [⟨(.b32 (Vec.zero 32 0)), .own⟩, ⟨(.b32 (Vec.zero 32 0)), .own⟩]
  read := c31a_rd
  args := fun ⟨_, c, oa, oc, na, nc, r⟩ => [(.ref (.ptr 0 (.c 0))), (.ref (.sl 1 (.s oa) (.s na) none)), (.ref (.sl 1 (.s oc) (.s nc) none)), (.num (.int .i64 (.s r)))]
  heap := fun ⟨t, c, _, _, _, _, _⟩ => [⟨(.b32 t), .own⟩, ⟨(.b32 c), .own⟩]
  out := fun ⟨t, c, oa, oc, _, _, r⟩ => [⟨(.b32 (mixT t c oa oc r)), .own⟩, ⟨(.b32 (mixC t c oa oc r)), .own⟩]
  val := fun ⟨_, _, _, _, _, _, _⟩ => (.obj .tup [])
  good := fun ⟨t, c, oa, oc, na, nc, r⟩ => decide (1 ≤ r ∧ r ≤ 1000000 ∧ t.n = 16 ∧ oa + 32 * r ≤ c.n ∧ 32 * r ≤ na ∧ oc + 32 * r ≤ c.n ∧ 32 * r ≤ nc)
theorem c31a_run (t c : Vec 32) (oa oc na nc : Nat) (r : Int) : endsAs (c31a.heap ⟨t, c, oa, oc, na, nc, r⟩).length none [⟨(.b32 ((LA t c oa oc na nc r)).t), .own⟩, ⟨(.b32 ((LA t c oa oc na nc r)).c), .own⟩] (c31a.val ⟨t, c, oa, oc, na, nc, r⟩) (goB specsA las 31 (c31a.args ⟨t, c, oa, oc, na, nc, r⟩) ⟨c31a.heap ⟨t, c, oa, oc, na, nc, r⟩, big, [], []⟩) = some ([⟨(.b32 ((LA t c oa oc na nc r)).t), .own⟩, ⟨(.b32 ((LA t c oa oc na nc r)).c), .own⟩], (c31a.val ⟨t, c, oa, oc, na, nc, r⟩), [(la.good ⟨t.over 0 (c.sub (oa + ((2 * r - 1) * 16).toNat) 16), c, oa, oc, na, nc, r, 0⟩), decide (((0 + (((((0 : Nat) : Int)) : Int).toNat * 1)) + (Nat.min (16 - ((((0 : Nat) : Int)) : Int).toNat) (((((16 : Nat) : Int)) : Int).toNat - ((((0 : Nat) : Int)) : Int).toNat))) ≤ t.n), decide ((((oa + (((((2 * r) - 1) * 16)) : Int).toNat) + ((((0 : Nat) : Int)) : Int).toNat) + (Nat.min (16 - ((((0 : Nat) : Int)) : Int).toNat) (((((16 : Nat) : Int)) : Int).toNat - ((((0 : Nat) : Int)) : Int).toNat))) ≤ c.n), ((true && true) && decide ((16 : Int) ≤ (((((((na : Nat) : Int)) : Int).toNat - (((((2 * r) - 1) * 16)) : Int).toNat) : Nat) : Int))), ((decide ((0 : Int) ≤ (((2 * r) - 1) * 16)) && decide ((((2 * r) - 1) * 16) ≤ ((na : Nat) : Int))) && decide (((na : Nat) : Int) ≤ ((na : Nat) : Int))), decide (((-9223372036854775808) ≤ (((2 * r) - 1) * 16) ∧ (((2 * r) - 1) * 16) ≤ 9223372036854775807)), decide (((-9223372036854775808) ≤ ((2 * r) - 1) ∧ ((2 * r) - 1) ≤ 9223372036854775807)), decide (((-9223372036854775808) ≤ (2 * r) ∧ (2 * r) ≤ 9223372036854775807)), decide ((16 : Nat) ≤ t.n)]) := by kernel_rfl
set_option maxRecDepth 100000 in
theorem c31a_read (a : List AV) (K : List Blk) (d : c31aD) (h : c31a.read a K = some d) : a = c31a.args d ∧ K = c31a.heap d := by
  replace h : c31a_rd a K = some d := h
  unfold c31a_rd at h
  split at h
  case h_2 => cases h
  split at h
  case h_2 => cases h
  injection h with h; subst h
  exact ⟨rfl, rfl⟩
theorem c31a_ok : SpecOk Try.prog noGlob 31 c31a.spec := by
  refine c31a.ok (goB_ok specsA_ok (las_ok _)) c31a_read ?_
  rintro ⟨t, c, oa, oc, na, nc, r⟩ hg
  have hg : 1 ≤ r ∧ r ≤ 1000000 ∧ t.n = 16 ∧ oa + 32 * r ≤ c.n ∧ 32 * r ≤ na ∧ oc + 32 * r ≤ c.n ∧ 32 * r ≤ nc := of_decide_eq_true hg
  have eo : c31a.out ⟨t, c, oa, oc, na, nc, r⟩ = [⟨(.b32 ((LA t c oa oc na nc r)).t), .own⟩, ⟨(.b32 ((LA t c oa oc na nc r)).c), .own⟩] := by
    rw [LA_eq]
    rfl
  have ev : c31a.val ⟨t, c, oa, oc, na, nc, r⟩ = (.obj .tup []) := by
    rfl
  rw [eo, ev]
  refine ⟨[], none, _, c31a_run t c oa oc na nc r, ?_⟩
  obtain ⟨g1, g2, g3, g4, g5, g6, g7⟩ := hg
  have y1 : la.good ⟨t.over 0 (c.sub (oa + ((2 * r - 1) * 16).toNat) 16), c, oa, oc, na, nc, r, 0⟩ = true := decide_eq_true ⟨by omega, by omega, by omega, g1, g2, g3, g4, g5, g6, g7⟩
  refine all_true_cons y1 ?_
  repeat' (refine all_true_cons ?_ ?_)
  all_goals first | exact all_true_nil | rfl | (simp only [min16, Bool.and_eq_true, decide_eq_true_eq, beq_iff_eq, beq_true, beq_false, Bool.not_eq_true', decide_eq_false_iff_not, beq_eq_false_iff_ne, ne_eq, Bool.not_eq_false', bne_iff_ne, true_and, and_true] <;> omega)
end Go.Proofs.Ytnonaagcnenbdaa

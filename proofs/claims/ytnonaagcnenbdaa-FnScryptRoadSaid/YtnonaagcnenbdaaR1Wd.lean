/- The laws' words: bytes made of words: contract. -/
import Derived.Test.YtnonaagcnenbdaaR1Ref4
namespace Go.Proofs.Ytnonaagcnenbdaa
open Go.Eng
set_option linter.unusedSimpArgs false
set_option linter.unusedVariables false
set_option linter.unusedSectionVars false
variable [RowAddr]
structure l18D where
  a : Vec 32
  u : Vec 8
  oa : Nat
  na : Nat
  k : Nat
  i : Int
def l18_st (d : l18D) : Fr × List Blk :=
  match d with
  | ⟨a, u, oa, na, k, i⟩ => (⟨[(.ref (.sl 0 (.s oa) (.s na) none)), (.atom .undef), (.atom .undef), (.ref (.sl 1 (.c 0) (.s k) none)), (.num (.int .i64 (.s i)))], []⟩, [⟨(.b32 a), .ro⟩, ⟨(.b8 u), .own⟩])
def l18_next (d : l18D) : l18D :=
  match d with
  | ⟨a, u, oa, na, k, i⟩ => ⟨a, u.app (Vec.of (low4 (a.l.getD (oa + i.toNat * 1) 0#32))), oa, na, k + 4, i + 1⟩
def l18_rd (F : Fr) (K : List Blk) : Option l18D :=
    match F with
    | ⟨[(.ref (.sl 0 (.s oa) (.s na) none)), (.atom .undef), (.atom .undef), (.ref (.sl 1 (.c 0) (.s k) none)), (.num (.int .i64 (.s i)))], []⟩ =>
      match K with
      | [⟨(.b32 a), .ro⟩, ⟨(.b8 u), .own⟩] => some ⟨a, u, oa, na, k, i⟩
      | _ => none
    | _ => none
def l18 : LoopP l18D where
  pat := ⟨[(.ref (.sl 0 (.s 0) (.s 0) none)), (.atom .undef), (.atom .undef), (.ref (.sl 1 (.c 0) (.s 0) none)), (.num (.int .i64 (.s 0)))], []⟩
  patH := [⟨(.b32 (Vec.zero 32 0)), .ro⟩, ⟨(.b8 (Vec.zero 8 0)), .own⟩]
  gh := [⟨.gen [], .own⟩]
  read := l18_rd
  st := l18_st
  next := l18_next
  rem := fun ⟨_, _, _, na, _, i⟩ => (na - i).toNat
  good := fun ⟨a, u, oa, na, k, i⟩ => decide (0 ≤ i ∧ i ≤ na ∧ oa + na ≤ a.n ∧ na ≤ 1000000 ∧ (k : Int) = 4 * i ∧ k = u.n)
  out := .exit 0
  fin := l18_st
theorem l18_round (a : Vec 32) (u : Vec 8) (oa na k : Nat) (i : Int) : ranAs ((l18.st ⟨a, u, oa, na, k, i⟩).2.length - l18.gh.length) (some [0, 3]) (l18.st (l18_next ⟨a, u, oa, na, k, i⟩)) (goL noSpec noLoop 18 0 (l18.st ⟨a, u, oa, na, k, i⟩).1 ⟨(l18.st ⟨a, u, oa, na, k, i⟩).2, big, [true], []⟩) = some (.normal, (l18.st (l18_next ⟨a, u, oa, na, k, i⟩)), [decide ((((-9223372036854775808) : Int) ≤ (i + 1) ∧ (i + 1) ≤ 9223372036854775807)), (true && (k == u.n)), decide (((k + 4) * 1) ≤ 1099511627776), decide ((oa + (((i) : Int).toNat * 1)) < a.n), (decide ((0 : Int) ≤ i) && decide (i < ((na : Nat) : Int))), decide ((oa + (((i) : Int).toNat * 1)) < a.n), (decide ((0 : Int) ≤ i) && decide (i < ((na : Nat) : Int))), decide ((oa + (((i) : Int).toNat * 1)) < a.n), (decide ((0 : Int) ≤ i) && decide (i < ((na : Nat) : Int))), decide ((oa + (((i) : Int).toNat * 1)) < a.n), (decide ((0 : Int) ≤ i) && decide (i < ((na : Nat) : Int))), (decide (i < ((na : Nat) : Int)) == true)]) := by kernel_rfl
theorem l18_end (a : Vec 32) (u : Vec 8) (oa na k : Nat) (i : Int) : ranAs ((l18.st ⟨a, u, oa, na, k, i⟩).2.length - l18.gh.length) none (l18.fin ⟨a, u, oa, na, k, i⟩) (goL noSpec noLoop 18 0 (l18.st ⟨a, u, oa, na, k, i⟩).1 ⟨(l18.st ⟨a, u, oa, na, k, i⟩).2, big, [false], []⟩) = some (l18.out, (l18.fin ⟨a, u, oa, na, k, i⟩), [(decide (i < ((na : Nat) : Int)) == false)]) := by kernel_rfl
set_option maxRecDepth 100000 in
theorem l18_read (F : Fr) (K : List Blk) (d : l18D) (h : l18.read F K = some d) : (F, K) = l18.st d := by
  replace h : l18_rd F K = some d := h
  unfold l18_rd at h
  split at h
  case h_2 => cases h
  split at h
  case h_2 => cases h
  injection h with h; subst h
  rfl
theorem l18_body : RunOk Try.prog noGlob (nv 18) (ntmpsIn Try.prog 18) (loopIn Try.prog 18 0) (goL noSpec noLoop 18 0) := goL_ok no_specs (no_loops _) 18 0 fine18 (by rw [show (loopsIn Try.prog 18).length = 1 by kernel_rfl]; omega)
theorem l18_toldL : LoopOk Try.prog noGlob (nv 18) (ntmpsIn Try.prog 18) (loopIn Try.prog 18 0) l18.T.told := by
  refine l18.ran l18_body (by intro k hk; simp [l18] at hk; subst hk; rfl) (by intro h; cases h) l18_read ?_ ?_
  · rintro ⟨a, u, oa, na, k, i⟩ kk hg hr
    have hg : 0 ≤ i ∧ i ≤ na ∧ oa + na ≤ a.n ∧ na ≤ 1000000 ∧ (k : Int) = 4 * i ∧ k = u.n := of_decide_eq_true hg
    have hr : (na - i).toNat = kk + 1 := hr
    have en : l18.next ⟨a, u, oa, na, k, i⟩ = l18_next ⟨a, u, oa, na, k, i⟩ := rfl
    rw [en]
    refine ⟨⟨[true], (some [0, 3]), _, l18_round a u oa na k i, ?_⟩, ?_, ?_, (show (l18.st (l18_next ⟨a, u, oa, na, k, i⟩)).2.length = 2 by kernel_rfl).trans (show (l18.st ⟨a, u, oa, na, k, i⟩).2.length = 2 by kernel_rfl).symm⟩
    · repeat' (refine all_true_cons ?_ ?_)
      all_goals first | exact all_true_nil | rfl | (simp only [Bool.and_eq_true, decide_eq_true_eq, beq_iff_eq, beq_true, beq_false, Bool.not_eq_true', decide_eq_false_iff_not, beq_eq_false_iff_ne, ne_eq, Bool.not_eq_false', bne_iff_ne, true_and, and_true] <;> omega)
    · have e : l18.good (l18_next ⟨a, u, oa, na, k, i⟩) = decide (0 ≤ (i + 1 : Int) ∧ (i + 1 : Int) ≤ na ∧ oa + na ≤ a.n ∧ na ≤ 1000000 ∧ ((k + 4 : Nat) : Int) = 4 * (i + 1 : Int) ∧ (k + 4 : Nat) = (u.app (Vec.of (low4 (a.l.getD (oa + i.toNat * 1) 0#32))) : Vec 8).n) := by kernel_rfl
      refine e.trans (decide_eq_true ?_)
      have : (u.app (Vec.of (low4 (a.l.getD (oa + i.toNat * 1) 0#32)))).n = u.n + 4 := rfl
      rw [this]; omega
    · have e : l18.rem (l18_next ⟨a, u, oa, na, k, i⟩) = ((na - (i + 1 : Int)).toNat) := by kernel_rfl
      refine e.trans ?_
      omega
  · rintro ⟨a, u, oa, na, k, i⟩ hg hr
    have hg : 0 ≤ i ∧ i ≤ na ∧ oa + na ≤ a.n ∧ na ≤ 1000000 ∧ (k : Int) = 4 * i ∧ k = u.n := of_decide_eq_true hg
    have hr : (na - i).toNat = 0 := hr
    refine ⟨[false], none, _, l18_end a u oa na k i, ?_⟩
    repeat' (refine all_true_cons ?_ ?_)
    all_goals first | exact all_true_nil | rfl | (simp only [Bool.and_eq_true, decide_eq_true_eq, beq_iff_eq, beq_true, beq_false, Bool.not_eq_true', decide_eq_false_iff_not, beq_eq_false_iff_ne, ne_eq, Bool.not_eq_false', bne_iff_ne, true_and, and_true] <;> omega)
def l18_spec : LSpec := l18.T.told
theorem l18_told : Told 18 0 l18_spec := l18_toldL.run
def l18s : FuncId → Nat → Option LSpec
  | 18, 3 => some l18_spec
  | _, _ => none
theorem l18s_len : (loopsIn Try.prog 18).length = 1 := by kernel_rfl
theorem l18s_ok (spec : FuncId → Option Eng.Spec) : LoopsOk (cfg spec l18s) noGlob := by
  refine LoopsOk.of fun f => ?_
  by_cases hf : f = 18
  · subst hf
    refine .inr ⟨by kernel_rfl, fun i hi sp hsp => ?_⟩
    have hi : i < (loopsIn Try.prog 18).length := hi
    rw [l18s_len] at hi
    match i, hi with
    | 0, _ =>
      have e : (firstRid (loopIn Try.prog 18 0)).bind (l18s 18) = some l18_spec := by kernel_rfl
      obtain rfl := Option.some.inj (e.symm.trans hsp)
      exact l18_told
  · refine .inl fun r => ?_
    show l18s f r = none
    unfold l18s
    split
    · exact absurd rfl hf
    · rfl
theorem l18_iter (a : Vec 32) (oa na : Nat) : ∀ m : Nat, iter l18_next m ⟨a, Vec.of [], oa, na, 0, 0⟩ = ⟨a, encV a oa m, oa, na, 4 * m, (m : Int)⟩
  | 0 => by
    have : encV a oa 0 = Vec.of [] := vec_ext rfl
    rw [this]; rfl
  | m + 1 => by
    rw [iter_succ, l18_iter a oa na m]
    show (⟨a, (encV a oa m).app (Vec.of (low4 (a.l.getD (oa + ((m : Int)).toNat * 1) 0#32))), oa, na, 4 * m + 4, (m : Int) + 1⟩ : l18D) = _
    rw [show ((m : Int)).toNat * 1 = m by omega, encV_succ]
    rfl
def e18 (a : Vec 32) (oa na : Nat) : l18D := iter l18_next (((na : Nat) : Int) - 0).toNat ⟨a, Vec.of [], oa, na, 0, 0⟩
theorem e18_eq (a : Vec 32) (oa na : Nat) : e18 a oa na = ⟨a, encV a oa na, oa, na, 4 * na, (na : Int)⟩ := by
  unfold e18
  rw [show (((na : Nat) : Int) - 0).toNat = na by omega, l18_iter]
structure c18D where
  a : Vec 32
  oa : Nat
  na : Nat
def c18_rd (a : List AV) (K : List Blk) : Option c18D :=
    match a with
    | [(.ref (.sl 0 (.s oa) (.s na) none))] =>
      match K with
      | [⟨(.b32 a), .ro⟩] => some ⟨a, oa, na⟩
      | _ => none
    | _ => none
def c18 : Ct c18D where
  pat := [(.ref (.sl 0 (.s 0) (.s 0) none))]
  patH := [⟨(.b32 (Vec.zero 32 0)), .ro⟩]
  read := c18_rd
  args := fun ⟨_, oa, na⟩ => [(.ref (.sl 0 (.s oa) (.s na) none))]
  heap := fun ⟨a, _, _⟩ => [⟨(.b32 a), .ro⟩]
  out := fun ⟨a, oa, na⟩ => [⟨(.b32 a), .ro⟩, ⟨(.b8 (encV a oa na)), .own⟩]
  val := fun ⟨_, _, na⟩ => (.ref (.sl 1 (.c 0) (.s (4 * na)) none))
  good := fun ⟨a, oa, na⟩ => decide (oa + na ≤ a.n ∧ na ≤ 1000000)
theorem c18_run (a : Vec 32) (oa na : Nat) : endsAs (c18.heap ⟨a, oa, na⟩).length (some [0, 1]) [⟨(.b32 a), .ro⟩, ⟨(.b8 ((e18 a oa na)).u), .own⟩] (.ref (.sl 1 (.c 0) (.s ((e18 a oa na)).k) none)) (goB noSpec l18s 18 (c18.args ⟨a, oa, na⟩) ⟨c18.heap ⟨a, oa, na⟩, big, [], []⟩) = some ([⟨(.b32 a), .ro⟩, ⟨(.b8 ((e18 a oa na)).u), .own⟩], (.ref (.sl 1 (.c 0) (.s ((e18 a oa na)).k) none)), [decide (((0 : Int) ≤ 0 ∧ ((0 : Int) ≤ ((na : Nat) : Int) ∧ ((oa + na) ≤ a.n ∧ (na ≤ 1000000 ∧ (((0 : Nat) : Int) = 0 ∧ (0 : Nat) = 0))))))]) := by kernel_rfl
set_option maxRecDepth 100000 in
theorem c18_read (a : List AV) (K : List Blk) (d : c18D) (h : c18.read a K = some d) : a = c18.args d ∧ K = c18.heap d := by
  replace h : c18_rd a K = some d := h
  unfold c18_rd at h
  split at h
  case h_2 => cases h
  split at h
  case h_2 => cases h
  injection h with h; subst h
  exact ⟨rfl, rfl⟩
theorem c18_ok : SpecOk Try.prog noGlob 18 c18.spec := by
  refine c18.ok (goB_ok no_specs (l18s_ok _)) c18_read ?_
  rintro ⟨a, oa, na⟩ hg
  have hg : oa + na ≤ a.n ∧ na ≤ 1000000 := of_decide_eq_true hg
  have eo : c18.out ⟨a, oa, na⟩ = [⟨(.b32 a), .ro⟩, ⟨(.b8 ((e18 a oa na)).u), .own⟩] := by
    rw [e18_eq]
    rfl
  have ev : c18.val ⟨a, oa, na⟩ = (.ref (.sl 1 (.c 0) (.s ((e18 a oa na)).k) none)) := by
    rw [e18_eq]
    rfl
  rw [eo, ev]
  refine ⟨[], (some [0, 1]), _, c18_run a oa na, ?_⟩
  repeat' (refine all_true_cons ?_ ?_)
  all_goals first | exact all_true_nil | rfl | (simp only [Bool.and_eq_true, decide_eq_true_eq, beq_iff_eq, beq_true, beq_false, Bool.not_eq_true', decide_eq_false_iff_not, beq_eq_false_iff_ne, ne_eq, Bool.not_eq_false', bne_iff_ne, true_and, and_true] <;> omega)
end Go.Proofs.Ytnonaagcnenbdaa

/- The reference's mix over bytes: contract. -/
import Derived.Test.YtnonaagcnenbdaaR1Mz
namespace Go.Proofs.Ytnonaagcnenbdaa
open Go.Eng
set_option linter.unusedSimpArgs false
set_option linter.unusedVariables false
set_option linter.unusedSectionVars false
variable [RowAddr]
def specs12 : FuncId → Option Eng.Spec
  | 20 => some c20.spec
  | _ => none
theorem specs12_ok : ∀ f sp, specs12 f = some sp → SpecOk Try.prog noGlob f sp := by
  intro f sp h
  unfold specs12 at h
  split at h
  · injection h with h; subst h; exact c20_ok
  · cases h
structure c12D where
  b : Vec 8
  nb : Nat
  r : Int
  N : Int
def c12_rd (a : List AV) (K : List Blk) : Option c12D :=
    match a with
    | [(.ref (.sl 0 (.c 0) (.s nb) none)), (.num (.int .i64 (.s r))), (.num (.int .i64 (.s N)))] =>
      match K with
      | [⟨(.b8 b), .ro⟩] => some ⟨b, nb, r, N⟩
      | _ => none
    | _ => none
def c12 : Ct c12D where
  pat := [(.ref (.sl 0 (.c 0) (.s 0) none)), (.num (.int .i64 (.s 0))), (.num (.int .i64 (.s 0)))]
  patH := [⟨(.b8 (Vec.zero 8 0)), .ro⟩]
  read := c12_rd
  args := fun ⟨_, nb, r, N⟩ => [(.ref (.sl 0 (.c 0) (.s nb) none)), (.num (.int .i64 (.s r))), (.num (.int .i64 (.s N)))]
  heap := fun ⟨b, _, _, _⟩ => [⟨(.b8 b), .ro⟩]
  out := fun ⟨b, nb, _, N⟩ => [⟨(.b8 b), .ro⟩, ⟨(.b8 (mixRef b nb N)), .own⟩]
  val := fun ⟨_, nb, _, _⟩ => (.ref (.sl 1 (.c 0) (.s nb) none))
  good := fun ⟨b, nb, r, N⟩ => decide (b.n = nb ∧ 1 ≤ r ∧ (nb : Int) = 128 * r ∧ r ≤ 1000 ∧ 2 ≤ N ∧ N ≤ 1000000 ∧ andV .i64 N (N - 1) = 0)
theorem c12_run (b : Vec 8) (nb : Nat) (r N : Int) : endsAs (c12.heap ⟨b, nb, r, N⟩).length (some [0, 1]) (c12.out ⟨b, nb, r, N⟩) (c12.val ⟨b, nb, r, N⟩) (goB specs12 noLoop 12 (c12.args ⟨b, nb, r, N⟩) ⟨c12.heap ⟨b, nb, r, N⟩, big, (List.replicate 40 false), []⟩) = some ((c12.out ⟨b, nb, r, N⟩), (c12.val ⟨b, nb, r, N⟩), [decide ((b.n = nb ∧ ((nb % 128) = 0 ∧ ((128 : Nat) ≤ nb ∧ (nb ≤ 64000000 ∧ ((2 : Int) ≤ N ∧ N ≤ 1000000)))))), ((!((andV .i64 N (N - 1)) == 0)) == false), (decide (N < 2) == false), (decide (N < 2) == false), decide ((0 : Int) ≤ (N - 1)), (decide (N < 2) == false), decide ((((-9223372036854775808) : Int) ≤ (N - 1) ∧ (N - 1) ≤ 9223372036854775807)), (decide (N < 2) == false), (decide (N < 2) == false), (decide (N < 2) == false), ((!((Int.tdiv ((nb : Nat) : Int) 128) == r)) == false), ((!((Int.tdiv ((nb : Nat) : Int) 128) == r)) == false), ((!((Int.tdiv ((nb : Nat) : Int) 128) == r)) == false), ((!((Int.tmod ((nb : Nat) : Int) 128) == 0)) == false), ((!((Int.tmod ((nb : Nat) : Int) 128) == 0)) == false), ((!((Int.tmod ((nb : Nat) : Int) 128) == 0)) == false), decide (((0 : Int) ≤ ((nb : Nat) : Int) ∧ ((0 : Int) < 128 ∧ ((nb : Nat) : Int) ≤ 9223372036854775807))), ((!((Int.tmod ((nb : Nat) : Int) 128) == 0)) == false), ((!((Int.tmod ((nb : Nat) : Int) 128) == 0)) == false), ((!((Int.tmod ((nb : Nat) : Int) 128) == 0)) == false), (decide (r < 1) == false), (decide (r < 1) == false), decide ((128 : Int) ≠ 0), (decide (r < 1) == false), (decide (r < 1) == false), (decide (r < 1) == false)]) := by kernel_rfl
set_option maxRecDepth 100000 in
theorem c12_read (a : List AV) (K : List Blk) (d : c12D) (h : c12.read a K = some d) : a = c12.args d ∧ K = c12.heap d := by
  replace h : c12_rd a K = some d := h
  unfold c12_rd at h
  split at h
  case h_2 => cases h
  split at h
  case h_2 => cases h
  injection h with h; subst h
  exact ⟨rfl, rfl⟩
theorem c12_ok : SpecOk Try.prog noGlob 12 c12.spec := by
  refine c12.ok (goB_ok specs12_ok (no_loops _)) c12_read ?_
  rintro ⟨b, nb, r, N⟩ hg
  have hg : b.n = nb ∧ 1 ≤ r ∧ (nb : Int) = 128 * r ∧ r ≤ 1000 ∧ 2 ≤ N ∧ N ≤ 1000000 ∧ andV .i64 N (N - 1) = 0 := of_decide_eq_true hg
  refine ⟨(List.replicate 40 false), (some [0, 1]), _, c12_run b nb r N, ?_⟩
  obtain ⟨g1, g2, g3, g4, g5, g6, g7⟩ := hg
  have t1 := Int.tdiv_eq_ediv_of_nonneg (b := 128) (show 0 ≤ (nb : Int) by omega)
  have t2 := Int.tmod_eq_emod_of_nonneg (b := 128) (show 0 ≤ (nb : Int) by omega)
  repeat' (refine all_true_cons ?_ ?_)
  all_goals first | exact all_true_nil | (simp only [g7, t1, t2, Bool.and_eq_true, decide_eq_true_eq, beq_iff_eq, beq_true, beq_false, Bool.not_eq_true', decide_eq_false_iff_not, beq_eq_false_iff_ne, ne_eq, Bool.not_eq_false', bne_iff_ne, true_and, and_true] <;> omega)
end Go.Proofs.Ytnonaagcnenbdaa

/- The package's mix of scrypt, called: contract. -/
import Derived.Test.YtnonaagcnenbdaaR1Sx
namespace Go.Proofs.Ytnonaagcnenbdaa
open Go.Eng
set_option linter.unusedSimpArgs false
set_option linter.unusedVariables false
set_option linter.unusedSectionVars false
variable [RowAddr]
def specsT : FuncId → Option Eng.Spec
  | 27 => some c27.spec
  | _ => none
theorem specsT_ok : ∀ f sp, specsT f = some sp → SpecOk Try.prog noGlob f sp := by
  intro f sp h
  unfold specsT at h
  split at h
  · injection h with h; subst h; exact c27_ok
  · cases h
/-- What scrypt's mix makes of bytes. -/
def smixV (b : Vec 8) (ob nb : Nat) (r N : Int) : Vec 8 := smixB (b.sub ob nb) (Vec.zero 32 (32 * N * r).toNat) (Vec.zero 32 (64 * r).toNat) (32 * N * r).toNat r N
structure c11D where
  b : Vec 8
  ob : Nat
  nb : Nat
  r : Int
  N : Int
def c11_rd (a : List AV) (K : List Blk) : Option c11D :=
    match a with
    | [(.ref (.sl 0 (.s ob) (.s nb) none)), (.num (.int .i64 (.s r))), (.num (.int .i64 (.s N)))] =>
      match K with
      | [⟨(.b8 b), .ro⟩] => some ⟨b, ob, nb, r, N⟩
      | _ => none
    | _ => none
def c11 : Ct c11D where
  pat := [(.ref (.sl 0 (.s 0) (.s 0) none)), (.num (.int .i64 (.s 0))), (.num (.int .i64 (.s 0)))]
  patH := [⟨(.b8 (Vec.zero 8 0)), .ro⟩]
  read := c11_rd
  args := fun ⟨_, ob, nb, r, N⟩ => [(.ref (.sl 0 (.s ob) (.s nb) none)), (.num (.int .i64 (.s r))), (.num (.int .i64 (.s N)))]
  heap := fun ⟨b, _, _, _, _⟩ => [⟨(.b8 b), .ro⟩]
  out := fun ⟨b, ob, nb, r, N⟩ => [⟨(.b8 b), .ro⟩, ⟨(.b8 (smixV b ob nb r N)), .own⟩]
  val := fun ⟨_, _, nb, _, _⟩ => (.ref (.sl 1 (.c 0) (.s nb) none))
  good := fun ⟨b, ob, nb, r, N⟩ => decide (1 ≤ r ∧ r ≤ 1000 ∧ 2 ≤ N ∧ N % 2 = 0 ∧ N ≤ 1000000 ∧ (nb : Int) = 128 * r ∧ ob + nb ≤ b.n ∧ 32 * N * r ≤ 1000000000)
theorem c11_run (b : Vec 8) (ob nb : Nat) (r N : Int) : endsAs (c11.heap ⟨b, ob, nb, r, N⟩).length (some [0, 1]) (c11.out ⟨b, ob, nb, r, N⟩) (c11.val ⟨b, ob, nb, r, N⟩) (goB specsT noLoop 11 (c11.args ⟨b, ob, nb, r, N⟩) ⟨c11.heap ⟨b, ob, nb, r, N⟩, big, [], []⟩) = some ((c11.out ⟨b, ob, nb, r, N⟩), (c11.val ⟨b, ob, nb, r, N⟩), [decide (((1 : Int) ≤ r ∧ (r ≤ 1000 ∧ ((2 : Int) ≤ N ∧ ((N % 2) = 0 ∧ (N ≤ 1000000 ∧ (((nb : Nat) : Int) = (128 * r) ∧ (nb ≤ nb ∧ ((N * (32 * r)) ≤ ((((((32 * N) * r)) : Int).toNat : Nat) : Int) ∧ (((((32 * N) * r)) : Int).toNat ≤ ((((32 * N) * r)) : Int).toNat ∧ (((((32 * N) * r)) : Int).toNat ≤ 1000000000 ∧ ((((((64 * r)) : Int).toNat : Nat) : Int) = (64 * r) ∧ (((64 * r)) : Int).toNat ≤ (((64 * r)) : Int).toNat)))))))))))), decide (((((64 * r)) : Int).toNat * 4) ≤ 1099511627776), ((decide ((0 : Int) ≤ (64 * r)) && decide ((64 * r) ≤ (64 * r))) && decide ((64 * r) ≤ 1099511627776)), decide ((((-9223372036854775808) : Int) ≤ (64 * r) ∧ (64 * r) ≤ 9223372036854775807)), decide ((((((32 * N) * r)) : Int).toNat * 4) ≤ 1099511627776), ((decide ((0 : Int) ≤ ((32 * N) * r)) && decide (((32 * N) * r) ≤ ((32 * N) * r))) && decide (((32 * N) * r) ≤ 1099511627776)), decide ((((-9223372036854775808) : Int) ≤ ((32 * N) * r) ∧ ((32 * N) * r) ≤ 9223372036854775807)), decide ((((-9223372036854775808) : Int) ≤ (32 * N) ∧ (32 * N) ≤ 9223372036854775807)), decide ((nb * 1) ≤ 1099511627776), decide ((ob + nb) ≤ b.n)]) := by kernel_rfl
set_option maxRecDepth 100000 in
theorem c11_read (a : List AV) (K : List Blk) (d : c11D) (h : c11.read a K = some d) : a = c11.args d ∧ K = c11.heap d := by
  replace h : c11_rd a K = some d := h
  unfold c11_rd at h
  split at h
  case h_2 => cases h
  split at h
  case h_2 => cases h
  injection h with h; subst h
  exact ⟨rfl, rfl⟩
theorem c11_ok : SpecOk Try.prog noGlob 11 c11.spec := by
  refine c11.ok (goB_ok specsT_ok (no_loops _)) c11_read ?_
  rintro ⟨b, ob, nb, r, N⟩ hg
  have hg : 1 ≤ r ∧ r ≤ 1000 ∧ 2 ≤ N ∧ N % 2 = 0 ∧ N ≤ 1000000 ∧ (nb : Int) = 128 * r ∧ ob + nb ≤ b.n ∧ 32 * N * r ≤ 1000000000 := of_decide_eq_true hg
  refine ⟨[], (some [0, 1]), _, c11_run b ob nb r N, ?_⟩
  have hp : 0 ≤ 32 * N * r := Int.mul_nonneg (by omega) (by omega)
  have he : N * (32 * r) = 32 * N * r := by rw [Int.mul_comm 32 N, Int.mul_assoc]
  repeat' (refine all_true_cons ?_ ?_)
  all_goals first | exact all_true_nil | (simp only [he, Bool.and_eq_true, decide_eq_true_eq, beq_iff_eq, beq_true, beq_false, Bool.not_eq_true', decide_eq_false_iff_not, beq_eq_false_iff_ne, ne_eq, Bool.not_eq_false', bne_iff_ne, true_and, and_true] <;> omega)
end Go.Proofs.Ytnonaagcnenbdaa

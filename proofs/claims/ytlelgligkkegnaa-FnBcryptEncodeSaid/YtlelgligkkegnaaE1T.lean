/- bcrypt's letters: the reference, whole. -/
import Derived.Test.YtlelgligkkegnaaE1S
namespace Go.Proofs.Ytlelgligkkegnaa
open Go.Eng
set_option linter.unusedSimpArgs false
set_option linter.unusedVariables false
/-- The first letters, six bits each. -/
def spW (b : Vec 8) (ob nb : Nat) : Nat → Vec 8
  | 0 => Vec.zero 8 0
  | m + 1 => (spW b ob nb m).app (Vec.of [strAt lett (vv b ob nb (m : Int) 6)])
theorem spW_n (b : Vec 8) (ob nb : Nat) : ∀ m : Nat, (spW b ob nb m).n = m
  | 0 => rfl
  | m + 1 => by
    show (spW b ob nb m).n + 1 = m + 1
    rw [spW_n b ob nb m]
theorem o7_it (b : Vec 8) (ob nb : Nat) : ∀ m : Nat, iter o7_next m ⟨b, Vec.zero 8 0, ob, nb, 0, 0⟩ = ⟨b, spW b ob nb m, ob, nb, m, (m : Int)⟩
  | 0 => rfl
  | m + 1 => by
    rw [iter_succ, o7_it b ob nb m]
    show (⟨b, (B7 b (spW b ob nb m) ob nb m (m : Int)).w.app (Vec.of [strAt lett (B7 b (spW b ob nb m) ob nb m (m : Int)).v]), (B7 b (spW b ob nb m) ob nb m (m : Int)).ob, (B7 b (spW b ob nb m) ob nb m (m : Int)).nb, (B7 b (spW b ob nb m) ob nb m (m : Int)).kw + 1, (B7 b (spW b ob nb m) ob nb m (m : Int)).i + 1⟩ : o7D) = _
    rw [B7_eq]
    show (⟨b, spW b ob nb (m + 1), ob, nb, m + 1, (m : Int) + 1⟩ : o7D) = _
    rw [show ((m + 1 : Nat) : Int) = (m : Int) + 1 by omega]
def O7 (b : Vec 8) (ob nb : Nat) : o7D := iter o7_next ((8 * nb + 5) / 6 - (0 : Int).toNat) ⟨b, Vec.zero 8 0, ob, nb, 0, 0⟩
theorem O7_eq (b : Vec 8) (ob nb : Nat) : O7 b ob nb = ⟨b, spW b ob nb ((8 * nb + 5) / 6), ob, nb, (8 * nb + 5) / 6, (((8 * nb + 5) / 6 : Nat) : Int)⟩ := o7_it b ob nb _
structure c7D where
  b : Vec 8
  ob : Nat
  nb : Nat
def c7_rd (a : List AV) (K : List Blk) : Option c7D :=
    match a with
    | [(.ref (.sl 0 (.s ob) (.s nb) none))] =>
      match K with
      | [⟨(.b8 b), .ro⟩] => some ⟨b, ob, nb⟩
      | _ => none
    | _ => none
def c7 : Ct c7D where
  pat := [(.ref (.sl 0 (.s 0) (.s 0) none))]
  patH := [⟨(.b8 (Vec.zero 8 0)), .ro⟩]
  read := c7_rd
  args := fun ⟨_, ob, nb⟩ => [(.ref (.sl 0 (.s ob) (.s nb) none))]
  heap := fun ⟨b, _, _⟩ => [⟨(.b8 b), .ro⟩]
  out := fun ⟨b, ob, nb⟩ => [⟨(.b8 b), .ro⟩, ⟨(.b8 (spW b ob nb ((8 * nb + 5) / 6))), .own⟩]
  val := fun ⟨_, _, nb⟩ => (.ref (.sl 1 (.c 0) (.s ((8 * nb + 5) / 6)) none))
  good := fun ⟨b, ob, nb⟩ => decide (ob + nb ≤ b.n ∧ nb ≤ 100000)
theorem c7_run (b : Vec 8) (ob nb : Nat) : endsAs (c7.heap ⟨b, ob, nb⟩).length (some [0, 1]) [⟨(.b8 b), .ro⟩, ⟨(.b8 ((O7 b ob nb)).w), .own⟩] (.ref (.sl 1 (.c 0) (.s ((O7 b ob nb)).kw) none)) (goB noSpec o7s 7 (c7.args ⟨b, ob, nb⟩) ⟨c7.heap ⟨b, ob, nb⟩, big, [], []⟩) = some ([⟨(.b8 b), .ro⟩, ⟨(.b8 ((O7 b ob nb)).w), .own⟩], (.ref (.sl 1 (.c 0) (.s ((O7 b ob nb)).kw) none)), [decide (((0 : Int) ≤ 0 ∧ ((0 : Nat) = 0 ∧ (((0 : Nat) : Int) = 0 ∧ ((0 : Nat) ≤ 0 ∧ ((0 : Int) ≤ 200000 ∧ ((ob + nb) ≤ b.n ∧ nb ≤ 100000)))))))]) := by kernel_rfl
set_option maxRecDepth 100000 in
theorem c7_read (a : List AV) (K : List Blk) (d : c7D) (h : c7.read a K = some d) : a = c7.args d ∧ K = c7.heap d := by
  replace h : c7_rd a K = some d := h
  unfold c7_rd at h
  split at h
  case h_2 => cases h
  split at h
  case h_2 => cases h
  injection h with h; subst h
  exact ⟨rfl, rfl⟩
theorem c7_ok : SpecOk Try.prog noGlob 7 c7.spec := by
  refine c7.ok (goB_ok no_specs (o7s_ok _)) c7_read ?_
  rintro ⟨b, ob, nb⟩ hg
  have hg : ob + nb ≤ b.n ∧ nb ≤ 100000 := of_decide_eq_true hg
  have eo : c7.out ⟨b, ob, nb⟩ = [⟨(.b8 b), .ro⟩, ⟨(.b8 ((O7 b ob nb)).w), .own⟩] := by
    rw [O7_eq]
    rfl
  have ev : c7.val ⟨b, ob, nb⟩ = (.ref (.sl 1 (.c 0) (.s ((O7 b ob nb)).kw) none)) := by
    rw [O7_eq]
    rfl
  rw [eo, ev]
  refine ⟨[], (some [0, 1]), _, c7_run b ob nb, ?_⟩
  have hz := O7_eq b ob nb
  repeat' (refine all_true_cons ?_ ?_)
  all_goals first | exact all_true_nil | rfl | (simp only [hz, Bool.and_eq_true, decide_eq_true_eq, beq_iff_eq, beq_true, beq_false, Bool.not_eq_true', decide_eq_false_iff_not, beq_eq_false_iff_ne, ne_eq, Bool.not_eq_false', bne_iff_ne, true_and, and_true] <;> omega)
end Go.Proofs.Ytlelgligkkegnaa

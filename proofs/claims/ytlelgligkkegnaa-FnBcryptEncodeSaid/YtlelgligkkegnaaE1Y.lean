/- bcrypt's letters: readLetters. -/
import Derived.Test.YtlelgligkkegnaaE1P4
namespace Go.Proofs.Ytlelgligkkegnaa
open Go.Eng
set_option linter.unusedSimpArgs false
set_option linter.unusedVariables false
theorem dots (t : Nat) (ht : t < 2) : (full 1 (Vec.of [0#8]) 0 1).l.getD (4 * 0 + t) 0#8 = 46#8 := by
  rw [full_six 1 (Vec.of [0#8]) 0 1 0 t rfl (by omega) (by omega)]
  have h : ∀ i, byt (Vec.of [0#8]) 0 1 i = 0 := by
    intro i
    unfold byt
    split
    · have : i = 0 := by omega
      subst this
      rfl
    · rfl
  rw [h, h, h]
  match t, ht with
  | 0, _ => decide
  | 1, _ => decide
def spY : FuncId → Option Eng.Spec
  | 11 => some c11_1.spec
  | 6 => some spEqual
  | _ => none
theorem spY_ok : ∀ f sp, spY f = some sp → SpecOk Try.prog noGlob f sp := by
  intro f sp h
  unfold spY at h
  split at h
  · injection h with h; subst h; exact c11_1_ok
  · injection h with h; subst h; exact okEqual
  · cases h
structure c4D where
  unit : Unit := ()
def c4_rd (a : List AV) (K : List Blk) : Option c4D :=
    match a with
    | [] =>
      match K with
      | [] => some ⟨()⟩
      | _ => none
    | _ => none
def c4 : Ct c4D where
  pat := []
  patH := []
  read := c4_rd
  args := fun ⟨_⟩ => []
  heap := fun ⟨_⟩ => []
  out := fun ⟨_⟩ => []
  val := fun ⟨_⟩ => (.atom (.bool (.c true)))
  good := fun ⟨_⟩ => decide (True)
theorem c4_run  : endsAs (c4.heap ⟨()⟩).length (some []) (c4.out ⟨()⟩) (c4.val ⟨()⟩) (goB spY noLoop 4 (c4.args ⟨()⟩) ⟨c4.heap ⟨()⟩, big, [], []⟩) = some ((c4.out ⟨()⟩), (c4.val ⟨()⟩), [(eqCond (full 1 (Vec.of [0#8]) 0 1) (Vec.of [46#8, 46#8]) 0 0 (((3 / 3) * 4) - 2) 2), decide (((1 : Nat) ≤ 1 ∧ ((1 : Nat) ≤ 1 ∧ ((1 % 3) = 1 ∧ (1 : Nat) ≤ 100000))))]) := by kernel_rfl
set_option maxRecDepth 100000 in
theorem c4_read (a : List AV) (K : List Blk) (d : c4D) (h : c4.read a K = some d) : a = c4.args d ∧ K = c4.heap d := by
  replace h : c4_rd a K = some d := h
  unfold c4_rd at h
  split at h
  case h_2 => cases h
  split at h
  case h_2 => cases h
  injection h with h; subst h
  exact ⟨rfl, rfl⟩
theorem c4_ok : SpecOk Try.prog noGlob 4 c4.spec := by
  refine c4.ok (goB_ok spY_ok (no_loops _)) c4_read ?_
  rintro ⟨_⟩ hg
  have hg : True := of_decide_eq_true hg
  refine ⟨[], (some []), _, c4_run , ?_⟩
  refine all_true_cons ?_ (all_true_cons ?_ all_true_nil)
  · refine decide_eq_true ⟨by omega, by rw [full_n]; omega, by show 0 + 2 ≤ 2; omega, by omega, fun j hj => ?_⟩
    have hj : j < 2 := by omega
    have := dots j hj
    rw [show 4 * 0 + j = 0 + j by omega] at this
    rw [this]
    match j, hj with
    | 0, _ => rfl
    | 1, _ => rfl
  · exact decide_eq_true ⟨by omega, by omega, by omega, by omega⟩
end Go.Proofs.Ytlelgligkkegnaa

/- What holds over some variables holds over more; blocks one behind the other. -/
import Derived.Test.YtaklljigoajpcaaDoorR5Ok
import Derived.Test.YtaklljigoajpcaaDoorR4Md
import Derived.Test.YtaklljigoajpcaaDoorR4Once
import Derived.Test.YtaklljigoajpcaaDoorR3Rip
import Derived.Test.YtaklljigoajpcaaDoorR3Once
namespace Go.Proofs.YtaklljigoajpcaaDoor.B
open Go.Eng
set_option linter.unusedSimpArgs false
set_option linter.unusedVariables false
set_option linter.unusedSectionVars false
section
variable [RowAddr]
theorem spec_wide {P : Program} {G G' : Nat → Option (List AV)} (hG : ∀ g l, G g = some l → G' g = some l) {f : FuncId} {sp : Eng.Spec} (h : SpecOk P G f sp) : SpecOk P G' f sp := by
  intro args H dec r hr
  obtain ⟨h1, h2⟩ := h args H dec r hr
  refine ⟨h1, fun hc β w vs ha hH => ?_⟩
  obtain ⟨h3, h4⟩ := h2 hc β w vs ha ⟨hH.blk, hH.dis, hH.dom, fun g l hg => hH.glob g l (hG g l hg), fun b k L hb hk hL g l hg => hH.apart b k L hb hk hL g l (hG g l hg)⟩
  refine ⟨h3, h4.mono fun e w' ⟨u, β', he, hv, hH', hs⟩ => ⟨u, β', he, hv, ⟨hH'.blk, hH'.dis, hH'.dom, fun g l hg => ?_, fun b k L hb hk hL g l hg e => ?_⟩, hs⟩⟩
  · obtain ⟨g1, g2⟩ := hH.glob g l hg
    refine ⟨Nat.lt_of_lt_of_le g1 hs.size, fun i x hx => ?_⟩
    obtain ⟨v, g3, g4⟩ := g2 i x hx
    refine ⟨v, ?_, g4⟩
    obtain ⟨b, hb⟩ := gAt_eq g
    have hno : ¬ Own β H (gIx g) := by
      rintro ⟨b, k, L, k1, k2, k3, k4⟩
      exact hH.apart b k L k1 k2 k3 g l hg k4.symm
    have hk := hs.kept (gIx g) g1 hno
    rw [hb] at g3 ⊢
    rw [← g3]
    unfold World.cell? at'
    simp only [hk]
  · have hlt : gIx g < w.heap.size := (hH.glob g l hg).1
    obtain ⟨b', k', L', k1, k2, k3, k4⟩ := hs.own (gIx g) hlt ⟨b, k, L, hb, hk, hL, e.symm⟩
    exact hH.apart b' k' L' k1 k2 k3 g l hg k4.symm
theorem more_rip : ∀ g l, Go.Proofs.YtaklljigoajpcaaDoor.noGlob g = some l → noGlob g = some l := by
  intro g l h
  match g, h with
  | 0, h => exact h
  | 1, h => cases h
  | 2, h => exact h
  | 3, h => cases h
  | 4, h => exact h
  | 5, h => cases h
  | 6, h => exact h
  | g + 7, h => cases h
theorem more_md : ∀ g l, M.noGlob g = some l → noGlob g = some l := by
  intro g l h
  match g, h with
  | 0, h => cases h
  | 1, h => cases h
  | 2, h => cases h
  | 3, h => cases h
  | 4, h => cases h
  | 5, h => cases h
  | 6, h => cases h
  | 7, h => cases h
  | 8, h => exact h
  | 9, h => exact h
  | 10, h => exact h
  | 11, h => exact h
  | 12, h => exact h
  | 13, h => exact h
  | 14, h => exact h
  | 15, h => exact h
  | 16, h => exact h
  | 17, h => exact h
  | g + 18, h => cases h
theorem ok14 : SpecOk Tryd.prog noGlob 14 M.c14.spec := spec_wide more_md M.c14_ok
theorem ok13 : SpecOk Tryd.prog noGlob 13 M.sp13 := spec_wide more_md M.ok13
theorem ok16 : SpecOk Tryd.prog noGlob 16 c16.spec := spec_wide more_rip c16_ok
theorem ok8 : SpecOk Tryd.prog noGlob 8 sp8 := spec_wide more_rip Go.Proofs.YtaklljigoajpcaaDoor.ok8
structure c18D where
  u : Vec 8
  v : Vec 8
  o : Nat
  na : Nat
  p : Nat
  nb : Nat
def c18_rd (a : List AV) (K : List Blk) : Option c18D :=
    match a with
    | [(.ref (.sl 0 (.s o) (.s na) none)), (.ref (.sl 1 (.s p) (.s nb) none))] =>
      match K with
      | [⟨(.b8 u), .ro⟩, ⟨(.b8 v), .ro⟩] => some ⟨u, v, o, na, p, nb⟩
      | _ => none
    | _ => none
def c18 : Ct c18D where
  pat := [(.ref (.sl 0 (.s 0) (.s 0) none)), (.ref (.sl 1 (.s 0) (.s 0) none))]
  patH := [⟨(.b8 (Vec.zero 8 0)), .ro⟩, ⟨(.b8 (Vec.zero 8 0)), .ro⟩]
  read := c18_rd
  args := fun ⟨_, _, o, na, p, nb⟩ => [(.ref (.sl 0 (.s o) (.s na) none)), (.ref (.sl 1 (.s p) (.s nb) none))]
  heap := fun ⟨u, v, _, _, _, _⟩ => [⟨(.b8 u), .ro⟩, ⟨(.b8 v), .ro⟩]
  out := fun ⟨u, v, o, na, p, nb⟩ => [⟨(.b8 u), .ro⟩, ⟨(.b8 v), .ro⟩, ⟨(.b8 (((u.sub o na)).app (v.sub p nb))), .own⟩]
  val := fun ⟨_, _, _, na, _, nb⟩ => (.ref (.sl 2 (.c 0) (.s (na + nb)) none))
  good := fun ⟨u, v, o, na, p, nb⟩ => decide (o + na ≤ u.n ∧ p + nb ≤ v.n ∧ na + nb ≤ 1000000000000)
theorem c18_run (u v : Vec 8) (o na p nb : Nat) : endsAs (c18.heap ⟨u, v, o, na, p, nb⟩).length (some [0, 1, 3]) (c18.out ⟨u, v, o, na, p, nb⟩) (c18.val ⟨u, v, o, na, p, nb⟩) (goB noSpec noLoop 18 (c18.args ⟨u, v, o, na, p, nb⟩) ⟨c18.heap ⟨u, v, o, na, p, nb⟩, big, [], []⟩) = some ((c18.out ⟨u, v, o, na, p, nb⟩), (c18.val ⟨u, v, o, na, p, nb⟩), [(true && (na == na)), decide (((na + nb) * 1) ≤ 1099511627776), decide ((p + nb) ≤ v.n), decide ((na * 1) ≤ 1099511627776), decide ((o + na) ≤ u.n)]) := by kernel_rfl
set_option maxRecDepth 100000 in
theorem c18_read (a : List AV) (K : List Blk) (d : c18D) (h : c18.read a K = some d) : a = c18.args d ∧ K = c18.heap d := by
  replace h : c18_rd a K = some d := h
  unfold c18_rd at h
  split at h
  case h_2 => cases h
  split at h
  case h_2 => cases h
  injection h with h; subst h
  exact ⟨rfl, rfl⟩
theorem c18_ok : SpecOk Tryd.prog noGlob 18 c18.spec := by
  refine c18.ok (goB_ok no_specs (no_loops _)) c18_read ?_
  rintro ⟨u, v, o, na, p, nb⟩ hg
  have hg : o + na ≤ u.n ∧ p + nb ≤ v.n ∧ na + nb ≤ 1000000000000 := of_decide_eq_true hg
  refine ⟨[], (some [0, 1, 3]), _, c18_run u v o na p nb, ?_⟩
  repeat' (refine all_true_cons ?_ ?_)
  all_goals first | exact all_true_nil | rfl | (simp only [Bool.and_eq_true, decide_eq_true_eq, beq_iff_eq, beq_true, beq_false, Bool.not_eq_true', decide_eq_false_iff_not, beq_eq_false_iff_ne, ne_eq, Bool.not_eq_false', bne_iff_ne, true_and, and_true] <;> omega)
end
end Go.Proofs.YtaklljigoajpcaaDoor.B

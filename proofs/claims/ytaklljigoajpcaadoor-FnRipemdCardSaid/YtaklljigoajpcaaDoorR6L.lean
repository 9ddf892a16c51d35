/- FnRipemd: of all bytes: the package's digest is the reference's; more than 2^20 bytes: the law says true. No condition but that the four tables of package ripemd160 hold what the program's text lays in them, which the card ties. -/
import Derived.Test.YtaklljigoajpcaaDoorR6Eq
import Derived.Test.YtaklljigoajpcaaDoorR6Q
import Derived.Test.YtaklljigoajpcaaDoorR3Glob
import Derived.Test.YtaklljigoajpcaaDoorR3Once
import Derived.Test.YtaklljigoajpcaaDoorRows
import Derived.Test.YtaklljigoajpcaaDoorCards
import Derived.Test.YtaklljigoajpcaaDoorTie
import Derived.WalkKit
import Derived.ProofKit
import Derived.OpenShut
import Derived.SevenTiedAt
namespace Go.Proofs.YtaklljigoajpcaaDoor.D.ripemd
open Go.ChangeShapes Go.WideShapes Go.ChangeAt Go.RowKit
open Go.Eng
set_option linter.unusedSimpArgs false
set_option linter.unusedVariables false
set_option linter.unusedSectionVars false
section
variable [RowAddr]
theorem ok8D : SpecOk Tryd.prog noGlob 8 sp8 := B.spec_wide more_rip Go.Proofs.YtaklljigoajpcaaDoor.ok8
def specs3 : FuncId → Option Eng.Spec
  | 10 => some c10.spec
  | 11 => some c11.spec
  | 12 => some c12.spec
  | 9 => some spEq
  | 8 => some sp8
  | _ => none
theorem specs3_ok : ∀ f sp, specs3 f = some sp → SpecOk Tryd.prog noGlob f sp := by
  intro f sp h
  unfold specs3 at h
  split at h
  · injection h with h; subst h; exact ok10
  · injection h with h; subst h; exact c11_ok
  · injection h with h; subst h; exact ok12
  · injection h with h; subst h; exact okEq
  · injection h with h; subst h; exact ok8D
  · cases h
def same (l : Vec 8) : Bool := eqCond (Vec.of (bytesOf (digH l 0 l.n))) (Vec.of (bytesOf (refH l 0 l.n))) 0 0 20 20
theorem runA (l : Vec 8) : verdict (goB specs3 noLoop 3 [.sl 0 (.c 0) (.s l.n) none] ⟨[⟨.b8 l, .ro⟩], big, [true], []⟩) = some (true, [(decide ((2147483647 : Int) < ((l.n : Nat) : Int)) == true)]) := by kernel_rfl
theorem runB (l : Vec 8) : verdict (goB specs3 noLoop 3 [.sl 0 (.c 0) (.s l.n) none] ⟨[⟨.b8 l, .ro⟩], big, [false, true], []⟩) = some (true, [(decide ((1048576 : Int) < ((l.n : Nat) : Int)) == true), (decide ((2147483647 : Int) < ((l.n : Nat) : Int)) == false)]) := by kernel_rfl
theorem runE (l : Vec 8) : verdict (goB specs3 noLoop 3 [.sl 0 (.c 0) (.s l.n) none] ⟨[⟨.b8 l, .ro⟩], big, [false, false], []⟩) = some (true, [(same l), decide (((0 + l.n) ≤ l.n ∧ l.n ≤ 10000000000)), decide (True), decide (((0 + l.n) ≤ l.n ∧ l.n ≤ 1099511627776)), (decide ((1048576 : Int) < ((l.n : Nat) : Int)) == false), (decide ((2147483647 : Int) < ((l.n : Nat) : Int)) == false)]) := by kernel_rfl
theorem same_true (l : Vec 8) (hn : l.n ≤ 1099511627776) : same l = true := by
  unfold same
  rw [dig_ref l hn]
  exact decide_eq_true ⟨rfl, Nat.le_refl _, Nat.le_refl _, by omega, fun _ _ => rfl⟩
theorem glob_d {W : World} (hL : laidMet Tryd.prog laidR W) : ∀ g l, noGlob g = some l → gIx g < W.heap.size ∧ ∀ (i : Nat) x, l[i]? = some x → ∃ v, W.cell? (gAt g i) = some v ∧ VRel (fun _ => none) x v := by
  intro g l hg
  match g, hg with
  | 0, hg => exact glob_ok hL 0 l hg
  | 1, hg => cases hg
  | 2, hg => exact glob_ok hL 2 l hg
  | 3, hg => cases hg
  | 4, hg => exact glob_ok hL 4 l hg
  | 5, hg => cases hg
  | 6, hg => exact glob_ok hL 6 l hg
  | g + 7, hg => cases hg
theorem walk {W0 : World} (hL : laidMet Tryd.prog laidR W0) {v1 : Value} (l : Vec 8) (w1 : SlOk W0 v1 (.b8 l)) (_ : l.n ≤ maxLen) :
    Calls Tryd.prog 3 #[v1] W0 fun e W' => e = .returned (.bool true) ∧ Still W0 W' := by
  have hb := goB_ok specs3_ok (no_loops specs3)
  have hx : ∀ p ∈ [(v1, Eng.Data.b8 l)], SlOk W0 p.1 p.2 := ss_cons w1 ss_nil
  have args2 : ∀ β, (∀ (i : Nat) v d, [(v1, Eng.Data.b8 l)][i]? = some (v, d) → VRel β (.sl i (.c 0) (.s d.len) none) v) → LRel β [.sl 0 (.c 0) (.s l.n) none] [v1] :=
    fun β h => LRel.cons (h 0 v1 _ rfl) (LRel.nil β)
  by_cases hA : 2147483647 < l.n
  · refine law_runG hb _ (glob_d hL) hx (runA l) ?_ args2
    repeat' (refine all_true_cons ?_ ?_)
    all_goals first | exact all_true_nil | rfl | (simp only [beq_true, beq_false, decide_eq_true_eq, Bool.not_eq_true', decide_eq_false_iff_not, beq_eq_false_iff_ne, ne_eq, Bool.not_eq_false', beq_iff_eq, Bool.and_eq_true, true_and, and_true] <;> omega)
  by_cases hC : 1048576 < l.n
  · refine law_runG hb _ (glob_d hL) hx (runB l) ?_ args2
    repeat' (refine all_true_cons ?_ ?_)
    all_goals first | exact all_true_nil | rfl | (simp only [beq_true, beq_false, decide_eq_true_eq, Bool.not_eq_true', decide_eq_false_iff_not, beq_eq_false_iff_ne, ne_eq, Bool.not_eq_false', beq_iff_eq, Bool.and_eq_true, true_and, and_true] <;> omega)
  refine law_runG hb _ (glob_d hL) hx (runE l) ?_ args2
  have hs := same_true l (by omega)
  repeat' (refine all_true_cons ?_ ?_)
  all_goals first | exact hs | exact all_true_nil | rfl | (simp only [beq_true, beq_false, decide_eq_true_eq, Bool.not_eq_true', decide_eq_false_iff_not, beq_eq_false_iff_ne, ne_eq, Bool.not_eq_false', beq_iff_eq, Bool.and_eq_true, true_and, and_true] <;> omega)
end
theorem own : ownKnob Tryd.prog.godebug = none := by kernel_rfl
theorem laidOut : laidOutB Tryd.prog = true := by kernel_rfl
theorem read22 : Tryd.prog.readableRec 22 = true ∧ 22 < Tryd.prog.types.size := ⟨by kernel_rfl, of_decide_eq_true (by kernel_rfl)⟩
theorem cells5 : Tryd.prog.cellsOf 5 = 1 := by kernel_rfl
set_option maxRecDepth 100000 in
theorem contract (H : Type) (enc : TypeId × Value → H) (W : World) (base : Nat) (args : Array Value) (ds gs : List (DataW H)) (before : List MemPlace)
    (hval : ∀ (j : Nat) t v, Tryd.f3.params[j]? = some t → args[j]? = some v → Value.okWide Tryd.prog W .any base t v)
    (hL : laidMet Tryd.prog laidR W)
    (hW : DataW.Whole enc Tryd.prog Tryd.f3.params.toList Rows.fnRipemdSpec.vars false W args.toList ds gs before) :
    Calls Tryd.prog 3 args W fun e W' => ∃ v, e = .returned v ∧ Rows.fnRipemdSpec.post enc Tryd.prog Tryd.f3 false true false false W args v W' := by
  have hW' := hW
  obtain ⟨p, q, hA0, hV, rfl, hfz, hnd⟩ := hW
  have hA : DataW.TrodAll enc Tryd.prog W 0 (fun _ => true) true Tryd.f3.params.toList args.toList ds p := hA0
  rw [Tryd.params3] at hA hval
  obtain ⟨v0, vs0, d0, ds0, p0, q0, hargs, rfl, rfl, h0, r0⟩ := trodAll_cons hA
  obtain ⟨rfl, rfl, rfl⟩ := trodAll_nil r0
  obtain rfl : args = #[v0] := by cases args; simp_all
  letI : RowAddr := ⟨fun _ => (0, 0)⟩
  obtain ⟨l0, w0, m0⟩ := open_sl8 Tryd.underlying22 Tryd.underlying5 cells5 (hval 0 22 v0 rfl rfl) h0
  refine (walk hL l0 w0 m0).mono fun e W' ⟨he, hs⟩ => ?_
  subst he
  exact ⟨_, rfl, post_of_still (tb := 4) hW' rfl rfl laidOut (by
    intro t ht
    rw [Tryd.params3] at ht
    have : t = 22 := by simpa using ht
    subst this
    · exact read22
    ) (by kernel_rfl) Tryd.underlying4 hs⟩
theorem laid_plain {w : World} (h : laidMetH Tryd.prog laidR w) : laidMet Tryd.prog laidR w := h
set_option maxRecDepth 100000 in
theorem lifted (os : Os) (started : os.Started) (H : Type) (enc : TypeId × Value → H) :
    ReturnsInHanded {} Tryd.checked os 3 .any (fun w args => (Rows.fnRipemdSpec.pre enc Tryd.prog Tryd.f3 [] false w args ∧ laidMetH Tryd.prog laidR w) ∧ sizedMet enc Tryd.prog Tryd.f3 (OpenSpec.ofChange Rows.fnRipemdSpec) false w args)
      (Rows.fnRipemdSpec.post enc Tryd.prog Tryd.f3 false true false false) := by
  refine returnsInHanded_of_change_and (C := Tryd.checked) (X := fun w _ => laidMetH Tryd.prog laidR w) (fun _ _ _ hh h => h.of_heap hh) own started (by kernel_rfl) Tryd.func3
    (ChangeSpec.witness_shaped (enc := enc) (C := Tryd.checked) (os := os) (X := fun w _ => laidMetH Tryd.prog laidR w) false (laidWorld os) #[.slice none 0 0] 8 rfl (World.shaped_of_RefB (by kernel_rfl) (by kernel_rfl)) (by kernel_rfl) (by kernel_rfl) (by kernel_rfl) (laidWorld_met os _)) ?_
  intro W base args ds gs before hval hW _ _ hL _
  exact contract H enc W base args ds gs before hval (laid_plain hL) hW
theorem holds : Rows.FnRipemdSaid :=
  OpenClaim.holds_of_wide 3 Tryd.f3 rfl rfl rfl rfl rfl rfl rfl ⟨rfl, rfl, rfl, rfl, rfl⟩ rfl rfl rfl rfl rfl (by kernel_rfl) Tryd.func3 (by kernel_rfl)
    (of_decide_eq_true (by kernel_rfl)) (by unfold Func.isWrapper; first | (rw [if_pos (by decide +kernel)]; kernel_rfl) | (rw [if_neg (by decide +kernel)]; exact ⟨rfl, rfl⟩))
    (fun os started H enc _ => lifted os started H enc)
theorem card_holds : Rows.FnRipemdCardSaid :=
  Claim7.holds_tied_plain_at .later [] [.data, .data, .data, .data] true (true, "29816d1f0eb4f00cb746d9b64e0df4ee5501f78b92cd8e10c20a87834921c875") false
    holds (fun _ h => by cases h) (by kernel_rfl) (fun _ h => by cases h) fnRipemd_row_tie rfl ⟨rfl, rfl⟩ (by kernel_rfl) rfl
    (fun f fn hf hfn => by
      obtain rfl : f = 3 := Option.some.inj ((show Tryd.prog.funcNamed "pub-wardkeep/laws.FnRipemd" = some 3 by kernel_rfl).symm.trans hf) |>.symm
      obtain rfl : fn = Tryd.f3 := (Option.some.inj (Tryd.func3.symm.trans hfn)).symm
      exact ⟨by kernel_rfl, fun j t ht => by
        rw [Tryd.params3] at ht
        have h3 : t = 22 := by
          rcases j with _ | j
          · simpa using ht.symm
          · simp at ht
        subst h3
        · exact (show Tryd.prog.wantsStandIn 22 = false by kernel_rfl)⟩)
    (by kernel_rfl)
end Go.Proofs.YtaklljigoajpcaaDoor.D.ripemd

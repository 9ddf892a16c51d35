/- FnMd4Blocks: of all states and all bytes: what the package's whole blocks make of the state is what the reference's make, and as many bytes are gone over as lie in whole blocks; more than 2^20 bytes: the law says true. No condition but that the five tables of package md4 hold what the program's text lays in them, which the card ties. -/
import Derived.Test.YtaklljigoajpcaaDoorR4Mb
import Derived.Test.YtaklljigoajpcaaDoorR4Once
import Derived.Test.YtaklljigoajpcaaDoorR4Glob
import Derived.Test.YtaklljigoajpcaaDoorRows
import Derived.Test.YtaklljigoajpcaaDoorCards
import Derived.Test.YtaklljigoajpcaaDoorTie
import Derived.WalkKit
import Derived.ProofKit
import Derived.OpenShut
import Derived.SevenTiedAt
namespace Go.Proofs.YtaklljigoajpcaaDoor.M.md4Blocks
open Go.ChangeShapes Go.WideShapes Go.ChangeAt Go.RowKit
open Go.Eng
set_option linter.unusedSimpArgs false
set_option linter.unusedVariables false
set_option linter.unusedSectionVars false
section
variable [RowAddr]
def specs5 : FuncId → Option Eng.Spec
  | 14 => some c14.spec
  | 15 => some c15.spec
  | 13 => some sp13
  | _ => none
theorem specs5_ok : ∀ f sp, specs5 f = some sp → SpecOk Tryd.prog noGlob f sp := by
  intro f sp h
  unfold specs5 at h
  split at h
  · injection h with h; subst h; exact c14_ok
  · injection h with h; subst h; exact c15_ok
  · injection h with h; subst h; exact ok13
  · cases h
def av5 (h : W4) : AV := .agg [.w32 h.x0, .w32 h.x1, .w32 h.x2, .w32 h.x3]
theorem runA (h : W4) (l : Vec 8) : verdict (goB specs5 noLoop 4 [av5 h, .sl 0 (.c 0) (.s l.n) none] ⟨[⟨.b8 l, .ro⟩], big, [true], []⟩) = some (true, [(decide ((2147483647 : Int) < ((l.n : Nat) : Int)) == true)]) := by kernel_rfl
theorem runB (h : W4) (l : Vec 8) : verdict (goB specs5 noLoop 4 [av5 h, .sl 0 (.c 0) (.s l.n) none] ⟨[⟨.b8 l, .ro⟩], big, [false, true], []⟩) = some (true, [(decide ((1048576 : Int) < ((l.n : Nat) : Int)) == true), (decide ((2147483647 : Int) < ((l.n : Nat) : Int)) == false)]) := by kernel_rfl
def five (h : W4) : List (BitVec 32) := [h.x0, h.x1, h.x2, h.x3]
def same5 (h : W4) (l : Vec 8) : Bool := chain (five (mdAll h l 0 (l.n / 64))) (five (mdAllR h l 0 (l.n / 64)))
theorem same5_true (h : W4) (l : Vec 8) : same5 h l = true := by
  unfold same5
  rw [all_same, chain_self]
theorem runE (h : W4) (l : Vec 8) : verdict (goB specs5 noLoop 4 [av5 h, .sl 0 (.c 0) (.s l.n) none] ⟨[⟨.b8 l, .ro⟩], big, false :: false :: List.replicate 30 true, []⟩) = some (true, [(((((64 * (l.n / 64)) : Nat) : Int) == ((Int.tdiv ((l.n : Nat) : Int) 64) * 64)) == true), (((((64 * (l.n / 64)) : Nat) : Int) == ((Int.tdiv ((l.n : Nat) : Int) 64) * 64)) == true), (same5 h l == true), (same5 h l == true), decide (((-9223372036854775808) ≤ ((Int.tdiv ((l.n : Nat) : Int) 64) * 64) ∧ ((Int.tdiv ((l.n : Nat) : Int) 64) * 64) ≤ 9223372036854775807)), (same5 h l == true), decide (((0 : Int) ≤ ((l.n : Nat) : Int) ∧ ((0 : Int) < 64 ∧ ((l.n : Nat) : Int) ≤ 9223372036854775807))), (same5 h l == true), (same5 h l == true), (same5 h l == true), (same5 h l == true), decide (((0 + l.n) ≤ l.n ∧ l.n ≤ 1099511627776)), decide (((0 + l.n) ≤ l.n ∧ l.n ≤ 1099511627776)), (decide ((1048576 : Int) < ((l.n : Nat) : Int)) == false), (decide ((2147483647 : Int) < ((l.n : Nat) : Int)) == false)]) := by kernel_rfl
def w5 (z : Nat → Int) : W4 := ⟨BitVec.ofInt 32 (z 0), BitVec.ofInt 32 (z 1), BitVec.ofInt 32 (z 2), BitVec.ofInt 32 (z 3)⟩
theorem rel5 {β : Map} {z : Nat → Int} (h : ∀ i, i < 4 → (Lit.int .u32 (z i)).wf = true) : VRel β (av5 (w5 z)) (.agg ⟨(List.range 4).map fun i => .int .u32 (z i)⟩) := by
  have : av5 (w5 z) = .agg ((List.range 4).map fun i => .w32 (BitVec.ofInt 32 (z i))) := rfl
  rw [this]
  exact rel_arr fun i hi => rel_w32 (h i hi)
theorem walk {W0 : World} (hL : LeadsTo W0 4 .i64 n_shift1 (RowAddr.row 4) ∧ LeadsTo W0 6 .i64 n_shift2 (RowAddr.row 6) ∧ LeadsTo W0 8 .i64 n_shift3 (RowAddr.row 8) ∧ LeadsTo W0 5 .u64 n_xIndex2 (RowAddr.row 5) ∧ LeadsTo W0 7 .u64 n_xIndex3 (RowAddr.row 7)) {v1 : Value} (z : Nat → Int) (hz : ∀ i, i < 4 → (Lit.int .u32 (z i)).wf = true) (l : Vec 8) (w1 : SlOk W0 v1 (.b8 l)) (_ : l.n ≤ maxLen) :
    Calls Tryd.prog 4 #[.agg ⟨(List.range 4).map fun i => .int .u32 (z i)⟩, v1] W0 fun e W' => e = .returned (.bool true) ∧ Still W0 W' := by
  have hb := goB_ok specs5_ok (no_loops specs5)
  have args2 : ∀ β, (∀ (i : Nat) v d, [(v1, Eng.Data.b8 l)][i]? = some (v, d) → VRel β (.sl i (.c 0) (.s d.len) none) v) → LRel β [av5 (w5 z), .sl 0 (.c 0) (.s l.n) none] [.agg ⟨(List.range 4).map fun i => .int .u32 (z i)⟩, v1] :=
    fun β h => LRel.cons (rel5 hz) (LRel.cons (h 0 v1 _ rfl) (LRel.nil β))
  by_cases hA : 2147483647 < l.n
  case pos =>
    refine law_runG hb [(v1, .b8 l)] (glob_ok hL) (ss_cons w1 ss_nil) (runA (w5 z) l) ?_ args2
    repeat' (refine all_true_cons ?_ ?_)
    all_goals first | exact all_true_nil | rfl | (simp only [beq_true, beq_false, decide_eq_true_eq, Bool.not_eq_true', decide_eq_false_iff_not, beq_eq_false_iff_ne, ne_eq, Bool.not_eq_false', beq_iff_eq, Bool.and_eq_true, true_and, and_true]; omega)
  by_cases hB : 1048576 < l.n
  case pos =>
    refine law_runG hb [(v1, .b8 l)] (glob_ok hL) (ss_cons w1 ss_nil) (runB (w5 z) l) ?_ args2
    repeat' (refine all_true_cons ?_ ?_)
    all_goals first | exact all_true_nil | rfl | (simp only [beq_true, beq_false, decide_eq_true_eq, Bool.not_eq_true', decide_eq_false_iff_not, beq_eq_false_iff_ne, ne_eq, Bool.not_eq_false', beq_iff_eq, Bool.and_eq_true, true_and, and_true]; omega)
  refine law_runG hb [(v1, .b8 l)] (glob_ok hL) (ss_cons w1 ss_nil) (runE (w5 z) l) ?_ args2
  have hd := Int.tdiv_eq_ediv_of_nonneg (b := 64) (show 0 ≤ (l.n : Int) by omega)
  have hs : ((same5 (w5 z) l) == true) = true := by rw [same5_true]; rfl
  repeat' (refine all_true_cons ?_ ?_)
  all_goals first | exact hs | exact all_true_nil | rfl | (simp only [beq_true, beq_false, decide_eq_true_eq, Bool.not_eq_true', decide_eq_false_iff_not, beq_eq_false_iff_ne, ne_eq, Bool.not_eq_false', beq_iff_eq, Bool.and_eq_true, true_and, and_true]; omega)
end
theorem own : ownKnob Tryd.prog.godebug = none := by kernel_rfl
theorem laidOut : laidOutB Tryd.prog = true := by kernel_rfl
theorem read34 : Tryd.prog.readableRec 34 = true ∧ 34 < Tryd.prog.types.size := ⟨by kernel_rfl, of_decide_eq_true (by kernel_rfl)⟩
theorem read22 : Tryd.prog.readableRec 22 = true ∧ 22 < Tryd.prog.types.size := ⟨by kernel_rfl, of_decide_eq_true (by kernel_rfl)⟩
theorem cells33 : Tryd.prog.cellsOf 33 = 1 := by kernel_rfl
theorem cells5 : Tryd.prog.cellsOf 5 = 1 := by kernel_rfl
theorem cells34 : Tryd.prog.cellsOf 34 = 4 := by kernel_rfl
set_option maxRecDepth 100000 in
theorem contract (H : Type) (enc : TypeId × Value → H) (W : World) (base : Nat) (args : Array Value) (ds gs : List (DataW H)) (before : List MemPlace)
    (hval : ∀ (j : Nat) t v, Tryd.f4.params[j]? = some t → args[j]? = some v → Value.okWide Tryd.prog W .any base t v)
    (hL : laidMet Tryd.prog laidM W)
    (hW : DataW.Whole enc Tryd.prog Tryd.f4.params.toList Rows.fnMd4BlocksSpec.vars false W args.toList ds gs before) :
    Calls Tryd.prog 4 args W fun e W' => ∃ v, e = .returned v ∧ Rows.fnMd4BlocksSpec.post enc Tryd.prog Tryd.f4 false true false false W args v W' := by
  have hW' := hW
  obtain ⟨p, q, hA0, hV, rfl, hfz, hnd⟩ := hW
  have hA : DataW.TrodAll enc Tryd.prog W 0 (fun _ => true) true Tryd.f4.params.toList args.toList ds p := hA0
  rw [Tryd.params4] at hA hval
  obtain ⟨v0, vs0, d0, ds0, p0, q0, hargs, rfl, rfl, h0, r0⟩ := trodAll_cons hA
  obtain ⟨v1, vs1, d1, ds1, p1, q1, rfl, rfl, rfl, h1, r1⟩ := trodAll_cons r0
  obtain ⟨rfl, rfl, rfl⟩ := trodAll_nil r1
  obtain rfl : args = #[v0, v1] := by cases args; simp_all
  obtain ⟨r, hr⟩ := rows_of hL
  letI : RowAddr := ⟨r⟩
  obtain ⟨z0, rfl, w0⟩ := open_arr Tryd.underlying34 Tryd.underlying33 cells33 cells34 (hval 0 34 v0 rfl rfl) h0
  obtain ⟨l1, w1, m1⟩ := open_sl8 Tryd.underlying22 Tryd.underlying5 cells5 (hval 1 22 v1 rfl rfl) h1
  refine (walk hr z0 w0 l1 w1 m1).mono fun e W' ⟨he, hs⟩ => ?_
  subst he
  exact ⟨_, rfl, post_of_still (tb := 4) hW' rfl rfl laidOut (by
    intro t ht
    rw [Tryd.params4] at ht
    have : t = 34 ∨ t = 22 := by simpa using ht
    rcases this with rfl | rfl
    · exact read34
    · exact read22
    ) (by kernel_rfl) Tryd.underlying4 hs⟩
theorem laid_plain {w : World} (h : laidMetH Tryd.prog laidM w) : laidMet Tryd.prog laidM w := h
set_option maxRecDepth 100000 in
theorem lifted (os : Os) (started : os.Started) (H : Type) (enc : TypeId × Value → H) :
    ReturnsInHanded {} Tryd.checked os 4 .any (fun w args => (Rows.fnMd4BlocksSpec.pre enc Tryd.prog Tryd.f4 [] false w args ∧ laidMetH Tryd.prog laidM w) ∧ sizedMet enc Tryd.prog Tryd.f4 (OpenSpec.ofChange Rows.fnMd4BlocksSpec) false w args)
      (Rows.fnMd4BlocksSpec.post enc Tryd.prog Tryd.f4 false true false false) := by
  refine returnsInHanded_of_change_and (C := Tryd.checked) (X := fun w _ => laidMetH Tryd.prog laidM w) (fun _ _ _ hh h => h.of_heap hh) own started (by kernel_rfl) Tryd.func4
    (ChangeSpec.witness_shaped (enc := enc) (C := Tryd.checked) (os := os) (X := fun w _ => laidMetH Tryd.prog laidM w) false (laidWorld os) #[.agg (Array.replicate 4 (.int .u32 0)), .slice none 0 0] 8 rfl (World.shaped_of_RefB (by kernel_rfl) (by kernel_rfl)) (by kernel_rfl) (by kernel_rfl) (by kernel_rfl) (laidWorld_met os _)) ?_
  intro W base args ds gs before hval hW _ _ hL _
  exact contract H enc W base args ds gs before hval (laid_plain hL) hW
theorem holds : Rows.FnMd4BlocksSaid :=
  OpenClaim.holds_of_wide 4 Tryd.f4 rfl rfl rfl rfl rfl rfl rfl ⟨rfl, rfl, rfl, rfl, rfl⟩ rfl rfl rfl rfl rfl (by kernel_rfl) Tryd.func4 (by kernel_rfl)
    (of_decide_eq_true (by kernel_rfl)) (by unfold Func.isWrapper; first | (rw [if_pos (by decide +kernel)]; kernel_rfl) | (rw [if_neg (by decide +kernel)]; exact ⟨rfl, rfl⟩))
    (fun os started H enc _ => lifted os started H enc)
theorem card_holds : Rows.FnMd4BlocksCardSaid :=
  Claim7.holds_tied_plain_at .later [] [.data, .data, .data, .data, .data] true (true, "29816d1f0eb4f00cb746d9b64e0df4ee5501f78b92cd8e10c20a87834921c875") false
    holds (fun _ h => by cases h) (by kernel_rfl) (fun _ h => by cases h) fnMd4Blocks_row_tie rfl ⟨rfl, rfl⟩ (by kernel_rfl) rfl
    (fun f fn hf hfn => by
      obtain rfl : f = 4 := Option.some.inj ((show Tryd.prog.funcNamed "pub-wardkeep/laws.FnMd4Blocks" = some 4 by kernel_rfl).symm.trans hf) |>.symm
      obtain rfl : fn = Tryd.f4 := (Option.some.inj (Tryd.func4.symm.trans hfn)).symm
      exact ⟨by kernel_rfl, fun j t ht => by
        rw [Tryd.params4] at ht
        have h3 : t = 34 ∨ t = 22 := by
          rcases j with _ | _ | j
          · left; simpa using ht.symm
          · right; simpa using ht.symm
          · simp at ht
        rcases h3 with rfl | rfl
        · exact (show Tryd.prog.wantsStandIn 34 = false by kernel_rfl)
        · exact (show Tryd.prog.wantsStandIn 22 = false by kernel_rfl)⟩)
    (by kernel_rfl)
end Go.Proofs.YtaklljigoajpcaaDoor.M.md4Blocks

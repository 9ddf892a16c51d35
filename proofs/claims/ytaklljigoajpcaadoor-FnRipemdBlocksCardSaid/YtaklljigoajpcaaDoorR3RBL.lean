/- FnRipemdBlocks: of all states and all bytes: what the package's whole blocks make of the state is what the reference's make, and as many bytes are gone over as lie in whole blocks; more than 2^20 bytes: the law says true. No condition but that the four tables of package ripemd160 hold what the program's text lays in them, which the card ties. -/
import Derived.Test.YtaklljigoajpcaaDoorR3Rb
import Derived.Test.YtaklljigoajpcaaDoorR3Once
import Derived.Test.YtaklljigoajpcaaDoorR3Glob
import Derived.Test.YtaklljigoajpcaaDoorRows
import Derived.Test.YtaklljigoajpcaaDoorCards
import Derived.Test.YtaklljigoajpcaaDoorTie
import Derived.WalkKit
import Derived.ProofKit
import Derived.OpenShut
import Derived.SevenTiedAt
namespace Go.Proofs.YtaklljigoajpcaaDoor.ripemdBlocks
open Go.ChangeShapes Go.WideShapes Go.ChangeAt Go.RowKit
open Go.Eng
def specs5 : FuncId → Option Eng.Spec
  | 16 => some c16.spec
  | 17 => some c17.spec
  | 12 => some c12.spec
  | 8 => some sp8
  | _ => none
theorem specs5_ok : ∀ f sp, specs5 f = some sp → SpecOk Tryd.prog noGlob f sp := by
  intro f sp h
  unfold specs5 at h
  split at h
  · injection h with h; subst h; exact c16_ok
  · injection h with h; subst h; exact c17_ok
  · injection h with h; subst h; exact c12_ok
  · injection h with h; subst h; exact ok8
  · cases h
def av5 (h : W5) : AV := .agg [.w32 h.x0, .w32 h.x1, .w32 h.x2, .w32 h.x3, .w32 h.x4]
theorem runA (h : W5) (l : Vec 8) : verdict (goB specs5 noLoop 5 [av5 h, .sl 0 (.c 0) (.s l.n) none] ⟨[⟨.b8 l, .ro⟩], big, [true], []⟩) = some (true, [(decide ((2147483647 : Int) < ((l.n : Nat) : Int)) == true)]) := by kernel_rfl
theorem runB (h : W5) (l : Vec 8) : verdict (goB specs5 noLoop 5 [av5 h, .sl 0 (.c 0) (.s l.n) none] ⟨[⟨.b8 l, .ro⟩], big, [false, true], []⟩) = some (true, [(decide ((1048576 : Int) < ((l.n : Nat) : Int)) == true), (decide ((2147483647 : Int) < ((l.n : Nat) : Int)) == false)]) := by kernel_rfl
def five (h : W5) : List (BitVec 32) := [h.x0, h.x1, h.x2, h.x3, h.x4]
def same5 (h : W5) (l : Vec 8) : Bool := chain (five (ripAll h l 0 (l.n / 64))) (five (ripAllR h l 0 (l.n / 64)))
theorem same5_true (h : W5) (l : Vec 8) : same5 h l = true := by
  unfold same5
  rw [all_same, chain_self]
theorem runE (h : W5) (l : Vec 8) : verdict (goB specs5 noLoop 5 [av5 h, .sl 0 (.c 0) (.s l.n) none] ⟨[⟨.b8 l, .ro⟩], big, false :: false :: List.replicate 30 true, []⟩) = some (true, [(((((64 * (l.n / 64)) : Nat) : Int) == ((Int.tdiv ((l.n : Nat) : Int) 64) * 64)) == true), (((((64 * (l.n / 64)) : Nat) : Int) == ((Int.tdiv ((l.n : Nat) : Int) 64) * 64)) == true), (same5 h l == true), (same5 h l == true), decide (((-9223372036854775808) ≤ ((Int.tdiv ((l.n : Nat) : Int) 64) * 64) ∧ ((Int.tdiv ((l.n : Nat) : Int) 64) * 64) ≤ 9223372036854775807)), (same5 h l == true), decide (((0 : Int) ≤ ((l.n : Nat) : Int) ∧ ((0 : Int) < 64 ∧ ((l.n : Nat) : Int) ≤ 9223372036854775807))), (same5 h l == true), (same5 h l == true), (same5 h l == true), (same5 h l == true), decide (((0 + l.n) ≤ l.n ∧ l.n ≤ 1099511627776)), decide (True), decide (((0 + l.n) ≤ l.n ∧ l.n ≤ 1099511627776)), (decide ((1048576 : Int) < ((l.n : Nat) : Int)) == false), (decide ((2147483647 : Int) < ((l.n : Nat) : Int)) == false)]) := by kernel_rfl
def w5 (z : Nat → Int) : W5 := ⟨BitVec.ofInt 32 (z 0), BitVec.ofInt 32 (z 1), BitVec.ofInt 32 (z 2), BitVec.ofInt 32 (z 3), BitVec.ofInt 32 (z 4)⟩
theorem rel5 {β : Map} {z : Nat → Int} (h : ∀ i, i < 5 → (Lit.int .u32 (z i)).wf = true) : VRel β (av5 (w5 z)) (.agg ⟨(List.range 5).map fun i => .int .u32 (z i)⟩) := by
  have : av5 (w5 z) = .agg ((List.range 5).map fun i => .w32 (BitVec.ofInt 32 (z i))) := rfl
  rw [this]
  exact rel_arr fun i hi => rel_w32 (h i hi)
theorem walk {W0 : World} (hL : laidMet Tryd.prog laidR W0) {v1 : Value} (z : Nat → Int) (hz : ∀ i, i < 5 → (Lit.int .u32 (z i)).wf = true) (l : Vec 8) (w1 : SlOk W0 v1 (.b8 l)) (_ : l.n ≤ maxLen) :
    Calls Tryd.prog 5 #[.agg ⟨(List.range 5).map fun i => .int .u32 (z i)⟩, v1] W0 fun e W' => e = .returned (.bool true) ∧ Still W0 W' := by
  have hb := goB_ok specs5_ok (no_loops specs5)
  have args2 : ∀ β, (∀ (i : Nat) v d, [(v1, Eng.Data.b8 l)][i]? = some (v, d) → VRel β (.sl i (.c 0) (.s d.len) none) v) → LRel β [av5 (w5 z), .sl 0 (.c 0) (.s l.n) none] [.agg ⟨(List.range 5).map fun i => .int .u32 (z i)⟩, v1] :=
    fun β h => LRel.cons (rel5 hz) (LRel.cons (h 0 v1 _ rfl) (LRel.nil β))
  by_cases hA : 2147483647 < l.n
  case pos =>
    refine law_runG hb [(v1, .b8 l)] (glob_ok hL) (ss_cons w1 ss_nil) (runA (w5 z) l) ?_ args2
    repeat' (refine all_true_cons ?_ ?_)
    all_goals first | exact all_true_nil | rfl | (simp only [beq_true, beq_false, decide_eq_true_eq, Bool.not_eq_true', decide_eq_false_iff_not, beq_eq_false_iff_ne, ne_eq, Bool.not_eq_false', beq_iff_eq, Bool.and_eq_true, true_and, and_true]; omega)
  by_cases hB : 1048576 < l.n
  case pos =>
    refine law_runG hb [(v1, .b8 l)] (glob_ok hL) (ss_cons w1 ss_nil) (runB (w5 z) l) ?_ args2
    repeat' (refine all_true_cons ?_ ?_)
    all_goals first | exact all_true_nil | rfl | (simp only [beq_true, beq_false, decide_eq_true_eq, Bool.not_eq_true', decide_eq_false_iff_not, beq_eq_false_iff_ne, ne_eq, Bool.not_eq_false', beq_iff_eq, Bool.and_eq_true, true_and, and_true]; omega)
  refine law_runG hb [(v1, .b8 l)] (glob_ok hL) (ss_cons w1 ss_nil) (runE (w5 z) l) ?_ args2
  have hd := Int.tdiv_eq_ediv_of_nonneg (b := 64) (show 0 ≤ (l.n : Int) by omega)
  have hs : ((same5 (w5 z) l) == true) = true := by rw [same5_true]; rfl
  repeat' (refine all_true_cons ?_ ?_)
  all_goals first | exact hs | exact all_true_nil | rfl | (simp only [beq_true, beq_false, decide_eq_true_eq, Bool.not_eq_true', decide_eq_false_iff_not, beq_eq_false_iff_ne, ne_eq, Bool.not_eq_false', beq_iff_eq, Bool.and_eq_true, true_and, and_true]; omega)
theorem own : ownKnob Tryd.prog.godebug = none := by kernel_rfl
theorem laidOut : laidOutB Tryd.prog = true := by kernel_rfl
theorem read38 : Tryd.prog.readableRec 38 = true ∧ 38 < Tryd.prog.types.size := ⟨by kernel_rfl, of_decide_eq_true (by kernel_rfl)⟩
theorem read22 : Tryd.prog.readableRec 22 = true ∧ 22 < Tryd.prog.types.size := ⟨by kernel_rfl, of_decide_eq_true (by kernel_rfl)⟩
theorem cells33 : Tryd.prog.cellsOf 33 = 1 := by kernel_rfl
theorem cells5 : Tryd.prog.cellsOf 5 = 1 := by kernel_rfl
theorem cells38 : Tryd.prog.cellsOf 38 = 5 := by kernel_rfl
set_option maxRecDepth 100000 in
theorem contract (H : Type) (enc : TypeId × Value → H) (W : World) (base : Nat) (args : Array Value) (ds gs : List (DataW H)) (before : List MemPlace)
    (hval : ∀ (j : Nat) t v, Tryd.f5.params[j]? = some t → args[j]? = some v → Value.okWide Tryd.prog W .any base t v)
    (hL : laidMet Tryd.prog laidR W)
    (hW : DataW.Whole enc Tryd.prog Tryd.f5.params.toList Rows.fnRipemdBlocksSpec.vars false W args.toList ds gs before) :
    Calls Tryd.prog 5 args W fun e W' => ∃ v, e = .returned v ∧ Rows.fnRipemdBlocksSpec.post enc Tryd.prog Tryd.f5 false true false false W args v W' := by
  have hW' := hW
  obtain ⟨p, q, hA0, hV, rfl, hfz, hnd⟩ := hW
  have hA : DataW.TrodAll enc Tryd.prog W 0 (fun _ => true) true Tryd.f5.params.toList args.toList ds p := hA0
  rw [Tryd.params5] at hA hval
  obtain ⟨v0, vs0, d0, ds0, p0, q0, hargs, rfl, rfl, h0, r0⟩ := trodAll_cons hA
  obtain ⟨v1, vs1, d1, ds1, p1, q1, rfl, rfl, rfl, h1, r1⟩ := trodAll_cons r0
  obtain ⟨rfl, rfl, rfl⟩ := trodAll_nil r1
  obtain rfl : args = #[v0, v1] := by cases args; simp_all
  obtain ⟨z0, rfl, w0⟩ := open_arr Tryd.underlying38 Tryd.underlying33 cells33 cells38 (hval 0 38 v0 rfl rfl) h0
  obtain ⟨l1, w1, m1⟩ := open_sl8 Tryd.underlying22 Tryd.underlying5 cells5 (hval 1 22 v1 rfl rfl) h1
  refine (walk hL z0 w0 l1 w1 m1).mono fun e W' ⟨he, hs⟩ => ?_
  subst he
  exact ⟨_, rfl, post_of_still (tb := 4) hW' rfl rfl laidOut (by
    intro t ht
    rw [Tryd.params5] at ht
    have : t = 38 ∨ t = 22 := by simpa using ht
    rcases this with rfl | rfl
    · exact read38
    · exact read22
    ) (by kernel_rfl) Tryd.underlying4 hs⟩
theorem laid_plain {w : World} (h : laidMetH Tryd.prog laidR w) : laidMet Tryd.prog laidR w := h
set_option maxRecDepth 100000 in
theorem lifted (os : Os) (started : os.Started) (H : Type) (enc : TypeId × Value → H) :
    ReturnsInHanded {} Tryd.checked os 5 .any (fun w args => (Rows.fnRipemdBlocksSpec.pre enc Tryd.prog Tryd.f5 [] false w args ∧ laidMetH Tryd.prog laidR w) ∧ sizedMet enc Tryd.prog Tryd.f5 (OpenSpec.ofChange Rows.fnRipemdBlocksSpec) false w args)
      (Rows.fnRipemdBlocksSpec.post enc Tryd.prog Tryd.f5 false true false false) := by
  refine returnsInHanded_of_change_and (C := Tryd.checked) (X := fun w _ => laidMetH Tryd.prog laidR w) (fun _ _ _ hh h => h.of_heap hh) own started (by kernel_rfl) Tryd.func5
    (ChangeSpec.witness_at (enc := enc) (C := Tryd.checked) (os := os) (X := fun w _ => laidMetH Tryd.prog laidR w) false (laidWorld os) #[.agg (Array.replicate 5 (.int .u32 0)), .slice none 0 0] 8 rfl (by kernel_rfl) (by kernel_rfl) (by kernel_rfl) (by kernel_rfl) (by kernel_rfl) (laidWorld_met os _)) ?_
  intro W base args ds gs before hval hW _ _ hL _
  exact contract H enc W base args ds gs before hval (laid_plain hL) hW
theorem holds : Rows.FnRipemdBlocksSaid :=
  OpenClaim.holds_of_wide 5 Tryd.f5 rfl rfl rfl rfl rfl rfl rfl ⟨rfl, rfl, rfl, rfl, rfl⟩ rfl rfl rfl rfl rfl (by kernel_rfl) Tryd.func5 (by kernel_rfl)
    (of_decide_eq_true (by kernel_rfl)) (by unfold Func.isWrapper; first | (rw [if_pos (by decide +kernel)]; kernel_rfl) | (rw [if_neg (by decide +kernel)]; exact ⟨rfl, rfl⟩))
    (fun os started H enc _ => lifted os started H enc)
theorem card_holds : Rows.FnRipemdBlocksCardSaid :=
  Claim7.holds_tied_plain_at .later [] [.data, .data, .data, .data] true (true, "29816d1f0eb4f00cb746d9b64e0df4ee5501f78b92cd8e10c20a87834921c875") false
    holds (fun _ h => by cases h) (by kernel_rfl) (fun _ h => by cases h) fnRipemdBlocks_row_tie rfl ⟨rfl, rfl⟩ (by kernel_rfl) rfl
    (fun f fn hf hfn => by
      obtain rfl : f = 5 := Option.some.inj ((show Tryd.prog.funcNamed "pub-wardkeep/laws.FnRipemdBlocks" = some 5 by kernel_rfl).symm.trans hf) |>.symm
      obtain rfl : fn = Tryd.f5 := (Option.some.inj (Tryd.func5.symm.trans hfn)).symm
      exact ⟨by kernel_rfl, fun j t ht => by
        rw [Tryd.params5] at ht
        have h3 : t = 38 ∨ t = 22 := by
          rcases j with _ | _ | j
          · left; simpa using ht.symm
          · right; simpa using ht.symm
          · simp at ht
        rcases h3 with rfl | rfl
        · exact (show Tryd.prog.wantsStandIn 38 = false by kernel_rfl)
        · exact (show Tryd.prog.wantsStandIn 22 = false by kernel_rfl)⟩)
    (by kernel_rfl)
end Go.Proofs.YtaklljigoajpcaaDoor.ripemdBlocks

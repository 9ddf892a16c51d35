/- FnBcryptEncode: of all bytes: bcrypt's letters of from 1 to 1024 bytes are the reference's, and are read again as these bytes where their number is no multiple of 3; else the law looks at the letters of one byte. No condition. -/
import Derived.Test.YtlelgligkkegnaaE1Y
import Derived.Test.YtlelgligkkegnaaRows
import Derived.WalkKit
import Derived.ProofKit
import Derived.OpenShut
namespace Go.Proofs.Ytlelgligkkegnaa.bcryptEncode
open Go.ChangeShapes Go.WideShapes Go.ChangeAt Go.RowKit
open Go.Eng
set_option linter.unusedSimpArgs false
set_option linter.unusedVariables false
def spL0 : FuncId → Option Eng.Spec
  | 4 => some c4.spec
  | 6 => some spEqual
  | 7 => some c7.spec
  | 11 => some c11_0.spec
  | _ => none
theorem spL0_ok : ∀ f sp, spL0 f = some sp → SpecOk Try.prog noGlob f sp := by
  intro f sp h
  unfold spL0 at h
  split at h
  · injection h with h; subst h; exact c4_ok
  · injection h with h; subst h; exact okEqual
  · injection h with h; subst h; exact c7_ok
  · injection h with h; subst h; exact c11_0_ok
  · cases h
def spL1 : FuncId → Option Eng.Spec
  | 4 => some c4.spec
  | 6 => some spEqual
  | 7 => some c7.spec
  | 8 => some c8_1.spec
  | 11 => some c11_1.spec
  | _ => none
theorem spL1_ok : ∀ f sp, spL1 f = some sp → SpecOk Try.prog noGlob f sp := by
  intro f sp h
  unfold spL1 at h
  split at h
  · injection h with h; subst h; exact c4_ok
  · injection h with h; subst h; exact okEqual
  · injection h with h; subst h; exact c7_ok
  · injection h with h; subst h; exact c8_1_ok
  · injection h with h; subst h; exact c11_1_ok
  · cases h
def spL2 : FuncId → Option Eng.Spec
  | 4 => some c4.spec
  | 6 => some spEqual
  | 7 => some c7.spec
  | 8 => some c8_2.spec
  | 11 => some c11_2.spec
  | _ => none
theorem spL2_ok : ∀ f sp, spL2 f = some sp → SpecOk Try.prog noGlob f sp := by
  intro f sp h
  unfold spL2 at h
  split at h
  · injection h with h; subst h; exact c4_ok
  · injection h with h; subst h; exact okEqual
  · injection h with h; subst h; exact c7_ok
  · injection h with h; subst h; exact c8_2_ok
  · injection h with h; subst h; exact c11_2_ok
  · cases h
theorem runA (l : Vec 8) : verdict (goB spL0 noLoop 3 [.sl 0 (.c 0) (.s l.n) none] ⟨[⟨.b8 l, .ro⟩], big, [true], []⟩) = some (true, [(decide ((2147483647 : Int) < ((l.n : Nat) : Int)) == true)]) := by kernel_rfl
theorem runB (l : Vec 8) : verdict (goB spL0 noLoop 3 [.sl 0 (.c 0) (.s l.n) none] ⟨[⟨.b8 l, .ro⟩], big, [false, true, true, true, true], []⟩) = some (true, [decide (True), (decide (((l.n : Nat) : Int) < 1) == true), (decide (((l.n : Nat) : Int) < 1) == true), (decide (((l.n : Nat) : Int) < 1) == true), (decide (((l.n : Nat) : Int) < 1) == true), (decide ((2147483647 : Int) < ((l.n : Nat) : Int)) == false)]) := by kernel_rfl
theorem runC (l : Vec 8) : verdict (goB spL0 noLoop 3 [.sl 0 (.c 0) (.s l.n) none] ⟨[⟨.b8 l, .ro⟩], big, [false, false, false, false, false, true], []⟩) = some (true, [decide (True), (decide ((1024 : Int) < ((l.n : Nat) : Int)) == true), (decide (((l.n : Nat) : Int) < 1) == false), (decide (((l.n : Nat) : Int) < 1) == false), (decide (((l.n : Nat) : Int) < 1) == false), (decide (((l.n : Nat) : Int) < 1) == false), (decide ((2147483647 : Int) < ((l.n : Nat) : Int)) == false)]) := by kernel_rfl
theorem runD0 (l : Vec 8) : verdict (goB spL0 noLoop 3 [.sl 0 (.c 0) (.s l.n) none] ⟨[⟨.b8 l, .ro⟩], big, [false, false, false, false, false, false, true], []⟩) = some (true, [decide (True), (((Int.tmod ((l.n : Nat) : Int) 3) == 0) == true), decide ((3 : Int) ≠ 0), (eqCond (full 0 l 0 l.n) (spW l 0 l.n (((8 * l.n) + 5) / 6)) 0 0 ((((l.n + 2) / 3) * 4) - 0) (((8 * l.n) + 5) / 6)), decide (((0 + l.n) ≤ l.n ∧ l.n ≤ 100000)), decide (((0 + l.n) ≤ l.n ∧ ((1 : Nat) ≤ l.n ∧ ((l.n % 3) = 0 ∧ l.n ≤ 100000)))), (decide ((1024 : Int) < ((l.n : Nat) : Int)) == false), (decide (((l.n : Nat) : Int) < 1) == false), (decide (((l.n : Nat) : Int) < 1) == false), (decide (((l.n : Nat) : Int) < 1) == false), (decide (((l.n : Nat) : Int) < 1) == false), (decide ((2147483647 : Int) < ((l.n : Nat) : Int)) == false)]) := by kernel_rfl
theorem runD1 (l : Vec 8) : verdict (goB spL1 noLoop 3 [.sl 0 (.c 0) (.s l.n) none] ⟨[⟨.b8 l, .ro⟩], big, [false, false, false, false, false, false, false], []⟩) = some (true, [decide (True), (eqCond (dec1T (full 1 l 0 l.n) 0 ((((l.n + 2) / 3) * 4) - 2) ((((((((l.n + 2) / 3) * 4) - 2) + 1) + 1) / 4) * 3)) l 0 0 ((3 * ((((((((l.n + 2) / 3) * 4) - 2) + 1) + 1) / 4) - 1)) + 1) l.n), (c8_1.good ⟨full 1 l 0 l.n, 0, (l.n + 2) / 3 * 4 - 2⟩), (((Int.tmod ((l.n : Nat) : Int) 3) == 0) == false), decide ((3 : Int) ≠ 0), (eqCond (full 1 l 0 l.n) (spW l 0 l.n (((8 * l.n) + 5) / 6)) 0 0 ((((l.n + 2) / 3) * 4) - 2) (((8 * l.n) + 5) / 6)), decide (((0 + l.n) ≤ l.n ∧ l.n ≤ 100000)), decide (((0 + l.n) ≤ l.n ∧ ((1 : Nat) ≤ l.n ∧ ((l.n % 3) = 1 ∧ l.n ≤ 100000)))), (decide ((1024 : Int) < ((l.n : Nat) : Int)) == false), (decide (((l.n : Nat) : Int) < 1) == false), (decide (((l.n : Nat) : Int) < 1) == false), (decide (((l.n : Nat) : Int) < 1) == false), (decide (((l.n : Nat) : Int) < 1) == false), (decide ((2147483647 : Int) < ((l.n : Nat) : Int)) == false)]) := by kernel_rfl
theorem runD2 (l : Vec 8) : verdict (goB spL2 noLoop 3 [.sl 0 (.c 0) (.s l.n) none] ⟨[⟨.b8 l, .ro⟩], big, [false, false, false, false, false, false, false], []⟩) = some (true, [decide (True), (eqCond (dec2T (full 2 l 0 l.n) 0 ((((l.n + 2) / 3) * 4) - 1) (((((((l.n + 2) / 3) * 4) - 1) + 1) / 4) * 3)) l 0 0 ((3 * (((((((l.n + 2) / 3) * 4) - 1) + 1) / 4) - 1)) + 2) l.n), (c8_2.good ⟨full 2 l 0 l.n, 0, (l.n + 2) / 3 * 4 - 1⟩), (((Int.tmod ((l.n : Nat) : Int) 3) == 0) == false), decide ((3 : Int) ≠ 0), (eqCond (full 2 l 0 l.n) (spW l 0 l.n (((8 * l.n) + 5) / 6)) 0 0 ((((l.n + 2) / 3) * 4) - 1) (((8 * l.n) + 5) / 6)), decide (((0 + l.n) ≤ l.n ∧ l.n ≤ 100000)), decide (((0 + l.n) ≤ l.n ∧ ((1 : Nat) ≤ l.n ∧ ((l.n % 3) = 2 ∧ l.n ≤ 100000)))), (decide ((1024 : Int) < ((l.n : Nat) : Int)) == false), (decide (((l.n : Nat) : Int) < 1) == false), (decide (((l.n : Nat) : Int) < 1) == false), (decide (((l.n : Nat) : Int) < 1) == false), (decide (((l.n : Nat) : Int) < 1) == false), (decide ((2147483647 : Int) < ((l.n : Nat) : Int)) == false)]) := by kernel_rfl
theorem walk {W0 : World} {v0 : Value} (l : Vec 8) (w0 : SlOk W0 v0 (.b8 l)) (m0 : l.n ≤ maxLen) :
    Calls Try.prog 3 #[v0] W0 fun e W' => e = .returned (.bool true) ∧ Still W0 W' := by
  have args2 : ∀ β, (∀ (i : Nat) v d, [(v0, Eng.Data.b8 l)][i]? = some (v, d) → VRel β (.sl i (.c 0) (.s d.len) none) v) → LRel β [.sl 0 (.c 0) (.s l.n) none] [v0] :=
    fun β h => LRel.cons (h 0 v0 _ rfl) (LRel.nil β)
  by_cases hA : 2147483647 < l.n
  case pos =>
    refine law_run (goB_ok spL0_ok (no_loops spL0)) [(v0, .b8 l)] (ss_cons w0 ss_nil) (runA l) ?_ args2
    repeat' (refine all_true_cons ?_ ?_)
    all_goals first | exact all_true_nil | rfl | (simp only [beq_true, beq_false, decide_eq_true_eq, Bool.not_eq_true', decide_eq_false_iff_not, beq_eq_false_iff_ne, ne_eq, Bool.not_eq_false', beq_iff_eq, Bool.and_eq_true]; omega)
  by_cases hB : l.n < 1
  case pos =>
    refine law_run (goB_ok spL0_ok (no_loops spL0)) [(v0, .b8 l)] (ss_cons w0 ss_nil) (runB l) ?_ args2
    repeat' (refine all_true_cons ?_ ?_)
    all_goals first | exact all_true_nil | rfl | (simp only [beq_true, beq_false, decide_eq_true_eq, Bool.not_eq_true', decide_eq_false_iff_not, beq_eq_false_iff_ne, ne_eq, Bool.not_eq_false', beq_iff_eq, Bool.and_eq_true]; omega)
  by_cases hC : 1024 < l.n
  case pos =>
    refine law_run (goB_ok spL0_ok (no_loops spL0)) [(v0, .b8 l)] (ss_cons w0 ss_nil) (runC l) ?_ args2
    repeat' (refine all_true_cons ?_ ?_)
    all_goals first | exact all_true_nil | rfl | (simp only [beq_true, beq_false, decide_eq_true_eq, Bool.not_eq_true', decide_eq_false_iff_not, beq_eq_false_iff_ne, ne_eq, Bool.not_eq_false', beq_iff_eq, Bool.and_eq_true]; omega)
  have ht : Int.tmod ((l.n : Nat) : Int) 3 = ((l.n % 3 : Nat) : Int) := by rw [Int.tmod_eq_emod_of_nonneg (by omega)]; omega
  have h3 : l.n % 3 = 0 ∨ l.n % 3 = 1 ∨ l.n % 3 = 2 := by omega
  rcases h3 with hm | hm | hm
  · refine law_run (goB_ok spL0_ok (no_loops spL0)) [(v0, .b8 l)] (ss_cons w0 ss_nil) (runD0 l) ?_ args2
    have q1 : eqCond (full 0 l 0 l.n) (spW l 0 l.n ((8 * l.n + 5) / 6)) 0 0 ((l.n + 2) / 3 * 4 - 0) ((8 * l.n + 5) / 6) = true :=
      decide_eq_true ⟨by omega, by rw [full_n]; omega, by rw [spW_n]; omega, by omega, fun j hj => by rw [Nat.zero_add]; exact full_spW 0 l 0 l.n j hm (by omega)⟩
    repeat' (refine all_true_cons ?_ ?_)
    all_goals first | exact all_true_nil | (simp only [ht, beq_true, beq_false, decide_eq_true_eq, Bool.not_eq_true', decide_eq_false_iff_not, beq_eq_false_iff_ne, ne_eq, Bool.not_eq_false', beq_iff_eq, Bool.and_eq_true]; omega) | rfl | exact q1
  · refine law_run (goB_ok spL1_ok (no_loops spL1)) [(v0, .b8 l)] (ss_cons w0 ss_nil) (runD1 l) ?_ args2
    have q1 : eqCond (full 1 l 0 l.n) (spW l 0 l.n ((8 * l.n + 5) / 6)) 0 0 ((l.n + 2) / 3 * 4 - 2) ((8 * l.n + 5) / 6) = true :=
      decide_eq_true ⟨by omega, by rw [full_n]; omega, by rw [spW_n]; omega, by omega, fun j hj => by rw [Nat.zero_add]; exact full_spW 1 l 0 l.n j hm (by omega)⟩
    have q2 : eqCond (dec1T (full 1 l 0 l.n) 0 ((l.n + 2) / 3 * 4 - 2) (((l.n + 2) / 3 * 4 - 2 + 1 + 1) / 4 * 3)) l 0 0 (3 * (((l.n + 2) / 3 * 4 - 2 + 1 + 1) / 4 - 1) + 1) l.n = true :=
      decide_eq_true ⟨by omega, by rw [dec1_n]; omega, by omega, by omega, fun j hj => (congrArg (fun x => (dec1T (full 1 l 0 l.n) 0 ((l.n + 2) / 3 * 4 - 2) (((l.n + 2) / 3 * 4 - 2 + 1 + 1) / 4 * 3)).l.getD x 0#8) (Nat.zero_add j)).trans (dec1_at l 0 l.n ((l.n + 2) / 3 * 4 - 2) hm rfl j (by omega))⟩
    have q3 : c8_1.good ⟨full 1 l 0 l.n, 0, (l.n + 2) / 3 * 4 - 2⟩ = true :=
      decide_eq_true ⟨by rw [full_n]; omega, by omega, by omega, fun k hk => full_valid 1 l 0 l.n k hm (by omega)⟩
    repeat' (refine all_true_cons ?_ ?_)
    all_goals first | exact all_true_nil | (simp only [ht, beq_true, beq_false, decide_eq_true_eq, Bool.not_eq_true', decide_eq_false_iff_not, beq_eq_false_iff_ne, ne_eq, Bool.not_eq_false', beq_iff_eq, Bool.and_eq_true]; omega) | rfl | exact q1 | exact q2 | exact q3
  · refine law_run (goB_ok spL2_ok (no_loops spL2)) [(v0, .b8 l)] (ss_cons w0 ss_nil) (runD2 l) ?_ args2
    have q1 : eqCond (full 2 l 0 l.n) (spW l 0 l.n ((8 * l.n + 5) / 6)) 0 0 ((l.n + 2) / 3 * 4 - 1) ((8 * l.n + 5) / 6) = true :=
      decide_eq_true ⟨by omega, by rw [full_n]; omega, by rw [spW_n]; omega, by omega, fun j hj => by rw [Nat.zero_add]; exact full_spW 2 l 0 l.n j hm (by omega)⟩
    have q2 : eqCond (dec2T (full 2 l 0 l.n) 0 ((l.n + 2) / 3 * 4 - 1) (((l.n + 2) / 3 * 4 - 1 + 1) / 4 * 3)) l 0 0 (3 * (((l.n + 2) / 3 * 4 - 1 + 1) / 4 - 1) + 2) l.n = true :=
      decide_eq_true ⟨by omega, by rw [dec2_n]; omega, by omega, by omega, fun j hj => (congrArg (fun x => (dec2T (full 2 l 0 l.n) 0 ((l.n + 2) / 3 * 4 - 1) (((l.n + 2) / 3 * 4 - 1 + 1) / 4 * 3)).l.getD x 0#8) (Nat.zero_add j)).trans (dec2_at l 0 l.n ((l.n + 2) / 3 * 4 - 1) hm rfl j (by omega))⟩
    have q3 : c8_2.good ⟨full 2 l 0 l.n, 0, (l.n + 2) / 3 * 4 - 1⟩ = true :=
      decide_eq_true ⟨by rw [full_n]; omega, by omega, by omega, fun k hk => full_valid 2 l 0 l.n k hm (by omega)⟩
    repeat' (refine all_true_cons ?_ ?_)
    all_goals first | exact all_true_nil | (simp only [ht, beq_true, beq_false, decide_eq_true_eq, Bool.not_eq_true', decide_eq_false_iff_not, beq_eq_false_iff_ne, ne_eq, Bool.not_eq_false', beq_iff_eq, Bool.and_eq_true]; omega) | rfl | exact q1 | exact q2 | exact q3


theorem own : ownKnob Try.prog.godebug = none := by kernel_rfl
theorem laidOut : laidOutB Try.prog = true := by kernel_rfl
theorem read22 : Try.prog.readableRec 22 = true ∧ 22 < Try.prog.types.size := ⟨by kernel_rfl, of_decide_eq_true (by kernel_rfl)⟩
theorem cells5 : Try.prog.cellsOf 5 = 1 := by kernel_rfl
set_option maxRecDepth 100000 in
theorem contract (H : Type) (enc : TypeId × Value → H) (W : World) (base : Nat) (args : Array Value) (ds gs : List (DataW H)) (before : List MemPlace)
    (hval : ∀ (j : Nat) t v, Try.f3.params[j]? = some t → args[j]? = some v → Value.okWide Try.prog W .any base t v)
    (hW : DataW.Whole enc Try.prog Try.f3.params.toList Rows.fnBcryptEncodeSpec.vars false W args.toList ds gs before) :
    Calls Try.prog 3 args W fun e W' => ∃ v, e = .returned v ∧ Rows.fnBcryptEncodeSpec.post enc Try.prog Try.f3 false true false false W args v W' := by
  have hW' := hW
  obtain ⟨p, q, hA0, hV, rfl, hfz, hnd⟩ := hW
  have hA : DataW.TrodAll enc Try.prog W 0 (fun _ => true) true Try.f3.params.toList args.toList ds p := hA0
  rw [Try.params3] at hA hval
  obtain ⟨v0, vs0, d0, ds0, p0, q0, hargs, rfl, rfl, h0, r0⟩ := trodAll_cons hA
  obtain ⟨rfl, rfl, rfl⟩ := trodAll_nil r0
  obtain rfl : args = #[v0] := by cases args; simp_all
  obtain ⟨l0, w0, m0⟩ := open_sl8 Try.underlying22 Try.underlying5 cells5 (hval 0 22 v0 rfl rfl) h0
  refine (walk l0 w0 m0).mono fun e W' ⟨he, hs⟩ => ?_
  subst he
  exact ⟨_, rfl, post_of_still (tb := 4) hW' rfl rfl laidOut (by
    intro t ht
    rw [Try.params3] at ht
    have : t = 22 := by simpa using ht
    rcases this with rfl
    · exact read22
    ) (by kernel_rfl) Try.underlying4 hs⟩
set_option maxRecDepth 100000 in
theorem lifted (os : Os) (started : os.Started) (H : Type) (enc : TypeId × Value → H) :
    ReturnsInHanded {} Try.checked os 3 .any (Rows.fnBcryptEncodeSpec.pre6 enc Try.prog Try.f3 Rows.fnBcryptEncodeRow.domain false) (Rows.fnBcryptEncodeSpec.post enc Try.prog Try.f3 false true false false) := by
  refine returnsInHanded_of_change (C := Try.checked) own started (by kernel_rfl) Try.func3
    (ChangeSpec.witness6 (enc := enc) (C := Try.checked) false ⟨#[], #[.slice none 0 0], []⟩ 8 (by kernel_rfl) (by kernel_rfl) (by kernel_rfl) (by kernel_rfl)) ?_
  intro W base args ds gs before hval hW _ _
  exact contract H enc W base args ds gs before hval hW
theorem holds : Rows.FnBcryptEncodeSaid :=
  OpenClaim.holds_of_wide 3 Try.f3 rfl rfl rfl rfl rfl rfl rfl ⟨rfl, rfl, rfl, rfl, rfl⟩ rfl rfl rfl rfl rfl (by kernel_rfl) Try.func3 (by kernel_rfl)
    (of_decide_eq_true (by kernel_rfl)) (by unfold Func.isWrapper; first | (rw [if_pos (by decide +kernel)]; kernel_rfl) | (rw [if_neg (by decide +kernel)]; exact ⟨rfl, rfl⟩))
    (fun os started H enc _ => lifted os started H enc)
end Go.Proofs.Ytlelgligkkegnaa.bcryptEncode

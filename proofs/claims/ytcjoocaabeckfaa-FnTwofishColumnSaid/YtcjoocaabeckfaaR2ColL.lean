/- FnTwofishColumn: a column of the matrix times a byte, for all bytes and columns. No condition. -/
import Derived.Test.YtcjoocaabeckfaaR2Col
import Derived.Test.YtcjoocaabeckfaaRows
import Derived.WalkKit
import Derived.ProofKit
import Derived.OpenShut
namespace Go.Proofs.Ytcjoocaabeckfaa.twofishColumn
open Go.ChangeShapes Go.WideShapes Go.ChangeAt Go.RowKit
open Go.Eng
def specsD : FuncId → Option Eng.Spec
  | 18 => some sp18
  | 31 => some (spCol colI)
  | 32 => some (spCol colS)
  | _ => none
theorem specsD_ok : ∀ f sp, specsD f = some sp → SpecOk Try.prog noGlob f sp := by
  intro f sp h
  unfold specsD at h
  split at h
  · injection h with h; subst h; exact ok18
  · injection h with h; subst h; exact ok31
  · injection h with h; subst h; exact ok32
  · cases h
noncomputable def go (args : List AV) (H : List Blk) (dec : List Bool) : Option (AV × St) := goB specsD noLoop 12 args ⟨H, big, dec, []⟩
def inCol (z : Int) : Bool := decide (0 ≤ z ∧ z < 4)
def same (b : BitVec 8) (z : Int) : Bool := (colI b z == colS b z) == true
theorem runC (b : BitVec 8) (n : Int) : verdict (go [.w8 b, .int .i64 (.s n)] [] [true, true]) = some (true, [same b (andV .i64 n 3), same b (andV .i64 n 3), inCol (andV .i64 n 3), inCol (andV .i64 n 3), decide ((0 : Int) ≤ 3)]) := by kernel_rfl
theorem and3 (n : Int) : 0 ≤ andV .i64 n 3 ∧ andV .i64 n 3 < 4 := by
  unfold andV
  have h : (BitVec.ofInt 64 n &&& BitVec.ofInt 64 3).toNat < 4 := by
    rw [BitVec.toNat_and]
    have e : (BitVec.ofInt 64 3).toNat = 3 := by decide
    rw [e]
    have := @Nat.and_le_right (BitVec.ofInt 64 n).toNat 3
    omega
  have hl : lo .i64 ≤ 0 := by decide
  have hh : (4 : Int) ≤ hi .i64 := by decide
  have e : IntKind.i64.wrap ((BitVec.ofInt 64 n &&& BitVec.ofInt 64 3).toNat : Int) = ((BitVec.ofInt 64 n &&& BitVec.ofInt 64 3).toNat : Int) := wrap_in .i64 _ (by omega) (by omega)
  show 0 ≤ IntKind.i64.wrap ((BitVec.ofInt 64 n &&& BitVec.ofInt 64 3).toNat : Int) ∧ IntKind.i64.wrap ((BitVec.ofInt 64 n &&& BitVec.ofInt 64 3).toNat : Int) < 4
  rw [e]; omega
theorem walk {W0 : World} (n0 : Int) (w0 : (Lit.int .u8 n0).wf = true) (n1 : Int) (_ : (Lit.int .i64 n1).wf = true) :
    Calls Try.prog 12 #[.int .u8 n0, .int .i64 n1] W0 fun e W' => e = .returned (.bool true) ∧ Still W0 W' := by
  have hb := goB_ok specsD_ok (no_loops specsD)
  have h := and3 n1
  have hi : inCol (andV .i64 n1 3) = true := decide_eq_true h
  have hs : same (BitVec.ofInt 8 n0) (andV .i64 n1 3) = true := by unfold same; rw [col_eq _ _ h.1 h.2]; simp
  refine law_run hb [] ss_nil (runC (BitVec.ofInt 8 n0) n1) ?_ (fun β _ => LRel.cons (rel_w8 w0) (LRel.cons (rel_int .i64 n1) (LRel.nil β)))
  exact all_true_cons hs (all_true_cons hs (all_true_cons hi (all_true_cons hi (all_true_cons (by decide) all_true_nil))))


theorem own : ownKnob Try.prog.godebug = none := by kernel_rfl
theorem laidOut : laidOutB Try.prog = true := by kernel_rfl
theorem read5 : Try.prog.readableRec 5 = true ∧ 5 < Try.prog.types.size := ⟨by kernel_rfl, of_decide_eq_true (by kernel_rfl)⟩
theorem read3 : Try.prog.readableRec 3 = true ∧ 3 < Try.prog.types.size := ⟨by kernel_rfl, of_decide_eq_true (by kernel_rfl)⟩
set_option maxRecDepth 100000 in
theorem contract (H : Type) (enc : TypeId × Value → H) (W : World) (base : Nat) (args : Array Value) (ds gs : List (DataW H)) (before : List MemPlace)
    (hval : ∀ (j : Nat) t v, Try.f12.params[j]? = some t → args[j]? = some v → Value.okWide Try.prog W .any base t v)
    (hW : DataW.Whole enc Try.prog Try.f12.params.toList Rows.fnTwofishColumnSpec.vars false W args.toList ds gs before) :
    Calls Try.prog 12 args W fun e W' => ∃ v, e = .returned v ∧ Rows.fnTwofishColumnSpec.post enc Try.prog Try.f12 false true false false W args v W' := by
  have hW' := hW
  obtain ⟨p, q, hA0, hV, rfl, hfz, hnd⟩ := hW
  have hA : DataW.TrodAll enc Try.prog W 0 (fun _ => true) true Try.f12.params.toList args.toList ds p := hA0
  rw [Try.params12] at hA hval
  obtain ⟨v0, vs0, d0, ds0, p0, q0, hargs, rfl, rfl, h0, r0⟩ := trodAll_cons hA
  obtain ⟨v1, vs1, d1, ds1, p1, q1, rfl, rfl, rfl, h1, r1⟩ := trodAll_cons r0
  obtain ⟨rfl, rfl, rfl⟩ := trodAll_nil r1
  obtain rfl : args = #[v0, v1] := by cases args; simp_all
  obtain ⟨n0, rfl, rfl, rfl, w0⟩ := open_int Try.underlying5 (hval 0 5 v0 rfl rfl) h0
  obtain ⟨n1, rfl, rfl, rfl, w1⟩ := open_int Try.underlying3 (hval 1 3 v1 rfl rfl) h1
  refine (walk n0 w0 n1 w1).mono fun e W' ⟨he, hs⟩ => ?_
  subst he
  exact ⟨_, rfl, post_of_still (tb := 4) hW' rfl rfl laidOut (by
    intro t ht
    rw [Try.params12] at ht
    have : t = 5 ∨ t = 3 := by simpa using ht
    rcases this with rfl | rfl
    · exact read5
    · exact read3
    ) (by kernel_rfl) Try.underlying4 hs⟩
set_option maxRecDepth 100000 in
theorem lifted (os : Os) (started : os.Started) (H : Type) (enc : TypeId × Value → H) :
    ReturnsInHanded {} Try.checked os 12 .any (Rows.fnTwofishColumnSpec.pre6 enc Try.prog Try.f12 Rows.fnTwofishColumnRow.domain false) (Rows.fnTwofishColumnSpec.post enc Try.prog Try.f12 false true false false) := by
  refine returnsInHanded_of_change (C := Try.checked) own started (by kernel_rfl) Try.func12
    (ChangeSpec.witness6 (enc := enc) (C := Try.checked) false ⟨#[], #[.int .u8 0, .int .i64 0], []⟩ 8 (by kernel_rfl) (by kernel_rfl) (by kernel_rfl) (by kernel_rfl)) ?_
  intro W base args ds gs before hval hW _ _
  exact contract H enc W base args ds gs before hval hW
theorem holds : Rows.FnTwofishColumnSaid :=
  OpenClaim.holds_of_wide 12 Try.f12 rfl rfl rfl rfl rfl rfl rfl ⟨rfl, rfl, rfl, rfl, rfl⟩ rfl rfl rfl rfl rfl (by kernel_rfl) Try.func12 (by kernel_rfl)
    (of_decide_eq_true (by kernel_rfl)) (by unfold Func.isWrapper; first | (rw [if_pos (by decide +kernel)]; kernel_rfl) | (rw [if_neg (by decide +kernel)]; exact ⟨rfl, rfl⟩))
    (fun os started H enc _ => lifted os started H enc)
end Go.Proofs.Ytcjoocaabeckfaa.twofishColumn

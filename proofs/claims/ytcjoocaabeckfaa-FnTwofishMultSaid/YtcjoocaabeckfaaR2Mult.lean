/- FnTwofishMult: of all bytes, both products are one, and they commute, are spread over exclusive or, and have a one. No condition. -/
import Derived.Test.YtcjoocaabeckfaaR2GfP
import Derived.Test.YtcjoocaabeckfaaR2Once
import Derived.Test.YtcjoocaabeckfaaRows
import Derived.WalkKit
import Derived.ProofKit
import Derived.OpenShut
namespace Go.Proofs.Ytcjoocaabeckfaa.twofishMult
open Go.ChangeShapes Go.WideShapes Go.ChangeAt Go.RowKit
open Go.Eng
def specsM : FuncId → Option Eng.Spec
  | 18 => some sp18
  | 43 => some sp43
  | 58 => some sp58
  | _ => none
theorem specsM_ok : ∀ f sp, specsM f = some sp → SpecOk Try.prog noGlob f sp := by
  intro f sp h
  unfold specsM at h
  split at h
  · injection h with h; subst h; exact ok18
  · injection h with h; subst h; exact ok43
  · injection h with h; subst h; exact ok58
  · cases h
noncomputable def go (args : List AV) (H : List Blk) (dec : List Bool) : Option (AV × St) := goB specsM noLoop 8 args ⟨H, big, dec, []⟩
theorem runT (a b c : BitVec 8) : verdict (go [.w8 a, .w8 b, .w8 c, .bool (.c true)] [] [false, false, false, false, false, false, false, false, false, false, false, false, false, false, false, false, false, false, false, false, false, true, true]) = some (true, [(((Go.Proofs.Ytcjoocaabeckfaa.gf a b (333#32)) == (Go.Proofs.Ytcjoocaabeckfaa.po a b 333)) == true), (((Go.Proofs.Ytcjoocaabeckfaa.gf a b (333#32)) == (Go.Proofs.Ytcjoocaabeckfaa.po a b 333)) == true), decide (((256 : Nat) ≤ 333 ∧ (333 : Nat) < 512)), (((Go.Proofs.Ytcjoocaabeckfaa.gf a (1#8) (333#32)) != a) == false), (((Go.Proofs.Ytcjoocaabeckfaa.gf a (b ^^^ c) (333#32)) != ((Go.Proofs.Ytcjoocaabeckfaa.gf a b (333#32)) ^^^ (Go.Proofs.Ytcjoocaabeckfaa.gf a c (333#32)))) == false), (((Go.Proofs.Ytcjoocaabeckfaa.gf a (b ^^^ c) (333#32)) != ((Go.Proofs.Ytcjoocaabeckfaa.gf a b (333#32)) ^^^ (Go.Proofs.Ytcjoocaabeckfaa.gf a c (333#32)))) == false), (((Go.Proofs.Ytcjoocaabeckfaa.gf a (b ^^^ c) (333#32)) != ((Go.Proofs.Ytcjoocaabeckfaa.gf a b (333#32)) ^^^ (Go.Proofs.Ytcjoocaabeckfaa.gf a c (333#32)))) == false), decide (((256 : Nat) ≤ ((333#32)).toNat ∧ ((333#32)).toNat < 512)), (((Go.Proofs.Ytcjoocaabeckfaa.gf a (b ^^^ c) (333#32)) != ((Go.Proofs.Ytcjoocaabeckfaa.gf a b (333#32)) ^^^ (Go.Proofs.Ytcjoocaabeckfaa.gf a c (333#32)))) == false), (((Go.Proofs.Ytcjoocaabeckfaa.gf a (b ^^^ c) (333#32)) != ((Go.Proofs.Ytcjoocaabeckfaa.gf a b (333#32)) ^^^ (Go.Proofs.Ytcjoocaabeckfaa.gf a c (333#32)))) == false), (((Go.Proofs.Ytcjoocaabeckfaa.gf a (b ^^^ c) (333#32)) != ((Go.Proofs.Ytcjoocaabeckfaa.gf a b (333#32)) ^^^ (Go.Proofs.Ytcjoocaabeckfaa.gf a c (333#32)))) == false), (((Go.Proofs.Ytcjoocaabeckfaa.gf a b (333#32)) != (Go.Proofs.Ytcjoocaabeckfaa.gf b a (333#32))) == false), (((Go.Proofs.Ytcjoocaabeckfaa.gf a b (333#32)) != (Go.Proofs.Ytcjoocaabeckfaa.gf b a (333#32))) == false), (((Go.Proofs.Ytcjoocaabeckfaa.gf a b (333#32)) != (Go.Proofs.Ytcjoocaabeckfaa.gf b a (333#32))) == false), decide (((256 : Nat) ≤ ((333#32)).toNat ∧ ((333#32)).toNat < 512)), (((Go.Proofs.Ytcjoocaabeckfaa.gf a b (333#32)) != (Go.Proofs.Ytcjoocaabeckfaa.gf b a (333#32))) == false), (((Go.Proofs.Ytcjoocaabeckfaa.gf a b (333#32)) != (Go.Proofs.Ytcjoocaabeckfaa.gf b a (333#32))) == false), (((Go.Proofs.Ytcjoocaabeckfaa.gf a b (333#32)) != (Go.Proofs.Ytcjoocaabeckfaa.gf b a (333#32))) == false), (((Go.Proofs.Ytcjoocaabeckfaa.gf a b (333#32)) != (Go.Proofs.Ytcjoocaabeckfaa.gf b a (333#32))) == false), (((Go.Proofs.Ytcjoocaabeckfaa.gf a b (333#32)) != (Go.Proofs.Ytcjoocaabeckfaa.gf b a (333#32))) == false), decide (((256 : Nat) ≤ ((333#32)).toNat ∧ ((333#32)).toNat < 512)), (((Go.Proofs.Ytcjoocaabeckfaa.gf a b (333#32)) != (Go.Proofs.Ytcjoocaabeckfaa.gf b a (333#32))) == false), (((Go.Proofs.Ytcjoocaabeckfaa.gf a b (333#32)) != (Go.Proofs.Ytcjoocaabeckfaa.gf b a (333#32))) == false), (((Go.Proofs.Ytcjoocaabeckfaa.gf a b (333#32)) != (Go.Proofs.Ytcjoocaabeckfaa.gf b a (333#32))) == false), (((Go.Proofs.Ytcjoocaabeckfaa.gf a b (333#32)) != (Go.Proofs.Ytcjoocaabeckfaa.gf b a (333#32))) == false), (((Go.Proofs.Ytcjoocaabeckfaa.gf a b (333#32)) != (Go.Proofs.Ytcjoocaabeckfaa.gf b a (333#32))) == false), (((Go.Proofs.Ytcjoocaabeckfaa.gf a b (333#32)) != (Go.Proofs.Ytcjoocaabeckfaa.gf b a (333#32))) == false), decide (((256 : Nat) ≤ ((333#32)).toNat ∧ ((333#32)).toNat < 512)), decide (((256 : Nat) ≤ ((333#32)).toNat ∧ ((333#32)).toNat < 512))]) := by kernel_rfl
theorem runF (a b c : BitVec 8) : verdict (go [.w8 a, .w8 b, .w8 c, .bool (.c false)] [] [false, false, false, false, false, false, false, false, false, false, false, false, false, false, false, false, false, false, false, false, false, true, true]) = some (true, [(((Go.Proofs.Ytcjoocaabeckfaa.gf a b (361#32)) == (Go.Proofs.Ytcjoocaabeckfaa.po a b 361)) == true), (((Go.Proofs.Ytcjoocaabeckfaa.gf a b (361#32)) == (Go.Proofs.Ytcjoocaabeckfaa.po a b 361)) == true), decide (((256 : Nat) ≤ 361 ∧ (361 : Nat) < 512)), (((Go.Proofs.Ytcjoocaabeckfaa.gf a (1#8) (361#32)) != a) == false), (((Go.Proofs.Ytcjoocaabeckfaa.gf a (b ^^^ c) (361#32)) != ((Go.Proofs.Ytcjoocaabeckfaa.gf a b (361#32)) ^^^ (Go.Proofs.Ytcjoocaabeckfaa.gf a c (361#32)))) == false), (((Go.Proofs.Ytcjoocaabeckfaa.gf a (b ^^^ c) (361#32)) != ((Go.Proofs.Ytcjoocaabeckfaa.gf a b (361#32)) ^^^ (Go.Proofs.Ytcjoocaabeckfaa.gf a c (361#32)))) == false), (((Go.Proofs.Ytcjoocaabeckfaa.gf a (b ^^^ c) (361#32)) != ((Go.Proofs.Ytcjoocaabeckfaa.gf a b (361#32)) ^^^ (Go.Proofs.Ytcjoocaabeckfaa.gf a c (361#32)))) == false), decide (((256 : Nat) ≤ ((361#32)).toNat ∧ ((361#32)).toNat < 512)), (((Go.Proofs.Ytcjoocaabeckfaa.gf a (b ^^^ c) (361#32)) != ((Go.Proofs.Ytcjoocaabeckfaa.gf a b (361#32)) ^^^ (Go.Proofs.Ytcjoocaabeckfaa.gf a c (361#32)))) == false), (((Go.Proofs.Ytcjoocaabeckfaa.gf a (b ^^^ c) (361#32)) != ((Go.Proofs.Ytcjoocaabeckfaa.gf a b (361#32)) ^^^ (Go.Proofs.Ytcjoocaabeckfaa.gf a c (361#32)))) == false), (((Go.Proofs.Ytcjoocaabeckfaa.gf a (b ^^^ c) (361#32)) != ((Go.Proofs.Ytcjoocaabeckfaa.gf a b (361#32)) ^^^ (Go.Proofs.Ytcjoocaabeckfaa.gf a c (361#32)))) == false), (((Go.Proofs.Ytcjoocaabeckfaa.gf a b (361#32)) != (Go.Proofs.Ytcjoocaabeckfaa.gf b a (361#32))) == false), (((Go.Proofs.Ytcjoocaabeckfaa.gf a b (361#32)) != (Go.Proofs.Ytcjoocaabeckfaa.gf b a (361#32))) == false), (((Go.Proofs.Ytcjoocaabeckfaa.gf a b (361#32)) != (Go.Proofs.Ytcjoocaabeckfaa.gf b a (361#32))) == false), decide (((256 : Nat) ≤ ((361#32)).toNat ∧ ((361#32)).toNat < 512)), (((Go.Proofs.Ytcjoocaabeckfaa.gf a b (361#32)) != (Go.Proofs.Ytcjoocaabeckfaa.gf b a (361#32))) == false), (((Go.Proofs.Ytcjoocaabeckfaa.gf a b (361#32)) != (Go.Proofs.Ytcjoocaabeckfaa.gf b a (361#32))) == false), (((Go.Proofs.Ytcjoocaabeckfaa.gf a b (361#32)) != (Go.Proofs.Ytcjoocaabeckfaa.gf b a (361#32))) == false), (((Go.Proofs.Ytcjoocaabeckfaa.gf a b (361#32)) != (Go.Proofs.Ytcjoocaabeckfaa.gf b a (361#32))) == false), (((Go.Proofs.Ytcjoocaabeckfaa.gf a b (361#32)) != (Go.Proofs.Ytcjoocaabeckfaa.gf b a (361#32))) == false), decide (((256 : Nat) ≤ ((361#32)).toNat ∧ ((361#32)).toNat < 512)), (((Go.Proofs.Ytcjoocaabeckfaa.gf a b (361#32)) != (Go.Proofs.Ytcjoocaabeckfaa.gf b a (361#32))) == false), (((Go.Proofs.Ytcjoocaabeckfaa.gf a b (361#32)) != (Go.Proofs.Ytcjoocaabeckfaa.gf b a (361#32))) == false), (((Go.Proofs.Ytcjoocaabeckfaa.gf a b (361#32)) != (Go.Proofs.Ytcjoocaabeckfaa.gf b a (361#32))) == false), (((Go.Proofs.Ytcjoocaabeckfaa.gf a b (361#32)) != (Go.Proofs.Ytcjoocaabeckfaa.gf b a (361#32))) == false), (((Go.Proofs.Ytcjoocaabeckfaa.gf a b (361#32)) != (Go.Proofs.Ytcjoocaabeckfaa.gf b a (361#32))) == false), (((Go.Proofs.Ytcjoocaabeckfaa.gf a b (361#32)) != (Go.Proofs.Ytcjoocaabeckfaa.gf b a (361#32))) == false), decide (((256 : Nat) ≤ ((361#32)).toNat ∧ ((361#32)).toNat < 512)), decide (((256 : Nat) ≤ ((361#32)).toNat ∧ ((361#32)).toNat < 512))]) := by kernel_rfl
theorem conds {p : BitVec 32} {m : Nat} (hm : p = BitVec.ofNat 32 m) (hmm : p.toNat = m) (h1 : 256 ≤ m) (h2 : m < 512) (hc : commB p = true) (ho : oneB p = true) (a b c : BitVec 8) :
    (gf a b p != gf b a p) = false ∧ (gf a (b ^^^ c) p != (gf a b p ^^^ gf a c p)) = false ∧ (gf a 1#8 p != a) = false ∧ (gf a b p == po a b m) = true := by
  have l1 : 256 ≤ p.toNat := by omega
  have l2 : p.toNat < 512 := by omega
  rw [po_gf a b m h1 h2, ← hm, gf_comm l1 l2 hc b a, gf_b l1 l2, gf_one ho]
  simp
theorem walk {W0 : World} (n0 : Int) (w0 : (Lit.int .u8 n0).wf = true) (n1 : Int) (w1 : (Lit.int .u8 n1).wf = true) (n2 : Int) (w2 : (Lit.int .u8 n2).wf = true) (b3 : Bool) :
    Calls Try.prog 8 #[.int .u8 n0, .int .u8 n1, .int .u8 n2, .bool b3] W0 fun e W' => e = .returned (.bool true) ∧ Still W0 W' := by
  have hb := goB_ok specsM_ok (no_loops specsM)
  cases b3 with
  | true =>
    obtain ⟨e1, e2, e3, e4⟩ := conds (p := 333#32) (m := 333) rfl rfl (by omega) (by omega) comm333 one333 (BitVec.ofInt 8 n0) (BitVec.ofInt 8 n1) (BitVec.ofInt 8 n2)
    refine law_run hb [] ss_nil (runT (BitVec.ofInt 8 n0) (BitVec.ofInt 8 n1) (BitVec.ofInt 8 n2)) ?_ (fun β _ => LRel.cons (rel_w8 w0) (LRel.cons (rel_w8 w1) (LRel.cons (rel_w8 w2) (LRel.cons (.bool (.c true)) (LRel.nil β)))))
    repeat' (refine all_true_cons ?_ ?_)
    all_goals first | exact all_true_nil | (rw [e1]; rfl) | (rw [e2]; rfl) | (rw [e3]; rfl) | (rw [e4]; rfl) | decide
  | false =>
    obtain ⟨e1, e2, e3, e4⟩ := conds (p := 361#32) (m := 361) rfl rfl (by omega) (by omega) comm361 one361 (BitVec.ofInt 8 n0) (BitVec.ofInt 8 n1) (BitVec.ofInt 8 n2)
    refine law_run hb [] ss_nil (runF (BitVec.ofInt 8 n0) (BitVec.ofInt 8 n1) (BitVec.ofInt 8 n2)) ?_ (fun β _ => LRel.cons (rel_w8 w0) (LRel.cons (rel_w8 w1) (LRel.cons (rel_w8 w2) (LRel.cons (.bool (.c false)) (LRel.nil β)))))
    repeat' (refine all_true_cons ?_ ?_)
    all_goals first | exact all_true_nil | (rw [e1]; rfl) | (rw [e2]; rfl) | (rw [e3]; rfl) | (rw [e4]; rfl) | decide


theorem own : ownKnob Try.prog.godebug = none := by kernel_rfl
theorem laidOut : laidOutB Try.prog = true := by kernel_rfl
theorem read5 : Try.prog.readableRec 5 = true ∧ 5 < Try.prog.types.size := ⟨by kernel_rfl, of_decide_eq_true (by kernel_rfl)⟩
theorem read4 : Try.prog.readableRec 4 = true ∧ 4 < Try.prog.types.size := ⟨by kernel_rfl, of_decide_eq_true (by kernel_rfl)⟩
set_option maxRecDepth 100000 in
theorem contract (H : Type) (enc : TypeId × Value → H) (W : World) (base : Nat) (args : Array Value) (ds gs : List (DataW H)) (before : List MemPlace)
    (hval : ∀ (j : Nat) t v, Try.f8.params[j]? = some t → args[j]? = some v → Value.okWide Try.prog W .any base t v)
    (hW : DataW.Whole enc Try.prog Try.f8.params.toList Rows.fnTwofishMultSpec.vars false W args.toList ds gs before) :
    Calls Try.prog 8 args W fun e W' => ∃ v, e = .returned v ∧ Rows.fnTwofishMultSpec.post enc Try.prog Try.f8 false true false false W args v W' := by
  have hW' := hW
  obtain ⟨p, q, hA0, hV, rfl, hfz, hnd⟩ := hW
  have hA : DataW.TrodAll enc Try.prog W 0 (fun _ => true) true Try.f8.params.toList args.toList ds p := hA0
  rw [Try.params8] at hA hval
  obtain ⟨v0, vs0, d0, ds0, p0, q0, hargs, rfl, rfl, h0, r0⟩ := trodAll_cons hA
  obtain ⟨v1, vs1, d1, ds1, p1, q1, rfl, rfl, rfl, h1, r1⟩ := trodAll_cons r0
  obtain ⟨v2, vs2, d2, ds2, p2, q2, rfl, rfl, rfl, h2, r2⟩ := trodAll_cons r1
  obtain ⟨v3, vs3, d3, ds3, p3, q3, rfl, rfl, rfl, h3, r3⟩ := trodAll_cons r2
  obtain ⟨rfl, rfl, rfl⟩ := trodAll_nil r3
  obtain rfl : args = #[v0, v1, v2, v3] := by cases args; simp_all
  obtain ⟨n0, rfl, rfl, rfl, w0⟩ := open_int Try.underlying5 (hval 0 5 v0 rfl rfl) h0
  obtain ⟨n1, rfl, rfl, rfl, w1⟩ := open_int Try.underlying5 (hval 1 5 v1 rfl rfl) h1
  obtain ⟨n2, rfl, rfl, rfl, w2⟩ := open_int Try.underlying5 (hval 2 5 v2 rfl rfl) h2
  obtain ⟨b3, rfl, rfl, rfl⟩ := open_bool Try.underlying4 (hval 3 4 v3 rfl rfl) h3
  refine (walk n0 w0 n1 w1 n2 w2 b3).mono fun e W' ⟨he, hs⟩ => ?_
  subst he
  exact ⟨_, rfl, post_of_still (tb := 4) hW' rfl rfl laidOut (by
    intro t ht
    rw [Try.params8] at ht
    have : t = 5 ∨ t = 4 := by simpa using ht
    rcases this with rfl | rfl
    · exact read5
    · exact read4
    ) (by kernel_rfl) Try.underlying4 hs⟩
set_option maxRecDepth 100000 in
theorem lifted (os : Os) (started : os.Started) (H : Type) (enc : TypeId × Value → H) :
    ReturnsInHanded {} Try.checked os 8 .any (Rows.fnTwofishMultSpec.pre6 enc Try.prog Try.f8 Rows.fnTwofishMultRow.domain false) (Rows.fnTwofishMultSpec.post enc Try.prog Try.f8 false true false false) := by
  refine returnsInHanded_of_change (C := Try.checked) own started (by kernel_rfl) Try.func8
    (ChangeSpec.witness6 (enc := enc) (C := Try.checked) false ⟨#[], #[.int .u8 0, .int .u8 0, .int .u8 0, .bool false], []⟩ 8 (by kernel_rfl) (by kernel_rfl) (by kernel_rfl) (by kernel_rfl)) ?_
  intro W base args ds gs before hval hW _ _
  exact contract H enc W base args ds gs before hval hW
theorem holds : Rows.FnTwofishMultSaid :=
  OpenClaim.holds_of_wide 8 Try.f8 rfl rfl rfl rfl rfl rfl rfl ⟨rfl, rfl, rfl, rfl, rfl⟩ rfl rfl rfl rfl rfl (by kernel_rfl) Try.func8 (by kernel_rfl)
    (of_decide_eq_true (by kernel_rfl)) (by unfold Func.isWrapper; first | (rw [if_pos (by decide +kernel)]; kernel_rfl) | (rw [if_neg (by decide +kernel)]; exact ⟨rfl, rfl⟩))
    (fun os started H enc _ => lifted os started H enc)
end Go.Proofs.Ytcjoocaabeckfaa.twofishMult

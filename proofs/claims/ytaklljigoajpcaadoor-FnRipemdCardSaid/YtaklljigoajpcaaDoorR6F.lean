/- RIPEMD-160's reference: the blocks of bytes that are filled up. -/
import Derived.Test.YtaklljigoajpcaaDoorR6Ok
import Derived.Test.YtaklljigoajpcaaDoorR5P
import Derived.Test.YtaklljigoajpcaaDoorR3Rip
namespace Go.Proofs.YtaklljigoajpcaaDoor.D
open Go.Eng
set_option linter.unusedSectionVars false
variable [RowAddr]
set_option linter.unusedSimpArgs false
set_option linter.unusedVariables false
structure z24D where
  v : Vec 8
  u : Vec 8
  k : Nat
  nn : BitVec 64
def z24_st0 (d : z24D) : Fr × List Blk :=
  match d with
  | ⟨v, u, k, nn⟩ => (⟨[(.ref (.sl 3 (.c 0) (.s k) none)), (.atom .undef), (.atom .nils), (.num (.w64 nn)), (.atom .undef), (.atom .undef), (.atom .undef), (.atom .undef)], []⟩, [⟨(.b8 v), .ro⟩, ⟨(.gen []), .dead⟩, ⟨(.gen []), .dead⟩, ⟨(.b8 u), .own⟩])
def z24_st (d : z24D) : Fr × List Blk :=
  match d with
  | ⟨v, u, k, nn⟩ => (⟨[(.ref (.sl 4 (.c 0) (.s k) none)), (.atom .undef), (.atom .nils), (.num (.w64 nn)), (.atom .undef), (.atom .undef), (.atom .undef), (.atom .undef)], []⟩, [⟨(.b8 v), .ro⟩, ⟨(.gen []), .dead⟩, ⟨(.gen []), .dead⟩, ⟨(.gen []), .dead⟩, ⟨(.b8 u), .own⟩])
def z24_next (d : z24D) : z24D :=
  match d with
  | ⟨v, u, k, nn⟩ => ⟨v, u.app (Vec.of [0#8]), k + 1, nn⟩
def z24_rd (F : Fr) (K : List Blk) : Option z24D :=
    match F with
    | ⟨[(.ref (.sl 3 (.c 0) (.s k) none)), (.atom .undef), (.atom .nils), (.num (.w64 nn)), (.atom .undef), (.atom .undef), (.atom .undef), (.atom .undef)], []⟩ =>
      match K with
      | [⟨(.b8 v), .ro⟩, ⟨(.gen []), .dead⟩, ⟨(.gen []), .dead⟩, ⟨(.b8 u), .own⟩] => some ⟨v, u, k, nn⟩
      | _ => none
    | _ => none
def z24 : LoopP z24D where
  pat := ⟨[(.ref (.sl 3 (.c 0) (.s 0) none)), (.atom .undef), (.atom .nils), (.num (.w64 0#64)), (.atom .undef), (.atom .undef), (.atom .undef), (.atom .undef)], []⟩
  patH := [⟨(.b8 (Vec.zero 8 0)), .ro⟩, ⟨(.gen []), .dead⟩, ⟨(.gen []), .dead⟩, ⟨(.b8 (Vec.zero 8 0)), .own⟩]
  gh := []
  read := z24_rd
  st := z24_st
  next := z24_next
  rem := fun ⟨_, _, k, _⟩ => (120 - k % 64) % 64
  good := fun ⟨_, u, k, _⟩ => decide (k = u.n ∧ k + (120 - k % 64) % 64 ≤ 1000000000000)
  out := .exit 0
  fin := z24_st
theorem z24_round (v u : Vec 8) (k : Nat) (nn : BitVec 64) : ranAs 4 (some [0,1,2,3,6]) (z24.st (z24_next ⟨v, u, k, nn⟩)) (goL noSpec noLoop 24 0 (z24.st ⟨v, u, k, nn⟩).1 ⟨(z24.st ⟨v, u, k, nn⟩).2, big, [true], []⟩) = some (.normal, (z24.st (z24_next ⟨v, u, k, nn⟩)), [(true && (k == u.n)), decide (((k + 1) * 1) ≤ 1099511627776), ((!((Int.tmod ((k : Nat) : Int) 64) == 56)) == true), decide ((64 : Int) ≠ 0)]) := by kernel_rfl
theorem z24_end (v u : Vec 8) (k : Nat) (nn : BitVec 64) : ranAs 4 none (z24.fin ⟨v, u, k, nn⟩) (goL noSpec noLoop 24 0 (z24.st ⟨v, u, k, nn⟩).1 ⟨(z24.st ⟨v, u, k, nn⟩).2, big, [false], []⟩) = some (z24.out, (z24.fin ⟨v, u, k, nn⟩), [((!((Int.tmod ((k : Nat) : Int) 64) == 56)) == false), decide ((64 : Int) ≠ 0)]) := by kernel_rfl
set_option maxRecDepth 100000 in
theorem z24_read (F : Fr) (K : List Blk) (d : z24D) (h : z24.read F K = some d) : (F, K) = z24_st0 d := by
  replace h : z24_rd F K = some d := h
  unfold z24_rd at h
  split at h
  case h_2 => cases h
  split at h
  case h_2 => cases h
  injection h with h; subst h
  rfl
theorem z24_body : RunOk Tryd.prog noGlob (nv 24) (ntmpsIn Tryd.prog 24) (loopIn Tryd.prog 24 0) (goL noSpec noLoop 24 0) := goL_ok no_specs (no_loops _) 24 0 fine24 (by rw [show (loopsIn Tryd.prog 24).length = 4 by kernel_rfl]; omega)
theorem z24_toldL : LoopOk Tryd.prog noGlob (nv 24) (ntmpsIn Tryd.prog 24) (loopIn Tryd.prog 24 0) (z24.M 3 z24_st0).told := by
  refine z24.ranM 3 4 z24_st0 z24_body rfl (by intro h; cases h) z24_read (by rintro ⟨v, u, k, nn⟩; exact ⟨rfl, _, rfl, rfl⟩) ?_ ?_
  · rintro ⟨v, u, k, nn⟩ kk hg hr
    have hg : k = u.n ∧ k + (120 - k % 64) % 64 ≤ 1000000000000 := of_decide_eq_true hg
    have hr : (120 - k % 64) % 64 = kk + 1 := hr
    have ht := Int.tmod_eq_emod_of_nonneg (b := 64) (show 0 ≤ (k : Int) by omega)
    have en : z24.next ⟨v, u, k, nn⟩ = z24_next ⟨v, u, k, nn⟩ := rfl
    rw [en]
    refine ⟨⟨[true], (some [0,1,2,3,6]), _, z24_round v u k nn, ?_⟩, ?_, ?_⟩
    · repeat' (refine all_true_cons ?_ ?_)
      all_goals first | exact all_true_nil | rfl | (simp only [Bool.and_eq_true, decide_eq_true_eq, beq_iff_eq, beq_true, beq_false, Bool.not_eq_true', decide_eq_false_iff_not, beq_eq_false_iff_ne, ne_eq, Bool.not_eq_false', bne_iff_ne, true_and, and_true] <;> omega)
    · have e : z24.good (z24_next ⟨v, u, k, nn⟩) = decide ((k + 1 : Nat) = (u.app (Vec.of [0#8]) : Vec 8).n ∧ (k + 1 : Nat) + (120 - (k + 1 : Nat) % 64) % 64 ≤ 1000000000000) := by kernel_rfl
      refine e.trans (decide_eq_true ?_)
      have : (u.app (Vec.of [0#8])).n = u.n + 1 := rfl
      rw [this]; omega
    · have e : z24.rem (z24_next ⟨v, u, k, nn⟩) = ((120 - (k + 1 : Nat) % 64) % 64) := by kernel_rfl
      refine e.trans ?_
      omega
  · rintro ⟨v, u, k, nn⟩ hg hr
    have hg : k = u.n ∧ k + (120 - k % 64) % 64 ≤ 1000000000000 := of_decide_eq_true hg
    have hr : (120 - k % 64) % 64 = 0 := hr
    have ht := Int.tmod_eq_emod_of_nonneg (b := 64) (show 0 ≤ (k : Int) by omega)
    refine ⟨[false], none, _, z24_end v u k nn, ?_⟩
    repeat' (refine all_true_cons ?_ ?_)
    all_goals first | exact all_true_nil | rfl | (simp only [Bool.and_eq_true, decide_eq_true_eq, beq_iff_eq, beq_true, beq_false, Bool.not_eq_true', decide_eq_false_iff_not, beq_eq_false_iff_ne, ne_eq, Bool.not_eq_false', bne_iff_ne, true_and, and_true] <;> omega)
def z24_spec : LSpec := (z24.M 3 z24_st0).told
theorem z24_told : Told 24 0 z24_spec := z24_toldL.run
structure o24D where
  v : Vec 8
  u : Vec 8
  w : Vec 32
  o : Nat
  np : Nat
  k : Nat
def o24_st (d : o24D) : Fr × List Blk :=
  match d with
  | ⟨v, u, w, o, np, k⟩ => (⟨[(.ref (.sl 20 (.s o) (.s np) none)), (.atom .undef), (.atom .nils), (.atom .undef), (.atom .undef), (.ref (.sm 21 (.s k) 16)), (.atom .undef), (.atom .undef)], []⟩, [⟨(.b8 v), .ro⟩, ⟨(.gen []), .dead⟩, ⟨(.gen []), .dead⟩, ⟨(.gen []), .dead⟩, ⟨(.gen []), .dead⟩, ⟨(.gen []), .dead⟩, ⟨(.gen []), .dead⟩, ⟨(.gen []), .dead⟩, ⟨(.gen []), .dead⟩, ⟨(.gen []), .dead⟩, ⟨(.gen []), .dead⟩, ⟨(.gen []), .dead⟩, ⟨(.gen []), .dead⟩, ⟨(.gen []), .dead⟩, ⟨(.gen []), .dead⟩, ⟨(.gen []), .dead⟩, ⟨(.gen []), .dead⟩, ⟨(.gen []), .dead⟩, ⟨(.gen []), .dead⟩, ⟨(.gen []), .dead⟩, ⟨(.b8 u), .ro⟩, ⟨(.b32 w), .own⟩])
def o24_next (d : o24D) : o24D :=
  match d with
  | ⟨v, u, w, o, np, k⟩ => ⟨v, u, w.app (wrd u o), o + 64, np - 64, k + 1⟩
def o24_rd (F : Fr) (K : List Blk) : Option o24D :=
    match F with
    | ⟨[(.ref (.sl 20 (.s o) (.s np) none)), (.atom .undef), (.atom .nils), (.atom .undef), (.atom .undef), (.ref (.sm 21 (.s k) 16)), (.atom .undef), (.atom .undef)], []⟩ =>
      match K with
      | [⟨(.b8 v), .ro⟩, ⟨(.gen []), .dead⟩, ⟨(.gen []), .dead⟩, ⟨(.gen []), .dead⟩, ⟨(.gen []), .dead⟩, ⟨(.gen []), .dead⟩, ⟨(.gen []), .dead⟩, ⟨(.gen []), .dead⟩, ⟨(.gen []), .dead⟩, ⟨(.gen []), .dead⟩, ⟨(.gen []), .dead⟩, ⟨(.gen []), .dead⟩, ⟨(.gen []), .dead⟩, ⟨(.gen []), .dead⟩, ⟨(.gen []), .dead⟩, ⟨(.gen []), .dead⟩, ⟨(.gen []), .dead⟩, ⟨(.gen []), .dead⟩, ⟨(.gen []), .dead⟩, ⟨(.gen []), .dead⟩, ⟨(.b8 u), .ro⟩, ⟨(.b32 w), .own⟩] => some ⟨v, u, w, o, np, k⟩
      | _ => none
    | _ => none
def o24 : LoopP o24D where
  pat := ⟨[(.ref (.sl 20 (.s 0) (.s 0) none)), (.atom .undef), (.atom .nils), (.atom .undef), (.atom .undef), (.ref (.sm 21 (.s 0) 16)), (.atom .undef), (.atom .undef)], []⟩
  patH := [⟨(.b8 (Vec.zero 8 0)), .ro⟩, ⟨(.gen []), .dead⟩, ⟨(.gen []), .dead⟩, ⟨(.gen []), .dead⟩, ⟨(.gen []), .dead⟩, ⟨(.gen []), .dead⟩, ⟨(.gen []), .dead⟩, ⟨(.gen []), .dead⟩, ⟨(.gen []), .dead⟩, ⟨(.gen []), .dead⟩, ⟨(.gen []), .dead⟩, ⟨(.gen []), .dead⟩, ⟨(.gen []), .dead⟩, ⟨(.gen []), .dead⟩, ⟨(.gen []), .dead⟩, ⟨(.gen []), .dead⟩, ⟨(.gen []), .dead⟩, ⟨(.gen []), .dead⟩, ⟨(.gen []), .dead⟩, ⟨(.gen []), .dead⟩, ⟨(.b8 (Vec.zero 8 0)), .ro⟩, ⟨(.b32 (Vec.zero 32 0)), .own⟩]
  gh := [⟨.gen [], .own⟩]
  read := o24_rd
  st := o24_st
  next := o24_next
  rem := fun ⟨_, _, _, _, np, _⟩ => np / 64
  good := fun ⟨_, u, w, o, np, k⟩ => decide (o + np ≤ u.n ∧ np % 64 = 0 ∧ k * 16 = w.n ∧ k + np / 64 ≤ 1000000000)
  out := .exit 4
  fin := o24_st
theorem o24_round (v u : Vec 8) (w : Vec 32) (o np k : Nat) : ranAs ((o24.st ⟨v, u, w, o, np, k⟩).2.length - o24.gh.length) (some [0, 1, 2, 3, 4, 5, 6, 7, 8, 9, 10, 11, 12, 13, 14, 15, 16, 17, 18, 19, 20, 24]) (o24.st (o24_next ⟨v, u, w, o, np, k⟩)) (goL noSpec noLoop 24 2 (o24.st ⟨v, u, w, o, np, k⟩).1 ⟨(o24.st ⟨v, u, w, o, np, k⟩).2, big, [true], []⟩) = some (.normal, (o24.st (o24_next ⟨v, u, w, o, np, k⟩)), [((true && decide ((64 : Int) ≤ ((np : Nat) : Int))) && decide (((np : Nat) : Int) ≤ ((np : Nat) : Int))), decide (((k + 1) * 64) ≤ 1099511627776), ((k * 16) == w.n), decide (((o + 60) + 3) < u.n), (true && decide ((3 : Int) < (((((((np : Nat) : Int)) : Int).toNat - 60) : Nat) : Int))), decide (((o + 60) + 2) < u.n), (true && decide ((2 : Int) < (((((((np : Nat) : Int)) : Int).toNat - 60) : Nat) : Int))), decide (((o + 60) + 1) < u.n), (true && decide ((1 : Int) < (((((((np : Nat) : Int)) : Int).toNat - 60) : Nat) : Int))), decide (((o + 60) + 0) < u.n), (true && decide ((0 : Int) < (((((((np : Nat) : Int)) : Int).toNat - 60) : Nat) : Int))), ((true && decide ((60 : Int) ≤ ((np : Nat) : Int))) && decide (((np : Nat) : Int) ≤ ((np : Nat) : Int))), decide (((o + 56) + 3) < u.n), (true && decide ((3 : Int) < (((((((np : Nat) : Int)) : Int).toNat - 56) : Nat) : Int))), decide (((o + 56) + 2) < u.n), (true && decide ((2 : Int) < (((((((np : Nat) : Int)) : Int).toNat - 56) : Nat) : Int))), decide (((o + 56) + 1) < u.n), (true && decide ((1 : Int) < (((((((np : Nat) : Int)) : Int).toNat - 56) : Nat) : Int))), decide (((o + 56) + 0) < u.n), (true && decide ((0 : Int) < (((((((np : Nat) : Int)) : Int).toNat - 56) : Nat) : Int))), ((true && decide ((56 : Int) ≤ ((np : Nat) : Int))) && decide (((np : Nat) : Int) ≤ ((np : Nat) : Int))), decide (((o + 52) + 3) < u.n), (true && decide ((3 : Int) < (((((((np : Nat) : Int)) : Int).toNat - 52) : Nat) : Int))), decide (((o + 52) + 2) < u.n), (true && decide ((2 : Int) < (((((((np : Nat) : Int)) : Int).toNat - 52) : Nat) : Int))), decide (((o + 52) + 1) < u.n), (true && decide ((1 : Int) < (((((((np : Nat) : Int)) : Int).toNat - 52) : Nat) : Int))), decide (((o + 52) + 0) < u.n), (true && decide ((0 : Int) < (((((((np : Nat) : Int)) : Int).toNat - 52) : Nat) : Int))), ((true && decide ((52 : Int) ≤ ((np : Nat) : Int))) && decide (((np : Nat) : Int) ≤ ((np : Nat) : Int))), decide (((o + 48) + 3) < u.n), (true && decide ((3 : Int) < (((((((np : Nat) : Int)) : Int).toNat - 48) : Nat) : Int))), decide (((o + 48) + 2) < u.n), (true && decide ((2 : Int) < (((((((np : Nat) : Int)) : Int).toNat - 48) : Nat) : Int))), decide (((o + 48) + 1) < u.n), (true && decide ((1 : Int) < (((((((np : Nat) : Int)) : Int).toNat - 48) : Nat) : Int))), decide (((o + 48) + 0) < u.n), (true && decide ((0 : Int) < (((((((np : Nat) : Int)) : Int).toNat - 48) : Nat) : Int))), ((true && decide ((48 : Int) ≤ ((np : Nat) : Int))) && decide (((np : Nat) : Int) ≤ ((np : Nat) : Int))), decide (((o + 44) + 3) < u.n), (true && decide ((3 : Int) < (((((((np : Nat) : Int)) : Int).toNat - 44) : Nat) : Int))), decide (((o + 44) + 2) < u.n), (true && decide ((2 : Int) < (((((((np : Nat) : Int)) : Int).toNat - 44) : Nat) : Int))), decide (((o + 44) + 1) < u.n), (true && decide ((1 : Int) < (((((((np : Nat) : Int)) : Int).toNat - 44) : Nat) : Int))), decide (((o + 44) + 0) < u.n), (true && decide ((0 : Int) < (((((((np : Nat) : Int)) : Int).toNat - 44) : Nat) : Int))), ((true && decide ((44 : Int) ≤ ((np : Nat) : Int))) && decide (((np : Nat) : Int) ≤ ((np : Nat) : Int))), decide (((o + 40) + 3) < u.n), (true && decide ((3 : Int) < (((((((np : Nat) : Int)) : Int).toNat - 40) : Nat) : Int))), decide (((o + 40) + 2) < u.n), (true && decide ((2 : Int) < (((((((np : Nat) : Int)) : Int).toNat - 40) : Nat) : Int))), decide (((o + 40) + 1) < u.n), (true && decide ((1 : Int) < (((((((np : Nat) : Int)) : Int).toNat - 40) : Nat) : Int))), decide (((o + 40) + 0) < u.n), (true && decide ((0 : Int) < (((((((np : Nat) : Int)) : Int).toNat - 40) : Nat) : Int))), ((true && decide ((40 : Int) ≤ ((np : Nat) : Int))) && decide (((np : Nat) : Int) ≤ ((np : Nat) : Int))), decide (((o + 36) + 3) < u.n), (true && decide ((3 : Int) < (((((((np : Nat) : Int)) : Int).toNat - 36) : Nat) : Int))), decide (((o + 36) + 2) < u.n), (true && decide ((2 : Int) < (((((((np : Nat) : Int)) : Int).toNat - 36) : Nat) : Int))), decide (((o + 36) + 1) < u.n), (true && decide ((1 : Int) < (((((((np : Nat) : Int)) : Int).toNat - 36) : Nat) : Int))), decide (((o + 36) + 0) < u.n), (true && decide ((0 : Int) < (((((((np : Nat) : Int)) : Int).toNat - 36) : Nat) : Int))), ((true && decide ((36 : Int) ≤ ((np : Nat) : Int))) && decide (((np : Nat) : Int) ≤ ((np : Nat) : Int))), decide (((o + 32) + 3) < u.n), (true && decide ((3 : Int) < (((((((np : Nat) : Int)) : Int).toNat - 32) : Nat) : Int))), decide (((o + 32) + 2) < u.n), (true && decide ((2 : Int) < (((((((np : Nat) : Int)) : Int).toNat - 32) : Nat) : Int))), decide (((o + 32) + 1) < u.n), (true && decide ((1 : Int) < (((((((np : Nat) : Int)) : Int).toNat - 32) : Nat) : Int))), decide (((o + 32) + 0) < u.n), (true && decide ((0 : Int) < (((((((np : Nat) : Int)) : Int).toNat - 32) : Nat) : Int))), ((true && decide ((32 : Int) ≤ ((np : Nat) : Int))) && decide (((np : Nat) : Int) ≤ ((np : Nat) : Int))), decide (((o + 28) + 3) < u.n), (true && decide ((3 : Int) < (((((((np : Nat) : Int)) : Int).toNat - 28) : Nat) : Int))), decide (((o + 28) + 2) < u.n), (true && decide ((2 : Int) < (((((((np : Nat) : Int)) : Int).toNat - 28) : Nat) : Int))), decide (((o + 28) + 1) < u.n), (true && decide ((1 : Int) < (((((((np : Nat) : Int)) : Int).toNat - 28) : Nat) : Int))), decide (((o + 28) + 0) < u.n), (true && decide ((0 : Int) < (((((((np : Nat) : Int)) : Int).toNat - 28) : Nat) : Int))), ((true && decide ((28 : Int) ≤ ((np : Nat) : Int))) && decide (((np : Nat) : Int) ≤ ((np : Nat) : Int))), decide (((o + 24) + 3) < u.n), (true && decide ((3 : Int) < (((((((np : Nat) : Int)) : Int).toNat - 24) : Nat) : Int))), decide (((o + 24) + 2) < u.n), (true && decide ((2 : Int) < (((((((np : Nat) : Int)) : Int).toNat - 24) : Nat) : Int))), decide (((o + 24) + 1) < u.n), (true && decide ((1 : Int) < (((((((np : Nat) : Int)) : Int).toNat - 24) : Nat) : Int))), decide (((o + 24) + 0) < u.n), (true && decide ((0 : Int) < (((((((np : Nat) : Int)) : Int).toNat - 24) : Nat) : Int))), ((true && decide ((24 : Int) ≤ ((np : Nat) : Int))) && decide (((np : Nat) : Int) ≤ ((np : Nat) : Int))), decide (((o + 20) + 3) < u.n), (true && decide ((3 : Int) < (((((((np : Nat) : Int)) : Int).toNat - 20) : Nat) : Int))), decide (((o + 20) + 2) < u.n), (true && decide ((2 : Int) < (((((((np : Nat) : Int)) : Int).toNat - 20) : Nat) : Int))), decide (((o + 20) + 1) < u.n), (true && decide ((1 : Int) < (((((((np : Nat) : Int)) : Int).toNat - 20) : Nat) : Int))), decide (((o + 20) + 0) < u.n), (true && decide ((0 : Int) < (((((((np : Nat) : Int)) : Int).toNat - 20) : Nat) : Int))), ((true && decide ((20 : Int) ≤ ((np : Nat) : Int))) && decide (((np : Nat) : Int) ≤ ((np : Nat) : Int))), decide (((o + 16) + 3) < u.n), (true && decide ((3 : Int) < (((((((np : Nat) : Int)) : Int).toNat - 16) : Nat) : Int))), decide (((o + 16) + 2) < u.n), (true && decide ((2 : Int) < (((((((np : Nat) : Int)) : Int).toNat - 16) : Nat) : Int))), decide (((o + 16) + 1) < u.n), (true && decide ((1 : Int) < (((((((np : Nat) : Int)) : Int).toNat - 16) : Nat) : Int))), decide (((o + 16) + 0) < u.n), (true && decide ((0 : Int) < (((((((np : Nat) : Int)) : Int).toNat - 16) : Nat) : Int))), ((true && decide ((16 : Int) ≤ ((np : Nat) : Int))) && decide (((np : Nat) : Int) ≤ ((np : Nat) : Int))), decide (((o + 12) + 3) < u.n), (true && decide ((3 : Int) < (((((((np : Nat) : Int)) : Int).toNat - 12) : Nat) : Int))), decide (((o + 12) + 2) < u.n), (true && decide ((2 : Int) < (((((((np : Nat) : Int)) : Int).toNat - 12) : Nat) : Int))), decide (((o + 12) + 1) < u.n), (true && decide ((1 : Int) < (((((((np : Nat) : Int)) : Int).toNat - 12) : Nat) : Int))), decide (((o + 12) + 0) < u.n), (true && decide ((0 : Int) < (((((((np : Nat) : Int)) : Int).toNat - 12) : Nat) : Int))), ((true && decide ((12 : Int) ≤ ((np : Nat) : Int))) && decide (((np : Nat) : Int) ≤ ((np : Nat) : Int))), decide (((o + 8) + 3) < u.n), (true && decide ((3 : Int) < (((((((np : Nat) : Int)) : Int).toNat - 8) : Nat) : Int))), decide (((o + 8) + 2) < u.n), (true && decide ((2 : Int) < (((((((np : Nat) : Int)) : Int).toNat - 8) : Nat) : Int))), decide (((o + 8) + 1) < u.n), (true && decide ((1 : Int) < (((((((np : Nat) : Int)) : Int).toNat - 8) : Nat) : Int))), decide (((o + 8) + 0) < u.n), (true && decide ((0 : Int) < (((((((np : Nat) : Int)) : Int).toNat - 8) : Nat) : Int))), ((true && decide ((8 : Int) ≤ ((np : Nat) : Int))) && decide (((np : Nat) : Int) ≤ ((np : Nat) : Int))), decide (((o + 4) + 3) < u.n), (true && decide ((3 : Int) < (((((((np : Nat) : Int)) : Int).toNat - 4) : Nat) : Int))), decide (((o + 4) + 2) < u.n), (true && decide ((2 : Int) < (((((((np : Nat) : Int)) : Int).toNat - 4) : Nat) : Int))), decide (((o + 4) + 1) < u.n), (true && decide ((1 : Int) < (((((((np : Nat) : Int)) : Int).toNat - 4) : Nat) : Int))), decide (((o + 4) + 0) < u.n), (true && decide ((0 : Int) < (((((((np : Nat) : Int)) : Int).toNat - 4) : Nat) : Int))), ((true && decide ((4 : Int) ≤ ((np : Nat) : Int))) && decide (((np : Nat) : Int) ≤ ((np : Nat) : Int))), decide (((o + 0) + 3) < u.n), (true && decide ((3 : Int) < (((((((np : Nat) : Int)) : Int).toNat - 0) : Nat) : Int))), decide (((o + 0) + 2) < u.n), (true && decide ((2 : Int) < (((((((np : Nat) : Int)) : Int).toNat - 0) : Nat) : Int))), decide (((o + 0) + 1) < u.n), (true && decide ((1 : Int) < (((((((np : Nat) : Int)) : Int).toNat - 0) : Nat) : Int))), decide (((o + 0) + 0) < u.n), (true && decide ((0 : Int) < (((((((np : Nat) : Int)) : Int).toNat - 0) : Nat) : Int))), ((true && decide ((0 : Int) ≤ ((np : Nat) : Int))) && decide (((np : Nat) : Int) ≤ ((np : Nat) : Int))), (decide ((0 : Int) < ((np : Nat) : Int)) == true)]) := by kernel_rfl
theorem o24_end (v u : Vec 8) (w : Vec 32) (o np k : Nat) : ranAs ((o24.st ⟨v, u, w, o, np, k⟩).2.length - o24.gh.length) none (o24.fin ⟨v, u, w, o, np, k⟩) (goL noSpec noLoop 24 2 (o24.st ⟨v, u, w, o, np, k⟩).1 ⟨(o24.st ⟨v, u, w, o, np, k⟩).2, big, [false], []⟩) = some (o24.out, (o24.fin ⟨v, u, w, o, np, k⟩), [(decide ((0 : Int) < ((np : Nat) : Int)) == false)]) := by kernel_rfl
set_option maxRecDepth 100000 in
theorem o24_read (F : Fr) (K : List Blk) (d : o24D) (h : o24.read F K = some d) : (F, K) = o24.st d := by
  replace h : o24_rd F K = some d := h
  unfold o24_rd at h
  split at h
  case h_2 => cases h
  split at h
  case h_2 => cases h
  injection h with h; subst h
  rfl
theorem o24_body : RunOk Tryd.prog noGlob (nv 24) (ntmpsIn Tryd.prog 24) (loopIn Tryd.prog 24 2) (goL noSpec noLoop 24 2) := goL_ok no_specs (no_loops _) 24 2 fine24 (by rw [show (loopsIn Tryd.prog 24).length = 4 by kernel_rfl]; omega)
theorem o24_toldL : LoopOk Tryd.prog noGlob (nv 24) (ntmpsIn Tryd.prog 24) (loopIn Tryd.prog 24 2) o24.T.told := by
  refine o24.ran o24_body (by intro k hk; simp [o24] at hk; subst hk; rfl) (by intro h; cases h) o24_read ?_ ?_
  · rintro ⟨v, u, w, o, np, k⟩ kk hg hr
    have hg : o + np ≤ u.n ∧ np % 64 = 0 ∧ k * 16 = w.n ∧ k + np / 64 ≤ 1000000000 := of_decide_eq_true hg
    have hr : np / 64 = kk + 1 := hr
    have en : o24.next ⟨v, u, w, o, np, k⟩ = o24_next ⟨v, u, w, o, np, k⟩ := rfl
    rw [en]
    refine ⟨⟨[true], (some [0, 1, 2, 3, 4, 5, 6, 7, 8, 9, 10, 11, 12, 13, 14, 15, 16, 17, 18, 19, 20, 24]), _, o24_round v u w o np k, ?_⟩, ?_, ?_, (show (o24.st (o24_next ⟨v, u, w, o, np, k⟩)).2.length = 22 by kernel_rfl).trans (show (o24.st ⟨v, u, w, o, np, k⟩).2.length = 22 by kernel_rfl).symm⟩
    · repeat' (refine all_true_cons ?_ ?_)
      all_goals first | exact all_true_nil | rfl | (simp only [Bool.and_eq_true, decide_eq_true_eq, beq_iff_eq, beq_true, beq_false, Bool.not_eq_true', decide_eq_false_iff_not, beq_eq_false_iff_ne, ne_eq, Bool.not_eq_false', bne_iff_ne, true_and, and_true] <;> omega)
    · have e : o24.good (o24_next ⟨v, u, w, o, np, k⟩) = decide ((o + 64 : Nat) + (np - 64 : Nat) ≤ u.n ∧ (np - 64 : Nat) % 64 = 0 ∧ (k + 1 : Nat) * 16 = (w.app (wrd u o) : Vec 32).n ∧ (k + 1 : Nat) + (np - 64 : Nat) / 64 ≤ 1000000000) := by kernel_rfl
      refine e.trans (decide_eq_true ?_)
      have : (w.app (wrd u o)).n = w.n + 16 := rfl
      rw [this]; omega
    · have e : o24.rem (o24_next ⟨v, u, w, o, np, k⟩) = ((np - 64 : Nat) / 64) := by kernel_rfl
      refine e.trans ?_
      omega
  · rintro ⟨v, u, w, o, np, k⟩ hg hr
    have hg : o + np ≤ u.n ∧ np % 64 = 0 ∧ k * 16 = w.n ∧ k + np / 64 ≤ 1000000000 := of_decide_eq_true hg
    have hr : np / 64 = 0 := hr
    refine ⟨[false], none, _, o24_end v u w o np k, ?_⟩
    repeat' (refine all_true_cons ?_ ?_)
    all_goals first | exact all_true_nil | rfl | (simp only [Bool.and_eq_true, decide_eq_true_eq, beq_iff_eq, beq_true, beq_false, Bool.not_eq_true', decide_eq_false_iff_not, beq_eq_false_iff_ne, ne_eq, Bool.not_eq_false', bne_iff_ne, true_and, and_true] <;> omega)
def o24_spec : LSpec := o24.T.told
theorem o24_told : Told 24 2 o24_spec := o24_toldL.run
def l24s : FuncId → Nat → Option LSpec
  | 24, 3 => some z24_spec
  | 24, 10 => some o24_spec
  | _, _ => none
theorem l24s_len : (loopsIn Tryd.prog 24).length = 4 := by kernel_rfl
theorem l24s_ok (spec : FuncId → Option Eng.Spec) : LoopsOk (cfg spec l24s) noGlob := by
  refine LoopsOk.of fun f => ?_
  by_cases hf : f = 24
  · subst hf
    refine .inr ⟨by kernel_rfl, fun i hi sp hsp => ?_⟩
    have hi : i < (loopsIn Tryd.prog 24).length := hi
    rw [l24s_len] at hi
    match i, hi with
    | 0, _ =>
      have e : (firstRid (loopIn Tryd.prog 24 0)).bind (l24s 24) = some z24_spec := by kernel_rfl
      obtain rfl := Option.some.inj (e.symm.trans hsp)
      exact z24_told
    | 1, _ =>
      have e : (firstRid (loopIn Tryd.prog 24 1)).bind (l24s 24) = none := by kernel_rfl
      have hsp : (firstRid (loopIn Tryd.prog 24 1)).bind (l24s 24) = some sp := hsp
      rw [e] at hsp; cases hsp
    | 2, _ =>
      have e : (firstRid (loopIn Tryd.prog 24 2)).bind (l24s 24) = some o24_spec := by kernel_rfl
      obtain rfl := Option.some.inj (e.symm.trans hsp)
      exact o24_told
    | 3, _ =>
      have e : (firstRid (loopIn Tryd.prog 24 3)).bind (l24s 24) = none := by kernel_rfl
      have hsp : (firstRid (loopIn Tryd.prog 24 3)).bind (l24s 24) = some sp := hsp
      rw [e] at hsp; cases hsp
  · refine .inl fun r => ?_
    show l24s f r = none
    unfold l24s
    split
    · exact absurd rfl hf
    · exact absurd rfl hf
    · rfl
def fB (nn : BitVec 64) (i : Nat) : BitVec 8 := (nn >>> (8 * i)).setWidth 8
def app8 (u : Vec 8) (nn : BitVec 64) : Vec 8 := (((((((u.app (Vec.of [fB nn 0])).app (Vec.of [fB nn 1])).app (Vec.of [fB nn 2])).app (Vec.of [fB nn 3])).app (Vec.of [fB nn 4])).app (Vec.of [fB nn 5])).app (Vec.of [fB nn 6])).app (Vec.of [fB nn 7])
def bits (np : Nat) : BitVec 64 := BitVec.ofInt 64 ((np : Nat) : Int) * 8#64
/-- So many blocks' words, one behind the other. -/
def allW (u : Vec 8) (o : Nat) : Nat → Vec 32
  | 0 => Vec.of []
  | m + 1 => (allW u o m).app (wrd u (o + 64 * m))
theorem z24_it (v u : Vec 8) (k : Nat) (nn : BitVec 64) : ∀ m : Nat, iter z24_next m ⟨v, u, k, nn⟩ = ⟨v, B.zapp u m, k + m, nn⟩
  | 0 => rfl
  | m + 1 => by
    rw [iter_succ, z24_it v u k nn m]; rfl
theorem o24_it (v u : Vec 8) (o np : Nat) : ∀ m : Nat, 64 * m ≤ np → iter o24_next m ⟨v, u, Vec.of [], o, np, 0⟩ = ⟨v, u, allW u o m, o + 64 * m, np - 64 * m, m⟩
  | 0, _ => rfl
  | m + 1, h => by
    rw [iter_succ, o24_it v u o np m (by omega)]
    show (⟨v, u, (allW u o m).app (wrd u (o + 64 * m)), o + 64 * m + 64, np - 64 * m - 64, m + 1⟩ : o24D) = _
    rw [show o + 64 * m + 64 = o + 64 * (m + 1) by omega, show np - 64 * m - 64 = np - 64 * (m + 1) by omega]
    rfl
def Z24 (v : Vec 8) (o np : Nat) : z24D := iter z24_next ((120 - (np + 1) % 64) % 64) ⟨v, (v.sub o np).app (Vec.of [128#8]), np + 1, bits np⟩
theorem Z24_eq (v : Vec 8) (o np : Nat) : Z24 v o np = ⟨v, B.zapp ((v.sub o np).app (Vec.of [128#8])) (B.padM np), np + 1 + B.padM np, bits np⟩ := by
  unfold Z24
  rw [z24_it]; rfl
def fillV (v : Vec 8) (o np : Nat) : Vec 8 := app8 (B.zapp ((v.sub o np).app (Vec.of [128#8])) (B.padM np)) (bits np)
def N24 (v : Vec 8) (o np : Nat) : Nat := (Z24 v o np).k + 1 + 1 + 1 + 1 + 1 + 1 + 1 + 1
def Y24 (v : Vec 8) (o np : Nat) : o24D := iter o24_next (N24 v o np / 64) ⟨v, app8 (Z24 v o np).u (Z24 v o np).nn, Vec.of [], 0, N24 v o np, 0⟩
theorem N24_eq (v : Vec 8) (o np : Nat) : N24 v o np = B.padN np := by
  unfold N24
  rw [Z24_eq]
  show np + 1 + B.padM np + 1 + 1 + 1 + 1 + 1 + 1 + 1 + 1 = np + 1 + B.padM np + 8
  omega
theorem Y24_eq (v : Vec 8) (o np : Nat) : Y24 v o np = ⟨v, fillV v o np, allW (fillV v o np) 0 (B.padN np / 64), 0 + 64 * (B.padN np / 64), B.padN np - 64 * (B.padN np / 64), B.padN np / 64⟩ := by
  unfold Y24
  rw [N24_eq, Z24_eq]
  exact o24_it v (fillV v o np) 0 (B.padN np) (B.padN np / 64) (by omega)
theorem fillV_n (v : Vec 8) (o np : Nat) : (fillV v o np).n = B.padN np := by
  show (B.zapp ((v.sub o np).app (Vec.of [128#8])) (B.padM np)).n + 1 + 1 + 1 + 1 + 1 + 1 + 1 + 1 = _
  rw [B.zapp_n]
  show np + 1 + B.padM np + 1 + 1 + 1 + 1 + 1 + 1 + 1 + 1 = np + 1 + B.padM np + 8
  omega
structure c24D where
  v : Vec 8
  o : Nat
  np : Nat
def c24_rd (a : List AV) (K : List Blk) : Option c24D :=
    match a with
    | [(.ref (.sl 0 (.s o) (.s np) none))] =>
      match K with
      | [⟨(.b8 v), .ro⟩] => some ⟨v, o, np⟩
      | _ => none
    | _ => none
def c24 : Ct c24D where
  pat := [(.ref (.sl 0 (.s 0) (.s 0) none))]
  patH := [⟨(.b8 (Vec.zero 8 0)), .ro⟩]
  read := c24_rd
  args := fun ⟨_, o, np⟩ => [(.ref (.sl 0 (.s o) (.s np) none))]
  heap := fun ⟨v, _, _⟩ => [⟨(.b8 v), .ro⟩]
  out := fun ⟨v, o, np⟩ => [⟨(.b8 v), .ro⟩, ⟨(.b32 (allW (fillV v o np) 0 (B.padN np / 64))), .own⟩]
  val := fun ⟨_, _, np⟩ => (.ref (.sm 1 (.s (B.padN np / 64)) 16))
  good := fun ⟨v, o, np⟩ => decide (o + np ≤ v.n ∧ np ≤ 10000000000)
theorem c24_run (v : Vec 8) (o np : Nat) : endsAs (c24.heap ⟨v, o, np⟩).length (some [0, 21]) [⟨(.b8 v), .ro⟩, ⟨(.b32 ((Y24 v o np)).w), .own⟩] (.ref (.sm 1 (.s ((Y24 v o np)).k) 16)) (goB noSpec l24s 24 (c24.args ⟨v, o, np⟩) ⟨c24.heap ⟨v, o, np⟩, big, [], []⟩) = some ([⟨(.b8 v), .ro⟩, ⟨(.b32 ((Y24 v o np)).w), .own⟩], (.ref (.sm 1 (.s ((Y24 v o np)).k) 16)), [decide (((0 + ((((((((((Z24 v o np)).k + 1) + 1) + 1) + 1) + 1) + 1) + 1) + 1)) ≤ ((((((((((Z24 v o np)).u.n + 1) + 1) + 1) + 1) + 1) + 1) + 1) + 1) ∧ ((((((((((((Z24 v o np)).k + 1) + 1) + 1) + 1) + 1) + 1) + 1) + 1) % 64) = 0 ∧ ((0 : Nat) = 0 ∧ (0 + (((((((((((Z24 v o np)).k + 1) + 1) + 1) + 1) + 1) + 1) + 1) + 1) / 64)) ≤ 1000000000)))), (true && ((((((((((Z24 v o np)).k + 1) + 1) + 1) + 1) + 1) + 1) + 1) == (((((((((Z24 v o np)).u.n + 1) + 1) + 1) + 1) + 1) + 1) + 1))), decide ((((((((((((Z24 v o np)).k + 1) + 1) + 1) + 1) + 1) + 1) + 1) + 1) * 1) ≤ 1099511627776), (true && (((((((((Z24 v o np)).k + 1) + 1) + 1) + 1) + 1) + 1) == ((((((((Z24 v o np)).u.n + 1) + 1) + 1) + 1) + 1) + 1))), decide (((((((((((Z24 v o np)).k + 1) + 1) + 1) + 1) + 1) + 1) + 1) * 1) ≤ 1099511627776), (true && ((((((((Z24 v o np)).k + 1) + 1) + 1) + 1) + 1) == (((((((Z24 v o np)).u.n + 1) + 1) + 1) + 1) + 1))), decide ((((((((((Z24 v o np)).k + 1) + 1) + 1) + 1) + 1) + 1) * 1) ≤ 1099511627776), (true && (((((((Z24 v o np)).k + 1) + 1) + 1) + 1) == ((((((Z24 v o np)).u.n + 1) + 1) + 1) + 1))), decide (((((((((Z24 v o np)).k + 1) + 1) + 1) + 1) + 1) * 1) ≤ 1099511627776), (true && ((((((Z24 v o np)).k + 1) + 1) + 1) == (((((Z24 v o np)).u.n + 1) + 1) + 1))), decide ((((((((Z24 v o np)).k + 1) + 1) + 1) + 1) * 1) ≤ 1099511627776), (true && (((((Z24 v o np)).k + 1) + 1) == ((((Z24 v o np)).u.n + 1) + 1))), decide (((((((Z24 v o np)).k + 1) + 1) + 1) * 1) ≤ 1099511627776), (true && ((((Z24 v o np)).k + 1) == (((Z24 v o np)).u.n + 1))), decide ((((((Z24 v o np)).k + 1) + 1) * 1) ≤ 1099511627776), (true && (((Z24 v o np)).k == ((Z24 v o np)).u.n)), decide (((((Z24 v o np)).k + 1) * 1) ≤ 1099511627776), decide (((np + 1) = (np + 1) ∧ ((np + 1) + ((120 - ((np + 1) % 64)) % 64)) ≤ 1000000000000)), (true && (np == np)), decide (((np + 1) * 1) ≤ 1099511627776), decide ((np * 1) ≤ 1099511627776), decide ((o + np) ≤ v.n)]) := by kernel_rfl
set_option maxRecDepth 100000 in
theorem c24_read (a : List AV) (K : List Blk) (d : c24D) (h : c24.read a K = some d) : a = c24.args d ∧ K = c24.heap d := by
  replace h : c24_rd a K = some d := h
  unfold c24_rd at h
  split at h
  case h_2 => cases h
  split at h
  case h_2 => cases h
  injection h with h; subst h
  exact ⟨rfl, rfl⟩
theorem c24_ok : SpecOk Tryd.prog noGlob 24 c24.spec := by
  refine c24.ok (goB_ok no_specs (l24s_ok _)) c24_read ?_
  rintro ⟨v, o, np⟩ hg
  have hg : o + np ≤ v.n ∧ np ≤ 10000000000 := of_decide_eq_true hg
  have eo : c24.out ⟨v, o, np⟩ = [⟨(.b8 v), .ro⟩, ⟨(.b32 ((Y24 v o np)).w), .own⟩] := by
    rw [Y24_eq]
    rfl
  have ev : c24.val ⟨v, o, np⟩ = (.ref (.sm 1 (.s ((Y24 v o np)).k) 16)) := by
    rw [Y24_eq]
    rfl
  rw [eo, ev]
  refine ⟨[], (some [0, 21]), _, c24_run v o np, ?_⟩
  have hz := Z24_eq v o np
  have hn := B.zapp_n ((v.sub o np).app (Vec.of [128#8])) (B.padM np)
  have hn2 : ((v.sub o np).app (Vec.of [128#8])).n = np + 1 := rfl
  have hm : B.padM np < 64 := Nat.mod_lt _ (by omega)
  have hN : B.padN np = np + 1 + B.padM np + 8 := rfl
  have hN2 : B.padN np % 64 = 0 := by unfold B.padN B.padM; omega
  repeat' (refine all_true_cons ?_ ?_)
  all_goals first | exact all_true_nil | rfl | (simp only [hz, hn, hn2, Bool.and_eq_true, decide_eq_true_eq, beq_iff_eq, beq_true, beq_false, Bool.not_eq_true', decide_eq_false_iff_not, beq_eq_false_iff_ne, ne_eq, Bool.not_eq_false', bne_iff_ne, true_and, and_true] <;> omega)
end Go.Proofs.YtaklljigoajpcaaDoor.D

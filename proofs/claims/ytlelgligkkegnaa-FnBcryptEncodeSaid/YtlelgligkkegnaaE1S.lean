/- bcrypt's letters: the reference. -/
import Derived.Test.YtlelgligkkegnaaE1N
namespace Go.Proofs.Ytlelgligkkegnaa
open Go.Eng
set_option linter.unusedSimpArgs false
set_option linter.unusedVariables false
def bitAt (b : Vec 8) (ob : Nat) (at_ : Int) : Int := (((((b.l.getD (ob + (Int.tdiv at_ 8).toNat * 1) 0#8) >>> (7 - Int.tmod at_ 8).toNat) &&& 1#8).toNat : Nat) : Int)
theorem bitAt_le (b : Vec 8) (ob : Nat) (at_ : Int) : 0 ≤ bitAt b ob at_ ∧ bitAt b ob at_ ≤ 1 := by
  unfold bitAt
  have h : ∀ x : BitVec 8, (x &&& 1#8).toNat ≤ 1 := by
    intro x
    rw [BitVec.toNat_and]
    exact Nat.and_le_right
  have := h ((b.l.getD (ob + (Int.tdiv at_ 8).toNat * 1) 0#8) >>> (7 - Int.tmod at_ 8).toNat)
  omega
structure b7D where
  b : Vec 8
  w : Vec 8
  ob : Nat
  nb : Nat
  kw : Nat
  i : Int
  k : Int
  v : Int
def b7_st (d : b7D) : Fr × List Blk :=
  match d with
  | ⟨b, w, ob, nb, kw, i, k, v⟩ => (⟨[(.ref (.sl 0 (.s ob) (.s nb) none)), (.atom .undef), (.atom .nils), (.ref (.sl 1 (.c 0) (.s kw) none)), (.num (.int .i64 (.s i))), (.num (.int .i64 (.s v))), (.num (.int .i64 (.s k))), (.atom .undef)], []⟩, [⟨(.b8 b), .ro⟩, ⟨(.b8 w), .own⟩])
def b7_nextA (d : b7D) : b7D :=
  match d with
  | ⟨b, w, ob, nb, kw, i, k, v⟩ => ⟨b, w, ob, nb, kw, i, k + 1, v * 2 + bitAt b ob (6 * i + k)⟩
def b7_nextB (d : b7D) : b7D :=
  match d with
  | ⟨b, w, ob, nb, kw, i, k, v⟩ => ⟨b, w, ob, nb, kw, i, k + 1, v * 2⟩
def b7_next (d : b7D) : b7D :=
  match (match d with | ⟨_, _, _, nb, _, i, k, _⟩ => decide (6 * i + k < 8 * nb)) with
  | true => b7_nextA d
  | false => b7_nextB d
def b7_rd (F : Fr) (K : List Blk) : Option b7D :=
    match F with
    | ⟨[(.ref (.sl 0 (.s ob) (.s nb) none)), (.atom .undef), (.atom .nils), (.ref (.sl 1 (.c 0) (.s kw) none)), (.num (.int .i64 (.s i))), (.num (.int .i64 (.s v))), (.num (.int .i64 (.s k))), (.atom .undef)], []⟩ =>
      match K with
      | [⟨(.b8 b), .ro⟩, ⟨(.b8 w), .own⟩] => some ⟨b, w, ob, nb, kw, i, k, v⟩
      | _ => none
    | _ => none
def b7 : LoopP b7D where
  pat := ⟨[(.ref (.sl 0 (.s 0) (.s 0) none)), (.atom .undef), (.atom .nils), (.ref (.sl 1 (.c 0) (.s 0) none)), (.num (.int .i64 (.s 0))), (.num (.int .i64 (.s 0))), (.num (.int .i64 (.s 0))), (.atom .undef)], []⟩
  patH := [⟨(.b8 (Vec.zero 8 0)), .ro⟩, ⟨(.b8 (Vec.zero 8 0)), .own⟩]
  gh := []
  read := b7_rd
  st := b7_st
  next := b7_next
  rem := fun ⟨_, _, _, _, _, _, k, _⟩ => (6 - k).toNat
  good := fun ⟨b, _, ob, nb, _, i, k, v⟩ => decide (0 ≤ i ∧ i ≤ 1000000 ∧ 0 ≤ k ∧ k ≤ 6 ∧ 0 ≤ v ∧ v < 64 ∧ (5 < k ∨ v < 32) ∧ (4 < k ∨ v < 16) ∧ (3 < k ∨ v < 8) ∧ (2 < k ∨ v < 4) ∧ (1 < k ∨ v < 2) ∧ (0 < k ∨ v < 1) ∧ ob + nb ≤ b.n ∧ nb ≤ 100000)
  out := .exit 2
  fin := b7_st
theorem b7_roundA (b w : Vec 8) (ob nb kw : Nat) (i k v : Int) : ranAs ((b7.st ⟨b, w, ob, nb, kw, i, k, v⟩).2.length - b7.gh.length) none (b7.st (b7_nextA ⟨b, w, ob, nb, kw, i, k, v⟩)) (goL noSpec noLoop 7 1 (b7.st ⟨b, w, ob, nb, kw, i, k, v⟩).1 ⟨(b7.st ⟨b, w, ob, nb, kw, i, k, v⟩).2, big, [true, true], []⟩) = some (.normal, (b7.st (b7_nextA ⟨b, w, ob, nb, kw, i, k, v⟩)), [decide (((-9223372036854775808) ≤ (k + 1) ∧ (k + 1) ≤ 9223372036854775807)), decide (((-9223372036854775808) ≤ ((v * 2) + ((((((b.l.getD (ob + ((((Int.tdiv ((6 * i) + k) 8)) : Int).toNat * 1)) (0#8)) >>> (((7 - (Int.tmod ((6 * i) + k) 8))) : Int).toNat) &&& (1#8))).toNat : Nat) : Int)) ∧ ((v * 2) + ((((((b.l.getD (ob + ((((Int.tdiv ((6 * i) + k) 8)) : Int).toNat * 1)) (0#8)) >>> (((7 - (Int.tmod ((6 * i) + k) 8))) : Int).toNat) &&& (1#8))).toNat : Nat) : Int)) ≤ 9223372036854775807)), decide (((((((b.l.getD (ob + ((((Int.tdiv ((6 * i) + k) 8)) : Int).toNat * 1)) (0#8)) >>> (((7 - (Int.tmod ((6 * i) + k) 8))) : Int).toNat) &&& (1#8))).toNat : Nat) : Int) ≤ 9223372036854775807), decide ((0 : Int) ≤ (7 - (Int.tmod ((6 * i) + k) 8))), decide (((-9223372036854775808) ≤ (7 - (Int.tmod ((6 * i) + k) 8)) ∧ (7 - (Int.tmod ((6 * i) + k) 8)) ≤ 9223372036854775807)), decide ((8 : Int) ≠ 0), decide ((ob + ((((Int.tdiv ((6 * i) + k) 8)) : Int).toNat * 1)) < b.n), (decide ((0 : Int) ≤ (Int.tdiv ((6 * i) + k) 8)) && decide ((Int.tdiv ((6 * i) + k) 8) < ((nb : Nat) : Int))), decide (((0 : Int) ≤ ((6 * i) + k) ∧ ((0 : Int) < 8 ∧ ((6 * i) + k) ≤ 9223372036854775807))), (decide (((6 * i) + k) < (8 * ((nb : Nat) : Int))) == true), decide (((-9223372036854775808) ≤ (8 * ((nb : Nat) : Int)) ∧ (8 * ((nb : Nat) : Int)) ≤ 9223372036854775807)), decide (((-9223372036854775808) ≤ (v * 2) ∧ (v * 2) ≤ 9223372036854775807)), decide (((-9223372036854775808) ≤ ((6 * i) + k) ∧ ((6 * i) + k) ≤ 9223372036854775807)), decide (((-9223372036854775808) ≤ (6 * i) ∧ (6 * i) ≤ 9223372036854775807)), (decide (k < 6) == true)]) := by kernel_rfl
theorem b7_roundB (b w : Vec 8) (ob nb kw : Nat) (i k v : Int) : ranAs ((b7.st ⟨b, w, ob, nb, kw, i, k, v⟩).2.length - b7.gh.length) none (b7.st (b7_nextB ⟨b, w, ob, nb, kw, i, k, v⟩)) (goL noSpec noLoop 7 1 (b7.st ⟨b, w, ob, nb, kw, i, k, v⟩).1 ⟨(b7.st ⟨b, w, ob, nb, kw, i, k, v⟩).2, big, [true, false], []⟩) = some (.normal, (b7.st (b7_nextB ⟨b, w, ob, nb, kw, i, k, v⟩)), [decide (((-9223372036854775808) ≤ (k + 1) ∧ (k + 1) ≤ 9223372036854775807)), (decide (((6 * i) + k) < (8 * ((nb : Nat) : Int))) == false), decide (((-9223372036854775808) ≤ (8 * ((nb : Nat) : Int)) ∧ (8 * ((nb : Nat) : Int)) ≤ 9223372036854775807)), decide (((-9223372036854775808) ≤ (v * 2) ∧ (v * 2) ≤ 9223372036854775807)), decide (((-9223372036854775808) ≤ ((6 * i) + k) ∧ ((6 * i) + k) ≤ 9223372036854775807)), decide (((-9223372036854775808) ≤ (6 * i) ∧ (6 * i) ≤ 9223372036854775807)), (decide (k < 6) == true)]) := by kernel_rfl
theorem b7_end (b w : Vec 8) (ob nb kw : Nat) (i k v : Int) : ranAs ((b7.st ⟨b, w, ob, nb, kw, i, k, v⟩).2.length - b7.gh.length) none (b7.fin ⟨b, w, ob, nb, kw, i, k, v⟩) (goL noSpec noLoop 7 1 (b7.st ⟨b, w, ob, nb, kw, i, k, v⟩).1 ⟨(b7.st ⟨b, w, ob, nb, kw, i, k, v⟩).2, big, [false], []⟩) = some (b7.out, (b7.fin ⟨b, w, ob, nb, kw, i, k, v⟩), [(decide (k < 6) == false)]) := by kernel_rfl
set_option maxRecDepth 100000 in
theorem b7_read (F : Fr) (K : List Blk) (d : b7D) (h : b7.read F K = some d) : (F, K) = b7.st d := by
  replace h : b7_rd F K = some d := h
  unfold b7_rd at h
  split at h
  case h_2 => cases h
  split at h
  case h_2 => cases h
  injection h with h; subst h
  rfl
theorem b7_body : RunOk Try.prog noGlob (nv 7) (ntmpsIn Try.prog 7) (loopIn Try.prog 7 1) (goL noSpec noLoop 7 1) := goL_ok no_specs (no_loops _) 7 1 fine7 (by rw [show (loopsIn Try.prog 7).length = 2 by kernel_rfl]; omega)
theorem b7_toldL : LoopOk Try.prog noGlob (nv 7) (ntmpsIn Try.prog 7) (loopIn Try.prog 7 1) b7.T.told := by
  refine b7.ran b7_body (by intro k hk; have hk : k ∈ ([] : List Blk) := hk; cases hk) (by intro h; cases h) b7_read ?_ ?_
  · rintro ⟨b, w, ob, nb, kw, i, k, v⟩ kk hg hr
    have hg : 0 ≤ i ∧ i ≤ 1000000 ∧ 0 ≤ k ∧ k ≤ 6 ∧ 0 ≤ v ∧ v < 64 ∧ (5 < k ∨ v < 32) ∧ (4 < k ∨ v < 16) ∧ (3 < k ∨ v < 8) ∧ (2 < k ∨ v < 4) ∧ (1 < k ∨ v < 2) ∧ (0 < k ∨ v < 1) ∧ ob + nb ≤ b.n ∧ nb ≤ 100000 := of_decide_eq_true hg
    have hr : (6 - k).toNat = kk + 1 := hr
    have ht := Int.tdiv_eq_ediv_of_nonneg (b := 8) (show 0 ≤ 6 * i + k by omega)
    have hm := Int.tmod_eq_emod_of_nonneg (b := 8) (show 0 ≤ 6 * i + k by omega)
    have hx := bitAt_le b ob (6 * i + k)
    have hy := hx
    unfold bitAt at hy
    by_cases hs : 6 * i + k < 8 * nb
    · have en : b7.next ⟨b, w, ob, nb, kw, i, k, v⟩ = b7_nextA ⟨b, w, ob, nb, kw, i, k, v⟩ := by
        show (match decide (6 * i + k < 8 * nb) with | true => b7_nextA ⟨b, w, ob, nb, kw, i, k, v⟩ | false => b7_nextB ⟨b, w, ob, nb, kw, i, k, v⟩) = _
        rw [decide_eq_true hs]
      rw [en]
      refine ⟨⟨[true, true], none, _, b7_roundA b w ob nb kw i k v, ?_⟩, ?_, ?_, (show (b7.st (b7_nextA ⟨b, w, ob, nb, kw, i, k, v⟩)).2.length = 2 by kernel_rfl).trans (show (b7.st ⟨b, w, ob, nb, kw, i, k, v⟩).2.length = 2 by kernel_rfl).symm⟩
      · repeat' (refine all_true_cons ?_ ?_)
        all_goals first | exact all_true_nil | rfl | (simp only [Bool.and_eq_true, decide_eq_true_eq, beq_iff_eq, beq_true, beq_false, Bool.not_eq_true', decide_eq_false_iff_not, beq_eq_false_iff_ne, ne_eq, Bool.not_eq_false', bne_iff_ne, true_and, and_true] <;> omega)
      · have e : b7.good (b7_nextA ⟨b, w, ob, nb, kw, i, k, v⟩) = decide (0 ≤ i ∧ i ≤ 1000000 ∧ 0 ≤ (k + 1 : Int) ∧ (k + 1 : Int) ≤ 6 ∧ 0 ≤ (v * 2 + bitAt b ob (6 * i + k) : Int) ∧ (v * 2 + bitAt b ob (6 * i + k) : Int) < 64 ∧ (5 < (k + 1 : Int) ∨ (v * 2 + bitAt b ob (6 * i + k) : Int) < 32) ∧ (4 < (k + 1 : Int) ∨ (v * 2 + bitAt b ob (6 * i + k) : Int) < 16) ∧ (3 < (k + 1 : Int) ∨ (v * 2 + bitAt b ob (6 * i + k) : Int) < 8) ∧ (2 < (k + 1 : Int) ∨ (v * 2 + bitAt b ob (6 * i + k) : Int) < 4) ∧ (1 < (k + 1 : Int) ∨ (v * 2 + bitAt b ob (6 * i + k) : Int) < 2) ∧ (0 < (k + 1 : Int) ∨ (v * 2 + bitAt b ob (6 * i + k) : Int) < 1) ∧ ob + nb ≤ b.n ∧ nb ≤ 100000) := by kernel_rfl
        refine e.trans (decide_eq_true ?_)
        omega
      · have e : b7.rem (b7_nextA ⟨b, w, ob, nb, kw, i, k, v⟩) = ((6 - (k + 1 : Int)).toNat) := by kernel_rfl
        refine e.trans ?_
        omega
    · have en : b7.next ⟨b, w, ob, nb, kw, i, k, v⟩ = b7_nextB ⟨b, w, ob, nb, kw, i, k, v⟩ := by
        show (match decide (6 * i + k < 8 * nb) with | true => b7_nextA ⟨b, w, ob, nb, kw, i, k, v⟩ | false => b7_nextB ⟨b, w, ob, nb, kw, i, k, v⟩) = _
        rw [decide_eq_false hs]
      rw [en]
      refine ⟨⟨[true, false], none, _, b7_roundB b w ob nb kw i k v, ?_⟩, ?_, ?_, (show (b7.st (b7_nextB ⟨b, w, ob, nb, kw, i, k, v⟩)).2.length = 2 by kernel_rfl).trans (show (b7.st ⟨b, w, ob, nb, kw, i, k, v⟩).2.length = 2 by kernel_rfl).symm⟩
      · repeat' (refine all_true_cons ?_ ?_)
        all_goals first | exact all_true_nil | rfl | (simp only [Bool.and_eq_true, decide_eq_true_eq, beq_iff_eq, beq_true, beq_false, Bool.not_eq_true', decide_eq_false_iff_not, beq_eq_false_iff_ne, ne_eq, Bool.not_eq_false', bne_iff_ne, true_and, and_true] <;> omega)
      · have e : b7.good (b7_nextB ⟨b, w, ob, nb, kw, i, k, v⟩) = decide (0 ≤ i ∧ i ≤ 1000000 ∧ 0 ≤ (k + 1 : Int) ∧ (k + 1 : Int) ≤ 6 ∧ 0 ≤ (v * 2 : Int) ∧ (v * 2 : Int) < 64 ∧ (5 < (k + 1 : Int) ∨ (v * 2 : Int) < 32) ∧ (4 < (k + 1 : Int) ∨ (v * 2 : Int) < 16) ∧ (3 < (k + 1 : Int) ∨ (v * 2 : Int) < 8) ∧ (2 < (k + 1 : Int) ∨ (v * 2 : Int) < 4) ∧ (1 < (k + 1 : Int) ∨ (v * 2 : Int) < 2) ∧ (0 < (k + 1 : Int) ∨ (v * 2 : Int) < 1) ∧ ob + nb ≤ b.n ∧ nb ≤ 100000) := by kernel_rfl
        refine e.trans (decide_eq_true ?_)
        omega
      · have e : b7.rem (b7_nextB ⟨b, w, ob, nb, kw, i, k, v⟩) = ((6 - (k + 1 : Int)).toNat) := by kernel_rfl
        refine e.trans ?_
        omega
  · rintro ⟨b, w, ob, nb, kw, i, k, v⟩ hg hr
    have hg : 0 ≤ i ∧ i ≤ 1000000 ∧ 0 ≤ k ∧ k ≤ 6 ∧ 0 ≤ v ∧ v < 64 ∧ (5 < k ∨ v < 32) ∧ (4 < k ∨ v < 16) ∧ (3 < k ∨ v < 8) ∧ (2 < k ∨ v < 4) ∧ (1 < k ∨ v < 2) ∧ (0 < k ∨ v < 1) ∧ ob + nb ≤ b.n ∧ nb ≤ 100000 := of_decide_eq_true hg
    have hr : (6 - k).toNat = 0 := hr
    have ht := Int.tdiv_eq_ediv_of_nonneg (b := 8) (show 0 ≤ 6 * i + k by omega)
    have hm := Int.tmod_eq_emod_of_nonneg (b := 8) (show 0 ≤ 6 * i + k by omega)
    have hx := bitAt_le b ob (6 * i + k)
    have hy := hx
    unfold bitAt at hy
    refine ⟨[false], none, _, b7_end b w ob nb kw i k v, ?_⟩
    repeat' (refine all_true_cons ?_ ?_)
    all_goals first | exact all_true_nil | rfl | (simp only [Bool.and_eq_true, decide_eq_true_eq, beq_iff_eq, beq_true, beq_false, Bool.not_eq_true', decide_eq_false_iff_not, beq_eq_false_iff_ne, ne_eq, Bool.not_eq_false', bne_iff_ne, true_and, and_true] <;> omega)
def b7_spec : LSpec := b7.T.told
theorem b7_told : Told 7 1 b7_spec := b7_toldL.run
def b7s : FuncId → Nat → Option LSpec
  | 7, 7 => some b7_spec
  | _, _ => none
theorem b7s_len : (loopsIn Try.prog 7).length = 2 := by kernel_rfl
theorem b7s_ok (spec : FuncId → Option Eng.Spec) : LoopsOk (cfg spec b7s) noGlob := by
  refine LoopsOk.of fun f => ?_
  by_cases hf : f = 7
  · subst hf
    refine .inr ⟨by kernel_rfl, fun i hi sp hsp => ?_⟩
    have hi : i < (loopsIn Try.prog 7).length := hi
    rw [b7s_len] at hi
    match i, hi with
    | 0, _ =>
      have e : (firstRid (loopIn Try.prog 7 0)).bind (b7s 7) = none := by kernel_rfl
      have hsp : (firstRid (loopIn Try.prog 7 0)).bind (b7s 7) = some sp := hsp
      rw [e] at hsp; cases hsp
    | 1, _ =>
      have e : (firstRid (loopIn Try.prog 7 1)).bind (b7s 7) = some b7_spec := by kernel_rfl
      obtain rfl := Option.some.inj (e.symm.trans hsp)
      exact b7_told
  · refine .inl fun r => ?_
    show b7s f r = none
    unfold b7s
    split
    · exact absurd rfl hf
    · rfl
/-- Six bits from a place on. -/
def vv (b : Vec 8) (ob nb : Nat) (i : Int) : Nat → Int
  | 0 => 0
  | m + 1 => vv b ob nb i m * 2 + (if 6 * i + (m : Int) < 8 * nb then bitAt b ob (6 * i + (m : Int)) else 0)
theorem vv_le (b : Vec 8) (ob nb : Nat) (i : Int) : ∀ m : Nat, 0 ≤ vv b ob nb i m ∧ vv b ob nb i m + 1 ≤ ((2 ^ m : Nat) : Int)
  | 0 => ⟨Int.le_refl _, Int.le_refl _⟩
  | m + 1 => by
    have h := vv_le b ob nb i m
    have hx := bitAt_le b ob (6 * i + (m : Int))
    have hp : ((2 ^ (m + 1) : Nat) : Int) = ((2 ^ m : Nat) : Int) * 2 := by rw [Nat.pow_succ]; omega
    rw [hp, vv]
    split <;> omega
theorem b7_it (b w : Vec 8) (ob nb kw : Nat) (i : Int) : ∀ m : Nat, iter b7_next m ⟨b, w, ob, nb, kw, i, 0, 0⟩ = ⟨b, w, ob, nb, kw, i, (m : Int), vv b ob nb i m⟩
  | 0 => rfl
  | m + 1 => by
    rw [iter_succ, b7_it b w ob nb kw i m]
    by_cases h : 6 * i + (m : Int) < 8 * nb
    · show (match decide (6 * i + (m : Int) < 8 * nb) with
        | true => b7_nextA ⟨b, w, ob, nb, kw, i, (m : Int), vv b ob nb i m⟩
        | false => b7_nextB ⟨b, w, ob, nb, kw, i, (m : Int), vv b ob nb i m⟩) = _
      rw [decide_eq_true h]
      show (⟨b, w, ob, nb, kw, i, (m : Int) + 1, vv b ob nb i m * 2 + bitAt b ob (6 * i + (m : Int))⟩ : b7D) = _
      rw [vv, if_pos h, show ((m + 1 : Nat) : Int) = (m : Int) + 1 by omega]
    · show (match decide (6 * i + (m : Int) < 8 * nb) with
        | true => b7_nextA ⟨b, w, ob, nb, kw, i, (m : Int), vv b ob nb i m⟩
        | false => b7_nextB ⟨b, w, ob, nb, kw, i, (m : Int), vv b ob nb i m⟩) = _
      rw [decide_eq_false h]
      show (⟨b, w, ob, nb, kw, i, (m : Int) + 1, vv b ob nb i m * 2⟩ : b7D) = _
      rw [vv, if_neg h, show ((m + 1 : Nat) : Int) = (m : Int) + 1 by omega, Int.add_zero]
def B7 (b w : Vec 8) (ob nb kw : Nat) (i : Int) : b7D := iter b7_next ((6 - 0 : Int).toNat) ⟨b, w, ob, nb, kw, i, 0, 0⟩
theorem B7_eq (b w : Vec 8) (ob nb kw : Nat) (i : Int) : B7 b w ob nb kw i = ⟨b, w, ob, nb, kw, i, 6, vv b ob nb i 6⟩ := b7_it b w ob nb kw i 6
def lett : ByteArray := ⟨#[46, 47, 65, 66, 67, 68, 69, 70, 71, 72, 73, 74, 75, 76, 77, 78, 79, 80, 81, 82, 83, 84, 85, 86, 87, 88, 89, 90, 97, 98, 99, 100, 101, 102, 103, 104, 105, 106, 107, 108, 109, 110, 111, 112, 113, 114, 115, 116, 117, 118, 119, 120, 121, 122, 48, 49, 50, 51, 52, 53, 54, 55, 56, 57]⟩
structure o7D where
  b : Vec 8
  w : Vec 8
  ob : Nat
  nb : Nat
  kw : Nat
  i : Int
def o7_st (d : o7D) : Fr × List Blk :=
  match d with
  | ⟨b, w, ob, nb, kw, i⟩ => (⟨[(.ref (.sl 0 (.s ob) (.s nb) none)), (.atom .undef), (.atom .nils), (.ref (.sl 1 (.c 0) (.s kw) none)), (.num (.int .i64 (.s i))), (.atom .undef), (.atom .undef), (.atom .undef)], []⟩, [⟨(.b8 b), .ro⟩, ⟨(.b8 w), .own⟩])
def o7_next (d : o7D) : o7D :=
  match d with
  | ⟨b, w, ob, nb, kw, i⟩ => ⟨b, (B7 b w ob nb kw i).w.app (Vec.of [strAt lett (B7 b w ob nb kw i).v]), (B7 b w ob nb kw i).ob, (B7 b w ob nb kw i).nb, (B7 b w ob nb kw i).kw + 1, (B7 b w ob nb kw i).i + 1⟩
def o7_rd (F : Fr) (K : List Blk) : Option o7D :=
    match F with
    | ⟨[(.ref (.sl 0 (.s ob) (.s nb) none)), (.atom .undef), (.atom .nils), (.ref (.sl 1 (.c 0) (.s kw) none)), (.num (.int .i64 (.s i))), (.atom .undef), (.atom .undef), (.atom .undef)], []⟩ =>
      match K with
      | [⟨(.b8 b), .ro⟩, ⟨(.b8 w), .own⟩] => some ⟨b, w, ob, nb, kw, i⟩
      | _ => none
    | _ => none
def o7 : LoopP o7D where
  pat := ⟨[(.ref (.sl 0 (.s 0) (.s 0) none)), (.atom .undef), (.atom .nils), (.ref (.sl 1 (.c 0) (.s 0) none)), (.num (.int .i64 (.s 0))), (.atom .undef), (.atom .undef), (.atom .undef)], []⟩
  patH := [⟨(.b8 (Vec.zero 8 0)), .ro⟩, ⟨(.b8 (Vec.zero 8 0)), .own⟩]
  gh := [⟨.gen [], .own⟩]
  read := o7_rd
  st := o7_st
  next := o7_next
  rem := fun ⟨_, _, _, nb, _, i⟩ => (8 * nb + 5) / 6 - i.toNat
  good := fun ⟨b, w, ob, nb, kw, i⟩ => decide (0 ≤ i ∧ kw = w.n ∧ (i.toNat : Int) = i ∧ kw ≤ i.toNat ∧ i ≤ 200000 ∧ ob + nb ≤ b.n ∧ nb ≤ 100000)
  out := .exit 0
  fin := o7_st
theorem o7_round (b w : Vec 8) (ob nb kw : Nat) (i : Int) : ranAs ((o7.st ⟨b, w, ob, nb, kw, i⟩).2.length - o7.gh.length) (some [0, 3]) (o7.st (o7_next ⟨b, w, ob, nb, kw, i⟩)) (goL noSpec b7s 7 0 (o7.st ⟨b, w, ob, nb, kw, i⟩).1 ⟨(o7.st ⟨b, w, ob, nb, kw, i⟩).2, big, [true], []⟩) = some (.normal, (o7.st (o7_next ⟨b, w, ob, nb, kw, i⟩)), [decide (((-9223372036854775808) ≤ (((B7 b w ob nb kw i)).i + 1) ∧ (((B7 b w ob nb kw i)).i + 1) ≤ 9223372036854775807)), (true && (((B7 b w ob nb kw i)).kw == ((B7 b w ob nb kw i)).w.n)), decide (((((B7 b w ob nb kw i)).kw + 1) * 1) ≤ 1099511627776), (decide ((0 : Int) ≤ ((B7 b w ob nb kw i)).v) && decide (((B7 b w ob nb kw i)).v < ((64 : Nat) : Int))), decide (((0 : Int) ≤ i ∧ (i ≤ 1000000 ∧ ((0 : Int) ≤ 0 ∧ ((0 : Int) ≤ 6 ∧ ((0 : Int) ≤ 0 ∧ ((0 : Int) < 64 ∧ ((5 < (0 : Int) ∨ (0 : Int) < 32) ∧ ((4 < (0 : Int) ∨ (0 : Int) < 16) ∧ ((3 < (0 : Int) ∨ (0 : Int) < 8) ∧ ((2 < (0 : Int) ∨ (0 : Int) < 4) ∧ ((1 < (0 : Int) ∨ (0 : Int) < 2) ∧ ((0 < (0 : Int) ∨ (0 : Int) < 1) ∧ ((ob + nb) ≤ b.n ∧ nb ≤ 100000)))))))))))))), (decide ((6 * i) < (8 * ((nb : Nat) : Int))) == true), decide (((-9223372036854775808) ≤ (8 * ((nb : Nat) : Int)) ∧ (8 * ((nb : Nat) : Int)) ≤ 9223372036854775807)), decide (((-9223372036854775808) ≤ (6 * i) ∧ (6 * i) ≤ 9223372036854775807))]) := by kernel_rfl
theorem o7_end (b w : Vec 8) (ob nb kw : Nat) (i : Int) : ranAs ((o7.st ⟨b, w, ob, nb, kw, i⟩).2.length - o7.gh.length) none (o7.fin ⟨b, w, ob, nb, kw, i⟩) (goL noSpec b7s 7 0 (o7.st ⟨b, w, ob, nb, kw, i⟩).1 ⟨(o7.st ⟨b, w, ob, nb, kw, i⟩).2, big, [false], []⟩) = some (o7.out, (o7.fin ⟨b, w, ob, nb, kw, i⟩), [(decide ((6 * i) < (8 * ((nb : Nat) : Int))) == false), decide (((-9223372036854775808) ≤ (8 * ((nb : Nat) : Int)) ∧ (8 * ((nb : Nat) : Int)) ≤ 9223372036854775807)), decide (((-9223372036854775808) ≤ (6 * i) ∧ (6 * i) ≤ 9223372036854775807))]) := by kernel_rfl
set_option maxRecDepth 100000 in
theorem o7_read (F : Fr) (K : List Blk) (d : o7D) (h : o7.read F K = some d) : (F, K) = o7.st d := by
  replace h : o7_rd F K = some d := h
  unfold o7_rd at h
  split at h
  case h_2 => cases h
  split at h
  case h_2 => cases h
  injection h with h; subst h
  rfl
theorem o7_body : RunOk Try.prog noGlob (nv 7) (ntmpsIn Try.prog 7) (loopIn Try.prog 7 0) (goL noSpec b7s 7 0) := goL_ok no_specs (b7s_ok _) 7 0 fine7 (by rw [show (loopsIn Try.prog 7).length = 2 by kernel_rfl]; omega)
theorem o7_toldL : LoopOk Try.prog noGlob (nv 7) (ntmpsIn Try.prog 7) (loopIn Try.prog 7 0) o7.T.told := by
  refine o7.ran o7_body (by intro k hk; simp [o7] at hk; subst hk; rfl) (by intro h; cases h) o7_read ?_ ?_
  · rintro ⟨b, w, ob, nb, kw, i⟩ kk hg hr
    have hg : 0 ≤ i ∧ kw = w.n ∧ (i.toNat : Int) = i ∧ kw ≤ i.toNat ∧ i ≤ 200000 ∧ ob + nb ≤ b.n ∧ nb ≤ 100000 := of_decide_eq_true hg
    have hr : (8 * nb + 5) / 6 - i.toNat = kk + 1 := hr
    have hz := B7_eq b w ob nb kw i
    have hv := vv_le b ob nb i 6
    have en : o7.next ⟨b, w, ob, nb, kw, i⟩ = o7_next ⟨b, w, ob, nb, kw, i⟩ := rfl
    rw [en]
    refine ⟨⟨[true], (some [0, 3]), _, o7_round b w ob nb kw i, ?_⟩, ?_, ?_, (show (o7.st (o7_next ⟨b, w, ob, nb, kw, i⟩)).2.length = 2 by kernel_rfl).trans (show (o7.st ⟨b, w, ob, nb, kw, i⟩).2.length = 2 by kernel_rfl).symm⟩
    · repeat' (refine all_true_cons ?_ ?_)
      all_goals first | exact all_true_nil | rfl | (simp only [hz, Bool.and_eq_true, decide_eq_true_eq, beq_iff_eq, beq_true, beq_false, Bool.not_eq_true', decide_eq_false_iff_not, beq_eq_false_iff_ne, ne_eq, Bool.not_eq_false', bne_iff_ne, true_and, and_true] <;> omega)
    · have e : o7.good (o7_next ⟨b, w, ob, nb, kw, i⟩) = decide (0 ≤ ((B7 b w ob nb kw i).i + 1 : Int) ∧ ((B7 b w ob nb kw i).kw + 1 : Nat) = ((B7 b w ob nb kw i).w.app (Vec.of [strAt lett (B7 b w ob nb kw i).v]) : Vec 8).n ∧ (((B7 b w ob nb kw i).i + 1 : Int).toNat : Int) = ((B7 b w ob nb kw i).i + 1 : Int) ∧ ((B7 b w ob nb kw i).kw + 1 : Nat) ≤ ((B7 b w ob nb kw i).i + 1 : Int).toNat ∧ ((B7 b w ob nb kw i).i + 1 : Int) ≤ 200000 ∧ ((B7 b w ob nb kw i).ob : Nat) + ((B7 b w ob nb kw i).nb : Nat) ≤ b.n ∧ ((B7 b w ob nb kw i).nb : Nat) ≤ 100000) := by kernel_rfl
      refine e.trans (decide_eq_true ?_)
      simp only [hz]
      have : (w.app (Vec.of [strAt lett (vv b ob nb i 6)])).n = w.n + 1 := rfl
      rw [this]; omega
    · have e : o7.rem (o7_next ⟨b, w, ob, nb, kw, i⟩) = ((8 * ((B7 b w ob nb kw i).nb : Nat) + 5) / 6 - ((B7 b w ob nb kw i).i + 1 : Int).toNat) := by kernel_rfl
      refine e.trans ?_
      simp only [hz]; omega
  · rintro ⟨b, w, ob, nb, kw, i⟩ hg hr
    have hg : 0 ≤ i ∧ kw = w.n ∧ (i.toNat : Int) = i ∧ kw ≤ i.toNat ∧ i ≤ 200000 ∧ ob + nb ≤ b.n ∧ nb ≤ 100000 := of_decide_eq_true hg
    have hr : (8 * nb + 5) / 6 - i.toNat = 0 := hr
    have hz := B7_eq b w ob nb kw i
    have hv := vv_le b ob nb i 6
    refine ⟨[false], none, _, o7_end b w ob nb kw i, ?_⟩
    repeat' (refine all_true_cons ?_ ?_)
    all_goals first | exact all_true_nil | rfl | (simp only [Bool.and_eq_true, decide_eq_true_eq, beq_iff_eq, beq_true, beq_false, Bool.not_eq_true', decide_eq_false_iff_not, beq_eq_false_iff_ne, ne_eq, Bool.not_eq_false', bne_iff_ne, true_and, and_true] <;> omega)
def o7_spec : LSpec := o7.T.told
theorem o7_told : Told 7 0 o7_spec := o7_toldL.run
def o7s : FuncId → Nat → Option LSpec
  | 7, 7 => some b7_spec
  | 7, 3 => some o7_spec
  | _, _ => none
theorem o7s_len : (loopsIn Try.prog 7).length = 2 := by kernel_rfl
theorem o7s_ok (spec : FuncId → Option Eng.Spec) : LoopsOk (cfg spec o7s) noGlob := by
  refine LoopsOk.of fun f => ?_
  by_cases hf : f = 7
  · subst hf
    refine .inr ⟨by kernel_rfl, fun i hi sp hsp => ?_⟩
    have hi : i < (loopsIn Try.prog 7).length := hi
    rw [o7s_len] at hi
    match i, hi with
    | 0, _ =>
      have e : (firstRid (loopIn Try.prog 7 0)).bind (o7s 7) = some o7_spec := by kernel_rfl
      obtain rfl := Option.some.inj (e.symm.trans hsp)
      exact o7_told
    | 1, _ =>
      have e : (firstRid (loopIn Try.prog 7 1)).bind (o7s 7) = some b7_spec := by kernel_rfl
      obtain rfl := Option.some.inj (e.symm.trans hsp)
      exact b7_told
  · refine .inl fun r => ?_
    show o7s f r = none
    unfold o7s
    split
    · exact absurd rfl hf
    · exact absurd rfl hf
    · rfl
end Go.Proofs.Ytlelgligkkegnaa

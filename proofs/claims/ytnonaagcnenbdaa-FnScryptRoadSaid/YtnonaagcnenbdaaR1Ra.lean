/- FnScryptRoad: words read, and rows taken exclusive or: its plain loops. -/
import Derived.Test.YtnonaagcnenbdaaR1Mix2
import Derived.Test.YtnonaagcnenbdaaR1Sx
import Derived.Test.YtnonaagcnenbdaaEngE
namespace Go.Proofs.Ytnonaagcnenbdaa
open Go.Eng
set_option linter.unusedSimpArgs false
set_option linter.unusedVariables false
set_option linter.unusedSectionVars false
variable [RowAddr]
/-- A word of four bytes, as the law reads it. -/
def leI (b : Vec 8) (i : Int) : BitVec 32 := (((b.l.getD (0 + (4 * i).toNat * 1) 0#8).setWidth 32 ||| (b.l.getD (0 + (4 * i + 1).toNat * 1) 0#8).setWidth 32 <<< 8) ||| (b.l.getD (0 + (4 * i + 2).toNat * 1) 0#8).setWidth 32 <<< 16) ||| (b.l.getD (0 + (4 * i + 3).toNat * 1) 0#8).setWidth 32 <<< 24
structure raD where
  b : Vec 8
  x : Vec 32
  nb : Nat
  R : Nat
  r : Int
  N : Int
  i : Int
def ra_st (d : raD) : Fr × List Blk :=
  match d with
  | ⟨b, x, nb, R, r, N, i⟩ => (⟨[(.ref (.sl 0 (.c 0) (.s nb) none)), (.num (.int .i64 (.s r))), (.num (.int .i64 (.s N))), (.atom .undef), (.atom .undef), (.atom .undef), (.atom .undef), (.ref (.sl 1 (.c 0) (.s R) none)), (.num (.int .i64 (.s i))), (.atom .undef), (.atom .undef), (.atom .undef), (.atom .undef), (.atom .undef), (.atom .undef)], []⟩, [⟨(.b8 b), .ro⟩, ⟨(.b32 x), .own⟩])
def ra_next (d : raD) : raD :=
  match d with
  | ⟨b, x, nb, R, r, N, i⟩ => ⟨b, x.set (0 + i.toNat * 1) (leI b i), nb, R, r, N, i + 1⟩
def ra_rd (F : Fr) (K : List Blk) : Option raD :=
    match F with
    | ⟨[(.ref (.sl 0 (.c 0) (.s nb) none)), (.num (.int .i64 (.s r))), (.num (.int .i64 (.s N))), (.atom .undef), (.atom .undef), (.atom .undef), (.atom .undef), (.ref (.sl 1 (.c 0) (.s R) none)), (.num (.int .i64 (.s i))), (.atom .undef), (.atom .undef), (.atom .undef), (.atom .undef), (.atom .undef), (.atom .undef)], []⟩ =>
      match K with
      | [⟨(.b8 b), .ro⟩, ⟨(.b32 x), .own⟩] => some ⟨b, x, nb, R, r, N, i⟩
      | _ => none
    | _ => none
def ra : LoopP raD where
  pat := ⟨[(.ref (.sl 0 (.c 0) (.s 0) none)), (.num (.int .i64 (.s 0))), (.num (.int .i64 (.s 0))), (.atom .undef), (.atom .undef), (.atom .undef), (.atom .undef), (.ref (.sl 1 (.c 0) (.s 0) none)), (.num (.int .i64 (.s 0))), (.atom .undef), (.atom .undef), (.atom .undef), (.atom .undef), (.atom .undef), (.atom .undef)], []⟩
  patH := [⟨(.b8 (Vec.zero 8 0)), .ro⟩, ⟨(.b32 (Vec.zero 32 0)), .own⟩]
  gh := []
  read := ra_rd
  st := ra_st
  next := ra_next
  rem := fun ⟨_, _, _, R, _, _, i⟩ => (R - i).toNat
  good := fun ⟨b, x, nb, R, _, _, i⟩ => decide (0 ≤ i ∧ i ≤ R ∧ R ≤ 1000000 ∧ 4 * R ≤ nb ∧ nb ≤ b.n ∧ R ≤ x.n)
  out := .exit 0
  fin := ra_st
theorem ra_round (b : Vec 8) (x : Vec 32) (nb R : Nat) (r N i : Int) : ranAs ((ra.st ⟨b, x, nb, R, r, N, i⟩).2.length - ra.gh.length) none (ra.st (ra_next ⟨b, x, nb, R, r, N, i⟩)) (goL noSpec noLoop 6 0 (ra.st ⟨b, x, nb, R, r, N, i⟩).1 ⟨(ra.st ⟨b, x, nb, R, r, N, i⟩).2, big, [true], []⟩) = some (.normal, (ra.st (ra_next ⟨b, x, nb, R, r, N, i⟩)), [decide ((((-9223372036854775808) : Int) ≤ (i + 1) ∧ (i + 1) ≤ 9223372036854775807)), decide ((0 + (((i) : Int).toNat * 1)) < x.n), (decide ((0 : Int) ≤ i) && decide (i < ((R : Nat) : Int))), decide ((0 + (((((4 * i) + 3)) : Int).toNat * 1)) < b.n), (decide ((0 : Int) ≤ ((4 * i) + 3)) && decide (((4 * i) + 3) < ((nb : Nat) : Int))), decide ((((-9223372036854775808) : Int) ≤ ((4 * i) + 3) ∧ ((4 * i) + 3) ≤ 9223372036854775807)), decide ((((-9223372036854775808) : Int) ≤ (4 * i) ∧ (4 * i) ≤ 9223372036854775807)), decide ((0 + (((((4 * i) + 2)) : Int).toNat * 1)) < b.n), (decide ((0 : Int) ≤ ((4 * i) + 2)) && decide (((4 * i) + 2) < ((nb : Nat) : Int))), decide ((((-9223372036854775808) : Int) ≤ ((4 * i) + 2) ∧ ((4 * i) + 2) ≤ 9223372036854775807)), decide ((((-9223372036854775808) : Int) ≤ (4 * i) ∧ (4 * i) ≤ 9223372036854775807)), decide ((0 + (((((4 * i) + 1)) : Int).toNat * 1)) < b.n), (decide ((0 : Int) ≤ ((4 * i) + 1)) && decide (((4 * i) + 1) < ((nb : Nat) : Int))), decide ((((-9223372036854775808) : Int) ≤ ((4 * i) + 1) ∧ ((4 * i) + 1) ≤ 9223372036854775807)), decide ((((-9223372036854775808) : Int) ≤ (4 * i) ∧ (4 * i) ≤ 9223372036854775807)), decide ((0 + ((((4 * i)) : Int).toNat * 1)) < b.n), (decide ((0 : Int) ≤ (4 * i)) && decide ((4 * i) < ((nb : Nat) : Int))), decide ((((-9223372036854775808) : Int) ≤ (4 * i) ∧ (4 * i) ≤ 9223372036854775807)), (decide (i < ((R : Nat) : Int)) == true)]) := by kernel_rfl
theorem ra_end (b : Vec 8) (x : Vec 32) (nb R : Nat) (r N i : Int) : ranAs ((ra.st ⟨b, x, nb, R, r, N, i⟩).2.length - ra.gh.length) none (ra.fin ⟨b, x, nb, R, r, N, i⟩) (goL noSpec noLoop 6 0 (ra.st ⟨b, x, nb, R, r, N, i⟩).1 ⟨(ra.st ⟨b, x, nb, R, r, N, i⟩).2, big, [false], []⟩) = some (ra.out, (ra.fin ⟨b, x, nb, R, r, N, i⟩), [(decide (i < ((R : Nat) : Int)) == false)]) := by kernel_rfl
set_option maxRecDepth 100000 in
theorem ra_read (F : Fr) (K : List Blk) (d : raD) (h : ra.read F K = some d) : (F, K) = ra.st d := by
  replace h : ra_rd F K = some d := h
  unfold ra_rd at h
  split at h
  case h_2 => cases h
  split at h
  case h_2 => cases h
  injection h with h; subst h
  rfl
theorem ra_body : RunOk Try.prog noGlob (nv 6) (ntmpsIn Try.prog 6) (loopIn Try.prog 6 0) (goL noSpec noLoop 6 0) := goL_ok no_specs (no_loops _) 6 0 fine6 (by rw [show (loopsIn Try.prog 6).length = 4 by kernel_rfl]; omega)
theorem ra_toldL : LoopOk Try.prog noGlob (nv 6) (ntmpsIn Try.prog 6) (loopIn Try.prog 6 0) ra.T.told := by
  refine ra.ran ra_body (by intro k hk; have hk : k ∈ ([] : List Blk) := hk; cases hk) (by intro h; cases h) ra_read ?_ ?_
  · rintro ⟨b, x, nb, R, r, N, i⟩ kk hg hr
    have hg : 0 ≤ i ∧ i ≤ R ∧ R ≤ 1000000 ∧ 4 * R ≤ nb ∧ nb ≤ b.n ∧ R ≤ x.n := of_decide_eq_true hg
    have hr : (R - i).toNat = kk + 1 := hr
    have en : ra.next ⟨b, x, nb, R, r, N, i⟩ = ra_next ⟨b, x, nb, R, r, N, i⟩ := rfl
    rw [en]
    refine ⟨⟨[true], none, _, ra_round b x nb R r N i, ?_⟩, ?_, ?_, (show (ra.st (ra_next ⟨b, x, nb, R, r, N, i⟩)).2.length = 2 by kernel_rfl).trans (show (ra.st ⟨b, x, nb, R, r, N, i⟩).2.length = 2 by kernel_rfl).symm⟩
    · repeat' (refine all_true_cons ?_ ?_)
      all_goals first | exact all_true_nil | rfl | (simp only [Bool.and_eq_true, decide_eq_true_eq, beq_iff_eq, beq_true, beq_false, Bool.not_eq_true', decide_eq_false_iff_not, beq_eq_false_iff_ne, ne_eq, Bool.not_eq_false', bne_iff_ne, true_and, and_true] <;> omega)
    · have e : ra.good (ra_next ⟨b, x, nb, R, r, N, i⟩) = decide (0 ≤ (i + 1 : Int) ∧ (i + 1 : Int) ≤ R ∧ R ≤ 1000000 ∧ 4 * R ≤ nb ∧ nb ≤ b.n ∧ R ≤ (x.set (0 + i.toNat * 1) (leI b i) : Vec 32).n) := by kernel_rfl
      refine e.trans (decide_eq_true ?_)
      rw [set_n]
      omega
    · have e : ra.rem (ra_next ⟨b, x, nb, R, r, N, i⟩) = ((R - (i + 1 : Int)).toNat) := by kernel_rfl
      refine e.trans ?_
      omega
  · rintro ⟨b, x, nb, R, r, N, i⟩ hg hr
    have hg : 0 ≤ i ∧ i ≤ R ∧ R ≤ 1000000 ∧ 4 * R ≤ nb ∧ nb ≤ b.n ∧ R ≤ x.n := of_decide_eq_true hg
    have hr : (R - i).toNat = 0 := hr
    refine ⟨[false], none, _, ra_end b x nb R r N i, ?_⟩
    repeat' (refine all_true_cons ?_ ?_)
    all_goals first | exact all_true_nil | rfl | (simp only [Bool.and_eq_true, decide_eq_true_eq, beq_iff_eq, beq_true, beq_false, Bool.not_eq_true', decide_eq_false_iff_not, beq_eq_false_iff_ne, ne_eq, Bool.not_eq_false', bne_iff_ne, true_and, and_true] <;> omega)
def ra_spec : LSpec := ra.T.told
theorem ra_told : Told 6 0 ra_spec := ra_toldL.run
structure rxD where
  x : Vec 32
  v : Vec 32
  y : Vec 32
  nb : Nat
  Rx : Nat
  Rv : Nat
  R : Nat
  k : Nat
  r : Int
  N : Int
  i : Int
  j : Int
def rx_st (d : rxD) : Fr × List Blk :=
  match d with
  | ⟨x, v, y, nb, Rx, Rv, R, k, r, N, i, j⟩ => (⟨[(.ref (.sl 0 (.c 0) (.s nb) none)), (.num (.int .i64 (.s r))), (.num (.int .i64 (.s N))), (.atom .undef), (.atom .undef), (.atom .undef), (.atom .undef), (.ref (.sl 2 (.c 0) (.s Rx) none)), (.atom .undef), (.ref (.sl 1 (.c 0) (.s k) none)), (.atom .undef), (.num (.int .i64 (.s i))), (.ref (.sl 4 (.c 0) (.s Rv) none)), (.ref (.sl 5 (.c 0) (.s R) none)), (.num (.int .i64 (.s j)))], []⟩, [⟨(.gen []), .dead⟩, ⟨(.gen []), .dead⟩, ⟨(.b32 x), .ro⟩, ⟨(.gen []), .dead⟩, ⟨(.b32 v), .ro⟩, ⟨(.b32 y), .own⟩])
def rx_next (d : rxD) : rxD :=
  match d with
  | ⟨x, v, y, nb, Rx, Rv, R, k, r, N, i, j⟩ => ⟨x, v, y.set (0 + j.toNat * 1) (x.l.getD (0 + j.toNat * 1) 0#32 ^^^ v.l.getD (0 + j.toNat * 1) 0#32), nb, Rx, Rv, R, k, r, N, i, j + 1⟩
def rx_rd (F : Fr) (K : List Blk) : Option rxD :=
    match F with
    | ⟨[(.ref (.sl 0 (.c 0) (.s nb) none)), (.num (.int .i64 (.s r))), (.num (.int .i64 (.s N))), (.atom .undef), (.atom .undef), (.atom .undef), (.atom .undef), (.ref (.sl 2 (.c 0) (.s Rx) none)), (.atom .undef), (.ref (.sl 1 (.c 0) (.s k) none)), (.atom .undef), (.num (.int .i64 (.s i))), (.ref (.sl 4 (.c 0) (.s Rv) none)), (.ref (.sl 5 (.c 0) (.s R) none)), (.num (.int .i64 (.s j)))], []⟩ =>
      match K with
      | [⟨(.gen []), .dead⟩, ⟨(.gen []), .dead⟩, ⟨(.b32 x), .ro⟩, ⟨(.gen []), .dead⟩, ⟨(.b32 v), .ro⟩, ⟨(.b32 y), .own⟩] => some ⟨x, v, y, nb, Rx, Rv, R, k, r, N, i, j⟩
      | _ => none
    | _ => none
def rx : LoopP rxD where
  pat := ⟨[(.ref (.sl 0 (.c 0) (.s 0) none)), (.num (.int .i64 (.s 0))), (.num (.int .i64 (.s 0))), (.atom .undef), (.atom .undef), (.atom .undef), (.atom .undef), (.ref (.sl 2 (.c 0) (.s 0) none)), (.atom .undef), (.ref (.sl 1 (.c 0) (.s 0) none)), (.atom .undef), (.num (.int .i64 (.s 0))), (.ref (.sl 4 (.c 0) (.s 0) none)), (.ref (.sl 5 (.c 0) (.s 0) none)), (.num (.int .i64 (.s 0)))], []⟩
  patH := [⟨(.gen []), .dead⟩, ⟨(.gen []), .dead⟩, ⟨(.b32 (Vec.zero 32 0)), .ro⟩, ⟨(.gen []), .dead⟩, ⟨(.b32 (Vec.zero 32 0)), .ro⟩, ⟨(.b32 (Vec.zero 32 0)), .own⟩]
  gh := []
  read := rx_rd
  st := rx_st
  next := rx_next
  rem := fun ⟨_, _, _, _, _, _, R, _, _, _, _, j⟩ => (R - j).toNat
  good := fun ⟨x, v, y, _, Rx, Rv, R, _, _, _, _, j⟩ => decide (0 ≤ j ∧ j ≤ R ∧ R ≤ 1000000 ∧ R ≤ Rx ∧ R ≤ Rv ∧ R ≤ x.n ∧ R ≤ v.n ∧ R ≤ y.n)
  out := .exit 6
  fin := rx_st
theorem rx_round (x v y : Vec 32) (nb Rx Rv R k : Nat) (r N i j : Int) : ranAs ((rx.st ⟨x, v, y, nb, Rx, Rv, R, k, r, N, i, j⟩).2.length - rx.gh.length) none (rx.st (rx_next ⟨x, v, y, nb, Rx, Rv, R, k, r, N, i, j⟩)) (goL noSpec noLoop 6 3 (rx.st ⟨x, v, y, nb, Rx, Rv, R, k, r, N, i, j⟩).1 ⟨(rx.st ⟨x, v, y, nb, Rx, Rv, R, k, r, N, i, j⟩).2, big, [true], []⟩) = some (.normal, (rx.st (rx_next ⟨x, v, y, nb, Rx, Rv, R, k, r, N, i, j⟩)), [decide ((((-9223372036854775808) : Int) ≤ (j + 1) ∧ (j + 1) ≤ 9223372036854775807)), decide ((0 + (((j) : Int).toNat * 1)) < y.n), (decide ((0 : Int) ≤ j) && decide (j < ((R : Nat) : Int))), decide ((0 + (((j) : Int).toNat * 1)) < v.n), (decide ((0 : Int) ≤ j) && decide (j < ((Rv : Nat) : Int))), decide ((0 + (((j) : Int).toNat * 1)) < x.n), (decide ((0 : Int) ≤ j) && decide (j < ((Rx : Nat) : Int))), (decide (j < ((R : Nat) : Int)) == true)]) := by kernel_rfl
theorem rx_end (x v y : Vec 32) (nb Rx Rv R k : Nat) (r N i j : Int) : ranAs ((rx.st ⟨x, v, y, nb, Rx, Rv, R, k, r, N, i, j⟩).2.length - rx.gh.length) none (rx.fin ⟨x, v, y, nb, Rx, Rv, R, k, r, N, i, j⟩) (goL noSpec noLoop 6 3 (rx.st ⟨x, v, y, nb, Rx, Rv, R, k, r, N, i, j⟩).1 ⟨(rx.st ⟨x, v, y, nb, Rx, Rv, R, k, r, N, i, j⟩).2, big, [false], []⟩) = some (rx.out, (rx.fin ⟨x, v, y, nb, Rx, Rv, R, k, r, N, i, j⟩), [(decide (j < ((R : Nat) : Int)) == false)]) := by kernel_rfl
set_option maxRecDepth 100000 in
theorem rx_read (F : Fr) (K : List Blk) (d : rxD) (h : rx.read F K = some d) : (F, K) = rx.st d := by
  replace h : rx_rd F K = some d := h
  unfold rx_rd at h
  split at h
  case h_2 => cases h
  split at h
  case h_2 => cases h
  injection h with h; subst h
  rfl
theorem rx_body : RunOk Try.prog noGlob (nv 6) (ntmpsIn Try.prog 6) (loopIn Try.prog 6 3) (goL noSpec noLoop 6 3) := goL_ok no_specs (no_loops _) 6 3 fine6 (by rw [show (loopsIn Try.prog 6).length = 4 by kernel_rfl]; omega)
theorem rx_toldL : LoopOk Try.prog noGlob (nv 6) (ntmpsIn Try.prog 6) (loopIn Try.prog 6 3) rx.T.told := by
  refine rx.ran rx_body (by intro k hk; have hk : k ∈ ([] : List Blk) := hk; cases hk) (by intro h; cases h) rx_read ?_ ?_
  · rintro ⟨x, v, y, nb, Rx, Rv, R, k, r, N, i, j⟩ kk hg hr
    have hg : 0 ≤ j ∧ j ≤ R ∧ R ≤ 1000000 ∧ R ≤ Rx ∧ R ≤ Rv ∧ R ≤ x.n ∧ R ≤ v.n ∧ R ≤ y.n := of_decide_eq_true hg
    have hr : (R - j).toNat = kk + 1 := hr
    have en : rx.next ⟨x, v, y, nb, Rx, Rv, R, k, r, N, i, j⟩ = rx_next ⟨x, v, y, nb, Rx, Rv, R, k, r, N, i, j⟩ := rfl
    rw [en]
    refine ⟨⟨[true], none, _, rx_round x v y nb Rx Rv R k r N i j, ?_⟩, ?_, ?_, (show (rx.st (rx_next ⟨x, v, y, nb, Rx, Rv, R, k, r, N, i, j⟩)).2.length = 6 by kernel_rfl).trans (show (rx.st ⟨x, v, y, nb, Rx, Rv, R, k, r, N, i, j⟩).2.length = 6 by kernel_rfl).symm⟩
    · repeat' (refine all_true_cons ?_ ?_)
      all_goals first | exact all_true_nil | rfl | (simp only [Bool.and_eq_true, decide_eq_true_eq, beq_iff_eq, beq_true, beq_false, Bool.not_eq_true', decide_eq_false_iff_not, beq_eq_false_iff_ne, ne_eq, Bool.not_eq_false', bne_iff_ne, true_and, and_true] <;> omega)
    · have e : rx.good (rx_next ⟨x, v, y, nb, Rx, Rv, R, k, r, N, i, j⟩) = decide (0 ≤ (j + 1 : Int) ∧ (j + 1 : Int) ≤ R ∧ R ≤ 1000000 ∧ R ≤ Rx ∧ R ≤ Rv ∧ R ≤ x.n ∧ R ≤ v.n ∧ R ≤ (y.set (0 + j.toNat * 1) (x.l.getD (0 + j.toNat * 1) 0#32 ^^^ v.l.getD (0 + j.toNat * 1) 0#32) : Vec 32).n) := by kernel_rfl
      refine e.trans (decide_eq_true ?_)
      rw [set_n]
      omega
    · have e : rx.rem (rx_next ⟨x, v, y, nb, Rx, Rv, R, k, r, N, i, j⟩) = ((R - (j + 1 : Int)).toNat) := by kernel_rfl
      refine e.trans ?_
      omega
  · rintro ⟨x, v, y, nb, Rx, Rv, R, k, r, N, i, j⟩ hg hr
    have hg : 0 ≤ j ∧ j ≤ R ∧ R ≤ 1000000 ∧ R ≤ Rx ∧ R ≤ Rv ∧ R ≤ x.n ∧ R ≤ v.n ∧ R ≤ y.n := of_decide_eq_true hg
    have hr : (R - j).toNat = 0 := hr
    refine ⟨[false], none, _, rx_end x v y nb Rx Rv R k r N i j, ?_⟩
    repeat' (refine all_true_cons ?_ ?_)
    all_goals first | exact all_true_nil | rfl | (simp only [Bool.and_eq_true, decide_eq_true_eq, beq_iff_eq, beq_true, beq_false, Bool.not_eq_true', decide_eq_false_iff_not, beq_eq_false_iff_ne, ne_eq, Bool.not_eq_false', bne_iff_ne, true_and, and_true] <;> omega)
def rx_spec : LSpec := rx.T.told
theorem rx_told : Told 6 3 rx_spec := rx_toldL.run
def ras : FuncId → Nat → Option LSpec
  | 6, 7 => some ra_spec
  | 6, 24 => some rx_spec
  | _, _ => none
theorem ras_len : (loopsIn Try.prog 6).length = 4 := by kernel_rfl
theorem ras_ok (spec : FuncId → Option Eng.Spec) : LoopsOk (cfg spec ras) noGlob := by
  refine LoopsOk.of fun f => ?_
  by_cases hf : f = 6
  · subst hf
    refine .inr ⟨by kernel_rfl, fun i hi sp hsp => ?_⟩
    have hi : i < (loopsIn Try.prog 6).length := hi
    rw [ras_len] at hi
    match i, hi with
    | 0, _ =>
      have e : (firstRid (loopIn Try.prog 6 0)).bind (ras 6) = some ra_spec := by kernel_rfl
      obtain rfl := Option.some.inj (e.symm.trans hsp)
      exact ra_told
    | 1, _ =>
      have e : (firstRid (loopIn Try.prog 6 1)).bind (ras 6) = none := by kernel_rfl
      have hsp : (firstRid (loopIn Try.prog 6 1)).bind (ras 6) = some sp := hsp
      rw [e] at hsp; cases hsp
    | 2, _ =>
      have e : (firstRid (loopIn Try.prog 6 2)).bind (ras 6) = none := by kernel_rfl
      have hsp : (firstRid (loopIn Try.prog 6 2)).bind (ras 6) = some sp := hsp
      rw [e] at hsp; cases hsp
    | 3, _ =>
      have e : (firstRid (loopIn Try.prog 6 3)).bind (ras 6) = some rx_spec := by kernel_rfl
      obtain rfl := Option.some.inj (e.symm.trans hsp)
      exact rx_told
  · refine .inl fun r => ?_
    show ras f r = none
    unfold ras
    split
    · exact absurd rfl hf
    · exact absurd rfl hf
    · rfl
end Go.Proofs.Ytnonaagcnenbdaa

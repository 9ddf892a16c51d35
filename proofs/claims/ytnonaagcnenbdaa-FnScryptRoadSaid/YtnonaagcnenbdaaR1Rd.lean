/- The law's road of the mix of blocks: its loop. -/
import Derived.Test.YtnonaagcnenbdaaR1Mix2
import Derived.Test.YtnonaagcnenbdaaEngD
namespace Go.Proofs.Ytnonaagcnenbdaa
open Go.Eng
set_option linter.unusedSimpArgs false
set_option linter.unusedVariables false
set_option linter.unusedSectionVars false
variable [RowAddr]
def specs13 : FuncId → Option Eng.Spec
  | 29 => some sp29
  | _ => none
theorem specs13_ok : ∀ f sp, specs13 f = some sp → SpecOk Try.prog noGlob f sp := by
  intro f sp h
  unfold specs13 at h
  split at h
  · injection h with h; subst h; exact ok29
  · cases h
structure c13D where
  a : W16
  b : W16
def c13_rd (a : List AV) (K : List Blk) : Option c13D :=
    match a with
    | [(.agg [(.num (.w32 a0)), (.num (.w32 a1)), (.num (.w32 a2)), (.num (.w32 a3)), (.num (.w32 a4)), (.num (.w32 a5)), (.num (.w32 a6)), (.num (.w32 a7)), (.num (.w32 a8)), (.num (.w32 a9)), (.num (.w32 a10)), (.num (.w32 a11)), (.num (.w32 a12)), (.num (.w32 a13)), (.num (.w32 a14)), (.num (.w32 a15))]), (.agg [(.num (.w32 b0)), (.num (.w32 b1)), (.num (.w32 b2)), (.num (.w32 b3)), (.num (.w32 b4)), (.num (.w32 b5)), (.num (.w32 b6)), (.num (.w32 b7)), (.num (.w32 b8)), (.num (.w32 b9)), (.num (.w32 b10)), (.num (.w32 b11)), (.num (.w32 b12)), (.num (.w32 b13)), (.num (.w32 b14)), (.num (.w32 b15))])] =>
      match K with
      | [] => some ⟨⟨a0, a1, a2, a3, a4, a5, a6, a7, a8, a9, a10, a11, a12, a13, a14, a15⟩, ⟨b0, b1, b2, b3, b4, b5, b6, b7, b8, b9, b10, b11, b12, b13, b14, b15⟩⟩
      | _ => none
    | _ => none
def c13 : Ct c13D where
  pat := [(.agg [(.num (.w32 0#32)), (.num (.w32 0#32)), (.num (.w32 0#32)), (.num (.w32 0#32)), (.num (.w32 0#32)), (.num (.w32 0#32)), (.num (.w32 0#32)), (.num (.w32 0#32)), (.num (.w32 0#32)), (.num (.w32 0#32)), (.num (.w32 0#32)), (.num (.w32 0#32)), (.num (.w32 0#32)), (.num (.w32 0#32)), (.num (.w32 0#32)), (.num (.w32 0#32))]), (.agg [(.num (.w32 0#32)), (.num (.w32 0#32)), (.num (.w32 0#32)), (.num (.w32 0#32)), (.num (.w32 0#32)), (.num (.w32 0#32)), (.num (.w32 0#32)), (.num (.w32 0#32)), (.num (.w32 0#32)), (.num (.w32 0#32)), (.num (.w32 0#32)), (.num (.w32 0#32)), (.num (.w32 0#32)), (.num (.w32 0#32)), (.num (.w32 0#32)), (.num (.w32 0#32))])]
  patH := []
  read := c13_rd
  args := fun ⟨a, b⟩ => [a.av, b.av]
  heap := fun ⟨_, _⟩ => []
  out := fun ⟨_, _⟩ => []
  val := fun ⟨a, b⟩ => ((salsa8 (xor16 a b))).av
  good := fun ⟨_, _⟩ => decide (True)
theorem c13_run (a b : W16) : endsAs (c13.heap ⟨a, b⟩).length (some []) (c13.out ⟨a, b⟩) (c13.val ⟨a, b⟩) (goB specs13 noLoop 13 (c13.args ⟨a, b⟩) ⟨c13.heap ⟨a, b⟩, big, [], []⟩) = some ((c13.out ⟨a, b⟩), (c13.val ⟨a, b⟩), [decide ((((0 + (((((0 : Nat) : Int)) : Int).toNat * 1)) + 16) ≤ 16 ∧ ((16 : Nat) ≤ 16 ∧ ((16 : Nat) ≤ (((((16 : Nat) : Int)) : Int).toNat - ((((0 : Nat) : Int)) : Int).toNat) ∧ (16 : Nat) ≤ 16))))]) := by kernel_rfl
set_option maxRecDepth 100000 in
theorem c13_read (a : List AV) (K : List Blk) (d : c13D) (h : c13.read a K = some d) : a = c13.args d ∧ K = c13.heap d := by
  replace h : c13_rd a K = some d := h
  unfold c13_rd at h
  split at h
  case h_2 => cases h
  split at h
  case h_2 => cases h
  injection h with h; subst h
  exact ⟨rfl, rfl⟩
theorem c13_ok : SpecOk Try.prog noGlob 13 c13.spec := by
  refine c13.ok (goB_ok specs13_ok (no_loops _)) c13_read ?_
  rintro ⟨a, b⟩ hg
  have hg : True := of_decide_eq_true hg
  refine ⟨[], (some []), _, c13_run a b, ?_⟩
  repeat' (refine all_true_cons ?_ ?_)
  all_goals first | exact all_true_nil | rfl | (simp only [Bool.and_eq_true, decide_eq_true_eq, beq_iff_eq, beq_true, beq_false, Bool.not_eq_true', decide_eq_false_iff_not, beq_eq_false_iff_ne, ne_eq, Bool.not_eq_false', bne_iff_ne, true_and, and_true] <;> omega)
def specs7 : FuncId → Option Eng.Spec
  | 13 => some c13.spec
  | 16 => some sp16
  | 15 => some spNqual
  | 9 => some sp9
  | _ => none
theorem specs7_ok : ∀ f sp, specs7 f = some sp → SpecOk Try.prog noGlob f sp := by
  intro f sp h
  unfold specs7 at h
  split at h
  · injection h with h; subst h; exact c13_ok
  · injection h with h; subst h; exact ok16
  · injection h with h; subst h; exact okNqual
  · injection h with h; subst h; exact ok9
  · cases h
def rdX (x : W16) (a : Vec 32) (oa : Nat) (i : Int) : W16 := salsa8 (xor16 x (take16 a (oa + (16 * i).toNat)))
def putI (l : Vec 32) (o : Int) (x : W16) : Vec 32 :=
  ((((((((((((((((l.set (0 + (o + 0).toNat * 1) x.x0).set (0 + (o + 1).toNat * 1) x.x1).set (0 + (o + 2).toNat * 1) x.x2).set (0 + (o + 3).toNat * 1) x.x3).set (0 + (o + 4).toNat * 1) x.x4).set (0 + (o + 5).toNat * 1) x.x5).set (0 + (o + 6).toNat * 1) x.x6).set (0 + (o + 7).toNat * 1) x.x7).set (0 + (o + 8).toNat * 1) x.x8).set (0 + (o + 9).toNat * 1) x.x9).set (0 + (o + 10).toNat * 1) x.x10).set (0 + (o + 11).toNat * 1) x.x11).set (0 + (o + 12).toNat * 1) x.x12).set (0 + (o + 13).toNat * 1) x.x13).set (0 + (o + 14).toNat * 1) x.x14).set (0 + (o + 15).toNat * 1) x.x15)
theorem set_n' (v : Vec 32) (i : Nat) (x : BitVec 32) : (v.set i x).n = v.n := rfl
theorem putI_n (l : Vec 32) (o : Int) (x : W16) : (putI l o x).n = l.n := by
  unfold putI
  simp only [set_n']
theorem putI_put16 (l : Vec 32) (o : Int) (x : W16) (h : 0 ≤ o) : putI l o x = put16 l o.toNat x := by
  unfold putI put16
  simp only [show 0 + (o + 0).toNat * 1 = o.toNat + 0 by omega, show 0 + (o + 1).toNat * 1 = o.toNat + 1 by omega, show 0 + (o + 2).toNat * 1 = o.toNat + 2 by omega, show 0 + (o + 3).toNat * 1 = o.toNat + 3 by omega, show 0 + (o + 4).toNat * 1 = o.toNat + 4 by omega, show 0 + (o + 5).toNat * 1 = o.toNat + 5 by omega, show 0 + (o + 6).toNat * 1 = o.toNat + 6 by omega, show 0 + (o + 7).toNat * 1 = o.toNat + 7 by omega, show 0 + (o + 8).toNat * 1 = o.toNat + 8 by omega, show 0 + (o + 9).toNat * 1 = o.toNat + 9 by omega, show 0 + (o + 10).toNat * 1 = o.toNat + 10 by omega, show 0 + (o + 11).toNat * 1 = o.toNat + 11 by omega, show 0 + (o + 12).toNat * 1 = o.toNat + 12 by omega, show 0 + (o + 13).toNat * 1 = o.toNat + 13 by omega, show 0 + (o + 14).toNat * 1 = o.toNat + 14 by omega, show 0 + (o + 15).toNat * 1 = o.toNat + 15 by omega]
structure rdD where
  x : W16
  a : Vec 32
  c : Vec 32
  oa : Nat
  na : Nat
  nc : Nat
  kc : Nat
  r : Int
  i : Int
def rd_st (d : rdD) : Fr × List Blk :=
  match d with
  | ⟨x, a, c, oa, na, nc, kc, r, i⟩ => (⟨[(.ref (.sl 0 (.s oa) (.s na) none)), (.num (.int .i64 (.s r))), (.atom .undef), (.atom .undef), (.atom .undef), (.ref (.ptr 1 (.c 0))), (.ref (.sl 2 (.c 0) (.s nc) (some (.s kc)))), (.num (.int .i64 (.s i))), (.atom .undef), (.atom .undef)], []⟩, [⟨(.b32 a), .ro⟩, ⟨(.gen x.cells), .own⟩, ⟨(.b32 c), .own⟩])
def rd_nextA (d : rdD) : rdD :=
  match d with
  | ⟨x, a, c, oa, na, nc, kc, r, i⟩ => ⟨rdX x a oa i, a, putI c (16 * (Int.tdiv i 2) + 16 * r) (rdX x a oa i), oa, na, nc, kc, r, i + 1⟩
def rd_nextB (d : rdD) : rdD :=
  match d with
  | ⟨x, a, c, oa, na, nc, kc, r, i⟩ => ⟨rdX x a oa i, a, putI c (16 * (Int.tdiv i 2)) (rdX x a oa i), oa, na, nc, kc, r, i + 1⟩
def rd_next (d : rdD) : rdD :=
  match (match d with | ⟨_, _, _, _, _, _, _, _, i⟩ => decide (Int.tmod i 2 = 1)) with
  | true => rd_nextA d
  | false => rd_nextB d
def rd_rd (F : Fr) (K : List Blk) : Option rdD :=
    match F with
    | ⟨[(.ref (.sl 0 (.s oa) (.s na) none)), (.num (.int .i64 (.s r))), (.atom .undef), (.atom .undef), (.atom .undef), (.ref (.ptr 1 (.c 0))), (.ref (.sl 2 (.c 0) (.s nc) (some (.s kc)))), (.num (.int .i64 (.s i))), (.atom .undef), (.atom .undef)], []⟩ =>
      match K with
      | [⟨(.b32 a), .ro⟩, ⟨(.gen [(.num (.w32 x0)), (.num (.w32 x1)), (.num (.w32 x2)), (.num (.w32 x3)), (.num (.w32 x4)), (.num (.w32 x5)), (.num (.w32 x6)), (.num (.w32 x7)), (.num (.w32 x8)), (.num (.w32 x9)), (.num (.w32 x10)), (.num (.w32 x11)), (.num (.w32 x12)), (.num (.w32 x13)), (.num (.w32 x14)), (.num (.w32 x15))]), .own⟩, ⟨(.b32 c), .own⟩] => some ⟨⟨x0, x1, x2, x3, x4, x5, x6, x7, x8, x9, x10, x11, x12, x13, x14, x15⟩, a, c, oa, na, nc, kc, r, i⟩
      | _ => none
    | _ => none
def rd : LoopP rdD where
  pat := ⟨[(.ref (.sl 0 (.s 0) (.s 0) none)), (.num (.int .i64 (.s 0))), (.atom .undef), (.atom .undef), (.atom .undef), (.ref (.ptr 1 (.c 0))), (.ref (.sl 2 (.c 0) (.s 0) (some (.s 0)))), (.num (.int .i64 (.s 0))), (.atom .undef), (.atom .undef)], []⟩
  patH := [⟨(.b32 (Vec.zero 32 0)), .ro⟩, ⟨(.gen [(.num (.w32 0#32)), (.num (.w32 0#32)), (.num (.w32 0#32)), (.num (.w32 0#32)), (.num (.w32 0#32)), (.num (.w32 0#32)), (.num (.w32 0#32)), (.num (.w32 0#32)), (.num (.w32 0#32)), (.num (.w32 0#32)), (.num (.w32 0#32)), (.num (.w32 0#32)), (.num (.w32 0#32)), (.num (.w32 0#32)), (.num (.w32 0#32)), (.num (.w32 0#32))]), .own⟩, ⟨(.b32 (Vec.zero 32 0)), .own⟩]
  gh := []
  read := rd_rd
  st := rd_st
  next := rd_next
  rem := fun ⟨_, _, _, _, _, _, _, r, i⟩ => (2 * r - i).toNat
  good := fun ⟨_, a, c, oa, na, nc, _, r, i⟩ => decide (0 ≤ i ∧ i ≤ 2 * r ∧ 1 ≤ r ∧ r ≤ 8 ∧ oa + 32 * r ≤ a.n ∧ 32 * r ≤ na ∧ 32 * r ≤ c.n ∧ 32 * r ≤ nc)
  out := .exit 0
  fin := rd_st
theorem rd_roundA (x : W16) (a c : Vec 32) (oa na nc kc : Nat) (r i : Int) : ranAs ((rd.st ⟨x, a, c, oa, na, nc, kc, r, i⟩).2.length - rd.gh.length) (some [0, 1, 2]) (rd.st (rd_nextA ⟨x, a, c, oa, na, nc, kc, r, i⟩)) (goL specs7 noLoop 7 0 (rd.st ⟨x, a, c, oa, na, nc, kc, r, i⟩).1 ⟨(rd.st ⟨x, a, c, oa, na, nc, kc, r, i⟩).2, big, [true, true], []⟩) = some (.normal, (rd.st (rd_nextA ⟨x, a, c, oa, na, nc, kc, r, i⟩)), [decide (((-9223372036854775808) ≤ (i + 1) ∧ (i + 1) ≤ 9223372036854775807)), decide ((0 + ((((((16 * (Int.tdiv i 2)) + (16 * r)) + 15)) : Int).toNat * 1)) < c.n), (decide ((0 : Int) ≤ (((16 * (Int.tdiv i 2)) + (16 * r)) + 15)) && decide ((((16 * (Int.tdiv i 2)) + (16 * r)) + 15) < ((nc : Nat) : Int))), decide (((-9223372036854775808) ≤ (((16 * (Int.tdiv i 2)) + (16 * r)) + 15) ∧ (((16 * (Int.tdiv i 2)) + (16 * r)) + 15) ≤ 9223372036854775807)), decide ((0 + ((((((16 * (Int.tdiv i 2)) + (16 * r)) + 14)) : Int).toNat * 1)) < c.n), (decide ((0 : Int) ≤ (((16 * (Int.tdiv i 2)) + (16 * r)) + 14)) && decide ((((16 * (Int.tdiv i 2)) + (16 * r)) + 14) < ((nc : Nat) : Int))), decide (((-9223372036854775808) ≤ (((16 * (Int.tdiv i 2)) + (16 * r)) + 14) ∧ (((16 * (Int.tdiv i 2)) + (16 * r)) + 14) ≤ 9223372036854775807)), decide ((0 + ((((((16 * (Int.tdiv i 2)) + (16 * r)) + 13)) : Int).toNat * 1)) < c.n), (decide ((0 : Int) ≤ (((16 * (Int.tdiv i 2)) + (16 * r)) + 13)) && decide ((((16 * (Int.tdiv i 2)) + (16 * r)) + 13) < ((nc : Nat) : Int))), decide (((-9223372036854775808) ≤ (((16 * (Int.tdiv i 2)) + (16 * r)) + 13) ∧ (((16 * (Int.tdiv i 2)) + (16 * r)) + 13) ≤ 9223372036854775807)), decide ((0 + ((((((16 * (Int.tdiv i 2)) + (16 * r)) + 12)) : Int).toNat * 1)) < c.n), (decide ((0 : Int) ≤ (((16 * (Int.tdiv i 2)) + (16 * r)) + 12)) && decide ((((16 * (Int.tdiv i 2)) + (16 * r)) + 12) < ((nc : Nat) : Int))), decide (((-9223372036854775808) ≤ (((16 * (Int.tdiv i 2)) + (16 * r)) + 12) ∧ (((16 * (Int.tdiv i 2)) + (16 * r)) + 12) ≤ 9223372036854775807)), decide ((0 + ((((((16 * (Int.tdiv i 2)) + (16 * r)) + 11)) : Int).toNat * 1)) < c.n), (decide ((0 : Int) ≤ (((16 * (Int.tdiv i 2)) + (16 * r)) + 11)) && decide ((((16 * (Int.tdiv i 2)) + (16 * r)) + 11) < ((nc : Nat) : Int))), decide (((-9223372036854775808) ≤ (((16 * (Int.tdiv i 2)) + (16 * r)) + 11) ∧ (((16 * (Int.tdiv i 2)) + (16 * r)) + 11) ≤ 9223372036854775807)), decide ((0 + ((((((16 * (Int.tdiv i 2)) + (16 * r)) + 10)) : Int).toNat * 1)) < c.n), (decide ((0 : Int) ≤ (((16 * (Int.tdiv i 2)) + (16 * r)) + 10)) && decide ((((16 * (Int.tdiv i 2)) + (16 * r)) + 10) < ((nc : Nat) : Int))), decide (((-9223372036854775808) ≤ (((16 * (Int.tdiv i 2)) + (16 * r)) + 10) ∧ (((16 * (Int.tdiv i 2)) + (16 * r)) + 10) ≤ 9223372036854775807)), decide ((0 + ((((((16 * (Int.tdiv i 2)) + (16 * r)) + 9)) : Int).toNat * 1)) < c.n), (decide ((0 : Int) ≤ (((16 * (Int.tdiv i 2)) + (16 * r)) + 9)) && decide ((((16 * (Int.tdiv i 2)) + (16 * r)) + 9) < ((nc : Nat) : Int))), decide (((-9223372036854775808) ≤ (((16 * (Int.tdiv i 2)) + (16 * r)) + 9) ∧ (((16 * (Int.tdiv i 2)) + (16 * r)) + 9) ≤ 9223372036854775807)), decide ((0 + ((((((16 * (Int.tdiv i 2)) + (16 * r)) + 8)) : Int).toNat * 1)) < c.n), (decide ((0 : Int) ≤ (((16 * (Int.tdiv i 2)) + (16 * r)) + 8)) && decide ((((16 * (Int.tdiv i 2)) + (16 * r)) + 8) < ((nc : Nat) : Int))), decide (((-9223372036854775808) ≤ (((16 * (Int.tdiv i 2)) + (16 * r)) + 8) ∧ (((16 * (Int.tdiv i 2)) + (16 * r)) + 8) ≤ 9223372036854775807)), decide ((0 + ((((((16 * (Int.tdiv i 2)) + (16 * r)) + 7)) : Int).toNat * 1)) < c.n), (decide ((0 : Int) ≤ (((16 * (Int.tdiv i 2)) + (16 * r)) + 7)) && decide ((((16 * (Int.tdiv i 2)) + (16 * r)) + 7) < ((nc : Nat) : Int))), decide (((-9223372036854775808) ≤ (((16 * (Int.tdiv i 2)) + (16 * r)) + 7) ∧ (((16 * (Int.tdiv i 2)) + (16 * r)) + 7) ≤ 9223372036854775807)), decide ((0 + ((((((16 * (Int.tdiv i 2)) + (16 * r)) + 6)) : Int).toNat * 1)) < c.n), (decide ((0 : Int) ≤ (((16 * (Int.tdiv i 2)) + (16 * r)) + 6)) && decide ((((16 * (Int.tdiv i 2)) + (16 * r)) + 6) < ((nc : Nat) : Int))), decide (((-9223372036854775808) ≤ (((16 * (Int.tdiv i 2)) + (16 * r)) + 6) ∧ (((16 * (Int.tdiv i 2)) + (16 * r)) + 6) ≤ 9223372036854775807)), decide ((0 + ((((((16 * (Int.tdiv i 2)) + (16 * r)) + 5)) : Int).toNat * 1)) < c.n), (decide ((0 : Int) ≤ (((16 * (Int.tdiv i 2)) + (16 * r)) + 5)) && decide ((((16 * (Int.tdiv i 2)) + (16 * r)) + 5) < ((nc : Nat) : Int))), decide (((-9223372036854775808) ≤ (((16 * (Int.tdiv i 2)) + (16 * r)) + 5) ∧ (((16 * (Int.tdiv i 2)) + (16 * r)) + 5) ≤ 9223372036854775807)), decide ((0 + ((((((16 * (Int.tdiv i 2)) + (16 * r)) + 4)) : Int).toNat * 1)) < c.n), (decide ((0 : Int) ≤ (((16 * (Int.tdiv i 2)) + (16 * r)) + 4)) && decide ((((16 * (Int.tdiv i 2)) + (16 * r)) + 4) < ((nc : Nat) : Int))), decide (((-9223372036854775808) ≤ (((16 * (Int.tdiv i 2)) + (16 * r)) + 4) ∧ (((16 * (Int.tdiv i 2)) + (16 * r)) + 4) ≤ 9223372036854775807)), decide ((0 + ((((((16 * (Int.tdiv i 2)) + (16 * r)) + 3)) : Int).toNat * 1)) < c.n), (decide ((0 : Int) ≤ (((16 * (Int.tdiv i 2)) + (16 * r)) + 3)) && decide ((((16 * (Int.tdiv i 2)) + (16 * r)) + 3) < ((nc : Nat) : Int))), decide (((-9223372036854775808) ≤ (((16 * (Int.tdiv i 2)) + (16 * r)) + 3) ∧ (((16 * (Int.tdiv i 2)) + (16 * r)) + 3) ≤ 9223372036854775807)), decide ((0 + ((((((16 * (Int.tdiv i 2)) + (16 * r)) + 2)) : Int).toNat * 1)) < c.n), (decide ((0 : Int) ≤ (((16 * (Int.tdiv i 2)) + (16 * r)) + 2)) && decide ((((16 * (Int.tdiv i 2)) + (16 * r)) + 2) < ((nc : Nat) : Int))), decide (((-9223372036854775808) ≤ (((16 * (Int.tdiv i 2)) + (16 * r)) + 2) ∧ (((16 * (Int.tdiv i 2)) + (16 * r)) + 2) ≤ 9223372036854775807)), decide ((0 + ((((((16 * (Int.tdiv i 2)) + (16 * r)) + 1)) : Int).toNat * 1)) < c.n), (decide ((0 : Int) ≤ (((16 * (Int.tdiv i 2)) + (16 * r)) + 1)) && decide ((((16 * (Int.tdiv i 2)) + (16 * r)) + 1) < ((nc : Nat) : Int))), decide (((-9223372036854775808) ≤ (((16 * (Int.tdiv i 2)) + (16 * r)) + 1) ∧ (((16 * (Int.tdiv i 2)) + (16 * r)) + 1) ≤ 9223372036854775807)), decide ((0 + ((((((16 * (Int.tdiv i 2)) + (16 * r)) + 0)) : Int).toNat * 1)) < c.n), (decide ((0 : Int) ≤ (((16 * (Int.tdiv i 2)) + (16 * r)) + 0)) && decide ((((16 * (Int.tdiv i 2)) + (16 * r)) + 0) < ((nc : Nat) : Int))), decide (((-9223372036854775808) ≤ (((16 * (Int.tdiv i 2)) + (16 * r)) + 0) ∧ (((16 * (Int.tdiv i 2)) + (16 * r)) + 0) ≤ 9223372036854775807)), decide (((-9223372036854775808) ≤ ((16 * (Int.tdiv i 2)) + (16 * r)) ∧ ((16 * (Int.tdiv i 2)) + (16 * r)) ≤ 9223372036854775807)), decide (((-9223372036854775808) ≤ (16 * r) ∧ (16 * r) ≤ 9223372036854775807)), (((Int.tmod i 2) == 1) == true), decide ((2 : Int) ≠ 0), decide (((-9223372036854775808) ≤ (16 * (Int.tdiv i 2)) ∧ (16 * (Int.tdiv i 2)) ≤ 9223372036854775807)), decide (((0 : Int) ≤ i ∧ ((0 : Int) < 2 ∧ i ≤ 9223372036854775807))), decide (True), decide (((oa + (((16 * i)) : Int).toNat) + 16) ≤ a.n), decide ((16 : Nat) ≤ (((((16 * i) + 16)) : Int).toNat - (((16 * i)) : Int).toNat)), ((decide ((0 : Int) ≤ (16 * i)) && decide ((16 * i) ≤ ((16 * i) + 16))) && decide (((16 * i) + 16) ≤ ((na : Nat) : Int))), decide (((-9223372036854775808) ≤ ((16 * i) + 16) ∧ ((16 * i) + 16) ≤ 9223372036854775807)), decide (((-9223372036854775808) ≤ (16 * i) ∧ (16 * i) ≤ 9223372036854775807)), decide (((-9223372036854775808) ≤ (16 * i) ∧ (16 * i) ≤ 9223372036854775807)), (decide (i < (2 * r)) == true), decide (((-9223372036854775808) ≤ (2 * r) ∧ (2 * r) ≤ 9223372036854775807))]) := by kernel_rfl
theorem rd_roundB (x : W16) (a c : Vec 32) (oa na nc kc : Nat) (r i : Int) : ranAs ((rd.st ⟨x, a, c, oa, na, nc, kc, r, i⟩).2.length - rd.gh.length) (some [0, 1, 2]) (rd.st (rd_nextB ⟨x, a, c, oa, na, nc, kc, r, i⟩)) (goL specs7 noLoop 7 0 (rd.st ⟨x, a, c, oa, na, nc, kc, r, i⟩).1 ⟨(rd.st ⟨x, a, c, oa, na, nc, kc, r, i⟩).2, big, [true, false], []⟩) = some (.normal, (rd.st (rd_nextB ⟨x, a, c, oa, na, nc, kc, r, i⟩)), [decide (((-9223372036854775808) ≤ (i + 1) ∧ (i + 1) ≤ 9223372036854775807)), decide ((0 + (((((16 * (Int.tdiv i 2)) + 15)) : Int).toNat * 1)) < c.n), (decide ((0 : Int) ≤ ((16 * (Int.tdiv i 2)) + 15)) && decide (((16 * (Int.tdiv i 2)) + 15) < ((nc : Nat) : Int))), decide (((-9223372036854775808) ≤ ((16 * (Int.tdiv i 2)) + 15) ∧ ((16 * (Int.tdiv i 2)) + 15) ≤ 9223372036854775807)), decide ((0 + (((((16 * (Int.tdiv i 2)) + 14)) : Int).toNat * 1)) < c.n), (decide ((0 : Int) ≤ ((16 * (Int.tdiv i 2)) + 14)) && decide (((16 * (Int.tdiv i 2)) + 14) < ((nc : Nat) : Int))), decide (((-9223372036854775808) ≤ ((16 * (Int.tdiv i 2)) + 14) ∧ ((16 * (Int.tdiv i 2)) + 14) ≤ 9223372036854775807)), decide ((0 + (((((16 * (Int.tdiv i 2)) + 13)) : Int).toNat * 1)) < c.n), (decide ((0 : Int) ≤ ((16 * (Int.tdiv i 2)) + 13)) && decide (((16 * (Int.tdiv i 2)) + 13) < ((nc : Nat) : Int))), decide (((-9223372036854775808) ≤ ((16 * (Int.tdiv i 2)) + 13) ∧ ((16 * (Int.tdiv i 2)) + 13) ≤ 9223372036854775807)), decide ((0 + (((((16 * (Int.tdiv i 2)) + 12)) : Int).toNat * 1)) < c.n), (decide ((0 : Int) ≤ ((16 * (Int.tdiv i 2)) + 12)) && decide (((16 * (Int.tdiv i 2)) + 12) < ((nc : Nat) : Int))), decide (((-9223372036854775808) ≤ ((16 * (Int.tdiv i 2)) + 12) ∧ ((16 * (Int.tdiv i 2)) + 12) ≤ 9223372036854775807)), decide ((0 + (((((16 * (Int.tdiv i 2)) + 11)) : Int).toNat * 1)) < c.n), (decide ((0 : Int) ≤ ((16 * (Int.tdiv i 2)) + 11)) && decide (((16 * (Int.tdiv i 2)) + 11) < ((nc : Nat) : Int))), decide (((-9223372036854775808) ≤ ((16 * (Int.tdiv i 2)) + 11) ∧ ((16 * (Int.tdiv i 2)) + 11) ≤ 9223372036854775807)), decide ((0 + (((((16 * (Int.tdiv i 2)) + 10)) : Int).toNat * 1)) < c.n), (decide ((0 : Int) ≤ ((16 * (Int.tdiv i 2)) + 10)) && decide (((16 * (Int.tdiv i 2)) + 10) < ((nc : Nat) : Int))), decide (((-9223372036854775808) ≤ ((16 * (Int.tdiv i 2)) + 10) ∧ ((16 * (Int.tdiv i 2)) + 10) ≤ 9223372036854775807)), decide ((0 + (((((16 * (Int.tdiv i 2)) + 9)) : Int).toNat * 1)) < c.n), (decide ((0 : Int) ≤ ((16 * (Int.tdiv i 2)) + 9)) && decide (((16 * (Int.tdiv i 2)) + 9) < ((nc : Nat) : Int))), decide (((-9223372036854775808) ≤ ((16 * (Int.tdiv i 2)) + 9) ∧ ((16 * (Int.tdiv i 2)) + 9) ≤ 9223372036854775807)), decide ((0 + (((((16 * (Int.tdiv i 2)) + 8)) : Int).toNat * 1)) < c.n), (decide ((0 : Int) ≤ ((16 * (Int.tdiv i 2)) + 8)) && decide (((16 * (Int.tdiv i 2)) + 8) < ((nc : Nat) : Int))), decide (((-9223372036854775808) ≤ ((16 * (Int.tdiv i 2)) + 8) ∧ ((16 * (Int.tdiv i 2)) + 8) ≤ 9223372036854775807)), decide ((0 + (((((16 * (Int.tdiv i 2)) + 7)) : Int).toNat * 1)) < c.n), (decide ((0 : Int) ≤ ((16 * (Int.tdiv i 2)) + 7)) && decide (((16 * (Int.tdiv i 2)) + 7) < ((nc : Nat) : Int))), decide (((-9223372036854775808) ≤ ((16 * (Int.tdiv i 2)) + 7) ∧ ((16 * (Int.tdiv i 2)) + 7) ≤ 9223372036854775807)), decide ((0 + (((((16 * (Int.tdiv i 2)) + 6)) : Int).toNat * 1)) < c.n), (decide ((0 : Int) ≤ ((16 * (Int.tdiv i 2)) + 6)) && decide (((16 * (Int.tdiv i 2)) + 6) < ((nc : Nat) : Int))), decide (((-9223372036854775808) ≤ ((16 * (Int.tdiv i 2)) + 6) ∧ ((16 * (Int.tdiv i 2)) + 6) ≤ 9223372036854775807)), decide ((0 + (((((16 * (Int.tdiv i 2)) + 5)) : Int).toNat * 1)) < c.n), (decide ((0 : Int) ≤ ((16 * (Int.tdiv i 2)) + 5)) && decide (((16 * (Int.tdiv i 2)) + 5) < ((nc : Nat) : Int))), decide (((-9223372036854775808) ≤ ((16 * (Int.tdiv i 2)) + 5) ∧ ((16 * (Int.tdiv i 2)) + 5) ≤ 9223372036854775807)), decide ((0 + (((((16 * (Int.tdiv i 2)) + 4)) : Int).toNat * 1)) < c.n), (decide ((0 : Int) ≤ ((16 * (Int.tdiv i 2)) + 4)) && decide (((16 * (Int.tdiv i 2)) + 4) < ((nc : Nat) : Int))), decide (((-9223372036854775808) ≤ ((16 * (Int.tdiv i 2)) + 4) ∧ ((16 * (Int.tdiv i 2)) + 4) ≤ 9223372036854775807)), decide ((0 + (((((16 * (Int.tdiv i 2)) + 3)) : Int).toNat * 1)) < c.n), (decide ((0 : Int) ≤ ((16 * (Int.tdiv i 2)) + 3)) && decide (((16 * (Int.tdiv i 2)) + 3) < ((nc : Nat) : Int))), decide (((-9223372036854775808) ≤ ((16 * (Int.tdiv i 2)) + 3) ∧ ((16 * (Int.tdiv i 2)) + 3) ≤ 9223372036854775807)), decide ((0 + (((((16 * (Int.tdiv i 2)) + 2)) : Int).toNat * 1)) < c.n), (decide ((0 : Int) ≤ ((16 * (Int.tdiv i 2)) + 2)) && decide (((16 * (Int.tdiv i 2)) + 2) < ((nc : Nat) : Int))), decide (((-9223372036854775808) ≤ ((16 * (Int.tdiv i 2)) + 2) ∧ ((16 * (Int.tdiv i 2)) + 2) ≤ 9223372036854775807)), decide ((0 + (((((16 * (Int.tdiv i 2)) + 1)) : Int).toNat * 1)) < c.n), (decide ((0 : Int) ≤ ((16 * (Int.tdiv i 2)) + 1)) && decide (((16 * (Int.tdiv i 2)) + 1) < ((nc : Nat) : Int))), decide (((-9223372036854775808) ≤ ((16 * (Int.tdiv i 2)) + 1) ∧ ((16 * (Int.tdiv i 2)) + 1) ≤ 9223372036854775807)), decide ((0 + (((((16 * (Int.tdiv i 2)) + 0)) : Int).toNat * 1)) < c.n), (decide ((0 : Int) ≤ ((16 * (Int.tdiv i 2)) + 0)) && decide (((16 * (Int.tdiv i 2)) + 0) < ((nc : Nat) : Int))), decide (((-9223372036854775808) ≤ ((16 * (Int.tdiv i 2)) + 0) ∧ ((16 * (Int.tdiv i 2)) + 0) ≤ 9223372036854775807)), (((Int.tmod i 2) == 1) == false), decide ((2 : Int) ≠ 0), decide (((-9223372036854775808) ≤ (16 * (Int.tdiv i 2)) ∧ (16 * (Int.tdiv i 2)) ≤ 9223372036854775807)), decide (((0 : Int) ≤ i ∧ ((0 : Int) < 2 ∧ i ≤ 9223372036854775807))), decide (True), decide (((oa + (((16 * i)) : Int).toNat) + 16) ≤ a.n), decide ((16 : Nat) ≤ (((((16 * i) + 16)) : Int).toNat - (((16 * i)) : Int).toNat)), ((decide ((0 : Int) ≤ (16 * i)) && decide ((16 * i) ≤ ((16 * i) + 16))) && decide (((16 * i) + 16) ≤ ((na : Nat) : Int))), decide (((-9223372036854775808) ≤ ((16 * i) + 16) ∧ ((16 * i) + 16) ≤ 9223372036854775807)), decide (((-9223372036854775808) ≤ (16 * i) ∧ (16 * i) ≤ 9223372036854775807)), decide (((-9223372036854775808) ≤ (16 * i) ∧ (16 * i) ≤ 9223372036854775807)), (decide (i < (2 * r)) == true), decide (((-9223372036854775808) ≤ (2 * r) ∧ (2 * r) ≤ 9223372036854775807))]) := by kernel_rfl
theorem rd_end (x : W16) (a c : Vec 32) (oa na nc kc : Nat) (r i : Int) : ranAs ((rd.st ⟨x, a, c, oa, na, nc, kc, r, i⟩).2.length - rd.gh.length) none (rd.fin ⟨x, a, c, oa, na, nc, kc, r, i⟩) (goL specs7 noLoop 7 0 (rd.st ⟨x, a, c, oa, na, nc, kc, r, i⟩).1 ⟨(rd.st ⟨x, a, c, oa, na, nc, kc, r, i⟩).2, big, [false], []⟩) = some (rd.out, (rd.fin ⟨x, a, c, oa, na, nc, kc, r, i⟩), [(decide (i < (2 * r)) == false), decide (((-9223372036854775808) ≤ (2 * r) ∧ (2 * r) ≤ 9223372036854775807))]) := by kernel_rfl
set_option maxRecDepth 100000 in
theorem rd_read (F : Fr) (K : List Blk) (d : rdD) (h : rd.read F K = some d) : (F, K) = rd.st d := by
  replace h : rd_rd F K = some d := h
  unfold rd_rd at h
  split at h
  case h_2 => cases h
  split at h
  case h_2 => cases h
  injection h with h; subst h
  rfl
theorem rd_body : RunOk Try.prog noGlob (nv 7) (ntmpsIn Try.prog 7) (loopIn Try.prog 7 0) (goL specs7 noLoop 7 0) := goL_ok specs7_ok (no_loops _) 7 0 fine7 (by rw [show (loopsIn Try.prog 7).length = 2 by kernel_rfl]; omega)
theorem rd_toldL : LoopOk Try.prog noGlob (nv 7) (ntmpsIn Try.prog 7) (loopIn Try.prog 7 0) rd.T.told := by
  refine rd.ran rd_body (by intro k hk; have hk : k ∈ ([] : List Blk) := hk; cases hk) (by intro h; cases h) rd_read ?_ ?_
  · rintro ⟨x, a, c, oa, na, nc, kc, r, i⟩ kk hg hr
    have hg : 0 ≤ i ∧ i ≤ 2 * r ∧ 1 ≤ r ∧ r ≤ 8 ∧ oa + 32 * r ≤ a.n ∧ 32 * r ≤ na ∧ 32 * r ≤ c.n ∧ 32 * r ≤ nc := of_decide_eq_true hg
    have hr : (2 * r - i).toNat = kk + 1 := hr
    have hd := Int.tdiv_eq_ediv_of_nonneg (b := 2) hg.1
    have hm := Int.tmod_eq_emod_of_nonneg (b := 2) hg.1
    by_cases hs : Int.tmod i 2 = 1
    · have en : rd.next ⟨x, a, c, oa, na, nc, kc, r, i⟩ = rd_nextA ⟨x, a, c, oa, na, nc, kc, r, i⟩ := by
        show (match decide (Int.tmod i 2 = 1) with | true => rd_nextA ⟨x, a, c, oa, na, nc, kc, r, i⟩ | false => rd_nextB ⟨x, a, c, oa, na, nc, kc, r, i⟩) = _
        rw [decide_eq_true hs]
      rw [en]
      refine ⟨⟨[true, true], (some [0, 1, 2]), _, rd_roundA x a c oa na nc kc r i, ?_⟩, ?_, ?_, (show (rd.st (rd_nextA ⟨x, a, c, oa, na, nc, kc, r, i⟩)).2.length = 3 by kernel_rfl).trans (show (rd.st ⟨x, a, c, oa, na, nc, kc, r, i⟩).2.length = 3 by kernel_rfl).symm⟩
      · repeat' (refine all_true_cons ?_ ?_)
        all_goals first | exact all_true_nil | rfl | (simp only [Bool.and_eq_true, decide_eq_true_eq, beq_iff_eq, beq_true, beq_false, Bool.not_eq_true', decide_eq_false_iff_not, beq_eq_false_iff_ne, ne_eq, Bool.not_eq_false', bne_iff_ne, true_and, and_true] <;> omega)
      · have e : rd.good (rd_nextA ⟨x, a, c, oa, na, nc, kc, r, i⟩) = decide (0 ≤ (i + 1 : Int) ∧ (i + 1 : Int) ≤ 2 * r ∧ 1 ≤ r ∧ r ≤ 8 ∧ oa + 32 * r ≤ a.n ∧ 32 * r ≤ na ∧ 32 * r ≤ (putI c (16 * (Int.tdiv i 2) + 16 * r) (rdX x a oa i) : Vec 32).n ∧ 32 * r ≤ nc) := by kernel_rfl
        refine e.trans (decide_eq_true ?_)
        rw [putI_n]; omega
      · have e : rd.rem (rd_nextA ⟨x, a, c, oa, na, nc, kc, r, i⟩) = ((2 * r - (i + 1 : Int)).toNat) := by kernel_rfl
        refine e.trans ?_
        omega
    · have en : rd.next ⟨x, a, c, oa, na, nc, kc, r, i⟩ = rd_nextB ⟨x, a, c, oa, na, nc, kc, r, i⟩ := by
        show (match decide (Int.tmod i 2 = 1) with | true => rd_nextA ⟨x, a, c, oa, na, nc, kc, r, i⟩ | false => rd_nextB ⟨x, a, c, oa, na, nc, kc, r, i⟩) = _
        rw [decide_eq_false hs]
      rw [en]
      refine ⟨⟨[true, false], (some [0, 1, 2]), _, rd_roundB x a c oa na nc kc r i, ?_⟩, ?_, ?_, (show (rd.st (rd_nextB ⟨x, a, c, oa, na, nc, kc, r, i⟩)).2.length = 3 by kernel_rfl).trans (show (rd.st ⟨x, a, c, oa, na, nc, kc, r, i⟩).2.length = 3 by kernel_rfl).symm⟩
      · repeat' (refine all_true_cons ?_ ?_)
        all_goals first | exact all_true_nil | rfl | (simp only [Bool.and_eq_true, decide_eq_true_eq, beq_iff_eq, beq_true, beq_false, Bool.not_eq_true', decide_eq_false_iff_not, beq_eq_false_iff_ne, ne_eq, Bool.not_eq_false', bne_iff_ne, true_and, and_true] <;> omega)
      · have e : rd.good (rd_nextB ⟨x, a, c, oa, na, nc, kc, r, i⟩) = decide (0 ≤ (i + 1 : Int) ∧ (i + 1 : Int) ≤ 2 * r ∧ 1 ≤ r ∧ r ≤ 8 ∧ oa + 32 * r ≤ a.n ∧ 32 * r ≤ na ∧ 32 * r ≤ (putI c (16 * (Int.tdiv i 2)) (rdX x a oa i) : Vec 32).n ∧ 32 * r ≤ nc) := by kernel_rfl
        refine e.trans (decide_eq_true ?_)
        rw [putI_n]; omega
      · have e : rd.rem (rd_nextB ⟨x, a, c, oa, na, nc, kc, r, i⟩) = ((2 * r - (i + 1 : Int)).toNat) := by kernel_rfl
        refine e.trans ?_
        omega
  · rintro ⟨x, a, c, oa, na, nc, kc, r, i⟩ hg hr
    have hg : 0 ≤ i ∧ i ≤ 2 * r ∧ 1 ≤ r ∧ r ≤ 8 ∧ oa + 32 * r ≤ a.n ∧ 32 * r ≤ na ∧ 32 * r ≤ c.n ∧ 32 * r ≤ nc := of_decide_eq_true hg
    have hr : (2 * r - i).toNat = 0 := hr
    have hd := Int.tdiv_eq_ediv_of_nonneg (b := 2) hg.1
    have hm := Int.tmod_eq_emod_of_nonneg (b := 2) hg.1
    refine ⟨[false], none, _, rd_end x a c oa na nc kc r i, ?_⟩
    repeat' (refine all_true_cons ?_ ?_)
    all_goals first | exact all_true_nil | rfl | (simp only [Bool.and_eq_true, decide_eq_true_eq, beq_iff_eq, beq_true, beq_false, Bool.not_eq_true', decide_eq_false_iff_not, beq_eq_false_iff_ne, ne_eq, Bool.not_eq_false', bne_iff_ne, true_and, and_true] <;> omega)
def rd_spec : LSpec := rd.T.told
theorem rd_told : Told 7 0 rd_spec := rd_toldL.run
def rdLoops : FuncId → Nat → Option LSpec
  | 7, 8 => some rd_spec
  | _, _ => none
theorem rdLoops_len : (loopsIn Try.prog 7).length = 2 := by kernel_rfl
theorem rdLoops_ok (spec : FuncId → Option Eng.Spec) : LoopsOk (cfg spec rdLoops) noGlob := by
  refine LoopsOk.of fun f => ?_
  by_cases hf : f = 7
  · subst hf
    refine .inr ⟨by kernel_rfl, fun i hi sp hsp => ?_⟩
    have hi : i < (loopsIn Try.prog 7).length := hi
    rw [rdLoops_len] at hi
    match i, hi with
    | 0, _ =>
      have e : (firstRid (loopIn Try.prog 7 0)).bind (rdLoops 7) = some rd_spec := by kernel_rfl
      obtain rfl := Option.some.inj (e.symm.trans hsp)
      exact rd_told
    | 1, _ =>
      have e : (firstRid (loopIn Try.prog 7 1)).bind (rdLoops 7) = none := by kernel_rfl
      have hsp : (firstRid (loopIn Try.prog 7 1)).bind (rdLoops 7) = some sp := hsp
      rw [e] at hsp; cases hsp
  · refine .inl fun r => ?_
    show rdLoops f r = none
    unfold rdLoops
    split
    · exact absurd rfl hf
    · rfl
end Go.Proofs.Ytnonaagcnenbdaa

/- The reference's parts of the mix of blocks: contracts. -/
import Derived.Test.YtnonaagcnenbdaaR1Rd
namespace Go.Proofs.Ytnonaagcnenbdaa
open Go.Eng
set_option linter.unusedSimpArgs false
set_option linter.unusedVariables false
set_option linter.unusedSectionVars false
variable [RowAddr]
/-- The word of four bytes, the lowest first. -/
def lw4 (a b c d : BitVec 8) : BitVec 32 := a.setWidth 32 ||| b.setWidth 32 <<< 8 ||| c.setWidth 32 <<< 16 ||| d.setWidth 32 <<< 24
def lw (v : Vec 8) (o : Nat) : BitVec 32 := lw4 (v.l.getD (o + 0) 0#8) (v.l.getD (o + 1) 0#8) (v.l.getD (o + 2) 0#8) (v.l.getD (o + 3) 0#8)
def low4 (x : BitVec 32) : List (BitVec 8) := [x.setWidth 8, (x >>> 8).setWidth 8, (x >>> 16).setWidth 8, (x >>> 24).setWidth 8]
structure c24D where
  x : BitVec 32
def c24_rd (a : List AV) (K : List Blk) : Option c24D :=
    match a with
    | [(.num (.w32 x))] =>
      match K with
      | [] => some ⟨x⟩
      | _ => none
    | _ => none
def c24 : Ct c24D where
  pat := [(.num (.w32 0#32))]
  patH := []
  read := c24_rd
  args := fun ⟨x⟩ => [(.num (.w32 x))]
  heap := fun ⟨_⟩ => []
  out := fun ⟨x⟩ => [⟨(.gen [(.num (.w8 (x.setWidth 8))), (.num (.w8 (((x >>> 8)).setWidth 8))), (.num (.w8 (((x >>> 16)).setWidth 8))), (.num (.w8 (((x >>> 24)).setWidth 8)))]), .own⟩]
  val := fun ⟨_⟩ => (.ref (.sl 0 (.c 0) (.c 4) none))
  good := fun ⟨_⟩ => decide (True)
theorem c24_run (x : BitVec 32) : endsAs (c24.heap ⟨x⟩).length (some [0]) (c24.out ⟨x⟩) (c24.val ⟨x⟩) (goB noSpec noLoop 24 (c24.args ⟨x⟩) ⟨c24.heap ⟨x⟩, big, [], []⟩) = some ((c24.out ⟨x⟩), (c24.val ⟨x⟩), []) := by kernel_rfl
set_option maxRecDepth 100000 in
theorem c24_read (a : List AV) (K : List Blk) (d : c24D) (h : c24.read a K = some d) : a = c24.args d ∧ K = c24.heap d := by
  replace h : c24_rd a K = some d := h
  unfold c24_rd at h
  split at h
  case h_2 => cases h
  split at h
  case h_2 => cases h
  injection h with h; subst h
  exact ⟨rfl, rfl⟩
theorem c24_ok : SpecOk Try.prog noGlob 24 c24.spec := by
  refine c24.ok (goB_ok no_specs (no_loops _)) c24_read ?_
  rintro ⟨x⟩ hg
  have hg : True := of_decide_eq_true hg
  refine ⟨[], (some [0]), _, c24_run x, ?_⟩
  repeat' (refine all_true_cons ?_ ?_)
  all_goals first | exact all_true_nil | rfl | (simp only [Bool.and_eq_true, decide_eq_true_eq, beq_iff_eq, beq_true, beq_false, Bool.not_eq_true', decide_eq_false_iff_not, beq_eq_false_iff_ne, ne_eq, Bool.not_eq_false', bne_iff_ne, true_and, and_true] <;> omega)
structure c26D where
  v : Vec 8
  o : Nat
  n : Nat
def c26_rd (a : List AV) (K : List Blk) : Option c26D :=
    match a with
    | [(.ref (.sl 0 (.s o) (.s n) none))] =>
      match K with
      | [⟨(.b8 v), .ro⟩] => some ⟨v, o, n⟩
      | _ => none
    | _ => none
def c26 : Ct c26D where
  pat := [(.ref (.sl 0 (.s 0) (.s 0) none))]
  patH := [⟨(.b8 (Vec.zero 8 0)), .ro⟩]
  read := c26_rd
  args := fun ⟨_, o, n⟩ => [(.ref (.sl 0 (.s o) (.s n) none))]
  heap := fun ⟨v, _, _⟩ => [⟨(.b8 v), .ro⟩]
  out := fun ⟨v, _, _⟩ => [⟨(.b8 v), .ro⟩]
  val := fun ⟨v, o, _⟩ => (.num (.w32 (lw v o)))
  good := fun ⟨v, o, n⟩ => decide (o + 4 ≤ v.n ∧ 4 ≤ n)
theorem c26_run (v : Vec 8) (o n : Nat) : endsAs (c26.heap ⟨v, o, n⟩).length none (c26.out ⟨v, o, n⟩) (c26.val ⟨v, o, n⟩) (goB noSpec noLoop 26 (c26.args ⟨v, o, n⟩) ⟨c26.heap ⟨v, o, n⟩, big, [], []⟩) = some ((c26.out ⟨v, o, n⟩), (c26.val ⟨v, o, n⟩), [decide ((o + 3) < v.n), (true && decide ((3 : Int) < ((n : Nat) : Int))), decide ((o + 2) < v.n), (true && decide ((2 : Int) < ((n : Nat) : Int))), decide ((o + 1) < v.n), (true && decide ((1 : Int) < ((n : Nat) : Int))), decide ((o + 0) < v.n), (true && decide ((0 : Int) < ((n : Nat) : Int)))]) := by kernel_rfl
set_option maxRecDepth 100000 in
theorem c26_read (a : List AV) (K : List Blk) (d : c26D) (h : c26.read a K = some d) : a = c26.args d ∧ K = c26.heap d := by
  replace h : c26_rd a K = some d := h
  unfold c26_rd at h
  split at h
  case h_2 => cases h
  split at h
  case h_2 => cases h
  injection h with h; subst h
  exact ⟨rfl, rfl⟩
theorem c26_ok : SpecOk Try.prog noGlob 26 c26.spec := by
  refine c26.ok (goB_ok no_specs (no_loops _)) c26_read ?_
  rintro ⟨v, o, n⟩ hg
  have hg : o + 4 ≤ v.n ∧ 4 ≤ n := of_decide_eq_true hg
  refine ⟨[], none, _, c26_run v o n, ?_⟩
  repeat' (refine all_true_cons ?_ ?_)
  all_goals first | exact all_true_nil | rfl | (simp only [Bool.and_eq_true, decide_eq_true_eq, beq_iff_eq, beq_true, beq_false, Bool.not_eq_true', decide_eq_false_iff_not, beq_eq_false_iff_ne, ne_eq, Bool.not_eq_false', bne_iff_ne, true_and, and_true] <;> omega)
/-- Bytes, each exclusive or another. -/
def xoV (a : Vec 8) (oa : Nat) (b : Vec 8) (ob n : Nat) : Vec 8 := ⟨n, (List.range n).map fun i => a.l.getD (oa + i) 0#8 ^^^ b.l.getD (ob + i) 0#8, by simp⟩
theorem vec_ext {w : Nat} {a b : Vec w} (h : a.l = b.l) : a = b := by
  obtain ⟨n, l, hl⟩ := a
  obtain ⟨m, k, hk⟩ := b
  have h : l = k := h
  subst h
  have : n = m := hl.symm.trans hk
  subst this
  rfl
theorem xoV_succ (a : Vec 8) (oa : Nat) (b : Vec 8) (ob n : Nat) : (xoV a oa b ob n).app (Vec.of [a.l.getD (oa + n) 0#8 ^^^ b.l.getD (ob + n) 0#8]) = xoV a oa b ob (n + 1) := by
  refine vec_ext ?_
  show (List.range n).map _ ++ [_] = (List.range (n + 1)).map _
  rw [List.range_succ, List.map_append]; rfl
structure x28D where
  a : Vec 8
  b : Vec 8
  u : Vec 8
  oa : Nat
  na : Nat
  ob : Nat
  nb : Nat
  k : Nat
  i : Int
def x28_st (d : x28D) : Fr × List Blk :=
  match d with
  | ⟨a, b, u, oa, na, ob, nb, k, i⟩ => (⟨[(.ref (.sl 0 (.s oa) (.s na) none)), (.ref (.sl 1 (.s ob) (.s nb) none)), (.atom .undef), (.atom .undef), (.atom .undef), (.ref (.sl 2 (.c 0) (.s k) none)), (.num (.int .i64 (.s i)))], []⟩, [⟨(.b8 a), .ro⟩, ⟨(.b8 b), .ro⟩, ⟨(.b8 u), .own⟩])
def x28_next (d : x28D) : x28D :=
  match d with
  | ⟨a, b, u, oa, na, ob, nb, k, i⟩ => ⟨a, b, u.app (Vec.of [a.l.getD (oa + i.toNat * 1) 0#8 ^^^ b.l.getD (ob + i.toNat * 1) 0#8]), oa, na, ob, nb, k + 1, i + 1⟩
def x28_rd (F : Fr) (K : List Blk) : Option x28D :=
    match F with
    | ⟨[(.ref (.sl 0 (.s oa) (.s na) none)), (.ref (.sl 1 (.s ob) (.s nb) none)), (.atom .undef), (.atom .undef), (.atom .undef), (.ref (.sl 2 (.c 0) (.s k) none)), (.num (.int .i64 (.s i)))], []⟩ =>
      match K with
      | [⟨(.b8 a), .ro⟩, ⟨(.b8 b), .ro⟩, ⟨(.b8 u), .own⟩] => some ⟨a, b, u, oa, na, ob, nb, k, i⟩
      | _ => none
    | _ => none
def x28 : LoopP x28D where
  pat := ⟨[(.ref (.sl 0 (.s 0) (.s 0) none)), (.ref (.sl 1 (.s 0) (.s 0) none)), (.atom .undef), (.atom .undef), (.atom .undef), (.ref (.sl 2 (.c 0) (.s 0) none)), (.num (.int .i64 (.s 0)))], []⟩
  patH := [⟨(.b8 (Vec.zero 8 0)), .ro⟩, ⟨(.b8 (Vec.zero 8 0)), .ro⟩, ⟨(.b8 (Vec.zero 8 0)), .own⟩]
  gh := [⟨.gen [], .own⟩]
  read := x28_rd
  st := x28_st
  next := x28_next
  rem := fun ⟨_, _, _, _, na, _, _, _, i⟩ => (na - i).toNat
  good := fun ⟨a, b, u, oa, na, ob, nb, k, i⟩ => decide (0 ≤ i ∧ i ≤ na ∧ na = nb ∧ oa + na ≤ a.n ∧ ob + nb ≤ b.n ∧ na ≤ 1099511627776 ∧ i = k ∧ k = u.n)
  out := .exit 0
  fin := x28_st
theorem x28_round (a b u : Vec 8) (oa na ob nb k : Nat) (i : Int) : ranAs ((x28.st ⟨a, b, u, oa, na, ob, nb, k, i⟩).2.length - x28.gh.length) (some [0, 1, 4]) (x28.st (x28_next ⟨a, b, u, oa, na, ob, nb, k, i⟩)) (goL noSpec noLoop 28 0 (x28.st ⟨a, b, u, oa, na, ob, nb, k, i⟩).1 ⟨(x28.st ⟨a, b, u, oa, na, ob, nb, k, i⟩).2, big, [true,true,true,true,true,true], []⟩) = some (.normal, (x28.st (x28_next ⟨a, b, u, oa, na, ob, nb, k, i⟩)), [decide (((-9223372036854775808) ≤ (i + 1) ∧ (i + 1) ≤ 9223372036854775807)), (true && (k == u.n)), decide (((k + 1) * 1) ≤ 1099511627776), decide ((ob + (((i) : Int).toNat * 1)) < b.n), (decide ((0 : Int) ≤ i) && decide (i < ((nb : Nat) : Int))), decide ((oa + (((i) : Int).toNat * 1)) < a.n), (decide ((0 : Int) ≤ i) && decide (i < ((na : Nat) : Int))), (decide (i < ((nb : Nat) : Int)) == true), (decide (i < ((na : Nat) : Int)) == true), (decide (i < ((na : Nat) : Int)) == true), (decide (i < ((na : Nat) : Int)) == true), (decide (i < ((na : Nat) : Int)) == true), (decide (i < ((na : Nat) : Int)) == true)]) := by kernel_rfl
theorem x28_end (a b u : Vec 8) (oa na ob nb k : Nat) (i : Int) : ranAs ((x28.st ⟨a, b, u, oa, na, ob, nb, k, i⟩).2.length - x28.gh.length) none (x28.fin ⟨a, b, u, oa, na, ob, nb, k, i⟩) (goL noSpec noLoop 28 0 (x28.st ⟨a, b, u, oa, na, ob, nb, k, i⟩).1 ⟨(x28.st ⟨a, b, u, oa, na, ob, nb, k, i⟩).2, big, [false,false,false,false,false], []⟩) = some (x28.out, (x28.fin ⟨a, b, u, oa, na, ob, nb, k, i⟩), [(decide (i < ((na : Nat) : Int)) == false), (decide (i < ((na : Nat) : Int)) == false), (decide (i < ((na : Nat) : Int)) == false), (decide (i < ((na : Nat) : Int)) == false), (decide (i < ((na : Nat) : Int)) == false)]) := by kernel_rfl
set_option maxRecDepth 100000 in
theorem x28_read (F : Fr) (K : List Blk) (d : x28D) (h : x28.read F K = some d) : (F, K) = x28.st d := by
  replace h : x28_rd F K = some d := h
  unfold x28_rd at h
  split at h
  case h_2 => cases h
  split at h
  case h_2 => cases h
  injection h with h; subst h
  rfl
theorem x28_body : RunOk Try.prog noGlob (nv 28) (ntmpsIn Try.prog 28) (loopIn Try.prog 28 0) (goL noSpec noLoop 28 0) := goL_ok no_specs (no_loops _) 28 0 fine28 (by rw [show (loopsIn Try.prog 28).length = 1 by kernel_rfl]; omega)
theorem x28_toldL : LoopOk Try.prog noGlob (nv 28) (ntmpsIn Try.prog 28) (loopIn Try.prog 28 0) x28.T.told := by
  refine x28.ran x28_body (by intro k hk; simp [x28] at hk; subst hk; rfl) (by intro h; cases h) x28_read ?_ ?_
  · rintro ⟨a, b, u, oa, na, ob, nb, k, i⟩ kk hg hr
    have hg : 0 ≤ i ∧ i ≤ na ∧ na = nb ∧ oa + na ≤ a.n ∧ ob + nb ≤ b.n ∧ na ≤ 1099511627776 ∧ i = k ∧ k = u.n := of_decide_eq_true hg
    have hr : (na - i).toNat = kk + 1 := hr
    have en : x28.next ⟨a, b, u, oa, na, ob, nb, k, i⟩ = x28_next ⟨a, b, u, oa, na, ob, nb, k, i⟩ := rfl
    rw [en]
    refine ⟨⟨[true,true,true,true,true,true], (some [0, 1, 4]), _, x28_round a b u oa na ob nb k i, ?_⟩, ?_, ?_, (show (x28.st (x28_next ⟨a, b, u, oa, na, ob, nb, k, i⟩)).2.length = 3 by kernel_rfl).trans (show (x28.st ⟨a, b, u, oa, na, ob, nb, k, i⟩).2.length = 3 by kernel_rfl).symm⟩
    · repeat' (refine all_true_cons ?_ ?_)
      all_goals first | exact all_true_nil | rfl | (simp only [Bool.and_eq_true, decide_eq_true_eq, beq_iff_eq, beq_true, beq_false, Bool.not_eq_true', decide_eq_false_iff_not, beq_eq_false_iff_ne, ne_eq, Bool.not_eq_false', bne_iff_ne, true_and, and_true] <;> omega)
    · have e : x28.good (x28_next ⟨a, b, u, oa, na, ob, nb, k, i⟩) = decide (0 ≤ (i + 1 : Int) ∧ (i + 1 : Int) ≤ na ∧ na = nb ∧ oa + na ≤ a.n ∧ ob + nb ≤ b.n ∧ na ≤ 1099511627776 ∧ (i + 1 : Int) = (k + 1 : Nat) ∧ (k + 1 : Nat) = (u.app (Vec.of [a.l.getD (oa + i.toNat * 1) 0#8 ^^^ b.l.getD (ob + i.toNat * 1) 0#8]) : Vec 8).n) := by kernel_rfl
      refine e.trans (decide_eq_true ?_)
      have : (u.app (Vec.of [a.l.getD (oa + i.toNat * 1) 0#8 ^^^ b.l.getD (ob + i.toNat * 1) 0#8])).n = u.n + 1 := rfl
      rw [this]; omega
    · have e : x28.rem (x28_next ⟨a, b, u, oa, na, ob, nb, k, i⟩) = ((na - (i + 1 : Int)).toNat) := by kernel_rfl
      refine e.trans ?_
      omega
  · rintro ⟨a, b, u, oa, na, ob, nb, k, i⟩ hg hr
    have hg : 0 ≤ i ∧ i ≤ na ∧ na = nb ∧ oa + na ≤ a.n ∧ ob + nb ≤ b.n ∧ na ≤ 1099511627776 ∧ i = k ∧ k = u.n := of_decide_eq_true hg
    have hr : (na - i).toNat = 0 := hr
    refine ⟨[false,false,false,false,false], none, _, x28_end a b u oa na ob nb k i, ?_⟩
    repeat' (refine all_true_cons ?_ ?_)
    all_goals first | exact all_true_nil | rfl | (simp only [Bool.and_eq_true, decide_eq_true_eq, beq_iff_eq, beq_true, beq_false, Bool.not_eq_true', decide_eq_false_iff_not, beq_eq_false_iff_ne, ne_eq, Bool.not_eq_false', bne_iff_ne, true_and, and_true] <;> omega)
def x28_spec : LSpec := x28.T.told
theorem x28_told : Told 28 0 x28_spec := x28_toldL.run
def x28s : FuncId → Nat → Option LSpec
  | 28, 3 => some x28_spec
  | _, _ => none
theorem x28s_len : (loopsIn Try.prog 28).length = 1 := by kernel_rfl
theorem x28s_ok (spec : FuncId → Option Eng.Spec) : LoopsOk (cfg spec x28s) noGlob := by
  refine LoopsOk.of fun f => ?_
  by_cases hf : f = 28
  · subst hf
    refine .inr ⟨by kernel_rfl, fun i hi sp hsp => ?_⟩
    have hi : i < (loopsIn Try.prog 28).length := hi
    rw [x28s_len] at hi
    match i, hi with
    | 0, _ =>
      have e : (firstRid (loopIn Try.prog 28 0)).bind (x28s 28) = some x28_spec := by kernel_rfl
      obtain rfl := Option.some.inj (e.symm.trans hsp)
      exact x28_told
  · refine .inl fun r => ?_
    show x28s f r = none
    unfold x28s
    split
    · exact absurd rfl hf
    · rfl
theorem x28_iter (a b : Vec 8) (oa na ob nb : Nat) : ∀ m : Nat, iter x28_next m ⟨a, b, Vec.of [], oa, na, ob, nb, 0, 0⟩ = ⟨a, b, xoV a oa b ob m, oa, na, ob, nb, m, (m : Int)⟩
  | 0 => rfl
  | m + 1 => by
    rw [iter_succ, x28_iter a b oa na ob nb m]
    show (⟨a, b, (xoV a oa b ob m).app (Vec.of [a.l.getD (oa + ((m : Int)).toNat * 1) 0#8 ^^^ b.l.getD (ob + ((m : Int)).toNat * 1) 0#8]), oa, na, ob, nb, m + 1, (m : Int) + 1⟩ : x28D) = _
    rw [show ((m : Int)).toNat * 1 = m by omega, xoV_succ]
    rfl
structure c28D where
  a : Vec 8
  b : Vec 8
  oa : Nat
  na : Nat
  ob : Nat
  nb : Nat
def c28_rd (a : List AV) (K : List Blk) : Option c28D :=
    match a with
    | [(.ref (.sl 0 (.s oa) (.s na) none)), (.ref (.sl 1 (.s ob) (.s nb) none))] =>
      match K with
      | [⟨(.b8 a), .ro⟩, ⟨(.b8 b), .ro⟩] => some ⟨a, b, oa, na, ob, nb⟩
      | _ => none
    | _ => none
def c28 : Ct c28D where
  pat := [(.ref (.sl 0 (.s 0) (.s 0) none)), (.ref (.sl 1 (.s 0) (.s 0) none))]
  patH := [⟨(.b8 (Vec.zero 8 0)), .ro⟩, ⟨(.b8 (Vec.zero 8 0)), .ro⟩]
  read := c28_rd
  args := fun ⟨_, _, oa, na, ob, nb⟩ => [(.ref (.sl 0 (.s oa) (.s na) none)), (.ref (.sl 1 (.s ob) (.s nb) none))]
  heap := fun ⟨a, b, _, _, _, _⟩ => [⟨(.b8 a), .ro⟩, ⟨(.b8 b), .ro⟩]
  out := fun ⟨a, b, oa, na, ob, _⟩ => [⟨(.b8 a), .ro⟩, ⟨(.b8 b), .ro⟩, ⟨(.b8 (xoV a oa b ob na)), .own⟩]
  val := fun ⟨_, _, _, na, _, _⟩ => (.ref (.sl 2 (.c 0) (.s na) none))
  good := fun ⟨a, b, oa, na, ob, nb⟩ => decide (na = nb ∧ oa + na ≤ a.n ∧ ob + nb ≤ b.n ∧ na ≤ 1099511627776)
theorem c28_run (a b : Vec 8) (oa na ob nb : Nat) : endsAs (c28.heap ⟨a, b, oa, na, ob, nb⟩).length none [⟨(.b8 a), .ro⟩, ⟨(.b8 b), .ro⟩, ⟨(.b8 ((iter x28_next ((((na : Nat) : Int) - 0)).toNat (x28D.mk a b (Vec.of []) oa na ob nb 0 0))).u), .own⟩] (.ref (.sl 2 (.c 0) (.s ((iter x28_next ((((na : Nat) : Int) - 0)).toNat (x28D.mk a b (Vec.of []) oa na ob nb 0 0))).k) none)) (goB noSpec x28s 28 (c28.args ⟨a, b, oa, na, ob, nb⟩) ⟨c28.heap ⟨a, b, oa, na, ob, nb⟩, big, [], []⟩) = some ([⟨(.b8 a), .ro⟩, ⟨(.b8 b), .ro⟩, ⟨(.b8 ((iter x28_next ((((na : Nat) : Int) - 0)).toNat (x28D.mk a b (Vec.of []) oa na ob nb 0 0))).u), .own⟩], (.ref (.sl 2 (.c 0) (.s ((iter x28_next ((((na : Nat) : Int) - 0)).toNat (x28D.mk a b (Vec.of []) oa na ob nb 0 0))).k) none)), [decide (((0 : Int) ≤ 0 ∧ ((0 : Int) ≤ ((na : Nat) : Int) ∧ (na = nb ∧ ((oa + na) ≤ a.n ∧ ((ob + nb) ≤ b.n ∧ (na ≤ 1099511627776 ∧ ((0 : Int) = ((0 : Nat) : Int) ∧ (0 : Nat) = 0))))))))]) := by kernel_rfl
set_option maxRecDepth 100000 in
theorem c28_read (a : List AV) (K : List Blk) (d : c28D) (h : c28.read a K = some d) : a = c28.args d ∧ K = c28.heap d := by
  replace h : c28_rd a K = some d := h
  unfold c28_rd at h
  split at h
  case h_2 => cases h
  split at h
  case h_2 => cases h
  injection h with h; subst h
  exact ⟨rfl, rfl⟩
theorem c28_ok : SpecOk Try.prog noGlob 28 c28.spec := by
  refine c28.ok (goB_ok no_specs (x28s_ok _)) c28_read ?_
  rintro ⟨a, b, oa, na, ob, nb⟩ hg
  have hg : na = nb ∧ oa + na ≤ a.n ∧ ob + nb ≤ b.n ∧ na ≤ 1099511627776 := of_decide_eq_true hg
  have eo : c28.out ⟨a, b, oa, na, ob, nb⟩ = [⟨(.b8 a), .ro⟩, ⟨(.b8 b), .ro⟩, ⟨(.b8 ((iter x28_next ((((na : Nat) : Int) - 0)).toNat (x28D.mk a b (Vec.of []) oa na ob nb 0 0))).u), .own⟩] := by
    have hm : (((na : Nat) : Int) - 0).toNat = na := by omega
    rw [hm]
    have hi := x28_iter a b oa na ob nb na
    rw [hi]
    rfl
  have ev : c28.val ⟨a, b, oa, na, ob, nb⟩ = (.ref (.sl 2 (.c 0) (.s ((iter x28_next ((((na : Nat) : Int) - 0)).toNat (x28D.mk a b (Vec.of []) oa na ob nb 0 0))).k) none)) := by
    have hm : (((na : Nat) : Int) - 0).toNat = na := by omega
    rw [hm]
    have hi := x28_iter a b oa na ob nb na
    rw [hi]
    rfl
  rw [eo, ev]
  refine ⟨[], none, _, c28_run a b oa na ob nb, ?_⟩
  refine all_true_cons ?_ all_true_nil
  refine (show x28.good ⟨a, b, Vec.of [], oa, na, ob, nb, 0, 0⟩ = decide (0 ≤ (0 : Int) ∧ (0 : Int) ≤ na ∧ na = nb ∧ oa + na ≤ a.n ∧ ob + nb ≤ b.n ∧ na ≤ 1099511627776 ∧ (0 : Int) = ((0 : Nat) : Int) ∧ 0 = 0) by kernel_rfl).trans (decide_eq_true ?_)
  omega
structure x28bD where
  a : Vec 8
  u : Vec 8
  oa : Nat
  na : Nat
  ob : Nat
  nb : Nat
  k : Nat
  i : Int
def x28b_st (d : x28bD) : Fr × List Blk :=
  match d with
  | ⟨a, u, oa, na, ob, nb, k, i⟩ => (⟨[(.ref (.sl 0 (.s oa) (.s na) none)), (.ref (.sl 0 (.s ob) (.s nb) none)), (.atom .undef), (.atom .undef), (.atom .undef), (.ref (.sl 1 (.c 0) (.s k) none)), (.num (.int .i64 (.s i)))], []⟩, [⟨(.b8 a), .ro⟩, ⟨(.b8 u), .own⟩])
def x28b_next (d : x28bD) : x28bD :=
  match d with
  | ⟨a, u, oa, na, ob, nb, k, i⟩ => ⟨a, u.app (Vec.of [a.l.getD (oa + i.toNat * 1) 0#8 ^^^ a.l.getD (ob + i.toNat * 1) 0#8]), oa, na, ob, nb, k + 1, i + 1⟩
def x28b_rd (F : Fr) (K : List Blk) : Option x28bD :=
    match F with
    | ⟨[(.ref (.sl 0 (.s oa) (.s na) none)), (.ref (.sl 0 (.s ob) (.s nb) none)), (.atom .undef), (.atom .undef), (.atom .undef), (.ref (.sl 1 (.c 0) (.s k) none)), (.num (.int .i64 (.s i)))], []⟩ =>
      match K with
      | [⟨(.b8 a), .ro⟩, ⟨(.b8 u), .own⟩] => some ⟨a, u, oa, na, ob, nb, k, i⟩
      | _ => none
    | _ => none
def x28b : LoopP x28bD where
  pat := ⟨[(.ref (.sl 0 (.s 0) (.s 0) none)), (.ref (.sl 0 (.s 0) (.s 0) none)), (.atom .undef), (.atom .undef), (.atom .undef), (.ref (.sl 1 (.c 0) (.s 0) none)), (.num (.int .i64 (.s 0)))], []⟩
  patH := [⟨(.b8 (Vec.zero 8 0)), .ro⟩, ⟨(.b8 (Vec.zero 8 0)), .own⟩]
  gh := [⟨.gen [], .own⟩]
  read := x28b_rd
  st := x28b_st
  next := x28b_next
  rem := fun ⟨_, _, _, na, _, _, _, i⟩ => (na - i).toNat
  good := fun ⟨a, u, oa, na, ob, nb, k, i⟩ => decide (0 ≤ i ∧ i ≤ na ∧ na = nb ∧ oa + na ≤ a.n ∧ ob + nb ≤ a.n ∧ na ≤ 1099511627776 ∧ i = k ∧ k = u.n)
  out := .exit 0
  fin := x28b_st
theorem x28b_round (a u : Vec 8) (oa na ob nb k : Nat) (i : Int) : ranAs ((x28b.st ⟨a, u, oa, na, ob, nb, k, i⟩).2.length - x28b.gh.length) (some [0, 3]) (x28b.st (x28b_next ⟨a, u, oa, na, ob, nb, k, i⟩)) (goL noSpec noLoop 28 0 (x28b.st ⟨a, u, oa, na, ob, nb, k, i⟩).1 ⟨(x28b.st ⟨a, u, oa, na, ob, nb, k, i⟩).2, big, [true,true,true,true,true,true], []⟩) = some (.normal, (x28b.st (x28b_next ⟨a, u, oa, na, ob, nb, k, i⟩)), [decide (((-9223372036854775808) ≤ (i + 1) ∧ (i + 1) ≤ 9223372036854775807)), (true && (k == u.n)), decide (((k + 1) * 1) ≤ 1099511627776), decide ((ob + (((i) : Int).toNat * 1)) < a.n), (decide ((0 : Int) ≤ i) && decide (i < ((nb : Nat) : Int))), decide ((oa + (((i) : Int).toNat * 1)) < a.n), (decide ((0 : Int) ≤ i) && decide (i < ((na : Nat) : Int))), (decide (i < ((nb : Nat) : Int)) == true), (decide (i < ((na : Nat) : Int)) == true), (decide (i < ((na : Nat) : Int)) == true), (decide (i < ((na : Nat) : Int)) == true), (decide (i < ((na : Nat) : Int)) == true), (decide (i < ((na : Nat) : Int)) == true)]) := by kernel_rfl
theorem x28b_end (a u : Vec 8) (oa na ob nb k : Nat) (i : Int) : ranAs ((x28b.st ⟨a, u, oa, na, ob, nb, k, i⟩).2.length - x28b.gh.length) none (x28b.fin ⟨a, u, oa, na, ob, nb, k, i⟩) (goL noSpec noLoop 28 0 (x28b.st ⟨a, u, oa, na, ob, nb, k, i⟩).1 ⟨(x28b.st ⟨a, u, oa, na, ob, nb, k, i⟩).2, big, [false,false,false,false,false], []⟩) = some (x28b.out, (x28b.fin ⟨a, u, oa, na, ob, nb, k, i⟩), [(decide (i < ((na : Nat) : Int)) == false), (decide (i < ((na : Nat) : Int)) == false), (decide (i < ((na : Nat) : Int)) == false), (decide (i < ((na : Nat) : Int)) == false), (decide (i < ((na : Nat) : Int)) == false)]) := by kernel_rfl
set_option maxRecDepth 100000 in
theorem x28b_read (F : Fr) (K : List Blk) (d : x28bD) (h : x28b.read F K = some d) : (F, K) = x28b.st d := by
  replace h : x28b_rd F K = some d := h
  unfold x28b_rd at h
  split at h
  case h_2 => cases h
  split at h
  case h_2 => cases h
  injection h with h; subst h
  rfl
theorem x28b_body : RunOk Try.prog noGlob (nv 28) (ntmpsIn Try.prog 28) (loopIn Try.prog 28 0) (goL noSpec noLoop 28 0) := goL_ok no_specs (no_loops _) 28 0 fine28 (by rw [show (loopsIn Try.prog 28).length = 1 by kernel_rfl]; omega)
theorem x28b_toldL : LoopOk Try.prog noGlob (nv 28) (ntmpsIn Try.prog 28) (loopIn Try.prog 28 0) x28b.T.told := by
  refine x28b.ran x28b_body (by intro k hk; simp [x28b] at hk; subst hk; rfl) (by intro h; cases h) x28b_read ?_ ?_
  · rintro ⟨a, u, oa, na, ob, nb, k, i⟩ kk hg hr
    have hg : 0 ≤ i ∧ i ≤ na ∧ na = nb ∧ oa + na ≤ a.n ∧ ob + nb ≤ a.n ∧ na ≤ 1099511627776 ∧ i = k ∧ k = u.n := of_decide_eq_true hg
    have hr : (na - i).toNat = kk + 1 := hr
    have en : x28b.next ⟨a, u, oa, na, ob, nb, k, i⟩ = x28b_next ⟨a, u, oa, na, ob, nb, k, i⟩ := rfl
    rw [en]
    refine ⟨⟨[true,true,true,true,true,true], (some [0, 3]), _, x28b_round a u oa na ob nb k i, ?_⟩, ?_, ?_, (show (x28b.st (x28b_next ⟨a, u, oa, na, ob, nb, k, i⟩)).2.length = 2 by kernel_rfl).trans (show (x28b.st ⟨a, u, oa, na, ob, nb, k, i⟩).2.length = 2 by kernel_rfl).symm⟩
    · repeat' (refine all_true_cons ?_ ?_)
      all_goals first | exact all_true_nil | rfl | (simp only [Bool.and_eq_true, decide_eq_true_eq, beq_iff_eq, beq_true, beq_false, Bool.not_eq_true', decide_eq_false_iff_not, beq_eq_false_iff_ne, ne_eq, Bool.not_eq_false', bne_iff_ne, true_and, and_true] <;> omega)
    · have e : x28b.good (x28b_next ⟨a, u, oa, na, ob, nb, k, i⟩) = decide (0 ≤ (i + 1 : Int) ∧ (i + 1 : Int) ≤ na ∧ na = nb ∧ oa + na ≤ a.n ∧ ob + nb ≤ a.n ∧ na ≤ 1099511627776 ∧ (i + 1 : Int) = (k + 1 : Nat) ∧ (k + 1 : Nat) = (u.app (Vec.of [a.l.getD (oa + i.toNat * 1) 0#8 ^^^ a.l.getD (ob + i.toNat * 1) 0#8]) : Vec 8).n) := by kernel_rfl
      refine e.trans (decide_eq_true ?_)
      have : (u.app (Vec.of [a.l.getD (oa + i.toNat * 1) 0#8 ^^^ a.l.getD (ob + i.toNat * 1) 0#8])).n = u.n + 1 := rfl
      rw [this]; omega
    · have e : x28b.rem (x28b_next ⟨a, u, oa, na, ob, nb, k, i⟩) = ((na - (i + 1 : Int)).toNat) := by kernel_rfl
      refine e.trans ?_
      omega
  · rintro ⟨a, u, oa, na, ob, nb, k, i⟩ hg hr
    have hg : 0 ≤ i ∧ i ≤ na ∧ na = nb ∧ oa + na ≤ a.n ∧ ob + nb ≤ a.n ∧ na ≤ 1099511627776 ∧ i = k ∧ k = u.n := of_decide_eq_true hg
    have hr : (na - i).toNat = 0 := hr
    refine ⟨[false,false,false,false,false], none, _, x28b_end a u oa na ob nb k i, ?_⟩
    repeat' (refine all_true_cons ?_ ?_)
    all_goals first | exact all_true_nil | rfl | (simp only [Bool.and_eq_true, decide_eq_true_eq, beq_iff_eq, beq_true, beq_false, Bool.not_eq_true', decide_eq_false_iff_not, beq_eq_false_iff_ne, ne_eq, Bool.not_eq_false', bne_iff_ne, true_and, and_true] <;> omega)
def x28b_spec : LSpec := x28b.T.told
theorem x28b_told : Told 28 0 x28b_spec := x28b_toldL.run
def x28bs : FuncId → Nat → Option LSpec
  | 28, 3 => some x28b_spec
  | _, _ => none
theorem x28bs_len : (loopsIn Try.prog 28).length = 1 := by kernel_rfl
theorem x28bs_ok (spec : FuncId → Option Eng.Spec) : LoopsOk (cfg spec x28bs) noGlob := by
  refine LoopsOk.of fun f => ?_
  by_cases hf : f = 28
  · subst hf
    refine .inr ⟨by kernel_rfl, fun i hi sp hsp => ?_⟩
    have hi : i < (loopsIn Try.prog 28).length := hi
    rw [x28bs_len] at hi
    match i, hi with
    | 0, _ =>
      have e : (firstRid (loopIn Try.prog 28 0)).bind (x28bs 28) = some x28b_spec := by kernel_rfl
      obtain rfl := Option.some.inj (e.symm.trans hsp)
      exact x28b_told
  · refine .inl fun r => ?_
    show x28bs f r = none
    unfold x28bs
    split
    · exact absurd rfl hf
    · rfl
theorem x28b_iter (a : Vec 8) (oa na ob nb : Nat) : ∀ m : Nat, iter x28b_next m ⟨a, Vec.of [], oa, na, ob, nb, 0, 0⟩ = ⟨a, xoV a oa a ob m, oa, na, ob, nb, m, (m : Int)⟩
  | 0 => rfl
  | m + 1 => by
    rw [iter_succ, x28b_iter a oa na ob nb m]
    show (⟨a, (xoV a oa a ob m).app (Vec.of [a.l.getD (oa + ((m : Int)).toNat * 1) 0#8 ^^^ a.l.getD (ob + ((m : Int)).toNat * 1) 0#8]), oa, na, ob, nb, m + 1, (m : Int) + 1⟩ : x28bD) = _
    rw [show ((m : Int)).toNat * 1 = m by omega, xoV_succ]
    rfl
structure c28bD where
  a : Vec 8
  oa : Nat
  na : Nat
  ob : Nat
  nb : Nat
def c28b_rd (a : List AV) (K : List Blk) : Option c28bD :=
    match a with
    | [(.ref (.sl 0 (.s oa) (.s na) none)), (.ref (.sl 0 (.s ob) (.s nb) none))] =>
      match K with
      | [⟨(.b8 a), .ro⟩] => some ⟨a, oa, na, ob, nb⟩
      | _ => none
    | _ => none
def c28b : Ct c28bD where
  pat := [(.ref (.sl 0 (.s 0) (.s 0) none)), (.ref (.sl 0 (.s 0) (.s 0) none))]
  patH := [⟨(.b8 (Vec.zero 8 0)), .ro⟩]
  read := c28b_rd
  args := fun ⟨_, oa, na, ob, nb⟩ => [(.ref (.sl 0 (.s oa) (.s na) none)), (.ref (.sl 0 (.s ob) (.s nb) none))]
  heap := fun ⟨a, _, _, _, _⟩ => [⟨(.b8 a), .ro⟩]
  out := fun ⟨a, oa, na, ob, _⟩ => [⟨(.b8 a), .ro⟩, ⟨(.b8 (xoV a oa a ob na)), .own⟩]
  val := fun ⟨_, _, na, _, _⟩ => (.ref (.sl 1 (.c 0) (.s na) none))
  good := fun ⟨a, oa, na, ob, nb⟩ => decide (na = nb ∧ oa + na ≤ a.n ∧ ob + nb ≤ a.n ∧ na ≤ 1099511627776)
theorem c28b_run (a : Vec 8) (oa na ob nb : Nat) : endsAs (c28b.heap ⟨a, oa, na, ob, nb⟩).length none [⟨(.b8 a), .ro⟩, ⟨(.b8 ((iter x28b_next ((((na : Nat) : Int) - 0)).toNat (x28bD.mk a (Vec.of []) oa na ob nb 0 0))).u), .own⟩] (.ref (.sl 1 (.c 0) (.s ((iter x28b_next ((((na : Nat) : Int) - 0)).toNat (x28bD.mk a (Vec.of []) oa na ob nb 0 0))).k) none)) (goB noSpec x28bs 28 (c28b.args ⟨a, oa, na, ob, nb⟩) ⟨c28b.heap ⟨a, oa, na, ob, nb⟩, big, [], []⟩) = some ([⟨(.b8 a), .ro⟩, ⟨(.b8 ((iter x28b_next ((((na : Nat) : Int) - 0)).toNat (x28bD.mk a (Vec.of []) oa na ob nb 0 0))).u), .own⟩], (.ref (.sl 1 (.c 0) (.s ((iter x28b_next ((((na : Nat) : Int) - 0)).toNat (x28bD.mk a (Vec.of []) oa na ob nb 0 0))).k) none)), [decide (((0 : Int) ≤ 0 ∧ ((0 : Int) ≤ ((na : Nat) : Int) ∧ (na = nb ∧ ((oa + na) ≤ a.n ∧ ((ob + nb) ≤ a.n ∧ (na ≤ 1099511627776 ∧ ((0 : Int) = ((0 : Nat) : Int) ∧ (0 : Nat) = 0))))))))]) := by kernel_rfl
set_option maxRecDepth 100000 in
theorem c28b_read (a : List AV) (K : List Blk) (d : c28bD) (h : c28b.read a K = some d) : a = c28b.args d ∧ K = c28b.heap d := by
  replace h : c28b_rd a K = some d := h
  unfold c28b_rd at h
  split at h
  case h_2 => cases h
  split at h
  case h_2 => cases h
  injection h with h; subst h
  exact ⟨rfl, rfl⟩
theorem c28b_ok : SpecOk Try.prog noGlob 28 c28b.spec := by
  refine c28b.ok (goB_ok no_specs (x28bs_ok _)) c28b_read ?_
  rintro ⟨a, oa, na, ob, nb⟩ hg
  have hg : na = nb ∧ oa + na ≤ a.n ∧ ob + nb ≤ a.n ∧ na ≤ 1099511627776 := of_decide_eq_true hg
  have eo : c28b.out ⟨a, oa, na, ob, nb⟩ = [⟨(.b8 a), .ro⟩, ⟨(.b8 ((iter x28b_next ((((na : Nat) : Int) - 0)).toNat (x28bD.mk a (Vec.of []) oa na ob nb 0 0))).u), .own⟩] := by
    have hm : (((na : Nat) : Int) - 0).toNat = na := by omega
    rw [hm]
    have hi := x28b_iter a oa na ob nb na
    rw [hi]
    rfl
  have ev : c28b.val ⟨a, oa, na, ob, nb⟩ = (.ref (.sl 1 (.c 0) (.s ((iter x28b_next ((((na : Nat) : Int) - 0)).toNat (x28bD.mk a (Vec.of []) oa na ob nb 0 0))).k) none)) := by
    have hm : (((na : Nat) : Int) - 0).toNat = na := by omega
    rw [hm]
    have hi := x28b_iter a oa na ob nb na
    rw [hi]
    rfl
  rw [eo, ev]
  refine ⟨[], none, _, c28b_run a oa na ob nb, ?_⟩
  refine all_true_cons ?_ all_true_nil
  refine (show x28b.good ⟨a, Vec.of [], oa, na, ob, nb, 0, 0⟩ = decide (0 ≤ (0 : Int) ∧ (0 : Int) ≤ na ∧ na = nb ∧ oa + na ≤ a.n ∧ ob + nb ≤ a.n ∧ na ≤ 1099511627776 ∧ (0 : Int) = ((0 : Nat) : Int) ∧ 0 = 0) by kernel_rfl).trans (decide_eq_true ?_)
  omega
def sp28 : Eng.Spec := orSpec c28.spec c28b.spec
theorem ok28 : SpecOk Try.prog noGlob 28 sp28 := c28_ok.or c28b_ok
def sumW (x : W16) : W16 := add16 x (dbl (dbl (dbl (dbl x))))
def bytes16 (x : W16) : Vec 8 := Vec.of [(x.x0).setWidth 8, ((x.x0) >>> 8).setWidth 8, ((x.x0) >>> 16).setWidth 8, ((x.x0) >>> 24).setWidth 8, (x.x1).setWidth 8, ((x.x1) >>> 8).setWidth 8, ((x.x1) >>> 16).setWidth 8, ((x.x1) >>> 24).setWidth 8, (x.x2).setWidth 8, ((x.x2) >>> 8).setWidth 8, ((x.x2) >>> 16).setWidth 8, ((x.x2) >>> 24).setWidth 8, (x.x3).setWidth 8, ((x.x3) >>> 8).setWidth 8, ((x.x3) >>> 16).setWidth 8, ((x.x3) >>> 24).setWidth 8, (x.x4).setWidth 8, ((x.x4) >>> 8).setWidth 8, ((x.x4) >>> 16).setWidth 8, ((x.x4) >>> 24).setWidth 8, (x.x5).setWidth 8, ((x.x5) >>> 8).setWidth 8, ((x.x5) >>> 16).setWidth 8, ((x.x5) >>> 24).setWidth 8, (x.x6).setWidth 8, ((x.x6) >>> 8).setWidth 8, ((x.x6) >>> 16).setWidth 8, ((x.x6) >>> 24).setWidth 8, (x.x7).setWidth 8, ((x.x7) >>> 8).setWidth 8, ((x.x7) >>> 16).setWidth 8, ((x.x7) >>> 24).setWidth 8, (x.x8).setWidth 8, ((x.x8) >>> 8).setWidth 8, ((x.x8) >>> 16).setWidth 8, ((x.x8) >>> 24).setWidth 8, (x.x9).setWidth 8, ((x.x9) >>> 8).setWidth 8, ((x.x9) >>> 16).setWidth 8, ((x.x9) >>> 24).setWidth 8, (x.x10).setWidth 8, ((x.x10) >>> 8).setWidth 8, ((x.x10) >>> 16).setWidth 8, ((x.x10) >>> 24).setWidth 8, (x.x11).setWidth 8, ((x.x11) >>> 8).setWidth 8, ((x.x11) >>> 16).setWidth 8, ((x.x11) >>> 24).setWidth 8, (x.x12).setWidth 8, ((x.x12) >>> 8).setWidth 8, ((x.x12) >>> 16).setWidth 8, ((x.x12) >>> 24).setWidth 8, (x.x13).setWidth 8, ((x.x13) >>> 8).setWidth 8, ((x.x13) >>> 16).setWidth 8, ((x.x13) >>> 24).setWidth 8, (x.x14).setWidth 8, ((x.x14) >>> 8).setWidth 8, ((x.x14) >>> 16).setWidth 8, ((x.x14) >>> 24).setWidth 8, (x.x15).setWidth 8, ((x.x15) >>> 8).setWidth 8, ((x.x15) >>> 16).setWidth 8, ((x.x15) >>> 24).setWidth 8]
def specs40 : FuncId → Option Eng.Spec
  | 24 => some c24.spec
  | 30 => some sp30
  | _ => none
theorem specs40_ok : ∀ f sp, specs40 f = some sp → SpecOk Try.prog noGlob f sp := by
  intro f sp h
  unfold specs40 at h
  split at h
  · injection h with h; subst h; exact c24_ok
  · injection h with h; subst h; exact ok30
  · cases h
structure c40D where
  x : W16
def c40_rd (a : List AV) (K : List Blk) : Option c40D :=
    match a with
    | [(.agg [(.num (.w32 x0)), (.num (.w32 x1)), (.num (.w32 x2)), (.num (.w32 x3)), (.num (.w32 x4)), (.num (.w32 x5)), (.num (.w32 x6)), (.num (.w32 x7)), (.num (.w32 x8)), (.num (.w32 x9)), (.num (.w32 x10)), (.num (.w32 x11)), (.num (.w32 x12)), (.num (.w32 x13)), (.num (.w32 x14)), (.num (.w32 x15))]), (.num (.int .i64 (.c 8)))] =>
      match K with
      | [] => some ⟨⟨x0, x1, x2, x3, x4, x5, x6, x7, x8, x9, x10, x11, x12, x13, x14, x15⟩⟩
      | _ => none
    | _ => none
def c40 : Ct c40D where
  pat := [(.agg [(.num (.w32 0#32)), (.num (.w32 0#32)), (.num (.w32 0#32)), (.num (.w32 0#32)), (.num (.w32 0#32)), (.num (.w32 0#32)), (.num (.w32 0#32)), (.num (.w32 0#32)), (.num (.w32 0#32)), (.num (.w32 0#32)), (.num (.w32 0#32)), (.num (.w32 0#32)), (.num (.w32 0#32)), (.num (.w32 0#32)), (.num (.w32 0#32)), (.num (.w32 0#32))]), (.num (.int .i64 (.c 8)))]
  patH := []
  read := c40_rd
  args := fun ⟨x⟩ => [x.av, (.num (.int .i64 (.c 8)))]
  heap := fun ⟨_⟩ => []
  out := fun ⟨_⟩ => []
  val := fun ⟨x⟩ => (.agg (c8v (bytes16 (sumW x)) 64))
  good := fun ⟨_⟩ => decide (True)
theorem c40_run (x : W16) : endsAs (c40.heap ⟨x⟩).length (some []) (c40.out ⟨x⟩) (c40.val ⟨x⟩) (goB specs40 noLoop 40 (c40.args ⟨x⟩) ⟨c40.heap ⟨x⟩, big, [], []⟩) = some ((c40.out ⟨x⟩), (c40.val ⟨x⟩), [decide (True), decide (True), decide (True), decide (True), decide (True), decide (True), decide (True), decide (True), decide (True), decide (True), decide (True), decide (True), decide (True), decide (True), decide (True), decide (True)]) := by kernel_rfl
set_option maxRecDepth 100000 in
theorem c40_read (a : List AV) (K : List Blk) (d : c40D) (h : c40.read a K = some d) : a = c40.args d ∧ K = c40.heap d := by
  replace h : c40_rd a K = some d := h
  unfold c40_rd at h
  split at h
  case h_2 => cases h
  split at h
  case h_2 => cases h
  injection h with h; subst h
  exact ⟨rfl, rfl⟩
theorem c40_ok : SpecOk Try.prog noGlob 40 c40.spec := by
  refine c40.ok (goB_ok specs40_ok (no_loops _)) c40_read ?_
  rintro ⟨x⟩ hg
  have hg : True := of_decide_eq_true hg
  refine ⟨[], (some []), _, c40_run x, ?_⟩
  repeat' (refine all_true_cons ?_ ?_)
  all_goals first | exact all_true_nil | rfl | (simp only [Bool.and_eq_true, decide_eq_true_eq, beq_iff_eq, beq_true, beq_false, Bool.not_eq_true', decide_eq_false_iff_not, beq_eq_false_iff_ne, ne_eq, Bool.not_eq_false', bne_iff_ne, true_and, and_true] <;> omega)
def words16 (v : Vec 8) : W16 := ⟨lw v 0, lw v 4, lw v 8, lw v 12, lw v 16, lw v 20, lw v 24, lw v 28, lw v 32, lw v 36, lw v 40, lw v 44, lw v 48, lw v 52, lw v 56, lw v 60⟩
def core8 (v : Vec 8) : Vec 8 := bytes16 (sumW (words16 v))
def specs32 : FuncId → Option Eng.Spec
  | 26 => some c26.spec
  | 40 => some c40.spec
  | _ => none
theorem specs32_ok : ∀ f sp, specs32 f = some sp → SpecOk Try.prog noGlob f sp := by
  intro f sp h
  unfold specs32 at h
  split at h
  · injection h with h; subst h; exact c26_ok
  · injection h with h; subst h; exact c40_ok
  · cases h
structure c32D where
  v : Vec 8
def c32_rd (a : List AV) (K : List Blk) : Option c32D :=
    match a with
    | [(.agg xs_v)] =>
      match K with
      | [] => 
        (match rd8 64 xs_v with
        | some v => some ⟨v⟩
        | none => none)
      | _ => none
    | _ => none
def c32 : Ct c32D where
  pat := [(.agg (List.replicate 64 (.num (.w8 0#8))))]
  patH := []
  read := c32_rd
  args := fun ⟨v⟩ => [(.agg (c8v v 64))]
  heap := fun ⟨_⟩ => []
  out := fun ⟨_⟩ => []
  val := fun ⟨v⟩ => (.agg (c8v (core8 v) 64))
  good := fun ⟨_⟩ => decide (True)
theorem c32_run (v : Vec 8) : endsAs (c32.heap ⟨v⟩).length (some []) (c32.out ⟨v⟩) (c32.val ⟨v⟩) (goB specs32 noLoop 32 (c32.args ⟨v⟩) ⟨c32.heap ⟨v⟩, big, [], []⟩) = some ((c32.out ⟨v⟩), (c32.val ⟨v⟩), [decide (True), decide (((64 : Nat) ≤ 64 ∧ (4 : Nat) ≤ (((((64 : Nat) : Int)) : Int).toNat - 60))), decide (((60 : Nat) ≤ 64 ∧ (4 : Nat) ≤ (((((64 : Nat) : Int)) : Int).toNat - 56))), decide (((56 : Nat) ≤ 64 ∧ (4 : Nat) ≤ (((((64 : Nat) : Int)) : Int).toNat - 52))), decide (((52 : Nat) ≤ 64 ∧ (4 : Nat) ≤ (((((64 : Nat) : Int)) : Int).toNat - 48))), decide (((48 : Nat) ≤ 64 ∧ (4 : Nat) ≤ (((((64 : Nat) : Int)) : Int).toNat - 44))), decide (((44 : Nat) ≤ 64 ∧ (4 : Nat) ≤ (((((64 : Nat) : Int)) : Int).toNat - 40))), decide (((40 : Nat) ≤ 64 ∧ (4 : Nat) ≤ (((((64 : Nat) : Int)) : Int).toNat - 36))), decide (((36 : Nat) ≤ 64 ∧ (4 : Nat) ≤ (((((64 : Nat) : Int)) : Int).toNat - 32))), decide (((32 : Nat) ≤ 64 ∧ (4 : Nat) ≤ (((((64 : Nat) : Int)) : Int).toNat - 28))), decide (((28 : Nat) ≤ 64 ∧ (4 : Nat) ≤ (((((64 : Nat) : Int)) : Int).toNat - 24))), decide (((24 : Nat) ≤ 64 ∧ (4 : Nat) ≤ (((((64 : Nat) : Int)) : Int).toNat - 20))), decide (((20 : Nat) ≤ 64 ∧ (4 : Nat) ≤ (((((64 : Nat) : Int)) : Int).toNat - 16))), decide (((16 : Nat) ≤ 64 ∧ (4 : Nat) ≤ (((((64 : Nat) : Int)) : Int).toNat - 12))), decide (((12 : Nat) ≤ 64 ∧ (4 : Nat) ≤ (((((64 : Nat) : Int)) : Int).toNat - 8))), decide (((8 : Nat) ≤ 64 ∧ (4 : Nat) ≤ (((((64 : Nat) : Int)) : Int).toNat - 4))), decide (((4 : Nat) ≤ 64 ∧ (4 : Nat) ≤ (((((64 : Nat) : Int)) : Int).toNat - 0)))]) := by kernel_rfl
set_option maxRecDepth 100000 in
theorem c32_read (a : List AV) (K : List Blk) (d : c32D) (h : c32.read a K = some d) : a = c32.args d ∧ K = c32.heap d := by
  replace h : c32_rd a K = some d := h
  unfold c32_rd at h
  split at h
  case h_2 => cases h
  split at h
  case h_2 => cases h
  split at h
  case h_2 => cases h
  rename_i hr0
  obtain ⟨rfl, _⟩ := rd8_eq hr0
  injection h with h; subst h
  exact ⟨rfl, rfl⟩
theorem c32_ok : SpecOk Try.prog noGlob 32 c32.spec := by
  refine c32.ok (goB_ok specs32_ok (no_loops _)) c32_read ?_
  rintro ⟨v⟩ hg
  have hg : True := of_decide_eq_true hg
  refine ⟨[], (some []), _, c32_run v, ?_⟩
  repeat' (refine all_true_cons ?_ ?_)
  all_goals first | exact all_true_nil | rfl | (simp only [Bool.and_eq_true, decide_eq_true_eq, beq_iff_eq, beq_true, beq_false, Bool.not_eq_true', decide_eq_false_iff_not, beq_eq_false_iff_ne, ne_eq, Bool.not_eq_false', bne_iff_ne, true_and, and_true] <;> omega)
end Go.Proofs.Ytnonaagcnenbdaa

/- The package's mix of scrypt: exclusive or of rows, and words read and written. -/
import Derived.Test.YtnonaagcnenbdaaR1A
namespace Go.Proofs.Ytnonaagcnenbdaa
open Go.Eng
set_option linter.unusedSimpArgs false
set_option linter.unusedVariables false
set_option linter.unusedSectionVars false
variable [RowAddr]
structure x36D where
  d : Vec 32
  s : Vec 32
  od : Nat
  nd : Nat
  os : Nat
  m : Nat
  l : Int
  i : Int
def x36_st (d : x36D) : Fr × List Blk :=
  match d with
  | ⟨d, s, od, nd, os, m, l, i⟩ => (⟨[(.ref (.sl 0 (.s od) (.s nd) none)), (.atom .undef), (.atom .undef), (.atom .undef), (.atom .undef), (.atom .undef), (.atom .undef), (.atom .undef)], [⟨10, (.ref (.sl 1 (.s os) (.s m) none))⟩, ⟨11, (.num (.int .i64 (.s l)))⟩, ⟨12, (.num (.int .i64 (.s i)))⟩]⟩, [⟨(.b32 d), .own⟩, ⟨(.b32 s), .ro⟩])
def x36_next (d : x36D) : x36D :=
  match d with
  | ⟨d, s, od, nd, os, m, l, i⟩ => ⟨d.set (od + i.toNat * 1) (d.l.getD (od + i.toNat * 1) 0#32 ^^^ s.l.getD (os + i.toNat * 1) 0#32), s, od, nd, os, m, l, i + 1⟩
def x36_rd (F : Fr) (K : List Blk) : Option x36D :=
    match F with
    | ⟨[(.ref (.sl 0 (.s od) (.s nd) none)), (.atom .undef), (.atom .undef), (.atom .undef), (.atom .undef), (.atom .undef), (.atom .undef), (.atom .undef)], [⟨10, (.ref (.sl 1 (.s os) (.s m) none))⟩, ⟨11, (.num (.int .i64 (.s l)))⟩, ⟨12, (.num (.int .i64 (.s i)))⟩]⟩ =>
      match K with
      | [⟨(.b32 d), .own⟩, ⟨(.b32 s), .ro⟩] => some ⟨d, s, od, nd, os, m, l, i⟩
      | _ => none
    | _ => none
def x36 : LoopP x36D where
  pat := ⟨[(.ref (.sl 0 (.s 0) (.s 0) none)), (.atom .undef), (.atom .undef), (.atom .undef), (.atom .undef), (.atom .undef), (.atom .undef), (.atom .undef)], [⟨10, (.ref (.sl 1 (.s 0) (.s 0) none))⟩, ⟨11, (.num (.int .i64 (.s 0)))⟩, ⟨12, (.num (.int .i64 (.s 0)))⟩]⟩
  patH := [⟨(.b32 (Vec.zero 32 0)), .own⟩, ⟨(.b32 (Vec.zero 32 0)), .ro⟩]
  gh := []
  read := x36_rd
  st := x36_st
  next := x36_next
  rem := fun ⟨_, _, _, _, _, _, l, i⟩ => (l - i).toNat
  good := fun ⟨d, s, od, nd, os, m, l, i⟩ => decide (0 ≤ i ∧ i ≤ l ∧ l = m ∧ od + m ≤ d.n ∧ m ≤ nd ∧ os + m ≤ s.n ∧ m ≤ 1000000)
  out := .exit 0
  fin := x36_st
theorem x36_round (d s : Vec 32) (od nd os m : Nat) (l i : Int) : ranAs ((x36.st ⟨d, s, od, nd, os, m, l, i⟩).2.length - x36.gh.length) none (x36.st (x36_next ⟨d, s, od, nd, os, m, l, i⟩)) (goL noSpec noLoop 36 0 (x36.st ⟨d, s, od, nd, os, m, l, i⟩).1 ⟨(x36.st ⟨d, s, od, nd, os, m, l, i⟩).2, big, [true], []⟩) = some (.normal, (x36.st (x36_next ⟨d, s, od, nd, os, m, l, i⟩)), [decide (((-9223372036854775808) ≤ (i + 1) ∧ (i + 1) ≤ 9223372036854775807)), decide ((od + (((i) : Int).toNat * 1)) < d.n), (decide ((0 : Int) ≤ i) && decide (i < ((nd : Nat) : Int))), decide ((od + (((i) : Int).toNat * 1)) < d.n), (decide ((0 : Int) ≤ i) && decide (i < ((nd : Nat) : Int))), decide ((os + (((i) : Int).toNat * 1)) < s.n), (decide ((0 : Int) ≤ i) && decide (i < ((m : Nat) : Int))), (decide (i < l) == true)]) := by kernel_rfl
theorem x36_end (d s : Vec 32) (od nd os m : Nat) (l i : Int) : ranAs ((x36.st ⟨d, s, od, nd, os, m, l, i⟩).2.length - x36.gh.length) none (x36.fin ⟨d, s, od, nd, os, m, l, i⟩) (goL noSpec noLoop 36 0 (x36.st ⟨d, s, od, nd, os, m, l, i⟩).1 ⟨(x36.st ⟨d, s, od, nd, os, m, l, i⟩).2, big, [false], []⟩) = some (x36.out, (x36.fin ⟨d, s, od, nd, os, m, l, i⟩), [(decide (i < l) == false)]) := by kernel_rfl
set_option maxRecDepth 100000 in
theorem x36_read (F : Fr) (K : List Blk) (d : x36D) (h : x36.read F K = some d) : (F, K) = x36.st d := by
  replace h : x36_rd F K = some d := h
  unfold x36_rd at h
  split at h
  case h_2 => cases h
  split at h
  case h_2 => cases h
  injection h with h; subst h
  rfl
theorem x36_body : RunOk Try.prog noGlob (nv 36) (ntmpsIn Try.prog 36) (loopIn Try.prog 36 0) (goL noSpec noLoop 36 0) := goL_ok no_specs (no_loops _) 36 0 fine36 (by rw [show (loopsIn Try.prog 36).length = 1 by kernel_rfl]; omega)
theorem x36_toldL : LoopOk Try.prog noGlob (nv 36) (ntmpsIn Try.prog 36) (loopIn Try.prog 36 0) x36.T.told := by
  refine x36.ran x36_body (by intro k hk; have hk : k ∈ ([] : List Blk) := hk; cases hk) (by intro h; cases h) x36_read ?_ ?_
  · rintro ⟨d, s, od, nd, os, m, l, i⟩ kk hg hr
    have hg : 0 ≤ i ∧ i ≤ l ∧ l = m ∧ od + m ≤ d.n ∧ m ≤ nd ∧ os + m ≤ s.n ∧ m ≤ 1000000 := of_decide_eq_true hg
    have hr : (l - i).toNat = kk + 1 := hr
    have en : x36.next ⟨d, s, od, nd, os, m, l, i⟩ = x36_next ⟨d, s, od, nd, os, m, l, i⟩ := rfl
    rw [en]
    refine ⟨⟨[true], none, _, x36_round d s od nd os m l i, ?_⟩, ?_, ?_, (show (x36.st (x36_next ⟨d, s, od, nd, os, m, l, i⟩)).2.length = 2 by kernel_rfl).trans (show (x36.st ⟨d, s, od, nd, os, m, l, i⟩).2.length = 2 by kernel_rfl).symm⟩
    · repeat' (refine all_true_cons ?_ ?_)
      all_goals first | exact all_true_nil | rfl | (simp only [Bool.and_eq_true, decide_eq_true_eq, beq_iff_eq, beq_true, beq_false, Bool.not_eq_true', decide_eq_false_iff_not, beq_eq_false_iff_ne, ne_eq, Bool.not_eq_false', bne_iff_ne, true_and, and_true] <;> omega)
    · have e : x36.good (x36_next ⟨d, s, od, nd, os, m, l, i⟩) = decide (0 ≤ (i + 1 : Int) ∧ (i + 1 : Int) ≤ l ∧ l = m ∧ od + m ≤ (d.set (od + i.toNat * 1) (d.l.getD (od + i.toNat * 1) 0#32 ^^^ s.l.getD (os + i.toNat * 1) 0#32) : Vec 32).n ∧ m ≤ nd ∧ os + m ≤ s.n ∧ m ≤ 1000000) := by kernel_rfl
      refine e.trans (decide_eq_true ?_)
      rw [set_n]
      omega
    · have e : x36.rem (x36_next ⟨d, s, od, nd, os, m, l, i⟩) = ((l - (i + 1 : Int)).toNat) := by kernel_rfl
      refine e.trans ?_
      omega
  · rintro ⟨d, s, od, nd, os, m, l, i⟩ hg hr
    have hg : 0 ≤ i ∧ i ≤ l ∧ l = m ∧ od + m ≤ d.n ∧ m ≤ nd ∧ os + m ≤ s.n ∧ m ≤ 1000000 := of_decide_eq_true hg
    have hr : (l - i).toNat = 0 := hr
    refine ⟨[false], none, _, x36_end d s od nd os m l i, ?_⟩
    repeat' (refine all_true_cons ?_ ?_)
    all_goals first | exact all_true_nil | rfl | (simp only [Bool.and_eq_true, decide_eq_true_eq, beq_iff_eq, beq_true, beq_false, Bool.not_eq_true', decide_eq_false_iff_not, beq_eq_false_iff_ne, ne_eq, Bool.not_eq_false', bne_iff_ne, true_and, and_true] <;> omega)
def x36_spec : LSpec := x36.T.told
theorem x36_told : Told 36 0 x36_spec := x36_toldL.run
def x36s : FuncId → Nat → Option LSpec
  | 36, 1 => some x36_spec
  | _, _ => none
theorem x36s_len : (loopsIn Try.prog 36).length = 1 := by kernel_rfl
theorem x36s_ok (spec : FuncId → Option Eng.Spec) : LoopsOk (cfg spec x36s) noGlob := by
  refine LoopsOk.of fun f => ?_
  by_cases hf : f = 36
  · subst hf
    refine .inr ⟨by kernel_rfl, fun i hi sp hsp => ?_⟩
    have hi : i < (loopsIn Try.prog 36).length := hi
    rw [x36s_len] at hi
    match i, hi with
    | 0, _ =>
      have e : (firstRid (loopIn Try.prog 36 0)).bind (x36s 36) = some x36_spec := by kernel_rfl
      obtain rfl := Option.some.inj (e.symm.trans hsp)
      exact x36_told
  · refine .inl fun r => ?_
    show x36s f r = none
    unfold x36s
    split
    · exact absurd rfl hf
    · rfl
/-- Words exclusive-or those of another row. -/
def xorD (d : Vec 32) (od : Nat) (s : Vec 32) (os : Nat) : Nat → Vec 32
  | 0 => d
  | m + 1 => (xorD d od s os m).set (od + m) ((xorD d od s os m).l.getD (od + m) 0#32 ^^^ s.l.getD (os + m) 0#32)
theorem xorD_n (d : Vec 32) (od : Nat) (s : Vec 32) (os : Nat) : ∀ m : Nat, (xorD d od s os m).n = d.n
  | 0 => rfl
  | m + 1 => xorD_n d od s os m
theorem x36_it (d s : Vec 32) (od nd os n : Nat) (l : Int) : ∀ m : Nat, iter x36_next m ⟨d, s, od, nd, os, n, l, 0⟩ = ⟨xorD d od s os m, s, od, nd, os, n, l, (m : Int)⟩
  | 0 => rfl
  | m + 1 => by
    rw [iter_succ, x36_it d s od nd os n l m]
    show (⟨(xorD d od s os m).set (od + ((m : Nat) : Int).toNat * 1) ((xorD d od s os m).l.getD (od + ((m : Nat) : Int).toNat * 1) 0#32 ^^^ s.l.getD (os + ((m : Nat) : Int).toNat * 1) 0#32), s, od, nd, os, n, l, (m : Int) + 1⟩ : x36D) = _
    rw [show od + ((m : Nat) : Int).toNat * 1 = od + m by omega, show os + ((m : Nat) : Int).toNat * 1 = os + m by omega, show (m : Int) + 1 = ((m + 1 : Nat) : Int) by omega]
    rfl
def X36 (d s : Vec 32) (od nd os : Nat) (k : Int) : x36D := iter x36_next ((((k.toNat - (((0 : Nat) : Int)).toNat : Nat) : Int) - 0).toNat) ⟨d, s, od, nd, os + (((0 : Nat) : Int)).toNat, k.toNat - (((0 : Nat) : Int)).toNat, ((k.toNat - (((0 : Nat) : Int)).toNat : Nat) : Int), 0⟩
theorem X36_eq (d s : Vec 32) (od nd os : Nat) (k : Int) : X36 d s od nd os k = ⟨xorD d od s os k.toNat, s, od, nd, os + (((0 : Nat) : Int)).toNat, k.toNat - (((0 : Nat) : Int)).toNat, ((k.toNat - (((0 : Nat) : Int)).toNat : Nat) : Int), ((k.toNat : Nat) : Int)⟩ := by
  unfold X36
  rw [show (((k.toNat - (((0 : Nat) : Int)).toNat : Nat) : Int) - 0).toNat = k.toNat by omega]
  exact x36_it _ _ _ _ _ _ _ _
structure c36D where
  d : Vec 32
  s : Vec 32
  od : Nat
  nd : Nat
  os : Nat
  ns : Nat
  k : Int
def c36_rd (a : List AV) (K : List Blk) : Option c36D :=
    match a with
    | [(.ref (.sl 0 (.s od) (.s nd) none)), (.ref (.sl 1 (.s os) (.s ns) none)), (.num (.int .i64 (.s k)))] =>
      match K with
      | [⟨(.b32 d), .own⟩, ⟨(.b32 s), .ro⟩] => some ⟨d, s, od, nd, os, ns, k⟩
      | _ => none
    | _ => none
def c36 : Ct c36D where
  pat := [(.ref (.sl 0 (.s 0) (.s 0) none)), (.ref (.sl 1 (.s 0) (.s 0) none)), (.num (.int .i64 (.s 0)))]
  patH := [⟨(.b32 (Vec.zero 32 0)), .own⟩, ⟨(.b32 (Vec.zero 32 0)), .ro⟩]
  read := c36_rd
  args := fun ⟨_, s, od, nd, os, ns, k⟩ => [(.ref (.sl 0 (.s od) (.s nd) none)), (.ref (.sl 1 (.s os) (.s ns) none)), (.num (.int .i64 (.s k)))]
  heap := fun ⟨d, s, _, _, _, _, _⟩ => [⟨(.b32 d), .own⟩, ⟨(.b32 s), .ro⟩]
  out := fun ⟨d, s, od, _, os, _, k⟩ => [⟨(.b32 (xorD d od s os k.toNat)), .own⟩, ⟨(.b32 s), .ro⟩]
  val := fun ⟨_, _, _, _, _, _, _⟩ => (.obj .tup [])
  good := fun ⟨d, s, od, nd, os, ns, k⟩ => decide (0 ≤ k ∧ k ≤ nd ∧ k ≤ ns ∧ od + k.toNat ≤ d.n ∧ os + k.toNat ≤ s.n ∧ k ≤ 1000000)
theorem c36_run (d s : Vec 32) (od nd os ns : Nat) (k : Int) : endsAs (c36.heap ⟨d, s, od, nd, os, ns, k⟩).length none [⟨(.b32 ((X36 d s od nd os k)).d), .own⟩, ⟨(.b32 s), .ro⟩] (c36.val ⟨d, s, od, nd, os, ns, k⟩) (goB noSpec x36s 36 (c36.args ⟨d, s, od, nd, os, ns, k⟩) ⟨c36.heap ⟨d, s, od, nd, os, ns, k⟩, big, [], []⟩) = some ([⟨(.b32 ((X36 d s od nd os k)).d), .own⟩, ⟨(.b32 s), .ro⟩], (c36.val ⟨d, s, od, nd, os, ns, k⟩), [decide (((0 : Int) ≤ 0 ∧ ((0 : Int) ≤ (((((k) : Int).toNat - ((((0 : Nat) : Int)) : Int).toNat) : Nat) : Int) ∧ ((((((k) : Int).toNat - ((((0 : Nat) : Int)) : Int).toNat) : Nat) : Int) = (((((k) : Int).toNat - ((((0 : Nat) : Int)) : Int).toNat) : Nat) : Int) ∧ ((od + (((k) : Int).toNat - ((((0 : Nat) : Int)) : Int).toNat)) ≤ d.n ∧ ((((k) : Int).toNat - ((((0 : Nat) : Int)) : Int).toNat) ≤ nd ∧ (((os + ((((0 : Nat) : Int)) : Int).toNat) + (((k) : Int).toNat - ((((0 : Nat) : Int)) : Int).toNat)) ≤ s.n ∧ (((k) : Int).toNat - ((((0 : Nat) : Int)) : Int).toNat) ≤ 1000000))))))), ((true && decide (((0 : Nat) : Int) ≤ k)) && decide (k ≤ ((ns : Nat) : Int)))]) := by kernel_rfl
set_option maxRecDepth 100000 in
theorem c36_read (a : List AV) (K : List Blk) (d : c36D) (h : c36.read a K = some d) : a = c36.args d ∧ K = c36.heap d := by
  replace h : c36_rd a K = some d := h
  unfold c36_rd at h
  split at h
  case h_2 => cases h
  split at h
  case h_2 => cases h
  injection h with h; subst h
  exact ⟨rfl, rfl⟩
theorem c36_ok : SpecOk Try.prog noGlob 36 c36.spec := by
  refine c36.ok (goB_ok no_specs (x36s_ok _)) c36_read ?_
  rintro ⟨d, s, od, nd, os, ns, k⟩ hg
  have hg : 0 ≤ k ∧ k ≤ nd ∧ k ≤ ns ∧ od + k.toNat ≤ d.n ∧ os + k.toNat ≤ s.n ∧ k ≤ 1000000 := of_decide_eq_true hg
  have eo : c36.out ⟨d, s, od, nd, os, ns, k⟩ = [⟨(.b32 ((X36 d s od nd os k)).d), .own⟩, ⟨(.b32 s), .ro⟩] := by
    rw [X36_eq]
    rfl
  have ev : c36.val ⟨d, s, od, nd, os, ns, k⟩ = (.obj .tup []) := by
    rfl
  rw [eo, ev]
  refine ⟨[], none, _, c36_run d s od nd os ns k, ?_⟩
  repeat' (refine all_true_cons ?_ ?_)
  all_goals first | exact all_true_nil | rfl | (simp only [Bool.and_eq_true, decide_eq_true_eq, beq_iff_eq, beq_true, beq_false, Bool.not_eq_true', decide_eq_false_iff_not, beq_eq_false_iff_ne, ne_eq, Bool.not_eq_false', bne_iff_ne, true_and, and_true] <;> omega)
end Go.Proofs.Ytnonaagcnenbdaa

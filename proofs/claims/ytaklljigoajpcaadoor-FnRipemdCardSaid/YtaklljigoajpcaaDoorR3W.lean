/- RIPEMD-160: what is written. -/
import Derived.Test.YtaklljigoajpcaaDoorR3Rip
namespace Go.Proofs.YtaklljigoajpcaaDoor
open Go.Eng
set_option linter.unusedSectionVars false
variable [RowAddr]
set_option linter.unusedSimpArgs false
set_option linter.unusedVariables false
structure c39xD where
  h : W5
  xb : Vec 8
  nx : Int
  tc : BitVec 64
def c39x_rd (a : List AV) (K : List Blk) : Option c39xD :=
    match a with
    | [(.ref (.ptr 0 (.c 0))), (.ref (.sl 0 (.c 5) (.c 64) none))] =>
      match K with
      | [⟨(.gen ((.num (.w32 h0)) :: (.num (.w32 h1)) :: (.num (.w32 h2)) :: (.num (.w32 h3)) :: (.num (.w32 h4)) :: ys_xb)), .own⟩] => 
        (match rd8 64 (ys_xb.take 64), ys_xb.drop 64 with
        | some xb, [(.num (.int .i64 (.s nx))), (.num (.w64 tc))] => some ⟨⟨h0, h1, h2, h3, h4⟩, xb, nx, tc⟩
        | _, _ => none)
      | _ => none
    | _ => none
def c39x : Ct c39xD where
  pat := [(.ref (.ptr 0 (.c 0))), (.ref (.sl 0 (.c 5) (.c 64) none))]
  patH := [⟨(.gen ([(.num (.w32 0#32)), (.num (.w32 0#32)), (.num (.w32 0#32)), (.num (.w32 0#32)), (.num (.w32 0#32))] ++ List.replicate 64 (.num (.w8 0#8)) ++ [(.num (.int .i64 (.s 0))), (.num (.w64 0#64))])), .own⟩]
  read := c39x_rd
  args := fun ⟨_, _, _, _⟩ => [(.ref (.ptr 0 (.c 0))), (.ref (.sl 0 (.c 5) (.c 64) none))]
  heap := fun ⟨h, xb, nx, tc⟩ => [⟨(.gen ([(.num (.w32 h.x0)), (.num (.w32 h.x1)), (.num (.w32 h.x2)), (.num (.w32 h.x3)), (.num (.w32 h.x4))] ++ c8v xb 64 ++ [(.num (.int .i64 (.s nx))), (.num (.w64 tc))])), .own⟩]
  out := fun ⟨h, xb, nx, tc⟩ => [⟨(.gen ([(.num (.w32 ((rip5 h (wrd xb 0))).x0)), (.num (.w32 ((rip5 h (wrd xb 0))).x1)), (.num (.w32 ((rip5 h (wrd xb 0))).x2)), (.num (.w32 ((rip5 h (wrd xb 0))).x3)), (.num (.w32 ((rip5 h (wrd xb 0))).x4))] ++ c8v (cpv xb) 64 ++ [(.num (.int .i64 (.s nx))), (.num (.w64 tc))])), .own⟩]
  val := fun ⟨_, _, _, _⟩ => (.num (.int .i64 (.c 64)))
  good := fun ⟨_, _, _, _⟩ => decide (True)
theorem c39x_run (h : W5) (xb : Vec 8) (nx : Int) (tc : BitVec 64) : endsAs (c39x.heap ⟨h, xb, nx, tc⟩).length (some [0]) (c39x.out ⟨h, xb, nx, tc⟩) (c39x.val ⟨h, xb, nx, tc⟩) (goB noSpec noLoop 39 (c39x.args ⟨h, xb, nx, tc⟩) ⟨c39x.heap ⟨h, xb, nx, tc⟩, big, [], []⟩) = some ((c39x.out ⟨h, xb, nx, tc⟩), (c39x.val ⟨h, xb, nx, tc⟩), []) := by kernel_rfl
set_option maxRecDepth 100000 in
theorem c39x_read (a : List AV) (K : List Blk) (d : c39xD) (h : c39x.read a K = some d) : a = c39x.args d ∧ K = c39x.heap d := by
  replace h : c39x_rd a K = some d := h
  unfold c39x_rd at h
  split at h
  case h_2 => cases h
  split at h
  case h_2 => cases h
  split at h
  case h_2 => cases h
  rename_i hr hd
  obtain ⟨he, _⟩ := rd8_eq hr
  have ht := (List.take_append_drop 64 _).symm.trans (congr (congrArg HAppend.hAppend he) hd)
  subst ht
  injection h with h; subst h
  exact ⟨rfl, rfl⟩
theorem c39x_ok : SpecOk Tryd.prog noGlob 39 c39x.spec := by
  refine c39x.ok (goB_ok no_specs (no_loops _)) c39x_read ?_
  rintro ⟨h, xb, nx, tc⟩ hg
  have hg : True := of_decide_eq_true hg
  refine ⟨[], (some [0]), _, c39x_run h xb nx tc, ?_⟩
  repeat' (refine all_true_cons ?_ ?_)
  all_goals first | exact all_true_nil | rfl | (simp only [Bool.and_eq_true, decide_eq_true_eq, beq_iff_eq, beq_true, beq_false, Bool.not_eq_true', decide_eq_false_iff_not, beq_eq_false_iff_ne, ne_eq, Bool.not_eq_false', bne_iff_ne, true_and, and_true] <;> omega)
structure w60D where
  h : W5
  xb : Vec 8
  nx : Int
  tc : BitVec 64
  v : Vec 8
  o : Nat
  np : Nat
  nn : Int
  n : Int
  i : Int
def w60_st (d : w60D) : Fr × List Blk :=
  match d with
  | ⟨h, xb, nx, tc, v, o, np, nn, n, i⟩ => (⟨[(.ref (.ptr 0 (.c 0))), (.ref (.sl 1 (.s o) (.s np) none)), (.atom .undef), (.atom .undef), (.num (.int .i64 (.s nn))), (.atom .nili), (.num (.int .i64 (.s n))), (.num (.int .i64 (.s i))), (.atom .undef)], []⟩, [⟨(.gen ([(.num (.w32 h.x0)), (.num (.w32 h.x1)), (.num (.w32 h.x2)), (.num (.w32 h.x3)), (.num (.w32 h.x4))] ++ c8v xb 64 ++ [(.num (.int .i64 (.s nx))), (.num (.w64 tc))])), .own⟩, ⟨(.b8 v), .ro⟩])
def w60_next (d : w60D) : w60D :=
  match d with
  | ⟨h, xb, nx, tc, v, o, np, nn, n, i⟩ => ⟨h, (cpv xb).set (5 + (nx + i).toNat * 1 - 5) (v.l.getD (o + i.toNat * 1) 0#8), nx, tc, v, o, np, nn, n, i + 1⟩
def w60_rd (F : Fr) (K : List Blk) : Option w60D :=
    match F with
    | ⟨[(.ref (.ptr 0 (.c 0))), (.ref (.sl 1 (.s o) (.s np) none)), (.atom .undef), (.atom .undef), (.num (.int .i64 (.s nn))), (.atom .nili), (.num (.int .i64 (.s n))), (.num (.int .i64 (.s i))), (.atom .undef)], []⟩ =>
      match K with
      | [⟨(.gen ((.num (.w32 h0)) :: (.num (.w32 h1)) :: (.num (.w32 h2)) :: (.num (.w32 h3)) :: (.num (.w32 h4)) :: ys_xb)), .own⟩, ⟨(.b8 v), .ro⟩] => 
        (match rd8 64 (ys_xb.take 64), ys_xb.drop 64 with
        | some xb, [(.num (.int .i64 (.s nx))), (.num (.w64 tc))] => some ⟨⟨h0, h1, h2, h3, h4⟩, xb, nx, tc, v, o, np, nn, n, i⟩
        | _, _ => none)
      | _ => none
    | _ => none
def w60 : LoopP w60D where
  pat := ⟨[(.ref (.ptr 0 (.c 0))), (.ref (.sl 1 (.s 0) (.s 0) none)), (.atom .undef), (.atom .undef), (.num (.int .i64 (.s 0))), (.atom .nili), (.num (.int .i64 (.s 0))), (.num (.int .i64 (.s 0))), (.atom .undef)], []⟩
  patH := [⟨(.gen ([(.num (.w32 0#32)), (.num (.w32 0#32)), (.num (.w32 0#32)), (.num (.w32 0#32)), (.num (.w32 0#32))] ++ List.replicate 64 (.num (.w8 0#8)) ++ [(.num (.int .i64 (.s 0))), (.num (.w64 0#64))])), .own⟩, ⟨(.b8 (Vec.zero 8 0)), .ro⟩]
  gh := []
  read := w60_rd
  st := w60_st
  next := w60_next
  rem := fun ⟨_, _, _, _, _, _, _, _, n, i⟩ => (n - i).toNat
  good := fun ⟨_, _, nx, _, v, o, np, _, n, i⟩ => decide (0 ≤ nx ∧ 0 ≤ i ∧ i ≤ n ∧ n ≤ np ∧ nx + n ≤ 64 ∧ o + np ≤ v.n ∧ np ≤ 1099511627776)
  out := .exit 0
  fin := w60_st
theorem w60_round (h : W5) (xb : Vec 8) (nx : Int) (tc : BitVec 64) (v : Vec 8) (o np : Nat) (nn n i : Int) : ranAs ((w60.st ⟨h, xb, nx, tc, v, o, np, nn, n, i⟩).2.length - w60.gh.length) none (w60.st (w60_next ⟨h, xb, nx, tc, v, o, np, nn, n, i⟩)) (goL noSpec noLoop 60 0 (w60.st ⟨h, xb, nx, tc, v, o, np, nn, n, i⟩).1 ⟨(w60.st ⟨h, xb, nx, tc, v, o, np, nn, n, i⟩).2, big, [true], []⟩) = some (.normal, (w60.st (w60_next ⟨h, xb, nx, tc, v, o, np, nn, n, i⟩)), [decide (((-9223372036854775808) ≤ (i + 1) ∧ (i + 1) ≤ 9223372036854775807)), decide (((5 : Nat) ≤ (5 + ((((nx + i)) : Int).toNat * 1)) ∧ ((5 + ((((nx + i)) : Int).toNat * 1)) + 1) ≤ 69)), (decide ((0 : Int) ≤ (nx + i)) && decide ((nx + i) < ((64 : Nat) : Int))), decide ((o + (((i) : Int).toNat * 1)) < v.n), (decide ((0 : Int) ≤ i) && decide (i < ((np : Nat) : Int))), decide (((-9223372036854775808) ≤ (nx + i) ∧ (nx + i) ≤ 9223372036854775807)), (decide (i < n) == true)]) := by kernel_rfl
theorem w60_end (h : W5) (xb : Vec 8) (nx : Int) (tc : BitVec 64) (v : Vec 8) (o np : Nat) (nn n i : Int) : ranAs ((w60.st ⟨h, xb, nx, tc, v, o, np, nn, n, i⟩).2.length - w60.gh.length) none (w60.fin ⟨h, xb, nx, tc, v, o, np, nn, n, i⟩) (goL noSpec noLoop 60 0 (w60.st ⟨h, xb, nx, tc, v, o, np, nn, n, i⟩).1 ⟨(w60.st ⟨h, xb, nx, tc, v, o, np, nn, n, i⟩).2, big, [false], []⟩) = some (w60.out, (w60.fin ⟨h, xb, nx, tc, v, o, np, nn, n, i⟩), [(decide (i < n) == false)]) := by kernel_rfl
set_option maxRecDepth 100000 in
theorem w60_read (F : Fr) (K : List Blk) (d : w60D) (h : w60.read F K = some d) : (F, K) = w60.st d := by
  replace h : w60_rd F K = some d := h
  unfold w60_rd at h
  split at h
  case h_2 => cases h
  split at h
  case h_2 => cases h
  split at h
  case h_2 => cases h
  rename_i hr hd
  obtain ⟨he, _⟩ := rd8_eq hr
  have ht := (List.take_append_drop 64 _).symm.trans (congr (congrArg HAppend.hAppend he) hd)
  subst ht
  injection h with h; subst h
  rfl
theorem w60_body : RunOk Tryd.prog noGlob (nv 60) (ntmpsIn Tryd.prog 60) (loopIn Tryd.prog 60 0) (goL noSpec noLoop 60 0) := goL_ok no_specs (no_loops _) 60 0 fine60 (by rw [show (loopsIn Tryd.prog 60).length = 1 by kernel_rfl]; omega)
theorem w60_toldL : LoopOk Tryd.prog noGlob (nv 60) (ntmpsIn Tryd.prog 60) (loopIn Tryd.prog 60 0) w60.T.told := by
  refine w60.ran w60_body (by intro k hk; have hk : k ∈ ([] : List Blk) := hk; cases hk) (by intro h; cases h) w60_read ?_ ?_
  · rintro ⟨h, xb, nx, tc, v, o, np, nn, n, i⟩ kk hg hr
    have hg : 0 ≤ nx ∧ 0 ≤ i ∧ i ≤ n ∧ n ≤ np ∧ nx + n ≤ 64 ∧ o + np ≤ v.n ∧ np ≤ 1099511627776 := of_decide_eq_true hg
    have hr : (n - i).toNat = kk + 1 := hr
    have en : w60.next ⟨h, xb, nx, tc, v, o, np, nn, n, i⟩ = w60_next ⟨h, xb, nx, tc, v, o, np, nn, n, i⟩ := rfl
    rw [en]
    refine ⟨⟨[true], none, _, w60_round h xb nx tc v o np nn n i, ?_⟩, ?_, ?_, (show (w60.st (w60_next ⟨h, xb, nx, tc, v, o, np, nn, n, i⟩)).2.length = 2 by kernel_rfl).trans (show (w60.st ⟨h, xb, nx, tc, v, o, np, nn, n, i⟩).2.length = 2 by kernel_rfl).symm⟩
    · repeat' (refine all_true_cons ?_ ?_)
      all_goals first | exact all_true_nil | rfl | (simp only [Bool.and_eq_true, decide_eq_true_eq, beq_iff_eq, beq_true, beq_false, Bool.not_eq_true', decide_eq_false_iff_not, beq_eq_false_iff_ne, ne_eq, Bool.not_eq_false', bne_iff_ne, true_and, and_true] <;> omega)
    · have e : w60.good (w60_next ⟨h, xb, nx, tc, v, o, np, nn, n, i⟩) = decide (0 ≤ nx ∧ 0 ≤ (i + 1 : Int) ∧ (i + 1 : Int) ≤ n ∧ n ≤ np ∧ nx + n ≤ 64 ∧ o + np ≤ v.n ∧ np ≤ 1099511627776) := by kernel_rfl
      refine e.trans (decide_eq_true ?_)
      omega
    · have e : w60.rem (w60_next ⟨h, xb, nx, tc, v, o, np, nn, n, i⟩) = ((n - (i + 1 : Int)).toNat) := by kernel_rfl
      refine e.trans ?_
      omega
  · rintro ⟨h, xb, nx, tc, v, o, np, nn, n, i⟩ hg hr
    have hg : 0 ≤ nx ∧ 0 ≤ i ∧ i ≤ n ∧ n ≤ np ∧ nx + n ≤ 64 ∧ o + np ≤ v.n ∧ np ≤ 1099511627776 := of_decide_eq_true hg
    have hr : (n - i).toNat = 0 := hr
    refine ⟨[false], none, _, w60_end h xb nx tc v o np nn n i, ?_⟩
    repeat' (refine all_true_cons ?_ ?_)
    all_goals first | exact all_true_nil | rfl | (simp only [Bool.and_eq_true, decide_eq_true_eq, beq_iff_eq, beq_true, beq_false, Bool.not_eq_true', decide_eq_false_iff_not, beq_eq_false_iff_ne, ne_eq, Bool.not_eq_false', bne_iff_ne, true_and, and_true] <;> omega)
def w60_spec : LSpec := w60.T.told
theorem w60_told : Told 60 0 w60_spec := w60_toldL.run
def w60s : FuncId → Nat → Option LSpec
  | 60, 8 => some w60_spec
  | _, _ => none
theorem w60s_len : (loopsIn Tryd.prog 60).length = 1 := by kernel_rfl
theorem w60s_ok (spec : FuncId → Option Eng.Spec) : LoopsOk (cfg spec w60s) noGlob := by
  refine LoopsOk.of fun f => ?_
  by_cases hf : f = 60
  · subst hf
    refine .inr ⟨by kernel_rfl, fun i hi sp hsp => ?_⟩
    have hi : i < (loopsIn Tryd.prog 60).length := hi
    rw [w60s_len] at hi
    match i, hi with
    | 0, _ =>
      have e : (firstRid (loopIn Tryd.prog 60 0)).bind (w60s 60) = some w60_spec := by kernel_rfl
      obtain rfl := Option.some.inj (e.symm.trans hsp)
      exact w60_told
  · refine .inl fun r => ?_
    show w60s f r = none
    unfold w60s
    split
    · exact absurd rfl hf
    · rfl
def sp39 : Eng.Spec := orSpec c39.spec c39x.spec
theorem sp39_ok : SpecOk Tryd.prog noGlob 39 sp39 := SpecOk.or c39_ok c39x_ok
def specs60 : FuncId → Option Eng.Spec
  | 39 => some sp39
  | _ => none
theorem specs60_ok : ∀ f sp, specs60 f = some sp → SpecOk Tryd.prog noGlob f sp := by
  intro f sp h
  unfold specs60 at h
  split at h
  · injection h with h; subst h; exact sp39_ok
  · cases h
/-- Bytes put into the buffer, one by one. -/
def fillX (xb v : Vec 8) (nx : Int) (o : Nat) : Nat → Vec 8
  | 0 => cpv xb
  | k + 1 => (cpv (fillX xb v nx o k)).set (5 + (nx + (k : Int)).toNat * 1 - 5) (v.l.getD (o + (k : Int).toNat * 1) 0#8)
def w60z (h : W5) (xb : Vec 8) (nx : Int) (tc : BitVec 64) (v : Vec 8) (o np : Nat) (n : Int) : w60D := iter w60_next ((n - 0).toNat) ⟨h, cpv xb, nx, tc, v, o, np, ((np : Nat) : Int), n, 0⟩
theorem w60_it (h : W5) (xb : Vec 8) (nx : Int) (tc : BitVec 64) (v : Vec 8) (o np : Nat) (nn n : Int) : ∀ k : Nat, iter w60_next k ⟨h, cpv xb, nx, tc, v, o, np, nn, n, 0⟩ = ⟨h, fillX xb v nx o k, nx, tc, v, o, np, nn, n, (k : Int)⟩
  | 0 => rfl
  | k + 1 => by
    rw [iter_succ, w60_it h xb nx tc v o np nn n k]
    show (⟨h, (cpv (fillX xb v nx o k)).set (5 + (nx + (k : Int)).toNat * 1 - 5) (v.l.getD (o + (k : Int).toNat * 1) 0#8), nx, tc, v, o, np, nn, n, (k : Int) + 1⟩ : w60D) = _
    rw [show (k : Int) + 1 = ((k + 1 : Nat) : Int) by omega]
    rfl
theorem w60z_eq (h : W5) (xb : Vec 8) (nx : Int) (tc : BitVec 64) (v : Vec 8) (o np : Nat) (n : Int) : w60z h xb nx tc v o np n = ⟨h, fillX xb v nx o n.toNat, nx, tc, v, o, np, ((np : Nat) : Int), n, (n.toNat : Int)⟩ := by
  unfold w60z
  rw [w60_it, show n - 0 = n by omega]
def tlN (np : Nat) : Nat := Nat.min (np - 64 * (np / 64)) 64
def tlX (xb v : Vec 8) (o np : Nat) : Vec 8 := (cpv xb).over 0 (v.sub (o + 64 * (np / 64)) (tlN np))
theorem tlN_zero (np : Nat) (h : ¬ 0 < np - 64 * (np / 64)) : ((tlN np : Nat) : Int) = 0 := by
  have : tlN np = min (np - 64 * (np / 64)) 64 := rfl
  omega
/-- The state, the buffer and how many bytes wait in it, behind what is written. -/
def wrH (h : W5) (xb : Vec 8) (nx : Int) (v : Vec 8) (o np : Nat) : W5 :=
  if 0 < nx then
    if 64 - nx < (np : Int) then ripAll (rip5 h (wrd (fillX xb v nx o (64 - nx).toNat) 0)) v (o + (64 - nx).toNat) ((np - (64 - nx).toNat) / 64)
    else if nx + (np : Int) = 64 then rip5 h (wrd (fillX xb v nx o np) 0)
    else h
  else ripAll h v o (np / 64)
def wrX (xb : Vec 8) (nx : Int) (v : Vec 8) (o np : Nat) : Vec 8 :=
  if 0 < nx then
    if 64 - nx < (np : Int) then
      if 0 < np - (64 - nx).toNat - 64 * ((np - (64 - nx).toNat) / 64) then tlX (fillX xb v nx o (64 - nx).toNat) v (o + (64 - nx).toNat) (np - (64 - nx).toNat)
      else fillX xb v nx o (64 - nx).toNat
    else fillX xb v nx o np
  else if 0 < np - 64 * (np / 64) then tlX xb v o np else xb
def wrN (nx : Int) (np : Nat) : Int :=
  if 0 < nx then
    if 64 - nx < (np : Int) then (tlN (np - (64 - nx).toNat) : Nat)
    else if nx + (np : Int) = 64 then 0 else nx + (np : Int)
  else (tlN np : Nat)
structure c60D where
  h : W5
  xb : Vec 8
  nx : Int
  tc : BitVec 64
  v : Vec 8
  o : Nat
  np : Nat
def c60_rd (a : List AV) (K : List Blk) : Option c60D :=
    match a with
    | [(.ref (.ptr 0 (.c 0))), (.ref (.sl 1 (.s o) (.s np) none))] =>
      match K with
      | [⟨(.gen ((.num (.w32 h0)) :: (.num (.w32 h1)) :: (.num (.w32 h2)) :: (.num (.w32 h3)) :: (.num (.w32 h4)) :: ys_xb)), .own⟩, ⟨(.b8 v), .ro⟩] => 
        (match rd8 64 (ys_xb.take 64), ys_xb.drop 64 with
        | some xb, [(.num (.int .i64 (.s nx))), (.num (.w64 tc))] => some ⟨⟨h0, h1, h2, h3, h4⟩, xb, nx, tc, v, o, np⟩
        | _, _ => none)
      | _ => none
    | _ => none
def c60 : Ct c60D where
  pat := [(.ref (.ptr 0 (.c 0))), (.ref (.sl 1 (.s 0) (.s 0) none))]
  patH := [⟨(.gen ([(.num (.w32 0#32)), (.num (.w32 0#32)), (.num (.w32 0#32)), (.num (.w32 0#32)), (.num (.w32 0#32))] ++ List.replicate 64 (.num (.w8 0#8)) ++ [(.num (.int .i64 (.s 0))), (.num (.w64 0#64))])), .own⟩, ⟨(.b8 (Vec.zero 8 0)), .ro⟩]
  read := c60_rd
  args := fun ⟨_, _, _, _, _, o, np⟩ => [(.ref (.ptr 0 (.c 0))), (.ref (.sl 1 (.s o) (.s np) none))]
  heap := fun ⟨h, xb, nx, tc, v, _, _⟩ => [⟨(.gen ([(.num (.w32 h.x0)), (.num (.w32 h.x1)), (.num (.w32 h.x2)), (.num (.w32 h.x3)), (.num (.w32 h.x4))] ++ c8v xb 64 ++ [(.num (.int .i64 (.s nx))), (.num (.w64 tc))])), .own⟩, ⟨(.b8 v), .ro⟩]
  out := fun ⟨h, xb, nx, tc, v, o, np⟩ => [⟨(.gen ([(.num (.w32 ((wrH h xb nx v o np)).x0)), (.num (.w32 ((wrH h xb nx v o np)).x1)), (.num (.w32 ((wrH h xb nx v o np)).x2)), (.num (.w32 ((wrH h xb nx v o np)).x3)), (.num (.w32 ((wrH h xb nx v o np)).x4))] ++ c8v (wrX xb nx v o np) 64 ++ [(.num (.int .i64 (.s (wrN nx np)))), (.num (.w64 (tc + BitVec.ofInt 64 ((np : Nat) : Int))))])), .own⟩, ⟨(.b8 v), .ro⟩]
  val := fun ⟨_, _, _, _, _, _, np⟩ => (.obj .tup [(.num (.int .i64 (.s ((np : Nat) : Int)))), (.atom .nili)])
  good := fun ⟨_, _, nx, _, v, o, np⟩ => decide (0 ≤ nx ∧ nx < 64 ∧ o + np ≤ v.n ∧ np ≤ 1099511627776)
set_option maxRecDepth 100000 in
theorem c60_read (a : List AV) (K : List Blk) (d : c60D) (h : c60.read a K = some d) : a = c60.args d ∧ K = c60.heap d := by
  replace h : c60_rd a K = some d := h
  unfold c60_rd at h
  split at h
  case h_2 => cases h
  split at h
  case h_2 => cases h
  split at h
  case h_2 => cases h
  rename_i hr hd
  obtain ⟨he, _⟩ := rd8_eq hr
  have ht := (List.take_append_drop 64 _).symm.trans (congr (congrArg HAppend.hAppend he) hd)
  subst ht
  injection h with h; subst h
  exact ⟨rfl, rfl⟩
def o60A (h : W5) (xb : Vec 8) (nx : Int) (tc : BitVec 64) (v : Vec 8) (o np : Nat) : List Blk := [⟨.gen ([.w32 (ripAll h v o (np / 64)).x0, .w32 (ripAll h v o (np / 64)).x1, .w32 (ripAll h v o (np / 64)).x2, .w32 (ripAll h v o (np / 64)).x3, .w32 (ripAll h v o (np / 64)).x4] ++ c8v (tlX xb v o np) 64 ++ [.int .i64 (.s (tlN np : Nat)), .w64 (tc + BitVec.ofInt 64 ((np : Nat) : Int))]), .own⟩, ⟨.b8 v, .ro⟩]
def v60A (h : W5) (xb : Vec 8) (nx : Int) (tc : BitVec 64) (v : Vec 8) (o np : Nat) : AV := (.tup [.int .i64 (.s ((np : Nat) : Int)), .nili])
theorem r60A (h : W5) (xb : Vec 8) (nx : Int) (tc : BitVec 64) (v : Vec 8) (o np : Nat) : endsAs (c60.heap ⟨h, xb, nx, tc, v, o, np⟩).length (some [0, 1]) (o60A h xb nx tc v o np) (v60A h xb nx tc v o np) (goB specs60 w60s 60 (c60.args ⟨h, xb, nx, tc, v, o, np⟩) ⟨c60.heap ⟨h, xb, nx, tc, v, o, np⟩, big, [false, true], []⟩) = some ((o60A h xb nx tc v o np), (v60A h xb nx tc v o np), [decide (((5 : Nat) ≤ (5 + (((((0 : Nat) : Int)) : Int).toNat * 1)) ∧ ((5 + (((((0 : Nat) : Int)) : Int).toNat * 1)) + (Nat.min (((((np : Nat) : Int)) : Int).toNat - (((((64 * (np / 64)) : Nat) : Int)) : Int).toNat) (((((64 : Nat) : Int)) : Int).toNat - ((((0 : Nat) : Int)) : Int).toNat))) ≤ 69)), decide (((o + (((((64 * (np / 64)) : Nat) : Int)) : Int).toNat) + (Nat.min (((((np : Nat) : Int)) : Int).toNat - (((((64 * (np / 64)) : Nat) : Int)) : Int).toNat) (((((64 : Nat) : Int)) : Int).toNat - ((((0 : Nat) : Int)) : Int).toNat))) ≤ v.n), (decide ((0 : Int) < (((((((np : Nat) : Int)) : Int).toNat - (((((64 * (np / 64)) : Nat) : Int)) : Int).toNat) : Nat) : Int)) == true), ((decide ((0 : Int) ≤ (((64 * (np / 64)) : Nat) : Int)) && decide ((((64 * (np / 64)) : Nat) : Int) ≤ ((np : Nat) : Int))) && decide (((np : Nat) : Int) ≤ ((np : Nat) : Int))), decide (((o + np) ≤ v.n ∧ np ≤ 1099511627776)), (decide ((0 : Int) < nx) == false)]) := by kernel_rfl
def o60B (h : W5) (xb : Vec 8) (nx : Int) (tc : BitVec 64) (v : Vec 8) (o np : Nat) : List Blk := [⟨.gen ([.w32 (ripAll h v o (np / 64)).x0, .w32 (ripAll h v o (np / 64)).x1, .w32 (ripAll h v o (np / 64)).x2, .w32 (ripAll h v o (np / 64)).x3, .w32 (ripAll h v o (np / 64)).x4] ++ c8v xb 64 ++ [.int .i64 (.s nx), .w64 (tc + BitVec.ofInt 64 ((np : Nat) : Int))]), .own⟩, ⟨.b8 v, .ro⟩]
def v60B (h : W5) (xb : Vec 8) (nx : Int) (tc : BitVec 64) (v : Vec 8) (o np : Nat) : AV := (.tup [.int .i64 (.s ((np : Nat) : Int)), .nili])
theorem r60B (h : W5) (xb : Vec 8) (nx : Int) (tc : BitVec 64) (v : Vec 8) (o np : Nat) : endsAs (c60.heap ⟨h, xb, nx, tc, v, o, np⟩).length (some [0, 1]) (o60B h xb nx tc v o np) (v60B h xb nx tc v o np) (goB specs60 w60s 60 (c60.args ⟨h, xb, nx, tc, v, o, np⟩) ⟨c60.heap ⟨h, xb, nx, tc, v, o, np⟩, big, [false, false], []⟩) = some ((o60B h xb nx tc v o np), (v60B h xb nx tc v o np), [(decide ((0 : Int) < (((((((np : Nat) : Int)) : Int).toNat - (((((64 * (np / 64)) : Nat) : Int)) : Int).toNat) : Nat) : Int)) == false), ((decide ((0 : Int) ≤ (((64 * (np / 64)) : Nat) : Int)) && decide ((((64 * (np / 64)) : Nat) : Int) ≤ ((np : Nat) : Int))) && decide (((np : Nat) : Int) ≤ ((np : Nat) : Int))), decide (((o + np) ≤ v.n ∧ np ≤ 1099511627776)), (decide ((0 : Int) < nx) == false)]) := by kernel_rfl
def o60C (h : W5) (xb : Vec 8) (nx : Int) (tc : BitVec 64) (v : Vec 8) (o np : Nat) : List Blk := [⟨.gen ([.w32 (ripAll (rip5 (w60z h xb nx (tc + BitVec.ofInt 64 ((np : Nat) : Int)) v o np (64 - nx)).h (wrd (w60z h xb nx (tc + BitVec.ofInt 64 ((np : Nat) : Int)) v o np (64 - nx)).xb 0)) v ((w60z h xb nx (tc + BitVec.ofInt 64 ((np : Nat) : Int)) v o np (64 - nx)).o + (w60z h xb nx (tc + BitVec.ofInt 64 ((np : Nat) : Int)) v o np (64 - nx)).n.toNat) (((w60z h xb nx (tc + BitVec.ofInt 64 ((np : Nat) : Int)) v o np (64 - nx)).np - (w60z h xb nx (tc + BitVec.ofInt 64 ((np : Nat) : Int)) v o np (64 - nx)).n.toNat) / 64)).x0, .w32 (ripAll (rip5 (w60z h xb nx (tc + BitVec.ofInt 64 ((np : Nat) : Int)) v o np (64 - nx)).h (wrd (w60z h xb nx (tc + BitVec.ofInt 64 ((np : Nat) : Int)) v o np (64 - nx)).xb 0)) v ((w60z h xb nx (tc + BitVec.ofInt 64 ((np : Nat) : Int)) v o np (64 - nx)).o + (w60z h xb nx (tc + BitVec.ofInt 64 ((np : Nat) : Int)) v o np (64 - nx)).n.toNat) (((w60z h xb nx (tc + BitVec.ofInt 64 ((np : Nat) : Int)) v o np (64 - nx)).np - (w60z h xb nx (tc + BitVec.ofInt 64 ((np : Nat) : Int)) v o np (64 - nx)).n.toNat) / 64)).x1, .w32 (ripAll (rip5 (w60z h xb nx (tc + BitVec.ofInt 64 ((np : Nat) : Int)) v o np (64 - nx)).h (wrd (w60z h xb nx (tc + BitVec.ofInt 64 ((np : Nat) : Int)) v o np (64 - nx)).xb 0)) v ((w60z h xb nx (tc + BitVec.ofInt 64 ((np : Nat) : Int)) v o np (64 - nx)).o + (w60z h xb nx (tc + BitVec.ofInt 64 ((np : Nat) : Int)) v o np (64 - nx)).n.toNat) (((w60z h xb nx (tc + BitVec.ofInt 64 ((np : Nat) : Int)) v o np (64 - nx)).np - (w60z h xb nx (tc + BitVec.ofInt 64 ((np : Nat) : Int)) v o np (64 - nx)).n.toNat) / 64)).x2, .w32 (ripAll (rip5 (w60z h xb nx (tc + BitVec.ofInt 64 ((np : Nat) : Int)) v o np (64 - nx)).h (wrd (w60z h xb nx (tc + BitVec.ofInt 64 ((np : Nat) : Int)) v o np (64 - nx)).xb 0)) v ((w60z h xb nx (tc + BitVec.ofInt 64 ((np : Nat) : Int)) v o np (64 - nx)).o + (w60z h xb nx (tc + BitVec.ofInt 64 ((np : Nat) : Int)) v o np (64 - nx)).n.toNat) (((w60z h xb nx (tc + BitVec.ofInt 64 ((np : Nat) : Int)) v o np (64 - nx)).np - (w60z h xb nx (tc + BitVec.ofInt 64 ((np : Nat) : Int)) v o np (64 - nx)).n.toNat) / 64)).x3, .w32 (ripAll (rip5 (w60z h xb nx (tc + BitVec.ofInt 64 ((np : Nat) : Int)) v o np (64 - nx)).h (wrd (w60z h xb nx (tc + BitVec.ofInt 64 ((np : Nat) : Int)) v o np (64 - nx)).xb 0)) v ((w60z h xb nx (tc + BitVec.ofInt 64 ((np : Nat) : Int)) v o np (64 - nx)).o + (w60z h xb nx (tc + BitVec.ofInt 64 ((np : Nat) : Int)) v o np (64 - nx)).n.toNat) (((w60z h xb nx (tc + BitVec.ofInt 64 ((np : Nat) : Int)) v o np (64 - nx)).np - (w60z h xb nx (tc + BitVec.ofInt 64 ((np : Nat) : Int)) v o np (64 - nx)).n.toNat) / 64)).x4] ++ c8v (tlX (w60z h xb nx (tc + BitVec.ofInt 64 ((np : Nat) : Int)) v o np (64 - nx)).xb v ((w60z h xb nx (tc + BitVec.ofInt 64 ((np : Nat) : Int)) v o np (64 - nx)).o + (w60z h xb nx (tc + BitVec.ofInt 64 ((np : Nat) : Int)) v o np (64 - nx)).n.toNat) ((w60z h xb nx (tc + BitVec.ofInt 64 ((np : Nat) : Int)) v o np (64 - nx)).np - (w60z h xb nx (tc + BitVec.ofInt 64 ((np : Nat) : Int)) v o np (64 - nx)).n.toNat)) 64 ++ [.int .i64 (.s (tlN ((w60z h xb nx (tc + BitVec.ofInt 64 ((np : Nat) : Int)) v o np (64 - nx)).np - (w60z h xb nx (tc + BitVec.ofInt 64 ((np : Nat) : Int)) v o np (64 - nx)).n.toNat) : Nat)), .w64 (w60z h xb nx (tc + BitVec.ofInt 64 ((np : Nat) : Int)) v o np (64 - nx)).tc]), .own⟩, ⟨.b8 v, .ro⟩]
def v60C (h : W5) (xb : Vec 8) (nx : Int) (tc : BitVec 64) (v : Vec 8) (o np : Nat) : AV := (.tup [.int .i64 (.s (w60z h xb nx (tc + BitVec.ofInt 64 ((np : Nat) : Int)) v o np (64 - nx)).nn), .nili])
theorem r60C (h : W5) (xb : Vec 8) (nx : Int) (tc : BitVec 64) (v : Vec 8) (o np : Nat) : endsAs (c60.heap ⟨h, xb, nx, tc, v, o, np⟩).length (some [0, 1]) (o60C h xb nx tc v o np) (v60C h xb nx tc v o np) (goB specs60 w60s 60 (c60.args ⟨h, xb, nx, tc, v, o, np⟩) ⟨c60.heap ⟨h, xb, nx, tc, v, o, np⟩, big, [true, true, true, true], []⟩) = some ((o60C h xb nx tc v o np), (v60C h xb nx tc v o np), [decide (((5 : Nat) ≤ (5 + (((((0 : Nat) : Int)) : Int).toNat * 1)) ∧ ((5 + (((((0 : Nat) : Int)) : Int).toNat * 1)) + (Nat.min ((((((((((((w60z h xb nx (tc + BitVec.ofInt 64 ((np : Nat) : Int)) v o np (64 - nx))).np : Nat) : Int)) : Int).toNat - ((((w60z h xb nx (tc + BitVec.ofInt 64 ((np : Nat) : Int)) v o np (64 - nx))).n) : Int).toNat) : Nat) : Int)) : Int).toNat - (((((64 * ((((((((w60z h xb nx (tc + BitVec.ofInt 64 ((np : Nat) : Int)) v o np (64 - nx))).np : Nat) : Int)) : Int).toNat - ((((w60z h xb nx (tc + BitVec.ofInt 64 ((np : Nat) : Int)) v o np (64 - nx))).n) : Int).toNat) / 64)) : Nat) : Int)) : Int).toNat) (((((64 : Nat) : Int)) : Int).toNat - ((((0 : Nat) : Int)) : Int).toNat))) ≤ 69)), decide ((((((w60z h xb nx (tc + BitVec.ofInt 64 ((np : Nat) : Int)) v o np (64 - nx))).o + ((((w60z h xb nx (tc + BitVec.ofInt 64 ((np : Nat) : Int)) v o np (64 - nx))).n) : Int).toNat) + (((((64 * ((((((((w60z h xb nx (tc + BitVec.ofInt 64 ((np : Nat) : Int)) v o np (64 - nx))).np : Nat) : Int)) : Int).toNat - ((((w60z h xb nx (tc + BitVec.ofInt 64 ((np : Nat) : Int)) v o np (64 - nx))).n) : Int).toNat) / 64)) : Nat) : Int)) : Int).toNat) + (Nat.min ((((((((((((w60z h xb nx (tc + BitVec.ofInt 64 ((np : Nat) : Int)) v o np (64 - nx))).np : Nat) : Int)) : Int).toNat - ((((w60z h xb nx (tc + BitVec.ofInt 64 ((np : Nat) : Int)) v o np (64 - nx))).n) : Int).toNat) : Nat) : Int)) : Int).toNat - (((((64 * ((((((((w60z h xb nx (tc + BitVec.ofInt 64 ((np : Nat) : Int)) v o np (64 - nx))).np : Nat) : Int)) : Int).toNat - ((((w60z h xb nx (tc + BitVec.ofInt 64 ((np : Nat) : Int)) v o np (64 - nx))).n) : Int).toNat) / 64)) : Nat) : Int)) : Int).toNat) (((((64 : Nat) : Int)) : Int).toNat - ((((0 : Nat) : Int)) : Int).toNat))) ≤ v.n), (decide ((0 : Int) < ((((((((((((((w60z h xb nx (tc + BitVec.ofInt 64 ((np : Nat) : Int)) v o np (64 - nx))).np : Nat) : Int)) : Int).toNat - ((((w60z h xb nx (tc + BitVec.ofInt 64 ((np : Nat) : Int)) v o np (64 - nx))).n) : Int).toNat) : Nat) : Int)) : Int).toNat - (((((64 * ((((((((w60z h xb nx (tc + BitVec.ofInt 64 ((np : Nat) : Int)) v o np (64 - nx))).np : Nat) : Int)) : Int).toNat - ((((w60z h xb nx (tc + BitVec.ofInt 64 ((np : Nat) : Int)) v o np (64 - nx))).n) : Int).toNat) / 64)) : Nat) : Int)) : Int).toNat) : Nat) : Int)) == true), ((decide ((0 : Int) ≤ (((64 * ((((((((w60z h xb nx (tc + BitVec.ofInt 64 ((np : Nat) : Int)) v o np (64 - nx))).np : Nat) : Int)) : Int).toNat - ((((w60z h xb nx (tc + BitVec.ofInt 64 ((np : Nat) : Int)) v o np (64 - nx))).n) : Int).toNat) / 64)) : Nat) : Int)) && decide ((((64 * ((((((((w60z h xb nx (tc + BitVec.ofInt 64 ((np : Nat) : Int)) v o np (64 - nx))).np : Nat) : Int)) : Int).toNat - ((((w60z h xb nx (tc + BitVec.ofInt 64 ((np : Nat) : Int)) v o np (64 - nx))).n) : Int).toNat) / 64)) : Nat) : Int) ≤ (((((((((w60z h xb nx (tc + BitVec.ofInt 64 ((np : Nat) : Int)) v o np (64 - nx))).np : Nat) : Int)) : Int).toNat - ((((w60z h xb nx (tc + BitVec.ofInt 64 ((np : Nat) : Int)) v o np (64 - nx))).n) : Int).toNat) : Nat) : Int))) && decide ((((((((((w60z h xb nx (tc + BitVec.ofInt 64 ((np : Nat) : Int)) v o np (64 - nx))).np : Nat) : Int)) : Int).toNat - ((((w60z h xb nx (tc + BitVec.ofInt 64 ((np : Nat) : Int)) v o np (64 - nx))).n) : Int).toNat) : Nat) : Int) ≤ (((((((((w60z h xb nx (tc + BitVec.ofInt 64 ((np : Nat) : Int)) v o np (64 - nx))).np : Nat) : Int)) : Int).toNat - ((((w60z h xb nx (tc + BitVec.ofInt 64 ((np : Nat) : Int)) v o np (64 - nx))).n) : Int).toNat) : Nat) : Int))), decide ((((((w60z h xb nx (tc + BitVec.ofInt 64 ((np : Nat) : Int)) v o np (64 - nx))).o + ((((w60z h xb nx (tc + BitVec.ofInt 64 ((np : Nat) : Int)) v o np (64 - nx))).n) : Int).toNat) + (((((((w60z h xb nx (tc + BitVec.ofInt 64 ((np : Nat) : Int)) v o np (64 - nx))).np : Nat) : Int)) : Int).toNat - ((((w60z h xb nx (tc + BitVec.ofInt 64 ((np : Nat) : Int)) v o np (64 - nx))).n) : Int).toNat)) ≤ v.n ∧ (((((((w60z h xb nx (tc + BitVec.ofInt 64 ((np : Nat) : Int)) v o np (64 - nx))).np : Nat) : Int)) : Int).toNat - ((((w60z h xb nx (tc + BitVec.ofInt 64 ((np : Nat) : Int)) v o np (64 - nx))).n) : Int).toNat) ≤ 1099511627776)), ((decide ((0 : Int) ≤ ((w60z h xb nx (tc + BitVec.ofInt 64 ((np : Nat) : Int)) v o np (64 - nx))).n) && decide (((w60z h xb nx (tc + BitVec.ofInt 64 ((np : Nat) : Int)) v o np (64 - nx))).n ≤ ((((w60z h xb nx (tc + BitVec.ofInt 64 ((np : Nat) : Int)) v o np (64 - nx))).np : Nat) : Int))) && decide (((((w60z h xb nx (tc + BitVec.ofInt 64 ((np : Nat) : Int)) v o np (64 - nx))).np : Nat) : Int) ≤ ((((w60z h xb nx (tc + BitVec.ofInt 64 ((np : Nat) : Int)) v o np (64 - nx))).np : Nat) : Int))), decide (True), (((((w60z h xb nx (tc + BitVec.ofInt 64 ((np : Nat) : Int)) v o np (64 - nx))).nx + ((w60z h xb nx (tc + BitVec.ofInt 64 ((np : Nat) : Int)) v o np (64 - nx))).n) == 64) == true), decide (((-9223372036854775808) ≤ (((w60z h xb nx (tc + BitVec.ofInt 64 ((np : Nat) : Int)) v o np (64 - nx))).nx + ((w60z h xb nx (tc + BitVec.ofInt 64 ((np : Nat) : Int)) v o np (64 - nx))).n) ∧ (((w60z h xb nx (tc + BitVec.ofInt 64 ((np : Nat) : Int)) v o np (64 - nx))).nx + ((w60z h xb nx (tc + BitVec.ofInt 64 ((np : Nat) : Int)) v o np (64 - nx))).n) ≤ 9223372036854775807)), decide (((0 : Int) ≤ nx ∧ ((0 : Int) ≤ 0 ∧ ((0 : Int) ≤ (64 - nx) ∧ ((64 - nx) ≤ ((np : Nat) : Int) ∧ ((nx + (64 - nx)) ≤ 64 ∧ ((o + np) ≤ v.n ∧ np ≤ 1099511627776))))))), decide (((-9223372036854775808) ≤ (64 - nx) ∧ (64 - nx) ≤ 9223372036854775807)), (decide ((64 - nx) < ((np : Nat) : Int)) == true), decide (((-9223372036854775808) ≤ (64 - nx) ∧ (64 - nx) ≤ 9223372036854775807)), (decide ((0 : Int) < nx) == true)]) := by kernel_rfl
def o60D (h : W5) (xb : Vec 8) (nx : Int) (tc : BitVec 64) (v : Vec 8) (o np : Nat) : List Blk := [⟨.gen ([.w32 (ripAll (rip5 (w60z h xb nx (tc + BitVec.ofInt 64 ((np : Nat) : Int)) v o np (64 - nx)).h (wrd (w60z h xb nx (tc + BitVec.ofInt 64 ((np : Nat) : Int)) v o np (64 - nx)).xb 0)) v ((w60z h xb nx (tc + BitVec.ofInt 64 ((np : Nat) : Int)) v o np (64 - nx)).o + (w60z h xb nx (tc + BitVec.ofInt 64 ((np : Nat) : Int)) v o np (64 - nx)).n.toNat) (((w60z h xb nx (tc + BitVec.ofInt 64 ((np : Nat) : Int)) v o np (64 - nx)).np - (w60z h xb nx (tc + BitVec.ofInt 64 ((np : Nat) : Int)) v o np (64 - nx)).n.toNat) / 64)).x0, .w32 (ripAll (rip5 (w60z h xb nx (tc + BitVec.ofInt 64 ((np : Nat) : Int)) v o np (64 - nx)).h (wrd (w60z h xb nx (tc + BitVec.ofInt 64 ((np : Nat) : Int)) v o np (64 - nx)).xb 0)) v ((w60z h xb nx (tc + BitVec.ofInt 64 ((np : Nat) : Int)) v o np (64 - nx)).o + (w60z h xb nx (tc + BitVec.ofInt 64 ((np : Nat) : Int)) v o np (64 - nx)).n.toNat) (((w60z h xb nx (tc + BitVec.ofInt 64 ((np : Nat) : Int)) v o np (64 - nx)).np - (w60z h xb nx (tc + BitVec.ofInt 64 ((np : Nat) : Int)) v o np (64 - nx)).n.toNat) / 64)).x1, .w32 (ripAll (rip5 (w60z h xb nx (tc + BitVec.ofInt 64 ((np : Nat) : Int)) v o np (64 - nx)).h (wrd (w60z h xb nx (tc + BitVec.ofInt 64 ((np : Nat) : Int)) v o np (64 - nx)).xb 0)) v ((w60z h xb nx (tc + BitVec.ofInt 64 ((np : Nat) : Int)) v o np (64 - nx)).o + (w60z h xb nx (tc + BitVec.ofInt 64 ((np : Nat) : Int)) v o np (64 - nx)).n.toNat) (((w60z h xb nx (tc + BitVec.ofInt 64 ((np : Nat) : Int)) v o np (64 - nx)).np - (w60z h xb nx (tc + BitVec.ofInt 64 ((np : Nat) : Int)) v o np (64 - nx)).n.toNat) / 64)).x2, .w32 (ripAll (rip5 (w60z h xb nx (tc + BitVec.ofInt 64 ((np : Nat) : Int)) v o np (64 - nx)).h (wrd (w60z h xb nx (tc + BitVec.ofInt 64 ((np : Nat) : Int)) v o np (64 - nx)).xb 0)) v ((w60z h xb nx (tc + BitVec.ofInt 64 ((np : Nat) : Int)) v o np (64 - nx)).o + (w60z h xb nx (tc + BitVec.ofInt 64 ((np : Nat) : Int)) v o np (64 - nx)).n.toNat) (((w60z h xb nx (tc + BitVec.ofInt 64 ((np : Nat) : Int)) v o np (64 - nx)).np - (w60z h xb nx (tc + BitVec.ofInt 64 ((np : Nat) : Int)) v o np (64 - nx)).n.toNat) / 64)).x3, .w32 (ripAll (rip5 (w60z h xb nx (tc + BitVec.ofInt 64 ((np : Nat) : Int)) v o np (64 - nx)).h (wrd (w60z h xb nx (tc + BitVec.ofInt 64 ((np : Nat) : Int)) v o np (64 - nx)).xb 0)) v ((w60z h xb nx (tc + BitVec.ofInt 64 ((np : Nat) : Int)) v o np (64 - nx)).o + (w60z h xb nx (tc + BitVec.ofInt 64 ((np : Nat) : Int)) v o np (64 - nx)).n.toNat) (((w60z h xb nx (tc + BitVec.ofInt 64 ((np : Nat) : Int)) v o np (64 - nx)).np - (w60z h xb nx (tc + BitVec.ofInt 64 ((np : Nat) : Int)) v o np (64 - nx)).n.toNat) / 64)).x4] ++ c8v (w60z h xb nx (tc + BitVec.ofInt 64 ((np : Nat) : Int)) v o np (64 - nx)).xb 64 ++ [.int .i64 (.s (0 : Int)), .w64 (w60z h xb nx (tc + BitVec.ofInt 64 ((np : Nat) : Int)) v o np (64 - nx)).tc]), .own⟩, ⟨.b8 v, .ro⟩]
def v60D (h : W5) (xb : Vec 8) (nx : Int) (tc : BitVec 64) (v : Vec 8) (o np : Nat) : AV := (.tup [.int .i64 (.s (w60z h xb nx (tc + BitVec.ofInt 64 ((np : Nat) : Int)) v o np (64 - nx)).nn), .nili])
theorem r60D (h : W5) (xb : Vec 8) (nx : Int) (tc : BitVec 64) (v : Vec 8) (o np : Nat) : endsAs (c60.heap ⟨h, xb, nx, tc, v, o, np⟩).length (some [0, 1]) (o60D h xb nx tc v o np) (v60D h xb nx tc v o np) (goB specs60 w60s 60 (c60.args ⟨h, xb, nx, tc, v, o, np⟩) ⟨c60.heap ⟨h, xb, nx, tc, v, o, np⟩, big, [true, true, true, false], []⟩) = some ((o60D h xb nx tc v o np), (v60D h xb nx tc v o np), [(decide ((0 : Int) < ((((((((((((((w60z h xb nx (tc + BitVec.ofInt 64 ((np : Nat) : Int)) v o np (64 - nx))).np : Nat) : Int)) : Int).toNat - ((((w60z h xb nx (tc + BitVec.ofInt 64 ((np : Nat) : Int)) v o np (64 - nx))).n) : Int).toNat) : Nat) : Int)) : Int).toNat - (((((64 * ((((((((w60z h xb nx (tc + BitVec.ofInt 64 ((np : Nat) : Int)) v o np (64 - nx))).np : Nat) : Int)) : Int).toNat - ((((w60z h xb nx (tc + BitVec.ofInt 64 ((np : Nat) : Int)) v o np (64 - nx))).n) : Int).toNat) / 64)) : Nat) : Int)) : Int).toNat) : Nat) : Int)) == false), ((decide ((0 : Int) ≤ (((64 * ((((((((w60z h xb nx (tc + BitVec.ofInt 64 ((np : Nat) : Int)) v o np (64 - nx))).np : Nat) : Int)) : Int).toNat - ((((w60z h xb nx (tc + BitVec.ofInt 64 ((np : Nat) : Int)) v o np (64 - nx))).n) : Int).toNat) / 64)) : Nat) : Int)) && decide ((((64 * ((((((((w60z h xb nx (tc + BitVec.ofInt 64 ((np : Nat) : Int)) v o np (64 - nx))).np : Nat) : Int)) : Int).toNat - ((((w60z h xb nx (tc + BitVec.ofInt 64 ((np : Nat) : Int)) v o np (64 - nx))).n) : Int).toNat) / 64)) : Nat) : Int) ≤ (((((((((w60z h xb nx (tc + BitVec.ofInt 64 ((np : Nat) : Int)) v o np (64 - nx))).np : Nat) : Int)) : Int).toNat - ((((w60z h xb nx (tc + BitVec.ofInt 64 ((np : Nat) : Int)) v o np (64 - nx))).n) : Int).toNat) : Nat) : Int))) && decide ((((((((((w60z h xb nx (tc + BitVec.ofInt 64 ((np : Nat) : Int)) v o np (64 - nx))).np : Nat) : Int)) : Int).toNat - ((((w60z h xb nx (tc + BitVec.ofInt 64 ((np : Nat) : Int)) v o np (64 - nx))).n) : Int).toNat) : Nat) : Int) ≤ (((((((((w60z h xb nx (tc + BitVec.ofInt 64 ((np : Nat) : Int)) v o np (64 - nx))).np : Nat) : Int)) : Int).toNat - ((((w60z h xb nx (tc + BitVec.ofInt 64 ((np : Nat) : Int)) v o np (64 - nx))).n) : Int).toNat) : Nat) : Int))), decide ((((((w60z h xb nx (tc + BitVec.ofInt 64 ((np : Nat) : Int)) v o np (64 - nx))).o + ((((w60z h xb nx (tc + BitVec.ofInt 64 ((np : Nat) : Int)) v o np (64 - nx))).n) : Int).toNat) + (((((((w60z h xb nx (tc + BitVec.ofInt 64 ((np : Nat) : Int)) v o np (64 - nx))).np : Nat) : Int)) : Int).toNat - ((((w60z h xb nx (tc + BitVec.ofInt 64 ((np : Nat) : Int)) v o np (64 - nx))).n) : Int).toNat)) ≤ v.n ∧ (((((((w60z h xb nx (tc + BitVec.ofInt 64 ((np : Nat) : Int)) v o np (64 - nx))).np : Nat) : Int)) : Int).toNat - ((((w60z h xb nx (tc + BitVec.ofInt 64 ((np : Nat) : Int)) v o np (64 - nx))).n) : Int).toNat) ≤ 1099511627776)), ((decide ((0 : Int) ≤ ((w60z h xb nx (tc + BitVec.ofInt 64 ((np : Nat) : Int)) v o np (64 - nx))).n) && decide (((w60z h xb nx (tc + BitVec.ofInt 64 ((np : Nat) : Int)) v o np (64 - nx))).n ≤ ((((w60z h xb nx (tc + BitVec.ofInt 64 ((np : Nat) : Int)) v o np (64 - nx))).np : Nat) : Int))) && decide (((((w60z h xb nx (tc + BitVec.ofInt 64 ((np : Nat) : Int)) v o np (64 - nx))).np : Nat) : Int) ≤ ((((w60z h xb nx (tc + BitVec.ofInt 64 ((np : Nat) : Int)) v o np (64 - nx))).np : Nat) : Int))), decide (True), (((((w60z h xb nx (tc + BitVec.ofInt 64 ((np : Nat) : Int)) v o np (64 - nx))).nx + ((w60z h xb nx (tc + BitVec.ofInt 64 ((np : Nat) : Int)) v o np (64 - nx))).n) == 64) == true), decide (((-9223372036854775808) ≤ (((w60z h xb nx (tc + BitVec.ofInt 64 ((np : Nat) : Int)) v o np (64 - nx))).nx + ((w60z h xb nx (tc + BitVec.ofInt 64 ((np : Nat) : Int)) v o np (64 - nx))).n) ∧ (((w60z h xb nx (tc + BitVec.ofInt 64 ((np : Nat) : Int)) v o np (64 - nx))).nx + ((w60z h xb nx (tc + BitVec.ofInt 64 ((np : Nat) : Int)) v o np (64 - nx))).n) ≤ 9223372036854775807)), decide (((0 : Int) ≤ nx ∧ ((0 : Int) ≤ 0 ∧ ((0 : Int) ≤ (64 - nx) ∧ ((64 - nx) ≤ ((np : Nat) : Int) ∧ ((nx + (64 - nx)) ≤ 64 ∧ ((o + np) ≤ v.n ∧ np ≤ 1099511627776))))))), decide (((-9223372036854775808) ≤ (64 - nx) ∧ (64 - nx) ≤ 9223372036854775807)), (decide ((64 - nx) < ((np : Nat) : Int)) == true), decide (((-9223372036854775808) ≤ (64 - nx) ∧ (64 - nx) ≤ 9223372036854775807)), (decide ((0 : Int) < nx) == true)]) := by kernel_rfl
def o60E (h : W5) (xb : Vec 8) (nx : Int) (tc : BitVec 64) (v : Vec 8) (o np : Nat) : List Blk := [⟨.gen ([.w32 (ripAll (rip5 (w60z h xb nx (tc + BitVec.ofInt 64 ((np : Nat) : Int)) v o np ((np : Nat) : Int)).h (wrd (w60z h xb nx (tc + BitVec.ofInt 64 ((np : Nat) : Int)) v o np ((np : Nat) : Int)).xb 0)) v ((w60z h xb nx (tc + BitVec.ofInt 64 ((np : Nat) : Int)) v o np ((np : Nat) : Int)).o + (w60z h xb nx (tc + BitVec.ofInt 64 ((np : Nat) : Int)) v o np ((np : Nat) : Int)).n.toNat) (((w60z h xb nx (tc + BitVec.ofInt 64 ((np : Nat) : Int)) v o np ((np : Nat) : Int)).np - (w60z h xb nx (tc + BitVec.ofInt 64 ((np : Nat) : Int)) v o np ((np : Nat) : Int)).n.toNat) / 64)).x0, .w32 (ripAll (rip5 (w60z h xb nx (tc + BitVec.ofInt 64 ((np : Nat) : Int)) v o np ((np : Nat) : Int)).h (wrd (w60z h xb nx (tc + BitVec.ofInt 64 ((np : Nat) : Int)) v o np ((np : Nat) : Int)).xb 0)) v ((w60z h xb nx (tc + BitVec.ofInt 64 ((np : Nat) : Int)) v o np ((np : Nat) : Int)).o + (w60z h xb nx (tc + BitVec.ofInt 64 ((np : Nat) : Int)) v o np ((np : Nat) : Int)).n.toNat) (((w60z h xb nx (tc + BitVec.ofInt 64 ((np : Nat) : Int)) v o np ((np : Nat) : Int)).np - (w60z h xb nx (tc + BitVec.ofInt 64 ((np : Nat) : Int)) v o np ((np : Nat) : Int)).n.toNat) / 64)).x1, .w32 (ripAll (rip5 (w60z h xb nx (tc + BitVec.ofInt 64 ((np : Nat) : Int)) v o np ((np : Nat) : Int)).h (wrd (w60z h xb nx (tc + BitVec.ofInt 64 ((np : Nat) : Int)) v o np ((np : Nat) : Int)).xb 0)) v ((w60z h xb nx (tc + BitVec.ofInt 64 ((np : Nat) : Int)) v o np ((np : Nat) : Int)).o + (w60z h xb nx (tc + BitVec.ofInt 64 ((np : Nat) : Int)) v o np ((np : Nat) : Int)).n.toNat) (((w60z h xb nx (tc + BitVec.ofInt 64 ((np : Nat) : Int)) v o np ((np : Nat) : Int)).np - (w60z h xb nx (tc + BitVec.ofInt 64 ((np : Nat) : Int)) v o np ((np : Nat) : Int)).n.toNat) / 64)).x2, .w32 (ripAll (rip5 (w60z h xb nx (tc + BitVec.ofInt 64 ((np : Nat) : Int)) v o np ((np : Nat) : Int)).h (wrd (w60z h xb nx (tc + BitVec.ofInt 64 ((np : Nat) : Int)) v o np ((np : Nat) : Int)).xb 0)) v ((w60z h xb nx (tc + BitVec.ofInt 64 ((np : Nat) : Int)) v o np ((np : Nat) : Int)).o + (w60z h xb nx (tc + BitVec.ofInt 64 ((np : Nat) : Int)) v o np ((np : Nat) : Int)).n.toNat) (((w60z h xb nx (tc + BitVec.ofInt 64 ((np : Nat) : Int)) v o np ((np : Nat) : Int)).np - (w60z h xb nx (tc + BitVec.ofInt 64 ((np : Nat) : Int)) v o np ((np : Nat) : Int)).n.toNat) / 64)).x3, .w32 (ripAll (rip5 (w60z h xb nx (tc + BitVec.ofInt 64 ((np : Nat) : Int)) v o np ((np : Nat) : Int)).h (wrd (w60z h xb nx (tc + BitVec.ofInt 64 ((np : Nat) : Int)) v o np ((np : Nat) : Int)).xb 0)) v ((w60z h xb nx (tc + BitVec.ofInt 64 ((np : Nat) : Int)) v o np ((np : Nat) : Int)).o + (w60z h xb nx (tc + BitVec.ofInt 64 ((np : Nat) : Int)) v o np ((np : Nat) : Int)).n.toNat) (((w60z h xb nx (tc + BitVec.ofInt 64 ((np : Nat) : Int)) v o np ((np : Nat) : Int)).np - (w60z h xb nx (tc + BitVec.ofInt 64 ((np : Nat) : Int)) v o np ((np : Nat) : Int)).n.toNat) / 64)).x4] ++ c8v (w60z h xb nx (tc + BitVec.ofInt 64 ((np : Nat) : Int)) v o np ((np : Nat) : Int)).xb 64 ++ [.int .i64 (.s (0 : Int)), .w64 (w60z h xb nx (tc + BitVec.ofInt 64 ((np : Nat) : Int)) v o np ((np : Nat) : Int)).tc]), .own⟩, ⟨.b8 v, .ro⟩]
def v60E (h : W5) (xb : Vec 8) (nx : Int) (tc : BitVec 64) (v : Vec 8) (o np : Nat) : AV := (.tup [.int .i64 (.s (w60z h xb nx (tc + BitVec.ofInt 64 ((np : Nat) : Int)) v o np ((np : Nat) : Int)).nn), .nili])
theorem r60E (h : W5) (xb : Vec 8) (nx : Int) (tc : BitVec 64) (v : Vec 8) (o np : Nat) : endsAs (c60.heap ⟨h, xb, nx, tc, v, o, np⟩).length (some [0, 1]) (o60E h xb nx tc v o np) (v60E h xb nx tc v o np) (goB specs60 w60s 60 (c60.args ⟨h, xb, nx, tc, v, o, np⟩) ⟨c60.heap ⟨h, xb, nx, tc, v, o, np⟩, big, [true, false, true, false], []⟩) = some ((o60E h xb nx tc v o np), (v60E h xb nx tc v o np), [(decide ((0 : Int) < ((((((((((((((w60z h xb nx (tc + BitVec.ofInt 64 ((np : Nat) : Int)) v o np ((np : Nat) : Int))).np : Nat) : Int)) : Int).toNat - ((((w60z h xb nx (tc + BitVec.ofInt 64 ((np : Nat) : Int)) v o np ((np : Nat) : Int))).n) : Int).toNat) : Nat) : Int)) : Int).toNat - (((((64 * ((((((((w60z h xb nx (tc + BitVec.ofInt 64 ((np : Nat) : Int)) v o np ((np : Nat) : Int))).np : Nat) : Int)) : Int).toNat - ((((w60z h xb nx (tc + BitVec.ofInt 64 ((np : Nat) : Int)) v o np ((np : Nat) : Int))).n) : Int).toNat) / 64)) : Nat) : Int)) : Int).toNat) : Nat) : Int)) == false), ((decide ((0 : Int) ≤ (((64 * ((((((((w60z h xb nx (tc + BitVec.ofInt 64 ((np : Nat) : Int)) v o np ((np : Nat) : Int))).np : Nat) : Int)) : Int).toNat - ((((w60z h xb nx (tc + BitVec.ofInt 64 ((np : Nat) : Int)) v o np ((np : Nat) : Int))).n) : Int).toNat) / 64)) : Nat) : Int)) && decide ((((64 * ((((((((w60z h xb nx (tc + BitVec.ofInt 64 ((np : Nat) : Int)) v o np ((np : Nat) : Int))).np : Nat) : Int)) : Int).toNat - ((((w60z h xb nx (tc + BitVec.ofInt 64 ((np : Nat) : Int)) v o np ((np : Nat) : Int))).n) : Int).toNat) / 64)) : Nat) : Int) ≤ (((((((((w60z h xb nx (tc + BitVec.ofInt 64 ((np : Nat) : Int)) v o np ((np : Nat) : Int))).np : Nat) : Int)) : Int).toNat - ((((w60z h xb nx (tc + BitVec.ofInt 64 ((np : Nat) : Int)) v o np ((np : Nat) : Int))).n) : Int).toNat) : Nat) : Int))) && decide ((((((((((w60z h xb nx (tc + BitVec.ofInt 64 ((np : Nat) : Int)) v o np ((np : Nat) : Int))).np : Nat) : Int)) : Int).toNat - ((((w60z h xb nx (tc + BitVec.ofInt 64 ((np : Nat) : Int)) v o np ((np : Nat) : Int))).n) : Int).toNat) : Nat) : Int) ≤ (((((((((w60z h xb nx (tc + BitVec.ofInt 64 ((np : Nat) : Int)) v o np ((np : Nat) : Int))).np : Nat) : Int)) : Int).toNat - ((((w60z h xb nx (tc + BitVec.ofInt 64 ((np : Nat) : Int)) v o np ((np : Nat) : Int))).n) : Int).toNat) : Nat) : Int))), decide ((((((w60z h xb nx (tc + BitVec.ofInt 64 ((np : Nat) : Int)) v o np ((np : Nat) : Int))).o + ((((w60z h xb nx (tc + BitVec.ofInt 64 ((np : Nat) : Int)) v o np ((np : Nat) : Int))).n) : Int).toNat) + (((((((w60z h xb nx (tc + BitVec.ofInt 64 ((np : Nat) : Int)) v o np ((np : Nat) : Int))).np : Nat) : Int)) : Int).toNat - ((((w60z h xb nx (tc + BitVec.ofInt 64 ((np : Nat) : Int)) v o np ((np : Nat) : Int))).n) : Int).toNat)) ≤ v.n ∧ (((((((w60z h xb nx (tc + BitVec.ofInt 64 ((np : Nat) : Int)) v o np ((np : Nat) : Int))).np : Nat) : Int)) : Int).toNat - ((((w60z h xb nx (tc + BitVec.ofInt 64 ((np : Nat) : Int)) v o np ((np : Nat) : Int))).n) : Int).toNat) ≤ 1099511627776)), ((decide ((0 : Int) ≤ ((w60z h xb nx (tc + BitVec.ofInt 64 ((np : Nat) : Int)) v o np ((np : Nat) : Int))).n) && decide (((w60z h xb nx (tc + BitVec.ofInt 64 ((np : Nat) : Int)) v o np ((np : Nat) : Int))).n ≤ ((((w60z h xb nx (tc + BitVec.ofInt 64 ((np : Nat) : Int)) v o np ((np : Nat) : Int))).np : Nat) : Int))) && decide (((((w60z h xb nx (tc + BitVec.ofInt 64 ((np : Nat) : Int)) v o np ((np : Nat) : Int))).np : Nat) : Int) ≤ ((((w60z h xb nx (tc + BitVec.ofInt 64 ((np : Nat) : Int)) v o np ((np : Nat) : Int))).np : Nat) : Int))), decide (True), (((((w60z h xb nx (tc + BitVec.ofInt 64 ((np : Nat) : Int)) v o np ((np : Nat) : Int))).nx + ((w60z h xb nx (tc + BitVec.ofInt 64 ((np : Nat) : Int)) v o np ((np : Nat) : Int))).n) == 64) == true), decide (((-9223372036854775808) ≤ (((w60z h xb nx (tc + BitVec.ofInt 64 ((np : Nat) : Int)) v o np ((np : Nat) : Int))).nx + ((w60z h xb nx (tc + BitVec.ofInt 64 ((np : Nat) : Int)) v o np ((np : Nat) : Int))).n) ∧ (((w60z h xb nx (tc + BitVec.ofInt 64 ((np : Nat) : Int)) v o np ((np : Nat) : Int))).nx + ((w60z h xb nx (tc + BitVec.ofInt 64 ((np : Nat) : Int)) v o np ((np : Nat) : Int))).n) ≤ 9223372036854775807)), decide (((0 : Int) ≤ nx ∧ ((0 : Int) ≤ 0 ∧ ((0 : Int) ≤ ((np : Nat) : Int) ∧ (((np : Nat) : Int) ≤ ((np : Nat) : Int) ∧ ((nx + ((np : Nat) : Int)) ≤ 64 ∧ ((o + np) ≤ v.n ∧ np ≤ 1099511627776))))))), (decide ((64 - nx) < ((np : Nat) : Int)) == false), decide (((-9223372036854775808) ≤ (64 - nx) ∧ (64 - nx) ≤ 9223372036854775807)), (decide ((0 : Int) < nx) == true)]) := by kernel_rfl
def o60F (h : W5) (xb : Vec 8) (nx : Int) (tc : BitVec 64) (v : Vec 8) (o np : Nat) : List Blk := [⟨.gen ([.w32 (ripAll (w60z h xb nx (tc + BitVec.ofInt 64 ((np : Nat) : Int)) v o np ((np : Nat) : Int)).h v ((w60z h xb nx (tc + BitVec.ofInt 64 ((np : Nat) : Int)) v o np ((np : Nat) : Int)).o + (w60z h xb nx (tc + BitVec.ofInt 64 ((np : Nat) : Int)) v o np ((np : Nat) : Int)).n.toNat) (((w60z h xb nx (tc + BitVec.ofInt 64 ((np : Nat) : Int)) v o np ((np : Nat) : Int)).np - (w60z h xb nx (tc + BitVec.ofInt 64 ((np : Nat) : Int)) v o np ((np : Nat) : Int)).n.toNat) / 64)).x0, .w32 (ripAll (w60z h xb nx (tc + BitVec.ofInt 64 ((np : Nat) : Int)) v o np ((np : Nat) : Int)).h v ((w60z h xb nx (tc + BitVec.ofInt 64 ((np : Nat) : Int)) v o np ((np : Nat) : Int)).o + (w60z h xb nx (tc + BitVec.ofInt 64 ((np : Nat) : Int)) v o np ((np : Nat) : Int)).n.toNat) (((w60z h xb nx (tc + BitVec.ofInt 64 ((np : Nat) : Int)) v o np ((np : Nat) : Int)).np - (w60z h xb nx (tc + BitVec.ofInt 64 ((np : Nat) : Int)) v o np ((np : Nat) : Int)).n.toNat) / 64)).x1, .w32 (ripAll (w60z h xb nx (tc + BitVec.ofInt 64 ((np : Nat) : Int)) v o np ((np : Nat) : Int)).h v ((w60z h xb nx (tc + BitVec.ofInt 64 ((np : Nat) : Int)) v o np ((np : Nat) : Int)).o + (w60z h xb nx (tc + BitVec.ofInt 64 ((np : Nat) : Int)) v o np ((np : Nat) : Int)).n.toNat) (((w60z h xb nx (tc + BitVec.ofInt 64 ((np : Nat) : Int)) v o np ((np : Nat) : Int)).np - (w60z h xb nx (tc + BitVec.ofInt 64 ((np : Nat) : Int)) v o np ((np : Nat) : Int)).n.toNat) / 64)).x2, .w32 (ripAll (w60z h xb nx (tc + BitVec.ofInt 64 ((np : Nat) : Int)) v o np ((np : Nat) : Int)).h v ((w60z h xb nx (tc + BitVec.ofInt 64 ((np : Nat) : Int)) v o np ((np : Nat) : Int)).o + (w60z h xb nx (tc + BitVec.ofInt 64 ((np : Nat) : Int)) v o np ((np : Nat) : Int)).n.toNat) (((w60z h xb nx (tc + BitVec.ofInt 64 ((np : Nat) : Int)) v o np ((np : Nat) : Int)).np - (w60z h xb nx (tc + BitVec.ofInt 64 ((np : Nat) : Int)) v o np ((np : Nat) : Int)).n.toNat) / 64)).x3, .w32 (ripAll (w60z h xb nx (tc + BitVec.ofInt 64 ((np : Nat) : Int)) v o np ((np : Nat) : Int)).h v ((w60z h xb nx (tc + BitVec.ofInt 64 ((np : Nat) : Int)) v o np ((np : Nat) : Int)).o + (w60z h xb nx (tc + BitVec.ofInt 64 ((np : Nat) : Int)) v o np ((np : Nat) : Int)).n.toNat) (((w60z h xb nx (tc + BitVec.ofInt 64 ((np : Nat) : Int)) v o np ((np : Nat) : Int)).np - (w60z h xb nx (tc + BitVec.ofInt 64 ((np : Nat) : Int)) v o np ((np : Nat) : Int)).n.toNat) / 64)).x4] ++ c8v (w60z h xb nx (tc + BitVec.ofInt 64 ((np : Nat) : Int)) v o np ((np : Nat) : Int)).xb 64 ++ [.int .i64 (.s ((w60z h xb nx (tc + BitVec.ofInt 64 ((np : Nat) : Int)) v o np ((np : Nat) : Int)).nx + (w60z h xb nx (tc + BitVec.ofInt 64 ((np : Nat) : Int)) v o np ((np : Nat) : Int)).n)), .w64 (w60z h xb nx (tc + BitVec.ofInt 64 ((np : Nat) : Int)) v o np ((np : Nat) : Int)).tc]), .own⟩, ⟨.b8 v, .ro⟩]
def v60F (h : W5) (xb : Vec 8) (nx : Int) (tc : BitVec 64) (v : Vec 8) (o np : Nat) : AV := (.tup [.int .i64 (.s (w60z h xb nx (tc + BitVec.ofInt 64 ((np : Nat) : Int)) v o np ((np : Nat) : Int)).nn), .nili])
theorem r60F (h : W5) (xb : Vec 8) (nx : Int) (tc : BitVec 64) (v : Vec 8) (o np : Nat) : endsAs (c60.heap ⟨h, xb, nx, tc, v, o, np⟩).length (some [0, 1]) (o60F h xb nx tc v o np) (v60F h xb nx tc v o np) (goB specs60 w60s 60 (c60.args ⟨h, xb, nx, tc, v, o, np⟩) ⟨c60.heap ⟨h, xb, nx, tc, v, o, np⟩, big, [true, false, false, false], []⟩) = some ((o60F h xb nx tc v o np), (v60F h xb nx tc v o np), [(decide ((0 : Int) < ((((((((((((((w60z h xb nx (tc + BitVec.ofInt 64 ((np : Nat) : Int)) v o np ((np : Nat) : Int))).np : Nat) : Int)) : Int).toNat - ((((w60z h xb nx (tc + BitVec.ofInt 64 ((np : Nat) : Int)) v o np ((np : Nat) : Int))).n) : Int).toNat) : Nat) : Int)) : Int).toNat - (((((64 * ((((((((w60z h xb nx (tc + BitVec.ofInt 64 ((np : Nat) : Int)) v o np ((np : Nat) : Int))).np : Nat) : Int)) : Int).toNat - ((((w60z h xb nx (tc + BitVec.ofInt 64 ((np : Nat) : Int)) v o np ((np : Nat) : Int))).n) : Int).toNat) / 64)) : Nat) : Int)) : Int).toNat) : Nat) : Int)) == false), ((decide ((0 : Int) ≤ (((64 * ((((((((w60z h xb nx (tc + BitVec.ofInt 64 ((np : Nat) : Int)) v o np ((np : Nat) : Int))).np : Nat) : Int)) : Int).toNat - ((((w60z h xb nx (tc + BitVec.ofInt 64 ((np : Nat) : Int)) v o np ((np : Nat) : Int))).n) : Int).toNat) / 64)) : Nat) : Int)) && decide ((((64 * ((((((((w60z h xb nx (tc + BitVec.ofInt 64 ((np : Nat) : Int)) v o np ((np : Nat) : Int))).np : Nat) : Int)) : Int).toNat - ((((w60z h xb nx (tc + BitVec.ofInt 64 ((np : Nat) : Int)) v o np ((np : Nat) : Int))).n) : Int).toNat) / 64)) : Nat) : Int) ≤ (((((((((w60z h xb nx (tc + BitVec.ofInt 64 ((np : Nat) : Int)) v o np ((np : Nat) : Int))).np : Nat) : Int)) : Int).toNat - ((((w60z h xb nx (tc + BitVec.ofInt 64 ((np : Nat) : Int)) v o np ((np : Nat) : Int))).n) : Int).toNat) : Nat) : Int))) && decide ((((((((((w60z h xb nx (tc + BitVec.ofInt 64 ((np : Nat) : Int)) v o np ((np : Nat) : Int))).np : Nat) : Int)) : Int).toNat - ((((w60z h xb nx (tc + BitVec.ofInt 64 ((np : Nat) : Int)) v o np ((np : Nat) : Int))).n) : Int).toNat) : Nat) : Int) ≤ (((((((((w60z h xb nx (tc + BitVec.ofInt 64 ((np : Nat) : Int)) v o np ((np : Nat) : Int))).np : Nat) : Int)) : Int).toNat - ((((w60z h xb nx (tc + BitVec.ofInt 64 ((np : Nat) : Int)) v o np ((np : Nat) : Int))).n) : Int).toNat) : Nat) : Int))), decide ((((((w60z h xb nx (tc + BitVec.ofInt 64 ((np : Nat) : Int)) v o np ((np : Nat) : Int))).o + ((((w60z h xb nx (tc + BitVec.ofInt 64 ((np : Nat) : Int)) v o np ((np : Nat) : Int))).n) : Int).toNat) + (((((((w60z h xb nx (tc + BitVec.ofInt 64 ((np : Nat) : Int)) v o np ((np : Nat) : Int))).np : Nat) : Int)) : Int).toNat - ((((w60z h xb nx (tc + BitVec.ofInt 64 ((np : Nat) : Int)) v o np ((np : Nat) : Int))).n) : Int).toNat)) ≤ v.n ∧ (((((((w60z h xb nx (tc + BitVec.ofInt 64 ((np : Nat) : Int)) v o np ((np : Nat) : Int))).np : Nat) : Int)) : Int).toNat - ((((w60z h xb nx (tc + BitVec.ofInt 64 ((np : Nat) : Int)) v o np ((np : Nat) : Int))).n) : Int).toNat) ≤ 1099511627776)), ((decide ((0 : Int) ≤ ((w60z h xb nx (tc + BitVec.ofInt 64 ((np : Nat) : Int)) v o np ((np : Nat) : Int))).n) && decide (((w60z h xb nx (tc + BitVec.ofInt 64 ((np : Nat) : Int)) v o np ((np : Nat) : Int))).n ≤ ((((w60z h xb nx (tc + BitVec.ofInt 64 ((np : Nat) : Int)) v o np ((np : Nat) : Int))).np : Nat) : Int))) && decide (((((w60z h xb nx (tc + BitVec.ofInt 64 ((np : Nat) : Int)) v o np ((np : Nat) : Int))).np : Nat) : Int) ≤ ((((w60z h xb nx (tc + BitVec.ofInt 64 ((np : Nat) : Int)) v o np ((np : Nat) : Int))).np : Nat) : Int))), (((((w60z h xb nx (tc + BitVec.ofInt 64 ((np : Nat) : Int)) v o np ((np : Nat) : Int))).nx + ((w60z h xb nx (tc + BitVec.ofInt 64 ((np : Nat) : Int)) v o np ((np : Nat) : Int))).n) == 64) == false), decide (((-9223372036854775808) ≤ (((w60z h xb nx (tc + BitVec.ofInt 64 ((np : Nat) : Int)) v o np ((np : Nat) : Int))).nx + ((w60z h xb nx (tc + BitVec.ofInt 64 ((np : Nat) : Int)) v o np ((np : Nat) : Int))).n) ∧ (((w60z h xb nx (tc + BitVec.ofInt 64 ((np : Nat) : Int)) v o np ((np : Nat) : Int))).nx + ((w60z h xb nx (tc + BitVec.ofInt 64 ((np : Nat) : Int)) v o np ((np : Nat) : Int))).n) ≤ 9223372036854775807)), decide (((0 : Int) ≤ nx ∧ ((0 : Int) ≤ 0 ∧ ((0 : Int) ≤ ((np : Nat) : Int) ∧ (((np : Nat) : Int) ≤ ((np : Nat) : Int) ∧ ((nx + ((np : Nat) : Int)) ≤ 64 ∧ ((o + np) ≤ v.n ∧ np ≤ 1099511627776))))))), (decide ((64 - nx) < ((np : Nat) : Int)) == false), decide (((-9223372036854775808) ≤ (64 - nx) ∧ (64 - nx) ≤ 9223372036854775807)), (decide ((0 : Int) < nx) == true)]) := by kernel_rfl
theorem c60_ok : SpecOk Tryd.prog noGlob 60 c60.spec := by
  refine c60.ok (goB_ok specs60_ok (w60s_ok _)) c60_read ?_
  rintro ⟨h, xb, nx, tc, v, o, np⟩ hg
  have hg : 0 ≤ nx ∧ nx < 64 ∧ o + np ≤ v.n ∧ np ≤ 1099511627776 := of_decide_eq_true hg
  have hmin : ∀ a b, Nat.min a b = min a b := fun _ _ => rfl
  by_cases h1 : 0 < nx
  · by_cases h2 : 64 - nx < (np : Int)
    · by_cases h3 : 0 < np - (64 - nx).toNat - 64 * ((np - (64 - nx).toNat) / 64)
      · have z := w60z_eq h xb nx (tc + BitVec.ofInt 64 ((np : Nat) : Int)) v o np (64 - nx)
        have eo : c60.out ⟨h, xb, nx, tc, v, o, np⟩ = o60C h xb nx tc v o np := by
          show ([⟨.gen ([.w32 (wrH h xb nx v o np).x0, .w32 (wrH h xb nx v o np).x1, .w32 (wrH h xb nx v o np).x2, .w32 (wrH h xb nx v o np).x3, .w32 (wrH h xb nx v o np).x4] ++ c8v (wrX xb nx v o np) 64 ++ [.int .i64 (.s (wrN nx np)), .w64 (tc + BitVec.ofInt 64 ((np : Nat) : Int))]), .own⟩, ⟨.b8 v, .ro⟩] : List Blk) = _
          unfold wrH wrX wrN o60C
          simp only [if_pos h1, if_pos h2, if_pos h3]
          rw [z]
          try rfl
        have ev : c60.val ⟨h, xb, nx, tc, v, o, np⟩ = v60C h xb nx tc v o np := by
          unfold v60C
          rw [z]
          rfl
        rw [eo, ev]
        refine ⟨[true, true, true, true], some [0, 1], _, r60C h xb nx tc v o np, ?_⟩
        repeat' (refine all_true_cons ?_ ?_)
        all_goals first | exact all_true_nil | (simp only [z, Bool.and_eq_true, decide_eq_true_eq, beq_iff_eq, beq_true, beq_false, Bool.not_eq_true', decide_eq_false_iff_not, beq_eq_false_iff_ne, ne_eq, Bool.not_eq_false', bne_iff_ne, true_and, and_true, hmin] <;> omega)
      · have z := w60z_eq h xb nx (tc + BitVec.ofInt 64 ((np : Nat) : Int)) v o np (64 - nx)
        have eo : c60.out ⟨h, xb, nx, tc, v, o, np⟩ = o60D h xb nx tc v o np := by
          show ([⟨.gen ([.w32 (wrH h xb nx v o np).x0, .w32 (wrH h xb nx v o np).x1, .w32 (wrH h xb nx v o np).x2, .w32 (wrH h xb nx v o np).x3, .w32 (wrH h xb nx v o np).x4] ++ c8v (wrX xb nx v o np) 64 ++ [.int .i64 (.s (wrN nx np)), .w64 (tc + BitVec.ofInt 64 ((np : Nat) : Int))]), .own⟩, ⟨.b8 v, .ro⟩] : List Blk) = _
          unfold wrH wrX wrN o60D
          simp only [if_pos h1, if_pos h2, if_neg h3, tlN_zero _ h3]
          rw [z]
          try rfl
        have ev : c60.val ⟨h, xb, nx, tc, v, o, np⟩ = v60D h xb nx tc v o np := by
          unfold v60D
          rw [z]
          rfl
        rw [eo, ev]
        refine ⟨[true, true, true, false], some [0, 1], _, r60D h xb nx tc v o np, ?_⟩
        repeat' (refine all_true_cons ?_ ?_)
        all_goals first | exact all_true_nil | (simp only [z, Bool.and_eq_true, decide_eq_true_eq, beq_iff_eq, beq_true, beq_false, Bool.not_eq_true', decide_eq_false_iff_not, beq_eq_false_iff_ne, ne_eq, Bool.not_eq_false', bne_iff_ne, true_and, and_true, hmin] <;> omega)
    · by_cases h3 : nx + (np : Int) = 64
      · have z := w60z_eq h xb nx (tc + BitVec.ofInt 64 ((np : Nat) : Int)) v o np ((np : Nat) : Int)
        have eo : c60.out ⟨h, xb, nx, tc, v, o, np⟩ = o60E h xb nx tc v o np := by
          show ([⟨.gen ([.w32 (wrH h xb nx v o np).x0, .w32 (wrH h xb nx v o np).x1, .w32 (wrH h xb nx v o np).x2, .w32 (wrH h xb nx v o np).x3, .w32 (wrH h xb nx v o np).x4] ++ c8v (wrX xb nx v o np) 64 ++ [.int .i64 (.s (wrN nx np)), .w64 (tc + BitVec.ofInt 64 ((np : Nat) : Int))]), .own⟩, ⟨.b8 v, .ro⟩] : List Blk) = _
          unfold wrH wrX wrN o60E
          simp only [if_pos h1, if_neg h2, if_pos h3]
          rw [z]
          rw [show (⟨h, fillX xb v nx o ((np : Nat) : Int).toNat, nx, (tc + BitVec.ofInt 64 ((np : Nat) : Int)), v, o, np, ((np : Nat) : Int), ((np : Nat) : Int), (((np : Nat) : Int).toNat : Int)⟩ : w60D).np - Int.toNat (⟨h, fillX xb v nx o ((np : Nat) : Int).toNat, nx, (tc + BitVec.ofInt 64 ((np : Nat) : Int)), v, o, np, ((np : Nat) : Int), ((np : Nat) : Int), (((np : Nat) : Int).toNat : Int)⟩ : w60D).n = 0 from Nat.sub_self np]
          try rfl
        have ev : c60.val ⟨h, xb, nx, tc, v, o, np⟩ = v60E h xb nx tc v o np := by
          unfold v60E
          rw [z]
          rfl
        rw [eo, ev]
        refine ⟨[true, false, true, false], some [0, 1], _, r60E h xb nx tc v o np, ?_⟩
        repeat' (refine all_true_cons ?_ ?_)
        all_goals first | exact all_true_nil | (simp only [z, Bool.and_eq_true, decide_eq_true_eq, beq_iff_eq, beq_true, beq_false, Bool.not_eq_true', decide_eq_false_iff_not, beq_eq_false_iff_ne, ne_eq, Bool.not_eq_false', bne_iff_ne, true_and, and_true, hmin] <;> omega)
      · have z := w60z_eq h xb nx (tc + BitVec.ofInt 64 ((np : Nat) : Int)) v o np ((np : Nat) : Int)
        have eo : c60.out ⟨h, xb, nx, tc, v, o, np⟩ = o60F h xb nx tc v o np := by
          show ([⟨.gen ([.w32 (wrH h xb nx v o np).x0, .w32 (wrH h xb nx v o np).x1, .w32 (wrH h xb nx v o np).x2, .w32 (wrH h xb nx v o np).x3, .w32 (wrH h xb nx v o np).x4] ++ c8v (wrX xb nx v o np) 64 ++ [.int .i64 (.s (wrN nx np)), .w64 (tc + BitVec.ofInt 64 ((np : Nat) : Int))]), .own⟩, ⟨.b8 v, .ro⟩] : List Blk) = _
          unfold wrH wrX wrN o60F
          simp only [if_pos h1, if_neg h2, if_neg h3]
          rw [z]
          rw [show (⟨h, fillX xb v nx o ((np : Nat) : Int).toNat, nx, (tc + BitVec.ofInt 64 ((np : Nat) : Int)), v, o, np, ((np : Nat) : Int), ((np : Nat) : Int), (((np : Nat) : Int).toNat : Int)⟩ : w60D).np - Int.toNat (⟨h, fillX xb v nx o ((np : Nat) : Int).toNat, nx, (tc + BitVec.ofInt 64 ((np : Nat) : Int)), v, o, np, ((np : Nat) : Int), ((np : Nat) : Int), (((np : Nat) : Int).toNat : Int)⟩ : w60D).n = 0 from Nat.sub_self np]
          try rfl
        have ev : c60.val ⟨h, xb, nx, tc, v, o, np⟩ = v60F h xb nx tc v o np := by
          unfold v60F
          rw [z]
          rfl
        rw [eo, ev]
        refine ⟨[true, false, false, false], some [0, 1], _, r60F h xb nx tc v o np, ?_⟩
        repeat' (refine all_true_cons ?_ ?_)
        all_goals first | exact all_true_nil | (simp only [z, Bool.and_eq_true, decide_eq_true_eq, beq_iff_eq, beq_true, beq_false, Bool.not_eq_true', decide_eq_false_iff_not, beq_eq_false_iff_ne, ne_eq, Bool.not_eq_false', bne_iff_ne, true_and, and_true, hmin] <;> omega)
  · by_cases h3 : 0 < np - 64 * (np / 64)
    · have eo : c60.out ⟨h, xb, nx, tc, v, o, np⟩ = o60A h xb nx tc v o np := by
        show ([⟨.gen ([.w32 (wrH h xb nx v o np).x0, .w32 (wrH h xb nx v o np).x1, .w32 (wrH h xb nx v o np).x2, .w32 (wrH h xb nx v o np).x3, .w32 (wrH h xb nx v o np).x4] ++ c8v (wrX xb nx v o np) 64 ++ [.int .i64 (.s (wrN nx np)), .w64 (tc + BitVec.ofInt 64 ((np : Nat) : Int))]), .own⟩, ⟨.b8 v, .ro⟩] : List Blk) = _
        unfold wrH wrX wrN o60A
        simp only [if_neg h1, if_pos h3]
        try rfl
      have ev : c60.val ⟨h, xb, nx, tc, v, o, np⟩ = v60A h xb nx tc v o np := by
        rfl
      rw [eo, ev]
      refine ⟨[false, true], some [0, 1], _, r60A h xb nx tc v o np, ?_⟩
      repeat' (refine all_true_cons ?_ ?_)
      all_goals first | exact all_true_nil | (simp only [Bool.and_eq_true, decide_eq_true_eq, beq_iff_eq, beq_true, beq_false, Bool.not_eq_true', decide_eq_false_iff_not, beq_eq_false_iff_ne, ne_eq, Bool.not_eq_false', bne_iff_ne, true_and, and_true, hmin] <;> omega)
    · have hx : nx = 0 := by omega
      subst hx
      have eo : c60.out ⟨h, xb, (0 : Int), tc, v, o, np⟩ = o60B h xb (0 : Int) tc v o np := by
        show ([⟨.gen ([.w32 (wrH h xb (0 : Int) v o np).x0, .w32 (wrH h xb (0 : Int) v o np).x1, .w32 (wrH h xb (0 : Int) v o np).x2, .w32 (wrH h xb (0 : Int) v o np).x3, .w32 (wrH h xb (0 : Int) v o np).x4] ++ c8v (wrX xb (0 : Int) v o np) 64 ++ [.int .i64 (.s (wrN (0 : Int) np)), .w64 (tc + BitVec.ofInt 64 ((np : Nat) : Int))]), .own⟩, ⟨.b8 v, .ro⟩] : List Blk) = _
        unfold wrH wrX wrN o60B
        simp only [if_neg h1, if_neg h3, tlN_zero _ h3]
        try rfl
      have ev : c60.val ⟨h, xb, (0 : Int), tc, v, o, np⟩ = v60B h xb (0 : Int) tc v o np := by
        rfl
      rw [eo, ev]
      refine ⟨[false, false], some [0, 1], _, r60B h xb (0 : Int) tc v o np, ?_⟩
      repeat' (refine all_true_cons ?_ ?_)
      all_goals first | exact all_true_nil | (simp only [Bool.and_eq_true, decide_eq_true_eq, beq_iff_eq, beq_true, beq_false, Bool.not_eq_true', decide_eq_false_iff_not, beq_eq_false_iff_ne, ne_eq, Bool.not_eq_false', bne_iff_ne, true_and, and_true, hmin] <;> omega)
end Go.Proofs.YtaklljigoajpcaaDoor

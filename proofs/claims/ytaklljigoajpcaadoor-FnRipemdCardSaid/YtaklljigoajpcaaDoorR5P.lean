/- Bytes filled up to whole blocks. -/
import Derived.Test.YtaklljigoajpcaaDoorR5J
namespace Go.Proofs.YtaklljigoajpcaaDoor.B
open Go.Eng
set_option linter.unusedSectionVars false
variable [RowAddr]
set_option linter.unusedSimpArgs false
set_option linter.unusedVariables false
structure p19D where
  v : Vec 8
  u : Vec 8
  o : Nat
  np : Nat
  k : Nat
def p19_st0 (d : p19D) : Fr × List Blk :=
  match d with
  | ⟨v, u, o, np, k⟩ => (⟨[(.ref (.sl 0 (.s o) (.s np) none)), (.atom .undef), (.atom .undef), (.ref (.sl 3 (.c 0) (.s k) none)), (.atom .undef)], []⟩, [⟨(.b8 v), .ro⟩, ⟨(.gen []), .dead⟩, ⟨(.gen []), .dead⟩, ⟨(.b8 u), .own⟩])
def p19_st (d : p19D) : Fr × List Blk :=
  match d with
  | ⟨v, u, o, np, k⟩ => (⟨[(.ref (.sl 0 (.s o) (.s np) none)), (.atom .undef), (.atom .undef), (.ref (.sl 4 (.c 0) (.s k) none)), (.atom .undef)], []⟩, [⟨(.b8 v), .ro⟩, ⟨(.gen []), .dead⟩, ⟨(.gen []), .dead⟩, ⟨(.gen []), .dead⟩, ⟨(.b8 u), .own⟩])
def p19_next (d : p19D) : p19D :=
  match d with
  | ⟨v, u, o, np, k⟩ => ⟨v, u.app (Vec.of [0#8]), o, np, k + 1⟩
def p19_rd (F : Fr) (K : List Blk) : Option p19D :=
    match F with
    | ⟨[(.ref (.sl 0 (.s o) (.s np) none)), (.atom .undef), (.atom .undef), (.ref (.sl 3 (.c 0) (.s k) none)), (.atom .undef)], []⟩ =>
      match K with
      | [⟨(.b8 v), .ro⟩, ⟨(.gen []), .dead⟩, ⟨(.gen []), .dead⟩, ⟨(.b8 u), .own⟩] => some ⟨v, u, o, np, k⟩
      | _ => none
    | _ => none
def p19 : LoopP p19D where
  pat := ⟨[(.ref (.sl 0 (.s 0) (.s 0) none)), (.atom .undef), (.atom .undef), (.ref (.sl 3 (.c 0) (.s 0) none)), (.atom .undef)], []⟩
  patH := [⟨(.b8 (Vec.zero 8 0)), .ro⟩, ⟨(.gen []), .dead⟩, ⟨(.gen []), .dead⟩, ⟨(.b8 (Vec.zero 8 0)), .own⟩]
  gh := []
  read := p19_rd
  st := p19_st
  next := p19_next
  rem := fun ⟨_, _, _, _, k⟩ => (120 - k % 64) % 64
  good := fun ⟨_, u, _, _, k⟩ => decide (k = u.n ∧ k + (120 - k % 64) % 64 ≤ 1000000000000)
  out := .exit 0
  fin := p19_st
theorem p19_round (v u : Vec 8) (o np k : Nat) : ranAs 4 (some [0,1,2,3,6]) (p19.st (p19_next ⟨v, u, o, np, k⟩)) (goL noSpec noLoop 19 0 (p19.st ⟨v, u, o, np, k⟩).1 ⟨(p19.st ⟨v, u, o, np, k⟩).2, big, [true], []⟩) = some (.normal, (p19.st (p19_next ⟨v, u, o, np, k⟩)), [(true && (k == u.n)), decide (((k + 1) * 1) ≤ 1099511627776), ((!((Int.tmod ((k : Nat) : Int) 64) == 56)) == true), decide ((64 : Int) ≠ 0)]) := by kernel_rfl
theorem p19_end (v u : Vec 8) (o np k : Nat) : ranAs 4 none (p19.fin ⟨v, u, o, np, k⟩) (goL noSpec noLoop 19 0 (p19.st ⟨v, u, o, np, k⟩).1 ⟨(p19.st ⟨v, u, o, np, k⟩).2, big, [false], []⟩) = some (p19.out, (p19.fin ⟨v, u, o, np, k⟩), [((!((Int.tmod ((k : Nat) : Int) 64) == 56)) == false), decide ((64 : Int) ≠ 0)]) := by kernel_rfl
set_option maxRecDepth 100000 in
theorem p19_read (F : Fr) (K : List Blk) (d : p19D) (h : p19.read F K = some d) : (F, K) = p19_st0 d := by
  replace h : p19_rd F K = some d := h
  unfold p19_rd at h
  split at h
  case h_2 => cases h
  split at h
  case h_2 => cases h
  injection h with h; subst h
  rfl
theorem p19_body : RunOk Tryd.prog noGlob (nv 19) (ntmpsIn Tryd.prog 19) (loopIn Tryd.prog 19 0) (goL noSpec noLoop 19 0) := goL_ok no_specs (no_loops _) 19 0 fine19 (by rw [show (loopsIn Tryd.prog 19).length = 2 by kernel_rfl]; omega)
theorem p19_toldL : LoopOk Tryd.prog noGlob (nv 19) (ntmpsIn Tryd.prog 19) (loopIn Tryd.prog 19 0) (p19.M 3 p19_st0).told := by
  refine p19.ranM 3 4 p19_st0 p19_body rfl (by intro h; cases h) p19_read (by rintro ⟨v, u, o, np, k⟩; exact ⟨rfl, _, rfl, rfl⟩) ?_ ?_
  · rintro ⟨v, u, o, np, k⟩ kk hg hr
    have hg : k = u.n ∧ k + (120 - k % 64) % 64 ≤ 1000000000000 := of_decide_eq_true hg
    have hr : (120 - k % 64) % 64 = kk + 1 := hr
    have ht := Int.tmod_eq_emod_of_nonneg (b := 64) (show 0 ≤ (k : Int) by omega)
    have en : p19.next ⟨v, u, o, np, k⟩ = p19_next ⟨v, u, o, np, k⟩ := rfl
    rw [en]
    refine ⟨⟨[true], (some [0,1,2,3,6]), _, p19_round v u o np k, ?_⟩, ?_, ?_⟩
    · repeat' (refine all_true_cons ?_ ?_)
      all_goals first | exact all_true_nil | rfl | (simp only [Bool.and_eq_true, decide_eq_true_eq, beq_iff_eq, beq_true, beq_false, Bool.not_eq_true', decide_eq_false_iff_not, beq_eq_false_iff_ne, ne_eq, Bool.not_eq_false', bne_iff_ne, true_and, and_true] <;> omega)
    · have e : p19.good (p19_next ⟨v, u, o, np, k⟩) = decide ((k + 1 : Nat) = (u.app (Vec.of [0#8]) : Vec 8).n ∧ (k + 1 : Nat) + (120 - (k + 1 : Nat) % 64) % 64 ≤ 1000000000000) := by kernel_rfl
      refine e.trans (decide_eq_true ?_)
      have : (u.app (Vec.of [0#8])).n = u.n + 1 := rfl
      rw [this]; omega
    · have e : p19.rem (p19_next ⟨v, u, o, np, k⟩) = ((120 - (k + 1 : Nat) % 64) % 64) := by kernel_rfl
      refine e.trans ?_
      omega
  · rintro ⟨v, u, o, np, k⟩ hg hr
    have hg : k = u.n ∧ k + (120 - k % 64) % 64 ≤ 1000000000000 := of_decide_eq_true hg
    have hr : (120 - k % 64) % 64 = 0 := hr
    have ht := Int.tmod_eq_emod_of_nonneg (b := 64) (show 0 ≤ (k : Int) by omega)
    refine ⟨[false], none, _, p19_end v u o np k, ?_⟩
    repeat' (refine all_true_cons ?_ ?_)
    all_goals first | exact all_true_nil | rfl | (simp only [Bool.and_eq_true, decide_eq_true_eq, beq_iff_eq, beq_true, beq_false, Bool.not_eq_true', decide_eq_false_iff_not, beq_eq_false_iff_ne, ne_eq, Bool.not_eq_false', bne_iff_ne, true_and, and_true] <;> omega)
def p19_spec : LSpec := (p19.M 3 p19_st0).told
theorem p19_told : Told 19 0 p19_spec := p19_toldL.run
def p19s : FuncId → Nat → Option LSpec
  | 19, 2 => some p19_spec
  | _, _ => none
theorem p19s_len : (loopsIn Tryd.prog 19).length = 2 := by kernel_rfl
theorem p19s_ok (spec : FuncId → Option Eng.Spec) : LoopsOk (cfg spec p19s) noGlob := by
  refine LoopsOk.of fun f => ?_
  by_cases hf : f = 19
  · subst hf
    refine .inr ⟨by kernel_rfl, fun i hi sp hsp => ?_⟩
    have hi : i < (loopsIn Tryd.prog 19).length := hi
    rw [p19s_len] at hi
    match i, hi with
    | 0, _ =>
      have e : (firstRid (loopIn Tryd.prog 19 0)).bind (p19s 19) = some p19_spec := by kernel_rfl
      obtain rfl := Option.some.inj (e.symm.trans hsp)
      exact p19_told
    | 1, _ =>
      have e : (firstRid (loopIn Tryd.prog 19 1)).bind (p19s 19) = none := by kernel_rfl
      have hsp : (firstRid (loopIn Tryd.prog 19 1)).bind (p19s 19) = some sp := hsp
      rw [e] at hsp; cases hsp
  · refine .inl fun r => ?_
    show p19s f r = none
    unfold p19s
    split
    · exact absurd rfl hf
    · rfl
def zapp (u : Vec 8) : Nat → Vec 8
  | 0 => u
  | m + 1 => (zapp u m).app (Vec.of [0#8])
def lenB (n : Int) (i : Nat) : BitVec 8 := BitVec.ofInt 8 (n * 2 ^ 3 / 2 ^ (8 * i))
def appL (u : Vec 8) (n : Int) : Vec 8 := (((((((u.app (Vec.of [lenB n 0])).app (Vec.of [lenB n 1])).app (Vec.of [lenB n 2])).app (Vec.of [lenB n 3])).app (Vec.of [lenB n 4])).app (Vec.of [lenB n 5])).app (Vec.of [lenB n 6])).app (Vec.of [lenB n 7])
def padM (np : Nat) : Nat := (120 - (np + 1) % 64) % 64
def padN (np : Nat) : Nat := np + 1 + padM np + 8
def padV (v : Vec 8) (o np : Nat) : Vec 8 := appL (zapp ((v.sub o np).app (Vec.of [128#8])) (padM np)) np
def z19 (v : Vec 8) (o np : Nat) : p19D := iter p19_next ((120 - (np + 1) % 64) % 64) ⟨v, (v.sub o np).app (Vec.of [128#8]), o, np, np + 1⟩
theorem p19_it (v u : Vec 8) (o np k : Nat) : ∀ m : Nat, iter p19_next m ⟨v, u, o, np, k⟩ = ⟨v, zapp u m, o, np, k + m⟩
  | 0 => rfl
  | m + 1 => by
    rw [iter_succ, p19_it v u o np k m]
    rfl
theorem z19_eq (v : Vec 8) (o np : Nat) : z19 v o np = ⟨v, zapp ((v.sub o np).app (Vec.of [128#8])) (padM np), o, np, np + 1 + padM np⟩ := by
  unfold z19
  rw [p19_it]; rfl
theorem zapp_n (u : Vec 8) : ∀ m : Nat, (zapp u m).n = u.n + m
  | 0 => rfl
  | m + 1 => by
    show (zapp u m).n + 1 = _
    rw [zapp_n u m]; rfl
theorem padV_n (v : Vec 8) (o np : Nat) : (padV v o np).n = padN np := by
  show (zapp ((v.sub o np).app (Vec.of [128#8])) (padM np)).n + 1 + 1 + 1 + 1 + 1 + 1 + 1 + 1 = _
  rw [zapp_n]
  show np + 1 + padM np + 1 + 1 + 1 + 1 + 1 + 1 + 1 + 1 = np + 1 + padM np + 8
  omega
structure c19D where
  v : Vec 8
  o : Nat
  np : Nat
def c19_rd (a : List AV) (K : List Blk) : Option c19D :=
    match a with
    | [(.ref (.sl 0 (.s o) (.s np) none))] =>
      match K with
      | [⟨(.b8 v), .ro⟩] => some ⟨v, o, np⟩
      | _ => none
    | _ => none
def c19 : Ct c19D where
  pat := [(.ref (.sl 0 (.s 0) (.s 0) none))]
  patH := [⟨(.b8 (Vec.zero 8 0)), .ro⟩]
  read := c19_rd
  args := fun ⟨_, o, np⟩ => [(.ref (.sl 0 (.s o) (.s np) none))]
  heap := fun ⟨v, _, _⟩ => [⟨(.b8 v), .ro⟩]
  out := fun ⟨v, o, np⟩ => [⟨(.b8 v), .ro⟩, ⟨(.b8 (padV v o np)), .own⟩]
  val := fun ⟨_, _, np⟩ => (.ref (.sl 1 (.c 0) (.s (padN np)) none))
  good := fun ⟨v, o, np⟩ => decide (o + np ≤ v.n ∧ np ≤ 100000000000)
theorem c19_run (v : Vec 8) (o np : Nat) : endsAs (c19.heap ⟨v, o, np⟩).length (some [0, 20]) [⟨(.b8 v), .ro⟩, ⟨(.b8 (appL ((z19 v o np)).u (((z19 v o np)).np : Nat))), .own⟩] (.ref (.sl 1 (.c 0) (.s (((z19 v o np)).k + 1 + 1 + 1 + 1 + 1 + 1 + 1 + 1)) none)) (goB noSpec p19s 19 (c19.args ⟨v, o, np⟩) ⟨c19.heap ⟨v, o, np⟩, big, [], []⟩) = some ([⟨(.b8 v), .ro⟩, ⟨(.b8 (appL ((z19 v o np)).u (((z19 v o np)).np : Nat))), .own⟩], (.ref (.sl 1 (.c 0) (.s (((z19 v o np)).k + 1 + 1 + 1 + 1 + 1 + 1 + 1 + 1)) none)), [(true && ((((((((((z19 v o np)).k + 1) + 1) + 1) + 1) + 1) + 1) + 1) == (((((((((z19 v o np)).u.n + 1) + 1) + 1) + 1) + 1) + 1) + 1))), decide ((((((((((((z19 v o np)).k + 1) + 1) + 1) + 1) + 1) + 1) + 1) + 1) * 1) ≤ 1099511627776), decide (((-9223372036854775808) ≤ (((((z19 v o np)).np : Nat) : Int) * (2 ^ 3)) ∧ (((((z19 v o np)).np : Nat) : Int) * (2 ^ 3)) ≤ 9223372036854775807)), (true && (((((((((z19 v o np)).k + 1) + 1) + 1) + 1) + 1) + 1) == ((((((((z19 v o np)).u.n + 1) + 1) + 1) + 1) + 1) + 1))), decide (((((((((((z19 v o np)).k + 1) + 1) + 1) + 1) + 1) + 1) + 1) * 1) ≤ 1099511627776), decide (((-9223372036854775808) ≤ (((((z19 v o np)).np : Nat) : Int) * (2 ^ 3)) ∧ (((((z19 v o np)).np : Nat) : Int) * (2 ^ 3)) ≤ 9223372036854775807)), (true && ((((((((z19 v o np)).k + 1) + 1) + 1) + 1) + 1) == (((((((z19 v o np)).u.n + 1) + 1) + 1) + 1) + 1))), decide ((((((((((z19 v o np)).k + 1) + 1) + 1) + 1) + 1) + 1) * 1) ≤ 1099511627776), decide (((-9223372036854775808) ≤ (((((z19 v o np)).np : Nat) : Int) * (2 ^ 3)) ∧ (((((z19 v o np)).np : Nat) : Int) * (2 ^ 3)) ≤ 9223372036854775807)), (true && (((((((z19 v o np)).k + 1) + 1) + 1) + 1) == ((((((z19 v o np)).u.n + 1) + 1) + 1) + 1))), decide (((((((((z19 v o np)).k + 1) + 1) + 1) + 1) + 1) * 1) ≤ 1099511627776), decide (((-9223372036854775808) ≤ (((((z19 v o np)).np : Nat) : Int) * (2 ^ 3)) ∧ (((((z19 v o np)).np : Nat) : Int) * (2 ^ 3)) ≤ 9223372036854775807)), (true && ((((((z19 v o np)).k + 1) + 1) + 1) == (((((z19 v o np)).u.n + 1) + 1) + 1))), decide ((((((((z19 v o np)).k + 1) + 1) + 1) + 1) * 1) ≤ 1099511627776), decide (((-9223372036854775808) ≤ (((((z19 v o np)).np : Nat) : Int) * (2 ^ 3)) ∧ (((((z19 v o np)).np : Nat) : Int) * (2 ^ 3)) ≤ 9223372036854775807)), (true && (((((z19 v o np)).k + 1) + 1) == ((((z19 v o np)).u.n + 1) + 1))), decide (((((((z19 v o np)).k + 1) + 1) + 1) * 1) ≤ 1099511627776), decide (((-9223372036854775808) ≤ (((((z19 v o np)).np : Nat) : Int) * (2 ^ 3)) ∧ (((((z19 v o np)).np : Nat) : Int) * (2 ^ 3)) ≤ 9223372036854775807)), (true && ((((z19 v o np)).k + 1) == (((z19 v o np)).u.n + 1))), decide ((((((z19 v o np)).k + 1) + 1) * 1) ≤ 1099511627776), decide (((-9223372036854775808) ≤ (((((z19 v o np)).np : Nat) : Int) * (2 ^ 3)) ∧ (((((z19 v o np)).np : Nat) : Int) * (2 ^ 3)) ≤ 9223372036854775807)), (true && (((z19 v o np)).k == ((z19 v o np)).u.n)), decide (((((z19 v o np)).k + 1) * 1) ≤ 1099511627776), decide (((-9223372036854775808) ≤ (((((z19 v o np)).np : Nat) : Int) * (2 ^ 3)) ∧ (((((z19 v o np)).np : Nat) : Int) * (2 ^ 3)) ≤ 9223372036854775807)), decide (((np + 1) = (np + 1) ∧ ((np + 1) + ((120 - ((np + 1) % 64)) % 64)) ≤ 1000000000000)), (true && (np == np)), decide (((np + 1) * 1) ≤ 1099511627776), decide ((np * 1) ≤ 1099511627776), decide ((o + np) ≤ v.n)]) := by kernel_rfl
set_option maxRecDepth 100000 in
theorem c19_read (a : List AV) (K : List Blk) (d : c19D) (h : c19.read a K = some d) : a = c19.args d ∧ K = c19.heap d := by
  replace h : c19_rd a K = some d := h
  unfold c19_rd at h
  split at h
  case h_2 => cases h
  split at h
  case h_2 => cases h
  injection h with h; subst h
  exact ⟨rfl, rfl⟩
theorem c19_ok : SpecOk Tryd.prog noGlob 19 c19.spec := by
  refine c19.ok (goB_ok no_specs (p19s_ok _)) c19_read ?_
  rintro ⟨v, o, np⟩ hg
  have hg : o + np ≤ v.n ∧ np ≤ 100000000000 := of_decide_eq_true hg
  have eo : c19.out ⟨v, o, np⟩ = [⟨(.b8 v), .ro⟩, ⟨(.b8 (appL ((z19 v o np)).u (((z19 v o np)).np : Nat))), .own⟩] := by
    rw [z19_eq]
    rfl
  have ev : c19.val ⟨v, o, np⟩ = (.ref (.sl 1 (.c 0) (.s (((z19 v o np)).k + 1 + 1 + 1 + 1 + 1 + 1 + 1 + 1)) none)) := by
    rw [z19_eq]
    rfl
  rw [eo, ev]
  refine ⟨[], (some [0, 20]), _, c19_run v o np, ?_⟩
  have hz := z19_eq v o np
  have hn := zapp_n ((v.sub o np).app (Vec.of [128#8])) (padM np)
  have hn2 : ((v.sub o np).app (Vec.of [128#8])).n = np + 1 := rfl
  have hm : padM np < 64 := Nat.mod_lt _ (by omega)
  repeat' (refine all_true_cons ?_ ?_)
  all_goals first | exact all_true_nil | rfl | (simp only [hz, hn, hn2, Bool.and_eq_true, decide_eq_true_eq, beq_iff_eq, beq_true, beq_false, Bool.not_eq_true', decide_eq_false_iff_not, beq_eq_false_iff_ne, ne_eq, Bool.not_eq_false', bne_iff_ne, true_and, and_true] <;> omega)
end Go.Proofs.YtaklljigoajpcaaDoor.B

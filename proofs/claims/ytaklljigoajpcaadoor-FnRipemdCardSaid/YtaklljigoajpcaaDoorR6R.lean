/- RIPEMD-160's reference: the digest of bytes. -/
import Derived.Test.YtaklljigoajpcaaDoorR6F
import Derived.Test.YtaklljigoajpcaaDoorR3Rb
import Derived.Test.YtaklljigoajpcaaDoorR3S
namespace Go.Proofs.YtaklljigoajpcaaDoor.D
open Go.Eng
set_option linter.unusedSectionVars false
variable [RowAddr]
set_option linter.unusedSimpArgs false
set_option linter.unusedVariables false
def rowW (w : Vec 32) (o : Nat) : Vec 32 := Vec.of [w.l.getD (o + 0) 0#32, w.l.getD (o + 1) 0#32, w.l.getD (o + 2) 0#32, w.l.getD (o + 3) 0#32, w.l.getD (o + 4) 0#32, w.l.getD (o + 5) 0#32, w.l.getD (o + 6) 0#32, w.l.getD (o + 7) 0#32, w.l.getD (o + 8) 0#32, w.l.getD (o + 9) 0#32, w.l.getD (o + 10) 0#32, w.l.getD (o + 11) 0#32, w.l.getD (o + 12) 0#32, w.l.getD (o + 13) 0#32, w.l.getD (o + 14) 0#32, w.l.getD (o + 15) 0#32]
theorem more_rip : ∀ g l, Go.Proofs.YtaklljigoajpcaaDoor.noGlob g = some l → noGlob g = some l := by
  intro g l h
  match g, h with
  | 0, h => exact h
  | 1, h => cases h
  | 2, h => exact h
  | 3, h => cases h
  | 4, h => exact h
  | 5, h => cases h
  | 6, h => exact h
  | g + 7, h => cases h
theorem ok25 : SpecOk Tryd.prog noGlob 25 c25.spec := B.spec_wide more_rip c25_ok
theorem ok12 : SpecOk Tryd.prog noGlob 12 c12.spec := B.spec_wide more_rip c12_ok
theorem ok10 : SpecOk Tryd.prog noGlob 10 c10.spec := B.spec_wide more_rip c10_ok
def specs11 : FuncId → Option Eng.Spec
  | 24 => some c24.spec
  | 25 => some c25.spec
  | _ => none
theorem specs11_ok : ∀ f sp, specs11 f = some sp → SpecOk Tryd.prog noGlob f sp := by
  intro f sp h
  unfold specs11 at h
  split at h
  · injection h with h; subst h; exact c24_ok
  · injection h with h; subst h; exact ok25
  · cases h
structure r11D where
  h : W5
  v : Vec 8
  w : Vec 32
  k : Nat
  nk : Int
  i : Int
def r11_st (d : r11D) : Fr × List Blk :=
  match d with
  | ⟨h, v, w, k, nk, i⟩ => (⟨[(.atom .undef), (.atom .undef), (.atom .undef), (.ref (.ptr 1 (.c 0))), (.atom .nils), (.ref (.ptr 3 (.c 0))), (.atom .undef), (.atom .undef)], [⟨10, (.ref (.sm 4 (.s k) 16))⟩, ⟨11, (.num (.int .i64 (.s nk)))⟩, ⟨12, (.num (.int .i64 (.s i)))⟩]⟩, [⟨(.b8 v), .ro⟩, ⟨(.gen (mkC linesL)), .own⟩, ⟨(.gen []), .dead⟩, ⟨(.gen [(.num (.w32 h.x0)), (.num (.w32 h.x1)), (.num (.w32 h.x2)), (.num (.w32 h.x3)), (.num (.w32 h.x4))]), .own⟩, ⟨(.b32 w), .ro⟩])
def r11_next (d : r11D) : r11D :=
  match d with
  | ⟨h, v, w, k, nk, i⟩ => ⟨ripR h (rowW w (0 + i.toNat * 16)), v, w, k, nk, i + 1⟩
def r11_rd (F : Fr) (K : List Blk) : Option r11D :=
    match F with
    | ⟨[(.atom .undef), (.atom .undef), (.atom .undef), (.ref (.ptr 1 (.c 0))), (.atom .nils), (.ref (.ptr 3 (.c 0))), (.atom .undef), (.atom .undef)], [⟨10, (.ref (.sm 4 (.s k) 16))⟩, ⟨11, (.num (.int .i64 (.s nk)))⟩, ⟨12, (.num (.int .i64 (.s i)))⟩]⟩ =>
      match K with
      | [⟨(.b8 v), .ro⟩, ⟨(.gen cs_linesL), .own⟩, ⟨(.gen []), .dead⟩, ⟨(.gen [(.num (.w32 h0)), (.num (.w32 h1)), (.num (.w32 h2)), (.num (.w32 h3)), (.num (.w32 h4))]), .own⟩, ⟨(.b32 w), .ro⟩] => 
        (match eqC cs_linesL linesL with
        | true => some ⟨⟨h0, h1, h2, h3, h4⟩, v, w, k, nk, i⟩
        | false => none)
      | _ => none
    | _ => none
def r11 : LoopP r11D where
  pat := ⟨[(.atom .undef), (.atom .undef), (.atom .undef), (.ref (.ptr 1 (.c 0))), (.atom .nils), (.ref (.ptr 3 (.c 0))), (.atom .undef), (.atom .undef)], [⟨10, (.ref (.sm 4 (.s 0) 16))⟩, ⟨11, (.num (.int .i64 (.s 0)))⟩, ⟨12, (.num (.int .i64 (.s 0)))⟩]⟩
  patH := [⟨(.b8 (Vec.zero 8 0)), .ro⟩, ⟨(.gen (mkC linesL)), .own⟩, ⟨(.gen []), .dead⟩, ⟨(.gen [(.num (.w32 0#32)), (.num (.w32 0#32)), (.num (.w32 0#32)), (.num (.w32 0#32)), (.num (.w32 0#32))]), .own⟩, ⟨(.b32 (Vec.zero 32 0)), .ro⟩]
  gh := []
  read := r11_rd
  st := r11_st
  next := r11_next
  rem := fun ⟨_, _, _, _, nk, i⟩ => (nk - i).toNat
  good := fun ⟨_, _, w, k, nk, i⟩ => decide (0 ≤ i ∧ i ≤ nk ∧ nk = k ∧ 16 * k ≤ w.n ∧ k ≤ 1000000000)
  out := .exit 0
  fin := r11_st
theorem r11_round (h : W5) (v : Vec 8) (w : Vec 32) (k : Nat) (nk i : Int) : ranAs ((r11.st ⟨h, v, w, k, nk, i⟩).2.length - r11.gh.length) (some [0, 1, 2, 3, 4]) (r11.st (r11_next ⟨h, v, w, k, nk, i⟩)) (goL specs11 noLoop 11 0 (r11.st ⟨h, v, w, k, nk, i⟩).1 ⟨(r11.st ⟨h, v, w, k, nk, i⟩).2, big, [true], []⟩) = some (.normal, (r11.st (r11_next ⟨h, v, w, k, nk, i⟩)), [decide (((-9223372036854775808) ≤ (i + 1) ∧ (i + 1) ≤ 9223372036854775807)), decide (True), decide (((0 + (((i) : Int).toNat * 16)) + 16) ≤ w.n), (decide ((0 : Int) ≤ i) && decide (i < ((k : Nat) : Int))), (decide (i < nk) == true)]) := by kernel_rfl
theorem r11_end (h : W5) (v : Vec 8) (w : Vec 32) (k : Nat) (nk i : Int) : ranAs ((r11.st ⟨h, v, w, k, nk, i⟩).2.length - r11.gh.length) none (r11.fin ⟨h, v, w, k, nk, i⟩) (goL specs11 noLoop 11 0 (r11.st ⟨h, v, w, k, nk, i⟩).1 ⟨(r11.st ⟨h, v, w, k, nk, i⟩).2, big, [false], []⟩) = some (r11.out, (r11.fin ⟨h, v, w, k, nk, i⟩), [(decide (i < nk) == false)]) := by kernel_rfl
set_option maxRecDepth 100000 in
theorem r11_read (F : Fr) (K : List Blk) (d : r11D) (h : r11.read F K = some d) : (F, K) = r11.st d := by
  replace h : r11_rd F K = some d := h
  unfold r11_rd at h
  split at h
  case h_2 => cases h
  split at h
  case h_2 => cases h
  split at h
  case h_2 => cases h
  rename_i hc
  obtain rfl := eqC_eq hc
  injection h with h; subst h
  rfl
theorem r11_body : RunOk Tryd.prog noGlob (nv 11) (ntmpsIn Tryd.prog 11) (loopIn Tryd.prog 11 0) (goL specs11 noLoop 11 0) := goL_ok specs11_ok (no_loops _) 11 0 fine11 (by rw [show (loopsIn Tryd.prog 11).length = 1 by kernel_rfl]; omega)
theorem r11_toldL : LoopOk Tryd.prog noGlob (nv 11) (ntmpsIn Tryd.prog 11) (loopIn Tryd.prog 11 0) r11.T.told := by
  refine r11.ran r11_body (by intro k hk; have hk : k ∈ ([] : List Blk) := hk; cases hk) (by intro h; cases h) r11_read ?_ ?_
  · rintro ⟨h, v, w, k, nk, i⟩ kk hg hr
    have hg : 0 ≤ i ∧ i ≤ nk ∧ nk = k ∧ 16 * k ≤ w.n ∧ k ≤ 1000000000 := of_decide_eq_true hg
    have hr : (nk - i).toNat = kk + 1 := hr
    have en : r11.next ⟨h, v, w, k, nk, i⟩ = r11_next ⟨h, v, w, k, nk, i⟩ := rfl
    rw [en]
    refine ⟨⟨[true], (some [0, 1, 2, 3, 4]), _, r11_round h v w k nk i, ?_⟩, ?_, ?_, (show (r11.st (r11_next ⟨h, v, w, k, nk, i⟩)).2.length = 5 by kernel_rfl).trans (show (r11.st ⟨h, v, w, k, nk, i⟩).2.length = 5 by kernel_rfl).symm⟩
    · repeat' (refine all_true_cons ?_ ?_)
      all_goals first | exact all_true_nil | rfl | (simp only [Bool.and_eq_true, decide_eq_true_eq, beq_iff_eq, beq_true, beq_false, Bool.not_eq_true', decide_eq_false_iff_not, beq_eq_false_iff_ne, ne_eq, Bool.not_eq_false', bne_iff_ne, true_and, and_true] <;> omega)
    · have e : r11.good (r11_next ⟨h, v, w, k, nk, i⟩) = decide (0 ≤ (i + 1 : Int) ∧ (i + 1 : Int) ≤ nk ∧ nk = k ∧ 16 * k ≤ w.n ∧ k ≤ 1000000000) := by kernel_rfl
      refine e.trans (decide_eq_true ?_)
      omega
    · have e : r11.rem (r11_next ⟨h, v, w, k, nk, i⟩) = ((nk - (i + 1 : Int)).toNat) := by kernel_rfl
      refine e.trans ?_
      omega
  · rintro ⟨h, v, w, k, nk, i⟩ hg hr
    have hg : 0 ≤ i ∧ i ≤ nk ∧ nk = k ∧ 16 * k ≤ w.n ∧ k ≤ 1000000000 := of_decide_eq_true hg
    have hr : (nk - i).toNat = 0 := hr
    refine ⟨[false], none, _, r11_end h v w k nk i, ?_⟩
    repeat' (refine all_true_cons ?_ ?_)
    all_goals first | exact all_true_nil | rfl | (simp only [Bool.and_eq_true, decide_eq_true_eq, beq_iff_eq, beq_true, beq_false, Bool.not_eq_true', decide_eq_false_iff_not, beq_eq_false_iff_ne, ne_eq, Bool.not_eq_false', bne_iff_ne, true_and, and_true] <;> omega)
def r11_spec : LSpec := r11.T.told
theorem r11_told : Told 11 0 r11_spec := r11_toldL.run
def l11s : FuncId → Nat → Option LSpec
  | 11, 3 => some r11_spec
  | _, _ => none
theorem l11s_len : (loopsIn Tryd.prog 11).length = 1 := by kernel_rfl
theorem l11s_ok (spec : FuncId → Option Eng.Spec) : LoopsOk (cfg spec l11s) noGlob := by
  refine LoopsOk.of fun f => ?_
  by_cases hf : f = 11
  · subst hf
    refine .inr ⟨by kernel_rfl, fun i hi sp hsp => ?_⟩
    have hi : i < (loopsIn Tryd.prog 11).length := hi
    rw [l11s_len] at hi
    match i, hi with
    | 0, _ =>
      have e : (firstRid (loopIn Tryd.prog 11 0)).bind (l11s 11) = some r11_spec := by kernel_rfl
      obtain rfl := Option.some.inj (e.symm.trans hsp)
      exact r11_told
  · refine .inl fun r => ?_
    show l11s f r = none
    unfold l11s
    split
    · exact absurd rfl hf
    · rfl
def rowAll (h : W5) (w : Vec 32) : Nat → W5
  | 0 => h
  | m + 1 => ripR (rowAll h w m) (rowW w (0 + 16 * m))
theorem r11_it (h : W5) (v : Vec 8) (w : Vec 32) (k : Nat) (nk : Int) : ∀ m : Nat, iter r11_next m ⟨h, v, w, k, nk, 0⟩ = ⟨rowAll h w m, v, w, k, nk, (m : Int)⟩
  | 0 => rfl
  | m + 1 => by
    rw [iter_succ, r11_it h v w k nk m]
    show (⟨ripR (rowAll h w m) (rowW w (0 + (m : Int).toNat * 16)), v, w, k, nk, (m : Int) + 1⟩ : r11D) = _
    rw [show (m : Int).toNat * 16 = 16 * m by omega, show (m : Int) + 1 = ((m + 1 : Nat) : Int) by omega]
    rfl
def words24 (v : Vec 8) (o np : Nat) : Vec 32 := allW (fillV v o np) 0 (B.padN np / 64)
def refH (v : Vec 8) (o np : Nat) : W5 := rowAll H0 (words24 v o np) (B.padN np / 64)
def E11 (v : Vec 8) (o np : Nat) : r11D := iter r11_next ((((B.padN np / 64 : Nat) : Int) - 0).toNat) ⟨H0, v, words24 v o np, B.padN np / 64, ((B.padN np / 64 : Nat) : Int), 0⟩
theorem E11_eq (v : Vec 8) (o np : Nat) : E11 v o np = ⟨refH v o np, v, words24 v o np, B.padN np / 64, ((B.padN np / 64 : Nat) : Int), ((B.padN np / 64 : Nat) : Int)⟩ := by
  unfold E11
  rw [r11_it, show (((B.padN np / 64 : Nat) : Int) - 0).toNat = B.padN np / 64 by omega]
  rfl
theorem allW_n (u : Vec 8) (o : Nat) : ∀ m : Nat, (allW u o m).n = 16 * m
  | 0 => rfl
  | m + 1 => by
    show (allW u o m).n + 16 = _
    rw [allW_n u o m]; omega
structure c11D where
  v : Vec 8
  o : Nat
  np : Nat
def c11_rd (a : List AV) (K : List Blk) : Option c11D :=
    match a with
    | [(.ref (.sl 0 (.s o) (.s np) none)), (.agg cs_linesL)] =>
      match K with
      | [⟨(.b8 v), .ro⟩] => 
        (match eqC cs_linesL linesL with
        | true => some ⟨v, o, np⟩
        | false => none)
      | _ => none
    | _ => none
def c11 : Ct c11D where
  pat := [(.ref (.sl 0 (.s 0) (.s 0) none)), (.agg (mkC linesL))]
  patH := [⟨(.b8 (Vec.zero 8 0)), .ro⟩]
  read := c11_rd
  args := fun ⟨_, o, np⟩ => [(.ref (.sl 0 (.s o) (.s np) none)), (.agg (mkC linesL))]
  heap := fun ⟨v, _, _⟩ => [⟨(.b8 v), .ro⟩]
  out := fun ⟨v, o, np⟩ => [⟨(.b8 v), .ro⟩, ⟨(.gen [(.num (.w8 (((refH v o np)).x0.setWidth 8))), (.num (.w8 (((((refH v o np)).x0 >>> 8)).setWidth 8))), (.num (.w8 (((((refH v o np)).x0 >>> 16)).setWidth 8))), (.num (.w8 (((((refH v o np)).x0 >>> 24)).setWidth 8))), (.num (.w8 (((refH v o np)).x1.setWidth 8))), (.num (.w8 (((((refH v o np)).x1 >>> 8)).setWidth 8))), (.num (.w8 (((((refH v o np)).x1 >>> 16)).setWidth 8))), (.num (.w8 (((((refH v o np)).x1 >>> 24)).setWidth 8))), (.num (.w8 (((refH v o np)).x2.setWidth 8))), (.num (.w8 (((((refH v o np)).x2 >>> 8)).setWidth 8))), (.num (.w8 (((((refH v o np)).x2 >>> 16)).setWidth 8))), (.num (.w8 (((((refH v o np)).x2 >>> 24)).setWidth 8))), (.num (.w8 (((refH v o np)).x3.setWidth 8))), (.num (.w8 (((((refH v o np)).x3 >>> 8)).setWidth 8))), (.num (.w8 (((((refH v o np)).x3 >>> 16)).setWidth 8))), (.num (.w8 (((((refH v o np)).x3 >>> 24)).setWidth 8))), (.num (.w8 (((refH v o np)).x4.setWidth 8))), (.num (.w8 (((((refH v o np)).x4 >>> 8)).setWidth 8))), (.num (.w8 (((((refH v o np)).x4 >>> 16)).setWidth 8))), (.num (.w8 (((((refH v o np)).x4 >>> 24)).setWidth 8)))]), .own⟩]
  val := fun ⟨_, _, _⟩ => (.ref (.sl 1 (.c 0) (.c 20) none))
  good := fun ⟨v, o, np⟩ => decide (o + np ≤ v.n ∧ np ≤ 10000000000)
theorem c11_run (v : Vec 8) (o np : Nat) : endsAs (c11.heap ⟨v, o, np⟩).length (some [0, 15]) [⟨(.b8 v), .ro⟩, ⟨(.gen [(.num (.w8 (((E11 v o np)).h.x0.setWidth 8))), (.num (.w8 (((((E11 v o np)).h.x0 >>> 8)).setWidth 8))), (.num (.w8 (((((E11 v o np)).h.x0 >>> 16)).setWidth 8))), (.num (.w8 (((((E11 v o np)).h.x0 >>> 24)).setWidth 8))), (.num (.w8 (((E11 v o np)).h.x1.setWidth 8))), (.num (.w8 (((((E11 v o np)).h.x1 >>> 8)).setWidth 8))), (.num (.w8 (((((E11 v o np)).h.x1 >>> 16)).setWidth 8))), (.num (.w8 (((((E11 v o np)).h.x1 >>> 24)).setWidth 8))), (.num (.w8 (((E11 v o np)).h.x2.setWidth 8))), (.num (.w8 (((((E11 v o np)).h.x2 >>> 8)).setWidth 8))), (.num (.w8 (((((E11 v o np)).h.x2 >>> 16)).setWidth 8))), (.num (.w8 (((((E11 v o np)).h.x2 >>> 24)).setWidth 8))), (.num (.w8 (((E11 v o np)).h.x3.setWidth 8))), (.num (.w8 (((((E11 v o np)).h.x3 >>> 8)).setWidth 8))), (.num (.w8 (((((E11 v o np)).h.x3 >>> 16)).setWidth 8))), (.num (.w8 (((((E11 v o np)).h.x3 >>> 24)).setWidth 8))), (.num (.w8 (((E11 v o np)).h.x4.setWidth 8))), (.num (.w8 (((((E11 v o np)).h.x4 >>> 8)).setWidth 8))), (.num (.w8 (((((E11 v o np)).h.x4 >>> 16)).setWidth 8))), (.num (.w8 (((((E11 v o np)).h.x4 >>> 24)).setWidth 8)))]), .own⟩] (c11.val ⟨v, o, np⟩) (goB specs11 l11s 11 (c11.args ⟨v, o, np⟩) ⟨c11.heap ⟨v, o, np⟩, big, [], []⟩) = some ([⟨(.b8 v), .ro⟩, ⟨(.gen [(.num (.w8 (((E11 v o np)).h.x0.setWidth 8))), (.num (.w8 (((((E11 v o np)).h.x0 >>> 8)).setWidth 8))), (.num (.w8 (((((E11 v o np)).h.x0 >>> 16)).setWidth 8))), (.num (.w8 (((((E11 v o np)).h.x0 >>> 24)).setWidth 8))), (.num (.w8 (((E11 v o np)).h.x1.setWidth 8))), (.num (.w8 (((((E11 v o np)).h.x1 >>> 8)).setWidth 8))), (.num (.w8 (((((E11 v o np)).h.x1 >>> 16)).setWidth 8))), (.num (.w8 (((((E11 v o np)).h.x1 >>> 24)).setWidth 8))), (.num (.w8 (((E11 v o np)).h.x2.setWidth 8))), (.num (.w8 (((((E11 v o np)).h.x2 >>> 8)).setWidth 8))), (.num (.w8 (((((E11 v o np)).h.x2 >>> 16)).setWidth 8))), (.num (.w8 (((((E11 v o np)).h.x2 >>> 24)).setWidth 8))), (.num (.w8 (((E11 v o np)).h.x3.setWidth 8))), (.num (.w8 (((((E11 v o np)).h.x3 >>> 8)).setWidth 8))), (.num (.w8 (((((E11 v o np)).h.x3 >>> 16)).setWidth 8))), (.num (.w8 (((((E11 v o np)).h.x3 >>> 24)).setWidth 8))), (.num (.w8 (((E11 v o np)).h.x4.setWidth 8))), (.num (.w8 (((((E11 v o np)).h.x4 >>> 8)).setWidth 8))), (.num (.w8 (((((E11 v o np)).h.x4 >>> 16)).setWidth 8))), (.num (.w8 (((((E11 v o np)).h.x4 >>> 24)).setWidth 8)))]), .own⟩], (c11.val ⟨v, o, np⟩), [decide (((0 : Int) ≤ 0 ∧ ((0 : Int) ≤ ((((B.padN np) / 64) : Nat) : Int) ∧ (((((B.padN np) / 64) : Nat) : Int) = ((((B.padN np) / 64) : Nat) : Int) ∧ ((16 * ((B.padN np) / 64)) ≤ (D.allW (D.fillV v o np) 0 ((B.padN np) / 64)).n ∧ ((B.padN np) / 64) ≤ 1000000000))))), decide (((o + np) ≤ v.n ∧ np ≤ 10000000000))]) := by kernel_rfl
set_option maxRecDepth 100000 in
theorem c11_read (a : List AV) (K : List Blk) (d : c11D) (h : c11.read a K = some d) : a = c11.args d ∧ K = c11.heap d := by
  replace h : c11_rd a K = some d := h
  unfold c11_rd at h
  split at h
  case h_2 => cases h
  split at h
  case h_2 => cases h
  split at h
  case h_2 => cases h
  rename_i hc
  obtain rfl := eqC_eq hc
  injection h with h; subst h
  exact ⟨rfl, rfl⟩
theorem c11_ok : SpecOk Tryd.prog noGlob 11 c11.spec := by
  refine c11.ok (goB_ok specs11_ok (l11s_ok _)) c11_read ?_
  rintro ⟨v, o, np⟩ hg
  have hg : o + np ≤ v.n ∧ np ≤ 10000000000 := of_decide_eq_true hg
  have eo : c11.out ⟨v, o, np⟩ = [⟨(.b8 v), .ro⟩, ⟨(.gen [(.num (.w8 (((E11 v o np)).h.x0.setWidth 8))), (.num (.w8 (((((E11 v o np)).h.x0 >>> 8)).setWidth 8))), (.num (.w8 (((((E11 v o np)).h.x0 >>> 16)).setWidth 8))), (.num (.w8 (((((E11 v o np)).h.x0 >>> 24)).setWidth 8))), (.num (.w8 (((E11 v o np)).h.x1.setWidth 8))), (.num (.w8 (((((E11 v o np)).h.x1 >>> 8)).setWidth 8))), (.num (.w8 (((((E11 v o np)).h.x1 >>> 16)).setWidth 8))), (.num (.w8 (((((E11 v o np)).h.x1 >>> 24)).setWidth 8))), (.num (.w8 (((E11 v o np)).h.x2.setWidth 8))), (.num (.w8 (((((E11 v o np)).h.x2 >>> 8)).setWidth 8))), (.num (.w8 (((((E11 v o np)).h.x2 >>> 16)).setWidth 8))), (.num (.w8 (((((E11 v o np)).h.x2 >>> 24)).setWidth 8))), (.num (.w8 (((E11 v o np)).h.x3.setWidth 8))), (.num (.w8 (((((E11 v o np)).h.x3 >>> 8)).setWidth 8))), (.num (.w8 (((((E11 v o np)).h.x3 >>> 16)).setWidth 8))), (.num (.w8 (((((E11 v o np)).h.x3 >>> 24)).setWidth 8))), (.num (.w8 (((E11 v o np)).h.x4.setWidth 8))), (.num (.w8 (((((E11 v o np)).h.x4 >>> 8)).setWidth 8))), (.num (.w8 (((((E11 v o np)).h.x4 >>> 16)).setWidth 8))), (.num (.w8 (((((E11 v o np)).h.x4 >>> 24)).setWidth 8)))]), .own⟩] := by
    rw [E11_eq]
    rfl
  have ev : c11.val ⟨v, o, np⟩ = (.ref (.sl 1 (.c 0) (.c 20) none)) := by
    rfl
  rw [eo, ev]
  refine ⟨[], (some [0, 15]), _, c11_run v o np, ?_⟩
  have hz := E11_eq v o np
  have hn := allW_n (fillV v o np) 0 (B.padN np / 64)
  have hw : (words24 v o np).n = 16 * (B.padN np / 64) := hn
  have hm : B.padM np < 64 := Nat.mod_lt _ (by omega)
  have hN : B.padN np = np + 1 + B.padM np + 8 := rfl
  repeat' (refine all_true_cons ?_ ?_)
  all_goals first | exact all_true_nil | rfl | (simp only [hz, hn, hw, Bool.and_eq_true, decide_eq_true_eq, beq_iff_eq, beq_true, beq_false, Bool.not_eq_true', decide_eq_false_iff_not, beq_eq_false_iff_ne, ne_eq, Bool.not_eq_false', bne_iff_ne, true_and, and_true] <;> omega)
end Go.Proofs.YtaklljigoajpcaaDoor.D

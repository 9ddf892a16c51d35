/- The reference's mix of blocks: contracts. -/
import Derived.Test.YtnonaagcnenbdaaR1Ref2
namespace Go.Proofs.Ytnonaagcnenbdaa
open Go.Eng
set_option linter.unusedSimpArgs false
set_option linter.unusedVariables false
set_option linter.unusedSectionVars false
variable [RowAddr]
theorem good_iter : ∀ (k : Nat) (d : M25), d.good = true → k ≤ d.rem → (iter M25.next k d).good = true ∧ (iter M25.next k d).rem = d.rem - k
  | 0, d, h, _ => ⟨h, rfl⟩
  | k + 1, d, h, hk => by
    obtain ⟨_, h2, h3⟩ := step25 d (d.rem - 1) h (by omega)
    obtain ⟨g1, g2⟩ := good_iter k d.next h2 (by omega)
    refine ⟨g1, g2.trans ?_⟩
    omega
theorem st25_good (v : Vec 8) (o n : Nat) (h1 : n % 128 = 0) (h2 : 128 ≤ n) (h3 : n ≤ 64000000) (h4 : o + n ≤ v.n) : (st25 v o n).good = true := by
  have hd := Int.tdiv_eq_ediv_of_nonneg (b := 64) (show 0 ≤ (n : Int) by omega)
  show decide _ = true
  refine decide_eq_true ⟨by omega, by omega, by omega, by omega, h4, by omega, by omega⟩
theorem st25_rem (v : Vec 8) (o n : Nat) : (st25 v o n).rem = n / 64 := by
  have hd := Int.tdiv_eq_ediv_of_nonneg (b := 64) (show 0 ≤ (n : Int) by omega)
  show (Int.tdiv n 64).toNat = _
  omega
theorem f25_eq (v : Vec 8) (o n : Nat) : f25 v o n = iter M25.next (n / 64) (st25 v o n) := by
  rw [← st25_rem v o n]; rfl
/-- How the loop ends. -/
theorem end25 (v : Vec 8) (o n : Nat) (h1 : n % 128 = 0) (h2 : 128 ≤ n) (h3 : n ≤ 64000000) (h4 : o + n ≤ v.n) : (f25 v o n).ne = (f25 v o n).ev.n ∧ (f25 v o n).no = (f25 v o n).od.n ∧ (f25 v o n).ne + (f25 v o n).no = n := by
  obtain ⟨g, r⟩ := good_iter (n / 64) (st25 v o n) (st25_good v o n h1 h2 h3 h4) (by rw [st25_rem]; omega)
  rw [f25_eq]
  revert g r
  rw [st25_rem]
  have hn : ∀ (k : Nat) (d : M25), (match iter M25.next k d with | .a _ _ n _ _ _ => n | .b _ _ _ _ n _ _ => n | .c _ _ _ _ _ n _ _ _ _ => n) = (match d with | .a _ _ n _ _ _ => n | .b _ _ _ _ n _ _ => n | .c _ _ _ _ _ n _ _ _ _ => n) := by
    intro k
    induction k with
    | zero => intro d; rfl
    | succ k ih =>
      intro d
      rw [show iter M25.next (k + 1) d = iter M25.next k d.next from rfl, ih]
      match d with
      | .a .. => rfl
      | .b .. => rfl
      | .c v y ev od o n ne no N i =>
        show (match (match decide (Int.tmod i 2 = 0) with | true => nextE v y ev od o n ne no N i | false => nextO v y ev od o n ne no N i) with | .a _ _ n _ _ _ => n | .b _ _ _ _ n _ _ => n | .c _ _ _ _ _ n _ _ _ _ => n) = n
        cases decide (Int.tmod i 2 = 0) <;> rfl
  have hn := hn (n / 64) (st25 v o n)
  revert hn
  generalize iter M25.next (n / 64) (st25 v o n) = d
  intro hn g r
  match d, hn, g, r with
  | .a v o n' ol nl N, hn, g, r =>
    obtain ⟨g1, g2, g3, g4, g5, g6, g7⟩ := of_decide_eq_true g
    have r : N.toNat = n / 64 - n / 64 := r
    omega
  | .b v y ev o n' ne N, hn, g, r =>
    obtain ⟨g1, g2, g3, g4, g5, g6, g7⟩ := of_decide_eq_true g
    have r : (N - 1).toNat = n / 64 - n / 64 := r
    omega
  | .c v y ev od o n' ne no N i, hn, g, r =>
    obtain ⟨g1, g2, g3, g4, g5, g6, g7, g8, g9, g10⟩ := of_decide_eq_true g
    have r : (N - i).toNat = n / 64 - n / 64 := r
    have hn : n' = n := hn
    refine ⟨g7, g8, ?_⟩
    show ne + no = n
    omega
theorem sub_all {w : Nat} (v : Vec w) (n : Nat) (h : n = v.n) : v.sub 0 n = v := by
  refine vec_ext ?_
  subst h
  rw [Vec.sub_l (by omega), List.drop_zero, ← v.h, List.take_length]
/-- What the reference's mix makes of bytes. -/
def bm8 (v : Vec 8) (o n : Nat) : Vec 8 := (f25 v o n).ev.app (f25 v o n).od
theorem bm8_n (v : Vec 8) (o n : Nat) (h1 : n % 128 = 0) (h2 : 128 ≤ n) (h3 : n ≤ 64000000) (h4 : o + n ≤ v.n) : (bm8 v o n).n = n := by
  obtain ⟨e1, e2, e3⟩ := end25 v o n h1 h2 h3 h4
  show (f25 v o n).ev.n + (f25 v o n).od.n = n
  rw [← e1, ← e2, e3]
structure c25D where
  v : Vec 8
  o : Nat
  n : Nat
def c25_rd (a : List AV) (K : List Blk) : Option c25D :=
    match a with
    | [(.ref (.sl 0 (.s o) (.s n) none))] =>
      match K with
      | [⟨(.b8 v), .ro⟩] => some ⟨v, o, n⟩
      | _ => none
    | _ => none
def c25 : Ct c25D where
  pat := [(.ref (.sl 0 (.s 0) (.s 0) none))]
  patH := [⟨(.b8 (Vec.zero 8 0)), .ro⟩]
  read := c25_rd
  args := fun ⟨_, o, n⟩ => [(.ref (.sl 0 (.s o) (.s n) none))]
  heap := fun ⟨v, _, _⟩ => [⟨(.b8 v), .ro⟩]
  out := fun ⟨v, o, n⟩ => [⟨(.b8 v), .ro⟩, ⟨(.b8 (bm8 v o n)), .own⟩]
  val := fun ⟨_, _, n⟩ => (.ref (.sl 1 (.c 0) (.s n) none))
  good := fun ⟨v, o, n⟩ => decide (n % 128 = 0 ∧ 128 ≤ n ∧ n ≤ 64000000 ∧ o + n ≤ v.n)
theorem c25_run (v : Vec 8) (o n : Nat) : endsAs (c25.heap ⟨v, o, n⟩).length (some [0, 4]) [⟨(.b8 v), .ro⟩, ⟨(.b8 (((f25 v o n)).ev.app (((f25 v o n)).od.sub 0 ((f25 v o n)).no))), .own⟩] (.ref (.sl 1 (.c 0) (.s (((f25 v o n)).ne + ((f25 v o n)).no)) none)) (goB specs25 loops25 25 (c25.args ⟨v, o, n⟩) ⟨c25.heap ⟨v, o, n⟩, big, (List.replicate 6 false), []⟩) = some ([⟨(.b8 v), .ro⟩, ⟨(.b8 (((f25 v o n)).ev.app (((f25 v o n)).od.sub 0 ((f25 v o n)).no))), .own⟩], (.ref (.sl 1 (.c 0) (.s (((f25 v o n)).ne + ((f25 v o n)).no)) none)), [(true && ((f25 v o n).ne == (f25 v o n).ev.n)), decide (((f25 v o n).ne + (f25 v o n).no) * 1 ≤ 1099511627776), decide (0 + (f25 v o n).no ≤ (f25 v o n).od.n), M25.good (st25 v o n), ((decide ((0 : Int) ≤ (64 * ((Int.tdiv ((n : Nat) : Int) 64) - 1))) && decide ((64 * ((Int.tdiv ((n : Nat) : Int) 64) - 1)) ≤ ((n : Nat) : Int))) && decide (((n : Nat) : Int) ≤ ((n : Nat) : Int))), decide (((-9223372036854775808) ≤ (64 * ((Int.tdiv ((n : Nat) : Int) 64) - 1)) ∧ (64 * ((Int.tdiv ((n : Nat) : Int) 64) - 1)) ≤ 9223372036854775807)), decide (((-9223372036854775808) ≤ ((Int.tdiv ((n : Nat) : Int) 64) - 1) ∧ ((Int.tdiv ((n : Nat) : Int) 64) - 1) ≤ 9223372036854775807)), ((!((Int.tmod ((n : Nat) : Int) 128) == 0)) == false), (((Int.tdiv ((n : Nat) : Int) 64) == 0) == false), (((Int.tdiv ((n : Nat) : Int) 64) == 0) == false), decide ((128 : Int) ≠ 0), (((Int.tdiv ((n : Nat) : Int) 64) == 0) == false), (((Int.tdiv ((n : Nat) : Int) 64) == 0) == false), (((Int.tdiv ((n : Nat) : Int) 64) == 0) == false), decide (((0 : Int) ≤ ((n : Nat) : Int) ∧ ((0 : Int) < 64 ∧ ((n : Nat) : Int) ≤ 9223372036854775807)))]) := by kernel_rfl
set_option maxRecDepth 100000 in
theorem c25_read (a : List AV) (K : List Blk) (d : c25D) (h : c25.read a K = some d) : a = c25.args d ∧ K = c25.heap d := by
  replace h : c25_rd a K = some d := h
  unfold c25_rd at h
  split at h
  case h_2 => cases h
  split at h
  case h_2 => cases h
  injection h with h; subst h
  exact ⟨rfl, rfl⟩
theorem c25_ok : SpecOk Try.prog noGlob 25 c25.spec := by
  refine c25.ok (goB_ok specs25_ok (loops25_ok _)) c25_read ?_
  rintro ⟨v, o, n⟩ hg
  have hg : n % 128 = 0 ∧ 128 ≤ n ∧ n ≤ 64000000 ∧ o + n ≤ v.n := of_decide_eq_true hg
  have eo : c25.out ⟨v, o, n⟩ = [⟨(.b8 v), .ro⟩, ⟨(.b8 (((f25 v o n)).ev.app (((f25 v o n)).od.sub 0 ((f25 v o n)).no))), .own⟩] := by
    obtain ⟨e1, e2, e3⟩ := end25 v o n hg.1 hg.2.1 hg.2.2.1 hg.2.2.2
    try rw [e3]
    try rw [sub_all _ _ e2]
    rfl
  have ev : c25.val ⟨v, o, n⟩ = (.ref (.sl 1 (.c 0) (.s (((f25 v o n)).ne + ((f25 v o n)).no)) none)) := by
    obtain ⟨e1, e2, e3⟩ := end25 v o n hg.1 hg.2.1 hg.2.2.1 hg.2.2.2
    try rw [e3]
    try rw [sub_all _ _ e2]
    rfl
  rw [eo, ev]
  refine ⟨(List.replicate 6 false), (some [0, 4]), _, c25_run v o n, ?_⟩
  obtain ⟨e1, e2, e3⟩ := end25 v o n hg.1 hg.2.1 hg.2.2.1 hg.2.2.2
  have hd := Int.tdiv_eq_ediv_of_nonneg (b := 64) (show 0 ≤ (n : Int) by omega)
  have hm := Int.tmod_eq_emod_of_nonneg (b := 128) (show 0 ≤ (n : Int) by omega)
  refine all_true_cons ?_ (all_true_cons ?_ (all_true_cons ?_ (all_true_cons (st25_good v o n hg.1 hg.2.1 hg.2.2.1 hg.2.2.2) ?_)))
  · rw [e1]; simp
  · exact decide_eq_true (by omega)
  · exact decide_eq_true (by omega)
  repeat' (refine all_true_cons ?_ ?_)
  all_goals first | exact all_true_nil | rfl | (simp only [Bool.and_eq_true, decide_eq_true_eq, beq_iff_eq, beq_true, beq_false, Bool.not_eq_true', decide_eq_false_iff_not, beq_eq_false_iff_ne, ne_eq, Bool.not_eq_false', bne_iff_ne, true_and, and_true]; omega)
def specs17 : FuncId → Option Eng.Spec
  | 24 => some c24.spec
  | 25 => some c25.spec
  | 26 => some c26.spec
  | _ => none
theorem specs17_ok : ∀ f sp, specs17 f = some sp → SpecOk Try.prog noGlob f sp := by
  intro f sp h
  unfold specs17 at h
  split at h
  · injection h with h; subst h; exact c24_ok
  · injection h with h; subst h; exact c25_ok
  · injection h with h; subst h; exact c26_ok
  · cases h
structure l17aD where
  a : Vec 32
  u : Vec 8
  oa : Nat
  na : Nat
  k : Nat
  r : Int
  i : Int
def l17a_st (d : l17aD) : Fr × List Blk :=
  match d with
  | ⟨a, u, oa, na, k, r, i⟩ => (⟨[(.ref (.sl 0 (.s oa) (.s na) none)), (.num (.int .i64 (.s r))), (.atom .undef), (.atom .undef), (.atom .undef), (.ref (.sl 1 (.c 0) (.s k) none)), (.num (.int .i64 (.s i))), (.atom .undef), (.atom .undef)], []⟩, [⟨(.b32 a), .ro⟩, ⟨(.b8 u), .own⟩])
def l17a_next (d : l17aD) : l17aD :=
  match d with
  | ⟨a, u, oa, na, k, r, i⟩ => ⟨a, u.app (Vec.of (low4 (a.l.getD (oa + i.toNat * 1) 0#32))), oa, na, k + 4, r, i + 1⟩
def l17a_rd (F : Fr) (K : List Blk) : Option l17aD :=
    match F with
    | ⟨[(.ref (.sl 0 (.s oa) (.s na) none)), (.num (.int .i64 (.s r))), (.atom .undef), (.atom .undef), (.atom .undef), (.ref (.sl 1 (.c 0) (.s k) none)), (.num (.int .i64 (.s i))), (.atom .undef), (.atom .undef)], []⟩ =>
      match K with
      | [⟨(.b32 a), .ro⟩, ⟨(.b8 u), .own⟩] => some ⟨a, u, oa, na, k, r, i⟩
      | _ => none
    | _ => none
def l17a : LoopP l17aD where
  pat := ⟨[(.ref (.sl 0 (.s 0) (.s 0) none)), (.num (.int .i64 (.s 0))), (.atom .undef), (.atom .undef), (.atom .undef), (.ref (.sl 1 (.c 0) (.s 0) none)), (.num (.int .i64 (.s 0))), (.atom .undef), (.atom .undef)], []⟩
  patH := [⟨(.b32 (Vec.zero 32 0)), .ro⟩, ⟨(.b8 (Vec.zero 8 0)), .own⟩]
  gh := [⟨.gen [], .own⟩]
  read := l17a_rd
  st := l17a_st
  next := l17a_next
  rem := fun ⟨_, _, _, na, _, _, i⟩ => (na - i).toNat
  good := fun ⟨a, u, oa, na, k, _, i⟩ => decide (0 ≤ i ∧ i ≤ na ∧ oa + na ≤ a.n ∧ na ≤ 1000000 ∧ (k : Int) = 4 * i ∧ k = u.n)
  out := .exit 0
  fin := l17a_st
theorem l17a_round (a : Vec 32) (u : Vec 8) (oa na k : Nat) (r i : Int) : ranAs ((l17a.st ⟨a, u, oa, na, k, r, i⟩).2.length - l17a.gh.length) (some [0, 3]) (l17a.st (l17a_next ⟨a, u, oa, na, k, r, i⟩)) (goL specs17 noLoop 17 0 (l17a.st ⟨a, u, oa, na, k, r, i⟩).1 ⟨(l17a.st ⟨a, u, oa, na, k, r, i⟩).2, big, [true], []⟩) = some (.normal, (l17a.st (l17a_next ⟨a, u, oa, na, k, r, i⟩)), [decide (((-9223372036854775808) ≤ (i + 1) ∧ (i + 1) ≤ 9223372036854775807)), (true && (k == u.n)), decide (((k + 4) * 1) ≤ 1099511627776), decide (True), decide ((oa + (((i) : Int).toNat * 1)) < a.n), (decide ((0 : Int) ≤ i) && decide (i < ((na : Nat) : Int))), (decide (i < ((na : Nat) : Int)) == true)]) := by kernel_rfl
theorem l17a_end (a : Vec 32) (u : Vec 8) (oa na k : Nat) (r i : Int) : ranAs ((l17a.st ⟨a, u, oa, na, k, r, i⟩).2.length - l17a.gh.length) none (l17a.fin ⟨a, u, oa, na, k, r, i⟩) (goL specs17 noLoop 17 0 (l17a.st ⟨a, u, oa, na, k, r, i⟩).1 ⟨(l17a.st ⟨a, u, oa, na, k, r, i⟩).2, big, [false], []⟩) = some (l17a.out, (l17a.fin ⟨a, u, oa, na, k, r, i⟩), [(decide (i < ((na : Nat) : Int)) == false)]) := by kernel_rfl
set_option maxRecDepth 100000 in
theorem l17a_read (F : Fr) (K : List Blk) (d : l17aD) (h : l17a.read F K = some d) : (F, K) = l17a.st d := by
  replace h : l17a_rd F K = some d := h
  unfold l17a_rd at h
  split at h
  case h_2 => cases h
  split at h
  case h_2 => cases h
  injection h with h; subst h
  rfl
theorem l17a_body : RunOk Try.prog noGlob (nv 17) (ntmpsIn Try.prog 17) (loopIn Try.prog 17 0) (goL specs17 noLoop 17 0) := goL_ok specs17_ok (no_loops _) 17 0 fine17 (by rw [show (loopsIn Try.prog 17).length = 2 by kernel_rfl]; omega)
theorem l17a_toldL : LoopOk Try.prog noGlob (nv 17) (ntmpsIn Try.prog 17) (loopIn Try.prog 17 0) l17a.T.told := by
  refine l17a.ran l17a_body (by intro k hk; simp [l17a] at hk; subst hk; rfl) (by intro h; cases h) l17a_read ?_ ?_
  · rintro ⟨a, u, oa, na, k, r, i⟩ kk hg hr
    have hg : 0 ≤ i ∧ i ≤ na ∧ oa + na ≤ a.n ∧ na ≤ 1000000 ∧ (k : Int) = 4 * i ∧ k = u.n := of_decide_eq_true hg
    have hr : (na - i).toNat = kk + 1 := hr
    have en : l17a.next ⟨a, u, oa, na, k, r, i⟩ = l17a_next ⟨a, u, oa, na, k, r, i⟩ := rfl
    rw [en]
    refine ⟨⟨[true], (some [0, 3]), _, l17a_round a u oa na k r i, ?_⟩, ?_, ?_, (show (l17a.st (l17a_next ⟨a, u, oa, na, k, r, i⟩)).2.length = 2 by kernel_rfl).trans (show (l17a.st ⟨a, u, oa, na, k, r, i⟩).2.length = 2 by kernel_rfl).symm⟩
    · repeat' (refine all_true_cons ?_ ?_)
      all_goals first | exact all_true_nil | rfl | (simp only [Bool.and_eq_true, decide_eq_true_eq, beq_iff_eq, beq_true, beq_false, Bool.not_eq_true', decide_eq_false_iff_not, beq_eq_false_iff_ne, ne_eq, Bool.not_eq_false', bne_iff_ne, true_and, and_true] <;> omega)
    · have e : l17a.good (l17a_next ⟨a, u, oa, na, k, r, i⟩) = decide (0 ≤ (i + 1 : Int) ∧ (i + 1 : Int) ≤ na ∧ oa + na ≤ a.n ∧ na ≤ 1000000 ∧ ((k + 4 : Nat) : Int) = 4 * (i + 1 : Int) ∧ (k + 4 : Nat) = (u.app (Vec.of (low4 (a.l.getD (oa + i.toNat * 1) 0#32))) : Vec 8).n) := by kernel_rfl
      refine e.trans (decide_eq_true ?_)
      have : (u.app (Vec.of (low4 (a.l.getD (oa + i.toNat * 1) 0#32)))).n = u.n + 4 := rfl
      rw [this]; omega
    · have e : l17a.rem (l17a_next ⟨a, u, oa, na, k, r, i⟩) = ((na - (i + 1 : Int)).toNat) := by kernel_rfl
      refine e.trans ?_
      omega
  · rintro ⟨a, u, oa, na, k, r, i⟩ hg hr
    have hg : 0 ≤ i ∧ i ≤ na ∧ oa + na ≤ a.n ∧ na ≤ 1000000 ∧ (k : Int) = 4 * i ∧ k = u.n := of_decide_eq_true hg
    have hr : (na - i).toNat = 0 := hr
    refine ⟨[false], none, _, l17a_end a u oa na k r i, ?_⟩
    repeat' (refine all_true_cons ?_ ?_)
    all_goals first | exact all_true_nil | rfl | (simp only [Bool.and_eq_true, decide_eq_true_eq, beq_iff_eq, beq_true, beq_false, Bool.not_eq_true', decide_eq_false_iff_not, beq_eq_false_iff_ne, ne_eq, Bool.not_eq_false', bne_iff_ne, true_and, and_true] <;> omega)
def l17a_spec : LSpec := l17a.T.told
theorem l17a_told : Told 17 0 l17a_spec := l17a_toldL.run
structure l17bD where
  a : Vec 32
  m : Vec 8
  u : Vec 32
  oa : Nat
  na : Nat
  n8 : Nat
  k : Nat
  r : Int
  i : Int
def l17b_st (d : l17bD) : Fr × List Blk :=
  match d with
  | ⟨a, m, u, oa, na, n8, k, r, i⟩ => (⟨[(.ref (.sl 0 (.s oa) (.s na) none)), (.num (.int .i64 (.s r))), (.atom .undef), (.atom .undef), (.atom .undef), (.ref (.sl 2 (.c 0) (.s n8) none)), (.atom .undef), (.ref (.sl 3 (.c 0) (.s k) none)), (.num (.int .i64 (.s i)))], []⟩, [⟨(.b32 a), .ro⟩, ⟨(.gen []), .dead⟩, ⟨(.b8 m), .ro⟩, ⟨(.b32 u), .own⟩])
def l17b_next (d : l17bD) : l17bD :=
  match d with
  | ⟨a, m, u, oa, na, n8, k, r, i⟩ => ⟨a, m, u.app (Vec.of [lw m (0 + (4 * i).toNat)]), oa, na, n8, k + 1, r, i + 1⟩
def l17b_rd (F : Fr) (K : List Blk) : Option l17bD :=
    match F with
    | ⟨[(.ref (.sl 0 (.s oa) (.s na) none)), (.num (.int .i64 (.s r))), (.atom .undef), (.atom .undef), (.atom .undef), (.ref (.sl 2 (.c 0) (.s n8) none)), (.atom .undef), (.ref (.sl 3 (.c 0) (.s k) none)), (.num (.int .i64 (.s i)))], []⟩ =>
      match K with
      | [⟨(.b32 a), .ro⟩, ⟨(.gen []), .dead⟩, ⟨(.b8 m), .ro⟩, ⟨(.b32 u), .own⟩] => some ⟨a, m, u, oa, na, n8, k, r, i⟩
      | _ => none
    | _ => none
def l17b : LoopP l17bD where
  pat := ⟨[(.ref (.sl 0 (.s 0) (.s 0) none)), (.num (.int .i64 (.s 0))), (.atom .undef), (.atom .undef), (.atom .undef), (.ref (.sl 2 (.c 0) (.s 0) none)), (.atom .undef), (.ref (.sl 3 (.c 0) (.s 0) none)), (.num (.int .i64 (.s 0)))], []⟩
  patH := [⟨(.b32 (Vec.zero 32 0)), .ro⟩, ⟨(.gen []), .dead⟩, ⟨(.b8 (Vec.zero 8 0)), .ro⟩, ⟨(.b32 (Vec.zero 32 0)), .own⟩]
  gh := [⟨.gen [], .own⟩]
  read := l17b_rd
  st := l17b_st
  next := l17b_next
  rem := fun ⟨_, _, _, _, na, _, _, _, i⟩ => (na - i).toNat
  good := fun ⟨_, m, u, _, na, n8, k, _, i⟩ => decide (0 ≤ i ∧ i ≤ na ∧ n8 = 4 * na ∧ m.n = n8 ∧ na ≤ 1000000 ∧ (k : Int) = i ∧ k = u.n)
  out := .exit 2
  fin := l17b_st
theorem l17b_round (a : Vec 32) (m : Vec 8) (u : Vec 32) (oa na n8 k : Nat) (r i : Int) : ranAs ((l17b.st ⟨a, m, u, oa, na, n8, k, r, i⟩).2.length - l17b.gh.length) (some [0, 1, 2, 5]) (l17b.st (l17b_next ⟨a, m, u, oa, na, n8, k, r, i⟩)) (goL specs17 noLoop 17 1 (l17b.st ⟨a, m, u, oa, na, n8, k, r, i⟩).1 ⟨(l17b.st ⟨a, m, u, oa, na, n8, k, r, i⟩).2, big, [true], []⟩) = some (.normal, (l17b.st (l17b_next ⟨a, m, u, oa, na, n8, k, r, i⟩)), [decide (((-9223372036854775808) ≤ (i + 1) ∧ (i + 1) ≤ 9223372036854775807)), (true && (k == u.n)), decide (((k + 1) * 4) ≤ 1099511627776), decide ((((0 + (((4 * i)) : Int).toNat) + 4) ≤ m.n ∧ (4 : Nat) ≤ (((((n8 : Nat) : Int)) : Int).toNat - (((4 * i)) : Int).toNat))), ((decide ((0 : Int) ≤ (4 * i)) && decide ((4 * i) ≤ ((n8 : Nat) : Int))) && decide (((n8 : Nat) : Int) ≤ ((n8 : Nat) : Int))), decide (((-9223372036854775808) ≤ (4 * i) ∧ (4 * i) ≤ 9223372036854775807)), (decide (i < ((na : Nat) : Int)) == true)]) := by kernel_rfl
theorem l17b_end (a : Vec 32) (m : Vec 8) (u : Vec 32) (oa na n8 k : Nat) (r i : Int) : ranAs ((l17b.st ⟨a, m, u, oa, na, n8, k, r, i⟩).2.length - l17b.gh.length) none (l17b.fin ⟨a, m, u, oa, na, n8, k, r, i⟩) (goL specs17 noLoop 17 1 (l17b.st ⟨a, m, u, oa, na, n8, k, r, i⟩).1 ⟨(l17b.st ⟨a, m, u, oa, na, n8, k, r, i⟩).2, big, [false], []⟩) = some (l17b.out, (l17b.fin ⟨a, m, u, oa, na, n8, k, r, i⟩), [(decide (i < ((na : Nat) : Int)) == false)]) := by kernel_rfl
set_option maxRecDepth 100000 in
theorem l17b_read (F : Fr) (K : List Blk) (d : l17bD) (h : l17b.read F K = some d) : (F, K) = l17b.st d := by
  replace h : l17b_rd F K = some d := h
  unfold l17b_rd at h
  split at h
  case h_2 => cases h
  split at h
  case h_2 => cases h
  injection h with h; subst h
  rfl
theorem l17b_body : RunOk Try.prog noGlob (nv 17) (ntmpsIn Try.prog 17) (loopIn Try.prog 17 1) (goL specs17 noLoop 17 1) := goL_ok specs17_ok (no_loops _) 17 1 fine17 (by rw [show (loopsIn Try.prog 17).length = 2 by kernel_rfl]; omega)
theorem l17b_toldL : LoopOk Try.prog noGlob (nv 17) (ntmpsIn Try.prog 17) (loopIn Try.prog 17 1) l17b.T.told := by
  refine l17b.ran l17b_body (by intro k hk; simp [l17b] at hk; subst hk; rfl) (by intro h; cases h) l17b_read ?_ ?_
  · rintro ⟨a, m, u, oa, na, n8, k, r, i⟩ kk hg hr
    have hg : 0 ≤ i ∧ i ≤ na ∧ n8 = 4 * na ∧ m.n = n8 ∧ na ≤ 1000000 ∧ (k : Int) = i ∧ k = u.n := of_decide_eq_true hg
    have hr : (na - i).toNat = kk + 1 := hr
    have en : l17b.next ⟨a, m, u, oa, na, n8, k, r, i⟩ = l17b_next ⟨a, m, u, oa, na, n8, k, r, i⟩ := rfl
    rw [en]
    refine ⟨⟨[true], (some [0, 1, 2, 5]), _, l17b_round a m u oa na n8 k r i, ?_⟩, ?_, ?_, (show (l17b.st (l17b_next ⟨a, m, u, oa, na, n8, k, r, i⟩)).2.length = 4 by kernel_rfl).trans (show (l17b.st ⟨a, m, u, oa, na, n8, k, r, i⟩).2.length = 4 by kernel_rfl).symm⟩
    · repeat' (refine all_true_cons ?_ ?_)
      all_goals first | exact all_true_nil | rfl | (simp only [Bool.and_eq_true, decide_eq_true_eq, beq_iff_eq, beq_true, beq_false, Bool.not_eq_true', decide_eq_false_iff_not, beq_eq_false_iff_ne, ne_eq, Bool.not_eq_false', bne_iff_ne, true_and, and_true] <;> omega)
    · have e : l17b.good (l17b_next ⟨a, m, u, oa, na, n8, k, r, i⟩) = decide (0 ≤ (i + 1 : Int) ∧ (i + 1 : Int) ≤ na ∧ n8 = 4 * na ∧ m.n = n8 ∧ na ≤ 1000000 ∧ ((k + 1 : Nat) : Int) = (i + 1 : Int) ∧ (k + 1 : Nat) = (u.app (Vec.of [lw m (0 + (4 * i).toNat)]) : Vec 32).n) := by kernel_rfl
      refine e.trans (decide_eq_true ?_)
      have : (u.app (Vec.of [lw m (0 + (4 * i).toNat)])).n = u.n + 1 := rfl
      rw [this]; omega
    · have e : l17b.rem (l17b_next ⟨a, m, u, oa, na, n8, k, r, i⟩) = ((na - (i + 1 : Int)).toNat) := by kernel_rfl
      refine e.trans ?_
      omega
  · rintro ⟨a, m, u, oa, na, n8, k, r, i⟩ hg hr
    have hg : 0 ≤ i ∧ i ≤ na ∧ n8 = 4 * na ∧ m.n = n8 ∧ na ≤ 1000000 ∧ (k : Int) = i ∧ k = u.n := of_decide_eq_true hg
    have hr : (na - i).toNat = 0 := hr
    refine ⟨[false], none, _, l17b_end a m u oa na n8 k r i, ?_⟩
    repeat' (refine all_true_cons ?_ ?_)
    all_goals first | exact all_true_nil | rfl | (simp only [Bool.and_eq_true, decide_eq_true_eq, beq_iff_eq, beq_true, beq_false, Bool.not_eq_true', decide_eq_false_iff_not, beq_eq_false_iff_ne, ne_eq, Bool.not_eq_false', bne_iff_ne, true_and, and_true] <;> omega)
def l17b_spec : LSpec := l17b.T.told
theorem l17b_told : Told 17 1 l17b_spec := l17b_toldL.run
def l17s : FuncId → Nat → Option LSpec
  | 17, 5 => some l17a_spec
  | 17, 11 => some l17b_spec
  | _, _ => none
theorem l17s_len : (loopsIn Try.prog 17).length = 2 := by kernel_rfl
theorem l17s_ok (spec : FuncId → Option Eng.Spec) : LoopsOk (cfg spec l17s) noGlob := by
  refine LoopsOk.of fun f => ?_
  by_cases hf : f = 17
  · subst hf
    refine .inr ⟨by kernel_rfl, fun i hi sp hsp => ?_⟩
    have hi : i < (loopsIn Try.prog 17).length := hi
    rw [l17s_len] at hi
    match i, hi with
    | 0, _ =>
      have e : (firstRid (loopIn Try.prog 17 0)).bind (l17s 17) = some l17a_spec := by kernel_rfl
      obtain rfl := Option.some.inj (e.symm.trans hsp)
      exact l17a_told
    | 1, _ =>
      have e : (firstRid (loopIn Try.prog 17 1)).bind (l17s 17) = some l17b_spec := by kernel_rfl
      obtain rfl := Option.some.inj (e.symm.trans hsp)
      exact l17b_told
  · refine .inl fun r => ?_
    show l17s f r = none
    unfold l17s
    split
    · exact absurd rfl hf
    · exact absurd rfl hf
    · rfl
end Go.Proofs.Ytnonaagcnenbdaa

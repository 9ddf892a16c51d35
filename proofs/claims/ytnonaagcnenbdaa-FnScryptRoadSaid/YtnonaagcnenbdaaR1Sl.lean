/- The package's mix of scrypt: its loops. -/
import Derived.Test.YtnonaagcnenbdaaR1Sm
namespace Go.Proofs.Ytnonaagcnenbdaa
open Go.Eng
set_option linter.unusedSimpArgs false
set_option linter.unusedVariables false
set_option linter.unusedSectionVars false
variable [RowAddr]
def specsS : FuncId → Option Eng.Spec
  | 31 => some c31a.spec
  | 36 => some c36.spec
  | _ => none
theorem specsS_ok : ∀ f sp, specsS f = some sp → SpecOk Try.prog noGlob f sp := by
  intro f sp h
  unfold specsS at h
  split at h
  · injection h with h; subst h; exact c31a_ok
  · injection h with h; subst h; exact c36_ok
  · cases h
/-- A word of four bytes, the lowest first. -/
def leW (b : Vec 8) (o : Nat) : BitVec 32 := (((b.l.getD (o + 0) 0#8).setWidth 32 ||| (b.l.getD (o + 1) 0#8).setWidth 32 <<< 8) ||| (b.l.getD (o + 2) 0#8).setWidth 32 <<< 16) ||| (b.l.getD (o + 3) 0#8).setWidth 32 <<< 24
def put4B (b : Vec 8) (o : Nat) (w : BitVec 32) : Vec 8 := (((b.set (o + 0) (w.setWidth 8)).set (o + 1) ((w >>> 8).setWidth 8)).set (o + 2) ((w >>> 16).setWidth 8)).set (o + 3) ((w >>> 24).setWidth 8)
theorem put4B_n (b : Vec 8) (o : Nat) (w : BitVec 32) : (put4B b o w).n = b.n := rfl
def rowN (R : Int) (nw o : Nat) : Nat := Nat.min (R.toNat - (((0 : Nat) : Int)).toNat) (((nw : Nat) : Int).toNat - o)
theorem rowN_eq (R : Int) (nw o : Nat) (h : o + R.toNat ≤ nw) : rowN R nw o = R.toNat := by
  unfold rowN
  rw [show R.toNat - (((0 : Nat) : Int)).toNat = R.toNat by omega]
  exact Nat.min_eq_left (by omega)
/-- Two rounds of keeping. -/
def keepV (v x t : Vec 32) (nw oy : Nat) (r R i : Int) : Vec 32 :=
  (v.over (0 + (i * R).toNat) (x.sub (0 + (((0 : Nat) : Int)).toNat) (rowN R nw (i * R).toNat))).over (0 + ((i + 1) * R).toNat) ((mixC t x 0 oy r).sub (oy + (((0 : Nat) : Int)).toNat) (rowN R nw ((i + 1) * R).toNat))
def keepX (x t : Vec 32) (oy : Nat) (r : Int) : Vec 32 := mixC (mixT t x 0 oy r) (mixC t x 0 oy r) oy 0 r
def keepT (x t : Vec 32) (oy : Nat) (r : Int) : Vec 32 := mixT (mixT t x 0 oy r) (mixC t x 0 oy r) oy 0 r
/-- Which row is wanted. -/
def idxW (x : Vec 32) (o : Nat) (r N : Int) : BitVec 64 := ((x.l.getD (o + ((2 * r - 1) * 16).toNat * 1) 0#32).setWidth 64 ||| (x.l.getD (o + ((2 * r - 1) * 16 + 1).toNat * 1) 0#32).setWidth 64 <<< 32) &&& BitVec.ofInt 64 (N - 1)
def pickD (x v : Vec 32) (o : Nat) (r N R : Int) : Vec 32 := xorD x o v (0 + ((((idxW x o r N).toNat : Nat) : Int) * R).toNat) R.toNat
def half1 (x v t : Vec 32) (oy : Nat) (r N R : Int) : Vec 32 := mixC t (pickD x v 0 r N R) 0 oy r
def half1T (x v t : Vec 32) (oy : Nat) (r N R : Int) : Vec 32 := mixT t (pickD x v 0 r N R) 0 oy r
def pickX (x v t : Vec 32) (oy : Nat) (r N R : Int) : Vec 32 := mixC (half1T x v t oy r N R) (pickD (half1 x v t oy r N R) v oy r N R) oy 0 r
def pickT (x v t : Vec 32) (oy : Nat) (r N R : Int) : Vec 32 := mixT (half1T x v t oy r N R) (pickD (half1 x v t oy r N R) v oy r N R) oy 0 r
theorem pickD_n (x v : Vec 32) (o : Nat) (r N R : Int) : (pickD x v o r N R).n = x.n := xorD_n _ _ _ _ _
theorem keepV_n (v x t : Vec 32) (nw oy : Nat) (r R i : Int) : (keepV v x t nw oy r R i).n = v.n := rfl
theorem keepX_n (x t : Vec 32) (oy : Nat) (r : Int) : (keepX x t oy r).n = x.n := by
  unfold keepX
  rw [mixC_n, mixC_n]
theorem keepT_n (x t : Vec 32) (oy : Nat) (r : Int) : (keepT x t oy r).n = t.n := by
  unfold keepT
  rw [mixT_n, mixT_n]
theorem half1_n (x v t : Vec 32) (oy : Nat) (r N R : Int) : (half1 x v t oy r N R).n = x.n := by
  unfold half1
  rw [mixC_n, pickD_n]
theorem half1T_n (x v t : Vec 32) (oy : Nat) (r N R : Int) : (half1T x v t oy r N R).n = t.n := by
  unfold half1T
  rw [mixT_n]
theorem pickX_n (x v t : Vec 32) (oy : Nat) (r N R : Int) : (pickX x v t oy r N R).n = x.n := by
  unfold pickX
  rw [mixC_n, pickD_n, half1_n]
theorem pickT_n (x v t : Vec 32) (oy : Nat) (r N R : Int) : (pickT x v t oy r N R).n = t.n := by
  unfold pickT
  rw [mixT_n, half1T_n]
theorem and_lt (w : BitVec 64) (N : Int) (h1 : 1 ≤ N) (h2 : N ≤ 1000000) : ((w &&& BitVec.ofInt 64 (N - 1)).toNat : Int) < N := by
  obtain ⟨n, rfl⟩ := Int.eq_ofNat_of_zero_le (show 0 ≤ N by omega)
  have e : (BitVec.ofInt 64 ((n : Int) - 1)).toNat = n - 1 := by
    rw [BitVec.toNat_ofInt]
    omega
  have h : (w &&& BitVec.ofInt 64 ((n : Int) - 1)).toNat ≤ n - 1 := by
    rw [BitVec.toNat_and, e]
    exact Nat.and_le_right
  omega
theorem idx_lt (x : Vec 32) (o : Nat) (r N : Int) (h1 : 1 ≤ N) (h2 : N ≤ 1000000) : ((idxW x o r N).toNat : Int) < N := and_lt _ _ h1 h2
theorem row_le (i N R : Int) (h0 : 0 ≤ i) (h1 : i < N) (hR : 0 ≤ R) : 0 ≤ i * R ∧ i * R + R ≤ N * R := by
  refine ⟨Int.mul_nonneg h0 hR, ?_⟩
  have := Int.mul_le_mul_of_nonneg_right (show i + 1 ≤ N by omega) hR
  rw [Int.add_mul, Int.one_mul] at this
  exact this
structure s1D where
  b : Vec 8
  v : Vec 32
  x : Vec 32
  t : Vec 32
  nb : Nat
  nw : Nat
  lx : Nat
  oy : Nat
  ly : Nat
  r : Int
  N : Int
  R : Int
  j : Int
  i : Int
def s1_st (d : s1D) : Fr × List Blk :=
  match d with
  | ⟨b, v, x, t, nb, nw, lx, oy, ly, r, N, R, j, i⟩ => (⟨[(.ref (.sl 0 (.c 0) (.s nb) none)), (.num (.int .i64 (.s r))), (.num (.int .i64 (.s N))), (.ref (.sl 1 (.c 0) (.s nw) none)), (.atom .undef), (.atom .undef), (.atom .undef), (.atom .undef), (.atom .undef), (.atom .undef), (.ref (.ptr 3 (.c 0))), (.num (.int .i64 (.s R))), (.ref (.sl 2 (.c 0) (.s lx) none)), (.ref (.sl 2 (.s oy) (.s ly) none)), (.num (.int .i64 (.s j))), (.num (.int .i64 (.s i))), (.atom .undef), (.atom .undef), (.atom .undef), (.atom .undef), (.atom .undef)], []⟩, [⟨(.b8 b), .own⟩, ⟨(.b32 v), .own⟩, ⟨(.b32 x), .own⟩, ⟨(.b32 t), .own⟩])
def s1_next (d : s1D) : s1D :=
  match d with
  | ⟨b, v, x, t, nb, nw, lx, oy, ly, r, N, R, j, i⟩ => ⟨b, v, x.set (0 + i.toNat * 1) (leW b (0 + j.toNat)), t, nb, nw, lx, oy, ly, r, N, R, j + 4, i + 1⟩
def s1_rd (F : Fr) (K : List Blk) : Option s1D :=
    match F with
    | ⟨[(.ref (.sl 0 (.c 0) (.s nb) none)), (.num (.int .i64 (.s r))), (.num (.int .i64 (.s N))), (.ref (.sl 1 (.c 0) (.s nw) none)), (.atom .undef), (.atom .undef), (.atom .undef), (.atom .undef), (.atom .undef), (.atom .undef), (.ref (.ptr 3 (.c 0))), (.num (.int .i64 (.s R))), (.ref (.sl 2 (.c 0) (.s lx) none)), (.ref (.sl 2 (.s oy) (.s ly) none)), (.num (.int .i64 (.s j))), (.num (.int .i64 (.s i))), (.atom .undef), (.atom .undef), (.atom .undef), (.atom .undef), (.atom .undef)], []⟩ =>
      match K with
      | [⟨(.b8 b), .own⟩, ⟨(.b32 v), .own⟩, ⟨(.b32 x), .own⟩, ⟨(.b32 t), .own⟩] => some ⟨b, v, x, t, nb, nw, lx, oy, ly, r, N, R, j, i⟩
      | _ => none
    | _ => none
def s1 : LoopP s1D where
  pat := ⟨[(.ref (.sl 0 (.c 0) (.s 0) none)), (.num (.int .i64 (.s 0))), (.num (.int .i64 (.s 0))), (.ref (.sl 1 (.c 0) (.s 0) none)), (.atom .undef), (.atom .undef), (.atom .undef), (.atom .undef), (.atom .undef), (.atom .undef), (.ref (.ptr 3 (.c 0))), (.num (.int .i64 (.s 0))), (.ref (.sl 2 (.c 0) (.s 0) none)), (.ref (.sl 2 (.s 0) (.s 0) none)), (.num (.int .i64 (.s 0))), (.num (.int .i64 (.s 0))), (.atom .undef), (.atom .undef), (.atom .undef), (.atom .undef), (.atom .undef)], []⟩
  patH := [⟨(.b8 (Vec.zero 8 0)), .own⟩, ⟨(.b32 (Vec.zero 32 0)), .own⟩, ⟨(.b32 (Vec.zero 32 0)), .own⟩, ⟨(.b32 (Vec.zero 32 0)), .own⟩]
  gh := []
  read := s1_rd
  st := s1_st
  next := s1_next
  rem := fun ⟨_, _, _, _, _, _, _, _, _, _, _, R, _, i⟩ => (R - i).toNat
  good := fun ⟨b, _, x, _, nb, _, lx, _, _, _, _, R, j, i⟩ => decide (0 ≤ i ∧ i ≤ R ∧ j = 4 * i ∧ R ≤ 1000000 ∧ 4 * R ≤ nb ∧ nb ≤ b.n ∧ R ≤ lx ∧ lx ≤ x.n ∧ nb ≤ 100000000)
  out := .exit 0
  fin := s1_st
theorem s1_round (b : Vec 8) (v x t : Vec 32) (nb nw lx oy ly : Nat) (r N R j i : Int) : ranAs ((s1.st ⟨b, v, x, t, nb, nw, lx, oy, ly, r, N, R, j, i⟩).2.length - s1.gh.length) (some [0, 1, 2, 3]) (s1.st (s1_next ⟨b, v, x, t, nb, nw, lx, oy, ly, r, N, R, j, i⟩)) (goL specsS noLoop 27 0 (s1.st ⟨b, v, x, t, nb, nw, lx, oy, ly, r, N, R, j, i⟩).1 ⟨(s1.st ⟨b, v, x, t, nb, nw, lx, oy, ly, r, N, R, j, i⟩).2, big, [true], []⟩) = some (.normal, (s1.st (s1_next ⟨b, v, x, t, nb, nw, lx, oy, ly, r, N, R, j, i⟩)), [decide (((-9223372036854775808) ≤ (i + 1) ∧ (i + 1) ≤ 9223372036854775807)), decide (((-9223372036854775808) ≤ (j + 4) ∧ (j + 4) ≤ 9223372036854775807)), decide ((0 + (((i) : Int).toNat * 1)) < x.n), (decide ((0 : Int) ≤ i) && decide (i < ((lx : Nat) : Int))), decide (((0 + ((j) : Int).toNat) + 3) < b.n), (true && decide ((3 : Int) < (((((((nb : Nat) : Int)) : Int).toNat - ((j) : Int).toNat) : Nat) : Int))), decide (((0 + ((j) : Int).toNat) + 2) < b.n), (true && decide ((2 : Int) < (((((((nb : Nat) : Int)) : Int).toNat - ((j) : Int).toNat) : Nat) : Int))), decide (((0 + ((j) : Int).toNat) + 1) < b.n), (true && decide ((1 : Int) < (((((((nb : Nat) : Int)) : Int).toNat - ((j) : Int).toNat) : Nat) : Int))), decide (((0 + ((j) : Int).toNat) + 0) < b.n), (true && decide ((0 : Int) < (((((((nb : Nat) : Int)) : Int).toNat - ((j) : Int).toNat) : Nat) : Int))), decide (((0 + ((j) : Int).toNat) + 3) < b.n), (true && decide ((3 : Int) < (((((((nb : Nat) : Int)) : Int).toNat - ((j) : Int).toNat) : Nat) : Int))), ((decide ((0 : Int) ≤ j) && decide (j ≤ ((nb : Nat) : Int))) && decide (((nb : Nat) : Int) ≤ ((nb : Nat) : Int))), (decide (i < R) == true)]) := by kernel_rfl
theorem s1_end (b : Vec 8) (v x t : Vec 32) (nb nw lx oy ly : Nat) (r N R j i : Int) : ranAs ((s1.st ⟨b, v, x, t, nb, nw, lx, oy, ly, r, N, R, j, i⟩).2.length - s1.gh.length) none (s1.fin ⟨b, v, x, t, nb, nw, lx, oy, ly, r, N, R, j, i⟩) (goL specsS noLoop 27 0 (s1.st ⟨b, v, x, t, nb, nw, lx, oy, ly, r, N, R, j, i⟩).1 ⟨(s1.st ⟨b, v, x, t, nb, nw, lx, oy, ly, r, N, R, j, i⟩).2, big, [false], []⟩) = some (s1.out, (s1.fin ⟨b, v, x, t, nb, nw, lx, oy, ly, r, N, R, j, i⟩), [(decide (i < R) == false)]) := by kernel_rfl
set_option maxRecDepth 100000 in
theorem s1_read (F : Fr) (K : List Blk) (d : s1D) (h : s1.read F K = some d) : (F, K) = s1.st d := by
  replace h : s1_rd F K = some d := h
  unfold s1_rd at h
  split at h
  case h_2 => cases h
  split at h
  case h_2 => cases h
  injection h with h; subst h
  rfl
theorem s1_body : RunOk Try.prog noGlob (nv 27) (ntmpsIn Try.prog 27) (loopIn Try.prog 27 0) (goL specsS noLoop 27 0) := goL_ok specsS_ok (no_loops _) 27 0 fine27 (by rw [show (loopsIn Try.prog 27).length = 4 by kernel_rfl]; omega)
theorem s1_toldL : LoopOk Try.prog noGlob (nv 27) (ntmpsIn Try.prog 27) (loopIn Try.prog 27 0) s1.T.told := by
  refine s1.ran s1_body (by intro k hk; have hk : k ∈ ([] : List Blk) := hk; cases hk) (by intro h; cases h) s1_read ?_ ?_
  · rintro ⟨b, v, x, t, nb, nw, lx, oy, ly, r, N, R, j, i⟩ kk hg hr
    have hg : 0 ≤ i ∧ i ≤ R ∧ j = 4 * i ∧ R ≤ 1000000 ∧ 4 * R ≤ nb ∧ nb ≤ b.n ∧ R ≤ lx ∧ lx ≤ x.n ∧ nb ≤ 100000000 := of_decide_eq_true hg
    have hr : (R - i).toNat = kk + 1 := hr
    have en : s1.next ⟨b, v, x, t, nb, nw, lx, oy, ly, r, N, R, j, i⟩ = s1_next ⟨b, v, x, t, nb, nw, lx, oy, ly, r, N, R, j, i⟩ := rfl
    rw [en]
    refine ⟨⟨[true], (some [0, 1, 2, 3]), _, s1_round b v x t nb nw lx oy ly r N R j i, ?_⟩, ?_, ?_, (show (s1.st (s1_next ⟨b, v, x, t, nb, nw, lx, oy, ly, r, N, R, j, i⟩)).2.length = 4 by kernel_rfl).trans (show (s1.st ⟨b, v, x, t, nb, nw, lx, oy, ly, r, N, R, j, i⟩).2.length = 4 by kernel_rfl).symm⟩
    · repeat' (refine all_true_cons ?_ ?_)
      all_goals first | exact all_true_nil | rfl | (simp only [Bool.and_eq_true, decide_eq_true_eq, beq_iff_eq, beq_true, beq_false, Bool.not_eq_true', decide_eq_false_iff_not, beq_eq_false_iff_ne, ne_eq, Bool.not_eq_false', bne_iff_ne, true_and, and_true] <;> omega)
    · have e : s1.good (s1_next ⟨b, v, x, t, nb, nw, lx, oy, ly, r, N, R, j, i⟩) = decide (0 ≤ (i + 1 : Int) ∧ (i + 1 : Int) ≤ R ∧ (j + 4 : Int) = 4 * (i + 1 : Int) ∧ R ≤ 1000000 ∧ 4 * R ≤ nb ∧ nb ≤ b.n ∧ R ≤ lx ∧ lx ≤ (x.set (0 + i.toNat * 1) (leW b (0 + j.toNat)) : Vec 32).n ∧ nb ≤ 100000000) := by kernel_rfl
      refine e.trans (decide_eq_true ?_)
      rw [set_n]
      omega
    · have e : s1.rem (s1_next ⟨b, v, x, t, nb, nw, lx, oy, ly, r, N, R, j, i⟩) = ((R - (i + 1 : Int)).toNat) := by kernel_rfl
      refine e.trans ?_
      omega
  · rintro ⟨b, v, x, t, nb, nw, lx, oy, ly, r, N, R, j, i⟩ hg hr
    have hg : 0 ≤ i ∧ i ≤ R ∧ j = 4 * i ∧ R ≤ 1000000 ∧ 4 * R ≤ nb ∧ nb ≤ b.n ∧ R ≤ lx ∧ lx ≤ x.n ∧ nb ≤ 100000000 := of_decide_eq_true hg
    have hr : (R - i).toNat = 0 := hr
    refine ⟨[false], none, _, s1_end b v x t nb nw lx oy ly r N R j i, ?_⟩
    repeat' (refine all_true_cons ?_ ?_)
    all_goals first | exact all_true_nil | rfl | (simp only [Bool.and_eq_true, decide_eq_true_eq, beq_iff_eq, beq_true, beq_false, Bool.not_eq_true', decide_eq_false_iff_not, beq_eq_false_iff_ne, ne_eq, Bool.not_eq_false', bne_iff_ne, true_and, and_true] <;> omega)
def s1_spec : LSpec := s1.T.told
theorem s1_told : Told 27 0 s1_spec := s1_toldL.run
structure s2D where
  b : Vec 8
  v : Vec 32
  x : Vec 32
  t : Vec 32
  nb : Nat
  nw : Nat
  lx : Nat
  oy : Nat
  ly : Nat
  r : Int
  N : Int
  R : Int
  i : Int
def s2_st (d : s2D) : Fr × List Blk :=
  match d with
  | ⟨b, v, x, t, nb, nw, lx, oy, ly, r, N, R, i⟩ => (⟨[(.ref (.sl 0 (.c 0) (.s nb) none)), (.num (.int .i64 (.s r))), (.num (.int .i64 (.s N))), (.ref (.sl 1 (.c 0) (.s nw) none)), (.atom .undef), (.atom .undef), (.atom .undef), (.atom .undef), (.atom .undef), (.atom .undef), (.ref (.ptr 3 (.c 0))), (.num (.int .i64 (.s R))), (.ref (.sl 2 (.c 0) (.s lx) none)), (.ref (.sl 2 (.s oy) (.s ly) none)), (.atom .undef), (.atom .undef), (.num (.int .i64 (.s i))), (.atom .undef), (.atom .undef), (.atom .undef), (.atom .undef)], []⟩, [⟨(.b8 b), .own⟩, ⟨(.b32 v), .own⟩, ⟨(.b32 x), .own⟩, ⟨(.b32 t), .own⟩])
def s2_next (d : s2D) : s2D :=
  match d with
  | ⟨b, v, x, t, nb, nw, lx, oy, ly, r, N, R, i⟩ => ⟨b, keepV v x t nw oy r R i, keepX x t oy r, keepT x t oy r, nb, nw, lx, oy, ly, r, N, R, i + 2⟩
def s2_rd (F : Fr) (K : List Blk) : Option s2D :=
    match F with
    | ⟨[(.ref (.sl 0 (.c 0) (.s nb) none)), (.num (.int .i64 (.s r))), (.num (.int .i64 (.s N))), (.ref (.sl 1 (.c 0) (.s nw) none)), (.atom .undef), (.atom .undef), (.atom .undef), (.atom .undef), (.atom .undef), (.atom .undef), (.ref (.ptr 3 (.c 0))), (.num (.int .i64 (.s R))), (.ref (.sl 2 (.c 0) (.s lx) none)), (.ref (.sl 2 (.s oy) (.s ly) none)), (.atom .undef), (.atom .undef), (.num (.int .i64 (.s i))), (.atom .undef), (.atom .undef), (.atom .undef), (.atom .undef)], []⟩ =>
      match K with
      | [⟨(.b8 b), .own⟩, ⟨(.b32 v), .own⟩, ⟨(.b32 x), .own⟩, ⟨(.b32 t), .own⟩] => some ⟨b, v, x, t, nb, nw, lx, oy, ly, r, N, R, i⟩
      | _ => none
    | _ => none
def s2 : LoopP s2D where
  pat := ⟨[(.ref (.sl 0 (.c 0) (.s 0) none)), (.num (.int .i64 (.s 0))), (.num (.int .i64 (.s 0))), (.ref (.sl 1 (.c 0) (.s 0) none)), (.atom .undef), (.atom .undef), (.atom .undef), (.atom .undef), (.atom .undef), (.atom .undef), (.ref (.ptr 3 (.c 0))), (.num (.int .i64 (.s 0))), (.ref (.sl 2 (.c 0) (.s 0) none)), (.ref (.sl 2 (.s 0) (.s 0) none)), (.atom .undef), (.atom .undef), (.num (.int .i64 (.s 0))), (.atom .undef), (.atom .undef), (.atom .undef), (.atom .undef)], []⟩
  patH := [⟨(.b8 (Vec.zero 8 0)), .own⟩, ⟨(.b32 (Vec.zero 32 0)), .own⟩, ⟨(.b32 (Vec.zero 32 0)), .own⟩, ⟨(.b32 (Vec.zero 32 0)), .own⟩]
  gh := []
  read := s2_rd
  st := s2_st
  next := s2_next
  rem := fun ⟨_, _, _, _, _, _, _, _, _, _, N, _, i⟩ => ((N - i) / 2).toNat
  good := fun ⟨_, v, x, t, _, nw, lx, oy, ly, r, N, R, i⟩ => decide (0 ≤ i ∧ i ≤ N ∧ i % 2 = 0 ∧ N % 2 = 0 ∧ N ≤ 1000000 ∧ 1 ≤ r ∧ r ≤ 1000 ∧ R = 32 * r ∧ (oy : Int) = 32 * r ∧ (lx : Int) = 64 * r ∧ (ly : Int) = 32 * r ∧ 64 * r ≤ x.n ∧ t.n = 16 ∧ N * R ≤ nw ∧ nw ≤ v.n ∧ nw ≤ 1000000000)
  out := .exit 2
  fin := s2_st
theorem s2_round (b : Vec 8) (v x t : Vec 32) (nb nw lx oy ly : Nat) (r N R i : Int) : ranAs ((s2.st ⟨b, v, x, t, nb, nw, lx, oy, ly, r, N, R, i⟩).2.length - s2.gh.length) none (s2.st (s2_next ⟨b, v, x, t, nb, nw, lx, oy, ly, r, N, R, i⟩)) (goL specsS noLoop 27 1 (s2.st ⟨b, v, x, t, nb, nw, lx, oy, ly, r, N, R, i⟩).1 ⟨(s2.st ⟨b, v, x, t, nb, nw, lx, oy, ly, r, N, R, i⟩).2, big, [true], []⟩) = some (.normal, (s2.st (s2_next ⟨b, v, x, t, nb, nw, lx, oy, ly, r, N, R, i⟩)), [decide (((-9223372036854775808) ≤ (i + 2) ∧ (i + 2) ≤ 9223372036854775807)), decide (((1 : Int) ≤ r ∧ (r ≤ 1000000 ∧ ((mixT t x 0 oy r).n = 16 ∧ ((((oy : Nat) : Int) + (32 * r)) ≤ (((mixC t x 0 oy r).n : Nat) : Int) ∧ ((32 * r) ≤ ((ly : Nat) : Int) ∧ ((((0 : Nat) : Int) + (32 * r)) ≤ (((mixC t x 0 oy r).n : Nat) : Int) ∧ (32 * r) ≤ ((lx : Nat) : Int)))))))), decide (((0 + ((((i + 1) * R)) : Int).toNat) + (Nat.min (((R) : Int).toNat - ((((0 : Nat) : Int)) : Int).toNat) (((((nw : Nat) : Int)) : Int).toNat - ((((i + 1) * R)) : Int).toNat))) ≤ v.n), decide (((oy + ((((0 : Nat) : Int)) : Int).toNat) + (Nat.min (((R) : Int).toNat - ((((0 : Nat) : Int)) : Int).toNat) (((((nw : Nat) : Int)) : Int).toNat - ((((i + 1) * R)) : Int).toNat))) ≤ (mixC t x 0 oy r).n), ((true && decide (((0 : Nat) : Int) ≤ R)) && decide (R ≤ ((ly : Nat) : Int))), ((decide ((0 : Int) ≤ ((i + 1) * R)) && decide (((i + 1) * R) ≤ ((nw : Nat) : Int))) && decide (((nw : Nat) : Int) ≤ ((nw : Nat) : Int))), decide (((-9223372036854775808) ≤ ((i + 1) * R) ∧ ((i + 1) * R) ≤ 9223372036854775807)), decide (((-9223372036854775808) ≤ (i + 1) ∧ (i + 1) ≤ 9223372036854775807)), decide (((1 : Int) ≤ r ∧ (r ≤ 1000000 ∧ (t.n = 16 ∧ ((((0 : Nat) : Int) + (32 * r)) ≤ ((x.n : Nat) : Int) ∧ ((32 * r) ≤ ((lx : Nat) : Int) ∧ ((((oy : Nat) : Int) + (32 * r)) ≤ ((x.n : Nat) : Int) ∧ (32 * r) ≤ ((ly : Nat) : Int)))))))), decide (((0 + (((i * R)) : Int).toNat) + (Nat.min (((R) : Int).toNat - ((((0 : Nat) : Int)) : Int).toNat) (((((nw : Nat) : Int)) : Int).toNat - (((i * R)) : Int).toNat))) ≤ v.n), decide (((0 + ((((0 : Nat) : Int)) : Int).toNat) + (Nat.min (((R) : Int).toNat - ((((0 : Nat) : Int)) : Int).toNat) (((((nw : Nat) : Int)) : Int).toNat - (((i * R)) : Int).toNat))) ≤ x.n), ((true && decide (((0 : Nat) : Int) ≤ R)) && decide (R ≤ ((lx : Nat) : Int))), ((decide ((0 : Int) ≤ (i * R)) && decide ((i * R) ≤ ((nw : Nat) : Int))) && decide (((nw : Nat) : Int) ≤ ((nw : Nat) : Int))), decide (((-9223372036854775808) ≤ (i * R) ∧ (i * R) ≤ 9223372036854775807)), (decide (i < N) == true)]) := by kernel_rfl
theorem s2_end (b : Vec 8) (v x t : Vec 32) (nb nw lx oy ly : Nat) (r N R i : Int) : ranAs ((s2.st ⟨b, v, x, t, nb, nw, lx, oy, ly, r, N, R, i⟩).2.length - s2.gh.length) none (s2.fin ⟨b, v, x, t, nb, nw, lx, oy, ly, r, N, R, i⟩) (goL specsS noLoop 27 1 (s2.st ⟨b, v, x, t, nb, nw, lx, oy, ly, r, N, R, i⟩).1 ⟨(s2.st ⟨b, v, x, t, nb, nw, lx, oy, ly, r, N, R, i⟩).2, big, [false], []⟩) = some (s2.out, (s2.fin ⟨b, v, x, t, nb, nw, lx, oy, ly, r, N, R, i⟩), [(decide (i < N) == false)]) := by kernel_rfl
set_option maxRecDepth 100000 in
theorem s2_read (F : Fr) (K : List Blk) (d : s2D) (h : s2.read F K = some d) : (F, K) = s2.st d := by
  replace h : s2_rd F K = some d := h
  unfold s2_rd at h
  split at h
  case h_2 => cases h
  split at h
  case h_2 => cases h
  injection h with h; subst h
  rfl
theorem s2_body : RunOk Try.prog noGlob (nv 27) (ntmpsIn Try.prog 27) (loopIn Try.prog 27 1) (goL specsS noLoop 27 1) := goL_ok specsS_ok (no_loops _) 27 1 fine27 (by rw [show (loopsIn Try.prog 27).length = 4 by kernel_rfl]; omega)
theorem s2_toldL : LoopOk Try.prog noGlob (nv 27) (ntmpsIn Try.prog 27) (loopIn Try.prog 27 1) s2.T.told := by
  refine s2.ran s2_body (by intro k hk; have hk : k ∈ ([] : List Blk) := hk; cases hk) (by intro h; cases h) s2_read ?_ ?_
  · rintro ⟨b, v, x, t, nb, nw, lx, oy, ly, r, N, R, i⟩ kk hg hr
    have hg : 0 ≤ i ∧ i ≤ N ∧ i % 2 = 0 ∧ N % 2 = 0 ∧ N ≤ 1000000 ∧ 1 ≤ r ∧ r ≤ 1000 ∧ R = 32 * r ∧ (oy : Int) = 32 * r ∧ (lx : Int) = 64 * r ∧ (ly : Int) = 32 * r ∧ 64 * r ≤ x.n ∧ t.n = 16 ∧ N * R ≤ nw ∧ nw ≤ v.n ∧ nw ≤ 1000000000 := of_decide_eq_true hg
    have hr : ((N - i) / 2).toNat = kk + 1 := hr
    obtain ⟨g1, g2, g3, g4, g5, g6, g7, g8, g9, g10, g11, g12, g13, g14, g15, g16⟩ := hg
    have en : s2.next ⟨b, v, x, t, nb, nw, lx, oy, ly, r, N, R, i⟩ = s2_next ⟨b, v, x, t, nb, nw, lx, oy, ly, r, N, R, i⟩ := rfl
    rw [en]
    refine ⟨⟨[true], none, _, s2_round b v x t nb nw lx oy ly r N R i, ?_⟩, ?_, ?_, (show (s2.st (s2_next ⟨b, v, x, t, nb, nw, lx, oy, ly, r, N, R, i⟩)).2.length = 4 by kernel_rfl).trans (show (s2.st ⟨b, v, x, t, nb, nw, lx, oy, ly, r, N, R, i⟩).2.length = 4 by kernel_rfl).symm⟩
    · have hi : i + 1 < N := by omega
      have a0 := row_le i N R g1 (by omega) (by omega)
      have a1 := row_le (i + 1) N R (by omega) hi (by omega)
      have m0 : Nat.min (R.toNat - (((0 : Nat) : Int)).toNat) (((nw : Nat) : Int).toNat - (i * R).toNat) = R.toNat := rowN_eq R nw _ (by omega)
      have m1 : Nat.min (R.toNat - (((0 : Nat) : Int)).toNat) (((nw : Nat) : Int).toNat - ((i + 1) * R).toNat) = R.toNat := rowN_eq R nw _ (by omega)
      have n1 := mixC_n t x 0 oy r
      have n2 := mixT_n t x 0 oy r
      repeat' (refine all_true_cons ?_ ?_)
      all_goals first | exact all_true_nil | (simp only [m0, m1, n1, n2, Bool.and_eq_true, decide_eq_true_eq, beq_iff_eq, beq_true, beq_false, Bool.not_eq_true', decide_eq_false_iff_not, beq_eq_false_iff_ne, ne_eq, Bool.not_eq_false', bne_iff_ne, true_and, and_true] <;> omega)
    · have e : s2.good (s2_next ⟨b, v, x, t, nb, nw, lx, oy, ly, r, N, R, i⟩) = decide (0 ≤ (i + 2 : Int) ∧ (i + 2 : Int) ≤ N ∧ (i + 2 : Int) % 2 = 0 ∧ N % 2 = 0 ∧ N ≤ 1000000 ∧ 1 ≤ r ∧ r ≤ 1000 ∧ R = 32 * r ∧ (oy : Int) = 32 * r ∧ (lx : Int) = 64 * r ∧ (ly : Int) = 32 * r ∧ 64 * r ≤ (keepX x t oy r : Vec 32).n ∧ (keepT x t oy r : Vec 32).n = 16 ∧ N * R ≤ nw ∧ nw ≤ (keepV v x t nw oy r R i : Vec 32).n ∧ nw ≤ 1000000000) := by kernel_rfl
      refine e.trans (decide_eq_true ?_)
      rw [keepV_n, keepX_n, keepT_n]
      omega
    · have e : s2.rem (s2_next ⟨b, v, x, t, nb, nw, lx, oy, ly, r, N, R, i⟩) = (((N - (i + 2 : Int)) / 2).toNat) := by kernel_rfl
      refine e.trans ?_
      omega
  · rintro ⟨b, v, x, t, nb, nw, lx, oy, ly, r, N, R, i⟩ hg hr
    have hg : 0 ≤ i ∧ i ≤ N ∧ i % 2 = 0 ∧ N % 2 = 0 ∧ N ≤ 1000000 ∧ 1 ≤ r ∧ r ≤ 1000 ∧ R = 32 * r ∧ (oy : Int) = 32 * r ∧ (lx : Int) = 64 * r ∧ (ly : Int) = 32 * r ∧ 64 * r ≤ x.n ∧ t.n = 16 ∧ N * R ≤ nw ∧ nw ≤ v.n ∧ nw ≤ 1000000000 := of_decide_eq_true hg
    have hr : ((N - i) / 2).toNat = 0 := hr
    obtain ⟨g1, g2, g3, g4, g5, g6, g7, g8, g9, g10, g11, g12, g13, g14, g15, g16⟩ := hg
    refine ⟨[false], none, _, s2_end b v x t nb nw lx oy ly r N R i, ?_⟩
    repeat' (refine all_true_cons ?_ ?_)
    all_goals first | exact all_true_nil | rfl | (simp only [Bool.and_eq_true, decide_eq_true_eq, beq_iff_eq, beq_true, beq_false, Bool.not_eq_true', decide_eq_false_iff_not, beq_eq_false_iff_ne, ne_eq, Bool.not_eq_false', bne_iff_ne, true_and, and_true] <;> omega)
def s2_spec : LSpec := s2.T.told
theorem s2_told : Told 27 1 s2_spec := s2_toldL.run
structure s3D where
  b : Vec 8
  v : Vec 32
  x : Vec 32
  t : Vec 32
  nb : Nat
  nw : Nat
  lx : Nat
  oy : Nat
  ly : Nat
  r : Int
  N : Int
  R : Int
  i : Int
def s3_st (d : s3D) : Fr × List Blk :=
  match d with
  | ⟨b, v, x, t, nb, nw, lx, oy, ly, r, N, R, i⟩ => (⟨[(.ref (.sl 0 (.c 0) (.s nb) none)), (.num (.int .i64 (.s r))), (.num (.int .i64 (.s N))), (.ref (.sl 1 (.c 0) (.s nw) none)), (.atom .undef), (.atom .undef), (.atom .undef), (.atom .undef), (.atom .undef), (.atom .undef), (.ref (.ptr 3 (.c 0))), (.num (.int .i64 (.s R))), (.ref (.sl 2 (.c 0) (.s lx) none)), (.ref (.sl 2 (.s oy) (.s ly) none)), (.atom .undef), (.atom .undef), (.atom .undef), (.num (.int .i64 (.s i))), (.atom .undef), (.atom .undef), (.atom .undef)], []⟩, [⟨(.b8 b), .own⟩, ⟨(.b32 v), .own⟩, ⟨(.b32 x), .own⟩, ⟨(.b32 t), .own⟩])
def s3_next (d : s3D) : s3D :=
  match d with
  | ⟨b, v, x, t, nb, nw, lx, oy, ly, r, N, R, i⟩ => ⟨b, v, pickX x v t oy r N R, pickT x v t oy r N R, nb, nw, lx, oy, ly, r, N, R, i + 2⟩
def s3_rd (F : Fr) (K : List Blk) : Option s3D :=
    match F with
    | ⟨[(.ref (.sl 0 (.c 0) (.s nb) none)), (.num (.int .i64 (.s r))), (.num (.int .i64 (.s N))), (.ref (.sl 1 (.c 0) (.s nw) none)), (.atom .undef), (.atom .undef), (.atom .undef), (.atom .undef), (.atom .undef), (.atom .undef), (.ref (.ptr 3 (.c 0))), (.num (.int .i64 (.s R))), (.ref (.sl 2 (.c 0) (.s lx) none)), (.ref (.sl 2 (.s oy) (.s ly) none)), (.atom .undef), (.atom .undef), (.atom .undef), (.num (.int .i64 (.s i))), (.atom .undef), (.atom .undef), (.atom .undef)], []⟩ =>
      match K with
      | [⟨(.b8 b), .own⟩, ⟨(.b32 v), .own⟩, ⟨(.b32 x), .own⟩, ⟨(.b32 t), .own⟩] => some ⟨b, v, x, t, nb, nw, lx, oy, ly, r, N, R, i⟩
      | _ => none
    | _ => none
def s3 : LoopP s3D where
  pat := ⟨[(.ref (.sl 0 (.c 0) (.s 0) none)), (.num (.int .i64 (.s 0))), (.num (.int .i64 (.s 0))), (.ref (.sl 1 (.c 0) (.s 0) none)), (.atom .undef), (.atom .undef), (.atom .undef), (.atom .undef), (.atom .undef), (.atom .undef), (.ref (.ptr 3 (.c 0))), (.num (.int .i64 (.s 0))), (.ref (.sl 2 (.c 0) (.s 0) none)), (.ref (.sl 2 (.s 0) (.s 0) none)), (.atom .undef), (.atom .undef), (.atom .undef), (.num (.int .i64 (.s 0))), (.atom .undef), (.atom .undef), (.atom .undef)], []⟩
  patH := [⟨(.b8 (Vec.zero 8 0)), .own⟩, ⟨(.b32 (Vec.zero 32 0)), .own⟩, ⟨(.b32 (Vec.zero 32 0)), .own⟩, ⟨(.b32 (Vec.zero 32 0)), .own⟩]
  gh := []
  read := s3_rd
  st := s3_st
  next := s3_next
  rem := fun ⟨_, _, _, _, _, _, _, _, _, _, N, _, i⟩ => ((N - i) / 2).toNat
  good := fun ⟨_, v, x, t, _, nw, lx, oy, ly, r, N, R, i⟩ => decide (0 ≤ i ∧ i ≤ N ∧ i % 2 = 0 ∧ N % 2 = 0 ∧ N ≤ 1000000 ∧ 1 ≤ r ∧ r ≤ 1000 ∧ R = 32 * r ∧ (oy : Int) = 32 * r ∧ (lx : Int) = 64 * r ∧ (ly : Int) = 32 * r ∧ 64 * r ≤ x.n ∧ t.n = 16 ∧ N * R ≤ nw ∧ nw ≤ v.n ∧ nw ≤ 1000000000)
  out := .exit 4
  fin := s3_st
theorem s3_round (b : Vec 8) (v x t : Vec 32) (nb nw lx oy ly : Nat) (r N R i : Int) : ranAs ((s3.st ⟨b, v, x, t, nb, nw, lx, oy, ly, r, N, R, i⟩).2.length - s3.gh.length) none (s3.st (s3_next ⟨b, v, x, t, nb, nw, lx, oy, ly, r, N, R, i⟩)) (goL specsS noLoop 27 2 (s3.st ⟨b, v, x, t, nb, nw, lx, oy, ly, r, N, R, i⟩).1 ⟨(s3.st ⟨b, v, x, t, nb, nw, lx, oy, ly, r, N, R, i⟩).2, big, [true], []⟩) = some (.normal, (s3.st (s3_next ⟨b, v, x, t, nb, nw, lx, oy, ly, r, N, R, i⟩)), [decide (((-9223372036854775808) ≤ (i + 2) ∧ (i + 2) ≤ 9223372036854775807)), decide (((1 : Int) ≤ r ∧ (r ≤ 1000000 ∧ ((mixT t (xorD x 0 v (0 + ((((((((((x.l.getD (0 + ((((((2 * r) - 1) * 16)) : Int).toNat * 1)) (0#32)).setWidth 64) ||| (((x.l.getD (0 + (((((((2 * r) - 1) * 16) + 1)) : Int).toNat * 1)) (0#32)).setWidth 64) <<< 32)) &&& (BitVec.ofInt 64 (N - 1)))).toNat : Nat) : Int) * R)) : Int).toNat) ((R) : Int).toNat) 0 oy r).n = 16 ∧ ((((oy : Nat) : Int) + (32 * r)) ≤ (((xorD (mixC t (xorD x 0 v (0 + ((((((((((x.l.getD (0 + ((((((2 * r) - 1) * 16)) : Int).toNat * 1)) (0#32)).setWidth 64) ||| (((x.l.getD (0 + (((((((2 * r) - 1) * 16) + 1)) : Int).toNat * 1)) (0#32)).setWidth 64) <<< 32)) &&& (BitVec.ofInt 64 (N - 1)))).toNat : Nat) : Int) * R)) : Int).toNat) ((R) : Int).toNat) 0 oy r) oy v (0 + (((((((((((mixC t (xorD x 0 v (0 + ((((((((((x.l.getD (0 + ((((((2 * r) - 1) * 16)) : Int).toNat * 1)) (0#32)).setWidth 64) ||| (((x.l.getD (0 + (((((((2 * r) - 1) * 16) + 1)) : Int).toNat * 1)) (0#32)).setWidth 64) <<< 32)) &&& (BitVec.ofInt 64 (N - 1)))).toNat : Nat) : Int) * R)) : Int).toNat) ((R) : Int).toNat) 0 oy r).l.getD (oy + ((((((2 * r) - 1) * 16)) : Int).toNat * 1)) (0#32)).setWidth 64) ||| ((((mixC t (xorD x 0 v (0 + ((((((((((x.l.getD (0 + ((((((2 * r) - 1) * 16)) : Int).toNat * 1)) (0#32)).setWidth 64) ||| (((x.l.getD (0 + (((((((2 * r) - 1) * 16) + 1)) : Int).toNat * 1)) (0#32)).setWidth 64) <<< 32)) &&& (BitVec.ofInt 64 (N - 1)))).toNat : Nat) : Int) * R)) : Int).toNat) ((R) : Int).toNat) 0 oy r).l.getD (oy + (((((((2 * r) - 1) * 16) + 1)) : Int).toNat * 1)) (0#32)).setWidth 64) <<< 32)) &&& (BitVec.ofInt 64 (N - 1)))).toNat : Nat) : Int) * R)) : Int).toNat) ((R) : Int).toNat).n : Nat) : Int) ∧ ((32 * r) ≤ ((ly : Nat) : Int) ∧ ((((0 : Nat) : Int) + (32 * r)) ≤ (((xorD (mixC t (xorD x 0 v (0 + ((((((((((x.l.getD (0 + ((((((2 * r) - 1) * 16)) : Int).toNat * 1)) (0#32)).setWidth 64) ||| (((x.l.getD (0 + (((((((2 * r) - 1) * 16) + 1)) : Int).toNat * 1)) (0#32)).setWidth 64) <<< 32)) &&& (BitVec.ofInt 64 (N - 1)))).toNat : Nat) : Int) * R)) : Int).toNat) ((R) : Int).toNat) 0 oy r) oy v (0 + (((((((((((mixC t (xorD x 0 v (0 + ((((((((((x.l.getD (0 + ((((((2 * r) - 1) * 16)) : Int).toNat * 1)) (0#32)).setWidth 64) ||| (((x.l.getD (0 + (((((((2 * r) - 1) * 16) + 1)) : Int).toNat * 1)) (0#32)).setWidth 64) <<< 32)) &&& (BitVec.ofInt 64 (N - 1)))).toNat : Nat) : Int) * R)) : Int).toNat) ((R) : Int).toNat) 0 oy r).l.getD (oy + ((((((2 * r) - 1) * 16)) : Int).toNat * 1)) (0#32)).setWidth 64) ||| ((((mixC t (xorD x 0 v (0 + ((((((((((x.l.getD (0 + ((((((2 * r) - 1) * 16)) : Int).toNat * 1)) (0#32)).setWidth 64) ||| (((x.l.getD (0 + (((((((2 * r) - 1) * 16) + 1)) : Int).toNat * 1)) (0#32)).setWidth 64) <<< 32)) &&& (BitVec.ofInt 64 (N - 1)))).toNat : Nat) : Int) * R)) : Int).toNat) ((R) : Int).toNat) 0 oy r).l.getD (oy + (((((((2 * r) - 1) * 16) + 1)) : Int).toNat * 1)) (0#32)).setWidth 64) <<< 32)) &&& (BitVec.ofInt 64 (N - 1)))).toNat : Nat) : Int) * R)) : Int).toNat) ((R) : Int).toNat).n : Nat) : Int) ∧ (32 * r) ≤ ((lx : Nat) : Int)))))))), decide (((0 : Int) ≤ R ∧ (R ≤ ((ly : Nat) : Int) ∧ (R ≤ (((((((nw : Nat) : Int)) : Int).toNat - (((((((((((mixC t (xorD x 0 v (0 + ((((((((((x.l.getD (0 + ((((((2 * r) - 1) * 16)) : Int).toNat * 1)) (0#32)).setWidth 64) ||| (((x.l.getD (0 + (((((((2 * r) - 1) * 16) + 1)) : Int).toNat * 1)) (0#32)).setWidth 64) <<< 32)) &&& (BitVec.ofInt 64 (N - 1)))).toNat : Nat) : Int) * R)) : Int).toNat) ((R) : Int).toNat) 0 oy r).l.getD (oy + ((((((2 * r) - 1) * 16)) : Int).toNat * 1)) (0#32)).setWidth 64) ||| ((((mixC t (xorD x 0 v (0 + ((((((((((x.l.getD (0 + ((((((2 * r) - 1) * 16)) : Int).toNat * 1)) (0#32)).setWidth 64) ||| (((x.l.getD (0 + (((((((2 * r) - 1) * 16) + 1)) : Int).toNat * 1)) (0#32)).setWidth 64) <<< 32)) &&& (BitVec.ofInt 64 (N - 1)))).toNat : Nat) : Int) * R)) : Int).toNat) ((R) : Int).toNat) 0 oy r).l.getD (oy + (((((((2 * r) - 1) * 16) + 1)) : Int).toNat * 1)) (0#32)).setWidth 64) <<< 32)) &&& (BitVec.ofInt 64 (N - 1)))).toNat : Nat) : Int) * R)) : Int).toNat) : Nat) : Int) ∧ ((oy + ((R) : Int).toNat) ≤ (mixC t (xorD x 0 v (0 + ((((((((((x.l.getD (0 + ((((((2 * r) - 1) * 16)) : Int).toNat * 1)) (0#32)).setWidth 64) ||| (((x.l.getD (0 + (((((((2 * r) - 1) * 16) + 1)) : Int).toNat * 1)) (0#32)).setWidth 64) <<< 32)) &&& (BitVec.ofInt 64 (N - 1)))).toNat : Nat) : Int) * R)) : Int).toNat) ((R) : Int).toNat) 0 oy r).n ∧ (((0 + (((((((((((mixC t (xorD x 0 v (0 + ((((((((((x.l.getD (0 + ((((((2 * r) - 1) * 16)) : Int).toNat * 1)) (0#32)).setWidth 64) ||| (((x.l.getD (0 + (((((((2 * r) - 1) * 16) + 1)) : Int).toNat * 1)) (0#32)).setWidth 64) <<< 32)) &&& (BitVec.ofInt 64 (N - 1)))).toNat : Nat) : Int) * R)) : Int).toNat) ((R) : Int).toNat) 0 oy r).l.getD (oy + ((((((2 * r) - 1) * 16)) : Int).toNat * 1)) (0#32)).setWidth 64) ||| ((((mixC t (xorD x 0 v (0 + ((((((((((x.l.getD (0 + ((((((2 * r) - 1) * 16)) : Int).toNat * 1)) (0#32)).setWidth 64) ||| (((x.l.getD (0 + (((((((2 * r) - 1) * 16) + 1)) : Int).toNat * 1)) (0#32)).setWidth 64) <<< 32)) &&& (BitVec.ofInt 64 (N - 1)))).toNat : Nat) : Int) * R)) : Int).toNat) ((R) : Int).toNat) 0 oy r).l.getD (oy + (((((((2 * r) - 1) * 16) + 1)) : Int).toNat * 1)) (0#32)).setWidth 64) <<< 32)) &&& (BitVec.ofInt 64 (N - 1)))).toNat : Nat) : Int) * R)) : Int).toNat) + ((R) : Int).toNat) ≤ v.n ∧ R ≤ 1000000)))))), ((decide ((0 : Int) ≤ (((((((((mixC t (xorD x 0 v (0 + ((((((((((x.l.getD (0 + ((((((2 * r) - 1) * 16)) : Int).toNat * 1)) (0#32)).setWidth 64) ||| (((x.l.getD (0 + (((((((2 * r) - 1) * 16) + 1)) : Int).toNat * 1)) (0#32)).setWidth 64) <<< 32)) &&& (BitVec.ofInt 64 (N - 1)))).toNat : Nat) : Int) * R)) : Int).toNat) ((R) : Int).toNat) 0 oy r).l.getD (oy + ((((((2 * r) - 1) * 16)) : Int).toNat * 1)) (0#32)).setWidth 64) ||| ((((mixC t (xorD x 0 v (0 + ((((((((((x.l.getD (0 + ((((((2 * r) - 1) * 16)) : Int).toNat * 1)) (0#32)).setWidth 64) ||| (((x.l.getD (0 + (((((((2 * r) - 1) * 16) + 1)) : Int).toNat * 1)) (0#32)).setWidth 64) <<< 32)) &&& (BitVec.ofInt 64 (N - 1)))).toNat : Nat) : Int) * R)) : Int).toNat) ((R) : Int).toNat) 0 oy r).l.getD (oy + (((((((2 * r) - 1) * 16) + 1)) : Int).toNat * 1)) (0#32)).setWidth 64) <<< 32)) &&& (BitVec.ofInt 64 (N - 1)))).toNat : Nat) : Int) * R)) && decide ((((((((((mixC t (xorD x 0 v (0 + ((((((((((x.l.getD (0 + ((((((2 * r) - 1) * 16)) : Int).toNat * 1)) (0#32)).setWidth 64) ||| (((x.l.getD (0 + (((((((2 * r) - 1) * 16) + 1)) : Int).toNat * 1)) (0#32)).setWidth 64) <<< 32)) &&& (BitVec.ofInt 64 (N - 1)))).toNat : Nat) : Int) * R)) : Int).toNat) ((R) : Int).toNat) 0 oy r).l.getD (oy + ((((((2 * r) - 1) * 16)) : Int).toNat * 1)) (0#32)).setWidth 64) ||| ((((mixC t (xorD x 0 v (0 + ((((((((((x.l.getD (0 + ((((((2 * r) - 1) * 16)) : Int).toNat * 1)) (0#32)).setWidth 64) ||| (((x.l.getD (0 + (((((((2 * r) - 1) * 16) + 1)) : Int).toNat * 1)) (0#32)).setWidth 64) <<< 32)) &&& (BitVec.ofInt 64 (N - 1)))).toNat : Nat) : Int) * R)) : Int).toNat) ((R) : Int).toNat) 0 oy r).l.getD (oy + (((((((2 * r) - 1) * 16) + 1)) : Int).toNat * 1)) (0#32)).setWidth 64) <<< 32)) &&& (BitVec.ofInt 64 (N - 1)))).toNat : Nat) : Int) * R) ≤ ((nw : Nat) : Int))) && decide (((nw : Nat) : Int) ≤ ((nw : Nat) : Int))), decide (((-9223372036854775808) ≤ (((((((((mixC t (xorD x 0 v (0 + ((((((((((x.l.getD (0 + ((((((2 * r) - 1) * 16)) : Int).toNat * 1)) (0#32)).setWidth 64) ||| (((x.l.getD (0 + (((((((2 * r) - 1) * 16) + 1)) : Int).toNat * 1)) (0#32)).setWidth 64) <<< 32)) &&& (BitVec.ofInt 64 (N - 1)))).toNat : Nat) : Int) * R)) : Int).toNat) ((R) : Int).toNat) 0 oy r).l.getD (oy + ((((((2 * r) - 1) * 16)) : Int).toNat * 1)) (0#32)).setWidth 64) ||| ((((mixC t (xorD x 0 v (0 + ((((((((((x.l.getD (0 + ((((((2 * r) - 1) * 16)) : Int).toNat * 1)) (0#32)).setWidth 64) ||| (((x.l.getD (0 + (((((((2 * r) - 1) * 16) + 1)) : Int).toNat * 1)) (0#32)).setWidth 64) <<< 32)) &&& (BitVec.ofInt 64 (N - 1)))).toNat : Nat) : Int) * R)) : Int).toNat) ((R) : Int).toNat) 0 oy r).l.getD (oy + (((((((2 * r) - 1) * 16) + 1)) : Int).toNat * 1)) (0#32)).setWidth 64) <<< 32)) &&& (BitVec.ofInt 64 (N - 1)))).toNat : Nat) : Int) * R) ∧ (((((((((mixC t (xorD x 0 v (0 + ((((((((((x.l.getD (0 + ((((((2 * r) - 1) * 16)) : Int).toNat * 1)) (0#32)).setWidth 64) ||| (((x.l.getD (0 + (((((((2 * r) - 1) * 16) + 1)) : Int).toNat * 1)) (0#32)).setWidth 64) <<< 32)) &&& (BitVec.ofInt 64 (N - 1)))).toNat : Nat) : Int) * R)) : Int).toNat) ((R) : Int).toNat) 0 oy r).l.getD (oy + ((((((2 * r) - 1) * 16)) : Int).toNat * 1)) (0#32)).setWidth 64) ||| ((((mixC t (xorD x 0 v (0 + ((((((((((x.l.getD (0 + ((((((2 * r) - 1) * 16)) : Int).toNat * 1)) (0#32)).setWidth 64) ||| (((x.l.getD (0 + (((((((2 * r) - 1) * 16) + 1)) : Int).toNat * 1)) (0#32)).setWidth 64) <<< 32)) &&& (BitVec.ofInt 64 (N - 1)))).toNat : Nat) : Int) * R)) : Int).toNat) ((R) : Int).toNat) 0 oy r).l.getD (oy + (((((((2 * r) - 1) * 16) + 1)) : Int).toNat * 1)) (0#32)).setWidth 64) <<< 32)) &&& (BitVec.ofInt 64 (N - 1)))).toNat : Nat) : Int) * R) ≤ 9223372036854775807)), decide (((((((((mixC t (xorD x 0 v (0 + ((((((((((x.l.getD (0 + ((((((2 * r) - 1) * 16)) : Int).toNat * 1)) (0#32)).setWidth 64) ||| (((x.l.getD (0 + (((((((2 * r) - 1) * 16) + 1)) : Int).toNat * 1)) (0#32)).setWidth 64) <<< 32)) &&& (BitVec.ofInt 64 (N - 1)))).toNat : Nat) : Int) * R)) : Int).toNat) ((R) : Int).toNat) 0 oy r).l.getD (oy + ((((((2 * r) - 1) * 16)) : Int).toNat * 1)) (0#32)).setWidth 64) ||| ((((mixC t (xorD x 0 v (0 + ((((((((((x.l.getD (0 + ((((((2 * r) - 1) * 16)) : Int).toNat * 1)) (0#32)).setWidth 64) ||| (((x.l.getD (0 + (((((((2 * r) - 1) * 16) + 1)) : Int).toNat * 1)) (0#32)).setWidth 64) <<< 32)) &&& (BitVec.ofInt 64 (N - 1)))).toNat : Nat) : Int) * R)) : Int).toNat) ((R) : Int).toNat) 0 oy r).l.getD (oy + (((((((2 * r) - 1) * 16) + 1)) : Int).toNat * 1)) (0#32)).setWidth 64) <<< 32)) &&& (BitVec.ofInt 64 (N - 1)))).toNat : Nat) : Int) ≤ 9223372036854775807), decide (((-9223372036854775808) ≤ (N - 1) ∧ (N - 1) ≤ 9223372036854775807)), decide ((oy + (((((((2 * r) - 1) * 16) + 1)) : Int).toNat * 1)) < (mixC t (xorD x 0 v (0 + ((((((((((x.l.getD (0 + ((((((2 * r) - 1) * 16)) : Int).toNat * 1)) (0#32)).setWidth 64) ||| (((x.l.getD (0 + (((((((2 * r) - 1) * 16) + 1)) : Int).toNat * 1)) (0#32)).setWidth 64) <<< 32)) &&& (BitVec.ofInt 64 (N - 1)))).toNat : Nat) : Int) * R)) : Int).toNat) ((R) : Int).toNat) 0 oy r).n), (decide ((0 : Int) ≤ ((((2 * r) - 1) * 16) + 1)) && decide (((((2 * r) - 1) * 16) + 1) < ((ly : Nat) : Int))), decide (((-9223372036854775808) ≤ ((((2 * r) - 1) * 16) + 1) ∧ ((((2 * r) - 1) * 16) + 1) ≤ 9223372036854775807)), decide ((oy + ((((((2 * r) - 1) * 16)) : Int).toNat * 1)) < (mixC t (xorD x 0 v (0 + ((((((((((x.l.getD (0 + ((((((2 * r) - 1) * 16)) : Int).toNat * 1)) (0#32)).setWidth 64) ||| (((x.l.getD (0 + (((((((2 * r) - 1) * 16) + 1)) : Int).toNat * 1)) (0#32)).setWidth 64) <<< 32)) &&& (BitVec.ofInt 64 (N - 1)))).toNat : Nat) : Int) * R)) : Int).toNat) ((R) : Int).toNat) 0 oy r).n), (decide ((0 : Int) ≤ (((2 * r) - 1) * 16)) && decide ((((2 * r) - 1) * 16) < ((ly : Nat) : Int))), decide (((-9223372036854775808) ≤ (((2 * r) - 1) * 16) ∧ (((2 * r) - 1) * 16) ≤ 9223372036854775807)), decide (((-9223372036854775808) ≤ ((2 * r) - 1) ∧ ((2 * r) - 1) ≤ 9223372036854775807)), decide (((-9223372036854775808) ≤ (2 * r) ∧ (2 * r) ≤ 9223372036854775807)), decide (((1 : Int) ≤ r ∧ (r ≤ 1000000 ∧ (t.n = 16 ∧ ((((0 : Nat) : Int) + (32 * r)) ≤ (((xorD x 0 v (0 + ((((((((((x.l.getD (0 + ((((((2 * r) - 1) * 16)) : Int).toNat * 1)) (0#32)).setWidth 64) ||| (((x.l.getD (0 + (((((((2 * r) - 1) * 16) + 1)) : Int).toNat * 1)) (0#32)).setWidth 64) <<< 32)) &&& (BitVec.ofInt 64 (N - 1)))).toNat : Nat) : Int) * R)) : Int).toNat) ((R) : Int).toNat).n : Nat) : Int) ∧ ((32 * r) ≤ ((lx : Nat) : Int) ∧ ((((oy : Nat) : Int) + (32 * r)) ≤ (((xorD x 0 v (0 + ((((((((((x.l.getD (0 + ((((((2 * r) - 1) * 16)) : Int).toNat * 1)) (0#32)).setWidth 64) ||| (((x.l.getD (0 + (((((((2 * r) - 1) * 16) + 1)) : Int).toNat * 1)) (0#32)).setWidth 64) <<< 32)) &&& (BitVec.ofInt 64 (N - 1)))).toNat : Nat) : Int) * R)) : Int).toNat) ((R) : Int).toNat).n : Nat) : Int) ∧ (32 * r) ≤ ((ly : Nat) : Int)))))))), decide (((0 : Int) ≤ R ∧ (R ≤ ((lx : Nat) : Int) ∧ (R ≤ (((((((nw : Nat) : Int)) : Int).toNat - ((((((((((x.l.getD (0 + ((((((2 * r) - 1) * 16)) : Int).toNat * 1)) (0#32)).setWidth 64) ||| (((x.l.getD (0 + (((((((2 * r) - 1) * 16) + 1)) : Int).toNat * 1)) (0#32)).setWidth 64) <<< 32)) &&& (BitVec.ofInt 64 (N - 1)))).toNat : Nat) : Int) * R)) : Int).toNat) : Nat) : Int) ∧ ((0 + ((R) : Int).toNat) ≤ x.n ∧ (((0 + ((((((((((x.l.getD (0 + ((((((2 * r) - 1) * 16)) : Int).toNat * 1)) (0#32)).setWidth 64) ||| (((x.l.getD (0 + (((((((2 * r) - 1) * 16) + 1)) : Int).toNat * 1)) (0#32)).setWidth 64) <<< 32)) &&& (BitVec.ofInt 64 (N - 1)))).toNat : Nat) : Int) * R)) : Int).toNat) + ((R) : Int).toNat) ≤ v.n ∧ R ≤ 1000000)))))), ((decide ((0 : Int) ≤ ((((((((x.l.getD (0 + ((((((2 * r) - 1) * 16)) : Int).toNat * 1)) (0#32)).setWidth 64) ||| (((x.l.getD (0 + (((((((2 * r) - 1) * 16) + 1)) : Int).toNat * 1)) (0#32)).setWidth 64) <<< 32)) &&& (BitVec.ofInt 64 (N - 1)))).toNat : Nat) : Int) * R)) && decide (((((((((x.l.getD (0 + ((((((2 * r) - 1) * 16)) : Int).toNat * 1)) (0#32)).setWidth 64) ||| (((x.l.getD (0 + (((((((2 * r) - 1) * 16) + 1)) : Int).toNat * 1)) (0#32)).setWidth 64) <<< 32)) &&& (BitVec.ofInt 64 (N - 1)))).toNat : Nat) : Int) * R) ≤ ((nw : Nat) : Int))) && decide (((nw : Nat) : Int) ≤ ((nw : Nat) : Int))), decide (((-9223372036854775808) ≤ ((((((((x.l.getD (0 + ((((((2 * r) - 1) * 16)) : Int).toNat * 1)) (0#32)).setWidth 64) ||| (((x.l.getD (0 + (((((((2 * r) - 1) * 16) + 1)) : Int).toNat * 1)) (0#32)).setWidth 64) <<< 32)) &&& (BitVec.ofInt 64 (N - 1)))).toNat : Nat) : Int) * R) ∧ ((((((((x.l.getD (0 + ((((((2 * r) - 1) * 16)) : Int).toNat * 1)) (0#32)).setWidth 64) ||| (((x.l.getD (0 + (((((((2 * r) - 1) * 16) + 1)) : Int).toNat * 1)) (0#32)).setWidth 64) <<< 32)) &&& (BitVec.ofInt 64 (N - 1)))).toNat : Nat) : Int) * R) ≤ 9223372036854775807)), decide ((((((((x.l.getD (0 + ((((((2 * r) - 1) * 16)) : Int).toNat * 1)) (0#32)).setWidth 64) ||| (((x.l.getD (0 + (((((((2 * r) - 1) * 16) + 1)) : Int).toNat * 1)) (0#32)).setWidth 64) <<< 32)) &&& (BitVec.ofInt 64 (N - 1)))).toNat : Nat) : Int) ≤ 9223372036854775807), decide (((-9223372036854775808) ≤ (N - 1) ∧ (N - 1) ≤ 9223372036854775807)), decide ((0 + (((((((2 * r) - 1) * 16) + 1)) : Int).toNat * 1)) < x.n), (decide ((0 : Int) ≤ ((((2 * r) - 1) * 16) + 1)) && decide (((((2 * r) - 1) * 16) + 1) < ((lx : Nat) : Int))), decide (((-9223372036854775808) ≤ ((((2 * r) - 1) * 16) + 1) ∧ ((((2 * r) - 1) * 16) + 1) ≤ 9223372036854775807)), decide ((0 + ((((((2 * r) - 1) * 16)) : Int).toNat * 1)) < x.n), (decide ((0 : Int) ≤ (((2 * r) - 1) * 16)) && decide ((((2 * r) - 1) * 16) < ((lx : Nat) : Int))), decide (((-9223372036854775808) ≤ (((2 * r) - 1) * 16) ∧ (((2 * r) - 1) * 16) ≤ 9223372036854775807)), decide (((-9223372036854775808) ≤ ((2 * r) - 1) ∧ ((2 * r) - 1) ≤ 9223372036854775807)), decide (((-9223372036854775808) ≤ (2 * r) ∧ (2 * r) ≤ 9223372036854775807)), (decide (i < N) == true)]) := by kernel_rfl
theorem s3_end (b : Vec 8) (v x t : Vec 32) (nb nw lx oy ly : Nat) (r N R i : Int) : ranAs ((s3.st ⟨b, v, x, t, nb, nw, lx, oy, ly, r, N, R, i⟩).2.length - s3.gh.length) none (s3.fin ⟨b, v, x, t, nb, nw, lx, oy, ly, r, N, R, i⟩) (goL specsS noLoop 27 2 (s3.st ⟨b, v, x, t, nb, nw, lx, oy, ly, r, N, R, i⟩).1 ⟨(s3.st ⟨b, v, x, t, nb, nw, lx, oy, ly, r, N, R, i⟩).2, big, [false], []⟩) = some (s3.out, (s3.fin ⟨b, v, x, t, nb, nw, lx, oy, ly, r, N, R, i⟩), [(decide (i < N) == false)]) := by kernel_rfl
set_option maxRecDepth 100000 in
theorem s3_read (F : Fr) (K : List Blk) (d : s3D) (h : s3.read F K = some d) : (F, K) = s3.st d := by
  replace h : s3_rd F K = some d := h
  unfold s3_rd at h
  split at h
  case h_2 => cases h
  split at h
  case h_2 => cases h
  injection h with h; subst h
  rfl
theorem s3_body : RunOk Try.prog noGlob (nv 27) (ntmpsIn Try.prog 27) (loopIn Try.prog 27 2) (goL specsS noLoop 27 2) := goL_ok specsS_ok (no_loops _) 27 2 fine27 (by rw [show (loopsIn Try.prog 27).length = 4 by kernel_rfl]; omega)
theorem s3_toldL : LoopOk Try.prog noGlob (nv 27) (ntmpsIn Try.prog 27) (loopIn Try.prog 27 2) s3.T.told := by
  refine s3.ran s3_body (by intro k hk; have hk : k ∈ ([] : List Blk) := hk; cases hk) (by intro h; cases h) s3_read ?_ ?_
  · rintro ⟨b, v, x, t, nb, nw, lx, oy, ly, r, N, R, i⟩ kk hg hr
    have hg : 0 ≤ i ∧ i ≤ N ∧ i % 2 = 0 ∧ N % 2 = 0 ∧ N ≤ 1000000 ∧ 1 ≤ r ∧ r ≤ 1000 ∧ R = 32 * r ∧ (oy : Int) = 32 * r ∧ (lx : Int) = 64 * r ∧ (ly : Int) = 32 * r ∧ 64 * r ≤ x.n ∧ t.n = 16 ∧ N * R ≤ nw ∧ nw ≤ v.n ∧ nw ≤ 1000000000 := of_decide_eq_true hg
    have hr : ((N - i) / 2).toNat = kk + 1 := hr
    obtain ⟨g1, g2, g3, g4, g5, g6, g7, g8, g9, g10, g11, g12, g13, g14, g15, g16⟩ := hg
    have en : s3.next ⟨b, v, x, t, nb, nw, lx, oy, ly, r, N, R, i⟩ = s3_next ⟨b, v, x, t, nb, nw, lx, oy, ly, r, N, R, i⟩ := rfl
    rw [en]
    refine ⟨⟨[true], none, _, s3_round b v x t nb nw lx oy ly r N R i, ?_⟩, ?_, ?_, (show (s3.st (s3_next ⟨b, v, x, t, nb, nw, lx, oy, ly, r, N, R, i⟩)).2.length = 4 by kernel_rfl).trans (show (s3.st ⟨b, v, x, t, nb, nw, lx, oy, ly, r, N, R, i⟩).2.length = 4 by kernel_rfl).symm⟩
    · have i0 := idx_lt x 0 r N (by omega) (by omega)
      have i1 := idx_lt (half1 x v t oy r N R) oy r N (by omega) (by omega)
      have a0 := row_le ((idxW x 0 r N).toNat : Int) N R (by omega) i0 (by omega)
      have a1 := row_le ((idxW (half1 x v t oy r N R) oy r N).toNat : Int) N R (by omega) i1 (by omega)
      unfold half1 pickD at a1 i1
      unfold idxW at a0 a1 i0 i1
      repeat' (refine all_true_cons ?_ ?_)
      all_goals first | exact all_true_nil | (simp only [xorD_n, mixC_n, mixT_n, Bool.and_eq_true, decide_eq_true_eq, beq_iff_eq, beq_true, beq_false, Bool.not_eq_true', decide_eq_false_iff_not, beq_eq_false_iff_ne, ne_eq, Bool.not_eq_false', bne_iff_ne, true_and, and_true] <;> omega)
    · have e : s3.good (s3_next ⟨b, v, x, t, nb, nw, lx, oy, ly, r, N, R, i⟩) = decide (0 ≤ (i + 2 : Int) ∧ (i + 2 : Int) ≤ N ∧ (i + 2 : Int) % 2 = 0 ∧ N % 2 = 0 ∧ N ≤ 1000000 ∧ 1 ≤ r ∧ r ≤ 1000 ∧ R = 32 * r ∧ (oy : Int) = 32 * r ∧ (lx : Int) = 64 * r ∧ (ly : Int) = 32 * r ∧ 64 * r ≤ (pickX x v t oy r N R : Vec 32).n ∧ (pickT x v t oy r N R : Vec 32).n = 16 ∧ N * R ≤ nw ∧ nw ≤ v.n ∧ nw ≤ 1000000000) := by kernel_rfl
      refine e.trans (decide_eq_true ?_)
      rw [pickX_n, pickT_n]
      omega
    · have e : s3.rem (s3_next ⟨b, v, x, t, nb, nw, lx, oy, ly, r, N, R, i⟩) = (((N - (i + 2 : Int)) / 2).toNat) := by kernel_rfl
      refine e.trans ?_
      omega
  · rintro ⟨b, v, x, t, nb, nw, lx, oy, ly, r, N, R, i⟩ hg hr
    have hg : 0 ≤ i ∧ i ≤ N ∧ i % 2 = 0 ∧ N % 2 = 0 ∧ N ≤ 1000000 ∧ 1 ≤ r ∧ r ≤ 1000 ∧ R = 32 * r ∧ (oy : Int) = 32 * r ∧ (lx : Int) = 64 * r ∧ (ly : Int) = 32 * r ∧ 64 * r ≤ x.n ∧ t.n = 16 ∧ N * R ≤ nw ∧ nw ≤ v.n ∧ nw ≤ 1000000000 := of_decide_eq_true hg
    have hr : ((N - i) / 2).toNat = 0 := hr
    obtain ⟨g1, g2, g3, g4, g5, g6, g7, g8, g9, g10, g11, g12, g13, g14, g15, g16⟩ := hg
    refine ⟨[false], none, _, s3_end b v x t nb nw lx oy ly r N R i, ?_⟩
    repeat' (refine all_true_cons ?_ ?_)
    all_goals first | exact all_true_nil | rfl | (simp only [Bool.and_eq_true, decide_eq_true_eq, beq_iff_eq, beq_true, beq_false, Bool.not_eq_true', decide_eq_false_iff_not, beq_eq_false_iff_ne, ne_eq, Bool.not_eq_false', bne_iff_ne, true_and, and_true] <;> omega)
def s3_spec : LSpec := s3.T.told
theorem s3_told : Told 27 2 s3_spec := s3_toldL.run
structure s4D where
  b : Vec 8
  v : Vec 32
  x : Vec 32
  t : Vec 32
  nb : Nat
  m : Nat
  j : Int
  l : Int
  i : Int
def s4_st (d : s4D) : Fr × List Blk :=
  match d with
  | ⟨b, v, x, t, nb, m, j, l, i⟩ => (⟨[(.ref (.sl 0 (.c 0) (.s nb) none)), (.atom .undef), (.atom .undef), (.atom .undef), (.atom .undef), (.atom .undef), (.atom .undef), (.atom .undef), (.atom .undef), (.atom .undef), (.atom .undef), (.atom .undef), (.atom .undef), (.atom .undef), (.num (.int .i64 (.s j))), (.atom .undef), (.atom .undef), (.atom .undef), (.atom .undef), (.atom .undef), (.atom .undef)], [⟨119, (.ref (.sl 2 (.c 0) (.s m) none))⟩, ⟨120, (.num (.int .i64 (.s l)))⟩, ⟨121, (.num (.int .i64 (.s i)))⟩]⟩, [⟨(.b8 b), .own⟩, ⟨(.b32 v), .own⟩, ⟨(.b32 x), .own⟩, ⟨(.b32 t), .own⟩])
def s4_next (d : s4D) : s4D :=
  match d with
  | ⟨b, v, x, t, nb, m, j, l, i⟩ => ⟨put4B b (0 + j.toNat) (x.l.getD (0 + i.toNat * 1) 0#32), v, x, t, nb, m, j + 4, l, i + 1⟩
def s4_rd (F : Fr) (K : List Blk) : Option s4D :=
    match F with
    | ⟨[(.ref (.sl 0 (.c 0) (.s nb) none)), (.atom .undef), (.atom .undef), (.atom .undef), (.atom .undef), (.atom .undef), (.atom .undef), (.atom .undef), (.atom .undef), (.atom .undef), (.atom .undef), (.atom .undef), (.atom .undef), (.atom .undef), (.num (.int .i64 (.s j))), (.atom .undef), (.atom .undef), (.atom .undef), (.atom .undef), (.atom .undef), (.atom .undef)], [⟨119, (.ref (.sl 2 (.c 0) (.s m) none))⟩, ⟨120, (.num (.int .i64 (.s l)))⟩, ⟨121, (.num (.int .i64 (.s i)))⟩]⟩ =>
      match K with
      | [⟨(.b8 b), .own⟩, ⟨(.b32 v), .own⟩, ⟨(.b32 x), .own⟩, ⟨(.b32 t), .own⟩] => some ⟨b, v, x, t, nb, m, j, l, i⟩
      | _ => none
    | _ => none
def s4 : LoopP s4D where
  pat := ⟨[(.ref (.sl 0 (.c 0) (.s 0) none)), (.atom .undef), (.atom .undef), (.atom .undef), (.atom .undef), (.atom .undef), (.atom .undef), (.atom .undef), (.atom .undef), (.atom .undef), (.atom .undef), (.atom .undef), (.atom .undef), (.atom .undef), (.num (.int .i64 (.s 0))), (.atom .undef), (.atom .undef), (.atom .undef), (.atom .undef), (.atom .undef), (.atom .undef)], [⟨119, (.ref (.sl 2 (.c 0) (.s 0) none))⟩, ⟨120, (.num (.int .i64 (.s 0)))⟩, ⟨121, (.num (.int .i64 (.s 0)))⟩]⟩
  patH := [⟨(.b8 (Vec.zero 8 0)), .own⟩, ⟨(.b32 (Vec.zero 32 0)), .own⟩, ⟨(.b32 (Vec.zero 32 0)), .own⟩, ⟨(.b32 (Vec.zero 32 0)), .own⟩]
  gh := []
  read := s4_rd
  st := s4_st
  next := s4_next
  rem := fun ⟨_, _, _, _, _, _, _, l, i⟩ => (l - i).toNat
  good := fun ⟨b, _, x, _, nb, m, j, l, i⟩ => decide (0 ≤ i ∧ i ≤ l ∧ l = m ∧ j = 4 * i ∧ m ≤ x.n ∧ 4 * m ≤ nb ∧ nb ≤ b.n ∧ nb ≤ 100000000)
  out := .exit 6
  fin := s4_st
theorem s4_round (b : Vec 8) (v x t : Vec 32) (nb m : Nat) (j l i : Int) : ranAs ((s4.st ⟨b, v, x, t, nb, m, j, l, i⟩).2.length - s4.gh.length) (some [0, 1, 2, 3]) (s4.st (s4_next ⟨b, v, x, t, nb, m, j, l, i⟩)) (goL specsS noLoop 27 3 (s4.st ⟨b, v, x, t, nb, m, j, l, i⟩).1 ⟨(s4.st ⟨b, v, x, t, nb, m, j, l, i⟩).2, big, [true], []⟩) = some (.normal, (s4.st (s4_next ⟨b, v, x, t, nb, m, j, l, i⟩)), [decide (((-9223372036854775808) ≤ (i + 1) ∧ (i + 1) ≤ 9223372036854775807)), decide (((-9223372036854775808) ≤ (j + 4) ∧ (j + 4) ≤ 9223372036854775807)), decide (((0 + ((j) : Int).toNat) + 3) < b.n), (true && decide ((3 : Int) < (((((((nb : Nat) : Int)) : Int).toNat - ((j) : Int).toNat) : Nat) : Int))), decide (((0 + ((j) : Int).toNat) + 2) < b.n), (true && decide ((2 : Int) < (((((((nb : Nat) : Int)) : Int).toNat - ((j) : Int).toNat) : Nat) : Int))), decide (((0 + ((j) : Int).toNat) + 1) < b.n), (true && decide ((1 : Int) < (((((((nb : Nat) : Int)) : Int).toNat - ((j) : Int).toNat) : Nat) : Int))), decide (((0 + ((j) : Int).toNat) + 0) < b.n), (true && decide ((0 : Int) < (((((((nb : Nat) : Int)) : Int).toNat - ((j) : Int).toNat) : Nat) : Int))), decide (((0 + ((j) : Int).toNat) + 3) < b.n), (true && decide ((3 : Int) < (((((((nb : Nat) : Int)) : Int).toNat - ((j) : Int).toNat) : Nat) : Int))), ((decide ((0 : Int) ≤ j) && decide (j ≤ ((nb : Nat) : Int))) && decide (((nb : Nat) : Int) ≤ ((nb : Nat) : Int))), decide ((0 + (((i) : Int).toNat * 1)) < x.n), (decide ((0 : Int) ≤ i) && decide (i < ((m : Nat) : Int))), (decide (i < l) == true)]) := by kernel_rfl
theorem s4_end (b : Vec 8) (v x t : Vec 32) (nb m : Nat) (j l i : Int) : ranAs ((s4.st ⟨b, v, x, t, nb, m, j, l, i⟩).2.length - s4.gh.length) none (s4.fin ⟨b, v, x, t, nb, m, j, l, i⟩) (goL specsS noLoop 27 3 (s4.st ⟨b, v, x, t, nb, m, j, l, i⟩).1 ⟨(s4.st ⟨b, v, x, t, nb, m, j, l, i⟩).2, big, [false], []⟩) = some (s4.out, (s4.fin ⟨b, v, x, t, nb, m, j, l, i⟩), [(decide (i < l) == false)]) := by kernel_rfl
set_option maxRecDepth 100000 in
theorem s4_read (F : Fr) (K : List Blk) (d : s4D) (h : s4.read F K = some d) : (F, K) = s4.st d := by
  replace h : s4_rd F K = some d := h
  unfold s4_rd at h
  split at h
  case h_2 => cases h
  split at h
  case h_2 => cases h
  injection h with h; subst h
  rfl
theorem s4_body : RunOk Try.prog noGlob (nv 27) (ntmpsIn Try.prog 27) (loopIn Try.prog 27 3) (goL specsS noLoop 27 3) := goL_ok specsS_ok (no_loops _) 27 3 fine27 (by rw [show (loopsIn Try.prog 27).length = 4 by kernel_rfl]; omega)
theorem s4_toldL : LoopOk Try.prog noGlob (nv 27) (ntmpsIn Try.prog 27) (loopIn Try.prog 27 3) s4.T.told := by
  refine s4.ran s4_body (by intro k hk; have hk : k ∈ ([] : List Blk) := hk; cases hk) (by intro h; cases h) s4_read ?_ ?_
  · rintro ⟨b, v, x, t, nb, m, j, l, i⟩ kk hg hr
    have hg : 0 ≤ i ∧ i ≤ l ∧ l = m ∧ j = 4 * i ∧ m ≤ x.n ∧ 4 * m ≤ nb ∧ nb ≤ b.n ∧ nb ≤ 100000000 := of_decide_eq_true hg
    have hr : (l - i).toNat = kk + 1 := hr
    have en : s4.next ⟨b, v, x, t, nb, m, j, l, i⟩ = s4_next ⟨b, v, x, t, nb, m, j, l, i⟩ := rfl
    rw [en]
    refine ⟨⟨[true], (some [0, 1, 2, 3]), _, s4_round b v x t nb m j l i, ?_⟩, ?_, ?_, (show (s4.st (s4_next ⟨b, v, x, t, nb, m, j, l, i⟩)).2.length = 4 by kernel_rfl).trans (show (s4.st ⟨b, v, x, t, nb, m, j, l, i⟩).2.length = 4 by kernel_rfl).symm⟩
    · repeat' (refine all_true_cons ?_ ?_)
      all_goals first | exact all_true_nil | rfl | (simp only [Bool.and_eq_true, decide_eq_true_eq, beq_iff_eq, beq_true, beq_false, Bool.not_eq_true', decide_eq_false_iff_not, beq_eq_false_iff_ne, ne_eq, Bool.not_eq_false', bne_iff_ne, true_and, and_true] <;> omega)
    · have e : s4.good (s4_next ⟨b, v, x, t, nb, m, j, l, i⟩) = decide (0 ≤ (i + 1 : Int) ∧ (i + 1 : Int) ≤ l ∧ l = m ∧ (j + 4 : Int) = 4 * (i + 1 : Int) ∧ m ≤ x.n ∧ 4 * m ≤ nb ∧ nb ≤ (put4B b (0 + j.toNat) (x.l.getD (0 + i.toNat * 1) 0#32) : Vec 8).n ∧ nb ≤ 100000000) := by kernel_rfl
      refine e.trans (decide_eq_true ?_)
      rw [put4B_n]
      omega
    · have e : s4.rem (s4_next ⟨b, v, x, t, nb, m, j, l, i⟩) = ((l - (i + 1 : Int)).toNat) := by kernel_rfl
      refine e.trans ?_
      omega
  · rintro ⟨b, v, x, t, nb, m, j, l, i⟩ hg hr
    have hg : 0 ≤ i ∧ i ≤ l ∧ l = m ∧ j = 4 * i ∧ m ≤ x.n ∧ 4 * m ≤ nb ∧ nb ≤ b.n ∧ nb ≤ 100000000 := of_decide_eq_true hg
    have hr : (l - i).toNat = 0 := hr
    refine ⟨[false], none, _, s4_end b v x t nb m j l i, ?_⟩
    repeat' (refine all_true_cons ?_ ?_)
    all_goals first | exact all_true_nil | rfl | (simp only [Bool.and_eq_true, decide_eq_true_eq, beq_iff_eq, beq_true, beq_false, Bool.not_eq_true', decide_eq_false_iff_not, beq_eq_false_iff_ne, ne_eq, Bool.not_eq_false', bne_iff_ne, true_and, and_true] <;> omega)
def s4_spec : LSpec := s4.T.told
theorem s4_told : Told 27 3 s4_spec := s4_toldL.run
def sls : FuncId → Nat → Option LSpec
  | 27, 6 => some s1_spec
  | 27, 11 => some s2_spec
  | 27, 18 => some s3_spec
  | 27, 28 => some s4_spec
  | _, _ => none
theorem sls_len : (loopsIn Try.prog 27).length = 4 := by kernel_rfl
theorem sls_ok (spec : FuncId → Option Eng.Spec) : LoopsOk (cfg spec sls) noGlob := by
  refine LoopsOk.of fun f => ?_
  by_cases hf : f = 27
  · subst hf
    refine .inr ⟨by kernel_rfl, fun i hi sp hsp => ?_⟩
    have hi : i < (loopsIn Try.prog 27).length := hi
    rw [sls_len] at hi
    match i, hi with
    | 0, _ =>
      have e : (firstRid (loopIn Try.prog 27 0)).bind (sls 27) = some s1_spec := by kernel_rfl
      obtain rfl := Option.some.inj (e.symm.trans hsp)
      exact s1_told
    | 1, _ =>
      have e : (firstRid (loopIn Try.prog 27 1)).bind (sls 27) = some s2_spec := by kernel_rfl
      obtain rfl := Option.some.inj (e.symm.trans hsp)
      exact s2_told
    | 2, _ =>
      have e : (firstRid (loopIn Try.prog 27 2)).bind (sls 27) = some s3_spec := by kernel_rfl
      obtain rfl := Option.some.inj (e.symm.trans hsp)
      exact s3_told
    | 3, _ =>
      have e : (firstRid (loopIn Try.prog 27 3)).bind (sls 27) = some s4_spec := by kernel_rfl
      obtain rfl := Option.some.inj (e.symm.trans hsp)
      exact s4_told
  · refine .inl fun r => ?_
    show sls f r = none
    unfold sls
    split
    · exact absurd rfl hf
    · exact absurd rfl hf
    · exact absurd rfl hf
    · exact absurd rfl hf
    · rfl
end Go.Proofs.Ytnonaagcnenbdaa

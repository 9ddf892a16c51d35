/- The package's mix of scrypt: contract. -/
import Derived.Test.YtnonaagcnenbdaaR1Sl
namespace Go.Proofs.Ytnonaagcnenbdaa
open Go.Eng
set_option linter.unusedSimpArgs false
set_option linter.unusedVariables false
set_option linter.unusedSectionVars false
variable [RowAddr]
def zero16 : Vec 32 := Vec.of [0#32, 0#32, 0#32, 0#32, 0#32, 0#32, 0#32, 0#32, 0#32, 0#32, 0#32, 0#32, 0#32, 0#32, 0#32, 0#32]
/-- Words read from bytes. -/
def fillX (b : Vec 8) (x : Vec 32) : Nat → Vec 32
  | 0 => x
  | m + 1 => (fillX b x m).set (0 + m) (leW b (0 + 4 * m))
theorem fillX_n (b : Vec 8) (x : Vec 32) : ∀ m, (fillX b x m).n = x.n
  | 0 => rfl
  | m + 1 => fillX_n b x m
/-- Words written as bytes. -/
def outB (b : Vec 8) (x : Vec 32) : Nat → Vec 8
  | 0 => b
  | m + 1 => put4B (outB b x m) (0 + 4 * m) (x.l.getD (0 + m) 0#32)
theorem outB_n (b : Vec 8) (x : Vec 32) : ∀ m, (outB b x m).n = b.n
  | 0 => rfl
  | m + 1 => outB_n b x m
structure VXT where
  v : Vec 32
  x : Vec 32
  t : Vec 32
def keepS (nw oy : Nat) (r R : Int) (s : VXT) : Nat → VXT
  | 0 => s
  | m + 1 => ⟨keepV (keepS nw oy r R s m).v (keepS nw oy r R s m).x (keepS nw oy r R s m).t nw oy r R (2 * (m : Int)), keepX (keepS nw oy r R s m).x (keepS nw oy r R s m).t oy r, keepT (keepS nw oy r R s m).x (keepS nw oy r R s m).t oy r⟩
def pickS (oy : Nat) (r N R : Int) (s : VXT) : Nat → VXT
  | 0 => s
  | m + 1 => ⟨(pickS oy r N R s m).v, pickX (pickS oy r N R s m).x (pickS oy r N R s m).v (pickS oy r N R s m).t oy r N R, pickT (pickS oy r N R s m).x (pickS oy r N R s m).v (pickS oy r N R s m).t oy r N R⟩
theorem keepS_n (nw oy : Nat) (r R : Int) (s : VXT) : ∀ m, (keepS nw oy r R s m).v.n = s.v.n ∧ (keepS nw oy r R s m).x.n = s.x.n ∧ (keepS nw oy r R s m).t.n = s.t.n
  | 0 => ⟨rfl, rfl, rfl⟩
  | m + 1 => by
    have h := keepS_n nw oy r R s m
    exact ⟨(keepV_n ..).trans h.1, (keepX_n ..).trans h.2.1, (keepT_n ..).trans h.2.2⟩
theorem pickS_n (oy : Nat) (r N R : Int) (s : VXT) : ∀ m, (pickS oy r N R s m).v = s.v ∧ (pickS oy r N R s m).x.n = s.x.n ∧ (pickS oy r N R s m).t.n = s.t.n
  | 0 => ⟨rfl, rfl, rfl⟩
  | m + 1 => by
    have h := pickS_n oy r N R s m
    exact ⟨h.1, (pickX_n ..).trans h.2.1, (pickT_n ..).trans h.2.2⟩
theorem s1_it (b : Vec 8) (v x t : Vec 32) (nb nw lx oy ly : Nat) (r N R : Int) : ∀ m : Nat, iter s1_next m ⟨b, v, x, t, nb, nw, lx, oy, ly, r, N, R, 0, 0⟩ = ⟨b, v, fillX b x m, t, nb, nw, lx, oy, ly, r, N, R, 4 * (m : Int), (m : Int)⟩
  | 0 => rfl
  | m + 1 => by
    rw [iter_succ, s1_it b v x t nb nw lx oy ly r N R m]
    show (⟨b, v, (fillX b x m).set (0 + ((m : Nat) : Int).toNat * 1) (leW b (0 + (4 * (m : Int)).toNat)), t, nb, nw, lx, oy, ly, r, N, R, 4 * (m : Int) + 4, (m : Int) + 1⟩ : s1D) = _
    rw [show 0 + ((m : Nat) : Int).toNat * 1 = 0 + m by omega, show (4 * (m : Int)).toNat = 4 * m by omega, show 4 * (m : Int) + 4 = 4 * ((m + 1 : Nat) : Int) by omega, show (m : Int) + 1 = ((m + 1 : Nat) : Int) by omega]
    rfl
theorem s2_it (b : Vec 8) (v x t : Vec 32) (nb nw lx oy ly : Nat) (r N R : Int) : ∀ m : Nat, iter s2_next m ⟨b, v, x, t, nb, nw, lx, oy, ly, r, N, R, 0⟩ = ⟨b, (keepS nw oy r R ⟨v, x, t⟩ m).v, (keepS nw oy r R ⟨v, x, t⟩ m).x, (keepS nw oy r R ⟨v, x, t⟩ m).t, nb, nw, lx, oy, ly, r, N, R, 2 * (m : Int)⟩
  | 0 => rfl
  | m + 1 => by
    rw [iter_succ, s2_it b v x t nb nw lx oy ly r N R m]
    show (⟨b, (keepS nw oy r R ⟨v, x, t⟩ (m + 1)).v, (keepS nw oy r R ⟨v, x, t⟩ (m + 1)).x, (keepS nw oy r R ⟨v, x, t⟩ (m + 1)).t, nb, nw, lx, oy, ly, r, N, R, 2 * (m : Int) + 2⟩ : s2D) = _
    rw [show 2 * (m : Int) + 2 = 2 * ((m + 1 : Nat) : Int) by omega]
theorem s3_it (b : Vec 8) (v x t : Vec 32) (nb nw lx oy ly : Nat) (r N R : Int) : ∀ m : Nat, iter s3_next m ⟨b, v, x, t, nb, nw, lx, oy, ly, r, N, R, 0⟩ = ⟨b, (pickS oy r N R ⟨v, x, t⟩ m).v, (pickS oy r N R ⟨v, x, t⟩ m).x, (pickS oy r N R ⟨v, x, t⟩ m).t, nb, nw, lx, oy, ly, r, N, R, 2 * (m : Int)⟩
  | 0 => rfl
  | m + 1 => by
    rw [iter_succ, s3_it b v x t nb nw lx oy ly r N R m]
    show (⟨b, (pickS oy r N R ⟨v, x, t⟩ (m + 1)).v, (pickS oy r N R ⟨v, x, t⟩ (m + 1)).x, (pickS oy r N R ⟨v, x, t⟩ (m + 1)).t, nb, nw, lx, oy, ly, r, N, R, 2 * (m : Int) + 2⟩ : s3D) = _
    rw [show 2 * (m : Int) + 2 = 2 * ((m + 1 : Nat) : Int) by omega]
theorem s4_it (b : Vec 8) (v x t : Vec 32) (nb n : Nat) (l : Int) : ∀ m : Nat, iter s4_next m ⟨b, v, x, t, nb, n, 0, l, 0⟩ = ⟨outB b x m, v, x, t, nb, n, 4 * (m : Int), l, (m : Int)⟩
  | 0 => rfl
  | m + 1 => by
    rw [iter_succ, s4_it b v x t nb n l m]
    show (⟨put4B (outB b x m) (0 + (4 * (m : Int)).toNat) (x.l.getD (0 + ((m : Nat) : Int).toNat * 1) 0#32), v, x, t, nb, n, 4 * (m : Int) + 4, l, (m : Int) + 1⟩ : s4D) = _
    rw [show 0 + ((m : Nat) : Int).toNat * 1 = 0 + m by omega, show (4 * (m : Int)).toNat = 4 * m by omega, show 4 * (m : Int) + 4 = 4 * ((m + 1 : Nat) : Int) by omega, show (m : Int) + 1 = ((m + 1 : Nat) : Int) by omega]
    rfl
def S1 (b : Vec 8) (v x : Vec 32) (nb nw lx : Nat) (r N : Int) : s1D := iter s1_next (32 * r - 0).toNat ⟨b, v, x, zero16, nb, nw, lx, 0 + (32 * r).toNat, lx - (32 * r).toNat, r, N, 32 * r, 0, 0⟩
def S2 (A : s1D) : s2D := iter s2_next ((A.N - 0) / 2).toNat ⟨A.b, A.v, A.x, A.t, A.nb, A.nw, A.lx, A.oy, A.ly, A.r, A.N, A.R, 0⟩
def S3 (B : s2D) : s3D := iter s3_next ((B.N - 0) / 2).toNat ⟨B.b, B.v, B.x, B.t, B.nb, B.nw, B.lx, B.oy, B.ly, B.r, B.N, B.R, 0⟩
def S4 (C : s3D) : s4D := iter s4_next ((((C.R.toNat - (((0 : Nat) : Int)).toNat : Nat) : Int) - 0).toNat) ⟨C.b, C.v, C.x, C.t, C.nb, C.R.toNat - (((0 : Nat) : Int)).toNat, 0, ((C.R.toNat - (((0 : Nat) : Int)).toNat : Nat) : Int), 0⟩
/-- The state behind the keeping, and behind the picking. -/
def kept (b : Vec 8) (v x : Vec 32) (nw : Nat) (r N : Int) : VXT := keepS nw (32 * r).toNat r (32 * r) ⟨v, fillX b x (32 * r).toNat, zero16⟩ (N / 2).toNat
def picked (b : Vec 8) (v x : Vec 32) (nw : Nat) (r N : Int) : VXT := pickS (32 * r).toNat r N (32 * r) (kept b v x nw r N) (N / 2).toNat
def smixB (b : Vec 8) (v x : Vec 32) (nw : Nat) (r N : Int) : Vec 8 := outB b (picked b v x nw r N).x (32 * r).toNat
theorem S1_eq (b : Vec 8) (v x : Vec 32) (nb nw lx : Nat) (r N : Int) : S1 b v x nb nw lx r N = ⟨b, v, fillX b x (32 * r).toNat, zero16, nb, nw, lx, (32 * r).toNat, lx - (32 * r).toNat, r, N, 32 * r, 4 * (((32 * r).toNat : Nat) : Int), (((32 * r).toNat : Nat) : Int)⟩ := by
  unfold S1
  rw [s1_it, Int.sub_zero, Nat.zero_add]
theorem S2_eq (b : Vec 8) (v x : Vec 32) (nb nw lx : Nat) (r N : Int) : S2 (S1 b v x nb nw lx r N) = ⟨b, (kept b v x nw r N).v, (kept b v x nw r N).x, (kept b v x nw r N).t, nb, nw, lx, (32 * r).toNat, lx - (32 * r).toNat, r, N, 32 * r, 2 * (((N / 2).toNat : Nat) : Int)⟩ := by
  rw [S1_eq]
  unfold S2
  show iter s2_next ((N - 0) / 2).toNat ⟨b, v, fillX b x (32 * r).toNat, zero16, nb, nw, lx, (32 * r).toNat, lx - (32 * r).toNat, r, N, 32 * r, 0⟩ = _
  rw [s2_it, Int.sub_zero]
  rfl
theorem S3_eq (b : Vec 8) (v x : Vec 32) (nb nw lx : Nat) (r N : Int) : S3 (S2 (S1 b v x nb nw lx r N)) = ⟨b, (picked b v x nw r N).v, (picked b v x nw r N).x, (picked b v x nw r N).t, nb, nw, lx, (32 * r).toNat, lx - (32 * r).toNat, r, N, 32 * r, 2 * (((N / 2).toNat : Nat) : Int)⟩ := by
  rw [S2_eq]
  unfold S3
  show iter s3_next ((N - 0) / 2).toNat ⟨b, (kept b v x nw r N).v, (kept b v x nw r N).x, (kept b v x nw r N).t, nb, nw, lx, (32 * r).toNat, lx - (32 * r).toNat, r, N, 32 * r, 0⟩ = _
  rw [s3_it, Int.sub_zero]
  rfl
theorem S4_b (b : Vec 8) (v x : Vec 32) (nb nw lx : Nat) (r N : Int) : (S4 (S3 (S2 (S1 b v x nb nw lx r N)))).b = smixB b v x nw r N := by
  rw [S3_eq]
  unfold S4
  show (iter s4_next (((((32 * r).toNat - (((0 : Nat) : Int)).toNat : Nat) : Int) - 0).toNat) ⟨b, (picked b v x nw r N).v, (picked b v x nw r N).x, (picked b v x nw r N).t, nb, (32 * r).toNat - (((0 : Nat) : Int)).toNat, 0, (((32 * r).toNat - (((0 : Nat) : Int)).toNat : Nat) : Int), 0⟩).b = _
  rw [show ((((32 * r).toNat - (((0 : Nat) : Int)).toNat : Nat) : Int) - 0).toNat = (32 * r).toNat by omega, s4_it]
  rfl
theorem kept_n (b : Vec 8) (v x : Vec 32) (nw : Nat) (r N : Int) : (kept b v x nw r N).v.n = v.n ∧ (kept b v x nw r N).x.n = x.n ∧ (kept b v x nw r N).t.n = 16 := by
  have h := keepS_n nw (32 * r).toNat r (32 * r) ⟨v, fillX b x (32 * r).toNat, zero16⟩ (N / 2).toNat
  exact ⟨h.1, h.2.1.trans (fillX_n _ _ _), h.2.2⟩
theorem picked_n (b : Vec 8) (v x : Vec 32) (nw : Nat) (r N : Int) : (picked b v x nw r N).x.n = x.n ∧ (picked b v x nw r N).t.n = 16 := by
  have h := pickS_n (32 * r).toNat r N (32 * r) (kept b v x nw r N) (N / 2).toNat
  have k := kept_n b v x nw r N
  exact ⟨h.2.1.trans k.2.1, h.2.2.trans k.2.2⟩
structure c27D where
  b : Vec 8
  v : Vec 32
  x : Vec 32
  nb : Nat
  nw : Nat
  lx : Nat
  r : Int
  N : Int
def c27_rd (a : List AV) (K : List Blk) : Option c27D :=
    match a with
    | [(.ref (.sl 0 (.c 0) (.s nb) none)), (.num (.int .i64 (.s r))), (.num (.int .i64 (.s N))), (.ref (.sl 1 (.c 0) (.s nw) none)), (.ref (.sl 2 (.c 0) (.s lx) none))] =>
      match K with
      | [⟨(.b8 b), .own⟩, ⟨(.b32 v), .own⟩, ⟨(.b32 x), .own⟩] => some ⟨b, v, x, nb, nw, lx, r, N⟩
      | _ => none
    | _ => none
def c27 : Ct c27D where
  pat := [(.ref (.sl 0 (.c 0) (.s 0) none)), (.num (.int .i64 (.s 0))), (.num (.int .i64 (.s 0))), (.ref (.sl 1 (.c 0) (.s 0) none)), (.ref (.sl 2 (.c 0) (.s 0) none))]
  patH := [⟨(.b8 (Vec.zero 8 0)), .own⟩, ⟨(.b32 (Vec.zero 32 0)), .own⟩, ⟨(.b32 (Vec.zero 32 0)), .own⟩]
  read := c27_rd
  args := fun ⟨_, _, _, nb, nw, lx, r, N⟩ => [(.ref (.sl 0 (.c 0) (.s nb) none)), (.num (.int .i64 (.s r))), (.num (.int .i64 (.s N))), (.ref (.sl 1 (.c 0) (.s nw) none)), (.ref (.sl 2 (.c 0) (.s lx) none))]
  heap := fun ⟨b, v, x, _, _, _, _, _⟩ => [⟨(.b8 b), .own⟩, ⟨(.b32 v), .own⟩, ⟨(.b32 x), .own⟩]
  out := fun ⟨b, v, x, nb, nw, lx, r, N⟩ => [⟨(.b8 (smixB b v x nw r N)), .own⟩, ⟨(.b32 ((S4 (S3 (S2 (S1 b v x nb nw lx r N))))).v), .own⟩, ⟨(.b32 ((S4 (S3 (S2 (S1 b v x nb nw lx r N))))).x), .own⟩]
  val := fun ⟨_, _, _, _, _, _, _, _⟩ => (.obj .tup [])
  good := fun ⟨b, v, x, nb, nw, lx, r, N⟩ => decide (1 ≤ r ∧ r ≤ 1000 ∧ 2 ≤ N ∧ N % 2 = 0 ∧ N ≤ 1000000 ∧ (nb : Int) = 128 * r ∧ nb ≤ b.n ∧ N * (32 * r) ≤ nw ∧ nw ≤ v.n ∧ nw ≤ 1000000000 ∧ (lx : Int) = 64 * r ∧ lx ≤ x.n)
theorem c27_run (b : Vec 8) (v x : Vec 32) (nb nw lx : Nat) (r N : Int) : endsAs (c27.heap ⟨b, v, x, nb, nw, lx, r, N⟩).length (some [0, 1, 2]) [⟨(.b8 ((S4 (S3 (S2 (S1 b v x nb nw lx r N))))).b), .own⟩, ⟨(.b32 ((S4 (S3 (S2 (S1 b v x nb nw lx r N))))).v), .own⟩, ⟨(.b32 ((S4 (S3 (S2 (S1 b v x nb nw lx r N))))).x), .own⟩] (c27.val ⟨b, v, x, nb, nw, lx, r, N⟩) (goB specsS sls 27 (c27.args ⟨b, v, x, nb, nw, lx, r, N⟩) ⟨c27.heap ⟨b, v, x, nb, nw, lx, r, N⟩, big, [], []⟩) = some ([⟨(.b8 ((S4 (S3 (S2 (S1 b v x nb nw lx r N))))).b), .own⟩, ⟨(.b32 ((S4 (S3 (S2 (S1 b v x nb nw lx r N))))).v), .own⟩, ⟨(.b32 ((S4 (S3 (S2 (S1 b v x nb nw lx r N))))).x), .own⟩], (c27.val ⟨b, v, x, nb, nw, lx, r, N⟩), [decide (((0 : Int) ≤ 0 ∧ ((0 : Int) ≤ (((((((S3 (S2 (S1 b v x nb nw lx r N)))).R) : Int).toNat - ((((0 : Nat) : Int)) : Int).toNat) : Nat) : Int) ∧ ((((((((S3 (S2 (S1 b v x nb nw lx r N)))).R) : Int).toNat - ((((0 : Nat) : Int)) : Int).toNat) : Nat) : Int) = (((((((S3 (S2 (S1 b v x nb nw lx r N)))).R) : Int).toNat - ((((0 : Nat) : Int)) : Int).toNat) : Nat) : Int) ∧ ((0 : Int) = 0 ∧ ((((((S3 (S2 (S1 b v x nb nw lx r N)))).R) : Int).toNat - ((((0 : Nat) : Int)) : Int).toNat) ≤ ((S3 (S2 (S1 b v x nb nw lx r N)))).x.n ∧ ((4 * (((((S3 (S2 (S1 b v x nb nw lx r N)))).R) : Int).toNat - ((((0 : Nat) : Int)) : Int).toNat)) ≤ ((S3 (S2 (S1 b v x nb nw lx r N)))).nb ∧ (((S3 (S2 (S1 b v x nb nw lx r N)))).nb ≤ ((S3 (S2 (S1 b v x nb nw lx r N)))).b.n ∧ ((S3 (S2 (S1 b v x nb nw lx r N)))).nb ≤ 100000000)))))))), ((true && decide (((0 : Nat) : Int) ≤ ((S3 (S2 (S1 b v x nb nw lx r N)))).R)) && decide (((S3 (S2 (S1 b v x nb nw lx r N)))).R ≤ ((((S3 (S2 (S1 b v x nb nw lx r N)))).lx : Nat) : Int))), decide (((0 : Int) ≤ 0 ∧ ((0 : Int) ≤ ((S2 (S1 b v x nb nw lx r N))).N ∧ (((0 % 2) : Int) = 0 ∧ ((((S2 (S1 b v x nb nw lx r N))).N % 2) = 0 ∧ (((S2 (S1 b v x nb nw lx r N))).N ≤ 1000000 ∧ ((1 : Int) ≤ ((S2 (S1 b v x nb nw lx r N))).r ∧ (((S2 (S1 b v x nb nw lx r N))).r ≤ 1000 ∧ (((S2 (S1 b v x nb nw lx r N))).R = (32 * ((S2 (S1 b v x nb nw lx r N))).r) ∧ (((((S2 (S1 b v x nb nw lx r N))).oy : Nat) : Int) = (32 * ((S2 (S1 b v x nb nw lx r N))).r) ∧ (((((S2 (S1 b v x nb nw lx r N))).lx : Nat) : Int) = (64 * ((S2 (S1 b v x nb nw lx r N))).r) ∧ (((((S2 (S1 b v x nb nw lx r N))).ly : Nat) : Int) = (32 * ((S2 (S1 b v x nb nw lx r N))).r) ∧ ((64 * ((S2 (S1 b v x nb nw lx r N))).r) ≤ ((((S2 (S1 b v x nb nw lx r N))).x.n : Nat) : Int) ∧ (((S2 (S1 b v x nb nw lx r N))).t.n = 16 ∧ ((((S2 (S1 b v x nb nw lx r N))).N * ((S2 (S1 b v x nb nw lx r N))).R) ≤ ((((S2 (S1 b v x nb nw lx r N))).nw : Nat) : Int) ∧ (((S2 (S1 b v x nb nw lx r N))).nw ≤ ((S2 (S1 b v x nb nw lx r N))).v.n ∧ ((S2 (S1 b v x nb nw lx r N))).nw ≤ 1000000000)))))))))))))))), decide (((0 : Int) ≤ 0 ∧ ((0 : Int) ≤ ((S1 b v x nb nw lx r N)).N ∧ (((0 % 2) : Int) = 0 ∧ ((((S1 b v x nb nw lx r N)).N % 2) = 0 ∧ (((S1 b v x nb nw lx r N)).N ≤ 1000000 ∧ ((1 : Int) ≤ ((S1 b v x nb nw lx r N)).r ∧ (((S1 b v x nb nw lx r N)).r ≤ 1000 ∧ (((S1 b v x nb nw lx r N)).R = (32 * ((S1 b v x nb nw lx r N)).r) ∧ (((((S1 b v x nb nw lx r N)).oy : Nat) : Int) = (32 * ((S1 b v x nb nw lx r N)).r) ∧ (((((S1 b v x nb nw lx r N)).lx : Nat) : Int) = (64 * ((S1 b v x nb nw lx r N)).r) ∧ (((((S1 b v x nb nw lx r N)).ly : Nat) : Int) = (32 * ((S1 b v x nb nw lx r N)).r) ∧ ((64 * ((S1 b v x nb nw lx r N)).r) ≤ ((((S1 b v x nb nw lx r N)).x.n : Nat) : Int) ∧ (((S1 b v x nb nw lx r N)).t.n = 16 ∧ ((((S1 b v x nb nw lx r N)).N * ((S1 b v x nb nw lx r N)).R) ≤ ((((S1 b v x nb nw lx r N)).nw : Nat) : Int) ∧ (((S1 b v x nb nw lx r N)).nw ≤ ((S1 b v x nb nw lx r N)).v.n ∧ ((S1 b v x nb nw lx r N)).nw ≤ 1000000000)))))))))))))))), decide (((0 : Int) ≤ 0 ∧ ((0 : Int) ≤ (32 * r) ∧ ((0 : Int) = 0 ∧ ((32 * r) ≤ 1000000 ∧ ((4 * (32 * r)) ≤ ((nb : Nat) : Int) ∧ (nb ≤ b.n ∧ ((32 * r) ≤ ((lx : Nat) : Int) ∧ (lx ≤ x.n ∧ nb ≤ 100000000))))))))), ((decide ((0 : Int) ≤ (32 * r)) && decide ((32 * r) ≤ ((lx : Nat) : Int))) && decide (((lx : Nat) : Int) ≤ ((lx : Nat) : Int))), decide ((((-9223372036854775808) : Int) ≤ (32 * r) ∧ (32 * r) ≤ 9223372036854775807))]) := by kernel_rfl
set_option maxRecDepth 100000 in
theorem c27_read (a : List AV) (K : List Blk) (d : c27D) (h : c27.read a K = some d) : a = c27.args d ∧ K = c27.heap d := by
  replace h : c27_rd a K = some d := h
  unfold c27_rd at h
  split at h
  case h_2 => cases h
  split at h
  case h_2 => cases h
  injection h with h; subst h
  exact ⟨rfl, rfl⟩
theorem c27_ok : SpecOk Try.prog noGlob 27 c27.spec := by
  refine c27.ok (goB_ok specsS_ok (sls_ok _)) c27_read ?_
  rintro ⟨b, v, x, nb, nw, lx, r, N⟩ hg
  have hg : 1 ≤ r ∧ r ≤ 1000 ∧ 2 ≤ N ∧ N % 2 = 0 ∧ N ≤ 1000000 ∧ (nb : Int) = 128 * r ∧ nb ≤ b.n ∧ N * (32 * r) ≤ nw ∧ nw ≤ v.n ∧ nw ≤ 1000000000 ∧ (lx : Int) = 64 * r ∧ lx ≤ x.n := of_decide_eq_true hg
  have eo : c27.out ⟨b, v, x, nb, nw, lx, r, N⟩ = [⟨(.b8 ((S4 (S3 (S2 (S1 b v x nb nw lx r N))))).b), .own⟩, ⟨(.b32 ((S4 (S3 (S2 (S1 b v x nb nw lx r N))))).v), .own⟩, ⟨(.b32 ((S4 (S3 (S2 (S1 b v x nb nw lx r N))))).x), .own⟩] := by
    rw [S4_b]
    rfl
  have ev : c27.val ⟨b, v, x, nb, nw, lx, r, N⟩ = (.obj .tup []) := by
    rfl
  rw [eo, ev]
  refine ⟨[], (some [0, 1, 2]), _, c27_run b v x nb nw lx r N, ?_⟩
  obtain ⟨g1, g2, g3, g4, g5, g6, g7, g8, g9, g10, g11, g12⟩ := hg
  have k1 := kept_n b v x nw r N
  have k2 := picked_n b v x nw r N
  have k3 := (pickS_n (32 * r).toNat r N (32 * r) (kept b v x nw r N) (N / 2).toNat).1
  have k4 := fillX_n b x (32 * r).toNat
  have kz : zero16.n = 16 := rfl
  rw [S3_eq, S2_eq, S1_eq]
  repeat' (refine all_true_cons ?_ ?_)
  all_goals first | exact all_true_nil | (simp only [k1.1, k1.2.1, k1.2.2, k2.1, k2.2, k4, kz, Bool.and_eq_true, decide_eq_true_eq, beq_iff_eq, beq_true, beq_false, Bool.not_eq_true', decide_eq_false_iff_not, beq_eq_false_iff_ne, ne_eq, Bool.not_eq_false', bne_iff_ne, true_and, and_true] <;> omega)
end Go.Proofs.Ytnonaagcnenbdaa

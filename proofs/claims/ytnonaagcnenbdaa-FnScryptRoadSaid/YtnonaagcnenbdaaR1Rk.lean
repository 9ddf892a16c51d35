/- FnScryptRoad: rows kept and looked up: its rounds. -/
import Derived.Test.YtnonaagcnenbdaaR1Ra
import Derived.Test.YtnonaagcnenbdaaR1Mx
namespace Go.Proofs.Ytnonaagcnenbdaa
open Go.Eng
set_option linter.unusedSectionVars false
variable [RowAddr]
def specsR : FuncId → Option Eng.Spec
  | 16 => some sp16
  | _ => none
theorem specsR_ok : ∀ f sp, specsR f = some sp → SpecOk Try.prog noGlob f sp := by
  intro f sp h
  unfold specsR at h
  split at h
  · injection h with h; subst h; exact ok16
  · cases h
structure KrD where
  b : Vec 8
  v : Vec 32
  nb : Nat
  k : Nat
  r : Int
  N : Int
  i : Int
def krFr (d : KrD) : Fr := ⟨[.sl 0 (.c 0) (.s d.nb) none, .int .i64 (.s d.r), .int .i64 (.s d.N), .undef, .undef, .undef, .undef, .sl 2 (.c 0) (.s (32 * d.r).toNat) none, .undef, .sl 1 (.c 0) (.s d.k) none, .int .i64 (.s d.i), .undef, .undef, .undef, .undef], []⟩
def krSt (d : KrD) (l : List Value) : Fr × List Blk := (krFr d, [⟨.b8 d.b, .ro⟩, ⟨.kn l [], .own⟩, ⟨.b32 d.v, .ro⟩, ⟨.gen [], .dead⟩])
def krNext (d : KrD) : KrD := ⟨d.b, mixV d.v 0 (32 * d.r).toNat d.r, d.nb, d.k + 1, d.r, d.N, d.i + 1⟩
def krMid (d : KrD) (l : List Value) : Fr × List Blk := (krFr (krNext d), [⟨.b8 d.b, .ro⟩, ⟨.kn l [.sl 3 (.c 0) (.s (32 * d.r).toNat) none], .own⟩, ⟨.b32 (mixV d.v 0 (32 * d.r).toNat d.r), .ro⟩, ⟨.b32 d.v, .ro⟩])
theorem kr_round (b : Vec 8) (v : Vec 32) (l : List Value) (nb k : Nat) (r N i : Int) : ranAs 1 (some [0, 5, 6, 2]) (krMid ⟨b, v, nb, k, r, N, i⟩ l) (goL specsR ras 6 1 (krSt ⟨b, v, nb, k, r, N, i⟩ l).1 ⟨(krSt ⟨b, v, nb, k, r, N, i⟩ l).2, big, [true, false], []⟩) = some (.normal, (krMid ⟨b, v, nb, k, r, N, i⟩ l), [decide ((((-9223372036854775808) : Int) ≤ (i + 1) ∧ (i + 1) ≤ 9223372036854775807)), ((!((((((32 * r)) : Int).toNat : Nat) : Int) == (32 * r))) == false), decide ((((-9223372036854775808) : Int) ≤ (32 * r) ∧ (32 * r) ≤ 9223372036854775807)), decide (((1 : Int) ≤ r ∧ (r ≤ 1000000 ∧ ((((0 : Nat) : Int) + (32 * r)) ≤ ((v.n : Nat) : Int) ∧ (32 * r) ≤ (((((32 * r)) : Int).toNat : Nat) : Int))))), (true && (k == (l.length + 0))), decide (((k + 1) * 24) ≤ 1099511627776), (decide (i < N) == true)]) := by kernel_rfl
theorem kr_end (b : Vec 8) (v : Vec 32) (l : List Value) (nb k : Nat) (r N i : Int) : ranAs 1 none (krSt ⟨b, v, nb, k, r, N, i⟩ l) (goL specsR ras 6 1 (krSt ⟨b, v, nb, k, r, N, i⟩ l).1 ⟨(krSt ⟨b, v, nb, k, r, N, i⟩ l).2, big, [false], []⟩) = some ((.exit 2), (krSt ⟨b, v, nb, k, r, N, i⟩ l), [(decide (i < N) == false)]) := by kernel_rfl
structure PrD where
  b : Vec 8
  v : Vec 32
  F : Nat → Vec 32
  nb : Nat
  k : Nat
  r : Int
  N : Int
  i : Int
def prFr (d : PrD) : Fr := ⟨[.sl 0 (.c 0) (.s d.nb) none, .int .i64 (.s d.r), .int .i64 (.s d.N), .undef, .undef, .undef, .undef, .sl 2 (.c 0) (.s (32 * d.r).toNat) none, .undef, .sl 1 (.c 0) (.s d.k) none, .undef, .int .i64 (.s d.i), .undef, .undef, .undef], []⟩
def prSt (d : PrD) : Fr × List Blk := (prFr d, [⟨.b8 d.b, .ro⟩, ⟨.gen [], .dead⟩, ⟨.b32 d.v, .ro⟩, ⟨.gen [], .dead⟩])
def grSt (b : Vec 8) (v : Vec 32) (l : List Value) (nb k : Nat) (r N : Int) : Fr × List Blk := (⟨[.sl 0 (.c 0) (.s nb) none, .int .i64 (.s r), .int .i64 (.s N), .undef, .undef, .undef, .undef, .sl 2 (.c 0) (.s (32 * r).toNat) none, .undef, .sl 1 (.c 0) (.s k) none, .undef, .int .i64 (.s 0), .undef, .undef, .undef], []⟩, [⟨.b8 b, .ro⟩, ⟨.kn l [], .own⟩, ⟨.b32 v, .ro⟩, ⟨.gen [], .dead⟩])
theorem gr_run (b : Vec 8) (v : Vec 32) (l : List Value) (nb k : Nat) (r N i : Int) : ranAs 2 none (grSt b v l nb k r N) (goP specsR ras 6 [true, true, true, true, true, true, true, false, false] (krSt ⟨b, v, nb, k, r, N, i⟩ l).1 ⟨(krSt ⟨b, v, nb, k, r, N, i⟩ l).2, big, [], []⟩) = some (.normal, (grSt b v l nb k r N), []) := by kernel_rfl
def prUp (d : PrD) (key : Nat) (R : Vec 32) : List Blk := [⟨.b8 d.b, .ro⟩, ⟨.spot d.k key (.sl 4 (.c 0) (.s (32 * d.r).toNat) none), .ro⟩, ⟨.b32 d.v, .ro⟩, ⟨.gen [], .dead⟩, ⟨.b32 R, .ro⟩]
/-- Two rows exclusive or. -/
def xorI (v R : Vec 32) (nb k : Nat) (r N i : Int) : rxD := iter rx_next ((((32 * r).toNat : Nat) : Int) - 0).toNat ⟨v, R, Vec.zero 32 (32 * r).toNat, nb, (32 * r).toNat, (32 * r).toNat, (32 * r).toNat, k, r, N, i, 0⟩
def prNext (d : PrD) (R : Vec 32) : PrD := ⟨d.b, mixV (xorI d.v R d.nb d.k d.r d.N d.i).y 0 (xorI d.v R d.nb d.k d.r d.N d.i).R (xorI d.v R d.nb d.k d.r d.N d.i).r, (d.F), (xorI d.v R d.nb d.k d.r d.N d.i).nb, (xorI d.v R d.nb d.k d.r d.N d.i).k, (xorI d.v R d.nb d.k d.r d.N d.i).r, (xorI d.v R d.nb d.k d.r d.N d.i).N, (xorI d.v R d.nb d.k d.r d.N d.i).i + 1⟩
theorem pr_round (b : Vec 8) (v R : Vec 32) (F : Nat → Vec 32) (nb k key : Nat) (r N i : Int) : ranAs 2 (some [0, 1, 6, 3]) (prSt (prNext ⟨b, v, F, nb, k, r, N, i⟩ R)) (dropA 1 (goL specsR ras 6 2 (prSt ⟨b, v, F, nb, k, r, N, i⟩).1 ⟨prUp ⟨b, v, F, nb, k, r, N, i⟩ key R, big, [true, false], []⟩)) = some (.normal, (prSt (prNext ⟨b, v, F, nb, k, r, N, i⟩ R)), [decide ((((-9223372036854775808) : Int) ≤ (((xorI v R nb k r N i)).i + 1) ∧ (((xorI v R nb k r N i)).i + 1) ≤ 9223372036854775807)), ((!((((((32 * ((xorI v R nb k r N i)).r)) : Int).toNat : Nat) : Int) == (32 * ((xorI v R nb k r N i)).r))) == false), decide ((((-9223372036854775808) : Int) ≤ (32 * ((xorI v R nb k r N i)).r) ∧ (32 * ((xorI v R nb k r N i)).r) ≤ 9223372036854775807)), decide (((1 : Int) ≤ ((xorI v R nb k r N i)).r ∧ (((xorI v R nb k r N i)).r ≤ 1000000 ∧ ((((0 : Nat) : Int) + (32 * ((xorI v R nb k r N i)).r)) ≤ ((((xorI v R nb k r N i)).y.n : Nat) : Int) ∧ (32 * ((xorI v R nb k r N i)).r) ≤ ((((xorI v R nb k r N i)).R : Nat) : Int))))), decide (((0 : Int) ≤ 0 ∧ ((0 : Int) ≤ (((((32 * r)) : Int).toNat : Nat) : Int) ∧ ((((32 * r)) : Int).toNat ≤ 1000000 ∧ ((((32 * r)) : Int).toNat ≤ (((32 * r)) : Int).toNat ∧ ((((32 * r)) : Int).toNat ≤ (((32 * r)) : Int).toNat ∧ ((((32 * r)) : Int).toNat ≤ v.n ∧ ((((32 * r)) : Int).toNat ≤ R.n ∧ (((32 * r)) : Int).toNat ≤ (((32 * r)) : Int).toNat)))))))), decide (((((32 * r)) : Int).toNat * 4) ≤ 1099511627776), ((decide ((0 : Int) ≤ (32 * r)) && decide ((32 * r) ≤ (32 * r))) && decide ((32 * r) ≤ 1099511627776)), decide ((((-9223372036854775808) : Int) ≤ (32 * r) ∧ (32 * r) ≤ 9223372036854775807)), decide (((0 + ((((andV .i64 ((((v.l.getD (0 + (((((32 * r) - 16)) : Int).toNat * 1)) (0#32))).toNat : Nat) : Int) (N - 1))) : Int).toNat * 1)) = key ∧ key < k)), (decide ((0 : Int) ≤ (andV .i64 ((((v.l.getD (0 + (((((32 * r) - 16)) : Int).toNat * 1)) (0#32))).toNat : Nat) : Int) (N - 1))) && decide ((andV .i64 ((((v.l.getD (0 + (((((32 * r) - 16)) : Int).toNat * 1)) (0#32))).toNat : Nat) : Int) (N - 1)) < ((k : Nat) : Int))), decide ((0 : Int) ≤ (N - 1)), decide ((((-9223372036854775808) : Int) ≤ (N - 1) ∧ (N - 1) ≤ 9223372036854775807)), decide (((((v.l.getD (0 + (((((32 * r) - 16)) : Int).toNat * 1)) (0#32))).toNat : Nat) : Int) ≤ 9223372036854775807), decide ((0 + (((((32 * r) - 16)) : Int).toNat * 1)) < v.n), (decide ((0 : Int) ≤ ((32 * r) - 16)) && decide (((32 * r) - 16) < (((((32 * r)) : Int).toNat : Nat) : Int))), decide ((((-9223372036854775808) : Int) ≤ ((32 * r) - 16) ∧ ((32 * r) - 16) ≤ 9223372036854775807)), decide ((((-9223372036854775808) : Int) ≤ (32 * r) ∧ (32 * r) ≤ 9223372036854775807)), (decide (i < N) == true)]) := by kernel_rfl
theorem pr_end (b : Vec 8) (v : Vec 32) (F : Nat → Vec 32) (nb k : Nat) (r N i : Int) : ranAs 2 none (prSt ⟨b, v, F, nb, k, r, N, i⟩) (goL specsR ras 6 2 (prSt ⟨b, v, F, nb, k, r, N, i⟩).1 ⟨(prSt ⟨b, v, F, nb, k, r, N, i⟩).2, big, [false], []⟩) = some ((.exit 4), (prSt ⟨b, v, F, nb, k, r, N, i⟩), [(decide (i < N) == false)]) := by kernel_rfl
end Go.Proofs.Ytnonaagcnenbdaa

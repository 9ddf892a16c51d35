/- The reference's mix: rows kept and looked up: its rounds. -/
import Derived.Test.YtnonaagcnenbdaaR1Ref3
import Derived.Test.YtnonaagcnenbdaaEngE
namespace Go.Proofs.Ytnonaagcnenbdaa
open Go.Eng
set_option linter.unusedSectionVars false
variable [RowAddr]
def specs20 : FuncId → Option Eng.Spec
  | 25 => some c25.spec
  | 26 => some c26.spec
  | 28 => some c28.spec
  | _ => none
theorem specs20_ok : ∀ f sp, specs20 f = some sp → SpecOk Try.prog noGlob f sp := by
  intro f sp h
  unfold specs20 at h
  split at h
  · injection h with h; subst h; exact c25_ok
  · injection h with h; subst h; exact c26_ok
  · injection h with h; subst h; exact c28_ok
  · cases h
/-- Some code within a body, run once. -/
noncomputable def goP (spec : FuncId → Option Eng.Spec) (loop : FuncId → Nat → Option LSpec) (f : Nat) (p : List Bool) (F : Fr) (S : St) : Option (Out × Fr × St) := exec (cfg spec loop) 100000 (sub p (bodyIn Try.prog f)) ⟨acall (cfg spec loop) 20 100000, nv f, keep f, dyn f, loop f⟩ F S
theorem goP_ok {spec : FuncId → Option Eng.Spec} {loop : FuncId → Nat → Option LSpec} (hs : ∀ f sp, spec f = some sp → SpecOk Try.prog noGlob f sp) (hl : LoopsOk (cfg spec loop) noGlob) (f : Nat) (p : List Bool) (hf : Fine f) :
    RunOk Try.prog noGlob (nv f) (ntmpsIn Try.prog f) (sub p (bodyIn Try.prog f)) (goP spec loop f p) :=
  exec_sub (C := cfg spec loop) rfl (acall_ok (C := cfg spec loop) rfl methOk mixed (fine_cfg spec loop) hl (fun f sp h args S v S' hc => callSpec_ok (hs f sp h) args S v S' hc) 100000 20) methOk mixed hl ((fnOk_any spec loop f).trans hf) 100000 p
structure MkD where
  b : Vec 8
  v : Vec 8
  nb : Nat
  k : Nat
  N : Int
  i : Int
def mkFr (d : MkD) : Fr := ⟨[.sl 2 (.c 0) (.s d.nb) none, .int .i64 (.s d.N), .undef, .undef, .undef, .sl 1 (.c 0) (.s d.k) none, .int .i64 (.s d.i), .undef, .undef, .undef], []⟩
def mkSt (d : MkD) (l : List Value) : Fr × List Blk := (mkFr d, [⟨.b8 d.b, .ro⟩, ⟨.kn l [], .own⟩, ⟨.b8 d.v, .ro⟩, ⟨.gen [], .dead⟩])
def mkNext (d : MkD) : MkD := ⟨d.b, bm8 d.v 0 d.nb, d.nb, d.k + 1, d.N, d.i + 1⟩
def mkMid (d : MkD) (l : List Value) : Fr × List Blk := (mkFr (mkNext d), [⟨.b8 d.b, .ro⟩, ⟨.kn l [.sl 3 (.c 0) (.s d.nb) none], .own⟩, ⟨.b8 (bm8 d.v 0 d.nb), .ro⟩, ⟨.b8 d.v, .ro⟩])
theorem mk_round (b v : Vec 8) (l : List Value) (nb k : Nat) (N i : Int) : ranAs 1 (some [0, 5, 6, 2]) (mkMid ⟨b, v, nb, k, N, i⟩ l) (goL specs20 noLoop 20 0 (mkSt ⟨b, v, nb, k, N, i⟩ l).1 ⟨(mkSt ⟨b, v, nb, k, N, i⟩ l).2, big, [true], []⟩) = some (.normal, (mkMid ⟨b, v, nb, k, N, i⟩ l), [decide ((((-9223372036854775808) : Int) ≤ (i + 1) ∧ (i + 1) ≤ 9223372036854775807)), decide (((nb % 128) = 0 ∧ ((128 : Nat) ≤ nb ∧ (nb ≤ 64000000 ∧ (0 + nb) ≤ v.n)))), (true && (k == (l.length + 0))), decide (((k + 1) * 24) ≤ 1099511627776), (decide (i < N) == true)]) := by kernel_rfl
theorem mk_end (b v : Vec 8) (l : List Value) (nb k : Nat) (N i : Int) : ranAs 1 none (mkSt ⟨b, v, nb, k, N, i⟩ l) (goL specs20 noLoop 20 0 (mkSt ⟨b, v, nb, k, N, i⟩ l).1 ⟨(mkSt ⟨b, v, nb, k, N, i⟩ l).2, big, [false], []⟩) = some ((.exit 0), (mkSt ⟨b, v, nb, k, N, i⟩ l), [(decide (i < N) == false)]) := by kernel_rfl
structure PkD where
  b : Vec 8
  v : Vec 8
  m : Eng.Mode
  F : Nat → Vec 8
  nb : Nat
  k : Nat
  N : Int
  i : Int
def pkFr (d : PkD) : Fr := ⟨[.sl 2 (.c 0) (.s d.nb) none, .int .i64 (.s d.N), .undef, .undef, .undef, .sl 1 (.c 0) (.s d.k) none, .undef, .int .i64 (.s d.i), .undef, .undef], []⟩
def pkSt (d : PkD) : Fr × List Blk := (pkFr d, [⟨.b8 d.b, .ro⟩, ⟨.gen [], .dead⟩, ⟨.b8 d.v, d.m⟩, ⟨.gen [], .dead⟩])
def glSt (b v : Vec 8) (l : List Value) (nb k : Nat) (N : Int) : Fr × List Blk := (⟨[.sl 2 (.c 0) (.s nb) none, .int .i64 (.s N), .undef, .undef, .undef, .sl 1 (.c 0) (.s k) none, .undef, .int .i64 (.s 0), .undef, .undef], []⟩, [⟨.b8 b, .ro⟩, ⟨.kn l [], .own⟩, ⟨.b8 v, .ro⟩, ⟨.gen [], .dead⟩])
theorem gl_run (b v : Vec 8) (l : List Value) (nb k : Nat) (N i : Int) : ranAs 2 none (glSt b v l nb k N) (goP specs20 noLoop 20 [true, true, true, false, false] (mkSt ⟨b, v, nb, k, N, i⟩ l).1 ⟨(mkSt ⟨b, v, nb, k, N, i⟩ l).2, big, [], []⟩) = some (.normal, (glSt b v l nb k N), []) := by kernel_rfl
def pkUp (d : PkD) (key : Nat) (R : Vec 8) : List Blk := [⟨.b8 d.b, .ro⟩, ⟨.spot d.k key (.sl 4 (.c 0) (.s d.nb) none), .ro⟩, ⟨.b8 d.v, d.m⟩, ⟨.gen [], .dead⟩, ⟨.b8 R, .ro⟩]
def pkNext (d : PkD) (R : Vec 8) : PkD := ⟨d.b, bm8 (xoV d.v 0 R 0 d.nb) 0 d.nb, .own, d.F, d.nb, d.k, d.N, d.i + 1⟩
theorem pk_ro (b v R : Vec 8) (F : Nat → Vec 8) (nb k key : Nat) (N i : Int) : ranAs 2 (some [0, 1, 6, 3]) (pkSt (pkNext ⟨b, v, .ro, F, nb, k, N, i⟩ R)) (dropA 1 (goL specs20 noLoop 20 1 (pkSt ⟨b, v, .ro, F, nb, k, N, i⟩).1 ⟨pkUp ⟨b, v, .ro, F, nb, k, N, i⟩ key R, big, [true], []⟩)) = some (.normal, (pkSt (pkNext ⟨b, v, .ro, F, nb, k, N, i⟩ R)), [decide ((((-9223372036854775808) : Int) ≤ (i + 1) ∧ (i + 1) ≤ 9223372036854775807)), decide (((nb % 128) = 0 ∧ ((128 : Nat) ≤ nb ∧ (nb ≤ 64000000 ∧ (0 + nb) ≤ nb)))), decide ((nb = nb ∧ ((0 + nb) ≤ v.n ∧ ((0 + nb) ≤ R.n ∧ nb ≤ 1099511627776)))), decide (((0 + ((((andV .i64 (orV .i64 ((((lw v (0 + (((((nb : Nat) : Int) - 64)) : Int).toNat))).toNat : Nat) : Int) (shlV .i64 ((((lw v (0 + ((((((nb : Nat) : Int) - 64) + 4)) : Int).toNat))).toNat : Nat) : Int) 32)) (N - 1))) : Int).toNat * 1)) = key ∧ key < k)), (decide ((0 : Int) ≤ (andV .i64 (orV .i64 ((((lw v (0 + (((((nb : Nat) : Int) - 64)) : Int).toNat))).toNat : Nat) : Int) (shlV .i64 ((((lw v (0 + ((((((nb : Nat) : Int) - 64) + 4)) : Int).toNat))).toNat : Nat) : Int) 32)) (N - 1))) && decide ((andV .i64 (orV .i64 ((((lw v (0 + (((((nb : Nat) : Int) - 64)) : Int).toNat))).toNat : Nat) : Int) (shlV .i64 ((((lw v (0 + ((((((nb : Nat) : Int) - 64) + 4)) : Int).toNat))).toNat : Nat) : Int) 32)) (N - 1)) < ((k : Nat) : Int))), decide ((0 : Int) ≤ (N - 1)), decide ((((-9223372036854775808) : Int) ≤ (N - 1) ∧ (N - 1) ≤ 9223372036854775807)), decide (((-9223372036854775808) : Int) ≤ 0), decide (((((lw v (0 + ((((((nb : Nat) : Int) - 64) + 4)) : Int).toNat))).toNat : Nat) : Int) ≤ 9223372036854775807), decide ((((0 + ((((((nb : Nat) : Int) - 64) + 4)) : Int).toNat) + 4) ≤ v.n ∧ (4 : Nat) ≤ (((((nb : Nat) : Int)) : Int).toNat - ((((((nb : Nat) : Int) - 64) + 4)) : Int).toNat))), ((decide ((0 : Int) ≤ ((((nb : Nat) : Int) - 64) + 4)) && decide (((((nb : Nat) : Int) - 64) + 4) ≤ ((nb : Nat) : Int))) && decide (((nb : Nat) : Int) ≤ ((nb : Nat) : Int))), decide ((((-9223372036854775808) : Int) ≤ ((((nb : Nat) : Int) - 64) + 4) ∧ ((((nb : Nat) : Int) - 64) + 4) ≤ 9223372036854775807)), decide (((((lw v (0 + (((((nb : Nat) : Int) - 64)) : Int).toNat))).toNat : Nat) : Int) ≤ 9223372036854775807), decide ((((0 + (((((nb : Nat) : Int) - 64)) : Int).toNat) + 4) ≤ v.n ∧ (4 : Nat) ≤ (((((nb : Nat) : Int)) : Int).toNat - (((((nb : Nat) : Int) - 64)) : Int).toNat))), ((decide ((0 : Int) ≤ (((nb : Nat) : Int) - 64)) && decide ((((nb : Nat) : Int) - 64) ≤ ((nb : Nat) : Int))) && decide (((nb : Nat) : Int) ≤ ((nb : Nat) : Int))), decide ((((-9223372036854775808) : Int) ≤ (((nb : Nat) : Int) - 64) ∧ (((nb : Nat) : Int) - 64) ≤ 9223372036854775807)), (decide (i < N) == true)]) := by kernel_rfl
theorem pk_own (b v R : Vec 8) (F : Nat → Vec 8) (nb k key : Nat) (N i : Int) : ranAs 2 (some [0, 1, 6, 3]) (pkSt (pkNext ⟨b, v, .own, F, nb, k, N, i⟩ R)) (dropA 1 (goL specs20 noLoop 20 1 (pkSt ⟨b, v, .own, F, nb, k, N, i⟩).1 ⟨pkUp ⟨b, v, .own, F, nb, k, N, i⟩ key R, big, [true], []⟩)) = some (.normal, (pkSt (pkNext ⟨b, v, .own, F, nb, k, N, i⟩ R)), [decide ((((-9223372036854775808) : Int) ≤ (i + 1) ∧ (i + 1) ≤ 9223372036854775807)), decide (((nb % 128) = 0 ∧ ((128 : Nat) ≤ nb ∧ (nb ≤ 64000000 ∧ (0 + nb) ≤ nb)))), decide ((nb = nb ∧ ((0 + nb) ≤ v.n ∧ ((0 + nb) ≤ R.n ∧ nb ≤ 1099511627776)))), decide (((0 + ((((andV .i64 (orV .i64 ((((lw v (0 + (((((nb : Nat) : Int) - 64)) : Int).toNat))).toNat : Nat) : Int) (shlV .i64 ((((lw v (0 + ((((((nb : Nat) : Int) - 64) + 4)) : Int).toNat))).toNat : Nat) : Int) 32)) (N - 1))) : Int).toNat * 1)) = key ∧ key < k)), (decide ((0 : Int) ≤ (andV .i64 (orV .i64 ((((lw v (0 + (((((nb : Nat) : Int) - 64)) : Int).toNat))).toNat : Nat) : Int) (shlV .i64 ((((lw v (0 + ((((((nb : Nat) : Int) - 64) + 4)) : Int).toNat))).toNat : Nat) : Int) 32)) (N - 1))) && decide ((andV .i64 (orV .i64 ((((lw v (0 + (((((nb : Nat) : Int) - 64)) : Int).toNat))).toNat : Nat) : Int) (shlV .i64 ((((lw v (0 + ((((((nb : Nat) : Int) - 64) + 4)) : Int).toNat))).toNat : Nat) : Int) 32)) (N - 1)) < ((k : Nat) : Int))), decide ((0 : Int) ≤ (N - 1)), decide ((((-9223372036854775808) : Int) ≤ (N - 1) ∧ (N - 1) ≤ 9223372036854775807)), decide (((-9223372036854775808) : Int) ≤ 0), decide (((((lw v (0 + ((((((nb : Nat) : Int) - 64) + 4)) : Int).toNat))).toNat : Nat) : Int) ≤ 9223372036854775807), decide ((((0 + ((((((nb : Nat) : Int) - 64) + 4)) : Int).toNat) + 4) ≤ v.n ∧ (4 : Nat) ≤ (((((nb : Nat) : Int)) : Int).toNat - ((((((nb : Nat) : Int) - 64) + 4)) : Int).toNat))), ((decide ((0 : Int) ≤ ((((nb : Nat) : Int) - 64) + 4)) && decide (((((nb : Nat) : Int) - 64) + 4) ≤ ((nb : Nat) : Int))) && decide (((nb : Nat) : Int) ≤ ((nb : Nat) : Int))), decide ((((-9223372036854775808) : Int) ≤ ((((nb : Nat) : Int) - 64) + 4) ∧ ((((nb : Nat) : Int) - 64) + 4) ≤ 9223372036854775807)), decide (((((lw v (0 + (((((nb : Nat) : Int) - 64)) : Int).toNat))).toNat : Nat) : Int) ≤ 9223372036854775807), decide ((((0 + (((((nb : Nat) : Int) - 64)) : Int).toNat) + 4) ≤ v.n ∧ (4 : Nat) ≤ (((((nb : Nat) : Int)) : Int).toNat - (((((nb : Nat) : Int) - 64)) : Int).toNat))), ((decide ((0 : Int) ≤ (((nb : Nat) : Int) - 64)) && decide ((((nb : Nat) : Int) - 64) ≤ ((nb : Nat) : Int))) && decide (((nb : Nat) : Int) ≤ ((nb : Nat) : Int))), decide ((((-9223372036854775808) : Int) ≤ (((nb : Nat) : Int) - 64) ∧ (((nb : Nat) : Int) - 64) ≤ 9223372036854775807)), (decide (i < N) == true)]) := by kernel_rfl
theorem pk_end (b v : Vec 8) (F : Nat → Vec 8) (nb k : Nat) (N i : Int) : ranAs 2 none (pkSt ⟨b, v, .own, F, nb, k, N, i⟩) (goL specs20 noLoop 20 1 (pkSt ⟨b, v, .own, F, nb, k, N, i⟩).1 ⟨(pkSt ⟨b, v, .own, F, nb, k, N, i⟩).2, big, [false], []⟩) = some ((.exit 2), (pkSt ⟨b, v, .own, F, nb, k, N, i⟩), [(decide (i < N) == false)]) := by kernel_rfl
end Go.Proofs.Ytnonaagcnenbdaa

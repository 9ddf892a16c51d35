/- RIPEMD-160's blocks: the reference's contract. -/
import Derived.Test.YtaklljigoajpcaaDoorR3Rip
namespace Go.Proofs.YtaklljigoajpcaaDoor
open Go.Eng
set_option linter.unusedSectionVars false
variable [RowAddr]
set_option linter.unusedSimpArgs false
set_option linter.unusedVariables false
def linesL : List Int := [0, 1, 2, 3, 4, 5, 6, 7, 8, 9, 10, 11, 12, 13, 14, 15, 7, 4, 13, 1, 10, 6, 15, 3, 12, 0, 9, 5, 2, 14, 11, 8, 3, 10, 14, 4, 9, 15, 8, 1] ++ [2, 7, 0, 6, 13, 11, 5, 12, 1, 9, 11, 10, 0, 8, 12, 4, 13, 3, 7, 15, 14, 5, 6, 2, 4, 0, 5, 9, 7, 12, 2, 10, 14, 1, 3, 8, 11, 6, 15, 13] ++ [5, 14, 7, 0, 9, 2, 11, 4, 13, 6, 15, 8, 1, 10, 3, 12, 6, 11, 3, 7, 0, 13, 5, 10, 14, 15, 8, 12, 4, 9, 1, 2, 15, 5, 1, 3, 7, 14, 6, 9] ++ [11, 8, 12, 2, 10, 0, 4, 13, 8, 6, 4, 1, 3, 11, 15, 0, 5, 12, 2, 13, 9, 7, 10, 14, 12, 15, 10, 4, 1, 5, 8, 7, 6, 2, 13, 14, 0, 3, 9, 11] ++ [11, 14, 15, 12, 5, 8, 7, 9, 11, 13, 14, 15, 6, 7, 9, 8, 7, 6, 8, 13, 11, 9, 7, 15, 7, 12, 15, 9, 11, 7, 13, 12, 11, 13, 6, 7, 14, 9, 13, 15] ++ [14, 8, 13, 6, 5, 12, 7, 5, 11, 12, 14, 15, 14, 15, 9, 8, 9, 14, 5, 6, 8, 6, 5, 12, 9, 15, 5, 11, 6, 8, 13, 12, 5, 12, 13, 14, 11, 8, 5, 6] ++ [8, 9, 9, 11, 13, 15, 15, 5, 7, 7, 8, 11, 14, 14, 12, 6, 9, 13, 15, 7, 12, 8, 9, 11, 7, 7, 12, 7, 6, 15, 13, 11, 9, 7, 15, 11, 8, 6, 6, 14] ++ [12, 13, 5, 14, 13, 13, 7, 5, 15, 5, 8, 11, 14, 14, 6, 14, 6, 9, 12, 9, 12, 5, 15, 8, 8, 5, 12, 9, 12, 5, 14, 6, 8, 13, 6, 5, 15, 13, 11, 11]
def lineA' : List Stp5 := [⟨0, 0, 11, some 0#32⟩, ⟨0, 1, 14, some 0#32⟩, ⟨0, 2, 15, some 0#32⟩, ⟨0, 3, 12, some 0#32⟩, ⟨0, 4, 5, some 0#32⟩, ⟨0, 5, 8, some 0#32⟩, ⟨0, 6, 7, some 0#32⟩, ⟨0, 7, 9, some 0#32⟩, ⟨0, 8, 11, some 0#32⟩, ⟨0, 9, 13, some 0#32⟩, ⟨0, 10, 14, some 0#32⟩, ⟨0, 11, 15, some 0#32⟩, ⟨0, 12, 6, some 0#32⟩, ⟨0, 13, 7, some 0#32⟩, ⟨0, 14, 9, some 0#32⟩, ⟨0, 15, 8, some 0#32⟩, ⟨1, 7, 7, some 1518500249#32⟩, ⟨1, 4, 6, some 1518500249#32⟩, ⟨1, 13, 8, some 1518500249#32⟩, ⟨1, 1, 13, some 1518500249#32⟩, ⟨1, 10, 11, some 1518500249#32⟩, ⟨1, 6, 9, some 1518500249#32⟩, ⟨1, 15, 7, some 1518500249#32⟩, ⟨1, 3, 15, some 1518500249#32⟩, ⟨1, 12, 7, some 1518500249#32⟩, ⟨1, 0, 12, some 1518500249#32⟩, ⟨1, 9, 15, some 1518500249#32⟩, ⟨1, 5, 9, some 1518500249#32⟩, ⟨1, 2, 11, some 1518500249#32⟩, ⟨1, 14, 7, some 1518500249#32⟩, ⟨1, 11, 13, some 1518500249#32⟩, ⟨1, 8, 12, some 1518500249#32⟩, ⟨2, 3, 11, some 1859775393#32⟩, ⟨2, 10, 13, some 1859775393#32⟩, ⟨2, 14, 6, some 1859775393#32⟩, ⟨2, 4, 7, some 1859775393#32⟩, ⟨2, 9, 14, some 1859775393#32⟩, ⟨2, 15, 9, some 1859775393#32⟩, ⟨2, 8, 13, some 1859775393#32⟩, ⟨2, 1, 15, some 1859775393#32⟩] ++ [⟨2, 2, 14, some 1859775393#32⟩, ⟨2, 7, 8, some 1859775393#32⟩, ⟨2, 0, 13, some 1859775393#32⟩, ⟨2, 6, 6, some 1859775393#32⟩, ⟨2, 13, 5, some 1859775393#32⟩, ⟨2, 11, 12, some 1859775393#32⟩, ⟨2, 5, 7, some 1859775393#32⟩, ⟨2, 12, 5, some 1859775393#32⟩, ⟨3, 1, 11, some 2400959708#32⟩, ⟨3, 9, 12, some 2400959708#32⟩, ⟨3, 11, 14, some 2400959708#32⟩, ⟨3, 10, 15, some 2400959708#32⟩, ⟨3, 0, 14, some 2400959708#32⟩, ⟨3, 8, 15, some 2400959708#32⟩, ⟨3, 12, 9, some 2400959708#32⟩, ⟨3, 4, 8, some 2400959708#32⟩, ⟨3, 13, 9, some 2400959708#32⟩, ⟨3, 3, 14, some 2400959708#32⟩, ⟨3, 7, 5, some 2400959708#32⟩, ⟨3, 15, 6, some 2400959708#32⟩, ⟨3, 14, 8, some 2400959708#32⟩, ⟨3, 5, 6, some 2400959708#32⟩, ⟨3, 6, 5, some 2400959708#32⟩, ⟨3, 2, 12, some 2400959708#32⟩, ⟨4, 4, 9, some 2840853838#32⟩, ⟨4, 0, 15, some 2840853838#32⟩, ⟨4, 5, 5, some 2840853838#32⟩, ⟨4, 9, 11, some 2840853838#32⟩, ⟨4, 7, 6, some 2840853838#32⟩, ⟨4, 12, 8, some 2840853838#32⟩, ⟨4, 2, 13, some 2840853838#32⟩, ⟨4, 10, 12, some 2840853838#32⟩, ⟨4, 14, 5, some 2840853838#32⟩, ⟨4, 1, 12, some 2840853838#32⟩, ⟨4, 3, 13, some 2840853838#32⟩, ⟨4, 8, 14, some 2840853838#32⟩, ⟨4, 11, 11, some 2840853838#32⟩, ⟨4, 6, 8, some 2840853838#32⟩, ⟨4, 15, 5, some 2840853838#32⟩, ⟨4, 13, 6, some 2840853838#32⟩]
def lineB' : List Stp5 := [⟨4, 5, 8, some 1352829926#32⟩, ⟨4, 14, 9, some 1352829926#32⟩, ⟨4, 7, 9, some 1352829926#32⟩, ⟨4, 0, 11, some 1352829926#32⟩, ⟨4, 9, 13, some 1352829926#32⟩, ⟨4, 2, 15, some 1352829926#32⟩, ⟨4, 11, 15, some 1352829926#32⟩, ⟨4, 4, 5, some 1352829926#32⟩, ⟨4, 13, 7, some 1352829926#32⟩, ⟨4, 6, 7, some 1352829926#32⟩, ⟨4, 15, 8, some 1352829926#32⟩, ⟨4, 8, 11, some 1352829926#32⟩, ⟨4, 1, 14, some 1352829926#32⟩, ⟨4, 10, 14, some 1352829926#32⟩, ⟨4, 3, 12, some 1352829926#32⟩, ⟨4, 12, 6, some 1352829926#32⟩, ⟨3, 6, 9, some 1548603684#32⟩, ⟨3, 11, 13, some 1548603684#32⟩, ⟨3, 3, 15, some 1548603684#32⟩, ⟨3, 7, 7, some 1548603684#32⟩, ⟨3, 0, 12, some 1548603684#32⟩, ⟨3, 13, 8, some 1548603684#32⟩, ⟨3, 5, 9, some 1548603684#32⟩, ⟨3, 10, 11, some 1548603684#32⟩, ⟨3, 14, 7, some 1548603684#32⟩, ⟨3, 15, 7, some 1548603684#32⟩, ⟨3, 8, 12, some 1548603684#32⟩, ⟨3, 12, 7, some 1548603684#32⟩, ⟨3, 4, 6, some 1548603684#32⟩, ⟨3, 9, 15, some 1548603684#32⟩, ⟨3, 1, 13, some 1548603684#32⟩, ⟨3, 2, 11, some 1548603684#32⟩, ⟨2, 15, 9, some 1836072691#32⟩, ⟨2, 5, 7, some 1836072691#32⟩, ⟨2, 1, 15, some 1836072691#32⟩, ⟨2, 3, 11, some 1836072691#32⟩, ⟨2, 7, 8, some 1836072691#32⟩, ⟨2, 14, 6, some 1836072691#32⟩, ⟨2, 6, 6, some 1836072691#32⟩, ⟨2, 9, 14, some 1836072691#32⟩] ++ [⟨2, 11, 12, some 1836072691#32⟩, ⟨2, 8, 13, some 1836072691#32⟩, ⟨2, 12, 5, some 1836072691#32⟩, ⟨2, 2, 14, some 1836072691#32⟩, ⟨2, 10, 13, some 1836072691#32⟩, ⟨2, 0, 13, some 1836072691#32⟩, ⟨2, 4, 7, some 1836072691#32⟩, ⟨2, 13, 5, some 1836072691#32⟩, ⟨1, 8, 15, some 2053994217#32⟩, ⟨1, 6, 5, some 2053994217#32⟩, ⟨1, 4, 8, some 2053994217#32⟩, ⟨1, 1, 11, some 2053994217#32⟩, ⟨1, 3, 14, some 2053994217#32⟩, ⟨1, 11, 14, some 2053994217#32⟩, ⟨1, 15, 6, some 2053994217#32⟩, ⟨1, 0, 14, some 2053994217#32⟩, ⟨1, 5, 6, some 2053994217#32⟩, ⟨1, 12, 9, some 2053994217#32⟩, ⟨1, 2, 12, some 2053994217#32⟩, ⟨1, 13, 9, some 2053994217#32⟩, ⟨1, 9, 12, some 2053994217#32⟩, ⟨1, 7, 5, some 2053994217#32⟩, ⟨1, 10, 15, some 2053994217#32⟩, ⟨1, 14, 8, some 2053994217#32⟩, ⟨0, 12, 8, some 0#32⟩, ⟨0, 15, 5, some 0#32⟩, ⟨0, 10, 12, some 0#32⟩, ⟨0, 4, 9, some 0#32⟩, ⟨0, 1, 12, some 0#32⟩, ⟨0, 5, 5, some 0#32⟩, ⟨0, 8, 14, some 0#32⟩, ⟨0, 7, 6, some 0#32⟩, ⟨0, 6, 8, some 0#32⟩, ⟨0, 2, 13, some 0#32⟩, ⟨0, 13, 6, some 0#32⟩, ⟨0, 14, 5, some 0#32⟩, ⟨0, 0, 15, some 0#32⟩, ⟨0, 3, 13, some 0#32⟩, ⟨0, 9, 11, some 0#32⟩, ⟨0, 11, 11, some 0#32⟩]
def ripR (h : W5) (m : Vec 32) : W5 :=
  let L := line5 m lineA' h
  let R := line5 m lineB' h
  ⟨h.x1 + L.x2 + R.x3, h.x2 + L.x3 + R.x4, h.x3 + L.x4 + R.x0, h.x4 + L.x0 + R.x1, h.x0 + L.x1 + R.x2⟩
structure c30D where
  v : Vec 8
  o : Nat
  n : Nat
def c30_rd (a : List AV) (K : List Blk) : Option c30D :=
    match a with
    | [(.ref (.sl 0 (.s o) (.s n) none))] =>
      match K with
      | [⟨(.b8 v), .ro⟩] => some ⟨v, o, n⟩
      | _ => none
    | _ => none
def c30 : Ct c30D where
  pat := [(.ref (.sl 0 (.s 0) (.s 0) none))]
  patH := [⟨(.b8 (Vec.zero 8 0)), .ro⟩]
  read := c30_rd
  args := fun ⟨_, o, n⟩ => [(.ref (.sl 0 (.s o) (.s n) none))]
  heap := fun ⟨v, _, _⟩ => [⟨(.b8 v), .ro⟩]
  out := fun ⟨v, _, _⟩ => [⟨(.b8 v), .ro⟩]
  val := fun ⟨v, o, _⟩ => (.agg (c32v (wrd v o) 16))
  good := fun ⟨v, o, n⟩ => decide (o + 64 ≤ v.n ∧ 64 ≤ n)
theorem c30_run (v : Vec 8) (o n : Nat) : endsAs (c30.heap ⟨v, o, n⟩).length (some [0]) (c30.out ⟨v, o, n⟩) (c30.val ⟨v, o, n⟩) (goB noSpec noLoop 30 (c30.args ⟨v, o, n⟩) ⟨c30.heap ⟨v, o, n⟩, big, [], []⟩) = some ((c30.out ⟨v, o, n⟩), (c30.val ⟨v, o, n⟩), [decide (((o + 60) + 3) < v.n), (true && decide ((3 : Int) < (((((((n : Nat) : Int)) : Int).toNat - 60) : Nat) : Int))), decide (((o + 60) + 2) < v.n), (true && decide ((2 : Int) < (((((((n : Nat) : Int)) : Int).toNat - 60) : Nat) : Int))), decide (((o + 60) + 1) < v.n), (true && decide ((1 : Int) < (((((((n : Nat) : Int)) : Int).toNat - 60) : Nat) : Int))), decide (((o + 60) + 0) < v.n), (true && decide ((0 : Int) < (((((((n : Nat) : Int)) : Int).toNat - 60) : Nat) : Int))), ((true && decide ((60 : Int) ≤ ((n : Nat) : Int))) && decide (((n : Nat) : Int) ≤ ((n : Nat) : Int))), decide (((o + 56) + 3) < v.n), (true && decide ((3 : Int) < (((((((n : Nat) : Int)) : Int).toNat - 56) : Nat) : Int))), decide (((o + 56) + 2) < v.n), (true && decide ((2 : Int) < (((((((n : Nat) : Int)) : Int).toNat - 56) : Nat) : Int))), decide (((o + 56) + 1) < v.n), (true && decide ((1 : Int) < (((((((n : Nat) : Int)) : Int).toNat - 56) : Nat) : Int))), decide (((o + 56) + 0) < v.n), (true && decide ((0 : Int) < (((((((n : Nat) : Int)) : Int).toNat - 56) : Nat) : Int))), ((true && decide ((56 : Int) ≤ ((n : Nat) : Int))) && decide (((n : Nat) : Int) ≤ ((n : Nat) : Int))), decide (((o + 52) + 3) < v.n), (true && decide ((3 : Int) < (((((((n : Nat) : Int)) : Int).toNat - 52) : Nat) : Int))), decide (((o + 52) + 2) < v.n), (true && decide ((2 : Int) < (((((((n : Nat) : Int)) : Int).toNat - 52) : Nat) : Int))), decide (((o + 52) + 1) < v.n), (true && decide ((1 : Int) < (((((((n : Nat) : Int)) : Int).toNat - 52) : Nat) : Int))), decide (((o + 52) + 0) < v.n), (true && decide ((0 : Int) < (((((((n : Nat) : Int)) : Int).toNat - 52) : Nat) : Int))), ((true && decide ((52 : Int) ≤ ((n : Nat) : Int))) && decide (((n : Nat) : Int) ≤ ((n : Nat) : Int))), decide (((o + 48) + 3) < v.n), (true && decide ((3 : Int) < (((((((n : Nat) : Int)) : Int).toNat - 48) : Nat) : Int))), decide (((o + 48) + 2) < v.n), (true && decide ((2 : Int) < (((((((n : Nat) : Int)) : Int).toNat - 48) : Nat) : Int))), decide (((o + 48) + 1) < v.n), (true && decide ((1 : Int) < (((((((n : Nat) : Int)) : Int).toNat - 48) : Nat) : Int))), decide (((o + 48) + 0) < v.n), (true && decide ((0 : Int) < (((((((n : Nat) : Int)) : Int).toNat - 48) : Nat) : Int))), ((true && decide ((48 : Int) ≤ ((n : Nat) : Int))) && decide (((n : Nat) : Int) ≤ ((n : Nat) : Int))), decide (((o + 44) + 3) < v.n), (true && decide ((3 : Int) < (((((((n : Nat) : Int)) : Int).toNat - 44) : Nat) : Int))), decide (((o + 44) + 2) < v.n), (true && decide ((2 : Int) < (((((((n : Nat) : Int)) : Int).toNat - 44) : Nat) : Int))), decide (((o + 44) + 1) < v.n), (true && decide ((1 : Int) < (((((((n : Nat) : Int)) : Int).toNat - 44) : Nat) : Int))), decide (((o + 44) + 0) < v.n), (true && decide ((0 : Int) < (((((((n : Nat) : Int)) : Int).toNat - 44) : Nat) : Int))), ((true && decide ((44 : Int) ≤ ((n : Nat) : Int))) && decide (((n : Nat) : Int) ≤ ((n : Nat) : Int))), decide (((o + 40) + 3) < v.n), (true && decide ((3 : Int) < (((((((n : Nat) : Int)) : Int).toNat - 40) : Nat) : Int))), decide (((o + 40) + 2) < v.n), (true && decide ((2 : Int) < (((((((n : Nat) : Int)) : Int).toNat - 40) : Nat) : Int))), decide (((o + 40) + 1) < v.n), (true && decide ((1 : Int) < (((((((n : Nat) : Int)) : Int).toNat - 40) : Nat) : Int))), decide (((o + 40) + 0) < v.n), (true && decide ((0 : Int) < (((((((n : Nat) : Int)) : Int).toNat - 40) : Nat) : Int))), ((true && decide ((40 : Int) ≤ ((n : Nat) : Int))) && decide (((n : Nat) : Int) ≤ ((n : Nat) : Int))), decide (((o + 36) + 3) < v.n), (true && decide ((3 : Int) < (((((((n : Nat) : Int)) : Int).toNat - 36) : Nat) : Int))), decide (((o + 36) + 2) < v.n), (true && decide ((2 : Int) < (((((((n : Nat) : Int)) : Int).toNat - 36) : Nat) : Int))), decide (((o + 36) + 1) < v.n), (true && decide ((1 : Int) < (((((((n : Nat) : Int)) : Int).toNat - 36) : Nat) : Int))), decide (((o + 36) + 0) < v.n), (true && decide ((0 : Int) < (((((((n : Nat) : Int)) : Int).toNat - 36) : Nat) : Int))), ((true && decide ((36 : Int) ≤ ((n : Nat) : Int))) && decide (((n : Nat) : Int) ≤ ((n : Nat) : Int))), decide (((o + 32) + 3) < v.n), (true && decide ((3 : Int) < (((((((n : Nat) : Int)) : Int).toNat - 32) : Nat) : Int))), decide (((o + 32) + 2) < v.n), (true && decide ((2 : Int) < (((((((n : Nat) : Int)) : Int).toNat - 32) : Nat) : Int))), decide (((o + 32) + 1) < v.n), (true && decide ((1 : Int) < (((((((n : Nat) : Int)) : Int).toNat - 32) : Nat) : Int))), decide (((o + 32) + 0) < v.n), (true && decide ((0 : Int) < (((((((n : Nat) : Int)) : Int).toNat - 32) : Nat) : Int))), ((true && decide ((32 : Int) ≤ ((n : Nat) : Int))) && decide (((n : Nat) : Int) ≤ ((n : Nat) : Int))), decide (((o + 28) + 3) < v.n), (true && decide ((3 : Int) < (((((((n : Nat) : Int)) : Int).toNat - 28) : Nat) : Int))), decide (((o + 28) + 2) < v.n), (true && decide ((2 : Int) < (((((((n : Nat) : Int)) : Int).toNat - 28) : Nat) : Int))), decide (((o + 28) + 1) < v.n), (true && decide ((1 : Int) < (((((((n : Nat) : Int)) : Int).toNat - 28) : Nat) : Int))), decide (((o + 28) + 0) < v.n), (true && decide ((0 : Int) < (((((((n : Nat) : Int)) : Int).toNat - 28) : Nat) : Int))), ((true && decide ((28 : Int) ≤ ((n : Nat) : Int))) && decide (((n : Nat) : Int) ≤ ((n : Nat) : Int))), decide (((o + 24) + 3) < v.n), (true && decide ((3 : Int) < (((((((n : Nat) : Int)) : Int).toNat - 24) : Nat) : Int))), decide (((o + 24) + 2) < v.n), (true && decide ((2 : Int) < (((((((n : Nat) : Int)) : Int).toNat - 24) : Nat) : Int))), decide (((o + 24) + 1) < v.n), (true && decide ((1 : Int) < (((((((n : Nat) : Int)) : Int).toNat - 24) : Nat) : Int))), decide (((o + 24) + 0) < v.n), (true && decide ((0 : Int) < (((((((n : Nat) : Int)) : Int).toNat - 24) : Nat) : Int))), ((true && decide ((24 : Int) ≤ ((n : Nat) : Int))) && decide (((n : Nat) : Int) ≤ ((n : Nat) : Int))), decide (((o + 20) + 3) < v.n), (true && decide ((3 : Int) < (((((((n : Nat) : Int)) : Int).toNat - 20) : Nat) : Int))), decide (((o + 20) + 2) < v.n), (true && decide ((2 : Int) < (((((((n : Nat) : Int)) : Int).toNat - 20) : Nat) : Int))), decide (((o + 20) + 1) < v.n), (true && decide ((1 : Int) < (((((((n : Nat) : Int)) : Int).toNat - 20) : Nat) : Int))), decide (((o + 20) + 0) < v.n), (true && decide ((0 : Int) < (((((((n : Nat) : Int)) : Int).toNat - 20) : Nat) : Int))), ((true && decide ((20 : Int) ≤ ((n : Nat) : Int))) && decide (((n : Nat) : Int) ≤ ((n : Nat) : Int))), decide (((o + 16) + 3) < v.n), (true && decide ((3 : Int) < (((((((n : Nat) : Int)) : Int).toNat - 16) : Nat) : Int))), decide (((o + 16) + 2) < v.n), (true && decide ((2 : Int) < (((((((n : Nat) : Int)) : Int).toNat - 16) : Nat) : Int))), decide (((o + 16) + 1) < v.n), (true && decide ((1 : Int) < (((((((n : Nat) : Int)) : Int).toNat - 16) : Nat) : Int))), decide (((o + 16) + 0) < v.n), (true && decide ((0 : Int) < (((((((n : Nat) : Int)) : Int).toNat - 16) : Nat) : Int))), ((true && decide ((16 : Int) ≤ ((n : Nat) : Int))) && decide (((n : Nat) : Int) ≤ ((n : Nat) : Int))), decide (((o + 12) + 3) < v.n), (true && decide ((3 : Int) < (((((((n : Nat) : Int)) : Int).toNat - 12) : Nat) : Int))), decide (((o + 12) + 2) < v.n), (true && decide ((2 : Int) < (((((((n : Nat) : Int)) : Int).toNat - 12) : Nat) : Int))), decide (((o + 12) + 1) < v.n), (true && decide ((1 : Int) < (((((((n : Nat) : Int)) : Int).toNat - 12) : Nat) : Int))), decide (((o + 12) + 0) < v.n), (true && decide ((0 : Int) < (((((((n : Nat) : Int)) : Int).toNat - 12) : Nat) : Int))), ((true && decide ((12 : Int) ≤ ((n : Nat) : Int))) && decide (((n : Nat) : Int) ≤ ((n : Nat) : Int))), decide (((o + 8) + 3) < v.n), (true && decide ((3 : Int) < (((((((n : Nat) : Int)) : Int).toNat - 8) : Nat) : Int))), decide (((o + 8) + 2) < v.n), (true && decide ((2 : Int) < (((((((n : Nat) : Int)) : Int).toNat - 8) : Nat) : Int))), decide (((o + 8) + 1) < v.n), (true && decide ((1 : Int) < (((((((n : Nat) : Int)) : Int).toNat - 8) : Nat) : Int))), decide (((o + 8) + 0) < v.n), (true && decide ((0 : Int) < (((((((n : Nat) : Int)) : Int).toNat - 8) : Nat) : Int))), ((true && decide ((8 : Int) ≤ ((n : Nat) : Int))) && decide (((n : Nat) : Int) ≤ ((n : Nat) : Int))), decide (((o + 4) + 3) < v.n), (true && decide ((3 : Int) < (((((((n : Nat) : Int)) : Int).toNat - 4) : Nat) : Int))), decide (((o + 4) + 2) < v.n), (true && decide ((2 : Int) < (((((((n : Nat) : Int)) : Int).toNat - 4) : Nat) : Int))), decide (((o + 4) + 1) < v.n), (true && decide ((1 : Int) < (((((((n : Nat) : Int)) : Int).toNat - 4) : Nat) : Int))), decide (((o + 4) + 0) < v.n), (true && decide ((0 : Int) < (((((((n : Nat) : Int)) : Int).toNat - 4) : Nat) : Int))), ((true && decide ((4 : Int) ≤ ((n : Nat) : Int))) && decide (((n : Nat) : Int) ≤ ((n : Nat) : Int))), decide (((o + 0) + 3) < v.n), (true && decide ((3 : Int) < (((((((n : Nat) : Int)) : Int).toNat - 0) : Nat) : Int))), decide (((o + 0) + 2) < v.n), (true && decide ((2 : Int) < (((((((n : Nat) : Int)) : Int).toNat - 0) : Nat) : Int))), decide (((o + 0) + 1) < v.n), (true && decide ((1 : Int) < (((((((n : Nat) : Int)) : Int).toNat - 0) : Nat) : Int))), decide (((o + 0) + 0) < v.n), (true && decide ((0 : Int) < (((((((n : Nat) : Int)) : Int).toNat - 0) : Nat) : Int))), ((true && decide ((0 : Int) ≤ ((n : Nat) : Int))) && decide (((n : Nat) : Int) ≤ ((n : Nat) : Int)))]) := by kernel_rfl
set_option maxRecDepth 100000 in
theorem c30_read (a : List AV) (K : List Blk) (d : c30D) (h : c30.read a K = some d) : a = c30.args d ∧ K = c30.heap d := by
  replace h : c30_rd a K = some d := h
  unfold c30_rd at h
  split at h
  case h_2 => cases h
  split at h
  case h_2 => cases h
  injection h with h; subst h
  exact ⟨rfl, rfl⟩
theorem c30_ok : SpecOk Tryd.prog noGlob 30 c30.spec := by
  refine c30.ok (goB_ok no_specs (no_loops _)) c30_read ?_
  rintro ⟨v, o, n⟩ hg
  have hg : o + 64 ≤ v.n ∧ 64 ≤ n := of_decide_eq_true hg
  refine ⟨[], (some [0]), _, c30_run v o n, ?_⟩
  repeat' (refine all_true_cons ?_ ?_)
  all_goals first | exact all_true_nil | rfl | (simp only [Bool.and_eq_true, decide_eq_true_eq, beq_iff_eq, beq_true, beq_false, Bool.not_eq_true', decide_eq_false_iff_not, beq_eq_false_iff_ne, ne_eq, Bool.not_eq_false', bne_iff_ne, true_and, and_true] <;> omega)
def lineXA (ad : Vec 32) : List Stp5 := [⟨0, 0, 11, some (ad.l.getD 0 0#32)⟩, ⟨0, 1, 14, some (ad.l.getD 0 0#32)⟩, ⟨0, 2, 15, some (ad.l.getD 0 0#32)⟩, ⟨0, 3, 12, some (ad.l.getD 0 0#32)⟩, ⟨0, 4, 5, some (ad.l.getD 0 0#32)⟩, ⟨0, 5, 8, some (ad.l.getD 0 0#32)⟩, ⟨0, 6, 7, some (ad.l.getD 0 0#32)⟩, ⟨0, 7, 9, some (ad.l.getD 0 0#32)⟩, ⟨0, 8, 11, some (ad.l.getD 0 0#32)⟩, ⟨0, 9, 13, some (ad.l.getD 0 0#32)⟩, ⟨0, 10, 14, some (ad.l.getD 0 0#32)⟩, ⟨0, 11, 15, some (ad.l.getD 0 0#32)⟩, ⟨0, 12, 6, some (ad.l.getD 0 0#32)⟩, ⟨0, 13, 7, some (ad.l.getD 0 0#32)⟩, ⟨0, 14, 9, some (ad.l.getD 0 0#32)⟩, ⟨0, 15, 8, some (ad.l.getD 0 0#32)⟩, ⟨1, 7, 7, some (ad.l.getD 1 0#32)⟩, ⟨1, 4, 6, some (ad.l.getD 1 0#32)⟩, ⟨1, 13, 8, some (ad.l.getD 1 0#32)⟩, ⟨1, 1, 13, some (ad.l.getD 1 0#32)⟩, ⟨1, 10, 11, some (ad.l.getD 1 0#32)⟩, ⟨1, 6, 9, some (ad.l.getD 1 0#32)⟩, ⟨1, 15, 7, some (ad.l.getD 1 0#32)⟩, ⟨1, 3, 15, some (ad.l.getD 1 0#32)⟩, ⟨1, 12, 7, some (ad.l.getD 1 0#32)⟩, ⟨1, 0, 12, some (ad.l.getD 1 0#32)⟩, ⟨1, 9, 15, some (ad.l.getD 1 0#32)⟩, ⟨1, 5, 9, some (ad.l.getD 1 0#32)⟩, ⟨1, 2, 11, some (ad.l.getD 1 0#32)⟩, ⟨1, 14, 7, some (ad.l.getD 1 0#32)⟩, ⟨1, 11, 13, some (ad.l.getD 1 0#32)⟩, ⟨1, 8, 12, some (ad.l.getD 1 0#32)⟩, ⟨2, 3, 11, some (ad.l.getD 2 0#32)⟩, ⟨2, 10, 13, some (ad.l.getD 2 0#32)⟩, ⟨2, 14, 6, some (ad.l.getD 2 0#32)⟩, ⟨2, 4, 7, some (ad.l.getD 2 0#32)⟩, ⟨2, 9, 14, some (ad.l.getD 2 0#32)⟩, ⟨2, 15, 9, some (ad.l.getD 2 0#32)⟩, ⟨2, 8, 13, some (ad.l.getD 2 0#32)⟩, ⟨2, 1, 15, some (ad.l.getD 2 0#32)⟩] ++ [⟨2, 2, 14, some (ad.l.getD 2 0#32)⟩, ⟨2, 7, 8, some (ad.l.getD 2 0#32)⟩, ⟨2, 0, 13, some (ad.l.getD 2 0#32)⟩, ⟨2, 6, 6, some (ad.l.getD 2 0#32)⟩, ⟨2, 13, 5, some (ad.l.getD 2 0#32)⟩, ⟨2, 11, 12, some (ad.l.getD 2 0#32)⟩, ⟨2, 5, 7, some (ad.l.getD 2 0#32)⟩, ⟨2, 12, 5, some (ad.l.getD 2 0#32)⟩, ⟨3, 1, 11, some (ad.l.getD 3 0#32)⟩, ⟨3, 9, 12, some (ad.l.getD 3 0#32)⟩, ⟨3, 11, 14, some (ad.l.getD 3 0#32)⟩, ⟨3, 10, 15, some (ad.l.getD 3 0#32)⟩, ⟨3, 0, 14, some (ad.l.getD 3 0#32)⟩, ⟨3, 8, 15, some (ad.l.getD 3 0#32)⟩, ⟨3, 12, 9, some (ad.l.getD 3 0#32)⟩, ⟨3, 4, 8, some (ad.l.getD 3 0#32)⟩, ⟨3, 13, 9, some (ad.l.getD 3 0#32)⟩, ⟨3, 3, 14, some (ad.l.getD 3 0#32)⟩, ⟨3, 7, 5, some (ad.l.getD 3 0#32)⟩, ⟨3, 15, 6, some (ad.l.getD 3 0#32)⟩, ⟨3, 14, 8, some (ad.l.getD 3 0#32)⟩, ⟨3, 5, 6, some (ad.l.getD 3 0#32)⟩, ⟨3, 6, 5, some (ad.l.getD 3 0#32)⟩, ⟨3, 2, 12, some (ad.l.getD 3 0#32)⟩, ⟨4, 4, 9, some (ad.l.getD 4 0#32)⟩, ⟨4, 0, 15, some (ad.l.getD 4 0#32)⟩, ⟨4, 5, 5, some (ad.l.getD 4 0#32)⟩, ⟨4, 9, 11, some (ad.l.getD 4 0#32)⟩, ⟨4, 7, 6, some (ad.l.getD 4 0#32)⟩, ⟨4, 12, 8, some (ad.l.getD 4 0#32)⟩, ⟨4, 2, 13, some (ad.l.getD 4 0#32)⟩, ⟨4, 10, 12, some (ad.l.getD 4 0#32)⟩, ⟨4, 14, 5, some (ad.l.getD 4 0#32)⟩, ⟨4, 1, 12, some (ad.l.getD 4 0#32)⟩, ⟨4, 3, 13, some (ad.l.getD 4 0#32)⟩, ⟨4, 8, 14, some (ad.l.getD 4 0#32)⟩, ⟨4, 11, 11, some (ad.l.getD 4 0#32)⟩, ⟨4, 6, 8, some (ad.l.getD 4 0#32)⟩, ⟨4, 15, 5, some (ad.l.getD 4 0#32)⟩, ⟨4, 13, 6, some (ad.l.getD 4 0#32)⟩]
def lineXB (ad : Vec 32) : List Stp5 := [⟨4, 5, 8, some (ad.l.getD 5 0#32)⟩, ⟨4, 14, 9, some (ad.l.getD 5 0#32)⟩, ⟨4, 7, 9, some (ad.l.getD 5 0#32)⟩, ⟨4, 0, 11, some (ad.l.getD 5 0#32)⟩, ⟨4, 9, 13, some (ad.l.getD 5 0#32)⟩, ⟨4, 2, 15, some (ad.l.getD 5 0#32)⟩, ⟨4, 11, 15, some (ad.l.getD 5 0#32)⟩, ⟨4, 4, 5, some (ad.l.getD 5 0#32)⟩, ⟨4, 13, 7, some (ad.l.getD 5 0#32)⟩, ⟨4, 6, 7, some (ad.l.getD 5 0#32)⟩, ⟨4, 15, 8, some (ad.l.getD 5 0#32)⟩, ⟨4, 8, 11, some (ad.l.getD 5 0#32)⟩, ⟨4, 1, 14, some (ad.l.getD 5 0#32)⟩, ⟨4, 10, 14, some (ad.l.getD 5 0#32)⟩, ⟨4, 3, 12, some (ad.l.getD 5 0#32)⟩, ⟨4, 12, 6, some (ad.l.getD 5 0#32)⟩, ⟨3, 6, 9, some (ad.l.getD 6 0#32)⟩, ⟨3, 11, 13, some (ad.l.getD 6 0#32)⟩, ⟨3, 3, 15, some (ad.l.getD 6 0#32)⟩, ⟨3, 7, 7, some (ad.l.getD 6 0#32)⟩, ⟨3, 0, 12, some (ad.l.getD 6 0#32)⟩, ⟨3, 13, 8, some (ad.l.getD 6 0#32)⟩, ⟨3, 5, 9, some (ad.l.getD 6 0#32)⟩, ⟨3, 10, 11, some (ad.l.getD 6 0#32)⟩, ⟨3, 14, 7, some (ad.l.getD 6 0#32)⟩, ⟨3, 15, 7, some (ad.l.getD 6 0#32)⟩, ⟨3, 8, 12, some (ad.l.getD 6 0#32)⟩, ⟨3, 12, 7, some (ad.l.getD 6 0#32)⟩, ⟨3, 4, 6, some (ad.l.getD 6 0#32)⟩, ⟨3, 9, 15, some (ad.l.getD 6 0#32)⟩, ⟨3, 1, 13, some (ad.l.getD 6 0#32)⟩, ⟨3, 2, 11, some (ad.l.getD 6 0#32)⟩, ⟨2, 15, 9, some (ad.l.getD 7 0#32)⟩, ⟨2, 5, 7, some (ad.l.getD 7 0#32)⟩, ⟨2, 1, 15, some (ad.l.getD 7 0#32)⟩, ⟨2, 3, 11, some (ad.l.getD 7 0#32)⟩, ⟨2, 7, 8, some (ad.l.getD 7 0#32)⟩, ⟨2, 14, 6, some (ad.l.getD 7 0#32)⟩, ⟨2, 6, 6, some (ad.l.getD 7 0#32)⟩, ⟨2, 9, 14, some (ad.l.getD 7 0#32)⟩] ++ [⟨2, 11, 12, some (ad.l.getD 7 0#32)⟩, ⟨2, 8, 13, some (ad.l.getD 7 0#32)⟩, ⟨2, 12, 5, some (ad.l.getD 7 0#32)⟩, ⟨2, 2, 14, some (ad.l.getD 7 0#32)⟩, ⟨2, 10, 13, some (ad.l.getD 7 0#32)⟩, ⟨2, 0, 13, some (ad.l.getD 7 0#32)⟩, ⟨2, 4, 7, some (ad.l.getD 7 0#32)⟩, ⟨2, 13, 5, some (ad.l.getD 7 0#32)⟩, ⟨1, 8, 15, some (ad.l.getD 8 0#32)⟩, ⟨1, 6, 5, some (ad.l.getD 8 0#32)⟩, ⟨1, 4, 8, some (ad.l.getD 8 0#32)⟩, ⟨1, 1, 11, some (ad.l.getD 8 0#32)⟩, ⟨1, 3, 14, some (ad.l.getD 8 0#32)⟩, ⟨1, 11, 14, some (ad.l.getD 8 0#32)⟩, ⟨1, 15, 6, some (ad.l.getD 8 0#32)⟩, ⟨1, 0, 14, some (ad.l.getD 8 0#32)⟩, ⟨1, 5, 6, some (ad.l.getD 8 0#32)⟩, ⟨1, 12, 9, some (ad.l.getD 8 0#32)⟩, ⟨1, 2, 12, some (ad.l.getD 8 0#32)⟩, ⟨1, 13, 9, some (ad.l.getD 8 0#32)⟩, ⟨1, 9, 12, some (ad.l.getD 8 0#32)⟩, ⟨1, 7, 5, some (ad.l.getD 8 0#32)⟩, ⟨1, 10, 15, some (ad.l.getD 8 0#32)⟩, ⟨1, 14, 8, some (ad.l.getD 8 0#32)⟩, ⟨0, 12, 8, some (ad.l.getD 9 0#32)⟩, ⟨0, 15, 5, some (ad.l.getD 9 0#32)⟩, ⟨0, 10, 12, some (ad.l.getD 9 0#32)⟩, ⟨0, 4, 9, some (ad.l.getD 9 0#32)⟩, ⟨0, 1, 12, some (ad.l.getD 9 0#32)⟩, ⟨0, 5, 5, some (ad.l.getD 9 0#32)⟩, ⟨0, 8, 14, some (ad.l.getD 9 0#32)⟩, ⟨0, 7, 6, some (ad.l.getD 9 0#32)⟩, ⟨0, 6, 8, some (ad.l.getD 9 0#32)⟩, ⟨0, 2, 13, some (ad.l.getD 9 0#32)⟩, ⟨0, 13, 6, some (ad.l.getD 9 0#32)⟩, ⟨0, 14, 5, some (ad.l.getD 9 0#32)⟩, ⟨0, 0, 15, some (ad.l.getD 9 0#32)⟩, ⟨0, 3, 13, some (ad.l.getD 9 0#32)⟩, ⟨0, 9, 11, some (ad.l.getD 9 0#32)⟩, ⟨0, 11, 11, some (ad.l.getD 9 0#32)⟩]
structure l25aD where
  h : W5
  z : W5
  v : W5
  m : Vec 32
  ad : Vec 32
  b : Vec 32
def l25a_st (d : l25aD) : Fr × List Blk :=
  match d with
  | ⟨h, z, v, m, ad, b⟩ => (⟨[(.atom .undef), (.atom .undef), (.atom .undef), (.ref (.ptr 0 (.c 0))), (.ref (.ptr 1 (.c 0))), (.ref (.ptr 2 (.c 0))), (.ref (.ptr 3 (.c 0))), (.ref (.ptr 4 (.c 0))), (.ref (.ptr 5 (.c 0))), (.num (.int .i64 (.c 0))), (.ref (.ptr 6 (.c 0))), (.num (.int .i64 (.c 0))), (.atom .undef), (.atom .undef), (.atom .undef), (.atom .undef), (.atom .undef), (.atom .undef), (.atom .undef), (.num (.int .i64 (.c 0))), (.atom .undef), (.atom .undef), (.atom .undef), (.atom .undef), (.atom .undef), (.atom .undef), (.atom .undef), (.atom .undef), (.atom .undef), (.atom .undef), (.atom .undef)], []⟩, [⟨(.gen [(.num (.w32 h.x0)), (.num (.w32 h.x1)), (.num (.w32 h.x2)), (.num (.w32 h.x3)), (.num (.w32 h.x4))]), .own⟩, ⟨(.gen (c32v m 16)), .own⟩, ⟨(.gen (mkC linesL)), .own⟩, ⟨(.gen [(.num (.w32 z.x0)), (.num (.w32 z.x1)), (.num (.w32 z.x2)), (.num (.w32 z.x3)), (.num (.w32 z.x4))]), .own⟩, ⟨(.gen (c32v ad 10)), .own⟩, ⟨(.gen (c32v b 10)), .own⟩, ⟨(.gen [(.num (.w32 v.x0)), (.num (.w32 v.x1)), (.num (.w32 v.x2)), (.num (.w32 v.x3)), (.num (.w32 v.x4))]), .own⟩])
def l25a_fin (d : l25aD) : Fr × List Blk :=
  match d with
  | ⟨h, z, v, m, ad, b⟩ => (Prod.mk ⟨[(.atom .undef), (.atom .undef), (.atom .undef), (.ref (.ptr 0 (.c 0))), (.ref (.ptr 1 (.c 0))), (.ref (.ptr 2 (.c 0))), (.ref (.ptr 3 (.c 0))), (.ref (.ptr 4 (.c 0))), (.ref (.ptr 5 (.c 0))), (.num (.int .i64 (.c 0))), (.ref (.ptr 6 (.c 0))), (.atom .undef), (.atom .undef), (.atom .undef), (.atom .undef), (.atom .undef), (.atom .undef), (.atom .undef), (.atom .undef), (.num (.int .i64 (.c 0))), (.atom .undef), (.atom .undef), (.atom .undef), (.atom .undef), (.atom .undef), (.atom .undef), (.atom .undef), (.atom .undef), (.atom .undef), (.atom .undef), (.atom .undef)], []⟩ [⟨(.gen [(.num (.w32 h.x0)), (.num (.w32 h.x1)), (.num (.w32 h.x2)), (.num (.w32 h.x3)), (.num (.w32 h.x4))]), .own⟩, ⟨(.gen (c32v m 16)), .own⟩, ⟨(.gen (mkC linesL)), .own⟩, ⟨(.gen [(.num (.w32 z.x0)), (.num (.w32 z.x1)), (.num (.w32 z.x2)), (.num (.w32 z.x3)), (.num (.w32 z.x4))]), .own⟩, ⟨(.gen (c32v ad 10)), .own⟩, ⟨(.gen (c32v b 10)), .own⟩, ⟨(.gen [(.num (.w32 ((line5 m (lineXA ad) v)).x0)), (.num (.w32 ((line5 m (lineXA ad) v)).x1)), (.num (.w32 ((line5 m (lineXA ad) v)).x2)), (.num (.w32 ((line5 m (lineXA ad) v)).x3)), (.num (.w32 ((line5 m (lineXA ad) v)).x4))]), .own⟩])
def l25a_rd (F : Fr) (K : List Blk) : Option l25aD :=
    match F with
    | ⟨[(.atom .undef), (.atom .undef), (.atom .undef), (.ref (.ptr 0 (.c 0))), (.ref (.ptr 1 (.c 0))), (.ref (.ptr 2 (.c 0))), (.ref (.ptr 3 (.c 0))), (.ref (.ptr 4 (.c 0))), (.ref (.ptr 5 (.c 0))), (.num (.int .i64 (.c 0))), (.ref (.ptr 6 (.c 0))), (.num (.int .i64 (.c 0))), (.atom .undef), (.atom .undef), (.atom .undef), (.atom .undef), (.atom .undef), (.atom .undef), (.atom .undef), (.num (.int .i64 (.c 0))), (.atom .undef), (.atom .undef), (.atom .undef), (.atom .undef), (.atom .undef), (.atom .undef), (.atom .undef), (.atom .undef), (.atom .undef), (.atom .undef), (.atom .undef)], []⟩ =>
      match K with
      | [⟨(.gen [(.num (.w32 h0)), (.num (.w32 h1)), (.num (.w32 h2)), (.num (.w32 h3)), (.num (.w32 h4))]), .own⟩, ⟨(.gen xs_m), .own⟩, ⟨(.gen cs_linesL), .own⟩, ⟨(.gen [(.num (.w32 z0)), (.num (.w32 z1)), (.num (.w32 z2)), (.num (.w32 z3)), (.num (.w32 z4))]), .own⟩, ⟨(.gen xs_ad), .own⟩, ⟨(.gen xs_b), .own⟩, ⟨(.gen [(.num (.w32 v0)), (.num (.w32 v1)), (.num (.w32 v2)), (.num (.w32 v3)), (.num (.w32 v4))]), .own⟩] => 
        (match eqC cs_linesL linesL with
        | true => 
        (match rd32 16 xs_m with
        | some m => 
        (match rd32 10 xs_ad with
        | some ad => 
        (match rd32 10 xs_b with
        | some b => some ⟨⟨h0, h1, h2, h3, h4⟩, ⟨z0, z1, z2, z3, z4⟩, ⟨v0, v1, v2, v3, v4⟩, m, ad, b⟩
        | none => none)
        | none => none)
        | none => none)
        | false => none)
      | _ => none
    | _ => none
def l25a : LoopP l25aD where
  pat := ⟨[(.atom .undef), (.atom .undef), (.atom .undef), (.ref (.ptr 0 (.c 0))), (.ref (.ptr 1 (.c 0))), (.ref (.ptr 2 (.c 0))), (.ref (.ptr 3 (.c 0))), (.ref (.ptr 4 (.c 0))), (.ref (.ptr 5 (.c 0))), (.num (.int .i64 (.c 0))), (.ref (.ptr 6 (.c 0))), (.num (.int .i64 (.c 0))), (.atom .undef), (.atom .undef), (.atom .undef), (.atom .undef), (.atom .undef), (.atom .undef), (.atom .undef), (.num (.int .i64 (.c 0))), (.atom .undef), (.atom .undef), (.atom .undef), (.atom .undef), (.atom .undef), (.atom .undef), (.atom .undef), (.atom .undef), (.atom .undef), (.atom .undef), (.atom .undef)], []⟩
  patH := [⟨(.gen [(.num (.w32 0#32)), (.num (.w32 0#32)), (.num (.w32 0#32)), (.num (.w32 0#32)), (.num (.w32 0#32))]), .own⟩, ⟨(.gen (List.replicate 16 (.num (.w32 0#32)))), .own⟩, ⟨(.gen (mkC linesL)), .own⟩, ⟨(.gen [(.num (.w32 0#32)), (.num (.w32 0#32)), (.num (.w32 0#32)), (.num (.w32 0#32)), (.num (.w32 0#32))]), .own⟩, ⟨(.gen (List.replicate 10 (.num (.w32 0#32)))), .own⟩, ⟨(.gen (List.replicate 10 (.num (.w32 0#32)))), .own⟩, ⟨(.gen [(.num (.w32 0#32)), (.num (.w32 0#32)), (.num (.w32 0#32)), (.num (.w32 0#32)), (.num (.w32 0#32))]), .own⟩]
  gh := []
  read := l25a_rd
  st := l25a_st
  next := id
  rem := fun _ => 0
  good := fun ⟨_, _, _, _, _, _⟩ => decide (True)
  out := .exit 2
  fin := l25a_fin
theorem l25a_end (h z v : W5) (m ad b : Vec 32) : ranAs ((l25a.st ⟨h, z, v, m, ad, b⟩).2.length - l25a.gh.length) none (l25a.fin ⟨h, z, v, m, ad, b⟩) (goW noSpec noLoop 25 1 (l25a.st ⟨h, z, v, m, ad, b⟩).1 ⟨(l25a.st ⟨h, z, v, m, ad, b⟩).2, big, [], []⟩) = some (l25a.out, (l25a.fin ⟨h, z, v, m, ad, b⟩), []) := by kernel_rfl
set_option maxRecDepth 100000 in
theorem l25a_read (F : Fr) (K : List Blk) (d : l25aD) (h : l25a.read F K = some d) : (F, K) = l25a.st d := by
  replace h : l25a_rd F K = some d := h
  unfold l25a_rd at h
  split at h
  case h_2 => cases h
  split at h
  case h_2 => cases h
  split at h
  case h_2 => cases h
  rename_i hc
  obtain rfl := eqC_eq hc
  split at h
  case h_2 => cases h
  rename_i hr0
  obtain ⟨rfl, _⟩ := rd32_eq hr0
  split at h
  case h_2 => cases h
  rename_i hr1
  obtain ⟨rfl, _⟩ := rd32_eq hr1
  split at h
  case h_2 => cases h
  rename_i hr2
  obtain ⟨rfl, _⟩ := rd32_eq hr2
  injection h with h; subst h
  rfl
theorem l25a_told : Told 25 1 l25a.T.told := by
  refine l25a.once (goW_ok no_specs (no_loops _) 25 1 fine25 (by rw [show (loopsIn Tryd.prog 25).length = 3 by kernel_rfl]; omega)) (by intro k hk; have hk : k ∈ ([] : List Blk) := hk; cases hk) l25a_read (fun _ => rfl) ?_
  rintro ⟨h, z, v, m, ad, b⟩ hg
  have hg : True := of_decide_eq_true hg
  refine ⟨[], none, _, l25a_end h z v m ad b, ?_⟩
  repeat' (refine all_true_cons ?_ ?_)
  all_goals first | exact all_true_nil | rfl | (simp only [Bool.and_eq_true, decide_eq_true_eq, beq_iff_eq, beq_true, beq_false, Bool.not_eq_true', decide_eq_false_iff_not, beq_eq_false_iff_ne, ne_eq, Bool.not_eq_false', bne_iff_ne, true_and, and_true] <;> omega)
def l25a_spec : LSpec := l25a.T.told
structure l25bD where
  h : W5
  z : W5
  v : W5
  m : Vec 32
  ad : Vec 32
  b : Vec 32
def l25b_st (d : l25bD) : Fr × List Blk :=
  match d with
  | ⟨h, z, v, m, ad, b⟩ => (⟨[(.atom .undef), (.atom .undef), (.atom .undef), (.ref (.ptr 0 (.c 0))), (.ref (.ptr 1 (.c 0))), (.ref (.ptr 2 (.c 0))), (.ref (.ptr 3 (.c 0))), (.ref (.ptr 4 (.c 0))), (.ref (.ptr 5 (.c 0))), (.num (.int .i64 (.c 1))), (.ref (.ptr 7 (.c 0))), (.num (.int .i64 (.c 0))), (.atom .undef), (.atom .undef), (.atom .undef), (.atom .undef), (.atom .undef), (.atom .undef), (.atom .undef), (.num (.int .i64 (.c 1))), (.atom .undef), (.atom .undef), (.atom .undef), (.atom .undef), (.atom .undef), (.atom .undef), (.atom .undef), (.atom .undef), (.atom .undef), (.atom .undef), (.atom .undef)], []⟩, [⟨(.gen [(.num (.w32 h.x0)), (.num (.w32 h.x1)), (.num (.w32 h.x2)), (.num (.w32 h.x3)), (.num (.w32 h.x4))]), .own⟩, ⟨(.gen (c32v m 16)), .own⟩, ⟨(.gen (mkC linesL)), .own⟩, ⟨(.gen [(.num (.w32 z.x0)), (.num (.w32 z.x1)), (.num (.w32 z.x2)), (.num (.w32 z.x3)), (.num (.w32 z.x4))]), .own⟩, ⟨(.gen (c32v ad 10)), .own⟩, ⟨(.gen (c32v b 10)), .own⟩, ⟨(.gen []), .dead⟩, ⟨(.gen [(.num (.w32 v.x0)), (.num (.w32 v.x1)), (.num (.w32 v.x2)), (.num (.w32 v.x3)), (.num (.w32 v.x4))]), .own⟩])
def l25b_fin (d : l25bD) : Fr × List Blk :=
  match d with
  | ⟨h, z, v, m, ad, b⟩ => (Prod.mk ⟨[(.atom .undef), (.atom .undef), (.atom .undef), (.ref (.ptr 0 (.c 0))), (.ref (.ptr 1 (.c 0))), (.ref (.ptr 2 (.c 0))), (.ref (.ptr 3 (.c 0))), (.ref (.ptr 4 (.c 0))), (.ref (.ptr 5 (.c 0))), (.num (.int .i64 (.c 1))), (.ref (.ptr 7 (.c 0))), (.atom .undef), (.atom .undef), (.atom .undef), (.atom .undef), (.atom .undef), (.atom .undef), (.atom .undef), (.atom .undef), (.num (.int .i64 (.c 1))), (.atom .undef), (.atom .undef), (.atom .undef), (.atom .undef), (.atom .undef), (.atom .undef), (.atom .undef), (.atom .undef), (.atom .undef), (.atom .undef), (.atom .undef)], []⟩ [⟨(.gen [(.num (.w32 h.x0)), (.num (.w32 h.x1)), (.num (.w32 h.x2)), (.num (.w32 h.x3)), (.num (.w32 h.x4))]), .own⟩, ⟨(.gen (c32v m 16)), .own⟩, ⟨(.gen (mkC linesL)), .own⟩, ⟨(.gen [(.num (.w32 z.x0)), (.num (.w32 z.x1)), (.num (.w32 z.x2)), (.num (.w32 z.x3)), (.num (.w32 z.x4))]), .own⟩, ⟨(.gen (c32v ad 10)), .own⟩, ⟨(.gen (c32v b 10)), .own⟩, ⟨(.gen []), .dead⟩, ⟨(.gen [(.num (.w32 ((line5 m (lineXB ad) v)).x0)), (.num (.w32 ((line5 m (lineXB ad) v)).x1)), (.num (.w32 ((line5 m (lineXB ad) v)).x2)), (.num (.w32 ((line5 m (lineXB ad) v)).x3)), (.num (.w32 ((line5 m (lineXB ad) v)).x4))]), .own⟩])
def l25b_rd (F : Fr) (K : List Blk) : Option l25bD :=
    match F with
    | ⟨[(.atom .undef), (.atom .undef), (.atom .undef), (.ref (.ptr 0 (.c 0))), (.ref (.ptr 1 (.c 0))), (.ref (.ptr 2 (.c 0))), (.ref (.ptr 3 (.c 0))), (.ref (.ptr 4 (.c 0))), (.ref (.ptr 5 (.c 0))), (.num (.int .i64 (.c 1))), (.ref (.ptr 7 (.c 0))), (.num (.int .i64 (.c 0))), (.atom .undef), (.atom .undef), (.atom .undef), (.atom .undef), (.atom .undef), (.atom .undef), (.atom .undef), (.num (.int .i64 (.c 1))), (.atom .undef), (.atom .undef), (.atom .undef), (.atom .undef), (.atom .undef), (.atom .undef), (.atom .undef), (.atom .undef), (.atom .undef), (.atom .undef), (.atom .undef)], []⟩ =>
      match K with
      | [⟨(.gen [(.num (.w32 h0)), (.num (.w32 h1)), (.num (.w32 h2)), (.num (.w32 h3)), (.num (.w32 h4))]), .own⟩, ⟨(.gen xs_m), .own⟩, ⟨(.gen cs_linesL), .own⟩, ⟨(.gen [(.num (.w32 z0)), (.num (.w32 z1)), (.num (.w32 z2)), (.num (.w32 z3)), (.num (.w32 z4))]), .own⟩, ⟨(.gen xs_ad), .own⟩, ⟨(.gen xs_b), .own⟩, ⟨(.gen []), .dead⟩, ⟨(.gen [(.num (.w32 v0)), (.num (.w32 v1)), (.num (.w32 v2)), (.num (.w32 v3)), (.num (.w32 v4))]), .own⟩] => 
        (match eqC cs_linesL linesL with
        | true => 
        (match rd32 16 xs_m with
        | some m => 
        (match rd32 10 xs_ad with
        | some ad => 
        (match rd32 10 xs_b with
        | some b => some ⟨⟨h0, h1, h2, h3, h4⟩, ⟨z0, z1, z2, z3, z4⟩, ⟨v0, v1, v2, v3, v4⟩, m, ad, b⟩
        | none => none)
        | none => none)
        | none => none)
        | false => none)
      | _ => none
    | _ => none
def l25b : LoopP l25bD where
  pat := ⟨[(.atom .undef), (.atom .undef), (.atom .undef), (.ref (.ptr 0 (.c 0))), (.ref (.ptr 1 (.c 0))), (.ref (.ptr 2 (.c 0))), (.ref (.ptr 3 (.c 0))), (.ref (.ptr 4 (.c 0))), (.ref (.ptr 5 (.c 0))), (.num (.int .i64 (.c 1))), (.ref (.ptr 7 (.c 0))), (.num (.int .i64 (.c 0))), (.atom .undef), (.atom .undef), (.atom .undef), (.atom .undef), (.atom .undef), (.atom .undef), (.atom .undef), (.num (.int .i64 (.c 1))), (.atom .undef), (.atom .undef), (.atom .undef), (.atom .undef), (.atom .undef), (.atom .undef), (.atom .undef), (.atom .undef), (.atom .undef), (.atom .undef), (.atom .undef)], []⟩
  patH := [⟨(.gen [(.num (.w32 0#32)), (.num (.w32 0#32)), (.num (.w32 0#32)), (.num (.w32 0#32)), (.num (.w32 0#32))]), .own⟩, ⟨(.gen (List.replicate 16 (.num (.w32 0#32)))), .own⟩, ⟨(.gen (mkC linesL)), .own⟩, ⟨(.gen [(.num (.w32 0#32)), (.num (.w32 0#32)), (.num (.w32 0#32)), (.num (.w32 0#32)), (.num (.w32 0#32))]), .own⟩, ⟨(.gen (List.replicate 10 (.num (.w32 0#32)))), .own⟩, ⟨(.gen (List.replicate 10 (.num (.w32 0#32)))), .own⟩, ⟨(.gen []), .dead⟩, ⟨(.gen [(.num (.w32 0#32)), (.num (.w32 0#32)), (.num (.w32 0#32)), (.num (.w32 0#32)), (.num (.w32 0#32))]), .own⟩]
  gh := []
  read := l25b_rd
  st := l25b_st
  next := id
  rem := fun _ => 0
  good := fun ⟨_, _, _, _, _, _⟩ => decide (True)
  out := .exit 2
  fin := l25b_fin
theorem l25b_end (h z v : W5) (m ad b : Vec 32) : ranAs ((l25b.st ⟨h, z, v, m, ad, b⟩).2.length - l25b.gh.length) none (l25b.fin ⟨h, z, v, m, ad, b⟩) (goW noSpec noLoop 25 1 (l25b.st ⟨h, z, v, m, ad, b⟩).1 ⟨(l25b.st ⟨h, z, v, m, ad, b⟩).2, big, [], []⟩) = some (l25b.out, (l25b.fin ⟨h, z, v, m, ad, b⟩), []) := by kernel_rfl
set_option maxRecDepth 100000 in
theorem l25b_read (F : Fr) (K : List Blk) (d : l25bD) (h : l25b.read F K = some d) : (F, K) = l25b.st d := by
  replace h : l25b_rd F K = some d := h
  unfold l25b_rd at h
  split at h
  case h_2 => cases h
  split at h
  case h_2 => cases h
  split at h
  case h_2 => cases h
  rename_i hc
  obtain rfl := eqC_eq hc
  split at h
  case h_2 => cases h
  rename_i hr0
  obtain ⟨rfl, _⟩ := rd32_eq hr0
  split at h
  case h_2 => cases h
  rename_i hr1
  obtain ⟨rfl, _⟩ := rd32_eq hr1
  split at h
  case h_2 => cases h
  rename_i hr2
  obtain ⟨rfl, _⟩ := rd32_eq hr2
  injection h with h; subst h
  rfl
theorem l25b_told : Told 25 1 l25b.T.told := by
  refine l25b.once (goW_ok no_specs (no_loops _) 25 1 fine25 (by rw [show (loopsIn Tryd.prog 25).length = 3 by kernel_rfl]; omega)) (by intro k hk; have hk : k ∈ ([] : List Blk) := hk; cases hk) l25b_read (fun _ => rfl) ?_
  rintro ⟨h, z, v, m, ad, b⟩ hg
  have hg : True := of_decide_eq_true hg
  refine ⟨[], none, _, l25b_end h z v m ad b, ?_⟩
  repeat' (refine all_true_cons ?_ ?_)
  all_goals first | exact all_true_nil | rfl | (simp only [Bool.and_eq_true, decide_eq_true_eq, beq_iff_eq, beq_true, beq_false, Bool.not_eq_true', decide_eq_false_iff_not, beq_eq_false_iff_ne, ne_eq, Bool.not_eq_false', bne_iff_ne, true_and, and_true] <;> omega)
def l25b_spec : LSpec := l25b.T.told
theorem run_either {P : Program} {G : Nat → Option (List AV)} {nv nt : Nat} {c : Code} {f g : Fr → St → Option (Out × Fr × St)} (hf : RunOk P G nv nt c f) (hg : RunOk P G nv nt c g) : RunOk P G nv nt c (either f g) := by
  intro F S o F' S' h
  unfold Eng.either at h
  split at h
  · rename_i r hr
    injection h with h; subst h
    exact hf _ _ _ _ _ hr
  · exact hg _ _ _ _ _ h
def l25_spec : LSpec := either l25a_spec l25b_spec
theorem l25_told : Told 25 1 l25_spec := run_either l25a_told l25b_told
def l25s : FuncId → Nat → Option LSpec
  | 25, 8 => some l25_spec
  | _, _ => none
theorem l25s_len : (loopsIn Tryd.prog 25).length = 3 := by kernel_rfl
theorem l25s_ok (spec : FuncId → Option Eng.Spec) : LoopsOk (cfg spec l25s) noGlob := by
  refine LoopsOk.of fun f => ?_
  by_cases hf : f = 25
  · subst hf
    refine .inr ⟨by kernel_rfl, fun i hi sp hsp => ?_⟩
    have hi : i < (loopsIn Tryd.prog 25).length := hi
    rw [l25s_len] at hi
    match i, hi with
    | 0, _ =>
      have e : (firstRid (loopIn Tryd.prog 25 0)).bind (l25s 25) = none := by kernel_rfl
      have hsp : (firstRid (loopIn Tryd.prog 25 0)).bind (l25s 25) = some sp := hsp
      rw [e] at hsp; cases hsp
    | 1, _ =>
      have e : (firstRid (loopIn Tryd.prog 25 1)).bind (l25s 25) = some l25_spec := by kernel_rfl
      obtain rfl := Option.some.inj (e.symm.trans hsp)
      exact l25_told
    | 2, _ =>
      have e : (firstRid (loopIn Tryd.prog 25 2)).bind (l25s 25) = none := by kernel_rfl
      have hsp : (firstRid (loopIn Tryd.prog 25 2)).bind (l25s 25) = some sp := hsp
      rw [e] at hsp; cases hsp
  · refine .inl fun r => ?_
    show l25s f r = none
    unfold l25s
    split
    · exact absurd rfl hf
    · rfl
structure c25D where
  h : W5
  m : Vec 32
def c25_rd (a : List AV) (K : List Blk) : Option c25D :=
    match a with
    | [(.agg [(.num (.w32 h0)), (.num (.w32 h1)), (.num (.w32 h2)), (.num (.w32 h3)), (.num (.w32 h4))]), (.agg xs_m), (.agg cs_linesL)] =>
      match K with
      | [] => 
        (match eqC cs_linesL linesL with
        | true => 
        (match rd32 16 xs_m with
        | some m => some ⟨⟨h0, h1, h2, h3, h4⟩, m⟩
        | none => none)
        | false => none)
      | _ => none
    | _ => none
def c25 : Ct c25D where
  pat := [(.agg [(.num (.w32 0#32)), (.num (.w32 0#32)), (.num (.w32 0#32)), (.num (.w32 0#32)), (.num (.w32 0#32))]), (.agg (List.replicate 16 (.num (.w32 0#32)))), (.agg (mkC linesL))]
  patH := []
  read := c25_rd
  args := fun ⟨h, m⟩ => [(.agg [(.num (.w32 h.x0)), (.num (.w32 h.x1)), (.num (.w32 h.x2)), (.num (.w32 h.x3)), (.num (.w32 h.x4))]), (.agg (c32v m 16)), (.agg (mkC linesL))]
  heap := fun ⟨_, _⟩ => []
  out := fun ⟨_, _⟩ => []
  val := fun ⟨h, m⟩ => (.agg [(.num (.w32 ((ripR h m)).x0)), (.num (.w32 ((ripR h m)).x1)), (.num (.w32 ((ripR h m)).x2)), (.num (.w32 ((ripR h m)).x3)), (.num (.w32 ((ripR h m)).x4))])
  good := fun ⟨_, _⟩ => decide (True)
theorem c25_run (h : W5) (m : Vec 32) : endsAs (c25.heap ⟨h, m⟩).length (some []) (c25.out ⟨h, m⟩) (c25.val ⟨h, m⟩) (goB noSpec l25s 25 (c25.args ⟨h, m⟩) ⟨c25.heap ⟨h, m⟩, big, [], []⟩) = some ((c25.out ⟨h, m⟩), (c25.val ⟨h, m⟩), [decide (True), decide (True)]) := by kernel_rfl
set_option maxRecDepth 100000 in
theorem c25_read (a : List AV) (K : List Blk) (d : c25D) (h : c25.read a K = some d) : a = c25.args d ∧ K = c25.heap d := by
  replace h : c25_rd a K = some d := h
  unfold c25_rd at h
  split at h
  case h_2 => cases h
  split at h
  case h_2 => cases h
  split at h
  case h_2 => cases h
  rename_i hc
  obtain rfl := eqC_eq hc
  split at h
  case h_2 => cases h
  rename_i hr0
  obtain ⟨rfl, _⟩ := rd32_eq hr0
  injection h with h; subst h
  exact ⟨rfl, rfl⟩
theorem c25_ok : SpecOk Tryd.prog noGlob 25 c25.spec := by
  refine c25.ok (goB_ok no_specs (l25s_ok _)) c25_read ?_
  rintro ⟨h, m⟩ hg
  have hg : True := of_decide_eq_true hg
  refine ⟨[], (some []), _, c25_run h m, ?_⟩
  repeat' (refine all_true_cons ?_ ?_)
  all_goals first | exact all_true_nil | rfl | (simp only [Bool.and_eq_true, decide_eq_true_eq, beq_iff_eq, beq_true, beq_false, Bool.not_eq_true', decide_eq_false_iff_not, beq_eq_false_iff_ne, ne_eq, Bool.not_eq_false', bne_iff_ne, true_and, and_true] <;> omega)
structure c12D where
  unit : Unit := ()
def c12_rd (a : List AV) (K : List Blk) : Option c12D :=
    match a with
    | [] =>
      match K with
      | [] => some ⟨()⟩
      | _ => none
    | _ => none
def c12 : Ct c12D where
  pat := []
  patH := []
  read := c12_rd
  args := fun ⟨_⟩ => []
  heap := fun ⟨_⟩ => []
  out := fun ⟨_⟩ => []
  val := fun ⟨_⟩ => (.agg (mkC linesL))
  good := fun ⟨_⟩ => decide (True)
theorem c12_run  : endsAs (c12.heap ⟨()⟩).length (some []) (c12.out ⟨()⟩) (c12.val ⟨()⟩) (goB noSpec noLoop 12 (c12.args ⟨()⟩) ⟨c12.heap ⟨()⟩, big, [], []⟩) = some ((c12.out ⟨()⟩), (c12.val ⟨()⟩), []) := by kernel_rfl
set_option maxRecDepth 100000 in
theorem c12_read (a : List AV) (K : List Blk) (d : c12D) (h : c12.read a K = some d) : a = c12.args d ∧ K = c12.heap d := by
  replace h : c12_rd a K = some d := h
  unfold c12_rd at h
  split at h
  case h_2 => cases h
  split at h
  case h_2 => cases h
  injection h with h; subst h
  exact ⟨rfl, rfl⟩
theorem c12_ok : SpecOk Tryd.prog noGlob 12 c12.spec := by
  refine c12.ok (goB_ok no_specs (no_loops _)) c12_read ?_
  rintro ⟨_⟩ hg
  have hg : True := of_decide_eq_true hg
  refine ⟨[], (some []), _, c12_run , ?_⟩
  repeat' (refine all_true_cons ?_ ?_)
  all_goals first | exact all_true_nil | rfl | (simp only [Bool.and_eq_true, decide_eq_true_eq, beq_iff_eq, beq_true, beq_false, Bool.not_eq_true', decide_eq_false_iff_not, beq_eq_false_iff_ne, ne_eq, Bool.not_eq_false', bne_iff_ne, true_and, and_true] <;> omega)
def specs17 : FuncId → Option Eng.Spec
  | 30 => some c30.spec
  | 25 => some c25.spec
  | _ => none
theorem specs17_ok : ∀ f sp, specs17 f = some sp → SpecOk Tryd.prog noGlob f sp := by
  intro f sp h
  unfold specs17 at h
  split at h
  · injection h with h; subst h; exact c30_ok
  · injection h with h; subst h; exact c25_ok
  · cases h
structure r17D where
  h : W5
  z : W5
  v : Vec 8
  o : Nat
  nb : Nat
  n : Int
def r17_st (d : r17D) : Fr × List Blk :=
  match d with
  | ⟨h, z, v, o, nb, n⟩ => (⟨[(.atom .undef), (.ref (.sl 0 (.s o) (.s nb) none)), (.atom .undef), (.ref (.ptr 1 (.c 0))), (.atom .undef), (.ref (.ptr 2 (.c 0))), (.ref (.ptr 3 (.c 0))), (.atom .undef), (.num (.int .i64 (.s n)))], []⟩, [⟨(.b8 v), .ro⟩, ⟨(.gen [(.num (.w32 h.x0)), (.num (.w32 h.x1)), (.num (.w32 h.x2)), (.num (.w32 h.x3)), (.num (.w32 h.x4))]), .own⟩, ⟨(.gen (mkC linesL)), .own⟩, ⟨(.gen [(.num (.w32 z.x0)), (.num (.w32 z.x1)), (.num (.w32 z.x2)), (.num (.w32 z.x3)), (.num (.w32 z.x4))]), .own⟩])
def r17_next (d : r17D) : r17D :=
  match d with
  | ⟨h, z, v, o, nb, n⟩ => ⟨ripR h (wrd v (o + n.toNat)), z, v, o, nb, n + 64⟩
def r17_rd (F : Fr) (K : List Blk) : Option r17D :=
    match F with
    | ⟨[(.atom .undef), (.ref (.sl 0 (.s o) (.s nb) none)), (.atom .undef), (.ref (.ptr 1 (.c 0))), (.atom .undef), (.ref (.ptr 2 (.c 0))), (.ref (.ptr 3 (.c 0))), (.atom .undef), (.num (.int .i64 (.s n)))], []⟩ =>
      match K with
      | [⟨(.b8 v), .ro⟩, ⟨(.gen [(.num (.w32 h0)), (.num (.w32 h1)), (.num (.w32 h2)), (.num (.w32 h3)), (.num (.w32 h4))]), .own⟩, ⟨(.gen cs_linesL), .own⟩, ⟨(.gen [(.num (.w32 z0)), (.num (.w32 z1)), (.num (.w32 z2)), (.num (.w32 z3)), (.num (.w32 z4))]), .own⟩] => 
        (match eqC cs_linesL linesL with
        | true => some ⟨⟨h0, h1, h2, h3, h4⟩, ⟨z0, z1, z2, z3, z4⟩, v, o, nb, n⟩
        | false => none)
      | _ => none
    | _ => none
def r17 : LoopP r17D where
  pat := ⟨[(.atom .undef), (.ref (.sl 0 (.s 0) (.s 0) none)), (.atom .undef), (.ref (.ptr 1 (.c 0))), (.atom .undef), (.ref (.ptr 2 (.c 0))), (.ref (.ptr 3 (.c 0))), (.atom .undef), (.num (.int .i64 (.s 0)))], []⟩
  patH := [⟨(.b8 (Vec.zero 8 0)), .ro⟩, ⟨(.gen [(.num (.w32 0#32)), (.num (.w32 0#32)), (.num (.w32 0#32)), (.num (.w32 0#32)), (.num (.w32 0#32))]), .own⟩, ⟨(.gen (mkC linesL)), .own⟩, ⟨(.gen [(.num (.w32 0#32)), (.num (.w32 0#32)), (.num (.w32 0#32)), (.num (.w32 0#32)), (.num (.w32 0#32))]), .own⟩]
  gh := []
  read := r17_rd
  st := r17_st
  next := r17_next
  rem := fun ⟨_, _, _, _, nb, n⟩ => (nb - n).toNat / 64
  good := fun ⟨_, _, v, o, nb, n⟩ => decide (0 ≤ n ∧ n ≤ nb ∧ o + nb ≤ v.n ∧ nb ≤ 1099511627776)
  out := .exit 0
  fin := r17_st
theorem r17_round (h z : W5) (v : Vec 8) (o nb : Nat) (n : Int) : ranAs ((r17.st ⟨h, z, v, o, nb, n⟩).2.length - r17.gh.length) (some [0, 1, 2, 3]) (r17.st (r17_next ⟨h, z, v, o, nb, n⟩)) (goL specs17 noLoop 17 0 (r17.st ⟨h, z, v, o, nb, n⟩).1 ⟨(r17.st ⟨h, z, v, o, nb, n⟩).2, big, [true], []⟩) = some (.normal, (r17.st (r17_next ⟨h, z, v, o, nb, n⟩)), [decide (((-9223372036854775808) ≤ (n + 64) ∧ (n + 64) ≤ 9223372036854775807)), decide (True), decide ((((o + ((n) : Int).toNat) + 64) ≤ v.n ∧ (64 : Nat) ≤ (((((nb : Nat) : Int)) : Int).toNat - ((n) : Int).toNat))), ((decide ((0 : Int) ≤ n) && decide (n ≤ ((nb : Nat) : Int))) && decide (((nb : Nat) : Int) ≤ ((nb : Nat) : Int))), (decide ((64 : Int) ≤ (((nb : Nat) : Int) - n)) == true), decide (((-9223372036854775808) ≤ (((nb : Nat) : Int) - n) ∧ (((nb : Nat) : Int) - n) ≤ 9223372036854775807))]) := by kernel_rfl
theorem r17_end (h z : W5) (v : Vec 8) (o nb : Nat) (n : Int) : ranAs ((r17.st ⟨h, z, v, o, nb, n⟩).2.length - r17.gh.length) none (r17.fin ⟨h, z, v, o, nb, n⟩) (goL specs17 noLoop 17 0 (r17.st ⟨h, z, v, o, nb, n⟩).1 ⟨(r17.st ⟨h, z, v, o, nb, n⟩).2, big, [false], []⟩) = some (r17.out, (r17.fin ⟨h, z, v, o, nb, n⟩), [(decide ((64 : Int) ≤ (((nb : Nat) : Int) - n)) == false), decide (((-9223372036854775808) ≤ (((nb : Nat) : Int) - n) ∧ (((nb : Nat) : Int) - n) ≤ 9223372036854775807))]) := by kernel_rfl
set_option maxRecDepth 100000 in
theorem r17_read (F : Fr) (K : List Blk) (d : r17D) (h : r17.read F K = some d) : (F, K) = r17.st d := by
  replace h : r17_rd F K = some d := h
  unfold r17_rd at h
  split at h
  case h_2 => cases h
  split at h
  case h_2 => cases h
  split at h
  case h_2 => cases h
  rename_i hc
  obtain rfl := eqC_eq hc
  injection h with h; subst h
  rfl
theorem r17_body : RunOk Tryd.prog noGlob (nv 17) (ntmpsIn Tryd.prog 17) (loopIn Tryd.prog 17 0) (goL specs17 noLoop 17 0) := goL_ok specs17_ok (no_loops _) 17 0 fine17 (by rw [show (loopsIn Tryd.prog 17).length = 1 by kernel_rfl]; omega)
theorem r17_toldL : LoopOk Tryd.prog noGlob (nv 17) (ntmpsIn Tryd.prog 17) (loopIn Tryd.prog 17 0) r17.T.told := by
  refine r17.ran r17_body (by intro k hk; have hk : k ∈ ([] : List Blk) := hk; cases hk) (by intro h; cases h) r17_read ?_ ?_
  · rintro ⟨h, z, v, o, nb, n⟩ kk hg hr
    have hg : 0 ≤ n ∧ n ≤ nb ∧ o + nb ≤ v.n ∧ nb ≤ 1099511627776 := of_decide_eq_true hg
    have hr : (nb - n).toNat / 64 = kk + 1 := hr
    have en : r17.next ⟨h, z, v, o, nb, n⟩ = r17_next ⟨h, z, v, o, nb, n⟩ := rfl
    rw [en]
    refine ⟨⟨[true], (some [0, 1, 2, 3]), _, r17_round h z v o nb n, ?_⟩, ?_, ?_, (show (r17.st (r17_next ⟨h, z, v, o, nb, n⟩)).2.length = 4 by kernel_rfl).trans (show (r17.st ⟨h, z, v, o, nb, n⟩).2.length = 4 by kernel_rfl).symm⟩
    · repeat' (refine all_true_cons ?_ ?_)
      all_goals first | exact all_true_nil | rfl | (simp only [Bool.and_eq_true, decide_eq_true_eq, beq_iff_eq, beq_true, beq_false, Bool.not_eq_true', decide_eq_false_iff_not, beq_eq_false_iff_ne, ne_eq, Bool.not_eq_false', bne_iff_ne, true_and, and_true] <;> omega)
    · have e : r17.good (r17_next ⟨h, z, v, o, nb, n⟩) = decide (0 ≤ (n + 64 : Int) ∧ (n + 64 : Int) ≤ nb ∧ o + nb ≤ v.n ∧ nb ≤ 1099511627776) := by kernel_rfl
      refine e.trans (decide_eq_true ?_)
      omega
    · have e : r17.rem (r17_next ⟨h, z, v, o, nb, n⟩) = ((nb - (n + 64 : Int)).toNat / 64) := by kernel_rfl
      refine e.trans ?_
      omega
  · rintro ⟨h, z, v, o, nb, n⟩ hg hr
    have hg : 0 ≤ n ∧ n ≤ nb ∧ o + nb ≤ v.n ∧ nb ≤ 1099511627776 := of_decide_eq_true hg
    have hr : (nb - n).toNat / 64 = 0 := hr
    refine ⟨[false], none, _, r17_end h z v o nb n, ?_⟩
    repeat' (refine all_true_cons ?_ ?_)
    all_goals first | exact all_true_nil | rfl | (simp only [Bool.and_eq_true, decide_eq_true_eq, beq_iff_eq, beq_true, beq_false, Bool.not_eq_true', decide_eq_false_iff_not, beq_eq_false_iff_ne, ne_eq, Bool.not_eq_false', bne_iff_ne, true_and, and_true] <;> omega)
def r17_spec : LSpec := r17.T.told
theorem r17_told : Told 17 0 r17_spec := r17_toldL.run
def r17s : FuncId → Nat → Option LSpec
  | 17, 2 => some r17_spec
  | _, _ => none
theorem r17s_len : (loopsIn Tryd.prog 17).length = 1 := by kernel_rfl
theorem r17s_ok (spec : FuncId → Option Eng.Spec) : LoopsOk (cfg spec r17s) noGlob := by
  refine LoopsOk.of fun f => ?_
  by_cases hf : f = 17
  · subst hf
    refine .inr ⟨by kernel_rfl, fun i hi sp hsp => ?_⟩
    have hi : i < (loopsIn Tryd.prog 17).length := hi
    rw [r17s_len] at hi
    match i, hi with
    | 0, _ =>
      have e : (firstRid (loopIn Tryd.prog 17 0)).bind (r17s 17) = some r17_spec := by kernel_rfl
      obtain rfl := Option.some.inj (e.symm.trans hsp)
      exact r17_told
  · refine .inl fun r => ?_
    show r17s f r = none
    unfold r17s
    split
    · exact absurd rfl hf
    · rfl
def ripAllR (h : W5) (v : Vec 8) (o : Nat) : Nat → W5
  | 0 => h
  | k + 1 => ripR (ripAllR h v o k) (wrd v (o + 64 * k))
def z5 : W5 := ⟨0#32, 0#32, 0#32, 0#32, 0#32⟩
def e17 (h : W5) (v : Vec 8) (o nb : Nat) : r17D := iter r17_next ((nb - 0 : Int).toNat / 64) ⟨h, z5, v, o, nb, 0⟩
theorem r17_it (h z : W5) (v : Vec 8) (o nb : Nat) : ∀ k : Nat, iter r17_next k ⟨h, z, v, o, nb, 0⟩ = ⟨ripAllR h v o k, z, v, o, nb, (64 * k : Nat)⟩
  | 0 => rfl
  | k + 1 => by
    rw [iter_succ, r17_it h z v o nb k]
    show (⟨ripR (ripAllR h v o k) (wrd v (o + ((64 * k : Nat) : Int).toNat)), z, v, o, nb, ((64 * k : Nat) : Int) + 64⟩ : r17D) = _
    rw [show ((64 * k : Nat) : Int).toNat = 64 * k by omega, show ((64 * k : Nat) : Int) + 64 = ((64 * (k + 1) : Nat) : Int) by omega]
    rfl
theorem e17_eq (h : W5) (v : Vec 8) (o nb : Nat) : (e17 h v o nb).h = ripAllR h v o (nb / 64) ∧ (e17 h v o nb).n = (64 * (nb / 64) : Nat) := by
  unfold e17
  rw [r17_it, show ((nb : Int) - 0).toNat / 64 = nb / 64 by omega]
  exact ⟨rfl, rfl⟩
structure c17D where
  h : W5
  v : Vec 8
  o : Nat
  nb : Nat
def c17_rd (a : List AV) (K : List Blk) : Option c17D :=
    match a with
    | [(.agg [(.num (.w32 h0)), (.num (.w32 h1)), (.num (.w32 h2)), (.num (.w32 h3)), (.num (.w32 h4))]), (.ref (.sl 0 (.s o) (.s nb) none)), (.agg cs_linesL)] =>
      match K with
      | [⟨(.b8 v), .ro⟩] => 
        (match eqC cs_linesL linesL with
        | true => some ⟨⟨h0, h1, h2, h3, h4⟩, v, o, nb⟩
        | false => none)
      | _ => none
    | _ => none
def c17 : Ct c17D where
  pat := [(.agg [(.num (.w32 0#32)), (.num (.w32 0#32)), (.num (.w32 0#32)), (.num (.w32 0#32)), (.num (.w32 0#32))]), (.ref (.sl 0 (.s 0) (.s 0) none)), (.agg (mkC linesL))]
  patH := [⟨(.b8 (Vec.zero 8 0)), .ro⟩]
  read := c17_rd
  args := fun ⟨h, _, o, nb⟩ => [(.agg [(.num (.w32 h.x0)), (.num (.w32 h.x1)), (.num (.w32 h.x2)), (.num (.w32 h.x3)), (.num (.w32 h.x4))]), (.ref (.sl 0 (.s o) (.s nb) none)), (.agg (mkC linesL))]
  heap := fun ⟨_, v, _, _⟩ => [⟨(.b8 v), .ro⟩]
  out := fun ⟨_, v, _, _⟩ => [⟨(.b8 v), .ro⟩]
  val := fun ⟨h, v, o, nb⟩ => (.obj .tup [(.agg [(.num (.w32 ((ripAllR h v o (nb / 64))).x0)), (.num (.w32 ((ripAllR h v o (nb / 64))).x1)), (.num (.w32 ((ripAllR h v o (nb / 64))).x2)), (.num (.w32 ((ripAllR h v o (nb / 64))).x3)), (.num (.w32 ((ripAllR h v o (nb / 64))).x4))]), (.num (.int .i64 (.s (64 * (nb / 64) : Nat))))])
  good := fun ⟨_, v, o, nb⟩ => decide (o + nb ≤ v.n ∧ nb ≤ 1099511627776)
theorem c17_run (h : W5) (v : Vec 8) (o nb : Nat) : endsAs (c17.heap ⟨h, v, o, nb⟩).length (some [0]) (c17.out ⟨h, v, o, nb⟩) (.obj .tup [(.agg [(.num (.w32 ((e17 h v o nb)).h.x0)), (.num (.w32 ((e17 h v o nb)).h.x1)), (.num (.w32 ((e17 h v o nb)).h.x2)), (.num (.w32 ((e17 h v o nb)).h.x3)), (.num (.w32 ((e17 h v o nb)).h.x4))]), (.num (.int .i64 (.s ((e17 h v o nb)).n)))]) (goB specs17 r17s 17 (c17.args ⟨h, v, o, nb⟩) ⟨c17.heap ⟨h, v, o, nb⟩, big, [], []⟩) = some ((c17.out ⟨h, v, o, nb⟩), (.obj .tup [(.agg [(.num (.w32 ((e17 h v o nb)).h.x0)), (.num (.w32 ((e17 h v o nb)).h.x1)), (.num (.w32 ((e17 h v o nb)).h.x2)), (.num (.w32 ((e17 h v o nb)).h.x3)), (.num (.w32 ((e17 h v o nb)).h.x4))]), (.num (.int .i64 (.s ((e17 h v o nb)).n)))]), [r17.good ⟨h, z5, v, o, nb, 0⟩]) := by kernel_rfl
set_option maxRecDepth 100000 in
theorem c17_read (a : List AV) (K : List Blk) (d : c17D) (h : c17.read a K = some d) : a = c17.args d ∧ K = c17.heap d := by
  replace h : c17_rd a K = some d := h
  unfold c17_rd at h
  split at h
  case h_2 => cases h
  split at h
  case h_2 => cases h
  split at h
  case h_2 => cases h
  rename_i hc
  obtain rfl := eqC_eq hc
  injection h with h; subst h
  exact ⟨rfl, rfl⟩
theorem c17_ok : SpecOk Tryd.prog noGlob 17 c17.spec := by
  refine c17.ok (goB_ok specs17_ok (r17s_ok _)) c17_read ?_
  rintro ⟨h, v, o, nb⟩ hg
  have hg : o + nb ≤ v.n ∧ nb ≤ 1099511627776 := of_decide_eq_true hg
  have eo : c17.out ⟨h, v, o, nb⟩ = [⟨(.b8 v), .ro⟩] := by
    rfl
  have ev : c17.val ⟨h, v, o, nb⟩ = (.obj .tup [(.agg [(.num (.w32 ((e17 h v o nb)).h.x0)), (.num (.w32 ((e17 h v o nb)).h.x1)), (.num (.w32 ((e17 h v o nb)).h.x2)), (.num (.w32 ((e17 h v o nb)).h.x3)), (.num (.w32 ((e17 h v o nb)).h.x4))]), (.num (.int .i64 (.s ((e17 h v o nb)).n)))]) := by
    obtain ⟨e1, e2⟩ := e17_eq h v o nb
    rw [e1, e2]
    rfl
  rw [eo, ev]
  refine ⟨[], (some [0]), _, c17_run h v o nb, ?_⟩
  refine all_true_cons ?_ all_true_nil
  refine (show r17.good ⟨h, z5, v, o, nb, 0⟩ = decide (0 ≤ (0 : Int) ∧ (0 : Int) ≤ nb ∧ o + nb ≤ v.n ∧ nb ≤ 1099511627776) by kernel_rfl).trans (decide_eq_true ?_)
  omega
theorem sum5_none (a : BitVec 32) : sum5 a (some 0#32) = sum5 a none := by
  show a + 0#32 = a
  simp
def fix5 (p : Stp5) : Stp5 :=
  match p with
  | ⟨f, k, t, none⟩ => ⟨f, k, t, some 0#32⟩
  | p => p
theorem step_fix (m : Vec 32) (p : Stp5) (h : W5) : step5 m (fix5 p) h = step5 m p h := by
  obtain ⟨f, k, t, add⟩ := p
  obtain ⟨a, b, c, d, e⟩ := h
  cases add with
  | none =>
    show (⟨e, rl (sum5 (a + lgc f b c d + m.l.getD k 0#32) (some 0#32)) t + e, b, rl c 10, d⟩ : W5) = ⟨e, rl (sum5 (a + lgc f b c d + m.l.getD k 0#32) none) t + e, b, rl c 10, d⟩
    rw [sum5_none]
  | some _ => rfl
theorem line_fix (m : Vec 32) : ∀ (l : List Stp5) (h : W5), line5 m (l.map fix5) h = line5 m l h
  | [], h => rfl
  | p :: ps, h => by
    show line5 m (ps.map fix5) (step5 m (fix5 p) h) = line5 m ps (step5 m p h)
    rw [step_fix, line_fix m ps]
theorem lineA_fix : lineA' = lineA.map fix5 := by kernel_rfl
theorem lineB_fix : lineB' = lineB.map fix5 := by kernel_rfl
theorem rip_same (h : W5) (m : Vec 32) : rip5 h m = ripR h m := by
  unfold rip5 ripR
  rw [lineA_fix, lineB_fix, line_fix, line_fix]
  simp only [W5.mk.injEq, and_true, true_and]
  rw [BitVec.add_comm, BitVec.add_comm (line5 m lineA h).x2]
theorem all_same (h : W5) (v : Vec 8) (o : Nat) : ∀ k, ripAll h v o k = ripAllR h v o k
  | 0 => rfl
  | k + 1 => by
    show rip5 (ripAll h v o k) _ = ripR (ripAllR h v o k) _
    rw [all_same h v o k, rip_same]
end Go.Proofs.YtaklljigoajpcaaDoor

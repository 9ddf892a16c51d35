/- RIPEMD-160's blocks: plain words, and the package's contract. -/
import Derived.Test.YtaklljigoajpcaaDoorR3Ok
namespace Go.Proofs.YtaklljigoajpcaaDoor
open Go.Eng
set_option linter.unusedSectionVars false
variable [RowAddr]
set_option linter.unusedSimpArgs false
set_option linter.unusedVariables false
structure W5 where
  (x0 x1 x2 x3 x4 : BitVec 32)
structure B64 where
  (x0 x1 x2 x3 x4 x5 x6 x7 x8 x9 x10 x11 x12 x13 x14 x15 x16 x17 x18 x19 x20 x21 x22 x23 x24 x25 x26 x27 x28 x29 x30 x31 x32 x33 x34 x35 x36 x37 x38 x39 x40 x41 x42 x43 x44 x45 x46 x47 x48 x49 x50 x51 x52 x53 x54 x55 x56 x57 x58 x59 x60 x61 x62 x63 : BitVec 8)
def lw4 (a b c d : BitVec 8) : BitVec 32 := a.setWidth 32 ||| b.setWidth 32 <<< 8 ||| c.setWidth 32 <<< 16 ||| d.setWidth 32 <<< 24
def rl (x : BitVec 32) (n : Nat) : BitVec 32 := x <<< n ||| x >>> (32 - n)
/-- The sixteen words of a block. -/
def wrd (v : Vec 8) (o : Nat) : Vec 32 := Vec.of [lw4 (v.l.getD (o + 0) 0#8) (v.l.getD (o + 1) 0#8) (v.l.getD (o + 2) 0#8) (v.l.getD (o + 3) 0#8), lw4 (v.l.getD (o + 4) 0#8) (v.l.getD (o + 5) 0#8) (v.l.getD (o + 6) 0#8) (v.l.getD (o + 7) 0#8), lw4 (v.l.getD (o + 8) 0#8) (v.l.getD (o + 9) 0#8) (v.l.getD (o + 10) 0#8) (v.l.getD (o + 11) 0#8), lw4 (v.l.getD (o + 12) 0#8) (v.l.getD (o + 13) 0#8) (v.l.getD (o + 14) 0#8) (v.l.getD (o + 15) 0#8), lw4 (v.l.getD (o + 16) 0#8) (v.l.getD (o + 17) 0#8) (v.l.getD (o + 18) 0#8) (v.l.getD (o + 19) 0#8), lw4 (v.l.getD (o + 20) 0#8) (v.l.getD (o + 21) 0#8) (v.l.getD (o + 22) 0#8) (v.l.getD (o + 23) 0#8), lw4 (v.l.getD (o + 24) 0#8) (v.l.getD (o + 25) 0#8) (v.l.getD (o + 26) 0#8) (v.l.getD (o + 27) 0#8), lw4 (v.l.getD (o + 28) 0#8) (v.l.getD (o + 29) 0#8) (v.l.getD (o + 30) 0#8) (v.l.getD (o + 31) 0#8), lw4 (v.l.getD (o + 32) 0#8) (v.l.getD (o + 33) 0#8) (v.l.getD (o + 34) 0#8) (v.l.getD (o + 35) 0#8), lw4 (v.l.getD (o + 36) 0#8) (v.l.getD (o + 37) 0#8) (v.l.getD (o + 38) 0#8) (v.l.getD (o + 39) 0#8), lw4 (v.l.getD (o + 40) 0#8) (v.l.getD (o + 41) 0#8) (v.l.getD (o + 42) 0#8) (v.l.getD (o + 43) 0#8), lw4 (v.l.getD (o + 44) 0#8) (v.l.getD (o + 45) 0#8) (v.l.getD (o + 46) 0#8) (v.l.getD (o + 47) 0#8), lw4 (v.l.getD (o + 48) 0#8) (v.l.getD (o + 49) 0#8) (v.l.getD (o + 50) 0#8) (v.l.getD (o + 51) 0#8), lw4 (v.l.getD (o + 52) 0#8) (v.l.getD (o + 53) 0#8) (v.l.getD (o + 54) 0#8) (v.l.getD (o + 55) 0#8), lw4 (v.l.getD (o + 56) 0#8) (v.l.getD (o + 57) 0#8) (v.l.getD (o + 58) 0#8) (v.l.getD (o + 59) 0#8), lw4 (v.l.getD (o + 60) 0#8) (v.l.getD (o + 61) 0#8) (v.l.getD (o + 62) 0#8) (v.l.getD (o + 63) 0#8)]
def lgc (k : Nat) (x y z : BitVec 32) : BitVec 32 :=
  match k with
  | 0 => x ^^^ y ^^^ z
  | 1 => x &&& y ||| ~~~x &&& z
  | 2 => (x ||| ~~~y) ^^^ z
  | 3 => x &&& z ||| y &&& ~~~z
  | _ => x ^^^ (y ||| ~~~z)
structure Stp5 where
  (f k t : Nat)
  add : Option (BitVec 32)
def sum5 (a : BitVec 32) (p : Option (BitVec 32)) : BitVec 32 :=
  match p with
  | some c => a + c
  | none => a
def step5 (m : Vec 32) (p : Stp5) (h : W5) : W5 :=
  match h with
  | ⟨a, b, c, d, e⟩ => ⟨e, rl (sum5 (a + lgc p.f b c d + m.l.getD p.k 0#32) p.add) p.t + e, b, rl c 10, d⟩
def line5 (m : Vec 32) : List Stp5 → W5 → W5
  | [], h => h
  | p :: ps, h => line5 m ps (step5 m p h)
def lineA : List Stp5 := [⟨0, 0, 11, none⟩, ⟨0, 1, 14, none⟩, ⟨0, 2, 15, none⟩, ⟨0, 3, 12, none⟩, ⟨0, 4, 5, none⟩, ⟨0, 5, 8, none⟩, ⟨0, 6, 7, none⟩, ⟨0, 7, 9, none⟩, ⟨0, 8, 11, none⟩, ⟨0, 9, 13, none⟩, ⟨0, 10, 14, none⟩, ⟨0, 11, 15, none⟩, ⟨0, 12, 6, none⟩, ⟨0, 13, 7, none⟩, ⟨0, 14, 9, none⟩, ⟨0, 15, 8, none⟩, ⟨1, 7, 7, some 1518500249#32⟩, ⟨1, 4, 6, some 1518500249#32⟩, ⟨1, 13, 8, some 1518500249#32⟩, ⟨1, 1, 13, some 1518500249#32⟩, ⟨1, 10, 11, some 1518500249#32⟩, ⟨1, 6, 9, some 1518500249#32⟩, ⟨1, 15, 7, some 1518500249#32⟩, ⟨1, 3, 15, some 1518500249#32⟩, ⟨1, 12, 7, some 1518500249#32⟩, ⟨1, 0, 12, some 1518500249#32⟩, ⟨1, 9, 15, some 1518500249#32⟩, ⟨1, 5, 9, some 1518500249#32⟩, ⟨1, 2, 11, some 1518500249#32⟩, ⟨1, 14, 7, some 1518500249#32⟩, ⟨1, 11, 13, some 1518500249#32⟩, ⟨1, 8, 12, some 1518500249#32⟩, ⟨2, 3, 11, some 1859775393#32⟩, ⟨2, 10, 13, some 1859775393#32⟩, ⟨2, 14, 6, some 1859775393#32⟩, ⟨2, 4, 7, some 1859775393#32⟩, ⟨2, 9, 14, some 1859775393#32⟩, ⟨2, 15, 9, some 1859775393#32⟩, ⟨2, 8, 13, some 1859775393#32⟩, ⟨2, 1, 15, some 1859775393#32⟩, ⟨2, 2, 14, some 1859775393#32⟩, ⟨2, 7, 8, some 1859775393#32⟩, ⟨2, 0, 13, some 1859775393#32⟩, ⟨2, 6, 6, some 1859775393#32⟩, ⟨2, 13, 5, some 1859775393#32⟩, ⟨2, 11, 12, some 1859775393#32⟩, ⟨2, 5, 7, some 1859775393#32⟩, ⟨2, 12, 5, some 1859775393#32⟩, ⟨3, 1, 11, some 2400959708#32⟩, ⟨3, 9, 12, some 2400959708#32⟩, ⟨3, 11, 14, some 2400959708#32⟩, ⟨3, 10, 15, some 2400959708#32⟩, ⟨3, 0, 14, some 2400959708#32⟩, ⟨3, 8, 15, some 2400959708#32⟩, ⟨3, 12, 9, some 2400959708#32⟩, ⟨3, 4, 8, some 2400959708#32⟩, ⟨3, 13, 9, some 2400959708#32⟩, ⟨3, 3, 14, some 2400959708#32⟩, ⟨3, 7, 5, some 2400959708#32⟩, ⟨3, 15, 6, some 2400959708#32⟩, ⟨3, 14, 8, some 2400959708#32⟩, ⟨3, 5, 6, some 2400959708#32⟩, ⟨3, 6, 5, some 2400959708#32⟩, ⟨3, 2, 12, some 2400959708#32⟩, ⟨4, 4, 9, some 2840853838#32⟩, ⟨4, 0, 15, some 2840853838#32⟩, ⟨4, 5, 5, some 2840853838#32⟩, ⟨4, 9, 11, some 2840853838#32⟩, ⟨4, 7, 6, some 2840853838#32⟩, ⟨4, 12, 8, some 2840853838#32⟩, ⟨4, 2, 13, some 2840853838#32⟩, ⟨4, 10, 12, some 2840853838#32⟩, ⟨4, 14, 5, some 2840853838#32⟩, ⟨4, 1, 12, some 2840853838#32⟩, ⟨4, 3, 13, some 2840853838#32⟩, ⟨4, 8, 14, some 2840853838#32⟩, ⟨4, 11, 11, some 2840853838#32⟩, ⟨4, 6, 8, some 2840853838#32⟩, ⟨4, 15, 5, some 2840853838#32⟩, ⟨4, 13, 6, some 2840853838#32⟩]
def lineB : List Stp5 := [⟨4, 5, 8, some 1352829926#32⟩, ⟨4, 14, 9, some 1352829926#32⟩, ⟨4, 7, 9, some 1352829926#32⟩, ⟨4, 0, 11, some 1352829926#32⟩, ⟨4, 9, 13, some 1352829926#32⟩, ⟨4, 2, 15, some 1352829926#32⟩, ⟨4, 11, 15, some 1352829926#32⟩, ⟨4, 4, 5, some 1352829926#32⟩, ⟨4, 13, 7, some 1352829926#32⟩, ⟨4, 6, 7, some 1352829926#32⟩, ⟨4, 15, 8, some 1352829926#32⟩, ⟨4, 8, 11, some 1352829926#32⟩, ⟨4, 1, 14, some 1352829926#32⟩, ⟨4, 10, 14, some 1352829926#32⟩, ⟨4, 3, 12, some 1352829926#32⟩, ⟨4, 12, 6, some 1352829926#32⟩, ⟨3, 6, 9, some 1548603684#32⟩, ⟨3, 11, 13, some 1548603684#32⟩, ⟨3, 3, 15, some 1548603684#32⟩, ⟨3, 7, 7, some 1548603684#32⟩, ⟨3, 0, 12, some 1548603684#32⟩, ⟨3, 13, 8, some 1548603684#32⟩, ⟨3, 5, 9, some 1548603684#32⟩, ⟨3, 10, 11, some 1548603684#32⟩, ⟨3, 14, 7, some 1548603684#32⟩, ⟨3, 15, 7, some 1548603684#32⟩, ⟨3, 8, 12, some 1548603684#32⟩, ⟨3, 12, 7, some 1548603684#32⟩, ⟨3, 4, 6, some 1548603684#32⟩, ⟨3, 9, 15, some 1548603684#32⟩, ⟨3, 1, 13, some 1548603684#32⟩, ⟨3, 2, 11, some 1548603684#32⟩, ⟨2, 15, 9, some 1836072691#32⟩, ⟨2, 5, 7, some 1836072691#32⟩, ⟨2, 1, 15, some 1836072691#32⟩, ⟨2, 3, 11, some 1836072691#32⟩, ⟨2, 7, 8, some 1836072691#32⟩, ⟨2, 14, 6, some 1836072691#32⟩, ⟨2, 6, 6, some 1836072691#32⟩, ⟨2, 9, 14, some 1836072691#32⟩, ⟨2, 11, 12, some 1836072691#32⟩, ⟨2, 8, 13, some 1836072691#32⟩, ⟨2, 12, 5, some 1836072691#32⟩, ⟨2, 2, 14, some 1836072691#32⟩, ⟨2, 10, 13, some 1836072691#32⟩, ⟨2, 0, 13, some 1836072691#32⟩, ⟨2, 4, 7, some 1836072691#32⟩, ⟨2, 13, 5, some 1836072691#32⟩, ⟨1, 8, 15, some 2053994217#32⟩, ⟨1, 6, 5, some 2053994217#32⟩, ⟨1, 4, 8, some 2053994217#32⟩, ⟨1, 1, 11, some 2053994217#32⟩, ⟨1, 3, 14, some 2053994217#32⟩, ⟨1, 11, 14, some 2053994217#32⟩, ⟨1, 15, 6, some 2053994217#32⟩, ⟨1, 0, 14, some 2053994217#32⟩, ⟨1, 5, 6, some 2053994217#32⟩, ⟨1, 12, 9, some 2053994217#32⟩, ⟨1, 2, 12, some 2053994217#32⟩, ⟨1, 13, 9, some 2053994217#32⟩, ⟨1, 9, 12, some 2053994217#32⟩, ⟨1, 7, 5, some 2053994217#32⟩, ⟨1, 10, 15, some 2053994217#32⟩, ⟨1, 14, 8, some 2053994217#32⟩, ⟨0, 12, 8, none⟩, ⟨0, 15, 5, none⟩, ⟨0, 10, 12, none⟩, ⟨0, 4, 9, none⟩, ⟨0, 1, 12, none⟩, ⟨0, 5, 5, none⟩, ⟨0, 8, 14, none⟩, ⟨0, 7, 6, none⟩, ⟨0, 6, 8, none⟩, ⟨0, 2, 13, none⟩, ⟨0, 13, 6, none⟩, ⟨0, 14, 5, none⟩, ⟨0, 0, 15, none⟩, ⟨0, 3, 13, none⟩, ⟨0, 9, 11, none⟩, ⟨0, 11, 11, none⟩]
/-- A block mixed into a state. -/
def rip5 (h : W5) (m : Vec 32) : W5 :=
  let L := line5 m lineA h
  let R := line5 m lineB h
  ⟨R.x3 + (L.x2 + h.x1), h.x2 + L.x3 + R.x4, h.x3 + L.x4 + R.x0, h.x4 + L.x0 + R.x1, h.x0 + L.x1 + R.x2⟩
structure r39D where
  h : W5
  xb : Vec 8
  nx : Int
  tc : BitVec 64
  v : Vec 8
  X : Vec 32
  o : Nat
  np : Nat
  n : Int
def r39_st (d : r39D) : Fr × List Blk :=
  match d with
  | ⟨h, xb, nx, tc, v, X, o, np, n⟩ => (⟨[(.ref (.ptr 0 (.c 0))), (.ref (.sl 1 (.s o) (.s np) none)), (.atom .undef), (.atom .undef), (.atom .undef), (.num (.int .i64 (.s n))), (.ref (.ptr 2 (.c 0))), (.atom .undef), (.atom .undef), (.atom .undef), (.atom .undef), (.atom .undef), (.atom .undef), (.atom .undef), (.atom .undef), (.atom .undef), (.atom .undef), (.atom .undef), (.atom .undef), (.atom .undef), (.atom .undef), (.atom .undef), (.atom .undef), (.atom .undef), (.atom .undef), (.atom .undef), (.atom .undef)], []⟩, [⟨(.gen ([(.num (.w32 h.x0)), (.num (.w32 h.x1)), (.num (.w32 h.x2)), (.num (.w32 h.x3)), (.num (.w32 h.x4))] ++ c8v xb 64 ++ [(.num (.int .i64 (.s nx))), (.num (.w64 tc))])), .own⟩, ⟨(.b8 v), .ro⟩, ⟨(.gen (c32v X 16)), .own⟩])
def r39_next (d : r39D) : r39D :=
  match d with
  | ⟨h, xb, nx, tc, v, _, o, np, n⟩ => ⟨rip5 h (wrd v o), xb, nx, tc, v, wrd v o, o + 64, np - 64, n + 64⟩
def r39_rd (F : Fr) (K : List Blk) : Option r39D :=
    match F with
    | ⟨[(.ref (.ptr 0 (.c 0))), (.ref (.sl 1 (.s o) (.s np) none)), (.atom .undef), (.atom .undef), (.atom .undef), (.num (.int .i64 (.s n))), (.ref (.ptr 2 (.c 0))), (.atom .undef), (.atom .undef), (.atom .undef), (.atom .undef), (.atom .undef), (.atom .undef), (.atom .undef), (.atom .undef), (.atom .undef), (.atom .undef), (.atom .undef), (.atom .undef), (.atom .undef), (.atom .undef), (.atom .undef), (.atom .undef), (.atom .undef), (.atom .undef), (.atom .undef), (.atom .undef)], []⟩ =>
      match K with
      | [⟨(.gen ((.num (.w32 h0)) :: (.num (.w32 h1)) :: (.num (.w32 h2)) :: (.num (.w32 h3)) :: (.num (.w32 h4)) :: ys_xb)), .own⟩, ⟨(.b8 v), .ro⟩, ⟨(.gen xs_X), .own⟩] => 
        (match rd8 64 (ys_xb.take 64), ys_xb.drop 64 with
        | some xb, [(.num (.int .i64 (.s nx))), (.num (.w64 tc))] => 
        (match rd32 16 xs_X with
        | some X => some ⟨⟨h0, h1, h2, h3, h4⟩, xb, nx, tc, v, X, o, np, n⟩
        | none => none)
        | _, _ => none)
      | _ => none
    | _ => none
def r39 : LoopP r39D where
  pat := ⟨[(.ref (.ptr 0 (.c 0))), (.ref (.sl 1 (.s 0) (.s 0) none)), (.atom .undef), (.atom .undef), (.atom .undef), (.num (.int .i64 (.s 0))), (.ref (.ptr 2 (.c 0))), (.atom .undef), (.atom .undef), (.atom .undef), (.atom .undef), (.atom .undef), (.atom .undef), (.atom .undef), (.atom .undef), (.atom .undef), (.atom .undef), (.atom .undef), (.atom .undef), (.atom .undef), (.atom .undef), (.atom .undef), (.atom .undef), (.atom .undef), (.atom .undef), (.atom .undef), (.atom .undef)], []⟩
  patH := [⟨(.gen ([(.num (.w32 0#32)), (.num (.w32 0#32)), (.num (.w32 0#32)), (.num (.w32 0#32)), (.num (.w32 0#32))] ++ List.replicate 64 (.num (.w8 0#8)) ++ [(.num (.int .i64 (.s 0))), (.num (.w64 0#64))])), .own⟩, ⟨(.b8 (Vec.zero 8 0)), .ro⟩, ⟨(.gen (List.replicate 16 (.num (.w32 0#32)))), .own⟩]
  gh := []
  read := r39_rd
  st := r39_st
  next := r39_next
  rem := fun ⟨_, _, _, _, _, _, _, np, _⟩ => np / 64
  good := fun ⟨_, _, _, _, v, _, o, np, n⟩ => decide (o + np ≤ v.n ∧ np ≤ 1099511627776 ∧ 0 ≤ n ∧ n + np ≤ 1099511627776)
  out := .exit 0
  fin := r39_st
theorem r39_round (h : W5) (xb : Vec 8) (nx : Int) (tc : BitVec 64) (v : Vec 8) (X : Vec 32) (o np : Nat) (n : Int) : ranAs ((r39.st ⟨h, xb, nx, tc, v, X, o, np, n⟩).2.length - r39.gh.length) none (r39.st (r39_next ⟨h, xb, nx, tc, v, X, o, np, n⟩)) (goL noSpec noLoop 39 0 (r39.st ⟨h, xb, nx, tc, v, X, o, np, n⟩).1 ⟨(r39.st ⟨h, xb, nx, tc, v, X, o, np, n⟩).2, big, [true], []⟩) = some (.normal, (r39.st (r39_next ⟨h, xb, nx, tc, v, X, o, np, n⟩)), [decide (((-9223372036854775808) ≤ (n + 64) ∧ (n + 64) ≤ 9223372036854775807)), ((true && decide ((64 : Int) ≤ ((np : Nat) : Int))) && decide (((np : Nat) : Int) ≤ ((np : Nat) : Int))), decide ((o + 63) < v.n), (true && decide ((63 : Int) < ((np : Nat) : Int))), decide ((o + 62) < v.n), (true && decide ((62 : Int) < ((np : Nat) : Int))), decide ((o + 61) < v.n), (true && decide ((61 : Int) < ((np : Nat) : Int))), decide ((o + 60) < v.n), (true && decide ((60 : Int) < ((np : Nat) : Int))), decide ((o + 59) < v.n), (true && decide ((59 : Int) < ((np : Nat) : Int))), decide ((o + 58) < v.n), (true && decide ((58 : Int) < ((np : Nat) : Int))), decide ((o + 57) < v.n), (true && decide ((57 : Int) < ((np : Nat) : Int))), decide ((o + 56) < v.n), (true && decide ((56 : Int) < ((np : Nat) : Int))), decide ((o + 55) < v.n), (true && decide ((55 : Int) < ((np : Nat) : Int))), decide ((o + 54) < v.n), (true && decide ((54 : Int) < ((np : Nat) : Int))), decide ((o + 53) < v.n), (true && decide ((53 : Int) < ((np : Nat) : Int))), decide ((o + 52) < v.n), (true && decide ((52 : Int) < ((np : Nat) : Int))), decide ((o + 51) < v.n), (true && decide ((51 : Int) < ((np : Nat) : Int))), decide ((o + 50) < v.n), (true && decide ((50 : Int) < ((np : Nat) : Int))), decide ((o + 49) < v.n), (true && decide ((49 : Int) < ((np : Nat) : Int))), decide ((o + 48) < v.n), (true && decide ((48 : Int) < ((np : Nat) : Int))), decide ((o + 47) < v.n), (true && decide ((47 : Int) < ((np : Nat) : Int))), decide ((o + 46) < v.n), (true && decide ((46 : Int) < ((np : Nat) : Int))), decide ((o + 45) < v.n), (true && decide ((45 : Int) < ((np : Nat) : Int))), decide ((o + 44) < v.n), (true && decide ((44 : Int) < ((np : Nat) : Int))), decide ((o + 43) < v.n), (true && decide ((43 : Int) < ((np : Nat) : Int))), decide ((o + 42) < v.n), (true && decide ((42 : Int) < ((np : Nat) : Int))), decide ((o + 41) < v.n), (true && decide ((41 : Int) < ((np : Nat) : Int))), decide ((o + 40) < v.n), (true && decide ((40 : Int) < ((np : Nat) : Int))), decide ((o + 39) < v.n), (true && decide ((39 : Int) < ((np : Nat) : Int))), decide ((o + 38) < v.n), (true && decide ((38 : Int) < ((np : Nat) : Int))), decide ((o + 37) < v.n), (true && decide ((37 : Int) < ((np : Nat) : Int))), decide ((o + 36) < v.n), (true && decide ((36 : Int) < ((np : Nat) : Int))), decide ((o + 35) < v.n), (true && decide ((35 : Int) < ((np : Nat) : Int))), decide ((o + 34) < v.n), (true && decide ((34 : Int) < ((np : Nat) : Int))), decide ((o + 33) < v.n), (true && decide ((33 : Int) < ((np : Nat) : Int))), decide ((o + 32) < v.n), (true && decide ((32 : Int) < ((np : Nat) : Int))), decide ((o + 31) < v.n), (true && decide ((31 : Int) < ((np : Nat) : Int))), decide ((o + 30) < v.n), (true && decide ((30 : Int) < ((np : Nat) : Int))), decide ((o + 29) < v.n), (true && decide ((29 : Int) < ((np : Nat) : Int))), decide ((o + 28) < v.n), (true && decide ((28 : Int) < ((np : Nat) : Int))), decide ((o + 27) < v.n), (true && decide ((27 : Int) < ((np : Nat) : Int))), decide ((o + 26) < v.n), (true && decide ((26 : Int) < ((np : Nat) : Int))), decide ((o + 25) < v.n), (true && decide ((25 : Int) < ((np : Nat) : Int))), decide ((o + 24) < v.n), (true && decide ((24 : Int) < ((np : Nat) : Int))), decide ((o + 23) < v.n), (true && decide ((23 : Int) < ((np : Nat) : Int))), decide ((o + 22) < v.n), (true && decide ((22 : Int) < ((np : Nat) : Int))), decide ((o + 21) < v.n), (true && decide ((21 : Int) < ((np : Nat) : Int))), decide ((o + 20) < v.n), (true && decide ((20 : Int) < ((np : Nat) : Int))), decide ((o + 19) < v.n), (true && decide ((19 : Int) < ((np : Nat) : Int))), decide ((o + 18) < v.n), (true && decide ((18 : Int) < ((np : Nat) : Int))), decide ((o + 17) < v.n), (true && decide ((17 : Int) < ((np : Nat) : Int))), decide ((o + 16) < v.n), (true && decide ((16 : Int) < ((np : Nat) : Int))), decide ((o + 15) < v.n), (true && decide ((15 : Int) < ((np : Nat) : Int))), decide ((o + 14) < v.n), (true && decide ((14 : Int) < ((np : Nat) : Int))), decide ((o + 13) < v.n), (true && decide ((13 : Int) < ((np : Nat) : Int))), decide ((o + 12) < v.n), (true && decide ((12 : Int) < ((np : Nat) : Int))), decide ((o + 11) < v.n), (true && decide ((11 : Int) < ((np : Nat) : Int))), decide ((o + 10) < v.n), (true && decide ((10 : Int) < ((np : Nat) : Int))), decide ((o + 9) < v.n), (true && decide ((9 : Int) < ((np : Nat) : Int))), decide ((o + 8) < v.n), (true && decide ((8 : Int) < ((np : Nat) : Int))), decide ((o + 7) < v.n), (true && decide ((7 : Int) < ((np : Nat) : Int))), decide ((o + 6) < v.n), (true && decide ((6 : Int) < ((np : Nat) : Int))), decide ((o + 5) < v.n), (true && decide ((5 : Int) < ((np : Nat) : Int))), decide ((o + 4) < v.n), (true && decide ((4 : Int) < ((np : Nat) : Int))), decide ((o + 3) < v.n), (true && decide ((3 : Int) < ((np : Nat) : Int))), decide ((o + 2) < v.n), (true && decide ((2 : Int) < ((np : Nat) : Int))), decide ((o + 1) < v.n), (true && decide ((1 : Int) < ((np : Nat) : Int))), decide ((o + 0) < v.n), (true && decide ((0 : Int) < ((np : Nat) : Int))), (decide ((64 : Int) ≤ ((np : Nat) : Int)) == true)]) := by kernel_rfl
theorem r39_end (h : W5) (xb : Vec 8) (nx : Int) (tc : BitVec 64) (v : Vec 8) (X : Vec 32) (o np : Nat) (n : Int) : ranAs ((r39.st ⟨h, xb, nx, tc, v, X, o, np, n⟩).2.length - r39.gh.length) none (r39.fin ⟨h, xb, nx, tc, v, X, o, np, n⟩) (goL noSpec noLoop 39 0 (r39.st ⟨h, xb, nx, tc, v, X, o, np, n⟩).1 ⟨(r39.st ⟨h, xb, nx, tc, v, X, o, np, n⟩).2, big, [false], []⟩) = some (r39.out, (r39.fin ⟨h, xb, nx, tc, v, X, o, np, n⟩), [(decide ((64 : Int) ≤ ((np : Nat) : Int)) == false)]) := by kernel_rfl
set_option maxRecDepth 100000 in
theorem r39_read (F : Fr) (K : List Blk) (d : r39D) (h : r39.read F K = some d) : (F, K) = r39.st d := by
  replace h : r39_rd F K = some d := h
  unfold r39_rd at h
  split at h
  case h_2 => cases h
  split at h
  case h_2 => cases h
  split at h
  case h_2 => cases h
  rename_i hr hd
  obtain ⟨he, _⟩ := rd8_eq hr
  have ht := (List.take_append_drop 64 _).symm.trans (congr (congrArg HAppend.hAppend he) hd)
  subst ht
  split at h
  case h_2 => cases h
  rename_i hr0
  obtain ⟨rfl, _⟩ := rd32_eq hr0
  injection h with h; subst h
  rfl
theorem r39_body : RunOk Tryd.prog noGlob (nv 39) (ntmpsIn Tryd.prog 39) (loopIn Tryd.prog 39 0) (goL noSpec noLoop 39 0) := goL_ok no_specs (no_loops _) 39 0 fine39 (by rw [show (loopsIn Tryd.prog 39).length = 7 by kernel_rfl]; omega)
theorem r39_toldL : LoopOk Tryd.prog noGlob (nv 39) (ntmpsIn Tryd.prog 39) (loopIn Tryd.prog 39 0) r39.T.told := by
  refine r39.ran r39_body (by intro k hk; have hk : k ∈ ([] : List Blk) := hk; cases hk) (by intro h; cases h) r39_read ?_ ?_
  · rintro ⟨h, xb, nx, tc, v, X, o, np, n⟩ kk hg hr
    have hg : o + np ≤ v.n ∧ np ≤ 1099511627776 ∧ 0 ≤ n ∧ n + np ≤ 1099511627776 := of_decide_eq_true hg
    have hr : np / 64 = kk + 1 := hr
    have en : r39.next ⟨h, xb, nx, tc, v, X, o, np, n⟩ = r39_next ⟨h, xb, nx, tc, v, X, o, np, n⟩ := rfl
    rw [en]
    refine ⟨⟨[true], none, _, r39_round h xb nx tc v X o np n, ?_⟩, ?_, ?_, (show (r39.st (r39_next ⟨h, xb, nx, tc, v, X, o, np, n⟩)).2.length = 3 by kernel_rfl).trans (show (r39.st ⟨h, xb, nx, tc, v, X, o, np, n⟩).2.length = 3 by kernel_rfl).symm⟩
    · repeat' (refine all_true_cons ?_ ?_)
      all_goals first | exact all_true_nil | rfl | (simp only [Bool.and_eq_true, decide_eq_true_eq, beq_iff_eq, beq_true, beq_false, Bool.not_eq_true', decide_eq_false_iff_not, beq_eq_false_iff_ne, ne_eq, Bool.not_eq_false', bne_iff_ne, true_and, and_true]; omega)
    · have e : r39.good (r39_next ⟨h, xb, nx, tc, v, X, o, np, n⟩) = decide ((o + 64 : Nat) + (np - 64 : Nat) ≤ v.n ∧ (np - 64 : Nat) ≤ 1099511627776 ∧ 0 ≤ (n + 64 : Int) ∧ (n + 64 : Int) + (np - 64 : Nat) ≤ 1099511627776) := by kernel_rfl
      refine e.trans (decide_eq_true ?_)
      omega
    · have e : r39.rem (r39_next ⟨h, xb, nx, tc, v, X, o, np, n⟩) = ((np - 64 : Nat) / 64) := by kernel_rfl
      refine e.trans ?_
      omega
  · rintro ⟨h, xb, nx, tc, v, X, o, np, n⟩ hg hr
    have hg : o + np ≤ v.n ∧ np ≤ 1099511627776 ∧ 0 ≤ n ∧ n + np ≤ 1099511627776 := of_decide_eq_true hg
    have hr : np / 64 = 0 := hr
    refine ⟨[false], none, _, r39_end h xb nx tc v X o np n, ?_⟩
    repeat' (refine all_true_cons ?_ ?_)
    all_goals first | exact all_true_nil | rfl | (simp only [Bool.and_eq_true, decide_eq_true_eq, beq_iff_eq, beq_true, beq_false, Bool.not_eq_true', decide_eq_false_iff_not, beq_eq_false_iff_ne, ne_eq, Bool.not_eq_false', bne_iff_ne, true_and, and_true]; omega)
def r39_spec : LSpec := r39.T.told
theorem r39_told : Told 39 0 r39_spec := r39_toldL.run
def r39s : FuncId → Nat → Option LSpec
  | 39, 4 => some r39_spec
  | _, _ => none
theorem r39s_len : (loopsIn Tryd.prog 39).length = 7 := by kernel_rfl
theorem r39s_ok (spec : FuncId → Option Eng.Spec) : LoopsOk (cfg spec r39s) noGlob := by
  refine LoopsOk.of fun f => ?_
  by_cases hf : f = 39
  · subst hf
    refine .inr ⟨by kernel_rfl, fun i hi sp hsp => ?_⟩
    have hi : i < (loopsIn Tryd.prog 39).length := hi
    rw [r39s_len] at hi
    match i, hi with
    | 0, _ =>
      have e : (firstRid (loopIn Tryd.prog 39 0)).bind (r39s 39) = some r39_spec := by kernel_rfl
      obtain rfl := Option.some.inj (e.symm.trans hsp)
      exact r39_told
    | 1, _ =>
      have e : (firstRid (loopIn Tryd.prog 39 1)).bind (r39s 39) = none := by kernel_rfl
      have hsp : (firstRid (loopIn Tryd.prog 39 1)).bind (r39s 39) = some sp := hsp
      rw [e] at hsp; cases hsp
    | 2, _ =>
      have e : (firstRid (loopIn Tryd.prog 39 2)).bind (r39s 39) = none := by kernel_rfl
      have hsp : (firstRid (loopIn Tryd.prog 39 2)).bind (r39s 39) = some sp := hsp
      rw [e] at hsp; cases hsp
    | 3, _ =>
      have e : (firstRid (loopIn Tryd.prog 39 3)).bind (r39s 39) = none := by kernel_rfl
      have hsp : (firstRid (loopIn Tryd.prog 39 3)).bind (r39s 39) = some sp := hsp
      rw [e] at hsp; cases hsp
    | 4, _ =>
      have e : (firstRid (loopIn Tryd.prog 39 4)).bind (r39s 39) = none := by kernel_rfl
      have hsp : (firstRid (loopIn Tryd.prog 39 4)).bind (r39s 39) = some sp := hsp
      rw [e] at hsp; cases hsp
    | 5, _ =>
      have e : (firstRid (loopIn Tryd.prog 39 5)).bind (r39s 39) = none := by kernel_rfl
      have hsp : (firstRid (loopIn Tryd.prog 39 5)).bind (r39s 39) = some sp := hsp
      rw [e] at hsp; cases hsp
    | 6, _ =>
      have e : (firstRid (loopIn Tryd.prog 39 6)).bind (r39s 39) = none := by kernel_rfl
      have hsp : (firstRid (loopIn Tryd.prog 39 6)).bind (r39s 39) = some sp := hsp
      rw [e] at hsp; cases hsp
  · refine .inl fun r => ?_
    show r39s f r = none
    unfold r39s
    split
    · exact absurd rfl hf
    · rfl
def cpv (x : Vec 8) : Vec 8 := Vec.of ((List.range 64).map fun i => x.l.getD i 0#8)
theorem c8v_cpv (x : Vec 8) : c8v (cpv x) 64 = c8v x 64 := by
  refine List.map_congr_left fun i hi => ?_
  have hi := List.mem_range.1 hi
  have e : (cpv x).l.getD i 0#8 = x.l.getD i 0#8 := by
    show ((List.range 64).map fun i => x.l.getD i 0#8).getD i 0#8 = _
    simp [List.getD_eq_getElem?_getD, hi]
  rw [e]
def r39z (h : W5) (xb : Vec 8) (nx : Int) (tc : BitVec 64) (v : Vec 8) (o np : Nat) : r39D := iter r39_next (np / 64) ⟨h, cpv xb, nx, tc, v, Vec.of (List.replicate 16 0#32), o, np, 0⟩
/-- All blocks of a row mixed into a state. -/
def ripAll (h : W5) (v : Vec 8) (o : Nat) : Nat → W5
  | 0 => h
  | k + 1 => rip5 (ripAll h v o k) (wrd v (o + 64 * k))
theorem r39_it (h : W5) (xb : Vec 8) (nx : Int) (tc : BitVec 64) (v : Vec 8) (X : Vec 32) (o np : Nat) : ∀ k : Nat, 64 * k ≤ np → ∃ Y, iter r39_next k ⟨h, xb, nx, tc, v, X, o, np, 0⟩ = ⟨ripAll h v o k, xb, nx, tc, v, Y, o + 64 * k, np - 64 * k, (64 * k : Nat)⟩
  | 0, _ => ⟨X, rfl⟩
  | k + 1, hk => by
    obtain ⟨Y, e⟩ := r39_it h xb nx tc v X o np k (by omega)
    refine ⟨wrd v (o + 64 * k), ?_⟩
    rw [iter_succ, e]
    show (⟨rip5 (ripAll h v o k) (wrd v (o + 64 * k)), xb, nx, tc, v, wrd v (o + 64 * k), o + 64 * k + 64, np - 64 * k - 64, ((64 * k : Nat) : Int) + 64⟩ : r39D) = _
    rw [show o + 64 * k + 64 = o + 64 * (k + 1) by omega, show np - 64 * k - 64 = np - 64 * (k + 1) by omega, show ((64 * k : Nat) : Int) + 64 = ((64 * (k + 1) : Nat) : Int) by omega]
    rfl
theorem r39z_eq (h : W5) (xb : Vec 8) (nx : Int) (tc : BitVec 64) (v : Vec 8) (o np : Nat) : (r39z h xb nx tc v o np).h = ripAll h v o (np / 64) ∧ (r39z h xb nx tc v o np).xb = cpv xb ∧ (r39z h xb nx tc v o np).nx = nx ∧ (r39z h xb nx tc v o np).tc = tc ∧ (r39z h xb nx tc v o np).n = (64 * (np / 64) : Nat) := by
  obtain ⟨Y, e⟩ := r39_it h (cpv xb) nx tc v (Vec.of (List.replicate 16 0#32)) o np (np / 64) (by omega)
  unfold r39z
  rw [e]
  exact ⟨rfl, rfl, rfl, rfl, rfl⟩
structure c39D where
  h : W5
  xb : Vec 8
  nx : Int
  tc : BitVec 64
  v : Vec 8
  o : Nat
  np : Nat
def c39_rd (a : List AV) (K : List Blk) : Option c39D :=
    match a with
    | [(.ref (.ptr 0 (.c 0))), (.ref (.sl 1 (.s o) (.s np) none))] =>
      match K with
      | [⟨(.gen ((.num (.w32 h0)) :: (.num (.w32 h1)) :: (.num (.w32 h2)) :: (.num (.w32 h3)) :: (.num (.w32 h4)) :: ys_xb)), .own⟩, ⟨(.b8 v), .ro⟩] => 
        (match rd8 64 (ys_xb.take 64), ys_xb.drop 64 with
        | some xb, [(.num (.int .i64 (.s nx))), (.num (.w64 tc))] => some ⟨⟨h0, h1, h2, h3, h4⟩, xb, nx, tc, v, o, np⟩
        | _, _ => none)
      | _ => none
    | _ => none
def c39 : Ct c39D where
  pat := [(.ref (.ptr 0 (.c 0))), (.ref (.sl 1 (.s 0) (.s 0) none))]
  patH := [⟨(.gen ([(.num (.w32 0#32)), (.num (.w32 0#32)), (.num (.w32 0#32)), (.num (.w32 0#32)), (.num (.w32 0#32))] ++ List.replicate 64 (.num (.w8 0#8)) ++ [(.num (.int .i64 (.s 0))), (.num (.w64 0#64))])), .own⟩, ⟨(.b8 (Vec.zero 8 0)), .ro⟩]
  read := c39_rd
  args := fun ⟨_, _, _, _, _, o, np⟩ => [(.ref (.ptr 0 (.c 0))), (.ref (.sl 1 (.s o) (.s np) none))]
  heap := fun ⟨h, xb, nx, tc, v, _, _⟩ => [⟨(.gen ([(.num (.w32 h.x0)), (.num (.w32 h.x1)), (.num (.w32 h.x2)), (.num (.w32 h.x3)), (.num (.w32 h.x4))] ++ c8v xb 64 ++ [(.num (.int .i64 (.s nx))), (.num (.w64 tc))])), .own⟩, ⟨(.b8 v), .ro⟩]
  out := fun ⟨h, xb, nx, tc, v, o, np⟩ => [⟨(.gen ([(.num (.w32 ((ripAll h v o (np / 64))).x0)), (.num (.w32 ((ripAll h v o (np / 64))).x1)), (.num (.w32 ((ripAll h v o (np / 64))).x2)), (.num (.w32 ((ripAll h v o (np / 64))).x3)), (.num (.w32 ((ripAll h v o (np / 64))).x4))] ++ c8v xb 64 ++ [(.num (.int .i64 (.s nx))), (.num (.w64 tc))])), .own⟩, ⟨(.b8 v), .ro⟩]
  val := fun ⟨_, _, _, _, _, _, np⟩ => (.num (.int .i64 (.s (64 * (np / 64) : Nat))))
  good := fun ⟨_, _, _, _, v, o, np⟩ => decide (o + np ≤ v.n ∧ np ≤ 1099511627776)
theorem c39_run (h : W5) (xb : Vec 8) (nx : Int) (tc : BitVec 64) (v : Vec 8) (o np : Nat) : endsAs (c39.heap ⟨h, xb, nx, tc, v, o, np⟩).length (some [0, 1]) [⟨(.gen ([(.num (.w32 ((r39z h xb nx tc v o np)).h.x0)), (.num (.w32 ((r39z h xb nx tc v o np)).h.x1)), (.num (.w32 ((r39z h xb nx tc v o np)).h.x2)), (.num (.w32 ((r39z h xb nx tc v o np)).h.x3)), (.num (.w32 ((r39z h xb nx tc v o np)).h.x4))] ++ c8v ((r39z h xb nx tc v o np)).xb 64 ++ [(.num (.int .i64 (.s ((r39z h xb nx tc v o np)).nx))), (.num (.w64 ((r39z h xb nx tc v o np)).tc))])), .own⟩, ⟨(.b8 v), .ro⟩] (.num (.int .i64 (.s ((r39z h xb nx tc v o np)).n))) (goB noSpec r39s 39 (c39.args ⟨h, xb, nx, tc, v, o, np⟩) ⟨c39.heap ⟨h, xb, nx, tc, v, o, np⟩, big, [], []⟩) = some ([⟨(.gen ([(.num (.w32 ((r39z h xb nx tc v o np)).h.x0)), (.num (.w32 ((r39z h xb nx tc v o np)).h.x1)), (.num (.w32 ((r39z h xb nx tc v o np)).h.x2)), (.num (.w32 ((r39z h xb nx tc v o np)).h.x3)), (.num (.w32 ((r39z h xb nx tc v o np)).h.x4))] ++ c8v ((r39z h xb nx tc v o np)).xb 64 ++ [(.num (.int .i64 (.s ((r39z h xb nx tc v o np)).nx))), (.num (.w64 ((r39z h xb nx tc v o np)).tc))])), .own⟩, ⟨(.b8 v), .ro⟩], (.num (.int .i64 (.s ((r39z h xb nx tc v o np)).n))), [r39.good ⟨h, cpv xb, nx, tc, v, Vec.of (List.replicate 16 0#32), o, np, 0⟩]) := by kernel_rfl
set_option maxRecDepth 100000 in
theorem c39_read (a : List AV) (K : List Blk) (d : c39D) (h : c39.read a K = some d) : a = c39.args d ∧ K = c39.heap d := by
  replace h : c39_rd a K = some d := h
  unfold c39_rd at h
  split at h
  case h_2 => cases h
  split at h
  case h_2 => cases h
  split at h
  case h_2 => cases h
  rename_i hr hd
  obtain ⟨he, _⟩ := rd8_eq hr
  have ht := (List.take_append_drop 64 _).symm.trans (congr (congrArg HAppend.hAppend he) hd)
  subst ht
  injection h with h; subst h
  exact ⟨rfl, rfl⟩
theorem c39_ok : SpecOk Tryd.prog noGlob 39 c39.spec := by
  refine c39.ok (goB_ok no_specs (r39s_ok _)) c39_read ?_
  rintro ⟨h, xb, nx, tc, v, o, np⟩ hg
  have hg : o + np ≤ v.n ∧ np ≤ 1099511627776 := of_decide_eq_true hg
  have eo : c39.out ⟨h, xb, nx, tc, v, o, np⟩ = [⟨(.gen ([(.num (.w32 ((r39z h xb nx tc v o np)).h.x0)), (.num (.w32 ((r39z h xb nx tc v o np)).h.x1)), (.num (.w32 ((r39z h xb nx tc v o np)).h.x2)), (.num (.w32 ((r39z h xb nx tc v o np)).h.x3)), (.num (.w32 ((r39z h xb nx tc v o np)).h.x4))] ++ c8v ((r39z h xb nx tc v o np)).xb 64 ++ [(.num (.int .i64 (.s ((r39z h xb nx tc v o np)).nx))), (.num (.w64 ((r39z h xb nx tc v o np)).tc))])), .own⟩, ⟨(.b8 v), .ro⟩] := by
    obtain ⟨e1, e2, e3, e4, e5⟩ := r39z_eq h xb nx tc v o np
    rw [e1, e2, e3, e4, c8v_cpv]
    rfl
  have ev : c39.val ⟨h, xb, nx, tc, v, o, np⟩ = (.num (.int .i64 (.s ((r39z h xb nx tc v o np)).n))) := by
    obtain ⟨e1, e2, e3, e4, e5⟩ := r39z_eq h xb nx tc v o np
    rw [e5]
    rfl
  rw [eo, ev]
  refine ⟨[], (some [0, 1]), _, c39_run h xb nx tc v o np, ?_⟩
  refine all_true_cons ?_ all_true_nil
  refine (show r39.good ⟨h, cpv xb, nx, tc, v, Vec.of (List.replicate 16 0#32), o, np, 0⟩ = decide (o + np ≤ v.n ∧ np ≤ 1099511627776 ∧ 0 ≤ (0 : Int) ∧ (0 : Int) + (np : Nat) ≤ 1099511627776) by kernel_rfl).trans (decide_eq_true ?_)
  omega
def specs31 : FuncId → Option Eng.Spec
  | 39 => some c39.spec
  | _ => none
theorem specs31_ok : ∀ f sp, specs31 f = some sp → SpecOk Tryd.prog noGlob f sp := by
  intro f sp h
  unfold specs31 at h
  split at h
  · injection h with h; subst h; exact c39_ok
  · cases h
structure c16D where
  h : W5
  v : Vec 8
  o : Nat
  nb : Nat
def c16_rd (a : List AV) (K : List Blk) : Option c16D :=
    match a with
    | [(.agg [(.num (.w32 h0)), (.num (.w32 h1)), (.num (.w32 h2)), (.num (.w32 h3)), (.num (.w32 h4))]), (.ref (.sl 0 (.s o) (.s nb) none))] =>
      match K with
      | [⟨(.b8 v), .ro⟩] => some ⟨⟨h0, h1, h2, h3, h4⟩, v, o, nb⟩
      | _ => none
    | _ => none
def c16 : Ct c16D where
  pat := [(.agg [(.num (.w32 0#32)), (.num (.w32 0#32)), (.num (.w32 0#32)), (.num (.w32 0#32)), (.num (.w32 0#32))]), (.ref (.sl 0 (.s 0) (.s 0) none))]
  patH := [⟨(.b8 (Vec.zero 8 0)), .ro⟩]
  read := c16_rd
  args := fun ⟨h, _, o, nb⟩ => [(.agg [(.num (.w32 h.x0)), (.num (.w32 h.x1)), (.num (.w32 h.x2)), (.num (.w32 h.x3)), (.num (.w32 h.x4))]), (.ref (.sl 0 (.s o) (.s nb) none))]
  heap := fun ⟨_, v, _, _⟩ => [⟨(.b8 v), .ro⟩]
  out := fun ⟨_, v, _, _⟩ => [⟨(.b8 v), .ro⟩]
  val := fun ⟨h, v, o, nb⟩ => (.obj .tup [(.agg [(.num (.w32 ((ripAll h v o (nb / 64))).x0)), (.num (.w32 ((ripAll h v o (nb / 64))).x1)), (.num (.w32 ((ripAll h v o (nb / 64))).x2)), (.num (.w32 ((ripAll h v o (nb / 64))).x3)), (.num (.w32 ((ripAll h v o (nb / 64))).x4))]), (.num (.int .i64 (.s (64 * (nb / 64) : Nat))))])
  good := fun ⟨_, v, o, nb⟩ => decide (o + nb ≤ v.n ∧ nb ≤ 1099511627776)
theorem c16_run (h : W5) (v : Vec 8) (o nb : Nat) : endsAs (c16.heap ⟨h, v, o, nb⟩).length (some [0]) (c16.out ⟨h, v, o, nb⟩) (c16.val ⟨h, v, o, nb⟩) (goB specs31 noLoop 16 (c16.args ⟨h, v, o, nb⟩) ⟨c16.heap ⟨h, v, o, nb⟩, big, [], []⟩) = some ((c16.out ⟨h, v, o, nb⟩), (c16.val ⟨h, v, o, nb⟩), [decide (((o + nb) ≤ v.n ∧ nb ≤ 1099511627776))]) := by kernel_rfl
set_option maxRecDepth 100000 in
theorem c16_read (a : List AV) (K : List Blk) (d : c16D) (h : c16.read a K = some d) : a = c16.args d ∧ K = c16.heap d := by
  replace h : c16_rd a K = some d := h
  unfold c16_rd at h
  split at h
  case h_2 => cases h
  split at h
  case h_2 => cases h
  injection h with h; subst h
  exact ⟨rfl, rfl⟩
theorem c16_ok : SpecOk Tryd.prog noGlob 16 c16.spec := by
  refine c16.ok (goB_ok specs31_ok (no_loops _)) c16_read ?_
  rintro ⟨h, v, o, nb⟩ hg
  have hg : o + nb ≤ v.n ∧ nb ≤ 1099511627776 := of_decide_eq_true hg
  refine ⟨[], (some [0]), _, c16_run h v o nb, ?_⟩
  repeat' (refine all_true_cons ?_ ?_)
  all_goals first | exact all_true_nil | rfl | (simp only [Bool.and_eq_true, decide_eq_true_eq, beq_iff_eq, beq_true, beq_false, Bool.not_eq_true', decide_eq_false_iff_not, beq_eq_false_iff_ne, ne_eq, Bool.not_eq_false', bne_iff_ne, true_and, and_true]; omega)
end Go.Proofs.YtaklljigoajpcaaDoor

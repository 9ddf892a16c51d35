/- MD4's blocks: plain words, and the package's contract. -/
import Derived.Test.YtaklljigoajpcaaDoorR4Ok
namespace Go.Proofs.YtaklljigoajpcaaDoor.M
open Go.Eng
set_option linter.unusedSectionVars false
variable [RowAddr]
set_option linter.unusedSimpArgs false
set_option linter.unusedVariables false
structure W4 where
  (x0 x1 x2 x3 : BitVec 32)
def lw4 (a b c d : BitVec 8) : BitVec 32 := a.setWidth 32 ||| b.setWidth 32 <<< 8 ||| c.setWidth 32 <<< 16 ||| d.setWidth 32 <<< 24
def rl (x : BitVec 32) (n : Nat) : BitVec 32 := x <<< n ||| x >>> (32 - n)
def wrd (v : Vec 8) (o : Nat) : Vec 32 := Vec.of [lw4 (v.l.getD (o + 0) 0#8) (v.l.getD (o + 1) 0#8) (v.l.getD (o + 2) 0#8) (v.l.getD (o + 3) 0#8), lw4 (v.l.getD (o + 4) 0#8) (v.l.getD (o + 5) 0#8) (v.l.getD (o + 6) 0#8) (v.l.getD (o + 7) 0#8), lw4 (v.l.getD (o + 8) 0#8) (v.l.getD (o + 9) 0#8) (v.l.getD (o + 10) 0#8) (v.l.getD (o + 11) 0#8), lw4 (v.l.getD (o + 12) 0#8) (v.l.getD (o + 13) 0#8) (v.l.getD (o + 14) 0#8) (v.l.getD (o + 15) 0#8), lw4 (v.l.getD (o + 16) 0#8) (v.l.getD (o + 17) 0#8) (v.l.getD (o + 18) 0#8) (v.l.getD (o + 19) 0#8), lw4 (v.l.getD (o + 20) 0#8) (v.l.getD (o + 21) 0#8) (v.l.getD (o + 22) 0#8) (v.l.getD (o + 23) 0#8), lw4 (v.l.getD (o + 24) 0#8) (v.l.getD (o + 25) 0#8) (v.l.getD (o + 26) 0#8) (v.l.getD (o + 27) 0#8), lw4 (v.l.getD (o + 28) 0#8) (v.l.getD (o + 29) 0#8) (v.l.getD (o + 30) 0#8) (v.l.getD (o + 31) 0#8), lw4 (v.l.getD (o + 32) 0#8) (v.l.getD (o + 33) 0#8) (v.l.getD (o + 34) 0#8) (v.l.getD (o + 35) 0#8), lw4 (v.l.getD (o + 36) 0#8) (v.l.getD (o + 37) 0#8) (v.l.getD (o + 38) 0#8) (v.l.getD (o + 39) 0#8), lw4 (v.l.getD (o + 40) 0#8) (v.l.getD (o + 41) 0#8) (v.l.getD (o + 42) 0#8) (v.l.getD (o + 43) 0#8), lw4 (v.l.getD (o + 44) 0#8) (v.l.getD (o + 45) 0#8) (v.l.getD (o + 46) 0#8) (v.l.getD (o + 47) 0#8), lw4 (v.l.getD (o + 48) 0#8) (v.l.getD (o + 49) 0#8) (v.l.getD (o + 50) 0#8) (v.l.getD (o + 51) 0#8), lw4 (v.l.getD (o + 52) 0#8) (v.l.getD (o + 53) 0#8) (v.l.getD (o + 54) 0#8) (v.l.getD (o + 55) 0#8), lw4 (v.l.getD (o + 56) 0#8) (v.l.getD (o + 57) 0#8) (v.l.getD (o + 58) 0#8) (v.l.getD (o + 59) 0#8), lw4 (v.l.getD (o + 60) 0#8) (v.l.getD (o + 61) 0#8) (v.l.getD (o + 62) 0#8) (v.l.getD (o + 63) 0#8)]
def lg4 (k : Nat) (b c d : BitVec 32) : BitVec 32 :=
  match k with
  | 0 => ((c ^^^ d) &&& b) ^^^ d
  | 1 => b &&& c ||| b &&& d ||| c &&& d
  | _ => b ^^^ c ^^^ d
structure Stp4 where
  (f k t : Nat)
  add : Option (BitVec 32)
def sum4 (a : BitVec 32) (p : Option (BitVec 32)) : BitVec 32 :=
  match p with
  | some c => a + c
  | none => a
def step4 (m : Vec 32) (p : Stp4) (h : W4) : W4 :=
  match h with
  | ⟨a, b, c, d⟩ => ⟨d, rl (a + sum4 (lg4 p.f b c d + m.l.getD p.k 0#32) p.add) p.t, b, c⟩
def line4 (m : Vec 32) : List Stp4 → W4 → W4
  | [], h => h
  | p :: ps, h => line4 m ps (step4 m p h)
def lin4 : List Stp4 := [⟨0, 0, 3, none⟩, ⟨0, 1, 7, none⟩, ⟨0, 2, 11, none⟩, ⟨0, 3, 19, none⟩, ⟨0, 4, 3, none⟩, ⟨0, 5, 7, none⟩, ⟨0, 6, 11, none⟩, ⟨0, 7, 19, none⟩, ⟨0, 8, 3, none⟩, ⟨0, 9, 7, none⟩, ⟨0, 10, 11, none⟩, ⟨0, 11, 19, none⟩, ⟨0, 12, 3, none⟩, ⟨0, 13, 7, none⟩, ⟨0, 14, 11, none⟩, ⟨0, 15, 19, none⟩, ⟨1, 0, 3, some 0x5a827999#32⟩, ⟨1, 4, 5, some 0x5a827999#32⟩, ⟨1, 8, 9, some 0x5a827999#32⟩, ⟨1, 12, 13, some 0x5a827999#32⟩, ⟨1, 1, 3, some 0x5a827999#32⟩, ⟨1, 5, 5, some 0x5a827999#32⟩, ⟨1, 9, 9, some 0x5a827999#32⟩, ⟨1, 13, 13, some 0x5a827999#32⟩, ⟨1, 2, 3, some 0x5a827999#32⟩, ⟨1, 6, 5, some 0x5a827999#32⟩, ⟨1, 10, 9, some 0x5a827999#32⟩, ⟨1, 14, 13, some 0x5a827999#32⟩, ⟨1, 3, 3, some 0x5a827999#32⟩, ⟨1, 7, 5, some 0x5a827999#32⟩, ⟨1, 11, 9, some 0x5a827999#32⟩, ⟨1, 15, 13, some 0x5a827999#32⟩, ⟨2, 0, 3, some 0x6ed9eba1#32⟩, ⟨2, 8, 9, some 0x6ed9eba1#32⟩, ⟨2, 4, 11, some 0x6ed9eba1#32⟩, ⟨2, 12, 15, some 0x6ed9eba1#32⟩, ⟨2, 2, 3, some 0x6ed9eba1#32⟩, ⟨2, 10, 9, some 0x6ed9eba1#32⟩, ⟨2, 6, 11, some 0x6ed9eba1#32⟩, ⟨2, 14, 15, some 0x6ed9eba1#32⟩, ⟨2, 1, 3, some 0x6ed9eba1#32⟩, ⟨2, 9, 9, some 0x6ed9eba1#32⟩, ⟨2, 5, 11, some 0x6ed9eba1#32⟩, ⟨2, 13, 15, some 0x6ed9eba1#32⟩, ⟨2, 3, 3, some 0x6ed9eba1#32⟩, ⟨2, 11, 9, some 0x6ed9eba1#32⟩, ⟨2, 7, 11, some 0x6ed9eba1#32⟩, ⟨2, 15, 15, some 0x6ed9eba1#32⟩]
/-- A block mixed into a state. -/
def md4 (h : W4) (m : Vec 32) : W4 :=
  let L := line4 m lin4 h
  ⟨L.x0 + h.x0, L.x1 + h.x1, L.x2 + h.x2, L.x3 + h.x3⟩
structure m38D where
  h : W4
  s : W4
  xb : Vec 8
  nx : Int
  tc : BitVec 64
  v : Vec 8
  X : Vec 32
  o : Nat
  np : Nat
  n : Int
def m38_st (d : m38D) : Fr × List Blk :=
  match d with
  | ⟨h, s, xb, nx, tc, v, X, o, np, n⟩ => (⟨[(.ref (.ptr 0 (.c 0))), (.ref (.sl 1 (.s o) (.s np) none)), (.atom .undef), (.atom .undef), (.atom .undef), (.num (.w32 h.x0)), (.num (.w32 h.x1)), (.num (.w32 h.x2)), (.num (.w32 h.x3)), (.num (.int .i64 (.s n))), (.ref (.ptr 2 (.c 0))), (.atom .undef), (.atom .undef), (.atom .undef), (.atom .undef), (.atom .undef), (.atom .undef), (.atom .undef), (.atom .undef), (.atom .undef), (.atom .undef), (.atom .undef), (.atom .undef), (.atom .undef), (.atom .undef), (.atom .undef), (.atom .undef), (.atom .undef), (.atom .undef)], []⟩, [⟨(.gen ([(.num (.w32 s.x0)), (.num (.w32 s.x1)), (.num (.w32 s.x2)), (.num (.w32 s.x3))] ++ c8v xb 64 ++ [(.num (.int .i64 (.s nx))), (.num (.w64 tc))])), .own⟩, ⟨(.b8 v), .ro⟩, ⟨(.gen (c32v X 16)), .own⟩])
def m38_next (d : m38D) : m38D :=
  match d with
  | ⟨h, s, xb, nx, tc, v, _, o, np, n⟩ => ⟨md4 h (wrd v o), s, xb, nx, tc, v, wrd v o, o + 64, np - 64, n + 64⟩
def m38_rd (F : Fr) (K : List Blk) : Option m38D :=
    match F with
    | ⟨[(.ref (.ptr 0 (.c 0))), (.ref (.sl 1 (.s o) (.s np) none)), (.atom .undef), (.atom .undef), (.atom .undef), (.num (.w32 h0)), (.num (.w32 h1)), (.num (.w32 h2)), (.num (.w32 h3)), (.num (.int .i64 (.s n))), (.ref (.ptr 2 (.c 0))), (.atom .undef), (.atom .undef), (.atom .undef), (.atom .undef), (.atom .undef), (.atom .undef), (.atom .undef), (.atom .undef), (.atom .undef), (.atom .undef), (.atom .undef), (.atom .undef), (.atom .undef), (.atom .undef), (.atom .undef), (.atom .undef), (.atom .undef), (.atom .undef)], []⟩ =>
      match K with
      | [⟨(.gen ((.num (.w32 s0)) :: (.num (.w32 s1)) :: (.num (.w32 s2)) :: (.num (.w32 s3)) :: ys_xb)), .own⟩, ⟨(.b8 v), .ro⟩, ⟨(.gen xs_X), .own⟩] => 
        (match rd8 64 (ys_xb.take 64), ys_xb.drop 64 with
        | some xb, [(.num (.int .i64 (.s nx))), (.num (.w64 tc))] => 
        (match rd32 16 xs_X with
        | some X => some ⟨⟨h0, h1, h2, h3⟩, ⟨s0, s1, s2, s3⟩, xb, nx, tc, v, X, o, np, n⟩
        | none => none)
        | _, _ => none)
      | _ => none
    | _ => none
def m38 : LoopP m38D where
  pat := ⟨[(.ref (.ptr 0 (.c 0))), (.ref (.sl 1 (.s 0) (.s 0) none)), (.atom .undef), (.atom .undef), (.atom .undef), (.num (.w32 0#32)), (.num (.w32 0#32)), (.num (.w32 0#32)), (.num (.w32 0#32)), (.num (.int .i64 (.s 0))), (.ref (.ptr 2 (.c 0))), (.atom .undef), (.atom .undef), (.atom .undef), (.atom .undef), (.atom .undef), (.atom .undef), (.atom .undef), (.atom .undef), (.atom .undef), (.atom .undef), (.atom .undef), (.atom .undef), (.atom .undef), (.atom .undef), (.atom .undef), (.atom .undef), (.atom .undef), (.atom .undef)], []⟩
  patH := [⟨(.gen ([(.num (.w32 0#32)), (.num (.w32 0#32)), (.num (.w32 0#32)), (.num (.w32 0#32))] ++ List.replicate 64 (.num (.w8 0#8)) ++ [(.num (.int .i64 (.s 0))), (.num (.w64 0#64))])), .own⟩, ⟨(.b8 (Vec.zero 8 0)), .ro⟩, ⟨(.gen (List.replicate 16 (.num (.w32 0#32)))), .own⟩]
  gh := []
  read := m38_rd
  st := m38_st
  next := m38_next
  rem := fun ⟨_, _, _, _, _, _, _, _, np, _⟩ => np / 64
  good := fun ⟨_, _, _, _, _, v, _, o, np, n⟩ => decide (o + np ≤ v.n ∧ np ≤ 1099511627776 ∧ 0 ≤ n ∧ n + np ≤ 1099511627776)
  out := .exit 0
  fin := m38_st
theorem m38_round (h s : W4) (xb : Vec 8) (nx : Int) (tc : BitVec 64) (v : Vec 8) (X : Vec 32) (o np : Nat) (n : Int) : ranAs ((m38.st ⟨h, s, xb, nx, tc, v, X, o, np, n⟩).2.length - m38.gh.length) none (m38.st (m38_next ⟨h, s, xb, nx, tc, v, X, o, np, n⟩)) (goL noSpec noLoop 38 0 (m38.st ⟨h, s, xb, nx, tc, v, X, o, np, n⟩).1 ⟨(m38.st ⟨h, s, xb, nx, tc, v, X, o, np, n⟩).2, big, [true], []⟩) = some (.normal, (m38.st (m38_next ⟨h, s, xb, nx, tc, v, X, o, np, n⟩)), [decide (((-9223372036854775808) ≤ (n + 64) ∧ (n + 64) ≤ 9223372036854775807)), ((true && decide ((64 : Int) ≤ ((np : Nat) : Int))) && decide (((np : Nat) : Int) ≤ ((np : Nat) : Int))), decide ((o + 63) < v.n), (true && decide ((63 : Int) < ((np : Nat) : Int))), decide ((o + 62) < v.n), (true && decide ((62 : Int) < ((np : Nat) : Int))), decide ((o + 61) < v.n), (true && decide ((61 : Int) < ((np : Nat) : Int))), decide ((o + 60) < v.n), (true && decide ((60 : Int) < ((np : Nat) : Int))), decide ((o + 59) < v.n), (true && decide ((59 : Int) < ((np : Nat) : Int))), decide ((o + 58) < v.n), (true && decide ((58 : Int) < ((np : Nat) : Int))), decide ((o + 57) < v.n), (true && decide ((57 : Int) < ((np : Nat) : Int))), decide ((o + 56) < v.n), (true && decide ((56 : Int) < ((np : Nat) : Int))), decide ((o + 55) < v.n), (true && decide ((55 : Int) < ((np : Nat) : Int))), decide ((o + 54) < v.n), (true && decide ((54 : Int) < ((np : Nat) : Int))), decide ((o + 53) < v.n), (true && decide ((53 : Int) < ((np : Nat) : Int))), decide ((o + 52) < v.n), (true && decide ((52 : Int) < ((np : Nat) : Int))), decide ((o + 51) < v.n), (true && decide ((51 : Int) < ((np : Nat) : Int))), decide ((o + 50) < v.n), (true && decide ((50 : Int) < ((np : Nat) : Int))), decide ((o + 49) < v.n), (true && decide ((49 : Int) < ((np : Nat) : Int))), decide ((o + 48) < v.n), (true && decide ((48 : Int) < ((np : Nat) : Int))), decide ((o + 47) < v.n), (true && decide ((47 : Int) < ((np : Nat) : Int))), decide ((o + 46) < v.n), (true && decide ((46 : Int) < ((np : Nat) : Int))), decide ((o + 45) < v.n), (true && decide ((45 : Int) < ((np : Nat) : Int))), decide ((o + 44) < v.n), (true && decide ((44 : Int) < ((np : Nat) : Int))), decide ((o + 43) < v.n), (true && decide ((43 : Int) < ((np : Nat) : Int))), decide ((o + 42) < v.n), (true && decide ((42 : Int) < ((np : Nat) : Int))), decide ((o + 41) < v.n), (true && decide ((41 : Int) < ((np : Nat) : Int))), decide ((o + 40) < v.n), (true && decide ((40 : Int) < ((np : Nat) : Int))), decide ((o + 39) < v.n), (true && decide ((39 : Int) < ((np : Nat) : Int))), decide ((o + 38) < v.n), (true && decide ((38 : Int) < ((np : Nat) : Int))), decide ((o + 37) < v.n), (true && decide ((37 : Int) < ((np : Nat) : Int))), decide ((o + 36) < v.n), (true && decide ((36 : Int) < ((np : Nat) : Int))), decide ((o + 35) < v.n), (true && decide ((35 : Int) < ((np : Nat) : Int))), decide ((o + 34) < v.n), (true && decide ((34 : Int) < ((np : Nat) : Int))), decide ((o + 33) < v.n), (true && decide ((33 : Int) < ((np : Nat) : Int))), decide ((o + 32) < v.n), (true && decide ((32 : Int) < ((np : Nat) : Int))), decide ((o + 31) < v.n), (true && decide ((31 : Int) < ((np : Nat) : Int))), decide ((o + 30) < v.n), (true && decide ((30 : Int) < ((np : Nat) : Int))), decide ((o + 29) < v.n), (true && decide ((29 : Int) < ((np : Nat) : Int))), decide ((o + 28) < v.n), (true && decide ((28 : Int) < ((np : Nat) : Int))), decide ((o + 27) < v.n), (true && decide ((27 : Int) < ((np : Nat) : Int))), decide ((o + 26) < v.n), (true && decide ((26 : Int) < ((np : Nat) : Int))), decide ((o + 25) < v.n), (true && decide ((25 : Int) < ((np : Nat) : Int))), decide ((o + 24) < v.n), (true && decide ((24 : Int) < ((np : Nat) : Int))), decide ((o + 23) < v.n), (true && decide ((23 : Int) < ((np : Nat) : Int))), decide ((o + 22) < v.n), (true && decide ((22 : Int) < ((np : Nat) : Int))), decide ((o + 21) < v.n), (true && decide ((21 : Int) < ((np : Nat) : Int))), decide ((o + 20) < v.n), (true && decide ((20 : Int) < ((np : Nat) : Int))), decide ((o + 19) < v.n), (true && decide ((19 : Int) < ((np : Nat) : Int))), decide ((o + 18) < v.n), (true && decide ((18 : Int) < ((np : Nat) : Int))), decide ((o + 17) < v.n), (true && decide ((17 : Int) < ((np : Nat) : Int))), decide ((o + 16) < v.n), (true && decide ((16 : Int) < ((np : Nat) : Int))), decide ((o + 15) < v.n), (true && decide ((15 : Int) < ((np : Nat) : Int))), decide ((o + 14) < v.n), (true && decide ((14 : Int) < ((np : Nat) : Int))), decide ((o + 13) < v.n), (true && decide ((13 : Int) < ((np : Nat) : Int))), decide ((o + 12) < v.n), (true && decide ((12 : Int) < ((np : Nat) : Int))), decide ((o + 11) < v.n), (true && decide ((11 : Int) < ((np : Nat) : Int))), decide ((o + 10) < v.n), (true && decide ((10 : Int) < ((np : Nat) : Int))), decide ((o + 9) < v.n), (true && decide ((9 : Int) < ((np : Nat) : Int))), decide ((o + 8) < v.n), (true && decide ((8 : Int) < ((np : Nat) : Int))), decide ((o + 7) < v.n), (true && decide ((7 : Int) < ((np : Nat) : Int))), decide ((o + 6) < v.n), (true && decide ((6 : Int) < ((np : Nat) : Int))), decide ((o + 5) < v.n), (true && decide ((5 : Int) < ((np : Nat) : Int))), decide ((o + 4) < v.n), (true && decide ((4 : Int) < ((np : Nat) : Int))), decide ((o + 3) < v.n), (true && decide ((3 : Int) < ((np : Nat) : Int))), decide ((o + 2) < v.n), (true && decide ((2 : Int) < ((np : Nat) : Int))), decide ((o + 1) < v.n), (true && decide ((1 : Int) < ((np : Nat) : Int))), decide ((o + 0) < v.n), (true && decide ((0 : Int) < ((np : Nat) : Int))), (decide ((64 : Int) ≤ ((np : Nat) : Int)) == true)]) := by kernel_rfl
theorem m38_end (h s : W4) (xb : Vec 8) (nx : Int) (tc : BitVec 64) (v : Vec 8) (X : Vec 32) (o np : Nat) (n : Int) : ranAs ((m38.st ⟨h, s, xb, nx, tc, v, X, o, np, n⟩).2.length - m38.gh.length) none (m38.fin ⟨h, s, xb, nx, tc, v, X, o, np, n⟩) (goL noSpec noLoop 38 0 (m38.st ⟨h, s, xb, nx, tc, v, X, o, np, n⟩).1 ⟨(m38.st ⟨h, s, xb, nx, tc, v, X, o, np, n⟩).2, big, [false], []⟩) = some (m38.out, (m38.fin ⟨h, s, xb, nx, tc, v, X, o, np, n⟩), [(decide ((64 : Int) ≤ ((np : Nat) : Int)) == false)]) := by kernel_rfl
set_option maxRecDepth 100000 in
theorem m38_read (F : Fr) (K : List Blk) (d : m38D) (h : m38.read F K = some d) : (F, K) = m38.st d := by
  replace h : m38_rd F K = some d := h
  unfold m38_rd at h
  split at h
  case h_2 => cases h
  split at h
  case h_2 => cases h
  split at h
  case h_2 => cases h
  rename_i hr hd
  obtain ⟨he, _⟩ := rd8_eq hr
  have ht := (List.take_append_drop 64 _).symm.trans (congr (congrArg HAppend.hAppend he) hd)
  subst ht
  split at h
  case h_2 => cases h
  rename_i hr0
  obtain ⟨rfl, _⟩ := rd32_eq hr0
  injection h with h; subst h
  rfl
theorem m38_body : RunOk Tryd.prog noGlob (nv 38) (ntmpsIn Tryd.prog 38) (loopIn Tryd.prog 38 0) (goL noSpec noLoop 38 0) := goL_ok no_specs (no_loops _) 38 0 fine38 (by rw [show (loopsIn Tryd.prog 38).length = 5 by kernel_rfl]; omega)
theorem m38_toldL : LoopOk Tryd.prog noGlob (nv 38) (ntmpsIn Tryd.prog 38) (loopIn Tryd.prog 38 0) m38.T.told := by
  refine m38.ran m38_body (by intro k hk; have hk : k ∈ ([] : List Blk) := hk; cases hk) (by intro h; cases h) m38_read ?_ ?_
  · rintro ⟨h, s, xb, nx, tc, v, X, o, np, n⟩ kk hg hr
    have hg : o + np ≤ v.n ∧ np ≤ 1099511627776 ∧ 0 ≤ n ∧ n + np ≤ 1099511627776 := of_decide_eq_true hg
    have hr : np / 64 = kk + 1 := hr
    have en : m38.next ⟨h, s, xb, nx, tc, v, X, o, np, n⟩ = m38_next ⟨h, s, xb, nx, tc, v, X, o, np, n⟩ := rfl
    rw [en]
    refine ⟨⟨[true], none, _, m38_round h s xb nx tc v X o np n, ?_⟩, ?_, ?_, (show (m38.st (m38_next ⟨h, s, xb, nx, tc, v, X, o, np, n⟩)).2.length = 3 by kernel_rfl).trans (show (m38.st ⟨h, s, xb, nx, tc, v, X, o, np, n⟩).2.length = 3 by kernel_rfl).symm⟩
    · repeat' (refine all_true_cons ?_ ?_)
      all_goals first | exact all_true_nil | rfl | (simp only [Bool.and_eq_true, decide_eq_true_eq, beq_iff_eq, beq_true, beq_false, Bool.not_eq_true', decide_eq_false_iff_not, beq_eq_false_iff_ne, ne_eq, Bool.not_eq_false', bne_iff_ne, true_and, and_true]; omega)
    · have e : m38.good (m38_next ⟨h, s, xb, nx, tc, v, X, o, np, n⟩) = decide ((o + 64 : Nat) + (np - 64 : Nat) ≤ v.n ∧ (np - 64 : Nat) ≤ 1099511627776 ∧ 0 ≤ (n + 64 : Int) ∧ (n + 64 : Int) + (np - 64 : Nat) ≤ 1099511627776) := by kernel_rfl
      refine e.trans (decide_eq_true ?_)
      omega
    · have e : m38.rem (m38_next ⟨h, s, xb, nx, tc, v, X, o, np, n⟩) = ((np - 64 : Nat) / 64) := by kernel_rfl
      refine e.trans ?_
      omega
  · rintro ⟨h, s, xb, nx, tc, v, X, o, np, n⟩ hg hr
    have hg : o + np ≤ v.n ∧ np ≤ 1099511627776 ∧ 0 ≤ n ∧ n + np ≤ 1099511627776 := of_decide_eq_true hg
    have hr : np / 64 = 0 := hr
    refine ⟨[false], none, _, m38_end h s xb nx tc v X o np n, ?_⟩
    repeat' (refine all_true_cons ?_ ?_)
    all_goals first | exact all_true_nil | rfl | (simp only [Bool.and_eq_true, decide_eq_true_eq, beq_iff_eq, beq_true, beq_false, Bool.not_eq_true', decide_eq_false_iff_not, beq_eq_false_iff_ne, ne_eq, Bool.not_eq_false', bne_iff_ne, true_and, and_true]; omega)
def m38_spec : LSpec := m38.T.told
theorem m38_told : Told 38 0 m38_spec := m38_toldL.run
def m38s : FuncId → Nat → Option LSpec
  | 38, 7 => some m38_spec
  | _, _ => none
theorem m38s_len : (loopsIn Tryd.prog 38).length = 5 := by kernel_rfl
theorem m38s_ok (spec : FuncId → Option Eng.Spec) : LoopsOk (cfg spec m38s) noGlob := by
  refine LoopsOk.of fun f => ?_
  by_cases hf : f = 38
  · subst hf
    refine .inr ⟨by kernel_rfl, fun i hi sp hsp => ?_⟩
    have hi : i < (loopsIn Tryd.prog 38).length := hi
    rw [m38s_len] at hi
    match i, hi with
    | 0, _ =>
      have e : (firstRid (loopIn Tryd.prog 38 0)).bind (m38s 38) = some m38_spec := by kernel_rfl
      obtain rfl := Option.some.inj (e.symm.trans hsp)
      exact m38_told
    | 1, _ =>
      have e : (firstRid (loopIn Tryd.prog 38 1)).bind (m38s 38) = none := by kernel_rfl
      have hsp : (firstRid (loopIn Tryd.prog 38 1)).bind (m38s 38) = some sp := hsp
      rw [e] at hsp; cases hsp
    | 2, _ =>
      have e : (firstRid (loopIn Tryd.prog 38 2)).bind (m38s 38) = none := by kernel_rfl
      have hsp : (firstRid (loopIn Tryd.prog 38 2)).bind (m38s 38) = some sp := hsp
      rw [e] at hsp; cases hsp
    | 3, _ =>
      have e : (firstRid (loopIn Tryd.prog 38 3)).bind (m38s 38) = none := by kernel_rfl
      have hsp : (firstRid (loopIn Tryd.prog 38 3)).bind (m38s 38) = some sp := hsp
      rw [e] at hsp; cases hsp
    | 4, _ =>
      have e : (firstRid (loopIn Tryd.prog 38 4)).bind (m38s 38) = none := by kernel_rfl
      have hsp : (firstRid (loopIn Tryd.prog 38 4)).bind (m38s 38) = some sp := hsp
      rw [e] at hsp; cases hsp
  · refine .inl fun r => ?_
    show m38s f r = none
    unfold m38s
    split
    · exact absurd rfl hf
    · rfl
def cpv (x : Vec 8) : Vec 8 := Vec.of ((List.range 64).map fun i => x.l.getD i 0#8)
theorem c8v_cpv (x : Vec 8) : c8v (cpv x) 64 = c8v x 64 := by
  refine List.map_congr_left fun i hi => ?_
  have hi := List.mem_range.1 hi
  have e : (cpv x).l.getD i 0#8 = x.l.getD i 0#8 := by
    show ((List.range 64).map fun i => x.l.getD i 0#8).getD i 0#8 = _
    simp [List.getD_eq_getElem?_getD, hi]
  rw [e]
def m38z (h : W4) (xb : Vec 8) (nx : Int) (tc : BitVec 64) (v : Vec 8) (o np : Nat) : m38D := iter m38_next (np / 64) ⟨h, h, cpv xb, nx, tc, v, Vec.of (List.replicate 16 0#32), o, np, 0⟩
/-- All blocks of a row mixed into a state. -/
def mdAll (h : W4) (v : Vec 8) (o : Nat) : Nat → W4
  | 0 => h
  | k + 1 => md4 (mdAll h v o k) (wrd v (o + 64 * k))
theorem m38_it (h s : W4) (xb : Vec 8) (nx : Int) (tc : BitVec 64) (v : Vec 8) (X : Vec 32) (o np : Nat) : ∀ k : Nat, 64 * k ≤ np → ∃ Y, iter m38_next k ⟨h, s, xb, nx, tc, v, X, o, np, 0⟩ = ⟨mdAll h v o k, s, xb, nx, tc, v, Y, o + 64 * k, np - 64 * k, (64 * k : Nat)⟩
  | 0, _ => ⟨X, rfl⟩
  | k + 1, hk => by
    obtain ⟨Y, e⟩ := m38_it h s xb nx tc v X o np k (by omega)
    refine ⟨wrd v (o + 64 * k), ?_⟩
    rw [iter_succ, e]
    show (⟨md4 (mdAll h v o k) (wrd v (o + 64 * k)), s, xb, nx, tc, v, wrd v (o + 64 * k), o + 64 * k + 64, np - 64 * k - 64, ((64 * k : Nat) : Int) + 64⟩ : m38D) = _
    rw [show o + 64 * k + 64 = o + 64 * (k + 1) by omega, show np - 64 * k - 64 = np - 64 * (k + 1) by omega, show ((64 * k : Nat) : Int) + 64 = ((64 * (k + 1) : Nat) : Int) by omega]
    rfl
theorem m38z_eq (h : W4) (xb : Vec 8) (nx : Int) (tc : BitVec 64) (v : Vec 8) (o np : Nat) : (m38z h xb nx tc v o np).h = mdAll h v o (np / 64) ∧ (m38z h xb nx tc v o np).xb = cpv xb ∧ (m38z h xb nx tc v o np).nx = nx ∧ (m38z h xb nx tc v o np).tc = tc ∧ (m38z h xb nx tc v o np).n = (64 * (np / 64) : Nat) := by
  obtain ⟨Y, e⟩ := m38_it h h (cpv xb) nx tc v (Vec.of (List.replicate 16 0#32)) o np (np / 64) (by omega)
  unfold m38z
  rw [e]
  exact ⟨rfl, rfl, rfl, rfl, rfl⟩
structure c38D where
  h : W4
  xb : Vec 8
  nx : Int
  tc : BitVec 64
  v : Vec 8
  o : Nat
  np : Nat
def c38_rd (a : List AV) (K : List Blk) : Option c38D :=
    match a with
    | [(.ref (.ptr 0 (.c 0))), (.ref (.sl 1 (.s o) (.s np) none))] =>
      match K with
      | [⟨(.gen ((.num (.w32 h0)) :: (.num (.w32 h1)) :: (.num (.w32 h2)) :: (.num (.w32 h3)) :: ys_xb)), .own⟩, ⟨(.b8 v), .ro⟩] => 
        (match rd8 64 (ys_xb.take 64), ys_xb.drop 64 with
        | some xb, [(.num (.int .i64 (.s nx))), (.num (.w64 tc))] => some ⟨⟨h0, h1, h2, h3⟩, xb, nx, tc, v, o, np⟩
        | _, _ => none)
      | _ => none
    | _ => none
def c38 : Ct c38D where
  pat := [(.ref (.ptr 0 (.c 0))), (.ref (.sl 1 (.s 0) (.s 0) none))]
  patH := [⟨(.gen ([(.num (.w32 0#32)), (.num (.w32 0#32)), (.num (.w32 0#32)), (.num (.w32 0#32))] ++ List.replicate 64 (.num (.w8 0#8)) ++ [(.num (.int .i64 (.s 0))), (.num (.w64 0#64))])), .own⟩, ⟨(.b8 (Vec.zero 8 0)), .ro⟩]
  read := c38_rd
  args := fun ⟨_, _, _, _, _, o, np⟩ => [(.ref (.ptr 0 (.c 0))), (.ref (.sl 1 (.s o) (.s np) none))]
  heap := fun ⟨h, xb, nx, tc, v, _, _⟩ => [⟨(.gen ([(.num (.w32 h.x0)), (.num (.w32 h.x1)), (.num (.w32 h.x2)), (.num (.w32 h.x3))] ++ c8v xb 64 ++ [(.num (.int .i64 (.s nx))), (.num (.w64 tc))])), .own⟩, ⟨(.b8 v), .ro⟩]
  out := fun ⟨h, xb, nx, tc, v, o, np⟩ => [⟨(.gen ([(.num (.w32 ((mdAll h v o (np / 64))).x0)), (.num (.w32 ((mdAll h v o (np / 64))).x1)), (.num (.w32 ((mdAll h v o (np / 64))).x2)), (.num (.w32 ((mdAll h v o (np / 64))).x3))] ++ c8v xb 64 ++ [(.num (.int .i64 (.s nx))), (.num (.w64 tc))])), .own⟩, ⟨(.b8 v), .ro⟩]
  val := fun ⟨_, _, _, _, _, _, np⟩ => (.num (.int .i64 (.s (64 * (np / 64) : Nat))))
  good := fun ⟨_, _, _, _, v, o, np⟩ => decide (o + np ≤ v.n ∧ np ≤ 1099511627776)
theorem c38_run (h : W4) (xb : Vec 8) (nx : Int) (tc : BitVec 64) (v : Vec 8) (o np : Nat) : endsAs (c38.heap ⟨h, xb, nx, tc, v, o, np⟩).length (some [0, 1]) [⟨(.gen ([(.num (.w32 ((m38z h xb nx tc v o np)).h.x0)), (.num (.w32 ((m38z h xb nx tc v o np)).h.x1)), (.num (.w32 ((m38z h xb nx tc v o np)).h.x2)), (.num (.w32 ((m38z h xb nx tc v o np)).h.x3))] ++ c8v ((m38z h xb nx tc v o np)).xb 64 ++ [(.num (.int .i64 (.s ((m38z h xb nx tc v o np)).nx))), (.num (.w64 ((m38z h xb nx tc v o np)).tc))])), .own⟩, ⟨(.b8 v), .ro⟩] (.num (.int .i64 (.s ((m38z h xb nx tc v o np)).n))) (goB noSpec m38s 38 (c38.args ⟨h, xb, nx, tc, v, o, np⟩) ⟨c38.heap ⟨h, xb, nx, tc, v, o, np⟩, big, [], []⟩) = some ([⟨(.gen ([(.num (.w32 ((m38z h xb nx tc v o np)).h.x0)), (.num (.w32 ((m38z h xb nx tc v o np)).h.x1)), (.num (.w32 ((m38z h xb nx tc v o np)).h.x2)), (.num (.w32 ((m38z h xb nx tc v o np)).h.x3))] ++ c8v ((m38z h xb nx tc v o np)).xb 64 ++ [(.num (.int .i64 (.s ((m38z h xb nx tc v o np)).nx))), (.num (.w64 ((m38z h xb nx tc v o np)).tc))])), .own⟩, ⟨(.b8 v), .ro⟩], (.num (.int .i64 (.s ((m38z h xb nx tc v o np)).n))), [m38.good ⟨h, h, cpv xb, nx, tc, v, Vec.of (List.replicate 16 0#32), o, np, 0⟩]) := by kernel_rfl
set_option maxRecDepth 100000 in
theorem c38_read (a : List AV) (K : List Blk) (d : c38D) (h : c38.read a K = some d) : a = c38.args d ∧ K = c38.heap d := by
  replace h : c38_rd a K = some d := h
  unfold c38_rd at h
  split at h
  case h_2 => cases h
  split at h
  case h_2 => cases h
  split at h
  case h_2 => cases h
  rename_i hr hd
  obtain ⟨he, _⟩ := rd8_eq hr
  have ht := (List.take_append_drop 64 _).symm.trans (congr (congrArg HAppend.hAppend he) hd)
  subst ht
  injection h with h; subst h
  exact ⟨rfl, rfl⟩
theorem c38_ok : SpecOk Tryd.prog noGlob 38 c38.spec := by
  refine c38.ok (goB_ok no_specs (m38s_ok _)) c38_read ?_
  rintro ⟨h, xb, nx, tc, v, o, np⟩ hg
  have hg : o + np ≤ v.n ∧ np ≤ 1099511627776 := of_decide_eq_true hg
  have eo : c38.out ⟨h, xb, nx, tc, v, o, np⟩ = [⟨(.gen ([(.num (.w32 ((m38z h xb nx tc v o np)).h.x0)), (.num (.w32 ((m38z h xb nx tc v o np)).h.x1)), (.num (.w32 ((m38z h xb nx tc v o np)).h.x2)), (.num (.w32 ((m38z h xb nx tc v o np)).h.x3))] ++ c8v ((m38z h xb nx tc v o np)).xb 64 ++ [(.num (.int .i64 (.s ((m38z h xb nx tc v o np)).nx))), (.num (.w64 ((m38z h xb nx tc v o np)).tc))])), .own⟩, ⟨(.b8 v), .ro⟩] := by
    obtain ⟨e1, e2, e3, e4, e5⟩ := m38z_eq h xb nx tc v o np
    rw [e1, e2, e3, e4, c8v_cpv]
    rfl
  have ev : c38.val ⟨h, xb, nx, tc, v, o, np⟩ = (.num (.int .i64 (.s ((m38z h xb nx tc v o np)).n))) := by
    obtain ⟨e1, e2, e3, e4, e5⟩ := m38z_eq h xb nx tc v o np
    rw [e5]
    rfl
  rw [eo, ev]
  refine ⟨[], (some [0, 1]), _, c38_run h xb nx tc v o np, ?_⟩
  refine all_true_cons ?_ all_true_nil
  refine (show m38.good ⟨h, h, cpv xb, nx, tc, v, Vec.of (List.replicate 16 0#32), o, np, 0⟩ = decide (o + np ≤ v.n ∧ np ≤ 1099511627776 ∧ 0 ≤ (0 : Int) ∧ (0 : Int) + (np : Nat) ≤ 1099511627776) by kernel_rfl).trans (decide_eq_true ?_)
  omega
def specs28 : FuncId → Option Eng.Spec
  | 38 => some c38.spec
  | _ => none
theorem specs28_ok : ∀ f sp, specs28 f = some sp → SpecOk Tryd.prog noGlob f sp := by
  intro f sp h
  unfold specs28 at h
  split at h
  · injection h with h; subst h; exact c38_ok
  · cases h
structure c14D where
  h : W4
  v : Vec 8
  o : Nat
  nb : Nat
def c14_rd (a : List AV) (K : List Blk) : Option c14D :=
    match a with
    | [(.agg [(.num (.w32 h0)), (.num (.w32 h1)), (.num (.w32 h2)), (.num (.w32 h3))]), (.ref (.sl 0 (.s o) (.s nb) none))] =>
      match K with
      | [⟨(.b8 v), .ro⟩] => some ⟨⟨h0, h1, h2, h3⟩, v, o, nb⟩
      | _ => none
    | _ => none
def c14 : Ct c14D where
  pat := [(.agg [(.num (.w32 0#32)), (.num (.w32 0#32)), (.num (.w32 0#32)), (.num (.w32 0#32))]), (.ref (.sl 0 (.s 0) (.s 0) none))]
  patH := [⟨(.b8 (Vec.zero 8 0)), .ro⟩]
  read := c14_rd
  args := fun ⟨h, _, o, nb⟩ => [(.agg [(.num (.w32 h.x0)), (.num (.w32 h.x1)), (.num (.w32 h.x2)), (.num (.w32 h.x3))]), (.ref (.sl 0 (.s o) (.s nb) none))]
  heap := fun ⟨_, v, _, _⟩ => [⟨(.b8 v), .ro⟩]
  out := fun ⟨_, v, _, _⟩ => [⟨(.b8 v), .ro⟩]
  val := fun ⟨h, v, o, nb⟩ => (.obj .tup [(.agg [(.num (.w32 ((mdAll h v o (nb / 64))).x0)), (.num (.w32 ((mdAll h v o (nb / 64))).x1)), (.num (.w32 ((mdAll h v o (nb / 64))).x2)), (.num (.w32 ((mdAll h v o (nb / 64))).x3))]), (.num (.int .i64 (.s (64 * (nb / 64) : Nat))))])
  good := fun ⟨_, v, o, nb⟩ => decide (o + nb ≤ v.n ∧ nb ≤ 1099511627776)
theorem c14_run (h : W4) (v : Vec 8) (o nb : Nat) : endsAs (c14.heap ⟨h, v, o, nb⟩).length (some [0]) (c14.out ⟨h, v, o, nb⟩) (c14.val ⟨h, v, o, nb⟩) (goB specs28 noLoop 14 (c14.args ⟨h, v, o, nb⟩) ⟨c14.heap ⟨h, v, o, nb⟩, big, [], []⟩) = some ((c14.out ⟨h, v, o, nb⟩), (c14.val ⟨h, v, o, nb⟩), [decide (((o + nb) ≤ v.n ∧ nb ≤ 1099511627776))]) := by kernel_rfl
set_option maxRecDepth 100000 in
theorem c14_read (a : List AV) (K : List Blk) (d : c14D) (h : c14.read a K = some d) : a = c14.args d ∧ K = c14.heap d := by
  replace h : c14_rd a K = some d := h
  unfold c14_rd at h
  split at h
  case h_2 => cases h
  split at h
  case h_2 => cases h
  injection h with h; subst h
  exact ⟨rfl, rfl⟩
theorem c14_ok : SpecOk Tryd.prog noGlob 14 c14.spec := by
  refine c14.ok (goB_ok specs28_ok (no_loops _)) c14_read ?_
  rintro ⟨h, v, o, nb⟩ hg
  have hg : o + nb ≤ v.n ∧ nb ≤ 1099511627776 := of_decide_eq_true hg
  refine ⟨[], (some [0]), _, c14_run h v o nb, ?_⟩
  repeat' (refine all_true_cons ?_ ?_)
  all_goals first | exact all_true_nil | rfl | (simp only [Bool.and_eq_true, decide_eq_true_eq, beq_iff_eq, beq_true, beq_false, Bool.not_eq_true', decide_eq_false_iff_not, beq_eq_false_iff_ne, ne_eq, Bool.not_eq_false', bne_iff_ne, true_and, and_true]; omega)
end Go.Proofs.YtaklljigoajpcaaDoor.M

/- bcrypt's letters read again: eight at once, four at once. -/
import Derived.Test.YtlelgligkkegnaaE1D
namespace Go.Proofs.Ytlelgligkkegnaa
open Go.Eng
set_option linter.unusedSimpArgs false
set_option linter.unusedVariables false
/-- Eight letters' bits, four letters' bits. -/
def d64 (e src : Vec 8) (o : Nat) : BitVec 64 := (((((((((dx e src (o + 0)).setWidth 64) <<< 58 ||| ((dx e src (o + 1)).setWidth 64) <<< 52) ||| ((dx e src (o + 2)).setWidth 64) <<< 46) ||| ((dx e src (o + 3)).setWidth 64) <<< 40) ||| ((dx e src (o + 4)).setWidth 64) <<< 34) ||| ((dx e src (o + 5)).setWidth 64) <<< 28) ||| ((dx e src (o + 6)).setWidth 64) <<< 22) ||| ((dx e src (o + 7)).setWidth 64) <<< 16)
def d32 (e src : Vec 8) (o : Nat) : BitVec 32 := (((((dx e src (o + 0)).setWidth 32) <<< 26 ||| ((dx e src (o + 1)).setWidth 32) <<< 20) ||| ((dx e src (o + 2)).setWidth 32) <<< 14) ||| ((dx e src (o + 3)).setWidth 32) <<< 8)
def put64 (d : Vec 8) (o : Nat) (w : BitVec 64) : Vec 8 := ((((((((d.set (o + 0) ((w >>> 56).setWidth 8)).set (o + 1) ((w >>> 48).setWidth 8)).set (o + 2) ((w >>> 40).setWidth 8)).set (o + 3) ((w >>> 32).setWidth 8)).set (o + 4) ((w >>> 24).setWidth 8)).set (o + 5) ((w >>> 16).setWidth 8)).set (o + 6) ((w >>> 8).setWidth 8)).set (o + 7) (w.setWidth 8))
def put32 (d : Vec 8) (o : Nat) (w : BitVec 32) : Vec 8 := ((((d.set (o + 0) ((w >>> 24).setWidth 8)).set (o + 1) ((w >>> 16).setWidth 8)).set (o + 2) ((w >>> 8).setWidth 8)).set (o + 3) (w.setWidth 8))
theorem put64_n (d : Vec 8) (o : Nat) (w : BitVec 64) : (put64 d o w).n = d.n := rfl
theorem put32_n (d : Vec 8) (o : Nat) (w : BitVec 32) : (put32 d o w).n = d.n := rfl
theorem dx_cp (e src : Vec 8) (o : Nat) : dx (cp e) src o = dx e src o := by
  unfold dx
  rw [cp_cp]
theorem or63 {a b : BitVec 8} (ha : a.toNat < 64) (hb : b.toNat < 64) : (a ||| b).toNat < 64 := by
  rw [BitVec.toNat_or]
  exact Nat.or_lt_two_pow (n := 6) ha hb
theorem no255 {a : BitVec 8} (ha : a.toNat < 64) : (a == 255#8) = false := by
  refine bF fun h => ?_
  rw [h] at ha
  exact absurd ha (by decide)
theorem or8 (e src : Vec 8) (o : Nat) (h : ∀ j, j < 8 → (dx e src (o + j)).toNat < 64) : ((((((((dx e src (o + 0) ||| dx e src (o + 1)) ||| dx e src (o + 2)) ||| dx e src (o + 3)) ||| dx e src (o + 4)) ||| dx e src (o + 5)) ||| dx e src (o + 6)) ||| dx e src (o + 7)) == 255#8) = false :=
  no255 (or63 (or63 (or63 (or63 (or63 (or63 (or63 (h 0 (by omega)) (h 1 (by omega))) (h 2 (by omega))) (h 3 (by omega))) (h 4 (by omega))) (h 5 (by omega))) (h 6 (by omega))) (h 7 (by omega)))
theorem or4 (e src : Vec 8) (o : Nat) (h : ∀ j, j < 4 → (dx e src (o + j)).toNat < 64) : ((((dx e src (o + 0) ||| dx e src (o + 1)) ||| dx e src (o + 2)) ||| dx e src (o + 3)) == 255#8) = false :=
  no255 (or63 (or63 (or63 (h 0 (by omega)) (h 1 (by omega))) (h 2 (by omega))) (h 3 (by omega)))
structure a17D where
  e : Vec 8
  dst : Vec 8
  src : Vec 8
  od : Nat
  nd : Nat
  os : Nat
  ns : Nat
  n : Int
  si : Int
def a17_st (d : a17D) : Fr × List Blk :=
  match d with
  | ⟨e, dst, src, od, nd, os, ns, n, si⟩ => (⟨[(.ref (.ptr 0 (.c 0))), (.ref (.sl 1 (.s od) (.s nd) none)), (.ref (.sl 2 (.s os) (.s ns) none)), (.atom .undef), (.atom .undef), (.atom .undef), (.num (.int .i64 (.s n))), (.atom .nili), (.num (.int .i64 (.s si))), (.atom .undef), (.atom .undef), (.atom .undef), (.atom .undef), (.atom .undef), (.atom .undef), (.atom .undef), (.atom .undef), (.atom .undef)], []⟩, [⟨(.gen ([] ++ c8v e 320 ++ [(.num (.int .i32 (.c 61))), (.atom (.bool (.c false)))])), .own⟩, ⟨(.b8 dst), .own⟩, ⟨(.b8 src), .ro⟩])
def a17_next (d : a17D) : a17D :=
  match d with
  | ⟨e, dst, src, od, nd, os, ns, n, si⟩ => ⟨cp e, put64 dst (od + n.toNat) (d64 e src (os + si.toNat)), src, od, nd, os, ns, n + 6, si + 8⟩
def a17_rd (F : Fr) (K : List Blk) : Option a17D :=
    match F with
    | ⟨[(.ref (.ptr 0 (.c 0))), (.ref (.sl 1 (.s od) (.s nd) none)), (.ref (.sl 2 (.s os) (.s ns) none)), (.atom .undef), (.atom .undef), (.atom .undef), (.num (.int .i64 (.s n))), (.atom .nili), (.num (.int .i64 (.s si))), (.atom .undef), (.atom .undef), (.atom .undef), (.atom .undef), (.atom .undef), (.atom .undef), (.atom .undef), (.atom .undef), (.atom .undef)], []⟩ =>
      match K with
      | [⟨(.gen (ys_e)), .own⟩, ⟨(.b8 dst), .own⟩, ⟨(.b8 src), .ro⟩] => 
        (match rd8 320 (ys_e.take 320), ys_e.drop 320 with
        | some e, [(.num (.int .i32 (.c 61))), (.atom (.bool (.c false)))] => some ⟨e, dst, src, od, nd, os, ns, n, si⟩
        | _, _ => none)
      | _ => none
    | _ => none
def a17 : LoopP a17D where
  pat := ⟨[(.ref (.ptr 0 (.c 0))), (.ref (.sl 1 (.s 0) (.s 0) none)), (.ref (.sl 2 (.s 0) (.s 0) none)), (.atom .undef), (.atom .undef), (.atom .undef), (.num (.int .i64 (.s 0))), (.atom .nili), (.num (.int .i64 (.s 0))), (.atom .undef), (.atom .undef), (.atom .undef), (.atom .undef), (.atom .undef), (.atom .undef), (.atom .undef), (.atom .undef), (.atom .undef)], []⟩
  patH := [⟨(.gen ([] ++ List.replicate 320 (.num (.w8 0#8)) ++ [(.num (.int .i32 (.c 61))), (.atom (.bool (.c false)))])), .own⟩, ⟨(.b8 (Vec.zero 8 0)), .own⟩, ⟨(.b8 (Vec.zero 8 0)), .ro⟩]
  gh := []
  read := a17_rd
  st := a17_st
  next := a17_next
  rem := fun ⟨_, _, _, _, _, _, ns, _, si⟩ => (((ns : Int) - si).toNat / 4 - 1) / 2
  good := fun ⟨e, dst, src, od, nd, os, ns, n, si⟩ => decide (os + ns ≤ src.n ∧ od + nd ≤ dst.n ∧ ns % 4 = 0 ∧ nd * 4 = ns * 3 ∧ n * 4 = si * 3 ∧ 0 ≤ si ∧ si % 4 = 0 ∧ si + 4 ≤ ns ∧ ns ≤ 1000000 ∧ ∀ k, k < ns - 4 → (dx e src (os + k)).toNat < 64)
  out := .exit 0
  fin := a17_st
theorem a17_round (e dst src : Vec 8) (od nd os ns : Nat) (n si : Int) : ranAs ((a17.st ⟨e, dst, src, od, nd, os, ns, n, si⟩).2.length - a17.gh.length) none (a17.st (a17_next ⟨e, dst, src, od, nd, os, ns, n, si⟩)) (goL noSpec noLoop 17 0 (a17.st ⟨e, dst, src, od, nd, os, ns, n, si⟩).1 ⟨(a17.st ⟨e, dst, src, od, nd, os, ns, n, si⟩).2, big, [true, true, true, true, true, true, true, false], []⟩) = some (.normal, (a17.st (a17_next ⟨e, dst, src, od, nd, os, ns, n, si⟩)), [decide (((-9223372036854775808) ≤ (si + 8) ∧ (si + 8) ≤ 9223372036854775807)), decide (((-9223372036854775808) ≤ (n + 6) ∧ (n + 6) ≤ 9223372036854775807)), decide (((od + ((n) : Int).toNat) + 7) < dst.n), (true && decide ((7 : Int) < (((((((nd : Nat) : Int)) : Int).toNat - ((n) : Int).toNat) : Nat) : Int))), decide (((od + ((n) : Int).toNat) + 6) < dst.n), (true && decide ((6 : Int) < (((((((nd : Nat) : Int)) : Int).toNat - ((n) : Int).toNat) : Nat) : Int))), decide (((od + ((n) : Int).toNat) + 5) < dst.n), (true && decide ((5 : Int) < (((((((nd : Nat) : Int)) : Int).toNat - ((n) : Int).toNat) : Nat) : Int))), decide (((od + ((n) : Int).toNat) + 4) < dst.n), (true && decide ((4 : Int) < (((((((nd : Nat) : Int)) : Int).toNat - ((n) : Int).toNat) : Nat) : Int))), decide (((od + ((n) : Int).toNat) + 3) < dst.n), (true && decide ((3 : Int) < (((((((nd : Nat) : Int)) : Int).toNat - ((n) : Int).toNat) : Nat) : Int))), decide (((od + ((n) : Int).toNat) + 2) < dst.n), (true && decide ((2 : Int) < (((((((nd : Nat) : Int)) : Int).toNat - ((n) : Int).toNat) : Nat) : Int))), decide (((od + ((n) : Int).toNat) + 1) < dst.n), (true && decide ((1 : Int) < (((((((nd : Nat) : Int)) : Int).toNat - ((n) : Int).toNat) : Nat) : Int))), decide (((od + ((n) : Int).toNat) + 0) < dst.n), (true && decide ((0 : Int) < (((((((nd : Nat) : Int)) : Int).toNat - ((n) : Int).toNat) : Nat) : Int))), decide (((od + ((n) : Int).toNat) + 7) < dst.n), (true && decide ((7 : Int) < (((((((nd : Nat) : Int)) : Int).toNat - ((n) : Int).toNat) : Nat) : Int))), ((decide ((0 : Int) ≤ n) && decide (n ≤ ((nd : Nat) : Int))) && decide (((nd : Nat) : Int) ≤ ((nd : Nat) : Int))), (((((((((((cp e).l.getD ((64 + (((((((src.l.getD ((os + ((si) : Int).toNat) + 0) (0#8))).toNat : Nat) : Int)) : Int).toNat * 1)) - 0) (0#8)) ||| ((cp e).l.getD ((64 + (((((((src.l.getD ((os + ((si) : Int).toNat) + 1) (0#8))).toNat : Nat) : Int)) : Int).toNat * 1)) - 0) (0#8))) ||| ((cp e).l.getD ((64 + (((((((src.l.getD ((os + ((si) : Int).toNat) + 2) (0#8))).toNat : Nat) : Int)) : Int).toNat * 1)) - 0) (0#8))) ||| ((cp e).l.getD ((64 + (((((((src.l.getD ((os + ((si) : Int).toNat) + 3) (0#8))).toNat : Nat) : Int)) : Int).toNat * 1)) - 0) (0#8))) ||| ((cp e).l.getD ((64 + (((((((src.l.getD ((os + ((si) : Int).toNat) + 4) (0#8))).toNat : Nat) : Int)) : Int).toNat * 1)) - 0) (0#8))) ||| ((cp e).l.getD ((64 + (((((((src.l.getD ((os + ((si) : Int).toNat) + 5) (0#8))).toNat : Nat) : Int)) : Int).toNat * 1)) - 0) (0#8))) ||| ((cp e).l.getD ((64 + (((((((src.l.getD ((os + ((si) : Int).toNat) + 6) (0#8))).toNat : Nat) : Int)) : Int).toNat * 1)) - 0) (0#8))) ||| ((cp e).l.getD ((64 + (((((((src.l.getD ((os + ((si) : Int).toNat) + 7) (0#8))).toNat : Nat) : Int)) : Int).toNat * 1)) - 0) (0#8))) == (255#8)) == false), decide (((0 : Nat) ≤ (64 + (((((((src.l.getD ((os + ((si) : Int).toNat) + 7) (0#8))).toNat : Nat) : Int)) : Int).toNat * 1)) ∧ ((64 + (((((((src.l.getD ((os + ((si) : Int).toNat) + 7) (0#8))).toNat : Nat) : Int)) : Int).toNat * 1)) + 1) ≤ 320)), (decide ((0 : Int) ≤ ((((src.l.getD ((os + ((si) : Int).toNat) + 7) (0#8))).toNat : Nat) : Int)) && decide (((((src.l.getD ((os + ((si) : Int).toNat) + 7) (0#8))).toNat : Nat) : Int) < ((256 : Nat) : Int))), decide (((os + ((si) : Int).toNat) + 7) < src.n), (true && decide ((7 : Int) < ((((((si + 8)) : Int).toNat - ((si) : Int).toNat) : Nat) : Int))), decide (((0 : Nat) ≤ (64 + (((((((src.l.getD ((os + ((si) : Int).toNat) + 6) (0#8))).toNat : Nat) : Int)) : Int).toNat * 1)) ∧ ((64 + (((((((src.l.getD ((os + ((si) : Int).toNat) + 6) (0#8))).toNat : Nat) : Int)) : Int).toNat * 1)) + 1) ≤ 320)), (decide ((0 : Int) ≤ ((((src.l.getD ((os + ((si) : Int).toNat) + 6) (0#8))).toNat : Nat) : Int)) && decide (((((src.l.getD ((os + ((si) : Int).toNat) + 6) (0#8))).toNat : Nat) : Int) < ((256 : Nat) : Int))), decide (((os + ((si) : Int).toNat) + 6) < src.n), (true && decide ((6 : Int) < ((((((si + 8)) : Int).toNat - ((si) : Int).toNat) : Nat) : Int))), decide (((0 : Nat) ≤ (64 + (((((((src.l.getD ((os + ((si) : Int).toNat) + 5) (0#8))).toNat : Nat) : Int)) : Int).toNat * 1)) ∧ ((64 + (((((((src.l.getD ((os + ((si) : Int).toNat) + 5) (0#8))).toNat : Nat) : Int)) : Int).toNat * 1)) + 1) ≤ 320)), (decide ((0 : Int) ≤ ((((src.l.getD ((os + ((si) : Int).toNat) + 5) (0#8))).toNat : Nat) : Int)) && decide (((((src.l.getD ((os + ((si) : Int).toNat) + 5) (0#8))).toNat : Nat) : Int) < ((256 : Nat) : Int))), decide (((os + ((si) : Int).toNat) + 5) < src.n), (true && decide ((5 : Int) < ((((((si + 8)) : Int).toNat - ((si) : Int).toNat) : Nat) : Int))), decide (((0 : Nat) ≤ (64 + (((((((src.l.getD ((os + ((si) : Int).toNat) + 4) (0#8))).toNat : Nat) : Int)) : Int).toNat * 1)) ∧ ((64 + (((((((src.l.getD ((os + ((si) : Int).toNat) + 4) (0#8))).toNat : Nat) : Int)) : Int).toNat * 1)) + 1) ≤ 320)), (decide ((0 : Int) ≤ ((((src.l.getD ((os + ((si) : Int).toNat) + 4) (0#8))).toNat : Nat) : Int)) && decide (((((src.l.getD ((os + ((si) : Int).toNat) + 4) (0#8))).toNat : Nat) : Int) < ((256 : Nat) : Int))), decide (((os + ((si) : Int).toNat) + 4) < src.n), (true && decide ((4 : Int) < ((((((si + 8)) : Int).toNat - ((si) : Int).toNat) : Nat) : Int))), decide (((0 : Nat) ≤ (64 + (((((((src.l.getD ((os + ((si) : Int).toNat) + 3) (0#8))).toNat : Nat) : Int)) : Int).toNat * 1)) ∧ ((64 + (((((((src.l.getD ((os + ((si) : Int).toNat) + 3) (0#8))).toNat : Nat) : Int)) : Int).toNat * 1)) + 1) ≤ 320)), (decide ((0 : Int) ≤ ((((src.l.getD ((os + ((si) : Int).toNat) + 3) (0#8))).toNat : Nat) : Int)) && decide (((((src.l.getD ((os + ((si) : Int).toNat) + 3) (0#8))).toNat : Nat) : Int) < ((256 : Nat) : Int))), decide (((os + ((si) : Int).toNat) + 3) < src.n), (true && decide ((3 : Int) < ((((((si + 8)) : Int).toNat - ((si) : Int).toNat) : Nat) : Int))), decide (((0 : Nat) ≤ (64 + (((((((src.l.getD ((os + ((si) : Int).toNat) + 2) (0#8))).toNat : Nat) : Int)) : Int).toNat * 1)) ∧ ((64 + (((((((src.l.getD ((os + ((si) : Int).toNat) + 2) (0#8))).toNat : Nat) : Int)) : Int).toNat * 1)) + 1) ≤ 320)), (decide ((0 : Int) ≤ ((((src.l.getD ((os + ((si) : Int).toNat) + 2) (0#8))).toNat : Nat) : Int)) && decide (((((src.l.getD ((os + ((si) : Int).toNat) + 2) (0#8))).toNat : Nat) : Int) < ((256 : Nat) : Int))), decide (((os + ((si) : Int).toNat) + 2) < src.n), (true && decide ((2 : Int) < ((((((si + 8)) : Int).toNat - ((si) : Int).toNat) : Nat) : Int))), decide (((0 : Nat) ≤ (64 + (((((((src.l.getD ((os + ((si) : Int).toNat) + 1) (0#8))).toNat : Nat) : Int)) : Int).toNat * 1)) ∧ ((64 + (((((((src.l.getD ((os + ((si) : Int).toNat) + 1) (0#8))).toNat : Nat) : Int)) : Int).toNat * 1)) + 1) ≤ 320)), (decide ((0 : Int) ≤ ((((src.l.getD ((os + ((si) : Int).toNat) + 1) (0#8))).toNat : Nat) : Int)) && decide (((((src.l.getD ((os + ((si) : Int).toNat) + 1) (0#8))).toNat : Nat) : Int) < ((256 : Nat) : Int))), decide (((os + ((si) : Int).toNat) + 1) < src.n), (true && decide ((1 : Int) < ((((((si + 8)) : Int).toNat - ((si) : Int).toNat) : Nat) : Int))), decide (((0 : Nat) ≤ (64 + (((((((src.l.getD ((os + ((si) : Int).toNat) + 0) (0#8))).toNat : Nat) : Int)) : Int).toNat * 1)) ∧ ((64 + (((((((src.l.getD ((os + ((si) : Int).toNat) + 0) (0#8))).toNat : Nat) : Int)) : Int).toNat * 1)) + 1) ≤ 320)), (decide ((0 : Int) ≤ ((((src.l.getD ((os + ((si) : Int).toNat) + 0) (0#8))).toNat : Nat) : Int)) && decide (((((src.l.getD ((os + ((si) : Int).toNat) + 0) (0#8))).toNat : Nat) : Int) < ((256 : Nat) : Int))), decide (((os + ((si) : Int).toNat) + 0) < src.n), (true && decide ((0 : Int) < ((((((si + 8)) : Int).toNat - ((si) : Int).toNat) : Nat) : Int))), ((decide ((0 : Int) ≤ si) && decide (si ≤ (si + 8))) && decide ((si + 8) ≤ ((ns : Nat) : Int))), decide (((-9223372036854775808) ≤ (si + 8) ∧ (si + 8) ≤ 9223372036854775807)), (decide ((8 : Int) ≤ (((nd : Nat) : Int) - n)) == true), (decide ((8 : Int) ≤ (((ns : Nat) : Int) - si)) == true), (decide ((8 : Int) ≤ (((ns : Nat) : Int) - si)) == true), decide (((-9223372036854775808) ≤ (((nd : Nat) : Int) - n) ∧ (((nd : Nat) : Int) - n) ≤ 9223372036854775807)), (decide ((8 : Int) ≤ (((ns : Nat) : Int) - si)) == true), (decide ((8 : Int) ≤ (((ns : Nat) : Int) - si)) == true), (decide ((8 : Int) ≤ (((ns : Nat) : Int) - si)) == true), (decide ((8 : Int) ≤ (((ns : Nat) : Int) - si)) == true), decide (((-9223372036854775808) ≤ (((ns : Nat) : Int) - si) ∧ (((ns : Nat) : Int) - si) ≤ 9223372036854775807))]) := by kernel_rfl
theorem a17_end (e dst src : Vec 8) (od nd os ns : Nat) (n si : Int) : ranAs ((a17.st ⟨e, dst, src, od, nd, os, ns, n, si⟩).2.length - a17.gh.length) none (a17.fin ⟨e, dst, src, od, nd, os, ns, n, si⟩) (goL noSpec noLoop 17 0 (a17.st ⟨e, dst, src, od, nd, os, ns, n, si⟩).1 ⟨(a17.st ⟨e, dst, src, od, nd, os, ns, n, si⟩).2, big, [true, true, true, true, true, true, false], []⟩) = some (a17.out, (a17.fin ⟨e, dst, src, od, nd, os, ns, n, si⟩), [(decide ((8 : Int) ≤ (((nd : Nat) : Int) - n)) == false), (decide ((8 : Int) ≤ (((ns : Nat) : Int) - si)) == true), (decide ((8 : Int) ≤ (((ns : Nat) : Int) - si)) == true), decide (((-9223372036854775808) ≤ (((nd : Nat) : Int) - n) ∧ (((nd : Nat) : Int) - n) ≤ 9223372036854775807)), (decide ((8 : Int) ≤ (((ns : Nat) : Int) - si)) == true), (decide ((8 : Int) ≤ (((ns : Nat) : Int) - si)) == true), (decide ((8 : Int) ≤ (((ns : Nat) : Int) - si)) == true), (decide ((8 : Int) ≤ (((ns : Nat) : Int) - si)) == true), decide (((-9223372036854775808) ≤ (((ns : Nat) : Int) - si) ∧ (((ns : Nat) : Int) - si) ≤ 9223372036854775807))]) := by kernel_rfl
theorem a17_end2 (e dst src : Vec 8) (od nd os ns : Nat) (n si : Int) : ranAs ((a17.st ⟨e, dst, src, od, nd, os, ns, n, si⟩).2.length - a17.gh.length) none (a17.fin ⟨e, dst, src, od, nd, os, ns, n, si⟩) (goL noSpec noLoop 17 0 (a17.st ⟨e, dst, src, od, nd, os, ns, n, si⟩).1 ⟨(a17.st ⟨e, dst, src, od, nd, os, ns, n, si⟩).2, big, [false, false, false, false, false, false, false], []⟩) = some (a17.out, (a17.fin ⟨e, dst, src, od, nd, os, ns, n, si⟩), [(decide ((8 : Int) ≤ (((ns : Nat) : Int) - si)) == false), (decide ((8 : Int) ≤ (((ns : Nat) : Int) - si)) == false), (decide ((8 : Int) ≤ (((ns : Nat) : Int) - si)) == false), (decide ((8 : Int) ≤ (((ns : Nat) : Int) - si)) == false), (decide ((8 : Int) ≤ (((ns : Nat) : Int) - si)) == false), (decide ((8 : Int) ≤ (((ns : Nat) : Int) - si)) == false), decide (((-9223372036854775808) ≤ (((ns : Nat) : Int) - si) ∧ (((ns : Nat) : Int) - si) ≤ 9223372036854775807))]) := by kernel_rfl
set_option maxRecDepth 100000 in
theorem a17_read (F : Fr) (K : List Blk) (d : a17D) (h : a17.read F K = some d) : (F, K) = a17.st d := by
  replace h : a17_rd F K = some d := h
  unfold a17_rd at h
  split at h
  case h_2 => cases h
  split at h
  case h_2 => cases h
  split at h
  case h_2 => cases h
  rename_i hr hd
  obtain ⟨he, _⟩ := rd8_eq hr
  have ht := (List.take_append_drop 320 _).symm.trans (congr (congrArg HAppend.hAppend he) hd)
  subst ht
  injection h with h; subst h
  rfl
theorem a17_body : RunOk Try.prog noGlob (nv 17) (ntmpsIn Try.prog 17) (loopIn Try.prog 17 0) (goL noSpec noLoop 17 0) := goL_ok no_specs (no_loops _) 17 0 fine17 (by rw [show (loopsIn Try.prog 17).length = 3 by kernel_rfl]; omega)
theorem a17_toldL : LoopOk Try.prog noGlob (nv 17) (ntmpsIn Try.prog 17) (loopIn Try.prog 17 0) a17.T.told := by
  refine a17.ran a17_body (by intro k hk; have hk : k ∈ ([] : List Blk) := hk; cases hk) (by intro h; cases h) a17_read ?_ ?_
  · rintro ⟨e, dst, src, od, nd, os, ns, n, si⟩ kk hg hr
    have hg : os + ns ≤ src.n ∧ od + nd ≤ dst.n ∧ ns % 4 = 0 ∧ nd * 4 = ns * 3 ∧ n * 4 = si * 3 ∧ 0 ≤ si ∧ si % 4 = 0 ∧ si + 4 ≤ ns ∧ ns ≤ 1000000 ∧ ∀ k, k < ns - 4 → (dx e src (os + k)).toNat < 64 := of_decide_eq_true hg
    have hr : (((ns : Int) - si).toNat / 4 - 1) / 2 = kk + 1 := hr
    obtain ⟨g1, g2, g3, g4, g5, g6, g7, g8, g9, hv⟩ := hg
    have en : a17.next ⟨e, dst, src, od, nd, os, ns, n, si⟩ = a17_next ⟨e, dst, src, od, nd, os, ns, n, si⟩ := rfl
    rw [en]
    refine ⟨⟨[true, true, true, true, true, true, true, false], none, _, a17_round e dst src od nd os ns n si, ?_⟩, ?_, ?_, (show (a17.st (a17_next ⟨e, dst, src, od, nd, os, ns, n, si⟩)).2.length = 3 by kernel_rfl).trans (show (a17.st ⟨e, dst, src, od, nd, os, ns, n, si⟩).2.length = 3 by kernel_rfl).symm⟩
    · have hz := or8 e src (os + si.toNat) (fun j hj => by have := hv (si.toNat + j) (by omega); rw [← Nat.add_assoc] at this; exact this)
      unfold dx at hz
      generalize cp e = E at hz ⊢
      have hl : ∀ o, (src.l.getD o 0#8).toNat < 256 := fun o => (src.l.getD o 0#8).isLt
      have l0 := hl (os + si.toNat + 0)
      have l1 := hl (os + si.toNat + 1)
      have l2 := hl (os + si.toNat + 2)
      have l3 := hl (os + si.toNat + 3)
      have l4 := hl (os + si.toNat + 4)
      have l5 := hl (os + si.toNat + 5)
      have l6 := hl (os + si.toNat + 6)
      have l7 := hl (os + si.toNat + 7)
      repeat' (refine all_true_cons ?_ ?_)
      all_goals first | exact all_true_nil | (simp only [Bool.and_eq_true, decide_eq_true_eq, beq_iff_eq, beq_true, beq_false, Bool.not_eq_true', decide_eq_false_iff_not, beq_eq_false_iff_ne, ne_eq, Bool.not_eq_false', bne_iff_ne, true_and, and_true] <;> omega) | exact beqF hz
    · have e : a17.good (a17_next ⟨e, dst, src, od, nd, os, ns, n, si⟩) = decide (os + ns ≤ src.n ∧ od + nd ≤ (put64 dst (od + n.toNat) (d64 e src (os + si.toNat)) : Vec 8).n ∧ ns % 4 = 0 ∧ nd * 4 = ns * 3 ∧ (n + 6 : Int) * 4 = (si + 8 : Int) * 3 ∧ 0 ≤ (si + 8 : Int) ∧ (si + 8 : Int) % 4 = 0 ∧ (si + 8 : Int) + 4 ≤ ns ∧ ns ≤ 1000000 ∧ ∀ k, k < ns - 4 → (dx (cp e : Vec 8) src (os + k)).toNat < 64) := by kernel_rfl
      refine e.trans (decide_eq_true ?_)
      rw [put64_n]
      refine ⟨by omega, by omega, by omega, by omega, by omega, by omega, by omega, by omega, by omega, fun j hj => ?_⟩
      rw [dx_cp]
      exact hv j hj
    · have e : a17.rem (a17_next ⟨e, dst, src, od, nd, os, ns, n, si⟩) = ((((ns : Int) - (si + 8 : Int)).toNat / 4 - 1) / 2) := by kernel_rfl
      refine e.trans ?_
      omega
  · rintro ⟨e, dst, src, od, nd, os, ns, n, si⟩ hg hr
    have hg : os + ns ≤ src.n ∧ od + nd ≤ dst.n ∧ ns % 4 = 0 ∧ nd * 4 = ns * 3 ∧ n * 4 = si * 3 ∧ 0 ≤ si ∧ si % 4 = 0 ∧ si + 4 ≤ ns ∧ ns ≤ 1000000 ∧ ∀ k, k < ns - 4 → (dx e src (os + k)).toNat < 64 := of_decide_eq_true hg
    have hr : (((ns : Int) - si).toNat / 4 - 1) / 2 = 0 := hr
    obtain ⟨g1, g2, g3, g4, g5, g6, g7, g8, g9, hv⟩ := hg
    by_cases hs : si + 8 ≤ ns
    case neg =>
      refine ⟨[false, false, false, false, false, false, false], none, _, a17_end2 e dst src od nd os ns n si, ?_⟩
      repeat' (refine all_true_cons ?_ ?_)
      all_goals first | exact all_true_nil | rfl | (simp only [Bool.and_eq_true, decide_eq_true_eq, beq_iff_eq, beq_true, beq_false, Bool.not_eq_true', decide_eq_false_iff_not, beq_eq_false_iff_ne, ne_eq, Bool.not_eq_false', bne_iff_ne, true_and, and_true] <;> omega)
    refine ⟨[true, true, true, true, true, true, false], none, _, a17_end e dst src od nd os ns n si, ?_⟩
    repeat' (refine all_true_cons ?_ ?_)
    all_goals first | exact all_true_nil | rfl | (simp only [Bool.and_eq_true, decide_eq_true_eq, beq_iff_eq, beq_true, beq_false, Bool.not_eq_true', decide_eq_false_iff_not, beq_eq_false_iff_ne, ne_eq, Bool.not_eq_false', bne_iff_ne, true_and, and_true] <;> omega)
def a17_spec : LSpec := a17.T.told
theorem a17_told : Told 17 0 a17_spec := a17_toldL.run
structure m17D where
  e : Vec 8
  dst : Vec 8
  src : Vec 8
  od : Nat
  nd : Nat
  os : Nat
  ns : Nat
  n : Int
  si : Int
def m17_st (d : m17D) : Fr × List Blk :=
  match d with
  | ⟨e, dst, src, od, nd, os, ns, n, si⟩ => (⟨[(.ref (.ptr 0 (.c 0))), (.ref (.sl 1 (.s od) (.s nd) none)), (.ref (.sl 2 (.s os) (.s ns) none)), (.atom .undef), (.atom .undef), (.atom .undef), (.num (.int .i64 (.s n))), (.atom .nili), (.num (.int .i64 (.s si))), (.atom .undef), (.atom .undef), (.atom .undef), (.atom .undef), (.atom .undef), (.atom .undef), (.atom .undef), (.atom .undef), (.atom .undef)], []⟩, [⟨(.gen ([] ++ c8v e 320 ++ [(.num (.int .i32 (.c 61))), (.atom (.bool (.c false)))])), .own⟩, ⟨(.b8 dst), .own⟩, ⟨(.b8 src), .ro⟩])
def m17_next (d : m17D) : m17D :=
  match d with
  | ⟨e, dst, src, od, nd, os, ns, n, si⟩ => ⟨cp e, put32 dst (od + n.toNat) (d32 e src (os + si.toNat)), src, od, nd, os, ns, n + 3, si + 4⟩
def m17_rd (F : Fr) (K : List Blk) : Option m17D :=
    match F with
    | ⟨[(.ref (.ptr 0 (.c 0))), (.ref (.sl 1 (.s od) (.s nd) none)), (.ref (.sl 2 (.s os) (.s ns) none)), (.atom .undef), (.atom .undef), (.atom .undef), (.num (.int .i64 (.s n))), (.atom .nili), (.num (.int .i64 (.s si))), (.atom .undef), (.atom .undef), (.atom .undef), (.atom .undef), (.atom .undef), (.atom .undef), (.atom .undef), (.atom .undef), (.atom .undef)], []⟩ =>
      match K with
      | [⟨(.gen (ys_e)), .own⟩, ⟨(.b8 dst), .own⟩, ⟨(.b8 src), .ro⟩] => 
        (match rd8 320 (ys_e.take 320), ys_e.drop 320 with
        | some e, [(.num (.int .i32 (.c 61))), (.atom (.bool (.c false)))] => some ⟨e, dst, src, od, nd, os, ns, n, si⟩
        | _, _ => none)
      | _ => none
    | _ => none
def m17 : LoopP m17D where
  pat := ⟨[(.ref (.ptr 0 (.c 0))), (.ref (.sl 1 (.s 0) (.s 0) none)), (.ref (.sl 2 (.s 0) (.s 0) none)), (.atom .undef), (.atom .undef), (.atom .undef), (.num (.int .i64 (.s 0))), (.atom .nili), (.num (.int .i64 (.s 0))), (.atom .undef), (.atom .undef), (.atom .undef), (.atom .undef), (.atom .undef), (.atom .undef), (.atom .undef), (.atom .undef), (.atom .undef)], []⟩
  patH := [⟨(.gen ([] ++ List.replicate 320 (.num (.w8 0#8)) ++ [(.num (.int .i32 (.c 61))), (.atom (.bool (.c false)))])), .own⟩, ⟨(.b8 (Vec.zero 8 0)), .own⟩, ⟨(.b8 (Vec.zero 8 0)), .ro⟩]
  gh := []
  read := m17_rd
  st := m17_st
  next := m17_next
  rem := fun ⟨_, _, _, _, _, _, ns, _, si⟩ => ((ns : Int) - si).toNat / 4 - 1
  good := fun ⟨e, dst, src, od, nd, os, ns, n, si⟩ => decide (os + ns ≤ src.n ∧ od + nd ≤ dst.n ∧ ns % 4 = 0 ∧ nd * 4 = ns * 3 ∧ n * 4 = si * 3 ∧ 0 ≤ si ∧ si % 4 = 0 ∧ si + 4 ≤ ns ∧ ns ≤ 1000000 ∧ ∀ k, k < ns - 4 → (dx e src (os + k)).toNat < 64)
  out := .exit 2
  fin := m17_st
theorem m17_round (e dst src : Vec 8) (od nd os ns : Nat) (n si : Int) : ranAs ((m17.st ⟨e, dst, src, od, nd, os, ns, n, si⟩).2.length - m17.gh.length) none (m17.st (m17_next ⟨e, dst, src, od, nd, os, ns, n, si⟩)) (goL noSpec noLoop 17 1 (m17.st ⟨e, dst, src, od, nd, os, ns, n, si⟩).1 ⟨(m17.st ⟨e, dst, src, od, nd, os, ns, n, si⟩).2, big, [true, true, true, true, true, true, true, false], []⟩) = some (.normal, (m17.st (m17_next ⟨e, dst, src, od, nd, os, ns, n, si⟩)), [decide (((-9223372036854775808) ≤ (si + 4) ∧ (si + 4) ≤ 9223372036854775807)), decide (((-9223372036854775808) ≤ (n + 3) ∧ (n + 3) ≤ 9223372036854775807)), decide (((od + ((n) : Int).toNat) + 3) < dst.n), (true && decide ((3 : Int) < (((((((nd : Nat) : Int)) : Int).toNat - ((n) : Int).toNat) : Nat) : Int))), decide (((od + ((n) : Int).toNat) + 2) < dst.n), (true && decide ((2 : Int) < (((((((nd : Nat) : Int)) : Int).toNat - ((n) : Int).toNat) : Nat) : Int))), decide (((od + ((n) : Int).toNat) + 1) < dst.n), (true && decide ((1 : Int) < (((((((nd : Nat) : Int)) : Int).toNat - ((n) : Int).toNat) : Nat) : Int))), decide (((od + ((n) : Int).toNat) + 0) < dst.n), (true && decide ((0 : Int) < (((((((nd : Nat) : Int)) : Int).toNat - ((n) : Int).toNat) : Nat) : Int))), decide (((od + ((n) : Int).toNat) + 3) < dst.n), (true && decide ((3 : Int) < (((((((nd : Nat) : Int)) : Int).toNat - ((n) : Int).toNat) : Nat) : Int))), ((decide ((0 : Int) ≤ n) && decide (n ≤ ((nd : Nat) : Int))) && decide (((nd : Nat) : Int) ≤ ((nd : Nat) : Int))), (((((((cp e).l.getD ((64 + (((((((src.l.getD ((os + ((si) : Int).toNat) + 0) (0#8))).toNat : Nat) : Int)) : Int).toNat * 1)) - 0) (0#8)) ||| ((cp e).l.getD ((64 + (((((((src.l.getD ((os + ((si) : Int).toNat) + 1) (0#8))).toNat : Nat) : Int)) : Int).toNat * 1)) - 0) (0#8))) ||| ((cp e).l.getD ((64 + (((((((src.l.getD ((os + ((si) : Int).toNat) + 2) (0#8))).toNat : Nat) : Int)) : Int).toNat * 1)) - 0) (0#8))) ||| ((cp e).l.getD ((64 + (((((((src.l.getD ((os + ((si) : Int).toNat) + 3) (0#8))).toNat : Nat) : Int)) : Int).toNat * 1)) - 0) (0#8))) == (255#8)) == false), decide (((0 : Nat) ≤ (64 + (((((((src.l.getD ((os + ((si) : Int).toNat) + 3) (0#8))).toNat : Nat) : Int)) : Int).toNat * 1)) ∧ ((64 + (((((((src.l.getD ((os + ((si) : Int).toNat) + 3) (0#8))).toNat : Nat) : Int)) : Int).toNat * 1)) + 1) ≤ 320)), (decide ((0 : Int) ≤ ((((src.l.getD ((os + ((si) : Int).toNat) + 3) (0#8))).toNat : Nat) : Int)) && decide (((((src.l.getD ((os + ((si) : Int).toNat) + 3) (0#8))).toNat : Nat) : Int) < ((256 : Nat) : Int))), decide (((os + ((si) : Int).toNat) + 3) < src.n), (true && decide ((3 : Int) < ((((((si + 4)) : Int).toNat - ((si) : Int).toNat) : Nat) : Int))), decide (((0 : Nat) ≤ (64 + (((((((src.l.getD ((os + ((si) : Int).toNat) + 2) (0#8))).toNat : Nat) : Int)) : Int).toNat * 1)) ∧ ((64 + (((((((src.l.getD ((os + ((si) : Int).toNat) + 2) (0#8))).toNat : Nat) : Int)) : Int).toNat * 1)) + 1) ≤ 320)), (decide ((0 : Int) ≤ ((((src.l.getD ((os + ((si) : Int).toNat) + 2) (0#8))).toNat : Nat) : Int)) && decide (((((src.l.getD ((os + ((si) : Int).toNat) + 2) (0#8))).toNat : Nat) : Int) < ((256 : Nat) : Int))), decide (((os + ((si) : Int).toNat) + 2) < src.n), (true && decide ((2 : Int) < ((((((si + 4)) : Int).toNat - ((si) : Int).toNat) : Nat) : Int))), decide (((0 : Nat) ≤ (64 + (((((((src.l.getD ((os + ((si) : Int).toNat) + 1) (0#8))).toNat : Nat) : Int)) : Int).toNat * 1)) ∧ ((64 + (((((((src.l.getD ((os + ((si) : Int).toNat) + 1) (0#8))).toNat : Nat) : Int)) : Int).toNat * 1)) + 1) ≤ 320)), (decide ((0 : Int) ≤ ((((src.l.getD ((os + ((si) : Int).toNat) + 1) (0#8))).toNat : Nat) : Int)) && decide (((((src.l.getD ((os + ((si) : Int).toNat) + 1) (0#8))).toNat : Nat) : Int) < ((256 : Nat) : Int))), decide (((os + ((si) : Int).toNat) + 1) < src.n), (true && decide ((1 : Int) < ((((((si + 4)) : Int).toNat - ((si) : Int).toNat) : Nat) : Int))), decide (((0 : Nat) ≤ (64 + (((((((src.l.getD ((os + ((si) : Int).toNat) + 0) (0#8))).toNat : Nat) : Int)) : Int).toNat * 1)) ∧ ((64 + (((((((src.l.getD ((os + ((si) : Int).toNat) + 0) (0#8))).toNat : Nat) : Int)) : Int).toNat * 1)) + 1) ≤ 320)), (decide ((0 : Int) ≤ ((((src.l.getD ((os + ((si) : Int).toNat) + 0) (0#8))).toNat : Nat) : Int)) && decide (((((src.l.getD ((os + ((si) : Int).toNat) + 0) (0#8))).toNat : Nat) : Int) < ((256 : Nat) : Int))), decide (((os + ((si) : Int).toNat) + 0) < src.n), (true && decide ((0 : Int) < ((((((si + 4)) : Int).toNat - ((si) : Int).toNat) : Nat) : Int))), ((decide ((0 : Int) ≤ si) && decide (si ≤ (si + 4))) && decide ((si + 4) ≤ ((ns : Nat) : Int))), decide (((-9223372036854775808) ≤ (si + 4) ∧ (si + 4) ≤ 9223372036854775807)), (decide ((4 : Int) ≤ (((nd : Nat) : Int) - n)) == true), (decide ((4 : Int) ≤ (((ns : Nat) : Int) - si)) == true), (decide ((4 : Int) ≤ (((ns : Nat) : Int) - si)) == true), decide (((-9223372036854775808) ≤ (((nd : Nat) : Int) - n) ∧ (((nd : Nat) : Int) - n) ≤ 9223372036854775807)), (decide ((4 : Int) ≤ (((ns : Nat) : Int) - si)) == true), (decide ((4 : Int) ≤ (((ns : Nat) : Int) - si)) == true), (decide ((4 : Int) ≤ (((ns : Nat) : Int) - si)) == true), (decide ((4 : Int) ≤ (((ns : Nat) : Int) - si)) == true), decide (((-9223372036854775808) ≤ (((ns : Nat) : Int) - si) ∧ (((ns : Nat) : Int) - si) ≤ 9223372036854775807))]) := by kernel_rfl
theorem m17_end (e dst src : Vec 8) (od nd os ns : Nat) (n si : Int) : ranAs ((m17.st ⟨e, dst, src, od, nd, os, ns, n, si⟩).2.length - m17.gh.length) none (m17.fin ⟨e, dst, src, od, nd, os, ns, n, si⟩) (goL noSpec noLoop 17 1 (m17.st ⟨e, dst, src, od, nd, os, ns, n, si⟩).1 ⟨(m17.st ⟨e, dst, src, od, nd, os, ns, n, si⟩).2, big, [true, true, true, true, true, true, false], []⟩) = some (m17.out, (m17.fin ⟨e, dst, src, od, nd, os, ns, n, si⟩), [(decide ((4 : Int) ≤ (((nd : Nat) : Int) - n)) == false), (decide ((4 : Int) ≤ (((ns : Nat) : Int) - si)) == true), (decide ((4 : Int) ≤ (((ns : Nat) : Int) - si)) == true), decide (((-9223372036854775808) ≤ (((nd : Nat) : Int) - n) ∧ (((nd : Nat) : Int) - n) ≤ 9223372036854775807)), (decide ((4 : Int) ≤ (((ns : Nat) : Int) - si)) == true), (decide ((4 : Int) ≤ (((ns : Nat) : Int) - si)) == true), (decide ((4 : Int) ≤ (((ns : Nat) : Int) - si)) == true), (decide ((4 : Int) ≤ (((ns : Nat) : Int) - si)) == true), decide (((-9223372036854775808) ≤ (((ns : Nat) : Int) - si) ∧ (((ns : Nat) : Int) - si) ≤ 9223372036854775807))]) := by kernel_rfl
set_option maxRecDepth 100000 in
theorem m17_read (F : Fr) (K : List Blk) (d : m17D) (h : m17.read F K = some d) : (F, K) = m17.st d := by
  replace h : m17_rd F K = some d := h
  unfold m17_rd at h
  split at h
  case h_2 => cases h
  split at h
  case h_2 => cases h
  split at h
  case h_2 => cases h
  rename_i hr hd
  obtain ⟨he, _⟩ := rd8_eq hr
  have ht := (List.take_append_drop 320 _).symm.trans (congr (congrArg HAppend.hAppend he) hd)
  subst ht
  injection h with h; subst h
  rfl
theorem m17_body : RunOk Try.prog noGlob (nv 17) (ntmpsIn Try.prog 17) (loopIn Try.prog 17 1) (goL noSpec noLoop 17 1) := goL_ok no_specs (no_loops _) 17 1 fine17 (by rw [show (loopsIn Try.prog 17).length = 3 by kernel_rfl]; omega)
theorem m17_toldL : LoopOk Try.prog noGlob (nv 17) (ntmpsIn Try.prog 17) (loopIn Try.prog 17 1) m17.T.told := by
  refine m17.ran m17_body (by intro k hk; have hk : k ∈ ([] : List Blk) := hk; cases hk) (by intro h; cases h) m17_read ?_ ?_
  · rintro ⟨e, dst, src, od, nd, os, ns, n, si⟩ kk hg hr
    have hg : os + ns ≤ src.n ∧ od + nd ≤ dst.n ∧ ns % 4 = 0 ∧ nd * 4 = ns * 3 ∧ n * 4 = si * 3 ∧ 0 ≤ si ∧ si % 4 = 0 ∧ si + 4 ≤ ns ∧ ns ≤ 1000000 ∧ ∀ k, k < ns - 4 → (dx e src (os + k)).toNat < 64 := of_decide_eq_true hg
    have hr : ((ns : Int) - si).toNat / 4 - 1 = kk + 1 := hr
    obtain ⟨g1, g2, g3, g4, g5, g6, g7, g8, g9, hv⟩ := hg
    have en : m17.next ⟨e, dst, src, od, nd, os, ns, n, si⟩ = m17_next ⟨e, dst, src, od, nd, os, ns, n, si⟩ := rfl
    rw [en]
    refine ⟨⟨[true, true, true, true, true, true, true, false], none, _, m17_round e dst src od nd os ns n si, ?_⟩, ?_, ?_, (show (m17.st (m17_next ⟨e, dst, src, od, nd, os, ns, n, si⟩)).2.length = 3 by kernel_rfl).trans (show (m17.st ⟨e, dst, src, od, nd, os, ns, n, si⟩).2.length = 3 by kernel_rfl).symm⟩
    · have hz := or4 e src (os + si.toNat) (fun j hj => by have := hv (si.toNat + j) (by omega); rw [← Nat.add_assoc] at this; exact this)
      unfold dx at hz
      generalize cp e = E at hz ⊢
      have hl : ∀ o, (src.l.getD o 0#8).toNat < 256 := fun o => (src.l.getD o 0#8).isLt
      have l0 := hl (os + si.toNat + 0)
      have l1 := hl (os + si.toNat + 1)
      have l2 := hl (os + si.toNat + 2)
      have l3 := hl (os + si.toNat + 3)
      repeat' (refine all_true_cons ?_ ?_)
      all_goals first | exact all_true_nil | (simp only [Bool.and_eq_true, decide_eq_true_eq, beq_iff_eq, beq_true, beq_false, Bool.not_eq_true', decide_eq_false_iff_not, beq_eq_false_iff_ne, ne_eq, Bool.not_eq_false', bne_iff_ne, true_and, and_true] <;> omega) | exact beqF hz
    · have e : m17.good (m17_next ⟨e, dst, src, od, nd, os, ns, n, si⟩) = decide (os + ns ≤ src.n ∧ od + nd ≤ (put32 dst (od + n.toNat) (d32 e src (os + si.toNat)) : Vec 8).n ∧ ns % 4 = 0 ∧ nd * 4 = ns * 3 ∧ (n + 3 : Int) * 4 = (si + 4 : Int) * 3 ∧ 0 ≤ (si + 4 : Int) ∧ (si + 4 : Int) % 4 = 0 ∧ (si + 4 : Int) + 4 ≤ ns ∧ ns ≤ 1000000 ∧ ∀ k, k < ns - 4 → (dx (cp e : Vec 8) src (os + k)).toNat < 64) := by kernel_rfl
      refine e.trans (decide_eq_true ?_)
      rw [put32_n]
      refine ⟨by omega, by omega, by omega, by omega, by omega, by omega, by omega, by omega, by omega, fun j hj => ?_⟩
      rw [dx_cp]
      exact hv j hj
    · have e : m17.rem (m17_next ⟨e, dst, src, od, nd, os, ns, n, si⟩) = (((ns : Int) - (si + 4 : Int)).toNat / 4 - 1) := by kernel_rfl
      refine e.trans ?_
      omega
  · rintro ⟨e, dst, src, od, nd, os, ns, n, si⟩ hg hr
    have hg : os + ns ≤ src.n ∧ od + nd ≤ dst.n ∧ ns % 4 = 0 ∧ nd * 4 = ns * 3 ∧ n * 4 = si * 3 ∧ 0 ≤ si ∧ si % 4 = 0 ∧ si + 4 ≤ ns ∧ ns ≤ 1000000 ∧ ∀ k, k < ns - 4 → (dx e src (os + k)).toNat < 64 := of_decide_eq_true hg
    have hr : ((ns : Int) - si).toNat / 4 - 1 = 0 := hr
    obtain ⟨g1, g2, g3, g4, g5, g6, g7, g8, g9, hv⟩ := hg
    refine ⟨[true, true, true, true, true, true, false], none, _, m17_end e dst src od nd os ns n si, ?_⟩
    repeat' (refine all_true_cons ?_ ?_)
    all_goals first | exact all_true_nil | rfl | (simp only [Bool.and_eq_true, decide_eq_true_eq, beq_iff_eq, beq_true, beq_false, Bool.not_eq_true', decide_eq_false_iff_not, beq_eq_false_iff_ne, ne_eq, Bool.not_eq_false', bne_iff_ne, true_and, and_true] <;> omega)
def m17_spec : LSpec := m17.T.told
theorem m17_told : Told 17 1 m17_spec := m17_toldL.run
def s17 : FuncId → Nat → Option LSpec
  | 17, 5 => some a17_spec
  | 17, 17 => some m17_spec
  | _, _ => none
theorem s17_len : (loopsIn Try.prog 17).length = 3 := by kernel_rfl
theorem s17_ok (spec : FuncId → Option Eng.Spec) : LoopsOk (cfg spec s17) noGlob := by
  refine LoopsOk.of fun f => ?_
  by_cases hf : f = 17
  · subst hf
    refine .inr ⟨by kernel_rfl, fun i hi sp hsp => ?_⟩
    have hi : i < (loopsIn Try.prog 17).length := hi
    rw [s17_len] at hi
    match i, hi with
    | 0, _ =>
      have e : (firstRid (loopIn Try.prog 17 0)).bind (s17 17) = some a17_spec := by kernel_rfl
      obtain rfl := Option.some.inj (e.symm.trans hsp)
      exact a17_told
    | 1, _ =>
      have e : (firstRid (loopIn Try.prog 17 1)).bind (s17 17) = some m17_spec := by kernel_rfl
      obtain rfl := Option.some.inj (e.symm.trans hsp)
      exact m17_told
    | 2, _ =>
      have e : (firstRid (loopIn Try.prog 17 2)).bind (s17 17) = none := by kernel_rfl
      have hsp : (firstRid (loopIn Try.prog 17 2)).bind (s17 17) = some sp := hsp
      rw [e] at hsp; cases hsp
  · refine .inl fun r => ?_
    show s17 f r = none
    unfold s17
    split
    · exact absurd rfl hf
    · exact absurd rfl hf
    · rfl
end Go.Proofs.Ytlelgligkkegnaa

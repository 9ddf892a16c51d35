/- bcrypt's letters read again: the last four. -/
import Derived.Test.YtlelgligkkegnaaE1Eq
namespace Go.Proofs.Ytlelgligkkegnaa
open Go.Eng
set_option linter.unusedSimpArgs false
set_option linter.unusedVariables false
/-- What a letter stands for. -/
def dx (e src : Vec 8) (o : Nat) : BitVec 8 := (cp e).l.getD (64 + ((((src.l.getD o 0#8).toNat : Nat) : Int)).toNat * 1 - 0) 0#8
def q1 (e src : Vec 8) (os : Nat) (si : Int) : BitVec 64 := ((((dx e src (os + si.toNat * 1)).setWidth 64) <<< 18 ||| ((dx e src (os + (si + 1).toNat * 1)).setWidth 64) <<< 12) ||| 0#64) ||| 0#64
def q2 (e src : Vec 8) (os : Nat) (si : Int) : BitVec 64 := ((((dx e src (os + si.toNat * 1)).setWidth 64) <<< 18 ||| ((dx e src (os + (si + 1).toNat * 1)).setWidth 64) <<< 12) ||| ((dx e src (os + (si + 1 + 1).toNat * 1)).setWidth 64) <<< 6) ||| 0#64
def end1 (e dst src : Vec 8) (od os : Nat) (si : Int) : Vec 8 := dst.set (od + 0) ((q1 e src os si >>> 16).setWidth 8)
def end2 (e dst src : Vec 8) (od os : Nat) (si : Int) : Vec 8 := (dst.set (od + 1) ((q2 e src os si >>> 8).setWidth 8)).set (od + 0) ((q2 e src os si >>> 16).setWidth 8)
theorem beqF {b : Bool} (h : b = false) : (b == false) = true := by rw [h]; rfl
theorem beqT {b : Bool} (h : b = true) : (b == true) = true := by rw [h]; rfl
theorem bF {w : Nat} {a b : BitVec w} (h : a ≠ b) : (a == b) = false := beq_false_of_ne h
theorem bT {w : Nat} {a b : BitVec w} (h : a = b) : (a == b) = true := by rw [h]; exact beq_self_eq_true _
theorem b61 {a : BitVec 8} (h : a = 61#8) : (!((((a.toNat : Nat) : Int)) == 61)) = false := by rw [h]; rfl
structure c22_1D where
  e : Vec 8
  dst : Vec 8
  src : Vec 8
  od : Nat
  nd : Nat
  os : Nat
  ns : Nat
  si : Int
def c22_1_rd (a : List AV) (K : List Blk) : Option c22_1D :=
    match a with
    | [(.ref (.ptr 0 (.c 0))), (.ref (.sl 1 (.s od) (.s nd) none)), (.ref (.sl 2 (.s os) (.s ns) none)), (.num (.int .i64 (.s si)))] =>
      match K with
      | [⟨(.gen (ys_e)), .own⟩, ⟨(.b8 dst), .own⟩, ⟨(.b8 src), .ro⟩] => 
        (match rd8 320 (ys_e.take 320), ys_e.drop 320 with
        | some e, [(.num (.int .i32 (.c 61))), (.atom (.bool (.c false)))] => some ⟨e, dst, src, od, nd, os, ns, si⟩
        | _, _ => none)
      | _ => none
    | _ => none
def c22_1 : Ct c22_1D where
  pat := [(.ref (.ptr 0 (.c 0))), (.ref (.sl 1 (.s 0) (.s 0) none)), (.ref (.sl 2 (.s 0) (.s 0) none)), (.num (.int .i64 (.s 0)))]
  patH := [⟨(.gen ([] ++ List.replicate 320 (.num (.w8 0#8)) ++ [(.num (.int .i32 (.c 61))), (.atom (.bool (.c false)))])), .own⟩, ⟨(.b8 (Vec.zero 8 0)), .own⟩, ⟨(.b8 (Vec.zero 8 0)), .ro⟩]
  read := c22_1_rd
  args := fun ⟨_, _, _, od, nd, os, ns, si⟩ => [(.ref (.ptr 0 (.c 0))), (.ref (.sl 1 (.s od) (.s nd) none)), (.ref (.sl 2 (.s os) (.s ns) none)), (.num (.int .i64 (.s si)))]
  heap := fun ⟨e, dst, src, _, _, _, _, _⟩ => [⟨(.gen ([] ++ c8v e 320 ++ [(.num (.int .i32 (.c 61))), (.atom (.bool (.c false)))])), .own⟩, ⟨(.b8 dst), .own⟩, ⟨(.b8 src), .ro⟩]
  out := fun ⟨e, dst, src, od, _, os, _, si⟩ => [⟨(.gen ([] ++ c8v e 320 ++ [(.num (.int .i32 (.c 61))), (.atom (.bool (.c false)))])), .own⟩, ⟨(.b8 (end1 e dst src od os si)), .own⟩, ⟨(.b8 src), .ro⟩]
  val := fun ⟨_, _, _, _, _, _, _, si⟩ => (.obj .tup [(.num (.int .i64 (.s (si + 1 + 1 + 1 + 1)))), (.num (.int .i64 (.c 1))), (.atom .nili)])
  good := fun ⟨e, dst, src, od, nd, os, ns, si⟩ => decide (os + ns ≤ src.n ∧ od + nd ≤ dst.n ∧ 3 ≤ nd ∧ 0 ≤ si ∧ si + 4 = ns ∧ ns ≤ 1000000 ∧ dx e src (os + si.toNat * 1) ≠ 255#8 ∧ dx e src (os + (si + 1).toNat * 1) ≠ 255#8 ∧ src.l.getD (os + (si + 1 + 1).toNat * 1) 0#8 = 61#8 ∧ dx e src (os + (si + 1 + 1).toNat * 1) = 255#8 ∧ src.l.getD (os + (si + 1 + 1 + 1).toNat * 1) 0#8 = 61#8)
theorem c22_1_run (e dst src : Vec 8) (od nd os ns : Nat) (si : Int) : endsAs (c22_1.heap ⟨e, dst, src, od, nd, os, ns, si⟩).length (some [0, 1, 2]) (c22_1.out ⟨e, dst, src, od, nd, os, ns, si⟩) (c22_1.val ⟨e, dst, src, od, nd, os, ns, si⟩) (goB noSpec noLoop 22 (c22_1.args ⟨e, dst, src, od, nd, os, ns, si⟩) ⟨c22_1.heap ⟨e, dst, src, od, nd, os, ns, si⟩, big, [false, true, false, true, false, false, false, false, false, false, false, true, true, true, true, true, true, false, false, false, false, false, true, false, true, false, false, false, false, false, false, false, false, false, false, false, false], []⟩) = some ((c22_1.out ⟨e, dst, src, od, nd, os, ns, si⟩), (c22_1.val ⟨e, dst, src, od, nd, os, ns, si⟩), [decide ((od + 0) < dst.n), (true && decide ((0 : Int) < ((nd : Nat) : Int))), (decide (((((si + 1) + 1) + 1) + 1) < ((ns : Nat) : Int)) == false), (decide (((((si + 1) + 1) + 1) + 1) < ((ns : Nat) : Int)) == false), (decide (((((si + 1) + 1) + 1) + 1) < ((ns : Nat) : Int)) == false), (decide (((((si + 1) + 1) + 1) + 1) < ((ns : Nat) : Int)) == false), (decide (((((si + 1) + 1) + 1) + 1) < ((ns : Nat) : Int)) == false), (decide (((((si + 1) + 1) + 1) + 1) < ((ns : Nat) : Int)) == false), (decide (((((si + 1) + 1) + 1) + 1) < ((ns : Nat) : Int)) == false), (decide (((((si + 1) + 1) + 1) + 1) < ((ns : Nat) : Int)) == false), (decide (((((si + 1) + 1) + 1) + 1) < ((ns : Nat) : Int)) == false), decide (((-9223372036854775808) ≤ ((((si + 1) + 1) + 1) + 1) ∧ ((((si + 1) + 1) + 1) + 1) ≤ 9223372036854775807)), ((!(((((src.l.getD (os + ((((((si + 1) + 1) + 1)) : Int).toNat * 1)) (0#8))).toNat : Nat) : Int) == 61)) == false), decide (((((src.l.getD (os + ((((((si + 1) + 1) + 1)) : Int).toNat * 1)) (0#8))).toNat : Nat) : Int) ≤ 2147483647), decide ((os + ((((((si + 1) + 1) + 1)) : Int).toNat * 1)) < src.n), (decide ((0 : Int) ≤ (((si + 1) + 1) + 1)) && decide ((((si + 1) + 1) + 1) < ((ns : Nat) : Int))), (((((si + 1) + 1) + 1) == ((ns : Nat) : Int)) == false), (((src.l.getD (os + ((((((si + 1) + 1) + 1)) : Int).toNat * 1)) (0#8)) == (13#8)) == false), (decide ((((si + 1) + 1) + 1) < ((ns : Nat) : Int)) == true), (((src.l.getD (os + ((((((si + 1) + 1) + 1)) : Int).toNat * 1)) (0#8)) == (10#8)) == false), (decide ((((si + 1) + 1) + 1) < ((ns : Nat) : Int)) == true), (((src.l.getD (os + ((((((si + 1) + 1) + 1)) : Int).toNat * 1)) (0#8)) == (10#8)) == false), decide ((os + ((((((si + 1) + 1) + 1)) : Int).toNat * 1)) < src.n), (((src.l.getD (os + ((((((si + 1) + 1) + 1)) : Int).toNat * 1)) (0#8)) == (10#8)) == false), (decide ((0 : Int) ≤ (((si + 1) + 1) + 1)) && decide ((((si + 1) + 1) + 1) < ((ns : Nat) : Int))), (((src.l.getD (os + ((((((si + 1) + 1) + 1)) : Int).toNat * 1)) (0#8)) == (10#8)) == false), (((src.l.getD (os + ((((((si + 1) + 1) + 1)) : Int).toNat * 1)) (0#8)) == (10#8)) == false), (((src.l.getD (os + ((((((si + 1) + 1) + 1)) : Int).toNat * 1)) (0#8)) == (10#8)) == false), (decide ((((si + 1) + 1) + 1) < ((ns : Nat) : Int)) == true), (decide ((((si + 1) + 1) + 1) < ((ns : Nat) : Int)) == true), decide ((os + ((((((si + 1) + 1) + 1)) : Int).toNat * 1)) < src.n), (decide ((((si + 1) + 1) + 1) < ((ns : Nat) : Int)) == true), (decide ((0 : Int) ≤ (((si + 1) + 1) + 1)) && decide ((((si + 1) + 1) + 1) < ((ns : Nat) : Int))), (decide ((((si + 1) + 1) + 1) < ((ns : Nat) : Int)) == true), (decide ((((si + 1) + 1) + 1) < ((ns : Nat) : Int)) == true), (decide ((((si + 1) + 1) + 1) < ((ns : Nat) : Int)) == true), ((!(((((src.l.getD (os + (((((si + 1) + 1)) : Int).toNat * 1)) (0#8))).toNat : Nat) : Int) == 61)) == false), decide (((((src.l.getD (os + (((((si + 1) + 1)) : Int).toNat * 1)) (0#8))).toNat : Nat) : Int) ≤ 2147483647), (((src.l.getD (os + (((((si + 1) + 1)) : Int).toNat * 1)) (0#8)) == (13#8)) == false), (((src.l.getD (os + (((((si + 1) + 1)) : Int).toNat * 1)) (0#8)) == (10#8)) == false), (((src.l.getD (os + (((((si + 1) + 1)) : Int).toNat * 1)) (0#8)) == (10#8)) == false), (((src.l.getD (os + (((((si + 1) + 1)) : Int).toNat * 1)) (0#8)) == (10#8)) == false), ((((cp e).l.getD ((64 + (((((((src.l.getD (os + (((((si + 1) + 1)) : Int).toNat * 1)) (0#8))).toNat : Nat) : Int)) : Int).toNat * 1)) - 0) (0#8)) != (255#8)) == false), decide (((0 : Nat) ≤ (64 + (((((((src.l.getD (os + (((((si + 1) + 1)) : Int).toNat * 1)) (0#8))).toNat : Nat) : Int)) : Int).toNat * 1)) ∧ ((64 + (((((((src.l.getD (os + (((((si + 1) + 1)) : Int).toNat * 1)) (0#8))).toNat : Nat) : Int)) : Int).toNat * 1)) + 1) ≤ 320)), (decide ((0 : Int) ≤ ((((src.l.getD (os + (((((si + 1) + 1)) : Int).toNat * 1)) (0#8))).toNat : Nat) : Int)) && decide (((((src.l.getD (os + (((((si + 1) + 1)) : Int).toNat * 1)) (0#8))).toNat : Nat) : Int) < ((256 : Nat) : Int))), decide (((-9223372036854775808) ≤ (((si + 1) + 1) + 1) ∧ (((si + 1) + 1) + 1) ≤ 9223372036854775807)), decide ((os + (((((si + 1) + 1)) : Int).toNat * 1)) < src.n), (decide ((0 : Int) ≤ ((si + 1) + 1)) && decide (((si + 1) + 1) < ((ns : Nat) : Int))), ((((ns : Nat) : Int) == ((si + 1) + 1)) == false), ((((cp e).l.getD ((64 + (((((((src.l.getD (os + ((((si + 1)) : Int).toNat * 1)) (0#8))).toNat : Nat) : Int)) : Int).toNat * 1)) - 0) (0#8)) != (255#8)) == true), decide (((0 : Nat) ≤ (64 + (((((((src.l.getD (os + ((((si + 1)) : Int).toNat * 1)) (0#8))).toNat : Nat) : Int)) : Int).toNat * 1)) ∧ ((64 + (((((((src.l.getD (os + ((((si + 1)) : Int).toNat * 1)) (0#8))).toNat : Nat) : Int)) : Int).toNat * 1)) + 1) ≤ 320)), (decide ((0 : Int) ≤ ((((src.l.getD (os + ((((si + 1)) : Int).toNat * 1)) (0#8))).toNat : Nat) : Int)) && decide (((((src.l.getD (os + ((((si + 1)) : Int).toNat * 1)) (0#8))).toNat : Nat) : Int) < ((256 : Nat) : Int))), decide (((-9223372036854775808) ≤ ((si + 1) + 1) ∧ ((si + 1) + 1) ≤ 9223372036854775807)), decide ((os + ((((si + 1)) : Int).toNat * 1)) < src.n), (decide ((0 : Int) ≤ (si + 1)) && decide ((si + 1) < ((ns : Nat) : Int))), ((((ns : Nat) : Int) == (si + 1)) == false), ((((cp e).l.getD ((64 + (((((((src.l.getD (os + (((si) : Int).toNat * 1)) (0#8))).toNat : Nat) : Int)) : Int).toNat * 1)) - 0) (0#8)) != (255#8)) == true), decide (((0 : Nat) ≤ (64 + (((((((src.l.getD (os + (((si) : Int).toNat * 1)) (0#8))).toNat : Nat) : Int)) : Int).toNat * 1)) ∧ ((64 + (((((((src.l.getD (os + (((si) : Int).toNat * 1)) (0#8))).toNat : Nat) : Int)) : Int).toNat * 1)) + 1) ≤ 320)), (decide ((0 : Int) ≤ ((((src.l.getD (os + (((si) : Int).toNat * 1)) (0#8))).toNat : Nat) : Int)) && decide (((((src.l.getD (os + (((si) : Int).toNat * 1)) (0#8))).toNat : Nat) : Int) < ((256 : Nat) : Int))), decide (((-9223372036854775808) ≤ (si + 1) ∧ (si + 1) ≤ 9223372036854775807)), decide ((os + (((si) : Int).toNat * 1)) < src.n), (decide ((0 : Int) ≤ si) && decide (si < ((ns : Nat) : Int))), ((((ns : Nat) : Int) == si) == false)]) := by kernel_rfl
set_option maxRecDepth 100000 in
theorem c22_1_read (a : List AV) (K : List Blk) (d : c22_1D) (h : c22_1.read a K = some d) : a = c22_1.args d ∧ K = c22_1.heap d := by
  replace h : c22_1_rd a K = some d := h
  unfold c22_1_rd at h
  split at h
  case h_2 => cases h
  split at h
  case h_2 => cases h
  split at h
  case h_2 => cases h
  rename_i hr hd
  obtain ⟨he, _⟩ := rd8_eq hr
  have ht := (List.take_append_drop 320 _).symm.trans (congr (congrArg HAppend.hAppend he) hd)
  subst ht
  injection h with h; subst h
  exact ⟨rfl, rfl⟩
theorem c22_1_ok : SpecOk Try.prog noGlob 22 c22_1.spec := by
  refine c22_1.ok (goB_ok no_specs (no_loops _)) c22_1_read ?_
  rintro ⟨e, dst, src, od, nd, os, ns, si⟩ hg
  have hg : os + ns ≤ src.n ∧ od + nd ≤ dst.n ∧ 3 ≤ nd ∧ 0 ≤ si ∧ si + 4 = ns ∧ ns ≤ 1000000 ∧ dx e src (os + si.toNat * 1) ≠ 255#8 ∧ dx e src (os + (si + 1).toNat * 1) ≠ 255#8 ∧ src.l.getD (os + (si + 1 + 1).toNat * 1) 0#8 = 61#8 ∧ dx e src (os + (si + 1 + 1).toNat * 1) = 255#8 ∧ src.l.getD (os + (si + 1 + 1 + 1).toNat * 1) 0#8 = 61#8 := of_decide_eq_true hg
  refine ⟨[false, true, false, true, false, false, false, false, false, false, false, true, true, true, true, true, true, false, false, false, false, false, true, false, true, false, false, false, false, false, false, false, false, false, false, false, false], (some [0, 1, 2]), _, c22_1_run e dst src od nd os ns si, ?_⟩
  obtain ⟨g1, g2, g3, g4, g5, g6, h0, h1, h2, h3, h4⟩ := hg
  have hl : ∀ o, (src.l.getD o 0#8).toNat < 256 := fun o => (src.l.getD o 0#8).isLt
  have l0 := hl (os + si.toNat * 1)
  have l1 := hl (os + (si + 1).toNat * 1)
  have l2 := hl (os + (si + 1 + 1).toNat * 1)
  have l3 := hl (os + (si + 1 + 1 + 1).toNat * 1)
  unfold dx at h0 h1 h3
  generalize cp e = E at h0 h1 h3 ⊢
  have h0' := bF h0
  have h1' := bF h1
  have h3' := bT h3
  have k2 := b61 h2
  have k4 := b61 h4
  repeat' (refine all_true_cons ?_ ?_)
  all_goals first | exact all_true_nil | (simp only [h0', h1', h3', k2, k4, h2, h4, beq_self_eq_true, Bool.not_false, Bool.not_true, Bool.beq_false, Bool.beq_true]; done) | (simp only [h0', h1', h3', k2, k4, h2, h4, Bool.beq_false]; decide) | (simp only [bne, h0', h1', h3', Bool.not_true, Bool.not_false, beq_self_eq_true]; done) | (rw [h4]; decide) | (rw [h2]; decide) | (simp only [Bool.and_eq_true, decide_eq_true_eq, beq_iff_eq, beq_true, beq_false, Bool.not_eq_true', decide_eq_false_iff_not, beq_eq_false_iff_ne, ne_eq, Bool.not_eq_false', bne_iff_ne, true_and, and_true] <;> omega)
structure c22_2D where
  e : Vec 8
  dst : Vec 8
  src : Vec 8
  od : Nat
  nd : Nat
  os : Nat
  ns : Nat
  si : Int
def c22_2_rd (a : List AV) (K : List Blk) : Option c22_2D :=
    match a with
    | [(.ref (.ptr 0 (.c 0))), (.ref (.sl 1 (.s od) (.s nd) none)), (.ref (.sl 2 (.s os) (.s ns) none)), (.num (.int .i64 (.s si)))] =>
      match K with
      | [⟨(.gen (ys_e)), .own⟩, ⟨(.b8 dst), .own⟩, ⟨(.b8 src), .ro⟩] => 
        (match rd8 320 (ys_e.take 320), ys_e.drop 320 with
        | some e, [(.num (.int .i32 (.c 61))), (.atom (.bool (.c false)))] => some ⟨e, dst, src, od, nd, os, ns, si⟩
        | _, _ => none)
      | _ => none
    | _ => none
def c22_2 : Ct c22_2D where
  pat := [(.ref (.ptr 0 (.c 0))), (.ref (.sl 1 (.s 0) (.s 0) none)), (.ref (.sl 2 (.s 0) (.s 0) none)), (.num (.int .i64 (.s 0)))]
  patH := [⟨(.gen ([] ++ List.replicate 320 (.num (.w8 0#8)) ++ [(.num (.int .i32 (.c 61))), (.atom (.bool (.c false)))])), .own⟩, ⟨(.b8 (Vec.zero 8 0)), .own⟩, ⟨(.b8 (Vec.zero 8 0)), .ro⟩]
  read := c22_2_rd
  args := fun ⟨_, _, _, od, nd, os, ns, si⟩ => [(.ref (.ptr 0 (.c 0))), (.ref (.sl 1 (.s od) (.s nd) none)), (.ref (.sl 2 (.s os) (.s ns) none)), (.num (.int .i64 (.s si)))]
  heap := fun ⟨e, dst, src, _, _, _, _, _⟩ => [⟨(.gen ([] ++ c8v e 320 ++ [(.num (.int .i32 (.c 61))), (.atom (.bool (.c false)))])), .own⟩, ⟨(.b8 dst), .own⟩, ⟨(.b8 src), .ro⟩]
  out := fun ⟨e, dst, src, od, _, os, _, si⟩ => [⟨(.gen ([] ++ c8v e 320 ++ [(.num (.int .i32 (.c 61))), (.atom (.bool (.c false)))])), .own⟩, ⟨(.b8 (end2 e dst src od os si)), .own⟩, ⟨(.b8 src), .ro⟩]
  val := fun ⟨_, _, _, _, _, _, _, si⟩ => (.obj .tup [(.num (.int .i64 (.s (si + 1 + 1 + 1 + 1)))), (.num (.int .i64 (.c 2))), (.atom .nili)])
  good := fun ⟨e, dst, src, od, nd, os, ns, si⟩ => decide (os + ns ≤ src.n ∧ od + nd ≤ dst.n ∧ 3 ≤ nd ∧ 0 ≤ si ∧ si + 4 = ns ∧ ns ≤ 1000000 ∧ dx e src (os + si.toNat * 1) ≠ 255#8 ∧ dx e src (os + (si + 1).toNat * 1) ≠ 255#8 ∧ dx e src (os + (si + 1 + 1).toNat * 1) ≠ 255#8 ∧ src.l.getD (os + (si + 1 + 1 + 1).toNat * 1) 0#8 = 61#8 ∧ dx e src (os + (si + 1 + 1 + 1).toNat * 1) = 255#8)
theorem c22_2_run (e dst src : Vec 8) (od nd os ns : Nat) (si : Int) : endsAs (c22_2.heap ⟨e, dst, src, od, nd, os, ns, si⟩).length (some [0, 1, 2]) (c22_2.out ⟨e, dst, src, od, nd, os, ns, si⟩) (c22_2.val ⟨e, dst, src, od, nd, os, ns, si⟩) (goB noSpec noLoop 22 (c22_2.args ⟨e, dst, src, od, nd, os, ns, si⟩) ⟨c22_2.heap ⟨e, dst, src, od, nd, os, ns, si⟩, big, [false, true, false, true, false, true, false, false, false, false, false, false, false, false, false, false, false, false, false, false, false, false], []⟩) = some ((c22_2.out ⟨e, dst, src, od, nd, os, ns, si⟩), (c22_2.val ⟨e, dst, src, od, nd, os, ns, si⟩), [decide ((od + 0) < dst.n), (true && decide ((0 : Int) < ((nd : Nat) : Int))), decide ((od + 1) < dst.n), (true && decide ((1 : Int) < ((nd : Nat) : Int))), (decide (((((si + 1) + 1) + 1) + 1) < ((ns : Nat) : Int)) == false), (decide (((((si + 1) + 1) + 1) + 1) < ((ns : Nat) : Int)) == false), (decide (((((si + 1) + 1) + 1) + 1) < ((ns : Nat) : Int)) == false), (decide (((((si + 1) + 1) + 1) + 1) < ((ns : Nat) : Int)) == false), (decide (((((si + 1) + 1) + 1) + 1) < ((ns : Nat) : Int)) == false), (decide (((((si + 1) + 1) + 1) + 1) < ((ns : Nat) : Int)) == false), (decide (((((si + 1) + 1) + 1) + 1) < ((ns : Nat) : Int)) == false), (decide (((((si + 1) + 1) + 1) + 1) < ((ns : Nat) : Int)) == false), (decide (((((si + 1) + 1) + 1) + 1) < ((ns : Nat) : Int)) == false), ((!(((((src.l.getD (os + ((((((si + 1) + 1) + 1)) : Int).toNat * 1)) (0#8))).toNat : Nat) : Int) == 61)) == false), decide (((((src.l.getD (os + ((((((si + 1) + 1) + 1)) : Int).toNat * 1)) (0#8))).toNat : Nat) : Int) ≤ 2147483647), (((src.l.getD (os + ((((((si + 1) + 1) + 1)) : Int).toNat * 1)) (0#8)) == (13#8)) == false), (((src.l.getD (os + ((((((si + 1) + 1) + 1)) : Int).toNat * 1)) (0#8)) == (10#8)) == false), (((src.l.getD (os + ((((((si + 1) + 1) + 1)) : Int).toNat * 1)) (0#8)) == (10#8)) == false), (((src.l.getD (os + ((((((si + 1) + 1) + 1)) : Int).toNat * 1)) (0#8)) == (10#8)) == false), ((((cp e).l.getD ((64 + (((((((src.l.getD (os + ((((((si + 1) + 1) + 1)) : Int).toNat * 1)) (0#8))).toNat : Nat) : Int)) : Int).toNat * 1)) - 0) (0#8)) != (255#8)) == false), decide (((0 : Nat) ≤ (64 + (((((((src.l.getD (os + ((((((si + 1) + 1) + 1)) : Int).toNat * 1)) (0#8))).toNat : Nat) : Int)) : Int).toNat * 1)) ∧ ((64 + (((((((src.l.getD (os + ((((((si + 1) + 1) + 1)) : Int).toNat * 1)) (0#8))).toNat : Nat) : Int)) : Int).toNat * 1)) + 1) ≤ 320)), (decide ((0 : Int) ≤ ((((src.l.getD (os + ((((((si + 1) + 1) + 1)) : Int).toNat * 1)) (0#8))).toNat : Nat) : Int)) && decide (((((src.l.getD (os + ((((((si + 1) + 1) + 1)) : Int).toNat * 1)) (0#8))).toNat : Nat) : Int) < ((256 : Nat) : Int))), decide (((-9223372036854775808) ≤ ((((si + 1) + 1) + 1) + 1) ∧ ((((si + 1) + 1) + 1) + 1) ≤ 9223372036854775807)), decide ((os + ((((((si + 1) + 1) + 1)) : Int).toNat * 1)) < src.n), (decide ((0 : Int) ≤ (((si + 1) + 1) + 1)) && decide ((((si + 1) + 1) + 1) < ((ns : Nat) : Int))), ((((ns : Nat) : Int) == (((si + 1) + 1) + 1)) == false), ((((cp e).l.getD ((64 + (((((((src.l.getD (os + (((((si + 1) + 1)) : Int).toNat * 1)) (0#8))).toNat : Nat) : Int)) : Int).toNat * 1)) - 0) (0#8)) != (255#8)) == true), decide (((0 : Nat) ≤ (64 + (((((((src.l.getD (os + (((((si + 1) + 1)) : Int).toNat * 1)) (0#8))).toNat : Nat) : Int)) : Int).toNat * 1)) ∧ ((64 + (((((((src.l.getD (os + (((((si + 1) + 1)) : Int).toNat * 1)) (0#8))).toNat : Nat) : Int)) : Int).toNat * 1)) + 1) ≤ 320)), (decide ((0 : Int) ≤ ((((src.l.getD (os + (((((si + 1) + 1)) : Int).toNat * 1)) (0#8))).toNat : Nat) : Int)) && decide (((((src.l.getD (os + (((((si + 1) + 1)) : Int).toNat * 1)) (0#8))).toNat : Nat) : Int) < ((256 : Nat) : Int))), decide (((-9223372036854775808) ≤ (((si + 1) + 1) + 1) ∧ (((si + 1) + 1) + 1) ≤ 9223372036854775807)), decide ((os + (((((si + 1) + 1)) : Int).toNat * 1)) < src.n), (decide ((0 : Int) ≤ ((si + 1) + 1)) && decide (((si + 1) + 1) < ((ns : Nat) : Int))), ((((ns : Nat) : Int) == ((si + 1) + 1)) == false), ((((cp e).l.getD ((64 + (((((((src.l.getD (os + ((((si + 1)) : Int).toNat * 1)) (0#8))).toNat : Nat) : Int)) : Int).toNat * 1)) - 0) (0#8)) != (255#8)) == true), decide (((0 : Nat) ≤ (64 + (((((((src.l.getD (os + ((((si + 1)) : Int).toNat * 1)) (0#8))).toNat : Nat) : Int)) : Int).toNat * 1)) ∧ ((64 + (((((((src.l.getD (os + ((((si + 1)) : Int).toNat * 1)) (0#8))).toNat : Nat) : Int)) : Int).toNat * 1)) + 1) ≤ 320)), (decide ((0 : Int) ≤ ((((src.l.getD (os + ((((si + 1)) : Int).toNat * 1)) (0#8))).toNat : Nat) : Int)) && decide (((((src.l.getD (os + ((((si + 1)) : Int).toNat * 1)) (0#8))).toNat : Nat) : Int) < ((256 : Nat) : Int))), decide (((-9223372036854775808) ≤ ((si + 1) + 1) ∧ ((si + 1) + 1) ≤ 9223372036854775807)), decide ((os + ((((si + 1)) : Int).toNat * 1)) < src.n), (decide ((0 : Int) ≤ (si + 1)) && decide ((si + 1) < ((ns : Nat) : Int))), ((((ns : Nat) : Int) == (si + 1)) == false), ((((cp e).l.getD ((64 + (((((((src.l.getD (os + (((si) : Int).toNat * 1)) (0#8))).toNat : Nat) : Int)) : Int).toNat * 1)) - 0) (0#8)) != (255#8)) == true), decide (((0 : Nat) ≤ (64 + (((((((src.l.getD (os + (((si) : Int).toNat * 1)) (0#8))).toNat : Nat) : Int)) : Int).toNat * 1)) ∧ ((64 + (((((((src.l.getD (os + (((si) : Int).toNat * 1)) (0#8))).toNat : Nat) : Int)) : Int).toNat * 1)) + 1) ≤ 320)), (decide ((0 : Int) ≤ ((((src.l.getD (os + (((si) : Int).toNat * 1)) (0#8))).toNat : Nat) : Int)) && decide (((((src.l.getD (os + (((si) : Int).toNat * 1)) (0#8))).toNat : Nat) : Int) < ((256 : Nat) : Int))), decide (((-9223372036854775808) ≤ (si + 1) ∧ (si + 1) ≤ 9223372036854775807)), decide ((os + (((si) : Int).toNat * 1)) < src.n), (decide ((0 : Int) ≤ si) && decide (si < ((ns : Nat) : Int))), ((((ns : Nat) : Int) == si) == false)]) := by kernel_rfl
set_option maxRecDepth 100000 in
theorem c22_2_read (a : List AV) (K : List Blk) (d : c22_2D) (h : c22_2.read a K = some d) : a = c22_2.args d ∧ K = c22_2.heap d := by
  replace h : c22_2_rd a K = some d := h
  unfold c22_2_rd at h
  split at h
  case h_2 => cases h
  split at h
  case h_2 => cases h
  split at h
  case h_2 => cases h
  rename_i hr hd
  obtain ⟨he, _⟩ := rd8_eq hr
  have ht := (List.take_append_drop 320 _).symm.trans (congr (congrArg HAppend.hAppend he) hd)
  subst ht
  injection h with h; subst h
  exact ⟨rfl, rfl⟩
theorem c22_2_ok : SpecOk Try.prog noGlob 22 c22_2.spec := by
  refine c22_2.ok (goB_ok no_specs (no_loops _)) c22_2_read ?_
  rintro ⟨e, dst, src, od, nd, os, ns, si⟩ hg
  have hg : os + ns ≤ src.n ∧ od + nd ≤ dst.n ∧ 3 ≤ nd ∧ 0 ≤ si ∧ si + 4 = ns ∧ ns ≤ 1000000 ∧ dx e src (os + si.toNat * 1) ≠ 255#8 ∧ dx e src (os + (si + 1).toNat * 1) ≠ 255#8 ∧ dx e src (os + (si + 1 + 1).toNat * 1) ≠ 255#8 ∧ src.l.getD (os + (si + 1 + 1 + 1).toNat * 1) 0#8 = 61#8 ∧ dx e src (os + (si + 1 + 1 + 1).toNat * 1) = 255#8 := of_decide_eq_true hg
  refine ⟨[false, true, false, true, false, true, false, false, false, false, false, false, false, false, false, false, false, false, false, false, false, false], (some [0, 1, 2]), _, c22_2_run e dst src od nd os ns si, ?_⟩
  obtain ⟨g1, g2, g3, g4, g5, g6, h0, h1, h2, h4, h3⟩ := hg
  have hl : ∀ o, (src.l.getD o 0#8).toNat < 256 := fun o => (src.l.getD o 0#8).isLt
  have l0 := hl (os + si.toNat * 1)
  have l1 := hl (os + (si + 1).toNat * 1)
  have l2 := hl (os + (si + 1 + 1).toNat * 1)
  have l3 := hl (os + (si + 1 + 1 + 1).toNat * 1)
  unfold dx at h0 h1 h2 h3
  generalize cp e = E at h0 h1 h2 h3 ⊢
  have h0' := bF h0
  have h1' := bF h1
  have h3' := bT h3
  have h2' := bF h2
  have k4 := b61 h4
  repeat' (refine all_true_cons ?_ ?_)
  all_goals first | exact all_true_nil | (simp only [h0', h1', h3', h2', k4, h4, beq_self_eq_true, Bool.not_false, Bool.not_true, Bool.beq_false, Bool.beq_true]; done) | (simp only [h0', h1', h3', h2', k4, h4, Bool.beq_false]; decide) | (simp only [bne, h0', h1', h3', Bool.not_true, Bool.not_false, beq_self_eq_true]; done) | (rw [h4]; decide) | (rw [h2]; decide) | (simp only [Bool.and_eq_true, decide_eq_true_eq, beq_iff_eq, beq_true, beq_false, Bool.not_eq_true', decide_eq_false_iff_not, beq_eq_false_iff_ne, ne_eq, Bool.not_eq_false', bne_iff_ne, true_and, and_true] <;> omega)
end Go.Proofs.Ytlelgligkkegnaa

/- MD4's blocks: the reference's contract. -/
import Derived.Test.YtaklljigoajpcaaDoorR4Md
namespace Go.Proofs.YtaklljigoajpcaaDoor.M
open Go.Eng
set_option linter.unusedSectionVars false
variable [RowAddr]
set_option linter.unusedSimpArgs false
set_option linter.unusedVariables false
def lgR (k : Nat) (b c d : BitVec 32) : BitVec 32 :=
  match k with
  | 0 => b &&& c ||| ~~~b &&& d
  | 1 => b &&& c ||| b &&& d ||| c &&& d
  | _ => b ^^^ c ^^^ d
structure StpR where
  (f k t : Nat)
  add : BitVec 32
def stepR (m : Vec 32) (p : StpR) (h : W4) : W4 :=
  match h with
  | ⟨a, b, c, d⟩ => ⟨d, rl (a + lgR p.f b c d + m.l.getD p.k 0#32 + p.add) p.t, b, c⟩
def lineR (m : Vec 32) : List StpR → W4 → W4
  | [], h => h
  | p :: ps, h => lineR m ps (stepR m p h)
def linR : List StpR := [⟨0, 0, 3, 0x0#32⟩, ⟨0, 1, 7, 0x0#32⟩, ⟨0, 2, 11, 0x0#32⟩, ⟨0, 3, 19, 0x0#32⟩, ⟨0, 4, 3, 0x0#32⟩, ⟨0, 5, 7, 0x0#32⟩, ⟨0, 6, 11, 0x0#32⟩, ⟨0, 7, 19, 0x0#32⟩, ⟨0, 8, 3, 0x0#32⟩, ⟨0, 9, 7, 0x0#32⟩, ⟨0, 10, 11, 0x0#32⟩, ⟨0, 11, 19, 0x0#32⟩, ⟨0, 12, 3, 0x0#32⟩, ⟨0, 13, 7, 0x0#32⟩, ⟨0, 14, 11, 0x0#32⟩, ⟨0, 15, 19, 0x0#32⟩, ⟨1, 0, 3, 0x5a827999#32⟩, ⟨1, 4, 5, 0x5a827999#32⟩, ⟨1, 8, 9, 0x5a827999#32⟩, ⟨1, 12, 13, 0x5a827999#32⟩, ⟨1, 1, 3, 0x5a827999#32⟩, ⟨1, 5, 5, 0x5a827999#32⟩, ⟨1, 9, 9, 0x5a827999#32⟩, ⟨1, 13, 13, 0x5a827999#32⟩, ⟨1, 2, 3, 0x5a827999#32⟩, ⟨1, 6, 5, 0x5a827999#32⟩, ⟨1, 10, 9, 0x5a827999#32⟩, ⟨1, 14, 13, 0x5a827999#32⟩, ⟨1, 3, 3, 0x5a827999#32⟩, ⟨1, 7, 5, 0x5a827999#32⟩, ⟨1, 11, 9, 0x5a827999#32⟩, ⟨1, 15, 13, 0x5a827999#32⟩, ⟨2, 0, 3, 0x6ed9eba1#32⟩, ⟨2, 8, 9, 0x6ed9eba1#32⟩, ⟨2, 4, 11, 0x6ed9eba1#32⟩, ⟨2, 12, 15, 0x6ed9eba1#32⟩, ⟨2, 2, 3, 0x6ed9eba1#32⟩, ⟨2, 10, 9, 0x6ed9eba1#32⟩, ⟨2, 6, 11, 0x6ed9eba1#32⟩, ⟨2, 14, 15, 0x6ed9eba1#32⟩, ⟨2, 1, 3, 0x6ed9eba1#32⟩, ⟨2, 9, 9, 0x6ed9eba1#32⟩, ⟨2, 5, 11, 0x6ed9eba1#32⟩, ⟨2, 13, 15, 0x6ed9eba1#32⟩, ⟨2, 3, 3, 0x6ed9eba1#32⟩, ⟨2, 11, 9, 0x6ed9eba1#32⟩, ⟨2, 7, 11, 0x6ed9eba1#32⟩, ⟨2, 15, 15, 0x6ed9eba1#32⟩]
def md4R (h : W4) (m : Vec 32) : W4 :=
  let L := lineR m linR h
  ⟨h.x0 + L.x0, h.x1 + L.x1, h.x2 + L.x2, h.x3 + L.x3⟩
structure c30D where
  v : Vec 8
  o : Nat
  n : Nat
def c30_rd (a : List AV) (K : List Blk) : Option c30D :=
    match a with
    | [(.ref (.sl 0 (.s o) (.s n) none))] =>
      match K with
      | [⟨(.b8 v), .ro⟩] => some ⟨v, o, n⟩
      | _ => none
    | _ => none
def c30 : Ct c30D where
  pat := [(.ref (.sl 0 (.s 0) (.s 0) none))]
  patH := [⟨(.b8 (Vec.zero 8 0)), .ro⟩]
  read := c30_rd
  args := fun ⟨_, o, n⟩ => [(.ref (.sl 0 (.s o) (.s n) none))]
  heap := fun ⟨v, _, _⟩ => [⟨(.b8 v), .ro⟩]
  out := fun ⟨v, _, _⟩ => [⟨(.b8 v), .ro⟩]
  val := fun ⟨v, o, _⟩ => (.agg (c32v (wrd v o) 16))
  good := fun ⟨v, o, n⟩ => decide (o + 64 ≤ v.n ∧ 64 ≤ n)
theorem c30_run (v : Vec 8) (o n : Nat) : endsAs (c30.heap ⟨v, o, n⟩).length (some [0]) (c30.out ⟨v, o, n⟩) (c30.val ⟨v, o, n⟩) (goB noSpec noLoop 30 (c30.args ⟨v, o, n⟩) ⟨c30.heap ⟨v, o, n⟩, big, [], []⟩) = some ((c30.out ⟨v, o, n⟩), (c30.val ⟨v, o, n⟩), [decide (((o + 60) + 3) < v.n), (true && decide ((3 : Int) < (((((((n : Nat) : Int)) : Int).toNat - 60) : Nat) : Int))), decide (((o + 60) + 2) < v.n), (true && decide ((2 : Int) < (((((((n : Nat) : Int)) : Int).toNat - 60) : Nat) : Int))), decide (((o + 60) + 1) < v.n), (true && decide ((1 : Int) < (((((((n : Nat) : Int)) : Int).toNat - 60) : Nat) : Int))), decide (((o + 60) + 0) < v.n), (true && decide ((0 : Int) < (((((((n : Nat) : Int)) : Int).toNat - 60) : Nat) : Int))), ((true && decide ((60 : Int) ≤ ((n : Nat) : Int))) && decide (((n : Nat) : Int) ≤ ((n : Nat) : Int))), decide (((o + 56) + 3) < v.n), (true && decide ((3 : Int) < (((((((n : Nat) : Int)) : Int).toNat - 56) : Nat) : Int))), decide (((o + 56) + 2) < v.n), (true && decide ((2 : Int) < (((((((n : Nat) : Int)) : Int).toNat - 56) : Nat) : Int))), decide (((o + 56) + 1) < v.n), (true && decide ((1 : Int) < (((((((n : Nat) : Int)) : Int).toNat - 56) : Nat) : Int))), decide (((o + 56) + 0) < v.n), (true && decide ((0 : Int) < (((((((n : Nat) : Int)) : Int).toNat - 56) : Nat) : Int))), ((true && decide ((56 : Int) ≤ ((n : Nat) : Int))) && decide (((n : Nat) : Int) ≤ ((n : Nat) : Int))), decide (((o + 52) + 3) < v.n), (true && decide ((3 : Int) < (((((((n : Nat) : Int)) : Int).toNat - 52) : Nat) : Int))), decide (((o + 52) + 2) < v.n), (true && decide ((2 : Int) < (((((((n : Nat) : Int)) : Int).toNat - 52) : Nat) : Int))), decide (((o + 52) + 1) < v.n), (true && decide ((1 : Int) < (((((((n : Nat) : Int)) : Int).toNat - 52) : Nat) : Int))), decide (((o + 52) + 0) < v.n), (true && decide ((0 : Int) < (((((((n : Nat) : Int)) : Int).toNat - 52) : Nat) : Int))), ((true && decide ((52 : Int) ≤ ((n : Nat) : Int))) && decide (((n : Nat) : Int) ≤ ((n : Nat) : Int))), decide (((o + 48) + 3) < v.n), (true && decide ((3 : Int) < (((((((n : Nat) : Int)) : Int).toNat - 48) : Nat) : Int))), decide (((o + 48) + 2) < v.n), (true && decide ((2 : Int) < (((((((n : Nat) : Int)) : Int).toNat - 48) : Nat) : Int))), decide (((o + 48) + 1) < v.n), (true && decide ((1 : Int) < (((((((n : Nat) : Int)) : Int).toNat - 48) : Nat) : Int))), decide (((o + 48) + 0) < v.n), (true && decide ((0 : Int) < (((((((n : Nat) : Int)) : Int).toNat - 48) : Nat) : Int))), ((true && decide ((48 : Int) ≤ ((n : Nat) : Int))) && decide (((n : Nat) : Int) ≤ ((n : Nat) : Int))), decide (((o + 44) + 3) < v.n), (true && decide ((3 : Int) < (((((((n : Nat) : Int)) : Int).toNat - 44) : Nat) : Int))), decide (((o + 44) + 2) < v.n), (true && decide ((2 : Int) < (((((((n : Nat) : Int)) : Int).toNat - 44) : Nat) : Int))), decide (((o + 44) + 1) < v.n), (true && decide ((1 : Int) < (((((((n : Nat) : Int)) : Int).toNat - 44) : Nat) : Int))), decide (((o + 44) + 0) < v.n), (true && decide ((0 : Int) < (((((((n : Nat) : Int)) : Int).toNat - 44) : Nat) : Int))), ((true && decide ((44 : Int) ≤ ((n : Nat) : Int))) && decide (((n : Nat) : Int) ≤ ((n : Nat) : Int))), decide (((o + 40) + 3) < v.n), (true && decide ((3 : Int) < (((((((n : Nat) : Int)) : Int).toNat - 40) : Nat) : Int))), decide (((o + 40) + 2) < v.n), (true && decide ((2 : Int) < (((((((n : Nat) : Int)) : Int).toNat - 40) : Nat) : Int))), decide (((o + 40) + 1) < v.n), (true && decide ((1 : Int) < (((((((n : Nat) : Int)) : Int).toNat - 40) : Nat) : Int))), decide (((o + 40) + 0) < v.n), (true && decide ((0 : Int) < (((((((n : Nat) : Int)) : Int).toNat - 40) : Nat) : Int))), ((true && decide ((40 : Int) ≤ ((n : Nat) : Int))) && decide (((n : Nat) : Int) ≤ ((n : Nat) : Int))), decide (((o + 36) + 3) < v.n), (true && decide ((3 : Int) < (((((((n : Nat) : Int)) : Int).toNat - 36) : Nat) : Int))), decide (((o + 36) + 2) < v.n), (true && decide ((2 : Int) < (((((((n : Nat) : Int)) : Int).toNat - 36) : Nat) : Int))), decide (((o + 36) + 1) < v.n), (true && decide ((1 : Int) < (((((((n : Nat) : Int)) : Int).toNat - 36) : Nat) : Int))), decide (((o + 36) + 0) < v.n), (true && decide ((0 : Int) < (((((((n : Nat) : Int)) : Int).toNat - 36) : Nat) : Int))), ((true && decide ((36 : Int) ≤ ((n : Nat) : Int))) && decide (((n : Nat) : Int) ≤ ((n : Nat) : Int))), decide (((o + 32) + 3) < v.n), (true && decide ((3 : Int) < (((((((n : Nat) : Int)) : Int).toNat - 32) : Nat) : Int))), decide (((o + 32) + 2) < v.n), (true && decide ((2 : Int) < (((((((n : Nat) : Int)) : Int).toNat - 32) : Nat) : Int))), decide (((o + 32) + 1) < v.n), (true && decide ((1 : Int) < (((((((n : Nat) : Int)) : Int).toNat - 32) : Nat) : Int))), decide (((o + 32) + 0) < v.n), (true && decide ((0 : Int) < (((((((n : Nat) : Int)) : Int).toNat - 32) : Nat) : Int))), ((true && decide ((32 : Int) ≤ ((n : Nat) : Int))) && decide (((n : Nat) : Int) ≤ ((n : Nat) : Int))), decide (((o + 28) + 3) < v.n), (true && decide ((3 : Int) < (((((((n : Nat) : Int)) : Int).toNat - 28) : Nat) : Int))), decide (((o + 28) + 2) < v.n), (true && decide ((2 : Int) < (((((((n : Nat) : Int)) : Int).toNat - 28) : Nat) : Int))), decide (((o + 28) + 1) < v.n), (true && decide ((1 : Int) < (((((((n : Nat) : Int)) : Int).toNat - 28) : Nat) : Int))), decide (((o + 28) + 0) < v.n), (true && decide ((0 : Int) < (((((((n : Nat) : Int)) : Int).toNat - 28) : Nat) : Int))), ((true && decide ((28 : Int) ≤ ((n : Nat) : Int))) && decide (((n : Nat) : Int) ≤ ((n : Nat) : Int))), decide (((o + 24) + 3) < v.n), (true && decide ((3 : Int) < (((((((n : Nat) : Int)) : Int).toNat - 24) : Nat) : Int))), decide (((o + 24) + 2) < v.n), (true && decide ((2 : Int) < (((((((n : Nat) : Int)) : Int).toNat - 24) : Nat) : Int))), decide (((o + 24) + 1) < v.n), (true && decide ((1 : Int) < (((((((n : Nat) : Int)) : Int).toNat - 24) : Nat) : Int))), decide (((o + 24) + 0) < v.n), (true && decide ((0 : Int) < (((((((n : Nat) : Int)) : Int).toNat - 24) : Nat) : Int))), ((true && decide ((24 : Int) ≤ ((n : Nat) : Int))) && decide (((n : Nat) : Int) ≤ ((n : Nat) : Int))), decide (((o + 20) + 3) < v.n), (true && decide ((3 : Int) < (((((((n : Nat) : Int)) : Int).toNat - 20) : Nat) : Int))), decide (((o + 20) + 2) < v.n), (true && decide ((2 : Int) < (((((((n : Nat) : Int)) : Int).toNat - 20) : Nat) : Int))), decide (((o + 20) + 1) < v.n), (true && decide ((1 : Int) < (((((((n : Nat) : Int)) : Int).toNat - 20) : Nat) : Int))), decide (((o + 20) + 0) < v.n), (true && decide ((0 : Int) < (((((((n : Nat) : Int)) : Int).toNat - 20) : Nat) : Int))), ((true && decide ((20 : Int) ≤ ((n : Nat) : Int))) && decide (((n : Nat) : Int) ≤ ((n : Nat) : Int))), decide (((o + 16) + 3) < v.n), (true && decide ((3 : Int) < (((((((n : Nat) : Int)) : Int).toNat - 16) : Nat) : Int))), decide (((o + 16) + 2) < v.n), (true && decide ((2 : Int) < (((((((n : Nat) : Int)) : Int).toNat - 16) : Nat) : Int))), decide (((o + 16) + 1) < v.n), (true && decide ((1 : Int) < (((((((n : Nat) : Int)) : Int).toNat - 16) : Nat) : Int))), decide (((o + 16) + 0) < v.n), (true && decide ((0 : Int) < (((((((n : Nat) : Int)) : Int).toNat - 16) : Nat) : Int))), ((true && decide ((16 : Int) ≤ ((n : Nat) : Int))) && decide (((n : Nat) : Int) ≤ ((n : Nat) : Int))), decide (((o + 12) + 3) < v.n), (true && decide ((3 : Int) < (((((((n : Nat) : Int)) : Int).toNat - 12) : Nat) : Int))), decide (((o + 12) + 2) < v.n), (true && decide ((2 : Int) < (((((((n : Nat) : Int)) : Int).toNat - 12) : Nat) : Int))), decide (((o + 12) + 1) < v.n), (true && decide ((1 : Int) < (((((((n : Nat) : Int)) : Int).toNat - 12) : Nat) : Int))), decide (((o + 12) + 0) < v.n), (true && decide ((0 : Int) < (((((((n : Nat) : Int)) : Int).toNat - 12) : Nat) : Int))), ((true && decide ((12 : Int) ≤ ((n : Nat) : Int))) && decide (((n : Nat) : Int) ≤ ((n : Nat) : Int))), decide (((o + 8) + 3) < v.n), (true && decide ((3 : Int) < (((((((n : Nat) : Int)) : Int).toNat - 8) : Nat) : Int))), decide (((o + 8) + 2) < v.n), (true && decide ((2 : Int) < (((((((n : Nat) : Int)) : Int).toNat - 8) : Nat) : Int))), decide (((o + 8) + 1) < v.n), (true && decide ((1 : Int) < (((((((n : Nat) : Int)) : Int).toNat - 8) : Nat) : Int))), decide (((o + 8) + 0) < v.n), (true && decide ((0 : Int) < (((((((n : Nat) : Int)) : Int).toNat - 8) : Nat) : Int))), ((true && decide ((8 : Int) ≤ ((n : Nat) : Int))) && decide (((n : Nat) : Int) ≤ ((n : Nat) : Int))), decide (((o + 4) + 3) < v.n), (true && decide ((3 : Int) < (((((((n : Nat) : Int)) : Int).toNat - 4) : Nat) : Int))), decide (((o + 4) + 2) < v.n), (true && decide ((2 : Int) < (((((((n : Nat) : Int)) : Int).toNat - 4) : Nat) : Int))), decide (((o + 4) + 1) < v.n), (true && decide ((1 : Int) < (((((((n : Nat) : Int)) : Int).toNat - 4) : Nat) : Int))), decide (((o + 4) + 0) < v.n), (true && decide ((0 : Int) < (((((((n : Nat) : Int)) : Int).toNat - 4) : Nat) : Int))), ((true && decide ((4 : Int) ≤ ((n : Nat) : Int))) && decide (((n : Nat) : Int) ≤ ((n : Nat) : Int))), decide (((o + 0) + 3) < v.n), (true && decide ((3 : Int) < (((((((n : Nat) : Int)) : Int).toNat - 0) : Nat) : Int))), decide (((o + 0) + 2) < v.n), (true && decide ((2 : Int) < (((((((n : Nat) : Int)) : Int).toNat - 0) : Nat) : Int))), decide (((o + 0) + 1) < v.n), (true && decide ((1 : Int) < (((((((n : Nat) : Int)) : Int).toNat - 0) : Nat) : Int))), decide (((o + 0) + 0) < v.n), (true && decide ((0 : Int) < (((((((n : Nat) : Int)) : Int).toNat - 0) : Nat) : Int))), ((true && decide ((0 : Int) ≤ ((n : Nat) : Int))) && decide (((n : Nat) : Int) ≤ ((n : Nat) : Int)))]) := by kernel_rfl
set_option maxRecDepth 100000 in
theorem c30_read (a : List AV) (K : List Blk) (d : c30D) (h : c30.read a K = some d) : a = c30.args d ∧ K = c30.heap d := by
  replace h : c30_rd a K = some d := h
  unfold c30_rd at h
  split at h
  case h_2 => cases h
  split at h
  case h_2 => cases h
  injection h with h; subst h
  exact ⟨rfl, rfl⟩
theorem c30_ok : SpecOk Tryd.prog noGlob 30 c30.spec := by
  refine c30.ok (goB_ok no_specs (no_loops _)) c30_read ?_
  rintro ⟨v, o, n⟩ hg
  have hg : o + 64 ≤ v.n ∧ 64 ≤ n := of_decide_eq_true hg
  refine ⟨[], (some [0]), _, c30_run v o n, ?_⟩
  repeat' (refine all_true_cons ?_ ?_)
  all_goals first | exact all_true_nil | rfl | (simp only [Bool.and_eq_true, decide_eq_true_eq, beq_iff_eq, beq_true, beq_false, Bool.not_eq_true', decide_eq_false_iff_not, beq_eq_false_iff_ne, ne_eq, Bool.not_eq_false', bne_iff_ne, true_and, and_true]; omega)
structure c29D where
  h : W4
  m : Vec 32
def c29_rd (a : List AV) (K : List Blk) : Option c29D :=
    match a with
    | [(.agg [(.num (.w32 h0)), (.num (.w32 h1)), (.num (.w32 h2)), (.num (.w32 h3))]), (.agg xs_m)] =>
      match K with
      | [] => 
        (match rd32 16 xs_m with
        | some m => some ⟨⟨h0, h1, h2, h3⟩, m⟩
        | none => none)
      | _ => none
    | _ => none
def c29 : Ct c29D where
  pat := [(.agg [(.num (.w32 0#32)), (.num (.w32 0#32)), (.num (.w32 0#32)), (.num (.w32 0#32))]), (.agg (List.replicate 16 (.num (.w32 0#32))))]
  patH := []
  read := c29_rd
  args := fun ⟨h, m⟩ => [(.agg [(.num (.w32 h.x0)), (.num (.w32 h.x1)), (.num (.w32 h.x2)), (.num (.w32 h.x3))]), (.agg (c32v m 16))]
  heap := fun ⟨_, _⟩ => []
  out := fun ⟨_, _⟩ => []
  val := fun ⟨h, m⟩ => (.agg [(.num (.w32 ((md4R h m)).x0)), (.num (.w32 ((md4R h m)).x1)), (.num (.w32 ((md4R h m)).x2)), (.num (.w32 ((md4R h m)).x3))])
  good := fun ⟨_, _⟩ => decide (True)
theorem c29_run (h : W4) (m : Vec 32) : endsAs (c29.heap ⟨h, m⟩).length (some []) (c29.out ⟨h, m⟩) (c29.val ⟨h, m⟩) (goB noSpec noLoop 29 (c29.args ⟨h, m⟩) ⟨c29.heap ⟨h, m⟩, big, [], []⟩) = some ((c29.out ⟨h, m⟩), (c29.val ⟨h, m⟩), []) := by kernel_rfl
set_option maxRecDepth 100000 in
theorem c29_read (a : List AV) (K : List Blk) (d : c29D) (h : c29.read a K = some d) : a = c29.args d ∧ K = c29.heap d := by
  replace h : c29_rd a K = some d := h
  unfold c29_rd at h
  split at h
  case h_2 => cases h
  split at h
  case h_2 => cases h
  split at h
  case h_2 => cases h
  rename_i hr0
  obtain ⟨rfl, _⟩ := rd32_eq hr0
  injection h with h; subst h
  exact ⟨rfl, rfl⟩
theorem c29_ok : SpecOk Tryd.prog noGlob 29 c29.spec := by
  refine c29.ok (goB_ok no_specs (no_loops _)) c29_read ?_
  rintro ⟨h, m⟩ hg
  have hg : True := of_decide_eq_true hg
  refine ⟨[], (some []), _, c29_run h m, ?_⟩
  repeat' (refine all_true_cons ?_ ?_)
  all_goals first | exact all_true_nil | rfl | (simp only [Bool.and_eq_true, decide_eq_true_eq, beq_iff_eq, beq_true, beq_false, Bool.not_eq_true', decide_eq_false_iff_not, beq_eq_false_iff_ne, ne_eq, Bool.not_eq_false', bne_iff_ne, true_and, and_true]; omega)
def specs15 : FuncId → Option Eng.Spec
  | 30 => some c30.spec
  | 29 => some c29.spec
  | _ => none
theorem specs15_ok : ∀ f sp, specs15 f = some sp → SpecOk Tryd.prog noGlob f sp := by
  intro f sp h
  unfold specs15 at h
  split at h
  · injection h with h; subst h; exact c30_ok
  · injection h with h; subst h; exact c29_ok
  · cases h
structure m15D where
  h : W4
  z : W4
  v : Vec 8
  o : Nat
  nb : Nat
  n : Int
def m15_st (d : m15D) : Fr × List Blk :=
  match d with
  | ⟨h, z, v, o, nb, n⟩ => (⟨[(.atom .undef), (.ref (.sl 0 (.s o) (.s nb) none)), (.ref (.ptr 1 (.c 0))), (.atom .undef), (.ref (.ptr 2 (.c 0))), (.atom .undef), (.num (.int .i64 (.s n)))], []⟩, [⟨(.b8 v), .ro⟩, ⟨(.gen [(.num (.w32 h.x0)), (.num (.w32 h.x1)), (.num (.w32 h.x2)), (.num (.w32 h.x3))]), .own⟩, ⟨(.gen [(.num (.w32 z.x0)), (.num (.w32 z.x1)), (.num (.w32 z.x2)), (.num (.w32 z.x3))]), .own⟩])
def m15_next (d : m15D) : m15D :=
  match d with
  | ⟨h, z, v, o, nb, n⟩ => ⟨md4R h (wrd v (o + n.toNat)), z, v, o, nb, n + 64⟩
def m15_rd (F : Fr) (K : List Blk) : Option m15D :=
    match F with
    | ⟨[(.atom .undef), (.ref (.sl 0 (.s o) (.s nb) none)), (.ref (.ptr 1 (.c 0))), (.atom .undef), (.ref (.ptr 2 (.c 0))), (.atom .undef), (.num (.int .i64 (.s n)))], []⟩ =>
      match K with
      | [⟨(.b8 v), .ro⟩, ⟨(.gen [(.num (.w32 h0)), (.num (.w32 h1)), (.num (.w32 h2)), (.num (.w32 h3))]), .own⟩, ⟨(.gen [(.num (.w32 z0)), (.num (.w32 z1)), (.num (.w32 z2)), (.num (.w32 z3))]), .own⟩] => some ⟨⟨h0, h1, h2, h3⟩, ⟨z0, z1, z2, z3⟩, v, o, nb, n⟩
      | _ => none
    | _ => none
def m15 : LoopP m15D where
  pat := ⟨[(.atom .undef), (.ref (.sl 0 (.s 0) (.s 0) none)), (.ref (.ptr 1 (.c 0))), (.atom .undef), (.ref (.ptr 2 (.c 0))), (.atom .undef), (.num (.int .i64 (.s 0)))], []⟩
  patH := [⟨(.b8 (Vec.zero 8 0)), .ro⟩, ⟨(.gen [(.num (.w32 0#32)), (.num (.w32 0#32)), (.num (.w32 0#32)), (.num (.w32 0#32))]), .own⟩, ⟨(.gen [(.num (.w32 0#32)), (.num (.w32 0#32)), (.num (.w32 0#32)), (.num (.w32 0#32))]), .own⟩]
  gh := []
  read := m15_rd
  st := m15_st
  next := m15_next
  rem := fun ⟨_, _, _, _, nb, n⟩ => (nb - n).toNat / 64
  good := fun ⟨_, _, v, o, nb, n⟩ => decide (0 ≤ n ∧ n ≤ nb ∧ o + nb ≤ v.n ∧ nb ≤ 1099511627776)
  out := .exit 0
  fin := m15_st
theorem m15_round (h z : W4) (v : Vec 8) (o nb : Nat) (n : Int) : ranAs ((m15.st ⟨h, z, v, o, nb, n⟩).2.length - m15.gh.length) (some [0, 1, 2]) (m15.st (m15_next ⟨h, z, v, o, nb, n⟩)) (goL specs15 noLoop 15 0 (m15.st ⟨h, z, v, o, nb, n⟩).1 ⟨(m15.st ⟨h, z, v, o, nb, n⟩).2, big, [true], []⟩) = some (.normal, (m15.st (m15_next ⟨h, z, v, o, nb, n⟩)), [decide (((-9223372036854775808) ≤ (n + 64) ∧ (n + 64) ≤ 9223372036854775807)), decide (True), decide ((((o + ((n) : Int).toNat) + 64) ≤ v.n ∧ (64 : Nat) ≤ (((((nb : Nat) : Int)) : Int).toNat - ((n) : Int).toNat))), ((decide ((0 : Int) ≤ n) && decide (n ≤ ((nb : Nat) : Int))) && decide (((nb : Nat) : Int) ≤ ((nb : Nat) : Int))), (decide ((64 : Int) ≤ (((nb : Nat) : Int) - n)) == true), decide (((-9223372036854775808) ≤ (((nb : Nat) : Int) - n) ∧ (((nb : Nat) : Int) - n) ≤ 9223372036854775807))]) := by kernel_rfl
theorem m15_end (h z : W4) (v : Vec 8) (o nb : Nat) (n : Int) : ranAs ((m15.st ⟨h, z, v, o, nb, n⟩).2.length - m15.gh.length) none (m15.fin ⟨h, z, v, o, nb, n⟩) (goL specs15 noLoop 15 0 (m15.st ⟨h, z, v, o, nb, n⟩).1 ⟨(m15.st ⟨h, z, v, o, nb, n⟩).2, big, [false], []⟩) = some (m15.out, (m15.fin ⟨h, z, v, o, nb, n⟩), [(decide ((64 : Int) ≤ (((nb : Nat) : Int) - n)) == false), decide (((-9223372036854775808) ≤ (((nb : Nat) : Int) - n) ∧ (((nb : Nat) : Int) - n) ≤ 9223372036854775807))]) := by kernel_rfl
set_option maxRecDepth 100000 in
theorem m15_read (F : Fr) (K : List Blk) (d : m15D) (h : m15.read F K = some d) : (F, K) = m15.st d := by
  replace h : m15_rd F K = some d := h
  unfold m15_rd at h
  split at h
  case h_2 => cases h
  split at h
  case h_2 => cases h
  injection h with h; subst h
  rfl
theorem m15_body : RunOk Tryd.prog noGlob (nv 15) (ntmpsIn Tryd.prog 15) (loopIn Tryd.prog 15 0) (goL specs15 noLoop 15 0) := goL_ok specs15_ok (no_loops _) 15 0 fine15 (by rw [show (loopsIn Tryd.prog 15).length = 1 by kernel_rfl]; omega)
theorem m15_toldL : LoopOk Tryd.prog noGlob (nv 15) (ntmpsIn Tryd.prog 15) (loopIn Tryd.prog 15 0) m15.T.told := by
  refine m15.ran m15_body (by intro k hk; have hk : k ∈ ([] : List Blk) := hk; cases hk) (by intro h; cases h) m15_read ?_ ?_
  · rintro ⟨h, z, v, o, nb, n⟩ kk hg hr
    have hg : 0 ≤ n ∧ n ≤ nb ∧ o + nb ≤ v.n ∧ nb ≤ 1099511627776 := of_decide_eq_true hg
    have hr : (nb - n).toNat / 64 = kk + 1 := hr
    have en : m15.next ⟨h, z, v, o, nb, n⟩ = m15_next ⟨h, z, v, o, nb, n⟩ := rfl
    rw [en]
    refine ⟨⟨[true], (some [0, 1, 2]), _, m15_round h z v o nb n, ?_⟩, ?_, ?_, (show (m15.st (m15_next ⟨h, z, v, o, nb, n⟩)).2.length = 3 by kernel_rfl).trans (show (m15.st ⟨h, z, v, o, nb, n⟩).2.length = 3 by kernel_rfl).symm⟩
    · repeat' (refine all_true_cons ?_ ?_)
      all_goals first | exact all_true_nil | rfl | (simp only [Bool.and_eq_true, decide_eq_true_eq, beq_iff_eq, beq_true, beq_false, Bool.not_eq_true', decide_eq_false_iff_not, beq_eq_false_iff_ne, ne_eq, Bool.not_eq_false', bne_iff_ne, true_and, and_true]; omega)
    · have e : m15.good (m15_next ⟨h, z, v, o, nb, n⟩) = decide (0 ≤ (n + 64 : Int) ∧ (n + 64 : Int) ≤ nb ∧ o + nb ≤ v.n ∧ nb ≤ 1099511627776) := by kernel_rfl
      refine e.trans (decide_eq_true ?_)
      omega
    · have e : m15.rem (m15_next ⟨h, z, v, o, nb, n⟩) = ((nb - (n + 64 : Int)).toNat / 64) := by kernel_rfl
      refine e.trans ?_
      omega
  · rintro ⟨h, z, v, o, nb, n⟩ hg hr
    have hg : 0 ≤ n ∧ n ≤ nb ∧ o + nb ≤ v.n ∧ nb ≤ 1099511627776 := of_decide_eq_true hg
    have hr : (nb - n).toNat / 64 = 0 := hr
    refine ⟨[false], none, _, m15_end h z v o nb n, ?_⟩
    repeat' (refine all_true_cons ?_ ?_)
    all_goals first | exact all_true_nil | rfl | (simp only [Bool.and_eq_true, decide_eq_true_eq, beq_iff_eq, beq_true, beq_false, Bool.not_eq_true', decide_eq_false_iff_not, beq_eq_false_iff_ne, ne_eq, Bool.not_eq_false', bne_iff_ne, true_and, and_true]; omega)
def m15_spec : LSpec := m15.T.told
theorem m15_told : Told 15 0 m15_spec := m15_toldL.run
def m15s : FuncId → Nat → Option LSpec
  | 15, 2 => some m15_spec
  | _, _ => none
theorem m15s_len : (loopsIn Tryd.prog 15).length = 1 := by kernel_rfl
theorem m15s_ok (spec : FuncId → Option Eng.Spec) : LoopsOk (cfg spec m15s) noGlob := by
  refine LoopsOk.of fun f => ?_
  by_cases hf : f = 15
  · subst hf
    refine .inr ⟨by kernel_rfl, fun i hi sp hsp => ?_⟩
    have hi : i < (loopsIn Tryd.prog 15).length := hi
    rw [m15s_len] at hi
    match i, hi with
    | 0, _ =>
      have e : (firstRid (loopIn Tryd.prog 15 0)).bind (m15s 15) = some m15_spec := by kernel_rfl
      obtain rfl := Option.some.inj (e.symm.trans hsp)
      exact m15_told
  · refine .inl fun r => ?_
    show m15s f r = none
    unfold m15s
    split
    · exact absurd rfl hf
    · rfl
def mdAllR (h : W4) (v : Vec 8) (o : Nat) : Nat → W4
  | 0 => h
  | k + 1 => md4R (mdAllR h v o k) (wrd v (o + 64 * k))
def z4 : W4 := ⟨0#32, 0#32, 0#32, 0#32⟩
def e15 (h : W4) (v : Vec 8) (o nb : Nat) : m15D := iter m15_next ((nb - 0 : Int).toNat / 64) ⟨h, z4, v, o, nb, 0⟩
theorem m15_it (h z : W4) (v : Vec 8) (o nb : Nat) : ∀ k : Nat, iter m15_next k ⟨h, z, v, o, nb, 0⟩ = ⟨mdAllR h v o k, z, v, o, nb, (64 * k : Nat)⟩
  | 0 => rfl
  | k + 1 => by
    rw [iter_succ, m15_it h z v o nb k]
    show (⟨md4R (mdAllR h v o k) (wrd v (o + ((64 * k : Nat) : Int).toNat)), z, v, o, nb, ((64 * k : Nat) : Int) + 64⟩ : m15D) = _
    rw [show ((64 * k : Nat) : Int).toNat = 64 * k by omega, show ((64 * k : Nat) : Int) + 64 = ((64 * (k + 1) : Nat) : Int) by omega]
    rfl
theorem e15_eq (h : W4) (v : Vec 8) (o nb : Nat) : (e15 h v o nb).h = mdAllR h v o (nb / 64) ∧ (e15 h v o nb).n = (64 * (nb / 64) : Nat) := by
  unfold e15
  rw [m15_it, show ((nb : Int) - 0).toNat / 64 = nb / 64 by omega]
  exact ⟨rfl, rfl⟩
structure c15D where
  h : W4
  v : Vec 8
  o : Nat
  nb : Nat
def c15_rd (a : List AV) (K : List Blk) : Option c15D :=
    match a with
    | [(.agg [(.num (.w32 h0)), (.num (.w32 h1)), (.num (.w32 h2)), (.num (.w32 h3))]), (.ref (.sl 0 (.s o) (.s nb) none))] =>
      match K with
      | [⟨(.b8 v), .ro⟩] => some ⟨⟨h0, h1, h2, h3⟩, v, o, nb⟩
      | _ => none
    | _ => none
def c15 : Ct c15D where
  pat := [(.agg [(.num (.w32 0#32)), (.num (.w32 0#32)), (.num (.w32 0#32)), (.num (.w32 0#32))]), (.ref (.sl 0 (.s 0) (.s 0) none))]
  patH := [⟨(.b8 (Vec.zero 8 0)), .ro⟩]
  read := c15_rd
  args := fun ⟨h, _, o, nb⟩ => [(.agg [(.num (.w32 h.x0)), (.num (.w32 h.x1)), (.num (.w32 h.x2)), (.num (.w32 h.x3))]), (.ref (.sl 0 (.s o) (.s nb) none))]
  heap := fun ⟨_, v, _, _⟩ => [⟨(.b8 v), .ro⟩]
  out := fun ⟨_, v, _, _⟩ => [⟨(.b8 v), .ro⟩]
  val := fun ⟨h, v, o, nb⟩ => (.obj .tup [(.agg [(.num (.w32 ((mdAllR h v o (nb / 64))).x0)), (.num (.w32 ((mdAllR h v o (nb / 64))).x1)), (.num (.w32 ((mdAllR h v o (nb / 64))).x2)), (.num (.w32 ((mdAllR h v o (nb / 64))).x3))]), (.num (.int .i64 (.s (64 * (nb / 64) : Nat))))])
  good := fun ⟨_, v, o, nb⟩ => decide (o + nb ≤ v.n ∧ nb ≤ 1099511627776)
theorem c15_run (h : W4) (v : Vec 8) (o nb : Nat) : endsAs (c15.heap ⟨h, v, o, nb⟩).length (some [0]) (c15.out ⟨h, v, o, nb⟩) (.obj .tup [(.agg [(.num (.w32 (((e15 h v o nb)).h).x0)), (.num (.w32 (((e15 h v o nb)).h).x1)), (.num (.w32 (((e15 h v o nb)).h).x2)), (.num (.w32 (((e15 h v o nb)).h).x3))]), (.num (.int .i64 (.s ((e15 h v o nb)).n)))]) (goB specs15 m15s 15 (c15.args ⟨h, v, o, nb⟩) ⟨c15.heap ⟨h, v, o, nb⟩, big, [], []⟩) = some ((c15.out ⟨h, v, o, nb⟩), (.obj .tup [(.agg [(.num (.w32 (((e15 h v o nb)).h).x0)), (.num (.w32 (((e15 h v o nb)).h).x1)), (.num (.w32 (((e15 h v o nb)).h).x2)), (.num (.w32 (((e15 h v o nb)).h).x3))]), (.num (.int .i64 (.s ((e15 h v o nb)).n)))]), [m15.good ⟨h, z4, v, o, nb, 0⟩]) := by kernel_rfl
set_option maxRecDepth 100000 in
theorem c15_read (a : List AV) (K : List Blk) (d : c15D) (h : c15.read a K = some d) : a = c15.args d ∧ K = c15.heap d := by
  replace h : c15_rd a K = some d := h
  unfold c15_rd at h
  split at h
  case h_2 => cases h
  split at h
  case h_2 => cases h
  injection h with h; subst h
  exact ⟨rfl, rfl⟩
theorem c15_ok : SpecOk Tryd.prog noGlob 15 c15.spec := by
  refine c15.ok (goB_ok specs15_ok (m15s_ok _)) c15_read ?_
  rintro ⟨h, v, o, nb⟩ hg
  have hg : o + nb ≤ v.n ∧ nb ≤ 1099511627776 := of_decide_eq_true hg
  have eo : c15.out ⟨h, v, o, nb⟩ = [⟨(.b8 v), .ro⟩] := by
    rfl
  have ev : c15.val ⟨h, v, o, nb⟩ = (.obj .tup [(.agg [(.num (.w32 (((e15 h v o nb)).h).x0)), (.num (.w32 (((e15 h v o nb)).h).x1)), (.num (.w32 (((e15 h v o nb)).h).x2)), (.num (.w32 (((e15 h v o nb)).h).x3))]), (.num (.int .i64 (.s ((e15 h v o nb)).n)))]) := by
    obtain ⟨e1, e2⟩ := e15_eq h v o nb
    rw [e1, e2]
    rfl
  rw [eo, ev]
  refine ⟨[], (some [0]), _, c15_run h v o nb, ?_⟩
  refine all_true_cons ?_ all_true_nil
  refine (show m15.good ⟨h, z4, v, o, nb, 0⟩ = decide (0 ≤ (0 : Int) ∧ (0 : Int) ≤ nb ∧ o + nb ≤ v.n ∧ nb ≤ 1099511627776) by kernel_rfl).trans (decide_eq_true ?_)
  omega
theorem ch_same (b c d : BitVec 32) : ((c ^^^ d) &&& b) ^^^ d = b &&& c ||| ~~~b &&& d := by
  refine BitVec.eq_of_getLsbD_eq fun i hi => ?_
  simp only [BitVec.getLsbD_xor, BitVec.getLsbD_and, BitVec.getLsbD_or, BitVec.getLsbD_not, hi, decide_true, Bool.true_and]
  cases b.getLsbD i <;> cases c.getLsbD i <;> cases d.getLsbD i <;> rfl
theorem lg_same (k : Nat) (b c d : BitVec 32) : lg4 k b c d = lgR k b c d :=
  match k with
  | 0 => ch_same b c d
  | 1 => rfl
  | _ + 2 => rfl
def toR4 (p : Stp4) : StpR :=
  match p with
  | ⟨f, k, t, some a⟩ => ⟨f, k, t, a⟩
  | ⟨f, k, t, none⟩ => ⟨f, k, t, 0#32⟩
theorem step_same (m : Vec 32) (p : Stp4) (h : W4) : step4 m p h = stepR m (toR4 p) h := by
  obtain ⟨f, k, t, add⟩ := p
  obtain ⟨a, b, c, d⟩ := h
  cases add with
  | none =>
    show (⟨d, rl (a + (lg4 f b c d + m.l.getD k 0#32)) t, b, c⟩ : W4) = ⟨d, rl (a + lgR f b c d + m.l.getD k 0#32 + 0#32) t, b, c⟩
    rw [lg_same, ← BitVec.add_assoc, BitVec.add_zero]
  | some x =>
    show (⟨d, rl (a + (lg4 f b c d + m.l.getD k 0#32 + x)) t, b, c⟩ : W4) = ⟨d, rl (a + lgR f b c d + m.l.getD k 0#32 + x) t, b, c⟩
    rw [lg_same, ← BitVec.add_assoc, ← BitVec.add_assoc]
theorem line_same (m : Vec 32) : ∀ (l : List Stp4) (h : W4), line4 m l h = lineR m (l.map toR4) h
  | [], h => rfl
  | p :: ps, h => by
    show line4 m ps (step4 m p h) = lineR m (ps.map toR4) (stepR m (toR4 p) h)
    rw [step_same, line_same m ps]
theorem lin_same : linR = lin4.map toR4 := by kernel_rfl
theorem md_same (h : W4) (m : Vec 32) : md4 h m = md4R h m := by
  unfold md4 md4R
  rw [lin_same, line_same]
  simp only [BitVec.add_comm]
theorem all_same (h : W4) (v : Vec 8) (o : Nat) : ∀ k, mdAll h v o k = mdAllR h v o k
  | 0 => rfl
  | k + 1 => by
    show md4 (mdAll h v o k) _ = md4R (mdAllR h v o k) _
    rw [all_same h v o k, md_same]
end Go.Proofs.YtaklljigoajpcaaDoor.M

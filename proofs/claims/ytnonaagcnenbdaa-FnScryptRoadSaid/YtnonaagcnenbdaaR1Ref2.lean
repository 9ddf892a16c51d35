/- The reference's mix of blocks: its loop. -/
import Derived.Test.YtnonaagcnenbdaaR1Ref1
namespace Go.Proofs.Ytnonaagcnenbdaa
open Go.Eng
set_option linter.unusedSectionVars false
variable [RowAddr]
def specs25 : FuncId → Option Eng.Spec
  | 28 => some sp28
  | 32 => some c32.spec
  | _ => none
theorem specs25_ok : ∀ f sp, specs25 f = some sp → SpecOk Try.prog noGlob f sp := by
  intro f sp h
  unfold specs25 at h
  split at h
  · injection h with h; subst h; exact ok28
  · injection h with h; subst h; exact c32_ok
  · cases h
/-- 64 bytes of a row, as cells again. -/
def cp64 (y : Vec 8) : Vec 8 := Vec.of ((List.range 64).map fun i => y.l.getD i 0#8)
/-- So many bytes put over 64 zeros. -/
def ldX (u : Vec 8) (k : Nat) : Vec 8 := Vec.of ((List.range 64).map fun i => ((Vec.of (List.replicate 64 0#8)).over 0 (u.sub 0 k)).l.getD (0 + i) 0#8)
inductive M25 where
  | a (v : Vec 8) (o n ol nl : Nat) (N : Int)
  | b (v y ev : Vec 8) (o n ne : Nat) (N : Int)
  | c (v y ev od : Vec 8) (o n ne no : Nat) (N i : Int)
def M25.st : M25 → Fr × List Blk
  | .a v o n ol nl N => (⟨[.sl 0 (.s o) (.s n) none, .undef, .undef, .int .i64 (.s N), .sl 0 (.s ol) (.s nl) none, .nils, .nils, .int .i64 (.c 0), .undef, .undef], []⟩, [⟨.b8 v, .ro⟩])
  | .b v y ev o n ne N => (⟨[.sl 0 (.s o) (.s n) none, .undef, .undef, .int .i64 (.s N), .sl 1 (.c 0) (.c 64) none, .sl 2 (.c 0) (.s ne) none, .nils, .int .i64 (.c 1), .undef, .undef], []⟩, [⟨.b8 v, .ro⟩, ⟨.gen (c8v y 64), .ro⟩, ⟨.b8 ev, .own⟩])
  | .c v y ev od o n ne no N i => (⟨[.sl 0 (.s o) (.s n) none, .undef, .undef, .int .i64 (.s N), .sl 1 (.c 0) (.c 64) none, .sl 2 (.c 0) (.s ne) none, .sl 3 (.c 0) (.s no) none, .int .i64 (.s i), .undef, .undef], []⟩, [⟨.b8 v, .ro⟩, ⟨.gen (c8v y 64), .ro⟩, ⟨.b8 ev, .own⟩, ⟨.b8 od, .own⟩])
def M25.y : M25 → Vec 8
  | .a _ _ _ _ _ _ => Vec.of []
  | .b _ y _ _ _ _ _ => y
  | .c _ y _ _ _ _ _ _ _ _ => y
def M25.ev : M25 → Vec 8
  | .a _ _ _ _ _ _ => Vec.of []
  | .b _ _ ev _ _ _ _ => ev
  | .c _ _ ev _ _ _ _ _ _ _ => ev
def M25.od : M25 → Vec 8
  | .c _ _ _ od _ _ _ _ _ _ => od
  | _ => Vec.of []
def M25.ne : M25 → Nat
  | .c _ _ _ _ _ _ ne _ _ _ => ne
  | _ => 0
def M25.no : M25 → Nat
  | .c _ _ _ _ _ _ _ no _ _ => no
  | _ => 0
def M25.v : M25 → Vec 8
  | .a v _ _ _ _ _ => v
  | .b v _ _ _ _ _ _ => v
  | .c v _ _ _ _ _ _ _ _ _ => v
def M25.fin (d : M25) : Fr × List Blk := (⟨[.undef, .undef, .undef, .undef, .undef, .sl 2 (.c 0) (.s d.ne) none, .sl 3 (.c 0) (.s d.no) none, .undef, .undef, .undef], []⟩, [⟨.b8 d.v, .ro⟩, ⟨.gen [], .dead⟩, ⟨.b8 d.ev, .own⟩, ⟨.b8 d.od, .own⟩])
def yA (v : Vec 8) (o ol nl : Nat) : Vec 8 := core8 (ldX (xoV v ol v o nl) (Nat.min nl 64))
def yB (v y : Vec 8) (o : Nat) : Vec 8 := core8 (ldX (xoV (cp64 y) 0 v o 64) 64)
def nextA (v : Vec 8) (o n ol nl : Nat) (N : Int) : M25 := .b v (yA v o ol nl) (cp64 (yA v o ol nl)) o n 64 N
def nextB (v y ev : Vec 8) (o n ne : Nat) (N : Int) : M25 := .c v (yB v y (o + 64)) ev (cp64 (yB v y (o + 64))) o n ne 64 N 2
def nextE (v y ev od : Vec 8) (o n ne no : Nat) (N i : Int) : M25 := .c v (yB v y (o + (64 * i).toNat)) (ev.app (cp64 (yB v y (o + (64 * i).toNat)))) od o n (ne + 64) no N (i + 1)
def nextO (v y ev od : Vec 8) (o n ne no : Nat) (N i : Int) : M25 := .c v (yB v y (o + (64 * i).toNat)) ev (od.app (cp64 (yB v y (o + (64 * i).toNat)))) o n ne (no + 64) N (i + 1)
def M25.next : M25 → M25
  | .a v o n ol nl N => nextA v o n ol nl N
  | .b v y ev o n ne N => nextB v y ev o n ne N
  | .c v y ev od o n ne no N i =>
    match decide (Int.tmod i 2 = 0) with
    | true => nextE v y ev od o n ne no N i
    | false => nextO v y ev od o n ne no N i
def M25.rem : M25 → Nat
  | .a _ _ _ _ _ N => N.toNat
  | .b _ _ _ _ _ _ N => (N - 1).toNat
  | .c _ _ _ _ _ _ _ _ N i => (N - i).toNat
def M25.good : M25 → Bool
  | .a v o n ol nl N => decide (2 ≤ N ∧ N ≤ 1000000 ∧ N % 2 = 0 ∧ (n : Int) = 64 * N ∧ o + n ≤ v.n ∧ nl = 64 ∧ ol + 64 ≤ v.n)
  | .b v _ ev o n ne N => decide (2 ≤ N ∧ N ≤ 1000000 ∧ N % 2 = 0 ∧ (n : Int) = 64 * N ∧ o + n ≤ v.n ∧ ne = 64 ∧ ev.n = 64)
  | .c v _ ev od o n ne no N i => decide (2 ≤ i ∧ i ≤ N ∧ N ≤ 1000000 ∧ N % 2 = 0 ∧ (n : Int) = 64 * N ∧ o + n ≤ v.n ∧ ne = ev.n ∧ no = od.n ∧ (ne : Int) = 64 * ((i + 1) / 2) ∧ (no : Int) = 64 * (i / 2))
def m25 : LoopP M25 where
  pat := ⟨[(.ref (.sl 0 (.s 0) (.s 0) none)), (.atom .undef), (.atom .undef), (.num (.int .i64 (.s 0))), (.ref (.sl 0 (.s 0) (.s 0) none)), (.atom .nils), (.atom .nils), (.num (.int .i64 (.c 0))), (.atom .undef), (.atom .undef)], []⟩
  patH := [⟨.b8 (Vec.zero 8 0), .ro⟩]
  gh := []
  read F K :=
    match F with
    | ⟨[(.ref (.sl 0 (.s o) (.s n) none)), (.atom .undef), (.atom .undef), (.num (.int .i64 (.s N))), (.ref (.sl 0 (.s ol) (.s nl) none)), (.atom .nils), (.atom .nils), (.num (.int .i64 (.c 0))), (.atom .undef), (.atom .undef)], []⟩ =>
      match K with
      | [⟨.b8 v, .ro⟩] => some (.a v o n ol nl N)
      | _ => none
    | _ => none
  st := M25.st
  next := M25.next
  rem := M25.rem
  good := M25.good
  out := .exit 0
  fin := M25.fin
theorem rA (v : Vec 8) (o n ol nl : Nat) (N : Int) : ranAs 1 (some [0, 3, 4]) (M25.st (nextA v o n ol nl N)) (goL specs25 noLoop 25 0 (M25.st (.a v o n ol nl N)).1 ⟨(M25.st (.a v o n ol nl N)).2, big, [true], []⟩) = some (.normal, (M25.st (nextA v o n ol nl N)), [decide (True), decide ((64 : Nat) ≤ 64), decide (((0 + (((((0 : Nat) : Int)) : Int).toNat * 1)) + (Nat.min nl (((((64 : Nat) : Int)) : Int).toNat - ((((0 : Nat) : Int)) : Int).toNat))) ≤ 64), decide ((0 + (Nat.min nl (((((64 : Nat) : Int)) : Int).toNat - ((((0 : Nat) : Int)) : Int).toNat))) ≤ nl), decide ((nl = 64 ∧ ((ol + nl) ≤ v.n ∧ (((o + 0) + 64) ≤ v.n ∧ nl ≤ 1099511627776)))), ((true && true) && decide ((64 : Int) ≤ ((n : Nat) : Int))), (decide ((0 : Int) < N) == true)]) := by kernel_rfl
theorem rB (v y ev : Vec 8) (o n ne : Nat) (N : Int) : ranAs 1 (some [0, 5, 2, 6]) (M25.st (nextB v y ev o n ne N)) (goL specs25 noLoop 25 0 (M25.st (.b v y ev o n ne N)).1 ⟨(M25.st (.b v y ev o n ne N)).2, big, [true], []⟩) = some (.normal, (M25.st (nextB v y ev o n ne N)), [decide (True), decide ((64 : Nat) ≤ 64), decide (((0 + (((((0 : Nat) : Int)) : Int).toNat * 1)) + (Nat.min 64 (((((64 : Nat) : Int)) : Int).toNat - ((((0 : Nat) : Int)) : Int).toNat))) ≤ 64), decide ((0 + (Nat.min 64 (((((64 : Nat) : Int)) : Int).toNat - ((((0 : Nat) : Int)) : Int).toNat))) ≤ 64), decide (((64 : Nat) = 64 ∧ ((64 : Nat) ≤ 64 ∧ (((o + 64) + 64) ≤ v.n ∧ (64 : Nat) ≤ 1099511627776)))), ((true && true) && decide ((128 : Int) ≤ ((n : Nat) : Int))), (decide ((1 : Int) < N) == true)]) := by kernel_rfl
theorem rE (v y ev od : Vec 8) (o n ne no : Nat) (N i : Int) : ranAs 1 (some [0, 6, 7, 3]) (M25.st (nextE v y ev od o n ne no N i)) (goL specs25 noLoop 25 0 (M25.st (.c v y ev od o n ne no N i)).1 ⟨(M25.st (.c v y ev od o n ne no N i)).2, big, [true, true], []⟩) = some (.normal, (M25.st (nextE v y ev od o n ne no N i)), [decide (((-9223372036854775808) ≤ (i + 1) ∧ (i + 1) ≤ 9223372036854775807)), (true && (ne == ev.n)), decide (((ne + (((((64 : Nat) : Int)) : Int).toNat - ((((0 : Nat) : Int)) : Int).toNat)) * 1) ≤ 1099511627776), (((Int.tmod i 2) == 0) == true), decide ((2 : Int) ≠ 0), decide (True), decide ((64 : Nat) ≤ 64), decide (((0 + (((((0 : Nat) : Int)) : Int).toNat * 1)) + (Nat.min 64 (((((64 : Nat) : Int)) : Int).toNat - ((((0 : Nat) : Int)) : Int).toNat))) ≤ 64), decide ((0 + (Nat.min 64 (((((64 : Nat) : Int)) : Int).toNat - ((((0 : Nat) : Int)) : Int).toNat))) ≤ 64), decide (((64 : Nat) = (((((64 * i) + 64)) : Int).toNat - (((64 * i)) : Int).toNat) ∧ ((64 : Nat) ≤ 64 ∧ (((o + (((64 * i)) : Int).toNat) + (((((64 * i) + 64)) : Int).toNat - (((64 * i)) : Int).toNat)) ≤ v.n ∧ (64 : Nat) ≤ 1099511627776)))), ((decide ((0 : Int) ≤ (64 * i)) && decide ((64 * i) ≤ ((64 * i) + 64))) && decide (((64 * i) + 64) ≤ ((n : Nat) : Int))), decide (((-9223372036854775808) ≤ ((64 * i) + 64) ∧ ((64 * i) + 64) ≤ 9223372036854775807)), decide (((-9223372036854775808) ≤ (64 * i) ∧ (64 * i) ≤ 9223372036854775807)), decide (((-9223372036854775808) ≤ (64 * i) ∧ (64 * i) ≤ 9223372036854775807)), (decide (i < N) == true)]) := by kernel_rfl
theorem rO (v y ev od : Vec 8) (o n ne no : Nat) (N i : Int) : ranAs 1 (some [0, 6, 2, 7]) (M25.st (nextO v y ev od o n ne no N i)) (goL specs25 noLoop 25 0 (M25.st (.c v y ev od o n ne no N i)).1 ⟨(M25.st (.c v y ev od o n ne no N i)).2, big, [true, false], []⟩) = some (.normal, (M25.st (nextO v y ev od o n ne no N i)), [decide (((-9223372036854775808) ≤ (i + 1) ∧ (i + 1) ≤ 9223372036854775807)), (true && (no == od.n)), decide (((no + (((((64 : Nat) : Int)) : Int).toNat - ((((0 : Nat) : Int)) : Int).toNat)) * 1) ≤ 1099511627776), (((Int.tmod i 2) == 0) == false), decide ((2 : Int) ≠ 0), decide (True), decide ((64 : Nat) ≤ 64), decide (((0 + (((((0 : Nat) : Int)) : Int).toNat * 1)) + (Nat.min 64 (((((64 : Nat) : Int)) : Int).toNat - ((((0 : Nat) : Int)) : Int).toNat))) ≤ 64), decide ((0 + (Nat.min 64 (((((64 : Nat) : Int)) : Int).toNat - ((((0 : Nat) : Int)) : Int).toNat))) ≤ 64), decide (((64 : Nat) = (((((64 * i) + 64)) : Int).toNat - (((64 * i)) : Int).toNat) ∧ ((64 : Nat) ≤ 64 ∧ (((o + (((64 * i)) : Int).toNat) + (((((64 * i) + 64)) : Int).toNat - (((64 * i)) : Int).toNat)) ≤ v.n ∧ (64 : Nat) ≤ 1099511627776)))), ((decide ((0 : Int) ≤ (64 * i)) && decide ((64 * i) ≤ ((64 * i) + 64))) && decide (((64 * i) + 64) ≤ ((n : Nat) : Int))), decide (((-9223372036854775808) ≤ ((64 * i) + 64) ∧ ((64 * i) + 64) ≤ 9223372036854775807)), decide (((-9223372036854775808) ≤ (64 * i) ∧ (64 * i) ≤ 9223372036854775807)), decide (((-9223372036854775808) ≤ (64 * i) ∧ (64 * i) ≤ 9223372036854775807)), (decide (i < N) == true)]) := by kernel_rfl
theorem rF (v y ev od : Vec 8) (o n ne no : Nat) (N i : Int) : ranAs 1 none (M25.fin (.c v y ev od o n ne no N i)) (goL specs25 noLoop 25 0 (M25.st (.c v y ev od o n ne no N i)).1 ⟨(M25.st (.c v y ev od o n ne no N i)).2, big, [false], []⟩) = some ((.exit 0), (M25.fin (.c v y ev od o n ne no N i)), [(decide (i < N) == false)]) := by kernel_rfl
theorem app_n {w : Nat} (a b : Vec w) : (a.app b).n = a.n + b.n := rfl
theorem step25 (d : M25) (kk : Nat) (hg : d.good = true) (hr : d.rem = kk + 1) : (∃ dec rs cs, ranAs 1 rs (M25.st d.next) (goL specs25 noLoop 25 0 (M25.st d).1 ⟨(M25.st d).2, big, dec, []⟩) = some (.normal, M25.st d.next, cs) ∧ (∀ x ∈ cs, x = true)) ∧ d.next.good = true ∧ d.next.rem = kk := by
  match d, hg, hr with
  | .a v o n ol nl N, hg, hr =>
    obtain ⟨g1, g2, g3, g4, g5, g6, g7⟩ := of_decide_eq_true hg
    have hr : N.toNat = kk + 1 := hr
    subst g6
    refine ⟨⟨[true], some [0, 3, 4], _, rA v o n ol 64 N, ?_⟩, ?_, ?_⟩
    · repeat' (refine all_true_cons ?_ ?_)
      all_goals first | exact all_true_nil | rfl | (simp only [Bool.and_eq_true, decide_eq_true_eq, beq_iff_eq, beq_true, beq_false, Bool.not_eq_true', decide_eq_false_iff_not, beq_eq_false_iff_ne, ne_eq, Bool.not_eq_false', bne_iff_ne, true_and, and_true]; omega)
    · show decide _ = true
      exact decide_eq_true ⟨g1, g2, g3, g4, g5, rfl, rfl⟩
    · show (N - 1).toNat = kk
      omega
  | .b v y ev o n ne N, hg, hr =>
    obtain ⟨g1, g2, g3, g4, g5, g6, g7⟩ := of_decide_eq_true hg
    have hr : (N - 1).toNat = kk + 1 := hr
    refine ⟨⟨[true], some [0, 5, 2, 6], _, rB v y ev o n ne N, ?_⟩, ?_, ?_⟩
    · repeat' (refine all_true_cons ?_ ?_)
      all_goals first | exact all_true_nil | rfl | (simp only [Bool.and_eq_true, decide_eq_true_eq, beq_iff_eq, beq_true, beq_false, Bool.not_eq_true', decide_eq_false_iff_not, beq_eq_false_iff_ne, ne_eq, Bool.not_eq_false', bne_iff_ne, true_and, and_true]; omega)
    · show decide _ = true
      have e : (cp64 (yB v y (o + 64))).n = 64 := rfl
      exact decide_eq_true ⟨by omega, by omega, g2, g3, g4, g5, by omega, by omega, by omega, by omega⟩
    · show (N - 2).toNat = kk
      omega
  | .c v y ev od o n ne no N i, hg, hr =>
    obtain ⟨g1, g2, g3, g4, g5, g6, g7, g8, g9, g10⟩ := of_decide_eq_true hg
    have hr : (N - i).toNat = kk + 1 := hr
    have hm := Int.tmod_eq_emod_of_nonneg (b := 2) (show 0 ≤ i by omega)
    have e : (cp64 (yB v y (o + (64 * i).toNat))).n = 64 := rfl
    by_cases hs : Int.tmod i 2 = 0
    · have en : M25.next (.c v y ev od o n ne no N i) = nextE v y ev od o n ne no N i := by
        show (match decide (Int.tmod i 2 = 0) with | true => nextE v y ev od o n ne no N i | false => nextO v y ev od o n ne no N i) = _
        rw [decide_eq_true hs]
      rw [en]
      refine ⟨⟨[true, true], some [0, 6, 7, 3], _, rE v y ev od o n ne no N i, ?_⟩, ?_, ?_⟩
      · repeat' (refine all_true_cons ?_ ?_)
        all_goals first | exact all_true_nil | rfl | (simp only [Bool.and_eq_true, decide_eq_true_eq, beq_iff_eq, beq_true, beq_false, Bool.not_eq_true', decide_eq_false_iff_not, beq_eq_false_iff_ne, ne_eq, Bool.not_eq_false', bne_iff_ne, true_and, and_true]; omega)
      · show decide _ = true
        refine decide_eq_true ⟨by omega, by omega, g3, g4, g5, g6, ?_, g8, by omega, by omega⟩
        rw [app_n, e]; omega
      · show (N - (i + 1)).toNat = kk
        omega
    · have en : M25.next (.c v y ev od o n ne no N i) = nextO v y ev od o n ne no N i := by
        show (match decide (Int.tmod i 2 = 0) with | true => nextE v y ev od o n ne no N i | false => nextO v y ev od o n ne no N i) = _
        rw [decide_eq_false hs]
      rw [en]
      refine ⟨⟨[true, false], some [0, 6, 2, 7], _, rO v y ev od o n ne no N i, ?_⟩, ?_, ?_⟩
      · repeat' (refine all_true_cons ?_ ?_)
        all_goals first | exact all_true_nil | rfl | (simp only [Bool.and_eq_true, decide_eq_true_eq, beq_iff_eq, beq_true, beq_false, Bool.not_eq_true', decide_eq_false_iff_not, beq_eq_false_iff_ne, ne_eq, Bool.not_eq_false', bne_iff_ne, true_and, and_true]; omega)
      · show decide _ = true
        refine decide_eq_true ⟨by omega, by omega, g3, g4, g5, g6, g7, ?_, by omega, by omega⟩
        rw [app_n, e]; omega
      · show (N - (i + 1)).toNat = kk
        omega
theorem m25_body : RunOk Try.prog noGlob (nv 25) (ntmpsIn Try.prog 25) (loopIn Try.prog 25 0) (goL specs25 noLoop 25 0) := goL_ok specs25_ok (no_loops _) 25 0 fine25 (by rw [show (loopsIn Try.prog 25).length = 1 by kernel_rfl]; omega)
theorem m25_read (F : Fr) (K : List Blk) (d : M25) (h : m25.read F K = some d) : (F, K) = m25.st d ∧ 1 + m25.gh.length = K.length := by
  simp only [m25] at h
  split at h
  case h_2 => cases h
  split at h
  case h_2 => cases h
  injection h with h; subst h
  exact ⟨rfl, rfl⟩
theorem m25_toldL : LoopOk Try.prog noGlob (nv 25) (ntmpsIn Try.prog 25) (loopIn Try.prog 25 0) m25.T.told := by
  refine m25.ranN (fun _ => 1) m25_body (by intro k hk; simp [m25] at hk; done) (by intro h; cases h) m25_read (fun d k hg hr => ?_) (fun d hg hr => ?_)
  · obtain ⟨h1, h2, h3⟩ := step25 d k hg hr
    exact ⟨h1, h2, h3, rfl⟩
  · match d, hg, hr with
    | .a v o n ol nl N, hg, hr =>
      obtain ⟨g1, g2, g3, g4, g5, g6, g7⟩ := of_decide_eq_true hg
      have hr : N.toNat = 0 := hr
      omega
    | .b v y ev o n ne N, hg, hr =>
      obtain ⟨g1, g2, g3, g4, g5, g6, g7⟩ := of_decide_eq_true hg
      have hr : (N - 1).toNat = 0 := hr
      omega
    | .c v y ev od o n ne no N i, hg, hr =>
      obtain ⟨g1, g2, g3, g4, g5, g6, g7, g8, g9, g10⟩ := of_decide_eq_true hg
      have hr : (N - i).toNat = 0 := hr
      refine ⟨[false], none, _, rF v y ev od o n ne no N i, ?_⟩
      repeat' (refine all_true_cons ?_ ?_)
      all_goals first | exact all_true_nil | rfl | (simp only [Bool.and_eq_true, decide_eq_true_eq, beq_iff_eq, beq_true, beq_false, Bool.not_eq_true', decide_eq_false_iff_not, beq_eq_false_iff_ne, ne_eq, Bool.not_eq_false', bne_iff_ne, true_and, and_true]; omega)
def loops25 : FuncId → Nat → Option LSpec
  | 25, 7 => some m25.T.told
  | _, _ => none
theorem loops25_len : (loopsIn Try.prog 25).length = 1 := by kernel_rfl
theorem loops25_ok (spec : FuncId → Option Eng.Spec) : LoopsOk (cfg spec loops25) noGlob := by
  refine LoopsOk.of fun f => ?_
  by_cases hf : f = 25
  · subst hf
    refine .inr ⟨by kernel_rfl, fun i hi sp hsp => ?_⟩
    have hi : i < (loopsIn Try.prog 25).length := hi
    rw [loops25_len] at hi
    match i, hi with
    | 0, _ =>
      have e : (firstRid (loopIn Try.prog 25 0)).bind (loops25 25) = some m25.T.told := by kernel_rfl
      obtain rfl := Option.some.inj (e.symm.trans hsp)
      exact m25_toldL.run
  · refine .inl fun r => ?_
    show loops25 f r = none
    unfold loops25
    split
    · exact absurd rfl hf
    · rfl
/-- Where the loop ends. -/
def f25 (v : Vec 8) (o n : Nat) : M25 := iter M25.next (Int.tdiv n 64).toNat (.a v o n (o + (64 * (Int.tdiv n 64 - 1)).toNat) (n - (64 * (Int.tdiv n 64 - 1)).toNat) (Int.tdiv n 64))
def st25 (v : Vec 8) (o n : Nat) : M25 := .a v o n (o + (64 * (Int.tdiv n 64 - 1)).toNat) (n - (64 * (Int.tdiv n 64 - 1)).toNat) (Int.tdiv n 64)
theorem run25 (v : Vec 8) (o n : Nat) : endsAs 1 (some [0, 4]) [⟨.b8 v, .ro⟩, ⟨.b8 ((f25 v o n).ev.app ((f25 v o n).od.sub 0 (f25 v o n).no)), .own⟩] (.sl 1 (.c 0) (.s ((f25 v o n).ne + (f25 v o n).no)) none) (goB specs25 loops25 25 [.sl 0 (.s o) (.s n) none] ⟨[⟨.b8 v, .ro⟩], big, List.replicate 6 false, []⟩) = some ([⟨.b8 v, .ro⟩, ⟨.b8 ((f25 v o n).ev.app ((f25 v o n).od.sub 0 (f25 v o n).no)), .own⟩], (.sl 1 (.c 0) (.s ((f25 v o n).ne + (f25 v o n).no)) none), [(true && ((f25 v o n).ne == (f25 v o n).ev.n)), decide (((f25 v o n).ne + (f25 v o n).no) * 1 ≤ 1099511627776), decide (0 + (f25 v o n).no ≤ (f25 v o n).od.n), M25.good (st25 v o n), ((decide ((0 : Int) ≤ (64 * ((Int.tdiv ((n : Nat) : Int) 64) - 1))) && decide ((64 * ((Int.tdiv ((n : Nat) : Int) 64) - 1)) ≤ ((n : Nat) : Int))) && decide (((n : Nat) : Int) ≤ ((n : Nat) : Int))), decide (((-9223372036854775808) ≤ (64 * ((Int.tdiv ((n : Nat) : Int) 64) - 1)) ∧ (64 * ((Int.tdiv ((n : Nat) : Int) 64) - 1)) ≤ 9223372036854775807)), decide (((-9223372036854775808) ≤ ((Int.tdiv ((n : Nat) : Int) 64) - 1) ∧ ((Int.tdiv ((n : Nat) : Int) 64) - 1) ≤ 9223372036854775807)), ((!((Int.tmod ((n : Nat) : Int) 128) == 0)) == false), (((Int.tdiv ((n : Nat) : Int) 64) == 0) == false), (((Int.tdiv ((n : Nat) : Int) 64) == 0) == false), decide ((128 : Int) ≠ 0), (((Int.tdiv ((n : Nat) : Int) 64) == 0) == false), (((Int.tdiv ((n : Nat) : Int) 64) == 0) == false), (((Int.tdiv ((n : Nat) : Int) 64) == 0) == false), decide (((0 : Int) ≤ ((n : Nat) : Int) ∧ ((0 : Int) < 64 ∧ ((n : Nat) : Int) ≤ 9223372036854775807)))]) := by kernel_rfl
end Go.Proofs.Ytnonaagcnenbdaa

/- bcrypt's letters: the encoding, and bytes in letters. -/
import Derived.Test.YtlelgligkkegnaaE1E
namespace Go.Proofs.Ytlelgligkkegnaa
open Go.Eng
set_option linter.unusedSimpArgs false
set_option linter.unusedVariables false
def encV : Vec 8 := Vec.of [46#8, 47#8, 65#8, 66#8, 67#8, 68#8, 69#8, 70#8, 71#8, 72#8, 73#8, 74#8, 75#8, 76#8, 77#8, 78#8, 79#8, 80#8, 81#8, 82#8, 83#8, 84#8, 85#8, 86#8, 87#8, 88#8, 89#8, 90#8, 97#8, 98#8, 99#8, 100#8, 101#8, 102#8, 103#8, 104#8, 105#8, 106#8, 107#8, 108#8, 109#8, 110#8, 111#8, 112#8, 113#8, 114#8, 115#8, 116#8, 117#8, 118#8, 119#8, 120#8, 121#8, 122#8, 48#8, 49#8, 50#8, 51#8, 52#8, 53#8, 54#8, 55#8, 56#8, 57#8, 255#8, 255#8, 255#8, 255#8, 255#8, 255#8, 255#8, 255#8, 255#8, 255#8, 255#8, 255#8, 255#8, 255#8, 255#8, 255#8, 255#8, 255#8, 255#8, 255#8, 255#8, 255#8, 255#8, 255#8, 255#8, 255#8, 255#8, 255#8, 255#8, 255#8, 255#8, 255#8, 255#8, 255#8, 255#8, 255#8, 255#8, 255#8, 255#8, 255#8, 255#8, 255#8, 255#8, 255#8, 255#8, 255#8, 0#8, 1#8, 54#8, 55#8, 56#8, 57#8, 58#8, 59#8, 60#8, 61#8, 62#8, 63#8, 255#8, 255#8, 255#8, 255#8, 255#8, 255#8, 255#8, 2#8, 3#8, 4#8, 5#8, 6#8, 7#8, 8#8, 9#8, 10#8, 11#8, 12#8, 13#8, 14#8, 15#8, 16#8, 17#8, 18#8, 19#8, 20#8, 21#8, 22#8, 23#8, 24#8, 25#8, 26#8, 27#8, 255#8, 255#8, 255#8, 255#8, 255#8, 255#8, 28#8, 29#8, 30#8, 31#8, 32#8, 33#8, 34#8, 35#8, 36#8, 37#8, 38#8, 39#8, 40#8, 41#8, 42#8, 43#8, 44#8, 45#8, 46#8, 47#8, 48#8, 49#8, 50#8, 51#8, 52#8, 53#8, 255#8, 255#8, 255#8, 255#8, 255#8, 255#8, 255#8, 255#8, 255#8, 255#8, 255#8, 255#8, 255#8, 255#8, 255#8, 255#8, 255#8, 255#8, 255#8, 255#8, 255#8, 255#8, 255#8, 255#8, 255#8, 255#8, 255#8, 255#8, 255#8, 255#8, 255#8, 255#8, 255#8, 255#8, 255#8, 255#8, 255#8, 255#8, 255#8, 255#8, 255#8, 255#8, 255#8, 255#8, 255#8, 255#8, 255#8, 255#8, 255#8, 255#8, 255#8, 255#8, 255#8, 255#8, 255#8, 255#8, 255#8, 255#8, 255#8, 255#8, 255#8, 255#8, 255#8, 255#8, 255#8, 255#8, 255#8, 255#8, 255#8, 255#8, 255#8, 255#8, 255#8, 255#8, 255#8, 255#8, 255#8, 255#8, 255#8, 255#8, 255#8, 255#8, 255#8, 255#8, 255#8, 255#8, 255#8, 255#8, 255#8, 255#8, 255#8, 255#8, 255#8, 255#8, 255#8, 255#8, 255#8, 255#8, 255#8, 255#8, 255#8, 255#8, 255#8, 255#8, 255#8, 255#8, 255#8, 255#8, 255#8, 255#8, 255#8, 255#8, 255#8, 255#8, 255#8, 255#8, 255#8, 255#8, 255#8, 255#8, 255#8, 255#8, 255#8, 255#8, 255#8, 255#8, 255#8, 255#8, 255#8, 255#8, 255#8, 255#8, 255#8]
structure c13D where
  unit : Unit := ()
def c13_rd (a : List AV) (K : List Blk) : Option c13D :=
    match a with
    | [] =>
      match K with
      | [] => some ⟨()⟩
      | _ => none
    | _ => none
def c13 : Ct c13D where
  pat := []
  patH := []
  read := c13_rd
  args := fun ⟨_⟩ => []
  heap := fun ⟨_⟩ => []
  out := fun ⟨_⟩ => [⟨(.gen ([] ++ c8v encV 320 ++ [(.num (.int .i32 (.c 61))), (.atom (.bool (.c false)))])), .own⟩]
  val := fun ⟨_⟩ => (.ref (.ptr 0 (.c 0)))
  good := fun ⟨_⟩ => decide (True)
theorem c13_run  : endsAs (c13.heap ⟨()⟩).length (some [0]) (c13.out ⟨()⟩) (c13.val ⟨()⟩) (goB noSpec noLoop 13 (c13.args ⟨()⟩) ⟨c13.heap ⟨()⟩, big, [], []⟩) = some ((c13.out ⟨()⟩), (c13.val ⟨()⟩), []) := by kernel_rfl
set_option maxRecDepth 100000 in
theorem c13_read (a : List AV) (K : List Blk) (d : c13D) (h : c13.read a K = some d) : a = c13.args d ∧ K = c13.heap d := by
  replace h : c13_rd a K = some d := h
  unfold c13_rd at h
  split at h
  case h_2 => cases h
  split at h
  case h_2 => cases h
  injection h with h; subst h
  exact ⟨rfl, rfl⟩
theorem c13_ok : SpecOk Try.prog noGlob 13 c13.spec := by
  refine c13.ok (goB_ok no_specs (no_loops _)) c13_read ?_
  rintro ⟨_⟩ hg
  have hg : True := of_decide_eq_true hg
  refine ⟨[], (some [0]), _, c13_run , ?_⟩
  repeat' (refine all_true_cons ?_ ?_)
  all_goals first | exact all_true_nil | rfl | (simp only [Bool.and_eq_true, decide_eq_true_eq, beq_iff_eq, beq_true, beq_false, Bool.not_eq_true', decide_eq_false_iff_not, beq_eq_false_iff_ne, ne_eq, Bool.not_eq_false', bne_iff_ne, true_and, and_true] <;> omega)
structure c14D where
  e : Vec 8
  n : Int
def c14_rd (a : List AV) (K : List Blk) : Option c14D :=
    match a with
    | [(.ref (.ptr 0 (.c 0))), (.num (.int .i64 (.s n)))] =>
      match K with
      | [⟨(.gen (ys_e)), .own⟩] => 
        (match rd8 320 (ys_e.take 320), ys_e.drop 320 with
        | some e, [(.num (.int .i32 (.c 61))), (.atom (.bool (.c false)))] => some ⟨e, n⟩
        | _, _ => none)
      | _ => none
    | _ => none
def c14 : Ct c14D where
  pat := [(.ref (.ptr 0 (.c 0))), (.num (.int .i64 (.s 0)))]
  patH := [⟨(.gen ([] ++ List.replicate 320 (.num (.w8 0#8)) ++ [(.num (.int .i32 (.c 61))), (.atom (.bool (.c false)))])), .own⟩]
  read := c14_rd
  args := fun ⟨_, n⟩ => [(.ref (.ptr 0 (.c 0))), (.num (.int .i64 (.s n)))]
  heap := fun ⟨e, _⟩ => [⟨(.gen ([] ++ c8v e 320 ++ [(.num (.int .i32 (.c 61))), (.atom (.bool (.c false)))])), .own⟩]
  out := fun ⟨e, _⟩ => [⟨(.gen ([] ++ c8v e 320 ++ [(.num (.int .i32 (.c 61))), (.atom (.bool (.c false)))])), .own⟩]
  val := fun ⟨_, n⟩ => (.num (.int .i64 (.s (Int.tdiv (n + 2) 3 * 4))))
  good := fun ⟨_, n⟩ => decide (0 ≤ n ∧ n ≤ 100000)
theorem c14_run (e : Vec 8) (n : Int) : endsAs (c14.heap ⟨e, n⟩).length (some [0]) (c14.out ⟨e, n⟩) (c14.val ⟨e, n⟩) (goB noSpec noLoop 14 (c14.args ⟨e, n⟩) ⟨c14.heap ⟨e, n⟩, big, [], []⟩) = some ((c14.out ⟨e, n⟩), (c14.val ⟨e, n⟩), [decide (((-9223372036854775808) ≤ ((Int.tdiv (n + 2) 3) * 4) ∧ ((Int.tdiv (n + 2) 3) * 4) ≤ 9223372036854775807)), decide (((0 : Int) ≤ (n + 2) ∧ ((0 : Int) < 3 ∧ (n + 2) ≤ 9223372036854775807))), decide (((-9223372036854775808) ≤ (n + 2) ∧ (n + 2) ≤ 9223372036854775807))]) := by kernel_rfl
set_option maxRecDepth 100000 in
theorem c14_read (a : List AV) (K : List Blk) (d : c14D) (h : c14.read a K = some d) : a = c14.args d ∧ K = c14.heap d := by
  replace h : c14_rd a K = some d := h
  unfold c14_rd at h
  split at h
  case h_2 => cases h
  split at h
  case h_2 => cases h
  split at h
  case h_2 => cases h
  rename_i hr hd
  obtain ⟨he, _⟩ := rd8_eq hr
  have ht := (List.take_append_drop 320 _).symm.trans (congr (congrArg HAppend.hAppend he) hd)
  subst ht
  injection h with h; subst h
  exact ⟨rfl, rfl⟩
theorem c14_ok : SpecOk Try.prog noGlob 14 c14.spec := by
  refine c14.ok (goB_ok no_specs (no_loops _)) c14_read ?_
  rintro ⟨e, n⟩ hg
  have hg : 0 ≤ n ∧ n ≤ 100000 := of_decide_eq_true hg
  refine ⟨[], (some [0]), _, c14_run e n, ?_⟩
  have ht := Int.tdiv_eq_ediv_of_nonneg (b := 3) (show 0 ≤ n + 2 by omega)
  repeat' (refine all_true_cons ?_ ?_)
  all_goals first | exact all_true_nil | rfl | (simp only [Bool.and_eq_true, decide_eq_true_eq, beq_iff_eq, beq_true, beq_false, Bool.not_eq_true', decide_eq_false_iff_not, beq_eq_false_iff_ne, ne_eq, Bool.not_eq_false', bne_iff_ne, true_and, and_true] <;> omega)
def spB : FuncId → Option Eng.Spec
  | 13 => some c13.spec
  | 14 => some c14.spec
  | _ => none
theorem spB_ok : ∀ f sp, spB f = some sp → SpecOk Try.prog noGlob f sp := by
  intro f sp h
  unfold spB at h
  split at h
  · injection h with h; subst h; exact c13_ok
  · injection h with h; subst h; exact c14_ok
  · cases h
theorem vset_get (v : Vec 8) (i j : Nat) (x : BitVec 8) : (v.set i x).l.getD j 0#8 = if i = j ∧ i < v.n then x else v.l.getD j 0#8 := by
  show (v.l.set i x).getD j 0#8 = _
  rw [← v.h]
  simp only [List.getD_eq_getElem?_getD, List.getElem?_set]
  by_cases h : i = j
  · subst h
    by_cases h2 : i < v.l.length
    · simp [h2]
    · simp [h2]
  · simp [h]
theorem vset_n (v : Vec 8) (i : Nat) (x : BitVec 8) : (v.set i x).n = v.n := rfl
def ltr (k : Nat) : BitVec 8 := encV.l.getD k 0#8
theorem ex_cp (e : Vec 8) (k : BitVec 64) : ex e k = (cp e).l.getD k.toNat 0#8 := by
  unfold ex
  rw [show 0 + ((k.toNat : Nat) : Int).toNat * 1 - 0 = k.toNat by omega]
theorem ex_ltr (k : BitVec 64) (h : k.toNat < 64) : ex (cp (cp encV)) k = ltr k.toNat := by
  rw [ex_cp, cp_cp, cp_cp, cp_get _ _ (by omega)]; rfl
theorem ltr_ok : ∀ k : Fin 64, (ltr k.val == 61#8) = false := by decide
theorem ltr_ne (k : Nat) (h : k < 64) : (ltr k == 61#8) = false := ltr_ok ⟨k, h⟩
theorem put4_at (e d : Vec 8) (o : Nat) (w : BitVec 64) (h : o + 3 < d.n) (i : Nat) (hi : i = o + 3) : (put4 e d o w).l.getD i 0#8 = ex e (w &&& 63#64) := by
  subst hi
  unfold put4
  rw [vset_get, if_pos ⟨rfl, h⟩]
theorem put3_at3 (e d : Vec 8) (o : Nat) (w : BitVec 64) (h : o + 3 < d.n) (i : Nat) (hi : i = o + 3) : (put3 e d o w).l.getD i 0#8 = 61#8 := by
  subst hi
  unfold put3
  rw [vset_get, if_pos ⟨rfl, h⟩]
theorem put3_at2 (e d : Vec 8) (o : Nat) (w : BitVec 64) (h : o + 3 < d.n) (i : Nat) (hi : i = o + 2) : (put3 e d o w).l.getD i 0#8 = ex e ((w >>> 6) &&& 63#64) := by
  subst hi
  unfold put3
  rw [vset_get, if_neg (by omega), vset_get, if_pos ⟨rfl, by show o + 2 < d.n; omega⟩]
theorem put2_at3 (e d : Vec 8) (o : Nat) (w : BitVec 64) (h : o + 3 < d.n) (i : Nat) (hi : i = o + 3) : (put2 e d o w).l.getD i 0#8 = 61#8 := by
  subst hi
  unfold put2
  rw [vset_get, if_pos ⟨rfl, h⟩]
theorem put2_at2 (e d : Vec 8) (o : Nat) (w : BitVec 64) (h : o + 3 < d.n) (i : Nat) (hi : i = o + 2) : (put2 e d o w).l.getD i 0#8 = 61#8 := by
  subst hi
  unfold put2
  rw [vset_get, if_neg (by omega), vset_get, if_pos ⟨rfl, by show o + 2 < d.n; omega⟩]
theorem put2_at1 (e d : Vec 8) (o : Nat) (w : BitVec 64) (h : o + 3 < d.n) (i : Nat) (hi : i = o + 1) : (put2 e d o w).l.getD i 0#8 = ex e ((w >>> 12) &&& 63#64) := by
  subst hi
  unfold put2
  rw [vset_get, if_neg (by omega), vset_get, if_neg (by omega), vset_get, if_pos ⟨rfl, by show o + 1 < d.n; omega⟩]
theorem ex_ne (x : BitVec 64) : (ex (cp (cp encV)) (x &&& 63#64) == 61#8) = false := by
  rw [ex_ltr _ (b63 _)]
  exact ltr_ne _ (b63 _)
theorem encD_last (src d : Vec 8) (os m i : Nat) (hm : 1 ≤ m) (hd : 4 * m ≤ d.n) (hi : i = 4 * m - 1) : ((encD (cp (cp encV)) src 0 os m d).l.getD i 0#8 == 61#8) = false := by
  obtain ⟨k, rfl⟩ : ∃ k, m = k + 1 := ⟨m - 1, by omega⟩
  show ((put4 (cp (cp encV)) (encD (cp (cp encV)) src 0 os k d) (0 + 4 * k) (v24 src (os + 3 * k))).l.getD i 0#8 == 61#8) = false
  rw [put4_at _ _ _ _ (by rw [encD_n]; omega) i (by omega)]
  exact ex_ne _
/-- Bytes in letters, filled up. -/
def full (r : Nat) (src : Vec 8) (os ns : Nat) : Vec 8 :=
  match r with
  | 0 => encD (cp (cp encV)) src 0 os (ns / 3) (Vec.zero 8 ((ns + 2) / 3 * 4))
  | 1 => put2 (cp (cp encV)) (encD (cp (cp encV)) src 0 os (ns / 3) (Vec.zero 8 ((ns + 2) / 3 * 4))) (0 + 4 * (ns / 3)) (v8 src (os + 3 * (ns / 3)))
  | _ => put3 (cp (cp encV)) (encD (cp (cp encV)) src 0 os (ns / 3) (Vec.zero 8 ((ns + 2) / 3 * 4))) (0 + 4 * (ns / 3)) (v16 src (os + 3 * (ns / 3)))
def fullT (r : Nat) (src : Vec 8) (os ns : Nat) (k : Int) : Vec 8 :=
  match r with
  | 0 => encD (cp (cp encV)) src 0 os (ns / 3) (Vec.zero 8 k.toNat)
  | 1 => put2 (cp (cp encV)) (encD (cp (cp encV)) src 0 os (ns / 3) (Vec.zero 8 k.toNat)) (0 + 4 * (ns / 3)) (v8 src (os + 3 * (ns / 3)))
  | _ => put3 (cp (cp encV)) (encD (cp (cp encV)) src 0 os (ns / 3) (Vec.zero 8 k.toNat)) (0 + 4 * (ns / 3)) (v16 src (os + 3 * (ns / 3)))
theorem fullT_eq (r : Nat) (src : Vec 8) (os ns : Nat) (k : Int) (h : k.toNat = (ns + 2) / 3 * 4) : fullT r src os ns k = full r src os ns := by
  unfold fullT full
  rw [h]
theorem tdiv3 (ns : Nat) : Int.tdiv ((ns : Int) + 2) 3 * 4 = (((ns + 2) / 3 * 4 : Nat) : Int) := by
  rw [Int.tdiv_eq_ediv_of_nonneg (by omega)]; omega
def spE0 : FuncId → Option Eng.Spec
  | 13 => some c13.spec
  | 14 => some c14.spec
  | 15 => some c15_0.spec
  | _ => none
theorem spE0_ok : ∀ f sp, spE0 f = some sp → SpecOk Try.prog noGlob f sp := by
  intro f sp h
  unfold spE0 at h
  split at h
  · injection h with h; subst h; exact c13_ok
  · injection h with h; subst h; exact c14_ok
  · injection h with h; subst h; exact c15_0_ok
  · cases h
structure c11_0D where
  src : Vec 8
  os : Nat
  ns : Nat
def c11_0_rd (a : List AV) (K : List Blk) : Option c11_0D :=
    match a with
    | [(.ref (.sl 0 (.s os) (.s ns) none))] =>
      match K with
      | [⟨(.b8 src), .ro⟩] => some ⟨src, os, ns⟩
      | _ => none
    | _ => none
def c11_0 : Ct c11_0D where
  pat := [(.ref (.sl 0 (.s 0) (.s 0) none))]
  patH := [⟨(.b8 (Vec.zero 8 0)), .ro⟩]
  read := c11_0_rd
  args := fun ⟨_, os, ns⟩ => [(.ref (.sl 0 (.s os) (.s ns) none))]
  heap := fun ⟨src, _, _⟩ => [⟨(.b8 src), .ro⟩]
  out := fun ⟨src, os, ns⟩ => [⟨(.b8 src), .ro⟩, ⟨(.b8 (full 0 src os ns)), .own⟩]
  val := fun ⟨_, _, ns⟩ => (.ref (.sl 1 (.c 0) (.s ((ns + 2) / 3 * 4 - 0)) (some (.s ((ns + 2) / 3 * 4)))))
  good := fun ⟨src, os, ns⟩ => decide (os + ns ≤ src.n ∧ 1 ≤ ns ∧ ns % 3 = 0 ∧ ns ≤ 100000)
theorem c11_0_run (src : Vec 8) (os ns : Nat) : endsAs (c11_0.heap ⟨src, os, ns⟩).length (some [0, 2]) [⟨(.b8 src), .ro⟩, ⟨(.b8 (fullT 0 src os ns (Int.tdiv ((ns : Nat) + 2 : Int) 3 * 4))), .own⟩] (.ref (.sl 1 (.c 0) (.s (((Int.tdiv ((ns : Nat) + 2 : Int) 3 * 4) : Int)).toNat) (some (.s ((Int.tdiv ((ns : Nat) + 2 : Int) 3 * 4)).toNat)))) (goB spE0 noLoop 11 (c11_0.args ⟨src, os, ns⟩) ⟨c11_0.heap ⟨src, os, ns⟩, big, [false], []⟩) = some ([⟨(.b8 src), .ro⟩, ⟨(.b8 (fullT 0 src os ns (Int.tdiv ((ns : Nat) + 2 : Int) 3 * 4))), .own⟩], (.ref (.sl 1 (.c 0) (.s (((Int.tdiv ((ns : Nat) + 2 : Int) 3 * 4) : Int)).toNat) (some (.s ((Int.tdiv ((ns : Nat) + 2 : Int) 3 * 4)).toNat)))), [((true && decide (((0 : Nat) : Int) ≤ ((Int.tdiv (((ns : Nat) : Int) + 2) 3) * 4))) && decide (((Int.tdiv (((ns : Nat) : Int) + 2) 3) * 4) ≤ ((((((Int.tdiv (((ns : Nat) : Int) + 2) 3) * 4)) : Int).toNat : Nat) : Int))), ((((encD (cp (cp encV)) src 0 os (ns / 3) (Vec.zero 8 ((((Int.tdiv (((ns : Nat) : Int) + 2) 3) * 4)) : Int).toNat)).l.getD (0 + ((((((Int.tdiv (((ns : Nat) : Int) + 2) 3) * 4) - 1)) : Int).toNat * 1)) (0#8)) == (61#8)) == false), decide ((0 + ((((((Int.tdiv (((ns : Nat) : Int) + 2) 3) * 4) - 1)) : Int).toNat * 1)) < (encD (cp (cp encV)) src 0 os (ns / 3) (Vec.zero 8 ((((Int.tdiv (((ns : Nat) : Int) + 2) 3) * 4)) : Int).toNat)).n), (decide ((0 : Int) ≤ (((Int.tdiv (((ns : Nat) : Int) + 2) 3) * 4) - 1)) && decide ((((Int.tdiv (((ns : Nat) : Int) + 2) 3) * 4) - 1) < ((((((Int.tdiv (((ns : Nat) : Int) + 2) 3) * 4)) : Int).toNat : Nat) : Int))), decide (((-9223372036854775808) ≤ (((Int.tdiv (((ns : Nat) : Int) + 2) 3) * 4) - 1) ∧ (((Int.tdiv (((ns : Nat) : Int) + 2) 3) * 4) - 1) ≤ 9223372036854775807)), decide (((os + ns) ≤ src.n ∧ ((0 + ((((Int.tdiv (((ns : Nat) : Int) + 2) 3) * 4)) : Int).toNat) ≤ ((((Int.tdiv (((ns : Nat) : Int) + 2) 3) * 4)) : Int).toNat ∧ ((((ns + 2) / 3) * 4) ≤ ((((Int.tdiv (((ns : Nat) : Int) + 2) 3) * 4)) : Int).toNat ∧ ((1 : Nat) ≤ ns ∧ ((ns % 3) = 0 ∧ (ns ≤ 100000 ∧ ((((Int.tdiv (((ns : Nat) : Int) + 2) 3) * 4)) : Int).toNat ≤ 1000000))))))), decide (True), decide ((((((Int.tdiv (((ns : Nat) : Int) + 2) 3) * 4)) : Int).toNat * 1) ≤ 1099511627776), ((decide ((0 : Int) ≤ ((Int.tdiv (((ns : Nat) : Int) + 2) 3) * 4)) && decide (((Int.tdiv (((ns : Nat) : Int) + 2) 3) * 4) ≤ ((Int.tdiv (((ns : Nat) : Int) + 2) 3) * 4))) && decide (((Int.tdiv (((ns : Nat) : Int) + 2) 3) * 4) ≤ 1099511627776)), decide (((0 : Int) ≤ ((ns : Nat) : Int) ∧ ((ns : Nat) : Int) ≤ 100000)), decide (True)]) := by kernel_rfl
set_option maxRecDepth 100000 in
theorem c11_0_read (a : List AV) (K : List Blk) (d : c11_0D) (h : c11_0.read a K = some d) : a = c11_0.args d ∧ K = c11_0.heap d := by
  replace h : c11_0_rd a K = some d := h
  unfold c11_0_rd at h
  split at h
  case h_2 => cases h
  split at h
  case h_2 => cases h
  injection h with h; subst h
  exact ⟨rfl, rfl⟩
theorem c11_0_ok : SpecOk Try.prog noGlob 11 c11_0.spec := by
  refine c11_0.ok (goB_ok spE0_ok (no_loops _)) c11_0_read ?_
  rintro ⟨src, os, ns⟩ hg
  have hg : os + ns ≤ src.n ∧ 1 ≤ ns ∧ ns % 3 = 0 ∧ ns ≤ 100000 := of_decide_eq_true hg
  have eo : c11_0.out ⟨src, os, ns⟩ = [⟨(.b8 src), .ro⟩, ⟨(.b8 (fullT 0 src os ns (Int.tdiv ((ns : Nat) + 2 : Int) 3 * 4))), .own⟩] := by
    rw [fullT_eq _ _ _ _ (Int.tdiv ((ns : Nat) + 2 : Int) 3 * 4) (by rw [tdiv3]; omega)]
    rfl
  have ev : c11_0.val ⟨src, os, ns⟩ = (.ref (.sl 1 (.c 0) (.s (((Int.tdiv ((ns : Nat) + 2 : Int) 3 * 4) : Int)).toNat) (some (.s ((Int.tdiv ((ns : Nat) + 2 : Int) 3 * 4)).toNat)))) := by
    rw [show (Int.tdiv ((ns : Nat) + 2 : Int) 3 * 4).toNat = (ns + 2) / 3 * 4 by rw [tdiv3]; omega]
    rfl
  rw [eo, ev]
  refine ⟨[false], (some [0, 2]), _, c11_0_run src os ns, ?_⟩
  have ht := tdiv3 ns
  have hn := fun d => encD_n (cp (cp encV)) src 0 os d (ns / 3)
  have hz : ∀ k, (Vec.zero 8 k).n = k := fun _ => rfl
  have c1 : ((encD (cp (cp encV)) src 0 os (ns / 3) (Vec.zero 8 (Int.tdiv ((ns : Nat) + 2 : Int) 3 * 4).toNat)).l.getD (0 + ((Int.tdiv ((ns : Nat) + 2 : Int) 3 * 4) - 1).toNat * 1) 0#8 == 61#8) = false := encD_last src _ os _ _ (by omega) (by rw [hz, ht]; omega) (by rw [ht]; omega)
  repeat' (refine all_true_cons ?_ ?_)
  all_goals first | exact all_true_nil | rfl | (simp only [c1, beq_self_eq_true]; done) | (simp only [hn, hz, ht, Bool.and_eq_true, decide_eq_true_eq, beq_iff_eq, beq_true, beq_false, Bool.not_eq_true', decide_eq_false_iff_not, beq_eq_false_iff_ne, ne_eq, Bool.not_eq_false', bne_iff_ne, true_and, and_true] <;> omega)
def spE1 : FuncId → Option Eng.Spec
  | 13 => some c13.spec
  | 14 => some c14.spec
  | 15 => some c15_1.spec
  | _ => none
theorem spE1_ok : ∀ f sp, spE1 f = some sp → SpecOk Try.prog noGlob f sp := by
  intro f sp h
  unfold spE1 at h
  split at h
  · injection h with h; subst h; exact c13_ok
  · injection h with h; subst h; exact c14_ok
  · injection h with h; subst h; exact c15_1_ok
  · cases h
structure c11_1D where
  src : Vec 8
  os : Nat
  ns : Nat
def c11_1_rd (a : List AV) (K : List Blk) : Option c11_1D :=
    match a with
    | [(.ref (.sl 0 (.s os) (.s ns) none))] =>
      match K with
      | [⟨(.b8 src), .ro⟩] => some ⟨src, os, ns⟩
      | _ => none
    | _ => none
def c11_1 : Ct c11_1D where
  pat := [(.ref (.sl 0 (.s 0) (.s 0) none))]
  patH := [⟨(.b8 (Vec.zero 8 0)), .ro⟩]
  read := c11_1_rd
  args := fun ⟨_, os, ns⟩ => [(.ref (.sl 0 (.s os) (.s ns) none))]
  heap := fun ⟨src, _, _⟩ => [⟨(.b8 src), .ro⟩]
  out := fun ⟨src, os, ns⟩ => [⟨(.b8 src), .ro⟩, ⟨(.b8 (full 1 src os ns)), .own⟩]
  val := fun ⟨_, _, ns⟩ => (.ref (.sl 1 (.c 0) (.s ((ns + 2) / 3 * 4 - 2)) (some (.s ((ns + 2) / 3 * 4)))))
  good := fun ⟨src, os, ns⟩ => decide (os + ns ≤ src.n ∧ 1 ≤ ns ∧ ns % 3 = 1 ∧ ns ≤ 100000)
theorem c11_1_run (src : Vec 8) (os ns : Nat) : endsAs (c11_1.heap ⟨src, os, ns⟩).length (some [0, 2]) [⟨(.b8 src), .ro⟩, ⟨(.b8 (fullT 1 src os ns (Int.tdiv ((ns : Nat) + 2 : Int) 3 * 4))), .own⟩] (.ref (.sl 1 (.c 0) (.s (((Int.tdiv ((ns : Nat) + 2 : Int) 3 * 4) - 1 - 1 : Int)).toNat) (some (.s ((Int.tdiv ((ns : Nat) + 2 : Int) 3 * 4)).toNat)))) (goB spE1 noLoop 11 (c11_1.args ⟨src, os, ns⟩) ⟨c11_1.heap ⟨src, os, ns⟩, big, [true, true, false], []⟩) = some ([⟨(.b8 src), .ro⟩, ⟨(.b8 (fullT 1 src os ns (Int.tdiv ((ns : Nat) + 2 : Int) 3 * 4))), .own⟩], (.ref (.sl 1 (.c 0) (.s (((Int.tdiv ((ns : Nat) + 2 : Int) 3 * 4) - 1 - 1 : Int)).toNat) (some (.s ((Int.tdiv ((ns : Nat) + 2 : Int) 3 * 4)).toNat)))), [((true && decide (((0 : Nat) : Int) ≤ ((((Int.tdiv (((ns : Nat) : Int) + 2) 3) * 4) - 1) - 1))) && decide (((((Int.tdiv (((ns : Nat) : Int) + 2) 3) * 4) - 1) - 1) ≤ ((((((Int.tdiv (((ns : Nat) : Int) + 2) 3) * 4)) : Int).toNat : Nat) : Int))), ((((put2 (cp (cp encV)) (encD (cp (cp encV)) src 0 os (ns / 3) (Vec.zero 8 ((((Int.tdiv (((ns : Nat) : Int) + 2) 3) * 4)) : Int).toNat)) (0 + (4 * (ns / 3))) (v8 src (os + (3 * (ns / 3))))).l.getD (0 + ((((((((Int.tdiv (((ns : Nat) : Int) + 2) 3) * 4) - 1) - 1) - 1)) : Int).toNat * 1)) (0#8)) == (61#8)) == false), decide ((0 + ((((((((Int.tdiv (((ns : Nat) : Int) + 2) 3) * 4) - 1) - 1) - 1)) : Int).toNat * 1)) < (encD (cp (cp encV)) src 0 os (ns / 3) (Vec.zero 8 ((((Int.tdiv (((ns : Nat) : Int) + 2) 3) * 4)) : Int).toNat)).n), (decide ((0 : Int) ≤ (((((Int.tdiv (((ns : Nat) : Int) + 2) 3) * 4) - 1) - 1) - 1)) && decide ((((((Int.tdiv (((ns : Nat) : Int) + 2) 3) * 4) - 1) - 1) - 1) < ((((((Int.tdiv (((ns : Nat) : Int) + 2) 3) * 4)) : Int).toNat : Nat) : Int))), decide (((-9223372036854775808) ≤ (((((Int.tdiv (((ns : Nat) : Int) + 2) 3) * 4) - 1) - 1) - 1) ∧ (((((Int.tdiv (((ns : Nat) : Int) + 2) 3) * 4) - 1) - 1) - 1) ≤ 9223372036854775807)), decide (((-9223372036854775808) ≤ ((((Int.tdiv (((ns : Nat) : Int) + 2) 3) * 4) - 1) - 1) ∧ ((((Int.tdiv (((ns : Nat) : Int) + 2) 3) * 4) - 1) - 1) ≤ 9223372036854775807)), ((((put2 (cp (cp encV)) (encD (cp (cp encV)) src 0 os (ns / 3) (Vec.zero 8 ((((Int.tdiv (((ns : Nat) : Int) + 2) 3) * 4)) : Int).toNat)) (0 + (4 * (ns / 3))) (v8 src (os + (3 * (ns / 3))))).l.getD (0 + (((((((Int.tdiv (((ns : Nat) : Int) + 2) 3) * 4) - 1) - 1)) : Int).toNat * 1)) (0#8)) == (61#8)) == true), decide ((0 + (((((((Int.tdiv (((ns : Nat) : Int) + 2) 3) * 4) - 1) - 1)) : Int).toNat * 1)) < (encD (cp (cp encV)) src 0 os (ns / 3) (Vec.zero 8 ((((Int.tdiv (((ns : Nat) : Int) + 2) 3) * 4)) : Int).toNat)).n), (decide ((0 : Int) ≤ ((((Int.tdiv (((ns : Nat) : Int) + 2) 3) * 4) - 1) - 1)) && decide (((((Int.tdiv (((ns : Nat) : Int) + 2) 3) * 4) - 1) - 1) < ((((((Int.tdiv (((ns : Nat) : Int) + 2) 3) * 4)) : Int).toNat : Nat) : Int))), decide (((-9223372036854775808) ≤ ((((Int.tdiv (((ns : Nat) : Int) + 2) 3) * 4) - 1) - 1) ∧ ((((Int.tdiv (((ns : Nat) : Int) + 2) 3) * 4) - 1) - 1) ≤ 9223372036854775807)), decide (((-9223372036854775808) ≤ (((Int.tdiv (((ns : Nat) : Int) + 2) 3) * 4) - 1) ∧ (((Int.tdiv (((ns : Nat) : Int) + 2) 3) * 4) - 1) ≤ 9223372036854775807)), ((((put2 (cp (cp encV)) (encD (cp (cp encV)) src 0 os (ns / 3) (Vec.zero 8 ((((Int.tdiv (((ns : Nat) : Int) + 2) 3) * 4)) : Int).toNat)) (0 + (4 * (ns / 3))) (v8 src (os + (3 * (ns / 3))))).l.getD (0 + ((((((Int.tdiv (((ns : Nat) : Int) + 2) 3) * 4) - 1)) : Int).toNat * 1)) (0#8)) == (61#8)) == true), decide ((0 + ((((((Int.tdiv (((ns : Nat) : Int) + 2) 3) * 4) - 1)) : Int).toNat * 1)) < (encD (cp (cp encV)) src 0 os (ns / 3) (Vec.zero 8 ((((Int.tdiv (((ns : Nat) : Int) + 2) 3) * 4)) : Int).toNat)).n), (decide ((0 : Int) ≤ (((Int.tdiv (((ns : Nat) : Int) + 2) 3) * 4) - 1)) && decide ((((Int.tdiv (((ns : Nat) : Int) + 2) 3) * 4) - 1) < ((((((Int.tdiv (((ns : Nat) : Int) + 2) 3) * 4)) : Int).toNat : Nat) : Int))), decide (((-9223372036854775808) ≤ (((Int.tdiv (((ns : Nat) : Int) + 2) 3) * 4) - 1) ∧ (((Int.tdiv (((ns : Nat) : Int) + 2) 3) * 4) - 1) ≤ 9223372036854775807)), decide (((os + ns) ≤ src.n ∧ ((0 + ((((Int.tdiv (((ns : Nat) : Int) + 2) 3) * 4)) : Int).toNat) ≤ ((((Int.tdiv (((ns : Nat) : Int) + 2) 3) * 4)) : Int).toNat ∧ ((((ns + 2) / 3) * 4) ≤ ((((Int.tdiv (((ns : Nat) : Int) + 2) 3) * 4)) : Int).toNat ∧ ((1 : Nat) ≤ ns ∧ ((ns % 3) = 1 ∧ (ns ≤ 100000 ∧ ((((Int.tdiv (((ns : Nat) : Int) + 2) 3) * 4)) : Int).toNat ≤ 1000000))))))), decide (True), decide ((((((Int.tdiv (((ns : Nat) : Int) + 2) 3) * 4)) : Int).toNat * 1) ≤ 1099511627776), ((decide ((0 : Int) ≤ ((Int.tdiv (((ns : Nat) : Int) + 2) 3) * 4)) && decide (((Int.tdiv (((ns : Nat) : Int) + 2) 3) * 4) ≤ ((Int.tdiv (((ns : Nat) : Int) + 2) 3) * 4))) && decide (((Int.tdiv (((ns : Nat) : Int) + 2) 3) * 4) ≤ 1099511627776)), decide (((0 : Int) ≤ ((ns : Nat) : Int) ∧ ((ns : Nat) : Int) ≤ 100000)), decide (True)]) := by kernel_rfl
set_option maxRecDepth 100000 in
theorem c11_1_read (a : List AV) (K : List Blk) (d : c11_1D) (h : c11_1.read a K = some d) : a = c11_1.args d ∧ K = c11_1.heap d := by
  replace h : c11_1_rd a K = some d := h
  unfold c11_1_rd at h
  split at h
  case h_2 => cases h
  split at h
  case h_2 => cases h
  injection h with h; subst h
  exact ⟨rfl, rfl⟩
theorem c11_1_ok : SpecOk Try.prog noGlob 11 c11_1.spec := by
  refine c11_1.ok (goB_ok spE1_ok (no_loops _)) c11_1_read ?_
  rintro ⟨src, os, ns⟩ hg
  have hg : os + ns ≤ src.n ∧ 1 ≤ ns ∧ ns % 3 = 1 ∧ ns ≤ 100000 := of_decide_eq_true hg
  have eo : c11_1.out ⟨src, os, ns⟩ = [⟨(.b8 src), .ro⟩, ⟨(.b8 (fullT 1 src os ns (Int.tdiv ((ns : Nat) + 2 : Int) 3 * 4))), .own⟩] := by
    rw [fullT_eq _ _ _ _ (Int.tdiv ((ns : Nat) + 2 : Int) 3 * 4) (by rw [tdiv3]; omega)]
    rfl
  have ev : c11_1.val ⟨src, os, ns⟩ = (.ref (.sl 1 (.c 0) (.s (((Int.tdiv ((ns : Nat) + 2 : Int) 3 * 4) - 1 - 1 : Int)).toNat) (some (.s ((Int.tdiv ((ns : Nat) + 2 : Int) 3 * 4)).toNat)))) := by
    rw [show (Int.tdiv ((ns : Nat) + 2 : Int) 3 * 4).toNat = (ns + 2) / 3 * 4 by rw [tdiv3]; omega, show ((Int.tdiv ((ns : Nat) + 2 : Int) 3 * 4) - 1 - 1 : Int).toNat = (ns + 2) / 3 * 4 - 2 by rw [tdiv3]; omega]
    rfl
  rw [eo, ev]
  refine ⟨[true, true, false], (some [0, 2]), _, c11_1_run src os ns, ?_⟩
  have ht := tdiv3 ns
  have hn := fun d => encD_n (cp (cp encV)) src 0 os d (ns / 3)
  have hz : ∀ k, (Vec.zero 8 k).n = k := fun _ => rfl
  have c1 : ((put2 (cp (cp encV)) (encD (cp (cp encV)) src 0 os (ns / 3) (Vec.zero 8 (Int.tdiv ((ns : Nat) + 2 : Int) 3 * 4).toNat)) (0 + 4 * (ns / 3)) (v8 src (os + 3 * (ns / 3)))).l.getD (0 + ((Int.tdiv ((ns : Nat) + 2 : Int) 3 * 4) - 1).toNat * 1) 0#8 == 61#8) = true := by rw [put2_at3 _ _ _ _ (by rw [hn, hz, ht]; omega) _ (by rw [ht]; omega)]; rfl
  have c2 : ((put2 (cp (cp encV)) (encD (cp (cp encV)) src 0 os (ns / 3) (Vec.zero 8 (Int.tdiv ((ns : Nat) + 2 : Int) 3 * 4).toNat)) (0 + 4 * (ns / 3)) (v8 src (os + 3 * (ns / 3)))).l.getD (0 + ((Int.tdiv ((ns : Nat) + 2 : Int) 3 * 4) - 1 - 1).toNat * 1) 0#8 == 61#8) = true := by rw [put2_at2 _ _ _ _ (by rw [hn, hz, ht]; omega) _ (by rw [ht]; omega)]; rfl
  have c3 : ((put2 (cp (cp encV)) (encD (cp (cp encV)) src 0 os (ns / 3) (Vec.zero 8 (Int.tdiv ((ns : Nat) + 2 : Int) 3 * 4).toNat)) (0 + 4 * (ns / 3)) (v8 src (os + 3 * (ns / 3)))).l.getD (0 + ((Int.tdiv ((ns : Nat) + 2 : Int) 3 * 4) - 1 - 1 - 1).toNat * 1) 0#8 == 61#8) = false := by rw [put2_at1 _ _ _ _ (by rw [hn, hz, ht]; omega) _ (by rw [ht]; omega)]; exact ex_ne _
  have hp : ∀ e d o w, (put2 e d o w).n = d.n := fun _ _ _ _ => rfl
  repeat' (refine all_true_cons ?_ ?_)
  all_goals first | exact all_true_nil | rfl | (simp only [c1, c2, c3, beq_self_eq_true]; done) | (simp only [hn, hz, hp, ht, Bool.and_eq_true, decide_eq_true_eq, beq_iff_eq, beq_true, beq_false, Bool.not_eq_true', decide_eq_false_iff_not, beq_eq_false_iff_ne, ne_eq, Bool.not_eq_false', bne_iff_ne, true_and, and_true] <;> omega)
def spE2 : FuncId → Option Eng.Spec
  | 13 => some c13.spec
  | 14 => some c14.spec
  | 15 => some c15_2.spec
  | _ => none
theorem spE2_ok : ∀ f sp, spE2 f = some sp → SpecOk Try.prog noGlob f sp := by
  intro f sp h
  unfold spE2 at h
  split at h
  · injection h with h; subst h; exact c13_ok
  · injection h with h; subst h; exact c14_ok
  · injection h with h; subst h; exact c15_2_ok
  · cases h
structure c11_2D where
  src : Vec 8
  os : Nat
  ns : Nat
def c11_2_rd (a : List AV) (K : List Blk) : Option c11_2D :=
    match a with
    | [(.ref (.sl 0 (.s os) (.s ns) none))] =>
      match K with
      | [⟨(.b8 src), .ro⟩] => some ⟨src, os, ns⟩
      | _ => none
    | _ => none
def c11_2 : Ct c11_2D where
  pat := [(.ref (.sl 0 (.s 0) (.s 0) none))]
  patH := [⟨(.b8 (Vec.zero 8 0)), .ro⟩]
  read := c11_2_rd
  args := fun ⟨_, os, ns⟩ => [(.ref (.sl 0 (.s os) (.s ns) none))]
  heap := fun ⟨src, _, _⟩ => [⟨(.b8 src), .ro⟩]
  out := fun ⟨src, os, ns⟩ => [⟨(.b8 src), .ro⟩, ⟨(.b8 (full 2 src os ns)), .own⟩]
  val := fun ⟨_, _, ns⟩ => (.ref (.sl 1 (.c 0) (.s ((ns + 2) / 3 * 4 - 1)) (some (.s ((ns + 2) / 3 * 4)))))
  good := fun ⟨src, os, ns⟩ => decide (os + ns ≤ src.n ∧ 1 ≤ ns ∧ ns % 3 = 2 ∧ ns ≤ 100000)
theorem c11_2_run (src : Vec 8) (os ns : Nat) : endsAs (c11_2.heap ⟨src, os, ns⟩).length (some [0, 2]) [⟨(.b8 src), .ro⟩, ⟨(.b8 (fullT 2 src os ns (Int.tdiv ((ns : Nat) + 2 : Int) 3 * 4))), .own⟩] (.ref (.sl 1 (.c 0) (.s (((Int.tdiv ((ns : Nat) + 2 : Int) 3 * 4) - 1 : Int)).toNat) (some (.s ((Int.tdiv ((ns : Nat) + 2 : Int) 3 * 4)).toNat)))) (goB spE2 noLoop 11 (c11_2.args ⟨src, os, ns⟩) ⟨c11_2.heap ⟨src, os, ns⟩, big, [true, false], []⟩) = some ([⟨(.b8 src), .ro⟩, ⟨(.b8 (fullT 2 src os ns (Int.tdiv ((ns : Nat) + 2 : Int) 3 * 4))), .own⟩], (.ref (.sl 1 (.c 0) (.s (((Int.tdiv ((ns : Nat) + 2 : Int) 3 * 4) - 1 : Int)).toNat) (some (.s ((Int.tdiv ((ns : Nat) + 2 : Int) 3 * 4)).toNat)))), [((true && decide (((0 : Nat) : Int) ≤ (((Int.tdiv (((ns : Nat) : Int) + 2) 3) * 4) - 1))) && decide ((((Int.tdiv (((ns : Nat) : Int) + 2) 3) * 4) - 1) ≤ ((((((Int.tdiv (((ns : Nat) : Int) + 2) 3) * 4)) : Int).toNat : Nat) : Int))), ((((put3 (cp (cp encV)) (encD (cp (cp encV)) src 0 os (ns / 3) (Vec.zero 8 ((((Int.tdiv (((ns : Nat) : Int) + 2) 3) * 4)) : Int).toNat)) (0 + (4 * (ns / 3))) (v16 src (os + (3 * (ns / 3))))).l.getD (0 + (((((((Int.tdiv (((ns : Nat) : Int) + 2) 3) * 4) - 1) - 1)) : Int).toNat * 1)) (0#8)) == (61#8)) == false), decide ((0 + (((((((Int.tdiv (((ns : Nat) : Int) + 2) 3) * 4) - 1) - 1)) : Int).toNat * 1)) < (encD (cp (cp encV)) src 0 os (ns / 3) (Vec.zero 8 ((((Int.tdiv (((ns : Nat) : Int) + 2) 3) * 4)) : Int).toNat)).n), (decide ((0 : Int) ≤ ((((Int.tdiv (((ns : Nat) : Int) + 2) 3) * 4) - 1) - 1)) && decide (((((Int.tdiv (((ns : Nat) : Int) + 2) 3) * 4) - 1) - 1) < ((((((Int.tdiv (((ns : Nat) : Int) + 2) 3) * 4)) : Int).toNat : Nat) : Int))), decide (((-9223372036854775808) ≤ ((((Int.tdiv (((ns : Nat) : Int) + 2) 3) * 4) - 1) - 1) ∧ ((((Int.tdiv (((ns : Nat) : Int) + 2) 3) * 4) - 1) - 1) ≤ 9223372036854775807)), decide (((-9223372036854775808) ≤ (((Int.tdiv (((ns : Nat) : Int) + 2) 3) * 4) - 1) ∧ (((Int.tdiv (((ns : Nat) : Int) + 2) 3) * 4) - 1) ≤ 9223372036854775807)), ((((put3 (cp (cp encV)) (encD (cp (cp encV)) src 0 os (ns / 3) (Vec.zero 8 ((((Int.tdiv (((ns : Nat) : Int) + 2) 3) * 4)) : Int).toNat)) (0 + (4 * (ns / 3))) (v16 src (os + (3 * (ns / 3))))).l.getD (0 + ((((((Int.tdiv (((ns : Nat) : Int) + 2) 3) * 4) - 1)) : Int).toNat * 1)) (0#8)) == (61#8)) == true), decide ((0 + ((((((Int.tdiv (((ns : Nat) : Int) + 2) 3) * 4) - 1)) : Int).toNat * 1)) < (encD (cp (cp encV)) src 0 os (ns / 3) (Vec.zero 8 ((((Int.tdiv (((ns : Nat) : Int) + 2) 3) * 4)) : Int).toNat)).n), (decide ((0 : Int) ≤ (((Int.tdiv (((ns : Nat) : Int) + 2) 3) * 4) - 1)) && decide ((((Int.tdiv (((ns : Nat) : Int) + 2) 3) * 4) - 1) < ((((((Int.tdiv (((ns : Nat) : Int) + 2) 3) * 4)) : Int).toNat : Nat) : Int))), decide (((-9223372036854775808) ≤ (((Int.tdiv (((ns : Nat) : Int) + 2) 3) * 4) - 1) ∧ (((Int.tdiv (((ns : Nat) : Int) + 2) 3) * 4) - 1) ≤ 9223372036854775807)), decide (((os + ns) ≤ src.n ∧ ((0 + ((((Int.tdiv (((ns : Nat) : Int) + 2) 3) * 4)) : Int).toNat) ≤ ((((Int.tdiv (((ns : Nat) : Int) + 2) 3) * 4)) : Int).toNat ∧ ((((ns + 2) / 3) * 4) ≤ ((((Int.tdiv (((ns : Nat) : Int) + 2) 3) * 4)) : Int).toNat ∧ ((1 : Nat) ≤ ns ∧ ((ns % 3) = 2 ∧ (ns ≤ 100000 ∧ ((((Int.tdiv (((ns : Nat) : Int) + 2) 3) * 4)) : Int).toNat ≤ 1000000))))))), decide (True), decide ((((((Int.tdiv (((ns : Nat) : Int) + 2) 3) * 4)) : Int).toNat * 1) ≤ 1099511627776), ((decide ((0 : Int) ≤ ((Int.tdiv (((ns : Nat) : Int) + 2) 3) * 4)) && decide (((Int.tdiv (((ns : Nat) : Int) + 2) 3) * 4) ≤ ((Int.tdiv (((ns : Nat) : Int) + 2) 3) * 4))) && decide (((Int.tdiv (((ns : Nat) : Int) + 2) 3) * 4) ≤ 1099511627776)), decide (((0 : Int) ≤ ((ns : Nat) : Int) ∧ ((ns : Nat) : Int) ≤ 100000)), decide (True)]) := by kernel_rfl
set_option maxRecDepth 100000 in
theorem c11_2_read (a : List AV) (K : List Blk) (d : c11_2D) (h : c11_2.read a K = some d) : a = c11_2.args d ∧ K = c11_2.heap d := by
  replace h : c11_2_rd a K = some d := h
  unfold c11_2_rd at h
  split at h
  case h_2 => cases h
  split at h
  case h_2 => cases h
  injection h with h; subst h
  exact ⟨rfl, rfl⟩
theorem c11_2_ok : SpecOk Try.prog noGlob 11 c11_2.spec := by
  refine c11_2.ok (goB_ok spE2_ok (no_loops _)) c11_2_read ?_
  rintro ⟨src, os, ns⟩ hg
  have hg : os + ns ≤ src.n ∧ 1 ≤ ns ∧ ns % 3 = 2 ∧ ns ≤ 100000 := of_decide_eq_true hg
  have eo : c11_2.out ⟨src, os, ns⟩ = [⟨(.b8 src), .ro⟩, ⟨(.b8 (fullT 2 src os ns (Int.tdiv ((ns : Nat) + 2 : Int) 3 * 4))), .own⟩] := by
    rw [fullT_eq _ _ _ _ (Int.tdiv ((ns : Nat) + 2 : Int) 3 * 4) (by rw [tdiv3]; omega)]
    rfl
  have ev : c11_2.val ⟨src, os, ns⟩ = (.ref (.sl 1 (.c 0) (.s (((Int.tdiv ((ns : Nat) + 2 : Int) 3 * 4) - 1 : Int)).toNat) (some (.s ((Int.tdiv ((ns : Nat) + 2 : Int) 3 * 4)).toNat)))) := by
    rw [show (Int.tdiv ((ns : Nat) + 2 : Int) 3 * 4).toNat = (ns + 2) / 3 * 4 by rw [tdiv3]; omega, show ((Int.tdiv ((ns : Nat) + 2 : Int) 3 * 4) - 1 : Int).toNat = (ns + 2) / 3 * 4 - 1 by rw [tdiv3]; omega]
    rfl
  rw [eo, ev]
  refine ⟨[true, false], (some [0, 2]), _, c11_2_run src os ns, ?_⟩
  have ht := tdiv3 ns
  have hn := fun d => encD_n (cp (cp encV)) src 0 os d (ns / 3)
  have hz : ∀ k, (Vec.zero 8 k).n = k := fun _ => rfl
  have c1 : ((put3 (cp (cp encV)) (encD (cp (cp encV)) src 0 os (ns / 3) (Vec.zero 8 (Int.tdiv ((ns : Nat) + 2 : Int) 3 * 4).toNat)) (0 + 4 * (ns / 3)) (v16 src (os + 3 * (ns / 3)))).l.getD (0 + ((Int.tdiv ((ns : Nat) + 2 : Int) 3 * 4) - 1).toNat * 1) 0#8 == 61#8) = true := by rw [put3_at3 _ _ _ _ (by rw [hn, hz, ht]; omega) _ (by rw [ht]; omega)]; rfl
  have c2 : ((put3 (cp (cp encV)) (encD (cp (cp encV)) src 0 os (ns / 3) (Vec.zero 8 (Int.tdiv ((ns : Nat) + 2 : Int) 3 * 4).toNat)) (0 + 4 * (ns / 3)) (v16 src (os + 3 * (ns / 3)))).l.getD (0 + ((Int.tdiv ((ns : Nat) + 2 : Int) 3 * 4) - 1 - 1).toNat * 1) 0#8 == 61#8) = false := by rw [put3_at2 _ _ _ _ (by rw [hn, hz, ht]; omega) _ (by rw [ht]; omega)]; exact ex_ne _
  have hp : ∀ e d o w, (put3 e d o w).n = d.n := fun _ _ _ _ => rfl
  repeat' (refine all_true_cons ?_ ?_)
  all_goals first | exact all_true_nil | rfl | (simp only [c1, c2, beq_self_eq_true]; done) | (simp only [hn, hz, hp, ht, Bool.and_eq_true, decide_eq_true_eq, beq_iff_eq, beq_true, beq_false, Bool.not_eq_true', decide_eq_false_iff_not, beq_eq_false_iff_ne, ne_eq, Bool.not_eq_false', bne_iff_ne, true_and, and_true] <;> omega)
end Go.Proofs.Ytlelgligkkegnaa

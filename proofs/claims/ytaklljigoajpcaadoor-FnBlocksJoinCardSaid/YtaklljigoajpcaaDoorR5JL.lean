/- FnBlocksJoin: of all states and bytes: blocks one behind the other make of a state what they make together, of both digests. No condition but that the tables of packages md4 and ripemd160 hold what the program's text lays in them, which the card ties. -/
import Derived.Test.YtaklljigoajpcaaDoorR5J
import Derived.Test.YtaklljigoajpcaaDoorR5Glob
import Derived.Test.YtaklljigoajpcaaDoorRows
import Derived.Test.YtaklljigoajpcaaDoorCards
import Derived.Test.YtaklljigoajpcaaDoorTie
import Derived.WalkKit
import Derived.ProofKit
import Derived.OpenShut
import Derived.SevenTiedAt
namespace Go.Proofs.YtaklljigoajpcaaDoor.B.blocksJoin
open Go.ChangeShapes Go.WideShapes Go.ChangeAt Go.RowKit
open Go.Eng
set_option linter.unusedSimpArgs false
set_option linter.unusedVariables false
set_option linter.unusedSectionVars false
section
variable [RowAddr]
def specs6 : FuncId → Option Eng.Spec
  | 14 => some M.c14.spec
  | 16 => some c16.spec
  | 18 => some c18.spec
  | 13 => some M.sp13
  | 8 => some sp8
  | _ => none
theorem specs6_ok : ∀ f sp, specs6 f = some sp → SpecOk Tryd.prog noGlob f sp := by
  intro f sp h
  unfold specs6 at h
  split at h
  · injection h with h; subst h; exact B.ok14
  · injection h with h; subst h; exact B.ok16
  · injection h with h; subst h; exact c18_ok
  · injection h with h; subst h; exact B.ok13
  · injection h with h; subst h; exact B.ok8
  · cases h
def av5 (h : W5) : AV := .agg [.w32 h.x0, .w32 h.x1, .w32 h.x2, .w32 h.x3, .w32 h.x4]
def nA (l : Vec 8) : Nat := (Int.tdiv (l.n : Int) 64 * 64).toNat - (((0 : Nat) : Int)).toNat
def lA : Nat := 0 + (((0 : Nat) : Int)).toNat
def four (h : W5) : M.W4 := ⟨h.x0, h.x1, h.x2, h.x3⟩
def eta4 (h : M.W4) : M.W4 := ⟨h.x0, h.x1, h.x2, h.x3⟩
def eta5 (h : W5) : W5 := ⟨h.x0, h.x1, h.x2, h.x3, h.x4⟩
def eq4 (a b : M.W4) : Bool := (a.x0 == b.x0) && ((a.x1 == b.x1) && ((a.x2 == b.x2) && ((a.x3 == b.x3) && true)))
def eq5 (a b : W5) : Bool := (a.x0 == b.x0) && ((a.x1 == b.x1) && ((a.x2 == b.x2) && ((a.x3 == b.x3) && ((a.x4 == b.x4) && true))))
def both (l m : Vec 8) : Vec 8 := (l.sub lA (nA l)).app (m.sub 0 m.n)
def sameM (h : W5) (l m : Vec 8) : Bool := eq4 (M.mdAll (eta4 (M.mdAll (four h) l lA (nA l / 64))) m 0 (m.n / 64)) (M.mdAll (four h) (both l m) 0 ((nA l + m.n) / 64))
def sameR (h : W5) (l m : Vec 8) : Bool := eq5 (ripAll (eta5 (ripAll (eta5 h) l lA (nA l / 64))) m 0 (m.n / 64)) (ripAll (eta5 h) (both l m) 0 ((nA l + m.n) / 64))
theorem wrd_eq (v u : Vec 8) (o p : Nat) (h : ∀ i, i < 64 → v.l.getD (o + i) 0#8 = u.l.getD (p + i) 0#8) : wrd v o = wrd u p := by
  unfold wrd
  simp only [h 0 (by omega), h 1 (by omega), h 2 (by omega), h 3 (by omega), h 4 (by omega), h 5 (by omega), h 6 (by omega), h 7 (by omega), h 8 (by omega), h 9 (by omega), h 10 (by omega), h 11 (by omega), h 12 (by omega), h 13 (by omega), h 14 (by omega), h 15 (by omega), h 16 (by omega), h 17 (by omega), h 18 (by omega), h 19 (by omega), h 20 (by omega), h 21 (by omega), h 22 (by omega), h 23 (by omega), h 24 (by omega), h 25 (by omega), h 26 (by omega), h 27 (by omega), h 28 (by omega), h 29 (by omega), h 30 (by omega), h 31 (by omega), h 32 (by omega), h 33 (by omega), h 34 (by omega), h 35 (by omega), h 36 (by omega), h 37 (by omega), h 38 (by omega), h 39 (by omega), h 40 (by omega), h 41 (by omega), h 42 (by omega), h 43 (by omega), h 44 (by omega), h 45 (by omega), h 46 (by omega), h 47 (by omega), h 48 (by omega), h 49 (by omega), h 50 (by omega), h 51 (by omega), h 52 (by omega), h 53 (by omega), h 54 (by omega), h 55 (by omega), h 56 (by omega), h 57 (by omega), h 58 (by omega), h 59 (by omega), h 60 (by omega), h 61 (by omega), h 62 (by omega), h 63 (by omega)]
theorem wrdM_eq (v u : Vec 8) (o p : Nat) (h : ∀ i, i < 64 → v.l.getD (o + i) 0#8 = u.l.getD (p + i) 0#8) : M.wrd v o = M.wrd u p := by
  unfold M.wrd
  simp only [h 0 (by omega), h 1 (by omega), h 2 (by omega), h 3 (by omega), h 4 (by omega), h 5 (by omega), h 6 (by omega), h 7 (by omega), h 8 (by omega), h 9 (by omega), h 10 (by omega), h 11 (by omega), h 12 (by omega), h 13 (by omega), h 14 (by omega), h 15 (by omega), h 16 (by omega), h 17 (by omega), h 18 (by omega), h 19 (by omega), h 20 (by omega), h 21 (by omega), h 22 (by omega), h 23 (by omega), h 24 (by omega), h 25 (by omega), h 26 (by omega), h 27 (by omega), h 28 (by omega), h 29 (by omega), h 30 (by omega), h 31 (by omega), h 32 (by omega), h 33 (by omega), h 34 (by omega), h 35 (by omega), h 36 (by omega), h 37 (by omega), h 38 (by omega), h 39 (by omega), h 40 (by omega), h 41 (by omega), h 42 (by omega), h 43 (by omega), h 44 (by omega), h 45 (by omega), h 46 (by omega), h 47 (by omega), h 48 (by omega), h 49 (by omega), h 50 (by omega), h 51 (by omega), h 52 (by omega), h 53 (by omega), h 54 (by omega), h 55 (by omega), h 56 (by omega), h 57 (by omega), h 58 (by omega), h 59 (by omega), h 60 (by omega), h 61 (by omega), h 62 (by omega), h 63 (by omega)]
theorem ripAll_eq (h : W5) (v u : Vec 8) (o p : Nat) : ∀ k : Nat, (∀ i, i < 64 * k → v.l.getD (o + i) 0#8 = u.l.getD (p + i) 0#8) → ripAll h v o k = ripAll h u p k
  | 0, _ => rfl
  | k + 1, H => by
    unfold ripAll
    rw [ripAll_eq h v u o p k (fun i hi => H i (by omega)), wrd_eq v u (o + 64 * k) (p + 64 * k) (fun i hi => by rw [Nat.add_assoc, Nat.add_assoc]; exact H _ (by omega))]
theorem ripAll_add (h : W5) (v : Vec 8) (o k : Nat) : ∀ m : Nat, ripAll h v o (k + m) = ripAll (ripAll h v o k) v (o + 64 * k) m
  | 0 => rfl
  | m + 1 => by
    show rip5 (ripAll h v o (k + m)) (wrd v (o + 64 * (k + m))) = rip5 (ripAll (ripAll h v o k) v (o + 64 * k) m) (wrd v (o + 64 * k + 64 * m))
    rw [ripAll_add h v o k m, show o + 64 * (k + m) = o + 64 * k + 64 * m by omega]
theorem mdAll_eq (h : M.W4) (v u : Vec 8) (o p : Nat) : ∀ k : Nat, (∀ i, i < 64 * k → v.l.getD (o + i) 0#8 = u.l.getD (p + i) 0#8) → M.mdAll h v o k = M.mdAll h u p k
  | 0, _ => rfl
  | k + 1, H => by
    unfold M.mdAll
    rw [mdAll_eq h v u o p k (fun i hi => H i (by omega)), wrdM_eq v u (o + 64 * k) (p + 64 * k) (fun i hi => by rw [Nat.add_assoc, Nat.add_assoc]; exact H _ (by omega))]
theorem mdAll_add (h : M.W4) (v : Vec 8) (o k : Nat) : ∀ m : Nat, M.mdAll h v o (k + m) = M.mdAll (M.mdAll h v o k) v (o + 64 * k) m
  | 0 => rfl
  | m + 1 => by
    show M.md4 (M.mdAll h v o (k + m)) (M.wrd v (o + 64 * (k + m))) = M.md4 (M.mdAll (M.mdAll h v o k) v (o + 64 * k) m) (M.wrd v (o + 64 * k + 64 * m))
    rw [mdAll_add h v o k m, show o + 64 * (k + m) = o + 64 * k + 64 * m by omega]
theorem nA_eq (l : Vec 8) : nA l = l.n / 64 * 64 := by
  unfold nA
  rw [Int.tdiv_eq_ediv_of_nonneg (by omega)]
  omega
theorem both_low (l m : Vec 8) (i : Nat) (hi : i < nA l) : (both l m).l.getD i 0#8 = l.l.getD i 0#8 := by
  have h1 := nA_eq l
  have hl := l.h
  show (((l.sub lA (nA l)).l ++ (m.sub 0 m.n).l)).getD i 0#8 = _
  rw [Vec.sub_l (by unfold lA; omega), List.getD_eq_getElem?_getD, List.getElem?_append_left (by rw [List.length_take, List.length_drop]; unfold lA; omega), List.getElem?_take, if_pos hi, List.getElem?_drop, List.getD_eq_getElem?_getD]
  congr 2
  unfold lA; omega
theorem both_high (l m : Vec 8) (i : Nat) (hi : i < m.n) : (both l m).l.getD (nA l + i) 0#8 = m.l.getD i 0#8 := by
  have h1 := nA_eq l
  have hl := l.h
  have hm := m.h
  show (((l.sub lA (nA l)).l ++ (m.sub 0 m.n).l)).getD (nA l + i) 0#8 = _
  have e : (l.sub lA (nA l)).l.length = nA l := (l.sub lA (nA l)).h
  rw [Vec.sub_l (o := 0) (by omega), List.getD_eq_getElem?_getD, List.getElem?_append_right (by omega), e, Nat.add_sub_cancel_left, List.getElem?_take, if_pos hi, List.getElem?_drop, List.getD_eq_getElem?_getD, Nat.zero_add]
theorem sameR_true (h : W5) (l m : Vec 8) : sameR h l m = true := by
  have h1 := nA_eq l
  have e1 : (nA l + m.n) / 64 = nA l / 64 + m.n / 64 := by omega
  have e2 : ripAll (eta5 h) (both l m) 0 (nA l / 64) = ripAll (eta5 h) l lA (nA l / 64) := ripAll_eq _ _ _ _ _ _ fun i hi => by
    rw [Nat.zero_add, both_low l m i (by omega)]
    unfold lA
    congr 1
    simp
  have e3 : ∀ g, ripAll g (both l m) (0 + 64 * (nA l / 64)) (m.n / 64) = ripAll g m 0 (m.n / 64) := fun g => ripAll_eq _ _ _ _ _ _ fun i hi => by
    rw [show 0 + 64 * (nA l / 64) = nA l by omega, both_high l m i (by omega), Nat.zero_add]
  unfold sameR
  rw [e1, ripAll_add, e2, e3]
  show eq5 (ripAll (ripAll (eta5 h) l lA (nA l / 64)) m 0 (m.n / 64)) _ = true
  unfold eq5
  simp only [beq_self_eq_true, Bool.and_self]
theorem sameM_true (h : W5) (l m : Vec 8) : sameM h l m = true := by
  have h1 := nA_eq l
  have e1 : (nA l + m.n) / 64 = nA l / 64 + m.n / 64 := by omega
  have e2 : M.mdAll (four h) (both l m) 0 (nA l / 64) = M.mdAll (four h) l lA (nA l / 64) := mdAll_eq _ _ _ _ _ _ fun i hi => by
    rw [Nat.zero_add, both_low l m i (by omega)]
    unfold lA
    congr 1
    simp
  have e3 : ∀ g, M.mdAll g (both l m) (0 + 64 * (nA l / 64)) (m.n / 64) = M.mdAll g m 0 (m.n / 64) := fun g => mdAll_eq _ _ _ _ _ _ fun i hi => by
    rw [show 0 + 64 * (nA l / 64) = nA l by omega, both_high l m i (by omega), Nat.zero_add]
  unfold sameM
  rw [e1, mdAll_add, e2, e3]
  show eq4 (M.mdAll (M.mdAll (four h) l lA (nA l / 64)) m 0 (m.n / 64)) _ = true
  unfold eq4
  simp only [beq_self_eq_true, Bool.and_self]
theorem runA (h : W5) (l m : Vec 8) : verdict (goB specs6 noLoop 6 [av5 h, .sl 0 (.c 0) (.s l.n) none, .sl 1 (.c 0) (.s m.n) none] ⟨[⟨.b8 l, .ro⟩, ⟨.b8 m, .ro⟩], big, [true, true, true, true], []⟩) = some (true, [(decide ((2147483647 : Int) < ((l.n : Nat) : Int)) == true), (decide ((2147483647 : Int) < ((l.n : Nat) : Int)) == true), (decide ((2147483647 : Int) < ((l.n : Nat) : Int)) == true), (decide ((2147483647 : Int) < ((l.n : Nat) : Int)) == true)]) := by kernel_rfl
theorem runB (h : W5) (l m : Vec 8) : verdict (goB specs6 noLoop 6 [av5 h, .sl 0 (.c 0) (.s l.n) none, .sl 1 (.c 0) (.s m.n) none] ⟨[⟨.b8 l, .ro⟩, ⟨.b8 m, .ro⟩], big, [false, false, false, false, true], []⟩) = some (true, [(decide ((2147483647 : Int) < ((m.n : Nat) : Int)) == true), (decide ((2147483647 : Int) < ((l.n : Nat) : Int)) == false), (decide ((2147483647 : Int) < ((l.n : Nat) : Int)) == false), (decide ((2147483647 : Int) < ((l.n : Nat) : Int)) == false), (decide ((2147483647 : Int) < ((l.n : Nat) : Int)) == false)]) := by kernel_rfl
theorem runC (h : W5) (l m : Vec 8) : verdict (goB specs6 noLoop 6 [av5 h, .sl 0 (.c 0) (.s l.n) none, .sl 1 (.c 0) (.s m.n) none] ⟨[⟨.b8 l, .ro⟩, ⟨.b8 m, .ro⟩], big, [false, false, false, false, false, true], []⟩) = some (true, [(decide ((1048576 : Int) < (((l.n : Nat) : Int) + ((m.n : Nat) : Int))) == true), decide (((-9223372036854775808) ≤ (((l.n : Nat) : Int) + ((m.n : Nat) : Int)) ∧ (((l.n : Nat) : Int) + ((m.n : Nat) : Int)) ≤ 9223372036854775807)), (decide ((2147483647 : Int) < ((m.n : Nat) : Int)) == false), (decide ((2147483647 : Int) < ((l.n : Nat) : Int)) == false), (decide ((2147483647 : Int) < ((l.n : Nat) : Int)) == false), (decide ((2147483647 : Int) < ((l.n : Nat) : Int)) == false), (decide ((2147483647 : Int) < ((l.n : Nat) : Int)) == false)]) := by kernel_rfl
theorem runE (h : W5) (l m : Vec 8) : verdict (goB specs6 noLoop 6 [av5 h, .sl 0 (.c 0) (.s l.n) none, .sl 1 (.c 0) (.s m.n) none] ⟨[⟨.b8 l, .ro⟩, ⟨.b8 m, .ro⟩], big, false :: false :: false :: false :: false :: false :: List.replicate 30 true, []⟩) = some (true, [(sameR h l m == true), (sameR h l m == true), (sameM h l m == true), (sameM h l m == true), (sameM h l m == true), (sameM h l m == true), decide (((0 + ((((((Int.tdiv ((l.n : Nat) : Int) 64) * 64)) : Int).toNat - ((((0 : Nat) : Int)) : Int).toNat) + m.n)) ≤ ((((((Int.tdiv ((l.n : Nat) : Int) 64) * 64)) : Int).toNat - ((((0 : Nat) : Int)) : Int).toNat) + m.n) ∧ ((((((Int.tdiv ((l.n : Nat) : Int) 64) * 64)) : Int).toNat - ((((0 : Nat) : Int)) : Int).toNat) + m.n) ≤ 1099511627776)), decide ((((0 + ((((0 : Nat) : Int)) : Int).toNat) + (((((Int.tdiv ((l.n : Nat) : Int) 64) * 64)) : Int).toNat - ((((0 : Nat) : Int)) : Int).toNat)) ≤ l.n ∧ ((0 + m.n) ≤ m.n ∧ ((((((Int.tdiv ((l.n : Nat) : Int) 64) * 64)) : Int).toNat - ((((0 : Nat) : Int)) : Int).toNat) + m.n) ≤ 1000000000000))), decide (((0 + m.n) ≤ m.n ∧ m.n ≤ 1099511627776)), decide ((((0 + ((((0 : Nat) : Int)) : Int).toNat) + (((((Int.tdiv ((l.n : Nat) : Int) 64) * 64)) : Int).toNat - ((((0 : Nat) : Int)) : Int).toNat)) ≤ l.n ∧ (((((Int.tdiv ((l.n : Nat) : Int) 64) * 64)) : Int).toNat - ((((0 : Nat) : Int)) : Int).toNat) ≤ 1099511627776)), decide (((0 + ((((((Int.tdiv ((l.n : Nat) : Int) 64) * 64)) : Int).toNat - ((((0 : Nat) : Int)) : Int).toNat) + m.n)) ≤ ((((((Int.tdiv ((l.n : Nat) : Int) 64) * 64)) : Int).toNat - ((((0 : Nat) : Int)) : Int).toNat) + m.n) ∧ ((((((Int.tdiv ((l.n : Nat) : Int) 64) * 64)) : Int).toNat - ((((0 : Nat) : Int)) : Int).toNat) + m.n) ≤ 1099511627776)), decide ((((0 + ((((0 : Nat) : Int)) : Int).toNat) + (((((Int.tdiv ((l.n : Nat) : Int) 64) * 64)) : Int).toNat - ((((0 : Nat) : Int)) : Int).toNat)) ≤ l.n ∧ ((0 + m.n) ≤ m.n ∧ ((((((Int.tdiv ((l.n : Nat) : Int) 64) * 64)) : Int).toNat - ((((0 : Nat) : Int)) : Int).toNat) + m.n) ≤ 1000000000000))), decide (((0 + m.n) ≤ m.n ∧ m.n ≤ 1099511627776)), decide ((((0 + ((((0 : Nat) : Int)) : Int).toNat) + (((((Int.tdiv ((l.n : Nat) : Int) 64) * 64)) : Int).toNat - ((((0 : Nat) : Int)) : Int).toNat)) ≤ l.n ∧ (((((Int.tdiv ((l.n : Nat) : Int) 64) * 64)) : Int).toNat - ((((0 : Nat) : Int)) : Int).toNat) ≤ 1099511627776)), ((true && decide (((0 : Nat) : Int) ≤ ((Int.tdiv ((l.n : Nat) : Int) 64) * 64))) && decide (((Int.tdiv ((l.n : Nat) : Int) 64) * 64) ≤ ((l.n : Nat) : Int))), decide (((-9223372036854775808) ≤ ((Int.tdiv ((l.n : Nat) : Int) 64) * 64) ∧ ((Int.tdiv ((l.n : Nat) : Int) 64) * 64) ≤ 9223372036854775807)), decide (((0 : Int) ≤ ((l.n : Nat) : Int) ∧ ((0 : Int) < 64 ∧ ((l.n : Nat) : Int) ≤ 9223372036854775807))), (decide ((1048576 : Int) < (((l.n : Nat) : Int) + ((m.n : Nat) : Int))) == false), decide (((-9223372036854775808) ≤ (((l.n : Nat) : Int) + ((m.n : Nat) : Int)) ∧ (((l.n : Nat) : Int) + ((m.n : Nat) : Int)) ≤ 9223372036854775807)), (decide ((2147483647 : Int) < ((m.n : Nat) : Int)) == false), (decide ((2147483647 : Int) < ((l.n : Nat) : Int)) == false), (decide ((2147483647 : Int) < ((l.n : Nat) : Int)) == false), (decide ((2147483647 : Int) < ((l.n : Nat) : Int)) == false), (decide ((2147483647 : Int) < ((l.n : Nat) : Int)) == false)]) := by kernel_rfl
def w5 (z : Nat → Int) : W5 := ⟨BitVec.ofInt 32 (z 0), BitVec.ofInt 32 (z 1), BitVec.ofInt 32 (z 2), BitVec.ofInt 32 (z 3), BitVec.ofInt 32 (z 4)⟩
theorem rel5 {β : Map} {z : Nat → Int} (h : ∀ i, i < 5 → (Lit.int .u32 (z i)).wf = true) : VRel β (av5 (w5 z)) (.agg ⟨(List.range 5).map fun i => .int .u32 (z i)⟩) := by
  have : av5 (w5 z) = .agg ((List.range 5).map fun i => .w32 (BitVec.ofInt 32 (z i))) := rfl
  rw [this]
  exact rel_arr fun i hi => rel_w32 (h i hi)
theorem walk {W0 : World} (hL : (M.LeadsTo W0 4 .i64 M.n_shift1 (RowAddr.row 4) ∧ M.LeadsTo W0 6 .i64 M.n_shift2 (RowAddr.row 6) ∧ M.LeadsTo W0 8 .i64 M.n_shift3 (RowAddr.row 8) ∧ M.LeadsTo W0 5 .u64 M.n_xIndex2 (RowAddr.row 5) ∧ M.LeadsTo W0 7 .u64 M.n_xIndex3 (RowAddr.row 7)) ∧ ripReads W0) (z : Nat → Int) (hz : ∀ i, i < 5 → (Lit.int .u32 (z i)).wf = true) {v1 v2 : Value} (l : Vec 8) (w1 : SlOk W0 v1 (.b8 l)) (_ : l.n ≤ maxLen) (m : Vec 8) (w2 : SlOk W0 v2 (.b8 m)) (_ : m.n ≤ maxLen) :
    Calls Tryd.prog 6 #[.agg ⟨(List.range 5).map fun i => .int .u32 (z i)⟩, v1, v2] W0 fun e W' => e = .returned (.bool true) ∧ Still W0 W' := by
  have hb := goB_ok specs6_ok (no_loops specs6)
  have hx : ∀ p ∈ [(v1, Eng.Data.b8 l), (v2, Eng.Data.b8 m)], SlOk W0 p.1 p.2 := ss_cons w1 (ss_cons w2 ss_nil)
  have args2 : ∀ β, (∀ (i : Nat) v d, [(v1, Eng.Data.b8 l), (v2, Eng.Data.b8 m)][i]? = some (v, d) → VRel β (.sl i (.c 0) (.s d.len) none) v) → LRel β [av5 (w5 z), .sl 0 (.c 0) (.s l.n) none, .sl 1 (.c 0) (.s m.n) none] [.agg ⟨(List.range 5).map fun i => .int .u32 (z i)⟩, v1, v2] :=
    fun β h => LRel.cons (rel5 hz) (LRel.cons (h 0 v1 _ rfl) (LRel.cons (h 1 v2 _ rfl) (LRel.nil β)))
  by_cases hA : 2147483647 < l.n
  · refine law_runG hb _ (glob_ok hL) hx (runA (w5 z) l m) ?_ args2
    repeat' (refine all_true_cons ?_ ?_)
    all_goals first | exact all_true_nil | rfl | (simp only [beq_true, beq_false, decide_eq_true_eq, Bool.not_eq_true', decide_eq_false_iff_not, beq_eq_false_iff_ne, ne_eq, Bool.not_eq_false', beq_iff_eq, Bool.and_eq_true, true_and, and_true] <;> omega)
  by_cases hB : 2147483647 < m.n
  · refine law_runG hb _ (glob_ok hL) hx (runB (w5 z) l m) ?_ args2
    repeat' (refine all_true_cons ?_ ?_)
    all_goals first | exact all_true_nil | rfl | (simp only [beq_true, beq_false, decide_eq_true_eq, Bool.not_eq_true', decide_eq_false_iff_not, beq_eq_false_iff_ne, ne_eq, Bool.not_eq_false', beq_iff_eq, Bool.and_eq_true, true_and, and_true] <;> omega)
  by_cases hC : 1048576 < l.n + m.n
  · refine law_runG hb _ (glob_ok hL) hx (runC (w5 z) l m) ?_ args2
    repeat' (refine all_true_cons ?_ ?_)
    all_goals first | exact all_true_nil | rfl | (simp only [beq_true, beq_false, decide_eq_true_eq, Bool.not_eq_true', decide_eq_false_iff_not, beq_eq_false_iff_ne, ne_eq, Bool.not_eq_false', beq_iff_eq, Bool.and_eq_true, true_and, and_true] <;> omega)
  refine law_runG hb _ (glob_ok hL) hx (runE (w5 z) l m) ?_ args2
  have hd := Int.tdiv_eq_ediv_of_nonneg (b := 64) (show 0 ≤ (l.n : Int) by omega)
  have hs : (sameR (w5 z) l m == true) = true := by rw [sameR_true]; rfl
  have ht : (sameM (w5 z) l m == true) = true := by rw [sameM_true]; rfl
  repeat' (refine all_true_cons ?_ ?_)
  all_goals first | exact hs | exact ht | exact all_true_nil | rfl | (simp only [beq_true, beq_false, decide_eq_true_eq, Bool.not_eq_true', decide_eq_false_iff_not, beq_eq_false_iff_ne, ne_eq, Bool.not_eq_false', beq_iff_eq, Bool.and_eq_true, true_and, and_true] <;> omega)
end
theorem own : ownKnob Tryd.prog.godebug = none := by kernel_rfl
theorem laidOut : laidOutB Tryd.prog = true := by kernel_rfl
theorem read38 : Tryd.prog.readableRec 38 = true ∧ 38 < Tryd.prog.types.size := ⟨by kernel_rfl, of_decide_eq_true (by kernel_rfl)⟩
theorem read22 : Tryd.prog.readableRec 22 = true ∧ 22 < Tryd.prog.types.size := ⟨by kernel_rfl, of_decide_eq_true (by kernel_rfl)⟩
theorem cells33 : Tryd.prog.cellsOf 33 = 1 := by kernel_rfl
theorem cells38 : Tryd.prog.cellsOf 38 = 5 := by kernel_rfl
theorem cells5 : Tryd.prog.cellsOf 5 = 1 := by kernel_rfl
set_option maxRecDepth 100000 in
theorem contract (H : Type) (enc : TypeId × Value → H) (W : World) (base : Nat) (args : Array Value) (ds gs : List (DataW H)) (before : List MemPlace)
    (hval : ∀ (j : Nat) t v, Tryd.f6.params[j]? = some t → args[j]? = some v → Value.okWide Tryd.prog W .any base t v)
    (hL : laidMet Tryd.prog laidB W)
    (hW : DataW.Whole enc Tryd.prog Tryd.f6.params.toList Rows.fnBlocksJoinSpec.vars false W args.toList ds gs before) :
    Calls Tryd.prog 6 args W fun e W' => ∃ v, e = .returned v ∧ Rows.fnBlocksJoinSpec.post enc Tryd.prog Tryd.f6 false true false false W args v W' := by
  have hW' := hW
  obtain ⟨p, q, hA0, hV, rfl, hfz, hnd⟩ := hW
  have hA : DataW.TrodAll enc Tryd.prog W 0 (fun _ => true) true Tryd.f6.params.toList args.toList ds p := hA0
  rw [Tryd.params6] at hA hval
  obtain ⟨v0, vs0, d0, ds0, p0, q0, hargs, rfl, rfl, h0, r0⟩ := trodAll_cons hA
  obtain ⟨v1, vs1, d1, ds1, p1, q1, rfl, rfl, rfl, h1, r1⟩ := trodAll_cons r0
  obtain ⟨v2, vs2, d2, ds2, p2, q2, rfl, rfl, rfl, h2, r2⟩ := trodAll_cons r1
  obtain ⟨rfl, rfl, rfl⟩ := trodAll_nil r2
  obtain rfl : args = #[v0, v1, v2] := by cases args; simp_all
  obtain ⟨r, hr⟩ := rows_of hL
  letI : RowAddr := ⟨r⟩
  obtain ⟨z0, rfl, w0⟩ := open_arr Tryd.underlying38 Tryd.underlying33 cells33 cells38 (hval 0 38 _ rfl rfl) h0
  obtain ⟨l1, w1, m1⟩ := open_sl8 Tryd.underlying22 Tryd.underlying5 cells5 (hval 1 22 v1 rfl rfl) h1
  obtain ⟨l2, w2, m2⟩ := open_sl8 Tryd.underlying22 Tryd.underlying5 cells5 (hval 2 22 v2 rfl rfl) h2
  refine (walk hr z0 w0 l1 w1 m1 l2 w2 m2).mono fun e W' ⟨he, hs⟩ => ?_
  subst he
  exact ⟨_, rfl, post_of_still (tb := 4) hW' rfl rfl laidOut (by
    intro t ht
    rw [Tryd.params6] at ht
    have : t = 38 ∨ t = 22 := by simpa using ht
    rcases this with rfl | rfl
    · exact read38
    · exact read22
    ) (by kernel_rfl) Tryd.underlying4 hs⟩
theorem laid_plain {w : World} (h : laidMetH Tryd.prog laidB w) : laidMet Tryd.prog laidB w := h
set_option maxRecDepth 100000 in
theorem lifted (os : Os) (started : os.Started) (H : Type) (enc : TypeId × Value → H) :
    ReturnsInHanded {} Tryd.checked os 6 .any (fun w args => (Rows.fnBlocksJoinSpec.pre enc Tryd.prog Tryd.f6 [] false w args ∧ laidMetH Tryd.prog laidB w) ∧ sizedMet enc Tryd.prog Tryd.f6 (OpenSpec.ofChange Rows.fnBlocksJoinSpec) false w args)
      (Rows.fnBlocksJoinSpec.post enc Tryd.prog Tryd.f6 false true false false) := by
  refine returnsInHanded_of_change_and (C := Tryd.checked) (X := fun w _ => laidMetH Tryd.prog laidB w) (fun _ _ _ hh h => h.of_heap hh) own started (by kernel_rfl) Tryd.func6
    (ChangeSpec.witness_shaped (enc := enc) (C := Tryd.checked) (os := os) (X := fun w _ => laidMetH Tryd.prog laidB w) false (laidWorld os) #[.agg (Array.replicate 5 (.int .u32 0)), .slice none 0 0, .slice none 0 0] 8 rfl (World.shaped_of_RefB (by kernel_rfl) (by kernel_rfl)) (by kernel_rfl) (by kernel_rfl) (by kernel_rfl) (laidWorld_met os _)) ?_
  intro W base args ds gs before hval hW _ _ hL _
  exact contract H enc W base args ds gs before hval (laid_plain hL) hW
theorem holds : Rows.FnBlocksJoinSaid :=
  OpenClaim.holds_of_wide 6 Tryd.f6 rfl rfl rfl rfl rfl rfl rfl ⟨rfl, rfl, rfl, rfl, rfl⟩ rfl rfl rfl rfl rfl (by kernel_rfl) Tryd.func6 (by kernel_rfl)
    (of_decide_eq_true (by kernel_rfl)) (by unfold Func.isWrapper; first | (rw [if_pos (by decide +kernel)]; kernel_rfl) | (rw [if_neg (by decide +kernel)]; exact ⟨rfl, rfl⟩))
    (fun os started H enc _ => lifted os started H enc)
theorem card_holds : Rows.FnBlocksJoinCardSaid :=
  Claim7.holds_tied_plain_at .later [] [.data, .data, .data, .data, .data, .data, .data, .data, .data] true (true, "29816d1f0eb4f00cb746d9b64e0df4ee5501f78b92cd8e10c20a87834921c875") false
    holds (fun _ h => by cases h) (by kernel_rfl) (fun _ h => by cases h) fnBlocksJoin_row_tie rfl ⟨rfl, rfl⟩ (by kernel_rfl) rfl
    (fun f fn hf hfn => by
      obtain rfl : f = 6 := Option.some.inj ((show Tryd.prog.funcNamed "pub-wardkeep/laws.FnBlocksJoin" = some 6 by kernel_rfl).symm.trans hf) |>.symm
      obtain rfl : fn = Tryd.f6 := (Option.some.inj (Tryd.func6.symm.trans hfn)).symm
      exact ⟨by kernel_rfl, fun j t ht => by
        rw [Tryd.params6] at ht
        have h3 : t = 38 ∨ t = 22 := by
          rcases j with _ | _ | _ | j
          · left; simpa using ht.symm
          · right; simpa using ht.symm
          · right; simpa using ht.symm
          · simp at ht
        rcases h3 with rfl | rfl
        · exact (show Tryd.prog.wantsStandIn 38 = false by kernel_rfl)
        · exact (show Tryd.prog.wantsStandIn 22 = false by kernel_rfl)⟩)
    (by kernel_rfl)
end Go.Proofs.YtaklljigoajpcaaDoor.B.blocksJoin

/- The reference's mix of blocks over words: its contract. -/
import Derived.Test.YtnonaagcnenbdaaR1Ref3
namespace Go.Proofs.Ytnonaagcnenbdaa
open Go.Eng
set_option linter.unusedSimpArgs false
set_option linter.unusedVariables false
set_option linter.unusedSectionVars false
variable [RowAddr]
theorem enc_len (a : Vec 32) (oa : Nat) : ∀ m : Nat, ((List.range m).flatMap fun i => low4 (a.l.getD (oa + i) 0#32)).length = 4 * m
  | 0 => rfl
  | m + 1 => by
    rw [List.range_succ, List.flatMap_append, List.length_append, enc_len a oa m]
    simp [low4]; omega
def encV (a : Vec 32) (oa m : Nat) : Vec 8 := ⟨4 * m, (List.range m).flatMap fun i => low4 (a.l.getD (oa + i) 0#32), enc_len a oa m⟩
theorem encV_succ (a : Vec 32) (oa m : Nat) : (encV a oa m).app (Vec.of (low4 (a.l.getD (oa + m) 0#32))) = encV a oa (m + 1) := by
  refine vec_ext ?_
  show (List.range m).flatMap _ ++ _ = (List.range (m + 1)).flatMap _
  rw [List.range_succ, List.flatMap_append]
  simp [Vec.of]
theorem l17a_iter (a : Vec 32) (oa na : Nat) (r : Int) : ∀ m : Nat, iter l17a_next m ⟨a, Vec.of [], oa, na, 0, r, 0⟩ = ⟨a, encV a oa m, oa, na, 4 * m, r, (m : Int)⟩
  | 0 => by
    have : encV a oa 0 = Vec.of [] := vec_ext rfl
    rw [this]; rfl
  | m + 1 => by
    rw [iter_succ, l17a_iter a oa na r m]
    show (⟨a, (encV a oa m).app (Vec.of (low4 (a.l.getD (oa + ((m : Int)).toNat * 1) 0#32))), oa, na, 4 * m + 4, r, (m : Int) + 1⟩ : l17aD) = _
    rw [show ((m : Int)).toNat * 1 = m by omega, encV_succ]
    rfl
def wordsV (b : Vec 8) (m : Nat) : Vec 32 := ⟨m, (List.range m).map fun i => lw b (4 * i), by simp⟩
theorem wordsV_succ (b : Vec 8) (m : Nat) : (wordsV b m).app (Vec.of [lw b (4 * m)]) = wordsV b (m + 1) := by
  refine vec_ext ?_
  show (List.range m).map _ ++ [_] = (List.range (m + 1)).map _
  rw [List.range_succ, List.map_append]; rfl
theorem l17b_iter (a : Vec 32) (b : Vec 8) (oa na n8 : Nat) (r : Int) : ∀ m : Nat, iter l17b_next m ⟨a, b, Vec.of [], oa, na, n8, 0, r, 0⟩ = ⟨a, b, wordsV b m, oa, na, n8, m, r, (m : Int)⟩
  | 0 => by
    have : wordsV b 0 = Vec.of [] := vec_ext rfl
    rw [this]; rfl
  | m + 1 => by
    rw [iter_succ, l17b_iter a b oa na n8 r m]
    show (⟨a, b, (wordsV b m).app (Vec.of [lw b (0 + (4 * (m : Int)).toNat)]), oa, na, n8, m + 1, r, (m : Int) + 1⟩ : l17bD) = _
    rw [show 0 + (4 * (m : Int)).toNat = 4 * m by omega, wordsV_succ]
    rfl
def s17a (a : Vec 32) (oa na : Nat) (r : Int) : l17aD := ⟨a, Vec.of [], oa, na, 0, r, 0⟩
def e17a (a : Vec 32) (oa na : Nat) (r : Int) : l17aD := iter l17a_next (((na : Nat) : Int) - 0).toNat (s17a a oa na r)
def s17b (a : Vec 32) (oa na : Nat) (r : Int) : l17bD := ⟨a, bm8 (e17a a oa na r).u 0 (e17a a oa na r).k, Vec.of [], (e17a a oa na r).oa, (e17a a oa na r).na, (e17a a oa na r).k, 0, (e17a a oa na r).r, 0⟩
def e17b (a : Vec 32) (oa na : Nat) (r : Int) : l17bD := iter l17b_next ((((e17a a oa na r).na : Nat) : Int) - 0).toNat (s17b a oa na r)
/-- What the reference's mix makes of words. -/
def bmRef (a : Vec 32) (oa na : Nat) : Vec 32 := wordsV (bm8 (encV a oa na) 0 (4 * na)) na
theorem e17a_eq (a : Vec 32) (oa na : Nat) (r : Int) : e17a a oa na r = ⟨a, encV a oa na, oa, na, 4 * na, r, (na : Int)⟩ := by
  unfold e17a s17a
  rw [show (((na : Nat) : Int) - 0).toNat = na by omega, l17a_iter]
theorem s17b_eq (a : Vec 32) (oa na : Nat) (r : Int) : s17b a oa na r = ⟨a, bm8 (encV a oa na) 0 (4 * na), Vec.of [], oa, na, 4 * na, 0, r, 0⟩ := by
  unfold s17b
  rw [e17a_eq]
theorem e17b_eq (a : Vec 32) (oa na : Nat) (r : Int) : e17b a oa na r = ⟨a, bm8 (encV a oa na) 0 (4 * na), bmRef a oa na, oa, na, 4 * na, na, r, (na : Int)⟩ := by
  unfold e17b
  rw [s17b_eq, e17a_eq]
  show iter l17b_next (((na : Nat) : Int) - 0).toNat _ = _
  rw [show (((na : Nat) : Int) - 0).toNat = na by omega, l17b_iter]
  rfl
structure c17D where
  a : Vec 32
  oa : Nat
  na : Nat
  r : Int
def c17_rd (a : List AV) (K : List Blk) : Option c17D :=
    match a with
    | [(.ref (.sl 0 (.s oa) (.s na) none)), (.num (.int .i64 (.s r)))] =>
      match K with
      | [⟨(.b32 a), .ro⟩] => some ⟨a, oa, na, r⟩
      | _ => none
    | _ => none
def c17 : Ct c17D where
  pat := [(.ref (.sl 0 (.s 0) (.s 0) none)), (.num (.int .i64 (.s 0)))]
  patH := [⟨(.b32 (Vec.zero 32 0)), .ro⟩]
  read := c17_rd
  args := fun ⟨_, oa, na, r⟩ => [(.ref (.sl 0 (.s oa) (.s na) none)), (.num (.int .i64 (.s r)))]
  heap := fun ⟨a, _, _, _⟩ => [⟨(.b32 a), .ro⟩]
  out := fun ⟨a, oa, na, _⟩ => [⟨(.b32 a), .ro⟩, ⟨(.b32 (bmRef a oa na)), .own⟩]
  val := fun ⟨_, _, na, _⟩ => (.ref (.sl 1 (.c 0) (.s na) none))
  good := fun ⟨a, oa, na, r⟩ => decide (1 ≤ r ∧ r ≤ 1000 ∧ (na : Int) = 32 * r ∧ oa + na ≤ a.n)
theorem c17_run (a : Vec 32) (oa na : Nat) (r : Int) : endsAs (c17.heap ⟨a, oa, na, r⟩).length (some [0, 3]) [⟨(.b32 a), .ro⟩, ⟨(.b32 ((e17b a oa na r)).u), .own⟩] (.ref (.sl 1 (.c 0) (.s ((e17b a oa na r)).k) none)) (goB specs17 l17s 17 (c17.args ⟨a, oa, na, r⟩) ⟨c17.heap ⟨a, oa, na, r⟩, big, (List.replicate 12 false), []⟩) = some ([⟨(.b32 a), .ro⟩, ⟨(.b32 ((e17b a oa na r)).u), .own⟩], (.ref (.sl 1 (.c 0) (.s ((e17b a oa na r)).k) none)), [l17b.good (s17b a oa na r), c25.good ⟨(e17a a oa na r).u, 0, (e17a a oa na r).k⟩, l17a.good (s17a a oa na r), ((!((Int.tdiv ((na : Nat) : Int) 32) == r)) == false), ((!((Int.tmod ((na : Nat) : Int) 32) == 0)) == false), ((!((Int.tmod ((na : Nat) : Int) 32) == 0)) == false), ((!((Int.tmod ((na : Nat) : Int) 32) == 0)) == false), decide (((0 : Int) ≤ ((na : Nat) : Int) ∧ ((0 : Int) < 32 ∧ ((na : Nat) : Int) ≤ 9223372036854775807))), ((!((Int.tmod ((na : Nat) : Int) 32) == 0)) == false), ((!((Int.tmod ((na : Nat) : Int) 32) == 0)) == false), ((!((Int.tmod ((na : Nat) : Int) 32) == 0)) == false), (decide (r < 1) == false), (decide (r < 1) == false), decide ((32 : Int) ≠ 0), (decide (r < 1) == false), (decide (r < 1) == false), (decide (r < 1) == false)]) := by kernel_rfl
set_option maxRecDepth 100000 in
theorem c17_read (a : List AV) (K : List Blk) (d : c17D) (h : c17.read a K = some d) : a = c17.args d ∧ K = c17.heap d := by
  replace h : c17_rd a K = some d := h
  unfold c17_rd at h
  split at h
  case h_2 => cases h
  split at h
  case h_2 => cases h
  injection h with h; subst h
  exact ⟨rfl, rfl⟩
theorem c17_ok : SpecOk Try.prog noGlob 17 c17.spec := by
  refine c17.ok (goB_ok specs17_ok (l17s_ok _)) c17_read ?_
  rintro ⟨a, oa, na, r⟩ hg
  have hg : 1 ≤ r ∧ r ≤ 1000 ∧ (na : Int) = 32 * r ∧ oa + na ≤ a.n := of_decide_eq_true hg
  have eo : c17.out ⟨a, oa, na, r⟩ = [⟨(.b32 a), .ro⟩, ⟨(.b32 ((e17b a oa na r)).u), .own⟩] := by
    rw [e17b_eq]
    rfl
  have ev : c17.val ⟨a, oa, na, r⟩ = (.ref (.sl 1 (.c 0) (.s ((e17b a oa na r)).k) none)) := by
    rw [e17b_eq]
    rfl
  rw [eo, ev]
  refine ⟨(List.replicate 12 false), (some [0, 3]), _, c17_run a oa na r, ?_⟩
  have hd := Int.tdiv_eq_ediv_of_nonneg (b := 32) (show 0 ≤ (na : Int) by omega)
  have hm := Int.tmod_eq_emod_of_nonneg (b := 32) (show 0 ≤ (na : Int) by omega)
  have hb : (bm8 (encV a oa na) 0 (4 * na)).n = 4 * na := bm8_n _ _ _ (by omega) (by omega) (by omega) (by show 0 + 4 * na ≤ 4 * na; omega)
  refine all_true_cons ?_ (all_true_cons ?_ (all_true_cons ?_ ?_))
  · rw [s17b_eq]
    refine (show l17b.good ⟨a, bm8 (encV a oa na) 0 (4 * na), Vec.of [], oa, na, 4 * na, 0, r, 0⟩ = decide (0 ≤ (0 : Int) ∧ (0 : Int) ≤ na ∧ 4 * na = 4 * na ∧ (bm8 (encV a oa na) 0 (4 * na)).n = 4 * na ∧ na ≤ 1000000 ∧ ((0 : Nat) : Int) = 0 ∧ 0 = 0) by kernel_rfl).trans (decide_eq_true ?_)
    omega
  · rw [e17a_eq]
    refine (show c25.good ⟨encV a oa na, 0, 4 * na⟩ = decide (4 * na % 128 = 0 ∧ 128 ≤ 4 * na ∧ 4 * na ≤ 64000000 ∧ 0 + 4 * na ≤ 4 * na) by kernel_rfl).trans (decide_eq_true ?_)
    omega
  · refine (show l17a.good ⟨a, Vec.of [], oa, na, 0, r, 0⟩ = decide (0 ≤ (0 : Int) ∧ (0 : Int) ≤ na ∧ oa + na ≤ a.n ∧ na ≤ 1000000 ∧ ((0 : Nat) : Int) = 4 * 0 ∧ 0 = 0) by kernel_rfl).trans (decide_eq_true ?_)
    omega
  repeat' (refine all_true_cons ?_ ?_)
  all_goals first | exact all_true_nil | rfl | (simp only [Bool.and_eq_true, decide_eq_true_eq, beq_iff_eq, beq_true, beq_false, Bool.not_eq_true', decide_eq_false_iff_not, beq_eq_false_iff_ne, ne_eq, Bool.not_eq_false', bne_iff_ne, true_and, and_true]; omega)
end Go.Proofs.Ytnonaagcnenbdaa

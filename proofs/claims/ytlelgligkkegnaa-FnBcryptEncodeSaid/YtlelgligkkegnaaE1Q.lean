/- bcrypt's letters read again: impl.BcryptDecode. -/
import Derived.Test.YtlelgligkkegnaaE1K
namespace Go.Proofs.Ytlelgligkkegnaa
open Go.Eng
set_option linter.unusedSimpArgs false
set_option linter.unusedVariables false
theorem app_getD (a b : Vec 8) (i : Nat) : (a.app b).l.getD i 0#8 = if i < a.n then a.l.getD i 0#8 else b.l.getD (i - a.n) 0#8 := by
  show (a.l ++ b.l).getD i 0#8 = _
  rw [← a.h]
  simp only [List.getD_eq_getElem?_getD, List.getElem?_append]
  split <;> rfl
theorem sub_get (a : Vec 8) (o m j : Nat) (h : o + m ≤ a.n) (hj : j < m) : (a.sub o m).l.getD j 0#8 = a.l.getD (o + j) 0#8 := by
  rw [Vec.sub_l h]
  simp [List.getD_eq_getElem?_getD, List.getElem?_take, hj]
/-- The letters of a slice, and fillers behind them. -/
def pad1 (l : Vec 8) (ol nl : Nat) : Vec 8 := (l.sub ol nl).app (Vec.of [61#8])
def pad2 (l : Vec 8) (ol nl : Nat) : Vec 8 := ((l.sub ol nl).app (Vec.of [61#8])).app (Vec.of [61#8])
theorem pad1_lo (l : Vec 8) (ol nl k : Nat) (h : ol + nl ≤ l.n) (hk : k < nl) : (pad1 l ol nl).l.getD k 0#8 = l.l.getD (ol + k) 0#8 := by
  unfold pad1
  rw [app_getD, if_pos (by exact hk), sub_get _ _ _ _ h hk]
theorem pad1_hi (l : Vec 8) (ol nl : Nat) : (pad1 l ol nl).l.getD nl 0#8 = 61#8 := by
  unfold pad1
  rw [app_getD, if_neg (by exact Nat.lt_irrefl nl)]
  show [61#8].getD (nl - nl) 0#8 = _
  rw [Nat.sub_self]; rfl
theorem pad2_lo (l : Vec 8) (ol nl k : Nat) (h : ol + nl ≤ l.n) (hk : k < nl) : (pad2 l ol nl).l.getD k 0#8 = l.l.getD (ol + k) 0#8 := by
  unfold pad2
  rw [app_getD, if_pos (by show k < nl + 1; omega)]
  exact pad1_lo l ol nl k h hk
theorem pad2_mid (l : Vec 8) (ol nl : Nat) : (pad2 l ol nl).l.getD nl 0#8 = 61#8 := by
  unfold pad2
  rw [app_getD, if_pos (by show nl < nl + 1; omega)]
  exact pad1_hi l ol nl
theorem pad2_hi (l : Vec 8) (ol nl : Nat) : (pad2 l ol nl).l.getD (nl + 1) 0#8 = 61#8 := by
  unfold pad2
  rw [app_getD, if_neg (by show ¬ nl + 1 < nl + 1; omega)]
  show [61#8].getD (nl + 1 - (nl + 1)) 0#8 = _
  rw [Nat.sub_self]; rfl
theorem dx_at (e a b : Vec 8) (i j : Nat) (h : a.l.getD i 0#8 = b.l.getD j 0#8) : dx e a i = dx e b j := by
  unfold dx
  rw [h]
theorem enc61 : encV.l.getD 125 0#8 = 255#8 := by decide
theorem dx61 (a : Vec 8) (i : Nat) (h : a.l.getD i 0#8 = 61#8) : dx (cp encV) a i = 255#8 := by
  unfold dx
  rw [cp_cp, h, cp_get _ _ (by decide)]
  exact enc61
/-- What the letters stand for. -/
def dec1T (l : Vec 8) (ol nl : Nat) (k : Nat) : Vec 8 := end1 (cp (cp (cp encV))) (decB (cp encV) (pad2 l ol nl) 0 0 (nl + 1 + 1) (Vec.zero 8 k)) (pad2 l ol nl) (0 + (((3 * ((nl + 1 + 1) / 4 - 1) : Nat) : Int)).toNat) 0 ((((nl + 1 + 1) - 4 : Nat) : Int))
def spQ1 : FuncId → Option Eng.Spec
  | 13 => some c13.spec
  | 17 => some c17_1.spec
  | _ => none
theorem spQ1_ok : ∀ f sp, spQ1 f = some sp → SpecOk Try.prog noGlob f sp := by
  intro f sp h
  unfold spQ1 at h
  split at h
  · injection h with h; subst h; exact c13_ok
  · injection h with h; subst h; exact c17_1_ok
  · cases h
structure c8_1D where
  l : Vec 8
  ol : Nat
  nl : Nat
def c8_1_rd (a : List AV) (K : List Blk) : Option c8_1D :=
    match a with
    | [(.ref (.sl 0 (.s ol) (.s nl) none))] =>
      match K with
      | [⟨(.b8 l), .ro⟩] => some ⟨l, ol, nl⟩
      | _ => none
    | _ => none
def c8_1 : Ct c8_1D where
  pat := [(.ref (.sl 0 (.s 0) (.s 0) none))]
  patH := [⟨(.b8 (Vec.zero 8 0)), .ro⟩]
  read := c8_1_rd
  args := fun ⟨_, ol, nl⟩ => [(.ref (.sl 0 (.s ol) (.s nl) none))]
  heap := fun ⟨l, _, _⟩ => [⟨(.b8 l), .ro⟩]
  out := fun ⟨l, ol, nl⟩ => [⟨(.b8 l), .ro⟩, ⟨(.b8 (dec1T l ol nl ((nl + 1 + 1) / 4 * 3))), .own⟩]
  val := fun ⟨_, _, nl⟩ => (.obj .tup [(.ref (.sl 1 (.s 0) (.s (3 * ((nl + 1 + 1) / 4 - 1) + 1)) (some (.s ((nl + 1 + 1) / 4 * 3))))), (.atom (.bool (.c true)))])
  good := fun ⟨l, ol, nl⟩ => decide (ol + nl ≤ l.n ∧ nl % 4 = 2 ∧ nl ≤ 100000 ∧ ∀ k, k < nl → (dx encV l (ol + k)).toNat < 64)
theorem c8_1_run (l : Vec 8) (ol nl : Nat) : endsAs (c8_1.heap ⟨l, ol, nl⟩).length (some [0, 7]) [⟨(.b8 l), .ro⟩, ⟨(.b8 (dec1T l ol nl (((Int.tdiv ((nl + 1 + 1) : Nat) 4 * 3) : Int)).toNat)), .own⟩] (.obj .tup [(.ref (.sl 1 (.s 0) (.s (((((3 * ((nl + 1 + 1) / 4 - 1) : Nat) : Int) + 1)).toNat - (((0 : Nat) : Int)).toNat)) (some (.s ((((Int.tdiv ((nl + 1 + 1) : Nat) 4 * 3) : Int)).toNat - (((0 : Nat) : Int)).toNat))))), (.atom (.bool (.c true)))]) (goB spQ1 noLoop 8 (c8_1.args ⟨l, ol, nl⟩) ⟨c8_1.heap ⟨l, ol, nl⟩, big, [true, true, false], []⟩) = some ([⟨(.b8 l), .ro⟩, ⟨(.b8 (dec1T l ol nl (((Int.tdiv ((nl + 1 + 1) : Nat) 4 * 3) : Int)).toNat)), .own⟩], (.obj .tup [(.ref (.sl 1 (.s 0) (.s (((((3 * ((nl + 1 + 1) / 4 - 1) : Nat) : Int) + 1)).toNat - (((0 : Nat) : Int)).toNat)) (some (.s ((((Int.tdiv ((nl + 1 + 1) : Nat) 4 * 3) : Int)).toNat - (((0 : Nat) : Int)).toNat))))), (.atom (.bool (.c true)))]), [((true && decide (((0 : Nat) : Int) ≤ ((((3 * ((((nl + 1) + 1) / 4) - 1)) : Nat) : Int) + 1))) && decide (((((3 * ((((nl + 1) + 1) / 4) - 1)) : Nat) : Int) + 1) ≤ ((((((Int.tdiv ((((nl + 1) + 1) : Nat) : Int) 4) * 3)) : Int).toNat : Nat) : Int))), (c17_1.good ⟨cp encV, Vec.zero 8 ((Int.tdiv ((nl + 1 + 1) : Nat) 4 * 3) : Int).toNat, (pad2 l ol nl), 0, ((Int.tdiv ((nl + 1 + 1) : Nat) 4 * 3) : Int).toNat, 0, (nl + 1 + 1)⟩), decide (True), decide ((((((Int.tdiv ((((nl + 1) + 1) : Nat) : Int) 4) * 3)) : Int).toNat * 1) ≤ 1099511627776), ((decide ((0 : Int) ≤ ((Int.tdiv ((((nl + 1) + 1) : Nat) : Int) 4) * 3)) && decide (((Int.tdiv ((((nl + 1) + 1) : Nat) : Int) 4) * 3) ≤ ((Int.tdiv ((((nl + 1) + 1) : Nat) : Int) 4) * 3))) && decide (((Int.tdiv ((((nl + 1) + 1) : Nat) : Int) 4) * 3) ≤ 1099511627776)), decide (((-9223372036854775808) ≤ ((Int.tdiv ((((nl + 1) + 1) : Nat) : Int) 4) * 3) ∧ ((Int.tdiv ((((nl + 1) + 1) : Nat) : Int) 4) * 3) ≤ 9223372036854775807)), decide (((0 : Int) ≤ ((((nl + 1) + 1) : Nat) : Int) ∧ ((0 : Int) < 4 ∧ ((((nl + 1) + 1) : Nat) : Int) ≤ 9223372036854775807))), decide (True), (decide ((2 : Int) < (4 - (Int.tmod ((nl : Nat) : Int) 4))) == false), (true && ((nl + 1) == (nl + 1))), decide ((((nl + 1) + 1) * 1) ≤ 1099511627776), (decide ((1 : Int) < (4 - (Int.tmod ((nl : Nat) : Int) 4))) == true), (true && (nl == nl)), decide (((nl + 1) * 1) ≤ 1099511627776), (decide ((0 : Int) < (4 - (Int.tmod ((nl : Nat) : Int) 4))) == true), decide (((-9223372036854775808) ≤ (4 - (Int.tmod ((nl : Nat) : Int) 4)) ∧ (4 - (Int.tmod ((nl : Nat) : Int) 4)) ≤ 9223372036854775807)), decide ((4 : Int) ≠ 0), decide ((nl * 1) ≤ 1099511627776), decide ((ol + nl) ≤ l.n)]) := by kernel_rfl
set_option maxRecDepth 100000 in
theorem c8_1_read (a : List AV) (K : List Blk) (d : c8_1D) (h : c8_1.read a K = some d) : a = c8_1.args d ∧ K = c8_1.heap d := by
  replace h : c8_1_rd a K = some d := h
  unfold c8_1_rd at h
  split at h
  case h_2 => cases h
  split at h
  case h_2 => cases h
  injection h with h; subst h
  exact ⟨rfl, rfl⟩
theorem c8_1_ok : SpecOk Try.prog noGlob 8 c8_1.spec := by
  refine c8_1.ok (goB_ok spQ1_ok (no_loops _)) c8_1_read ?_
  rintro ⟨l, ol, nl⟩ hg
  have hg : ol + nl ≤ l.n ∧ nl % 4 = 2 ∧ nl ≤ 100000 ∧ ∀ k, k < nl → (dx encV l (ol + k)).toNat < 64 := of_decide_eq_true hg
  have eo : c8_1.out ⟨l, ol, nl⟩ = [⟨(.b8 l), .ro⟩, ⟨(.b8 (dec1T l ol nl (((Int.tdiv ((nl + 1 + 1) : Nat) 4 * 3) : Int)).toNat)), .own⟩] := by
    rw [show ((Int.tdiv ((nl + 1 + 1) : Nat) 4 * 3) : Int).toNat = (nl + 1 + 1) / 4 * 3 by rw [Int.tdiv_eq_ediv_of_nonneg (by omega)]; omega]
    rfl
  have ev : c8_1.val ⟨l, ol, nl⟩ = (.obj .tup [(.ref (.sl 1 (.s 0) (.s (((((3 * ((nl + 1 + 1) / 4 - 1) : Nat) : Int) + 1)).toNat - (((0 : Nat) : Int)).toNat)) (some (.s ((((Int.tdiv ((nl + 1 + 1) : Nat) 4 * 3) : Int)).toNat - (((0 : Nat) : Int)).toNat))))), (.atom (.bool (.c true)))]) := by
    have ht : Int.tdiv ((nl + 1 + 1) : Nat) 4 = ((((nl + 1 + 1) / 4 : Nat)) : Int) := by rw [Int.tdiv_eq_ediv_of_nonneg (by omega)]; omega
    rw [show (((3 * ((nl + 1 + 1) / 4 - 1) : Nat) : Int) + 1).toNat - ((0 : Nat) : Int).toNat = 3 * ((nl + 1 + 1) / 4 - 1) + 1 by omega, show ((Int.tdiv ((nl + 1 + 1) : Nat) 4 * 3) : Int).toNat - ((0 : Nat) : Int).toNat = (nl + 1 + 1) / 4 * 3 by rw [ht]; omega]
    rfl
  rw [eo, ev]
  refine ⟨[true, true, false], (some [0, 7]), _, c8_1_run l ol nl, ?_⟩
  obtain ⟨g1, g2, g3, g4⟩ := hg
  have ht : Int.tdiv ((nl + 1 + 1) : Nat) 4 = ((((nl + 1 + 1) / 4 : Nat)) : Int) := by rw [Int.tdiv_eq_ediv_of_nonneg (by omega)]; omega
  have hm : Int.tmod (nl : Int) 4 = 2 := by rw [Int.tmod_eq_emod_of_nonneg (by omega)]; omega
  have hn : (pad2 l ol nl).n = (nl + 1 + 1) := rfl
  have hlo : ∀ k, k < nl → (dx (cp encV) (pad2 l ol nl) (0 + k)).toNat < 64 := fun k hk => by rw [dx_cp, dx_at encV (pad2 l ol nl) l (0 + k) (ol + k) (by rw [Nat.zero_add]; exact pad2_lo l ol nl k g1 hk)]; exact g4 k hk
  have y1 : c17_1.good ⟨cp encV, Vec.zero 8 ((Int.tdiv ((nl + 1 + 1) : Nat) 4 * 3) : Int).toNat, (pad2 l ol nl), 0, ((Int.tdiv ((nl + 1 + 1) : Nat) 4 * 3) : Int).toNat, 0, (nl + 1 + 1)⟩ = true := decide_eq_true ⟨by rw [hn]; omega, by show 0 + ((Int.tdiv ((nl + 1 + 1) : Nat) 4 * 3) : Int).toNat ≤ ((Int.tdiv ((nl + 1 + 1) : Nat) 4 * 3) : Int).toNat; omega, by omega, by rw [ht]; omega, by omega, by omega, fun k hk => hlo k (by omega), dx61 _ _ (by rw [show 0 + (nl + 1 + 1 - 2) = nl by omega]; exact pad2_mid l ol nl), by rw [show 0 + (nl + 1 + 1 - 2) = nl by omega]; exact pad2_mid l ol nl, by rw [show 0 + (nl + 1 + 1 - 1) = nl + 1 by omega]; exact pad2_hi l ol nl⟩
  repeat' (refine all_true_cons ?_ ?_)
  all_goals first | exact all_true_nil | (simp only [ht, hm, Bool.and_eq_true, decide_eq_true_eq, beq_iff_eq, beq_true, beq_false, Bool.not_eq_true', decide_eq_false_iff_not, beq_eq_false_iff_ne, ne_eq, Bool.not_eq_false', bne_iff_ne, true_and, and_true] <;> omega) | (simp only [ht, hm, Bool.and_eq_true, decide_eq_true_eq, beq_iff_eq, beq_true, beq_false, true_and, and_true]; done) | exact y1
/-- What the letters stand for. -/
def dec2T (l : Vec 8) (ol nl : Nat) (k : Nat) : Vec 8 := end2 (cp (cp (cp encV))) (decB (cp encV) (pad1 l ol nl) 0 0 (nl + 1) (Vec.zero 8 k)) (pad1 l ol nl) (0 + (((3 * ((nl + 1) / 4 - 1) : Nat) : Int)).toNat) 0 ((((nl + 1) - 4 : Nat) : Int))
def spQ2 : FuncId → Option Eng.Spec
  | 13 => some c13.spec
  | 17 => some c17_2.spec
  | _ => none
theorem spQ2_ok : ∀ f sp, spQ2 f = some sp → SpecOk Try.prog noGlob f sp := by
  intro f sp h
  unfold spQ2 at h
  split at h
  · injection h with h; subst h; exact c13_ok
  · injection h with h; subst h; exact c17_2_ok
  · cases h
structure c8_2D where
  l : Vec 8
  ol : Nat
  nl : Nat
def c8_2_rd (a : List AV) (K : List Blk) : Option c8_2D :=
    match a with
    | [(.ref (.sl 0 (.s ol) (.s nl) none))] =>
      match K with
      | [⟨(.b8 l), .ro⟩] => some ⟨l, ol, nl⟩
      | _ => none
    | _ => none
def c8_2 : Ct c8_2D where
  pat := [(.ref (.sl 0 (.s 0) (.s 0) none))]
  patH := [⟨(.b8 (Vec.zero 8 0)), .ro⟩]
  read := c8_2_rd
  args := fun ⟨_, ol, nl⟩ => [(.ref (.sl 0 (.s ol) (.s nl) none))]
  heap := fun ⟨l, _, _⟩ => [⟨(.b8 l), .ro⟩]
  out := fun ⟨l, ol, nl⟩ => [⟨(.b8 l), .ro⟩, ⟨(.b8 (dec2T l ol nl ((nl + 1) / 4 * 3))), .own⟩]
  val := fun ⟨_, _, nl⟩ => (.obj .tup [(.ref (.sl 1 (.s 0) (.s (3 * ((nl + 1) / 4 - 1) + 2)) (some (.s ((nl + 1) / 4 * 3))))), (.atom (.bool (.c true)))])
  good := fun ⟨l, ol, nl⟩ => decide (ol + nl ≤ l.n ∧ nl % 4 = 3 ∧ nl ≤ 100000 ∧ ∀ k, k < nl → (dx encV l (ol + k)).toNat < 64)
theorem c8_2_run (l : Vec 8) (ol nl : Nat) : endsAs (c8_2.heap ⟨l, ol, nl⟩).length (some [0, 5]) [⟨(.b8 l), .ro⟩, ⟨(.b8 (dec2T l ol nl (((Int.tdiv ((nl + 1) : Nat) 4 * 3) : Int)).toNat)), .own⟩] (.obj .tup [(.ref (.sl 1 (.s 0) (.s (((((3 * ((nl + 1) / 4 - 1) : Nat) : Int) + 2)).toNat - (((0 : Nat) : Int)).toNat)) (some (.s ((((Int.tdiv ((nl + 1) : Nat) 4 * 3) : Int)).toNat - (((0 : Nat) : Int)).toNat))))), (.atom (.bool (.c true)))]) (goB spQ2 noLoop 8 (c8_2.args ⟨l, ol, nl⟩) ⟨c8_2.heap ⟨l, ol, nl⟩, big, [true, false], []⟩) = some ([⟨(.b8 l), .ro⟩, ⟨(.b8 (dec2T l ol nl (((Int.tdiv ((nl + 1) : Nat) 4 * 3) : Int)).toNat)), .own⟩], (.obj .tup [(.ref (.sl 1 (.s 0) (.s (((((3 * ((nl + 1) / 4 - 1) : Nat) : Int) + 2)).toNat - (((0 : Nat) : Int)).toNat)) (some (.s ((((Int.tdiv ((nl + 1) : Nat) 4 * 3) : Int)).toNat - (((0 : Nat) : Int)).toNat))))), (.atom (.bool (.c true)))]), [((true && decide (((0 : Nat) : Int) ≤ ((((3 * (((nl + 1) / 4) - 1)) : Nat) : Int) + 2))) && decide (((((3 * (((nl + 1) / 4) - 1)) : Nat) : Int) + 2) ≤ ((((((Int.tdiv (((nl + 1) : Nat) : Int) 4) * 3)) : Int).toNat : Nat) : Int))), (c17_2.good ⟨cp encV, Vec.zero 8 ((Int.tdiv ((nl + 1) : Nat) 4 * 3) : Int).toNat, (pad1 l ol nl), 0, ((Int.tdiv ((nl + 1) : Nat) 4 * 3) : Int).toNat, 0, (nl + 1)⟩), decide (True), decide ((((((Int.tdiv (((nl + 1) : Nat) : Int) 4) * 3)) : Int).toNat * 1) ≤ 1099511627776), ((decide ((0 : Int) ≤ ((Int.tdiv (((nl + 1) : Nat) : Int) 4) * 3)) && decide (((Int.tdiv (((nl + 1) : Nat) : Int) 4) * 3) ≤ ((Int.tdiv (((nl + 1) : Nat) : Int) 4) * 3))) && decide (((Int.tdiv (((nl + 1) : Nat) : Int) 4) * 3) ≤ 1099511627776)), decide (((-9223372036854775808) ≤ ((Int.tdiv (((nl + 1) : Nat) : Int) 4) * 3) ∧ ((Int.tdiv (((nl + 1) : Nat) : Int) 4) * 3) ≤ 9223372036854775807)), decide (((0 : Int) ≤ (((nl + 1) : Nat) : Int) ∧ ((0 : Int) < 4 ∧ (((nl + 1) : Nat) : Int) ≤ 9223372036854775807))), decide (True), (decide ((1 : Int) < (4 - (Int.tmod ((nl : Nat) : Int) 4))) == false), (true && (nl == nl)), decide (((nl + 1) * 1) ≤ 1099511627776), (decide ((0 : Int) < (4 - (Int.tmod ((nl : Nat) : Int) 4))) == true), decide (((-9223372036854775808) ≤ (4 - (Int.tmod ((nl : Nat) : Int) 4)) ∧ (4 - (Int.tmod ((nl : Nat) : Int) 4)) ≤ 9223372036854775807)), decide ((4 : Int) ≠ 0), decide ((nl * 1) ≤ 1099511627776), decide ((ol + nl) ≤ l.n)]) := by kernel_rfl
set_option maxRecDepth 100000 in
theorem c8_2_read (a : List AV) (K : List Blk) (d : c8_2D) (h : c8_2.read a K = some d) : a = c8_2.args d ∧ K = c8_2.heap d := by
  replace h : c8_2_rd a K = some d := h
  unfold c8_2_rd at h
  split at h
  case h_2 => cases h
  split at h
  case h_2 => cases h
  injection h with h; subst h
  exact ⟨rfl, rfl⟩
theorem c8_2_ok : SpecOk Try.prog noGlob 8 c8_2.spec := by
  refine c8_2.ok (goB_ok spQ2_ok (no_loops _)) c8_2_read ?_
  rintro ⟨l, ol, nl⟩ hg
  have hg : ol + nl ≤ l.n ∧ nl % 4 = 3 ∧ nl ≤ 100000 ∧ ∀ k, k < nl → (dx encV l (ol + k)).toNat < 64 := of_decide_eq_true hg
  have eo : c8_2.out ⟨l, ol, nl⟩ = [⟨(.b8 l), .ro⟩, ⟨(.b8 (dec2T l ol nl (((Int.tdiv ((nl + 1) : Nat) 4 * 3) : Int)).toNat)), .own⟩] := by
    rw [show ((Int.tdiv ((nl + 1) : Nat) 4 * 3) : Int).toNat = (nl + 1) / 4 * 3 by rw [Int.tdiv_eq_ediv_of_nonneg (by omega)]; omega]
    rfl
  have ev : c8_2.val ⟨l, ol, nl⟩ = (.obj .tup [(.ref (.sl 1 (.s 0) (.s (((((3 * ((nl + 1) / 4 - 1) : Nat) : Int) + 2)).toNat - (((0 : Nat) : Int)).toNat)) (some (.s ((((Int.tdiv ((nl + 1) : Nat) 4 * 3) : Int)).toNat - (((0 : Nat) : Int)).toNat))))), (.atom (.bool (.c true)))]) := by
    have ht : Int.tdiv ((nl + 1) : Nat) 4 = ((((nl + 1) / 4 : Nat)) : Int) := by rw [Int.tdiv_eq_ediv_of_nonneg (by omega)]; omega
    rw [show (((3 * ((nl + 1) / 4 - 1) : Nat) : Int) + 2).toNat - ((0 : Nat) : Int).toNat = 3 * ((nl + 1) / 4 - 1) + 2 by omega, show ((Int.tdiv ((nl + 1) : Nat) 4 * 3) : Int).toNat - ((0 : Nat) : Int).toNat = (nl + 1) / 4 * 3 by rw [ht]; omega]
    rfl
  rw [eo, ev]
  refine ⟨[true, false], (some [0, 5]), _, c8_2_run l ol nl, ?_⟩
  obtain ⟨g1, g2, g3, g4⟩ := hg
  have ht : Int.tdiv ((nl + 1) : Nat) 4 = ((((nl + 1) / 4 : Nat)) : Int) := by rw [Int.tdiv_eq_ediv_of_nonneg (by omega)]; omega
  have hm : Int.tmod (nl : Int) 4 = 3 := by rw [Int.tmod_eq_emod_of_nonneg (by omega)]; omega
  have hn : (pad1 l ol nl).n = (nl + 1) := rfl
  have hlo : ∀ k, k < nl → (dx (cp encV) (pad1 l ol nl) (0 + k)).toNat < 64 := fun k hk => by rw [dx_cp, dx_at encV (pad1 l ol nl) l (0 + k) (ol + k) (by rw [Nat.zero_add]; exact pad1_lo l ol nl k g1 hk)]; exact g4 k hk
  have y1 : c17_2.good ⟨cp encV, Vec.zero 8 ((Int.tdiv ((nl + 1) : Nat) 4 * 3) : Int).toNat, (pad1 l ol nl), 0, ((Int.tdiv ((nl + 1) : Nat) 4 * 3) : Int).toNat, 0, (nl + 1)⟩ = true := decide_eq_true ⟨by rw [hn]; omega, by show 0 + ((Int.tdiv ((nl + 1) : Nat) 4 * 3) : Int).toNat ≤ ((Int.tdiv ((nl + 1) : Nat) 4 * 3) : Int).toNat; omega, by omega, by rw [ht]; omega, by omega, by omega, fun k hk => hlo k (by omega), dx61 _ _ (by rw [show 0 + (nl + 1 - 1) = nl by omega]; exact pad1_hi l ol nl), by rw [show 0 + (nl + 1 - 1) = nl by omega]; exact pad1_hi l ol nl, trivial⟩
  repeat' (refine all_true_cons ?_ ?_)
  all_goals first | exact all_true_nil | (simp only [ht, hm, Bool.and_eq_true, decide_eq_true_eq, beq_iff_eq, beq_true, beq_false, Bool.not_eq_true', decide_eq_false_iff_not, beq_eq_false_iff_ne, ne_eq, Bool.not_eq_false', bne_iff_ne, true_and, and_true] <;> omega) | (simp only [ht, hm, Bool.and_eq_true, decide_eq_true_eq, beq_iff_eq, beq_true, beq_false, true_and, and_true]; done) | exact y1
end Go.Proofs.Ytlelgligkkegnaa

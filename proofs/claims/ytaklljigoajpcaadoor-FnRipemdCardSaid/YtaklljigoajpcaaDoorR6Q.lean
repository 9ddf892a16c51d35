/- RIPEMD-160: the package's digest and the reference's, in plain words. -/
import Derived.Test.YtaklljigoajpcaaDoorR6R
import Derived.Test.YtaklljigoajpcaaDoorR3D
namespace Go.Proofs.YtaklljigoajpcaaDoor.D
open Go.Eng
open B (zapp padV padN padM lenB appL padV_n)
set_option linter.unusedSectionVars false
set_option linter.unusedSimpArgs false
set_option linter.unusedVariables false
variable [RowAddr]
theorem zapp_l (u : Vec 8) : ∀ m : Nat, (zapp u m).l = u.l ++ List.replicate m 0#8
  | 0 => by show u.l = _; simp
  | m + 1 => by
    show (zapp u m).l ++ [0#8] = _
    rw [zapp_l u m, List.append_assoc, ← List.replicate_succ']
def tail8 (n : Int) : List (BitVec 8) := [lenB n 0, lenB n 1, lenB n 2, lenB n 3, lenB n 4, lenB n 5, lenB n 6, lenB n 7]
theorem pad_l (l : Vec 8) : (padV l 0 l.n).l = l.l ++ ([128#8] ++ (List.replicate (padM l.n) 0#8 ++ tail8 l.n)) := by
  have hl := l.h
  have e : (l.sub 0 l.n).l = l.l := by
    rw [Vec.sub_l (by omega), List.drop_zero, List.take_of_length_le (by omega)]
  show ((((((((zapp ((l.sub 0 l.n).app (Vec.of [128#8])) (padM l.n)).l ++ [_]) ++ [_]) ++ [_]) ++ [_]) ++ [_]) ++ [_]) ++ [_]) ++ [_] = _
  rw [zapp_l]
  show ((((((((((l.sub 0 l.n).l ++ [128#8]) ++ List.replicate (padM l.n) 0#8) ++ [_]) ++ [_]) ++ [_]) ++ [_]) ++ [_]) ++ [_]) ++ [_]) ++ [_] = _
  rw [e]
  simp only [List.append_assoc]
  rfl
theorem pad_low (l : Vec 8) (i : Nat) (hi : i < l.n) : (padV l 0 l.n).l.getD i 0#8 = l.l.getD i 0#8 := by
  have hl := l.h
  rw [pad_l, List.getD_eq_getElem?_getD, List.getElem?_append_left (by omega), List.getD_eq_getElem?_getD]
theorem pad_mid (l : Vec 8) (i : Nat) (hi : i < 1 + padM l.n) : (padV l 0 l.n).l.getD (l.n + i) 0#8 = if i = 0 then 0x80#8 else 0#8 := by
  have hl := l.h
  rw [pad_l, List.getD_eq_getElem?_getD, List.getElem?_append_right (by omega), hl, Nat.add_sub_cancel_left]
  cases i with
  | zero => rfl
  | succ i =>
    rw [if_neg (by omega), List.getElem?_append_right (by simp), List.getElem?_append_left (by simp; omega)]
    simp [List.getElem?_replicate, show i < padM l.n by omega]
theorem pad_high (l : Vec 8) (i : Nat) (hi : i < 8) : (padV l 0 l.n).l.getD (l.n + (1 + padM l.n) + i) 0#8 = lenB l.n i := by
  have hl := l.h
  rw [pad_l, List.getD_eq_getElem?_getD, List.getElem?_append_right (by omega), hl, show l.n + (1 + padM l.n) + i - l.n = 1 + (padM l.n + i) by omega, List.getElem?_append_right (by simp), List.getElem?_append_right (by simp)]
  have e : 1 + (padM l.n + i) - ([128#8] : List (BitVec 8)).length - (List.replicate (padM l.n) 0#8).length = i := by simp
  rw [e]
  have h : ∀ i : Fin 8, ∀ n : Int, ((tail8 n)[i.1]?).getD 0#8 = lenB n i.1 := by
    intro i n
    match i with
    | 0 => rfl
    | 1 => rfl
    | 2 => rfl
    | 3 => rfl
    | 4 => rfl
    | 5 => rfl
    | 6 => rfl
    | 7 => rfl
  exact h ⟨i, hi⟩ l.n
theorem len_byte (n i : Nat) (hn : n ≤ 1099511627776) : (((0#64 + BitVec.ofInt 64 ((n : Nat) : Int)) <<< 3) >>> (8 * i)).setWidth 8 = lenB n i := by
  refine BitVec.eq_of_toNat_eq ?_
  have e1 : (0#64 + BitVec.ofInt 64 ((n : Nat) : Int)).toNat = n := tc_eq n hn
  have e2 : lenB n i = BitVec.ofNat 8 (n * 8 / 2 ^ (8 * i)) := by
    unfold lenB
    have : ((n : Int) * 2 ^ 3 / 2 ^ (8 * i)) = ((n * 8 / 2 ^ (8 * i) : Nat) : Int) := by
      rw [Int.natCast_ediv, Int.natCast_mul, Int.natCast_pow]; rfl
    rw [this, BitVec.ofInt_natCast]
  rw [e2, BitVec.toNat_setWidth, BitVec.toNat_ushiftRight, BitVec.toNat_shiftLeft, e1, BitVec.toNat_ofNat, Nat.shiftLeft_eq, Nat.shiftRight_eq_div_pow, Nat.mod_eq_of_lt (show n * 2 ^ 3 < 2 ^ 64 by omega)]
theorem padM_eq (n : Nat) : 1 + padM n = if n % 64 < 56 then 56 - n % 64 else 120 - n % 64 := by
  unfold padM
  split <;> omega
theorem T2R (n i : Nat) (hn : n ≤ 1099511627776) (hi : i < 8) : (T2 (0#64 + BitVec.ofInt 64 ((n : Nat) : Int))).l.getD i 0#8 = lenB n i := by
  rw [← len_byte n i hn]
  generalize 0#64 + BitVec.ofInt 64 ((n : Nat) : Int) = tc
  have h : ∀ i : Fin 8, (T2 tc).l.getD i.1 0#8 = ((tc <<< 3) >>> (8 * i.1)).setWidth 8 := by
    intro i
    match i with
    | 0 => rfl
    | 1 => rfl
    | 2 => rfl
    | 3 => rfl
    | 4 => rfl
    | 5 => rfl
    | 6 => rfl
    | 7 => rfl
  exact h ⟨i, hi⟩
theorem digR (l : Vec 8) (hn : l.n ≤ 1099511627776) : digH l 0 l.n = ripAll H0 (padV l 0 l.n) 0 (padN l.n / 64) := by
  rw [show padN l.n = l.n + (1 + padM l.n) + 8 by unfold padN; omega]
  refine dig_eq l (padV l 0 l.n) l.n (1 + padM l.n) (by omega) hn (padM_eq l.n) (fun i hi => ?_) (fun i hi => ?_) (fun i hi => ?_)
  · rw [Nat.zero_add, pad_low l i hi]
  · rw [Nat.zero_add, pad_mid l i hi, T1_get i (by have := Nat.mod_lt (120 - (l.n + 1) % 64) (show 0 < 64 by omega); unfold padM at hi; omega)]
  · rw [Nat.zero_add, pad_high l i hi, T2R l.n i hn hi]
theorem bit_byte (n i : Nat) (hn : n ≤ 1099511627776) : fB (bits n) i = lenB n i := by
  rw [← len_byte n i hn]
  refine BitVec.eq_of_toNat_eq ?_
  have e1 : (0#64 + BitVec.ofInt 64 ((n : Nat) : Int)).toNat = n := tc_eq n hn
  have e2 : (BitVec.ofInt 64 ((n : Nat) : Int)).toNat = n := by rw [BitVec.zero_add] at e1; exact e1
  unfold fB bits
  rw [BitVec.toNat_setWidth, BitVec.toNat_ushiftRight, BitVec.toNat_mul, e2, BitVec.toNat_setWidth, BitVec.toNat_ushiftRight, BitVec.toNat_shiftLeft, e1, Nat.shiftLeft_eq]
  rfl
theorem fill_pad (l : Vec 8) (hn : l.n ≤ 1099511627776) : fillV l 0 l.n = padV l 0 l.n := by
  unfold fillV padV app8 appL
  rw [bit_byte l.n 0 hn, bit_byte l.n 1 hn, bit_byte l.n 2 hn, bit_byte l.n 3 hn, bit_byte l.n 4 hn, bit_byte l.n 5 hn, bit_byte l.n 6 hn, bit_byte l.n 7 hn]
theorem allW_get (u : Vec 8) (o m j : Nat) (hj : j < 16) : ∀ K : Nat, m < K → (allW u o K).l.getD (16 * m + j) 0#32 = (wrd u (o + 64 * m)).l.getD j 0#32
  | 0, h => by omega
  | K + 1, h => by
    have hl : (allW u o K).l.length = 16 * K := (allW u o K).h.trans (allW_n u o K)
    have hw : (wrd u (o + 64 * K)).l.length = 16 := (wrd u (o + 64 * K)).h
    show ((allW u o K).l ++ (wrd u (o + 64 * K)).l).getD (16 * m + j) 0#32 = _
    by_cases e : m = K
    · subst e
      rw [List.getD_eq_getElem?_getD, List.getElem?_append_right (by omega), hl, Nat.add_sub_cancel_left, List.getD_eq_getElem?_getD]
    · rw [List.getD_eq_getElem?_getD, List.getElem?_append_left (by omega), ← List.getD_eq_getElem?_getD]
      exact allW_get u o m j hj K (by omega)
theorem row_wrd (u : Vec 8) (m K : Nat) (h : m < K) : rowW (allW u 0 K) (0 + 16 * m) = wrd u (0 + 64 * m) := by
  have hj : ∀ j, j < 16 → (allW u 0 K).l.getD (0 + 16 * m + j) 0#32 = (wrd u (0 + 64 * m)).l.getD j 0#32 := fun j hj => by
    rw [Nat.zero_add]; exact allW_get u 0 m j hj K h
  unfold rowW
  rw [hj 0 (by omega), hj 1 (by omega), hj 2 (by omega), hj 3 (by omega), hj 4 (by omega), hj 5 (by omega), hj 6 (by omega), hj 7 (by omega), hj 8 (by omega), hj 9 (by omega), hj 10 (by omega), hj 11 (by omega), hj 12 (by omega), hj 13 (by omega), hj 14 (by omega), hj 15 (by omega)]
  rfl
theorem row_all (h : W5) (u : Vec 8) (K : Nat) : ∀ m : Nat, m ≤ K → rowAll h (allW u 0 K) m = ripAllR h u 0 m
  | 0, _ => rfl
  | m + 1, hm => by
    show ripR (rowAll h (allW u 0 K) m) (rowW (allW u 0 K) (0 + 16 * m)) = ripR (ripAllR h u 0 m) (wrd u (0 + 64 * m))
    rw [row_all h u K m (by omega), row_wrd u m K (by omega)]
theorem dig_ref (l : Vec 8) (hn : l.n ≤ 1099511627776) : digH l 0 l.n = refH l 0 l.n := by
  rw [digR l hn]
  unfold refH words24
  rw [fill_pad l hn, row_all _ _ _ _ (Nat.le_refl _), ← all_same]
end Go.Proofs.YtaklljigoajpcaaDoor.D

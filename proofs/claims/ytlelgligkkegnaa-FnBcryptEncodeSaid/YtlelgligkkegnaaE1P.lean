/- bcrypt's letters: six bits each, and back (plain). -/
import Derived.Test.YtlelgligkkegnaaE1Q
namespace Go.Proofs.Ytlelgligkkegnaa
open Go.Eng
set_option linter.unusedVariables false
/-- Six bits of three bytes. -/
def six (t X Y Z : Nat) : Nat :=
  match t with
  | 0 => X / 4
  | 1 => X % 4 * 16 + Y / 16
  | 2 => Y % 16 * 4 + Z / 64
  | _ => Z % 64
theorem six_lt (t X Y Z : Nat) (hX : X < 256) (hY : Y < 256) (hZ : Z < 256) : six t X Y Z < 64 := by
  unfold six
  split <;> omega
/-- A byte of a slice, or zero behind it. -/
def byt (b : Vec 8) (ob nb i : Nat) : Nat := if i < nb then (b.l.getD (ob + i) 0#8).toNat else 0
theorem byt_lt (b : Vec 8) (ob nb i : Nat) : byt b ob nb i < 256 := by
  unfold byt
  split
  · exact (b.l.getD (ob + i) 0#8).isLt
  · omega
theorem bitAt_nat (b : Vec 8) (ob p : Nat) : bitAt b ob (p : Int) = (((b.l.getD (ob + p / 8) 0#8).toNat / 2 ^ (7 - p % 8) % 2 : Nat) : Int) := by
  unfold bitAt
  rw [Int.tdiv_eq_ediv_of_nonneg (by omega), Int.tmod_eq_emod_of_nonneg (by omega)]
  rw [show ob + ((p : Int) / 8).toNat * 1 = ob + p / 8 by omega, show (7 - (p : Int) % 8).toNat = 7 - p % 8 by omega]
  rw [BitVec.toNat_and, BitVec.toNat_ushiftRight, Nat.shiftRight_eq_div_pow]
  rw [show (1#8).toNat = 2 ^ 1 - 1 by rfl, Nat.and_two_pow_sub_one_eq_mod]
/-- A bit of six, over the bytes of its three. -/
theorem bit_c (b : Vec 8) (ob nb m s : Nat) : (if ((24 * m + s : Nat) : Int) < 8 * (nb : Int) then bitAt b ob ((24 * m + s : Nat) : Int) else 0) = ((byt b ob nb (3 * m + s / 8) / 2 ^ (7 - s % 8) % 2 : Nat) : Int) := by
  unfold byt
  by_cases h : ((24 * m + s : Nat) : Int) < 8 * (nb : Int)
  · rw [if_pos h, if_pos (by omega), bitAt_nat, show (24 * m + s) / 8 = 3 * m + s / 8 by omega, show (24 * m + s) % 8 = s % 8 by omega]
  · rw [if_neg h, if_neg (by omega), Nat.zero_div, Nat.zero_mod]
    rfl
theorem vv_bits (b : Vec 8) (ob nb m t : Nat) : vv b ob nb ((4 * m + t : Nat) : Int) 6 =
    (((((((byt b ob nb (3 * m + (6 * t + 0) / 8) / 2 ^ (7 - (6 * t + 0) % 8) % 2) * 2 + (byt b ob nb (3 * m + (6 * t + 1) / 8) / 2 ^ (7 - (6 * t + 1) % 8) % 2)) * 2 + (byt b ob nb (3 * m + (6 * t + 2) / 8) / 2 ^ (7 - (6 * t + 2) % 8) % 2)) * 2 + (byt b ob nb (3 * m + (6 * t + 3) / 8) / 2 ^ (7 - (6 * t + 3) % 8) % 2)) * 2 + (byt b ob nb (3 * m + (6 * t + 4) / 8) / 2 ^ (7 - (6 * t + 4) % 8) % 2)) * 2 + (byt b ob nb (3 * m + (6 * t + 5) / 8) / 2 ^ (7 - (6 * t + 5) % 8) % 2) : Nat) : Int) := by
  have e : ∀ k : Nat, (if 6 * ((4 * m + t : Nat) : Int) + (k : Int) < 8 * (nb : Int) then bitAt b ob (6 * ((4 * m + t : Nat) : Int) + (k : Int)) else 0) = ((byt b ob nb (3 * m + (6 * t + k) / 8) / 2 ^ (7 - (6 * t + k) % 8) % 2 : Nat) : Int) := by
    intro k
    rw [show 6 * ((4 * m + t : Nat) : Int) + (k : Int) = ((24 * m + (6 * t + k) : Nat) : Int) by omega]
    exact bit_c b ob nb m (6 * t + k)
  rw [vv, vv, vv, vv, vv, vv, vv, e 0, e 1, e 2, e 3, e 4, e 5]
  push_cast
  omega
theorem vv_six (b : Vec 8) (ob nb m t : Nat) (ht : t < 4) : vv b ob nb ((4 * m + t : Nat) : Int) 6 = ((six t (byt b ob nb (3 * m)) (byt b ob nb (3 * m + 1)) (byt b ob nb (3 * m + 2)) : Nat) : Int) := by
  rw [vv_bits]
  have hX := byt_lt b ob nb (3 * m)
  have hY := byt_lt b ob nb (3 * m + 1)
  have hZ := byt_lt b ob nb (3 * m + 2)
  refine congrArg _ ?_
  match t, ht with
  | 0, _ =>
    show (((((byt b ob nb (3 * m) / 128 % 2) * 2 + byt b ob nb (3 * m) / 64 % 2) * 2 + byt b ob nb (3 * m) / 32 % 2) * 2 + byt b ob nb (3 * m) / 16 % 2) * 2 + byt b ob nb (3 * m) / 8 % 2) * 2 + byt b ob nb (3 * m) / 4 % 2 = byt b ob nb (3 * m) / 4
    omega
  | 1, _ =>
    show (((((byt b ob nb (3 * m) / 2 % 2) * 2 + byt b ob nb (3 * m) / 1 % 2) * 2 + byt b ob nb (3 * m + 1) / 128 % 2) * 2 + byt b ob nb (3 * m + 1) / 64 % 2) * 2 + byt b ob nb (3 * m + 1) / 32 % 2) * 2 + byt b ob nb (3 * m + 1) / 16 % 2 = byt b ob nb (3 * m) % 4 * 16 + byt b ob nb (3 * m + 1) / 16
    omega
  | 2, _ =>
    show (((((byt b ob nb (3 * m + 1) / 8 % 2) * 2 + byt b ob nb (3 * m + 1) / 4 % 2) * 2 + byt b ob nb (3 * m + 1) / 2 % 2) * 2 + byt b ob nb (3 * m + 1) / 1 % 2) * 2 + byt b ob nb (3 * m + 2) / 128 % 2) * 2 + byt b ob nb (3 * m + 2) / 64 % 2 = byt b ob nb (3 * m + 1) % 16 * 4 + byt b ob nb (3 * m + 2) / 64
    omega
  | 3, _ =>
    show (((((byt b ob nb (3 * m + 2) / 32 % 2) * 2 + byt b ob nb (3 * m + 2) / 16 % 2) * 2 + byt b ob nb (3 * m + 2) / 8 % 2) * 2 + byt b ob nb (3 * m + 2) / 4 % 2) * 2 + byt b ob nb (3 * m + 2) / 2 % 2) * 2 + byt b ob nb (3 * m + 2) / 1 % 2 = byt b ob nb (3 * m + 2) % 64
    omega
/-- The letter of a number, as the reference has it. -/
theorem lett_all : ∀ k : Fin 64, strAt lett ((k.val : Nat) : Int) = ltr k.val := by decide
theorem lett_ltr (k : Nat) (h : k < 64) : strAt lett (k : Int) = ltr k := lett_all ⟨k, h⟩
theorem spW_at (b : Vec 8) (ob nb : Nat) : ∀ M j : Nat, j < M → (spW b ob nb M).l.getD j 0#8 = strAt lett (vv b ob nb (j : Int) 6)
  | 0, _, h => absurd h (Nat.not_lt_zero _)
  | M + 1, j, h => by
    show ((spW b ob nb M).app (Vec.of [strAt lett (vv b ob nb (M : Int) 6)])).l.getD j 0#8 = _
    rw [app_getD, spW_n]
    by_cases e : j < M
    · rw [if_pos e]
      exact spW_at b ob nb M j e
    · rw [if_neg e]
      have : j = M := by omega
      subst this
      rw [Nat.sub_self]
      rfl
theorem spW_six (b : Vec 8) (ob nb M m t : Nat) (ht : t < 4) (h : 4 * m + t < M) : (spW b ob nb M).l.getD (4 * m + t) 0#8 = ltr (six t (byt b ob nb (3 * m)) (byt b ob nb (3 * m + 1)) (byt b ob nb (3 * m + 2))) := by
  rw [spW_at _ _ _ _ _ h, vv_six _ _ _ _ _ ht]
  exact lett_ltr _ (six_lt _ _ _ _ (byt_lt ..) (byt_lt ..) (byt_lt ..))
/-! The encoder's words. -/
theorem or_add (a b n : Nat) (h : b < 2 ^ n) : a * 2 ^ n ||| b = a * 2 ^ n + b := by
  rw [Nat.mul_comm, Nat.two_pow_add_eq_or_of_lt h]
theorem shl_nat (x : BitVec 8) (k : Nat) (h : k ≤ 56) : ((x.setWidth 64) <<< k).toNat = x.toNat * 2 ^ k := by
  have := x.isLt
  rw [BitVec.toNat_shiftLeft, BitVec.toNat_setWidth, Nat.shiftLeft_eq, Nat.mod_eq_of_lt (by omega : x.toNat < 2 ^ 64)]
  refine Nat.mod_eq_of_lt ?_
  calc x.toNat * 2 ^ k < 2 ^ 8 * 2 ^ k := Nat.mul_lt_mul_of_pos_right this (Nat.two_pow_pos k)
    _ = 2 ^ (8 + k) := (Nat.pow_add 2 8 k).symm
    _ ≤ 2 ^ 64 := Nat.pow_le_pow_right (by omega) (by omega)
theorem sw_nat (x : BitVec 8) : (x.setWidth 64).toNat = x.toNat := by
  have := x.isLt
  rw [BitVec.toNat_setWidth, Nat.mod_eq_of_lt (by omega)]
theorem v24_nat (s : Vec 8) (o : Nat) : (v24 s o).toNat = (s.l.getD (o + 0) 0#8).toNat * 65536 + (s.l.getD (o + 1) 0#8).toNat * 256 + (s.l.getD (o + 2) 0#8).toNat := by
  have h1 := (s.l.getD (o + 1) 0#8).isLt
  have h2 := (s.l.getD (o + 2) 0#8).isLt
  unfold v24
  rw [BitVec.toNat_or, BitVec.toNat_or, shl_nat _ _ (by omega), shl_nat _ _ (by omega), sw_nat]
  rw [or_add _ _ 16 (by omega)]
  rw [show (s.l.getD (o + 0) 0#8).toNat * 2 ^ 16 + (s.l.getD (o + 1) 0#8).toNat * 2 ^ 8 = ((s.l.getD (o + 0) 0#8).toNat * 256 + (s.l.getD (o + 1) 0#8).toNat) * 2 ^ 8 by omega, or_add _ _ 8 (by omega)]
theorem v16_nat (s : Vec 8) (o : Nat) : (v16 s o).toNat = (s.l.getD (o + 0) 0#8).toNat * 65536 + (s.l.getD (o + 1) 0#8).toNat * 256 := by
  have h1 := (s.l.getD (o + 1) 0#8).isLt
  unfold v16
  rw [BitVec.toNat_or, shl_nat _ _ (by omega), shl_nat _ _ (by omega), or_add _ _ 16 (by omega)]
theorem v8_nat (s : Vec 8) (o : Nat) : (v8 s o).toNat = (s.l.getD (o + 0) 0#8).toNat * 65536 := by
  unfold v8
  rw [shl_nat _ _ (by omega)]
theorem sh63 (w : BitVec 64) (k : Nat) : ((w >>> k) &&& 63#64).toNat = w.toNat / 2 ^ k % 64 := by
  rw [BitVec.toNat_and, BitVec.toNat_ushiftRight, Nat.shiftRight_eq_div_pow, show (63#64).toNat = 2 ^ 6 - 1 by rfl, Nat.and_two_pow_sub_one_eq_mod]
theorem sh63' (w : BitVec 64) : (w &&& 63#64).toNat = w.toNat % 64 := by
  rw [BitVec.toNat_and, show (63#64).toNat = 2 ^ 6 - 1 by rfl, Nat.and_two_pow_sub_one_eq_mod]
/-- The letters that a word of three bytes gives. -/
theorem ex_six (w : BitVec 64) (X Y Z : Nat) (hX : X < 256) (hY : Y < 256) (hZ : Z < 256) (h : w.toNat = X * 65536 + Y * 256 + Z) :
    ex (cp (cp encV)) ((w >>> 18) &&& 63#64) = ltr (six 0 X Y Z) ∧ ex (cp (cp encV)) ((w >>> 12) &&& 63#64) = ltr (six 1 X Y Z) ∧
    ex (cp (cp encV)) ((w >>> 6) &&& 63#64) = ltr (six 2 X Y Z) ∧ ex (cp (cp encV)) (w &&& 63#64) = ltr (six 3 X Y Z) := by
  refine ⟨?_, ?_, ?_, ?_⟩
  · rw [ex_ltr _ (b63 _), sh63, h]
    exact congrArg ltr (show (X * 65536 + Y * 256 + Z) / 262144 % 64 = X / 4 by omega)
  · rw [ex_ltr _ (b63 _), sh63, h]
    exact congrArg ltr (show (X * 65536 + Y * 256 + Z) / 4096 % 64 = X % 4 * 16 + Y / 16 by omega)
  · rw [ex_ltr _ (b63 _), sh63, h]
    exact congrArg ltr (show (X * 65536 + Y * 256 + Z) / 64 % 64 = Y % 16 * 4 + Z / 64 by omega)
  · rw [ex_ltr _ (b63 _), sh63', h]
    exact congrArg ltr (show (X * 65536 + Y * 256 + Z) % 64 = Z % 64 by omega)
end Go.Proofs.Ytlelgligkkegnaa

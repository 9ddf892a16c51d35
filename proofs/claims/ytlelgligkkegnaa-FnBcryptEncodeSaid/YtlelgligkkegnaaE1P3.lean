/- bcrypt's letters read again are the bytes (plain). -/
import Derived.Test.YtlelgligkkegnaaE1P2
namespace Go.Proofs.Ytlelgligkkegnaa
open Go.Eng
set_option linter.unusedVariables false
theorem shl6 (x : BitVec 8) (k : Nat) (hx : x.toNat < 64) (h : k ≤ 58) : ((x.setWidth 64) <<< k).toNat = x.toNat * 2 ^ k := by
  rw [BitVec.toNat_shiftLeft, BitVec.toNat_setWidth, Nat.shiftLeft_eq, Nat.mod_eq_of_lt (by omega : x.toNat < 2 ^ 64)]
  refine Nat.mod_eq_of_lt ?_
  calc x.toNat * 2 ^ k < 2 ^ 6 * 2 ^ k := Nat.mul_lt_mul_of_pos_right hx (Nat.two_pow_pos k)
    _ = 2 ^ (6 + k) := (Nat.pow_add 2 6 k).symm
    _ ≤ 2 ^ 64 := Nat.pow_le_pow_right (by omega) (by omega)
theorem shl6' (x : BitVec 8) (k : Nat) (hx : x.toNat < 64) (h : k ≤ 26) : ((x.setWidth 32) <<< k).toNat = x.toNat * 2 ^ k := by
  rw [BitVec.toNat_shiftLeft, BitVec.toNat_setWidth, Nat.shiftLeft_eq, Nat.mod_eq_of_lt (by omega : x.toNat < 2 ^ 32)]
  refine Nat.mod_eq_of_lt ?_
  calc x.toNat * 2 ^ k < 2 ^ 6 * 2 ^ k := Nat.mul_lt_mul_of_pos_right hx (Nat.two_pow_pos k)
    _ = 2 ^ (6 + k) := (Nat.pow_add 2 6 k).symm
    _ ≤ 2 ^ 32 := Nat.pow_le_pow_right (by omega) (by omega)
theorem or_add' (a b n : Nat) (c : Nat) (hc : c = a * 2 ^ n) (h : b < 2 ^ n) : c ||| b = c + b := by
  rw [hc]; exact or_add a b n h
theorem byteOf {w : Nat} (x : BitVec w) (k : Nat) : ((x >>> k).setWidth 8).toNat = x.toNat / 2 ^ k % 256 := by
  rw [BitVec.toNat_setWidth, BitVec.toNat_ushiftRight, Nat.shiftRight_eq_div_pow]
theorem toEq (x : BitVec 8) (v : Nat) (h : x.toNat = v) (y : BitVec 8) (hy : y.toNat = v) : x = y := BitVec.eq_of_toNat_eq (h.trans hy.symm)
theorem d64_nat (e src : Vec 8) (o : Nat) (h0 : (dx e src (o + 0)).toNat < 64) (h1 : (dx e src (o + 1)).toNat < 64) (h2 : (dx e src (o + 2)).toNat < 64) (h3 : (dx e src (o + 3)).toNat < 64) (h4 : (dx e src (o + 4)).toNat < 64) (h5 : (dx e src (o + 5)).toNat < 64) (h6 : (dx e src (o + 6)).toNat < 64) (h7 : (dx e src (o + 7)).toNat < 64) : (d64 e src o).toNat = (dx e src (o + 0)).toNat * 2 ^ 58 + (dx e src (o + 1)).toNat * 2 ^ 52 + (dx e src (o + 2)).toNat * 2 ^ 46 + (dx e src (o + 3)).toNat * 2 ^ 40 + (dx e src (o + 4)).toNat * 2 ^ 34 + (dx e src (o + 5)).toNat * 2 ^ 28 + (dx e src (o + 6)).toNat * 2 ^ 22 + (dx e src (o + 7)).toNat * 2 ^ 16 := by
  unfold d64
  rw [BitVec.toNat_or, BitVec.toNat_or, BitVec.toNat_or, BitVec.toNat_or, BitVec.toNat_or, BitVec.toNat_or, BitVec.toNat_or, shl6 _ _ h0 (by omega), shl6 _ _ h1 (by omega), shl6 _ _ h2 (by omega), shl6 _ _ h3 (by omega), shl6 _ _ h4 (by omega), shl6 _ _ h5 (by omega), shl6 _ _ h6 (by omega), shl6 _ _ h7 (by omega)]
  rw [or_add' ((dx e src (o + 0)).toNat * 2 ^ 0) ((dx e src (o + 1)).toNat * 2 ^ 52) 58 ((dx e src (o + 0)).toNat * 2 ^ 58) (by omega) (by omega)]
  rw [or_add' ((dx e src (o + 0)).toNat * 2 ^ 6 + (dx e src (o + 1)).toNat * 2 ^ 0) ((dx e src (o + 2)).toNat * 2 ^ 46) 52 ((dx e src (o + 0)).toNat * 2 ^ 58 + (dx e src (o + 1)).toNat * 2 ^ 52) (by omega) (by omega)]
  rw [or_add' ((dx e src (o + 0)).toNat * 2 ^ 12 + (dx e src (o + 1)).toNat * 2 ^ 6 + (dx e src (o + 2)).toNat * 2 ^ 0) ((dx e src (o + 3)).toNat * 2 ^ 40) 46 ((dx e src (o + 0)).toNat * 2 ^ 58 + (dx e src (o + 1)).toNat * 2 ^ 52 + (dx e src (o + 2)).toNat * 2 ^ 46) (by omega) (by omega)]
  rw [or_add' ((dx e src (o + 0)).toNat * 2 ^ 18 + (dx e src (o + 1)).toNat * 2 ^ 12 + (dx e src (o + 2)).toNat * 2 ^ 6 + (dx e src (o + 3)).toNat * 2 ^ 0) ((dx e src (o + 4)).toNat * 2 ^ 34) 40 ((dx e src (o + 0)).toNat * 2 ^ 58 + (dx e src (o + 1)).toNat * 2 ^ 52 + (dx e src (o + 2)).toNat * 2 ^ 46 + (dx e src (o + 3)).toNat * 2 ^ 40) (by omega) (by omega)]
  rw [or_add' ((dx e src (o + 0)).toNat * 2 ^ 24 + (dx e src (o + 1)).toNat * 2 ^ 18 + (dx e src (o + 2)).toNat * 2 ^ 12 + (dx e src (o + 3)).toNat * 2 ^ 6 + (dx e src (o + 4)).toNat * 2 ^ 0) ((dx e src (o + 5)).toNat * 2 ^ 28) 34 ((dx e src (o + 0)).toNat * 2 ^ 58 + (dx e src (o + 1)).toNat * 2 ^ 52 + (dx e src (o + 2)).toNat * 2 ^ 46 + (dx e src (o + 3)).toNat * 2 ^ 40 + (dx e src (o + 4)).toNat * 2 ^ 34) (by omega) (by omega)]
  rw [or_add' ((dx e src (o + 0)).toNat * 2 ^ 30 + (dx e src (o + 1)).toNat * 2 ^ 24 + (dx e src (o + 2)).toNat * 2 ^ 18 + (dx e src (o + 3)).toNat * 2 ^ 12 + (dx e src (o + 4)).toNat * 2 ^ 6 + (dx e src (o + 5)).toNat * 2 ^ 0) ((dx e src (o + 6)).toNat * 2 ^ 22) 28 ((dx e src (o + 0)).toNat * 2 ^ 58 + (dx e src (o + 1)).toNat * 2 ^ 52 + (dx e src (o + 2)).toNat * 2 ^ 46 + (dx e src (o + 3)).toNat * 2 ^ 40 + (dx e src (o + 4)).toNat * 2 ^ 34 + (dx e src (o + 5)).toNat * 2 ^ 28) (by omega) (by omega)]
  rw [or_add' ((dx e src (o + 0)).toNat * 2 ^ 36 + (dx e src (o + 1)).toNat * 2 ^ 30 + (dx e src (o + 2)).toNat * 2 ^ 24 + (dx e src (o + 3)).toNat * 2 ^ 18 + (dx e src (o + 4)).toNat * 2 ^ 12 + (dx e src (o + 5)).toNat * 2 ^ 6 + (dx e src (o + 6)).toNat * 2 ^ 0) ((dx e src (o + 7)).toNat * 2 ^ 16) 22 ((dx e src (o + 0)).toNat * 2 ^ 58 + (dx e src (o + 1)).toNat * 2 ^ 52 + (dx e src (o + 2)).toNat * 2 ^ 46 + (dx e src (o + 3)).toNat * 2 ^ 40 + (dx e src (o + 4)).toNat * 2 ^ 34 + (dx e src (o + 5)).toNat * 2 ^ 28 + (dx e src (o + 6)).toNat * 2 ^ 22) (by omega) (by omega)]
theorem d32_nat (e src : Vec 8) (o : Nat) (h0 : (dx e src (o + 0)).toNat < 64) (h1 : (dx e src (o + 1)).toNat < 64) (h2 : (dx e src (o + 2)).toNat < 64) (h3 : (dx e src (o + 3)).toNat < 64) : (d32 e src o).toNat = (dx e src (o + 0)).toNat * 2 ^ 26 + (dx e src (o + 1)).toNat * 2 ^ 20 + (dx e src (o + 2)).toNat * 2 ^ 14 + (dx e src (o + 3)).toNat * 2 ^ 8 := by
  unfold d32
  rw [BitVec.toNat_or, BitVec.toNat_or, BitVec.toNat_or, shl6' _ _ h0 (by omega), shl6' _ _ h1 (by omega), shl6' _ _ h2 (by omega), shl6' _ _ h3 (by omega)]
  rw [or_add' ((dx e src (o + 0)).toNat * 2 ^ 0) ((dx e src (o + 1)).toNat * 2 ^ 20) 26 ((dx e src (o + 0)).toNat * 2 ^ 26) (by omega) (by omega)]
  rw [or_add' ((dx e src (o + 0)).toNat * 2 ^ 6 + (dx e src (o + 1)).toNat * 2 ^ 0) ((dx e src (o + 2)).toNat * 2 ^ 14) 20 ((dx e src (o + 0)).toNat * 2 ^ 26 + (dx e src (o + 1)).toNat * 2 ^ 20) (by omega) (by omega)]
  rw [or_add' ((dx e src (o + 0)).toNat * 2 ^ 12 + (dx e src (o + 1)).toNat * 2 ^ 6 + (dx e src (o + 2)).toNat * 2 ^ 0) ((dx e src (o + 3)).toNat * 2 ^ 8) 14 ((dx e src (o + 0)).toNat * 2 ^ 26 + (dx e src (o + 1)).toNat * 2 ^ 20 + (dx e src (o + 2)).toNat * 2 ^ 14) (by omega) (by omega)]
/-- The letters of a text, of which each four stand for three bytes. -/
def Letters (e src : Vec 8) (os L : Nat) (B : Nat → Nat) : Prop :=
  ∀ q t, t < 4 → 4 * q + t < L → (dx e src (os + (4 * q + t))).toNat = six t (B (3 * q)) (B (3 * q + 1)) (B (3 * q + 2))
theorem decA_at (e src : Vec 8) (od os L : Nat) (B : Nat → Nat) (hB : ∀ i, B i < 256) (H : Letters e src os L B) (d : Vec 8) :
    ∀ M : Nat, 8 * M ≤ L → od + 6 * M + 2 ≤ d.n → ∀ i, i < 6 * M → ((decA e src od os M d).l.getD (od + i) 0#8).toNat = B i
  | 0, _, _, i, hi => absurd hi (by omega)
  | M + 1, hL, hn, i, hi => by
    show ((put64 (decA e src od os M d) (od + 6 * M) (d64 e src (os + 8 * M))).l.getD (od + i) 0#8).toNat = _
    by_cases c : i < 6 * M
    · rw [put64_lo _ _ _ _ (by omega)]
      exact decA_at e src od os L B hB H d M (by omega) (by omega) i c
    have x0 : (dx e src (os + 8 * M + 0)).toNat = six 0 (B (6 * M)) (B (6 * M + 1)) (B (6 * M + 2)) := by
      have := H (2 * M) 0 (by omega) (by omega)
      rw [show os + (4 * (2 * M) + 0) = os + 8 * M + 0 by omega, show 3 * (2 * M) = 6 * M by omega] at this
      exact this
    have x1 : (dx e src (os + 8 * M + 1)).toNat = six 1 (B (6 * M)) (B (6 * M + 1)) (B (6 * M + 2)) := by
      have := H (2 * M) 1 (by omega) (by omega)
      rw [show os + (4 * (2 * M) + 1) = os + 8 * M + 1 by omega, show 3 * (2 * M) = 6 * M by omega] at this
      exact this
    have x2 : (dx e src (os + 8 * M + 2)).toNat = six 2 (B (6 * M)) (B (6 * M + 1)) (B (6 * M + 2)) := by
      have := H (2 * M) 2 (by omega) (by omega)
      rw [show os + (4 * (2 * M) + 2) = os + 8 * M + 2 by omega, show 3 * (2 * M) = 6 * M by omega] at this
      exact this
    have x3 : (dx e src (os + 8 * M + 3)).toNat = six 3 (B (6 * M)) (B (6 * M + 1)) (B (6 * M + 2)) := by
      have := H (2 * M) 3 (by omega) (by omega)
      rw [show os + (4 * (2 * M) + 3) = os + 8 * M + 3 by omega, show 3 * (2 * M) = 6 * M by omega] at this
      exact this
    have x4 : (dx e src (os + 8 * M + 4)).toNat = six 0 (B (6 * M + 3)) (B (6 * M + 3 + 1)) (B (6 * M + 3 + 2)) := by
      have := H (2 * M + 1) 0 (by omega) (by omega)
      rw [show os + (4 * (2 * M + 1) + 0) = os + 8 * M + 4 by omega, show 3 * (2 * M + 1) = 6 * M + 3 by omega] at this
      exact this
    have x5 : (dx e src (os + 8 * M + 5)).toNat = six 1 (B (6 * M + 3)) (B (6 * M + 3 + 1)) (B (6 * M + 3 + 2)) := by
      have := H (2 * M + 1) 1 (by omega) (by omega)
      rw [show os + (4 * (2 * M + 1) + 1) = os + 8 * M + 5 by omega, show 3 * (2 * M + 1) = 6 * M + 3 by omega] at this
      exact this
    have x6 : (dx e src (os + 8 * M + 6)).toNat = six 2 (B (6 * M + 3)) (B (6 * M + 3 + 1)) (B (6 * M + 3 + 2)) := by
      have := H (2 * M + 1) 2 (by omega) (by omega)
      rw [show os + (4 * (2 * M + 1) + 2) = os + 8 * M + 6 by omega, show 3 * (2 * M + 1) = 6 * M + 3 by omega] at this
      exact this
    have x7 : (dx e src (os + 8 * M + 7)).toNat = six 3 (B (6 * M + 3)) (B (6 * M + 3 + 1)) (B (6 * M + 3 + 2)) := by
      have := H (2 * M + 1) 3 (by omega) (by omega)
      rw [show os + (4 * (2 * M + 1) + 3) = os + 8 * M + 7 by omega, show 3 * (2 * M + 1) = 6 * M + 3 by omega] at this
      exact this
    have b0 := hB (6 * M)
    have b1 := hB (6 * M + 1)
    have b2 := hB (6 * M + 2)
    have b3 := hB (6 * M + 3)
    have b4 := hB (6 * M + 4)
    have b5 := hB (6 * M + 5)
    rw [show 6 * M + 3 + 1 = 6 * M + 4 by omega, show 6 * M + 3 + 2 = 6 * M + 5 by omega] at x4 x5 x6 x7
    have y0 : (dx e src (os + 8 * M + 0)).toNat < 64 := by rw [x0]; exact six_lt _ _ _ _ (hB _) (hB _) (hB _)
    have y1 : (dx e src (os + 8 * M + 1)).toNat < 64 := by rw [x1]; exact six_lt _ _ _ _ (hB _) (hB _) (hB _)
    have y2 : (dx e src (os + 8 * M + 2)).toNat < 64 := by rw [x2]; exact six_lt _ _ _ _ (hB _) (hB _) (hB _)
    have y3 : (dx e src (os + 8 * M + 3)).toNat < 64 := by rw [x3]; exact six_lt _ _ _ _ (hB _) (hB _) (hB _)
    have y4 : (dx e src (os + 8 * M + 4)).toNat < 64 := by rw [x4]; exact six_lt _ _ _ _ (hB _) (hB _) (hB _)
    have y5 : (dx e src (os + 8 * M + 5)).toNat < 64 := by rw [x5]; exact six_lt _ _ _ _ (hB _) (hB _) (hB _)
    have y6 : (dx e src (os + 8 * M + 6)).toNat < 64 := by rw [x6]; exact six_lt _ _ _ _ (hB _) (hB _) (hB _)
    have y7 : (dx e src (os + 8 * M + 7)).toNat < 64 := by rw [x7]; exact six_lt _ _ _ _ (hB _) (hB _) (hB _)
    have hw := d64_nat e src (os + 8 * M) y0 y1 y2 y3 y4 y5 y6 y7
    rw [x0, x1, x2, x3, x4, x5, x6, x7] at hw
    have hd : od + 6 * M + 8 ≤ (decA e src od os M d).n := by rw [decA_n]; omega
    simp only [six] at hw
    have hi2 : i = 6 * M ∨ i = 6 * M + 1 ∨ i = 6 * M + 2 ∨ i = 6 * M + 3 ∨ i = 6 * M + 4 ∨ i = 6 * M + 5 := by omega
    rcases hi2 with rfl | rfl | rfl | rfl | rfl | rfl
    · have g := put64_g0 _ (od + 6 * M) (d64 e src (os + 8 * M)) hd
      rw [show od + 6 * M + 0 = od + (6 * M) by omega] at g
      rw [g, byteOf, hw]
      clear hw x0 x1 x2 x3 x4 x5 x6 x7 y0 y1 y2 y3 y4 y5 y6 y7
      omega
    · have g := put64_g1 _ (od + 6 * M) (d64 e src (os + 8 * M)) hd
      rw [show od + 6 * M + 1 = od + (6 * M + 1) by omega] at g
      rw [g, byteOf, hw]
      clear hw x0 x1 x2 x3 x4 x5 x6 x7 y0 y1 y2 y3 y4 y5 y6 y7
      omega
    · have g := put64_g2 _ (od + 6 * M) (d64 e src (os + 8 * M)) hd
      rw [show od + 6 * M + 2 = od + (6 * M + 2) by omega] at g
      rw [g, byteOf, hw]
      clear hw x0 x1 x2 x3 x4 x5 x6 x7 y0 y1 y2 y3 y4 y5 y6 y7
      omega
    · have g := put64_g3 _ (od + 6 * M) (d64 e src (os + 8 * M)) hd
      rw [show od + 6 * M + 3 = od + (6 * M + 3) by omega] at g
      rw [g, byteOf, hw]
      clear hw x0 x1 x2 x3 x4 x5 x6 x7 y0 y1 y2 y3 y4 y5 y6 y7
      omega
    · have g := put64_g4 _ (od + 6 * M) (d64 e src (os + 8 * M)) hd
      rw [show od + 6 * M + 4 = od + (6 * M + 4) by omega] at g
      rw [g, byteOf, hw]
      clear hw x0 x1 x2 x3 x4 x5 x6 x7 y0 y1 y2 y3 y4 y5 y6 y7
      omega
    · have g := put64_g5 _ (od + 6 * M) (d64 e src (os + 8 * M)) hd
      rw [show od + 6 * M + 5 = od + (6 * M + 5) by omega] at g
      rw [g, byteOf, hw]
      clear hw x0 x1 x2 x3 x4 x5 x6 x7 y0 y1 y2 y3 y4 y5 y6 y7
      omega
theorem decM_at (e src : Vec 8) (od os L : Nat) (B : Nat → Nat) (hB : ∀ i, B i < 256) (H : Letters e src os L B) (d : Vec 8) :
    ∀ M : Nat, 4 * M ≤ L → od + 3 * M + 1 ≤ d.n → ∀ i, i < 3 * M → ((decM e src od os M d).l.getD (od + i) 0#8).toNat = B i
  | 0, _, _, i, hi => absurd hi (by omega)
  | M + 1, hL, hn, i, hi => by
    show ((put32 (decM e src od os M d) (od + 3 * M) (d32 e src (os + 4 * M))).l.getD (od + i) 0#8).toNat = _
    by_cases c : i < 3 * M
    · rw [put32_lo _ _ _ _ (by omega)]
      exact decM_at e src od os L B hB H d M (by omega) (by omega) i c
    have x0 : (dx e src (os + 4 * M + 0)).toNat = six 0 (B (3 * M)) (B (3 * M + 1)) (B (3 * M + 2)) := by
      have := H M 0 (by omega) (by omega)
      rw [show os + (4 * M + 0) = os + 4 * M + 0 by omega] at this
      exact this
    have x1 : (dx e src (os + 4 * M + 1)).toNat = six 1 (B (3 * M)) (B (3 * M + 1)) (B (3 * M + 2)) := by
      have := H M 1 (by omega) (by omega)
      rw [show os + (4 * M + 1) = os + 4 * M + 1 by omega] at this
      exact this
    have x2 : (dx e src (os + 4 * M + 2)).toNat = six 2 (B (3 * M)) (B (3 * M + 1)) (B (3 * M + 2)) := by
      have := H M 2 (by omega) (by omega)
      rw [show os + (4 * M + 2) = os + 4 * M + 2 by omega] at this
      exact this
    have x3 : (dx e src (os + 4 * M + 3)).toNat = six 3 (B (3 * M)) (B (3 * M + 1)) (B (3 * M + 2)) := by
      have := H M 3 (by omega) (by omega)
      rw [show os + (4 * M + 3) = os + 4 * M + 3 by omega] at this
      exact this
    have b0 := hB (3 * M)
    have b1 := hB (3 * M + 1)
    have b2 := hB (3 * M + 2)
    have y0 : (dx e src (os + 4 * M + 0)).toNat < 64 := by rw [x0]; exact six_lt _ _ _ _ (hB _) (hB _) (hB _)
    have y1 : (dx e src (os + 4 * M + 1)).toNat < 64 := by rw [x1]; exact six_lt _ _ _ _ (hB _) (hB _) (hB _)
    have y2 : (dx e src (os + 4 * M + 2)).toNat < 64 := by rw [x2]; exact six_lt _ _ _ _ (hB _) (hB _) (hB _)
    have y3 : (dx e src (os + 4 * M + 3)).toNat < 64 := by rw [x3]; exact six_lt _ _ _ _ (hB _) (hB _) (hB _)
    have hw := d32_nat e src (os + 4 * M) y0 y1 y2 y3
    rw [x0, x1, x2, x3] at hw
    have hd : od + 3 * M + 4 ≤ (decM e src od os M d).n := by rw [decM_n]; omega
    simp only [six] at hw
    have hi2 : i = 3 * M ∨ i = 3 * M + 1 ∨ i = 3 * M + 2 := by omega
    rcases hi2 with rfl | rfl | rfl
    · have g := put32_g0 _ (od + 3 * M) (d32 e src (os + 4 * M)) hd
      rw [show od + 3 * M + 0 = od + (3 * M) by omega] at g
      rw [g, byteOf, hw]
      clear hw x0 x1 x2 x3 y0 y1 y2 y3
      omega
    · have g := put32_g1 _ (od + 3 * M) (d32 e src (os + 4 * M)) hd
      rw [show od + 3 * M + 1 = od + (3 * M + 1) by omega] at g
      rw [g, byteOf, hw]
      clear hw x0 x1 x2 x3 y0 y1 y2 y3
      omega
    · have g := put32_g2 _ (od + 3 * M) (d32 e src (os + 4 * M)) hd
      rw [show od + 3 * M + 2 = od + (3 * M + 2) by omega] at g
      rw [g, byteOf, hw]
      clear hw x0 x1 x2 x3 y0 y1 y2 y3
      omega
theorem decM_lo (e src : Vec 8) (od os : Nat) (d : Vec 8) : ∀ M i : Nat, i < od → (decM e src od os M d).l.getD i 0#8 = d.l.getD i 0#8
  | 0, _, _ => rfl
  | M + 1, i, hi => by
    show (put32 (decM e src od os M d) (od + 3 * M) (d32 e src (os + 4 * M))).l.getD i 0#8 = _
    rw [put32_lo _ _ _ _ (by omega)]
    exact decM_lo e src od os d M i hi
theorem Letters.shift {e src : Vec 8} {os L : Nat} {B : Nat → Nat} (H : Letters e src os L B) (k : Nat) : Letters e src (os + 4 * k) (L - 4 * k) (fun i => B (3 * k + i)) := by
  intro q t ht h
  have := H (k + q) t ht (by omega)
  rw [show os + (4 * (k + q) + t) = os + 4 * k + (4 * q + t) by omega, show 3 * (k + q) = 3 * k + 3 * q by omega] at this
  exact this
/-- All bytes before the last letters'. -/
theorem decB_at (e src : Vec 8) (od os ns : Nat) (B : Nat → Nat) (hB : ∀ i, B i < 256) (H : Letters e src os (ns - 4) B) (d : Vec 8) (h4 : ns % 4 = 0) (h5 : 4 ≤ ns) (hd : od + ns / 4 * 3 ≤ d.n)
    (i : Nat) (hi : i < 3 * (ns / 4 - 1)) : ((decB e src od os ns d).l.getD (od + i) 0#8).toNat = B i := by
  unfold decB
  by_cases c : i < 6 * ((ns / 4 - 1) / 2)
  · rw [decM_lo _ _ _ _ _ _ _ (by omega)]
    exact decA_at e src od os (ns - 4) B hB H d _ (by omega) (by omega) i c
  · have := decM_at e src (od + 6 * ((ns / 4 - 1) / 2)) (os + 4 * (2 * ((ns / 4 - 1) / 2))) (ns - 4 - 4 * (2 * ((ns / 4 - 1) / 2))) (fun i => B (3 * (2 * ((ns / 4 - 1) / 2)) + i)) (fun i => hB _) (H.shift _)
      (decA e src od os ((ns / 4 - 1) / 2) d) (ns / 4 - 1 - 2 * ((ns / 4 - 1) / 2)) (by omega) (by rw [decA_n]; omega) (i - 6 * ((ns / 4 - 1) / 2)) (by omega)
    rw [show os + 4 * (2 * ((ns / 4 - 1) / 2)) = os + 8 * ((ns / 4 - 1) / 2) by omega, show od + 6 * ((ns / 4 - 1) / 2) + (i - 6 * ((ns / 4 - 1) / 2)) = od + i by omega] at this
    rw [this]
    show B (3 * (2 * ((ns / 4 - 1) / 2)) + (i - 6 * ((ns / 4 - 1) / 2))) = B i
    rw [show 3 * (2 * ((ns / 4 - 1) / 2)) + (i - 6 * ((ns / 4 - 1) / 2)) = i by omega]
theorem q1_nat (e src : Vec 8) (os : Nat) (si : Int) (h0 : (dx e src (os + si.toNat * 1)).toNat < 64) (h1 : (dx e src (os + (si + 1).toNat * 1)).toNat < 64) :
    (q1 e src os si).toNat = (dx e src (os + si.toNat * 1)).toNat * 2 ^ 18 + (dx e src (os + (si + 1).toNat * 1)).toNat * 2 ^ 12 := by
  unfold q1
  rw [BitVec.toNat_or, BitVec.toNat_or, BitVec.toNat_or, shl6 _ _ h0 (by omega), shl6 _ _ h1 (by omega), or_add' ((dx e src (os + si.toNat * 1)).toNat) _ 18 _ rfl (by omega)]
  rw [show (0#64).toNat = 0 by rfl, Nat.or_zero, Nat.or_zero]
theorem q2_nat (e src : Vec 8) (os : Nat) (si : Int) (h0 : (dx e src (os + si.toNat * 1)).toNat < 64) (h1 : (dx e src (os + (si + 1).toNat * 1)).toNat < 64) (h2 : (dx e src (os + (si + 1 + 1).toNat * 1)).toNat < 64) :
    (q2 e src os si).toNat = (dx e src (os + si.toNat * 1)).toNat * 2 ^ 18 + (dx e src (os + (si + 1).toNat * 1)).toNat * 2 ^ 12 + (dx e src (os + (si + 1 + 1).toNat * 1)).toNat * 2 ^ 6 := by
  unfold q2
  rw [BitVec.toNat_or, BitVec.toNat_or, BitVec.toNat_or, shl6 _ _ h0 (by omega), shl6 _ _ h1 (by omega), shl6 _ _ h2 (by omega), or_add' ((dx e src (os + si.toNat * 1)).toNat) _ 18 _ rfl (by omega)]
  rw [or_add' ((dx e src (os + si.toNat * 1)).toNat * 64 + (dx e src (os + (si + 1).toNat * 1)).toNat) ((dx e src (os + (si + 1 + 1).toNat * 1)).toNat * 2 ^ 6) 12 _ (by omega) (by omega)]
  rw [show (0#64).toNat = 0 by rfl, Nat.or_zero]
end Go.Proofs.Ytlelgligkkegnaa

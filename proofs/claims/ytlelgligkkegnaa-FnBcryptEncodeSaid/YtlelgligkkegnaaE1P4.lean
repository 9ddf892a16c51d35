/- bcrypt's letters read again are the bytes, for what the encoder gave (plain). -/
import Derived.Test.YtlelgligkkegnaaE1P3
namespace Go.Proofs.Ytlelgligkkegnaa
open Go.Eng
set_option linter.unusedVariables false
theorem Letters.cp {e src : Vec 8} {os L : Nat} {B : Nat → Nat} (H : Letters e src os L B) : Letters (cp e) src os L B := by
  intro q t ht h
  rw [dx_cp]
  exact H q t ht h
theorem Letters.mono {e src : Vec 8} {os L L' : Nat} {B : Nat → Nat} (H : Letters e src os L B) (h : L' ≤ L) : Letters e src os L' B :=
  fun q t ht hq => H q t ht (by omega)
theorem byt_in (b : Vec 8) (ob nb i : Nat) (h : i < nb) : byt b ob nb i = (b.l.getD (ob + i) 0#8).toNat := by
  unfold byt
  rw [if_pos h]
theorem end1_at (e e' d src : Vec 8) (os ns : Nat) (B : Nat → Nat) (hB : ∀ i, B i < 256) (H : Letters e src os (ns - 2) B) (H' : Letters e' src os (ns - 2) B) (h4 : ns % 4 = 0) (h5 : 4 ≤ ns) (hd : ns / 4 * 3 ≤ d.n)
    (i : Nat) (hi : i < 3 * (ns / 4 - 1) + 1) : ((end1 e (decB e' src 0 os ns d) src (0 + (((3 * (ns / 4 - 1) : Nat) : Int)).toNat) os (((ns - 4 : Nat) : Int))).l.getD i 0#8).toNat = B i := by
  unfold end1
  rw [vset_get, decB_n]
  by_cases c : i < 3 * (ns / 4 - 1)
  · rw [if_neg (by omega)]
    have := decB_at e' src 0 os ns B hB (H'.mono (by omega)) d h4 h5 (by omega) i c
    rw [Nat.zero_add] at this
    exact this
  · rw [if_pos (by omega), byteOf]
    have x0 := H (ns / 4 - 1) 0 (by omega) (by omega)
    have x1 := H (ns / 4 - 1) 1 (by omega) (by omega)
    rw [show os + (4 * (ns / 4 - 1) + 0) = os + (((ns - 4 : Nat) : Int)).toNat * 1 by omega] at x0
    rw [show os + (4 * (ns / 4 - 1) + 1) = os + ((((ns - 4 : Nat) : Int)) + 1).toNat * 1 by omega] at x1
    have y0 := six_lt 0 _ _ _ (hB (3 * (ns / 4 - 1))) (hB (3 * (ns / 4 - 1) + 1)) (hB (3 * (ns / 4 - 1) + 2))
    have y1 := six_lt 1 _ _ _ (hB (3 * (ns / 4 - 1))) (hB (3 * (ns / 4 - 1) + 1)) (hB (3 * (ns / 4 - 1) + 2))
    rw [q1_nat _ _ _ _ (by rw [x0]; exact y0) (by rw [x1]; exact y1), x0, x1]
    have e : i = 3 * (ns / 4 - 1) := by omega
    subst e
    have b0 := hB (3 * (ns / 4 - 1))
    have b1 := hB (3 * (ns / 4 - 1) + 1)
    simp only [six]
    clear x0 x1 y0 y1 H H'
    omega
theorem end2_at (e e' d src : Vec 8) (os ns : Nat) (B : Nat → Nat) (hB : ∀ i, B i < 256) (H : Letters e src os (ns - 1) B) (H' : Letters e' src os (ns - 1) B) (h4 : ns % 4 = 0) (h5 : 4 ≤ ns) (hd : ns / 4 * 3 ≤ d.n)
    (i : Nat) (hi : i < 3 * (ns / 4 - 1) + 2) : ((end2 e (decB e' src 0 os ns d) src (0 + (((3 * (ns / 4 - 1) : Nat) : Int)).toNat) os (((ns - 4 : Nat) : Int))).l.getD i 0#8).toNat = B i := by
  unfold end2
  rw [vset_get, vset_get, vset_n, decB_n]
  by_cases c : i < 3 * (ns / 4 - 1)
  · rw [if_neg (by omega), if_neg (by omega)]
    have := decB_at e' src 0 os ns B hB (H'.mono (by omega)) d h4 h5 (by omega) i c
    rw [Nat.zero_add] at this
    exact this
  · have x0 := H (ns / 4 - 1) 0 (by omega) (by omega)
    have x1 := H (ns / 4 - 1) 1 (by omega) (by omega)
    have x2 := H (ns / 4 - 1) 2 (by omega) (by omega)
    rw [show os + (4 * (ns / 4 - 1) + 0) = os + (((ns - 4 : Nat) : Int)).toNat * 1 by omega] at x0
    rw [show os + (4 * (ns / 4 - 1) + 1) = os + ((((ns - 4 : Nat) : Int)) + 1).toNat * 1 by omega] at x1
    rw [show os + (4 * (ns / 4 - 1) + 2) = os + ((((ns - 4 : Nat) : Int)) + 1 + 1).toNat * 1 by omega] at x2
    have y0 := six_lt 0 _ _ _ (hB (3 * (ns / 4 - 1))) (hB (3 * (ns / 4 - 1) + 1)) (hB (3 * (ns / 4 - 1) + 2))
    have y1 := six_lt 1 _ _ _ (hB (3 * (ns / 4 - 1))) (hB (3 * (ns / 4 - 1) + 1)) (hB (3 * (ns / 4 - 1) + 2))
    have y2 := six_lt 2 _ _ _ (hB (3 * (ns / 4 - 1))) (hB (3 * (ns / 4 - 1) + 1)) (hB (3 * (ns / 4 - 1) + 2))
    have hq := q2_nat e src os (((ns - 4 : Nat) : Int)) (by rw [x0]; exact y0) (by rw [x1]; exact y1) (by rw [x2]; exact y2)
    rw [x0, x1, x2] at hq
    have b0 := hB (3 * (ns / 4 - 1))
    have b1 := hB (3 * (ns / 4 - 1) + 1)
    have b2 := hB (3 * (ns / 4 - 1) + 2)
    simp only [six] at hq
    by_cases c2 : i = 3 * (ns / 4 - 1)
    · subst c2
      rw [if_pos (by omega), byteOf, hq]
      clear x0 x1 x2 y0 y1 y2 H H' hq
      omega
    · have e : i = 3 * (ns / 4 - 1) + 1 := by omega
      subst e
      rw [if_neg (by omega), if_pos (by omega), byteOf, hq]
      clear x0 x1 x2 y0 y1 y2 H H' hq
      omega
theorem six_nat_lt (b : Vec 8) (ob nb t m : Nat) : six t (byt b ob nb (3 * m)) (byt b ob nb (3 * m + 1)) (byt b ob nb (3 * m + 2)) < 64 := six_lt _ _ _ _ (byt_lt ..) (byt_lt ..) (byt_lt ..)
theorem full_dx (r : Nat) (b : Vec 8) (ob nb q t : Nat) (hr : nb % 3 = r) (ht : t < 4) (h : 4 * q + t < (8 * nb + 5) / 6) :
    (dx encV (full r b ob nb) (4 * q + t)).toNat = six t (byt b ob nb (3 * q)) (byt b ob nb (3 * q + 1)) (byt b ob nb (3 * q + 2)) :=
  dx_ltr _ _ _ (six_nat_lt ..) (full_six r b ob nb q t hr ht h)
theorem full_valid (r : Nat) (b : Vec 8) (ob nb k : Nat) (hr : nb % 3 = r) (h : k < (8 * nb + 5) / 6) : (dx encV (full r b ob nb) (0 + k)).toNat < 64 := by
  have := full_dx r b ob nb (k / 4) (k % 4) hr (by omega) (by omega)
  rw [show 4 * (k / 4) + k % 4 = 0 + k by omega] at this
  rw [this]
  exact six_nat_lt ..
theorem pad1_letters (r : Nat) (b : Vec 8) (ob nb nl : Nat) (hr : nb % 3 = r) (h : nl = (8 * nb + 5) / 6) (h2 : nl ≤ (full r b ob nb).n) : Letters encV (pad1 (full r b ob nb) 0 nl) 0 nl (byt b ob nb) := by
  intro q t ht hq
  rw [dx_at encV (pad1 (full r b ob nb) 0 nl) (full r b ob nb) (0 + (4 * q + t)) (4 * q + t) (by rw [Nat.zero_add]; refine (pad1_lo _ _ _ _ (by omega) hq).trans ?_; rw [Nat.zero_add])]
  exact full_dx r b ob nb q t hr ht (by omega)
theorem pad2_letters (r : Nat) (b : Vec 8) (ob nb nl : Nat) (hr : nb % 3 = r) (h : nl = (8 * nb + 5) / 6) (h2 : nl ≤ (full r b ob nb).n) : Letters encV (pad2 (full r b ob nb) 0 nl) 0 nl (byt b ob nb) := by
  intro q t ht hq
  rw [dx_at encV (pad2 (full r b ob nb) 0 nl) (full r b ob nb) (0 + (4 * q + t)) (4 * q + t) (by rw [Nat.zero_add]; refine (pad2_lo _ _ _ _ (by omega) hq).trans ?_; rw [Nat.zero_add])]
  exact full_dx r b ob nb q t hr ht (by omega)
theorem dec1_at (b : Vec 8) (ob nb nl : Nat) (hr : nb % 3 = 1) (hl : nl = (nb + 2) / 3 * 4 - 2) (i : Nat) (hi : i < nb) :
    (dec1T (full 1 b ob nb) 0 nl ((nl + 1 + 1) / 4 * 3)).l.getD i 0#8 = b.l.getD (ob + i) 0#8 := by
  have H := pad2_letters 1 b ob nb nl hr (by omega) (by rw [full_n]; omega)
  have H1 := H.cp
  refine BitVec.eq_of_toNat_eq ?_
  rw [← byt_in b ob nb i hi]
  exact end1_at (cp (cp (cp encV))) (cp encV) (Vec.zero 8 ((nl + 1 + 1) / 4 * 3)) (pad2 (full 1 b ob nb) 0 nl) 0 (nl + 1 + 1) (byt b ob nb) (byt_lt b ob nb) H1.cp.cp H1 (by omega) (by omega) (by show _ ≤ (nl + 1 + 1) / 4 * 3; omega) i (by omega)
theorem dec2_at (b : Vec 8) (ob nb nl : Nat) (hr : nb % 3 = 2) (hl : nl = (nb + 2) / 3 * 4 - 1) (i : Nat) (hi : i < nb) :
    (dec2T (full 2 b ob nb) 0 nl ((nl + 1) / 4 * 3)).l.getD i 0#8 = b.l.getD (ob + i) 0#8 := by
  have H := pad1_letters 2 b ob nb nl hr (by omega) (by rw [full_n]; omega)
  have H1 := H.cp
  refine BitVec.eq_of_toNat_eq ?_
  rw [← byt_in b ob nb i hi]
  exact end2_at (cp (cp (cp encV))) (cp encV) (Vec.zero 8 ((nl + 1) / 4 * 3)) (pad1 (full 2 b ob nb) 0 nl) 0 (nl + 1) (byt b ob nb) (byt_lt b ob nb) H1.cp.cp H1 (by omega) (by omega) (by show _ ≤ (nl + 1) / 4 * 3; omega) i (by omega)
theorem dec1_n (l : Vec 8) (ol nl k : Nat) : (dec1T l ol nl k).n = k := by
  unfold dec1T
  show (decB _ _ _ _ _ _).n = _
  rw [decB_n]
  rfl
theorem dec2_n (l : Vec 8) (ol nl k : Nat) : (dec2T l ol nl k).n = k := by
  unfold dec2T
  show (decB _ _ _ _ _ _).n = _
  rw [decB_n]
  rfl
end Go.Proofs.Ytlelgligkkegnaa

/- bcrypt's letters: what the encoder gives is what the reference gives; what the decoder gives are the bytes (plain). -/
import Derived.Test.YtlelgligkkegnaaE1P
namespace Go.Proofs.Ytlelgligkkegnaa
open Go.Eng
set_option linter.unusedVariables false
theorem put4_g0 (e d : Vec 8) (o : Nat) (w : BitVec 64) (h : o + 4 ≤ d.n) : (put4 e d o w).l.getD (o + 0) 0#8 = (ex e ((w >>> 18) &&& 63#64)) := by
  unfold put4
  rw [vset_get, if_neg (by omega), vset_get, if_neg (by omega), vset_get, if_neg (by omega), vset_get, if_pos ⟨rfl, by show o + 0 < d.n; omega⟩]
theorem put4_g1 (e d : Vec 8) (o : Nat) (w : BitVec 64) (h : o + 4 ≤ d.n) : (put4 e d o w).l.getD (o + 1) 0#8 = (ex e ((w >>> 12) &&& 63#64)) := by
  unfold put4
  rw [vset_get, if_neg (by omega), vset_get, if_neg (by omega), vset_get, if_pos ⟨rfl, by show o + 1 < d.n; omega⟩]
theorem put4_g2 (e d : Vec 8) (o : Nat) (w : BitVec 64) (h : o + 4 ≤ d.n) : (put4 e d o w).l.getD (o + 2) 0#8 = (ex e ((w >>> 6) &&& 63#64)) := by
  unfold put4
  rw [vset_get, if_neg (by omega), vset_get, if_pos ⟨rfl, by show o + 2 < d.n; omega⟩]
theorem put4_g3 (e d : Vec 8) (o : Nat) (w : BitVec 64) (h : o + 4 ≤ d.n) : (put4 e d o w).l.getD (o + 3) 0#8 = (ex e (w &&& 63#64)) := by
  unfold put4
  rw [vset_get, if_pos ⟨rfl, by show o + 3 < d.n; omega⟩]
theorem put4_lo (e d : Vec 8) (o : Nat) (w : BitVec 64) (i : Nat) (hi : i < o) : (put4 e d o w).l.getD i 0#8 = d.l.getD i 0#8 := by
  unfold put4
  rw [vset_get, if_neg (by omega), vset_get, if_neg (by omega), vset_get, if_neg (by omega), vset_get, if_neg (by omega)]
theorem put3_g0 (e d : Vec 8) (o : Nat) (w : BitVec 64) (h : o + 4 ≤ d.n) : (put3 e d o w).l.getD (o + 0) 0#8 = (ex e ((w >>> 18) &&& 63#64)) := by
  unfold put3
  rw [vset_get, if_neg (by omega), vset_get, if_neg (by omega), vset_get, if_neg (by omega), vset_get, if_pos ⟨rfl, by show o + 0 < d.n; omega⟩]
theorem put3_g1 (e d : Vec 8) (o : Nat) (w : BitVec 64) (h : o + 4 ≤ d.n) : (put3 e d o w).l.getD (o + 1) 0#8 = (ex e ((w >>> 12) &&& 63#64)) := by
  unfold put3
  rw [vset_get, if_neg (by omega), vset_get, if_neg (by omega), vset_get, if_pos ⟨rfl, by show o + 1 < d.n; omega⟩]
theorem put3_g2 (e d : Vec 8) (o : Nat) (w : BitVec 64) (h : o + 4 ≤ d.n) : (put3 e d o w).l.getD (o + 2) 0#8 = (ex e ((w >>> 6) &&& 63#64)) := by
  unfold put3
  rw [vset_get, if_neg (by omega), vset_get, if_pos ⟨rfl, by show o + 2 < d.n; omega⟩]
theorem put3_g3 (e d : Vec 8) (o : Nat) (w : BitVec 64) (h : o + 4 ≤ d.n) : (put3 e d o w).l.getD (o + 3) 0#8 = 61#8 := by
  unfold put3
  rw [vset_get, if_pos ⟨rfl, by show o + 3 < d.n; omega⟩]
theorem put3_lo (e d : Vec 8) (o : Nat) (w : BitVec 64) (i : Nat) (hi : i < o) : (put3 e d o w).l.getD i 0#8 = d.l.getD i 0#8 := by
  unfold put3
  rw [vset_get, if_neg (by omega), vset_get, if_neg (by omega), vset_get, if_neg (by omega), vset_get, if_neg (by omega)]
theorem put2_g0 (e d : Vec 8) (o : Nat) (w : BitVec 64) (h : o + 4 ≤ d.n) : (put2 e d o w).l.getD (o + 0) 0#8 = (ex e ((w >>> 18) &&& 63#64)) := by
  unfold put2
  rw [vset_get, if_neg (by omega), vset_get, if_neg (by omega), vset_get, if_neg (by omega), vset_get, if_pos ⟨rfl, by show o + 0 < d.n; omega⟩]
theorem put2_g1 (e d : Vec 8) (o : Nat) (w : BitVec 64) (h : o + 4 ≤ d.n) : (put2 e d o w).l.getD (o + 1) 0#8 = (ex e ((w >>> 12) &&& 63#64)) := by
  unfold put2
  rw [vset_get, if_neg (by omega), vset_get, if_neg (by omega), vset_get, if_pos ⟨rfl, by show o + 1 < d.n; omega⟩]
theorem put2_g2 (e d : Vec 8) (o : Nat) (w : BitVec 64) (h : o + 4 ≤ d.n) : (put2 e d o w).l.getD (o + 2) 0#8 = 61#8 := by
  unfold put2
  rw [vset_get, if_neg (by omega), vset_get, if_pos ⟨rfl, by show o + 2 < d.n; omega⟩]
theorem put2_g3 (e d : Vec 8) (o : Nat) (w : BitVec 64) (h : o + 4 ≤ d.n) : (put2 e d o w).l.getD (o + 3) 0#8 = 61#8 := by
  unfold put2
  rw [vset_get, if_pos ⟨rfl, by show o + 3 < d.n; omega⟩]
theorem put2_lo (e d : Vec 8) (o : Nat) (w : BitVec 64) (i : Nat) (hi : i < o) : (put2 e d o w).l.getD i 0#8 = d.l.getD i 0#8 := by
  unfold put2
  rw [vset_get, if_neg (by omega), vset_get, if_neg (by omega), vset_get, if_neg (by omega), vset_get, if_neg (by omega)]
theorem put64_g0 (d : Vec 8) (o : Nat) (w : BitVec 64) (h : o + 8 ≤ d.n) : (put64 d o w).l.getD (o + 0) 0#8 = ((w >>> 56).setWidth 8) := by
  unfold put64
  rw [vset_get, if_neg (by omega), vset_get, if_neg (by omega), vset_get, if_neg (by omega), vset_get, if_neg (by omega), vset_get, if_neg (by omega), vset_get, if_neg (by omega), vset_get, if_neg (by omega), vset_get, if_pos ⟨rfl, by show o + 0 < d.n; omega⟩]
theorem put64_g1 (d : Vec 8) (o : Nat) (w : BitVec 64) (h : o + 8 ≤ d.n) : (put64 d o w).l.getD (o + 1) 0#8 = ((w >>> 48).setWidth 8) := by
  unfold put64
  rw [vset_get, if_neg (by omega), vset_get, if_neg (by omega), vset_get, if_neg (by omega), vset_get, if_neg (by omega), vset_get, if_neg (by omega), vset_get, if_neg (by omega), vset_get, if_pos ⟨rfl, by show o + 1 < d.n; omega⟩]
theorem put64_g2 (d : Vec 8) (o : Nat) (w : BitVec 64) (h : o + 8 ≤ d.n) : (put64 d o w).l.getD (o + 2) 0#8 = ((w >>> 40).setWidth 8) := by
  unfold put64
  rw [vset_get, if_neg (by omega), vset_get, if_neg (by omega), vset_get, if_neg (by omega), vset_get, if_neg (by omega), vset_get, if_neg (by omega), vset_get, if_pos ⟨rfl, by show o + 2 < d.n; omega⟩]
theorem put64_g3 (d : Vec 8) (o : Nat) (w : BitVec 64) (h : o + 8 ≤ d.n) : (put64 d o w).l.getD (o + 3) 0#8 = ((w >>> 32).setWidth 8) := by
  unfold put64
  rw [vset_get, if_neg (by omega), vset_get, if_neg (by omega), vset_get, if_neg (by omega), vset_get, if_neg (by omega), vset_get, if_pos ⟨rfl, by show o + 3 < d.n; omega⟩]
theorem put64_g4 (d : Vec 8) (o : Nat) (w : BitVec 64) (h : o + 8 ≤ d.n) : (put64 d o w).l.getD (o + 4) 0#8 = ((w >>> 24).setWidth 8) := by
  unfold put64
  rw [vset_get, if_neg (by omega), vset_get, if_neg (by omega), vset_get, if_neg (by omega), vset_get, if_pos ⟨rfl, by show o + 4 < d.n; omega⟩]
theorem put64_g5 (d : Vec 8) (o : Nat) (w : BitVec 64) (h : o + 8 ≤ d.n) : (put64 d o w).l.getD (o + 5) 0#8 = ((w >>> 16).setWidth 8) := by
  unfold put64
  rw [vset_get, if_neg (by omega), vset_get, if_neg (by omega), vset_get, if_pos ⟨rfl, by show o + 5 < d.n; omega⟩]
theorem put64_g6 (d : Vec 8) (o : Nat) (w : BitVec 64) (h : o + 8 ≤ d.n) : (put64 d o w).l.getD (o + 6) 0#8 = ((w >>> 8).setWidth 8) := by
  unfold put64
  rw [vset_get, if_neg (by omega), vset_get, if_pos ⟨rfl, by show o + 6 < d.n; omega⟩]
theorem put64_g7 (d : Vec 8) (o : Nat) (w : BitVec 64) (h : o + 8 ≤ d.n) : (put64 d o w).l.getD (o + 7) 0#8 = (w.setWidth 8) := by
  unfold put64
  rw [vset_get, if_pos ⟨rfl, by show o + 7 < d.n; omega⟩]
theorem put64_lo (d : Vec 8) (o : Nat) (w : BitVec 64) (i : Nat) (hi : i < o) : (put64 d o w).l.getD i 0#8 = d.l.getD i 0#8 := by
  unfold put64
  rw [vset_get, if_neg (by omega), vset_get, if_neg (by omega), vset_get, if_neg (by omega), vset_get, if_neg (by omega), vset_get, if_neg (by omega), vset_get, if_neg (by omega), vset_get, if_neg (by omega), vset_get, if_neg (by omega)]
theorem put32_g0 (d : Vec 8) (o : Nat) (w : BitVec 32) (h : o + 4 ≤ d.n) : (put32 d o w).l.getD (o + 0) 0#8 = ((w >>> 24).setWidth 8) := by
  unfold put32
  rw [vset_get, if_neg (by omega), vset_get, if_neg (by omega), vset_get, if_neg (by omega), vset_get, if_pos ⟨rfl, by show o + 0 < d.n; omega⟩]
theorem put32_g1 (d : Vec 8) (o : Nat) (w : BitVec 32) (h : o + 4 ≤ d.n) : (put32 d o w).l.getD (o + 1) 0#8 = ((w >>> 16).setWidth 8) := by
  unfold put32
  rw [vset_get, if_neg (by omega), vset_get, if_neg (by omega), vset_get, if_pos ⟨rfl, by show o + 1 < d.n; omega⟩]
theorem put32_g2 (d : Vec 8) (o : Nat) (w : BitVec 32) (h : o + 4 ≤ d.n) : (put32 d o w).l.getD (o + 2) 0#8 = ((w >>> 8).setWidth 8) := by
  unfold put32
  rw [vset_get, if_neg (by omega), vset_get, if_pos ⟨rfl, by show o + 2 < d.n; omega⟩]
theorem put32_g3 (d : Vec 8) (o : Nat) (w : BitVec 32) (h : o + 4 ≤ d.n) : (put32 d o w).l.getD (o + 3) 0#8 = (w.setWidth 8) := by
  unfold put32
  rw [vset_get, if_pos ⟨rfl, by show o + 3 < d.n; omega⟩]
theorem put32_lo (d : Vec 8) (o : Nat) (w : BitVec 32) (i : Nat) (hi : i < o) : (put32 d o w).l.getD i 0#8 = d.l.getD i 0#8 := by
  unfold put32
  rw [vset_get, if_neg (by omega), vset_get, if_neg (by omega), vset_get, if_neg (by omega), vset_get, if_neg (by omega)]
/-- The letters of whole threes, one by one. -/
theorem encD_at (src : Vec 8) (os ns : Nat) (d : Vec 8) : ∀ M : Nat, 4 * M ≤ d.n → 3 * M ≤ ns → ∀ m t, t < 4 → m < M →
    (encD (cp (cp encV)) src 0 os M d).l.getD (4 * m + t) 0#8 = ltr (six t (byt src os ns (3 * m)) (byt src os ns (3 * m + 1)) (byt src os ns (3 * m + 2)))
  | 0, _, _, m, t, _, h => absurd h (Nat.not_lt_zero _)
  | M + 1, hn, hs, m, t, ht, h => by
    show (put4 (cp (cp encV)) (encD (cp (cp encV)) src 0 os M d) (0 + 4 * M) (v24 src (os + 3 * M))).l.getD (4 * m + t) 0#8 = _
    by_cases e : m < M
    · rw [put4_lo _ _ _ _ _ (by omega)]
      exact encD_at src os ns d M (by omega) (by omega) m t ht e
    · have : m = M := by omega
      subst this
      have hw : (v24 src (os + 3 * m)).toNat = byt src os ns (3 * m) * 65536 + byt src os ns (3 * m + 1) * 256 + byt src os ns (3 * m + 2) := by
        rw [v24_nat]
        unfold byt
        rw [if_pos (by omega), if_pos (by omega), if_pos (by omega)]
        rfl
      have hx := ex_six _ _ _ _ (byt_lt ..) (byt_lt ..) (byt_lt ..) hw
      have hd : 0 + 4 * m + 4 ≤ (encD (cp (cp encV)) src 0 os m d).n := by rw [encD_n]; omega
      match t, ht with
      | 0, _ => rw [show 4 * m + 0 = 0 + 4 * m + 0 by omega, put4_g0 _ _ _ _ hd]; exact hx.1
      | 1, _ => rw [show 4 * m + 1 = 0 + 4 * m + 1 by omega, put4_g1 _ _ _ _ hd]; exact hx.2.1
      | 2, _ => rw [show 4 * m + 2 = 0 + 4 * m + 2 by omega, put4_g2 _ _ _ _ hd]; exact hx.2.2.1
      | 3, _ => rw [show 4 * m + 3 = 0 + 4 * m + 3 by omega, put4_g3 _ _ _ _ hd]; exact hx.2.2.2
theorem full_six (r : Nat) (src : Vec 8) (os ns m t : Nat) (hr : ns % 3 = r) (ht : t < 4) (h : 4 * m + t < (8 * ns + 5) / 6) :
    (full r src os ns).l.getD (4 * m + t) 0#8 = ltr (six t (byt src os ns (3 * m)) (byt src os ns (3 * m + 1)) (byt src os ns (3 * m + 2))) := by
  have hz : ∀ k, (Vec.zero 8 k).n = k := fun _ => rfl
  have at1 := encD_at src os ns (Vec.zero 8 ((ns + 2) / 3 * 4)) (ns / 3) (by rw [hz]; omega) (by omega) m t ht
  have hd : 0 + 4 * (ns / 3) + 4 ≤ (encD (cp (cp encV)) src 0 os (ns / 3) (Vec.zero 8 ((ns + 2) / 3 * 4))).n ∨ r = 0 := by
    rw [encD_n, hz]; omega
  have hlt : r < 3 := by omega
  match r, hlt with
  | 0, _ =>
    show (encD (cp (cp encV)) src 0 os (ns / 3) (Vec.zero 8 ((ns + 2) / 3 * 4))).l.getD (4 * m + t) 0#8 = _
    exact at1 (by omega)
  | 1, _ =>
    show (put2 (cp (cp encV)) (encD (cp (cp encV)) src 0 os (ns / 3) (Vec.zero 8 ((ns + 2) / 3 * 4))) (0 + 4 * (ns / 3)) (v8 src (os + 3 * (ns / 3)))).l.getD (4 * m + t) 0#8 = _
    have hd := hd.resolve_right (by omega)
    by_cases e : m < ns / 3
    · rw [put2_lo _ _ _ _ _ (by omega)]; exact at1 e
    · have : m = ns / 3 := by omega
      subst this
      have hw : (v8 src (os + 3 * (ns / 3))).toNat = byt src os ns (3 * (ns / 3)) * 65536 + byt src os ns (3 * (ns / 3) + 1) * 256 + byt src os ns (3 * (ns / 3) + 2) := by
        rw [v8_nat]
        unfold byt
        rw [if_pos (by omega), if_neg (by omega), if_neg (by omega)]
        simp only [Nat.add_zero, Nat.zero_mul]
      have hx := ex_six _ _ _ _ (byt_lt ..) (byt_lt ..) (byt_lt ..) hw
      have ht2 : t < 2 := by omega
      match t, ht2 with
      | 0, _ => rw [show 4 * (ns / 3) + 0 = 0 + 4 * (ns / 3) + 0 by omega, put2_g0 _ _ _ _ hd]; exact hx.1
      | 1, _ => rw [show 4 * (ns / 3) + 1 = 0 + 4 * (ns / 3) + 1 by omega, put2_g1 _ _ _ _ hd]; exact hx.2.1
  | 2, _ =>
    show (put3 (cp (cp encV)) (encD (cp (cp encV)) src 0 os (ns / 3) (Vec.zero 8 ((ns + 2) / 3 * 4))) (0 + 4 * (ns / 3)) (v16 src (os + 3 * (ns / 3)))).l.getD (4 * m + t) 0#8 = _
    have hd := hd.resolve_right (by omega)
    by_cases e : m < ns / 3
    · rw [put3_lo _ _ _ _ _ (by omega)]; exact at1 e
    · have : m = ns / 3 := by omega
      subst this
      have hw : (v16 src (os + 3 * (ns / 3))).toNat = byt src os ns (3 * (ns / 3)) * 65536 + byt src os ns (3 * (ns / 3) + 1) * 256 + byt src os ns (3 * (ns / 3) + 2) := by
        rw [v16_nat]
        unfold byt
        rw [if_pos (by omega), if_pos (by omega), if_neg (by omega)]
        simp only [Nat.add_zero, Nat.zero_mul, Nat.add_assoc]
      have hx := ex_six _ _ _ _ (byt_lt ..) (byt_lt ..) (byt_lt ..) hw
      have ht2 : t < 3 := by omega
      match t, ht2 with
      | 0, _ => rw [show 4 * (ns / 3) + 0 = 0 + 4 * (ns / 3) + 0 by omega, put3_g0 _ _ _ _ hd]; exact hx.1
      | 1, _ => rw [show 4 * (ns / 3) + 1 = 0 + 4 * (ns / 3) + 1 by omega, put3_g1 _ _ _ _ hd]; exact hx.2.1
      | 2, _ => rw [show 4 * (ns / 3) + 2 = 0 + 4 * (ns / 3) + 2 by omega, put3_g2 _ _ _ _ hd]; exact hx.2.2.1
/-- Letter by letter, the encoder's and the reference's are one. -/
theorem full_spW (r : Nat) (src : Vec 8) (os ns j : Nat) (hr : ns % 3 = r) (h : j < (8 * ns + 5) / 6) :
    (full r src os ns).l.getD j 0#8 = (spW src os ns ((8 * ns + 5) / 6)).l.getD j 0#8 := by
  have hj : j = 4 * (j / 4) + j % 4 := by omega
  rw [hj, full_six r src os ns (j / 4) (j % 4) hr (by omega) (by omega), spW_six _ _ _ _ _ _ (by omega) (by omega)]
theorem full_n (r : Nat) (src : Vec 8) (os ns : Nat) : (full r src os ns).n = (ns + 2) / 3 * 4 := by
  unfold full
  split
  · rw [encD_n]; rfl
  · show (encD (cp (cp encV)) src 0 os (ns / 3) (Vec.zero 8 ((ns + 2) / 3 * 4))).n = _
    rw [encD_n]; rfl
  · show (encD (cp (cp encV)) src 0 os (ns / 3) (Vec.zero 8 ((ns + 2) / 3 * 4))).n = _
    rw [encD_n]; rfl
/-! Letters read again. -/
theorem back_all : ∀ k : Fin 64, encV.l.getD (64 + (ltr k.val).toNat) 0#8 = BitVec.ofNat 8 k.val := by decide
theorem dx_ltr (src : Vec 8) (o k : Nat) (hk : k < 64) (h : src.l.getD o 0#8 = ltr k) : (dx encV src o).toNat = k := by
  have hl := (ltr k).isLt
  unfold dx
  rw [h, show 64 + (((ltr k).toNat : Nat) : Int).toNat * 1 - 0 = 64 + (ltr k).toNat by omega, cp_get _ _ (by omega), back_all ⟨k, hk⟩]
  show k % 256 = k
  omega
end Go.Proofs.Ytlelgligkkegnaa

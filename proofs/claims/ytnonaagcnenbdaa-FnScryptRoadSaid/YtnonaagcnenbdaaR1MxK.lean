/- The plain law of scrypt's mix: the package's mix of rows, in words. -/
import Derived.Test.YtnonaagcnenbdaaR1MxP
namespace Go.Proofs.Ytnonaagcnenbdaa
open Go.Eng blockRoad
set_option linter.unusedSectionVars false
variable [RowAddr]
def BMw (p : Nat) (a : Vec 32) : Vec 32 := road a 0 (32 * p) p
theorem BMw_n (p : Nat) (a : Vec 32) (hp : 1 ≤ p) (ha : a.n = 32 * p) : (BMw p a).n = 32 * p := by
  unfold BMw
  rw [← mix_road a 0 (32 * p) p (by omega) (by omega), mixV_n]
  omega
def xW (R : Nat) (a c : Vec 32) : Vec 32 := ⟨R, (List.range R).map fun j => gW a j ^^^ gW c j, by simp⟩
theorem xW_get (R : Nat) (a c : Vec 32) (j : Nat) (h : j < R) : gW (xW R a c) j = gW a j ^^^ gW c j := getD_map_range (fun j => gW a j ^^^ gW c j) R j 0#32 h
/-- The states that are kept. -/
def wK (p : Nat) (a : Vec 32) (K : Nat) : Vec 32 := iter (BMw p) K a
theorem wK_succ (p : Nat) (a : Vec 32) (K : Nat) : wK p a (K + 1) = BMw p (wK p a K) := iter_succ _ K a
theorem wK_n (p : Nat) (a : Vec 32) (hp : 1 ≤ p) (ha : a.n = 32 * p) : ∀ K : Nat, (wK p a K).n = 32 * p
  | 0 => ha
  | K + 1 => by rw [wK_succ]; exact BMw_n p _ hp (wK_n p a hp ha K)
/-- Which one is wanted. -/
def keyB (a : Vec 32) (p : Nat) (N : Int) : BitVec 64 := ((gW a (32 * p - 16)).setWidth 64 ||| (gW a (32 * p - 15)).setWidth 64 <<< 32) &&& BitVec.ofInt 64 (N - 1)
def keyW (a : Vec 32) (p : Nat) (N : Int) : Nat := (keyB a p N).toNat
theorem keyW_lt (a : Vec 32) (p : Nat) (N : Int) (h1 : 1 ≤ N) (h2 : N ≤ 1000000) : (keyW a p N : Int) < N := and_lt _ _ h1 h2
/-- The states that are mixed with those that were kept. -/
def yN (p : Nat) (a : Vec 32) (N : Int) (y : Vec 32) : Vec 32 := BMw p (xW (32 * p) y (wK p a (keyW y p N)))
def yK (p : Nat) (a : Vec 32) (N : Int) (i : Nat) : Vec 32 := iter (yN p a N) i (wK p a N.toNat)
theorem yK_succ (p : Nat) (a : Vec 32) (N : Int) (i : Nat) : yK p a N (i + 1) = yN p a N (yK p a N i) := iter_succ _ i _
theorem yK_n (p : Nat) (a : Vec 32) (N : Int) (hp : 1 ≤ p) (ha : a.n = 32 * p) : ∀ i : Nat, (yK p a N i).n = 32 * p
  | 0 => wK_n p a hp ha _
  | i + 1 => by rw [yK_succ]; exact BMw_n p _ hp rfl
theorem over_in (v u : Vec 32) (o t : Nat) (h : o + u.n ≤ v.n) (ht : t < u.n) : gW (v.over o u) (o + t) = gW u t := by
  have := v.h
  have := u.h
  exact setL_in 0#32 u.l v.l o t (by omega) (by omega)
theorem over_out (v u : Vec 32) (o j : Nat) (h : o + u.n ≤ v.n) (hj : j < o ∨ o + u.n ≤ j) : gW (v.over o u) j = gW v j := by
  have := v.h
  have := u.h
  exact setL_out 0#32 u.l v.l o j (by omega) (by omega)
theorem xorD_get (d : Vec 32) (od : Nat) (s : Vec 32) (os : Nat) : ∀ m : Nat, od + m ≤ d.n → (∀ j, j < m → gW (xorD d od s os m) (od + j) = gW d (od + j) ^^^ gW s (os + j)) ∧ (∀ j, j < od ∨ od + m ≤ j → gW (xorD d od s os m) j = gW d j)
  | 0, _ => ⟨fun j hj => by omega, fun j _ => rfl⟩
  | m + 1, h => by
    obtain ⟨h1, h2⟩ := xorD_get d od s os m (by omega)
    have hn : (xorD d od s os m).n = d.n := xorD_n d od s os m
    have e : ∀ j, gW (xorD d od s os (m + 1)) j = if j = od + m then gW (xorD d od s os m) (od + m) ^^^ gW s (os + m) else gW (xorD d od s os m) j := fun j => set_getD _ _ _ _ (by omega)
    refine ⟨fun j hj => ?_, fun j hj => ?_⟩
    · rw [e]
      by_cases g : j = m
      · subst g
        rw [if_pos rfl, h2 _ (by omega)]
      · rw [if_neg (by omega), h1 j (by omega)]
    · rw [e, if_neg (by omega), h2 j (by omega)]
section
variable (p : Nat) (hp : 1 ≤ p) (a : Vec 32) (ha : a.n = 32 * p) (N : Int) (hN1 : 2 ≤ N) (hN2 : N ≤ 1000000) (nw : Nat)
/-- A row of words within x, as another row. -/
def Is (x : Vec 32) (o : Nat) (R : Nat) (w : Vec 32) : Prop := ∀ j, j < R → gW x (o + j) = gW w j
theorem Is.sub {x : Vec 32} {o R : Nat} {w : Vec 32} (h : Is x o R w) (hx : o + R ≤ x.n) (hw : w.n = R) : x.sub o R = w :=
  gW_ext hw.symm fun j hj => by
    have hj : j < R := hj
    rw [gW_sub _ _ _ _ hx hj, h j hj]
include hp in
theorem mix_is {t x w : Vec 32} {oa oc : Nat} (ht : t.n = 16) (h1 : oa + 32 * p ≤ x.n) (h2 : oc + 32 * p ≤ x.n) (hd : oa + 32 * p ≤ oc ∨ oc + 32 * p ≤ oa) (hw : w.n = 32 * p) (h : Is x oa (32 * p) w) :
    Is (mixC t x oa oc p) oc (32 * p) (BMw p w) ∧ ∀ j, j < oc ∨ oc + 32 * p ≤ j → gW (mixC t x oa oc p) j = gW x j := by
  obtain ⟨m1, m2⟩ := mixA t x oa oc p ht h1 h2 hd hp
  rw [h.sub h1 hw] at m1
  exact ⟨m1, m2⟩
theorem pR (p : Nat) : (32 * (p : Int)).toNat = 32 * p := by omega
theorem mulR (p K : Nat) : ((K : Int) * (32 * (p : Int))).toNat = K * (32 * p) := by
  rw [show (K : Int) * (32 * (p : Int)) = ((K * (32 * p) : Nat) : Int) by push_cast; rfl]
  omega
include hp ha in
theorem keep_is (v0 x0 t0 : Vec 32) (hx : x0.n = 64 * p) (ht : t0.n = 16) (h0 : Is x0 0 (32 * p) a) (hv : nw ≤ v0.n) : ∀ m : Nat, 2 * m * (32 * p) ≤ nw →
    Is (keepS nw (32 * p) p (32 * (p : Int)) ⟨v0, x0, t0⟩ m).x 0 (32 * p) (wK p a (2 * m)) ∧ ∀ K, K < 2 * m → Is (keepS nw (32 * p) p (32 * (p : Int)) ⟨v0, x0, t0⟩ m).v (K * (32 * p)) (32 * p) (wK p a K)
  | 0, _ => ⟨h0, fun K hK => by omega⟩
  | m + 1, hm => by
    have e2 : 2 * (m + 1) * (32 * p) = 2 * m * (32 * p) + 32 * p + 32 * p := by
      rw [show 2 * (m + 1) = 2 * m + 1 + 1 by omega, Nat.add_mul, Nat.add_mul, Nat.one_mul]
    obtain ⟨h1, h2⟩ := keep_is v0 x0 t0 hx ht h0 hv m (by omega)
    obtain ⟨n1, n2, n3⟩ := keepS_n nw (32 * p) p (32 * (p : Int)) ⟨v0, x0, t0⟩ m
    have eS : keepS nw (32 * p) p (32 * (p : Int)) ⟨v0, x0, t0⟩ (m + 1) = ⟨keepV (keepS nw (32 * p) p (32 * (p : Int)) ⟨v0, x0, t0⟩ m).v (keepS nw (32 * p) p (32 * (p : Int)) ⟨v0, x0, t0⟩ m).x (keepS nw (32 * p) p (32 * (p : Int)) ⟨v0, x0, t0⟩ m).t nw (32 * p) p (32 * (p : Int)) (2 * (m : Int)), keepX (keepS nw (32 * p) p (32 * (p : Int)) ⟨v0, x0, t0⟩ m).x (keepS nw (32 * p) p (32 * (p : Int)) ⟨v0, x0, t0⟩ m).t (32 * p) p, keepT (keepS nw (32 * p) p (32 * (p : Int)) ⟨v0, x0, t0⟩ m).x (keepS nw (32 * p) p (32 * (p : Int)) ⟨v0, x0, t0⟩ m).t (32 * p) p⟩ := rfl
    rw [eS]
    generalize keepS nw (32 * p) p (32 * (p : Int)) ⟨v0, x0, t0⟩ m = s at h1 h2 n1 n2 n3
    obtain ⟨v, x, t⟩ := s
    have n1 : v.n = v0.n := n1
    have n2 : x.n = 64 * p := n2.trans hx
    have n3 : t.n = 16 := n3.trans ht
    have h1 : Is x 0 (32 * p) (wK p a (2 * m)) := h1
    have h2 : ∀ K, K < 2 * m → Is v (K * (32 * p)) (32 * p) (wK p a K) := h2
    have hw := wK_n p a hp ha (2 * m)
    have hw1 := wK_n p a hp ha (2 * m + 1)
    obtain ⟨c1, c2⟩ := mix_is p hp (t := t) (oc := 32 * p) n3 (by omega) (by omega) (.inl (by omega)) hw h1
    rw [← wK_succ] at c1
    have d1 : (mixC t x 0 (32 * p) p).n = 64 * p := (mixC_n ..).trans n2
    obtain ⟨k1, k2⟩ := mix_is p hp (t := mixT t x 0 (32 * p) p) (oc := 0) ((mixT_n ..).trans n3) (by omega) (by omega) (.inr (by omega)) hw1 c1
    rw [← wK_succ] at k1
    refine ⟨k1, fun K hK => ?_⟩
    show Is (keepV v x t nw (32 * p) p (32 * (p : Int)) (2 * (m : Int))) _ _ _
    unfold keepV
    have i1 : (2 * (m : Int) * (32 * (p : Int))).toNat = 2 * m * (32 * p) := by
      have := mulR p (2 * m); rw [← this]; push_cast; rfl
    have i2 : ((2 * (m : Int) + 1) * (32 * (p : Int))).toNat = 2 * m * (32 * p) + 32 * p := by
      have := mulR p (2 * m + 1)
      rw [show ((2 * (m : Int) + 1) * (32 * (p : Int))) = (((2 * m + 1 : Nat) : Int) * (32 * (p : Int))) by push_cast; rfl, this, Nat.add_mul, Nat.one_mul]
    rw [i1, i2, rowN_eq _ _ _ (by rw [pR]; omega), rowN_eq _ _ _ (by rw [pR]; omega), pR]
    rw [show 0 + (((0 : Nat) : Int)).toNat = 0 by omega, show 32 * p + (((0 : Nat) : Int)).toNat = 32 * p by omega, Nat.zero_add, Nat.zero_add]
    have u1 : (x.sub 0 (32 * p)).n = 32 * p := rfl
    have u2 : ((mixC t x 0 (32 * p) p).sub (32 * p) (32 * p)).n = 32 * p := rfl
    have o1 : (v.over (2 * m * (32 * p)) (x.sub 0 (32 * p))).n = v.n := rfl
    intro j hj
    by_cases g1 : K = 2 * m + 1
    · subst g1
      rw [show (2 * m + 1) * (32 * p) = 2 * m * (32 * p) + 32 * p by rw [Nat.add_mul, Nat.one_mul], over_in _ _ _ _ (by rw [u2, o1]; omega) (by rw [u2]; exact hj), gW_sub _ _ _ _ (by omega) hj]
      exact c1 j hj
    · have hKm : K ≤ 2 * m := by omega
      have hKR : K * (32 * p) ≤ 2 * m * (32 * p) := Nat.mul_le_mul_right _ hKm
      rw [over_out _ _ _ _ (by rw [u2, o1]; omega) (.inl (by omega))]
      by_cases g2 : K = 2 * m
      · subst g2
        rw [over_in _ _ _ _ (by rw [u1]; omega) (by rw [u1]; exact hj), gW_sub _ _ _ _ (by omega) hj]
        exact h1 j hj
      · have hKs : (K + 1) * (32 * p) ≤ 2 * m * (32 * p) := Nat.mul_le_mul_right _ (by omega)
        rw [Nat.add_mul, Nat.one_mul] at hKs
        rw [over_out _ _ _ _ (by rw [u1]; omega) (.inl (by omega))]
        exact h2 K (by omega) j hj
/-- One of the two halves of a round: the row at o taken with the one that it points to, and mixed into the row at q. -/
theorem idx_is {x y : Vec 32} {o : Nat} (hp : 1 ≤ p) (h : Is x o (32 * p) y) : idxW x o p N = keyB y p N := by
  unfold idxW keyB
  have e1 : ((2 * (p : Int) - 1) * 16).toNat * 1 = 32 * p - 16 := by omega
  have e2 : ((2 * (p : Int) - 1) * 16 + 1).toNat * 1 = 32 * p - 15 := by omega
  rw [e1, e2]
  have g1 : x.l.getD (o + (32 * p - 16)) 0#32 = gW y (32 * p - 16) := h _ (by omega)
  have g2 : x.l.getD (o + (32 * p - 15)) 0#32 = gW y (32 * p - 15) := h _ (by omega)
  rw [g1, g2]
include hp ha hN1 hN2 in
theorem half_is {t x v y : Vec 32} {o q : Nat} (ht : t.n = 16) (h1 : o + 32 * p ≤ x.n) (h2 : q + 32 * p ≤ x.n) (hd : o + 32 * p ≤ q ∨ q + 32 * p ≤ o) (hy : y.n = 32 * p) (h : Is x o (32 * p) y)
    (hv : ∀ K : Nat, (K : Int) < N → Is v (K * (32 * p)) (32 * p) (wK p a K)) : Is (mixC t (pickD x v o p N (32 * (p : Int))) o q p) q (32 * p) (yN p a N y) := by
  have hk : ((keyB y p N).toNat : Int) < N := keyW_lt y p N (by omega) hN2
  have hD : Is (pickD x v o p N (32 * (p : Int))) o (32 * p) (xW (32 * p) y (wK p a (keyW y p N))) := by
    intro j hj
    unfold pickD
    rw [idx_is p N hp h, pR, mulR, Nat.zero_add, (xorD_get x o v _ (32 * p) h1).1 j hj, xW_get _ _ _ _ hj, h j hj, hv _ hk j hj]
    rfl
  have hn : (pickD x v o p N (32 * (p : Int))).n = x.n := pickD_n ..
  exact (mix_is p hp ht (by omega) (by omega) hd rfl hD).1
include hp ha hN1 hN2 in
theorem pick_is (s0 : VXT) (hx : s0.x.n = 64 * p) (ht : s0.t.n = 16) (h0 : Is s0.x 0 (32 * p) (yK p a N 0)) (hv : ∀ K : Nat, (K : Int) < N → Is s0.v (K * (32 * p)) (32 * p) (wK p a K)) : ∀ m : Nat,
    Is (pickS (32 * p) p N (32 * (p : Int)) s0 m).x 0 (32 * p) (yK p a N (2 * m))
  | 0 => h0
  | m + 1 => by
    have h1 := pick_is s0 hx ht h0 hv m
    obtain ⟨n1, n2, n3⟩ := pickS_n (32 * p) p N (32 * (p : Int)) s0 m
    have eS : (pickS (32 * p) p N (32 * (p : Int)) s0 (m + 1)).x = pickX (pickS (32 * p) p N (32 * (p : Int)) s0 m).x (pickS (32 * p) p N (32 * (p : Int)) s0 m).v (pickS (32 * p) p N (32 * (p : Int)) s0 m).t (32 * p) p N (32 * (p : Int)) := rfl
    rw [eS, n1]
    generalize pickS (32 * p) p N (32 * (p : Int)) s0 m = s at h1 n2 n3
    obtain ⟨v, x, t⟩ := s
    have n2 : x.n = 64 * p := n2.trans hx
    have n3 : t.n = 16 := n3.trans ht
    have h1 : Is x 0 (32 * p) (yK p a N (2 * m)) := h1
    have a1 := half_is p hp a ha N hN1 hN2 (t := t) (v := s0.v) (q := 32 * p) n3 (by omega) (by omega) (.inl (by omega)) (yK_n p a N hp ha _) h1 hv
    rw [← yK_succ] at a1
    have m1 : (half1 x s0.v t (32 * p) p N (32 * (p : Int))).n = 64 * p := (half1_n ..).trans n2
    have m2 : (half1T x s0.v t (32 * p) p N (32 * (p : Int))).n = 16 := (half1T_n ..).trans n3
    have a2 := half_is p hp a ha N hN1 hN2 (t := half1T x s0.v t (32 * p) p N (32 * (p : Int))) (x := half1 x s0.v t (32 * p) p N (32 * (p : Int))) (v := s0.v) (o := 32 * p) (q := 0) m2 (by omega) (by omega) (.inr (by omega)) (yK_n p a N hp ha _) a1 hv
    rw [← yK_succ] at a2
    exact a2
end
end Go.Proofs.Ytnonaagcnenbdaa

/- FnScryptRoad: the plain law. -/
import Derived.Test.YtnonaagcnenbdaaR1Rl
namespace Go.Proofs.Ytnonaagcnenbdaa
open Go.Eng blockRoad
set_option linter.unusedSectionVars false
variable [RowAddr]
theorem mix_BM (p : Nat) (hp : 1 ≤ p) (v : Vec 32) (hv : v.n = 32 * p) : mixV v 0 (32 * (p : Int)).toNat p = BMw p v := by
  rw [mix_road v 0 _ p (by omega) (by omega), pR]; rfl
theorem xr_xW (p : Nat) (v R : Vec 32) : xrV v R p = xW (32 * p) v R := by
  unfold xrV
  rw [pR]
  refine gW_ext (xoS_n _ _ _ _) fun j hj => ?_
  have hj : j < 32 * p := by
    have : (xoS v R (Vec.zero 32 (32 * p)) (32 * p)).n = 32 * p := xoS_n _ _ _ _
    omega
  rw [xoS_get v R _ (32 * p) (Nat.le_refl _) j hj, xW_get _ _ _ _ hj]
theorem kI_key (p : Nat) (hp : 1 ≤ p) (v : Vec 32) (N : Int) (h1 : 2 ≤ N) (h2 : N ≤ 1000000) : (kI v p N).toNat = keyW v p N := by
  unfold kI keyW
  rw [(andV_nat _ N (by omega) h2).1, Int.toNat_natCast]
  congr 1
  rw [show 0 + (32 * (p : Int) - 16).toNat * 1 = 32 * p - 16 by omega]
  have eA := ofInt_nat (v.l.getD (32 * p - 16) 0#32).toNat _ rfl
  rw [eA]
  unfold keyB
  show (gW v (32 * p - 16)).setWidth 64 &&& _ = _
  generalize gW v (32 * p - 16) = A
  generalize (gW v (32 * p - 15)).setWidth 64 = B
  refine BitVec.eq_of_getLsbD_eq fun i hi => ?_
  rw [BitVec.getLsbD_and, BitVec.getLsbD_and, BitVec.getLsbD_or, BitVec.getLsbD_shiftLeft]
  by_cases g : i < 32
  · simp [g]
  · have hz : (BitVec.ofInt 64 (N - 1)).getLsbD i = false := by
      have ht : (BitVec.ofInt 64 (N - 1)).toNat < 2 ^ i := by
        have h32 : 2 ^ 32 ≤ 2 ^ i := Nat.pow_le_pow_right (by omega) (by omega)
        have : (BitVec.ofInt 64 (N - 1)).toNat < 2 ^ 32 := by
          rw [BitVec.toNat_ofInt]; omega
        omega
      exact Nat.testBit_lt_two_pow ht
    rw [hz, Bool.and_false, Bool.and_false]
theorem kr_iter (p : Nat) (hp : 1 ≤ p) (b : Vec 8) (x : Vec 32) (hx : x.n = 32 * p) (nb : Nat) (N : Int) : ∀ K : Nat, iter krNext K ⟨b, x, nb, 0, p, N, 0⟩ = ⟨b, wK p x K, nb, K, p, N, (K : Int)⟩
  | 0 => rfl
  | K + 1 => by
    rw [iter_succ, kr_iter p hp b x hx nb N K]
    show (⟨b, mixV (wK p x K) 0 (32 * (p : Int)).toNat p, nb, K + 1, p, N, (K : Int) + 1⟩ : KrD) = _
    rw [mix_BM p hp _ (wK_n p x hp hx K), wK_succ]
    rfl
theorem pr_iter (p : Nat) (hp : 1 ≤ p) (b : Vec 8) (x : Vec 32) (hx : x.n = 32 * p) (nb k : Nat) (N : Int) (h1 : 2 ≤ N) (h2 : N ≤ 1000000) : ∀ i : Nat, iter prNx i ⟨b, wK p x N.toNat, wK p x, nb, k, p, N, 0⟩ = ⟨b, yK p x N i, wK p x, nb, k, p, N, (i : Int)⟩
  | 0 => rfl
  | i + 1 => by
    rw [iter_succ, pr_iter p hp b x hx nb k N h1 h2 i, prNx_eq]
    have ek : prKey ⟨b, yK p x N i, wK p x, nb, k, p, N, (i : Int)⟩ = keyW (yK p x N i) p N := kI_key p hp _ N h1 h2
    rw [ek]
    show (⟨b, mixV (xrV (yK p x N i) (wK p x (keyW (yK p x N i) p N)) p) 0 (32 * (p : Int)).toNat p, wK p x, nb, k, p, N, (i : Int) + 1⟩ : PrD) = _
    rw [xr_xW, mix_BM p hp _ rfl, yK_succ]
    rfl
/-! Words read. -/
def fillI (b : Vec 8) (x : Vec 32) : Nat → Vec 32
  | 0 => x
  | m + 1 => (fillI b x m).set (0 + m) (leI b (m : Int))
theorem fillI_n (b : Vec 8) (x : Vec 32) : ∀ m, (fillI b x m).n = x.n
  | 0 => rfl
  | m + 1 => fillI_n b x m
theorem ra_it (b : Vec 8) (x : Vec 32) (nb R : Nat) (r N : Int) : ∀ m : Nat, iter ra_next m ⟨b, x, nb, R, r, N, 0⟩ = ⟨b, fillI b x m, nb, R, r, N, (m : Int)⟩
  | 0 => rfl
  | m + 1 => by
    rw [iter_succ, ra_it b x nb R r N m]
    show (⟨b, (fillI b x m).set (0 + ((m : Nat) : Int).toNat * 1) (leI b (m : Int)), nb, R, r, N, (m : Int) + 1⟩ : raD) = _
    rw [show 0 + ((m : Nat) : Int).toNat * 1 = 0 + m by omega, show (m : Int) + 1 = ((m + 1 : Nat) : Int) by omega]
    rfl
theorem leI_lw (b : Vec 8) (j : Nat) : leI b (j : Int) = lw b (4 * j) := by
  unfold leI lw lw4
  rw [show 0 + (4 * (j : Int)).toNat * 1 = 4 * j + 0 by omega, show 0 + (4 * (j : Int) + 1).toNat * 1 = 4 * j + 1 by omega, show 0 + (4 * (j : Int) + 2).toNat * 1 = 4 * j + 2 by omega, show 0 + (4 * (j : Int) + 3).toNat * 1 = 4 * j + 3 by omega]
theorem fillI_get (b : Vec 8) (x : Vec 32) : ∀ m : Nat, m ≤ x.n → ∀ j, j < m → gW (fillI b x m) j = lw b (4 * j)
  | 0, _, j, hj => by omega
  | m + 1, h, j, hj => by
    have hn : (fillI b x m).n = x.n := fillI_n b x m
    have e : gW (fillI b x (m + 1)) j = if j = 0 + m then leI b (m : Int) else gW (fillI b x m) j := set_getD _ _ _ _ (by omega)
    rw [e]
    by_cases g : j = m
    · subst g
      rw [if_pos (by omega), leI_lw]
    · rw [if_neg (by omega)]
      exact fillI_get b x m (by omega) j (by omega)
theorem fillI_words (b : Vec 8) (R : Nat) : fillI b (Vec.zero 32 R) R = wordsV b R := by
  refine gW_ext (fillI_n _ _ _) fun j hj => ?_
  have hj : j < R := by
    have : (fillI b (Vec.zero 32 R) R).n = R := fillI_n _ _ _
    omega
  rw [fillI_get b _ R (Nat.le_refl _) j hj, words_get _ _ _ hj]
def raI (b : Vec 8) (nb : Nat) (r N : Int) : raD := iter ra_next ((((32 * r).toNat : Nat) : Int) - 0).toNat ⟨b, Vec.zero 32 (32 * r).toNat, nb, (32 * r).toNat, r, N, 0⟩
theorem raI_eq (b : Vec 8) (nb : Nat) (r N : Int) : raI b nb r N = ⟨b, wordsV b (32 * r).toNat, nb, (32 * r).toNat, r, N, (((32 * r).toNat : Nat) : Int)⟩ := by
  unfold raI
  rw [show ((((32 * r).toNat : Nat) : Int) - 0).toNat = (32 * r).toNat by omega, ra_it, fillI_words]
end Go.Proofs.Ytnonaagcnenbdaa

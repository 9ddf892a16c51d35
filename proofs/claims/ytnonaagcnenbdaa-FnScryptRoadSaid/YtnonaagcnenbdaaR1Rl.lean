/- FnScryptRoad: rows kept and looked up: its loops, told. -/
import Derived.Test.YtnonaagcnenbdaaR1Rk
import Derived.Test.YtnonaagcnenbdaaR1MxB
namespace Go.Proofs.Ytnonaagcnenbdaa
open Go.Eng blockRoad
set_option linter.unusedSectionVars false
set_option linter.unusedSimpArgs false
variable [RowAddr]
def xoS (v R y : Vec 32) : Nat → Vec 32
  | 0 => y
  | m + 1 => (xoS v R y m).set (0 + m) (v.l.getD (0 + m) 0#32 ^^^ R.l.getD (0 + m) 0#32)
theorem xoS_n (v R y : Vec 32) : ∀ m, (xoS v R y m).n = y.n
  | 0 => rfl
  | m + 1 => xoS_n v R y m
theorem xoS_get (v R y : Vec 32) : ∀ m, m ≤ y.n → ∀ j, j < m → gW (xoS v R y m) j = gW v j ^^^ gW R j
  | 0, _, j, hj => by omega
  | m + 1, h, j, hj => by
    have hn : (xoS v R y m).n = y.n := xoS_n v R y m
    have e : gW (xoS v R y (m + 1)) j = if j = 0 + m then v.l.getD (0 + m) 0#32 ^^^ R.l.getD (0 + m) 0#32 else gW (xoS v R y m) j := set_getD _ _ _ _ (by omega)
    rw [e]
    by_cases g : j = m
    · subst g
      rw [if_pos (by omega), Nat.zero_add]; rfl
    · rw [if_neg (by omega)]
      exact xoS_get v R y m (by omega) j (by omega)
theorem rx_it (v R y : Vec 32) (nb A B C k : Nat) (r N i : Int) : ∀ m : Nat, iter rx_next m ⟨v, R, y, nb, A, B, C, k, r, N, i, 0⟩ = ⟨v, R, xoS v R y m, nb, A, B, C, k, r, N, i, (m : Int)⟩
  | 0 => rfl
  | m + 1 => by
    rw [iter_succ, rx_it v R y nb A B C k r N i m]
    show (⟨v, R, (xoS v R y m).set (0 + ((m : Nat) : Int).toNat * 1) (v.l.getD (0 + ((m : Nat) : Int).toNat * 1) 0#32 ^^^ R.l.getD (0 + ((m : Nat) : Int).toNat * 1) 0#32), nb, A, B, C, k, r, N, i, (m : Int) + 1⟩ : rxD) = _
    rw [show 0 + ((m : Nat) : Int).toNat * 1 = 0 + m by omega, show (m : Int) + 1 = ((m + 1 : Nat) : Int) by omega]
    rfl
def xrV (v R : Vec 32) (r : Int) : Vec 32 := xoS v R (Vec.zero 32 (32 * r).toNat) (32 * r).toNat
theorem xorI_eq (v R : Vec 32) (nb k : Nat) (r N i : Int) : xorI v R nb k r N i = ⟨v, R, xrV v R r, nb, (32 * r).toNat, (32 * r).toNat, (32 * r).toNat, k, r, N, i, (((32 * r).toNat : Nat) : Int)⟩ := by
  unfold xorI
  rw [show ((((32 * r).toNat : Nat) : Int) - 0).toNat = (32 * r).toNat by omega, rx_it]
  rfl
def krT : KeepL KrD where
  n0 := 1
  a := 1
  r := 3
  st := krSt
  mid := krMid
  fin := krSt
  row := fun d => .b32 d.v
  cnt := KrD.k
  next := krNext
  rem := fun d => (d.N - d.i).toNat
  good := fun d => decide (0 ≤ d.i ∧ d.i ≤ d.N ∧ d.N ≤ 1000000 ∧ (d.k : Int) = d.i ∧ d.v.n = (32 * d.r).toNat ∧ 1 ≤ d.r ∧ d.r ≤ 1000)
  out := .exit 2
theorem kr_body : RunOk Try.prog noGlob (nv 6) (ntmpsIn Try.prog 6) (loopIn Try.prog 6 1) (goL specsR ras 6 1) := goL_ok specsR_ok (ras_ok _) 6 1 fine6 (by rw [show (loopsIn Try.prog 6).length = 4 by kernel_rfl]; omega)
theorem pr_body : RunOk Try.prog noGlob (nv 6) (ntmpsIn Try.prog 6) (loopIn Try.prog 6 2) (goL specsR ras 6 2) := goL_ok specsR_ok (ras_ok _) 6 2 fine6 (by rw [show (loopsIn Try.prog 6).length = 4 by kernel_rfl]; omega)
theorem kr_told {βB β : Map} {HB : List Blk} {wB w : World} {a : Act} (d : KrD) (hgood : krT.good d = true) (hcnt0 : d.k = 0) (hdB : ∀ b L, βB b = some L → b < 1)
    (hF0 : FRel (nv 6) (ntmpsIn Try.prog 6) β (krSt d []).1 a) (hH0 : HRel noGlob β (krSt d []).2 w) (hS0 : Stq 1 βB HB wB β (krSt d []).2 w) (Q : Exit → Act → World → Prop)
    (hQ : ∀ a' w' β' l, l.length = (d.N - d.i).toNat → FRel (nv 6) (ntmpsIn Try.prog 6) β' (krSt (iter krNext (d.N - d.i).toNat d) l).1 a' → HRel noGlob β' (krSt (iter krNext (d.N - d.i).toNat d) l).2 w' → Stq 1 βB HB wB β' (krSt (iter krNext (d.N - d.i).toNat d) l).2 w' →
      Fam β' (krSt (iter krNext (d.N - d.i).toNat d) l).2 w' l (fun K => .b32 (iter krNext K d).v) → Q (.exit 2) a' w') : (Code.loop (loopIn Try.prog 6 1)).wp Try.prog Q a w := by
  refine krT.told kr_body (by intro h; cases h) (fun d l hg => ?_) (fun d l => ⟨by show 1 ≤ 4; omega, by show 1 ≤ 4; omega⟩) (fun d l v => ⟨none, rfl, rfl⟩) (fun d l k hg hl hr => ?_) (fun d l hg hr => ?_) d hgood hcnt0 hdB hF0 hH0 hS0 Q hQ
  · obtain ⟨g1, g2, g3, g4, g5, g6, g7⟩ := of_decide_eq_true hg
    exact ⟨⟨.s (32 * d.r).toNat, g5.symm, rfl⟩, rfl, wordD32 _, by show 0 < d.v.n; omega⟩
  · obtain ⟨b, v, nb, kk, r, N, i⟩ := d
    obtain ⟨g1, g2, g3, g4, g5, g6, g7⟩ := of_decide_eq_true hg
    have g1 : 0 ≤ i := g1
    have g2 : i ≤ N := g2
    have g3 : N ≤ 1000000 := g3
    have g4 : (kk : Int) = i := g4
    have g5 : v.n = (32 * r).toNat := g5
    have g6 : 1 ≤ r := g6
    have g7 : r ≤ 1000 := g7
    have hr : (N - i).toNat = k + 1 := hr
    have hl : l.length = kk := hl
    have hb := mixV_n v 0 (32 * r).toNat r
    refine ⟨rfl, ⟨[true, false], some [0, 5, 6, 2], _, kr_round b v l nb kk r N i, ?_⟩, ?_, ?_⟩
    · repeat' (refine all_true_cons ?_ ?_)
      all_goals first | exact all_true_nil | rfl | (simp only [Bool.and_eq_true, decide_eq_true_eq, beq_iff_eq, beq_true, beq_false, Bool.not_eq_true', decide_eq_false_iff_not, beq_eq_false_iff_ne, ne_eq, Bool.not_eq_false', bne_iff_ne, true_and, and_true]; omega)
    · show decide _ = true
      refine decide_eq_true ⟨?_, ?_, g3, ?_, hb, g6, g7⟩
      · show 0 ≤ i + 1; omega
      · show i + 1 ≤ N; omega
      · show ((kk + 1 : Nat) : Int) = i + 1; omega
    · show (N - (i + 1)).toNat = k
      omega
  · obtain ⟨b, v, nb, kk, r, N, i⟩ := d
    obtain ⟨g1, g2, g3, g4, g5, g6, g7⟩ := of_decide_eq_true hg
    have g1 : 0 ≤ i := g1
    have hr : (N - i).toNat = 0 := hr
    refine ⟨[false], none, _, kr_end b v l nb kk r N i, ?_⟩
    repeat' (refine all_true_cons ?_ ?_)
    all_goals first | exact all_true_nil | rfl | (simp only [Bool.and_eq_true, decide_eq_true_eq, beq_iff_eq, beq_true, beq_false, Bool.not_eq_true', decide_eq_false_iff_not, beq_eq_false_iff_ne, ne_eq, Bool.not_eq_false', bne_iff_ne, true_and, and_true]; omega)
/-- Which row is wanted. -/
def kI (v : Vec 32) (r N : Int) : Int := andV .i64 (((v.l.getD (0 + (32 * r - 16).toNat * 1) 0#32).toNat : Nat) : Int) (N - 1)
theorem kI_lt (v : Vec 32) (r N : Int) (h1 : 1 ≤ N) (h2 : N ≤ 1000000) : 0 ≤ kI v r N ∧ kI v r N < N := by
  obtain ⟨e1, e2⟩ := andV_nat (((v.l.getD (0 + (32 * r - 16).toNat * 1) 0#32).toNat : Nat) : Int) N h1 h2
  refine ⟨?_, e2⟩
  unfold kI
  rw [e1]; omega
def prKey (d : PrD) : Nat := (kI d.v d.r d.N).toNat
def prNx (d : PrD) : PrD := prNext d (d.F (prKey d))
theorem prNx_eq (d : PrD) : prNx d = ⟨d.b, mixV (xrV d.v (d.F (prKey d)) d.r) 0 (32 * d.r).toNat d.r, d.F, d.nb, d.k, d.r, d.N, d.i + 1⟩ := by
  unfold prNx prNext
  rw [xorI_eq]
def prGood (d : PrD) : Prop := 0 ≤ d.i ∧ d.i ≤ d.N ∧ 2 ≤ d.N ∧ d.N ≤ 1000000 ∧ (d.k : Int) = d.N ∧ d.v.n = (32 * d.r).toNat ∧ 1 ≤ d.r ∧ d.r ≤ 1000 ∧ ∀ K : Nat, (K : Int) < d.N → (d.F K).n = (32 * d.r).toNat
noncomputable instance (d : PrD) : Decidable (prGood d) := Classical.propDecidable _
noncomputable def prT : PickL PrD where
  n1 := 2
  a := 1
  st := prSt
  up := fun d => prUp d (prKey d) (d.F (prKey d))
  key := prKey
  len := PrD.k
  fam := fun d K => .b32 (d.F K)
  fin := prSt
  next := prNx
  rem := fun d => (d.N - d.i).toNat
  good := fun d => decide (prGood d)
  out := .exit 4
theorem pr_told {n0 : Nat} (hn : n0 ≤ 2) {βB β : Map} {HB : List Blk} {wB w : World} {a : Act} (d : PrD) (hgood : prGood d) (hdB : ∀ b L, βB b = some L → b < n0) {l : List Value} (hl : l.length = d.k)
    (hF0 : FRel (nv 6) (ntmpsIn Try.prog 6) β (prSt d).1 a) (hH0 : HRel noGlob β (prSt d).2 w) (hS0 : Stq n0 βB HB wB β (prSt d).2 w) (hk0 : KeptAt β (prSt d).2 w 1 l) (hf0 : ∀ K, K < l.length → ∀ v, l[K]? = some v → RowAt β (prSt d).2 w v (.b32 (d.F K))) (Q : Exit → Act → World → Prop)
    (hQ : ∀ a' w' β', FRel (nv 6) (ntmpsIn Try.prog 6) β' (prSt (iter prNx (d.N - d.i).toNat d)).1 a' → HRel noGlob β' (prSt (iter prNx (d.N - d.i).toNat d)).2 w' → Stq n0 βB HB wB β' (prSt (iter prNx (d.N - d.i).toNat d)).2 w' → Q (.exit 4) a' w') : (Code.loop (loopIn Try.prog 6 2)).wp Try.prog Q a w := by
  refine prT.told pr_body (by intro h; cases h) (by show 1 < 2; omega) (fun d => ⟨⟨_, rfl⟩, by show 2 ≤ 4; omega, fun hg => ?_⟩) (fun d k hg hr => ?_) (fun d hg hr => ?_) hn d (decide_eq_true (p := prGood d) hgood) hdB hl hF0 hH0 hS0 hk0 hf0 Q hQ
  · obtain ⟨g1, g2, g3, g4, g5, g6, g7, g8, g9⟩ : prGood d := of_decide_eq_true hg
    have hk := kI_lt d.v d.r d.N (by omega) (by omega)
    exact ⟨.s (32 * d.r).toNat, (g9 (prKey d) (by show (((kI d.v d.r d.N).toNat : Nat) : Int) < d.N; omega)).symm, rfl⟩
  · have hgg : prGood d := of_decide_eq_true hg
    have hnx := prNx_eq d
    obtain ⟨b, v, F, nb, kk, r, N, i⟩ := d
    obtain ⟨g1, g2, g3, g4, g5, g6, g7, g8, g9⟩ := hgg
    have g1 : 0 ≤ i := g1
    have g2 : i ≤ N := g2
    have g3 : 2 ≤ N := g3
    have g4 : N ≤ 1000000 := g4
    have g5 : (kk : Int) = N := g5
    have g6 : v.n = (32 * r).toNat := g6
    have g7 : 1 ≤ r := g7
    have g8 : r ≤ 1000 := g8
    have hr : (N - i).toNat = k + 1 := hr
    obtain ⟨hk1, hk2⟩ := kI_lt v r N (by omega) (by omega)
    have hkey : prKey ⟨b, v, F, nb, kk, r, N, i⟩ = (kI v r N).toNat := rfl
    have hR : (F (prKey ⟨b, v, F, nb, kk, r, N, i⟩)).n = (32 * r).toNat := g9 (prKey ⟨b, v, F, nb, kk, r, N, i⟩) (by rw [hkey]; show (((kI v r N).toNat : Nat) : Int) < N; omega)
    have hb := mixV_n (xrV v (F (prKey ⟨b, v, F, nb, kk, r, N, i⟩)) r) 0 (32 * r).toNat r
    have hnext : prGood (prNx ⟨b, v, F, nb, kk, r, N, i⟩) := by
      rw [hnx]
      exact ⟨by show 0 ≤ i + 1; omega, by show i + 1 ≤ N; omega, g3, g4, g5, hb, g7, g8, g9⟩
    have hxn : (xrV v (F (prKey ⟨b, v, F, nb, kk, r, N, i⟩)) r).n = (32 * r).toNat := xoS_n _ _ _ _
    refine ⟨⟨[true, false], some [0, 1, 6, 3], _, pr_round b v (F (prKey ⟨b, v, F, nb, kk, r, N, i⟩)) F nb kk (prKey ⟨b, v, F, nb, kk, r, N, i⟩) r N i, ?_⟩, by rw [show prT.key _ = _ from hkey]; show (kI v r N).toNat < kk; omega, decide_eq_true (p := prGood _) hnext, ?_, ?_, ?_⟩
    · have hk3 : (kI v r N).toNat < kk := by omega
      have hk4 : 0 + (kI v r N).toNat * 1 = (kI v r N).toNat := by omega
      rw [xorI_eq]
      rw [hkey] at hR hxn ⊢
      unfold kI at hk1 hk2 hk3 hk4 hR hxn ⊢
      repeat' (refine all_true_cons ?_ ?_)
      all_goals first | exact all_true_nil | rfl | (simp only [hxn, Bool.and_eq_true, decide_eq_true_eq, beq_iff_eq, beq_true, beq_false, Bool.not_eq_true', decide_eq_false_iff_not, beq_eq_false_iff_ne, ne_eq, Bool.not_eq_false', bne_iff_ne, true_and, and_true]; omega)
    · show ((prNx ⟨b, v, F, nb, kk, r, N, i⟩).N - (prNx ⟨b, v, F, nb, kk, r, N, i⟩).i).toNat = k
      rw [hnx]
      show (N - (i + 1)).toNat = k
      omega
    · show (fun K => Data.b32 ((prNx ⟨b, v, F, nb, kk, r, N, i⟩).F K)) = _
      rw [hnx]; rfl
    · show (prNx ⟨b, v, F, nb, kk, r, N, i⟩).k = kk
      rw [hnx]
  · have hgg : prGood d := of_decide_eq_true hg
    obtain ⟨b, v, F, nb, kk, r, N, i⟩ := d
    obtain ⟨g1, g2, g3, g4, g5, g6, g7, g8, g9⟩ := hgg
    have g1 : 0 ≤ i := g1
    have hr : (N - i).toNat = 0 := hr
    refine ⟨[false], none, _, pr_end b v F nb kk r N i, ?_⟩
    repeat' (refine all_true_cons ?_ ?_)
    all_goals first | exact all_true_nil | rfl | (simp only [Bool.and_eq_true, decide_eq_true_eq, beq_iff_eq, beq_true, beq_false, Bool.not_eq_true', decide_eq_false_iff_not, beq_eq_false_iff_ne, ne_eq, Bool.not_eq_false', bne_iff_ne, true_and, and_true]; omega)
end Go.Proofs.Ytnonaagcnenbdaa

/- The reference's mix: its two loops, and its contract. -/
import Derived.Test.YtnonaagcnenbdaaR1Mx
namespace Go.Proofs.Ytnonaagcnenbdaa
open Go.Eng
set_option linter.unusedSectionVars false
set_option linter.unusedSimpArgs false
variable [RowAddr]
theorem andV_nat (x N : Int) (h1 : 1 ≤ N) (h2 : N ≤ 1000000) : andV .i64 x (N - 1) = (((BitVec.ofInt 64 x &&& BitVec.ofInt 64 (N - 1)).toNat : Nat) : Int) ∧ andV .i64 x (N - 1) < N := by
  obtain ⟨n, rfl⟩ := Int.eq_ofNat_of_zero_le (show 0 ≤ N by omega)
  have e : (BitVec.ofInt 64 ((n : Int) - 1)).toNat = n - 1 := by
    rw [BitVec.toNat_ofInt]
    omega
  have h : (BitVec.ofInt 64 x &&& BitVec.ofInt 64 ((n : Int) - 1)).toNat ≤ n - 1 := by
    rw [BitVec.toNat_and, e]
    exact Nat.and_le_right
  have hw : andV .i64 x ((n : Int) - 1) = (((BitVec.ofInt 64 x &&& BitVec.ofInt 64 ((n : Int) - 1)).toNat : Nat) : Int) := by
    unfold andV
    exact wrap_in .i64 _ (by show (-9223372036854775808 : Int) ≤ _; omega) (by show _ ≤ (9223372036854775807 : Int); show (((BitVec.ofInt 64 x &&& BitVec.ofInt 64 ((n : Int) - 1)).toNat : Nat) : Int) ≤ 9223372036854775807; omega)
  refine ⟨hw, ?_⟩
  rw [hw]; omega
/-- Which row the last block of some bytes points to. -/
def keyI (v : Vec 8) (nb : Nat) (N : Int) : Int := andV .i64 (orV .i64 (((lw v (0 + (((nb : Nat) : Int) - 64).toNat)).toNat : Nat) : Int) (shlV .i64 (((lw v (0 + (((nb : Nat) : Int) - 64 + 4).toNat)).toNat : Nat) : Int) 32)) (N - 1)
def keyV (v : Vec 8) (nb : Nat) (N : Int) : Nat := (keyI v nb N).toNat
theorem keyI_lt (v : Vec 8) (nb : Nat) (N : Int) (h1 : 1 ≤ N) (h2 : N ≤ 1000000) : 0 ≤ keyI v nb N ∧ keyI v nb N < N := by
  obtain ⟨e1, e2⟩ := andV_nat (orV .i64 (((lw v (0 + (((nb : Nat) : Int) - 64).toNat)).toNat : Nat) : Int) (shlV .i64 (((lw v (0 + (((nb : Nat) : Int) - 64 + 4).toNat)).toNat : Nat) : Int) 32)) N h1 h2
  refine ⟨?_, e2⟩
  unfold keyI
  rw [e1]; omega
def mkT : KeepL MkD where
  n0 := 1
  a := 1
  r := 3
  st := mkSt
  mid := mkMid
  fin := mkSt
  row := fun d => .b8 d.v
  cnt := MkD.k
  next := mkNext
  rem := fun d => (d.N - d.i).toNat
  good := fun d => decide (0 ≤ d.i ∧ d.i ≤ d.N ∧ d.N ≤ 1000000 ∧ (d.k : Int) = d.i ∧ d.v.n = d.nb ∧ d.nb % 128 = 0 ∧ 128 ≤ d.nb ∧ d.nb ≤ 64000000)
  out := .exit 0
theorem mk_body : RunOk Try.prog noGlob (nv 20) (ntmpsIn Try.prog 20) (loopIn Try.prog 20 0) (goL specs20 noLoop 20 0) := goL_ok specs20_ok (no_loops _) 20 0 fine20 (by rw [show (loopsIn Try.prog 20).length = 2 by kernel_rfl]; omega)
theorem pk_body : RunOk Try.prog noGlob (nv 20) (ntmpsIn Try.prog 20) (loopIn Try.prog 20 1) (goL specs20 noLoop 20 1) := goL_ok specs20_ok (no_loops _) 20 1 fine20 (by rw [show (loopsIn Try.prog 20).length = 2 by kernel_rfl]; omega)
theorem mk_told {βB β : Map} {HB : List Blk} {wB w : World} {a : Act} (d : MkD) (hgood : mkT.good d = true) (hcnt0 : d.k = 0) (hdB : ∀ b L, βB b = some L → b < 1)
    (hF0 : FRel (nv 20) (ntmpsIn Try.prog 20) β (mkSt d []).1 a) (hH0 : HRel noGlob β (mkSt d []).2 w) (hS0 : Stq 1 βB HB wB β (mkSt d []).2 w) (Q : Exit → Act → World → Prop)
    (hQ : ∀ a' w' β' l, l.length = (d.N - d.i).toNat → FRel (nv 20) (ntmpsIn Try.prog 20) β' (mkSt (iter mkNext (d.N - d.i).toNat d) l).1 a' → HRel noGlob β' (mkSt (iter mkNext (d.N - d.i).toNat d) l).2 w' → Stq 1 βB HB wB β' (mkSt (iter mkNext (d.N - d.i).toNat d) l).2 w' →
      Fam β' (mkSt (iter mkNext (d.N - d.i).toNat d) l).2 w' l (fun K => .b8 (iter mkNext K d).v) → Q (.exit 0) a' w') : (Code.loop (loopIn Try.prog 20 0)).wp Try.prog Q a w := by
  refine mkT.told mk_body (by intro h; cases h) (fun d l hg => ?_) (fun d l => ⟨by show 1 ≤ 4; omega, by show 1 ≤ 4; omega⟩) (fun d l v => ⟨none, rfl, rfl⟩) (fun d l k hg hl hr => ?_) (fun d l hg hr => ?_) d hgood hcnt0 hdB hF0 hH0 hS0 Q hQ
  · obtain ⟨g1, g2, g3, g4, g5, g6, g7, g8⟩ := of_decide_eq_true hg
    exact ⟨⟨.s d.nb, g5.symm, rfl⟩, rfl, wordD8 _, by show 0 < d.v.n; omega⟩
  · obtain ⟨b, v, nb, kk, N, i⟩ := d
    obtain ⟨g1, g2, g3, g4, g5, g6, g7, g8⟩ := of_decide_eq_true hg
    have g1 : 0 ≤ i := g1
    have g2 : i ≤ N := g2
    have g3 : N ≤ 1000000 := g3
    have g4 : (kk : Int) = i := g4
    have g5 : v.n = nb := g5
    have g6 : nb % 128 = 0 := g6
    have g7 : 128 ≤ nb := g7
    have g8 : nb ≤ 64000000 := g8
    have hr : (N - i).toNat = k + 1 := hr
    have hl : l.length = kk := hl
    have hb := bm8_n v 0 nb g6 g7 g8 (by omega)
    refine ⟨rfl, ⟨[true], some [0, 5, 6, 2], _, mk_round b v l nb kk N i, ?_⟩, ?_, ?_⟩
    · repeat' (refine all_true_cons ?_ ?_)
      all_goals first | exact all_true_nil | rfl | (simp only [Bool.and_eq_true, decide_eq_true_eq, beq_iff_eq, beq_true, beq_false, Bool.not_eq_true', decide_eq_false_iff_not, beq_eq_false_iff_ne, ne_eq, Bool.not_eq_false', bne_iff_ne, true_and, and_true]; omega)
    · show decide _ = true
      refine decide_eq_true ⟨?_, ?_, g3, ?_, hb, g6, g7, g8⟩
      · show 0 ≤ i + 1; omega
      · show i + 1 ≤ N; omega
      · show ((kk + 1 : Nat) : Int) = i + 1; omega
    · show (N - (i + 1)).toNat = k
      omega
  · obtain ⟨b, v, nb, kk, N, i⟩ := d
    obtain ⟨g1, g2, g3, g4, g5, g6, g7, g8⟩ := of_decide_eq_true hg
    have g1 : 0 ≤ i := g1
    have hr : (N - i).toNat = 0 := hr
    refine ⟨[false], none, _, mk_end b v l nb kk N i, ?_⟩
    repeat' (refine all_true_cons ?_ ?_)
    all_goals first | exact all_true_nil | rfl | (simp only [Bool.and_eq_true, decide_eq_true_eq, beq_iff_eq, beq_true, beq_false, Bool.not_eq_true', decide_eq_false_iff_not, beq_eq_false_iff_ne, ne_eq, Bool.not_eq_false', bne_iff_ne, true_and, and_true]; omega)
def pkKey (d : PkD) : Nat := keyV d.v d.nb d.N
def pkNx (d : PkD) : PkD := pkNext d (d.F (pkKey d))
def modeOk (m : Eng.Mode) (i : Int) : Prop := m = .own ∨ (m = .ro ∧ i = 0)
def pkGood (d : PkD) : Prop := 0 ≤ d.i ∧ d.i ≤ d.N ∧ 2 ≤ d.N ∧ d.N ≤ 1000000 ∧ (d.k : Int) = d.N ∧ d.v.n = d.nb ∧ d.nb % 128 = 0 ∧ 128 ≤ d.nb ∧ d.nb ≤ 64000000 ∧ modeOk d.m d.i ∧ ∀ K : Nat, (K : Int) < d.N → (d.F K).n = d.nb
noncomputable instance (d : PkD) : Decidable (pkGood d) := Classical.propDecidable _
noncomputable def pkT : PickL PkD where
  n1 := 2
  a := 1
  st := pkSt
  up := fun d => pkUp d (pkKey d) (d.F (pkKey d))
  key := pkKey
  len := PkD.k
  fam := fun d K => .b8 (d.F K)
  fin := pkSt
  next := pkNx
  rem := fun d => (d.N - d.i).toNat
  good := fun d => decide (pkGood d)
  out := .exit 2
theorem pk_told {n0 : Nat} (hn : n0 ≤ 2) {βB β : Map} {HB : List Blk} {wB w : World} {a : Act} (d : PkD) (hgood : pkGood d) (hdB : ∀ b L, βB b = some L → b < n0) {l : List Value} (hl : l.length = d.k)
    (hF0 : FRel (nv 20) (ntmpsIn Try.prog 20) β (pkSt d).1 a) (hH0 : HRel noGlob β (pkSt d).2 w) (hS0 : Stq n0 βB HB wB β (pkSt d).2 w) (hk0 : KeptAt β (pkSt d).2 w 1 l) (hf0 : ∀ K, K < l.length → ∀ v, l[K]? = some v → RowAt β (pkSt d).2 w v (.b8 (d.F K))) (Q : Exit → Act → World → Prop)
    (hQ : ∀ a' w' β', FRel (nv 20) (ntmpsIn Try.prog 20) β' (pkSt (iter pkNx (d.N - d.i).toNat d)).1 a' → HRel noGlob β' (pkSt (iter pkNx (d.N - d.i).toNat d)).2 w' → Stq n0 βB HB wB β' (pkSt (iter pkNx (d.N - d.i).toNat d)).2 w' → Q (.exit 2) a' w') : (Code.loop (loopIn Try.prog 20 1)).wp Try.prog Q a w := by
  refine pkT.told pk_body (by intro h; cases h) (by show 1 < 2; omega) (fun d => ⟨⟨_, rfl⟩, by show 2 ≤ 4; omega, fun hg => ?_⟩) (fun d k hg hr => ?_) (fun d hg hr => ?_) hn d (decide_eq_true (p := pkGood d) hgood) hdB hl hF0 hH0 hS0 hk0 hf0 Q hQ
  · obtain ⟨g1, g2, g3, g4, g5, g6, g7, g8, g9, g10, g11⟩ : pkGood d := of_decide_eq_true hg
    have hk := keyI_lt d.v d.nb d.N (by omega) (by omega)
    exact ⟨.s d.nb, (g11 (pkKey d) (by show (((keyI d.v d.nb d.N).toNat : Nat) : Int) < d.N; omega)).symm, rfl⟩
  · have hgg : pkGood d := of_decide_eq_true hg
    obtain ⟨b, v, m, F, nb, kk, N, i⟩ := d
    obtain ⟨g1, g2, g3, g4, g5, g6, g7, g8, g9, g10, g11⟩ := hgg
    have g1 : 0 ≤ i := g1
    have g2 : i ≤ N := g2
    have g3 : 2 ≤ N := g3
    have g4 : N ≤ 1000000 := g4
    have g5 : (kk : Int) = N := g5
    have g6 : v.n = nb := g6
    have g7 : nb % 128 = 0 := g7
    have g8 : 128 ≤ nb := g8
    have g9 : nb ≤ 64000000 := g9
    have hr : (N - i).toNat = k + 1 := hr
    obtain ⟨hk1, hk2⟩ := keyI_lt v nb N (by omega) (by omega)
    have hkey : pkKey ⟨b, v, m, F, nb, kk, N, i⟩ = (keyI v nb N).toNat := rfl
    have hR : (F (pkKey ⟨b, v, m, F, nb, kk, N, i⟩)).n = nb := g11 (pkKey ⟨b, v, m, F, nb, kk, N, i⟩) (by rw [hkey]; show (((keyI v nb N).toNat : Nat) : Int) < N; omega)
    have hx : (xoV v 0 (F (pkKey ⟨b, v, m, F, nb, kk, N, i⟩)) 0 nb).n = nb := rfl
    have hb := bm8_n (xoV v 0 (F (pkKey ⟨b, v, m, F, nb, kk, N, i⟩)) 0 nb) 0 nb g7 g8 g9 (by omega)
    have hw1 := (lw v (0 + (((nb : Nat) : Int) - 64).toNat)).isLt
    have hw2 := (lw v (0 + (((nb : Nat) : Int) - 64 + 4).toNat)).isLt
    have hnext : pkGood (pkNx ⟨b, v, m, F, nb, kk, N, i⟩) := ⟨by show 0 ≤ i + 1; omega, by show i + 1 ≤ N; omega, g3, g4, g5, hb, g7, g8, g9, .inl rfl, g11⟩
    refine ⟨?_, by rw [show pkT.key _ = _ from hkey]; show (keyI v nb N).toNat < kk; omega, decide_eq_true (p := pkGood _) hnext, by show (N - (i + 1)).toNat = k; omega, rfl, rfl⟩
    have hk3 : (keyI v nb N).toNat < kk := by omega
    have hk4 : 0 + (keyI v nb N).toNat * 1 = (keyI v nb N).toNat := by omega
    have g10 : modeOk m i := g10
    rcases g10 with rfl | ⟨rfl, _⟩
    · refine ⟨[true], some [0, 1, 6, 3], _, pk_own b v (F (pkKey ⟨b, v, .own, F, nb, kk, N, i⟩)) F nb kk (pkKey ⟨b, v, .own, F, nb, kk, N, i⟩) N i, ?_⟩
      rw [hkey] at hR ⊢
      unfold keyI at hk1 hk2 hk3 hk4 hR ⊢
      repeat' (refine all_true_cons ?_ ?_)
      all_goals first | exact all_true_nil | rfl | (simp only [Bool.and_eq_true, decide_eq_true_eq, beq_iff_eq, beq_true, beq_false, Bool.not_eq_true', decide_eq_false_iff_not, beq_eq_false_iff_ne, ne_eq, Bool.not_eq_false', bne_iff_ne, true_and, and_true]; omega)
    · refine ⟨[true], some [0, 1, 6, 3], _, pk_ro b v (F (pkKey ⟨b, v, .ro, F, nb, kk, N, i⟩)) F nb kk (pkKey ⟨b, v, .ro, F, nb, kk, N, i⟩) N i, ?_⟩
      rw [hkey] at hR ⊢
      unfold keyI at hk1 hk2 hk3 hk4 hR ⊢
      repeat' (refine all_true_cons ?_ ?_)
      all_goals first | exact all_true_nil | rfl | (simp only [Bool.and_eq_true, decide_eq_true_eq, beq_iff_eq, beq_true, beq_false, Bool.not_eq_true', decide_eq_false_iff_not, beq_eq_false_iff_ne, ne_eq, Bool.not_eq_false', bne_iff_ne, true_and, and_true]; omega)
  · have hgg : pkGood d := of_decide_eq_true hg
    obtain ⟨b, v, m, F, nb, kk, N, i⟩ := d
    obtain ⟨g1, g2, g3, g4, g5, g6, g7, g8, g9, g10, g11⟩ := hgg
    have g1 : 0 ≤ i := g1
    have g3 : 2 ≤ N := g3
    have hr : (N - i).toNat = 0 := hr
    have g10 : modeOk m i := g10
    rcases g10 with rfl | ⟨rfl, g10⟩
    · refine ⟨[false], none, _, pk_end b v F nb kk N i, ?_⟩
      repeat' (refine all_true_cons ?_ ?_)
      all_goals first | exact all_true_nil | rfl | (simp only [Bool.and_eq_true, decide_eq_true_eq, beq_iff_eq, beq_true, beq_false, Bool.not_eq_true', decide_eq_false_iff_not, beq_eq_false_iff_ne, ne_eq, Bool.not_eq_false', bne_iff_ne, true_and, and_true]; omega)
    · omega
end Go.Proofs.Ytnonaagcnenbdaa

/- RIPEMD-160: what is written piece by piece, in plain words. -/
import Derived.Test.YtaklljigoajpcaaDoorR3S
namespace Go.Proofs.YtaklljigoajpcaaDoor
open Go.Eng
set_option linter.unusedSectionVars false
set_option linter.unusedSimpArgs false
set_option linter.unusedVariables false
variable [RowAddr]
theorem wrd_eq (v u : Vec 8) (o p : Nat) (h : ∀ i, i < 64 → v.l.getD (o + i) 0#8 = u.l.getD (p + i) 0#8) : wrd v o = wrd u p := by
  unfold wrd
  simp only [h 0 (by omega), h 1 (by omega), h 2 (by omega), h 3 (by omega), h 4 (by omega), h 5 (by omega), h 6 (by omega), h 7 (by omega), h 8 (by omega), h 9 (by omega), h 10 (by omega), h 11 (by omega), h 12 (by omega), h 13 (by omega), h 14 (by omega), h 15 (by omega), h 16 (by omega), h 17 (by omega), h 18 (by omega), h 19 (by omega), h 20 (by omega), h 21 (by omega), h 22 (by omega), h 23 (by omega), h 24 (by omega), h 25 (by omega), h 26 (by omega), h 27 (by omega), h 28 (by omega), h 29 (by omega), h 30 (by omega), h 31 (by omega), h 32 (by omega), h 33 (by omega), h 34 (by omega), h 35 (by omega), h 36 (by omega), h 37 (by omega), h 38 (by omega), h 39 (by omega), h 40 (by omega), h 41 (by omega), h 42 (by omega), h 43 (by omega), h 44 (by omega), h 45 (by omega), h 46 (by omega), h 47 (by omega), h 48 (by omega), h 49 (by omega), h 50 (by omega), h 51 (by omega), h 52 (by omega), h 53 (by omega), h 54 (by omega), h 55 (by omega), h 56 (by omega), h 57 (by omega), h 58 (by omega), h 59 (by omega), h 60 (by omega), h 61 (by omega), h 62 (by omega), h 63 (by omega)]
theorem all_eq (h : W5) (v u : Vec 8) (o p : Nat) : ∀ k : Nat, (∀ i, i < 64 * k → v.l.getD (o + i) 0#8 = u.l.getD (p + i) 0#8) → ripAll h v o k = ripAll h u p k
  | 0, _ => rfl
  | k + 1, H => by
    unfold ripAll
    rw [all_eq h v u o p k (fun i hi => H i (by omega)), wrd_eq v u (o + 64 * k) (p + 64 * k) (fun i hi => by rw [Nat.add_assoc, Nat.add_assoc]; exact H _ (by omega))]
theorem all_add (h : W5) (v : Vec 8) (o k : Nat) : ∀ m : Nat, ripAll h v o (k + m) = ripAll (ripAll h v o k) v (o + 64 * k) m
  | 0 => rfl
  | m + 1 => by
    show rip5 (ripAll h v o (k + m)) (wrd v (o + 64 * (k + m))) = rip5 (ripAll (ripAll h v o k) v (o + 64 * k) m) (wrd v (o + 64 * k + 64 * m))
    rw [all_add h v o k m, show o + 64 * (k + m) = o + 64 * k + 64 * m by omega]
theorem cpv_get (x : Vec 8) (i : Nat) (hi : i < 64) : (cpv x).l.getD i 0#8 = x.l.getD i 0#8 := by
  show ((List.range 64).map fun i => x.l.getD i 0#8).getD i 0#8 = _
  simp [List.getD_eq_getElem?_getD, hi]
theorem set_get (x : Vec 8) (j : Nat) (y : BitVec 8) (i : Nat) (hx : x.n = 64) (hi : i < 64) : (x.set j y).l.getD i 0#8 = if j = i then y else x.l.getD i 0#8 := by
  have hl := x.h
  show (x.l.set j y).getD i 0#8 = _
  rw [List.getD_eq_getElem?_getD, List.getD_eq_getElem?_getD, List.getElem?_set]
  split
  · rw [if_pos (by omega)]; rfl
  · rfl
theorem fill_get (xb v : Vec 8) (nx : Nat) (o : Nat) : ∀ k : Nat, nx + k ≤ 64 → ∀ i, i < 64 → (fillX xb v (nx : Int) o k).l.getD i 0#8 = if nx ≤ i ∧ i < nx + k then v.l.getD (o + (i - nx)) 0#8 else xb.l.getD i 0#8
  | 0, _, i, hi => by
    rw [if_neg (by omega)]
    exact cpv_get xb i hi
  | k + 1, hk, i, hi => by
    show ((cpv (fillX xb v nx o k)).set (5 + ((nx : Int) + (k : Int)).toNat * 1 - 5) (v.l.getD (o + (k : Int).toNat * 1) 0#8)).l.getD i 0#8 = _
    rw [set_get _ _ _ _ rfl hi, cpv_get _ i hi, fill_get xb v nx o k (by omega) i hi, show 5 + ((nx : Int) + (k : Int)).toNat * 1 - 5 = nx + k by omega, show (k : Int).toNat * 1 = k by omega]
    by_cases e : nx + k = i
    · rw [if_pos e, if_pos (by omega), show i - nx = k by omega]
    · rw [if_neg e]
      by_cases e2 : nx ≤ i ∧ i < nx + k
      · rw [if_pos e2, if_pos (by omega)]
      · rw [if_neg e2, if_neg (by omega)]
theorem tl_get (xb v : Vec 8) (o np i : Nat) (ho : o + np ≤ v.n) (hi : i < np % 64) : (tlX xb v o np).l.getD i 0#8 = v.l.getD (o + 64 * (np / 64) + i) 0#8 := by
  have ht : tlN np = np % 64 := by
    have : tlN np = min (np - 64 * (np / 64)) 64 := rfl
    omega
  have hv := v.h
  unfold tlX
  rw [ht]
  show (setL (cpv xb).l 0 (v.sub (o + 64 * (np / 64)) (np % 64)).l).getD i 0#8 = _
  have hl1 : (v.sub (o + 64 * (np / 64)) (np % 64)).l.length = np % 64 := (v.sub _ _).h
  have hl2 : (cpv xb).l.length = 64 := (cpv xb).h
  rw [setL_over _ _ _ (by omega)]
  unfold over
  rw [List.take_zero, List.nil_append, List.getD_eq_getElem?_getD, List.getElem?_append_left (by omega), Vec.sub_l (by omega), List.getElem?_take, if_pos hi, List.getElem?_drop, List.getD_eq_getElem?_getD]
/-- So many bytes of a row are written. -/
def Inv (h0 : W5) (P : Vec 8) (h : W5) (xb : Vec 8) (nx : Int) (N : Nat) : Prop := h = ripAll h0 P 0 (N / 64) ∧ nx = ((N % 64 : Nat) : Int) ∧ ∀ i, i < N % 64 → xb.l.getD i 0#8 = P.l.getD (64 * (N / 64) + i) 0#8
theorem Inv.start (h0 : W5) (P xb : Vec 8) : Inv h0 P h0 xb 0 0 := ⟨rfl, rfl, fun i hi => by simp at hi⟩
theorem Inv.cp {h0 h : W5} {P xb : Vec 8} {nx : Int} {N : Nat} (H : Inv h0 P h xb nx N) : Inv h0 P h (cpv xb) nx N :=
  ⟨H.1, H.2.1, fun i hi => by rw [cpv_get xb i (by omega)]; exact H.2.2 i hi⟩
theorem Inv.step {h0 h : W5} {P xb v : Vec 8} {nx : Int} {N o np : Nat} (H : Inv h0 P h xb nx N) (ho : o + np ≤ v.n) (hv : ∀ i, i < np → v.l.getD (o + i) 0#8 = P.l.getD (N + i) 0#8) :
    Inv h0 P (wrH h xb nx v o np) (wrX xb nx v o np) (wrN nx np) (N + np) := by
  obtain ⟨e1, e2, e3⟩ := H
  have tN : ∀ a : Nat, tlN a = a % 64 := fun a => by
    have : tlN a = min (a - 64 * (a / 64)) 64 := rfl
    omega
  have hr : N % 64 < 64 := Nat.mod_lt _ (by omega)
  by_cases h1 : 0 < nx
  · have hm : (64 - nx).toNat = 64 - N % 64 := by omega
    have fill : ∀ k, N % 64 + k ≤ 64 → k ≤ np → ∀ i, i < N % 64 + k → (fillX xb v nx o k).l.getD i 0#8 = P.l.getD (64 * (N / 64) + i) 0#8 := by
      intro k hk hkn i hi
      rw [e2, fill_get xb v (N % 64) o k hk i (by omega)]
      split
      · rw [hv _ (by omega), show N + (i - N % 64) = 64 * (N / 64) + i by omega]
      · exact e3 i (by omega)
    have full : ∀ k, N % 64 + k = 64 → k ≤ np → rip5 h (wrd (fillX xb v nx o k) 0) = ripAll h0 P 0 (N / 64 + 1) := by
      intro k hk hkn
      show _ = rip5 (ripAll h0 P 0 (N / 64)) (wrd P (0 + 64 * (N / 64)))
      rw [e1, wrd_eq (fillX xb v nx o k) P 0 (0 + 64 * (N / 64)) (fun i hi => by rw [Nat.zero_add, Nat.zero_add]; exact fill k (by omega) hkn i (by omega))]
    by_cases h2 : 64 - nx < (np : Int)
    · have hk : 64 - N % 64 ≤ np := by omega
      have a1 : wrH h xb nx v o np = ripAll (rip5 h (wrd (fillX xb v nx o (64 - N % 64)) 0)) v (o + (64 - N % 64)) ((np - (64 - N % 64)) / 64) := by
        unfold wrH; rw [if_pos h1, if_pos h2, hm]
      have a2 : wrN nx np = ((tlN (np - (64 - N % 64)) : Nat) : Int) := by
        unfold wrN; rw [if_pos h1, if_pos h2, hm]
      refine ⟨?_, ?_, fun i hi => ?_⟩
      · rw [a1, full _ (by omega) hk, all_eq _ v P (o + (64 - N % 64)) (0 + 64 * (N / 64 + 1)) _ (fun i hi => by
          rw [Nat.add_assoc, hv _ (by omega), show N + (64 - N % 64 + i) = 0 + 64 * (N / 64 + 1) + i by omega]), ← all_add]
        congr 1; omega
      · rw [a2, tN]; congr 1; omega
      · have a3 : wrX xb nx v o np = tlX (fillX xb v nx o (64 - N % 64)) v (o + (64 - N % 64)) (np - (64 - N % 64)) := by
          unfold wrX; rw [if_pos h1, if_pos h2, hm, if_pos (by omega)]
        rw [a3, tl_get _ _ _ _ _ (by omega) (by omega), show o + (64 - N % 64) + 64 * ((np - (64 - N % 64)) / 64) + i = o + (64 - N % 64 + 64 * ((np - (64 - N % 64)) / 64) + i) by omega, hv _ (by omega)]
        congr 1; omega
    · by_cases h3 : nx + (np : Int) = 64
      · have a1 : wrH h xb nx v o np = rip5 h (wrd (fillX xb v nx o np) 0) := by
          unfold wrH; rw [if_pos h1, if_neg h2, if_pos h3]
        have a2 : wrN nx np = 0 := by
          unfold wrN; rw [if_pos h1, if_neg h2, if_pos h3]
        refine ⟨?_, ?_, fun i hi => by omega⟩
        · rw [a1, full np (by omega) (by omega)]; congr 1; omega
        · rw [a2]; omega
      · have a1 : wrH h xb nx v o np = h := by
          unfold wrH; rw [if_pos h1, if_neg h2, if_neg h3]
        have a2 : wrN nx np = nx + (np : Int) := by
          unfold wrN; rw [if_pos h1, if_neg h2, if_neg h3]
        have a3 : wrX xb nx v o np = fillX xb v nx o np := by
          unfold wrX; rw [if_pos h1, if_neg h2]
        have eq : (N + np) / 64 = N / 64 := by omega
        refine ⟨?_, ?_, fun i hi => ?_⟩
        · rw [a1, eq]; exact e1
        · rw [a2]; omega
        · rw [a3, eq]; exact fill np (by omega) (by omega) i (by omega)
  · have h0 : N % 64 = 0 := by omega
    have a1 : wrH h xb nx v o np = ripAll h v o (np / 64) := by
      unfold wrH; rw [if_neg h1]
    have a2 : wrN nx np = ((tlN np : Nat) : Int) := by
      unfold wrN; rw [if_neg h1]
    refine ⟨?_, ?_, fun i hi => ?_⟩
    · rw [a1, e1, all_eq _ v P o (0 + 64 * (N / 64)) _ (fun i hi => by
        rw [hv _ (by omega), show N + i = 0 + 64 * (N / 64) + i by omega]), ← all_add]
      congr 1; omega
    · rw [a2, tN]; congr 1; omega
    · have a3 : wrX xb nx v o np = tlX xb v o np := by
        unfold wrX; rw [if_neg h1, if_pos (by omega)]
      rw [a3, tl_get _ _ _ _ _ ho (by omega), show o + 64 * (np / 64) + i = o + (64 * (np / 64) + i) by omega, hv _ (by omega)]
      congr 1; omega
theorem T1_get (i : Nat) (hi : i < 64) : T1.l.getD i 0#8 = if i = 0 then 0x80#8 else 0#8 := by
  have h : ∀ i : Fin 64, T1.l.getD i.1 0#8 = if i.1 = 0 then 0x80#8 else 0#8 := by decide +kernel
  exact h ⟨i, hi⟩
theorem eta_eq (h : W5) : eta h = h := rfl
/-- The digest of bytes is what the blocks of the row make that is filled up. -/
theorem dig_eq (v P : Vec 8) (np K : Nat) (hn : np ≤ v.n) (hb : np ≤ 1099511627776) (hK : K = if np % 64 < 56 then 56 - np % 64 else 120 - np % 64)
    (p1 : ∀ i, i < np → v.l.getD (0 + i) 0#8 = P.l.getD (0 + i) 0#8) (p2 : ∀ i, i < K → T1.l.getD (0 + i) 0#8 = P.l.getD (np + i) 0#8)
    (p3 : ∀ i, i < 8 → (T2 (0#64 + BitVec.ofInt 64 ((np : Nat) : Int))).l.getD (0 + i) 0#8 = P.l.getD (np + K + i) 0#8) : digH v 0 np = ripAll H0 P 0 ((np + K + 8) / 64) := by
  have hr : np % 64 < 64 := Nat.mod_lt _ (by omega)
  have e1 := (Inv.start H0 P Z64).step (v := v) (o := 0) (np := np) (by omega) (fun i hi => by rw [p1 i hi])
  rw [Nat.zero_add] at e1
  have hK64 : K ≤ 64 := by rw [hK]; split <;> omega
  have e2 := ((e1.cp).cp).step (v := T1) (o := 0) (np := K) (by show 0 + K ≤ 64; omega) p2
  have e3 := (e2.cp).step (v := T2 (0#64 + BitVec.ofInt 64 ((np : Nat) : Int))) (o := 0) (np := 8) (by show 0 + 8 ≤ 64; omega) p3
  have htc : ((0#64 + BitVec.ofInt 64 ((np : Nat) : Int)) % 64#64).toNat = np % 64 := by rw [BitVec.toNat_umod, tc_eq np hb]; rfl
  have e56 : (56#64).toNat = 56 := rfl
  unfold digH sumH
  have key : ∀ k, k = K → sumK (eta (wrH H0 Z64 0 v 0 np)) (cpv (wrX Z64 0 v 0 np)) (wrN 0 np) (0#64 + BitVec.ofInt 64 ((np : Nat) : Int)) k = ripAll H0 P 0 ((np + K + 8) / 64) := by
    intro k hk
    subst hk
    exact e3.1
  have hmod := wrN_56 (wrN 0 np) (0#64 + BitVec.ofInt 64 ((np : Nat) : Int)) (by rw [wrN_mod]; omega) (by rw [wrN_mod]; omega) (by rw [tc_eq np hb, wrN_mod])
  split
  · rename_i hc
    refine key _ ?_
    unfold kA
    rw [(hmod.1 hc).1, tc_eq np hb, hK, if_pos (by rw [htc, e56] at hc; exact hc)]
  · rename_i hc
    refine key _ ?_
    unfold kB
    rw [(hmod.2 hc).1, tc_eq np hb, hK, if_neg (by rw [htc, e56] at hc; exact hc)]
end Go.Proofs.YtaklljigoajpcaaDoor

/- The package's mix of blocks by its rounds (plain). -/
import Derived.Test.YtnonaagcnenbdaaR1Rd
namespace Go.Proofs.Ytnonaagcnenbdaa.blockRoad
open Go.Eng
set_option linter.unusedSectionVars false
variable [RowAddr]
/-! The plain law: two rounds of the road are one of the package's. -/
theorem next_kept (d : rdD) : (rd_next d).a = d.a ∧ (rd_next d).oa = d.oa ∧ (rd_next d).na = d.na ∧ (rd_next d).nc = d.nc ∧ (rd_next d).r = d.r := by
  obtain ⟨x, a, c, oa, na, nc, kc, r, i⟩ := d
  unfold rd_next
  split
  · exact ⟨rfl, rfl, rfl, rfl, rfl⟩
  · exact ⟨rfl, rfl, rfl, rfl, rfl⟩
theorem iter_kept : ∀ (n : Nat) (d : rdD), (iter rd_next n d).a = d.a ∧ (iter rd_next n d).oa = d.oa ∧ (iter rd_next n d).na = d.na ∧ (iter rd_next n d).nc = d.nc ∧ (iter rd_next n d).r = d.r
  | 0, d => ⟨rfl, rfl, rfl, rfl, rfl⟩
  | n + 1, d => by
    obtain ⟨h1, h2, h3, h4, h5⟩ := iter_kept n (rd_next d)
    obtain ⟨g1, g2, g3, g4, g5⟩ := next_kept d
    exact ⟨h1.trans g1, h2.trans g2, h3.trans g3, h4.trans g4, h5.trans g5⟩
def takeL (l : List (BitVec 32)) : W16 := ⟨l.getD 0 0, l.getD 1 0, l.getD 2 0, l.getD 3 0, l.getD 4 0, l.getD 5 0, l.getD 6 0, l.getD 7 0, l.getD 8 0, l.getD 9 0, l.getD 10 0, l.getD 11 0, l.getD 12 0, l.getD 13 0, l.getD 14 0, l.getD 15 0⟩
def putL (l : List (BitVec 32)) (x : W16) : List (BitVec 32) := ((((((((((((((((l.set 0 x.x0).set 1 x.x1).set 2 x.x2).set 3 x.x3).set 4 x.x4).set 5 x.x5).set 6 x.x6).set 7 x.x7).set 8 x.x8).set 9 x.x9).set 10 x.x10).set 11 x.x11).set 12 x.x12).set 13 x.x13).set 14 x.x14).set 15 x.x15)
theorem take_l (v : Vec 32) : take16 v 0 = takeL v.l := by kernel_rfl
theorem put_l (t : Vec 32) (x : W16) : (put16 t 0 x).l = putL t.l x := by kernel_rfl
theorem takeL_put (a0 a1 a2 a3 a4 a5 a6 a7 a8 a9 a10 a11 a12 a13 a14 a15 : BitVec 32) (x : W16) : takeL (putL [a0, a1, a2, a3, a4, a5, a6, a7, a8, a9, a10, a11, a12, a13, a14, a15] x) = x := by kernel_rfl
theorem take_put (t : Vec 32) (x : W16) (h : t.n = 16) : take16 (put16 t 0 x) 0 = x := by
  have hl : t.l.length = 16 := t.h.trans h
  rw [take_l, put_l]
  revert hl
  generalize t.l = l
  intro hl
  match l, hl with
  | [a0, a1, a2, a3, a4, a5, a6, a7, a8, a9, a10, a11, a12, a13, a14, a15], _ => exact takeL_put a0 a1 a2 a3 a4 a5 a6 a7 a8 a9 a10 a11 a12 a13 a14 a15 x
def st0 (a : Vec 32) (oa na : Nat) (r : Int) : rdD := ⟨take16 a (oa + (32 * r - 16).toNat), a, Vec.zero 32 (32 * r).toNat, oa, na, (32 * r).toNat, (32 * r).toNat, r, 0⟩
/-- What the road makes. -/
def road (a : Vec 32) (oa na : Nat) (r : Int) : Vec 32 := (iter rd_next (2 * r - 0).toNat (st0 a oa na r)).c
structure Same (b : BmD) (s : rdD) (m : Nat) (r : Int) (a : Vec 32) (oa : Nat) : Prop where
  ba : b.a = a
  sa : s.a = a
  bo : b.oa = oa
  so : s.oa = oa
  oc : b.oc = 0
  br : b.r = r
  sr : s.r = r
  bi : b.i = 2 * m
  si : s.i = 2 * m
  tn : b.t.n = 16
  x : take16 b.t 0 = s.x
  c : b.c = s.c
theorem next_even (s : rdD) (h : Int.tmod s.i 2 ≠ 1) : rd_next s = rd_nextB s := by
  obtain ⟨x, a, c, oa, na, nc, kc, r, i⟩ := s
  show (match decide (Int.tmod i 2 = 1) with | true => _ | false => rd_nextB ⟨x, a, c, oa, na, nc, kc, r, i⟩) = _
  rw [decide_eq_false h]
theorem next_odd (s : rdD) (h : Int.tmod s.i 2 = 1) : rd_next s = rd_nextA s := by
  obtain ⟨x, a, c, oa, na, nc, kc, r, i⟩ := s
  show (match decide (Int.tmod i 2 = 1) with | true => rd_nextA ⟨x, a, c, oa, na, nc, kc, r, i⟩ | false => _) = _
  rw [decide_eq_true h]
theorem step (b : BmD) (s : rdD) (m : Nat) (r : Int) (a : Vec 32) (oa : Nat) (hr : 0 ≤ r) (h : Same b s m r a oa) : Same (BmD.next b) (rd_next (rd_next s)) (m + 1) r a oa := by
  obtain ⟨t, ba, bc, boa, bna, boc, bnc, br, bi⟩ := b
  obtain ⟨x, sa, sc, soa, sna, snc, skc, sr, si⟩ := s
  obtain ⟨h1, h2, h3, h4, h5, h6, h7, h8, h9, h10, h11, h12⟩ := h
  simp only at h1 h2 h3 h4 h5 h6 h7 h8 h9 h10 h11 h12
  subst h1 h2 h3 h4 h5 h6 h7 h8 h9 h11 h12
  have e1 : Int.tmod (2 * (m : Int)) 2 ≠ 1 := by rw [Int.tmod_eq_emod_of_nonneg (by omega)]; omega
  have e2 : Int.tmod (2 * (m : Int) + 1) 2 = 1 := by rw [Int.tmod_eq_emod_of_nonneg (by omega)]; omega
  have d1 : Int.tdiv (2 * (m : Int)) 2 = m := by rw [Int.tdiv_eq_ediv_of_nonneg (by omega)]; omega
  have d2 : Int.tdiv (2 * (m : Int) + 1) 2 = m := by rw [Int.tdiv_eq_ediv_of_nonneg (by omega)]; omega
  have n1 : rd_next ⟨take16 t 0, sa, bc, soa, sna, snc, skc, sr, 2 * (m : Int)⟩ = rd_nextB ⟨take16 t 0, sa, bc, soa, sna, snc, skc, sr, 2 * (m : Int)⟩ := next_even _ e1
  rw [n1]
  have n2 : rd_next (rd_nextB ⟨take16 t 0, sa, bc, soa, sna, snc, skc, sr, 2 * (m : Int)⟩) = rd_nextA (rd_nextB ⟨take16 t 0, sa, bc, soa, sna, snc, skc, sr, 2 * (m : Int)⟩) := next_odd _ e2
  rw [n2]
  have x1 : sv29 t sa (soa + (2 * (m : Int) * 16).toNat) = rdX (take16 t 0) sa soa (2 * (m : Int)) := by
    unfold sv29 rdX
    rw [show 2 * (m : Int) * 16 = 16 * (2 * (m : Int)) by omega]
  have x2 : sv29 (put16 t 0 (rdX (take16 t 0) sa soa (2 * (m : Int)))) sa (soa + (2 * (m : Int) * 16 + 16).toNat) = rdX (rdX (take16 t 0) sa soa (2 * (m : Int))) sa soa (2 * (m : Int) + 1) := by
    unfold sv29
    rw [take_put _ _ h10]
    show salsa8 _ = rdX _ sa soa (2 * (m : Int) + 1)
    rw [show 2 * (m : Int) * 16 + 16 = 16 * (2 * (m : Int) + 1) by omega]
    rfl
  have en : BmD.next ⟨t, sa, bc, soa, bna, 0, bnc, sr, 2 * (m : Int)⟩ = ⟨put16 (put16 t 0 (sv29 t sa (soa + (2 * (m : Int) * 16).toNat))) 0 (sv29 (put16 t 0 (sv29 t sa (soa + (2 * (m : Int) * 16).toNat))) sa (soa + (2 * (m : Int) * 16 + 16).toNat)), sa,
      put16 (put16 bc (0 + (2 * (m : Int) * 8).toNat) (sv29 t sa (soa + (2 * (m : Int) * 16).toNat))) (0 + (2 * (m : Int) * 8 + sr * 16).toNat) (sv29 (put16 t 0 (sv29 t sa (soa + (2 * (m : Int) * 16).toNat))) sa (soa + (2 * (m : Int) * 16 + 16).toNat)), soa, bna, 0, bnc, sr, 2 * (m : Int) + 2⟩ := rfl
  rw [en, x1, x2]
  have es : rd_nextA (rd_nextB ⟨take16 t 0, sa, bc, soa, sna, snc, skc, sr, 2 * (m : Int)⟩) = ⟨rdX (rdX (take16 t 0) sa soa (2 * (m : Int))) sa soa (2 * (m : Int) + 1), sa,
      putI (putI bc (16 * (Int.tdiv (2 * (m : Int)) 2)) (rdX (take16 t 0) sa soa (2 * (m : Int)))) (16 * (Int.tdiv (2 * (m : Int) + 1) 2) + 16 * sr) (rdX (rdX (take16 t 0) sa soa (2 * (m : Int))) sa soa (2 * (m : Int) + 1)), soa, sna, snc, skc, sr, 2 * (m : Int) + 1 + 1⟩ := rfl
  rw [es, d1, d2, putI_put16 _ _ _ (by omega), putI_put16 _ _ _ (by omega)]
  have tn : (put16 t 0 (rdX (take16 t 0) sa soa (2 * (m : Int)))).n = 16 := by rw [put16_n]; exact h10
  refine ⟨rfl, rfl, rfl, rfl, rfl, rfl, rfl, ?_, ?_, ?_, ?_, ?_⟩
  · show 2 * (m : Int) + 2 = 2 * ((m + 1 : Nat) : Int); omega
  · show 2 * (m : Int) + 1 + 1 = 2 * ((m + 1 : Nat) : Int); omega
  · show (put16 _ _ _).n = 16; rw [put16_n, tn]
  · exact take_put _ _ tn
  · show put16 (put16 bc (0 + (2 * (m : Int) * 8).toNat) _) (0 + (2 * (m : Int) * 8 + sr * 16).toNat) _ = put16 (put16 bc (16 * (m : Int)).toNat _) (16 * (m : Int) + 16 * sr).toNat _
    rw [show 0 + (2 * (m : Int) * 8).toNat = (16 * (m : Int)).toNat by omega, show 0 + (2 * (m : Int) * 8 + sr * 16).toNat = (16 * (m : Int) + 16 * sr).toNat by omega]
theorem steps (a : Vec 32) (oa : Nat) (r : Int) (hr : 0 ≤ r) (b : BmD) (s : rdD) (h : Same b s 0 r a oa) : ∀ m : Nat, Same (iter BmD.next m b) (iter rd_next (2 * m) s) m r a oa
  | 0 => h
  | m + 1 => by
    have e : 2 * (m + 1) = 2 * m + 1 + 1 := by omega
    rw [e, iter_succ, iter_succ, iter_succ]
    exact step _ _ m r a oa hr (steps a oa r hr b s h m)
theorem put_list (t : W16) (u : Vec 32) (h : u.n = 16) : take16 ((Vec.of t.list).over 0 u) 0 = take16 u 0 := by
  obtain ⟨n, l, hl⟩ := u
  have h : n = 16 := h
  subst h
  match l, hl with
  | [a0, a1, a2, a3, a4, a5, a6, a7, a8, a9, a10, a11, a12, a13, a14, a15], _ => rfl
theorem sub_get (a : Vec 32) (o m j : Nat) (h : o + m ≤ a.n) (hj : j < m) : (a.sub o m).l.getD j 0 = a.l.getD (o + j) 0 := by
  have := a.h
  rw [Vec.sub_l h, List.getD_eq_getElem?_getD, List.getD_eq_getElem?_getD, List.getElem?_take, if_pos hj, List.getElem?_drop]
theorem take_sub (a : Vec 32) (o : Nat) (h : o + 16 ≤ a.n) : take16 (a.sub o 16) 0 = take16 a o := by
  unfold take16
  simp only [Nat.zero_add]
  rw [sub_get a o 16 0 h (by omega), sub_get a o 16 1 h (by omega), sub_get a o 16 2 h (by omega), sub_get a o 16 3 h (by omega), sub_get a o 16 4 h (by omega), sub_get a o 16 5 h (by omega), sub_get a o 16 6 h (by omega), sub_get a o 16 7 h (by omega), sub_get a o 16 8 h (by omega), sub_get a o 16 9 h (by omega), sub_get a o 16 10 h (by omega), sub_get a o 16 11 h (by omega), sub_get a o 16 12 h (by omega), sub_get a o 16 13 h (by omega), sub_get a o 16 14 h (by omega), sub_get a o 16 15 h (by omega)]
theorem mix_road (a : Vec 32) (oa na : Nat) (r : Int) (h1 : 1 ≤ r) (h2 : oa + 32 * r ≤ a.n) : mixV a oa na r = road a oa na r := by
  have h0 : Same (bm0 w0 a (Vec.zero 32 (32 * r).toNat) oa na 0 (32 * r).toNat r) (st0 a oa na r) 0 r a oa := by
    refine ⟨rfl, rfl, rfl, rfl, rfl, rfl, rfl, rfl, rfl, rfl, ?_, rfl⟩
    show take16 ((Vec.of w0.list).over 0 (a.sub (oa + ((2 * r - 1) * 16).toNat) 16)) 0 = take16 a (oa + (32 * r - 16).toNat)
    rw [put_list _ _ rfl, take_sub _ _ (by omega), show (2 * r - 1) * 16 = 32 * r - 16 by omega]
  have := (steps a oa r (by omega) _ _ h0 r.toNat).c
  unfold mixV bm1 road
  rw [show ((2 * r - 0) / 2).toNat = r.toNat by omega, show (2 * r - 0).toNat = 2 * r.toNat by omega]
  exact this
theorem iterBm_n : ∀ (n : Nat) (d : BmD), (iter BmD.next n d).c.n = d.c.n
  | 0, _ => rfl
  | n + 1, d => by
    show (iter BmD.next n (BmD.next d)).c.n = _
    rw [iterBm_n n (BmD.next d), next_c]
theorem mixV_n (a : Vec 32) (oa na : Nat) (r : Int) : (mixV a oa na r).n = (32 * r).toNat := by
  unfold mixV bm1
  rw [iterBm_n]
  rfl
/-! The walk. -/
end Go.Proofs.Ytnonaagcnenbdaa.blockRoad

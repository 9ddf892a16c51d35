/- The plain law of scrypt's mix: the package's mix of blocks within one row of words is the road. -/
import Derived.Test.YtnonaagcnenbdaaR1BMixQ
import Derived.Test.YtnonaagcnenbdaaR1Sx
namespace Go.Proofs.Ytnonaagcnenbdaa
open Go.Eng blockRoad
set_option linter.unusedSectionVars false
variable [RowAddr]
/-- A word of a row. -/
def gW (v : Vec 32) (j : Nat) : BitVec 32 := v.l.getD j 0#32
theorem take_ext (v u : Vec 32) (o p : Nat) (h : ∀ t, t < 16 → gW v (o + t) = gW u (p + t)) : take16 v o = take16 u p := by
  have e : ∀ t, t < 16 → v.l.getD (o + t) 0 = u.l.getD (p + t) 0 := h
  unfold take16
  rw [e 0 (by omega), e 1 (by omega), e 2 (by omega), e 3 (by omega), e 4 (by omega), e 5 (by omega), e 6 (by omega), e 7 (by omega), e 8 (by omega), e 9 (by omega), e 10 (by omega), e 11 (by omega), e 12 (by omega), e 13 (by omega), e 14 (by omega), e 15 (by omega)]
theorem gW_sub (a : Vec 32) (o m j : Nat) (h : o + m ≤ a.n) (hj : j < m) : gW (a.sub o m) j = gW a (o + j) := sub_get a o m j h hj
theorem gW_ext {a b : Vec 32} (hn : a.n = b.n) (h : ∀ j, j < a.n → gW a j = gW b j) : a = b := by
  have h1 := a.h
  have h2 := b.h
  refine vec_ext (list_ext_getD 0#32 (by omega) fun j hj => h j (by omega))
section
variable (t x : Vec 32) (oa oc p : Nat) (ht : t.n = 16) (h1 : oa + 32 * p ≤ x.n) (h2 : oc + 32 * p ≤ x.n) (hd : oa + 32 * p ≤ oc ∨ oc + 32 * p ≤ oa) (hp : 1 ≤ p)
include ht h1 h2 hd
theorem mixA_sim (tt : Vec 32) (htt : tt.n = 16) : ∀ m : Nat, m ≤ p → ∃ T C, iter BmD.next m ⟨tt, x.sub oa (32 * p), Vec.zero 32 (32 * p), 0, 32 * p, 0, 32 * p, (p : Int), 0⟩ = ⟨T, x.sub oa (32 * p), C, 0, 32 * p, 0, 32 * p, (p : Int), 2 * (m : Int)⟩ ∧
    (mixR oa oc p m ⟨tt, x⟩).t = T ∧ T.n = 16 ∧ C.n = 32 * p ∧ (mixR oa oc p m ⟨tt, x⟩).c.n = x.n ∧
    (∀ j, j < 16 * m ∨ (16 * p ≤ j ∧ j < 16 * p + 16 * m) → gW (mixR oa oc p m ⟨tt, x⟩).c (oc + j) = gW C j) ∧ (∀ j, j < oc ∨ oc + 32 * p ≤ j → gW (mixR oa oc p m ⟨tt, x⟩).c j = gW x j)
  | 0, _ => ⟨tt, Vec.zero 32 (32 * p), rfl, rfl, htt, rfl, rfl, fun j hj => by omega, fun j hj => rfl⟩
  | m + 1, hm => by
    obtain ⟨T, C, e1, e2, e3, e4, e5, e6, e7⟩ := mixA_sim tt htt m (by omega)
    have eX : mixR oa oc (p : Int) (m + 1) ⟨tt, x⟩ = roundA (mixR oa oc (p : Int) m ⟨tt, x⟩) oa oc p (2 * (m : Int)) := rfl
    rw [eX]
    generalize hX : mixR oa oc (p : Int) m ⟨tt, x⟩ = X at e2 e5 e6 e7 ⊢
    obtain ⟨XT, XC⟩ := X
    have e2 : XT = T := e2
    subst e2
    have e5 : XC.n = x.n := e5
    have e6 : ∀ j, j < 16 * m ∨ (16 * p ≤ j ∧ j < 16 * p + 16 * m) → gW XC (oc + j) = gW C j := e6
    have e7 : ∀ j, j < oc ∨ oc + 32 * p ≤ j → gW XC j = gW x j := e7
    rw [iter_succ, e1]
    let Y1 := sv29 XT (x.sub oa (32 * p)) (0 + (2 * (m : Int) * 16).toNat)
    let Y2 := sv29 (put16 XT 0 Y1) (x.sub oa (32 * p)) (0 + (2 * (m : Int) * 16 + 16).toNat)
    have q1 : (2 * (m : Int) * 16).toNat = 32 * m := by omega
    have q2 : (2 * (m : Int) * 16 + 16).toNat = 32 * m + 16 := by omega
    have q3 : (2 * (m : Int) * 8).toNat = 16 * m := by omega
    have q4 : (2 * (m : Int) * 8 + (p : Int) * 16).toNat = 16 * m + 16 * p := by omega
    have z1 : sv29 XT XC (oa + (2 * (m : Int) * 16).toNat) = Y1 := by
      show salsa8 (xor16 (take16 XT 0) (take16 XC _)) = salsa8 (xor16 (take16 XT 0) (take16 (x.sub oa (32 * p)) _))
      rw [take_ext XC (x.sub oa (32 * p)) (oa + (2 * (m : Int) * 16).toNat) (0 + (2 * (m : Int) * 16).toNat) (fun s hs => by
        rw [q1, gW_sub _ _ _ _ h1 (by omega), e7 _ (by omega)]
        congr 1; omega)]
    have n1 : (put16 XC (oc + (2 * (m : Int) * 8).toNat) Y1).n = x.n := by rw [put16_n]; exact e5
    have o1 : ∀ j, (j < oc ∨ oc + 32 * p ≤ j) → gW (put16 XC (oc + (2 * (m : Int) * 8).toNat) Y1) j = gW x j := fun j hj => by
      rw [← e7 j hj]
      exact put_out _ _ _ _ (by rw [q3]; omega) (by rw [q3]; omega)
    have z2 : sv29 (put16 XT 0 Y1) (put16 XC (oc + (2 * (m : Int) * 8).toNat) Y1) (oa + (2 * (m : Int) * 16 + 16).toNat) = Y2 := by
      show salsa8 (xor16 (take16 (put16 XT 0 Y1) 0) (take16 _ _)) = salsa8 (xor16 (take16 (put16 XT 0 Y1) 0) (take16 (x.sub oa (32 * p)) _))
      rw [take_ext (put16 XC (oc + (2 * (m : Int) * 8).toNat) Y1) (x.sub oa (32 * p)) (oa + (2 * (m : Int) * 16 + 16).toNat) (0 + (2 * (m : Int) * 16 + 16).toNat) (fun s hs => by
        rw [q2, gW_sub _ _ _ _ h1 (by omega), o1 _ (by omega)]
        congr 1; omega)]
    have er : roundA ⟨XT, XC⟩ oa oc (p : Int) (2 * (m : Int)) = ⟨put16 (put16 XT 0 (sv29 XT XC (oa + (2 * (m : Int) * 16).toNat))) 0 (sv29 (put16 XT 0 (sv29 XT XC (oa + (2 * (m : Int) * 16).toNat))) (put16 XC (oc + (2 * (m : Int) * 8).toNat) (sv29 XT XC (oa + (2 * (m : Int) * 16).toNat))) (oa + (2 * (m : Int) * 16 + 16).toNat)),
        put16 (put16 XC (oc + (2 * (m : Int) * 8).toNat) (sv29 XT XC (oa + (2 * (m : Int) * 16).toNat))) (oc + (2 * (m : Int) * 8 + (p : Int) * 16).toNat) (sv29 (put16 XT 0 (sv29 XT XC (oa + (2 * (m : Int) * 16).toNat))) (put16 XC (oc + (2 * (m : Int) * 8).toNat) (sv29 XT XC (oa + (2 * (m : Int) * 16).toNat))) (oa + (2 * (m : Int) * 16 + 16).toNat))⟩ := rfl
    rw [er, z1, z2]
    refine ⟨put16 (put16 XT 0 Y1) 0 Y2, put16 (put16 C (0 + (2 * (m : Int) * 8).toNat) Y1) (0 + (2 * (m : Int) * 8 + (p : Int) * 16).toNat) Y2, ?_, rfl, ?_, ?_, ?_, ?_, ?_⟩
    · rw [show 2 * ((m + 1 : Nat) : Int) = 2 * (m : Int) + 2 by omega]; rfl
    · rw [put16_n, put16_n]; exact e3
    · rw [put16_n, put16_n]; exact e4
    · show (put16 (put16 XC _ _) _ _).n = _
      rw [put16_n, put16_n]; exact e5
    · intro j hj
      show gW (put16 (put16 XC (oc + (2 * (m : Int) * 8).toNat) Y1) (oc + (2 * (m : Int) * 8 + (p : Int) * 16).toNat) Y2) (oc + j) = gW (put16 (put16 C (0 + (2 * (m : Int) * 8).toNat) Y1) (0 + (2 * (m : Int) * 8 + (p : Int) * 16).toNat) Y2) j
      rw [q3, q4]
      have c1 : (put16 C (0 + 16 * m) Y1).n = 32 * p := by rw [put16_n]; exact e4
      have n1' : (put16 XC (oc + 16 * m) Y1).n = x.n := by rw [put16_n]; exact e5
      by_cases g : 16 * m + 16 * p ≤ j ∧ j < 16 * m + 16 * p + 16
      · obtain ⟨s, rfl⟩ : ∃ s, j = 16 * m + 16 * p + s := ⟨j - (16 * m + 16 * p), by omega⟩
        rw [show oc + (16 * m + 16 * p + s) = oc + (16 * m + 16 * p) + s by omega]
        have a1 := put_in (put16 XC (oc + 16 * m) Y1) (oc + (16 * m + 16 * p)) s Y2 (by rw [n1']; omega) (by omega)
        have a2 := put_in (put16 C (0 + 16 * m) Y1) (0 + (16 * m + 16 * p)) s Y2 (by rw [c1]; omega) (by omega)
        rw [show 0 + (16 * m + 16 * p) + s = 16 * m + 16 * p + s by omega] at a2
        exact a1.trans a2.symm
      · have a1 := put_out (put16 XC (oc + 16 * m) Y1) (oc + (16 * m + 16 * p)) (oc + j) Y2 (by rw [n1']; omega) (by omega)
        have a2 := put_out (put16 C (0 + 16 * m) Y1) (0 + (16 * m + 16 * p)) j Y2 (by rw [c1]; omega) (by omega)
        refine a1.trans (Eq.trans ?_ a2.symm)
        by_cases g2 : 16 * m ≤ j ∧ j < 16 * m + 16
        · obtain ⟨s, rfl⟩ : ∃ s, j = 16 * m + s := ⟨j - 16 * m, by omega⟩
          rw [show oc + (16 * m + s) = oc + 16 * m + s by omega]
          have b1 := put_in XC (oc + 16 * m) s Y1 (by omega) (by omega)
          have b2 := put_in C (0 + 16 * m) s Y1 (by omega) (by omega)
          rw [show 0 + 16 * m + s = 16 * m + s by omega] at b2
          exact b1.trans b2.symm
        · have b1 := put_out XC (oc + 16 * m) (oc + j) Y1 (by omega) (by omega)
          have b2 := put_out C (0 + 16 * m) j Y1 (by omega) (by omega)
          refine b1.trans (Eq.trans ?_ b2.symm)
          exact e6 j (by omega)
    · intro j hj
      show gW (put16 (put16 XC (oc + (2 * (m : Int) * 8).toNat) Y1) (oc + (2 * (m : Int) * 8 + (p : Int) * 16).toNat) Y2) j = gW x j
      rw [← o1 j hj]
      exact put_out _ _ _ _ (by rw [n1, q4]; omega) (by rw [q4]; omega)
include hp in
/-- What the package's mix of blocks makes of a row of words, and that it leaves the others. -/
theorem mixA : (∀ j, j < 32 * p → gW (mixC t x oa oc p) (oc + j) = gW (road (x.sub oa (32 * p)) 0 (32 * p) p) j) ∧ (∀ j, j < oc ∨ oc + 32 * p ≤ j → gW (mixC t x oa oc p) j = gW x j) := by
  have htt : (t.over 0 (x.sub (oa + ((2 * (p : Int) - 1) * 16).toNat) 16)).n = 16 := ht
  obtain ⟨T, C, e1, e2, e3, e4, e5, e6, e7⟩ := mixA_sim t x oa oc p ht h1 h2 hd _ htt p (Nat.le_refl _)
  have em : mixC t x oa oc p = (mixR oa oc p p ⟨t.over 0 (x.sub (oa + ((2 * (p : Int) - 1) * 16).toNat) 16), x⟩).c := by
    unfold mixC tc0
    rw [show ((2 * (p : Int) - 0) / 2).toNat = p by omega]
  rw [em]
  refine ⟨fun j hj => ?_, e7⟩
  rw [e6 j (by omega)]
  have hA : (x.sub oa (32 * p)).n = 32 * p := rfl
  have h0 : Same (⟨t.over 0 (x.sub (oa + ((2 * (p : Int) - 1) * 16).toNat) 16), x.sub oa (32 * p), Vec.zero 32 (32 * p), 0, 32 * p, 0, 32 * p, (p : Int), 0⟩ : BmD) (st0 (x.sub oa (32 * p)) 0 (32 * p) p) 0 p (x.sub oa (32 * p)) 0 := by
    refine ⟨rfl, rfl, rfl, rfl, rfl, rfl, rfl, rfl, rfl, htt, ?_, ?_⟩
    · show take16 (t.over 0 (x.sub (oa + ((2 * (p : Int) - 1) * 16).toNat) 16)) 0 = take16 (x.sub oa (32 * p)) (0 + (32 * (p : Int) - 16).toNat)
      have hs : (x.sub (oa + ((2 * (p : Int) - 1) * 16).toNat) 16).n = 16 := rfl
      have ho : take16 (t.over 0 (x.sub (oa + ((2 * (p : Int) - 1) * 16).toNat) 16)) 0 = take16 (x.sub (oa + ((2 * (p : Int) - 1) * 16).toNat) 16) 0 := by
        refine take_ext _ _ 0 0 fun s hs' => ?_
        have hl := t.h
        have hl2 := (x.sub (oa + ((2 * (p : Int) - 1) * 16).toNat) 16).h
        exact setL_in 0#32 _ t.l 0 s (by rw [hl, hl2]; omega) (by rw [hl2]; omega) |>.trans (by rw [Nat.zero_add]; rfl)
      rw [ho, take_sub _ _ (by omega)]
      refine take_ext _ _ _ _ fun s hs' => ?_
      rw [gW_sub _ _ _ _ h1 (by omega)]
      congr 1; omega
    · show Vec.zero 32 (32 * p) = Vec.zero 32 (32 * (p : Int)).toNat
      rw [show (32 * (p : Int)).toNat = 32 * p by omega]
  have hs := (steps (x.sub oa (32 * p)) 0 p (by omega) _ _ h0 p).c
  rw [e1] at hs
  have hs : C = (iter rd_next (2 * p) (st0 (x.sub oa (32 * p)) 0 (32 * p) p)).c := hs
  unfold road
  rw [hs, show (2 * (p : Int) - 0).toNat = 2 * p by omega]
end
end Go.Proofs.Ytnonaagcnenbdaa

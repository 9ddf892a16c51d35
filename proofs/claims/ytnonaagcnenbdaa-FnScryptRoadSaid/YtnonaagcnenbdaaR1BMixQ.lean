/- The plain law of the mix of blocks: the reference is the road. -/
import Derived.Test.YtnonaagcnenbdaaR1BMixP
import Derived.Test.YtnonaagcnenbdaaR1BRp
namespace Go.Proofs.Ytnonaagcnenbdaa
open Go.Eng blockRoad
set_option linter.unusedSectionVars false
variable [RowAddr]
structure Fct (x : W16) (ev od : Vec 8) (s : rdD) (i : Nat) (a : Vec 32) (oa R : Nat) : Prop where
  x : x = s.x
  e : ∀ j, j < 16 * ((i + 1) / 2) → lw ev (4 * j) = s.c.l.getD j 0#32
  f : ∀ j, j < 16 * (i / 2) → lw od (4 * j) = s.c.l.getD (16 * R + j) 0#32
  en : ev.n = 64 * ((i + 1) / 2)
  on : od.n = 64 * (i / 2)
  si : s.i = i
  sa : s.a = a
  so : s.oa = oa
  sr : s.r = R
  cn : s.c.n = 32 * R
theorem cp64_n (y : Vec 8) : (cp64 y).n = 64 := rfl
theorem fct_even {x : W16} {ev od : Vec 8} {s : rdD} {i : Nat} {a : Vec 32} {oa R : Nat} (h : Fct x ev od s i a oa R) (hi : i % 2 = 0) (hR : i < 2 * R) (Y : Vec 8) (hY : words16 Y = salsa8 (xor16 x (take16 a (oa + 16 * i)))) :
    Fct (words16 Y) (ev.app (cp64 Y)) od (rd_next s) (i + 1) a oa R := by
  obtain ⟨h1, h2, h3, h4, h5, h6, h7, h8, h9, h10⟩ := h
  obtain ⟨sx, sa, sc, soa, sna, snc, skc, sr, si⟩ := s
  simp only at h1 h2 h3 h6 h7 h8 h9 h10
  subst h1 h6 h7 h8 h9
  have e1 : Int.tmod (i : Int) 2 ≠ 1 := by rw [Int.tmod_eq_emod_of_nonneg (by omega)]; omega
  have d1 : Int.tdiv (i : Int) 2 = (i / 2 : Nat) := by rw [Int.tdiv_eq_ediv_of_nonneg (by omega)]; omega
  have n1 : rd_next ⟨x, sa, sc, soa, sna, snc, skc, (R : Int), (i : Int)⟩ = rd_nextB ⟨x, sa, sc, soa, sna, snc, skc, (R : Int), (i : Int)⟩ := next_even _ e1
  have eX : rdX x sa soa (i : Int) = words16 Y := by
    rw [hY]; unfold rdX
    rw [show (16 * (i : Int)).toNat = 16 * i by omega]
  have e2 : rd_nextB ⟨x, sa, sc, soa, sna, snc, skc, (R : Int), (i : Int)⟩ = ⟨words16 Y, sa, put16 sc (16 * (i / 2)) (words16 Y), soa, sna, snc, skc, (R : Int), (i : Int) + 1⟩ := by
    show (⟨rdX x sa soa (i : Int), sa, putI sc (16 * (Int.tdiv (i : Int) 2)) (rdX x sa soa (i : Int)), soa, sna, snc, skc, (R : Int), (i : Int) + 1⟩ : rdD) = _
    rw [eX, d1, putI_put16 _ _ _ (by omega), show (16 * ((i / 2 : Nat) : Int)).toNat = 16 * (i / 2) by omega]
  rw [n1, e2]
  refine ⟨rfl, fun j hj => ?_, fun j hj => ?_, ?_, ?_, ?_, rfl, rfl, rfl, ?_⟩
  · show lw (ev.app (cp64 Y)) (4 * j) = (put16 sc (16 * (i / 2)) (words16 Y)).l.getD j 0#32
    rcases Nat.lt_or_ge j (16 * (i / 2)) with hj2 | hj2
    · rw [lw_left _ _ _ (by omega), h2 j (by omega), put_out _ _ _ _ (by omega) (.inl hj2)]
    · obtain ⟨t, rfl⟩ : ∃ t, j = 16 * (i / 2) + t := ⟨j - 16 * (i / 2), by omega⟩
      rw [put_in _ _ _ _ (by omega) (by omega), words_list _ _ (by omega), show 4 * (16 * (i / 2) + t) = ev.n + 4 * t by omega, lw_right, lw_cp64 _ _ (by omega)]
  · show lw od (4 * j) = (put16 sc (16 * (i / 2)) (words16 Y)).l.getD (16 * R + j) 0#32
    rw [h3 j (by omega), put_out _ _ _ _ (by omega) (.inr (by omega))]
  · rw [app_n, cp64_n]; omega
  · omega
  · show (i : Int) + 1 = ((i + 1 : Nat) : Int); omega
  · show (put16 _ _ _).n = _; rw [put16_n]; exact h10
theorem fct_odd {x : W16} {ev od : Vec 8} {s : rdD} {i : Nat} {a : Vec 32} {oa R : Nat} (h : Fct x ev od s i a oa R) (hi : i % 2 = 1) (hR : i < 2 * R) (Y : Vec 8) (hY : words16 Y = salsa8 (xor16 x (take16 a (oa + 16 * i)))) :
    Fct (words16 Y) ev (od.app (cp64 Y)) (rd_next s) (i + 1) a oa R := by
  obtain ⟨h1, h2, h3, h4, h5, h6, h7, h8, h9, h10⟩ := h
  obtain ⟨sx, sa, sc, soa, sna, snc, skc, sr, si⟩ := s
  simp only at h1 h2 h3 h6 h7 h8 h9 h10
  subst h1 h6 h7 h8 h9
  have e1 : Int.tmod (i : Int) 2 = 1 := by rw [Int.tmod_eq_emod_of_nonneg (by omega)]; omega
  have d1 : Int.tdiv (i : Int) 2 = (i / 2 : Nat) := by rw [Int.tdiv_eq_ediv_of_nonneg (by omega)]; omega
  have n1 : rd_next ⟨x, sa, sc, soa, sna, snc, skc, (R : Int), (i : Int)⟩ = rd_nextA ⟨x, sa, sc, soa, sna, snc, skc, (R : Int), (i : Int)⟩ := next_odd _ e1
  have eX : rdX x sa soa (i : Int) = words16 Y := by
    rw [hY]; unfold rdX
    rw [show (16 * (i : Int)).toNat = 16 * i by omega]
  have e2 : rd_nextA ⟨x, sa, sc, soa, sna, snc, skc, (R : Int), (i : Int)⟩ = ⟨words16 Y, sa, put16 sc (16 * R + 16 * (i / 2)) (words16 Y), soa, sna, snc, skc, (R : Int), (i : Int) + 1⟩ := by
    show (⟨rdX x sa soa (i : Int), sa, putI sc (16 * (Int.tdiv (i : Int) 2) + 16 * (R : Int)) (rdX x sa soa (i : Int)), soa, sna, snc, skc, (R : Int), (i : Int) + 1⟩ : rdD) = _
    rw [eX, d1, putI_put16 _ _ _ (by omega), show (16 * ((i / 2 : Nat) : Int) + 16 * (R : Int)).toNat = 16 * R + 16 * (i / 2) by omega]
  rw [n1, e2]
  refine ⟨rfl, fun j hj => ?_, fun j hj => ?_, ?_, ?_, ?_, rfl, rfl, rfl, ?_⟩
  · show lw ev (4 * j) = (put16 sc (16 * R + 16 * (i / 2)) (words16 Y)).l.getD j 0#32
    rw [h2 j (by omega), put_out _ _ _ _ (by omega) (.inl (by omega))]
  · show lw (od.app (cp64 Y)) (4 * j) = (put16 sc (16 * R + 16 * (i / 2)) (words16 Y)).l.getD (16 * R + j) 0#32
    rcases Nat.lt_or_ge j (16 * (i / 2)) with hj2 | hj2
    · rw [lw_left _ _ _ (by omega), h3 j (by omega), put_out _ _ _ _ (by omega) (.inl (by omega))]
    · obtain ⟨t, rfl⟩ : ∃ t, j = 16 * (i / 2) + t := ⟨j - 16 * (i / 2), by omega⟩
      rw [show 16 * R + (16 * (i / 2) + t) = 16 * R + 16 * (i / 2) + t by omega, put_in _ _ _ _ (by omega) (by omega), words_list _ _ (by omega), show 4 * (16 * (i / 2) + t) = od.n + 4 * t by omega, lw_right, lw_cp64 _ _ (by omega)]
  · omega
  · rw [app_n, cp64_n]; omega
  · show (i : Int) + 1 = ((i + 1 : Nat) : Int); omega
  · show (put16 _ _ _).n = _; rw [put16_n]; exact h10
theorem nil_app (y : Vec 8) : (Vec.of []).app y = y := vec_ext rfl
section
variable (a : Vec 32) (oa na R : Nat) (hR : 1 ≤ R)
theorem y_eq (y : Vec 8) (i : Nat) (hi : i < 2 * R) (hn : na = 32 * R) : words16 (yB (encV a oa na) y (64 * i)) = salsa8 (xor16 (words16 y) (take16 a (oa + 16 * i))) := by
  rw [words_y, wordsAt_enc a oa na i (by omega), sum_salsa]
include hR in
theorem run1 (hn : na = 32 * R) : ∃ y ev, M25.next (st25 (encV a oa na) 0 (4 * na)) = .b (encV a oa na) y ev 0 (4 * na) 64 (2 * R : Nat) ∧ Fct (words16 y) ev (Vec.of []) (rd_next (st0 a oa na R)) 1 a oa R := by
  have hd := Int.tdiv_eq_ediv_of_nonneg (b := 64) (show 0 ≤ ((4 * na : Nat) : Int) by omega)
  have es : st25 (encV a oa na) 0 (4 * na) = .a (encV a oa na) 0 (4 * na) (64 * (2 * R - 1)) 64 (2 * R : Nat) := by
    unfold st25
    rw [show Int.tdiv ((4 * na : Nat) : Int) 64 = (2 * R : Nat) by omega, show 0 + (64 * (((2 * R : Nat) : Int) - 1)).toNat = 64 * (2 * R - 1) by omega, show 4 * na - (64 * (((2 * R : Nat) : Int) - 1)).toNat = 64 by omega]
  rw [es]
  refine ⟨_, _, rfl, ?_⟩
  have h0 : Fct (take16 a (oa + 16 * (2 * R - 1))) (Vec.of []) (Vec.of []) (st0 a oa na R) 0 a oa R := by
    refine ⟨?_, fun j hj => by omega, fun j hj => by omega, rfl, rfl, rfl, rfl, rfl, rfl, ?_⟩
    · show _ = take16 a (oa + (32 * (R : Int) - 16).toNat)
      rw [show (32 * (R : Int) - 16).toNat = 16 * (2 * R - 1) by omega]
    · show (32 * (R : Int)).toNat = 32 * R; omega
  have hY : words16 (yA (encV a oa na) 0 (64 * (2 * R - 1)) 64) = salsa8 (xor16 (take16 a (oa + 16 * (2 * R - 1))) (take16 a (oa + 16 * 0))) := by
    rw [words_yA, wordsAt_enc a oa na (2 * R - 1) (by omega), wordsAt_enc a oa na 0 (by omega), sum_salsa]
  have := fct_even h0 rfl (by omega) _ hY
  rw [nil_app] at this
  exact this
include hR in
theorem runs (hn : na = 32 * R) : ∀ k : Nat, k + 2 ≤ 2 * R → ∃ y ev od ne no, iter M25.next (k + 2) (st25 (encV a oa na) 0 (4 * na)) = .c (encV a oa na) y ev od 0 (4 * na) ne no (2 * R : Nat) ((k + 2 : Nat) : Int) ∧ Fct (words16 y) ev od (iter rd_next (k + 2) (st0 a oa na R)) (k + 2) a oa R
  | 0, _ => by
    obtain ⟨y, ev, h1, h2⟩ := run1 a oa na R hR hn
    have e : iter M25.next (0 + 2) (st25 (encV a oa na) 0 (4 * na)) = nextB (encV a oa na) y ev 0 (4 * na) 64 (2 * R : Nat) := by
      show M25.next (M25.next (st25 (encV a oa na) 0 (4 * na))) = _
      rw [h1]; rfl
    rw [e]
    refine ⟨_, _, _, _, _, rfl, ?_⟩
    have hY := y_eq a oa na R y 1 (by omega) hn
    have := fct_odd h2 rfl (by omega) _ hY
    rw [nil_app] at this
    exact this
  | k + 1, hk => by
    obtain ⟨y, ev, od, ne, no, h1, h2⟩ := runs hn k (by omega)
    have e2 : iter rd_next (k + 1 + 2) (st0 a oa na R) = rd_next (iter rd_next (k + 2) (st0 a oa na R)) := iter_succ _ _ _
    have e : iter M25.next (k + 1 + 2) (st25 (encV a oa na) 0 (4 * na)) = M25.next (.c (encV a oa na) y ev od 0 (4 * na) ne no (2 * R : Nat) ((k + 2 : Nat) : Int)) := by
      rw [show k + 1 + 2 = (k + 2) + 1 from rfl, iter_succ, h1]
    have hY := y_eq a oa na R y (k + 2) (by omega) hn
    have ho : 0 + (64 * ((k + 2 : Nat) : Int)).toNat = 64 * (k + 2) := by omega
    rw [e, e2]
    have hm := Int.tmod_eq_emod_of_nonneg (b := 2) (show 0 ≤ ((k + 2 : Nat) : Int) by omega)
    by_cases hs : (k + 2) % 2 = 0
    · have en : M25.next (.c (encV a oa na) y ev od 0 (4 * na) ne no (2 * R : Nat) ((k + 2 : Nat) : Int)) = nextE (encV a oa na) y ev od 0 (4 * na) ne no (2 * R : Nat) ((k + 2 : Nat) : Int) := by
        show (match decide (Int.tmod ((k + 2 : Nat) : Int) 2 = 0) with | true => nextE (encV a oa na) y ev od 0 (4 * na) ne no (2 * R : Nat) ((k + 2 : Nat) : Int) | false => nextO (encV a oa na) y ev od 0 (4 * na) ne no (2 * R : Nat) ((k + 2 : Nat) : Int)) = _
        rw [decide_eq_true (by omega)]
      rw [en]
      unfold nextE
      rw [ho]
      exact ⟨_, _, _, _, _, rfl, fct_even h2 hs (by omega) _ hY⟩
    · have en : M25.next (.c (encV a oa na) y ev od 0 (4 * na) ne no (2 * R : Nat) ((k + 2 : Nat) : Int)) = nextO (encV a oa na) y ev od 0 (4 * na) ne no (2 * R : Nat) ((k + 2 : Nat) : Int) := by
        show (match decide (Int.tmod ((k + 2 : Nat) : Int) 2 = 0) with | true => nextE (encV a oa na) y ev od 0 (4 * na) ne no (2 * R : Nat) ((k + 2 : Nat) : Int) | false => nextO (encV a oa na) y ev od 0 (4 * na) ne no (2 * R : Nat) ((k + 2 : Nat) : Int)) = _
        rw [decide_eq_false (by omega)]
      rw [en]
      unfold nextO
      rw [ho]
      exact ⟨_, _, _, _, _, rfl, fct_odd h2 (by omega) (by omega) _ hY⟩
theorem list_ext_getD {α : Type} (d : α) {l k : List α} (h : l.length = k.length) (g : ∀ j, j < l.length → l.getD j d = k.getD j d) : l = k := by
  refine List.ext_getElem? fun i => ?_
  rcases Nat.lt_or_ge i l.length with hi | hi
  · have := g i hi
    rw [List.getD_eq_getElem?_getD, List.getD_eq_getElem?_getD, List.getElem?_eq_getElem hi, List.getElem?_eq_getElem (by omega)] at this
    rw [List.getElem?_eq_getElem hi, List.getElem?_eq_getElem (by omega)]
    simpa using this
  · rw [List.getElem?_eq_none hi, List.getElem?_eq_none (by omega)]
include hR in
theorem ref_road (hn : na = 32 * R) : bmRef a oa na = road a oa na R := by
  obtain ⟨y, ev, od, ne, no, h1, h2⟩ := runs a oa na R hR hn (2 * R - 2) (by omega)
  have e1 : 2 * R - 2 + 2 = 2 * R := by omega
  rw [e1] at h1 h2
  have ef : f25 (encV a oa na) 0 (4 * na) = .c (encV a oa na) y ev od 0 (4 * na) ne no (2 * R : Nat) ((2 * R : Nat) : Int) := by
    rw [f25_eq, show 4 * na / 64 = 2 * R by omega]; exact h1
  have eb : bm8 (encV a oa na) 0 (4 * na) = ev.app od := by
    unfold bm8; rw [ef]; rfl
  have er : road a oa na R = (iter rd_next (2 * R) (st0 a oa na R)).c := by
    unfold road
    rw [show (2 * (R : Int) - 0).toNat = 2 * R by omega]
  rw [er]
  unfold bmRef
  rw [eb]
  refine vec_ext (list_ext_getD 0#32 ?_ fun j hj => ?_)
  · rw [(iter rd_next (2 * R) (st0 a oa na R)).c.h, h2.cn, (wordsV (ev.app od) na).h]; exact hn
  · have hj : j < na := by rw [(wordsV (ev.app od) na).h] at hj; exact hj
    rw [show (wordsV (ev.app od) na).l.getD j 0#32 = lw (ev.app od) (4 * j) from getD_map_range _ na j _ hj]
    have en := h2.en
    rcases Nat.lt_or_ge j (16 * R) with hj2 | hj2
    · rw [lw_left _ _ _ (by omega)]
      exact h2.e j (by omega)
    · obtain ⟨t, rfl⟩ : ∃ t, j = 16 * R + t := ⟨j - 16 * R, by omega⟩
      rw [show 4 * (16 * R + t) = ev.n + 4 * t by omega, lw_right]
      exact h2.f t (by omega)
end
end Go.Proofs.Ytnonaagcnenbdaa

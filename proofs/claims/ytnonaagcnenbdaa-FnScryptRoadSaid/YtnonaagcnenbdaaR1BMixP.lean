/- The plain law of the mix of blocks: bytes and words. -/
import Derived.Test.YtnonaagcnenbdaaR1Ref4
namespace Go.Proofs.Ytnonaagcnenbdaa
open Go.Eng
set_option linter.unusedSectionVars false
variable [RowAddr]
theorem lw4_bit (a b c d : BitVec 8) (i : Nat) (h : i < 32) : (lw4 a b c d).getLsbD i = if i < 8 then a.getLsbD i else if i < 16 then b.getLsbD (i - 8) else if i < 24 then c.getLsbD (i - 16) else d.getLsbD (i - 24) := by
  unfold lw4
  simp only [BitVec.getLsbD_or, BitVec.getLsbD_shiftLeft, BitVec.getLsbD_setWidth]
  by_cases h1 : i < 8
  · simp [h1, h, show i < 16 by omega, show i < 24 by omega]
  · by_cases h2 : i < 16
    · have e := BitVec.getLsbD_of_ge a i (by omega)
      simp [h1, h2, h, e, show i < 24 by omega, show i - 8 < 32 by omega]
    · by_cases h3 : i < 24
      · have e := BitVec.getLsbD_of_ge a i (by omega)
        have e2 := BitVec.getLsbD_of_ge b (i - 8) (by omega)
        simp [h1, h2, h3, h, e, e2, show i - 16 < 32 by omega]
      · have e := BitVec.getLsbD_of_ge a i (by omega)
        have e2 := BitVec.getLsbD_of_ge b (i - 8) (by omega)
        have e3 := BitVec.getLsbD_of_ge c (i - 16) (by omega)
        simp [h1, h2, h3, h, e, e2, e3, show i - 24 < 32 by omega]
theorem lw4_xor (a b c d a' b' c' d' : BitVec 8) : lw4 (a ^^^ a') (b ^^^ b') (c ^^^ c') (d ^^^ d') = lw4 a b c d ^^^ lw4 a' b' c' d' := by
  refine BitVec.eq_of_getLsbD_eq fun i hi => ?_
  rw [BitVec.getLsbD_xor, lw4_bit _ _ _ _ i hi, lw4_bit _ _ _ _ i hi, lw4_bit _ _ _ _ i hi]
  simp only [BitVec.getLsbD_xor]
  split
  · rfl
  · split
    · rfl
    · split <;> rfl
theorem lw4_low (x : BitVec 32) : lw4 (x.setWidth 8) ((x >>> 8).setWidth 8) ((x >>> 16).setWidth 8) ((x >>> 24).setWidth 8) = x := by
  refine BitVec.eq_of_getLsbD_eq fun i hi => ?_
  rw [lw4_bit _ _ _ _ i hi]
  simp only [BitVec.getLsbD_setWidth, BitVec.getLsbD_ushiftRight]
  by_cases h1 : i < 8
  · simp [h1]
  · by_cases h2 : i < 16
    · simp [h1, h2, show i - 8 < 8 by omega, show 8 + (i - 8) = i by omega]
    · by_cases h3 : i < 24
      · simp [h1, h2, h3, show i - 16 < 8 by omega, show 16 + (i - 16) = i by omega]
      · simp [h1, h2, h3, show i - 24 < 8 by omega, show 24 + (i - 24) = i by omega]
theorem getD_map_range {α : Type} (f : Nat → α) (n i : Nat) (d : α) (h : i < n) : ((List.range n).map f).getD i d = f i := by
  simp [List.getD_eq_getElem?_getD, h]
theorem lw_xoV (a : Vec 8) (oa : Nat) (b : Vec 8) (ob n p : Nat) (h : p + 3 < n) : lw (xoV a oa b ob n) p = lw a (oa + p) ^^^ lw b (ob + p) := by
  unfold lw
  rw [← lw4_xor]
  show lw4 (((List.range n).map _).getD (p + 0) 0#8) (((List.range n).map _).getD (p + 1) 0#8) (((List.range n).map _).getD (p + 2) 0#8) (((List.range n).map _).getD (p + 3) 0#8) = _
  rw [getD_map_range _ n (p + 0) _ (by omega), getD_map_range _ n (p + 1) _ (by omega), getD_map_range _ n (p + 2) _ (by omega), getD_map_range _ n (p + 3) _ (by omega)]
  simp only [Nat.add_assoc]
theorem setL_same {α : Type} : ∀ (xs l : List α) (pre : List α), l.length = xs.length → setL (pre ++ l) pre.length xs = pre ++ xs
  | [], l, pre, h => by
    have : l = [] := List.length_eq_zero_iff.1 h
    subst this; rfl
  | x :: xs, [], pre, h => by simp at h
  | x :: xs, y :: l, pre, h => by
    have e : (pre ++ y :: l).set pre.length x = (pre ++ [x]) ++ l := by simp
    show setL ((pre ++ y :: l).set pre.length x) (pre.length + 1) xs = _
    rw [e]
    have := setL_same xs l (pre ++ [x]) (by simpa using h)
    simpa using this
theorem ldX_l (u : Vec 8) (h : u.n = 64) : (ldX u 64).l = u.l := by
  have hu := u.h
  have e : ((Vec.of (List.replicate 64 0#8)).over 0 (u.sub 0 64)).l = u.l := by
    have e1 : (u.sub 0 64).l = u.l := by rw [Vec.sub_l (by omega), List.drop_zero]; exact List.take_of_length_le (by omega)
    show setL (List.replicate 64 0#8) 0 (u.sub 0 64).l = u.l
    rw [e1]
    exact setL_same u.l (List.replicate 64 0#8) [] (by simp; omega)
  show (List.range 64).map (fun i => ((Vec.of (List.replicate 64 0#8)).over 0 (u.sub 0 64)).l.getD (0 + i) 0#8) = u.l
  rw [e]
  refine List.ext_getElem? fun i => ?_
  rw [List.getElem?_map]
  rcases Nat.lt_or_ge i 64 with hi | hi
  · simp [hi, show i < u.l.length by omega]
  · simp [hi, show u.l.length ≤ i by omega]
theorem lw_ldX (u : Vec 8) (p : Nat) (h : u.n = 64) : lw (ldX u 64) p = lw u p := by
  unfold lw
  rw [ldX_l u h]
theorem cp64_get (y : Vec 8) (i : Nat) (h : i < 64) : (cp64 y).l.getD i 0#8 = y.l.getD i 0#8 := getD_map_range (fun i => y.l.getD i 0#8) 64 i 0#8 h
theorem lw_cp64 (y : Vec 8) (p : Nat) (h : p + 3 < 64) : lw (cp64 y) p = lw y p := by
  unfold lw
  rw [cp64_get y (p + 0) (by omega), cp64_get y (p + 1) (by omega), cp64_get y (p + 2) (by omega), cp64_get y (p + 3) (by omega)]
theorem words_bytes (w : W16) : words16 (bytes16 w) = w := by
  have e : words16 (bytes16 w) = ⟨lw4 (w.x0.setWidth 8) ((w.x0 >>> 8).setWidth 8) ((w.x0 >>> 16).setWidth 8) ((w.x0 >>> 24).setWidth 8), lw4 (w.x1.setWidth 8) ((w.x1 >>> 8).setWidth 8) ((w.x1 >>> 16).setWidth 8) ((w.x1 >>> 24).setWidth 8), lw4 (w.x2.setWidth 8) ((w.x2 >>> 8).setWidth 8) ((w.x2 >>> 16).setWidth 8) ((w.x2 >>> 24).setWidth 8), lw4 (w.x3.setWidth 8) ((w.x3 >>> 8).setWidth 8) ((w.x3 >>> 16).setWidth 8) ((w.x3 >>> 24).setWidth 8), lw4 (w.x4.setWidth 8) ((w.x4 >>> 8).setWidth 8) ((w.x4 >>> 16).setWidth 8) ((w.x4 >>> 24).setWidth 8), lw4 (w.x5.setWidth 8) ((w.x5 >>> 8).setWidth 8) ((w.x5 >>> 16).setWidth 8) ((w.x5 >>> 24).setWidth 8), lw4 (w.x6.setWidth 8) ((w.x6 >>> 8).setWidth 8) ((w.x6 >>> 16).setWidth 8) ((w.x6 >>> 24).setWidth 8), lw4 (w.x7.setWidth 8) ((w.x7 >>> 8).setWidth 8) ((w.x7 >>> 16).setWidth 8) ((w.x7 >>> 24).setWidth 8), lw4 (w.x8.setWidth 8) ((w.x8 >>> 8).setWidth 8) ((w.x8 >>> 16).setWidth 8) ((w.x8 >>> 24).setWidth 8), lw4 (w.x9.setWidth 8) ((w.x9 >>> 8).setWidth 8) ((w.x9 >>> 16).setWidth 8) ((w.x9 >>> 24).setWidth 8), lw4 (w.x10.setWidth 8) ((w.x10 >>> 8).setWidth 8) ((w.x10 >>> 16).setWidth 8) ((w.x10 >>> 24).setWidth 8), lw4 (w.x11.setWidth 8) ((w.x11 >>> 8).setWidth 8) ((w.x11 >>> 16).setWidth 8) ((w.x11 >>> 24).setWidth 8), lw4 (w.x12.setWidth 8) ((w.x12 >>> 8).setWidth 8) ((w.x12 >>> 16).setWidth 8) ((w.x12 >>> 24).setWidth 8), lw4 (w.x13.setWidth 8) ((w.x13 >>> 8).setWidth 8) ((w.x13 >>> 16).setWidth 8) ((w.x13 >>> 24).setWidth 8), lw4 (w.x14.setWidth 8) ((w.x14 >>> 8).setWidth 8) ((w.x14 >>> 16).setWidth 8) ((w.x14 >>> 24).setWidth 8), lw4 (w.x15.setWidth 8) ((w.x15 >>> 8).setWidth 8) ((w.x15 >>> 16).setWidth 8) ((w.x15 >>> 24).setWidth 8)⟩ := by kernel_rfl
  rw [e]
  simp only [lw4_low]
def wordsAt (v : Vec 8) (o : Nat) : W16 := ⟨lw v (o + 0), lw v (o + 4), lw v (o + 8), lw v (o + 12), lw v (o + 16), lw v (o + 20), lw v (o + 24), lw v (o + 28), lw v (o + 32), lw v (o + 36), lw v (o + 40), lw v (o + 44), lw v (o + 48), lw v (o + 52), lw v (o + 56), lw v (o + 60)⟩
theorem words_y (v y : Vec 8) (o : Nat) : words16 (yB v y o) = sumW (xor16 (words16 y) (wordsAt v o)) := by
  unfold yB core8
  rw [words_bytes]
  have e : words16 (ldX (xoV (cp64 y) 0 v o 64) 64) = xor16 (words16 y) (wordsAt v o) := by
    have g : ∀ p, p + 3 < 64 → lw (ldX (xoV (cp64 y) 0 v o 64) 64) p = lw y p ^^^ lw v (o + p) := by
      intro p hp
      rw [lw_ldX _ _ rfl, lw_xoV _ _ _ _ _ _ hp, Nat.zero_add, lw_cp64 y p hp]
    unfold words16 xor16 wordsAt
    simp only
    rw [g 0 (by omega), g 4 (by omega), g 8 (by omega), g 12 (by omega), g 16 (by omega), g 20 (by omega), g 24 (by omega), g 28 (by omega), g 32 (by omega), g 36 (by omega), g 40 (by omega), g 44 (by omega), g 48 (by omega), g 52 (by omega), g 56 (by omega), g 60 (by omega)]
  rw [e]
theorem words_yA (v : Vec 8) (o ol : Nat) : words16 (yA v o ol 64) = sumW (xor16 (wordsAt v ol) (wordsAt v o)) := by
  unfold yA core8
  rw [words_bytes]
  have e : words16 (ldX (xoV v ol v o 64) (Nat.min 64 64)) = xor16 (wordsAt v ol) (wordsAt v o) := by
    have g : ∀ p, p + 3 < 64 → lw (ldX (xoV v ol v o 64) (Nat.min 64 64)) p = lw v (ol + p) ^^^ lw v (o + p) := by
      intro p hp
      rw [show Nat.min 64 64 = 64 from rfl, lw_ldX _ _ rfl, lw_xoV _ _ _ _ _ _ hp]
    unfold words16 xor16 wordsAt
    simp only
    rw [g 0 (by omega), g 4 (by omega), g 8 (by omega), g 12 (by omega), g 16 (by omega), g 20 (by omega), g 24 (by omega), g 28 (by omega), g 32 (by omega), g 36 (by omega), g 40 (by omega), g 44 (by omega), g 48 (by omega), g 52 (by omega), g 56 (by omega), g 60 (by omega)]
  rw [e]
theorem flat_get (f : Nat → List (BitVec 8)) (hf : ∀ i, (f i).length = 4) (hl : ∀ m, ((List.range m).flatMap f).length = 4 * m) : ∀ (m j t : Nat), j < m → t < 4 → ((List.range m).flatMap f).getD (4 * j + t) 0#8 = (f j).getD t 0#8
  | 0, j, t, h, _ => by omega
  | m + 1, j, t, h, ht => by
    rw [List.range_succ, List.flatMap_append, List.getD_eq_getElem?_getD]
    rcases Nat.lt_or_ge j m with hj | hj
    · rw [List.getElem?_append_left (by rw [hl]; omega), ← List.getD_eq_getElem?_getD]
      exact flat_get f hf hl m j t hj ht
    · have : j = m := by omega
      subst this
      rw [List.getElem?_append_right (by rw [hl]; omega), hl, show 4 * j + t - 4 * j = t by omega]
      simp [List.getD_eq_getElem?_getD]
theorem lw_enc (a : Vec 32) (oa m j : Nat) (h : j < m) : lw (encV a oa m) (4 * j) = a.l.getD (oa + j) 0#32 := by
  have g : ∀ t, t < 4 → (encV a oa m).l.getD (4 * j + t) 0#8 = (low4 (a.l.getD (oa + j) 0#32)).getD t 0#8 := fun t ht => flat_get (fun i => low4 (a.l.getD (oa + i) 0#32)) (fun _ => rfl) (enc_len a oa) m j t h ht
  unfold lw
  rw [g 0 (by omega), g 1 (by omega), g 2 (by omega), g 3 (by omega)]
  exact lw4_low _
theorem wordsAt_enc (a : Vec 32) (oa m i : Nat) (h : 16 * i + 16 ≤ m) : wordsAt (encV a oa m) (64 * i) = take16 a (oa + 16 * i) := by
  have g : ∀ t, t < 16 → lw (encV a oa m) (64 * i + 4 * t) = a.l.getD (oa + 16 * i + t) 0#32 := by
    intro t ht
    rw [show 64 * i + 4 * t = 4 * (16 * i + t) by omega, lw_enc a oa m _ (by omega), Nat.add_assoc]
  unfold wordsAt take16
  rw [show 64 * i + 0 = 64 * i + 4 * 0 from rfl, g 0 (by omega), show 64 * i + 4 = 64 * i + 4 * 1 from rfl, g 1 (by omega), show 64 * i + 8 = 64 * i + 4 * 2 from rfl, g 2 (by omega), show 64 * i + 12 = 64 * i + 4 * 3 from rfl, g 3 (by omega), show 64 * i + 16 = 64 * i + 4 * 4 from rfl, g 4 (by omega), show 64 * i + 20 = 64 * i + 4 * 5 from rfl, g 5 (by omega), show 64 * i + 24 = 64 * i + 4 * 6 from rfl, g 6 (by omega), show 64 * i + 28 = 64 * i + 4 * 7 from rfl, g 7 (by omega), show 64 * i + 32 = 64 * i + 4 * 8 from rfl, g 8 (by omega), show 64 * i + 36 = 64 * i + 4 * 9 from rfl, g 9 (by omega), show 64 * i + 40 = 64 * i + 4 * 10 from rfl, g 10 (by omega), show 64 * i + 44 = 64 * i + 4 * 11 from rfl, g 11 (by omega), show 64 * i + 48 = 64 * i + 4 * 12 from rfl, g 12 (by omega), show 64 * i + 52 = 64 * i + 4 * 13 from rfl, g 13 (by omega), show 64 * i + 56 = 64 * i + 4 * 14 from rfl, g 14 (by omega), show 64 * i + 60 = 64 * i + 4 * 15 from rfl, g 15 (by omega)]
  rfl
theorem sum_salsa (w : W16) : sumW w = salsa8 w := by
  unfold sumW salsa8
  generalize dbl (dbl (dbl (dbl w))) = z
  simp only [add16, BitVec.add_comm]
theorem set_getD (v : Vec 32) (i j : Nat) (x : BitVec 32) (hi : i < v.n) : (v.set i x).l.getD j 0#32 = if j = i then x else v.l.getD j 0#32 := by
  have := v.h
  show (v.l.set i x).getD j 0#32 = _
  rw [List.getD_eq_getElem?_getD, List.getD_eq_getElem?_getD, List.getElem?_set]
  by_cases h : j = i
  · subst h
    simp [show j < v.l.length by omega]
  · rw [if_neg h, if_neg (fun e => h e.symm)]
theorem put_setL (c : Vec 32) (p : Nat) (x : W16) : (put16 c p x).l = setL c.l p x.list := by kernel_rfl
theorem setL_out {α : Type} (d : α) : ∀ (xs l : List α) (o j : Nat), o + xs.length ≤ l.length → (j < o ∨ o + xs.length ≤ j) → (setL l o xs).getD j d = l.getD j d
  | [], l, o, j, _, _ => rfl
  | x :: xs, l, o, j, h, hj => by
    simp only [List.length_cons] at h hj
    rw [setL, setL_out d xs (l.set o x) (o + 1) j (by rw [List.length_set]; omega) (by omega), List.getD_eq_getElem?_getD, List.getD_eq_getElem?_getD, List.getElem?_set, if_neg (by omega)]
theorem setL_in {α : Type} (d : α) : ∀ (xs l : List α) (o t : Nat), o + xs.length ≤ l.length → t < xs.length → (setL l o xs).getD (o + t) d = xs.getD t d
  | [], l, o, t, _, h => by simp at h
  | x :: xs, l, o, 0, h, _ => by
    simp only [List.length_cons] at h
    rw [setL, setL_out d xs (l.set o x) (o + 1) (o + 0) (by rw [List.length_set]; omega) (by omega), List.getD_eq_getElem?_getD, List.getElem?_set, if_pos (by omega), if_pos (by omega)]
    rfl
  | x :: xs, l, o, t + 1, h, ht => by
    simp only [List.length_cons] at h ht
    have := setL_in d xs (l.set o x) (o + 1) t (by rw [List.length_set]; omega) (by omega)
    rw [setL, show o + (t + 1) = o + 1 + t by omega, this]
    rfl
theorem put_out (c : Vec 32) (p j : Nat) (x : W16) (h : p + 16 ≤ c.n) (hj : j < p ∨ p + 16 ≤ j) : (put16 c p x).l.getD j 0#32 = c.l.getD j 0#32 := by
  have hc := c.h
  rw [put_setL]
  exact setL_out _ _ _ _ _ (by show p + 16 ≤ _; omega) hj
theorem put_in (c : Vec 32) (p t : Nat) (x : W16) (h : p + 16 ≤ c.n) (ht : t < 16) : (put16 c p x).l.getD (p + t) 0#32 = x.list.getD t 0#32 := by
  have hc := c.h
  rw [put_setL]
  exact setL_in _ _ _ _ _ (by show p + 16 ≤ _; omega) ht
theorem app_getD (a b : Vec 8) (i : Nat) : (a.app b).l.getD i 0#8 = if i < a.n then a.l.getD i 0#8 else b.l.getD (i - a.n) 0#8 := by
  have := a.h
  show (a.l ++ b.l).getD i 0#8 = _
  rw [List.getD_eq_getElem?_getD, List.getD_eq_getElem?_getD, List.getD_eq_getElem?_getD]
  split
  · rw [List.getElem?_append_left (by omega)]
  · rw [List.getElem?_append_right (by omega), this]
theorem lw_left (a b : Vec 8) (p : Nat) (h : p + 3 < a.n) : lw (a.app b) p = lw a p := by
  unfold lw
  rw [app_getD, app_getD, app_getD, app_getD, if_pos (by omega), if_pos (by omega), if_pos (by omega), if_pos (by omega)]
theorem lw_right (a b : Vec 8) (p : Nat) : lw (a.app b) (a.n + p) = lw b p := by
  unfold lw
  rw [app_getD, app_getD, app_getD, app_getD, if_neg (by omega), if_neg (by omega), if_neg (by omega), if_neg (by omega)]
  rw [show a.n + p + 0 - a.n = p + 0 by omega, show a.n + p + 1 - a.n = p + 1 by omega, show a.n + p + 2 - a.n = p + 2 by omega, show a.n + p + 3 - a.n = p + 3 by omega]
theorem words_list (y : Vec 8) (t : Nat) (ht : t < 16) : (words16 y).list.getD t 0#32 = lw y (4 * t) := by
  match t, ht with
  | 0, _ => rfl
  | 1, _ => rfl
  | 2, _ => rfl
  | 3, _ => rfl
  | 4, _ => rfl
  | 5, _ => rfl
  | 6, _ => rfl
  | 7, _ => rfl
  | 8, _ => rfl
  | 9, _ => rfl
  | 10, _ => rfl
  | 11, _ => rfl
  | 12, _ => rfl
  | 13, _ => rfl
  | 14, _ => rfl
  | 15, _ => rfl
  | t + 16, h => exact absurd h (by omega)
end Go.Proofs.Ytnonaagcnenbdaa

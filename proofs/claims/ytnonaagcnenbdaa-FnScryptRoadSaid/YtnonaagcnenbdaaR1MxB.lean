/- The plain law of scrypt's mix: the package's and the reference's are one. -/
import Derived.Test.YtnonaagcnenbdaaR1MxK
import Derived.Test.YtnonaagcnenbdaaR1Sy
import Derived.Test.YtnonaagcnenbdaaR1Mz
namespace Go.Proofs.Ytnonaagcnenbdaa
open Go.Eng blockRoad
set_option linter.unusedSectionVars false
variable [RowAddr]
/-! Bytes and words. -/
theorem low4_lw4 (a b c d : BitVec 8) : low4 (lw4 a b c d) = [a, b, c, d] := by
  unfold low4
  have e (k : Nat) (z : BitVec 8) (hk : k ≤ 24) (hz : ∀ i, i < 8 → (lw4 a b c d).getLsbD (k + i) = z.getLsbD i) : ((lw4 a b c d) >>> k).setWidth 8 = z := by
    refine BitVec.eq_of_getLsbD_eq fun i hi => ?_
    rw [BitVec.getLsbD_setWidth, BitVec.getLsbD_ushiftRight, hz i hi]
    simp [hi]
  have e0 : (lw4 a b c d).setWidth 8 = a := by
    refine BitVec.eq_of_getLsbD_eq fun i hi => ?_
    rw [BitVec.getLsbD_setWidth, lw4_bit _ _ _ _ i (by omega), if_pos hi]
    simp [hi]
  rw [e0, e 8 b (by omega) (fun i hi => by rw [lw4_bit _ _ _ _ _ (by omega), if_neg (by omega), if_pos (by omega)]; congr 1; omega),
    e 16 c (by omega) (fun i hi => by rw [lw4_bit _ _ _ _ _ (by omega), if_neg (by omega), if_neg (by omega), if_pos (by omega)]; congr 1; omega),
    e 24 d (by omega) (fun i hi => by rw [lw4_bit _ _ _ _ _ (by omega), if_neg (by omega), if_neg (by omega), if_neg (by omega)]; congr 1; omega)]
theorem enc_get (a : Vec 32) (R q : Nat) (h : q < 4 * R) : (encV a 0 R).l.getD q 0#8 = (low4 (gW a (q / 4))).getD (q % 4) 0#8 := by
  have := flat_get (fun i => low4 (a.l.getD (0 + i) 0#32)) (fun _ => rfl) (enc_len a 0) R (q / 4) (q % 4) (by omega) (by omega)
  rw [show 4 * (q / 4) + q % 4 = q by omega] at this
  rw [show encV a 0 R = ⟨4 * R, (List.range R).flatMap fun i => low4 (a.l.getD (0 + i) 0#32), enc_len a 0 R⟩ from rfl]
  rw [this, Nat.zero_add]; rfl
theorem words_get (v : Vec 8) (R j : Nat) (h : j < R) : gW (wordsV v R) j = lw v (4 * j) := getD_map_range (fun i => lw v (4 * i)) R j 0#32 h
theorem gB_ext {a b : Vec 8} (hn : a.n = b.n) (h : ∀ j, j < a.n → a.l.getD j 0#8 = b.l.getD j 0#8) : a = b := by
  have h1 := a.h
  have h2 := b.h
  refine vec_ext (list_ext_getD 0#8 (by omega) fun j hj => h j (by omega))
theorem enc_words (v : Vec 8) (R : Nat) (h : v.n = 4 * R) : encV (wordsV v R) 0 R = v := by
  refine gB_ext h.symm fun q hq => ?_
  have hq : q < 4 * R := hq
  rw [enc_get _ _ _ hq, words_get _ _ _ (by omega)]
  unfold lw
  rw [low4_lw4]
  have : q % 4 < 4 := Nat.mod_lt _ (by omega)
  have e : q = 4 * (q / 4) + q % 4 := by omega
  generalize hs : q % 4 = s at this e ⊢
  match s, this with
  | 0, _ => exact congrArg (fun i => v.l.getD i 0#8) (show 4 * (q / 4) + 0 = q by omega)
  | 1, _ => exact congrArg (fun i => v.l.getD i 0#8) (show 4 * (q / 4) + 1 = q by omega)
  | 2, _ => exact congrArg (fun i => v.l.getD i 0#8) (show 4 * (q / 4) + 2 = q by omega)
  | 3, _ => exact congrArg (fun i => v.l.getD i 0#8) (show 4 * (q / 4) + 3 = q by omega)
section
variable (p : Nat) (hp : 1 ≤ p)
include hp in
theorem words_bm (v : Vec 8) (h : v.n = 4 * (32 * p)) : wordsV (bm8 v 0 (4 * (32 * p))) (32 * p) = BMw p (wordsV v (32 * p)) := by
  have e := ref_road (wordsV v (32 * p)) 0 (32 * p) p hp rfl
  unfold bmRef at e
  rw [enc_words v (32 * p) h] at e
  exact e
theorem words_xo (R : Nat) (v u : Vec 8) : wordsV (xoV v 0 u 0 (4 * R)) R = xW R (wordsV v R) (wordsV u R) := by
  refine gW_ext rfl fun j hj => ?_
  have hj : j < R := hj
  rw [words_get _ _ _ hj, xW_get _ _ _ _ hj, words_get _ _ _ hj, words_get _ _ _ hj, lw_xoV _ _ _ _ _ _ (by omega), Nat.zero_add]
theorem ofInt_wrap (n : Int) : BitVec.ofInt 64 (IntKind.i64.wrap n) = BitVec.ofInt 64 n := by
  refine BitVec.eq_of_toNat_eq ?_
  rw [BitVec.toNat_ofInt, BitVec.toNat_ofInt]
  have e : IntKind.i64.wrap n = n % 18446744073709551616 ∨ IntKind.i64.wrap n = n % 18446744073709551616 - 18446744073709551616 := by
    have hd : IntKind.i64.wrap n = (if (true && decide (n % (2 ^ 64 : Int) ≥ (2 ^ (64 - 1) : Int))) = true then n % (2 ^ 64 : Int) - (2 ^ 64 : Int) else n % (2 ^ 64 : Int)) := rfl
    rw [hd]
    split
    · exact .inr rfl
    · exact .inl rfl
  have e64 : ((2 ^ 64 : Nat) : Int) = 18446744073709551616 := rfl
  rw [e64]
  rcases e with e | e <;> rw [e] <;> omega
theorem ofInt_nat (n : Nat) (x : BitVec 32) (h : n = x.toNat) : BitVec.ofInt 64 (n : Int) = x.setWidth 64 := by
  subst h
  rw [BitVec.ofInt_natCast]
  refine BitVec.eq_of_toNat_eq ?_
  rw [BitVec.toNat_setWidth, BitVec.toNat_ofNat]
theorem shl_is (B : BitVec 32) : BitVec.ofInt 64 (shlV .i64 (B.toNat : Int) 32) = B.setWidth 64 <<< 32 := by
  have eS : shlV .i64 (B.toNat : Int) 32 = IntKind.i64.wrap ((B.toNat : Int) * 2 ^ 32) := rfl
  rw [eS, ofInt_wrap, show (B.toNat : Int) * 2 ^ 32 = ((B.toNat * 2 ^ 32 : Nat) : Int) by omega, BitVec.ofInt_natCast]
  refine BitVec.eq_of_toNat_eq ?_
  rw [BitVec.toNat_ofNat, BitVec.toNat_shiftLeft, BitVec.toNat_setWidth, Nat.shiftLeft_eq]
  have hB : B.toNat % 2 ^ 64 = B.toNat := Nat.mod_eq_of_lt (Nat.lt_trans B.isLt (by decide))
  rw [hB]
include hp in
theorem key_is (v : Vec 8) (N : Int) (h1 : 2 ≤ N) (h2 : N ≤ 1000000) : keyV v (4 * (32 * p)) N = keyW (wordsV v (32 * p)) p N := by
  unfold keyV keyI keyW keyB
  rw [(andV_nat _ N (by omega) h2).1, Int.toNat_natCast]
  congr 2
  rw [words_get _ _ _ (by omega), words_get _ _ _ (by omega)]
  have q1 : 0 + (((4 * (32 * p) : Nat) : Int) - 64).toNat = 4 * (32 * p - 16) := by omega
  have q2 : 0 + (((4 * (32 * p) : Nat) : Int) - 64 + 4).toNat = 4 * (32 * p - 15) := by omega
  rw [q1, q2]
  generalize lw v (4 * (32 * p - 16)) = A
  generalize lw v (4 * (32 * p - 15)) = B
  unfold orV
  rw [ofInt_wrap]
  show BitVec.ofInt 64 (((BitVec.ofInt 64 (A.toNat : Int) ||| BitVec.ofInt 64 (shlV .i64 (B.toNat : Int) 32)).toNat : Nat) : Int) = _
  have e0 : ∀ X : BitVec 64, BitVec.ofInt 64 ((X.toNat : Nat) : Int) = X := fun X => by rw [BitVec.ofInt_natCast, BitVec.ofNat_toNat, BitVec.setWidth_eq]
  refine (e0 _).trans ?_
  have eA := ofInt_nat A.toNat A rfl
  have eS : BitVec.ofInt 64 (shlV .i64 (B.toNat : Int) 32) = B.setWidth 64 <<< 32 := shl_is B
  exact (congr (congrArg (fun x y : BitVec 64 => x ||| y) eA) eS)
/-- The reference, in words. -/
theorem ref_w (hp : 1 ≤ p) (hp2 : p ≤ 1000) (b : Vec 8) (hb : b.n = 4 * (32 * p)) : ∀ K : Nat, (vK b (4 * (32 * p)) K).n = 4 * (32 * p) ∧ wordsV (vK b (4 * (32 * p)) K) (32 * p) = wK p (wordsV b (32 * p)) K
  | 0 => ⟨hb, rfl⟩
  | K + 1 => by
    obtain ⟨h1, h2⟩ := ref_w hp hp2 b hb K
    rw [show vK b (4 * (32 * p)) (K + 1) = bm8 (vK b (4 * (32 * p)) K) 0 (4 * (32 * p)) from iter_succ _ K b]
    refine ⟨bm8_n _ 0 _ (by omega) (by omega) (by omega) (by omega), ?_⟩
    rw [words_bm p hp _ h1, h2, wK_succ]
theorem ref_y (hp : 1 ≤ p) (hp2 : p ≤ 1000) (b : Vec 8) (hb : b.n = 4 * (32 * p)) (N : Int) (h1 : 2 ≤ N) (h2 : N ≤ 1000000) : ∀ i : Nat, ∃ v m j, iter pkNx i (pk0 b (4 * (32 * p)) N) = ⟨b, v, m, vK b (4 * (32 * p)), 4 * (32 * p), N.toNat, N, j⟩ ∧ v.n = 4 * (32 * p) ∧ wordsV v (32 * p) = yK p (wordsV b (32 * p)) N i
  | 0 => ⟨_, _, _, rfl, (ref_w p hp hp2 b hb _).1, (ref_w p hp hp2 b hb _).2⟩
  | i + 1 => by
    obtain ⟨v, m, j, e1, e2, e3⟩ := ref_y hp hp2 b hb N h1 h2 i
    rw [iter_succ, e1]
    have ek : pkKey ⟨b, v, m, vK b (4 * (32 * p)), 4 * (32 * p), N.toNat, N, j⟩ = keyW (wordsV v (32 * p)) p N := key_is p hp v N h1 h2
    refine ⟨bm8 (xoV v 0 (vK b (4 * (32 * p)) (keyW (wordsV v (32 * p)) p N)) 0 (4 * (32 * p))) 0 (4 * (32 * p)), .own, j + 1, ?_, ?_, ?_⟩
    · rw [← ek]; rfl
    · exact bm8_n _ 0 _ (by omega) (by omega) (by omega) (by show 0 + _ ≤ 4 * (32 * p); omega)
    · rw [words_bm p hp _ rfl, words_xo, e3, (ref_w p hp hp2 b hb _).2, yK_succ]; rfl
theorem ref_mix (hp : 1 ≤ p) (hp2 : p ≤ 1000) (b : Vec 8) (hb : b.n = 4 * (32 * p)) (N : Int) (h1 : 2 ≤ N) (h2 : N ≤ 1000000) : mixRef b (4 * (32 * p)) N = encV (yK p (wordsV b (32 * p)) N N.toNat) 0 (32 * p) := by
  obtain ⟨v, m, j, e1, e2, e3⟩ := ref_y p hp hp2 b hb N h1 h2 N.toNat
  unfold mixRef
  rw [e1, ← e3, enc_words v (32 * p) e2]
/-! The package. -/
theorem set8_getD (v : Vec 8) (i j : Nat) (x : BitVec 8) (hi : i < v.n) : (v.set i x).l.getD j 0#8 = if j = i then x else v.l.getD j 0#8 := by
  have := v.h
  show (v.l.set i x).getD j 0#8 = _
  rw [List.getD_eq_getElem?_getD, List.getD_eq_getElem?_getD, List.getElem?_set]
  by_cases h : j = i
  · subst h
    simp [show j < v.l.length by omega]
  · rw [if_neg h, if_neg (fun e => h e.symm)]
theorem put4_get (b : Vec 8) (o : Nat) (w : BitVec 32) (q : Nat) (h : o + 4 ≤ b.n) : (put4B b o w).l.getD q 0#8 = if o ≤ q ∧ q < o + 4 then (low4 w).getD (q - o) 0#8 else b.l.getD q 0#8 := by
  unfold put4B
  have n1 : (b.set (o + 0) (w.setWidth 8)).n = b.n := rfl
  have n2 : ((b.set (o + 0) (w.setWidth 8)).set (o + 1) ((w >>> 8).setWidth 8)).n = b.n := rfl
  have n3 : (((b.set (o + 0) (w.setWidth 8)).set (o + 1) ((w >>> 8).setWidth 8)).set (o + 2) ((w >>> 16).setWidth 8)).n = b.n := rfl
  rw [set8_getD _ _ _ _ (by omega), set8_getD _ _ _ _ (by omega), set8_getD _ _ _ _ (by omega), set8_getD _ _ _ _ (by omega)]
  by_cases g : o ≤ q ∧ q < o + 4
  · rw [if_pos g]
    obtain ⟨s, rfl⟩ : ∃ s, q = o + s := ⟨q - o, by omega⟩
    have hs : s < 4 := by omega
    rw [show o + s - o = s by omega]
    match s, hs with
    | 0, _ => rw [if_neg (by omega), if_neg (by omega), if_neg (by omega), if_pos rfl]; rfl
    | 1, _ => rw [if_neg (by omega), if_neg (by omega), if_pos rfl]; rfl
    | 2, _ => rw [if_neg (by omega), if_pos rfl]; rfl
    | 3, _ => rw [if_pos rfl]; rfl
  · rw [if_neg g, if_neg (by omega), if_neg (by omega), if_neg (by omega), if_neg (by omega)]
theorem out_get (b : Vec 8) (x : Vec 32) : ∀ m : Nat, 4 * m ≤ b.n → ∀ q, (outB b x m).l.getD q 0#8 = if q < 4 * m then (low4 (gW x (q / 4))).getD (q % 4) 0#8 else b.l.getD q 0#8
  | 0, _, q => by rw [if_neg (by omega)]; rfl
  | m + 1, h, q => by
    have ih := out_get b x m (by omega) q
    have hn : (outB b x m).n = b.n := outB_n b x m
    show (put4B (outB b x m) (0 + 4 * m) (x.l.getD (0 + m) 0#32)).l.getD q 0#8 = _
    rw [put4_get _ _ _ _ (by omega), ih]
    by_cases g : 0 + 4 * m ≤ q ∧ q < 0 + 4 * m + 4
    · rw [if_pos g, if_pos (by omega), show 0 + m = q / 4 by omega, show q - (0 + 4 * m) = q % 4 by omega]; rfl
    · rw [if_neg g]
      by_cases g2 : q < 4 * m
      · rw [if_pos g2, if_pos (by omega)]
      · rw [if_neg g2, if_neg (by omega)]
theorem fill_get (b : Vec 8) (x : Vec 32) : ∀ m : Nat, m ≤ x.n → ∀ j, j < m → gW (fillX b x m) j = lw b (4 * j)
  | 0, _, j, hj => by omega
  | m + 1, h, j, hj => by
    have hn : (fillX b x m).n = x.n := fillX_n b x m
    have e : gW (fillX b x (m + 1)) j = if j = 0 + m then leW b (0 + 4 * m) else gW (fillX b x m) j := set_getD _ _ _ _ (by omega)
    rw [e]
    by_cases g : j = m
    · subst g
      rw [if_pos (by omega), Nat.zero_add]; rfl
    · rw [if_neg (by omega)]
      exact fill_get b x m (by omega) j (by omega)
/-- The package's mix is the reference's. -/
theorem smix_ref (hp : 1 ≤ p) (hp2 : p ≤ 1000) (b : Vec 8) (hb : b.n = 4 * (32 * p)) (N : Int) (h1 : 2 ≤ N) (h2 : N ≤ 1000000) (h3 : N % 2 = 0) : smixV b 0 (4 * (32 * p)) p N = mixRef b (4 * (32 * p)) N := by
  rw [ref_mix p hp hp2 b hb N h1 h2]
  unfold smixV
  rw [sub_all b _ hb.symm]
  unfold smixB picked kept
  rw [pR]
  obtain ⟨M, hM⟩ : ∃ M : Nat, N = 2 * (M : Int) := ⟨(N / 2).toNat, by omega⟩
  have eM : (N / 2).toNat = M := by omega
  have eN : N.toNat = 2 * M := by omega
  rw [eM]
  have enw : (32 * N * (p : Int)).toNat = N.toNat * (32 * p) := by
    rw [eN, hM, show 32 * (2 * (M : Int)) * (p : Int) = ((2 * M * (32 * p) : Nat) : Int) by push_cast; rw [Int.mul_comm 32 (2 * (M : Int)), Int.mul_assoc], Int.toNat_natCast]
  have ex : (64 * (p : Int)).toNat = 64 * p := by omega
  rw [enw, ex]
  have hz : (Vec.zero 32 (N.toNat * (32 * p))).n = N.toNat * (32 * p) := rfl
  have hx : (fillX b (Vec.zero 32 (64 * p)) (32 * p)).n = 64 * p := fillX_n _ _ _
  have h0 : Is (fillX b (Vec.zero 32 (64 * p)) (32 * p)) 0 (32 * p) (wordsV b (32 * p)) := fun j hj => by
    rw [Nat.zero_add, fill_get b _ (32 * p) (by show 32 * p ≤ 64 * p; omega) j hj, words_get _ _ _ hj]
  obtain ⟨k1, k2⟩ := keep_is p hp (wordsV b (32 * p)) rfl (N.toNat * (32 * p)) (Vec.zero 32 (N.toNat * (32 * p))) (fillX b (Vec.zero 32 (64 * p)) (32 * p)) zero16 hx rfl h0 (Nat.le_of_eq hz.symm) M (by rw [eN]; exact Nat.le_refl _)
  obtain ⟨n1, n2, n3⟩ := keepS_n (N.toNat * (32 * p)) (32 * p) p (32 * (p : Int)) ⟨Vec.zero 32 (N.toNat * (32 * p)), fillX b (Vec.zero 32 (64 * p)) (32 * p), zero16⟩ M
  have hy0 : yK p (wordsV b (32 * p)) N 0 = wK p (wordsV b (32 * p)) (2 * M) := by
    show wK p (wordsV b (32 * p)) N.toNat = _
    rw [eN]
  have q := pick_is p hp (wordsV b (32 * p)) rfl N h1 h2 (keepS (N.toNat * (32 * p)) (32 * p) p (32 * (p : Int)) ⟨Vec.zero 32 (N.toNat * (32 * p)), fillX b (Vec.zero 32 (64 * p)) (32 * p), zero16⟩ M) (n2.trans hx) n3 (by rw [hy0]; exact k1) (fun K hK => k2 K (by omega)) M
  rw [eN]
  have hbn : (outB b (pickS (32 * p) p N (32 * (p : Int)) (keepS (N.toNat * (32 * p)) (32 * p) p (32 * (p : Int)) ⟨Vec.zero 32 (N.toNat * (32 * p)), fillX b (Vec.zero 32 (64 * p)) (32 * p), zero16⟩ M) M).x (32 * p)).n = 4 * (32 * p) := (outB_n _ _ _).trans hb
  rw [eN] at q hbn
  refine gB_ext hbn fun j hj => ?_
  rw [hbn] at hj
  rw [out_get _ _ _ (by omega), if_pos hj, enc_get _ _ _ hj]
  have := q (j / 4) (by omega)
  rw [Nat.zero_add] at this
  rw [this]
end
end Go.Proofs.Ytnonaagcnenbdaa

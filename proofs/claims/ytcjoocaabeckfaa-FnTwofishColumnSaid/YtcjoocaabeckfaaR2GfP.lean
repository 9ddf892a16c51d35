/- The product of two bytes: both forms are one, it is spread over exclusive or, and it commutes. -/
import Derived.Test.YtcjoocaabeckfaaR2Po
namespace Go.Proofs.Ytcjoocaabeckfaa
open Go.Eng
def xt (p B : BitVec 32) : BitVec 32 := sel p (B >>> 7).toNat ^^^ B <<< 1
def gsum (p : BitVec 32) : Nat → BitVec 8 → BitVec 32 → BitVec 32
  | 0, _, _ => 0#32
  | n + 1, a, B => sel B (a &&& 1#8).toNat ^^^ gsum p n (a >>> 1) (xt p B)
theorem gf_sum : ∀ (n : Nat) (d : GfD), (iter gfNext n d).r ^^^ sel (iter gfNext n d).B ((iter gfNext n d).a &&& 1#8).toNat = d.r ^^^ gsum d.P (n + 1) d.a d.B
  | 0, d => by simp [iter, gsum]
  | n + 1, d => by
    rw [iter, gf_sum n (gfNext d)]
    show (d.r ^^^ sel d.B (d.a &&& 1#8).toNat) ^^^ gsum d.P (n + 1) (d.a >>> 1) (xt d.P d.B) = _
    rw [BitVec.xor_assoc]; rfl
theorem gf_eq (a b : BitVec 8) (p : BitVec 32) : gf a b p = (gsum p 8 a (b.setWidth 32)).setWidth 8 := by
  unfold gf gf7
  have h := gf_sum 7 (gf0 a b p)
  have e : (7 - (0 : Int)).toNat = 7 := rfl
  rw [e, h]
  show (0#32 ^^^ gsum p 8 a (b.setWidth 32)).setWidth 8 = _
  rw [BitVec.zero_xor]
theorem sel_bit (B : BitVec 32) (a : BitVec 8) : sel B (a &&& 1#8).toNat = bif a.getLsbD 0 then B else 0#32 := by
  have h : (a &&& 1#8).toNat = bif a.getLsbD 0 then 1 else 0 := by
    rw [BitVec.toNat_and]
    show a.toNat &&& 1 = _
    rw [Nat.and_one_is_mod]
    have : a.getLsbD 0 = decide (a.toNat % 2 = 1) := by
      rw [BitVec.getLsbD, Nat.testBit_zero]
    rw [this]
    rcases Nat.mod_two_eq_zero_or_one a.toNat with h | h <;> simp [h]
  rw [h]
  cases a.getLsbD 0
  · exact sel_0 B
  · exact sel_1 B
theorem sel_top (p B : BitVec 32) (hB : B.toNat < 256) : sel p (B >>> 7).toNat = bif B.getLsbD 7 then p else 0#32 := by
  have h : (B >>> 7).toNat = bif B.getLsbD 7 then 1 else 0 := by
    rw [BitVec.toNat_ushiftRight, Nat.shiftRight_eq_div_pow]
    have : B.getLsbD 7 = decide (B.toNat / 128 % 2 = 1) := by
      rw [BitVec.getLsbD, Nat.testBit_eq_decide_div_mod_eq]
    rw [this]
    have : B.toNat / 2 ^ 7 < 2 := by omega
    rcases Nat.lt_or_ge (B.toNat / 2 ^ 7) 1 with h | h
    · have e : B.toNat / 128 = 0 := by omega
      have e' : B.toNat / 2 ^ 7 = 0 := by omega
      rw [e']; simp [e]
    · have e : B.toNat / 128 = 1 := by omega
      have e' : B.toNat / 2 ^ 7 = 1 := by omega
      rw [e']; simp [e]
  rw [h]
  cases B.getLsbD 7
  · exact sel_0 p
  · exact sel_1 p
theorem bsel_xor (u v : Bool) (B : BitVec 32) : (bif (u ^^ v) then B else 0#32) = (bif u then B else 0#32) ^^^ (bif v then B else 0#32) := by
  cases u <;> cases v <;> simp
theorem xor_lt (B C : BitVec 32) (hB : B.toNat < 256) (hC : C.toNat < 256) : (B ^^^ C).toNat < 256 := by
  rw [BitVec.toNat_xor]; exact Nat.xor_lt_two_pow (n := 8) hB hC
theorem xor4 (a b c d : BitVec 32) : (a ^^^ b) ^^^ (c ^^^ d) = (a ^^^ c) ^^^ (b ^^^ d) := by ac_rfl
theorem xt_xor (p B C : BitVec 32) (hB : B.toNat < 256) (hC : C.toNat < 256) : xt p (B ^^^ C) = xt p B ^^^ xt p C := by
  unfold xt
  rw [sel_top p _ (xor_lt B C hB hC), sel_top p B hB, sel_top p C hC, BitVec.getLsbD_xor, bsel_xor, BitVec.shiftLeft_xor_distrib, xor4]
theorem sel_xor (B C : BitVec 32) (a : BitVec 8) : sel (B ^^^ C) (a &&& 1#8).toNat = sel B (a &&& 1#8).toNat ^^^ sel C (a &&& 1#8).toNat := by
  rw [sel_bit, sel_bit, sel_bit]
  cases a.getLsbD 0 <;> simp
theorem xt_lt' (B p : BitVec 32) (hB : B.toNat < 256) (h1 : 256 ≤ p.toNat) (h2 : p.toNat < 512) : (xt p B).toNat < 256 := xt_lt B p hB h1 h2
theorem gsum_b (p : BitVec 32) (h1 : 256 ≤ p.toNat) (h2 : p.toNat < 512) : ∀ (n : Nat) (a : BitVec 8) (B C : BitVec 32), B.toNat < 256 → C.toNat < 256 → gsum p n a (B ^^^ C) = gsum p n a B ^^^ gsum p n a C
  | 0, _, _, _, _, _ => by simp [gsum]
  | n + 1, a, B, C, hB, hC => by
    simp only [gsum]
    rw [xt_xor p B C hB hC, gsum_b p h1 h2 n _ (xt p B) (xt p C) (xt_lt' B p hB h1 h2) (xt_lt' C p hC h1 h2), sel_xor, xor4]
theorem gsum_a (p : BitVec 32) : ∀ (n : Nat) (a c : BitVec 8) (B : BitVec 32), gsum p n (a ^^^ c) B = gsum p n a B ^^^ gsum p n c B
  | 0, _, _, _ => by simp [gsum]
  | n + 1, a, c, B => by
    simp only [gsum]
    rw [BitVec.ushiftRight_xor_distrib, gsum_a p n, sel_bit, sel_bit, sel_bit, BitVec.getLsbD_xor, bsel_xor, xor4]
theorem w_lt (b : BitVec 8) : (b.setWidth 32).toNat < 256 := by rw [BitVec.toNat_setWidth]; have := b.isLt; omega
theorem sw_xor8 (x y : BitVec 32) : (x ^^^ y).setWidth 8 = x.setWidth 8 ^^^ y.setWidth 8 := by
  apply BitVec.eq_of_getLsbD_eq; intro i hi; simp [hi]
theorem sw_xor32 (x y : BitVec 8) : (x ^^^ y).setWidth 32 = x.setWidth 32 ^^^ y.setWidth 32 := by
  apply BitVec.eq_of_getLsbD_eq; intro i hi; simp [hi]
theorem gf_b {p : BitVec 32} (h1 : 256 ≤ p.toNat) (h2 : p.toNat < 512) (a b c : BitVec 8) : gf a (b ^^^ c) p = gf a b p ^^^ gf a c p := by
  rw [gf_eq, gf_eq, gf_eq, sw_xor32, gsum_b p h1 h2 8 a _ _ (w_lt b) (w_lt c), sw_xor8]
theorem gf_a (p : BitVec 32) (a b c : BitVec 8) : gf (a ^^^ c) b p = gf a b p ^^^ gf c b p := by
  rw [gf_eq, gf_eq, gf_eq, gsum_a, sw_xor8]
/-! What is spread over exclusive or is known by eight bytes. -/
def bit (x : BitVec 8) (i : Nat) : BitVec 8 := bif x.getLsbD i then BitVec.twoPow 8 i else 0#8
theorem bits (x : BitVec 8) : x = bit x 0 ^^^ bit x 1 ^^^ bit x 2 ^^^ bit x 3 ^^^ bit x 4 ^^^ bit x 5 ^^^ bit x 6 ^^^ bit x 7 := by
  revert x; decide +kernel
theorem lin_zero (F : BitVec 8 → BitVec 8) (hF : ∀ x y, F (x ^^^ y) = F x ^^^ F y) (hb : ∀ i, i < 8 → F (BitVec.twoPow 8 i) = 0#8) (x : BitVec 8) : F x = 0#8 := by
  have h0 : F 0#8 = 0#8 := by have := hF 0#8 0#8; rw [BitVec.xor_self, BitVec.xor_self] at this; exact this
  have hbit : ∀ i, i < 8 → F (bit x i) = 0#8 := by
    intro i hi
    unfold bit
    cases x.getLsbD i
    · exact h0
    · exact hb i hi
  rw [bits x]
  simp only [hF, hbit 0 (by omega), hbit 1 (by omega), hbit 2 (by omega), hbit 3 (by omega), hbit 4 (by omega), hbit 5 (by omega), hbit 6 (by omega), hbit 7 (by omega), BitVec.xor_self]
theorem xor8 (a b c d : BitVec 8) : (a ^^^ b) ^^^ (c ^^^ d) = (a ^^^ c) ^^^ (b ^^^ d) := by ac_rfl
theorem eq_of_xor {x y : BitVec 8} (h : x ^^^ y = 0#8) : x = y := by
  have : x ^^^ y ^^^ y = 0#8 ^^^ y := by rw [h]
  rw [BitVec.xor_assoc, BitVec.xor_self, BitVec.xor_zero, BitVec.zero_xor] at this; exact this
def commB (p : BitVec 32) : Bool := (List.range 8).all fun i => (List.range 8).all fun j => gf (BitVec.twoPow 8 i) (BitVec.twoPow 8 j) p == gf (BitVec.twoPow 8 j) (BitVec.twoPow 8 i) p
def oneB (p : BitVec 32) : Bool := (List.range 8).all fun i => gf (BitVec.twoPow 8 i) 1#8 p == BitVec.twoPow 8 i
theorem comm361 : commB 361#32 = true := by kernel_rfl
theorem comm333 : commB 333#32 = true := by kernel_rfl
theorem one361 : oneB 361#32 = true := by kernel_rfl
theorem one333 : oneB 333#32 = true := by kernel_rfl
theorem gf_comm {p : BitVec 32} (h1 : 256 ≤ p.toNat) (h2 : p.toNat < 512) (hc : commB p = true) (a b : BitVec 8) : gf a b p = gf b a p := by
  have base : ∀ i, i < 8 → ∀ j, j < 8 → gf (BitVec.twoPow 8 i) (BitVec.twoPow 8 j) p ^^^ gf (BitVec.twoPow 8 j) (BitVec.twoPow 8 i) p = 0#8 := by
    intro i hi j hj
    have := List.all_eq_true.1 (List.all_eq_true.1 hc i (List.mem_range.2 hi)) j (List.mem_range.2 hj)
    rw [beq_iff_eq] at this
    rw [this, BitVec.xor_self]
  have h3 : ∀ i, i < 8 → ∀ y, gf (BitVec.twoPow 8 i) y p ^^^ gf y (BitVec.twoPow 8 i) p = 0#8 := fun i hi =>
    lin_zero (fun y => gf (BitVec.twoPow 8 i) y p ^^^ gf y (BitVec.twoPow 8 i) p) (fun x y => by simp only [gf_a, gf_b h1 h2, xor8]) (fun j hj => base i hi j hj)
  exact eq_of_xor (lin_zero (fun x => gf x b p ^^^ gf b x p) (fun x y => by simp only [gf_a, gf_b h1 h2, xor8]) (fun i hi => h3 i hi b) a)
theorem gf_one {p : BitVec 32} (h : oneB p = true) (a : BitVec 8) : gf a 1#8 p = a := by
  refine eq_of_xor (lin_zero (fun x => gf x 1#8 p ^^^ x) (fun x y => by simp only [gf_a, xor8]) (fun i hi => ?_) a)
  have := List.all_eq_true.1 h i (List.mem_range.2 hi)
  rw [beq_iff_eq] at this
  simp only [this, BitVec.xor_self]
/-! The reference's product. -/
theorem po_bit (d : PoD) : poBit d = (d.b >>> d.i.toNat).getLsbD 0 := by
  unfold poBit
  generalize d.b >>> d.i.toNat = y
  revert y; decide +kernel
theorem po_step (d : PoD) (hx : d.x < 256) (hm : d.m < 512) (hi : 0 ≤ d.i) : BitVec.ofNat 32 (poNext d).out = BitVec.ofNat 32 d.out ^^^ sel (BitVec.ofNat 32 d.x) ((d.b >>> d.i.toNat) &&& 1#8).toNat ∧
    BitVec.ofNat 32 (poNext d).x = xt (BitVec.ofNat 32 d.m) (BitVec.ofNat 32 d.x) ∧ (poNext d).b >>> (poNext d).i.toNat = (d.b >>> d.i.toNat) >>> 1 ∧ (poNext d).m = d.m ∧ (poNext d).i = d.i + 1 ∧ ((poNext d).b = d.b) := by
  have hX : (BitVec.ofNat 32 d.x).toNat = d.x := by rw [BitVec.toNat_ofNat]; omega
  have hsh : BitVec.ofNat 32 (d.x * 2) = BitVec.ofNat 32 d.x <<< 1 := by
    apply BitVec.eq_of_toNat_eq
    rw [BitVec.toNat_shiftLeft, hX, BitVec.toNat_ofNat, Nat.shiftLeft_eq]
  have hbig : (BitVec.ofNat 32 d.x >>> 7).toNat = bif poBig d then 1 else 0 := by
    rw [BitVec.toNat_ushiftRight, hX, Nat.shiftRight_eq_div_pow]
    unfold poBig
    by_cases h : 255 < ((d.x : Nat) : Int) * 2
    · simp [h]; omega
    · simp [h]; omega
  have hs : (d.b >>> d.i.toNat) >>> 1 = d.b >>> (d.i + 1).toNat := by
    rw [← BitVec.shiftRight_add]
    congr 1; omega
  have hxt : ∀ t, poBig d = t → xt (BitVec.ofNat 32 d.m) (BitVec.ofNat 32 d.x) = bif t then BitVec.ofNat 32 (d.x * 2 ^^^ d.m) else BitVec.ofNat 32 (d.x * 2) := by
    intro t ht
    unfold xt
    rw [hbig, ht]
    cases t
    · show sel _ 0 ^^^ _ = _; rw [sel_0, BitVec.zero_xor, ← hsh]; rfl
    · show sel _ 1 ^^^ _ = _; rw [sel_1, ← hsh]
      show _ = BitVec.ofNat 32 (d.x * 2 ^^^ d.m)
      rw [BitVec.ofNat_xor, BitVec.xor_comm]
  rw [sel_bit, ← po_bit]
  unfold poNext
  cases h1 : poBit d <;> cases h2 : poBig d <;> rw [hxt _ h2] <;> simp [poTo, hs, BitVec.ofNat_xor]
theorem po_sum : ∀ (n : Nat) (d : PoD), d.x < 256 → 256 ≤ d.m → d.m < 512 → 0 ≤ d.i →
    BitVec.ofNat 32 (iter poNext n d).out = BitVec.ofNat 32 d.out ^^^ gsum (BitVec.ofNat 32 d.m) n (d.b >>> d.i.toNat) (BitVec.ofNat 32 d.x)
  | 0, d, _, _, _, _ => by simp [iter, gsum]
  | n + 1, d, hx, hm, hm', hi => by
    obtain ⟨h1, h2, h3, h4, h5, h6⟩ := po_step d hx hm' hi
    have hx' : (poNext d).x < 256 := by
      unfold poNext
      cases h1 : poBit d <;> cases h2 : poBig d <;> simp only [poTo]
      · have := of_decide_eq_false h2; omega
      · have := of_decide_eq_true h2; exact xor_top_lt (by omega) (by omega) hm hm'
      · have := of_decide_eq_false h2; omega
      · have := of_decide_eq_true h2; exact xor_top_lt (by omega) (by omega) hm hm'
    rw [iter, po_sum n (poNext d) hx' (by rw [h4]; exact hm) (by rw [h4]; exact hm') (by rw [h5]; omega), h1, h2, h3, h4]
    simp only [gsum]
    rw [BitVec.xor_assoc]
theorem po_gf (a b : BitVec 8) (m : Nat) (h1 : 256 ≤ m) (h2 : m < 512) : po a b m = gf b a (BitVec.ofNat 32 m) := by
  rw [gf_eq]
  unfold po po8
  have e : (8 - (0 : Int)).toNat = 8 := rfl
  rw [e]
  have h := po_sum 8 (po0 a b m) a.isLt h1 h2 (Int.le_refl _)
  have e2 : BitVec.ofNat 32 (po0 a b m).out ^^^ gsum (BitVec.ofNat 32 (po0 a b m).m) 8 ((po0 a b m).b >>> (po0 a b m).i.toNat) (BitVec.ofNat 32 (po0 a b m).x) = gsum (BitVec.ofNat 32 m) 8 b (a.setWidth 32) := by
    show 0#32 ^^^ gsum (BitVec.ofNat 32 m) 8 (b >>> 0) (BitVec.ofNat 32 a.toNat) = _
    rw [BitVec.zero_xor, BitVec.ushiftRight_zero]
    congr 1
    apply BitVec.eq_of_toNat_eq; rw [BitVec.toNat_ofNat, BitVec.toNat_setWidth]
  rw [e2] at h
  rw [← h]
  apply BitVec.eq_of_toNat_eq
  rw [BitVec.ofInt_natCast, BitVec.toNat_setWidth, BitVec.toNat_ofNat, BitVec.toNat_ofNat]
  omega
end Go.Proofs.Ytcjoocaabeckfaa

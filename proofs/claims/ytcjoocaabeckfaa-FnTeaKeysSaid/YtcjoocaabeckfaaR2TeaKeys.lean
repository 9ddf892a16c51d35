/- FnTeaKeys: of all keys of 16 bytes, blocks of eight, even numbers of rounds up to 4096, and halves: keys whose half differs in the highest bits of both of its words encipher alike. No condition. -/
import Derived.Test.YtcjoocaabeckfaaR2TeaS
import Derived.Test.YtcjoocaabeckfaaRows
import Derived.WalkKit
import Derived.ProofKit
import Derived.OpenShut
namespace Go.Proofs.Ytcjoocaabeckfaa.teaKeys
open Go.ChangeShapes Go.WideShapes Go.ChangeAt Go.RowKit
open Go.Eng
noncomputable def go (args : List AV) (H : List Blk) (dec : List Bool) : Option (AV × St) := goB specsTL noLoop 11 args ⟨H, big, dec, []⟩
noncomputable def goN (args : List AV) (H : List Blk) (dec : List Bool) : Option (AV × St) := goB specsTN noLoop 11 args ⟨H, big, dec, []⟩
theorem runA1 (k b : Vec 8) (n : Int) (w : Bool) : verdict (goN [.sl 0 (.c 0) (.s k.n) none, .sl 1 (.c 0) (.s b.n) none, .int .i64 (.s n), .bool (.s w)] [⟨.b8 k, .ro⟩, ⟨.b8 b, .ro⟩] [true, true, true, true]) = some (true, [(decide ((2147483647 : Int) < ((k.n : Nat) : Int)) == true), (decide ((2147483647 : Int) < ((k.n : Nat) : Int)) == true), (decide ((2147483647 : Int) < ((k.n : Nat) : Int)) == true), (decide ((2147483647 : Int) < ((k.n : Nat) : Int)) == true)]) := by kernel_rfl
theorem runA2 (k b : Vec 8) (n : Int) (w : Bool) : verdict (goN [.sl 0 (.c 0) (.s k.n) none, .sl 1 (.c 0) (.s b.n) none, .int .i64 (.s n), .bool (.s w)] [⟨.b8 k, .ro⟩, ⟨.b8 b, .ro⟩] [false, false, false, false, true]) = some (true, [(decide ((2147483647 : Int) < ((b.n : Nat) : Int)) == true), (decide ((2147483647 : Int) < ((k.n : Nat) : Int)) == false), (decide ((2147483647 : Int) < ((k.n : Nat) : Int)) == false), (decide ((2147483647 : Int) < ((k.n : Nat) : Int)) == false), (decide ((2147483647 : Int) < ((k.n : Nat) : Int)) == false)]) := by kernel_rfl
theorem runB1 (k b : Vec 8) (n : Int) (w : Bool) : verdict (goN [.sl 0 (.c 0) (.s k.n) none, .sl 1 (.c 0) (.s b.n) none, .int .i64 (.s n), .bool (.s w)] [⟨.b8 k, .ro⟩, ⟨.b8 b, .ro⟩] [false, false, false, false, false, true, true, true, true]) = some (true, [((!(((k.n : Nat) : Int) == 16)) == true), ((!(((k.n : Nat) : Int) == 16)) == true), ((!(((k.n : Nat) : Int) == 16)) == true), ((!(((k.n : Nat) : Int) == 16)) == true), (decide ((2147483647 : Int) < ((b.n : Nat) : Int)) == false), (decide ((2147483647 : Int) < ((k.n : Nat) : Int)) == false), (decide ((2147483647 : Int) < ((k.n : Nat) : Int)) == false), (decide ((2147483647 : Int) < ((k.n : Nat) : Int)) == false), (decide ((2147483647 : Int) < ((k.n : Nat) : Int)) == false)]) := by kernel_rfl
theorem runB2 (k b : Vec 8) (n : Int) (w : Bool) : verdict (goN [.sl 0 (.c 0) (.s k.n) none, .sl 1 (.c 0) (.s b.n) none, .int .i64 (.s n), .bool (.s w)] [⟨.b8 k, .ro⟩, ⟨.b8 b, .ro⟩] [false, false, false, false, false, false, false, false, false, true, true, true]) = some (true, [((!(((b.n : Nat) : Int) == 8)) == true), ((!(((b.n : Nat) : Int) == 8)) == true), ((!(((b.n : Nat) : Int) == 8)) == true), ((!(((k.n : Nat) : Int) == 16)) == false), ((!(((k.n : Nat) : Int) == 16)) == false), ((!(((k.n : Nat) : Int) == 16)) == false), ((!(((k.n : Nat) : Int) == 16)) == false), (decide ((2147483647 : Int) < ((b.n : Nat) : Int)) == false), (decide ((2147483647 : Int) < ((k.n : Nat) : Int)) == false), (decide ((2147483647 : Int) < ((k.n : Nat) : Int)) == false), (decide ((2147483647 : Int) < ((k.n : Nat) : Int)) == false), (decide ((2147483647 : Int) < ((k.n : Nat) : Int)) == false)]) := by kernel_rfl
theorem runB3 (f g : Nat → BitVec 8) (n : Int) (w : Bool) : verdict (goN [.sl 0 (.c 0) (.c 16) none, .sl 1 (.c 0) (.c 8) none, .int .i64 (.s n), .bool (.s w)] [⟨.gen (c8 16 f), .ro⟩, ⟨.gen (c8 8 g), .ro⟩] [true, true, true]) = some (true, [(decide (n < 0) == true), (decide (n < 0) == true), (decide (n < 0) == true)]) := by kernel_rfl
theorem runB4 (f g : Nat → BitVec 8) (n : Int) (w : Bool) : verdict (goN [.sl 0 (.c 0) (.c 16) none, .sl 1 (.c 0) (.c 8) none, .int .i64 (.s n), .bool (.s w)] [⟨.gen (c8 16 f), .ro⟩, ⟨.gen (c8 8 g), .ro⟩] [false, false, false, true, true, true, true]) = some (true, [(decide ((4096 : Int) < n) == true), (decide ((4096 : Int) < n) == true), (decide ((4096 : Int) < n) == true), (decide ((4096 : Int) < n) == true), (decide (n < 0) == false), (decide (n < 0) == false), (decide (n < 0) == false)]) := by kernel_rfl
theorem runB5 (f g : Nat → BitVec 8) (n : Int) (w : Bool) : verdict (goN [.sl 0 (.c 0) (.c 16) none, .sl 1 (.c 0) (.c 8) none, .int .i64 (.s n), .bool (.s w)] [⟨.gen (c8 16 f), .ro⟩, ⟨.gen (c8 8 g), .ro⟩] [false, false, false, false, false, false, false, true]) = some (true, [((!((Int.tmod n 2) == 0)) == true), (decide ((4096 : Int) < n) == false), (decide ((4096 : Int) < n) == false), decide ((2 : Int) ≠ 0), (decide ((4096 : Int) < n) == false), (decide ((4096 : Int) < n) == false), (decide (n < 0) == false), (decide (n < 0) == false), (decide (n < 0) == false)]) := by kernel_rfl
def small (n : Int) : Bool := decide (0 ≤ n ∧ n ≤ 4096 ∧ n % 2 = 0)
def lowN (n : Int) : Bool := decide (n < 0) == false
def highN (n : Int) : Bool := decide ((4096 : Int) < n) == false
def evenN (n : Int) : Bool := (!((Int.tmod n 2) == 0)) == false
theorem s64 : small 64 = true := by decide
theorem s0 : small 0 = true := by decide
def two : Bool := decide ((2 : Int) ≠ 0)
def flipK (w : Bool) (f : Nat → BitVec 8) (i : Nat) : BitVec 8 :=
  match w with
  | false =>
    match i with
    | 0 => f 0 ^^^ 128#8
    | 4 => f 4 ^^^ 128#8
    | i => f i
  | true =>
    match i with
    | 8 => f 8 ^^^ 128#8
    | 12 => f 12 ^^^ 128#8
    | i => f i
def oo (f g : Nat → BitVec 8) (n : Int) : Nat → BitVec 8 := outI false (nf8 16 (nf8 16 f)) (nf8 8 (nf8 8 g)) (rnd n)
def vo (h : Nat → BitVec 8) : Vec 8 := Vec.of ((List.range 8).map h)
def top : BitVec 32 := 2147483648#32
theorem top_bit : ∀ i, i < 32 → top.getLsbD i = decide (i = 31) := by decide
theorem b128 : ∀ i, i < 8 → (128#8).getLsbD i = decide (i = 7) := by decide
theorem xor_top (x : BitVec 32) : x ^^^ top = x + top := by
  apply BitVec.eq_of_getLsbD_eq
  intro i hi
  have hc : BitVec.carry i x top false = false := by
    have h1 : top.toNat % 2 ^ i = 0 := Nat.mod_eq_zero_of_dvd (Nat.pow_dvd_pow 2 (show i ≤ 31 by omega))
    have h2 : x.toNat % 2 ^ i < 2 ^ i := Nat.mod_lt _ (Nat.two_pow_pos i)
    simp only [BitVec.carry, h1, Bool.toNat_false, Nat.add_zero, decide_eq_false_iff_not]
    omega
  rw [BitVec.getLsbD_add hi, BitVec.getLsbD_xor, hc, Bool.xor_false]
theorem mix_top (v s a b : BitVec 32) : mixT v s (a ^^^ top) (b ^^^ top) = mixT v s a b := by
  unfold mixT
  have e : ∀ p q : BitVec 32, p + (q ^^^ top) = (p + q) ^^^ top := fun p q => by rw [xor_top, xor_top, BitVec.add_assoc]
  rw [e, e]
  generalize v <<< 4 + a = x
  generalize v >>> 5 + b = z
  generalize v + s = y
  have : (x ^^^ top) ^^^ y ^^^ (z ^^^ top) = (x ^^^ y ^^^ z) ^^^ (top ^^^ top) := by ac_rfl
  rw [this, BitVec.xor_self, BitVec.xor_zero]
theorem be_top (a b c d : BitVec 8) : ((a ^^^ 128#8).setWidth 32 <<< 24 ||| b.setWidth 32 <<< 16 ||| c.setWidth 32 <<< 8 ||| d.setWidth 32) = (a.setWidth 32 <<< 24 ||| b.setWidth 32 <<< 16 ||| c.setWidth 32 <<< 8 ||| d.setWidth 32) ^^^ top := by
  apply BitVec.eq_of_getLsbD_eq
  intro i hi
  rw [BitVec.getLsbD_xor, top_bit i hi]
  simp only [BitVec.getLsbD_or, BitVec.getLsbD_shiftLeft, BitVec.getLsbD_setWidth, BitVec.getLsbD_xor]
  by_cases h : i = 31
  · subst h
    have hb : b.getLsbD 15 = false := BitVec.getLsbD_of_ge _ _ (by omega)
    have hc : c.getLsbD 23 = false := BitVec.getLsbD_of_ge _ _ (by omega)
    have hd : d.getLsbD 31 = false := BitVec.getLsbD_of_ge _ _ (by omega)
    simp [hb, hc, hd, b128 7 (by omega)]
  · have h7 : ∀ j, j < 7 → (128#8).getLsbD j = false := by decide
    by_cases h24 : i < 24
    · simp [h, h24]
    · simp [h, h24, h7 (i - 24) (by omega)]
theorem k_flip (w : Bool) (f : Nat → BitVec 8) : kOf' (flipK w f) = (match w with | false => ⟨be f 0 ^^^ top, be f 4 ^^^ top, be f 8, be f 12, gold⟩ | true => ⟨be f 0, be f 4, be f 8 ^^^ top, be f 12 ^^^ top, gold⟩ : TeaK) := by
  cases w with
  | false =>
    have e0 : be (flipK false f) 0 = be f 0 ^^^ top := be_top (f 0) (f 1) (f 2) (f 3)
    have e4 : be (flipK false f) 4 = be f 4 ^^^ top := be_top (f 4) (f 5) (f 6) (f 7)
    show (⟨be (flipK false f) 0, be (flipK false f) 4, be f 8, be f 12, gold⟩ : TeaK) = _
    rw [e0, e4]
  | true =>
    have e0 : be (flipK true f) 8 = be f 8 ^^^ top := be_top (f 8) (f 9) (f 10) (f 11)
    have e4 : be (flipK true f) 12 = be f 12 ^^^ top := be_top (f 12) (f 13) (f 14) (f 15)
    show (⟨be f 0, be f 4, be (flipK true f) 8, be (flipK true f) 12, gold⟩ : TeaK) = _
    rw [e0, e4]
theorem tE_flip (w : Bool) (f : Nat → BitVec 8) (t : TeaS) : tE (kOf' (flipK w f)) t = tE (kOf' f) t := by
  rw [k_flip]
  cases w with
  | false => simp only [tE, kOf', mix_top]
  | true => simp only [tE, kOf', mix_top]
theorem be_congr' {f g : Nat → BitVec 8} {o : Nat} (h0 : f o = g o) (h1 : f (o + 1) = g (o + 1)) (h2 : f (o + 2) = g (o + 2)) (h3 : f (o + 3) = g (o + 3)) : be f o = be g o := by
  unfold be
  rw [h0, h1, h2, h3]
theorem kOf_congr {f f' : Nat → BitVec 8} (h : ∀ i, i < 16 → f i = f' i) : kOf' f = kOf' f' := by
  unfold kOf'
  rw [be_congr' (o := 0) (h 0 (by omega)) (h 1 (by omega)) (h 2 (by omega)) (h 3 (by omega)), be_congr' (o := 4) (h 4 (by omega)) (h 5 (by omega)) (h 6 (by omega)) (h 7 (by omega)),
    be_congr' (o := 8) (h 8 (by omega)) (h 9 (by omega)) (h 10 (by omega)) (h 11 (by omega)), be_congr' (o := 12) (h 12 (by omega)) (h 13 (by omega)) (h 14 (by omega)) (h 15 (by omega))]
theorem oo_flip (w : Bool) (f g : Nat → BitVec 8) (n : Int) : oo (flipK w f) g n = oo f g n := by
  unfold oo outI
  simp only []
  rw [outE_eq, outE_eq]
  have e1 : kOf' (nf8 16 (nf8 16 (flipK w f))) = kOf' (flipK w f) := kOf_congr fun i hi => by rw [nf8_lt _ hi, nf8_lt _ hi]
  have e2 : kOf' (nf8 16 (nf8 16 f)) = kOf' f := kOf_congr fun i hi => by rw [nf8_lt _ hi, nf8_lt _ hi]
  have e3 : tE (kOf' (flipK w f)) = tE (kOf' f) := funext fun t => tE_flip w f t
  rw [e1, e2, e3]
theorem eq1 (w : Bool) (f g : Nat → BitVec 8) (n : Int) : eqCond (vo (oo f g n)) (vo (oo (flipK w f) g n)) 0 0 8 8 = true := by
  rw [oo_flip]
  exact decide_eq_true ⟨rfl, Nat.le_refl _, Nat.le_refl _, by omega, fun _ _ => rfl⟩
theorem runEt (f g : Nat → BitVec 8) (n : Int) : verdict (go [.sl 0 (.c 0) (.c 16) none, .sl 1 (.c 0) (.c 8) none, .int .i64 (.s n), .bool (.c true)] [⟨.gen (c8 16 f), .ro⟩, ⟨.gen (c8 8 g), .ro⟩] [false, false, false, false, false, false, false, false]) = some (true, [eqCond (vo (oo f g n)) (vo (oo (flipK true f) g n)) 0 0 8 8, small n, small n, evenN n, highN n, highN n, two, highN n, highN n, lowN n, lowN n, lowN n]) := by kernel_rfl
theorem runEf (f g : Nat → BitVec 8) (n : Int) : verdict (go [.sl 0 (.c 0) (.c 16) none, .sl 1 (.c 0) (.c 8) none, .int .i64 (.s n), .bool (.c false)] [⟨.gen (c8 16 f), .ro⟩, ⟨.gen (c8 8 g), .ro⟩] [false, false, false, false, false, false, false, false]) = some (true, [eqCond (vo (oo f g n)) (vo (oo (flipK false f) g n)) 0 0 8 8, small n, small n, evenN n, highN n, highN n, two, highN n, highN n, lowN n, lowN n, lowN n]) := by kernel_rfl
theorem walk {W0 : World} {v0 v1 : Value} (l0 : Vec 8) (w0 : SlOk W0 v0 (.b8 l0)) (_ : l0.n ≤ maxLen) (l1 : Vec 8) (w1 : SlOk W0 v1 (.b8 l1)) (_ : l1.n ≤ maxLen) (n : Int) (_ : (Lit.int .i64 n).wf = true) (b3 : Bool) :
    Calls Try.prog 11 #[v0, v1, .int .i64 n, .bool b3] W0 fun e W' => e = .returned (.bool true) ∧ Still W0 W' := by
  have hb := goB_ok specsTL_ok (no_loops specsTL)
  have hn := goB_ok specsTN_ok (no_loops specsTN)
  have args2 : ∀ β, (∀ (i : Nat) v d, [(v0, Eng.Data.b8 l0), (v1, Eng.Data.b8 l1)][i]? = some (v, d) → VRel β (.sl i (.c 0) (.s d.len) none) v) → LRel β [.sl 0 (.c 0) (.s l0.n) none, .sl 1 (.c 0) (.s l1.n) none, .int .i64 (.s n), .bool (.s b3)] [v0, v1, .int .i64 n, .bool b3] :=
    fun β h => LRel.cons (h 0 v0 _ rfl) (LRel.cons (h 1 v1 _ rfl) (LRel.cons (rel_int .i64 n) (LRel.cons (rel_bool b3) (LRel.nil β))))
  by_cases hA1 : 2147483647 < l0.n
  case pos =>
    refine law_run hn [(v0, .b8 l0), (v1, .b8 l1)] (ss_cons w0 (ss_cons w1 ss_nil)) (runA1 l0 l1 n b3) ?_ args2
    repeat' (refine all_true_cons ?_ ?_)
    all_goals first | exact all_true_nil | (simp only [beq_true, beq_false, decide_eq_true_eq, Bool.not_eq_true', decide_eq_false_iff_not, beq_eq_false_iff_ne, ne_eq, Bool.not_eq_false', beq_iff_eq]; omega)
  by_cases hA2 : 2147483647 < l1.n
  case pos =>
    refine law_run hn [(v0, .b8 l0), (v1, .b8 l1)] (ss_cons w0 (ss_cons w1 ss_nil)) (runA2 l0 l1 n b3) ?_ args2
    repeat' (refine all_true_cons ?_ ?_)
    all_goals first | exact all_true_nil | (simp only [beq_true, beq_false, decide_eq_true_eq, Bool.not_eq_true', decide_eq_false_iff_not, beq_eq_false_iff_ne, ne_eq, Bool.not_eq_false', beq_iff_eq]; omega)
  by_cases hB1 : l0.n = 16
  case neg =>
    refine law_run hn [(v0, .b8 l0), (v1, .b8 l1)] (ss_cons w0 (ss_cons w1 ss_nil)) (runB1 l0 l1 n b3) ?_ args2
    repeat' (refine all_true_cons ?_ ?_)
    all_goals first | exact all_true_nil | (simp only [beq_true, beq_false, decide_eq_true_eq, Bool.not_eq_true', decide_eq_false_iff_not, beq_eq_false_iff_ne, ne_eq, Bool.not_eq_false', beq_iff_eq]; omega)
  by_cases hB2 : l1.n = 8
  case neg =>
    refine law_run hn [(v0, .b8 l0), (v1, .b8 l1)] (ss_cons w0 (ss_cons w1 ss_nil)) (runB2 l0 l1 n b3) ?_ args2
    repeat' (refine all_true_cons ?_ ?_)
    all_goals first | exact all_true_nil | (simp only [beq_true, beq_false, decide_eq_true_eq, Bool.not_eq_true', decide_eq_false_iff_not, beq_eq_false_iff_ne, ne_eq, Bool.not_eq_false', beq_iff_eq]; omega)
  have g0 := w0.gen8 hB1
  have g1 := w1.gen8 hB2
  by_cases hB3 : n < 0
  case pos =>
    refine law_run hn [(v0, .gen _), (v1, .gen _)] (ss_cons g0 (ss_cons g1 ss_nil)) (runB3 _ _ n b3) ?_ (fun β h => LRel.cons (rel_sl (h 0 v0 _ rfl) (by simp [Data.len])) (LRel.cons (rel_sl (h 1 v1 _ rfl) (by simp [Data.len])) (LRel.cons (rel_int .i64 n) (LRel.cons (rel_bool b3) (LRel.nil β)))))
    repeat' (refine all_true_cons ?_ ?_)
    all_goals first | exact all_true_nil | (simp only [beq_true, beq_false, decide_eq_true_eq, Bool.not_eq_true', decide_eq_false_iff_not, beq_eq_false_iff_ne, ne_eq, Bool.not_eq_false', beq_iff_eq]; omega)
  by_cases hB4 : 4096 < n
  case pos =>
    refine law_run hn [(v0, .gen _), (v1, .gen _)] (ss_cons g0 (ss_cons g1 ss_nil)) (runB4 _ _ n b3) ?_ (fun β h => LRel.cons (rel_sl (h 0 v0 _ rfl) (by simp [Data.len])) (LRel.cons (rel_sl (h 1 v1 _ rfl) (by simp [Data.len])) (LRel.cons (rel_int .i64 n) (LRel.cons (rel_bool b3) (LRel.nil β)))))
    repeat' (refine all_true_cons ?_ ?_)
    all_goals first | exact all_true_nil | (simp only [beq_true, beq_false, decide_eq_true_eq, Bool.not_eq_true', decide_eq_false_iff_not, beq_eq_false_iff_ne, ne_eq, Bool.not_eq_false', beq_iff_eq]; omega)
  by_cases hE : n % 2 = 0
  case neg =>
    have e2 : Int.tmod n 2 = 1 := by rw [Int.tmod_eq_emod_of_nonneg (by omega)]; omega
    refine law_run hn [(v0, .gen _), (v1, .gen _)] (ss_cons g0 (ss_cons g1 ss_nil)) (runB5 _ _ n b3) ?_ (fun β h => LRel.cons (rel_sl (h 0 v0 _ rfl) (by simp [Data.len])) (LRel.cons (rel_sl (h 1 v1 _ rfl) (by simp [Data.len])) (LRel.cons (rel_int .i64 n) (LRel.cons (rel_bool b3) (LRel.nil β)))))
    repeat' (refine all_true_cons ?_ ?_)
    all_goals first | exact all_true_nil | (rw [e2]; rfl) | (simp only [beq_true, beq_false, decide_eq_true_eq, Bool.not_eq_true', decide_eq_false_iff_not, beq_eq_false_iff_ne, ne_eq, Bool.not_eq_false', beq_iff_eq]; omega)
  have hs : small n = true := decide_eq_true ⟨by omega, by omega, hE⟩
  have hl : lowN n = true := by simp only [lowN, beq_false, Bool.not_eq_true', decide_eq_false_iff_not]; omega
  have hh : highN n = true := by simp only [highN, beq_false, Bool.not_eq_true', decide_eq_false_iff_not]; omega
  have he : evenN n = true := by unfold evenN; rw [even_tmod (by omega) hE]; rfl
  cases b3 with
  | true =>
    refine law_run hb [(v0, .gen _), (v1, .gen _)] (ss_cons g0 (ss_cons g1 ss_nil)) (runEt _ _ n) ?_ (fun β h => LRel.cons (rel_sl (h 0 v0 _ rfl) (by simp [Data.len])) (LRel.cons (rel_sl (h 1 v1 _ rfl) (by simp [Data.len])) (LRel.cons (rel_int .i64 n) (LRel.cons (.bool (.c true)) (LRel.nil β)))))
    exact all_true_cons (eq1 true _ _ n) (all_true_cons hs (all_true_cons hs (all_true_cons he (all_true_cons hh (all_true_cons hh (all_true_cons rfl (all_true_cons hh (all_true_cons hh (all_true_cons hl (all_true_cons hl (all_true_cons hl all_true_nil)))))))))))
  | false =>
    refine law_run hb [(v0, .gen _), (v1, .gen _)] (ss_cons g0 (ss_cons g1 ss_nil)) (runEf _ _ n) ?_ (fun β h => LRel.cons (rel_sl (h 0 v0 _ rfl) (by simp [Data.len])) (LRel.cons (rel_sl (h 1 v1 _ rfl) (by simp [Data.len])) (LRel.cons (rel_int .i64 n) (LRel.cons (.bool (.c false)) (LRel.nil β)))))
    exact all_true_cons (eq1 false _ _ n) (all_true_cons hs (all_true_cons hs (all_true_cons he (all_true_cons hh (all_true_cons hh (all_true_cons rfl (all_true_cons hh (all_true_cons hh (all_true_cons hl (all_true_cons hl (all_true_cons hl all_true_nil)))))))))))


theorem own : ownKnob Try.prog.godebug = none := by kernel_rfl
theorem laidOut : laidOutB Try.prog = true := by kernel_rfl
theorem read22 : Try.prog.readableRec 22 = true ∧ 22 < Try.prog.types.size := ⟨by kernel_rfl, of_decide_eq_true (by kernel_rfl)⟩
theorem read3 : Try.prog.readableRec 3 = true ∧ 3 < Try.prog.types.size := ⟨by kernel_rfl, of_decide_eq_true (by kernel_rfl)⟩
theorem read4 : Try.prog.readableRec 4 = true ∧ 4 < Try.prog.types.size := ⟨by kernel_rfl, of_decide_eq_true (by kernel_rfl)⟩
theorem cells5 : Try.prog.cellsOf 5 = 1 := by kernel_rfl
set_option maxRecDepth 100000 in
theorem contract (H : Type) (enc : TypeId × Value → H) (W : World) (base : Nat) (args : Array Value) (ds gs : List (DataW H)) (before : List MemPlace)
    (hval : ∀ (j : Nat) t v, Try.f11.params[j]? = some t → args[j]? = some v → Value.okWide Try.prog W .any base t v)
    (hW : DataW.Whole enc Try.prog Try.f11.params.toList Rows.fnTeaKeysSpec.vars false W args.toList ds gs before) :
    Calls Try.prog 11 args W fun e W' => ∃ v, e = .returned v ∧ Rows.fnTeaKeysSpec.post enc Try.prog Try.f11 false true false false W args v W' := by
  have hW' := hW
  obtain ⟨p, q, hA0, hV, rfl, hfz, hnd⟩ := hW
  have hA : DataW.TrodAll enc Try.prog W 0 (fun _ => true) true Try.f11.params.toList args.toList ds p := hA0
  rw [Try.params11] at hA hval
  obtain ⟨v0, vs0, d0, ds0, p0, q0, hargs, rfl, rfl, h0, r0⟩ := trodAll_cons hA
  obtain ⟨v1, vs1, d1, ds1, p1, q1, rfl, rfl, rfl, h1, r1⟩ := trodAll_cons r0
  obtain ⟨v2, vs2, d2, ds2, p2, q2, rfl, rfl, rfl, h2, r2⟩ := trodAll_cons r1
  obtain ⟨v3, vs3, d3, ds3, p3, q3, rfl, rfl, rfl, h3, r3⟩ := trodAll_cons r2
  obtain ⟨rfl, rfl, rfl⟩ := trodAll_nil r3
  obtain rfl : args = #[v0, v1, v2, v3] := by cases args; simp_all
  obtain ⟨l0, w0, m0⟩ := open_sl8 Try.underlying22 Try.underlying5 cells5 (hval 0 22 v0 rfl rfl) h0
  obtain ⟨l1, w1, m1⟩ := open_sl8 Try.underlying22 Try.underlying5 cells5 (hval 1 22 v1 rfl rfl) h1
  obtain ⟨n2, rfl, rfl, rfl, w2⟩ := open_int Try.underlying3 (hval 2 3 v2 rfl rfl) h2
  obtain ⟨b3, rfl, rfl, rfl⟩ := open_bool Try.underlying4 (hval 3 4 v3 rfl rfl) h3
  refine (walk l0 w0 m0 l1 w1 m1 n2 w2 b3).mono fun e W' ⟨he, hs⟩ => ?_
  subst he
  exact ⟨_, rfl, post_of_still (tb := 4) hW' rfl rfl laidOut (by
    intro t ht
    rw [Try.params11] at ht
    have : t = 22 ∨ t = 3 ∨ t = 4 := by simpa using ht
    rcases this with rfl | rfl | rfl
    · exact read22
    · exact read3
    · exact read4
    ) (by kernel_rfl) Try.underlying4 hs⟩
set_option maxRecDepth 100000 in
theorem lifted (os : Os) (started : os.Started) (H : Type) (enc : TypeId × Value → H) :
    ReturnsInHanded {} Try.checked os 11 .any (Rows.fnTeaKeysSpec.pre6 enc Try.prog Try.f11 Rows.fnTeaKeysRow.domain false) (Rows.fnTeaKeysSpec.post enc Try.prog Try.f11 false true false false) := by
  refine returnsInHanded_of_change (C := Try.checked) own started (by kernel_rfl) Try.func11
    (ChangeSpec.witness6 (enc := enc) (C := Try.checked) false ⟨#[], #[.slice none 0 0, .slice none 0 0, .int .i64 0, .bool false], []⟩ 8 (by kernel_rfl) (by kernel_rfl) (by kernel_rfl) (by kernel_rfl)) ?_
  intro W base args ds gs before hval hW _ _
  exact contract H enc W base args ds gs before hval hW
theorem holds : Rows.FnTeaKeysSaid :=
  OpenClaim.holds_of_wide 11 Try.f11 rfl rfl rfl rfl rfl rfl rfl ⟨rfl, rfl, rfl, rfl, rfl⟩ rfl rfl rfl rfl rfl (by kernel_rfl) Try.func11 (by kernel_rfl)
    (of_decide_eq_true (by kernel_rfl)) (by unfold Func.isWrapper; first | (rw [if_pos (by decide +kernel)]; kernel_rfl) | (rw [if_neg (by decide +kernel)]; exact ⟨rfl, rfl⟩))
    (fun os started H enc _ => lifted os started H enc)
end Go.Proofs.Ytcjoocaabeckfaa.teaKeys

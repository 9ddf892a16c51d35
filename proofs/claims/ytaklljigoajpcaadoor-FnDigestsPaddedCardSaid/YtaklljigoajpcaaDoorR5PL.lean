/- FnDigestsPadded: of all bytes: both digests are what the blocks of the bytes, filled up, make of the first state. No condition but that the tables of packages md4 and ripemd160 hold what the program's text lays in them, which the card ties. -/
import Derived.Test.YtaklljigoajpcaaDoorR5Eq
import Derived.Test.YtaklljigoajpcaaDoorR3D
import Derived.Test.YtaklljigoajpcaaDoorR4D
import Derived.Test.YtaklljigoajpcaaDoorR5Glob
import Derived.Test.YtaklljigoajpcaaDoorRows
import Derived.Test.YtaklljigoajpcaaDoorCards
import Derived.Test.YtaklljigoajpcaaDoorTie
import Derived.WalkKit
import Derived.ProofKit
import Derived.OpenShut
import Derived.SevenTiedAt
namespace Go.Proofs.YtaklljigoajpcaaDoor.B.digestsPadded
open Go.ChangeShapes Go.WideShapes Go.ChangeAt Go.RowKit
open Go.Eng
set_option linter.unusedSimpArgs false
set_option linter.unusedVariables false
set_option linter.unusedSectionVars false
section
variable [RowAddr]
theorem ok20 : SpecOk Tryd.prog noGlob 20 M.c10.spec := spec_wide more_md M.c10_ok
theorem ok10 : SpecOk Tryd.prog noGlob 10 c10.spec := spec_wide more_rip c10_ok
def specs7 : FuncId → Option Eng.Spec
  | 14 => some M.c14.spec
  | 16 => some c16.spec
  | 19 => some c19.spec
  | 20 => some M.c10.spec
  | 10 => some c10.spec
  | 9 => some spEq
  | 13 => some M.sp13
  | 8 => some sp8
  | _ => none
theorem specs7_ok : ∀ f sp, specs7 f = some sp → SpecOk Tryd.prog noGlob f sp := by
  intro f sp h
  unfold specs7 at h
  split at h
  · injection h with h; subst h; exact B.ok14
  · injection h with h; subst h; exact B.ok16
  · injection h with h; subst h; exact c19_ok
  · injection h with h; subst h; exact ok20
  · injection h with h; subst h; exact ok10
  · injection h with h; subst h; exact okEq
  · injection h with h; subst h; exact B.ok13
  · injection h with h; subst h; exact B.ok8
  · cases h
def bytes4 (h : M.W4) : List (BitVec 8) := [h.x0.setWidth 8, (h.x0 >>> 8).setWidth 8, (h.x0 >>> 16).setWidth 8, (h.x0 >>> 24).setWidth 8, h.x1.setWidth 8, (h.x1 >>> 8).setWidth 8, (h.x1 >>> 16).setWidth 8, (h.x1 >>> 24).setWidth 8, h.x2.setWidth 8, (h.x2 >>> 8).setWidth 8, (h.x2 >>> 16).setWidth 8, (h.x2 >>> 24).setWidth 8, h.x3.setWidth 8, (h.x3 >>> 8).setWidth 8, (h.x3 >>> 16).setWidth 8, (h.x3 >>> 24).setWidth 8]
def sameM (l : Vec 8) : Bool := eqCond (Vec.of (M.bytesOf (M.digH l 0 l.n))) (Vec.of (bytes4 (M.mdAll M.H0 (padV l 0 l.n) 0 (padN l.n / 64)))) 0 0 16 16
def sameR (l : Vec 8) : Bool := eqCond (Vec.of (bytesOf (digH l 0 l.n))) (Vec.of (bytesOf (ripAll H0 (padV l 0 l.n) 0 (padN l.n / 64)))) 0 0 20 20
theorem runA (l : Vec 8) : verdict (goB specs7 noLoop 7 [.sl 0 (.c 0) (.s l.n) none] ⟨[⟨.b8 l, .ro⟩], big, [true], []⟩) = some (true, [(decide ((2147483647 : Int) < ((l.n : Nat) : Int)) == true)]) := by kernel_rfl
theorem runB (l : Vec 8) : verdict (goB specs7 noLoop 7 [.sl 0 (.c 0) (.s l.n) none] ⟨[⟨.b8 l, .ro⟩], big, [false, true], []⟩) = some (true, [(decide ((1048576 : Int) < ((l.n : Nat) : Int)) == true), (decide ((2147483647 : Int) < ((l.n : Nat) : Int)) == false)]) := by kernel_rfl
theorem runE (l : Vec 8) : verdict (goB specs7 noLoop 7 [.sl 0 (.c 0) (.s l.n) none] ⟨[⟨.b8 l, .ro⟩], big, false :: false :: List.replicate 12 true, []⟩) = some (true, [(sameR l), decide (((0 + l.n) ≤ l.n ∧ l.n ≤ 1099511627776)), (((((64 * ((B.padN l.n) / 64)) : Nat) : Int) == (((B.padN l.n) : Nat) : Int)) == true), (sameM l), (((((64 * ((B.padN l.n) / 64)) : Nat) : Int) == (((B.padN l.n) : Nat) : Int)) == true), (((((64 * ((B.padN l.n) / 64)) : Nat) : Int) == (((B.padN l.n) : Nat) : Int)) == true), (((((64 * ((B.padN l.n) / 64)) : Nat) : Int) == (((B.padN l.n) : Nat) : Int)) == true), decide (((0 + l.n) ≤ l.n ∧ l.n ≤ 1099511627776)), (((((64 * ((B.padN l.n) / 64)) : Nat) : Int) == (((B.padN l.n) : Nat) : Int)) == true), (((((64 * ((B.padN l.n) / 64)) : Nat) : Int) == (((B.padN l.n) : Nat) : Int)) == true), (((((64 * ((B.padN l.n) / 64)) : Nat) : Int) == (((64 * ((B.padN l.n) / 64)) : Nat) : Int)) == true), (((((64 * ((B.padN l.n) / 64)) : Nat) : Int) == (((64 * ((B.padN l.n) / 64)) : Nat) : Int)) == true), (((((64 * ((B.padN l.n) / 64)) : Nat) : Int) == (((64 * ((B.padN l.n) / 64)) : Nat) : Int)) == true), decide (((0 + l.n) ≤ l.n ∧ l.n ≤ 100000000000)), (((((64 * ((B.padN l.n) / 64)) : Nat) : Int) == (((64 * ((B.padN l.n) / 64)) : Nat) : Int)) == true), (((((64 * ((B.padN l.n) / 64)) : Nat) : Int) == (((64 * ((B.padN l.n) / 64)) : Nat) : Int)) == true), (((((64 * ((B.padN l.n) / 64)) : Nat) : Int) == (((64 * ((B.padN l.n) / 64)) : Nat) : Int)) == true), decide (((0 + (B.padN l.n)) ≤ (((((((((B.zapp ((l.sub 0 l.n).app (Vec.of [128#8])) (B.padM l.n)).n + 1) + 1) + 1) + 1) + 1) + 1) + 1) + 1) ∧ (B.padN l.n) ≤ 1099511627776)), decide (((0 + l.n) ≤ l.n ∧ l.n ≤ 100000000000)), decide (((0 + (B.padN l.n)) ≤ (((((((((B.zapp ((l.sub 0 l.n).app (Vec.of [128#8])) (B.padM l.n)).n + 1) + 1) + 1) + 1) + 1) + 1) + 1) + 1) ∧ (B.padN l.n) ≤ 1099511627776)), decide (((0 + l.n) ≤ l.n ∧ l.n ≤ 100000000000)), (decide ((1048576 : Int) < ((l.n : Nat) : Int)) == false), (decide ((2147483647 : Int) < ((l.n : Nat) : Int)) == false)]) := by kernel_rfl
theorem zapp_l (u : Vec 8) : ∀ m : Nat, (zapp u m).l = u.l ++ List.replicate m 0#8
  | 0 => by show u.l = _; simp
  | m + 1 => by
    show (zapp u m).l ++ [0#8] = _
    rw [zapp_l u m, List.append_assoc, ← List.replicate_succ']
def tail8 (n : Int) : List (BitVec 8) := [lenB n 0, lenB n 1, lenB n 2, lenB n 3, lenB n 4, lenB n 5, lenB n 6, lenB n 7]
theorem pad_l (l : Vec 8) : (padV l 0 l.n).l = l.l ++ ([128#8] ++ (List.replicate (padM l.n) 0#8 ++ tail8 l.n)) := by
  have hl := l.h
  have e : (l.sub 0 l.n).l = l.l := by
    rw [Vec.sub_l (by omega), List.drop_zero, List.take_of_length_le (by omega)]
  show ((((((((zapp ((l.sub 0 l.n).app (Vec.of [128#8])) (padM l.n)).l ++ [_]) ++ [_]) ++ [_]) ++ [_]) ++ [_]) ++ [_]) ++ [_]) ++ [_] = _
  rw [zapp_l]
  show ((((((((((l.sub 0 l.n).l ++ [128#8]) ++ List.replicate (padM l.n) 0#8) ++ [_]) ++ [_]) ++ [_]) ++ [_]) ++ [_]) ++ [_]) ++ [_]) ++ [_] = _
  rw [e]
  simp only [List.append_assoc]
  rfl
theorem pad_low (l : Vec 8) (i : Nat) (hi : i < l.n) : (padV l 0 l.n).l.getD i 0#8 = l.l.getD i 0#8 := by
  have hl := l.h
  rw [pad_l, List.getD_eq_getElem?_getD, List.getElem?_append_left (by omega), List.getD_eq_getElem?_getD]
theorem pad_mid (l : Vec 8) (i : Nat) (hi : i < 1 + padM l.n) : (padV l 0 l.n).l.getD (l.n + i) 0#8 = if i = 0 then 0x80#8 else 0#8 := by
  have hl := l.h
  rw [pad_l, List.getD_eq_getElem?_getD, List.getElem?_append_right (by omega), hl, Nat.add_sub_cancel_left]
  cases i with
  | zero => rfl
  | succ i =>
    rw [if_neg (by omega), List.getElem?_append_right (by simp), List.getElem?_append_left (by simp; omega)]
    simp [List.getElem?_replicate, show i < padM l.n by omega]
theorem pad_high (l : Vec 8) (i : Nat) (hi : i < 8) : (padV l 0 l.n).l.getD (l.n + (1 + padM l.n) + i) 0#8 = lenB l.n i := by
  have hl := l.h
  rw [pad_l, List.getD_eq_getElem?_getD, List.getElem?_append_right (by omega), hl, show l.n + (1 + padM l.n) + i - l.n = 1 + (padM l.n + i) by omega, List.getElem?_append_right (by simp), List.getElem?_append_right (by simp)]
  have e : 1 + (padM l.n + i) - ([128#8] : List (BitVec 8)).length - (List.replicate (padM l.n) 0#8).length = i := by simp
  rw [e]
  have h : ∀ i : Fin 8, ∀ n : Int, ((tail8 n)[i.1]?).getD 0#8 = lenB n i.1 := by
    intro i n
    match i with
    | 0 => rfl
    | 1 => rfl
    | 2 => rfl
    | 3 => rfl
    | 4 => rfl
    | 5 => rfl
    | 6 => rfl
    | 7 => rfl
  exact h ⟨i, hi⟩ l.n
theorem len_byte (n i : Nat) (hn : n ≤ 1099511627776) : (((0#64 + BitVec.ofInt 64 ((n : Nat) : Int)) <<< 3) >>> (8 * i)).setWidth 8 = lenB n i := by
  refine BitVec.eq_of_toNat_eq ?_
  have e1 : (0#64 + BitVec.ofInt 64 ((n : Nat) : Int)).toNat = n := tc_eq n hn
  have e2 : lenB n i = BitVec.ofNat 8 (n * 8 / 2 ^ (8 * i)) := by
    unfold lenB
    have : ((n : Int) * 2 ^ 3 / 2 ^ (8 * i)) = ((n * 8 / 2 ^ (8 * i) : Nat) : Int) := by
      rw [Int.natCast_ediv, Int.natCast_mul, Int.natCast_pow]; rfl
    rw [this, BitVec.ofInt_natCast]
  rw [e2, BitVec.toNat_setWidth, BitVec.toNat_ushiftRight, BitVec.toNat_shiftLeft, e1, BitVec.toNat_ofNat, Nat.shiftLeft_eq, Nat.shiftRight_eq_div_pow, Nat.mod_eq_of_lt (show n * 2 ^ 3 < 2 ^ 64 by omega)]
theorem padM_eq (n : Nat) : 1 + padM n = if n % 64 < 56 then 56 - n % 64 else 120 - n % 64 := by
  unfold padM
  split <;> omega
theorem T2R (n i : Nat) (hn : n ≤ 1099511627776) (hi : i < 8) : (T2 (0#64 + BitVec.ofInt 64 ((n : Nat) : Int))).l.getD i 0#8 = lenB n i := by
  rw [← len_byte n i hn]
  generalize 0#64 + BitVec.ofInt 64 ((n : Nat) : Int) = tc
  have h : ∀ i : Fin 8, (T2 tc).l.getD i.1 0#8 = ((tc <<< 3) >>> (8 * i.1)).setWidth 8 := by
    intro i
    match i with
    | 0 => rfl
    | 1 => rfl
    | 2 => rfl
    | 3 => rfl
    | 4 => rfl
    | 5 => rfl
    | 6 => rfl
    | 7 => rfl
  exact h ⟨i, hi⟩
theorem T2M (n i : Nat) (hn : n ≤ 1099511627776) (hi : i < 8) : (M.T2 (0#64 + BitVec.ofInt 64 ((n : Nat) : Int))).l.getD i 0#8 = lenB n i := T2R n i hn hi
theorem digR (l : Vec 8) (hn : l.n ≤ 1099511627776) : digH l 0 l.n = ripAll H0 (padV l 0 l.n) 0 (padN l.n / 64) := by
  rw [show padN l.n = l.n + (1 + padM l.n) + 8 by unfold padN; omega]
  refine dig_eq l (padV l 0 l.n) l.n (1 + padM l.n) (by omega) hn (padM_eq l.n) (fun i hi => ?_) (fun i hi => ?_) (fun i hi => ?_)
  · rw [Nat.zero_add, pad_low l i hi]
  · rw [Nat.zero_add, pad_mid l i hi, T1_get i (by have := Nat.mod_lt (120 - (l.n + 1) % 64) (show 0 < 64 by omega); unfold padM at hi; omega)]
  · rw [Nat.zero_add, pad_high l i hi, T2R l.n i hn hi]
theorem digM (l : Vec 8) (hn : l.n ≤ 1099511627776) : M.digH l 0 l.n = M.mdAll M.H0 (padV l 0 l.n) 0 (padN l.n / 64) := by
  rw [show padN l.n = l.n + (1 + padM l.n) + 8 by unfold padN; omega]
  refine M.dig_eq l (padV l 0 l.n) l.n (1 + padM l.n) (by omega) hn (padM_eq l.n) (fun i hi => ?_) (fun i hi => ?_) (fun i hi => ?_)
  · rw [Nat.zero_add, pad_low l i hi]
  · rw [Nat.zero_add, pad_mid l i hi, M.T1_get i (by have := Nat.mod_lt (120 - (l.n + 1) % 64) (show 0 < 64 by omega); unfold padM at hi; omega)]
  · rw [Nat.zero_add, pad_high l i hi, T2M l.n i hn hi]
theorem sameR_true (l : Vec 8) (hn : l.n ≤ 1099511627776) : sameR l = true := by
  unfold sameR
  rw [digR l hn]
  exact decide_eq_true ⟨rfl, Nat.le_refl _, Nat.le_refl _, by omega, fun _ _ => rfl⟩
theorem sameM_true (l : Vec 8) (hn : l.n ≤ 1099511627776) : sameM l = true := by
  have e : ∀ h : M.W4, M.bytesOf h = bytes4 h := by
    intro h
    unfold M.bytesOf bytes4
    simp only [BitVec.ushiftRight_zero]
  unfold sameM
  rw [digM l hn, e]
  exact decide_eq_true ⟨rfl, Nat.le_refl _, Nat.le_refl _, by omega, fun _ _ => rfl⟩
theorem walk {W0 : World} (hL : (M.LeadsTo W0 4 .i64 M.n_shift1 (RowAddr.row 4) ∧ M.LeadsTo W0 6 .i64 M.n_shift2 (RowAddr.row 6) ∧ M.LeadsTo W0 8 .i64 M.n_shift3 (RowAddr.row 8) ∧ M.LeadsTo W0 5 .u64 M.n_xIndex2 (RowAddr.row 5) ∧ M.LeadsTo W0 7 .u64 M.n_xIndex3 (RowAddr.row 7)) ∧ ripReads W0) {v1 : Value} (l : Vec 8) (w1 : SlOk W0 v1 (.b8 l)) (_ : l.n ≤ maxLen) :
    Calls Tryd.prog 7 #[v1] W0 fun e W' => e = .returned (.bool true) ∧ Still W0 W' := by
  have hb := goB_ok specs7_ok (no_loops specs7)
  have hx : ∀ p ∈ [(v1, Eng.Data.b8 l)], SlOk W0 p.1 p.2 := ss_cons w1 ss_nil
  have args2 : ∀ β, (∀ (i : Nat) v d, [(v1, Eng.Data.b8 l)][i]? = some (v, d) → VRel β (.sl i (.c 0) (.s d.len) none) v) → LRel β [.sl 0 (.c 0) (.s l.n) none] [v1] :=
    fun β h => LRel.cons (h 0 v1 _ rfl) (LRel.nil β)
  by_cases hA : 2147483647 < l.n
  · refine law_runG hb _ (glob_ok hL) hx (runA l) ?_ args2
    repeat' (refine all_true_cons ?_ ?_)
    all_goals first | exact all_true_nil | rfl | (simp only [beq_true, beq_false, decide_eq_true_eq, Bool.not_eq_true', decide_eq_false_iff_not, beq_eq_false_iff_ne, ne_eq, Bool.not_eq_false', beq_iff_eq, Bool.and_eq_true, true_and, and_true] <;> omega)
  by_cases hC : 1048576 < l.n
  · refine law_runG hb _ (glob_ok hL) hx (runB l) ?_ args2
    repeat' (refine all_true_cons ?_ ?_)
    all_goals first | exact all_true_nil | rfl | (simp only [beq_true, beq_false, decide_eq_true_eq, Bool.not_eq_true', decide_eq_false_iff_not, beq_eq_false_iff_ne, ne_eq, Bool.not_eq_false', beq_iff_eq, Bool.and_eq_true, true_and, and_true] <;> omega)
  refine law_runG hb _ (glob_ok hL) hx (runE l) ?_ args2
  have hs := sameR_true l (by omega)
  have ht := sameM_true l (by omega)
  have hp := padV_n l 0 l.n
  have hq : (zapp ((l.sub 0 l.n).app (Vec.of [128#8])) (padM l.n)).n = l.n + 1 + padM l.n := zapp_n _ _
  have hr : padN l.n = l.n + 1 + padM l.n + 8 := rfl
  have hN : padN l.n ≤ l.n + 80 := by
    unfold padN padM; omega
  have hN2 : padN l.n % 64 = 0 := by
    unfold padN padM; omega
  repeat' (refine all_true_cons ?_ ?_)
  all_goals first | exact hs | exact ht | exact all_true_nil | rfl | (simp only [hp, hq, beq_true, beq_false, decide_eq_true_eq, Bool.not_eq_true', decide_eq_false_iff_not, beq_eq_false_iff_ne, ne_eq, Bool.not_eq_false', beq_iff_eq, Bool.and_eq_true, true_and, and_true] <;> omega)
end
theorem own : ownKnob Tryd.prog.godebug = none := by kernel_rfl
theorem laidOut : laidOutB Tryd.prog = true := by kernel_rfl
theorem read22 : Tryd.prog.readableRec 22 = true ∧ 22 < Tryd.prog.types.size := ⟨by kernel_rfl, of_decide_eq_true (by kernel_rfl)⟩
theorem cells5 : Tryd.prog.cellsOf 5 = 1 := by kernel_rfl
set_option maxRecDepth 100000 in
theorem contract (H : Type) (enc : TypeId × Value → H) (W : World) (base : Nat) (args : Array Value) (ds gs : List (DataW H)) (before : List MemPlace)
    (hval : ∀ (j : Nat) t v, Tryd.f7.params[j]? = some t → args[j]? = some v → Value.okWide Tryd.prog W .any base t v)
    (hL : laidMet Tryd.prog laidB W)
    (hW : DataW.Whole enc Tryd.prog Tryd.f7.params.toList Rows.fnDigestsPaddedSpec.vars false W args.toList ds gs before) :
    Calls Tryd.prog 7 args W fun e W' => ∃ v, e = .returned v ∧ Rows.fnDigestsPaddedSpec.post enc Tryd.prog Tryd.f7 false true false false W args v W' := by
  have hW' := hW
  obtain ⟨p, q, hA0, hV, rfl, hfz, hnd⟩ := hW
  have hA : DataW.TrodAll enc Tryd.prog W 0 (fun _ => true) true Tryd.f7.params.toList args.toList ds p := hA0
  rw [Tryd.params7] at hA hval
  obtain ⟨v0, vs0, d0, ds0, p0, q0, hargs, rfl, rfl, h0, r0⟩ := trodAll_cons hA
  obtain ⟨rfl, rfl, rfl⟩ := trodAll_nil r0
  obtain rfl : args = #[v0] := by cases args; simp_all
  obtain ⟨r, hr⟩ := rows_of hL
  letI : RowAddr := ⟨r⟩
  obtain ⟨l0, w0, m0⟩ := open_sl8 Tryd.underlying22 Tryd.underlying5 cells5 (hval 0 22 v0 rfl rfl) h0
  refine (walk hr l0 w0 m0).mono fun e W' ⟨he, hs⟩ => ?_
  subst he
  exact ⟨_, rfl, post_of_still (tb := 4) hW' rfl rfl laidOut (by
    intro t ht
    rw [Tryd.params7] at ht
    have : t = 22 := by simpa using ht
    subst this
    · exact read22
    ) (by kernel_rfl) Tryd.underlying4 hs⟩
theorem laid_plain {w : World} (h : laidMetH Tryd.prog laidB w) : laidMet Tryd.prog laidB w := h
set_option maxRecDepth 100000 in
theorem lifted (os : Os) (started : os.Started) (H : Type) (enc : TypeId × Value → H) :
    ReturnsInHanded {} Tryd.checked os 7 .any (fun w args => (Rows.fnDigestsPaddedSpec.pre enc Tryd.prog Tryd.f7 [] false w args ∧ laidMetH Tryd.prog laidB w) ∧ sizedMet enc Tryd.prog Tryd.f7 (OpenSpec.ofChange Rows.fnDigestsPaddedSpec) false w args)
      (Rows.fnDigestsPaddedSpec.post enc Tryd.prog Tryd.f7 false true false false) := by
  refine returnsInHanded_of_change_and (C := Tryd.checked) (X := fun w _ => laidMetH Tryd.prog laidB w) (fun _ _ _ hh h => h.of_heap hh) own started (by kernel_rfl) Tryd.func7
    (ChangeSpec.witness_shaped (enc := enc) (C := Tryd.checked) (os := os) (X := fun w _ => laidMetH Tryd.prog laidB w) false (laidWorld os) #[.slice none 0 0] 8 rfl (World.shaped_of_RefB (by kernel_rfl) (by kernel_rfl)) (by kernel_rfl) (by kernel_rfl) (by kernel_rfl) (laidWorld_met os _)) ?_
  intro W base args ds gs before hval hW _ _ hL _
  exact contract H enc W base args ds gs before hval (laid_plain hL) hW
theorem holds : Rows.FnDigestsPaddedSaid :=
  OpenClaim.holds_of_wide 7 Tryd.f7 rfl rfl rfl rfl rfl rfl rfl ⟨rfl, rfl, rfl, rfl, rfl⟩ rfl rfl rfl rfl rfl (by kernel_rfl) Tryd.func7 (by kernel_rfl)
    (of_decide_eq_true (by kernel_rfl)) (by unfold Func.isWrapper; first | (rw [if_pos (by decide +kernel)]; kernel_rfl) | (rw [if_neg (by decide +kernel)]; exact ⟨rfl, rfl⟩))
    (fun os started H enc _ => lifted os started H enc)
theorem card_holds : Rows.FnDigestsPaddedCardSaid :=
  Claim7.holds_tied_plain_at .later [] [.data, .data, .data, .data, .data, .data, .data, .data, .data] true (true, "29816d1f0eb4f00cb746d9b64e0df4ee5501f78b92cd8e10c20a87834921c875") false
    holds (fun _ h => by cases h) (by kernel_rfl) (fun _ h => by cases h) fnDigestsPadded_row_tie rfl ⟨rfl, rfl⟩ (by kernel_rfl) rfl
    (fun f fn hf hfn => by
      obtain rfl : f = 7 := Option.some.inj ((show Tryd.prog.funcNamed "pub-wardkeep/laws.FnDigestsPadded" = some 7 by kernel_rfl).symm.trans hf) |>.symm
      obtain rfl : fn = Tryd.f7 := (Option.some.inj (Tryd.func7.symm.trans hfn)).symm
      exact ⟨by kernel_rfl, fun j t ht => by
        rw [Tryd.params7] at ht
        have h3 : t = 22 := by
          rcases j with _ | j
          · simpa using ht.symm
          · simp at ht
        subst h3
        · exact (show Tryd.prog.wantsStandIn 22 = false by kernel_rfl)⟩)
    (by kernel_rfl)
end Go.Proofs.YtaklljigoajpcaaDoor.B.digestsPadded

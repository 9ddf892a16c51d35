/- The contract of the package's product of two bytes. -/
import Derived.Test.YtcjoocaabeckfaaR2Xtea
import Derived.Test.YtcjoocaabeckfaaEngD
namespace Go.Proofs.Ytcjoocaabeckfaa
open Go.Eng
structure GfD where
  a : BitVec 8
  (B P r : BitVec 32)
  i : Int
def ix (k : Nat) : Nat := 0 + k * 1
/-- The first cell, nought, or the second one. -/
def sel (v : BitVec 32) (k : Nat) : BitVec 32 := [0#32, v].getD (ix k) 0#32
def GfD.good (d : GfD) : Bool := decide (0 ≤ d.i ∧ d.i ≤ 7 ∧ d.B.toNat < 256 ∧ 256 ≤ d.P.toNat ∧ d.P.toNat < 512)
def gfSt (d : GfD) : Fr × List Blk := (⟨[.w8 d.a, .undef, .undef, .undef, .undef, .undef, .undef, .ptr 0 (.c 0), .ptr 1 (.c 0), .w32 d.r, .int .i64 (.s d.i)], []⟩, [⟨.gen [.int .u32 (.c 0), .w32 d.B], .own⟩, ⟨.gen [.int .u32 (.c 0), .w32 d.P], .ro⟩])
def gfNext (d : GfD) : GfD := ⟨d.a >>> 1, sel d.P (d.B >>> 7).toNat ^^^ d.B <<< 1, d.P, d.r ^^^ sel d.B (d.a &&& 1#8).toNat, d.i + 1⟩
def gfParse (F : Fr) (H : List Blk) : Option GfD :=
  match F.vars with
  | [v0, _, _, _, _, _, _, .ref (.ptr 0 (.c 0)), .ref (.ptr 1 (.c 0)), v9, .num (.int .i64 i)] =>
    match H with
    | [⟨.gen [.num (.int .u32 (.c 0)), c0], .own⟩, ⟨.gen [.num (.int .u32 (.c 0)), c1], .own⟩] =>
      match v0.bv8, v9.bv32, c0.bv32, c1.bv32 with
      | some a, some r, some B, some P => some ⟨a, B, P, r, i.v⟩
      | _, _, _, _ => none
    | _ => none
  | _ => none
theorem gfParse_in (F : Fr) (H : List Blk) (d : GfD) (h : gfParse F H = some d) : wkF none (gfSt d).1 F = some (gfSt d).1 ∧ cH (gfSt d).2 (H ++ []) = some (gfSt d).2 := by
  unfold gfParse at h
  split at h
  case h_2 => cases h
  rename_i hv
  split at h
  case h_2 => cases h
  split at h
  case h_2 => cases h
  rename_i a1 a2 a3 a4
  injection h with h; subst h
  constructor
  · simp only [wkF, hv, gfSt, wkL, wkV, cV, cNum, a1, a2, Option.map_some]; rfl
  · simp only [gfSt, List.append_nil, cH, cB, cD, cL, cV, cNum, a3, a4, Option.map_some]
def gfT : LoopT GfD where
  parse := gfParse
  gh := []
  st := gfSt
  next := gfNext
  rem d := (7 - d.i).toNat
  good := GfD.good
  out := .exit 0
  fin := gfSt
theorem gfRound (d : GfD) : ranAs 2 none (gfSt (gfNext d)) (goL noSpec noLoop 58 0 (gfSt d).1 ⟨(gfSt d).2, big, [true], []⟩) = some (.normal, (gfSt (gfNext d)), [decide (((-9223372036854775808) ≤ (d.i + 1) ∧ (d.i + 1) ≤ 9223372036854775807)), decide ((0 + (((((((d.B >>> 7)).toNat : Nat) : Int)) : Int).toNat * 1)) < 2), (decide ((0 : Int) ≤ ((((d.B >>> 7)).toNat : Nat) : Int)) && decide (((((d.B >>> 7)).toNat : Nat) : Int) < ((2 : Nat) : Int))), decide ((0 + (((((((d.a &&& (1#8))).toNat : Nat) : Int)) : Int).toNat * 1)) < 2), (decide ((0 : Int) ≤ ((((d.a &&& (1#8))).toNat : Nat) : Int)) && decide (((((d.a &&& (1#8))).toNat : Nat) : Int) < ((2 : Nat) : Int))), (decide (d.i < 7) == true)]) := by kernel_rfl
theorem gfEnd (d : GfD) : ranAs 2 none (gfSt d) (goL noSpec noLoop 58 0 (gfSt d).1 ⟨(gfSt d).2, big, [false], []⟩) = some ((.exit 0), (gfSt d), [(decide (d.i < 7) == false)]) := by kernel_rfl
theorem and1_lt (x : BitVec 8) : (x &&& 1#8).toNat < 2 := by
  rw [BitVec.toNat_and]
  have : x.toNat &&& (1#8).toNat ≤ (1#8).toNat := Nat.and_le_right
  have e : (1#8).toNat = 1 := rfl
  omega
theorem shr7_lt (x : BitVec 32) (h : x.toNat < 256) : (x >>> 7).toNat < 2 := by
  rw [BitVec.toNat_ushiftRight, Nat.shiftRight_eq_div_pow]; omega
theorem sel_0 (v : BitVec 32) : sel v 0 = 0#32 := rfl
theorem sel_1 (v : BitVec 32) : sel v 1 = v := rfl
theorem xt_lt (B P : BitVec 32) (hB : B.toNat < 256) (h1 : 256 ≤ P.toNat) (h2 : P.toNat < 512) : (sel P (B >>> 7).toNat ^^^ B <<< 1).toNat < 256 := by
  have h7 := shr7_lt B hB
  have hsh : (B <<< 1).toNat = 2 * B.toNat := by rw [BitVec.toNat_shiftLeft, Nat.shiftLeft_eq]; omega
  have hd : (B >>> 7).toNat = B.toNat / 128 := by rw [BitVec.toNat_ushiftRight, Nat.shiftRight_eq_div_pow]
  rcases Nat.lt_or_ge B.toNat 128 with h | h
  · have e : (B >>> 7).toNat = 0 := by omega
    rw [e, sel_0, BitVec.zero_xor, hsh]; omega
  · have e : (B >>> 7).toNat = 1 := by omega
    rw [e, sel_1, BitVec.toNat_xor, hsh]
    have hx : P.toNat ^^^ 2 * B.toNat < 2 ^ 9 := Nat.xor_lt_two_pow (by omega) (by omega)
    rcases Nat.lt_or_ge (P.toNat ^^^ 2 * B.toNat) 256 with h' | h'
    · exact h'
    · exfalso
      have hb : (P.toNat ^^^ 2 * B.toNat).testBit 8 = true := Nat.testBit_of_two_pow_le_and_two_pow_add_one_gt h' hx
      have hp : P.toNat.testBit 8 = true := Nat.testBit_of_two_pow_le_and_two_pow_add_one_gt h1 h2
      have hb2 : (2 * B.toNat).testBit 8 = true := Nat.testBit_of_two_pow_le_and_two_pow_add_one_gt (by omega) (by omega)
      rw [Nat.testBit_xor, hp, hb2] at hb
      cases hb
theorem gfLen : (loopsIn Try.prog 58).length = 1 := by kernel_rfl
theorem gfTold : Told 58 0 gfT.told := by
  refine loop_ran gfT (goL_ok no_specs (no_loops _) 58 0 fine58 (by rw [gfLen]; omega)) (by intro k hk; cases hk) (by intro h; cases h) gfParse_in (fun d k hg hr => ?_) (fun d hg hr => ?_)
  · obtain ⟨g1, g2, g3, g4, g5⟩ := of_decide_eq_true hg
    have hr' : (7 - d.i).toNat = k + 1 := hr
    have ha := and1_lt d.a
    have h7 := shr7_lt d.B g3
    refine ⟨⟨[true], none, _, gfRound d, ?_⟩, decide_eq_true ⟨?_, ?_, xt_lt d.B d.P g3 g4 g5, g4, g5⟩, ?_, rfl⟩
    · repeat' (refine all_true_cons ?_ ?_)
      all_goals first | exact all_true_nil | (simp only [decide_eq_true_eq, Bool.and_eq_true, beq_true]; omega)
    · show 0 ≤ d.i + 1; omega
    · show d.i + 1 ≤ 7; omega
    · show (7 - (d.i + 1)).toNat = k; omega
  · obtain ⟨g1, g2, g3, g4, g5⟩ := of_decide_eq_true hg
    have hr' : (7 - d.i).toNat = 0 := hr
    refine ⟨[false], none, _, gfEnd d, ?_⟩
    repeat' (refine all_true_cons ?_ ?_)
    all_goals first | exact all_true_nil | (simp only [beq_false, Bool.not_eq_true', decide_eq_false_iff_not]; omega)
def gfLoops : FuncId → Nat → Option LSpec
  | 58, 5 => some gfT.told
  | _, _ => none
theorem gfLoops_ok (spec : FuncId → Option Eng.Spec) : LoopsOk (cfg spec gfLoops) noGlob := by
  refine LoopsOk.of fun f => ?_
  by_cases hf : f = 58
  · subst hf
    refine .inr ⟨by kernel_rfl, fun i hi sp hsp => ?_⟩
    have hi : i < (loopsIn Try.prog 58).length := hi
    rw [gfLen] at hi
    obtain rfl : i = 0 := by omega
    have e : (firstRid (loopIn Try.prog 58 0)).bind (gfLoops 58) = some gfT.told := by kernel_rfl
    obtain rfl := Option.some.inj (e.symm.trans hsp)
    exact gfTold
  · refine .inl fun r => ?_
    show gfLoops f r = none
    unfold gfLoops
    split
    · exact absurd rfl hf
    · rfl
def gf0 (a b : BitVec 8) (p : BitVec 32) : GfD := ⟨a, b.setWidth 32, p, 0#32, 0⟩
def gf7 (a b : BitVec 8) (p : BitVec 32) : GfD := iter gfNext (7 - (0 : Int)).toNat (gf0 a b p)
/-- The product. -/
def gf (a b : BitVec 8) (p : BitVec 32) : BitVec 8 := ((gf7 a b p).r ^^^ sel (gf7 a b p).B ((gf7 a b p).a &&& 1#8).toNat).setWidth 8
def fitA (a b : BitVec 8) (p : BitVec 32) : Bool := decide (ix ((gf7 a b p).a &&& 1#8).toNat < 2)
def fitB (a b : BitVec 8) (p : BitVec 32) : Bool := decide ((0 : Int) ≤ ((((gf7 a b p).a &&& 1#8).toNat : Nat) : Int)) && decide (((((gf7 a b p).a &&& 1#8).toNat : Nat) : Int) < ((2 : Nat) : Int))
theorem run58 (a b : BitVec 8) (p : BitVec 32) : endsAs 0 (some []) [] (.w8 (gf a b p)) (goB noSpec gfLoops 58 [.w8 a, .w8 b, .w32 p] ⟨[], big, [], []⟩) = some ([], (.w8 (gf a b p)), [fitA a b p, fitB a b p, GfD.good (gf0 a b p)]) := by kernel_rfl
def sp58 : Eng.Spec := fun args H dec =>
  match args with
  | [v0, v1, v2] =>
    match H with
    | [] =>
      match v0.bv8, v1.bv8, v2.bv32 with
      | some a, some b, some p => some ⟨.w8 (gf a b p), [], dec, [decide (256 ≤ p.toNat ∧ p.toNat < 512)]⟩
      | _, _, _ => none
    | _ => none
  | _ => none
theorem wk_w8 {v : AV} {x : BitVec 8} (h : v.bv8 = some x) : cV (.w8 x) v = some (.w8 x) := by simp only [cV, cNum, h, Option.map_some]
theorem wk_w32 {v : AV} {x : BitVec 32} (h : v.bv32 = some x) : cV (.w32 x) v = some (.w32 x) := by simp only [cV, cNum, h, Option.map_some]
theorem ok58 : SpecOk Try.prog noGlob 58 sp58 := by
  refine SpecOk.ends (goB_ok no_specs (gfLoops_ok _)) (fun args H dec r hr hc => ?_) (fun args H dec r hr i k hk hm => ?_)
  · unfold sp58 at hr
    split at hr
    case h_2 => cases hr
    split at hr
    case h_2 => cases hr
    split at hr
    case h_2 => cases hr
    rename_i a b p h1 h2 h3
    injection hr with hr; subst hr
    have hd := of_decide_eq_true (hc _ (List.mem_singleton.2 rfl))
    refine ⟨[.w8 a, .w8 b, .w32 p], [], _, _, [], some [], _, _, ?_, rfl, run58 a b p, ?_, rfl⟩
    · simp only [wkL, wkV, wk_w8 h1, wk_w8 h2, wk_w32 h3]
    · have ha := and1_lt (gf7 a b p).a
      refine all_true_cons (decide_eq_true ?_) (all_true_cons ?_ (all_true_cons (decide_eq_true ⟨Int.le_refl _, by show (0 : Int) ≤ 7; omega, ?_, hd.1, hd.2⟩) all_true_nil))
      · unfold ix; omega
      · unfold fitB; simp only [Bool.and_eq_true, decide_eq_true_eq]; omega
      · show (b.setWidth 32).toNat < 256
        rw [BitVec.toNat_setWidth]; have := b.isLt; omega
  · unfold sp58 at hr
    split at hr
    case h_2 => cases hr
    split at hr
    case h_2 => cases hr
    split at hr
    case h_2 => cases hr
    injection hr with hr; subst hr
    simp at hk
end Go.Proofs.Ytcjoocaabeckfaa

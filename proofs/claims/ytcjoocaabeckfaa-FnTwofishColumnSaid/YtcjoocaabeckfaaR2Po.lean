/- The contract of the reference's product of two bytes. -/
import Derived.Test.YtcjoocaabeckfaaR2Gf
namespace Go.Proofs.Ytcjoocaabeckfaa
open Go.Eng
structure PoD where
  b : BitVec 8
  (m out x : Nat)
  i : Int
def PoD.good (d : PoD) : Bool := decide (0 ≤ d.i ∧ d.i ≤ 8 ∧ 256 ≤ d.m ∧ d.m < 512 ∧ d.out < 256 ∧ d.x < 256)
def poSt (d : PoD) : Fr × List Blk := (⟨[.undef, .w8 d.b, .int .i64 (.s (d.m : Nat)), .undef, .undef, .undef, .undef, .int .i64 (.s (d.out : Nat)), .int .i64 (.s (d.x : Nat)), .int .i64 (.s d.i)], []⟩, [])
def poBit (d : PoD) : Bool := ((d.b >>> d.i.toNat) &&& 1#8) == 1#8
def poBig (d : PoD) : Bool := decide (255 < ((d.x : Nat) : Int) * 2)
def poTo (t1 t2 : Bool) (d : PoD) : PoD :=
  match t1, t2 with
  | true, true => ⟨d.b, d.m, d.out ^^^ d.x, (d.x * 2) ^^^ d.m, d.i + 1⟩
  | true, false => ⟨d.b, d.m, d.out ^^^ d.x, d.x * 2, d.i + 1⟩
  | false, true => ⟨d.b, d.m, d.out, (d.x * 2) ^^^ d.m, d.i + 1⟩
  | false, false => ⟨d.b, d.m, d.out, d.x * 2, d.i + 1⟩
def poNext (d : PoD) : PoD := poTo (poBit d) (poBig d) d
def natOf (z : Z) : Option Nat :=
  match z.v with
  | .ofNat n => some n
  | .negSucc _ => none
def poParse (F : Fr) (H : List Blk) : Option PoD :=
  match F.vars with
  | [_, v1, .num (.int .i64 m), _, _, _, _, .num (.int .i64 o), .num (.int .i64 x), .num (.int .i64 i)] =>
    match H with
    | [] =>
      match v1.bv8, natOf m, natOf o, natOf x with
      | some b, some m, some o, some x => some ⟨b, m, o, x, i.v⟩
      | _, _, _, _ => none
    | _ => none
  | _ => none
theorem natOf_eq {z : Z} {n : Nat} (h : natOf z = some n) : z.v = (n : Int) := by
  unfold natOf at h
  split at h
  · rename_i k hk
    injection h with h; subst h; exact hk
  · cases h
theorem poParse_in (F : Fr) (H : List Blk) (d : PoD) (h : poParse F H = some d) : wkF none (poSt d).1 F = some (poSt d).1 ∧ cH (poSt d).2 (H ++ []) = some (poSt d).2 := by
  unfold poParse at h
  split at h
  case h_2 => cases h
  rename_i hv
  split at h
  case h_2 => cases h
  split at h
  case h_2 => cases h
  rename_i a1 a2 a3 a4
  injection h with h; subst h
  constructor
  · simp only [wkF, hv, poSt, wkL, wkV, cV, cNum, a1, natOf_eq a2, natOf_eq a3, natOf_eq a4, Option.map_some]; rfl
  · rfl
def poT : LoopT PoD where
  parse := poParse
  gh := []
  st := poSt
  next := poNext
  rem d := (8 - d.i).toNat
  good := PoD.good
  out := .exit 0
  fin := poSt
theorem poTT (d : PoD) : ranAs 0 none (poSt (poTo true true d)) (goL noSpec noLoop 43 0 (poSt d).1 ⟨(poSt d).2, big, [true, true, true], []⟩) = some (.normal, (poSt (poTo true true d)), [decide (((-9223372036854775808) ≤ (d.i + 1) ∧ (d.i + 1) ≤ 9223372036854775807)), decide (((0 : Int) ≤ (((d.x : Nat) : Int) * 2) ∧ ((0 : Int) ≤ ((d.m : Nat) : Int) ∧ ((((d.x : Nat) : Int) * 2) ≤ 9223372036854775807 ∧ ((d.m : Nat) : Int) ≤ 9223372036854775807)))), (decide ((255 : Int) < (((d.x : Nat) : Int) * 2)) == true), decide (((-9223372036854775808) ≤ (((d.x : Nat) : Int) * 2) ∧ (((d.x : Nat) : Int) * 2) ≤ 9223372036854775807)), decide (((0 : Int) ≤ ((d.out : Nat) : Int) ∧ ((0 : Int) ≤ ((d.x : Nat) : Int) ∧ (((d.out : Nat) : Int) ≤ 9223372036854775807 ∧ ((d.x : Nat) : Int) ≤ 9223372036854775807)))), ((((d.b >>> ((d.i) : Int).toNat) &&& (1#8)) == (1#8)) == true), decide ((0 : Int) ≤ d.i), (decide (d.i < 8) == true)]) := by kernel_rfl
theorem poTF (d : PoD) : ranAs 0 none (poSt (poTo true false d)) (goL noSpec noLoop 43 0 (poSt d).1 ⟨(poSt d).2, big, [true, true, false], []⟩) = some (.normal, (poSt (poTo true false d)), [decide (((-9223372036854775808) ≤ (d.i + 1) ∧ (d.i + 1) ≤ 9223372036854775807)), (decide ((255 : Int) < (((d.x : Nat) : Int) * 2)) == false), decide (((-9223372036854775808) ≤ (((d.x : Nat) : Int) * 2) ∧ (((d.x : Nat) : Int) * 2) ≤ 9223372036854775807)), decide (((0 : Int) ≤ ((d.out : Nat) : Int) ∧ ((0 : Int) ≤ ((d.x : Nat) : Int) ∧ (((d.out : Nat) : Int) ≤ 9223372036854775807 ∧ ((d.x : Nat) : Int) ≤ 9223372036854775807)))), ((((d.b >>> ((d.i) : Int).toNat) &&& (1#8)) == (1#8)) == true), decide ((0 : Int) ≤ d.i), (decide (d.i < 8) == true)]) := by kernel_rfl
theorem poFT (d : PoD) : ranAs 0 none (poSt (poTo false true d)) (goL noSpec noLoop 43 0 (poSt d).1 ⟨(poSt d).2, big, [true, false, true], []⟩) = some (.normal, (poSt (poTo false true d)), [decide (((-9223372036854775808) ≤ (d.i + 1) ∧ (d.i + 1) ≤ 9223372036854775807)), decide (((0 : Int) ≤ (((d.x : Nat) : Int) * 2) ∧ ((0 : Int) ≤ ((d.m : Nat) : Int) ∧ ((((d.x : Nat) : Int) * 2) ≤ 9223372036854775807 ∧ ((d.m : Nat) : Int) ≤ 9223372036854775807)))), (decide ((255 : Int) < (((d.x : Nat) : Int) * 2)) == true), decide (((-9223372036854775808) ≤ (((d.x : Nat) : Int) * 2) ∧ (((d.x : Nat) : Int) * 2) ≤ 9223372036854775807)), ((((d.b >>> ((d.i) : Int).toNat) &&& (1#8)) == (1#8)) == false), decide ((0 : Int) ≤ d.i), (decide (d.i < 8) == true)]) := by kernel_rfl
theorem poFF (d : PoD) : ranAs 0 none (poSt (poTo false false d)) (goL noSpec noLoop 43 0 (poSt d).1 ⟨(poSt d).2, big, [true, false, false], []⟩) = some (.normal, (poSt (poTo false false d)), [decide (((-9223372036854775808) ≤ (d.i + 1) ∧ (d.i + 1) ≤ 9223372036854775807)), (decide ((255 : Int) < (((d.x : Nat) : Int) * 2)) == false), decide (((-9223372036854775808) ≤ (((d.x : Nat) : Int) * 2) ∧ (((d.x : Nat) : Int) * 2) ≤ 9223372036854775807)), ((((d.b >>> ((d.i) : Int).toNat) &&& (1#8)) == (1#8)) == false), decide ((0 : Int) ≤ d.i), (decide (d.i < 8) == true)]) := by kernel_rfl
theorem poEnd (d : PoD) : ranAs 0 none (poSt d) (goL noSpec noLoop 43 0 (poSt d).1 ⟨(poSt d).2, big, [false], []⟩) = some ((.exit 0), (poSt d), [(decide (d.i < 8) == false)]) := by kernel_rfl
theorem xor_top_lt {p q : Nat} (h1 : 256 ≤ p) (h2 : p < 512) (h3 : 256 ≤ q) (h4 : q < 512) : p ^^^ q < 256 := by
  have hx : p ^^^ q < 2 ^ 9 := Nat.xor_lt_two_pow (by omega) (by omega)
  rcases Nat.lt_or_ge (p ^^^ q) 256 with h' | h'
  · exact h'
  · exfalso
    have hb : (p ^^^ q).testBit 8 = true := Nat.testBit_of_two_pow_le_and_two_pow_add_one_gt h' hx
    have hp : p.testBit 8 = true := Nat.testBit_of_two_pow_le_and_two_pow_add_one_gt h1 h2
    have hq : q.testBit 8 = true := Nat.testBit_of_two_pow_le_and_two_pow_add_one_gt h3 h4
    rw [Nat.testBit_xor, hp, hq] at hb
    cases hb
theorem poLen : (loopsIn Try.prog 43).length = 1 := by kernel_rfl
theorem poTold : Told 43 0 poT.told := by
  refine loop_ran poT (goL_ok no_specs (no_loops _) 43 0 fine43 (by rw [poLen]; omega)) (by intro k hk; cases hk) (by intro h; cases h) poParse_in (fun d k hg hr => ?_) (fun d hg hr => ?_)
  · obtain ⟨g1, g2, g3, g4, g5, g6⟩ := of_decide_eq_true hg
    have hr' : (8 - d.i).toNat = k + 1 := hr
    have hx1 : d.out ^^^ d.x < 256 := Nat.xor_lt_two_pow (n := 8) g5 g6
    have h1 : poT.next d = poTo (poBit d) (poBig d) d := rfl
    cases hb : poBit d with
    | true =>
      cases hc : poBig d with
      | true =>
        have hc' : 255 < ((d.x : Nat) : Int) * 2 := of_decide_eq_true hc
        rw [hb, hc] at h1
        rw [h1]
        refine ⟨⟨[true, true, true], none, _, poTT d, ?_⟩, decide_eq_true ⟨?_, ?_, g3, g4, hx1, xor_top_lt (p := d.x * 2) (q := d.m) (by omega) (by omega) g3 g4⟩, ?_, rfl⟩
        · repeat' (refine all_true_cons ?_ ?_)
          all_goals first | exact all_true_nil | (simp only [decide_eq_true_eq, Bool.and_eq_true, beq_true]; omega) | (show (poBit d == true) = true; rw [hb]; rfl) | (show (poBig d == true) = true; rw [hc]; rfl)
        · show 0 ≤ d.i + 1; omega
        · show d.i + 1 ≤ 8; omega
        · show (8 - (d.i + 1)).toNat = k; omega
      | false =>
        have hc' : ¬ 255 < ((d.x : Nat) : Int) * 2 := of_decide_eq_false hc
        rw [hb, hc] at h1
        rw [h1]
        refine ⟨⟨[true, true, false], none, _, poTF d, ?_⟩, decide_eq_true ⟨?_, ?_, g3, g4, hx1, ?_⟩, ?_, rfl⟩
        · repeat' (refine all_true_cons ?_ ?_)
          all_goals first | exact all_true_nil | (simp only [decide_eq_true_eq, Bool.and_eq_true, beq_true]; omega) | (show (poBit d == true) = true; rw [hb]; rfl) | (show (poBig d == false) = true; rw [hc]; rfl)
        · show 0 ≤ d.i + 1; omega
        · show d.i + 1 ≤ 8; omega
        · show d.x * 2 < 256; omega
        · show (8 - (d.i + 1)).toNat = k; omega
    | false =>
      cases hc : poBig d with
      | true =>
        have hc' : 255 < ((d.x : Nat) : Int) * 2 := of_decide_eq_true hc
        rw [hb, hc] at h1
        rw [h1]
        refine ⟨⟨[true, false, true], none, _, poFT d, ?_⟩, decide_eq_true ⟨?_, ?_, g3, g4, g5, xor_top_lt (p := d.x * 2) (q := d.m) (by omega) (by omega) g3 g4⟩, ?_, rfl⟩
        · repeat' (refine all_true_cons ?_ ?_)
          all_goals first | exact all_true_nil | (simp only [decide_eq_true_eq, Bool.and_eq_true, beq_true]; omega) | (show (poBit d == false) = true; rw [hb]; rfl) | (show (poBig d == true) = true; rw [hc]; rfl)
        · show 0 ≤ d.i + 1; omega
        · show d.i + 1 ≤ 8; omega
        · show (8 - (d.i + 1)).toNat = k; omega
      | false =>
        have hc' : ¬ 255 < ((d.x : Nat) : Int) * 2 := of_decide_eq_false hc
        rw [hb, hc] at h1
        rw [h1]
        refine ⟨⟨[true, false, false], none, _, poFF d, ?_⟩, decide_eq_true ⟨?_, ?_, g3, g4, g5, ?_⟩, ?_, rfl⟩
        · repeat' (refine all_true_cons ?_ ?_)
          all_goals first | exact all_true_nil | (simp only [decide_eq_true_eq, Bool.and_eq_true, beq_true]; omega) | (show (poBit d == false) = true; rw [hb]; rfl) | (show (poBig d == false) = true; rw [hc]; rfl)
        · show 0 ≤ d.i + 1; omega
        · show d.i + 1 ≤ 8; omega
        · show d.x * 2 < 256; omega
        · show (8 - (d.i + 1)).toNat = k; omega
  · obtain ⟨g1, g2, g3, g4, g5, g6⟩ := of_decide_eq_true hg
    have hr' : (8 - d.i).toNat = 0 := hr
    refine ⟨[false], none, _, poEnd d, ?_⟩
    repeat' (refine all_true_cons ?_ ?_)
    all_goals first | exact all_true_nil | (simp only [beq_false, Bool.not_eq_true', decide_eq_false_iff_not]; omega)
def poLoops : FuncId → Nat → Option LSpec
  | 43, 3 => some poT.told
  | _, _ => none
theorem poLoops_ok (spec : FuncId → Option Eng.Spec) : LoopsOk (cfg spec poLoops) noGlob := by
  refine LoopsOk.of fun f => ?_
  by_cases hf : f = 43
  · subst hf
    refine .inr ⟨by kernel_rfl, fun i hi sp hsp => ?_⟩
    have hi : i < (loopsIn Try.prog 43).length := hi
    rw [poLen] at hi
    obtain rfl : i = 0 := by omega
    have e : (firstRid (loopIn Try.prog 43 0)).bind (poLoops 43) = some poT.told := by kernel_rfl
    obtain rfl := Option.some.inj (e.symm.trans hsp)
    exact poTold
  · refine .inl fun r => ?_
    show poLoops f r = none
    unfold poLoops
    split
    · exact absurd rfl hf
    · rfl
def po0 (a b : BitVec 8) (m : Nat) : PoD := ⟨b, m, 0, a.toNat, 0⟩
def po8 (a b : BitVec 8) (m : Nat) : PoD := iter poNext (8 - (0 : Int)).toNat (po0 a b m)
/-- The reference's product. -/
def po (a b : BitVec 8) (m : Nat) : BitVec 8 := BitVec.ofInt 8 ((po8 a b m).out : Nat)
def fitX (a : BitVec 8) : Bool := decide (((a.toNat : Nat) : Int) ≤ 9223372036854775807)
theorem run43 (a b : BitVec 8) (m : Nat) : endsAs 0 (some []) [] (.w8 (po a b m)) (goB noSpec poLoops 43 [.w8 a, .w8 b, .int .i64 (.s (m : Nat))] ⟨[], big, [], []⟩) = some ([], (.w8 (po a b m)), [PoD.good (po0 a b m), fitX a]) := by kernel_rfl
def sp43 : Eng.Spec := fun args H dec =>
  match args with
  | [v0, v1, .num (.int .i64 z)] =>
    match H with
    | [] =>
      match v0.bv8, v1.bv8, natOf z with
      | some a, some b, some m => some ⟨.w8 (po a b m), [], dec, [decide (256 ≤ m ∧ m < 512)]⟩
      | _, _, _ => none
    | _ => none
  | _ => none
theorem ok43 : SpecOk Try.prog noGlob 43 sp43 := by
  refine SpecOk.ends (goB_ok no_specs (poLoops_ok _)) (fun args H dec r hr hc => ?_) (fun args H dec r hr i k hk hm => ?_)
  · unfold sp43 at hr
    split at hr
    case h_2 => cases hr
    split at hr
    case h_2 => cases hr
    split at hr
    case h_2 => cases hr
    rename_i a b m h1 h2 h3
    injection hr with hr; subst hr
    have hd := of_decide_eq_true (hc _ (List.mem_singleton.2 rfl))
    refine ⟨[.w8 a, .w8 b, .int .i64 (.s (m : Nat))], [], _, _, [], some [], _, _, ?_, rfl, run43 a b m, ?_, rfl⟩
    · simp only [wkL, wkV, wk_w8 h1, wk_w8 h2]
      simp only [cV, cNum, natOf_eq h3]
    · have ha := a.isLt
      exact all_true_cons (decide_eq_true ⟨Int.le_refl _, by show (0 : Int) ≤ 8; omega, hd.1, hd.2, by show 0 < 256; omega, ha⟩) (all_true_cons (decide_eq_true (by omega)) all_true_nil)
  · unfold sp43 at hr
    split at hr
    case h_2 => cases hr
    split at hr
    case h_2 => cases hr
    split at hr
    case h_2 => cases hr
    injection hr with hr; subst hr
    simp at hk
end Go.Proofs.Ytcjoocaabeckfaa

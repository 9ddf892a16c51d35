/- RIPEMD-160: sums, and the digest of bytes. -/
import Derived.Test.YtaklljigoajpcaaDoorR3W
namespace Go.Proofs.YtaklljigoajpcaaDoor
open Go.Eng
set_option linter.unusedSectionVars false
variable [RowAddr]
set_option linter.unusedSimpArgs false
set_option linter.unusedVariables false
def specs59 : FuncId → Option Eng.Spec
  | 60 => some c60.spec
  | _ => none
theorem specs59_ok : ∀ f sp, specs59 f = some sp → SpecOk Tryd.prog noGlob f sp := by
  intro f sp h
  unfold specs59 at h
  split at h
  · injection h with h; subst h; exact c60_ok
  · cases h
def T1 : Vec 8 := Vec.of (0x80#8 :: List.replicate 63 0#8)
def T2 (tc : BitVec 64) : Vec 8 := Vec.of ([((tc <<< 3) >>> 0).setWidth 8, ((tc <<< 3) >>> 8).setWidth 8, ((tc <<< 3) >>> 16).setWidth 8, ((tc <<< 3) >>> 24).setWidth 8, ((tc <<< 3) >>> 32).setWidth 8, ((tc <<< 3) >>> 40).setWidth 8, ((tc <<< 3) >>> 48).setWidth 8, ((tc <<< 3) >>> 56).setWidth 8] ++ List.replicate 56 0#8)
def kA (tc : BitVec 64) : Nat := (56#64 - tc % 64#64).toNat
def kB (tc : BitVec 64) : Nat := (120#64 - tc % 64#64).toNat
/-- The state that a sum is read off. -/
def eta (h : W5) : W5 := ⟨h.x0, h.x1, h.x2, h.x3, h.x4⟩
def sumK (h : W5) (xb : Vec 8) (nx : Int) (tc : BitVec 64) (k : Nat) : W5 := wrH (eta (wrH h (cpv xb) nx T1 0 k)) (cpv (wrX (cpv xb) nx T1 0 k)) (wrN nx k) (T2 tc) 0 8
def sumH (h : W5) (xb : Vec 8) (nx : Int) (tc : BitVec 64) : W5 := if (tc % 64#64).toNat < (56#64).toNat then sumK h xb nx tc (kA tc) else sumK h xb nx tc (kB tc)
def bytesOf (h : W5) : List (BitVec 8) := [h.x0.setWidth 8, (h.x0 >>> 8).setWidth 8, (h.x0 >>> 16).setWidth 8, (h.x0 >>> 24).setWidth 8, h.x1.setWidth 8, (h.x1 >>> 8).setWidth 8, (h.x1 >>> 16).setWidth 8, (h.x1 >>> 24).setWidth 8, h.x2.setWidth 8, (h.x2 >>> 8).setWidth 8, (h.x2 >>> 16).setWidth 8, (h.x2 >>> 24).setWidth 8, h.x3.setWidth 8, (h.x3 >>> 8).setWidth 8, (h.x3 >>> 16).setWidth 8, (h.x3 >>> 24).setWidth 8, h.x4.setWidth 8, (h.x4 >>> 8).setWidth 8, (h.x4 >>> 16).setWidth 8, (h.x4 >>> 24).setWidth 8]
def sumCells (y : W5) : List AV := [.w8 (y.x0.setWidth 8), .w8 ((y.x0 >>> 8).setWidth 8), .w8 ((y.x0 >>> 16).setWidth 8), .w8 ((y.x0 >>> 24).setWidth 8), .w8 (y.x1.setWidth 8), .w8 ((y.x1 >>> 8).setWidth 8), .w8 ((y.x1 >>> 16).setWidth 8), .w8 ((y.x1 >>> 24).setWidth 8), .w8 (y.x2.setWidth 8), .w8 ((y.x2 >>> 8).setWidth 8), .w8 ((y.x2 >>> 16).setWidth 8), .w8 ((y.x2 >>> 24).setWidth 8), .w8 (y.x3.setWidth 8), .w8 ((y.x3 >>> 8).setWidth 8), .w8 ((y.x3 >>> 16).setWidth 8), .w8 ((y.x3 >>> 24).setWidth 8), .w8 (y.x4.setWidth 8), .w8 ((y.x4 >>> 8).setWidth 8), .w8 ((y.x4 >>> 16).setWidth 8), .w8 ((y.x4 >>> 24).setWidth 8)]
structure c59D where
  h : W5
  xb : Vec 8
  nx : Int
  tc : BitVec 64
def c59_rd (a : List AV) (K : List Blk) : Option c59D :=
    match a with
    | [(.ref (.ptr 0 (.c 0))), (.atom .nils)] =>
      match K with
      | [⟨(.gen ((.num (.w32 h0)) :: (.num (.w32 h1)) :: (.num (.w32 h2)) :: (.num (.w32 h3)) :: (.num (.w32 h4)) :: ys_xb)), .own⟩] => 
        (match rd8 64 (ys_xb.take 64), ys_xb.drop 64 with
        | some xb, [(.num (.int .i64 (.s nx))), (.num (.w64 tc))] => some ⟨⟨h0, h1, h2, h3, h4⟩, xb, nx, tc⟩
        | _, _ => none)
      | _ => none
    | _ => none
def c59 : Ct c59D where
  pat := [(.ref (.ptr 0 (.c 0))), (.atom .nils)]
  patH := [⟨(.gen ([(.num (.w32 0#32)), (.num (.w32 0#32)), (.num (.w32 0#32)), (.num (.w32 0#32)), (.num (.w32 0#32))] ++ List.replicate 64 (.num (.w8 0#8)) ++ [(.num (.int .i64 (.s 0))), (.num (.w64 0#64))])), .own⟩]
  read := c59_rd
  args := fun ⟨_, _, _, _⟩ => [(.ref (.ptr 0 (.c 0))), (.atom .nils)]
  heap := fun ⟨h, xb, nx, tc⟩ => [⟨(.gen ([(.num (.w32 h.x0)), (.num (.w32 h.x1)), (.num (.w32 h.x2)), (.num (.w32 h.x3)), (.num (.w32 h.x4))] ++ c8v xb 64 ++ [(.num (.int .i64 (.s nx))), (.num (.w64 tc))])), .own⟩]
  out := fun ⟨h, xb, nx, tc⟩ => [⟨(.gen ([(.num (.w32 h.x0)), (.num (.w32 h.x1)), (.num (.w32 h.x2)), (.num (.w32 h.x3)), (.num (.w32 h.x4))] ++ c8v xb 64 ++ [(.num (.int .i64 (.s nx))), (.num (.w64 tc))])), .own⟩, ⟨(.gen [(.num (.w8 (((sumH h xb nx tc)).x0.setWidth 8))), (.num (.w8 (((((sumH h xb nx tc)).x0 >>> 8)).setWidth 8))), (.num (.w8 (((((sumH h xb nx tc)).x0 >>> 16)).setWidth 8))), (.num (.w8 (((((sumH h xb nx tc)).x0 >>> 24)).setWidth 8))), (.num (.w8 (((sumH h xb nx tc)).x1.setWidth 8))), (.num (.w8 (((((sumH h xb nx tc)).x1 >>> 8)).setWidth 8))), (.num (.w8 (((((sumH h xb nx tc)).x1 >>> 16)).setWidth 8))), (.num (.w8 (((((sumH h xb nx tc)).x1 >>> 24)).setWidth 8))), (.num (.w8 (((sumH h xb nx tc)).x2.setWidth 8))), (.num (.w8 (((((sumH h xb nx tc)).x2 >>> 8)).setWidth 8))), (.num (.w8 (((((sumH h xb nx tc)).x2 >>> 16)).setWidth 8))), (.num (.w8 (((((sumH h xb nx tc)).x2 >>> 24)).setWidth 8))), (.num (.w8 (((sumH h xb nx tc)).x3.setWidth 8))), (.num (.w8 (((((sumH h xb nx tc)).x3 >>> 8)).setWidth 8))), (.num (.w8 (((((sumH h xb nx tc)).x3 >>> 16)).setWidth 8))), (.num (.w8 (((((sumH h xb nx tc)).x3 >>> 24)).setWidth 8))), (.num (.w8 (((sumH h xb nx tc)).x4.setWidth 8))), (.num (.w8 (((((sumH h xb nx tc)).x4 >>> 8)).setWidth 8))), (.num (.w8 (((((sumH h xb nx tc)).x4 >>> 16)).setWidth 8))), (.num (.w8 (((((sumH h xb nx tc)).x4 >>> 24)).setWidth 8)))]), .own⟩]
  val := fun ⟨_, _, _, _⟩ => (.ref (.sl 1 (.c 0) (.c 20) none))
  good := fun ⟨_, _, nx, tc⟩ => decide (0 ≤ nx ∧ nx < 64 ∧ ((tc.toNat % 64 : Nat) : Int) = nx)
set_option maxRecDepth 100000 in
theorem c59_read (a : List AV) (K : List Blk) (d : c59D) (h : c59.read a K = some d) : a = c59.args d ∧ K = c59.heap d := by
  replace h : c59_rd a K = some d := h
  unfold c59_rd at h
  split at h
  case h_2 => cases h
  split at h
  case h_2 => cases h
  split at h
  case h_2 => cases h
  rename_i hr hd
  obtain ⟨he, _⟩ := rd8_eq hr
  have ht := (List.take_append_drop 64 _).symm.trans (congr (congrArg HAppend.hAppend he) hd)
  subst ht
  injection h with h; subst h
  exact ⟨rfl, rfl⟩
theorem r59A (h : W5) (xb : Vec 8) (nx : Int) (tc : BitVec 64) : endsAs (c59.heap ⟨h, xb, nx, tc⟩).length (some [0, 4]) [⟨.gen ([.w32 h.x0, .w32 h.x1, .w32 h.x2, .w32 h.x3, .w32 h.x4] ++ c8v xb 64 ++ [.int .i64 (.s nx), .w64 tc]), .own⟩, ⟨.gen (sumCells (sumK h xb nx tc (kA tc))), .own⟩] (.ref (.sl 1 (.c 0) (.c 20) none)) (goB specs59 noLoop 59 (c59.args ⟨h, xb, nx, tc⟩) ⟨c59.heap ⟨h, xb, nx, tc⟩, big, [true, false], []⟩) = some ([⟨.gen ([.w32 h.x0, .w32 h.x1, .w32 h.x2, .w32 h.x3, .w32 h.x4] ++ c8v xb 64 ++ [.int .i64 (.s nx), .w64 tc]), .own⟩, ⟨.gen (sumCells (sumK h xb nx tc (kA tc))), .own⟩], (.ref (.sl 1 (.c 0) (.c 20) none)), [((!((wrN (wrN nx ((((((((56#64) - (tc % (64#64)))).toNat : Nat) : Int)) : Int).toNat - 0)) 8) == 0)) == false), decide (((0 : Int) ≤ (wrN nx ((((((((56#64) - (tc % (64#64)))).toNat : Nat) : Int)) : Int).toNat - 0)) ∧ ((wrN nx ((((((((56#64) - (tc % (64#64)))).toNat : Nat) : Int)) : Int).toNat - 0)) < 64 ∧ ((8 : Nat) ≤ 64 ∧ (8 : Nat) ≤ 1099511627776)))), decide (((0 : Int) ≤ nx ∧ (nx < 64 ∧ ((0 + ((((((((56#64) - (tc % (64#64)))).toNat : Nat) : Int)) : Int).toNat - 0)) ≤ 64 ∧ ((((((((56#64) - (tc % (64#64)))).toNat : Nat) : Int)) : Int).toNat - 0) ≤ 1099511627776)))), ((true && decide ((0 : Int) ≤ (((((56#64) - (tc % (64#64)))).toNat : Nat) : Int))) && decide ((((((56#64) - (tc % (64#64)))).toNat : Nat) : Int) ≤ ((64 : Nat) : Int))), ((64#64) != (0#64)), (decide (((tc % (64#64))).toNat < ((56#64)).toNat) == true), ((64#64) != (0#64))]) := by kernel_rfl
theorem r59B (h : W5) (xb : Vec 8) (nx : Int) (tc : BitVec 64) : endsAs (c59.heap ⟨h, xb, nx, tc⟩).length (some [0, 4]) [⟨.gen ([.w32 h.x0, .w32 h.x1, .w32 h.x2, .w32 h.x3, .w32 h.x4] ++ c8v xb 64 ++ [.int .i64 (.s nx), .w64 tc]), .own⟩, ⟨.gen (sumCells (sumK h xb nx tc (kB tc))), .own⟩] (.ref (.sl 1 (.c 0) (.c 20) none)) (goB specs59 noLoop 59 (c59.args ⟨h, xb, nx, tc⟩) ⟨c59.heap ⟨h, xb, nx, tc⟩, big, [false, false], []⟩) = some ([⟨.gen ([.w32 h.x0, .w32 h.x1, .w32 h.x2, .w32 h.x3, .w32 h.x4] ++ c8v xb 64 ++ [.int .i64 (.s nx), .w64 tc]), .own⟩, ⟨.gen (sumCells (sumK h xb nx tc (kB tc))), .own⟩], (.ref (.sl 1 (.c 0) (.c 20) none)), [((!((wrN (wrN nx ((((((((120#64) - (tc % (64#64)))).toNat : Nat) : Int)) : Int).toNat - 0)) 8) == 0)) == false), decide (((0 : Int) ≤ (wrN nx ((((((((120#64) - (tc % (64#64)))).toNat : Nat) : Int)) : Int).toNat - 0)) ∧ ((wrN nx ((((((((120#64) - (tc % (64#64)))).toNat : Nat) : Int)) : Int).toNat - 0)) < 64 ∧ ((8 : Nat) ≤ 64 ∧ (8 : Nat) ≤ 1099511627776)))), decide (((0 : Int) ≤ nx ∧ (nx < 64 ∧ ((0 + ((((((((120#64) - (tc % (64#64)))).toNat : Nat) : Int)) : Int).toNat - 0)) ≤ 64 ∧ ((((((((120#64) - (tc % (64#64)))).toNat : Nat) : Int)) : Int).toNat - 0) ≤ 1099511627776)))), ((true && decide ((0 : Int) ≤ (((((120#64) - (tc % (64#64)))).toNat : Nat) : Int))) && decide ((((((120#64) - (tc % (64#64)))).toNat : Nat) : Int) ≤ ((64 : Nat) : Int))), ((64#64) != (0#64)), (decide (((tc % (64#64))).toNat < ((56#64)).toNat) == false), ((64#64) != (0#64))]) := by kernel_rfl
theorem wrN_56 (nx : Int) (tc : BitVec 64) (h1 : 0 ≤ nx) (h2 : nx < 64) (h3 : ((tc.toNat % 64 : Nat) : Int) = nx) : ((tc % 64#64).toNat < (56#64).toNat → (56#64 - tc % 64#64).toNat = 56 - tc.toNat % 64 ∧ wrN nx (56 - tc.toNat % 64) = 56) ∧ (¬ (tc % 64#64).toNat < (56#64).toNat → (120#64 - tc % 64#64).toNat = 120 - tc.toNat % 64 ∧ wrN nx (120 - tc.toNat % 64) = 56) := by
  have e0 : (tc % 64#64).toNat = tc.toNat % 64 := by rw [BitVec.toNat_umod]; rfl
  have e1 : (56#64).toNat = 56 := rfl
  have e2 : (120#64).toNat = 120 := rfl
  have hb : tc.toNat % 64 < 64 := Nat.mod_lt _ (by omega)
  rw [e0, e1]
  have tN : ∀ a : Nat, tlN a = min (a - 64 * (a / 64)) 64 := fun _ => rfl
  refine ⟨fun h => ?_, fun h => ?_⟩
  · have ek : (56#64 - tc % 64#64).toNat = 56 - tc.toNat % 64 := by
      rw [BitVec.toNat_sub, e0, e1]; omega
    refine ⟨ek, ?_⟩
    unfold wrN
    split
    · rw [if_neg (by omega), if_neg (by omega)]; omega
    · rw [tN]; omega
  · have ek : (120#64 - tc % 64#64).toNat = 120 - tc.toNat % 64 := by
      rw [BitVec.toNat_sub, e0, e2]; omega
    refine ⟨ek, ?_⟩
    unfold wrN
    rw [if_pos (by omega), if_pos (by omega), tN]; omega
theorem wrN_0 : wrN 56 8 = 0 := by
  unfold wrN
  rw [if_pos (by omega), if_neg (by omega), if_pos (by omega)]
theorem c59_ok : SpecOk Tryd.prog noGlob 59 c59.spec := by
  refine c59.ok (goB_ok specs59_ok (no_loops _)) c59_read ?_
  rintro ⟨h, xb, nx, tc⟩ hg
  have hg : 0 ≤ nx ∧ nx < 64 ∧ ((tc.toNat % 64 : Nat) : Int) = nx := of_decide_eq_true hg
  obtain ⟨g1, g2⟩ := wrN_56 nx tc hg.1 hg.2.1 hg.2.2
  have w0 := wrN_0
  have z0 : (((0 : Nat) : Int)).toNat = 0 := rfl
  have e0 : (tc % 64#64).toNat = tc.toNat % 64 := by rw [BitVec.toNat_umod]; rfl
  have e1 : (56#64).toNat = 56 := rfl
  have nT1 : T1.n = 64 := rfl
  have nT2 : (T2 tc).n = 64 := rfl
  by_cases hd : (tc % 64#64).toNat < (56#64).toNat
  · obtain ⟨ek, en⟩ := g1 hd
    have eo : c59.out ⟨h, xb, nx, tc⟩ = [⟨.gen ([.w32 h.x0, .w32 h.x1, .w32 h.x2, .w32 h.x3, .w32 h.x4] ++ c8v xb 64 ++ [.int .i64 (.s nx), .w64 tc]), .own⟩, ⟨.gen (sumCells (sumK h xb nx tc (kA tc))), .own⟩] := by
      show ([⟨.gen ([.w32 h.x0, .w32 h.x1, .w32 h.x2, .w32 h.x3, .w32 h.x4] ++ c8v xb 64 ++ [.int .i64 (.s nx), .w64 tc]), .own⟩, ⟨.gen (sumCells (sumH h xb nx tc)), .own⟩] : List Blk) = _
      unfold sumH
      rw [if_pos hd]
    rw [eo]
    refine ⟨[true, false], some [0, 4], _, r59A h xb nx tc, ?_⟩
    have nT1' : (Vec.of (0x80#8 :: List.replicate 63 0#8)).n = 64 := rfl
    repeat' (refine all_true_cons ?_ ?_)
    all_goals first | exact all_true_nil | rfl | (simp only [Bool.and_eq_true, decide_eq_true_eq, beq_iff_eq, beq_true, beq_false, Bool.not_eq_true', decide_eq_false_iff_not, beq_eq_false_iff_ne, ne_eq, Bool.not_eq_false', bne_iff_ne, true_and, and_true, Int.toNat_natCast, z0, Nat.sub_zero, ek, en, w0, nT1, nT2] <;> omega)
  · obtain ⟨ek, en⟩ := g2 hd
    have eo : c59.out ⟨h, xb, nx, tc⟩ = [⟨.gen ([.w32 h.x0, .w32 h.x1, .w32 h.x2, .w32 h.x3, .w32 h.x4] ++ c8v xb 64 ++ [.int .i64 (.s nx), .w64 tc]), .own⟩, ⟨.gen (sumCells (sumK h xb nx tc (kB tc))), .own⟩] := by
      show ([⟨.gen ([.w32 h.x0, .w32 h.x1, .w32 h.x2, .w32 h.x3, .w32 h.x4] ++ c8v xb 64 ++ [.int .i64 (.s nx), .w64 tc]), .own⟩, ⟨.gen (sumCells (sumH h xb nx tc)), .own⟩] : List Blk) = _
      unfold sumH
      rw [if_neg hd]
    rw [eo]
    refine ⟨[false, false], some [0, 4], _, r59B h xb nx tc, ?_⟩
    have nT1' : (Vec.of (0x80#8 :: List.replicate 63 0#8)).n = 64 := rfl
    repeat' (refine all_true_cons ?_ ?_)
    all_goals first | exact all_true_nil | rfl | (simp only [Bool.and_eq_true, decide_eq_true_eq, beq_iff_eq, beq_true, beq_false, Bool.not_eq_true', decide_eq_false_iff_not, beq_eq_false_iff_ne, ne_eq, Bool.not_eq_false', bne_iff_ne, true_and, and_true, Int.toNat_natCast, z0, Nat.sub_zero, ek, en, w0, nT1, nT2] <;> omega)
def H0 : W5 := ⟨0x67452301#32, 0xefcdab89#32, 0x98badcfe#32, 0x10325476#32, 0xc3d2e1f0#32⟩
def Z64 : Vec 8 := Vec.of (List.replicate 64 0#8)
/-- The state that the digest of bytes is read off. -/
def digH (v : Vec 8) (o np : Nat) : W5 := sumH (eta (wrH H0 Z64 0 v o np)) (cpv (wrX Z64 0 v o np)) (wrN 0 np) (0#64 + BitVec.ofInt 64 ((np : Nat) : Int))
theorem tc_eq (np : Nat) (h : np ≤ 1099511627776) : (0#64 + BitVec.ofInt 64 ((np : Nat) : Int)).toNat = np := by
  rw [BitVec.zero_add, BitVec.ofInt_natCast, BitVec.toNat_ofNat]; omega
theorem wrN_mod (np : Nat) : wrN 0 np = ((np % 64 : Nat) : Int) := by
  have tN : ∀ a : Nat, tlN a = min (a - 64 * (a / 64)) 64 := fun _ => rfl
  unfold wrN
  rw [if_neg (by omega), tN]; omega
def specs10 : FuncId → Option Eng.Spec
  | 60 => some c60.spec
  | 59 => some c59.spec
  | _ => none
theorem specs10_ok : ∀ f sp, specs10 f = some sp → SpecOk Tryd.prog noGlob f sp := by
  intro f sp h
  unfold specs10 at h
  split at h
  · injection h with h; subst h; exact c60_ok
  · injection h with h; subst h; exact c59_ok
  · cases h
structure c10D where
  v : Vec 8
  o : Nat
  np : Nat
def c10_rd (a : List AV) (K : List Blk) : Option c10D :=
    match a with
    | [(.ref (.sl 0 (.s o) (.s np) none))] =>
      match K with
      | [⟨(.b8 v), .ro⟩] => some ⟨v, o, np⟩
      | _ => none
    | _ => none
def c10 : Ct c10D where
  pat := [(.ref (.sl 0 (.s 0) (.s 0) none))]
  patH := [⟨(.b8 (Vec.zero 8 0)), .ro⟩]
  read := c10_rd
  args := fun ⟨_, o, np⟩ => [(.ref (.sl 0 (.s o) (.s np) none))]
  heap := fun ⟨v, _, _⟩ => [⟨(.b8 v), .ro⟩]
  out := fun ⟨v, o, np⟩ => [⟨(.b8 v), .ro⟩, ⟨(.gen [(.num (.w8 (((digH v o np)).x0.setWidth 8))), (.num (.w8 (((((digH v o np)).x0 >>> 8)).setWidth 8))), (.num (.w8 (((((digH v o np)).x0 >>> 16)).setWidth 8))), (.num (.w8 (((((digH v o np)).x0 >>> 24)).setWidth 8))), (.num (.w8 (((digH v o np)).x1.setWidth 8))), (.num (.w8 (((((digH v o np)).x1 >>> 8)).setWidth 8))), (.num (.w8 (((((digH v o np)).x1 >>> 16)).setWidth 8))), (.num (.w8 (((((digH v o np)).x1 >>> 24)).setWidth 8))), (.num (.w8 (((digH v o np)).x2.setWidth 8))), (.num (.w8 (((((digH v o np)).x2 >>> 8)).setWidth 8))), (.num (.w8 (((((digH v o np)).x2 >>> 16)).setWidth 8))), (.num (.w8 (((((digH v o np)).x2 >>> 24)).setWidth 8))), (.num (.w8 (((digH v o np)).x3.setWidth 8))), (.num (.w8 (((((digH v o np)).x3 >>> 8)).setWidth 8))), (.num (.w8 (((((digH v o np)).x3 >>> 16)).setWidth 8))), (.num (.w8 (((((digH v o np)).x3 >>> 24)).setWidth 8))), (.num (.w8 (((digH v o np)).x4.setWidth 8))), (.num (.w8 (((((digH v o np)).x4 >>> 8)).setWidth 8))), (.num (.w8 (((((digH v o np)).x4 >>> 16)).setWidth 8))), (.num (.w8 (((((digH v o np)).x4 >>> 24)).setWidth 8)))]), .own⟩]
  val := fun ⟨_, _, _⟩ => (.ref (.sl 1 (.c 0) (.c 20) none))
  good := fun ⟨v, o, np⟩ => decide (o + np ≤ v.n ∧ np ≤ 1099511627776)
theorem c10_run (v : Vec 8) (o np : Nat) : endsAs (c10.heap ⟨v, o, np⟩).length (some [0, 2]) (c10.out ⟨v, o, np⟩) (c10.val ⟨v, o, np⟩) (goB specs10 noLoop 10 (c10.args ⟨v, o, np⟩) ⟨c10.heap ⟨v, o, np⟩, big, [], []⟩) = some ((c10.out ⟨v, o, np⟩), (c10.val ⟨v, o, np⟩), [decide (((0 : Int) ≤ (wrN 0 np) ∧ ((wrN 0 np) < 64 ∧ ((((((0#64) + (BitVec.ofInt 64 ((np : Nat) : Int)))).toNat % 64) : Nat) : Int) = (wrN 0 np)))), decide (((0 : Int) ≤ 0 ∧ ((0 : Int) < 64 ∧ ((o + np) ≤ v.n ∧ np ≤ 1099511627776))))]) := by kernel_rfl
set_option maxRecDepth 100000 in
theorem c10_read (a : List AV) (K : List Blk) (d : c10D) (h : c10.read a K = some d) : a = c10.args d ∧ K = c10.heap d := by
  replace h : c10_rd a K = some d := h
  unfold c10_rd at h
  split at h
  case h_2 => cases h
  split at h
  case h_2 => cases h
  injection h with h; subst h
  exact ⟨rfl, rfl⟩
theorem c10_ok : SpecOk Tryd.prog noGlob 10 c10.spec := by
  refine c10.ok (goB_ok specs10_ok (no_loops _)) c10_read ?_
  rintro ⟨v, o, np⟩ hg
  have hg : o + np ≤ v.n ∧ np ≤ 1099511627776 := of_decide_eq_true hg
  refine ⟨[], (some [0, 2]), _, c10_run v o np, ?_⟩
  have e1 := tc_eq np (by omega)
  have e2 := wrN_mod np
  repeat' (refine all_true_cons ?_ ?_)
  all_goals first | exact all_true_nil | rfl | (simp only [Bool.and_eq_true, decide_eq_true_eq, beq_iff_eq, beq_true, beq_false, Bool.not_eq_true', decide_eq_false_iff_not, beq_eq_false_iff_ne, ne_eq, Bool.not_eq_false', bne_iff_ne, true_and, and_true, e1, e2] <;> omega)
end Go.Proofs.YtaklljigoajpcaaDoor

/- bcrypt's letters: the encoder of base64. -/
import Derived.Test.YtlelgligkkegnaaE1Ok
namespace Go.Proofs.Ytlelgligkkegnaa
open Go.Eng
set_option linter.unusedSimpArgs false
set_option linter.unusedVariables false
def cp (x : Vec 8) : Vec 8 := Vec.of ((List.range 320).map fun i => x.l.getD i 0#8)
/-- A letter of the encoder's. -/
def ex (e : Vec 8) (k : BitVec 64) : BitVec 8 := (cp e).l.getD (0 + ((k.toNat : Nat) : Int).toNat * 1 - 0) 0#8
def v24 (s : Vec 8) (o : Nat) : BitVec 64 := (((s.l.getD (o + 0) 0#8).setWidth 64) <<< 16 ||| ((s.l.getD (o + 1) 0#8).setWidth 64) <<< 8) ||| (s.l.getD (o + 2) 0#8).setWidth 64
def put4 (e d : Vec 8) (o : Nat) (w : BitVec 64) : Vec 8 :=
  (((d.set (o + 0) (ex e ((w >>> 18) &&& 63#64))).set (o + 1) (ex e ((w >>> 12) &&& 63#64))).set (o + 2) (ex e ((w >>> 6) &&& 63#64))).set (o + 3) (ex e (w &&& 63#64))
theorem b63 (x : BitVec 64) : (x &&& 63#64).toNat < 64 := by
  have h : (x &&& 63#64).toNat = x.toNat &&& 63 := by rw [BitVec.toNat_and]; rfl
  rw [h]
  exact Nat.lt_of_le_of_lt Nat.and_le_right (by decide)
theorem put4_n (e d : Vec 8) (o : Nat) (w : BitVec 64) : (put4 e d o w).n = d.n := rfl
structure e15D where
  e : Vec 8
  dst : Vec 8
  src : Vec 8
  od : Nat
  nd : Nat
  os : Nat
  ns : Nat
def e15_st (d : e15D) : Fr × List Blk :=
  match d with
  | ⟨e, dst, src, od, nd, os, ns⟩ => (⟨[(.ref (.ptr 0 (.c 0))), (.ref (.sl 1 (.s od) (.s nd) none)), (.ref (.sl 2 (.s os) (.s ns) none)), (.atom .undef), (.atom .undef), (.atom .undef), (.atom .undef), (.atom .undef), (.atom .undef)], []⟩, [⟨(.gen ([] ++ c8v e 320 ++ [(.num (.int .i32 (.c 61))), (.atom (.bool (.c false)))])), .own⟩, ⟨(.b8 dst), .own⟩, ⟨(.b8 src), .ro⟩])
def e15_next (d : e15D) : e15D :=
  match d with
  | ⟨e, dst, src, od, nd, os, ns⟩ => ⟨cp e, put4 e dst od (v24 src os), src, od + 4, nd - 4, os + 3, ns - 3⟩
def e15_rd (F : Fr) (K : List Blk) : Option e15D :=
    match F with
    | ⟨[(.ref (.ptr 0 (.c 0))), (.ref (.sl 1 (.s od) (.s nd) none)), (.ref (.sl 2 (.s os) (.s ns) none)), (.atom .undef), (.atom .undef), (.atom .undef), (.atom .undef), (.atom .undef), (.atom .undef)], []⟩ =>
      match K with
      | [⟨(.gen (ys_e)), .own⟩, ⟨(.b8 dst), .own⟩, ⟨(.b8 src), .ro⟩] => 
        (match rd8 320 (ys_e.take 320), ys_e.drop 320 with
        | some e, [(.num (.int .i32 (.c 61))), (.atom (.bool (.c false)))] => some ⟨e, dst, src, od, nd, os, ns⟩
        | _, _ => none)
      | _ => none
    | _ => none
def e15 : LoopP e15D where
  pat := ⟨[(.ref (.ptr 0 (.c 0))), (.ref (.sl 1 (.s 0) (.s 0) none)), (.ref (.sl 2 (.s 0) (.s 0) none)), (.atom .undef), (.atom .undef), (.atom .undef), (.atom .undef), (.atom .undef), (.atom .undef)], []⟩
  patH := [⟨(.gen ([] ++ List.replicate 320 (.num (.w8 0#8)) ++ [(.num (.int .i32 (.c 61))), (.atom (.bool (.c false)))])), .own⟩, ⟨(.b8 (Vec.zero 8 0)), .own⟩, ⟨(.b8 (Vec.zero 8 0)), .ro⟩]
  gh := []
  read := e15_rd
  st := e15_st
  next := e15_next
  rem := fun ⟨_, _, _, _, _, _, ns⟩ => ns / 3
  good := fun ⟨_, dst, src, od, nd, os, ns⟩ => decide (os + ns ≤ src.n ∧ od + nd ≤ dst.n ∧ ns / 3 * 4 ≤ nd ∧ ns ≤ 100000 ∧ nd ≤ 1000000)
  out := .exit 0
  fin := e15_st
theorem e15_round (e dst src : Vec 8) (od nd os ns : Nat) : ranAs ((e15.st ⟨e, dst, src, od, nd, os, ns⟩).2.length - e15.gh.length) none (e15.st (e15_next ⟨e, dst, src, od, nd, os, ns⟩)) (goL noSpec noLoop 15 0 (e15.st ⟨e, dst, src, od, nd, os, ns⟩).1 ⟨(e15.st ⟨e, dst, src, od, nd, os, ns⟩).2, big, [true], []⟩) = some (.normal, (e15.st (e15_next ⟨e, dst, src, od, nd, os, ns⟩)), [((true && decide ((4 : Int) ≤ ((nd : Nat) : Int))) && decide (((nd : Nat) : Int) ≤ ((nd : Nat) : Int))), ((true && decide ((3 : Int) ≤ ((ns : Nat) : Int))) && decide (((ns : Nat) : Int) ≤ ((ns : Nat) : Int))), decide ((od + 3) < dst.n), (true && decide ((3 : Int) < ((nd : Nat) : Int))), decide (((0 : Nat) ≤ (0 + ((((((((((((src.l.getD (os + 0) (0#8)).setWidth 64) <<< 16) ||| (((src.l.getD (os + 1) (0#8)).setWidth 64) <<< 8)) ||| ((src.l.getD (os + 2) (0#8)).setWidth 64)) &&& (63#64))).toNat : Nat) : Int)) : Int).toNat * 1)) ∧ ((0 + ((((((((((((src.l.getD (os + 0) (0#8)).setWidth 64) <<< 16) ||| (((src.l.getD (os + 1) (0#8)).setWidth 64) <<< 8)) ||| ((src.l.getD (os + 2) (0#8)).setWidth 64)) &&& (63#64))).toNat : Nat) : Int)) : Int).toNat * 1)) + 1) ≤ 320)), (decide ((0 : Int) ≤ (((((((((src.l.getD (os + 0) (0#8)).setWidth 64) <<< 16) ||| (((src.l.getD (os + 1) (0#8)).setWidth 64) <<< 8)) ||| ((src.l.getD (os + 2) (0#8)).setWidth 64)) &&& (63#64))).toNat : Nat) : Int)) && decide ((((((((((src.l.getD (os + 0) (0#8)).setWidth 64) <<< 16) ||| (((src.l.getD (os + 1) (0#8)).setWidth 64) <<< 8)) ||| ((src.l.getD (os + 2) (0#8)).setWidth 64)) &&& (63#64))).toNat : Nat) : Int) < ((64 : Nat) : Int))), decide ((od + 2) < dst.n), (true && decide ((2 : Int) < ((nd : Nat) : Int))), decide (((0 : Nat) ≤ (0 + (((((((((((((src.l.getD (os + 0) (0#8)).setWidth 64) <<< 16) ||| (((src.l.getD (os + 1) (0#8)).setWidth 64) <<< 8)) ||| ((src.l.getD (os + 2) (0#8)).setWidth 64)) >>> 6) &&& (63#64))).toNat : Nat) : Int)) : Int).toNat * 1)) ∧ ((0 + (((((((((((((src.l.getD (os + 0) (0#8)).setWidth 64) <<< 16) ||| (((src.l.getD (os + 1) (0#8)).setWidth 64) <<< 8)) ||| ((src.l.getD (os + 2) (0#8)).setWidth 64)) >>> 6) &&& (63#64))).toNat : Nat) : Int)) : Int).toNat * 1)) + 1) ≤ 320)), (decide ((0 : Int) ≤ ((((((((((src.l.getD (os + 0) (0#8)).setWidth 64) <<< 16) ||| (((src.l.getD (os + 1) (0#8)).setWidth 64) <<< 8)) ||| ((src.l.getD (os + 2) (0#8)).setWidth 64)) >>> 6) &&& (63#64))).toNat : Nat) : Int)) && decide (((((((((((src.l.getD (os + 0) (0#8)).setWidth 64) <<< 16) ||| (((src.l.getD (os + 1) (0#8)).setWidth 64) <<< 8)) ||| ((src.l.getD (os + 2) (0#8)).setWidth 64)) >>> 6) &&& (63#64))).toNat : Nat) : Int) < ((64 : Nat) : Int))), decide ((od + 1) < dst.n), (true && decide ((1 : Int) < ((nd : Nat) : Int))), decide (((0 : Nat) ≤ (0 + (((((((((((((src.l.getD (os + 0) (0#8)).setWidth 64) <<< 16) ||| (((src.l.getD (os + 1) (0#8)).setWidth 64) <<< 8)) ||| ((src.l.getD (os + 2) (0#8)).setWidth 64)) >>> 12) &&& (63#64))).toNat : Nat) : Int)) : Int).toNat * 1)) ∧ ((0 + (((((((((((((src.l.getD (os + 0) (0#8)).setWidth 64) <<< 16) ||| (((src.l.getD (os + 1) (0#8)).setWidth 64) <<< 8)) ||| ((src.l.getD (os + 2) (0#8)).setWidth 64)) >>> 12) &&& (63#64))).toNat : Nat) : Int)) : Int).toNat * 1)) + 1) ≤ 320)), (decide ((0 : Int) ≤ ((((((((((src.l.getD (os + 0) (0#8)).setWidth 64) <<< 16) ||| (((src.l.getD (os + 1) (0#8)).setWidth 64) <<< 8)) ||| ((src.l.getD (os + 2) (0#8)).setWidth 64)) >>> 12) &&& (63#64))).toNat : Nat) : Int)) && decide (((((((((((src.l.getD (os + 0) (0#8)).setWidth 64) <<< 16) ||| (((src.l.getD (os + 1) (0#8)).setWidth 64) <<< 8)) ||| ((src.l.getD (os + 2) (0#8)).setWidth 64)) >>> 12) &&& (63#64))).toNat : Nat) : Int) < ((64 : Nat) : Int))), decide ((od + 0) < dst.n), (true && decide ((0 : Int) < ((nd : Nat) : Int))), decide (((0 : Nat) ≤ (0 + (((((((((((((src.l.getD (os + 0) (0#8)).setWidth 64) <<< 16) ||| (((src.l.getD (os + 1) (0#8)).setWidth 64) <<< 8)) ||| ((src.l.getD (os + 2) (0#8)).setWidth 64)) >>> 18) &&& (63#64))).toNat : Nat) : Int)) : Int).toNat * 1)) ∧ ((0 + (((((((((((((src.l.getD (os + 0) (0#8)).setWidth 64) <<< 16) ||| (((src.l.getD (os + 1) (0#8)).setWidth 64) <<< 8)) ||| ((src.l.getD (os + 2) (0#8)).setWidth 64)) >>> 18) &&& (63#64))).toNat : Nat) : Int)) : Int).toNat * 1)) + 1) ≤ 320)), (decide ((0 : Int) ≤ ((((((((((src.l.getD (os + 0) (0#8)).setWidth 64) <<< 16) ||| (((src.l.getD (os + 1) (0#8)).setWidth 64) <<< 8)) ||| ((src.l.getD (os + 2) (0#8)).setWidth 64)) >>> 18) &&& (63#64))).toNat : Nat) : Int)) && decide (((((((((((src.l.getD (os + 0) (0#8)).setWidth 64) <<< 16) ||| (((src.l.getD (os + 1) (0#8)).setWidth 64) <<< 8)) ||| ((src.l.getD (os + 2) (0#8)).setWidth 64)) >>> 18) &&& (63#64))).toNat : Nat) : Int) < ((64 : Nat) : Int))), decide ((od + 3) < dst.n), (true && decide ((3 : Int) < ((nd : Nat) : Int))), decide ((os + 2) < src.n), (true && decide ((2 : Int) < ((ns : Nat) : Int))), decide ((os + 1) < src.n), (true && decide ((1 : Int) < ((ns : Nat) : Int))), decide ((os + 0) < src.n), (true && decide ((0 : Int) < ((ns : Nat) : Int))), (decide ((3 : Int) ≤ ((ns : Nat) : Int)) == true)]) := by kernel_rfl
theorem e15_end (e dst src : Vec 8) (od nd os ns : Nat) : ranAs ((e15.st ⟨e, dst, src, od, nd, os, ns⟩).2.length - e15.gh.length) none (e15.fin ⟨e, dst, src, od, nd, os, ns⟩) (goL noSpec noLoop 15 0 (e15.st ⟨e, dst, src, od, nd, os, ns⟩).1 ⟨(e15.st ⟨e, dst, src, od, nd, os, ns⟩).2, big, [false], []⟩) = some (e15.out, (e15.fin ⟨e, dst, src, od, nd, os, ns⟩), [(decide ((3 : Int) ≤ ((ns : Nat) : Int)) == false)]) := by kernel_rfl
set_option maxRecDepth 100000 in
theorem e15_read (F : Fr) (K : List Blk) (d : e15D) (h : e15.read F K = some d) : (F, K) = e15.st d := by
  replace h : e15_rd F K = some d := h
  unfold e15_rd at h
  split at h
  case h_2 => cases h
  split at h
  case h_2 => cases h
  split at h
  case h_2 => cases h
  rename_i hr hd
  obtain ⟨he, _⟩ := rd8_eq hr
  have ht := (List.take_append_drop 320 _).symm.trans (congr (congrArg HAppend.hAppend he) hd)
  subst ht
  injection h with h; subst h
  rfl
theorem e15_body : RunOk Try.prog noGlob (nv 15) (ntmpsIn Try.prog 15) (loopIn Try.prog 15 0) (goL noSpec noLoop 15 0) := goL_ok no_specs (no_loops _) 15 0 fine15 (by rw [show (loopsIn Try.prog 15).length = 1 by kernel_rfl]; omega)
theorem e15_toldL : LoopOk Try.prog noGlob (nv 15) (ntmpsIn Try.prog 15) (loopIn Try.prog 15 0) e15.T.told := by
  refine e15.ran e15_body (by intro k hk; have hk : k ∈ ([] : List Blk) := hk; cases hk) (by intro h; cases h) e15_read ?_ ?_
  · rintro ⟨e, dst, src, od, nd, os, ns⟩ kk hg hr
    have hg : os + ns ≤ src.n ∧ od + nd ≤ dst.n ∧ ns / 3 * 4 ≤ nd ∧ ns ≤ 100000 ∧ nd ≤ 1000000 := of_decide_eq_true hg
    have hr : ns / 3 = kk + 1 := hr
    have h18 := b63 (v24 src os >>> 18)
    unfold v24 at h18
    have h12 := b63 (v24 src os >>> 12)
    unfold v24 at h12
    have h6 := b63 (v24 src os >>> 6)
    unfold v24 at h6
    have h0 := b63 (v24 src os)
    unfold v24 at h0
    have en : e15.next ⟨e, dst, src, od, nd, os, ns⟩ = e15_next ⟨e, dst, src, od, nd, os, ns⟩ := rfl
    rw [en]
    refine ⟨⟨[true], none, _, e15_round e dst src od nd os ns, ?_⟩, ?_, ?_, (show (e15.st (e15_next ⟨e, dst, src, od, nd, os, ns⟩)).2.length = 3 by kernel_rfl).trans (show (e15.st ⟨e, dst, src, od, nd, os, ns⟩).2.length = 3 by kernel_rfl).symm⟩
    · repeat' (refine all_true_cons ?_ ?_)
      all_goals first | exact all_true_nil | rfl | (simp only [Bool.and_eq_true, decide_eq_true_eq, beq_iff_eq, beq_true, beq_false, Bool.not_eq_true', decide_eq_false_iff_not, beq_eq_false_iff_ne, ne_eq, Bool.not_eq_false', bne_iff_ne, true_and, and_true] <;> omega)
    · have e : e15.good (e15_next ⟨e, dst, src, od, nd, os, ns⟩) = decide ((os + 3 : Nat) + (ns - 3 : Nat) ≤ src.n ∧ (od + 4 : Nat) + (nd - 4 : Nat) ≤ (put4 e dst od (v24 src os) : Vec 8).n ∧ (ns - 3 : Nat) / 3 * 4 ≤ (nd - 4 : Nat) ∧ (ns - 3 : Nat) ≤ 100000 ∧ (nd - 4 : Nat) ≤ 1000000) := by kernel_rfl
      refine e.trans (decide_eq_true ?_)
      rw [put4_n]
      omega
    · have e : e15.rem (e15_next ⟨e, dst, src, od, nd, os, ns⟩) = ((ns - 3 : Nat) / 3) := by kernel_rfl
      refine e.trans ?_
      omega
  · rintro ⟨e, dst, src, od, nd, os, ns⟩ hg hr
    have hg : os + ns ≤ src.n ∧ od + nd ≤ dst.n ∧ ns / 3 * 4 ≤ nd ∧ ns ≤ 100000 ∧ nd ≤ 1000000 := of_decide_eq_true hg
    have hr : ns / 3 = 0 := hr
    have h18 := b63 (v24 src os >>> 18)
    unfold v24 at h18
    have h12 := b63 (v24 src os >>> 12)
    unfold v24 at h12
    have h6 := b63 (v24 src os >>> 6)
    unfold v24 at h6
    have h0 := b63 (v24 src os)
    unfold v24 at h0
    refine ⟨[false], none, _, e15_end e dst src od nd os ns, ?_⟩
    repeat' (refine all_true_cons ?_ ?_)
    all_goals first | exact all_true_nil | rfl | (simp only [Bool.and_eq_true, decide_eq_true_eq, beq_iff_eq, beq_true, beq_false, Bool.not_eq_true', decide_eq_false_iff_not, beq_eq_false_iff_ne, ne_eq, Bool.not_eq_false', bne_iff_ne, true_and, and_true] <;> omega)
def e15_spec : LSpec := e15.T.told
theorem e15_told : Told 15 0 e15_spec := e15_toldL.run
def e15s : FuncId → Nat → Option LSpec
  | 15, 2 => some e15_spec
  | _, _ => none
theorem e15s_len : (loopsIn Try.prog 15).length = 1 := by kernel_rfl
theorem e15s_ok (spec : FuncId → Option Eng.Spec) : LoopsOk (cfg spec e15s) noGlob := by
  refine LoopsOk.of fun f => ?_
  by_cases hf : f = 15
  · subst hf
    refine .inr ⟨by kernel_rfl, fun i hi sp hsp => ?_⟩
    have hi : i < (loopsIn Try.prog 15).length := hi
    rw [e15s_len] at hi
    match i, hi with
    | 0, _ =>
      have e : (firstRid (loopIn Try.prog 15 0)).bind (e15s 15) = some e15_spec := by kernel_rfl
      obtain rfl := Option.some.inj (e.symm.trans hsp)
      exact e15_told
  · refine .inl fun r => ?_
    show e15s f r = none
    unfold e15s
    split
    · exact absurd rfl hf
    · rfl
theorem cp_get (x : Vec 8) (i : Nat) (hi : i < 320) : (cp x).l.getD i 0#8 = x.l.getD i 0#8 := by
  show ((List.range 320).map fun i => x.l.getD i 0#8).getD i 0#8 = _
  simp [List.getD_eq_getElem?_getD, hi]
theorem cp_cp (x : Vec 8) : cp (cp x) = cp x := by
  refine congrArg Vec.of (List.map_congr_left fun i hi => ?_)
  exact cp_get x i (List.mem_range.1 hi)
/-- The letters of whole threes. -/
def encD (e src : Vec 8) (od os : Nat) : Nat → Vec 8 → Vec 8
  | 0, d => d
  | m + 1, d => put4 e (encD e src od os m d) (od + 4 * m) (v24 src (os + 3 * m))
theorem e15_it (e dst src : Vec 8) (od nd os ns : Nat) : ∀ m : Nat, 4 * m ≤ nd → 3 * m ≤ ns → iter e15_next m ⟨cp e, dst, src, od, nd, os, ns⟩ = ⟨cp e, encD (cp e) src od os m dst, src, od + 4 * m, nd - 4 * m, os + 3 * m, ns - 3 * m⟩
  | 0, _, _ => rfl
  | m + 1, h1, h2 => by
    rw [iter_succ, e15_it e dst src od nd os ns m (by omega) (by omega)]
    show (⟨cp (cp e), put4 (cp e) (encD (cp e) src od os m dst) (od + 4 * m) (v24 src (os + 3 * m)), src, od + 4 * m + 4, nd - 4 * m - 4, os + 3 * m + 3, ns - 3 * m - 3⟩ : e15D) = _
    rw [cp_cp, show od + 4 * m + 4 = od + 4 * (m + 1) by omega, show os + 3 * m + 3 = os + 3 * (m + 1) by omega, show nd - 4 * m - 4 = nd - 4 * (m + 1) by omega, show ns - 3 * m - 3 = ns - 3 * (m + 1) by omega]
    rfl
theorem encD_n (e src : Vec 8) (od os : Nat) (d : Vec 8) : ∀ m : Nat, (encD e src od os m d).n = d.n
  | 0 => rfl
  | m + 1 => encD_n e src od os d m
def E15 (e dst src : Vec 8) (od nd os ns : Nat) : e15D := iter e15_next (ns / 3) ⟨cp e, dst, src, od, nd, os, ns⟩
theorem E15_eq (e dst src : Vec 8) (od nd os ns : Nat) (h : ns / 3 * 4 ≤ nd) : E15 e dst src od nd os ns = ⟨cp e, encD (cp e) src od os (ns / 3) dst, src, od + 4 * (ns / 3), nd - 4 * (ns / 3), os + 3 * (ns / 3), ns - 3 * (ns / 3)⟩ := by
  unfold E15
  exact e15_it e dst src od nd os ns (ns / 3) (by omega) (by omega)
def v8 (s : Vec 8) (o : Nat) : BitVec 64 := ((s.l.getD (o + 0) 0#8).setWidth 64) <<< 16
def v16 (s : Vec 8) (o : Nat) : BitVec 64 := ((s.l.getD (o + 0) 0#8).setWidth 64) <<< 16 ||| ((s.l.getD (o + 1) 0#8).setWidth 64) <<< 8
def put2 (e d : Vec 8) (o : Nat) (w : BitVec 64) : Vec 8 :=
  (((d.set (o + 0) (ex e ((w >>> 18) &&& 63#64))).set (o + 1) (ex e ((w >>> 12) &&& 63#64))).set (o + 2) 61#8).set (o + 3) 61#8
def put3 (e d : Vec 8) (o : Nat) (w : BitVec 64) : Vec 8 :=
  (((d.set (o + 0) (ex e ((w >>> 18) &&& 63#64))).set (o + 1) (ex e ((w >>> 12) &&& 63#64))).set (o + 2) (ex e ((w >>> 6) &&& 63#64))).set (o + 3) 61#8
structure c15_0D where
  e : Vec 8
  dst : Vec 8
  src : Vec 8
  od : Nat
  nd : Nat
  os : Nat
  ns : Nat
def c15_0_rd (a : List AV) (K : List Blk) : Option c15_0D :=
    match a with
    | [(.ref (.ptr 0 (.c 0))), (.ref (.sl 1 (.s od) (.s nd) none)), (.ref (.sl 2 (.s os) (.s ns) none))] =>
      match K with
      | [⟨(.gen (ys_e)), .own⟩, ⟨(.b8 dst), .own⟩, ⟨(.b8 src), .ro⟩] => 
        (match rd8 320 (ys_e.take 320), ys_e.drop 320 with
        | some e, [(.num (.int .i32 (.c 61))), (.atom (.bool (.c false)))] => some ⟨e, dst, src, od, nd, os, ns⟩
        | _, _ => none)
      | _ => none
    | _ => none
def c15_0 : Ct c15_0D where
  pat := [(.ref (.ptr 0 (.c 0))), (.ref (.sl 1 (.s 0) (.s 0) none)), (.ref (.sl 2 (.s 0) (.s 0) none))]
  patH := [⟨(.gen ([] ++ List.replicate 320 (.num (.w8 0#8)) ++ [(.num (.int .i32 (.c 61))), (.atom (.bool (.c false)))])), .own⟩, ⟨(.b8 (Vec.zero 8 0)), .own⟩, ⟨(.b8 (Vec.zero 8 0)), .ro⟩]
  read := c15_0_rd
  args := fun ⟨_, _, _, od, nd, os, ns⟩ => [(.ref (.ptr 0 (.c 0))), (.ref (.sl 1 (.s od) (.s nd) none)), (.ref (.sl 2 (.s os) (.s ns) none))]
  heap := fun ⟨e, dst, src, _, _, _, _⟩ => [⟨(.gen ([] ++ c8v e 320 ++ [(.num (.int .i32 (.c 61))), (.atom (.bool (.c false)))])), .own⟩, ⟨(.b8 dst), .own⟩, ⟨(.b8 src), .ro⟩]
  out := fun ⟨e, dst, src, od, _, os, ns⟩ => [⟨(.gen ([] ++ c8v (cp e) 320 ++ [(.num (.int .i32 (.c 61))), (.atom (.bool (.c false)))])), .own⟩, ⟨(.b8 (encD (cp e) src od os (ns / 3) dst)), .own⟩, ⟨(.b8 src), .ro⟩]
  val := fun ⟨_, _, _, _, _, _, _⟩ => (.obj .tup [])
  good := fun ⟨_, dst, src, od, nd, os, ns⟩ => decide (os + ns ≤ src.n ∧ od + nd ≤ dst.n ∧ (ns + 2) / 3 * 4 ≤ nd ∧ 1 ≤ ns ∧ ns % 3 = 0 ∧ ns ≤ 100000 ∧ nd ≤ 1000000)
theorem c15_0_run (e dst src : Vec 8) (od nd os ns : Nat) : endsAs (c15_0.heap ⟨e, dst, src, od, nd, os, ns⟩).length (some [0, 1, 2]) [⟨(.gen ([] ++ c8v ((E15 e dst src od nd os ns)).e 320 ++ [(.num (.int .i32 (.c 61))), (.atom (.bool (.c false)))])), .own⟩, ⟨(.b8 ((E15 e dst src od nd os ns)).dst), .own⟩, ⟨(.b8 src), .ro⟩] (c15_0.val ⟨e, dst, src, od, nd, os, ns⟩) (goB noSpec e15s 15 (c15_0.args ⟨e, dst, src, od, nd, os, ns⟩) ⟨c15_0.heap ⟨e, dst, src, od, nd, os, ns⟩, big, [false, true], []⟩) = some ([⟨(.gen ([] ++ c8v ((E15 e dst src od nd os ns)).e 320 ++ [(.num (.int .i32 (.c 61))), (.atom (.bool (.c false)))])), .own⟩, ⟨(.b8 ((E15 e dst src od nd os ns)).dst), .own⟩, ⟨(.b8 src), .ro⟩], (c15_0.val ⟨e, dst, src, od, nd, os, ns⟩), [((((((E15 e dst src od nd os ns)).ns : Nat) : Int) == 0) == true), decide (((os + ns) ≤ src.n ∧ ((od + nd) ≤ dst.n ∧ (((ns / 3) * 4) ≤ nd ∧ (ns ≤ 100000 ∧ nd ≤ 1000000))))), ((((ns : Nat) : Int) == 0) == false)]) := by kernel_rfl
set_option maxRecDepth 100000 in
theorem c15_0_read (a : List AV) (K : List Blk) (d : c15_0D) (h : c15_0.read a K = some d) : a = c15_0.args d ∧ K = c15_0.heap d := by
  replace h : c15_0_rd a K = some d := h
  unfold c15_0_rd at h
  split at h
  case h_2 => cases h
  split at h
  case h_2 => cases h
  split at h
  case h_2 => cases h
  rename_i hr hd
  obtain ⟨he, _⟩ := rd8_eq hr
  have ht := (List.take_append_drop 320 _).symm.trans (congr (congrArg HAppend.hAppend he) hd)
  subst ht
  injection h with h; subst h
  exact ⟨rfl, rfl⟩
theorem c15_0_ok : SpecOk Try.prog noGlob 15 c15_0.spec := by
  refine c15_0.ok (goB_ok no_specs (e15s_ok _)) c15_0_read ?_
  rintro ⟨e, dst, src, od, nd, os, ns⟩ hg
  have hg : os + ns ≤ src.n ∧ od + nd ≤ dst.n ∧ (ns + 2) / 3 * 4 ≤ nd ∧ 1 ≤ ns ∧ ns % 3 = 0 ∧ ns ≤ 100000 ∧ nd ≤ 1000000 := of_decide_eq_true hg
  have eo : c15_0.out ⟨e, dst, src, od, nd, os, ns⟩ = [⟨(.gen ([] ++ c8v ((E15 e dst src od nd os ns)).e 320 ++ [(.num (.int .i32 (.c 61))), (.atom (.bool (.c false)))])), .own⟩, ⟨(.b8 ((E15 e dst src od nd os ns)).dst), .own⟩, ⟨(.b8 src), .ro⟩] := by
    rw [E15_eq e dst src od nd os ns (by omega)]
    rfl
  have ev : c15_0.val ⟨e, dst, src, od, nd, os, ns⟩ = (.obj .tup []) := by
    rfl
  rw [eo, ev]
  refine ⟨[false, true], (some [0, 1, 2]), _, c15_0_run e dst src od nd os ns, ?_⟩
  have hz := E15_eq e dst src od nd os ns (by omega)
  have hn := encD_n (cp e) src od os dst (ns / 3)
  repeat' (refine all_true_cons ?_ ?_)
  all_goals first | exact all_true_nil | rfl | (simp only [hz, hn, Bool.and_eq_true, decide_eq_true_eq, beq_iff_eq, beq_true, beq_false, Bool.not_eq_true', decide_eq_false_iff_not, beq_eq_false_iff_ne, ne_eq, Bool.not_eq_false', bne_iff_ne, true_and, and_true] <;> omega)
structure c15_1D where
  e : Vec 8
  dst : Vec 8
  src : Vec 8
  od : Nat
  nd : Nat
  os : Nat
  ns : Nat
def c15_1_rd (a : List AV) (K : List Blk) : Option c15_1D :=
    match a with
    | [(.ref (.ptr 0 (.c 0))), (.ref (.sl 1 (.s od) (.s nd) none)), (.ref (.sl 2 (.s os) (.s ns) none))] =>
      match K with
      | [⟨(.gen (ys_e)), .own⟩, ⟨(.b8 dst), .own⟩, ⟨(.b8 src), .ro⟩] => 
        (match rd8 320 (ys_e.take 320), ys_e.drop 320 with
        | some e, [(.num (.int .i32 (.c 61))), (.atom (.bool (.c false)))] => some ⟨e, dst, src, od, nd, os, ns⟩
        | _, _ => none)
      | _ => none
    | _ => none
def c15_1 : Ct c15_1D where
  pat := [(.ref (.ptr 0 (.c 0))), (.ref (.sl 1 (.s 0) (.s 0) none)), (.ref (.sl 2 (.s 0) (.s 0) none))]
  patH := [⟨(.gen ([] ++ List.replicate 320 (.num (.w8 0#8)) ++ [(.num (.int .i32 (.c 61))), (.atom (.bool (.c false)))])), .own⟩, ⟨(.b8 (Vec.zero 8 0)), .own⟩, ⟨(.b8 (Vec.zero 8 0)), .ro⟩]
  read := c15_1_rd
  args := fun ⟨_, _, _, od, nd, os, ns⟩ => [(.ref (.ptr 0 (.c 0))), (.ref (.sl 1 (.s od) (.s nd) none)), (.ref (.sl 2 (.s os) (.s ns) none))]
  heap := fun ⟨e, dst, src, _, _, _, _⟩ => [⟨(.gen ([] ++ c8v e 320 ++ [(.num (.int .i32 (.c 61))), (.atom (.bool (.c false)))])), .own⟩, ⟨(.b8 dst), .own⟩, ⟨(.b8 src), .ro⟩]
  out := fun ⟨e, dst, src, od, _, os, ns⟩ => [⟨(.gen ([] ++ c8v (cp e) 320 ++ [(.num (.int .i32 (.c 61))), (.atom (.bool (.c false)))])), .own⟩, ⟨(.b8 (put2 (cp e) (encD (cp e) src od os (ns / 3) dst) (od + 4 * (ns / 3)) (v8 src (os + 3 * (ns / 3))))), .own⟩, ⟨(.b8 src), .ro⟩]
  val := fun ⟨_, _, _, _, _, _, _⟩ => (.obj .tup [])
  good := fun ⟨_, dst, src, od, nd, os, ns⟩ => decide (os + ns ≤ src.n ∧ od + nd ≤ dst.n ∧ (ns + 2) / 3 * 4 ≤ nd ∧ 1 ≤ ns ∧ ns % 3 = 1 ∧ ns ≤ 100000 ∧ nd ≤ 1000000)
theorem c15_1_run (e dst src : Vec 8) (od nd os ns : Nat) : endsAs (c15_1.heap ⟨e, dst, src, od, nd, os, ns⟩).length (some [0, 1, 2]) [⟨(.gen ([] ++ c8v ((E15 e dst src od nd os ns)).e 320 ++ [(.num (.int .i32 (.c 61))), (.atom (.bool (.c false)))])), .own⟩, ⟨(.b8 (put2 ((E15 e dst src od nd os ns)).e ((E15 e dst src od nd os ns)).dst ((E15 e dst src od nd os ns)).od (v8 src ((E15 e dst src od nd os ns)).os))), .own⟩, ⟨(.b8 src), .ro⟩] (c15_1.val ⟨e, dst, src, od, nd, os, ns⟩) (goB noSpec e15s 15 (c15_1.args ⟨e, dst, src, od, nd, os, ns⟩) ⟨c15_1.heap ⟨e, dst, src, od, nd, os, ns⟩, big, [false, false, true], []⟩) = some ([⟨(.gen ([] ++ c8v ((E15 e dst src od nd os ns)).e 320 ++ [(.num (.int .i32 (.c 61))), (.atom (.bool (.c false)))])), .own⟩, ⟨(.b8 (put2 ((E15 e dst src od nd os ns)).e ((E15 e dst src od nd os ns)).dst ((E15 e dst src od nd os ns)).od (v8 src ((E15 e dst src od nd os ns)).os))), .own⟩, ⟨(.b8 src), .ro⟩], (c15_1.val ⟨e, dst, src, od, nd, os, ns⟩), [decide ((((E15 e dst src od nd os ns)).od + 3) < ((E15 e dst src od nd os ns)).dst.n), (true && decide ((3 : Int) < ((((E15 e dst src od nd os ns)).nd : Nat) : Int))), decide ((((E15 e dst src od nd os ns)).od + 2) < ((E15 e dst src od nd os ns)).dst.n), (true && decide ((2 : Int) < ((((E15 e dst src od nd os ns)).nd : Nat) : Int))), decide ((((E15 e dst src od nd os ns)).od + 1) < ((E15 e dst src od nd os ns)).dst.n), (true && decide ((1 : Int) < ((((E15 e dst src od nd os ns)).nd : Nat) : Int))), decide (((0 : Nat) ≤ (0 + (((((((((((src.l.getD (((E15 e dst src od nd os ns)).os + 0) (0#8)).setWidth 64) <<< 16) >>> 12) &&& (63#64))).toNat : Nat) : Int)) : Int).toNat * 1)) ∧ ((0 + (((((((((((src.l.getD (((E15 e dst src od nd os ns)).os + 0) (0#8)).setWidth 64) <<< 16) >>> 12) &&& (63#64))).toNat : Nat) : Int)) : Int).toNat * 1)) + 1) ≤ 320)), (decide ((0 : Int) ≤ ((((((((src.l.getD (((E15 e dst src od nd os ns)).os + 0) (0#8)).setWidth 64) <<< 16) >>> 12) &&& (63#64))).toNat : Nat) : Int)) && decide (((((((((src.l.getD (((E15 e dst src od nd os ns)).os + 0) (0#8)).setWidth 64) <<< 16) >>> 12) &&& (63#64))).toNat : Nat) : Int) < ((64 : Nat) : Int))), decide ((((E15 e dst src od nd os ns)).od + 0) < ((E15 e dst src od nd os ns)).dst.n), (true && decide ((0 : Int) < ((((E15 e dst src od nd os ns)).nd : Nat) : Int))), decide (((0 : Nat) ≤ (0 + (((((((((((src.l.getD (((E15 e dst src od nd os ns)).os + 0) (0#8)).setWidth 64) <<< 16) >>> 18) &&& (63#64))).toNat : Nat) : Int)) : Int).toNat * 1)) ∧ ((0 + (((((((((((src.l.getD (((E15 e dst src od nd os ns)).os + 0) (0#8)).setWidth 64) <<< 16) >>> 18) &&& (63#64))).toNat : Nat) : Int)) : Int).toNat * 1)) + 1) ≤ 320)), (decide ((0 : Int) ≤ ((((((((src.l.getD (((E15 e dst src od nd os ns)).os + 0) (0#8)).setWidth 64) <<< 16) >>> 18) &&& (63#64))).toNat : Nat) : Int)) && decide (((((((((src.l.getD (((E15 e dst src od nd os ns)).os + 0) (0#8)).setWidth 64) <<< 16) >>> 18) &&& (63#64))).toNat : Nat) : Int) < ((64 : Nat) : Int))), decide ((((E15 e dst src od nd os ns)).os + 0) < src.n), (true && decide ((0 : Int) < ((((E15 e dst src od nd os ns)).ns : Nat) : Int))), ((((((E15 e dst src od nd os ns)).ns : Nat) : Int) == 1) == true), ((((((E15 e dst src od nd os ns)).ns : Nat) : Int) == 0) == false), decide (((os + ns) ≤ src.n ∧ ((od + nd) ≤ dst.n ∧ (((ns / 3) * 4) ≤ nd ∧ (ns ≤ 100000 ∧ nd ≤ 1000000))))), ((((ns : Nat) : Int) == 0) == false)]) := by kernel_rfl
set_option maxRecDepth 100000 in
theorem c15_1_read (a : List AV) (K : List Blk) (d : c15_1D) (h : c15_1.read a K = some d) : a = c15_1.args d ∧ K = c15_1.heap d := by
  replace h : c15_1_rd a K = some d := h
  unfold c15_1_rd at h
  split at h
  case h_2 => cases h
  split at h
  case h_2 => cases h
  split at h
  case h_2 => cases h
  rename_i hr hd
  obtain ⟨he, _⟩ := rd8_eq hr
  have ht := (List.take_append_drop 320 _).symm.trans (congr (congrArg HAppend.hAppend he) hd)
  subst ht
  injection h with h; subst h
  exact ⟨rfl, rfl⟩
theorem c15_1_ok : SpecOk Try.prog noGlob 15 c15_1.spec := by
  refine c15_1.ok (goB_ok no_specs (e15s_ok _)) c15_1_read ?_
  rintro ⟨e, dst, src, od, nd, os, ns⟩ hg
  have hg : os + ns ≤ src.n ∧ od + nd ≤ dst.n ∧ (ns + 2) / 3 * 4 ≤ nd ∧ 1 ≤ ns ∧ ns % 3 = 1 ∧ ns ≤ 100000 ∧ nd ≤ 1000000 := of_decide_eq_true hg
  have eo : c15_1.out ⟨e, dst, src, od, nd, os, ns⟩ = [⟨(.gen ([] ++ c8v ((E15 e dst src od nd os ns)).e 320 ++ [(.num (.int .i32 (.c 61))), (.atom (.bool (.c false)))])), .own⟩, ⟨(.b8 (put2 ((E15 e dst src od nd os ns)).e ((E15 e dst src od nd os ns)).dst ((E15 e dst src od nd os ns)).od (v8 src ((E15 e dst src od nd os ns)).os))), .own⟩, ⟨(.b8 src), .ro⟩] := by
    rw [E15_eq e dst src od nd os ns (by omega)]
    rfl
  have ev : c15_1.val ⟨e, dst, src, od, nd, os, ns⟩ = (.obj .tup []) := by
    rfl
  rw [eo, ev]
  refine ⟨[false, false, true], (some [0, 1, 2]), _, c15_1_run e dst src od nd os ns, ?_⟩
  have hz := E15_eq e dst src od nd os ns (by omega)
  have hn := encD_n (cp e) src od os dst (ns / 3)
  have h18 := b63 (v8 src (os + 3 * (ns / 3)) >>> 18)
  unfold v8 at h18
  have h12 := b63 (v8 src (os + 3 * (ns / 3)) >>> 12)
  unfold v8 at h12
  have h6 := b63 (v8 src (os + 3 * (ns / 3)) >>> 6)
  unfold v8 at h6
  repeat' (refine all_true_cons ?_ ?_)
  all_goals first | exact all_true_nil | rfl | (simp only [hz, hn, Bool.and_eq_true, decide_eq_true_eq, beq_iff_eq, beq_true, beq_false, Bool.not_eq_true', decide_eq_false_iff_not, beq_eq_false_iff_ne, ne_eq, Bool.not_eq_false', bne_iff_ne, true_and, and_true] <;> omega)
structure c15_2D where
  e : Vec 8
  dst : Vec 8
  src : Vec 8
  od : Nat
  nd : Nat
  os : Nat
  ns : Nat
def c15_2_rd (a : List AV) (K : List Blk) : Option c15_2D :=
    match a with
    | [(.ref (.ptr 0 (.c 0))), (.ref (.sl 1 (.s od) (.s nd) none)), (.ref (.sl 2 (.s os) (.s ns) none))] =>
      match K with
      | [⟨(.gen (ys_e)), .own⟩, ⟨(.b8 dst), .own⟩, ⟨(.b8 src), .ro⟩] => 
        (match rd8 320 (ys_e.take 320), ys_e.drop 320 with
        | some e, [(.num (.int .i32 (.c 61))), (.atom (.bool (.c false)))] => some ⟨e, dst, src, od, nd, os, ns⟩
        | _, _ => none)
      | _ => none
    | _ => none
def c15_2 : Ct c15_2D where
  pat := [(.ref (.ptr 0 (.c 0))), (.ref (.sl 1 (.s 0) (.s 0) none)), (.ref (.sl 2 (.s 0) (.s 0) none))]
  patH := [⟨(.gen ([] ++ List.replicate 320 (.num (.w8 0#8)) ++ [(.num (.int .i32 (.c 61))), (.atom (.bool (.c false)))])), .own⟩, ⟨(.b8 (Vec.zero 8 0)), .own⟩, ⟨(.b8 (Vec.zero 8 0)), .ro⟩]
  read := c15_2_rd
  args := fun ⟨_, _, _, od, nd, os, ns⟩ => [(.ref (.ptr 0 (.c 0))), (.ref (.sl 1 (.s od) (.s nd) none)), (.ref (.sl 2 (.s os) (.s ns) none))]
  heap := fun ⟨e, dst, src, _, _, _, _⟩ => [⟨(.gen ([] ++ c8v e 320 ++ [(.num (.int .i32 (.c 61))), (.atom (.bool (.c false)))])), .own⟩, ⟨(.b8 dst), .own⟩, ⟨(.b8 src), .ro⟩]
  out := fun ⟨e, dst, src, od, _, os, ns⟩ => [⟨(.gen ([] ++ c8v (cp e) 320 ++ [(.num (.int .i32 (.c 61))), (.atom (.bool (.c false)))])), .own⟩, ⟨(.b8 (put3 (cp e) (encD (cp e) src od os (ns / 3) dst) (od + 4 * (ns / 3)) (v16 src (os + 3 * (ns / 3))))), .own⟩, ⟨(.b8 src), .ro⟩]
  val := fun ⟨_, _, _, _, _, _, _⟩ => (.obj .tup [])
  good := fun ⟨_, dst, src, od, nd, os, ns⟩ => decide (os + ns ≤ src.n ∧ od + nd ≤ dst.n ∧ (ns + 2) / 3 * 4 ≤ nd ∧ 1 ≤ ns ∧ ns % 3 = 2 ∧ ns ≤ 100000 ∧ nd ≤ 1000000)
theorem c15_2_run (e dst src : Vec 8) (od nd os ns : Nat) : endsAs (c15_2.heap ⟨e, dst, src, od, nd, os, ns⟩).length (some [0, 1, 2]) [⟨(.gen ([] ++ c8v ((E15 e dst src od nd os ns)).e 320 ++ [(.num (.int .i32 (.c 61))), (.atom (.bool (.c false)))])), .own⟩, ⟨(.b8 (put3 ((E15 e dst src od nd os ns)).e ((E15 e dst src od nd os ns)).dst ((E15 e dst src od nd os ns)).od (v16 src ((E15 e dst src od nd os ns)).os))), .own⟩, ⟨(.b8 src), .ro⟩] (c15_2.val ⟨e, dst, src, od, nd, os, ns⟩) (goB noSpec e15s 15 (c15_2.args ⟨e, dst, src, od, nd, os, ns⟩) ⟨c15_2.heap ⟨e, dst, src, od, nd, os, ns⟩, big, [false, false, false, true], []⟩) = some ([⟨(.gen ([] ++ c8v ((E15 e dst src od nd os ns)).e 320 ++ [(.num (.int .i32 (.c 61))), (.atom (.bool (.c false)))])), .own⟩, ⟨(.b8 (put3 ((E15 e dst src od nd os ns)).e ((E15 e dst src od nd os ns)).dst ((E15 e dst src od nd os ns)).od (v16 src ((E15 e dst src od nd os ns)).os))), .own⟩, ⟨(.b8 src), .ro⟩], (c15_2.val ⟨e, dst, src, od, nd, os, ns⟩), [decide ((((E15 e dst src od nd os ns)).od + 3) < ((E15 e dst src od nd os ns)).dst.n), (true && decide ((3 : Int) < ((((E15 e dst src od nd os ns)).nd : Nat) : Int))), decide ((((E15 e dst src od nd os ns)).od + 2) < ((E15 e dst src od nd os ns)).dst.n), (true && decide ((2 : Int) < ((((E15 e dst src od nd os ns)).nd : Nat) : Int))), decide (((0 : Nat) ≤ (0 + ((((((((((((src.l.getD (((E15 e dst src od nd os ns)).os + 0) (0#8)).setWidth 64) <<< 16) ||| (((src.l.getD (((E15 e dst src od nd os ns)).os + 1) (0#8)).setWidth 64) <<< 8)) >>> 6) &&& (63#64))).toNat : Nat) : Int)) : Int).toNat * 1)) ∧ ((0 + ((((((((((((src.l.getD (((E15 e dst src od nd os ns)).os + 0) (0#8)).setWidth 64) <<< 16) ||| (((src.l.getD (((E15 e dst src od nd os ns)).os + 1) (0#8)).setWidth 64) <<< 8)) >>> 6) &&& (63#64))).toNat : Nat) : Int)) : Int).toNat * 1)) + 1) ≤ 320)), (decide ((0 : Int) ≤ (((((((((src.l.getD (((E15 e dst src od nd os ns)).os + 0) (0#8)).setWidth 64) <<< 16) ||| (((src.l.getD (((E15 e dst src od nd os ns)).os + 1) (0#8)).setWidth 64) <<< 8)) >>> 6) &&& (63#64))).toNat : Nat) : Int)) && decide ((((((((((src.l.getD (((E15 e dst src od nd os ns)).os + 0) (0#8)).setWidth 64) <<< 16) ||| (((src.l.getD (((E15 e dst src od nd os ns)).os + 1) (0#8)).setWidth 64) <<< 8)) >>> 6) &&& (63#64))).toNat : Nat) : Int) < ((64 : Nat) : Int))), decide ((((E15 e dst src od nd os ns)).od + 1) < ((E15 e dst src od nd os ns)).dst.n), (true && decide ((1 : Int) < ((((E15 e dst src od nd os ns)).nd : Nat) : Int))), decide (((0 : Nat) ≤ (0 + ((((((((((((src.l.getD (((E15 e dst src od nd os ns)).os + 0) (0#8)).setWidth 64) <<< 16) ||| (((src.l.getD (((E15 e dst src od nd os ns)).os + 1) (0#8)).setWidth 64) <<< 8)) >>> 12) &&& (63#64))).toNat : Nat) : Int)) : Int).toNat * 1)) ∧ ((0 + ((((((((((((src.l.getD (((E15 e dst src od nd os ns)).os + 0) (0#8)).setWidth 64) <<< 16) ||| (((src.l.getD (((E15 e dst src od nd os ns)).os + 1) (0#8)).setWidth 64) <<< 8)) >>> 12) &&& (63#64))).toNat : Nat) : Int)) : Int).toNat * 1)) + 1) ≤ 320)), (decide ((0 : Int) ≤ (((((((((src.l.getD (((E15 e dst src od nd os ns)).os + 0) (0#8)).setWidth 64) <<< 16) ||| (((src.l.getD (((E15 e dst src od nd os ns)).os + 1) (0#8)).setWidth 64) <<< 8)) >>> 12) &&& (63#64))).toNat : Nat) : Int)) && decide ((((((((((src.l.getD (((E15 e dst src od nd os ns)).os + 0) (0#8)).setWidth 64) <<< 16) ||| (((src.l.getD (((E15 e dst src od nd os ns)).os + 1) (0#8)).setWidth 64) <<< 8)) >>> 12) &&& (63#64))).toNat : Nat) : Int) < ((64 : Nat) : Int))), decide ((((E15 e dst src od nd os ns)).od + 0) < ((E15 e dst src od nd os ns)).dst.n), (true && decide ((0 : Int) < ((((E15 e dst src od nd os ns)).nd : Nat) : Int))), decide (((0 : Nat) ≤ (0 + ((((((((((((src.l.getD (((E15 e dst src od nd os ns)).os + 0) (0#8)).setWidth 64) <<< 16) ||| (((src.l.getD (((E15 e dst src od nd os ns)).os + 1) (0#8)).setWidth 64) <<< 8)) >>> 18) &&& (63#64))).toNat : Nat) : Int)) : Int).toNat * 1)) ∧ ((0 + ((((((((((((src.l.getD (((E15 e dst src od nd os ns)).os + 0) (0#8)).setWidth 64) <<< 16) ||| (((src.l.getD (((E15 e dst src od nd os ns)).os + 1) (0#8)).setWidth 64) <<< 8)) >>> 18) &&& (63#64))).toNat : Nat) : Int)) : Int).toNat * 1)) + 1) ≤ 320)), (decide ((0 : Int) ≤ (((((((((src.l.getD (((E15 e dst src od nd os ns)).os + 0) (0#8)).setWidth 64) <<< 16) ||| (((src.l.getD (((E15 e dst src od nd os ns)).os + 1) (0#8)).setWidth 64) <<< 8)) >>> 18) &&& (63#64))).toNat : Nat) : Int)) && decide ((((((((((src.l.getD (((E15 e dst src od nd os ns)).os + 0) (0#8)).setWidth 64) <<< 16) ||| (((src.l.getD (((E15 e dst src od nd os ns)).os + 1) (0#8)).setWidth 64) <<< 8)) >>> 18) &&& (63#64))).toNat : Nat) : Int) < ((64 : Nat) : Int))), decide ((((E15 e dst src od nd os ns)).os + 1) < src.n), (true && decide ((1 : Int) < ((((E15 e dst src od nd os ns)).ns : Nat) : Int))), decide ((((E15 e dst src od nd os ns)).os + 0) < src.n), (true && decide ((0 : Int) < ((((E15 e dst src od nd os ns)).ns : Nat) : Int))), ((((((E15 e dst src od nd os ns)).ns : Nat) : Int) == 2) == true), ((((((E15 e dst src od nd os ns)).ns : Nat) : Int) == 1) == false), ((((((E15 e dst src od nd os ns)).ns : Nat) : Int) == 0) == false), decide (((os + ns) ≤ src.n ∧ ((od + nd) ≤ dst.n ∧ (((ns / 3) * 4) ≤ nd ∧ (ns ≤ 100000 ∧ nd ≤ 1000000))))), ((((ns : Nat) : Int) == 0) == false)]) := by kernel_rfl
set_option maxRecDepth 100000 in
theorem c15_2_read (a : List AV) (K : List Blk) (d : c15_2D) (h : c15_2.read a K = some d) : a = c15_2.args d ∧ K = c15_2.heap d := by
  replace h : c15_2_rd a K = some d := h
  unfold c15_2_rd at h
  split at h
  case h_2 => cases h
  split at h
  case h_2 => cases h
  split at h
  case h_2 => cases h
  rename_i hr hd
  obtain ⟨he, _⟩ := rd8_eq hr
  have ht := (List.take_append_drop 320 _).symm.trans (congr (congrArg HAppend.hAppend he) hd)
  subst ht
  injection h with h; subst h
  exact ⟨rfl, rfl⟩
theorem c15_2_ok : SpecOk Try.prog noGlob 15 c15_2.spec := by
  refine c15_2.ok (goB_ok no_specs (e15s_ok _)) c15_2_read ?_
  rintro ⟨e, dst, src, od, nd, os, ns⟩ hg
  have hg : os + ns ≤ src.n ∧ od + nd ≤ dst.n ∧ (ns + 2) / 3 * 4 ≤ nd ∧ 1 ≤ ns ∧ ns % 3 = 2 ∧ ns ≤ 100000 ∧ nd ≤ 1000000 := of_decide_eq_true hg
  have eo : c15_2.out ⟨e, dst, src, od, nd, os, ns⟩ = [⟨(.gen ([] ++ c8v ((E15 e dst src od nd os ns)).e 320 ++ [(.num (.int .i32 (.c 61))), (.atom (.bool (.c false)))])), .own⟩, ⟨(.b8 (put3 ((E15 e dst src od nd os ns)).e ((E15 e dst src od nd os ns)).dst ((E15 e dst src od nd os ns)).od (v16 src ((E15 e dst src od nd os ns)).os))), .own⟩, ⟨(.b8 src), .ro⟩] := by
    rw [E15_eq e dst src od nd os ns (by omega)]
    rfl
  have ev : c15_2.val ⟨e, dst, src, od, nd, os, ns⟩ = (.obj .tup []) := by
    rfl
  rw [eo, ev]
  refine ⟨[false, false, false, true], (some [0, 1, 2]), _, c15_2_run e dst src od nd os ns, ?_⟩
  have hz := E15_eq e dst src od nd os ns (by omega)
  have hn := encD_n (cp e) src od os dst (ns / 3)
  have h18 := b63 (v16 src (os + 3 * (ns / 3)) >>> 18)
  unfold v16 at h18
  have h12 := b63 (v16 src (os + 3 * (ns / 3)) >>> 12)
  unfold v16 at h12
  have h6 := b63 (v16 src (os + 3 * (ns / 3)) >>> 6)
  unfold v16 at h6
  repeat' (refine all_true_cons ?_ ?_)
  all_goals first | exact all_true_nil | rfl | (simp only [hz, hn, Bool.and_eq_true, decide_eq_true_eq, beq_iff_eq, beq_true, beq_false, Bool.not_eq_true', decide_eq_false_iff_not, beq_eq_false_iff_ne, ne_eq, Bool.not_eq_false', bne_iff_ne, true_and, and_true] <;> omega)
end Go.Proofs.Ytlelgligkkegnaa

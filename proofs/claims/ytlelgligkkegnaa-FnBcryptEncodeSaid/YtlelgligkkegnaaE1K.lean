/- bcrypt's letters read again: Decode. -/
import Derived.Test.YtlelgligkkegnaaE1L
namespace Go.Proofs.Ytlelgligkkegnaa
open Go.Eng
set_option linter.unusedSimpArgs false
set_option linter.unusedVariables false
theorem d64_cp (e src : Vec 8) (o : Nat) : d64 (cp e) src o = d64 e src o := by
  unfold d64
  simp only [dx_cp]
theorem d32_cp (e src : Vec 8) (o : Nat) : d32 (cp e) src o = d32 e src o := by
  unfold d32
  simp only [dx_cp]
/-- Six bytes of eight letters, again and again. -/
def decA (e src : Vec 8) (od os : Nat) : Nat → Vec 8 → Vec 8
  | 0, d => d
  | m + 1, d => put64 (decA e src od os m d) (od + 6 * m) (d64 e src (os + 8 * m))
/-- Three bytes of four letters, again and again. -/
def decM (e src : Vec 8) (od os : Nat) : Nat → Vec 8 → Vec 8
  | 0, d => d
  | m + 1, d => put32 (decM e src od os m d) (od + 3 * m) (d32 e src (os + 4 * m))
theorem decA_n (e src : Vec 8) (od os : Nat) (d : Vec 8) : ∀ m : Nat, (decA e src od os m d).n = d.n
  | 0 => rfl
  | m + 1 => decA_n e src od os d m
theorem decM_n (e src : Vec 8) (od os : Nat) (d : Vec 8) : ∀ m : Nat, (decM e src od os m d).n = d.n
  | 0 => rfl
  | m + 1 => decM_n e src od os d m
theorem a17_it (e dst src : Vec 8) (od nd os ns : Nat) : ∀ m : Nat, iter a17_next m ⟨cp e, dst, src, od, nd, os, ns, 0, 0⟩ = ⟨cp e, decA e src od os m dst, src, od, nd, os, ns, ((6 * m : Nat) : Int), ((8 * m : Nat) : Int)⟩
  | 0 => rfl
  | m + 1 => by
    rw [iter_succ, a17_it e dst src od nd os ns m]
    show (⟨cp (cp e), put64 (decA e src od os m dst) (od + ((6 * m : Nat) : Int).toNat) (d64 (cp e) src (os + ((8 * m : Nat) : Int).toNat)), src, od, nd, os, ns, ((6 * m : Nat) : Int) + 6, ((8 * m : Nat) : Int) + 8⟩ : a17D) = _
    rw [cp_cp, d64_cp, show ((6 * m : Nat) : Int) + 6 = ((6 * (m + 1) : Nat) : Int) by omega, show ((8 * m : Nat) : Int) + 8 = ((8 * (m + 1) : Nat) : Int) by omega, Int.toNat_natCast, Int.toNat_natCast]
    rfl
theorem m17_it (e dst src : Vec 8) (od nd os ns a b : Nat) : ∀ m : Nat, iter m17_next m ⟨cp e, dst, src, od, nd, os, ns, (a : Int), (b : Int)⟩ = ⟨cp e, decM e src (od + a) (os + b) m dst, src, od, nd, os, ns, ((a + 3 * m : Nat) : Int), ((b + 4 * m : Nat) : Int)⟩
  | 0 => rfl
  | m + 1 => by
    rw [iter_succ, m17_it e dst src od nd os ns a b m]
    show (⟨cp (cp e), put32 (decM e src (od + a) (os + b) m dst) (od + ((a + 3 * m : Nat) : Int).toNat) (d32 (cp e) src (os + ((b + 4 * m : Nat) : Int).toNat)), src, od, nd, os, ns, ((a + 3 * m : Nat) : Int) + 3, ((b + 4 * m : Nat) : Int) + 4⟩ : m17D) = _
    rw [cp_cp, d32_cp, show ((a + 3 * m : Nat) : Int) + 3 = ((a + 3 * (m + 1) : Nat) : Int) by omega, show ((b + 4 * m : Nat) : Int) + 4 = ((b + 4 * (m + 1) : Nat) : Int) by omega, Int.toNat_natCast, Int.toNat_natCast, ← Nat.add_assoc, ← Nat.add_assoc]
    rfl
def A17 (e dst src : Vec 8) (od nd os ns : Nat) : a17D := iter a17_next ((((ns : Int) - 0).toNat / 4 - 1) / 2) ⟨cp e, dst, src, od, nd, os, ns, 0, 0⟩
def M17 (A : a17D) (src : Vec 8) : m17D := iter m17_next (((A.ns : Int) - A.si).toNat / 4 - 1) ⟨cp A.e, A.dst, src, A.od, A.nd, A.os, A.ns, A.n, A.si⟩
/-- What lies there before the last four letters. -/
def decB (e src : Vec 8) (od os ns : Nat) (d : Vec 8) : Vec 8 :=
  decM e src (od + 6 * ((ns / 4 - 1) / 2)) (os + 8 * ((ns / 4 - 1) / 2)) (ns / 4 - 1 - 2 * ((ns / 4 - 1) / 2)) (decA e src od os ((ns / 4 - 1) / 2) d)
theorem decB_n (e src : Vec 8) (od os ns : Nat) (d : Vec 8) : (decB e src od os ns d).n = d.n := by
  unfold decB
  rw [decM_n, decA_n]
theorem A17_eq (e dst src : Vec 8) (od nd os ns : Nat) : A17 e dst src od nd os ns = ⟨cp e, decA e src od os ((ns / 4 - 1) / 2) dst, src, od, nd, os, ns, ((6 * ((ns / 4 - 1) / 2) : Nat) : Int), ((8 * ((ns / 4 - 1) / 2) : Nat) : Int)⟩ := by
  unfold A17
  rw [a17_it, show (((ns : Int) - 0).toNat / 4 - 1) / 2 = (ns / 4 - 1) / 2 by omega]
theorem M17_eq (e dst src : Vec 8) (od nd os ns : Nat) (h : ns % 4 = 0) (h4 : 4 ≤ ns) : M17 (A17 e dst src od nd os ns) src = ⟨cp e, decB e src od os ns dst, src, od, nd, os, ns, ((3 * (ns / 4 - 1) : Nat) : Int), ((ns - 4 : Nat) : Int)⟩ := by
  rw [A17_eq]
  unfold M17
  show iter m17_next (((ns : Int) - ((8 * ((ns / 4 - 1) / 2) : Nat) : Int)).toNat / 4 - 1) ⟨cp (cp e), decA e src od os ((ns / 4 - 1) / 2) dst, src, od, nd, os, ns, ((6 * ((ns / 4 - 1) / 2) : Nat) : Int), ((8 * ((ns / 4 - 1) / 2) : Nat) : Int)⟩ = _
  rw [cp_cp, m17_it, show ((ns : Int) - ((8 * ((ns / 4 - 1) / 2) : Nat) : Int)).toNat / 4 - 1 = ns / 4 - 1 - 2 * ((ns / 4 - 1) / 2) by omega]
  rw [show 6 * ((ns / 4 - 1) / 2) + 3 * (ns / 4 - 1 - 2 * ((ns / 4 - 1) / 2)) = 3 * (ns / 4 - 1) by omega, show 8 * ((ns / 4 - 1) / 2) + 4 * (ns / 4 - 1 - 2 * ((ns / 4 - 1) / 2)) = ns - 4 by omega]
  rfl
theorem ne255 {a : BitVec 8} (h : a.toNat < 64) : a ≠ 255#8 := by
  intro e
  rw [e] at h
  exact absurd h (by decide)
def spD1 : FuncId → Option Eng.Spec
  | 22 => some c22_1.spec
  | _ => none
theorem spD1_ok : ∀ f sp, spD1 f = some sp → SpecOk Try.prog noGlob f sp := by
  intro f sp h
  unfold spD1 at h
  split at h
  · injection h with h; subst h; exact c22_1_ok
  · cases h
structure c17_1D where
  e : Vec 8
  dst : Vec 8
  src : Vec 8
  od : Nat
  nd : Nat
  os : Nat
  ns : Nat
def c17_1_rd (a : List AV) (K : List Blk) : Option c17_1D :=
    match a with
    | [(.ref (.ptr 0 (.c 0))), (.ref (.sl 1 (.s od) (.s nd) none)), (.ref (.sl 2 (.s os) (.s ns) none))] =>
      match K with
      | [⟨(.gen (ys_e)), .own⟩, ⟨(.b8 dst), .own⟩, ⟨(.b8 src), .ro⟩] => 
        (match rd8 320 (ys_e.take 320), ys_e.drop 320 with
        | some e, [(.num (.int .i32 (.c 61))), (.atom (.bool (.c false)))] => some ⟨e, dst, src, od, nd, os, ns⟩
        | _, _ => none)
      | _ => none
    | _ => none
def c17_1 : Ct c17_1D where
  pat := [(.ref (.ptr 0 (.c 0))), (.ref (.sl 1 (.s 0) (.s 0) none)), (.ref (.sl 2 (.s 0) (.s 0) none))]
  patH := [⟨(.gen ([] ++ List.replicate 320 (.num (.w8 0#8)) ++ [(.num (.int .i32 (.c 61))), (.atom (.bool (.c false)))])), .own⟩, ⟨(.b8 (Vec.zero 8 0)), .own⟩, ⟨(.b8 (Vec.zero 8 0)), .ro⟩]
  read := c17_1_rd
  args := fun ⟨_, _, _, od, nd, os, ns⟩ => [(.ref (.ptr 0 (.c 0))), (.ref (.sl 1 (.s od) (.s nd) none)), (.ref (.sl 2 (.s os) (.s ns) none))]
  heap := fun ⟨e, dst, src, _, _, _, _⟩ => [⟨(.gen ([] ++ c8v e 320 ++ [(.num (.int .i32 (.c 61))), (.atom (.bool (.c false)))])), .own⟩, ⟨(.b8 dst), .own⟩, ⟨(.b8 src), .ro⟩]
  out := fun ⟨e, dst, src, od, _, os, ns⟩ => [⟨(.gen ([] ++ c8v (cp (cp e)) 320 ++ [(.num (.int .i32 (.c 61))), (.atom (.bool (.c false)))])), .own⟩, ⟨(.b8 (end1 (cp (cp e)) (decB e src od os ns dst) src (od + (((3 * (ns / 4 - 1) : Nat) : Int)).toNat) os ((ns - 4 : Nat) : Int))), .own⟩, ⟨(.b8 src), .ro⟩]
  val := fun ⟨_, _, _, _, _, _, ns⟩ => (.obj .tup [(.num (.int .i64 (.s (((3 * (ns / 4 - 1) : Nat) : Int) + 1)))), (.atom .nili)])
  good := fun ⟨e, dst, src, od, nd, os, ns⟩ => decide (os + ns ≤ src.n ∧ od + nd ≤ dst.n ∧ ns % 4 = 0 ∧ nd * 4 = ns * 3 ∧ 4 ≤ ns ∧ ns ≤ 1000000 ∧ (∀ k, k < ns - 2 → (dx e src (os + k)).toNat < 64) ∧ dx e src (os + (ns - 2)) = 255#8 ∧ src.l.getD (os + (ns - 2)) 0#8 = 61#8 ∧ src.l.getD (os + (ns - 1)) 0#8 = 61#8)
theorem c17_1_run (e dst src : Vec 8) (od nd os ns : Nat) : endsAs (c17_1.heap ⟨e, dst, src, od, nd, os, ns⟩).length (some [0, 1, 2]) [⟨(.gen ([] ++ c8v (cp ((M17 (A17 e dst src od nd os ns) src)).e) 320 ++ [(.num (.int .i32 (.c 61))), (.atom (.bool (.c false)))])), .own⟩, ⟨(.b8 (end1 (cp ((M17 (A17 e dst src od nd os ns) src)).e) ((M17 (A17 e dst src od nd os ns) src)).dst src (((M17 (A17 e dst src od nd os ns) src)).od + ((M17 (A17 e dst src od nd os ns) src)).n.toNat) ((M17 (A17 e dst src od nd os ns) src)).os ((M17 (A17 e dst src od nd os ns) src)).si)), .own⟩, ⟨(.b8 src), .ro⟩] (.obj .tup [(.num (.int .i64 (.s (((M17 (A17 e dst src od nd os ns) src)).n + 1)))), (.atom .nili)]) (goB spD1 s17 17 (c17_1.args ⟨e, dst, src, od, nd, os, ns⟩) ⟨c17_1.heap ⟨e, dst, src, od, nd, os, ns⟩, big, [false, true, false], []⟩) = some ([⟨(.gen ([] ++ c8v (cp ((M17 (A17 e dst src od nd os ns) src)).e) 320 ++ [(.num (.int .i32 (.c 61))), (.atom (.bool (.c false)))])), .own⟩, ⟨(.b8 (end1 (cp ((M17 (A17 e dst src od nd os ns) src)).e) ((M17 (A17 e dst src od nd os ns) src)).dst src (((M17 (A17 e dst src od nd os ns) src)).od + ((M17 (A17 e dst src od nd os ns) src)).n.toNat) ((M17 (A17 e dst src od nd os ns) src)).os ((M17 (A17 e dst src od nd os ns) src)).si)), .own⟩, ⟨(.b8 src), .ro⟩], (.obj .tup [(.num (.int .i64 (.s (((M17 (A17 e dst src od nd os ns) src)).n + 1)))), (.atom .nili)]), [(decide (((((((M17 (A17 e dst src od nd os ns) src)).si + 1) + 1) + 1) + 1) < ((((M17 (A17 e dst src od nd os ns) src)).ns : Nat) : Int)) == false), decide (((-9223372036854775808) ≤ (((M17 (A17 e dst src od nd os ns) src)).n + 1) ∧ (((M17 (A17 e dst src od nd os ns) src)).n + 1) ≤ 9223372036854775807)), (c22_1.good ⟨cp (M17 (A17 e dst src od nd os ns) src).e, (M17 (A17 e dst src od nd os ns) src).dst, src, (M17 (A17 e dst src od nd os ns) src).od + (M17 (A17 e dst src od nd os ns) src).n.toNat, (((M17 (A17 e dst src od nd os ns) src).nd : Nat) : Int).toNat - (M17 (A17 e dst src od nd os ns) src).n.toNat, (M17 (A17 e dst src od nd os ns) src).os, (M17 (A17 e dst src od nd os ns) src).ns, (M17 (A17 e dst src od nd os ns) src).si⟩), ((decide ((0 : Int) ≤ ((M17 (A17 e dst src od nd os ns) src)).n) && decide (((M17 (A17 e dst src od nd os ns) src)).n ≤ ((((M17 (A17 e dst src od nd os ns) src)).nd : Nat) : Int))) && decide (((((M17 (A17 e dst src od nd os ns) src)).nd : Nat) : Int) ≤ ((((M17 (A17 e dst src od nd os ns) src)).nd : Nat) : Int))), (decide (((M17 (A17 e dst src od nd os ns) src)).si < ((((M17 (A17 e dst src od nd os ns) src)).ns : Nat) : Int)) == true), (m17.good ⟨cp (A17 e dst src od nd os ns).e, (A17 e dst src od nd os ns).dst, src, (A17 e dst src od nd os ns).od, (A17 e dst src od nd os ns).nd, (A17 e dst src od nd os ns).os, (A17 e dst src od nd os ns).ns, (A17 e dst src od nd os ns).n, (A17 e dst src od nd os ns).si⟩), (a17.good ⟨cp e, dst, src, od, nd, os, ns, 0, 0⟩), ((((ns : Nat) : Int) == 0) == false)]) := by kernel_rfl
set_option maxRecDepth 100000 in
theorem c17_1_read (a : List AV) (K : List Blk) (d : c17_1D) (h : c17_1.read a K = some d) : a = c17_1.args d ∧ K = c17_1.heap d := by
  replace h : c17_1_rd a K = some d := h
  unfold c17_1_rd at h
  split at h
  case h_2 => cases h
  split at h
  case h_2 => cases h
  split at h
  case h_2 => cases h
  rename_i hr hd
  obtain ⟨he, _⟩ := rd8_eq hr
  have ht := (List.take_append_drop 320 _).symm.trans (congr (congrArg HAppend.hAppend he) hd)
  subst ht
  injection h with h; subst h
  exact ⟨rfl, rfl⟩
theorem c17_1_ok : SpecOk Try.prog noGlob 17 c17_1.spec := by
  refine c17_1.ok (goB_ok spD1_ok (s17_ok _)) c17_1_read ?_
  rintro ⟨e, dst, src, od, nd, os, ns⟩ hg
  have hg : os + ns ≤ src.n ∧ od + nd ≤ dst.n ∧ ns % 4 = 0 ∧ nd * 4 = ns * 3 ∧ 4 ≤ ns ∧ ns ≤ 1000000 ∧ (∀ k, k < ns - 2 → (dx e src (os + k)).toNat < 64) ∧ dx e src (os + (ns - 2)) = 255#8 ∧ src.l.getD (os + (ns - 2)) 0#8 = 61#8 ∧ src.l.getD (os + (ns - 1)) 0#8 = 61#8 := of_decide_eq_true hg
  have eo : c17_1.out ⟨e, dst, src, od, nd, os, ns⟩ = [⟨(.gen ([] ++ c8v (cp ((M17 (A17 e dst src od nd os ns) src)).e) 320 ++ [(.num (.int .i32 (.c 61))), (.atom (.bool (.c false)))])), .own⟩, ⟨(.b8 (end1 (cp ((M17 (A17 e dst src od nd os ns) src)).e) ((M17 (A17 e dst src od nd os ns) src)).dst src (((M17 (A17 e dst src od nd os ns) src)).od + ((M17 (A17 e dst src od nd os ns) src)).n.toNat) ((M17 (A17 e dst src od nd os ns) src)).os ((M17 (A17 e dst src od nd os ns) src)).si)), .own⟩, ⟨(.b8 src), .ro⟩] := by
    rw [M17_eq e dst src od nd os ns (by omega) (by omega)]
    rfl
  have ev : c17_1.val ⟨e, dst, src, od, nd, os, ns⟩ = (.obj .tup [(.num (.int .i64 (.s (((M17 (A17 e dst src od nd os ns) src)).n + 1)))), (.atom .nili)]) := by
    rw [M17_eq e dst src od nd os ns (by omega) (by omega)]
    rfl
  rw [eo, ev]
  refine ⟨[false, true, false], (some [0, 1, 2]), _, c17_1_run e dst src od nd os ns, ?_⟩
  obtain ⟨g1, g2, g3, g4, g5, g6, g7, g8, g9, g10⟩ := hg
  have hz := M17_eq e dst src od nd os ns g3 g5
  have ha := A17_eq e dst src od nd os ns
  generalize M17 (A17 e dst src od nd os ns) src = M at hz ⊢
  subst hz
  generalize A17 e dst src od nd os ns = A at ha ⊢
  subst ha
  have y1 : c22_1.good ⟨cp (cp e), decB e src od os ns dst, src, od + (((3 * (ns / 4 - 1) : Nat) : Int)).toNat, ((nd : Nat) : Int).toNat - (((3 * (ns / 4 - 1) : Nat) : Int)).toNat, os, ns, ((ns - 4 : Nat) : Int)⟩ = true := decide_eq_true ⟨by omega, by rw [decB_n]; omega, by omega, by omega, by omega, by omega, by rw [dx_cp, dx_cp, show os + (((ns - 4 : Nat) : Int)).toNat * 1 = os + (ns - 4) by omega]; exact ne255 (g7 _ (by omega)), by rw [dx_cp, dx_cp, show os + (((ns - 4 : Nat) : Int) + 1).toNat * 1 = os + (ns - 3) by omega]; exact ne255 (g7 _ (by omega)), by rw [show os + (((ns - 4 : Nat) : Int) + 1 + 1).toNat * 1 = os + (ns - 2) by omega]; exact g9, by rw [dx_cp, dx_cp, show os + (((ns - 4 : Nat) : Int) + 1 + 1).toNat * 1 = os + (ns - 2) by omega]; exact g8, by rw [show os + (((ns - 4 : Nat) : Int) + 1 + 1 + 1).toNat * 1 = os + (ns - 1) by omega]; exact g10⟩
  have y2 : m17.good ⟨cp (cp e), decA e src od os ((ns / 4 - 1) / 2) dst, src, od, nd, os, ns, ((6 * ((ns / 4 - 1) / 2) : Nat) : Int), ((8 * ((ns / 4 - 1) / 2) : Nat) : Int)⟩ = true := decide_eq_true ⟨by omega, by rw [decA_n]; omega, by omega, by omega, by omega, by omega, by omega, by omega, by omega, fun k hk => by rw [dx_cp, dx_cp]; exact g7 k (by omega)⟩
  have y3 : a17.good ⟨cp e, dst, src, od, nd, os, ns, 0, 0⟩ = true := decide_eq_true ⟨by omega, by omega, by omega, by omega, by omega, by omega, by omega, by omega, by omega, fun k hk => by rw [dx_cp]; exact g7 k (by omega)⟩
  repeat' (refine all_true_cons ?_ ?_)
  all_goals first | exact all_true_nil | (simp only [Bool.and_eq_true, decide_eq_true_eq, beq_iff_eq, beq_true, beq_false, Bool.not_eq_true', decide_eq_false_iff_not, beq_eq_false_iff_ne, ne_eq, Bool.not_eq_false', bne_iff_ne, true_and, and_true] <;> omega) | exact y1 | exact y2 | exact y3
def spD2 : FuncId → Option Eng.Spec
  | 22 => some c22_2.spec
  | _ => none
theorem spD2_ok : ∀ f sp, spD2 f = some sp → SpecOk Try.prog noGlob f sp := by
  intro f sp h
  unfold spD2 at h
  split at h
  · injection h with h; subst h; exact c22_2_ok
  · cases h
structure c17_2D where
  e : Vec 8
  dst : Vec 8
  src : Vec 8
  od : Nat
  nd : Nat
  os : Nat
  ns : Nat
def c17_2_rd (a : List AV) (K : List Blk) : Option c17_2D :=
    match a with
    | [(.ref (.ptr 0 (.c 0))), (.ref (.sl 1 (.s od) (.s nd) none)), (.ref (.sl 2 (.s os) (.s ns) none))] =>
      match K with
      | [⟨(.gen (ys_e)), .own⟩, ⟨(.b8 dst), .own⟩, ⟨(.b8 src), .ro⟩] => 
        (match rd8 320 (ys_e.take 320), ys_e.drop 320 with
        | some e, [(.num (.int .i32 (.c 61))), (.atom (.bool (.c false)))] => some ⟨e, dst, src, od, nd, os, ns⟩
        | _, _ => none)
      | _ => none
    | _ => none
def c17_2 : Ct c17_2D where
  pat := [(.ref (.ptr 0 (.c 0))), (.ref (.sl 1 (.s 0) (.s 0) none)), (.ref (.sl 2 (.s 0) (.s 0) none))]
  patH := [⟨(.gen ([] ++ List.replicate 320 (.num (.w8 0#8)) ++ [(.num (.int .i32 (.c 61))), (.atom (.bool (.c false)))])), .own⟩, ⟨(.b8 (Vec.zero 8 0)), .own⟩, ⟨(.b8 (Vec.zero 8 0)), .ro⟩]
  read := c17_2_rd
  args := fun ⟨_, _, _, od, nd, os, ns⟩ => [(.ref (.ptr 0 (.c 0))), (.ref (.sl 1 (.s od) (.s nd) none)), (.ref (.sl 2 (.s os) (.s ns) none))]
  heap := fun ⟨e, dst, src, _, _, _, _⟩ => [⟨(.gen ([] ++ c8v e 320 ++ [(.num (.int .i32 (.c 61))), (.atom (.bool (.c false)))])), .own⟩, ⟨(.b8 dst), .own⟩, ⟨(.b8 src), .ro⟩]
  out := fun ⟨e, dst, src, od, _, os, ns⟩ => [⟨(.gen ([] ++ c8v (cp (cp e)) 320 ++ [(.num (.int .i32 (.c 61))), (.atom (.bool (.c false)))])), .own⟩, ⟨(.b8 (end2 (cp (cp e)) (decB e src od os ns dst) src (od + (((3 * (ns / 4 - 1) : Nat) : Int)).toNat) os ((ns - 4 : Nat) : Int))), .own⟩, ⟨(.b8 src), .ro⟩]
  val := fun ⟨_, _, _, _, _, _, ns⟩ => (.obj .tup [(.num (.int .i64 (.s (((3 * (ns / 4 - 1) : Nat) : Int) + 2)))), (.atom .nili)])
  good := fun ⟨e, dst, src, od, nd, os, ns⟩ => decide (os + ns ≤ src.n ∧ od + nd ≤ dst.n ∧ ns % 4 = 0 ∧ nd * 4 = ns * 3 ∧ 4 ≤ ns ∧ ns ≤ 1000000 ∧ (∀ k, k < ns - 1 → (dx e src (os + k)).toNat < 64) ∧ dx e src (os + (ns - 1)) = 255#8 ∧ src.l.getD (os + (ns - 1)) 0#8 = 61#8 ∧ True)
theorem c17_2_run (e dst src : Vec 8) (od nd os ns : Nat) : endsAs (c17_2.heap ⟨e, dst, src, od, nd, os, ns⟩).length (some [0, 1, 2]) [⟨(.gen ([] ++ c8v (cp ((M17 (A17 e dst src od nd os ns) src)).e) 320 ++ [(.num (.int .i32 (.c 61))), (.atom (.bool (.c false)))])), .own⟩, ⟨(.b8 (end2 (cp ((M17 (A17 e dst src od nd os ns) src)).e) ((M17 (A17 e dst src od nd os ns) src)).dst src (((M17 (A17 e dst src od nd os ns) src)).od + ((M17 (A17 e dst src od nd os ns) src)).n.toNat) ((M17 (A17 e dst src od nd os ns) src)).os ((M17 (A17 e dst src od nd os ns) src)).si)), .own⟩, ⟨(.b8 src), .ro⟩] (.obj .tup [(.num (.int .i64 (.s (((M17 (A17 e dst src od nd os ns) src)).n + 2)))), (.atom .nili)]) (goB spD2 s17 17 (c17_2.args ⟨e, dst, src, od, nd, os, ns⟩) ⟨c17_2.heap ⟨e, dst, src, od, nd, os, ns⟩, big, [false, true, false], []⟩) = some ([⟨(.gen ([] ++ c8v (cp ((M17 (A17 e dst src od nd os ns) src)).e) 320 ++ [(.num (.int .i32 (.c 61))), (.atom (.bool (.c false)))])), .own⟩, ⟨(.b8 (end2 (cp ((M17 (A17 e dst src od nd os ns) src)).e) ((M17 (A17 e dst src od nd os ns) src)).dst src (((M17 (A17 e dst src od nd os ns) src)).od + ((M17 (A17 e dst src od nd os ns) src)).n.toNat) ((M17 (A17 e dst src od nd os ns) src)).os ((M17 (A17 e dst src od nd os ns) src)).si)), .own⟩, ⟨(.b8 src), .ro⟩], (.obj .tup [(.num (.int .i64 (.s (((M17 (A17 e dst src od nd os ns) src)).n + 2)))), (.atom .nili)]), [(decide (((((((M17 (A17 e dst src od nd os ns) src)).si + 1) + 1) + 1) + 1) < ((((M17 (A17 e dst src od nd os ns) src)).ns : Nat) : Int)) == false), decide (((-9223372036854775808) ≤ (((M17 (A17 e dst src od nd os ns) src)).n + 2) ∧ (((M17 (A17 e dst src od nd os ns) src)).n + 2) ≤ 9223372036854775807)), (c22_2.good ⟨cp (M17 (A17 e dst src od nd os ns) src).e, (M17 (A17 e dst src od nd os ns) src).dst, src, (M17 (A17 e dst src od nd os ns) src).od + (M17 (A17 e dst src od nd os ns) src).n.toNat, (((M17 (A17 e dst src od nd os ns) src).nd : Nat) : Int).toNat - (M17 (A17 e dst src od nd os ns) src).n.toNat, (M17 (A17 e dst src od nd os ns) src).os, (M17 (A17 e dst src od nd os ns) src).ns, (M17 (A17 e dst src od nd os ns) src).si⟩), ((decide ((0 : Int) ≤ ((M17 (A17 e dst src od nd os ns) src)).n) && decide (((M17 (A17 e dst src od nd os ns) src)).n ≤ ((((M17 (A17 e dst src od nd os ns) src)).nd : Nat) : Int))) && decide (((((M17 (A17 e dst src od nd os ns) src)).nd : Nat) : Int) ≤ ((((M17 (A17 e dst src od nd os ns) src)).nd : Nat) : Int))), (decide (((M17 (A17 e dst src od nd os ns) src)).si < ((((M17 (A17 e dst src od nd os ns) src)).ns : Nat) : Int)) == true), (m17.good ⟨cp (A17 e dst src od nd os ns).e, (A17 e dst src od nd os ns).dst, src, (A17 e dst src od nd os ns).od, (A17 e dst src od nd os ns).nd, (A17 e dst src od nd os ns).os, (A17 e dst src od nd os ns).ns, (A17 e dst src od nd os ns).n, (A17 e dst src od nd os ns).si⟩), (a17.good ⟨cp e, dst, src, od, nd, os, ns, 0, 0⟩), ((((ns : Nat) : Int) == 0) == false)]) := by kernel_rfl
set_option maxRecDepth 100000 in
theorem c17_2_read (a : List AV) (K : List Blk) (d : c17_2D) (h : c17_2.read a K = some d) : a = c17_2.args d ∧ K = c17_2.heap d := by
  replace h : c17_2_rd a K = some d := h
  unfold c17_2_rd at h
  split at h
  case h_2 => cases h
  split at h
  case h_2 => cases h
  split at h
  case h_2 => cases h
  rename_i hr hd
  obtain ⟨he, _⟩ := rd8_eq hr
  have ht := (List.take_append_drop 320 _).symm.trans (congr (congrArg HAppend.hAppend he) hd)
  subst ht
  injection h with h; subst h
  exact ⟨rfl, rfl⟩
theorem c17_2_ok : SpecOk Try.prog noGlob 17 c17_2.spec := by
  refine c17_2.ok (goB_ok spD2_ok (s17_ok _)) c17_2_read ?_
  rintro ⟨e, dst, src, od, nd, os, ns⟩ hg
  have hg : os + ns ≤ src.n ∧ od + nd ≤ dst.n ∧ ns % 4 = 0 ∧ nd * 4 = ns * 3 ∧ 4 ≤ ns ∧ ns ≤ 1000000 ∧ (∀ k, k < ns - 1 → (dx e src (os + k)).toNat < 64) ∧ dx e src (os + (ns - 1)) = 255#8 ∧ src.l.getD (os + (ns - 1)) 0#8 = 61#8 ∧ True := of_decide_eq_true hg
  have eo : c17_2.out ⟨e, dst, src, od, nd, os, ns⟩ = [⟨(.gen ([] ++ c8v (cp ((M17 (A17 e dst src od nd os ns) src)).e) 320 ++ [(.num (.int .i32 (.c 61))), (.atom (.bool (.c false)))])), .own⟩, ⟨(.b8 (end2 (cp ((M17 (A17 e dst src od nd os ns) src)).e) ((M17 (A17 e dst src od nd os ns) src)).dst src (((M17 (A17 e dst src od nd os ns) src)).od + ((M17 (A17 e dst src od nd os ns) src)).n.toNat) ((M17 (A17 e dst src od nd os ns) src)).os ((M17 (A17 e dst src od nd os ns) src)).si)), .own⟩, ⟨(.b8 src), .ro⟩] := by
    rw [M17_eq e dst src od nd os ns (by omega) (by omega)]
    rfl
  have ev : c17_2.val ⟨e, dst, src, od, nd, os, ns⟩ = (.obj .tup [(.num (.int .i64 (.s (((M17 (A17 e dst src od nd os ns) src)).n + 2)))), (.atom .nili)]) := by
    rw [M17_eq e dst src od nd os ns (by omega) (by omega)]
    rfl
  rw [eo, ev]
  refine ⟨[false, true, false], (some [0, 1, 2]), _, c17_2_run e dst src od nd os ns, ?_⟩
  obtain ⟨g1, g2, g3, g4, g5, g6, g7, g8, g9, g10⟩ := hg
  have hz := M17_eq e dst src od nd os ns g3 g5
  have ha := A17_eq e dst src od nd os ns
  generalize M17 (A17 e dst src od nd os ns) src = M at hz ⊢
  subst hz
  generalize A17 e dst src od nd os ns = A at ha ⊢
  subst ha
  have y1 : c22_2.good ⟨cp (cp e), decB e src od os ns dst, src, od + (((3 * (ns / 4 - 1) : Nat) : Int)).toNat, ((nd : Nat) : Int).toNat - (((3 * (ns / 4 - 1) : Nat) : Int)).toNat, os, ns, ((ns - 4 : Nat) : Int)⟩ = true := decide_eq_true ⟨by omega, by rw [decB_n]; omega, by omega, by omega, by omega, by omega, by rw [dx_cp, dx_cp, show os + (((ns - 4 : Nat) : Int)).toNat * 1 = os + (ns - 4) by omega]; exact ne255 (g7 _ (by omega)), by rw [dx_cp, dx_cp, show os + (((ns - 4 : Nat) : Int) + 1).toNat * 1 = os + (ns - 3) by omega]; exact ne255 (g7 _ (by omega)), by rw [dx_cp, dx_cp, show os + (((ns - 4 : Nat) : Int) + 1 + 1).toNat * 1 = os + (ns - 2) by omega]; exact ne255 (g7 _ (by omega)), by rw [show os + (((ns - 4 : Nat) : Int) + 1 + 1 + 1).toNat * 1 = os + (ns - 1) by omega]; exact g9, by rw [dx_cp, dx_cp, show os + (((ns - 4 : Nat) : Int) + 1 + 1 + 1).toNat * 1 = os + (ns - 1) by omega]; exact g8⟩
  have y2 : m17.good ⟨cp (cp e), decA e src od os ((ns / 4 - 1) / 2) dst, src, od, nd, os, ns, ((6 * ((ns / 4 - 1) / 2) : Nat) : Int), ((8 * ((ns / 4 - 1) / 2) : Nat) : Int)⟩ = true := decide_eq_true ⟨by omega, by rw [decA_n]; omega, by omega, by omega, by omega, by omega, by omega, by omega, by omega, fun k hk => by rw [dx_cp, dx_cp]; exact g7 k (by omega)⟩
  have y3 : a17.good ⟨cp e, dst, src, od, nd, os, ns, 0, 0⟩ = true := decide_eq_true ⟨by omega, by omega, by omega, by omega, by omega, by omega, by omega, by omega, by omega, fun k hk => by rw [dx_cp]; exact g7 k (by omega)⟩
  repeat' (refine all_true_cons ?_ ?_)
  all_goals first | exact all_true_nil | (simp only [Bool.and_eq_true, decide_eq_true_eq, beq_iff_eq, beq_true, beq_false, Bool.not_eq_true', decide_eq_false_iff_not, beq_eq_false_iff_ne, ne_eq, Bool.not_eq_false', bne_iff_ne, true_and, and_true] <;> omega) | exact y1 | exact y2 | exact y3
end Go.Proofs.Ytlelgligkkegnaa

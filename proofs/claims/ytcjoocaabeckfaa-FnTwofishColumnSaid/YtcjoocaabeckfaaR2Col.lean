/- A column of the matrix times a byte: the package's and the reference's, as contracts of any column from 0 to 3. -/
import Derived.Test.YtcjoocaabeckfaaR2GfP
import Derived.Test.YtcjoocaabeckfaaR2Once
namespace Go.Proofs.Ytcjoocaabeckfaa
open Go.Eng
def specsC : FuncId → Option Eng.Spec
  | 43 => some sp43
  | 58 => some sp58
  | _ => none
theorem specsC_ok : ∀ f sp, specsC f = some sp → SpecOk Try.prog noGlob f sp := by
  intro f sp h
  unfold specsC at h
  split at h
  · injection h with h; subst h; exact ok43
  · injection h with h; subst h; exact ok58
  · cases h
def col0 (b : BitVec 8) : BitVec 32 := ((((b.setWidth 32) ||| (((gf b 91#8 361#32).setWidth 32) <<< 8)) ||| (((gf b 239#8 361#32).setWidth 32) <<< 16)) ||| (((gf b 239#8 361#32).setWidth 32) <<< 24))
def col1 (b : BitVec 8) : BitVec 32 := (((((gf b 239#8 361#32).setWidth 32) ||| (((gf b 239#8 361#32).setWidth 32) <<< 8)) ||| (((gf b 91#8 361#32).setWidth 32) <<< 16)) ||| ((b.setWidth 32) <<< 24))
def col2 (b : BitVec 8) : BitVec 32 := (((((gf b 91#8 361#32).setWidth 32) ||| (((gf b 239#8 361#32).setWidth 32) <<< 8)) ||| ((b.setWidth 32) <<< 16)) ||| (((gf b 239#8 361#32).setWidth 32) <<< 24))
def col3 (b : BitVec 8) : BitVec 32 := (((((gf b 91#8 361#32).setWidth 32) ||| ((b.setWidth 32) <<< 8)) ||| (((gf b 239#8 361#32).setWidth 32) <<< 16)) ||| (((gf b 91#8 361#32).setWidth 32) <<< 24))
def colI (b : BitVec 8) (z : Int) : BitVec 32 := if z = 0 then col0 b else if z = 1 then col1 b else if z = 2 then col2 b else col3 b
theorem run31_0 (b : BitVec 8) (z : Int) : endsAs 0 (some []) [] (.w32 (col0 b)) (goB specsC noLoop 31 [.w8 b, .int .i64 (.s z)] ⟨[], big, [true], []⟩) = some ([], (.w32 (col0 b)), [((z == 0) == true), decide (((256 : Nat) ≤ ((361#32)).toNat ∧ ((361#32)).toNat < 512)), decide (((256 : Nat) ≤ ((361#32)).toNat ∧ ((361#32)).toNat < 512))]) := by kernel_rfl
theorem run31_1 (b : BitVec 8) (z : Int) : endsAs 0 (some []) [] (.w32 (col1 b)) (goB specsC noLoop 31 [.w8 b, .int .i64 (.s z)] ⟨[], big, [false, true], []⟩) = some ([], (.w32 (col1 b)), [((z == 1) == true), ((z == 0) == false), decide (((256 : Nat) ≤ ((361#32)).toNat ∧ ((361#32)).toNat < 512)), decide (((256 : Nat) ≤ ((361#32)).toNat ∧ ((361#32)).toNat < 512))]) := by kernel_rfl
theorem run31_2 (b : BitVec 8) (z : Int) : endsAs 0 (some []) [] (.w32 (col2 b)) (goB specsC noLoop 31 [.w8 b, .int .i64 (.s z)] ⟨[], big, [false, false, true], []⟩) = some ([], (.w32 (col2 b)), [((z == 2) == true), ((z == 1) == false), ((z == 0) == false), decide (((256 : Nat) ≤ ((361#32)).toNat ∧ ((361#32)).toNat < 512)), decide (((256 : Nat) ≤ ((361#32)).toNat ∧ ((361#32)).toNat < 512))]) := by kernel_rfl
theorem run31_3 (b : BitVec 8) (z : Int) : endsAs 0 (some []) [] (.w32 (col3 b)) (goB specsC noLoop 31 [.w8 b, .int .i64 (.s z)] ⟨[], big, [false, false, false, true], []⟩) = some ([], (.w32 (col3 b)), [((z == 3) == true), ((z == 2) == false), ((z == 1) == false), ((z == 0) == false), decide (((256 : Nat) ≤ ((361#32)).toNat ∧ ((361#32)).toNat < 512)), decide (((256 : Nat) ≤ ((361#32)).toNat ∧ ((361#32)).toNat < 512))]) := by kernel_rfl
/-- The four bytes that the reference multiplies. -/
def ys (b : BitVec 8) (z : Int) (k : Nat) : BitVec 8 := ((Vec.of [0#8, 0#8, 0#8, 0#8]).set (0 + z.toNat * 1) b).l.getD k 0#8
def row0 (y : Nat → BitVec 8) : BitVec 8 := ((((0#8 ^^^ po 1#8 (y 0) 361) ^^^ po 239#8 (y 1) 361) ^^^ po 91#8 (y 2) 361) ^^^ po 91#8 (y 3) 361)
def row1 (y : Nat → BitVec 8) : BitVec 8 := ((((0#8 ^^^ po 91#8 (y 0) 361) ^^^ po 239#8 (y 1) 361) ^^^ po 239#8 (y 2) 361) ^^^ po 1#8 (y 3) 361)
def row2 (y : Nat → BitVec 8) : BitVec 8 := ((((0#8 ^^^ po 239#8 (y 0) 361) ^^^ po 91#8 (y 1) 361) ^^^ po 1#8 (y 2) 361) ^^^ po 239#8 (y 3) 361)
def row3 (y : Nat → BitVec 8) : BitVec 8 := ((((0#8 ^^^ po 239#8 (y 0) 361) ^^^ po 1#8 (y 1) 361) ^^^ po 239#8 (y 2) 361) ^^^ po 91#8 (y 3) 361)
def spread (y : Nat → BitVec 8) : BitVec 32 := ((((0#32 ||| (row0 y).setWidth 32 <<< 0) ||| (row1 y).setWidth 32 <<< 8) ||| (row2 y).setWidth 32 <<< 16) ||| (row3 y).setWidth 32 <<< 24)
theorem run32 (b : BitVec 8) (z : Int) : endsAs 0 (some []) [] (.w32 (spread (ys b z))) (goB specsC noLoop 32 [.w8 b, .int .i64 (.s z)] ⟨[], big, [], []⟩) = some ([], (.w32 (spread (ys b z))), [decide (((256 : Nat) ≤ 361 ∧ (361 : Nat) < 512)), decide (((256 : Nat) ≤ 361 ∧ (361 : Nat) < 512)), decide (((256 : Nat) ≤ 361 ∧ (361 : Nat) < 512)), decide (((256 : Nat) ≤ 361 ∧ (361 : Nat) < 512)), decide (((256 : Nat) ≤ 361 ∧ (361 : Nat) < 512)), decide (((256 : Nat) ≤ 361 ∧ (361 : Nat) < 512)), decide (((256 : Nat) ≤ 361 ∧ (361 : Nat) < 512)), decide (((256 : Nat) ≤ 361 ∧ (361 : Nat) < 512)), decide (((256 : Nat) ≤ 361 ∧ (361 : Nat) < 512)), decide (((256 : Nat) ≤ 361 ∧ (361 : Nat) < 512)), decide (((256 : Nat) ≤ 361 ∧ (361 : Nat) < 512)), decide (((256 : Nat) ≤ 361 ∧ (361 : Nat) < 512)), decide (((256 : Nat) ≤ 361 ∧ (361 : Nat) < 512)), decide (((256 : Nat) ≤ 361 ∧ (361 : Nat) < 512)), decide (((256 : Nat) ≤ 361 ∧ (361 : Nat) < 512)), decide (((256 : Nat) ≤ 361 ∧ (361 : Nat) < 512)), decide ((0 + (((z) : Int).toNat * 1)) < 4), (decide ((0 : Int) ≤ z) && decide (z < ((4 : Nat) : Int)))]) := by kernel_rfl
def spCol (F : BitVec 8 → Int → BitVec 32) : Eng.Spec := fun args H dec =>
  match args with
  | [v0, .num (.int .i64 z)] =>
    match H with
    | [] =>
      match v0.bv8 with
      | some b => some ⟨.w32 (F b z.v), [], dec, [decide (0 ≤ z.v ∧ z.v < 4)]⟩
      | _ => none
    | _ => none
  | _ => none
theorem okCol {f : FuncId} {F : BitVec 8 → Int → BitVec 32} (h : ∀ b z, 0 ≤ z → z < 4 → ∃ dec' cs, endsAs 0 (some []) [] (.w32 (F b z)) (goB specsC noLoop f [.w8 b, .int .i64 (.s z)] ⟨[], big, dec', []⟩) = some ([], .w32 (F b z), cs) ∧ ∀ x ∈ cs, x = true) :
    SpecOk Try.prog noGlob f (spCol F) := by
  refine SpecOk.ends (goB_ok specsC_ok (no_loops _)) (fun args H dec r hr hc => ?_) (fun args H dec r hr i k hk hm => ?_)
  · unfold spCol at hr
    split at hr
    case h_2 => cases hr
    split at hr
    case h_2 => cases hr
    split at hr
    case h_2 => cases hr
    rename_i b h1
    rename_i z
    injection hr with hr; subst hr
    have hd := of_decide_eq_true (hc _ (List.mem_singleton.2 rfl))
    obtain ⟨dec', cs, e, k⟩ := h b _ hd.1 hd.2
    refine ⟨[.w8 b, .int .i64 (.s 0)], [], _, _, dec', some [], _, _, ?_, rfl, e, k, rfl⟩
    simp only [wkL, wkV, wk_w8 h1]
    simp only [cV, cNum]
  · unfold spCol at hr
    split at hr
    case h_2 => cases hr
    split at hr
    case h_2 => cases hr
    split at hr
    case h_2 => cases hr
    injection hr with hr; subst hr
    simp at hk
theorem ok31 : SpecOk Try.prog noGlob 31 (spCol colI) := okCol fun b z h0 h4 => by
  have hz : z = 0 ∨ z = 1 ∨ z = 2 ∨ z = 3 := by omega
  rcases hz with rfl | rfl | rfl | rfl
  · exact ⟨_, _, run31_0 b 0, by repeat' (first | exact all_true_nil | refine all_true_cons (by decide) ?_)⟩
  · exact ⟨_, _, run31_1 b 1, by repeat' (first | exact all_true_nil | refine all_true_cons (by decide) ?_)⟩
  · exact ⟨_, _, run31_2 b 2, by repeat' (first | exact all_true_nil | refine all_true_cons (by decide) ?_)⟩
  · exact ⟨_, _, run31_3 b 3, by repeat' (first | exact all_true_nil | refine all_true_cons (by decide) ?_)⟩
def colS (b : BitVec 8) (z : Int) : BitVec 32 := spread (ys b z)
theorem ok32 : SpecOk Try.prog noGlob 32 (spCol colS) := okCol fun b z h0 h4 => by
  refine ⟨_, _, run32 b z, ?_⟩
  repeat' (refine all_true_cons ?_ ?_)
  all_goals first | exact all_true_nil | decide | (simp only [Bool.and_eq_true, decide_eq_true_eq]; omega)
theorem gf_zero (b : BitVec 8) : gf 0#8 b 361#32 = 0#8 := by
  have := gf_a 361#32 0#8 b 0#8
  rw [BitVec.xor_self, BitVec.xor_self] at this
  exact this
theorem po_zero (m : BitVec 8) : po m 0#8 361 = 0#8 := by rw [po_gf m 0#8 361 (by omega) (by omega)]; exact gf_zero m
theorem po_one (b : BitVec 8) : po 1#8 b 361 = b := by rw [po_gf 1#8 b 361 (by omega) (by omega)]; exact gf_one one361 b
theorem po_col (m b : BitVec 8) : po m b 361 = gf b m 361#32 := po_gf m b 361 (by omega) (by omega)
theorem col_eq (b : BitVec 8) (z : Int) (h0 : 0 ≤ z) (h4 : z < 4) : colI b z = colS b z := by
  have hz : z = 0 ∨ z = 1 ∨ z = 2 ∨ z = 3 := by omega
  rcases hz with rfl | rfl | rfl | rfl
  · show col0 b = spread (ys b 0)
    have y0 : ys b 0 0 = b := rfl
    have y1 : ys b 0 1 = 0#8 := rfl
    have y2 : ys b 0 2 = 0#8 := rfl
    have y3 : ys b 0 3 = 0#8 := rfl
    simp only [spread, row0, row1, row2, row3, y0, y1, y2, y3, po_col, gf_zero, gf_one one361, BitVec.xor_zero, BitVec.zero_xor, BitVec.zero_or, BitVec.shiftLeft_zero, col0]
  · show col1 b = spread (ys b 1)
    have y0 : ys b 1 0 = 0#8 := rfl
    have y1 : ys b 1 1 = b := rfl
    have y2 : ys b 1 2 = 0#8 := rfl
    have y3 : ys b 1 3 = 0#8 := rfl
    simp only [spread, row0, row1, row2, row3, y0, y1, y2, y3, po_col, gf_zero, gf_one one361, BitVec.xor_zero, BitVec.zero_xor, BitVec.zero_or, BitVec.shiftLeft_zero, col1]
  · show col2 b = spread (ys b 2)
    have y0 : ys b 2 0 = 0#8 := rfl
    have y1 : ys b 2 1 = 0#8 := rfl
    have y2 : ys b 2 2 = b := rfl
    have y3 : ys b 2 3 = 0#8 := rfl
    simp only [spread, row0, row1, row2, row3, y0, y1, y2, y3, po_col, gf_zero, gf_one one361, BitVec.xor_zero, BitVec.zero_xor, BitVec.zero_or, BitVec.shiftLeft_zero, col2]
  · show col3 b = spread (ys b 3)
    have y0 : ys b 3 0 = 0#8 := rfl
    have y1 : ys b 3 1 = 0#8 := rfl
    have y2 : ys b 3 2 = 0#8 := rfl
    have y3 : ys b 3 3 = b := rfl
    simp only [spread, row0, row1, row2, row3, y0, y1, y2, y3, po_col, gf_zero, gf_one one361, BitVec.xor_zero, BitVec.zero_xor, BitVec.zero_or, BitVec.shiftLeft_zero, col3]
end Go.Proofs.Ytcjoocaabeckfaa

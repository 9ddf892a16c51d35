/- Contracts of TEA, the package's and the reference's. -/
import Derived.Test.YtcjoocaabeckfaaR2Xtea
import Derived.Test.YtcjoocaabeckfaaTeaP
namespace Go.Proofs.Ytcjoocaabeckfaa
open Go.Eng
structure TeaD where
  (k : TeaK)
  (t : TeaS)
  (n i : Int)
def TeaD.good (d : TeaD) : Bool := decide (0 ≤ d.i ∧ d.i ≤ d.n.tdiv 2 ∧ 0 ≤ d.n ∧ d.n ≤ 4096)
def gold : BitVec 32 := 2654435769#32
def kGold (k : TeaK) : TeaK := ⟨k.k0, k.k1, k.k2, k.k3, gold⟩
def u4 : List AV := [.undef, .undef, .undef, .undef]
def dead : Blk := ⟨.gen [], .dead⟩
def tCells (n : Int) : List AV := u4 ++ u4 ++ u4 ++ u4 ++ [.int .i64 (.s n)]
/-- The last of 17 cells. -/
def last17 (d : Eng.Data) : Option Int :=
  match d with
  | .gen [_, _, _, _, _, _, _, _, _, _, _, _, _, _, _, _, .num (.int .i64 z)] => some z.v
  | _ => none
theorem last17_fit {d : Eng.Data} {n : Int} (h : last17 d = some n) : cD (.gen (tCells n)) d = some (.gen (tCells n)) := by
  unfold last17 at h
  split at h
  · injection h with h; subst h; rfl
  · cases h

def stE (d : TeaD) : Fr × List Blk := (⟨[.ptr 0 (.c 0), .sl 1 (.c 0) (.c 8) (some (.c 8)), .undef, .undef, .undef, .undef, .ptr 3 (.c 0), .w32 d.t.x, .w32 d.t.y, .w32 d.k.k0, .w32 d.k.k1, .w32 d.k.k2, .w32 d.k.k3, .w32 d.t.s, .w32 d.k.dl, .int .i64 (.s d.i)], []⟩, [⟨.gen (tCells d.n), .ro⟩, dead, dead, dead, dead, dead, dead, dead, dead, dead])
def nextE (d : TeaD) : TeaD := ⟨d.k, tE d.k d.t, d.n, d.i + 1⟩
def parseE (F : Fr) (H : List Blk) : Option TeaD :=
  match F.vars with
  | [.ref (.ptr 0 (.c 0)), .ref (.sl 1 (.c 0) (.c 8) (some (.c 8))), _, _, _, _, .ref (.ptr 3 (.c 0)), v7, v8, v9, v10, v11, v12, v13, v14, .num (.int .i64 i)] =>
    match H with
    | [⟨d0, m0⟩, _, _, _, _, _, _, _, _, _] =>
      match last17 d0, isDead m0 with
      | some n, false =>
        match v7.bv32, v8.bv32, v9.bv32, v10.bv32, v11.bv32, v12.bv32, v13.bv32, v14.bv32 with
        | some x, some y, some k0, some k1, some k2, some k3, some s, some dl => some ⟨⟨k0, k1, k2, k3, dl⟩, ⟨x, y, s⟩, n, i.v⟩
        | _, _, _, _, _, _, _, _ => none
      | _, _ => none
    | _ => none
  | _ => none
theorem parseE_in (F : Fr) (H : List Blk) (d : TeaD) (h : parseE F H = some d) : wkF none (stE d).1 F = some (stE d).1 ∧ cH (stE d).2 (H ++ []) = some (stE d).2 := by
  unfold parseE at h
  split at h
  case h_2 => cases h
  rename_i hv
  split at h
  case h_2 => cases h
  split at h
  case h_2 => cases h
  rename_i h1 h2
  split at h
  case h_2 => cases h
  rename_i a1 a2 a3 a4 a5 a6 a7 a8
  injection h with h; subst h
  constructor
  · simp only [wkF, hv, stE, wkL, wkV, cV, cNum, a1, a2, a3, a4, a5, a6, a7, a8, Option.map_some]; rfl
  · rcases isDead_mode h2 with rfl | rfl <;> simp only [stE, List.append_nil, cH, cB, last17_fit h1, dead]
def TE : LoopT TeaD where
  parse := parseE
  gh := []
  st := stE
  next := nextE
  rem d := (d.n.tdiv 2 - d.i).toNat
  good := TeaD.good
  out := .exit 0
  fin := stE
theorem roundE (d : TeaD) : ranAs 10 none (stE (nextE d)) (goL noSpec noLoop 101 0 (stE d).1 ⟨(stE d).2, big, [true], []⟩) = some (.normal, (stE (nextE d)), [decide (((-9223372036854775808) ≤ (d.i + 1) ∧ (d.i + 1) ≤ 9223372036854775807)), (decide (d.i < (Int.tdiv d.n 2)) == true), decide (((0 : Int) ≤ d.n ∧ ((0 : Int) < 2 ∧ d.n ≤ 9223372036854775807)))]) := by kernel_rfl
theorem endE (d : TeaD) : ranAs 10 none (stE d) (goL noSpec noLoop 101 0 (stE d).1 ⟨(stE d).2, big, [false], []⟩) = some ((.exit 0), (stE d), [(decide (d.i < (Int.tdiv d.n 2)) == false), decide (((0 : Int) ≤ d.n ∧ ((0 : Int) < 2 ∧ d.n ≤ 9223372036854775807)))]) := by kernel_rfl

def stD (d : TeaD) : Fr × List Blk := (⟨[.ptr 0 (.c 0), .sl 1 (.c 0) (.c 8) (some (.c 8)), .undef, .undef, .undef, .undef, .ptr 3 (.c 0), .w32 d.t.x, .w32 d.t.y, .w32 d.k.k0, .w32 d.k.k1, .w32 d.k.k2, .w32 d.k.k3, .w32 d.k.dl, .w32 d.t.s, .int .i64 (.s d.i)], []⟩, [⟨.gen (tCells d.n), .ro⟩, dead, dead, dead, dead, dead, dead, dead, dead, dead])
def nextD (d : TeaD) : TeaD := ⟨d.k, tD d.k d.t, d.n, d.i + 1⟩
def parseD (F : Fr) (H : List Blk) : Option TeaD :=
  match F.vars with
  | [.ref (.ptr 0 (.c 0)), .ref (.sl 1 (.c 0) (.c 8) (some (.c 8))), _, _, _, _, .ref (.ptr 3 (.c 0)), v7, v8, v9, v10, v11, v12, v13, v14, .num (.int .i64 i)] =>
    match H with
    | [⟨d0, m0⟩, _, _, _, _, _, _, _, _, _] =>
      match last17 d0, isDead m0 with
      | some n, false =>
        match v7.bv32, v8.bv32, v9.bv32, v10.bv32, v11.bv32, v12.bv32, v14.bv32, v13.bv32 with
        | some x, some y, some k0, some k1, some k2, some k3, some s, some dl => some ⟨⟨k0, k1, k2, k3, dl⟩, ⟨x, y, s⟩, n, i.v⟩
        | _, _, _, _, _, _, _, _ => none
      | _, _ => none
    | _ => none
  | _ => none
theorem parseD_in (F : Fr) (H : List Blk) (d : TeaD) (h : parseD F H = some d) : wkF none (stD d).1 F = some (stD d).1 ∧ cH (stD d).2 (H ++ []) = some (stD d).2 := by
  unfold parseD at h
  split at h
  case h_2 => cases h
  rename_i hv
  split at h
  case h_2 => cases h
  split at h
  case h_2 => cases h
  rename_i h1 h2
  split at h
  case h_2 => cases h
  rename_i a1 a2 a3 a4 a5 a6 a7 a8
  injection h with h; subst h
  constructor
  · simp only [wkF, hv, stD, wkL, wkV, cV, cNum, a1, a2, a3, a4, a5, a6, a7, a8, Option.map_some]; rfl
  · rcases isDead_mode h2 with rfl | rfl <;> simp only [stD, List.append_nil, cH, cB, last17_fit h1, dead]
def TD : LoopT TeaD where
  parse := parseD
  gh := []
  st := stD
  next := nextD
  rem d := (d.n.tdiv 2 - d.i).toNat
  good := TeaD.good
  out := .exit 0
  fin := stD
theorem roundD (d : TeaD) : ranAs 10 none (stD (nextD d)) (goL noSpec noLoop 100 0 (stD d).1 ⟨(stD d).2, big, [true], []⟩) = some (.normal, (stD (nextD d)), [decide (((-9223372036854775808) ≤ (d.i + 1) ∧ (d.i + 1) ≤ 9223372036854775807)), (decide (d.i < (Int.tdiv d.n 2)) == true), decide (((0 : Int) ≤ d.n ∧ ((0 : Int) < 2 ∧ d.n ≤ 9223372036854775807)))]) := by kernel_rfl
theorem endD (d : TeaD) : ranAs 10 none (stD d) (goL noSpec noLoop 100 0 (stD d).1 ⟨(stD d).2, big, [false], []⟩) = some ((.exit 0), (stD d), [(decide (d.i < (Int.tdiv d.n 2)) == false), decide (((0 : Int) ≤ d.n ∧ ((0 : Int) < 2 ∧ d.n ≤ 9223372036854775807)))]) := by kernel_rfl

def stSE (d : TeaD) : Fr × List Blk := (⟨[.undef, .int .i64 (.s d.n), .undef, .undef, .undef, .undef, .ptr 2 (.c 0), .w32 d.t.x, .w32 d.t.y, .ptr 7 (.c 0), .w32 d.t.s, .int .i64 (.s d.i)], []⟩, [dead, dead, dead, dead, dead, dead, dead, ⟨.gen [.w32 d.k.k0, .w32 d.k.k1, .w32 d.k.k2, .w32 d.k.k3], .ro⟩])
def nextSE (d : TeaD) : TeaD := ⟨d.k, tE (kGold d.k) d.t, d.n, d.i + 1⟩
def parseSE (F : Fr) (H : List Blk) : Option TeaD :=
  match F.vars with
  | [_, .num (.int .i64 n), _, _, _, _, .ref (.ptr 2 (.c 0)), v7, v8, .ref (.ptr 7 (.c 0)), v10, .num (.int .i64 i)] =>
    match H with
    | [_, _, _, _, _, _, _, ⟨.gen [c0, c1, c2, c3], m0⟩] =>
      match isDead m0 with
      | false =>
        match v7.bv32, v8.bv32, c0.bv32, c1.bv32, c2.bv32, c3.bv32, v10.bv32 with
        | some x, some y, some k0, some k1, some k2, some k3, some s => some ⟨⟨k0, k1, k2, k3, gold⟩, ⟨x, y, s⟩, n.v, i.v⟩
        | _, _, _, _, _, _, _ => none
      | _ => none
    | _ => none
  | _ => none
theorem parseSE_in (F : Fr) (H : List Blk) (d : TeaD) (h : parseSE F H = some d) : wkF none (stSE d).1 F = some (stSE d).1 ∧ cH (stSE d).2 (H ++ []) = some (stSE d).2 := by
  unfold parseSE at h
  split at h
  case h_2 => cases h
  rename_i hv
  split at h
  case h_2 => cases h
  split at h
  case h_2 => cases h
  rename_i h2
  split at h
  case h_2 => cases h
  rename_i a1 a2 a3 a4 a5 a6 a7
  injection h with h; subst h
  constructor
  · simp only [wkF, hv, stSE, wkL, wkV, cV, cNum, a1, a2, a7, Option.map_some]; rfl
  · rcases isDead_mode h2 with rfl | rfl <;> simp only [stSE, List.append_nil, cH, cB, cD, cL, cV, cNum, a3, a4, a5, a6, Option.map_some, dead]
def TSE : LoopT TeaD where
  parse := parseSE
  gh := []
  st := stSE
  next := nextSE
  rem d := (d.n.tdiv 2 - d.i).toNat
  good := TeaD.good
  out := .exit 0
  fin := stSE
theorem roundSE (d : TeaD) : ranAs 8 none (stSE (nextSE d)) (goL noSpec noLoop 47 0 (stSE d).1 ⟨(stSE d).2, big, [true], []⟩) = some (.normal, (stSE (nextSE d)), [decide (((-9223372036854775808) ≤ (d.i + 1) ∧ (d.i + 1) ≤ 9223372036854775807)), (decide (d.i < (Int.tdiv d.n 2)) == true), decide (((0 : Int) ≤ d.n ∧ ((0 : Int) < 2 ∧ d.n ≤ 9223372036854775807)))]) := by kernel_rfl
theorem endSE (d : TeaD) : ranAs 8 none (stSE d) (goL noSpec noLoop 47 0 (stSE d).1 ⟨(stSE d).2, big, [false], []⟩) = some ((.exit 0), (stSE d), [(decide (d.i < (Int.tdiv d.n 2)) == false), decide (((0 : Int) ≤ d.n ∧ ((0 : Int) < 2 ∧ d.n ≤ 9223372036854775807)))]) := by kernel_rfl

def stSD (d : TeaD) : Fr × List Blk := (⟨[.undef, .int .i64 (.s d.n), .undef, .undef, .undef, .undef, .ptr 2 (.c 0), .w32 d.t.x, .w32 d.t.y, .ptr 7 (.c 0), .w32 d.t.s, .int .i64 (.s d.i)], []⟩, [dead, dead, dead, dead, dead, dead, dead, ⟨.gen [.w32 d.k.k0, .w32 d.k.k1, .w32 d.k.k2, .w32 d.k.k3], .ro⟩])
def nextSD (d : TeaD) : TeaD := ⟨d.k, tD (kGold d.k) d.t, d.n, d.i + 1⟩
def parseSD (F : Fr) (H : List Blk) : Option TeaD :=
  match F.vars with
  | [_, .num (.int .i64 n), _, _, _, _, .ref (.ptr 2 (.c 0)), v7, v8, .ref (.ptr 7 (.c 0)), v10, .num (.int .i64 i)] =>
    match H with
    | [_, _, _, _, _, _, _, ⟨.gen [c0, c1, c2, c3], m0⟩] =>
      match isDead m0 with
      | false =>
        match v7.bv32, v8.bv32, c0.bv32, c1.bv32, c2.bv32, c3.bv32, v10.bv32 with
        | some x, some y, some k0, some k1, some k2, some k3, some s => some ⟨⟨k0, k1, k2, k3, gold⟩, ⟨x, y, s⟩, n.v, i.v⟩
        | _, _, _, _, _, _, _ => none
      | _ => none
    | _ => none
  | _ => none
theorem parseSD_in (F : Fr) (H : List Blk) (d : TeaD) (h : parseSD F H = some d) : wkF none (stSD d).1 F = some (stSD d).1 ∧ cH (stSD d).2 (H ++ []) = some (stSD d).2 := by
  unfold parseSD at h
  split at h
  case h_2 => cases h
  rename_i hv
  split at h
  case h_2 => cases h
  split at h
  case h_2 => cases h
  rename_i h2
  split at h
  case h_2 => cases h
  rename_i a1 a2 a3 a4 a5 a6 a7
  injection h with h; subst h
  constructor
  · simp only [wkF, hv, stSD, wkL, wkV, cV, cNum, a1, a2, a7, Option.map_some]; rfl
  · rcases isDead_mode h2 with rfl | rfl <;> simp only [stSD, List.append_nil, cH, cB, cD, cL, cV, cNum, a3, a4, a5, a6, Option.map_some, dead]
def TSD : LoopT TeaD where
  parse := parseSD
  gh := []
  st := stSD
  next := nextSD
  rem d := (d.n.tdiv 2 - d.i).toNat
  good := TeaD.good
  out := .exit 0
  fin := stSD
theorem roundSD (d : TeaD) : ranAs 8 none (stSD (nextSD d)) (goL noSpec noLoop 46 0 (stSD d).1 ⟨(stSD d).2, big, [true], []⟩) = some (.normal, (stSD (nextSD d)), [decide (((-9223372036854775808) ≤ (d.i + 1) ∧ (d.i + 1) ≤ 9223372036854775807)), (decide (d.i < (Int.tdiv d.n 2)) == true), decide (((0 : Int) ≤ d.n ∧ ((0 : Int) < 2 ∧ d.n ≤ 9223372036854775807)))]) := by kernel_rfl
theorem endSD (d : TeaD) : ranAs 8 none (stSD d) (goL noSpec noLoop 46 0 (stSD d).1 ⟨(stSD d).2, big, [false], []⟩) = some ((.exit 0), (stSD d), [(decide (d.i < (Int.tdiv d.n 2)) == false), decide (((0 : Int) ≤ d.n ∧ ((0 : Int) < 2 ∧ d.n ≤ 9223372036854775807)))]) := by kernel_rfl

theorem lenE : (loopsIn Try.prog 101).length = 1 := by kernel_rfl
theorem toldE : Told 101 0 TE.told := by
  refine loop_ran TE (goL_ok no_specs (no_loops _) 101 0 fine101 (by rw [lenE]; omega)) (by intro k hk; cases hk) (by intro h; cases h) parseE_in (fun d k hg hr => ?_) (fun d hg hr => ?_)
  · obtain ⟨g1, g2, g3, g4⟩ := of_decide_eq_true hg
    have hr' : (d.n.tdiv 2 - d.i).toNat = k + 1 := hr
    have hq : d.n.tdiv 2 = d.n / 2 := Int.tdiv_eq_ediv_of_nonneg g3
    refine ⟨⟨[true], none, _, roundE d, ?_⟩, decide_eq_true ⟨?_, ?_, g3, g4⟩, ?_, rfl⟩
    · repeat' (refine all_true_cons ?_ ?_)
      all_goals first | exact all_true_nil | (simp only [decide_eq_true_eq, Bool.and_eq_true, beq_iff_eq, beq_true, hq]; omega) | (simp only [decide_eq_true_eq, beq_true]; omega)
    · show 0 ≤ d.i + 1; omega
    · show d.i + 1 ≤ d.n.tdiv 2; omega
    · show (d.n.tdiv 2 - (d.i + 1)).toNat = k; omega
  · obtain ⟨g1, g2, g3, g4⟩ := of_decide_eq_true hg
    have hr' : (d.n.tdiv 2 - d.i).toNat = 0 := hr
    have hq : d.n.tdiv 2 = d.n / 2 := Int.tdiv_eq_ediv_of_nonneg g3
    refine ⟨[false], none, _, endE d, ?_⟩
    repeat' (refine all_true_cons ?_ ?_)
    all_goals first | exact all_true_nil | (simp only [beq_false, Bool.not_eq_true', decide_eq_false_iff_not, hq]; omega) | (simp only [decide_eq_true_eq]; omega)

theorem lenD : (loopsIn Try.prog 100).length = 1 := by kernel_rfl
theorem toldD : Told 100 0 TD.told := by
  refine loop_ran TD (goL_ok no_specs (no_loops _) 100 0 fine100 (by rw [lenD]; omega)) (by intro k hk; cases hk) (by intro h; cases h) parseD_in (fun d k hg hr => ?_) (fun d hg hr => ?_)
  · obtain ⟨g1, g2, g3, g4⟩ := of_decide_eq_true hg
    have hr' : (d.n.tdiv 2 - d.i).toNat = k + 1 := hr
    have hq : d.n.tdiv 2 = d.n / 2 := Int.tdiv_eq_ediv_of_nonneg g3
    refine ⟨⟨[true], none, _, roundD d, ?_⟩, decide_eq_true ⟨?_, ?_, g3, g4⟩, ?_, rfl⟩
    · repeat' (refine all_true_cons ?_ ?_)
      all_goals first | exact all_true_nil | (simp only [decide_eq_true_eq, Bool.and_eq_true, beq_iff_eq, beq_true, hq]; omega) | (simp only [decide_eq_true_eq, beq_true]; omega)
    · show 0 ≤ d.i + 1; omega
    · show d.i + 1 ≤ d.n.tdiv 2; omega
    · show (d.n.tdiv 2 - (d.i + 1)).toNat = k; omega
  · obtain ⟨g1, g2, g3, g4⟩ := of_decide_eq_true hg
    have hr' : (d.n.tdiv 2 - d.i).toNat = 0 := hr
    have hq : d.n.tdiv 2 = d.n / 2 := Int.tdiv_eq_ediv_of_nonneg g3
    refine ⟨[false], none, _, endD d, ?_⟩
    repeat' (refine all_true_cons ?_ ?_)
    all_goals first | exact all_true_nil | (simp only [beq_false, Bool.not_eq_true', decide_eq_false_iff_not, hq]; omega) | (simp only [decide_eq_true_eq]; omega)

theorem lenSE : (loopsIn Try.prog 47).length = 1 := by kernel_rfl
theorem toldSE : Told 47 0 TSE.told := by
  refine loop_ran TSE (goL_ok no_specs (no_loops _) 47 0 fine47 (by rw [lenSE]; omega)) (by intro k hk; cases hk) (by intro h; cases h) parseSE_in (fun d k hg hr => ?_) (fun d hg hr => ?_)
  · obtain ⟨g1, g2, g3, g4⟩ := of_decide_eq_true hg
    have hr' : (d.n.tdiv 2 - d.i).toNat = k + 1 := hr
    have hq : d.n.tdiv 2 = d.n / 2 := Int.tdiv_eq_ediv_of_nonneg g3
    refine ⟨⟨[true], none, _, roundSE d, ?_⟩, decide_eq_true ⟨?_, ?_, g3, g4⟩, ?_, rfl⟩
    · repeat' (refine all_true_cons ?_ ?_)
      all_goals first | exact all_true_nil | (simp only [decide_eq_true_eq, Bool.and_eq_true, beq_iff_eq, beq_true, hq]; omega) | (simp only [decide_eq_true_eq, beq_true]; omega)
    · show 0 ≤ d.i + 1; omega
    · show d.i + 1 ≤ d.n.tdiv 2; omega
    · show (d.n.tdiv 2 - (d.i + 1)).toNat = k; omega
  · obtain ⟨g1, g2, g3, g4⟩ := of_decide_eq_true hg
    have hr' : (d.n.tdiv 2 - d.i).toNat = 0 := hr
    have hq : d.n.tdiv 2 = d.n / 2 := Int.tdiv_eq_ediv_of_nonneg g3
    refine ⟨[false], none, _, endSE d, ?_⟩
    repeat' (refine all_true_cons ?_ ?_)
    all_goals first | exact all_true_nil | (simp only [beq_false, Bool.not_eq_true', decide_eq_false_iff_not, hq]; omega) | (simp only [decide_eq_true_eq]; omega)

theorem lenSD : (loopsIn Try.prog 46).length = 1 := by kernel_rfl
theorem toldSD : Told 46 0 TSD.told := by
  refine loop_ran TSD (goL_ok no_specs (no_loops _) 46 0 fine46 (by rw [lenSD]; omega)) (by intro k hk; cases hk) (by intro h; cases h) parseSD_in (fun d k hg hr => ?_) (fun d hg hr => ?_)
  · obtain ⟨g1, g2, g3, g4⟩ := of_decide_eq_true hg
    have hr' : (d.n.tdiv 2 - d.i).toNat = k + 1 := hr
    have hq : d.n.tdiv 2 = d.n / 2 := Int.tdiv_eq_ediv_of_nonneg g3
    refine ⟨⟨[true], none, _, roundSD d, ?_⟩, decide_eq_true ⟨?_, ?_, g3, g4⟩, ?_, rfl⟩
    · repeat' (refine all_true_cons ?_ ?_)
      all_goals first | exact all_true_nil | (simp only [decide_eq_true_eq, Bool.and_eq_true, beq_iff_eq, beq_true, hq]; omega) | (simp only [decide_eq_true_eq, beq_true]; omega)
    · show 0 ≤ d.i + 1; omega
    · show d.i + 1 ≤ d.n.tdiv 2; omega
    · show (d.n.tdiv 2 - (d.i + 1)).toNat = k; omega
  · obtain ⟨g1, g2, g3, g4⟩ := of_decide_eq_true hg
    have hr' : (d.n.tdiv 2 - d.i).toNat = 0 := hr
    have hq : d.n.tdiv 2 = d.n / 2 := Int.tdiv_eq_ediv_of_nonneg g3
    refine ⟨[false], none, _, endSD d, ?_⟩
    repeat' (refine all_true_cons ?_ ?_)
    all_goals first | exact all_true_nil | (simp only [beq_false, Bool.not_eq_true', decide_eq_false_iff_not, hq]; omega) | (simp only [decide_eq_true_eq]; omega)

end Go.Proofs.Ytcjoocaabeckfaa
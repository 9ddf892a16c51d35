/- Contracts of TEA's ciphers, the package's and the reference's. -/
import Derived.Test.YtcjoocaabeckfaaR2TeaL
namespace Go.Proofs.Ytcjoocaabeckfaa
open Go.Eng
def bel (f : Nat → BitVec 8) (o : Nat) : BitVec 32 := (f (o + 3)).setWidth 32 ||| (f (o + 2)).setWidth 32 <<< 8 ||| (f (o + 1)).setWidth 32 <<< 16 ||| (f o).setWidth 32 <<< 24
theorem or4 (a b c d : BitVec 32) : d ||| c ||| b ||| a = a ||| b ||| c ||| d := by ac_rfl
theorem bel_be (f : Nat → BitVec 8) (o : Nat) : bel f o = be f o := or4 _ _ _ _
def kOf (f : Nat → BitVec 8) : TeaK := ⟨bel f 0, bel f 4, bel f 8, bel f 12, gold⟩
def kOf' (f : Nat → BitVec 8) : TeaK := ⟨be f 0, be f 4, be f 8, be f 12, gold⟩
def dE (f g : Nat → BitVec 8) (n : Int) : TeaD := ⟨kOf f, ⟨bel g 0, bel g 4, 0#32⟩, n, 0⟩
def dD (f g : Nat → BitVec 8) (n : Int) : TeaD := ⟨kOf f, ⟨bel g 0, bel g 4, gold * BitVec.ofInt 32 (n.tdiv 2)⟩, n, 0⟩
def dSE (f g : Nat → BitVec 8) (n : Int) : TeaD := ⟨kOf' f, ⟨be g 0, be g 4, 0#32⟩, n, 0⟩
def dSD (f g : Nat → BitVec 8) (n : Int) : TeaD := ⟨kOf' f, ⟨be g 0, be g 4, BitVec.ofInt 32 (n.tdiv 2) * gold⟩, n, 0⟩
def outE (f g : Nat → BitVec 8) (n : Int) : Nat → BitVec 8 := unbe (iter nextE (n.tdiv 2 - 0).toNat (dE f g n)).t.x (iter nextE (n.tdiv 2 - 0).toNat (dE f g n)).t.y
def outD (f g : Nat → BitVec 8) (n : Int) : Nat → BitVec 8 := unbe (iter nextD (n.tdiv 2 - 0).toNat (dD f g n)).t.x (iter nextD (n.tdiv 2 - 0).toNat (dD f g n)).t.y
def outSE (f g : Nat → BitVec 8) (n : Int) : Nat → BitVec 8 := unbe (iter nextSE (n.tdiv 2 - 0).toNat (dSE f g n)).t.x (iter nextSE (n.tdiv 2 - 0).toNat (dSE f g n)).t.y
def outSD (f g : Nat → BitVec 8) (n : Int) : Nat → BitVec 8 := unbe (iter nextSD (n.tdiv 2 - 0).toNat (dSD f g n)).t.x (iter nextSD (n.tdiv 2 - 0).toNat (dSD f g n)).t.y
def teaLoops : FuncId → Nat → Option LSpec
  | 101, 6 => some TE.told
  | 100, 6 => some TD.told
  | 47, 5 => some TSE.told
  | 46, 5 => some TSD.told
  | _, _ => none
theorem teaLoops_ok (spec : FuncId → Option Eng.Spec) : LoopsOk (cfg spec teaLoops) noGlob := by
  refine LoopsOk.of fun f => ?_
  by_cases h101 : f = 101
  · subst h101
    refine .inr ⟨by kernel_rfl, fun i hi sp hsp => ?_⟩
    have hi : i < (loopsIn Try.prog 101).length := hi
    rw [lenE] at hi
    obtain rfl : i = 0 := by omega
    have e : (firstRid (loopIn Try.prog 101 0)).bind (teaLoops 101) = some TE.told := by kernel_rfl
    obtain rfl := Option.some.inj (e.symm.trans hsp)
    exact toldE
  by_cases h100 : f = 100
  · subst h100
    refine .inr ⟨by kernel_rfl, fun i hi sp hsp => ?_⟩
    have hi : i < (loopsIn Try.prog 100).length := hi
    rw [lenD] at hi
    obtain rfl : i = 0 := by omega
    have e : (firstRid (loopIn Try.prog 100 0)).bind (teaLoops 100) = some TD.told := by kernel_rfl
    obtain rfl := Option.some.inj (e.symm.trans hsp)
    exact toldD
  by_cases h47 : f = 47
  · subst h47
    refine .inr ⟨by kernel_rfl, fun i hi sp hsp => ?_⟩
    have hi : i < (loopsIn Try.prog 47).length := hi
    rw [lenSE] at hi
    obtain rfl : i = 0 := by omega
    have e : (firstRid (loopIn Try.prog 47 0)).bind (teaLoops 47) = some TSE.told := by kernel_rfl
    obtain rfl := Option.some.inj (e.symm.trans hsp)
    exact toldSE
  by_cases h46 : f = 46
  · subst h46
    refine .inr ⟨by kernel_rfl, fun i hi sp hsp => ?_⟩
    have hi : i < (loopsIn Try.prog 46).length := hi
    rw [lenSD] at hi
    obtain rfl : i = 0 := by omega
    have e : (firstRid (loopIn Try.prog 46 0)).bind (teaLoops 46) = some TSD.told := by kernel_rfl
    obtain rfl := Option.some.inj (e.symm.trans hsp)
    exact toldSD
  refine .inl fun r => ?_
  show teaLoops f r = none
  unfold teaLoops
  split
  · exact absurd rfl h101
  · exact absurd rfl h100
  · exact absurd rfl h47
  · exact absurd rfl h46
  · rfl

theorem run101 (f h g : Nat → BitVec 8) (n : Int) : endsAs 3 (some [0, 1, 2]) [⟨.gen (c8 16 f ++ [.int .i64 (.s n)]), .ro⟩, ⟨.gen (c8 8 (outE f g n)), .own⟩, ⟨.gen (c8 8 g), .ro⟩] (.tup []) (goB noSpec teaLoops 101 [.ptr 0 (.c 0), .sl 1 (.c 0) (.c 8) (some (.c 8)), .sl 2 (.c 0) (.c 8) none] ⟨[⟨.gen (c8 16 f ++ [.int .i64 (.s n)]), .ro⟩, ⟨.gen (c8 8 h), .own⟩, ⟨.gen (c8 8 g), .ro⟩], big, [], []⟩) = some ([⟨.gen (c8 16 f ++ [.int .i64 (.s n)]), .ro⟩, ⟨.gen (c8 8 (outE f g n)), .own⟩, ⟨.gen (c8 8 g), .ro⟩], (.tup []), [TeaD.good (dE f g n)]) := by kernel_rfl
theorem run100 (f h g : Nat → BitVec 8) (n : Int) : endsAs 3 (some [0, 1, 2]) [⟨.gen (c8 16 f ++ [.int .i64 (.s n)]), .ro⟩, ⟨.gen (c8 8 (outD f g n)), .own⟩, ⟨.gen (c8 8 g), .ro⟩] (.tup []) (goB noSpec teaLoops 100 [.ptr 0 (.c 0), .sl 1 (.c 0) (.c 8) (some (.c 8)), .sl 2 (.c 0) (.c 8) none] ⟨[⟨.gen (c8 16 f ++ [.int .i64 (.s n)]), .ro⟩, ⟨.gen (c8 8 h), .own⟩, ⟨.gen (c8 8 g), .ro⟩], big, [], []⟩) = some ([⟨.gen (c8 16 f ++ [.int .i64 (.s n)]), .ro⟩, ⟨.gen (c8 8 (outD f g n)), .own⟩, ⟨.gen (c8 8 g), .ro⟩], (.tup []), [TeaD.good (dD f g n), decide ((0 : Int) ≤ n ∧ (0 : Int) < 2 ∧ n ≤ 9223372036854775807)]) := by kernel_rfl
theorem run47 (f g : Nat → BitVec 8) (n : Int) : endsAs 0 (some []) [] (.agg (c8 8 (outSE f g n))) (goB noSpec teaLoops 47 [.agg (c8 16 f), .int .i64 (.s n), .agg (c8 8 g)] ⟨[], big, [], []⟩) = some ([], (.agg (c8 8 (outSE f g n))), [TeaD.good (dSE f g n)]) := by kernel_rfl
theorem run46 (f g : Nat → BitVec 8) (n : Int) : endsAs 0 (some []) [] (.agg (c8 8 (outSD f g n))) (goB noSpec teaLoops 46 [.agg (c8 16 f), .int .i64 (.s n), .agg (c8 8 g)] ⟨[], big, [], []⟩) = some ([], (.agg (c8 8 (outSD f g n))), [TeaD.good (dSD f g n), decide ((0 : Int) ≤ n ∧ (0 : Int) < 2 ∧ n ≤ 9223372036854775807)]) := by kernel_rfl
theorem cL_app : ∀ {ps qs xs ys a b : List AV}, cL ps xs = some a → cL qs ys = some b → cL (ps ++ qs) (xs ++ ys) = some (a ++ b)
  | [], qs, xs, ys, a, b, h, k => by
    cases xs with
    | nil => simp [cL] at h; subst h; simpa using k
    | cons x xs => simp [cL] at h
  | p :: ps, qs, xs, ys, a, b, h, k => by
    cases xs with
    | nil => simp [cL] at h
    | cons x xs =>
      simp only [cL] at h
      split at h
      · cases h
      · rename_i y hy
        split at h
        · cases h
        · rename_i zs hz
          injection h with h; subst h
          simp only [List.cons_append, cL, hy, cL_app hz k]
/-- A cipher's cells: the key and the number of rounds. -/
def tea17 (d : Eng.Data) : Option ((Nat → BitVec 8) × Int) :=
  match d with
  | .gen xs =>
    match gen8 16 (.gen (xs.take 16)) with
    | some f =>
      match xs.drop 16 with
      | [.num (.int .i64 z)] => some (f, z.v)
      | _ => none
    | none => none
  | _ => none
theorem tea17_fit {d : Eng.Data} {f : Nat → BitVec 8} {n : Int} (h : tea17 d = some (f, n)) : cD (.gen (c8 16 f ++ [.int .i64 (.s n)])) d = some (.gen (c8 16 f ++ [.int .i64 (.s n)])) := by
  unfold tea17 at h
  split at h
  · rename_i xs
    split at h
    · rename_i f' hf
      split at h
      · rename_i z hd
        simp only [Option.some.injEq, Prod.mk.injEq] at h
        obtain ⟨rfl, rfl⟩ := h
        have h1 := gen8_fit hf
        simp only [cD, Option.map_eq_some_iff, Data.gen.injEq] at h1
        obtain ⟨l, h1, rfl⟩ := h1
        have h2 : cL [.int .i64 (.s z.v)] (xs.drop 16) = some [.int .i64 (.s z.v)] := by rw [hd]; rfl
        have h3 := cL_app h1 h2
        rw [List.take_append_drop] at h3
        simp only [cD, h3, Option.map_some]
      · cases h
    · cases h
  · cases h
def teaRes (d0 d2 : Blk) (out : Nat → BitVec 8) (dec : List Bool) (n : Int) : SRes := ⟨.tup [], [d0, ⟨.gen (c8 8 out), .own⟩, d2], dec, [decide ((0 : Int) ≤ n ∧ n ≤ 4096)]⟩
def spTea (out : (Nat → BitVec 8) → (Nat → BitVec 8) → Int → Nat → BitVec 8) : Eng.Spec := fun args H dec =>
  match args with
  | [.ref (.ptr 0 (.c 0)), .ref (.sl 1 (.c 0) (.c a) (some (.c b))), .ref (.sl 2 (.c 0) (.c c) _)] =>
    match H with
    | [⟨d0, m0⟩, ⟨d1, .own⟩, ⟨d2, m2⟩] =>
      match tea17 d0, gen8 8 d1, gen8 8 d2, isDead m0, isDead m2, Nat.beq a 8, Nat.beq b 8, Nat.beq c 8 with
      | some (f, n), some _, some g, false, false, true, true, true => some (teaRes ⟨d0, m0⟩ ⟨d2, m2⟩ (out f g n) dec n)
      | _, _, _, _, _, _, _, _ => none
    | _ => none
  | _ => none
theorem spTea_inv {out : (Nat → BitVec 8) → (Nat → BitVec 8) → Int → Nat → BitVec 8} {args : List AV} {H : List Blk} {dec : List Bool} {r : SRes} (h : spTea out args H dec = some r) :
    ∃ c0 d0 m0 d1 d2 m2 f h g n, args = [.ptr 0 (.c 0), .sl 1 (.c 0) (.c 8) (some (.c 8)), .sl 2 (.c 0) (.c 8) c0] ∧ H = [⟨d0, m0⟩, ⟨d1, .own⟩, ⟨d2, m2⟩] ∧ tea17 d0 = some (f, n) ∧ gen8 8 d1 = some h ∧ gen8 8 d2 = some g ∧ isDead m0 = false ∧ isDead m2 = false ∧ r = teaRes ⟨d0, m0⟩ ⟨d2, m2⟩ (out f g n) dec n := by
  unfold spTea at h
  split at h
  case h_2 => cases h
  split at h
  case h_2 => cases h
  split at h
  case h_2 => cases h
  rename_i h1 h2 h3 h4 h5 h6 h7 h8
  injection h with h; subst h
  have h6 := Nat.eq_of_beq_eq_true h6
  have h7 := Nat.eq_of_beq_eq_true h7
  have h8 := Nat.eq_of_beq_eq_true h8
  subst h6 h7 h8
  exact ⟨_, _, _, _, _, _, _, _, _, _, rfl, rfl, h1, h2, h3, h4, h5, rfl⟩
theorem teaRes_ro {d0 d2 : Blk} {out : Nat → BitVec 8} {dec : List Bool} {n : Int} {m1 : Blk} (i : Nat) (k : Blk) (hk : (teaRes d0 d2 out dec n).H[i]? = some k) (hm : k.mode = .ro) : ∃ k', [d0, m1, d2][i]? = some k' ∧ k'.mode = .ro := by
  match i, hk with
  | 0, hk => simp [teaRes] at hk; subst hk; exact ⟨_, rfl, hm⟩
  | 1, hk => simp [teaRes] at hk; subst hk; cases hm
  | 2, hk => simp [teaRes] at hk; subst hk; exact ⟨_, rfl, hm⟩
  | i + 3, hk => simp [teaRes] at hk
theorem good_of {d : TeaD} (hi : d.i = 0) (h : 0 ≤ d.n ∧ d.n ≤ 4096) : TeaD.good d = true := by
  have hq : d.n.tdiv 2 = d.n / 2 := Int.tdiv_eq_ediv_of_nonneg h.1
  refine decide_eq_true ⟨by omega, by rw [hq]; omega, h.1, h.2⟩

theorem ok101 : SpecOk Try.prog noGlob 101 (spTea outE) := by
  refine SpecOk.ends (goB_ok no_specs (teaLoops_ok _)) (fun args H dec r hr hc => ?_) (fun args H dec r hr i k hk hm => ?_)
  · obtain ⟨c0, d0, m0, d1, d2, m2, f, h, g, n, rfl, rfl, h1, h2, h3, h4, h5, rfl⟩ := spTea_inv hr
    have hd := of_decide_eq_true (hc _ (List.mem_singleton.2 rfl))
    refine ⟨[.ptr 0 (.c 0), .sl 1 (.c 0) (.c 8) (some (.c 8)), .sl 2 (.c 0) (.c 8) none], [⟨.gen (c8 16 f ++ [.int .i64 (.s n)]), .ro⟩, ⟨.gen (c8 8 h), .own⟩, ⟨.gen (c8 8 g), .ro⟩], _, _, [], some [0, 1, 2], _, _, rfl, ?_, run101 f h g n, all_true_cons (good_of rfl hd) all_true_nil, ?_⟩
    · rcases isDead_mode h4 with rfl | rfl <;> rcases isDead_mode h5 with rfl | rfl <;> simp only [cH, cB, tea17_fit h1, gen8_fit h2, gen8_fit h3]
    · rcases isDead_mode h4 with rfl | rfl <;> rcases isDead_mode h5 with rfl | rfl <;> rfl
  · obtain ⟨c0, d0, m0, d1, d2, m2, f, h, g, n, rfl, rfl, h1, h2, h3, h4, h5, rfl⟩ := spTea_inv hr
    exact teaRes_ro i k hk hm

theorem ok100 : SpecOk Try.prog noGlob 100 (spTea outD) := by
  refine SpecOk.ends (goB_ok no_specs (teaLoops_ok _)) (fun args H dec r hr hc => ?_) (fun args H dec r hr i k hk hm => ?_)
  · obtain ⟨c0, d0, m0, d1, d2, m2, f, h, g, n, rfl, rfl, h1, h2, h3, h4, h5, rfl⟩ := spTea_inv hr
    have hd := of_decide_eq_true (hc _ (List.mem_singleton.2 rfl))
    refine ⟨[.ptr 0 (.c 0), .sl 1 (.c 0) (.c 8) (some (.c 8)), .sl 2 (.c 0) (.c 8) none], [⟨.gen (c8 16 f ++ [.int .i64 (.s n)]), .ro⟩, ⟨.gen (c8 8 h), .own⟩, ⟨.gen (c8 8 g), .ro⟩], _, _, [], some [0, 1, 2], _, _, rfl, ?_, run100 f h g n, all_true_cons (good_of rfl hd) (all_true_cons (decide_eq_true ⟨hd.1, by omega, by omega⟩) all_true_nil), ?_⟩
    · rcases isDead_mode h4 with rfl | rfl <;> rcases isDead_mode h5 with rfl | rfl <;> simp only [cH, cB, tea17_fit h1, gen8_fit h2, gen8_fit h3]
    · rcases isDead_mode h4 with rfl | rfl <;> rcases isDead_mode h5 with rfl | rfl <;> rfl
  · obtain ⟨c0, d0, m0, d1, d2, m2, f, h, g, n, rfl, rfl, h1, h2, h3, h4, h5, rfl⟩ := spTea_inv hr
    exact teaRes_ro i k hk hm

def spTeaS (out : (Nat → BitVec 8) → (Nat → BitVec 8) → Int → Nat → BitVec 8) : Eng.Spec := fun args H dec =>
  match args with
  | [.agg xs, .num (.int .i64 z), .agg ys] =>
    match H with
    | [] =>
      match gen8 16 (.gen xs), gen8 8 (.gen ys) with
      | some f, some g => some ⟨.agg (c8 8 (out f g z.v)), [], dec, [decide ((0 : Int) ≤ z.v ∧ z.v ≤ 4096)]⟩
      | _, _ => none
    | _ => none
  | _ => none
theorem gen_cL {n : Nat} {xs : List AV} {f : Nat → BitVec 8} (h : gen8 n (.gen xs) = some f) : cL (c8 n f) xs = some (c8 n f) := by
  have := gen8_fit h
  simp only [cD, Option.map_eq_some_iff, Data.gen.injEq] at this
  obtain ⟨l, h1, rfl⟩ := this
  exact h1

theorem ok47 : SpecOk Try.prog noGlob 47 (spTeaS outSE) := by
  refine SpecOk.ends (goB_ok no_specs (teaLoops_ok _)) (fun args H dec r hr hc => ?_) (fun args H dec r hr i k hk hm => ?_)
  · unfold spTeaS at hr
    split at hr
    case h_2 => cases hr
    rename_i xs z ys
    split at hr
    case h_2 => cases hr
    split at hr
    case h_2 => cases hr
    rename_i f g h1 h2
    injection hr with hr; subst hr
    have hd := of_decide_eq_true (hc _ (List.mem_singleton.2 rfl))
    refine ⟨[.agg (c8 16 f), .int .i64 (.s z.v), .agg (c8 8 g)], [], _, _, [], some [], _, _, ?_, rfl, run47 f g z.v, all_true_cons (good_of rfl hd) all_true_nil, rfl⟩
    simp only [wkL, wkV, cV, cNum, gen_cL h1, gen_cL h2]
  · unfold spTeaS at hr
    split at hr
    case h_2 => cases hr
    split at hr
    case h_2 => cases hr
    split at hr
    case h_2 => cases hr
    injection hr with hr; subst hr
    simp at hk

theorem ok46 : SpecOk Try.prog noGlob 46 (spTeaS outSD) := by
  refine SpecOk.ends (goB_ok no_specs (teaLoops_ok _)) (fun args H dec r hr hc => ?_) (fun args H dec r hr i k hk hm => ?_)
  · unfold spTeaS at hr
    split at hr
    case h_2 => cases hr
    rename_i xs z ys
    split at hr
    case h_2 => cases hr
    split at hr
    case h_2 => cases hr
    rename_i f g h1 h2
    injection hr with hr; subst hr
    have hd := of_decide_eq_true (hc _ (List.mem_singleton.2 rfl))
    refine ⟨[.agg (c8 16 f), .int .i64 (.s z.v), .agg (c8 8 g)], [], _, _, [], some [], _, _, ?_, rfl, run46 f g z.v, all_true_cons (good_of rfl hd) (all_true_cons (decide_eq_true ⟨hd.1, by omega, by omega⟩) all_true_nil), rfl⟩
    simp only [wkL, wkV, cV, cNum, gen_cL h1, gen_cL h2]
  · unfold spTeaS at hr
    split at hr
    case h_2 => cases hr
    split at hr
    case h_2 => cases hr
    split at hr
    case h_2 => cases hr
    injection hr with hr; subst hr
    simp at hk

def specsTea : FuncId → Option Eng.Spec
  | 100 => some (spTea outD)
  | 101 => some (spTea outE)
  | 46 => some (spTeaS outSD)
  | 47 => some (spTeaS outSE)
  | _ => none
theorem specsTea_ok : ∀ f sp, specsTea f = some sp → SpecOk Try.prog noGlob f sp := by
  intro f sp h
  unfold specsTea at h
  split at h
  · injection h with h; subst h; exact ok100
  · injection h with h; subst h; exact ok101
  · injection h with h; subst h; exact ok46
  · injection h with h; subst h; exact ok47
  · cases h
end Go.Proofs.Ytcjoocaabeckfaa
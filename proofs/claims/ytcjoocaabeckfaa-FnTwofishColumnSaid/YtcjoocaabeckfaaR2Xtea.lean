/- Contracts of XTEA, the package's and the reference's. -/
import Derived.Test.YtcjoocaabeckfaaR2Equal
import Derived.Test.YtcjoocaabeckfaaXteaP
namespace Go.Proofs.Ytcjoocaabeckfaa
open Go.Eng
theorem run19t (f g : Nat → BitVec 8) : endsAs 2 (some [0, 1, 4]) [⟨.gen (c8 16 f), .ro⟩, ⟨.gen (c8 8 g), .ro⟩, ⟨.gen (c8 8 (xteaB f g true)), .own⟩] (.tup [.sl 2 (.c 0) (.c 8) (some (.c 8)), .bool (.c true)]) (goB noSpec noLoop 19 [.sl 0 (.c 0) (.c 16) none, .sl 1 (.c 0) (.c 8) none, .bool (.c true)] ⟨[⟨.gen (c8 16 f), .ro⟩, ⟨.gen (c8 8 g), .ro⟩], big, [], []⟩) = some ([⟨.gen (c8 16 f), .ro⟩, ⟨.gen (c8 8 g), .ro⟩, ⟨.gen (c8 8 (xteaB f g true)), .own⟩], (.tup [.sl 2 (.c 0) (.c 8) (some (.c 8)), .bool (.c true)]), []) := by kernel_rfl
theorem run19f (f g : Nat → BitVec 8) : endsAs 2 (some [0, 1, 4]) [⟨.gen (c8 16 f), .ro⟩, ⟨.gen (c8 8 g), .ro⟩, ⟨.gen (c8 8 (xteaB f g false)), .own⟩] (.tup [.sl 2 (.c 0) (.c 8) (some (.c 8)), .bool (.c true)]) (goB noSpec noLoop 19 [.sl 0 (.c 0) (.c 16) none, .sl 1 (.c 0) (.c 8) none, .bool (.c false)] ⟨[⟨.gen (c8 16 f), .ro⟩, ⟨.gen (c8 8 g), .ro⟩], big, [], []⟩) = some ([⟨.gen (c8 16 f), .ro⟩, ⟨.gen (c8 8 g), .ro⟩, ⟨.gen (c8 8 (xteaB f g false)), .own⟩], (.tup [.sl 2 (.c 0) (.c 8) (some (.c 8)), .bool (.c true)]), []) := by kernel_rfl
theorem run20t (f g : Nat → BitVec 8) : endsAs 2 (some [0, 1, 3]) [⟨.gen (c8 16 f), .ro⟩, ⟨.gen (c8 8 g), .ro⟩, ⟨.gen (c8 8 (xteaB f g true)), .own⟩] (.tup [.sl 2 (.c 0) (.c 8) (some (.c 8)), .bool (.c true)]) (goB noSpec noLoop 20 [.sl 0 (.c 0) (.c 16) none, .sl 1 (.c 0) (.c 8) none, .bool (.c true)] ⟨[⟨.gen (c8 16 f), .ro⟩, ⟨.gen (c8 8 g), .ro⟩], big, [], []⟩) = some ([⟨.gen (c8 16 f), .ro⟩, ⟨.gen (c8 8 g), .ro⟩, ⟨.gen (c8 8 (xteaB f g true)), .own⟩], (.tup [.sl 2 (.c 0) (.c 8) (some (.c 8)), .bool (.c true)]), []) := by kernel_rfl
theorem run20f (f g : Nat → BitVec 8) : endsAs 2 (some [0, 1, 3]) [⟨.gen (c8 16 f), .ro⟩, ⟨.gen (c8 8 g), .ro⟩, ⟨.gen (c8 8 (xteaB f g false)), .own⟩] (.tup [.sl 2 (.c 0) (.c 8) (some (.c 8)), .bool (.c true)]) (goB noSpec noLoop 20 [.sl 0 (.c 0) (.c 16) none, .sl 1 (.c 0) (.c 8) none, .bool (.c false)] ⟨[⟨.gen (c8 16 f), .ro⟩, ⟨.gen (c8 8 g), .ro⟩], big, [], []⟩) = some ([⟨.gen (c8 16 f), .ro⟩, ⟨.gen (c8 8 g), .ro⟩, ⟨.gen (c8 8 (xteaB f g false)), .own⟩], (.tup [.sl 2 (.c 0) (.c 8) (some (.c 8)), .bool (.c true)]), []) := by kernel_rfl
def xRes (k0 k1 : Blk) (f g : Nat → BitVec 8) (w : Bool) (dec : List Bool) : SRes := ⟨.tup [.sl 2 (.c 0) (.c 8) (some (.c 8)), .bool (.c true)], [k0, k1, ⟨.gen (c8 8 (xteaB f g w)), .own⟩], dec, []⟩
def spX : Eng.Spec := fun args H dec =>
  match args with
  | [.ref (.sl 0 (.c 0) (.c n) _), .ref (.sl 1 (.c 0) (.c m) _), .atom (.bool (.c w))] =>
    match H with
    | [⟨d0, m0⟩, ⟨d1, m1⟩] =>
      match gen8 16 d0, gen8 8 d1, isDead m0, isDead m1, Nat.beq n 16, Nat.beq m 8 with
      | some f, some g, false, false, true, true => some (xRes ⟨d0, m0⟩ ⟨d1, m1⟩ f g w dec)
      | _, _, _, _, _, _ => none
    | _ => none
  | _ => none
theorem spX_inv {args : List AV} {H : List Blk} {dec : List Bool} {r : SRes} (h : spX args H dec = some r) : ∃ c0 c1 w d0 m0 d1 m1 f g, args = [.sl 0 (.c 0) (.c 16) c0, .sl 1 (.c 0) (.c 8) c1, .bool (.c w)] ∧ H = [⟨d0, m0⟩, ⟨d1, m1⟩] ∧ gen8 16 d0 = some f ∧ gen8 8 d1 = some g ∧ isDead m0 = false ∧ isDead m1 = false ∧ r = xRes ⟨d0, m0⟩ ⟨d1, m1⟩ f g w dec := by
  unfold spX at h
  split at h
  case h_2 => cases h
  split at h
  case h_2 => cases h
  split at h
  case h_2 => cases h
  rename_i h1 h2 h3 h4 h5 h6
  injection h with h; subst h
  have h5 := Nat.eq_of_beq_eq_true h5
  have h6 := Nat.eq_of_beq_eq_true h6
  subst h5 h6
  exact ⟨_, _, _, _, _, _, _, _, _, rfl, rfl, h1, h2, h3, h4, rfl⟩
theorem isDead_mode {m : Eng.Mode} (h : isDead m = false) : m = .ro ∨ m = .own := by cases m <;> simp [isDead] at h ⊢
theorem ok_of (f : FuncId) (i : Nat) (hrun : ∀ (w : Bool) (a g : Nat → BitVec 8), endsAs 2 (some [0, 1, i]) [⟨.gen (c8 16 a), .ro⟩, ⟨.gen (c8 8 g), .ro⟩, ⟨.gen (c8 8 (xteaB a g w)), .own⟩] (.tup [.sl 2 (.c 0) (.c 8) (some (.c 8)), .bool (.c true)])
    (goB noSpec noLoop f [.sl 0 (.c 0) (.c 16) none, .sl 1 (.c 0) (.c 8) none, .bool (.c w)] ⟨[⟨.gen (c8 16 a), .ro⟩, ⟨.gen (c8 8 g), .ro⟩], big, [], []⟩) = some ([⟨.gen (c8 16 a), .ro⟩, ⟨.gen (c8 8 g), .ro⟩, ⟨.gen (c8 8 (xteaB a g w)), .own⟩], .tup [.sl 2 (.c 0) (.c 8) (some (.c 8)), .bool (.c true)], [])) : SpecOk Try.prog noGlob f spX := by
  refine SpecOk.ends (goB_ok no_specs (no_loops _)) (fun args H dec r hr hc => ?_) (fun args H dec r hr i k hk hm => ?_)
  · obtain ⟨c0, c1, w, d0, m0, d1, m1, a, g, rfl, rfl, h1, h2, h3, h4, rfl⟩ := spX_inv hr
    refine ⟨[.sl 0 (.c 0) (.c 16) none, .sl 1 (.c 0) (.c 8) none, .bool (.c w)], [⟨.gen (c8 16 a), .ro⟩, ⟨.gen (c8 8 g), .ro⟩], _, _, [], some [0, 1, i], _, _, rfl, ?_, hrun w a g, all_true_nil, ?_⟩
    · rcases isDead_mode h3 with rfl | rfl <;> rcases isDead_mode h4 with rfl | rfl <;> simp only [cH, cB, gen8_fit h1, gen8_fit h2]
    · rcases isDead_mode h3 with rfl | rfl <;> rcases isDead_mode h4 with rfl | rfl <;> rfl
  · obtain ⟨c0, c1, w, d0, m0, d1, m1, a, g, rfl, rfl, h1, h2, h3, h4, rfl⟩ := spX_inv hr
    match i, hk with
    | 0, hk => simp [xRes] at hk; subst hk; exact ⟨_, rfl, hm⟩
    | 1, hk => simp [xRes] at hk; subst hk; exact ⟨_, rfl, hm⟩
    | 2, hk => simp [xRes] at hk; subst hk; cases hm
    | i + 3, hk => simp [xRes] at hk
theorem ok19 : SpecOk Try.prog noGlob 19 spX := ok_of 19 4 fun w a g => by cases w; exact run19f a g; exact run19t a g
theorem ok20 : SpecOk Try.prog noGlob 20 spX := ok_of 20 3 fun w a g => by cases w; exact run20f a g; exact run20t a g
def specsX : FuncId → Option Eng.Spec
  | 15 => some spEqual
  | 18 => some sp18
  | 19 => some spX
  | 20 => some spX
  | _ => none
theorem specsX_ok : ∀ f sp, specsX f = some sp → SpecOk Try.prog noGlob f sp := by
  intro f sp h
  unfold specsX at h
  split at h
  · injection h with h; subst h; exact okEqual
  · injection h with h; subst h; exact ok18
  · injection h with h; subst h; exact ok19
  · injection h with h; subst h; exact ok20
  · cases h
end Go.Proofs.Ytcjoocaabeckfaa

/- Contracts of TEA as the thin package and the reference offer it. -/
import Derived.Test.YtcjoocaabeckfaaR2Tea
namespace Go.Proofs.Ytcjoocaabeckfaa
open Go.Eng
def rnd (n : Int) : Int := if n = 0 then 64 else n
def outI (w : Bool) (f g : Nat → BitVec 8) (n : Int) : Nat → BitVec 8 :=
  match w with
  | true => outD f g n
  | false => outE f g n
def outS (w : Bool) (f g : Nat → BitVec 8) (n : Int) : Nat → BitVec 8 :=
  match w with
  | true => outSD f g n
  | false => outSE f g n

theorem run29zt (f g : Nat → BitVec 8) (n : Int) : endsAs 2 (some [0, 1, 3]) [⟨.gen (c8 16 f), .ro⟩, ⟨.gen (c8 8 g), .ro⟩, ⟨.gen (c8 8 (outI true (nf8 16 f) (nf8 8 g) 64)), .own⟩] (.tup [.sl 2 (.c 0) (.c 8) (some (.c 8)), .bool (.c true)]) (goB specsTea noLoop 29 [.sl 0 (.c 0) (.c 16) none, .sl 1 (.c 0) (.c 8) none, .int .i64 (.s n), .bool (.c true)] ⟨[⟨.gen (c8 16 f), .ro⟩, ⟨.gen (c8 8 g), .ro⟩], big, [false, false], []⟩) = some ([⟨.gen (c8 16 f), .ro⟩, ⟨.gen (c8 8 g), .ro⟩, ⟨.gen (c8 8 (outI true (nf8 16 f) (nf8 8 g) 64)), .own⟩], (.tup [.sl 2 (.c 0) (.c 8) (some (.c 8)), .bool (.c true)]), [decide (((0 : Int) ≤ 64 ∧ (64 : Int) ≤ 4096)), ((!(n == 0)) == false)]) := by kernel_rfl
theorem run29nt (f g : Nat → BitVec 8) (n : Int) : endsAs 2 (some [0, 1, 4]) [⟨.gen (c8 16 f), .ro⟩, ⟨.gen (c8 8 g), .ro⟩, ⟨.gen (c8 8 (outI true (nf8 16 f) (nf8 8 g) n)), .own⟩] (.tup [.sl 2 (.c 0) (.c 8) (some (.c 8)), .bool (.c true)]) (goB specsTea noLoop 29 [.sl 0 (.c 0) (.c 16) none, .sl 1 (.c 0) (.c 8) none, .int .i64 (.s n), .bool (.c true)] ⟨[⟨.gen (c8 16 f), .ro⟩, ⟨.gen (c8 8 g), .ro⟩], big, [true, false], []⟩) = some ([⟨.gen (c8 16 f), .ro⟩, ⟨.gen (c8 8 g), .ro⟩, ⟨.gen (c8 8 (outI true (nf8 16 f) (nf8 8 g) n)), .own⟩], (.tup [.sl 2 (.c 0) (.c 8) (some (.c 8)), .bool (.c true)]), [decide (((0 : Int) ≤ n ∧ n ≤ 4096)), ((!((((((n) : Int).toNat &&& 1) : Nat) : Int) == 0)) == false), decide (((0 : Int) ≤ n ∧ ((0 : Int) ≤ 1 ∧ (n ≤ 9223372036854775807 ∧ (1 : Int) ≤ 9223372036854775807)))), ((!(n == 0)) == true)]) := by kernel_rfl
theorem run29zf (f g : Nat → BitVec 8) (n : Int) : endsAs 2 (some [0, 1, 3]) [⟨.gen (c8 16 f), .ro⟩, ⟨.gen (c8 8 g), .ro⟩, ⟨.gen (c8 8 (outI false (nf8 16 f) (nf8 8 g) 64)), .own⟩] (.tup [.sl 2 (.c 0) (.c 8) (some (.c 8)), .bool (.c true)]) (goB specsTea noLoop 29 [.sl 0 (.c 0) (.c 16) none, .sl 1 (.c 0) (.c 8) none, .int .i64 (.s n), .bool (.c false)] ⟨[⟨.gen (c8 16 f), .ro⟩, ⟨.gen (c8 8 g), .ro⟩], big, [false, false], []⟩) = some ([⟨.gen (c8 16 f), .ro⟩, ⟨.gen (c8 8 g), .ro⟩, ⟨.gen (c8 8 (outI false (nf8 16 f) (nf8 8 g) 64)), .own⟩], (.tup [.sl 2 (.c 0) (.c 8) (some (.c 8)), .bool (.c true)]), [decide (((0 : Int) ≤ 64 ∧ (64 : Int) ≤ 4096)), ((!(n == 0)) == false)]) := by kernel_rfl
theorem run29nf (f g : Nat → BitVec 8) (n : Int) : endsAs 2 (some [0, 1, 4]) [⟨.gen (c8 16 f), .ro⟩, ⟨.gen (c8 8 g), .ro⟩, ⟨.gen (c8 8 (outI false (nf8 16 f) (nf8 8 g) n)), .own⟩] (.tup [.sl 2 (.c 0) (.c 8) (some (.c 8)), .bool (.c true)]) (goB specsTea noLoop 29 [.sl 0 (.c 0) (.c 16) none, .sl 1 (.c 0) (.c 8) none, .int .i64 (.s n), .bool (.c false)] ⟨[⟨.gen (c8 16 f), .ro⟩, ⟨.gen (c8 8 g), .ro⟩], big, [true, false], []⟩) = some ([⟨.gen (c8 16 f), .ro⟩, ⟨.gen (c8 8 g), .ro⟩, ⟨.gen (c8 8 (outI false (nf8 16 f) (nf8 8 g) n)), .own⟩], (.tup [.sl 2 (.c 0) (.c 8) (some (.c 8)), .bool (.c true)]), [decide (((0 : Int) ≤ n ∧ n ≤ 4096)), ((!((((((n) : Int).toNat &&& 1) : Nat) : Int) == 0)) == false), decide (((0 : Int) ≤ n ∧ ((0 : Int) ≤ 1 ∧ (n ≤ 9223372036854775807 ∧ (1 : Int) ≤ 9223372036854775807)))), ((!(n == 0)) == true)]) := by kernel_rfl
theorem run30zt (f g : Nat → BitVec 8) (n : Int) : endsAs 2 (some [0, 1, 3]) [⟨.gen (c8 16 f), .ro⟩, ⟨.gen (c8 8 g), .ro⟩, ⟨.gen (c8 8 (outS true (nf8 16 f) (nf8 8 g) 64)), .own⟩] (.tup [.sl 2 (.c 0) (.c 8) (some (.c 8)), .bool (.c true)]) (goB specsTea noLoop 30 [.sl 0 (.c 0) (.c 16) none, .sl 1 (.c 0) (.c 8) none, .int .i64 (.s n), .bool (.c true)] ⟨[⟨.gen (c8 16 f), .ro⟩, ⟨.gen (c8 8 g), .ro⟩], big, [false, false, false, false, false, true], []⟩) = some ([⟨.gen (c8 16 f), .ro⟩, ⟨.gen (c8 8 g), .ro⟩, ⟨.gen (c8 8 (outS true (nf8 16 f) (nf8 8 g) 64)), .own⟩], (.tup [.sl 2 (.c 0) (.c 8) (some (.c 8)), .bool (.c true)]), [decide (((0 : Int) ≤ 64 ∧ (64 : Int) ≤ 4096)), ((n == 0) == true), ((!((Int.tmod n 2) == 0)) == false), (decide (n < 0) == false), (decide (n < 0) == false), decide ((2 : Int) ≠ 0), (decide (n < 0) == false), (decide (n < 0) == false)]) := by kernel_rfl
theorem run30nt (f g : Nat → BitVec 8) (n : Int) : endsAs 2 (some [0, 1, 3]) [⟨.gen (c8 16 f), .ro⟩, ⟨.gen (c8 8 g), .ro⟩, ⟨.gen (c8 8 (outS true (nf8 16 f) (nf8 8 g) n)), .own⟩] (.tup [.sl 2 (.c 0) (.c 8) (some (.c 8)), .bool (.c true)]) (goB specsTea noLoop 30 [.sl 0 (.c 0) (.c 16) none, .sl 1 (.c 0) (.c 8) none, .int .i64 (.s n), .bool (.c true)] ⟨[⟨.gen (c8 16 f), .ro⟩, ⟨.gen (c8 8 g), .ro⟩], big, [false, false, false, false, false, false], []⟩) = some ([⟨.gen (c8 16 f), .ro⟩, ⟨.gen (c8 8 g), .ro⟩, ⟨.gen (c8 8 (outS true (nf8 16 f) (nf8 8 g) n)), .own⟩], (.tup [.sl 2 (.c 0) (.c 8) (some (.c 8)), .bool (.c true)]), [decide (((0 : Int) ≤ n ∧ n ≤ 4096)), ((n == 0) == false), ((!((Int.tmod n 2) == 0)) == false), (decide (n < 0) == false), (decide (n < 0) == false), decide ((2 : Int) ≠ 0), (decide (n < 0) == false), (decide (n < 0) == false)]) := by kernel_rfl
theorem run30zf (f g : Nat → BitVec 8) (n : Int) : endsAs 2 (some [0, 1, 3]) [⟨.gen (c8 16 f), .ro⟩, ⟨.gen (c8 8 g), .ro⟩, ⟨.gen (c8 8 (outS false (nf8 16 f) (nf8 8 g) 64)), .own⟩] (.tup [.sl 2 (.c 0) (.c 8) (some (.c 8)), .bool (.c true)]) (goB specsTea noLoop 30 [.sl 0 (.c 0) (.c 16) none, .sl 1 (.c 0) (.c 8) none, .int .i64 (.s n), .bool (.c false)] ⟨[⟨.gen (c8 16 f), .ro⟩, ⟨.gen (c8 8 g), .ro⟩], big, [false, false, false, false, false, true], []⟩) = some ([⟨.gen (c8 16 f), .ro⟩, ⟨.gen (c8 8 g), .ro⟩, ⟨.gen (c8 8 (outS false (nf8 16 f) (nf8 8 g) 64)), .own⟩], (.tup [.sl 2 (.c 0) (.c 8) (some (.c 8)), .bool (.c true)]), [decide (((0 : Int) ≤ 64 ∧ (64 : Int) ≤ 4096)), ((n == 0) == true), ((!((Int.tmod n 2) == 0)) == false), (decide (n < 0) == false), (decide (n < 0) == false), decide ((2 : Int) ≠ 0), (decide (n < 0) == false), (decide (n < 0) == false)]) := by kernel_rfl
theorem run30nf (f g : Nat → BitVec 8) (n : Int) : endsAs 2 (some [0, 1, 3]) [⟨.gen (c8 16 f), .ro⟩, ⟨.gen (c8 8 g), .ro⟩, ⟨.gen (c8 8 (outS false (nf8 16 f) (nf8 8 g) n)), .own⟩] (.tup [.sl 2 (.c 0) (.c 8) (some (.c 8)), .bool (.c true)]) (goB specsTea noLoop 30 [.sl 0 (.c 0) (.c 16) none, .sl 1 (.c 0) (.c 8) none, .int .i64 (.s n), .bool (.c false)] ⟨[⟨.gen (c8 16 f), .ro⟩, ⟨.gen (c8 8 g), .ro⟩], big, [false, false, false, false, false, false], []⟩) = some ([⟨.gen (c8 16 f), .ro⟩, ⟨.gen (c8 8 g), .ro⟩, ⟨.gen (c8 8 (outS false (nf8 16 f) (nf8 8 g) n)), .own⟩], (.tup [.sl 2 (.c 0) (.c 8) (some (.c 8)), .bool (.c true)]), [decide (((0 : Int) ≤ n ∧ n ≤ 4096)), ((n == 0) == false), ((!((Int.tmod n 2) == 0)) == false), (decide (n < 0) == false), (decide (n < 0) == false), decide ((2 : Int) ≠ 0), (decide (n < 0) == false), (decide (n < 0) == false)]) := by kernel_rfl
def tK (f g out : Nat → BitVec 8) : List Blk := [⟨.gen (c8 16 f), .ro⟩, ⟨.gen (c8 8 g), .ro⟩, ⟨.gen (c8 8 out), .own⟩]
def tV : AV := .tup [.sl 2 (.c 0) (.c 8) (some (.c 8)), .bool (.c true)]
def tA (n : Int) (w : Bool) : List AV := [.sl 0 (.c 0) (.c 16) none, .sl 1 (.c 0) (.c 8) none, .int .i64 (.s n), .bool (.c w)]
def tH (f g : Nat → BitVec 8) : List Blk := [⟨.gen (c8 16 f), .ro⟩, ⟨.gen (c8 8 g), .ro⟩]
def Runs (F : FuncId) (out : Bool → (Nat → BitVec 8) → (Nat → BitVec 8) → Int → Nat → BitVec 8) : Prop := ∀ (w : Bool) (f g : Nat → BitVec 8) (n : Int), 0 ≤ n ∧ n ≤ 4096 ∧ n % 2 = 0 →
  ∃ i dec cs, endsAs 2 (some [0, 1, i]) (tK f g (out w (nf8 16 f) (nf8 8 g) (rnd n))) tV (goB specsTea noLoop F (tA n w) ⟨tH f g, big, dec, []⟩) = some (tK f g (out w (nf8 16 f) (nf8 8 g) (rnd n)), tV, cs) ∧ ∀ x ∈ cs, x = true
theorem even_and {n : Int} (h0 : 0 ≤ n) (h : n % 2 = 0) : (((n.toNat &&& 1 : Nat) : Int) == 0) = true := by
  rw [Nat.and_one_is_mod, beq_iff_eq]; omega
theorem even_tmod {n : Int} (h0 : 0 ≤ n) (h : n % 2 = 0) : (Int.tmod n 2 == 0) = true := by
  rw [Int.tmod_eq_emod_of_nonneg h0, beq_iff_eq]; exact h
theorem runs29 : Runs 29 outI := by
  intro w f g n ⟨h1, h2, h3⟩
  have e1 := even_and h1 h3
  have e2 := even_tmod h1 h3
  by_cases hz : n = 0
  · have hr : rnd n = 64 := by simp [rnd, hz]
    rw [hr]
    cases w with
    | true =>
      refine ⟨_, _, _, run29zt f g n, ?_⟩
      repeat' (refine all_true_cons ?_ ?_)
      all_goals first | exact all_true_nil | (simp only [hz, decide_eq_true_eq]; omega) | (rw [e2]; rfl) | (simp [hz]; done)
    | false =>
      refine ⟨_, _, _, run29zf f g n, ?_⟩
      repeat' (refine all_true_cons ?_ ?_)
      all_goals first | exact all_true_nil | (simp only [hz, decide_eq_true_eq]; omega) | (rw [e2]; rfl) | (simp [hz]; done)
  · have hr : rnd n = n := by simp [rnd, hz]
    rw [hr]
    have e3 : (n == 0) = false := by simpa using hz
    have e4 : decide (n < 0) = false := by simp; omega
    cases w with
    | true =>
      refine ⟨_, _, _, run29nt f g n, ?_⟩
      repeat' (refine all_true_cons ?_ ?_)
      all_goals first | exact all_true_nil | (simp only [decide_eq_true_eq]; omega) | (rw [e1]; rfl) | (rw [e2]; rfl) | (rw [e3]; rfl) | (rw [e4]; rfl)
    | false =>
      refine ⟨_, _, _, run29nf f g n, ?_⟩
      repeat' (refine all_true_cons ?_ ?_)
      all_goals first | exact all_true_nil | (simp only [decide_eq_true_eq]; omega) | (rw [e1]; rfl) | (rw [e2]; rfl) | (rw [e3]; rfl) | (rw [e4]; rfl)
theorem runs30 : Runs 30 outS := by
  intro w f g n ⟨h1, h2, h3⟩
  have e1 := even_and h1 h3
  have e2 := even_tmod h1 h3
  by_cases hz : n = 0
  · have hr : rnd n = 64 := by simp [rnd, hz]
    rw [hr]
    cases w with
    | true =>
      refine ⟨_, _, _, run30zt f g n, ?_⟩
      repeat' (refine all_true_cons ?_ ?_)
      all_goals first | exact all_true_nil | (simp only [hz, decide_eq_true_eq]; omega) | (rw [e2]; rfl) | (simp [hz]; done)
    | false =>
      refine ⟨_, _, _, run30zf f g n, ?_⟩
      repeat' (refine all_true_cons ?_ ?_)
      all_goals first | exact all_true_nil | (simp only [hz, decide_eq_true_eq]; omega) | (rw [e2]; rfl) | (simp [hz]; done)
  · have hr : rnd n = n := by simp [rnd, hz]
    rw [hr]
    have e3 : (n == 0) = false := by simpa using hz
    have e4 : decide (n < 0) = false := by simp; omega
    cases w with
    | true =>
      refine ⟨_, _, _, run30nt f g n, ?_⟩
      repeat' (refine all_true_cons ?_ ?_)
      all_goals first | exact all_true_nil | (simp only [decide_eq_true_eq]; omega) | (rw [e1]; rfl) | (rw [e2]; rfl) | (rw [e3]; rfl) | (rw [e4]; rfl)
    | false =>
      refine ⟨_, _, _, run30nf f g n, ?_⟩
      repeat' (refine all_true_cons ?_ ?_)
      all_goals first | exact all_true_nil | (simp only [decide_eq_true_eq]; omega) | (rw [e1]; rfl) | (rw [e2]; rfl) | (rw [e3]; rfl) | (rw [e4]; rfl)
def tRes (k0 k1 : Blk) (out : Nat → BitVec 8) (n : Int) (dec : List Bool) : SRes := ⟨tV, [k0, k1, ⟨.gen (c8 8 out), .own⟩], dec, [decide (0 ≤ n ∧ n ≤ 4096 ∧ n % 2 = 0)]⟩
def spT (out : Bool → (Nat → BitVec 8) → (Nat → BitVec 8) → Int → Nat → BitVec 8) : Eng.Spec := fun args H dec =>
  match args with
  | [.ref (.sl 0 (.c 0) (.c n) _), .ref (.sl 1 (.c 0) (.c m) _), .num (.int .i64 z), .atom (.bool (.c w))] =>
    match H with
    | [⟨d0, m0⟩, ⟨d1, m1⟩] =>
      match gen8 16 d0, gen8 8 d1, isDead m0, isDead m1, Nat.beq n 16, Nat.beq m 8 with
      | some f, some g, false, false, true, true => some (tRes ⟨d0, m0⟩ ⟨d1, m1⟩ (out w (nf8 16 f) (nf8 8 g) (rnd z.v)) z.v dec)
      | _, _, _, _, _, _ => none
    | _ => none
  | _ => none
theorem spT_inv {out : Bool → (Nat → BitVec 8) → (Nat → BitVec 8) → Int → Nat → BitVec 8} {args : List AV} {H : List Blk} {dec : List Bool} {r : SRes} (h : spT out args H dec = some r) :
    ∃ c0 c1 z w d0 m0 d1 m1 f g, args = [.sl 0 (.c 0) (.c 16) c0, .sl 1 (.c 0) (.c 8) c1, .int .i64 z, .bool (.c w)] ∧ H = [⟨d0, m0⟩, ⟨d1, m1⟩] ∧ gen8 16 d0 = some f ∧ gen8 8 d1 = some g ∧ isDead m0 = false ∧ isDead m1 = false ∧ r = tRes ⟨d0, m0⟩ ⟨d1, m1⟩ (out w (nf8 16 f) (nf8 8 g) (rnd z.v)) z.v dec := by
  unfold spT at h
  split at h
  case h_2 => cases h
  split at h
  case h_2 => cases h
  split at h
  case h_2 => cases h
  rename_i h1 h2 h3 h4 h5 h6
  injection h with h; subst h
  have h5 := Nat.eq_of_beq_eq_true h5
  have h6 := Nat.eq_of_beq_eq_true h6
  subst h5 h6
  exact ⟨_, _, _, _, _, _, _, _, _, _, rfl, rfl, h1, h2, h3, h4, rfl⟩
theorem okT {F : FuncId} {out : Bool → (Nat → BitVec 8) → (Nat → BitVec 8) → Int → Nat → BitVec 8} (hruns : Runs F out) : SpecOk Try.prog noGlob F (spT out) := by
  refine SpecOk.ends (goB_ok specsTea_ok (no_loops _)) (fun args H dec r hr hc => ?_) (fun args H dec r hr i k hk hm => ?_)
  · obtain ⟨c0, c1, z, w, d0, m0, d1, m1, a, g, rfl, rfl, h1, h2, h3, h4, rfl⟩ := spT_inv hr
    have hd := of_decide_eq_true (hc _ (List.mem_singleton.2 rfl))
    obtain ⟨i, dec', cs, r1, r2⟩ := hruns w a g z.v hd
    refine ⟨tA z.v w, tH a g, _, _, dec', some [0, 1, i], _, _, rfl, ?_, r1, r2, ?_⟩
    · rcases isDead_mode h3 with rfl | rfl <;> rcases isDead_mode h4 with rfl | rfl <;> simp only [tH, cH, cB, gen8_fit h1, gen8_fit h2]
    · rcases isDead_mode h3 with rfl | rfl <;> rcases isDead_mode h4 with rfl | rfl <;> rfl
  · obtain ⟨c0, c1, z, w, d0, m0, d1, m1, a, g, rfl, rfl, h1, h2, h3, h4, rfl⟩ := spT_inv hr
    match i, hk with
    | 0, hk => simp [tRes] at hk; subst hk; exact ⟨_, rfl, hm⟩
    | 1, hk => simp [tRes] at hk; subst hk; exact ⟨_, rfl, hm⟩
    | 2, hk => simp [tRes] at hk; subst hk; cases hm
    | i + 3, hk => simp [tRes] at hk
def specsTL : FuncId → Option Eng.Spec
  | 15 => some spEqual
  | 18 => some sp18
  | 29 => some (spT outI)
  | 30 => some (spT outS)
  | _ => none
theorem specsTL_ok : ∀ f sp, specsTL f = some sp → SpecOk Try.prog noGlob f sp := by
  intro f sp h
  unfold specsTL at h
  split at h
  · injection h with h; subst h; exact okEqual
  · injection h with h; subst h; exact ok18
  · injection h with h; subst h; exact okT runs29
  · injection h with h; subst h; exact okT runs30
  · cases h
/-! What they make is the same, and is undone. -/
theorem kOf_eq (f : Nat → BitVec 8) : kOf f = kOf' f := by simp only [kOf, kOf', bel_be]
theorem iterE (m : Nat) : ∀ d : TeaD, (iter nextE m d).t = iter (tE d.k) m d.t := by
  induction m with
  | zero => intro d; rfl
  | succ m ih => intro d; rw [iter, iter, ih]; rfl
theorem iterD (m : Nat) : ∀ d : TeaD, (iter nextD m d).t = iter (tD d.k) m d.t := by
  induction m with
  | zero => intro d; rfl
  | succ m ih => intro d; rw [iter, iter, ih]; rfl
theorem iterSE (m : Nat) : ∀ d : TeaD, (iter nextSE m d).t = iter (tE (kGold d.k)) m d.t := by
  induction m with
  | zero => intro d; rfl
  | succ m ih => intro d; rw [iter, iter, ih]; rfl
theorem iterSD (m : Nat) : ∀ d : TeaD, (iter nextSD m d).t = iter (tD (kGold d.k)) m d.t := by
  induction m with
  | zero => intro d; rfl
  | succ m ih => intro d; rw [iter, iter, ih]; rfl
def half (n : Int) : Nat := (n.tdiv 2 - 0).toNat
/-- A block's words, ahead of the rounds. -/
def tIn (g : Nat → BitVec 8) (s : BitVec 32) : TeaS := ⟨be g 0, be g 4, s⟩
theorem dE_eq (f g : Nat → BitVec 8) (n : Int) : dE f g n = ⟨kOf' f, tIn g 0#32, n, 0⟩ := by unfold dE tIn; rw [kOf_eq, bel_be, bel_be]
theorem dD_eq (f g : Nat → BitVec 8) (n : Int) : dD f g n = ⟨kOf' f, tIn g (BitVec.ofInt 32 (n.tdiv 2) * gold), n, 0⟩ := by unfold dD tIn; rw [kOf_eq, bel_be, bel_be, BitVec.mul_comm gold]
theorem outE_eq (f g : Nat → BitVec 8) (n : Int) : outE f g n = unbe (iter (tE (kOf' f)) (half n) (tIn g 0#32)).x (iter (tE (kOf' f)) (half n) (tIn g 0#32)).y := by
  unfold outE half
  rw [iterE, dE_eq]
theorem outD_eq (f g : Nat → BitVec 8) (n : Int) : outD f g n = unbe (iter (tD (kOf' f)) (half n) (tIn g (BitVec.ofInt 32 (n.tdiv 2) * gold))).x (iter (tD (kOf' f)) (half n) (tIn g (BitVec.ofInt 32 (n.tdiv 2) * gold))).y := by
  unfold outD half
  rw [iterD, dD_eq]
theorem outSE_eq (f g : Nat → BitVec 8) (n : Int) : outSE f g n = outE f g n := by
  rw [outE_eq]
  unfold outSE
  rw [iterSE]; rfl
theorem outSD_eq (f g : Nat → BitVec 8) (n : Int) : outSD f g n = outD f g n := by
  rw [outD_eq]
  unfold outSD
  rw [iterSD]; rfl
theorem outS_eq (w : Bool) (f g : Nat → BitVec 8) (n : Int) : outS w f g n = outI w f g n := by
  cases w
  · exact outSE_eq f g n
  · exact outSD_eq f g n
theorem half_ofInt {n : Int} (h0 : 0 ≤ n) : BitVec.ofInt 32 (n.tdiv 2) = BitVec.ofNat 32 (half n) := by
  have h1 : n.tdiv 2 = n / 2 := Int.tdiv_eq_ediv_of_nonneg h0
  have h2 : n.tdiv 2 = ((half n : Nat) : Int) := by unfold half; omega
  rw [h2]; exact BitVec.ofInt_natCast ..
theorem tIn_unbe (t : TeaS) : tIn (unbe t.x t.y) t.s = t := by
  obtain ⟨x, y, s⟩ := t
  simp only [tIn, (be_unbe x y).1, (be_unbe x y).2]
theorem tea_back (w : Bool) (f g : Nat → BitVec 8) (n : Int) (h0 : 0 ≤ n) (i : Nat) (hi : i < 8) : outI (!w) f (outI w f g n) n i = g i := by
  cases w with
  | false =>
    show outD f (outE f g n) n i = g i
    have hs := tE_sum (kOf' f) (half n) (tIn g 0#32)
    have e : BitVec.ofInt 32 (n.tdiv 2) * gold = (iter (tE (kOf' f)) (half n) (tIn g 0#32)).s := by
      rw [hs, half_ofInt h0]; show _ = 0#32 + _ * gold; rw [BitVec.zero_add]
    rw [outD_eq, outE_eq, e, tIn_unbe, iter_back (tDE (kOf' f))]
    exact unbe_be g i hi
  | true =>
    show outE f (outD f g n) n i = g i
    have hs := tD_sum (kOf' f) (half n) (tIn g (BitVec.ofInt 32 (n.tdiv 2) * gold))
    have e : 0#32 = (iter (tD (kOf' f)) (half n) (tIn g (BitVec.ofInt 32 (n.tdiv 2) * gold))).s := by
      rw [hs, ← half_ofInt h0]; show _ = BitVec.ofInt 32 (n.tdiv 2) * gold - BitVec.ofInt 32 (n.tdiv 2) * gold; rw [BitVec.sub_self]
    rw [outE_eq, outD_eq, e, tIn_unbe, iter_back (tED (kOf' f))]
    exact unbe_be g i hi
theorem tIn_congr {g g' : Nat → BitVec 8} (h : ∀ i, i < 8 → g i = g' i) (s : BitVec 32) : tIn g s = tIn g' s := by
  unfold tIn be
  rw [h 0 (by omega), h (0 + 1) (by omega), h (0 + 2) (by omega), h (0 + 3) (by omega), h 4 (by omega), h (4 + 1) (by omega), h (4 + 2) (by omega), h (4 + 3) (by omega)]
theorem outI_congr (w : Bool) (f : Nat → BitVec 8) {g g' : Nat → BitVec 8} (h : ∀ i, i < 8 → g i = g' i) (n : Int) : outI w f g n = outI w f g' n := by
  cases w with
  | false => show outE f g n = outE f g' n; rw [outE_eq, outE_eq, tIn_congr h]
  | true => show outD f g n = outD f g' n; rw [outD_eq, outD_eq, tIn_congr h]
end Go.Proofs.Ytcjoocaabeckfaa

/- strconv.Atoi, checkCost. No condition. -/
import Derived.Test.YtacdmigmccfcfaaDoorB1Sy
namespace Go.Proofs.YtacdmigmccfcfaaDoor
set_option linter.unusedVariables false
set_option linter.unusedSimpArgs false
set_option linter.unusedSectionVars false
open Go.RowKit Go.Extern.Stop Go.Stop Go.Extern
open Go.Eng (Still)
/-- A digit's worth. -/
def dg (b : UInt8) : Int := ((b.toNat : Int) - 48) % 256
/-- What two bytes tell. -/
def atoiR (b0 b1 : UInt8) : Option Int :=
  if b0 = 45 then (if 9 < dg b1 then none else some (-dg b1))
  else if b0 = 43 then (if 9 < dg b1 then none else some (dg b1))
  else if 9 < dg b0 then none else if 9 < dg b1 then none else some (dg b0 * 10 + dg b1)
theorem dg_nonneg (b : UInt8) : 0 ≤ dg b := Int.emod_nonneg _ (by decide)
theorem is_yes {b : UInt8} {n : UInt8} (h : b = n) : ((b.toNat : Int) == (n.toNat : Int)) = true := by subst h; simp
theorem is_no {b : UInt8} {n : UInt8} (h : ¬ b = n) : ((b.toNat : Int) == (n.toNat : Int)) = false := by
  simp only [beq_eq_false_iff_ne, ne_eq]
  intro e
  exact h (UInt8.toNat_inj.1 (Int.ofNat.inj e))
theorem atoi_32 (b0 b1 : UInt8) (w : World) :
    Calls Tryd.prog 32 #[.string ⟨#[b0, b1]⟩] w fun e w' => e = .returned (match atoiR b0 b1 with | some n => .tuple #[.int .i64 n, .nilIface] | none => .tuple #[.int .i64 0, .iface 92 (.int .i64 2)]) ∧ Still w w' := by
  unfold atoiR
  by_cases h45 : b0 = 45
  · rw [if_pos h45]
    by_cases g : 9 < dg b1
    · rw [if_pos g]
      exact atoi_m_bad b0 b1 _ w (is_yes (n := 45) h45) rfl g
    · rw [if_neg g]
      exact atoi_m b0 b1 _ w (is_yes (n := 45) h45) rfl g (dg_nonneg _)
  · rw [if_neg h45]
    by_cases h43 : b0 = 43
    · rw [if_pos h43]
      by_cases g : 9 < dg b1
      · rw [if_pos g]
        exact atoi_p_bad b0 b1 _ w (is_yes (n := 43) h43) (is_no (n := 45) h45) rfl g
      · rw [if_neg g]
        exact atoi_p b0 b1 _ w (is_yes (n := 43) h43) (is_no (n := 45) h45) rfl g (dg_nonneg _)
    · rw [if_neg h43]
      by_cases g0 : 9 < dg b0
      · rw [if_pos g0]
        exact atoi_bad0 b0 b1 _ 0 w (is_no (n := 45) h45) (is_no (n := 43) h43) rfl g0
      · rw [if_neg g0]
        by_cases g : 9 < dg b1
        · rw [if_pos g]
          exact atoi_bad1 b0 b1 _ _ w (is_no (n := 45) h45) (is_no (n := 43) h43) rfl g0 rfl g
        · rw [if_neg g]
          exact atoi_two b0 b1 _ _ w (is_no (n := 45) h45) (is_no (n := 43) h43) rfl g0 rfl g (dg_nonneg _) (dg_nonneg _)
theorem atoi_lo {b0 b1 : UInt8} {n : Int} (h : atoiR b0 b1 = some n) : -9 ≤ n ∧ n ≤ 99 := by
  have p0 := dg_nonneg b0
  have p1 := dg_nonneg b1
  unfold atoiR at h
  split at h
  · split at h
    · cases h
    · cases h; omega
  · split at h
    · split at h
      · cases h
      · cases h; omega
    · split at h
      · cases h
      · split at h
        · cases h
        · cases h; omega
set_option maxHeartbeats 4000000 in
theorem atoi_some (b0 b1 : UInt8) (n : Int) (w : World) (h : atoiR b0 b1 = some n) :
    Calls Tryd.prog 27 #[.string ⟨#[b0, b1]⟩] w fun e w' => e = .returned (.tuple #[.int .i64 n, .nilIface]) ∧ Still w w' := by
  have h32 := atoi_32 b0 b1 w
  rw [h] at h32
  go_enter Tryd.func27, Tryd.ntmps27
  go_wp2_with (go_at_call 32; refine h32.mono ?_; rintro e w2 ⟨rfl, hs⟩)
  go_ret2
  exact ⟨rfl, hs⟩
set_option maxHeartbeats 4000000 in
theorem atoi_none {a0 a1 aS : Addr} (b0 b1 : UInt8) (w : World) (g : Gs a0 a1 aS w) (h : atoiR b0 b1 = none) :
    Calls Tryd.prog 27 #[.string ⟨#[b0, b1]⟩] w fun e w' => ∃ N, e = .returned (.tuple #[.int .i64 0, .iface 95 (.pointer (some ⟨N, 0, none⟩))]) ∧ w'.cell? ⟨N, 2, none⟩ = some (.iface 109 (.pointer (some aS))) ∧ Still w w' := by
  have h32 := atoi_32 b0 b1 w
  rw [h] at h32
  go_enter Tryd.func27, Tryd.ntmps27
  go_wp2_with (first
    | (go_at_call 32; refine h32.mono ?_; rintro e w2 ⟨rfl, hs⟩)
    | (have _ := hs; go_at_call 33; refine (toError_two (a0 := a0) (a1 := a1) (aS := aS) _ b0 b1 _ _ _ ?_).mono ?_; exact g.keep hs; rintro e w3 ⟨N, rfl, h1, h2, h3⟩))
  go_ret2
  exact ⟨N, rfl, by simp [World.cell?, h2], still_trans hs h3⟩
set_option maxHeartbeats 4000000 in
theorem check_ok (n : Int) (w : World) (h4 : (decide (n < 4)) = false) (h31 : (decide (31 < n)) = false) :
    Calls Tryd.prog 28 #[.int .i64 n] w fun e w' => e = .returned .nilIface ∧ w' = w := by
  have h4' : ¬ n < 4 := of_decide_eq_false h4
  have h31' : ¬ 31 < n := of_decide_eq_false h31
  go_enter Tryd.func28, Tryd.ntmps28
  go_wp2
  go_ret
  exact ⟨rfl, rfl⟩
set_option maxHeartbeats 4000000 in
theorem check_bad (n : Int) (w : World) (h : n < 4 ∨ 31 < n) :
    Calls Tryd.prog 28 #[.int .i64 n] w fun e w' => e = .returned (.iface 43 (.int .i64 n)) ∧ w' = w := by
  by_cases h4 : n < 4
  · go_enter Tryd.func28, Tryd.ntmps28
    go_wp2
    go_ret
    exact ⟨rfl, rfl⟩
  · have h31 : 31 < n := h.resolve_left h4
    go_enter Tryd.func28, Tryd.ntmps28
    go_wp2
    go_ret
    exact ⟨rfl, rfl⟩
end Go.Proofs.YtacdmigmccfcfaaDoor

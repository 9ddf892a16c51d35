/- Numbers read from two bytes. No condition. -/
import Derived.Test.YtacdmigmccfcfaaDoorB1K2
import Derived.Laws.IdiomStrings
namespace Go.Proofs.YtacdmigmccfcfaaDoor
set_option linter.unusedVariables false
set_option linter.unusedSimpArgs false
set_option linter.unusedSectionVars false
open Go.RowKit Go.Extern.Stop Go.Stop Go.Extern
open Go.Eng (Still)
/-- '[]byte(s)' of two bytes. -/
theorem conv2 (b0 b1 : UInt8) (w : World) : ∃ w1 cap, (convert 9 22 (.string ⟨#[b0, b1]⟩)).run Tryd.prog w = .ok (.slice (some ⟨w.heap.size, 0, none⟩) 2 cap) w1 ∧ Still w w1 ∧
    w1.cell? ⟨w.heap.size, 0, none⟩ = some (.int .u8 b0.toNat) ∧ w1.cell? ⟨w.heap.size, 1, none⟩ = some (.int .u8 b1.toNat) := by
  refine ⟨_, _, run_bytes_of_string (P := Tryd.prog) w 9 22 5 ⟨#[b0, b1]⟩ Tryd.underlying9 Tryd.underlying22 Tryd.underlying5, ?_, ?_, ?_⟩
  · exact still_trans (b := w.drew) ⟨rfl, rfl, Nat.le_refl _, fun _ _ => rfl⟩ (still_alloc _ _)
  · have := World.cell?_alloc_mark w.drew (bytesRow ⟨#[b0, b1]⟩ (grownCap w (ByteArray.size ⟨#[b0, b1]⟩) 0 5)) 5 ((bytesRow ⟨#[b0, b1]⟩ (grownCap w (ByteArray.size ⟨#[b0, b1]⟩) 0 5)).size, (bytesRow ⟨#[b0, b1]⟩ (grownCap w (ByteArray.size ⟨#[b0, b1]⟩) 0 5)).size + 1) 0
    exact this.trans (bytesRow_at ⟨#[b0, b1]⟩ _ 0 (Nat.succ_pos 1))
  · have := World.cell?_alloc_mark w.drew (bytesRow ⟨#[b0, b1]⟩ (grownCap w (ByteArray.size ⟨#[b0, b1]⟩) 0 5)) 5 ((bytesRow ⟨#[b0, b1]⟩ (grownCap w (ByteArray.size ⟨#[b0, b1]⟩) 0 5)).size, (bytesRow ⟨#[b0, b1]⟩ (grownCap w (ByteArray.size ⟨#[b0, b1]⟩) 0 5)).size + 1) 1
    exact this.trans (bytesRow_at ⟨#[b0, b1]⟩ _ 1 (Nat.lt_succ_self 1))
theorem conv1 (b1 : UInt8) (w : World) : ∃ w1 cap, (convert 9 22 (.string ⟨#[b1]⟩)).run Tryd.prog w = .ok (.slice (some ⟨w.heap.size, 0, none⟩) 1 cap) w1 ∧ Still w w1 ∧
    w1.cell? ⟨w.heap.size, 0, none⟩ = some (.int .u8 b1.toNat) := by
  refine ⟨_, _, run_bytes_of_string (P := Tryd.prog) w 9 22 5 ⟨#[b1]⟩ Tryd.underlying9 Tryd.underlying22 Tryd.underlying5, ?_, ?_⟩
  · exact still_trans (b := w.drew) ⟨rfl, rfl, Nat.le_refl _, fun _ _ => rfl⟩ (still_alloc _ _)
  · have := World.cell?_alloc_mark w.drew (bytesRow ⟨#[b1]⟩ (grownCap w (ByteArray.size ⟨#[b1]⟩) 0 5)) 5 ((bytesRow ⟨#[b1]⟩ (grownCap w (ByteArray.size ⟨#[b1]⟩) 0 5)).size, (bytesRow ⟨#[b1]⟩ (grownCap w (ByteArray.size ⟨#[b1]⟩) 0 5)).size + 1) 0
    exact this.trans (bytesRow_at ⟨#[b1]⟩ _ 0 (Nat.succ_pos 0))
theorem ix0 (b0 b1 : UInt8) (h : 0 < (⟨#[b0, b1]⟩ : ByteArray).size) : (⟨#[b0, b1]⟩ : ByteArray)[0]'h = b0 := rfl
theorem ext1 (b0 b1 : UInt8) : (⟨#[b0, b1]⟩ : ByteArray).extract 1 2 = ⟨#[b1]⟩ := rfl
theorem wrap_lo (x : Int) (h1 : -1000 ≤ x) (h2 : x ≤ 1000) : IntKind.i64.wrap x = x := by
  have h : IntKind.i64.wrap x = if 9223372036854775808 ≤ x % 18446744073709551616 then x % 18446744073709551616 - 18446744073709551616 else x % 18446744073709551616 := by
    simp [IntKind.wrap, IntKind.bits, IntKind.signed]
  rw [h]
  by_cases hx : 0 ≤ x
  · have e : x % 18446744073709551616 = x := Int.emod_eq_of_lt hx (by omega)
    rw [e, if_neg (by omega)]
  · have e : x % 18446744073709551616 = x + 18446744073709551616 := by
      rw [← Int.add_emod_right]
      exact Int.emod_eq_of_lt (by omega) (by omega)
    rw [e, if_pos (by omega)]
    omega
set_option maxRecDepth 20000 in
set_option maxHeartbeats 4000000 in
theorem atoi_bad0 (b0 b1 : UInt8) (d0 d1 : Int) (w : World) (h45 : ((b0.toNat : Int) == 45) = false) (h43 : ((b0.toNat : Int) == 43) = false) (e0 : ((b0.toNat : Int) - 48) % 256 = d0) (g0 : 9 < d0) :
    Calls Tryd.prog 32 #[.string ⟨#[b0, b1]⟩] w fun e w' => e = .returned (.tuple #[.int .i64 0, .iface 92 (.int .i64 2)]) ∧ Still w w' := by
  obtain ⟨w1, cap, hcv, hs, c0, c1⟩ := conv2 b0 b1 w
  have ix := ix0 b0 b1
  go_enter Tryd.func32, Tryd.ntmps32
  go_wp2
  refine wp_loop_rounds 1 ?_
  rw [rounds_succ]
  go_wp2
  go_ret2
  exact ⟨rfl, hs⟩
set_option maxRecDepth 20000 in
set_option maxHeartbeats 4000000 in
theorem atoi_bad1 (b0 b1 : UInt8) (d0 d1 : Int) (w : World) (h45 : ((b0.toNat : Int) == 45) = false) (h43 : ((b0.toNat : Int) == 43) = false) (e0 : ((b0.toNat : Int) - 48) % 256 = d0) (g0 : ¬ 9 < d0) (e1 : ((b1.toNat : Int) - 48) % 256 = d1) (g1 : 9 < d1) :
    Calls Tryd.prog 32 #[.string ⟨#[b0, b1]⟩] w fun e w' => e = .returned (.tuple #[.int .i64 0, .iface 92 (.int .i64 2)]) ∧ Still w w' := by
  obtain ⟨w1, cap, hcv, hs, c0, c1⟩ := conv2 b0 b1 w
  have ix := ix0 b0 b1
  go_enter Tryd.func32, Tryd.ntmps32
  go_wp2
  refine wp_loop_rounds 2 ?_
  rw [rounds_succ]
  go_wp2
  rw [rounds_succ]
  go_wp2
  go_ret2
  exact ⟨rfl, hs⟩
set_option maxRecDepth 20000 in
set_option maxHeartbeats 4000000 in
theorem atoi_two (b0 b1 : UInt8) (d0 d1 : Int) (w : World) (h45 : ((b0.toNat : Int) == 45) = false) (h43 : ((b0.toNat : Int) == 43) = false) (e0 : ((b0.toNat : Int) - 48) % 256 = d0) (g0 : ¬ 9 < d0) (e1 : ((b1.toNat : Int) - 48) % 256 = d1) (g1 : ¬ 9 < d1) (p1 : 0 ≤ d1) (p0 : 0 ≤ d0) :
    Calls Tryd.prog 32 #[.string ⟨#[b0, b1]⟩] w fun e w' => e = .returned (.tuple #[.int .i64 (d0 * 10 + d1), .nilIface]) ∧ Still w w' := by
  obtain ⟨w1, cap, hcv, hs, c0, c1⟩ := conv2 b0 b1 w
  have ix := ix0 b0 b1
  have q0 : IntKind.i64.wrap d0 = d0 := wrap_lo d0 (by omega) (by omega)
  have q1 : IntKind.i64.wrap (d0 * 10) = d0 * 10 := wrap_lo _ (by omega) (by omega)
  have q2 : IntKind.i64.wrap (d0 * 10 + d1) = d0 * 10 + d1 := wrap_lo _ (by omega) (by omega)
  have q3 : IntKind.i64.wrap d1 = d1 := wrap_lo d1 (by omega) (by omega)
  go_enter Tryd.func32, Tryd.ntmps32
  go_wp2
  refine wp_loop_rounds 3 ?_
  rw [rounds_succ]
  go_wp2
  rw [rounds_succ]
  go_wp2
  rw [rounds_succ]
  go_wp2
  go_ret2
  exact ⟨rfl, hs⟩
set_option maxRecDepth 20000 in
set_option maxHeartbeats 4000000 in
theorem atoi_m_bad (b0 b1 : UInt8) (d1 : Int) (w : World) (h45 : ((b0.toNat : Int) == 45) = true) (e1 : ((b1.toNat : Int) - 48) % 256 = d1) (g1 : 9 < d1) :
    Calls Tryd.prog 32 #[.string ⟨#[b0, b1]⟩] w fun e w' => e = .returned (.tuple #[.int .i64 0, .iface 92 (.int .i64 2)]) ∧ Still w w' := by
  obtain ⟨w1, cap, hcv, hs, c0⟩ := conv1 b1 w
  have ex := ext1 b0 b1
  have ix := ix0 b0 b1
  go_enter Tryd.func32, Tryd.ntmps32
  go_wp2
  refine wp_loop_rounds 1 ?_
  rw [rounds_succ]
  go_wp2
  go_ret2
  exact ⟨rfl, hs⟩
set_option maxRecDepth 20000 in
set_option maxHeartbeats 4000000 in
theorem atoi_m (b0 b1 : UInt8) (d1 : Int) (w : World) (h45 : ((b0.toNat : Int) == 45) = true) (e1 : ((b1.toNat : Int) - 48) % 256 = d1) (g1 : ¬ 9 < d1) (p1 : 0 ≤ d1) :
    Calls Tryd.prog 32 #[.string ⟨#[b0, b1]⟩] w fun e w' => e = .returned (.tuple #[.int .i64 (-d1), .nilIface]) ∧ Still w w' := by
  obtain ⟨w1, cap, hcv, hs, c0⟩ := conv1 b1 w
  have ex := ext1 b0 b1
  have ix := ix0 b0 b1
  have q3 : IntKind.i64.wrap d1 = d1 := wrap_lo d1 (by omega) (by omega)
  have q4 : IntKind.i64.wrap (-d1) = -d1 := wrap_lo _ (by omega) (by omega)
  go_enter Tryd.func32, Tryd.ntmps32
  go_wp2
  refine wp_loop_rounds 2 ?_
  rw [rounds_succ]
  go_wp2
  rw [rounds_succ]
  go_wp2
  go_ret2
  exact ⟨rfl, hs⟩
set_option maxRecDepth 20000 in
set_option maxHeartbeats 4000000 in
theorem atoi_p_bad (b0 b1 : UInt8) (d1 : Int) (w : World) (h43 : ((b0.toNat : Int) == 43) = true) (h45 : ((b0.toNat : Int) == 45) = false) (e1 : ((b1.toNat : Int) - 48) % 256 = d1) (g1 : 9 < d1) :
    Calls Tryd.prog 32 #[.string ⟨#[b0, b1]⟩] w fun e w' => e = .returned (.tuple #[.int .i64 0, .iface 92 (.int .i64 2)]) ∧ Still w w' := by
  obtain ⟨w1, cap, hcv, hs, c0⟩ := conv1 b1 w
  have ex := ext1 b0 b1
  have ix := ix0 b0 b1
  go_enter Tryd.func32, Tryd.ntmps32
  go_wp2
  refine wp_loop_rounds 1 ?_
  rw [rounds_succ]
  go_wp2
  go_ret2
  exact ⟨rfl, hs⟩
set_option maxRecDepth 20000 in
set_option maxHeartbeats 4000000 in
theorem atoi_p (b0 b1 : UInt8) (d1 : Int) (w : World) (h43 : ((b0.toNat : Int) == 43) = true) (h45 : ((b0.toNat : Int) == 45) = false) (e1 : ((b1.toNat : Int) - 48) % 256 = d1) (g1 : ¬ 9 < d1) (p1 : 0 ≤ d1) :
    Calls Tryd.prog 32 #[.string ⟨#[b0, b1]⟩] w fun e w' => e = .returned (.tuple #[.int .i64 (d1), .nilIface]) ∧ Still w w' := by
  obtain ⟨w1, cap, hcv, hs, c0⟩ := conv1 b1 w
  have ex := ext1 b0 b1
  have ix := ix0 b0 b1
  have q3 : IntKind.i64.wrap d1 = d1 := wrap_lo d1 (by omega) (by omega)
  have q4 : IntKind.i64.wrap (-d1) = -d1 := wrap_lo _ (by omega) (by omega)
  go_enter Tryd.func32, Tryd.ntmps32
  go_wp2
  refine wp_loop_rounds 2 ?_
  rw [rounds_succ]
  go_wp2
  rw [rounds_succ]
  go_wp2
  go_ret2
  exact ⟨rfl, hs⟩
end Go.Proofs.YtacdmigmccfcfaaDoor

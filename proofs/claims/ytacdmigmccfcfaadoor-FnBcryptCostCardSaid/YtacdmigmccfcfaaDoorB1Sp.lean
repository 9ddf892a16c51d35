/- spec.BcryptCost. No condition. -/
import Derived.Test.YtacdmigmccfcfaaDoorB1Im
namespace Go.Proofs.YtacdmigmccfcfaaDoor
set_option linter.unusedVariables false
set_option linter.unusedSimpArgs false
set_option linter.unusedSectionVars false
open Go.RowKit Go.Extern.Stop Go.Stop Go.Extern
open Go.Eng (Still)
theorem back3 (b0 b1 b2 : UInt8) (b o cap : Nat) (w : World) (c0 : w.cell? ⟨b, o, none⟩ = some (.int .u8 b0.toNat)) (c1 : w.cell? ⟨b, o + 1, none⟩ = some (.int .u8 b1.toNat)) (c2 : w.cell? ⟨b, o + 2, none⟩ = some (.int .u8 b2.toNat)) :
    (convert 22 9 (.slice (some ⟨b, o, none⟩) 3 cap)).run Tryd.prog w = .ok (.string ⟨#[b0, b1, b2]⟩) w := by
  refine run_convert_bytes_back (P := Tryd.prog) w 22 9 5 ⟨b, o, none⟩ cap [b0, b1, b2] Tryd.underlying22 Tryd.underlying5 Tryd.underlying9 ?_
  intro j hj
  match j, hj with
  | 0, _ => exact c0
  | 1, _ => exact c1
  | 2, _ => exact c2
set_option maxHeartbeats 4000000 in
theorem sp_short (a : Option Addr) (len cap : Nat) (w : World) (hl : (len : Int) ≤ 28) :
    Calls Tryd.prog 6 #[.slice a len cap] w fun e w' => e = .returned (.tuple #[.int .i64 0, .int .i64 2, .bool true]) ∧ Still w w' := by
  go_enter Tryd.func6, Tryd.ntmps6
  go_wp2
  go_ret3
  exact ⟨rfl, still_refl w⟩
set_option maxHeartbeats 4000000 in
theorem sp_size (a : Option Addr) (len cap : Nat) (w : World) (hl : ¬ (len : Int) ≤ 28) (hl2 : ((len : Int) == 60) = false) :
    Calls Tryd.prog 6 #[.slice a len cap] w fun e w' => e = .returned (.tuple #[.int .i64 0, .int .i64 0, .bool false]) ∧ Still w w' := by
  go_enter Tryd.func6, Tryd.ntmps6
  go_wp2
  go_ret3
  exact ⟨rfl, still_refl w⟩
set_option maxRecDepth 20000 in
set_option maxHeartbeats 4000000 in
theorem sp_prefix (l0 : Int) (b o cap : Nat) (w : World) (c0 : w.cell? ⟨b, o, none⟩ = some (.int .u8 l0)) (h0 : ¬ l0 = 36) (hcap : 60 ≤ cap) :
    Calls Tryd.prog 6 #[.slice (some ⟨b, o, none⟩) 60 cap] w fun e w' => e = .returned (.tuple #[.int .i64 0, .int .i64 3, .bool true]) ∧ Still w w' := by
  go_enter Tryd.func6, Tryd.ntmps6
  go_wp2
  go_ret3
  exact ⟨rfl, still_refl w⟩
set_option maxRecDepth 20000 in
set_option maxHeartbeats 4000000 in
theorem sp_ver (l1 : Int) (b o cap : Nat) (w : World) (c0 : w.cell? ⟨b, o, none⟩ = some (.int .u8 36)) (c1 : w.cell? ⟨b, o + 1, none⟩ = some (.int .u8 l1)) (h1 : 50 < l1) (h1b : l1 ≤ 57) (hcap : 60 ≤ cap) :
    Calls Tryd.prog 6 #[.slice (some ⟨b, o, none⟩) 60 cap] w fun e w' => e = .returned (.tuple #[.int .i64 0, .int .i64 4, .bool true]) ∧ Still w w' := by
  go_enter Tryd.func6, Tryd.ntmps6
  go_wp2
  go_ret3
  exact ⟨rfl, still_refl w⟩
set_option maxRecDepth 20000 in
set_option maxHeartbeats 4000000 in
theorem sp_odd_a1 (l1 l2 l3 : UInt8) (b o cap : Nat) (w : World) (c0 : w.cell? ⟨b, o, none⟩ = some (.int .u8 36)) (c1 : w.cell? ⟨b, o + 1, none⟩ = some (.int .u8 l1.toNat)) (c2 : w.cell? ⟨b, o + 2, none⟩ = some (.int .u8 l2.toNat)) (c3 : w.cell? ⟨b, o + 3, none⟩ = some (.int .u8 l3.toNat)) (h1 : ¬ 50 < (l1.toNat : Int)) (hs : (l1 == 50) = false) (hcap : 60 ≤ cap) :
    Calls Tryd.prog 6 #[.slice (some ⟨b, o, none⟩) 60 cap] w fun e w' => e = .returned (.tuple #[.int .i64 0, .int .i64 0, .bool false]) ∧ Still w w' := by
  have c2' : w.cell? ⟨b, o + 1 + 1, none⟩ = some (.int .u8 l2.toNat) := c2
  have c3' : w.cell? ⟨b, o + 1 + 2, none⟩ = some (.int .u8 l3.toNat) := c3
  have hcv := back3 l1 l2 l3 b (o + 1) cap w c1 c2' c3'
  have hcv' := back3 l1 l2 l3 b (o + 1) (cap - 1) w c1 c2' c3'
  go_enter Tryd.func6, Tryd.ntmps6
  go_wp2
  go_ret3
  exact ⟨rfl, still_refl w⟩
set_option maxRecDepth 20000 in
set_option maxHeartbeats 4000000 in
theorem sp_odd_a2 (l2 l3 : UInt8) (b o cap : Nat) (w : World) (c0 : w.cell? ⟨b, o, none⟩ = some (.int .u8 36)) (c1 : w.cell? ⟨b, o + 1, none⟩ = some (.int .u8 50)) (c2 : w.cell? ⟨b, o + 2, none⟩ = some (.int .u8 l2.toNat)) (c3 : w.cell? ⟨b, o + 3, none⟩ = some (.int .u8 l3.toNat)) (hs : (l2 == 97) = false) (hcap : 60 ≤ cap) :
    Calls Tryd.prog 6 #[.slice (some ⟨b, o, none⟩) 60 cap] w fun e w' => e = .returned (.tuple #[.int .i64 0, .int .i64 0, .bool false]) ∧ Still w w' := by
  have c2' : w.cell? ⟨b, o + 1 + 1, none⟩ = some (.int .u8 l2.toNat) := c2
  have c3' : w.cell? ⟨b, o + 1 + 2, none⟩ = some (.int .u8 l3.toNat) := c3
  have hcv := back3 50 l2 l3 b (o + 1) cap w c1 c2' c3'
  have hcv' := back3 50 l2 l3 b (o + 1) (cap - 1) w c1 c2' c3'
  go_enter Tryd.func6, Tryd.ntmps6
  go_wp2
  go_ret3
  exact ⟨rfl, still_refl w⟩
set_option maxRecDepth 20000 in
set_option maxHeartbeats 4000000 in
theorem sp_odd_a3 (l3 : UInt8) (b o cap : Nat) (w : World) (c0 : w.cell? ⟨b, o, none⟩ = some (.int .u8 36)) (c1 : w.cell? ⟨b, o + 1, none⟩ = some (.int .u8 50)) (c2 : w.cell? ⟨b, o + 2, none⟩ = some (.int .u8 97)) (c3 : w.cell? ⟨b, o + 3, none⟩ = some (.int .u8 l3.toNat)) (hs : (l3 == 36) = false) (hcap : 60 ≤ cap) :
    Calls Tryd.prog 6 #[.slice (some ⟨b, o, none⟩) 60 cap] w fun e w' => e = .returned (.tuple #[.int .i64 0, .int .i64 0, .bool false]) ∧ Still w w' := by
  have c2' : w.cell? ⟨b, o + 1 + 1, none⟩ = some (.int .u8 97) := c2
  have c3' : w.cell? ⟨b, o + 1 + 2, none⟩ = some (.int .u8 l3.toNat) := c3
  have hcv := back3 50 97 l3 b (o + 1) cap w c1 c2' c3'
  have hcv' := back3 50 97 l3 b (o + 1) (cap - 1) w c1 c2' c3'
  go_enter Tryd.func6, Tryd.ntmps6
  go_wp2
  go_ret3
  exact ⟨rfl, still_refl w⟩
set_option maxRecDepth 20000 in
set_option maxHeartbeats 4000000 in
theorem sp_odd_b (l1 l2 l3 : UInt8) (b o cap : Nat) (w : World) (c0 : w.cell? ⟨b, o, none⟩ = some (.int .u8 36)) (c1 : w.cell? ⟨b, o + 1, none⟩ = some (.int .u8 l1.toNat)) (c2 : w.cell? ⟨b, o + 2, none⟩ = some (.int .u8 l2.toNat)) (c3 : w.cell? ⟨b, o + 3, none⟩ = some (.int .u8 l3.toNat)) (h1 : 50 < (l1.toNat : Int)) (h1b : ¬ (l1.toNat : Int) ≤ 57) (hs : (l1 == 50) = false) (hcap : 60 ≤ cap) :
    Calls Tryd.prog 6 #[.slice (some ⟨b, o, none⟩) 60 cap] w fun e w' => e = .returned (.tuple #[.int .i64 0, .int .i64 0, .bool false]) ∧ Still w w' := by
  have c2' : w.cell? ⟨b, o + 1 + 1, none⟩ = some (.int .u8 l2.toNat) := c2
  have c3' : w.cell? ⟨b, o + 1 + 2, none⟩ = some (.int .u8 l3.toNat) := c3
  have hcv := back3 l1 l2 l3 b (o + 1) cap w c1 c2' c3'
  have hcv' := back3 l1 l2 l3 b (o + 1) (cap - 1) w c1 c2' c3'
  go_enter Tryd.func6, Tryd.ntmps6
  go_wp2
  go_ret3
  exact ⟨rfl, still_refl w⟩
set_option maxRecDepth 20000 in
set_option maxHeartbeats 4000000 in
theorem sp_odd_c (l6 : Int) (b o cap : Nat) (w : World) (c0 : w.cell? ⟨b, o, none⟩ = some (.int .u8 36)) (c1 : w.cell? ⟨b, o + 1, none⟩ = some (.int .u8 50)) (c2 : w.cell? ⟨b, o + 2, none⟩ = some (.int .u8 97)) (c3 : w.cell? ⟨b, o + 3, none⟩ = some (.int .u8 36)) (c6 : w.cell? ⟨b, o + 6, none⟩ = some (.int .u8 l6)) (h6 : ¬ l6 = 36) (hcap : 60 ≤ cap) :
    Calls Tryd.prog 6 #[.slice (some ⟨b, o, none⟩) 60 cap] w fun e w' => e = .returned (.tuple #[.int .i64 0, .int .i64 0, .bool false]) ∧ Still w w' := by
  have c2' : w.cell? ⟨b, o + 1 + 1, none⟩ = some (.int .u8 97) := c2
  have c3' : w.cell? ⟨b, o + 1 + 2, none⟩ = some (.int .u8 36) := c3
  have hcv := back3 50 97 36 b (o + 1) cap w c1 c2' c3'
  have hcv' := back3 50 97 36 b (o + 1) (cap - 1) w c1 c2' c3'
  go_enter Tryd.func6, Tryd.ntmps6
  go_wp2
  go_ret3
  exact ⟨rfl, still_refl w⟩
set_option maxRecDepth 20000 in
set_option maxHeartbeats 4000000 in
theorem sp_d1 (l4 : Int) (b o cap : Nat) (w : World) (c0 : w.cell? ⟨b, o, none⟩ = some (.int .u8 36)) (c1 : w.cell? ⟨b, o + 1, none⟩ = some (.int .u8 50)) (c2 : w.cell? ⟨b, o + 2, none⟩ = some (.int .u8 97)) (c3 : w.cell? ⟨b, o + 3, none⟩ = some (.int .u8 36)) (c6 : w.cell? ⟨b, o + 6, none⟩ = some (.int .u8 36)) (c4 : w.cell? ⟨b, o + 4, none⟩ = some (.int .u8 l4)) (h4 : l4 < 48 ∨ 57 < l4) (hcap : 60 ≤ cap) :
    Calls Tryd.prog 6 #[.slice (some ⟨b, o, none⟩) 60 cap] w fun e w' => e = .returned (.tuple #[.int .i64 0, .int .i64 0, .bool false]) ∧ Still w w' := by
  have c2' : w.cell? ⟨b, o + 1 + 1, none⟩ = some (.int .u8 97) := c2
  have c3' : w.cell? ⟨b, o + 1 + 2, none⟩ = some (.int .u8 36) := c3
  have hcv := back3 50 97 36 b (o + 1) cap w c1 c2' c3'
  have hcv' := back3 50 97 36 b (o + 1) (cap - 1) w c1 c2' c3'
  rcases h4 with h4 | h4
  all_goals (
  go_enter Tryd.func6, Tryd.ntmps6
  go_wp2
  refine wp_loop_rounds 1 ?_
  rw [rounds_succ]
  go_wp2
  go_ret3
  exact ⟨rfl, still_refl w⟩)
set_option maxRecDepth 20000 in
set_option maxHeartbeats 4000000 in
theorem sp_d2 (l4 l5 : Int) (b o cap : Nat) (w : World) (c0 : w.cell? ⟨b, o, none⟩ = some (.int .u8 36)) (c1 : w.cell? ⟨b, o + 1, none⟩ = some (.int .u8 50)) (c2 : w.cell? ⟨b, o + 2, none⟩ = some (.int .u8 97)) (c3 : w.cell? ⟨b, o + 3, none⟩ = some (.int .u8 36)) (c6 : w.cell? ⟨b, o + 6, none⟩ = some (.int .u8 36)) (c4 : w.cell? ⟨b, o + 4, none⟩ = some (.int .u8 l4)) (c5 : w.cell? ⟨b, o + 5, none⟩ = some (.int .u8 l5)) (h4 : 48 ≤ l4) (h4b : l4 ≤ 57) (h5 : l5 < 48 ∨ 57 < l5) (hcap : 60 ≤ cap) :
    Calls Tryd.prog 6 #[.slice (some ⟨b, o, none⟩) 60 cap] w fun e w' => e = .returned (.tuple #[.int .i64 0, .int .i64 0, .bool false]) ∧ Still w w' := by
  have c2' : w.cell? ⟨b, o + 1 + 1, none⟩ = some (.int .u8 97) := c2
  have c3' : w.cell? ⟨b, o + 1 + 2, none⟩ = some (.int .u8 36) := c3
  have hcv := back3 50 97 36 b (o + 1) cap w c1 c2' c3'
  have hcv' := back3 50 97 36 b (o + 1) (cap - 1) w c1 c2' c3'
  have c5' : w.cell? ⟨b, o + 4 + 1, none⟩ = some (.int .u8 l5) := c5
  have e4 : (l4 - 48) % 256 = l4 - 48 := Int.emod_eq_of_lt (by omega) (by omega)
  have q0 : IntKind.i64.wrap (l4 - 48) = l4 - 48 := wrap_lo _ (by omega) (by omega)
  rcases h5 with h5 | h5
  all_goals (
  go_enter Tryd.func6, Tryd.ntmps6
  go_wp2
  refine wp_loop_rounds 2 ?_
  rw [rounds_succ]
  go_wp2
  rw [rounds_succ]
  go_wp2
  go_ret3
  exact ⟨rfl, still_refl w⟩)
set_option maxRecDepth 20000 in
set_option maxHeartbeats 4000000 in
theorem sp_bad (l4 l5 : Int) (b o cap : Nat) (w : World) (c0 : w.cell? ⟨b, o, none⟩ = some (.int .u8 36)) (c1 : w.cell? ⟨b, o + 1, none⟩ = some (.int .u8 50)) (c2 : w.cell? ⟨b, o + 2, none⟩ = some (.int .u8 97)) (c3 : w.cell? ⟨b, o + 3, none⟩ = some (.int .u8 36)) (c6 : w.cell? ⟨b, o + 6, none⟩ = some (.int .u8 36)) (c4 : w.cell? ⟨b, o + 4, none⟩ = some (.int .u8 l4)) (c5 : w.cell? ⟨b, o + 5, none⟩ = some (.int .u8 l5)) (h4 : 48 ≤ l4) (h4b : l4 ≤ 57) (h5 : 48 ≤ l5) (h5b : l5 ≤ 57) (hn : 10 * (l4 - 48) + (l5 - 48) < 4 ∨ 31 < 10 * (l4 - 48) + (l5 - 48)) (hcap : 60 ≤ cap) :
    Calls Tryd.prog 6 #[.slice (some ⟨b, o, none⟩) 60 cap] w fun e w' => e = .returned (.tuple #[.int .i64 0, .int .i64 5, .bool true]) ∧ Still w w' := by
  have c2' : w.cell? ⟨b, o + 1 + 1, none⟩ = some (.int .u8 97) := c2
  have c3' : w.cell? ⟨b, o + 1 + 2, none⟩ = some (.int .u8 36) := c3
  have hcv := back3 50 97 36 b (o + 1) cap w c1 c2' c3'
  have hcv' := back3 50 97 36 b (o + 1) (cap - 1) w c1 c2' c3'
  have c5' : w.cell? ⟨b, o + 4 + 1, none⟩ = some (.int .u8 l5) := c5
  have e4 : (l4 - 48) % 256 = l4 - 48 := Int.emod_eq_of_lt (by omega) (by omega)
  have e5 : (l5 - 48) % 256 = l5 - 48 := Int.emod_eq_of_lt (by omega) (by omega)
  have q0 : IntKind.i64.wrap (l4 - 48) = l4 - 48 := wrap_lo _ (by omega) (by omega)
  have q1 : IntKind.i64.wrap (10 * (l4 - 48)) = 10 * (l4 - 48) := wrap_lo _ (by omega) (by omega)
  have q3 : IntKind.i64.wrap (l5 - 48) = l5 - 48 := wrap_lo _ (by omega) (by omega)
  have q2 : IntKind.i64.wrap (10 * (l4 - 48) + (l5 - 48)) = 10 * (l4 - 48) + (l5 - 48) := wrap_lo _ (by omega) (by omega)
  rcases hn with hn | hn
  all_goals (
  go_enter Tryd.func6, Tryd.ntmps6
  go_wp2
  refine wp_loop_rounds 3 ?_
  rw [rounds_succ]
  go_wp2
  rw [rounds_succ]
  go_wp2
  rw [rounds_succ]
  go_wp2
  go_ret3
  exact ⟨rfl, still_refl w⟩)
set_option maxRecDepth 20000 in
set_option maxHeartbeats 4000000 in
theorem sp_ok (l4 l5 : Int) (b o cap : Nat) (w : World) (c0 : w.cell? ⟨b, o, none⟩ = some (.int .u8 36)) (c1 : w.cell? ⟨b, o + 1, none⟩ = some (.int .u8 50)) (c2 : w.cell? ⟨b, o + 2, none⟩ = some (.int .u8 97)) (c3 : w.cell? ⟨b, o + 3, none⟩ = some (.int .u8 36)) (c6 : w.cell? ⟨b, o + 6, none⟩ = some (.int .u8 36)) (c4 : w.cell? ⟨b, o + 4, none⟩ = some (.int .u8 l4)) (c5 : w.cell? ⟨b, o + 5, none⟩ = some (.int .u8 l5)) (h4 : 48 ≤ l4) (h4b : l4 ≤ 57) (h5 : 48 ≤ l5) (h5b : l5 ≤ 57) (hn : ¬ 10 * (l4 - 48) + (l5 - 48) < 4) (hn2 : ¬ 31 < 10 * (l4 - 48) + (l5 - 48)) (hcap : 60 ≤ cap) :
    Calls Tryd.prog 6 #[.slice (some ⟨b, o, none⟩) 60 cap] w fun e w' => e = .returned (.tuple #[.int .i64 (10 * (l4 - 48) + (l5 - 48)), .int .i64 0, .bool true]) ∧ Still w w' := by
  have c2' : w.cell? ⟨b, o + 1 + 1, none⟩ = some (.int .u8 97) := c2
  have c3' : w.cell? ⟨b, o + 1 + 2, none⟩ = some (.int .u8 36) := c3
  have hcv := back3 50 97 36 b (o + 1) cap w c1 c2' c3'
  have hcv' := back3 50 97 36 b (o + 1) (cap - 1) w c1 c2' c3'
  have c5' : w.cell? ⟨b, o + 4 + 1, none⟩ = some (.int .u8 l5) := c5
  have e4 : (l4 - 48) % 256 = l4 - 48 := Int.emod_eq_of_lt (by omega) (by omega)
  have e5 : (l5 - 48) % 256 = l5 - 48 := Int.emod_eq_of_lt (by omega) (by omega)
  have q0 : IntKind.i64.wrap (l4 - 48) = l4 - 48 := wrap_lo _ (by omega) (by omega)
  have q1 : IntKind.i64.wrap (10 * (l4 - 48)) = 10 * (l4 - 48) := wrap_lo _ (by omega) (by omega)
  have q3 : IntKind.i64.wrap (l5 - 48) = l5 - 48 := wrap_lo _ (by omega) (by omega)
  have q2 : IntKind.i64.wrap (10 * (l4 - 48) + (l5 - 48)) = 10 * (l4 - 48) + (l5 - 48) := wrap_lo _ (by omega) (by omega)
  go_enter Tryd.func6, Tryd.ntmps6
  go_wp2
  refine wp_loop_rounds 3 ?_
  rw [rounds_succ]
  go_wp2
  rw [rounds_succ]
  go_wp2
  rw [rounds_succ]
  go_wp2
  go_ret3
  exact ⟨rfl, still_refl w⟩
end Go.Proofs.YtacdmigmccfcfaaDoor

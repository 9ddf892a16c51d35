/- decodeCost, decodeVersion. No condition. -/
import Derived.Test.YtacdmigmccfcfaaDoorB1Co
namespace Go.Proofs.YtacdmigmccfcfaaDoor
set_option linter.unusedVariables false
set_option linter.unusedSimpArgs false
set_option linter.unusedSectionVars false
open Go.RowKit Go.Extern.Stop Go.Stop Go.Extern
open Go.Eng (Still)
theorem back2 (b0 b1 : UInt8) (b o cap : Nat) (w : World) (c0 : w.cell? ⟨b, o, none⟩ = some (.int .u8 b0.toNat)) (c1 : w.cell? ⟨b, o + 1, none⟩ = some (.int .u8 b1.toNat)) :
    (convert 22 9 (.slice (some ⟨b, o, none⟩) 2 cap)).run Tryd.prog w = .ok (.string ⟨#[b0, b1]⟩) w := by
  refine run_convert_bytes_back (P := Tryd.prog) w 22 9 5 ⟨b, o, none⟩ cap [b0, b1] Tryd.underlying22 Tryd.underlying5 Tryd.underlying9 ?_
  intro j hj
  match j, hj with
  | 0, _ => exact c0
  | 1, _ => exact c1
set_option maxHeartbeats 4000000 in
theorem cost_ok (b0 b1 : UInt8) (n : Int) (p b o len cap : Nat) (old : Value) (w : World) (c0 : w.cell? ⟨b, o, none⟩ = some (.int .u8 b0.toNat)) (c1 : w.cell? ⟨b, o + 1, none⟩ = some (.int .u8 b1.toNat)) (hcap : 2 ≤ cap)
    (hn : atoiR b0 b1 = some n) (h4 : ¬ n < 4) (h31 : ¬ 31 < n) (hp : w.cell? ⟨p, 2, none⟩ = some old) (hf : w.frozen? ⟨p, 2, none⟩ = false) :
    Calls Tryd.prog 17 #[.pointer (some ⟨p, 0, none⟩), .slice (some ⟨b, o, none⟩) len cap] w fun e w' => e = .returned (.tuple #[.int .i64 3, .nilIface]) ∧ ∃ w2, Still w w2 ∧ w' = w2.setCell ⟨p, 2, none⟩ (.int .i64 n) := by
  have hcv := back2 b0 b1 b o cap w c0 c1
  go_enter Tryd.func17, Tryd.ntmps17
  go_wp2_with (first
    | (go_at_call 27; refine (atoi_some b0 b1 n _ hn).mono ?_; rintro e w2 ⟨rfl, hs⟩; have hp2 := still_cell hs hp; have hf2 := still_frozen hs hp hf)
    | (have _ := hs; go_at_call 28; refine (check_ok n _ (decide_eq_false (by omega)) (decide_eq_false (by omega))).mono ?_; rintro e w3 ⟨rfl, rfl⟩))
  go_ret2
  exact ⟨rfl, _, hs, rfl⟩
set_option maxHeartbeats 4000000 in
theorem cost_bad (b0 b1 : UInt8) (n : Int) (p b o len cap : Nat) (w : World) (c0 : w.cell? ⟨b, o, none⟩ = some (.int .u8 b0.toNat)) (c1 : w.cell? ⟨b, o + 1, none⟩ = some (.int .u8 b1.toNat)) (hcap : 2 ≤ cap)
    (hn : atoiR b0 b1 = some n) (h : n < 4 ∨ 31 < n) :
    Calls Tryd.prog 17 #[.pointer (some ⟨p, 0, none⟩), .slice (some ⟨b, o, none⟩) len cap] w fun e w' => e = .returned (.tuple #[.int .i64 (-1), .iface 43 (.int .i64 n)]) ∧ Still w w' := by
  have hcv := back2 b0 b1 b o cap w c0 c1
  go_enter Tryd.func17, Tryd.ntmps17
  go_wp2_with (first
    | (go_at_call 27; refine (atoi_some b0 b1 n _ hn).mono ?_; rintro e w2 ⟨rfl, hs⟩)
    | (have _ := hs; go_at_call 28; refine (check_bad n _ h).mono ?_; rintro e w3 ⟨rfl, rfl⟩))
  go_ret2
  exact ⟨rfl, hs⟩
set_option maxHeartbeats 4000000 in
theorem cost_none {a0 a1 aS : Addr} (b0 b1 : UInt8) (p b o len cap : Nat) (w : World) (g : Gs a0 a1 aS w) (c0 : w.cell? ⟨b, o, none⟩ = some (.int .u8 b0.toNat)) (c1 : w.cell? ⟨b, o + 1, none⟩ = some (.int .u8 b1.toNat)) (hcap : 2 ≤ cap)
    (hn : atoiR b0 b1 = none) :
    Calls Tryd.prog 17 #[.pointer (some ⟨p, 0, none⟩), .slice (some ⟨b, o, none⟩) len cap] w fun e w' => ∃ N, e = .returned (.tuple #[.int .i64 (-1), .iface 95 (.pointer (some ⟨N, 0, none⟩))]) ∧ w'.cell? ⟨N, 2, none⟩ = some (.iface 109 (.pointer (some aS))) ∧ Still w w' := by
  have hcv := back2 b0 b1 b o cap w c0 c1
  go_enter Tryd.func17, Tryd.ntmps17
  go_wp2_with (
    (go_at_call 27; refine (atoi_none (a0 := a0) (a1 := a1) (aS := aS) b0 b1 _ g hn).mono ?_; rintro e w2 ⟨N, rfl, h1, hs⟩))
  go_ret2
  exact ⟨N, rfl, h1, hs⟩
set_option maxHeartbeats 4000000 in
theorem ver_prefix (l0 : Int) (p b o len cap : Nat) (w : World) (c0 : w.cell? ⟨b, o, none⟩ = some (.int .u8 l0)) (h : ¬ l0 = 36) (hl : 3 ≤ len) :
    Calls Tryd.prog 16 #[.pointer (some ⟨p, 0, none⟩), .slice (some ⟨b, o, none⟩) len cap] w fun e w' => e = .returned (.tuple #[.int .i64 (-1), .iface 41 (.int .u8 l0)]) ∧ Still w w' := by
  have k0 : 0 < len := by omega
  go_enter Tryd.func16, Tryd.ntmps16
  go_wp2
  go_region
  go_wp2
  go_ret2
  exact ⟨rfl, rfl, rfl, Nat.le_refl _, fun _ _ => rfl⟩
set_option maxHeartbeats 4000000 in
theorem ver_new (l1 : Int) (p b o len cap : Nat) (w : World) (c0 : w.cell? ⟨b, o, none⟩ = some (.int .u8 36)) (c1 : w.cell? ⟨b, o + 1, none⟩ = some (.int .u8 l1)) (h : 50 < l1) (hl : 3 ≤ len) :
    Calls Tryd.prog 16 #[.pointer (some ⟨p, 0, none⟩), .slice (some ⟨b, o, none⟩) len cap] w fun e w' => e = .returned (.tuple #[.int .i64 (-1), .iface 42 (.int .u8 l1)]) ∧ Still w w' := by
  have k0 : 0 < len := by omega
  have k1 : 1 < len := by omega
  go_enter Tryd.func16, Tryd.ntmps16
  go_wp2
  go_region
  go_wp2
  go_ret2
  exact ⟨rfl, rfl, rfl, Nat.le_refl _, fun _ _ => rfl⟩
set_option maxHeartbeats 4000000 in
theorem ver_3 (l1 : Int) (p b o len cap : Nat) (old : Value) (w : World) (c0 : w.cell? ⟨b, o, none⟩ = some (.int .u8 36)) (c1 : w.cell? ⟨b, o + 1, none⟩ = some (.int .u8 l1)) (c2 : w.cell? ⟨b, o + 2, none⟩ = some (.int .u8 36))
    (h : ¬ 50 < l1) (hl : 3 ≤ len) (hp : w.cell? ⟨p, 3, none⟩ = some old) (hf : w.frozen? ⟨p, 3, none⟩ = false) (hpb : p ≠ b) :
    Calls Tryd.prog 16 #[.pointer (some ⟨p, 0, none⟩), .slice (some ⟨b, o, none⟩) len cap] w fun e w' => e = .returned (.tuple #[.int .i64 3, .nilIface]) ∧ w' = w.setCell ⟨p, 3, none⟩ (.int .u8 l1) := by
  have k0 : 0 < len := by omega
  have k1 : 1 < len := by omega
  have k2 : 2 < len := by omega
  go_enter Tryd.func16, Tryd.ntmps16
  go_wp2
  go_ret2
  exact ⟨rfl, rfl⟩
set_option maxHeartbeats 4000000 in
theorem ver_4 (l1 l2 : Int) (p b o len cap : Nat) (old old4 : Value) (w : World) (c0 : w.cell? ⟨b, o, none⟩ = some (.int .u8 36)) (c1 : w.cell? ⟨b, o + 1, none⟩ = some (.int .u8 l1)) (c2 : w.cell? ⟨b, o + 2, none⟩ = some (.int .u8 l2))
    (h : ¬ 50 < l1) (h2 : ¬ l2 = 36) (hl : 3 ≤ len) (hp : w.cell? ⟨p, 3, none⟩ = some old) (hf : w.frozen? ⟨p, 3, none⟩ = false) (hp4 : w.cell? ⟨p, 4, none⟩ = some old4) (hf4 : w.frozen? ⟨p, 4, none⟩ = false) (hpb : p ≠ b) :
    Calls Tryd.prog 16 #[.pointer (some ⟨p, 0, none⟩), .slice (some ⟨b, o, none⟩) len cap] w fun e w' => e = .returned (.tuple #[.int .i64 4, .nilIface]) ∧ w' = (w.setCell ⟨p, 3, none⟩ (.int .u8 l1)).setCell ⟨p, 4, none⟩ (.int .u8 l2) := by
  have k0 : 0 < len := by omega
  have k1 : 1 < len := by omega
  have k2 : 2 < len := by omega
  go_enter Tryd.func16, Tryd.ntmps16
  go_wp2
  go_ret2
  exact ⟨rfl, rfl⟩
end Go.Proofs.YtacdmigmccfcfaaDoor

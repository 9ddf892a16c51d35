/- newFromHash where there is none. No condition. -/
import Derived.Test.YtacdmigmccfcfaaDoorB1Dc
namespace Go.Proofs.YtacdmigmccfcfaaDoor
set_option linter.unusedVariables false
set_option linter.unusedSimpArgs false
set_option linter.unusedSectionVars false
open Go.RowKit Go.Extern.Stop Go.Stop Go.Extern
open Go.Eng (Still)
theorem still_drew (w : World) : Still w w.drew := ⟨rfl, rfl, Nat.le_refl _, fun _ _ => rfl⟩
set_option maxHeartbeats 4000000 in
theorem nf_short {a0 a1 aS : Addr} (a : Option Addr) (len cap : Nat) (w : World) (g : Gs a0 a1 aS w) (hl : (len : Int) < 59) :
    Calls Tryd.prog 12 #[.slice a len cap] w fun e w' => e = .returned (.tuple #[.pointer none, .iface 109 (.pointer (some a1))]) ∧ Still w w' := by
  have k1 : w.drew.cell? ⟨1, 0, none⟩ = some _ := g.c1
  have k1' := g.c1
  go_enter Tryd.func12, Tryd.ntmps12
  go_wp2
  go_region
  go_wp2
  go_ret2
  exact ⟨rfl, still_drew w⟩
set_option maxHeartbeats 4000000 in
theorem nf_prefix (l0 : Int) (b o len cap : Nat) (w : World) (c0 : w.cell? ⟨b, o, none⟩ = some (.int .u8 l0)) (h : ¬ l0 = 36) (hl : ¬ (len : Int) < 59) :
    Calls Tryd.prog 12 #[.slice (some ⟨b, o, none⟩) len cap] w fun e w' => e = .returned (.tuple #[.pointer none, .iface 41 (.int .u8 l0)]) ∧ Still w w' := by
  go_enter Tryd.func12, Tryd.ntmps12
  go_wp2_with (go_at_call 16; refine (ver_prefix l0 _ b o len cap _ (still_cell (still_alloc w _) c0) h (by omega)).mono ?_; rintro e w2 ⟨rfl, hs⟩)
  go_ret2
  exact ⟨rfl, still_trans (still_alloc w _) hs⟩
set_option maxHeartbeats 4000000 in
theorem nf_new (l1 : Int) (b o len cap : Nat) (w : World) (c0 : w.cell? ⟨b, o, none⟩ = some (.int .u8 36)) (c1 : w.cell? ⟨b, o + 1, none⟩ = some (.int .u8 l1)) (h : 50 < l1) (hl : ¬ (len : Int) < 59) :
    Calls Tryd.prog 12 #[.slice (some ⟨b, o, none⟩) len cap] w fun e w' => e = .returned (.tuple #[.pointer none, .iface 42 (.int .u8 l1)]) ∧ Still w w' := by
  go_enter Tryd.func12, Tryd.ntmps12
  go_wp2_with (go_at_call 16; refine (ver_new l1 _ b o len cap _ (still_cell (still_alloc w _) c0) (still_cell (still_alloc w _) c1) (by omega) (by omega)).mono ?_; rintro e w2 ⟨rfl, hs⟩)
  go_ret2
  exact ⟨rfl, still_trans (still_alloc w _) hs⟩
/-- The version read: how many letters it has, and the world behind it. -/
theorem nf_ver (l : List UInt8) (b o len cap : Nat) (w : World) (C : Array Value) (hC : C.size = 5) (p : Nat) (hp : w.heap[p]? = some (.cells C 40 (0, 0))) (hpb : p ≠ b)
    (hc : ∀ j (hj : j < l.length), w.cell? ⟨b, o + j, none⟩ = some (.int .u8 (l[j].toNat : Int))) (hlen : l.length = len) (hl : ¬ (len : Int) < 59)
    (h0 : l[0]? = some 36) (h1 : ¬ 50 < ((l.getD 1 0).toNat : Int)) :
    Calls Tryd.prog 16 #[.pointer (some ⟨p, 0, none⟩), .slice (some ⟨b, o, none⟩) len cap] w fun e w' => ∃ (n : Nat) (C' : Array Value), (n = 3 ∨ n = 4) ∧ (l[2]? = some 36 → n = 3) ∧ (¬ l[2]? = some 36 → n = 4) ∧ e = .returned (.tuple #[.int .i64 (n : Int), .nilIface]) ∧ C'.size = 5 ∧ w' = w.setRow p C' := by
  have q0 : 0 < l.length := by omega
  have q1 : 1 < l.length := by omega
  have q2 : 2 < l.length := by omega
  have c0 := hc 0 q0
  have c1 := hc 1 q1
  have c2 := hc 2 q2
  have e0 : l[0] = 36 := by rw [List.getElem?_eq_getElem q0] at h0; exact Option.some.inj h0
  rw [e0] at c0
  have e1 : l.getD 1 0 = l[1] := by rw [List.getD_eq_getElem?_getD, List.getElem?_eq_getElem q1]; rfl
  rw [e1] at h1
  have hp3 : w.cell? ⟨p, 3, none⟩ = some C[3] := by simp [World.cell?, hp, hC]
  have hp4 : w.cell? ⟨p, 4, none⟩ = some C[4] := by simp [World.cell?, hp, hC]
  have hf3 : w.frozen? ⟨p, 3, none⟩ = false := by simp [World.frozen?, hp]
  have hf4 : w.frozen? ⟨p, 4, none⟩ = false := by simp [World.frozen?, hp]
  by_cases h2 : l[2] = 36
  · have k2 : l[2]? = some 36 := by rw [List.getElem?_eq_getElem q2, h2]
    rw [h2] at c2
    refine (ver_3 (l[1].toNat : Int) p b o len cap _ w c0 c1 c2 h1 (by omega) hp3 hf3 hpb).mono ?_
    rintro e w' ⟨rfl, rfl⟩
    refine ⟨3, C.setIfInBounds 3 (.int .u8 (l[1].toNat : Int)), Or.inl rfl, fun _ => rfl, fun h => absurd k2 h, rfl, by simp [hC], ?_⟩
    exact setCell_eq_setRow w p 3 C 40 (0, 0) _ hp
  · have k2 : ¬ l[2]? = some 36 := by rw [List.getElem?_eq_getElem q2]; intro e; exact h2 (Option.some.inj e)
    refine (ver_4 (l[1].toNat : Int) (l[2].toNat : Int) p b o len cap _ _ w c0 c1 c2 h1 ?_ (by omega) hp3 hf3 hp4 hf4 hpb).mono ?_
    · intro e
      exact h2 (UInt8.toNat_inj.1 (Int.ofNat.inj e))
    rintro e w' ⟨rfl, rfl⟩
    refine ⟨4, (C.setIfInBounds 3 (.int .u8 (l[1].toNat : Int))).setIfInBounds 4 (.int .u8 (l[2].toNat : Int)), Or.inr rfl, fun h => absurd h k2, fun _ => rfl, rfl, by simp [hC], ?_⟩
    rw [setCell_eq_setRow w p 3 C 40 (0, 0) _ hp, setCell_eq_setRow _ p 4 _ 40 (0, 0) _ (setRow_heap w p C _ 40 (0, 0) hp), setRow_setRow]
end Go.Proofs.YtacdmigmccfcfaaDoor

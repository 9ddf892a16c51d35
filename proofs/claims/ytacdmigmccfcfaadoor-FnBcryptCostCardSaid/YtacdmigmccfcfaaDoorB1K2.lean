/- The kind of an error: bcryptKind, by its contracts. No condition. -/
import Derived.Test.YtacdmigmccfcfaaDoorB1Kd
namespace Go.Proofs.YtacdmigmccfcfaaDoor
set_option linter.unusedVariables false
set_option linter.unusedSimpArgs false
set_option linter.unusedSectionVars false
open Go.RowKit Go.Extern.Stop Go.Stop Go.Extern
open Go.Eng (Still)
theorem is_nilE (b : Addr) (w : World) : Calls Tryd.prog 10 #[.nilIface] w fun e w' => e = .returned (.int .i64 0) ∧ Still w w' := by
  go_enter Tryd.func10, Tryd.ntmps10
  go_wp2
  go_ret
  exact ⟨rfl, kw_still w⟩

set_option maxHeartbeats 4000000 in
theorem kind_short {a0 a1 aS : Addr} (w : World) (g : Gs a0 a1 aS w) :
    Calls Tryd.prog 10 #[.iface 109 (.pointer (some a1))] w fun e w' => e = .returned (.int .i64 2) ∧ Still w w' := by
  have k := g.keep (kw_still w)
  have k0 := k.c0
  have k1 := k.c1
  have k2 := k.c2
  obtain ⟨ca, ta, h0⟩ := k.h0
  obtain ⟨cb, tb, h1⟩ := k.h1
  have hne : a1 ≠ a0 := fun e => k.n01 e.symm
  unfold kw at k0 k1 k2 h0 h1
  go_enter Tryd.func10, Tryd.ntmps10
  go_wp2_with (first
    | (have _ := st1; go_at_call 13; refine (is_same a1 _).mono ?_; rintro e w' ⟨rfl, rfl⟩)
    | (go_at_call 13; refine (is_other a1 a0 cb ca tb ta _ ?_ ?_ ?_).mono ?_; exact hne; exact h1; exact h0; rintro e w' ⟨rfl, rfl⟩; have st1 := True.intro))
  go_ret
  exact ⟨rfl, kw_still w⟩
set_option maxHeartbeats 4000000 in
theorem kind_41 {a0 a1 aS : Addr} (n : Int) (w : World) (g : Gs a0 a1 aS w) :
    Calls Tryd.prog 10 #[.iface 41 (.int .u8 n)] w fun e w' => e = .returned (.int .i64 3) ∧ Still w w' := by
  have k := g.keep (kw_still w)
  have k0 := k.c0
  have k1 := k.c1
  have k2 := k.c2
  have p1 := (kw_1 w).1
  have q1 := (kw_1 w).2
  unfold kw at k0 k1 k2 p1 q1
  go_enter Tryd.func10, Tryd.ntmps10
  go_wp2_with (first
    | (go_at_call 13; refine (is_num41 _ _ _).mono ?_; rintro e w' ⟨rfl, rfl⟩)
    | (go_at_call 14; refine (hit41 n _ (.int .u8 0) _ ?_ ?_ ?_).mono ?_; exact k2; exact p1; exact q1; rintro e w' ⟨rfl, w2, hs, rfl⟩))
  go_ret
  exact ⟨rfl, still_set (still_trans (kw_still w) hs) _ _ (Nat.le_refl _)⟩
set_option maxHeartbeats 4000000 in
theorem kind_42 {a0 a1 aS : Addr} (n : Int) (w : World) (g : Gs a0 a1 aS w) :
    Calls Tryd.prog 10 #[.iface 42 (.int .u8 n)] w fun e w' => e = .returned (.int .i64 4) ∧ Still w w' := by
  have k := g.keep (kw_still w)
  have k0 := k.c0
  have k1 := k.c1
  have k2 := k.c2
  have p1 := (kw_1 w).1
  have q1 := (kw_1 w).2
  have p2 := (kw_2 w).1
  have q2 := (kw_2 w).2
  unfold kw at k0 k1 k2 p1 q1 p2 q2
  go_enter Tryd.func10, Tryd.ntmps10
  go_wp2_with (first
    | (go_at_call 13; refine (is_num42 _ _ _).mono ?_; rintro e w' ⟨rfl, rfl⟩)
    | (have _ := hs1; go_at_call 14; refine (hit42 n _ (.int .u8 0) _ ?_ ?_ ?_).mono ?_; exact k2'; exact p2'; exact q2'; rintro e w' ⟨rfl, w2, hs, rfl⟩)
    | (go_at_call 14; refine (miss42_41 _ _ (.int .u8 0) _ ?_ ?_ ?_).mono ?_; exact k2; exact p1; exact q1; rintro e w1 ⟨rfl, hs1⟩; have k2' := still_cell hs1 k2; have p2' := still_cell hs1 p2; have q2' := still_frozen hs1 p2 q2))
  go_ret
  exact ⟨rfl, still_set (still_trans (still_trans (kw_still w) hs1) hs) _ _ (Nat.le_succ _)⟩
set_option maxHeartbeats 4000000 in
theorem kind_43 {a0 a1 aS : Addr} (n : Int) (w : World) (g : Gs a0 a1 aS w) :
    Calls Tryd.prog 10 #[.iface 43 (.int .i64 n)] w fun e w' => e = .returned (.int .i64 5) ∧ Still w w' := by
  have k := g.keep (kw_still w)
  have k0 := k.c0
  have k1 := k.c1
  have k2 := k.c2
  have p1 := (kw_1 w).1
  have q1 := (kw_1 w).2
  have p2 := (kw_2 w).1
  have q2 := (kw_2 w).2
  have p3 := (kw_3 w).1
  have q3 := (kw_3 w).2
  unfold kw at k0 k1 k2 p1 q1 p2 q2 p3 q3
  go_enter Tryd.func10, Tryd.ntmps10
  go_wp2_with (first
    | (go_at_call 13; refine (is_num43 _ _ _).mono ?_; rintro e w' ⟨rfl, rfl⟩)
    | (have _ := hs2; go_at_call 14; refine (hit43 n _ (.int .i64 0) _ ?_ ?_ ?_).mono ?_; exact k2''; exact p3''; exact q3''; rintro e w' ⟨rfl, w2, hs, rfl⟩)
    | (have _ := hs1; go_at_call 14; refine (miss43_42 _ _ (.int .u8 0) _ ?_ ?_ ?_).mono ?_; exact k2'; exact p2'; exact q2'; rintro e w3 ⟨rfl, hs2⟩; have k2'' := still_cell hs2 k2'; have p3'' := still_cell hs2 p3'; have q3'' := still_frozen hs2 p3' q3')
    | (go_at_call 14; refine (miss43_41 _ _ (.int .u8 0) _ ?_ ?_ ?_).mono ?_; exact k2; exact p1; exact q1; rintro e w1 ⟨rfl, hs1⟩; have k2' := still_cell hs1 k2; have p2' := still_cell hs1 p2; have q2' := still_frozen hs1 p2 q2; have p3' := still_cell hs1 p3; have q3' := still_frozen hs1 p3 q3))
  go_ret
  exact ⟨rfl, still_set (still_trans (still_trans (still_trans (kw_still w) hs1) hs2) hs) _ _ (by show w.heap.size ≤ w.heap.size + 1 + 1; omega)⟩
set_option maxHeartbeats 4000000 in
theorem kind_wrap {a0 a1 aS : Addr} (pb po : Nat) (w : World) (g : Gs a0 a1 aS w) (hc : w.cell? ⟨pb, po + 2, none⟩ = some (.iface 109 (.pointer (some aS)))) :
    Calls Tryd.prog 10 #[.iface 95 (.pointer (some ⟨pb, po, none⟩))] w fun e w' => e = .returned (.int .i64 6) ∧ Still w w' := by
  have k := g.keep (kw_still w)
  have k0 := k.c0
  have k1 := k.c1
  have k2 := k.c2
  have p1 := (kw_1 w).1
  have q1 := (kw_1 w).2
  have p2 := (kw_2 w).1
  have q2 := (kw_2 w).2
  have p3 := (kw_3 w).1
  have q3 := (kw_3 w).2
  obtain ⟨ca, ta, h0⟩ := k.h0
  obtain ⟨cb, tb, h1⟩ := k.h1
  obtain ⟨cS, tS, hS⟩ := k.hS
  have n0 := k.nS0
  have n1 := k.nS1
  have c1 := still_cell (kw_still w) hc
  unfold kw at k0 k1 k2 p1 q1 p2 q2 p3 q3 h0 h1 hS c1
  go_enter Tryd.func10, Tryd.ntmps10
  go_wp2_with (first
    | (have _ := st1; go_at_call 13; refine (is_wrap pb po a1 aS cS cb tS tb _ ?_ ?_ ?_ ?_).mono ?_; exact c1; exact n1; exact hS; exact h1; rintro e w' ⟨rfl, rfl⟩)
    | (go_at_call 13; refine (is_wrap pb po a0 aS cS ca tS ta _ ?_ ?_ ?_ ?_).mono ?_; exact c1; exact n0; exact hS; exact h0; rintro e w' ⟨rfl, rfl⟩; have st1 := True.intro)
    | (have _ := hs2; go_at_call 14; refine (wrap_43 pb po aS _ (.int .i64 0) _ ?_ ?_ ?_ ?_).mono ?_; exact k2''; exact p3''; exact q3''; exact c1''; rintro e w' ⟨rfl, hs⟩)
    | (have _ := hs1; go_at_call 14; refine (wrap_42 pb po aS _ (.int .u8 0) _ ?_ ?_ ?_ ?_).mono ?_; exact k2'; exact p2'; exact q2'; exact c1'; rintro e w3 ⟨rfl, hs2⟩; have k2'' := still_cell hs2 k2'; have p3'' := still_cell hs2 p3'; have q3'' := still_frozen hs2 p3' q3'; have c1'' := still_cell hs2 c1')
    | (go_at_call 14; refine (wrap_41 pb po aS _ (.int .u8 0) _ ?_ ?_ ?_ ?_).mono ?_; exact k2; exact p1; exact q1; exact c1; rintro e w1 ⟨rfl, hs1⟩; have k2' := still_cell hs1 k2; have p2' := still_cell hs1 p2; have q2' := still_frozen hs1 p2 q2; have p3' := still_cell hs1 p3; have q3' := still_frozen hs1 p3 q3; have c1' := still_cell hs1 c1))
  go_ret
  exact ⟨rfl, still_trans (still_trans (still_trans (kw_still w) hs1) hs2) hs⟩
end Go.Proofs.YtacdmigmccfcfaaDoor

/- Errors of numbers: Clone, syntaxError, toError, Atoi. No condition. -/
import Derived.Test.YtacdmigmccfcfaaDoorB1At
import Derived.Lib.Strings
import Derived.Lib.Walk
import Derived.Lib.BufferWrite
import Derived.Lib.UnsafeStr
import Derived.Lib.AtoiErrMem
import Derived.Lib.IfaceEq
import Derived.Laws.MakeOwn
import Derived.OwnWalk
import Derived.RegionTactic
import Derived.Deep.RegionWith
import Derived.BigCall
import Derived.BigGuard
namespace Go.Proofs.YtacdmigmccfcfaaDoor
set_option linter.unusedVariables false
set_option linter.unusedSimpArgs false
set_option linter.unusedSectionVars false
open Go.RowKit Go.Extern.Stop Go.Stop Go.Extern
open Go.Eng (Still)
theorem still_of_below {w w' : World} (h : Below w.heap.size w w') : Still w w' := ⟨h.os, h.output, h.size, h.block⟩
theorem below_of_still {w w' : World} (h : Still w w') (ht : w'.tape = w.tape) : Below w.heap.size w w' := ⟨h.1, ht, h.2.1, h.2.2.1, h.2.2.2⟩
theorem i5 : (Tryd.prog.info? 5).map (fun i => (i.zero, i.size, i.bytes)) = some (some (.int .u8 0), 1, 1) := by kernel_rfl
set_option maxHeartbeats 4000000 in
set_option maxRecDepth 100000 in
theorem clone_two (b0 b1 : UInt8) (w : World) :
    Calls Tryd.prog 40 #[.string ⟨#[b0, b1]⟩] w fun e w' => e = .returned (.string ⟨#[b0, b1]⟩) ∧ Still w w' := by
  obtain ⟨i0, hi, hz0, hz1, hz2⟩ := info_parts i5
  have hinfo : (Tryd.prog.info? 5).map (·.size) = some 1 := by rw [hi]; simp [hz1]
  have hco : Tryd.prog.cellsOf 5 = 1 := by simp [Program.cellsOf, hi, hz1]
  obtain ⟨s, hs⟩ : ∃ s : ByteArray, s = ⟨#[b0, b1]⟩ := ⟨_, rfl⟩
  have hsz : s.size = 2 := by rw [hs]; rfl
  have hlim : s.size ≤ 281474976710656 := by omega
  have h0 : ¬ s.size = 0 := by omega
  rw [← hs]
  clear hsz hs
  obtain ⟨M, hM⟩ : ∃ M, M = madeCells (Value.int .u8 0).cells (((s.size : Nat) : Int).toNat * i0.size) := ⟨_, rfl⟩
  have hMs : M.size = s.size := by rw [hM, size_madeCells, hz1]; simp
  have hmk : ∀ W : World, (Instr.makeSlice 22 (.int .i64 (s.size : Int)) (.int .i64 (s.size : Int))).run Tryd.prog W = .ok (.slice (some ⟨W.heap.size, 0, none⟩) s.size s.size) (W.alloc (.cells M 5)) := fun W => by
    have h := run_make (P := Tryd.prog) W 22 5 i0 (.int .u8 0) Tryd.underlying22 hi hz0 .i64 .i64 (s.size : Int) (s.size : Int) (by omega) (by omega) (by rw [hz2]; omega) (by omega)
    rw [← hM] at h
    simpa using h
  clear hM
  have hcp := Lib.run_copy_row_string (P := Tryd.prog) (w.alloc (.cells M 5)) 22 9 3 5 w.heap.size 0 s.size s.size s M 5 Tryd.underlying22 hinfo (heap_alloc_new w _) (Nat.le_refl _) (by omega)
  obtain ⟨Y, hY⟩ : ∃ Y, Y = (M.toList.take 0 ++ Lib.byteCells s.data.toList ++ M.toList.drop (0 + s.size)).toArray := ⟨_, rfl⟩
  rw [← hY] at hcp
  have hYl : Y.toList = Lib.byteCells s.data.toList := by
    rw [hY, List.toList_toArray, List.take_zero, List.nil_append, List.drop_of_length_le (by rw [Array.length_toList]; omega), List.append_nil]
  have hYs : Y.size = s.size := by rw [← Array.length_toList, hYl, Lib.byteCells_length, ← Lib.size_eq]
  have hgY : ((w.alloc (.cells M 5)).setRow w.heap.size Y).heap[w.heap.size]? = some (.cells Y 5 (0, 0)) := setRow_heap _ _ M _ 5 (0, 0) (heap_alloc_new w _)
  have hne : s.data.toList ≠ [] := fun e => h0 (by rw [Lib.size_eq, e]; rfl)
  have hUS := Lib.run_unsafeString_row (P := Tryd.prog) ((w.alloc (.cells M 5)).setRow w.heap.size Y) 108 3 9 5 Tryd.underlying108 hco w.heap.size Y.size (by unfold World.shape?; rw [hgY]) s.data.toList hne (by rw [← Lib.size_eq]; omega) (by rw [← Lib.size_eq]; omega)
    (fun j x hx => Lib.cells_of_row hgY Y.size j _ (by rw [List.take_of_length_le (by rw [Array.length_toList]; exact Nat.le_refl _), hYl]; simp [Lib.byteCells, hx]))
  rw [← Lib.size_eq] at hUS
  clear hY
  go_enter Tryd.func40, Tryd.ntmps40
  go_wp2
  go_ret
  have hb1 : Below w.heap.size w (w.alloc (.cells M 5)) := (Below.refl _ w).alloc (Nat.le_refl _) _
  have hb2 : Below w.heap.size (w.alloc (.cells M 5)) ((w.alloc (.cells M 5)).setRow w.heap.size Y) := ⟨rfl, rfl, rfl, by simp, fun k hk => setRow_other _ _ _ _ (by omega)⟩
  exact ⟨rfl, still_of_below (Lib.below_freeze (hb1.trans hb2) (p := ⟨w.heap.size, 0, none⟩) (Nat.le_refl _) _)⟩
set_option maxHeartbeats 6400000 in
set_option maxRecDepth 100000 in
theorem syntaxError_two {a0 a1 aS : Addr} (fn : ByteArray) (b0 b1 : UInt8) (w : World) (g : Gs a0 a1 aS w) :
    Calls Tryd.prog 35 #[.string fn, .string ⟨#[b0, b1]⟩] w fun e w' => ∃ N, e = .returned (.pointer (some ⟨N, 0, none⟩)) ∧ w.heap.size ≤ N ∧ w'.heap[N]? = some (.cells #[.string fn, .string ⟨#[b0, b1]⟩, .iface 109 (.pointer (some aS))] 103 (0, 0)) ∧ Still w w' := by
  have hvd : w.drew.cell? ⟨3, 0, none⟩ = some _ := g.c3
  have hd : Still w w.drew := ⟨rfl, rfl, Nat.le_refl _, fun _ _ => rfl⟩
  go_enter Tryd.func35, Tryd.ntmps35
  go_wp2
  go_region_with (
      go_at_call 40
      refine (clone_two b0 b1 _).mono ?_
      rintro e w2 ⟨rfl, hbel⟩
      have hv2 : w2.cell? ⟨3, 0, none⟩ = some _ := still_cell hbel hvd)
  all_goals (
    go_wp2
    go_ret
    have hs2 : w.heap.size ≤ w2.heap.size := (still_trans hd hbel).2.2.1
    exact ⟨_, rfl, hs2, heap_alloc_new w2 _, still_trans (still_trans hd hbel) (still_alloc _ _)⟩)
theorem c92 : (Tryd.prog.info? 92).map (·.comparable) = some true := by kernel_rfl
set_option maxHeartbeats 4000000 in
set_option maxRecDepth 100000 in
theorem toError_two {a0 a1 aS : Addr} (fn : ByteArray) (b0 b1 : UInt8) (x y : Int) (w : World) (g : Gs a0 a1 aS w) :
    Calls Tryd.prog 33 #[.string fn, .string ⟨#[b0, b1]⟩, .int .i64 x, .int .i64 y, .iface 92 (.int .i64 2)] w fun e w' => ∃ N, e = .returned (.iface 95 (.pointer (some ⟨N, 0, none⟩))) ∧ w.heap.size ≤ N ∧ w'.heap[N]? = some (.cells #[.string fn, .string ⟨#[b0, b1]⟩, .iface 109 (.pointer (some aS))] 103 (0, 0)) ∧ Still w w' := by
  have heq : ∀ W, (binOp .eql 32 (.iface 92 (.int .i64 2)) (.iface 92 (.int .i64 2))).run Tryd.prog W = .ok (.bool true) W := fun W => Lib.run_eql_iface_int W 2 2 Tryd.underlying32 c92 Tryd.underlying92
  go_enter Tryd.func33, Tryd.ntmps33
  go_wp2_with (go_at_call 35; refine (syntaxError_two (a0 := a0) (a1 := a1) (aS := aS) fn b0 b1 _ ?_).mono ?_; exact g; rintro e w2 ⟨N, rfl, h1, h2, h3⟩)
  go_ret
  exact ⟨N, rfl, h1, h2, h3⟩
end Go.Proofs.YtacdmigmccfcfaaDoor

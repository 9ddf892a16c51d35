/- newFromHash where there is a cost. No condition. -/
import Derived.Test.YtacdmigmccfcfaaDoorB1Ng
namespace Go.Proofs.YtacdmigmccfcfaaDoor
set_option linter.unusedVariables false
set_option linter.unusedSimpArgs false
set_option linter.unusedSectionVars false
open Go.RowKit Go.Extern.Stop Go.Stop Go.Extern
open Go.Eng (Still)
theorem lt_of_heap {w : World} {p : Nat} {x : Obj} (h : w.heap[p]? = some x) : p < w.heap.size := (Array.getElem?_eq_some_iff.1 h).1
theorem after_cost {w w2 w3 : World} {p : Nat} {n : Int} {C2 : Array Value} (hs2 : Still w w2) (hp2 : w2.heap[p]? = some (.cells C2 40 (0, 0))) (hC2 : C2.size = 5)
    (hs3 : ∃ w2', Still w2 w2' ∧ w3 = w2'.setCell ⟨p, 2, none⟩ (.int .i64 n)) (hpw : w.heap.size ≤ p := by exact Nat.le_refl _) :
    ∃ C3, w3.heap[p]? = some (.cells C3 40 (0, 0)) ∧ C3.size = 5 ∧ C3[2]? = some (.int .i64 n) ∧ Still w w3 := by
  obtain ⟨w2', hs, rfl⟩ := hs3
  have hp : w2'.heap[p]? = some (.cells C2 40 (0, 0)) := (hs.2.2.2 p (lt_of_heap hp2)).trans hp2
  refine ⟨C2.setIfInBounds 2 (.int .i64 n), ?_, by simp [hC2], by simp [hC2], ?_⟩
  · rw [setCell_eq_setRow w2' p 2 C2 40 (0, 0) _ hp]
    exact setRow_heap _ _ _ _ _ _ hp
  · rw [setCell_eq_setRow w2' p 2 C2 40 (0, 0) _ hp]
    exact still_setRow (still_trans hs2 hs) _ _ hpw
theorem make24 : ∃ M : Array Value, M.size = 24 ∧ ∀ W : World, (Instr.makeSlice 22 (.int .i64 22) (.int .i64 24)).run Tryd.prog W = .ok (.slice (some ⟨W.heap.size, 0, none⟩) 22 24) (W.alloc (.cells M 5)) := by
  obtain ⟨i0, hi, hz0, hz1, hz2⟩ := info_parts i5
  refine ⟨madeCells (Value.int .u8 0).cells ((24 : Int).toNat * i0.size), by rw [size_madeCells, hz1]; rfl, fun W => ?_⟩
  exact run_make (P := Tryd.prog) W 22 5 i0 (.int .u8 0) Tryd.underlying22 hi hz0 .i64 .i64 22 24 (by decide) (by decide) (by rw [hz2]; decide) (by decide)
theorem makeN (n : Nat) (hn : n ≤ 281474976710656) : ∃ M : Array Value, M.size = n ∧ ∀ W : World, (Instr.makeSlice 22 (.int .i64 (n : Int)) (.int .i64 (n : Int))).run Tryd.prog W = .ok (.slice (some ⟨W.heap.size, 0, none⟩) n n) (W.alloc (.cells M 5)) := by
  obtain ⟨i0, hi, hz0, hz1, hz2⟩ := info_parts i5
  refine ⟨madeCells (Value.int .u8 0).cells (((n : Nat) : Int).toNat * i0.size), by rw [size_madeCells, hz1]; simp, fun W => ?_⟩
  simpa using run_make (P := Tryd.prog) W 22 5 i0 (.int .u8 0) Tryd.underlying22 hi hz0 .i64 .i64 (n : Int) (n : Int) (by omega) (by omega) (by rw [hz2]; omega) (by omega)
theorem stage5 {w w3 : World} {p : Nat} {C3 M : Array Value} {n : Int} {v : Value} (hp3 : w3.heap[p]? = some (.cells C3 40 (0, 0))) (hC3 : C3.size = 5) (hn : C3[2]? = some (.int .i64 n)) (hs : Still w w3) (hpw : w.heap.size ≤ p) (i : Nat) (hi : i < 2) :
    ∃ C5, ((w3.alloc (.cells M 5)).setCell ⟨p, i, none⟩ v).heap[p]? = some (.cells C5 40 (0, 0)) ∧ C5.size = 5 ∧ C5[2]? = some (.int .i64 n) ∧ C5[i]? = some v ∧
      ((w3.alloc (.cells M 5)).setCell ⟨p, i, none⟩ v).heap[w3.heap.size]? = some (.cells M 5 (0, 0)) ∧ Still w ((w3.alloc (.cells M 5)).setCell ⟨p, i, none⟩ v) := by
  have hp := (Below.heap_alloc w3 (.cells M 5) p (lt_of_heap hp3)).trans hp3
  rw [setCell_eq_setRow _ p i C3 40 (0, 0) _ hp]
  refine ⟨C3.setIfInBounds i v, setRow_heap _ _ _ _ _ _ hp, by simp [hC3], ?_, ?_, ?_, still_setRow (still_trans hs (still_alloc _ _)) _ _ hpw⟩
  · rw [Array.getElem?_setIfInBounds_ne (by omega)]
    exact hn
  · rw [Array.getElem?_setIfInBounds_self_of_lt (by omega)]
  · rw [setRow_other _ _ _ _ (by have := lt_of_heap hp3; omega)]
    exact heap_alloc_new w3 _
theorem copyN (W : World) (q dLen dCap b o d sLen sCap k : Nat) (M : Array Value) (l : List UInt8) (hq : W.heap[q]? = some (.cells M 5 (0, 0))) (hM : k ≤ M.size) (hk : k = Nat.min sLen dLen) (hd : d + k ≤ l.length)
    (hc : ∀ j (hj : j < l.length), W.cell? ⟨b, o + j, none⟩ = some (.int .u8 (l[j].toNat : Int))) (o' : Nat) (ho : o' = o + d) :
    ∃ Y, (Builtin.copy_ #[22, 22] 3 #[.slice (some ⟨q, 0, none⟩) dLen dCap, .slice (some ⟨b, o', none⟩) sLen sCap]).run Tryd.prog W = .ok (goInt k) (W.setRow q Y) := by
  subst ho
  have hinfo : (Tryd.prog.info? 5).map (·.size) = some 1 := by kernel_rfl
  obtain ⟨cs, hcs⟩ : ∃ cs : List Value, cs = ((l.drop d).take k).map (fun x => Value.int .u8 (x.toNat : Int)) := ⟨_, rfl⟩
  have hlen : cs.length = k := by rw [hcs]; simp; omega
  have h := run_copy_row (P := Tryd.prog) W 22 22 3 5 q 0 dLen dCap ⟨b, o + d, none⟩ sLen sCap M 5 cs Tryd.underlying22 hinfo hq (by rw [hlen, hk]) ?_ (by omega) ?_
  · rw [hlen] at h
    exact ⟨_, h⟩
  · intro j v hj
    have hjk : j < k := by rw [← hlen]; exact (List.getElem?_eq_some_iff.1 hj).1
    have hadd : (⟨b, o + d, none⟩ : Addr).add j = ⟨b, o + (d + j), none⟩ := by unfold Addr.add; split <;> simp_all [Nat.add_assoc]
    rw [hadd, hc (d + j) (by omega)]
    rw [hcs, List.getElem?_map, List.getElem?_take_of_lt hjk, List.getElem?_drop, List.getElem?_eq_getElem (by omega)] at hj
    exact hj
  · intro v hv
    rw [hcs] at hv
    obtain ⟨x, -, rfl⟩ := List.mem_map.1 hv
    rfl
theorem heap_alloc_old {w : World} {p : Nat} {C : Array Value} {t : TypeId} (h : w.heap[p]? = some (.cells C t (0, 0))) (X : Obj) : (w.alloc X).heap[p]? = some (.cells C t (0, 0)) := (Below.heap_alloc w X p (lt_of_heap h)).trans h
theorem cell_alloc_old {w : World} {p : Nat} {C : Array Value} {t : TypeId} (h : w.heap[p]? = some (.cells C t (0, 0))) (X : Obj) (j : Nat) : (w.alloc X).cell? ⟨p, j, none⟩ = C[j]? := by simp [World.cell?, heap_alloc_old h X]
theorem frozen_alloc_old {w : World} {p : Nat} {C : Array Value} {t : TypeId} (h : w.heap[p]? = some (.cells C t (0, 0))) (X : Obj) (j : Nat) : (w.alloc X).frozen? ⟨p, j, none⟩ = false := by simp [World.frozen?, heap_alloc_old h X]
set_option maxHeartbeats 4000000 in
set_option maxRecDepth 20000 in
theorem nf_ok3 (l : List UInt8) (b o len cap : Nat) (w : World) (hb : b < w.heap.size)
    (hc : ∀ j (hj : j < l.length), w.cell? ⟨b, o + j, none⟩ = some (.int .u8 (l[j].toNat : Int))) (hlen : l.length = len) (hl : ¬ (len : Int) < 59) (hcap : len ≤ cap)
    (h0 : l[0]? = some 36) (h1 : ¬ 50 < ((l.getD 1 0).toNat : Int))
    (h2 : l[2]? = some 36) (n : Int) (hn : atoiR (l.getD 3 0) (l.getD 4 0) = some n) (hsm : len ≤ 1024) (h4 : ¬ n < 4) (h31 : ¬ 31 < n) :
    Calls Tryd.prog 12 #[.slice (some ⟨b, o, none⟩) len cap] w fun e w' => ∃ N, e = .returned (.tuple #[.pointer (some ⟨N, 0, none⟩), .nilIface]) ∧ w'.cell? ⟨N, 2, none⟩ = some (.int .i64 n) ∧ Still w w' := by
  have q3 : 3 < l.length := by omega
  have q4 : 3 + 1 < l.length := by omega
  have hs1 : Still w (w.alloc (.cells #[.slice none 0 0, .slice none 0 0, .int .i64 0, .int .u8 0, .int .u8 0] 40 (0, 0))) := still_alloc w _
  have hv := nf_ver l b o len cap (w.alloc (.cells #[.slice none 0 0, .slice none 0 0, .int .i64 0, .int .u8 0, .int .u8 0] 40 (0, 0))) _ rfl w.heap.size (heap_alloc_new w _) (by omega) (fun j hj => still_cell hs1 (hc j hj)) hlen hl h0 h1
  have kk : (3 : Int) ≤ len := by omega
  have ea : l.getD 3 0 = l[3] := by rw [List.getD_eq_getElem?_getD, List.getElem?_eq_getElem q3]; rfl
  have eb : l.getD 4 0 = l[3 + 1] := by rw [List.getD_eq_getElem?_getD, List.getElem?_eq_getElem q4]; rfl
  rw [ea, eb] at hn
  have cA := hc 3 q3
  have cB := hc (3 + 1) q4
  obtain ⟨M, hM, hmk⟩ := make24
  go_enter Tryd.func12, Tryd.ntmps12
  go_wp2_with (first
    | (have _ := hs2; go_at_call 17; refine (cost_ok _ _ n _ b (o + 3) _ _ _ _ hA hB ?_ hn (by omega) (by omega) hpc2 hpf2).mono ?_; omega; rintro e w3 ⟨rfl, hs3⟩; obtain ⟨C3, hp3, hC3, hC3n, hs3'⟩ := after_cost hs2 hp2 hC2 hs3; clear hs3; have hl3 : ¬ w.heap.size = w3.heap.size := (by have := lt_of_heap hp3; omega); have hpc3 := cell_alloc_old hp3; have hpf3 := frozen_alloc_old hp3)
    | (go_at_call 16; refine hv.mono ?_; rintro e w2 ⟨n3, C2, -, hy, hz, rfl, hC2, hw2⟩; have hn3 := hy h2; subst hn3; have hp2 : w2.heap[w.heap.size]? = some (.cells C2 40 (0, 0)) := by { rw [hw2]; exact setRow_heap _ _ _ _ _ _ (heap_alloc_new w _) }; have hs2 : Still w w2 := by { rw [hw2]; exact still_setRow hs1 _ _ (Nat.le_refl _) }; have hA := still_cell hs2 cA; have hB := still_cell hs2 cB; clear hw2; have hpc2 : w2.cell? ⟨w.heap.size, 2, none⟩ = some C2[2] := (by simp [World.cell?, hp2, hC2]); have hpf2 : w2.frozen? ⟨w.heap.size, 2, none⟩ = false := (by simp [World.frozen?, hp2])))
  have s5 := stage5 (w := w) (p := w.heap.size) (M := M) (v := Value.slice (some { block := w3.heap.size, off := 0 }) 22 24) hp3 hC3 hC3n hs3' (Nat.le_refl _) 1 (by decide)
  have hl35 : w3.heap.size < ((w3.alloc (.cells M 5)).setCell ⟨w.heap.size, 1, none⟩ (Value.slice (some { block := w3.heap.size, off := 0 }) 22 24)).heap.size := lt_of_heap s5.choose_spec.2.2.2.2.1
  generalize ((w3.alloc (.cells M 5)).setCell ⟨w.heap.size, 1, none⟩ (Value.slice (some { block := w3.heap.size, off := 0 }) 22 24)) = w5 at s5 hl35 ⊢
  obtain ⟨C5, hp5, hC5, hC5n, hC5v, hq5, hs5⟩ := s5
  have hc5 : ∀ j (hj : j < l.length), w5.cell? ⟨b, o + j, none⟩ = some (.int .u8 (l[j].toNat : Int)) := fun j hj => still_cell hs5 (hc j hj)
  obtain ⟨Y, hY⟩ := copyN w5.drew w3.heap.size 22 24 b o 6 22 (cap - 3 - 3) 22 M l hq5 (by omega) rfl (by omega) hc5 (o + 3 + 3) (by omega)
  have hld : w5.drew.cell? ⟨w.heap.size, 1, none⟩ = some (Value.slice (some { block := w3.heap.size, off := 0 }) 22 24) := by
    have hp5' : w5.drew.heap[w.heap.size]? = some (.cells C5 40 (0, 0)) := hp5
    simp [World.cell?, hp5', hC5v]
  have kcap : 22 ≤ cap - 3 - 3 := by omega
  go_region
  have hp6 : (w5.drew.setRow w3.heap.size Y).heap[w.heap.size]? = some (.cells C5 40 (0, 0)) := (setRow_other _ _ _ _ (by omega)).trans hp5
  have hs6 : Still w (w5.drew.setRow w3.heap.size Y) := still_setRow (still_trans hs5 (still_drew _)) _ _ (by have := hs3'.2.2.1; omega)
  generalize (w5.drew.setRow w3.heap.size Y) = w6 at hp6 hs6 ⊢
  obtain ⟨M2, hM2, hmk2⟩ := makeN (len - 3 - 3 - 22) (by omega)
  have s7 := stage5 (w := w) (p := w.heap.size) (M := M2) (v := Value.slice (some { block := w6.heap.size, off := 0 }) (len - 3 - 3 - 22) (len - 3 - 3 - 22)) hp6 hC5 hC5n hs6 (Nat.le_refl _) 0 (by decide)
  obtain ⟨C7, hp7, hC7, hC7n, hC7v, hq7, hs7⟩ := s7
  have hc7 : ∀ j (hj : j < l.length), ((w6.alloc (.cells M2 5)).setCell ⟨w.heap.size, 0, none⟩ (Value.slice (some { block := w6.heap.size, off := 0 }) (len - 3 - 3 - 22) (len - 3 - 3 - 22))).cell? ⟨b, o + j, none⟩ = some (.int .u8 (l[j].toNat : Int)) := fun j hj => still_cell hs7 (hc j hj)
  obtain ⟨Y2, hY2⟩ := copyN ((w6.alloc (.cells M2 5)).setCell ⟨w.heap.size, 0, none⟩ (Value.slice (some { block := w6.heap.size, off := 0 }) (len - 3 - 3 - 22) (len - 3 - 3 - 22))) w6.heap.size (len - 3 - 3 - 22) (len - 3 - 3 - 22) b o (6 + 22) (len - 3 - 3 - 22) (cap - 3 - 3 - 22) (len - 3 - 3 - 22) M2 l hq7 (by omega) (Nat.min_self _).symm (by omega) hc7 (o + 3 + 3 + 22) (by omega)
  have hpc6 := cell_alloc_old hp6
  have hpf6 := frozen_alloc_old hp6
  have hl6 : ¬ w.heap.size = w6.heap.size := (by have := lt_of_heap hp6; omega)
  have k22 : 22 ≤ len - 3 - 3 := by omega
  go_wp2
  go_ret2
  refine ⟨_, rfl, ?_, still_setRow hs7 _ _ hs6.2.2.1⟩
  have hp8 : ((((w6.alloc (.cells M2 5)).setCell ⟨w.heap.size, 0, none⟩ (Value.slice (some { block := w6.heap.size, off := 0 }) (len - 3 - 3 - 22) (len - 3 - 3 - 22)))).setRow w6.heap.size Y2).heap[w.heap.size]? = some (.cells C7 40 (0, 0)) := (setRow_other _ _ _ _ (by have := lt_of_heap hp6; omega)).trans hp7
  simp [World.cell?, hp8, hC7n]
set_option maxHeartbeats 4000000 in
set_option maxRecDepth 20000 in
theorem nf_ok4 (l : List UInt8) (b o len cap : Nat) (w : World) (hb : b < w.heap.size)
    (hc : ∀ j (hj : j < l.length), w.cell? ⟨b, o + j, none⟩ = some (.int .u8 (l[j].toNat : Int))) (hlen : l.length = len) (hl : ¬ (len : Int) < 59) (hcap : len ≤ cap)
    (h0 : l[0]? = some 36) (h1 : ¬ 50 < ((l.getD 1 0).toNat : Int))
    (h2 : ¬ l[2]? = some 36) (n : Int) (hn : atoiR (l.getD 4 0) (l.getD 5 0) = some n) (hsm : len ≤ 1024) (h4 : ¬ n < 4) (h31 : ¬ 31 < n) :
    Calls Tryd.prog 12 #[.slice (some ⟨b, o, none⟩) len cap] w fun e w' => ∃ N, e = .returned (.tuple #[.pointer (some ⟨N, 0, none⟩), .nilIface]) ∧ w'.cell? ⟨N, 2, none⟩ = some (.int .i64 n) ∧ Still w w' := by
  have q3 : 4 < l.length := by omega
  have q4 : 4 + 1 < l.length := by omega
  have hs1 : Still w (w.alloc (.cells #[.slice none 0 0, .slice none 0 0, .int .i64 0, .int .u8 0, .int .u8 0] 40 (0, 0))) := still_alloc w _
  have hv := nf_ver l b o len cap (w.alloc (.cells #[.slice none 0 0, .slice none 0 0, .int .i64 0, .int .u8 0, .int .u8 0] 40 (0, 0))) _ rfl w.heap.size (heap_alloc_new w _) (by omega) (fun j hj => still_cell hs1 (hc j hj)) hlen hl h0 h1
  have kk : (4 : Int) ≤ len := by omega
  have ea : l.getD 4 0 = l[4] := by rw [List.getD_eq_getElem?_getD, List.getElem?_eq_getElem q3]; rfl
  have eb : l.getD 5 0 = l[4 + 1] := by rw [List.getD_eq_getElem?_getD, List.getElem?_eq_getElem q4]; rfl
  rw [ea, eb] at hn
  have cA := hc 4 q3
  have cB := hc (4 + 1) q4
  obtain ⟨M, hM, hmk⟩ := make24
  go_enter Tryd.func12, Tryd.ntmps12
  go_wp2_with (first
    | (have _ := hs2; go_at_call 17; refine (cost_ok _ _ n _ b (o + 4) _ _ _ _ hA hB ?_ hn (by omega) (by omega) hpc2 hpf2).mono ?_; omega; rintro e w3 ⟨rfl, hs3⟩; obtain ⟨C3, hp3, hC3, hC3n, hs3'⟩ := after_cost hs2 hp2 hC2 hs3; clear hs3; have hl3 : ¬ w.heap.size = w3.heap.size := (by have := lt_of_heap hp3; omega); have hpc3 := cell_alloc_old hp3; have hpf3 := frozen_alloc_old hp3)
    | (go_at_call 16; refine hv.mono ?_; rintro e w2 ⟨n3, C2, -, hy, hz, rfl, hC2, hw2⟩; have hn3 := hz h2; subst hn3; have hp2 : w2.heap[w.heap.size]? = some (.cells C2 40 (0, 0)) := by { rw [hw2]; exact setRow_heap _ _ _ _ _ _ (heap_alloc_new w _) }; have hs2 : Still w w2 := by { rw [hw2]; exact still_setRow hs1 _ _ (Nat.le_refl _) }; have hA := still_cell hs2 cA; have hB := still_cell hs2 cB; clear hw2; have hpc2 : w2.cell? ⟨w.heap.size, 2, none⟩ = some C2[2] := (by simp [World.cell?, hp2, hC2]); have hpf2 : w2.frozen? ⟨w.heap.size, 2, none⟩ = false := (by simp [World.frozen?, hp2])))
  have s5 := stage5 (w := w) (p := w.heap.size) (M := M) (v := Value.slice (some { block := w3.heap.size, off := 0 }) 22 24) hp3 hC3 hC3n hs3' (Nat.le_refl _) 1 (by decide)
  have hl35 : w3.heap.size < ((w3.alloc (.cells M 5)).setCell ⟨w.heap.size, 1, none⟩ (Value.slice (some { block := w3.heap.size, off := 0 }) 22 24)).heap.size := lt_of_heap s5.choose_spec.2.2.2.2.1
  generalize ((w3.alloc (.cells M 5)).setCell ⟨w.heap.size, 1, none⟩ (Value.slice (some { block := w3.heap.size, off := 0 }) 22 24)) = w5 at s5 hl35 ⊢
  obtain ⟨C5, hp5, hC5, hC5n, hC5v, hq5, hs5⟩ := s5
  have hc5 : ∀ j (hj : j < l.length), w5.cell? ⟨b, o + j, none⟩ = some (.int .u8 (l[j].toNat : Int)) := fun j hj => still_cell hs5 (hc j hj)
  obtain ⟨Y, hY⟩ := copyN w5.drew w3.heap.size 22 24 b o 7 22 (cap - 4 - 3) 22 M l hq5 (by omega) rfl (by omega) hc5 (o + 4 + 3) (by omega)
  have hld : w5.drew.cell? ⟨w.heap.size, 1, none⟩ = some (Value.slice (some { block := w3.heap.size, off := 0 }) 22 24) := by
    have hp5' : w5.drew.heap[w.heap.size]? = some (.cells C5 40 (0, 0)) := hp5
    simp [World.cell?, hp5', hC5v]
  have kcap : 22 ≤ cap - 4 - 3 := by omega
  go_region
  have hp6 : (w5.drew.setRow w3.heap.size Y).heap[w.heap.size]? = some (.cells C5 40 (0, 0)) := (setRow_other _ _ _ _ (by omega)).trans hp5
  have hs6 : Still w (w5.drew.setRow w3.heap.size Y) := still_setRow (still_trans hs5 (still_drew _)) _ _ (by have := hs3'.2.2.1; omega)
  generalize (w5.drew.setRow w3.heap.size Y) = w6 at hp6 hs6 ⊢
  obtain ⟨M2, hM2, hmk2⟩ := makeN (len - 4 - 3 - 22) (by omega)
  have s7 := stage5 (w := w) (p := w.heap.size) (M := M2) (v := Value.slice (some { block := w6.heap.size, off := 0 }) (len - 4 - 3 - 22) (len - 4 - 3 - 22)) hp6 hC5 hC5n hs6 (Nat.le_refl _) 0 (by decide)
  obtain ⟨C7, hp7, hC7, hC7n, hC7v, hq7, hs7⟩ := s7
  have hc7 : ∀ j (hj : j < l.length), ((w6.alloc (.cells M2 5)).setCell ⟨w.heap.size, 0, none⟩ (Value.slice (some { block := w6.heap.size, off := 0 }) (len - 4 - 3 - 22) (len - 4 - 3 - 22))).cell? ⟨b, o + j, none⟩ = some (.int .u8 (l[j].toNat : Int)) := fun j hj => still_cell hs7 (hc j hj)
  obtain ⟨Y2, hY2⟩ := copyN ((w6.alloc (.cells M2 5)).setCell ⟨w.heap.size, 0, none⟩ (Value.slice (some { block := w6.heap.size, off := 0 }) (len - 4 - 3 - 22) (len - 4 - 3 - 22))) w6.heap.size (len - 4 - 3 - 22) (len - 4 - 3 - 22) b o (7 + 22) (len - 4 - 3 - 22) (cap - 4 - 3 - 22) (len - 4 - 3 - 22) M2 l hq7 (by omega) (Nat.min_self _).symm (by omega) hc7 (o + 4 + 3 + 22) (by omega)
  have hpc6 := cell_alloc_old hp6
  have hpf6 := frozen_alloc_old hp6
  have hl6 : ¬ w.heap.size = w6.heap.size := (by have := lt_of_heap hp6; omega)
  have k22 : 22 ≤ len - 4 - 3 := by omega
  go_wp2
  go_ret2
  refine ⟨_, rfl, ?_, still_setRow hs7 _ _ hs6.2.2.1⟩
  have hp8 : ((((w6.alloc (.cells M2 5)).setCell ⟨w.heap.size, 0, none⟩ (Value.slice (some { block := w6.heap.size, off := 0 }) (len - 4 - 3 - 22) (len - 4 - 3 - 22)))).setRow w6.heap.size Y2).heap[w.heap.size]? = some (.cells C7 40 (0, 0)) := (setRow_other _ _ _ _ (by have := lt_of_heap hp6; omega)).trans hp7
  simp [World.cell?, hp8, hC7n]
end Go.Proofs.YtacdmigmccfcfaaDoor

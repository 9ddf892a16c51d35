/- newFromHash behind the version. No condition. -/
import Derived.Test.YtacdmigmccfcfaaDoorB1Nf
namespace Go.Proofs.YtacdmigmccfcfaaDoor
set_option linter.unusedVariables false
set_option linter.unusedSimpArgs false
set_option linter.unusedSectionVars false
open Go.RowKit Go.Extern.Stop Go.Stop Go.Extern
open Go.Eng (Still)
theorem still_setRow {a b : World} (h : Still a b) (p : Nat) (C : Array Value) (hp : a.heap.size ≤ p) : Still a (b.setRow p C) :=
  ⟨h.1, h.2.1, by have := h.2.2.1; simpa using this, fun k hk => (setRow_other _ _ _ _ (by omega)).trans (h.2.2.2 k hk)⟩
set_option maxHeartbeats 4000000 in
set_option maxRecDepth 20000 in
theorem nf_bad3 (l : List UInt8) (b o len cap : Nat) (w : World) (hb : b < w.heap.size)
    (hc : ∀ j (hj : j < l.length), w.cell? ⟨b, o + j, none⟩ = some (.int .u8 (l[j].toNat : Int))) (hlen : l.length = len) (hl : ¬ (len : Int) < 59) (hcap : len ≤ cap)
    (h0 : l[0]? = some 36) (h1 : ¬ 50 < ((l.getD 1 0).toNat : Int))
    (h2 : l[2]? = some 36) (n : Int) (hn : atoiR (l.getD 3 0) (l.getD 4 0) = some n) (hr : n < 4 ∨ 31 < n) :
    Calls Tryd.prog 12 #[.slice (some ⟨b, o, none⟩) len cap] w fun e w' => e = .returned (.tuple #[.pointer none, .iface 43 (.int .i64 n)]) ∧ Still w w' := by
  have q3 : 3 < l.length := by omega
  have q4 : 3 + 1 < l.length := by omega
  have hs1 : Still w (w.alloc (.cells #[.slice none 0 0, .slice none 0 0, .int .i64 0, .int .u8 0, .int .u8 0] 40 (0, 0))) := still_alloc w _
  have hv := nf_ver l b o len cap (w.alloc (.cells #[.slice none 0 0, .slice none 0 0, .int .i64 0, .int .u8 0, .int .u8 0] 40 (0, 0))) _ rfl w.heap.size (heap_alloc_new w _) (by omega) (fun j hj => still_cell hs1 (hc j hj)) hlen hl h0 h1
  have kk : (3 : Int) ≤ len := by omega
  have ea : l.getD 3 0 = l[3] := by rw [List.getD_eq_getElem?_getD, List.getElem?_eq_getElem q3]; rfl
  have eb : l.getD 4 0 = l[3 + 1] := by rw [List.getD_eq_getElem?_getD, List.getElem?_eq_getElem q4]; rfl
  rw [ea, eb] at hn
  have cA := hc 3 q3
  have cB := hc (3 + 1) q4
  go_enter Tryd.func12, Tryd.ntmps12
  go_wp2_with (first
    | (have _ := hs2; go_at_call 17; refine (cost_bad _ _ n _ b (o + 3) _ _ _ hA hB ?_ hn hr).mono ?_; omega; rintro e w3 ⟨rfl, hs3⟩)
    | (go_at_call 16; refine hv.mono ?_; rintro e w2 ⟨n3, C2, -, hy, hz, rfl, hC2, hw2⟩; have hn3 := hy h2; subst hn3; have hs2 : Still w w2 := by { rw [hw2]; exact still_setRow hs1 _ _ (Nat.le_refl _) }; have hA := still_cell hs2 cA; have hB := still_cell hs2 cB; clear hw2))
  go_ret2
  exact ⟨rfl, still_trans hs2 hs3⟩
set_option maxHeartbeats 4000000 in
set_option maxRecDepth 20000 in
theorem nf_none3 (l : List UInt8) (b o len cap : Nat) (w : World) (hb : b < w.heap.size)
    (hc : ∀ j (hj : j < l.length), w.cell? ⟨b, o + j, none⟩ = some (.int .u8 (l[j].toNat : Int))) (hlen : l.length = len) (hl : ¬ (len : Int) < 59) (hcap : len ≤ cap)
    (h0 : l[0]? = some 36) (h1 : ¬ 50 < ((l.getD 1 0).toNat : Int))
    (h2 : l[2]? = some 36) {a0 a1 aS : Addr} (g : Gs a0 a1 aS w) (hn : atoiR (l.getD 3 0) (l.getD 4 0) = none) :
    Calls Tryd.prog 12 #[.slice (some ⟨b, o, none⟩) len cap] w fun e w' => ∃ N, e = .returned (.tuple #[.pointer none, .iface 95 (.pointer (some ⟨N, 0, none⟩))]) ∧ w'.cell? ⟨N, 2, none⟩ = some (.iface 109 (.pointer (some aS))) ∧ Still w w' := by
  have q3 : 3 < l.length := by omega
  have q4 : 3 + 1 < l.length := by omega
  have hs1 : Still w (w.alloc (.cells #[.slice none 0 0, .slice none 0 0, .int .i64 0, .int .u8 0, .int .u8 0] 40 (0, 0))) := still_alloc w _
  have hv := nf_ver l b o len cap (w.alloc (.cells #[.slice none 0 0, .slice none 0 0, .int .i64 0, .int .u8 0, .int .u8 0] 40 (0, 0))) _ rfl w.heap.size (heap_alloc_new w _) (by omega) (fun j hj => still_cell hs1 (hc j hj)) hlen hl h0 h1
  have kk : (3 : Int) ≤ len := by omega
  have ea : l.getD 3 0 = l[3] := by rw [List.getD_eq_getElem?_getD, List.getElem?_eq_getElem q3]; rfl
  have eb : l.getD 4 0 = l[3 + 1] := by rw [List.getD_eq_getElem?_getD, List.getElem?_eq_getElem q4]; rfl
  rw [ea, eb] at hn
  have cA := hc 3 q3
  have cB := hc (3 + 1) q4
  go_enter Tryd.func12, Tryd.ntmps12
  go_wp2_with (first
    | (have _ := hs2; go_at_call 17; refine (cost_none (a0 := a0) (a1 := a1) (aS := aS) _ _ _ b (o + 3) _ _ _ (g.keep hs2) hA hB ?_ hn).mono ?_; omega; rintro e w3 ⟨N, rfl, hN, hs3⟩)
    | (go_at_call 16; refine hv.mono ?_; rintro e w2 ⟨n3, C2, -, hy, hz, rfl, hC2, hw2⟩; have hn3 := hy h2; subst hn3; have hs2 : Still w w2 := by { rw [hw2]; exact still_setRow hs1 _ _ (Nat.le_refl _) }; have hA := still_cell hs2 cA; have hB := still_cell hs2 cB; clear hw2))
  go_ret2
  exact ⟨N, rfl, hN, still_trans hs2 hs3⟩
set_option maxHeartbeats 4000000 in
set_option maxRecDepth 20000 in
theorem nf_bad4 (l : List UInt8) (b o len cap : Nat) (w : World) (hb : b < w.heap.size)
    (hc : ∀ j (hj : j < l.length), w.cell? ⟨b, o + j, none⟩ = some (.int .u8 (l[j].toNat : Int))) (hlen : l.length = len) (hl : ¬ (len : Int) < 59) (hcap : len ≤ cap)
    (h0 : l[0]? = some 36) (h1 : ¬ 50 < ((l.getD 1 0).toNat : Int))
    (h2 : ¬ l[2]? = some 36) (n : Int) (hn : atoiR (l.getD 4 0) (l.getD 5 0) = some n) (hr : n < 4 ∨ 31 < n) :
    Calls Tryd.prog 12 #[.slice (some ⟨b, o, none⟩) len cap] w fun e w' => e = .returned (.tuple #[.pointer none, .iface 43 (.int .i64 n)]) ∧ Still w w' := by
  have q3 : 4 < l.length := by omega
  have q4 : 4 + 1 < l.length := by omega
  have hs1 : Still w (w.alloc (.cells #[.slice none 0 0, .slice none 0 0, .int .i64 0, .int .u8 0, .int .u8 0] 40 (0, 0))) := still_alloc w _
  have hv := nf_ver l b o len cap (w.alloc (.cells #[.slice none 0 0, .slice none 0 0, .int .i64 0, .int .u8 0, .int .u8 0] 40 (0, 0))) _ rfl w.heap.size (heap_alloc_new w _) (by omega) (fun j hj => still_cell hs1 (hc j hj)) hlen hl h0 h1
  have kk : (4 : Int) ≤ len := by omega
  have ea : l.getD 4 0 = l[4] := by rw [List.getD_eq_getElem?_getD, List.getElem?_eq_getElem q3]; rfl
  have eb : l.getD 5 0 = l[4 + 1] := by rw [List.getD_eq_getElem?_getD, List.getElem?_eq_getElem q4]; rfl
  rw [ea, eb] at hn
  have cA := hc 4 q3
  have cB := hc (4 + 1) q4
  go_enter Tryd.func12, Tryd.ntmps12
  go_wp2_with (first
    | (have _ := hs2; go_at_call 17; refine (cost_bad _ _ n _ b (o + 4) _ _ _ hA hB ?_ hn hr).mono ?_; omega; rintro e w3 ⟨rfl, hs3⟩)
    | (go_at_call 16; refine hv.mono ?_; rintro e w2 ⟨n3, C2, -, hy, hz, rfl, hC2, hw2⟩; have hn3 := hz h2; subst hn3; have hs2 : Still w w2 := by { rw [hw2]; exact still_setRow hs1 _ _ (Nat.le_refl _) }; have hA := still_cell hs2 cA; have hB := still_cell hs2 cB; clear hw2))
  go_ret2
  exact ⟨rfl, still_trans hs2 hs3⟩
set_option maxHeartbeats 4000000 in
set_option maxRecDepth 20000 in
theorem nf_none4 (l : List UInt8) (b o len cap : Nat) (w : World) (hb : b < w.heap.size)
    (hc : ∀ j (hj : j < l.length), w.cell? ⟨b, o + j, none⟩ = some (.int .u8 (l[j].toNat : Int))) (hlen : l.length = len) (hl : ¬ (len : Int) < 59) (hcap : len ≤ cap)
    (h0 : l[0]? = some 36) (h1 : ¬ 50 < ((l.getD 1 0).toNat : Int))
    (h2 : ¬ l[2]? = some 36) {a0 a1 aS : Addr} (g : Gs a0 a1 aS w) (hn : atoiR (l.getD 4 0) (l.getD 5 0) = none) :
    Calls Tryd.prog 12 #[.slice (some ⟨b, o, none⟩) len cap] w fun e w' => ∃ N, e = .returned (.tuple #[.pointer none, .iface 95 (.pointer (some ⟨N, 0, none⟩))]) ∧ w'.cell? ⟨N, 2, none⟩ = some (.iface 109 (.pointer (some aS))) ∧ Still w w' := by
  have q3 : 4 < l.length := by omega
  have q4 : 4 + 1 < l.length := by omega
  have hs1 : Still w (w.alloc (.cells #[.slice none 0 0, .slice none 0 0, .int .i64 0, .int .u8 0, .int .u8 0] 40 (0, 0))) := still_alloc w _
  have hv := nf_ver l b o len cap (w.alloc (.cells #[.slice none 0 0, .slice none 0 0, .int .i64 0, .int .u8 0, .int .u8 0] 40 (0, 0))) _ rfl w.heap.size (heap_alloc_new w _) (by omega) (fun j hj => still_cell hs1 (hc j hj)) hlen hl h0 h1
  have kk : (4 : Int) ≤ len := by omega
  have ea : l.getD 4 0 = l[4] := by rw [List.getD_eq_getElem?_getD, List.getElem?_eq_getElem q3]; rfl
  have eb : l.getD 5 0 = l[4 + 1] := by rw [List.getD_eq_getElem?_getD, List.getElem?_eq_getElem q4]; rfl
  rw [ea, eb] at hn
  have cA := hc 4 q3
  have cB := hc (4 + 1) q4
  go_enter Tryd.func12, Tryd.ntmps12
  go_wp2_with (first
    | (have _ := hs2; go_at_call 17; refine (cost_none (a0 := a0) (a1 := a1) (aS := aS) _ _ _ b (o + 4) _ _ _ (g.keep hs2) hA hB ?_ hn).mono ?_; omega; rintro e w3 ⟨N, rfl, hN, hs3⟩)
    | (go_at_call 16; refine hv.mono ?_; rintro e w2 ⟨n3, C2, -, hy, hz, rfl, hC2, hw2⟩; have hn3 := hz h2; subst hn3; have hs2 : Still w w2 := by { rw [hw2]; exact still_setRow hs1 _ _ (Nat.le_refl _) }; have hA := still_cell hs2 cA; have hB := still_cell hs2 cB; clear hw2))
  go_ret2
  exact ⟨N, rfl, hN, still_trans hs2 hs3⟩
end Go.Proofs.YtacdmigmccfcfaaDoor

/- The kind of an error, by its contracts. No condition. -/
import Derived.Test.YtacdmigmccfcfaaDoorB1As
import Derived.Test.YtacdmigmccfcfaaDoorEngD
import Derived.Below
namespace Go.Proofs.YtacdmigmccfcfaaDoor
set_option linter.unusedVariables false
set_option linter.unusedSimpArgs false
set_option linter.unusedSectionVars false
open Go.RowKit Go.Extern.Stop Go.Stop Go.Extern
open Go.Eng (Still)
theorem still_refl (w : World) : Still w w := ⟨rfl, rfl, Nat.le_refl _, fun _ _ => rfl⟩
theorem still_trans {a b c : World} (h : Still a b) (k : Still b c) : Still a c := ⟨k.1.trans h.1, k.2.1.trans h.2.1, Nat.le_trans h.2.2.1 k.2.2.1, fun i hi => (k.2.2.2 i (Nat.lt_of_lt_of_le hi h.2.2.1)).trans (h.2.2.2 i hi)⟩
theorem still_alloc (w : World) (x : Obj) : Still w (w.alloc x) := ⟨rfl, rfl, by simp, fun i hi => Below.heap_alloc w x i hi⟩
theorem still_set {a b : World} (h : Still a b) (t : Addr) (v : Value) (ht : a.heap.size ≤ t.block) : Still a (b.setCell t v) :=
  ⟨h.1, h.2.1, by show a.heap.size ≤ (b.heap.modify t.block _).size; rw [Array.size_modify]; exact h.2.2.1, fun i hi => (Below.heap_setCell b t v i (by omega)).trans (h.2.2.2 i hi)⟩
/-- What the package variables hold. -/
structure Gs (a0 a1 aS : Addr) (w : World) : Prop where
  c0 : w.cell? ⟨0, 0, none⟩ = some (.iface 109 (.pointer (some a0)))
  c1 : w.cell? ⟨1, 0, none⟩ = some (.iface 109 (.pointer (some a1)))
  c2 : w.cell? ⟨2, 0, none⟩ = some (.iface 70 (.agg #[.pointer (some ⟨8, 32, none⟩)]))
  c3 : w.cell? ⟨3, 0, none⟩ = some (.iface 109 (.pointer (some aS)))
  h0 : ∃ c t, w.heap[a0.block]? = some (.cells c t (0, 0))
  h1 : ∃ c t, w.heap[a1.block]? = some (.cells c t (0, 0))
  hS : ∃ c t, w.heap[aS.block]? = some (.cells c t (0, 0))
  n01 : a0 ≠ a1
  nS0 : aS ≠ a0
  nS1 : aS ≠ a1
theorem cell_lt' {w : World} {a : Addr} {v : Value} (h : w.cell? a = some v) : a.block < w.heap.size := by
  rcases Nat.lt_or_ge a.block w.heap.size with g | g
  · exact g
  · simp [World.cell?, Array.getElem?_eq_none g] at h
theorem heap_lt' {w : World} {b : Nat} {x : Obj} (h : w.heap[b]? = some x) : b < w.heap.size := (Array.getElem?_eq_some_iff.1 h).1
theorem still_cell {w w' : World} (h : Still w w') {a : Addr} {v : Value} (hc : w.cell? a = some v) : w'.cell? a = some v := by
  have hb := h.2.2.2 _ (cell_lt' hc)
  rw [← hc]
  unfold World.cell?
  rw [hb]
theorem still_frozen {w w' : World} (h : Still w w') {a : Addr} {v : Value} (hc : w.cell? a = some v) (hf : w.frozen? a = false) : w'.frozen? a = false := by
  have hb := h.2.2.2 _ (cell_lt' hc)
  rw [← hf]
  unfold World.frozen?
  rw [hb]
theorem Gs.keep {a0 a1 aS : Addr} {w w' : World} (g : Gs a0 a1 aS w) (h : Still w w') : Gs a0 a1 aS w' := by
  refine ⟨still_cell h g.c0, still_cell h g.c1, still_cell h g.c2, still_cell h g.c3, ?_, ?_, ?_, g.n01, g.nS0, g.nS1⟩
  · obtain ⟨c, t, e⟩ := g.h0; exact ⟨c, t, (h.2.2.2 _ (heap_lt' e)).trans e⟩
  · obtain ⟨c, t, e⟩ := g.h1; exact ⟨c, t, (h.2.2.2 _ (heap_lt' e)).trans e⟩
  · obtain ⟨c, t, e⟩ := g.hS; exact ⟨c, t, (h.2.2.2 _ (heap_lt' e)).trans e⟩

theorem hit41 (n : Int) (t : Addr) (old : Value) (w : World) (hg : w.cell? ⟨2, 0, none⟩ = some (.iface 70 (.agg #[.pointer (some ⟨8, 32, none⟩)]))) (ht0 : w.cell? t = some old) (hf0 : w.frozen? t = false) :
    Calls Tryd.prog 14 #[.iface 41 (.int .u8 n), .iface 46 (.pointer (some t))] w fun ev w' => ev = .returned (.bool true) ∧ ∃ w2, Still w w2 ∧ w' = w2.setCell t (.int .u8 n) :=
  (as_hit41 n t old w hg ht0 hf0).mono fun ev w' ⟨h1, h2⟩ => ⟨h1, _, still_trans (still_trans (still_trans (still_alloc _ _) (still_alloc _ _)) (still_alloc _ _)) (still_alloc _ _), h2⟩
theorem hit42 (n : Int) (t : Addr) (old : Value) (w : World) (hg : w.cell? ⟨2, 0, none⟩ = some (.iface 70 (.agg #[.pointer (some ⟨8, 32, none⟩)]))) (ht0 : w.cell? t = some old) (hf0 : w.frozen? t = false) :
    Calls Tryd.prog 14 #[.iface 42 (.int .u8 n), .iface 47 (.pointer (some t))] w fun ev w' => ev = .returned (.bool true) ∧ ∃ w2, Still w w2 ∧ w' = w2.setCell t (.int .u8 n) :=
  (as_hit42 n t old w hg ht0 hf0).mono fun ev w' ⟨h1, h2⟩ => ⟨h1, _, still_trans (still_trans (still_trans (still_alloc _ _) (still_alloc _ _)) (still_alloc _ _)) (still_alloc _ _), h2⟩
theorem hit43 (n : Int) (t : Addr) (old : Value) (w : World) (hg : w.cell? ⟨2, 0, none⟩ = some (.iface 70 (.agg #[.pointer (some ⟨8, 32, none⟩)]))) (ht0 : w.cell? t = some old) (hf0 : w.frozen? t = false) :
    Calls Tryd.prog 14 #[.iface 43 (.int .i64 n), .iface 48 (.pointer (some t))] w fun ev w' => ev = .returned (.bool true) ∧ ∃ w2, Still w w2 ∧ w' = w2.setCell t (.int .i64 n) :=
  (as_hit43 n t old w hg ht0 hf0).mono fun ev w' ⟨h1, h2⟩ => ⟨h1, _, still_trans (still_trans (still_trans (still_alloc _ _) (still_alloc _ _)) (still_alloc _ _)) (still_alloc _ _), h2⟩
theorem miss42_41 (v : Value) (t : Addr) (old : Value) (w : World) (hg : w.cell? ⟨2, 0, none⟩ = some (.iface 70 (.agg #[.pointer (some ⟨8, 32, none⟩)]))) (ht0 : w.cell? t = some old) (hf0 : w.frozen? t = false) :
    Calls Tryd.prog 14 #[.iface 42 v, .iface 46 (.pointer (some t))] w fun ev w' => ev = .returned (.bool false) ∧ Still w w' :=
  (as_miss42_41 v t old w hg ht0 hf0).mono fun ev w' ⟨h1, h2⟩ => ⟨h1, by rw [h2]; exact still_trans (still_trans (still_alloc _ _) (still_alloc _ _)) (still_alloc _ _)⟩
theorem miss43_41 (v : Value) (t : Addr) (old : Value) (w : World) (hg : w.cell? ⟨2, 0, none⟩ = some (.iface 70 (.agg #[.pointer (some ⟨8, 32, none⟩)]))) (ht0 : w.cell? t = some old) (hf0 : w.frozen? t = false) :
    Calls Tryd.prog 14 #[.iface 43 v, .iface 46 (.pointer (some t))] w fun ev w' => ev = .returned (.bool false) ∧ Still w w' :=
  (as_miss43_41 v t old w hg ht0 hf0).mono fun ev w' ⟨h1, h2⟩ => ⟨h1, by rw [h2]; exact still_trans (still_trans (still_alloc _ _) (still_alloc _ _)) (still_alloc _ _)⟩
theorem miss43_42 (v : Value) (t : Addr) (old : Value) (w : World) (hg : w.cell? ⟨2, 0, none⟩ = some (.iface 70 (.agg #[.pointer (some ⟨8, 32, none⟩)]))) (ht0 : w.cell? t = some old) (hf0 : w.frozen? t = false) :
    Calls Tryd.prog 14 #[.iface 43 v, .iface 47 (.pointer (some t))] w fun ev w' => ev = .returned (.bool false) ∧ Still w w' :=
  (as_miss43_42 v t old w hg ht0 hf0).mono fun ev w' ⟨h1, h2⟩ => ⟨h1, by rw [h2]; exact still_trans (still_trans (still_alloc _ _) (still_alloc _ _)) (still_alloc _ _)⟩
theorem wrap_41 (pb po : Nat) (a : Addr) (t : Addr) (old : Value) (w : World) (hg : w.cell? ⟨2, 0, none⟩ = some (.iface 70 (.agg #[.pointer (some ⟨8, 32, none⟩)]))) (ht0 : w.cell? t = some old) (hf0 : w.frozen? t = false) (h1 : w.cell? ⟨pb, po + 2, none⟩ = some (.iface 109 (.pointer (some a)))) :
    Calls Tryd.prog 14 #[.iface 95 (.pointer (some ⟨pb, po, none⟩)), .iface 46 (.pointer (some t))] w fun ev w' => ev = .returned (.bool false) ∧ Still w w' :=
  (as_wrap_41 pb po a t old w hg ht0 hf0 h1).mono fun ev w' ⟨h1, h2⟩ => ⟨h1, by rw [h2]; exact still_trans (still_trans (still_alloc _ _) (still_alloc _ _)) (still_alloc _ _)⟩
theorem wrap_42 (pb po : Nat) (a : Addr) (t : Addr) (old : Value) (w : World) (hg : w.cell? ⟨2, 0, none⟩ = some (.iface 70 (.agg #[.pointer (some ⟨8, 32, none⟩)]))) (ht0 : w.cell? t = some old) (hf0 : w.frozen? t = false) (h1 : w.cell? ⟨pb, po + 2, none⟩ = some (.iface 109 (.pointer (some a)))) :
    Calls Tryd.prog 14 #[.iface 95 (.pointer (some ⟨pb, po, none⟩)), .iface 47 (.pointer (some t))] w fun ev w' => ev = .returned (.bool false) ∧ Still w w' :=
  (as_wrap_42 pb po a t old w hg ht0 hf0 h1).mono fun ev w' ⟨h1, h2⟩ => ⟨h1, by rw [h2]; exact still_trans (still_trans (still_alloc _ _) (still_alloc _ _)) (still_alloc _ _)⟩
theorem wrap_43 (pb po : Nat) (a : Addr) (t : Addr) (old : Value) (w : World) (hg : w.cell? ⟨2, 0, none⟩ = some (.iface 70 (.agg #[.pointer (some ⟨8, 32, none⟩)]))) (ht0 : w.cell? t = some old) (hf0 : w.frozen? t = false) (h1 : w.cell? ⟨pb, po + 2, none⟩ = some (.iface 109 (.pointer (some a)))) :
    Calls Tryd.prog 14 #[.iface 95 (.pointer (some ⟨pb, po, none⟩)), .iface 48 (.pointer (some t))] w fun ev w' => ev = .returned (.bool false) ∧ Still w w' :=
  (as_wrap_43 pb po a t old w hg ht0 hf0 h1).mono fun ev w' ⟨h1, h2⟩ => ⟨h1, by rw [h2]; exact still_trans (still_trans (still_alloc _ _) (still_alloc _ _)) (still_alloc _ _)⟩
/-- The three variables that bcryptKind sets up. -/
def kw (w : World) : World := ((w.alloc (.cells #[.int .u8 0] 41)).alloc (.cells #[.int .u8 0] 42)).alloc (.cells #[.int .i64 0] 43)
theorem kw_still (w : World) : Still w (kw w) := still_trans (still_trans (still_alloc _ _) (still_alloc _ _)) (still_alloc _ _)
theorem kw_1 (w : World) : (kw w).cell? ⟨w.heap.size, 0, none⟩ = some (.int .u8 0) ∧ (kw w).frozen? ⟨w.heap.size, 0, none⟩ = false := by
  unfold kw
  constructor
  · rw [World.cell?_alloc_lt _ _ ⟨w.heap.size, 0, none⟩ (by simp; omega), World.cell?_alloc_lt _ _ ⟨w.heap.size, 0, none⟩ (by simp)]; simp
  · rw [World.frozen?_alloc_old _ _ ⟨w.heap.size, 0, none⟩ (by simp; omega), World.frozen?_alloc_old _ _ ⟨w.heap.size, 0, none⟩ (by simp)]; simp
theorem kw_2 (w : World) : (kw w).cell? ⟨w.heap.size + 1, 0, none⟩ = some (.int .u8 0) ∧ (kw w).frozen? ⟨w.heap.size + 1, 0, none⟩ = false := by
  unfold kw
  constructor
  · rw [World.cell?_alloc_lt _ _ ⟨w.heap.size + 1, 0, none⟩ (by simp)]; simp
  · rw [World.frozen?_alloc_old _ _ ⟨w.heap.size + 1, 0, none⟩ (by simp)]; simp
theorem kw_3 (w : World) : (kw w).cell? ⟨w.heap.size + 2, 0, none⟩ = some (.int .i64 0) ∧ (kw w).frozen? ⟨w.heap.size + 2, 0, none⟩ = false := by
  unfold kw
  constructor
  · rw [World.cell?_alloc_at _ _ _ _ (by simp)]; rfl
  · rw [World.frozen?_alloc_at _ _ _ _ (by simp)]

end Go.Proofs.YtacdmigmccfcfaaDoor

/- The variables of package md4 as the statement lays them. -/
import Derived.Test.YtaklljigoajpcaaDoorR4Cfg
import Derived.Test.YtaklljigoajpcaaDoorRows
import Derived.WalkKit
import Derived.ProofKit
import Derived.OpenShut
import Derived.LaidLaws
import Derived.LaidHandle
import Derived.Handed
namespace Go.Proofs.YtaklljigoajpcaaDoor.M
open Go.ChangeShapes Go.WideShapes Go.ChangeAt Go.RowKit
open Go.Eng
set_option linter.unusedVariables false
def n_shift1 : List Int := [3, 7, 11, 19]
def n_shift2 : List Int := [3, 5, 9, 13]
def n_shift3 : List Int := [3, 9, 11, 15]
def n_xIndex2 : List Int := [0, 4, 8, 12, 1, 5, 9, 13, 2, 6, 10, 14, 3, 7, 11, 15]
def n_xIndex3 : List Int := [0, 8, 4, 12, 2, 10, 6, 14, 1, 9, 5, 13, 3, 11, 7, 15]
theorem tabS1_eq : tabS1 = n_shift1.map fun z => AV.num (.int .i64 (.c z)) := by kernel_rfl
theorem tabS2_eq : tabS2 = n_shift2.map fun z => AV.num (.int .i64 (.c z)) := by kernel_rfl
theorem tabS3_eq : tabS3 = n_shift3.map fun z => AV.num (.int .i64 (.c z)) := by kernel_rfl
theorem tabX2_eq : tabX2 = n_xIndex2.map fun z => AV.num (.int .u64 (.c z)) := by kernel_rfl
theorem tabX3_eq : tabX3 = n_xIndex3.map fun z => AV.num (.int .u64 (.c z)) := by kernel_rfl
theorem laid_shift1 : (Rows.laid_pub_wardkeep_pub_crypto_md4_shift1 : DataW Unit) = .slice (n_shift1.map fun z => .lit (.int .i64 z)) [] := by kernel_rfl
theorem laid_shift2 : (Rows.laid_pub_wardkeep_pub_crypto_md4_shift2 : DataW Unit) = .slice (n_shift2.map fun z => .lit (.int .i64 z)) [] := by kernel_rfl
theorem laid_shift3 : (Rows.laid_pub_wardkeep_pub_crypto_md4_shift3 : DataW Unit) = .slice (n_shift3.map fun z => .lit (.int .i64 z)) [] := by kernel_rfl
theorem laid_xIndex2 : (Rows.laid_pub_wardkeep_pub_crypto_md4_xIndex2 : DataW Unit) = .slice (n_xIndex2.map fun z => .lit (.int .u64 z)) [] := by kernel_rfl
theorem laid_xIndex3 : (Rows.laid_pub_wardkeep_pub_crypto_md4_xIndex3 : DataW Unit) = .slice (n_xIndex3.map fun z => .lit (.int .u64 z)) [] := by kernel_rfl
theorem gl_shift1 : Tryd.prog.globalNamed "pub-wardkeep/pub/crypto/md4.shift1" = some 4 := by kernel_rfl
theorem ty_shift1 : (Tryd.prog.globals[4]?).map (·.type) = some 87 := by kernel_rfl
theorem gl_shift2 : Tryd.prog.globalNamed "pub-wardkeep/pub/crypto/md4.shift2" = some 6 := by kernel_rfl
theorem ty_shift2 : (Tryd.prog.globals[6]?).map (·.type) = some 87 := by kernel_rfl
theorem gl_shift3 : Tryd.prog.globalNamed "pub-wardkeep/pub/crypto/md4.shift3" = some 8 := by kernel_rfl
theorem ty_shift3 : (Tryd.prog.globals[8]?).map (·.type) = some 87 := by kernel_rfl
theorem gl_xIndex2 : Tryd.prog.globalNamed "pub-wardkeep/pub/crypto/md4.xIndex2" = some 5 := by kernel_rfl
theorem ty_xIndex2 : (Tryd.prog.globals[5]?).map (·.type) = some 88 := by kernel_rfl
theorem gl_xIndex3 : Tryd.prog.globalNamed "pub-wardkeep/pub/crypto/md4.xIndex3" = some 7 := by kernel_rfl
theorem ty_xIndex3 : (Tryd.prog.globals[7]?).map (·.type) = some 88 := by kernel_rfl
theorem cells3 : Tryd.prog.cellsOf 3 = 1 := by kernel_rfl
theorem cells60 : Tryd.prog.cellsOf 60 = 1 := by kernel_rfl
/-- What a laid slice of numbers leads to. -/
def LeadsTo (W : World) (g : Nat) (k : IntKind) (l : List Int) (r : Nat × Nat) : Prop :=
  g < W.heap.size ∧ W.cell? (at' g 0) = some (.slice (some (at' r.1 r.2)) l.length l.length) ∧ r.1 < W.heap.size ∧ ∀ (i : Nat) z, l[i]? = some z → W.cell? (at' r.1 (r.2 + i)) = some (.int k z)
theorem sl_laid {P : Program} {W : World} {name : String} {g t e fuel : Nat} {k : IntKind} {cs : Array Value} {l : List Int} {p : List MemPlace} (hg : P.globalNamed name = some g) (hv : W.var? P name = some cs) (ht : P.underlying t = some (.slice e)) (he : P.underlying e = some (.int k)) (hc : P.cellsOf e = 1) (hl0 : l ≠ [])
    (h : DataW.trod (fun _ => ()) P W 0 (fun _ => true) false fuel t cs.toList = some (.slice (l.map fun z => .lit (.int k z)) [], p)) : ∃ r, LeadsTo W g k l r := by
  have hcell := World.var?_cell hg hv
  have hgl : g < W.heap.size := by
    simp only [World.var?, hg, Option.bind_some] at hv
    split at hv
    · rename_i c t f hh
      exact (Array.getElem?_eq_some_iff.1 hh).1
    · cases hv
  rcases open_ints ht he hc h with ⟨_, hx⟩ | ⟨a, len, cap, zs, hcs, _, hl, _, hz, hx, hcell2, _⟩
  · cases hx
  · simp only [if_true] at hz
    have h1 : (l.map fun z => (DataW.lit (.int k z) : DataW Unit)) = lits k (zs.take len) ∧ ([] : List (DataW Unit)) = lits k (zs.drop len) := by
      have := congrArg Prod.fst hx
      simp only [DataW.slice.injEq] at this
      exact this
    have hd : zs.drop len = [] := by
      have := congrArg List.length h1.2
      simp [lits] at this
      exact List.drop_eq_nil_of_le (by omega)
    have hcl : cap = len := by
      have := congrArg List.length hd
      rw [List.length_drop] at this
      simp at this; omega
    have hzs : zs = l := by
      have h2 : zs.take len = zs := List.take_of_length_le (by omega)
      rw [h2] at h1
      have := h1.1
      unfold lits at this
      have inj : Function.Injective (fun z => (DataW.lit (.int k z) : DataW Unit)) := fun a b hab => by simpa using hab
      exact (List.map_inj_right (fun x y => by simp)).1 this.symm
    subst hzs
    have hlen : zs.length = len := by omega
    have h0 := hcell2 0 (by have : 0 < zs.length := List.length_pos_iff.2 hl0; exact this)
    have hspot : a.spot = none := by simpa [Addr.add] using World.cell?_spot h0
    have hlt : a.block < W.heap.size := by have := @cell_lt ⟨fun _ => (0, 0)⟩ _ _ _ h0; simpa [Addr.add] using this
    have ea : a = at' a.block a.off := by cases a; simp_all [at']
    have e1 : ∀ i, (a.add i) = at' a.block (a.off + i) := by
      intro i
      unfold Addr.add at'
      split
      · rename_i h0; subst h0; cases a; simp_all
      · cases a; simp
    refine ⟨(a.block, a.off), hgl, ?_, hlt, fun i z hi => ?_⟩
    · show W.cell? ⟨g, 0, none⟩ = _
      rw [hcell 0, ← Array.getElem?_toList, hcs, ← ea, hlen, hcl]; rfl
    · have hii : i < zs.length := (List.getElem?_eq_some_iff.1 hi).1
      have := hcell2 i hii
      rw [e1 i] at this
      rw [this]
      simp [List.getD, hi]
abbrev laidM : List (String × DataW Unit) := [("pub-wardkeep/pub/crypto/md4.shift1", Rows.laid_pub_wardkeep_pub_crypto_md4_shift1), ("pub-wardkeep/pub/crypto/md4.shift2", Rows.laid_pub_wardkeep_pub_crypto_md4_shift2), ("pub-wardkeep/pub/crypto/md4.shift3", Rows.laid_pub_wardkeep_pub_crypto_md4_shift3), ("pub-wardkeep/pub/crypto/md4.xIndex2", Rows.laid_pub_wardkeep_pub_crypto_md4_xIndex2), ("pub-wardkeep/pub/crypto/md4.xIndex3", Rows.laid_pub_wardkeep_pub_crypto_md4_xIndex3)]
theorem rows_vars {W : World} {rest : List (String × DataW Unit)} {ps : List MemPlace} (h : DataW.LaidVars Tryd.prog W (laidM ++ rest) ps) : (∃ r : Nat → Nat × Nat, LeadsTo W 4 .i64 n_shift1 (r 4) ∧ LeadsTo W 6 .i64 n_shift2 (r 6) ∧ LeadsTo W 8 .i64 n_shift3 (r 8) ∧ LeadsTo W 5 .u64 n_xIndex2 (r 5) ∧ LeadsTo W 7 .u64 n_xIndex3 (r 7)) ∧ ∃ ps', DataW.LaidVars Tryd.prog W rest ps' := by
  obtain ⟨g4, t4, c4, f4, p4, q4, a4, b4, v4, d4, h, _⟩ := h
  obtain rfl := Option.some.inj (gl_shift1.symm.trans a4)
  obtain rfl := Option.some.inj (ty_shift1.symm.trans b4)
  rw [laid_shift1] at d4
  obtain ⟨r4, e4⟩ := sl_laid gl_shift1 v4 Tryd.underlying87 Tryd.underlying3 cells3 (by unfold n_shift1; simp) d4
  obtain ⟨g6, t6, c6, f6, p6, q6, a6, b6, v6, d6, h, _⟩ := h
  obtain rfl := Option.some.inj (gl_shift2.symm.trans a6)
  obtain rfl := Option.some.inj (ty_shift2.symm.trans b6)
  rw [laid_shift2] at d6
  obtain ⟨r6, e6⟩ := sl_laid gl_shift2 v6 Tryd.underlying87 Tryd.underlying3 cells3 (by unfold n_shift2; simp) d6
  obtain ⟨g8, t8, c8, f8, p8, q8, a8, b8, v8, d8, h, _⟩ := h
  obtain rfl := Option.some.inj (gl_shift3.symm.trans a8)
  obtain rfl := Option.some.inj (ty_shift3.symm.trans b8)
  rw [laid_shift3] at d8
  obtain ⟨r8, e8⟩ := sl_laid gl_shift3 v8 Tryd.underlying87 Tryd.underlying3 cells3 (by unfold n_shift3; simp) d8
  obtain ⟨g5, t5, c5, f5, p5, q5, a5, b5, v5, d5, h, _⟩ := h
  obtain rfl := Option.some.inj (gl_xIndex2.symm.trans a5)
  obtain rfl := Option.some.inj (ty_xIndex2.symm.trans b5)
  rw [laid_xIndex2] at d5
  obtain ⟨r5, e5⟩ := sl_laid gl_xIndex2 v5 Tryd.underlying88 Tryd.underlying60 cells60 (by unfold n_xIndex2; simp) d5
  obtain ⟨g7, t7, c7, f7, p7, q7, a7, b7, v7, d7, h, _⟩ := h
  obtain rfl := Option.some.inj (gl_xIndex3.symm.trans a7)
  obtain rfl := Option.some.inj (ty_xIndex3.symm.trans b7)
  rw [laid_xIndex3] at d7
  obtain ⟨r7, e7⟩ := sl_laid gl_xIndex3 v7 Tryd.underlying88 Tryd.underlying60 cells60 (by unfold n_xIndex3; simp) d7
  exact ⟨⟨fun g => match g with | 4 => r4 | 6 => r6 | 8 => r8 | 5 => r5 | 7 => r7 | _ => (0, 0), e4, e6, e8, e5, e7⟩, _, h⟩
theorem rows_of {W : World} (h : laidMet Tryd.prog laidM W) : ∃ r : Nat → Nat × Nat, LeadsTo W 4 .i64 n_shift1 (r 4) ∧ LeadsTo W 6 .i64 n_shift2 (r 6) ∧ LeadsTo W 8 .i64 n_shift3 (r 8) ∧ LeadsTo W 5 .u64 n_xIndex2 (r 5) ∧ LeadsTo W 7 .u64 n_xIndex3 (r 7) := by
  obtain ⟨ps, h, _⟩ := h
  exact (rows_vars (rest := []) (by rw [List.append_nil]; exact h)).1
theorem glob_ok [R : RowAddr] {W : World} (h : LeadsTo W 4 .i64 n_shift1 (RowAddr.row 4) ∧ LeadsTo W 6 .i64 n_shift2 (RowAddr.row 6) ∧ LeadsTo W 8 .i64 n_shift3 (RowAddr.row 8) ∧ LeadsTo W 5 .u64 n_xIndex2 (RowAddr.row 5) ∧ LeadsTo W 7 .u64 n_xIndex3 (RowAddr.row 7)) : ∀ g l, noGlob g = some l → gIx g < W.heap.size ∧ ∀ (i : Nat) x, l[i]? = some x → ∃ v, W.cell? (gAt g i) = some v ∧ VRel (fun _ => none) x v := by
  obtain ⟨h4, h6, h8, h5, h7⟩ := h
  have var : ∀ (g : Nat) (k : IntKind) (zs : List Int), LeadsTo W g k zs (RowAddr.row g) → gIx (2 * g) < W.heap.size ∧ ∀ (i : Nat) x, [AV.gs (2 * g + 1) (.c 0) (.c zs.length)][i]? = some x → ∃ v, W.cell? (gAt (2 * g) i) = some v ∧ VRel (fun _ => none) x v := by
    intro g k zs ⟨h1, h2, _, _⟩
    refine ⟨by rw [gIx_var]; exact h1, fun i x hx => ?_⟩
    match i, hx with
    | 0, hx =>
      simp only [List.getElem?_cons_zero, Option.some.injEq] at hx
      subst hx
      refine ⟨_, by rw [gAt_var]; exact h2, ?_⟩
      have := VRel.gs (β := fun _ => none) (2 * g + 1) (.c 0) (.c zs.length) zs.length (Nat.le_refl _)
      have e : gAt (2 * g + 1) (N.c 0).v = at' (RowAddr.row g).1 (RowAddr.row g).2 := by
        unfold gAt
        rw [if_neg (by omega), show (2 * g + 1) / 2 = g by omega]; rfl
      rw [e] at this
      exact this
    | i + 1, hx => simp at hx
  have row : ∀ (g : Nat) (k : IntKind) (zs : List Int), LeadsTo W g k zs (RowAddr.row g) → gIx (2 * g + 1) < W.heap.size ∧ ∀ (i : Nat) x, (zs.map fun z => AV.num (.int k (.c z)))[i]? = some x → ∃ v, W.cell? (gAt (2 * g + 1) i) = some v ∧ VRel (fun _ => none) x v := by
    intro g k zs ⟨_, _, h3, h4⟩
    have e1 : gIx (2 * g + 1) = (RowAddr.row g).1 := by
      unfold gIx
      rw [if_neg (by omega), show (2 * g + 1) / 2 = g by omega]
    have e2 : ∀ i, gAt (2 * g + 1) i = at' (RowAddr.row g).1 ((RowAddr.row g).2 + i) := by
      intro i
      unfold gAt
      rw [if_neg (by omega), show (2 * g + 1) / 2 = g by omega]
    refine ⟨by rw [e1]; exact h3, fun i x hx => ?_⟩
    rw [List.getElem?_map, Option.map_eq_some_iff] at hx
    obtain ⟨z, hz, rfl⟩ := hx
    exact ⟨.int k z, by rw [e2]; exact h4 i z hz, .num (.int k (.c z))⟩
  intro g l hg
  match g, hg with
  | 0, hg => cases hg
  | 1, hg => cases hg
  | 2, hg => cases hg
  | 3, hg => cases hg
  | 4, hg => cases hg
  | 5, hg => cases hg
  | 6, hg => cases hg
  | 7, hg => cases hg
  | 8, hg => have hg : some [AV.gs 9 (.c 0) (.c n_shift1.length)] = some l := hg; injection hg with hg; subst hg; exact var 4 _ _ h4
  | 9, hg => have hg : some tabS1 = some l := hg; injection hg with hg; subst hg; rw [tabS1_eq]; exact row 4 _ _ h4
  | 10, hg => have hg : some [AV.gs 11 (.c 0) (.c n_xIndex2.length)] = some l := hg; injection hg with hg; subst hg; exact var 5 _ _ h5
  | 11, hg => have hg : some tabX2 = some l := hg; injection hg with hg; subst hg; rw [tabX2_eq]; exact row 5 _ _ h5
  | 12, hg => have hg : some [AV.gs 13 (.c 0) (.c n_shift2.length)] = some l := hg; injection hg with hg; subst hg; exact var 6 _ _ h6
  | 13, hg => have hg : some tabS2 = some l := hg; injection hg with hg; subst hg; rw [tabS2_eq]; exact row 6 _ _ h6
  | 14, hg => have hg : some [AV.gs 15 (.c 0) (.c n_xIndex3.length)] = some l := hg; injection hg with hg; subst hg; exact var 7 _ _ h7
  | 15, hg => have hg : some tabX3 = some l := hg; injection hg with hg; subst hg; rw [tabX3_eq]; exact row 7 _ _ h7
  | 16, hg => have hg : some [AV.gs 17 (.c 0) (.c n_shift3.length)] = some l := hg; injection hg with hg; subst hg; exact var 8 _ _ h8
  | 17, hg => have hg : some tabS3 = some l := hg; injection hg with hg; subst hg; rw [tabS3_eq]; exact row 8 _ _ h8
  | g + 18, hg => cases hg
noncomputable def low : Nat := (World.holding Tryd.prog default ⟨#[], #[], []⟩).heap.size
/-- A world that meets the condition. -/
noncomputable def laidWorld (os : Os) : World :=
  let w0 := World.holding Tryd.prog os ⟨#[.cells (n_shift1.map fun z => Value.int .i64 z).toArray 3, .cells (n_shift2.map fun z => Value.int .i64 z).toArray 3, .cells (n_shift3.map fun z => Value.int .i64 z).toArray 3, .cells (n_xIndex2.map fun z => Value.int .u64 z).toArray 60, .cells (n_xIndex3.map fun z => Value.int .u64 z).toArray 60], #[], []⟩
  { w0 with heap := ((((((((((w0.heap).modify 4 (fun o => match o with | .cells _ t f => .cells #[.slice (some ⟨low + 0, 0, none⟩) n_shift1.length n_shift1.length] t f | o => o))).modify 6 (fun o => match o with | .cells _ t f => .cells #[.slice (some ⟨low + 1, 0, none⟩) n_shift2.length n_shift2.length] t f | o => o))).modify 8 (fun o => match o with | .cells _ t f => .cells #[.slice (some ⟨low + 2, 0, none⟩) n_shift3.length n_shift3.length] t f | o => o))).modify 5 (fun o => match o with | .cells _ t f => .cells #[.slice (some ⟨low + 3, 0, none⟩) n_xIndex2.length n_xIndex2.length] t f | o => o))).modify 7 (fun o => match o with | .cells _ t f => .cells #[.slice (some ⟨low + 4, 0, none⟩) n_xIndex3.length n_xIndex3.length] t f | o => o)) }
set_option maxRecDepth 100000 in
theorem laidWorld_met (os : Os) (args : Array Value) : laidMetH Tryd.prog laidM ((laidWorld os).forCall (fun _ _ => 0) ⟨#[], args, []⟩).memory :=
  laidMetH_of_parts (laidMet_of_run' 8 (by kernel_rfl) (by kernel_rfl)) (by kernel_rfl)
end Go.Proofs.YtaklljigoajpcaaDoor.M

/- The package's variables as the statement lays them. -/
import Derived.Test.YtaklljigoajpcaaDoorR3Cfg
import Derived.Test.YtaklljigoajpcaaDoorRows
import Derived.WalkKit
import Derived.ProofKit
import Derived.OpenShut
import Derived.LaidLaws
import Derived.LaidHandle
import Derived.Handed
namespace Go.Proofs.YtaklljigoajpcaaDoor
open Go.Eng
def numN : List Int := [0, 1, 2, 3, 4, 5, 6, 7, 8, 9, 10, 11, 12, 13, 14, 15, 7, 4, 13, 1, 10, 6, 15, 3, 12, 0, 9, 5, 2, 14, 11, 8, 3, 10, 14, 4, 9, 15, 8, 1] ++ [2, 7, 0, 6, 13, 11, 5, 12, 1, 9, 11, 10, 0, 8, 12, 4, 13, 3, 7, 15, 14, 5, 6, 2, 4, 0, 5, 9, 7, 12, 2, 10, 14, 1, 3, 8, 11, 6, 15, 13]
def numN2 : List Int := [5, 14, 7, 0, 9, 2, 11, 4, 13, 6, 15, 8, 1, 10, 3, 12, 6, 11, 3, 7, 0, 13, 5, 10, 14, 15, 8, 12, 4, 9, 1, 2, 15, 5, 1, 3, 7, 14, 6, 9] ++ [11, 8, 12, 2, 10, 0, 4, 13, 8, 6, 4, 1, 3, 11, 15, 0, 5, 12, 2, 13, 9, 7, 10, 14, 12, 15, 10, 4, 1, 5, 8, 7, 6, 2, 13, 14, 0, 3, 9, 11]
def numR : List Int := [11, 14, 15, 12, 5, 8, 7, 9, 11, 13, 14, 15, 6, 7, 9, 8, 7, 6, 8, 13, 11, 9, 7, 15, 7, 12, 15, 9, 11, 7, 13, 12, 11, 13, 6, 7, 14, 9, 13, 15] ++ [14, 8, 13, 6, 5, 12, 7, 5, 11, 12, 14, 15, 14, 15, 9, 8, 9, 14, 5, 6, 8, 6, 5, 12, 9, 15, 5, 11, 6, 8, 13, 12, 5, 12, 13, 14, 11, 8, 5, 6]
def numR2 : List Int := [8, 9, 9, 11, 13, 15, 15, 5, 7, 7, 8, 11, 14, 14, 12, 6, 9, 13, 15, 7, 12, 8, 9, 11, 7, 7, 12, 7, 6, 15, 13, 11, 9, 7, 15, 11, 8, 6, 6, 14] ++ [12, 13, 5, 14, 13, 13, 7, 5, 15, 5, 8, 11, 14, 14, 6, 14, 6, 9, 12, 9, 12, 5, 15, 8, 8, 5, 12, 9, 12, 5, 14, 6, 8, 13, 6, 5, 15, 13, 11, 11]
theorem tabN_eq : tabN = numN.map fun z => AV.num (.int .u64 (.c z)) := by kernel_rfl
theorem tabN2_eq : tabN2 = numN2.map fun z => AV.num (.int .u64 (.c z)) := by kernel_rfl
theorem tabR_eq : tabR = numR.map fun z => AV.num (.int .u64 (.c z)) := by kernel_rfl
theorem tabR2_eq : tabR2 = numR2.map fun z => AV.num (.int .u64 (.c z)) := by kernel_rfl
theorem laidnumN : (Rows.laid_pub_wardkeep_pub_crypto_ripemd160_n : DataW Unit) = .agg (numN.map fun z => .lit (.int .u64 z)) := by kernel_rfl
theorem laidnumR : (Rows.laid_pub_wardkeep_pub_crypto_ripemd160_r : DataW Unit) = .agg (numR.map fun z => .lit (.int .u64 z)) := by kernel_rfl
theorem laidnumN2 : (Rows.laid_pub_wardkeep_pub_crypto_ripemd160_n_ : DataW Unit) = .agg (numN2.map fun z => .lit (.int .u64 z)) := by kernel_rfl
theorem laidnumR2 : (Rows.laid_pub_wardkeep_pub_crypto_ripemd160_r_ : DataW Unit) = .agg (numR2.map fun z => .lit (.int .u64 z)) := by kernel_rfl
theorem gl0 : Tryd.prog.globalNamed "pub-wardkeep/pub/crypto/ripemd160._n" = some 0 := by kernel_rfl
theorem gl1 : Tryd.prog.globalNamed "pub-wardkeep/pub/crypto/ripemd160.n_" = some 1 := by kernel_rfl
theorem gl2 : Tryd.prog.globalNamed "pub-wardkeep/pub/crypto/ripemd160._r" = some 2 := by kernel_rfl
theorem gl3 : Tryd.prog.globalNamed "pub-wardkeep/pub/crypto/ripemd160.r_" = some 3 := by kernel_rfl
theorem ty0 : (Tryd.prog.globals[0]?).map (·.type) = some 86 := by kernel_rfl
theorem ty1 : (Tryd.prog.globals[1]?).map (·.type) = some 86 := by kernel_rfl
theorem ty2 : (Tryd.prog.globals[2]?).map (·.type) = some 86 := by kernel_rfl
theorem ty3 : (Tryd.prog.globals[3]?).map (·.type) = some 86 := by kernel_rfl
theorem cells60 : Tryd.prog.cellsOf 60 = 1 := by kernel_rfl
theorem cells86 : Tryd.prog.cellsOf 86 = 80 := by kernel_rfl
/-- The cells of an array of numbers that reads as a datum. -/
theorem arr_cells {P : Program} {W : World} {t e n fuel : Nat} {k : IntKind} {cs : List Value} {l : List Int} {p : List MemPlace} (ht : P.underlying t = some (.array n e)) (he : P.underlying e = some (.int k)) (hc : P.cellsOf e = 1) (hct : P.cellsOf t = n) (hn : l.length = n)
    (h : DataW.trod (fun _ => ()) P W 0 (fun _ => true) false fuel t cs = some (.agg (l.map fun z => .lit (.int k z)), p)) : cs = l.map fun z => .int k z := by
  obtain ⟨xs, m, _, hx, hl, hxl, hel⟩ := DataW.trod_array ht h
  have hx1 : l.map (fun z => (DataW.lit (.int k z) : DataW Unit)) = xs.map (·.1) := by
    have := congrArg Prod.fst hx
    simpa using this
  refine List.ext_getElem? fun i => ?_
  rcases Nat.lt_or_ge i n with hi | hi
  · have hE := hel i hi
    rw [hc, Nat.mul_one, List.getElem?_eq_getElem (by omega)] at hE
    obtain ⟨z, e1, e2, e3⟩ := DataW.trod_int he hE
    have e0 : cs[i]? = some (.int k z) := by
      have e0 : ((cs.drop i).take 1)[0]? = some (.int k z) := by rw [e1]; rfl
      simpa using e0
    have hz : (l.map (fun z => (DataW.lit (.int k z) : DataW Unit)))[i]? = some (.lit (.int k z)) := by
      rw [hx1, List.getElem?_map, List.getElem?_eq_getElem (by omega), e2]; rfl
    rw [e0, List.getElem?_map]
    rw [List.getElem?_map] at hz
    cases hli : l[i]? with
    | none => rw [hli] at hz; cases hz
    | some y =>
      rw [hli] at hz
      simp only [Option.map_some, Option.some.injEq, DataW.lit.injEq, Lit.int.injEq, true_and] at hz
      subst hz; rfl
  · rw [List.getElem?_eq_none (by omega), List.getElem?_eq_none (by rw [List.length_map]; omega)]
/-- The variable reads as these numbers. -/
def Reads (W : World) (g : Nat) (l : List Int) : Prop := g < W.heap.size ∧ ∀ (i : Nat) z, l[i]? = some z → W.cell? (at' g i) = some (.int .u64 z)
theorem one_glob {W : World} {name : String} {g : Nat} {l : List Int} {cs : Array Value} {fuel : Nat} {p : List MemPlace} (hg : Tryd.prog.globalNamed name = some g) (hv : W.var? Tryd.prog name = some cs) (hn : l.length = 80)
    (h : DataW.trod (fun _ => ()) Tryd.prog W 0 (fun _ => true) false fuel 86 cs.toList = some (.agg (l.map fun z => .lit (.int .u64 z)), p)) : Reads W g l := by
  have hcs := arr_cells Tryd.underlying86 Tryd.underlying60 cells60 cells86 hn h
  have hcell := World.var?_cell hg hv
  have hcl : ∀ i : Nat, cs[i]? = (l.map fun z => Value.int .u64 z)[i]? := fun i => by rw [← hcs, Array.getElem?_toList]
  refine ⟨?_, fun i z hz => ?_⟩
  · simp only [World.var?, hg, Option.bind_some] at hv
    split at hv
    · rename_i c t f hh
      exact (Array.getElem?_eq_some_iff.1 hh).1
    · cases hv
  · show W.cell? ⟨g, i, none⟩ = _
    rw [hcell i, hcl i, List.getElem?_map, hz]; rfl
abbrev laidR : List (String × DataW Unit) := [("pub-wardkeep/pub/crypto/ripemd160._n", Rows.laid_pub_wardkeep_pub_crypto_ripemd160_n), ("pub-wardkeep/pub/crypto/ripemd160._r", Rows.laid_pub_wardkeep_pub_crypto_ripemd160_r), ("pub-wardkeep/pub/crypto/ripemd160.n_", Rows.laid_pub_wardkeep_pub_crypto_ripemd160_n_), ("pub-wardkeep/pub/crypto/ripemd160.r_", Rows.laid_pub_wardkeep_pub_crypto_ripemd160_r_)]
theorem rip_vars {W : World} {ps : List MemPlace} (h : DataW.LaidVars Tryd.prog W laidR ps) : Reads W 0 numN ∧ Reads W 1 numN2 ∧ Reads W 2 numR ∧ Reads W 3 numR2 := by
  obtain ⟨g0, t0, c0, f0, p0, q0, a0, b0, v0, d0, h, _⟩ := h
  obtain ⟨g2, t2, c2, f2, p2, q2, a2, b2, v2, d2, h, _⟩ := h
  obtain ⟨g1, t1, c1, f1, p1, q1, a1, b1, v1, d1, h, _⟩ := h
  obtain ⟨g3, t3, c3, f3, p3, q3, a3, b3, v3, d3, h, _⟩ := h
  obtain rfl := Option.some.inj (gl0.symm.trans a0)
  obtain rfl := Option.some.inj (gl1.symm.trans a1)
  obtain rfl := Option.some.inj (gl2.symm.trans a2)
  obtain rfl := Option.some.inj (gl3.symm.trans a3)
  obtain rfl := Option.some.inj (ty0.symm.trans b0)
  obtain rfl := Option.some.inj (ty1.symm.trans b1)
  obtain rfl := Option.some.inj (ty2.symm.trans b2)
  obtain rfl := Option.some.inj (ty3.symm.trans b3)
  rw [laidnumN] at d0
  rw [laidnumN2] at d1
  rw [laidnumR] at d2
  rw [laidnumR2] at d3
  exact ⟨one_glob gl0 v0 (by kernel_rfl) d0, one_glob gl1 v1 (by kernel_rfl) d1, one_glob gl2 v2 (by kernel_rfl) d2, one_glob gl3 v3 (by kernel_rfl) d3⟩
theorem reads_key [RowAddr] {W : World} {g : Nat} {l : List Int} (h : Reads W g l) : gIx (2 * g) < W.heap.size ∧ ∀ (i : Nat) x, (l.map fun z => AV.num (.int .u64 (.c z)))[i]? = some x → ∃ v, W.cell? (gAt (2 * g) i) = some v ∧ VRel (fun _ => none) x v := by
  obtain ⟨h1, h2⟩ := h
  refine ⟨by rw [gIx_var]; exact h1, fun i x hx => ?_⟩
  rw [List.getElem?_map, Option.map_eq_some_iff] at hx
  obtain ⟨z, hz, rfl⟩ := hx
  exact ⟨.int .u64 z, by rw [gAt_var]; exact h2 i z hz, .num (.int .u64 (.c z))⟩
theorem glob_reads [RowAddr] {W : World} (h : Reads W 0 numN ∧ Reads W 1 numN2 ∧ Reads W 2 numR ∧ Reads W 3 numR2) : ∀ g l, noGlob g = some l → gIx g < W.heap.size ∧ ∀ (i : Nat) x, l[i]? = some x → ∃ v, W.cell? (gAt g i) = some v ∧ VRel (fun _ => none) x v := by
  obtain ⟨e0, e1, e2, e3⟩ := h
  intro g l hg
  match g, hg with
  | 0, hg => have hg : some tabN = some l := hg; injection hg with hg; subst hg; rw [tabN_eq]; exact reads_key e0
  | 1, hg => cases hg
  | 2, hg => have hg : some tabN2 = some l := hg; injection hg with hg; subst hg; rw [tabN2_eq]; exact reads_key e1
  | 3, hg => cases hg
  | 4, hg => have hg : some tabR = some l := hg; injection hg with hg; subst hg; rw [tabR_eq]; exact reads_key e2
  | 5, hg => cases hg
  | 6, hg => have hg : some tabR2 = some l := hg; injection hg with hg; subst hg; rw [tabR2_eq]; exact reads_key e3
  | g + 7, hg => cases hg
theorem glob_ok [RowAddr] {W : World} (h : laidMet Tryd.prog laidR W) : ∀ g l, noGlob g = some l → gIx g < W.heap.size ∧ ∀ (i : Nat) x, l[i]? = some x → ∃ v, W.cell? (gAt g i) = some v ∧ VRel (fun _ => none) x v := by
  obtain ⟨ps, h, _⟩ := h
  exact glob_reads (rip_vars h)
/-- A world that meets the condition. -/
noncomputable def laidWorld (os : Os) : World :=
  let w0 := World.holding Tryd.prog os ⟨#[], #[], []⟩
  { w0 with heap := ((((w0.heap.modify 0 (fun o => match o with
      | .cells _ t f => .cells (numN.map fun z => Value.int .u64 z).toArray t f
      | o => o)).modify 1 (fun o => match o with
      | .cells _ t f => .cells (numN2.map fun z => Value.int .u64 z).toArray t f
      | o => o)).modify 2 (fun o => match o with
      | .cells _ t f => .cells (numR.map fun z => Value.int .u64 z).toArray t f
      | o => o)).modify 3 (fun o => match o with
      | .cells _ t f => .cells (numR2.map fun z => Value.int .u64 z).toArray t f
      | o => o)) }
set_option maxRecDepth 100000 in
theorem laidWorld_met (os : Os) (args : Array Value) : laidMetH Tryd.prog laidR ((laidWorld os).forCall (fun _ _ => 0) ⟨#[], args, []⟩).memory :=
  laidMetH_of_parts (laidMet_of_run' 8 (by kernel_rfl) (by kernel_rfl)) (by kernel_rfl)
end Go.Proofs.YtaklljigoajpcaaDoor

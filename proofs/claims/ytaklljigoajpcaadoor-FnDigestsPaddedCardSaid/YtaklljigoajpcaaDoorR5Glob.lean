/- The variables of packages md4 and ripemd160 as the statement lays them. -/
import Derived.Test.YtaklljigoajpcaaDoorR5Cfg
import Derived.Test.YtaklljigoajpcaaDoorR3Glob
import Derived.Test.YtaklljigoajpcaaDoorR4Glob
namespace Go.Proofs.YtaklljigoajpcaaDoor.B
open Go.Eng
set_option linter.unusedVariables false
abbrev laidB : List (String × DataW Unit) := [("pub-wardkeep/pub/crypto/md4.shift1", Rows.laid_pub_wardkeep_pub_crypto_md4_shift1), ("pub-wardkeep/pub/crypto/md4.shift2", Rows.laid_pub_wardkeep_pub_crypto_md4_shift2), ("pub-wardkeep/pub/crypto/md4.shift3", Rows.laid_pub_wardkeep_pub_crypto_md4_shift3), ("pub-wardkeep/pub/crypto/md4.xIndex2", Rows.laid_pub_wardkeep_pub_crypto_md4_xIndex2), ("pub-wardkeep/pub/crypto/md4.xIndex3", Rows.laid_pub_wardkeep_pub_crypto_md4_xIndex3), ("pub-wardkeep/pub/crypto/ripemd160._n", Rows.laid_pub_wardkeep_pub_crypto_ripemd160_n), ("pub-wardkeep/pub/crypto/ripemd160._r", Rows.laid_pub_wardkeep_pub_crypto_ripemd160_r), ("pub-wardkeep/pub/crypto/ripemd160.n_", Rows.laid_pub_wardkeep_pub_crypto_ripemd160_n_), ("pub-wardkeep/pub/crypto/ripemd160.r_", Rows.laid_pub_wardkeep_pub_crypto_ripemd160_r_)]
abbrev ripReads (W : World) : Prop := Reads W 0 numN ∧ Reads W 1 numN2 ∧ Reads W 2 numR ∧ Reads W 3 numR2
open M in
theorem rows_of {W : World} (h : laidMet Tryd.prog laidB W) : ∃ r : Nat → Nat × Nat, (LeadsTo W 4 .i64 n_shift1 (r 4) ∧ LeadsTo W 6 .i64 n_shift2 (r 6) ∧ LeadsTo W 8 .i64 n_shift3 (r 8) ∧ LeadsTo W 5 .u64 n_xIndex2 (r 5) ∧ LeadsTo W 7 .u64 n_xIndex3 (r 7)) ∧ ripReads W := by
  obtain ⟨ps, h, _⟩ := h
  have h : DataW.LaidVars Tryd.prog W (M.laidM ++ laidR) ps := h
  obtain ⟨⟨r, hr⟩, ps', h⟩ := M.rows_vars h
  exact ⟨r, hr, rip_vars h⟩
open M in
theorem glob_ok [R : RowAddr] {W : World} (h : (LeadsTo W 4 .i64 n_shift1 (RowAddr.row 4) ∧ LeadsTo W 6 .i64 n_shift2 (RowAddr.row 6) ∧ LeadsTo W 8 .i64 n_shift3 (RowAddr.row 8) ∧ LeadsTo W 5 .u64 n_xIndex2 (RowAddr.row 5) ∧ LeadsTo W 7 .u64 n_xIndex3 (RowAddr.row 7)) ∧ ripReads W) : ∀ g l, noGlob g = some l → gIx g < W.heap.size ∧ ∀ (i : Nat) x, l[i]? = some x → ∃ v, W.cell? (gAt g i) = some v ∧ VRel (fun _ => none) x v := by
  obtain ⟨hm, hr⟩ := h
  intro g l hg
  match g, hg with
  | 0, hg => exact glob_reads hr 0 l hg
  | 1, hg => cases hg
  | 2, hg => exact glob_reads hr 2 l hg
  | 3, hg => cases hg
  | 4, hg => exact glob_reads hr 4 l hg
  | 5, hg => cases hg
  | 6, hg => exact glob_reads hr 6 l hg
  | 7, hg => cases hg
  | 8, hg => exact M.glob_ok hm 8 l hg
  | 9, hg => exact M.glob_ok hm 9 l hg
  | 10, hg => exact M.glob_ok hm 10 l hg
  | 11, hg => exact M.glob_ok hm 11 l hg
  | 12, hg => exact M.glob_ok hm 12 l hg
  | 13, hg => exact M.glob_ok hm 13 l hg
  | 14, hg => exact M.glob_ok hm 14 l hg
  | 15, hg => exact M.glob_ok hm 15 l hg
  | 16, hg => exact M.glob_ok hm 16 l hg
  | 17, hg => exact M.glob_ok hm 17 l hg
  | g + 18, hg => cases hg
/-- A world that meets the condition. -/
noncomputable def laidWorld (os : Os) : World :=
  let w0 := M.laidWorld os
  { w0 with heap := ((((w0.heap.modify 0 (fun o => match o with
      | .cells _ t f => .cells (numN.map fun z => Value.int .u64 z).toArray t f
      | o => o)).modify 1 (fun o => match o with
      | .cells _ t f => .cells (numN2.map fun z => Value.int .u64 z).toArray t f
      | o => o)).modify 2 (fun o => match o with
      | .cells _ t f => .cells (numR.map fun z => Value.int .u64 z).toArray t f
      | o => o)).modify 3 (fun o => match o with
      | .cells _ t f => .cells (numR2.map fun z => Value.int .u64 z).toArray t f
      | o => o)) }
set_option maxRecDepth 100000 in
theorem laidWorld_met (os : Os) (args : Array Value) : laidMetH Tryd.prog laidB ((laidWorld os).forCall (fun _ _ => 0) ⟨#[], args, []⟩).memory :=
  laidMetH_of_parts (laidMet_of_run' 8 (by kernel_rfl) (by kernel_rfl)) (by kernel_rfl)
end Go.Proofs.YtaklljigoajpcaaDoor.B

/- The variables that the statement lays, and a world that has them. -/
import Derived.Test.YtacdmigmccfcfaaDoorB1Kd
import Derived.Test.YtacdmigmccfcfaaDoorRows
import Derived.WalkKit
import Derived.ProofKit
import Derived.OpenShut
import Derived.LaidLaws
import Derived.LaidHandle
import Derived.Stop.LaidTwo
import Derived.Handed
import Derived.KernelRfl
namespace Go.Proofs.YtacdmigmccfcfaaDoor
set_option linter.unusedVariables false
set_option linter.unusedSimpArgs false
set_option linter.unusedSectionVars false
open Go.ChangeShapes Go.WideShapes Go.RowKit
open Go.Eng (Still)
theorem g_range : Tryd.prog.globalNamed "strconv.ErrRange" = some 4 := by kernel_rfl
theorem g_synt : Tryd.prog.globalNamed "strconv.ErrSyntax" = some 3 := by kernel_rfl
theorem g_et : Tryd.prog.globalNamed "errors.errorType" = some 2 := by kernel_rfl
theorem g_mis : Tryd.prog.globalNamed "pub-wardkeep/pub/crypto/bcrypt.ErrMismatchedHashAndPassword" = some 0 := by kernel_rfl
theorem g_short : Tryd.prog.globalNamed "pub-wardkeep/pub/crypto/bcrypt.ErrHashTooShort" = some 1 := by kernel_rfl
theorem t_3 : (Tryd.prog.globals[3]?).map (·.type) = some 32 := by kernel_rfl
theorem t_0 : (Tryd.prog.globals[0]?).map (·.type) = some 32 := by kernel_rfl
theorem t_1 : (Tryd.prog.globals[1]?).map (·.type) = some 32 := by kernel_rfl
theorem c_111 : Tryd.prog.cellsOf 111 = 1 := by kernel_rfl
theorem c_9 : Tryd.prog.cellsOf 9 = 1 := by kernel_rfl
theorem rt : (Tryd.prog.cutTypes.find? (·.1 == "internal/reflectlite.rtype")).map (·.2) = some 70 := by kernel_rfl
theorem oneRow : ((List.range Tryd.prog.types.size).filter fun t => Tryd.prog.rowNamed t [101, 114, 114, 111, 114]) = [32] := by kernel_rfl
theorem th32 : typeHandle Tryd.prog 32 = .pointer (some ⟨8, 32, none⟩) := by kernel_rfl
theorem star : "*" ++ "errors.errorString" = "*errors.errorString" := by decide
theorem row109 (u : TypeId) (h : Tryd.prog.typeName? 3 u = some "*errors.errorString") : u = 109 :=
  typeName_ptr_named (nm := "errors.errorString") (by rw [star]; kernel_rfl) (by kernel_rfl) (by decide) u (by rw [star]; exact h)
def laidR : List (String × DataW Unit) := Rows.fnBcryptCostRow.laid
def tSynt : List UInt8 := [105, 110, 118, 97, 108, 105, 100, 32, 115, 121, 110, 116, 97, 120]
def tMis : List UInt8 := [99, 114, 121, 112, 116, 111, 47, 98, 99, 114, 121, 112, 116, 58, 32, 104, 97, 115, 104, 101, 100, 80, 97, 115, 115, 119, 111, 114, 100, 32, 105, 115, 32, 110, 111, 116, 32, 116, 104, 101, 32, 104, 97, 115, 104, 32, 111, 102, 32, 116, 104, 101, 32, 103, 105, 118, 101, 110, 32, 112, 97, 115, 115, 119, 111, 114, 100]
def tShort : List UInt8 := [99, 114, 121, 112, 116, 111, 47, 98, 99, 114, 121, 112, 116, 58, 32, 104, 97, 115, 104, 101, 100, 83, 101, 99, 114, 101, 116, 32, 116, 111, 111, 32, 115, 104, 111, 114, 116, 32, 116, 111, 32, 98, 101, 32, 97, 32, 98, 99, 114, 121, 112, 116, 101, 100, 32, 112, 97, 115, 115, 119, 111, 114, 100]
theorem laid_tail {P : Program} {x : String × DataW Unit} {r : List (String × DataW Unit)} {W : World} (h : laidMet P (x :: r) W) : laidMet P r W := by
  obtain ⟨n, d⟩ := x
  obtain ⟨ps, ⟨g, t, cs, fuel, p, q, h1, h2, h3, h4, h5, rfl⟩, hnd, hrows⟩ := h
  exact ⟨q, h5, (List.nodup_append.1 hnd).2.1, fun b off hb => hrows b off (List.mem_append_right _ hb)⟩
/-- What the statement's list tells of the walk's variables. -/
theorem glob_ok {W : World} (h : laidMetH Tryd.prog laidR W) : ∃ a0 a1 aS, Gs a0 a1 aS W := by
  have h' : laidMet Tryd.prog [("math/bits.deBruijn32tab", Rows.laid_math_bits_deBruijn32tab), ("math/bits.deBruijn64tab", Rows.laid_math_bits_deBruijn64tab), ("internal/strconv.uint64pow10", Rows.laid_internal_strconv_uint64pow10), ("strconv.ErrRange", Rows.laid_strconv_ErrRange), ("strconv.ErrSyntax", .iface "*errors.errorString" (.ptr (.agg [.lit (.string tSynt)]))), ("pub-wardkeep/pub/crypto/bcrypt.ErrMismatchedHashAndPassword", .iface "*errors.errorString" (.ptr (.agg [.lit (.string tMis)]))), ("pub-wardkeep/pub/crypto/bcrypt.ErrHashTooShort", .iface "*errors.errorString" (.ptr (.agg [.lit (.string tShort)])))] W ∧ handlesMet Tryd.prog [("errors.errorType", Rows.laid_errors_errorType)] W := h
  obtain ⟨hl, hh⟩ := h'
  have hS := laid_tail (laid_tail (laid_tail (laid_tail hl)))
  have hM := laid_tail hS
  obtain ⟨aS, a0, sS, s0, cS, c0, tS, t0, vS, v0, hcS, hsS, -, hc0, hs0, -, nS0, hbS, hb0⟩ := laid_sentinels2 hS g_synt t_3 g_mis t_0 Tryd.underlying32 row109 Tryd.underlying109 Tryd.underlying111 rfl rfl Tryd.underlying9 c_111 c_9
  obtain ⟨a0', a1, s0', s1, c0', c1, t0', t1, v0', v1, hc0', hs0', -, hc1, hs1, -, n01, hb0', hb1⟩ := laid_sentinels2 hM g_mis t_0 g_short t_1 Tryd.underlying32 row109 Tryd.underlying109 Tryd.underlying111 rfl rfl Tryd.underlying9 c_111 c_9
  have ea : a0' = a0 := by
    have := v0'.symm.trans v0
    simpa using this
  subst ea
  obtain ⟨name, u, ty, e1, e2, e3, e4, e5⟩ := hh _ (List.mem_singleton.2 rfl)
  have en : name = [101, 114, 114, 111, 114] := (Option.some.inj e1).symm
  subst en
  obtain rfl := Option.some.inj (rt.symm.trans e2)
  have hm : ty ∈ (List.range Tryd.prog.types.size).filter fun t => Tryd.prog.rowNamed t [101, 114, 114, 111, 114] := List.mem_filter.2 ⟨List.mem_range.2 e3, e4⟩
  rw [oneRow] at hm
  obtain rfl := List.mem_singleton.1 hm
  rw [th32] at e5
  refine ⟨a0', a1, aS, ?_, ?_, ?_, ?_, ⟨_, _, hb0⟩, ⟨_, _, hb1⟩, ⟨_, _, hbS⟩, n01, nS0, ?_⟩
  · simpa using World.var?_cell g_mis v0 0
  · simpa using World.var?_cell g_short v1 0
  · simpa using World.var?_cell g_et e5 0
  · simpa using World.var?_cell g_synt vS 0
  · intro e
    subst e
    have : sS = s1 := by
      have := hcS.symm.trans hc1
      simpa using this
    subst this
    exact absurd (hsS.symm.trans hs1) (by decide)
end Go.Proofs.YtacdmigmccfcfaaDoor

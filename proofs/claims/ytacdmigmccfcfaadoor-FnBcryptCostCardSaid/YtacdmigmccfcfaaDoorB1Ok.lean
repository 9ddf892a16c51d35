/- Each function passes the interpreter's check. -/
import Derived.Test.YtacdmigmccfcfaaDoorB1Cfg
namespace Go.Proofs.YtacdmigmccfcfaaDoor.E
set_option linter.unusedVariables false
set_option linter.unusedSimpArgs false
set_option linter.unusedSectionVars false
open Go.Eng
theorem fine4 : Fine 4 := by unfold Fine; kernel_rfl
theorem fine7 : Fine 7 := by unfold Fine; kernel_rfl
theorem fine8 : Fine 8 := by unfold Fine; kernel_rfl
theorem fine11 : Fine 11 := by unfold Fine; kernel_rfl
theorem fine15 : Fine 15 := by unfold Fine; kernel_rfl
theorem fine24 : Fine 24 := by unfold Fine; kernel_rfl
theorem fine25 : Fine 25 := by unfold Fine; kernel_rfl
theorem fine26 : Fine 26 := by unfold Fine; kernel_rfl
theorem fine31 : Fine 31 := by unfold Fine; kernel_rfl
theorem elemN_cons {f x : Nat} {l : List Nat} (h : elemN f (x :: l) = true) : f = x ∨ elemN f l = true := by
  rw [elemN_iff, List.mem_cons] at h
  rcases h with h | h
  · exact .inl h
  · exact .inr ((elemN_iff f l).2 h)
theorem fine_all (f : FuncId) (h : scope f = true) : Fine f := by
  unfold scope at h
  rcases elemN_cons h with rfl | h
  · exact fine4
  rcases elemN_cons h with rfl | h
  · exact fine7
  rcases elemN_cons h with rfl | h
  · exact fine8
  rcases elemN_cons h with rfl | h
  · exact fine11
  rcases elemN_cons h with rfl | h
  · exact fine15
  rcases elemN_cons h with rfl | h
  · exact fine24
  rcases elemN_cons h with rfl | h
  · exact fine25
  rcases elemN_cons h with rfl | h
  · exact fine26
  rcases elemN_cons h with rfl | h
  · exact fine31
  cases h
theorem fine_cfg (spec : FuncId → Option Eng.Spec) (loop : FuncId → Nat → Option LSpec) (f : FuncId) (h : scope f = true) : fnOk (cfg spec loop) f = true := (fnOk_any spec loop f).trans (fine_all f h)
/-- Calls by a function's own body, over contracts and loops that are told well. -/
theorem body_ok {spec : FuncId → Option Eng.Spec} {loop : FuncId → Nat → Option LSpec} (hs : ∀ f sp, spec f = some sp → SpecOk Tryd.prog noGlob f sp) (hl : LoopsOk (cfg spec loop) noGlob) (fuel d : Nat) :
    CallOk Tryd.prog noGlob (callBody (cfg spec loop) fuel (acall (cfg spec loop) d fuel)) :=
  callBody_ok (C := cfg spec loop) rfl (acall_ok (C := cfg spec loop) rfl methOk mixed (fine_cfg spec loop) hl (fun f sp h args S v S' hc => callSpec_ok (hs f sp h) args S v S' hc) fuel d) methOk mixed (fine_cfg spec loop) hl fuel
/-- A function's own body, over contracts and loops. -/
noncomputable def goB (spec : FuncId → Option Eng.Spec) (loop : FuncId → Nat → Option LSpec) (f : FuncId) (args : List AV) (S : St) : Option (AV × St) := callBody (cfg spec loop) 100000 (acall (cfg spec loop) 20 100000) f args S
theorem goB_ok {spec : FuncId → Option Eng.Spec} {loop : FuncId → Nat → Option LSpec} (hs : ∀ f sp, spec f = some sp → SpecOk Tryd.prog noGlob f sp) (hl : LoopsOk (cfg spec loop) noGlob) : CallOk Tryd.prog noGlob (goB spec loop) := body_ok hs hl 100000 20
theorem no_specs : ∀ f sp, noSpec f = some sp → SpecOk Tryd.prog noGlob f sp := fun _ _ h => by cases h
theorem no_loops (spec : FuncId → Option Eng.Spec) : LoopsOk (cfg spec noLoop) noGlob := LoopsOk.none (fun _ _ => rfl)
/-- A loop's body, run once. -/
noncomputable def goL (spec : FuncId → Option Eng.Spec) (loop : FuncId → Nat → Option LSpec) (f i : Nat) (F : Fr) (S : St) : Option (Out × Fr × St) := exec (cfg spec loop) 100000 (loopIn Tryd.prog f i) ⟨acall (cfg spec loop) 20 100000, nv f, keep f, dyn f, loop f⟩ F S
theorem goL_ok {spec : FuncId → Option Eng.Spec} {loop : FuncId → Nat → Option LSpec} (hs : ∀ f sp, spec f = some sp → SpecOk Tryd.prog noGlob f sp) (hl : LoopsOk (cfg spec loop) noGlob) (f i : Nat) (hf : Fine f) (hi : i < (loopsIn Tryd.prog f).length) :
    RunOk Tryd.prog noGlob (nv f) (ntmpsIn Tryd.prog f) (loopIn Tryd.prog f i) (goL spec loop f i) :=
  exec_loop (C := cfg spec loop) rfl (acall_ok (C := cfg spec loop) rfl methOk mixed (fine_cfg spec loop) hl (fun f sp h args S v S' hc => callSpec_ok (hs f sp h) args S v S' hc) 100000 20) methOk mixed hl ((fnOk_any spec loop f).trans hf) 100000 i hi
/-- A whole loop, run to its end. -/
noncomputable def goW (spec : FuncId → Option Eng.Spec) (loop : FuncId → Nat → Option LSpec) (f i : Nat) : Fr → St → Option (Out × Fr × St) := exec (cfg spec loop) 100000 (.loop (loopIn Tryd.prog f i)) ⟨acall (cfg spec loop) 20 100000, nv f, keep f, dyn f, loop f⟩
theorem goW_ok {spec : FuncId → Option Eng.Spec} {loop : FuncId → Nat → Option LSpec} (hs : ∀ f sp, spec f = some sp → SpecOk Tryd.prog noGlob f sp) (hl : LoopsOk (cfg spec loop) noGlob) (f i : Nat) (hf : Fine f) (hi : i < (loopsIn Tryd.prog f).length) :
    RunOk Tryd.prog noGlob (nv f) (ntmpsIn Tryd.prog f) (.loop (loopIn Tryd.prog f i)) (goW spec loop f i) :=
  exec_whole (C := cfg spec loop) rfl (acall_ok (C := cfg spec loop) rfl methOk mixed (fine_cfg spec loop) hl (fun f sp h args S v S' hc => callSpec_ok (hs f sp h) args S v S' hc) 100000 20) methOk mixed hl ((fnOk_any spec loop f).trans hf) 100000 i hi
/-- A loop that is told well. -/
def Told (f i : Nat) (sp : LSpec) : Prop := RunOk Tryd.prog noGlob (nv f) (ntmpsIn Tryd.prog f) (.loop (loopIn Tryd.prog f i)) sp
theorem all_true_cons {b : Bool} {l : List Bool} (h : b = true) (k : ∀ x ∈ l, x = true) : ∀ x ∈ b :: l, x = true := by
  intro x hx
  rcases List.mem_cons.1 hx with rfl | hx
  · exact h
  · exact k x hx
theorem all_true_nil : ∀ x ∈ ([] : List Bool), x = true := fun x hx => by cases hx
end Go.Proofs.YtacdmigmccfcfaaDoor.E

/- Each function passes the interpreter's check. -/
import Derived.Test.YtnonaagcnenbdaaR1Cfg
namespace Go.Proofs.Ytnonaagcnenbdaa
open Go.Eng
set_option linter.unusedSectionVars false
variable [RowAddr]
theorem fine3 : Fine 3 := by unfold Fine; kernel_rfl
theorem fine4 : Fine 4 := by unfold Fine; kernel_rfl
theorem fine5 : Fine 5 := by unfold Fine; kernel_rfl
theorem fine6 : Fine 6 := by unfold Fine; kernel_rfl
theorem fine7 : Fine 7 := by unfold Fine; kernel_rfl
theorem fine8 : Fine 8 := by unfold Fine; kernel_rfl
theorem fine9 : Fine 9 := by unfold Fine; kernel_rfl
theorem fine10 : Fine 10 := by unfold Fine; kernel_rfl
theorem fine11 : Fine 11 := by unfold Fine; kernel_rfl
theorem fine12 : Fine 12 := by unfold Fine; kernel_rfl
theorem fine13 : Fine 13 := by unfold Fine; kernel_rfl
theorem fine14 : Fine 14 := by unfold Fine; kernel_rfl
theorem fine15 : Fine 15 := by unfold Fine; kernel_rfl
theorem fine16 : Fine 16 := by unfold Fine; kernel_rfl
theorem fine17 : Fine 17 := by unfold Fine; kernel_rfl
theorem fine18 : Fine 18 := by unfold Fine; kernel_rfl
theorem fine19 : Fine 19 := by unfold Fine; kernel_rfl
theorem fine20 : Fine 20 := by unfold Fine; kernel_rfl
theorem fine21 : Fine 21 := by unfold Fine; kernel_rfl
theorem fine22 : Fine 22 := by unfold Fine; kernel_rfl
theorem fine23 : Fine 23 := by unfold Fine; kernel_rfl
theorem fine24 : Fine 24 := by unfold Fine; kernel_rfl
theorem fine25 : Fine 25 := by unfold Fine; kernel_rfl
theorem fine26 : Fine 26 := by unfold Fine; kernel_rfl
theorem fine27 : Fine 27 := by unfold Fine; kernel_rfl
theorem fine28 : Fine 28 := by unfold Fine; kernel_rfl
theorem fine29 : Fine 29 := by unfold Fine; kernel_rfl
theorem fine30 : Fine 30 := by unfold Fine; kernel_rfl
theorem fine31 : Fine 31 := by unfold Fine; kernel_rfl
theorem fine32 : Fine 32 := by unfold Fine; kernel_rfl
theorem fine33 : Fine 33 := by unfold Fine; kernel_rfl
theorem fine34 : Fine 34 := by unfold Fine; kernel_rfl
theorem fine35 : Fine 35 := by unfold Fine; kernel_rfl
theorem fine36 : Fine 36 := by unfold Fine; kernel_rfl
theorem fine37 : Fine 37 := by unfold Fine; kernel_rfl
theorem fine38 : Fine 38 := by unfold Fine; kernel_rfl
theorem fine39 : Fine 39 := by unfold Fine; kernel_rfl
theorem fine40 : Fine 40 := by unfold Fine; kernel_rfl
theorem fine41 : Fine 41 := by unfold Fine; kernel_rfl
theorem fine42 : Fine 42 := by unfold Fine; kernel_rfl
theorem elemN_cons {f x : Nat} {l : List Nat} (h : elemN f (x :: l) = true) : f = x ∨ elemN f l = true := by
  rw [elemN_iff, List.mem_cons] at h
  rcases h with h | h
  · exact .inl h
  · exact .inr ((elemN_iff f l).2 h)
theorem fine_all (f : FuncId) (h : scope f = true) : Fine f := by
  unfold scope at h
  rcases elemN_cons h with rfl | h
  · exact fine3
  rcases elemN_cons h with rfl | h
  · exact fine4
  rcases elemN_cons h with rfl | h
  · exact fine5
  rcases elemN_cons h with rfl | h
  · exact fine6
  rcases elemN_cons h with rfl | h
  · exact fine7
  rcases elemN_cons h with rfl | h
  · exact fine8
  rcases elemN_cons h with rfl | h
  · exact fine9
  rcases elemN_cons h with rfl | h
  · exact fine10
  rcases elemN_cons h with rfl | h
  · exact fine11
  rcases elemN_cons h with rfl | h
  · exact fine12
  rcases elemN_cons h with rfl | h
  · exact fine13
  rcases elemN_cons h with rfl | h
  · exact fine14
  rcases elemN_cons h with rfl | h
  · exact fine15
  rcases elemN_cons h with rfl | h
  · exact fine16
  rcases elemN_cons h with rfl | h
  · exact fine17
  rcases elemN_cons h with rfl | h
  · exact fine18
  rcases elemN_cons h with rfl | h
  · exact fine19
  rcases elemN_cons h with rfl | h
  · exact fine20
  rcases elemN_cons h with rfl | h
  · exact fine21
  rcases elemN_cons h with rfl | h
  · exact fine22
  rcases elemN_cons h with rfl | h
  · exact fine23
  rcases elemN_cons h with rfl | h
  · exact fine24
  rcases elemN_cons h with rfl | h
  · exact fine25
  rcases elemN_cons h with rfl | h
  · exact fine26
  rcases elemN_cons h with rfl | h
  · exact fine27
  rcases elemN_cons h with rfl | h
  · exact fine28
  rcases elemN_cons h with rfl | h
  · exact fine29
  rcases elemN_cons h with rfl | h
  · exact fine30
  rcases elemN_cons h with rfl | h
  · exact fine31
  rcases elemN_cons h with rfl | h
  · exact fine32
  rcases elemN_cons h with rfl | h
  · exact fine33
  rcases elemN_cons h with rfl | h
  · exact fine34
  rcases elemN_cons h with rfl | h
  · exact fine35
  rcases elemN_cons h with rfl | h
  · exact fine36
  rcases elemN_cons h with rfl | h
  · exact fine37
  rcases elemN_cons h with rfl | h
  · exact fine38
  rcases elemN_cons h with rfl | h
  · exact fine39
  rcases elemN_cons h with rfl | h
  · exact fine40
  rcases elemN_cons h with rfl | h
  · exact fine41
  rcases elemN_cons h with rfl | h
  · exact fine42
  cases h
theorem fine_cfg (spec : FuncId → Option Eng.Spec) (loop : FuncId → Nat → Option LSpec) (f : FuncId) (h : scope f = true) : fnOk (cfg spec loop) f = true := (fnOk_any spec loop f).trans (fine_all f h)
/-- Calls by a function's own body, over contracts and loops that are told well. -/
theorem body_ok {spec : FuncId → Option Eng.Spec} {loop : FuncId → Nat → Option LSpec} (hs : ∀ f sp, spec f = some sp → SpecOk Try.prog noGlob f sp) (hl : LoopsOk (cfg spec loop) noGlob) (fuel d : Nat) :
    CallOk Try.prog noGlob (callBody (cfg spec loop) fuel (acall (cfg spec loop) d fuel)) :=
  callBody_ok (C := cfg spec loop) rfl (acall_ok (C := cfg spec loop) rfl methOk mixed (fine_cfg spec loop) hl (fun f sp h args S v S' hc => callSpec_ok (hs f sp h) args S v S' hc) fuel d) methOk mixed (fine_cfg spec loop) hl fuel
/-- A function's own body, over contracts and loops. -/
noncomputable def goB (spec : FuncId → Option Eng.Spec) (loop : FuncId → Nat → Option LSpec) (f : FuncId) (args : List AV) (S : St) : Option (AV × St) := callBody (cfg spec loop) 100000 (acall (cfg spec loop) 20 100000) f args S
theorem goB_ok {spec : FuncId → Option Eng.Spec} {loop : FuncId → Nat → Option LSpec} (hs : ∀ f sp, spec f = some sp → SpecOk Try.prog noGlob f sp) (hl : LoopsOk (cfg spec loop) noGlob) : CallOk Try.prog noGlob (goB spec loop) := body_ok hs hl 100000 20
theorem no_specs : ∀ f sp, noSpec f = some sp → SpecOk Try.prog noGlob f sp := fun _ _ h => by cases h
theorem no_loops (spec : FuncId → Option Eng.Spec) : LoopsOk (cfg spec noLoop) noGlob := LoopsOk.none (fun _ _ => rfl)
/-- A loop's body, run once. -/
noncomputable def goL (spec : FuncId → Option Eng.Spec) (loop : FuncId → Nat → Option LSpec) (f i : Nat) (F : Fr) (S : St) : Option (Out × Fr × St) := exec (cfg spec loop) 100000 (loopIn Try.prog f i) ⟨acall (cfg spec loop) 20 100000, nv f, keep f, dyn f, loop f⟩ F S
theorem goL_ok {spec : FuncId → Option Eng.Spec} {loop : FuncId → Nat → Option LSpec} (hs : ∀ f sp, spec f = some sp → SpecOk Try.prog noGlob f sp) (hl : LoopsOk (cfg spec loop) noGlob) (f i : Nat) (hf : Fine f) (hi : i < (loopsIn Try.prog f).length) :
    RunOk Try.prog noGlob (nv f) (ntmpsIn Try.prog f) (loopIn Try.prog f i) (goL spec loop f i) :=
  exec_loop (C := cfg spec loop) rfl (acall_ok (C := cfg spec loop) rfl methOk mixed (fine_cfg spec loop) hl (fun f sp h args S v S' hc => callSpec_ok (hs f sp h) args S v S' hc) 100000 20) methOk mixed hl ((fnOk_any spec loop f).trans hf) 100000 i hi
/-- A loop that is told well. -/
def Told (f i : Nat) (sp : LSpec) : Prop := RunOk Try.prog noGlob (nv f) (ntmpsIn Try.prog f) (.loop (loopIn Try.prog f i)) sp
theorem all_true_cons {b : Bool} {l : List Bool} (h : b = true) (k : ∀ x ∈ l, x = true) : ∀ x ∈ b :: l, x = true := by
  intro x hx
  rcases List.mem_cons.1 hx with rfl | hx
  · exact h
  · exact k x hx
theorem all_true_nil : ∀ x ∈ ([] : List Bool), x = true := fun x hx => by cases hx
end Go.Proofs.Ytnonaagcnenbdaa

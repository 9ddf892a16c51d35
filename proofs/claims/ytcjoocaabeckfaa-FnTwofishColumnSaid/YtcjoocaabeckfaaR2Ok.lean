/- Each function passes the interpreter's check. -/
import Derived.Test.YtcjoocaabeckfaaR2Cfg
namespace Go.Proofs.Ytcjoocaabeckfaa
open Go.Eng
theorem fine4 : Fine 4 := by unfold Fine; kernel_rfl
theorem fine5 : Fine 5 := by unfold Fine; kernel_rfl
theorem fine6 : Fine 6 := by unfold Fine; kernel_rfl
theorem fine7 : Fine 7 := by unfold Fine; kernel_rfl
theorem fine8 : Fine 8 := by unfold Fine; kernel_rfl
theorem fine9 : Fine 9 := by unfold Fine; kernel_rfl
theorem fine10 : Fine 10 := by unfold Fine; kernel_rfl
theorem fine11 : Fine 11 := by unfold Fine; kernel_rfl
theorem fine12 : Fine 12 := by unfold Fine; kernel_rfl
theorem fine15 : Fine 15 := by unfold Fine; kernel_rfl
theorem fine18 : Fine 18 := by unfold Fine; kernel_rfl
theorem fine19 : Fine 19 := by unfold Fine; kernel_rfl
theorem fine20 : Fine 20 := by unfold Fine; kernel_rfl
theorem fine21 : Fine 21 := by unfold Fine; kernel_rfl
theorem fine22 : Fine 22 := by unfold Fine; kernel_rfl
theorem fine23 : Fine 23 := by unfold Fine; kernel_rfl
theorem fine24 : Fine 24 := by unfold Fine; kernel_rfl
theorem fine25 : Fine 25 := by unfold Fine; kernel_rfl
theorem fine26 : Fine 26 := by unfold Fine; kernel_rfl
theorem fine27 : Fine 27 := by unfold Fine; kernel_rfl
theorem fine28 : Fine 28 := by unfold Fine; kernel_rfl
theorem fine29 : Fine 29 := by unfold Fine; kernel_rfl
theorem fine30 : Fine 30 := by unfold Fine; kernel_rfl
theorem fine31 : Fine 31 := by unfold Fine; kernel_rfl
theorem fine32 : Fine 32 := by unfold Fine; kernel_rfl
theorem fine35 : Fine 35 := by unfold Fine; kernel_rfl
theorem fine36 : Fine 36 := by unfold Fine; kernel_rfl
theorem fine37 : Fine 37 := by unfold Fine; kernel_rfl
theorem fine38 : Fine 38 := by unfold Fine; kernel_rfl
theorem fine39 : Fine 39 := by unfold Fine; kernel_rfl
theorem fine40 : Fine 40 := by unfold Fine; kernel_rfl
theorem fine41 : Fine 41 := by unfold Fine; kernel_rfl
theorem fine42 : Fine 42 := by unfold Fine; kernel_rfl
theorem fine43 : Fine 43 := by unfold Fine; kernel_rfl
theorem fine44 : Fine 44 := by unfold Fine; kernel_rfl
theorem fine45 : Fine 45 := by unfold Fine; kernel_rfl
theorem fine46 : Fine 46 := by unfold Fine; kernel_rfl
theorem fine47 : Fine 47 := by unfold Fine; kernel_rfl
theorem fine48 : Fine 48 := by unfold Fine; kernel_rfl
theorem fine49 : Fine 49 := by unfold Fine; kernel_rfl
theorem fine52 : Fine 52 := by unfold Fine; kernel_rfl
theorem fine53 : Fine 53 := by unfold Fine; kernel_rfl
theorem fine54 : Fine 54 := by unfold Fine; kernel_rfl
theorem fine55 : Fine 55 := by unfold Fine; kernel_rfl
theorem fine56 : Fine 56 := by unfold Fine; kernel_rfl
theorem fine57 : Fine 57 := by unfold Fine; kernel_rfl
theorem fine58 : Fine 58 := by unfold Fine; kernel_rfl
theorem fine59 : Fine 59 := by unfold Fine; kernel_rfl
theorem fine60 : Fine 60 := by unfold Fine; kernel_rfl
theorem fine61 : Fine 61 := by unfold Fine; kernel_rfl
theorem fine67 : Fine 67 := by unfold Fine; kernel_rfl
theorem fine68 : Fine 68 := by unfold Fine; kernel_rfl
theorem fine92 : Fine 92 := by unfold Fine; kernel_rfl
theorem fine93 : Fine 93 := by unfold Fine; kernel_rfl
theorem fine94 : Fine 94 := by unfold Fine; kernel_rfl
theorem fine95 : Fine 95 := by unfold Fine; kernel_rfl
theorem fine96 : Fine 96 := by unfold Fine; kernel_rfl
theorem fine97 : Fine 97 := by unfold Fine; kernel_rfl
theorem fine100 : Fine 100 := by unfold Fine; kernel_rfl
theorem fine101 : Fine 101 := by unfold Fine; kernel_rfl
theorem fine102 : Fine 102 := by unfold Fine; kernel_rfl
theorem fine103 : Fine 103 := by unfold Fine; kernel_rfl
theorem elemN_cons {f x : Nat} {l : List Nat} (h : elemN f (x :: l) = true) : f = x ∨ elemN f l = true := by
  rw [elemN_iff, List.mem_cons] at h
  rcases h with h | h
  · exact .inl h
  · exact .inr ((elemN_iff f l).2 h)
theorem fine_all (f : FuncId) (h : scope f = true) : Fine f := by
  unfold scope at h
  rcases elemN_cons h with rfl | h
  · exact fine4
  rcases elemN_cons h with rfl | h
  · exact fine5
  rcases elemN_cons h with rfl | h
  · exact fine6
  rcases elemN_cons h with rfl | h
  · exact fine7
  rcases elemN_cons h with rfl | h
  · exact fine8
  rcases elemN_cons h with rfl | h
  · exact fine9
  rcases elemN_cons h with rfl | h
  · exact fine10
  rcases elemN_cons h with rfl | h
  · exact fine11
  rcases elemN_cons h with rfl | h
  · exact fine12
  rcases elemN_cons h with rfl | h
  · exact fine15
  rcases elemN_cons h with rfl | h
  · exact fine18
  rcases elemN_cons h with rfl | h
  · exact fine19
  rcases elemN_cons h with rfl | h
  · exact fine20
  rcases elemN_cons h with rfl | h
  · exact fine21
  rcases elemN_cons h with rfl | h
  · exact fine22
  rcases elemN_cons h with rfl | h
  · exact fine23
  rcases elemN_cons h with rfl | h
  · exact fine24
  rcases elemN_cons h with rfl | h
  · exact fine25
  rcases elemN_cons h with rfl | h
  · exact fine26
  rcases elemN_cons h with rfl | h
  · exact fine27
  rcases elemN_cons h with rfl | h
  · exact fine28
  rcases elemN_cons h with rfl | h
  · exact fine29
  rcases elemN_cons h with rfl | h
  · exact fine30
  rcases elemN_cons h with rfl | h
  · exact fine31
  rcases elemN_cons h with rfl | h
  · exact fine32
  rcases elemN_cons h with rfl | h
  · exact fine35
  rcases elemN_cons h with rfl | h
  · exact fine36
  rcases elemN_cons h with rfl | h
  · exact fine37
  rcases elemN_cons h with rfl | h
  · exact fine38
  rcases elemN_cons h with rfl | h
  · exact fine39
  rcases elemN_cons h with rfl | h
  · exact fine40
  rcases elemN_cons h with rfl | h
  · exact fine41
  rcases elemN_cons h with rfl | h
  · exact fine42
  rcases elemN_cons h with rfl | h
  · exact fine43
  rcases elemN_cons h with rfl | h
  · exact fine44
  rcases elemN_cons h with rfl | h
  · exact fine45
  rcases elemN_cons h with rfl | h
  · exact fine46
  rcases elemN_cons h with rfl | h
  · exact fine47
  rcases elemN_cons h with rfl | h
  · exact fine48
  rcases elemN_cons h with rfl | h
  · exact fine49
  rcases elemN_cons h with rfl | h
  · exact fine52
  rcases elemN_cons h with rfl | h
  · exact fine53
  rcases elemN_cons h with rfl | h
  · exact fine54
  rcases elemN_cons h with rfl | h
  · exact fine55
  rcases elemN_cons h with rfl | h
  · exact fine56
  rcases elemN_cons h with rfl | h
  · exact fine57
  rcases elemN_cons h with rfl | h
  · exact fine58
  rcases elemN_cons h with rfl | h
  · exact fine59
  rcases elemN_cons h with rfl | h
  · exact fine60
  rcases elemN_cons h with rfl | h
  · exact fine61
  rcases elemN_cons h with rfl | h
  · exact fine67
  rcases elemN_cons h with rfl | h
  · exact fine68
  rcases elemN_cons h with rfl | h
  · exact fine92
  rcases elemN_cons h with rfl | h
  · exact fine93
  rcases elemN_cons h with rfl | h
  · exact fine94
  rcases elemN_cons h with rfl | h
  · exact fine95
  rcases elemN_cons h with rfl | h
  · exact fine96
  rcases elemN_cons h with rfl | h
  · exact fine97
  rcases elemN_cons h with rfl | h
  · exact fine100
  rcases elemN_cons h with rfl | h
  · exact fine101
  rcases elemN_cons h with rfl | h
  · exact fine102
  rcases elemN_cons h with rfl | h
  · exact fine103
  cases h
theorem fine_cfg (spec : FuncId → Option Eng.Spec) (loop : FuncId → Nat → Option LSpec) (f : FuncId) (h : scope f = true) : fnOk (cfg spec loop) f = true := (fnOk_any spec loop f).trans (fine_all f h)
/-- Calls by a function's own body, over contracts and loops that are told well. -/
theorem body_ok {spec : FuncId → Option Eng.Spec} {loop : FuncId → Nat → Option LSpec} (hs : ∀ f sp, spec f = some sp → SpecOk Try.prog noGlob f sp) (hl : LoopsOk (cfg spec loop) noGlob) (fuel d : Nat) :
    CallOk Try.prog noGlob (callBody (cfg spec loop) fuel (acall (cfg spec loop) d fuel)) :=
  callBody_ok (C := cfg spec loop) rfl (acall_ok (C := cfg spec loop) rfl methOk mixed (fine_cfg spec loop) hl (fun f sp h args S v S' hc => callSpec_ok (hs f sp h) args S v S' hc) fuel d) methOk mixed (fine_cfg spec loop) hl fuel
/-- A function's own body, over contracts and loops. -/
noncomputable def goB (spec : FuncId → Option Eng.Spec) (loop : FuncId → Nat → Option LSpec) (f : FuncId) (args : List AV) (S : St) : Option (AV × St) := callBody (cfg spec loop) 100000 (acall (cfg spec loop) 20 100000) f args S
theorem goB_ok {spec : FuncId → Option Eng.Spec} {loop : FuncId → Nat → Option LSpec} (hs : ∀ f sp, spec f = some sp → SpecOk Try.prog noGlob f sp) (hl : LoopsOk (cfg spec loop) noGlob) : CallOk Try.prog noGlob (goB spec loop) := body_ok hs hl 100000 20
theorem no_specs : ∀ f sp, noSpec f = some sp → SpecOk Try.prog noGlob f sp := fun _ _ h => by cases h
theorem no_loops (spec : FuncId → Option Eng.Spec) : LoopsOk (cfg spec noLoop) noGlob := LoopsOk.none (fun _ _ => rfl)
/-- A loop's body, run once. -/
noncomputable def goL (spec : FuncId → Option Eng.Spec) (loop : FuncId → Nat → Option LSpec) (f i : Nat) (F : Fr) (S : St) : Option (Out × Fr × St) := exec (cfg spec loop) 100000 (loopIn Try.prog f i) ⟨acall (cfg spec loop) 20 100000, nv f, keep f, dyn f, loop f⟩ F S
theorem goL_ok {spec : FuncId → Option Eng.Spec} {loop : FuncId → Nat → Option LSpec} (hs : ∀ f sp, spec f = some sp → SpecOk Try.prog noGlob f sp) (hl : LoopsOk (cfg spec loop) noGlob) (f i : Nat) (hf : Fine f) (hi : i < (loopsIn Try.prog f).length) :
    RunOk Try.prog noGlob (nv f) (ntmpsIn Try.prog f) (loopIn Try.prog f i) (goL spec loop f i) :=
  exec_loop (C := cfg spec loop) rfl (acall_ok (C := cfg spec loop) rfl methOk mixed (fine_cfg spec loop) hl (fun f sp h args S v S' hc => callSpec_ok (hs f sp h) args S v S' hc) 100000 20) methOk mixed hl ((fnOk_any spec loop f).trans hf) 100000 i hi
/-- A loop that is told well. -/
def Told (f i : Nat) (sp : LSpec) : Prop := RunOk Try.prog noGlob (nv f) (ntmpsIn Try.prog f) (.loop (loopIn Try.prog f i)) sp
theorem all_true_cons {b : Bool} {l : List Bool} (h : b = true) (k : ∀ x ∈ l, x = true) : ∀ x ∈ b :: l, x = true := by
  intro x hx
  rcases List.mem_cons.1 hx with rfl | hx
  · exact h
  · exact k x hx
theorem all_true_nil : ∀ x ∈ ([] : List Bool), x = true := fun x hx => by cases hx
end Go.Proofs.Ytcjoocaabeckfaa

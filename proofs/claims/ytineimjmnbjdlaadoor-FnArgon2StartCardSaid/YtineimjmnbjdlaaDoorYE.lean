/- An interpreter of the model's code over abstract values, proved sound, and a walk in company by it: part of the proof of FnArgon2Start. No condition. -/
import Derived.Test.YtineimjmnbjdlaaDoorYD
import Derived.Laws.Externs
set_option linter.unusedVariables false
set_option linter.unusedSectionVars false
set_option linter.unusedSimpArgs false
namespace Go.Proofs.YtineimjmnbjdlaaDoor
section
open Go Go.Eng
variable [RowAddr] [Co]
theorem x87a:Extern.findNext Tryd.f87 = none:=by kernel_rfl
theorem x87b:Tryd.f87.body.isNone = true:=by kernel_rfl
theorem x87c:(Tryd.f87.name == "runtime.NumGoroutine") = false:=by kernel_rfl
theorem x87d:Extern.find Tryd.f87 = some add64Entry:=by kernel_rfl
theorem runQ_add64 {P:Program} (x y k:Nat) (hk:k ≤ 1) (w:World) :
 (add64Entry #[.int .u64 (x:Int),.int .u64 (y:Int),.int .u64 (k:Int)]).runQ P w = .ok (Extern.MathBitsCarry.pair ((x + y + k) % Extern.MathBitsCarry.m64) ((x + y + k) / Extern.MathBitsCarry.m64)) w:=by
 have:k = 0 ∨ k = 1:=by omega
 rcases this with rfl | rfl <;> rfl
theorem nila0 (p:Addr) (w:World):(nilAhead (Tryd.prog.types.size + Made.depth) 86 (.pointer (some p)) "Write").runQ Tryd.prog w = .ok (some false) w:=by kernel_rfl
theorem nila1 (p:Addr) (w:World):(nilAhead (Tryd.prog.types.size + Made.depth) 86 (.pointer (some p)) "Sum").runQ Tryd.prog w = .ok (some false) w:=by kernel_rfl
theorem nila2 (p:Addr) (w:World):(nilAhead (Tryd.prog.types.size + Made.depth) 86 (.pointer (some p)) "Reset").runQ Tryd.prog w = .ok (some false) w:=by kernel_rfl
instance extOk (spec:FuncId → Option Eng.Spec) (loop:FuncId → Nat → Option LSpec):ExtOk (cfg spec loop) where
 nila:=by
  intro t m f h p w
  change meth t m = some f at h
  unfold meth at h
  split at h
  ·rename_i e;obtain ⟨rfl,rfl⟩:=e;exact nila0 p w
  split at h
  ·rename_i e;obtain ⟨rfl,rfl⟩:=e;exact nila1 p w
  split at h
  ·rename_i e;obtain ⟨rfl,rfl⟩:=e;exact nila2 p w
  cases h
 ok:=by
  intro f args v h β vs w hl
  change extA f args = some v at h
  unfold extA at h
  split at h
  case h_2=>cases h
  rename_i a b c hf
  split at h
  case h_2=>cases h
  rename_i x y z hx hy hz
  split at h
  case h_2=>cases h
  rename_i hk
  have hk:z.toNat ≤ 1:=Nat.le_of_ble_eq_true hk
  obtain rfl:f = 87:=Nat.eq_of_beq_eq_true hf
  obtain ⟨hlen,hrel⟩:=hl
  match vs,hlen with
  | [u1,u2,u3],_=>
   obtain rfl:=(hrel 0 _ _ rfl rfl).num_inv
   obtain rfl:=(hrel 1 _ _ rfl rfl).num_inv
   obtain rfl:=(hrel 2 _ _ rfl rfl).num_inv
   rw [Num.bv64_spec hx,Num.bv64_spec hy,Num.bv64_spec hz]
   simp only [Option.some.injEq] at h
   subst h
   refine ⟨.tuple #[.int .u64 (((x.toNat + y.toNat + z.toNat) % 18446744073709551616:Nat):Int),.int .u64 (((x.toNat + y.toNat + z.toNat) / 18446744073709551616:Nat):Int)],?_,?_⟩
   ·exact .tup _ _ rfl (fun i x v h1 h2=>by
     match i,h1,h2 with
     | 0,h1,h2=>cases h1;cases h2;exact .num _
     | 1,h1,h2=>cases h1;cases h2;exact .num _
     | n + 2,h1,_=>simp at h1)
   ·have hb1:Tryd.f87.body = none:=by simpa using x87b
    have hc1:¬ Tryd.f87.name = "runtime.NumGoroutine":=by simpa using x87c
    have hsoft:Soft (.extern 87):=.inr ⟨87,rfl⟩
    have h0:=runQ_add64 (P:=Tryd.prog) x.toNat y.toNat z.toNat hk w
    simp only [callFunc,cfg,Sem.runQ_bind,runQ_program,Result.andThen,Tryd.func87,x87c,hb1,Option.isNone_none,if_true,if_false,Bool.false_eq_true,x87a,x87d,mark,Sem.runQ,hsoft,Sem.runQ_pure]
    rw [h0]
    rfl
end
section
open Go.Eng
variable [RowAddr] [Co]
theorem fine3:Fine 3:=by unfold Fine;kernel_rfl
theorem fine4:Fine 4:=by unfold Fine;kernel_rfl
theorem fine5:Fine 5:=by unfold Fine;kernel_rfl
theorem fine6:Fine 6:=by unfold Fine;kernel_rfl
theorem fine7:Fine 7:=by unfold Fine;kernel_rfl
theorem fine8:Fine 8:=by unfold Fine;kernel_rfl
theorem fine9:Fine 9:=by unfold Fine;kernel_rfl
theorem fine10:Fine 10:=by unfold Fine;kernel_rfl
theorem fine11:Fine 11:=by unfold Fine;kernel_rfl
theorem fine12:Fine 12:=by unfold Fine;kernel_rfl
theorem fine13:Fine 13:=by unfold Fine;kernel_rfl
theorem fine14:Fine 14:=by unfold Fine;kernel_rfl
theorem fine16:Fine 16:=by unfold Fine;kernel_rfl
theorem fine17:Fine 17:=by unfold Fine;kernel_rfl
theorem fine18:Fine 18:=by unfold Fine;kernel_rfl
theorem fine19:Fine 19:=by unfold Fine;kernel_rfl
theorem fine20:Fine 20:=by unfold Fine;kernel_rfl
theorem fine21:Fine 21:=by unfold Fine;kernel_rfl
theorem fine22:Fine 22:=by unfold Fine;kernel_rfl
theorem fine23:Fine 23:=by unfold Fine;kernel_rfl
theorem fine24:Fine 24:=by unfold Fine;kernel_rfl
theorem fine25:Fine 25:=by unfold Fine;kernel_rfl
theorem fine26:Fine 26:=by unfold Fine;kernel_rfl
theorem fine27:Fine 27:=by unfold Fine;kernel_rfl
theorem fine28:Fine 28:=by unfold Fine;kernel_rfl
theorem fine29:Fine 29:=by unfold Fine;kernel_rfl
theorem fine30:Fine 30:=by unfold Fine;kernel_rfl
theorem fine31:Fine 31:=by unfold Fine;kernel_rfl
theorem fine32:Fine 32:=by unfold Fine;kernel_rfl
theorem fine33:Fine 33:=by unfold Fine;kernel_rfl
theorem fine34:Fine 34:=by unfold Fine;kernel_rfl
theorem fine35:Fine 35:=by unfold Fine;kernel_rfl
theorem fine37:Fine 37:=by unfold Fine;kernel_rfl
theorem fine38:Fine 38:=by unfold Fine;kernel_rfl
theorem fine39:Fine 39:=by unfold Fine;kernel_rfl
theorem fine40:Fine 40:=by unfold Fine;kernel_rfl
theorem fine41:Fine 41:=by unfold Fine;kernel_rfl
theorem fine42:Fine 42:=by unfold Fine;kernel_rfl
theorem fine43:Fine 43:=by unfold Fine;kernel_rfl
theorem fine44:Fine 44:=by unfold Fine;kernel_rfl
theorem fine45:Fine 45:=by unfold Fine;kernel_rfl
theorem fine46:Fine 46:=by unfold Fine;kernel_rfl
theorem fine47:Fine 47:=by unfold Fine;kernel_rfl
theorem fine48:Fine 48:=by unfold Fine;kernel_rfl
theorem fine49:Fine 49:=by unfold Fine;kernel_rfl
theorem fine53:Fine 53:=by unfold Fine;kernel_rfl
theorem fine54:Fine 54:=by unfold Fine;kernel_rfl
theorem fine55:Fine 55:=by unfold Fine;kernel_rfl
theorem fine56:Fine 56:=by unfold Fine;kernel_rfl
theorem fine57:Fine 57:=by unfold Fine;kernel_rfl
theorem fine58:Fine 58:=by unfold Fine;kernel_rfl
theorem fine59:Fine 59:=by unfold Fine;kernel_rfl
theorem fine78:Fine 78:=by unfold Fine;kernel_rfl
theorem fine79:Fine 79:=by unfold Fine;kernel_rfl
theorem fine80:Fine 80:=by unfold Fine;kernel_rfl
theorem fine86:Fine 86:=by unfold Fine;kernel_rfl
theorem fine107:Fine 107:=by unfold Fine;kernel_rfl
theorem fine108:Fine 108:=by unfold Fine;kernel_rfl
theorem fine109:Fine 109:=by unfold Fine;kernel_rfl
theorem fine110:Fine 110:=by unfold Fine;kernel_rfl
theorem fine111:Fine 111:=by unfold Fine;kernel_rfl
theorem fine112:Fine 112:=by unfold Fine;kernel_rfl
theorem elemN_cons {f x:Nat} {l:List Nat} (h:elemN f (x :: l) = true):f = x ∨ elemN f l = true:=by
 rw [elemN_iff,List.mem_cons] at h
 rcases h with h | h
 ·exact .inl h
 ·exact .inr ((elemN_iff f l).2 h)
theorem fine_all (f:FuncId) (h:scope f = true):Fine f:=by
 unfold scope at h
 rcases elemN_cons h with rfl | h
 ·exact fine3
 rcases elemN_cons h with rfl | h
 ·exact fine4
 rcases elemN_cons h with rfl | h
 ·exact fine5
 rcases elemN_cons h with rfl | h
 ·exact fine6
 rcases elemN_cons h with rfl | h
 ·exact fine7
 rcases elemN_cons h with rfl | h
 ·exact fine8
 rcases elemN_cons h with rfl | h
 ·exact fine9
 rcases elemN_cons h with rfl | h
 ·exact fine10
 rcases elemN_cons h with rfl | h
 ·exact fine11
 rcases elemN_cons h with rfl | h
 ·exact fine12
 rcases elemN_cons h with rfl | h
 ·exact fine13
 rcases elemN_cons h with rfl | h
 ·exact fine14
 rcases elemN_cons h with rfl | h
 ·exact fine16
 rcases elemN_cons h with rfl | h
 ·exact fine17
 rcases elemN_cons h with rfl | h
 ·exact fine18
 rcases elemN_cons h with rfl | h
 ·exact fine19
 rcases elemN_cons h with rfl | h
 ·exact fine20
 rcases elemN_cons h with rfl | h
 ·exact fine21
 rcases elemN_cons h with rfl | h
 ·exact fine22
 rcases elemN_cons h with rfl | h
 ·exact fine23
 rcases elemN_cons h with rfl | h
 ·exact fine24
 rcases elemN_cons h with rfl | h
 ·exact fine25
 rcases elemN_cons h with rfl | h
 ·exact fine26
 rcases elemN_cons h with rfl | h
 ·exact fine27
 rcases elemN_cons h with rfl | h
 ·exact fine28
 rcases elemN_cons h with rfl | h
 ·exact fine29
 rcases elemN_cons h with rfl | h
 ·exact fine30
 rcases elemN_cons h with rfl | h
 ·exact fine31
 rcases elemN_cons h with rfl | h
 ·exact fine32
 rcases elemN_cons h with rfl | h
 ·exact fine33
 rcases elemN_cons h with rfl | h
 ·exact fine34
 rcases elemN_cons h with rfl | h
 ·exact fine35
 rcases elemN_cons h with rfl | h
 ·exact fine37
 rcases elemN_cons h with rfl | h
 ·exact fine38
 rcases elemN_cons h with rfl | h
 ·exact fine39
 rcases elemN_cons h with rfl | h
 ·exact fine40
 rcases elemN_cons h with rfl | h
 ·exact fine41
 rcases elemN_cons h with rfl | h
 ·exact fine42
 rcases elemN_cons h with rfl | h
 ·exact fine43
 rcases elemN_cons h with rfl | h
 ·exact fine44
 rcases elemN_cons h with rfl | h
 ·exact fine45
 rcases elemN_cons h with rfl | h
 ·exact fine46
 rcases elemN_cons h with rfl | h
 ·exact fine47
 rcases elemN_cons h with rfl | h
 ·exact fine48
 rcases elemN_cons h with rfl | h
 ·exact fine49
 rcases elemN_cons h with rfl | h
 ·exact fine53
 rcases elemN_cons h with rfl | h
 ·exact fine54
 rcases elemN_cons h with rfl | h
 ·exact fine55
 rcases elemN_cons h with rfl | h
 ·exact fine56
 rcases elemN_cons h with rfl | h
 ·exact fine57
 rcases elemN_cons h with rfl | h
 ·exact fine58
 rcases elemN_cons h with rfl | h
 ·exact fine59
 rcases elemN_cons h with rfl | h
 ·exact fine78
 rcases elemN_cons h with rfl | h
 ·exact fine79
 rcases elemN_cons h with rfl | h
 ·exact fine80
 rcases elemN_cons h with rfl | h
 ·exact fine86
 rcases elemN_cons h with rfl | h
 ·exact fine107
 rcases elemN_cons h with rfl | h
 ·exact fine108
 rcases elemN_cons h with rfl | h
 ·exact fine109
 rcases elemN_cons h with rfl | h
 ·exact fine110
 rcases elemN_cons h with rfl | h
 ·exact fine111
 rcases elemN_cons h with rfl | h
 ·exact fine112
 cases h
theorem fine_cfg (spec:FuncId → Option Eng.Spec) (loop:FuncId → Nat → Option LSpec) (f:FuncId) (h:scope f = true):fnOk (cfg spec loop) f = true:=(fnOk_any spec loop f).trans (fine_all f h)
class SeatCo:Prop where
 plain:∀ f,scope f = true → Co.plain f
variable [SeatCo]
theorem body_ok {spec:FuncId → Option Eng.Spec} {loop:FuncId → Nat → Option LSpec} (hs:∀ f sp,spec f = some sp → SpecOk Tryd.prog noGlob f sp) (hl:LoopsOk (cfg spec loop) noGlob) (fuel d:Nat) :
 CallOk Tryd.prog noGlob (callBody (cfg spec loop) fuel (acall (cfg spec loop) d fuel)):=
 callBody_ok (C:=cfg spec loop) rfl (acall_ok (C:=cfg spec loop) rfl methOk mixed (fine_cfg spec loop) SeatCo.plain hl (fun f sp h args S v S' hc=>callSpec_ok (hs f sp h) args S v S' hc) fuel d) methOk mixed (fine_cfg spec loop) SeatCo.plain hl fuel
noncomputable def goB (spec:FuncId → Option Eng.Spec) (loop:FuncId → Nat → Option LSpec) (f:FuncId) (args:List AV) (S:St):Option (AV × St):=callBody (cfg spec loop) 100000 (acall (cfg spec loop) 20 100000) f args S
theorem goB_ok {spec:FuncId → Option Eng.Spec} {loop:FuncId → Nat → Option LSpec} (hs:∀ f sp,spec f = some sp → SpecOk Tryd.prog noGlob f sp) (hl:LoopsOk (cfg spec loop) noGlob):CallOk Tryd.prog noGlob (goB spec loop):=body_ok hs hl 100000 20
theorem no_specs:∀ f sp,noSpec f = some sp → SpecOk Tryd.prog noGlob f sp:=fun _ _ h=>by cases h
theorem no_loops (spec:FuncId → Option Eng.Spec):LoopsOk (cfg spec noLoop) noGlob:=LoopsOk.none (fun _ _=>rfl)
noncomputable def goL (spec:FuncId → Option Eng.Spec) (loop:FuncId → Nat → Option LSpec) (f i:Nat) (F:Fr) (S:St):Option (Out × Fr × St):=exec (cfg spec loop) 100000 (loopIn Tryd.prog f i) ⟨acall (cfg spec loop) 20 100000,nv f,keep f,dyn f,loop f⟩ F S
theorem goL_ok {spec:FuncId → Option Eng.Spec} {loop:FuncId → Nat → Option LSpec} (hs:∀ f sp,spec f = some sp → SpecOk Tryd.prog noGlob f sp) (hl:LoopsOk (cfg spec loop) noGlob) (f i:Nat) (hf:Fine f) (hi:i < (loopsIn Tryd.prog f).length) :
 RunOk Tryd.prog noGlob (nv f) (ntmpsIn Tryd.prog f) (loopIn Tryd.prog f i) (goL spec loop f i):=
 exec_loop (C:=cfg spec loop) rfl (acall_ok (C:=cfg spec loop) rfl methOk mixed (fine_cfg spec loop) SeatCo.plain hl (fun f sp h args S v S' hc=>callSpec_ok (hs f sp h) args S v S' hc) 100000 20) methOk mixed hl ((fnOk_any spec loop f).trans hf) 100000 i hi
def Told (f i:Nat) (sp:LSpec):Prop:=RunOk Tryd.prog noGlob (nv f) (ntmpsIn Tryd.prog f) (.loop (loopIn Tryd.prog f i)) sp
theorem all_true_cons {b:Bool} {l:List Bool} (h:b = true) (k:∀ x ∈ l,x = true):∀ x ∈ b :: l,x = true:=by
 intro x hx
 rcases List.mem_cons.1 hx with rfl | hx
 ·exact h
 ·exact k x hx
theorem all_true_nil:∀ x ∈ ([]:List Bool),x = true:=fun x hx=>by cases hx
end
end Go.Proofs.YtineimjmnbjdlaaDoor

/- An interpreter of the model's code over abstract values, proved sound, and a walk in company by it: part of the proof of FnArgon2Long. No condition. -/
import Derived.Test.YtineimjmnbjdlaaDoorZD
import Derived.Test.YtineimjmnbjdlaaDoorProg
import Derived.KernelRfl
import Derived.Laws.Externs
set_option linter.unusedVariables false
set_option linter.unusedSectionVars false
set_option linter.unusedSimpArgs false
namespace Go.Proofs.YtineimjmnbjdlaaDoor
section
open Go.Eng
variable [RowAddr]
set_option maxRecDepth 10000 in
def tabP:List AV:=[.int .u8 (.c 0),.int .u8 (.c 2),.int .u8 (.c 4),.int .u8 (.c 6),.int .u8 (.c 1),.int .u8 (.c 3),.int .u8 (.c 5),.int .u8 (.c 7),.int .u8 (.c 8),.int .u8 (.c 10),.int .u8 (.c 12),.int .u8 (.c 14),.int .u8 (.c 9),.int .u8 (.c 11),.int .u8 (.c 13),.int .u8 (.c 15),.int .u8 (.c 14),.int .u8 (.c 4),.int .u8 (.c 9),.int .u8 (.c 13),.int .u8 (.c 10),.int .u8 (.c 8),.int .u8 (.c 15),.int .u8 (.c 6),.int .u8 (.c 1),.int .u8 (.c 0),.int .u8 (.c 11),.int .u8 (.c 5),.int .u8 (.c 12),.int .u8 (.c 2),.int .u8 (.c 7),.int .u8 (.c 3),.int .u8 (.c 11),.int .u8 (.c 12),.int .u8 (.c 5),.int .u8 (.c 15),.int .u8 (.c 8),.int .u8 (.c 0),.int .u8 (.c 2),.int .u8 (.c 13),.int .u8 (.c 10),.int .u8 (.c 3),.int .u8 (.c 7),.int .u8 (.c 9),.int .u8 (.c 14),.int .u8 (.c 6),.int .u8 (.c 1),.int .u8 (.c 4),.int .u8 (.c 7),.int .u8 (.c 3),.int .u8 (.c 13),.int .u8 (.c 11),.int .u8 (.c 9),.int .u8 (.c 1),.int .u8 (.c 12),.int .u8 (.c 14),.int .u8 (.c 2),.int .u8 (.c 5),.int .u8 (.c 4),.int .u8 (.c 15),.int .u8 (.c 6),.int .u8 (.c 10),.int .u8 (.c 0),.int .u8 (.c 8),.int .u8 (.c 9),.int .u8 (.c 5),.int .u8 (.c 2),.int .u8 (.c 10),.int .u8 (.c 0),.int .u8 (.c 7),.int .u8 (.c 4),.int .u8 (.c 15),.int .u8 (.c 14),.int .u8 (.c 11),.int .u8 (.c 6),.int .u8 (.c 3),.int .u8 (.c 1),.int .u8 (.c 12),.int .u8 (.c 8),.int .u8 (.c 13),.int .u8 (.c 2),.int .u8 (.c 6),.int .u8 (.c 0),.int .u8 (.c 8),.int .u8 (.c 12),.int .u8 (.c 10),.int .u8 (.c 11),.int .u8 (.c 3),.int .u8 (.c 4),.int .u8 (.c 7),.int .u8 (.c 15),.int .u8 (.c 1),.int .u8 (.c 13),.int .u8 (.c 5),.int .u8 (.c 14),.int .u8 (.c 9),.int .u8 (.c 12),.int .u8 (.c 1),.int .u8 (.c 14),.int .u8 (.c 4),.int .u8 (.c 5),.int .u8 (.c 15),.int .u8 (.c 13),.int .u8 (.c 10),.int .u8 (.c 0),.int .u8 (.c 6),.int .u8 (.c 9),.int .u8 (.c 8),.int .u8 (.c 7),.int .u8 (.c 3),.int .u8 (.c 2),.int .u8 (.c 11),.int .u8 (.c 13),.int .u8 (.c 7),.int .u8 (.c 12),.int .u8 (.c 3),.int .u8 (.c 11),.int .u8 (.c 14),.int .u8 (.c 1),.int .u8 (.c 9),.int .u8 (.c 5),.int .u8 (.c 15),.int .u8 (.c 8),.int .u8 (.c 2),.int .u8 (.c 0),.int .u8 (.c 4),.int .u8 (.c 6),.int .u8 (.c 10),.int .u8 (.c 6),.int .u8 (.c 14),.int .u8 (.c 11),.int .u8 (.c 0),.int .u8 (.c 15),.int .u8 (.c 9),.int .u8 (.c 3),.int .u8 (.c 8),.int .u8 (.c 12),.int .u8 (.c 13),.int .u8 (.c 1),.int .u8 (.c 10),.int .u8 (.c 2),.int .u8 (.c 7),.int .u8 (.c 4),.int .u8 (.c 5),.int .u8 (.c 10),.int .u8 (.c 8),.int .u8 (.c 7),.int .u8 (.c 1),.int .u8 (.c 2),.int .u8 (.c 4),.int .u8 (.c 6),.int .u8 (.c 5),.int .u8 (.c 15),.int .u8 (.c 9),.int .u8 (.c 3),.int .u8 (.c 13),.int .u8 (.c 11),.int .u8 (.c 14),.int .u8 (.c 12),.int .u8 (.c 0),.int .u8 (.c 0),.int .u8 (.c 2),.int .u8 (.c 4),.int .u8 (.c 6),.int .u8 (.c 1),.int .u8 (.c 3),.int .u8 (.c 5),.int .u8 (.c 7),.int .u8 (.c 8),.int .u8 (.c 10),.int .u8 (.c 12),.int .u8 (.c 14),.int .u8 (.c 9),.int .u8 (.c 11),.int .u8 (.c 13),.int .u8 (.c 15),.int .u8 (.c 14),.int .u8 (.c 4),.int .u8 (.c 9),.int .u8 (.c 13),.int .u8 (.c 10),.int .u8 (.c 8),.int .u8 (.c 15),.int .u8 (.c 6),.int .u8 (.c 1),.int .u8 (.c 0),.int .u8 (.c 11),.int .u8 (.c 5),.int .u8 (.c 12),.int .u8 (.c 2),.int .u8 (.c 7),.int .u8 (.c 3)]
def tabIv:List AV:=[.int .u64 (.c 7640891576956012808),.int .u64 (.c 13503953896175478587),.int .u64 (.c 4354685564936845355),.int .u64 (.c 11912009170470909681),.int .u64 (.c 5840696475078001361),.int .u64 (.c 11170449401992604703),.int .u64 (.c 2270897969802886507),.int .u64 (.c 6620516959819538809)]
def noGlob:Nat → Option (List AV)
 | 2=>some tabP
 | 8=>some tabIv
 | _=>none
def extA (f:Nat) (args:List AV):Option AV:=
 match Nat.beq f 87,args with
 | true,[.num a,.num b,.num c]=>
  match a.bv64,b.bv64,c.bv64 with
  | some x,some y,some z=>
   match Nat.ble z.toNat 1 with
   | true=>some (.obj .tup [.num (.int .u64 (.c (((x.toNat + y.toNat + z.toNat) % 18446744073709551616:Nat):Int))),.num (.int .u64 (.c (((x.toNat + y.toNat + z.toNat) / 18446744073709551616:Nat):Int)))])
   | false=>none
  | _,_,_=>none
 | _,_=>none
set_option maxRecDepth 20000 in
def nv:Nat → Nat
 | 3=>5 | 4=>9 | 5=>4 | 6=>5 | 7=>6 | 8=>6 | 9=>14 | 10=>1 | 11=>5 | 12=>9 | 13=>19 | 14=>22 | 15=>16 | 16=>2 | 17=>3 | 18=>10 | 19=>5 | 20=>19 | 21=>27 | 22=>2 | 23=>13 | 24=>13 | 25=>9 | 26=>1 | 27=>12 | 28=>5 | 29=>23 | 30=>21 | 31=>6 | 32=>4 | 33=>3 | 34=>20 | 35=>13 | 36=>17 | 37=>17 | 38=>7 | 39=>5 | 40=>9 | 41=>23 | 42=>9 | 43=>5 | 44=>5 | 45=>5 | 46=>23 | 47=>3 | 48=>20 | 49=>3 | 50=>1 | 51=>24 | 52=>7 | 53=>3 | 54=>1 | 55=>4 | 56=>8 | 57=>9 | 58=>14 | 59=>12 | 66=>5 | 67=>5 | 69=>3 | 70=>2 | 75=>7 | 78=>12 | 79=>7 | 80=>48 | 86=>14 | 107=>6 | 108=>9 | 109=>10 | 110=>4 | 111=>31 | 112=>6 | _=>0
set_option maxRecDepth 20000 in
def keep:Nat → List Nat
 | 3=>[7,19] | 4=>[11,34] | 5=>[7,15] | 7=>[10,14,25] | 9=>[20,39] | 11=>[6,7,5,11] | 15=>[18] | 19=>[5,6] | 21=>[37,38,39,36,52,53,54,51] | 22=>[3] | 25=>[12,39,64,86] | 27=>[26] | 30=>[22,25,51] | 34=>[25,39,40,38,53,97] | 35=>[17,41,42,66,67] | 36=>[25,29,34] | 37=>[23,35,36,34,56,57,55] | 38=>[12,16] | 39=>[6,7] | 40=>[43] | 41=>[26,50,60,68,94,127] | 42=>[13,14,15,12] | 43=>[7] | 44=>[7] | 46=>[36,66,60,84,92,112,109] | 48=>[30,41,56,46,66] | 51=>[35,50,67,74,87,94,100,106,110] | 52=>[39,34,19,52,66,63,82,48] | 54=>[44] | 55=>[5,6,4] | 56=>[10] | 58=>[14,15,32,85,144,145,171,172,143] | 78=>[18,22,74] | 108=>[23,15,78,73,96] | 109=>[33,50,51,49] | 111=>[42,46,106,107,119,120] | _=>[]
def dyn:Nat → Nat → Bool
 | 41,6=>true | 4,6=>true | 14,2=>true | 18,1=>true | 34,15=>true | 34,18=>true | 40,2=>true | 108,5=>true | 108,18=>true | _,_=>false
def scope (f:Nat):Bool:=elemN f [3,4,5,6,7,8,9,10,11,12,13,14,16,17,18,19,20,21,22,23,24,25,26,27,28,29,30,31,32,33,34,35,37,38,39,40,41,42,43,44,45,46,47,48,49,53,54,55,56,57,58,59,78,79,80,86,107,108,109,110,111,112]
def meth (t:Nat) (m:String):Option FuncId:=
 if t = 86 ∧ m = "Write" then some 108 else
 if t = 86 ∧ m = "Sum" then some 107 else
 if t = 86 ∧ m = "Reset" then some 54 else
 none
noncomputable def cfg (spec:FuncId → Option Eng.Spec) (loop:FuncId → Nat → Option LSpec):Cfg:={ P:=Tryd.prog,glob:=noGlob,nv:=nv,keep:=keep,dyn:=dyn,spec:=spec,loop:=loop,scope:=scope,meth:=meth,ext:=extA }
def noSpec:FuncId → Option Eng.Spec:=fun _=>none
def noLoop:FuncId → Nat → Option LSpec:=fun _ _=>none
set_option maxRecDepth 20000 in
theorem fnOk_any (spec:FuncId → Option Eng.Spec) (loop:FuncId → Nat → Option LSpec) (f:FuncId):fnOk (cfg spec loop) f = fnOk (cfg noSpec noLoop) f:=rfl
def Fine (f:FuncId):Prop:=fnOk (cfg noSpec noLoop) f = true
theorem mixed:Tryd.prog.follows .mixedOrders = true:=by kernel_rfl
theorem meth0 [Co] (v:Value) (w:World):(method (Tryd.prog.types.size + Made.depth) 86 v "Write").runQ Tryd.prog w = .ok (108,v) w:=by kernel_rfl
theorem meth1 [Co] (v:Value) (w:World):(method (Tryd.prog.types.size + Made.depth) 86 v "Sum").runQ Tryd.prog w = .ok (107,v) w:=by kernel_rfl
theorem meth2 [Co] (v:Value) (w:World):(method (Tryd.prog.types.size + Made.depth) 86 v "Reset").runQ Tryd.prog w = .ok (54,v) w:=by kernel_rfl
theorem methOk [Co]:MethOk Tryd.prog meth:=by
 intro t m f h v w
 unfold meth at h
 split at h
 ·rename_i e;obtain ⟨rfl,rfl⟩:=e;have h:=Option.some.inj h;subst h;exact meth0 v w
 split at h
 ·rename_i e;obtain ⟨rfl,rfl⟩:=e;have h:=Option.some.inj h;subst h;exact meth1 v w
 split at h
 ·rename_i e;obtain ⟨rfl,rfl⟩:=e;have h:=Option.some.inj h;subst h;exact meth2 v w
 cases h
end
section
open Go Go.Eng
variable [RowAddr] [Co]
theorem x87a:Extern.findNext Tryd.f87 = none:=by kernel_rfl
theorem x87b:Tryd.f87.body.isNone = true:=by kernel_rfl
theorem x87c:(Tryd.f87.name == "runtime.NumGoroutine") = false:=by kernel_rfl
theorem x87d:Extern.find Tryd.f87 = some add64Entry:=by kernel_rfl
theorem runQ_add64 {P:Program} (x y k:Nat) (hk:k ≤ 1) (w:World) :
 (add64Entry #[.int .u64 (x:Int),.int .u64 (y:Int),.int .u64 (k:Int)]).runQ P w = .ok (Extern.MathBitsCarry.pair ((x + y + k) % Extern.MathBitsCarry.m64) ((x + y + k) / Extern.MathBitsCarry.m64)) w:=by
 have:k = 0 ∨ k = 1:=by omega
 rcases this with rfl | rfl <;> rfl
theorem nila0 (p:Addr) (w:World):(nilAhead (Tryd.prog.types.size + Made.depth) 86 (.pointer (some p)) "Write").runQ Tryd.prog w = .ok (some false) w:=by kernel_rfl
theorem nila1 (p:Addr) (w:World):(nilAhead (Tryd.prog.types.size + Made.depth) 86 (.pointer (some p)) "Sum").runQ Tryd.prog w = .ok (some false) w:=by kernel_rfl
theorem nila2 (p:Addr) (w:World):(nilAhead (Tryd.prog.types.size + Made.depth) 86 (.pointer (some p)) "Reset").runQ Tryd.prog w = .ok (some false) w:=by kernel_rfl
instance extOk (spec:FuncId → Option Eng.Spec) (loop:FuncId → Nat → Option LSpec):ExtOk (cfg spec loop) where
 nila:=by
  intro t m f h p w
  change meth t m = some f at h
  unfold meth at h
  split at h
  ·rename_i e;obtain ⟨rfl,rfl⟩:=e;exact nila0 p w
  split at h
  ·rename_i e;obtain ⟨rfl,rfl⟩:=e;exact nila1 p w
  split at h
  ·rename_i e;obtain ⟨rfl,rfl⟩:=e;exact nila2 p w
  cases h
 ok:=by
  intro f args v h β vs w hl
  change extA f args = some v at h
  unfold extA at h
  split at h
  case h_2=>cases h
  rename_i a b c hf
  split at h
  case h_2=>cases h
  rename_i x y z hx hy hz
  split at h
  case h_2=>cases h
  rename_i hk
  have hk:z.toNat ≤ 1:=Nat.le_of_ble_eq_true hk
  obtain rfl:f = 87:=Nat.eq_of_beq_eq_true hf
  obtain ⟨hlen,hrel⟩:=hl
  match vs,hlen with
  | [u1,u2,u3],_=>
   obtain rfl:=(hrel 0 _ _ rfl rfl).num_inv
   obtain rfl:=(hrel 1 _ _ rfl rfl).num_inv
   obtain rfl:=(hrel 2 _ _ rfl rfl).num_inv
   rw [Num.bv64_spec hx,Num.bv64_spec hy,Num.bv64_spec hz]
   simp only [Option.some.injEq] at h
   subst h
   refine ⟨.tuple #[.int .u64 (((x.toNat + y.toNat + z.toNat) % 18446744073709551616:Nat):Int),.int .u64 (((x.toNat + y.toNat + z.toNat) / 18446744073709551616:Nat):Int)],?_,?_⟩
   ·exact .tup _ _ rfl (fun i x v h1 h2=>by
     match i,h1,h2 with
     | 0,h1,h2=>cases h1;cases h2;exact .num _
     | 1,h1,h2=>cases h1;cases h2;exact .num _
     | n + 2,h1,_=>simp at h1)
   ·have hb1:Tryd.f87.body = none:=by simpa using x87b
    have hc1:¬ Tryd.f87.name = "runtime.NumGoroutine":=by simpa using x87c
    have hsoft:Soft (.extern 87):=.inr ⟨87,rfl⟩
    have h0:=runQ_add64 (P:=Tryd.prog) x.toNat y.toNat z.toNat hk w
    simp only [callFunc,cfg,Sem.runQ_bind,runQ_program,Result.andThen,Tryd.func87,x87c,hb1,Option.isNone_none,if_true,if_false,Bool.false_eq_true,x87a,x87d,mark,Sem.runQ,hsoft,Sem.runQ_pure]
    rw [h0]
    rfl
end
section
open Go.Eng
variable [RowAddr] [Co]
theorem fine3:Fine 3:=by unfold Fine;kernel_rfl
theorem fine4:Fine 4:=by unfold Fine;kernel_rfl
theorem fine5:Fine 5:=by unfold Fine;kernel_rfl
theorem fine6:Fine 6:=by unfold Fine;kernel_rfl
theorem fine7:Fine 7:=by unfold Fine;kernel_rfl
theorem fine8:Fine 8:=by unfold Fine;kernel_rfl
theorem fine9:Fine 9:=by unfold Fine;kernel_rfl
theorem fine10:Fine 10:=by unfold Fine;kernel_rfl
theorem fine11:Fine 11:=by unfold Fine;kernel_rfl
theorem fine12:Fine 12:=by unfold Fine;kernel_rfl
theorem fine13:Fine 13:=by unfold Fine;kernel_rfl
theorem fine14:Fine 14:=by unfold Fine;kernel_rfl
theorem fine16:Fine 16:=by unfold Fine;kernel_rfl
theorem fine17:Fine 17:=by unfold Fine;kernel_rfl
theorem fine18:Fine 18:=by unfold Fine;kernel_rfl
theorem fine19:Fine 19:=by unfold Fine;kernel_rfl
theorem fine20:Fine 20:=by unfold Fine;kernel_rfl
theorem fine21:Fine 21:=by unfold Fine;kernel_rfl
theorem fine22:Fine 22:=by unfold Fine;kernel_rfl
theorem fine23:Fine 23:=by unfold Fine;kernel_rfl
theorem fine24:Fine 24:=by unfold Fine;kernel_rfl
theorem fine25:Fine 25:=by unfold Fine;kernel_rfl
theorem fine26:Fine 26:=by unfold Fine;kernel_rfl
theorem fine27:Fine 27:=by unfold Fine;kernel_rfl
theorem fine28:Fine 28:=by unfold Fine;kernel_rfl
theorem fine29:Fine 29:=by unfold Fine;kernel_rfl
theorem fine30:Fine 30:=by unfold Fine;kernel_rfl
theorem fine31:Fine 31:=by unfold Fine;kernel_rfl
theorem fine32:Fine 32:=by unfold Fine;kernel_rfl
theorem fine33:Fine 33:=by unfold Fine;kernel_rfl
theorem fine34:Fine 34:=by unfold Fine;kernel_rfl
theorem fine35:Fine 35:=by unfold Fine;kernel_rfl
theorem fine37:Fine 37:=by unfold Fine;kernel_rfl
theorem fine38:Fine 38:=by unfold Fine;kernel_rfl
theorem fine39:Fine 39:=by unfold Fine;kernel_rfl
theorem fine40:Fine 40:=by unfold Fine;kernel_rfl
theorem fine41:Fine 41:=by unfold Fine;kernel_rfl
theorem fine42:Fine 42:=by unfold Fine;kernel_rfl
theorem fine43:Fine 43:=by unfold Fine;kernel_rfl
theorem fine44:Fine 44:=by unfold Fine;kernel_rfl
theorem fine45:Fine 45:=by unfold Fine;kernel_rfl
theorem fine46:Fine 46:=by unfold Fine;kernel_rfl
theorem fine47:Fine 47:=by unfold Fine;kernel_rfl
theorem fine48:Fine 48:=by unfold Fine;kernel_rfl
theorem fine49:Fine 49:=by unfold Fine;kernel_rfl
theorem fine53:Fine 53:=by unfold Fine;kernel_rfl
theorem fine54:Fine 54:=by unfold Fine;kernel_rfl
theorem fine55:Fine 55:=by unfold Fine;kernel_rfl
theorem fine56:Fine 56:=by unfold Fine;kernel_rfl
theorem fine57:Fine 57:=by unfold Fine;kernel_rfl
theorem fine58:Fine 58:=by unfold Fine;kernel_rfl
theorem fine59:Fine 59:=by unfold Fine;kernel_rfl
theorem fine78:Fine 78:=by unfold Fine;kernel_rfl
theorem fine79:Fine 79:=by unfold Fine;kernel_rfl
theorem fine80:Fine 80:=by unfold Fine;kernel_rfl
theorem fine86:Fine 86:=by unfold Fine;kernel_rfl
theorem fine107:Fine 107:=by unfold Fine;kernel_rfl
theorem fine108:Fine 108:=by unfold Fine;kernel_rfl
theorem fine109:Fine 109:=by unfold Fine;kernel_rfl
theorem fine110:Fine 110:=by unfold Fine;kernel_rfl
theorem fine111:Fine 111:=by unfold Fine;kernel_rfl
theorem fine112:Fine 112:=by unfold Fine;kernel_rfl
theorem elemN_cons {f x:Nat} {l:List Nat} (h:elemN f (x :: l) = true):f = x ∨ elemN f l = true:=by
 rw [elemN_iff,List.mem_cons] at h
 rcases h with h | h
 ·exact .inl h
 ·exact .inr ((elemN_iff f l).2 h)
theorem fine_all (f:FuncId) (h:scope f = true):Fine f:=by
 unfold scope at h
 rcases elemN_cons h with rfl | h
 ·exact fine3
 rcases elemN_cons h with rfl | h
 ·exact fine4
 rcases elemN_cons h with rfl | h
 ·exact fine5
 rcases elemN_cons h with rfl | h
 ·exact fine6
 rcases elemN_cons h with rfl | h
 ·exact fine7
 rcases elemN_cons h with rfl | h
 ·exact fine8
 rcases elemN_cons h with rfl | h
 ·exact fine9
 rcases elemN_cons h with rfl | h
 ·exact fine10
 rcases elemN_cons h with rfl | h
 ·exact fine11
 rcases elemN_cons h with rfl | h
 ·exact fine12
 rcases elemN_cons h with rfl | h
 ·exact fine13
 rcases elemN_cons h with rfl | h
 ·exact fine14
 rcases elemN_cons h with rfl | h
 ·exact fine16
 rcases elemN_cons h with rfl | h
 ·exact fine17
 rcases elemN_cons h with rfl | h
 ·exact fine18
 rcases elemN_cons h with rfl | h
 ·exact fine19
 rcases elemN_cons h with rfl | h
 ·exact fine20
 rcases elemN_cons h with rfl | h
 ·exact fine21
 rcases elemN_cons h with rfl | h
 ·exact fine22
 rcases elemN_cons h with rfl | h
 ·exact fine23
 rcases elemN_cons h with rfl | h
 ·exact fine24
 rcases elemN_cons h with rfl | h
 ·exact fine25
 rcases elemN_cons h with rfl | h
 ·exact fine26
 rcases elemN_cons h with rfl | h
 ·exact fine27
 rcases elemN_cons h with rfl | h
 ·exact fine28
 rcases elemN_cons h with rfl | h
 ·exact fine29
 rcases elemN_cons h with rfl | h
 ·exact fine30
 rcases elemN_cons h with rfl | h
 ·exact fine31
 rcases elemN_cons h with rfl | h
 ·exact fine32
 rcases elemN_cons h with rfl | h
 ·exact fine33
 rcases elemN_cons h with rfl | h
 ·exact fine34
 rcases elemN_cons h with rfl | h
 ·exact fine35
 rcases elemN_cons h with rfl | h
 ·exact fine37
 rcases elemN_cons h with rfl | h
 ·exact fine38
 rcases elemN_cons h with rfl | h
 ·exact fine39
 rcases elemN_cons h with rfl | h
 ·exact fine40
 rcases elemN_cons h with rfl | h
 ·exact fine41
 rcases elemN_cons h with rfl | h
 ·exact fine42
 rcases elemN_cons h with rfl | h
 ·exact fine43
 rcases elemN_cons h with rfl | h
 ·exact fine44
 rcases elemN_cons h with rfl | h
 ·exact fine45
 rcases elemN_cons h with rfl | h
 ·exact fine46
 rcases elemN_cons h with rfl | h
 ·exact fine47
 rcases elemN_cons h with rfl | h
 ·exact fine48
 rcases elemN_cons h with rfl | h
 ·exact fine49
 rcases elemN_cons h with rfl | h
 ·exact fine53
 rcases elemN_cons h with rfl | h
 ·exact fine54
 rcases elemN_cons h with rfl | h
 ·exact fine55
 rcases elemN_cons h with rfl | h
 ·exact fine56
 rcases elemN_cons h with rfl | h
 ·exact fine57
 rcases elemN_cons h with rfl | h
 ·exact fine58
 rcases elemN_cons h with rfl | h
 ·exact fine59
 rcases elemN_cons h with rfl | h
 ·exact fine78
 rcases elemN_cons h with rfl | h
 ·exact fine79
 rcases elemN_cons h with rfl | h
 ·exact fine80
 rcases elemN_cons h with rfl | h
 ·exact fine86
 rcases elemN_cons h with rfl | h
 ·exact fine107
 rcases elemN_cons h with rfl | h
 ·exact fine108
 rcases elemN_cons h with rfl | h
 ·exact fine109
 rcases elemN_cons h with rfl | h
 ·exact fine110
 rcases elemN_cons h with rfl | h
 ·exact fine111
 rcases elemN_cons h with rfl | h
 ·exact fine112
 cases h
theorem fine_cfg (spec:FuncId → Option Eng.Spec) (loop:FuncId → Nat → Option LSpec) (f:FuncId) (h:scope f = true):fnOk (cfg spec loop) f = true:=(fnOk_any spec loop f).trans (fine_all f h)
class SeatCo:Prop where
 plain:∀ f,scope f = true → Co.plain f
variable [SeatCo]
theorem body_ok {spec:FuncId → Option Eng.Spec} {loop:FuncId → Nat → Option LSpec} (hs:∀ f sp,spec f = some sp → SpecOk Tryd.prog noGlob f sp) (hl:LoopsOk (cfg spec loop) noGlob) (fuel d:Nat) :
 CallOk Tryd.prog noGlob (callBody (cfg spec loop) fuel (acall (cfg spec loop) d fuel)):=
 callBody_ok (C:=cfg spec loop) rfl (acall_ok (C:=cfg spec loop) rfl methOk mixed (fine_cfg spec loop) SeatCo.plain hl (fun f sp h args S v S' hc=>callSpec_ok (hs f sp h) args S v S' hc) fuel d) methOk mixed (fine_cfg spec loop) SeatCo.plain hl fuel
noncomputable def goB (spec:FuncId → Option Eng.Spec) (loop:FuncId → Nat → Option LSpec) (f:FuncId) (args:List AV) (S:St):Option (AV × St):=callBody (cfg spec loop) 100000 (acall (cfg spec loop) 20 100000) f args S
theorem goB_ok {spec:FuncId → Option Eng.Spec} {loop:FuncId → Nat → Option LSpec} (hs:∀ f sp,spec f = some sp → SpecOk Tryd.prog noGlob f sp) (hl:LoopsOk (cfg spec loop) noGlob):CallOk Tryd.prog noGlob (goB spec loop):=body_ok hs hl 100000 20
theorem no_specs:∀ f sp,noSpec f = some sp → SpecOk Tryd.prog noGlob f sp:=fun _ _ h=>by cases h
theorem no_loops (spec:FuncId → Option Eng.Spec):LoopsOk (cfg spec noLoop) noGlob:=LoopsOk.none (fun _ _=>rfl)
noncomputable def goL (spec:FuncId → Option Eng.Spec) (loop:FuncId → Nat → Option LSpec) (f i:Nat) (F:Fr) (S:St):Option (Out × Fr × St):=exec (cfg spec loop) 100000 (loopIn Tryd.prog f i) ⟨acall (cfg spec loop) 20 100000,nv f,keep f,dyn f,loop f⟩ F S
theorem goL_ok {spec:FuncId → Option Eng.Spec} {loop:FuncId → Nat → Option LSpec} (hs:∀ f sp,spec f = some sp → SpecOk Tryd.prog noGlob f sp) (hl:LoopsOk (cfg spec loop) noGlob) (f i:Nat) (hf:Fine f) (hi:i < (loopsIn Tryd.prog f).length) :
 RunOk Tryd.prog noGlob (nv f) (ntmpsIn Tryd.prog f) (loopIn Tryd.prog f i) (goL spec loop f i):=
 exec_loop (C:=cfg spec loop) rfl (acall_ok (C:=cfg spec loop) rfl methOk mixed (fine_cfg spec loop) SeatCo.plain hl (fun f sp h args S v S' hc=>callSpec_ok (hs f sp h) args S v S' hc) 100000 20) methOk mixed hl ((fnOk_any spec loop f).trans hf) 100000 i hi
def Told (f i:Nat) (sp:LSpec):Prop:=RunOk Tryd.prog noGlob (nv f) (ntmpsIn Tryd.prog f) (.loop (loopIn Tryd.prog f i)) sp
theorem all_true_cons {b:Bool} {l:List Bool} (h:b = true) (k:∀ x ∈ l,x = true):∀ x ∈ b :: l,x = true:=by
 intro x hx
 rcases List.mem_cons.1 hx with rfl | hx
 ·exact h
 ·exact k x hx
theorem all_true_nil:∀ x ∈ ([]:List Bool),x = true:=fun x hx=>by cases hx
end
end Go.Proofs.YtineimjmnbjdlaaDoor

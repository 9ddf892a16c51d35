/- An interpreter of the model's code over abstract values, proved sound, and a walk in company by it: part of the proof of FnArgon2Start. No condition. -/
import Derived.Test.YtineimjmnbjdlaaDoorYH
set_option linter.unusedVariables false
set_option linter.unusedSectionVars false
set_option linter.unusedSimpArgs false
namespace Go.Proofs.YtineimjmnbjdlaaDoor
section
open Go.Eng
variable [RowAddr] [Co] [SeatCo]
def setX0 (X T:Vec 64) (ob oc:Nat) (i:Int):Vec 64:=T.set (0 + i.toNat * 1) (X.l.getD (ob + i.toNat * 1) 0#64 ^^^ X.l.getD (oc + i.toNat * 1) 0#64)
def setX3 (X T:Vec 64) (oa ob oc:Nat) (i:Int):Vec 64:=X.set (oa + i.toNat * 1) (X.l.getD (oa + i.toNat * 1) 0#64 ^^^ ((X.l.getD (ob + i.toNat * 1) 0#64 ^^^ X.l.getD (oc + i.toNat * 1) 0#64) ^^^ T.l.getD (0 + i.toNat * 1) 0#64))
theorem setX0_n (X T:Vec 64) (ob oc:Nat) (i:Int):(setX0 X T ob oc i).n = T.n:=rfl
theorem setX3_n (X T:Vec 64) (oa ob oc:Nat) (i:Int):(setX3 X T oa ob oc i).n = X.n:=rfl
structure kx0D where
 X:Vec 64
 T:Vec 64
 oa:Nat
 ob:Nat
 oc:Nat
 i:Int
def kx0_st (d:kx0D):Fr × List Blk:=
 match d with
 | ⟨X,T,oa,ob,oc,i⟩=>(⟨[(.ref (.ptr 0 (.s oa))),(.ref (.ptr 0 (.s ob))),(.ref (.ptr 0 (.s oc))),(.atom (.bool (.c true))),(.atom .undef),(.atom .undef),(.atom .undef),(.atom .undef),(.ref (.ptr 1 (.c 0))),(.atom .undef),(.atom .undef),(.atom .undef),(.atom .undef),(.atom .undef)],[⟨14,(.num (.int .i64 (.s i)))⟩]⟩,[⟨(.b64 X),.own⟩,⟨(.b64 T),.own⟩])
def kx0_next (d:kx0D):kx0D:=
 match d with
 | ⟨X,T,oa,ob,oc,i⟩=>⟨X,setX0 X T ob oc i,oa,ob,oc,i + 1⟩
def kx0_rd (F:Fr) (K:List Blk):Option kx0D:=
 match F with
 | ⟨[(.ref (.ptr 0 (.s oa))),(.ref (.ptr 0 (.s ob))),(.ref (.ptr 0 (.s oc))),(.atom (.bool (.c true))),(.atom .undef),(.atom .undef),(.atom .undef),(.atom .undef),(.ref (.ptr 1 (.c 0))),(.atom .undef),(.atom .undef),(.atom .undef),(.atom .undef),(.atom .undef)],[⟨14,(.num (.int .i64 (.s i)))⟩]⟩=>
  match K with
  | [⟨(.b64 X),.own⟩,⟨(.b64 T),.own⟩]=>some ⟨X,T,oa,ob,oc,i⟩
  | _=>none
 | _=>none
def kx0:LoopP kx0D where
 pat:=⟨[(.ptr 0 (.s 0)),(.ptr 0 (.s 0)),(.ptr 0 (.s 0)),(.bool (.c true)),.undef,.undef,.undef,.undef,(.ptr 1 (.c 0)),.undef,.undef,.undef,.undef,.undef],[⟨14,(.int .i64 (.s 0))⟩]⟩
 patH:=[⟨(.b64 (Vec.zero 64 0)),.own⟩,⟨(.b64 (Vec.zero 64 0)),.own⟩]
 gh:=[]
 read:=kx0_rd
 st:=kx0_st
 next:=kx0_next
 rem:=fun ⟨_,_,_,_,_,i⟩=>(128 - i).toNat
 good:=fun ⟨X,T,oa,ob,oc,i⟩=>decide (0 ≤ i ∧ i ≤ 128 ∧ T.n = 128 ∧ oa + 128 ≤ X.n ∧ ob + 128 ≤ X.n ∧ oc + 128 ≤ X.n)
 out:=.exit 0
 fin:=kx0_st
theorem kx0_round (X T:Vec 64) (oa ob oc:Nat) (i:Int):ranAs ((kx0.st ⟨X,T,oa,ob,oc,i⟩).2.length - kx0.gh.length) (some [0,1]) (kx0.st (kx0_next ⟨X,T,oa,ob,oc,i⟩)) (goL noSpec noLoop 58 0 (kx0.st ⟨X,T,oa,ob,oc,i⟩).1 ⟨(kx0.st ⟨X,T,oa,ob,oc,i⟩).2,big,[true],[]⟩) = some (.normal,(kx0.st (kx0_next ⟨X,T,oa,ob,oc,i⟩)),[decide ((((-9223372036854775808):Int) ≤ (i + 1) ∧ (i + 1) ≤ 9223372036854775807)),decide ((0 + (((i):Int).toNat * 1)) < T.n),(decide ((0:Int) ≤ i) && decide (i < ((128:Nat):Int))),decide ((oc + (((i):Int).toNat * 1)) < X.n),(decide ((0:Int) ≤ i) && decide (i < ((128:Nat):Int))),decide ((ob + (((i):Int).toNat * 1)) < X.n),(decide ((0:Int) ≤ i) && decide (i < ((128:Nat):Int))),(decide (i < 128) == true)]):=by kernel_rfl
theorem kx0_end (X T:Vec 64) (oa ob oc:Nat) (i:Int):ranAs ((kx0.st ⟨X,T,oa,ob,oc,i⟩).2.length - kx0.gh.length) none (kx0.fin ⟨X,T,oa,ob,oc,i⟩) (goL noSpec noLoop 58 0 (kx0.st ⟨X,T,oa,ob,oc,i⟩).1 ⟨(kx0.st ⟨X,T,oa,ob,oc,i⟩).2,big,[false],[]⟩) = some (kx0.out,(kx0.fin ⟨X,T,oa,ob,oc,i⟩),[(decide (i < 128) == false)]):=by kernel_rfl
set_option maxRecDepth 100000 in
theorem kx0_read (F:Fr) (K:List Blk) (d:kx0D) (h:kx0.read F K = some d):(F,K) = kx0.st d:=by
 replace h:kx0_rd F K = some d:=h
 unfold kx0_rd at h
 split at h
 case h_2=>cases h
 split at h
 case h_2=>cases h
 injection h with h;subst h
 rfl
theorem kx0_body:RunOk Tryd.prog noGlob (nv 58) (ntmpsIn Tryd.prog 58) (loopIn Tryd.prog 58 0) (goL noSpec noLoop 58 0):=goL_ok no_specs (no_loops _) 58 0 fine58 (by rw [show (loopsIn Tryd.prog 58).length = 5 by kernel_rfl];omega)
theorem kx0_toldL:LoopOk Tryd.prog noGlob (nv 58) (ntmpsIn Tryd.prog 58) (loopIn Tryd.prog 58 0) kx0.T.told:=by
 refine kx0.ran kx0_body (by intro k hk;have hk:k ∈ ([]:List Blk):=hk;cases hk) (by intro h;cases h) kx0_read ?_ ?_
 ·rintro ⟨X,T,oa,ob,oc,i⟩ kk hg hr
  have hg:0 ≤ i ∧ i ≤ 128 ∧ T.n = 128 ∧ oa + 128 ≤ X.n ∧ ob + 128 ≤ X.n ∧ oc + 128 ≤ X.n:=of_decide_eq_true hg
  have hr:(128 - i).toNat = kk + 1:=hr
  have en:kx0.next ⟨X,T,oa,ob,oc,i⟩ = kx0_next ⟨X,T,oa,ob,oc,i⟩:=rfl
  rw [en]
  refine ⟨⟨[true],(some [0,1]),_,kx0_round X T oa ob oc i,?_⟩,?_,?_,(show (kx0.st (kx0_next ⟨X,T,oa,ob,oc,i⟩)).2.length = 2 by kernel_rfl).trans (show (kx0.st ⟨X,T,oa,ob,oc,i⟩).2.length = 2 by kernel_rfl).symm⟩
  ·repeat' (refine all_true_cons ?_ ?_)
   all_goals first | exact all_true_nil | rfl | (simp only [bq] <;> omega)
  ·have e:kx0.good (kx0_next ⟨X,T,oa,ob,oc,i⟩) = decide (0 ≤ (i + 1:Int) ∧ (i + 1:Int) ≤ 128 ∧ (setX0 X T ob oc i:Vec 64).n = 128 ∧ oa + 128 ≤ X.n ∧ ob + 128 ≤ X.n ∧ oc + 128 ≤ X.n):=by kernel_rfl
   refine e.trans (decide_eq_true ?_)
   have e1:=setX0_n X T ob oc i;omega
  ·have e:kx0.rem (kx0_next ⟨X,T,oa,ob,oc,i⟩) = ((128 - (i + 1:Int)).toNat):=by kernel_rfl
   refine e.trans ?_
   omega
 ·rintro ⟨X,T,oa,ob,oc,i⟩ hg hr
  have hg:0 ≤ i ∧ i ≤ 128 ∧ T.n = 128 ∧ oa + 128 ≤ X.n ∧ ob + 128 ≤ X.n ∧ oc + 128 ≤ X.n:=of_decide_eq_true hg
  have hr:(128 - i).toNat = 0:=hr
  refine ⟨[false],none,_,kx0_end X T oa ob oc i,?_⟩
  repeat' (refine all_true_cons ?_ ?_)
  all_goals first | exact all_true_nil | rfl | (simp only [bq] <;> omega)
def kx0_spec:LSpec:=kx0.T.told
theorem kx0_told:Told 58 0 kx0_spec:=kx0_toldL.run
structure kx3D where
 X:Vec 64
 T:Vec 64
 oa:Nat
 ob:Nat
 oc:Nat
 i:Int
def kx3_st (d:kx3D):Fr × List Blk:=
 match d with
 | ⟨X,T,oa,ob,oc,i⟩=>(⟨[(.ref (.ptr 0 (.s oa))),(.ref (.ptr 0 (.s ob))),(.ref (.ptr 0 (.s oc))),(.atom (.bool (.c true))),(.atom .undef),(.atom .undef),(.atom .undef),(.atom .undef),(.ref (.ptr 1 (.c 0))),(.atom .undef),(.atom .undef),(.atom .undef),(.atom .undef),(.atom .undef)],[⟨144,(.num (.int .i64 (.s i)))⟩]⟩,[⟨(.b64 X),.own⟩,⟨(.b64 T),.own⟩])
def kx3_next (d:kx3D):kx3D:=
 match d with
 | ⟨X,T,oa,ob,oc,i⟩=>⟨setX3 X T oa ob oc i,T,oa,ob,oc,i + 1⟩
def kx3_rd (F:Fr) (K:List Blk):Option kx3D:=
 match F with
 | ⟨[(.ref (.ptr 0 (.s oa))),(.ref (.ptr 0 (.s ob))),(.ref (.ptr 0 (.s oc))),(.atom (.bool (.c true))),(.atom .undef),(.atom .undef),(.atom .undef),(.atom .undef),(.ref (.ptr 1 (.c 0))),(.atom .undef),(.atom .undef),(.atom .undef),(.atom .undef),(.atom .undef)],[⟨144,(.num (.int .i64 (.s i)))⟩]⟩=>
  match K with
  | [⟨(.b64 X),.own⟩,⟨(.b64 T),.own⟩]=>some ⟨X,T,oa,ob,oc,i⟩
  | _=>none
 | _=>none
def kx3:LoopP kx3D where
 pat:=⟨[(.ptr 0 (.s 0)),(.ptr 0 (.s 0)),(.ptr 0 (.s 0)),(.bool (.c true)),.undef,.undef,.undef,.undef,(.ptr 1 (.c 0)),.undef,.undef,.undef,.undef,.undef],[⟨144,(.int .i64 (.s 0))⟩]⟩
 patH:=[⟨(.b64 (Vec.zero 64 0)),.own⟩,⟨(.b64 (Vec.zero 64 0)),.own⟩]
 gh:=[]
 read:=kx3_rd
 st:=kx3_st
 next:=kx3_next
 rem:=fun ⟨_,_,_,_,_,i⟩=>(128 - i).toNat
 good:=fun ⟨X,T,oa,ob,oc,i⟩=>decide (0 ≤ i ∧ i ≤ 128 ∧ T.n = 128 ∧ oa + 128 ≤ X.n ∧ ob + 128 ≤ X.n ∧ oc + 128 ≤ X.n)
 out:=.exit 6
 fin:=kx3_st
theorem kx3_round (X T:Vec 64) (oa ob oc:Nat) (i:Int):ranAs ((kx3.st ⟨X,T,oa,ob,oc,i⟩).2.length - kx3.gh.length) (some [0,1]) (kx3.st (kx3_next ⟨X,T,oa,ob,oc,i⟩)) (goL noSpec noLoop 58 3 (kx3.st ⟨X,T,oa,ob,oc,i⟩).1 ⟨(kx3.st ⟨X,T,oa,ob,oc,i⟩).2,big,[true],[]⟩) = some (.normal,(kx3.st (kx3_next ⟨X,T,oa,ob,oc,i⟩)),[decide ((((-9223372036854775808):Int) ≤ (i + 1) ∧ (i + 1) ≤ 9223372036854775807)),decide ((oa + (((i):Int).toNat * 1)) < X.n),(decide ((0:Int) ≤ i) && decide (i < ((128:Nat):Int))),decide ((0 + (((i):Int).toNat * 1)) < T.n),(decide ((0:Int) ≤ i) && decide (i < ((128:Nat):Int))),decide ((oc + (((i):Int).toNat * 1)) < X.n),(decide ((0:Int) ≤ i) && decide (i < ((128:Nat):Int))),decide ((ob + (((i):Int).toNat * 1)) < X.n),(decide ((0:Int) ≤ i) && decide (i < ((128:Nat):Int))),decide ((oa + (((i):Int).toNat * 1)) < X.n),(decide ((0:Int) ≤ i) && decide (i < ((128:Nat):Int))),(decide (i < 128) == true)]):=by kernel_rfl
theorem kx3_end (X T:Vec 64) (oa ob oc:Nat) (i:Int):ranAs ((kx3.st ⟨X,T,oa,ob,oc,i⟩).2.length - kx3.gh.length) none (kx3.fin ⟨X,T,oa,ob,oc,i⟩) (goL noSpec noLoop 58 3 (kx3.st ⟨X,T,oa,ob,oc,i⟩).1 ⟨(kx3.st ⟨X,T,oa,ob,oc,i⟩).2,big,[false],[]⟩) = some (kx3.out,(kx3.fin ⟨X,T,oa,ob,oc,i⟩),[(decide (i < 128) == false)]):=by kernel_rfl
set_option maxRecDepth 100000 in
theorem kx3_read (F:Fr) (K:List Blk) (d:kx3D) (h:kx3.read F K = some d):(F,K) = kx3.st d:=by
 replace h:kx3_rd F K = some d:=h
 unfold kx3_rd at h
 split at h
 case h_2=>cases h
 split at h
 case h_2=>cases h
 injection h with h;subst h
 rfl
theorem kx3_body:RunOk Tryd.prog noGlob (nv 58) (ntmpsIn Tryd.prog 58) (loopIn Tryd.prog 58 3) (goL noSpec noLoop 58 3):=goL_ok no_specs (no_loops _) 58 3 fine58 (by rw [show (loopsIn Tryd.prog 58).length = 5 by kernel_rfl];omega)
theorem kx3_toldL:LoopOk Tryd.prog noGlob (nv 58) (ntmpsIn Tryd.prog 58) (loopIn Tryd.prog 58 3) kx3.T.told:=by
 refine kx3.ran kx3_body (by intro k hk;have hk:k ∈ ([]:List Blk):=hk;cases hk) (by intro h;cases h) kx3_read ?_ ?_
 ·rintro ⟨X,T,oa,ob,oc,i⟩ kk hg hr
  have hg:0 ≤ i ∧ i ≤ 128 ∧ T.n = 128 ∧ oa + 128 ≤ X.n ∧ ob + 128 ≤ X.n ∧ oc + 128 ≤ X.n:=of_decide_eq_true hg
  have hr:(128 - i).toNat = kk + 1:=hr
  have en:kx3.next ⟨X,T,oa,ob,oc,i⟩ = kx3_next ⟨X,T,oa,ob,oc,i⟩:=rfl
  rw [en]
  refine ⟨⟨[true],(some [0,1]),_,kx3_round X T oa ob oc i,?_⟩,?_,?_,(show (kx3.st (kx3_next ⟨X,T,oa,ob,oc,i⟩)).2.length = 2 by kernel_rfl).trans (show (kx3.st ⟨X,T,oa,ob,oc,i⟩).2.length = 2 by kernel_rfl).symm⟩
  ·repeat' (refine all_true_cons ?_ ?_)
   all_goals first | exact all_true_nil | rfl | (simp only [bq] <;> omega)
  ·have e:kx3.good (kx3_next ⟨X,T,oa,ob,oc,i⟩) = decide (0 ≤ (i + 1:Int) ∧ (i + 1:Int) ≤ 128 ∧ T.n = 128 ∧ oa + 128 ≤ (setX3 X T oa ob oc i:Vec 64).n ∧ ob + 128 ≤ (setX3 X T oa ob oc i:Vec 64).n ∧ oc + 128 ≤ (setX3 X T oa ob oc i:Vec 64).n):=by kernel_rfl
   refine e.trans (decide_eq_true ?_)
   have e1:=setX3_n X T oa ob oc i;omega
  ·have e:kx3.rem (kx3_next ⟨X,T,oa,ob,oc,i⟩) = ((128 - (i + 1:Int)).toNat):=by kernel_rfl
   refine e.trans ?_
   omega
 ·rintro ⟨X,T,oa,ob,oc,i⟩ hg hr
  have hg:0 ≤ i ∧ i ≤ 128 ∧ T.n = 128 ∧ oa + 128 ≤ X.n ∧ ob + 128 ≤ X.n ∧ oc + 128 ≤ X.n:=of_decide_eq_true hg
  have hr:(128 - i).toNat = 0:=hr
  refine ⟨[false],none,_,kx3_end X T oa ob oc i,?_⟩
  repeat' (refine all_true_cons ?_ ?_)
  all_goals first | exact all_true_nil | rfl | (simp only [bq] <;> omega)
def kx3_spec:LSpec:=kx3.T.told
theorem kx3_told:Told 58 3 kx3_spec:=kx3_toldL.run
def kxs:FuncId → Nat → Option LSpec
 | 58,2=>some kx0_spec
 | 58,16=>some kx3_spec
 | _,_=>none
theorem kxs_len:(loopsIn Tryd.prog 58).length = 5:=by kernel_rfl
theorem kxs_ok (spec:FuncId → Option Eng.Spec):LoopsOk (cfg spec kxs) noGlob:=by
 refine LoopsOk.of fun f=>?_
 by_cases hf:f = 58
 ·subst hf
  refine .inr ⟨by kernel_rfl,fun i hi sp hsp=>?_⟩
  have hi:i < (loopsIn Tryd.prog 58).length:=hi
  rw [kxs_len] at hi
  have hi3:i = 0 ∨ i = 1 ∨ i = 2 ∨ i = 3 ∨ i = 4:=by omega
  rcases hi3 with rfl | rfl | rfl | rfl | rfl
  ·have e:(firstRid (loopIn Tryd.prog 58 0)).bind (kxs 58) = some kx0_spec:=by kernel_rfl
   obtain rfl:=Option.some.inj (e.symm.trans hsp)
   exact kx0_told
  ·have e:(firstRid (loopIn Tryd.prog 58 1)).bind (kxs 58) = none:=by kernel_rfl
   have hsp:(firstRid (loopIn Tryd.prog 58 1)).bind (kxs 58) = some sp:=hsp
   rw [e] at hsp;cases hsp
  ·have e:(firstRid (loopIn Tryd.prog 58 2)).bind (kxs 58) = none:=by kernel_rfl
   have hsp:(firstRid (loopIn Tryd.prog 58 2)).bind (kxs 58) = some sp:=hsp
   rw [e] at hsp;cases hsp
  ·have e:(firstRid (loopIn Tryd.prog 58 3)).bind (kxs 58) = some kx3_spec:=by kernel_rfl
   obtain rfl:=Option.some.inj (e.symm.trans hsp)
   exact kx3_told
  ·have e:(firstRid (loopIn Tryd.prog 58 4)).bind (kxs 58) = none:=by kernel_rfl
   have hsp:(firstRid (loopIn Tryd.prog 58 4)).bind (kxs 58) = some sp:=hsp
   rw [e] at hsp;cases hsp
 ·refine .inl fun r=>?_
  show kxs f r = none
  unfold kxs
  split
  ·exact absurd rfl hf
  ·exact absurd rfl hf
  ·rfl
end
section
open Go.Eng
variable [RowAddr] [Co] [SeatCo]
def z58 (X:Vec 64) (oa ob oc:Nat):kx0D:=iter kx0_next ((128 - (0:Int)).toNat) ⟨X,Vec.of (List.replicate 128 0#64),oa,ob,oc,0⟩
def y58 (X:Vec 64) (oa ob oc:Nat):kx3D:=iter kx3_next ((128 - (0:Int)).toNat) ⟨(z58 X oa ob oc).X,foldS ixS (z58 X oa ob oc).T,oa,ob,oc,0⟩
def xrS (X:Vec 64) (oa ob oc:Nat):Vec 64:=(y58 X oa ob oc).X
theorem kx0_it (X T:Vec 64) (oa ob oc:Nat):∀ k,∃ T',iter kx0_next k ⟨X,T,oa,ob,oc,0⟩ = ⟨X,T',oa,ob,oc,(k:Int)⟩ ∧ T'.n = T.n
 | 0=>⟨T,rfl,rfl⟩
 | k + 1=>by
  obtain ⟨T',e,h⟩:=kx0_it X T oa ob oc k
  exact ⟨setX0 X T' ob oc k,by rw [iter_succ,e];rfl,h⟩
theorem z58_eq (X:Vec 64) (oa ob oc:Nat):(z58 X oa ob oc).X = X ∧ (z58 X oa ob oc).T.n = 128 ∧ (z58 X oa ob oc).oa = oa ∧ (z58 X oa ob oc).ob = ob ∧ (z58 X oa ob oc).oc = oc:=by
 obtain ⟨T',e,h⟩:=kx0_it X (Vec.of (List.replicate 128 0#64)) oa ob oc 128
 have hn:(Vec.of (List.replicate 128 0#64)).n = 128:=by
  show (List.replicate 128 0#64).length = 128
  rw [List.length_replicate]
 have e':z58 X oa ob oc = ⟨X,T',oa,ob,oc,((128:Nat):Int)⟩:=e
 rw [e']
 exact ⟨rfl,h.trans hn,rfl,rfl,rfl⟩
structure c58xD where
 X:Vec 64
 oa:Nat
 ob:Nat
 oc:Nat
def c58x_rd (a:List AV) (K:List Blk):Option c58xD:=
 match a with
 | [(.ref (.ptr 0 (.s oa))),(.ref (.ptr 0 (.s ob))),(.ref (.ptr 0 (.s oc))),(.atom (.bool (.c true)))]=>
  match K with
  | [⟨(.b64 X),.own⟩]=>some ⟨X,oa,ob,oc⟩
  | _=>none
 | _=>none
def c58x:Ct c58xD where
 pat:=[(.ptr 0 (.s 0)),(.ptr 0 (.s 0)),(.ptr 0 (.s 0)),(.bool (.c true))]
 patH:=[⟨(.b64 (Vec.zero 64 0)),.own⟩]
 read:=c58x_rd
 args:=fun ⟨_,oa,ob,oc⟩=>[(.ptr 0 (.s oa)),(.ptr 0 (.s ob)),(.ptr 0 (.s oc)),(.bool (.c true))]
 heap:=fun ⟨X,_,_,_⟩=>[⟨(.b64 X),.own⟩]
 out:=fun ⟨X,oa,ob,oc⟩=>[⟨(.b64 (xrS X oa ob oc)),.own⟩]
 val:=fun ⟨_,_,_,_⟩=>(.tup [])
 good:=fun ⟨X,oa,ob,oc⟩=>decide (oa + 128 ≤ X.n ∧ ob + 128 ≤ X.n ∧ oc + 128 ≤ X.n)
theorem c58x_run (X:Vec 64) (oa ob oc:Nat):endsAs (c58x.heap ⟨X,oa,ob,oc⟩).length (some [0]) (c58x.out ⟨X,oa,ob,oc⟩) (c58x.val ⟨X,oa,ob,oc⟩) (goB specs58 kxs 58 (c58x.args ⟨X,oa,ob,oc⟩) ⟨c58x.heap ⟨X,oa,ob,oc⟩,big,[],[]⟩) = some ((c58x.out ⟨X,oa,ob,oc⟩),(c58x.val ⟨X,oa,ob,oc⟩),decide (((0:Int) ≤ 0 ∧ ((0:Int) ≤ 128 ∧ ((128:Nat) = 128 ∧ ((oa + 128) ≤ X.n ∧ ((ob + 128) ≤ X.n ∧ (oc + 128) ≤ X.n)))))) :: ((List.range 16).map (fun k=>inB (ixS.getD (15 - k) []) (foldS (ixS.take (15 - k)) (z58 X oa ob oc).T)) ++ [decide (((0:Int) ≤ 0 ∧ ((0:Int) ≤ 128 ∧ ((128:Nat) = 128 ∧ ((oa + 128) ≤ X.n ∧ ((ob + 128) ≤ X.n ∧ (oc + 128) ≤ X.n))))))])):=by kernel_rfl
set_option maxRecDepth 100000 in
theorem c58x_read (a:List AV) (K:List Blk) (d:c58xD) (h:c58x.read a K = some d):a = c58x.args d ∧ K = c58x.heap d:=by
 replace h:c58x_rd a K = some d:=h
 unfold c58x_rd at h
 split at h
 case h_2=>cases h
 split at h
 case h_2=>cases h
 injection h with h;subst h
 exact ⟨rfl,rfl⟩
theorem c58x_ok:SpecOk Tryd.prog noGlob 58 c58x.spec:=by
 refine c58x.ok (goB_ok specs58_ok (kxs_ok _)) c58x_read ?_
 rintro ⟨X,oa,ob,oc⟩ hg
 have hg:oa + 128 ≤ X.n ∧ ob + 128 ≤ X.n ∧ oc + 128 ≤ X.n:=of_decide_eq_true hg
 refine ⟨[],(some [0]),_,c58x_run X oa ob oc,?_⟩
 obtain ⟨e1,e2,e3,e4,e5⟩:=z58_eq X oa ob oc
 refine all_true_cons ?_ fun b hb=>?_
 ·(simp only [Bool.and_eq_true,decide_eq_true_eq,beq_iff_eq,true_and,and_true,foldS_n,e1,e2,e3,e4,e5] <;> omega)
 ·rw [List.mem_append,List.mem_map,List.mem_singleton] at hb
  rcases hb with ⟨k,hk,rfl⟩ | rfl
  ·exact inB_ok _ e2 _ k (List.mem_range.mp hk)
  ·(simp only [Bool.and_eq_true,decide_eq_true_eq,beq_iff_eq,true_and,and_true,foldS_n,e1,e2,e3,e4,e5] <;> omega)
end
section
open Go.Eng
variable [RowAddr] [Co] [SeatCo]
def lwv (v:Vec 8) (o:Nat):BitVec 64:=lw8 (v.l.getD (o + 0) 0#8) (v.l.getD (o + 1) 0#8) (v.l.getD (o + 2) 0#8) (v.l.getD (o + 3) 0#8) (v.l.getD (o + 4) 0#8) (v.l.getD (o + 5) 0#8) (v.l.getD (o + 6) 0#8) (v.l.getD (o + 7) 0#8)
structure c45D where
 v:Vec 8
 o:Nat
 np:Nat
def c45_rd (a:List AV) (K:List Blk):Option c45D:=
 match a with
 | [(.agg []),(.ref (.sl 0 (.s o) (.s np) none))]=>
  match K with
  | [⟨(.b8 v),.ro⟩]=>some ⟨v,o,np⟩
  | _=>none
 | _=>none
def c45:Ct c45D where
 pat:=[(.agg []),(.sl 0 (.s 0) (.s 0) none)]
 patH:=[⟨(.b8 (Vec.zero 8 0)),.ro⟩]
 read:=c45_rd
 args:=fun ⟨_,o,np⟩=>[(.agg []),(.sl 0 (.s o) (.s np) none)]
 heap:=fun ⟨v,_,_⟩=>[⟨(.b8 v),.ro⟩]
 out:=fun ⟨v,_,_⟩=>[⟨(.b8 v),.ro⟩]
 val:=fun ⟨v,o,_⟩=>(.w64 (lwv v o))
 good:=fun ⟨v,o,np⟩=>decide (o + 8 ≤ v.n ∧ 8 ≤ np ∧ np ≤ 1099511627776)
theorem c45_run (v:Vec 8) (o np:Nat):endsAs (c45.heap ⟨v,o,np⟩).length (some [0]) (c45.out ⟨v,o,np⟩) (c45.val ⟨v,o,np⟩) (goB noSpec noLoop 45 (c45.args ⟨v,o,np⟩) ⟨c45.heap ⟨v,o,np⟩,big,[],[]⟩) = some ((c45.out ⟨v,o,np⟩),(c45.val ⟨v,o,np⟩),[decide ((o + 7) < v.n),(true && decide ((7:Int) < ((np:Nat):Int))),decide ((o + 6) < v.n),(true && decide ((6:Int) < ((np:Nat):Int))),decide ((o + 5) < v.n),(true && decide ((5:Int) < ((np:Nat):Int))),decide ((o + 4) < v.n),(true && decide ((4:Int) < ((np:Nat):Int))),decide ((o + 3) < v.n),(true && decide ((3:Int) < ((np:Nat):Int))),decide ((o + 2) < v.n),(true && decide ((2:Int) < ((np:Nat):Int))),decide ((o + 1) < v.n),(true && decide ((1:Int) < ((np:Nat):Int))),decide ((o + 0) < v.n),(true && decide ((0:Int) < ((np:Nat):Int))),decide ((o + 7) < v.n),(true && decide ((7:Int) < ((np:Nat):Int)))]):=by kernel_rfl
set_option maxRecDepth 100000 in
theorem c45_read (a:List AV) (K:List Blk) (d:c45D) (h:c45.read a K = some d):a = c45.args d ∧ K = c45.heap d:=by
 replace h:c45_rd a K = some d:=h
 unfold c45_rd at h
 split at h
 case h_2=>cases h
 split at h
 case h_2=>cases h
 injection h with h;subst h
 exact ⟨rfl,rfl⟩
theorem c45_ok:SpecOk Tryd.prog noGlob 45 c45.spec:=by
 refine c45.ok (goB_ok no_specs (no_loops _)) c45_read ?_
 rintro ⟨v,o,np⟩ hg
 have hg:o + 8 ≤ v.n ∧ 8 ≤ np ∧ np ≤ 1099511627776:=of_decide_eq_true hg
 refine ⟨[],(some [0]),_,c45_run v o np,?_⟩
 repeat' (refine all_true_cons ?_ ?_)
 all_goals first | exact all_true_nil | rfl | (simp only [bq] <;> omega)
def specs111:FuncId → Option Eng.Spec
 | 45=>some c45.spec
 | _=>none
theorem specs111_ok:∀ f sp,specs111 f = some sp → SpecOk Tryd.prog noGlob f sp:=by
 intro f sp h
 unfold specs111 at h
 split at h
 ·injection h with h;subst h;exact c45_ok
 ·cases h
def wrdL (v:Vec 8) (o:Nat) (n:Int):Vec 64:=Vec.of [lwv v (o + n.toNat),lwv v (o + (n + 8).toNat),lwv v (o + ((n + 8) + 8).toNat),lwv v (o + (((n + 8) + 8) + 8).toNat),lwv v (o + ((((n + 8) + 8) + 8) + 8).toNat),lwv v (o + (((((n + 8) + 8) + 8) + 8) + 8).toNat),lwv v (o + ((((((n + 8) + 8) + 8) + 8) + 8) + 8).toNat),lwv v (o + (((((((n + 8) + 8) + 8) + 8) + 8) + 8) + 8).toNat),lwv v (o + ((((((((n + 8) + 8) + 8) + 8) + 8) + 8) + 8) + 8).toNat),lwv v (o + (((((((((n + 8) + 8) + 8) + 8) + 8) + 8) + 8) + 8) + 8).toNat),lwv v (o + ((((((((((n + 8) + 8) + 8) + 8) + 8) + 8) + 8) + 8) + 8) + 8).toNat),lwv v (o + (((((((((((n + 8) + 8) + 8) + 8) + 8) + 8) + 8) + 8) + 8) + 8) + 8).toNat),lwv v (o + ((((((((((((n + 8) + 8) + 8) + 8) + 8) + 8) + 8) + 8) + 8) + 8) + 8) + 8).toNat),lwv v (o + (((((((((((((n + 8) + 8) + 8) + 8) + 8) + 8) + 8) + 8) + 8) + 8) + 8) + 8) + 8).toNat),lwv v (o + ((((((((((((((n + 8) + 8) + 8) + 8) + 8) + 8) + 8) + 8) + 8) + 8) + 8) + 8) + 8) + 8).toNat),lwv v (o + (((((((((((((((n + 8) + 8) + 8) + 8) + 8) + 8) + 8) + 8) + 8) + 8) + 8) + 8) + 8) + 8) + 8).toNat)]
structure kLD where
 h:H8
 c0:BitVec 64
 c1:BitVec 64
 d0:BitVec 64
 d1:BitVec 64
 sz:Int
 xb:Vec 8
 nx:Int
 kb:Vec 8
 v:Vec 8
 X:Vec 64
 o:Nat
 np:Nat
 n:Int
def kL_st (d:kLD):Fr × List Blk:=
 match d with
 | ⟨h,c0,c1,d0,d1,sz,xb,nx,kb,v,X,o,np,n⟩=>(⟨[(.ref (.ptr 0 (.c 0))),(.ref (.ptr 0 (.c 8))),(.num (.int .u64 (.c 0))),(.ref (.sl 1 (.s o) (.s np) none)),(.atom .undef),(.atom .undef),(.atom .undef),(.atom .undef),(.ref (.ptr 2 (.c 0))),(.num (.w64 c0)),(.num (.w64 c1)),(.num (.int .i64 (.s n))),(.atom .undef),(.atom .undef),(.atom .undef),(.atom .undef),(.atom .undef),(.atom .undef),(.atom .undef),(.atom .undef),(.atom .undef),(.atom .undef),(.atom .undef),(.atom .undef),(.atom .undef),(.atom .undef),(.atom .undef),(.atom .undef),(.atom .undef),(.atom .undef),(.atom .undef)],[]⟩,[⟨(.gen ([(.num (.w64 h.x0)),(.num (.w64 h.x1)),(.num (.w64 h.x2)),(.num (.w64 h.x3)),(.num (.w64 h.x4)),(.num (.w64 h.x5)),(.num (.w64 h.x6)),(.num (.w64 h.x7)),(.num (.w64 d0)),(.num (.w64 d1)),(.num (.int .i64 (.s sz)))] ++ c8v xb 128 ++ ([(.num (.int .i64 (.s nx)))] ++ c8v kb 128 ++ [(.num (.int .i64 (.c 0)))]))),.own⟩,⟨(.b8 v),.ro⟩,⟨(.gen (c64v X 16)),.own⟩])
def kL_next (d:kLD):kLD:=
 match d with
 | ⟨h,c0,c1,d0,d1,sz,xb,nx,kb,v,_,o,np,n⟩=>⟨b2 h (c0 + 128#64) c1 0#64 (wrdL v o n),c0 + 128#64,c1,d0,d1,sz,xb,nx,kb,v,wrdL v o n,o,np,((((((((((((((((n + 8) + 8) + 8) + 8) + 8) + 8) + 8) + 8) + 8) + 8) + 8) + 8) + 8) + 8) + 8) + 8)⟩
def kL_rd (F:Fr) (K:List Blk):Option kLD:=
 match F with
 | ⟨[(.ref (.ptr 0 (.c 0))),(.ref (.ptr 0 (.c 8))),(.num (.int .u64 (.c 0))),(.ref (.sl 1 (.s o) (.s np) none)),(.atom .undef),(.atom .undef),(.atom .undef),(.atom .undef),(.ref (.ptr 2 (.c 0))),(.num (.w64 c0)),(.num (.w64 c1)),(.num (.int .i64 (.s n))),(.atom .undef),(.atom .undef),(.atom .undef),(.atom .undef),(.atom .undef),(.atom .undef),(.atom .undef),(.atom .undef),(.atom .undef),(.atom .undef),(.atom .undef),(.atom .undef),(.atom .undef),(.atom .undef),(.atom .undef),(.atom .undef),(.atom .undef),(.atom .undef),(.atom .undef)],[]⟩=>
  match K with
  | [⟨(.gen ((.num (.w64 h0)) :: (.num (.w64 h1)) :: (.num (.w64 h2)) :: (.num (.w64 h3)) :: (.num (.w64 h4)) :: (.num (.w64 h5)) :: (.num (.w64 h6)) :: (.num (.w64 h7)) :: (.num (.w64 d0)) :: (.num (.w64 d1)) :: (.num (.int .i64 (.s sz))) :: ys_xb)),.own⟩,⟨(.b8 v),.ro⟩,⟨(.gen xs_X),.own⟩]=>
   (match rd8 128 (ys_xb.take 128),ys_xb.drop 128 with
   | some xb,((.num (.int .i64 (.s nx))) :: ys_kb)=>
   (match rd8 128 (ys_kb.take 128),ys_kb.drop 128 with
   | some kb,[(.num (.int .i64 (.c 0)))]=>
   (match rd64 16 xs_X with
   | some X=>some ⟨⟨h0,h1,h2,h3,h4,h5,h6,h7⟩,c0,c1,d0,d1,sz,xb,nx,kb,v,X,o,np,n⟩
   | none=>none)
   | _,_=>none)
   | _,_=>none)
  | _=>none
 | _=>none
def kL:LoopP kLD where
 pat:=⟨[(.ptr 0 (.c 0)),(.ptr 0 (.c 8)),(.int .u64 (.c 0)),(.sl 1 (.s 0) (.s 0) none),.undef,.undef,.undef,.undef,(.ptr 2 (.c 0)),(.w64 0#64),(.w64 0#64),(.int .i64 (.s 0)),.undef,.undef,.undef,.undef,.undef,.undef,.undef,.undef,.undef,.undef,.undef,.undef,.undef,.undef,.undef,.undef,.undef,.undef,.undef],[]⟩
 patH:=[⟨(.gen ([(.w64 0#64),(.w64 0#64),(.w64 0#64),(.w64 0#64),(.w64 0#64),(.w64 0#64),(.w64 0#64),(.w64 0#64),(.w64 0#64),(.w64 0#64),(.int .i64 (.s 0))] ++ List.replicate 128 (.w8 0#8) ++ ([(.int .i64 (.s 0))] ++ List.replicate 128 (.w8 0#8) ++ [(.int .i64 (.c 0))]))),.own⟩,⟨(.b8 (Vec.zero 8 0)),.ro⟩,⟨(.gen (List.replicate 16 (.w64 0#64))),.own⟩]
 gh:=[]
 read:=kL_rd
 st:=kL_st
 next:=kL_next
 rem:=fun ⟨_,_,_,_,_,_,_,_,_,_,_,_,np,n⟩=>((np:Int) - n).toNat / 128
 good:=fun ⟨_,c0,_,_,_,_,_,_,_,v,_,o,np,n⟩=>decide (o + np ≤ v.n ∧ np ≤ 1099511627776 ∧ 0 ≤ n ∧ n ≤ np ∧ n % 128 = 0 ∧ np % 128 = 0 ∧ (c0.toNat:Int) + ((np:Int) - n) ≤ 1152921504606846976)
 out:=.exit 0
 fin:=kL_st
def n8 (n:Int):Nat → Int
 | 0=>n
 | k + 1=>n8 n k + 8
theorem n8_eq (n:Int):∀ k:Nat,n8 n k = n + 8 * k
 | 0=>by unfold n8;omega
 | k + 1=>by unfold n8;rw [n8_eq n k];omega
theorem kL_round (h:H8) (c0 c1 d0 d1:BitVec 64) (sz:Int) (xb:Vec 8) (nx:Int) (kb v:Vec 8) (X:Vec 64) (o np:Nat) (n:Int):ranAs ((kL.st ⟨h,c0,c1,d0,d1,sz,xb,nx,kb,v,X,o,np,n⟩).2.length - kL.gh.length) (some [0,1,2]) (kL.st (kL_next ⟨h,c0,c1,d0,d1,sz,xb,nx,kb,v,X,o,np,n⟩)) (goL specs111 noLoop 111 0 (kL.st ⟨h,c0,c1,d0,d1,sz,xb,nx,kb,v,X,o,np,n⟩).1 ⟨(kL.st ⟨h,c0,c1,d0,d1,sz,xb,nx,kb,v,X,o,np,n⟩).2,big,[true,false],[]⟩) = some (.normal,(kL.st (kL_next ⟨h,c0,c1,d0,d1,sz,xb,nx,kb,v,X,o,np,n⟩)),[decide ((((-9223372036854775808):Int) ≤ (n8 n 16) ∧ (n8 n 16) ≤ 9223372036854775807)),decide ((((o + (((n8 n 15)):Int).toNat) + 8) ≤ v.n ∧ ((8:Nat) ≤ (np - (((n8 n 15)):Int).toNat) ∧ (np - (((n8 n 15)):Int).toNat) ≤ 1099511627776))),((decide ((0:Int) ≤ (n8 n 15)) && decide ((n8 n 15) ≤ ((np:Nat):Int))) && decide (((np:Nat):Int) ≤ ((np:Nat):Int))),decide ((((-9223372036854775808):Int) ≤ (n8 n 15) ∧ (n8 n 15) ≤ 9223372036854775807)),decide ((((o + (((n8 n 14)):Int).toNat) + 8) ≤ v.n ∧ ((8:Nat) ≤ (np - (((n8 n 14)):Int).toNat) ∧ (np - (((n8 n 14)):Int).toNat) ≤ 1099511627776))),((decide ((0:Int) ≤ (n8 n 14)) && decide ((n8 n 14) ≤ ((np:Nat):Int))) && decide (((np:Nat):Int) ≤ ((np:Nat):Int))),decide ((((-9223372036854775808):Int) ≤ (n8 n 14) ∧ (n8 n 14) ≤ 9223372036854775807)),decide ((((o + (((n8 n 13)):Int).toNat) + 8) ≤ v.n ∧ ((8:Nat) ≤ (np - (((n8 n 13)):Int).toNat) ∧ (np - (((n8 n 13)):Int).toNat) ≤ 1099511627776))),((decide ((0:Int) ≤ (n8 n 13)) && decide ((n8 n 13) ≤ ((np:Nat):Int))) && decide (((np:Nat):Int) ≤ ((np:Nat):Int))),decide ((((-9223372036854775808):Int) ≤ (n8 n 13) ∧ (n8 n 13) ≤ 9223372036854775807)),decide ((((o + (((n8 n 12)):Int).toNat) + 8) ≤ v.n ∧ ((8:Nat) ≤ (np - (((n8 n 12)):Int).toNat) ∧ (np - (((n8 n 12)):Int).toNat) ≤ 1099511627776))),((decide ((0:Int) ≤ (n8 n 12)) && decide ((n8 n 12) ≤ ((np:Nat):Int))) && decide (((np:Nat):Int) ≤ ((np:Nat):Int))),decide ((((-9223372036854775808):Int) ≤ (n8 n 12) ∧ (n8 n 12) ≤ 9223372036854775807)),decide ((((o + (((n8 n 11)):Int).toNat) + 8) ≤ v.n ∧ ((8:Nat) ≤ (np - (((n8 n 11)):Int).toNat) ∧ (np - (((n8 n 11)):Int).toNat) ≤ 1099511627776))),((decide ((0:Int) ≤ (n8 n 11)) && decide ((n8 n 11) ≤ ((np:Nat):Int))) && decide (((np:Nat):Int) ≤ ((np:Nat):Int))),decide ((((-9223372036854775808):Int) ≤ (n8 n 11) ∧ (n8 n 11) ≤ 9223372036854775807)),decide ((((o + (((n8 n 10)):Int).toNat) + 8) ≤ v.n ∧ ((8:Nat) ≤ (np - (((n8 n 10)):Int).toNat) ∧ (np - (((n8 n 10)):Int).toNat) ≤ 1099511627776))),((decide ((0:Int) ≤ (n8 n 10)) && decide ((n8 n 10) ≤ ((np:Nat):Int))) && decide (((np:Nat):Int) ≤ ((np:Nat):Int))),decide ((((-9223372036854775808):Int) ≤ (n8 n 10) ∧ (n8 n 10) ≤ 9223372036854775807)),decide ((((o + (((n8 n 9)):Int).toNat) + 8) ≤ v.n ∧ ((8:Nat) ≤ (np - (((n8 n 9)):Int).toNat) ∧ (np - (((n8 n 9)):Int).toNat) ≤ 1099511627776))),((decide ((0:Int) ≤ (n8 n 9)) && decide ((n8 n 9) ≤ ((np:Nat):Int))) && decide (((np:Nat):Int) ≤ ((np:Nat):Int))),decide ((((-9223372036854775808):Int) ≤ (n8 n 9) ∧ (n8 n 9) ≤ 9223372036854775807)),decide ((((o + (((n8 n 8)):Int).toNat) + 8) ≤ v.n ∧ ((8:Nat) ≤ (np - (((n8 n 8)):Int).toNat) ∧ (np - (((n8 n 8)):Int).toNat) ≤ 1099511627776))),((decide ((0:Int) ≤ (n8 n 8)) && decide ((n8 n 8) ≤ ((np:Nat):Int))) && decide (((np:Nat):Int) ≤ ((np:Nat):Int))),decide ((((-9223372036854775808):Int) ≤ (n8 n 8) ∧ (n8 n 8) ≤ 9223372036854775807)),decide ((((o + (((n8 n 7)):Int).toNat) + 8) ≤ v.n ∧ ((8:Nat) ≤ (np - (((n8 n 7)):Int).toNat) ∧ (np - (((n8 n 7)):Int).toNat) ≤ 1099511627776))),((decide ((0:Int) ≤ (n8 n 7)) && decide ((n8 n 7) ≤ ((np:Nat):Int))) && decide (((np:Nat):Int) ≤ ((np:Nat):Int))),decide ((((-9223372036854775808):Int) ≤ (n8 n 7) ∧ (n8 n 7) ≤ 9223372036854775807)),decide ((((o + (((n8 n 6)):Int).toNat) + 8) ≤ v.n ∧ ((8:Nat) ≤ (np - (((n8 n 6)):Int).toNat) ∧ (np - (((n8 n 6)):Int).toNat) ≤ 1099511627776))),((decide ((0:Int) ≤ (n8 n 6)) && decide ((n8 n 6) ≤ ((np:Nat):Int))) && decide (((np:Nat):Int) ≤ ((np:Nat):Int))),decide ((((-9223372036854775808):Int) ≤ (n8 n 6) ∧ (n8 n 6) ≤ 9223372036854775807)),decide ((((o + (((n8 n 5)):Int).toNat) + 8) ≤ v.n ∧ ((8:Nat) ≤ (np - (((n8 n 5)):Int).toNat) ∧ (np - (((n8 n 5)):Int).toNat) ≤ 1099511627776))),((decide ((0:Int) ≤ (n8 n 5)) && decide ((n8 n 5) ≤ ((np:Nat):Int))) && decide (((np:Nat):Int) ≤ ((np:Nat):Int))),decide ((((-9223372036854775808):Int) ≤ (n8 n 5) ∧ (n8 n 5) ≤ 9223372036854775807)),decide ((((o + (((n8 n 4)):Int).toNat) + 8) ≤ v.n ∧ ((8:Nat) ≤ (np - (((n8 n 4)):Int).toNat) ∧ (np - (((n8 n 4)):Int).toNat) ≤ 1099511627776))),((decide ((0:Int) ≤ (n8 n 4)) && decide ((n8 n 4) ≤ ((np:Nat):Int))) && decide (((np:Nat):Int) ≤ ((np:Nat):Int))),decide ((((-9223372036854775808):Int) ≤ (n8 n 4) ∧ (n8 n 4) ≤ 9223372036854775807)),decide ((((o + (((n8 n 3)):Int).toNat) + 8) ≤ v.n ∧ ((8:Nat) ≤ (np - (((n8 n 3)):Int).toNat) ∧ (np - (((n8 n 3)):Int).toNat) ≤ 1099511627776))),((decide ((0:Int) ≤ (n8 n 3)) && decide ((n8 n 3) ≤ ((np:Nat):Int))) && decide (((np:Nat):Int) ≤ ((np:Nat):Int))),decide ((((-9223372036854775808):Int) ≤ (n8 n 3) ∧ (n8 n 3) ≤ 9223372036854775807)),decide ((((o + (((n8 n 2)):Int).toNat) + 8) ≤ v.n ∧ ((8:Nat) ≤ (np - (((n8 n 2)):Int).toNat) ∧ (np - (((n8 n 2)):Int).toNat) ≤ 1099511627776))),((decide ((0:Int) ≤ (n8 n 2)) && decide ((n8 n 2) ≤ ((np:Nat):Int))) && decide (((np:Nat):Int) ≤ ((np:Nat):Int))),decide ((((-9223372036854775808):Int) ≤ (n8 n 2) ∧ (n8 n 2) ≤ 9223372036854775807)),decide ((((o + (((n8 n 1)):Int).toNat) + 8) ≤ v.n ∧ ((8:Nat) ≤ (np - (((n8 n 1)):Int).toNat) ∧ (np - (((n8 n 1)):Int).toNat) ≤ 1099511627776))),((decide ((0:Int) ≤ (n8 n 1)) && decide ((n8 n 1) ≤ ((np:Nat):Int))) && decide (((np:Nat):Int) ≤ ((np:Nat):Int))),decide ((((-9223372036854775808):Int) ≤ (n8 n 1) ∧ (n8 n 1) ≤ 9223372036854775807)),decide ((((o + ((n):Int).toNat) + 8) ≤ v.n ∧ ((8:Nat) ≤ (np - ((n):Int).toNat) ∧ (np - ((n):Int).toNat) ≤ 1099511627776))),((decide ((0:Int) ≤ n) && decide (n ≤ ((np:Nat):Int))) && decide (((np:Nat):Int) ≤ ((np:Nat):Int))),(decide (((c0 + (128#64))).toNat < ((128#64)).toNat) == false),(decide (n < ((np:Nat):Int)) == true)]):=by kernel_rfl
theorem kL_end (h:H8) (c0 c1 d0 d1:BitVec 64) (sz:Int) (xb:Vec 8) (nx:Int) (kb v:Vec 8) (X:Vec 64) (o np:Nat) (n:Int):ranAs ((kL.st ⟨h,c0,c1,d0,d1,sz,xb,nx,kb,v,X,o,np,n⟩).2.length - kL.gh.length) none (kL.fin ⟨h,c0,c1,d0,d1,sz,xb,nx,kb,v,X,o,np,n⟩) (goL specs111 noLoop 111 0 (kL.st ⟨h,c0,c1,d0,d1,sz,xb,nx,kb,v,X,o,np,n⟩).1 ⟨(kL.st ⟨h,c0,c1,d0,d1,sz,xb,nx,kb,v,X,o,np,n⟩).2,big,[false],[]⟩) = some (kL.out,(kL.fin ⟨h,c0,c1,d0,d1,sz,xb,nx,kb,v,X,o,np,n⟩),[(decide (n < ((np:Nat):Int)) == false)]):=by kernel_rfl
set_option maxRecDepth 100000 in
theorem kL_read (F:Fr) (K:List Blk) (d:kLD) (h:kL.read F K = some d):(F,K) = kL.st d:=by
 replace h:kL_rd F K = some d:=h
 unfold kL_rd at h
 split at h
 case h_2=>cases h
 split at h
 case h_2=>cases h
 split at h
 case h_2=>cases h
 rename_i hr hd
 obtain ⟨he,_⟩:=rd8_eq hr
 have ht:=(List.take_append_drop 128 _).symm.trans (congr (congrArg HAppend.hAppend he) hd)
 subst ht
 split at h
 case h_2=>cases h
 rename_i hr hd
 obtain ⟨he,_⟩:=rd8_eq hr
 have ht:=(List.take_append_drop 128 _).symm.trans (congr (congrArg HAppend.hAppend he) hd)
 subst ht
 split at h
 case h_2=>cases h
 rename_i hr0
 obtain ⟨rfl,_⟩:=rd64_eq hr0
 injection h with h;subst h
 rfl
theorem kL_body:RunOk Tryd.prog noGlob (nv 111) (ntmpsIn Tryd.prog 111) (loopIn Tryd.prog 111 0) (goL specs111 noLoop 111 0):=goL_ok specs111_ok (no_loops _) 111 0 fine111 (by rw [show (loopsIn Tryd.prog 111).length = 3 by kernel_rfl];omega)
theorem kL_toldL:LoopOk Tryd.prog noGlob (nv 111) (ntmpsIn Tryd.prog 111) (loopIn Tryd.prog 111 0) kL.T.told:=by
 refine kL.ran kL_body (by intro k hk;have hk:k ∈ ([]:List Blk):=hk;cases hk) (by intro h;cases h) kL_read ?_ ?_
 ·rintro ⟨h,c0,c1,d0,d1,sz,xb,nx,kb,v,X,o,np,n⟩ kk hg hr
  have hg:o + np ≤ v.n ∧ np ≤ 1099511627776 ∧ 0 ≤ n ∧ n ≤ np ∧ n % 128 = 0 ∧ np % 128 = 0 ∧ (c0.toNat:Int) + ((np:Int) - n) ≤ 1152921504606846976:=of_decide_eq_true hg
  have hr:((np:Int) - n).toNat / 128 = kk + 1:=hr
  have e128:(128#64).toNat = 128:=rfl
  have ec:(c0 + 128#64).toNat = c0.toNat + 128:=by have:=c0.isLt;rw [BitVec.toNat_add,e128];omega
  have en:kL.next ⟨h,c0,c1,d0,d1,sz,xb,nx,kb,v,X,o,np,n⟩ = kL_next ⟨h,c0,c1,d0,d1,sz,xb,nx,kb,v,X,o,np,n⟩:=rfl
  rw [en]
  refine ⟨⟨[true,false],(some [0,1,2]),_,kL_round h c0 c1 d0 d1 sz xb nx kb v X o np n,?_⟩,?_,?_,(show (kL.st (kL_next ⟨h,c0,c1,d0,d1,sz,xb,nx,kb,v,X,o,np,n⟩)).2.length = 3 by kernel_rfl).trans (show (kL.st ⟨h,c0,c1,d0,d1,sz,xb,nx,kb,v,X,o,np,n⟩).2.length = 3 by kernel_rfl).symm⟩
  ·repeat' (refine all_true_cons ?_ ?_)
   all_goals first | exact all_true_nil | rfl | (simp only [bq,n8_eq] <;> omega)
  ·have e:kL.good (kL_next ⟨h,c0,c1,d0,d1,sz,xb,nx,kb,v,X,o,np,n⟩) = decide (o + np ≤ v.n ∧ np ≤ 1099511627776 ∧ 0 ≤ (n8 n 16) ∧ (n8 n 16) ≤ np ∧ (n8 n 16) % 128 = 0 ∧ np % 128 = 0 ∧ ((c0 + 128#64:BitVec 64).toNat:Int) + ((np:Int) - ((n8 n 16):Int)) ≤ 1152921504606846976):=by kernel_rfl
   refine e.trans (decide_eq_true ?_)
   simp only [n8_eq]
   omega
  ·have e:kL.rem (kL_next ⟨h,c0,c1,d0,d1,sz,xb,nx,kb,v,X,o,np,n⟩) = (((np:Int) - ((n8 n 16):Int)).toNat / 128):=by kernel_rfl
   refine e.trans ?_
   simp only [n8_eq]
   omega
 ·rintro ⟨h,c0,c1,d0,d1,sz,xb,nx,kb,v,X,o,np,n⟩ hg hr
  have hg:o + np ≤ v.n ∧ np ≤ 1099511627776 ∧ 0 ≤ n ∧ n ≤ np ∧ n % 128 = 0 ∧ np % 128 = 0 ∧ (c0.toNat:Int) + ((np:Int) - n) ≤ 1152921504606846976:=of_decide_eq_true hg
  have hr:((np:Int) - n).toNat / 128 = 0:=hr
  have e128:(128#64).toNat = 128:=rfl
  have ec:(c0 + 128#64).toNat = c0.toNat + 128:=by have:=c0.isLt;rw [BitVec.toNat_add,e128];omega
  refine ⟨[false],none,_,kL_end h c0 c1 d0 d1 sz xb nx kb v X o np n,?_⟩
  repeat' (refine all_true_cons ?_ ?_)
  all_goals first | exact all_true_nil | rfl | (simp only [bq] <;> omega)
def kL_spec:LSpec:=kL.T.told
theorem kL_told:Told 111 0 kL_spec:=kL_toldL.run
def kLs:FuncId → Nat → Option LSpec
 | 111,3=>some kL_spec
 | _,_=>none
theorem kLs_len:(loopsIn Tryd.prog 111).length = 3:=by kernel_rfl
theorem kLs_ok (spec:FuncId → Option Eng.Spec):LoopsOk (cfg spec kLs) noGlob:=by
 refine LoopsOk.of fun f=>?_
 by_cases hf:f = 111
 ·subst hf
  refine .inr ⟨by kernel_rfl,fun i hi sp hsp=>?_⟩
  have hi:i < (loopsIn Tryd.prog 111).length:=hi
  rw [kLs_len] at hi
  have hi3:i = 0 ∨ i = 1 ∨ i = 2:=by omega
  rcases hi3 with rfl | rfl | rfl
  ·have e:(firstRid (loopIn Tryd.prog 111 0)).bind (kLs 111) = some kL_spec:=by kernel_rfl
   obtain rfl:=Option.some.inj (e.symm.trans hsp)
   exact kL_told
  ·have e:(firstRid (loopIn Tryd.prog 111 1)).bind (kLs 111) = none:=by kernel_rfl
   have hsp:(firstRid (loopIn Tryd.prog 111 1)).bind (kLs 111) = some sp:=hsp
   rw [e] at hsp;cases hsp
  ·have e:(firstRid (loopIn Tryd.prog 111 2)).bind (kLs 111) = none:=by kernel_rfl
   have hsp:(firstRid (loopIn Tryd.prog 111 2)).bind (kLs 111) = some sp:=hsp
   rw [e] at hsp;cases hsp
 ·refine .inl fun r=>?_
  show kLs f r = none
  unfold kLs
  split
  ·exact absurd rfl hf
  ·rfl
end
section
open Go.Eng
variable [RowAddr] [Co] [SeatCo]
theorem c8v_cpx (x:Vec 8):c8v (cpx x) 128 = c8v x 128:=by
 refine List.map_congr_left fun i hi=>?_
 have hi:=List.mem_range.1 hi
 have e:(cpx x).l.getD i 0#8 = x.l.getD i 0#8:=by
  show ((List.range 128).map fun i=>x.l.getD i 0#8).getD i 0#8 = _
  simp [List.getD_eq_getElem?_getD,hi]
 rw [e]
def cA (c:BitVec 64):Nat → BitVec 64
 | 0=>c
 | k + 1=>cA c k + 128#64
def b2All (h:H8) (c0 c1:BitVec 64) (v:Vec 8) (o:Nat):Nat → H8
 | 0=>h
 | k + 1=>b2 (b2All h c0 c1 v o k) (cA c0 k + 128#64) c1 0#64 (wrd v (o + 128 * k))
theorem wrdL_eq (v:Vec 8) (o n:Nat):wrdL v o (n:Int) = wrd v (o + n):=by
 unfold wrdL wrd lwv
 simp only [show o + ((n:Int)).toNat = o + n + 0 by omega,show o + (((n:Int) + 8)).toNat = o + n + 8 by omega,show o + ((((n:Int) + 8) + 8)).toNat = o + n + 16 by omega,show o + (((((n:Int) + 8) + 8) + 8)).toNat = o + n + 24 by omega,show o + ((((((n:Int) + 8) + 8) + 8) + 8)).toNat = o + n + 32 by omega,show o + (((((((n:Int) + 8) + 8) + 8) + 8) + 8)).toNat = o + n + 40 by omega,show o + ((((((((n:Int) + 8) + 8) + 8) + 8) + 8) + 8)).toNat = o + n + 48 by omega,show o + (((((((((n:Int) + 8) + 8) + 8) + 8) + 8) + 8) + 8)).toNat = o + n + 56 by omega,show o + ((((((((((n:Int) + 8) + 8) + 8) + 8) + 8) + 8) + 8) + 8)).toNat = o + n + 64 by omega,show o + (((((((((((n:Int) + 8) + 8) + 8) + 8) + 8) + 8) + 8) + 8) + 8)).toNat = o + n + 72 by omega,show o + ((((((((((((n:Int) + 8) + 8) + 8) + 8) + 8) + 8) + 8) + 8) + 8) + 8)).toNat = o + n + 80 by omega,show o + (((((((((((((n:Int) + 8) + 8) + 8) + 8) + 8) + 8) + 8) + 8) + 8) + 8) + 8)).toNat = o + n + 88 by omega,show o + ((((((((((((((n:Int) + 8) + 8) + 8) + 8) + 8) + 8) + 8) + 8) + 8) + 8) + 8) + 8)).toNat = o + n + 96 by omega,show o + (((((((((((((((n:Int) + 8) + 8) + 8) + 8) + 8) + 8) + 8) + 8) + 8) + 8) + 8) + 8) + 8)).toNat = o + n + 104 by omega,show o + ((((((((((((((((n:Int) + 8) + 8) + 8) + 8) + 8) + 8) + 8) + 8) + 8) + 8) + 8) + 8) + 8) + 8)).toNat = o + n + 112 by omega,show o + (((((((((((((((((n:Int) + 8) + 8) + 8) + 8) + 8) + 8) + 8) + 8) + 8) + 8) + 8) + 8) + 8) + 8) + 8)).toNat = o + n + 120 by omega,Nat.add_assoc,Nat.reduceAdd]
def kLz (h:H8) (c0 c1:BitVec 64) (sz:Int) (xb:Vec 8) (nx:Int) (kb v:Vec 8) (o np:Nat):kLD:=iter kL_next ((((np:Nat):Int) - 0).toNat / 128) ⟨h,c0,c1,c0,c1,sz,cpx xb,nx,cpx kb,v,Vec.of (List.replicate 16 0#64),o,np,0⟩
theorem kL_it (h:H8) (c0 c1 d0 d1:BitVec 64) (sz:Int) (xb:Vec 8) (nx:Int) (kb v:Vec 8) (X:Vec 64) (o np:Nat):∀ k:Nat,∃ Y,iter kL_next k ⟨h,c0,c1,d0,d1,sz,xb,nx,kb,v,X,o,np,0⟩ = ⟨b2All h c0 c1 v o k,cA c0 k,c1,d0,d1,sz,xb,nx,kb,v,Y,o,np,((128 * k:Nat):Int)⟩
 | 0=>⟨X,rfl⟩
 | k + 1=>by
  obtain ⟨Y,e⟩:=kL_it h c0 c1 d0 d1 sz xb nx kb v X o np k
  refine ⟨wrdL v o ((128 * k:Nat):Int),?_⟩
  rw [iter_succ,e]
  show (⟨b2 (b2All h c0 c1 v o k) (cA c0 k + 128#64) c1 0#64 (wrdL v o ((128 * k:Nat):Int)),cA c0 k + 128#64,c1,d0,d1,sz,xb,nx,kb,v,wrdL v o ((128 * k:Nat):Int),o,np,(((((((((((((((((128 * k:Nat):Int) + 8) + 8) + 8) + 8) + 8) + 8) + 8) + 8) + 8) + 8) + 8) + 8) + 8) + 8) + 8) + 8⟩:kLD) = _
  rw [wrdL_eq,show (((((((((((((((((128 * k:Nat):Int) + 8) + 8) + 8) + 8) + 8) + 8) + 8) + 8) + 8) + 8) + 8) + 8) + 8) + 8) + 8) + 8 = ((128 * (k + 1):Nat):Int) by omega]
  rfl
theorem kLz_eq (h:H8) (c0 c1:BitVec 64) (sz:Int) (xb:Vec 8) (nx:Int) (kb v:Vec 8) (o np:Nat):(kLz h c0 c1 sz xb nx kb v o np).h = b2All h c0 c1 v o (np / 128) ∧ (kLz h c0 c1 sz xb nx kb v o np).c0 = cA c0 (np / 128) ∧ (kLz h c0 c1 sz xb nx kb v o np).c1 = c1 ∧ (kLz h c0 c1 sz xb nx kb v o np).sz = sz ∧ (kLz h c0 c1 sz xb nx kb v o np).xb = cpx xb ∧ (kLz h c0 c1 sz xb nx kb v o np).nx = nx ∧ (kLz h c0 c1 sz xb nx kb v o np).kb = cpx kb:=by
 obtain ⟨Y,e⟩:=kL_it h c0 c1 c0 c1 sz (cpx xb) nx (cpx kb) v (Vec.of (List.replicate 16 0#64)) o np (np / 128)
 unfold kLz
 rw [show (((np:Nat):Int) - 0).toNat = np by omega,e]
 exact ⟨rfl,rfl,rfl,rfl,rfl,rfl,rfl⟩
theorem dgc_cpx (h:H8) (c0 c1:BitVec 64) (sz:Int) (xb:Vec 8) (nx:Int) (kb:Vec 8):dgc h c0 c1 sz (cpx xb) nx (cpx kb) = dgc h c0 c1 sz xb nx kb:=by
 unfold dgc
 rw [c8v_cpx,c8v_cpx]
structure kLcD where
 h:H8
 c0:BitVec 64
 c1:BitVec 64
 sz:Int
 xb:Vec 8
 nx:Int
 kb:Vec 8
 v:Vec 8
 o:Nat
 np:Nat
def kLc_rd (a:List AV) (K:List Blk):Option kLcD:=
 match a with
 | [(.ref (.ptr 0 (.c 0))),(.ref (.ptr 0 (.c 8))),(.num (.int .u64 (.c 0))),(.ref (.sl 1 (.s o) (.s np) none))]=>
  match K with
  | [⟨(.gen ((.num (.w64 h0)) :: (.num (.w64 h1)) :: (.num (.w64 h2)) :: (.num (.w64 h3)) :: (.num (.w64 h4)) :: (.num (.w64 h5)) :: (.num (.w64 h6)) :: (.num (.w64 h7)) :: (.num (.w64 c0)) :: (.num (.w64 c1)) :: (.num (.int .i64 (.s sz))) :: ys_xb)),.own⟩,⟨(.b8 v),.ro⟩]=>
   (match rd8 128 (ys_xb.take 128),ys_xb.drop 128 with
   | some xb,((.num (.int .i64 (.s nx))) :: ys_kb)=>
   (match rd8 128 (ys_kb.take 128),ys_kb.drop 128 with
   | some kb,[(.num (.int .i64 (.c 0)))]=>some ⟨⟨h0,h1,h2,h3,h4,h5,h6,h7⟩,c0,c1,sz,xb,nx,kb,v,o,np⟩
   | _,_=>none)
   | _,_=>none)
  | _=>none
 | _=>none
def kLc:Ct kLcD where
 pat:=[(.ptr 0 (.c 0)),(.ptr 0 (.c 8)),(.int .u64 (.c 0)),(.sl 1 (.s 0) (.s 0) none)]
 patH:=[⟨(.gen ([(.w64 0#64),(.w64 0#64),(.w64 0#64),(.w64 0#64),(.w64 0#64),(.w64 0#64),(.w64 0#64),(.w64 0#64),(.w64 0#64),(.w64 0#64),(.int .i64 (.s 0))] ++ List.replicate 128 (.w8 0#8) ++ ([(.int .i64 (.s 0))] ++ List.replicate 128 (.w8 0#8) ++ [(.int .i64 (.c 0))]))),.own⟩,⟨(.b8 (Vec.zero 8 0)),.ro⟩]
 read:=kLc_rd
 args:=fun ⟨_,_,_,_,_,_,_,_,o,np⟩=>[(.ptr 0 (.c 0)),(.ptr 0 (.c 8)),(.int .u64 (.c 0)),(.sl 1 (.s o) (.s np) none)]
 heap:=fun ⟨h,c0,c1,sz,xb,nx,kb,v,_,_⟩=>[⟨(.gen ([(.w64 h.x0),(.w64 h.x1),(.w64 h.x2),(.w64 h.x3),(.w64 h.x4),(.w64 h.x5),(.w64 h.x6),(.w64 h.x7),(.w64 c0),(.w64 c1),(.int .i64 (.s sz))] ++ c8v xb 128 ++ ([(.int .i64 (.s nx))] ++ c8v kb 128 ++ [(.int .i64 (.c 0))]))),.own⟩,⟨(.b8 v),.ro⟩]
 out:=fun ⟨h,c0,c1,sz,xb,nx,kb,v,o,np⟩=>[⟨(.gen (dgc (b2All h c0 c1 v o (np / 128)) (cA c0 (np / 128)) c1 sz xb nx kb)),.own⟩,⟨(.b8 v),.ro⟩]
 val:=fun ⟨_,_,_,_,_,_,_,_,_,_⟩=>(.tup [])
 good:=fun ⟨_,c0,_,_,_,_,_,v,o,np⟩=>decide (o + np ≤ v.n ∧ np ≤ 1099511627776 ∧ np % 128 = 0 ∧ c0.toNat + np ≤ 1152921504606846976)
theorem kLc_run (h:H8) (c0 c1:BitVec 64) (sz:Int) (xb:Vec 8) (nx:Int) (kb v:Vec 8) (o np:Nat):endsAs (kLc.heap ⟨h,c0,c1,sz,xb,nx,kb,v,o,np⟩).length (some [0,1]) [⟨(.gen (dgc ((kLz h c0 c1 sz xb nx kb v o np)).h ((kLz h c0 c1 sz xb nx kb v o np)).c0 ((kLz h c0 c1 sz xb nx kb v o np)).c1 ((kLz h c0 c1 sz xb nx kb v o np)).sz ((kLz h c0 c1 sz xb nx kb v o np)).xb ((kLz h c0 c1 sz xb nx kb v o np)).nx ((kLz h c0 c1 sz xb nx kb v o np)).kb)),.own⟩,⟨(.b8 v),.ro⟩] (.tup []) (goB specs111 kLs 111 (kLc.args ⟨h,c0,c1,sz,xb,nx,kb,v,o,np⟩) ⟨kLc.heap ⟨h,c0,c1,sz,xb,nx,kb,v,o,np⟩,big,[],[]⟩) = some ([⟨(.gen (dgc ((kLz h c0 c1 sz xb nx kb v o np)).h ((kLz h c0 c1 sz xb nx kb v o np)).c0 ((kLz h c0 c1 sz xb nx kb v o np)).c1 ((kLz h c0 c1 sz xb nx kb v o np)).sz ((kLz h c0 c1 sz xb nx kb v o np)).xb ((kLz h c0 c1 sz xb nx kb v o np)).nx ((kLz h c0 c1 sz xb nx kb v o np)).kb)),.own⟩,⟨(.b8 v),.ro⟩],(.tup []),[kL.good ⟨h,c0,c1,c0,c1,sz,cpx xb,nx,cpx kb,v,Vec.of (List.replicate 16 0#64),o,np,0⟩]):=by kernel_rfl
set_option maxRecDepth 100000 in
theorem kLc_read (a:List AV) (K:List Blk) (d:kLcD) (h:kLc.read a K = some d):a = kLc.args d ∧ K = kLc.heap d:=by
 replace h:kLc_rd a K = some d:=h
 unfold kLc_rd at h
 split at h
 case h_2=>cases h
 split at h
 case h_2=>cases h
 split at h
 case h_2=>cases h
 rename_i hr hd
 obtain ⟨he,_⟩:=rd8_eq hr
 have ht:=(List.take_append_drop 128 _).symm.trans (congr (congrArg HAppend.hAppend he) hd)
 subst ht
 split at h
 case h_2=>cases h
 rename_i hr hd
 obtain ⟨he,_⟩:=rd8_eq hr
 have ht:=(List.take_append_drop 128 _).symm.trans (congr (congrArg HAppend.hAppend he) hd)
 subst ht
 injection h with h;subst h
 exact ⟨rfl,rfl⟩
theorem kLc_ok:SpecOk Tryd.prog noGlob 111 kLc.spec:=by
 refine kLc.ok (goB_ok specs111_ok (kLs_ok _)) kLc_read ?_
 rintro ⟨h,c0,c1,sz,xb,nx,kb,v,o,np⟩ hg
 have hg:o + np ≤ v.n ∧ np ≤ 1099511627776 ∧ np % 128 = 0 ∧ c0.toNat + np ≤ 1152921504606846976:=of_decide_eq_true hg
 have eo:kLc.out ⟨h,c0,c1,sz,xb,nx,kb,v,o,np⟩ = [⟨(.gen (dgc ((kLz h c0 c1 sz xb nx kb v o np)).h ((kLz h c0 c1 sz xb nx kb v o np)).c0 ((kLz h c0 c1 sz xb nx kb v o np)).c1 ((kLz h c0 c1 sz xb nx kb v o np)).sz ((kLz h c0 c1 sz xb nx kb v o np)).xb ((kLz h c0 c1 sz xb nx kb v o np)).nx ((kLz h c0 c1 sz xb nx kb v o np)).kb)),.own⟩,⟨(.b8 v),.ro⟩]:=by
  obtain ⟨e1,e2,e3,e4,e5,e6,e7⟩:=kLz_eq h c0 c1 sz xb nx kb v o np
  rw [e1,e2,e3,e4,e5,e6,e7,dgc_cpx]
  rfl
 have ev:kLc.val ⟨h,c0,c1,sz,xb,nx,kb,v,o,np⟩ = (.obj .tup []):=by
  rfl
 rw [eo,ev]
 refine ⟨[],(some [0,1]),_,kLc_run h c0 c1 sz xb nx kb v o np,?_⟩
 refine all_true_cons ?_ all_true_nil
 refine (show kL.good ⟨h,c0,c1,c0,c1,sz,cpx xb,nx,cpx kb,v,Vec.of (List.replicate 16 0#64),o,np,0⟩ = decide (o + np ≤ v.n ∧ np ≤ 1099511627776 ∧ (0:Int) ≤ 0 ∧ (0:Int) ≤ (np:Nat) ∧ (0:Int) % 128 = 0 ∧ np % 128 = 0 ∧ (c0.toNat:Int) + (((np:Nat):Int) - 0) ≤ 1152921504606846976) by kernel_rfl).trans (decide_eq_true ?_)
 omega
def sp111:Eng.Spec:=orSpec kLc.spec (orSpec kS.spec kF.spec)
theorem sp111_ok:SpecOk Tryd.prog noGlob 111 sp111:=SpecOk.or kLc_ok (SpecOk.or kS_ok kF_ok)
end
section
open Go.Eng
variable [RowAddr] [Co] [SeatCo]
structure kGD where
 h:H8
 c0:BitVec 64
 c1:BitVec 64
 b:Vec 8
def kG_rd (a:List AV) (K:List Blk):Option kGD:=
 match a with
 | [(.ref (.ptr 0 (.c 0))),(.ref (.ptr 1 (.c 0))),(.num (.int .u64 (.c 18446744073709551615))),(.ref (.sl 2 (.c 0) (.c 128) none))]=>
  match K with
  | [⟨(.gen [(.num (.w64 h0)),(.num (.w64 h1)),(.num (.w64 h2)),(.num (.w64 h3)),(.num (.w64 h4)),(.num (.w64 h5)),(.num (.w64 h6)),(.num (.w64 h7))]),.own⟩,⟨(.gen [(.num (.w64 c0)),(.num (.w64 c1))]),.own⟩,⟨(.b8 b),.ro⟩]=>some ⟨⟨h0,h1,h2,h3,h4,h5,h6,h7⟩,c0,c1,b⟩
  | _=>none
 | _=>none
def kG:Ct kGD where
 pat:=[(.ptr 0 (.c 0)),(.ptr 1 (.c 0)),(.int .u64 (.c 18446744073709551615)),(.sl 2 (.c 0) (.c 128) none)]
 patH:=[⟨(.gen [(.w64 0#64),(.w64 0#64),(.w64 0#64),(.w64 0#64),(.w64 0#64),(.w64 0#64),(.w64 0#64),(.w64 0#64)]),.own⟩,⟨(.gen [(.w64 0#64),(.w64 0#64)]),.own⟩,⟨(.b8 (Vec.zero 8 0)),.ro⟩]
 read:=kG_rd
 args:=fun ⟨_,_,_,_⟩=>[(.ptr 0 (.c 0)),(.ptr 1 (.c 0)),(.int .u64 (.c 18446744073709551615)),(.sl 2 (.c 0) (.c 128) none)]
 heap:=fun ⟨h,c0,c1,b⟩=>[⟨(.gen [(.w64 h.x0),(.w64 h.x1),(.w64 h.x2),(.w64 h.x3),(.w64 h.x4),(.w64 h.x5),(.w64 h.x6),(.w64 h.x7)]),.own⟩,⟨(.gen [(.w64 c0),(.w64 c1)]),.own⟩,⟨(.b8 b),.ro⟩]
 out:=fun ⟨h,c0,c1,b⟩=>[⟨(.gen (h8c (b2 h (c0 + 128#64) (cy c0 c1) 18446744073709551615#64 (wrd b 0)))),.own⟩,⟨(.gen (c2c (c0 + 128#64) (cy c0 c1))),.own⟩,⟨(.b8 b),.ro⟩]
 val:=fun ⟨_,_,_,_⟩=>(.tup [])
 good:=fun ⟨_,_,_,b⟩=>decide (b.n = 128)
set_option maxRecDepth 100000 in
theorem kG_read (a:List AV) (K:List Blk) (d:kGD) (h:kG.read a K = some d):a = kG.args d ∧ K = kG.heap d:=by
 replace h:kG_rd a K = some d:=h
 unfold kG_rd at h
 split at h
 case h_2=>cases h
 split at h
 case h_2=>cases h
 injection h with h;subst h
 exact ⟨rfl,rfl⟩
theorem rG0 (h:H8) (c0 c1:BitVec 64) (b:Vec 8):endsAs (kG.heap ⟨h,c0,c1,b⟩).length (some [0,1,2]) [⟨.gen (h8c (b2 h (c0 + 128#64) c1 18446744073709551615#64 (wrd b 0))),.own⟩,⟨.gen (c2c (c0 + 128#64) c1),.own⟩,⟨.b8 b,.ro⟩] (.tup []) (goB specs111 noLoop 111 (kG.args ⟨h,c0,c1,b⟩) ⟨kG.heap ⟨h,c0,c1,b⟩,big,[false],[]⟩) = some ([⟨.gen (h8c (b2 h (c0 + 128#64) c1 18446744073709551615#64 (wrd b 0))),.own⟩,⟨.gen (c2c (c0 + 128#64) c1),.own⟩,⟨.b8 b,.ro⟩],(.tup []),[decide (((128:Nat) ≤ b.n ∧ ((8:Nat) ≤ ((128:Nat) - 120) ∧ ((128:Nat) - 120) ≤ 1099511627776))),decide (((120:Nat) ≤ b.n ∧ ((8:Nat) ≤ ((128:Nat) - 112) ∧ ((128:Nat) - 112) ≤ 1099511627776))),decide (((112:Nat) ≤ b.n ∧ ((8:Nat) ≤ ((128:Nat) - 104) ∧ ((128:Nat) - 104) ≤ 1099511627776))),decide (((104:Nat) ≤ b.n ∧ ((8:Nat) ≤ ((128:Nat) - 96) ∧ ((128:Nat) - 96) ≤ 1099511627776))),decide (((96:Nat) ≤ b.n ∧ ((8:Nat) ≤ ((128:Nat) - 88) ∧ ((128:Nat) - 88) ≤ 1099511627776))),decide (((88:Nat) ≤ b.n ∧ ((8:Nat) ≤ ((128:Nat) - 80) ∧ ((128:Nat) - 80) ≤ 1099511627776))),decide (((80:Nat) ≤ b.n ∧ ((8:Nat) ≤ ((128:Nat) - 72) ∧ ((128:Nat) - 72) ≤ 1099511627776))),decide (((72:Nat) ≤ b.n ∧ ((8:Nat) ≤ ((128:Nat) - 64) ∧ ((128:Nat) - 64) ≤ 1099511627776))),decide (((64:Nat) ≤ b.n ∧ ((8:Nat) ≤ ((128:Nat) - 56) ∧ ((128:Nat) - 56) ≤ 1099511627776))),decide (((56:Nat) ≤ b.n ∧ ((8:Nat) ≤ ((128:Nat) - 48) ∧ ((128:Nat) - 48) ≤ 1099511627776))),decide (((48:Nat) ≤ b.n ∧ ((8:Nat) ≤ ((128:Nat) - 40) ∧ ((128:Nat) - 40) ≤ 1099511627776))),decide (((40:Nat) ≤ b.n ∧ ((8:Nat) ≤ ((128:Nat) - 32) ∧ ((128:Nat) - 32) ≤ 1099511627776))),decide (((32:Nat) ≤ b.n ∧ ((8:Nat) ≤ ((128:Nat) - 24) ∧ ((128:Nat) - 24) ≤ 1099511627776))),decide (((24:Nat) ≤ b.n ∧ ((8:Nat) ≤ ((128:Nat) - 16) ∧ ((128:Nat) - 16) ≤ 1099511627776))),decide (((16:Nat) ≤ b.n ∧ ((8:Nat) ≤ ((128:Nat) - 8) ∧ ((128:Nat) - 8) ≤ 1099511627776))),decide (((8:Nat) ≤ b.n ∧ ((8:Nat) ≤ ((128:Nat) - 0) ∧ ((128:Nat) - 0) ≤ 1099511627776))),(decide (((c0 + (128#64))).toNat < ((128#64)).toNat) == false)]):=by kernel_rfl
theorem rG1 (h:H8) (c0 c1:BitVec 64) (b:Vec 8):endsAs (kG.heap ⟨h,c0,c1,b⟩).length (some [0,1,2]) [⟨.gen (h8c (b2 h (c0 + 128#64) (c1 + 1#64) 18446744073709551615#64 (wrd b 0))),.own⟩,⟨.gen (c2c (c0 + 128#64) (c1 + 1#64)),.own⟩,⟨.b8 b,.ro⟩] (.tup []) (goB specs111 noLoop 111 (kG.args ⟨h,c0,c1,b⟩) ⟨kG.heap ⟨h,c0,c1,b⟩,big,[true],[]⟩) = some ([⟨.gen (h8c (b2 h (c0 + 128#64) (c1 + 1#64) 18446744073709551615#64 (wrd b 0))),.own⟩,⟨.gen (c2c (c0 + 128#64) (c1 + 1#64)),.own⟩,⟨.b8 b,.ro⟩],(.tup []),[decide (((128:Nat) ≤ b.n ∧ ((8:Nat) ≤ ((128:Nat) - 120) ∧ ((128:Nat) - 120) ≤ 1099511627776))),decide (((120:Nat) ≤ b.n ∧ ((8:Nat) ≤ ((128:Nat) - 112) ∧ ((128:Nat) - 112) ≤ 1099511627776))),decide (((112:Nat) ≤ b.n ∧ ((8:Nat) ≤ ((128:Nat) - 104) ∧ ((128:Nat) - 104) ≤ 1099511627776))),decide (((104:Nat) ≤ b.n ∧ ((8:Nat) ≤ ((128:Nat) - 96) ∧ ((128:Nat) - 96) ≤ 1099511627776))),decide (((96:Nat) ≤ b.n ∧ ((8:Nat) ≤ ((128:Nat) - 88) ∧ ((128:Nat) - 88) ≤ 1099511627776))),decide (((88:Nat) ≤ b.n ∧ ((8:Nat) ≤ ((128:Nat) - 80) ∧ ((128:Nat) - 80) ≤ 1099511627776))),decide (((80:Nat) ≤ b.n ∧ ((8:Nat) ≤ ((128:Nat) - 72) ∧ ((128:Nat) - 72) ≤ 1099511627776))),decide (((72:Nat) ≤ b.n ∧ ((8:Nat) ≤ ((128:Nat) - 64) ∧ ((128:Nat) - 64) ≤ 1099511627776))),decide (((64:Nat) ≤ b.n ∧ ((8:Nat) ≤ ((128:Nat) - 56) ∧ ((128:Nat) - 56) ≤ 1099511627776))),decide (((56:Nat) ≤ b.n ∧ ((8:Nat) ≤ ((128:Nat) - 48) ∧ ((128:Nat) - 48) ≤ 1099511627776))),decide (((48:Nat) ≤ b.n ∧ ((8:Nat) ≤ ((128:Nat) - 40) ∧ ((128:Nat) - 40) ≤ 1099511627776))),decide (((40:Nat) ≤ b.n ∧ ((8:Nat) ≤ ((128:Nat) - 32) ∧ ((128:Nat) - 32) ≤ 1099511627776))),decide (((32:Nat) ≤ b.n ∧ ((8:Nat) ≤ ((128:Nat) - 24) ∧ ((128:Nat) - 24) ≤ 1099511627776))),decide (((24:Nat) ≤ b.n ∧ ((8:Nat) ≤ ((128:Nat) - 16) ∧ ((128:Nat) - 16) ≤ 1099511627776))),decide (((16:Nat) ≤ b.n ∧ ((8:Nat) ≤ ((128:Nat) - 8) ∧ ((128:Nat) - 8) ≤ 1099511627776))),decide (((8:Nat) ≤ b.n ∧ ((8:Nat) ≤ ((128:Nat) - 0) ∧ ((128:Nat) - 0) ≤ 1099511627776))),(decide (((c0 + (128#64))).toNat < ((128#64)).toNat) == true)]):=by kernel_rfl
theorem kG_ok:SpecOk Tryd.prog noGlob 111 kG.spec:=by
 refine kG.ok (goB_ok specs111_ok (no_loops _)) kG_read ?_
 rintro ⟨h,c0,c1,b⟩ hg
 have hg:b.n = 128:=of_decide_eq_true hg
 by_cases hc:(c0 + 128#64).toNat < (128#64).toNat
 ·have eo:kG.out ⟨h,c0,c1,b⟩ = ([⟨.gen (h8c (b2 h (c0 + 128#64) (c1 + 1#64) 18446744073709551615#64 (wrd b 0))),.own⟩,⟨.gen (c2c (c0 + 128#64) (c1 + 1#64)),.own⟩,⟨.b8 b,.ro⟩]:List Blk):=by
   show ([⟨.gen (h8c (b2 h (c0 + 128#64) (cy c0 c1) 18446744073709551615#64 (wrd b 0))),.own⟩,⟨.gen (c2c (c0 + 128#64) (cy c0 c1)),.own⟩,⟨.b8 b,.ro⟩]:List Blk) = _
   unfold cy
   rw [if_pos hc]
  rw [eo]
  refine ⟨[true],some [0,1,2],_,rG1 h c0 c1 b,?_⟩
  repeat' (refine all_true_cons ?_ ?_)
  all_goals first | exact all_true_nil | rfl | (simp only [beq_iff_eq,beq_true,beq_false,Bool.not_eq_true',decide_eq_true_eq,decide_eq_false_iff_not] <;> exact hc) | (simp only [bq] <;> omega)
 ·have eo:kG.out ⟨h,c0,c1,b⟩ = ([⟨.gen (h8c (b2 h (c0 + 128#64) c1 18446744073709551615#64 (wrd b 0))),.own⟩,⟨.gen (c2c (c0 + 128#64) c1),.own⟩,⟨.b8 b,.ro⟩]:List Blk):=by
   show ([⟨.gen (h8c (b2 h (c0 + 128#64) (cy c0 c1) 18446744073709551615#64 (wrd b 0))),.own⟩,⟨.gen (c2c (c0 + 128#64) (cy c0 c1)),.own⟩,⟨.b8 b,.ro⟩]:List Blk) = _
   unfold cy
   rw [if_neg hc]
  rw [eo]
  refine ⟨[false],some [0,1,2],_,rG0 h c0 c1 b,?_⟩
  repeat' (refine all_true_cons ?_ ?_)
  all_goals first | exact all_true_nil | rfl | (simp only [beq_iff_eq,beq_true,beq_false,Bool.not_eq_true',decide_eq_true_eq,decide_eq_false_iff_not] <;> exact hc) | (simp only [bq] <;> omega)
def sp111g:Eng.Spec:=orSpec kLc.spec (orSpec kS.spec kG.spec)
theorem sp111g_ok:SpecOk Tryd.prog noGlob 111 sp111g:=SpecOk.or kLc_ok (SpecOk.or kS_ok kG_ok)
def specs109:FuncId → Option Eng.Spec
 | 111=>some sp111g
 | _=>none
theorem specs109_ok:∀ f sp,specs109 f = some sp → SpecOk Tryd.prog noGlob f sp:=by
 intro f sp h
 unfold specs109 at h
 split at h
 ·injection h with h;subst h;exact sp111g_ok
 ·cases h
end
section
open Go.Eng
variable [RowAddr] [Co] [SeatCo]
def h8b (y:H8):List (BitVec 8):=[(y.x0 >>> 0).setWidth 8,(y.x0 >>> 8).setWidth 8,(y.x0 >>> 16).setWidth 8,(y.x0 >>> 24).setWidth 8,(y.x0 >>> 32).setWidth 8,(y.x0 >>> 40).setWidth 8,(y.x0 >>> 48).setWidth 8,(y.x0 >>> 56).setWidth 8,(y.x1 >>> 0).setWidth 8,(y.x1 >>> 8).setWidth 8,(y.x1 >>> 16).setWidth 8,(y.x1 >>> 24).setWidth 8,(y.x1 >>> 32).setWidth 8,(y.x1 >>> 40).setWidth 8,(y.x1 >>> 48).setWidth 8,(y.x1 >>> 56).setWidth 8,(y.x2 >>> 0).setWidth 8,(y.x2 >>> 8).setWidth 8,(y.x2 >>> 16).setWidth 8,(y.x2 >>> 24).setWidth 8,(y.x2 >>> 32).setWidth 8,(y.x2 >>> 40).setWidth 8,(y.x2 >>> 48).setWidth 8,(y.x2 >>> 56).setWidth 8,(y.x3 >>> 0).setWidth 8,(y.x3 >>> 8).setWidth 8,(y.x3 >>> 16).setWidth 8,(y.x3 >>> 24).setWidth 8,(y.x3 >>> 32).setWidth 8,(y.x3 >>> 40).setWidth 8,(y.x3 >>> 48).setWidth 8,(y.x3 >>> 56).setWidth 8,(y.x4 >>> 0).setWidth 8,(y.x4 >>> 8).setWidth 8,(y.x4 >>> 16).setWidth 8,(y.x4 >>> 24).setWidth 8,(y.x4 >>> 32).setWidth 8,(y.x4 >>> 40).setWidth 8,(y.x4 >>> 48).setWidth 8,(y.x4 >>> 56).setWidth 8,(y.x5 >>> 0).setWidth 8,(y.x5 >>> 8).setWidth 8,(y.x5 >>> 16).setWidth 8,(y.x5 >>> 24).setWidth 8,(y.x5 >>> 32).setWidth 8,(y.x5 >>> 40).setWidth 8,(y.x5 >>> 48).setWidth 8,(y.x5 >>> 56).setWidth 8,(y.x6 >>> 0).setWidth 8,(y.x6 >>> 8).setWidth 8,(y.x6 >>> 16).setWidth 8,(y.x6 >>> 24).setWidth 8,(y.x6 >>> 32).setWidth 8,(y.x6 >>> 40).setWidth 8,(y.x6 >>> 48).setWidth 8,(y.x6 >>> 56).setWidth 8,(y.x7 >>> 0).setWidth 8,(y.x7 >>> 8).setWidth 8,(y.x7 >>> 16).setWidth 8,(y.x7 >>> 24).setWidth 8,(y.x7 >>> 32).setWidth 8,(y.x7 >>> 40).setWidth 8,(y.x7 >>> 48).setWidth 8,(y.x7 >>> 56).setWidth 8]
def lastX (xb:Vec 8) (nx:Int):Vec 8:=(Vec.of (List.replicate 128 0#8)).over 0 ((cpx xb).sub 0 (Nat.min nx.toNat 128))
def rmn (nx:Int):BitVec 64:=BitVec.ofInt 64 (128 - nx)
def sumK (h:H8) (c0 c1:BitVec 64) (xb:Vec 8) (nx:Int):H8:=b2 h (c0 - rmn nx + 128#64) (cy (c0 - rmn nx) c1) 18446744073709551615#64 (wrd (lastX xb nx) 0)
def sumH (h:H8) (c0 c1:BitVec 64) (xb:Vec 8) (nx:Int):H8:=if c0.toNat < (rmn nx).toNat then sumK h c0 (c1 - 1#64) xb nx else sumK h c0 c1 xb nx
def sumV (y:H8) (v:Vec 8) (o:Nat) (sz:Int):Vec 8:=v.over o ((Vec.of (h8b y)).sub 0 sz.toNat)
structure c107D where
 h:H8
 c0:BitVec 64
 c1:BitVec 64
 sz:Int
 xb:Vec 8
 nx:Int
 kb:Vec 8
 v:Vec 8
 o:Nat
 cp:Nat
def c107_rd (a:List AV) (K:List Blk):Option c107D:=
 match a with
 | [(.ref (.ptr 0 (.c 0))),(.ref (.sl 1 (.s o) (.c 0) (some (.s cp))))]=>
  match K with
  | [⟨(.gen ((.num (.w64 h0)) :: (.num (.w64 h1)) :: (.num (.w64 h2)) :: (.num (.w64 h3)) :: (.num (.w64 h4)) :: (.num (.w64 h5)) :: (.num (.w64 h6)) :: (.num (.w64 h7)) :: (.num (.w64 c0)) :: (.num (.w64 c1)) :: (.num (.int .i64 (.s sz))) :: ys_xb)),.own⟩,⟨(.b8 v),.own⟩]=>
   (match rd8 128 (ys_xb.take 128),ys_xb.drop 128 with
   | some xb,((.num (.int .i64 (.s nx))) :: ys_kb)=>
   (match rd8 128 (ys_kb.take 128),ys_kb.drop 128 with
   | some kb,[(.num (.int .i64 (.c 0)))]=>some ⟨⟨h0,h1,h2,h3,h4,h5,h6,h7⟩,c0,c1,sz,xb,nx,kb,v,o,cp⟩
   | _,_=>none)
   | _,_=>none)
  | _=>none
 | _=>none
def c107:Ct c107D where
 pat:=[(.ptr 0 (.c 0)),(.sl 1 (.s 0) (.c 0) (some (.s 0)))]
 patH:=[⟨(.gen ([(.w64 0#64),(.w64 0#64),(.w64 0#64),(.w64 0#64),(.w64 0#64),(.w64 0#64),(.w64 0#64),(.w64 0#64),(.w64 0#64),(.w64 0#64),(.int .i64 (.s 0))] ++ List.replicate 128 (.w8 0#8) ++ ([(.int .i64 (.s 0))] ++ List.replicate 128 (.w8 0#8) ++ [(.int .i64 (.c 0))]))),.own⟩,⟨(.b8 (Vec.zero 8 0)),.own⟩]
 read:=c107_rd
 args:=fun ⟨_,_,_,_,_,_,_,_,o,cp⟩=>[(.ptr 0 (.c 0)),(.sl 1 (.s o) (.c 0) (some (.s cp)))]
 heap:=fun ⟨h,c0,c1,sz,xb,nx,kb,v,_,_⟩=>[⟨(.gen ([(.w64 h.x0),(.w64 h.x1),(.w64 h.x2),(.w64 h.x3),(.w64 h.x4),(.w64 h.x5),(.w64 h.x6),(.w64 h.x7),(.w64 c0),(.w64 c1),(.int .i64 (.s sz))] ++ c8v xb 128 ++ ([(.int .i64 (.s nx))] ++ c8v kb 128 ++ [(.int .i64 (.c 0))]))),.own⟩,⟨(.b8 v),.own⟩]
 out:=fun ⟨h,c0,c1,sz,xb,nx,kb,v,o,_⟩=>[⟨(.gen (dgc h c0 c1 sz xb nx kb)),.own⟩,⟨(.b8 (sumV (sumH h c0 c1 xb nx) v o sz)),.own⟩]
 val:=fun ⟨_,_,_,sz,_,_,_,_,o,cp⟩=>(.sl 1 (.s o) (.s (0 + sz.toNat)) (some (.s cp)))
 good:=fun ⟨_,_,_,sz,_,nx,_,v,o,cp⟩=>decide (0 ≤ nx ∧ nx ≤ 128 ∧ 1 ≤ sz ∧ sz ≤ 64 ∧ sz.toNat ≤ cp ∧ o + cp ≤ v.n ∧ cp ≤ 1099511627776)
set_option maxRecDepth 100000 in
theorem c107_read (a:List AV) (K:List Blk) (d:c107D) (h:c107.read a K = some d):a = c107.args d ∧ K = c107.heap d:=by
 replace h:c107_rd a K = some d:=h
 unfold c107_rd at h
 split at h
 case h_2=>cases h
 split at h
 case h_2=>cases h
 split at h
 case h_2=>cases h
 rename_i hr hd
 obtain ⟨he,_⟩:=rd8_eq hr
 have ht:=(List.take_append_drop 128 _).symm.trans (congr (congrArg HAppend.hAppend he) hd)
 subst ht
 split at h
 case h_2=>cases h
 rename_i hr hd
 obtain ⟨he,_⟩:=rd8_eq hr
 have ht:=(List.take_append_drop 128 _).symm.trans (congr (congrArg HAppend.hAppend he) hd)
 subst ht
 injection h with h;subst h
 exact ⟨rfl,rfl⟩
theorem rS0 (h:H8) (c0 c1:BitVec 64) (sz:Int) (xb:Vec 8) (nx:Int) (kb v:Vec 8) (o cp:Nat):endsAs (c107.heap ⟨h,c0,c1,sz,xb,nx,kb,v,o,cp⟩).length (some [0,1]) [⟨.gen (dgc h c0 c1 sz xb nx kb),.own⟩,⟨.b8 (sumV (sumK h c0 c1 xb nx) v o sz),.own⟩] (.sl 1 (.s o) (.s (0 + sz.toNat)) (some (.s cp))) (goB specs109 noLoop 107 (c107.args ⟨h,c0,c1,sz,xb,nx,kb,v,o,cp⟩) ⟨c107.heap ⟨h,c0,c1,sz,xb,nx,kb,v,o,cp⟩,big,[false,true],[]⟩) = some ([⟨.gen (dgc h c0 c1 sz xb nx kb),.own⟩,⟨.b8 (sumV (sumK h c0 c1 xb nx) v o sz),.own⟩],(.sl 1 (.s o) (.s (0 + sz.toNat)) (some (.s cp))),[decide (((o + 0) + (((sz):Int).toNat - (0:Nat))) ≤ v.n),decide ((1:Nat) ≤ cp),(decide ((0 + (((sz):Int).toNat - (0:Nat))) ≤ cp) == true),decide (((0 + (((sz):Int).toNat - (0:Nat))) * 1) ≤ 1099511627776),decide (((0 + ((0:Nat) * 1)) + (((sz):Int).toNat - (0:Nat))) ≤ 64),((true && decide (((0:Nat):Int) ≤ sz)) && decide (sz ≤ ((64:Nat):Int))),decide ((128:Nat) = 128),decide ((128:Nat) ≤ 128),(decide ((c0).toNat < ((BitVec.ofInt 64 (128 - nx))).toNat) == false),decide ((((-9223372036854775808):Int) ≤ (128 - nx) ∧ (128 - nx) ≤ 9223372036854775807)),decide (((0 + ((0:Nat) * 1)) + (Nat.min (((nx):Int).toNat - (0:Nat)) (128:Nat))) ≤ 128),decide (((11:Nat) ≤ (11 + ((0:Nat) * 1)) ∧ ((11 + ((0:Nat) * 1)) + (Nat.min (((nx):Int).toNat - (0:Nat)) (128:Nat))) ≤ 139)),((true && decide (((0:Nat):Int) ≤ nx)) && decide (nx ≤ ((128:Nat):Int)))]):=by kernel_rfl
theorem rS1 (h:H8) (c0 c1:BitVec 64) (sz:Int) (xb:Vec 8) (nx:Int) (kb v:Vec 8) (o cp:Nat):endsAs (c107.heap ⟨h,c0,c1,sz,xb,nx,kb,v,o,cp⟩).length (some [0,1]) [⟨.gen (dgc h c0 c1 sz xb nx kb),.own⟩,⟨.b8 (sumV (sumK h c0 (c1 - 1#64) xb nx) v o sz),.own⟩] (.sl 1 (.s o) (.s (0 + sz.toNat)) (some (.s cp))) (goB specs109 noLoop 107 (c107.args ⟨h,c0,c1,sz,xb,nx,kb,v,o,cp⟩) ⟨c107.heap ⟨h,c0,c1,sz,xb,nx,kb,v,o,cp⟩,big,[true,true],[]⟩) = some ([⟨.gen (dgc h c0 c1 sz xb nx kb),.own⟩,⟨.b8 (sumV (sumK h c0 (c1 - 1#64) xb nx) v o sz),.own⟩],(.sl 1 (.s o) (.s (0 + sz.toNat)) (some (.s cp))),[decide (((o + 0) + (((sz):Int).toNat - (0:Nat))) ≤ v.n),decide ((1:Nat) ≤ cp),(decide ((0 + (((sz):Int).toNat - (0:Nat))) ≤ cp) == true),decide (((0 + (((sz):Int).toNat - (0:Nat))) * 1) ≤ 1099511627776),decide (((0 + ((0:Nat) * 1)) + (((sz):Int).toNat - (0:Nat))) ≤ 64),((true && decide (((0:Nat):Int) ≤ sz)) && decide (sz ≤ ((64:Nat):Int))),decide ((128:Nat) = 128),decide ((128:Nat) ≤ 128),(decide ((c0).toNat < ((BitVec.ofInt 64 (128 - nx))).toNat) == true),decide ((((-9223372036854775808):Int) ≤ (128 - nx) ∧ (128 - nx) ≤ 9223372036854775807)),decide (((0 + ((0:Nat) * 1)) + (Nat.min (((nx):Int).toNat - (0:Nat)) (128:Nat))) ≤ 128),decide (((11:Nat) ≤ (11 + ((0:Nat) * 1)) ∧ ((11 + ((0:Nat) * 1)) + (Nat.min (((nx):Int).toNat - (0:Nat)) (128:Nat))) ≤ 139)),((true && decide (((0:Nat):Int) ≤ nx)) && decide (nx ≤ ((128:Nat):Int)))]):=by kernel_rfl
theorem c107_ok:SpecOk Tryd.prog noGlob 107 c107.spec:=by
 refine c107.ok (goB_ok specs109_ok (no_loops _)) c107_read ?_
 rintro ⟨h,c0,c1,sz,xb,nx,kb,v,o,cp⟩ hg
 have hg:0 ≤ nx ∧ nx ≤ 128 ∧ 1 ≤ sz ∧ sz ≤ 64 ∧ sz.toNat ≤ cp ∧ o + cp ≤ v.n ∧ cp ≤ 1099511627776:=of_decide_eq_true hg
 have hmin:∀ a b:Nat,Nat.min a b = min a b:=fun _ _=>rfl
 by_cases hc:c0.toNat < (rmn nx).toNat
 ·have eo:c107.out ⟨h,c0,c1,sz,xb,nx,kb,v,o,cp⟩ = ([⟨.gen (dgc h c0 c1 sz xb nx kb),.own⟩,⟨.b8 (sumV (sumK h c0 (c1 - 1#64) xb nx) v o sz),.own⟩]:List Blk):=by
   show ([⟨.gen (dgc h c0 c1 sz xb nx kb),.own⟩,⟨.b8 (sumV (sumH h c0 c1 xb nx) v o sz),.own⟩]:List Blk) = _
   unfold sumH
   rw [if_pos hc]
  rw [eo]
  refine ⟨[true,true],some [0,1],_,rS1 h c0 c1 sz xb nx kb v o cp,?_⟩
  repeat' (refine all_true_cons ?_ ?_)
  all_goals first | exact all_true_nil | rfl | (simp only [beq_iff_eq,beq_true,beq_false,Bool.not_eq_true',decide_eq_true_eq,decide_eq_false_iff_not] <;> exact hc) | (simp only [bq,Int.toNat_natCast,hmin] <;> omega)
 ·have eo:c107.out ⟨h,c0,c1,sz,xb,nx,kb,v,o,cp⟩ = ([⟨.gen (dgc h c0 c1 sz xb nx kb),.own⟩,⟨.b8 (sumV (sumK h c0 c1 xb nx) v o sz),.own⟩]:List Blk):=by
   show ([⟨.gen (dgc h c0 c1 sz xb nx kb),.own⟩,⟨.b8 (sumV (sumH h c0 c1 xb nx) v o sz),.own⟩]:List Blk) = _
   unfold sumH
   rw [if_neg hc]
  rw [eo]
  refine ⟨[false,true],some [0,1],_,rS0 h c0 c1 sz xb nx kb v o cp,?_⟩
  repeat' (refine all_true_cons ?_ ?_)
  all_goals first | exact all_true_nil | rfl | (simp only [beq_iff_eq,beq_true,beq_false,Bool.not_eq_true',decide_eq_true_eq,decide_eq_false_iff_not] <;> exact hc) | (simp only [bq,Int.toNat_natCast,hmin] <;> omega)
end
section
open Go.Eng
variable [RowAddr] [Co] [SeatCo]
def specs108:FuncId → Option Eng.Spec
 | 111=>some sp111
 | _=>none
theorem specs108_ok:∀ f sp,specs108 f = some sp → SpecOk Tryd.prog noGlob f sp:=by
 intro f sp h
 unfold specs108 at h
 split at h
 ·injection h with h;subst h;exact sp111_ok
 ·cases h
def putX (xb:Vec 8) (nx:Int) (v:Vec 8) (o n:Nat):Vec 8:=(cpx xb).over (11 + nx.toNat * 1 - 11) (v.sub o (Nat.min n (128 - nx.toNat)))
def put0 (xb v:Vec 8) (o n:Nat):Vec 8:=(cpx xb).over 0 (v.sub o (Nat.min n 128))
def m128 (n:Nat):Int:=((Nat.min n 128:Nat):Int)
def fl (n:Nat):Nat:=(n - 1) / 128
def wrH (h:H8) (c0 c1:BitVec 64) (xb:Vec 8) (nx:Int) (v:Vec 8) (o np:Nat):H8:=
 if 0 < nx then
  if (np:Int) ≤ 128 - nx then h
  else b2All (b2 h (c0 + 128#64) c1 0#64 (wrd (putX xb nx v o (128 - nx).toNat) 0)) (c0 + 128#64) c1 v (o + (128 - nx).toNat) (fl (np - (128 - nx).toNat))
 else b2All h c0 c1 v o (fl np)
def wrC (c0:BitVec 64) (nx:Int) (np:Nat):BitVec 64:=
 if 0 < nx then
  if (np:Int) ≤ 128 - nx then c0
  else cA (c0 + 128#64) (fl (np - (128 - nx).toNat))
 else cA c0 (fl np)
def wrX (xb:Vec 8) (nx:Int) (v:Vec 8) (o np:Nat):Vec 8:=
 if 0 < nx then
  if (np:Int) ≤ 128 - nx then putX xb nx v o np
  else put0 (cpx (putX xb nx v o (128 - nx).toNat)) v (o + (128 - nx).toNat + 128 * fl (np - (128 - nx).toNat)) (np - (128 - nx).toNat - 128 * fl (np - (128 - nx).toNat))
 else if 0 < np then put0 xb v (o + 128 * fl np) (np - 128 * fl np) else xb
def wrN (nx:Int) (np:Nat):Int:=
 if 0 < nx then
  if (np:Int) ≤ 128 - nx then nx + np
  else (((np - (128 - nx).toNat) - 128 * fl (np - (128 - nx).toNat):Nat):Int)
 else ((np - 128 * fl np:Nat):Int)
structure c108D where
 h:H8
 c0:BitVec 64
 c1:BitVec 64
 sz:Int
 xb:Vec 8
 nx:Int
 kb:Vec 8
 v:Vec 8
 o:Nat
 np:Nat
def c108_rd (a:List AV) (K:List Blk):Option c108D:=
 match a with
 | [(.ref (.ptr 0 (.c 0))),(.ref (.sl 1 (.s o) (.s np) none))]=>
  match K with
  | [⟨(.gen ((.num (.w64 h0)) :: (.num (.w64 h1)) :: (.num (.w64 h2)) :: (.num (.w64 h3)) :: (.num (.w64 h4)) :: (.num (.w64 h5)) :: (.num (.w64 h6)) :: (.num (.w64 h7)) :: (.num (.w64 c0)) :: (.num (.w64 c1)) :: (.num (.int .i64 (.s sz))) :: ys_xb)),.own⟩,⟨(.b8 v),.ro⟩]=>
   (match rd8 128 (ys_xb.take 128),ys_xb.drop 128 with
   | some xb,((.num (.int .i64 (.s nx))) :: ys_kb)=>
   (match rd8 128 (ys_kb.take 128),ys_kb.drop 128 with
   | some kb,[(.num (.int .i64 (.c 0)))]=>some ⟨⟨h0,h1,h2,h3,h4,h5,h6,h7⟩,c0,c1,sz,xb,nx,kb,v,o,np⟩
   | _,_=>none)
   | _,_=>none)
  | _=>none
 | _=>none
def c108:Ct c108D where
 pat:=[(.ptr 0 (.c 0)),(.sl 1 (.s 0) (.s 0) none)]
 patH:=[⟨(.gen ([(.w64 0#64),(.w64 0#64),(.w64 0#64),(.w64 0#64),(.w64 0#64),(.w64 0#64),(.w64 0#64),(.w64 0#64),(.w64 0#64),(.w64 0#64),(.int .i64 (.s 0))] ++ List.replicate 128 (.w8 0#8) ++ ([(.int .i64 (.s 0))] ++ List.replicate 128 (.w8 0#8) ++ [(.int .i64 (.c 0))]))),.own⟩,⟨(.b8 (Vec.zero 8 0)),.ro⟩]
 read:=c108_rd
 args:=fun ⟨_,_,_,_,_,_,_,_,o,np⟩=>[(.ptr 0 (.c 0)),(.sl 1 (.s o) (.s np) none)]
 heap:=fun ⟨h,c0,c1,sz,xb,nx,kb,v,_,_⟩=>[⟨(.gen ([(.w64 h.x0),(.w64 h.x1),(.w64 h.x2),(.w64 h.x3),(.w64 h.x4),(.w64 h.x5),(.w64 h.x6),(.w64 h.x7),(.w64 c0),(.w64 c1),(.int .i64 (.s sz))] ++ c8v xb 128 ++ ([(.int .i64 (.s nx))] ++ c8v kb 128 ++ [(.int .i64 (.c 0))]))),.own⟩,⟨(.b8 v),.ro⟩]
 out:=fun ⟨h,c0,c1,sz,xb,nx,kb,v,o,np⟩=>[⟨(.gen (dgc (wrH h c0 c1 xb nx v o np) (wrC c0 nx np) c1 sz (wrX xb nx v o np) (wrN nx np) kb)),.own⟩,⟨(.b8 v),.ro⟩]
 val:=fun ⟨_,_,_,_,_,_,_,_,_,np⟩=>(.obj .tup [(.int .i64 (.s ((np:Nat):Int))),(.atom .nili)])
 good:=fun ⟨_,c0,_,_,_,nx,_,v,o,np⟩=>decide (0 ≤ nx ∧ nx ≤ 128 ∧ o + np ≤ v.n ∧ np ≤ 1099511627776 ∧ c0.toNat + np + 256 ≤ 1152921504606846976)
set_option maxRecDepth 100000 in
theorem c108_read (a:List AV) (K:List Blk) (d:c108D) (h:c108.read a K = some d):a = c108.args d ∧ K = c108.heap d:=by
 replace h:c108_rd a K = some d:=h
 unfold c108_rd at h
 split at h
 case h_2=>cases h
 split at h
 case h_2=>cases h
 split at h
 case h_2=>cases h
 rename_i hr hd
 obtain ⟨he,_⟩:=rd8_eq hr
 have ht:=(List.take_append_drop 128 _).symm.trans (congr (congrArg HAppend.hAppend he) hd)
 subst ht
 split at h
 case h_2=>cases h
 rename_i hr hd
 obtain ⟨he,_⟩:=rd8_eq hr
 have ht:=(List.take_append_drop 128 _).symm.trans (congr (congrArg HAppend.hAppend he) hd)
 subst ht
 injection h with h;subst h
 exact ⟨rfl,rfl⟩
theorem wZ (h:H8) (c0 c1:BitVec 64) (sz:Int) (xb:Vec 8) (nx:Int) (kb v:Vec 8) (o np:Nat):endsAs (c108.heap ⟨h,c0,c1,sz,xb,nx,kb,v,o,np⟩).length (some [0,1]) [⟨.gen (dgc h c0 c1 sz xb nx kb),.own⟩,⟨.b8 v,.ro⟩] (.obj .tup [.num (.int .i64 (.s ((np:Nat):Int))),.atom .nili]) (goB specs108 noLoop 108 (c108.args ⟨h,c0,c1,sz,xb,nx,kb,v,o,np⟩) ⟨c108.heap ⟨h,c0,c1,sz,xb,nx,kb,v,o,np⟩,big,[false,false,false],[]⟩) = some ([⟨.gen (dgc h c0 c1 sz xb nx kb),.own⟩,⟨.b8 v,.ro⟩],(.obj .tup [.num (.int .i64 (.s ((np:Nat):Int))),.atom .nili]),[(decide ((0:Int) < ((np:Nat):Int)) == false),(decide ((128:Int) < ((np:Nat):Int)) == false),(decide ((0:Int) < nx) == false)]):=by kernel_rfl
theorem wD (h:H8) (c0 c1:BitVec 64) (sz:Int) (xb:Vec 8) (nx:Int) (kb v:Vec 8) (o np:Nat):endsAs (c108.heap ⟨h,c0,c1,sz,xb,nx,kb,v,o,np⟩).length (some [0,1]) [⟨.gen (dgc h c0 c1 sz (put0 xb v o np) (nx + m128 np) kb),.own⟩,⟨.b8 v,.ro⟩] (.obj .tup [.num (.int .i64 (.s ((np:Nat):Int))),.atom .nili]) (goB specs108 noLoop 108 (c108.args ⟨h,c0,c1,sz,xb,nx,kb,v,o,np⟩) ⟨c108.heap ⟨h,c0,c1,sz,xb,nx,kb,v,o,np⟩,big,[false,false,true],[]⟩) = some ([⟨.gen (dgc h c0 c1 sz (put0 xb v o np) (nx + m128 np) kb),.own⟩,⟨.b8 v,.ro⟩],(.obj .tup [.num (.int .i64 (.s ((np:Nat):Int))),.atom .nili]),[decide ((((-9223372036854775808):Int) ≤ (nx + (((Nat.min np (128:Nat)):Nat):Int)) ∧ (nx + (((Nat.min np (128:Nat)):Nat):Int)) ≤ 9223372036854775807)),decide (((11:Nat) ≤ (11 + ((0:Nat) * 1)) ∧ ((11 + ((0:Nat) * 1)) + (Nat.min np (128:Nat))) ≤ 139)),decide ((o + (Nat.min np (128:Nat))) ≤ v.n),(decide ((0:Int) < ((np:Nat):Int)) == true),(decide ((128:Int) < ((np:Nat):Int)) == false),(decide ((0:Int) < nx) == false)]):=by kernel_rfl
theorem wN (h:H8) (c0 c1:BitVec 64) (sz:Int) (xb:Vec 8) (nx:Int) (kb v:Vec 8) (o np:Nat):endsAs (c108.heap ⟨h,c0,c1,sz,xb,nx,kb,v,o,np⟩).length (some [0,1]) [⟨.gen (dgc (b2All h c0 c1 v o ((andNotV .i64 ((np:Nat):Int) 127).toNat / 128)) (cA c0 ((andNotV .i64 ((np:Nat):Int) 127).toNat / 128)) c1 sz (put0 (cpx xb) v (o + (andNotV .i64 ((np:Nat):Int) 127).toNat) (np - (andNotV .i64 ((np:Nat):Int) 127).toNat)) (nx + m128 (np - (andNotV .i64 ((np:Nat):Int) 127).toNat)) kb),.own⟩,⟨.b8 v,.ro⟩] (.obj .tup [.num (.int .i64 (.s ((np:Nat):Int))),.atom .nili]) (goB specs108 noLoop 108 (c108.args ⟨h,c0,c1,sz,xb,nx,kb,v,o,np⟩) ⟨c108.heap ⟨h,c0,c1,sz,xb,nx,kb,v,o,np⟩,big,[false,true,false,true],[]⟩) = some ([⟨.gen (dgc (b2All h c0 c1 v o ((andNotV .i64 ((np:Nat):Int) 127).toNat / 128)) (cA c0 ((andNotV .i64 ((np:Nat):Int) 127).toNat / 128)) c1 sz (put0 (cpx xb) v (o + (andNotV .i64 ((np:Nat):Int) 127).toNat) (np - (andNotV .i64 ((np:Nat):Int) 127).toNat)) (nx + m128 (np - (andNotV .i64 ((np:Nat):Int) 127).toNat)) kb),.own⟩,⟨.b8 v,.ro⟩],(.obj .tup [.num (.int .i64 (.s ((np:Nat):Int))),.atom .nili]),[decide ((((-9223372036854775808):Int) ≤ (nx + (((Nat.min (np - (((andNotV .i64 ((np:Nat):Int) 127)):Int).toNat) (128:Nat)):Nat):Int)) ∧ (nx + (((Nat.min (np - (((andNotV .i64 ((np:Nat):Int) 127)):Int).toNat) (128:Nat)):Nat):Int)) ≤ 9223372036854775807)),decide (((11:Nat) ≤ (11 + ((0:Nat) * 1)) ∧ ((11 + ((0:Nat) * 1)) + (Nat.min (np - (((andNotV .i64 ((np:Nat):Int) 127)):Int).toNat) (128:Nat))) ≤ 139)),decide (((o + (((andNotV .i64 ((np:Nat):Int) 127)):Int).toNat) + (Nat.min (np - (((andNotV .i64 ((np:Nat):Int) 127)):Int).toNat) (128:Nat))) ≤ v.n),(decide ((0:Int) < (((np - (((andNotV .i64 ((np:Nat):Int) 127)):Int).toNat):Nat):Int)) == true),((decide ((0:Int) ≤ (andNotV .i64 ((np:Nat):Int) 127)) && decide ((andNotV .i64 ((np:Nat):Int) 127) ≤ ((np:Nat):Int))) && decide (((np:Nat):Int) ≤ ((np:Nat):Int))),decide ((((o + (0:Nat)) + ((((andNotV .i64 ((np:Nat):Int) 127)):Int).toNat - (0:Nat))) ≤ v.n ∧ (((((andNotV .i64 ((np:Nat):Int) 127)):Int).toNat - (0:Nat)) ≤ 1099511627776 ∧ ((((((andNotV .i64 ((np:Nat):Int) 127)):Int).toNat - (0:Nat)) % 128) = 0 ∧ ((c0).toNat + ((((andNotV .i64 ((np:Nat):Int) 127)):Int).toNat - (0:Nat))) ≤ 1152921504606846976)))),((true && decide (((0:Nat):Int) ≤ (andNotV .i64 ((np:Nat):Int) 127))) && decide ((andNotV .i64 ((np:Nat):Int) 127) ≤ ((np:Nat):Int))),((((np:Nat):Int) == (andNotV .i64 ((np:Nat):Int) 127)) == false),decide ((0:Int) ≤ 127),(decide ((128:Int) < ((np:Nat):Int)) == true),(decide ((0:Int) < nx) == false)]):=by kernel_rfl
theorem wQ (h:H8) (c0 c1:BitVec 64) (sz:Int) (xb:Vec 8) (nx:Int) (kb v:Vec 8) (o np:Nat):endsAs (c108.heap ⟨h,c0,c1,sz,xb,nx,kb,v,o,np⟩).length (some [0,1]) [⟨.gen (dgc (b2All h c0 c1 v o (((andNotV .i64 ((np:Nat):Int) 127) - 128).toNat / 128)) (cA c0 (((andNotV .i64 ((np:Nat):Int) 127) - 128).toNat / 128)) c1 sz (put0 (cpx xb) v (o + ((andNotV .i64 ((np:Nat):Int) 127) - 128).toNat) (np - ((andNotV .i64 ((np:Nat):Int) 127) - 128).toNat)) (nx + m128 (np - ((andNotV .i64 ((np:Nat):Int) 127) - 128).toNat)) kb),.own⟩,⟨.b8 v,.ro⟩] (.obj .tup [.num (.int .i64 (.s ((np:Nat):Int))),.atom .nili]) (goB specs108 noLoop 108 (c108.args ⟨h,c0,c1,sz,xb,nx,kb,v,o,np⟩) ⟨c108.heap ⟨h,c0,c1,sz,xb,nx,kb,v,o,np⟩,big,[false,true,true,true],[]⟩) = some ([⟨.gen (dgc (b2All h c0 c1 v o (((andNotV .i64 ((np:Nat):Int) 127) - 128).toNat / 128)) (cA c0 (((andNotV .i64 ((np:Nat):Int) 127) - 128).toNat / 128)) c1 sz (put0 (cpx xb) v (o + ((andNotV .i64 ((np:Nat):Int) 127) - 128).toNat) (np - ((andNotV .i64 ((np:Nat):Int) 127) - 128).toNat)) (nx + m128 (np - ((andNotV .i64 ((np:Nat):Int) 127) - 128).toNat)) kb),.own⟩,⟨.b8 v,.ro⟩],(.obj .tup [.num (.int .i64 (.s ((np:Nat):Int))),.atom .nili]),[decide ((((-9223372036854775808):Int) ≤ (nx + (((Nat.min (np - ((((andNotV .i64 ((np:Nat):Int) 127) - 128)):Int).toNat) (128:Nat)):Nat):Int)) ∧ (nx + (((Nat.min (np - ((((andNotV .i64 ((np:Nat):Int) 127) - 128)):Int).toNat) (128:Nat)):Nat):Int)) ≤ 9223372036854775807)),decide (((11:Nat) ≤ (11 + ((0:Nat) * 1)) ∧ ((11 + ((0:Nat) * 1)) + (Nat.min (np - ((((andNotV .i64 ((np:Nat):Int) 127) - 128)):Int).toNat) (128:Nat))) ≤ 139)),decide (((o + ((((andNotV .i64 ((np:Nat):Int) 127) - 128)):Int).toNat) + (Nat.min (np - ((((andNotV .i64 ((np:Nat):Int) 127) - 128)):Int).toNat) (128:Nat))) ≤ v.n),(decide ((0:Int) < (((np - ((((andNotV .i64 ((np:Nat):Int) 127) - 128)):Int).toNat):Nat):Int)) == true),((decide ((0:Int) ≤ ((andNotV .i64 ((np:Nat):Int) 127) - 128)) && decide (((andNotV .i64 ((np:Nat):Int) 127) - 128) ≤ ((np:Nat):Int))) && decide (((np:Nat):Int) ≤ ((np:Nat):Int))),decide ((((o + (0:Nat)) + (((((andNotV .i64 ((np:Nat):Int) 127) - 128)):Int).toNat - (0:Nat))) ≤ v.n ∧ ((((((andNotV .i64 ((np:Nat):Int) 127) - 128)):Int).toNat - (0:Nat)) ≤ 1099511627776 ∧ (((((((andNotV .i64 ((np:Nat):Int) 127) - 128)):Int).toNat - (0:Nat)) % 128) = 0 ∧ ((c0).toNat + (((((andNotV .i64 ((np:Nat):Int) 127) - 128)):Int).toNat - (0:Nat))) ≤ 1152921504606846976)))),((true && decide (((0:Nat):Int) ≤ ((andNotV .i64 ((np:Nat):Int) 127) - 128))) && decide (((andNotV .i64 ((np:Nat):Int) 127) - 128) ≤ ((np:Nat):Int))),decide ((((-9223372036854775808):Int) ≤ ((andNotV .i64 ((np:Nat):Int) 127) - 128) ∧ ((andNotV .i64 ((np:Nat):Int) 127) - 128) ≤ 9223372036854775807)),((((np:Nat):Int) == (andNotV .i64 ((np:Nat):Int) 127)) == true),decide ((0:Int) ≤ 127),(decide ((128:Int) < ((np:Nat):Int)) == true),(decide ((0:Int) < nx) == false)]):=by kernel_rfl
theorem wA (h:H8) (c0 c1:BitVec 64) (sz:Int) (xb:Vec 8) (nx:Int) (kb v:Vec 8) (o np:Nat):endsAs (c108.heap ⟨h,c0,c1,sz,xb,nx,kb,v,o,np⟩).length (some [0,1]) [⟨.gen (dgc h c0 c1 sz (putX xb nx v o np) (nx + ((Nat.min np (128 - nx.toNat):Nat):Int)) kb),.own⟩,⟨.b8 v,.ro⟩] (.obj .tup [.num (.int .i64 (.s ((np:Nat):Int))),.atom .nili]) (goB specs108 noLoop 108 (c108.args ⟨h,c0,c1,sz,xb,nx,kb,v,o,np⟩) ⟨c108.heap ⟨h,c0,c1,sz,xb,nx,kb,v,o,np⟩,big,[true,true],[]⟩) = some ([⟨.gen (dgc h c0 c1 sz (putX xb nx v o np) (nx + ((Nat.min np (128 - nx.toNat):Nat):Int)) kb),.own⟩,⟨.b8 v,.ro⟩],(.obj .tup [.num (.int .i64 (.s ((np:Nat):Int))),.atom .nili]),[decide ((((-9223372036854775808):Int) ≤ (nx + (((Nat.min np ((128:Nat) - ((nx):Int).toNat)):Nat):Int)) ∧ (nx + (((Nat.min np ((128:Nat) - ((nx):Int).toNat)):Nat):Int)) ≤ 9223372036854775807)),decide (((11:Nat) ≤ (11 + (((nx):Int).toNat * 1)) ∧ ((11 + (((nx):Int).toNat * 1)) + (Nat.min np ((128:Nat) - ((nx):Int).toNat))) ≤ 139)),decide ((o + (Nat.min np ((128:Nat) - ((nx):Int).toNat))) ≤ v.n),((decide ((0:Int) ≤ nx) && decide (nx ≤ ((128:Nat):Int))) && true),(decide (((np:Nat):Int) ≤ (128 - nx)) == true),decide ((((-9223372036854775808):Int) ≤ (128 - nx) ∧ (128 - nx) ≤ 9223372036854775807)),(decide ((0:Int) < nx) == true)]):=by kernel_rfl
theorem wBD (h:H8) (c0 c1:BitVec 64) (sz:Int) (xb:Vec 8) (nx:Int) (kb v:Vec 8) (o np:Nat):endsAs (c108.heap ⟨h,c0,c1,sz,xb,nx,kb,v,o,np⟩).length (some [0,1]) [⟨.gen (dgc (b2 h (c0 + 128#64) c1 0#64 (wrd (putX xb nx v o (128 - nx).toNat) 0)) (c0 + 128#64) c1 sz (put0 (cpx (putX xb nx v o (128 - nx).toNat)) v (o + (128 - nx).toNat) (np - (128 - nx).toNat)) (0 + m128 (np - (128 - nx).toNat)) kb),.own⟩,⟨.b8 v,.ro⟩] (.obj .tup [.num (.int .i64 (.s ((np:Nat):Int))),.atom .nili]) (goB specs108 noLoop 108 (c108.args ⟨h,c0,c1,sz,xb,nx,kb,v,o,np⟩) ⟨c108.heap ⟨h,c0,c1,sz,xb,nx,kb,v,o,np⟩,big,[true,false,false,true],[]⟩) = some ([⟨.gen (dgc (b2 h (c0 + 128#64) c1 0#64 (wrd (putX xb nx v o (128 - nx).toNat) 0)) (c0 + 128#64) c1 sz (put0 (cpx (putX xb nx v o (128 - nx).toNat)) v (o + (128 - nx).toNat) (np - (128 - nx).toNat)) (0 + m128 (np - (128 - nx).toNat)) kb),.own⟩,⟨.b8 v,.ro⟩],(.obj .tup [.num (.int .i64 (.s ((np:Nat):Int))),.atom .nili]),[decide ((((-9223372036854775808):Int) ≤ (0 + (((Nat.min (np - (((128 - nx)):Int).toNat) (128:Nat)):Nat):Int)) ∧ (0 + (((Nat.min (np - (((128 - nx)):Int).toNat) (128:Nat)):Nat):Int)) ≤ 9223372036854775807)),decide (((11:Nat) ≤ (11 + ((0:Nat) * 1)) ∧ ((11 + ((0:Nat) * 1)) + (Nat.min (np - (((128 - nx)):Int).toNat) (128:Nat))) ≤ 139)),decide (((o + (((128 - nx)):Int).toNat) + (Nat.min (np - (((128 - nx)):Int).toNat) (128:Nat))) ≤ v.n),(decide ((0:Int) < (((np - (((128 - nx)):Int).toNat):Nat):Int)) == true),(decide ((128:Int) < (((np - (((128 - nx)):Int).toNat):Nat):Int)) == false),((decide ((0:Int) ≤ (128 - nx)) && decide ((128 - nx) ≤ ((np:Nat):Int))) && decide (((np:Nat):Int) ≤ ((np:Nat):Int))),decide ((¬(c0 + 128#64).toNat < (128#64).toNat)),decide (((11:Nat) ≤ (11 + (((nx):Int).toNat * 1)) ∧ ((11 + (((nx):Int).toNat * 1)) + (Nat.min ((((128 - nx)):Int).toNat - (0:Nat)) ((128:Nat) - ((nx):Int).toNat))) ≤ 139)),decide (((o + (0:Nat)) + (Nat.min ((((128 - nx)):Int).toNat - (0:Nat)) ((128:Nat) - ((nx):Int).toNat))) ≤ v.n),((true && decide (((0:Nat):Int) ≤ (128 - nx))) && decide ((128 - nx) ≤ ((np:Nat):Int))),((decide ((0:Int) ≤ nx) && decide (nx ≤ ((128:Nat):Int))) && true),(decide (((np:Nat):Int) ≤ (128 - nx)) == false),decide ((((-9223372036854775808):Int) ≤ (128 - nx) ∧ (128 - nx) ≤ 9223372036854775807)),(decide ((0:Int) < nx) == true)]):=by kernel_rfl
theorem wBN (h:H8) (c0 c1:BitVec 64) (sz:Int) (xb:Vec 8) (nx:Int) (kb v:Vec 8) (o np:Nat):endsAs (c108.heap ⟨h,c0,c1,sz,xb,nx,kb,v,o,np⟩).length (some [0,1]) [⟨.gen (dgc (b2All (b2 h (c0 + 128#64) c1 0#64 (wrd (putX xb nx v o (128 - nx).toNat) 0)) (c0 + 128#64) c1 v (o + (128 - nx).toNat) ((andNotV .i64 (((np - (128 - nx).toNat):Nat):Int) 127).toNat / 128)) (cA (c0 + 128#64) ((andNotV .i64 (((np - (128 - nx).toNat):Nat):Int) 127).toNat / 128)) c1 sz (put0 (cpx (cpx (putX xb nx v o (128 - nx).toNat))) v ((o + (128 - nx).toNat) + (andNotV .i64 (((np - (128 - nx).toNat):Nat):Int) 127).toNat) ((np - (128 - nx).toNat) - (andNotV .i64 (((np - (128 - nx).toNat):Nat):Int) 127).toNat)) (0 + m128 ((np - (128 - nx).toNat) - (andNotV .i64 (((np - (128 - nx).toNat):Nat):Int) 127).toNat)) kb),.own⟩,⟨.b8 v,.ro⟩] (.obj .tup [.num (.int .i64 (.s ((np:Nat):Int))),.atom .nili]) (goB specs108 noLoop 108 (c108.args ⟨h,c0,c1,sz,xb,nx,kb,v,o,np⟩) ⟨c108.heap ⟨h,c0,c1,sz,xb,nx,kb,v,o,np⟩,big,[true,false,true,false,true],[]⟩) = some ([⟨.gen (dgc (b2All (b2 h (c0 + 128#64) c1 0#64 (wrd (putX xb nx v o (128 - nx).toNat) 0)) (c0 + 128#64) c1 v (o + (128 - nx).toNat) ((andNotV .i64 (((np - (128 - nx).toNat):Nat):Int) 127).toNat / 128)) (cA (c0 + 128#64) ((andNotV .i64 (((np - (128 - nx).toNat):Nat):Int) 127).toNat / 128)) c1 sz (put0 (cpx (cpx (putX xb nx v o (128 - nx).toNat))) v ((o + (128 - nx).toNat) + (andNotV .i64 (((np - (128 - nx).toNat):Nat):Int) 127).toNat) ((np - (128 - nx).toNat) - (andNotV .i64 (((np - (128 - nx).toNat):Nat):Int) 127).toNat)) (0 + m128 ((np - (128 - nx).toNat) - (andNotV .i64 (((np - (128 - nx).toNat):Nat):Int) 127).toNat)) kb),.own⟩,⟨.b8 v,.ro⟩],(.obj .tup [.num (.int .i64 (.s ((np:Nat):Int))),.atom .nili]),[decide ((((-9223372036854775808):Int) ≤ (0 + (((Nat.min ((((((np - (((128 - nx)):Int).toNat):Nat):Int)):Int).toNat - (((andNotV .i64 (((np - (((128 - nx)):Int).toNat):Nat):Int) 127)):Int).toNat) (128:Nat)):Nat):Int)) ∧ (0 + (((Nat.min ((((((np - (((128 - nx)):Int).toNat):Nat):Int)):Int).toNat - (((andNotV .i64 (((np - (((128 - nx)):Int).toNat):Nat):Int) 127)):Int).toNat) (128:Nat)):Nat):Int)) ≤ 9223372036854775807)),decide (((11:Nat) ≤ (11 + ((0:Nat) * 1)) ∧ ((11 + ((0:Nat) * 1)) + (Nat.min ((((((np - (((128 - nx)):Int).toNat):Nat):Int)):Int).toNat - (((andNotV .i64 (((np - (((128 - nx)):Int).toNat):Nat):Int) 127)):Int).toNat) (128:Nat))) ≤ 139)),decide ((((o + (((128 - nx)):Int).toNat) + (((andNotV .i64 (((np - (((128 - nx)):Int).toNat):Nat):Int) 127)):Int).toNat) + (Nat.min ((((((np - (((128 - nx)):Int).toNat):Nat):Int)):Int).toNat - (((andNotV .i64 (((np - (((128 - nx)):Int).toNat):Nat):Int) 127)):Int).toNat) (128:Nat))) ≤ v.n),(decide ((0:Int) < ((((((((np - (((128 - nx)):Int).toNat):Nat):Int)):Int).toNat - (((andNotV .i64 (((np - (((128 - nx)):Int).toNat):Nat):Int) 127)):Int).toNat):Nat):Int)) == true),((decide ((0:Int) ≤ (andNotV .i64 (((np - (((128 - nx)):Int).toNat):Nat):Int) 127)) && decide ((andNotV .i64 (((np - (((128 - nx)):Int).toNat):Nat):Int) 127) ≤ (((np - (((128 - nx)):Int).toNat):Nat):Int))) && decide ((((np - (((128 - nx)):Int).toNat):Nat):Int) ≤ (((np - (((128 - nx)):Int).toNat):Nat):Int))),decide (((((o + (((128 - nx)):Int).toNat) + (0:Nat)) + ((((andNotV .i64 (((np - (((128 - nx)):Int).toNat):Nat):Int) 127)):Int).toNat - (0:Nat))) ≤ v.n ∧ (((((andNotV .i64 (((np - (((128 - nx)):Int).toNat):Nat):Int) 127)):Int).toNat - (0:Nat)) ≤ 1099511627776 ∧ ((((((andNotV .i64 (((np - (((128 - nx)):Int).toNat):Nat):Int) 127)):Int).toNat - (0:Nat)) % 128) = 0 ∧ (((c0 + (128#64))).toNat + ((((andNotV .i64 (((np - (((128 - nx)):Int).toNat):Nat):Int) 127)):Int).toNat - (0:Nat))) ≤ 1152921504606846976)))),((true && decide (((0:Nat):Int) ≤ (andNotV .i64 (((np - (((128 - nx)):Int).toNat):Nat):Int) 127))) && decide ((andNotV .i64 (((np - (((128 - nx)):Int).toNat):Nat):Int) 127) ≤ (((np - (((128 - nx)):Int).toNat):Nat):Int))),(((((np - (((128 - nx)):Int).toNat):Nat):Int) == (andNotV .i64 (((np - (((128 - nx)):Int).toNat):Nat):Int) 127)) == false),decide ((0:Int) ≤ 127),(decide ((128:Int) < (((np - (((128 - nx)):Int).toNat):Nat):Int)) == true),((decide ((0:Int) ≤ (128 - nx)) && decide ((128 - nx) ≤ ((np:Nat):Int))) && decide (((np:Nat):Int) ≤ ((np:Nat):Int))),decide ((¬(c0 + 128#64).toNat < (128#64).toNat)),decide (((11:Nat) ≤ (11 + (((nx):Int).toNat * 1)) ∧ ((11 + (((nx):Int).toNat * 1)) + (Nat.min ((((128 - nx)):Int).toNat - (0:Nat)) ((128:Nat) - ((nx):Int).toNat))) ≤ 139)),decide (((o + (0:Nat)) + (Nat.min ((((128 - nx)):Int).toNat - (0:Nat)) ((128:Nat) - ((nx):Int).toNat))) ≤ v.n),((true && decide (((0:Nat):Int) ≤ (128 - nx))) && decide ((128 - nx) ≤ ((np:Nat):Int))),((decide ((0:Int) ≤ nx) && decide (nx ≤ ((128:Nat):Int))) && true),(decide (((np:Nat):Int) ≤ (128 - nx)) == false),decide ((((-9223372036854775808):Int) ≤ (128 - nx) ∧ (128 - nx) ≤ 9223372036854775807)),(decide ((0:Int) < nx) == true)]):=by kernel_rfl
theorem wBQ (h:H8) (c0 c1:BitVec 64) (sz:Int) (xb:Vec 8) (nx:Int) (kb v:Vec 8) (o np:Nat):endsAs (c108.heap ⟨h,c0,c1,sz,xb,nx,kb,v,o,np⟩).length (some [0,1]) [⟨.gen (dgc (b2All (b2 h (c0 + 128#64) c1 0#64 (wrd (putX xb nx v o (128 - nx).toNat) 0)) (c0 + 128#64) c1 v (o + (128 - nx).toNat) (((andNotV .i64 (((np - (128 - nx).toNat):Nat):Int) 127) - 128).toNat / 128)) (cA (c0 + 128#64) (((andNotV .i64 (((np - (128 - nx).toNat):Nat):Int) 127) - 128).toNat / 128)) c1 sz (put0 (cpx (cpx (putX xb nx v o (128 - nx).toNat))) v ((o + (128 - nx).toNat) + ((andNotV .i64 (((np - (128 - nx).toNat):Nat):Int) 127) - 128).toNat) ((np - (128 - nx).toNat) - ((andNotV .i64 (((np - (128 - nx).toNat):Nat):Int) 127) - 128).toNat)) (0 + m128 ((np - (128 - nx).toNat) - ((andNotV .i64 (((np - (128 - nx).toNat):Nat):Int) 127) - 128).toNat)) kb),.own⟩,⟨.b8 v,.ro⟩] (.obj .tup [.num (.int .i64 (.s ((np:Nat):Int))),.atom .nili]) (goB specs108 noLoop 108 (c108.args ⟨h,c0,c1,sz,xb,nx,kb,v,o,np⟩) ⟨c108.heap ⟨h,c0,c1,sz,xb,nx,kb,v,o,np⟩,big,[true,false,true,true,true],[]⟩) = some ([⟨.gen (dgc (b2All (b2 h (c0 + 128#64) c1 0#64 (wrd (putX xb nx v o (128 - nx).toNat) 0)) (c0 + 128#64) c1 v (o + (128 - nx).toNat) (((andNotV .i64 (((np - (128 - nx).toNat):Nat):Int) 127) - 128).toNat / 128)) (cA (c0 + 128#64) (((andNotV .i64 (((np - (128 - nx).toNat):Nat):Int) 127) - 128).toNat / 128)) c1 sz (put0 (cpx (cpx (putX xb nx v o (128 - nx).toNat))) v ((o + (128 - nx).toNat) + ((andNotV .i64 (((np - (128 - nx).toNat):Nat):Int) 127) - 128).toNat) ((np - (128 - nx).toNat) - ((andNotV .i64 (((np - (128 - nx).toNat):Nat):Int) 127) - 128).toNat)) (0 + m128 ((np - (128 - nx).toNat) - ((andNotV .i64 (((np - (128 - nx).toNat):Nat):Int) 127) - 128).toNat)) kb),.own⟩,⟨.b8 v,.ro⟩],(.obj .tup [.num (.int .i64 (.s ((np:Nat):Int))),.atom .nili]),[decide ((((-9223372036854775808):Int) ≤ (0 + (((Nat.min ((((((np - (((128 - nx)):Int).toNat):Nat):Int)):Int).toNat - ((((andNotV .i64 (((np - (((128 - nx)):Int).toNat):Nat):Int) 127) - 128)):Int).toNat) (128:Nat)):Nat):Int)) ∧ (0 + (((Nat.min ((((((np - (((128 - nx)):Int).toNat):Nat):Int)):Int).toNat - ((((andNotV .i64 (((np - (((128 - nx)):Int).toNat):Nat):Int) 127) - 128)):Int).toNat) (128:Nat)):Nat):Int)) ≤ 9223372036854775807)),decide (((11:Nat) ≤ (11 + ((0:Nat) * 1)) ∧ ((11 + ((0:Nat) * 1)) + (Nat.min ((((((np - (((128 - nx)):Int).toNat):Nat):Int)):Int).toNat - ((((andNotV .i64 (((np - (((128 - nx)):Int).toNat):Nat):Int) 127) - 128)):Int).toNat) (128:Nat))) ≤ 139)),decide ((((o + (((128 - nx)):Int).toNat) + ((((andNotV .i64 (((np - (((128 - nx)):Int).toNat):Nat):Int) 127) - 128)):Int).toNat) + (Nat.min ((((((np - (((128 - nx)):Int).toNat):Nat):Int)):Int).toNat - ((((andNotV .i64 (((np - (((128 - nx)):Int).toNat):Nat):Int) 127) - 128)):Int).toNat) (128:Nat))) ≤ v.n),(decide ((0:Int) < ((((((((np - (((128 - nx)):Int).toNat):Nat):Int)):Int).toNat - ((((andNotV .i64 (((np - (((128 - nx)):Int).toNat):Nat):Int) 127) - 128)):Int).toNat):Nat):Int)) == true),((decide ((0:Int) ≤ ((andNotV .i64 (((np - (((128 - nx)):Int).toNat):Nat):Int) 127) - 128)) && decide (((andNotV .i64 (((np - (((128 - nx)):Int).toNat):Nat):Int) 127) - 128) ≤ (((np - (((128 - nx)):Int).toNat):Nat):Int))) && decide ((((np - (((128 - nx)):Int).toNat):Nat):Int) ≤ (((np - (((128 - nx)):Int).toNat):Nat):Int))),decide (((((o + (((128 - nx)):Int).toNat) + (0:Nat)) + (((((andNotV .i64 (((np - (((128 - nx)):Int).toNat):Nat):Int) 127) - 128)):Int).toNat - (0:Nat))) ≤ v.n ∧ ((((((andNotV .i64 (((np - (((128 - nx)):Int).toNat):Nat):Int) 127) - 128)):Int).toNat - (0:Nat)) ≤ 1099511627776 ∧ (((((((andNotV .i64 (((np - (((128 - nx)):Int).toNat):Nat):Int) 127) - 128)):Int).toNat - (0:Nat)) % 128) = 0 ∧ (((c0 + (128#64))).toNat + (((((andNotV .i64 (((np - (((128 - nx)):Int).toNat):Nat):Int) 127) - 128)):Int).toNat - (0:Nat))) ≤ 1152921504606846976)))),((true && decide (((0:Nat):Int) ≤ ((andNotV .i64 (((np - (((128 - nx)):Int).toNat):Nat):Int) 127) - 128))) && decide (((andNotV .i64 (((np - (((128 - nx)):Int).toNat):Nat):Int) 127) - 128) ≤ (((np - (((128 - nx)):Int).toNat):Nat):Int))),decide ((((-9223372036854775808):Int) ≤ ((andNotV .i64 (((np - (((128 - nx)):Int).toNat):Nat):Int) 127) - 128) ∧ ((andNotV .i64 (((np - (((128 - nx)):Int).toNat):Nat):Int) 127) - 128) ≤ 9223372036854775807)),(((((np - (((128 - nx)):Int).toNat):Nat):Int) == (andNotV .i64 (((np - (((128 - nx)):Int).toNat):Nat):Int) 127)) == true),decide ((0:Int) ≤ 127),(decide ((128:Int) < (((np - (((128 - nx)):Int).toNat):Nat):Int)) == true),((decide ((0:Int) ≤ (128 - nx)) && decide ((128 - nx) ≤ ((np:Nat):Int))) && decide (((np:Nat):Int) ≤ ((np:Nat):Int))),decide ((¬(c0 + 128#64).toNat < (128#64).toNat)),decide (((11:Nat) ≤ (11 + (((nx):Int).toNat * 1)) ∧ ((11 + (((nx):Int).toNat * 1)) + (Nat.min ((((128 - nx)):Int).toNat - (0:Nat)) ((128:Nat) - ((nx):Int).toNat))) ≤ 139)),decide (((o + (0:Nat)) + (Nat.min ((((128 - nx)):Int).toNat - (0:Nat)) ((128:Nat) - ((nx):Int).toNat))) ≤ v.n),((true && decide (((0:Nat):Int) ≤ (128 - nx))) && decide ((128 - nx) ≤ ((np:Nat):Int))),((decide ((0:Int) ≤ nx) && decide (nx ≤ ((128:Nat):Int))) && true),(decide (((np:Nat):Int) ≤ (128 - nx)) == false),decide ((((-9223372036854775808):Int) ≤ (128 - nx) ∧ (128 - nx) ≤ 9223372036854775807)),(decide ((0:Int) < nx) == true)]):=by kernel_rfl
end
section
open Go.Eng
variable [RowAddr] [Co] [SeatCo]
theorem andNot_nat (n:Nat) (h:n ≤ 1099511627776):andNotV .i64 (n:Int) 127 = ((128 * (n / 128):Nat):Int):=by
 have e:(BitVec.ofInt 64 (n:Int) &&& ~~~ BitVec.ofInt 64 127) = (BitVec.ofInt 64 (n:Int) >>> 7) <<< 7:=by
  apply BitVec.eq_of_getLsbD_eq
  intro i hi
  have h7:(BitVec.ofInt 64 127).getLsbD i = decide (i < 7):=by
   show (BitVec.ofNat 64 (2 ^ 7 - 1)).getLsbD i = _
   rw [BitVec.getLsbD_ofNat,Nat.testBit_two_pow_sub_one]
   simp [hi]
  rw [BitVec.getLsbD_and,BitVec.getLsbD_not,h7,BitVec.getLsbD_shiftLeft,BitVec.getLsbD_ushiftRight]
  by_cases h':i < 7
  ·simp [h']
  ·simp [h',hi,show 7 + (i - 7) = i by omega]
 have e2:(BitVec.ofInt 64 (n:Int)).toNat = n:=by rw [BitVec.ofInt_natCast,BitVec.toNat_ofNat];omega
 have e3:((BitVec.ofInt 64 (n:Int) >>> 7) <<< 7).toNat = 128 * (n / 128):=by
  rw [BitVec.toNat_shiftLeft,BitVec.toNat_ushiftRight,e2,Nat.shiftLeft_eq,Nat.shiftRight_eq_div_pow]
  omega
 unfold andNotV
 show IntKind.i64.wrap (((BitVec.ofInt 64 (n:Int) &&& ~~~ BitVec.ofInt 64 127).toNat:Nat):Int) = _
 rw [e,e3]
 exact wrap_in .i64 _ (by show (-9223372036854775808:Int) ≤ _;omega) (by show _ ≤ (9223372036854775807:Int);omega)
theorem cpx_cpx (x:Vec 8):cpx (cpx x) = cpx x:=by
 have e:(List.range 128).map (fun i=>(cpx x).l.getD i 0#8) = (List.range 128).map (fun i=>x.l.getD i 0#8):=by
  refine List.map_congr_left fun i hi=>?_
  have hi:=List.mem_range.1 hi
  show ((List.range 128).map fun i=>x.l.getD i 0#8).getD i 0#8 = _
  simp [List.getD_eq_getElem?_getD,hi]
 show Vec.of _ = Vec.of _
 rw [e]
theorem put0_cpx (x v:Vec 8) (o n:Nat):put0 (cpx x) v o n = put0 x v o n:=by
 unfold put0;rw [cpx_cpx]
theorem c108_ok:SpecOk Tryd.prog noGlob 108 c108.spec:=by
 refine c108.ok (goB_ok specs108_ok (no_loops _)) c108_read ?_
 rintro ⟨h,c0,c1,sz,xb,nx,kb,v,o,np⟩ hg
 have hg:0 ≤ nx ∧ nx ≤ 128 ∧ o + np ≤ v.n ∧ np ≤ 1099511627776 ∧ c0.toNat + np + 256 ≤ 1152921504606846976:=of_decide_eq_true hg
 have hmin:∀ a b:Nat,Nat.min a b = min a b:=fun _ _=>rfl
 have e128:(128#64).toNat = 128:=rfl
 have ec:(c0 + 128#64).toNat = c0.toNat + 128:=by have:=c0.isLt;rw [BitVec.toNat_add,e128];omega
 have ea:=andNot_nat np (by omega)
 have eb:=andNot_nat (np - (128 - nx).toNat) (by omega)
 by_cases h1:0 < nx
 ·by_cases h2:(np:Int) ≤ 128 - nx
  ·have eH:wrH h c0 c1 xb nx v o np = h:=by
    unfold wrH;simp only [if_pos h1,if_pos h2]
   have eC:wrC c0 nx np = c0:=by
    unfold wrC;simp only [if_pos h1,if_pos h2]
   have eX:wrX xb nx v o np = (putX xb nx v o np):=by
    unfold wrX;simp only [if_pos h1,if_pos h2]
   have eN:wrN nx np = (nx + ((Nat.min np (128 - nx.toNat):Nat):Int)):=by
    unfold wrN;simp only [if_pos h1,if_pos h2];rw [hmin];omega
   have eo:c108.out ⟨h,c0,c1,sz,xb,nx,kb,v,o,np⟩ = ([⟨.gen (dgc h c0 c1 sz (putX xb nx v o np) (nx + ((Nat.min np (128 - nx.toNat):Nat):Int)) kb),.own⟩,⟨.b8 v,.ro⟩]:List Blk):=by
    show ([⟨.gen (dgc (wrH h c0 c1 xb nx v o np) (wrC c0 nx np) c1 sz (wrX xb nx v o np) (wrN nx np) kb),.own⟩,⟨.b8 v,.ro⟩]:List Blk) = _
    rw [eH,eC,eX,eN]
   rw [eo]
   refine ⟨[true,true],some [0,1],_,wA h c0 c1 sz xb nx kb v o np,?_⟩
   repeat' (refine all_true_cons ?_ ?_)
   all_goals first | exact all_true_nil | rfl | (simp only [bq,Int.toNat_natCast,hmin,ea,eb] <;> omega)
  ·generalize hL:np - (128 - nx).toNat = L at *
   by_cases h3:L ≤ 128
   ·have hf:fl L = 0:=by unfold fl;omega
    have eH:wrH h c0 c1 xb nx v o np = (b2 h (c0 + 128#64) c1 0#64 (wrd (putX xb nx v o (128 - nx).toNat) 0)):=by
     unfold wrH;simp only [if_pos h1,if_neg h2,hL,hf];rfl
    have eC:wrC c0 nx np = (c0 + 128#64):=by
     unfold wrC;simp only [if_pos h1,if_neg h2,hL,hf];rfl
    have eX:wrX xb nx v o np = (put0 (cpx (putX xb nx v o (128 - nx).toNat)) v (o + (128 - nx).toNat) L):=by
     unfold wrX;simp only [if_pos h1,if_neg h2,hL,hf];simp only [Nat.mul_zero,Nat.add_zero,Nat.sub_zero]
    have eN:wrN nx np = (0 + m128 L):=by
     unfold wrN;simp only [if_pos h1,if_neg h2,hL,hf];unfold m128;rw [hmin];omega
    have eo:c108.out ⟨h,c0,c1,sz,xb,nx,kb,v,o,np⟩ = ([⟨.gen (dgc (b2 h (c0 + 128#64) c1 0#64 (wrd (putX xb nx v o (128 - nx).toNat) 0)) (c0 + 128#64) c1 sz (put0 (cpx (putX xb nx v o (128 - nx).toNat)) v (o + (128 - nx).toNat) L) (0 + m128 L) kb),.own⟩,⟨.b8 v,.ro⟩]:List Blk):=by
     show ([⟨.gen (dgc (wrH h c0 c1 xb nx v o np) (wrC c0 nx np) c1 sz (wrX xb nx v o np) (wrN nx np) kb),.own⟩,⟨.b8 v,.ro⟩]:List Blk) = _
     rw [eH,eC,eX,eN]
    rw [eo]
    have hrun:=wBD h c0 c1 sz xb nx kb v o np
    rw [hL] at hrun
    refine ⟨[true,false,false,true],some [0,1],_,hrun,?_⟩
    repeat' (refine all_true_cons ?_ ?_)
    all_goals first | exact all_true_nil | rfl | (simp only [bq,Int.toNat_natCast,hmin,hL,ea,eb] <;> omega)
   ·by_cases h4:((L:Nat):Int) = andNotV .i64 ((L:Nat):Int) 127
    ·rw [eb] at h4
     have hm:((andNotV .i64 ((L:Nat):Int) 127) - 128).toNat = 128 * fl L:=by rw [eb];unfold fl;omega
     have hd:128 * fl L / 128 = fl L:=by omega
     have hlt:L - 128 * fl L ≤ 128 ∧ 128 * fl L ≤ L ∧ 1 ≤ L - 128 * fl L:=by unfold fl;omega
     have eH:wrH h c0 c1 xb nx v o np = (b2All (b2 h (c0 + 128#64) c1 0#64 (wrd (putX xb nx v o (128 - nx).toNat) 0)) (c0 + 128#64) c1 v (o + (128 - nx).toNat) (((andNotV .i64 ((L:Nat):Int) 127) - 128).toNat / 128)):=by
      unfold wrH;simp only [if_pos h1,if_neg h2,hL,hm,hd]
     have eC:wrC c0 nx np = (cA (c0 + 128#64) (((andNotV .i64 ((L:Nat):Int) 127) - 128).toNat / 128)):=by
      unfold wrC;simp only [if_pos h1,if_neg h2,hL,hm,hd]
     have eX:wrX xb nx v o np = (put0 (cpx (cpx (putX xb nx v o (128 - nx).toNat))) v ((o + (128 - nx).toNat) + ((andNotV .i64 ((L:Nat):Int) 127) - 128).toNat) (L - ((andNotV .i64 ((L:Nat):Int) 127) - 128).toNat)):=by
      unfold wrX;simp only [if_pos h1,if_neg h2,hL,hm,put0_cpx]
     have eN:wrN nx np = (0 + m128 (L - ((andNotV .i64 ((L:Nat):Int) 127) - 128).toNat)):=by
      unfold wrN;simp only [if_pos h1,if_neg h2,hL,hm];unfold m128;rw [hmin];omega
     have eo:c108.out ⟨h,c0,c1,sz,xb,nx,kb,v,o,np⟩ = ([⟨.gen (dgc (b2All (b2 h (c0 + 128#64) c1 0#64 (wrd (putX xb nx v o (128 - nx).toNat) 0)) (c0 + 128#64) c1 v (o + (128 - nx).toNat) (((andNotV .i64 ((L:Nat):Int) 127) - 128).toNat / 128)) (cA (c0 + 128#64) (((andNotV .i64 ((L:Nat):Int) 127) - 128).toNat / 128)) c1 sz (put0 (cpx (cpx (putX xb nx v o (128 - nx).toNat))) v ((o + (128 - nx).toNat) + ((andNotV .i64 ((L:Nat):Int) 127) - 128).toNat) (L - ((andNotV .i64 ((L:Nat):Int) 127) - 128).toNat)) (0 + m128 (L - ((andNotV .i64 ((L:Nat):Int) 127) - 128).toNat)) kb),.own⟩,⟨.b8 v,.ro⟩]:List Blk):=by
      show ([⟨.gen (dgc (wrH h c0 c1 xb nx v o np) (wrC c0 nx np) c1 sz (wrX xb nx v o np) (wrN nx np) kb),.own⟩,⟨.b8 v,.ro⟩]:List Blk) = _
      rw [eH,eC,eX,eN]
     rw [eo]
     have hrun:=wBQ h c0 c1 sz xb nx kb v o np
     rw [hL] at hrun
     refine ⟨[true,false,true,true,true],some [0,1],_,hrun,?_⟩
     repeat' (refine all_true_cons ?_ ?_)
     all_goals first | exact all_true_nil | rfl | (simp only [bq,Int.toNat_natCast,hmin,hL,ea,eb] <;> omega)
    ·rw [eb] at h4
     have hm:(andNotV .i64 ((L:Nat):Int) 127).toNat = 128 * fl L:=by rw [eb];unfold fl;omega
     have hd:128 * fl L / 128 = fl L:=by omega
     have hlt:L - 128 * fl L ≤ 128 ∧ 128 * fl L ≤ L ∧ 1 ≤ L - 128 * fl L:=by unfold fl;omega
     have eH:wrH h c0 c1 xb nx v o np = (b2All (b2 h (c0 + 128#64) c1 0#64 (wrd (putX xb nx v o (128 - nx).toNat) 0)) (c0 + 128#64) c1 v (o + (128 - nx).toNat) ((andNotV .i64 ((L:Nat):Int) 127).toNat / 128)):=by
      unfold wrH;simp only [if_pos h1,if_neg h2,hL,hm,hd]
     have eC:wrC c0 nx np = (cA (c0 + 128#64) ((andNotV .i64 ((L:Nat):Int) 127).toNat / 128)):=by
      unfold wrC;simp only [if_pos h1,if_neg h2,hL,hm,hd]
     have eX:wrX xb nx v o np = (put0 (cpx (cpx (putX xb nx v o (128 - nx).toNat))) v ((o + (128 - nx).toNat) + (andNotV .i64 ((L:Nat):Int) 127).toNat) (L - (andNotV .i64 ((L:Nat):Int) 127).toNat)):=by
      unfold wrX;simp only [if_pos h1,if_neg h2,hL,hm,put0_cpx]
     have eN:wrN nx np = (0 + m128 (L - (andNotV .i64 ((L:Nat):Int) 127).toNat)):=by
      unfold wrN;simp only [if_pos h1,if_neg h2,hL,hm];unfold m128;rw [hmin];omega
     have eo:c108.out ⟨h,c0,c1,sz,xb,nx,kb,v,o,np⟩ = ([⟨.gen (dgc (b2All (b2 h (c0 + 128#64) c1 0#64 (wrd (putX xb nx v o (128 - nx).toNat) 0)) (c0 + 128#64) c1 v (o + (128 - nx).toNat) ((andNotV .i64 ((L:Nat):Int) 127).toNat / 128)) (cA (c0 + 128#64) ((andNotV .i64 ((L:Nat):Int) 127).toNat / 128)) c1 sz (put0 (cpx (cpx (putX xb nx v o (128 - nx).toNat))) v ((o + (128 - nx).toNat) + (andNotV .i64 ((L:Nat):Int) 127).toNat) (L - (andNotV .i64 ((L:Nat):Int) 127).toNat)) (0 + m128 (L - (andNotV .i64 ((L:Nat):Int) 127).toNat)) kb),.own⟩,⟨.b8 v,.ro⟩]:List Blk):=by
      show ([⟨.gen (dgc (wrH h c0 c1 xb nx v o np) (wrC c0 nx np) c1 sz (wrX xb nx v o np) (wrN nx np) kb),.own⟩,⟨.b8 v,.ro⟩]:List Blk) = _
      rw [eH,eC,eX,eN]
     rw [eo]
     have hrun:=wBN h c0 c1 sz xb nx kb v o np
     rw [hL] at hrun
     refine ⟨[true,false,true,false,true],some [0,1],_,hrun,?_⟩
     repeat' (refine all_true_cons ?_ ?_)
     all_goals first | exact all_true_nil | rfl | (simp only [bq,Int.toNat_natCast,hmin,hL,ea,eb] <;> omega)
 ·have h0:nx = 0:=by omega
  subst h0
  by_cases h5:np = 0
  ·subst h5
   have hf:fl 0 = 0:=rfl
   have eH:wrH h c0 c1 xb (0:Int) v o (0:Nat) = h:=by
    unfold wrH;simp only [if_neg h1,hf];rfl
   have eC:wrC c0 (0:Int) (0:Nat) = c0:=by
    unfold wrC;simp only [if_neg h1,hf];rfl
   have eX:wrX xb (0:Int) v o (0:Nat) = xb:=by
    unfold wrX;simp only [if_neg h1];rfl
   have eN:wrN (0:Int) (0:Nat) = (0:Int):=by
    unfold wrN;simp only [if_neg h1,hf];rfl
   have eo:c108.out ⟨h,c0,c1,sz,xb,(0:Int),kb,v,o,(0:Nat)⟩ = ([⟨.gen (dgc h c0 c1 sz xb (0:Int) kb),.own⟩,⟨.b8 v,.ro⟩]:List Blk):=by
    show ([⟨.gen (dgc (wrH h c0 c1 xb (0:Int) v o (0:Nat)) (wrC c0 (0:Int) (0:Nat)) c1 sz (wrX xb (0:Int) v o (0:Nat)) (wrN (0:Int) (0:Nat)) kb),.own⟩,⟨.b8 v,.ro⟩]:List Blk) = _
    rw [eH,eC,eX,eN]
   rw [eo]
   refine ⟨[false,false,false],some [0,1],_,wZ h c0 c1 sz xb (0:Int) kb v o (0:Nat),?_⟩
   repeat' (refine all_true_cons ?_ ?_)
   all_goals first | exact all_true_nil | rfl | (simp only [bq,Int.toNat_natCast,hmin,ea,eb] <;> omega)
  ·by_cases h3:np ≤ 128
   ·have hp:0 < np:=by omega
    have hf:fl np = 0:=by unfold fl;omega
    have eH:wrH h c0 c1 xb (0:Int) v o np = h:=by
     unfold wrH;simp only [if_neg h1,hf];rfl
    have eC:wrC c0 (0:Int) np = c0:=by
     unfold wrC;simp only [if_neg h1,hf];rfl
    have eX:wrX xb (0:Int) v o np = (put0 xb v o np):=by
     unfold wrX;simp only [if_neg h1,if_pos hp,hf];simp only [Nat.mul_zero,Nat.add_zero,Nat.sub_zero]
    have eN:wrN (0:Int) np = ((0:Int) + m128 np):=by
     unfold wrN;simp only [if_neg h1,hf];unfold m128;rw [hmin];omega
    have eo:c108.out ⟨h,c0,c1,sz,xb,(0:Int),kb,v,o,np⟩ = ([⟨.gen (dgc h c0 c1 sz (put0 xb v o np) ((0:Int) + m128 np) kb),.own⟩,⟨.b8 v,.ro⟩]:List Blk):=by
     show ([⟨.gen (dgc (wrH h c0 c1 xb (0:Int) v o np) (wrC c0 (0:Int) np) c1 sz (wrX xb (0:Int) v o np) (wrN (0:Int) np) kb),.own⟩,⟨.b8 v,.ro⟩]:List Blk) = _
     rw [eH,eC,eX,eN]
    rw [eo]
    refine ⟨[false,false,true],some [0,1],_,wD h c0 c1 sz xb (0:Int) kb v o np,?_⟩
    repeat' (refine all_true_cons ?_ ?_)
    all_goals first | exact all_true_nil | rfl | (simp only [bq,Int.toNat_natCast,hmin,ea,eb] <;> omega)
   ·by_cases h4:((np:Nat):Int) = andNotV .i64 ((np:Nat):Int) 127
    ·rw [ea] at h4
     have hp:0 < np:=by omega
     have hm:((andNotV .i64 ((np:Nat):Int) 127) - 128).toNat = 128 * fl np:=by rw [ea];unfold fl;omega
     have hd:128 * fl np / 128 = fl np:=by omega
     have hlt:np - 128 * fl np ≤ 128 ∧ 128 * fl np ≤ np ∧ 1 ≤ np - 128 * fl np:=by unfold fl;omega
     have eH:wrH h c0 c1 xb (0:Int) v o np = (b2All h c0 c1 v o (((andNotV .i64 ((np:Nat):Int) 127) - 128).toNat / 128)):=by
      unfold wrH;simp only [if_neg h1,hm,hd]
     have eC:wrC c0 (0:Int) np = (cA c0 (((andNotV .i64 ((np:Nat):Int) 127) - 128).toNat / 128)):=by
      unfold wrC;simp only [if_neg h1,hm,hd]
     have eX:wrX xb (0:Int) v o np = (put0 (cpx xb) v (o + ((andNotV .i64 ((np:Nat):Int) 127) - 128).toNat) (np - ((andNotV .i64 ((np:Nat):Int) 127) - 128).toNat)):=by
      unfold wrX;simp only [if_neg h1,if_pos hp,hm,put0_cpx]
     have eN:wrN (0:Int) np = ((0:Int) + m128 (np - ((andNotV .i64 ((np:Nat):Int) 127) - 128).toNat)):=by
      unfold wrN;simp only [if_neg h1,hm];unfold m128;rw [hmin];omega
     have eo:c108.out ⟨h,c0,c1,sz,xb,(0:Int),kb,v,o,np⟩ = ([⟨.gen (dgc (b2All h c0 c1 v o (((andNotV .i64 ((np:Nat):Int) 127) - 128).toNat / 128)) (cA c0 (((andNotV .i64 ((np:Nat):Int) 127) - 128).toNat / 128)) c1 sz (put0 (cpx xb) v (o + ((andNotV .i64 ((np:Nat):Int) 127) - 128).toNat) (np - ((andNotV .i64 ((np:Nat):Int) 127) - 128).toNat)) ((0:Int) + m128 (np - ((andNotV .i64 ((np:Nat):Int) 127) - 128).toNat)) kb),.own⟩,⟨.b8 v,.ro⟩]:List Blk):=by
      show ([⟨.gen (dgc (wrH h c0 c1 xb (0:Int) v o np) (wrC c0 (0:Int) np) c1 sz (wrX xb (0:Int) v o np) (wrN (0:Int) np) kb),.own⟩,⟨.b8 v,.ro⟩]:List Blk) = _
      rw [eH,eC,eX,eN]
     rw [eo]
     refine ⟨[false,true,true,true],some [0,1],_,wQ h c0 c1 sz xb (0:Int) kb v o np,?_⟩
     repeat' (refine all_true_cons ?_ ?_)
     all_goals first | exact all_true_nil | rfl | (simp only [bq,Int.toNat_natCast,hmin,ea,eb] <;> omega)
    ·rw [ea] at h4
     have hp:0 < np:=by omega
     have hm:(andNotV .i64 ((np:Nat):Int) 127).toNat = 128 * fl np:=by rw [ea];unfold fl;omega
     have hd:128 * fl np / 128 = fl np:=by omega
     have hlt:np - 128 * fl np ≤ 128 ∧ 128 * fl np ≤ np ∧ 1 ≤ np - 128 * fl np:=by unfold fl;omega
     have eH:wrH h c0 c1 xb (0:Int) v o np = (b2All h c0 c1 v o ((andNotV .i64 ((np:Nat):Int) 127).toNat / 128)):=by
      unfold wrH;simp only [if_neg h1,hm,hd]
     have eC:wrC c0 (0:Int) np = (cA c0 ((andNotV .i64 ((np:Nat):Int) 127).toNat / 128)):=by
      unfold wrC;simp only [if_neg h1,hm,hd]
     have eX:wrX xb (0:Int) v o np = (put0 (cpx xb) v (o + (andNotV .i64 ((np:Nat):Int) 127).toNat) (np - (andNotV .i64 ((np:Nat):Int) 127).toNat)):=by
      unfold wrX;simp only [if_neg h1,if_pos hp,hm,put0_cpx]
     have eN:wrN (0:Int) np = ((0:Int) + m128 (np - (andNotV .i64 ((np:Nat):Int) 127).toNat)):=by
      unfold wrN;simp only [if_neg h1,hm];unfold m128;rw [hmin];omega
     have eo:c108.out ⟨h,c0,c1,sz,xb,(0:Int),kb,v,o,np⟩ = ([⟨.gen (dgc (b2All h c0 c1 v o ((andNotV .i64 ((np:Nat):Int) 127).toNat / 128)) (cA c0 ((andNotV .i64 ((np:Nat):Int) 127).toNat / 128)) c1 sz (put0 (cpx xb) v (o + (andNotV .i64 ((np:Nat):Int) 127).toNat) (np - (andNotV .i64 ((np:Nat):Int) 127).toNat)) ((0:Int) + m128 (np - (andNotV .i64 ((np:Nat):Int) 127).toNat)) kb),.own⟩,⟨.b8 v,.ro⟩]:List Blk):=by
      show ([⟨.gen (dgc (wrH h c0 c1 xb (0:Int) v o np) (wrC c0 (0:Int) np) c1 sz (wrX xb (0:Int) v o np) (wrN (0:Int) np) kb),.own⟩,⟨.b8 v,.ro⟩]:List Blk) = _
      rw [eH,eC,eX,eN]
     rw [eo]
     refine ⟨[false,true,false,true],some [0,1],_,wN h c0 c1 sz xb (0:Int) kb v o np,?_⟩
     repeat' (refine all_true_cons ?_ ?_)
     all_goals first | exact all_true_nil | rfl | (simp only [bq,Int.toNat_natCast,hmin,ea,eb] <;> omega)
end
section
open Go.Eng
variable [RowAddr] [Co] [SeatCo]
def hI (sz:Int):H8:=⟨7640891576956012808#64 ^^^ (((BitVec.ofInt 64 sz ||| 0#64) ||| 65536#64) ||| 16777216#64),13503953896175478587#64,4354685564936845355#64,11912009170470909681#64,5840696475078001361#64,11170449401992604703#64,2270897969802886507#64,6620516959819538809#64⟩
def Z128:Vec 8:=Vec.of (List.replicate 128 0#8)
structure c54D where
 h:H8
 c0:BitVec 64
 c1:BitVec 64
 sz:Int
 xb:Vec 8
 nx:Int
 kb:Vec 8
def c54_rd (a:List AV) (K:List Blk):Option c54D:=
 match a with
 | [(.ref (.ptr 0 (.c 0)))]=>
  match K with
  | [⟨(.gen ((.num (.w64 h0)) :: (.num (.w64 h1)) :: (.num (.w64 h2)) :: (.num (.w64 h3)) :: (.num (.w64 h4)) :: (.num (.w64 h5)) :: (.num (.w64 h6)) :: (.num (.w64 h7)) :: (.num (.w64 c0)) :: (.num (.w64 c1)) :: (.num (.int .i64 (.s sz))) :: ys_xb)),.own⟩]=>
   (match rd8 128 (ys_xb.take 128),ys_xb.drop 128 with
   | some xb,((.num (.int .i64 (.s nx))) :: ys_kb)=>
   (match rd8 128 (ys_kb.take 128),ys_kb.drop 128 with
   | some kb,[(.num (.int .i64 (.c 0)))]=>some ⟨⟨h0,h1,h2,h3,h4,h5,h6,h7⟩,c0,c1,sz,xb,nx,kb⟩
   | _,_=>none)
   | _,_=>none)
  | _=>none
 | _=>none
def c54:Ct c54D where
 pat:=[(.ptr 0 (.c 0))]
 patH:=[⟨(.gen ([(.w64 0#64),(.w64 0#64),(.w64 0#64),(.w64 0#64),(.w64 0#64),(.w64 0#64),(.w64 0#64),(.w64 0#64),(.w64 0#64),(.w64 0#64),(.int .i64 (.s 0))] ++ List.replicate 128 (.w8 0#8) ++ ([(.int .i64 (.s 0))] ++ List.replicate 128 (.w8 0#8) ++ [(.int .i64 (.c 0))]))),.own⟩]
 read:=c54_rd
 args:=fun ⟨_,_,_,_,_,_,_⟩=>[(.ptr 0 (.c 0))]
 heap:=fun ⟨h,c0,c1,sz,xb,nx,kb⟩=>[⟨(.gen ([(.w64 h.x0),(.w64 h.x1),(.w64 h.x2),(.w64 h.x3),(.w64 h.x4),(.w64 h.x5),(.w64 h.x6),(.w64 h.x7),(.w64 c0),(.w64 c1),(.int .i64 (.s sz))] ++ c8v xb 128 ++ ([(.int .i64 (.s nx))] ++ c8v kb 128 ++ [(.int .i64 (.c 0))]))),.own⟩]
 out:=fun ⟨_,_,_,sz,xb,_,kb⟩=>[⟨(.gen (dgc (hI sz) 0#64 0#64 sz xb 0 kb)),.own⟩]
 val:=fun ⟨_,_,_,_,_,_,_⟩=>(.tup [])
 good:=fun ⟨_,_,_,sz,_,_,_⟩=>decide (0 ≤ sz ∧ sz ≤ 64)
theorem c54_run (h:H8) (c0 c1:BitVec 64) (sz:Int) (xb:Vec 8) (nx:Int) (kb:Vec 8):endsAs (c54.heap ⟨h,c0,c1,sz,xb,nx,kb⟩).length (some [0]) (c54.out ⟨h,c0,c1,sz,xb,nx,kb⟩) (c54.val ⟨h,c0,c1,sz,xb,nx,kb⟩) (goB noSpec noLoop 54 (c54.args ⟨h,c0,c1,sz,xb,nx,kb⟩) ⟨c54.heap ⟨h,c0,c1,sz,xb,nx,kb⟩,big,[],[]⟩) = some ((c54.out ⟨h,c0,c1,sz,xb,nx,kb⟩),(c54.val ⟨h,c0,c1,sz,xb,nx,kb⟩),[]):=by kernel_rfl
set_option maxRecDepth 100000 in
theorem c54_read (a:List AV) (K:List Blk) (d:c54D) (h:c54.read a K = some d):a = c54.args d ∧ K = c54.heap d:=by
 replace h:c54_rd a K = some d:=h
 unfold c54_rd at h
 split at h
 case h_2=>cases h
 split at h
 case h_2=>cases h
 split at h
 case h_2=>cases h
 rename_i hr hd
 obtain ⟨he,_⟩:=rd8_eq hr
 have ht:=(List.take_append_drop 128 _).symm.trans (congr (congrArg HAppend.hAppend he) hd)
 subst ht
 split at h
 case h_2=>cases h
 rename_i hr hd
 obtain ⟨he,_⟩:=rd8_eq hr
 have ht:=(List.take_append_drop 128 _).symm.trans (congr (congrArg HAppend.hAppend he) hd)
 subst ht
 injection h with h;subst h
 exact ⟨rfl,rfl⟩
theorem c54_ok:SpecOk Tryd.prog noGlob 54 c54.spec:=by
 refine c54.ok (goB_ok no_specs (no_loops _)) c54_read ?_
 rintro ⟨h,c0,c1,sz,xb,nx,kb⟩ hg
 have hg:0 ≤ sz ∧ sz ≤ 64:=of_decide_eq_true hg
 refine ⟨[],(some [0]),_,c54_run h c0 c1 sz xb nx kb,?_⟩
 repeat' (refine all_true_cons ?_ ?_)
 all_goals first | exact all_true_nil | rfl | (simp only [bq] <;> omega)
structure c38D where
 sz:Int
def c38_rd (a:List AV) (K:List Blk):Option c38D:=
 match a with
 | [(.num (.int .i64 (.s sz))),(.atom .nils)]=>
  match K with
  | []=>some ⟨sz⟩
  | _=>none
 | _=>none
def c38:Ct c38D where
 pat:=[(.int .i64 (.s 0)),(.atom .nils)]
 patH:=[]
 read:=c38_rd
 args:=fun ⟨sz⟩=>[(.int .i64 (.s sz)),(.atom .nils)]
 heap:=fun ⟨_⟩=>[]
 out:=fun ⟨sz⟩=>[⟨(.gen (dgc (hI sz) 0#64 0#64 sz Z128 0 Z128)),.own⟩]
 val:=fun ⟨_⟩=>(.obj .tup [(.ptr 0 (.c 0)),(.atom .nili)])
 good:=fun ⟨sz⟩=>decide (1 ≤ sz ∧ sz ≤ 64)
theorem c38_run (sz:Int):endsAs (c38.heap ⟨sz⟩).length (some [0]) (c38.out ⟨sz⟩) (c38.val ⟨sz⟩) (goB noSpec noLoop 38 (c38.args ⟨sz⟩) ⟨c38.heap ⟨sz⟩,big,[false,false,false,false],[]⟩) = some ((c38.out ⟨sz⟩),(c38.val ⟨sz⟩),[(decide ((64:Int) < sz) == false),(decide (sz < 1) == false),(decide (sz < 1) == false),(decide (sz < 1) == false)]):=by kernel_rfl
set_option maxRecDepth 100000 in
theorem c38_read (a:List AV) (K:List Blk) (d:c38D) (h:c38.read a K = some d):a = c38.args d ∧ K = c38.heap d:=by
 replace h:c38_rd a K = some d:=h
 unfold c38_rd at h
 split at h
 case h_2=>cases h
 split at h
 case h_2=>cases h
 injection h with h;subst h
 exact ⟨rfl,rfl⟩
theorem c38_ok:SpecOk Tryd.prog noGlob 38 c38.spec:=by
 refine c38.ok (goB_ok no_specs (no_loops _)) c38_read ?_
 rintro ⟨sz⟩ hg
 have hg:1 ≤ sz ∧ sz ≤ 64:=of_decide_eq_true hg
 refine ⟨[false,false,false,false],(some [0]),_,c38_run sz,?_⟩
 repeat' (refine all_true_cons ?_ ?_)
 all_goals first | exact all_true_nil | rfl | (simp only [bq] <;> omega)
def specs25:FuncId → Option Eng.Spec
 | 54=>some c54.spec
 | 38=>some c38.spec
 | 107=>some c107.spec
 | 108=>some c108.spec
 | _=>none
theorem specs25_ok:∀ f sp,specs25 f = some sp → SpecOk Tryd.prog noGlob f sp:=by
 intro f sp h
 unfold specs25 at h
 split at h
 ·injection h with h;subst h;exact c54_ok
 ·injection h with h;subst h;exact c38_ok
 ·injection h with h;subst h;exact c107_ok
 ·injection h with h;subst h;exact c108_ok
 ·cases h
end
section
open Go.Eng
variable [RowAddr] [Co] [SeatCo]
def eta (h:H8):H8:=⟨h.x0,h.x1,h.x2,h.x3,h.x4,h.x5,h.x6,h.x7⟩
structure Dg where
 h:H8
 c:BitVec 64
 x:Vec 8
 n:Int
def wrD (d:Dg) (v:Vec 8) (o np:Nat):Dg:=⟨wrH (eta d.h) d.c 0#64 (cpx d.x) d.n v o np,wrC d.c d.n np,wrX (cpx d.x) d.n v o np,wrN d.n np⟩
def sumD (d:Dg):H8:=sumH (eta d.h) d.c 0#64 (cpx d.x) d.n
def newD (sz:Int) (x:Vec 8):Dg:=⟨hI sz,0#64,x,0⟩
def v4 (np:Nat):Vec 8:=Vec.of [((BitVec.ofInt 32 ((np:Nat):Int)) >>> 0).setWidth 8,((BitVec.ofInt 32 ((np:Nat):Int)) >>> 8).setWidth 8,((BitVec.ofInt 32 ((np:Nat):Int)) >>> 16).setWidth 8,((BitVec.ofInt 32 ((np:Nat):Int)) >>> 24).setWidth 8,0#8,0#8,0#8,0#8,0#8,0#8,0#8,0#8,0#8,0#8,0#8,0#8,0#8,0#8,0#8,0#8,0#8,0#8,0#8,0#8,0#8,0#8,0#8,0#8,0#8,0#8,0#8,0#8,0#8,0#8,0#8,0#8,0#8,0#8,0#8,0#8,0#8,0#8,0#8,0#8,0#8,0#8,0#8,0#8,0#8,0#8,0#8,0#8,0#8,0#8,0#8,0#8,0#8,0#8,0#8,0#8,0#8,0#8,0#8,0#8]
theorem sumVn (y:H8) (v:Vec 8) (o:Nat) (z:Int):(sumV y v o z).n = v.n:=rfl
theorem eov (v x:Vec 8) (o:Nat):(v.over o x).n = v.n:=rfl
theorem wrN_le (nx:Int) (np:Nat) (h1:0 ≤ nx) (h2:nx ≤ 128):0 ≤ wrN nx np ∧ wrN nx np ≤ 128:=by
 unfold wrN fl
 split
 ·split <;> omega
 ·omega
structure kHD where
 v:Vec 8
 w:Vec 8
 b:Vec 8
 h:H8
 c0:BitVec 64
 sz:Int
 xb:Vec 8
 nx:Int
 kb:Vec 8
 o:Nat
 np:Nat
 cp:Nat
 N:Int
def kH_st (d:kHD):Fr × List Blk:=
 match d with
 | ⟨v,w,b,h,c0,sz,xb,nx,kb,o,np,cp,N⟩=>(⟨[(.ref (.sl 0 (.s o) (.s np) (some (.s cp)))),(.atom .undef),(.atom .undef),(.atom .undef),(.obj (.ifc 86) [(.ref (.ptr 2 (.c 0)))]),(.atom .undef),(.ref (.ptr 3 (.c 0))),(.num (.int .i64 (.s N))),(.atom .undef)],[]⟩,[⟨(.b8 v),.own⟩,⟨(.b8 w),.ro⟩,⟨(.gen ([(.num (.w64 h.x0)),(.num (.w64 h.x1)),(.num (.w64 h.x2)),(.num (.w64 h.x3)),(.num (.w64 h.x4)),(.num (.w64 h.x5)),(.num (.w64 h.x6)),(.num (.w64 h.x7)),(.num (.w64 c0)),(.num (.w64 0#64)),(.num (.int .i64 (.s sz)))] ++ c8v xb 128 ++ ([(.num (.int .i64 (.s nx)))] ++ c8v kb 128 ++ [(.num (.int .i64 (.c 0)))]))),.own⟩,⟨(.b8 b),.own⟩,⟨(.gen []),.dead⟩])
def kH_next (d:kHD):kHD:=
 match d with
 | ⟨v,w,b,h,c0,sz,xb,nx,kb,o,np,cp,N⟩=>⟨v.over o ((sumV (sumD (wrD ⟨h,c0,xb,nx⟩ b 0 64)) b 0 sz).sub 0 (Nat.min 32 np)),w,sumV (sumD (wrD ⟨h,c0,xb,nx⟩ b 0 64)) b 0 sz,hI sz,0#64,sz,wrX (cpx xb) nx b 0 64,0,kb,o + 32,np - 32,cp - 32,N⟩
def kH_rd (F:Fr) (K:List Blk):Option kHD:=
 match F with
 | ⟨[(.ref (.sl 0 (.s o) (.s np) (some (.s cp)))),(.atom .undef),(.atom .undef),(.atom .undef),(.obj (.ifc 86) [(.ref (.ptr 2 (.c 0)))]),(.atom .undef),(.ref (.ptr 3 (.c 0))),(.num (.int .i64 (.s N))),(.atom .undef)],[]⟩=>
  match K with
  | [⟨(.b8 v),.own⟩,⟨(.b8 w),.ro⟩,⟨(.gen ((.num (.w64 h0)) :: (.num (.w64 h1)) :: (.num (.w64 h2)) :: (.num (.w64 h3)) :: (.num (.w64 h4)) :: (.num (.w64 h5)) :: (.num (.w64 h6)) :: (.num (.w64 h7)) :: (.num (.w64 c0)) :: (.num (.w64 0#64)) :: (.num (.int .i64 (.s sz))) :: ys_xb)),.own⟩,⟨(.b8 b),.own⟩,⟨(.gen []),.dead⟩]=>
   (match rd8 128 (ys_xb.take 128),ys_xb.drop 128 with
   | some xb,((.num (.int .i64 (.s nx))) :: ys_kb)=>
   (match rd8 128 (ys_kb.take 128),ys_kb.drop 128 with
   | some kb,[(.num (.int .i64 (.c 0)))]=>some ⟨v,w,b,⟨h0,h1,h2,h3,h4,h5,h6,h7⟩,c0,sz,xb,nx,kb,o,np,cp,N⟩
   | _,_=>none)
   | _,_=>none)
  | _=>none
 | _=>none
def kH:LoopP kHD where
 pat:=⟨[(.sl 0 (.s 0) (.s 0) (some (.s 0))),.undef,.undef,.undef,(.obj (.ifc 86) [(.ptr 2 (.c 0))]),.undef,(.ptr 3 (.c 0)),(.int .i64 (.s 0)),.undef],[]⟩
 patH:=[⟨(.b8 (Vec.zero 8 0)),.own⟩,⟨(.b8 (Vec.zero 8 0)),.ro⟩,⟨(.gen ([(.w64 0#64),(.w64 0#64),(.w64 0#64),(.w64 0#64),(.w64 0#64),(.w64 0#64),(.w64 0#64),(.w64 0#64),(.w64 0#64),(.w64 0#64),(.int .i64 (.s 0))] ++ List.replicate 128 (.w8 0#8) ++ ([(.int .i64 (.s 0))] ++ List.replicate 128 (.w8 0#8) ++ [(.int .i64 (.c 0))]))),.own⟩,⟨(.b8 (Vec.zero 8 0)),.own⟩,⟨(.gen []),.dead⟩]
 gh:=[]
 read:=kH_rd
 st:=kH_st
 next:=kH_next
 rem:=fun ⟨_,_,_,_,_,_,_,_,_,_,np,_,_⟩=>(np - 33) / 32
 good:=fun ⟨v,_,b,_,c0,sz,_,nx,_,o,np,cp,_⟩=>decide (o + cp ≤ v.n ∧ np ≤ cp ∧ cp ≤ 1099511627776 ∧ b.n = 64 ∧ 1 ≤ sz ∧ sz ≤ 64 ∧ nx = 0 ∧ c0.toNat ≤ 1000000)
 out:=.exit 0
 fin:=kH_st
theorem kH_round (v w b:Vec 8) (h:H8) (c0:BitVec 64) (sz:Int) (xb:Vec 8) (nx:Int) (kb:Vec 8) (o np cp:Nat) (N:Int):ranAs ((kH.st ⟨v,w,b,h,c0,sz,xb,nx,kb,o,np,cp,N⟩).2.length - kH.gh.length) (some [0,1,2,3,4]) (kH.st (kH_next ⟨v,w,b,h,c0,sz,xb,nx,kb,o,np,cp,N⟩)) (goL specs25 noLoop 25 0 (kH.st ⟨v,w,b,h,c0,sz,xb,nx,kb,o,np,cp,N⟩).1 ⟨(kH.st ⟨v,w,b,h,c0,sz,xb,nx,kb,o,np,cp,N⟩).2,big,[true],[]⟩) = some (.normal,(kH.st (kH_next ⟨v,w,b,h,c0,sz,xb,nx,kb,o,np,cp,N⟩)),[decide (((0:Int) ≤ sz ∧ sz ≤ 64)),((true && decide ((32:Int) ≤ ((np:Nat):Int))) && decide (((np:Nat):Int) ≤ ((cp:Nat):Int))),decide ((o + (Nat.min (32 - (0:Nat)) np)) ≤ v.n),decide (((0 + ((0:Nat) * 1)) + (Nat.min (32 - (0:Nat)) np)) ≤ b.n),decide ((64:Nat) ≤ b.n),decide (((0:Int) ≤ (wrN nx (64:Nat)) ∧ ((wrN nx (64:Nat)) ≤ 128 ∧ ((1:Int) ≤ sz ∧ (sz ≤ 64 ∧ (((sz):Int).toNat ≤ (64 - (0:Nat)) ∧ (((0 + ((0:Nat) * 1)) + (64 - (0:Nat))) ≤ b.n ∧ (64 - (0:Nat)) ≤ 1099511627776))))))),decide ((64:Nat) ≤ b.n),decide (((0:Int) ≤ nx ∧ (nx ≤ 128 ∧ (((0 + ((0:Nat) * 1)) + (64:Nat)) ≤ b.n ∧ ((64:Nat) ≤ 1099511627776 ∧ (((c0).toNat + (64:Nat)) + 256) ≤ 1152921504606846976))))),decide ((64:Nat) ≤ b.n),(decide ((64:Int) < ((np:Nat):Int)) == true)]):=by kernel_rfl
theorem kH_end (v w b:Vec 8) (h:H8) (c0:BitVec 64) (sz:Int) (xb:Vec 8) (nx:Int) (kb:Vec 8) (o np cp:Nat) (N:Int):ranAs ((kH.st ⟨v,w,b,h,c0,sz,xb,nx,kb,o,np,cp,N⟩).2.length - kH.gh.length) none (kH.fin ⟨v,w,b,h,c0,sz,xb,nx,kb,o,np,cp,N⟩) (goL specs25 noLoop 25 0 (kH.st ⟨v,w,b,h,c0,sz,xb,nx,kb,o,np,cp,N⟩).1 ⟨(kH.st ⟨v,w,b,h,c0,sz,xb,nx,kb,o,np,cp,N⟩).2,big,[false],[]⟩) = some (kH.out,(kH.fin ⟨v,w,b,h,c0,sz,xb,nx,kb,o,np,cp,N⟩),[(decide ((64:Int) < ((np:Nat):Int)) == false)]):=by kernel_rfl
set_option maxRecDepth 100000 in
theorem kH_read (F:Fr) (K:List Blk) (d:kHD) (h:kH.read F K = some d):(F,K) = kH.st d:=by
 replace h:kH_rd F K = some d:=h
 unfold kH_rd at h
 split at h
 case h_2=>cases h
 split at h
 case h_2=>cases h
 split at h
 case h_2=>cases h
 rename_i hr hd
 obtain ⟨he,_⟩:=rd8_eq hr
 have ht:=(List.take_append_drop 128 _).symm.trans (congr (congrArg HAppend.hAppend he) hd)
 subst ht
 split at h
 case h_2=>cases h
 rename_i hr hd
 obtain ⟨he,_⟩:=rd8_eq hr
 have ht:=(List.take_append_drop 128 _).symm.trans (congr (congrArg HAppend.hAppend he) hd)
 subst ht
 injection h with h;subst h
 rfl
theorem kH_body:RunOk Tryd.prog noGlob (nv 25) (ntmpsIn Tryd.prog 25) (loopIn Tryd.prog 25 0) (goL specs25 noLoop 25 0):=goL_ok specs25_ok (no_loops _) 25 0 fine25 (by rw [show (loopsIn Tryd.prog 25).length = 1 by kernel_rfl];omega)
theorem kH_toldL:LoopOk Tryd.prog noGlob (nv 25) (ntmpsIn Tryd.prog 25) (loopIn Tryd.prog 25 0) kH.T.told:=by
 refine kH.ran kH_body (by intro k hk;have hk:k ∈ ([]:List Blk):=hk;cases hk) (by intro h;cases h) kH_read ?_ ?_
 ·rintro ⟨v,w,b,h,c0,sz,xb,nx,kb,o,np,cp,N⟩ kk hg hr
  have hg:o + cp ≤ v.n ∧ np ≤ cp ∧ cp ≤ 1099511627776 ∧ b.n = 64 ∧ 1 ≤ sz ∧ sz ≤ 64 ∧ nx = 0 ∧ c0.toNat ≤ 1000000:=of_decide_eq_true hg
  have hr:(np - 33) / 32 = kk + 1:=hr
  have en:kH.next ⟨v,w,b,h,c0,sz,xb,nx,kb,o,np,cp,N⟩ = kH_next ⟨v,w,b,h,c0,sz,xb,nx,kb,o,np,cp,N⟩:=rfl
  rw [en]
  refine ⟨⟨[true],(some [0,1,2,3,4]),_,kH_round v w b h c0 sz xb nx kb o np cp N,?_⟩,?_,?_,(show (kH.st (kH_next ⟨v,w,b,h,c0,sz,xb,nx,kb,o,np,cp,N⟩)).2.length = 5 by kernel_rfl).trans (show (kH.st ⟨v,w,b,h,c0,sz,xb,nx,kb,o,np,cp,N⟩).2.length = 5 by kernel_rfl).symm⟩
  ·have e0:(0#64).toNat = 0:=rfl
   have hmin:∀ a b:Nat,Nat.min a b = min a b:=fun _ _=>rfl
   have hnx:nx = 0:=by omega
   have ewn:=wrN_le nx 64 (by omega) (by omega)
   repeat' (refine all_true_cons ?_ ?_)
   all_goals first | exact all_true_nil | rfl | (simp only [bq,Int.toNat_natCast,Nat.sub_zero,hmin,sumVn] <;> omega)
  ·have e:kH.good (kH_next ⟨v,w,b,h,c0,sz,xb,nx,kb,o,np,cp,N⟩) = decide ((o + 32:Nat) + (cp - 32:Nat) ≤ (v.over o ((sumV (sumD (wrD ⟨h,c0,xb,nx⟩ b 0 64)) b 0 sz).sub 0 (Nat.min 32 np)):Vec 8).n ∧ (np - 32:Nat) ≤ (cp - 32:Nat) ∧ (cp - 32:Nat) ≤ 1099511627776 ∧ (sumV (sumD (wrD ⟨h,c0,xb,nx⟩ b 0 64)) b 0 sz:Vec 8).n = 64 ∧ 1 ≤ sz ∧ sz ≤ 64 ∧ (0:Int) = 0 ∧ (0#64:BitVec 64).toNat ≤ 1000000):=by kernel_rfl
   refine e.trans (decide_eq_true ?_)
   have e1:=sumVn (sumD (wrD ⟨h,c0,xb,nx⟩ b 0 64)) b 0 sz;have e0:(0#64).toNat = 0:=rfl;simp only [eov,true_and,and_true];omega
  ·have e:kH.rem (kH_next ⟨v,w,b,h,c0,sz,xb,nx,kb,o,np,cp,N⟩) = (((np - 32:Nat) - 33) / 32):=by kernel_rfl
   refine e.trans ?_
   omega
 ·rintro ⟨v,w,b,h,c0,sz,xb,nx,kb,o,np,cp,N⟩ hg hr
  have hg:o + cp ≤ v.n ∧ np ≤ cp ∧ cp ≤ 1099511627776 ∧ b.n = 64 ∧ 1 ≤ sz ∧ sz ≤ 64 ∧ nx = 0 ∧ c0.toNat ≤ 1000000:=of_decide_eq_true hg
  have hr:(np - 33) / 32 = 0:=hr
  refine ⟨[false],none,_,kH_end v w b h c0 sz xb nx kb o np cp N,?_⟩
  repeat' (refine all_true_cons ?_ ?_)
  all_goals first | exact all_true_nil | rfl | (simp only [bq] <;> omega)
def kH_spec:LSpec:=kH.T.told
theorem kH_told:Told 25 0 kH_spec:=kH_toldL.run
def kHs:FuncId → Nat → Option LSpec
 | 25,16=>some kH_spec
 | _,_=>none
theorem kHs_len:(loopsIn Tryd.prog 25).length = 1:=by kernel_rfl
theorem kHs_ok (spec:FuncId → Option Eng.Spec):LoopsOk (cfg spec kHs) noGlob:=by
 refine LoopsOk.of fun f=>?_
 by_cases hf:f = 25
 ·subst hf
  refine .inr ⟨by kernel_rfl,fun i hi sp hsp=>?_⟩
  have hi:i < (loopsIn Tryd.prog 25).length:=hi
  rw [kHs_len] at hi
  have hi3:i = 0:=by omega
  rcases hi3 with rfl
  ·have e:(firstRid (loopIn Tryd.prog 25 0)).bind (kHs 25) = some kH_spec:=by kernel_rfl
   obtain rfl:=Option.some.inj (e.symm.trans hsp)
   exact kH_told
 ·refine .inl fun r=>?_
  show kHs f r = none
  unfold kHs
  split
  ·exact absurd rfl hf
  ·rfl
end
section
open Go.Eng
variable [RowAddr] [Co] [SeatCo]
def firstD (sz:Int) (w:Vec 8) (np oi ni:Nat):Dg:=wrD (wrD (newD sz Z128) (v4 np) 0 4) w oi ni
def l0 (v w:Vec 8) (o np cp oi ni:Nat):kHD:=⟨v.over o ((sumV (sumD (firstD 64 w np oi ni)) (v4 np) 0 64).sub 0 (Nat.min 32 np)),w,sumV (sumD (firstD 64 w np oi ni)) (v4 np) 0 64,hI 64,0#64,64,cpx (firstD 64 w np oi ni).x,0,Z128,o + 32,np - 32,cp - 32,((np:Nat):Int)⟩
def lz (v w:Vec 8) (o np cp oi ni:Nat):kHD:=iter kH_next ((np - 32 - 33) / 32) (l0 v w o np cp oi ni)
def hashV (v w:Vec 8) (o np cp oi ni:Nat):Vec 8:=
 if np ≤ 64 then sumV (sumD (firstD np w np oi ni)) v o np
 else if 0 < (lz v w o np cp oi ni).N.tmod 64 then sumV (sumD (wrD (newD ((lz v w o np cp oi ni).N - (32 * ((((lz v w o np cp oi ni).N + 31).tdiv 32) - 2))) Z128) (lz v w o np cp oi ni).b 0 64)) (lz v w o np cp oi ni).v (lz v w o np cp oi ni).o ((lz v w o np cp oi ni).N - (32 * ((((lz v w o np cp oi ni).N + 31).tdiv 32) - 2)))
 else sumV (sumD (wrD ⟨(lz v w o np cp oi ni).h,(lz v w o np cp oi ni).c0,(lz v w o np cp oi ni).xb,(lz v w o np cp oi ni).nx⟩ (lz v w o np cp oi ni).b 0 64)) (lz v w o np cp oi ni).v (lz v w o np cp oi ni).o (lz v w o np cp oi ni).sz
structure c25D where
 v:Vec 8
 w:Vec 8
 o:Nat
 np:Nat
 cp:Nat
 oi:Nat
 ni:Nat
def c25_rd (a:List AV) (K:List Blk):Option c25D:=
 match a with
 | [(.ref (.sl 0 (.s o) (.s np) (some (.s cp)))),(.ref (.sl 1 (.s oi) (.s ni) none))]=>
  match K with
  | [⟨(.b8 v),.own⟩,⟨(.b8 w),.ro⟩]=>some ⟨v,w,o,np,cp,oi,ni⟩
  | _=>none
 | _=>none
def c25:Ct c25D where
 pat:=[(.sl 0 (.s 0) (.s 0) (some (.s 0))),(.sl 1 (.s 0) (.s 0) none)]
 patH:=[⟨(.b8 (Vec.zero 8 0)),.own⟩,⟨(.b8 (Vec.zero 8 0)),.ro⟩]
 read:=c25_rd
 args:=fun ⟨_,_,o,np,cp,oi,ni⟩=>[(.sl 0 (.s o) (.s np) (some (.s cp))),(.sl 1 (.s oi) (.s ni) none)]
 heap:=fun ⟨v,w,_,_,_,_,_⟩=>[⟨(.b8 v),.own⟩,⟨(.b8 w),.ro⟩]
 out:=fun ⟨v,w,o,np,cp,oi,ni⟩=>[⟨(.b8 (hashV v w o np cp oi ni)),.own⟩,⟨(.b8 w),.ro⟩]
 val:=fun ⟨_,_,_,_,_,_,_⟩=>(.tup [])
 good:=fun ⟨v,w,o,np,cp,oi,ni⟩=>decide (1 ≤ np ∧ np ≤ cp ∧ o + cp ≤ v.n ∧ cp ≤ 1099511627776 ∧ oi + ni ≤ w.n ∧ ni ≤ 1099511627776)
set_option maxRecDepth 100000 in
theorem c25_read (a:List AV) (K:List Blk) (d:c25D) (h:c25.read a K = some d):a = c25.args d ∧ K = c25.heap d:=by
 replace h:c25_rd a K = some d:=h
 unfold c25_rd at h
 split at h
 case h_2=>cases h
 split at h
 case h_2=>cases h
 injection h with h;subst h
 exact ⟨rfl,rfl⟩
theorem h1 (v w:Vec 8) (o np cp oi ni:Nat):endsAs (c25.heap ⟨v,w,o,np,cp,oi,ni⟩).length (some [0,1]) [⟨.b8 (sumV (sumD (firstD ((np:Nat):Int) w np oi ni)) v o ((np:Nat):Int)),.own⟩,⟨.b8 w,.ro⟩] (.tup []) (goB specs25 kHs 25 (c25.args ⟨v,w,o,np,cp,oi,ni⟩) ⟨c25.heap ⟨v,w,o,np,cp,oi,ni⟩,big,[true,true],[]⟩) = some ([⟨.b8 (sumV (sumD (firstD ((np:Nat):Int) w np oi ni)) v o ((np:Nat):Int)),.own⟩,⟨.b8 w,.ro⟩],(.tup []),[decide (((0:Int) ≤ (wrN (wrN 0 (4 - (0:Nat))) ni) ∧ ((wrN (wrN 0 (4 - (0:Nat))) ni) ≤ 128 ∧ ((1:Int) ≤ ((np:Nat):Int) ∧ (((np:Nat):Int) ≤ 64 ∧ (np ≤ (cp - (0:Nat)) ∧ (((o + (0:Nat)) + (cp - (0:Nat))) ≤ v.n ∧ (cp - (0:Nat)) ≤ 1099511627776))))))),((true && true) && decide ((0:Int) ≤ ((cp:Nat):Int))),(decide (((np:Nat):Int) ≤ 64) == true),decide (((0:Int) ≤ (wrN 0 (4 - (0:Nat))) ∧ ((wrN 0 (4 - (0:Nat))) ≤ 128 ∧ ((oi + ni) ≤ w.n ∧ (ni ≤ 1099511627776 ∧ ((((wrC (0#64) 0 (4 - (0:Nat)))).toNat + ni) + 256) ≤ 1152921504606846976))))),decide (((0:Int) ≤ 0 ∧ ((0:Int) ≤ 128 ∧ (((0 + ((0:Nat) * 1)) + (4 - (0:Nat))) ≤ 64 ∧ ((4 - (0:Nat)) ≤ 1099511627776 ∧ ((((0#64)).toNat + (4 - (0:Nat))) + 256) ≤ 1152921504606846976))))),decide (((1:Int) ≤ ((np:Nat):Int) ∧ ((np:Nat):Int) ≤ 64)),(decide (((np:Nat):Int) < 64) == true)]):=by kernel_rfl
theorem h2 (v w:Vec 8) (o np cp oi ni:Nat):endsAs (c25.heap ⟨v,w,o,np,cp,oi,ni⟩).length (some [0,1]) [⟨.b8 (sumV (sumD (firstD 64 w np oi ni)) v o 64),.own⟩,⟨.b8 w,.ro⟩] (.tup []) (goB specs25 kHs 25 (c25.args ⟨v,w,o,np,cp,oi,ni⟩) ⟨c25.heap ⟨v,w,o,np,cp,oi,ni⟩,big,[false,true],[]⟩) = some ([⟨.b8 (sumV (sumD (firstD 64 w np oi ni)) v o 64),.own⟩,⟨.b8 w,.ro⟩],(.tup []),[decide (((0:Int) ≤ (wrN (wrN 0 (4 - (0:Nat))) ni) ∧ ((wrN (wrN 0 (4 - (0:Nat))) ni) ≤ 128 ∧ ((1:Int) ≤ 64 ∧ ((64:Int) ≤ 64 ∧ ((64:Nat) ≤ (cp - (0:Nat)) ∧ (((o + (0:Nat)) + (cp - (0:Nat))) ≤ v.n ∧ (cp - (0:Nat)) ≤ 1099511627776))))))),((true && true) && decide ((0:Int) ≤ ((cp:Nat):Int))),(decide (((np:Nat):Int) ≤ 64) == true),decide (((0:Int) ≤ (wrN 0 (4 - (0:Nat))) ∧ ((wrN 0 (4 - (0:Nat))) ≤ 128 ∧ ((oi + ni) ≤ w.n ∧ (ni ≤ 1099511627776 ∧ ((((wrC (0#64) 0 (4 - (0:Nat)))).toNat + ni) + 256) ≤ 1152921504606846976))))),decide (((0:Int) ≤ 0 ∧ ((0:Int) ≤ 128 ∧ (((0 + ((0:Nat) * 1)) + (4 - (0:Nat))) ≤ 64 ∧ ((4 - (0:Nat)) ≤ 1099511627776 ∧ ((((0#64)).toNat + (4 - (0:Nat))) + 256) ≤ 1152921504606846976))))),decide (((1:Int) ≤ 64 ∧ (64:Int) ≤ 64)),(decide (((np:Nat):Int) < 64) == false)]):=by kernel_rfl
theorem h3 (v w:Vec 8) (o np cp oi ni:Nat):endsAs (c25.heap ⟨v,w,o,np,cp,oi,ni⟩).length (some [0,1]) [⟨.b8 (sumV (sumD (wrD (newD ((lz v w o np cp oi ni).N - (32 * ((((lz v w o np cp oi ni).N + 31).tdiv 32) - 2))) Z128) (lz v w o np cp oi ni).b 0 64)) (lz v w o np cp oi ni).v (lz v w o np cp oi ni).o ((lz v w o np cp oi ni).N - (32 * ((((lz v w o np cp oi ni).N + 31).tdiv 32) - 2)))),.own⟩,⟨.b8 w,.ro⟩] (.tup []) (goB specs25 kHs 25 (c25.args ⟨v,w,o,np,cp,oi,ni⟩) ⟨c25.heap ⟨v,w,o,np,cp,oi,ni⟩,big,[false,false,true],[]⟩) = some ([⟨.b8 (sumV (sumD (wrD (newD ((lz v w o np cp oi ni).N - (32 * ((((lz v w o np cp oi ni).N + 31).tdiv 32) - 2))) Z128) (lz v w o np cp oi ni).b 0 64)) (lz v w o np cp oi ni).v (lz v w o np cp oi ni).o ((lz v w o np cp oi ni).N - (32 * ((((lz v w o np cp oi ni).N + 31).tdiv 32) - 2)))),.own⟩,⟨.b8 w,.ro⟩],(.tup []),[decide (((0:Int) ≤ (wrN 0 (64:Nat)) ∧ ((wrN 0 (64:Nat)) ≤ 128 ∧ ((1:Int) ≤ (((lz v w o np cp oi ni)).N - (32 * ((Int.tdiv (((lz v w o np cp oi ni)).N + 31) 32) - 2))) ∧ ((((lz v w o np cp oi ni)).N - (32 * ((Int.tdiv (((lz v w o np cp oi ni)).N + 31) 32) - 2))) ≤ 64 ∧ ((((((lz v w o np cp oi ni)).N - (32 * ((Int.tdiv (((lz v w o np cp oi ni)).N + 31) 32) - 2)))):Int).toNat ≤ (((lz v w o np cp oi ni)).cp - (0:Nat)) ∧ (((((lz v w o np cp oi ni)).o + (0:Nat)) + (((lz v w o np cp oi ni)).cp - (0:Nat))) ≤ ((lz v w o np cp oi ni)).v.n ∧ (((lz v w o np cp oi ni)).cp - (0:Nat)) ≤ 1099511627776))))))),((true && true) && decide ((0:Int) ≤ ((((lz v w o np cp oi ni)).cp:Nat):Int))),decide (((0:Int) ≤ 0 ∧ ((0:Int) ≤ 128 ∧ (((0 + ((0:Nat) * 1)) + (64:Nat)) ≤ ((lz v w o np cp oi ni)).b.n ∧ ((64:Nat) ≤ 1099511627776 ∧ ((((0#64)).toNat + (64:Nat)) + 256) ≤ 1152921504606846976))))),decide ((64:Nat) ≤ ((lz v w o np cp oi ni)).b.n),decide (((1:Int) ≤ (((lz v w o np cp oi ni)).N - (32 * ((Int.tdiv (((lz v w o np cp oi ni)).N + 31) 32) - 2))) ∧ (((lz v w o np cp oi ni)).N - (32 * ((Int.tdiv (((lz v w o np cp oi ni)).N + 31) 32) - 2))) ≤ 64)),decide ((((-9223372036854775808):Int) ≤ (((lz v w o np cp oi ni)).N - (32 * ((Int.tdiv (((lz v w o np cp oi ni)).N + 31) 32) - 2))) ∧ (((lz v w o np cp oi ni)).N - (32 * ((Int.tdiv (((lz v w o np cp oi ni)).N + 31) 32) - 2))) ≤ 9223372036854775807)),decide ((((-9223372036854775808):Int) ≤ (32 * ((Int.tdiv (((lz v w o np cp oi ni)).N + 31) 32) - 2)) ∧ (32 * ((Int.tdiv (((lz v w o np cp oi ni)).N + 31) 32) - 2)) ≤ 9223372036854775807)),decide ((((-9223372036854775808):Int) ≤ ((Int.tdiv (((lz v w o np cp oi ni)).N + 31) 32) - 2) ∧ ((Int.tdiv (((lz v w o np cp oi ni)).N + 31) 32) - 2) ≤ 9223372036854775807)),decide (((0:Int) ≤ (((lz v w o np cp oi ni)).N + 31) ∧ ((0:Int) < 32 ∧ (((lz v w o np cp oi ni)).N + 31) ≤ 9223372036854775807))),decide ((((-9223372036854775808):Int) ≤ (((lz v w o np cp oi ni)).N + 31) ∧ (((lz v w o np cp oi ni)).N + 31) ≤ 9223372036854775807)),(decide ((0:Int) < (Int.tmod ((lz v w o np cp oi ni)).N 64)) == true),decide ((64:Int) ≠ 0),decide ((((o + 32) + (cp - 32)) ≤ v.n ∧ ((np - 32) ≤ (cp - 32) ∧ ((cp - 32) ≤ 1099511627776 ∧ ((64:Nat) = 64 ∧ ((1:Int) ≤ 64 ∧ ((64:Int) ≤ 64 ∧ ((0:Int) = 0 ∧ ((0#64)).toNat ≤ 1000000)))))))),((true && decide ((32:Int) ≤ ((np:Nat):Int))) && decide (((np:Nat):Int) ≤ ((cp:Nat):Int))),decide ((o + (Nat.min (32 - (0:Nat)) np)) ≤ v.n),decide (((0 + ((0:Nat) * 1)) + (Nat.min (32 - (0:Nat)) np)) ≤ 64),decide ((64:Nat) ≤ 64),decide (((0:Int) ≤ 64 ∧ (64:Int) ≤ 64)),decide (((0:Int) ≤ (wrN (wrN 0 (4 - (0:Nat))) ni) ∧ ((wrN (wrN 0 (4 - (0:Nat))) ni) ≤ 128 ∧ ((1:Int) ≤ 64 ∧ ((64:Int) ≤ 64 ∧ ((64:Nat) ≤ (64 - (0:Nat)) ∧ (((0 + ((0:Nat) * 1)) + (64 - (0:Nat))) ≤ 64 ∧ (64 - (0:Nat)) ≤ 1099511627776))))))),(decide (((np:Nat):Int) ≤ 64) == false),decide (((0:Int) ≤ (wrN 0 (4 - (0:Nat))) ∧ ((wrN 0 (4 - (0:Nat))) ≤ 128 ∧ ((oi + ni) ≤ w.n ∧ (ni ≤ 1099511627776 ∧ ((((wrC (0#64) 0 (4 - (0:Nat)))).toNat + ni) + 256) ≤ 1152921504606846976))))),decide (((0:Int) ≤ 0 ∧ ((0:Int) ≤ 128 ∧ (((0 + ((0:Nat) * 1)) + (4 - (0:Nat))) ≤ 64 ∧ ((4 - (0:Nat)) ≤ 1099511627776 ∧ ((((0#64)).toNat + (4 - (0:Nat))) + 256) ≤ 1152921504606846976))))),decide (((1:Int) ≤ 64 ∧ (64:Int) ≤ 64)),(decide (((np:Nat):Int) < 64) == false)]):=by kernel_rfl
theorem h4 (v w:Vec 8) (o np cp oi ni:Nat):endsAs (c25.heap ⟨v,w,o,np,cp,oi,ni⟩).length (some [0,1]) [⟨.b8 (sumV (sumD (wrD ⟨(lz v w o np cp oi ni).h,(lz v w o np cp oi ni).c0,(lz v w o np cp oi ni).xb,(lz v w o np cp oi ni).nx⟩ (lz v w o np cp oi ni).b 0 64)) (lz v w o np cp oi ni).v (lz v w o np cp oi ni).o (lz v w o np cp oi ni).sz),.own⟩,⟨.b8 w,.ro⟩] (.tup []) (goB specs25 kHs 25 (c25.args ⟨v,w,o,np,cp,oi,ni⟩) ⟨c25.heap ⟨v,w,o,np,cp,oi,ni⟩,big,[false,false,false],[]⟩) = some ([⟨.b8 (sumV (sumD (wrD ⟨(lz v w o np cp oi ni).h,(lz v w o np cp oi ni).c0,(lz v w o np cp oi ni).xb,(lz v w o np cp oi ni).nx⟩ (lz v w o np cp oi ni).b 0 64)) (lz v w o np cp oi ni).v (lz v w o np cp oi ni).o (lz v w o np cp oi ni).sz),.own⟩,⟨.b8 w,.ro⟩],(.tup []),[decide (((0:Int) ≤ (wrN ((lz v w o np cp oi ni)).nx (64:Nat)) ∧ ((wrN ((lz v w o np cp oi ni)).nx (64:Nat)) ≤ 128 ∧ ((1:Int) ≤ ((lz v w o np cp oi ni)).sz ∧ (((lz v w o np cp oi ni)).sz ≤ 64 ∧ (((((lz v w o np cp oi ni)).sz):Int).toNat ≤ (((lz v w o np cp oi ni)).cp - (0:Nat)) ∧ (((((lz v w o np cp oi ni)).o + (0:Nat)) + (((lz v w o np cp oi ni)).cp - (0:Nat))) ≤ ((lz v w o np cp oi ni)).v.n ∧ (((lz v w o np cp oi ni)).cp - (0:Nat)) ≤ 1099511627776))))))),((true && true) && decide ((0:Int) ≤ ((((lz v w o np cp oi ni)).cp:Nat):Int))),decide (((0:Int) ≤ ((lz v w o np cp oi ni)).nx ∧ (((lz v w o np cp oi ni)).nx ≤ 128 ∧ (((0 + ((0:Nat) * 1)) + (64:Nat)) ≤ ((lz v w o np cp oi ni)).b.n ∧ ((64:Nat) ≤ 1099511627776 ∧ (((((lz v w o np cp oi ni)).c0).toNat + (64:Nat)) + 256) ≤ 1152921504606846976))))),decide ((64:Nat) ≤ ((lz v w o np cp oi ni)).b.n),(decide ((0:Int) < (Int.tmod ((lz v w o np cp oi ni)).N 64)) == false),decide ((64:Int) ≠ 0),decide ((((o + 32) + (cp - 32)) ≤ v.n ∧ ((np - 32) ≤ (cp - 32) ∧ ((cp - 32) ≤ 1099511627776 ∧ ((64:Nat) = 64 ∧ ((1:Int) ≤ 64 ∧ ((64:Int) ≤ 64 ∧ ((0:Int) = 0 ∧ ((0#64)).toNat ≤ 1000000)))))))),((true && decide ((32:Int) ≤ ((np:Nat):Int))) && decide (((np:Nat):Int) ≤ ((cp:Nat):Int))),decide ((o + (Nat.min (32 - (0:Nat)) np)) ≤ v.n),decide (((0 + ((0:Nat) * 1)) + (Nat.min (32 - (0:Nat)) np)) ≤ 64),decide ((64:Nat) ≤ 64),decide (((0:Int) ≤ 64 ∧ (64:Int) ≤ 64)),decide (((0:Int) ≤ (wrN (wrN 0 (4 - (0:Nat))) ni) ∧ ((wrN (wrN 0 (4 - (0:Nat))) ni) ≤ 128 ∧ ((1:Int) ≤ 64 ∧ ((64:Int) ≤ 64 ∧ ((64:Nat) ≤ (64 - (0:Nat)) ∧ (((0 + ((0:Nat) * 1)) + (64 - (0:Nat))) ≤ 64 ∧ (64 - (0:Nat)) ≤ 1099511627776))))))),(decide (((np:Nat):Int) ≤ 64) == false),decide (((0:Int) ≤ (wrN 0 (4 - (0:Nat))) ∧ ((wrN 0 (4 - (0:Nat))) ≤ 128 ∧ ((oi + ni) ≤ w.n ∧ (ni ≤ 1099511627776 ∧ ((((wrC (0#64) 0 (4 - (0:Nat)))).toNat + ni) + 256) ≤ 1152921504606846976))))),decide (((0:Int) ≤ 0 ∧ ((0:Int) ≤ 128 ∧ (((0 + ((0:Nat) * 1)) + (4 - (0:Nat))) ≤ 64 ∧ ((4 - (0:Nat)) ≤ 1099511627776 ∧ ((((0#64)).toNat + (4 - (0:Nat))) + 256) ≤ 1152921504606846976))))),decide (((1:Int) ≤ 64 ∧ (64:Int) ≤ 64)),(decide (((np:Nat):Int) < 64) == false)]):=by kernel_rfl
end
section
open Go.Eng
variable [RowAddr] [Co] [SeatCo]
theorem v4n {np:Nat}:(v4 np).n = 64:=rfl
theorem wC4:wrC 0#64 0 4 = 0#64:=rfl
structure LInv (w0:Vec 8) (vn o0 np0 cp0 k:Nat) (d:kHD):Prop where
 q1:d.w = w0
 q2:d.b.n = 64
 q3:d.v.n = vn
 q4:d.sz = 64
 q5:d.nx = 0
 q6:d.c0 = 0#64
 q7:d.h = hI 64
 q8:d.o = o0 + 32 + 32 * k
 q9:d.np = np0 - 32 - 32 * k
 q10:d.cp = cp0 - 32 - 32 * k
 q11:d.N = ((np0:Nat):Int)
theorem l_inv (v w:Vec 8) (o np cp oi ni:Nat):∀ k,LInv w v.n o np cp k (iter kH_next k (l0 v w o np cp oi ni))
 | 0=>⟨rfl,(sumVn _ _ _ _).trans v4n,eov _ _ _,rfl,rfl,rfl,rfl,rfl,rfl,rfl,rfl⟩
 | k + 1=>by
  have h:=l_inv v w o np cp oi ni k
  rw [iter_succ]
  generalize iter kH_next k (l0 v w o np cp oi ni) = d at h
  obtain ⟨v',w',b,h',c0,sz,xb,nx,kb,o',np',cp',N⟩:=d
  obtain ⟨h1,h2,h3,h4,h5,h6,h7,h8,h9,h10,h11⟩:=h
  simp only at h1 h2 h3 h4 h5 h6 h7 h8 h9 h10 h11
  subst h4
  exact ⟨h1,(sumVn _ _ _ _).trans h2,(eov _ _ _).trans h3,rfl,rfl,rfl,rfl,by show o' + 32 = _;omega,by show np' - 32 = _;omega,by show cp' - 32 = _;omega,h11⟩
theorem c25_ok:SpecOk Tryd.prog noGlob 25 c25.spec:=by
 refine c25.ok (goB_ok specs25_ok (kHs_ok _)) c25_read ?_
 rintro ⟨v,w,o,np,cp,oi,ni⟩ hg
 have hg:1 ≤ np ∧ np ≤ cp ∧ o + cp ≤ v.n ∧ cp ≤ 1099511627776 ∧ oi + ni ≤ w.n ∧ ni ≤ 1099511627776:=of_decide_eq_true hg
 have hmin:∀ a b:Nat,Nat.min a b = min a b:=fun _ _=>rfl
 have e0:(0#64).toNat = 0:=rfl
 have w1:=wrN_le 0 4 (by omega) (by omega)
 have w2:=wrN_le (wrN 0 4) ni w1.1 w1.2
 have w3:=wrN_le 0 64 (by omega) (by omega)
 by_cases h1:np ≤ 64
 ·by_cases h2:np < 64
  ·have eo:c25.out ⟨v,w,o,np,cp,oi,ni⟩ = ([⟨.b8 (sumV (sumD (firstD ((np:Nat):Int) w np oi ni)) v o ((np:Nat):Int)),.own⟩,⟨.b8 w,.ro⟩]:List Blk):=by
    show ([⟨.b8 (hashV v w o np cp oi ni),.own⟩,⟨.b8 w,.ro⟩]:List Blk) = _
    unfold hashV
    rw [if_pos h1]
    try rfl
   rw [eo]
   refine ⟨[true,true],some [0,1],_,Go.Proofs.YtineimjmnbjdlaaDoor.h1 v w o np cp oi ni,?_⟩
   repeat' (refine all_true_cons ?_ ?_)
   all_goals first | exact all_true_nil | (simp only [bq,Int.toNat_natCast,Int.toNat_zero,Nat.sub_zero,Nat.add_zero,hmin,e0,wC4] <;> omega)
  ·obtain rfl:np = 64:=by omega
   have eo:c25.out ⟨v,w,o,64,cp,oi,ni⟩ = ([⟨.b8 (sumV (sumD (firstD 64 w 64 oi ni)) v o 64),.own⟩,⟨.b8 w,.ro⟩]:List Blk):=by
    show ([⟨.b8 (hashV v w o 64 cp oi ni),.own⟩,⟨.b8 w,.ro⟩]:List Blk) = _
    unfold hashV
    rw [if_pos h1]
    rfl
   rw [eo]
   refine ⟨[false,true],some [0,1],_,Go.Proofs.YtineimjmnbjdlaaDoor.h2 v w o 64 cp oi ni,?_⟩
   repeat' (refine all_true_cons ?_ ?_)
   all_goals first | exact all_true_nil | (simp only [bq,Int.toNat_natCast,Int.toNat_zero,Nat.sub_zero,Nat.add_zero,hmin,e0,wC4] <;> omega)
 ·obtain ⟨i1,i2,i3,i4,i5,i6,i7,i8,i9,i10,i11⟩:=l_inv v w o np cp oi ni ((np - 32 - 33) / 32)
  have i1:(lz v w o np cp oi ni).w = w:=i1
  have i2:(lz v w o np cp oi ni).b.n = 64:=i2
  have i3:(lz v w o np cp oi ni).v.n = v.n:=i3
  have i4:(lz v w o np cp oi ni).sz = 64:=i4
  have i5:(lz v w o np cp oi ni).nx = 0:=i5
  have i6:(lz v w o np cp oi ni).c0 = 0#64:=i6
  have i8:(lz v w o np cp oi ni).o = o + 32 + 32 * ((np - 32 - 33) / 32):=i8
  have i10:(lz v w o np cp oi ni).cp = cp - 32 - 32 * ((np - 32 - 33) / 32):=i10
  have i11:(lz v w o np cp oi ni).N = ((np:Nat):Int):=i11
  have t1:(((np:Nat):Int) + 31).tdiv 32 = (((np:Nat):Int) + 31) / 32:=Int.tdiv_eq_ediv_of_nonneg (by omega)
  have t2:((np:Nat):Int).tmod 64 = ((np:Nat):Int) % 64:=Int.tmod_eq_emod_of_nonneg (by omega)
  by_cases h3:0 < (lz v w o np cp oi ni).N.tmod 64
  ·have h4:=h3
   rw [i11,t2] at h4
   have eo:c25.out ⟨v,w,o,np,cp,oi,ni⟩ = ([⟨.b8 (sumV (sumD (wrD (newD ((lz v w o np cp oi ni).N - (32 * (((lz v w o np cp oi ni).N + 31).tdiv 32 - 2))) Z128) (lz v w o np cp oi ni).b 0 64)) (lz v w o np cp oi ni).v (lz v w o np cp oi ni).o ((lz v w o np cp oi ni).N - (32 * (((lz v w o np cp oi ni).N + 31).tdiv 32 - 2)))),.own⟩,⟨.b8 w,.ro⟩]:List Blk):=by
    show ([⟨.b8 (hashV v w o np cp oi ni),.own⟩,⟨.b8 w,.ro⟩]:List Blk) = _
    unfold hashV
    rw [if_neg h1,if_pos h3]
    try rfl
   rw [eo]
   refine ⟨[false,false,true],some [0,1],_,Go.Proofs.YtineimjmnbjdlaaDoor.h3 v w o np cp oi ni,?_⟩
   repeat' (refine all_true_cons ?_ ?_)
   all_goals first | exact all_true_nil | (simp only [bq,Int.toNat_natCast,Int.toNat_zero,Nat.sub_zero,Nat.add_zero,hmin,e0,wC4,i2,i3,i4,i5,i6,i8,i10,i11,t1,t2] <;> omega)
  ·have h4:=h3
   rw [i11,t2] at h4
   have eo:c25.out ⟨v,w,o,np,cp,oi,ni⟩ = ([⟨.b8 (sumV (sumD (wrD ⟨(lz v w o np cp oi ni).h,(lz v w o np cp oi ni).c0,(lz v w o np cp oi ni).xb,(lz v w o np cp oi ni).nx⟩ (lz v w o np cp oi ni).b 0 64)) (lz v w o np cp oi ni).v (lz v w o np cp oi ni).o (lz v w o np cp oi ni).sz),.own⟩,⟨.b8 w,.ro⟩]:List Blk):=by
    show ([⟨.b8 (hashV v w o np cp oi ni),.own⟩,⟨.b8 w,.ro⟩]:List Blk) = _
    unfold hashV
    rw [if_neg h1,if_neg h3]
    try rfl
   rw [eo]
   refine ⟨[false,false,false],some [0,1],_,Go.Proofs.YtineimjmnbjdlaaDoor.h4 v w o np cp oi ni,?_⟩
   repeat' (refine all_true_cons ?_ ?_)
   all_goals first | exact all_true_nil | (simp only [bq,Int.toNat_natCast,Int.toNat_zero,Nat.sub_zero,Nat.add_zero,hmin,e0,wC4,i2,i3,i4,i5,i6,i8,i10,i11,t1,t2] <;> omega)
end
end Go.Proofs.YtineimjmnbjdlaaDoor

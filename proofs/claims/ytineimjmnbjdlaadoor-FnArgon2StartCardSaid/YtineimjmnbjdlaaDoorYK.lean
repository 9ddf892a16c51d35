/- An interpreter of the model's code over abstract values, proved sound, and a walk in company by it: part of the proof of FnArgon2Start. No condition. -/
import Derived.Test.YtineimjmnbjdlaaDoorYJ
import Derived.KernelRfl
set_option linter.unusedVariables false
set_option linter.unusedSectionVars false
set_option linter.unusedSimpArgs false
namespace Go.Proofs.YtineimjmnbjdlaaDoor
section
open Go.Eng
variable [RowAddr] [Co] [SeatCo]
def setW (X:Vec 64) (j:Nat) (c:BitVec 8) (s:Int):Vec 64:=X.set j (X.l.getD j 0#64 ||| c.setWidth 64 <<< s.toNat)
theorem setW_n (X:Vec 64) (j:Nat) (c:BitVec 8) (s:Int):(setW X j c s).n = X.n:=rfl
structure kWD where
 v:Vec 8
 X:Vec 64
 o:Nat
 np:Nat
 n:Int
 i:Int
def kW_st (d:kWD):Fr × List Blk:=
 match d with
 | ⟨v,X,o,np,n,i⟩=>(⟨[(.atom .undef),(.atom .undef),(.atom .undef),(.atom .undef),(.ref (.ptr 2 (.c 0))),(.ref (.ptr 3 (.c 0))),(.num (.int .i64 (.c 8))),(.atom .undef),(.atom .undef)],[⟨14,(.num (.int .i64 (.s i)))⟩,⟨13,(.num (.int .i64 (.s n)))⟩,⟨12,(.ref (.sl 0 (.s o) (.s np) none))⟩]⟩,[⟨(.b8 v),.ro⟩,⟨(.gen []),.dead⟩,⟨(.gen []),.dead⟩,⟨(.b64 X),.own⟩])
def kW_next (d:kWD):kWD:=
 match d with
 | ⟨v,X,o,np,n,i⟩=>⟨v,setW X (0 + (i.tdiv 8).toNat * 1) (v.l.getD (o + i.toNat * 1) 0#8) (8 * (i.tmod 8)),o,np,n,i + 1⟩
def kW_rd (F:Fr) (K:List Blk):Option kWD:=
 match F with
 | ⟨[(.atom .undef),(.atom .undef),(.atom .undef),(.atom .undef),(.ref (.ptr 2 (.c 0))),(.ref (.ptr 3 (.c 0))),(.num (.int .i64 (.c 8))),(.atom .undef),(.atom .undef)],[⟨14,(.num (.int .i64 (.s i)))⟩,⟨13,(.num (.int .i64 (.s n)))⟩,⟨12,(.ref (.sl 0 (.s o) (.s np) none))⟩]⟩=>
  match K with
  | [⟨(.b8 v),.ro⟩,⟨(.gen []),.dead⟩,⟨(.gen []),.dead⟩,⟨(.b64 X),.own⟩]=>some ⟨v,X,o,np,n,i⟩
  | _=>none
 | _=>none
def kW:LoopP kWD where
 pat:=⟨[.undef,.undef,.undef,.undef,(.ptr 2 (.c 0)),(.ptr 3 (.c 0)),(.int .i64 (.c 8)),.undef,.undef],[⟨14,(.int .i64 (.s 0))⟩,⟨13,(.int .i64 (.s 0))⟩,⟨12,(.sl 0 (.s 0) (.s 0) none)⟩]⟩
 patH:=[⟨(.b8 (Vec.zero 8 0)),.ro⟩,⟨(.gen []),.dead⟩,⟨(.gen []),.dead⟩,⟨(.b64 (Vec.zero 64 0)),.own⟩]
 gh:=[]
 read:=kW_rd
 st:=kW_st
 next:=kW_next
 rem:=fun ⟨_,_,_,_,n,i⟩=>(n - i).toNat
 good:=fun ⟨v,X,o,np,n,i⟩=>decide (0 ≤ i ∧ i ≤ n ∧ n = np ∧ np ≤ 128 ∧ o + np ≤ v.n ∧ X.n = 16)
 out:=.exit 0
 fin:=kW_st
theorem kW_round (v:Vec 8) (X:Vec 64) (o np:Nat) (n i:Int):ranAs ((kW.st ⟨v,X,o,np,n,i⟩).2.length - kW.gh.length) (some [0,1,2,3]) (kW.st (kW_next ⟨v,X,o,np,n,i⟩)) (goL noSpec noLoop 42 0 (kW.st ⟨v,X,o,np,n,i⟩).1 ⟨(kW.st ⟨v,X,o,np,n,i⟩).2,big,[true],[]⟩) = some (.normal,(kW.st (kW_next ⟨v,X,o,np,n,i⟩)),[decide ((((-9223372036854775808):Int) ≤ (i + 1) ∧ (i + 1) ≤ 9223372036854775807)),decide ((0 + ((((Int.tdiv i 8)):Int).toNat * 1)) < X.n),(decide ((0:Int) ≤ (Int.tdiv i 8)) && decide ((Int.tdiv i 8) < ((16:Nat):Int))),decide ((0:Int) ≤ (8 * (Int.tmod i 8))),decide ((((-9223372036854775808):Int) ≤ (8 * (Int.tmod i 8)) ∧ (8 * (Int.tmod i 8)) ≤ 9223372036854775807)),decide ((8:Int) ≠ 0),decide ((0 + ((((Int.tdiv i 8)):Int).toNat * 1)) < X.n),(decide ((0:Int) ≤ (Int.tdiv i 8)) && decide ((Int.tdiv i 8) < ((16:Nat):Int))),decide (((0:Int) ≤ i ∧ ((0:Int) < 8 ∧ i ≤ 9223372036854775807))),decide ((o + (((i):Int).toNat * 1)) < v.n),(decide ((0:Int) ≤ i) && decide (i < ((np:Nat):Int))),(decide (i < n) == true)]):=by kernel_rfl
theorem kW_end (v:Vec 8) (X:Vec 64) (o np:Nat) (n i:Int):ranAs ((kW.st ⟨v,X,o,np,n,i⟩).2.length - kW.gh.length) none (kW.fin ⟨v,X,o,np,n,i⟩) (goL noSpec noLoop 42 0 (kW.st ⟨v,X,o,np,n,i⟩).1 ⟨(kW.st ⟨v,X,o,np,n,i⟩).2,big,[false],[]⟩) = some (kW.out,(kW.fin ⟨v,X,o,np,n,i⟩),[(decide (i < n) == false)]):=by kernel_rfl
set_option maxRecDepth 100000 in
theorem kW_read (F:Fr) (K:List Blk) (d:kWD) (h:kW.read F K = some d):(F,K) = kW.st d:=by
 replace h:kW_rd F K = some d:=h
 unfold kW_rd at h
 split at h
 case h_2=>cases h
 split at h
 case h_2=>cases h
 injection h with h;subst h
 rfl
theorem kW_body:RunOk Tryd.prog noGlob (nv 42) (ntmpsIn Tryd.prog 42) (loopIn Tryd.prog 42 0) (goL noSpec noLoop 42 0):=goL_ok no_specs (no_loops _) 42 0 fine42 (by rw [show (loopsIn Tryd.prog 42).length = 1 by kernel_rfl];omega)
theorem kW_toldL:LoopOk Tryd.prog noGlob (nv 42) (ntmpsIn Tryd.prog 42) (loopIn Tryd.prog 42 0) kW.T.told:=by
 refine kW.ran kW_body (by intro k hk;have hk:k ∈ ([]:List Blk):=hk;cases hk) (by intro h;cases h) kW_read ?_ ?_
 ·rintro ⟨v,X,o,np,n,i⟩ kk hg hr
  have hg:0 ≤ i ∧ i ≤ n ∧ n = np ∧ np ≤ 128 ∧ o + np ≤ v.n ∧ X.n = 16:=of_decide_eq_true hg
  have hr:(n - i).toNat = kk + 1:=hr
  have en:kW.next ⟨v,X,o,np,n,i⟩ = kW_next ⟨v,X,o,np,n,i⟩:=rfl
  rw [en]
  refine ⟨⟨[true],(some [0,1,2,3]),_,kW_round v X o np n i,?_⟩,?_,?_,(show (kW.st (kW_next ⟨v,X,o,np,n,i⟩)).2.length = 4 by kernel_rfl).trans (show (kW.st ⟨v,X,o,np,n,i⟩).2.length = 4 by kernel_rfl).symm⟩
  ·have h1:i.tdiv 8 = i / 8:=Int.tdiv_eq_ediv_of_nonneg (by omega)
   have h2:i.tmod 8 = i % 8:=Int.tmod_eq_emod_of_nonneg (by omega)
   repeat' (refine all_true_cons ?_ ?_)
   all_goals first | exact all_true_nil | rfl | (simp only [bq,h1,h2] <;> omega)
  ·have e:kW.good (kW_next ⟨v,X,o,np,n,i⟩) = decide (0 ≤ (i + 1:Int) ∧ (i + 1:Int) ≤ n ∧ n = np ∧ np ≤ 128 ∧ o + np ≤ v.n ∧ (setW X (0 + (i.tdiv 8).toNat * 1) (v.l.getD (o + i.toNat * 1) 0#8) (8 * (i.tmod 8)):Vec 64).n = 16):=by kernel_rfl
   refine e.trans (decide_eq_true ?_)
   have e1:=setW_n X (0 + (i.tdiv 8).toNat * 1) (v.l.getD (o + i.toNat * 1) 0#8) (8 * (i.tmod 8));omega
  ·have e:kW.rem (kW_next ⟨v,X,o,np,n,i⟩) = ((n - (i + 1:Int)).toNat):=by kernel_rfl
   refine e.trans ?_
   omega
 ·rintro ⟨v,X,o,np,n,i⟩ hg hr
  have hg:0 ≤ i ∧ i ≤ n ∧ n = np ∧ np ≤ 128 ∧ o + np ≤ v.n ∧ X.n = 16:=of_decide_eq_true hg
  have hr:(n - i).toNat = 0:=hr
  refine ⟨[false],none,_,kW_end v X o np n i,?_⟩
  repeat' (refine all_true_cons ?_ ?_)
  all_goals first | exact all_true_nil | rfl | (simp only [bq] <;> omega)
def kW_spec:LSpec:=kW.T.told
theorem kW_told:Told 42 0 kW_spec:=kW_toldL.run
def kWs:FuncId → Nat → Option LSpec
 | 42,4=>some kW_spec
 | _,_=>none
theorem kWs_len:(loopsIn Tryd.prog 42).length = 1:=by kernel_rfl
theorem kWs_ok (spec:FuncId → Option Eng.Spec):LoopsOk (cfg spec kWs) noGlob:=by
 refine LoopsOk.of fun f=>?_
 by_cases hf:f = 42
 ·subst hf
  refine .inr ⟨by kernel_rfl,fun i hi sp hsp=>?_⟩
  have hi:i < (loopsIn Tryd.prog 42).length:=hi
  rw [kWs_len] at hi
  have hi3:i = 0:=by omega
  rcases hi3 with rfl
  ·have e:(firstRid (loopIn Tryd.prog 42 0)).bind (kWs 42) = some kW_spec:=by kernel_rfl
   obtain rfl:=Option.some.inj (e.symm.trans hsp)
   exact kW_told
 ·refine .inl fun r=>?_
  show kWs f r = none
  unfold kWs
  split
  ·exact absurd rfl hf
  ·rfl
end
section
open Go.Eng
variable [RowAddr] [Co] [SeatCo]
structure c41fD where
 h:H8
 m:Vec 64
 lo:BitVec 64
 hi:BitVec 64
def c41f_rd (a:List AV) (K:List Blk):Option c41fD:=
 match a with
 | [(.agg [(.num (.int .i64 (.c 64))),(.num (.int .i64 (.c 32))),(.num (.int .i64 (.c 24))),(.num (.int .i64 (.c 16))),(.num (.int .i64 (.c 63))),(.num (.int .i64 (.c 12)))]),(.agg [(.num (.w64 h0)),(.num (.w64 h1)),(.num (.w64 h2)),(.num (.w64 h3)),(.num (.w64 h4)),(.num (.w64 h5)),(.num (.w64 h6)),(.num (.w64 h7))]),(.agg xs_m),(.num (.w64 lo)),(.num (.w64 hi)),(.atom (.bool (.c false))),(.agg cs_sigL)]=>
  match K with
  | []=>
   (match eqC cs_sigL sigL with
   | true=>
   (match rd64 16 xs_m with
   | some m=>some ⟨⟨h0,h1,h2,h3,h4,h5,h6,h7⟩,m,lo,hi⟩
   | none=>none)
   | false=>none)
  | _=>none
 | _=>none
def c41f:Ct c41fD where
 pat:=[(.agg [(.int .i64 (.c 64)),(.int .i64 (.c 32)),(.int .i64 (.c 24)),(.int .i64 (.c 16)),(.int .i64 (.c 63)),(.int .i64 (.c 12))]),(.agg [(.w64 0#64),(.w64 0#64),(.w64 0#64),(.w64 0#64),(.w64 0#64),(.w64 0#64),(.w64 0#64),(.w64 0#64)]),(.agg (List.replicate 16 (.w64 0#64))),(.w64 0#64),(.w64 0#64),(.bool (.c false)),(.agg (mkC sigL))]
 patH:=[]
 read:=c41f_rd
 args:=fun ⟨h,m,lo,hi⟩=>[(.agg [(.int .i64 (.c 64)),(.int .i64 (.c 32)),(.int .i64 (.c 24)),(.int .i64 (.c 16)),(.int .i64 (.c 63)),(.int .i64 (.c 12))]),(.agg [(.w64 h.x0),(.w64 h.x1),(.w64 h.x2),(.w64 h.x3),(.w64 h.x4),(.w64 h.x5),(.w64 h.x6),(.w64 h.x7)]),(.agg (c64v m 16)),(.w64 lo),(.w64 hi),(.bool (.c false)),(.agg (mkC sigL))]
 heap:=fun ⟨_,_,_,_⟩=>[]
 out:=fun ⟨_,_,_,_⟩=>[]
 val:=fun ⟨h,m,lo,hi⟩=>(.agg (h8c (b2S h lo hi 0#64 m)))
 good:=fun ⟨_,_,_,_⟩=>decide (True)
theorem c41f_run (h:H8) (m:Vec 64) (lo hi:BitVec 64):endsAs (c41f.heap ⟨h,m,lo,hi⟩).length (some []) (c41f.out ⟨h,m,lo,hi⟩) (c41f.val ⟨h,m,lo,hi⟩) (goB specs41 noLoop 41 (c41f.args ⟨h,m,lo,hi⟩) ⟨c41f.heap ⟨h,m,lo,hi⟩,big,[],[]⟩) = some ((c41f.out ⟨h,m,lo,hi⟩),(c41f.val ⟨h,m,lo,hi⟩),[true,true,true,true,true,true,true,true,true,true,true,true,true,true,true,true,true,true,true,true,true,true,true,true,true,true,true,true,true,true,true,true,true,true,true,true,true,true,true,true,true,true,true,true,true,true,true,true,true,true,true,true,true,true,true,true,true,true,true,true,true,true,true,true,true,true,true,true,true,true,true,true,true,true,true,true,true,true,true,true,true,true,true,true,true,true,true,true,true,true,true,true,true,true,true,true,true]):=by kernel_rfl
set_option maxRecDepth 100000 in
theorem c41f_read (a:List AV) (K:List Blk) (d:c41fD) (h:c41f.read a K = some d):a = c41f.args d ∧ K = c41f.heap d:=by
 replace h:c41f_rd a K = some d:=h
 unfold c41f_rd at h
 split at h
 case h_2=>cases h
 split at h
 case h_2=>cases h
 split at h
 case h_2=>cases h
 rename_i hc
 obtain rfl:=eqC_eq hc
 split at h
 case h_2=>cases h
 rename_i hr0
 obtain ⟨rfl,_⟩:=rd64_eq hr0
 injection h with h;subst h
 exact ⟨rfl,rfl⟩
theorem c41f_ok:SpecOk Tryd.prog noGlob 41 c41f.spec:=by
 refine c41f.ok (goB_ok specs41_ok (no_loops _)) c41f_read ?_
 rintro ⟨h,m,lo,hi⟩ hg
 have hg:True:=of_decide_eq_true hg
 refine ⟨[],(some []),_,c41f_run h m lo hi,?_⟩
 repeat' (refine all_true_cons ?_ ?_)
 all_goals first | exact all_true_nil | rfl | (simp only [bq] <;> omega)
structure c41tD where
 h:H8
 m:Vec 64
 lo:BitVec 64
 hi:BitVec 64
def c41t_rd (a:List AV) (K:List Blk):Option c41tD:=
 match a with
 | [(.agg [(.num (.int .i64 (.c 64))),(.num (.int .i64 (.c 32))),(.num (.int .i64 (.c 24))),(.num (.int .i64 (.c 16))),(.num (.int .i64 (.c 63))),(.num (.int .i64 (.c 12)))]),(.agg [(.num (.w64 h0)),(.num (.w64 h1)),(.num (.w64 h2)),(.num (.w64 h3)),(.num (.w64 h4)),(.num (.w64 h5)),(.num (.w64 h6)),(.num (.w64 h7))]),(.agg xs_m),(.num (.w64 lo)),(.num (.w64 hi)),(.atom (.bool (.c true))),(.agg cs_sigL)]=>
  match K with
  | []=>
   (match eqC cs_sigL sigL with
   | true=>
   (match rd64 16 xs_m with
   | some m=>some ⟨⟨h0,h1,h2,h3,h4,h5,h6,h7⟩,m,lo,hi⟩
   | none=>none)
   | false=>none)
  | _=>none
 | _=>none
def c41t:Ct c41tD where
 pat:=[(.agg [(.int .i64 (.c 64)),(.int .i64 (.c 32)),(.int .i64 (.c 24)),(.int .i64 (.c 16)),(.int .i64 (.c 63)),(.int .i64 (.c 12))]),(.agg [(.w64 0#64),(.w64 0#64),(.w64 0#64),(.w64 0#64),(.w64 0#64),(.w64 0#64),(.w64 0#64),(.w64 0#64)]),(.agg (List.replicate 16 (.w64 0#64))),(.w64 0#64),(.w64 0#64),(.bool (.c true)),(.agg (mkC sigL))]
 patH:=[]
 read:=c41t_rd
 args:=fun ⟨h,m,lo,hi⟩=>[(.agg [(.int .i64 (.c 64)),(.int .i64 (.c 32)),(.int .i64 (.c 24)),(.int .i64 (.c 16)),(.int .i64 (.c 63)),(.int .i64 (.c 12))]),(.agg [(.w64 h.x0),(.w64 h.x1),(.w64 h.x2),(.w64 h.x3),(.w64 h.x4),(.w64 h.x5),(.w64 h.x6),(.w64 h.x7)]),(.agg (c64v m 16)),(.w64 lo),(.w64 hi),(.bool (.c true)),(.agg (mkC sigL))]
 heap:=fun ⟨_,_,_,_⟩=>[]
 out:=fun ⟨_,_,_,_⟩=>[]
 val:=fun ⟨h,m,lo,hi⟩=>(.agg (h8c (b2S h lo hi 18446744073709551615#64 m)))
 good:=fun ⟨_,_,_,_⟩=>decide (True)
theorem c41t_run (h:H8) (m:Vec 64) (lo hi:BitVec 64):endsAs (c41t.heap ⟨h,m,lo,hi⟩).length (some []) (c41t.out ⟨h,m,lo,hi⟩) (c41t.val ⟨h,m,lo,hi⟩) (goB specs41 noLoop 41 (c41t.args ⟨h,m,lo,hi⟩) ⟨c41t.heap ⟨h,m,lo,hi⟩,big,[],[]⟩) = some ((c41t.out ⟨h,m,lo,hi⟩),(c41t.val ⟨h,m,lo,hi⟩),[true,true,true,true,true,true,true,true,true,true,true,true,true,true,true,true,true,true,true,true,true,true,true,true,true,true,true,true,true,true,true,true,true,true,true,true,true,true,true,true,true,true,true,true,true,true,true,true,true,true,true,true,true,true,true,true,true,true,true,true,true,true,true,true,true,true,true,true,true,true,true,true,true,true,true,true,true,true,true,true,true,true,true,true,true,true,true,true,true,true,true,true,true,true,true,true,true,true]):=by kernel_rfl
set_option maxRecDepth 100000 in
theorem c41t_read (a:List AV) (K:List Blk) (d:c41tD) (h:c41t.read a K = some d):a = c41t.args d ∧ K = c41t.heap d:=by
 replace h:c41t_rd a K = some d:=h
 unfold c41t_rd at h
 split at h
 case h_2=>cases h
 split at h
 case h_2=>cases h
 split at h
 case h_2=>cases h
 rename_i hc
 obtain rfl:=eqC_eq hc
 split at h
 case h_2=>cases h
 rename_i hr0
 obtain ⟨rfl,_⟩:=rd64_eq hr0
 injection h with h;subst h
 exact ⟨rfl,rfl⟩
theorem c41t_ok:SpecOk Tryd.prog noGlob 41 c41t.spec:=by
 refine c41t.ok (goB_ok specs41_ok (no_loops _)) c41t_read ?_
 rintro ⟨h,m,lo,hi⟩ hg
 have hg:True:=of_decide_eq_true hg
 refine ⟨[],(some []),_,c41t_run h m lo hi,?_⟩
 repeat' (refine all_true_cons ?_ ?_)
 all_goals first | exact all_true_nil | rfl | (simp only [bq] <;> omega)
def sp41:Eng.Spec:=orSpec c41f.spec c41t.spec
theorem sp41_ok:SpecOk Tryd.prog noGlob 41 sp41:=SpecOk.or c41f_ok c41t_ok
end
section
open Go.Eng
variable [RowAddr] [Co] [SeatCo]
def wSz (v:Vec 8) (o np:Nat):kWD:=iter kW_next ((((np:Nat):Int) - 0).toNat) ⟨v,Vec.of (List.replicate 16 0#64),o,np,((np:Nat):Int),0⟩
def wS (v:Vec 8) (o np:Nat):Vec 64:=(wSz v o np).X
theorem wS_n (v:Vec 8) (o np:Nat):(wSz v o np).X.n = 16:=by
 have key:∀ k (d:kWD),d.X.n = 16 → (iter kW_next k d).X.n = 16:=by
  intro k
  induction k with
  | zero=>intro d h;exact h
  | succ k ih=>
   intro d h
   rw [iter_succ]
   have:=ih d h
   generalize iter kW_next k d = e at this
   obtain ⟨v',X,o',np',n,i⟩:=e
   exact (setW_n _ _ _ _).trans this
 exact key _ _ rfl
structure c42D where
 v:Vec 8
 o:Nat
 np:Nat
def c42_rd (a:List AV) (K:List Blk):Option c42D:=
 match a with
 | [(.agg [(.num (.int .i64 (.c 64))),(.num (.int .i64 (.c 32))),(.num (.int .i64 (.c 24))),(.num (.int .i64 (.c 16))),(.num (.int .i64 (.c 63))),(.num (.int .i64 (.c 12)))]),(.ref (.sl 0 (.s o) (.s np) none))]=>
  match K with
  | [⟨(.b8 v),.ro⟩]=>some ⟨v,o,np⟩
  | _=>none
 | _=>none
def c42:Ct c42D where
 pat:=[(.agg [(.int .i64 (.c 64)),(.int .i64 (.c 32)),(.int .i64 (.c 24)),(.int .i64 (.c 16)),(.int .i64 (.c 63)),(.int .i64 (.c 12))]),(.sl 0 (.s 0) (.s 0) none)]
 patH:=[⟨(.b8 (Vec.zero 8 0)),.ro⟩]
 read:=c42_rd
 args:=fun ⟨_,o,np⟩=>[(.agg [(.int .i64 (.c 64)),(.int .i64 (.c 32)),(.int .i64 (.c 24)),(.int .i64 (.c 16)),(.int .i64 (.c 63)),(.int .i64 (.c 12))]),(.sl 0 (.s o) (.s np) none)]
 heap:=fun ⟨v,_,_⟩=>[⟨(.b8 v),.ro⟩]
 out:=fun ⟨v,_,_⟩=>[⟨(.b8 v),.ro⟩]
 val:=fun ⟨v,o,np⟩=>(.agg (c64v (wS v o np) 16))
 good:=fun ⟨v,o,np⟩=>decide (np ≤ 128 ∧ o + np ≤ v.n)
theorem c42_run (v:Vec 8) (o np:Nat):endsAs (c42.heap ⟨v,o,np⟩).length (some [0]) (c42.out ⟨v,o,np⟩) (c42.val ⟨v,o,np⟩) (goB noSpec kWs 42 (c42.args ⟨v,o,np⟩) ⟨c42.heap ⟨v,o,np⟩,big,[],[]⟩) = some ((c42.out ⟨v,o,np⟩),(c42.val ⟨v,o,np⟩),[decide ((16:Nat) ≤ ((wSz v o np)).X.n),decide (((0:Int) ≤ 0 ∧ ((0:Int) ≤ ((np:Nat):Int) ∧ (((np:Nat):Int) = ((np:Nat):Int) ∧ (np ≤ 128 ∧ ((o + np) ≤ v.n ∧ (16:Nat) = 16))))))]):=by kernel_rfl
set_option maxRecDepth 100000 in
theorem c42_read (a:List AV) (K:List Blk) (d:c42D) (h:c42.read a K = some d):a = c42.args d ∧ K = c42.heap d:=by
 replace h:c42_rd a K = some d:=h
 unfold c42_rd at h
 split at h
 case h_2=>cases h
 split at h
 case h_2=>cases h
 injection h with h;subst h
 exact ⟨rfl,rfl⟩
theorem c42_ok:SpecOk Tryd.prog noGlob 42 c42.spec:=by
 refine c42.ok (goB_ok no_specs (kWs_ok _)) c42_read ?_
 rintro ⟨v,o,np⟩ hg
 have hg:np ≤ 128 ∧ o + np ≤ v.n:=of_decide_eq_true hg
 refine ⟨[],(some [0]),_,c42_run v o np,?_⟩
 have en:=wS_n v o np
 repeat' (refine all_true_cons ?_ ?_)
 all_goals first | exact all_true_nil | rfl | (simp only [bq,en] <;> omega)
def specs34:FuncId → Option Eng.Spec
 | 41=>some sp41
 | 42=>some c42.spec
 | 55=>some c55.spec
 | 43=>some c43.spec
 | _=>none
theorem specs34_ok:∀ f sp,specs34 f = some sp → SpecOk Tryd.prog noGlob f sp:=by
 intro f sp h
 unfold specs34 at h
 split at h
 ·injection h with h;subst h;exact sp41_ok
 ·injection h with h;subst h;exact c42_ok
 ·injection h with h;subst h;exact c55_ok
 ·injection h with h;subst h;exact c43_ok
 ·cases h
end
section
open Go.Eng
variable [RowAddr] [Co] [SeatCo]
structure c39D where
 unit:Unit:=()
def c39_rd (a:List AV) (K:List Blk):Option c39D:=
 match a with
 | [(.agg [(.num (.int .i64 (.c 64))),(.num (.int .i64 (.c 32))),(.num (.int .i64 (.c 24))),(.num (.int .i64 (.c 16))),(.num (.int .i64 (.c 63))),(.num (.int .i64 (.c 12)))])]=>
  match K with
  | []=>some ⟨()⟩
  | _=>none
 | _=>none
def c39:Ct c39D where
 pat:=[(.agg [(.int .i64 (.c 64)),(.int .i64 (.c 32)),(.int .i64 (.c 24)),(.int .i64 (.c 16)),(.int .i64 (.c 63)),(.int .i64 (.c 12))])]
 patH:=[]
 read:=c39_rd
 args:=fun ⟨_⟩=>[(.agg [(.int .i64 (.c 64)),(.int .i64 (.c 32)),(.int .i64 (.c 24)),(.int .i64 (.c 16)),(.int .i64 (.c 63)),(.int .i64 (.c 12))])]
 heap:=fun ⟨_⟩=>[]
 out:=fun ⟨_⟩=>[]
 val:=fun ⟨_⟩=>(.agg [(.int .u64 (.c 7640891576956012808)),(.int .u64 (.c 13503953896175478587)),(.int .u64 (.c 4354685564936845355)),(.int .u64 (.c 11912009170470909681)),(.int .u64 (.c 5840696475078001361)),(.int .u64 (.c 11170449401992604703)),(.int .u64 (.c 2270897969802886507)),(.int .u64 (.c 6620516959819538809))])
 good:=fun ⟨_⟩=>decide (True)
theorem c39_run  : endsAs (c39.heap ⟨()⟩).length (some []) (c39.out ⟨()⟩) (c39.val ⟨()⟩) (goB specs34 noLoop 39 (c39.args ⟨()⟩) ⟨c39.heap ⟨()⟩,big,[],[]⟩) = some ((c39.out ⟨()⟩),(c39.val ⟨()⟩),[true]):=by kernel_rfl
set_option maxRecDepth 100000 in
theorem c39_read (a:List AV) (K:List Blk) (d:c39D) (h:c39.read a K = some d):a = c39.args d ∧ K = c39.heap d:=by
 replace h:c39_rd a K = some d:=h
 unfold c39_rd at h
 split at h
 case h_2=>cases h
 split at h
 case h_2=>cases h
 injection h with h;subst h
 exact ⟨rfl,rfl⟩
theorem c39_ok:SpecOk Tryd.prog noGlob 39 c39.spec:=by
 refine c39.ok (goB_ok specs34_ok (no_loops _)) c39_read ?_
 rintro ⟨_⟩ hg
 have hg:True:=of_decide_eq_true hg
 refine ⟨[],(some []),_,c39_run ,?_⟩
 repeat' (refine all_true_cons ?_ ?_)
 all_goals first | exact all_true_nil | rfl | (simp only [bq] <;> omega)
def pV (n:Int):Vec 8:=Vec.of (BitVec.ofInt 8 n :: 0#8 :: 1#8 :: 1#8 :: List.replicate 60 0#8)
structure c40D where
 n:Int
def c40_rd (a:List AV) (K:List Blk):Option c40D:=
 match a with
 | [(.agg [(.num (.int .i64 (.c 64))),(.num (.int .i64 (.c 32))),(.num (.int .i64 (.c 24))),(.num (.int .i64 (.c 16))),(.num (.int .i64 (.c 63))),(.num (.int .i64 (.c 12)))]),(.agg [(.num (.int .i64 (.s n))),(.num (.int .i64 (.c 0))),(.num (.int .i64 (.c 1))),(.num (.int .i64 (.c 1))),(.num (.int .u64 (.c 0))),(.num (.int .u64 (.c 0))),(.num (.int .u64 (.c 0))),(.num (.int .i64 (.c 0)))])]=>
  match K with
  | []=>some ⟨n⟩
  | _=>none
 | _=>none
def c40:Ct c40D where
 pat:=[(.agg [(.int .i64 (.c 64)),(.int .i64 (.c 32)),(.int .i64 (.c 24)),(.int .i64 (.c 16)),(.int .i64 (.c 63)),(.int .i64 (.c 12))]),(.agg [(.int .i64 (.s 0)),(.int .i64 (.c 0)),(.int .i64 (.c 1)),(.int .i64 (.c 1)),(.int .u64 (.c 0)),(.int .u64 (.c 0)),(.int .u64 (.c 0)),(.int .i64 (.c 0))])]
 patH:=[]
 read:=c40_rd
 args:=fun ⟨n⟩=>[(.agg [(.int .i64 (.c 64)),(.int .i64 (.c 32)),(.int .i64 (.c 24)),(.int .i64 (.c 16)),(.int .i64 (.c 63)),(.int .i64 (.c 12))]),(.agg [(.int .i64 (.s n)),(.int .i64 (.c 0)),(.int .i64 (.c 1)),(.int .i64 (.c 1)),(.int .u64 (.c 0)),(.int .u64 (.c 0)),(.int .u64 (.c 0)),(.int .i64 (.c 0))])]
 heap:=fun ⟨_⟩=>[]
 out:=fun ⟨_⟩=>[]
 val:=fun ⟨n⟩=>(.agg (c64v (wS (pV n) 0 64) 8))
 good:=fun ⟨_⟩=>decide (True)
theorem c40_run (n:Int):endsAs (c40.heap ⟨n⟩).length (some []) (c40.out ⟨n⟩) (c40.val ⟨n⟩) (goB specs34 noLoop 40 (c40.args ⟨n⟩) ⟨c40.heap ⟨n⟩,big,[],[]⟩) = some ((c40.out ⟨n⟩),(c40.val ⟨n⟩),[decide (((64:Nat) ≤ 128 ∧ (64:Nat) ≤ 64))]):=by kernel_rfl
set_option maxRecDepth 100000 in
theorem c40_read (a:List AV) (K:List Blk) (d:c40D) (h:c40.read a K = some d):a = c40.args d ∧ K = c40.heap d:=by
 replace h:c40_rd a K = some d:=h
 unfold c40_rd at h
 split at h
 case h_2=>cases h
 split at h
 case h_2=>cases h
 injection h with h;subst h
 exact ⟨rfl,rfl⟩
theorem c40_ok:SpecOk Tryd.prog noGlob 40 c40.spec:=by
 refine c40.ok (goB_ok specs34_ok (no_loops _)) c40_read ?_
 rintro ⟨n⟩ hg
 have hg:True:=of_decide_eq_true hg
 refine ⟨[],(some []),_,c40_run n,?_⟩
 repeat' (refine all_true_cons ?_ ?_)
 all_goals first | exact all_true_nil | rfl | (simp only [bq] <;> omega)
end
section
open Go.Eng
variable [RowAddr] [Co] [SeatCo]
structure c44D where
 v:BitVec 64
def c44_rd (a:List AV) (K:List Blk):Option c44D:=
 match a with
 | [(.agg [(.num (.int .i64 (.c 64))),(.num (.int .i64 (.c 32))),(.num (.int .i64 (.c 24))),(.num (.int .i64 (.c 16))),(.num (.int .i64 (.c 63))),(.num (.int .i64 (.c 12)))]),(.num (.w64 v))]=>
  match K with
  | []=>some ⟨v⟩
  | _=>none
 | _=>none
def c44:Ct c44D where
 pat:=[(.agg [(.int .i64 (.c 64)),(.int .i64 (.c 32)),(.int .i64 (.c 24)),(.int .i64 (.c 16)),(.int .i64 (.c 63)),(.int .i64 (.c 12))]),(.w64 0#64)]
 patH:=[]
 read:=c44_rd
 args:=fun ⟨v⟩=>[(.agg [(.int .i64 (.c 64)),(.int .i64 (.c 32)),(.int .i64 (.c 24)),(.int .i64 (.c 16)),(.int .i64 (.c 63)),(.int .i64 (.c 12))]),(.w64 v)]
 heap:=fun ⟨_⟩=>[]
 out:=fun ⟨_⟩=>[]
 val:=fun ⟨_⟩=>(.int .u64 (.c 0))
 good:=fun ⟨_⟩=>decide (True)
theorem c44_run (v:BitVec 64):endsAs (c44.heap ⟨v⟩).length (some []) (c44.out ⟨v⟩) (c44.val ⟨v⟩) (goB noSpec noLoop 44 (c44.args ⟨v⟩) ⟨c44.heap ⟨v⟩,big,[],[]⟩) = some ((c44.out ⟨v⟩),(c44.val ⟨v⟩),[]):=by kernel_rfl
set_option maxRecDepth 100000 in
theorem c44_read (a:List AV) (K:List Blk) (d:c44D) (h:c44.read a K = some d):a = c44.args d ∧ K = c44.heap d:=by
 replace h:c44_rd a K = some d:=h
 unfold c44_rd at h
 split at h
 case h_2=>cases h
 split at h
 case h_2=>cases h
 injection h with h;subst h
 exact ⟨rfl,rfl⟩
theorem c44_ok:SpecOk Tryd.prog noGlob 44 c44.spec:=by
 refine c44.ok (goB_ok no_specs (no_loops _)) c44_read ?_
 rintro ⟨v⟩ hg
 have hg:True:=of_decide_eq_true hg
 refine ⟨[],(some []),_,c44_run v,?_⟩
 repeat' (refine all_true_cons ?_ ?_)
 all_goals first | exact all_true_nil | rfl | (simp only [bq] <;> omega)
def specs34c:FuncId → Option Eng.Spec
 | 41=>some sp41
 | 42=>some c42.spec
 | 39=>some c39.spec
 | 40=>some c40.spec
 | 43=>some c43.spec
 | 44=>some c44.spec
 | _=>none
theorem specs34c_ok:∀ f sp,specs34c f = some sp → SpecOk Tryd.prog noGlob f sp:=by
 intro f sp h
 unfold specs34c at h
 split at h
 ·injection h with h;subst h;exact sp41_ok
 ·injection h with h;subst h;exact c42_ok
 ·injection h with h;subst h;exact c39_ok
 ·injection h with h;subst h;exact c40_ok
 ·injection h with h;subst h;exact c43_ok
 ·injection h with h;subst h;exact c44_ok
 ·cases h
def c16 (X:Vec 64):Vec 64:=Vec.of ((List.range 16).map fun i=>X.l.getD i 0#64)
structure kBD where
 v:Vec 8
 h:H8
 n:Int
 c:BitVec 64
 o:Nat
 np:Nat
def kB_st (d:kBD):Fr × List Blk:=
 match d with
 | ⟨v,h,n,c,o,np⟩=>(⟨[(.atom .undef),(.atom .undef),(.atom .undef),(.ref (.sl 0 (.s o) (.s np) none)),(.atom .undef),(.ref (.ptr 1 (.c 0))),(.ref (.ptr 2 (.c 0))),(.atom .undef),(.atom .undef),(.ref (.ptr 3 (.c 0))),(.atom .undef),(.num (.int .i64 (.c 128))),(.atom .undef),(.ref (.ptr 4 (.c 0))),(.atom .undef),(.atom .undef),(.num (.w64 c)),(.atom .undef),(.atom .undef),(.atom .undef)],[]⟩,[⟨(.b8 v),.ro⟩,⟨(.gen [(.num (.int .i64 (.c 64))),(.num (.int .i64 (.c 32))),(.num (.int .i64 (.c 24))),(.num (.int .i64 (.c 16))),(.num (.int .i64 (.c 63))),(.num (.int .i64 (.c 12)))]),.own⟩,⟨(.gen [(.num (.int .i64 (.s n))),(.num (.int .i64 (.c 0))),(.num (.int .i64 (.c 1))),(.num (.int .i64 (.c 1))),(.num (.int .u64 (.c 0))),(.num (.int .u64 (.c 0))),(.num (.int .u64 (.c 0))),(.num (.int .i64 (.c 0)))]),.own⟩,⟨(.gen (mkC sigL)),.own⟩,⟨(.gen [(.num (.w64 h.x0)),(.num (.w64 h.x1)),(.num (.w64 h.x2)),(.num (.w64 h.x3)),(.num (.w64 h.x4)),(.num (.w64 h.x5)),(.num (.w64 h.x6)),(.num (.w64 h.x7))]),.own⟩])
def kB_next (d:kBD):kBD:=
 match d with
 | ⟨v,h,n,c,o,np⟩=>⟨v,b2S h (c + 128#64) 0#64 0#64 (c16 (wS v o 128)),n,c + 128#64,o + 128,np - 128⟩
def kB_rd (F:Fr) (K:List Blk):Option kBD:=
 match F with
 | ⟨[(.atom .undef),(.atom .undef),(.atom .undef),(.ref (.sl 0 (.s o) (.s np) none)),(.atom .undef),(.ref (.ptr 1 (.c 0))),(.ref (.ptr 2 (.c 0))),(.atom .undef),(.atom .undef),(.ref (.ptr 3 (.c 0))),(.atom .undef),(.num (.int .i64 (.c 128))),(.atom .undef),(.ref (.ptr 4 (.c 0))),(.atom .undef),(.atom .undef),(.num (.w64 c)),(.atom .undef),(.atom .undef),(.atom .undef)],[]⟩=>
  match K with
  | [⟨(.b8 v),.ro⟩,⟨(.gen [(.num (.int .i64 (.c 64))),(.num (.int .i64 (.c 32))),(.num (.int .i64 (.c 24))),(.num (.int .i64 (.c 16))),(.num (.int .i64 (.c 63))),(.num (.int .i64 (.c 12)))]),.own⟩,⟨(.gen [(.num (.int .i64 (.s n))),(.num (.int .i64 (.c 0))),(.num (.int .i64 (.c 1))),(.num (.int .i64 (.c 1))),(.num (.int .u64 (.c 0))),(.num (.int .u64 (.c 0))),(.num (.int .u64 (.c 0))),(.num (.int .i64 (.c 0)))]),.own⟩,⟨(.gen cs_sigL),.own⟩,⟨(.gen [(.num (.w64 h0)),(.num (.w64 h1)),(.num (.w64 h2)),(.num (.w64 h3)),(.num (.w64 h4)),(.num (.w64 h5)),(.num (.w64 h6)),(.num (.w64 h7))]),.own⟩]=>
   (match eqC cs_sigL sigL with
   | true=>some ⟨v,⟨h0,h1,h2,h3,h4,h5,h6,h7⟩,n,c,o,np⟩
   | false=>none)
  | _=>none
 | _=>none
def kB:LoopP kBD where
 pat:=⟨[.undef,.undef,.undef,(.sl 0 (.s 0) (.s 0) none),.undef,(.ptr 1 (.c 0)),(.ptr 2 (.c 0)),.undef,.undef,(.ptr 3 (.c 0)),.undef,(.int .i64 (.c 128)),.undef,(.ptr 4 (.c 0)),.undef,.undef,(.w64 0#64),.undef,.undef,.undef],[]⟩
 patH:=[⟨(.b8 (Vec.zero 8 0)),.ro⟩,⟨(.gen [(.int .i64 (.c 64)),(.int .i64 (.c 32)),(.int .i64 (.c 24)),(.int .i64 (.c 16)),(.int .i64 (.c 63)),(.int .i64 (.c 12))]),.own⟩,⟨(.gen [(.int .i64 (.s 0)),(.int .i64 (.c 0)),(.int .i64 (.c 1)),(.int .i64 (.c 1)),(.int .u64 (.c 0)),(.int .u64 (.c 0)),(.int .u64 (.c 0)),(.int .i64 (.c 0))]),.own⟩,⟨(.gen (mkC sigL)),.own⟩,⟨(.gen [(.w64 0#64),(.w64 0#64),(.w64 0#64),(.w64 0#64),(.w64 0#64),(.w64 0#64),(.w64 0#64),(.w64 0#64)]),.own⟩]
 gh:=[]
 read:=kB_rd
 st:=kB_st
 next:=kB_next
 rem:=fun ⟨_,_,_,_,_,np⟩=>(np - 1) / 128
 good:=fun ⟨v,_,n,_,o,np⟩=>decide (o + np ≤ v.n ∧ np ≤ 1099511627776)
 out:=.exit 2
 fin:=kB_st
theorem kB_round (v:Vec 8) (h:H8) (n:Int) (c:BitVec 64) (o np:Nat):ranAs ((kB.st ⟨v,h,n,c,o,np⟩).2.length - kB.gh.length) (some [0,1,2,3,4]) (kB.st (kB_next ⟨v,h,n,c,o,np⟩)) (goL specs34c noLoop 34 1 (kB.st ⟨v,h,n,c,o,np⟩).1 ⟨(kB.st ⟨v,h,n,c,o,np⟩).2,big,[true],[]⟩) = some (.normal,(kB.st (kB_next ⟨v,h,n,c,o,np⟩)),[((true && decide ((128:Int) ≤ ((np:Nat):Int))) && decide (((np:Nat):Int) ≤ ((np:Nat):Int))),true,true,true,decide (((128 - (0:Nat)) ≤ 128 ∧ ((o + (0:Nat)) + (128 - (0:Nat))) ≤ v.n)),((true && true) && decide ((128:Int) ≤ ((np:Nat):Int))),(decide ((128:Int) < ((np:Nat):Int)) == true)]):=by kernel_rfl
theorem kB_end (v:Vec 8) (h:H8) (n:Int) (c:BitVec 64) (o np:Nat):ranAs ((kB.st ⟨v,h,n,c,o,np⟩).2.length - kB.gh.length) none (kB.fin ⟨v,h,n,c,o,np⟩) (goL specs34c noLoop 34 1 (kB.st ⟨v,h,n,c,o,np⟩).1 ⟨(kB.st ⟨v,h,n,c,o,np⟩).2,big,[false],[]⟩) = some (kB.out,(kB.fin ⟨v,h,n,c,o,np⟩),[(decide ((128:Int) < ((np:Nat):Int)) == false)]):=by kernel_rfl
set_option maxRecDepth 100000 in
theorem kB_read (F:Fr) (K:List Blk) (d:kBD) (h:kB.read F K = some d):(F,K) = kB.st d:=by
 replace h:kB_rd F K = some d:=h
 unfold kB_rd at h
 split at h
 case h_2=>cases h
 split at h
 case h_2=>cases h
 split at h
 case h_2=>cases h
 rename_i hc
 obtain rfl:=eqC_eq hc
 injection h with h;subst h
 rfl
theorem kB_body:RunOk Tryd.prog noGlob (nv 34) (ntmpsIn Tryd.prog 34) (loopIn Tryd.prog 34 1) (goL specs34c noLoop 34 1):=goL_ok specs34c_ok (no_loops _) 34 1 fine34 (by rw [show (loopsIn Tryd.prog 34).length = 3 by kernel_rfl];omega)
theorem kB_toldL:LoopOk Tryd.prog noGlob (nv 34) (ntmpsIn Tryd.prog 34) (loopIn Tryd.prog 34 1) kB.T.told:=by
 refine kB.ran kB_body (by intro k hk;have hk:k ∈ ([]:List Blk):=hk;cases hk) (by intro h;cases h) kB_read ?_ ?_
 ·rintro ⟨v,h,n,c,o,np⟩ kk hg hr
  have hg:o + np ≤ v.n ∧ np ≤ 1099511627776:=of_decide_eq_true hg
  have hr:(np - 1) / 128 = kk + 1:=hr
  have en:kB.next ⟨v,h,n,c,o,np⟩ = kB_next ⟨v,h,n,c,o,np⟩:=rfl
  rw [en]
  refine ⟨⟨[true],(some [0,1,2,3,4]),_,kB_round v h n c o np,?_⟩,?_,?_,(show (kB.st (kB_next ⟨v,h,n,c,o,np⟩)).2.length = 5 by kernel_rfl).trans (show (kB.st ⟨v,h,n,c,o,np⟩).2.length = 5 by kernel_rfl).symm⟩
  ·repeat' (refine all_true_cons ?_ ?_)
   all_goals first | exact all_true_nil | rfl | (simp only [bq] <;> omega)
  ·have e:kB.good (kB_next ⟨v,h,n,c,o,np⟩) = decide ((o + 128:Nat) + (np - 128:Nat) ≤ v.n ∧ (np - 128:Nat) ≤ 1099511627776):=by kernel_rfl
   refine e.trans (decide_eq_true ?_)
   omega
  ·have e:kB.rem (kB_next ⟨v,h,n,c,o,np⟩) = (((np - 128:Nat) - 1) / 128):=by kernel_rfl
   refine e.trans ?_
   omega
 ·rintro ⟨v,h,n,c,o,np⟩ hg hr
  have hg:o + np ≤ v.n ∧ np ≤ 1099511627776:=of_decide_eq_true hg
  have hr:(np - 1) / 128 = 0:=hr
  refine ⟨[false],none,_,kB_end v h n c o np,?_⟩
  repeat' (refine all_true_cons ?_ ?_)
  all_goals first | exact all_true_nil | rfl | (simp only [bq] <;> omega)
def kB_spec:LSpec:=kB.T.told
theorem kB_told:Told 34 1 kB_spec:=kB_toldL.run
def hByte (h:H8) (i:Int):BitVec 8:=((Vec.of [h.x0,h.x1,h.x2,h.x3,h.x4,h.x5,h.x6,h.x7]).l.getD (0 + (i.tdiv 8).toNat * 1) 0#64 >>> (8 * (i.tmod 8)).toNat).setWidth 8
structure kOD where
 v:Vec 8
 h:H8
 n:Int
 u:Vec 8
 k:Nat
 i:Int
def kO_st0 (d:kOD):Fr × List Blk:=
 match d with
 | ⟨v,h,n,u,k,i⟩=>(⟨[(.atom .undef),(.atom .undef),(.atom .undef),(.atom .undef),(.atom .undef),(.ref (.ptr 1 (.c 0))),(.ref (.ptr 2 (.c 0))),(.atom .undef),(.atom .undef),(.atom .undef),(.atom .undef),(.atom .undef),(.atom .undef),(.ref (.ptr 4 (.c 0))),(.atom .undef),(.atom .undef),(.atom .undef),(.ref (.sl 6 (.c 0) (.s k) none)),(.num (.int .i64 (.s i))),(.atom .undef)],[]⟩,[⟨(.b8 v),.ro⟩,⟨(.gen [(.num (.int .i64 (.c 64))),(.num (.int .i64 (.c 32))),(.num (.int .i64 (.c 24))),(.num (.int .i64 (.c 16))),(.num (.int .i64 (.c 63))),(.num (.int .i64 (.c 12)))]),.own⟩,⟨(.gen [(.num (.int .i64 (.s n))),(.num (.int .i64 (.c 0))),(.num (.int .i64 (.c 1))),(.num (.int .i64 (.c 1))),(.num (.int .u64 (.c 0))),(.num (.int .u64 (.c 0))),(.num (.int .u64 (.c 0))),(.num (.int .i64 (.c 0)))]),.own⟩,⟨(.gen []),.dead⟩,⟨(.gen [(.num (.w64 h.x0)),(.num (.w64 h.x1)),(.num (.w64 h.x2)),(.num (.w64 h.x3)),(.num (.w64 h.x4)),(.num (.w64 h.x5)),(.num (.w64 h.x6)),(.num (.w64 h.x7))]),.own⟩,⟨(.gen []),.dead⟩,⟨(.b8 u),.own⟩])
def kO_st (d:kOD):Fr × List Blk:=
 match d with
 | ⟨v,h,n,u,k,i⟩=>(⟨[(.atom .undef),(.atom .undef),(.atom .undef),(.atom .undef),(.atom .undef),(.ref (.ptr 1 (.c 0))),(.ref (.ptr 2 (.c 0))),(.atom .undef),(.atom .undef),(.atom .undef),(.atom .undef),(.atom .undef),(.atom .undef),(.ref (.ptr 4 (.c 0))),(.atom .undef),(.atom .undef),(.atom .undef),(.ref (.sl 7 (.c 0) (.s k) none)),(.num (.int .i64 (.s i))),(.atom .undef)],[]⟩,[⟨(.b8 v),.ro⟩,⟨(.gen [(.num (.int .i64 (.c 64))),(.num (.int .i64 (.c 32))),(.num (.int .i64 (.c 24))),(.num (.int .i64 (.c 16))),(.num (.int .i64 (.c 63))),(.num (.int .i64 (.c 12)))]),.own⟩,⟨(.gen [(.num (.int .i64 (.s n))),(.num (.int .i64 (.c 0))),(.num (.int .i64 (.c 1))),(.num (.int .i64 (.c 1))),(.num (.int .u64 (.c 0))),(.num (.int .u64 (.c 0))),(.num (.int .u64 (.c 0))),(.num (.int .i64 (.c 0)))]),.own⟩,⟨(.gen []),.dead⟩,⟨(.gen [(.num (.w64 h.x0)),(.num (.w64 h.x1)),(.num (.w64 h.x2)),(.num (.w64 h.x3)),(.num (.w64 h.x4)),(.num (.w64 h.x5)),(.num (.w64 h.x6)),(.num (.w64 h.x7))]),.own⟩,⟨(.gen []),.dead⟩,⟨(.gen []),.dead⟩,⟨(.b8 u),.own⟩])
def kO_next (d:kOD):kOD:=
 match d with
 | ⟨v,h,n,u,k,i⟩=>⟨v,h,n,u.app (Vec.of [hByte h i]),k + 1,i + 1⟩
def kO_rd (F:Fr) (K:List Blk):Option kOD:=
 match F with
 | ⟨[(.atom .undef),(.atom .undef),(.atom .undef),(.atom .undef),(.atom .undef),(.ref (.ptr 1 (.c 0))),(.ref (.ptr 2 (.c 0))),(.atom .undef),(.atom .undef),(.atom .undef),(.atom .undef),(.atom .undef),(.atom .undef),(.ref (.ptr 4 (.c 0))),(.atom .undef),(.atom .undef),(.atom .undef),(.ref (.sl 6 (.c 0) (.s k) none)),(.num (.int .i64 (.s i))),(.atom .undef)],[]⟩=>
  match K with
  | [⟨(.b8 v),.ro⟩,⟨(.gen [(.num (.int .i64 (.c 64))),(.num (.int .i64 (.c 32))),(.num (.int .i64 (.c 24))),(.num (.int .i64 (.c 16))),(.num (.int .i64 (.c 63))),(.num (.int .i64 (.c 12)))]),.own⟩,⟨(.gen [(.num (.int .i64 (.s n))),(.num (.int .i64 (.c 0))),(.num (.int .i64 (.c 1))),(.num (.int .i64 (.c 1))),(.num (.int .u64 (.c 0))),(.num (.int .u64 (.c 0))),(.num (.int .u64 (.c 0))),(.num (.int .i64 (.c 0)))]),.own⟩,⟨(.gen []),.dead⟩,⟨(.gen [(.num (.w64 h0)),(.num (.w64 h1)),(.num (.w64 h2)),(.num (.w64 h3)),(.num (.w64 h4)),(.num (.w64 h5)),(.num (.w64 h6)),(.num (.w64 h7))]),.own⟩,⟨(.gen []),.dead⟩,⟨(.b8 u),.own⟩]=>some ⟨v,⟨h0,h1,h2,h3,h4,h5,h6,h7⟩,n,u,k,i⟩
  | _=>none
 | _=>none
def kO:LoopP kOD where
 pat:=⟨[.undef,.undef,.undef,.undef,.undef,(.ptr 1 (.c 0)),(.ptr 2 (.c 0)),.undef,.undef,.undef,.undef,.undef,.undef,(.ptr 4 (.c 0)),.undef,.undef,.undef,(.sl 6 (.c 0) (.s 0) none),(.int .i64 (.s 0)),.undef],[]⟩
 patH:=[⟨(.b8 (Vec.zero 8 0)),.ro⟩,⟨(.gen [(.int .i64 (.c 64)),(.int .i64 (.c 32)),(.int .i64 (.c 24)),(.int .i64 (.c 16)),(.int .i64 (.c 63)),(.int .i64 (.c 12))]),.own⟩,⟨(.gen [(.int .i64 (.s 0)),(.int .i64 (.c 0)),(.int .i64 (.c 1)),(.int .i64 (.c 1)),(.int .u64 (.c 0)),(.int .u64 (.c 0)),(.int .u64 (.c 0)),(.int .i64 (.c 0))]),.own⟩,⟨(.gen []),.dead⟩,⟨(.gen [(.w64 0#64),(.w64 0#64),(.w64 0#64),(.w64 0#64),(.w64 0#64),(.w64 0#64),(.w64 0#64),(.w64 0#64)]),.own⟩,⟨(.gen []),.dead⟩,⟨(.b8 (Vec.zero 8 0)),.own⟩]
 gh:=[]
 read:=kO_rd
 st:=kO_st
 next:=kO_next
 rem:=fun ⟨_,_,n,_,_,i⟩=>(n - i).toNat
 good:=fun ⟨_,_,n,u,k,i⟩=>decide (k = u.n ∧ 1 ≤ i ∧ i ≤ n ∧ n ≤ 64 ∧ (k:Int) = i)
 out:=.exit 4
 fin:=kO_st
theorem kO_round (v:Vec 8) (h:H8) (n:Int) (u:Vec 8) (k:Nat) (i:Int):ranAs 7 (some [0,1,2,3,4,5,6,9]) (kO.st (kO_next ⟨v,h,n,u,k,i⟩)) (goL specs34c noLoop 34 2 (kO.st ⟨v,h,n,u,k,i⟩).1 ⟨(kO.st ⟨v,h,n,u,k,i⟩).2,big,[true],[]⟩) = some (.normal,(kO.st (kO_next ⟨v,h,n,u,k,i⟩)),[decide ((((-9223372036854775808):Int) ≤ (i + 1) ∧ (i + 1) ≤ 9223372036854775807)),(true && (k == u.n)),decide (((k + 1) * 1) ≤ 1099511627776),decide ((0:Int) ≤ (8 * (Int.tmod i (Int.tdiv 64 8)))),decide ((((-9223372036854775808):Int) ≤ (8 * (Int.tmod i (Int.tdiv 64 8))) ∧ (8 * (Int.tmod i (Int.tdiv 64 8))) ≤ 9223372036854775807)),decide ((Int.tdiv 64 8) ≠ 0),decide ((0 + ((((Int.tdiv i (Int.tdiv 64 8))):Int).toNat * 1)) < 8),(decide ((0:Int) ≤ (Int.tdiv i (Int.tdiv 64 8))) && decide ((Int.tdiv i (Int.tdiv 64 8)) < ((8:Nat):Int))),decide (((0:Int) ≤ i ∧ ((0:Int) < (Int.tdiv 64 8) ∧ i ≤ 9223372036854775807))),(decide (i < n) == true)]):=by kernel_rfl
theorem kO_end (v:Vec 8) (h:H8) (n:Int) (u:Vec 8) (k:Nat) (i:Int):ranAs 7 none (kO.fin ⟨v,h,n,u,k,i⟩) (goL specs34c noLoop 34 2 (kO.st ⟨v,h,n,u,k,i⟩).1 ⟨(kO.st ⟨v,h,n,u,k,i⟩).2,big,[false],[]⟩) = some (kO.out,(kO.fin ⟨v,h,n,u,k,i⟩),[(decide (i < n) == false)]):=by kernel_rfl
set_option maxRecDepth 100000 in
theorem kO_read (F:Fr) (K:List Blk) (d:kOD) (h:kO.read F K = some d):(F,K) = kO_st0 d:=by
 replace h:kO_rd F K = some d:=h
 unfold kO_rd at h
 split at h
 case h_2=>cases h
 split at h
 case h_2=>cases h
 injection h with h;subst h
 rfl
theorem kO_body:RunOk Tryd.prog noGlob (nv 34) (ntmpsIn Tryd.prog 34) (loopIn Tryd.prog 34 2) (goL specs34c noLoop 34 2):=goL_ok specs34c_ok (no_loops _) 34 2 fine34 (by rw [show (loopsIn Tryd.prog 34).length = 3 by kernel_rfl];omega)
theorem kO_toldL:LoopOk Tryd.prog noGlob (nv 34) (ntmpsIn Tryd.prog 34) (loopIn Tryd.prog 34 2) (kO.M 6 kO_st0).told:=by
 refine kO.ranM 6 7 kO_st0 kO_body rfl (by intro h;cases h) kO_read (by rintro ⟨v,h,n,u,k,i⟩;exact ⟨rfl,_,rfl,rfl⟩) ?_ ?_
 ·rintro ⟨v,h,n,u,k,i⟩ kk hg hr
  have hg:k = u.n ∧ 1 ≤ i ∧ i ≤ n ∧ n ≤ 64 ∧ (k:Int) = i:=of_decide_eq_true hg
  have hr:(n - i).toNat = kk + 1:=hr
  have en:kO.next ⟨v,h,n,u,k,i⟩ = kO_next ⟨v,h,n,u,k,i⟩:=rfl
  rw [en]
  refine ⟨⟨[true],(some [0,1,2,3,4,5,6,9]),_,kO_round v h n u k i,?_⟩,?_,?_⟩
  ·have h3:Int.tdiv 64 8 = 8:=rfl
   have h1:i.tdiv 8 = i / 8:=Int.tdiv_eq_ediv_of_nonneg (by omega)
   have h2:i.tmod 8 = i % 8:=Int.tmod_eq_emod_of_nonneg (by omega)
   repeat' (refine all_true_cons ?_ ?_)
   all_goals first | exact all_true_nil | rfl | (simp only [bq,h3,h1,h2] <;> omega)
  ·have e:kO.good (kO_next ⟨v,h,n,u,k,i⟩) = decide ((k + 1:Nat) = (u.app (Vec.of [hByte h i]):Vec 8).n ∧ 1 ≤ (i + 1:Int) ∧ (i + 1:Int) ≤ n ∧ n ≤ 64 ∧ ((k + 1:Nat):Int) = (i + 1:Int)):=by kernel_rfl
   refine e.trans (decide_eq_true ?_)
   have:(u.app (Vec.of [hByte h i])).n = u.n + 1:=rfl
   rw [this];omega
  ·have e:kO.rem (kO_next ⟨v,h,n,u,k,i⟩) = ((n - (i + 1:Int)).toNat):=by kernel_rfl
   refine e.trans ?_
   omega
 ·rintro ⟨v,h,n,u,k,i⟩ hg hr
  have hg:k = u.n ∧ 1 ≤ i ∧ i ≤ n ∧ n ≤ 64 ∧ (k:Int) = i:=of_decide_eq_true hg
  have hr:(n - i).toNat = 0:=hr
  refine ⟨[false],none,_,kO_end v h n u k i,?_⟩
  repeat' (refine all_true_cons ?_ ?_)
  all_goals first | exact all_true_nil | rfl | (simp only [bq] <;> omega)
noncomputable def kO_spec:LSpec:=(peel (goL specs34c noLoop 34 2) (kO.M 6 kO_st0).told)
theorem kO_told:Told 34 2 kO_spec:=(LoopOk.peel kO_body kO_toldL).run
noncomputable def k34s:FuncId → Nat → Option LSpec
 | 34,13=>some kB_spec
 | 34,21=>some kO_spec
 | _,_=>none
theorem k34s_len:(loopsIn Tryd.prog 34).length = 3:=by kernel_rfl
theorem k34s_ok (spec:FuncId → Option Eng.Spec):LoopsOk (cfg spec k34s) noGlob:=by
 refine LoopsOk.of fun f=>?_
 by_cases hf:f = 34
 ·subst hf
  refine .inr ⟨by kernel_rfl,fun i hi sp hsp=>?_⟩
  have hi:i < (loopsIn Tryd.prog 34).length:=hi
  rw [k34s_len] at hi
  have hi3:i = 0 ∨ i = 1 ∨ i = 2:=by omega
  rcases hi3 with rfl | rfl | rfl
  ·have e:(firstRid (loopIn Tryd.prog 34 0)).bind (k34s 34) = none:=by kernel_rfl
   have hsp:(firstRid (loopIn Tryd.prog 34 0)).bind (k34s 34) = some sp:=hsp
   rw [e] at hsp;cases hsp
  ·have e:(firstRid (loopIn Tryd.prog 34 1)).bind (k34s 34) = some kB_spec:=by kernel_rfl
   obtain rfl:=Option.some.inj (e.symm.trans hsp)
   exact kB_told
  ·have e:(firstRid (loopIn Tryd.prog 34 2)).bind (k34s 34) = some kO_spec:=by kernel_rfl
   obtain rfl:=Option.some.inj (e.symm.trans hsp)
   exact kO_told
 ·refine .inl fun r=>?_
  show k34s f r = none
  unfold k34s
  split
  ·exact absurd rfl hf
  ·exact absurd rfl hf
  ·rfl
end
section
open Go.Eng
variable [RowAddr] [Co] [SeatCo]
def etaS (h:H8):H8:=⟨h.x0,h.x1,h.x2,h.x3,h.x4,h.x5,h.x6,h.x7⟩
def h0S (n:Int):H8:=⟨7640891576956012808#64 ^^^ (wS (pV n) 0 64).l.getD 0 0#64,13503953896175478587#64 ^^^ (wS (pV n) 0 64).l.getD 1 0#64,4354685564936845355#64 ^^^ (wS (pV n) 0 64).l.getD 2 0#64,11912009170470909681#64 ^^^ (wS (pV n) 0 64).l.getD 3 0#64,5840696475078001361#64 ^^^ (wS (pV n) 0 64).l.getD 4 0#64,11170449401992604703#64 ^^^ (wS (pV n) 0 64).l.getD 5 0#64,2270897969802886507#64 ^^^ (wS (pV n) 0 64).l.getD 6 0#64,6620516959819538809#64 ^^^ (wS (pV n) 0 64).l.getD 7 0#64⟩
def zB (v:Vec 8) (o np:Nat) (n:Int):kBD:=iter kB_next ((np - 1) / 128) ⟨v,h0S n,n,0#64,o,np⟩
def lastS (v:Vec 8) (o np:Nat) (n:Int):H8:=b2S (etaS (zB v o np n).h) ((zB v o np n).c + BitVec.ofInt 64 (((zB v o np n).np:Nat):Int)) 0#64 18446744073709551615#64 (c16 (wS v (zB v o np n).o (zB v o np n).np))
def zO (v:Vec 8) (o np:Nat) (n:Int):kOD:=iter kO_next (((zB v o np n).n - 1).toNat) ⟨v,etaS (lastS v o np n),(zB v o np n).n,Vec.of [((lastS v o np n).x0 >>> 0).setWidth 8],1,1⟩
theorem kB_it (v:Vec 8) (h:H8) (n:Int) (c:BitVec 64) (o np:Nat):∀ k,∃ h' c',iter kB_next k ⟨v,h,n,c,o,np⟩ = ⟨v,h',n,c',o + 128 * k,np - 128 * k⟩
 | 0=>⟨h,c,rfl⟩
 | k + 1=>by
  obtain ⟨h',c',e⟩:=kB_it v h n c o np k
  refine ⟨b2S h' (c' + 128#64) 0#64 0#64 (c16 (wS v (o + 128 * k) 128)),c' + 128#64,?_⟩
  rw [iter_succ,e]
  show (⟨v,b2S h' (c' + 128#64) 0#64 0#64 (c16 (wS v (o + 128 * k) 128)),n,c' + 128#64,o + 128 * k + 128,np - 128 * k - 128⟩:kBD) = _
  rw [show o + 128 * k + 128 = o + 128 * (k + 1) by omega,show np - 128 * k - 128 = np - 128 * (k + 1) by omega]
theorem zB_pl (v:Vec 8) (o np:Nat) (n:Int):(zB v o np n).o = o + 128 * ((np - 1) / 128) ∧ (zB v o np n).np = np - 128 * ((np - 1) / 128) ∧ (zB v o np n).n = n:=by
 obtain ⟨h',c',e⟩:=kB_it v (h0S n) n 0#64 o np ((np - 1) / 128)
 unfold zB
 rw [e]
 exact ⟨rfl,rfl,rfl⟩
structure c34D where
 v:Vec 8
 o:Nat
 np:Nat
 n:Int
def c34_rd (a:List AV) (K:List Blk):Option c34D:=
 match a with
 | [(.agg [(.num (.int .i64 (.c 64))),(.num (.int .i64 (.c 32))),(.num (.int .i64 (.c 24))),(.num (.int .i64 (.c 16))),(.num (.int .i64 (.c 63))),(.num (.int .i64 (.c 12)))]),(.agg [(.num (.int .i64 (.s n))),(.num (.int .i64 (.c 0))),(.num (.int .i64 (.c 1))),(.num (.int .i64 (.c 1))),(.num (.int .u64 (.c 0))),(.num (.int .u64 (.c 0))),(.num (.int .u64 (.c 0))),(.num (.int .i64 (.c 0)))]),(.atom .nils),(.ref (.sl 0 (.s o) (.s np) none)),(.agg cs_sigL)]=>
  match K with
  | [⟨(.b8 v),.ro⟩]=>
   (match eqC cs_sigL sigL with
   | true=>some ⟨v,o,np,n⟩
   | false=>none)
  | _=>none
 | _=>none
def c34:Ct c34D where
 pat:=[(.agg [(.int .i64 (.c 64)),(.int .i64 (.c 32)),(.int .i64 (.c 24)),(.int .i64 (.c 16)),(.int .i64 (.c 63)),(.int .i64 (.c 12))]),(.agg [(.int .i64 (.s 0)),(.int .i64 (.c 0)),(.int .i64 (.c 1)),(.int .i64 (.c 1)),(.int .u64 (.c 0)),(.int .u64 (.c 0)),(.int .u64 (.c 0)),(.int .i64 (.c 0))]),(.atom .nils),(.sl 0 (.s 0) (.s 0) none),(.agg (mkC sigL))]
 patH:=[⟨(.b8 (Vec.zero 8 0)),.ro⟩]
 read:=c34_rd
 args:=fun ⟨_,o,np,n⟩=>[(.agg [(.int .i64 (.c 64)),(.int .i64 (.c 32)),(.int .i64 (.c 24)),(.int .i64 (.c 16)),(.int .i64 (.c 63)),(.int .i64 (.c 12))]),(.agg [(.int .i64 (.s n)),(.int .i64 (.c 0)),(.int .i64 (.c 1)),(.int .i64 (.c 1)),(.int .u64 (.c 0)),(.int .u64 (.c 0)),(.int .u64 (.c 0)),(.int .i64 (.c 0))]),(.atom .nils),(.sl 0 (.s o) (.s np) none),(.agg (mkC sigL))]
 heap:=fun ⟨v,_,_,_⟩=>[⟨(.b8 v),.ro⟩]
 out:=fun ⟨v,o,np,n⟩=>[⟨(.b8 v),.ro⟩,⟨(.b8 ((zO v o np n)).u),.own⟩]
 val:=fun ⟨v,o,np,n⟩=>(.sl 1 (.c 0) (.s ((zO v o np n)).k) none)
 good:=fun ⟨v,o,np,n⟩=>decide (1 ≤ n ∧ n ≤ 64 ∧ o + np ≤ v.n ∧ np ≤ 1099511627776)
theorem c34_run (v:Vec 8) (o np:Nat) (n:Int):endsAs (c34.heap ⟨v,o,np,n⟩).length (some [0,7]) (c34.out ⟨v,o,np,n⟩) (c34.val ⟨v,o,np,n⟩) (goB specs34c k34s 34 (c34.args ⟨v,o,np,n⟩) ⟨c34.heap ⟨v,o,np,n⟩,big,[true],[]⟩) = some ((c34.out ⟨v,o,np,n⟩),(c34.val ⟨v,o,np,n⟩),[decide (((1:Nat) = 1 ∧ ((1:Int) ≤ 1 ∧ ((1:Int) ≤ ((zB v o np n)).n ∧ (((zB v o np n)).n ≤ 64 ∧ ((1:Nat):Int) = 1))))),(decide ((0:Int) < ((zB v o np n)).n) == true),true,true,true,decide ((((zB v o np n)).np ≤ 128 ∧ (((zB v o np n)).o + ((zB v o np n)).np) ≤ v.n)),decide (((o + np) ≤ v.n ∧ np ≤ 1099511627776)),true,true]):=by kernel_rfl
set_option maxRecDepth 100000 in
theorem c34_read (a:List AV) (K:List Blk) (d:c34D) (h:c34.read a K = some d):a = c34.args d ∧ K = c34.heap d:=by
 replace h:c34_rd a K = some d:=h
 unfold c34_rd at h
 split at h
 case h_2=>cases h
 split at h
 case h_2=>cases h
 split at h
 case h_2=>cases h
 rename_i hc
 obtain rfl:=eqC_eq hc
 injection h with h;subst h
 exact ⟨rfl,rfl⟩
theorem c34_ok:SpecOk Tryd.prog noGlob 34 c34.spec:=by
 refine c34.ok (goB_ok specs34c_ok (k34s_ok _)) c34_read ?_
 rintro ⟨v,o,np,n⟩ hg
 have hg:1 ≤ n ∧ n ≤ 64 ∧ o + np ≤ v.n ∧ np ≤ 1099511627776:=of_decide_eq_true hg
 refine ⟨[true],(some [0,7]),_,c34_run v o np n,?_⟩
 obtain ⟨e1,e2,e3⟩:=zB_pl v o np n
 repeat' (refine all_true_cons ?_ ?_)
 all_goals first | exact all_true_nil | (simp only [bq,Int.toNat_natCast,Nat.sub_zero,Nat.add_zero,e1,e2,e3] <;> omega)
end
section
open Go.Eng
variable [RowAddr] [Co]
theorem or_comm' (a b:BitVec 64):a ||| b = b ||| a:=BitVec.or_comm a b
theorem qS_eq:qS = qC:=by
 funext a b c d x y
 unfold qS qC rr64 rl64
 simp only [Nat.reduceSub]
 have e1:a + b + x = a + x + b:=by rw [BitVec.add_assoc,BitVec.add_comm b x,← BitVec.add_assoc]
 rw [e1]
 generalize a + x + b = a1
 rw [or_comm' ((d ^^^ a1) >>> 32)]
 generalize (d ^^^ a1) <<< 32 ||| (d ^^^ a1) >>> 32 = d1
 generalize c + d1 = c1
 rw [or_comm' ((b ^^^ c1) >>> 24)]
 generalize (b ^^^ c1) <<< 40 ||| (b ^^^ c1) >>> 24 = b1
 have e2:a1 + b1 + y = a1 + y + b1:=by rw [BitVec.add_assoc,BitVec.add_comm b1 y,← BitVec.add_assoc]
 rw [e2]
 generalize a1 + y + b1 = a2
 rw [or_comm' ((d1 ^^^ a2) >>> 16)]
 generalize (d1 ^^^ a2) <<< 48 ||| (d1 ^^^ a2) >>> 16 = d2
 generalize c1 + d2 = c2
 rw [or_comm' ((b1 ^^^ c2) >>> 63)]
theorem b2S_eq (h:H8) (c0 c1 fl:BitVec 64) (m:Vec 64):b2S h c0 c1 fl m = b2 h c0 c1 fl m:=by
 unfold b2S b2
 rw [qS_eq]
def byAt (v:Vec 8) (o np i:Nat):BitVec 8:=if i < np then v.l.getD (o + i) 0#8 else 0#8
def zw (f:Nat → BitVec 8) (j:Nat):BitVec 64:=lw8 (f (8 * j)) (f (8 * j + 1)) (f (8 * j + 2)) (f (8 * j + 3)) (f (8 * j + 4)) (f (8 * j + 5)) (f (8 * j + 6)) (f (8 * j + 7))
def zwV (f:Nat → BitVec 8):Vec 64:=Vec.of ((List.range 16).map (zw f))
theorem zw_congr {f g:Nat → BitVec 8} (h:∀ i,i < 128 → f i = g i):zwV f = zwV g:=by
 unfold zwV
 have:(List.range 16).map (zw f) = (List.range 16).map (zw g):=by
  refine List.map_congr_left fun j hj=>?_
  have hj:=List.mem_range.1 hj
  unfold zw
  rw [h _ (by omega),h _ (by omega),h _ (by omega),h _ (by omega),h _ (by omega),h _ (by omega),h _ (by omega),h _ (by omega)]
 rw [this]
theorem wrd_zw (v:Vec 8) (o:Nat):wrd v o = zwV fun i=>v.l.getD (o + i) 0#8:=by
 unfold wrd zwV
 rfl
def pw (f:Nat → BitVec 8) (j:Nat):Nat → BitVec 64
 | 0=>0#64
 | k + 1=>pw f j k ||| (f (8 * j + k)).setWidth 64 <<< (8 * k)
theorem pw8 (f:Nat → BitVec 8) (j:Nat):pw f j 8 = zw f j:=by
 unfold zw lw8
 simp only [pw,Nat.mul_zero,Nat.add_zero,Nat.reduceMul,BitVec.shiftLeft_zero]
 rw [BitVec.zero_or]
end
section
open Go.Eng
variable [RowAddr] [Co]
theorem getD_set64 (X:Vec 64) (j i:Nat) (y:BitVec 64) (hi:i < X.n):(X.set j y).l.getD i 0#64 = if j = i then y else X.l.getD i 0#64:=by
 have hl:=X.h
 show (X.l.set j y).getD i 0#64 = _
 rw [List.getD_eq_getElem?_getD,List.getD_eq_getElem?_getD,List.getElem?_set]
 split
 ·rw [if_pos (by omega)];rfl
 ·rfl
theorem kW_it (v:Vec 8) (o np:Nat):∀ k,k ≤ 128 → ∃ X:Vec 64,iter kW_next k ⟨v,Vec.of (List.replicate 16 0#64),o,np,((np:Nat):Int),0⟩ = ⟨v,X,o,np,((np:Nat):Int),(k:Int)⟩ ∧ X.n = 16 ∧ ∀ j,j < 16 → X.l.getD j 0#64 = pw (fun i=>v.l.getD (o + i) 0#8) j (min 8 (k - 8 * j))
 | 0,_=>by
  refine ⟨_,rfl,rfl,fun j hj=>?_⟩
  rw [Nat.zero_sub,Nat.min_zero]
  show (List.replicate 16 0#64).getD j 0#64 = 0#64
  rw [List.getD_eq_getElem?_getD,List.getElem?_replicate]
  split <;> rfl
 | k + 1,hk=>by
  obtain ⟨X,e,hn,hX⟩:=kW_it v o np k (by omega)
  refine ⟨setW X (0 + ((k:Int).tdiv 8).toNat * 1) (v.l.getD (o + (k:Int).toNat * 1) 0#8) (8 * ((k:Int).tmod 8)),?_,hn,fun j hj=>?_⟩
  ·rw [iter_succ,e]
   show (⟨v,setW X (0 + ((k:Int).tdiv 8).toNat * 1) (v.l.getD (o + (k:Int).toNat * 1) 0#8) (8 * ((k:Int).tmod 8)),o,np,((np:Nat):Int),(k:Int) + 1⟩:kWD) = _
   rfl
  ·have t1:(k:Int).tdiv 8 = (k:Int) / 8:=Int.tdiv_eq_ediv_of_nonneg (by omega)
   have t2:(k:Int).tmod 8 = (k:Int) % 8:=Int.tmod_eq_emod_of_nonneg (by omega)
   have e1:0 + ((k:Int).tdiv 8).toNat * 1 = k / 8:=by rw [t1];omega
   have e2:o + (k:Int).toNat * 1 = o + k:=by omega
   have e3:(8 * ((k:Int).tmod 8)).toNat = 8 * (k % 8):=by rw [t2];omega
   unfold setW
   rw [getD_set64 _ _ _ _ (by omega),e1,e2,e3,hX _ (by omega)]
   split
   ·rename_i h
    subst h
    rw [show min 8 (k + 1 - 8 * (k / 8)) = (k % 8) + 1 by omega,show min 8 (k - 8 * (k / 8)) = k % 8 by omega]
    show _ = pw _ _ (k % 8) ||| _
    rw [show 8 * (k / 8) + k % 8 = k by omega]
   ·rename_i h
    rw [hX j hj,show min 8 (k + 1 - 8 * j) = min 8 (k - 8 * j) by omega]
theorem pw_by (v:Vec 8) (o np j:Nat):∀ m,pw (byAt v o np) j m = pw (fun i=>v.l.getD (o + i) 0#8) j (min m (np - 8 * j))
 | 0=>by rw [Nat.zero_min];rfl
 | m + 1=>by
  show pw (byAt v o np) j m ||| (byAt v o np (8 * j + m)).setWidth 64 <<< (8 * m) = _
  rw [pw_by v o np j m]
  unfold byAt
  by_cases h:8 * j + m < np
  ·rw [if_pos h,show min m (np - 8 * j) = m by omega,show min (m + 1) (np - 8 * j) = m + 1 by omega]
   rfl
  ·rw [if_neg h,show min (m + 1) (np - 8 * j) = min m (np - 8 * j) by omega]
   have e:((0#8:BitVec 8).setWidth 64 <<< (8 * m)) = 0#64:=by
    rw [show (0#8:BitVec 8).setWidth 64 = 0#64 from rfl,BitVec.zero_shiftLeft]
   rw [e,BitVec.or_zero]
theorem wS_eq (v:Vec 8) (o np:Nat) (h:np ≤ 128):c16 (wS v o np) = zwV (byAt v o np):=by
 obtain ⟨X,e,hn,hX⟩:=kW_it v o np np h
 have ew:wS v o np = X:=by
  unfold wS wSz
  rw [show (((np:Nat):Int) - 0).toNat = np by omega,e]
 rw [ew]
 unfold c16 zwV
 have:(List.range 16).map (fun i=>X.l.getD i 0#64) = (List.range 16).map (zw (byAt v o np)):=by
  refine List.map_congr_left fun j hj=>?_
  have hj:=List.mem_range.1 hj
  rw [hX j hj,← pw8,pw_by]
 rw [this]
theorem wS_get (v:Vec 8) (o np j:Nat) (h:np ≤ 128) (hj:j < 16):(wS v o np).l.getD j 0#64 = zw (byAt v o np) j:=by
 obtain ⟨X,e,hn,hX⟩:=kW_it v o np np h
 have ew:wS v o np = X:=by
  unfold wS wSz
  rw [show (((np:Nat):Int) - 0).toNat = np by omega,e]
 rw [ew,hX j hj,← pw8,pw_by]
def flagF:BitVec 64:=18446744073709551615#64
def allF (h:H8) (P:Nat → BitVec 8):Nat → H8
 | 0=>h
 | k + 1=>b2 (allF h P k) (BitVec.ofNat 64 (128 * (k + 1))) 0#64 0#64 (zwV fun i=>P (128 * k + i))
def finF (h:H8) (P:Nat → BitVec 8) (N:Nat):H8:=b2 (allF h P (fl N)) (BitVec.ofNat 64 N) 0#64 flagF (zwV fun i=>if i < N - 128 * fl N then P (128 * fl N + i) else 0#8)
theorem allF_congr (h:H8) {P Q:Nat → BitVec 8}:∀ k,(∀ i,i < 128 * k → P i = Q i) → allF h P k = allF h Q k
 | 0,_=>rfl
 | k + 1,H=>by
  show b2 (allF h P k) _ _ _ _ = b2 (allF h Q k) _ _ _ _
  rw [allF_congr h k (fun i hi=>H i (by omega)),zw_congr (g:=fun i=>Q (128 * k + i)) (fun i hi=>H _ (by omega))]
theorem finF_congr (h:H8) {P Q:Nat → BitVec 8} (N:Nat) (H:∀ i,i < N → P i = Q i):finF h P N = finF h Q N:=by
 have hfl:128 * fl N ≤ N:=by unfold fl;omega
 unfold finF
 rw [allF_congr h (fl N) (fun i hi=>H i (by omega)),zw_congr (g:=fun i=>if i < N - 128 * fl N then Q (128 * fl N + i) else 0#8) (fun i hi=>by
  split
  ·exact H _ (by omega)
  ·rfl)]
end
section
open Go.Eng
variable [RowAddr] [Co]
theorem sub_getD (v:Vec 8) (o n i:Nat) (h:o + n ≤ v.n) (hi:i < n):(v.sub o n).l.getD i 0#8 = v.l.getD (o + i) 0#8:=by
 have hv:=v.h
 rw [Vec.sub_l (by omega),List.getD_eq_getElem?_getD,List.getD_eq_getElem?_getD,List.getElem?_take,if_pos hi,List.getElem?_drop]
theorem over_getD (x y:Vec 8) (o i:Nat) (h:o + y.n ≤ x.n) (hi:i < x.n):(x.over o y).l.getD i 0#8 = if o ≤ i ∧ i < o + y.n then y.l.getD (i - o) 0#8 else x.l.getD i 0#8:=by
 have hx:=x.h
 have hy:=y.h
 show (setL x.l o y.l).getD i 0#8 = _
 rw [setL_over _ _ _ (by omega)]
 unfold over
 simp only [List.getD_eq_getElem?_getD]
 rcases Nat.lt_or_ge i o with h1 | h1
 ·rw [if_neg (by omega),List.append_assoc,List.getElem?_append_left (by simp;omega),List.getElem?_take,if_pos h1]
 ·rcases Nat.lt_or_ge i (o + y.n) with h2 | h2
  ·rw [if_pos ⟨h1,h2⟩,List.append_assoc,List.getElem?_append_right (by simp;omega),List.getElem?_append_left (by simp;omega)]
   congr 2
   simp
   omega
  ·rw [if_neg (by omega),List.getElem?_append_right (by simp;omega),List.getElem?_drop]
   congr 2
   simp
   omega
theorem cpx_get (x:Vec 8) (i:Nat) (hi:i < 128):(cpx x).l.getD i 0#8 = x.l.getD i 0#8:=by
 show ((List.range 128).map fun i=>x.l.getD i 0#8).getD i 0#8 = _
 simp [List.getD_eq_getElem?_getD,hi]
theorem cpx_n (x:Vec 8):(cpx x).n = 128:=by
 show ((List.range 128).map _).length = 128
 rw [List.length_map,List.length_range]
theorem sub_n (v:Vec 8) (o n:Nat):(v.sub o n).n = n:=rfl
theorem putX_get (x v:Vec 8) (m o n i:Nat) (hm:m ≤ 128) (hn:m + n ≤ 128) (ho:o + n ≤ v.n) (hi:i < 128) :
 (putX x (m:Int) v o n).l.getD i 0#8 = if m ≤ i ∧ i < m + n then v.l.getD (o + (i - m)) 0#8 else x.l.getD i 0#8:=by
 unfold putX
 have e1:11 + (m:Int).toNat * 1 - 11 = m:=by omega
 have e2:Nat.min n (128 - (m:Int).toNat) = n:=by show min n _ = n;omega
 rw [e1,e2,over_getD _ _ _ _ (by rw [sub_n,cpx_n];exact hn) (by rw [cpx_n];exact hi),sub_n,cpx_get _ _ hi]
 split
 ·rw [sub_getD _ _ _ _ ho (by omega)]
 ·rfl
theorem put0_get (x v:Vec 8) (o n i:Nat) (hn:n ≤ 128) (ho:o + n ≤ v.n) (hi:i < n):(put0 x v o n).l.getD i 0#8 = v.l.getD (o + i) 0#8:=by
 unfold put0
 have e2:Nat.min n 128 = n:=by show min n _ = n;omega
 rw [e2,over_getD _ _ _ _ (by rw [sub_n,cpx_n];omega) (by rw [cpx_n];omega),sub_n,if_pos (by omega),sub_getD _ _ _ _ ho (by omega),Nat.sub_zero]
theorem cA_from (j:Nat):∀ k,cA (BitVec.ofNat 64 (128 * j)) k = BitVec.ofNat 64 (128 * (j + k))
 | 0=>rfl
 | k + 1=>by
  show cA _ k + 128#64 = _
  rw [cA_from j k]
  apply BitVec.eq_of_toNat_eq
  rw [BitVec.toNat_add,BitVec.toNat_ofNat,BitVec.toNat_ofNat,BitVec.toNat_ofNat]
  omega
theorem add128 (k:Nat):BitVec.ofNat 64 (128 * k) + 128#64 = BitVec.ofNat 64 (128 * (k + 1)):=by
 apply BitVec.eq_of_toNat_eq
 rw [BitVec.toNat_add,BitVec.toNat_ofNat,BitVec.toNat_ofNat,BitVec.toNat_ofNat]
 omega
theorem all_from (h0:H8) (P:Nat → BitVec 8) (v:Vec 8) (o j:Nat):∀ k,(∀ i,i < 128 * k → v.l.getD (o + i) 0#8 = P (128 * j + i)) → b2All (allF h0 P j) (BitVec.ofNat 64 (128 * j)) 0#64 v o k = allF h0 P (j + k)
 | 0,_=>rfl
 | k + 1,H=>by
  show b2 (b2All _ _ _ _ _ k) (cA _ k + 128#64) 0#64 0#64 (wrd v (o + 128 * k)) = b2 (allF h0 P (j + k)) _ _ _ _
  rw [all_from h0 P v o j k (fun i hi=>H i (by omega)),cA_from,add128,wrd_zw,zw_congr (g:=fun i=>P (128 * (j + k) + i)) (fun i hi=>by
   show v.l.getD (o + 128 * k + i) 0#8 = _
   rw [Nat.add_assoc,H _ (by omega)];congr 1;omega)]
  rfl
structure InvD (h0:H8) (P:Nat → BitVec 8) (d:Dg) (N:Nat):Prop where
 h:d.h = allF h0 P (fl N)
 c:d.c = BitVec.ofNat 64 (128 * fl N)
 n:d.n = ((N - 128 * fl N:Nat):Int)
 x:∀ i,i < N - 128 * fl N → d.x.l.getD i 0#8 = P (128 * fl N + i)
theorem InvD.new (sz:Int) (P:Nat → BitVec 8) (x:Vec 8):InvD (hI sz) P (newD sz x) 0:=⟨rfl,rfl,rfl,fun i hi=>by simp at hi⟩
theorem InvD.step {h0:H8} {P:Nat → BitVec 8} {d:Dg} {N:Nat} (H:InvD h0 P d N) (v:Vec 8) (o np:Nat) (ho:o + np ≤ v.n) (hv:∀ i,i < np → v.l.getD (o + i) 0#8 = P (N + i)):InvD h0 P (wrD d v o np) (N + np):=by
 obtain ⟨dh,dc,dx,dn⟩:=d
 obtain ⟨e1,e2,e3,e4⟩:=H
 simp only at e1 e2 e3 e4
 subst e1 e2 e3
 have hfl:N - 128 * fl N ≤ 128 ∧ 128 * fl N ≤ N ∧ (0 < N → 0 < N - 128 * fl N):=by unfold fl;omega
 have hx:∀ i,i < N - 128 * fl N → (cpx dx).l.getD i 0#8 = P (128 * fl N + i):=fun i hi=>by rw [cpx_get _ _ (by omega)];exact e4 i hi
 generalize hm:N - 128 * fl N = m at *
 show InvD h0 P ⟨wrH (eta (allF h0 P (fl N))) (BitVec.ofNat 64 (128 * fl N)) 0#64 (cpx dx) (m:Int) v o np,wrC (BitVec.ofNat 64 (128 * fl N)) (m:Int) np,wrX (cpx dx) (m:Int) v o np,wrN (m:Int) np⟩ (N + np)
 by_cases h1:0 < (m:Int)
 ·by_cases h2:(np:Int) ≤ 128 - (m:Int)
  ·have hf:fl (N + np) = fl N:=by unfold fl at *;omega
   refine ⟨?_,?_,?_,fun i hi=>?_⟩
   ·show wrH _ _ _ _ _ _ _ _ = _
    unfold wrH;rw [if_pos h1,if_pos h2,hf];rfl
   ·show wrC _ _ _ = _
    unfold wrC;rw [if_pos h1,if_pos h2,hf]
   ·show wrN _ _ = _
    unfold wrN;rw [if_pos h1,if_pos h2,hf];omega
   ·show (wrX _ _ _ _ _).l.getD i 0#8 = _
    unfold wrX;rw [if_pos h1,if_pos h2]
    have hi:i < N + np - 128 * fl (N + np):=hi
    rw [hf] at hi ⊢
    rw [putX_get _ _ _ _ _ _ (by omega) (by omega) ho (by omega)]
    split
    ·rw [hv _ (by omega)];congr 1;omega
    ·exact hx i (by omega)
  ·have hr:(128 - (m:Int)).toNat = 128 - m:=by omega
   have hf:fl (N + np) = fl N + 1 + fl (np - (128 - m)):=by unfold fl at *;omega
   have hXB:∀ i,i < 128 → (putX (cpx dx) (m:Int) v o (128 - m)).l.getD i 0#8 = P (128 * fl N + i):=fun i hi=>by
    rw [putX_get _ _ _ _ _ _ (by omega) (by omega) (by omega) hi]
    split
    ·rw [hv _ (by omega)];congr 1;omega
    ·exact hx i (by omega)
   have hb:b2 (eta (allF h0 P (fl N))) (BitVec.ofNat 64 (128 * fl N) + 128#64) 0#64 0#64 (wrd (putX (cpx dx) (m:Int) v o (128 - m)) 0) = allF h0 P (fl N + 1):=by
    show _ = b2 (allF h0 P (fl N)) _ _ _ _
    rw [add128,wrd_zw,zw_congr (g:=fun i=>P (128 * fl N + i)) (fun i hi=>by
     show (putX (cpx dx) (m:Int) v o (128 - m)).l.getD (0 + i) 0#8 = _
     rw [Nat.zero_add];exact hXB i hi)]
    rfl
   have hL:128 * fl (np - (128 - m)) ≤ np - (128 - m) ∧ np - (128 - m) - 128 * fl (np - (128 - m)) ≤ 128:=by unfold fl;omega
   refine ⟨?_,?_,?_,fun i hi=>?_⟩
   ·show wrH _ _ _ _ _ _ _ _ = _
    unfold wrH;rw [if_pos h1,if_neg h2,hr,hb,add128,all_from h0 P v (o + (128 - m)) (fl N + 1) _ (fun i hi=>by
     rw [Nat.add_assoc,hv _ (by omega)];congr 1;omega),hf]
   ·show wrC _ _ _ = _
    unfold wrC;rw [if_pos h1,if_neg h2,hr,add128,cA_from,hf]
   ·show wrN _ _ = _
    unfold wrN;rw [if_pos h1,if_neg h2,hr,hf];congr 1;omega
   ·show (wrX _ _ _ _ _).l.getD i 0#8 = _
    unfold wrX;rw [if_pos h1,if_neg h2,hr]
    have hi:i < N + np - 128 * fl (N + np):=hi
    rw [hf] at hi ⊢
    rw [put0_get _ _ _ _ _ (by omega) (by omega) (by omega)]
    have:=hv (128 - m + 128 * fl (np - (128 - m)) + i) (by omega)
    rw [show o + (128 - m) + 128 * fl (np - (128 - m)) + i = o + (128 - m + 128 * fl (np - (128 - m)) + i) by omega,this]
    congr 1;omega
 ·have hN:N = 0:=by omega
  subst hN
  have hm0:m = 0:=by omega
  subst hm0
  have hf0:fl 0 = 0:=rfl
  have hL:128 * fl np ≤ np ∧ np - 128 * fl np ≤ 128:=by unfold fl;omega
  have hv':∀ i,i < np → v.l.getD (o + i) 0#8 = P i:=fun i hi=>by rw [hv i hi,Nat.zero_add]
  rw [Nat.zero_add]
  refine ⟨?_,?_,?_,fun i hi=>?_⟩
  ·show wrH (eta (allF h0 P (fl 0))) (BitVec.ofNat 64 (128 * fl 0)) 0#64 (cpx dx) ((0:Nat):Int) v o np = _
   unfold wrH;rw [if_neg h1]
   show b2All (allF h0 P 0) (BitVec.ofNat 64 (128 * 0)) 0#64 v o (fl np) = _
   rw [all_from h0 P v o 0 _ (fun i hi=>by rw [hv' _ (by omega)];congr 1;omega),Nat.zero_add]
  ·show wrC (BitVec.ofNat 64 (128 * fl 0)) ((0:Nat):Int) np = _
   unfold wrC;rw [if_neg h1]
   show cA (BitVec.ofNat 64 (128 * 0)) (fl np) = _
   rw [cA_from,Nat.zero_add]
  ·show wrN ((0:Nat):Int) np = _
   unfold wrN;rw [if_neg h1]
  ·show (wrX (cpx dx) ((0:Nat):Int) v o np).l.getD i 0#8 = _
   unfold wrX;rw [if_neg h1,if_pos (by omega),put0_get _ _ _ _ _ (by omega) (by omega) hi,Nat.add_assoc,hv' _ (by omega)]
end
section
open Go.Eng
variable [RowAddr] [Co]
theorem cpx_twice (x:Vec 8):cpx (cpx x) = cpx x:=by
 have e:(List.range 128).map (fun i=>(cpx x).l.getD i 0#8) = (List.range 128).map (fun i=>x.l.getD i 0#8):=List.map_congr_left fun i hi=>cpx_get x i (List.mem_range.1 hi)
 show Vec.of _ = Vec.of _
 rw [e]
theorem last_get (x:Vec 8) (m i:Nat) (hm:m ≤ 128) (hi:i < 128):(lastX (cpx x) (m:Int)).l.getD i 0#8 = if i < m then x.l.getD i 0#8 else 0#8:=by
 unfold lastX
 have e:Nat.min ((m:Int)).toNat 128 = m:=by show min _ _ = m;omega
 have en:(Vec.of (List.replicate 128 0#8)).n = 128:=by
  show (List.replicate 128 0#8).length = 128
  rw [List.length_replicate]
 rw [e,over_getD _ _ _ _ (by rw [sub_n,en];omega) (by rw [en];exact hi),sub_n]
 split
 ·rw [if_pos (by omega),sub_getD _ _ _ _ (by rw [cpx_n];omega) (by omega),cpx_get _ _ (by omega),cpx_get _ _ (by omega)]
  congr 1;omega
 ·rw [if_neg (by omega)]
  show (List.replicate 128 0#8).getD i 0#8 = _
  rw [List.getD_eq_getElem?_getD,List.getElem?_replicate,if_pos hi]
  rfl
theorem sumD_eq {h0:H8} {P:Nat → BitVec 8} {d:Dg} {N:Nat} (H:InvD h0 P d N) (hN:N ≤ 1099511627776):sumD d = finF h0 P N:=by
 obtain ⟨dh,dc,dx,dn⟩:=d
 obtain ⟨e1,e2,e3,e4⟩:=H
 simp only at e1 e2 e3 e4
 subst e1 e2 e3
 have hfl:N - 128 * fl N ≤ 128 ∧ 128 * fl N ≤ N ∧ (0 < N → 0 < N - 128 * fl N) ∧ (N = 0 → fl N = 0):=by unfold fl;omega
 generalize hm:N - 128 * fl N = m at *
 show sumH (eta (allF h0 P (fl N))) (BitVec.ofNat 64 (128 * fl N)) 0#64 (cpx dx) (m:Int) = _
 have er:(rmn (m:Int)).toNat = 128 - m:=by
  unfold rmn
  rw [show (128 - (m:Int)) = ((128 - m:Nat):Int) by omega,BitVec.ofInt_natCast,BitVec.toNat_ofNat]
  omega
 have ec:(BitVec.ofNat 64 (128 * fl N)).toNat = 128 * fl N:=by rw [BitVec.toNat_ofNat];omega
 have e128:(128#64).toNat = 128:=rfl
 have et:(BitVec.ofNat 64 (128 * fl N) - rmn (m:Int) + 128#64).toNat = N:=by
  rw [BitVec.toNat_add,BitVec.toNat_sub,ec,er,e128]
  omega
 have eN:BitVec.ofNat 64 (128 * fl N) - rmn (m:Int) + 128#64 = BitVec.ofNat 64 N:=by
  apply BitVec.eq_of_toNat_eq
  rw [et,BitVec.toNat_ofNat]
  omega
 have ew:wrd (lastX (cpx (cpx dx)) (m:Int)) 0 = zwV fun i=>if i < N - 128 * fl N then P (128 * fl N + i) else 0#8:=by
  rw [wrd_zw]
  refine zw_congr fun i hi=>?_
  show (lastX (cpx (cpx dx)) (m:Int)).l.getD (0 + i) 0#8 = _
  rw [Nat.zero_add,last_get _ _ _ hfl.1 hi,hm]
  by_cases h:i < m
  ·rw [if_pos h,if_pos h,cpx_get _ _ hi,e4 i h]
  ·rw [if_neg h,if_neg h]
 have ew':wrd (lastX (cpx dx) (m:Int)) 0 = zwV fun i=>if i < N - 128 * fl N then P (128 * fl N + i) else 0#8:=by
  rw [← ew]
  rw [cpx_twice]
 have fin:∀ c1,cy (BitVec.ofNat 64 (128 * fl N) - rmn (m:Int)) c1 = 0#64 → sumK (eta (allF h0 P (fl N))) (BitVec.ofNat 64 (128 * fl N)) c1 (cpx dx) (m:Int) = finF h0 P N:=by
  intro c1 h
  unfold sumK finF
  rw [h,eN,ew']
  rfl
 unfold sumH
 rw [ec,er]
 by_cases h:128 * fl N < 128 - m
 ·rw [if_pos h]
  refine fin _ ?_
  unfold cy
  rw [et,e128,if_pos (by unfold fl at *;omega)]
  rfl
 ·rw [if_neg h]
  refine fin _ ?_
  unfold cy
  rw [et,e128,if_neg (by unfold fl at *;omega)]
theorem par0:∀ k:Fin 65,lw8 (BitVec.ofInt 8 (k.1:Int)) 0#8 1#8 1#8 0#8 0#8 0#8 0#8 = (((BitVec.ofInt 64 (k.1:Int) ||| 0#64) ||| 65536#64) ||| 16777216#64):=by decide +kernel
theorem pV_get (n:Int):∀ i,i < 64 → byAt (pV n) 0 64 i = if i = 0 then BitVec.ofInt 8 n else if i = 2 ∨ i = 3 then 1#8 else 0#8:=by
 intro i hi
 unfold byAt
 rw [if_pos hi,Nat.zero_add]
 show (BitVec.ofInt 8 n :: 0#8 :: 1#8 :: 1#8 :: List.replicate 60 0#8).getD i 0#8 = _
 match i,hi with
 | 0,_=>rfl
 | 1,_=>rfl
 | 2,_=>rfl
 | 3,_=>rfl
 | j + 4,hj=>
  rw [if_neg (by omega),if_neg (by omega)]
  show (List.replicate 60 0#8).getD j 0#8 = _
  rw [List.getD_eq_getElem?_getD,List.getElem?_replicate,if_pos (by omega)]
  rfl
theorem h0S_eq (n:Int) (h1:1 ≤ n) (h2:n ≤ 64):h0S n = hI n:=by
 have w0:(wS (pV n) 0 64).l.getD 0 0#64 = (((BitVec.ofInt 64 n ||| 0#64) ||| 65536#64) ||| 16777216#64):=by
  rw [wS_get _ _ _ _ (by omega) (by omega)]
  unfold zw
  simp only [Nat.mul_zero,Nat.zero_add]
  rw [pV_get n 0 (by omega),pV_get n 1 (by omega),pV_get n 2 (by omega),pV_get n 3 (by omega),pV_get n 4 (by omega),pV_get n 5 (by omega),pV_get n 6 (by omega),pV_get n 7 (by omega)]
  have:=par0 ⟨n.toNat,by omega⟩
  simp only [show ((n.toNat:Nat):Int) = n by omega] at this
  exact this
 have wj:∀ j,1 ≤ j → j < 8 → (wS (pV n) 0 64).l.getD j 0#64 = 0#64:=by
  intro j a b
  rw [wS_get _ _ _ _ (by omega) (by omega)]
  unfold zw
  have z:∀ i,8 ≤ i → i < 64 → byAt (pV n) 0 64 i = 0#8:=fun i p q=>by rw [pV_get n i q,if_neg (by omega),if_neg (by omega)]
  rw [z _ (by omega) (by omega),z _ (by omega) (by omega),z _ (by omega) (by omega),z _ (by omega) (by omega),z _ (by omega) (by omega),z _ (by omega) (by omega),z _ (by omega) (by omega),z _ (by omega) (by omega)]
  rfl
 unfold h0S hI
 rw [w0,wj 1 (by omega) (by omega),wj 2 (by omega) (by omega),wj 3 (by omega) (by omega),wj 4 (by omega) (by omega),wj 5 (by omega) (by omega),wj 6 (by omega) (by omega),wj 7 (by omega) (by omega)]
 rfl
theorem kB_all (v:Vec 8) (h:H8) (n:Int) (o np:Nat):∀ k,128 * k ≤ np → iter kB_next k ⟨v,h,n,0#64,o,np⟩ = ⟨v,allF h (fun i=>v.l.getD (o + i) 0#8) k,n,BitVec.ofNat 64 (128 * k),o + 128 * k,np - 128 * k⟩
 | 0,_=>rfl
 | k + 1,hk=>by
  rw [iter_succ,kB_all v h n o np k (by omega)]
  show (⟨v,b2S (allF h (fun i=>v.l.getD (o + i) 0#8) k) (BitVec.ofNat 64 (128 * k) + 128#64) 0#64 0#64 (c16 (wS v (o + 128 * k) 128)),n,BitVec.ofNat 64 (128 * k) + 128#64,o + 128 * k + 128,np - 128 * k - 128⟩:kBD) = _
  rw [b2S_eq,add128,wS_eq _ _ _ (Nat.le_refl _),zw_congr (g:=fun i=>v.l.getD (o + (128 * k + i)) 0#8) (fun i hi=>by unfold byAt;rw [if_pos hi,Nat.add_assoc]),show o + 128 * k + 128 = o + 128 * (k + 1) by omega,show np - 128 * k - 128 = np - 128 * (k + 1) by omega]
  rfl
theorem lastS_eq (v:Vec 8) (o np:Nat) (n:Int) (h1:1 ≤ n) (h2:n ≤ 64) (hN:np ≤ 1099511627776):lastS v o np n = finF (hI n) (fun i=>v.l.getD (o + i) 0#8) np:=by
 have hfl:128 * fl np ≤ np ∧ np - 128 * fl np ≤ 128:=by unfold fl;omega
 have e:=kB_all v (h0S n) n o np (fl np) hfl.1
 have ez:zB v o np n = ⟨v,allF (h0S n) (fun i=>v.l.getD (o + i) 0#8) (fl np),n,BitVec.ofNat 64 (128 * fl np),o + 128 * fl np,np - 128 * fl np⟩:=e
 unfold lastS
 rw [ez,h0S_eq n h1 h2]
 show b2S (allF (hI n) _ (fl np)) (BitVec.ofNat 64 (128 * fl np) + BitVec.ofInt 64 ((np - 128 * fl np:Nat):Int)) 0#64 18446744073709551615#64 (c16 (wS v (o + 128 * fl np) (np - 128 * fl np))) = _
 have ec:BitVec.ofNat 64 (128 * fl np) + BitVec.ofInt 64 ((np - 128 * fl np:Nat):Int) = BitVec.ofNat 64 np:=by
  apply BitVec.eq_of_toNat_eq
  rw [BitVec.toNat_add,BitVec.ofInt_natCast,BitVec.toNat_ofNat,BitVec.toNat_ofNat,BitVec.toNat_ofNat]
  omega
 rw [b2S_eq,ec,wS_eq _ _ _ hfl.2]
 unfold finF
 rw [zw_congr (g:=fun i=>if i < np - 128 * fl np then v.l.getD (o + (128 * fl np + i)) 0#8 else 0#8) (fun i hi=>by unfold byAt;rw [Nat.add_assoc])]
 rfl
end
section
open Go.Eng
variable [RowAddr] [Co] [SeatCo]
def specs18:FuncId → Option Eng.Spec
 | 34=>some c34.spec
 | _=>none
theorem specs18_ok:∀ f sp,specs18 f = some sp → SpecOk Tryd.prog noGlob f sp:=by
 intro f sp h
 unfold specs18 at h
 split at h
 ·injection h with h;subst h;exact c34_ok
 ·cases h
structure c18D where
 v:Vec 8
 o:Nat
 np:Nat
 n:Int
def c18_rd (a:List AV) (K:List Blk):Option c18D:=
 match a with
 | [(.num (.int .i64 (.s n))),(.atom .nils),(.ref (.sl 0 (.s o) (.s np) none)),(.agg cs_sigL)]=>
  match K with
  | [⟨(.b8 v),.ro⟩]=>
   (match eqC cs_sigL sigL with
   | true=>some ⟨v,o,np,n⟩
   | false=>none)
  | _=>none
 | _=>none
def c18:Ct c18D where
 pat:=[(.int .i64 (.s 0)),(.atom .nils),(.sl 0 (.s 0) (.s 0) none),(.agg (mkC sigL))]
 patH:=[⟨(.b8 (Vec.zero 8 0)),.ro⟩]
 read:=c18_rd
 args:=fun ⟨_,o,np,n⟩=>[(.int .i64 (.s n)),(.atom .nils),(.sl 0 (.s o) (.s np) none),(.agg (mkC sigL))]
 heap:=fun ⟨v,_,_,_⟩=>[⟨(.b8 v),.ro⟩]
 out:=fun ⟨v,o,np,n⟩=>[⟨(.b8 v),.ro⟩,⟨(.b8 ((zO v o np n)).u),.own⟩]
 val:=fun ⟨v,o,np,n⟩=>(.obj .tup [(.sl 1 (.c 0) (.s ((zO v o np n)).k) none),(.bool (.c true))])
 good:=fun ⟨v,o,np,n⟩=>decide (1 ≤ n ∧ n ≤ 64 ∧ o + np ≤ v.n ∧ np ≤ 1099511627776)
theorem c18_run (v:Vec 8) (o np:Nat) (n:Int):endsAs (c18.heap ⟨v,o,np,n⟩).length (some [0,5]) (c18.out ⟨v,o,np,n⟩) (c18.val ⟨v,o,np,n⟩) (goB specs18 noLoop 18 (c18.args ⟨v,o,np,n⟩) ⟨c18.heap ⟨v,o,np,n⟩,big,[false,false,false,false,false,false,false,false,false,false,false],[]⟩) = some ((c18.out ⟨v,o,np,n⟩),(c18.val ⟨v,o,np,n⟩),[decide (((1:Int) ≤ n ∧ (n ≤ 64 ∧ ((o + np) ≤ v.n ∧ np ≤ 1099511627776)))),(decide ((64:Int) < n) == false),(decide ((64:Int) < n) == false),(decide ((64:Int) < n) == false),(decide ((64:Int) < n) == false),(decide ((64:Int) < n) == false),(decide ((64:Int) < n) == false),(decide (n < 1) == false),(decide (n < 1) == false),(decide (n < 1) == false),(decide (n < 1) == false),(decide (n < 1) == false)]):=by kernel_rfl
set_option maxRecDepth 100000 in
theorem c18_read (a:List AV) (K:List Blk) (d:c18D) (h:c18.read a K = some d):a = c18.args d ∧ K = c18.heap d:=by
 replace h:c18_rd a K = some d:=h
 unfold c18_rd at h
 split at h
 case h_2=>cases h
 split at h
 case h_2=>cases h
 split at h
 case h_2=>cases h
 rename_i hc
 obtain rfl:=eqC_eq hc
 injection h with h;subst h
 exact ⟨rfl,rfl⟩
theorem c18_ok:SpecOk Tryd.prog noGlob 18 c18.spec:=by
 refine c18.ok (goB_ok specs18_ok (no_loops _)) c18_read ?_
 rintro ⟨v,o,np,n⟩ hg
 have hg:1 ≤ n ∧ n ≤ 64 ∧ o + np ≤ v.n ∧ np ≤ 1099511627776:=of_decide_eq_true hg
 refine ⟨[false,false,false,false,false,false,false,false,false,false,false],(some [0,5]),_,c18_run v o np n,?_⟩
 repeat' (refine all_true_cons ?_ ?_)
 all_goals first | exact all_true_nil | rfl | (simp only [bq] <;> omega)
structure c17D where
 x:BitVec 32
def c17_rd (a:List AV) (K:List Blk):Option c17D:=
 match a with
 | [(.num (.w32 x))]=>
  match K with
  | []=>some ⟨x⟩
  | _=>none
 | _=>none
def c17:Ct c17D where
 pat:=[(.w32 0#32)]
 patH:=[]
 read:=c17_rd
 args:=fun ⟨x⟩=>[(.w32 x)]
 heap:=fun ⟨_⟩=>[]
 out:=fun ⟨x⟩=>[⟨(.gen [(.w8 (((x >>> 0)).setWidth 8)),(.w8 (((x >>> 8)).setWidth 8)),(.w8 (((x >>> 16)).setWidth 8)),(.w8 (((x >>> 24)).setWidth 8))]),.own⟩]
 val:=fun ⟨_⟩=>(.sl 0 (.c 0) (.c 4) none)
 good:=fun ⟨_⟩=>decide (True)
theorem c17_run (x:BitVec 32):endsAs (c17.heap ⟨x⟩).length (some [0]) (c17.out ⟨x⟩) (c17.val ⟨x⟩) (goB noSpec noLoop 17 (c17.args ⟨x⟩) ⟨c17.heap ⟨x⟩,big,[],[]⟩) = some ((c17.out ⟨x⟩),(c17.val ⟨x⟩),[]):=by kernel_rfl
set_option maxRecDepth 100000 in
theorem c17_read (a:List AV) (K:List Blk) (d:c17D) (h:c17.read a K = some d):a = c17.args d ∧ K = c17.heap d:=by
 replace h:c17_rd a K = some d:=h
 unfold c17_rd at h
 split at h
 case h_2=>cases h
 split at h
 case h_2=>cases h
 injection h with h;subst h
 exact ⟨rfl,rfl⟩
theorem c17_ok:SpecOk Tryd.prog noGlob 17 c17.spec:=by
 refine c17.ok (goB_ok no_specs (no_loops _)) c17_read ?_
 rintro ⟨x⟩ hg
 have hg:True:=of_decide_eq_true hg
 refine ⟨[],(some [0]),_,c17_run x,?_⟩
 repeat' (refine all_true_cons ?_ ?_)
 all_goals first | exact all_true_nil | rfl | (simp only [bq] <;> omega)
def specs9:FuncId → Option Eng.Spec
 | 18=>some c18.spec
 | 17=>some c17.spec
 | _=>none
theorem specs9_ok:∀ f sp,specs9 f = some sp → SpecOk Tryd.prog noGlob f sp:=by
 intro f sp h
 unfold specs9 at h
 split at h
 ·injection h with h;subst h;exact c18_ok
 ·injection h with h;subst h;exact c17_ok
 ·cases h
end
section
open Go.Eng
variable [RowAddr] [Co] [SeatCo]
theorem kO_it (v:Vec 8) (h:H8) (n:Int) (u:Vec 8) (k:Nat) (i:Int) (hk:k = u.n):∀ m,(iter kO_next m ⟨v,h,n,u,k,i⟩).u.n = u.n + m ∧ (iter kO_next m ⟨v,h,n,u,k,i⟩).k = u.n + m
 | 0=>⟨rfl,hk⟩
 | m + 1=>by
  obtain ⟨h1,h2⟩:=kO_it v h n u k i hk m
  rw [iter_succ]
  generalize iter kO_next m ⟨v,h,n,u,k,i⟩ = e at h1 h2
  obtain ⟨v',h',n',u',k',i'⟩:=e
  simp only at h1 h2
  exact ⟨by show u'.n + 1 = _;omega,by show k' + 1 = _;omega⟩
theorem zO_n (v:Vec 8) (o np:Nat) (n:Int) (h1:1 ≤ n):(zO v o np n).u.n = n.toNat ∧ (zO v o np n).k = n.toNat:=by
 obtain ⟨e1,e2,e3⟩:=zB_pl v o np n
 obtain ⟨h2,h3⟩:=kO_it v (etaS (lastS v o np n)) (zB v o np n).n (Vec.of [((lastS v o np n).x0 >>> 0).setWidth 8]) 1 1 rfl (((zB v o np n).n - 1).toNat)
 have e:(Vec.of [((lastS v o np n).x0 >>> 0).setWidth 8]:Vec 8).n = 1:=rfl
 rw [e,e3] at h2 h3
 unfold zO
 rw [e3]
 exact ⟨by rw [h2];omega,by rw [h3];omega⟩
end
section
open Go.Eng
variable [RowAddr] [Co] [SeatCo]
end
section
open Go.Eng
variable [RowAddr] [Co] [SeatCo]
end
section
open Go.Eng
variable [RowAddr] [Co] [SeatCo]
def byF (y:H8) (i:Nat):BitVec 8:=(h8b y).getD i 0#8
theorem hByte_eq (h:H8):∀ i:Nat,i < 64 → hByte h (i:Int) = byF h i
 | 0,_=>rfl
 | 1,_=>rfl
 | 2,_=>rfl
 | 3,_=>rfl
 | 4,_=>rfl
 | 5,_=>rfl
 | 6,_=>rfl
 | 7,_=>rfl
 | 8,_=>rfl
 | 9,_=>rfl
 | 10,_=>rfl
 | 11,_=>rfl
 | 12,_=>rfl
 | 13,_=>rfl
 | 14,_=>rfl
 | 15,_=>rfl
 | 16,_=>rfl
 | 17,_=>rfl
 | 18,_=>rfl
 | 19,_=>rfl
 | 20,_=>rfl
 | 21,_=>rfl
 | 22,_=>rfl
 | 23,_=>rfl
 | 24,_=>rfl
 | 25,_=>rfl
 | 26,_=>rfl
 | 27,_=>rfl
 | 28,_=>rfl
 | 29,_=>rfl
 | 30,_=>rfl
 | 31,_=>rfl
 | 32,_=>rfl
 | 33,_=>rfl
 | 34,_=>rfl
 | 35,_=>rfl
 | 36,_=>rfl
 | 37,_=>rfl
 | 38,_=>rfl
 | 39,_=>rfl
 | 40,_=>rfl
 | 41,_=>rfl
 | 42,_=>rfl
 | 43,_=>rfl
 | 44,_=>rfl
 | 45,_=>rfl
 | 46,_=>rfl
 | 47,_=>rfl
 | 48,_=>rfl
 | 49,_=>rfl
 | 50,_=>rfl
 | 51,_=>rfl
 | 52,_=>rfl
 | 53,_=>rfl
 | 54,_=>rfl
 | 55,_=>rfl
 | 56,_=>rfl
 | 57,_=>rfl
 | 58,_=>rfl
 | 59,_=>rfl
 | 60,_=>rfl
 | 61,_=>rfl
 | 62,_=>rfl
 | 63,_=>rfl
 | i + 64,h=>absurd h (by omega)
theorem app_get (u x:Vec 8) (i:Nat):(u.app x).l.getD i 0#8 = if i < u.n then u.l.getD i 0#8 else x.l.getD (i - u.n) 0#8:=by
 have hu:=u.h
 show (u.l ++ x.l).getD i 0#8 = _
 simp only [List.getD_eq_getElem?_getD]
 split
 ·rw [List.getElem?_append_left (by omega)]
 ·rw [List.getElem?_append_right (by omega),hu]
theorem kO_bytes (v:Vec 8) (h:H8) (n:Int) (u:Vec 8) (hu:u.n = 1) (h0:u.l.getD 0 0#8 = byF h 0):∀ m,m < 64 → ∃ u',iter kO_next m ⟨v,h,n,u,1,1⟩ = ⟨v,h,n,u',m + 1,((m + 1:Nat):Int)⟩ ∧ u'.n = m + 1 ∧ ∀ i,i < m + 1 → u'.l.getD i 0#8 = byF h i
 | 0,_=>⟨u,rfl,hu,fun i hi=>by obtain rfl:i = 0:=by omega
                               exact h0⟩
 | m + 1,hm=>by
  obtain ⟨u',e,hn,hb⟩:=kO_bytes v h n u hu h0 m (by omega)
  refine ⟨u'.app (Vec.of [hByte h ((m + 1:Nat):Int)]),?_,by show u'.n + 1 = _;omega,fun i hi=>?_⟩
  ·rw [iter_succ,e]
   rfl
  ·rw [app_get]
   split
   ·exact hb i (by omega)
   ·obtain rfl:i = m + 1:=by omega
    rw [hByte_eq h (m + 1) (by omega),hn,Nat.sub_self]
    rfl
theorem zO_bytes (v:Vec 8) (o np:Nat) (n:Int) (h1:1 ≤ n) (h2:n ≤ 64):∀ i,i < n.toNat → (zO v o np n).u.l.getD i 0#8 = byF (lastS v o np n) i:=by
 intro i hi
 obtain ⟨e1,e2,e3⟩:=zB_pl v o np n
 obtain ⟨u',e,hn,hb⟩:=kO_bytes v (etaS (lastS v o np n)) (zB v o np n).n (Vec.of [((lastS v o np n).x0 >>> 0).setWidth 8]) rfl rfl (((zB v o np n).n - 1).toNat) (by rw [e3];omega)
 unfold zO
 rw [e]
 exact hb i (by rw [e3];omega)
theorem h8b_n (y:H8):(Vec.of (h8b y)).n = 64:=rfl
theorem sumV_n (y:H8) (v:Vec 8) (o:Nat) (sz:Int):(sumV y v o sz).n = v.n:=rfl
theorem sumV_get (y:H8) (v:Vec 8) (o:Nat) (sz:Int) (i:Nat) (h1:0 ≤ sz) (h2:sz ≤ 64) (h3:o + sz.toNat ≤ v.n) (hi:i < v.n):(sumV y v o sz).l.getD i 0#8 = if o ≤ i ∧ i < o + sz.toNat then byF y (i - o) else v.l.getD i 0#8:=by
 unfold sumV
 rw [over_getD _ _ _ _ (by rw [sub_n];exact h3) hi,sub_n]
 split
 ·rw [sub_getD _ _ _ _ (by rw [h8b_n];omega) (by omega),Nat.zero_add];rfl
 ·rfl
def P0 (np:Nat) (w:Vec 8) (oi:Nat) (i:Nat):BitVec 8:=if i < 4 then (v4 np).l.getD i 0#8 else w.l.getD (oi + (i - 4)) 0#8
theorem first_eq (sz:Int) (w:Vec 8) (np oi ni:Nat) (h:oi + ni ≤ w.n) (hn:ni ≤ 1000000):sumD (firstD sz w np oi ni) = finF (hI sz) (P0 np w oi) (4 + ni):=by
 have a:=InvD.step (InvD.new sz (P0 np w oi) Z128) (v4 np) 0 4 (by rw [v4n];omega) (fun i hi=>by unfold P0;simp only [Nat.zero_add];rw [if_pos hi])
 have b:=InvD.step a w oi ni h (fun i hi=>by unfold P0;rw [if_neg (by omega)];congr 2;omega)
 rw [Nat.zero_add] at b
 exact sumD_eq b (by omega)
theorem next_eq (sz:Int) (x b:Vec 8) (P:Nat → BitVec 8) (hb:b.n = 64) (hP:∀ i,i < 64 → b.l.getD i 0#8 = P i):sumD (wrD ⟨hI sz,0#64,x,0⟩ b 0 64) = finF (hI sz) P 64:=by
 have a:=InvD.step (InvD.new sz P x) b 0 64 (by omega) (fun i hi=>by simp only [Nat.zero_add];exact hP i hi)
 rw [Nat.zero_add] at a
 exact sumD_eq a (by omega)
def bF (np:Nat) (w:Vec 8) (oi ni:Nat):Nat → Nat → BitVec 8
 | 0=>byF (finF (hI 64) (P0 np w oi) (4 + ni))
 | k + 1=>byF (finF (hI 64) (bF np w oi ni k) 64)
section
variable (v w:Vec 8) (o np cp oi ni:Nat)
theorem l_bytes (hnp:64 < np) (hcp:np ≤ cp) (ho:o + cp ≤ v.n) (hi:oi + ni ≤ w.n) (hn:ni ≤ 1000000):∀ k,k ≤ (np - 65) / 32 →
 (∀ i,i < 64 → (iter kH_next k (l0 v w o np cp oi ni)).b.l.getD i 0#8 = bF np w oi ni k i) ∧
 (∀ i,i < 32 * (k + 1) → (iter kH_next k (l0 v w o np cp oi ni)).v.l.getD (o + i) 0#8 = bF np w oi ni (i / 32) (i % 32))
 | 0,_=>by
  have hb:∀ i,i < 64 → (sumV (sumD (firstD 64 w np oi ni)) (v4 np) 0 64).l.getD i 0#8 = bF np w oi ni 0 i:=fun i h=>by
   rw [sumV_get _ _ _ _ _ (by omega) (by omega) (by rw [v4n];omega) (by rw [v4n];exact h),if_pos (by omega),first_eq 64 w np oi ni hi hn,Nat.sub_zero]
   rfl
  refine ⟨hb,fun i h=>?_⟩
  show (v.over o ((sumV (sumD (firstD 64 w np oi ni)) (v4 np) 0 64).sub 0 (Nat.min 32 np))).l.getD (o + i) 0#8 = _
  have e32:Nat.min 32 np = 32:=by show min 32 np = 32;omega
  rw [e32,over_getD _ _ _ _ (by rw [sub_n];omega) (by omega),sub_n,if_pos (by omega),sub_getD _ _ _ _ (by rw [sumV_n,v4n];omega) (by omega),Nat.zero_add,Nat.add_sub_cancel_left,hb i (by omega),show i / 32 = 0 by omega,show i % 32 = i by omega]
 | k + 1,hk=>by
  obtain ⟨h1,h2⟩:=l_bytes hnp hcp ho hi hn k (by omega)
  have L:=l_inv v w o np cp oi ni k
  rw [iter_succ]
  generalize iter kH_next k (l0 v w o np cp oi ni) = d at h1 h2 L
  obtain ⟨v',w',b,h',c0,sz,xb,nx,kb,o',np',cp',N⟩:=d
  obtain ⟨q1,q2,q3,q4,q5,q6,q7,q8,q9,q10,q11⟩:=L
  simp only at q1 q2 q3 q4 q5 q6 q7 q8 q9 q10 q11 h1 h2
  subst q4 q5 q6 q7
  have hb:∀ i,i < 64 → (sumV (sumD (wrD ⟨hI 64,0#64,xb,0⟩ b 0 64)) b 0 64).l.getD i 0#8 = bF np w oi ni (k + 1) i:=fun i h=>by
   rw [sumV_get _ _ _ _ _ (by omega) (by omega) (by omega) (by omega),if_pos (by omega),next_eq 64 xb b (bF np w oi ni k) q2 h1,Nat.sub_zero]
   rfl
  refine ⟨hb,fun i h=>?_⟩
  show (v'.over o' ((sumV (sumD (wrD ⟨hI 64,0#64,xb,0⟩ b 0 64)) b 0 64).sub 0 (Nat.min 32 np'))).l.getD (o + i) 0#8 = _
  have e32:Nat.min 32 np' = 32:=by show min 32 np' = 32;omega
  rw [e32,over_getD _ _ _ _ (by rw [sub_n];omega) (by omega),sub_n]
  split
  ·rw [sub_getD _ _ _ _ (by rw [sumV_n];omega) (by omega),Nat.zero_add,hb _ (by omega),show i / 32 = k + 1 by omega,show o + i - o' = i % 32 by omega]
  ·exact h2 i (by omega)
end
end
section
open Go.Eng
def fz {α:Type} (x:BitVec 64) (k:BitVec 64 → α):α:=Nat.rec (motive:=fun _=>α) (k 0#64) (fun n _=>k (BitVec.ofNat 64 (n + 1))) x.toNat
theorem fz_eq {α:Type} (x:BitVec 64) (k:BitVec 64 → α):fz x k = k x:=by
 have h:BitVec.ofNat 64 x.toNat = x:=by simp
 unfold fz
 generalize x.toNat = n at h
 subst h
 cases n <;> rfl
def fzL {α:Type}:List (BitVec 64) → (List (BitVec 64) → α) → α
 | [],k=>k []
 | x :: r,k=>fz x fun y=>fzL r fun s=>k (y :: s)
theorem fzL_eq {α:Type}:∀ (l:List (BitVec 64)) (k:List (BitVec 64) → α),fzL l k = k l
 | [],_=>rfl
 | x :: r,k=>by
  show fz x (fun y=>fzL r fun s=>k (y :: s)) = _
  rw [fz_eq,fzL_eq r]
def fz8 {α:Type} (h:H8) (k:H8 → α):α:=
 fz h.x0 fun a=>fz h.x1 fun b=>fz h.x2 fun c=>fz h.x3 fun d=>fz h.x4 fun e=>fz h.x5 fun f=>fz h.x6 fun g=>fz h.x7 fun i=>k ⟨a,b,c,d,e,f,g,i⟩
theorem fz8_eq {α:Type} (h:H8) (k:H8 → α):fz8 h k = k h:=by
 unfold fz8
 simp only [fz_eq]
def hv8 (h:H8):Vec 64:=Vec.of [h.x0,h.x1,h.x2,h.x3,h.x4,h.x5,h.x6,h.x7,0#64,0#64,0#64,0#64,0#64,0#64,0#64,0#64]
def nxC (h:H8):H8:=b2 (hI 64) 64#64 0#64 flagF (hv8 h)
def rowC:Nat → H8 → List (BitVec 64)
 | 0,c=>[c.x0,c.x1,c.x2,c.x3,c.x4,c.x5,c.x6,c.x7]
 | n + 1,c=>c.x0 :: c.x1 :: c.x2 :: c.x3 :: rowC n (nxC c)
def rowZ {α:Type}:Nat → H8 → (List (BitVec 64) → α) → α
 | 0,c,k=>k [c.x0,c.x1,c.x2,c.x3,c.x4,c.x5,c.x6,c.x7]
 | n + 1,c,k=>fz8 (nxC c) fun d=>rowZ n d fun r=>k (c.x0 :: c.x1 :: c.x2 :: c.x3 :: r)
theorem rowZ_eq {α:Type}:∀ (n:Nat) (c:H8) (k:List (BitVec 64) → α),rowZ n c k = k (rowC n c)
 | 0,_,_=>rfl
 | n + 1,c,k=>by
  show fz8 (nxC c) (fun d=>rowZ n d fun r=>k (c.x0 :: c.x1 :: c.x2 :: c.x3 :: r)) = _
  rw [fz8_eq,rowZ_eq n]
  rfl
theorem of_l {w:Nat} (v:Vec w):Vec.of v.l = v:=by
 obtain ⟨n,l,h⟩:=v
 subst h
 rfl
def fldZ {α:Type}:List (List Nat) → List (BitVec 64) → (List (BitVec 64) → α) → α
 | [],t,k=>k t
 | ix :: r,t,k=>fzL (putS ix (Vec.of t)).l fun u=>fldZ r u k
theorem fldZ_eq {α:Type}:∀ (l:List (List Nat)) (t:List (BitVec 64)) (k:List (BitVec 64) → α),fldZ l t k = k (foldS l (Vec.of t)).l
 | [],_,_=>rfl
 | ix :: r,t,k=>by
  show fzL (putS ix (Vec.of t)).l (fun u=>fldZ r u k) = _
  rw [fzL_eq,fldZ_eq r,of_l]
  rfl
def xo:List (BitVec 64) → List (BitVec 64) → List (BitVec 64)
 | x :: r,y :: s=>(x ^^^ y) :: xo r s
 | _,_=>[]
def cmpC (b c:List (BitVec 64)):List (BitVec 64):=xo (xo b c) (foldS ixS (Vec.of (xo b c))).l
def cmpZ {α:Type} (b c:List (BitVec 64)) (k:List (BitVec 64) → α):α:=
 fzL (xo b c) fun t=>fldZ ixS t fun u=>fzL (xo t u) k
theorem cmpZ_eq {α:Type} (b c:List (BitVec 64)) (k:List (BitVec 64) → α):cmpZ b c k = k (cmpC b c):=by
 unfold cmpZ cmpC
 simp only [fzL_eq,fldZ_eq]
def Zr:List (BitVec 64):=List.replicate 128 0#64
def stC (R:List (List (BitVec 64))) (b c:Nat):List (List (BitVec 64)):=R ++ [cmpC (R.getD b Zr) (R.getD c Zr)]
def stZ {α:Type} (R:List (List (BitVec 64))) (b c:Nat) (k:List (List (BitVec 64)) → α):α:=cmpZ (R.getD b Zr) (R.getD c Zr) fun r=>k (R ++ [r])
theorem stZ_eq {α:Type} (R:List (List (BitVec 64))) (b c:Nat) (k:List (List (BitVec 64)) → α):stZ R b c k = k (stC R b c):=by
 unfold stZ stC
 rw [cmpZ_eq]
def gR (R:List (List (BitVec 64))) (a i:Nat):BitVec 64:=(R.getD a Zr).getD i 0#64
def adrC:List (BitVec 64):=cmpC (cmpC (0#64 :: 0#64 :: 1#64 :: 8#64 :: 1#64 :: 2#64 :: 1#64 :: List.replicate 121 0#64) Zr) Zr
def phN (x m:BitVec 64):Nat:=((0#64 + m - (((((x &&& 4294967295#64) * (x &&& 4294967295#64)) >>> 32) * m) >>> 32 + 1#64)) % 8#64).toNat
def allC (r0 r1:List (BitVec 64)):List (List (BitVec 64)):=
 let R2:=stC [r0,r1] 1 (phN (adrC.getD 0 0#64) 1#64)
 let R3:=stC R2 2 (phN (adrC.getD 1 0#64) 2#64)
 let R4:=stC R3 3 (phN (gR R3 3 0) 3#64)
 let R5:=stC R4 4 (phN (gR R4 4 0) 4#64)
 let R6:=stC R5 5 (phN (gR R5 5 0) 5#64)
 stC R6 6 (phN (gR R6 6 0) 6#64)
def allZ {α:Type} (r0 r1:List (BitVec 64)) (k:List (List (BitVec 64)) → α):α:=
 cmpZ (0#64 :: 0#64 :: 1#64 :: 8#64 :: 1#64 :: 2#64 :: 1#64 :: List.replicate 121 0#64) Zr fun a=>
 cmpZ a Zr fun a=>
 stZ [r0,r1] 1 (phN (a.getD 0 0#64) 1#64) fun R=>
 stZ R 2 (phN (a.getD 1 0#64) 2#64) fun R=>
 stZ R 3 (phN (gR R 3 0) 3#64) fun R=>
 stZ R 4 (phN (gR R 4 0) 4#64) fun R=>
 stZ R 5 (phN (gR R 5 0) 5#64) fun R=>
 stZ R 6 (phN (gR R 6 0) 6#64) k
theorem allZ_eq {α:Type} (r0 r1:List (BitVec 64)) (k:List (List (BitVec 64)) → α):allZ r0 r1 k = k (allC r0 r1):=by
 unfold allZ allC adrC
 simp only [cmpZ_eq,stZ_eq]
def byR (r:List (BitVec 64)) (i:Nat):BitVec 8:=(r.getD (i / 8) 0#64 >>> (8 * (i % 8))).setWidth 8
def lstP (r:List (BitVec 64)) (i:Nat):BitVec 8:=if i < 4 then (v4 4).l.getD i 0#8 else byR r (i - 4)
def blkZ {α:Type} (P:Nat → BitVec 8):Nat → (H8 → α) → α
 | 0,k=>k (hI 4)
 | n + 1,k=>blkZ P n fun h=>fz8 (b2 h (BitVec.ofNat 64 (128 * (n + 1))) 0#64 0#64 (zwV fun i=>P (128 * n + i))) k
theorem blkZ_eq {α:Type} (P:Nat → BitVec 8):∀ (n:Nat) (k:H8 → α),blkZ P n k = k (allF (hI 4) P n)
 | 0,_=>rfl
 | n + 1,k=>by
  show blkZ P n (fun h=>fz8 (b2 h (BitVec.ofNat 64 (128 * (n + 1))) 0#64 0#64 (zwV fun i=>P (128 * n + i))) k) = _
  rw [blkZ_eq P n,fz8_eq]
  rfl
def lstF (h:H8) (P:Nat → BitVec 8) (N k:Nat):H8:=b2 h (BitVec.ofNat 64 N) 0#64 flagF (zwV fun i=>if i < N - 128 * k then P (128 * k + i) else 0#8)
def keyC (a b:H8):BitVec 8:=byF (finF (hI 4) (lstP ((allC (rowC 30 a) (rowC 30 b)).getD 7 Zr)) 1028) 0
def keyZ (a b:H8):BitVec 64:=
 fz8 a fun a=>fz8 b fun b=>rowZ 30 a fun r0=>rowZ 30 b fun r1=>allZ r0 r1 fun R=>blkZ (lstP (R.getD 7 Zr)) 8 fun h=>
 fz8 (lstF h (lstP (R.getD 7 Zr)) 1028 8) fun h=>h.x0
theorem keyZ_eq (a b:H8):(keyZ a b).setWidth 8 = keyC a b:=by
 unfold keyZ keyC
 simp only [fz8_eq,rowZ_eq,allZ_eq,blkZ_eq]
 rfl
end
section
open Go.Eng
variable [RowAddr] [Co] [SeatCo]
theorem lw8_by (x:BitVec 64):lw8 ((x >>> 0).setWidth 8) ((x >>> 8).setWidth 8) ((x >>> 16).setWidth 8) ((x >>> 24).setWidth 8) ((x >>> 32).setWidth 8) ((x >>> 40).setWidth 8) ((x >>> 48).setWidth 8) ((x >>> 56).setWidth 8) = x:=by
 refine BitVec.eq_of_getLsbD_eq fun i hi=>?_
 unfold lw8
 simp only [BitVec.getLsbD_or,BitVec.getLsbD_setWidth,BitVec.getLsbD_shiftLeft,BitVec.getLsbD_ushiftRight]
 by_cases h1:i < 8
 ·simp [h1,show i < 64 by omega,show i < 16 by omega,show i < 24 by omega,show i < 32 by omega,show i < 40 by omega,show i < 48 by omega,show i < 56 by omega]
 by_cases h2:i < 16
 ·simp [h1,h2,show i < 64 by omega,show i < 24 by omega,show i < 32 by omega,show i < 40 by omega,show i < 48 by omega,show i < 56 by omega,show i - 8 < 8 by omega,show i - 8 < 64 by omega,show 8 + (i - 8) = i by omega]
 by_cases h3:i < 24
 ·simp [h1,h2,h3,show i < 64 by omega,show i < 32 by omega,show i < 40 by omega,show i < 48 by omega,show i < 56 by omega,show ¬ i - 8 < 8 by omega,show i - 16 < 8 by omega,show i - 16 < 64 by omega,show 16 + (i - 16) = i by omega]
 by_cases h4:i < 32
 ·simp [h1,h2,h3,h4,show i < 64 by omega,show i < 40 by omega,show i < 48 by omega,show i < 56 by omega,show ¬ i - 8 < 8 by omega,show ¬ i - 16 < 8 by omega,show i - 24 < 8 by omega,show i - 24 < 64 by omega,show 24 + (i - 24) = i by omega]
 by_cases h5:i < 40
 ·simp [h1,h2,h3,h4,h5,show i < 64 by omega,show i < 48 by omega,show i < 56 by omega,show ¬ i - 8 < 8 by omega,show ¬ i - 16 < 8 by omega,show ¬ i - 24 < 8 by omega,show i - 32 < 8 by omega,show i - 32 < 64 by omega,show 32 + (i - 32) = i by omega]
 by_cases h6:i < 48
 ·simp [h1,h2,h3,h4,h5,h6,show i < 64 by omega,show i < 56 by omega,show ¬ i - 8 < 8 by omega,show ¬ i - 16 < 8 by omega,show ¬ i - 24 < 8 by omega,show ¬ i - 32 < 8 by omega,show i - 40 < 8 by omega,show i - 40 < 64 by omega,show 40 + (i - 40) = i by omega]
 by_cases h7:i < 56
 ·simp [h1,h2,h3,h4,h5,h6,h7,show i < 64 by omega,show ¬ i - 8 < 8 by omega,show ¬ i - 16 < 8 by omega,show ¬ i - 24 < 8 by omega,show ¬ i - 32 < 8 by omega,show ¬ i - 40 < 8 by omega,show i - 48 < 8 by omega,show i - 48 < 64 by omega,show 48 + (i - 48) = i by omega]
 ·simp [h1,h2,h3,h4,h5,h6,h7,hi,show ¬ i - 8 < 8 by omega,show ¬ i - 16 < 8 by omega,show ¬ i - 24 < 8 by omega,show ¬ i - 32 < 8 by omega,show ¬ i - 40 < 8 by omega,show ¬ i - 48 < 8 by omega,show i - 56 < 8 by omega,show i - 56 < 64 by omega,show 56 + (i - 56) = i by omega]
theorem gmr {α:Type} (f:Nat → α) (n i:Nat) (d:α) (h:i < n):((List.range n).map f).getD i d = f i:=by
 simp [List.getD_eq_getElem?_getD,h]
def wd (h:H8) (j:Nat):BitVec 64:=(hv8 h).l.getD j 0#64
theorem byF_wd (h:H8) (i:Nat) (hi:i < 64):byF h i = (wd h (i / 8) >>> (8 * (i % 8))).setWidth 8:=by
 have e:(List.range 64).map (byF h) = (List.range 64).map fun i=>(wd h (i / 8) >>> (8 * (i % 8))).setWidth 8:=rfl
 have a:=gmr (byF h) 64 i 0#8 hi
 rw [e,gmr _ _ _ _ hi] at a
 exact a.symm
theorem nx_eq (h:H8):finF (hI 64) (byF h) 64 = nxC h:=by
 have e:(zwV fun i=>if i < 64 - 128 * fl 64 then byF h (128 * fl 64 + i) else 0#8) = hv8 h:=by
  show Vec.of [_,_,_,_,_,_,_,_,_,_,_,_,_,_,_,_] = Vec.of _
  congr 1
  exact congr (congrArg List.cons (lw8_by h.x0)) (congr (congrArg List.cons (lw8_by h.x1)) (congr (congrArg List.cons (lw8_by h.x2)) (congr (congrArg List.cons (lw8_by h.x3)) (congr (congrArg List.cons (lw8_by h.x4)) (congr (congrArg List.cons (lw8_by h.x5)) (congr (congrArg List.cons (lw8_by h.x6)) (congr (congrArg List.cons (lw8_by h.x7)) (by kernel_rfl))))))))
 unfold finF nxC
 rw [e]
 rfl
theorem bF_ch (np:Nat) (w:Vec 8) (oi ni:Nat):∀ k,bF np w oi ni k = byF (iter nxC k (finF (hI 64) (P0 np w oi) (4 + ni)))
 | 0=>rfl
 | k + 1=>by
  rw [iter_succ]
  show byF (finF (hI 64) (bF np w oi ni k) 64) = _
  rw [bF_ch np w oi ni k,nx_eq]
theorem row0_get (c:H8) (j:Nat) (h:j < 8):(rowC 0 c).getD j 0#64 = wd c j:=by
 have e:(List.range 8).map (fun j=>(rowC 0 c).getD j 0#64) = (List.range 8).map (wd c):=rfl
 have a:=gmr (fun j=>(rowC 0 c).getD j 0#64) 8 j 0#64 h
 rw [e,gmr _ _ _ _ h] at a
 exact a.symm
theorem row4_get (n:Nat) (c:H8) (j:Nat) (h:j < 4):(rowC (n + 1) c).getD j 0#64 = wd c j:=by
 have e:(List.range 4).map (fun j=>(rowC (n + 1) c).getD j 0#64) = (List.range 4).map (wd c):=rfl
 have a:=gmr (fun j=>(rowC (n + 1) c).getD j 0#64) 4 j 0#64 h
 rw [e,gmr _ _ _ _ h] at a
 exact a.symm
theorem iter_one {D:Type} (f:D → D) (n:Nat) (d:D):iter f (n + 1) d = iter f n (f d):=rfl
theorem iter_nil {D:Type} (f:D → D) (d:D):iter f 0 d = d:=rfl
theorem row_cons (n:Nat) (c:H8):rowC (n + 1) c = c.x0 :: c.x1 :: c.x2 :: c.x3 :: rowC n (nxC c):=rfl
theorem getD4 {α:Type} (a b c d:α) (l:List α) (j:Nat) (x:α):(a :: b :: c :: d :: l).getD (j + 4) x = l.getD j x:=rfl
theorem rowC_get (n:Nat):∀ (c:H8) (j:Nat),j < 4 * n + 8 → (rowC n c).getD j 0#64 = wd (iter nxC (min (j / 4) n) c) (j - 4 * min (j / 4) n):=by
 induction n with
 | zero=>
  intro c j h
  rw [Nat.min_zero,Nat.mul_zero,Nat.sub_zero,row0_get c j (by omega),iter_nil]
 | succ n ih=>
  intro c j h
  by_cases h4:j < 4
  ·rw [row4_get n c j h4,show min (j / 4) (n + 1) = 0 by omega,Nat.mul_zero,Nat.sub_zero,iter_nil]
  ·obtain ⟨j,rfl⟩:∃ k,j = k + 4:=⟨j - 4,by omega⟩
   rw [row_cons,getD4,ih (nxC c) j (by omega),show min ((j + 4) / 4) (n + 1) = min (j / 4) n + 1 by omega,show j + 4 - 4 * (min (j / 4) n + 1) = j - 4 * min (j / 4) n by omega,iter_one]
theorem rowC_len:∀ (n:Nat) (c:H8),(rowC n c).length = 4 * n + 8
 | 0,_=>rfl
 | n + 1,c=>by
  show (rowC n (nxC c)).length + 1 + 1 + 1 + 1 = _
  rw [rowC_len n]
  omega
theorem hash_row (v w:Vec 8) (hv:v.n = 1024) (hw:72 ≤ w.n) (i:Nat) (hi:i < 1024):(hashV v w 0 1024 1024 0 72).l.getD i 0#8 = byR (rowC 30 (finF (hI 64) (P0 1024 w 0) (4 + 72))) i:=by
 have ew:byR (rowC 30 (finF (hI 64) (P0 1024 w 0) (4 + 72))) i = bF 1024 w 0 72 (min (i / 32) 30) (i - 32 * min (i / 32) 30):=by
  unfold byR
  rw [rowC_get 30 _ _ (by omega),bF_ch,byF_wd _ _ (by omega),show i / 8 / 4 = i / 32 by omega,show (i - 32 * min (i / 32) 30) / 8 = i / 8 - 4 * min (i / 32) 30 by omega,show (i - 32 * min (i / 32) 30) % 8 = i % 8 by omega]
 rw [ew]
 unfold hashV
 rw [if_neg (by omega)]
 obtain ⟨hb,hvv⟩:=l_bytes v w 0 1024 1024 0 72 (by omega) (by omega) (by omega) (by omega) (by omega) 29 (by omega)
 have L:=l_inv v w 0 1024 1024 0 72 29
 have elz:lz v w 0 1024 1024 0 72 = iter kH_next 29 (l0 v w 0 1024 1024 0 72):=rfl
 rw [elz]
 generalize iter kH_next 29 (l0 v w 0 1024 1024 0 72) = D at hb hvv L
 obtain ⟨v',w',b,h',c0,sz,xb,nx,kb,o',np',cp',N⟩:=D
 obtain ⟨q1,q2,q3,q4,q5,q6,q7,q8,q9,q10,q11⟩:=L
 simp only at q1 q2 q3 q4 q5 q6 q7 q8 q9 q10 q11 hb hvv
 subst q4 q5 q6 q7 q11
 show (if 0 < ((1024:Nat):Int).tmod 64 then _ else _:Vec 8).l.getD i 0#8 = _
 rw [if_neg (by decide)]
 show (sumV (sumD (wrD ⟨hI 64,0#64,xb,0⟩ b 0 64)) v' o' 64).l.getD i 0#8 = _
 rw [sumV_get _ _ _ _ _ (by omega) (by omega) (by omega) (by omega),next_eq 64 xb b _ q2 hb]
 by_cases h:i < 960
 ·have a:=hvv i (by omega)
  rw [Nat.zero_add] at a
  rw [if_neg (by omega),a,show min (i / 32) 30 = i / 32 by omega,show i - 32 * (i / 32) = i % 32 by omega]
 ·rw [if_pos (by omega),show min (i / 32) 30 = 30 by omega,show o' = 960 by omega]
  rfl
end
section
open Go.Eng
variable [RowAddr] [Co] [SeatCo]
structure c108nD where
 h:H8
 c0:BitVec 64
 c1:BitVec 64
 sz:Int
 xb:Vec 8
 nx:Int
 kb:Vec 8
def c108n_rd (a:List AV) (K:List Blk):Option c108nD:=
 match a with
 | [(.ref (.ptr 0 (.c 0))),(.atom .nils)]=>
  match K with
  | [⟨(.gen ((.num (.w64 h0)) :: (.num (.w64 h1)) :: (.num (.w64 h2)) :: (.num (.w64 h3)) :: (.num (.w64 h4)) :: (.num (.w64 h5)) :: (.num (.w64 h6)) :: (.num (.w64 h7)) :: (.num (.w64 c0)) :: (.num (.w64 c1)) :: (.num (.int .i64 (.s sz))) :: ys_xb)),.own⟩]=>
   (match rd8 128 (ys_xb.take 128),ys_xb.drop 128 with
   | some xb,((.num (.int .i64 (.s nx))) :: ys_kb)=>
   (match rd8 128 (ys_kb.take 128),ys_kb.drop 128 with
   | some kb,[(.num (.int .i64 (.c 0)))]=>some ⟨⟨h0,h1,h2,h3,h4,h5,h6,h7⟩,c0,c1,sz,xb,nx,kb⟩
   | _,_=>none)
   | _,_=>none)
  | _=>none
 | _=>none
def c108n:Ct c108nD where
 pat:=[(.ptr 0 (.c 0)),(.atom .nils)]
 patH:=[⟨(.gen ([(.w64 0#64),(.w64 0#64),(.w64 0#64),(.w64 0#64),(.w64 0#64),(.w64 0#64),(.w64 0#64),(.w64 0#64),(.w64 0#64),(.w64 0#64),(.int .i64 (.s 0))] ++ List.replicate 128 (.w8 0#8) ++ ([(.int .i64 (.s 0))] ++ List.replicate 128 (.w8 0#8) ++ [(.int .i64 (.c 0))]))),.own⟩]
 read:=c108n_rd
 args:=fun ⟨_,_,_,_,_,_,_⟩=>[(.ptr 0 (.c 0)),(.atom .nils)]
 heap:=fun ⟨h,c0,c1,sz,xb,nx,kb⟩=>[⟨(.gen ([(.w64 h.x0),(.w64 h.x1),(.w64 h.x2),(.w64 h.x3),(.w64 h.x4),(.w64 h.x5),(.w64 h.x6),(.w64 h.x7),(.w64 c0),(.w64 c1),(.int .i64 (.s sz))] ++ c8v xb 128 ++ ([(.int .i64 (.s nx))] ++ c8v kb 128 ++ [(.int .i64 (.c 0))]))),.own⟩]
 out:=fun ⟨h,c0,c1,sz,xb,nx,kb⟩=>[⟨(.gen (dgc h c0 c1 sz xb (nx + 0) kb)),.own⟩]
 val:=fun ⟨_,_,_,_,_,_,_⟩=>(.obj .tup [(.int .i64 (.c 0)),(.atom .nili)])
 good:=fun ⟨_,_,_,_,_,nx,_⟩=>decide (0 ≤ nx ∧ nx ≤ 128)
set_option maxRecDepth 100000 in
theorem c108n_read (a:List AV) (K:List Blk) (d:c108nD) (h:c108n.read a K = some d):a = c108n.args d ∧ K = c108n.heap d:=by
 replace h:c108n_rd a K = some d:=h
 unfold c108n_rd at h
 split at h
 case h_2=>cases h
 split at h
 case h_2=>cases h
 split at h
 case h_2=>cases h
 rename_i hr hd
 obtain ⟨he,_⟩:=rd8_eq hr
 have ht:=(List.take_append_drop 128 _).symm.trans (congr (congrArg HAppend.hAppend he) hd)
 subst ht
 split at h
 case h_2=>cases h
 rename_i hr hd
 obtain ⟨he,_⟩:=rd8_eq hr
 have ht:=(List.take_append_drop 128 _).symm.trans (congr (congrArg HAppend.hAppend he) hd)
 subst ht
 injection h with h;subst h
 exact ⟨rfl,rfl⟩
theorem n1 (h:H8) (c0 c1:BitVec 64) (sz:Int) (xb:Vec 8) (nx:Int) (kb:Vec 8):endsAs (c108n.heap ⟨h,c0,c1,sz,xb,nx,kb⟩).length (some [0]) [⟨.gen (dgc h c0 c1 sz xb (nx + 0) kb),.own⟩] (.obj .tup [.num (.int .i64 (.c 0)),.atom .nili]) (goB noSpec noLoop 108 (c108n.args ⟨h,c0,c1,sz,xb,nx,kb⟩) ⟨c108n.heap ⟨h,c0,c1,sz,xb,nx,kb⟩,big,[true,true],[]⟩) = some ([⟨.gen (dgc h c0 c1 sz xb (nx + 0) kb),.own⟩],(.obj .tup [.num (.int .i64 (.c 0)),.atom .nili]),[decide ((((-9223372036854775808):Int) ≤ (nx + (((Nat.min 0 ((128:Nat) - ((nx):Int).toNat)):Nat):Int)) ∧ (nx + (((Nat.min 0 ((128:Nat) - ((nx):Int).toNat)):Nat):Int)) ≤ 9223372036854775807)),decide (((11:Nat) ≤ (11 + (((nx):Int).toNat * 1)) ∧ ((11 + (((nx):Int).toNat * 1)) + 0) ≤ 139)),((decide ((0:Int) ≤ nx) && decide (nx ≤ ((128:Nat):Int))) && true),(decide ((0:Int) ≤ (128 - nx)) == true),decide ((((-9223372036854775808):Int) ≤ (128 - nx) ∧ (128 - nx) ≤ 9223372036854775807)),(decide ((0:Int) < nx) == true)]):=by kernel_rfl
theorem n0 (h:H8) (c0 c1:BitVec 64) (sz:Int) (xb:Vec 8) (nx:Int) (kb:Vec 8):endsAs (c108n.heap ⟨h,c0,c1,sz,xb,nx,kb⟩).length (some [0]) [⟨.gen (dgc h c0 c1 sz xb nx kb),.own⟩] (.obj .tup [.num (.int .i64 (.c 0)),.atom .nili]) (goB noSpec noLoop 108 (c108n.args ⟨h,c0,c1,sz,xb,nx,kb⟩) ⟨c108n.heap ⟨h,c0,c1,sz,xb,nx,kb⟩,big,[false],[]⟩) = some ([⟨.gen (dgc h c0 c1 sz xb nx kb),.own⟩],(.obj .tup [.num (.int .i64 (.c 0)),.atom .nili]),[(decide ((0:Int) < nx) == false)]):=by kernel_rfl
theorem c108n_ok:SpecOk Tryd.prog noGlob 108 c108n.spec:=by
 refine c108n.ok (goB_ok no_specs (no_loops _)) c108n_read ?_
 rintro ⟨h,c0,c1,sz,xb,nx,kb⟩ hg
 have hg:0 ≤ nx ∧ nx ≤ 128:=of_decide_eq_true hg
 have hmin:∀ a b:Nat,Nat.min a b = min a b:=fun _ _=>rfl
 by_cases h1:0 < nx
 ·refine ⟨[true,true],some [0],_,n1 h c0 c1 sz xb nx kb,?_⟩
  repeat' (refine all_true_cons ?_ ?_)
  all_goals first | exact all_true_nil | (simp only [bq,hmin,Nat.zero_min] <;> omega)
 ·have eo:c108n.out ⟨h,c0,c1,sz,xb,nx,kb⟩ = ([⟨.gen (dgc h c0 c1 sz xb nx kb),.own⟩]:List Blk):=by
   show ([⟨.gen (dgc h c0 c1 sz xb (nx + 0) kb),.own⟩]:List Blk) = _
   rw [Int.add_zero]
  rw [eo]
  refine ⟨[false],some [0],_,n0 h c0 c1 sz xb nx kb,?_⟩
  repeat' (refine all_true_cons ?_ ?_)
  all_goals first | exact all_true_nil | (simp only [beq_iff_eq,beq_false,Bool.not_eq_true',decide_eq_false_iff_not] <;> omega)
end
section
open Go.Eng
variable [RowAddr] [Co] [SeatCo]
def sp108:Eng.Spec:=orSpec c108.spec c108n.spec
theorem sp108_ok:SpecOk Tryd.prog noGlob 108 sp108:=SpecOk.or c108_ok c108n_ok
def specs29:FuncId → Option Eng.Spec
 | 38=>some c38.spec
 | 108=>some sp108
 | 107=>some c107.spec
 | _=>none
theorem specs29_ok:∀ f sp,specs29 f = some sp → SpecOk Tryd.prog noGlob f sp:=by
 intro f sp h
 unfold specs29 at h
 split at h
 ·injection h with h;subst h;exact c38_ok
 ·injection h with h;subst h;exact sp108_ok
 ·injection h with h;subst h;exact c107_ok
 ·cases h
def par24 (t m p k mo:BitVec 32):Vec 8:=Vec.of [(p >>> 0).setWidth 8,(p >>> 8).setWidth 8,(p >>> 16).setWidth 8,(p >>> 24).setWidth 8,(k >>> 0).setWidth 8,(k >>> 8).setWidth 8,(k >>> 16).setWidth 8,(k >>> 24).setWidth 8,(m >>> 0).setWidth 8,(m >>> 8).setWidth 8,(m >>> 16).setWidth 8,(m >>> 24).setWidth 8,(t >>> 0).setWidth 8,(t >>> 8).setWidth 8,(t >>> 16).setWidth 8,(t >>> 24).setWidth 8,19#8,0#8,0#8,0#8,(mo >>> 0).setWidth 8,(mo >>> 8).setWidth 8,(mo >>> 16).setWidth 8,(mo >>> 24).setWidth 8]
def len4 (n:Nat):Vec 8:=Vec.of [((BitVec.ofInt 32 ((n:Nat):Int)) >>> 0).setWidth 8,((BitVec.ofInt 32 ((n:Nat):Int)) >>> 8).setWidth 8,((BitVec.ofInt 32 ((n:Nat):Int)) >>> 16).setWidth 8,((BitVec.ofInt 32 ((n:Nat):Int)) >>> 24).setWidth 8]
def addL (d:Dg) (v:Vec 8) (o n:Nat):Dg:=wrD (wrD d (len4 n) 0 4) v o n
def nilD (d:Dg):Dg:=⟨eta d.h,d.c,cpx d.x,d.n + 0⟩
def addN (d:Dg):Dg:=nilD (wrD d (Vec.of [0#8,0#8,0#8,0#8]) 0 4)
def Z72:Vec 8:=Vec.of (List.replicate 72 0#8)
def begP (t m p k:BitVec 32) (mo:Int):Dg:=wrD (newD 64 Z128) (par24 t m p k (BitVec.ofInt 32 mo)) 0 24
def begD (a b c e:Vec 8) (oa na ob nb oc nc oe ne:Nat) (t m p k:BitVec 32) (mo:Int):Dg:=addL (addL (addL (addL (begP t m p k mo) a oa na) b ob nb) c oc nc) e oe ne
def begN (a b:Vec 8) (oa na ob nb:Nat) (t m p k:BitVec 32) (mo:Int):Dg:=addN (addN (addL (addL (begP t m p k mo) a oa na) b ob nb))
def begV (d:Dg):Vec 8:=sumV (sumD d) Z72 0 64
theorem cA_le (c:BitVec 64):∀ (k:Nat),c.toNat + 128 * k < 1152921504606847232 → (cA c k).toNat = c.toNat + 128 * k
 | 0,_=>rfl
 | k + 1,h=>by
  have:=cA_le c k (by omega)
  show (cA c k + 128#64).toNat = _
  rw [BitVec.toNat_add,show (128#64).toNat = 128 from rfl]
  omega
theorem wrC_le (c:BitVec 64) (nx:Int) (np:Nat) (h0:0 ≤ nx) (h:c.toNat + np + 256 ≤ 1152921504606846976):(wrC c nx np).toNat ≤ c.toNat + np + 128:=by
 have e128:(128#64).toNat = 128:=rfl
 have ec:(c + 128#64).toNat = c.toNat + 128:=by have:=c.isLt;rw [BitVec.toNat_add,e128];omega
 have f1:128 * fl np ≤ np:=by unfold fl;omega
 have f2:128 * fl (np - (128 - nx).toNat) ≤ np:=by unfold fl;omega
 unfold wrC
 split
 ·split
  ·omega
  ·rw [cA_le _ _ (by rw [ec];omega),ec];omega
 ·rw [cA_le _ _ (by omega)];omega
theorem wr_ok {c:BitVec 64} {nx:Int} (K:Nat) (h:(0 ≤ nx ∧ nx ≤ 128) ∧ c.toNat ≤ K) (np:Nat) (hK:K + np + 256 ≤ 1152921504606846976):(0 ≤ wrN nx np ∧ wrN nx np ≤ 128) ∧ (wrC c nx np).toNat ≤ K + np + 128:=by
 refine ⟨wrN_le nx np h.1.1 h.1.2,?_⟩
 have:=wrC_le c nx np h.1.1 (by omega)
 omega
theorem wr_nil {c:BitVec 64} {nx:Int} {K:Nat} (h:(0 ≤ nx ∧ nx ≤ 128) ∧ c.toNat ≤ K):(0 ≤ nx + 0 ∧ nx + 0 ≤ 128) ∧ c.toNat ≤ K:=by rw [Int.add_zero];exact h
theorem condW {c:BitVec 64} {nx:Int} {K o np n:Nat} (h:(0 ≤ nx ∧ nx ≤ 128) ∧ c.toNat ≤ K) (ho:o + np ≤ n) (hn:np ≤ 1000000) (hK:K ≤ 100000000):decide (0 ≤ nx ∧ nx ≤ 128 ∧ o + np ≤ n ∧ np ≤ 1099511627776 ∧ c.toNat + np + 256 ≤ 1152921504606846976) = true:=
 decide_eq_true ⟨h.1.1,h.1.2,ho,by omega,by omega⟩
structure c29D where
 a:Vec 8
 b:Vec 8
 c:Vec 8
 e:Vec 8
 oa:Nat
 na:Nat
 ob:Nat
 nb:Nat
 oc:Nat
 nc:Nat
 oe:Nat
 ne:Nat
 t:BitVec 32
 m:BitVec 32
 p:BitVec 32
 k:BitVec 32
 mo:Int
def c29_rd (a:List AV) (K:List Blk):Option c29D:=
 match a with
 | [(.ref (.sl 0 (.s oa) (.s na) none)),(.ref (.sl 1 (.s ob) (.s nb) none)),(.ref (.sl 2 (.s oc) (.s nc) none)),(.ref (.sl 3 (.s oe) (.s ne) none)),(.num (.w32 t)),(.num (.w32 m)),(.num (.w32 p)),(.num (.w32 k)),(.num (.int .i64 (.s mo)))]=>
  match K with
  | [⟨(.b8 a),.ro⟩,⟨(.b8 b),.ro⟩,⟨(.b8 c),.ro⟩,⟨(.b8 e),.ro⟩]=>some ⟨a,b,c,e,oa,na,ob,nb,oc,nc,oe,ne,t,m,p,k,mo⟩
  | _=>none
 | _=>none
def c29:Ct c29D where
 pat:=[(.sl 0 (.s 0) (.s 0) none),(.sl 1 (.s 0) (.s 0) none),(.sl 2 (.s 0) (.s 0) none),(.sl 3 (.s 0) (.s 0) none),(.w32 0#32),(.w32 0#32),(.w32 0#32),(.w32 0#32),(.int .i64 (.s 0))]
 patH:=[⟨(.b8 (Vec.zero 8 0)),.ro⟩,⟨(.b8 (Vec.zero 8 0)),.ro⟩,⟨(.b8 (Vec.zero 8 0)),.ro⟩,⟨(.b8 (Vec.zero 8 0)),.ro⟩]
 read:=c29_rd
 args:=fun ⟨_,_,_,_,oa,na,ob,nb,oc,nc,oe,ne,t,m,p,k,mo⟩=>[(.sl 0 (.s oa) (.s na) none),(.sl 1 (.s ob) (.s nb) none),(.sl 2 (.s oc) (.s nc) none),(.sl 3 (.s oe) (.s ne) none),(.w32 t),(.w32 m),(.w32 p),(.w32 k),(.int .i64 (.s mo))]
 heap:=fun ⟨a,b,c,e,_,_,_,_,_,_,_,_,_,_,_,_,_⟩=>[⟨(.b8 a),.ro⟩,⟨(.b8 b),.ro⟩,⟨(.b8 c),.ro⟩,⟨(.b8 e),.ro⟩]
 out:=fun ⟨a,b,c,e,_,_,_,_,_,_,_,_,_,_,_,_,_⟩=>[⟨(.b8 a),.ro⟩,⟨(.b8 b),.ro⟩,⟨(.b8 c),.ro⟩,⟨(.b8 e),.ro⟩]
 val:=fun ⟨a,b,c,e,oa,na,ob,nb,oc,nc,oe,ne,t,m,p,k,mo⟩=>(.agg (c8v (begV (begD a b c e oa na ob nb oc nc oe ne t m p k mo)) 72))
 good:=fun ⟨a,b,c,e,oa,na,ob,nb,oc,nc,oe,ne,_,_,_,_,_⟩=>decide (oa + na ≤ a.n ∧ na ≤ 1000000 ∧ ob + nb ≤ b.n ∧ nb ≤ 1000000 ∧ oc + nc ≤ c.n ∧ nc ≤ 1000000 ∧ oe + ne ≤ e.n ∧ ne ≤ 1000000)
theorem c29_run (a b c e:Vec 8) (oa na ob nb oc nc oe ne:Nat) (t m p k:BitVec 32) (mo:Int):endsAs (c29.heap ⟨a,b,c,e,oa,na,ob,nb,oc,nc,oe,ne,t,m,p,k,mo⟩).length (some [0,1,2,3]) (c29.out ⟨a,b,c,e,oa,na,ob,nb,oc,nc,oe,ne,t,m,p,k,mo⟩) (c29.val ⟨a,b,c,e,oa,na,ob,nb,oc,nc,oe,ne,t,m,p,k,mo⟩) (goB specs29 noLoop 29 (c29.args ⟨a,b,c,e,oa,na,ob,nb,oc,nc,oe,ne,t,m,p,k,mo⟩) ⟨c29.heap ⟨a,b,c,e,oa,na,ob,nb,oc,nc,oe,ne,t,m,p,k,mo⟩,big,[],[]⟩) = some ((c29.out ⟨a,b,c,e,oa,na,ob,nb,oc,nc,oe,ne,t,m,p,k,mo⟩),(c29.val ⟨a,b,c,e,oa,na,ob,nb,oc,nc,oe,ne,t,m,p,k,mo⟩),[decide ((72:Nat) ≤ 72),decide (((0:Int) ≤ (wrN (wrN (wrN (wrN (wrN (wrN (wrN (wrN (wrN 0 (24:Nat)) (4:Nat)) na) (4:Nat)) nb) (4:Nat)) nc) (4:Nat)) ne) ∧ ((wrN (wrN (wrN (wrN (wrN (wrN (wrN (wrN (wrN 0 (24:Nat)) (4:Nat)) na) (4:Nat)) nb) (4:Nat)) nc) (4:Nat)) ne) ≤ 128 ∧ ((1:Int) ≤ 64 ∧ ((64:Int) ≤ 64 ∧ ((64:Nat) ≤ (72 - (0:Nat)) ∧ (((0 + ((0:Nat) * 1)) + (72 - (0:Nat))) ≤ 72 ∧ (72 - (0:Nat)) ≤ 1099511627776))))))),decide (((0:Int) ≤ (wrN (wrN (wrN (wrN (wrN (wrN (wrN (wrN 0 (24:Nat)) (4:Nat)) na) (4:Nat)) nb) (4:Nat)) nc) (4:Nat)) ∧ ((wrN (wrN (wrN (wrN (wrN (wrN (wrN (wrN 0 (24:Nat)) (4:Nat)) na) (4:Nat)) nb) (4:Nat)) nc) (4:Nat)) ≤ 128 ∧ ((oe + ne) ≤ e.n ∧ (ne ≤ 1099511627776 ∧ ((((wrC (wrC (wrC (wrC (wrC (wrC (wrC (wrC (0#64) 0 (24:Nat)) (wrN 0 (24:Nat)) (4:Nat)) (wrN (wrN 0 (24:Nat)) (4:Nat)) na) (wrN (wrN (wrN 0 (24:Nat)) (4:Nat)) na) (4:Nat)) (wrN (wrN (wrN (wrN 0 (24:Nat)) (4:Nat)) na) (4:Nat)) nb) (wrN (wrN (wrN (wrN (wrN 0 (24:Nat)) (4:Nat)) na) (4:Nat)) nb) (4:Nat)) (wrN (wrN (wrN (wrN (wrN (wrN 0 (24:Nat)) (4:Nat)) na) (4:Nat)) nb) (4:Nat)) nc) (wrN (wrN (wrN (wrN (wrN (wrN (wrN 0 (24:Nat)) (4:Nat)) na) (4:Nat)) nb) (4:Nat)) nc) (4:Nat))).toNat + ne) + 256) ≤ 1152921504606846976))))),decide (((0:Int) ≤ (wrN (wrN (wrN (wrN (wrN (wrN (wrN 0 (24:Nat)) (4:Nat)) na) (4:Nat)) nb) (4:Nat)) nc) ∧ ((wrN (wrN (wrN (wrN (wrN (wrN (wrN 0 (24:Nat)) (4:Nat)) na) (4:Nat)) nb) (4:Nat)) nc) ≤ 128 ∧ (((0 + ((0:Nat) * 1)) + (4:Nat)) ≤ 4 ∧ ((4:Nat) ≤ 1099511627776 ∧ ((((wrC (wrC (wrC (wrC (wrC (wrC (wrC (0#64) 0 (24:Nat)) (wrN 0 (24:Nat)) (4:Nat)) (wrN (wrN 0 (24:Nat)) (4:Nat)) na) (wrN (wrN (wrN 0 (24:Nat)) (4:Nat)) na) (4:Nat)) (wrN (wrN (wrN (wrN 0 (24:Nat)) (4:Nat)) na) (4:Nat)) nb) (wrN (wrN (wrN (wrN (wrN 0 (24:Nat)) (4:Nat)) na) (4:Nat)) nb) (4:Nat)) (wrN (wrN (wrN (wrN (wrN (wrN 0 (24:Nat)) (4:Nat)) na) (4:Nat)) nb) (4:Nat)) nc)).toNat + (4:Nat)) + 256) ≤ 1152921504606846976))))),decide (((0:Int) ≤ (wrN (wrN (wrN (wrN (wrN (wrN 0 (24:Nat)) (4:Nat)) na) (4:Nat)) nb) (4:Nat)) ∧ ((wrN (wrN (wrN (wrN (wrN (wrN 0 (24:Nat)) (4:Nat)) na) (4:Nat)) nb) (4:Nat)) ≤ 128 ∧ ((oc + nc) ≤ c.n ∧ (nc ≤ 1099511627776 ∧ ((((wrC (wrC (wrC (wrC (wrC (wrC (0#64) 0 (24:Nat)) (wrN 0 (24:Nat)) (4:Nat)) (wrN (wrN 0 (24:Nat)) (4:Nat)) na) (wrN (wrN (wrN 0 (24:Nat)) (4:Nat)) na) (4:Nat)) (wrN (wrN (wrN (wrN 0 (24:Nat)) (4:Nat)) na) (4:Nat)) nb) (wrN (wrN (wrN (wrN (wrN 0 (24:Nat)) (4:Nat)) na) (4:Nat)) nb) (4:Nat))).toNat + nc) + 256) ≤ 1152921504606846976))))),decide (((0:Int) ≤ (wrN (wrN (wrN (wrN (wrN 0 (24:Nat)) (4:Nat)) na) (4:Nat)) nb) ∧ ((wrN (wrN (wrN (wrN (wrN 0 (24:Nat)) (4:Nat)) na) (4:Nat)) nb) ≤ 128 ∧ (((0 + ((0:Nat) * 1)) + (4:Nat)) ≤ 4 ∧ ((4:Nat) ≤ 1099511627776 ∧ ((((wrC (wrC (wrC (wrC (wrC (0#64) 0 (24:Nat)) (wrN 0 (24:Nat)) (4:Nat)) (wrN (wrN 0 (24:Nat)) (4:Nat)) na) (wrN (wrN (wrN 0 (24:Nat)) (4:Nat)) na) (4:Nat)) (wrN (wrN (wrN (wrN 0 (24:Nat)) (4:Nat)) na) (4:Nat)) nb)).toNat + (4:Nat)) + 256) ≤ 1152921504606846976))))),decide (((0:Int) ≤ (wrN (wrN (wrN (wrN 0 (24:Nat)) (4:Nat)) na) (4:Nat)) ∧ ((wrN (wrN (wrN (wrN 0 (24:Nat)) (4:Nat)) na) (4:Nat)) ≤ 128 ∧ ((ob + nb) ≤ b.n ∧ (nb ≤ 1099511627776 ∧ ((((wrC (wrC (wrC (wrC (0#64) 0 (24:Nat)) (wrN 0 (24:Nat)) (4:Nat)) (wrN (wrN 0 (24:Nat)) (4:Nat)) na) (wrN (wrN (wrN 0 (24:Nat)) (4:Nat)) na) (4:Nat))).toNat + nb) + 256) ≤ 1152921504606846976))))),decide (((0:Int) ≤ (wrN (wrN (wrN 0 (24:Nat)) (4:Nat)) na) ∧ ((wrN (wrN (wrN 0 (24:Nat)) (4:Nat)) na) ≤ 128 ∧ (((0 + ((0:Nat) * 1)) + (4:Nat)) ≤ 4 ∧ ((4:Nat) ≤ 1099511627776 ∧ ((((wrC (wrC (wrC (0#64) 0 (24:Nat)) (wrN 0 (24:Nat)) (4:Nat)) (wrN (wrN 0 (24:Nat)) (4:Nat)) na)).toNat + (4:Nat)) + 256) ≤ 1152921504606846976))))),decide (((0:Int) ≤ (wrN (wrN 0 (24:Nat)) (4:Nat)) ∧ ((wrN (wrN 0 (24:Nat)) (4:Nat)) ≤ 128 ∧ ((oa + na) ≤ a.n ∧ (na ≤ 1099511627776 ∧ ((((wrC (wrC (0#64) 0 (24:Nat)) (wrN 0 (24:Nat)) (4:Nat))).toNat + na) + 256) ≤ 1152921504606846976))))),decide (((0:Int) ≤ (wrN 0 (24:Nat)) ∧ ((wrN 0 (24:Nat)) ≤ 128 ∧ (((0 + ((0:Nat) * 1)) + (4:Nat)) ≤ 4 ∧ ((4:Nat) ≤ 1099511627776 ∧ ((((wrC (0#64) 0 (24:Nat))).toNat + (4:Nat)) + 256) ≤ 1152921504606846976))))),decide (((0:Int) ≤ 0 ∧ ((0:Int) ≤ 128 ∧ (((0 + ((0:Nat) * 1)) + (24:Nat)) ≤ 24 ∧ ((24:Nat) ≤ 1099511627776 ∧ ((((0#64)).toNat + (24:Nat)) + 256) ≤ 1152921504606846976))))),decide (((1:Int) ≤ 64 ∧ (64:Int) ≤ 64))]):=by kernel_rfl
set_option maxRecDepth 100000 in
theorem c29_read (a:List AV) (K:List Blk) (d:c29D) (h:c29.read a K = some d):a = c29.args d ∧ K = c29.heap d:=by
 replace h:c29_rd a K = some d:=h
 unfold c29_rd at h
 split at h
 case h_2=>cases h
 split at h
 case h_2=>cases h
 injection h with h;subst h
 exact ⟨rfl,rfl⟩
theorem c29_ok:SpecOk Tryd.prog noGlob 29 c29.spec:=by
 refine c29.ok (goB_ok specs29_ok (no_loops _)) c29_read ?_
 rintro ⟨a,b,c,e,oa,na,ob,nb,oc,nc,oe,ne,t,m,p,k,mo⟩ hg
 have hg:oa + na ≤ a.n ∧ na ≤ 1000000 ∧ ob + nb ≤ b.n ∧ nb ≤ 1000000 ∧ oc + nc ≤ c.n ∧ nc ≤ 1000000 ∧ oe + ne ≤ e.n ∧ ne ≤ 1000000:=of_decide_eq_true hg
 refine ⟨[],(some [0,1,2,3]),_,c29_run a b c e oa na ob nb oc nc oe ne t m p k mo,?_⟩
 have p0:((0:Int) ≤ 0 ∧ (0:Int) ≤ 128) ∧ (0#64).toNat ≤ 0:=⟨⟨by omega,by omega⟩,Nat.le_refl _⟩
 have p1:=wr_ok (0) p0 24 (by omega)
 have p2:=wr_ok (0 + 24 + 128) p1 4 (by omega)
 have p3:=wr_ok (0 + 24 + 128 + 4 + 128) p2 na (by omega)
 have p4:=wr_ok (0 + 24 + 128 + 4 + 128 + na + 128) p3 4 (by omega)
 have p5:=wr_ok (0 + 24 + 128 + 4 + 128 + na + 128 + 4 + 128) p4 nb (by omega)
 have p6:=wr_ok (0 + 24 + 128 + 4 + 128 + na + 128 + 4 + 128 + nb + 128) p5 4 (by omega)
 have p7:=wr_ok (0 + 24 + 128 + 4 + 128 + na + 128 + 4 + 128 + nb + 128 + 4 + 128) p6 nc (by omega)
 have p8:=wr_ok (0 + 24 + 128 + 4 + 128 + na + 128 + 4 + 128 + nb + 128 + 4 + 128 + nc + 128) p7 4 (by omega)
 have p9:=wr_ok (0 + 24 + 128 + 4 + 128 + na + 128 + 4 + 128 + nb + 128 + 4 + 128 + nc + 128 + 4 + 128) p8 ne (by omega)
 exact all_true_cons (rfl) (all_true_cons (decide_eq_true ⟨p9.1.1,p9.1.2,by decide,by decide,by decide,by decide,by decide⟩) (all_true_cons (condW p8 (hg.2.2.2.2.2.2.1) (hg.2.2.2.2.2.2.2) (by omega)) (all_true_cons (condW p7 (by decide) (by decide) (by omega)) (all_true_cons (condW p6 (hg.2.2.2.2.1) (hg.2.2.2.2.2.1) (by omega)) (all_true_cons (condW p5 (by decide) (by decide) (by omega)) (all_true_cons (condW p4 (hg.2.2.1) (hg.2.2.2.1) (by omega)) (all_true_cons (condW p3 (by decide) (by decide) (by omega)) (all_true_cons (condW p2 (hg.1) (hg.2.1) (by omega)) (all_true_cons (condW p1 (by decide) (by decide) (by omega)) (all_true_cons (condW p0 (by decide) (by decide) (by omega)) (all_true_cons (rfl) (all_true_nil))))))))))))
structure c29nD where
 a:Vec 8
 b:Vec 8
 oa:Nat
 na:Nat
 ob:Nat
 nb:Nat
 t:BitVec 32
 m:BitVec 32
 p:BitVec 32
 k:BitVec 32
 mo:Int
def c29n_rd (a:List AV) (K:List Blk):Option c29nD:=
 match a with
 | [(.ref (.sl 0 (.s oa) (.s na) none)),(.ref (.sl 1 (.s ob) (.s nb) none)),(.atom .nils),(.atom .nils),(.num (.w32 t)),(.num (.w32 m)),(.num (.w32 p)),(.num (.w32 k)),(.num (.int .i64 (.s mo)))]=>
  match K with
  | [⟨(.b8 a),.ro⟩,⟨(.b8 b),.ro⟩]=>some ⟨a,b,oa,na,ob,nb,t,m,p,k,mo⟩
  | _=>none
 | _=>none
def c29n:Ct c29nD where
 pat:=[(.sl 0 (.s 0) (.s 0) none),(.sl 1 (.s 0) (.s 0) none),(.atom .nils),(.atom .nils),(.w32 0#32),(.w32 0#32),(.w32 0#32),(.w32 0#32),(.int .i64 (.s 0))]
 patH:=[⟨(.b8 (Vec.zero 8 0)),.ro⟩,⟨(.b8 (Vec.zero 8 0)),.ro⟩]
 read:=c29n_rd
 args:=fun ⟨_,_,oa,na,ob,nb,t,m,p,k,mo⟩=>[(.sl 0 (.s oa) (.s na) none),(.sl 1 (.s ob) (.s nb) none),(.atom .nils),(.atom .nils),(.w32 t),(.w32 m),(.w32 p),(.w32 k),(.int .i64 (.s mo))]
 heap:=fun ⟨a,b,_,_,_,_,_,_,_,_,_⟩=>[⟨(.b8 a),.ro⟩,⟨(.b8 b),.ro⟩]
 out:=fun ⟨a,b,_,_,_,_,_,_,_,_,_⟩=>[⟨(.b8 a),.ro⟩,⟨(.b8 b),.ro⟩]
 val:=fun ⟨a,b,oa,na,ob,nb,t,m,p,k,mo⟩=>(.agg (c8v (begV (begN a b oa na ob nb t m p k mo)) 72))
 good:=fun ⟨a,b,oa,na,ob,nb,_,_,_,_,_⟩=>decide (oa + na ≤ a.n ∧ na ≤ 1000000 ∧ ob + nb ≤ b.n ∧ nb ≤ 1000000)
theorem c29n_run (a b:Vec 8) (oa na ob nb:Nat) (t m p k:BitVec 32) (mo:Int):endsAs (c29n.heap ⟨a,b,oa,na,ob,nb,t,m,p,k,mo⟩).length (some [0,1]) (c29n.out ⟨a,b,oa,na,ob,nb,t,m,p,k,mo⟩) (c29n.val ⟨a,b,oa,na,ob,nb,t,m,p,k,mo⟩) (goB specs29 noLoop 29 (c29n.args ⟨a,b,oa,na,ob,nb,t,m,p,k,mo⟩) ⟨c29n.heap ⟨a,b,oa,na,ob,nb,t,m,p,k,mo⟩,big,[],[]⟩) = some ((c29n.out ⟨a,b,oa,na,ob,nb,t,m,p,k,mo⟩),(c29n.val ⟨a,b,oa,na,ob,nb,t,m,p,k,mo⟩),[decide ((72:Nat) ≤ 72),decide (((0:Int) ≤ ((wrN ((wrN (wrN (wrN (wrN (wrN (wrN 0 (24:Nat)) (4:Nat)) na) (4:Nat)) nb) (4:Nat)) + 0) (4:Nat)) + 0) ∧ (((wrN ((wrN (wrN (wrN (wrN (wrN (wrN 0 (24:Nat)) (4:Nat)) na) (4:Nat)) nb) (4:Nat)) + 0) (4:Nat)) + 0) ≤ 128 ∧ ((1:Int) ≤ 64 ∧ ((64:Int) ≤ 64 ∧ ((64:Nat) ≤ (72 - (0:Nat)) ∧ (((0 + ((0:Nat) * 1)) + (72 - (0:Nat))) ≤ 72 ∧ (72 - (0:Nat)) ≤ 1099511627776))))))),decide (((0:Int) ≤ (wrN ((wrN (wrN (wrN (wrN (wrN (wrN 0 (24:Nat)) (4:Nat)) na) (4:Nat)) nb) (4:Nat)) + 0) (4:Nat)) ∧ (wrN ((wrN (wrN (wrN (wrN (wrN (wrN 0 (24:Nat)) (4:Nat)) na) (4:Nat)) nb) (4:Nat)) + 0) (4:Nat)) ≤ 128)),decide (((0:Int) ≤ ((wrN (wrN (wrN (wrN (wrN (wrN 0 (24:Nat)) (4:Nat)) na) (4:Nat)) nb) (4:Nat)) + 0) ∧ (((wrN (wrN (wrN (wrN (wrN (wrN 0 (24:Nat)) (4:Nat)) na) (4:Nat)) nb) (4:Nat)) + 0) ≤ 128 ∧ (((0 + ((0:Nat) * 1)) + (4:Nat)) ≤ 4 ∧ ((4:Nat) ≤ 1099511627776 ∧ ((((wrC (wrC (wrC (wrC (wrC (wrC (0#64) 0 (24:Nat)) (wrN 0 (24:Nat)) (4:Nat)) (wrN (wrN 0 (24:Nat)) (4:Nat)) na) (wrN (wrN (wrN 0 (24:Nat)) (4:Nat)) na) (4:Nat)) (wrN (wrN (wrN (wrN 0 (24:Nat)) (4:Nat)) na) (4:Nat)) nb) (wrN (wrN (wrN (wrN (wrN 0 (24:Nat)) (4:Nat)) na) (4:Nat)) nb) (4:Nat))).toNat + (4:Nat)) + 256) ≤ 1152921504606846976))))),decide (((0:Int) ≤ (wrN (wrN (wrN (wrN (wrN (wrN 0 (24:Nat)) (4:Nat)) na) (4:Nat)) nb) (4:Nat)) ∧ (wrN (wrN (wrN (wrN (wrN (wrN 0 (24:Nat)) (4:Nat)) na) (4:Nat)) nb) (4:Nat)) ≤ 128)),decide (((0:Int) ≤ (wrN (wrN (wrN (wrN (wrN 0 (24:Nat)) (4:Nat)) na) (4:Nat)) nb) ∧ ((wrN (wrN (wrN (wrN (wrN 0 (24:Nat)) (4:Nat)) na) (4:Nat)) nb) ≤ 128 ∧ (((0 + ((0:Nat) * 1)) + (4:Nat)) ≤ 4 ∧ ((4:Nat) ≤ 1099511627776 ∧ ((((wrC (wrC (wrC (wrC (wrC (0#64) 0 (24:Nat)) (wrN 0 (24:Nat)) (4:Nat)) (wrN (wrN 0 (24:Nat)) (4:Nat)) na) (wrN (wrN (wrN 0 (24:Nat)) (4:Nat)) na) (4:Nat)) (wrN (wrN (wrN (wrN 0 (24:Nat)) (4:Nat)) na) (4:Nat)) nb)).toNat + (4:Nat)) + 256) ≤ 1152921504606846976))))),decide (((0:Int) ≤ (wrN (wrN (wrN (wrN 0 (24:Nat)) (4:Nat)) na) (4:Nat)) ∧ ((wrN (wrN (wrN (wrN 0 (24:Nat)) (4:Nat)) na) (4:Nat)) ≤ 128 ∧ ((ob + nb) ≤ b.n ∧ (nb ≤ 1099511627776 ∧ ((((wrC (wrC (wrC (wrC (0#64) 0 (24:Nat)) (wrN 0 (24:Nat)) (4:Nat)) (wrN (wrN 0 (24:Nat)) (4:Nat)) na) (wrN (wrN (wrN 0 (24:Nat)) (4:Nat)) na) (4:Nat))).toNat + nb) + 256) ≤ 1152921504606846976))))),decide (((0:Int) ≤ (wrN (wrN (wrN 0 (24:Nat)) (4:Nat)) na) ∧ ((wrN (wrN (wrN 0 (24:Nat)) (4:Nat)) na) ≤ 128 ∧ (((0 + ((0:Nat) * 1)) + (4:Nat)) ≤ 4 ∧ ((4:Nat) ≤ 1099511627776 ∧ ((((wrC (wrC (wrC (0#64) 0 (24:Nat)) (wrN 0 (24:Nat)) (4:Nat)) (wrN (wrN 0 (24:Nat)) (4:Nat)) na)).toNat + (4:Nat)) + 256) ≤ 1152921504606846976))))),decide (((0:Int) ≤ (wrN (wrN 0 (24:Nat)) (4:Nat)) ∧ ((wrN (wrN 0 (24:Nat)) (4:Nat)) ≤ 128 ∧ ((oa + na) ≤ a.n ∧ (na ≤ 1099511627776 ∧ ((((wrC (wrC (0#64) 0 (24:Nat)) (wrN 0 (24:Nat)) (4:Nat))).toNat + na) + 256) ≤ 1152921504606846976))))),decide (((0:Int) ≤ (wrN 0 (24:Nat)) ∧ ((wrN 0 (24:Nat)) ≤ 128 ∧ (((0 + ((0:Nat) * 1)) + (4:Nat)) ≤ 4 ∧ ((4:Nat) ≤ 1099511627776 ∧ ((((wrC (0#64) 0 (24:Nat))).toNat + (4:Nat)) + 256) ≤ 1152921504606846976))))),decide (((0:Int) ≤ 0 ∧ ((0:Int) ≤ 128 ∧ (((0 + ((0:Nat) * 1)) + (24:Nat)) ≤ 24 ∧ ((24:Nat) ≤ 1099511627776 ∧ ((((0#64)).toNat + (24:Nat)) + 256) ≤ 1152921504606846976))))),decide (((1:Int) ≤ 64 ∧ (64:Int) ≤ 64))]):=by kernel_rfl
set_option maxRecDepth 100000 in
theorem c29n_read (a:List AV) (K:List Blk) (d:c29nD) (h:c29n.read a K = some d):a = c29n.args d ∧ K = c29n.heap d:=by
 replace h:c29n_rd a K = some d:=h
 unfold c29n_rd at h
 split at h
 case h_2=>cases h
 split at h
 case h_2=>cases h
 injection h with h;subst h
 exact ⟨rfl,rfl⟩
theorem c29n_ok:SpecOk Tryd.prog noGlob 29 c29n.spec:=by
 refine c29n.ok (goB_ok specs29_ok (no_loops _)) c29n_read ?_
 rintro ⟨a,b,oa,na,ob,nb,t,m,p,k,mo⟩ hg
 have hg:oa + na ≤ a.n ∧ na ≤ 1000000 ∧ ob + nb ≤ b.n ∧ nb ≤ 1000000:=of_decide_eq_true hg
 refine ⟨[],(some [0,1]),_,c29n_run a b oa na ob nb t m p k mo,?_⟩
 have p0:((0:Int) ≤ 0 ∧ (0:Int) ≤ 128) ∧ (0#64).toNat ≤ 0:=⟨⟨by omega,by omega⟩,Nat.le_refl _⟩
 have p1:=wr_ok (0) p0 24 (by omega)
 have p2:=wr_ok (0 + 24 + 128) p1 4 (by omega)
 have p3:=wr_ok (0 + 24 + 128 + 4 + 128) p2 na (by omega)
 have p4:=wr_ok (0 + 24 + 128 + 4 + 128 + na + 128) p3 4 (by omega)
 have p5:=wr_ok (0 + 24 + 128 + 4 + 128 + na + 128 + 4 + 128) p4 nb (by omega)
 have p6:=wr_ok (0 + 24 + 128 + 4 + 128 + na + 128 + 4 + 128 + nb + 128) p5 4 (by omega)
 have p7:=wr_nil p6
 have p8:=wr_ok (0 + 24 + 128 + 4 + 128 + na + 128 + 4 + 128 + nb + 128 + 4 + 128) p7 4 (by omega)
 have p9:=wr_nil p8
 exact all_true_cons (rfl) (all_true_cons (decide_eq_true ⟨p9.1.1,p9.1.2,by decide,by decide,by decide,by decide,by decide⟩) (all_true_cons (decide_eq_true p8.1) (all_true_cons (condW p7 (by decide) (by decide) (by omega)) (all_true_cons (decide_eq_true p6.1) (all_true_cons (condW p5 (by decide) (by decide) (by omega)) (all_true_cons (condW p4 (hg.2.2.1) (hg.2.2.2) (by omega)) (all_true_cons (condW p3 (by decide) (by decide) (by omega)) (all_true_cons (condW p2 (hg.1) (hg.2.1) (by omega)) (all_true_cons (condW p1 (by decide) (by decide) (by omega)) (all_true_cons (condW p0 (by decide) (by decide) (by omega)) (all_true_cons (rfl) (all_true_nil))))))))))))
end
section
open Go.Eng
variable [RowAddr] [Co] [SeatCo]
def specs35:FuncId → Option Eng.Spec
 | 25=>some c25.spec
 | 45=>some c45.spec
 | _=>none
theorem specs35_ok:∀ f sp,specs35 f = some sp → SpecOk Tryd.prog noGlob f sp:=by
 intro f sp h
 unfold specs35 at h
 split at h
 ·injection h with h;subst h;exact c25_ok
 ·injection h with h;subst h;exact c45_ok
 ·cases h
def setB (X:Vec 64) (b:Vec 8) (o:Nat) (i:Int):Vec 64:=X.set (o + i.toNat * 1) (lwv b (0 + (i * 8).toNat * 1))
structure kb0D where
 h:Vec 8
 b:Vec 8
 X:Vec 64
 i:Int
def kb0_st (d:kb0D):Fr × List Blk:=
 match d with
 | ⟨h,b,X,i⟩=>(⟨[(.ref (.ptr 0 (.c 0))),(.num (.int .u32 (.c 8))),(.num (.int .u32 (.c 1))),(.atom .undef),(.atom .undef),(.atom .undef),(.atom .nils),(.ref (.ptr 1 (.c 0))),(.ref (.sm 2 (.c 8) 128)),(.num (.int .u32 (.c 0))),(.num (.int .u32 (.c 0))),(.atom .undef),(.atom .undef)],[⟨41,(.num (.int .i64 (.s i)))⟩]⟩,[⟨(.b8 h),.own⟩,⟨(.b8 b),.own⟩,⟨(.b64 X),.own⟩,⟨(.gen []),.dead⟩,⟨(.gen []),.dead⟩])
def kb0_next (d:kb0D):kb0D:=
 match d with
 | ⟨h,b,X,i⟩=>⟨h,b,setB X b 0 i,i + 1⟩
def kb0_rd (F:Fr) (K:List Blk):Option kb0D:=
 match F with
 | ⟨[(.ref (.ptr 0 (.c 0))),(.num (.int .u32 (.c 8))),(.num (.int .u32 (.c 1))),(.atom .undef),(.atom .undef),(.atom .undef),(.atom .nils),(.ref (.ptr 1 (.c 0))),(.ref (.sm 2 (.c 8) 128)),(.num (.int .u32 (.c 0))),(.num (.int .u32 (.c 0))),(.atom .undef),(.atom .undef)],[⟨41,(.num (.int .i64 (.s i)))⟩]⟩=>
  match K with
  | [⟨(.b8 h),.own⟩,⟨(.b8 b),.own⟩,⟨(.b64 X),.own⟩,⟨(.gen []),.dead⟩,⟨(.gen []),.dead⟩]=>some ⟨h,b,X,i⟩
  | _=>none
 | _=>none
def kb0:LoopP kb0D where
 pat:=⟨[(.ptr 0 (.c 0)),(.int .u32 (.c 8)),(.int .u32 (.c 1)),.undef,.undef,.undef,(.atom .nils),(.ptr 1 (.c 0)),(.sm 2 (.c 8) 128),(.int .u32 (.c 0)),(.int .u32 (.c 0)),.undef,.undef],[⟨41,(.int .i64 (.s 0))⟩]⟩
 patH:=[⟨(.b8 (Vec.zero 8 0)),.own⟩,⟨(.b8 (Vec.zero 8 0)),.own⟩,⟨(.b64 (Vec.zero 64 0)),.own⟩,⟨(.gen []),.dead⟩,⟨(.gen []),.dead⟩]
 gh:=[]
 read:=kb0_rd
 st:=kb0_st
 next:=kb0_next
 rem:=fun ⟨_,_,_,i⟩=>(128 - i).toNat
 good:=fun ⟨_,b,X,i⟩=>decide (0 ≤ i ∧ i ≤ 128 ∧ b.n = 1024 ∧ X.n = 1024)
 out:=.exit 2
 fin:=kb0_st
theorem kb0_round (h b:Vec 8) (X:Vec 64) (i:Int):ranAs ((kb0.st ⟨h,b,X,i⟩).2.length - kb0.gh.length) (some [0,1,2,3,4]) (kb0.st (kb0_next ⟨h,b,X,i⟩)) (goL specs35 noLoop 35 1 (kb0.st ⟨h,b,X,i⟩).1 ⟨(kb0.st ⟨h,b,X,i⟩).2,big,[true],[]⟩) = some (.normal,(kb0.st (kb0_next ⟨h,b,X,i⟩)),[decide ((((-9223372036854775808):Int) ≤ (i + 1) ∧ (i + 1) ≤ 9223372036854775807)),decide ((0 + (((i):Int).toNat * 1)) < X.n),(decide ((0:Int) ≤ i) && decide (i < ((128:Nat):Int))),decide ((((0 + ((((i * 8)):Int).toNat * 1)) + 8) ≤ b.n ∧ ((8:Nat) ≤ ((1024:Nat) - (((i * 8)):Int).toNat) ∧ ((1024:Nat) - (((i * 8)):Int).toNat) ≤ 1099511627776))),((decide ((0:Int) ≤ (i * 8)) && decide ((i * 8) ≤ ((1024:Nat):Int))) && true),decide ((1024:Nat) ≤ b.n),decide ((((-9223372036854775808):Int) ≤ (i * 8) ∧ (i * 8) ≤ 9223372036854775807)),(decide (i < 128) == true)]):=by kernel_rfl
theorem kb0_end (h b:Vec 8) (X:Vec 64) (i:Int):ranAs ((kb0.st ⟨h,b,X,i⟩).2.length - kb0.gh.length) none (kb0.fin ⟨h,b,X,i⟩) (goL specs35 noLoop 35 1 (kb0.st ⟨h,b,X,i⟩).1 ⟨(kb0.st ⟨h,b,X,i⟩).2,big,[false],[]⟩) = some (kb0.out,(kb0.fin ⟨h,b,X,i⟩),[(decide (i < 128) == false)]):=by kernel_rfl
set_option maxRecDepth 100000 in
theorem kb0_read (F:Fr) (K:List Blk) (d:kb0D) (h:kb0.read F K = some d):(F,K) = kb0.st d:=by
 replace h:kb0_rd F K = some d:=h
 unfold kb0_rd at h
 split at h
 case h_2=>cases h
 split at h
 case h_2=>cases h
 injection h with h;subst h
 rfl
theorem kb0_body:RunOk Tryd.prog noGlob (nv 35) (ntmpsIn Tryd.prog 35) (loopIn Tryd.prog 35 1) (goL specs35 noLoop 35 1):=goL_ok specs35_ok (no_loops _) 35 1 fine35 (by rw [show (loopsIn Tryd.prog 35).length = 3 by kernel_rfl];omega)
theorem kb0_toldL:LoopOk Tryd.prog noGlob (nv 35) (ntmpsIn Tryd.prog 35) (loopIn Tryd.prog 35 1) kb0.T.told:=by
 refine kb0.ran kb0_body (by intro k hk;have hk:k ∈ ([]:List Blk):=hk;cases hk) (by intro h;cases h) kb0_read ?_ ?_
 ·rintro ⟨h,b,X,i⟩ kk hg hr
  have hg:0 ≤ i ∧ i ≤ 128 ∧ b.n = 1024 ∧ X.n = 1024:=of_decide_eq_true hg
  have hr:(128 - i).toNat = kk + 1:=hr
  have en:kb0.next ⟨h,b,X,i⟩ = kb0_next ⟨h,b,X,i⟩:=rfl
  rw [en]
  refine ⟨⟨[true],(some [0,1,2,3,4]),_,kb0_round h b X i,?_⟩,?_,?_,(show (kb0.st (kb0_next ⟨h,b,X,i⟩)).2.length = 5 by kernel_rfl).trans (show (kb0.st ⟨h,b,X,i⟩).2.length = 5 by kernel_rfl).symm⟩
  ·repeat' (refine all_true_cons ?_ ?_)
   all_goals first | exact all_true_nil | rfl | (simp only [bq] <;> omega)
  ·have e:kb0.good (kb0_next ⟨h,b,X,i⟩) = decide (0 ≤ (i + 1:Int) ∧ (i + 1:Int) ≤ 128 ∧ b.n = 1024 ∧ (setB X b 0 i:Vec 64).n = 1024):=by kernel_rfl
   refine e.trans (decide_eq_true ?_)
   have e1:(setB X b 0 i).n = X.n:=rfl;omega
  ·have e:kb0.rem (kb0_next ⟨h,b,X,i⟩) = ((128 - (i + 1:Int)).toNat):=by kernel_rfl
   refine e.trans ?_
   omega
 ·rintro ⟨h,b,X,i⟩ hg hr
  have hg:0 ≤ i ∧ i ≤ 128 ∧ b.n = 1024 ∧ X.n = 1024:=of_decide_eq_true hg
  have hr:(128 - i).toNat = 0:=hr
  refine ⟨[false],none,_,kb0_end h b X i,?_⟩
  repeat' (refine all_true_cons ?_ ?_)
  all_goals first | exact all_true_nil | rfl | (simp only [bq] <;> omega)
def kb0_spec:LSpec:=kb0.T.told
theorem kb0_told:Told 35 1 kb0_spec:=kb0_toldL.run
structure kb1D where
 h:Vec 8
 b:Vec 8
 X:Vec 64
 i:Int
def kb1_st (d:kb1D):Fr × List Blk:=
 match d with
 | ⟨h,b,X,i⟩=>(⟨[(.ref (.ptr 0 (.c 0))),(.num (.int .u32 (.c 8))),(.num (.int .u32 (.c 1))),(.atom .undef),(.atom .undef),(.atom .undef),(.atom .nils),(.ref (.ptr 1 (.c 0))),(.ref (.sm 2 (.c 8) 128)),(.num (.int .u32 (.c 0))),(.num (.int .u32 (.c 0))),(.atom .undef),(.atom .undef)],[⟨66,(.num (.int .i64 (.s i)))⟩]⟩,[⟨(.b8 h),.own⟩,⟨(.b8 b),.own⟩,⟨(.b64 X),.own⟩,⟨(.gen []),.dead⟩,⟨(.gen []),.dead⟩,⟨(.gen []),.dead⟩])
def kb1_next (d:kb1D):kb1D:=
 match d with
 | ⟨h,b,X,i⟩=>⟨h,b,setB X b 128 i,i + 1⟩
def kb1_rd (F:Fr) (K:List Blk):Option kb1D:=
 match F with
 | ⟨[(.ref (.ptr 0 (.c 0))),(.num (.int .u32 (.c 8))),(.num (.int .u32 (.c 1))),(.atom .undef),(.atom .undef),(.atom .undef),(.atom .nils),(.ref (.ptr 1 (.c 0))),(.ref (.sm 2 (.c 8) 128)),(.num (.int .u32 (.c 0))),(.num (.int .u32 (.c 0))),(.atom .undef),(.atom .undef)],[⟨66,(.num (.int .i64 (.s i)))⟩]⟩=>
  match K with
  | [⟨(.b8 h),.own⟩,⟨(.b8 b),.own⟩,⟨(.b64 X),.own⟩,⟨(.gen []),.dead⟩,⟨(.gen []),.dead⟩,⟨(.gen []),.dead⟩]=>some ⟨h,b,X,i⟩
  | _=>none
 | _=>none
def kb1:LoopP kb1D where
 pat:=⟨[(.ptr 0 (.c 0)),(.int .u32 (.c 8)),(.int .u32 (.c 1)),.undef,.undef,.undef,(.atom .nils),(.ptr 1 (.c 0)),(.sm 2 (.c 8) 128),(.int .u32 (.c 0)),(.int .u32 (.c 0)),.undef,.undef],[⟨66,(.int .i64 (.s 0))⟩]⟩
 patH:=[⟨(.b8 (Vec.zero 8 0)),.own⟩,⟨(.b8 (Vec.zero 8 0)),.own⟩,⟨(.b64 (Vec.zero 64 0)),.own⟩,⟨(.gen []),.dead⟩,⟨(.gen []),.dead⟩,⟨(.gen []),.dead⟩]
 gh:=[]
 read:=kb1_rd
 st:=kb1_st
 next:=kb1_next
 rem:=fun ⟨_,_,_,i⟩=>(128 - i).toNat
 good:=fun ⟨_,b,X,i⟩=>decide (0 ≤ i ∧ i ≤ 128 ∧ b.n = 1024 ∧ X.n = 1024)
 out:=.exit 4
 fin:=kb1_st
theorem kb1_round (h b:Vec 8) (X:Vec 64) (i:Int):ranAs ((kb1.st ⟨h,b,X,i⟩).2.length - kb1.gh.length) (some [0,1,2,3,4,5]) (kb1.st (kb1_next ⟨h,b,X,i⟩)) (goL specs35 noLoop 35 2 (kb1.st ⟨h,b,X,i⟩).1 ⟨(kb1.st ⟨h,b,X,i⟩).2,big,[true],[]⟩) = some (.normal,(kb1.st (kb1_next ⟨h,b,X,i⟩)),[decide ((((-9223372036854775808):Int) ≤ (i + 1) ∧ (i + 1) ≤ 9223372036854775807)),decide ((128 + (((i):Int).toNat * 1)) < X.n),(decide ((0:Int) ≤ i) && decide (i < ((128:Nat):Int))),decide ((((0 + ((((i * 8)):Int).toNat * 1)) + 8) ≤ b.n ∧ ((8:Nat) ≤ ((1024:Nat) - (((i * 8)):Int).toNat) ∧ ((1024:Nat) - (((i * 8)):Int).toNat) ≤ 1099511627776))),((decide ((0:Int) ≤ (i * 8)) && decide ((i * 8) ≤ ((1024:Nat):Int))) && true),decide ((1024:Nat) ≤ b.n),decide ((((-9223372036854775808):Int) ≤ (i * 8) ∧ (i * 8) ≤ 9223372036854775807)),(decide (i < 128) == true)]):=by kernel_rfl
theorem kb1_end (h b:Vec 8) (X:Vec 64) (i:Int):ranAs ((kb1.st ⟨h,b,X,i⟩).2.length - kb1.gh.length) none (kb1.fin ⟨h,b,X,i⟩) (goL specs35 noLoop 35 2 (kb1.st ⟨h,b,X,i⟩).1 ⟨(kb1.st ⟨h,b,X,i⟩).2,big,[false],[]⟩) = some (kb1.out,(kb1.fin ⟨h,b,X,i⟩),[(decide (i < 128) == false)]):=by kernel_rfl
set_option maxRecDepth 100000 in
theorem kb1_read (F:Fr) (K:List Blk) (d:kb1D) (h:kb1.read F K = some d):(F,K) = kb1.st d:=by
 replace h:kb1_rd F K = some d:=h
 unfold kb1_rd at h
 split at h
 case h_2=>cases h
 split at h
 case h_2=>cases h
 injection h with h;subst h
 rfl
theorem kb1_body:RunOk Tryd.prog noGlob (nv 35) (ntmpsIn Tryd.prog 35) (loopIn Tryd.prog 35 2) (goL specs35 noLoop 35 2):=goL_ok specs35_ok (no_loops _) 35 2 fine35 (by rw [show (loopsIn Tryd.prog 35).length = 3 by kernel_rfl];omega)
theorem kb1_toldL:LoopOk Tryd.prog noGlob (nv 35) (ntmpsIn Tryd.prog 35) (loopIn Tryd.prog 35 2) kb1.T.told:=by
 refine kb1.ran kb1_body (by intro k hk;have hk:k ∈ ([]:List Blk):=hk;cases hk) (by intro h;cases h) kb1_read ?_ ?_
 ·rintro ⟨h,b,X,i⟩ kk hg hr
  have hg:0 ≤ i ∧ i ≤ 128 ∧ b.n = 1024 ∧ X.n = 1024:=of_decide_eq_true hg
  have hr:(128 - i).toNat = kk + 1:=hr
  have en:kb1.next ⟨h,b,X,i⟩ = kb1_next ⟨h,b,X,i⟩:=rfl
  rw [en]
  refine ⟨⟨[true],(some [0,1,2,3,4,5]),_,kb1_round h b X i,?_⟩,?_,?_,(show (kb1.st (kb1_next ⟨h,b,X,i⟩)).2.length = 6 by kernel_rfl).trans (show (kb1.st ⟨h,b,X,i⟩).2.length = 6 by kernel_rfl).symm⟩
  ·repeat' (refine all_true_cons ?_ ?_)
   all_goals first | exact all_true_nil | rfl | (simp only [bq] <;> omega)
  ·have e:kb1.good (kb1_next ⟨h,b,X,i⟩) = decide (0 ≤ (i + 1:Int) ∧ (i + 1:Int) ≤ 128 ∧ b.n = 1024 ∧ (setB X b 128 i:Vec 64).n = 1024):=by kernel_rfl
   refine e.trans (decide_eq_true ?_)
   have e1:(setB X b 128 i).n = X.n:=rfl;omega
  ·have e:kb1.rem (kb1_next ⟨h,b,X,i⟩) = ((128 - (i + 1:Int)).toNat):=by kernel_rfl
   refine e.trans ?_
   omega
 ·rintro ⟨h,b,X,i⟩ hg hr
  have hg:0 ≤ i ∧ i ≤ 128 ∧ b.n = 1024 ∧ X.n = 1024:=of_decide_eq_true hg
  have hr:(128 - i).toNat = 0:=hr
  refine ⟨[false],none,_,kb1_end h b X i,?_⟩
  repeat' (refine all_true_cons ?_ ?_)
  all_goals first | exact all_true_nil | rfl | (simp only [bq] <;> omega)
def kb1_spec:LSpec:=kb1.T.told
theorem kb1_told:Told 35 2 kb1_spec:=kb1_toldL.run
def kbs:FuncId → Nat → Option LSpec
 | 35,11=>some kb0_spec
 | 35,18=>some kb1_spec
 | _,_=>none
theorem kbs_len:(loopsIn Tryd.prog 35).length = 3:=by kernel_rfl
theorem kbs_ok (spec:FuncId → Option Eng.Spec):LoopsOk (cfg spec kbs) noGlob:=by
 refine LoopsOk.of fun f=>?_
 by_cases hf:f = 35
 ·subst hf
  refine .inr ⟨by kernel_rfl,fun i hi sp hsp=>?_⟩
  have hi:i < (loopsIn Tryd.prog 35).length:=hi
  rw [kbs_len] at hi
  have hi3:i = 0 ∨ i = 1 ∨ i = 2:=by omega
  rcases hi3 with rfl | rfl | rfl
  ·have e:(firstRid (loopIn Tryd.prog 35 0)).bind (kbs 35) = none:=by kernel_rfl
   have hsp:(firstRid (loopIn Tryd.prog 35 0)).bind (kbs 35) = some sp:=hsp
   rw [e] at hsp;cases hsp
  ·have e:(firstRid (loopIn Tryd.prog 35 1)).bind (kbs 35) = some kb0_spec:=by kernel_rfl
   obtain rfl:=Option.some.inj (e.symm.trans hsp)
   exact kb0_told
  ·have e:(firstRid (loopIn Tryd.prog 35 2)).bind (kbs 35) = some kb1_spec:=by kernel_rfl
   obtain rfl:=Option.some.inj (e.symm.trans hsp)
   exact kb1_told
 ·refine .inl fun r=>?_
  show kbs f r = none
  unfold kbs
  split
  ·exact absurd rfl hf
  ·exact absurd rfl hf
  ·rfl
end
section
open Go.Eng
variable [RowAddr] [Co] [SeatCo]
def phiW (x m:BitVec 64):BitVec 32:=((x >>> 32).setWidth 32 % 1#32) * 8#32 + ((0#64 + m - (((((x &&& 4294967295#64) * (x &&& 4294967295#64)) >>> 32) * m) >>> 32 + 1#64)) % 8#64).setWidth 32
theorem mod1 (y:BitVec 32):((0#32) == y % (1#32)) = true:=by
 have h:y % 1#32 = 0#32:=by apply BitVec.eq_of_toNat_eq;simp [Nat.mod_one]
 rw [h];rfl
structure w48_10D where
 x:BitVec 64
def w48_10_rd (a:List AV) (K:List Blk):Option w48_10D:=
 match a with
 | [(.num (.w64 x)),(.num (.int .u32 (.c 8))),(.num (.int .u32 (.c 2))),(.num (.int .u32 (.c 1))),(.num (.int .u32 (.c 0))),(.num (.int .u32 (.c 1))),(.num (.int .u32 (.c 0))),(.num (.int .u32 (.c 0)))]=>
  match K with
  | []=>some ⟨x⟩
  | _=>none
 | _=>none
def w48_10:Ct w48_10D where
 pat:=[(.w64 0#64),(.int .u32 (.c 8)),(.int .u32 (.c 2)),(.int .u32 (.c 1)),(.int .u32 (.c 0)),(.int .u32 (.c 1)),(.int .u32 (.c 0)),(.int .u32 (.c 0))]
 patH:=[]
 read:=w48_10_rd
 args:=fun ⟨x⟩=>[(.w64 x),(.int .u32 (.c 8)),(.int .u32 (.c 2)),(.int .u32 (.c 1)),(.int .u32 (.c 0)),(.int .u32 (.c 1)),(.int .u32 (.c 0)),(.int .u32 (.c 0))]
 heap:=fun ⟨_⟩=>[]
 out:=fun ⟨_⟩=>[]
 val:=fun ⟨x⟩=>(.w32 (phiW x 1#64))
 good:=fun ⟨_⟩=>decide (true)
theorem w48_10_run (x:BitVec 64):endsAs (w48_10.heap ⟨x⟩).length none (w48_10.out ⟨x⟩) (w48_10.val ⟨x⟩) (goB noSpec noLoop 48 (w48_10.args ⟨x⟩) ⟨w48_10.heap ⟨x⟩,big,[true,true],[]⟩) = some ((w48_10.out ⟨x⟩),(w48_10.val ⟨x⟩),[((8#64) != (0#64)),(((0#32) == (((x >>> 32).setWidth 32) % (1#32))) == true),(((0#32) == (((x >>> 32).setWidth 32) % (1#32))) == true),((1#32) != (0#32))]):=by kernel_rfl
set_option maxRecDepth 100000 in
theorem w48_10_read (a:List AV) (K:List Blk) (d:w48_10D) (h:w48_10.read a K = some d):a = w48_10.args d ∧ K = w48_10.heap d:=by
 replace h:w48_10_rd a K = some d:=h
 unfold w48_10_rd at h
 split at h
 case h_2=>cases h
 split at h
 case h_2=>cases h
 injection h with h;subst h
 exact ⟨rfl,rfl⟩
theorem w48_10_ok:SpecOk Tryd.prog noGlob 48 w48_10.spec:=by
 refine w48_10.ok (goB_ok no_specs (no_loops _)) w48_10_read ?_
 rintro ⟨x⟩ hg
 have hg:true:=of_decide_eq_true hg
 refine ⟨[true,true],none,_,w48_10_run x,?_⟩
 repeat' (refine all_true_cons ?_ ?_)
 all_goals first | exact all_true_nil | (rw [mod1];rfl) | rfl
structure w48_11D where
 x:BitVec 64
def w48_11_rd (a:List AV) (K:List Blk):Option w48_11D:=
 match a with
 | [(.num (.w64 x)),(.num (.int .u32 (.c 8))),(.num (.int .u32 (.c 2))),(.num (.int .u32 (.c 1))),(.num (.int .u32 (.c 0))),(.num (.int .u32 (.c 1))),(.num (.int .u32 (.c 0))),(.num (.int .u32 (.c 1)))]=>
  match K with
  | []=>some ⟨x⟩
  | _=>none
 | _=>none
def w48_11:Ct w48_11D where
 pat:=[(.w64 0#64),(.int .u32 (.c 8)),(.int .u32 (.c 2)),(.int .u32 (.c 1)),(.int .u32 (.c 0)),(.int .u32 (.c 1)),(.int .u32 (.c 0)),(.int .u32 (.c 1))]
 patH:=[]
 read:=w48_11_rd
 args:=fun ⟨x⟩=>[(.w64 x),(.int .u32 (.c 8)),(.int .u32 (.c 2)),(.int .u32 (.c 1)),(.int .u32 (.c 0)),(.int .u32 (.c 1)),(.int .u32 (.c 0)),(.int .u32 (.c 1))]
 heap:=fun ⟨_⟩=>[]
 out:=fun ⟨_⟩=>[]
 val:=fun ⟨x⟩=>(.w32 (phiW x 2#64))
 good:=fun ⟨_⟩=>decide (true)
theorem w48_11_run (x:BitVec 64):endsAs (w48_11.heap ⟨x⟩).length none (w48_11.out ⟨x⟩) (w48_11.val ⟨x⟩) (goB noSpec noLoop 48 (w48_11.args ⟨x⟩) ⟨w48_11.heap ⟨x⟩,big,[true,true,true],[]⟩) = some ((w48_11.out ⟨x⟩),(w48_11.val ⟨x⟩),[((8#64) != (0#64)),(((0#32) == (((x >>> 32).setWidth 32) % (1#32))) == true),(((0#32) == (((x >>> 32).setWidth 32) % (1#32))) == true),(((0#32) == (((x >>> 32).setWidth 32) % (1#32))) == true),((1#32) != (0#32))]):=by kernel_rfl
set_option maxRecDepth 100000 in
theorem w48_11_read (a:List AV) (K:List Blk) (d:w48_11D) (h:w48_11.read a K = some d):a = w48_11.args d ∧ K = w48_11.heap d:=by
 replace h:w48_11_rd a K = some d:=h
 unfold w48_11_rd at h
 split at h
 case h_2=>cases h
 split at h
 case h_2=>cases h
 injection h with h;subst h
 exact ⟨rfl,rfl⟩
theorem w48_11_ok:SpecOk Tryd.prog noGlob 48 w48_11.spec:=by
 refine w48_11.ok (goB_ok no_specs (no_loops _)) w48_11_read ?_
 rintro ⟨x⟩ hg
 have hg:true:=of_decide_eq_true hg
 refine ⟨[true,true,true],none,_,w48_11_run x,?_⟩
 repeat' (refine all_true_cons ?_ ?_)
 all_goals first | exact all_true_nil | (rw [mod1];rfl) | rfl
structure w48_20D where
 x:BitVec 64
def w48_20_rd (a:List AV) (K:List Blk):Option w48_20D:=
 match a with
 | [(.num (.w64 x)),(.num (.int .u32 (.c 8))),(.num (.int .u32 (.c 2))),(.num (.int .u32 (.c 1))),(.num (.int .u32 (.c 0))),(.num (.int .u32 (.c 2))),(.num (.int .u32 (.c 0))),(.num (.int .u32 (.c 0)))]=>
  match K with
  | []=>some ⟨x⟩
  | _=>none
 | _=>none
def w48_20:Ct w48_20D where
 pat:=[(.w64 0#64),(.int .u32 (.c 8)),(.int .u32 (.c 2)),(.int .u32 (.c 1)),(.int .u32 (.c 0)),(.int .u32 (.c 2)),(.int .u32 (.c 0)),(.int .u32 (.c 0))]
 patH:=[]
 read:=w48_20_rd
 args:=fun ⟨x⟩=>[(.w64 x),(.int .u32 (.c 8)),(.int .u32 (.c 2)),(.int .u32 (.c 1)),(.int .u32 (.c 0)),(.int .u32 (.c 2)),(.int .u32 (.c 0)),(.int .u32 (.c 0))]
 heap:=fun ⟨_⟩=>[]
 out:=fun ⟨_⟩=>[]
 val:=fun ⟨x⟩=>(.w32 (phiW x 3#64))
 good:=fun ⟨_⟩=>decide (true)
theorem w48_20_run (x:BitVec 64):endsAs (w48_20.heap ⟨x⟩).length none (w48_20.out ⟨x⟩) (w48_20.val ⟨x⟩) (goB noSpec noLoop 48 (w48_20.args ⟨x⟩) ⟨w48_20.heap ⟨x⟩,big,[true,true],[]⟩) = some ((w48_20.out ⟨x⟩),(w48_20.val ⟨x⟩),[((8#64) != (0#64)),(((0#32) == (((x >>> 32).setWidth 32) % (1#32))) == true),(((0#32) == (((x >>> 32).setWidth 32) % (1#32))) == true),((1#32) != (0#32))]):=by kernel_rfl
set_option maxRecDepth 100000 in
theorem w48_20_read (a:List AV) (K:List Blk) (d:w48_20D) (h:w48_20.read a K = some d):a = w48_20.args d ∧ K = w48_20.heap d:=by
 replace h:w48_20_rd a K = some d:=h
 unfold w48_20_rd at h
 split at h
 case h_2=>cases h
 split at h
 case h_2=>cases h
 injection h with h;subst h
 exact ⟨rfl,rfl⟩
theorem w48_20_ok:SpecOk Tryd.prog noGlob 48 w48_20.spec:=by
 refine w48_20.ok (goB_ok no_specs (no_loops _)) w48_20_read ?_
 rintro ⟨x⟩ hg
 have hg:true:=of_decide_eq_true hg
 refine ⟨[true,true],none,_,w48_20_run x,?_⟩
 repeat' (refine all_true_cons ?_ ?_)
 all_goals first | exact all_true_nil | (rw [mod1];rfl) | rfl
structure w48_21D where
 x:BitVec 64
def w48_21_rd (a:List AV) (K:List Blk):Option w48_21D:=
 match a with
 | [(.num (.w64 x)),(.num (.int .u32 (.c 8))),(.num (.int .u32 (.c 2))),(.num (.int .u32 (.c 1))),(.num (.int .u32 (.c 0))),(.num (.int .u32 (.c 2))),(.num (.int .u32 (.c 0))),(.num (.int .u32 (.c 1)))]=>
  match K with
  | []=>some ⟨x⟩
  | _=>none
 | _=>none
def w48_21:Ct w48_21D where
 pat:=[(.w64 0#64),(.int .u32 (.c 8)),(.int .u32 (.c 2)),(.int .u32 (.c 1)),(.int .u32 (.c 0)),(.int .u32 (.c 2)),(.int .u32 (.c 0)),(.int .u32 (.c 1))]
 patH:=[]
 read:=w48_21_rd
 args:=fun ⟨x⟩=>[(.w64 x),(.int .u32 (.c 8)),(.int .u32 (.c 2)),(.int .u32 (.c 1)),(.int .u32 (.c 0)),(.int .u32 (.c 2)),(.int .u32 (.c 0)),(.int .u32 (.c 1))]
 heap:=fun ⟨_⟩=>[]
 out:=fun ⟨_⟩=>[]
 val:=fun ⟨x⟩=>(.w32 (phiW x 4#64))
 good:=fun ⟨_⟩=>decide (true)
theorem w48_21_run (x:BitVec 64):endsAs (w48_21.heap ⟨x⟩).length none (w48_21.out ⟨x⟩) (w48_21.val ⟨x⟩) (goB noSpec noLoop 48 (w48_21.args ⟨x⟩) ⟨w48_21.heap ⟨x⟩,big,[true,true,true],[]⟩) = some ((w48_21.out ⟨x⟩),(w48_21.val ⟨x⟩),[((8#64) != (0#64)),(((0#32) == (((x >>> 32).setWidth 32) % (1#32))) == true),(((0#32) == (((x >>> 32).setWidth 32) % (1#32))) == true),(((0#32) == (((x >>> 32).setWidth 32) % (1#32))) == true),((1#32) != (0#32))]):=by kernel_rfl
set_option maxRecDepth 100000 in
theorem w48_21_read (a:List AV) (K:List Blk) (d:w48_21D) (h:w48_21.read a K = some d):a = w48_21.args d ∧ K = w48_21.heap d:=by
 replace h:w48_21_rd a K = some d:=h
 unfold w48_21_rd at h
 split at h
 case h_2=>cases h
 split at h
 case h_2=>cases h
 injection h with h;subst h
 exact ⟨rfl,rfl⟩
theorem w48_21_ok:SpecOk Tryd.prog noGlob 48 w48_21.spec:=by
 refine w48_21.ok (goB_ok no_specs (no_loops _)) w48_21_read ?_
 rintro ⟨x⟩ hg
 have hg:true:=of_decide_eq_true hg
 refine ⟨[true,true,true],none,_,w48_21_run x,?_⟩
 repeat' (refine all_true_cons ?_ ?_)
 all_goals first | exact all_true_nil | (rw [mod1];rfl) | rfl
structure w48_30D where
 x:BitVec 64
def w48_30_rd (a:List AV) (K:List Blk):Option w48_30D:=
 match a with
 | [(.num (.w64 x)),(.num (.int .u32 (.c 8))),(.num (.int .u32 (.c 2))),(.num (.int .u32 (.c 1))),(.num (.int .u32 (.c 0))),(.num (.int .u32 (.c 3))),(.num (.int .u32 (.c 0))),(.num (.int .u32 (.c 0)))]=>
  match K with
  | []=>some ⟨x⟩
  | _=>none
 | _=>none
def w48_30:Ct w48_30D where
 pat:=[(.w64 0#64),(.int .u32 (.c 8)),(.int .u32 (.c 2)),(.int .u32 (.c 1)),(.int .u32 (.c 0)),(.int .u32 (.c 3)),(.int .u32 (.c 0)),(.int .u32 (.c 0))]
 patH:=[]
 read:=w48_30_rd
 args:=fun ⟨x⟩=>[(.w64 x),(.int .u32 (.c 8)),(.int .u32 (.c 2)),(.int .u32 (.c 1)),(.int .u32 (.c 0)),(.int .u32 (.c 3)),(.int .u32 (.c 0)),(.int .u32 (.c 0))]
 heap:=fun ⟨_⟩=>[]
 out:=fun ⟨_⟩=>[]
 val:=fun ⟨x⟩=>(.w32 (phiW x 5#64))
 good:=fun ⟨_⟩=>decide (true)
theorem w48_30_run (x:BitVec 64):endsAs (w48_30.heap ⟨x⟩).length none (w48_30.out ⟨x⟩) (w48_30.val ⟨x⟩) (goB noSpec noLoop 48 (w48_30.args ⟨x⟩) ⟨w48_30.heap ⟨x⟩,big,[true,true],[]⟩) = some ((w48_30.out ⟨x⟩),(w48_30.val ⟨x⟩),[((8#64) != (0#64)),(((0#32) == (((x >>> 32).setWidth 32) % (1#32))) == true),(((0#32) == (((x >>> 32).setWidth 32) % (1#32))) == true),((1#32) != (0#32))]):=by kernel_rfl
set_option maxRecDepth 100000 in
theorem w48_30_read (a:List AV) (K:List Blk) (d:w48_30D) (h:w48_30.read a K = some d):a = w48_30.args d ∧ K = w48_30.heap d:=by
 replace h:w48_30_rd a K = some d:=h
 unfold w48_30_rd at h
 split at h
 case h_2=>cases h
 split at h
 case h_2=>cases h
 injection h with h;subst h
 exact ⟨rfl,rfl⟩
theorem w48_30_ok:SpecOk Tryd.prog noGlob 48 w48_30.spec:=by
 refine w48_30.ok (goB_ok no_specs (no_loops _)) w48_30_read ?_
 rintro ⟨x⟩ hg
 have hg:true:=of_decide_eq_true hg
 refine ⟨[true,true],none,_,w48_30_run x,?_⟩
 repeat' (refine all_true_cons ?_ ?_)
 all_goals first | exact all_true_nil | (rw [mod1];rfl) | rfl
structure w48_31D where
 x:BitVec 64
def w48_31_rd (a:List AV) (K:List Blk):Option w48_31D:=
 match a with
 | [(.num (.w64 x)),(.num (.int .u32 (.c 8))),(.num (.int .u32 (.c 2))),(.num (.int .u32 (.c 1))),(.num (.int .u32 (.c 0))),(.num (.int .u32 (.c 3))),(.num (.int .u32 (.c 0))),(.num (.int .u32 (.c 1)))]=>
  match K with
  | []=>some ⟨x⟩
  | _=>none
 | _=>none
def w48_31:Ct w48_31D where
 pat:=[(.w64 0#64),(.int .u32 (.c 8)),(.int .u32 (.c 2)),(.int .u32 (.c 1)),(.int .u32 (.c 0)),(.int .u32 (.c 3)),(.int .u32 (.c 0)),(.int .u32 (.c 1))]
 patH:=[]
 read:=w48_31_rd
 args:=fun ⟨x⟩=>[(.w64 x),(.int .u32 (.c 8)),(.int .u32 (.c 2)),(.int .u32 (.c 1)),(.int .u32 (.c 0)),(.int .u32 (.c 3)),(.int .u32 (.c 0)),(.int .u32 (.c 1))]
 heap:=fun ⟨_⟩=>[]
 out:=fun ⟨_⟩=>[]
 val:=fun ⟨x⟩=>(.w32 (phiW x 6#64))
 good:=fun ⟨_⟩=>decide (true)
theorem w48_31_run (x:BitVec 64):endsAs (w48_31.heap ⟨x⟩).length none (w48_31.out ⟨x⟩) (w48_31.val ⟨x⟩) (goB noSpec noLoop 48 (w48_31.args ⟨x⟩) ⟨w48_31.heap ⟨x⟩,big,[true,true,true],[]⟩) = some ((w48_31.out ⟨x⟩),(w48_31.val ⟨x⟩),[((8#64) != (0#64)),(((0#32) == (((x >>> 32).setWidth 32) % (1#32))) == true),(((0#32) == (((x >>> 32).setWidth 32) % (1#32))) == true),(((0#32) == (((x >>> 32).setWidth 32) % (1#32))) == true),((1#32) != (0#32))]):=by kernel_rfl
set_option maxRecDepth 100000 in
theorem w48_31_read (a:List AV) (K:List Blk) (d:w48_31D) (h:w48_31.read a K = some d):a = w48_31.args d ∧ K = w48_31.heap d:=by
 replace h:w48_31_rd a K = some d:=h
 unfold w48_31_rd at h
 split at h
 case h_2=>cases h
 split at h
 case h_2=>cases h
 injection h with h;subst h
 exact ⟨rfl,rfl⟩
theorem w48_31_ok:SpecOk Tryd.prog noGlob 48 w48_31.spec:=by
 refine w48_31.ok (goB_ok no_specs (no_loops _)) w48_31_read ?_
 rintro ⟨x⟩ hg
 have hg:true:=of_decide_eq_true hg
 refine ⟨[true,true,true],none,_,w48_31_run x,?_⟩
 repeat' (refine all_true_cons ?_ ?_)
 all_goals first | exact all_true_nil | (rw [mod1];rfl) | rfl
end
end Go.Proofs.YtineimjmnbjdlaaDoor
namespace Go.Eng
section
variable [RowAddr] [Co]
variable {G:Nat → Option (List AV)} {β β':Map} {w w':World} {H H':List Blk}
structure Keeps (β:Map) (H:List Blk) (w:World) (β':Map) (H':List Blk) (w':World):Prop where
 size:w.heap.size ≤ w'.heap.size
 kept:∀ c,c < w.heap.size → ¬ Own β H c → Kp c w w'
 own:∀ c,c < w.heap.size → Own β' H' c → Own β H c
theorem Keeps.of {β':Map} {H':List Blk} {w':World} (h:Stp β H w β' H' w'):Keeps β H w β' H' w':=⟨h.size,h.kept,h.own⟩
theorem Keeps.less {β':Map} {H':List Blk} {w':World} {β2:Map} {H2:List Blk} (h:Keeps β H w β' H' w') (k:∀ c,Own β2 H2 c → Own β' H' c):Keeps β H w β2 H2 w':=⟨h.size,h.kept,fun c hc ho=>h.own c hc (k c ho)⟩
end
section
variable [RowAddr] [Co]
variable {P:Program} {G:Nat → Option (List AV)} {nv nt:Nat}
theorem weaker {n0 n1:Nat} {βB β β2:Map} {HB H H2:List Blk} {wB w w2:World} {rs:Option (List Nat)} {p:Fr × List Blk} {F2:Fr} {a2:Act}
 (hS:Stq n0 βB HB wB β H w) (hdB:∀ b L,βB b = some L → b < n0) (hn:n0 ≤ n1) (hlen:n1 ≤ H2.length)
 (r3:wkF rs p.1 F2 = some p.1) (r4:wkH n1 [] rs p.2 H2 = some p.2) (q1:FRel nv nt β2 F2 a2) (q2:HRel G β2 H2 w2) (q3:Stp β H w β2 H2 w2) :
 ∃ β3,FRel nv nt β3 p.1 a2 ∧ HRel G β3 p.2 w2 ∧ Stq n0 βB HB wB β3 p.2 w2 ∧ (∀ c,Own β3 p.2 c → Own β2 H2 c) ∧ (∀ b,b < n1 → β3 b = β2 b):=by
 obtain ⟨β3,p1,p2,p3,p4,p5⟩:=wk_ok (n0:=n1) (gh:=[]) (by simp) r4 hlen q2
 exact ⟨β3,wkF_rel p5 r3 q1,p1,(hS.trans q3).wk hdB (fun b hb=>p2 b (by omega)) (by omega) p4,p4,p2⟩
theorem RunOk.step {c:Code} {f:Fr → St → Option (Out × Fr × St)} (hb:RunOk P G nv nt c f) {n0 n1:Nat} {p:Fr × List Blk} {F:Fr} {H:List Blk} {dec cs:List Bool} {rs:Option (List Nat)} {o:Out}
 (hr:ranAs n1 rs p (f F ⟨H,big,dec,[]⟩) = some (o,p,cs)) (hcs:∀ x ∈ cs,x = true) (hn:n0 ≤ n1) (hlen:n1 ≤ H.length)
 {βB β:Map} {HB:List Blk} {wB w:World} {a:Act} (hdB:∀ b L,βB b = some L → b < n0) (hF:FRel nv nt β F a) (hH:HRel G β H w) (hS:Stq n0 βB HB wB β H w) {Q:Exit → Act → World → Prop}
 (hQ:∀ a' w' β',FRel nv nt β' p.1 a' → HRel G β' p.2 w' → Stq n0 βB HB wB β' p.2 w' → Keeps β H w β' p.2 w' → (∀ b,b < n1 → β' b = β b) → Q o.ex a' w'):c.wpj P Q a w:=by
 obtain ⟨F2,S2,r1,r3,r4,r5⟩:=ranAs_inv hr
 obtain ⟨x1,x2⟩:=hb _ _ _ _ _ r1
 refine x2 (fun x hx=>hcs x (by rw [← r5];exact hx)) β a w hF hH _ fun a2 w2 β2 q1 q2 q3=>?_
 have hl2:n1 ≤ S2.H.length:=by have:=x1.len;simp only at *;omega
 obtain ⟨β3,z1,z2,z3,z4,z5⟩:=weaker hS hdB hn hl2 r3 r4 q1 q2 q3
 exact hQ a2 w2 β3 z1 z2 z3 ((Keeps.of q3).less z4) (fun b hb=>(z5 b hb).trans (q3.old b (show b < H.length by omega)))
def sub:List Bool → Code → Code
 | [],c=>c
 | s :: p,c=>
  match c with
  | .seq a b=>
   match s with
   | false=>sub p a
   | true=>sub p b
  | .block _ b=>sub p b
  | .loop b=>sub p b
  | _=>.skip
theorem sub_in:∀ (p:List Bool) (c:Code),(∀ (dyn:Nat → Bool) (n:Nat),codeOk P nt dyn n c = true → ∃ m,codeOk P nt dyn m (sub p c) = true) ∧ ∀ k,∀ b ∈ loopsOf k (sub p c),∃ k',b ∈ loopsOf k' c
 | [],c=>⟨fun dyn n h=>⟨n,h⟩,fun k b h=>⟨k,h⟩⟩
 | s :: p,c=>by
  have triv:(∀ (dyn:Nat → Bool) (n:Nat),codeOk P nt dyn n c = true → ∃ m,codeOk P nt dyn m (.skip:Code) = true) ∧ ∀ k,∀ b ∈ loopsOf k (.skip:Code),∃ k',b ∈ loopsOf k' c:=
   ⟨fun _ _ _=>⟨1,rfl⟩,fun k b h=>by cases k <;> simp [loopsOf] at h⟩
  cases c with
  | seq x y=>
   cases s with
   | false=>
    obtain ⟨h1,h2⟩:=sub_in p x
    refine ⟨fun dyn n h=>?_,fun k b hb=>?_⟩
    ·cases n with
     | zero=>simp [codeOk] at h
     | succ n=>
      simp only [codeOk] at h
      split at h
      ·rename_i hx;exact h1 dyn n hx
      ·cases h
    ·obtain ⟨k',hk⟩:=h2 k b hb
     exact ⟨k' + 1,by simp [loopsOf,hk]⟩
   | true=>
    obtain ⟨h1,h2⟩:=sub_in p y
    refine ⟨fun dyn n h=>?_,fun k b hb=>?_⟩
    ·cases n with
     | zero=>simp [codeOk] at h
     | succ n=>
      simp only [codeOk] at h
      split at h
      ·exact h1 dyn n h
      ·cases h
    ·obtain ⟨k',hk⟩:=h2 k b hb
     exact ⟨k' + 1,by simp [loopsOf,hk]⟩
  | block i x=>
   obtain ⟨h1,h2⟩:=sub_in p x
   refine ⟨fun dyn n h=>?_,fun k b hb=>?_⟩
   ·cases n with
    | zero=>simp [codeOk] at h
    | succ n=>exact h1 dyn n (by simpa only [codeOk] using h)
   ·obtain ⟨k',hk⟩:=h2 k b hb
    exact ⟨k' + 1,by simp [loopsOf,hk]⟩
  | loop x=>
   obtain ⟨h1,h2⟩:=sub_in p x
   refine ⟨fun dyn n h=>?_,fun k b hb=>?_⟩
   ·cases n with
    | zero=>simp [codeOk] at h
    | succ n=>exact h1 dyn n (by simpa only [codeOk] using h)
   ·obtain ⟨k',hk⟩:=h2 k b hb
    exact ⟨k' + 1,by simp [loopsOf,hk]⟩
  | _=>exact triv
theorem exec_sub {C:Cfg} [ExtOk C] (hG:C.glob = G) {call:CallF} (hcall:CallOk C.P G call) (hm:MethOk C.P C.meth) (hmix:C.P.follows .mixedOrders = true) (hl:LoopsOk C G) {f:FuncId} (hf:fnOk C f = true) (fuel:Nat) (p:List Bool) :
 RunOk C.P G (C.nv f) (ntmpsIn C.P f) (sub p (bodyIn C.P f)) (exec C fuel (sub p (bodyIn C.P f)) ⟨call,C.nv f,C.keep f,C.dyn f,C.loop f⟩):=by
 unfold fnOk at hf
 unfold ntmpsIn bodyIn
 split at hf
 ·cases hf
 rename_i fn hfn
 split at hf
 ·cases hf
 rename_i c hc
 split at hf
 ·cases hf
 simp only [hfn,hc]
 obtain ⟨h1,h2⟩:=sub_in (P:=C.P) (nt:=fn.ntmps) p c
 obtain ⟨m,hm'⟩:=h1 _ _ hf
 exact exec_ok (C:=C) (G:=G) (nt:=fn.ntmps) hG (E:=⟨call,C.nv f,C.keep f,C.dyn f,C.loop f⟩) hcall hm hmix fuel m _ hm' (fun k b hb sp hsp=>by
  obtain ⟨k',hk⟩:=h2 k b hb
  exact hl f fn c hfn hc k' b hk sp hsp)
def nameIn (P:Program) (f:FuncId):Bool:=
 match P.funcs[f]? with
 | some fn=>
  match fn.body with
  | some _=>!(fn.name == "runtime.NumGoroutine")
  | none=>false
 | none=>false
def resIn (P:Program) (f:FuncId):List ResultVar:=
 match P.funcs[f]? with
 | some fn=>fn.results.toList
 | none=>[]
theorem calls_body {C:Cfg} [ExtOk C] (hG:C.glob = G) {f:FuncId} (hp:Co.plain f) (hname:nameIn C.P f = true) {args:List AV} {β:Map} {w:World} {us:List Value} (hargs:LRel β args us) (hsz:args.length ≤ ntmpsIn C.P f)
 {R:Ending → World → Prop}
 (h:∀ a,FRel (C.nv f) (ntmpsIn C.P f) β ⟨args ++ List.replicate (C.nv f - args.length) .undef,[]⟩ a → (bodyIn C.P f).wpj C.P (fun e a' w'=>e = .ret ∧ ∃ F1 S1 S2 vs β',resultVals C (C.nv f) F1 S1 (resIn C.P f) = some (vs,S2) ∧ S2.ok ∧ FRel (C.nv f) (ntmpsIn C.P f) β' F1 a' ∧ HRel G β' S1.H w' ∧
  ∀ u,VRel β' (resultVal vs) u → R (.returned u) w') a w) :
 (∃ fn,C.P.funcs[f]? = some fn ∧ (fn.name == "runtime.NumGoroutine") = false ∧ fn.body.isSome = true) ∧ CallsJ C.P f ⟨us⟩ w R:=by
 unfold nameIn at hname
 split at hname
 case h_2=>cases hname
 rename_i fn hf
 split at hname
 case h_2=>cases hname
 rename_i c hc
 have e1:bodyIn C.P f = c:=by simp only [bodyIn,hf,hc]
 have e2:ntmpsIn C.P f = fn.ntmps:=by simp only [ntmpsIn,hf]
 have e3:resIn C.P f = fn.results.toList:=by simp only [resIn,hf]
 rw [e2] at hsz
 simp only [e1,e2,e3] at h
 refine ⟨⟨fn,hf,by simpa using hname,by simp [hc]⟩,callsJ_of_wp hp hf hc ?_⟩
 have hlen:us.length ≤ fn.ntmps:=by rw [← hargs.1];exact hsz
 refine wpj_mono (h { tmps:=(⟨us⟩:Array Value) ++ Array.replicate (fn.ntmps - (⟨us⟩:Array Value).size) undef,defers:=[] } ⟨fun t=>?_,?_,rfl⟩) fun e a' w' hq=>?_
 ·simp only [Fr.get]
  cases hb:Nat.blt t (C.nv f) with
  | false=>exact .undef _
  | true=>
   simp only [lget_eq]
   rcases Nat.lt_or_ge t args.length with ht | ht
   ·have htu:t < us.length:=by rw [← hargs.1];exact ht
    rw [List.getElem?_append_left ht,List.getElem?_eq_getElem ht]
    simp only
    have e:((⟨us⟩:Array Value) ++ Array.replicate (fn.ntmps - (⟨us⟩:Array Value).size) undef).getD t undef = us[t]:=by
     simp [Array.getD_eq_getD_getElem?,Array.getElem?_append,htu]
    rw [e]
    exact hargs.2 t _ _ (List.getElem?_eq_getElem ht) (List.getElem?_eq_getElem htu)
   ·rw [List.getElem?_append_right ht]
    split
    ·rename_i x hx
     rw [List.getElem?_replicate] at hx
     split at hx
     ·injection hx with hx;subst hx;exact .undef _
     ·cases hx
    ·exact .undef _
 ·simp;omega
 ·obtain ⟨rfl,F1,S1,S2,vs,β',hr,hok,q1,q2,hR⟩:=hq
  obtain ⟨p1,p2⟩:=resultVals_ok (nt:=fn.ntmps) hG _ _ _ _ hr
  obtain ⟨us',r2,r1⟩:=p2 hok β' a' w' q1 q2
  have hrun:∀ w₁,Rely w' w₁ → (results fn a'.tmps).runQ C.P w₁ = .ok (if h:(⟨us'⟩:Array Value).size = 1 then (⟨us'⟩:Array Value)[0] else .tuple ⟨us'⟩) w₁:=by
   intro w₁ h₁
   rw [results_eq,Array.mapM_eq_mapM_toList (m:=Sem)]
   simp [r1 w₁ h₁]
  exact ⟨q1.defers,_,hrun,hR _ (resultVal_rel r2)⟩
theorem Ct.sem {D:Type} (c:Ct D) {f:FuncId} (hread:∀ a K d,c.read a K = some d → a = c.args d ∧ K = c.heap d)
 (hsem:∀ d,c.good d = true → ∀ β w vs,LRel β (c.args d) vs → HRel G β (c.heap d) w → (∀ b L,β b = some L → b < (c.heap d).length) →
  (∃ fn,P.funcs[f]? = some fn ∧ (fn.name == "runtime.NumGoroutine") = false ∧ fn.body.isSome = true) ∧
  CallsJ P f ⟨vs⟩ w fun e w'=>∃ u β',e = .returned u ∧ VRel β' (c.val d) u ∧ HRel G β' (c.out d) w' ∧ Stq (c.heap d).length β (c.heap d) w β' (c.out d) w'):SpecOk P G f c.spec:=by
 intro args H dec r hr
 unfold Ct.spec at hr
 split at hr
 ·cases hr
 rename_i a ha
 split at hr
 ·cases hr
 rename_i K hK
 split at hr
 ·cases hr
 rename_i d hd
 split at hr
 ·cases hr
 rename_i R hR
 injection hr with hr;subst hr
 obtain ⟨rfl,rfl⟩:=hread a K d hd
 refine ⟨fun i k hk hm=>?_,fun hcond β w vs hargs hH=>?_⟩
 ·rcases (mergeH_spec hR).2.2.2 i k hk with ⟨_,h2,_⟩ | ⟨h1,_⟩
  ·exact absurd hm h2
  ·exact ⟨k,h1,hm⟩
 ·obtain ⟨i1,i2,i3⟩:=wk_in (gh:=[]) (by simp) hH (by rw [List.append_nil];exact hK)
  have hargs':LRel β (c.args d) vs:=by
   refine wkL_rel (β:=β) (rs:=none) (fun p x y v hy hx=>?_) ha hargs
   unfold wkV at hy
   split at hy
   ·injection hy with hy;subst hy;exact .undef _
   ·exact cV_ok hx hy
  have hlen:(c.heap d).length = H.length:=(cH_again _ _ _ hK).2
  obtain ⟨hf,hcalls⟩:=hsem d (hcond _ (List.mem_singleton.2 rfl)) β w vs hargs' i1 (fun b L hL=>i1.dom b L hL)
  refine ⟨hf,hcalls.mono ?_⟩
  rintro e w' ⟨u,β2,rfl,q1,q2,q3⟩
  rw [hlen] at q3
  obtain ⟨z1,z2⟩:=merge_ok hH i1 i2 q2 q3 hR
  exact ⟨u,β2,rfl,q1,z1,z2⟩
end
end Go.Eng
namespace Go.Proofs.YtineimjmnbjdlaaDoor
section
open Go.Eng Go.Conc
variable [RowAddr] [Co] [SeatCo]
noncomputable def goP (spec:FuncId → Option Eng.Spec) (loop:FuncId → Nat → Option LSpec) (f:Nat) (p:List Bool) (F:Fr) (S:St):Option (Out × Fr × St):=exec (cfg spec loop) 100000 (sub p (bodyIn Tryd.prog f)) ⟨acall (cfg spec loop) 20 100000,nv f,keep f,dyn f,loop f⟩ F S
theorem goP_ok {spec:FuncId → Option Eng.Spec} {loop:FuncId → Nat → Option LSpec} (hs:∀ f sp,spec f = some sp → SpecOk Tryd.prog noGlob f sp) (hl:LoopsOk (cfg spec loop) noGlob) (f:Nat) (p:List Bool) (hf:Fine f) :
 RunOk Tryd.prog noGlob (nv f) (ntmpsIn Tryd.prog f) (sub p (bodyIn Tryd.prog f)) (goP spec loop f p):=
 exec_sub (C:=cfg spec loop) rfl (acall_ok (C:=cfg spec loop) rfl methOk mixed (fine_cfg spec loop) SeatCo.plain hl (fun f sp h args S v S' hc=>callSpec_ok (hs f sp h) args S v S' hc) 100000 20) methOk mixed hl ((fnOk_any spec loop f).trans hf) 100000 p
noncomputable def goS (spec:FuncId → Option Eng.Spec) (loop:FuncId → Nat → Option LSpec) (f:Nat):List (List Bool) → Fr → St → Option (Out × Fr × St)
 | [],F,S=>some (.normal,F,S)
 | p :: ps,F,S=>
  match goP spec loop f p F S with
  | some (o,F,S)=>
   match o with
   | .normal=>goS spec loop f ps F S
   | _=>none
  | none=>none
def seqTo (c:Code):List (List Bool) → Code → Code
 | [],t=>t
 | p :: ps,t=>.seq (sub p c) (seqTo c ps t)
theorem goS_ok {spec:FuncId → Option Eng.Spec} {loop:FuncId → Nat → Option LSpec} (hs:∀ f sp,spec f = some sp → SpecOk Tryd.prog noGlob f sp) (hl:LoopsOk (cfg spec loop) noGlob) (f:Nat) (hf:Fine f) (t:Code):∀ (ps:List (List Bool)) F S o F' S',goS spec loop f ps F S = some (o,F',S') →
 Eng.Ext S S' ∧ (S'.ok → ∀ β a w,FRel (nv f) (ntmpsIn Tryd.prog f) β F a → HRel noGlob β S.H w → ∀ (b:Frame) (k:List Item) (cs:List Frame) (Stop:Goroutine → World → Prop),OkF b →
  (∀ a' w' β',FRel (nv f) (ntmpsIn Tryd.prog f) β' F' a' → HRel noGlob β' S'.H w' → Stp β S.H w β' S'.H w' → GoesJ Tryd.prog Stop (G (b.at a' (.code t :: k)) cs) w') →
  GoesJ Tryd.prog Stop (G (b.at a (.code (seqTo (bodyIn Tryd.prog f) ps t) :: k)) cs) w)
 | [],F,S,o,F',S',h=>by
  simp only [goS,Option.some.injEq,Prod.mk.injEq] at h
  obtain ⟨rfl,rfl,rfl⟩:=h
  exact ⟨Eng.Ext.refl _,fun ok β a w hF hH b k cs Stop hb hQ=>hQ a w β hF hH (Stp.refl ..)⟩
 | p :: ps,F,S,o,F',S',h=>by
  simp only [goS] at h
  split at h
  case h_2=>cases h
  rename_i o1 F1 S1 h1
  split at h
  case h_2=>cases h
  obtain ⟨x1,x2⟩:=goP_ok hs hl f p hf _ _ _ _ _ h1
  obtain ⟨y1,y2⟩:=goS_ok hs hl f hf t ps _ _ _ _ _ h
  refine ⟨x1.trans y1,fun ok β a w hF hH b k cs Stop hb hQ=>?_⟩
  refine GoesJ.ctl rfl hb.2 (fun w₁=>stepG_seq) ?_
  refine x2 (y1.ok ok) β a w hF hH (fun e a' w'=>e = .normal ∧ GoesJ Tryd.prog Stop (G (b.at a' (.code (seqTo (bodyIn Tryd.prog f) ps t) :: k)) cs) w') (fun a' w' β' q1 q2 q3=>⟨rfl,?_⟩) b (.code (seqTo (bodyIn Tryd.prog f) ps t) :: k) cs Stop hb (fun e a' w' q=>?_)
  ·exact y2 ok β' a' w' q1 q2 b k cs Stop hb fun a'' w'' β'' r1 r2 r3=>hQ a'' w'' β'' r1 r2 (q3.trans r3)
  ·obtain ⟨rfl,q⟩:=q
   exact q
theorem goS_step {spec:FuncId → Option Eng.Spec} {loop:FuncId → Nat → Option LSpec} (hs:∀ f sp,spec f = some sp → SpecOk Tryd.prog noGlob f sp) (hl:LoopsOk (cfg spec loop) noGlob) {f:Nat} (hf:Fine f) (t:Code) {ps:List (List Bool)}
 {p:Fr × List Blk} {F:Fr} {H:List Blk} {dec cs:List Bool} {rs:Option (List Nat)} {o:Out} (hr:ranAs H.length rs p (goS spec loop f ps F ⟨H,big,dec,[]⟩) = some (o,p,cs)) (hcs:∀ x ∈ cs,x = true)
 {β:Map} {w:World} {a:Act} (hF:FRel (nv f) (ntmpsIn Tryd.prog f) β F a) (hH:HRel noGlob β H w) (b:Frame) (k:List Item) (fs:List Frame) (Stop:Goroutine → World → Prop) (hb:OkF b)
 (hQ:∀ a' w' β',FRel (nv f) (ntmpsIn Tryd.prog f) β' p.1 a' → HRel noGlob β' p.2 w' → Stq H.length β H w β' p.2 w' → (∀ b,b < H.length → β' b = β b) → GoesJ Tryd.prog Stop (G (b.at a' (.code t :: k)) fs) w') :
 GoesJ Tryd.prog Stop (G (b.at a (.code (seqTo (bodyIn Tryd.prog f) ps t) :: k)) fs) w:=by
 obtain ⟨F2,S2,r1,r3,r4,r5⟩:=ranAs_inv hr
 obtain ⟨x1,x2⟩:=goS_ok hs hl f hf t ps _ _ _ _ _ r1
 refine x2 (fun x hx=>hcs x (by rw [← r5];exact hx)) β a w hF hH b k fs Stop hb fun a2 w2 β2 q1 q2 q3=>?_
 have hl2:H.length ≤ S2.H.length:=x1.len
 obtain ⟨β3,z1,z2,z3,z4,z5⟩:=weaker (n0:=H.length) ((Stp.refl β H w).q (Nat.le_refl _)) (fun b L h=>hH.dom b L h) (Nat.le_refl _) hl2 r3 r4 q1 q2 q3
 exact hQ a2 w2 β3 z1 z2 z3 (fun b hb=>(z5 b hb).trans (q3.old b hb))
end
section
open Go Go.Eng
variable [RowAddr] [Co] [SeatCo]
def Z1024:Vec 8:=Vec.of (List.replicate 1024 0#8)
def Y1024:Vec 64:=Vec.of (List.replicate 1024 0#64)
def hw0 (h:Vec 8):Vec 8:=Vec.of [h.l.getD 0 0#8,h.l.getD 1 0#8,h.l.getD 2 0#8,h.l.getD 3 0#8,h.l.getD 4 0#8,h.l.getD 5 0#8,h.l.getD 6 0#8,h.l.getD 7 0#8,h.l.getD 8 0#8,h.l.getD 9 0#8,h.l.getD 10 0#8,h.l.getD 11 0#8,h.l.getD 12 0#8,h.l.getD 13 0#8,h.l.getD 14 0#8,h.l.getD 15 0#8,h.l.getD 16 0#8,h.l.getD 17 0#8,h.l.getD 18 0#8,h.l.getD 19 0#8,h.l.getD 20 0#8,h.l.getD 21 0#8,h.l.getD 22 0#8,h.l.getD 23 0#8,h.l.getD 24 0#8,h.l.getD 25 0#8,h.l.getD 26 0#8,h.l.getD 27 0#8,h.l.getD 28 0#8,h.l.getD 29 0#8,h.l.getD 30 0#8,h.l.getD 31 0#8,h.l.getD 32 0#8,h.l.getD 33 0#8,h.l.getD 34 0#8,h.l.getD 35 0#8,h.l.getD 36 0#8,h.l.getD 37 0#8,h.l.getD 38 0#8,h.l.getD 39 0#8,h.l.getD 40 0#8,h.l.getD 41 0#8,h.l.getD 42 0#8,h.l.getD 43 0#8,h.l.getD 44 0#8,h.l.getD 45 0#8,h.l.getD 46 0#8,h.l.getD 47 0#8,h.l.getD 48 0#8,h.l.getD 49 0#8,h.l.getD 50 0#8,h.l.getD 51 0#8,h.l.getD 52 0#8,h.l.getD 53 0#8,h.l.getD 54 0#8,h.l.getD 55 0#8,h.l.getD 56 0#8,h.l.getD 57 0#8,h.l.getD 58 0#8,h.l.getD 59 0#8,h.l.getD 60 0#8,h.l.getD 61 0#8,h.l.getD 62 0#8,h.l.getD 63 0#8,0#8,0#8,0#8,0#8,0#8,0#8,0#8,0#8]
def hw1 (h:Vec 8):Vec 8:=Vec.of [h.l.getD 0 0#8,h.l.getD 1 0#8,h.l.getD 2 0#8,h.l.getD 3 0#8,h.l.getD 4 0#8,h.l.getD 5 0#8,h.l.getD 6 0#8,h.l.getD 7 0#8,h.l.getD 8 0#8,h.l.getD 9 0#8,h.l.getD 10 0#8,h.l.getD 11 0#8,h.l.getD 12 0#8,h.l.getD 13 0#8,h.l.getD 14 0#8,h.l.getD 15 0#8,h.l.getD 16 0#8,h.l.getD 17 0#8,h.l.getD 18 0#8,h.l.getD 19 0#8,h.l.getD 20 0#8,h.l.getD 21 0#8,h.l.getD 22 0#8,h.l.getD 23 0#8,h.l.getD 24 0#8,h.l.getD 25 0#8,h.l.getD 26 0#8,h.l.getD 27 0#8,h.l.getD 28 0#8,h.l.getD 29 0#8,h.l.getD 30 0#8,h.l.getD 31 0#8,h.l.getD 32 0#8,h.l.getD 33 0#8,h.l.getD 34 0#8,h.l.getD 35 0#8,h.l.getD 36 0#8,h.l.getD 37 0#8,h.l.getD 38 0#8,h.l.getD 39 0#8,h.l.getD 40 0#8,h.l.getD 41 0#8,h.l.getD 42 0#8,h.l.getD 43 0#8,h.l.getD 44 0#8,h.l.getD 45 0#8,h.l.getD 46 0#8,h.l.getD 47 0#8,h.l.getD 48 0#8,h.l.getD 49 0#8,h.l.getD 50 0#8,h.l.getD 51 0#8,h.l.getD 52 0#8,h.l.getD 53 0#8,h.l.getD 54 0#8,h.l.getD 55 0#8,h.l.getD 56 0#8,h.l.getD 57 0#8,h.l.getD 58 0#8,h.l.getD 59 0#8,h.l.getD 60 0#8,h.l.getD 61 0#8,h.l.getD 62 0#8,h.l.getD 63 0#8,1#8,0#8,0#8,0#8,0#8,0#8,0#8,0#8]
def blk0 (h:Vec 8):Vec 8:=hashV Z1024 (hw0 h) 0 1024 1024 0 72
def blk1 (h:Vec 8):Vec 8:=hashV (blk0 h) (hw1 h) 0 1024 1024 0 72
def mem0 (h:Vec 8):kb0D:=iter kb0_next ((128 - (0:Int)).toNat) ⟨hw0 h,blk0 h,Y1024,0⟩
def mem1 (h:Vec 8):kb1D:=iter kb1_next ((128 - (0:Int)).toNat) ⟨hw1 h,blk1 h,(mem0 h).X,0⟩
def startV (h:Vec 8):Vec 64:=(mem1 h).X
structure c35D where
 h:Vec 8
def c35_rd (a:List AV) (K:List Blk):Option c35D:=
 match a with
 | [(.ref (.ptr 0 (.c 0))),(.num (.int .u32 (.c 8))),(.num (.int .u32 (.c 1)))]=>
  match K with
  | [⟨(.gen xs_h),.own⟩]=>
   (match rd8 72 xs_h with
   | some h=>some ⟨h⟩
   | none=>none)
  | _=>none
 | _=>none
def c35:Ct c35D where
 pat:=[(.ptr 0 (.c 0)),(.int .u32 (.c 8)),(.int .u32 (.c 1))]
 patH:=[⟨(.gen (List.replicate 72 (.w8 0#8))),.own⟩]
 read:=c35_rd
 args:=fun ⟨_⟩=>[(.ptr 0 (.c 0)),(.int .u32 (.c 8)),(.int .u32 (.c 1))]
 heap:=fun ⟨h⟩=>[⟨(.gen (c8v h 72)),.own⟩]
 out:=fun ⟨h⟩=>[⟨(.b8 (hw1 h)),.own⟩,⟨(.b64 (startV h)),.own⟩]
 val:=fun ⟨_⟩=>(.sm 1 (.c 8) 128)
 good:=fun ⟨_⟩=>decide (True)
set_option maxRecDepth 100000 in
theorem c35_read (a:List AV) (K:List Blk) (d:c35D) (h:c35.read a K = some d):a = c35.args d ∧ K = c35.heap d:=by
 replace h:c35_rd a K = some d:=h
 unfold c35_rd at h
 split at h
 case h_2=>cases h
 split at h
 case h_2=>cases h
 split at h
 case h_2=>cases h
 rename_i hr0
 obtain ⟨rfl,_⟩:=rd8_eq hr0
 injection h with h;subst h
 exact ⟨rfl,rfl⟩
def z1024:List AV:=List.replicate 1024 (.int .u8 (.c 0))
def y1024:List AV:=List.replicate 1024 (.int .u64 (.c 0))
def f35_0:Fr:=⟨[.ref (.ptr 0 (.c 0)),.num (.int .u32 (.c 8)),.num (.int .u32 (.c 1)),.undef,.undef,.undef,.undef,.undef,.undef,.undef,.undef,.undef,.undef],[]⟩
def f35_2:Fr:=⟨[.ref (.ptr 0 (.c 0)),.num (.int .u32 (.c 8)),.num (.int .u32 (.c 1)),.undef,.undef,.undef,.nils,.ref (.ptr 1 (.c 0)),.undef,.undef,.undef,.undef,.undef],[]⟩
def f35_3:Fr:=⟨[.ref (.ptr 0 (.c 0)),.num (.int .u32 (.c 8)),.num (.int .u32 (.c 1)),.undef,.undef,.undef,.nils,.ref (.ptr 1 (.c 0)),.ref (.sm 2 (.c 8) 128),.undef,.undef,.undef,.undef],[(14,.ref (.sm 2 (.c 8) 128)),(13,.num (.int .u32 (.c 8)))]⟩
def f35_9:Fr:=⟨[.undef,.undef,.undef,.undef,.undef,.undef,.ref (.sm 1 (.c 8) 128),.undef,.undef,.undef,.undef,.undef,.undef],[]⟩
theorem i35a (h:Vec 8):ranAs 1 (some [0,1]) (f35_2,[⟨.gen (c8v h 72),.own⟩,⟨.gen z1024,.own⟩]) (goS specs35 kbs 35 [[false],[true,false]] f35_0 ⟨[⟨.gen (c8v h 72),.own⟩],big,[],[]⟩) = some (.normal,(f35_2,[⟨.gen (c8v h 72),.own⟩,⟨.gen z1024,.own⟩]),[]):=by kernel_rfl
theorem i35b (h:Vec 8):ranAs 1 (some [0,2]) (f35_9,[⟨.b8 (hw1 h),.own⟩,⟨.b64 (startV h),.own⟩]) (goP specs35 kbs 35 [true,true,true] f35_3 ⟨[⟨.gen (c8v h 72),.own⟩,⟨.gen z1024,.own⟩,⟨.b64 Y1024,.own⟩],big,[],[]⟩) = some (.ret,(f35_9,[⟨.b8 (hw1 h),.own⟩,⟨.b64 (startV h),.own⟩]),[decide (((0:Int) ≤ 0 ∧ ((0:Int) ≤ 128 ∧ ((1024:Nat) = 1024 ∧ (1024:Nat) = 1024)))),decide (((1:Nat) ≤ (1024:Nat) ∧ ((1024:Nat) ≤ (1024 - (0:Nat)) ∧ (((0 + ((0:Nat) * 1)) + (1024 - (0:Nat))) ≤ 1024 ∧ ((1024 - (0:Nat)) ≤ 1099511627776 ∧ (((0 + ((0:Nat) * 1)) + (72:Nat)) ≤ 72 ∧ (72:Nat) ≤ 1099511627776)))))),decide ((72:Nat) ≤ 72),decide ((1024:Nat) ≤ 1024),decide ((67:Nat) < 72),decide ((66:Nat) < 72),decide ((65:Nat) < 72),decide ((64:Nat) < 72),decide ((67:Nat) < 72),decide ((72:Nat) ≤ 72),decide (((0:Int) ≤ 0 ∧ ((0:Int) ≤ 128 ∧ ((1024:Nat) = 1024 ∧ (1024:Nat) = 1024)))),decide (((1:Nat) ≤ (1024:Nat) ∧ ((1024:Nat) ≤ (1024 - (0:Nat)) ∧ (((0 + ((0:Nat) * 1)) + (1024 - (0:Nat))) ≤ 1024 ∧ ((1024 - (0:Nat)) ≤ 1099511627776 ∧ (((0 + ((0:Nat) * 1)) + (72:Nat)) ≤ 72 ∧ (72:Nat) ≤ 1099511627776))))))]):=by kernel_rfl
end
section
open Go Go.Eng
noncomputable def ops352:Array Oper:=match sub [true,true,false] (bodyIn Tryd.prog 35) with | .region _ o _=>o | _=>#[]
theorem body35:bodyIn Tryd.prog 35 = seqTo (bodyIn Tryd.prog 35) [[false],[true,false]] (.seq (.region 2 ops352 false) (sub [true,true,true] (bodyIn Tryd.prog 35))):=by kernel_rfl
noncomputable def oM (i:Nat):Oper:=ops352.getD i { dst:=none,op:=.move (.tmp 0),type:=0,pos:="",after:=#[],guard:=none }
theorem oM_get:List.range ops352.size = [0,1,2] ∧ ops352[0]? = some (oM 0) ∧ ops352[1]? = some (oM 1) ∧ ops352[2]? = some (oM 2):=⟨by kernel_rfl,by kernel_rfl,by kernel_rfl,by kernel_rfl⟩
theorem oM_dst:(oM 0).dst = some 13 ∧ (oM 1).dst = some 14 ∧ (oM 2).dst = some 8:=⟨by kernel_rfl,by kernel_rfl,by kernel_rfl⟩
theorem oM_want (y:Nat → Option Bool):Region.wanted (oM 0) y = true ∧ Region.wanted (oM 1) y = true ∧ Region.wanted (oM 2) y = true:=⟨by kernel_rfl,by kernel_rfl,by kernel_rfl⟩
theorem oM_op:(oM 0).op = .move (.tmp 1) ∧ (oM 1).op = .makeSlice 81 (.tmp 13) (.tmp 13) ∧ (oM 2).op = .assign (.tmp 14):=⟨by kernel_rfl,by kernel_rfl,by kernel_rfl⟩
variable [RowAddr] [Co] [SeatCo]
theorem mkOp:makeSliceOp Tryd.prog 81 (.int .u32 (.c 8)) (.int .u32 (.c 8)) ⟨[],big,[],[]⟩ = some (.ref (.sl 0 (.c 0) (.c 8) (some (.c 8))),⟨[⟨.gen y1024,.own⟩],big,[],[]⟩):=by kernel_rfl
theorem y_cells {vs:List Value} (h:LRel (fun _=>none) y1024 vs):vs = List.replicate 1024 (.int .u64 0):=by
 obtain ⟨h1,h2⟩:=h
 have hl:vs.length = 1024:=by rw [← h1];exact List.length_replicate
 refine List.eq_replicate_iff.2 ⟨hl,fun v hv=>?_⟩
 obtain ⟨i,hi⟩:=List.getElem?_of_mem hv
 have hi':i < 1024:=by rw [← hl];exact (List.getElem?_eq_some_iff.1 hi).1
 have hx:y1024[i]? = some (.num (.int .u64 (.c 0))):=by unfold y1024;rw [List.getElem?_replicate,if_pos hi']
 exact (h2 i _ _ hx hi).num_inv
theorem mk_run:∃ e,∀ w:World,(Instr.makeSlice 81 (.int .u32 8) (.int .u32 8)).runQ Tryd.prog w = .ok (.slice (some (at' w.heap.size 0)) 8 8) (w.alloc (.cells ⟨List.replicate 1024 (.int .u64 0)⟩ e)):=by
 obtain ⟨S2,d,n,cp,hp,hS,hx,hh⟩:=makeSliceOp_run mkOp (β:=fun _=>none) (.num (.int .u32 (.c 8))) (.num (.int .u32 (.c 8)))
 obtain ⟨vs,e,h1,h2,h3,h4⟩:=hh (fun x hx=>by cases hx)
 have hH:S2.H = []:=hp.H
 have hx:AV.ref (.sl 0 (.c 0) (.c 8) (some (.c 8))) = .ref (.sl S2.H.length (.c 0) n (some cp)):=hx
 rw [hH] at hx
 injection hx with hx
 injection hx with _ _ hn hc
 injection hc with hc
 subst hn hc
 have hd:d = .gen y1024:=by
  have:=congrArg St.H hS
  simp only [St.new,hH,List.nil_append] at this
  injection this with this
  injection this with this
  exact this.symm
 subst hd
 have hv:=y_cells (h1 _)
 subst hv
 exact ⟨e,h2⟩
theorem y_rel {β:Map}:LRel β (Eng.Data.b64 Y1024).list (List.replicate 1024 (.int .u64 0)):=by
 have hy:(Eng.Data.b64 Y1024).list.length = 1024:=by rw [Data.list_len];exact List.length_replicate
 refine ⟨by rw [hy,List.length_replicate],fun i x v hx hv=>?_⟩
 have hx':((List.replicate 1024 0#64).map AV.w64)[i]? = some x:=hx
 rw [List.map_replicate,List.getElem?_replicate] at hx'
 rw [List.getElem?_replicate] at hv
 split at hx'
 ·rename_i hi
  rw [if_pos hi] at hv
  injection hx' with hx';injection hv with hv
  subst hx' hv
  exact .num (.w64 0#64)
 ·cases hx'
theorem make35 {β:Map} {h:Vec 8} {a:Act} {w:World} (hF:FRel (nv 35) (ntmpsIn Tryd.prog 35) β f35_2 a) (hH:HRel noGlob β [⟨.gen (c8v h 72),.own⟩,⟨.gen z1024,.own⟩] w) {Q:Exit → Act → World → Prop}
 (hQ:∀ a' w' β',FRel (nv 35) (ntmpsIn Tryd.prog 35) β' f35_3 a' → HRel noGlob β' [⟨.gen (c8v h 72),.own⟩,⟨.gen z1024,.own⟩,⟨.b64 Y1024,.own⟩] w' → Stp β [⟨.gen (c8v h 72),.own⟩,⟨.gen z1024,.own⟩] w β' [⟨.gen (c8v h 72),.own⟩,⟨.gen z1024,.own⟩,⟨.b64 Y1024,.own⟩] w' → Q .normal a' w') :
 (Code.region 2 ops352 false).wpj Tryd.prog Q a w:=by
 obtain ⟨e,hrun⟩:=mk_run
 have hnt:ntmpsIn Tryd.prog 35 = 82:=by kernel_rfl
 have hs:a.tmps.size = 82:=hF.size.trans hnt
 refine wpj_region ?_
 rw [oM_get.1]
 simp only [wpOpsJ,oM_get.2.1,oM_get.2.2.1,oM_get.2.2.2,(oM_want _).1,(oM_want _).2.1,(oM_want _).2.2,if_true]
 intro w₁ r₁
 have h1:a.eval (.tmp 1) = .int .u32 8:=(hF.val 1).num_inv
 refine ⟨.value (.int .u32 8),w₁,by simp [execOp,oM_op.1,h1],fun _=>⟨Far.refl _,?_⟩⟩
 rw [oM_dst.1]
 have hF1:=hF.put (d:=some 13) (fun x hx=>by injection hx with hx;omega) (VRel.num (β:=β) (.int .u32 (.c 8)))
 have hH1:=hH.rely r₁
 intro w₂ r₂
 have e13:(a.put (some 13) (.int .u32 8)).eval (.tmp 13) = .int .u32 8:=by simp [Act.put,Act.eval,Array.getD_eq_getD_getElem?,hs]
 refine ⟨.value (.slice (some (at' w₂.heap.size 0)) 8 8),w₂.alloc (.cells ⟨List.replicate 1024 (.int .u64 0)⟩ e),?_,fun hn=>⟨far_alloc _ _,?_⟩⟩
 ·simp only [execOp,oM_op.2.1,e13]
  rw [Sem.runQ_bind,hrun]
  rfl
 rw [oM_dst.2.1]
 have hH2:=hH1.rely r₂
 have el:(List.replicate 1024 (Value.int .u64 0)).length = 1024:=List.length_replicate
 have hyl:(Eng.Data.b64 Y1024).len = 1024:=List.length_replicate
 obtain ⟨n1,n2⟩:=hH2.new (.b64 Y1024) (List.replicate 1024 (.int .u64 0)) e (by rw [hyl,el];exact Nat.le_refl _) (by rw [hyl,List.take_of_length_le (by rw [el];exact Nat.le_refl _)];exact y_rel) (new_alloc hn)
 have hsm:VRel (β.put 2 ⟨w₂.heap.size,0,1024⟩) (.ref (.sm 2 (.c 8) 128)) (.slice (some (at' w₂.heap.size 0)) 8 8):=
  .sm 2 (.c 8) 128 _ 8 (Nat.le_refl _) (.inr ⟨_,Map.put_same ..,rfl,Nat.le_refl 1024⟩)
 rw [el] at n1 n2
 have hF2:=(hF1.mono n2.le).put (d:=some 14) (fun x hx=>by injection hx with hx;omega) hsm
 intro w₃ r₃
 have e14:((a.put (some 13) (.int .u32 8)).put (some 14) (.slice (some (at' w₂.heap.size 0)) 8 8)).eval (.tmp 14) = .slice (some (at' w₂.heap.size 0)) 8 8:=by simp [Act.put,Act.eval,Array.getD_eq_getD_getElem?,hs]
 refine ⟨.value (.slice (some (at' w₂.heap.size 0)) 8 8),w₃,by simp [execOp,oM_op.2.2,e14],fun _=>⟨Far.refl _,?_⟩⟩
 rw [oM_dst.2.2]
 have hF3:=hF2.put (d:=some 8) (fun x hx=>by injection hx with hx;omega) hsm
 exact hQ _ _ _ hF3 (n1.rely r₃) (((r₁.stp _ _).trans ((r₂.stp _ _).trans n2)).trans (r₃.stp _ _))
end
section
open Go Go.Eng
variable [RowAddr] [Co] [SeatCo]
theorem goS_wp {spec:FuncId → Option Eng.Spec} {loop:FuncId → Nat → Option LSpec} (hs:∀ f sp,spec f = some sp → SpecOk Tryd.prog noGlob f sp) (hl:LoopsOk (cfg spec loop) noGlob) {f:Nat} (hf:Fine f) (t:Code) {ps:List (List Bool)}
 {p:Fr × List Blk} {F:Fr} {H:List Blk} {dec cs:List Bool} {rs:Option (List Nat)} {o:Out} (hr:ranAs H.length rs p (goS spec loop f ps F ⟨H,big,dec,[]⟩) = some (o,p,cs)) (hcs:∀ x ∈ cs,x = true)
 {β:Map} {w:World} {a:Act} (hF:FRel (nv f) (ntmpsIn Tryd.prog f) β F a) (hH:HRel noGlob β H w) {Q:Exit → Act → World → Prop}
 (hQ:∀ a' w' β',FRel (nv f) (ntmpsIn Tryd.prog f) β' p.1 a' → HRel noGlob β' p.2 w' → Stq H.length β H w β' p.2 w' → (∀ b,b < H.length → β' b = β b) → t.wpj Tryd.prog Q a' w'):(seqTo (bodyIn Tryd.prog f) ps t).wpj Tryd.prog Q a w:=
 fun b k fs Stop hb hc=>goS_step hs hl hf t hr hcs hF hH b k fs Stop hb fun a' w' β' q1 q2 q3 q4=>hQ a' w' β' q1 q2 q3 q4 b k fs Stop hb hc
theorem nil_ok:∀ x ∈ ([]:List Bool),x = true:=fun x h=>by cases h
set_option maxRecDepth 20000 in
theorem c35_ok:SpecOk Tryd.prog noGlob 35 c35.spec:=by
 refine c35.sem c35_read fun d hg β w vs hargs hH hdB=>?_
 obtain ⟨h⟩:=d
 have hnt:ntmpsIn Tryd.prog 35 = 82:=by kernel_rfl
 refine calls_body (C:=cfg specs35 kbs) rfl (f:=35) (SeatCo.plain 35 (by kernel_rfl)) (by kernel_rfl) hargs (by show 3 ≤ ntmpsIn Tryd.prog 35;rw [hnt];decide) fun a hF=>?_
 show (bodyIn Tryd.prog 35).wpj _ _ _ _
 rw [body35]
 have hH:HRel noGlob β [⟨.gen (c8v h 72),.own⟩] w:=hH
 have hF:FRel (nv 35) (ntmpsIn Tryd.prog 35) β f35_0 a:=hF
 refine goS_wp (H:=[⟨.gen (c8v h 72),.own⟩]) (p:=(f35_2,[⟨.gen (c8v h 72),.own⟩,⟨.gen z1024,.own⟩])) specs35_ok (kbs_ok _) fine35 _ (i35a h) nil_ok hF hH fun a1 w1 β1 f1 h1 s1 _=>wpj_seq (make35 (h:=h) f1 h1 fun a2 w2 β2 f2 h2 s2=>?_)
 refine (goP_ok specs35_ok (kbs_ok _) 35 [true,true,true] fine35).step (n0:=1) (i35b h) ?_ (Nat.le_refl _) (by show 1 ≤ 3;decide) hdB f2 h2 (s1.trans s2) fun a3 w3 β3 f3 h3 s3 _ _=>?_
 ·exact fun x hx=>List.all_eq_true.1 (show List.all _ id = true by kernel_rfl) x hx
 ·exact ⟨rfl,f35_9,⟨[⟨.b8 (hw1 h),.own⟩,⟨.b64 (startV h),.own⟩],big,[],[]⟩,⟨[⟨.b8 (hw1 h),.own⟩,⟨.b64 (startV h),.own⟩],big,[],[]⟩,[.sm 1 (.c 8) 128],β3,by kernel_rfl,nil_ok,f3,h3,fun u hu=>⟨u,β3,rfl,hu,h3,s3⟩⟩
end
section
open Go.Eng
variable [RowAddr] [Co] [SeatCo]
def pick (Y:Vec 64) (i:Int):BitVec 64:=((List.range 128).map fun j=>Y.l.getD j 0#64).getD i.toNat 0#64
def put64 (b:Vec 8) (i:Int) (x:BitVec 64):Vec 8:=((((((((b.set ((0 + (i * 8).toNat * 1) + 0) (x.setWidth 8)).set ((0 + (i * 8).toNat * 1) + 1) ((x >>> 8).setWidth 8)).set ((0 + (i * 8).toNat * 1) + 2) ((x >>> 16).setWidth 8)).set ((0 + (i * 8).toNat * 1) + 3) ((x >>> 24).setWidth 8)).set ((0 + (i * 8).toNat * 1) + 4) ((x >>> 32).setWidth 8)).set ((0 + (i * 8).toNat * 1) + 5) ((x >>> 40).setWidth 8)).set ((0 + (i * 8).toNat * 1) + 6) ((x >>> 48).setWidth 8)).set ((0 + (i * 8).toNat * 1) + 7) ((x >>> 56).setWidth 8))
structure keD where
 X:Vec 64
 b:Vec 8
 Y:Vec 64
 i:Int
def ke_st (d:keD):Fr × List Blk:=
 match d with
 | ⟨X,b,Y,i⟩=>(⟨[(.ref (.sm 0 (.c 8) 128)),(.num (.int .u32 (.c 8))),(.num (.int .u32 (.c 1))),(.num (.int .u32 (.c 4))),(.atom .undef),(.atom .undef),(.atom .undef),(.atom .undef),(.atom .nils),(.num (.int .u32 (.c 8))),(.num (.int .u32 (.c 0))),(.atom .undef),(.atom .undef),(.ref (.ptr 1 (.c 0))),(.atom .undef),(.atom .undef),(.atom .undef)],[⟨56,(.num (.int .i64 (.s i)))⟩,⟨55,(.agg (c64v Y 128))⟩]⟩,[⟨(.b64 X),.own⟩,⟨(.b8 b),.own⟩])
def ke_next (d:keD):keD:=
 match d with
 | ⟨X,b,Y,i⟩=>⟨X,put64 b i (pick Y i),Y,i + 1⟩
def ke_rd (F:Fr) (K:List Blk):Option keD:=
 match F with
 | ⟨[(.ref (.sm 0 (.c 8) 128)),(.num (.int .u32 (.c 8))),(.num (.int .u32 (.c 1))),(.num (.int .u32 (.c 4))),(.atom .undef),(.atom .undef),(.atom .undef),(.atom .undef),(.atom .nils),(.num (.int .u32 (.c 8))),(.num (.int .u32 (.c 0))),(.atom .undef),(.atom .undef),(.ref (.ptr 1 (.c 0))),(.atom .undef),(.atom .undef),(.atom .undef)],[⟨56,(.num (.int .i64 (.s i)))⟩,⟨55,(.agg xs_Y)⟩]⟩=>
  match K with
  | [⟨(.b64 X),.own⟩,⟨(.b8 b),.own⟩]=>
   (match rd64 128 xs_Y with
   | some Y=>some ⟨X,b,Y,i⟩
   | none=>none)
  | _=>none
 | _=>none
def ke:LoopP keD where
 pat:=⟨[(.sm 0 (.c 8) 128),(.int .u32 (.c 8)),(.int .u32 (.c 1)),(.int .u32 (.c 4)),.undef,.undef,.undef,.undef,(.atom .nils),(.int .u32 (.c 8)),(.int .u32 (.c 0)),.undef,.undef,(.ptr 1 (.c 0)),.undef,.undef,.undef],[⟨56,(.int .i64 (.s 0))⟩,⟨55,(.agg (List.replicate 128 (.w64 0#64)))⟩]⟩
 patH:=[⟨(.b64 (Vec.zero 64 0)),.own⟩,⟨(.b8 (Vec.zero 8 0)),.own⟩]
 gh:=[]
 read:=ke_rd
 st:=ke_st
 next:=ke_next
 rem:=fun ⟨_,_,_,i⟩=>(128 - i).toNat
 good:=fun ⟨_,b,_,i⟩=>decide (0 ≤ i ∧ i ≤ 128 ∧ b.n = 1024)
 out:=.exit 4
 fin:=ke_st
theorem ke_round (X:Vec 64) (b:Vec 8) (Y:Vec 64) (i:Int):ranAs ((ke.st ⟨X,b,Y,i⟩).2.length - ke.gh.length) (some [0,1]) (ke.st (ke_next ⟨X,b,Y,i⟩)) (goL noSpec noLoop 37 2 (ke.st ⟨X,b,Y,i⟩).1 ⟨(ke.st ⟨X,b,Y,i⟩).2,big,[true],[]⟩) = some (.normal,(ke.st (ke_next ⟨X,b,Y,i⟩)),[decide ((((-9223372036854775808):Int) ≤ (i + 1) ∧ (i + 1) ≤ 9223372036854775807)),decide (((0 + ((((i * 8)):Int).toNat * 1)) + 7) < b.n),(true && decide ((7:Int) < ((((1024:Nat) - (((i * 8)):Int).toNat):Nat):Int))),decide (((0 + ((((i * 8)):Int).toNat * 1)) + 6) < b.n),(true && decide ((6:Int) < ((((1024:Nat) - (((i * 8)):Int).toNat):Nat):Int))),decide (((0 + ((((i * 8)):Int).toNat * 1)) + 5) < b.n),(true && decide ((5:Int) < ((((1024:Nat) - (((i * 8)):Int).toNat):Nat):Int))),decide (((0 + ((((i * 8)):Int).toNat * 1)) + 4) < b.n),(true && decide ((4:Int) < ((((1024:Nat) - (((i * 8)):Int).toNat):Nat):Int))),decide (((0 + ((((i * 8)):Int).toNat * 1)) + 3) < b.n),(true && decide ((3:Int) < ((((1024:Nat) - (((i * 8)):Int).toNat):Nat):Int))),decide (((0 + ((((i * 8)):Int).toNat * 1)) + 2) < b.n),(true && decide ((2:Int) < ((((1024:Nat) - (((i * 8)):Int).toNat):Nat):Int))),decide (((0 + ((((i * 8)):Int).toNat * 1)) + 1) < b.n),(true && decide ((1:Int) < ((((1024:Nat) - (((i * 8)):Int).toNat):Nat):Int))),decide (((0 + ((((i * 8)):Int).toNat * 1)) + 0) < b.n),(true && decide ((0:Int) < ((((1024:Nat) - (((i * 8)):Int).toNat):Nat):Int))),decide (((0 + ((((i * 8)):Int).toNat * 1)) + 7) < b.n),(true && decide ((7:Int) < ((((1024:Nat) - (((i * 8)):Int).toNat):Nat):Int))),((decide ((0:Int) ≤ (i * 8)) && decide ((i * 8) ≤ ((1024:Nat):Int))) && true),decide ((1024:Nat) ≤ b.n),decide ((((-9223372036854775808):Int) ≤ (i * 8) ∧ (i * 8) ≤ 9223372036854775807)),(decide ((0:Int) ≤ i) && decide (i < ((128:Nat):Int))),(decide (i < 128) == true)]):=by kernel_rfl
theorem ke_end (X:Vec 64) (b:Vec 8) (Y:Vec 64) (i:Int):ranAs ((ke.st ⟨X,b,Y,i⟩).2.length - ke.gh.length) none (ke.fin ⟨X,b,Y,i⟩) (goL noSpec noLoop 37 2 (ke.st ⟨X,b,Y,i⟩).1 ⟨(ke.st ⟨X,b,Y,i⟩).2,big,[false],[]⟩) = some (ke.out,(ke.fin ⟨X,b,Y,i⟩),[(decide (i < 128) == false)]):=by kernel_rfl
set_option maxRecDepth 100000 in
theorem ke_read (F:Fr) (K:List Blk) (d:keD) (h:ke.read F K = some d):(F,K) = ke.st d:=by
 replace h:ke_rd F K = some d:=h
 unfold ke_rd at h
 split at h
 case h_2=>cases h
 split at h
 case h_2=>cases h
 split at h
 case h_2=>cases h
 rename_i hr0
 obtain ⟨rfl,_⟩:=rd64_eq hr0
 injection h with h;subst h
 rfl
theorem ke_body:RunOk Tryd.prog noGlob (nv 37) (ntmpsIn Tryd.prog 37) (loopIn Tryd.prog 37 2) (goL noSpec noLoop 37 2):=goL_ok no_specs (no_loops _) 37 2 fine37 (by rw [show (loopsIn Tryd.prog 37).length = 3 by kernel_rfl];omega)
theorem ke_toldL:LoopOk Tryd.prog noGlob (nv 37) (ntmpsIn Tryd.prog 37) (loopIn Tryd.prog 37 2) ke.T.told:=by
 refine ke.ran ke_body (by intro k hk;have hk:k ∈ ([]:List Blk):=hk;cases hk) (by intro h;cases h) ke_read ?_ ?_
 ·rintro ⟨X,b,Y,i⟩ kk hg hr
  have hg:0 ≤ i ∧ i ≤ 128 ∧ b.n = 1024:=of_decide_eq_true hg
  have hr:(128 - i).toNat = kk + 1:=hr
  have en:ke.next ⟨X,b,Y,i⟩ = ke_next ⟨X,b,Y,i⟩:=rfl
  rw [en]
  refine ⟨⟨[true],(some [0,1]),_,ke_round X b Y i,?_⟩,?_,?_,(show (ke.st (ke_next ⟨X,b,Y,i⟩)).2.length = 2 by kernel_rfl).trans (show (ke.st ⟨X,b,Y,i⟩).2.length = 2 by kernel_rfl).symm⟩
  ·repeat' (refine all_true_cons ?_ ?_)
   all_goals first | exact all_true_nil | rfl | (simp only [bq] <;> omega)
  ·have e:ke.good (ke_next ⟨X,b,Y,i⟩) = decide (0 ≤ (i + 1:Int) ∧ (i + 1:Int) ≤ 128 ∧ (put64 b i (pick Y i):Vec 8).n = 1024):=by kernel_rfl
   refine e.trans (decide_eq_true ?_)
   have e1:(put64 b i (pick Y i)).n = b.n:=rfl;omega
  ·have e:ke.rem (ke_next ⟨X,b,Y,i⟩) = ((128 - (i + 1:Int)).toNat):=by kernel_rfl
   refine e.trans ?_
   omega
 ·rintro ⟨X,b,Y,i⟩ hg hr
  have hg:0 ≤ i ∧ i ≤ 128 ∧ b.n = 1024:=of_decide_eq_true hg
  have hr:(128 - i).toNat = 0:=hr
  refine ⟨[false],none,_,ke_end X b Y i,?_⟩
  repeat' (refine all_true_cons ?_ ?_)
  all_goals first | exact all_true_nil | rfl | (simp only [bq] <;> omega)
def ke_spec:LSpec:=ke.T.told
theorem ke_told:Told 37 2 ke_spec:=ke_toldL.run
def kes:FuncId → Nat → Option LSpec
 | 37,12=>some ke_spec
 | _,_=>none
theorem kes_len:(loopsIn Tryd.prog 37).length = 3:=by kernel_rfl
theorem kes_ok (spec:FuncId → Option Eng.Spec):LoopsOk (cfg spec kes) noGlob:=by
 refine LoopsOk.of fun f=>?_
 by_cases hf:f = 37
 ·subst hf
  refine .inr ⟨by kernel_rfl,fun i hi sp hsp=>?_⟩
  have hi:i < (loopsIn Tryd.prog 37).length:=hi
  rw [kes_len] at hi
  have hi3:i = 0 ∨ i = 1 ∨ i = 2:=by omega
  rcases hi3 with rfl | rfl | rfl
  ·have e:(firstRid (loopIn Tryd.prog 37 0)).bind (kes 37) = none:=by kernel_rfl
   have hsp:(firstRid (loopIn Tryd.prog 37 0)).bind (kes 37) = some sp:=hsp
   rw [e] at hsp;cases hsp
  ·have e:(firstRid (loopIn Tryd.prog 37 1)).bind (kes 37) = none:=by kernel_rfl
   have hsp:(firstRid (loopIn Tryd.prog 37 1)).bind (kes 37) = some sp:=hsp
   rw [e] at hsp;cases hsp
  ·have e:(firstRid (loopIn Tryd.prog 37 2)).bind (kes 37) = some ke_spec:=by kernel_rfl
   obtain rfl:=Option.some.inj (e.symm.trans hsp)
   exact ke_told
 ·refine .inl fun r=>?_
  show kes f r = none
  unfold kes
  split
  ·exact absurd rfl hf
  ·rfl
end
section
open Go.Eng
variable [RowAddr] [Co] [SeatCo]
set_option maxRecDepth 20000 in
def lastV (X:Vec 64):Vec 64:=Vec.of [X.l.getD 896 0#64,X.l.getD 897 0#64,X.l.getD 898 0#64,X.l.getD 899 0#64,X.l.getD 900 0#64,X.l.getD 901 0#64,X.l.getD 902 0#64,X.l.getD 903 0#64,X.l.getD 904 0#64,X.l.getD 905 0#64,X.l.getD 906 0#64,X.l.getD 907 0#64,X.l.getD 908 0#64,X.l.getD 909 0#64,X.l.getD 910 0#64,X.l.getD 911 0#64,X.l.getD 912 0#64,X.l.getD 913 0#64,X.l.getD 914 0#64,X.l.getD 915 0#64,X.l.getD 916 0#64,X.l.getD 917 0#64,X.l.getD 918 0#64,X.l.getD 919 0#64,X.l.getD 920 0#64,X.l.getD 921 0#64,X.l.getD 922 0#64,X.l.getD 923 0#64,X.l.getD 924 0#64,X.l.getD 925 0#64,X.l.getD 926 0#64,X.l.getD 927 0#64,X.l.getD 928 0#64,X.l.getD 929 0#64,X.l.getD 930 0#64,X.l.getD 931 0#64,X.l.getD 932 0#64,X.l.getD 933 0#64,X.l.getD 934 0#64,X.l.getD 935 0#64,X.l.getD 936 0#64,X.l.getD 937 0#64,X.l.getD 938 0#64,X.l.getD 939 0#64,X.l.getD 940 0#64,X.l.getD 941 0#64,X.l.getD 942 0#64,X.l.getD 943 0#64,X.l.getD 944 0#64,X.l.getD 945 0#64,X.l.getD 946 0#64,X.l.getD 947 0#64,X.l.getD 948 0#64,X.l.getD 949 0#64,X.l.getD 950 0#64,X.l.getD 951 0#64,X.l.getD 952 0#64,X.l.getD 953 0#64,X.l.getD 954 0#64,X.l.getD 955 0#64,X.l.getD 956 0#64,X.l.getD 957 0#64,X.l.getD 958 0#64,X.l.getD 959 0#64,X.l.getD 960 0#64,X.l.getD 961 0#64,X.l.getD 962 0#64,X.l.getD 963 0#64,X.l.getD 964 0#64,X.l.getD 965 0#64,X.l.getD 966 0#64,X.l.getD 967 0#64,X.l.getD 968 0#64,X.l.getD 969 0#64,X.l.getD 970 0#64,X.l.getD 971 0#64,X.l.getD 972 0#64,X.l.getD 973 0#64,X.l.getD 974 0#64,X.l.getD 975 0#64,X.l.getD 976 0#64,X.l.getD 977 0#64,X.l.getD 978 0#64,X.l.getD 979 0#64,X.l.getD 980 0#64,X.l.getD 981 0#64,X.l.getD 982 0#64,X.l.getD 983 0#64,X.l.getD 984 0#64,X.l.getD 985 0#64,X.l.getD 986 0#64,X.l.getD 987 0#64,X.l.getD 988 0#64,X.l.getD 989 0#64,X.l.getD 990 0#64,X.l.getD 991 0#64,X.l.getD 992 0#64,X.l.getD 993 0#64,X.l.getD 994 0#64,X.l.getD 995 0#64,X.l.getD 996 0#64,X.l.getD 997 0#64,X.l.getD 998 0#64,X.l.getD 999 0#64,X.l.getD 1000 0#64,X.l.getD 1001 0#64,X.l.getD 1002 0#64,X.l.getD 1003 0#64,X.l.getD 1004 0#64,X.l.getD 1005 0#64,X.l.getD 1006 0#64,X.l.getD 1007 0#64,X.l.getD 1008 0#64,X.l.getD 1009 0#64,X.l.getD 1010 0#64,X.l.getD 1011 0#64,X.l.getD 1012 0#64,X.l.getD 1013 0#64,X.l.getD 1014 0#64,X.l.getD 1015 0#64,X.l.getD 1016 0#64,X.l.getD 1017 0#64,X.l.getD 1018 0#64,X.l.getD 1019 0#64,X.l.getD 1020 0#64,X.l.getD 1021 0#64,X.l.getD 1022 0#64,X.l.getD 1023 0#64]
def keyS (X:Vec 64):keD:=iter ke_next ((128 - (0:Int)).toNat) ⟨X,Z1024,lastV X,0⟩
def bytesV (X:Vec 64):Vec 8:=(keyS X).b
def Z4:Vec 8:=Vec.of [0#8,0#8,0#8,0#8]
def keyV (X:Vec 64):Vec 8:=hashV Z4 (bytesV X) 0 4 4 0 1024
def c25P (hv:Vec 8 → Vec 8 → Nat → Nat → Nat → Nat → Nat → Vec 8):Ct c25D:={ c25 with out:=fun ⟨v,w,o,np,cp,oi,ni⟩=>[⟨.b8 (hv v w o np cp oi ni),.own⟩,⟨.b8 w,.ro⟩] }
theorem c25P_eq:c25P hashV = c25:=rfl
def specsH (hv:Vec 8 → Vec 8 → Nat → Nat → Nat → Nat → Nat → Vec 8):FuncId → Option Eng.Spec
 | 25=>some (c25P hv).spec
 | _=>none
theorem specsH_ok:∀ f sp,specsH hashV f = some sp → SpecOk Tryd.prog noGlob f sp:=by
 intro f sp h
 unfold specsH at h
 split at h
 ·injection h with h;subst h;rw [c25P_eq];exact c25_ok
 ·cases h
structure c37D where
 X:Vec 64
def c37_rd (a:List AV) (K:List Blk):Option c37D:=
 match a with
 | [(.ref (.sm 0 (.c 8) 128)),(.num (.int .u32 (.c 8))),(.num (.int .u32 (.c 1))),(.num (.int .u32 (.c 4)))]=>
  match K with
  | [⟨(.b64 X),.own⟩]=>some ⟨X⟩
  | _=>none
 | _=>none
def c37:Ct c37D where
 pat:=[(.sm 0 (.c 8) 128),(.int .u32 (.c 8)),(.int .u32 (.c 1)),(.int .u32 (.c 4))]
 patH:=[⟨(.b64 (Vec.zero 64 0)),.own⟩]
 read:=c37_rd
 args:=fun ⟨_⟩=>[(.sm 0 (.c 8) 128),(.int .u32 (.c 8)),(.int .u32 (.c 1)),(.int .u32 (.c 4))]
 heap:=fun ⟨X⟩=>[⟨(.b64 X),.own⟩]
 out:=fun ⟨X⟩=>[⟨(.b64 X),.own⟩,⟨(.b8 (keyV X)),.own⟩]
 val:=fun ⟨_⟩=>(.sl 1 (.c 0) (.c 4) (some (.c 4)))
 good:=fun ⟨X⟩=>decide (X.n = 1024)
set_option maxRecDepth 100000 in
theorem c37_read (a:List AV) (K:List Blk) (d:c37D) (h:c37.read a K = some d):a = c37.args d ∧ K = c37.heap d:=by
 replace h:c37_rd a K = some d:=h
 unfold c37_rd at h
 split at h
 case h_2=>cases h
 split at h
 case h_2=>cases h
 injection h with h;subst h
 exact ⟨rfl,rfl⟩
theorem k37 (hv:Vec 8 → Vec 8 → Nat → Nat → Nat → Nat → Nat → Vec 8) (X:Vec 64):endsAs (c37.heap ⟨X⟩).length (some [0,2]) [⟨.b64 X,.own⟩,⟨.b8 (hv Z4 (bytesV X) 0 4 4 0 1024),.own⟩] (c37.val ⟨X⟩) (goB (specsH hv) kes 37 (c37.args ⟨X⟩) ⟨c37.heap ⟨X⟩,big,[],[]⟩) = some ([⟨.b64 X,.own⟩,⟨.b8 (hv Z4 (bytesV X) 0 4 4 0 1024),.own⟩],(c37.val ⟨X⟩),[decide (((1:Nat) ≤ 4 ∧ ((4:Nat) ≤ 4 ∧ ((4:Nat) ≤ 4 ∧ ((4:Nat) ≤ 1099511627776 ∧ (((0 + ((0:Nat) * 1)) + (1024:Nat)) ≤ 1024 ∧ (1024:Nat) ≤ 1099511627776)))))),decide ((1024:Nat) ≤ 1024),decide (((0:Int) ≤ 0 ∧ ((0:Int) ≤ 128 ∧ (1024:Nat) = 1024))),decide ((1024:Nat) ≤ X.n)]):=by kernel_rfl
theorem ke_it (X:Vec 64) (b:Vec 8) (Y:Vec 64) (i:Int):∀ k,(iter ke_next k ⟨X,b,Y,i⟩).b.n = b.n
 | 0=>rfl
 | k + 1=>by
  rw [iter_succ]
  have h:=ke_it X b Y i k
  generalize iter ke_next k ⟨X,b,Y,i⟩ = d at h
  obtain ⟨X',b',Y',i'⟩:=d
  exact (show (put64 b' i' (pick Y' i')).n = b'.n from rfl).trans h
theorem z1024_n:Z1024.n = 1024:=List.length_replicate
theorem bytesV_n (X:Vec 64):(bytesV X).n = 1024:=by
 unfold bytesV keyS
 rw [ke_it,z1024_n]
theorem c37_ok:SpecOk Tryd.prog noGlob 37 c37.spec:=by
 refine c37.ok (goB_ok specsH_ok (kes_ok _)) c37_read ?_
 rintro ⟨X⟩ hg
 have hg:X.n = 1024:=of_decide_eq_true hg
 refine ⟨[],some [0,2],_,k37 hashV X,?_⟩
 have hb:=bytesV_n X
 have hz:=z1024_n
 repeat' (refine all_true_cons ?_ ?_)
 all_goals first | (refine decide_eq_true ?_;omega) | exact all_true_nil
end
section
open Go.Eng
variable [RowAddr] [Co] [SeatCo]
def sp48:Eng.Spec:=orSpec w48_10.spec (orSpec w48_11.spec (orSpec w48_20.spec (orSpec w48_21.spec (orSpec w48_30.spec w48_31.spec))))
theorem sp48_ok:SpecOk Tryd.prog noGlob 48 sp48:=SpecOk.or w48_10_ok (SpecOk.or w48_11_ok (SpecOk.or w48_20_ok (SpecOk.or w48_21_ok (SpecOk.or w48_30_ok w48_31_ok))))
def c58aP (pb:Vec 64 → Vec 64 → Vec 64):Ct c58aD:={ c58a with out:=fun ⟨_,x,y⟩=>[⟨(.gen (c64v (pb x y) 128)),.own⟩,⟨(.gen (c64v x 128)),.own⟩,⟨(.gen (c64v y 128)),.ro⟩] }
def c58bP (pb:Vec 64 → Vec 64 → Vec 64):Ct c58bD:={ c58b with out:=fun ⟨x,y⟩=>[⟨(.gen (c64v (pb x y) 128)),.own⟩,⟨(.gen (c64v y 128)),.ro⟩] }
theorem c58aP_eq:c58aP pbV = c58a:=rfl
theorem c58bP_eq:c58bP pbV = c58b:=rfl
def sp58 (pb:Vec 64 → Vec 64 → Vec 64):Eng.Spec:=orSpec c58x.spec (orSpec (c58aP pb).spec (c58bP pb).spec)
theorem sp58_ok:SpecOk Tryd.prog noGlob 58 (sp58 pbV):=SpecOk.or c58x_ok (SpecOk.or (by rw [c58aP_eq];exact c58a_ok) (by rw [c58bP_eq];exact c58b_ok))
def specs46 (pb:Vec 64 → Vec 64 → Vec 64):FuncId → Option Eng.Spec
 | 48=>some sp48
 | 58=>some (sp58 pb)
 | _=>none
theorem specs46_ok:∀ f sp,specs46 pbV f = some sp → SpecOk Tryd.prog noGlob f sp:=by
 intro f sp h
 unfold specs46 at h
 split at h
 ·injection h with h;subst h;exact sp48_ok
 ·injection h with h;subst h;exact sp58_ok
 ·cases h
def ps46:List (List Bool):=[[true,false],[true,true,false],[true,true,true,false],[true,true,true,true,false],[true,true,true,true,true,false],[true,true,true,true,true,true,false]]
def F46 (s:Int) (Wg:Nat):Fr:=⟨[.num (.int .u32 (.c 0)),.num (.int .u32 (.c s)),.num (.int .u32 (.c 0)),.exact (bp Wg),.ref (.ptr 5 (.c 0)),.ref (.ptr 3 (.c 0)),.ref (.ptr 2 (.c 0)),.ref (.ptr 6 (.c 0)),.ref (.ptr 7 (.c 0)),.ref (.ptr 1 (.c 0)),.ref (.ptr 4 (.c 0)),.undef,.undef,.undef,.undef,.ref (.ptr 8 (.c 0)),.ref (.ptr 9 (.c 0)),.ref (.ptr 10 (.c 0)),.undef,.undef,.undef,.undef,.undef],[]⟩
def z128:List AV:=List.replicate 128 (.int .u64 (.c 0))
def H46 (X:Vec 64):List Blk:=[⟨.b64 X,.own⟩,⟨.gen [.ref (.sm 0 (.c 8) 128)],.ro⟩,⟨.gen [.num (.int .u32 (.c 1))],.ro⟩,⟨.gen [.num (.int .u32 (.c 8))],.ro⟩,⟨.gen [.num (.int .u32 (.c 1))],.ro⟩,⟨.gen [.num (.int .i64 (.c 2))],.ro⟩,⟨.gen [.num (.int .u32 (.c 8))],.ro⟩,⟨.gen [.num (.int .u32 (.c 2))],.ro⟩,⟨.gen z128,.own⟩,⟨.gen z128,.own⟩,⟨.gen z128,.ro⟩]
def E46 (Wg:Nat) (X:Vec 64):Fr × List Blk:=(⟨[.undef,.undef,.undef,.exact (bp Wg),.undef,.undef,.undef,.undef,.undef,.undef,.undef,.undef,.undef,.undef,.undef,.undef,.undef,.undef,.undef,.undef,.undef,.undef,.undef],[]⟩,
 [⟨.b64 X,.own⟩,⟨.gen [],.dead⟩,⟨.gen [],.dead⟩,⟨.gen [],.dead⟩,⟨.gen [],.dead⟩,⟨.gen [],.dead⟩,⟨.gen [],.dead⟩,⟨.gen [],.dead⟩,⟨.gen [],.dead⟩,⟨.gen [],.dead⟩,⟨.gen [],.dead⟩])
def oaW (x m:BitVec 64):Nat:=0 + (((phiW x m).toNat:Nat):Int).toNat * 128
set_option maxRecDepth 20000 in
def inn1:Vec 64:=Vec.of [0#64,0#64,1#64,8#64,1#64,2#64,BitVec.ofNat 64 (0 + 1),0#64,0#64,0#64,0#64,0#64,0#64,0#64,0#64,0#64,0#64,0#64,0#64,0#64,0#64,0#64,0#64,0#64,0#64,0#64,0#64,0#64,0#64,0#64,0#64,0#64,0#64,0#64,0#64,0#64,0#64,0#64,0#64,0#64,0#64,0#64,0#64,0#64,0#64,0#64,0#64,0#64,0#64,0#64,0#64,0#64,0#64,0#64,0#64,0#64,0#64,0#64,0#64,0#64,0#64,0#64,0#64,0#64,0#64,0#64,0#64,0#64,0#64,0#64,0#64,0#64,0#64,0#64,0#64,0#64,0#64,0#64,0#64,0#64,0#64,0#64,0#64,0#64,0#64,0#64,0#64,0#64,0#64,0#64,0#64,0#64,0#64,0#64,0#64,0#64,0#64,0#64,0#64,0#64,0#64,0#64,0#64,0#64,0#64,0#64,0#64,0#64,0#64,0#64,0#64,0#64,0#64,0#64,0#64,0#64,0#64,0#64,0#64,0#64,0#64,0#64,0#64,0#64,0#64,0#64,0#64,0#64]
set_option maxRecDepth 20000 in
def zz1:Vec 64:=Vec.of [0#64,0#64,0#64,0#64,0#64,0#64,0#64,0#64,0#64,0#64,0#64,0#64,0#64,0#64,0#64,0#64,0#64,0#64,0#64,0#64,0#64,0#64,0#64,0#64,0#64,0#64,0#64,0#64,0#64,0#64,0#64,0#64,0#64,0#64,0#64,0#64,0#64,0#64,0#64,0#64,0#64,0#64,0#64,0#64,0#64,0#64,0#64,0#64,0#64,0#64,0#64,0#64,0#64,0#64,0#64,0#64,0#64,0#64,0#64,0#64,0#64,0#64,0#64,0#64,0#64,0#64,0#64,0#64,0#64,0#64,0#64,0#64,0#64,0#64,0#64,0#64,0#64,0#64,0#64,0#64,0#64,0#64,0#64,0#64,0#64,0#64,0#64,0#64,0#64,0#64,0#64,0#64,0#64,0#64,0#64,0#64,0#64,0#64,0#64,0#64,0#64,0#64,0#64,0#64,0#64,0#64,0#64,0#64,0#64,0#64,0#64,0#64,0#64,0#64,0#64,0#64,0#64,0#64,0#64,0#64,0#64,0#64,0#64,0#64,0#64,0#64,0#64,0#64]
set_option maxRecDepth 20000 in
def adr1 (pb:Vec 64 → Vec 64 → Vec 64):Vec 64:=pb (Vec.of [(pb inn1 zz1).l.getD 0 0#64,(pb inn1 zz1).l.getD 1 0#64,(pb inn1 zz1).l.getD 2 0#64,(pb inn1 zz1).l.getD 3 0#64,(pb inn1 zz1).l.getD 4 0#64,(pb inn1 zz1).l.getD 5 0#64,(pb inn1 zz1).l.getD 6 0#64,(pb inn1 zz1).l.getD 7 0#64,(pb inn1 zz1).l.getD 8 0#64,(pb inn1 zz1).l.getD 9 0#64,(pb inn1 zz1).l.getD 10 0#64,(pb inn1 zz1).l.getD 11 0#64,(pb inn1 zz1).l.getD 12 0#64,(pb inn1 zz1).l.getD 13 0#64,(pb inn1 zz1).l.getD 14 0#64,(pb inn1 zz1).l.getD 15 0#64,(pb inn1 zz1).l.getD 16 0#64,(pb inn1 zz1).l.getD 17 0#64,(pb inn1 zz1).l.getD 18 0#64,(pb inn1 zz1).l.getD 19 0#64,(pb inn1 zz1).l.getD 20 0#64,(pb inn1 zz1).l.getD 21 0#64,(pb inn1 zz1).l.getD 22 0#64,(pb inn1 zz1).l.getD 23 0#64,(pb inn1 zz1).l.getD 24 0#64,(pb inn1 zz1).l.getD 25 0#64,(pb inn1 zz1).l.getD 26 0#64,(pb inn1 zz1).l.getD 27 0#64,(pb inn1 zz1).l.getD 28 0#64,(pb inn1 zz1).l.getD 29 0#64,(pb inn1 zz1).l.getD 30 0#64,(pb inn1 zz1).l.getD 31 0#64,(pb inn1 zz1).l.getD 32 0#64,(pb inn1 zz1).l.getD 33 0#64,(pb inn1 zz1).l.getD 34 0#64,(pb inn1 zz1).l.getD 35 0#64,(pb inn1 zz1).l.getD 36 0#64,(pb inn1 zz1).l.getD 37 0#64,(pb inn1 zz1).l.getD 38 0#64,(pb inn1 zz1).l.getD 39 0#64,(pb inn1 zz1).l.getD 40 0#64,(pb inn1 zz1).l.getD 41 0#64,(pb inn1 zz1).l.getD 42 0#64,(pb inn1 zz1).l.getD 43 0#64,(pb inn1 zz1).l.getD 44 0#64,(pb inn1 zz1).l.getD 45 0#64,(pb inn1 zz1).l.getD 46 0#64,(pb inn1 zz1).l.getD 47 0#64,(pb inn1 zz1).l.getD 48 0#64,(pb inn1 zz1).l.getD 49 0#64,(pb inn1 zz1).l.getD 50 0#64,(pb inn1 zz1).l.getD 51 0#64,(pb inn1 zz1).l.getD 52 0#64,(pb inn1 zz1).l.getD 53 0#64,(pb inn1 zz1).l.getD 54 0#64,(pb inn1 zz1).l.getD 55 0#64,(pb inn1 zz1).l.getD 56 0#64,(pb inn1 zz1).l.getD 57 0#64,(pb inn1 zz1).l.getD 58 0#64,(pb inn1 zz1).l.getD 59 0#64,(pb inn1 zz1).l.getD 60 0#64,(pb inn1 zz1).l.getD 61 0#64,(pb inn1 zz1).l.getD 62 0#64,(pb inn1 zz1).l.getD 63 0#64,(pb inn1 zz1).l.getD 64 0#64,(pb inn1 zz1).l.getD 65 0#64,(pb inn1 zz1).l.getD 66 0#64,(pb inn1 zz1).l.getD 67 0#64,(pb inn1 zz1).l.getD 68 0#64,(pb inn1 zz1).l.getD 69 0#64,(pb inn1 zz1).l.getD 70 0#64,(pb inn1 zz1).l.getD 71 0#64,(pb inn1 zz1).l.getD 72 0#64,(pb inn1 zz1).l.getD 73 0#64,(pb inn1 zz1).l.getD 74 0#64,(pb inn1 zz1).l.getD 75 0#64,(pb inn1 zz1).l.getD 76 0#64,(pb inn1 zz1).l.getD 77 0#64,(pb inn1 zz1).l.getD 78 0#64,(pb inn1 zz1).l.getD 79 0#64,(pb inn1 zz1).l.getD 80 0#64,(pb inn1 zz1).l.getD 81 0#64,(pb inn1 zz1).l.getD 82 0#64,(pb inn1 zz1).l.getD 83 0#64,(pb inn1 zz1).l.getD 84 0#64,(pb inn1 zz1).l.getD 85 0#64,(pb inn1 zz1).l.getD 86 0#64,(pb inn1 zz1).l.getD 87 0#64,(pb inn1 zz1).l.getD 88 0#64,(pb inn1 zz1).l.getD 89 0#64,(pb inn1 zz1).l.getD 90 0#64,(pb inn1 zz1).l.getD 91 0#64,(pb inn1 zz1).l.getD 92 0#64,(pb inn1 zz1).l.getD 93 0#64,(pb inn1 zz1).l.getD 94 0#64,(pb inn1 zz1).l.getD 95 0#64,(pb inn1 zz1).l.getD 96 0#64,(pb inn1 zz1).l.getD 97 0#64,(pb inn1 zz1).l.getD 98 0#64,(pb inn1 zz1).l.getD 99 0#64,(pb inn1 zz1).l.getD 100 0#64,(pb inn1 zz1).l.getD 101 0#64,(pb inn1 zz1).l.getD 102 0#64,(pb inn1 zz1).l.getD 103 0#64,(pb inn1 zz1).l.getD 104 0#64,(pb inn1 zz1).l.getD 105 0#64,(pb inn1 zz1).l.getD 106 0#64,(pb inn1 zz1).l.getD 107 0#64,(pb inn1 zz1).l.getD 108 0#64,(pb inn1 zz1).l.getD 109 0#64,(pb inn1 zz1).l.getD 110 0#64,(pb inn1 zz1).l.getD 111 0#64,(pb inn1 zz1).l.getD 112 0#64,(pb inn1 zz1).l.getD 113 0#64,(pb inn1 zz1).l.getD 114 0#64,(pb inn1 zz1).l.getD 115 0#64,(pb inn1 zz1).l.getD 116 0#64,(pb inn1 zz1).l.getD 117 0#64,(pb inn1 zz1).l.getD 118 0#64,(pb inn1 zz1).l.getD 119 0#64,(pb inn1 zz1).l.getD 120 0#64,(pb inn1 zz1).l.getD 121 0#64,(pb inn1 zz1).l.getD 122 0#64,(pb inn1 zz1).l.getD 123 0#64,(pb inn1 zz1).l.getD 124 0#64,(pb inn1 zz1).l.getD 125 0#64,(pb inn1 zz1).l.getD 126 0#64,(pb inn1 zz1).l.getD 127 0#64]) zz1
def xs1 (pb:Vec 64 → Vec 64 → Vec 64) (X:Vec 64):Vec 64:=xrS (xrS X 256 128 (oaW ((adr1 pb).l.getD 0 0#64) 1#64)) 384 256 (oaW ((adr1 pb).l.getD 1 0#64) 2#64)
def xs2 (X:Vec 64):Vec 64:=xrS (xrS X 512 384 (oaW (X.l.getD 384 0#64) 3#64)) 640 512 (oaW ((xrS X 512 384 (oaW (X.l.getD 384 0#64) 3#64)).l.getD 512 0#64) 4#64)
def xs3 (X:Vec 64):Vec 64:=xrS (xrS X 768 640 (oaW (X.l.getD 640 0#64) 5#64)) 896 768 (oaW ((xrS X 768 640 (oaW (X.l.getD 640 0#64) 5#64)).l.getD 768 0#64) 6#64)
theorem w46_0 (pb:Vec 64 → Vec 64 → Vec 64) (Wg:Nat) (X:Vec 64):ranAs (H46 X).length none (E46 Wg X) (goS (specs46 pb) noLoop 46 ps46 (F46 0 Wg) ⟨H46 X,big,[],[]⟩) = some (.normal,(E46 Wg X),[decide True,decide True]):=by kernel_rfl
theorem w46_1 (pb:Vec 64 → Vec 64 → Vec 64) (Wg:Nat) (X:Vec 64):ranAs (H46 X).length none (E46 Wg (xs1 pb X)) (goS (specs46 pb) noLoop 46 ps46 (F46 1 Wg) ⟨H46 X,big,[],[]⟩) = some (.normal,(E46 Wg (xs1 pb X)),[decide (384 + 128 ≤ (xrS X 256 128 (oaW ((adr1 pb).l.getD 0 0#64) 1#64)).n ∧ 256 + 128 ≤ (xrS X 256 128 (oaW ((adr1 pb).l.getD 0 0#64) 1#64)).n ∧ oaW ((adr1 pb).l.getD 1 0#64) 2#64 + 128 ≤ (xrS X 256 128 (oaW ((adr1 pb).l.getD 0 0#64) 1#64)).n),(decide ((0:Int) ≤ (((phiW ((adr1 pb).l.getD 1 0#64) 2#64).toNat:Nat):Int)) && decide ((((phiW ((adr1 pb).l.getD 1 0#64) 2#64).toNat:Nat):Int) < ((8:Nat):Int))),decide ((true:Bool) = true),decide (256 + 128 ≤ X.n ∧ 128 + 128 ≤ X.n ∧ oaW ((adr1 pb).l.getD 0 0#64) 1#64 + 128 ≤ X.n),(decide ((0:Int) ≤ (((phiW ((adr1 pb).l.getD 0 0#64) 1#64).toNat:Nat):Int)) && decide ((((phiW ((adr1 pb).l.getD 0 0#64) 1#64).toNat:Nat):Int) < ((8:Nat):Int))),decide ((true:Bool) = true),decide True,decide True]):=by kernel_rfl
theorem w46_2 (pb:Vec 64 → Vec 64 → Vec 64) (Wg:Nat) (X:Vec 64):ranAs (H46 X).length none (E46 Wg (xs2 X)) (goS (specs46 pb) noLoop 46 ps46 (F46 2 Wg) ⟨H46 X,big,[],[]⟩) = some (.normal,(E46 Wg (xs2 X)),[decide (640 + 128 ≤ (xrS X 512 384 (oaW (X.l.getD 384 0#64) 3#64)).n ∧ 512 + 128 ≤ (xrS X 512 384 (oaW (X.l.getD 384 0#64) 3#64)).n ∧ oaW ((xrS X 512 384 (oaW (X.l.getD 384 0#64) 3#64)).l.getD 512 0#64) 4#64 + 128 ≤ (xrS X 512 384 (oaW (X.l.getD 384 0#64) 3#64)).n),(decide ((0:Int) ≤ (((phiW ((xrS X 512 384 (oaW (X.l.getD 384 0#64) 3#64)).l.getD 512 0#64) 4#64).toNat:Nat):Int)) && decide ((((phiW ((xrS X 512 384 (oaW (X.l.getD 384 0#64) 3#64)).l.getD 512 0#64) 4#64).toNat:Nat):Int) < ((8:Nat):Int))),decide ((true:Bool) = true),decide (512 < (xrS X 512 384 (oaW (X.l.getD 384 0#64) 3#64)).n),decide (512 + 128 ≤ X.n ∧ 384 + 128 ≤ X.n ∧ oaW (X.l.getD 384 0#64) 3#64 + 128 ≤ X.n),(decide ((0:Int) ≤ (((phiW (X.l.getD 384 0#64) 3#64).toNat:Nat):Int)) && decide ((((phiW (X.l.getD 384 0#64) 3#64).toNat:Nat):Int) < ((8:Nat):Int))),decide ((true:Bool) = true),decide (384 < X.n)]):=by kernel_rfl
theorem w46_3 (pb:Vec 64 → Vec 64 → Vec 64) (Wg:Nat) (X:Vec 64):ranAs (H46 X).length none (E46 Wg (xs3 X)) (goS (specs46 pb) noLoop 46 ps46 (F46 3 Wg) ⟨H46 X,big,[],[]⟩) = some (.normal,(E46 Wg (xs3 X)),[decide (896 + 128 ≤ (xrS X 768 640 (oaW (X.l.getD 640 0#64) 5#64)).n ∧ 768 + 128 ≤ (xrS X 768 640 (oaW (X.l.getD 640 0#64) 5#64)).n ∧ oaW ((xrS X 768 640 (oaW (X.l.getD 640 0#64) 5#64)).l.getD 768 0#64) 6#64 + 128 ≤ (xrS X 768 640 (oaW (X.l.getD 640 0#64) 5#64)).n),(decide ((0:Int) ≤ (((phiW ((xrS X 768 640 (oaW (X.l.getD 640 0#64) 5#64)).l.getD 768 0#64) 6#64).toNat:Nat):Int)) && decide ((((phiW ((xrS X 768 640 (oaW (X.l.getD 640 0#64) 5#64)).l.getD 768 0#64) 6#64).toNat:Nat):Int) < ((8:Nat):Int))),decide ((true:Bool) = true),decide (768 < (xrS X 768 640 (oaW (X.l.getD 640 0#64) 5#64)).n),decide (768 + 128 ≤ X.n ∧ 640 + 128 ≤ X.n ∧ oaW (X.l.getD 640 0#64) 5#64 + 128 ≤ X.n),(decide ((0:Int) ≤ (((phiW (X.l.getD 640 0#64) 5#64).toNat:Nat):Int)) && decide ((((phiW (X.l.getD 640 0#64) 5#64).toNat:Nat):Int) < ((8:Nat):Int))),decide ((true:Bool) = true),decide (640 < X.n)]):=by kernel_rfl
end
section
open Go Go.Eng Conc Conc.Lib RowKit
open Go.ConcX (stA smA OfWg WgAt wgBlock KK rd wr mk RCa RCd KCa DC0)
@[reducible] def coK (Sh:Go.Loc → Prop) (n0 Wg:Nat):Co where
 main:=false
 plain _:=True
 mine c:=c ≠ Wg ∧ ¬ KeepB n0 c ∧ ∀ o,¬ Sh (.cell ⟨c,o,none⟩)
 rd c _:=KeepB n0 c
 jump _ _ _ _:=False
noncomputable def ops0:Array Oper:=opsOf (sub [false] (bodyIn Tryd.prog 46))
noncomputable def ops31:Array Oper:=opsOf (sub [true,true,true,true,true,true,true] (bodyIn Tryd.prog 46))
noncomputable def tail46:Code:=.region 31 ops31 false
theorem body46:bodyIn Tryd.prog 46 = .seq (.region 0 ops0 false) (seqTo (bodyIn Tryd.prog 46) ps46 tail46):=by kernel_rfl
theorem body46':Tryd.f46.body.getD .skip = bodyIn Tryd.prog 46:=by kernel_rfl
theorem range0:List.range ops0.size = [0,1,2]:=by kernel_rfl
theorem range31:List.range ops31.size = [0,1]:=by kernel_rfl
noncomputable def oA (i:Nat):Oper:=ops0.getD i { dst:=none,op:=.move (.tmp 0),type:=0,pos:="",after:=#[],guard:=none }
noncomputable def oT (i:Nat):Oper:=ops31.getD i { dst:=none,op:=.move (.tmp 0),type:=0,pos:="",after:=#[],guard:=none }
def z128o:Obj:=.cells ⟨List.replicate 128 (.int .u64 0)⟩ 98
section
variable (ρ:Operand → Value) (y:List Bool) (w:World)
theorem oA_get:ops0[0]? = some (oA 0) ∧ ops0[1]? = some (oA 1) ∧ ops0[2]? = some (oA 2):=⟨by kernel_rfl,by kernel_rfl,by kernel_rfl⟩
theorem oA_dst:(oA 0).dst = some 15 ∧ (oA 1).dst = some 16 ∧ (oA 2).dst = some 17:=⟨by kernel_rfl,by kernel_rfl,by kernel_rfl⟩
theorem oA0_run [Co]:(execOp ρ (oA 0)).runQ Tryd.prog w = .ok (.value (bp w.heap.size)) (w.alloc z128o):=by kernel_rfl
theorem oA1_run [Co]:(execOp ρ (oA 1)).runQ Tryd.prog w = .ok (.value (bp w.heap.size)) (w.alloc z128o):=by kernel_rfl
theorem oA2_run [Co]:(execOp ρ (oA 2)).runQ Tryd.prog w = .ok (.value (bp w.heap.size)) (w.alloc z128o):=by kernel_rfl
theorem oT_get:ops31[0]? = some (oT 0) ∧ ops31[1]? = some (oT 1):=⟨by kernel_rfl,by kernel_rfl⟩
theorem oT_dst:(oT 0).dst = some 151 ∧ (oT 1).dst = some 152:=⟨by kernel_rfl,by kernel_rfl⟩
theorem oT0_run [Co]:(execOp ρ (oT 0)).runQ Tryd.prog w = .ok (.value (ρ (.tmp 3))) w:=by kernel_rfl
theorem oT1_op:(oT 1).op = .call { callee:=.value (.func 50),args:=#[.tmp 151],argTypes:=#[100] }:=by kernel_rfl
theorem oT1_run [Co] (hρ:ρ (.func 50) = .func (.func 50) #[] #[]):(execOp ρ (oT 1)).runQ Tryd.prog w = .ok (.enter 50 #[ρ (.tmp 151)]) w:=by
 have hb:Tryd.f50.body.isNone = false:=by kernel_rfl
 have hn:(Tryd.f50.name == "runtime.NumGoroutine") = false:=by kernel_rfl
 have hb':¬ Tryd.f50.body = none:=by intro h;rw [h] at hb;cases hb
 have hn':¬ Tryd.f50.name = "runtime.NumGoroutine":=by simpa using hn
 simp [execOp,oT1_op,resolve,invoke,callFunc,Tryd.func50,hb',hn',hρ,Deferred.ofValue]
end
theorem want (y:Nat → Option Bool):Region.wanted (oA 0) y = true ∧ Region.wanted (oA 1) y = true ∧ Region.wanted (oA 2) y = true ∧ Region.wanted (oT 0) y = true ∧ Region.wanted (oT 1) y = true:=⟨by kernel_rfl,by kernel_rfl,by kernel_rfl,by kernel_rfl,by kernel_rfl⟩
end
section
open Go Go.Eng Conc Conc.Lib RowKit
open Go.ConcX (stA smA OfWg WgAt wgBlock KK rd wr mk RCa RCd KCa DC0)
variable [RowAddr]
theorem guaDK {Sh:Go.Loc → Prop} {n0 Wg:Nat} (h7:n0 + 7 ≤ Wg) {w w':World} {es:Array Event} (hW:Wg < w.heap.size) (h:@Gua (coK Sh n0 Wg) w w' es):DK Sh Wg (KeepB n0) w w' es:=by
 letI:=coK Sh n0 Wg
 refine ⟨h.os,h.tape,h.output,h.size,h.far Wg hW (fun m=>m.1 rfl),fun b hb=>h.far b (by have:=hb.2;omega) (fun m=>m.2.1 hb),fun e he=>?_⟩
 rcases h.evs e he with ⟨a,wr,rfl,hm,hB⟩ | ⟨m,rfl,hm⟩
 ·refine ⟨⟨fun x hx=>?_,by rw [Go.ConcX.ofEvent_cell];simp,by rw [Go.ConcX.ofEvent_cell];exact hB⟩,by simp,by simp⟩
  rw [Go.ConcX.ofEvent_cell] at hx
  simp only [MemAct.touch?,Option.some.injEq] at hx
  subst hx
  refine .inl ⟨rfl,?_⟩
  rcases hm.2 with hm' | ⟨rfl,hm'⟩
  ·refine .inl ⟨a,rfl,hm'.1,hm'.2.1,fun hs=>hm'.2.2 a.off ?_⟩
   cases a with
   | mk b o sp=>
    have e:sp = none:=hm.1
    subst e
    exact hs
  ·exact .inr ⟨⟨a,rfl,hm'⟩,rfl⟩
 ·refine ⟨⟨fun x hx=>?_,?_,?_⟩,?_,?_⟩ <;> cases hm
  ·cases hx
  ·simp [MemAct.ofEvent]
  ·trivial
  ·simp
  ·simp
theorem rkRely {Sh:Go.Loc → Prop} {n0 Wg:Nat} (h7:n0 + 7 ≤ Wg) {ty:TypeId} {w w₁:World} (h:RK ty Wg w w₁):@Rely (coK Sh n0 Wg) w w₁:=by
 letI:=coK Sh n0 Wg
 refine ⟨h.os,h.tape,h.output,Nat.le_of_eq h.size.symm,fun c _ hm=>h.block c hm.1,fun c o _ hr=>?_⟩
 have:w₁.heap[c]? = w.heap[c]?:=h.block c (by have:=KeepB.eq_1 n0 c;have:=(show n0 ≤ c ∧ c < n0 + 7 from hr).2;omega)
 unfold World.cell?
 simp only
 rw [this]
theorem idleDK {Sh:Go.Loc → Prop} {Wg:Nat} {Keep:Nat → Prop} (w:World):DK Sh Wg Keep w w #[]:=⟨rfl,rfl,rfl,Nat.le_refl _,rfl,fun _ _=>rfl,by simp⟩
theorem Way.ctlK {Sh:Go.Loc → Prop} {Wg:Nat} {Keep:Nat → Prop} {ty:TypeId} {Stop:Goroutine → World → Prop} {g g':Goroutine} {w:World} (hs:g.status = .running) (h:∀ w,stepG Tryd.prog false g w = .go g' w #[]) (hg:Eng.Way Tryd.prog false (RK ty Wg) (DK Sh Wg Keep) Stop g' w) :
 Eng.Way Tryd.prog false (RK ty Wg) (DK Sh Wg Keep) Stop g w:=
 .one hs fun w₁ h₁=>⟨g',w₁,#[],h w₁,idleDK w₁,hg.rely RK.tr h₁⟩
def stepX:Nat → Vec 64 → Vec 64
 | 1,X=>xs1 pbV X
 | 2,X=>xs2 X
 | 3,X=>xs3 X
 | _,X=>X
theorem kx3_it [Co] [SeatCo] (X T:Vec 64) (oa ob oc:Nat) (i:Int):∀ k,(iter kx3_next k ⟨X,T,oa,ob,oc,i⟩).X.n = X.n
 | 0=>rfl
 | k + 1=>by
  rw [iter_succ]
  have h:=kx3_it X T oa ob oc i k
  generalize iter kx3_next k ⟨X,T,oa,ob,oc,i⟩ = d at h
  obtain ⟨X',T',a',b',c',i'⟩:=d
  exact (show (setX3 X' T' a' b' c' i').n = X'.n from rfl).trans h
theorem xrS_n [Co] [SeatCo] (X:Vec 64) (oa ob oc:Nat):(xrS X oa ob oc).n = X.n:=by
 unfold xrS y58
 rw [kx3_it,(z58_eq X oa ob oc).1]
theorem phiW_lt (x m:BitVec 64):(phiW x m).toNat < 8:=by
 unfold phiW
 have h1:(x >>> 32).setWidth 32 % 1#32 = 0#32:=by apply BitVec.eq_of_toNat_eq;simp [Nat.mod_one]
 rw [h1,BitVec.zero_mul,BitVec.zero_add,BitVec.toNat_setWidth]
 have h2:((0#64 + m - (((((x &&& 4294967295#64) * (x &&& 4294967295#64)) >>> 32) * m) >>> 32 + 1#64)) % 8#64).toNat < 8:=by
  rw [BitVec.toNat_umod];exact Nat.mod_lt _ (by decide)
 exact Nat.lt_of_le_of_lt (Nat.mod_le _ _) h2
theorem oaW_le (x m:BitVec 64):oaW x m + 128 ≤ 1024:=by
 have:=phiW_lt x m
 unfold oaW
 omega
theorem stepX_n [Co] [SeatCo] (s:Nat) (X:Vec 64):(stepX s X).n = X.n:=by
 unfold stepX
 split
 ·unfold xs1;rw [xrS_n,xrS_n]
 ·unfold xs2;rw [xrS_n,xrS_n]
 ·unfold xs3;rw [xrS_n,xrS_n]
 ·rfl
theorem condsOk [Co] [SeatCo] {V:Vec 64} (hV:V.n = 1024) {a b:Nat} (ha:a + 128 ≤ 1024) (hb:b + 128 ≤ 1024) (x m:BitVec 64):decide (a + 128 ≤ V.n ∧ b + 128 ≤ V.n ∧ oaW x m + 128 ≤ V.n) = true:=by
 rw [hV];exact decide_eq_true ⟨ha,hb,oaW_le x m⟩
theorem condsIx (x m:BitVec 64):(decide ((0:Int) ≤ (((phiW x m).toNat:Nat):Int)) && decide ((((phiW x m).toNat:Nat):Int) < ((8:Nat):Int))) = true:=by
 have:=phiW_lt x m
 rw [Bool.and_eq_true]
 exact ⟨decide_eq_true (by omega),decide_eq_true (by omega)⟩
theorem condsRd {V:Vec 64} (hV:V.n = 1024) {a:Nat} (ha:a < 1024):decide (a < V.n) = true:=by rw [hV];exact decide_eq_true ha
set_option maxRecDepth 20000 in
theorem run46 [Co] [SeatCo] (s:Nat) (hs:s < 4) (Wg:Nat) (X:Vec 64) (hX:X.n = 1024):∃ cs,ranAs (H46 X).length none (E46 Wg (stepX s X)) (goS (specs46 pbV) noLoop 46 ps46 (F46 s Wg) ⟨H46 X,big,[],[]⟩) = some (.normal,E46 Wg (stepX s X),cs) ∧ ∀ x ∈ cs,x = true:=by
 have hn:∀ a b c,(xrS X a b c).n = 1024:=fun a b c=>(xrS_n X a b c).trans hX
 match s,hs with
 | 0,_=>
  rw [show stepX 0 X = X from rfl,show ((0:Nat):Int) = 0 from rfl]
  refine ⟨_,w46_0 pbV Wg X,?_⟩
  exact all_true_cons rfl (all_true_cons rfl all_true_nil)
 | 1,_=>
  rw [show stepX 1 X = xs1 pbV X from rfl,show ((1:Nat):Int) = 1 from rfl]
  refine ⟨_,w46_1 pbV Wg X,?_⟩
  exact all_true_cons (condsOk (hn _ _ _) (by decide) (by decide) _ _) (all_true_cons (condsIx _ _) (all_true_cons rfl (all_true_cons (condsOk hX (by decide) (by decide) _ _) (all_true_cons (condsIx _ _) (all_true_cons rfl (all_true_cons rfl (all_true_cons rfl all_true_nil)))))))
 | 2,_=>
  rw [show stepX 2 X = xs2 X from rfl,show ((2:Nat):Int) = 2 from rfl]
  refine ⟨_,w46_2 pbV Wg X,?_⟩
  exact all_true_cons (condsOk (hn _ _ _) (by decide) (by decide) _ _) (all_true_cons (condsIx _ _) (all_true_cons rfl (all_true_cons (condsRd (hn _ _ _) (by decide)) (all_true_cons (condsOk hX (by decide) (by decide) _ _) (all_true_cons (condsIx _ _) (all_true_cons rfl (all_true_cons (condsRd hX (by decide)) all_true_nil)))))))
 | 3,_=>
  rw [show stepX 3 X = xs3 X from rfl,show ((3:Nat):Int) = 3 from rfl]
  refine ⟨_,w46_3 pbV Wg X,?_⟩
  exact all_true_cons (condsOk (hn _ _ _) (by decide) (by decide) _ _) (all_true_cons (condsIx _ _) (all_true_cons rfl (all_true_cons (condsRd (hn _ _ _) (by decide)) (all_true_cons (condsOk hX (by decide) (by decide) _ _) (all_true_cons (condsIx _ _) (all_true_cons rfl (all_true_cons (condsRd hX (by decide)) all_true_nil)))))))
end
section
open Go Go.Eng Conc Conc.Lib RowKit
open Go.ConcX (stA smA OfWg WgAt wgBlock KK rd wr mk RCa RCd KCa DC0)
variable [RowAddr]
theorem frel_start [Co] {nv nt:Nat} {β:Map} {args:List AV} {us:List Value} (hargs:LRel β args us) (hsz:us.length ≤ nt) :
 FRel nv nt β ⟨args ++ List.replicate (nv - args.length) .undef,[]⟩ { tmps:=(⟨us⟩:Array Value) ++ Array.replicate (nt - us.length) undef,defers:=[] }:=by
 refine ⟨fun t=>?_,?_,rfl⟩
 ·simp only [Fr.get]
  cases hb:Nat.blt t nv with
  | false=>exact .undef _
  | true=>
   simp only [lget_eq]
   rcases Nat.lt_or_ge t args.length with ht | ht
   ·have htu:t < us.length:=by rw [← hargs.1];exact ht
    rw [List.getElem?_append_left ht,List.getElem?_eq_getElem ht]
    simp only
    have e:((⟨us⟩:Array Value) ++ Array.replicate (nt - us.length) undef).getD t undef = us[t]:=by
     simp [Array.getD_eq_getD_getElem?,Array.getElem?_append,htu]
    rw [e]
    exact hargs.2 t _ _ (List.getElem?_eq_getElem ht) (List.getElem?_eq_getElem htu)
   ·rw [List.getElem?_append_right ht]
    split
    ·rename_i x hx
     rw [List.getElem?_replicate] at hx
     split at hx
     ·injection hx with hx;subst hx;exact .undef _
     ·cases hx
    ·exact .undef _
 ·simp;omega
def memA (X:Vec 64):Array Value:=⟨X.l.map fun x=>.int .u64 (x.toNat:Int)⟩
theorem memA_size (X:Vec 64):(memA X).size = X.n:=by unfold memA;simp [X.h]
def memO (room:Nat) (X:Vec 64) (o:Obj):Prop:=∃ vs t fz,o = .cells ⟨vs⟩ t fz ∧ FzOk fz vs.length ∧ vs.length = room ∧ vs.take X.n = (memA X).toList
def loc46 (n0 Wg bB b:Nat):Nat:=if b = 0 then bB else if b < 8 then n0 + (b - 1) else Wg + 1 + (b - 8)
def room46 (room b:Nat):Nat:=if b = 0 then room else if b < 8 then 1 else 128
def β46 (n0 Wg bB room:Nat):Map:=fun b=>if b < 11 then some ⟨loc46 n0 Wg bB b,0,room46 room b⟩ else none
theorem β46_inv {n0 Wg bB room b:Nat} {L:Eng.Loc} (h:β46 n0 Wg bB room b = some L):b < 11 ∧ L.c = loc46 n0 Wg bB b:=by
 unfold β46 at h
 split at h
 ·rename_i hb
  injection h with h;subst h
  exact ⟨hb,rfl⟩
 ·cases h
def GlobIn (m0:Machine) (w0:World) (bB:Nat):Prop:=∀ g l,noGlob g = some l → gIx g < w0.heap.size ∧ gIx g ≠ bB ∧ ¬ Born Tryd.prog m0 36 (gIx g) ∧ ∀ (i:Nat) x,l[i]? = some x → ∃ v,w0.cell? (gAt g i) = some v ∧ NRel x v
section
variable {Sh:Go.Loc → Prop} {n0 Wg bB room cp:Nat} {w:World} {V:Vec 64}
theorem ro_box {β:Map} {c:Nat} {v:Value} {t:TypeId} {x:AV} (hw:w.heap[c]? = some (.cells #[v] t)) (hc:KeepB n0 c) (hv:@VRel _ β x v):@BRel _ (coK Sh n0 Wg) β ⟨.gen [x],.ro⟩ ⟨c,0,1⟩ w:=by
 letI:=coK Sh n0 Wg
 refine ⟨(Array.getElem?_eq_some_iff.1 hw).1,by simp [Data.len],fun i y hy=>?_⟩
 cases i with
 | zero=>
  simp [Data.at] at hy;subst hy
  exact ⟨v,by simp [World.cell?,at',hw],hv,rfl,.inr ⟨rfl,hc⟩⟩
 | succ i=>simp [Data.at] at hy
theorem z_rel {β:Map}:@LRel _ β z128 (List.replicate 128 (.int .u64 0)):=by
 refine ⟨by simp [z128],fun i x v hx hv=>?_⟩
 simp only [z128,List.getElem?_replicate] at hx hv
 split at hx
 ·rename_i hi
  simp only [hi,if_true] at hv
  injection hx with hx;injection hv with hv
  subst hx hv
  exact .num (.int .u64 (.c 0))
 ·cases hx
theorem start_rel (h7:n0 + 7 ≤ Wg) (hb:bB < n0) (hV:V.n = 1024) (hcp:8 ≤ cp) (hroom:cp * 128 ≤ room) (hmem:CellsAt bB (memO room V) w) (hbs:∀ o,¬ Sh (.cell ⟨bB,o,none⟩)) (hSh:∀ c,Wg ≤ c → ∀ o,¬ Sh (.cell ⟨c,o,none⟩)) (hbox:BoxesIn n0 (some (at' bB 0)) 8 cp 2 w)
 (hz:∀ i,i < 3 → w.heap[Wg + 1 + i]? = some z128o)
 (hg:∀ g l,noGlob g = some l → gIx g < n0 ∧ gIx g ≠ bB ∧ (∀ o,¬ Sh (.cell ⟨gIx g,o,none⟩)) ∧ ∀ (i:Nat) x,l[i]? = some x → ∃ v,w.cell? (gAt g i) = some v ∧ NRel x v) :
 @HRel _ (coK Sh n0 Wg) noGlob (β46 n0 Wg bB room) (H46 V) w:=by
 letI:=coK Sh n0 Wg
 have hsz:Wg + 3 < w.heap.size:=(Array.getElem?_eq_some_iff.1 (hz 2 (by decide))).1
 have mineC:∀ c,Wg < c → Co.mine c:=fun c hc=>⟨by omega,fun k=>by have:=k.2;omega,hSh c (by omega)⟩
 have mineB:Co.mine bB:=⟨by omega,fun k=>by have:=k.1;omega,hbs⟩
 have keep:∀ i,i < 7 → KeepB n0 (n0 + i):=fun i hi=>⟨by omega,by omega⟩
 have hβ:∀ b,b < 11 → β46 n0 Wg bB room b = some ⟨loc46 n0 Wg bB b,0,room46 room b⟩:=fun b hb=>by unfold β46;rw [if_pos hb]
 have own8:∀ i,i < 3 → BRel (β46 n0 Wg bB room) ⟨.gen z128,.own⟩ ⟨Wg + 1 + i,0,128⟩ w:=fun i hi=>
  ⟨rfl,mineC _ (by show Wg < Wg + 1 + i;omega),List.replicate 128 (.int .u64 0),98,(0,0),hz i hi,.inl rfl,by simp,by simp [Data.len,z128],by
   have e:(List.replicate 128 (Value.int .u64 0)).take (Data.gen z128).len = List.replicate 128 (.int .u64 0):=by simp [Data.len,z128]
   rw [e];exact z_rel⟩
 have ro10:BRel (β46 n0 Wg bB room) ⟨.gen z128,.ro⟩ ⟨Wg + 3,0,128⟩ w:=by
  refine ⟨by show Wg + 3 < _;omega,by simp [Data.len,z128],fun i x hx=>?_⟩
  have hx':z128[i]? = some x:=hx
  have hi:i < 128:=by have:=(List.getElem?_eq_some_iff.1 hx').1;simpa [z128] using this
  obtain ⟨v,hv,hr⟩:=(z_rel (β:=β46 n0 Wg bB room)).get hx'
  refine ⟨v,?_,hr,rfl,.inl (mineC _ (by show Wg < Wg + 3;omega))⟩
  have h3:=hz 2 (by decide)
  have h3:w.heap[Wg + 3]? = some (.cells ⟨List.replicate 128 (.int .u64 0)⟩ 98):=h3
  simp only [World.cell?,at',Nat.zero_add,h3]
  simpa using hv
 refine ⟨fun b k hk _=>.inl ?_,fun b b' k k' L L' hne hk hk' ho _ hL hL'=>?_,fun b L hL=>(β46_inv hL).1,fun g l hgl=>?_,fun b k L hk ho hL g l hgl=>?_⟩
 ·have hb11:b < 11:=(List.getElem?_eq_some_iff.1 hk).1
  refine ⟨_,hβ b hb11,?_⟩
  match b,hb11,hk with
  | 0,_,hk=>
   have e:some (Blk.mk (.b64 V) .own) = some k:=hk
   injection e with e;subst e
   obtain ⟨o,⟨vs,t,fz,rfl,hf,hr,ht⟩,hm⟩:=hmem
   have hl:(memA V).toList.length = V.n:=by rw [Array.length_toList,memA_size]
   refine ⟨rfl,mineB,vs,t,fz,hm,hf,hr,by show V.n ≤ room;omega,?_⟩
   ·rw [show (Eng.Data.b64 V).len = V.n from rfl,ht]
    refine ⟨by rw [hl];simp [Data.list,V.h],fun i x v hx hv=>?_⟩
    have hx':(V.l.map AV.w64)[i]? = some x:=hx
    have hv':(V.l.map fun x=>Value.int .u64 (x.toNat:Int))[i]? = some v:=hv
    rw [List.getElem?_map,Option.map_eq_some_iff] at hx' hv'
    obtain ⟨a,ha,rfl⟩:=hx'
    obtain ⟨a',ha',rfl⟩:=hv'
    rw [ha] at ha';injection ha' with ha';subst ha'
    exact .num (.w64 a)
  | 1,_,hk=>
   have e:some (Blk.mk (.gen [.ref (.sm 0 (.c 8) 128)]) .ro) = some k:=hk
   injection e with e;subst e
   exact ro_box (hbox 0 _ rfl) (keep 0 (by decide)) (.sm 0 (.c 8) 128 _ cp hcp (.inr ⟨_,hβ 0 (by decide),rfl,hroom⟩))
  | 2,_,hk=>
   have e:some (Blk.mk (.gen [.num (.int .u32 (.c 1))]) .ro) = some k:=hk
   injection e with e;subst e
   exact ro_box (hbox 1 _ rfl) (keep 1 (by decide)) (.num (.int .u32 (.c 1)))
  | 3,_,hk=>
   have e:some (Blk.mk (.gen [.num (.int .u32 (.c 8))]) .ro) = some k:=hk
   injection e with e;subst e
   exact ro_box (hbox 2 _ rfl) (keep 2 (by decide)) (.num (.int .u32 (.c 8)))
  | 4,_,hk=>
   have e:some (Blk.mk (.gen [.num (.int .u32 (.c 1))]) .ro) = some k:=hk
   injection e with e;subst e
   exact ro_box (hbox 3 _ rfl) (keep 3 (by decide)) (.num (.int .u32 (.c 1)))
  | 5,_,hk=>
   have e:some (Blk.mk (.gen [.num (.int .i64 (.c 2))]) .ro) = some k:=hk
   injection e with e;subst e
   exact ro_box (hbox 4 _ rfl) (keep 4 (by decide)) (.num (.int .i64 (.c 2)))
  | 6,_,hk=>
   have e:some (Blk.mk (.gen [.num (.int .u32 (.c 8))]) .ro) = some k:=hk
   injection e with e;subst e
   exact ro_box (hbox 5 _ rfl) (keep 5 (by decide)) (.num (.int .u32 (.c 8)))
  | 7,_,hk=>
   have e:some (Blk.mk (.gen [.num (.int .u32 (.c 2))]) .ro) = some k:=hk
   injection e with e;subst e
   exact ro_box (hbox 6 _ rfl) (keep 6 (by decide)) (.num (.int .u32 (.c 2)))
  | 8,_,hk=>
   have e:some (Blk.mk (.gen z128) .own) = some k:=hk
   injection e with e;subst e
   exact own8 0 (by decide)
  | 9,_,hk=>
   have e:some (Blk.mk (.gen z128) .own) = some k:=hk
   injection e with e;subst e
   exact own8 1 (by decide)
  | 10,_,hk=>
   have e:some (Blk.mk (.gen z128) .ro) = some k:=hk
   injection e with e;subst e
   exact ro10
 ·rw [(β46_inv hL).2,(β46_inv hL').2]
  have h1:=(β46_inv hL).1
  have h2:=(β46_inv hL').1
  unfold loc46
  split <;> split <;> (try split) <;> (try split) <;> omega
 ·obtain ⟨g1,g2,g3,g4⟩:=hg g l hgl
  refine ⟨by omega,fun i x hx=>?_⟩
  obtain ⟨v,hv,hr⟩:=g4 i x hx
  obtain ⟨b0,hb0⟩:=gAt_eq g
  refine ⟨v,hv,VRel.of_n hr,?_⟩
  rw [hb0]
  exact ⟨rfl,.inl ⟨by show gIx g ≠ Wg;omega,fun k=>by have:=(show n0 ≤ gIx g ∧ _ from k).1;omega,g3⟩⟩
 ·obtain ⟨g1,g2,g3,g4⟩:=hg g l hgl
  rw [(β46_inv hL).2]
  unfold loc46
  split <;> (try split) <;> omega
end
end
section
open Go Go.Eng Conc Conc.Lib RowKit
open Go.ConcX (stA smA OfWg WgAt wgBlock KK rd wr mk RCa RCd KCa DC0)
variable [RowAddr]
theorem goAt_os {w1 w:World} (h:GoAt w1 w):w.os = w1.os ∧ w.tape = w1.tape ∧ w.output = w1.output:=by
 obtain ⟨w2,⟨d,rfl⟩,⟨d',rfl⟩⟩:=h
 have hA:=aside_setCell ((w1.alloc wgNew).at d) (stA w1.heap.size) (.int .u64 KK)
 exact ⟨hA.os,hA.tape,hA.output⟩
theorem kca_of {ty:TypeId} {Wg:Nat} {w w':World} (h:KCa ty Wg w) (e:w'.heap[Wg]? = w.heap[Wg]?):KCa ty Wg w':=by
 unfold KCa WgAt at *
 rw [e];exact h
theorem own46 {n0 Wg bB room:Nat} {V:Vec 64} {c:Nat} [Co] (h:Own (β46 n0 Wg bB room) (H46 V) c):c = bB ∨ c = Wg + 1 ∨ c = Wg + 2:=by
 obtain ⟨b,k,L,hk,ho,hL,rfl⟩:=h
 obtain ⟨h1,h2⟩:=β46_inv hL
 rw [h2]
 have no:∀ {d:Eng.Data},(some (Blk.mk d .ro) = some k) → False:=fun e=>by injection e with e;subst e;cases ho
 match b,h1,hk with
 | 0,_,hk=>exact .inl rfl
 | 1,_,hk=>exact (no hk).elim
 | 2,_,hk=>exact (no hk).elim
 | 3,_,hk=>exact (no hk).elim
 | 4,_,hk=>exact (no hk).elim
 | 5,_,hk=>exact (no hk).elim
 | 6,_,hk=>exact (no hk).elim
 | 7,_,hk=>exact (no hk).elim
 | 8,_,hk=>exact .inr (.inl rfl)
 | 9,_,hk=>exact .inr (.inr rfl)
 | 10,_,hk=>exact (no hk).elim
def AtDone (Sh:Go.Loc → Prop) (n0 Wg bB room:Nat) (V:Vec 64) (w3:World) (g:Goroutine) (x:World):Prop:=
 ∃ a' β',g = G ((baseD 46).at a' [.code tail46]) [bot] ∧ @FRel _ (nv 46) (ntmpsIn Tryd.prog 46) β' (E46 Wg V).1 a' ∧ @HRel _ (coK Sh n0 Wg) noGlob β' (E46 Wg V).2 x ∧ β' 0 = some ⟨bB,0,room⟩ ∧
  (x.os = w3.os ∧ x.tape = w3.tape ∧ x.output = w3.output ∧ w3.heap.size ≤ x.heap.size) ∧ ∀ c,c < w3.heap.size → (coK Sh n0 Wg).mine c → c ≠ bB → c ≠ Wg + 1 → c ≠ Wg + 2 → x.heap[c]? = w3.heap[c]?
instance seatK (Sh:Go.Loc → Prop) (n0 Wg:Nat):@SeatCo (coK Sh n0 Wg):=@SeatCo.mk (coK Sh n0 Wg) fun _ _=>trivial
theorem mid46 {Sh:Go.Loc → Prop} {n0 Wg bB room:Nat} {V:Vec 64} {s:Nat} (hs:s < 4) (hV:V.n = 1024) {w3:World} {a3:Act} (h7:n0 + 7 ≤ Wg) (h4:Wg + 4 ≤ w3.heap.size)
 (hF:@FRel _ (nv 46) (ntmpsIn Tryd.prog 46) (β46 n0 Wg bB room) (F46 s Wg) a3) (hH:@HRel _ (coK Sh n0 Wg) noGlob (β46 n0 Wg bB room) (H46 V) w3) :
 @GoesJ (coK Sh n0 Wg) Tryd.prog (AtDone Sh n0 Wg bB room (stepX s V) w3) (G ((baseD 46).at a3 [.code (seqTo (bodyIn Tryd.prog 46) ps46 tail46)]) [bot]) w3:=by
 letI:=coK Sh n0 Wg
 obtain ⟨cs,hr,hcs⟩:=run46 s hs Wg V hV
 refine goS_step specs46_ok (no_loops _) fine46 tail46 hr hcs hF hH (baseD 46) [] [bot] _ ⟨by simp [baseD],trivial⟩ fun a' w' β' f h st hold=>.stop fun w₁ hr=>?_
 have e0:β' 0 = some ⟨bB,0,room⟩:=hold 0 (by show 0 < 11;decide)
 refine ⟨a',β',rfl,f,h.rely hr,e0,⟨hr.os.trans st.os,hr.tape.trans st.tape,hr.output.trans st.output,Nat.le_trans st.size hr.size⟩,fun c hc hm h1 h2 h3=>?_⟩
 refine (hr.mine c (Nat.lt_of_lt_of_le hc st.size) hm).trans ((st.kept c hc fun ho=>?_).1 hm)
 rcases own46 ho with h | h | h
 ·exact h1 h
 ·exact h2 h
 ·exact h3 h
end
section
open Go Go.Eng Conc Conc.Lib RowKit
open Go.ConcX (stA smA OfWg WgAt wgBlock KK rd wr mk RCa RCd KCa DC0)
variable [RowAddr]
section
variable {Sh:Go.Loc → Prop} {n0 Wg:Nat}
theorem alloc_step (h7:n0 + 7 ≤ Wg) {i d:Nat} {o:Oper} {rest:List Nat} {a:Act} {k:List Item} (ho:ops0[i]? = some o) (hw:∀ y,Region.wanted o y = true) (hd:o.dst = some d)
 (hr:∀ (ρ:Operand → Value) (w:World),@Sem.runQ (coK Sh n0 Wg) _ Tryd.prog (execOp ρ o) w = .ok (.value (bp w.heap.size)) (w.alloc z128o)) {Stop:Goroutine → World → Prop} {w:World} (hW:Wg < w.heap.size)
 (hg:∀ w₁,RK link.tWg Wg w w₁ → Eng.Way Tryd.prog false (RK link.tWg Wg) (DK Sh Wg (KeepB n0)) Stop (G ((baseD 46).at (a.put (some d) (bp w.heap.size)) (.inRegion ops0 rest :: k)) [bot]) (w₁.alloc z128o)) :
 Eng.Way Tryd.prog false (RK link.tWg Wg) (DK Sh Wg (KeepB n0)) Stop (G ((baseD 46).at a (.inRegion ops0 (i :: rest) :: k)) [bot]) w:=by
 refine .one rfl fun w₁ h₁=>?_
 have h0:=stepG_value (P:=Tryd.prog) (main:=false) (b:=baseD 46) (a:=a) (k:=k) (cs:=[bot]) (rest:=rest) ho (hw _) (by simp [baseD]) (@runQ_ok (coK Sh n0 Wg) _ Tryd.prog _ _ _ _ (hr a.eval w₁)).1
 rw [hd] at h0
 have hsz:=h₁.size
 rw [← hsz] at hg
 exact ⟨_,_,_,h0,guaDK h7 (by omega) (@gua_of (coK Sh n0 Wg) Tryd.prog _ _ _ _ _ (hr a.eval w₁) (@far_alloc _ (coK Sh n0 Wg) w₁ z128o) 46),hg w₁ h₁⟩
theorem alloc_size (w:World):(w.alloc z128o).heap.size = w.heap.size + 1:=by simp [World.alloc,-World.alloc_eq]
theorem alloc_old (w:World) {c:Nat} (hc:c < w.heap.size):(w.alloc z128o).heap[c]? = w.heap[c]?:=RowKit.Below.heap_alloc w _ c hc
theorem alloc_new (w:World):(w.alloc z128o).heap[w.heap.size]? = some z128o:=by simp [World.alloc,-World.alloc_eq]
theorem head46 (h7:n0 + 7 ≤ Wg) {s:Int} {Stop:Goroutine → World → Prop} {w:World} (hsz:w.heap.size = Wg + 1) (hk:KCa link.tWg Wg w)
 (hg:∀ (w3:World) (a3:Act),a3 = (((⟨#[.int .u32 0,.int .u32 s,.int .u32 0,bp Wg,bp (n0 + 4),bp (n0 + 2),bp (n0 + 1),bp (n0 + 5),bp (n0 + 6),bp n0,bp (n0 + 3)] ++ Array.replicate 142 undef,[]⟩:Act).put (some 15) (bp (Wg + 1))).put (some 16) (bp (Wg + 2))).put (some 17) (bp (Wg + 3)) →
  w3.heap.size = Wg + 4 → (∀ c,c < Wg → w3.heap[c]? = w.heap[c]?) → KCa link.tWg Wg w3 → (w3.os = w.os ∧ w3.tape = w.tape ∧ w3.output = w.output) → (∀ i,i < 3 → w3.heap[Wg + 1 + i]? = some z128o) →
  Eng.Way Tryd.prog false (RK link.tWg Wg) (DK Sh Wg (KeepB n0)) Stop (G ((baseD 46).at a3 [.code (seqTo (bodyIn Tryd.prog 46) ps46 tail46)]) [bot]) w3) :
 Eng.Way Tryd.prog false (RK link.tWg Wg) (DK Sh Wg (KeepB n0)) Stop (born Tryd.prog (call46 n0 s Wg)) w:=by
 refine Way.ctlK rfl (born_step n0 s Wg) ?_
 unfold fr46
 rw [body46',body46]
 refine Way.ctlK rfl (fun _=>stepG_seq) (Way.ctlK rfl (fun _=>stepG_region) ?_)
 rw [range0]
 refine alloc_step h7 oA_get.1 (fun y=>(want y).1) oA_dst.1 (fun ρ w=>@oA0_run _ _ (coK Sh n0 Wg)) (by omega) fun wa ra=>?_
 have sa:=ra.size
 refine alloc_step h7 oA_get.2.1 (fun y=>(want y).2.1) oA_dst.2.1 (fun ρ w=>@oA1_run _ _ (coK Sh n0 Wg)) (by rw [alloc_size];omega) fun wb rb=>?_
 have sb:=rb.size
 rw [alloc_size] at sb
 refine alloc_step h7 oA_get.2.2 (fun y=>(want y).2.2.1) oA_dst.2.2 (fun ρ w=>@oA2_run _ _ (coK Sh n0 Wg)) (by rw [alloc_size];omega) fun wc rc=>?_
 have sc:=rc.size
 rw [alloc_size] at sc
 refine Way.ctlK rfl (fun _=>stepG_region_end) ?_
 have oldA:∀ c,c < Wg + 1 → c ≠ Wg → (wa.alloc z128o).heap[c]? = w.heap[c]?:=fun c hc hn=>(alloc_old wa (by omega)).trans (ra.block c hn)
 have oldB:∀ c,c < Wg + 2 → c ≠ Wg → (wb.alloc z128o).heap[c]? = (wa.alloc z128o).heap[c]?:=fun c hc hn=>(alloc_old wb (by omega)).trans (rb.block c hn)
 have oldC:∀ c,c < Wg + 3 → c ≠ Wg → (wc.alloc z128o).heap[c]? = (wb.alloc z128o).heap[c]?:=fun c hc hn=>(alloc_old wc (by omega)).trans (rc.block c hn)
 have e1:w.heap.size = Wg + 1:=hsz
 have e2:(wa.alloc z128o).heap.size = Wg + 2:=by rw [alloc_size];omega
 have e3:(wb.alloc z128o).heap.size = Wg + 3:=by rw [alloc_size];omega
 have na:wa.heap.size = Wg + 1:=by omega
 have nb:wb.heap.size = Wg + 2:=by omega
 have nc:wc.heap.size = Wg + 3:=by omega
 refine hg _ _ (by rw [e1,e2,e3]) (by rw [alloc_size];omega) (fun c hc=>(oldC c (by omega) (by omega)).trans ((oldB c (by omega) (by omega)).trans (oldA c (by omega) (by omega)))) ?_ ⟨rc.os.trans (rb.os.trans ra.os),rc.tape.trans (rb.tape.trans ra.tape),rc.output.trans (rb.output.trans ra.output)⟩ fun i hi=>?_
 ·refine kca_of (rc.k (kca_of (rb.k (kca_of (ra.k hk) (alloc_old wa (by omega)))) (alloc_old wb (by omega)))) (alloc_old wc (by omega))
 ·match i,hi with
  | 0,_=>exact (oldC _ (by omega) (by omega)).trans ((oldB _ (by omega) (by omega)).trans (by have:=alloc_new wa;rw [na] at this;exact this))
  | 1,_=>exact (oldC _ (by omega) (by omega)).trans (by have:=alloc_new wb;rw [nb] at this;exact this)
  | 2,_=>have:=alloc_new wc;rw [nc] at this;exact this
end
end
end Go.Proofs.YtineimjmnbjdlaaDoor

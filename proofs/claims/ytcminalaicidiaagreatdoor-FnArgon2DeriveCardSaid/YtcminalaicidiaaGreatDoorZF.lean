/- Part of FnArgon2Derive. No condition. -/
import Derived.Test.YtcminalaicidiaaGreatDoorZE
set_option maxRecDepth 100000
set_option maxHeartbeats 8000000
set_option linter.all false
def aou:=@Bool.true_eq_false
noncomputable section
namespace Go.Proofs.YtcminalaicidiaaGreatDoor
section
open Go Go.aA Conc Conc.Lib
variable [aR][aF][bq]
section
variable{f g R S z n:Nat}{U:Code}{fn V:Func}
def amr{aj bC:Nat}{β:aE}{args:List af}{us:List Value}(a:aJ β args us)(b:args.length≤bC):
 cL aj bC β ⟨args++List.replicate (aj-args.length) .aa,[]⟩ {tmps:=(⟨us⟩:Array Value)++Array.replicate (bC-us.length) undef,defers:=[]}:=Tx a (by rw[←a.1];exact b)
def D9.calls(D:D9 f g R S z n U fn V)(t:aF.plain f){spec:FuncId→Option aA.Spec}(H:∀f I,spec f=some I→br f I)
 (x:∃m,codeOk Tryz.prog (bN Tryz.prog f) (dyn f) m (sub [false] (cR Tryz.prog f))=true) (y:∃m,codeOk Tryz.prog (bN Tryz.prog f) (dyn f) m (sub [true,true] (cR Tryz.prog f))=true)
 (ai:sub [false] (cR Tryz.prog f)=.region 0 (dU f [false]) false)
 {a:List ah} {args:List af} (ak:args.length≤n) {j e:aI×List ah} {al am:Option (List Nat)} {an J kD:List Bool} {ao cm c1 c2:Nat} {K L:af}
 (ap:eg a.length al j (qa spec aQ f [false] ⟨args++List.replicate (aj f-args.length) .aa,[]⟩ ⟨a,bJ,[],[]⟩)=some (.normal,j,J)) (aq:∀R∈J,R=true)
 (bg:j.1.get (aj f) R=.ref (.ptr ao (.c 0))) (bh:j.1.get (aj f) S=.ref (.ptr cm (.c 0))) (M:a.length≤j.2.length)
 (ar:eg j.2.length am e (qa spec aQ f [true,true] (j.1.put (aj f) (some z) .aa) ⟨j.2,bJ,an,[]⟩)=some (.ret,e,kD)) (au:∀R∈kD,R=true)
 (av:e.1.get (aj f) R=.ref (.ptr c1 (.c 0))) (aw:e.1.get (aj f) S=.ref (.ptr c2 (.c 0))) (ax:e.2[c1]? =some ⟨.gen [K],.own⟩) (ay:e.2[c2]? =some ⟨.gen [L],.own⟩)
 {β:aE} {w:World} {us:List Value} (N:aJ β args us) (az:aL bB β a w) (O:∀b aB,β b=some aB→b<a.length):
 (∃fn,Tryz.prog.funcs[f]? =some fn∧(fn.name== "runtime.NumGoroutine")=false∧fn.body.isSome=true)∧
 jU Tryz.prog f ⟨us⟩ w fun l w'=>∃u h,l=.returned u∧aC h (.obj .bx [K,L]) u∧aL bB h ((e.2.set c1 ⟨.gen [],.bn⟩).set c2 ⟨.gen [],.bn⟩) w'∧gL a.length β a w h ((e.2.set c1 ⟨.gen [],.bn⟩).set c2 ⟨.gen [],.bn⟩) w':=by
 refine⟨⟨fn,D.Ea,D.aO,by rw[D.HI];rfl⟩,fun cs aD aG=>?_⟩;have bi:us.length=args.length:=N.1.symm;rw[enter_at _ D.Ea D.HI,D.fn];have aH:cL (aj f) (bN Tryz.prog f) β ⟨args++List.replicate (aj f-args.length) .aa,[]⟩ {tmps:=(⟨us⟩:Array Value)++Array.replicate (n-us.length) undef,defers:=[]}:=by
  have:=amr (aj:=aj f) (bC:=bN Tryz.prog f) N (by rw[D.y3];exact ak)
  rwa[D.y3]at this⊢
 have aK:xw (base f):=⟨by simp[base],t⟩;have k:aF.plain g:=bq.plain g D.NN;have aM:xw (baseD g):=⟨by simp[baseD],k⟩;obtain⟨bj,x⟩:=x;obtain⟨bk,y⟩:=y;obtain⟨X,aN⟩:=D.NM;have aP:(cR Tryz.prog f).ef Tryz.prog (fun l o w'=>l=.ret∧o.tmps.size=n∧∃u v h,o.defers=[rE g u v]∧aC h (.ref (.ptr c1 (.c 0))) (o.eval (.tmp R))∧aC h (.ref (.ptr c2 (.c 0))) (o.eval (.tmp S))∧aL bB h e.2 w'∧gL a.length β a w h e.2 w') {tmps:=(⟨us⟩:Array Value)++Array.replicate (n-us.length) undef,defers:=[]} w:=by
  rw[D.body];refine zK ?_;rw[←ai];refine(VB H f [false] x).step (n0:=a.length) ap aq (aX _) (aX _) O aH az (bM.q (bM.refl ..) (aX _)) fun i w1 W A h1 aS _ _=>?_;refine zK (amo D rfl rfl (A.size.trans D.y3) fun bl r=>?_);have B:=A.put (d:=some z) (fun R C=>by injection C with C;subst C;rw[D.y3];exact D.hz) (aC.aa (Value.func (Fn.func g) #[] #[i.eval (.tmp R),i.eval (.tmp S)]));have aT:=B.val;have aU:=B.size;have Y:i.defers=[]:=A.defers;clear B;letI:oU:=⟨[rE g (i.eval (.tmp R)) (i.eval (.tmp S))]⟩;have aV:cL (aj f) (bN Tryz.prog f) W (j.1.put (aj f) (some z) .aa) ⟨(i.put (some z) (.func (.func g) #[] #[i.eval (.tmp R),i.eval (.tmp S)])).tmps,rE g (i.eval (.tmp R)) (i.eval (.tmp S))::i.defers⟩:=⟨aT,aU,by rw[Y];rfl⟩;rw[D.rest];refine(VB H f [true,true] y).step (n0:=a.length) ar au M (aX _) O aV (h1.rely r) (aS.step (bM.q (r.nC W j.2) (aX _)) M) fun bm bo aW f4 h3 aY _ _=>?_;refine⟨rfl,f4.size.trans D.y3,_,_,aW,f4.defers,?_,?_,h3,aY⟩
  ·rw[←av];exact f4.val R
  ·rw[←aw];exact f4.val S
 refine aP (base f) [] cs aD aK fun l o w' q=>?_;obtain⟨rfl,bp,u,v,h,aZ,a0,a1,a2,Z⟩:=q;intro a3;refine dr.ctl rfl t (fun _=>aml D aZ _) ?_;rw[aN];refine dr.ctl rfl k (fun _=>stepG_seq) (dr.ctl rfl k (fun _=>stepG_region) ?_);rw[D.s1];refine dr.ctl rfl k (fun _=>amm D rfl _) ?_;have a4:(Act.put ⟨#[u,v]++Array.replicate 2 undef,[]⟩ (some 2) .nilIface).eval (.tmp 2)=.nilIface:=fJ (by simp);refine B9 (P:=Tryz.prog) (ops:=dU g [false]) (Q:=fun l E p=>l=.normal∧E.eval (.tmp 3)=.bool false∧E.defers=[]∧er w' p) [1] _ w' ?_ (baseD g) _ _ _ aM fun l E p q=>?_
 ·simp only[lq,D.IX,HK D.h1,gT];intro p a5;refine⟨.value _,p,amn D _ p a4 rfl,fun _=>⟨eV.refl _,?_⟩⟩;rw[D.ID];exact⟨trivial,fJ (by simp[Act.put]),rfl,a5⟩
 obtain⟨rfl,a6,a7,aa⟩:=q;have F:=a2.rely aa;refine dr.ctl rfl k (fun _=>stepG_cond a6) ?_;refine dr.ctl rfl k (fun _=>stepG_skip) (dr.ctl rfl k (fun _=>stepG_end) ?_);refine dr.ctl rfl k (fun s=>stepG_leave_deferred rfl a7 D.CS (Vz D _ s).1 (Vz D _ s).2 rfl) ?_;obtain⟨bs,ab,a8,a9,ba,bb⟩:=VA F ax a0;obtain⟨Y,ad,eq,bc,bd,bf⟩:=VA F ay a1;have ae:EM Tryz.prog f (.tuple #[ab,ad]) p {(base f).at ⟨o.tmps,[]⟩ a3 with mode:=.returning}:=
  ⟨rfl,rfl,rfl,rfl,fn,D.Ea,fun s r=>amq D.fr (T:=o.tmps) a8 eq (bb s r) ba (bf s r) bd⟩
 have ag:=aG (.tuple #[ab,ad]) p ⟨_,h,rfl,aC.I4 (.cons a9 (.cons bc (.nil _))),(F.kill c1 (.gen [])).kill c2 (.gen []),Z.step (((aa.nC h e.2).trans ((bM.kill c1 (.gen [])).trans (bM.kill c2 (.gen [])))).q (aX _)) ?_⟩
 ·cases cs with|nil=>exact ag _ ae|cons c cs=>exact .OI t ae ag
 ·exact Z.len
end
end
section
open Go Go.aA
def ams:D9 9 15 18 19 20 35 (sub [true,true] (cR Tryz.prog 9)) Tryz.f9 Tryz.f15 where
 Ea:=Tryz.func9
 HI:=by kernel_rfl
 aO:=by kernel_rfl
 fr:=by kernel_rfl
 fn:=by kernel_rfl
 y3:=by kernel_rfl
 body:=by kernel_rfl
 rest:=rfl
 Jt:=by kernel_rfl
 NA:=by kernel_rfl
 Fi:=by kernel_rfl
 Ar:=by kernel_rfl
 d0:=by kernel_rfl
 g0:=by kernel_rfl
 CC:=by kernel_rfl
 d1:=by kernel_rfl
 Jd:=by kernel_rfl
 hz:=by decide
 CS:=Tryz.func15
 HJ:=by kernel_rfl
 NL:=by kernel_rfl
 GN:=by kernel_rfl
 oc:=by kernel_rfl
 NM:=⟨match sub [true] (cR Tryz.prog 15)with|.cond _ c _=>c|c=>c,by kernel_rfl⟩
 s1:=by kernel_rfl
 b0:=by kernel_rfl
 IX:=by kernel_rfl
 Gv:=by kernel_rfl
 II:=by kernel_rfl
 h0:=by kernel_rfl
 JM:=by kernel_rfl
 ID:=by kernel_rfl
 h1:=by kernel_rfl
 NN:=by kernel_rfl
def VC:D9 13 23 14 15 16 41 (sub [true,true] (cR Tryz.prog 13)) Tryz.f13 Tryz.f23 where
 Ea:=Tryz.func13
 HI:=by kernel_rfl
 aO:=by kernel_rfl
 fr:=by kernel_rfl
 fn:=by kernel_rfl
 y3:=by kernel_rfl
 body:=by kernel_rfl
 rest:=rfl
 Jt:=by kernel_rfl
 NA:=by kernel_rfl
 Fi:=by kernel_rfl
 Ar:=by kernel_rfl
 d0:=by kernel_rfl
 g0:=by kernel_rfl
 CC:=by kernel_rfl
 d1:=by kernel_rfl
 Jd:=by kernel_rfl
 hz:=by decide
 CS:=Tryz.func23
 HJ:=by kernel_rfl
 NL:=by kernel_rfl
 GN:=by kernel_rfl
 oc:=by kernel_rfl
 NM:=⟨match sub [true] (cR Tryz.prog 23)with|.cond _ c _=>c|c=>c,by kernel_rfl⟩
 s1:=by kernel_rfl
 b0:=by kernel_rfl
 IX:=by kernel_rfl
 Gv:=by kernel_rfl
 II:=by kernel_rfl
 h0:=by kernel_rfl
 JM:=by kernel_rfl
 ID:=by kernel_rfl
 h1:=by kernel_rfl
 NN:=by kernel_rfl
variable [aR][aF][bq]
abbrev rF:=U 8→U 8→U 8→U 8→Nat→Nat→Nat→Nat→Nat→Nat→Nat→Nat→BitVec 32→BitVec 32→BitVec 8→BitVec 32→Int→U 8
abbrev rG:=U 8→U 8→Nat→Nat→Nat→Nat→BitVec 32→BitVec 32→BitVec 8→BitVec 32→Int→U 8
def VD(d:rF):bT Nn:={uB with out:=fun⟨a,b,c,e,bA,na,bz,nb,bH,bD,bO,ne,t,m,p,k,f⟩=>[⟨.ag a,.ro⟩,⟨.ag b,.ro⟩,⟨.ag c,.ro⟩,⟨.ag e,.ro⟩,⟨.ag (d a b c e bA na bz nb bH bD bO ne t m p k f),.own⟩]}
def amt:VD en=uB:=rfl
def VE(c:rG):bT Np:={uC with out:=fun⟨a,b,bA,na,bz,nb,t,m,p,k,d⟩=>[⟨.ag a,.ro⟩,⟨.ag b,.ro⟩,⟨.ag (c a b bA na bz nb t m p k d),.own⟩]}
def amu:VE kG=uC:=rfl
def y4(a:rF)(b:rG):FuncId→Option aA.Spec|26=>some (fK (VD a).spec (VE b).spec)|_=>none
def NO(b:br 33 lM.spec):∀f a,y4 en kG f=some a→br f a:=by
 intro f a h;unfold y4 at h;split at h
 ·cases h;rw[amt,amu];exact dy.or (al0 b) (al1 b)
 ·cases h
structure NP where
 (a b c e:U 8)(bA na bz nb bH bD bO ne:Nat)(t m p k aM:Int)
def NQ(a:List af)(d:List ah):Option NP:=
 match a with
 |[.num (.int .i64 (.s e)),.ref (.sl 0 (.s f) (.s g) none),.ref (.sl 1 (.s h) (.s i) none),.ref (.sl 2 (.s j) (.s l) none),.ref (.sl 3 (.s n) (.s o) none),.num (.int .i64 (.s t)),.num (.int .i64 (.s m)),.num (.int .i64 (.s p)),.num (.int .i64 (.s k))]=>
  match d with
  |[⟨.ag a,.ro⟩,⟨.ag b,.ro⟩,⟨.ag c,.ro⟩,⟨.ag q,.ro⟩]=>some ⟨a,b,c,q,f,g,h,i,j,l,n,o,t,m,p,k,e⟩|_=>none
 |_=>none
def qs:bT NP where
 d0:=⟨0,0,0,0,0,0,0,0,0,0,0,0,0,0,0,0,0⟩
 read:=NQ
 args:=fun⟨_,_,_,_,i,d,j,e,l,f,o,g,t,m,p,k,q⟩=>[.aq q,.ref (.sl 0 (.s i) (.s d) none),.ref (.sl 1 (.s j) (.s e) none),.ref (.sl 2 (.s l) (.s f) none),.ref (.sl 3 (.s o) (.s g) none),.aq t,.aq m,.aq p,.aq k]
 heap:=fun⟨a,b,c,h,_,_,_,_,_,_,_,_,_,_,_,_,_⟩=>[⟨.ag a,.ro⟩,⟨.ag b,.ro⟩,⟨.ag c,.ro⟩,⟨.ag h,.ro⟩]
 out:=fun⟨a,b,c,h,i,d,j,e,l,f,o,g,t,m,p,k,q⟩=>[⟨.ag a,.ro⟩,⟨.ag b,.ro⟩,⟨.ag c,.ro⟩,⟨.ag h,.ro⟩,cp,cp,⟨.ag (en a b c h i d j e l f o g (BitVec.ofInt 32 t) (BitVec.ofInt 32 m) (BitVec.ofInt 8 p) (BitVec.ofInt 32 k) q),.own⟩]
 val:=fun⟨_,_,c,_,_,_,_,_,_,_,_,_,_,_,_,k,_⟩=>(.obj .bx [.ref (.sl 6 (.c 0) (.s ((BitVec.ofInt 32 k)).toNat) (some (.s ((BitVec.ofInt 32 k)).toNat))),.atom (.bool (.c true))])
 aS:=fun⟨a,b,c,h,i,d,j,e,l,f,o,g,t,m,p,k,_⟩=>decide (i+d≤a.n∧d≤1000000∧j+e≤b.n∧e≤1000000∧l+f≤c.n∧f≤1000000∧o+g≤h.n∧g≤1000000∧1≤t∧t≤4∧0≤m∧m≤256∧1≤p∧p≤8∧1≤k∧k≤1024)
def amv:qs.Rd:=by
 intro a b d h;change NQ a b=some d at h;unfold NQ at h;repeat' split at h
 all_goals cases h
 exact⟨rfl,rfl⟩
structure NR where
 (a b:U 8)(bA na bz nb:Nat)(t m p k kd:Int)
def NS(a:List af)(c:List ah):Option NR:=
 match a with
 |[.num (.int .i64 (.s d)),.ref (.sl 0 (.s e) (.s f) none),.ref (.sl 1 (.s g) (.s h) none),.num (.int .i64 (.s t)),.num (.int .i64 (.s m)),.num (.int .i64 (.s p)),.num (.int .i64 (.s k))]=>
  match c with
  |[⟨.ag a,.ro⟩,⟨.ag b,.ro⟩]=>some ⟨a,b,e,f,g,h,t,m,p,k,d⟩|_=>none
 |_=>none
def ou:bT NR where
 d0:=⟨0,0,0,0,0,0,0,0,0,0,0⟩
 read:=NS
 args:=fun⟨_,_,f,d,g,e,t,m,p,k,h⟩=>[.aq h,.ref (.sl 0 (.s f) (.s d) none),.ref (.sl 1 (.s g) (.s e) none),.aq t,.aq m,.aq p,.aq k]
 heap:=fun⟨a,b,_,_,_,_,_,_,_,_,_⟩=>[⟨.ag a,.ro⟩,⟨.ag b,.ro⟩]
 out:=fun⟨a,b,f,d,g,e,t,m,p,k,h⟩=>[⟨.ag a,.ro⟩,⟨.ag b,.ro⟩,cp,cp,⟨.ag (kG a b f d g e (BitVec.ofInt 32 t) (BitVec.ofInt 32 m) (BitVec.ofInt 8 p) (BitVec.ofInt 32 k) (if h=0 then 1 else 2)),.own⟩]
 val:=fun⟨_,_,_,_,_,_,_,_,_,k,_⟩=>(.obj .bx [.ref (.sl 4 (.c 0) (.s ((BitVec.ofInt 32 k)).toNat) (some (.s ((BitVec.ofInt 32 k)).toNat))),.atom (.bool (.c true))])
 aS:=fun⟨a,b,f,d,g,e,t,m,p,k,_⟩=>decide (f+d≤a.n∧d≤1000000∧g+e≤b.n∧e≤1000000∧1≤t∧t≤4∧0≤m∧m≤256∧1≤p∧p≤8∧1≤k∧k≤1024)
def amw:ou.Rd:=by
 intro a b d h;change NS a b=some d at h;unfold NS at h;repeat' split at h
 all_goals cases h
 exact⟨rfl,rfl⟩
def tY(a b c d:U 8)(us:List af):aI×List ah:=(⟨us++List.replicate 9 .aa++[.ref (.ptr 4 (.c 0)),.ref (.ptr 5 (.c 0))],[]⟩,[⟨.ag a,.ro⟩,⟨.ag b,.ro⟩,⟨.ag c,.ro⟩,⟨.ag d,.ro⟩,⟨.gen [.atom .cI],.own⟩,⟨.gen [.atom (.bool (.c false))],.own⟩])
def amx(q:rF)(r:rG)(a b c d:U 8)(e f g h i j l n:Nat)(t m p k o:Int):jF (qs.heap ⟨a,b,c,d,e,f,g,h,i,j,l,n,t,m,p,k,o⟩).length (b6 6) (tY a b c d (qs.args ⟨a,b,c,d,e,f,g,h,i,j,l,n,t,m,p,k,o⟩)) (qa (y4 q r) aQ 9 [false] ⟨qs.args ⟨a,b,c,d,e,f,g,h,i,j,l,n,t,m,p,k,o⟩++List.replicate (aj 9-(qs.args ⟨a,b,c,d,e,f,g,h,i,j,l,n,t,m,p,k,o⟩).length) .aa,[]⟩ ⟨qs.heap ⟨a,b,c,d,e,f,g,h,i,j,l,n,t,m,p,k,o⟩,bJ,[],[]⟩) .normal []:=by show _=_;kernel_rfl
def amy(r:rF)(u:rG)(a b c d:U 8)(i e j f l g o h:Nat)(t m p k q:Int):jF 6 (b6 7) (⟨List.replicate 18 .aa++[.P 4,.P 5],[]⟩,[⟨.ag a,.ro⟩,⟨.ag b,.ro⟩,⟨.ag c,.ro⟩,⟨.ag d,.ro⟩,⟨.gen [.ref (.sl 6 (.c 0) (.s (BitVec.ofInt 32 k).toNat) (some (.s (BitVec.ofInt 32 k).toNat)))],.own⟩,⟨.gen [.atom (.bool (.c true))],.own⟩,⟨.ag (r a b c d i e j f l g o h (BitVec.ofInt 32 t) (BitVec.ofInt 32 m) (BitVec.ofInt 8 p) (BitVec.ofInt 32 k) q),.own⟩]) (qa (y4 r u) aQ 9 [true,true] ((tY a b c d (qs.args ⟨a,b,c,d,i,e,j,f,l,g,o,h,t,m,p,k,q⟩)).1.put (aj 9) (some 20) .aa) ⟨(tY a b c d (qs.args ⟨a,b,c,d,i,e,j,f,l,g,o,h,t,m,p,k,q⟩)).2,bJ,[],[]⟩) .ret [decide (((i+e)≤a.n∧(e≤1000000∧((j+f)≤b.n∧(f≤1000000∧((l+g)≤c.n∧(g≤1000000∧((o+h)≤d.n∧(h≤1000000∧(1≤(BitVec.ofInt 32 t).toNat∧((BitVec.ofInt 32 t).toNat≤1000000∧((BitVec.ofInt 32 m).toNat≤256∧(1≤(BitVec.ofInt 8 p).toNat∧((BitVec.ofInt 8 p).toNat≤8∧1≤(BitVec.ofInt 32 k).toNat))))))))))))))]:=by show _=_;kernel_rfl
def Eb(a b:U 8)(us:List af):aI×List ah:=(⟨us++List.replicate 7 .aa++[.ref (.ptr 2 (.c 0)),.ref (.ptr 3 (.c 0))],[]⟩,[⟨.ag a,.ro⟩,⟨.ag b,.ro⟩,⟨.gen [.atom .cI],.own⟩,⟨.gen [.atom (.bool (.c false))],.own⟩])
def VF(h:rF)(i:rG)(a b:U 8)(c d e f:Nat)(t m p k g:Int):jF (ou.heap ⟨a,b,c,d,e,f,t,m,p,k,g⟩).length (b6 4) (Eb a b (ou.args ⟨a,b,c,d,e,f,t,m,p,k,g⟩)) (qa (y4 h i) aQ 13 [false] ⟨ou.args ⟨a,b,c,d,e,f,t,m,p,k,g⟩++List.replicate (aj 13-(ou.args ⟨a,b,c,d,e,f,t,m,p,k,g⟩).length) .aa,[]⟩ ⟨ou.heap ⟨a,b,c,d,e,f,t,m,p,k,g⟩,bJ,[],[]⟩) .normal []:=by show _=_;kernel_rfl
def amz(j:rF)(i:rG)(a b:U 8)(f d g e:Nat)(t m p k h:Int):jF 4 (b6 5) (⟨List.replicate 14 .aa++[.P 2,.P 3],[]⟩,[⟨.ag a,.ro⟩,⟨.ag b,.ro⟩,⟨.gen [.ref (.sl 4 (.c 0) (.s (BitVec.ofInt 32 k).toNat) (some (.s (BitVec.ofInt 32 k).toNat)))],.own⟩,⟨.gen [.atom (.bool (.c true))],.own⟩,⟨.ag (i a b f d g e (BitVec.ofInt 32 t) (BitVec.ofInt 32 m) (BitVec.ofInt 8 p) (BitVec.ofInt 32 k) 1),.own⟩]) (qa (y4 j i) aQ 13 [true,true] ((Eb a b (ou.args ⟨a,b,f,d,g,e,t,m,p,k,h⟩)).1.put (aj 13) (some 16) .aa) ⟨(Eb a b (ou.args ⟨a,b,f,d,g,e,t,m,p,k,h⟩)).2,bJ,[true],[]⟩) .ret [decide (((f+d)≤a.n∧(d≤1000000∧((g+e)≤b.n∧(e≤1000000∧(1≤(BitVec.ofInt 32 t).toNat∧((BitVec.ofInt 32 t).toNat≤1000000∧((BitVec.ofInt 32 m).toNat≤256∧(1≤(BitVec.ofInt 8 p).toNat∧((BitVec.ofInt 8 p).toNat≤8∧1≤(BitVec.ofInt 32 k).toNat)))))))))),((h==0)==true)]:=by show _=_;kernel_rfl
def amA(j:rF)(i:rG)(a b:U 8)(f d g e:Nat)(t m p k h:Int):jF 4 (b6 5) (⟨List.replicate 14 .aa++[.P 2,.P 3],[]⟩,[⟨.ag a,.ro⟩,⟨.ag b,.ro⟩,⟨.gen [.ref (.sl 4 (.c 0) (.s (BitVec.ofInt 32 k).toNat) (some (.s (BitVec.ofInt 32 k).toNat)))],.own⟩,⟨.gen [.atom (.bool (.c true))],.own⟩,⟨.ag (i a b f d g e (BitVec.ofInt 32 t) (BitVec.ofInt 32 m) (BitVec.ofInt 8 p) (BitVec.ofInt 32 k) 2),.own⟩]) (qa (y4 j i) aQ 13 [true,true] ((Eb a b (ou.args ⟨a,b,f,d,g,e,t,m,p,k,h⟩)).1.put (aj 13) (some 16) .aa) ⟨(Eb a b (ou.args ⟨a,b,f,d,g,e,t,m,p,k,h⟩)).2,bJ,[false],[]⟩) .ret [decide (((f+d)≤a.n∧(d≤1000000∧((g+e)≤b.n∧(e≤1000000∧(1≤(BitVec.ofInt 32 t).toNat∧((BitVec.ofInt 32 t).toNat≤1000000∧((BitVec.ofInt 32 m).toNat≤256∧(1≤(BitVec.ofInt 8 p).toNat∧((BitVec.ofInt 8 p).toNat≤8∧1≤(BitVec.ofInt 32 k).toNat)))))))))),((h==0)==false)]:=by show _=_;kernel_rfl
def NT{t:Int}(a:0≤t)(h1:t≤1024):(BitVec.ofInt 32 t).toNat=t.toNat:=by
 rw[rJ];omega
def amB{t:Int}(a:0≤t)(h1:t≤8):(BitVec.ofInt 8 t).toNat=t.toNat:=by
 rw[rJ];omega
def VG{t m p k:Int}(h:1≤t∧t≤4∧0≤m∧m≤256∧1≤p∧p≤8∧1≤k∧k≤1024):1≤(BitVec.ofInt 32 t).toNat∧(BitVec.ofInt 32 t).toNat≤1000000∧(BitVec.ofInt 32 m).toNat≤256∧1≤(BitVec.ofInt 8 p).toNat∧(BitVec.ofInt 8 p).toNat≤8∧1≤(BitVec.ofInt 32 k).toNat:=by
 obtain⟨h1,h2,h3,h4,a,b,c,d⟩:=h;rw[NT (by omega) (by omega),NT (by omega) (by omega),NT (by omega) (by omega),amB (by omega) (by omega)];omega
def amC(f:br 33 lM.spec)(g:aF.plain 9):br 9 qs.spec:=by
 refine qs.wz amv fun d e β w vs h i j=>?_;obtain⟨a,b,c,l,n,o,q,r,s,u,v,x,t,m,p,k,y⟩:=d;have e:=aZ e;obtain⟨z,A,B,C,D,E,F,H,I⟩:=e;exact ams.calls g (NO f) ⟨100,by kernel_rfl⟩ ⟨100,by kernel_rfl⟩ (by kernel_rfl) (by show 9≤35;decide) (amx en kG ..) Lq rfl rfl (HY 4 2) (amy en kG a b c l n o q r s u v x t m p k y) (ax (bl ⟨z,A,B,C,D,E,F,H,VG I⟩) aV) (c1:=4) (c2:=5) rfl rfl rfl rfl h i j
def amD(g:br 33 lM.spec)(i:aF.plain 13):br 13 ou.spec:=by
 refine ou.wz amw fun d f β w vs j l n=>?_;obtain⟨a,b,o,q,r,s,t,m,p,k,c⟩:=d;have f:=aZ f;obtain⟨v,x,y,z,A⟩:=f;have u:=bl (And.intro v (And.intro x (And.intro y (And.intro z (VG A)))));by_cases e:c=0
 ·have h:=amz en kG a b o q r s t m p k c;rw[show(1:Int)=if c=0 then 1 else 2 from(av e).symm]at h;exact VC.calls i (NO g) ⟨100,by kernel_rfl⟩ ⟨100,by kernel_rfl⟩ (by kernel_rfl) (by show 7≤41;decide) (VF en kG ..) Lq rfl rfl (HY 2 2) h (ax u (ax (by simp[e]) aV)) (c1:=2) (c2:=3) rfl rfl rfl rfl j l n
 ·have h:=amA en kG a b o q r s t m p k c;rw[show(2:Int)=if c=0 then 1 else 2 from(ak e).symm]at h;exact VC.calls i (NO g) ⟨100,by kernel_rfl⟩ ⟨100,by kernel_rfl⟩ (by kernel_rfl) (by show 7≤41;decide) (VF en kG ..) Lq rfl rfl (HY 2 2) h (ax u (ax (by simp[e]) aV)) (c1:=2) (c2:=3) rfl rfl rfl rfl j l n
end
section
open Go.aA
variable [aR][aF][bq]
structure jv where
 (a b:U 8)(bA bz na nb:Nat)(i:Int)
def jv.aS(d:jv):Bool:=decide (0≤d.i∧d.i≤d.na∧d.na=d.nb∧d.bA+d.na≤d.a.n∧d.bz+d.nb≤d.b.n∧d.na≤4611686018427387904∧∀j,j<d.na→d.a.l.getD (d.bA+j) 0#8=d.b.l.getD (d.bz+j) 0#8)
def jv.ay(d:jv):aI×List ah:=(⟨[.sl 0 (.s d.bA) (.s d.na) none,.sl 1 (.s d.bz) (.s d.nb) none,.aa,.aa,.aa,.int .i64 (.s d.i)],[]⟩,[⟨.ag d.a,.ro⟩,⟨.ag d.b,.ro⟩])
def jv.next(d:jv):jv:={d with i:=d.i+1}
def NU(c:aI)(d:List ah):Option jv:=
 match c.vars with
 |[.ref (.sl 0 e f _),.ref (.sl 1 g h _),_,_,_,.num (.int .i64 i)]=>
  match d with
  |[⟨j,k⟩,⟨l,m⟩]=>
   match j.j7,l.j7,An k,An m with
   |some a,some b,false,false=>some ⟨a,b,e.v,g.v,f.v,h.v,i.v⟩|_,_,_,_=>none
  |_=>none
 |_=>none
def HL:qN jv where
 parse:=NU
 cG:=[]
 ay:=jv.ay
 next:=jv.next
 rem d:=(d.na-d.i).toNat
 aS:=jv.aS
 out:=.exit 0
 fin:=jv.ay
def amE(a:aI)(b:List ah)(d:jv)(h:NU a b=some d):gq none d.ay.1 a=some d.ay.1∧eX d.ay.2 (b++[])=some d.ay.2:=by
 unfold NU at h;split at h
 case h_2=>cases h
 rename_i c;split at h
 case h_2=>cases h
 rename_i g e i f;split at h
 case h_2=>cases h
 rename_i h1 h2 h3 h4;cases h;constructor
 ·simp only[gq,c];rfl
 ·cases e<;>cases f<;>simp only[An,aou]at h3 h4<;>simp only[jv.ay,uJ,eX,eM,kq,h1,h2,ia]
def amF(d:jv):jF 2 none (jv.ay (jv.next d)) (bZ cr aQ 12 0 d.ay.1 ⟨d.ay.2,bJ,[true,false],[]⟩) .normal [bV (d.i+1),(((d.a.l.getD (d.bA+(((d.i):Int).toNat*1)) (0#8))!=(d.b.l.getD (d.bz+(((d.i):Int).toNat*1)) (0#8)))==false),decide ((d.bz+(((d.i):Int).toNat*1))<d.b.n),(decide (0≤d.i)&&decide (d.i<(d.nb:Int))),decide ((d.bA+(((d.i):Int).toNat*1))<d.a.n),(decide (0≤d.i)&&decide (d.i<(d.na:Int))),(decide (d.i<(d.na:Int))==true)]:=by show _=_;kernel_rfl
def amG(d:jv):jF 2 none (jv.ay d) (bZ cr aQ 12 0 d.ay.1 ⟨d.ay.2,bJ,[false],[]⟩) (.exit 0) [(decide (d.i<(d.na:Int))==false)]:=by show _=_;kernel_rfl
def VH:(cH Tryz.prog 12).length=1:=by kernel_rfl
def amH:Told 12 0 HL.told:=by
 refine aaQ HL (iw fL (cK _) 12 0 Rn (by rw[VH];omega)) (by intro k n;cases n) (by intro h;cases h) amE (fun d k a b=>?_) (fun d a b=>?_)
 ·have c:=aZ a;obtain⟨f,o,g,bf,l,m,e⟩:=c;have p:(d.na-d.i).toNat=k+1:=b;obtain⟨j,s⟩:=Oc f;have q:=e j (by omega);have r:d.i.toNat=j:=by omega
  refine⟨⟨[true,false],none,_,amF d,?_⟩,bl ⟨?_,?_,g,bf,l,m,e⟩,?_,rfl⟩
  ·repeat'(refine ax ?_ ?_)
   all_goals first|exact aV|(simp only[bV,jM,dH,eT,Bv];omega)|(simp only[w8,r,q,bne_self_eq_false];rfl)
  ·show 0≤d.i+1;omega
  ·show d.i+1≤(d.na:Int);omega
  ·show(d.na-(d.i+1)).toNat=k;omega
 ·have c:=aZ a;obtain⟨f,o,g,bf,l,m,e⟩:=c;have p:(d.na-d.i).toNat=0:=b;refine⟨[false],none,_,amG d,?_⟩
  repeat'(refine ax ?_ ?_)
  all_goals first|exact aV|(simp only[zb,ni,w7];omega)
def Ec:FuncId→Nat→Option cP|12,4=>some HL.told|_,_=>none
def amI(spec:FuncId→Option aA.Spec):c6 (de spec Ec) bB:=by
 refine c6.of fun f=>?_;by_cases a:f=12
 ·subst a;refine .inr ⟨by kernel_rfl,fun i hi d b=>?_⟩;have hi:i<(cH Tryz.prog 12).length:=hi;rw[VH]at hi;obtain rfl:i=0:=by omega
  have c:(bX (bg Tryz.prog 12 0)).bind (Ec 12)=some HL.told:=by kernel_rfl
  obtain rfl:=dV (c.symm.trans b);exact amH
 ·refine .inl fun r=>?_
  show Ec f r=none;unfold Ec;split
  ·exact absurd rfl a
  ·rfl
def NV(a b:U 8)(d e c f:Nat):Bool:=decide (c=f∧d+c≤a.n∧e+f≤b.n∧c≤4611686018427387904∧∀j,j<c→a.l.getD (d+j) 0#8=b.l.getD (e+j) 0#8)
def HM:aA.Spec:=fun args h i=>
 match args with
 |[.ref (.sl 0 j k _),.ref (.sl 1 l m _)]=>
  match h with
  |[⟨d,e⟩,⟨f,g⟩]=>
   match d.j7,f.j7,An e,An g with
   |some a,some b,false,false=>some ⟨.bool (.c true),[⟨d,e⟩,⟨f,g⟩],i,[NV a b j.v l.v k.v m.v]⟩|_,_,_,_=>none
  |_=>none
 |_=>none
def amJ(a b:U 8)(f g d e:Nat):nI 2 none [⟨.ag a,.ro⟩,⟨.ag b,.ro⟩] (.bool (.c true)) (bY cr Ec 12 [.sl 0 (.s f) (.s d) none,.sl 1 (.s g) (.s e) none] ⟨[⟨.ag a,.ro⟩,⟨.ag b,.ro⟩],bJ,[false],[]⟩) [(jv.aS (⟨a,b,f,g,d,e,0⟩:jv)),((!((d:Int)==(e:Int)))==false)]:=by show _=_;kernel_rfl
def amK:br 12 HM:=by
 refine dy.ends (dm fL (amI _)) (fun args m n r c o=>?_) (fun args m n r c i k p q=>?_)
 ·unfold HM at c;split at c
  case h_2=>cases c
  rename_i d e x f g y;split at c
  case h_2=>cases c
  rename_i z h A j;split at c
  case h_2=>cases c
  rename_i a b h1 h2 h3 h4;injection c with c;subst c;obtain⟨l,t,u,bf,w⟩:=aZ (o _ (tc.2 rfl));refine⟨[.sl 0 (.s d.v) (.s e.v) none,.sl 1 (.s f.v) (.s g.v) none],[⟨.ag a,.ro⟩,⟨.ag b,.ro⟩],_,_,[false],none,_,_,rfl,?_,amJ a b d.v f.v e.v g.v,?_,?_⟩
  ·cases h<;>cases j<;>simp only[An,aou]at h3 h4<;>simp only[eX,eM,kq,h1,h2,ia]
  ·repeat'(refine ax ?_ ?_)
   ·exact bl ⟨rN _,Int.natCast_nonneg _,l,t,u,bf,w⟩
   ·rw[l];simp
   ·exact aV
  ·cases h<;>cases j<;>first|rfl|cases h3|cases h4
 ·unfold HM at c;split at c
  case h_2=>cases c
  split at c
  case h_2=>cases c
  split at c
  case h_2=>cases c
  injection c with c;subst c;exact⟨k,p,q⟩
end
section
open Go Go.aA
variable [aR][aF][bq]
structure VI where
 (u v:U 8)(m n ape apf:Nat)
def NW(a:List af)(b:List ah):Option VI:=
 match a with
 |[.ref (.sl 0 (.c 0) (.s m) (some (.s d))),.ref (.sl 1 (.c 0) (.s n) (some (.s e)))]=>
  match b with
  |[⟨.ag u,.ro⟩,⟨.ag v,.ro⟩]=>some ⟨u,v,m,n,d,e⟩|_=>none
 |_=>none
def Ed:bT VI where
 d0:=⟨0,0,0,0,0,0⟩
 read:=NW
 args:=fun⟨_,_,m,n,a,b⟩=>[.ref (.sl 0 (.c 0) (.s m) (some (.s a))),.ref (.sl 1 (.c 0) (.s n) (some (.s b)))]
 heap:=fun⟨u,v,_,_,_,_⟩=>[⟨.ag u,.ro⟩,⟨.ag v,.ro⟩]
 val:=fun⟨_,_,_,_,_,_⟩=>(.bool (.c false))
 aS:=fun⟨u,v,m,n,_,_⟩=>decide (m=n∧1≤m∧m≤u.n∧n≤v.n∧¬(u.l.getD 0 0#8=v.l.getD 0 0#8))
def amL(u v:U 8)(m n a b:Nat):Ed.fS ⟨u,v,m,n,a,b⟩ (b6 2) (bY cr aQ 12) (bE 3 6) [(((u.l.getD 0 (0#8))!=(v.l.getD 0 (0#8)))==true),decide (0<v.n),decide (0<(n:Int)),decide (0<u.n),decide (0<(m:Int)),(decide (0<(m:Int))==true),((!((m:Int)==(n:Int)))==false)]:=by show _=_;kernel_rfl
def amM:Ed.Rd:=by
 intro a b d h;change NW a b=some d at h;unfold NW at h;repeat' split at h
 all_goals cases h
 exact⟨rfl,rfl⟩
def amN:br 12 Ed.spec:=by
 refine Ed.ok (dm fL (cK _)) amM ?_;rintro⟨u,v,m,n,b,c⟩ a;have a:=aZ a;refine⟨(bE 3 6),(b6 2),_,amL u v m n b c,?_⟩;obtain⟨rfl,e,f,bf,d⟩:=a;refine ax ?_ (ax ?_ (ax ?_ (ax ?_ (ax ?_ (ax ?_ (ax ?_ aV))))))
 all_goals first|simpa using d|(simp<;>omega)
structure VJ where
 unit:Unit:=()
def NY(a:List af)(b:List ah):Option VJ:=
 match a with
 |[]=>
  match b with
  |[]=>some ⟨()⟩|_=>none
 |_=>none
def pS:bT VJ where
 d0:=⟨()⟩
 read:=NY
 args:=fun⟨_⟩=>[]
 heap:=fun⟨_⟩=>[]
 val:=fun⟨_⟩=>(.bool (.c true))
 aS:=fun⟨_⟩=>decide (True)
def amO:pS.Rd:=by
 intro a b d h;change NY a b=some d at h;unfold NY at h;repeat' split at h
 all_goals cases h
 exact⟨rfl,rfl⟩
def VK(c:rG):bT NR:={ou with out:=fun⟨a,b,bA,na,bz,nb,t,m,p,k,d⟩=>[⟨.ag a,.ro⟩,⟨.ag b,.ro⟩,⟨.gen [],.bn⟩,⟨.gen [],.bn⟩,⟨.ag (c a b bA na bz nb (BitVec.ofInt 32 t) (BitVec.ofInt 32 m) (BitVec.ofInt 8 p) (BitVec.ofInt 32 k) (if d=0 then 1 else 2)),.own⟩]}
def amP:VK kG=ou:=rfl
def NZ(a:rG):FuncId→Option aA.Spec|13=>some (VK a).spec|12=>some Ed.spec|_=>none
def Ee:U 8:=U.of [0#8,0#8,0#8,0#8,0#8,0#8,0#8,0#8]
def dn:Nat:=(BitVec.ofInt 32 4).toNat
def s7(a:rG)(b:BitVec 8):U 8:=a (U.of [b]) Ee 0 1 0 8 (BitVec.ofInt 32 1) (BitVec.ofInt 32 8) (BitVec.ofInt 8 1) (BitVec.ofInt 32 4) (if(1:Int)=0 then 1 else 2)
def s8:Bool:=((dn:Int)==4)==true
def N0:Bool:=decide ((0:Nat)+1≤1∧1≤1000000∧0+8≤8∧8≤1000000∧(1:Int)≤1∧(1:Int)≤4∧(0:Int)≤8∧(8:Int)≤256∧(1:Int)≤1∧(1:Int)≤8∧(1:Int)≤4∧(4:Int)≤1024)
def amQ(a:rG):nI 0 (some []) [] (.bool (.c true)) (bY (NZ a) aQ 8 [] ⟨[],bJ,(bE 9 511),[]⟩) [s8,s8,decide (dn=dn∧1≤dn∧dn≤(s7 a 1#8).n∧dn≤(s7 a 2#8).n∧¬((s7 a 1#8).l.getD 0 0#8=(s7 a 2#8).l.getD 0 0#8)),s8,s8,s8,s8,s8,s8,s8,N0,N0]:=by show _=_;kernel_rfl
def N1:Prop:=¬((s7 kG 1#8).l.getD 0 0#8=(s7 kG 2#8).l.getD 0 0#8)
def amR(b:br 33 lM.spec)(c:aF.plain 13):∀f a,NZ kG f=some a→br f a:=by
 intro f a h;unfold NZ at h;split at h
 ·cases h;rw[amP];exact amD b c
 ·cases h;exact amN
 ·cases h
def VL(v w:U 8)(b a c d e:Nat):(ga v w b a c d e).n=v.n:=by
 unfold ga;split
 ·rfl
 ·have f:=(AJ v w b a c d e ((a-32-33)/32)).XX;split
  ·exact f
  ·exact f
def VM:∀n (d:q2),(iter kZ n d).kl=d.kl|0,_=>rfl|n+1,⟨X,M,mem,p,kl,a,b⟩=>VM n (kZ ⟨X,M,mem,p,kl,a,b⟩)
def VN:∀n (d:sF),(iter n4 n d).kl=d.kl|0,_=>rfl|n+1,⟨X,b,a,M,mem,p,kl,c,e,i⟩=>VN n (n4 ⟨X,b,a,M,mem,p,kl,c,e,i⟩)
def VO(X:U 64)(M:Nat)(mem p kl:BitVec 32):(gS (dA X M mem p kl)).kl=kl:=by
 unfold gS;rw[VN];unfold dA;exact VM _ _
def VP(a:BitVec 8):(s7 kG a).n=4:=by
 have c:∀X M mem p,jK X M mem p (BitVec.ofInt 32 4)=ga (U.zero 8 (gS (dA X M mem p (BitVec.ofInt 32 4))).kl.toNat) (gS (dA X M mem p (BitVec.ofInt 32 4))).b 0 (gS (dA X M mem p (BitVec.ofInt 32 4))).kl.toNat (gS (dA X M mem p (BitVec.ofInt 32 4))).kl.toNat 0 1024:=fun _ _ _ _=>rfl;unfold s7 kG wX;rw[c,VL,VO];rfl
def amS(a:br 33 lM.spec)(b:aF.plain 13)(c:N1):br 8 pS.spec:=by
 refine pS.ok (dm (amR a b) (cK _)) amO ?_;rintro⟨_⟩ d;refine⟨_,some [],_,amQ kG,?_⟩;have h4:s8=true:=by decide
 have cC:N0=true:=by decide
 rw[h4,cC];refine ax rfl (ax rfl (ax (bl ⟨rfl,by decide,?_,?_,c⟩) (ax rfl (ax rfl (ax rfl (ax rfl (ax rfl (ax rfl (ax rfl (ax rfl (ax rfl aV)))))))))))
 ·rw[VP];decide
 ·rw[VP];decide
end
section
open Go.aA
variable [aR][aF][bq]
def VQ{w:U 8}(d:w.n=72){j:Nat}(a:j<128):aK (iU (fz w 0 72 1024) 0 1024) j=(ju 30 (eP (b7 64) (iT 1024 w 0) (4+72))).getD j 0#64:=by
 have c:(U.zero 8 1024).n=1024:=rfl;rw[←Nz (b:=U.zero 8 1024) c d a];exact amj _ _ c (by omega) j a
def amT{c a:U 8}(k:a.n=64)(l:c.n=72)(m:∀i,i<64→cE c i=cE a i):Rows (iA c 8#32 1#32) [ju 30 (eP (b7 64) (iT 1024 (kE a 0 0) 0) (4+72)),ju 30 (eP (b7 64) (iT 1024 (kE a 1 0) 0) (4+72))] 2:=by
 obtain⟨h,z⟩:=Vh (P:=1) (q:=2) (mem:=8#32) (p:=1#32) (by omega) (by omega) (by omega) (by omega) rfl rfl k l m;refine⟨h.n,rfl,fun d=>?_,fun d i o hi=>?_⟩
 ·match d with|0=>exact NI 30 _|1=>exact NI 30 _|d+2=>exact nh
 ·have e:=h.ri 0 (128*d+i) (by omega) (by omega);rw[w9,cM]at e;refine Eq.trans (b:=aK (iA c 8#32 1#32) (128*d+i)) (by delta aK;rfl) (e.trans ?_);clear e
  show aK (pH fz iU a (4*2) 0) (128*d+i)=_;have f:(U.zero 64 (4*2*128)).n=4*2*128:=rfl;have g:dK 0=0:=rfl;have j:dK 1=128:=rfl;unfold pH;rw[AU _ (by rw[wD,f,j];omega),AU _ (by rw[f,g];omega),g,j]
  match d with
  |0=>
   rw[ak (by omega),av (by omega)];unfold A7;rw[show 128*0+i-0=i by omega,VQ (Nx ..) hi];rfl
  |1=>
   rw[av (by omega)];unfold A7;rw[show 128*1+i-128=i by omega,VQ (Nx ..) hi];rfl
  |d+2=>
   rw[ak (by omega),ak (by omega)]
   show(List.replicate _ (0:BitVec 64)).getD _ 0#64=fP _ _ _;exact(NJ (4*2*128) _ 0#64).trans (NJ 128 i 0#64).symm
def Bf(a m:BitVec 64):eo a m<8:=by
 unfold eo;rw[ow];exact qu _ (by decide)
def amU(a m:BitVec 64):aT (gC a m ((0#32).setWidth 64) 0#32 8#32)=128*eo a m:=by
 have b:(gC a m ((0#32).setWidth 64) 0#32 8#32).toNat=eo a m:=by
  unfold gC eo;rw[BitVec.zero_mul,BitVec.zero_add,kJ];refine dM (dL (m:=8) ?_ (by decide));rw[ow];exact qu _ (by decide)
 rw[qc,b,gU]
def amV(a:BitVec 64)(sl:BitVec 32):eI a 1#32 0#32 sl 0#32=0#32:=by
 unfold eI;split
 ·rfl
 ·apply nc;simp[Nat.mod_one]
def Bg(b:BitVec 64)(sl a:BitVec 32):aT (cq b 8#32 2#32 1#32 0#32 sl 0#32 a)=128*eo b ((sl*2#32+a-1#32).setWidth 64):=by
 unfold cq;rw[amV,av (.inr rfl),av rfl];have c:gl 2#32 0#32 sl 0#32 a 0#32=sl*2#32+a:=by unfold gl;rw[av rfl,av (.inr rfl)]
 rw[c,amU]
def amW(f:cw)(X ad b:U 64)(M:Nat)(sl a:BitVec 32)(c:Value)(h:dF 2 0#32 sl):(iter (dG bw) 2 ⟨f,X,ad,b,c9,M,2,8#32,1#32,8#32,2#32,1#32,0#32,sl,0#32,0#32,a,c⟩).X=
 fl f (fl f X (aT a) (aT (eA 8#32 sl 0#32 a)) (aT (cq (gD (eJ bw (dz b) c9) 0#32) 8#32 2#32 1#32 0#32 sl 0#32 0#32))) (aT (a+1#32)) (aT (eA 8#32 sl 1#32 (a+1#32))) (aT (cq (gD (eJ bw (dz b) c9) 1#32) 8#32 2#32 1#32 0#32 sl 0#32 1#32)):=by
 have d:(0#32:BitVec 32)+1#32=1#32:=rfl;have dI:¬(1#32:BitVec 32)=0#32:=by decide
 simp only[iter,dG,av h,av (And.intro h (Eq.refl (0#32:BitVec 32))),d,ak dI,gT,av (And.intro h trivial),ak (fun q:dF 2 0#32 sl∧(1#32:BitVec 32)=0#32=>dI q.2)]
def VR(f:cw)(X ad b:U 64)(M:Nat)(sl a:BitVec 32)(c:Value)(h:¬dF 2 0#32 sl):(iter (dG bw) 2 ⟨f,X,ad,b,c9,M,2,8#32,1#32,8#32,2#32,1#32,0#32,sl,0#32,0#32,a,c⟩).X=
 fl f (fl f X (aT a) (aT (eA 8#32 sl 0#32 a)) (aT (cq (fZ X (eA 8#32 sl 0#32 a)) 8#32 2#32 1#32 0#32 sl 0#32 0#32))) (aT (a+1#32)) (aT (eA 8#32 sl 1#32 (a+1#32)))
  (aT (cq (fZ (fl f X (aT a) (aT (eA 8#32 sl 0#32 a)) (aT (cq (fZ X (eA 8#32 sl 0#32 a)) 8#32 2#32 1#32 0#32 sl 0#32 0#32))) (eA 8#32 sl 1#32 (a+1#32))) 8#32 2#32 1#32 0#32 sl 0#32 1#32)):=by
 have d:(0#32:BitVec 32)+1#32=1#32:=rfl;simp only[iter,dG,ak h,d]
end
section
open Go.aA
variable [aR][aF][bq]
variable{X:U 64}{P:List (List (BitVec 64))}
def N2(f:cw)(X:U 64)(M:Nat)(sl:BitVec 32)(h:¬sl=0#32):lH f X M 2 8#32 1#32 8#32 2#32 1#32 0#32 sl 0#32=
 (iter (dG bw) 2 ⟨f,X,dg (rf 2 8#32 1#32 0#32 sl 0#32),dg (pq 2 8#32 1#32 0#32 sl 0#32),c9,M,2,8#32,1#32,8#32,2#32,1#32,0#32,sl,0#32,0#32,sl*2#32,undef⟩).X:=by
 have ex:lG 0#32 sl=0#32:=ak (fun q=>h q.2);have a:(0#32*8#32+sl*2#32+0#32:BitVec 32)=sl*2#32:=by rw[BitVec.zero_mul,BitVec.zero_add,BitVec.add_zero]
 unfold lH k6 d2 d44;simp only;rw[ex,a,o7 Dv];rfl
def VS:(eJ bw (dz (jG 2 8#32 1#32 0#32 1#32 0#32)) c9).l=s6:=by
 have b:dz (jG 2 8#32 1#32 0#32 1#32 0#32)=U.of (0#64::0#64::1#64::8#64::1#64::2#64::1#64::List.replicate 121 0#64):=by kernel_rfl
 have a:(dz (jG 2 8#32 1#32 0#32 1#32 0#32)).n=128:=air _;have c:c9.l=gF:=by kernel_rfl
 unfold eJ;rw[o7 a,o7 Dv,o7 (yh _ _),NK _ _ (yh _ _) Dv,NK _ _ a Dv,b,c];rfl
def amX:pq 2 8#32 1#32 0#32 1#32 0#32=jG 2 8#32 1#32 0#32 1#32 0#32:=by
 have h:dF 2 0#32 1#32:=.inr ⟨rfl,rfl,rfl⟩;unfold pq sO;rw[ak (fun q=>absurd q.2.1 (by decide)),av h]
def amY(a:U 64):gD a 0#32=a.l.getD 0 0#64:=AE a (by omega:0<128)
def amZ(a:U 64):gD a 1#32=a.l.getD 1 0#64:=AE a (by omega:1<128)
def am0{X:U 64}{P:List (List (BitVec 64))}(f:cw)(M:Nat)(d:Rows X P 2):Rows (lH f X M 2 8#32 1#32 8#32 2#32 1#32 0#32 1#32 0#32) (gG (gG P 1 (eo (s6.getD 0 0#64) 1#64)) 2 (eo (s6.getD 1 0#64) 2#64)) 4:=by
 have h:dF 2 0#32 1#32:=.inr ⟨rfl,rfl,rfl⟩;rw[N2 f X M 1#32 (by decide),amW _ _ _ _ _ _ _ _ h,amX,o7 (TD ..),Bg,Bg];have b:gD (eJ bw (dz (jG 2 8#32 1#32 0#32 1#32 0#32)) c9) 0#32=s6.getD 0 0#64:=by
  rw[amY,VS]
 have c:gD (eJ bw (dz (jG 2 8#32 1#32 0#32 1#32 0#32)) c9) 1#32=s6.getD 1 0#64:=by
  rw[amZ,VS]
 rw[b,c];clear b c;generalize s6.getD 0 0#64=a;generalize s6.getD 1 0#64=e;have g:Rows (fl f X (aT (1#32*2#32)) (aT (eA 8#32 1#32 0#32 (1#32*2#32))) (128*eo a ((1#32*2#32+0#32-1#32).setWidth 64))) (gG P 1 (eo a 1#64)) 3:=d.step f 1 (eo a 1#64) (by omega) (by omega) (Bf _ _);exact g.step f 2 (eo e 2#64) (by omega) (by omega) (Bf _ _)
def HN{a:Nat}(d:Rows X P a){c:BitVec 32}{b:Nat}(e:b<8)(f:aT c=128*b):fZ X c=fP P b 0:=by
 unfold fZ;rw[f];exact d.get b 0 e (by omega)
def am1(f:cw)(M:Nat)(c:Rows X P 4):Rows (lH f X M 2 8#32 1#32 8#32 2#32 1#32 0#32 2#32 0#32) (gG (gG P 3 (eo (fP P 3 0) 3#64)) 4 (eo (fP (gG P 3 (eo (fP P 3 0) 3#64)) 4 0) 4#64)) 6:=by
 have h:¬dF 2 0#32 2#32:=fun q=>q.elim (fun a=>absurd a (by decide)) fun a=>absurd a.2.2 (by decide);rw[N2 f X M 2#32 (by decide),VR _ _ _ _ _ _ _ _ h,HN c (b:=3) (by omega) (by decide),Bg];have d:Rows (fl f X (aT (2#32*2#32)) (aT (eA 8#32 2#32 0#32 (2#32*2#32))) (128*eo (fP P 3 0) ((2#32*2#32+0#32-1#32).setWidth 64))) (gG P 3 (eo (fP P 3 0) 3#64)) 5:=c.step f 3 (eo (fP P 3 0) 3#64) (by omega) (by omega) (Bf _ _);rw[HN d (b:=4) (by omega) (by decide),Bg];exact d.step f 4 (eo (fP (gG P 3 (eo (fP P 3 0) 3#64)) 4 0) 4#64) (by omega) (by omega) (Bf _ _)
def am2(f:cw)(M:Nat)(c:Rows X P 6):Rows (lH f X M 2 8#32 1#32 8#32 2#32 1#32 0#32 3#32 0#32) (gG (gG P 5 (eo (fP P 5 0) 5#64)) 6 (eo (fP (gG P 5 (eo (fP P 5 0) 5#64)) 6 0) 6#64)) 8:=by
 have h:¬dF 2 0#32 3#32:=fun q=>q.elim (fun a=>absurd a (by decide)) fun a=>absurd a.2.2 (by decide);rw[N2 f X M 3#32 (by decide),VR _ _ _ _ _ _ _ _ h,HN c (b:=5) (by omega) (by decide),Bg];have d:Rows (fl f X (aT (3#32*2#32)) (aT (eA 8#32 3#32 0#32 (3#32*2#32))) (128*eo (fP P 5 0) ((3#32*2#32+0#32-1#32).setWidth 64))) (gG P 5 (eo (fP P 5 0) 5#64)) 7:=c.step f 5 (eo (fP P 5 0) 5#64) (by omega) (by omega) (Bf _ _);rw[HN d (b:=6) (by omega) (by decide),Bg];exact d.step f 6 (eo (fP (gG P 5 (eo (fP P 5 0) 5#64)) 6 0) 6#64) (by omega) (by omega) (Bf _ _)
end
section
open Go.aA
variable [aR][aF][bq]
variable{X:U 64}{Q:List (List (BitVec 64))}{a:Nat}
def HO{S:List (List (BitVec 64))}{i:Nat}(hi:i<4)(e:Rows X Q a)(f:Rows (oq 2 8#32 1#32 8#32 2#32 1#32 i 0 X) S (2*i+2))(o:∀d,d<8→d/2≠i→S.getD d gF=Q.getD d gF):Rows (yU 2 8#32 1#32 8#32 2#32 1#32 i X) S (2*i+2):=by
 refine⟨e.n,f.len,f.row,fun d j g h=>?_⟩;have k:=UQ (m:=2) (mem:=8#32) (tm:=1#32) (ln:=8#32) (az:=2#32) (p:=1#32) (P:=1) (q:=2) (T:=1) (by omega) (by omega) (by omega) (by omega) rfl rfl rfl rfl rfl (X:=X) e.n i (l:=0) (j:=128*d+j) (by omega) (by omega);rw[w9,cM]at k;refine Eq.trans (b:=aK (yU 2 8#32 1#32 8#32 2#32 1#32 i X) (128*d+j)) (by delta aK;rfl) (k.trans ?_);by_cases c:(128*d+j)/128/2=i%4
 ·rw[av c];exact f.get d j g h
 ·rw[ak c];have h1:aK X (128*d+j)=fP Q d j:=e.get d j g h;rw[h1];unfold fP;rw[o d g (by omega)]
def N3(b c e f:Nat)(h:Q.length=a){d:Nat}(h1:d≠a)(h2:d≠a+1):(gG (gG Q b c) e f).getD d gF=Q.getD d gF:=by
 unfold gG;rw[HH,ak (by rw[fA,h];exact h2),HH,ak (by rw[h];exact h1)]
def am3{b c:List (BitVec 64)}(f:Rows X [b,c] 2):Rows (iW 2 8#32 1#32 1#32 X) (HD b c) 8:=by
 have j:oq 2 8#32 1#32 8#32 2#32 1#32 0 0 X=X:=by
  unfold oq lH k6 d2 d44;rfl
 have e:=HO (i:=0) (by omega) f (S:=[b,c]) (by rw[j];exact f) (fun _ _ _=>rfl);have h1:=HO (i:=1) (by omega) e (am0 _ _ e) (fun d g h=>N3 _ _ _ _ e.len (by omega) (by omega));have h2:=HO (i:=2) (by omega) h1 (am1 _ _ h1) (fun d g h=>N3 _ _ _ _ h1.len (by omega) (by omega));exact HO (i:=3) (by omega) h2 (am2 _ _ h2) (fun d g h=>N3 _ _ _ _ h2.len (by omega) (by omega))
end
end Go.Proofs.YtcminalaicidiaaGreatDoor
end

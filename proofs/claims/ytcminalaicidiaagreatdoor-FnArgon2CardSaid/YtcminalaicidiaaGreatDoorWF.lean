/- Part of FnArgon2. No condition. -/
import Derived.Test.YtcminalaicidiaaGreatDoorWE
set_option maxRecDepth 100000
set_option maxHeartbeats 8000000
set_option linter.all false
def an9:=@Bool.true_eq_false
noncomputable section
namespace Go.Proofs.YtcminalaicidiaaGreatDoor
section
open Go Go.ay Conc Conc.Lib
variable [aR][aG][bl]
variable{R:Goroutine→World→Prop}{β:aE}
noncomputable def ag(w:World)(g:Goroutine):Goroutine:=
 match stepG Tryz.prog true g w with
 |.go g' _ _=>g'|_=>g
noncomputable def uC(w:World):Nat→Goroutine→Goroutine|0,g=>g|n+1,g=>uC w n (ag w g)
def yV(w:World):Nat→Goroutine→Prop|0,_=>True|n+1,g=>(g.status=.running∧(Nat.beq g.frame.fn 13||scope g.frame.fn)=true∧∀m a,stepG Tryz.prog m g a=.go (ag w g) a)∧yV w n (ag w g)
def HA(f:aG.plain 13){R:Goroutine→World→Prop}{w:World}:∀(n:Nat) (g:Goroutine),yV w n g→de Tryz.prog R (uC w n g) w→de Tryz.prog R g w
 |0,_,_,h=>h|n+1,g,⟨⟨a,b,c⟩,d⟩,h=>by
  refine de.ctl a ?_ (fun i=>c _ i) (HA f n _ d h);rcases Bool.or_eq_true_iff.1 b with e|e
  ·rw[qz e];exact f
  ·exact bl.plain _ e
def Ny{a:Act}{n:Nat}{ds:List Deferred}(h:a.tmps.size=n)(b:a.defers=ds):a=⟨⟨(List.range n).map fun i=>a.tmps.getD i undef⟩,ds⟩:=by
 obtain⟨⟨l⟩,_⟩:=a;subst b h;congr 2;exact Eh (by simp) fun i h1 h2=>by simp[h1]
section
variable(w:World)(X:Nat→Value)(u v:Value)(S:List Item)(cs:List Frame)
noncomputable abbrev Vp:Goroutine:=G ((base 13).at ⟨⟨(List.range 41).map X⟩,[]⟩ [.code (sub [true] (c8 Tryz.prog 13))]) cs
def al7:yV w 5 (Vp X cs):=by
 repeat refine And.intro ⟨by kernel_rfl,by kernel_rfl,fun _ _=>by kernel_rfl⟩ ?_
 trivial
def al8:uC w 5 (Vp X cs)=G ((base 13).at ⟨((⟨⟨(List.range 41).map X⟩,[]⟩:Act).put (some 16) (.func (.func 23) #[] #[X 14,X 15])).tmps,[yU 23 (X 14) (X 15)]⟩ [.code (sub [true,true] (c8 Tryz.prog 13))]) cs:=by kernel_rfl
noncomputable abbrev Nz:Goroutine:=G {(base 13).at ⟨⟨(List.range 41).map X⟩,[yU 23 u v]⟩ S with mode:=.returning} cs
def al9:yV w 10 (Nz X u v S cs):=by
 repeat refine And.intro ⟨by kernel_rfl,by kernel_rfl,fun _ _=>by kernel_rfl⟩ ?_
 trivial
def ama:uC w 10 (Nz X u v S cs)=G {(base 13).at ⟨⟨(List.range 41).map X⟩,[]⟩ S with mode:=.returning} cs:=by kernel_rfl
def amb(a:aG.plain 13)(h:de Tryz.prog R (G {(base 13).at ⟨⟨(List.range 41).map X⟩,[]⟩ S with mode:=.returning} cs) w):de Tryz.prog R (Nz X u v S cs) w:=HA a 10 _ (al9 ..) (by rw[ama];exact h)
end
def amc(h:FuncId→Option ay.Spec)(a b:U 8)(c d e f:Nat)(t m p k g:Int):kq 2 (b8 4) (rH a b (jY.args ⟨a,b,c,d,e,f,t,m,p,k,g⟩)) (wu h aU 13 [false] ⟨jY.args ⟨a,b,c,d,e,f,t,m,p,k,g⟩++List.replicate (an 13-7) .aa,[]⟩ ⟨[⟨.aj a,.ro⟩,⟨.aj b,.ro⟩],bQ,[],[]⟩) .normal []:=by show _=_;kernel_rfl
def Vq(s:aG.plain 13)(a b:U 8)(e g i j:Nat)(t m p k l:Int){w:World}{vs:List Value}(z:aK β (jY.args ⟨a,b,e,g,i,j,t,m,p,k,l⟩) vs)(A:aM bB β (jY.heap ⟨a,b,e,g,i,j,t,m,p,k,l⟩) w)(B:∀b C,β b=some C→b<2){cs:List Frame}
 (D:∀n u v w' c,aC c (.P 2) u→aC c (.P 3) v→@cK _ (nF.mk [yU 23 u v]) (an 13) 41 c ((rH a b (jY.args ⟨a,b,e,g,i,j,t,m,p,k,l⟩)).1.put (an 13) (some 16) .aa) n→aM bB c (rH a b (jY.args ⟨a,b,e,g,i,j,t,m,p,k,l⟩)).2 w'→gl 2 β [⟨.aj a,.ro⟩,⟨.aj b,.ro⟩] w c (rH a b (jY.args ⟨a,b,e,g,i,j,t,m,p,k,l⟩)).2 w'→de Tryz.prog R (G ((base 13).at n [.code (sub [true,true] (c8 Tryz.prog 13))]) cs) w'):
 de Tryz.prog R (G (Frame.enter Tryz.prog 13 ⟨vs⟩ .normal) cs) w:=by
 have E:Tryz.f13.body=some (c8 Tryz.prog 13):=by kernel_rfl
 have F:Tryz.f13.ntmps=41:=by kernel_rfl
 have H:c8 Tryz.prog 13=.seq (sub [false] (c8 Tryz.prog 13)) (sub [true] (c8 Tryz.prog 13)):=by kernel_rfl
 rw[enter_at _ Tryz.func13 E,F,H];have y:bS Tryz.prog 13=41:=by kernel_rfl
 refine de.ctl rfl s (fun _=>stepG_seq) ?_;refine(Nv (spec:=ck) (fun _ _ h=>by cases h) 13 [false] (m:=100) (by kernel_rfl)).step (n0:=2) (amc ck a b e g i j t m p k l) SA (aV _) (aV _) B (by rw[y];exact Vn z (by show 7≤41;decide)) A (bJ.q (bJ.refl ..) (aV _))
  (Q:=fun o n w'=>o=.normal∧∃c,cK (an 13) 41 c (rH a b (jY.args ⟨a,b,e,g,i,j,t,m,p,k,l⟩)).1 n∧aM bB c (rH a b (jY.args ⟨a,b,e,g,i,j,t,m,p,k,l⟩)).2 w'∧gl 2 β [⟨.aj a,.ro⟩,⟨.aj b,.ro⟩] w c (rH a b (jY.args ⟨a,b,e,g,i,j,t,m,p,k,l⟩)).2 w')
  (fun n w' c f h x _ _=>⟨rfl,c,by rw[y]at f;exact f,h,x⟩) (base 13) _ cs R ⟨by simp[base],s⟩ fun o n w' q=>?_
 obtain⟨rfl,c,f,h,x⟩:=q
 show de Tryz.prog R (G ((base 13).at n [.code (sub [true] (c8 Tryz.prog 13))]) cs) w';have r:=f.put (d:=some 16) (fun J I=>by cases I;decide) (aC.aa (Value.func (.func 23) #[] #[n.tmps.getD 14 undef,n.tmps.getD 15 undef]));have o:=Ny (ds:=[]) f.size f.defers;rw[o];refine HA s 5 _ (al7 w' _ cs) ?_;rw[al8 w' _ cs];refine D _ _ _ w' c (f.val 14) (f.val 15) (@cK.mk _ (_) _ _ _ _ _ ?_ ?_ rfl) h x
 ·rw[o]at r;exact r.val
 ·rw[o]at r;exact r.size
def Vr(m:aG.plain 13){a:aE}{d b:List ah}{w w1:World}{c:Frame}{e f:af}{cs:List Frame}(n:c.fn=13)(o:c.mode=.returning)(p:c.defers=[])(s:c.kind=.normal)(h2:b[2]? =some ⟨.gen [e],.own⟩)(h3:b[3]? =some ⟨.gen [f],.own⟩)
 (t:aC a (.P 2) (c.tmps.getD 14 undef)) (x:aC a (.P 3) (c.tmps.getD 15 undef)) (bU:aM bB a b w1) (g:gl 2 β d w a b w1)
 (y:∀v w',(∃u a,Ending.returned v=.returned u∧aC a (.obj .bA [e,f]) u∧aM bB a ((b.set 2 ⟨.gen [],.bn⟩).set 3 ⟨.gen [],.bn⟩) w'∧gl 2 β d w a ((b.set 2 ⟨.gen [],.bn⟩).set 3 ⟨.gen [],.bn⟩) w')→Iy Tryz.prog R 13 v w' cs):de Tryz.prog R (G c cs) w1:=by
 obtain⟨H,h,z,A,B,C⟩:=Vm bU h2 t;obtain⟨I,i,eq,D,E,F⟩:=Vm bU h3 x;have j:ED Tryz.prog 13 (.tuple #[h,i]) w1 c:=⟨n,o,p,s,Tryz.f13,Tryz.func13,fun k r=>al3 (by kernel_rfl) z eq (C k r) B (F k r) E⟩;have l:=y (.tuple #[h,i]) w1 ⟨_,a,rfl,aC.IX (.cons A (.cons D (.nil _))),(bU.kill 2 (.gen [])).kill 3 (.gen []),g.step (((bJ.kill 2 (.gen [])).trans (bJ.kill 3 (.gen []))).q (aV _)) g.len⟩;cases cs with
 |nil=>exact l _ j|cons c cs=>exact .Oq m j l
def NA(a:qu):FuncId→Option ay.Spec|26=>some (al4 a).spec|_=>none
def amd(b:br 33 m8.spec):∀f a,NA ez f=some a→br f a:=by
 intro f a h;unfold NA at h;split at h
 ·cases h;exact alJ b
 ·cases h
abbrev HB(d:qu)(a b:U 8)(e f g h:Nat)(t m p k i:Int):aJ×List ah:=(⟨List.replicate 14 .aa++[.P 2,.P 3],[]⟩,[⟨.aj a,.ro⟩,⟨.aj b,.ro⟩,⟨.gen [.ref (.sl 4 (.c 0) (.s (BitVec.ofInt 32 k).toNat) (some (.s (BitVec.ofInt 32 k).toNat)))],.own⟩,⟨.gen [.atom (.bool (.c true))],.own⟩,⟨.aj (d a b e f g h (BitVec.ofInt 32 t) (BitVec.ofInt 32 m) (BitVec.ofInt 8 p) (BitVec.ofInt 32 k) i),.own⟩])
abbrev NB(j:qu)(a b:U 8)(f c g e:Nat)(t m p k h i:Int)(d:Bool):Prop:=kq 4 (b8 5) (HB j a b f c g e t m p k i) (wu (NA j) aU 13 [true,true] ((rH a b (jY.args ⟨a,b,f,c,g,e,t,m,p,k,h⟩)).1.put (an 13) (some 16) .aa) ⟨(rH a b (jY.args ⟨a,b,f,c,g,e,t,m,p,k,h⟩)).2,bQ,[d],[]⟩) .ret [decide (((f+c)≤a.n∧(c≤1000000∧((g+e)≤b.n∧(e≤1000000∧(1≤(BitVec.ofInt 32 t).toNat∧((BitVec.ofInt 32 t).toNat≤1000000∧((BitVec.ofInt 32 m).toNat≤256∧(1≤(BitVec.ofInt 8 p).toNat∧((BitVec.ofInt 8 p).toNat≤8∧1≤(BitVec.ofInt 32 k).toNat)))))))))),((h==0)==d)]
def ame(c:qu)(a b:U 8)(d e f g:Nat)(t m p k h:Int):NB c a b d e f g t m p k h 1 true:=by show _=_;kernel_rfl
def amf(c:qu)(a b:U 8)(d e f g:Nat)(t m p k h:Int):NB c a b d e f g t m p k h 2 false:=by show _=_;kernel_rfl
def Vs(A:br 33 m8.spec)(n:aG.plain 13):br 13 jY.spec:=by
 refine jY.wq Vo fun d r β w vs B C x=>⟨⟨Tryz.f13,Tryz.func13,by kernel_rfl,by kernel_rfl⟩,fun cs R D=>?_⟩;obtain⟨a,b,g,i,j,l,t,m,p,k,c⟩:=d;have r:=bg r;obtain⟨E,F,H,I,J⟩:=r;have h:NB ez a b g i j l t m p k c (if c=0 then 1 else 2) (c==0):=by
  by_cases h:c=0
  ·rw[ax h,show(c==0)=true by simp[h]];exact ame ..
  ·rw[ak h,show(c==0)=false by simp[h]];exact amf ..
 refine Vq n a b g i j l t m p k c B C x fun o u v M N _ _ K h1 L=>?_;have y:bS Tryz.prog 13=41:=by kernel_rfl
 letI:nF:=⟨[yU 23 u v]⟩;refine(Nv (amd A) 13 [true,true] (m:=100) (by kernel_rfl)).step (n0:=2) h (aA (bu ⟨E,F,H,I,al6 J⟩) (aA (beq_self_eq_true _) aX)) (by decide) (aV _) x (by rw[y];exact K) h1 L
  (Q:=fun z o w'=>z=.ret∧∃e,cK (an 13) 41 e (HB ez a b g i j l t m p k (if c=0 then 1 else 2)).1 o∧aM bB e (HB ez a b g i j l t m p k (if c=0 then 1 else 2)).2 w'∧gl 2 β [⟨.aj a,.ro⟩,⟨.aj b,.ro⟩] w e (HB ez a b g i j l t m p k (if c=0 then 1 else 2)).2 w')
  (fun o w' e f h s _ _=>⟨rfl,e,by rw[y]at f;exact f,h,s⟩) (base 13) [] cs R ⟨by simp[base],n⟩ fun z o w' q=>?_
 obtain⟨rfl,e,f,h,s⟩:=q;intro S;rw[Ny (ds:=[yU 23 u v]) f.size f.defers];exact amb w' _ u v S cs n (Vr n rfl rfl rfl rfl rfl rfl (f.val 14) (f.val 15) h s D)
end
section
open Go.ay
variable [aR][aG][bl]
structure jr where
 (a b:U 8)(bD bC na nb:Nat)(i:Int)
def jr.aT(d:jr):Bool:=decide (0≤d.i∧d.i≤d.na∧d.na=d.nb∧d.bD+d.na≤d.a.n∧d.bC+d.nb≤d.b.n∧d.na≤4611686018427387904∧∀j,j<d.na→d.a.l.getD (d.bD+j) 0#8=d.b.l.getD (d.bC+j) 0#8)
def jr.az(d:jr):aJ×List ah:=(⟨[.sl 0 (.s d.bD) (.s d.na) none,.sl 1 (.s d.bC) (.s d.nb) none,.aa,.aa,.aa,.int .i64 (.s d.i)],[]⟩,[⟨.aj d.a,.ro⟩,⟨.aj d.b,.ro⟩])
def jr.next(d:jr):jr:={d with i:=d.i+1}
def NC(c:aJ)(d:List ah):Option jr:=
 match c.vars with
 |[.ref (.sl 0 e f _),.ref (.sl 1 g h _),_,_,_,.num (.int .i64 i)]=>
  match d with
  |[⟨j,k⟩,⟨l,m⟩]=>
   match j.j5,l.j5,Ah k,Ah m with
   |some a,some b,false,false=>some ⟨a,b,e.v,g.v,f.v,h.v,i.v⟩|_,_,_,_=>none
  |_=>none
 |_=>none
def HC:qR jr where
 parse:=NC
 cH:=[]
 az:=jr.az
 next:=jr.next
 rem d:=(d.na-d.i).toNat
 aT:=jr.aT
 out:=.exit 0
 fin:=jr.az
def amg(a:aJ)(b:List ah)(d:jr)(h:NC a b=some d):gr none d.az.1 a=some d.az.1∧eW d.az.2 (b++[])=some d.az.2:=by
 unfold NC at h;split at h
 case h_2=>cases h
 rename_i c;split at h
 case h_2=>cases h
 rename_i g e i f;split at h
 case h_2=>cases h
 rename_i h1 h2 h3 h4;cases h;constructor
 ·simp only[gr,c];rfl
 ·cases e<;>cases f<;>simp only[Ah,an9]at h3 h4<;>simp only[jr.az,uG,eW,eM,ko,h1,h2,ig]
def amh(d:jr):kq 2 none (jr.az (jr.next d)) (bZ ck aU 12 0 d.az.1 ⟨d.az.2,bQ,[true,false],[]⟩) .normal [cQ (d.i+1),(((d.a.l.getD (d.bD+(((d.i):Int).toNat*1)) (0#8))!=(d.b.l.getD (d.bC+(((d.i):Int).toNat*1)) (0#8)))==false),decide ((d.bC+(((d.i):Int).toNat*1))<d.b.n),(decide (0≤d.i)&&decide (d.i<(d.nb:Int))),decide ((d.bD+(((d.i):Int).toNat*1))<d.a.n),(decide (0≤d.i)&&decide (d.i<(d.na:Int))),(decide (d.i<(d.na:Int))==true)]:=by show _=_;kernel_rfl
def ami(d:jr):kq 2 none (jr.az d) (bZ ck aU 12 0 d.az.1 ⟨d.az.2,bQ,[false],[]⟩) (.exit 0) [(decide (d.i<(d.na:Int))==false)]:=by show _=_;kernel_rfl
def Vt:(cI Tryz.prog 12).length=1:=by kernel_rfl
def amj:Told 12 0 HC.told:=by
 refine aaD HC (iz fK (cL _) 12 0 Q6 (by rw[Vt];omega)) (by intro k n;cases n) (by intro h;cases h) amg (fun d k a b=>?_) (fun d a b=>?_)
 ·have c:=bg a;obtain⟨f,o,g,bf,l,m,e⟩:=c;have p:(d.na-d.i).toNat=k+1:=b;obtain⟨j,s⟩:=NY f;have q:=e j (by omega);have r:d.i.toNat=j:=by omega
  refine⟨⟨[true,false],none,_,amh d,?_⟩,bu ⟨?_,?_,g,bf,l,m,e⟩,?_,rfl⟩
  ·repeat'(refine aA ?_ ?_)
   all_goals first|exact aX|(simp only[jI,dI,eT,Bq];omega)|(simp only[y4,r,q,bne_self_eq_false];rfl)
  ·show 0≤d.i+1;omega
  ·show d.i+1≤(d.na:Int);omega
  ·show(d.na-(d.i+1)).toNat=k;omega
 ·have c:=bg a;obtain⟨f,o,g,bf,l,m,e⟩:=c;have p:(d.na-d.i).toNat=0:=b;refine⟨[false],none,_,ami d,?_⟩
  repeat'(refine aA ?_ ?_)
  all_goals first|exact aX|(simp only[y6,nj,wY];omega)
def D4:FuncId→Nat→Option cP|12,4=>some HC.told|_,_=>none
def amk(spec:FuncId→Option ay.Spec):c6 (dh spec D4) bB:=by
 refine c6.of fun f=>?_;by_cases a:f=12
 ·subst a;refine .inr ⟨by kernel_rfl,fun i hi d b=>?_⟩;have hi:i<(cI Tryz.prog 12).length:=hi;rw[Vt]at hi;obtain rfl:i=0:=by omega
  have c:(bY (bh Tryz.prog 12 0)).bind (D4 12)=some HC.told:=by kernel_rfl
  obtain rfl:=dV (c.symm.trans b);exact amj
 ·refine .inl fun r=>?_
  show D4 f r=none;unfold D4;split
  ·exact absurd rfl a
  ·rfl
def ND(a b:U 8)(d e c f:Nat):Bool:=decide (c=f∧d+c≤a.n∧e+f≤b.n∧c≤4611686018427387904∧∀j,j<c→a.l.getD (d+j) 0#8=b.l.getD (e+j) 0#8)
def HD:ay.Spec:=fun args h i=>
 match args with
 |[.ref (.sl 0 j k _),.ref (.sl 1 l m _)]=>
  match h with
  |[⟨d,e⟩,⟨f,g⟩]=>
   match d.j5,f.j5,Ah e,Ah g with
   |some a,some b,false,false=>some ⟨.bool (.c true),[⟨d,e⟩,⟨f,g⟩],i,[ND a b j.v l.v k.v m.v]⟩|_,_,_,_=>none
  |_=>none
 |_=>none
def aml(a b:U 8)(f g d e:Nat):nK 2 none [⟨.aj a,.ro⟩,⟨.aj b,.ro⟩] (.bool (.c true)) (b9 ck D4 12 [.sl 0 (.s f) (.s d) none,.sl 1 (.s g) (.s e) none] ⟨[⟨.aj a,.ro⟩,⟨.aj b,.ro⟩],bQ,[false],[]⟩) [(jr.aT (⟨a,b,f,g,d,e,0⟩:jr)),((!((d:Int)==(e:Int)))==false)]:=by show _=_;kernel_rfl
def amm:br 12 HD:=by
 refine dF.ends (dn fK (amk _)) (fun args m n r c o=>?_) (fun args m n r c i k p q=>?_)
 ·unfold HD at c;split at c
  case h_2=>cases c
  rename_i d e x f g y;split at c
  case h_2=>cases c
  rename_i z h A j;split at c
  case h_2=>cases c
  rename_i a b h1 h2 h3 h4;injection c with c;subst c;obtain⟨l,t,u,bf,w⟩:=bg (o _ (ta.2 rfl));refine⟨[.sl 0 (.s d.v) (.s e.v) none,.sl 1 (.s f.v) (.s g.v) none],[⟨.aj a,.ro⟩,⟨.aj b,.ro⟩],_,_,[false],none,_,_,rfl,?_,aml a b d.v f.v e.v g.v,?_,?_⟩
  ·cases h<;>cases j<;>simp only[Ah,an9]at h3 h4<;>simp only[eW,eM,ko,h1,h2,ig]
  ·repeat'(refine aA ?_ ?_)
   ·exact bu ⟨rM _,Int.natCast_nonneg _,l,t,u,bf,w⟩
   ·rw[l];simp
   ·exact aX
  ·cases h<;>cases j<;>first|rfl|cases h3|cases h4
 ·unfold HD at c;split at c
  case h_2=>cases c
  split at c
  case h_2=>cases c
  split at c
  case h_2=>cases c
  injection c with c;subst c;exact⟨k,p,q⟩
end
section
open Go Go.ay
variable [aR][aG][bl]
structure Vu where
 (u v:U 8)(m n aoT aoU:Nat)
def NE(a:List af)(b:List ah):Option Vu:=
 match a with
 |[.ref (.sl 0 (.c 0) (.s m) (some (.s d))),.ref (.sl 1 (.c 0) (.s n) (some (.s e)))]=>
  match b with
  |[⟨.aj u,.ro⟩,⟨.aj v,.ro⟩]=>some ⟨u,v,m,n,d,e⟩|_=>none
 |_=>none
def D5:bV Vu where
 d0:=⟨0,0,0,0,0,0⟩
 read:=NE
 args:=fun⟨_,_,m,n,a,b⟩=>[.ref (.sl 0 (.c 0) (.s m) (some (.s a))),.ref (.sl 1 (.c 0) (.s n) (some (.s b)))]
 heap:=fun⟨u,v,_,_,_,_⟩=>[⟨.aj u,.ro⟩,⟨.aj v,.ro⟩]
 val:=fun⟨_,_,_,_,_,_⟩=>(.bool (.c false))
 aT:=fun⟨u,v,m,n,_,_⟩=>decide (m=n∧1≤m∧m≤u.n∧n≤v.n∧¬(u.l.getD 0 0#8=v.l.getD 0 0#8))
def amn(u v:U 8)(m n a b:Nat):D5.fR ⟨u,v,m,n,a,b⟩ (b8 2) (b9 ck aU 12) (bt 3 6) [(((u.l.getD 0 (0#8))!=(v.l.getD 0 (0#8)))==true),decide (0<v.n),decide (0<(n:Int)),decide (0<u.n),decide (0<(m:Int)),(decide (0<(m:Int))==true),((!((m:Int)==(n:Int)))==false)]:=by show _=_;kernel_rfl
def amo:D5.Rd:=by
 intro a b d h;change NE a b=some d at h;unfold NE at h;repeat' split at h
 all_goals cases h
 exact⟨rfl,rfl⟩
def amq:br 12 D5.spec:=by
 refine D5.ok (dn fK (cL _)) amo ?_;rintro⟨u,v,m,n,b,c⟩ a;have a:=bg a;refine⟨(bt 3 6),(b8 2),_,amn u v m n b c,?_⟩;obtain⟨rfl,e,f,bf,d⟩:=a;refine aA ?_ (aA ?_ (aA ?_ (aA ?_ (aA ?_ (aA ?_ (aA ?_ aX))))))
 all_goals first|simpa using d|(simp<;>omega)
structure Vv where
 unit:Unit:=()
def NF(a:List af)(b:List ah):Option Vv:=
 match a with
 |[]=>
  match b with
  |[]=>some ⟨()⟩|_=>none
 |_=>none
def ny:bV Vv where
 d0:=⟨()⟩
 read:=NF
 args:=fun⟨_⟩=>[]
 heap:=fun⟨_⟩=>[]
 val:=fun⟨_⟩=>(.bool (.c true))
 aT:=fun⟨_⟩=>decide (True)
def amr:ny.Rd:=by
 intro a b d h;change NF a b=some d at h;unfold NF at h;repeat' split at h
 all_goals cases h
 exact⟨rfl,rfl⟩
def NG(c:qu):bV Hz:={jY with out:=fun⟨a,b,bD,na,bC,nb,t,m,p,k,d⟩=>[⟨.aj a,.ro⟩,⟨.aj b,.ro⟩,⟨.gen [],.bn⟩,⟨.gen [],.bn⟩,⟨.aj (c a b bD na bC nb (BitVec.ofInt 32 t) (BitVec.ofInt 32 m) (BitVec.ofInt 8 p) (BitVec.ofInt 32 k) (if d=0 then 1 else 2)),.own⟩]}
def Vw:NG ez=jY:=rfl
def NH(a:qu):FuncId→Option ay.Spec|13=>some (NG a).spec|12=>some D5.spec|_=>none
def D6:U 8:=U.of [0#8,0#8,0#8,0#8,0#8,0#8,0#8,0#8]
def dr:Nat:=(BitVec.ofInt 32 4).toNat
def s6(a:qu)(b:BitVec 8):U 8:=a (U.of [b]) D6 0 1 0 8 (BitVec.ofInt 32 1) (BitVec.ofInt 32 8) (BitVec.ofInt 8 1) (BitVec.ofInt 32 4) (if(1:Int)=0 then 1 else 2)
def s7:Bool:=((dr:Int)==4)==true
def NI:Bool:=decide ((0:Nat)+1≤1∧1≤1000000∧0+8≤8∧8≤1000000∧(1:Int)≤1∧(1:Int)≤4∧(0:Int)≤8∧(8:Int)≤256∧(1:Int)≤1∧(1:Int)≤8∧(1:Int)≤4∧(4:Int)≤1024)
def ams(a:qu):nK 0 (some []) [] (.bool (.c true)) (b9 (NH a) aU 8 [] ⟨[],bQ,(bt 9 511),[]⟩) [s7,s7,decide (dr=dr∧1≤dr∧dr≤(s6 a 1#8).n∧dr≤(s6 a 2#8).n∧¬((s6 a 1#8).l.getD 0 0#8=(s6 a 2#8).l.getD 0 0#8)),s7,s7,s7,s7,s7,s7,s7,NI,NI]:=by show _=_;kernel_rfl
def NJ:Prop:=¬((s6 ez 1#8).l.getD 0 0#8=(s6 ez 2#8).l.getD 0 0#8)
def amt(b:br 33 m8.spec)(c:aG.plain 13):∀f a,NH ez f=some a→br f a:=by
 intro f a h;unfold NH at h;split at h
 ·cases h;rw[Vw];exact Vs b c
 ·cases h;exact amq
 ·cases h
def Vx(v w:U 8)(b a c d e:Nat):(fZ v w b a c d e).n=v.n:=by
 unfold fZ;split
 ·rfl
 ·have f:=(AB v w b a c d e ((a-32-33)/32)).XK;split
  ·exact f
  ·exact f
def Vy:∀n (d:q5),(iter kX n d).kl=d.kl|0,_=>rfl|n+1,⟨X,M,mem,p,kl,a,b⟩=>Vy n (kX ⟨X,M,mem,p,kl,a,b⟩)
def Vz:∀n (d:sD),(iter n7 n d).kl=d.kl|0,_=>rfl|n+1,⟨X,b,a,M,mem,p,kl,c,e,i⟩=>Vz n (n7 ⟨X,b,a,M,mem,p,kl,c,e,i⟩)
def VA(X:U 64)(M:Nat)(mem p kl:BitVec 32):(ie (dJ X M mem p kl)).kl=kl:=by
 unfold ie;rw[Vz];unfold dJ;exact Vy _ _
def VB(a:BitVec 8):(s6 ez a).n=4:=by
 have c:∀X M mem p,kD X M mem p (BitVec.ofInt 32 4)=fZ (U.zero 8 (ie (dJ X M mem p (BitVec.ofInt 32 4))).kl.toNat) (ie (dJ X M mem p (BitVec.ofInt 32 4))).b 0 (ie (dJ X M mem p (BitVec.ofInt 32 4))).kl.toNat (ie (dJ X M mem p (BitVec.ofInt 32 4))).kl.toNat 0 1024:=fun _ _ _ _=>rfl;unfold s6 ez A6;rw[c,Vx,VA];rfl
def amu(a:br 33 m8.spec)(b:aG.plain 13)(c:NJ):br 8 ny.spec:=by
 refine ny.ok (dn (amt a b) (cL _)) amr ?_;rintro⟨_⟩ d;refine⟨_,some [],_,ams ez,?_⟩;have h4:s7=true:=by decide
 have cB:NI=true:=by decide
 rw[h4,cB];refine aA rfl (aA rfl (aA (bu ⟨rfl,by decide,?_,?_,c⟩) (aA rfl (aA rfl (aA rfl (aA rfl (aA rfl (aA rfl (aA rfl (aA rfl (aA rfl aX)))))))))))
 ·rw[VB];decide
 ·rw[VB];decide
end
section
open Go.ay
variable [aR][aG][bl]
def VC{w:U 8}(d:w.n=72){j:Nat}(a:j<128):aL (iT (fA w 0 72 1024) 0 1024) j=(jq 30 (eP (bU 64) (iS 1024 w 0) (4+72))).getD j 0#64:=by
 have c:(U.zero 8 1024).n=1024:=rfl;rw[←Nk (b:=U.zero 8 1024) c d a];exact al1 _ _ c (by omega) j a
def amv{c a:U 8}(k:a.n=64)(l:c.n=72)(m:∀i,i<64→cF c i=cF a i):Rows (ji c 8#32 1#32) [jq 30 (eP (bU 64) (iS 1024 (kC a 0 0) 0) (4+72)),jq 30 (eP (bU 64) (iS 1024 (kC a 1 0) 0) (4+72))] 2:=by
 obtain⟨h,z⟩:=U4 (P:=1) (q:=2) (mem:=8#32) (p:=1#32) (by omega) (by omega) (by omega) (by omega) rfl rfl k l m;refine⟨h.n,rfl,fun d=>?_,fun d i o hi=>?_⟩
 ·match d with|0=>exact Ns 30 _|1=>exact Ns 30 _|d+2=>exact ni
 ·have e:=h.rq 0 (128*d+i) (by omega) (by omega);rw[wZ,cM]at e;refine Eq.trans (b:=aL (ji c 8#32 1#32) (128*d+i)) (by delta aL;rfl) (e.trans ?_);clear e
  show aL (pG fA iT a (4*2) 0) (128*d+i)=_;have f:(U.zero 64 (4*2*128)).n=4*2*128:=rfl;have g:dM 0=0:=rfl;have j:dM 1=128:=rfl;unfold pG;rw[AN _ (by rw[wA,f,j];omega),AN _ (by rw[f,g];omega),g,j]
  match d with
  |0=>
   rw[ak (by omega),ax (by omega)];unfold AZ;rw[show 128*0+i-0=i by omega,VC (Ni ..) hi];rfl
  |1=>
   rw[ax (by omega)];unfold AZ;rw[show 128*1+i-128=i by omega,VC (Ni ..) hi];rfl
  |d+2=>
   rw[ak (by omega),ak (by omega)]
   show(List.replicate _ (0:BitVec 64)).getD _ 0#64=fO _ _ _;exact(Nt (4*2*128) _ 0#64).trans (Nt 128 i 0#64).symm
def Ba(a m:BitVec 64):ej a m<8:=by
 unfold ej;rw[oy];exact qv _ (by decide)
def amw(a m:BitVec 64):aS (gH a m ((0#32).setWidth 64) 0#32 8#32)=128*ej a m:=by
 have b:(gH a m ((0#32).setWidth 64) 0#32 8#32).toNat=ej a m:=by
  unfold gH ej;rw[BitVec.zero_mul,BitVec.zero_add,kH];refine dO (dN (m:=8) ?_ (by decide));rw[oy];exact qv _ (by decide)
 rw[qd,b,gW]
def amx(a:BitVec 64)(sl:BitVec 32):eG a 1#32 0#32 sl 0#32=0#32:=by
 unfold eG;split
 ·rfl
 ·apply mo;simp[Nat.mod_one]
def Bb(b:BitVec 64)(sl a:BitVec 32):aS (cq b 8#32 2#32 1#32 0#32 sl 0#32 a)=128*ej b ((sl*2#32+a-1#32).setWidth 64):=by
 unfold cq;rw[amx,ax (.inr rfl),ax rfl];have c:gm 2#32 0#32 sl 0#32 a 0#32=sl*2#32+a:=by unfold gm;rw[ax rfl,ax (.inr rfl)]
 rw[c,amw]
def amy(f:cx)(X ad b:U 64)(M:Nat)(sl a:BitVec 32)(c:Value)(h:dG 2 0#32 sl):(iter (dH bz) 2 ⟨f,X,ad,b,dc,M,2,8#32,1#32,8#32,2#32,1#32,0#32,sl,0#32,0#32,a,c⟩).X=
 fo f (fo f X (aS a) (aS (ey 8#32 sl 0#32 a)) (aS (cq (gI (eH bz (dy b) dc) 0#32) 8#32 2#32 1#32 0#32 sl 0#32 0#32))) (aS (a+1#32)) (aS (ey 8#32 sl 1#32 (a+1#32))) (aS (cq (gI (eH bz (dy b) dc) 1#32) 8#32 2#32 1#32 0#32 sl 0#32 1#32)):=by
 have d:(0#32:BitVec 32)+1#32=1#32:=rfl;have dB:¬(1#32:BitVec 32)=0#32:=by decide
 simp only[iter,dH,ax h,ax (And.intro h (Eq.refl (0#32:BitVec 32))),d,ak dB,g6,ax (And.intro h trivial),ak (fun q:dG 2 0#32 sl∧(1#32:BitVec 32)=0#32=>dB q.2)]
def VD(f:cx)(X ad b:U 64)(M:Nat)(sl a:BitVec 32)(c:Value)(h:¬dG 2 0#32 sl):(iter (dH bz) 2 ⟨f,X,ad,b,dc,M,2,8#32,1#32,8#32,2#32,1#32,0#32,sl,0#32,0#32,a,c⟩).X=
 fo f (fo f X (aS a) (aS (ey 8#32 sl 0#32 a)) (aS (cq (fY X (ey 8#32 sl 0#32 a)) 8#32 2#32 1#32 0#32 sl 0#32 0#32))) (aS (a+1#32)) (aS (ey 8#32 sl 1#32 (a+1#32)))
  (aS (cq (fY (fo f X (aS a) (aS (ey 8#32 sl 0#32 a)) (aS (cq (fY X (ey 8#32 sl 0#32 a)) 8#32 2#32 1#32 0#32 sl 0#32 0#32))) (ey 8#32 sl 1#32 (a+1#32))) 8#32 2#32 1#32 0#32 sl 0#32 1#32)):=by
 have d:(0#32:BitVec 32)+1#32=1#32:=rfl;simp only[iter,dH,ak h,d]
end
section
open Go.ay
variable [aR][aG][bl]
variable{X:U 64}{P:List (List (BitVec 64))}
def NK(f:cx)(X:U 64)(M:Nat)(sl:BitVec 32)(h:¬sl=0#32):lF f X M 2 8#32 1#32 8#32 2#32 1#32 0#32 sl 0#32=
 (iter (dH bz) 2 ⟨f,X,di (rm 2 8#32 1#32 0#32 sl 0#32),di (pq 2 8#32 1#32 0#32 sl 0#32),dc,M,2,8#32,1#32,8#32,2#32,1#32,0#32,sl,0#32,0#32,sl*2#32,undef⟩).X:=by
 have ex:lE 0#32 sl=0#32:=ak (fun q=>h q.2);have a:(0#32*8#32+sl*2#32+0#32:BitVec 32)=sl*2#32:=by rw[BitVec.zero_mul,BitVec.zero_add,BitVec.add_zero]
 unfold lF k4 d2 d44;simp only;rw[ex,a,o8 Dn];rfl
def VE:(eH bz (dy (jC 2 8#32 1#32 0#32 1#32 0#32)) dc).l=s5:=by
 have b:dy (jC 2 8#32 1#32 0#32 1#32 0#32)=U.of (0#64::0#64::1#64::8#64::1#64::2#64::1#64::List.replicate 121 0#64):=by kernel_rfl
 have a:(dy (jC 2 8#32 1#32 0#32 1#32 0#32)).n=128:=aid _;have c:dc.l=gJ:=by kernel_rfl
 unfold eH;rw[o8 a,o8 Dn,o8 (yb _ _),Nu _ _ (yb _ _) Dn,Nu _ _ a Dn,b,c];rfl
def amz:pq 2 8#32 1#32 0#32 1#32 0#32=jC 2 8#32 1#32 0#32 1#32 0#32:=by
 have h:dG 2 0#32 1#32:=.inr ⟨rfl,rfl,rfl⟩;unfold pq sM;rw[ak (fun q=>absurd q.2.1 (by decide)),ax h]
def amA(a:U 64):gI a 0#32=a.l.getD 0 0#64:=Aw a (by omega:0<128)
def amB(a:U 64):gI a 1#32=a.l.getD 1 0#64:=Aw a (by omega:1<128)
def amC{X:U 64}{P:List (List (BitVec 64))}(f:cx)(M:Nat)(d:Rows X P 2):Rows (lF f X M 2 8#32 1#32 8#32 2#32 1#32 0#32 1#32 0#32) (gK (gK P 1 (ej (s5.getD 0 0#64) 1#64)) 2 (ej (s5.getD 1 0#64) 2#64)) 4:=by
 have h:dG 2 0#32 1#32:=.inr ⟨rfl,rfl,rfl⟩;rw[NK f X M 1#32 (by decide),amy _ _ _ _ _ _ _ _ h,amz,o8 (Tp ..),Bb,Bb];have b:gI (eH bz (dy (jC 2 8#32 1#32 0#32 1#32 0#32)) dc) 0#32=s5.getD 0 0#64:=by
  rw[amA,VE]
 have c:gI (eH bz (dy (jC 2 8#32 1#32 0#32 1#32 0#32)) dc) 1#32=s5.getD 1 0#64:=by
  rw[amB,VE]
 rw[b,c];clear b c;generalize s5.getD 0 0#64=a;generalize s5.getD 1 0#64=e;have g:Rows (fo f X (aS (1#32*2#32)) (aS (ey 8#32 1#32 0#32 (1#32*2#32))) (128*ej a ((1#32*2#32+0#32-1#32).setWidth 64))) (gK P 1 (ej a 1#64)) 3:=d.step f 1 (ej a 1#64) (by omega) (by omega) (Ba _ _);exact g.step f 2 (ej e 2#64) (by omega) (by omega) (Ba _ _)
def HE{a:Nat}(d:Rows X P a){c:BitVec 32}{b:Nat}(e:b<8)(f:aS c=128*b):fY X c=fO P b 0:=by
 unfold fY;rw[f];exact d.get b 0 e (by omega)
def amD(f:cx)(M:Nat)(c:Rows X P 4):Rows (lF f X M 2 8#32 1#32 8#32 2#32 1#32 0#32 2#32 0#32) (gK (gK P 3 (ej (fO P 3 0) 3#64)) 4 (ej (fO (gK P 3 (ej (fO P 3 0) 3#64)) 4 0) 4#64)) 6:=by
 have h:¬dG 2 0#32 2#32:=fun q=>q.elim (fun a=>absurd a (by decide)) fun a=>absurd a.2.2 (by decide);rw[NK f X M 2#32 (by decide),VD _ _ _ _ _ _ _ _ h,HE c (b:=3) (by omega) (by decide),Bb];have d:Rows (fo f X (aS (2#32*2#32)) (aS (ey 8#32 2#32 0#32 (2#32*2#32))) (128*ej (fO P 3 0) ((2#32*2#32+0#32-1#32).setWidth 64))) (gK P 3 (ej (fO P 3 0) 3#64)) 5:=c.step f 3 (ej (fO P 3 0) 3#64) (by omega) (by omega) (Ba _ _);rw[HE d (b:=4) (by omega) (by decide),Bb];exact d.step f 4 (ej (fO (gK P 3 (ej (fO P 3 0) 3#64)) 4 0) 4#64) (by omega) (by omega) (Ba _ _)
def amE(f:cx)(M:Nat)(c:Rows X P 6):Rows (lF f X M 2 8#32 1#32 8#32 2#32 1#32 0#32 3#32 0#32) (gK (gK P 5 (ej (fO P 5 0) 5#64)) 6 (ej (fO (gK P 5 (ej (fO P 5 0) 5#64)) 6 0) 6#64)) 8:=by
 have h:¬dG 2 0#32 3#32:=fun q=>q.elim (fun a=>absurd a (by decide)) fun a=>absurd a.2.2 (by decide);rw[NK f X M 3#32 (by decide),VD _ _ _ _ _ _ _ _ h,HE c (b:=5) (by omega) (by decide),Bb];have d:Rows (fo f X (aS (3#32*2#32)) (aS (ey 8#32 3#32 0#32 (3#32*2#32))) (128*ej (fO P 5 0) ((3#32*2#32+0#32-1#32).setWidth 64))) (gK P 5 (ej (fO P 5 0) 5#64)) 7:=c.step f 5 (ej (fO P 5 0) 5#64) (by omega) (by omega) (Ba _ _);rw[HE d (b:=6) (by omega) (by decide),Bb];exact d.step f 6 (ej (fO (gK P 5 (ej (fO P 5 0) 5#64)) 6 0) 6#64) (by omega) (by omega) (Ba _ _)
end
section
open Go.ay
variable [aR][aG][bl]
variable{X:U 64}{Q:List (List (BitVec 64))}{a:Nat}
def HF{S:List (List (BitVec 64))}{i:Nat}(hi:i<4)(e:Rows X Q a)(f:Rows (ov 2 8#32 1#32 8#32 2#32 1#32 i 0 X) S (2*i+2))(o:∀d,d<8→d/2≠i→S.getD d gJ=Q.getD d gJ):Rows (yQ 2 8#32 1#32 8#32 2#32 1#32 i X) S (2*i+2):=by
 refine⟨e.n,f.len,f.row,fun d j g h=>?_⟩;have k:=UC (m:=2) (mem:=8#32) (tm:=1#32) (ln:=8#32) (aB:=2#32) (p:=1#32) (P:=1) (q:=2) (T:=1) (by omega) (by omega) (by omega) (by omega) rfl rfl rfl rfl rfl (X:=X) e.n i (l:=0) (j:=128*d+j) (by omega) (by omega);rw[wZ,cM]at k;refine Eq.trans (b:=aL (yQ 2 8#32 1#32 8#32 2#32 1#32 i X) (128*d+j)) (by delta aL;rfl) (k.trans ?_);by_cases c:(128*d+j)/128/2=i%4
 ·rw[ax c];exact f.get d j g h
 ·rw[ak c];have h1:aL X (128*d+j)=fO Q d j:=e.get d j g h;rw[h1];unfold fO;rw[o d g (by omega)]
def NL(b c e f:Nat)(h:Q.length=a){d:Nat}(h1:d≠a)(h2:d≠a+1):(gK (gK Q b c) e f).getD d gJ=Q.getD d gJ:=by
 unfold gK;rw[Hy,ak (by rw[fB,h];exact h2),Hy,ak (by rw[h];exact h1)]
def amF{b c:List (BitVec 64)}(f:Rows X [b,c] 2):Rows (jG 2 8#32 1#32 1#32 X) (Hu b c) 8:=by
 have j:ov 2 8#32 1#32 8#32 2#32 1#32 0 0 X=X:=by
  unfold ov lF k4 d2 d44;rfl
 have e:=HF (i:=0) (by omega) f (S:=[b,c]) (by rw[j];exact f) (fun _ _ _=>rfl);have h1:=HF (i:=1) (by omega) e (amC _ _ e) (fun d g h=>NL _ _ _ _ e.len (by omega) (by omega));have h2:=HF (i:=2) (by omega) h1 (amD _ _ h1) (fun d g h=>NL _ _ _ _ h1.len (by omega) (by omega));exact HF (i:=3) (by omega) h2 (amE _ _ h2) (fun d g h=>NL _ _ _ _ h2.len (by omega) (by omega))
end
end Go.Proofs.YtcminalaicidiaaGreatDoor
end

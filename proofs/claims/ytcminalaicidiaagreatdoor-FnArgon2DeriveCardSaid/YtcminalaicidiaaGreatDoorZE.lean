/- Part of FnArgon2Derive. No condition. -/
import Derived.Test.YtcminalaicidiaaGreatDoorZD
set_option maxRecDepth 100000
set_option maxHeartbeats 8000000
set_option linter.all false
def aos:=@Nat.add_sub_cancel
def WH:=@Nat.div_mul_le_self
def aot:=@Nat.eq_of_mul_eq_mul_left
def WF:=@Nat.min_zero
def Ih:=@Nat.mul_add_div
def uM:=@Nat.mul_div_cancel_left
def WG:=@Nat.sub_self
noncomputable section
namespace Go.Proofs.YtcminalaicidiaaGreatDoor
section
open Go Go.aA Conc Conc.Lib RowKit
open Classical in
def sO(m:Int)(mem tm n sl k:BitVec 32):U 64:=if dF m n sl then jG m mem tm n sl k else c9
open Classical in
def pq(m:Int)(mem tm n sl k:BitVec 32):U 64:=if n=0#32∧sl=0#32∧dF m n sl then dz (sO m mem tm n sl k)else sO m mem tm n sl k
open Classical in
def rf(m:Int)(mem tm n sl k:BitVec 32):U 64:=if n=0#32∧sl=0#32∧dF m n sl then eJ bw (dz (sO m mem tm n sl k)) c9 else c9
open Classical in
def lG(n sl:BitVec 32):BitVec 32:=if n=0#32∧sl=0#32 then 2#32 else 0#32
section
variable [aR][aF][bq]
variable(f:cw)(X:U 64)(M:Nat)(m:Int)(mem tm Q P p n sl k:BitVec 32)(R:Value)
def aid:∃c d cs,eg 8 d (jm n sl k R .aa,iR f X M m mem tm Q P p c9 (sO m mem tm n sl k)) (hO (fM bw) aQ 44 yF (ug n sl k R .aa .aa .aa .aa) ⟨sM f X M m mem tm Q P p,bJ,c,[]⟩)=
 some (.normal,(jm n sl k R (.atom .aa),iR f X M m mem tm Q P p c9 (sO m mem tm n sl k)),cs)∧∀e∈cs,e=true:=by
 unfold sO;by_cases h1:m=1
 ·rw[av (show dF m n sl from .inl h1)];refine⟨_,_,_,ahT bw f X M m mem tm Q P p n sl k R,?_⟩
  repeat'(refine ax ?_ ?_)
  all_goals first|exact aV|rfl|simp[h1]
 by_cases h2:m=2
 ·by_cases a:n=0#32
  ·by_cases b:sl.toNat<2
   ·rw[av (show dF m n sl from .inr ⟨h2,a,by simpa[BitVec.ult]using b⟩)];refine⟨_,_,_,ahU bw f X M m mem tm Q P p n sl k R,?_⟩
    repeat'(refine ax ?_ ?_)
    all_goals first|exact aV|rfl|simp[h2,a,b]
   ·rw[ak (show¬dF m n sl from fun h=>h.elim h1 fun h=>b (by simpa[BitVec.ult]using h.2.2))];refine⟨_,_,_,ahX bw f X M m mem tm Q P p n sl k R,?_⟩
    repeat'(refine ax ?_ ?_)
    all_goals first|exact aV|rfl|(simp[h2,a,b];done)|(simp;omega)
  ·rw[ak (show¬dF m n sl from fun h=>h.elim h1 fun h=>a h.2.1)];refine⟨_,_,_,ahW bw f X M m mem tm Q P p n sl k R,?_⟩
   repeat'(refine ax ?_ ?_)
   all_goals first|exact aV|rfl|simp[h2,a]
 ·rw[ak (show¬dF m n sl from fun h=>h.elim h1 fun h=>h2 h.1)];refine⟨_,_,_,ahV bw f X M m mem tm Q P p n sl k R,?_⟩
  repeat'(refine ax ?_ ?_)
  all_goals first|exact aV|rfl|simp[h1,h2]
def aie:∃e g cs,eg 11 g (jm n sl k R (.aD (lG n sl)),iR f X M m mem tm Q P p (rf m mem tm n sl k) (pq m mem tm n sl k)) (hO (fM bw) aQ 44 yG (jm n sl k R .aa) ⟨iR f X M m mem tm Q P p c9 (sO m mem tm n sl k),bJ,e,[]⟩)=
 some (.normal,(jm n sl k R (.num (.aD (lG n sl))),iR f X M m mem tm Q P p (rf m mem tm n sl k) (pq m mem tm n sl k)),cs)∧∀i∈cs,i=true:=by
 unfold lG rf pq;generalize sO m mem tm n sl k=c;by_cases a:n=0#32
 ·by_cases b:sl=0#32
  ·have d:BitVec.ult sl 2#32=true:=by rw[b];decide
   by_cases h1:m=1
   ·rw[av ⟨a,b⟩,av ⟨a,b,.inl h1⟩,av ⟨a,b,.inl h1⟩];refine⟨_,_,_,ah0 bw f X c M m mem tm Q P p n sl k R,?_⟩
    repeat'(refine ax ?_ ?_)
    all_goals first|exact aV|rfl|simp[h1,a,b]
   by_cases h2:m=2
   ·rw[av ⟨a,b⟩,av ⟨a,b,.inr ⟨h2,a,d⟩⟩,av ⟨a,b,.inr ⟨h2,a,d⟩⟩];refine⟨_,_,_,ah1 bw f X c M m mem tm Q P p n sl k R,?_⟩
    repeat'(refine ax ?_ ?_)
    all_goals first|exact aV|rfl|simp[h2,a,b]
   ·have hi:¬(n=0#32∧sl=0#32∧dF m n sl):=fun h=>h.2.2.elim h1 fun h=>h2 h.1;rw[av ⟨a,b⟩,ak hi,ak hi];refine⟨_,_,_,ah2 bw f X c M m mem tm Q P p n sl k R,?_⟩
    repeat'(refine ax ?_ ?_)
    all_goals first|exact aV|rfl|simp[h1,h2,a,b]
  ·rw[ak (fun h=>b h.2),ak (fun h=>b h.2.1),ak (fun h=>b h.2.1)];refine⟨_,_,_,ahZ bw f X c M m mem tm Q P p n sl k R,?_⟩
   repeat'(refine ax ?_ ?_)
   all_goals first|exact aV|rfl|simp[a,b]
 ·rw[ak (fun h=>a h.1),ak (fun h=>a h.1),ak (fun h=>a h.1)];refine⟨_,_,_,ahY bw f X c M m mem tm Q P p n sl k R,?_⟩
  repeat'(refine ax ?_ ?_)
  all_goals first|exact aV|rfl|simp[a]
def aif(spec:FuncId→Option aA.Spec):c6 (de spec AV) bB:=by
 have b:(cH Tryz.prog 44).length=1:=by kernel_rfl
 refine c6.of fun f=>?_;by_cases a:f=44
 ·subst a;refine .inr ⟨by kernel_rfl,fun i hi g c=>?_⟩;have hi:i<(cH Tryz.prog 44).length:=hi;rw[b]at hi;have d:i=0:=by omega
  subst d;have e:(bX (bg Tryz.prog 44 0)).bind (AV 44)=some LZ:=by kernel_rfl
  obtain rfl:=dV (e.symm.trans c);exact ahS
 ·refine .inl fun r=>?_
  show AV f r=none;unfold AV;split
  ·exact absurd rfl a
  ·rfl
def d2:l8:=d44 f X (rf m mem tm n sl k) (pq m mem tm n sl k) M m mem tm Q P p n sl k (lG n sl) R
def aih(c:Ds f M Q P p n sl k)(d:X.n=M*128)(h2:2≤P.toNat):∃e g cs,eg 11 g (yH (k6 (d2 f X M m mem tm Q P p n sl k R)).f (k6 (d2 f X M m mem tm Q P p n sl k R)).X (k6 (d2 f X M m mem tm Q P p n sl k R)).kA) (hO (fM bw) AV 44 L0 (jm n sl k R (.aD (lG n sl))) ⟨iR f X M m mem tm Q P p (rf m mem tm n sl k) (pq m mem tm n sl k),bJ,e,[]⟩)=
 some (.normal,yH (k6 (d2 f X M m mem tm Q P p n sl k R)).f (k6 (d2 f X M m mem tm Q P p n sl k R)).X (k6 (d2 f X M m mem tm Q P p n sl k R)).kA,cs)∧∀h∈cs,h=true:=by
 refine⟨_,_,_,FF f X (rf m mem tm n sl k) (pq m mem tm n sl k) M m mem tm Q P p n sl k (lG n sl) R,ax ?_ aV⟩;unfold LX;refine@bl _ (Classical.propDecidable _) ⟨c,rfl,d,?_,fun a b=>?_⟩
 ·show(lG n sl).toNat≤P.toNat
  unfold lG;split
  ·exact h2
  ·exact kI _
 ·show lG n sl≠0#32;unfold lG;have a:n=0#32:=a;have b:sl=0#32:=b;rw[av ⟨a,b⟩];decide
end
def Tw [aR][aF][bq](d:l8):(k6 d).f=d.f∧(k6 d).kA=d.kA∧(k6 d).X.n=d.X.n:=by
 unfold k6;generalize d.az.toNat-d.ix.toNat=r;have g:∀r (d:l8),(iter (dG bw) r d).f=d.f∧(iter (dG bw) r d).kA=d.kA∧(iter (dG bw) r d).X.n=d.X.n:=by
  intro r
  induction r with
  |zero=>exact fun d=>⟨rfl,rfl,rfl⟩|succ r i=>
   intro d;obtain⟨f,X,ad,a,z,M,m,mem,tm,Q,P,p,n,sl,k,b,c,R⟩:=d;have h:=i (dG bw ⟨f,X,ad,a,z,M,m,mem,tm,Q,P,p,n,sl,k,b,c,R⟩);have e:(dG bw ⟨f,X,ad,a,z,M,m,mem,tm,Q,P,p,n,sl,k,b,c,R⟩).f=f∧(dG bw ⟨f,X,ad,a,z,M,m,mem,tm,Q,P,p,n,sl,k,b,c,R⟩).kA=R∧(dG bw ⟨f,X,ad,a,z,M,m,mem,tm,Q,P,p,n,sl,k,b,c,R⟩).X.n=X.n:=by
    refine⟨rfl,rfl,?_⟩;dsimp only[dG];exact Tp f X _ _ _
   exact⟨h.1.trans e.1,h.2.1.trans e.2.1,h.2.2.trans e.2.2⟩
 exact g r d
end
section
open Go Go.aA Conc Conc.Lib RowKit
open Go.ConcR (KK WgAt stA smA rd wr mk DC0 wgBlock)
variable [aR]
variable{β:aE}{w:World}
def Tx [aF]{aj bC:Nat}{args:List af}{us:List Value}(c:aJ β args us)(g:us.length≤bC):
 cL aj bC β ⟨args++List.replicate (aj-args.length) .aa,[]⟩ {tmps:=(⟨us⟩:Array Value)++Array.replicate (bC-us.length) undef,defers:=[]}:=by
 refine⟨fun t=>?_,?_,rfl⟩
 ·simp only[aI.get];cases h:Nat.blt t aj with
  |false=>exact .aa _|true=>
   simp only[cg];rcases cv t args.length with a|a
   ·have d:t<us.length:=by rw[←c.1];exact a
    rw[iE a,bW a];simp only;have e:((⟨us⟩:Array Value)++Array.replicate (bC-us.length) undef).getD t undef=us[t]:=by
     simp[gV,Oe,d]
    rw[e];exact c.2 t _ _ (bW a) (bW d)
   ·rw[ie a];split
    ·rename_i i b;rw[mz]at b;split at b
     ·injection b with b;subst b;exact .aa _
     ·cases b
    ·exact .aa _
 ·simp;omega
def aii(d:l8)(v:Value):dG bw {d with kA:=v}={dG bw d with kA:=v}:=by
 obtain⟨f,X,ad,a,z,M,m,mem,tm,R,Q,p,n,sl,k,b,c,e⟩:=d;dsimp only[dG]
def Ty(v:Value):∀r (d:l8),(iter (dG bw) r {d with kA:=v}).X=(iter (dG bw) r d).X
 |0,d=>rfl|r+1,d=>by
  show(iter (dG bw) r (dG bw {d with kA:=v})).X=(iter (dG bw) r (dG bw d)).X;rw[aii];exact Ty v r _
def lH(f:cw)(X:U 64)(M:Nat)(m:Int)(mem tm R Q p n sl k:BitVec 32):U 64:=(k6 (d2 f X M m mem tm R Q p n sl k undef)).X
def aij(f:cw)(X:U 64)(M:Nat)(m:Int)(mem tm R Q p n sl k:BitVec 32)(a:Value):(k6 (d2 f X M m mem tm R Q p n sl k a)).X=lH f X M m mem tm R Q p n sl k:=
 Ty a (Q.toNat-(lG n sl).toNat) (d2 f X M m mem tm R Q p n sl k undef)
def wG(n0 P b:Nat):Nat:=match b with|0=>P|1=>n0+4|2=>n0+2|3=>n0+1|4=>n0+5|5=>n0+6|6=>n0|_=>n0+3
def pz(n0 P room:Nat):aE:=fun b=>if b<8 then some ⟨wG n0 P b,0,if b=0 then room else 1⟩else none
def AZ{n0 P room b:Nat}{a:aA.Loc}(h:pz n0 P room b=some a):b<8∧a.c=wG n0 P b:=by
 unfold pz at h;split at h
 ·rename_i d;cases h;exact⟨d,rfl⟩
 ·cases h
def Tz(c:Machine)(a:World)(P:Nat):Prop:=∀g l,bB g=some l→g7 g<a.heap.size∧g7 g≠P∧¬mP Tryz.prog c 33 (g7 g)∧∀(i:Nat) b,l[i]? =some b→∃v,a.cell? (gK g i)=some v∧b5 b v
section
variable{S:dj}{k n0 P room c5:Nat}{f:cw}{X:U 64}{M:Nat}{m:Int}{mem tm R Q p n sl T:BitVec 32}
def yI{c:Nat}{v:Value}{t:TypeId}{b:af}(d:w.heap[c]? =some (.cells #[v] t))(e:S.mL c)(g:c≠S.bR)(h:@aC _ β b v):@g8 _ (S.co k f) β ⟨.gen [b],.ro⟩ ⟨c,0,1⟩ w:=by
 letI:=S.co k f;refine⟨(dW.1 d).1,by simp[Data.len],fun i j a=>?_⟩;cases i with
 |zero=>
  simp[Data.at]at a;subst a;exact⟨v,by simp[World.cell?,at',d],h,rfl,.inr ⟨rfl,e,g⟩⟩
 |succ i=>simp[Data.at]at a
def aik(W:S.bR=P)(al:X.n=M*128)(Y:M≤c5)(Z:c5*128≤room)(aa:∃x,AW room X x∧w.heap[P]? =some x)(E:P<n0)(r:∀i,i<7→S.mL (n0+i))
 (o:∀i x,(boxes (some ⟨P,0,none⟩) M c5 (tm.toNat:Int) (mem.toNat:Int) (p.toNat:Int) m (R.toNat:Int) (Q.toNat:Int))[i]? =some x→w.heap[n0+i]? =some x)
 (F:∀g l,bB g=some l→g7 g<n0∧g7 g≠P∧S.mL (g7 g)∧∀(i:Nat) y,l[i]? =some y→∃v,w.cell? (gK g i)=some v∧b5 y v):
 @aL _ (S.co k f) bB (pz n0 P room) (sM f X M m mem tm R Q p) w:=by
 letI:=S.co k f;have H:∀b,b<8→pz n0 P room b=some ⟨wG n0 P b,0,if b=0 then room else 1⟩:=fun b E=>by unfold pz;rw[av E]
 have j:∀i,n0+i≠S.bR:=fun i=>by omega
 have am:n0+6<w.heap.size:=(dW.1 (o 6 _ rfl)).1;refine⟨fun b q c _=>.inl ?_,fun b A q an I ao j c ap J _ z K=>?_,fun b I z=>(AZ z).1,fun g l B=>?_,fun b q I c J z g l B=>?_⟩
 ·have L:b<8:=(dX.1 c).1;refine⟨_,H b L,?_⟩
  match b,L,c with
  |0,_,c=>
   have e:some (ah.mk (.lim f X) .own)=some q:=c;injection e with e;subst e;obtain⟨x,⟨vs,t,bu,rfl,ab,C,ad,ae⟩,ag⟩:=aa;refine⟨rfl,⟨.inl W.symm,rfl⟩,vs.toList,t,bu,(by show w.heap[P]? =_;rw[ag]),by simpa using ab,by simpa using C,ad,?_⟩;refine⟨by rw[qx,Eo];simp[Data.list,Data.len,X.h];omega,fun i y v D u=>?_⟩;have N:(X.l.map af.au)[i]? =some y:=D;rw[dY,bU]at N;obtain⟨a,O,rfl⟩:=N;have hi:i<X.n:=by have:=(dX.1 O).1;rwa[X.h]at this
   rw[lP]at u;split at u
   ·have h3:=ae i hi;rw[show vs.toList[i]? =vs[i]? from by simp]at u;rw[u]at h3;unfold k7 at h3;rw[O]at h3;injection h3 with h3;subst h3;exact .num (.au a)
   ·cases u
  |1,_,c=>
   have e:some (ah.mk (.gen [.num (.int .i64 (.s m))]) .ro)=some q:=c;injection e with e;subst e;exact yI (o 4 _ rfl) (r 4 (by decide)) (j 4) (.num (.int .i64 (.s m)))
  |2,_,c=>
   have e:some (ah.mk (.gen [.num (.aD mem)]) .ro)=some q:=c;injection e with e;subst e;exact yI (o 2 _ rfl) (r 2 (by decide)) (j 2) (.num (.aD mem))
  |3,_,c=>
   have e:some (ah.mk (.gen [.num (.aD tm)]) .ro)=some q:=c;injection e with e;subst e;exact yI (o 1 _ rfl) (r 1 (by decide)) (j 1) (.num (.aD tm))
  |4,_,c=>
   have e:some (ah.mk (.gen [.num (.aD R)]) .ro)=some q:=c;injection e with e;subst e;exact yI (o 5 _ rfl) (r 5 (by decide)) (j 5) (.num (.aD R))
  |5,_,c=>
   have e:some (ah.mk (.gen [.num (.aD Q)]) .ro)=some q:=c;injection e with e;subst e;exact yI (o 6 _ rfl) (r 6 (by decide)) (j 6) (.num (.aD Q))
  |6,_,c=>
   have e:some (ah.mk (.gen [.ref (.sm 0 (.s M) 128)]) .ro)=some q:=c;injection e with e;subst e;exact yI (o 0 _ rfl) (r 0 (by decide)) (j 0) (.sm 0 (.s M) 128 _ c5 Y (.inr ⟨_,H 0 (by decide),rfl,Z⟩))
  |7,_,c=>
   have e:some (ah.mk (.gen [.num (.aD p)]) .ro)=some q:=c;injection e with e;subst e;exact yI (o 3 _ rfl) (r 3 (by decide)) (j 3) (.num (.aD p))
 ·rw[(AZ z).2,(AZ K).2];have h1:=(AZ z).1;have h2:=(AZ K).1
  match b,h1,A,h2 with
  |0,_,0,_=>exact absurd rfl j|0,_,A+1,_=>
   show P≠wG n0 P (A+1);unfold wG;split<;>omega
  |b+1,h1,_,_=>
   have no:∀{d:aA.Data},(some (ah.mk d .ro)=some q)→False:=fun e=>by injection e with e;subst e;cases J
   match b,h1,c with
   |0,_,c=>exact(no c).elim|1,_,c=>exact(no c).elim|2,_,c=>exact(no c).elim|3,_,c=>exact(no c).elim|4,_,c=>exact(no c).elim|5,_,c=>exact(no c).elim|6,_,c=>exact(no c).elim
 ·obtain⟨ai,aj,V,bf⟩:=F g l B;refine⟨by omega,fun i y D=>?_⟩;obtain⟨v,u,C⟩:=bf i y D;obtain⟨aq,ak⟩:=r8 g;refine⟨v,u,aC.oS C,?_⟩;rw[ak];exact⟨rfl,.inr ⟨rfl,V,by show g7 g≠S.bR;omega⟩⟩
 ·obtain⟨ai,aj,V,bf⟩:=F g l B;rw[(AZ z).2];unfold wG;split<;>omega
end
end
section
open Go.aA
variable [aR][aF][bq]
def TA:c9=jh:=by kernel_rfl
def ail(m:Int)(mem tm n sl k:BitVec 32):dz (jG m mem tm n sl k)=U.of ([n.setWidth 64,k.setWidth 64,sl.setWidth 64,mem.setWidth 64,tm.setWidth 64,BitVec.ofInt 64 m,1#64]++List.replicate 121 0#64):=by kernel_rfl
def aim(a b c co d e sl pl:Int):(Dj a b c co d e sl pl).n=128:=by kernel_rfl
def Du{b:BitVec 32}{N:Nat}(h:b.toNat=N):(b.setWidth 64:BitVec 64)=BitVec.ofInt 64 (N:Int):=by
 apply nc;have:=b.isLt;rw[kJ,uF,gZ,h]
def ain{m:Int}{mem tm n sl k:BitVec 32}{P q T N a b aq:Nat}(em:mem.toNat=4*P*q)(c:tm.toNat=T)(d:n.toNat=N)(e:sl.toNat=a)(f:k.toNat=b)(b7:aq<128):
 eJ bw (dz (jG m mem tm n sl k)) c9=q6 bw m T P ((4*q:Nat):Int) N b a aq:=by
 have g:dz (jG m mem tm n sl k)=Dj m T P ((4*q:Nat):Int) N b a aq:=by
  rw[ail];unfold Dj;have h:(aq:Int).tdiv 128+1=1:=by rw[pK (by omega)];omega
  have i:(P:Int)*((4*q:Nat):Int)=((4*P*q:Nat):Int):=by rw[←Bz,Nat.mul_left_comm,iX]
  rw[Du d,Du e,Du f,Du em,Du c,h,i];rfl
 unfold eJ q6;rw[g,o7 (aim ..),TA,o7 (show jh.n=128 from nh),SV _ jh,SV (Dj _ _ _ _ _ _ _ _) jh]
theorem L5(r:Nat→U 64)(l:Nat)(X:U 64):upd r l X l=X:=by unfold upd;rw[Nat.beq_refl]
theorem L6(r:Nat→U 64){i l:Nat}(X:U 64)(h:i≠l):upd r l X i=r i:=by
 have:Nat.beq i l=false:=by
  cases a:Nat.beq i l
  ·rfl
  ·exact absurd (rO a) h
 unfold upd;rw[this]
structure sP(P q N s ep aq:Nat)(X:U 64)(r:Nat→U 64):Prop where
 n:X.n=P*(4*q*128)
 yJ:∀l,l<P→(r l).n=4*q*128
 ri:∀l j,l<P→j<4*q*128→(l=ep∨j/128/q≠s)→aK X (l*(4*q*128)+j)=aK (r l) j
 TB:N=0→∀j,(s*q+aq)*128≤j→j<4*q*128→aK X (ep*(4*q*128)+j)=0#64
theorem L8{l ep j c a:Nat}(h:l≠ep)(b:j<a)(d:c+128≤a):¬(ep*a+c≤l*a+j∧l*a+j<ep*a+c+128):=by
 rcases Nat.lt_or_gt_of_ne h with h|h
 ·have:(l+1)*a≤ep*a:=fQ _ h;rw[jR]at this;omega
 ·have:(ep+1)*a≤l*a:=fQ _ h;rw[jR]at this;omega
section
variable{P q N s ep aq:Nat}{X:U 64}{r:Nat→U 64}(h:sP P q N s ep aq X r)
include h
theorem L9{b:BitVec 32}{a C:Nat}(d:b.toNat=a*(4*q)+C)(e:a<P)(j:C<4*q)(f:a=ep∨C/q≠s):rowAt X (aT b)=rowAt (r a) (C*128):=by
 refine vX ((wB _ _).trans (wB _ _).symm) fun w c=>?_;have c:w<128:=by rw[wB]at c;exact c
 rw[q3 _ _ c,q3 _ _ c,qc,d];have g:(a*(4*q)+C)*128+w=a*(4*q*128)+(C*128+w):=by rw[Bp,iX];omega
 rw[g];refine h.ri a _ e (by omega) (f.imp id fun i=>?_);rw[show(C*128+w)/128=C by omega];exact i
theorem aio{f:cw}{e i k:BitVec 32}{p m C:Nat}{t:U 64}(w:ep<P)(Q:s<4)(b7:aq<q)(z:e.toNat=ep*(4*q)+(s*q+aq))
 (A:i.toNat=ep*(4*q)+p) (B:p<4*q) (hi:k.toNat=m*(4*q)+C) (D:m<P) (E:C<4*q) (F:m=ep∨C/q≠s) (H:t.n=(r ep).n)
 (I:∀a,aK t a=if(s*q+aq)*128≤a∧a<(s*q+aq)*128+128 then(if N=0 then 0#64 else aK (r ep) a)^^^aK (bw (rowAt (r ep) (p*128)) (rowAt (r m) (C*128))) (a-(s*q+aq)*128)else aK (r ep) a):
 sP P q N s ep (aq+1) (fl f X (aT e) (aT i) (aT k)) (upd r ep t):=by
 have R:s*q≤3*q:=fQ _ (by omega);generalize J:s*q+aq=b at *;have S:b<4*q:=by omega
 have x:aT e=ep*(4*q*128)+b*128:=by rw[qc,z,Bp,iX]
 have K:(ep+1)*(4*q*128)≤P*(4*q*128):=fQ _ w;rw[jR]at K;have L:=h.n;obtain⟨y,o⟩:=SU f X (aT e) (aT i) (aT k) (by rw[x];omega) (by rw[qc];omega) (by rw[qc];omega) (by rw[qc];omega);generalize fl f X (aT e) (aT i) (aT k)=T at y o⊢;rw[L9 h A w B (.inl rfl),L9 h hi D E F,x]at o;refine⟨y.trans L,fun l d=>?_,fun l j d g u=>?_,fun M j V O=>?_⟩
 ·by_cases c:l=ep
  ·subst c;rw[L5];exact H.trans (h.yJ l d)
  ·rw[L6 _ _ c];exact h.yJ l d
 ·rw[o];by_cases c:l=ep
  ·subst c;rw[L5,I j];by_cases v:b*128≤j∧j<b*128+128
   ·rw[av (by omega),av v,show l*(4*q*128)+j-(l*(4*q*128)+b*128)=j-b*128 by omega];congr 1;by_cases c7:N=0
    ·rw[av c7];exact h.TB c7 j (by rw[J];exact v.1) g
    ·rw[ak c7];exact h.ri l j d g u
   ·rw[ak (by omega),ak v];exact h.ri l j d g u
  ·rw[L6 _ _ c,ak (L8 c g (by omega))];exact h.ri l j d g u
 ·rw[o,ak (by omega)];exact h.TB M j (by omega) O
end
theorem TC{m:Int}{n sl:BitVec 32}{N Q:Nat}(B:n.toNat=N)(Y:sl.toNat=Q):dF m n sl↔GB m N Q:=by
 unfold dF GB;have h1:n=0#32↔(N:Int)=0:=by rw[gQ];omega
 have h2:BitVec.ult sl 2#32=true↔(Q:Int)<2:=by
  unfold BitVec.ult;rw[decide_eq_true_iff,Y]
  show Q<2↔_;omega
 rw[h1,h2]
section
variable{f:cw}{X ad Z:U 64}{M:Nat}{m:Int}{mem tm V C p n sl k S W:BitVec 32}{kA:Value}{P q T N Q R aq:Nat}{r:Nat→U 64}{nn:Nat→Nat}
variable(K:1≤P)(F:P≤8)(D:R<P)(H:Q<4)(L:2≤q)(O:q≤64)(em:mem.toNat=4*P*q)(o:tm.toNat=T)
variable(A:V.toNat=4*q)(E:C.toNat=q)(I:p.toNat=P)(B:n.toNat=N)(Y:sl.toNat=Q)(J:k.toNat=R)
include K F D H L O em o A E I B Y J
theorem aip(s:S.toNat=aq)(b7:aq<q)(b:W.toNat=R*(4*q)+(Q*q+aq)):∃a,a<4*q∧(eA V sl S W).toNat=R*(4*q)+a∧wC ((4*q:Nat):Int) (cJ Q q aq)=(a:Int):=by
 have t:Q*q≤3*q:=fQ _ (by omega);have i:Q≠0→1*q≤Q*q:=fun h=>fQ _ (by omega);have j:R*(4*q)≤8*256:=xd (by omega) (by omega);have d:(1#32).toNat=1:=rfl;have l:cJ Q q aq=((Q*q+aq:Nat):Int):=by unfold cJ;rw[←Bz];omega
 unfold eA wC;rw[l,oz (by omega)];by_cases c:aq=0∧Q=0
 ·obtain⟨e,g⟩:=c;refine⟨4*q-1,by omega,?_,?_⟩
  ·rw[av ⟨gQ.2 (by omega),gQ.2 (by omega)⟩,eD,kH,d,b,A,e,g,w9];omega
  ·rw[e,g,w9,V6 (by omega) (by omega)];omega
 ·have h1:1≤Q*q+aq:=by
   by_cases cs:Q=0
   ·omega
   ·have:=i cs;omega
  have h4:Q*q+aq<4*q:=by omega
  refine⟨Q*q+aq-1,by omega,?_,?_⟩
  ·rw[ak (fun h=>c ⟨by have:=gQ.1 h.1;omega,by have:=gQ.1 h.2;omega⟩),kH,d,b];generalize Q*q+aq=z at h1 h4⊢;generalize R*(4*q)=u at j⊢;omega
  ·generalize Q*q+aq=z at h1 h4⊢;rw[show(z:Int)+((4*q:Nat):Int)-1=((z-1:Nat):Int)+((4*q:Nat):Int) by omega,V9,V6 (by omega) (by omega)]
theorem aiq(i:S.toNat=aq)(b7:aq<q)(v:W.toNat=R*(4*q)+(Q*q+aq))(y:N=0→Q=0→2≤aq)(j:sP P q N Q R aq X r)
 (hi:dF m n sl→aq=0→Z=jG m mem tm n sl k) (z:dF m n sl→aq≠0→ad=eJ bw (dz (jG m mem tm n sl k)) c9):
 ∃aa g ab au,dG bw ⟨f,X,ad,Z,c9,M,m,mem,tm,V,C,p,n,sl,k,S,W,kA⟩=⟨f,aa,ab,au,c9,M,m,mem,tm,V,C,p,n,sl,k,S+1#32,W+1#32,kA⟩∧
  hY P R ⟨m,T,((4*q:Nat):Int),N,Q,q,aq,nn,r⟩=⟨m,T,((4*q:Nat):Int),N,Q,q,((aq+1:Nat):Int),nn,g⟩∧sP P q N Q R (aq+1) aa g∧((∀l,l≠R→g l=r l)∧∀a,a/128/q≠Q→aK (g R) a=aK (r R) a)∧(dF m n sl→ab=eJ bw (dz (jG m mem tm n sl k)) c9):=by
 obtain⟨ae,af,ag,aw⟩:=aip K F D H L O em o A E I B Y J i b7 v;have aS:Q*q≤3*q:=fQ _ (by omega);have ax:Q≠0→1*q≤Q*q:=fun h=>fQ _ (by omega);have ah:cJ Q q aq=((Q*q+aq:Nat):Int):=by unfold cJ;rw[←Bz];omega
 have ai:dK (cJ Q q aq)=(Q*q+aq)*128:=by rw[ah,GO,eC]
 have aj:lF (r R) ((4*q:Nat):Int) (cJ Q q aq)=rowAt (r R) (ae*128):=by unfold lF;rw[aw,GO,eC]
 have ay:rowAt X (aT (eA V sl S W))=rowAt (r R) (ae*128):=L9 j ag D af (.inl rfl);have aA:(if dF m n sl then gD (if S=0#32 then eJ bw (dz Z) c9 else ad) S else fZ X (eA V sl S W))=c8 m T P ((4*q:Nat):Int) N R Q aq (lF (r R) ((4*q:Nat):Int) (cJ Q q aq)):=by
  unfold c8 Dk;by_cases c:dF m n sl
  ·rw[av c,av ((TC B Y).1 c)];have aB:(if S=0#32 then eJ bw (dz Z) c9 else ad)=q6 bw m T P ((4*q:Nat):Int) N R Q aq:=by
    rw[←ain em o B Y J (by omega)];by_cases b:aq=0
    ·rw[av (gQ.2 (by omega)),hi c b]
    ·rw[ak (fun h=>b (by have:=gQ.1 h;omega)),z c b]
   rw[aB];unfold gD AO;congr 1;have aC:(S%128#32).toNat=aq:=by
    rw[ow,i,show(128#32).toNat=128 from rfl];omega
   rw[aC,oz (by omega)];omega
  ·rw[ak c,ak (fun h=>c ((TC B Y).2 h)),aj,←ay]
   show X.l.getD (aT (eA V sl S W)+0) 0#64=_;exact(q3 X (aT (eA V sl S W)) (by omega:0<128)).symm
 have s:dG bw ⟨f,X,ad,Z,c9,M,m,mem,tm,V,C,p,n,sl,k,S,W,kA⟩=⟨f,fl f X (aT W) (aT (eA V sl S W)) (aT (cq (if dF m n sl then gD (if S=0#32 then eJ bw (dz Z) c9 else ad) S else fZ X (eA V sl S W)) V C p n sl k S)),(if dF m n sl∧S=0#32 then eJ bw (dz Z) c9 else ad),(if dF m n sl∧S=0#32 then dz Z else Z),c9,M,m,mem,tm,V,C,p,n,sl,k,S+1#32,W+1#32,kA⟩:=rfl;rw[aA]at s;obtain⟨aD,aE,aG,d⟩:=ahC P R m T ((4*q:Nat):Int) N Q q aq nn r (by rw[ai,j.yJ R D];omega) (by
  rintro⟨aH,al⟩;rw[ah]at al;by_cases cs:Q=0
  ·have:=y (by omega) cs;omega
  ·have:=ax cs;omega)
 rw[aj,ai]at d;have aI:gP P R m T ((4*q:Nat):Int) N Q q aq r=(j4 (c8 m T P ((4*q:Nat):Int) N R Q aq (lF (r R) ((4*q:Nat):Int) (cJ Q q aq))) P N R Q).toNat:=rfl;have aJ:Dp c8 P R m T ((4*q:Nat):Int) N Q q aq r=n7 (c8 m T P ((4*q:Nat):Int) N R Q aq (lF (r R) ((4*q:Nat):Int) (cJ Q q aq))) P ((4*q:Nat):Int) N R Q aq:=rfl;rw[aI,aJ]at d;generalize c8 m T P ((4*q:Nat):Int) N R Q aq (lF (r R) ((4*q:Nat):Int) (cJ Q q aq))=w at s d;obtain⟨am,aL,an⟩:=ahK (x:=w) K F D H b7 L O y A E I B Y J i;obtain⟨t,ao,aU,ap,u,e⟩:=Tm (x:=w) (ln:=V) (az:=C) (p:=p) (n:=n) (sl:=sl) (k:=k) (ix:=S) (by omega) (by omega) (by omega) (by omega) (by omega) (by omega) (by rw[A,E]) (by rw[I,A];have:P*(4*q)≤8*256:=xd F (by omega);omega);rw[am,A]at u;rw[A]at ap;have ar:(j4 w P N R Q).toNat=t:=by
  have aM:((j4 w P N R Q).toNat*(4*q)+(n7 w P ((4*q:Nat):Int) N R Q aq).toNat)/(4*q)=(j4 w P N R Q).toNat:=by
   rw[gU,Ih (by omega),Bj an];rfl
  have aN:(t*(4*q)+ao)/(4*q)=t:=by rw[gU,Ih (by omega),Bj ap];rfl
  rw[←aM,u,aN]
 have aO:(n7 w P ((4*q:Nat):Int) N R Q aq).toNat=ao:=by rw[ar]at u;omega
 rw[GO]at d;refine⟨_,upd r R aD,_,_,s,?_,?_,⟨fun l aP=>L6 _ _ aP,fun a aQ=>?_⟩,?_⟩
 ·rw[aE];rfl
 ·refine aio j D H b7 v ag af am aL an ?_ aG fun a=>?_
  ·rw[ar,aO];rcases e with e|e
   ·exact .inl (by omega)
   ·rw[E,Y]at e;exact .inr e
  ·rw[d a];by_cases c7:N=0
   ·rw[av c7,av (by omega:(N:Int)=0)]
   ·rw[ak c7,ak (by omega:¬(N:Int)=0)]
 ·rw[L5,d a,ak];rintro⟨aH,al⟩;refine aQ (Nat.div_eq_of_lt_le ?_ ?_)
  ·omega
  ·rw[jR];omega
 ·intro c;by_cases b:aq=0
  ·rw[av ⟨c,gQ.2 (by omega)⟩,hi c b]
  ·rw[ak (fun h=>b (by have:=gQ.1 h.2;omega)),z c b]
end
theorem Dv:c9.n=128:=by rw[TA];exact nh
theorem TD(m:Int)(mem tm n sl k:BitVec 32):(jG m mem tm n sl k).n=128:=by kernel_rfl
theorem air(v:U 64):(dz v).n=128:=by
 show((List.range 128).map _).length=128;rw[lQ,Bu]
section
variable{f:cw}{X ad B:U 64}{M:Nat}{m:Int}{mem tm S V p n sl k W Y:BitVec 32}{s:Value}{P q T N R Q aq:Nat}{r:Nat→U 64}{nn:Nat→Nat}
variable(F:1≤P)(H:P≤8)(I:Q<P)(J:R<4)(K:2≤q)(L:q≤64)(em:mem.toNat=4*P*q)(O:tm.toNat=T)
variable(C:S.toNat=4*q)(Z:V.toNat=q)(o:p.toNat=P)(D:n.toNat=N)(A:sl.toNat=R)(E:k.toNat=Q)
include F H I J K L em O C Z o D A E
def iM(q R Q:Nat)(r b:Nat→U 64):Prop:=(∀l,l≠Q→b l=r l)∧∀a,a/128/q≠R→aK (b Q) a=aK (r Q) a
theorem Ma:∀(t aq:Nat) (X ad B:U 64) (W Y:BitVec 32) (r:Nat→U 64),aq+t=q→W.toNat=aq→Y.toNat=Q*(4*q)+(R*q+aq)→(N=0→R=0→2≤aq)→sP P q N R Q aq X r→
 (dF m n sl→aq=0→B=jG m mem tm n sl k)→(dF m n sl→aq≠0→ad=eJ bw (dz (jG m mem tm n sl k)) c9)→
 sP P q N R Q q (iter (dG bw) t ⟨f,X,ad,B,c9,M,m,mem,tm,S,V,p,n,sl,k,W,Y,s⟩).X (iter (hY P Q) t ⟨m,T,((4*q:Nat):Int),N,R,q,aq,nn,r⟩).r∧
  iM q R Q r (iter (hY P Q) t ⟨m,T,((4*q:Nat):Int),N,R,q,aq,nn,r⟩).r
 |0,aq,X,ad,B,W,Y,r,b7,d,e,g,h,hi,i=>by
  have x:aq=q:=by omega
  subst x;exact⟨h,fun _ _=>rfl,fun _ _=>rfl⟩
 |t+1,aq,X,ad,B,W,Y,r,b7,d,e,g,h,hi,i=>by
  have aj:R*q≤3*q:=fQ _ (by omega);have ak:Q*(4*q)≤8*256:=xd (by omega) (by omega);obtain⟨y,z,aa,ab,h1,h2,h3,⟨ae,af⟩,h4⟩:=aiq (f:=f) (M:=M) (kA:=s) (nn:=nn) F H I J K L em O C Z o D A E d (by omega) e g h hi i;have j:(1#32).toNat=1:=rfl
  show sP P q N R Q q (iter (dG bw) t (dG bw _)).X (iter (hY P Q) t (hY P Q _)).r∧iM q R Q r (iter (hY P Q) t (hY P Q _)).r;rw[h1,h2];obtain⟨ag,ah,ai⟩:=Ma t (aq+1) y aa ab (W+1#32) (Y+1#32) z (by omega) (by rw[eD,j,d];omega) (by rw[eD,j,e];omega) (fun a b=>by have:=g a b;omega) h3 (fun _ c=>absurd c (by omega)) (fun c _=>h4 c);exact⟨ag,fun l u=>(ah l u).trans (ae l u),fun v w=>(ai v w).trans (af v w)⟩
theorem ais(e:sP P q N R Q (if N=0∧R=0 then 2 else 0) X r):
 sP P q N R Q q (lH f X M m mem tm S V p n sl k) (uf P Q ⟨m,T,((4*q:Nat):Int),N,R,nn,r⟩).r∧iM q R Q r (uf P Q ⟨m,T,((4*q:Nat):Int),N,R,nn,r⟩).r:=by
 have ag:R*q≤3*q:=fQ _ (by omega);have ah:Q*(4*q)≤8*256:=xd (by omega) (by omega);have aa:((4*q:Nat):Int).tdiv 4=(q:Int):=by rw[show((4*q:Nat):Int)=(q:Int)*4 by omega];exact Es _ (by decide)
 have j:n=0#32↔N=0:=by rw[gQ,D]
 have l:sl=0#32↔R=0:=by rw[gQ,A]
 have u:(sl*V).toNat=R*q:=by rw[iG,A,Z];exact dM (by omega)
 have v:(k*S).toNat=Q*(4*q):=by rw[iG,E,C];exact dM (by omega)
 have ab:uf P Q ⟨m,T,((4*q:Nat):Int),N,R,nn,r⟩=iter (hY P Q) q ⟨m,T,((4*q:Nat):Int),N,R,q,((0:Nat):Int),nn,r⟩:=by
  unfold uf;simp only;rw[aa,show((q:Int)-0).toNat=q by omega];rfl
 have ae:lH f X M m mem tm S V p n sl k=(iter (dG bw) (q-(lG n sl).toNat) ⟨f,X,dg (rf m mem tm n sl k),dg (pq m mem tm n sl k),c9,M,m,mem,tm,S,V,p,n,sl,k,lG n sl,k*S+sl*V+lG n sl,undef⟩).X:=by
  unfold lH k6 d2 d44;simp only;rw[Z,o7 Dv]
 rw[ab,ae];have w:dF m n sl→sO m mem tm n sl k=jG m mem tm n sl k:=fun c=>av c;by_cases c:N=0∧R=0
 ·have d:n=0#32∧sl=0#32:=⟨j.2 c.1,l.2 c.2⟩;have ex:lG n sl=2#32:=av d;have x:(2#32).toNat=2:=rfl;rw[ex,x];rw[av c]at e;obtain⟨t,rfl⟩:∃t,q=t+2:=⟨q-2,by omega⟩;have af:iter (hY P Q) (t+2) ⟨m,T,((4*(t+2):Nat):Int),N,R,((t+2:Nat):Int),((0:Nat):Int),nn,r⟩=iter (hY P Q) t ⟨m,T,((4*(t+2):Nat):Int),N,R,((t+2:Nat):Int),((2:Nat):Int),nn,r⟩:=by
   show iter (hY P Q) t (hY P Q (hY P Q _))=_;have y:∀i:Nat,i<2→((N:Int)=0∧cJ R ((t+2:Nat):Int) i<2):=fun i hi=>⟨by omega,by unfold cJ;rw[c.2];omega⟩;rw[Ti _ _ _ _ _ _ _ _ _ _ _ (y 0 (by omega)),show(((0:Nat):Int)+1)=((1:Nat):Int) by omega,Ti _ _ _ _ _ _ _ _ _ _ _ (y 1 (by omega)),show(((1:Nat):Int)+1)=((2:Nat):Int) by omega]
  rw[af,show t+2-2=t by omega];refine Ma F H I J K L em O C Z o D A E t 2 X _ _ _ _ r (by omega) rfl ?_ (fun _ _=>aX _) e (fun _ h=>absurd h (by omega)) (fun g _=>?_)
  ·rw[eD,eD,u,v,x];omega
  ·have:rf m mem tm n sl k=eJ bw (dz (jG m mem tm n sl k)) c9:=by
    unfold rf;rw[av ⟨d.1,d.2,g⟩,w g]
   rw[this];refine o7 ?_;unfold eJ;exact yh _ _
 ·have d:¬(n=0#32∧sl=0#32):=fun h=>c ⟨j.1 h.1,l.1 h.2⟩;have ex:lG n sl=0#32:=ak d;have z:(0#32).toNat=0:=rfl;rw[ex,z,gz];rw[ak c]at e;refine Ma F H I J K L em O C Z o D A E q 0 X _ _ _ _ r (by omega) rfl ?_ (fun a b=>absurd ⟨a,b⟩ c) e (fun g _=>?_) (fun _ h=>absurd rfl h)
  ·rw[eD,eD,u,v,z];omega
  ·have:pq m mem tm n sl k=jG m mem tm n sl k:=by
    unfold pq;rw[ak (fun h=>d ⟨h.1,h.2.1⟩),w g]
   rw[this];exact o7 (TD ..)
end
def gy:List Int:=[0,1,2,3,4,5,6,7,8,9,10,11,12,13,14,15,14,10,4,8,9,15,13,6,1,12,0,2,11,7,5,3,11,8,12,0,5,2,15,13,10,14,3,6,7,1,9,4,7,9,3,1,13,12,11,14,2,6,5,10,4,0,15,8,9,0,5,7,2,4,10,15,14,1,11,12,6,8,3,13,2,12,6,10,0,11,8,3,4,13,7,5,15,14,1,9,12,5,1,15,14,13,4,10,0,7,6,3,9,2,8,11,13,11,7,14,12,1,3,9,5,0,15,4,8,6,2,10,6,15,14,9,11,3,0,8,12,2,13,7,1,4,10,5,10,2,8,4,7,6,1,5,15,11,9,14,3,12,13,0]
def wH(e:BitVec 64)(n:Nat):BitVec 64:=e>>>n|||e<<<(64-n)
def rj(a b c d m n:BitVec 64):so:=
 let e:=a+b+m;let h:=wH (d^^^e) 32;let i:=c+h;let j:=wH (b^^^i) 24;let k:=e+j+n;let d2:=wH (h^^^k) 16;let l:=i+d2
 ⟨k,wH (j^^^l) 63,l,d2⟩
def sQ(h:bp)(e i aO:BitVec 64)(m:U 64):bp:=Ru rj h e i aO m
def jo(p k:Int):bT Unit where
 d0:=()
 read:=fun a e=>match a,e with
  |[.num (.int .u64 (.c h))],[]=>if h=p then some ()else none
  |_,_=>none
 args:=fun _=>[.int .u64 (.c p)]
 heap:=fun _=>[]
 val:=fun _=>.int .u64 (.c k)
 aS:=fun _=>true
def ait(p k:Int)(a:List af)(e:List ah)(d:Unit)(h:(jo p k).read a e=some d):a=(jo p k).args d∧e=(jo p k).heap d:=by
 simp only[jo]at h;split at h
 ·split at h
  ·rename_i i;subst i;exact⟨rfl,rfl⟩
  ·cases h
 ·cases h
def wI{p k:Int}(h:qO 0 (some []) [] (.int .u64 (.c k)) (bY cr aQ 95 [.int .u64 (.c p)] ⟨[],bJ,[],[]⟩)=some ([],.int .u64 (.c k),[])):br 95 (jo p k).spec:=by
 refine(jo p k).ok (dm fL (cK _)) (ait p k) ?_;intro _ _;exact⟨[],some [],_,h,fun _ e=>by cases e⟩
def aiu:br 95 (jo 2 7640891576956012808).spec:=wI (by kernel_rfl)
def aiv:br 95 (jo 3 13503953896175478587).spec:=wI (by kernel_rfl)
def aiw:br 95 (jo 5 4354685564936845355).spec:=wI (by kernel_rfl)
def aix:br 95 (jo 7 11912009170470909681).spec:=wI (by kernel_rfl)
def aiy:br 95 (jo 11 5840696475078001361).spec:=wI (by kernel_rfl)
def aiz:br 95 (jo 13 11170449401992604703).spec:=wI (by kernel_rfl)
def aiA:br 95 (jo 17 2270897969802886507).spec:=wI (by kernel_rfl)
def aiB:br 95 (jo 19 6620516959819538809).spec:=wI (by kernel_rfl)
def TE:aA.Spec:=fK (jo 2 7640891576956012808).spec (fK (jo 3 13503953896175478587).spec (fK (jo 5 4354685564936845355).spec (fK (jo 7 11912009170470909681).spec (fK (jo 11 5840696475078001361).spec (fK (jo 13 11170449401992604703).spec (fK (jo 17 2270897969802886507).spec ((jo 19 6620516959819538809).spec)))))))
def aiC:br 95 TE:=dy.or aiu (dy.or aiv (dy.or aiw (dy.or aix (dy.or aiy (dy.or aiz (dy.or aiA (aiB)))))))
def Mb:FuncId→Option aA.Spec|95=>some TE|_=>none
def aiD:∀f e,Mb f=some e→br f e:=by
 intro f e h;unfold Mb at h;split at h
 ·cases h;exact aiC
 ·cases h
structure TF where
 unit:Unit:=()
def Mc(a:List af)(e:List ah):Option TF:=
 match a with
 |[]=>
  match e with
  |[]=>some ⟨()⟩|_=>none
 |_=>none
def A0:bT TF where
 d0:=⟨()⟩
 read:=Mc
 args:=fun⟨_⟩=>[]
 heap:=fun⟨_⟩=>[]
 val:=fun⟨_⟩=>(.agg [.num (.int .u64 (.c 7640891576956012808)),.num (.int .u64 (.c 13503953896175478587)),.num (.int .u64 (.c 4354685564936845355)),.num (.int .u64 (.c 11912009170470909681)),.num (.int .u64 (.c 5840696475078001361)),.num (.int .u64 (.c 11170449401992604703)),.num (.int .u64 (.c 2270897969802886507)),.num (.int .u64 (.c 6620516959819538809))])
 aS:=fun⟨_⟩=>decide (True)
def aiE:A0.fS ⟨()⟩ (some []) (bY Mb aQ 92) [] (bE 8 255):=by show _=_;kernel_rfl
def aiF:A0.Rd:=by
 intro a e d h;change Mc a e=some d at h;unfold Mc at h;repeat' split at h
 all_goals cases h
 exact⟨rfl,rfl⟩
def TG:br 92 A0.spec:=by
 refine A0.ok (dm aiD (cK _)) aiF ?_;rintro⟨_⟩ e;refine⟨[],(some []),_,aiE,?_⟩
 repeat'(refine ax ?_ ?_)
 all_goals first|exact aV|rfl|(simp only[cz]<;>omega)
structure TH where
 v:BitVec 64
def Md(a:List af)(e:List ah):Option TH:=
 match a with
 |[.agg [.num (.int .i64 (.c 64)),.num (.int .i64 (.c 32)),.num (.int .i64 (.c 24)),.num (.int .i64 (.c 16)),.num (.int .i64 (.c 63)),.num (.int .i64 (.c 12))],.num (.au v)]=>
  match e with
  |[]=>some ⟨v⟩|_=>none
 |_=>none
def uj:bT TH where
 d0:=⟨0⟩
 read:=Md
 args:=fun⟨v⟩=>[.agg [.J 64,.J 32,.J 24,.J 16,.J 63,.J 12],.num (.au v)]
 heap:=fun⟨_⟩=>[]
 val:=fun⟨v⟩=>(.au v)
 aS:=fun⟨_⟩=>decide (True)
def aiG(v:BitVec 64):uj.fS ⟨v⟩ (some []) (bY cr aQ 82) [] []:=by show _=_;kernel_rfl
def aiH:uj.Rd:=by
 intro a e d h;change Md a e=some d at h;unfold Md at h;repeat' split at h
 all_goals cases h
 exact⟨rfl,rfl⟩
def Dw:br 82 uj.spec:=by
 refine uj.ok (dm fL (cK _)) aiH ?_;rintro⟨v⟩ e;refine⟨[],(some []),_,aiG v,?_⟩
 repeat'(refine ax ?_ ?_)
 all_goals first|exact aV|rfl|(simp only[cz]<;>omega)
def Me:FuncId→Option aA.Spec|82=>some uj.spec|_=>none
def aiI:∀f e,Me f=some e→br f e:=by
 intro f e h;unfold Me at h;split at h
 ·cases h;exact Dw
 ·cases h
def rm(p:Int)(n:Nat):bT (BitVec 64)where
 d0:=0
 read:=fun a e=>match a,e with
  |[.agg [.num (.int .i64 (.c 64)),.num (.int .i64 (.c 32)),.num (.int .i64 (.c 24)),.num (.int .i64 (.c 16)),.num (.int .i64 (.c 63)),.num (.int .i64 (.c 12))],.num (.au v),.num (.int .i64 (.c h))],[]=>if h=p then some v else none
  |_,_=>none
 args:=fun v=>[.agg [.J 64,.J 32,.J 24,.J 16,.J 63,.J 12],.au v,.J p]
 heap:=fun _=>[]
 val:=fun v=>.au (wH v n)
 aS:=fun _=>true
def aiJ(p:Int)(n:Nat)(a:List af)(e:List ah)(d:BitVec 64)(h:(rm p n).read a e=some d):a=(rm p n).args d∧e=(rm p n).heap d:=by
 simp only[rm]at h;split at h
 ·split at h
  ·rename_i i;subst i;cases h;exact⟨rfl,rfl⟩
  ·cases h
 ·cases h
def GY{p:Int}{n:Nat}(h:∀v,qO 0 (some []) [] (.au (wH v n)) (bY Me aQ 96 ((rm p n).args v) ⟨[],bJ,[],[]⟩)=some ([],.au (wH v n),[true])):br 96 (rm p n).spec:=by
 refine(rm p n).ok (dm aiI (cK _)) (aiJ p n) ?_;intro v _;exact⟨[],some [],_,h v,ax rfl aV⟩
def TI:aA.Spec:=fK (rm 32 32).spec (fK (rm 24 24).spec (fK (rm 16 16).spec ((rm 63 63).spec)))
def aiK:br 96 TI:=dy.or (GY fun v=>by kernel_rfl) (dy.or (GY fun v=>by kernel_rfl) (dy.or (GY fun v=>by kernel_rfl) ((GY fun v=>by kernel_rfl))))
def Mf:FuncId→Option aA.Spec|82=>some uj.spec|96=>some TI|_=>none
def aiL:∀f e,Mf f=some e→br f e:=by
 intro f e h;unfold Mf at h;split at h
 ·cases h;exact Dw
 ·cases h;exact aiK
 ·cases h
structure TJ where
 (v:kr)(x y:BitVec 64)
def Mg(v:kr):List af:=[.au v.dQ,.au v.ew,.au v.ey,.au v.ez,.au v.e4,.au v.e5,.au v.e6,.au v.e7,.au v.xY,.au v.xZ,.au v.x3,.au v.x4,.au v.x5,.au v.x6,.au v.x7,.au v.x8]
def Mh(l:List af):Option kr:=match l with|[.num (.au e),.num (.au h),.num (.au i),.num (.au j),.num (.au gI),.num (.au k),.num (.au m),.num (.au n),.num (.au o),.num (.au p),.num (.au q),.num (.au r),.num (.au s),.num (.au t),.num (.au u),.num (.au v)]=>some ⟨e,h,i,j,gI,k,m,n,o,p,q,r,s,t,u,v⟩|_=>none
def aiM{l:List af}{v:kr}(h:Mh l=some v):l=Mg v:=by
 unfold Mh at h;split at h
 ·cases h;rfl
 ·cases h
def k9(a b c d:Int)(f:kr→BitVec 64→BitVec 64→so)(g:kr→so→kr):bT TJ where
 d0:=⟨⟨0,0,0,0,0,0,0,0,0,0,0,0,0,0,0,0⟩,0,0⟩
 read:=fun z i=>match z,i with
  |[.agg [.num (.int .i64 (.c 64)),.num (.int .i64 (.c 32)),.num (.int .i64 (.c 24)),.num (.int .i64 (.c 16)),.num (.int .i64 (.c 63)),.num (.int .i64 (.c 12))],.ref (.ptr 0 (.c 0)),.num (.int .i64 (.c j)),.num (.int .i64 (.c k)),.num (.int .i64 (.c m)),.num (.int .i64 (.c n)),.num (.au e),.num (.au h)],[⟨.gen l,.own⟩]=>
   if j=a∧k=b∧m=c∧n=d then match Mh l with|some v=>some ⟨v,e,h⟩|none=>none
   else none
  |_,_=>none
 args:=fun⟨_,e,h⟩=>[.agg [.J 64,.J 32,.J 24,.J 16,.J 63,.J 12],.ptr 0 (.c 0),.J a,.J b,.J c,.J d,.au e,.au h]
 heap:=fun⟨v,_,_⟩=>[⟨.gen (Mg v),.own⟩]
 out:=fun⟨v,e,h⟩=>[⟨.gen (Mg (g v (f v e h))),.own⟩]
 val:=fun _=>.obj .bx []
 aS:=fun _=>true
section
variable{a b c d:Int}{f:kr→BitVec 64→BitVec 64→so}{g:kr→so→kr}
def aiN(z:List af)(i:List ah)(e:TJ)(h:(k9 a b c d f g).read z i=some e):z=(k9 a b c d f g).args e∧i=(k9 a b c d f g).heap e:=by
 simp only[k9]at h;split at h
 ·split at h
  ·rename_i q;obtain⟨rfl,rfl,rfl,rfl⟩:=q;split at h
   ·rename_i j;obtain rfl:=aiM j;cases h;exact⟨rfl,rfl⟩
   ·cases h
  ·cases h
 ·cases h
def wJ(h:∀v e i,qO 1 (some [0]) ((k9 a b c d f g).out ⟨v,e,i⟩) (.bx []) (bY Mf aQ 94 ((k9 a b c d f g).args ⟨v,e,i⟩) ⟨(k9 a b c d f g).heap ⟨v,e,i⟩,bJ,[],[]⟩)=some ((k9 a b c d f g).out ⟨v,e,i⟩,.obj .bx [],(bE 8 255))):br 94 (k9 a b c d f g).spec:=by
 refine(k9 a b c d f g).ok (dm aiL (cK _)) aiN ?_;rintro⟨v,e,i⟩ _;refine⟨[],some [0],_,h v e i,?_⟩
 repeat'(refine ax ?_ ?_)
 all_goals first|exact aV|rfl
end
def TK:aA.Spec:=fK (k9 0 4 8 12 (fun v=>rj v.dQ v.e4 v.xY v.x5) fun v q=>{v with dQ:=q.a,e4:=q.b,xY:=q.c,x5:=q.d}).spec (fK (k9 1 5 9 13 (fun v=>rj v.ew v.e5 v.xZ v.x6) fun v q=>{v with ew:=q.a,e5:=q.b,xZ:=q.c,x6:=q.d}).spec (fK (k9 2 6 10 14 (fun v=>rj v.ey v.e6 v.x3 v.x7) fun v q=>{v with ey:=q.a,e6:=q.b,x3:=q.c,x7:=q.d}).spec (fK (k9 3 7 11 15 (fun v=>rj v.ez v.e7 v.x4 v.x8) fun v q=>{v with ez:=q.a,e7:=q.b,x4:=q.c,x8:=q.d}).spec (fK (k9 0 5 10 15 (fun v=>rj v.dQ v.e5 v.x3 v.x8) fun v q=>{v with dQ:=q.a,e5:=q.b,x3:=q.c,x8:=q.d}).spec (fK (k9 1 6 11 12 (fun v=>rj v.ew v.e6 v.x4 v.x5) fun v q=>{v with ew:=q.a,e6:=q.b,x4:=q.c,x5:=q.d}).spec (fK (k9 2 7 8 13 (fun v=>rj v.ey v.e7 v.xY v.x6) fun v q=>{v with ey:=q.a,e7:=q.b,xY:=q.c,x6:=q.d}).spec ((k9 3 4 9 14 (fun v=>rj v.ez v.e4 v.xZ v.x7) fun v q=>{v with ez:=q.a,e4:=q.b,xZ:=q.c,x7:=q.d}).spec)))))))
def aiO:br 94 TK:=dy.or (wJ fun v e h=>by kernel_rfl) (dy.or (wJ fun v e h=>by kernel_rfl) (dy.or (wJ fun v e h=>by kernel_rfl) (dy.or (wJ fun v e h=>by kernel_rfl) (dy.or (wJ fun v e h=>by kernel_rfl) (dy.or (wJ fun v e h=>by kernel_rfl) (dy.or (wJ fun v e h=>by kernel_rfl) ((wJ fun v e h=>by kernel_rfl))))))))
def GZ:FuncId→Option aA.Spec|92=>some A0.spec|94=>some TK|82=>some uj.spec|_=>none
def TL:∀f e,GZ f=some e→br f e:=by
 intro f e h;unfold GZ at h;split at h
 ·cases h;exact TG
 ·cases h;exact aiO
 ·cases h;exact Dw
 ·cases h
def mK(X:U 64)(j:Nat)(c:BitVec 8)(a:Int):U 64:=X.set j (X.l.getD j 0#64|||c.setWidth 64<<<a.toNat)
def Mi(X:U 64)(j:Nat)(c:BitVec 8)(a:Int):(mK X j c a).n=X.n:=rfl
structure wK where
 (v:U 8)(X:U 64)(o iy:Nat)(n i:Int)
def aiP(d:wK):aI×List ah:=
 match d with
 |⟨v,X,a,b,n,i⟩=>(⟨[.aa,.aa,.aa,.aa,.P 2,.P 3,.J 8,.aa,.aa],[⟨14,.aq i⟩,⟨13,.aq n⟩,⟨12,.ref (.sl 0 (.s a) (.s b) none)⟩]⟩,[⟨.ag v,.ro⟩,cp,cp,⟨.bt X,.own⟩])
def sR(d:wK):wK:=
 match d with
 |⟨v,X,a,b,n,i⟩=>⟨v,mK X (0+(i.tdiv 8).toNat*1) (v.l.getD (a+i.toNat*1) 0#8) (8*(i.tmod 8)),a,b,n,i+1⟩
def Mj(a:aI)(b:List ah):Option wK:=
 match a with
 |⟨[.atom .aa,.atom .aa,.atom .aa,.atom .aa,.ref (.ptr 2 (.c 0)),.ref (.ptr 3 (.c 0)),.num (.int .i64 (.c 8)),.atom .aa,.atom .aa],[⟨14,.num (.int .i64 (.s i))⟩,⟨13,.num (.int .i64 (.s n))⟩,⟨12,.ref (.sl 0 (.s d) (.s e) none)⟩]⟩=>
  match b with
  |[⟨.ag v,.ro⟩,⟨.gen [],.bn⟩,⟨.gen [],.bn⟩,⟨.bt X,.own⟩]=>some ⟨v,X,d,e,n,i⟩|_=>none
 |_=>none
def oe:eN wK where
 d0:=⟨0,0,0,0,0,0⟩
 read:=Mj
 ay:=aiP
 next:=sR
 rem:=fun⟨_,_,_,_,n,i⟩=>(n-i).toNat
 aS:=fun⟨v,X,b,a,n,i⟩=>decide (0≤i∧i≤n∧n=a∧a≤128∧b+a≤v.n∧X.n=16)
 out:=.exit 0
def aiQ(v:U 8)(X:U 64)(a b:Nat)(n i:Int):oe.cB ⟨v,X,a,b,n,i⟩ (b6 4) (oe.ay (sR ⟨v,X,a,b,n,i⟩)) (bZ cr aQ 81 0) [true] .normal [bV (i+1),decide ((0+((((Int.tdiv i 8)):Int).toNat*1))<X.n),(decide (0≤(Int.tdiv i 8))&&decide ((Int.tdiv i 8)<(16:Int))),decide ((0:Int)≤(8*(Int.tmod i 8))),bV (8*(Int.tmod i 8)),decide ((8:Int)≠0),decide ((0+((((Int.tdiv i 8)):Int).toNat*1))<X.n),(decide (0≤(Int.tdiv i 8))&&decide ((Int.tdiv i 8)<(16:Int))),decide ((0≤i∧((0:Int)<8∧i≤9223372036854775807))),decide ((a+(i.toNat*1))<v.n),(decide (0≤i)&&decide (i<(b:Int))),(decide (i<n)==true)]:=by show _=_;kernel_rfl
def aiR(v:U 8)(X:U 64)(a b:Nat)(n i:Int):oe.cB ⟨v,X,a,b,n,i⟩ none (oe.fin ⟨v,X,a,b,n,i⟩) (bZ cr aQ 81 0) [false] oe.out [(decide (i<n)==false)]:=by show _=_;kernel_rfl
def aiS:oe.Rd:=by
 intro a b d h;change Mj a b=some d at h;unfold Mj at h;repeat' split at h
 all_goals cases h
 rfl
def aiT:dc Tryz.prog bB (aj 81) (bN Tryz.prog 81) (bg Tryz.prog 81 0) (bZ cr aQ 81 0):=iw fL (cK _) 81 0 Rr (by rw[show(cH Tryz.prog 81).length=1 by kernel_rfl];omega)
def aiU:eH Tryz.prog bB (aj 81) (bN Tryz.prog 81) (bg Tryz.prog 81 0) oe.T.told:=by
 refine oe.j0 aiT (by intro k e;have e:k∈([]:List ah):=e;cases e) (by intro h;cases h) aiS ?_ ?_
 ·rintro⟨v,X,a,b,n,i⟩ g c d;have c:=aZ c;have d:(n-i).toNat=g+1:=d;have j:oe.next ⟨v,X,a,b,n,i⟩=sR ⟨v,X,a,b,n,i⟩:=rfl;rw[j];refine⟨⟨[true],(b6 4),_,aiQ v X a b n i,?_⟩,?_,?_,(show(oe.ay (sR ⟨v,X,a,b,n,i⟩)).2.length=4 by kernel_rfl).trans (show(oe.ay ⟨v,X,a,b,n,i⟩).2.length=4 by kernel_rfl).symm⟩
  ·have h1:i.tdiv 8=i/8:=pK (by omega);have h2:i.tmod 8=i%8:=oz (by omega)
   repeat'(refine ax ?_ ?_)
   all_goals first|exact aV|rfl|(simp only[bV,cz,h1,h2]<;>omega)
  ·have f:oe.aS (sR ⟨v,X,a,b,n,i⟩)=decide (0≤(i+1:Int)∧(i+1:Int)≤n∧n=b∧b≤128∧a+b≤v.n∧(mK X (0+(i.tdiv 8).toNat*1) (v.l.getD (a+i.toNat*1) 0#8) (8*(i.tmod 8)):U 64).n=16):=by kernel_rfl
   refine f.trans (bl ?_);have m:=Mi X (0+(i.tdiv 8).toNat*1) (v.l.getD (a+i.toNat*1) 0#8) (8*(i.tmod 8));omega
  ·have f:oe.rem (sR ⟨v,X,a,b,n,i⟩)=((n-(i+1:Int)).toNat):=by kernel_rfl
   refine f.trans ?_;omega
 ·rintro⟨v,X,a,b,n,i⟩ c d;have c:=aZ c;have d:(n-i).toNat=0:=d;refine⟨[false],none,_,aiR v X a b n i,?_⟩
  repeat'(refine ax ?_ ?_)
  all_goals first|exact aV|rfl|(simp only[cz]<;>omega)
def Mk:cP:=oe.T.told
def aiV:Told 81 0 Mk:=aiU.run
def Dx:FuncId→Nat→Option cP|81,4=>some Mk|_,_=>none
def aiW:(cH Tryz.prog 81).length=1:=by kernel_rfl
def aiX(spec:FuncId→Option aA.Spec):c6 (de spec Dx) bB:=by
 refine c6.of fun f=>?_;by_cases a:f=81
 ·subst a;refine .inr ⟨by kernel_rfl,fun i hi e b=>?_⟩;have hi:i<(cH Tryz.prog 81).length:=hi;rw[aiW]at hi;have c:i=0:=by omega
  rcases c with rfl
  ·have d:(bX (bg Tryz.prog 81 0)).bind (Dx 81)=some Mk:=by kernel_rfl
   obtain rfl:=dV (d.symm.trans b);exact aiV
 ·refine .inl fun r=>?_
  show Dx f r=none;unfold Dx;split
  ·exact absurd rfl a
  ·rfl
structure Ml where
 (h:bp)(m:U 64)(lo hi:BitVec 64)
def Mm(a:List af)(b:List ah):Option Ml:=
 match a with
 |[.agg [.num (.int .i64 (.c 64)),.num (.int .i64 (.c 32)),.num (.int .i64 (.c 24)),.num (.int .i64 (.c 16)),.num (.int .i64 (.c 63)),.num (.int .i64 (.c 12))],.agg [.num (.au d),.num (.au h1),.num (.au h2),.num (.au h3),.num (.au h4),.num (.au e),.num (.au f),.num (.au g)],.agg h,.num (.au lo),.num (.au hi),.atom (.bool (.c false)),.agg i]=>
  match b with
  |[]=>
   (match mU i gy with
   |true=>
   (match jZ 16 h with
   |some m=>some ⟨⟨d,h1,h2,h3,h4,e,f,g⟩,m,lo,hi⟩|none=>none)
   |false=>none)
  |_=>none
 |_=>none
def yK:bT Ml where
 d0:=⟨⟨0,0,0,0,0,0,0,0⟩,0,0,0⟩
 read:=Mm
 args:=fun⟨h,m,lo,hi⟩=>[.agg [.J 64,.J 32,.J 24,.J 16,.J 63,.J 12],.agg [.num (.au h.dQ),.num (.au h.ew),.num (.au h.ey),.num (.au h.ez),.num (.au h.e4),.num (.au h.e5),.num (.au h.e6),.num (.au h.e7)],.agg (dS m 16),.num (.au lo),.num (.au hi),.atom (.bool (.c false)),.agg (jE gy)]
 heap:=fun⟨_,_,_,_⟩=>[]
 val:=fun⟨h,m,lo,hi⟩=>(.agg (kX (sQ h lo hi 0#64 m)))
 aS:=fun⟨_,_,_,_⟩=>decide (True)
def aiY(h:bp)(m:U 64)(lo hi:BitVec 64):yK.fS ⟨h,m,lo,hi⟩ (some []) (bY GZ aQ 80) [] (bE 97 158456325028528675187087900671):=by show _=_;kernel_rfl
def aiZ(a:List af)(b:List ah)(d:Ml)(h:yK.read a b=some d):a=yK.args d∧b=yK.heap d:=by
 replace h:Mm a b=some d:=h;unfold Mm at h;split at h
 case h_2=>cases h
 split at h
 case h_2=>cases h
 split at h
 case h_2=>cases h
 rename_i c;obtain rfl:=qQ c;split at h
 case h_2=>cases h
 rename_i e;obtain⟨rfl,_⟩:=kW e;cases h;exact⟨rfl,rfl⟩
def ai0:br 80 yK.spec:=by
 refine yK.ok (dm TL (cK _)) aiZ ?_;rintro⟨h,m,lo,hi⟩ a;refine⟨[],(some []),_,aiY h m lo hi,?_⟩
 repeat'(refine ax ?_ ?_)
 all_goals first|exact aV|rfl|(simp only[cz]<;>omega)
structure Mn where
 (h:bp)(m:U 64)(lo hi:BitVec 64)
def Mo(a:List af)(b:List ah):Option Mn:=
 match a with
 |[.agg [.num (.int .i64 (.c 64)),.num (.int .i64 (.c 32)),.num (.int .i64 (.c 24)),.num (.int .i64 (.c 16)),.num (.int .i64 (.c 63)),.num (.int .i64 (.c 12))],.agg [.num (.au d),.num (.au h1),.num (.au h2),.num (.au h3),.num (.au h4),.num (.au e),.num (.au f),.num (.au g)],.agg h,.num (.au lo),.num (.au hi),.atom (.bool (.c true)),.agg i]=>
  match b with
  |[]=>
   (match mU i gy with
   |true=>
   (match jZ 16 h with
   |some m=>some ⟨⟨d,h1,h2,h3,h4,e,f,g⟩,m,lo,hi⟩|none=>none)
   |false=>none)
  |_=>none
 |_=>none
def yL:bT Mn where
 d0:=⟨⟨0,0,0,0,0,0,0,0⟩,0,0,0⟩
 read:=Mo
 args:=fun⟨h,m,lo,hi⟩=>[.agg [.J 64,.J 32,.J 24,.J 16,.J 63,.J 12],.agg [.num (.au h.dQ),.num (.au h.ew),.num (.au h.ey),.num (.au h.ez),.num (.au h.e4),.num (.au h.e5),.num (.au h.e6),.num (.au h.e7)],.agg (dS m 16),.num (.au lo),.num (.au hi),.atom (.bool (.c true)),.agg (jE gy)]
 heap:=fun⟨_,_,_,_⟩=>[]
 val:=fun⟨h,m,lo,hi⟩=>(.agg (kX (sQ h lo hi 18446744073709551615#64 m)))
 aS:=fun⟨_,_,_,_⟩=>decide (True)
def ai1(h:bp)(m:U 64)(lo hi:BitVec 64):yL.fS ⟨h,m,lo,hi⟩ (some []) (bY GZ aQ 80) [] (bE 98 316912650057057350374175801343):=by show _=_;kernel_rfl
def ai2(a:List af)(b:List ah)(d:Mn)(h:yL.read a b=some d):a=yL.args d∧b=yL.heap d:=by
 replace h:Mo a b=some d:=h;unfold Mo at h;split at h
 case h_2=>cases h
 split at h
 case h_2=>cases h
 split at h
 case h_2=>cases h
 rename_i c;obtain rfl:=qQ c;split at h
 case h_2=>cases h
 rename_i e;obtain⟨rfl,_⟩:=kW e;cases h;exact⟨rfl,rfl⟩
def ai3:br 80 yL.spec:=by
 refine yL.ok (dm TL (cK _)) ai2 ?_;rintro⟨h,m,lo,hi⟩ a;refine⟨[],(some []),_,ai1 h m lo hi,?_⟩
 repeat'(refine ax ?_ ?_)
 all_goals first|exact aV|rfl|(simp only[cz]<;>omega)
def Mp:aA.Spec:=fK yK.spec yL.spec
def TM:br 80 Mp:=dy.or ai0 ai3
def Dy(v:U 8)(b a:Nat):wK:=iter sR (((a:Int)-0).toNat) ⟨v,U.of (List.replicate 16 0#64),b,a,(a:Int),0⟩
def cF(v:U 8)(a b:Nat):U 64:=(Dy v a b).X
def ai4(v:U 8)(a b:Nat):(Dy v a b).X.n=16:=by
 have c:∀k (d:wK),d.X.n=16→(iter sR k d).X.n=16:=by
  intro k
  induction k with
  |zero=>intro d h;exact h|succ k e=>
   intro d h;rw[gB];have:=e d h;generalize iter sR k d=f at this;obtain⟨v',X,g,j,n,i⟩:=f;exact(Mi _ _ _ _).trans this
 exact c _ _ rfl
structure TN where
 (v:U 8)(o iy:Nat)
def Mq(a:List af)(b:List ah):Option TN:=
 match a with
 |[.agg [.num (.int .i64 (.c 64)),.num (.int .i64 (.c 32)),.num (.int .i64 (.c 24)),.num (.int .i64 (.c 16)),.num (.int .i64 (.c 63)),.num (.int .i64 (.c 12))],.ref (.sl 0 (.s d) (.s e) none)]=>
  match b with
  |[⟨.ag v,.ro⟩]=>some ⟨v,d,e⟩|_=>none
 |_=>none
def A1:bT TN where
 d0:=⟨0,0,0⟩
 read:=Mq
 args:=fun⟨_,b,a⟩=>[.agg [.J 64,.J 32,.J 24,.J 16,.J 63,.J 12],.ref (.sl 0 (.s b) (.s a) none)]
 heap:=fun⟨v,_,_⟩=>[⟨.ag v,.ro⟩]
 val:=fun⟨v,b,a⟩=>(.agg (dS (cF v b a) 16))
 aS:=fun⟨v,b,a⟩=>decide (a≤128∧b+a≤v.n)
def ai5(v:U 8)(b a:Nat):A1.fS ⟨v,b,a⟩ (some [0]) (bY cr Dx 81) [] [decide (16≤(Dy v b a).X.n),decide (((0:Int)≤0∧(0≤(a:Int)∧((a:Int)=(a:Int)∧(a≤128∧((b+a)≤v.n∧(16:Nat)=16))))))]:=by show _=_;kernel_rfl
def ai6:A1.Rd:=by
 intro a b d h;change Mq a b=some d at h;unfold Mq at h;repeat' split at h
 all_goals cases h
 exact⟨rfl,rfl⟩
def TO:br 81 A1.spec:=by
 refine A1.ok (dm fL (aiX _)) ai6 ?_;rintro⟨v,a,b⟩ c;have c:=aZ c;refine⟨[],(some [0]),_,ai5 v a b,?_⟩;have d:=ai4 v a b
 repeat'(refine ax ?_ ?_)
 all_goals first|exact aV|rfl|(simp only[cz,d]<;>omega)
def G0:FuncId→Option aA.Spec|80=>some Mp|81=>some A1.spec|92=>some A0.spec|82=>some uj.spec|_=>none
def TP:∀f a,G0 f=some a→br f a:=by
 intro f a h;unfold G0 at h;split at h
 ·cases h;exact TM
 ·cases h;exact TO
 ·cases h;exact TG
 ·cases h;exact Dw
 ·cases h
structure TQ where
 unit:Unit:=()
def Mr(a:List af)(b:List ah):Option TQ:=
 match a with
 |[.agg [.num (.int .i64 (.c 64)),.num (.int .i64 (.c 32)),.num (.int .i64 (.c 24)),.num (.int .i64 (.c 16)),.num (.int .i64 (.c 63)),.num (.int .i64 (.c 12))]]=>
  match b with
  |[]=>some ⟨()⟩|_=>none
 |_=>none
def Dz:bT TQ where
 d0:=⟨()⟩
 read:=Mr
 args:=fun⟨_⟩=>[.agg [.J 64,.J 32,.J 24,.J 16,.J 63,.J 12]]
 heap:=fun⟨_⟩=>[]
 val:=fun⟨_⟩=>(.agg [.num (.int .u64 (.c 7640891576956012808)),.num (.int .u64 (.c 13503953896175478587)),.num (.int .u64 (.c 4354685564936845355)),.num (.int .u64 (.c 11912009170470909681)),.num (.int .u64 (.c 5840696475078001361)),.num (.int .u64 (.c 11170449401992604703)),.num (.int .u64 (.c 2270897969802886507)),.num (.int .u64 (.c 6620516959819538809))])
 aS:=fun⟨_⟩=>decide (True)
def ai7:Dz.fS ⟨()⟩ (some []) (bY G0 aQ 78) [] [true]:=by show _=_;kernel_rfl
def ai8:Dz.Rd:=by
 intro a b d h;change Mr a b=some d at h;unfold Mr at h;repeat' split at h
 all_goals cases h
 exact⟨rfl,rfl⟩
def ai9:br 78 Dz.spec:=by
 refine Dz.ok (dm TP (cK _)) ai8 ?_;rintro⟨_⟩ a;refine⟨[],(some []),_,ai7,?_⟩
 repeat'(refine ax ?_ ?_)
 all_goals first|exact aV|rfl|(simp only[cz]<;>omega)
def pE(n:Int):U 8:=U.of (BitVec.ofInt 8 n::0#8::1#8::1#8::List.replicate 60 0#8)
structure TR where
 n:Int
def Ms(a:List af)(b:List ah):Option TR:=
 match a with
 |[.agg [.num (.int .i64 (.c 64)),.num (.int .i64 (.c 32)),.num (.int .i64 (.c 24)),.num (.int .i64 (.c 16)),.num (.int .i64 (.c 63)),.num (.int .i64 (.c 12))],.agg [.num (.int .i64 (.s n)),.num (.int .i64 (.c 0)),.num (.int .i64 (.c 1)),.num (.int .i64 (.c 1)),.num (.int .u64 (.c 0)),.num (.int .u64 (.c 0)),.num (.int .u64 (.c 0)),.num (.int .i64 (.c 0))]]=>
  match b with
  |[]=>some ⟨n⟩|_=>none
 |_=>none
def DC:bT TR where
 d0:=⟨0⟩
 read:=Ms
 args:=fun⟨n⟩=>[.agg [.J 64,.J 32,.J 24,.J 16,.J 63,.J 12],.agg [.aq n,.J 0,.J 1,.J 1,.num (.int .u64 (.c 0)),.num (.int .u64 (.c 0)),.num (.int .u64 (.c 0)),.J 0]]
 heap:=fun⟨_⟩=>[]
 val:=fun⟨n⟩=>(.agg (dS (cF (pE n) 0 64) 8))
 aS:=fun⟨_⟩=>decide (True)
def aja(n:Int):DC.fS ⟨n⟩ (some []) (bY G0 aQ 79) [] [decide (((64:Nat)≤128∧(64:Nat)≤64))]:=by show _=_;kernel_rfl
def ajb:DC.Rd:=by
 intro a b d h;change Ms a b=some d at h;unfold Ms at h;repeat' split at h
 all_goals cases h
 exact⟨rfl,rfl⟩
def ajc:br 79 DC.spec:=by
 refine DC.ok (dm TP (cK _)) ajb ?_;rintro⟨n⟩ a;refine⟨[],(some []),_,aja n,?_⟩
 repeat'(refine ax ?_ ?_)
 all_goals first|exact aV|rfl|(simp only[cz]<;>omega)
structure TT where
 v:BitVec 64
def Mt(a:List af)(b:List ah):Option TT:=
 match a with
 |[.agg [.num (.int .i64 (.c 64)),.num (.int .i64 (.c 32)),.num (.int .i64 (.c 24)),.num (.int .i64 (.c 16)),.num (.int .i64 (.c 63)),.num (.int .i64 (.c 12))],.num (.au v)]=>
  match b with
  |[]=>some ⟨v⟩|_=>none
 |_=>none
def DD:bT TT where
 d0:=⟨0⟩
 read:=Mt
 args:=fun⟨v⟩=>[.agg [.J 64,.J 32,.J 24,.J 16,.J 63,.J 12],.num (.au v)]
 heap:=fun⟨_⟩=>[]
 val:=fun⟨_⟩=>(.int .u64 (.c 0))
 aS:=fun⟨_⟩=>decide (True)
def ajd(v:BitVec 64):DD.fS ⟨v⟩ (some []) (bY cr aQ 83) [] []:=by show _=_;kernel_rfl
def aje:DD.Rd:=by
 intro a b d h;change Mt a b=some d at h;unfold Mt at h;repeat' split at h
 all_goals cases h
 exact⟨rfl,rfl⟩
def ajf:br 83 DD.spec:=by
 refine DD.ok (dm fL (cK _)) aje ?_;rintro⟨v⟩ a;refine⟨[],(some []),_,ajd v,?_⟩
 repeat'(refine ax ?_ ?_)
 all_goals first|exact aV|rfl|(simp only[cz]<;>omega)
def sS:FuncId→Option aA.Spec|80=>some Mp|81=>some A1.spec|78=>some Dz.spec|79=>some DC.spec|82=>some uj.spec|83=>some DD.spec|_=>none
def Mu:∀f a,sS f=some a→br f a:=by
 intro f a h;unfold sS at h;split at h
 ·cases h;exact TM
 ·cases h;exact TO
 ·cases h;exact ai9
 ·cases h;exact ajc
 ·cases h;exact Dw
 ·cases h;exact ajf
 ·cases h
def si(X:U 64):U 64:=U.of ((List.range 16).map fun i=>X.l.getD i 0#64)
structure uk where
 (v:U 8)(h:bp)(n:Int)(c:BitVec 64)(o iy:Nat)
def ajg(d:uk):aI×List ah:=
 match d with
 |⟨v,h,n,c,a,b⟩=>(⟨[.aa,.aa,.aa,.ref (.sl 0 (.s a) (.s b) none),.aa,.P 1,.P 2,.aa,.aa,.P 3,.aa,.J 128,.aa,.P 4,.aa,.aa,.num (.au c),.aa,.aa,.aa],[]⟩,[⟨.ag v,.ro⟩,⟨.gen [.J 64,.J 32,.J 24,.J 16,.J 63,.J 12],.own⟩,⟨.gen [.aq n,.J 0,.J 1,.J 1,.num (.int .u64 (.c 0)),.num (.int .u64 (.c 0)),.num (.int .u64 (.c 0)),.J 0],.own⟩,⟨.gen (jE gy),.own⟩,⟨.gen [.num (.au h.dQ),.num (.au h.ew),.num (.au h.ey),.num (.au h.ez),.num (.au h.e4),.num (.au h.e5),.num (.au h.e6),.num (.au h.e7)],.own⟩])
def um(d:uk):uk:=
 match d with
 |⟨v,h,n,c,a,b⟩=>⟨v,sQ h (c+128#64) 0#64 0#64 (si (cF v a 128)),n,c+128#64,a+128,b-128⟩
def Mv(a:aI)(b:List ah):Option uk:=
 match a with
 |⟨[.atom .aa,.atom .aa,.atom .aa,.ref (.sl 0 (.s d) (.s e) none),.atom .aa,.ref (.ptr 1 (.c 0)),.ref (.ptr 2 (.c 0)),.atom .aa,.atom .aa,.ref (.ptr 3 (.c 0)),.atom .aa,.num (.int .i64 (.c 128)),.atom .aa,.ref (.ptr 4 (.c 0)),.atom .aa,.atom .aa,.num (.au c),.atom .aa,.atom .aa,.atom .aa],[]⟩=>
  match b with
  |[⟨.ag v,.ro⟩,⟨.gen [.num (.int .i64 (.c 64)),.num (.int .i64 (.c 32)),.num (.int .i64 (.c 24)),.num (.int .i64 (.c 16)),.num (.int .i64 (.c 63)),.num (.int .i64 (.c 12))],.own⟩,⟨.gen [.num (.int .i64 (.s n)),.num (.int .i64 (.c 0)),.num (.int .i64 (.c 1)),.num (.int .i64 (.c 1)),.num (.int .u64 (.c 0)),.num (.int .u64 (.c 0)),.num (.int .u64 (.c 0)),.num (.int .i64 (.c 0))],.own⟩,⟨.gen f,.own⟩,⟨.gen [.num (.au g),.num (.au h1),.num (.au h2),.num (.au h3),.num (.au h4),.num (.au h),.num (.au i),.num (.au j)],.own⟩]=>
   (match mU f gy with
   |true=>some ⟨v,⟨g,h1,h2,h3,h4,h,i,j⟩,n,c,d,e⟩|false=>none)
  |_=>none
 |_=>none
def m0:eN uk where
 d0:=⟨0,⟨0,0,0,0,0,0,0,0⟩,0,0,0,0⟩
 read:=Mv
 ay:=ajg
 next:=um
 rem:=fun⟨_,_,_,_,_,a⟩=>(a-1)/128
 aS:=fun⟨v,_,n,_,b,a⟩=>decide (b+a≤v.n∧a≤1099511627776)
 out:=.exit 2
def ajh(v:U 8)(h:bp)(n:Int)(c:BitVec 64)(b a:Nat):m0.cB ⟨v,h,n,c,b,a⟩ (b6 5) (m0.ay (um ⟨v,h,n,c,b,a⟩)) (bZ sS aQ 52 1) [true] .normal [(decide (128≤(a:Int))&&decide ((a:Int)≤(a:Int))),true,true,true,decide ((128≤128∧((b+(0:Nat))+128)≤v.n)),((true&&true)&&decide (128≤(a:Int))),(decide (128<(a:Int))==true)]:=by show _=_;kernel_rfl
def aji(v:U 8)(h:bp)(n:Int)(c:BitVec 64)(b a:Nat):m0.cB ⟨v,h,n,c,b,a⟩ none (m0.fin ⟨v,h,n,c,b,a⟩) (bZ sS aQ 52 1) [false] m0.out [(decide (128<(a:Int))==false)]:=by show _=_;kernel_rfl
def ajj(a:aI)(b:List ah)(d:uk)(h:m0.read a b=some d):(a,b)=m0.ay d:=by
 replace h:Mv a b=some d:=h;unfold Mv at h;split at h
 case h_2=>cases h
 split at h
 case h_2=>cases h
 split at h
 case h_2=>cases h
 rename_i c;obtain rfl:=qQ c;cases h;rfl
def ajk:dc Tryz.prog bB (aj 52) (bN Tryz.prog 52) (bg Tryz.prog 52 1) (bZ sS aQ 52 1):=iw Mu (cK _) 52 1 J5 (by rw[show(cH Tryz.prog 52).length=3 by kernel_rfl];omega)
def ajl:eH Tryz.prog bB (aj 52) (bN Tryz.prog 52) (bg Tryz.prog 52 1) m0.T.told:=by
 refine m0.j0 ajk (by intro k f;have f:k∈([]:List ah):=f;cases f) (by intro h;cases h) ajj ?_ ?_
 ·rintro⟨v,h,n,c,b,a⟩ i d e;have d:=aZ d;have e:(a-1)/128=i+1:=e;have j:m0.next ⟨v,h,n,c,b,a⟩=um ⟨v,h,n,c,b,a⟩:=rfl;rw[j];refine⟨⟨[true],(b6 5),_,ajh v h n c b a,?_⟩,?_,?_,(show(m0.ay (um ⟨v,h,n,c,b,a⟩)).2.length=5 by kernel_rfl).trans (show(m0.ay ⟨v,h,n,c,b,a⟩).2.length=5 by kernel_rfl).symm⟩
  ·repeat'(refine ax ?_ ?_)
   all_goals first|exact aV|rfl|(simp only[cz]<;>omega)
  ·have g:m0.aS (um ⟨v,h,n,c,b,a⟩)=decide ((b+128:Nat)+(a-128:Nat)≤v.n∧(a-128:Nat)≤1099511627776):=by kernel_rfl
   refine g.trans (bl ?_);omega
  ·have g:m0.rem (um ⟨v,h,n,c,b,a⟩)=(((a-128:Nat)-1)/128):=by kernel_rfl
   refine g.trans ?_;omega
 ·rintro⟨v,h,n,c,b,a⟩ d e;have d:=aZ d;have e:(a-1)/128=0:=e;refine⟨[false],none,_,aji v h n c b a,?_⟩
  repeat'(refine ax ?_ ?_)
  all_goals first|exact aV|rfl|(simp only[cz]<;>omega)
def Mw:cP:=m0.T.told
def ajm:Told 52 1 Mw:=ajl.run
def DF(h:bp)(i:Int):BitVec 8:=((U.of [h.dQ,h.ew,h.ey,h.ez,h.e4,h.e5,h.e6,h.e7]).l.getD (0+(i.tdiv 8).toNat*1) 0#64>>>(8*(i.tmod 8)).toNat).setWidth 8
structure wL where
 (v:U 8)(h:bp)(n:Int)(u:U 8)(k:Nat)(i:Int)
def G1(d:wL):aI×List ah:=
 match d with
 |⟨v,h,n,u,k,i⟩=>(⟨[.aa,.aa,.aa,.aa,.aa,.P 1,.P 2,.aa,.aa,.aa,.aa,.aa,.aa,.P 4,.aa,.aa,.aa,.ref (.sl 6 (.c 0) (.s k) none),.aq i,.aa],[]⟩,[⟨.ag v,.ro⟩,⟨.gen [.J 64,.J 32,.J 24,.J 16,.J 63,.J 12],.own⟩,⟨.gen [.aq n,.J 0,.J 1,.J 1,.num (.int .u64 (.c 0)),.num (.int .u64 (.c 0)),.num (.int .u64 (.c 0)),.J 0],.own⟩,cp,⟨.gen [.num (.au h.dQ),.num (.au h.ew),.num (.au h.ey),.num (.au h.ez),.num (.au h.e4),.num (.au h.e5),.num (.au h.e6),.num (.au h.e7)],.own⟩,cp,⟨.ag u,.own⟩])
def ajn(d:wL):aI×List ah:=
 match d with
 |⟨v,h,n,u,k,i⟩=>(⟨[.aa,.aa,.aa,.aa,.aa,.P 1,.P 2,.aa,.aa,.aa,.aa,.aa,.aa,.P 4,.aa,.aa,.aa,.ref (.sl 7 (.c 0) (.s k) none),.aq i,.aa],[]⟩,[⟨.ag v,.ro⟩,⟨.gen [.J 64,.J 32,.J 24,.J 16,.J 63,.J 12],.own⟩,⟨.gen [.aq n,.J 0,.J 1,.J 1,.num (.int .u64 (.c 0)),.num (.int .u64 (.c 0)),.num (.int .u64 (.c 0)),.J 0],.own⟩,cp,⟨.gen [.num (.au h.dQ),.num (.au h.ew),.num (.au h.ey),.num (.au h.ez),.num (.au h.e4),.num (.au h.e5),.num (.au h.e6),.num (.au h.e7)],.own⟩,cp,cp,⟨.ag u,.own⟩])
def sU(d:wL):wL:=
 match d with
 |⟨v,h,n,u,k,i⟩=>⟨v,h,n,u.app (U.of [DF h i]),k+1,i+1⟩
def Mx(a:aI)(b:List ah):Option wL:=
 match a with
 |⟨[.atom .aa,.atom .aa,.atom .aa,.atom .aa,.atom .aa,.ref (.ptr 1 (.c 0)),.ref (.ptr 2 (.c 0)),.atom .aa,.atom .aa,.atom .aa,.atom .aa,.atom .aa,.atom .aa,.ref (.ptr 4 (.c 0)),.atom .aa,.atom .aa,.atom .aa,.ref (.sl 6 (.c 0) (.s k) none),.num (.int .i64 (.s i)),.atom .aa],[]⟩=>
  match b with
  |[⟨.ag v,.ro⟩,⟨.gen [.num (.int .i64 (.c 64)),.num (.int .i64 (.c 32)),.num (.int .i64 (.c 24)),.num (.int .i64 (.c 16)),.num (.int .i64 (.c 63)),.num (.int .i64 (.c 12))],.own⟩,⟨.gen [.num (.int .i64 (.s n)),.num (.int .i64 (.c 0)),.num (.int .i64 (.c 1)),.num (.int .i64 (.c 1)),.num (.int .u64 (.c 0)),.num (.int .u64 (.c 0)),.num (.int .u64 (.c 0)),.num (.int .i64 (.c 0))],.own⟩,⟨.gen [],.bn⟩,⟨.gen [.num (.au d),.num (.au h1),.num (.au h2),.num (.au h3),.num (.au h4),.num (.au e),.num (.au f),.num (.au g)],.own⟩,⟨.gen [],.bn⟩,⟨.ag u,.own⟩]=>some ⟨v,⟨d,h1,h2,h3,h4,e,f,g⟩,n,u,k,i⟩|_=>none
 |_=>none
def qe:eN wL where
 qR:=⟨[.aa,.aa,.aa,.aa,.aa,.P 1,.P 2,.aa,.aa,.aa,.aa,.aa,.aa,.P 4,.aa,.aa,.aa,.ref (.sl 6 (.c 0) (.s 0) none),.aq 0,.aa],[]⟩
 qS:=[⟨.ag (U.zero 8 0),.ro⟩,⟨.gen [.J 64,.J 32,.J 24,.J 16,.J 63,.J 12],.own⟩,⟨.gen [.aq 0,.J 0,.J 1,.J 1,.num (.int .u64 (.c 0)),.num (.int .u64 (.c 0)),.num (.int .u64 (.c 0)),.J 0],.own⟩,cp,⟨.gen [.num (.au 0#64),.num (.au 0#64),.num (.au 0#64),.num (.au 0#64),.num (.au 0#64),.num (.au 0#64),.num (.au 0#64),.num (.au 0#64)],.own⟩,cp,⟨.ag (U.zero 8 0),.own⟩]
 d0:=⟨0,⟨0,0,0,0,0,0,0,0⟩,0,0,0,0⟩
 read:=Mx
 ay:=ajn
 next:=sU
 rem:=fun⟨_,_,n,_,_,i⟩=>(n-i).toNat
 aS:=fun⟨_,_,n,u,k,i⟩=>decide (k=u.n∧1≤i∧i≤n∧n≤64∧(k:Int)=i)
 out:=.exit 4
def ajo(v:U 8)(h:bp)(n:Int)(u:U 8)(k:Nat)(i:Int):jf qe.ay 7 ⟨v,h,n,u,k,i⟩ (some [0,1,2,3,4,5,6,9]) (qe.ay (sU ⟨v,h,n,u,k,i⟩)) (bZ sS aQ 52 2) [true] .normal [bV (i+1),(true&&(k==u.n)),decide (((k+1)*1)≤1099511627776),decide ((0:Int)≤(8*(Int.tmod i (Int.tdiv 64 8)))),bV (8*(Int.tmod i (Int.tdiv 64 8))),decide ((Int.tdiv 64 8)≠0),decide ((0+((((Int.tdiv i (Int.tdiv 64 8))):Int).toNat*1))<8),(decide (0≤(Int.tdiv i (Int.tdiv 64 8)))&&decide ((Int.tdiv i (Int.tdiv 64 8))<(8:Int))),decide ((0≤i∧(0<(Int.tdiv 64 8)∧i≤9223372036854775807))),(decide (i<n)==true)]:=by show _=_;kernel_rfl
def ajp(v:U 8)(h:bp)(n:Int)(u:U 8)(k:Nat)(i:Int):jf qe.ay 7 ⟨v,h,n,u,k,i⟩ none (qe.fin ⟨v,h,n,u,k,i⟩) (bZ sS aQ 52 2) [false] qe.out [(decide (i<n)==false)]:=by show _=_;kernel_rfl
def ajq(a:aI)(b:List ah)(d:wL)(h:qe.read a b=some d):(a,b)=G1 d:=by
 replace h:Mx a b=some d:=h;unfold Mx at h;split at h
 case h_2=>cases h
 split at h
 case h_2=>cases h
 cases h;rfl
def TU:dc Tryz.prog bB (aj 52) (bN Tryz.prog 52) (bg Tryz.prog 52 2) (bZ sS aQ 52 2):=iw Mu (cK _) 52 2 J5 (by rw[show(cH Tryz.prog 52).length=3 by kernel_rfl];omega)
def ajr:eH Tryz.prog bB (aj 52) (bN Tryz.prog 52) (bg Tryz.prog 52 2) (qe.M 6 G1).told:=by
 refine qe.Ri 6 7 G1 TU rfl (by intro h;cases h) ajq (by rintro⟨v,h,n,u,k,i⟩;exact⟨rfl,_,rfl,rfl⟩) ?_ ?_
 ·rintro⟨v,h,n,u,k,i⟩ d a b;have a:=aZ a;have b:(n-i).toNat=d+1:=b;have e:qe.next ⟨v,h,n,u,k,i⟩=sU ⟨v,h,n,u,k,i⟩:=rfl;rw[e];refine⟨⟨[true],(some [0,1,2,3,4,5,6,9]),_,ajo v h n u k i,?_⟩,?_,?_⟩
  ·have h3:Int.tdiv 64 8=8:=rfl;have h1:i.tdiv 8=i/8:=pK (by omega);have h2:i.tmod 8=i%8:=oz (by omega)
   repeat'(refine ax ?_ ?_)
   all_goals first|exact aV|rfl|(simp only[bV,cz,h3,h1,h2]<;>omega)
  ·have c:qe.aS (sU ⟨v,h,n,u,k,i⟩)=decide ((k+1:Nat)=(u.app (U.of [DF h i]):U 8).n∧1≤(i+1:Int)∧(i+1:Int)≤n∧n≤64∧((k+1:Nat):Int)=(i+1:Int)):=by kernel_rfl
   refine c.trans (bl ?_);have:(u.app (U.of [DF h i])).n=u.n+1:=rfl;rw[this];omega
  ·have c:qe.rem (sU ⟨v,h,n,u,k,i⟩)=((n-(i+1:Int)).toNat):=by kernel_rfl
   refine c.trans ?_;omega
 ·rintro⟨v,h,n,u,k,i⟩ a b;have a:=aZ a;have b:(n-i).toNat=0:=b;refine⟨[false],none,_,ajp v h n u k i,?_⟩
  repeat'(refine ax ?_ ?_)
  all_goals first|exact aV|rfl|(simp only[cz]<;>omega)
def My:cP:=(xT (bZ sS aQ 52 2) (qe.M 6 G1).told)
def ajs:Told 52 2 My:=(eH.xT TU ajr).run
def wM:FuncId→Nat→Option cP|52,13=>some Mw|52,21=>some My|_,_=>none
def ajt:(cH Tryz.prog 52).length=3:=by kernel_rfl
def aju(spec:FuncId→Option aA.Spec):c6 (de spec wM) bB:=by
 refine c6.of fun f=>?_;by_cases c:f=52
 ·subst c;refine .inr ⟨by kernel_rfl,fun i hi d a=>?_⟩;have hi:i<(cH Tryz.prog 52).length:=hi;rw[ajt]at hi;have e:i=0∨i=1∨i=2:=by omega
  rcases e with rfl|rfl|rfl
  ·have b:(bX (bg Tryz.prog 52 0)).bind (wM 52)=none:=by kernel_rfl
   have a:(bX (bg Tryz.prog 52 0)).bind (wM 52)=some d:=a;rw[b]at a;cases a
  ·have b:(bX (bg Tryz.prog 52 1)).bind (wM 52)=some Mw:=by kernel_rfl
   obtain rfl:=dV (b.symm.trans a);exact ajm
  ·have b:(bX (bg Tryz.prog 52 2)).bind (wM 52)=some My:=by kernel_rfl
   obtain rfl:=dV (b.symm.trans a);exact ajs
 ·refine .inl fun r=>?_
  show wM f r=none;unfold wM;split
  ·exact absurd rfl c
  ·exact absurd rfl c
  ·rfl
def G2(h:bp):bp:=⟨h.dQ,h.ew,h.ey,h.ez,h.e4,h.e5,h.e6,h.e7⟩
def A2(n:Int):bp:=⟨7640891576956012808#64^^^(cF (pE n) 0 64).l.getD 0 0#64,13503953896175478587#64^^^(cF (pE n) 0 64).l.getD 1 0#64,4354685564936845355#64^^^(cF (pE n) 0 64).l.getD 2 0#64,11912009170470909681#64^^^(cF (pE n) 0 64).l.getD 3 0#64,5840696475078001361#64^^^(cF (pE n) 0 64).l.getD 4 0#64,11170449401992604703#64^^^(cF (pE n) 0 64).l.getD 5 0#64,2270897969802886507#64^^^(cF (pE n) 0 64).l.getD 6 0#64,6620516959819538809#64^^^(cF (pE n) 0 64).l.getD 7 0#64⟩
def jq(v:U 8)(b a:Nat)(n:Int):uk:=iter um ((a-1)/128) ⟨v,A2 n,n,0#64,b,a⟩
def pF(v:U 8)(a b:Nat)(n:Int):bp:=sQ (G2 (jq v a b n).h) ((jq v a b n).c+BitVec.ofInt 64 (((jq v a b n).iy:Nat):Int)) 0#64 18446744073709551615#64 (si (cF v (jq v a b n).o (jq v a b n).iy))
def dh(v:U 8)(a b:Nat)(n:Int):wL:=iter sU (((jq v a b n).n-1).toNat) ⟨v,G2 (pF v a b n),(jq v a b n).n,U.of [((pF v a b n).dQ>>>0).setWidth 8],1,1⟩
def TV(v:U 8)(h:bp)(n:Int)(c:BitVec 64)(a b:Nat):∀k,∃e d,iter um k ⟨v,h,n,c,a,b⟩=⟨v,e,n,d,a+128*k,b-128*k⟩
 |0=>⟨h,c,rfl⟩|k+1=>by
  obtain⟨e,d,f⟩:=TV v h n c a b k;refine⟨sQ e (d+128#64) 0#64 0#64 (si (cF v (a+128*k) 128)),d+128#64,?_⟩;rw[gB,f]
  show(⟨v,sQ e (d+128#64) 0#64 0#64 (si (cF v (a+128*k) 128)),n,d+128#64,a+128*k+128,b-128*k-128⟩:uk)=_;rw[show a+128*k+128=a+128*(k+1) by omega,show b-128*k-128=b-128*(k+1) by omega]
def Mz(v:U 8)(b a:Nat)(n:Int):(jq v b a n).o=b+128*((a-1)/128)∧(jq v b a n).iy=a-128*((a-1)/128)∧(jq v b a n).n=n:=by
 obtain⟨d,e,c⟩:=TV v (A2 n) n 0#64 b a ((a-1)/128);unfold jq;rw[c];exact⟨rfl,rfl,rfl⟩
structure MA where
 (v:U 8)(o iy:Nat)(n:Int)
def MB(a:List af)(b:List ah):Option MA:=
 match a with
 |[.agg [.num (.int .i64 (.c 64)),.num (.int .i64 (.c 32)),.num (.int .i64 (.c 24)),.num (.int .i64 (.c 16)),.num (.int .i64 (.c 63)),.num (.int .i64 (.c 12))],.agg [.num (.int .i64 (.s n)),.num (.int .i64 (.c 0)),.num (.int .i64 (.c 1)),.num (.int .i64 (.c 1)),.num (.int .u64 (.c 0)),.num (.int .u64 (.c 0)),.num (.int .u64 (.c 0)),.num (.int .i64 (.c 0))],.atom .cI,.ref (.sl 0 (.s d) (.s e) none),.agg f]=>
  match b with
  |[⟨.ag v,.ro⟩]=>
   (match mU f gy with
   |true=>some ⟨v,d,e,n⟩|false=>none)
  |_=>none
 |_=>none
def yM:bT MA where
 d0:=⟨0,0,0,0⟩
 read:=MB
 args:=fun⟨_,b,a,n⟩=>[.agg [.J 64,.J 32,.J 24,.J 16,.J 63,.J 12],.agg [.aq n,.J 0,.J 1,.J 1,.num (.int .u64 (.c 0)),.num (.int .u64 (.c 0)),.num (.int .u64 (.c 0)),.J 0],.atom .cI,.ref (.sl 0 (.s b) (.s a) none),.agg (jE gy)]
 heap:=fun⟨v,_,_,_⟩=>[⟨.ag v,.ro⟩]
 out:=fun⟨v,b,a,n⟩=>[⟨.ag v,.ro⟩,⟨.ag ((dh v b a n)).u,.own⟩]
 val:=fun⟨v,b,a,n⟩=>(.sl 1 (.c 0) (.s ((dh v b a n)).k) none)
 aS:=fun⟨v,b,a,n⟩=>decide (1≤n∧n≤64∧b+a≤v.n∧a≤1099511627776)
def ajv(v:U 8)(b a:Nat)(n:Int):yM.fS ⟨v,b,a,n⟩ (some [0,7]) (bY sS wM 52) [true] [decide (((1:Nat)=1∧((1:Int)≤1∧(1≤(jq v b a n).n∧((jq v b a n).n≤64∧(1:Int)=1))))),(decide (0<(jq v b a n).n)==true),true,true,true,decide (((jq v b a n).iy≤128∧((jq v b a n).o+(jq v b a n).iy)≤v.n)),decide (((b+a)≤v.n∧a≤1099511627776)),true,true]:=by show _=_;kernel_rfl
def ajw(a:List af)(b:List ah)(d:MA)(h:yM.read a b=some d):a=yM.args d∧b=yM.heap d:=by
 replace h:MB a b=some d:=h;unfold MB at h;split at h
 case h_2=>cases h
 split at h
 case h_2=>cases h
 split at h
 case h_2=>cases h
 rename_i c;obtain rfl:=qQ c;cases h;exact⟨rfl,rfl⟩
def ajx:br 52 yM.spec:=by
 refine yM.ok (dm Mu (aju _)) ajw ?_;rintro⟨v,a,b,n⟩ c;have c:=aZ c;refine⟨[true],(some [0,7]),_,ajv v a b n,?_⟩;obtain⟨d,e,f⟩:=Mz v a b n
 repeat'(refine ax ?_ ?_)
 all_goals first|exact aV|(simp only[cz,eC,gz,gd,d,e,f]<;>omega)
end
section
open Go.aA
variable [aR][aF]
def G3(a b:BitVec 64):a|||b=b|||a:=BitVec.or_comm a b
def ajy:rj=J7:=by
 funext a b c d g h;unfold rj J7 wH C4;simp only[Nat.reduceSub];have l:a+b+g=a+g+b:=by rw[Ig,BitVec.add_comm b g,←Ig]
 rw[l];generalize a+g+b=e;rw[G3 ((d^^^e)>>>32)];generalize(d^^^e)<<<32|||(d^^^e)>>>32=i;generalize c+i=j;rw[G3 ((b^^^j)>>>24)];generalize(b^^^j)<<<40|||(b^^^j)>>>24=f;have m:e+f+h=e+h+f:=by rw[Ig,BitVec.add_comm f h,←Ig]
 rw[m];generalize e+h+f=k;rw[G3 ((i^^^k)>>>16)];generalize(i^^^k)<<<48|||(i^^^k)>>>16=d2;generalize j+d2=n;rw[G3 ((f^^^n)>>>63)]
def TW(h:bp)(a b aO:BitVec 64)(m:U 64):sQ h a b aO m=cm h a b aO m:=by
 unfold sQ cm;rw[ajy]
def qf(v:U 8)(a b i:Nat):BitVec 8:=if i<b then v.l.getD (a+i) 0#8 else 0#8
def rq(f:Nat→BitVec 8)(j:Nat):BitVec 64:=jg (f (8*j)) (f (8*j+1)) (f (8*j+2)) (f (8*j+3)) (f (8*j+4)) (f (8*j+5)) (f (8*j+6)) (f (8*j+7))
def m3(f:Nat→BitVec 8):U 64:=U.of ((List.range 16).map (rq f))
def yN{f g:Nat→BitVec 8}(h:∀i,i<128→f i=g i):m3 f=m3 g:=by
 unfold m3;have:(List.range 16).map (rq f)=(List.range 16).map (rq g):=by
  refine If fun j a=>?_;have a:=oy.1 a;unfold rq;rw[h _ (by omega),h _ (by omega),h _ (by omega),h _ (by omega),h _ (by omega),h _ (by omega),h _ (by omega),h _ (by omega)]
 rw[this]
def MC(v:U 8)(a:Nat):e8 v a=m3 fun i=>v.l.getD (a+i) 0#8:=by
 unfold e8 m3;rfl
def sV(f:Nat→BitVec 8)(j:Nat):Nat→BitVec 64|0=>0#64|k+1=>sV f j k|||(f (8*j+k)).setWidth 64<<<(8*k)
def MD(f:Nat→BitVec 8)(j:Nat):sV f j 8=rq f j:=by
 unfold rq jg;simp only[sV,Bw,gd,Nat.reduceMul,BitVec.shiftLeft_zero];rw[BitVec.zero_or]
def ajz(X:U 64)(j i:Nat)(a:BitVec 64)(hi:i<X.n):(X.set j a).l.getD i 0#64=if j=i then a else X.l.getD i 0#64:=by
 have b:=X.h
 show(X.l.set j a).getD i 0#64=_;rw[dZ,dZ,Bn];split
 ·rw[av (by omega)];rfl
 ·rfl
def ME(v:U 8)(a b:Nat):∀k,k≤128→∃X:U 64,iter sR k ⟨v,U.of (List.replicate 16 0#64),a,b,(b:Int),0⟩=⟨v,X,a,b,(b:Int),(k:Int)⟩∧X.n=16∧∀j,j<16→X.l.getD j 0#64=sV (fun i=>v.l.getD (a+i) 0#8) j (min 8 (k-8*j))
 |0,_=>by
  refine⟨_,rfl,rfl,fun j c=>?_⟩;rw[Nat.zero_sub,WF]
  show(List.replicate 16 0#64).getD j 0#64=0#64;rw[dZ,mz];split<;>rfl
 |k+1,r=>by
  obtain⟨X,e,f,d⟩:=ME v a b k (by omega);refine⟨mK X (0+((k:Int).tdiv 8).toNat*1) (v.l.getD (a+(k:Int).toNat*1) 0#8) (8*((k:Int).tmod 8)),?_,f,fun j c=>?_⟩
  ·rw[gB,e]
   show(⟨v,mK X (0+((k:Int).tdiv 8).toNat*1) (v.l.getD (a+(k:Int).toNat*1) 0#8) (8*((k:Int).tmod 8)),a,b,(b:Int),(k:Int)+1⟩:wK)=_;rfl
  ·have g:(k:Int).tdiv 8=(k:Int)/8:=pK (by omega);have m:(k:Int).tmod 8=(k:Int)%8:=oz (by omega);have o:0+((k:Int).tdiv 8).toNat*1=k/8:=by rw[g];omega
   have p:a+(k:Int).toNat*1=a+k:=by omega
   have q:(8*((k:Int).tmod 8)).toNat=8*(k%8):=by rw[m];omega
   unfold mK;rw[ajz _ _ _ _ (by omega),o,p,q,d _ (by omega)];split
   ·rename_i h;subst h;rw[show min 8 (k+1-8*(k/8))=(k%8)+1 by omega,show min 8 (k-8*(k/8))=k%8 by omega]
    show _=sV _ _ (k%8)|||_;rw[show 8*(k/8)+k%8=k by omega]
   ·rename_i h;rw[d j c,show min 8 (k+1-8*j)=min 8 (k-8*j) by omega]
def MF(v:U 8)(b a j:Nat):∀m,sV (qf v b a) j m=sV (fun i=>v.l.getD (b+i) 0#8) j (min m (a-8*j))
 |0=>by rw[Nat.zero_min];rfl|m+1=>by
  show sV (qf v b a) j m|||(qf v b a (8*j+m)).setWidth 64<<<(8*m)=_;rw[MF v b a j m];unfold qf;by_cases h:8*j+m<a
  ·rw[av h,show min m (a-8*j)=m by omega,show min (m+1) (a-8*j)=m+1 by omega];rfl
  ·rw[ak h,show min (m+1) (a-8*j)=min m (a-8*j) by omega];have c:((0#8:BitVec 8).setWidth 64<<<(8*m))=0#64:=by
    rw[show(0#8:BitVec 8).setWidth 64=0#64 from rfl,BitVec.zero_shiftLeft]
   rw[c,BitVec.or_zero]
def TX(v:U 8)(b a:Nat)(h:a≤128):si (cF v b a)=m3 (qf v b a):=by
 obtain⟨X,d,g,e⟩:=ME v b a a h;have f:cF v b a=X:=by
  unfold cF Dy;rw[show((a:Int)-0).toNat=a by omega,d]
 rw[f];unfold si m3;have:(List.range 16).map (fun i=>X.l.getD i 0#64)=(List.range 16).map (rq (qf v b a)):=by
  refine If fun j c=>?_;have c:=oy.1 c;rw[e j c,←MD,MF]
 rw[this]
def TY(v:U 8)(b a j:Nat)(h:a≤128)(c:j<16):(cF v b a).l.getD j 0#64=rq (qf v b a) j:=by
 obtain⟨X,d,g,e⟩:=ME v b a a h;have f:cF v b a=X:=by
  unfold cF Dy;rw[show((a:Int)-0).toNat=a by omega,d]
 rw[f,e j c,←MD,MF]
def MG:BitVec 64:=18446744073709551615#64
def iS(h:bp)(P:Nat→BitVec 8):Nat→bp|0=>h|k+1=>cm (iS h P k) (BitVec.ofNat 64 (128*(k+1))) 0#64 0#64 (m3 fun i=>P (128*k+i))
def eP(h:bp)(P:Nat→BitVec 8)(N:Nat):bp:=cm (iS h P (aO N)) (BitVec.ofNat 64 N) 0#64 MG (m3 fun i=>if i<N-128*aO N then P (128*aO N+i)else 0#8)
def TZ(h:bp){P a:Nat→BitVec 8}:∀k,(∀i,i<128*k→P i=a i)→iS h P k=iS h a k
 |0,_=>rfl|k+1,b=>by
  show cm (iS h P k) _ _ _ _=cm (iS h a k) _ _ _ _;rw[TZ h k (fun i hi=>b i (by omega)),yN (g:=fun i=>a (128*k+i)) (fun i hi=>b _ (by omega))]
def G4(h:bp){P a:Nat→BitVec 8}(N:Nat)(b:∀i,i<N→P i=a i):eP h P N=eP h a N:=by
 have c:128*aO N≤N:=by unfold aO;omega
 unfold eP;rw[TZ h (aO N) (fun i hi=>b i (by omega)),yN (g:=fun i=>if i<N-128*aO N then a (128*aO N+i)else 0#8) (fun i hi=>by
  split
  ·exact b _ (by omega)
  ·rfl)]
def pG(v:U 8)(a n i:Nat)(h:a+n≤v.n)(hi:i<n):(v.sub a n).l.getD i 0#8=v.l.getD (a+i) 0#8:=by
 have b:=v.h;rw[U.BA (by omega),dZ,dZ,lP,av hi,s9]
def A3(c b:U 8)(a i:Nat)(h:a+b.n≤c.n)(hi:i<c.n):(c.over a b).l.getD i 0#8=if a≤i∧i<a+b.n then b.l.getD (i-a) 0#8 else c.l.getD i 0#8:=by
 have d:=c.h;have e:=b.h
 show(rP c.l a b.l).getD i 0#8=_;rw[xM _ _ _ (by omega)];unfold over;simp only[dZ];rcases cv i a with h1|h1
 ·rw[ak (by omega),za,iE (by simp;omega),lP,av h1]
 ·rcases cv i (a+b.n)with h2|h2
  ·rw[av ⟨h1,h2⟩,za,ie (by simp;omega),iE (by simp;omega)];congr 2;simp;omega
  ·rw[ak (by omega),ie (by simp;omega),s9];congr 2;simp;omega
def A4(a:U 8)(i:Nat)(hi:i<128):(cy a).l.getD i 0#8=a.l.getD i 0#8:=by
 show((List.range 128).map fun i=>a.l.getD i 0#8).getD i 0#8=_;simp[dZ,hi]
def DG(a:U 8):(cy a).n=128:=by
 show((List.range 128).map _).length=128;rw[lQ,Bu]
def qg(v:U 8)(a n:Nat):(v.sub a n).n=n:=rfl
def T0(b v:U 8)(m a n i:Nat)(g:m≤128)(c:m+n≤128)(d:a+n≤v.n)(hi:i<128):
 (gx b (m:Int) v a n).l.getD i 0#8=if m≤i∧i<m+n then v.l.getD (a+(i-m)) 0#8 else b.l.getD i 0#8:=by
 unfold gx;have e:11+(m:Int).toNat*1-11=m:=by omega
 have f:Nat.min n (128-(m:Int).toNat)=n:=by show min n _=n;omega
 rw[e,f,A3 _ _ _ _ (by rw[qg,DG];exact c) (by rw[DG];exact hi),qg,A4 _ _ hi];split
 ·rw[pG _ _ _ _ d (by omega)]
 ·rfl
def T1(b v:U 8)(a n i:Nat)(e:n≤128)(c:a+n≤v.n)(hi:i<n):(gw b v a n).l.getD i 0#8=v.l.getD (a+i) 0#8:=by
 unfold gw;have d:Nat.min n 128=n:=by show min n _=n;omega
 rw[d,A3 _ _ _ _ (by rw[qg,DG];omega) (by rw[DG];omega),qg,av (by omega),pG _ _ _ _ c (by omega),gz]
def G5(j:Nat):∀k,gN (BitVec.ofNat 64 (128*j)) k=BitVec.ofNat 64 (128*(j+k))
 |0=>rfl|k+1=>by
  show gN _ k+128#64=_;rw[G5 j k];apply nc;rw[eD,gZ,gZ,gZ];omega
def DH(k:Nat):BitVec.ofNat 64 (128*k)+128#64=BitVec.ofNat 64 (128*(k+1)):=by
 apply nc;rw[eD,gZ,gZ,gZ];omega
def MH(b:bp)(P:Nat→BitVec 8)(v:U 8)(a j:Nat):∀k,(∀i,i<128*k→v.l.getD (a+i) 0#8=P (128*j+i))→ji (iS b P j) (BitVec.ofNat 64 (128*j)) 0#64 v a k=iS b P (j+k)
 |0,_=>rfl|k+1,c=>by
  show cm (ji _ _ _ _ _ k) (gN _ k+128#64) 0#64 0#64 (e8 v (a+128*k))=cm (iS b P (j+k)) _ _ _ _;rw[MH b P v a j k (fun i hi=>c i (by omega)),G5,DH,MC,yN (g:=fun i=>P (128*(j+k)+i)) (fun i hi=>by
   show v.l.getD (a+128*k+i) 0#8=_;rw[iF,c _ (by omega)];congr 1;omega)]
  rfl
structure iB(h0:bp)(P:Nat→BitVec 8)(d:kB)(N:Nat):Prop where
 h:d.h=iS h0 P (aO N)
 c:d.c=BitVec.ofNat 64 (128*aO N)
 n:d.n=((N-128*aO N:Nat):Int)
 x:∀i,i<N-128*aO N→d.x.l.getD i 0#8=P (128*aO N+i)
def iB.new(a:Int)(P:Nat→BitVec 8)(b:U 8):iB (b7 a) P (AI a b) 0:=⟨rfl,rfl,rfl,fun i hi=>by simp at hi⟩
def iB.step{c:bp}{P:Nat→BitVec 8}{d:kB}{N:Nat}(t:iB c P d N)(v:U 8)(b a:Nat)(u:b+a≤v.n)(h:∀i,i<a→v.l.getD (b+i) 0#8=P (N+i)):iB c P (jk d v b a) (N+a):=by
 obtain⟨B,C,f,D⟩:=d;obtain⟨k,o,p,q⟩:=t;simp only at k o p q;subst k o p;have E:N-128*aO N≤128∧128*aO N≤N∧(0<N→0<N-128*aO N):=by unfold aO;omega
 have r:∀i,i<N-128*aO N→(cy f).l.getD i 0#8=P (128*aO N+i):=fun i hi=>by rw[A4 _ _ (by omega)];exact q i hi
 generalize F:N-128*aO N=m at *
 show iB c P ⟨fN (eta (iS c P (aO N))) (BitVec.ofNat 64 (128*aO N)) 0#64 (cy f) (m:Int) v b a,bK (BitVec.ofNat 64 (128*aO N)) (m:Int) a,fo (cy f) (m:Int) v b a,an (m:Int) a⟩ (N+a);by_cases h1:0<(m:Int)
 ·by_cases h2:(a:Int)≤128-(m:Int)
  ·have e:aO (N+a)=aO N:=by unfold aO at *;omega
   refine⟨?_,?_,?_,fun i hi=>?_⟩
   ·show fN _ _ _ _ _ _ _ _=_;unfold fN;rw[av h1,av h2,e];rfl
   ·show bK _ _ _=_;unfold bK;rw[av h1,av h2,e]
   ·show an _ _=_;unfold an;rw[av h1,av h2,e];omega
   ·show(fo _ _ _ _ _).l.getD i 0#8=_;unfold fo;rw[av h1,av h2];have hi:i<N+a-128*aO (N+a):=hi;rw[e]at hi⊢;rw[T0 _ _ _ _ _ _ (by omega) (by omega) u (by omega)];split
    ·rw[h _ (by omega)];congr 1;omega
    ·exact r i (by omega)
  ·have j:(128-(m:Int)).toNat=128-m:=by omega
   have e:aO (N+a)=aO N+1+aO (a-(128-m)):=by unfold aO at *;omega
   have w:∀i,i<128→(gx (cy f) (m:Int) v b (128-m)).l.getD i 0#8=P (128*aO N+i):=fun i hi=>by
    rw[T0 _ _ _ _ _ _ (by omega) (by omega) (by omega) hi];split
    ·rw[h _ (by omega)];congr 1;omega
    ·exact r i (by omega)
   have x:cm (eta (iS c P (aO N))) (BitVec.ofNat 64 (128*aO N)+128#64) 0#64 0#64 (e8 (gx (cy f) (m:Int) v b (128-m)) 0)=iS c P (aO N+1):=by
    show _=cm (iS c P (aO N)) _ _ _ _;rw[DH,MC,yN (g:=fun i=>P (128*aO N+i)) (fun i hi=>by
     show(gx (cy f) (m:Int) v b (128-m)).l.getD (0+i) 0#8=_;rw[cM];exact w i hi)]
    rfl
   have y:128*aO (a-(128-m))≤a-(128-m)∧a-(128-m)-128*aO (a-(128-m))≤128:=by unfold aO;omega
   refine⟨?_,?_,?_,fun i hi=>?_⟩
   ·show fN _ _ _ _ _ _ _ _=_;unfold fN;rw[av h1,ak h2,j,x,DH,MH c P v (b+(128-m)) (aO N+1) _ (fun i hi=>by
     rw[iF,h _ (by omega)];congr 1;omega),e]
   ·show bK _ _ _=_;unfold bK;rw[av h1,ak h2,j,DH,G5,e]
   ·show an _ _=_;unfold an;rw[av h1,ak h2,j,e];congr 1;omega
   ·show(fo _ _ _ _ _).l.getD i 0#8=_;unfold fo;rw[av h1,ak h2,j];have hi:i<N+a-128*aO (N+a):=hi;rw[e]at hi⊢;rw[T1 _ _ _ _ _ (by omega) (by omega) (by omega)];have:=h (128-m+128*aO (a-(128-m))+i) (by omega);rw[show b+(128-m)+128*aO (a-(128-m))+i=b+(128-m+128*aO (a-(128-m))+i) by omega,this];congr 1;omega
 ·have z:N=0:=by omega
  subst z;have A:m=0:=by omega
  subst A;have H:aO 0=0:=rfl;have y:128*aO a≤a∧a-128*aO a≤128:=by unfold aO;omega
  have s:∀i,i<a→v.l.getD (b+i) 0#8=P i:=fun i hi=>by rw[h i hi,cM]
  rw[cM];refine⟨?_,?_,?_,fun i hi=>?_⟩
  ·show fN (eta (iS c P (aO 0))) (BitVec.ofNat 64 (128*aO 0)) 0#64 (cy f) ((0:Nat):Int) v b a=_;unfold fN;rw[ak h1]
   show ji (iS c P 0) (BitVec.ofNat 64 (128*0)) 0#64 v b (aO a)=_;rw[MH c P v b 0 _ (fun i hi=>by rw[s _ (by omega)];congr 1;omega),cM]
  ·show bK (BitVec.ofNat 64 (128*aO 0)) ((0:Nat):Int) a=_;unfold bK;rw[ak h1]
   show gN (BitVec.ofNat 64 (128*0)) (aO a)=_;rw[G5,cM]
  ·show an ((0:Nat):Int) a=_;unfold an;rw[ak h1]
  ·show(fo (cy f) ((0:Nat):Int) v b a).l.getD i 0#8=_;unfold fo;rw[ak h1,av (by omega),T1 _ _ _ _ _ (by omega) (by omega) hi,iF,s _ (by omega)]
def ajA(a:U 8):cy (cy a)=cy a:=by
 have b:(List.range 128).map (fun i=>(cy a).l.getD i 0#8)=(List.range 128).map (fun i=>a.l.getD i 0#8):=If fun i hi=>A4 a i (oy.1 hi)
 show U.of _=U.of _;rw[b]
def ajB(a:U 8)(m i:Nat)(d:m≤128)(hi:i<128):(AG (cy a) (m:Int)).l.getD i 0#8=if i<m then a.l.getD i 0#8 else 0#8:=by
 unfold AG;have c:Nat.min ((m:Int)).toNat 128=m:=by show min _ _=m;omega
 have b:(U.of (List.replicate 128 0#8)).n=128:=by
  show(List.replicate 128 0#8).length=128;rw[nh]
 rw[c,A3 _ _ _ _ (by rw[qg,b];omega) (by rw[b];exact hi),qg];split
 ·rw[av (by omega),pG _ _ _ _ (by rw[DG];omega) (by omega),A4 _ _ (by omega),A4 _ _ (by omega)];congr 1;omega
 ·rw[ak (by omega)]
  show(List.replicate 128 0#8).getD i 0#8=_;rw[dZ,mz,av hi];rfl
def MI{a:bp}{P:Nat→BitVec 8}{d:kB}{N:Nat}(q:iB a P d N)(w:N≤1099511627776):gE d=eP a P N:=by
 obtain⟨x,y,b,z⟩:=d;obtain⟨g,j,k,n⟩:=q;simp only at g j k n;subst g j k;have r:N-128*aO N≤128∧128*aO N≤N∧(0<N→0<N-128*aO N)∧(N=0→aO N=0):=by unfold aO;omega
 generalize s:N-128*aO N=m at *
 show wm (eta (iS a P (aO N))) (BitVec.ofNat 64 (128*aO N)) 0#64 (cy b) (m:Int)=_;have o:(tV (m:Int)).toNat=128-m:=by
  unfold tV;rw[show(128-(m:Int))=((128-m:Nat):Int) by omega,uF,gZ];omega
 have p:(BitVec.ofNat 64 (128*aO N)).toNat=128*aO N:=by rw[gZ];omega
 have c:(128#64).toNat=128:=rfl;have e:(BitVec.ofNat 64 (128*aO N)-tV (m:Int)+128#64).toNat=N:=by
  rw[eD,kH,p,o,c];omega
 have t:BitVec.ofNat 64 (128*aO N)-tV (m:Int)+128#64=BitVec.ofNat 64 N:=by
  apply nc;rw[e,gZ];omega
 have u:e8 (AG (cy (cy b)) (m:Int)) 0=m3 fun i=>if i<N-128*aO N then P (128*aO N+i)else 0#8:=by
  rw[MC];refine yN fun i hi=>?_
  show(AG (cy (cy b)) (m:Int)).l.getD (0+i) 0#8=_;rw[cM,ajB _ _ _ r.1 hi,s];by_cases h:i<m
  ·rw[av h,av h,A4 _ _ hi,n i h]
  ·rw[ak h,ak h]
 have v:e8 (AG (cy b) (m:Int)) 0=m3 fun i=>if i<N-128*aO N then P (128*aO N+i)else 0#8:=by
  rw[←u];rw[ajA]
 have fin:∀f,j3 (BitVec.ofNat 64 (128*aO N)-tV (m:Int)) f=0#64→wj (eta (iS a P (aO N))) (BitVec.ofNat 64 (128*aO N)) f (cy b) (m:Int)=eP a P N:=by
  intro f h;unfold wj eP;rw[h,t,v];rfl
 unfold wm;rw[p,o];by_cases h:128*aO N<128-m
 ·rw[av h];refine fin _ ?_;unfold j3;rw[e,c,av (by unfold aO at *;omega)];rfl
 ·rw[ak h];refine fin _ ?_;unfold j3;rw[e,c,ak (by unfold aO at *;omega)]
def ajC:∀k:Fin 65,jg (BitVec.ofInt 8 (k.1:Int)) 0#8 1#8 1#8 0#8 0#8 0#8 0#8=(((BitVec.ofInt 64 (k.1:Int)|||0#64)|||65536#64)|||16777216#64):=by decide+kernel
def uo(n:Int):∀i,i<64→qf (pE n) 0 64 i=if i=0 then BitVec.ofInt 8 n else if i=2∨i=3 then 1#8 else 0#8:=by
 intro i hi;unfold qf;rw[av hi,cM]
 show(BitVec.ofInt 8 n::0#8::1#8::1#8::List.replicate 60 0#8).getD i 0#8=_
 match i,hi with
 |0,_=>rfl|1,_=>rfl|2,_=>rfl|3,_=>rfl|j+4,a=>
  rw[ak (by omega),ak (by omega)]
  show(List.replicate 60 0#8).getD j 0#8=_;rw[dZ,mz,av (by omega)];rfl
def ajD(n:Int)(h1:1≤n)(h2:n≤64):A2 n=b7 n:=by
 have d:(cF (pE n) 0 64).l.getD 0 0#64=(((BitVec.ofInt 64 n|||0#64)|||65536#64)|||16777216#64):=by
  rw[TY _ _ _ _ (by omega) (by omega)];unfold rq;simp only[Bw,cM];rw[uo n 0 (by omega),uo n 1 (by omega),uo n 2 (by omega),uo n 3 (by omega),uo n 4 (by omega),uo n 5 (by omega),uo n 6 (by omega),uo n 7 (by omega)];have:=ajC ⟨n.toNat,by omega⟩;simp only[show(n.toNat:Int)=n by omega]at this;exact this
 have c:∀j,1≤j→j<8→(cF (pE n) 0 64).l.getD j 0#64=0#64:=by
  intro j a b;rw[TY _ _ _ _ (by omega) (by omega)];unfold rq;have z:∀i,8≤i→i<64→qf (pE n) 0 64 i=0#8:=fun i p q=>by rw[uo n i q,ak (by omega),ak (by omega)]
  rw[z _ (by omega) (by omega),z _ (by omega) (by omega),z _ (by omega) (by omega),z _ (by omega) (by omega),z _ (by omega) (by omega),z _ (by omega) (by omega),z _ (by omega) (by omega),z _ (by omega) (by omega)];rfl
 unfold A2 b7;rw[d,c 1 (by omega) (by omega),c 2 (by omega) (by omega),c 3 (by omega) (by omega),c 4 (by omega) (by omega),c 5 (by omega) (by omega),c 6 (by omega) (by omega),c 7 (by omega) (by omega)];rfl
def T2(v:U 8)(h:bp)(n:Int)(a b:Nat):∀k,128*k≤b→iter um k ⟨v,h,n,0#64,a,b⟩=⟨v,iS h (fun i=>v.l.getD (a+i) 0#8) k,n,BitVec.ofNat 64 (128*k),a+128*k,b-128*k⟩
 |0,_=>rfl|k+1,c=>by
  rw[gB,T2 v h n a b k (by omega)]
  show(⟨v,sQ (iS h (fun i=>v.l.getD (a+i) 0#8) k) (BitVec.ofNat 64 (128*k)+128#64) 0#64 0#64 (si (cF v (a+128*k) 128)),n,BitVec.ofNat 64 (128*k)+128#64,a+128*k+128,b-128*k-128⟩:uk)=_;rw[TW,DH,TX _ _ _ (aX _),yN (g:=fun i=>v.l.getD (a+(128*k+i)) 0#8) (fun i hi=>by unfold qf;rw[av hi,iF]),show a+128*k+128=a+128*(k+1) by omega,show b-128*k-128=b-128*(k+1) by omega];rfl
def MJ(v:U 8)(b a:Nat)(n:Int)(h1:1≤n)(h2:n≤64)(h:a≤1099511627776):pF v b a n=eP (b7 n) (fun i=>v.l.getD (b+i) 0#8) a:=by
 have c:128*aO a≤a∧a-128*aO a≤128:=by unfold aO;omega
 have d:=T2 v (A2 n) n b a (aO a) c.1;have e:jq v b a n=⟨v,iS (A2 n) (fun i=>v.l.getD (b+i) 0#8) (aO a),n,BitVec.ofNat 64 (128*aO a),b+128*aO a,a-128*aO a⟩:=d;unfold pF;rw[e,ajD n h1 h2]
 show sQ (iS (b7 n) _ (aO a)) (BitVec.ofNat 64 (128*aO a)+BitVec.ofInt 64 ((a-128*aO a:Nat):Int)) 0#64 18446744073709551615#64 (si (cF v (b+128*aO a) (a-128*aO a)))=_;have f:BitVec.ofNat 64 (128*aO a)+BitVec.ofInt 64 ((a-128*aO a:Nat):Int)=BitVec.ofNat 64 a:=by
  apply nc;rw[eD,uF,gZ,gZ,gZ];omega
 rw[TW,f,TX _ _ _ c.2];unfold eP;rw[yN (g:=fun i=>if i<a-128*aO a then v.l.getD (b+(128*aO a+i)) 0#8 else 0#8) (fun i hi=>by unfold qf;rw[iF])];rfl
end
section
open Go.aA
variable [aR][aF][bq]
def MK:FuncId→Option aA.Spec|52=>some yM.spec|_=>none
def ajE:∀f a,MK f=some a→br f a:=by
 intro f a h;unfold MK at h;split at h
 ·cases h;exact ajx
 ·cases h
structure ML where
 (v:U 8)(o iy:Nat)(n:Int)
def MM(a:List af)(b:List ah):Option ML:=
 match a with
 |[.num (.int .i64 (.s n)),.atom .cI,.ref (.sl 0 (.s c) (.s d) none),.agg e]=>
  match b with
  |[⟨.ag v,.ro⟩]=>
   (match mU e gy with
   |true=>some ⟨v,c,d,n⟩|false=>none)
  |_=>none
 |_=>none
def yO:bT ML where
 d0:=⟨0,0,0,0⟩
 read:=MM
 args:=fun⟨_,b,a,n⟩=>[.aq n,.atom .cI,.ref (.sl 0 (.s b) (.s a) none),.agg (jE gy)]
 heap:=fun⟨v,_,_,_⟩=>[⟨.ag v,.ro⟩]
 out:=fun⟨v,b,a,n⟩=>[⟨.ag v,.ro⟩,⟨.ag ((dh v b a n)).u,.own⟩]
 val:=fun⟨v,b,a,n⟩=>(.obj .bx [.ref (.sl 1 (.c 0) (.s ((dh v b a n)).k) none),.atom (.bool (.c true))])
 aS:=fun⟨v,b,a,n⟩=>decide (1≤n∧n≤64∧b+a≤v.n∧a≤1099511627776)
def ajF(v:U 8)(b a:Nat)(n:Int):yO.fS ⟨v,b,a,n⟩ (some [0,5]) (bY MK aQ 27) (bE 11 0) [decide ((1≤n∧(n≤64∧((b+a)≤v.n∧a≤1099511627776)))),(decide (64<n)==false),(decide (64<n)==false),(decide (64<n)==false),(decide (64<n)==false),(decide (64<n)==false),(decide (64<n)==false),(decide (n<1)==false),(decide (n<1)==false),(decide (n<1)==false),(decide (n<1)==false),(decide (n<1)==false)]:=by show _=_;kernel_rfl
def ajG(a:List af)(b:List ah)(d:ML)(h:yO.read a b=some d):a=yO.args d∧b=yO.heap d:=by
 replace h:MM a b=some d:=h;unfold MM at h;split at h
 case h_2=>cases h
 split at h
 case h_2=>cases h
 split at h
 case h_2=>cases h
 rename_i c;obtain rfl:=qQ c;cases h;exact⟨rfl,rfl⟩
def ajH:br 27 yO.spec:=by
 refine yO.ok (dm ajE (cK _)) ajG ?_;rintro⟨v,b,c,n⟩ a;have a:=aZ a;refine⟨(bE 11 0),(some [0,5]),_,ajF v b c n,?_⟩
 repeat'(refine ax ?_ ?_)
 all_goals first|exact aV|rfl|(simp only[cz]<;>omega)
structure T3 where
 x:BitVec 32
def MN(a:List af)(b:List ah):Option T3:=
 match a with
 |[.num (.aD c)]=>
  match b with
  |[]=>some ⟨c⟩|_=>none
 |_=>none
def DI:bT T3 where
 d0:=⟨0⟩
 read:=MN
 args:=fun⟨a⟩=>[.num (.aD a)]
 heap:=fun⟨_⟩=>[]
 out:=fun⟨a⟩=>[⟨.gen [.num (.bQ (((a>>>0)).setWidth 8)),.num (.bQ (((a>>>8)).setWidth 8)),.num (.bQ (((a>>>16)).setWidth 8)),.num (.bQ (((a>>>24)).setWidth 8))],.own⟩]
 val:=fun⟨_⟩=>(.sl 0 (.c 0) (.c 4) none)
 aS:=fun⟨_⟩=>decide (True)
def ajI(a:BitVec 32):DI.fS ⟨a⟩ (some [0]) (bY cr aQ 18) [] []:=by show _=_;kernel_rfl
def ajJ:DI.Rd:=by
 intro a b d h;change MN a b=some d at h;unfold MN at h;repeat' split at h
 all_goals cases h
 exact⟨rfl,rfl⟩
def ajK:br 18 DI.spec:=by
 refine DI.ok (dm fL (cK _)) ajJ ?_;rintro⟨a⟩ b;refine⟨[],(some [0]),_,ajI a,?_⟩
 repeat'(refine ax ?_ ?_)
 all_goals first|exact aV|rfl|(simp only[cz]<;>omega)
def sW:FuncId→Option aA.Spec|27=>some yO.spec|18=>some DI.spec|_=>none
def MO:∀f a,sW f=some a→br f a:=by
 intro f a h;unfold sW at h;split at h
 ·cases h;exact ajH
 ·cases h;exact ajK
 ·cases h
def T4(v:U 8)(h:bp)(n:Int)(u:U 8)(k:Nat)(i:Int)(a:k=u.n):∀m,(iter sU m ⟨v,h,n,u,k,i⟩).u.n=u.n+m∧(iter sU m ⟨v,h,n,u,k,i⟩).k=u.n+m
 |0=>⟨rfl,a⟩|m+1=>by
  obtain⟨h1,h2⟩:=T4 v h n u k i a m;rw[gB];generalize iter sU m ⟨v,h,n,u,k,i⟩=b at h1 h2;obtain⟨v',e,f,c,d,g⟩:=b;simp only at h1 h2;exact⟨by show c.n+1=_;omega,by show d+1=_;omega⟩
def sX(v:U 8)(a b:Nat)(n:Int)(h1:1≤n):(dh v a b n).u.n=n.toNat∧(dh v a b n).k=n.toNat:=by
 obtain⟨e,f,c⟩:=Mz v a b n;obtain⟨h2,h3⟩:=T4 v (G2 (pF v a b n)) (jq v a b n).n (U.of [((pF v a b n).dQ>>>0).setWidth 8]) 1 1 rfl (((jq v a b n).n-1).toNat);have d:(U.of [((pF v a b n).dQ>>>0).setWidth 8]:U 8).n=1:=rfl;rw[d,c]at h2 h3;unfold dh;rw[c];exact⟨by rw[h2];omega,by rw[h3];omega⟩
def gu(a b:Int):Int:=if decide (b<a)=true then b else a
def ru(a b:Int):gu a b=min a b:=by
 unfold gu;simp only[jM];split<;>omega
inductive bP where
 |a (d w:U 8) (N:Int) (cc:Nat)|b (d u w:U 8) (N:Int) (cx cc:Nat)
def bP.ay:bP→aI×List ah|.a d w N cc=>(⟨[.aq N,.aa,.aa,.aa,.aa,.P 1,.aa,.aa,.aa,.aa,.ref (.sl 4 (.c 0) (.s cc) none),.aa,.atom .cI,.aa],[]⟩,[⟨.ag d,.ro⟩,⟨.gen (jE gy),.own⟩,cp,cp,⟨.ag w,.own⟩])|.b d u w N cx cc=>(⟨[.aq N,.aa,.aa,.aa,.aa,.P 1,.aa,.aa,.aa,.aa,.ref (.sl 6 (.c 0) (.s cc) none),.aa,.ref (.sl 5 (.c 0) (.s cx) none),.aa],[]⟩,[⟨.ag d,.ro⟩,⟨.gen (jE gy),.own⟩,cp,cp,cp,⟨.ag u,.own⟩,⟨.ag w,.own⟩])
def bP.d:bP→U 8|.a d _ _ _=>d|.b d _ _ _ _ _=>d
def bP.u:bP→U 8|.a _ _ _ _=>U.of []|.b _ u _ _ _ _=>u
def bP.w:bP→U 8|.a _ w _ _=>w|.b _ _ w _ _ _=>w
def bP.cx:bP→Nat|.a _ _ _ _=>0|.b _ _ _ _ cx _=>cx
def bP.cc:bP→Nat|.a _ _ _ cc=>cc|.b _ _ _ _ _ cc=>cc
def bP.N:bP→Int|.a _ _ N _=>N|.b _ _ _ N _ _=>N
def bP.fin(d:bP):aI×List ah:=(⟨[.num (.int .i64 (.s d.N)),.atom .aa,.atom .aa,.atom .aa,.atom .aa,.ref (.ptr 1 (.c 0)),.atom .aa,.atom .aa,.atom .aa,.atom .aa,.ref (.sl 6 (.c 0) (.s d.cc) none),.atom .aa,.ref (.sl 5 (.c 0) (.s d.cx) none),.atom .aa],[]⟩,[⟨.ag d.d,.ro⟩,⟨.gen (jE gy),.own⟩,⟨.gen [],.bn⟩,⟨.gen [],.bn⟩,⟨.gen [],.bn⟩,⟨.ag d.u,.own⟩,⟨.ag d.w,.own⟩])
def T5(d w:U 8)(N:Int)(cc:Nat):bP:=.b d (w.sub 0 32) (dh w 0 cc (gu (N-32) 64)).u N 32 (dh w 0 cc (gu (N-32) 64)).k
def T6(d u w:U 8)(N:Int)(cx cc:Nat):bP:=.b d (u.app (w.sub 0 32)) (dh w 0 cc (gu (N-((cx+32:Nat):Int)) 64)).u N (cx+32) (dh w 0 cc (gu (N-((cx+32:Nat):Int)) 64)).k
def bP.next:bP→bP|.a d w N cc=>T5 d w N cc|.b d u w N cx cc=>T6 d u w N cx cc
def bP.rem:bP→Nat|.a _ _ N _=>((N-33)/32).toNat|.b _ _ _ N cx _=>((N-cx-33)/32).toNat
def bP.aS:bP→Bool|.a _ w N cc=>decide (65≤N∧N≤1000000∧cc=64∧w.n=64)|.b _ u w N cx cc=>decide (N≤1000000∧cx=u.n∧cc=w.n∧33≤N-cx∧((N-cx≤64∧(cc:Int)=N-cx)∨(64<N-cx∧cc=64)))
def uq:eN bP where
 qR:=⟨[.aq 0,.aa,.aa,.aa,.aa,.P 1,.aa,.aa,.aa,.aa,.ref (.sl 4 (.c 0) (.s 0) none),.aa,.atom .cI,.aa],[]⟩
 qS:=[⟨.ag (U.zero 8 0),.ro⟩,⟨.gen (jE gy),.own⟩,cp,cp,⟨.ag (U.zero 8 0),.own⟩]
 d0:=.a 0 0 0 0
 read b e:=
  match b with
  |⟨[.num (.int .i64 (.s N)),.atom .aa,.atom .aa,.atom .aa,.atom .aa,.ref (.ptr 1 (.c 0)),.atom .aa,.atom .aa,.atom .aa,.atom .aa,.ref (.sl 4 (.c 0) (.s cc) none),.atom .aa,.atom .cI,.atom .aa],[]⟩=>
   match e with
   |[⟨.ag d,.ro⟩,⟨.gen cs,.own⟩,⟨.gen [],.bn⟩,⟨.gen [],.bn⟩,⟨.ag w,.own⟩]=>
    match mU cs gy with
    |true=>some (.a d w N cc)|false=>none
   |_=>none
  |_=>none
 ay:=bP.ay
 next:=bP.next
 rem:=bP.rem
 aS:=bP.aS
 out:=.exit 0
 fin:=bP.fin
def ajL(d w:U 8)(N:Int)(cc:Nat):jf bP.ay 5 (.a d w N cc) (b6 7) (bP.ay (T5 d w N cc)) (bZ sW aQ 20 0) [true] .normal [decide ((1≤(gu (N-32) 64)∧((gu (N-32) 64)≤64∧((0+cc)≤w.n∧cc≤1099511627776)))),bV (N-(32:Int)),decide (((0+(0:Nat))+32)≤w.n),((true&&true)&&decide (32≤(cc:Int))),(decide ((64:Int)<(N-0))==true),bV (N-0)]:=by show _=_;kernel_rfl
def ajM(d u w:U 8)(N:Int)(cx cc:Nat):jf bP.ay 5 (.b d u w N cx cc) (some [0,1,2,3,4,7,8]) (bP.ay (T6 d u w N cx cc)) (bZ sW aQ 20 0) [true] .normal [decide ((1≤(gu (N-((cx+32:Nat):Int)) 64)∧((gu (N-((cx+32:Nat):Int)) 64)≤64∧((0+cc)≤w.n∧cc≤1099511627776)))),bV (N-(((cx+32):Nat):Int)),(true&&(cx==u.n)),decide (((cx+32)*1)≤1099511627776),decide (((0+(0:Nat))+32)≤w.n),((true&&true)&&decide (32≤(cc:Int))),(decide ((64:Int)<(N-(cx:Int)))==true),bV (N-(cx:Int))]:=by show _=_;kernel_rfl
def ajN(d u w:U 8)(N:Int)(cx cc:Nat):jf bP.ay 5 (.b d u w N cx cc) none (bP.fin (.b d u w N cx cc)) (bZ sW aQ 20 0) [false] (.exit 0) [(decide ((64:Int)<(N-(cx:Int)))==false),bV (N-(cx:Int))]:=by show _=_;kernel_rfl
def T7(d:bP)(e:Nat)(f:d.aS=true)(c:d.rem=e+1):(∃l m cs,eg 5 m (bP.ay d.next) (bZ sW aQ 20 0 (bP.ay d).1 ⟨(bP.ay d).2,bJ,l,[]⟩)=some (.normal,bP.ay d.next,cs)∧(∀o∈cs,o=true))∧d.next.aS=true∧d.next.rem=e:=by
 match d,f,c with
 |.a d w N cc,f,c=>
  obtain⟨p,q,j,bf⟩:=aZ f;have c:((N-33)/32).toNat=e+1:=c;subst j;obtain⟨g,h⟩:=sX w 0 64 (gu (N-32) 64) (by rw[ru];omega);rw[ru]at g h;refine⟨⟨[true],some [0,1,2,3,4,5,6],_,ajL d w N 64,?_⟩,?_,?_⟩
  ·repeat'(refine ax ?_ ?_)
   all_goals first|exact aV|(simp only[bV,cz,eC,gz,ru]<;>omega)
  ·show decide (N≤1000000∧32=(w.sub 0 32).n∧(dh w 0 64 (gu (N-32) 64)).k=(dh w 0 64 (gu (N-32) 64)).u.n∧33≤N-((32:Nat):Int)∧((N-((32:Nat):Int)≤64∧(((dh w 0 64 (gu (N-32) 64)).k:Nat):Int)=N-((32:Nat):Int))∨(64<N-((32:Nat):Int)∧(dh w 0 64 (gu (N-32) 64)).k=64)))=true;rw[ru,g,h];have i:(w.sub 0 32).n=32:=rfl;rw[i];refine bl ?_;omega
  ·show((N-((32:Nat):Int)-33)/32).toNat=e;omega
 |.b d u w N cx cc,f,c=>
  obtain⟨p,q,j,bf,s⟩:=aZ f;have c:((N-cx-33)/32).toNat=e+1:=c;have r:cc=64:=by omega
  have t:w.n=64:=by omega
  subst r;obtain⟨g,h⟩:=sX w 0 64 (gu (N-((cx+32:Nat):Int)) 64) (by rw[ru];omega);rw[ru]at g h;refine⟨⟨[true],some [0,1,2,3,4,7,8],_,ajM d u w N cx 64,?_⟩,?_,?_⟩
  ·repeat'(refine ax ?_ ?_)
   all_goals first|exact aV|(simp only[bV,cz,eC,gz,ru]<;>omega)
  ·show decide (N≤1000000∧cx+32=(u.app (w.sub 0 32)).n∧(dh w 0 64 (gu (N-((cx+32:Nat):Int)) 64)).k=(dh w 0 64 (gu (N-((cx+32:Nat):Int)) 64)).u.n∧33≤N-((cx+32:Nat):Int)∧((N-((cx+32:Nat):Int)≤64∧(((dh w 0 64 (gu (N-((cx+32:Nat):Int)) 64)).k:Nat):Int)=N-((cx+32:Nat):Int))∨(64<N-((cx+32:Nat):Int)∧(dh w 0 64 (gu (N-((cx+32:Nat):Int)) 64)).k=64)))=true;rw[ru,g,h];have i:(u.app (w.sub 0 32)).n=u.n+32:=rfl;rw[i];refine bl ?_;omega
  ·show((N-((cx+32:Nat):Int)-33)/32).toNat=e;omega
def ajO:dc Tryz.prog bB (aj 20) (bN Tryz.prog 20) (bg Tryz.prog 20 0) (bZ sW aQ 20 0):=iw MO (cK _) 20 0 Rp (by rw[show(cH Tryz.prog 20).length=1 by kernel_rfl];omega)
def ajP(b:aI)(a:List ah)(d:bP)(h:uq.read b a=some d):(b,a)=uq.ay d∧5+uq.cG.length=a.length:=by
 simp only[uq]at h;split at h
 case h_2=>cases h
 split at h
 case h_2=>cases h
 split at h
 case h_2=>cases h
 rename_i c;obtain rfl:=qQ c;cases h;exact⟨rfl,rfl⟩
def ajQ:eH Tryz.prog bB (aj 20) (bN Tryz.prog 20) (bg Tryz.prog 20 0) uq.T.told:=by
 refine uq.aa4 (fun _=>5) ajO (by intro k f;simp[uq]at f;done) (by intro h;cases h) ajP (fun d k e c=>?_) (fun d e c=>?_)
 ·obtain⟨h1,h2,h3⟩:=T7 d k e c;exact⟨h1,h2,h3,rfl⟩
 ·match d,e,c with
  |.a d w N cc,e,c=>
   obtain⟨g,i,j,bf⟩:=aZ e;have c:((N-33)/32).toNat=0:=c;omega
  |.b d u w N cx cc,e,c=>
   obtain⟨g,i,j,bf,l⟩:=aZ e;have c:((N-cx-33)/32).toNat=0:=c;refine⟨[false],none,_,ajN d u w N cx cc,?_⟩
   repeat'(refine ax ?_ ?_)
   all_goals first|exact aV|(simp only[bV,cz,eC,gz,ru]<;>omega)
def ajR:Told 20 0 uq.T.told:=ajQ.run
def T8:cP:=uq.T.told
def A5:FuncId→Nat→Option cP|20,7=>some T8|_,_=>none
def ajS:(cH Tryz.prog 20).length=1:=by kernel_rfl
def ajT(spec:FuncId→Option aA.Spec):c6 (de spec A5) bB:=by
 refine c6.of fun f=>?_;by_cases a:f=20
 ·subst a;refine .inr ⟨by kernel_rfl,fun i hi e b=>?_⟩;have hi:i<(cH Tryz.prog 20).length:=hi;rw[ajS]at hi;have c:i=0:=by omega
  rcases c with rfl
  ·have d:(bX (bg Tryz.prog 20 0)).bind (A5 20)=some T8:=by kernel_rfl
   obtain rfl:=dV (d.symm.trans b);exact ajR
 ·refine .inl fun r=>?_
  show A5 f r=none;unfold A5;split
  ·exact absurd rfl a
  ·rfl
def f4(N:Int):U 8:=U.of [((BitVec.ofInt 32 N)>>>0).setWidth 8,((BitVec.ofInt 32 N)>>>8).setWidth 8,((BitVec.ofInt 32 N)>>>16).setWidth 8,((BitVec.ofInt 32 N)>>>24).setWidth 8]
def cO(v:U 8)(a b:Nat)(N:Int):U 8:=(f4 N).app (v.sub a b)
def eR(d b:U 8)(c:Nat)(N:Int):bP:=iter bP.next ((N-33)/32).toNat (.a d (dh b 0 c 64).u N (dh b 0 c 64).k)
def ajU(v:U 8)(b a:Nat)(N:Int):nI 1 (some [0,4]) [⟨.ag v,.ro⟩,⟨.ag (dh (cO v b a N) 0 (4+a) N).u,.own⟩] (.sl 1 (.c 0) (.s (dh (cO v b a N) 0 (4+a) N).k) none) (bY sW A5 20 [.aq N,.ref (.sl 0 (.s b) (.s a) none),.agg (jE gy)] ⟨[⟨.ag v,.ro⟩],bJ,[true],[]⟩) [decide (((1:Int)≤N∧(N≤64∧((0+(4+a))≤(4+a)∧(4+a)≤1099511627776)))),(decide (N≤64)==true),decide (((4+a)*1)≤1099511627776),decide ((b+a)≤v.n),true]:=by show _=_;kernel_rfl
def ajV(v:U 8)(d b:Nat)(N:Int):nI 1 (some [0,7]) [⟨.ag v,.ro⟩,⟨.ag (bP.u (eR v (cO v d b N) (4+b) N) |>.app ((bP.w (eR v (cO v d b N) (4+b) N)).sub 0 (bP.cc (eR v (cO v d b N) (4+b) N)))),.own⟩] (.sl 1 (.c 0) (.s (bP.cx (eR v (cO v d b N) (4+b) N)+bP.cc (eR v (cO v d b N) (4+b) N))) none) (bY sW A5 20 [.aq N,.ref (.sl 0 (.s d) (.s b) none),.agg (jE gy)] ⟨[⟨.ag v,.ro⟩],bJ,[false],[]⟩) [(true&&((bP.cx (eR v (cO v d b N) (4+b) N))==(bP.u (eR v (cO v d b N) (4+b) N)).n)),decide ((((bP.cx (eR v (cO v d b N) (4+b) N))+(bP.cc (eR v (cO v d b N) (4+b) N)))*1)≤1099511627776),decide ((0+(bP.cc (eR v (cO v d b N) (4+b) N)))≤(bP.w (eR v (cO v d b N) (4+b) N)).n),(bP.aS (.a v (dh (cO v d b N) 0 (4+b) 64).u N (dh (cO v d b N) 0 (4+b) 64).k)),decide (((1:Int)≤64∧((64:Int)≤64∧((0+(4+b))≤(4+b)∧(4+b)≤1099511627776)))),(decide (N≤64)==false),decide (((4+b)*1)≤1099511627776),decide ((d+b)≤v.n),decide (True)]:=by show _=_;kernel_rfl
def fz(v:U 8)(b a:Nat)(N:Int):U 8:=if N≤64 then(dh (cO v b a N) 0 (4+a) N).u else(bP.u (eR v (cO v b a N) (4+a) N)).app ((bP.w (eR v (cO v b a N) (4+a) N)).sub 0 (bP.cc (eR v (cO v b a N) (4+a) N)))
def wN(v:U 8)(b a:Nat)(N:Int):Nat:=if N≤64 then(dh (cO v b a N) 0 (4+a) N).k else bP.cx (eR v (cO v b a N) (4+a) N)+bP.cc (eR v (cO v b a N) (4+a) N)
def T9:∀(k:Nat) (d:bP),d.aS=true→d.rem=k→(iter bP.next k d).aS=true∧(iter bP.next k d).rem=0∧(iter bP.next k d).N=d.N
 |0,d,f,g=>⟨f,g,rfl⟩|k+1,d,f,g=>by
  obtain⟨_,h2,h3⟩:=T7 d k f g;have h:iter bP.next (k+1) d=iter bP.next k (d.next):=by
   have:∀(j:Nat) (e:bP),iter bP.next (j+1) e=iter bP.next j (bP.next e):=by
    intro j
    induction j with
    |zero=>intro e;rfl|succ j i=>intro e;rw[gB bP.next (j+1) e,i e,←gB bP.next j (bP.next e)]
   exact this k d
  rw[h];obtain⟨a,b,c⟩:=T9 k d.next h2 h3;refine⟨a,b,c.trans ?_⟩;cases d<;>rfl
def Ua(v:U 8)(c b:Nat)(N:Int)(h1:65≤N)(h2:N≤1000000):bP.aS (.a v (dh (cO v c b N) 0 (4+b) 64).u N (dh (cO v c b N) 0 (4+b) 64).k)=true:=by
 obtain⟨d,e⟩:=sX (cO v c b N) 0 (4+b) 64 (by omega);have d:(dh (cO v c b N) 0 (4+b) 64).u.n=64:=d;have e:(dh (cO v c b N) 0 (4+b) 64).k=64:=e
 show decide (65≤N∧N≤1000000∧(dh (cO v c b N) 0 (4+b) 64).k=64∧(dh (cO v c b N) 0 (4+b) 64).u.n=64)=true;rw[d,e];exact bl ⟨h1,h2,rfl,rfl⟩
def MP(v:U 8)(e c:Nat)(N:Int)(h1:65≤N)(h2:N≤1000000):bP.cx (eR v (cO v e c N) (4+c) N)=(bP.u (eR v (cO v e c N) (4+c) N)).n∧bP.cc (eR v (cO v e c N) (4+c) N)=(bP.w (eR v (cO v e c N) (4+c) N)).n∧((bP.cx (eR v (cO v e c N) (4+c) N)+bP.cc (eR v (cO v e c N) (4+c) N):Nat):Int)=N∧bP.cc (eR v (cO v e c N) (4+c) N)≤64:=by
 obtain⟨g,f,h⟩:=T9 ((N-33)/32).toNat (.a v (dh (cO v e c N) 0 (4+c) 64).u N (dh (cO v e c N) 0 (4+c) 64).k) (Ua v e c N h1 h2) rfl;have h:bP.N (eR v (cO v e c N) (4+c) N)=N:=h;have g:bP.aS (eR v (cO v e c N) (4+c) N)=true:=g;have f:bP.rem (eR v (cO v e c N) (4+c) N)=0:=f;generalize(eR v (cO v e c N) (4+c) N)=d at g f h;cases d with
 |a d w i cc=>
  obtain⟨j,l,m,bf⟩:=aZ g;have f:((i-33)/32).toNat=0:=f;omega
 |b d u w i cx cc=>
  obtain⟨j,l,m,bf,o⟩:=aZ g;have f:((i-cx-33)/32).toNat=0:=f;have h:i=N:=h
  show cx=u.n∧cc=w.n∧((cx+cc:Nat):Int)=N∧cc≤64;omega
structure DJ where
 (v:U 8)(o iy:Nat)(N:Int)
def MQ(a:List af)(b:List ah):Option DJ:=
 match a with
 |[.num (.int .i64 (.s N)),.ref (.sl 0 (.s c) (.s d) none),.agg e]=>
  match b with
  |[⟨.ag v,.ro⟩]=>
   (match mU e gy with
   |true=>some ⟨v,c,d,N⟩|false=>none)
  |_=>none
 |_=>none
def jH:bT DJ where
 d0:=⟨0,0,0,0⟩
 read:=MQ
 args:=fun⟨_,b,a,N⟩=>[.aq N,.ref (.sl 0 (.s b) (.s a) none),.agg (jE gy)]
 heap:=fun⟨v,_,_,_⟩=>[⟨.ag v,.ro⟩]
 out:=fun⟨v,b,a,N⟩=>[⟨.ag v,.ro⟩,⟨.ag (fz v b a N),.own⟩]
 val:=fun⟨v,b,a,N⟩=>(.sl 1 (.c 0) (.s (wN v b a N)) none)
 aS:=fun⟨v,b,a,N⟩=>decide (1≤N∧N≤100000∧b+a≤v.n∧a≤1000000)
def Ub(a:List af)(b:List ah)(d:DJ)(h:jH.read a b=some d):a=jH.args d∧b=jH.heap d:=by
 replace h:MQ a b=some d:=h;unfold MQ at h;split at h
 case h_2=>cases h
 split at h
 case h_2=>cases h
 split at h
 case h_2=>cases h
 rename_i c;obtain rfl:=qQ c;cases h;exact⟨rfl,rfl⟩
def ajW:br 20 jH.spec:=by
 refine jH.ok (dm MO (ajT _)) Ub ?_;rintro⟨v,b,a,N⟩ f;have f:=aZ f;have ex:(cO v b a N).n=4+(v.sub b a).n:=rfl;have ev:(v.sub b a).n=a:=rfl;by_cases h1:N≤64
 ·have d:jH.out ⟨v,b,a,N⟩=([⟨.ag v,.ro⟩,⟨.ag (dh (cO v b a N) 0 (4+a) N).u,.own⟩]:List ah):=by
   show([⟨.ag v,.ro⟩,⟨.ag (fz v b a N),.own⟩]:List ah)=_;unfold fz;rw[av h1]
  have e:jH.val ⟨v,b,a,N⟩=(.ref (.sl 1 (.c 0) (.s (dh (cO v b a N) 0 (4+a) N).k) none):af):=by
   show(af.ref (.sl 1 (.c 0) (.s (wN v b a N)) none))=_;unfold wN;rw[av h1]
  rw[d,e];refine⟨[true],some [0,4],_,ajU v b a N,?_⟩
  repeat'(refine ax ?_ ?_)
  all_goals first|exact aV|(simp only[cz,eC,gz]<;>omega)
 ·have d:jH.out ⟨v,b,a,N⟩=([⟨.ag v,.ro⟩,⟨.ag ((bP.u (eR v (cO v b a N) (4+a) N)).app ((bP.w (eR v (cO v b a N) (4+a) N)).sub 0 (bP.cc (eR v (cO v b a N) (4+a) N)))),.own⟩]:List ah):=by
   show([⟨.ag v,.ro⟩,⟨.ag (fz v b a N),.own⟩]:List ah)=_;unfold fz;rw[ak h1]
  have e:jH.val ⟨v,b,a,N⟩=(.ref (.sl 1 (.c 0) (.s (bP.cx (eR v (cO v b a N) (4+a) N)+bP.cc (eR v (cO v b a N) (4+a) N))) none):af):=by
   show(af.ref (.sl 1 (.c 0) (.s (wN v b a N)) none))=_;unfold wN;rw[ak h1]
  rw[d,e];obtain⟨h,i,j,l⟩:=MP v b a N (by omega) (by omega);have g:=Ua v b a N (by omega) (by omega);refine⟨[false],some [0,7],_,ajV v b a N,?_⟩
  repeat'(refine ax ?_ ?_)
  all_goals first|exact aV|exact g|(simp only[cz,eC,gz]<;>omega)
def ld(a:bp)(i:Nat):BitVec 8:=(KT a).getD i 0#8
def ajX(h:bp):∀i:Nat,i<64→DF h (i:Int)=ld h i|0,_=>rfl|1,_=>rfl|2,_=>rfl|3,_=>rfl|4,_=>rfl|5,_=>rfl|6,_=>rfl|7,_=>rfl|8,_=>rfl|9,_=>rfl|10,_=>rfl|11,_=>rfl|12,_=>rfl|13,_=>rfl|14,_=>rfl|15,_=>rfl|16,_=>rfl|17,_=>rfl|18,_=>rfl|19,_=>rfl|20,_=>rfl|21,_=>rfl|22,_=>rfl|23,_=>rfl|24,_=>rfl|25,_=>rfl|26,_=>rfl|27,_=>rfl|28,_=>rfl|29,_=>rfl|30,_=>rfl|31,_=>rfl|32,_=>rfl|33,_=>rfl|34,_=>rfl|35,_=>rfl|36,_=>rfl|37,_=>rfl|38,_=>rfl|39,_=>rfl|40,_=>rfl|41,_=>rfl|42,_=>rfl|43,_=>rfl|44,_=>rfl|45,_=>rfl|46,_=>rfl|47,_=>rfl|48,_=>rfl|49,_=>rfl|50,_=>rfl|51,_=>rfl|52,_=>rfl|53,_=>rfl|54,_=>rfl|55,_=>rfl|56,_=>rfl|57,_=>rfl|58,_=>rfl|59,_=>rfl|60,_=>rfl|61,_=>rfl|62,_=>rfl|63,_=>rfl|i+64,h=>absurd h (by omega)
def ur(u a:U 8)(i:Nat):(u.app a).l.getD i 0#8=if i<u.n then u.l.getD i 0#8 else a.l.getD (i-u.n) 0#8:=by
 have b:=u.h
 show(u.l++a.l).getD i 0#8=_;simp only[dZ];split
 ·rw[iE (by omega)]
 ·rw[ie (by omega),b]
def Uc(v:U 8)(h:bp)(n:Int)(u:U 8)(b:u.n=1)(c:u.l.getD 0 0#8=ld h 0):∀m,m<64→∃a,iter sU m ⟨v,h,n,u,1,1⟩=⟨v,h,n,a,m+1,((m+1:Nat):Int)⟩∧a.n=m+1∧∀i,i<m+1→a.l.getD i 0#8=ld h i
 |0,_=>⟨u,rfl,b,fun i hi=>by obtain rfl:i=0:=by omega
                             exact c⟩
 |m+1,g=>by
  obtain⟨a,d,e,f⟩:=Uc v h n u b c m (by omega);refine⟨a.app (U.of [DF h ((m+1:Nat):Int)]),?_,by show a.n+1=_;omega,fun i hi=>?_⟩
  ·rw[gB,d];rfl
  ·rw[ur];split
   ·exact f i (by omega)
   ·obtain rfl:i=m+1:=by omega
    rw[ajX h (m+1) (by omega),e,WG];rfl
def DK(v:U 8)(V Q:Nat)(n:Int)(h1:1≤n)(h2:n≤64):∀i,i<n.toNat→(dh v V Q n).u.l.getD i 0#8=ld (pF v V Q n) i:=by
 intro i hi;obtain⟨d,e,a⟩:=Mz v V Q n;obtain⟨f,b,g,c⟩:=Uc v (G2 (pF v V Q n)) (jq v V Q n).n (U.of [((pF v V Q n).dQ>>>0).setWidth 8]) rfl rfl (((jq v V Q n).n-1).toNat) (by rw[a];omega);unfold dh;rw[b];exact c i (by rw[a];omega)
def ajY(a:bp):(U.of (KT a)).n=64:=rfl
def Ud(a:bp)(v:U 8)(V:Nat)(b:Int):(e9 a v V b).n=v.n:=rfl
def yP(b:bp)(v:U 8)(V:Nat)(a:Int)(i:Nat)(h1:0≤a)(h2:a≤64)(h3:V+a.toNat≤v.n)(hi:i<v.n):(e9 b v V a).l.getD i 0#8=if V≤i∧i<V+a.toNat then ld b (i-V)else v.l.getD i 0#8:=by
 unfold e9;rw[A3 _ _ _ _ (by rw[qg];exact h3) hi,qg];split
 ·rw[pG _ _ _ _ (by rw[ajY];omega) (by omega),cM];rfl
 ·rfl
def iT(Q:Nat)(w:U 8)(T:Nat)(i:Nat):BitVec 8:=if i<4 then(gI Q).l.getD i 0#8 else w.l.getD (T+(i-4)) 0#8
def MR(c:Int)(w:U 8)(Q T R:Nat)(h:T+R≤w.n)(d:R≤1000000):gE (qV c w Q T R)=eP (b7 c) (iT Q w T) (4+R):=by
 have a:=iB.step (iB.new c (iT Q w T) qU) (gI Q) 0 4 (by rw[Db];omega) (fun i hi=>by unfold iT;simp only[cM];rw[av hi]);have b:=iB.step a w T R h (fun i hi=>by unfold iT;rw[ak (by omega)];congr 2;omega);rw[cM]at b;exact MI b (by omega)
def Ue(n:Int)(w:U 8)(Q T R:Nat)(h:T+R≤w.n)(b:R≤1000000)(h1:1≤n)(h2:n≤64):pF (cO w T R (Q:Int)) 0 (4+R) n=eP (b7 n) (iT Q w T) (4+R):=by
 rw[MJ _ _ _ _ h1 h2 (by omega)];refine G4 _ _ fun i hi=>?_;unfold cO iT;rw[cM,ur];have a:(f4 (Q:Int)).n=4:=rfl;rw[a];by_cases h4:i<4
 ·rw[av h4,av h4]
  match i,h4 with
  |0,_=>rfl|1,_=>rfl|2,_=>rfl|3,_=>rfl
 ·rw[ak h4,ak h4,pG _ _ _ _ h (by omega)]
def G6(c:Int)(d b:U 8)(P:Nat→BitVec 8)(f:b.n=64)(e:∀i,i<64→b.l.getD i 0#8=P i):gE (jk ⟨b7 c,0#64,d,0⟩ b 0 64)=eP (b7 c) P 64:=by
 have a:=iB.step (iB.new c P d) b 0 64 (by omega) (fun i hi=>by simp only[cM];exact e i hi);rw[cM]at a;exact MI a (by omega)
def Uf(n:Int)(b:U 8)(P:Nat→BitVec 8)(h1:1≤n)(h2:n≤64)(a:∀i,i<64→b.l.getD i 0#8=P i):pF b 0 64 n=eP (b7 n) P 64:=by
 rw[MJ _ _ _ _ h1 h2 (by omega)];exact G4 _ _ fun i hi=>by rw[cM];exact a i hi
def mm(Q:Nat)(w:U 8)(T R:Nat):Nat→Nat→BitVec 8|0=>ld (eP (b7 64) (iT Q w T) (4+R))|k+1=>ld (eP (b7 64) (mm Q w T R k) 64)
section
variable(v w:U 8)(V Q W T R:Nat)
def MS(t:64<Q)(u:Q≤W)(x:V+W≤v.n)(hi:T+R≤w.n)(g:R≤1000000):∀k,k≤(Q-65)/32→
 (∀i,i<64→(iter mb k (p8 v w V Q W T R)).b.l.getD i 0#8=mm Q w T R k i)∧
 (∀i,i<32*(k+1)→(iter mb k (p8 v w V Q W T R)).v.l.getD (V+i) 0#8=mm Q w T R (i/32) (i%32))
 |0,_=>by
  have a:∀i,i<64→(e9 (gE (qV 64 w Q T R)) (gI Q) 0 64).l.getD i 0#8=mm Q w T R 0 i:=fun i h=>by
   rw[yP _ _ _ _ _ (by omega) (by omega) (by rw[Db];omega) (by rw[Db];exact h),av (by omega),MR 64 w Q T R hi g,gz];rfl
  refine⟨a,fun i h=>?_⟩
  show(v.over V ((e9 (gE (qV 64 w Q T R)) (gI Q) 0 64).sub 0 (Nat.min 32 Q))).l.getD (V+i) 0#8=_;have c:Nat.min 32 Q=32:=by show min 32 Q=32;omega
  rw[c,A3 _ _ _ _ (by rw[qg];omega) (by omega),qg,av (by omega),pG _ _ _ _ (by rw[Ud,Db];omega) (by omega),cM,uI,a i (by omega),show i/32=0 by omega,show i%32=i by omega]
 |k+1,E=>by
  obtain⟨h1,h2⟩:=MS t u x hi g k (by omega);have j:=AJ v w V Q W T R k;rw[gB];generalize iter mb k (p8 v w V Q W T R)=d at h1 h2 j;obtain⟨v',w',b,F,H,I,e,J,K,m,f,L,N⟩:=d;obtain⟨y,o,z,p,q,r,s,A,B,C,D⟩:=j;simp only at y o z p q r s A B C D h1 h2;subst p q r s;have a:∀i,i<64→(e9 (gE (jk ⟨b7 64,0#64,e,0⟩ b 0 64)) b 0 64).l.getD i 0#8=mm Q w T R (k+1) i:=fun i h=>by
   rw[yP _ _ _ _ _ (by omega) (by omega) (by omega) (by omega),av (by omega),G6 64 e b (mm Q w T R k) o h1,gz];rfl
  refine⟨a,fun i h=>?_⟩
  show(v'.over m ((e9 (gE (jk ⟨b7 64,0#64,e,0⟩ b 0 64)) b 0 64).sub 0 (Nat.min 32 f))).l.getD (V+i) 0#8=_;have c:Nat.min 32 f=32:=by show min 32 f=32;omega
  rw[c,A3 _ _ _ _ (by rw[qg];omega) (by omega),qg];split
  ·rw[pG _ _ _ _ (by rw[Ud];omega) (by omega),cM,a _ (by omega),show i/32=k+1 by omega,show V+i-m=i%32 by omega]
  ·exact h2 i (by omega)
def Ug(t:64<Q)(x:Q≤100000)(hi:T+R≤w.n)(p:R≤1000000):∀k,k+1≤(Q-33)/32→∃d u e cx cc,
 iter bP.next (k+1) (.a w (dh (cO w T R (Q:Int)) 0 (4+R) 64).u (Q:Int) (dh (cO w T R (Q:Int)) 0 (4+R) 64).k)=.b d u e (Q:Int) cx cc∧cx=32*(k+1)∧u.n=32*(k+1)∧
 (cc:Int)=min ((Q:Int)-32*(k+1)) 64∧e.n=cc∧(∀i,i<32*(k+1)→u.l.getD i 0#8=mm Q w T R (i/32) (i%32))∧
 (∀i,i<cc→e.l.getD i 0#8=ld (eP (b7 (min ((Q:Int)-32*(k+1)) 64)) (mm Q w T R k) 64) i)
 |0,y=>by
  obtain⟨q,m⟩:=sX (cO w T R (Q:Int)) 0 (4+R) 64 (by omega);have r:=DK (cO w T R (Q:Int)) 0 (4+R) 64 (by omega) (by omega);rw[Ue 64 w Q T R hi p (by omega) (by omega)]at r;generalize dh (cO w T R (Q:Int)) 0 (4+R) 64=z at *;have q:z.u.n=64:=q;have m:z.k=64:=m;have g:∀i,i<64→z.u.l.getD i 0#8=mm Q w T R 0 i:=fun i h=>r i h;have c:gu ((Q:Int)-32) 64=min ((Q:Int)-32*((0:Nat)+1)) 64:=by rw[ru];omega
  obtain⟨o,f⟩:=sX z.u 0 64 (gu ((Q:Int)-32) 64) (by rw[c];omega);have j:=DK z.u 0 64 (gu ((Q:Int)-32) 64) (by rw[c];omega) (by rw[c];omega);rw[Uf _ z.u (mm Q w T R 0) (by rw[c];omega) (by rw[c];omega) g]at j;refine⟨w,z.u.sub 0 32,(dh z.u 0 64 (gu ((Q:Int)-32) 64)).u,32,(dh z.u 0 64 (gu ((Q:Int)-32) 64)).k,?_,rfl,rfl,?_,by rw[o,f],fun i h=>?_,fun i h=>?_⟩
  ·rw[m];rfl
  ·rw[f,c];omega
  ·rw[pG _ _ _ _ (by omega) (by omega),cM,g _ (by omega),show i/32=0 by omega,show i%32=i by omega]
  ·rw[j i (by rw[f]at h;exact h),c]
 |k+1,y=>by
  obtain⟨d,u,e,cx,cc,A,E,F,H,I,B,s⟩:=Ug t x hi p k (by omega);have C:cc=64:=by omega
  have D:min ((Q:Int)-32*(k+1)) 64=64:=by omega
  rw[D]at s;subst C;have g:∀i,i<64→e.l.getD i 0#8=mm Q w T R (k+1) i:=fun i h=>s i h;have c:gu ((Q:Int)-((cx+32:Nat):Int)) 64=min ((Q:Int)-32*(((k+1:Nat):Int)+1)) 64:=by rw[ru];omega
  obtain⟨o,f⟩:=sX e 0 64 (gu ((Q:Int)-((cx+32:Nat):Int)) 64) (by rw[c];omega);have j:=DK e 0 64 (gu ((Q:Int)-((cx+32:Nat):Int)) 64) (by rw[c];omega) (by rw[c];omega);rw[Uf _ e (mm Q w T R (k+1)) (by rw[c];omega) (by rw[c];omega) g]at j;refine⟨d,u.app (e.sub 0 32),(dh e 0 64 (gu ((Q:Int)-((cx+32:Nat):Int)) 64)).u,cx+32,(dh e 0 64 (gu ((Q:Int)-((cx+32:Nat):Int)) 64)).k,?_,by omega,by show u.n+32=_;omega,?_,by rw[o,f],fun i h=>?_,fun i h=>?_⟩
  ·rw[gB,A];rfl
  ·rw[f,c];omega
  ·rw[ur];split
   ·exact B i (by omega)
   ·rw[pG _ _ _ _ (by omega) (by omega),cM,g _ (by omega),show i/32=k+1 by omega,show i-u.n=i%32 by omega]
  ·rw[j i (by rw[f]at h;exact h),c]
def Uh(h1:1≤Q)(z:Q≤100000)(A:Q≤W)(B:V+W≤v.n)(hi:T+R≤w.n)(a:R≤1000000):∀i,i<Q→(ga v w V Q W T R).l.getD (V+i) 0#8=(fz w T R (Q:Int)).l.getD i 0#8:=by
 intro i ad;unfold ga fz;by_cases j:Q≤64
 ·rw[av j,av (by omega),yP _ _ _ _ _ (by omega) (by omega) (by omega) (by omega),av (by omega),MR _ w Q T R hi a,DK _ _ _ _ (by omega) (by omega) i (by omega),Ue _ w Q T R hi a (by omega) (by omega),uI]
 ·rw[ak j,ak (show¬(Q:Int)≤64 by omega)];obtain⟨c,e⟩:=MS v w V Q W T R (by omega) A B hi a ((Q-65)/32) (aX _);have k:=AJ v w V Q W T R ((Q-65)/32);obtain⟨d,u,f,cx,cc,C,ae,af,E,ag,F,m⟩:=Ug w Q T R (by omega) z hi a ((Q-65)/32) (by omega);have H:eR w (cO w T R (Q:Int)) (4+R) (Q:Int)=.b d u f (Q:Int) cx cc:=by
   rw[←C];unfold eR;congr 1;omega
  have I:bG v w V Q W T R=iter mb ((Q-65)/32) (p8 v w V Q W T R):=by
   unfold bG;rw[show Q-32-33=Q-65 by omega]
  rw[H,I];generalize iter mb ((Q-65)/32) (p8 v w V Q W T R)=D at c e k;obtain⟨v',w',b,ah,ai,aj,J,al,am,K,an,ao,N⟩:=D;obtain⟨L,g,M,o,p,q,r,O,P,X,s⟩:=k;simp only at L g M o p q r O P X s c e;subst o p q r s;have Y:((Q:Int)+31).tdiv 32=((Q:Int)+31)/32:=pK (by omega);have t:(Q:Int).tmod 64=(Q:Int)%64:=oz (by omega);have Z:min ((Q:Int)-32*(((Q-65)/32:Nat)+1)) 64=(Q:Int)-32*(((Q-65)/32:Nat)+1):=by omega
  rw[Z]at E m
  show _=(u.app (f.sub 0 cc)).l.getD i 0#8;have x:∀(h:bp) (S:Int),S=(Q:Int)-32*(((Q-65)/32:Nat)+1)→h=eP (b7 S) (mm Q w T R ((Q-65)/32)) 64→(e9 h v' K S).l.getD (V+i) 0#8=(u.app (f.sub 0 cc)).l.getD i 0#8:=by
   intro h S aa ab;rw[yP _ _ _ _ _ (by omega) (by omega) (by omega) (by omega),ur];by_cases y:i<u.n
   ·rw[ak (by omega),av y,e i (by omega),F i (by omega)]
   ·rw[av (by omega),ak y,pG _ _ _ _ (by omega) (by omega),cM,m _ (by omega),ab,aa];congr 1;omega
  by_cases h3:0<(Q:Int).tmod 64
  ·show(if 0<(Q:Int).tmod 64 then _ else _:U 8).l.getD (V+i) 0#8=_;rw[av h3];rw[t]at h3;refine x _ _ ?_ (G6 _ qU b _ g c)
   show(Q:Int)-32*(((Q:Int)+31).tdiv 32-2)=_;rw[Y];omega
  ·show(if 0<(Q:Int).tmod 64 then _ else _:U 8).l.getD (V+i) 0#8=_;rw[ak h3];rw[t]at h3;exact x _ 64 (by omega) (G6 64 J b _ g c)
end
def Ui(t m:BitVec 32)(p k a:Int)(n:Nat):U 8:=U.of [((BitVec.ofInt 32 p)>>>0).setWidth 8,((BitVec.ofInt 32 p)>>>8).setWidth 8,((BitVec.ofInt 32 p)>>>16).setWidth 8,((BitVec.ofInt 32 p)>>>24).setWidth 8,((BitVec.ofInt 32 k)>>>0).setWidth 8,((BitVec.ofInt 32 k)>>>8).setWidth 8,((BitVec.ofInt 32 k)>>>16).setWidth 8,((BitVec.ofInt 32 k)>>>24).setWidth 8,(m>>>0).setWidth 8,(m>>>8).setWidth 8,(m>>>16).setWidth 8,(m>>>24).setWidth 8,(t>>>0).setWidth 8,(t>>>8).setWidth 8,(t>>>16).setWidth 8,(t>>>24).setWidth 8,19#8,0#8,0#8,0#8,((BitVec.ofInt 32 a)>>>0).setWidth 8,((BitVec.ofInt 32 a)>>>8).setWidth 8,((BitVec.ofInt 32 a)>>>16).setWidth 8,((BitVec.ofInt 32 a)>>>24).setWidth 8,((BitVec.ofInt 32 (n:Int))>>>0).setWidth 8,((BitVec.ofInt 32 (n:Int))>>>8).setWidth 8,((BitVec.ofInt 32 (n:Int))>>>16).setWidth 8,((BitVec.ofInt 32 (n:Int))>>>24).setWidth 8]
def jr(a:U 8)(v:U 8)(b n:Nat):U 8:=(a.app (wq n)).app (v.sub b n)
def wO(a b c e:U 8)(f d g h i j l n:Nat)(t m:BitVec 32)(p k o:Int):U 8:=jr (jr (jr ((Ui t m p k o d).app (a.sub f d)) b g h) c i j) e l n
def wP(a b c d:Nat):Nat:=28+a+4+b+4+c+4+d
structure DL where
 (a b c e:U 8)(bA na bz nb bH bD bO ne:Nat)(t m:BitVec 32)(p k aM:Int)
def MT(a:List af)(d:List ah):Option DL:=
 match a with
 |[.num (.int .i64 (.s e)),.ref (.sl 0 (.s f) (.s g) none),.ref (.sl 1 (.s h) (.s i) none),.ref (.sl 2 (.s j) (.s l) none),.ref (.sl 3 (.s n) (.s o) none),.num (.aD t),.num (.aD m),.num (.int .i64 (.s p)),.num (.int .i64 (.s k)),.agg q]=>
  match d with
  |[⟨.ag a,.ro⟩,⟨.ag b,.ro⟩,⟨.ag c,.ro⟩,⟨.ag r,.ro⟩]=>
   (match mU q gy with
   |true=>some ⟨a,b,c,r,f,g,h,i,j,l,n,o,t,m,p,k,e⟩|false=>none)
  |_=>none
 |_=>none
def lf:bT DL where
 d0:=⟨0,0,0,0,0,0,0,0,0,0,0,0,0,0,0,0,0⟩
 read:=MT
 args:=fun⟨_,_,_,_,i,d,j,e,l,f,o,g,t,m,p,k,q⟩=>[.aq q,.ref (.sl 0 (.s i) (.s d) none),.ref (.sl 1 (.s j) (.s e) none),.ref (.sl 2 (.s l) (.s f) none),.ref (.sl 3 (.s o) (.s g) none),.num (.aD t),.num (.aD m),.aq p,.aq k,.agg (jE gy)]
 heap:=fun⟨a,b,c,h,_,_,_,_,_,_,_,_,_,_,_,_,_⟩=>[⟨.ag a,.ro⟩,⟨.ag b,.ro⟩,⟨.ag c,.ro⟩,⟨.ag h,.ro⟩]
 out:=fun⟨a,b,c,h,i,d,j,e,l,f,o,g,t,m,p,k,q⟩=>[⟨.ag a,.ro⟩,⟨.ag b,.ro⟩,⟨.ag c,.ro⟩,⟨.ag h,.ro⟩,⟨.ag ((dh (wO a b c h i d j e l f o g t m p k q) 0 (wP d e f g) 64)).u,.own⟩]
 val:=fun⟨a,b,c,h,i,d,j,e,l,f,o,g,t,m,p,k,q⟩=>(.sl 4 (.c 0) (.s ((dh (wO a b c h i d j e l f o g t m p k q) 0 (wP d e f g) 64)).k) none)
 aS:=fun⟨a,b,c,h,i,d,j,e,l,f,o,g,_,_,_,_,_⟩=>decide (i+d≤a.n∧d≤1000000∧j+e≤b.n∧e≤1000000∧l+f≤c.n∧f≤1000000∧o+g≤h.n∧g≤1000000)
def ajZ(a b c h:U 8)(i d j e l f o g:Nat)(t m:BitVec 32)(p k q:Int):lf.fS ⟨a,b,c,h,i,d,j,e,l,f,o,g,t,m,p,k,q⟩ (some [0,1,2,3,31]) (bY sW aQ 17) [] [decide (((1:Int)≤64∧((64:Int)≤64∧((0+(((((((28+d)+4)+e)+4)+f)+4)+g))≤(((((((28+d)+4)+e)+4)+f)+4)+g)∧(((((((28+d)+4)+e)+4)+f)+4)+g)≤1099511627776)))),(true&&(((((((28+d)+4)+e)+4)+f)+4)==((((((28+d)+4)+e)+4)+f)+4))),decide (((((((((28+d)+4)+e)+4)+f)+4)+g)*1)≤1099511627776),decide ((o+g)≤h.n),(true&&((((((28+d)+4)+e)+4)+f)==(((((28+d)+4)+e)+4)+f))),decide ((((((((28+d)+4)+e)+4)+f)+4)*1)≤1099511627776),decide (True),(true&&(((((28+d)+4)+e)+4)==((((28+d)+4)+e)+4))),decide (((((((28+d)+4)+e)+4)+f)*1)≤1099511627776),decide ((l+f)≤c.n),(true&&((((28+d)+4)+e)==(((28+d)+4)+e))),decide ((((((28+d)+4)+e)+4)*1)≤1099511627776),decide (True),(true&&(((28+d)+4)==((28+d)+4))),decide (((((28+d)+4)+e)*1)≤1099511627776),decide ((j+e)≤b.n),(true&&((28+d)==(28+d))),decide ((((28+d)+4)*1)≤1099511627776),decide (True),decide (((28+d)*1)≤1099511627776),decide ((i+d)≤a.n),decide (True),decide (True),decide (True),decide (True),decide (True),decide (True),decide (True)]:=by show _=_;kernel_rfl
def Uj(a:List af)(b:List ah)(d:DL)(h:lf.read a b=some d):a=lf.args d∧b=lf.heap d:=by
 replace h:MT a b=some d:=h;unfold MT at h;split at h
 case h_2=>cases h
 split at h
 case h_2=>cases h
 split at h
 case h_2=>cases h
 rename_i c;obtain rfl:=qQ c;cases h;exact⟨rfl,rfl⟩
def aj0:br 17 lf.spec:=by
 refine lf.ok (dm MO (cK _)) Uj ?_;rintro⟨a,b,c,e,f,g,h,i,j,l,n,o,t,m,p,k,q⟩ d;have d:=aZ d;refine⟨[],(some [0,1,2,3,31]),_,ajZ a b c e f g h i j l n o t m p k q,?_⟩
 repeat'(refine ax ?_ ?_)
 all_goals first|exact aV|rfl|(simp only[cz]<;>omega)
def aj1(v:U 8)(a b:Nat)(N:Int)(h1:1≤N)(h2:N≤100000):wN v a b N=N.toNat:=by
 unfold wN;by_cases h:N≤64
 ·rw[av h];exact(sX _ _ _ _ h1).2
 ·rw[ak h];have:=(MP v a b N (by omega) (by omega)).2.2.1;omega
def Uk(v:U 8)(b a:Nat)(N:Int)(h1:1≤N)(h2:N≤100000):(fz v b a N).n=N.toNat:=by
 unfold fz;by_cases h:N≤64
 ·rw[av h];exact(sX _ _ _ _ h1).1
 ·rw[ak h];obtain⟨c,e,f,g⟩:=MP v b a N (by omega) (by omega)
  show(bP.u _).n+_=_;rw[←c];have d:((bP.w (eR v (cO v b a N) (4+a) N)).sub 0 (bP.cc (eR v (cO v b a N) (4+a) N))).n=bP.cc (eR v (cO v b a N) (4+a) N):=rfl;rw[d];omega
def G7:bT DJ:={jH with val:=fun⟨v,o,iy,N⟩=>.ref (.sl 1 (.c 0) (.s N.toNat) none)}
def aj2:br 20 G7.spec:=by
 refine G7.wz (show∀a g d,jH.read a g=some d→a=jH.args d∧g=jH.heap d from Ub) fun d f β w vs j k t=>?_;obtain⟨v,b,e,N⟩:=d;have f:=aZ f;obtain⟨l,m⟩:=(ajW (jH.args ⟨v,b,e,N⟩) (jH.heap ⟨v,b,e,N⟩) [] _ (show jH.spec (jH.args ⟨v,b,e,N⟩) (jH.heap ⟨v,b,e,N⟩) []=some ⟨jH.val ⟨v,b,e,N⟩,jH.out ⟨v,b,e,N⟩,[],[jH.aS ⟨v,b,e,N⟩]⟩ by kernel_rfl)).2 (fun x n=>by rw[tc.1 n];exact bl f) β w vs j k;refine⟨l,m.mono ?_⟩;rintro y w' ⟨u,h,rfl,o,p,r⟩;refine⟨u,h,rfl,?_,p,r.q (aX _)⟩;have i:aC h (.ref (.sl 1 (.c 0) (.s (wN v b e N)) none)) u:=o;rw[aj1 _ _ _ _ f.1 f.2.1]at i;exact i
def aC.aj3{β:aE}{b n:Nat}{d:N}{u:Value}(h:aC β (.sl b d (.s n) none) u):aC β (.sl b d (.c n) none) u:=by
 cases h with
 |sl _ _ _ _ a e h1 h2 h3=>exact .sl b d (.c n) none a e h1 (fun _ h=>by cases h) h3
def G8:bT DL:={lf with val:=fun _=>.ref (.sl 4 (.c 0) (.c 64) none)}
def aj4:br 17 G8.spec:=by
 refine G8.wz (show∀a v d,lf.read a v=some d→a=lf.args d∧v=lf.heap d from Uj) fun d z β w vs A B K=>?_;obtain⟨a,b,c,i,j,e,l,f,n,g,o,h,t,m,p,k,r⟩:=d;obtain⟨C,D⟩:=(aj0 (lf.args ⟨a,b,c,i,j,e,l,f,n,g,o,h,t,m,p,k,r⟩) (lf.heap ⟨a,b,c,i,j,e,l,f,n,g,o,h,t,m,p,k,r⟩) [] _ (show lf.spec (lf.args ⟨a,b,c,i,j,e,l,f,n,g,o,h,t,m,p,k,r⟩) (lf.heap ⟨a,b,c,i,j,e,l,f,n,g,o,h,t,m,p,k,r⟩) []=some ⟨lf.val ⟨a,b,c,i,j,e,l,f,n,g,o,h,t,m,p,k,r⟩,lf.out ⟨a,b,c,i,j,e,l,f,n,g,o,h,t,m,p,k,r⟩,[],[lf.aS ⟨a,b,c,i,j,e,l,f,n,g,o,h,t,m,p,k,r⟩]⟩ by kernel_rfl)).2 (fun L E=>by rw[tc.1 E];exact z) β w vs A B;refine⟨C,D.mono ?_⟩;rintro M w' ⟨u,x,rfl,F,H,I⟩;refine⟨u,x,rfl,?_,H,I.q (aX _)⟩;have y:aC x (.ref (.sl 4 (.c 0) (.s (dh (wO a b c i j e l f n g o h t m p k r) 0 (wP e f g h) 64).k) none)) u:=F;have J:(dh (wO a b c i j e l f n g o h t m p k r) 0 (wP e f g h) 64).k=64:=(sX _ 0 _ 64 (by omega)).2;rw[J]at y;exact aC.aj3 y
structure yQ where
 (v:U 8)(X:U 64)(o iy:Nat)(n i:Int)
def aj5(d:yQ):aI×List ah:=
 match d with
 |⟨v,X,a,b,n,i⟩=>(⟨[.aa,.aa,.P 1,.P 2,.aa,.aa],[⟨8,.aq i⟩,⟨7,.aq n⟩,⟨6,.ref (.sl 0 (.s a) (.s b) none)⟩]⟩,[⟨.ag v,.ro⟩,cp,⟨.bt X,.own⟩])
def sY(d:yQ):yQ:=
 match d with
 |⟨v,X,a,b,n,i⟩=>⟨v,mK X (0+(i.tdiv 8).toNat*1) (v.l.getD (a+i.toNat*1) 0#8) (8*(i.tmod 8)),a,b,n,i+1⟩
def MU(a:aI)(b:List ah):Option yQ:=
 match a with
 |⟨[.atom .aa,.atom .aa,.ref (.ptr 1 (.c 0)),.ref (.ptr 2 (.c 0)),.atom .aa,.atom .aa],[⟨8,.num (.int .i64 (.s i))⟩,⟨7,.num (.int .i64 (.s n))⟩,⟨6,.ref (.sl 0 (.s d) (.s e) none)⟩]⟩=>
  match b with
  |[⟨.ag v,.ro⟩,⟨.gen [],.bn⟩,⟨.bt X,.own⟩]=>some ⟨v,X,d,e,n,i⟩|_=>none
 |_=>none
def m4:eN yQ where
 d0:=⟨0,0,0,0,0,0⟩
 read:=MU
 ay:=aj5
 next:=sY
 rem:=fun⟨_,_,_,_,n,i⟩=>(n-i).toNat
 aS:=fun⟨v,X,b,a,n,i⟩=>decide (0≤i∧i≤n∧n=a∧a≤1024∧b+a≤v.n∧X.n=128)
 out:=.exit 0
def aj6(v:U 8)(X:U 64)(a b:Nat)(n i:Int):m4.cB ⟨v,X,a,b,n,i⟩ (b6 3) (m4.ay (sY ⟨v,X,a,b,n,i⟩)) (bZ cr aQ 19 0) [true] .normal [bV (i+1),decide ((0+((((Int.tdiv i 8)):Int).toNat*1))<X.n),(decide (0≤(Int.tdiv i 8))&&decide ((Int.tdiv i 8)<(128:Int))),decide ((0:Int)≤(8*(Int.tmod i 8))),bV (8*(Int.tmod i 8)),decide ((8:Int)≠0),decide ((0+((((Int.tdiv i 8)):Int).toNat*1))<X.n),(decide (0≤(Int.tdiv i 8))&&decide ((Int.tdiv i 8)<(128:Int))),decide ((0≤i∧((0:Int)<8∧i≤9223372036854775807))),decide ((a+(i.toNat*1))<v.n),(decide (0≤i)&&decide (i<(b:Int))),(decide (i<n)==true)]:=by show _=_;kernel_rfl
def aj7(v:U 8)(X:U 64)(a b:Nat)(n i:Int):m4.cB ⟨v,X,a,b,n,i⟩ none (m4.fin ⟨v,X,a,b,n,i⟩) (bZ cr aQ 19 0) [false] m4.out [(decide (i<n)==false)]:=by show _=_;kernel_rfl
def aj8:m4.Rd:=by
 intro a b d h;change MU a b=some d at h;unfold MU at h;repeat' split at h
 all_goals cases h
 rfl
def aj9:dc Tryz.prog bB (aj 19) (bN Tryz.prog 19) (bg Tryz.prog 19 0) (bZ cr aQ 19 0):=iw fL (cK _) 19 0 Ro (by rw[show(cH Tryz.prog 19).length=1 by kernel_rfl];omega)
def aka:eH Tryz.prog bB (aj 19) (bN Tryz.prog 19) (bg Tryz.prog 19 0) m4.T.told:=by
 refine m4.j0 aj9 (by intro k e;have e:k∈([]:List ah):=e;cases e) (by intro h;cases h) aj8 ?_ ?_
 ·rintro⟨v,X,a,b,n,i⟩ g c d;have c:=aZ c;have d:(n-i).toNat=g+1:=d;have j:m4.next ⟨v,X,a,b,n,i⟩=sY ⟨v,X,a,b,n,i⟩:=rfl;rw[j];refine⟨⟨[true],(b6 3),_,aj6 v X a b n i,?_⟩,?_,?_,(show(m4.ay (sY ⟨v,X,a,b,n,i⟩)).2.length=3 by kernel_rfl).trans (show(m4.ay ⟨v,X,a,b,n,i⟩).2.length=3 by kernel_rfl).symm⟩
  ·have h1:i.tdiv 8=i/8:=pK (by omega);have h2:i.tmod 8=i%8:=oz (by omega)
   repeat'(refine ax ?_ ?_)
   all_goals first|exact aV|rfl|(simp only[bV,cz,h1,h2]<;>omega)
  ·have f:m4.aS (sY ⟨v,X,a,b,n,i⟩)=decide (0≤(i+1:Int)∧(i+1:Int)≤n∧n=b∧b≤1024∧a+b≤v.n∧(mK X (0+(i.tdiv 8).toNat*1) (v.l.getD (a+i.toNat*1) 0#8) (8*(i.tmod 8)):U 64).n=128):=by kernel_rfl
   refine f.trans (bl ?_);have m:=Mi X (0+(i.tdiv 8).toNat*1) (v.l.getD (a+i.toNat*1) 0#8) (8*(i.tmod 8));omega
  ·have f:m4.rem (sY ⟨v,X,a,b,n,i⟩)=((n-(i+1:Int)).toNat):=by kernel_rfl
   refine f.trans ?_;omega
 ·rintro⟨v,X,a,b,n,i⟩ c d;have c:=aZ c;have d:(n-i).toNat=0:=d;refine⟨[false],none,_,aj7 v X a b n i,?_⟩
  repeat'(refine ax ?_ ?_)
  all_goals first|exact aV|rfl|(simp only[cz]<;>omega)
def MV:cP:=m4.T.told
def akb:Told 19 0 MV:=aka.run
def DM:FuncId→Nat→Option cP|19,3=>some MV|_,_=>none
def akc:(cH Tryz.prog 19).length=1:=by kernel_rfl
def akd(spec:FuncId→Option aA.Spec):c6 (de spec DM) bB:=by
 refine c6.of fun f=>?_;by_cases a:f=19
 ·subst a;refine .inr ⟨by kernel_rfl,fun i hi e b=>?_⟩;have hi:i<(cH Tryz.prog 19).length:=hi;rw[akc]at hi;have c:i=0:=by omega
  rcases c with rfl
  ·have d:(bX (bg Tryz.prog 19 0)).bind (DM 19)=some MV:=by kernel_rfl
   obtain rfl:=dV (d.symm.trans b);exact akb
 ·refine .inl fun r=>?_
  show DM f r=none;unfold DM;split
  ·exact absurd rfl a
  ·rfl
def DN(v:U 8)(b a:Nat):yQ:=iter sY ((a:Int)-0).toNat ⟨v,jh,b,a,a,0⟩
structure MW where
 (v:U 8)(o iy:Nat)
def MX(a:List af)(b:List ah):Option MW:=
 match a with
 |[.ref (.sl 0 (.s c) (.s d) none)]=>
  match b with
  |[⟨.ag v,.ro⟩]=>some ⟨v,c,d⟩|_=>none
 |_=>none
def A6:bT MW where
 d0:=⟨0,0,0⟩
 read:=MX
 args:=fun⟨_,b,a⟩=>[.ref (.sl 0 (.s b) (.s a) none)]
 heap:=fun⟨v,_,_⟩=>[⟨.ag v,.ro⟩]
 val:=fun⟨v,b,a⟩=>(.agg (dS ((DN v b a)).X 128))
 aS:=fun⟨v,b,a⟩=>decide (a≤1024∧b+a≤v.n)
def ake:A6.Rd:=by
 intro a b d h;change MX a b=some d at h;unfold MX at h;repeat' split at h
 all_goals cases h
 exact⟨rfl,rfl⟩
def akf(v:U 8)(b a:Nat):A6.fS ⟨v,b,a⟩ (some [0]) (bY cr DM 19) [] [decide (128≤(DN v b a).X.n),m4.aS ⟨v,jh,b,a,a,0⟩]:=by show _=_;kernel_rfl
def Ul:∀r (d:yQ),(iter sY r d).X.n=d.X.n|0,d=>rfl|r+1,⟨v,X,a,b,n,i⟩=>(Ul r (sY ⟨v,X,a,b,n,i⟩)).trans rfl
def akg:br 19 A6.spec:=by
 refine A6.ok (dm fL (akd _)) ake ?_;rintro⟨v,b,c⟩ a;have a:=aZ a;have d:jh.n=128:=nh;have e:(DN v b c).X.n=128:=(Ul _ _).trans d;exact⟨_,_,_,akf v b c,ax (bl (by omega)) (ax (bl ⟨by omega,by omega,rfl,a.1,a.2,d⟩) aV)⟩
abbrev G9:=U 8→U 8→U 8→U 8→Nat→Nat→Nat→Nat→Nat→Nat→Nat→Nat→BitVec 32→BitVec 32→Int→Int→Int→U 8
abbrev He:=U 8→Nat→Nat→Int→U 8
abbrev Hf:=U 8→Nat→Nat→U 64
def lI:G9:=fun a b c h i d j e l f n g t m p k o=>(dh (wO a b c h i d j e l f n g t m p k o) 0 (wP d e f g) 64).u
def iU:Hf:=fun v a b=>(DN v a b).X
def Um(d:G9):bT DL:={G8 with out:=fun⟨a,b,c,e,bA,na,bz,nb,bH,bD,bO,ne,t,m,p,k,f⟩=>[⟨.ag a,.ro⟩,⟨.ag b,.ro⟩,⟨.ag c,.ro⟩,⟨.ag e,.ro⟩,⟨.ag (d a b c e bA na bz nb bH bD bO ne t m p k f),.own⟩]}
def akh:Um lI=G8:=rfl
def Un(a:He):bT DJ:={G7 with out:=fun⟨v,o,iy,N⟩=>[⟨.ag v,.ro⟩,⟨.ag (a v o iy N),.own⟩]}
def aki:Un fz=G7:=rfl
def Uo(rd:Hf):bT MW:={A6 with val:=fun⟨v,o,a⟩=>.agg (dS (rd v o a) 128)}
def akj:Uo iU=A6:=rfl
def DO(p:Nat):Nat→aA.Spec|0=>fun _ _ _=>none|n+1=>fK (pn p n).spec (DO p n)
def MY{p:Nat}(a:p≤8):∀n,n≤p→br 21 (DO p n)
 |0,_=>fun args c d r b=>by cases b
 |n+1,h=>dy.or (ahA a h) (MY a n (by omega))
def Hg(a:G9)(b:He)(rd:Hf)(p:Nat):FuncId→Option aA.Spec|17=>some (Um a).spec|19=>some (Uo rd).spec|20=>some (Un b).spec|21=>some (DO p p)|_=>none
def Up{p:Nat}(b:p≤8):∀f a,Hg lI fz iU p f=some a→br f a:=by
 intro f a h;unfold Hg at h;split at h
 ·cases h;rw[akh];exact aj4
 ·cases h;rw[akj];exact akg
 ·cases h;rw[aki];exact aj2
 ·cases h;exact MY b p (aX _)
 ·cases h
def lJ(z:Int):af:=.num (.int .i64 (.s z))
def us(n:Nat):List af:=List.replicate n fq
def MZ(p:Nat)(Z S A V B W C X:Nat)(P Q ke len:Int):List af:=[lJ P,.ref (.sl 0 (.s Z) (.s S) none),.ref (.sl 1 (.s A) (.s V) none),.ref (.sl 2 (.s B) (.s W) none),.ref (.sl 3 (.s C) (.s X) none),lJ Q,lJ ke,.num (.int .i64 (.c (p:Int))),lJ len,.agg (jE gy)]
def js(a b c R:U 8):List ah:=[⟨.ag a,.ro⟩,⟨.ag b,.ro⟩,⟨.ag c,.ro⟩,⟨.ag R,.ro⟩]
def yR:ah:=⟨.gen (jE gy),.own⟩
def DQ:Nat→Nat→(Nat→Nat)→List af|0,_,_=>[]|n+1,i,d=>.ref (.sm (i+7) (.s (d i)) 128)::DQ n (i+1) d
def Hh(p:Nat)(a b c R:U 8)(P Q co:Int)(d:Nat→Nat)(r:Nat→U 64)(T:List ah):List ah:=
 js a b c R++(yR::⟨.gen [lJ P,lJ Q,.num (.int .i64 (.c (p:Int))),lJ co,.num (.int .u32 (.c 0)),.ref (.sl 6 (.c 0) (.c p) none)],.own⟩::⟨.gen (DQ p 0 d),.own⟩::(yy p 0 r++T))
def M0(p:Nat)(len:Int):aI:=⟨us 7++[.num (.int .i64 (.c (p:Int))),lJ len]++us 10++[.ref (.ptr 4 (.c 0)),fq,fq,fq,fq,.ref (.ptr 5 (.c 0))]++us 14,[]⟩
def Uq:List (List Bool):=[[false],[true,false],(bE 3 3),(bE 4 7),(bE 5 15),(bE 6 31)]
def mo(p:Nat)(ke:Int):Int:=if decide (ke<8*(p:Int))=true then 8*(p:Int)else ke
def wQ(p:Nat)(d:Int):Int:=d.tdiv (4*(p:Int))*(4*(p:Int))
def jI(p:Nat)(ke:Int):Int:=(wQ p (mo p ke)).tdiv p
def uu(n:Nat):List (BitVec 8):=[BitVec.ofNat 8 n,0#8,0#8,0#8]
def kE(d:U 8)(c l:Nat):U 8:=((d.sub 0 64).app (U.of (uu c))).app (U.of (uu l))
def akk(p:Nat):List Nat:=[0,1,2,3,4,6,6+15*p]++(List.range p).map fun l=>7+15*l
def sZ:List Nat:=[1,2,3,4,5,6,7,8]
def f10:List Bool:=List.replicate 10 false
section
variable(D:G9)(Y:He)(rd:Hf)(a b c R:U 8)(Z S A V B W C X:Nat)(P Q ke len:Int)
def ry(p:Nat):U 8:=D a b c R Z S A V B W C X (BitVec.ofInt 32 Q) (BitVec.ofInt 32 ke) p len P
def A7(d:U 8)(c l:Nat):U 64:=rd (Y (kE d c l) 0 72 1024) 0 1024
def pH(d:U 8)(n l:Nat):U 64:=q7 (q7 (U.zero 64 (n*128)) 0 (A7 Y rd d 0 l)) 1 (A7 Y rd d 1 l)
def Hi(p:Nat):Nat→U 64:=pH Y rd (ry D a b c R Z S A V B W C X P Q ke len p) (jI p ke).toNat
def iC(p:Nat):Nat→Nat:=fun _=>(jI p ke).toNat
def M1(d:U 8)(n c l:Nat):List Bool:=[decide ((c+1)*128≤n*128),true&&decide ((c:Int)<(n:Int)),decide (1024≤1024∧0+1024≤(Y (kE d c l) 0 72 1024).n),true,decide (64≤d.n)]
def akl(co:Int):List Bool:=[decide (co.toNat*1024≤1099511627776),(decide (0≤co)&&decide (co≤co))&&decide (co≤1099511627776)]
def M2(d:U 8)(co:Int):Nat→List Bool|0=>[]|l+1=>M1 Y d co.toNat 1 l++(M1 Y d co.toNat 0 l++(akl co++M2 d co l))
def akm(p:Nat):List Bool:=[decide (0≤wQ p (mo p ke)∧0<(p:Int)∧wQ p (mo p ke)≤9223372036854775807),bV (wQ p (mo p ke)),decide (0≤mo p ke∧0<4*(p:Int)∧mo p ke≤9223372036854775807),decide (Z+S≤a.n∧S≤1000000∧A+V≤b.n∧V≤1000000∧B+W≤c.n∧W≤1000000∧C+X≤R.n∧X≤1000000),decide (len<1)==false,decide (Q<1)==false,decide (Q<1)==false,decide (Q<1)==false,decide ((2:Int)<P)==false,decide ((2:Int)<P)==false,decide ((2:Int)<P)==false,decide (P<0)==false,decide (P<0)==false,decide (P<0)==false]
def akn:sZ.map (fun p=>eg 4 (some (akk p)) (M0 p len,Hh p a b c R P Q (jI p ke) (iC ke p) (Hi D Y rd a b c R Z S A V B W C X P Q ke len p) []) (hO (Hg D Y rd p) aQ 10 Uq ⟨MZ p Z S A V B W C X P Q ke len++us 29,[]⟩ ⟨js a b c R,bJ,f10,[]⟩))=
 sZ.map (fun p=>some (.normal,(M0 p len,Hh p a b c R P Q (jI p ke) (iC ke p) (Hi D Y rd a b c R Z S A V B W C X P Q ke len p) []),M2 Y (ry D a b c R Z S A V B W C X P Q ke len p) (jI p ke) p++akm a b c R Z S A V B W C X P Q ke len p)):=by kernel_rfl
end
abbrev uv:=Nat→Nat→wE→Nat→U 64
def gR:uv:=fun p f d=>(uf p f d).r
def M3(aO:uv)(p f:Nat):bT wE:={pn p f with out:=fun d=>pg p d.kd d.ps d.co d.nn (aO p f ⟨d.kd,d.ps,d.co,d.pa,d.sl,c7 p d.nn,fy p d.r⟩) []}
def ako(p d:Nat):M3 gR p d=pn p d:=rfl
def Hj(aO:uv)(p:Nat):Nat→aA.Spec|0=>fun _ _ _=>none|n+1=>fK (M3 aO p n).spec (Hj aO p n)
def Ur(p:Nat):∀n,Hj gR p n=DO p n
 |0=>rfl|n+1=>by
  show fK (M3 gR p n).spec (Hj gR p n)=fK (pn p n).spec (DO p n);rw[Ur p n,ako]
def Hl(aO:uv)(p:Nat):FuncId→Option aA.Spec|21=>some (Hj aO p p)|_=>none
def akp{p:Nat}(g:p≤8):∀f d,Hl gR p f=some d→br f d:=by
 intro f d h;unfold Hl at h;split at h
 ·cases h;rw[Ur];exact MY g p (aX _)
 ·cases h
def akq:ah:=⟨.gen (List.replicate 160 fq),.ro⟩
def A8(p:Nat)(a b c e:U 8)(aM ps co:Int)(nn:Nat→Nat)(r:Nat→U 64)(T:List ah):List ah:=
 js a b c e++(akq::⟨.gen [lJ aM,lJ ps,.num (.int .i64 (.c (p:Int))),lJ co,fq,.ref (.sl 6 (.c 0) (.c p) none)],.ro⟩::⟨.gen (DQ p 0 nn),.ro⟩::(yy p 0 r++T))
def DR:Nat→Nat→List af→Option (List Nat)
 |0,_,l=>match l with|[]=>some []|_::_=>none
 |n+1,i,l=>
  match l with
  |[]=>none|d::f=>
   match d with
   |.ref q=>
    match q with
    |.sm b l g=>
     match Nat.beq b (i+7)&&Nat.beq g 128 with
     |true=>
      match l with
      |.s m=>
       match DR n (i+1) f with
       |some h=>some (m::h)|none=>none
      |.c _=>none
     |false=>none
    |_=>none
   |_=>none
def Us:∀{n i:Nat} {l:List af} {d:List Nat} {nn:Nat→Nat},DR n i l=some d→(∀j,nn (i+j)=d.getD j 0)→l=DQ n i nn
 |0,i,l,d,nn,h,_=>by
  unfold DR at h;split at h
  ·rfl
  ·cases h
 |n+1,i,l,d,nn,h,f=>by
  unfold DR at h
  repeat' split at h
  all_goals(try(cases h;done))
  rename_i b k _ g _ m _ q o;cases h;rw[dH]at g;obtain⟨h1,h2⟩:=g;have h1:b=i+7:=by simpa using h1
  have h2:k=128:=by simpa using h2
  subst h1 h2;have p:nn i=m:=f 0
  show _=.ref (.sm (i+7) (.s (nn i)) 128)::DQ n (i+1) nn;rw[p,←Us o fun j=>by rw[iF,Bo 1 j];exact f (j+1)]
def Ho:List af→Nat→Bool
 |[],0=>true|d::l,n+1=>match d with|.atom .aa=>Ho l n|_=>false
 |_,_=>false
def Ut:∀{l:List af} {n:Nat},Ho l n=true→l=List.replicate n fq
 |[],0,_=>rfl|d::l,n+1,h=>by
  unfold Ho at h;split at h
  ·rw[Ut h];rfl
  ·cases h
structure DS where
 (a b c e:U 8)(aM ps co:Int)(nn:Nat→Nat)(r:Nat→U 64)(T:List ah)
def DS.h(p:Nat)(d:DS):List ah:=A8 p d.a d.b d.c d.e d.aM d.ps d.co d.nn d.r d.T
def Hp(p:Nat)(d:List ah):Option DS:=
 match d with
 |⟨.ag a,.ro⟩::⟨.ag b,.ro⟩::⟨.ag c,.ro⟩::⟨.ag e,.ro⟩::⟨.gen u,.ro⟩::⟨.gen [.num (.int .i64 (.s aM)),.num (.int .i64 (.s ps)),.num (.int .i64 (.c f)),.num (.int .i64 (.s co)),.atom .aa,.ref (.sl 6 (.c 0) (.c g) none)],.ro⟩::⟨.gen l,.ro⟩::d=>
  match(kM f (p:Int)&&Nat.beq g p)&&Ho u 160 with
  |true=>
   match DR p 0 l with
   |some h=>
    match AP p d with
    |some (i,d)=>some ⟨a,b,c,e,aM,ps,co,fun j=>h.getD j 0,fun j=>i.getD j (U.zero 64 0),d⟩|none=>none
   |none=>none
  |false=>none
 |_=>none
def Uu{p:Nat}{f:List ah}{d:DS}(h:Hp p f=some d):f=d.h p:=by
 unfold Hp at h;split at h
 case h_2=>cases h
 split at h
 case h_2=>cases h
 rename_i g;rw[dH,dH,nu]at g;obtain⟨⟨h1,h2⟩,h3⟩:=g;simp only[eT]at h1;have h2:=rO h2;have h3:=Ut h3;subst h1 h2 h3;split at h
 case h_2=>cases h
 rename_i l i;split at h
 case h_2=>cases h
 rename_i m n k;cases h;unfold DS.h A8;dsimp only;rw[←Us i fun j=>by rw[cM],←LK k fun j=>by rw[cM]];rfl
def Uv(p:Nat)(a b c e:U 8)(aM ps co:Int)(nn:Nat→Nat)(r:Nat→U 64)(T:List ah):(A8 p a b c e aM ps co nn r T).length=p+T.length+7:=by
 unfold A8 js;simp only[fA,iY,kK,LN];omega
structure uw where
 (a b c e:U 8)(aM ps co len pa:Int)(nn:Nat→Nat)(r:Nat→U 64)
def ux(p:Nat)(d:uw):aI×List ah:=
 match d with
 |⟨a,b,c,e,aM,ps,co,len,pa,nn,r⟩=>(⟨us 7++[.J (p:Int),lJ len]++us 10++[.P 4,fq,fq,fq,fq,.P 5]++us 4++[lJ pa]++us 9,[]⟩,A8 p a b c e aM ps co nn r [])
def yS(p:Nat):List (Nat×Nat):=(List.range 4).flatMap fun d=>(List.range p).map fun l=>(d,l)
def yT(p:Nat)(aM ps co pa:Int)(nn:Nat→Nat)(r:Nat→U 64)(d:Nat):wE:=⟨aM,ps,co,pa,(d:Int),c7 p nn,fy p r⟩
def qh(aO:uv)(p:Nat)(aM ps co pa:Int)(nn:Nat→Nat):List (Nat×Nat)→(Nat→U 64)→Nat→U 64|[],r=>r|(d,l)::q,r=>qh aO p aM ps co pa nn q (aO p l (yT p aM ps co pa nn r d))
def M4(aO:uv)(p:Nat)(aM ps co pa:Int)(nn:Nat→Nat):List (Nat×Nat)→(Nat→U 64)→List Bool|[],_=>[]|(d,l)::q,r=>M4 aO p aM ps co pa nn q (aO p l (yT p aM ps co pa nn r d))++[(pn p l).aS (yT p aM ps co pa nn r d)]
def uy(aO:uv)(p:Nat)(d:uw):uw:=
 match d with
 |⟨a,b,c,e,aM,ps,co,len,pa,nn,r⟩=>⟨a,b,c,e,aM,ps,co,len,pa+1,nn,qh aO p aM ps co pa nn (yS p) r⟩
section
variable(aO:uv)(a b c e:U 8)(aM ps co len pa:Int)(nn:Nat→Nat)(r:Nat→U 64)
def akr:sZ.map (fun p=>eg (p+7) (some (List.range (p+7))) (ux p (uy aO p ⟨a,b,c,e,aM,ps,co,len,pa,nn,r⟩)) (bZ (Hl aO p) aQ 10 2 (ux p ⟨a,b,c,e,aM,ps,co,len,pa,nn,r⟩).1 ⟨(ux p ⟨a,b,c,e,aM,ps,co,len,pa,nn,r⟩).2,bJ,[true],[]⟩))=
 sZ.map fun p=>some (.normal,ux p (uy aO p ⟨a,b,c,e,aM,ps,co,len,pa,nn,r⟩),bV (pa+1)::(M4 aO p aM ps co pa nn (yS p) r++[decide (pa<ps)==true])):=by kernel_rfl
def aks:sZ.map (fun p=>eg (p+7) none (ux p ⟨a,b,c,e,aM,ps,co,len,pa,nn,r⟩) (bZ (Hl aO p) aQ 10 2 (ux p ⟨a,b,c,e,aM,ps,co,len,pa,nn,r⟩).1 ⟨(ux p ⟨a,b,c,e,aM,ps,co,len,pa,nn,r⟩).2,bJ,[false],[]⟩))=
 sZ.map fun p=>some (.exit 4,ux p ⟨a,b,c,e,aM,ps,co,len,pa,nn,r⟩,[decide (pa<ps)==false]):=by kernel_rfl
end
structure GP(p:Nat)(d:uw):Prop where
 ps:d.ps≤4
 co:8≤d.co∧d.co≤256∧d.co.tdiv 4*4=d.co
 pa:0≤d.pa∧d.pa≤d.ps
 nn:∀i,i<p→(d.nn i:Int)=d.co
 r:∀i,i<p→(d.r i).n=d.nn i*128
open Classical in
def og(p:Nat):eN uw where
 d0:=⟨0,0,0,0,0,0,0,0,0,fun _=>0,fun _=>0⟩
 read:=fun f g=>
  match f with
  |⟨.atom .aa::.atom .aa::.atom .aa::.atom .aa::.atom .aa::.atom .aa::.atom .aa::.num (.int .i64 (.c h))::.num (.int .i64 (.s i))::.atom .aa::.atom .aa::.atom .aa::.atom .aa::.atom .aa::.atom .aa::.atom .aa::.atom .aa::.atom .aa::.atom .aa::.ref (.ptr 4 (.c 0))::.atom .aa::.atom .aa::.atom .aa::.atom .aa::.ref (.ptr 5 (.c 0))::.atom .aa::.atom .aa::.atom .aa::.atom .aa::.num (.int .i64 (.s pa))::.atom .aa::.atom .aa::.atom .aa::.atom .aa::.atom .aa::.atom .aa::.atom .aa::.atom .aa::.atom .aa::[],[]⟩=>
   match kM h (p:Int)with
   |true=>
    match Hp p g with
    |some ⟨a,b,c,e,aM,ps,co,nn,r,T⟩=>
     match T with
     |[]=>some ⟨a,b,c,e,aM,ps,co,i,pa,nn,r⟩|_=>none
    |none=>none
   |false=>none
  |_=>none
 ay:=ux p
 next:=uy gR p
 rem:=fun d=>(d.ps-d.pa).toNat
 aS:=fun d=>decide (GP p d)
 out:=.exit 4
def akt(p:Nat)(g:aI)(i:List ah)(d:uw)(h:(og p).read g i=some d):(g,i)=(og p).ay d:=by
 unfold og at h;dsimp only at h;split at h
 case h_2=>cases h
 split at h
 case h_2=>cases h
 rename_i f;rw[nu]at f;simp only[eT]at f;subst f;split at h
 case h_2=>cases h
 rename_i j;split at h
 case h_2=>cases h
 cases h;rw[Uu j];rfl
def Uw{p:Nat}(h1:1≤p)(d:p≤8):p∈sZ:=by
 unfold sZ;simp only[jN,HW,HX];omega
def Ux(p l:Nat)(d:wE)(i:Nat):(gR p l d i).n=(d.r i).n:=(Tf p l (d.co.tdiv 4-0).toNat ⟨d.kd,d.ps,d.co,d.pa,d.sl,d.co.tdiv 4,0,d.nn,d.r⟩).n i
def aku{p s l:Nat}(h:(s,l)∈yS p):s<4∧l<p:=by
 unfold yS at h;simp only[WE,zc,oy,aN]at h;obtain⟨a,h1,b,h2,rfl,rfl⟩:=h;exact⟨h1,h2⟩
section
variable{p:Nat}{S R co P:Int}{Q:Nat→Nat}
def M5:∀(q:List (Nat×Nat)) (r:Nat→U 64) (i:Nat),i<p→(qh gR p S R co P Q q r i).n=(r i).n
 |[],r,i,_=>rfl|(a,l)::q,r,i,h=>by
  refine(M5 q _ i h).trans ?_;rw[Ux]
  show(fy p r i).n=_;rw[mZ r h]
def Uy(h2:8≤co∧co≤256∧co.tdiv 4*4=co)(h3:0≤P∧P≤3)(d:∀i,i<p→(Q i:Int)=co):∀(q:List (Nat×Nat)) (r:Nat→U 64),(∀t∈q,t.1<4∧t.2<p)→(∀i,i<p→(r i).n=Q i*128)→∀b∈M4 gR p S R co P Q q r,b=true
 |[],r,_,_,b,a=>by cases a
 |(c,l)::q,r,e,g,b,a=>by
  have h4:=e _ (lO ..);have h4:c<4∧l<p:=h4;have f:∀i,i<p→(fy p r i).n=Q i*128:=fun i hi=>by rw[mZ r hi];exact g i hi
  rcases fR.1 a with a|a
  ·exact Uy h2 h3 d q _ (fun t h=>e t (m9 _ h)) (fun i hi=>(Ux ..).trans (f i hi)) b a
  ·rw[tc.1 a];exact@bl _ (Classical.propDecidable _) (show GS p l _ from⟨h2,h3,⟨by show(0:Int)≤c;omega,by show(c:Int)≤3;omega⟩,fun i hi=>by show(c7 p Q i:Int)=co;rw[wF Q hi];exact d i hi,fun i hi=>by show(fy p r i).n=c7 p Q i*128;rw[wF Q hi];exact f i hi⟩)
end
def akv(p:Nat)(d:uw):((og p).ay d).2.length=p+7:=by
 obtain⟨a,b,c,e,S,R,co,f,P,Q,r⟩:=d;exact Uv ..
def akw{p:Nat}(h1:1≤p)(A:p≤8):eH Tryz.prog bB (aj 10) (bN Tryz.prog 10) (bg Tryz.prog 10 2) (og p).T.told:=by
 have B:=Uw h1 A;have j:=akv p;refine(og p).j0 (iw (akp A) (cK _) 10 2 vM (by rw[show(cH Tryz.prog 10).length=9 by kernel_rfl];omega)) (by intro k v;have v:k∈([]:List ah):=v;cases v) (by intro h;cases h) (akt p) ?_ ?_
 ·rintro⟨a,b,c,d,S,R,co,e,P,Q,r⟩ C m f;have m:GP p ⟨a,b,c,d,S,R,co,e,P,Q,r⟩:=@aZ _ (Classical.propDecidable _) m;have f:(R-P).toNat=C+1:=f;obtain⟨w,o,x,q,u⟩:=m;have w:R≤4:=w;have o:8≤co∧co≤256∧co.tdiv 4*4=co:=o;have x:0≤P∧P≤R:=x;have q:∀i,i<p→(Q i:Int)=co:=q;have u:∀i,i<p→(r i).n=Q i*128:=u;have E:(og p).next ⟨a,b,c,d,S,R,co,e,P,Q,r⟩=uy gR p ⟨a,b,c,d,S,R,co,e,P,Q,r⟩:=rfl;have y:((og p).ay ⟨a,b,c,d,S,R,co,e,P,Q,r⟩).2.length-(og p).cG.length=p+7:=(gz _).trans (j _);rw[E,y];have z:=gO (akr gR a b c d S R co e P Q r) B;refine⟨⟨[true],some (List.range (p+7)),_,z,?_⟩,?_,?_,(j _).trans (j _).symm⟩
  ·refine ax (hU (by omega)) fun D g=>?_;rcases fR.1 g with g|g
   ·exact Uy o ⟨x.1,by omega⟩ q _ r (fun t F=>aku (s:=t.1) (l:=t.2) F) u D g
   ·exact ax (by rw[eT];exact bl (by omega)) aV D g
  ·exact@bl _ (Classical.propDecidable _) (show GP p _ from⟨w,o,⟨by show 0≤P+1;omega,by show P+1≤R;omega⟩,q,fun i hi=>(M5 _ r i hi).trans (u i hi)⟩)
  ·show(R-(P+1)).toNat=C;omega
 ·rintro⟨a,b,c,d,S,R,co,e,P,Q,r⟩ m f;have f:(R-P).toNat=0:=f;have y:((og p).ay ⟨a,b,c,d,S,R,co,e,P,Q,r⟩).2.length-(og p).cG.length=p+7:=(gz _).trans (j _);rw[y];have z:=gO (aks gR a b c d S R co e P Q r) B;exact⟨[false],none,[decide (P<R)==false],z,ax (by rw[eT];exact jQ (by omega)) aV⟩
structure qi where
 (a b c e:U 8)(aM ps co len:Int)(nn:Nat→Nat)(r:Nat→U 64)(Z:U 64)(i:Int)
def akx(p d:Nat)(len:Int):List af:=us 7++[.num (.int .i64 (.c (p:Int))),lJ len]++us 10++[.ref (.ptr 4 (.c 0)),fq,fq,fq,fq,.ref (.ptr 5 (.c 0))]++us 7++[.ref (.ptr (p+7) (.c 0)),.num (.int .i64 (.c (d:Int)))]++us 5
def s0(p f:Nat)(d:qi):aI×List ah:=
 match d with
 |⟨a,b,c,e,aM,ps,co,len,nn,r,Z,i⟩=>(⟨akx p f len,[⟨156,lJ i⟩]⟩,A8 p a b c e aM ps co nn r [⟨.bt Z,.own⟩])
def qj(f:Nat)(d:qi):qi:=
 match d with
 |⟨a,b,c,e,aM,ps,co,len,nn,r,Z,i⟩=>⟨a,b,c,e,aM,ps,co,len,nn,r,AQ (r f) (co-1) Z i,i+1⟩
def qk(p d:Nat):eN qi where
 d0:=⟨0,0,0,0,0,0,0,0,fun _=>0,fun _=>0,0,0⟩
 read:=fun f g=>
  match f with
  |⟨.atom .aa::.atom .aa::.atom .aa::.atom .aa::.atom .aa::.atom .aa::.atom .aa::.num (.int .i64 (.c h))::.num (.int .i64 (.s j))::.atom .aa::.atom .aa::.atom .aa::.atom .aa::.atom .aa::.atom .aa::.atom .aa::.atom .aa::.atom .aa::.atom .aa::.ref (.ptr 4 (.c 0))::.atom .aa::.atom .aa::.atom .aa::.atom .aa::.ref (.ptr 5 (.c 0))::.atom .aa::.atom .aa::.atom .aa::.atom .aa::.atom .aa::.atom .aa::.atom .aa::.ref (.ptr q (.c 0))::.num (.int .i64 (.c l))::.atom .aa::.atom .aa::.atom .aa::.atom .aa::.atom .aa::[],[⟨156,.num (.int .i64 (.s i))⟩]⟩=>
   match(kM h (p:Int)&&kM l (d:Int))&&Nat.beq q (p+7)with
   |true=>
    match Hp p g with
    |some ⟨a,b,c,e,aM,ps,co,nn,r,T⟩=>
     match T with
     |[⟨.bt Z,.own⟩]=>some ⟨a,b,c,e,aM,ps,co,j,nn,r,Z,i⟩|_=>none
    |none=>none
   |false=>none
  |_=>none
 ay:=s0 p d
 next:=qj d
 rem:=fun⟨_,_,_,_,_,_,_,_,_,_,_,i⟩=>(128-i).toNat
 aS:=fun⟨_,_,_,_,_,_,co,_,nn,r,Z,i⟩=>decide (0≤i∧i≤128∧1≤co∧co≤256∧(nn d:Int)=co∧(r d).n=nn d*128∧Z.n=128)
 out:=.exit 12
def Uz(f:Nat)(d:qi):List Bool:=[bV (d.i+1),decide (0+d.i.toNat*1<d.Z.n),oa d.i 128,decide (dK (d.co-1)+d.i.toNat*1<(d.r f).n),oa d.i 128,oa (d.co-1) (d.nn f),bV (d.co-1),decide (0+d.i.toNat*1<d.Z.n),oa d.i 128,decide (d.i<128)==true]
section
variable(a b c e:U 8)(aM ps co len:Int)(nn:Nat→Nat)(r:Nat→U 64)(Z:U 64)(i:Int)
def aky:
 kD.map (fun q=>eg (q.1+8) (some (List.range (q.1+8))) (s0 q.1 q.2 (qj q.2 ⟨a,b,c,e,aM,ps,co,len,nn,r,Z,i⟩)) (bZ cr aQ 10 6 (s0 q.1 q.2 ⟨a,b,c,e,aM,ps,co,len,nn,r,Z,i⟩).1 ⟨(s0 q.1 q.2 ⟨a,b,c,e,aM,ps,co,len,nn,r,Z,i⟩).2,bJ,[true],[]⟩))=
  kD.map fun q=>some (.normal,s0 q.1 q.2 (qj q.2 ⟨a,b,c,e,aM,ps,co,len,nn,r,Z,i⟩),Uz q.2 ⟨a,b,c,e,aM,ps,co,len,nn,r,Z,i⟩):=by kernel_rfl
def akz:
 kD.map (fun q=>eg (q.1+8) none (s0 q.1 q.2 ⟨a,b,c,e,aM,ps,co,len,nn,r,Z,i⟩) (bZ cr aQ 10 6 (s0 q.1 q.2 ⟨a,b,c,e,aM,ps,co,len,nn,r,Z,i⟩).1 ⟨(s0 q.1 q.2 ⟨a,b,c,e,aM,ps,co,len,nn,r,Z,i⟩).2,bJ,[false],[]⟩))=
  kD.map fun q=>some (.exit 12,s0 q.1 q.2 ⟨a,b,c,e,aM,ps,co,len,nn,r,Z,i⟩,[decide (i<128)==false]):=by kernel_rfl
end
def akA(p f:Nat)(d:qi):(s0 p f d).2.length=p+8:=by
 obtain⟨a,b,c,e,aM,ps,co,len,nn,r,Z,i⟩:=d;exact Uv ..
def akB(p f:Nat)(g:aI)(j:List ah)(d:qi)(h:(qk p f).read g j=some d):(g,j)=(qk p f).ay d:=by
 unfold qk at h;dsimp only at h;split at h
 case h_2=>cases h
 split at h
 case h_2=>cases h
 rename_i k;rw[dH,dH,nu,nu]at k;obtain⟨⟨h1,h2⟩,h3⟩:=k;simp only[eT]at h1 h2;have h3:=rO h3;subst h1 h2 h3;split at h
 case h_2=>cases h
 rename_i l;split at h
 case h_2=>cases h
 cases h;rw[Uu l];rfl
def akC{p f:Nat}(u:p≤8)(v:f<p):eH Tryz.prog bB (aj 10) (bN Tryz.prog 10) (bg Tryz.prog 10 6) (qk p f).T.told:=by
 have s:=GG u v;have l:∀d:qi,((qk p f).ay d).2.length=p+8:=akA p f;refine(qk p f).j0 (iw fL (cK _) 10 6 vM (by rw[show(cH Tryz.prog 10).length=9 by kernel_rfl];omega)) (by intro k o;have o:k∈([]:List ah):=o;cases o) (by intro h;cases h) (akB p f) ?_ ?_
 ·rintro⟨a,b,c,e,aM,ps,co,len,nn,r,Z,i⟩ t m g;have m:=aZ m;have g:(128-i).toNat=t+1:=g;obtain⟨w,h1,h2,h3,h4,x,y⟩:=m;have j:=gO (aky a b c e aM ps co len nn r Z i) s;dsimp only at j;have q:((qk p f).ay ⟨a,b,c,e,aM,ps,co,len,nn,r,Z,i⟩).2.length-(qk p f).cG.length=p+8:=(gz _).trans (l _);rw[q];refine⟨⟨[true],some (List.range (p+8)),Uz f ⟨a,b,c,e,aM,ps,co,len,nn,r,Z,i⟩,j,?_⟩,?_,?_,(l _).trans (l _).symm⟩
  ·have hi:=yA (c:=i) (n:=128) ⟨w,by omega⟩;exact ax (hU (by show _≤i+1∧i+1≤_;omega)) (ax (bl (by show 0+i.toNat*1<Z.n;omega)) (ax hi (ax (bl (by show dK (co-1)+i.toNat*1<(r f).n;unfold dK;omega)) (ax hi (ax (yA (by show 0≤co-1∧co-1<nn f;omega)) (ax (hU (by show _≤co-1∧co-1≤_;omega)) (ax (bl (by show 0+i.toNat*1<Z.n;omega)) (ax hi (ax (by rw[eT];exact bl (by show i<128;omega)) aV)))))))))
  ·exact bl ⟨by omega,by omega,h2,h3,h4,x,y⟩
  ·show(128-(i+1)).toNat=t;omega
 ·rintro⟨a,b,c,e,aM,ps,co,len,nn,r,Z,i⟩ m g;have g:(128-i).toNat=0:=g;have j:=gO (akz a b c e aM ps co len nn r Z i) s;dsimp only at j;have q:((qk p f).ay ⟨a,b,c,e,aM,ps,co,len,nn,r,Z,i⟩).2.length-(qk p f).cG.length=p+8:=(gz _).trans (l _);rw[q];exact⟨[false],none,[decide (i<128)==false],j,ax (by rw[eT];exact jQ (by omega)) aV⟩
def DT(f g:cP):cP:=fun d S=>
 match f d S with
 |some r=>some r|none=>g d S
def dc.DT{P:Program}{G:Nat→Option (List af)}{aj d:Nat}{c:Code}{f g:cP}(e:dc P G aj d c f)(i:dc P G aj d c g):dc P G aj d c (DT f g):=by
 intro k S l m n h;unfold YtcminalaicidiaaGreatDoor.DT at h;split at h
 ·rename_i r j;cases h;exact e _ _ _ _ _ j
 ·exact i _ _ _ _ _ h
def Hq(p:Nat):Nat→cP|0=>fun _ _=>none|n+1=>DT (qk p n).T.told (Hq p n)
def UA{p:Nat}(d:p≤8):∀n,n≤p→dc Tryz.prog bB (aj 10) (bN Tryz.prog 10) (.loop (bg Tryz.prog 10 6)) (Hq p n)
 |0,_=>fun e S f g i h=>by cases h
 |n+1,h=>dc.DT (akC d h).run (UA d n (by omega))
def wR(p:Nat):FuncId→Nat→Option cP|10,17=>some (og p).T.told|10,31=>some (Hq p p)|_,_=>none
def akD{p:Nat}(h1:1≤p)(g:p≤8)(spec:FuncId→Option aA.Spec):c6 (de spec (wR p)) bB:=by
 refine c6.of fun f=>?_;by_cases e:f=10
 ·subst e;refine .inr ⟨by kernel_rfl,fun i hi l d=>?_⟩;have hi:i<(cH Tryz.prog 10).length:=hi;rw[show(cH Tryz.prog 10).length=9 by kernel_rfl]at hi;have no:∀j,(bX (bg Tryz.prog 10 j)).bind (wR p 10)=none→(bX (bg Tryz.prog 10 j)).bind (wR p 10)=some l→False:=fun j h k=>by rw[h]at k;cases k
  have m:i=0∨i=1∨i=2∨i=3∨i=4∨i=5∨i=6∨i=7∨i=8:=by omega
  rcases m with rfl|rfl|rfl|rfl|rfl|rfl|rfl|rfl|rfl
  ·exact(no 0 (by kernel_rfl) d).elim
  ·exact(no 1 (by kernel_rfl) d).elim
  ·have Q:(bX (bg Tryz.prog 10 2)).bind (wR p 10)=some (og p).T.told:=by kernel_rfl
   obtain rfl:=dV (Q.symm.trans d);exact(akw h1 g).run
  ·exact(no 3 (by kernel_rfl) d).elim
  ·exact(no 4 (by kernel_rfl) d).elim
  ·exact(no 5 (by kernel_rfl) d).elim
  ·have Q:(bX (bg Tryz.prog 10 6)).bind (wR p 10)=some (Hq p p):=by kernel_rfl
   obtain rfl:=dV (Q.symm.trans d);exact UA g p (aX _)
  ·exact(no 7 (by kernel_rfl) d).elim
  ·exact(no 8 (by kernel_rfl) d).elim
 ·refine .inl fun r=>?_
  show wR p f r=none;unfold wR;split
  ·exact absurd rfl e
  ·exact absurd rfl e
  ·rfl
def m5(p:Nat)(a b c Q:U 8)(V R co len:Int)(W:Nat→Nat)(r:Nat→U 64):uw:=iter (uy gR p) (R-0).toNat ⟨a,b,c,Q,V,R,co,len,0,c7 p W,fy p r⟩
def ql(p:Nat)(a b c Q:U 8)(V R co:Int)(W:Nat→Nat):Nat→Int→(Nat→U 64)→U 64→Nat→qi
 |0,len,r,Z,_=>⟨a,b,c,Q,V,R,co,len,W,r,Z,128⟩|n+1,len,r,Z,l=>
  let q:=iter (qj l) (128-(0:Int)).toNat ⟨a,b,c,Q,V,R,co,len,c7 p W,fy p r,Z,0⟩
  ql p a b c Q V R co W n q.len q.r q.Z (l+1)
def M6(p:Nat)(a b c Q:U 8)(V R co:Int)(W:Nat→Nat):Nat→Int→(Nat→U 64)→U 64→Nat→List Bool
 |0,_,_,_,_=>[]|n+1,len,r,Z,l=>
  let q:=iter (qj l) (128-(0:Int)).toNat ⟨a,b,c,Q,V,R,co,len,c7 p W,fy p r,Z,0⟩
  M6 p a b c Q V R co W n q.len q.r q.Z (l+1)++[(qk p l).aS ⟨a,b,c,Q,V,R,co,len,c7 p W,fy p r,Z,0⟩]
def UB:List (List Bool):=[(bE 7 63),(bE 8 127),(bE 9 255)]
def M7(len:Int):aI:=⟨us 8++[lJ len]++us 10++[.ref (.ptr 4 (.c 0))]++us 12++[.ref (.ptr 5 (.c 0))]++us 6,[]⟩
section
variable(a b c Q:U 8)(V R co len:Int)(W:Nat→Nat)(r:Nat→U 64)
def A9(p:Nat):qi:=ql p a b c Q V R co W p (m5 p a b c Q V R co len W r).len (m5 p a b c Q V R co len W r).r jh 0
def akE:sZ.map (fun p=>eg 4 (some [0,1,2,3,4,p+7]) (M7 (A9 a b c Q V R co len W r p).len,js a b c Q++[yR,⟨.bt (A9 a b c Q V R co len W r p).Z,.own⟩]) (hO cr (wR p) 10 UB (M0 p len) ⟨Hh p a b c Q V R co W r [],bJ,[],[]⟩))=
 sZ.map fun p=>some (.normal,(M7 (A9 a b c Q V R co len W r p).len,js a b c Q++[yR,⟨.bt (A9 a b c Q V R co len W r p).Z,.own⟩]),M6 p a b c Q V R co W p (m5 p a b c Q V R co len W r).len (m5 p a b c Q V R co len W r).r jh 0++[(og p).aS ⟨a,b,c,Q,V,R,co,len,0,c7 p W,fy p r⟩]):=by kernel_rfl
end
def oh(w:BitVec 64)(k:Nat):BitVec 8:=(w>>>(8*k)).setWidth 8
def appW(B:U 8)(w:BitVec 64):U 8:=((((((((B.app (U.of [oh w 0])).app (U.of [oh w 1])).app (U.of [oh w 2])).app (U.of [oh w 3])).app (U.of [oh w 4])).app (U.of [oh w 5])).app (U.of [oh w 6])).app (U.of [oh w 7]))
def Hr(B:U 8)(w:BitVec 64):(appW B w).n=B.n+8:=rfl
structure s3 where
 (a b c e:U 8)(len:Int)(Z:U 64)(B:U 8)(k:Nat)(i:Int)
def Hs(d:s3):aI×List ah:=
 match d with
 |⟨a,b,c,e,len,Z,B,k,i⟩=>(⟨.aa::.aa::.aa::.aa::.aa::.aa::.aa::.aa::(.aq len)::.aa::.aa::.aa::.aa::.aa::.aa::.aa::.aa::.aa::.aa::(.P 4)::.aa::.aa::.aa::.aa::.aa::.aa::.aa::.aa::.aa::.aa::.aa::.aa::.aa::.aa::.aa::(.ref (.sl 21 (.c 0) (.s k) none))::.aa::.aa::.aa::[],[⟨182,.aq i⟩,⟨181,.agg (dS Z 128)⟩]⟩,[⟨.ag a,.ro⟩,⟨.ag b,.ro⟩,⟨.ag c,.ro⟩,⟨.ag e,.ro⟩,⟨.gen (jE gy),.own⟩,cp,cp,cp,cp,cp,cp,cp,cp,cp,cp,cp,cp,cp,cp,cp,cp,⟨.ag B,.own⟩])
def akF(d:s3):aI×List ah:=
 match d with
 |⟨a,b,c,e,len,Z,B,k,i⟩=>(⟨.aa::.aa::.aa::.aa::.aa::.aa::.aa::.aa::(.aq len)::.aa::.aa::.aa::.aa::.aa::.aa::.aa::.aa::.aa::.aa::(.P 4)::.aa::.aa::.aa::.aa::.aa::.aa::.aa::.aa::.aa::.aa::.aa::.aa::.aa::.aa::.aa::(.ref (.sl 22 (.c 0) (.s k) none))::.aa::.aa::.aa::[],[⟨182,.aq i⟩,⟨181,.agg (dS Z 128)⟩]⟩,[⟨.ag a,.ro⟩,⟨.ag b,.ro⟩,⟨.ag c,.ro⟩,⟨.ag e,.ro⟩,⟨.gen (jE gy),.own⟩,cp,cp,cp,cp,cp,cp,cp,cp,cp,cp,cp,cp,cp,cp,cp,cp,cp,⟨.ag B,.own⟩])
def qm(d:s3):s3:=
 match d with
 |⟨a,b,c,e,len,Z,B,k,i⟩=>⟨a,b,c,e,len,Z,appW B ((dg Z).l.getD i.toNat 0#64),k+8,i+1⟩
def M8(d:aI)(e:List ah):Option s3:=
 match d with
 |⟨((.atom .aa)::(.atom .aa)::(.atom .aa)::(.atom .aa)::(.atom .aa)::(.atom .aa)::(.atom .aa)::(.atom .aa)::(.num (.int .i64 (.s len)))::(.atom .aa)::(.atom .aa)::(.atom .aa)::(.atom .aa)::(.atom .aa)::(.atom .aa)::(.atom .aa)::(.atom .aa)::(.atom .aa)::(.atom .aa)::(.ref (.ptr 4 (.c 0)))::(.atom .aa)::(.atom .aa)::(.atom .aa)::(.atom .aa)::(.atom .aa)::(.atom .aa)::(.atom .aa)::(.atom .aa)::(.atom .aa)::(.atom .aa)::(.atom .aa)::(.atom .aa)::(.atom .aa)::(.atom .aa)::(.atom .aa)::(.ref (.sl 21 (.c 0) (.s k) none))::(.atom .aa)::(.atom .aa)::(.atom .aa)::[]),[⟨182,.num (.int .i64 (.s i))⟩,⟨181,.agg f⟩]⟩=>
  match e with
  |[⟨.ag a,.ro⟩,⟨.ag b,.ro⟩,⟨.ag c,.ro⟩,⟨.ag g,.ro⟩,⟨.gen h,.own⟩,⟨.gen [],.bn⟩,⟨.gen [],.bn⟩,⟨.gen [],.bn⟩,⟨.gen [],.bn⟩,⟨.gen [],.bn⟩,⟨.gen [],.bn⟩,⟨.gen [],.bn⟩,⟨.gen [],.bn⟩,⟨.gen [],.bn⟩,⟨.gen [],.bn⟩,⟨.gen [],.bn⟩,⟨.gen [],.bn⟩,⟨.gen [],.bn⟩,⟨.gen [],.bn⟩,⟨.gen [],.bn⟩,⟨.gen [],.bn⟩,⟨.ag B,.own⟩]=>
   (match mU h gy with
   |true=>
   (match jZ 128 f with
   |some Z=>some ⟨a,b,c,g,len,Z,B,k,i⟩|none=>none)
   |false=>none)
  |_=>none
 |_=>none
def om:eN s3 where
 qR:=⟨.aa::.aa::.aa::.aa::.aa::.aa::.aa::.aa::(.aq 0)::.aa::.aa::.aa::.aa::.aa::.aa::.aa::.aa::.aa::.aa::(.P 4)::.aa::.aa::.aa::.aa::.aa::.aa::.aa::.aa::.aa::.aa::.aa::.aa::.aa::.aa::.aa::(.sl 21 (.c 0) (.s 0) none)::.aa::.aa::.aa::[],[⟨182,.aq 0⟩,⟨181,.agg (List.replicate 128 (.au 0#64))⟩]⟩
 qS:=[⟨.ag (U.zero 8 0),.ro⟩,⟨.ag (U.zero 8 0),.ro⟩,⟨.ag (U.zero 8 0),.ro⟩,⟨.ag (U.zero 8 0),.ro⟩,⟨.gen (jE gy),.own⟩,cp,cp,cp,cp,cp,cp,cp,cp,cp,cp,cp,cp,cp,cp,cp,cp,⟨.ag (U.zero 8 0),.own⟩]
 d0:=⟨0,0,0,0,0,0,0,0,0⟩
 read:=M8
 ay:=akF
 next:=qm
 rem:=fun⟨_,_,_,_,_,_,_,_,i⟩=>(128-i).toNat
 aS:=fun⟨_,_,_,_,_,_,B,k,i⟩=>decide (k=B.n∧1≤i∧i≤128∧(k:Int)=8*i)
 out:=.exit 14
def akG(a b c d:U 8)(len:Int)(Z:U 64)(B:U 8)(k:Nat)(i:Int):jf om.ay 22 ⟨a,b,c,d,len,Z,B,k,i⟩ (some [0,1,2,3,4,5,6,7,8,9,10,11,12,13,14,15,16,17,18,19,20,21,38]) (om.ay (qm ⟨a,b,c,d,len,Z,B,k,i⟩)) (bZ cr aQ 10 7) [true] .normal [bV (i+1),(true&&((((((((k+1)+1)+1)+1)+1)+1)+1)==(((((((B.n+1)+1)+1)+1)+1)+1)+1))),decide ((((((((((k+1)+1)+1)+1)+1)+1)+1)+1)*1)≤1099511627776),(true&&(((((((k+1)+1)+1)+1)+1)+1)==((((((B.n+1)+1)+1)+1)+1)+1))),decide (((((((((k+1)+1)+1)+1)+1)+1)+1)*1)≤1099511627776),(true&&((((((k+1)+1)+1)+1)+1)==(((((B.n+1)+1)+1)+1)+1))),decide ((((((((k+1)+1)+1)+1)+1)+1)*1)≤1099511627776),(true&&(((((k+1)+1)+1)+1)==((((B.n+1)+1)+1)+1))),decide (((((((k+1)+1)+1)+1)+1)*1)≤1099511627776),(true&&((((k+1)+1)+1)==(((B.n+1)+1)+1))),decide ((((((k+1)+1)+1)+1)*1)≤1099511627776),(true&&(((k+1)+1)==((B.n+1)+1))),decide (((((k+1)+1)+1)*1)≤1099511627776),(true&&((k+1)==(B.n+1))),decide ((((k+1)+1)*1)≤1099511627776),(true&&(k==B.n)),decide (((k+1)*1)≤1099511627776),(decide (0≤i)&&decide (i<(128:Int))),(decide (i<128)==true)]:=by show _=_;kernel_rfl
def akH(a b c d:U 8)(len:Int)(Z:U 64)(B:U 8)(k:Nat)(i:Int):jf om.ay 22 ⟨a,b,c,d,len,Z,B,k,i⟩ none (om.fin ⟨a,b,c,d,len,Z,B,k,i⟩) (bZ cr aQ 10 7) [false] om.out [(decide (i<128)==false)]:=by show _=_;kernel_rfl
def akI(a:aI)(b:List ah)(d:s3)(h:om.read a b=some d):(a,b)=Hs d:=by
 replace h:M8 a b=some d:=h;unfold M8 at h;split at h
 case h_2=>cases h
 split at h
 case h_2=>cases h
 split at h
 case h_2=>cases h
 rename_i c;obtain rfl:=qQ c;split at h
 case h_2=>cases h
 rename_i e;obtain⟨rfl,_⟩:=kW e;cases h;rfl
def UC:dc Tryz.prog bB (aj 10) (bN Tryz.prog 10) (bg Tryz.prog 10 7) (bZ cr aQ 10 7):=iw fL (cK _) 10 7 vM (by rw[show(cH Tryz.prog 10).length=9 by kernel_rfl];omega)
def akJ:eH Tryz.prog bB (aj 10) (bN Tryz.prog 10) (bg Tryz.prog 10 7) (om.M 21 Hs).told:=by
 refine om.Ri 21 22 Hs UC rfl (by intro h;cases h) akI (by rintro⟨a,b,c,d,len,Z,B,k,i⟩;exact⟨rfl,_,rfl,rfl⟩) ?_ ?_
 ·rintro⟨a,b,c,d,len,Z,B,k,i⟩ g e f;have e:=aZ e;have f:(128-i).toNat=g+1:=f;have j:om.next ⟨a,b,c,d,len,Z,B,k,i⟩=qm ⟨a,b,c,d,len,Z,B,k,i⟩:=rfl;rw[j];refine⟨⟨[true],(some [0,1,2,3,4,5,6,7,8,9,10,11,12,13,14,15,16,17,18,19,20,21,38]),_,akG a b c d len Z B k i,?_⟩,?_,?_⟩
  ·repeat'(refine ax ?_ ?_)
   all_goals first|exact aV|rfl|(simp only[bV,cz]<;>omega)
  ·have d:om.aS (qm ⟨a,b,c,d,len,Z,B,k,i⟩)=decide ((k+8:Nat)=(appW B ((dg Z).l.getD i.toNat 0#64):U 8).n∧1≤(i+1:Int)∧(i+1:Int)≤128∧((k+8:Nat):Int)=8*(i+1:Int)):=by kernel_rfl
   refine d.trans (bl ?_);have:=Hr B ((dg Z).l.getD i.toNat 0#64);omega
  ·have d:om.rem (qm ⟨a,b,c,d,len,Z,B,k,i⟩)=((128-(i+1:Int)).toNat):=by kernel_rfl
   refine d.trans ?_;omega
 ·rintro⟨a,b,c,d,len,Z,B,k,i⟩ e f;have e:=aZ e;have f:(128-i).toNat=0:=f;refine⟨[false],none,_,akH a b c d len Z B k i,?_⟩
  repeat'(refine ax ?_ ?_)
  all_goals first|exact aV|rfl|(simp only[cz]<;>omega)
def M9:cP:=(xT (bZ cr aQ 10 7) (om.M 21 Hs).told)
def akK:Told 10 7 M9:=(eH.xT UC akJ).run
def jJ:FuncId→Nat→Option cP|10,37=>some M9|_,_=>none
def akL:(cH Tryz.prog 10).length=9:=by kernel_rfl
def akM(spec:FuncId→Option aA.Spec):c6 (de spec jJ) bB:=by
 refine c6.of fun f=>?_;by_cases d:f=10
 ·subst d;refine .inr ⟨by kernel_rfl,fun i hi c a=>?_⟩;have hi:i<(cH Tryz.prog 10).length:=hi;rw[akL]at hi;have e:i=0∨i=1∨i=2∨i=3∨i=4∨i=5∨i=6∨i=7∨i=8:=by omega
  rcases e with rfl|rfl|rfl|rfl|rfl|rfl|rfl|rfl|rfl
  ·have b:(bX (bg Tryz.prog 10 0)).bind (jJ 10)=none:=by kernel_rfl
   have a:(bX (bg Tryz.prog 10 0)).bind (jJ 10)=some c:=a;rw[b]at a;cases a
  ·have b:(bX (bg Tryz.prog 10 1)).bind (jJ 10)=none:=by kernel_rfl
   have a:(bX (bg Tryz.prog 10 1)).bind (jJ 10)=some c:=a;rw[b]at a;cases a
  ·have b:(bX (bg Tryz.prog 10 2)).bind (jJ 10)=none:=by kernel_rfl
   have a:(bX (bg Tryz.prog 10 2)).bind (jJ 10)=some c:=a;rw[b]at a;cases a
  ·have b:(bX (bg Tryz.prog 10 3)).bind (jJ 10)=none:=by kernel_rfl
   have a:(bX (bg Tryz.prog 10 3)).bind (jJ 10)=some c:=a;rw[b]at a;cases a
  ·have b:(bX (bg Tryz.prog 10 4)).bind (jJ 10)=none:=by kernel_rfl
   have a:(bX (bg Tryz.prog 10 4)).bind (jJ 10)=some c:=a;rw[b]at a;cases a
  ·have b:(bX (bg Tryz.prog 10 5)).bind (jJ 10)=none:=by kernel_rfl
   have a:(bX (bg Tryz.prog 10 5)).bind (jJ 10)=some c:=a;rw[b]at a;cases a
  ·have b:(bX (bg Tryz.prog 10 6)).bind (jJ 10)=none:=by kernel_rfl
   have a:(bX (bg Tryz.prog 10 6)).bind (jJ 10)=some c:=a;rw[b]at a;cases a
  ·have b:(bX (bg Tryz.prog 10 7)).bind (jJ 10)=some M9:=by kernel_rfl
   obtain rfl:=dV (b.symm.trans a);exact akK
  ·have b:(bX (bg Tryz.prog 10 8)).bind (jJ 10)=none:=by kernel_rfl
   have a:(bX (bg Tryz.prog 10 8)).bind (jJ 10)=some c:=a;rw[b]at a;cases a
 ·refine .inl fun r=>?_
  show jJ f r=none;unfold jJ;split
  ·exact absurd rfl d
  ·rfl
def UD:List (List Bool):=[(bE 10 511),(bE 11 1023)]
def Na:List Bool:=(bE 11 2047)
def DU(len:Int)(k:Nat):aI:=⟨us 8++[lJ len]++us 10++[.ref (.ptr 4 (.c 0))]++us 15++[.ref (.sl 5 (.c 0) (.s k) none)]++us 3,[]⟩
def Nb(len:Int):aI:=⟨us 20++[.ref (.sl 4 (.c 0) (.s len.toNat) none),.atom (.bool (.c true))]++us 17,[]⟩
def lK(a b c P:U 8)(len:Int)(S:U 64):s3:=iter qm (128-(1:Int)).toNat ⟨a,b,c,P,len,dg S,appW (U.of []) (S.l.getD 0 0#64),8,1⟩
section
variable(Q:He)(a b c P B:U 8)(len:Int)(S:U 64)(k:Nat)
def akN:eg 4 (some [0,1,2,3,4,22]) (DU (lK a b c P len S).len (lK a b c P len S).k,js a b c P++[yR,⟨.ag (lK a b c P len S).B,.own⟩]) (hO cr jJ 10 UD (M7 len) ⟨js a b c P++[yR,⟨.bt S,.own⟩],bJ,[],[]⟩)=
 some (.normal,(DU (lK a b c P len S).len (lK a b c P len S).k,js a b c P++[yR,⟨.ag (lK a b c P len S).B,.own⟩]),[om.aS ⟨a,b,c,P,len,dg S,appW (U.of []) (S.l.getD 0 0#64),8,1⟩,decide (128≤S.n)]):=by kernel_rfl
def akO:eg 4 (some [0,1,2,3,6]) (Nb len,js a b c P++[⟨.ag (Q B 0 k len),.own⟩]) (qa (Hg lI Q iU 0) aQ 10 Na (DU len k) ⟨js a b c P++[yR,⟨.ag B,.own⟩],bJ,[],[]⟩)=
 some (.ret,(Nb len,js a b c P++[⟨.ag (Q B 0 k len),.own⟩]),[decide (1≤len∧len≤100000∧0+k≤B.n∧k≤1000000)]):=by kernel_rfl
end
end
section
open Go Go.aA
def Nc [aR][aF][bq]{spec:FuncId→Option aA.Spec}{j:FuncId→Nat→Option cP}(x:∀f l,spec f=some l→br f l)(y:c6 (de spec j) bB){f:Nat}(z:aW f)(t:Code){ps:List (List Bool)}
 {n0 dI:Nat} {p:aI×List ah} {m:aI} {d:List ah} {A cs:List Bool} {B:Option (List Nat)} {C:dJ} (D:eg dI B p (hO spec j f ps m ⟨d,bJ,A,[]⟩)=some (C,p,cs)) (E:∀g∈cs,g=true) (F:n0≤dI) (I:dI≤d.length)
 {h β:aE} {n:List ah} {o w:World} {a:Act} (J:∀b K,h b=some K→b<n0) (L:cL (aj f) (bN Tryz.prog f) β m a) (M:aL bB β d w) (N:gL n0 h n o β d w) {q:Exit→Act→World→Prop}
 (O:∀r w' i,cL (aj f) (bN Tryz.prog f) i p.1 r→aL bB i p.2 w'→gL n0 h n o i p.2 w'→t.ef Tryz.prog q r w'):(n3 (cR Tryz.prog f) ps t).ef Tryz.prog q a w:=by
 intro b k s u v P;obtain⟨am,Q,R,S,T,V⟩:=tN D;obtain⟨W,X⟩:=Lj x y f z t ps _ _ _ _ _ R;refine X (fun g Y=>E g (by rw[←V];exact Y)) β a w L M b k s u v fun Z aa an ab ad ae=>?_;have af:dI≤Q.H.length:=gb I W.len;obtain⟨ag,ai,ak,al,ao,ap⟩:=Lg (n0:=n0) N J F af S T ab ad ae;exact O Z aa ag ai ak al b k s u v P
section
variable(a b c e:U 8)(bA na bz nb bH bD bO ne:Nat)(aM ps ke len:Int)(p:Nat)
def uz:Nat→U 64:=Hi lI fz iU a b c e bA na bz nb bH bD bO ne aM ps ke len p
def j5:qi:=A9 a b c e aM ps (jI p ke) len (iC ke p) (uz a b c e bA na bz nb bH bD bO ne aM ps ke len p) p
def rz:s3:=lK a b c e (j5 a b c e bA na bz nb bH bD bO ne aM ps ke len p).len (j5 a b c e bA na bz nb bH bD bO ne aM ps ke len p).Z
def oo:U 8:=fz (rz a b c e bA na bz nb bH bD bO ne aM ps ke len p).B 0 (rz a b c e bA na bz nb bH bD bO ne aM ps ke len p).k len
end
variable [aR][aF][bq]
structure Ht where
 (a b c e:U 8)(bA na bz nb bH bD bO ne:Nat)(aM ps ke la len:Int)
def Nd(a:List af)(d:List ah):Option Ht:=
 match a with
 |[.num (.int .i64 (.s aM)),.ref (.sl 0 (.s bA) (.s na) none),.ref (.sl 1 (.s bz) (.s nb) none),.ref (.sl 2 (.s bH) (.s bD) none),.ref (.sl 3 (.s bO) (.s ne) none),.num (.int .i64 (.s ps)),.num (.int .i64 (.s ke)),.num (.int .i64 (.s f)),.num (.int .i64 (.s len)),.agg g]=>
  match d with
  |[⟨.ag a,.ro⟩,⟨.ag b,.ro⟩,⟨.ag c,.ro⟩,⟨.ag e,.ro⟩]=>
   (match mU g gy with
   |true=>some ⟨a,b,c,e,bA,na,bz,nb,bH,bD,bO,ne,aM,ps,ke,f,len⟩|false=>none)
  |_=>none
 |_=>none
def oZ:bT Ht where
 d0:=⟨0,0,0,0,0,0,0,0,0,0,0,0,0,0,0,0,0⟩
 read:=Nd
 args:=fun⟨_,_,_,_,bA,na,bz,nb,bH,bD,bO,ne,aM,ps,ke,d,len⟩=>[.aq aM,.ref (.sl 0 (.s bA) (.s na) none),.ref (.sl 1 (.s bz) (.s nb) none),.ref (.sl 2 (.s bH) (.s bD) none),.ref (.sl 3 (.s bO) (.s ne) none),.aq ps,.aq ke,.aq d,.aq len,.agg (jE gy)]
 heap:=fun⟨a,b,c,e,_,_,_,_,_,_,_,_,_,_,_,_,_⟩=>[⟨.ag a,.ro⟩,⟨.ag b,.ro⟩,⟨.ag c,.ro⟩,⟨.ag e,.ro⟩]
 out:=fun⟨a,b,c,e,bA,na,bz,nb,bH,bD,bO,ne,aM,ps,ke,d,len⟩=>[⟨.ag a,.ro⟩,⟨.ag b,.ro⟩,⟨.ag c,.ro⟩,⟨.ag e,.ro⟩,⟨.ag (oo a b c e bA na bz nb bH bD bO ne aM ps ke len d.toNat),.own⟩]
 val:=fun⟨_,_,c,_,_,_,_,_,_,_,_,_,_,_,_,_,len⟩=>(.obj .bx [.ref (.sl 4 (.c 0) (.s len.toNat) none),.atom (.bool (.c true))])
 aS:=fun⟨a,b,c,e,bA,na,bz,nb,bH,bD,bO,ne,aM,ps,ke,d,len⟩=>decide (bA+na≤a.n∧na≤1000000∧bz+nb≤b.n∧nb≤1000000∧bH+bD≤c.n∧bD≤1000000∧bO+ne≤e.n∧ne≤1000000∧0≤aM∧aM≤2∧1≤ps∧ps≤4∧0≤ke∧ke≤256∧1≤d∧d≤8∧1≤len∧len≤1024)
def akP(a:List af)(f:List ah)(d:Ht)(h:oZ.read a f=some d):a=oZ.args d∧f=oZ.heap d:=by
 replace h:Nd a f=some d:=h;unfold Nd at h;split at h
 case h_2=>cases h
 split at h
 case h_2=>cases h
 split at h
 case h_2=>cases h
 rename_i g;obtain rfl:=qQ g;cases h;exact⟨rfl,rfl⟩
def akQ{p:Nat}{ke:Int}(h1:1≤p)(k:p≤8)(l:0≤ke∧ke≤256):(8≤jI p ke∧jI p ke≤256∧(jI p ke).tdiv 4*4=jI p ke)∧8*(p:Int)≤mo p ke∧mo p ke≤256∧0≤wQ p (mo p ke)∧wQ p (mo p ke)≤256:=by
 have f:8*(p:Int)≤mo p ke∧mo p ke≤256:=by
  unfold mo;split<;>rename_i h<;>simp only[jM]at h<;>omega
 unfold jI;generalize mo p ke=d at f;have g:d.tdiv (4*(p:Int))=d/(4*(p:Int)):=pK (by omega);have h2:2≤d/(4*(p:Int)):=Int.le_ediv_of_mul_le (by omega) (by omega);have h3:d/(4*(p:Int))*(4*(p:Int))≤d:=Int.ediv_mul_le _ (by omega);unfold wQ;rw[g];generalize d/(4*(p:Int))=t at h2 h3;have e:t*(4*(p:Int))=t*4*(p:Int):=(Int.mul_assoc ..).symm;have i:(t*(4*(p:Int))).tdiv (p:Int)=t*4:=by rw[e];exact Es _ (by omega)
 have h4:t*4*1≤t*4*(p:Int):=Int.mul_le_mul_of_nonneg_left (by omega) (by omega);rw[i,e];rw[e]at h3;have j:(t*4).tdiv 4=t:=Es _ (by omega);rw[j];exact⟨⟨by omega,by omega,rfl⟩,f.1,f.2,by omega,by omega⟩
def DV:jh.n=128:=nh
section
variable{a b c e:U 8}{bA na bz nb bH bD bO ne:Nat}{aM ps ke len:Int}{p:Nat}
def UE(t m:BitVec 32)(p k aM:Int):(lI a b c e bA na bz nb bH bD bO ne t m p k aM).n=64:=(sX _ 0 _ 64 (by omega)).1
def UF{g:U 8}{co:Int}(i:g.n=64)(j:8≤co∧co≤256):∀l,∀f∈M2 fz g co l,f=true
 |0,f,d=>by cases d
 |l+1,f,d=>by
  have k:∀c,(fz (kE g c l) 0 72 1024).n=1024:=fun c=>Uk _ 0 72 1024 (by omega) (by omega);have h:∀c,c≤1→∀f∈M1 fz g co.toNat c l,f=true:=fun c m=>ax (bl (by omega)) (ax (by rw[Bool.true_and];exact bl (by omega)) (ax (bl ⟨aX _,by rw[k];omega⟩) (ax rfl (ax (bl (by omega)) aV))));rcases fR.1 d with d|d
  ·exact h 1 (aX _) f d
  rcases fR.1 d with d|d
  ·exact h 0 (by omega) f d
  rcases fR.1 d with d|d
  ·refine ax (bl (by omega)) (ax ?_ aV) f d;rw[dH,dH];exact⟨⟨bl (by omega),bl (by omega)⟩,bl (by omega)⟩
  ·exact UF i j l f d
def Nf(l:Nat):∀m (d:qi),(iter (qj l) m d).len=d.len∧(iter (qj l) m d).r=d.r∧(iter (qj l) m d).Z.n=d.Z.n|0,d=>⟨rfl,rfl,rfl⟩|m+1,⟨a,b,c,e,aM,ps,co,len,f,r,Z,i⟩=>Nf l m (qj l ⟨a,b,c,e,aM,ps,co,len,f,r,Z,i⟩)
def UG(p:Nat):∀m (d:uw),(iter (uy gR p) m d).len=d.len∧∀i,i<p→((iter (uy gR p) m d).r i).n=(d.r i).n
 |0,d=>⟨rfl,fun _ _=>rfl⟩|m+1,⟨a,b,c,e,aM,ps,co,len,f,g,r⟩=>by
  obtain⟨h1,h2⟩:=UG p m (uy gR p ⟨a,b,c,e,aM,ps,co,len,f,g,r⟩);exact⟨h1,fun i hi=>(h2 i hi).trans (M5 _ r i hi)⟩
def UH{nn:Nat→Nat}{co:Int}:∀(n:Nat) (len:Int) (r:Nat→U 64) (Z:U 64) (l:Nat),Z.n=128→(ql p a b c e aM ps co nn n len r Z l).len=len∧(ql p a b c e aM ps co nn n len r Z l).Z.n=128
 |0,len,r,Z,l,h=>⟨rfl,h⟩|n+1,len,r,Z,l,h=>by
  obtain⟨h1,h2,h3⟩:=Nf l (128-(0:Int)).toNat ⟨a,b,c,e,aM,ps,co,len,c7 p nn,fy p r,Z,0⟩;obtain⟨d,f⟩:=UH n _ (iter (qj l) (128-(0:Int)).toNat ⟨a,b,c,e,aM,ps,co,len,c7 p nn,fy p r,Z,0⟩).r _ (l+1) (h3.trans h);exact⟨d.trans h1,f⟩
def UI{f:Nat→Nat}{co:Int}(h:1≤co∧co≤256)(j:∀i,i<p→(f i:Int)=co):∀(n:Nat) (len:Int) (r:Nat→U 64) (Z:U 64) (l:Nat),l+n≤p→Z.n=128→(∀i,i<p→(r i).n=f i*128)→∀g∈M6 p a b c e aM ps co f n len r Z l,g=true
 |0,_,_,_,_,_,_,_,g,d=>by cases d
 |n+1,len,r,Z,l,o,k,m,g,d=>by
  obtain⟨h1,h2,h3⟩:=Nf l (128-(0:Int)).toNat ⟨a,b,c,e,aM,ps,co,len,c7 p f,fy p r,Z,0⟩;rcases fR.1 d with d|d
  ·refine UI h j n _ _ _ (l+1) (by omega) (h3.trans k) (fun i hi=>?_) g d;rw[h2]
   show(fy p r i).n=_;rw[mZ r hi];exact m i hi
  ·rw[tc.1 d];refine bl ⟨by omega,by omega,h.1,h.2,?_,?_,k⟩
   ·rw[wF f (by omega)];exact j l (by omega)
   ·rw[wF f (by omega),mZ r (by omega)];exact m l (by omega)
def UJ:∀m (d:s3),d.k=d.B.n→(iter qm m d).len=d.len∧(iter qm m d).k=d.k+8*m∧(iter qm m d).B.n=d.B.n+8*m
 |0,d,h=>⟨rfl,rfl,rfl⟩|m+1,⟨a,b,c,e,len,Z,B,k,i⟩,h=>by
  have h:k=B.n:=h;have f:(appW B ((dg Z).l.getD i.toNat 0#64)).n=B.n+8:=Hr ..;obtain⟨h1,h2,h3⟩:=UJ m (qm ⟨a,b,c,e,len,Z,B,k,i⟩) (by show k+8=(appW B _).n;rw[f,h]);refine⟨h1,h2.trans ?_,h3.trans ?_⟩
  ·show k+8+8*m=k+8*(m+1);omega
  ·show(appW B _).n+8*m=B.n+8*(m+1);rw[f];omega
end
def akR(a b c e:U 8)(len:Int)(Z:U 64)(B:U 8)(k:Nat)(i:Int):om.aS ⟨a,b,c,e,len,Z,B,k,i⟩=decide (k=B.n∧1≤i∧i≤128∧(k:Int)=8*i):=by kernel_rfl
def akS:cR Tryz.prog 10=n3 (cR Tryz.prog 10) Uq (n3 (cR Tryz.prog 10) UB (n3 (cR Tryz.prog 10) UD (sub Na (cR Tryz.prog 10)))):=by kernel_rfl
def akT:br 10 oZ.spec:=by
 refine oZ.wz akP fun d A β w vs X D m=>?_;obtain⟨a,b,c,e,bA,na,bz,nb,bH,bD,bO,ne,aM,ps,ke,M,len⟩:=d;have A:=aZ A;obtain⟨Y,aa,ab,bf,ad,ae,ai,cE,a2,a3,a4,ak,al,am,a5,a6,dI,a7⟩:=A;obtain⟨p,rfl⟩:∃p:Nat,M=(p:Int):=⟨M.toNat,by omega⟩;have E:1≤p:=by omega
 have t:p≤8:=by omega
 have an:((p:Int)).toNat=p:=eC p;have N:=Uw E t;obtain⟨x,a8,a9,ao,ba⟩:=akQ (ke:=ke) E t ⟨al,am⟩;have ap:aJ β (MZ p bA na bz nb bH bD bO ne aM ps ke len) vs:=by
  obtain⟨aq,O⟩:=X;refine⟨aq,fun i h v g P=>?_⟩;by_cases hi:i=7
  ·subst hi;have g:some (af.num (.int .i64 (.c (p:Int))))=some h:=g;injection g with g;subst g;rw[(O 7 (.num (.int .i64 (.s (p:Int)))) v rfl P).num_inv];exact .num (.int .i64 (.c (p:Int)))
  ·refine O i h v ?_ P
   match i,hi,g with
   |0,_,g=>exact g|1,_,g=>exact g|2,_,g=>exact g|3,_,g=>exact g|4,_,g=>exact g|5,_,g=>exact g|6,_,g=>exact g|8,_,g=>exact g|9,_,g=>exact g|j+10,_,g=>cases g
 have D:aL bB β (js a b c e) w:=D;have m:∀Q ar,β Q=some ar→Q<4:=m;have au:bN Tryz.prog 10=202:=by kernel_rfl
 refine SJ (C:=de cr aQ) rfl (f:=10) (bq.plain 10 (by kernel_rfl)) (by kernel_rfl) ap (by show 10≤bN Tryz.prog 10;rw[au];decide) fun av F=>?_
 show(cR Tryz.prog 10).ef _ _ _ _;rw[akS];have F:cL (aj 10) (bN Tryz.prog 10) β ⟨MZ p bA na bz nb bH bD bO ne aM ps ke len++us 29,[]⟩ av:=F;have R:∀i,i<p→((iC ke p i:Nat):Int)=jI p ke:=fun i _=>by show(((jI p ke).toNat:Nat):Int)=_;omega
 have S:∀i,i<p→(uz a b c e bA na bz nb bH bD bO ne aM ps ke len p i).n=iC ke p i*128:=fun i _=>rfl;have aw:=gO (akn lI fz iU a b c e bA na bz nb bH bD bO ne aM ps ke len) N;have ay:=gO (akE a b c e aM ps (jI p ke) len (iC ke p) (uz a b c e bA na bz nb bH bD bO ne aM ps ke len p)) N;have az:=akN a b c e (j5 a b c e bA na bz nb bH bD bO ne aM ps ke len p).len (j5 a b c e bA na bz nb bH bD bO ne aM ps ke len p).Z;obtain⟨aA,H⟩:=UG p (ps-0).toNat ⟨a,b,c,e,aM,ps,jI p ke,len,0,c7 p (iC ke p),fy p (uz a b c e bA na bz nb bH bD bO ne aM ps ke len p)⟩;have H:∀i,i<p→((m5 p a b c e aM ps (jI p ke) len (iC ke p) (uz a b c e bA na bz nb bH bD bO ne aM ps ke len p)).r i).n=iC ke p i*128:=fun i hi=>(H i hi).trans (by show(fy p _ i).n=_;rw[mZ _ hi];exact S i hi);obtain⟨aB,aC⟩:=UH (p:=p) (a:=a) (b:=b) (c:=c) (e:=e) (aM:=aM) (ps:=ps) (nn:=iC ke p) (co:=jI p ke) p (m5 p a b c e aM ps (jI p ke) len (iC ke p) (uz a b c e bA na bz nb bH bD bO ne aM ps ke len p)).len (m5 p a b c e aM ps (jI p ke) len (iC ke p) (uz a b c e bA na bz nb bH bD bO ne aM ps ke len p)).r jh 0 DV;have aD:(j5 a b c e bA na bz nb bH bD bO ne aM ps ke len p).len=len:=aB.trans aA;have bb:(j5 a b c e bA na bz nb bH bD bO ne aM ps ke len p).Z.n=128:=aC;have I:(appW (U.of []) ((j5 a b c e bA na bz nb bH bD bO ne aM ps ke len p).Z.l.getD 0 0#64)).n=8:=Hr ..;obtain⟨y,J,K⟩:=UJ (128-(1:Int)).toNat ⟨a,b,c,e,(j5 a b c e bA na bz nb bH bD bO ne aM ps ke len p).len,dg (j5 a b c e bA na bz nb bH bD bO ne aM ps ke len p).Z,appW (U.of []) ((j5 a b c e bA na bz nb bH bD bO ne aM ps ke len p).Z.l.getD 0 0#64),8,1⟩ I.symm;have aE:rz a b c e bA na bz nb bH bD bO ne aM ps ke len p=iter qm (128-(1:Int)).toNat ⟨a,b,c,e,(j5 a b c e bA na bz nb bH bD bO ne aM ps ke len p).len,dg (j5 a b c e bA na bz nb bH bD bO ne aM ps ke len p).Z,appW (U.of []) ((j5 a b c e bA na bz nb bH bD bO ne aM ps ke len p).Z.l.getD 0 0#64),8,1⟩:=rfl;rw[←aE]at y J K;have y:(rz a b c e bA na bz nb bH bD bO ne aM ps ke len p).len=len:=y.trans aD;have J:(rz a b c e bA na bz nb bH bD bO ne aM ps ke len p).k=1024:=J;have K:(rz a b c e bA na bz nb bH bD bO ne aM ps ke len p).B.n=1024:=K.trans (by rw[I];omega);have aG:=akO fz a b c e (rz a b c e bA na bz nb bH bD bO ne aM ps ke len p).B len (rz a b c e bA na bz nb bH bD bO ne aM ps ke len p).k;have aH:oZ.out ⟨a,b,c,e,bA,na,bz,nb,bH,bD,bO,ne,aM,ps,ke,(p:Int),len⟩=js a b c e++[⟨.ag (oo a b c e bA na bz nb bH bD bO ne aM ps ke len p),.own⟩]:=by
  show js a b c e++[⟨.ag (oo a b c e bA na bz nb bH bD bO ne aM ps ke len ((p:Int)).toNat),.own⟩]=_;rw[an]
 have aI:oZ.val ⟨a,b,c,e,bA,na,bz,nb,bH,bD,bO,ne,aM,ps,ke,(p:Int),len⟩=.obj .bx [.ref (.sl 4 (.c 0) (.s len.toNat) none),.atom (.bool (.c true))]:=rfl;have aK:oZ.heap ⟨a,b,c,e,bA,na,bz,nb,bH,bD,bO,ne,aM,ps,ke,(p:Int),len⟩=js a b c e:=rfl;rw[aH,aI,aK];refine Nc (n0:=4) (Up t) (cK _) vM _ aw (fun h g=>?_) (aX 4) (aX 4) m F D ((bM.refl ..).q (aX 4)) fun bc w1 bd aN h1 aO=>?_
 ·rcases fR.1 g with g|g
  ·exact UF (UE ..) ⟨x.1,x.2.1⟩ p h g
  ·refine ax (bl ⟨ao,by omega,by omega⟩) (ax (hU (by omega)) (ax (bl ⟨by omega,by omega,by omega⟩) (ax (bl ⟨Y,aa,ab,bf,ad,ae,ai,cE⟩) ?_))) h g;have aP:decide (len<1)=false:=jQ (by omega);have aS:decide (ps<1)=false:=jQ (by omega);have aT:decide ((2:Int)<aM)=false:=jQ (by omega);have aU:decide (aM<0)=false:=jQ (by omega);rw[aP,aS,aT,aU];exact ax rfl (ax rfl (ax rfl (ax rfl (ax rfl (ax rfl (ax rfl (ax rfl (ax rfl (ax rfl aV)))))))))
 refine Nc (n0:=4) fL (akD E t _) vM _ ay (fun h g=>?_) (aX 4) (by unfold Hh js;simp only[fA,iY];omega) m aN h1 aO fun bg bh bi aW h2 aY=>?_
 ·rcases fR.1 g with g|g
  ·exact UI ⟨by omega,x.2.1⟩ R p _ _ _ 0 (by omega) DV H h g
  ·rw[tc.1 g];refine@bl _ (Classical.propDecidable _) (show GP p _ from⟨ak,x,⟨rN 0,by show 0≤ps;omega⟩,fun i hi=>by show(c7 p (iC ke p) i:Int)=_;rw[wF _ hi];exact R i hi,fun i hi=>by show(fy p _ i).n=c7 p (iC ke p) i*128;rw[wF _ hi,mZ _ hi];exact S i hi⟩)
 refine Nc (n0:=4) fL (akM _) vM _ az ?_ (aX 4) (by show 4≤6;decide) m aW h2 aY fun T bj V o h3 a0=>?_
 ·exact ax (by rw[akR];exact bl ⟨I.symm,by omega,by omega,by omega⟩) (ax (bl (by omega)) aV)
 have o:cL (aj 10) (bN Tryz.prog 10) V (DU len (rz a b c e bA na bz nb bH bD bO ne aM ps ke len p).k) T:=by
  have o:cL (aj 10) (bN Tryz.prog 10) V (DU (rz a b c e bA na bz nb bH bD bO ne aM ps ke len p).len (rz a b c e bA na bz nb bH bD bO ne aM ps ke len p).k) T:=o;rw[y]at o;exact o
 refine(Li (Up (p:=0) (by decide)) (cK _) 10 Na vM).step (n0:=4) aG ?_ (aX 4) (by show 4≤6;decide) m o h3 a0 fun bk W z f4 h4 L _ _=>?_
 ·exact ax (bl ⟨dI,by omega,by omega,by omega⟩) aV
 ·have h4:aL bB z (js a b c e++[⟨.ag (oo a b c e bA na bz nb bH bD bO ne aM ps ke len p),.own⟩]) W:=h4;have L:gL 4 β (js a b c e) w z (js a b c e++[⟨.ag (oo a b c e bA na bz nb bH bD bO ne aM ps ke len p),.own⟩]) W:=L;exact⟨rfl,Nb len,⟨js a b c e++[(⟨.ag (oo a b c e bA na bz nb bH bD bO ne aM ps ke len p),.own⟩:ah)],bJ,[],[]⟩,⟨js a b c e++[(⟨.ag (oo a b c e bA na bz nb bH bD bO ne aM ps ke len p),.own⟩:ah)],bJ,[],[]⟩,[.ref (.sl 4 (.c 0) (.s len.toNat) none),.atom (.bool (.c true))],z,by kernel_rfl,(fun h g=>by cases g),f4,h4,fun u a1=>⟨u,z,rfl,a1,h4,L⟩⟩
end
section
open Go Go.aA Conc Conc.Lib RowKit
open Go.ConcR (KK WgAt stA smA rd wr mk DC0 wgBlock)
variable [aR]
instance akU(p:dj)(k:Nat)(f:cw):@bq (p.co k f):=@bq.mk (p.co k f) fun _ _=>trivial
def akV(p:dj)(k:Nat)(f:cw)(cn room:Nat)(X:U 64)(g:Goroutine)(c:World):Prop:=
 ∃b a,g=G ((baseD 44).at b [.code Dt]) [k8]∧@cL _ Qf (aj 44) (bN Tryz.prog 44) a (yH f X (cA p.Wg)).1 b∧@aL _ (p.co k f) bB a (yH f X (cA p.Wg)).2 c∧a 0=some ⟨cn,0,room⟩
section
variable{ph:dj}{k n0 cn room:Nat}{f:cw}{X:U 64}{M:Nat}{m:Int}{mem tm Q P p n sl kk:BitVec 32}
def akW(e:Ds f M Q P p n sl kk)(g:X.n=M*128)(h2:2≤P.toNat){w:World}{a:Act}
 (h:@cL _ Qf (aj 44) (bN Tryz.prog 44) (pz n0 cn room) (ug n sl kk (cA ph.Wg) (.atom .aa) (.atom .aa) (.atom .aa) (.atom .aa)) a) (i:@aL _ (ph.co k f) bB (pz n0 cn room) (sM f X M m mem tm Q P p) w):
 @dr (ph.co k f) Tryz.prog (akV ph k f cn room (lH f X M m mem tm Q P p n sl kk)) (G ((baseD 44).at a [.code (cR Tryz.prog 44)]) [k8]) w:=by
 letI:=ph.co k f;rw[ah7];obtain⟨F,I,J,j,l⟩:=aid f X M m mem tm Q P p n sl kk (cA ph.Wg);obtain⟨K,L,N,o,q⟩:=aie f X M m mem tm Q P p n sl kk (cA ph.Wg);obtain⟨O,R,S,b,r⟩:=aih f X M m mem tm Q P p n sl kk (cA ph.Wg) e g h2;have c:=Tw (d2 f X M m mem tm Q P p n sl kk (cA ph.Wg));rw[c.1,c.2.1,aij,show(d2 f X M m mem tm Q P p n sl kk (cA ph.Wg)).f=f from rfl,show(d2 f X M m mem tm Q P p n sl kk (cA ph.Wg)).kA=cA ph.Wg from rfl]at b;refine Gw Gf (cK _) C2 _ j l h i (baseD 44) [] [k8] _ ⟨by simp[baseD],trivial⟩ fun T w1 V s t _ u=>?_;refine Gw Gf (cK _) C2 _ o q s t (baseD 44) [] [k8] _ ⟨by simp[baseD],trivial⟩ fun W Y Z v x _ y=>?_;refine Gw (H:=iR f X M m mem tm Q P p (rf m mem tm n sl kk) (pq m mem tm n sl kk)) (p:=yH f (lH f X M m mem tm Q P p n sl kk) (cA ph.Wg)) Gf (aif _) C2 Dt b r v x (baseD 44) [] [k8] _ ⟨by simp[baseD],trivial⟩ fun z aa d A B _ C=>.stop fun ab D=>?_;have E:d 0=some ⟨cn,0,room⟩:=(C 0 (by show 0<11;decide)).trans ((y 0 (by show 0<11;decide)).trans ((u 0 (by show 0<8;decide)).trans rfl));exact⟨z,d,rfl,A,B.rely D,E⟩
def akX [aF]{n0:Nat}:cL (aj 44) (bN Tryz.prog 44) (pz n0 cn room) (ug n sl kk (cA ph.Wg) .aa .aa .aa .aa) {tmps:=(⟨AY n0 n.toNat sl.toNat kk.toNat ph.Wg⟩:Array Value)++Array.replicate (bN Tryz.prog 44-(AY n0 n.toNat sl.toNat kk.toNat ph.Wg).length) undef,defers:=[]}:=by
 have g:∀b,b<8→pz n0 cn room b=some ⟨wG n0 cn b,0,if b=0 then room else 1⟩:=fun b d=>by unfold pz;rw[av d]
 have a:∀b,b<8→aC (pz n0 cn room) (.ref (.ptr b (.c 0))) (cA (wG n0 cn b)):=fun b d=>.ptr b (.c 0) _ (g b d);have h:aJ (pz n0 cn room) [.num (.aD n),.num (.aD sl),.num (.aD kk),.exact (cA ph.Wg),.ref (.ptr 1 (.c 0)),.ref (.ptr 2 (.c 0)),.ref (.ptr 3 (.c 0)),.ref (.ptr 4 (.c 0)),.ref (.ptr 5 (.c 0)),.ref (.ptr 6 (.c 0)),.ref (.ptr 7 (.c 0))]
  (AY n0 n.toNat sl.toNat kk.toNat ph.Wg):=
  .cons (.num (.aD n)) (.cons (.num (.aD sl)) (.cons (.num (.aD kk)) (.cons (.exact _) (.cons (a 1 (by decide)) (.cons (a 2 (by decide)) (.cons (a 3 (by decide)) (.cons (a 4 (by decide)) (.cons (a 5 (by decide)) (.cons (a 6 (by decide)) (.cons (a 7 (by decide)) (.nil _)))))))))))
 have i:aj 44=23:=by kernel_rfl
 have e:=Tx (aj:=aj 44) (bC:=bN Tryz.prog 44) h (by rw[Tr];show 11≤153;omega);rw[i]at e⊢;exact e
def akY{e v:World}{g:aE}(r:@aL _ (ph.co k f) bB g (yH f X (cA ph.Wg)).2 e)(s:g 0=some ⟨cn,0,room⟩)(u:ph.bR=cn)(w:@ff (ph.co k f) e v)(E:0<X.n):
 ∃us t bu,v.heap[cn]? =some (.cells us t bu)∧X.n≤us.size∧∀a,a<X.n→f a true=true→us[a]? =k7 X a:=by
 letI:=ph.co k f;rcases r.blk 0 ⟨.lim f X,.own⟩ rfl (eu rfl)with⟨F,c,x⟩|⟨i,_⟩
 ·rw[s]at c;injection c with c;subst c;obtain⟨_,_,vs,t,bu,d,H,j,bf,I,y⟩:=x;have d:e.heap[cn]? =some (.cells ⟨vs⟩ t bu):=d;have bf:X.n≤room:=bf;have j:vs.length=room:=j;have o:∀a,a<X.n→vs[a]? =k7 X a:=fun a b=>by
   have h1:(X.l.map af.au)[a]? =some (.au (X.l[a]'(by rw[X.h];exact b))):=by simp[X.h,b]
   have h2:(vs.take X.n)[a]? =some (vs[a]'(by omega)):=by rw[lP,av b];exact bW _
   have h3:=(y a _ _ h1 h2).num_inv;rw[bW (by omega:a<vs.length),h3];unfold k7;rw[bW (by rw[X.h];exact b)];rfl
  rcases w.shr cn u.symm with z|⟨J,us,K,L,q,A,B,C⟩
  ·exact⟨_,t,bu,z.trans d,by simpa using(by omega:X.n≤vs.length),fun a b _=>by simpa using o a b⟩
  ·rw[d]at q;cases q;exact⟨us,t,bu,A,by rw[B];simpa using(by omega:X.n≤vs.length),fun a b D=>by rw[C a (.inr D)];simpa using o a b⟩
 ·have i:X.n=0:=i;omega
end
end
section
open Go Go.aA Conc Conc.Lib RowKit
open Go.ConcR (KK WgAt stA smA rd wr mk DC0 wgBlock)
open Go.ConcN (WgLive)
variable [aR]
def akZ [aF]{β:aE}{u v:Value}(h:aC β (.atom (.exact u)) v):v=u:=by
 cases h;rfl
structure UK(c:Call)(i k:Nat)(f:cw)(M:Nat)(mem tm ln az p n sl kk:BitVec 32):Prop where
 lV:c.lV=some ⟨c.cn,0,none⟩
 lW:c.lW=M
 cap:M≤c.eM∧c.eM*128≤c.room
 sN:c.sN=M*128
 pos:0<M
 ak0:c.mem=(mem.toNat:Int)
 ak1:c.tm=tm.toNat
 ak2:c.ln=(ln.toNat:Int)
 ak3:c.az=(az.toNat:Int)
 ak4:c.N=p.toNat
 aeP:i/4=n.toNat
 ak5:i%4=sl.toNat
 ak6:k=kk.toNat
 rZ:Ds f M ln az p n sl kk
 two:2≤az.toNat
 wr:∀o,f o true=true→c.cY (i%4) k o
 rd:∀o,f o false=true→c.cY (i%4) k o∨c.iL (i%4) o
 mine:∀o,c.cY (i%4) k o→o<c.sN∧f o true=true
 Y:∀o,c.cY (i%4) k o→some (c.Y i k o)=k7 (lH f (c.V i) M c.mode mem tm ln az p n sl kk) o
 kx:c.kx (i%4) k<c.sN
def UL(f:cw)(X:U 64)(M:Nat)(m:Int)(mem tm c d p n sl k:BitVec 32)(a:aF)(b:@bq a):(lH f X M m mem tm c d p n sl k).n=X.n:=
 (@Tw _ a b (d2 f X M m mem tm c d p n sl k undef)).2.2
def ak7{c:Call}{D:Machine}{q:World}(ae:fX c)(af:∀i k,i<4*c.tm→k<c.N→∃f M mem tm y A p n sl kk,UK c i k f M mem tm y A p n sl kk)(K:c.cn<q.heap.size)(aW:¬mP Tryz.prog D 33 c.cn)(ag:Tz D q c.cn):AX c D q:=by
 intro i hi ah w1 E ai aj ph e k ak w al;obtain⟨f,M,mem,tm,y,A,p,n,sl,kk,d⟩:=af i k hi ak;have r:=e.ok;have B:=e.ext;have aX:=E.size;have aY:ph.cF.heap.size=w1.heap.size+1:=B.size;have am:∀b,¬mP Tryz.prog D 33 b→∀s:Addr,s.block=b→¬ah (.cell s):=fun b K s F H=>by
  obtain⟨a,an,_,h⟩:=ai _ H;cases an;exact K (F▸h)
 have W:Cj ph k f:=⟨fun o x=>by rw[e.rZ];exact d.wr o x,fun o x=>by rw[e.rZ,e.xD];exact d.rd o x⟩;have L:=e.bR;have O:(c.V i).n=M*128:=(ae.n i).trans d.sN;have ao:∀j,j<7→ph.mL (q.heap.size+j):=fun j I=>e.eF _ (by omega) (by omega) fun s F H=>aj s (by omega) (by omega) H;have ap:@aL _ (ph.co k f) bB (pz q.heap.size c.cn c.room) (sM f (c.V i) M c.mode mem tm y A p) ph.cF:=by
  refine aik (c5:=c.eM) L O d.cap.1 d.cap.2 (let⟨o,aq,ar⟩:=E.GR;⟨o,aq,(B.old (by omega)).trans ar⟩) K ao (fun j o I=>?_) fun g l au=>?_
  ·rw[←d.lV,←d.lW,←d.ak0,←d.ak2,←d.ak3,←d.ak1,←d.ak4]at I;have aZ:j<7:=(dX.1 I).1;exact(B.old (by omega)).trans (E.boxes j o I)
  ·obtain⟨X,P,av,bf⟩:=ag g l au;refine⟨X,P,e.eF _ (by omega) P (am _ av),fun j s Q=>?_⟩;obtain⟨v,aw,ax⟩:=bf j s Q;refine⟨v,?_,ax⟩;rw[←aw];obtain⟨a0,az⟩:=r8 g;rw[az];unfold World.cell? at';simp only;rw[B.old (by omega),E.old _ X P]
 have aA:call44 q.heap.size ((i/4:Nat):Int) ((i%4:Nat):Int) (k:Int) ph.Wg=call44 q.heap.size (n.toNat:Int) (sl.toNat:Int) (kk.toNat:Int) ph.Wg:=by rw[d.aeP,d.ak5,d.ak6]
 rw[aA];refine gA.one rfl fun R aB=>⟨_,R,#[],aia _ _ _ _ _ _,fun _=>⟨jW.idle _,?_⟩⟩;have J:=al.trans aB;have aD:=r.bR.1;have aE:@ff (ph.co k f) ph.cF ph.cF:=by
  letI:=ph.co k f;exact⟨rfl,rfl,rfl,rfl,rfl,fun _ _=>rfl,fun _ _=>.refl _ _⟩
 obtain⟨s,Q,aF⟩:=O8 r W aE aD J;have a1:=d.pos;have aG:=akW (ph:=ph) (k:=k) (n0:=q.heap.size) (cn:=c.cn) (room:=c.room) (m:=c.mode) (mem:=mem) (tm:=tm) d.rZ O d.two (letI:=ph.co k f;akX (ph:=ph) (n0:=q.heap.size) (cn:=c.cn) (room:=c.room) (n:=n) (sl:=sl) (kk:=kk)) (letI:=ph.co k f;aL.rely ap Q);have a2:(lH f (c.V i) M c.mode mem tm y A p n sl kk).n=M*128:=(UL f _ M c.mode mem tm y A p n sl kk (ph.co k f) (akU ph k f)).trans O;have aH:=gA.XU r W (IK:=fun g v=>∃a,g=G ((baseD 44).at a [.code Dt]) [k8]∧a.eval (.tmp 3)=cA ph.Wg∧a.tmps.size=153∧a.defers=[]∧(∃C,v.cell? ⟨ph.bR,ph.kx k,none⟩=some C)∧ph.kQ k v) aG (fun g w v S aI H=>by
  obtain⟨Z,aJ,rfl,T,aK,aM⟩:=S;obtain⟨us,t,bu,aa,a3,aN⟩:=akY aK aM L aI (by omega);have a4:=d.kx;have U:∃C,v.cell? ⟨ph.bR,ph.kx k,none⟩=some C:=by
   rw[L,e.kx];refine⟨us[c.kx (i%4) k]'(by have:=d.sN;omega),?_⟩;unfold World.cell?;simp only[aa];exact dN _
  have aO:ph.kQ k v:=by
   rw[e.pay];refine⟨us,t,bu,aa,fun o x=>?_⟩;obtain⟨a5,aP⟩:=d.mine o x;rw[aN o (by have:=d.sN;omega) aP,d.Y o x]
  letI:=ph.co k f;refine .stop fun a6 ab=>⟨Z,rfl,?_,T.size.trans Tr,T.defers,let⟨C,aQ⟩:=U;⟨C,(ab.bR.cell (r.kx k)).trans aQ⟩,r.pay k _ _ ab aO⟩;have h3:=T.val 3;have h3:aC aJ (.atom (.exact (cA ph.Wg))) (Z.eval (.tmp 3)):=h3;exact akZ h3) R aF J.size
 have aS:ph.live ph.cF:=by
  have:=I2 B;refine⟨0,0,?_⟩;rw[e.ty,e.wg];exact this
 have aT:ph.live R:=J.live aS;have b7:=gA.inv (fun v=>ph.live v∧ph.cF.heap.size≤v.heap.size) (fun a b h u=>⟨h.live u.1,gb u.2 h.size⟩) (fun a b a7 _ h u=>⟨let⟨ay,sm,ad⟩:=u.1;⟨ay,sm,ad.of_block (h.jT _ (dW.1 ad).1 (fun F=>r.bR.2.1 F.symm) fun z=>by have:=r.new _ _ z;have:=r.wg;omega)⟩,gb u.2 h.size⟩) aH ⟨aT,J.size⟩;refine gA.trans (dw.refl k) b7 fun g v h=>?_;obtain⟨⟨a,rfl,h3,aU,S,U,aV⟩,u,_⟩:=h;exact aic r e.ty h3 aU S ⟨u,U,aV⟩
end
section
open Go Go.aA Conc Conc.Lib RowKit
def rA(q a:Nat):Nat:=a/128/(4*q)
def qn(q a:Nat):Nat:=a/128%(4*q)/q
def DW(P q b k a:Nat):Prop:=a<4*P*q*128∧rA q a=k∧qn q a=b
def DX(P q b a:Nat):Prop:=a<4*P*q*128∧qn q a≠b
instance(P q a k b:Nat):Decidable (DW P q a k b):=inferInstanceAs (Decidable (_∧_))
instance(P q a b:Nat):Decidable (DX P q a b):=inferInstanceAs (Decidable (_∧_))
def qo(P q a k:Nat):cw:=fun b w=>decide (DW P q a k b)||(!w&&decide (DX P q a b))
def Hu(b:BitVec 32):aT b=b.toNat*128:=by simp[aT]
def Ng{q L r j:Nat}(a:r<4*q)(b:j<128):rA q ((L*(4*q)+r)*128+j)=L:=by
 unfold rA;have h1:((L*(4*q)+r)*128+j)/128=L*(4*q)+r:=by omega
 rw[h1,gU,Ih (by omega),Bj a,gd]
def DY{q L r j:Nat}(a:r<4*q)(b:j<128):qn q ((L*(4*q)+r)*128+j)=r/q:=by
 unfold qn;have h1:((L*(4*q)+r)*128+j)/128=L*(4*q)+r:=by omega
 rw[h1,gU L,Nat.mul_add_mod,dM a]
def wS{P q L r j:Nat}(a:L<P)(c:r<4*q)(d:j<128):(L*(4*q)+r)*128+j<4*P*q*128:=by
 have h:(L+1)*(4*q)≤P*(4*q):=fQ _ a;rw[jR]at h;have b:4*P*q=P*(4*q):=by rw[gU 4 P,iX]
 rw[b];omega
def UM{P q L r:Nat}(e:L<P)(d:r<4*q):(L*(4*q)+r)*128<4*P*q*128∧rA q ((L*(4*q)+r)*128)=L∧qn q ((L*(4*q)+r)*128)=r/q:=by
 have a:=wS (P:=P) (j:=0) e d (by omega);have b:=Ng (q:=q) (L:=L) (r:=r) (j:=0) d (by omega);have c:=DY (q:=q) (L:=L) (r:=r) (j:=0) d (by omega);rw[gd]at a b c;exact⟨a,b,c⟩
def ak8{q S aq:Nat}(b7:aq<q):(S*q+aq)/q=S:=by
 rw[gU,Ih (by omega),Bj b7,gd]
def UN{P q d k e r b:Nat}(g:e<P)(c:r<4*q)(i:b=e*(4*q)+r)(h:e=k∨r/q≠d):ek (qo P q d k) (b*128) false=true:=by
 subst i;refine xb.2 fun j a=>?_;have a:j<128:=by simpa using a
 unfold qo;rw[pM,dH,jM,jM];by_cases f:r/q=d
 ·exact .inl ⟨wS g c a,(Ng c a).trans (h.elim id fun h=>absurd f h),(DY c a).trans f⟩
 ·exact .inr ⟨rfl,wS g c a,fun l=>f ((DY c a).symm.trans l)⟩
def ak9{P q s k r b:Nat}(d:k<P)(c:r<4*q)(e:b=k*(4*q)+r)(h:r/q=s)(w:Bool):ek (qo P q s k) (b*128) w=true:=by
 subst e;refine xb.2 fun j a=>?_;have a:j<128:=by simpa using a
 unfold qo;rw[pM,jM];exact .inl ⟨wS d c a,Ng c a,(DY c a).trans h⟩
section
variable{p ln az n sl k Q:BitVec 32}{P q S R:Nat}
def ala(h:p.toNat=P)(c:az.toNat=q)(d:ln.toNat=4*q)(e:sl.toNat=S)(f:k.toNat=R)(i:S<4)(g:R<P)(j:4*P*q≤65536)(l:Q.toNat<q):
 (k*ln+sl*az+Q).toNat=R*(4*q)+(S*q+Q.toNat):=by
 have h1:(R+1)*(4*q)≤P*(4*q):=fQ _ g;rw[jR]at h1;have m:P*(4*q)=4*P*q:=by rw[gU 4 P,iX]
 have h2:S*q≤3*q:=fQ _ (by omega);rw[eD,eD,iG,iG,f,d,e,c];generalize R*(4*q)=a at *;generalize S*q=b at *;omega
def alb(c:p.toNat=P)(l:az.toNat=q)(d:ln.toNat=4*q)(g:sl.toNat=S)(u:k.toNat=R)(H:S<4)(e:R<P)(h2:2≤q)(L:q≤64)(v:4*P*q≤65536):Ds (qo P q S R) (4*P*q) ln az p n sl k:=by
 have y:P*(4*q)=4*P*q:=by rw[gU 4 P,iX]
 refine⟨fun h=>by rw[h]at c;simp at c;omega,fun h=>by rw[h]at d;simp at d;omega,by omega,fun Q m M=>?_⟩;rw[l]at m;have f:=ala c l d g u H e v m;have h1:(R+1)*(4*q)≤P*(4*q):=fQ _ e;rw[jR,y]at h1;have N:S*q≤3*q:=fQ _ (by omega);have o:(1#32).toNat=1:=rfl;have z:S*q+Q.toNat<4*q:=by omega
 have A:∀x,(cq x ln az p n sl k Q).toNat<4*P*q∧ek (qo P q S R) (aT (cq x ln az p n sl k Q)) false=true:=fun x=>by
  obtain⟨O,r,B,t,C,bf⟩:=Tm (x:=x) (ln:=ln) (az:=az) (p:=p) (n:=n) (sl:=sl) (k:=k) (ix:=Q) (by omega) (by omega) (by omega) (by omega) (by omega) (by omega) (by omega) (by rw[c,d,y];exact v);rw[d]at t C;rw[l,g,u]at bf;refine⟨?_,?_⟩
  ·have:=wS (q:=q) (j:=0) (c▸B) t (by omega);omega
  ·rw[Hu];exact UN (c▸B) t C bf
 have I:∃r,r<4*q∧(eA ln sl Q (k*ln+sl*az+Q)).toNat=R*(4*q)+r:=by
  unfold eA;by_cases hi:Q=0#32
  ·have V:Q.toNat=0:=by rw[hi];rfl
   by_cases i:sl=0#32
   ·have J:S=0:=by rw[←g,i];rfl
    subst J;rw[av ⟨hi,i⟩];refine⟨4*q-1,by omega,?_⟩;rw[eD,kH,f,d,o];generalize R*(4*q)=a at *;omega
   ·rw[ak fun h=>i h.2];have K:1≤S:=by
     rcases qv S with h|h
     ·exact absurd (nc (by rw[g,h];rfl)) i
     ·exact h
    have W:1*q≤S*q:=fQ _ K;refine⟨S*q-1,by omega,?_⟩;rw[kH,f,o];generalize R*(4*q)=a at *;generalize S*q=b at *;omega
  ·rw[ak fun h=>hi h.1];have Y:1≤Q.toNat:=by
    rcases qv Q.toNat with h|h
    ·exact absurd (nc h) hi
    ·exact h
   refine⟨S*q+Q.toNat-1,by omega,?_⟩;rw[kH,f,o];generalize R*(4*q)=a at *;generalize S*q=b at *;omega
 obtain⟨r,D,E⟩:=I;have F:=fun w=>ak9 (P:=P) (q:=q) (s:=S) e z f (ak8 m) w;refine⟨by rw[f];have:=wS (P:=P) (q:=q) (j:=0) e z (by omega);omega,by rw[Hu];exact F _,by rw[Hu];exact F _,?_,?_,fun x=>(A x).1,fun x=>(A x).2⟩
 ·rw[E];have:=wS (P:=P) (q:=q) (j:=0) e D (by omega);omega
 ·rw[Hu];exact UN e D E (.inl rfl)
end
section
variable(mode:Int)(mem tm ln az p:BitVec 32)
def oq(i k:Nat)(X:U 64):U 64:=lH (qo p.toNat az.toNat (i%4) k) X (4*p.toNat*az.toNat) mode mem tm ln az p (BitVec.ofNat 32 (i/4)) (BitVec.ofNat 32 (i%4)) (BitVec.ofNat 32 k)
def yU(i:Nat)(X:U 64):U 64:=⟨X.n,(List.range X.n).map fun a=>if qn az.toNat a=i%4 then(oq mode mem tm ln az p i (rA az.toNat a) X).l.getD a 0#64 else X.l.getD a 0#64,by simp⟩
def iV(X:U 64):Nat→U 64|0=>X|i+1=>yU mode mem tm ln az p i (iV X i)
def DZ(X:U 64):∀i,(iV mode mem tm ln az p X i).n=X.n|0=>rfl|i+1=>DZ X i
def Hv(X:U 64)(i k a:Nat):Value:=.int .u64 (((oq mode mem tm ln az p i k (iV mode mem tm ln az p X i)).l.getD a 0#64).toNat:Int)
def D1(X:U 64)(T eM room:Nat):Call where
 lV:=some ⟨T,0,none⟩
 lW:=mem.toNat
 eM:=eM
 tm:=tm.toNat
 mem:=(mem.toNat:Int)
 N:=p.toNat
 mode:=mode
 ln:=(ln.toNat:Int)
 az:=(az.toNat:Int)
 cn:=T
 room:=room
 sN:=4*p.toNat*az.toNat*128
 V:=iV mode mem tm ln az p X
 cY:=DW p.toNat az.toNat
 iL:=DX p.toNat az.toNat
 kx:=fun a k=>if k<p.toNat∧a<4 then(k*(4*az.toNat)+a*az.toNat)*128 else if a=0 then az.toNat*128 else 0
 Y:=Hv mode mem tm ln az p X
end
structure D2(X:U 64)(mem tm ln az p:BitVec 32):Prop where
 P:1≤p.toNat∧p.toNat≤8
 q:2≤az.toNat∧az.toNat≤64
 ln:ln.toNat=4*az.toNat
 mem:mem.toNat=4*p.toNat*az.toNat
 tm:tm.toNat<2147483648
 X:X.n=4*p.toNat*az.toNat*128
section
variable [aR]{mode:Int}{X:U 64}{mem tm ln az p:BitVec 32}{T eM room:Nat}
def D2.le(h:D2 X mem tm ln az p):4*p.toNat*az.toNat≤2048:=by
 have:=xd (show 4*p.toNat≤32 by have:=h.P;omega) h.q.2;omega
def alc [aF][bq](h:D2 X mem tm ln az p):fX (D1 mode mem tm ln az p X T eM room):=by
 have w:=h.P;have x:=h.q;have y:=h.le;have m:p.toNat*(4*az.toNat)=4*p.toNat*az.toNat:=by rw[gU 4 p.toNat,iX]
 refine⟨⟨by show 0<p.toNat;omega,by show p.toNat<_;omega⟩,h.tm,?_,?_,fun d k A c a b=>a.2.1.symm.trans b.2.1,fun d k c a b=>b.2 a.2.2,fun d k=>?_,fun i=>(DZ ..).trans h.X,fun i c f=>?_⟩
 ·show IntKind.u32.wrap ((mem.toNat:Int).tdiv (p.toNat:Int))=(ln.toNat:Int);rw[h.mem,h.ln,←m];have:(((p.toNat*(4*az.toNat):Nat):Int)).tdiv (p.toNat:Int)=((4*az.toNat:Nat):Int):=by
   rw[←Int.ofNat_tdiv,uM _ (by omega)]
  rw[this,IntKind.wrap_u32];omega
 ·show IntKind.u32.wrap ((ln.toNat:Int).tdiv 4)=(az.toNat:Int);rw[h.ln];have:(((4*az.toNat:Nat):Int)).tdiv 4=(az.toNat:Int):=by
   rw[show(4:Int)=((4:Nat):Int)from rfl,←Int.ofNat_tdiv,uM _ (by omega)]
  rw[this,IntKind.wrap_u32];omega
 ·show DW p.toNat az.toNat d k (if k<p.toNat∧d<4 then(k*(4*az.toNat)+d*az.toNat)*128 else if d=0 then az.toNat*128 else 0)∨DX p.toNat az.toNat d (if k<p.toNat∧d<4 then(k*(4*az.toNat)+d*az.toNat)*128 else if d=0 then az.toNat*128 else 0);have o:∀r,r<4*az.toNat→r*128<4*p.toNat*az.toNat*128∧qn az.toNat (r*128)=r/az.toNat:=fun r g=>by
   have a:=wS (P:=p.toNat) (q:=az.toNat) (L:=0) (r:=r) (j:=0) (by omega) g (by omega);have b:=DY (q:=az.toNat) (L:=0) (r:=r) (j:=0) g (by omega);simp only[w9,cM,gd]at a b;exact⟨a,b⟩
  split
  ·rename_i u;have B:d*az.toNat≤3*az.toNat:=fQ _ (by omega);have g:d*az.toNat<4*az.toNat:=by omega
   exact .inl (have z:=UM u.1 g;⟨z.1,z.2.1,z.2.2.trans (by rw[Nat.mul_div_cancel _ (by omega)])⟩)
  ·split
   ·rename_i e;obtain⟨a,b⟩:=o az.toNat (by omega);refine .inr ⟨a,?_⟩;rw[b,Nat.div_self (by omega)];omega
   ·rename_i e;obtain⟨a,b⟩:=o 0 (by omega);refine .inr ⟨by omega,?_⟩;rw[w9]at b;rw[b,Nat.zero_div];omega
 ·have f:c<4*p.toNat*az.toNat*128:=f;have s:(iV mode mem tm ln az p X i).n=4*p.toNat*az.toNat*128:=(DZ ..).trans h.X;have t:k7 (iV mode mem tm ln az p X (i+1)) c=some (.int .u64 ((if qn az.toNat c=i%4 then(oq mode mem tm ln az p i (rA az.toNat c) (iV mode mem tm ln az p X i)).l.getD c 0#64 else(iV mode mem tm ln az p X i).l.getD c 0#64).toNat:Int)):=by
   show((List.map _ (List.range (iV mode mem tm ln az p X i).n))[c]?).map _=_;rw[dY,Ep (by omega)];rfl
  by_cases e:qn az.toNat c=i%4
  ·refine .inl ⟨rA az.toNat c,?_,⟨f,rfl,e⟩,?_⟩
   ·show c/128/(4*az.toNat)<p.toNat
    rw[Nat.div_div_eq_div_mul];refine By ?_;have:128*(4*az.toNat)*p.toNat=4*p.toNat*az.toNat*128:=by
     rw[iX,gU 128,←m,gU p.toNat]
    omega
   ·show some (Hv mode mem tm ln az p X i (rA az.toNat c) c)=_;rw[show(D1 mode mem tm ln az p X T eM room).V (i+1)=iV mode mem tm ln az p X (i+1)from rfl,t,av e];rfl
  ·refine .inr ⟨fun k _ v=>e v.2.2,?_⟩
   show k7 (iV mode mem tm ln az p X (i+1)) c=k7 (iV mode mem tm ln az p X i) c;rw[t,ak e];unfold k7;rw[bW (by rw[U.h,s];exact f),dZ,bW (by rw[U.h,s];exact f)];rfl
def ald [aF][bq](h:D2 X mem tm ln az p)(m:4*p.toNat*az.toNat≤eM)(o:eM*128≤room){i k:Nat}(hi:i<4*tm.toNat)(d:k<p.toNat):
 ∃f M r s t u v n sl w,UK (D1 mode mem tm ln az p X T eM room) i k f M r s t u v n sl w:=by
 have x:=h.P;have c:=h.q;have A:=h.le;have B:=h.tm;have C:2≤p.toNat*az.toNat:=gb c.1 (Nat.le_mul_of_pos_left _ x.1);have D:4*p.toNat*az.toNat=4*(p.toNat*az.toNat):=iX ..;have y:i/4=(BitVec.ofNat 32 (i/4)).toNat:=by rw[gZ];omega
 have e:i%4=(BitVec.ofNat 32 (i%4)).toNat:=by rw[gZ];omega
 have g:k=(BitVec.ofNat 32 k).toNat:=by rw[gZ];omega
 refine⟨qo p.toNat az.toNat (i%4) k,4*p.toNat*az.toNat,mem,tm,ln,az,p,BitVec.ofNat 32 (i/4),BitVec.ofNat 32 (i%4),BitVec.ofNat 32 k,rfl,h.mem,⟨m,o⟩,rfl,by omega,rfl,rfl,rfl,rfl,rfl,y,e,g,alb rfl rfl h.ln e.symm g.symm (by omega) d c.1 c.2 (by omega),c.1,fun b a=>?_,fun b a=>?_,fun b a=>⟨a.1,?_⟩,fun b a=>?_,?_⟩
 ·have a:(decide (DW p.toNat az.toNat (i%4) k b)||(!true&&decide (DX p.toNat az.toNat (i%4) b)))=true:=a;simp only[Wx,Bool.false_and,Bool.or_false,jM]at a;exact a
 ·unfold qo at a;rw[pM,dH,jM,jM]at a;exact a.elim .inl fun h=>.inr h.2
 ·unfold qo;rw[pM,jM];exact .inl a
 ·have z:(oq mode mem tm ln az p i k (iV mode mem tm ln az p X i)).n=4*p.toNat*az.toNat*128:=(UL _ _ _ _ _ _ _ _ _ _ _ _ ‹aF› ‹bq›).trans ((DZ ..).trans h.X)
  show some (Hv mode mem tm ln az p X i k b)=k7 (oq mode mem tm ln az p i k (iV mode mem tm ln az p X i)) b;have j:b<(oq mode mem tm ln az p i k (iV mode mem tm ln az p X i)).l.length:=by rw[U.h,z];exact a.1
  unfold k7 Hv;rw[bW j,dZ,bW j];rfl
 ·have E:i%4*az.toNat≤3*az.toNat:=fQ _ (by omega)
  show(if k<p.toNat∧i%4<4 then(k*(4*az.toNat)+i%4*az.toNat)*128 else _)<_;rw[av ⟨d,by omega⟩];exact(UM d (show i%4*az.toNat<4*az.toNat by omega)).1
end
section
variable{c:Call}{cu:Machine}{w0:World}
def ale(A:fX c)(r:¬mP Tryz.prog cu 33 c.cn)(s:c.cn<w0.heap.size)(B:∃i,AW c.room (c.V 0) i∧w0.heap[c.cn]? =some i)(C:∀w,@er (jb Tryz.prog cu 33) w0 w→AX c cu w):
 @jU (jb Tryz.prog cu 33) Tryz.prog 33 #[.slice c.lV c.lW c.eM,.int .u32 c.tm,.int .u32 c.mem,.int .u32 c.N,.int .i64 c.mode] w0 fun j w'=>j=.returned (.tuple #[])∧∃b,@er (jb Tryz.prog cu 33) w0 b∧od c b (4*c.tm) w':=by
 letI:=jb Tryz.prog cu 33;intro cs Stop D;refine dr.jump (fun b g' w'=>od c b (4*c.tm) w'∧match cs with
  |[]=>∃t,g'=zY t []|f::e=>g'=G (f.finish (.tuple #[])) e) (fun b k E=>?_) fun b g' w' k ⟨n,u⟩=>?_
 ·obtain⟨aa,ab,sl,T,q,H⟩:=E;have I:c.cn<b.heap.size:=dL s k.size;have J:∃i,AW c.room (c.V 0) i∧b.heap[c.cn]? =some i:=let⟨i,v,o⟩:=B;⟨i,v,(k.mine c.cn s r).trans o⟩;obtain⟨K,L,m,w',M,O,Q,p,n⟩:=ah6 A I r (C b k) J H;cases cs with
  |nil=>exact⟨_,w',⟨K,L,M,O,Q,p⟩,n,m,rfl⟩|cons f e=>
   have R:∀w,stepG Tryz.prog true (zY m (f::e)) w=.go (G (f.finish (.tuple #[])) e) w #[]:=fun w=>by
    have S:=OH (P:=Tryz.prog) (main:=true) (fr:={jc m []with mode:=.returning}) (c:=f) (cs:=e) (w:=w) rfl rfl rfl Tryz.func33 (results_none rfl _ _ _)
    show stepG Tryz.prog true (G {jc m []with mode:=.returning} (f::e)) w=_;rw[S,events_results_none rfl];rfl
   obtain⟨ad,ae,x,af,ag,ah,U,ai,h2,_,_,W,rfl,y⟩:=(p.lone (aX _)).walk (Stop:=fun g w=>g=zY m (f::e)∧AtRel w' w) (fun g w h=>by rw[h.1];rfl) (.stop fun w h=>⟨rfl,h⟩);have aj:x.heap.size=w'.heap.size:=by obtain⟨d,j⟩:=y;have:=iZ (fun w:World=>w.heap.size) j;exact this
   have X:=h2.Co (F:=33) (fun l Y=>let⟨a,j,v,o⟩:=p.oQ l Y;⟨a,j,by omega,o⟩);obtain⟨h3,_⟩:=X.step W (R _) (aX _) (fun j Z=>by simp at Z);exact⟨_,x.at U,⟨_,_,_,_,_,h3⟩,n.at y,rfl⟩
 ·have z:=D (.tuple #[]) w' ⟨rfl,b,k,n⟩;cases cs with
  |nil=>
   obtain⟨t,rfl⟩:=u;exact z _ ⟨rfl,rfl,rfl,rfl,Tryz.f33,Tryz.func33,fun w _=>by simp[results,Tryz.f33]⟩
  |cons f e=>rw[u];exact z
end
end
section
open Go Go.aA Conc Conc.Lib RowKit
variable [aR]
def s4(mem p:BitVec 32):BitVec 32:=mem/p
def m6(mem p:BitVec 32):BitVec 32:=s4 mem p/4#32
def iW(m:Int)(mem tm p:BitVec 32)(X:U 64):U 64:=iV m mem tm (s4 mem p) (m6 mem p) p X (4*tm.toNat)
structure Nh where
 (X:U 64)(M:Nat)(mem tm p:BitVec 32)(m:Int)
def Ni(a:List af)(b:List ah):Option Nh:=
 match a with
 |[.ref (.sm 0 (.s M) 128),.num (.aD tm),.num (.aD mem),.num (.aD p),.num (.int .i64 (.s m))]=>
  match b with
  |[⟨.bt X,.own⟩]=>some ⟨X,M,mem,tm,p,m⟩|_=>none
 |_=>none
def lM:bT Nh where
 d0:=⟨0,0,0,0,0,0⟩
 read:=Ni
 args:=fun⟨_,M,mem,tm,p,m⟩=>[.ref (.sm 0 (.s M) 128),.num (.aD tm),.num (.aD mem),.num (.aD p),.aq m]
 heap:=fun⟨X,_,_,_,_,_⟩=>[⟨.bt X,.own⟩]
 out:=fun⟨X,_,mem,tm,p,m⟩=>[⟨.bt (iW m mem tm p X),.own⟩]
 val:=fun⟨_,_,_,_,_,_⟩=>(.bx [])
 aS:=fun⟨X,M,mem,tm,p,_⟩=>decide (M=mem.toNat∧1≤p.toNat∧p.toNat≤8∧2≤(m6 mem p).toNat∧(m6 mem p).toNat≤64∧mem.toNat=4*p.toNat*(m6 mem p).toNat∧tm.toNat<2147483648∧X.n=M*128)
def alf:lM.Rd:=by
 intro a b d h;change Ni a b=some d at h;unfold Ni at h;repeat' split at h
 all_goals cases h
 exact⟨rfl,rfl⟩
instance apd(P:Machine):@bq (jb Tryz.prog P 33):=@bq.mk (jb Tryz.prog P 33) fun f h a=>by
 subst a;have:scope 33=false:=by kernel_rfl
 rw[this]at h;cases h
def Hw(a:af):Bool:=match a with|.num _=>true|_=>false
def Hx:F8.all Hw=true∧F9.all Hw=true∧Nat.blt 0 F8.length=true∧Nat.blt 0 F9.length=true:=⟨by kernel_rfl,by kernel_rfl,by kernel_rfl,by kernel_rfl⟩
def alg{g:Nat}{l:List af}(h:bB g=some l):(∀a∈l,∃n,a=.num n)∧0<l.length:=by
 have c:∀a,Hw a=true→∃n,a=.num n:=fun a b=>by
  unfold Hw at b;split at b
  ·exact⟨_,rfl⟩
  ·cases b
 unfold bB at h;split at h
 ·cases h;exact⟨fun a b=>c a (xb.1 Hx.1 a b),by simpa using Hx.2.2.1⟩
 ·cases h;exact⟨fun a b=>c a (xb.1 Hx.2.1 a b),by simpa using Hx.2.2.2⟩
 ·cases h
variable{P:Machine}
def UO{β:aE}{f:List ah}{w:World}{b:Nat}(j:@aL _ (jb Tryz.prog P 33) bB β f w)(k:∀g l,bB g=some l→g7 g≠b):Tz P w b:=by
 letI:=jb Tryz.prog P 33;intro g l a;obtain⟨h1,h2⟩:=j.dB g l a;obtain⟨dI,m⟩:=alg a;refine⟨h1,k g l a,?_,fun i c d=>?_⟩
 ·obtain⟨v,_,_,e⟩:=h2 0 _ (bW m);obtain⟨r,o⟩:=r8 g;rw[o]at e;rcases e.2 with h|⟨_,h⟩
  ·exact h.1
  ·exact h.1.elim
 ·obtain⟨v,p,q,_⟩:=h2 i c d;obtain⟨n,rfl⟩:=dI c (rH d);exact⟨v,p,by rw[q.num_inv];exact .num n⟩
def UP:@dy _ (jb Tryz.prog P 33) Tryz.prog bB 33 lM.spec:=by
 letI:=jb Tryz.prog P 33;refine lM.wz alf fun d A β w vs an q ao=>?_;obtain⟨X,M,mem,tm,p,m⟩:=d;have A:=aZ A;obtain⟨rfl,ap,aq,ar,dn,F,aw,ax⟩:=A;have O:D2 X mem tm (s4 mem p) (m6 mem p) p:=⟨⟨ap,aq⟩,⟨ar,dn⟩,by
  unfold s4;rw[rI,F,gU 4 p.toNat,iX,uM _ (by omega)],F,aw,by rw[ax,F]⟩
 have a0:=O.le;obtain⟨a1,a2,rfl,ay,az⟩:=an.cons_inv;obtain⟨a3,a4,rfl,h1,aA⟩:=az.cons_inv;obtain⟨a5,a6,rfl,h2,aB⟩:=aA.cons_inv;obtain⟨a7,a8,rfl,h3,aD⟩:=aB.cons_inv;obtain⟨gI,a9,rfl,h4,aG⟩:=aD.cons_inv;obtain rfl:=aG.r9;obtain rfl:=h1.num_inv;obtain rfl:=h2.num_inv;obtain rfl:=h3.num_inv;obtain rfl:=h4.num_inv;obtain⟨a,Q,rfl,aa,ab⟩:=ay.Cq;have aa:mem.toNat≤Q:=aa;have ba:0<mem.toNat:=by
  rw[F];exact Nat.mul_pos (by omega) (by omega)
 rcases ab with ab|⟨C,r,rfl,aH⟩
 ·omega
 rcases q.blk 0 ⟨.bt X,.own⟩ rfl (eu rfl)with⟨aI,s,aJ⟩|⟨ad,_⟩
 case inr=>have ad:X.n=0:=ad;omega
 rw[r]at s;injection s with s;subst s;obtain⟨R,S,us,t,bu,H,T,U,bf,aK⟩:=aJ;obtain⟨c,base,room⟩:=C;have R:base=0:=R;subst R;refine⟨⟨Tryz.f33,Tryz.func33,by kernel_rfl,by kernel_rfl⟩,?_⟩;have ae:∀g l,bB g=some l→g7 g≠c:=fun g l D=>q.apart 0 _ _ rfl rfl r g l D;have ag:c<w.heap.size:=(dW.1 H).1;have cC:fX (D1 m mem tm (s4 mem p) (m6 mem p) p X c Q room):=alc O;have aL:∃f,AW room X f∧w.heap[c]? =some f:=by
  refine⟨_,⟨⟨us⟩,t,bu,rfl,T,by simpa using U,bf,fun f j=>?_⟩,H⟩;have j:f<X.n:=j;have h1:(X.l.map af.au)[f]? =some (.au (X.l[f]'(by rw[X.h];exact j))):=by simp[X.h,j]
  have bb:X.n≤room:=bf;have h2:(us.take X.n)[f]? =some (us[f]'(by omega)):=by rw[lP,av j];exact bW _
  have h3:=(aK.2 f _ _ h1 h2).num_inv;have h4:(⟨us⟩:Array Value)[f]? =us[f]? :=by simp
  rw[h4,bW (by omega:f<us.length),h3];unfold k7;rw[bW (by rw[X.h];exact j)];rfl
 have u:=ale (cu:=P) (w0:=w) (c:=D1 m mem tm (s4 mem p) (m6 mem p) p X c Q room) cC S.1 ag aL (fun aM o=>ak7 cC (fun i k hi e=>ald O (by omega) aH hi e) (dL ag o.size) S.1 (UO (q.rely o) ae));refine u.mono ?_;rintro ai w' ⟨rfl,aM,o,x⟩;have aN:∀b,b<w.heap.size→b≠c→aF.mine b→w'.heap[b]? =w.heap[b]? :=fun b u aO V=>(x.old b (dL u o.size) aO).trans (o.mine b u V);have aj:w.heap.size≤w'.heap.size:=by have:=x.size;have:=o.size;omega
 obtain⟨f,⟨B,aP,aQ,rfl,aS,I,J,K⟩,aT⟩:=x.GR;have D:=fun g l D=>(UO (q.rely o) ae) g l D;have aU:lM.out ⟨X,mem.toNat,mem,tm,p,m⟩=[⟨.bt (iW m mem tm p X),.own⟩]:=rfl;have ak:lM.heap ⟨X,mem.toNat,mem,tm,p,m⟩=[⟨.bt X,.own⟩]:=rfl;have aV:lM.val ⟨X,mem.toNat,mem,tm,p,m⟩=.obj .bx []:=rfl;rw[aU,ak,aV];rw[ak]at q ao;have I:B.size=room:=I;have J:(iW m mem tm p X).n≤room:=J;have K:∀f,f<(iW m mem tm p X).n→B[f]? =k7 (iW m mem tm p X) f:=K;generalize iW m mem tm p X=y at J K;refine⟨.tuple #[],β,rfl,.bx [] [] rfl (fun i L v h=>by simp at h),⟨fun b k e N=>?_,fun b E k bc C aI W e Y j N r s=>?_,q.fW,fun g l A=>?_,fun b k C e j r=>?_⟩,⟨aE.le_refl _,aX 1,x.os.trans o.os,x.tape.trans o.tape,x.output.trans o.output,aj,fun b u j=>⟨fun V=>aN b u (fun ai=>j ⟨0,_,_,rfl,rfl,r,ai.symm⟩) V,fun f h=>h.elim⟩,fun b u j=>?_,fun _ _=>rfl⟩⟩
 ·match b,e with
  |0,e=>
   have e:some (ah.mk (.bt y) .own)=some k:=e;injection e with e;subst e;refine .inl ⟨_,r,rfl,S,B.toList,aP,aQ,aT,by simpa using aS,by simpa using I,J,?_⟩;refine⟨by show(y.l.map af.au).length=(B.toList.take y.n).length;rw[lQ,qx,Eo,I,y.h];omega,fun i L v Z z=>?_⟩;have al:(y.l.map af.au)[i]? =some L:=Z;rw[dY,bU]at al;obtain⟨a,N,rfl⟩:=al;have hi:i<y.n:=by have:=(dX.1 N).1;rwa[y.h]at this
   rw[lP]at z;split at z
   ·have h3:=K i hi;rw[show B.toList[i]? =B[i]? from by simp]at z;rw[z]at h3;unfold k7 at h3;rw[N]at h3;injection h3 with h3;subst h3;exact .num (.au a)
   ·cases z
  |b+1,e=>exact absurd e (by simp)
 ·match b,E,e,Y,W with|0,0,_,_,W=>exact absurd rfl W|b+1,_,e,_,_=>exact absurd e (by simp)|0,E+1,_,Y,_=>exact absurd Y (by simp)
 ·obtain⟨H,T,U,bf⟩:=D g l A;refine⟨dL (q.dB g l A).1 aj,fun i L Z=>?_⟩;obtain⟨v,z,aW⟩:=bf i L Z;obtain⟨bd,am⟩:=r8 g;refine⟨v,?_,aC.oS aW,?_⟩
  ·rw[←z,am];unfold World.cell? at';simp only;rw[x.old _ H T]
  ·rw[am];exact⟨rfl,.inl ⟨U,fun h=>h.elim⟩⟩
 ·match b,e with|0,e=>exact q.apart 0 _ _ rfl rfl r|b+1,e=>exact absurd e (by simp)
 ·obtain⟨E,k,C,e,j,s,aY⟩:=j
  match E,e with
  |0,e=>exact⟨0,_,C,rfl,rfl,s,aY⟩|E+1,e=>exact absurd e (by simp)
end
section
open Go.aA
variable [aR][aF][bq]
variable{X:U 64}{l j:Nat}{r:Nat→U 64}{nn:Nat→Nat}
structure m7(P q:Nat)(X:U 64)(r:Nat→U 64):Prop where
 n:X.n=P*(4*q*128)
 yJ:∀l,l<P→(r l).n=4*q*128
 ri:∀l j,l<P→j<4*q*128→aK X (l*(4*q*128)+j)=aK (r l) j
def rB(P q N c:Nat)(X:U 64):Prop:=N=0→∀l j,l<P→c*128≤j→j<4*q*128→aK X (l*(4*q*128)+j)=0#64
theorem D3(aO:uv)(p:Nat)(c d co e:Int)(nn:Nat→Nat):∀(a b:List (Nat×Nat)) (r:Nat→U 64),qh aO p c d co e nn (a++b) r=qh aO p c d co e nn b (qh aO p c d co e nn a r)|[],_,_=>rfl|(f,l)::a,b,r=>D3 aO p c d co e nn a b _
def qp(a t:Nat):List (Nat×Nat):=(List.range t).map fun l=>(a,l)
theorem alh{P q:Nat}(Q:0<q)(c:j<4*q*128):(l*(4*q*128)+j)/128/(4*q)=l∧(l*(4*q*128)+j)/128%(4*q)=j/128:=by
 have b:(l*(4*q*128)+j)/128=(4*q)*l+j/128:=by
  rw[←iX l (4*q) 128,gU (4*q) l];generalize l*(4*q)=z;omega
 have a:j/128<4*q:=by omega
 rw[b];refine⟨?_,?_⟩
 ·rw[Ih (by omega),Bj a];rfl
 ·rw[Nat.mul_add_mod,dM a]
section
variable{m:Int}{mem tm ln az p:BitVec 32}{P q T:Nat}
variable(S:1≤P)(V:P≤8)(W:2≤q)(Q:q≤64)(em:mem.toNat=4*P*q)(Y:tm.toNat=T)(Z:ln.toNat=4*q)(R:az.toNat=q)(A:p.toNat=P)
include S V W Q em Y Z R A
theorem UQ(g:X.n=P*(4*q*128))(i:Nat)(b:l<P)(c:j<4*q*128):aK (yU m mem tm ln az p i X) (l*(4*q*128)+j)=if j/128/q=i%4 then aK (oq m mem tm ln az p i l X) (l*(4*q*128)+j)else aK X (l*(4*q*128)+j):=by
 have d:l*(4*q*128)+j<X.n:=by
  have:(l+1)*(4*q*128)≤P*(4*q*128):=fQ _ b;rw[jR]at this;omega
 obtain⟨e,d2⟩:=alh (P:=P) (l:=l) (by omega:0<q) c;have f:aK (yU m mem tm ln az p i X) (l*(4*q*128)+j)=((List.range X.n).map fun a=>if qn az.toNat a=i%4 then(oq m mem tm ln az p i (rA az.toNat a) X).l.getD a 0#64 else X.l.getD a 0#64).getD (l*(4*q*128)+j) 0#64:=rfl;rw[f,dZ,dY,Ep d]
 show(if qn az.toNat (l*(4*q*128)+j)=i%4 then aK (oq m mem tm ln az p i (rA az.toNat (l*(4*q*128)+j)) X) (l*(4*q*128)+j)else aK X (l*(4*q*128)+j))=_;unfold qn rA;rw[R,e,d2]
theorem UR{X:U 64}{r:Nat→U 64}{nn:Nat→Nat}{N a:Nat}(z:N<4)(w:a<4)(k:m7 P q X r)(x:rB P q N (a*q+if N=0∧a=0 then 2 else 0) X):∀t,t≤P→∀l,l<P→
 (qh gR P m T ((4*q:Nat):Int) N nn (qp a t) r l).n=4*q*128∧∀j,j<4*q*128→aK (qh gR P m T ((4*q:Nat):Int) N nn (qp a t) r l) j=if l<t∧j/128/q=a then aK (oq m mem tm ln az p (4*N+a) l X) (l*(4*q*128)+j)else aK X (l*(4*q*128)+j)
 |0,_,l,b=>⟨k.yJ l b,fun j e=>by rw[ak (fun h=>absurd h.1 (by omega))];exact(k.ri l j b e).symm⟩|t+1,o,l,b=>by
  have g:=UR (nn:=nn) z w k x t (by omega);have B:qp a (t+1)=qp a t++[(a,t)]:=by unfold qp;rw[List.range_succ,Bq];rfl
  rw[B,D3];generalize qh gR P m T ((4*q:Nat):Int) N nn (qp a t) r=d at g⊢;have o:t<P:=by omega
  have e:sP P q N a t (if N=0∧a=0 then 2 else 0) X (fy P d):=⟨k.n,fun l b=>by rw[mZ _ b];exact(g l b).1,fun l j b e C=>by
   rw[mZ _ b,(g l b).2 j e,ak];rintro⟨O,D⟩;exact C.elim (fun h=>by omega) (fun h=>h D),fun E j h1 h2=>x E t j o h1 h2⟩
  have F:(BitVec.ofNat 32 ((4*N+a)/4)).toNat=N:=by rw[gZ];omega
  have H:(BitVec.ofNat 32 ((4*N+a)%4)).toNat=a:=by rw[gZ];omega
  have I:(BitVec.ofNat 32 t).toNat=t:=by rw[gZ];omega
  obtain⟨i,s,u⟩:=ais (f:=qo p.toNat az.toNat ((4*N+a)%4) t) (M:=4*p.toNat*az.toNat) (m:=m) (nn:=c7 P nn) S V o w W Q em Y Z R A F H I e;have J:lH (qo p.toNat az.toNat ((4*N+a)%4) t) X (4*p.toNat*az.toNat) m mem tm ln az p (BitVec.ofNat 32 ((4*N+a)/4)) (BitVec.ofNat 32 ((4*N+a)%4)) (BitVec.ofNat 32 t)=oq m mem tm ln az p (4*N+a) t X:=rfl;rw[J]at i
  show(gR P t (yT P m T ((4*q:Nat):Int) N nn d a) l).n=_∧_;have K:(uf P t ⟨m,T,((4*q:Nat):Int),N,a,c7 P nn,fy P d⟩).r=gR P t (yT P m T ((4*q:Nat):Int) N nn d a):=rfl;rw[K]at i s u;have L:qh gR P m T ((4*q:Nat):Int) N nn [(a,t)] d=gR P t (yT P m T ((4*q:Nat):Int) N nn d a):=rfl;rw[L];generalize gR P t (yT P m T ((4*q:Nat):Int) N nn d a)=aa at i s u⊢;refine⟨i.yJ l b,fun j v=>?_⟩;by_cases y:l=t
  ·subst y;by_cases c:j/128/q=a
   ·rw[av ⟨by omega,c⟩];exact(i.ri l j b v (.inl rfl)).symm
   ·rw[ak (fun h=>c h.2),u j c,mZ _ b,(g l b).2 j v,ak (fun h=>c h.2)]
  ·rw[s l y,mZ _ b,(g l b).2 j v];by_cases c:l<t∧j/128/q=a
   ·rw[av c,av ⟨by omega,c.2⟩]
   ·rw[ak c,ak (fun h=>c ⟨by omega,h.2⟩)]
theorem Hy{N a:Nat}(g:N<4)(i:a<4)(b:m7 P q X r)(e:rB P q N (a*q+if N=0∧a=0 then 2 else 0) X):
 m7 P q (yU m mem tm ln az p (4*N+a) X) (qh gR P m T ((4*q:Nat):Int) N nn (qp a P) r)∧rB P q N ((a+1)*q) (yU m mem tm ln az p (4*N+a) X):=by
 have f:=UR (m:=m) (nn:=nn) S V W Q em Y Z R A g i b e P (aX _);have d:=fun l j (h1:l<P) (h2:j<4*q*128)=>UQ (m:=m) S V W Q em Y Z R A b.n (4*N+a) h1 h2;have k:(4*N+a)%4=a:=by omega
 simp only[k]at d;refine⟨⟨b.n,fun l h=>(f l h).1,fun l j h1 h2=>?_⟩,fun o l j h1 h2 h3=>?_⟩
 ·rw[d l j h1 h2,(f l h1).2 j h2];by_cases c:j/128/q=a
  ·rw[av c,av ⟨h1,c⟩]
  ·rw[ak c,ak (fun h=>c h.2)]
 ·rw[jR]at h2;have s:a+1≤j/128/q:=(Bx (by omega)).2 (by rw[jR];omega);rw[d l j h1 h3,ak (by omega)];refine e o l j h1 ?_ h3;split<;>omega
theorem ali{N:Nat}(b:N<4)(f:m7 P q (iV m mem tm ln az p X (4*N)) r)(g:rB P q N 2 (iV m mem tm ln az p X (4*N))):
 m7 P q (iV m mem tm ln az p X (4*(N+1))) (qh gR P m T ((4*q:Nat):Int) N nn (yS P) r):=by
 have i:yS P=qp 0 P++(qp 1 P++(qp 2 P++qp 3 P)):=by
  unfold yS qp;simp[List.range_succ,List.flatMap]
 rw[i,D3,D3,D3];have d:∀(a:Nat) (e:U 64),1≤a→rB P q N (a*q) e→rB P q N (a*q+if N=0∧a=0 then 2 else 0) e:=fun a e h1 h=>by rw[ak (by omega)];exact h
 have k:rB P q N (0*q+if N=0∧0=0 then 2 else 0) (iV m mem tm ln az p X (4*N)):=by
  by_cases c:N=0
  ·rw[av ⟨c,rfl⟩,w9,cM];exact g
  ·exact fun h=>absurd h c
 obtain⟨n,o⟩:=Hy (nn:=nn) S V W Q em Y Z R A b (by omega:0<4) f k;obtain⟨s,cm⟩:=Hy (nn:=nn) S V W Q em Y Z R A b (by omega:1<4) n (d 1 _ (by omega) o);obtain⟨t,u⟩:=Hy (nn:=nn) S V W Q em Y Z R A b (by omega:2<4) s (d 2 _ (by omega) cm);exact(Hy (nn:=nn) S V W Q em Y Z R A b (by omega:3<4) t (d 3 _ (by omega) u)).1
end
end
section
open Go.aA
variable [aR][aF][bq]
variable{X:U 64}{r:Nat→U 64}
theorem m7.fy{P q:Nat}(h:m7 P q X r):m7 P q X (fy P r):=⟨h.n,fun l a=>by rw[mZ _ a];exact h.yJ l a,fun l j a b=>by rw[mZ _ a];exact h.ri l j a b⟩
section
variable{m:Int}{mem tm S V p:BitVec 32}{P q T:Nat}
variable(W:1≤P)(Y:P≤8)(Z:2≤q)(A:q≤64)(em:mem.toNat=4*P*q)(Q:tm.toNat=T)(R:p.toNat=P)
include W Y Z A em Q R
theorem US(f:S.toNat=4*q)(g:V.toNat=q)(j:T≤4){X:U 64}(i:rB P q 0 2 X)(a b c d:U 8)(len:Int):∀(t N:Nat) (nn:Nat→Nat) (r:Nat→U 64),N+t=T→m7 P q (iV m mem tm S V p X (4*N)) r→
 m7 P q (iV m mem tm S V p X (4*T)) (iter (uy gR P) t ⟨a,b,c,d,m,T,((4*q:Nat):Int),len,N,nn,r⟩).r
 |0,N,nn,r,k,e=>by
  have d:N=T:=by omega
  subst d;exact e
 |t+1,N,nn,r,k,e=>by
  have l:rB P q N 2 (iV m mem tm S V p X (4*N)):=fun h=>by
   subst h;exact i rfl
  have h1:=ali (nn:=nn) W Y Z A em Q f g R (by omega) e l;exact US f g j i a b c d len t (N+1) nn _ (by omega) h1
theorem alj:(s4 mem p).toNat=4*q∧(m6 mem p).toNat=q:=by
 have h1:(s4 mem p).toNat=4*q:=by
  unfold s4;rw[rI,em,R,gU 4 P,iX];exact uM _ (by omega)
 refine⟨h1,?_⟩;unfold m6;rw[rI,h1,show(4#32).toNat=4 from rfl];omega
theorem alk(f:T≤4)(g:rB P q 0 2 X)(i:m7 P q X r)(a b c d:U 8)(len:Int)(e:Nat→Nat):m7 P q (iW m mem tm p X) (m5 P a b c d m T ((4*q:Nat):Int) len e r).r:=by
 obtain⟨j,k⟩:=alj W Y Z A em Q R;unfold iW;rw[Q];have h:=US (m:=m) W Y Z A em Q R j k f g a b c d len T 0 (c7 P e) (fy P r) (by omega) i.fy;unfold m5;rw[show((T:Int)-0).toNat=T by omega];exact h
end
end
section
open Go.aA
variable [aR][aF][bq]
def wT:FuncId→Nat→Option cP|34,3=>some LA|34,12=>some Lu|_,_=>none
def dA(X:U 64)(M:Nat)(mem p kl:BitVec 32):q2:=iter kZ ((p-1#32).toNat-(0#32).toNat) ⟨X,M,mem,p,kl,mem/p,0#32⟩
def gS(d:q2):sF:=iter n4 ((128-(0:Int)).toNat) ⟨d.X,yo,rowAt d.X (aT (d.mem-1#32)),d.M,d.mem,d.p,d.kl,d.ln,d.la,0⟩
def UT(a:U 8→U 8→Nat→Nat→Nat→Nat→Nat→U 8):bT K2:={nW with out:=fun⟨v,w,o,iy,c5,Su,b⟩=>[⟨.ag (a v w o iy c5 Su b),.own⟩,⟨.ag w,.ro⟩]}
def alm:UT ga=nW:=rfl
def Nj(a:U 8→U 8→Nat→Nat→Nat→Nat→Nat→U 8):FuncId→Option aA.Spec|42=>some (UT a).spec|_=>none
def aln:∀f a,Nj ga f=some a→br f a:=by
 intro f a h;unfold Nj at h;split at h
 ·cases h;rw[alm];exact Sw
 ·cases h
def Nk(a:U 8→U 8→Nat→Nat→Nat→Nat→Nat→U 8)(d:sF):U 8:=a (U.zero 8 d.kl.toNat) d.b 0 d.kl.toNat d.kl.toNat 0 1024
structure Nl where
 (X:U 64)(M:Nat)(mem p kl:BitVec 32)
def Nm(a:List af)(b:List ah):Option Nl:=
 match a with
 |[.ref (.sm 0 (.s M) 128),.num (.aD mem),.num (.aD p),.num (.aD kl)]=>
  match b with
  |[⟨.bt X,.own⟩]=>some ⟨X,M,mem,p,kl⟩|_=>none
 |_=>none
def Ba:bT Nl where
 d0:=⟨0,0,0,0,0⟩
 read:=Nm
 args:=fun⟨_,M,mem,p,kl⟩=>[.ref (.sm 0 (.s M) 128),.num (.aD mem),.num (.aD p),.num (.aD kl)]
 heap:=fun⟨X,_,_,_,_⟩=>[⟨.bt X,.own⟩]
 out:=fun⟨X,M,mem,p,kl⟩=>[⟨.bt ((gS (dA X M mem p kl))).X,.own⟩,⟨.ag (Nk ga (gS (dA X M mem p kl))),.own⟩]
 val:=fun⟨_,_,_,_,kl⟩=>(.sl 1 (.c 0) (.s kl.toNat) (some (.s kl.toNat)))
 aS:=fun⟨X,M,mem,p,kl⟩=>decide (X.n=M*128∧M=mem.toNat∧2*p.toNat≤mem.toNat∧1≤p.toNat∧1≤kl.toNat)
def alo:Ba.Rd:=by
 intro a b d h;change Nm a b=some d at h;unfold Nm at h;repeat' split at h
 all_goals cases h
 exact⟨rfl,rfl⟩
def alp(a:U 8→U 8→Nat→Nat→Nat→Nat→Nat→U 8)(X:U 64)(M:Nat)(mem p kl:BitVec 32):Ba.cB ⟨X,M,mem,p,kl⟩ (some [0,2]) (bY (Nj a) wT 34) [] [⟨.bt (gS (dA X M mem p kl)).X,.own⟩,⟨.ag (Nk a (gS (dA X M mem p kl))),.own⟩] (.sl 1 (.c 0) (.s (gS (dA X M mem p kl)).kl.toNat) (some (.s (gS (dA X M mem p kl)).kl.toNat))) [decide (((1:Nat)≤((((((dA X M mem p kl).kl).toNat:Nat):Int)):Int).toNat∧(((((((dA X M mem p kl).kl).toNat:Nat):Int)):Int).toNat≤((((((dA X M mem p kl).kl).toNat:Nat):Int)):Int).toNat∧((0+((((((dA X M mem p kl).kl).toNat:Nat):Int)):Int).toNat)≤((((((dA X M mem p kl).kl).toNat:Nat):Int)):Int).toNat∧(((((((dA X M mem p kl).kl).toNat:Nat):Int)):Int).toNat≤1099511627776∧(((0+((((0:Int)):Int).toNat*1))+((((1024:Int)):Int).toNat-(((0:Int)):Int).toNat))≤1024∧((((1024:Int)):Int).toNat-(((0:Int)):Int).toNat)≤1099511627776)))))),decide ((1024:Nat)≤1024),decide ((((((((dA X M mem p kl).kl).toNat:Nat):Int)):Int).toNat*1)≤1099511627776),((decide ((0:Int)≤((((dA X M mem p kl).kl).toNat:Nat):Int))&&decide (((((dA X M mem p kl).kl).toNat:Nat):Int)≤((((dA X M mem p kl).kl).toNat:Nat):Int)))&&decide (((((dA X M mem p kl).kl).toNat:Nat):Int)≤1099511627776)),decide (((0:Int)≤0∧((0:Int)≤128∧(1024:Nat)=1024))),decide (((0+(((((((dA X M mem p kl).mem-(1#32)).toNat:Nat):Int)):Int).toNat*128))+128)≤(dA X M mem p kl).X.n),(decide ((0:Int)≤((((dA X M mem p kl).mem-(1#32)).toNat:Nat):Int))&&decide (((((dA X M mem p kl).mem-(1#32)).toNat:Nat):Int)<(((dA X M mem p kl).M:Nat):Int))),decide (((0#32).toNat≤(p-(1#32)).toNat∧(X.n=(M*128)∧(M=mem.toNat∧((mem/p).toNat=(mem.toNat/p.toNat)∧((2*p.toNat)≤mem.toNat∧1≤p.toNat)))))),(p !=(0#32))]:=by show _=_;kernel_rfl
end
section
open Go Go.aA
variable [aR][aF][bq]
def alq(X:U 64)(M:Nat)(mem p kl:BitVec 32):(dA X M mem p kl).M=M∧(dA X M mem p kl).mem=mem∧(dA X M mem p kl).p=p∧(dA X M mem p kl).kl=kl∧(dA X M mem p kl).X.n=X.n:=by
 have c:∀r (d:q2),(iter kZ r d).M=d.M∧(iter kZ r d).mem=d.mem∧(iter kZ r d).p=d.p∧(iter kZ r d).kl=d.kl∧(iter kZ r d).X.n=d.X.n:=by
  intro r
  induction r with
  |zero=>exact fun d=>⟨rfl,rfl,rfl,rfl,rfl⟩|succ r e=>
   intro d;obtain⟨X,M,mem,p,kl,a,b⟩:=d;obtain⟨h1,h2,h3,h4,f⟩:=e (kZ ⟨X,M,mem,p,kl,a,b⟩);refine⟨h1,h2,h3,h4,f.trans ?_⟩;dsimp only[kZ];exact SQ X M mem p kl a b
 exact c _ _
def alr:∀r (d:sF),(iter n4 r d).kl=d.kl∧(iter n4 r d).X=d.X∧(iter n4 r d).b.n=d.b.n:=by
 intro r
 induction r with
 |zero=>exact fun d=>⟨rfl,rfl,rfl⟩|succ r a=>
  intro d;obtain⟨X,b,c,M,mem,p,kl,e,f,i⟩:=d;obtain⟨h1,h2,h3⟩:=a (n4 ⟨X,b,c,M,mem,p,kl,e,f,i⟩);exact⟨h1,h2,h3.trans rfl⟩
def als(d:q2):(gS d).kl=d.kl∧(gS d).X=d.X:=by
 have h:=alr ((128-(0:Int)).toNat) ⟨d.X,yo,rowAt d.X (aT (d.mem-1#32)),d.M,d.mem,d.p,d.kl,d.ln,d.la,0⟩;exact⟨h.1,h.2.1⟩
def alu(spec:FuncId→Option aA.Spec):c6 (de spec wT) bB:=by
 have d:(cH Tryz.prog 34).length=3:=by kernel_rfl
 refine c6.of fun f=>?_;by_cases c:f=34
 ·subst c;refine .inr ⟨by kernel_rfl,fun i hi e a=>?_⟩;have hi:i<(cH Tryz.prog 34).length:=hi;rw[d]at hi;have g:i=0∨i=1∨i=2:=by omega
  rcases g with rfl|rfl|rfl
  ·have b:(bX (bg Tryz.prog 34 0)).bind (wT 34)=some LA:=by kernel_rfl
   obtain rfl:=dV (b.symm.trans a);exact agu
  ·have b:(bX (bg Tryz.prog 34 1)).bind (wT 34)=none:=by kernel_rfl
   have a:(bX (bg Tryz.prog 34 1)).bind (wT 34)=some e:=a;rw[b]at a;cases a
  ·have b:(bX (bg Tryz.prog 34 2)).bind (wT 34)=some Lu:=by kernel_rfl
   obtain rfl:=dV (b.symm.trans a);exact agd
 ·refine .inl fun r=>?_
  show wT f r=none;unfold wT;split
  ·exact absurd rfl c
  ·exact absurd rfl c
  ·rfl
def alv:br 34 Ba.spec:=by
 refine Ba.ok (dm aln (alu _)) alo ?_;rintro⟨X,M,mem,p,kl⟩ a;have a:=aZ a;obtain⟨d,e,f,bf,n⟩:=a;obtain⟨b,g,o,c,i⟩:=alq X M mem p kl;have j:=(als (dA X M mem p kl)).1.trans c;have h:=alp ga X M mem p kl;rw[j]at h;refine⟨[],some [0,2],_,h,?_⟩;rw[b,g,c,i];have q:=kl.isLt;have r:=mem.isLt;have s:=p.isLt;have t:(mem-1#32).toNat=mem.toNat-1:=by
  rw[kH];have b:(1#32).toNat=1:=rfl;rw[b];omega
 have k:(mem/p).toNat=mem.toNat/p.toNat:=rI;have l:p≠0#32:=fun m=>by rw[m]at bf;simp at bf
 repeat'(refine ax ?_ ?_)
 all_goals first|exact aV|rfl|(simp only[cz]<;>first|omega|exact l|exact⟨kI _,d,e,k,f,bf⟩)
end
section
open Go.aA
variable [aR][aF][bq]
variable [aR][aF][bq]
abbrev yV:=U 8→U 8→U 8→U 8→Nat→Nat→Nat→Nat→Nat→Nat→Nat→Nat→BitVec 32→BitVec 32→BitVec 32→BitVec 32→Int→U 8
abbrev yW:=U 8→U 8→Nat→Nat→Nat→Nat→BitVec 32→BitVec 32→BitVec 32→BitVec 32→Int→U 8
abbrev wU:=U 8→BitVec 32→BitVec 32→U 64
abbrev wV:=Int→BitVec 32→BitVec 32→BitVec 32→U 64→U 64
abbrev wW:=U 64→Nat→BitVec 32→BitVec 32→BitVec 32→U 8
def uA:yV:=fun a b c d e f g h i j l n t m p k o=>AK (Dc a b c d e f g h i j l n t m p k o)
def rC:yW:=fun a b c d e f t m p k g=>AK (SB a b c d e f t m p k g)
def jK:wW:=fun X M mem p kl=>Nk ga (gS (dA X M mem p kl))
def UU(d:yV):bT K6:={AL with val:=fun⟨a,b,c,e,bA,na,bz,nb,bH,bD,bO,ne,t,m,p,k,f⟩=>(.agg (jY (d a b c e bA na bz nb bH bD bO ne t m p k f) 72))}
def alw:UU uA=AL:=rfl
def UV(c:yW):bT K8:={AM with val:=fun⟨a,b,bA,na,bz,nb,t,m,p,k,d⟩=>(.agg (jY (c a b bA na bz nb t m p k d) 72))}
def alx:UV rC=AM:=rfl
def UW(a:U 8→BitVec 32→BitVec 32→U 8)(b:wU):bT Lr:={xP with out:=fun⟨h,mem,p⟩=>[⟨.ag (a h mem p),.own⟩,⟨.bt (b h mem p),.own⟩]}
def aly:UW uc iA=xP:=rfl
def UX(a:wV):bT Nh:={lM with out:=fun⟨X,M,mem,tm,p,m⟩=>[⟨.bt (a m mem tm p X),.own⟩]}
def alz:UX iW=lM:=rfl
def UY(a:U 64→Nat→BitVec 32→BitVec 32→BitVec 32→U 64)(b:wW):bT Nl:={Ba with out:=fun⟨X,M,mem,p,kl⟩=>[⟨.bt (a X M mem p kl),.own⟩,⟨.ag (b X M mem p kl),.own⟩]}
def alA:UY (fun X M mem p kl=>(gS (dA X M mem p kl)).X) jK=Ba:=rfl
def Bb(a:yV)(b:yW)(c:U 8→BitVec 32→BitVec 32→U 8)(d:wU)(e:wV)(f:U 64→Nat→BitVec 32→BitVec 32→BitVec 32→U 64)(g:wW):FuncId→Option aA.Spec|31=>some (fK (UU a).spec (UV b).spec)|32=>some (UW c d).spec|33=>some (UX e).spec|34=>some (UY f g).spec|_=>none
abbrev UZ:FuncId→Option aA.Spec:=Bb uA rC uc iA iW (fun X M mem p kl=>(gS (dA X M mem p kl)).X) jK
def U0(b:br 33 lM.spec):∀f a,UZ f=some a→br f a:=by
 intro f a h;unfold UZ Bb at h;split at h
 ·cases h;rw[alw,alx];exact dy.or afo afr
 ·cases h;rw[aly];exact af6
 ·cases h;rw[alz];exact b
 ·cases h;rw[alA];exact alv
 ·cases h
def ot(a:U 8):U 8:=U.of [a.l.getD 0 0#8,a.l.getD 1 0#8,a.l.getD 2 0#8,a.l.getD 3 0#8,a.l.getD 4 0#8,a.l.getD 5 0#8,a.l.getD 6 0#8,a.l.getD 7 0#8,a.l.getD 8 0#8,a.l.getD 9 0#8,a.l.getD 10 0#8,a.l.getD 11 0#8,a.l.getD 12 0#8,a.l.getD 13 0#8,a.l.getD 14 0#8,a.l.getD 15 0#8,a.l.getD 16 0#8,a.l.getD 17 0#8,a.l.getD 18 0#8,a.l.getD 19 0#8,a.l.getD 20 0#8,a.l.getD 21 0#8,a.l.getD 22 0#8,a.l.getD 23 0#8,a.l.getD 24 0#8,a.l.getD 25 0#8,a.l.getD 26 0#8,a.l.getD 27 0#8,a.l.getD 28 0#8,a.l.getD 29 0#8,a.l.getD 30 0#8,a.l.getD 31 0#8,a.l.getD 32 0#8,a.l.getD 33 0#8,a.l.getD 34 0#8,a.l.getD 35 0#8,a.l.getD 36 0#8,a.l.getD 37 0#8,a.l.getD 38 0#8,a.l.getD 39 0#8,a.l.getD 40 0#8,a.l.getD 41 0#8,a.l.getD 42 0#8,a.l.getD 43 0#8,a.l.getD 44 0#8,a.l.getD 45 0#8,a.l.getD 46 0#8,a.l.getD 47 0#8,a.l.getD 48 0#8,a.l.getD 49 0#8,a.l.getD 50 0#8,a.l.getD 51 0#8,a.l.getD 52 0#8,a.l.getD 53 0#8,a.l.getD 54 0#8,a.l.getD 55 0#8,a.l.getD 56 0#8,a.l.getD 57 0#8,a.l.getD 58 0#8,a.l.getD 59 0#8,a.l.getD 60 0#8,a.l.getD 61 0#8,a.l.getD 62 0#8,a.l.getD 63 0#8,a.l.getD 64 0#8,a.l.getD 65 0#8,a.l.getD 66 0#8,a.l.getD 67 0#8,a.l.getD 68 0#8,a.l.getD 69 0#8,a.l.getD 70 0#8,a.l.getD 71 0#8]
def kF(m:BitVec 32)(p:BitVec 8):BitVec 32:=m/(4#32*p.setWidth 32)*(4#32*p.setWidth 32)
def j6(m:BitVec 32)(p:BitVec 8):BitVec 32:=if(kF m p).toNat<(8#32*p.setWidth 32).toNat then 8#32*p.setWidth 32 else kF m p
def wX(a:wU)(b:wV)(c:wW)(h:U 8)(t mem:BitVec 32)(p:BitVec 8)(k:BitVec 32)(d:Int):U 8:=c (b d mem t (p.setWidth 32) (a (ot h) mem (p.setWidth 32))) mem.toNat mem (p.setWidth 32) k
def D4(a:wU)(c:wV)(h:U 8)(t m mem:BitVec 32)(p:BitVec 8)(k:BitVec 32)(d:Int)(b i:Bool):List Bool:=
 let q:=p.setWidth 32
 [decide ((c d mem t q (a (ot h) mem q)).n=mem.toNat*128∧mem.toNat=mem.toNat∧2*q.toNat≤mem.toNat∧1≤q.toNat∧1≤k.toNat),decide (mem.toNat=mem.toNat∧1≤q.toNat∧q.toNat≤8∧2≤(m6 mem q).toNat∧(m6 mem q).toNat≤64∧mem.toNat=4*q.toNat*(m6 mem q).toNat∧t.toNat<2147483648∧(a (ot h) mem q).n=mem.toNat*128),decide ((72:Nat)=72∧2*q.toNat≤mem.toNat),decide ((kF m p).toNat<(8#32*q).toNat)==b,4#32*q !=0#32,i,decide (p.toNat<(1#8).toNat)==false,decide (t.toNat<(1#32).toNat)==false]
def en(a b c e:U 8)(f g h i j l n o:Nat)(t m:BitVec 32)(p:BitVec 8)(k:BitVec 32)(d:Int):U 8:=wX iA iW jK (uA a b c e f g h i j l n o t m (p.setWidth 32) k d) t (j6 m p) p k d
def kG(a b:U 8)(d e f g:Nat)(t m:BitVec 32)(p:BitVec 8)(k:BitVec 32)(c:Int):U 8:=wX iA iW jK (rC a b d e f g t m (p.setWidth 32) k c) t (j6 m p) p k c
structure Nn where
 (a b c e:U 8)(bA na bz nb bH bD bO ne:Nat)(t m:BitVec 32)(p:BitVec 8)(k:BitVec 32)(aM:Int)
def No(a:List af)(d:List ah):Option Nn:=
 match a with
 |[.num (.int .i64 (.s e)),.ref (.sl 0 (.s f) (.s g) none),.ref (.sl 1 (.s h) (.s i) none),.ref (.sl 2 (.s j) (.s l) none),.ref (.sl 3 (.s n) (.s o) none),.num (.aD t),.num (.aD m),.num (.bQ p),.num (.aD k)]=>
  match d with
  |[⟨.ag a,.ro⟩,⟨.ag b,.ro⟩,⟨.ag c,.ro⟩,⟨.ag q,.ro⟩]=>some ⟨a,b,c,q,f,g,h,i,j,l,n,o,t,m,p,k,e⟩|_=>none
 |_=>none
def uB:bT Nn where
 d0:=⟨0,0,0,0,0,0,0,0,0,0,0,0,0,0,0,0,0⟩
 read:=No
 args:=fun⟨_,_,_,_,i,d,j,e,l,f,o,g,t,m,p,k,q⟩=>[.aq q,.ref (.sl 0 (.s i) (.s d) none),.ref (.sl 1 (.s j) (.s e) none),.ref (.sl 2 (.s l) (.s f) none),.ref (.sl 3 (.s o) (.s g) none),.num (.aD t),.num (.aD m),.num (.bQ p),.num (.aD k)]
 heap:=fun⟨a,b,c,h,_,_,_,_,_,_,_,_,_,_,_,_,_⟩=>[⟨.ag a,.ro⟩,⟨.ag b,.ro⟩,⟨.ag c,.ro⟩,⟨.ag h,.ro⟩]
 out:=fun⟨a,b,c,h,i,d,j,e,l,f,o,g,t,m,p,k,q⟩=>[⟨.ag a,.ro⟩,⟨.ag b,.ro⟩,⟨.ag c,.ro⟩,⟨.ag h,.ro⟩,⟨.ag (en a b c h i d j e l f o g t m p k q),.own⟩]
 val:=fun⟨_,_,c,_,_,_,_,_,_,_,_,_,_,_,_,k,_⟩=>(.sl 4 (.c 0) (.s k.toNat) (some (.s k.toNat)))
 aS:=fun⟨a,b,c,h,i,d,j,e,l,f,o,g,t,m,p,k,_⟩=>decide (i+d≤a.n∧d≤1000000∧j+e≤b.n∧e≤1000000∧l+f≤c.n∧f≤1000000∧o+g≤h.n∧g≤1000000∧1≤t.toNat∧t.toNat≤1000000∧m.toNat≤256∧1≤p.toNat∧p.toNat≤8∧1≤k.toNat)
def alB:uB.Rd:=by
 intro a b d h;change No a b=some d at h;unfold No at h;repeat' split at h
 all_goals cases h
 exact⟨rfl,rfl⟩
structure Np where
 (a b:U 8)(bA na bz nb:Nat)(t m:BitVec 32)(p:BitVec 8)(k:BitVec 32)(aM:Int)
def Nq(a:List af)(c:List ah):Option Np:=
 match a with
 |[.num (.int .i64 (.s d)),.ref (.sl 0 (.s e) (.s f) none),.ref (.sl 1 (.s g) (.s h) none),.atom .cI,.atom .cI,.num (.aD t),.num (.aD m),.num (.bQ p),.num (.aD k)]=>
  match c with
  |[⟨.ag a,.ro⟩,⟨.ag b,.ro⟩]=>some ⟨a,b,e,f,g,h,t,m,p,k,d⟩|_=>none
 |_=>none
def uC:bT Np where
 d0:=⟨0,0,0,0,0,0,0,0,0,0,0⟩
 read:=Nq
 args:=fun⟨_,_,f,d,g,e,t,m,p,k,h⟩=>[.aq h,.ref (.sl 0 (.s f) (.s d) none),.ref (.sl 1 (.s g) (.s e) none),.atom .cI,.atom .cI,.num (.aD t),.num (.aD m),.num (.bQ p),.num (.aD k)]
 heap:=fun⟨a,b,_,_,_,_,_,_,_,_,_⟩=>[⟨.ag a,.ro⟩,⟨.ag b,.ro⟩]
 out:=fun⟨a,b,f,d,g,e,t,m,p,k,h⟩=>[⟨.ag a,.ro⟩,⟨.ag b,.ro⟩,⟨.ag (kG a b f d g e t m p k h),.own⟩]
 val:=fun⟨_,_,_,_,_,_,_,_,_,k,_⟩=>(.sl 2 (.c 0) (.s k.toNat) (some (.s k.toNat)))
 aS:=fun⟨a,b,f,d,g,e,t,m,p,k,_⟩=>decide (f+d≤a.n∧d≤1000000∧g+e≤b.n∧e≤1000000∧1≤t.toNat∧t.toNat≤1000000∧m.toNat≤256∧1≤p.toNat∧p.toNat≤8∧1≤k.toNat)
def alC:uC.Rd:=by
 intro a b d h;change Nq a b=some d at h;unfold Nq at h;repeat' split at h
 all_goals cases h
 exact⟨rfl,rfl⟩
def alD(r:yV)(w:yW)(x:U 8→BitVec 32→BitVec 32→U 8)(s:wU)(u:wV)(y:U 64→Nat→BitVec 32→BitVec 32→BitVec 32→U 64)(v:wW)(a b c d:U 8)(j e l f o g q h:Nat)(t m:BitVec 32)(p:BitVec 8)(k:BitVec 32)(i:Int):uB.cB ⟨a,b,c,d,j,e,l,f,o,g,q,h,t,m,p,k,i⟩ (some [0,1,2,3,6]) (bY (Bb r w x s u y v) aQ 26) (bE 3 4) [⟨.ag a,.ro⟩,⟨.ag b,.ro⟩,⟨.ag c,.ro⟩,⟨.ag d,.ro⟩,⟨.ag (wX s u v (r a b c d j e l f o g q h t m (p.setWidth 32) k i) t (8#32*p.setWidth 32) p k i),.own⟩] (uB.val ⟨a,b,c,d,j,e,l,f,o,g,q,h,t,m,p,k,i⟩) (D4 s u (r a b c d j e l f o g q h t m (p.setWidth 32) k i) t m (8#32*p.setWidth 32) p k i true (decide (j+e≤a.n∧e≤1000000∧l+f≤b.n∧f≤1000000∧o+g≤c.n∧g≤1000000∧q+h≤d.n∧h≤1000000))):=by show _=_;kernel_rfl
def alE(o:yV)(h:yW)(q:U 8→BitVec 32→BitVec 32→U 8)(i:wU)(j:wV)(r:U 64→Nat→BitVec 32→BitVec 32→BitVec 32→U 64)(l:wW)(a b:U 8)(f c g d:Nat)(t m:BitVec 32)(p:BitVec 8)(k:BitVec 32)(e:Int):uC.cB ⟨a,b,f,c,g,d,t,m,p,k,e⟩ (some [0,1,4]) (bY (Bb o h q i j r l) aQ 26) (bE 3 4) [⟨.ag a,.ro⟩,⟨.ag b,.ro⟩,⟨.ag (wX i j l (h a b f c g d t m (p.setWidth 32) k e) t (8#32*p.setWidth 32) p k e),.own⟩] (uC.val ⟨a,b,f,c,g,d,t,m,p,k,e⟩) (D4 i j (h a b f c g d t m (p.setWidth 32) k e) t m (8#32*p.setWidth 32) p k e true (decide (f+c≤a.n∧c≤1000000∧g+d≤b.n∧d≤1000000))):=by show _=_;kernel_rfl
def alF(r:yV)(w:yW)(x:U 8→BitVec 32→BitVec 32→U 8)(s:wU)(u:wV)(y:U 64→Nat→BitVec 32→BitVec 32→BitVec 32→U 64)(v:wW)(a b c d:U 8)(j e l f o g q h:Nat)(t m:BitVec 32)(p:BitVec 8)(k:BitVec 32)(i:Int):uB.cB ⟨a,b,c,d,j,e,l,f,o,g,q,h,t,m,p,k,i⟩ (some [0,1,2,3,6]) (bY (Bb r w x s u y v) aQ 26) (bE 3 0) [⟨.ag a,.ro⟩,⟨.ag b,.ro⟩,⟨.ag c,.ro⟩,⟨.ag d,.ro⟩,⟨.ag (wX s u v (r a b c d j e l f o g q h t m (p.setWidth 32) k i) t (kF m p) p k i),.own⟩] (uB.val ⟨a,b,c,d,j,e,l,f,o,g,q,h,t,m,p,k,i⟩) (D4 s u (r a b c d j e l f o g q h t m (p.setWidth 32) k i) t m (kF m p) p k i false (decide (j+e≤a.n∧e≤1000000∧l+f≤b.n∧f≤1000000∧o+g≤c.n∧g≤1000000∧q+h≤d.n∧h≤1000000))):=by show _=_;kernel_rfl
def alG(o:yV)(h:yW)(q:U 8→BitVec 32→BitVec 32→U 8)(i:wU)(j:wV)(r:U 64→Nat→BitVec 32→BitVec 32→BitVec 32→U 64)(l:wW)(a b:U 8)(f c g d:Nat)(t m:BitVec 32)(p:BitVec 8)(k:BitVec 32)(e:Int):uC.cB ⟨a,b,f,c,g,d,t,m,p,k,e⟩ (some [0,1,4]) (bY (Bb o h q i j r l) aQ 26) (bE 3 0) [⟨.ag a,.ro⟩,⟨.ag b,.ro⟩,⟨.ag (wX i j l (h a b f c g d t m (p.setWidth 32) k e) t (kF m p) p k e),.own⟩] (uC.val ⟨a,b,f,c,g,d,t,m,p,k,e⟩) (D4 i j (h a b f c g d t m (p.setWidth 32) k e) t m (kF m p) p k e false (decide (f+c≤a.n∧c≤1000000∧g+d≤b.n∧d≤1000000))):=by show _=_;kernel_rfl
end
section
open Go.aA
variable [aR][aF][bq]
def D5(r:Nat→U 64)(c:Nat):Nat→Nat→BitVec 64|0,_=>0#64|t+1,w=>D5 r c t w^^^aK (r t) (c+w)
theorem U1(e:Nat)(a b c f:U 8)(g i co len:Int)(j:Nat→Nat)(r:Nat→U 64)(Z:U 64)(l:Z.n=128):∀k,k≤128→∃d,iter (qj e) k ⟨a,b,c,f,g,i,co,len,j,r,Z,0⟩=⟨a,b,c,f,g,i,co,len,j,r,d,(k:Int)⟩∧d.n=128∧∀n,aK d n=if n<k then aK Z n^^^aK (r e) (dK (co-1)+n)else aK Z n
 |0,_=>⟨Z,rfl,l,fun n=>by rw[ak (by omega)]⟩|k+1,u=>by
  obtain⟨d,s,h,m⟩:=U1 e a b c f g i co len j r Z l k (by omega);refine⟨AQ (r e) (co-1) d k,by rw[gB,s];rfl,h,fun n=>?_⟩;have t:aK (AQ (r e) (co-1) d k) n=if n=0+k*1 then aK d (0+k*1)^^^aK (r e) (dK (co-1)+k*1)else aK d n:=nS _ n (by show 0+k*1<_;omega)
  rw[t];by_cases c:n=0+k*1
  ·rw[av c,m,ak (by omega),av (by omega),c,cM]
  ·rw[ak c,m n];by_cases o:n<k
   ·rw[av o,av (by omega)]
   ·rw[ak o,ak (by omega)]
theorem Nr{p q:Nat}{a b c e:U 8}{aM ps:Int}{nn:Nat→Nat}{r0:Nat→U 64}(R:2≤q):∀(n:Nat) (len:Int) (r:Nat→U 64) (Z:U 64) (l:Nat),l+n≤p→Z.n=128→(∀i,i<p→r i=r0 i)→(∀w,w<128→aK Z w=D5 r0 ((4*q-1)*128) l w)→
 (ql p a b c e aM ps ((4*q:Nat):Int) nn n len r Z l).Z.n=128∧∀w,w<128→aK (ql p a b c e aM ps ((4*q:Nat):Int) nn n len r Z l).Z w=D5 r0 ((4*q-1)*128) (l+n) w
 |0,len,r,Z,l,k,d,Q,f=>⟨d,f⟩|n+1,len,r,Z,l,k,d,Q,f=>by
  obtain⟨g,m,h,o⟩:=U1 l a b c e aM ps ((4*q:Nat):Int) len (c7 p nn) (fy p r) Z d 128 (aX _);have s:ql p a b c e aM ps ((4*q:Nat):Int) nn (n+1) len r Z l=ql p a b c e aM ps ((4*q:Nat):Int) nn n len (fy p r) g (l+1):=by
   have t:iter (qj l) (128-(0:Int)).toNat ⟨a,b,c,e,aM,ps,((4*q:Nat):Int),len,c7 p nn,fy p r,Z,0⟩=⟨a,b,c,e,aM,ps,((4*q:Nat):Int),len,c7 p nn,fy p r,g,((128:Nat):Int)⟩:=m;simp only[ql,t]
  rw[s,show l+(n+1)=l+1+n by omega];refine Nr R n len (fy p r) g (l+1) (by omega) h (fun i hi=>by rw[mZ _ hi];exact Q i hi) fun w j=>?_;rw[o w,av j,mZ _ (by omega),Q l (by omega),f w j];have:dK (((4*q:Nat):Int)-1)=(4*q-1)*128:=by rw[GO,show(((4*q:Nat):Int)-1).toNat=4*q-1 by omega]
  rw[this];rfl
theorem U2(a:U 64){i:Nat}(h:i<128):pick a (i:Int)=aK a i:=by
 unfold pick;rw[eC];exact C9 (fun j=>aK a j) h
theorem U3(X b:U 64)(M:Nat)(mem p kl f g:BitVec 32)(l:aT (mem-1#32)+128≤X.n):∀k,k≤128→∃d,iter sG k ⟨X,b,M,mem,p,kl,f,g,0⟩=⟨d,b,M,mem,p,kl,f,g,(k:Int)⟩∧d.n=X.n∧
 ∀e,aK d e=if aT (mem-1#32)≤e∧e<aT (mem-1#32)+k then aK X e^^^aK b (e-aT (mem-1#32))else aK X e
 |0,_=>⟨X,rfl,rfl,fun e=>by rw[ak (by omega)]⟩|k+1,s=>by
  obtain⟨d,m,h,i⟩:=U3 X b M mem p kl f g l k (by omega);refine⟨Dg d b (aT (mem-1#32)) k,by rw[gB,m];rfl,h,fun n=>?_⟩;generalize aT (mem-1#32)=a at *;have o:aK (Dg d b a k) n=if n=a+k*1 then aK d (a+k*1)^^^pick b k else aK d n:=nS _ n (by show a+k*1<_;omega)
  rw[o,U2 b (by omega)];by_cases c:n=a+k*1
  ·rw[av c,av (by omega),i,ak (by omega),c,show a+k*1-a=k by omega]
  ·rw[ak c,i n];by_cases j:a≤n∧n<a+k
   ·rw[av j,av (by omega)]
   ·rw[ak j,ak (by omega)]
section
variable{P q:Nat}{X:U 64}{r:Nat→U 64}{mem p:BitVec 32}
variable(T:1≤P)(V:P≤8)(W:2≤q)(R:q≤64)(em:mem.toNat=4*P*q)(S:p.toNat=P)(Q:m7 P q X r)
include T V W R em S Q
theorem U4:aT (mem-1#32)=(P-1)*(4*q*128)+(4*q-1)*128∧aT (mem-1#32)+128=X.n:=by
 have f:P*(4*q)≤8*256:=xd V (by omega);have a:mem.toNat=P*(4*q):=by rw[em,gU 4 P,iX]
 have h1:(mem-1#32).toNat=P*(4*q)-1:=by
  have b:(1#32).toNat=1:=rfl;have:1*(4*q)≤P*(4*q):=fQ _ T;rw[kH,b,a];omega
 obtain⟨t,rfl⟩:∃t,P=t+1:=⟨P-1,by omega⟩;have c:=Q.n;have d:(t+1)*(4*q*128)=(t+1)*(4*q)*128:=(iX ..).symm;have e:t*(4*q*128)=t*(4*q)*128:=(iX ..).symm;rw[qc,h1,c,d,aos,e,jR];generalize t*(4*q)=z;omega
theorem U5(M:Nat)(kl:BitVec 32):∀t,t≤P-1→∃b,iter kZ t ⟨X,M,mem,p,kl,mem/p,0#32⟩=⟨b,M,mem,p,kl,mem/p,BitVec.ofNat 32 t⟩∧b.n=X.n∧
 ∀a,aK b a=if aT (mem-1#32)≤a then aK X a^^^(if a<aT (mem-1#32)+128 then D5 r ((4*q-1)*128) t (a-aT (mem-1#32))else 0#64)else aK X a
 |0,_=>⟨X,rfl,rfl,fun a=>by
  split
  ·split
   ·exact(BitVec.xor_zero).symm
   ·exact(BitVec.xor_zero).symm
  ·rfl⟩
 |t+1,j=>by
  obtain⟨b,k,h,e⟩:=U5 M kl t (by omega);obtain⟨E,F⟩:=U4 T V W R em S Q;obtain⟨g,l,m,o⟩:=U3 b (rowAt b (aT (Dh (mem/p) (BitVec.ofNat 32 t)))) M mem p kl (mem/p) (BitVec.ofNat 32 t) (by omega) 128 (aX _);have s:kZ ⟨b,M,mem,p,kl,mem/p,BitVec.ofNat 32 t⟩=⟨g,M,mem,p,kl,mem/p,BitVec.ofNat 32 t+1#32⟩:=by
   show q2.mk (Di b M mem p kl (mem/p) (BitVec.ofNat 32 t)).X M mem p kl (mem/p) (BitVec.ofNat 32 t+1#32)=_;unfold Di;rw[show(128-(0:Int)).toNat=128 from rfl,l]
  refine⟨g,by rw[gB,k,s,show BitVec.ofNat 32 t+1#32=BitVec.ofNat 32 (t+1)from(BitVec.ofNat_add _ _).symm],m.trans h,fun a=>?_⟩;have i:(mem/p).toNat=4*q:=by
   rw[rI,em,S,gU 4 P,iX];exact uM _ (by omega)
  have u:(BitVec.ofNat 32 t).toNat=t:=by rw[gZ];omega
  have v:t*(4*q)≤8*256:=xd (by omega) (by omega);have x:aT (Dh (mem/p) (BitVec.ofNat 32 t))=t*(4*q*128)+(4*q-1)*128:=by
   have y:(1#32).toNat=1:=rfl;have A:(BitVec.ofNat 32 t*(mem/p)).toNat=t*(4*q):=by rw[iG,u,i];exact dM (by omega)
   unfold Dh;rw[qc,kH,eD,A,i,y,←iX t (4*q) 128];generalize t*(4*q)=z at v⊢;omega
  have B:(t+1)*(4*q*128)≤(P-1)*(4*q*128):=fQ _ j;rw[jR]at B;rw[o a];have C:∀w,w<128→aK (rowAt b (aT (Dh (mem/p) (BitVec.ofNat 32 t)))) w=aK (r t) ((4*q-1)*128+w):=fun w D=>by
   rw[q3 _ _ D,e,x,ak (by omega),iF];exact Q.ri t _ (by omega) (by omega)
  generalize aT (mem-1#32)=f at *;by_cases c:f≤a∧a<f+128
  ·rw[av c,av c.1,av c.2,e a,av c.1,av c.2,C _ (by omega),BitVec.xor_assoc];rfl
  ·rw[ak c,e a];by_cases d:f≤a
   ·rw[av d,av d,ak (fun h=>c ⟨d,h⟩),ak (fun h=>c ⟨d,h⟩)]
   ·rw[ak d,ak d]
theorem alH(M:Nat)(kl:BitVec 32):∃a b,dA X M mem p kl=⟨a,M,mem,p,kl,mem/p,b⟩∧∀w,w<128→aK (rowAt a (aT (mem-1#32))) w=D5 r ((4*q-1)*128) P w:=by
 obtain⟨a,c,h,d⟩:=U5 T V W R em S Q M kl (P-1) (aX _);obtain⟨e,k⟩:=U4 T V W R em S Q;have f:(p-1#32).toNat-(0#32).toNat=P-1:=by
  have g:(1#32).toNat=1:=rfl;have i:(0#32).toNat=0:=rfl;rw[kH,g,i,S];omega
 refine⟨a,_,by unfold dA;rw[f];exact c,fun w j=>?_⟩;rw[q3 _ _ j,d,av (by omega),av (by omega),uI,e,iF,Q.ri (P-1) _ (by omega) (by omega)];obtain⟨t,rfl⟩:∃t,P=t+1:=⟨P-1,by omega⟩;rw[aos,Ie];rfl
end
def cE(a:U 8)(i:Nat):BitVec 8:=a.l.getD i 0#8
def Ns{X a:U 8}(h:X.n=a.n)(c:∀n,n<X.n→cE X n=cE a n):X=a:=by
 obtain⟨n,l,d⟩:=X;obtain⟨m,r,e⟩:=a;simp only at h;subst h;have:l=r:=by
  refine Ic (d.trans e.symm) fun i h1 h2=>?_;have:=c i (by show i<n;omega);have b:l.getD i 0#8=r.getD i 0#8:=this;rw[dZ,dZ,bW h1,bW h2]at b;exact b
 subst this;rfl
def qq{X:U 8}{i:Nat}(v:BitVec 8)(n:Nat)(hi:i<X.n):cE (X.set i v) n=if n=i then v else cE X n:=by
 have a:=X.h
 show((X.l.set i v).getD n 0#8)=_;unfold cE;simp only[dZ,Bn];by_cases c:n=i
 ·subst c;rw[av rfl,av rfl,av (by omega)];rfl
 ·rw[ak (fun h=>c h.symm),ak c]
def alI{b:U 8}{t:Nat}(a:BitVec 64)(h:8*t+8≤b.n)(n:Nat):(yu b (t:Int) a).n=b.n∧cE (yu b (t:Int) a) n=if 8*t≤n∧n<8*t+8 then oh a (n-8*t)else cE b n:=by
 refine⟨rfl,?_⟩;unfold yu;rw[show 0+((t:Int)*8).toNat*1=8*t by omega];generalize 8*t=z at h⊢;rw[qq _ _ (by show _<b.n;omega),qq _ _ (by show _<b.n;omega),qq _ _ (by show _<b.n;omega),qq _ _ (by show _<b.n;omega),qq _ _ (by show _<b.n;omega),qq _ _ (by show _<b.n;omega),qq _ _ (by show _<b.n;omega),qq _ _ (by show _<b.n;omega)];unfold oh;by_cases c:n=z+7
 ·rw[av c,av (by omega),show n-z=7 by omega]
 rw[ak c];by_cases d:n=z+6
 ·rw[av d,av (by omega),show n-z=6 by omega]
 rw[ak d];by_cases e:n=z+5
 ·rw[av e,av (by omega),show n-z=5 by omega]
 rw[ak e];by_cases f:n=z+4
 ·rw[av f,av (by omega),show n-z=4 by omega]
 rw[ak f];by_cases g:n=z+3
 ·rw[av g,av (by omega),show n-z=3 by omega]
 rw[ak g];by_cases i:n=z+2
 ·rw[av i,av (by omega),show n-z=2 by omega]
 rw[ak i];by_cases j:n=z+1
 ·rw[av j,av (by omega),show n-z=1 by omega]
 rw[ak j];by_cases k:n=z+0
 ·rw[av k,av (by omega),show n-z=0 by omega,Bw,BitVec.ushiftRight_zero]
 ·rw[ak k,ak (by omega)]
def yX(a:U 64)(i:Nat):BitVec 8:=oh (aK a (i/8)) (i%8)
def Nt(X a:U 64)(M:Nat)(mem p kl d e:BitVec 32):∀t,t≤128→∃b,iter n4 t ⟨X,yo,a,M,mem,p,kl,d,e,0⟩=⟨X,b,a,M,mem,p,kl,d,e,(t:Int)⟩∧b.n=1024∧∀i,i<8*t→cE b i=yX a i
 |0,_=>⟨yo,rfl,nh,fun i h=>absurd h (by omega)⟩|t+1,k=>by
  obtain⟨b,g,h,j⟩:=Nt X a M mem p kl d e t (by omega);have f:=fun n=>alI (b:=b) (t:=t) (pick a t) (by omega) n;refine⟨yu b t (pick a t),by rw[gB,g];rfl,(f 0).1.trans h,fun i hi=>?_⟩;rw[(f i).2,U2 a (by omega)];by_cases c:8*t≤i∧i<8*t+8
  ·rw[av c];unfold yX;rw[show i/8=t by omega,show i-8*t=i%8 by omega]
  ·rw[ak c];exact j i (by omega)
def alJ(B:U 8)(a:BitVec 8)(n:Nat):cE (B.app (U.of [a])) n=if n<B.n then cE B n else if n=B.n then a else 0#8:=by
 have d:=B.h
 show(B.l++[a]).getD n 0#8=_;unfold cE;rw[dZ,dZ];by_cases c:n<B.n
 ·rw[av c,iE (by omega)]
 ·rw[ak c,ie (by omega),d];by_cases b:n=B.n
  ·rw[av b,b,WG];rfl
  ·rw[ak b];obtain⟨k,e⟩:∃k,n-B.n=k+1:=⟨n-B.n-1,by omega⟩;rw[e];rfl
def alK(B:U 8)(a:BitVec 8):(B.app (U.of [a])).n=B.n+1:=rfl
def U6(B:U 8)(w:BitVec 64)(n:Nat)(h:n<B.n+8):cE (appW B w) n=if n<B.n then cE B n else oh w (n-B.n):=by
 unfold appW;simp only[alJ,alK];by_cases c:n<B.n
 ·simp only[av c,av (show n<B.n+1 by omega),av (show n<B.n+1+1 by omega),av (show n<B.n+1+1+1 by omega),av (show n<B.n+1+1+1+1 by omega),av (show n<B.n+1+1+1+1+1 by omega),av (show n<B.n+1+1+1+1+1+1 by omega),av (show n<B.n+1+1+1+1+1+1+1 by omega)]
 ·rw[ak c];obtain⟨k,rfl⟩:∃k,n=B.n+k:=⟨n-B.n,by omega⟩;have a:k=0∨k=1∨k=2∨k=3∨k=4∨k=5∨k=6∨k=7:=by omega
  rw[uI];rcases a with rfl|rfl|rfl|rfl|rfl|rfl|rfl|rfl<;>simp[iF]<;>(intro b;omega)
def U7(a b c d:U 8)(len:Int)(S:U 64)(e:S.n=128):∀t,t≤127→∃B,iter qm t ⟨a,b,c,d,len,S,appW (U.of []) (S.l.getD 0 0#64),8,1⟩=⟨a,b,c,d,len,S,B,8+8*t,((1+t:Nat):Int)⟩∧B.n=8+8*t∧∀i,i<8+8*t→cE B i=yX S i
 |0,_=>⟨_,rfl,rfl,fun i hi=>by
  rw[U6 _ _ _ hi,ak (by show¬i<0;omega)];unfold yX
  show oh (aK S 0) (i-0)=_;rw[show i/8=0 by omega,show i-0=i%8 by omega]⟩
 |t+1,k=>by
  obtain⟨B,f,h,g⟩:=U7 a b c d len S e t (by omega);refine⟨appW B ((dg S).l.getD ((1+t:Nat):Int).toNat 0#64),by rw[gB,f];rfl,by rw[Hr,h];omega,fun i hi=>?_⟩;rw[eC];have j:(dg S).l.getD (1+t) 0#64=aK S (1+t):=AE S (by omega);rw[U6 _ _ _ (by omega),j,h];by_cases c:i<8+8*t
  ·rw[av c];exact g i c
  ·rw[ak c];unfold yX;rw[show i/8=1+t by omega,show i-(8+8*t)=i%8 by omega]
def U8(a b c d:U 8)(len:Int)(S:U 64)(e:S.n=128):(lK a b c d len S).len=len∧(lK a b c d len S).k=1024∧(lK a b c d len S).B.n=1024∧∀i,i<1024→cE (lK a b c d len S).B i=yX S i:=by
 obtain⟨B,f,h,g⟩:=U7 a b c d len S e 127 (aX _);have j:lK a b c d len S=⟨a,b,c,d,len,S,B,8+8*127,((1+127:Nat):Int)⟩:=by
  unfold lK;rw[o7 e];exact f
 rw[j];exact⟨rfl,rfl,h,g⟩
def Nu(w:Nat):aK jh w=0#64:=by
 show(List.replicate 128 0#64).getD w 0#64=_;rw[dZ,mz];split<;>rfl
def alL{P q:Nat}{X:U 64}{r:Nat→U 64}{mem p kl:BitVec 32}{d:Nat}(t:1≤P)(u:P≤8)(s:2≤q)(v:q≤64)(em:mem.toNat=4*P*q)(x:p.toNat=P)(y:kl.toNat=d)(z:1≤d)(Q:d≤1024)(A:m7 P q X r)
 (M:Nat) (a b c e:U 8) (aM ps len k:Int) (nn:Nat→Nat):
 ∀i,i<d→cE (jK X M mem p kl) i=cE (fz (lK a b c e k (ql P a b c e aM ps ((4*q:Nat):Int) nn P len r jh 0).Z).B 0 1024 (d:Int)) i:=by
 intro i hi;obtain⟨f,l,C,D⟩:=alH t u s v em x A M kl;obtain⟨g,E,F,H⟩:=Nt f (rowAt f (aT (mem-1#32))) M mem p kl (mem/p) l 128 (aX _);obtain⟨m,o⟩:=Nr (p:=P) (a:=a) (b:=b) (c:=c) (e:=e) (aM:=aM) (ps:=ps) (nn:=nn) (r0:=r) s P len r jh 0 (by omega) DV (fun _ _=>rfl) (fun w _=>Nu w);rw[cM]at o;generalize(ql P a b c e aM ps ((4*q:Nat):Int) nn P len r jh 0).Z=Z at m o⊢;obtain⟨R,S,I,J⟩:=U8 a b c e k Z m;have K:rowAt f (aT (mem-1#32))=Z:=vX ((wB _ _).trans m.symm) fun w j=>by
  have j:w<128:=by rw[wB]at j;exact j
  rw[D w j,o w j]
 have L:g=(lK a b c e k Z).B:=Ns (F.trans I.symm) fun n T=>by
  rw[H n (by omega),J n (by omega),K]
 have N:jK X M mem p kl=ga (U.zero 8 d) g 0 d d 0 1024:=by
  unfold jK;rw[C];have O:gS ⟨f,M,mem,p,kl,mem/p,l⟩=⟨f,g,rowAt f (aT (mem-1#32)),M,mem,p,kl,mem/p,l,((128:Nat):Int)⟩:=E;rw[O]
  show ga (U.zero 8 kl.toNat) g 0 kl.toNat kl.toNat 0 1024=_;rw[y]
 have h:=Uh (U.zero 8 d) g 0 d d 0 1024 z (by omega) (aX _) (by show 0+d≤d;omega) (by omega) (by omega) i hi;rw[cM]at h;rw[N,←L];exact h
def U9(d v:U 8)(e n:Nat):(jr d v e n).n=d.n+4+n:=rfl
def Hz(d v:U 8)(e n i:Nat)(h:i<d.n):(jr d v e n).l.getD i 0#8=d.l.getD i 0#8:=by
 have R:(d.app (wq n)).n=d.n+4:=rfl;unfold jr;rw[ur,R,av (by omega),ur,av h]
def alM(d v:U 8)(e n i:Nat)(h:i<4):(jr d v e n).l.getD (d.n+i) 0#8=(wq n).l.getD i 0#8:=by
 have R:(d.app (wq n)).n=d.n+4:=rfl;unfold jr;rw[ur,R,av (by omega),ur,ak (by omega),uI]
def alN(d v:U 8)(e n i:Nat)(f:e+n≤v.n)(h:i<n):(jr d v e n).l.getD (d.n+4+i) 0#8=v.l.getD (e+i) 0#8:=by
 have R:(d.app (wq n)).n=d.n+4:=rfl;unfold jr;rw[ur,R,ak (by omega),uI,pG _ _ _ _ f h]
def alO(n:Nat):(wq n).n=4:=rfl
def iB.p9{g:bp}{P:Nat→BitVec 8}{d:kB}{f:U 8}(o:iB g P d f.n)(v:U 8)(e n:Nat)(h:e+n≤v.n)(j:∀i,i<(jr f v e n).n→P i=(jr f v e n).l.getD i 0#8):iB g P (p9 d v e n) (jr f v e n).n:=by
 have a:=iB.step o (wq n) 0 4 (by rw[alO];omega) fun i hi=>by
  rw[j _ (by rw[U9];omega),alM _ _ _ _ _ hi,cM]
 exact iB.step a v e n h fun i hi=>by
  rw[j _ (by rw[U9];omega),alN _ _ _ _ _ h hi]
section
variable(a b c R:U 8)(W Q Y S Z T A V:Nat)(t m:BitVec 32)(p k X:Int)
def Nv:U 8:=Sz t m (BitVec.ofInt 32 p) (BitVec.ofInt 32 k) (BitVec.ofInt 32 X)
def alP:wO a b c R W Q Y S Z T A V t m p k X=jr (jr (jr (jr (Nv t m p k X) a W Q) b Y S) c Z T) R A V:=by
 have:(Ui t m p k X Q).app (a.sub W Q)=jr (Nv t m p k X) a W Q:=rfl;unfold wO;rw[this]
def alQ(D:W+Q≤a.n)(K:Q≤1000000)(E:Y+S≤b.n)(L:S≤1000000)(F:Z+T≤c.n)(M:T≤1000000)(H:A+V≤R.n)(N:V≤1000000):
 gE (Dc a b c R W Q Y S Z T A V t m (BitVec.ofInt 32 p) (BitVec.ofInt 32 k) X)=pF (wO a b c R W Q Y S Z T A V t m p k X) 0 (wP Q S T V) 64:=by
 rw[alP];generalize u:Nv t m p k X=e;have n0:e.n=24:=by rw[←u];rfl
 generalize j:jr e a W Q=f;generalize o:jr f b Y S=g;generalize q:jr g c Z T=h;generalize r:jr h R A V=d;have dI:f.n=e.n+4+Q:=by rw[←j];rfl
 have O:g.n=f.n+4+S:=by rw[←o];rfl
 have P:h.n=g.n+4+T:=by rw[←q];rfl
 have aa:d.n=h.n+4+V:=by rw[←r];rfl
 have v:∀i,i<h.n→d.l.getD i 0#8=h.l.getD i 0#8:=fun i hi=>by rw[←r];exact Hz _ _ _ _ _ hi
 have w:∀i,i<g.n→d.l.getD i 0#8=g.l.getD i 0#8:=fun i hi=>by rw[v i (by omega),←q];exact Hz _ _ _ _ _ hi
 have x:∀i,i<f.n→d.l.getD i 0#8=f.l.getD i 0#8:=fun i hi=>by rw[w i (by omega),←o];exact Hz _ _ _ _ _ hi
 have I:∀i,i<e.n→d.l.getD i 0#8=e.l.getD i 0#8:=fun i hi=>by rw[x i (by omega),←j];exact Hz _ _ _ _ _ hi
 have s:=iB.step (iB.new 64 (fun i=>d.l.getD i 0#8) qU) e 0 24 (by omega) (fun i hi=>by rw[cM];exact(I i (by omega)).symm);have s:iB (b7 64) (fun i=>d.l.getD i 0#8) (K4 t m (BitVec.ofInt 32 p) (BitVec.ofInt 32 k) X) e.n:=by rw[n0,←u]at *;exact s
 have y:=iB.p9 s a W Q D (fun i hi=>by rw[j]at hi⊢;exact x i hi);rw[j]at y;have z:=iB.p9 y b Y S E (fun i hi=>by rw[o]at hi⊢;exact w i hi);rw[o]at z;have B:=iB.p9 z c Z T F (fun i hi=>by rw[q]at hi⊢;exact v i hi);rw[q]at B;have C:=iB.p9 B R A V H (fun i hi=>by rw[r]);rw[r]at C;have J:wP Q S T V=d.n:=by unfold wP;omega
 unfold Dc;rw[MI C (by omega),MJ _ _ _ _ (by omega) (by omega) (by omega),J];exact G4 _ _ fun i _=>by rw[cM]
def alR(e:W+Q≤a.n)(f:Q≤1000000)(g:Y+S≤b.n)(h:S≤1000000)(j:Z+T≤c.n)(l:T≤1000000)(o:A+V≤R.n)(q:V≤1000000):∀i,i<64→
 cE (AK (Dc a b c R W Q Y S Z T A V t m (BitVec.ofInt 32 p) (BitVec.ofInt 32 k) X)) i=cE (lI a b c R W Q Y S Z T A V t m p k X) i:=by
 intro i hi;have r:=alQ a b c R W Q Y S Z T A V t m p k X e f g h j l o q;have d:SA.n=72:=rfl;unfold AK lI cE;rw[r,yP _ _ _ _ _ (by omega) (by omega) (by rw[d];decide) (by rw[d];omega)];have s:(64:Int).toNat=64:=rfl;rw[s,cM,av ⟨kI _,hi⟩,gz,DK _ _ _ _ (by omega) (by omega) i (by omega)]
end
end
section
open Go.aA
variable [aR][aF][bq]
variable{Q:U 8}{t:Nat}{h:U 8}{P:Nat}
def Va(a B:U 8)(n:Nat):cE (a.app B) n=if n<a.n then cE a n else cE B (n-a.n):=by
 have b:=a.h
 show(a.l++B.l).getD n 0#8=_;unfold cE;rw[dZ,dZ,dZ];by_cases c:n<a.n
 ·rw[av c,iE (by omega)]
 ·rw[ak c,ie (by omega),b]
def Nw(a:BitVec 32)(b:P+4≤h.n)(n:Nat):cE (AN h P a) n=if n=P+3 then(a>>>24).setWidth 8 else if n=P+2 then(a>>>16).setWidth 8 else if n=P+1 then(a>>>8).setWidth 8 else if n=P+0 then a.setWidth 8 else cE h n:=by
 unfold AN;rw[qq _ _ (by show _<h.n;omega),qq _ _ (by show _<h.n;omega),qq _ _ (by show _<h.n;omega),qq _ _ (by show _<h.n;omega)]
def Nx(Q:U 8)(c l:Nat):(kE Q c l).n=72:=rfl
def HA(e:Q.n=64)(c l n:Nat):cE (kE Q c l) n=if n<64 then cE Q n else if n<68 then cE (U.of (uu c)) (n-64)else cE (U.of (uu l)) (n-68):=by
 have b:((Q.sub 0 64).app (U.of (uu c))).n=68:=rfl;have d:(Q.sub 0 64).n=64:=rfl;unfold kE;rw[Va,b,Va,d];by_cases a:n<64
 ·rw[av (by omega),av a,av a];unfold cE;rw[pG _ _ _ _ (by omega) a,cM]
 ·rw[ak a,ak a]
def alS(h:t<8):(BitVec.ofNat 32 t).setWidth 8=BitVec.ofNat 8 t∧((BitVec.ofNat 32 t)>>>8).setWidth 8=0#8∧((BitVec.ofNat 32 t)>>>16).setWidth 8=0#8∧((BitVec.ofNat 32 t)>>>24).setWidth 8=0#8:=by
 have a:t=0∨t=1∨t=2∨t=3∨t=4∨t=5∨t=6∨t=7:=by omega
 rcases a with rfl|rfl|rfl|rfl|rfl|rfl|rfl|rfl<;>decide
def D6(h:U 8)(P:Nat)(a:BitVec 32):(AN h P a).n=h.n:=rfl
def Ny(c:Nat):cE (U.of (uu c)) 0=BitVec.ofNat 8 c∧cE (U.of (uu c)) 1=0#8∧cE (U.of (uu c)) 2=0#8∧cE (U.of (uu c)) 3=0#8:=⟨rfl,rfl,rfl,rfl⟩
def alT(d:t<8)(e:Q.n=64)(b:h.n=72)(f:∀i,i<64→cE h i=cE Q i):cC h (BitVec.ofNat 32 t)=kE Q 0 t:=by
 refine Ns (by unfold cC;rw[D6,D6,b];rfl) fun n a=>?_;have a:n<72:=by unfold cC at a;rw[D6,D6,b]at a;exact a
 obtain⟨g,j,cm,k⟩:=alS d;obtain⟨l,m,o,p⟩:=Ny 0;obtain⟨q,r,d2,s⟩:=Ny t;unfold cC;rw[Nw _ (by rw[D6];omega),Nw _ (by omega),HA e,g,j,cm,k];by_cases c:n<64
 ·rw[av c,ak (by omega),ak (by omega),ak (by omega),ak (by omega),ak (by omega),ak (by omega),ak (by omega),ak (by omega)];exact f n c
 ·have u:n=64∨n=65∨n=66∨n=67∨n=68∨n=69∨n=70∨n=71:=by omega
  rcases u with rfl|rfl|rfl|rfl|rfl|rfl|rfl|rfl<;>first|exact l.symm|exact m.symm|exact o.symm|exact p.symm|exact q.symm|exact r.symm|exact d2.symm|exact s.symm
def alU(a:Q.n=64):cQ (kE Q 0 t)=kE Q 1 t:=by
 refine Ns rfl fun n b=>?_;have b:n<72:=b;obtain⟨e,f,g,i⟩:=Ny 1;unfold cQ;rw[Nw _ (by rw[Nx];omega),HA a,HA a];by_cases c:n<64
 ·rw[av c,av c,ak (by omega),ak (by omega),ak (by omega),ak (by omega)]
 ·by_cases d:n<68
  ·have j:n=64∨n=65∨n=66∨n=67:=by omega
   rcases j with rfl|rfl|rfl|rfl<;>first|exact e.symm|exact f.symm|exact g.symm|exact i.symm
  ·rw[ak (by omega),ak (by omega),ak (by omega),ak (by omega),ak c,ak d,ak c,ak d]
def Vb(v:U 8)(P a:Nat):∀k,k≤1024→∃X:U 64,iter sY k ⟨v,jh,P,a,(a:Int),0⟩=⟨v,X,P,a,(a:Int),(k:Int)⟩∧X.n=128∧∀j,j<128→aK X j=sV (fun i=>v.l.getD (P+i) 0#8) j (min 8 (k-8*j))
 |0,_=>by
  refine⟨_,rfl,DV,fun j b=>?_⟩;rw[Nat.zero_sub,WF];exact Nu j
 |k+1,r=>by
  obtain⟨X,e,f,c⟩:=Vb v P a k (by omega);refine⟨mK X (0+((k:Int).tdiv 8).toNat*1) (v.l.getD (P+(k:Int).toNat*1) 0#8) (8*((k:Int).tmod 8)),?_,f,fun j b=>?_⟩
  ·rw[gB,e];rfl
  ·have g:(k:Int).tdiv 8=(k:Int)/8:=pK (by omega);have m:(k:Int).tmod 8=(k:Int)%8:=oz (by omega);have o:0+((k:Int).tdiv 8).toNat*1=k/8:=by rw[g];omega
   have p:P+(k:Int).toNat*1=P+k:=by omega
   have q:(8*((k:Int).tmod 8)).toNat=8*(k%8):=by rw[m];omega
   unfold mK;rw[o,nS _ _ (by omega),p,q];split
   ·rename_i h;subst h;have d:=c (k/8) (by omega);unfold aK at d;rw[d,show min 8 (k+1-8*(k/8))=(k%8)+1 by omega,show min 8 (k-8*(k/8))=k%8 by omega]
    show _=sV _ _ (k%8)|||_;rw[show 8*(k/8)+k%8=k by omega]
   ·rename_i h;rw[c j b,show min 8 (k+1-8*j)=min 8 (k-8*j) by omega]
def alV(v:U 8):(iU v 0 1024).n=128∧∀j,j<128→aK (iU v 0 1024) j=gr v (8*j):=by
 obtain⟨X,a,b,c⟩:=Vb v 0 1024 1024 (aX _);have ex:iU v 0 1024=X:=by
  unfold iU DN;rw[show(((1024:Nat):Int)-0).toNat=1024 from rfl,a]
 rw[ex];refine⟨b,fun j d=>?_⟩;rw[c j d,show min 8 (1024-8*j)=8 by omega,MD];unfold rq gr;simp only[cM,gd]
def alW{u v:U 8}(h:∀i,i<8→cE u (P+i)=cE v (P+i)):gr u P=gr v P:=by
 unfold gr;have:=fun i hi=>h i hi;unfold cE at this;rw[this 0 (by omega),this 1 (by omega),this 2 (by omega),this 3 (by omega),this 4 (by omega),this 5 (by omega),this 6 (by omega),this 7 (by omega)]
end
section
open Go.aA
variable [aR][aF][bq]
theorem Vd{X:U 64}{a k:Nat}(b:U 8)(h:a+k<X.n)(n:Nat):aK (sB X b a (k:Int)) n=if n=a+k then gr b (8*k)else aK X n:=by
 unfold sB;rw[show a+(k:Int).toNat*1=a+k by omega,show 0+((k:Int)*8).toNat*1=8*k by omega];exact nS _ n h
theorem Ve(h b:U 8)(X:U 64)(M:Nat)(mem p f j:BitVec 32)(l:aT (j+0#32)+128≤X.n):∀k,k≤128→∃d,iter qW k ⟨h,b,X,M,mem,p,f,j,0⟩=⟨h,b,d,M,mem,p,f,j,(k:Int)⟩∧d.n=X.n∧
 ∀a,aK d a=if aT (j+0#32)≤a∧a<aT (j+0#32)+k then gr b (8*(a-aT (j+0#32)))else aK X a
 |0,_=>⟨X,rfl,rfl,fun a=>by rw[ak (by omega)]⟩|k+1,s=>by
  obtain⟨d,m,o,r⟩:=Ve h b X M mem p f j l k (by omega);refine⟨sB d b (aT (j+0#32)) k,by rw[gB,m];rfl,o,fun n=>?_⟩;generalize aT (j+0#32)=e at *;rw[Vd b (by omega)];by_cases c:n=e+k
  ·rw[av c,av (by omega),show n-e=k by omega]
  ·rw[ak c,r n];by_cases g:e≤n∧n<e+k
   ·rw[av g,av (by omega)]
   ·rw[ak g,ak (by omega)]
theorem Vf(h b:U 8)(X:U 64)(M:Nat)(mem p f j:BitVec 32)(l:aT (j+1#32)+128≤X.n):∀k,k≤128→∃d,iter qX k ⟨h,b,X,M,mem,p,f,j,0⟩=⟨h,b,d,M,mem,p,f,j,(k:Int)⟩∧d.n=X.n∧
 ∀a,aK d a=if aT (j+1#32)≤a∧a<aT (j+1#32)+k then gr b (8*(a-aT (j+1#32)))else aK X a
 |0,_=>⟨X,rfl,rfl,fun a=>by rw[ak (by omega)]⟩|k+1,s=>by
  obtain⟨d,m,o,r⟩:=Vf h b X M mem p f j l k (by omega);refine⟨sB d b (aT (j+1#32)) k,by rw[gB,m];rfl,o,fun n=>?_⟩;generalize aT (j+1#32)=e at *;rw[Vd b (by omega)];by_cases c:n=e+k
  ·rw[av c,av (by omega),show n-e=k by omega]
  ·rw[ak c,r n];by_cases g:e≤n∧n<e+k
   ·rw[av g,av (by omega)]
   ·rw[ak g,ak (by omega)]
theorem alX(h b:U 8)(a:BitVec 32):(wv h b a).n=b.n:=by kernel_rfl
theorem Nz{b w:U 8}(c:b.n=1024)(d:w.n=72){j:Nat}(a:j<128):gr (ga b w 0 1024 1024 0 72) (8*j)=aK (iU (fz w 0 72 1024) 0 1024) j:=by
 rw[(alV _).2 j a];refine alW fun i hi=>?_;have h:=Uh b w 0 1024 1024 0 72 (by omega) (by omega) (aX _) (by omega) (by omega) (by omega) (8*j+i) (by omega);rw[cM]at h;exact h
section
variable{P q:Nat}{mem p:BitVec 32}{R Q:U 8}
variable(Y:1≤P)(Z:P≤8)(A:2≤q)(B:q≤64)(em:mem.toNat=4*P*q)(T:p.toNat=P)(S:Q.n=64)(V:R.n=72)(W:∀i,i<64→cE R i=cE Q i)
include Y Z A B em T S V W
theorem Vg(M:Nat)(X:U 64)(r:X.n=P*(4*q*128))(s:∀y,aK X y=0#64):∀t,t≤P→∃h b a,iter mY t ⟨R,yo,X,M,mem,p,0#32⟩=⟨h,b,a,M,mem,p,BitVec.ofNat 32 t⟩∧h.n=72∧(∀i,i<64→cE h i=cE Q i)∧b.n=1024∧a.n=P*(4*q*128)∧
 ∀l j,l<P→j<4*q*128→aK a (l*(4*q*128)+j)=if l<t∧j<256 then aK (A7 fz iU Q (j/128) l) (j%128)else 0#64
 |0,_=>⟨R,yo,X,rfl,V,W,nh,r,fun l j _ _=>by rw[ak (fun h=>absurd h.1 (by omega))];exact s _⟩|t+1,C=>by
  obtain⟨h,b,a,D,E,F,e,H,I⟩:=Vg M X r s t (by omega);have u:t*(4*q)≤8*256:=xd (by omega) (by omega);have J:(t+1)*(4*q*128)≤P*(4*q*128):=fQ _ C;rw[jR]at J;have K:(1#32).toNat=1:=rfl;have L:(0#32).toNat=0:=rfl;have N:(BitVec.ofNat 32 t).toNat=t:=by rw[gZ];omega
  have O:(mem/p).toNat=4*q:=by
   rw[rI,em,T,gU 4 P,iX];exact uM _ (by omega)
  have v:(sE mem p (BitVec.ofNat 32 t)).toNat=t*(4*q):=by
   unfold sE;rw[iG,N,O];exact dM (by omega)
  have w:aT (sE mem p (BitVec.ofNat 32 t)+0#32)=t*(4*q*128):=by
   rw[qc,eD,v,L,←iX t (4*q) 128];generalize t*(4*q)=z at u⊢;omega
  have x:aT (sE mem p (BitVec.ofNat 32 t)+1#32)=t*(4*q*128)+128:=by
   rw[qc,eD,v,K,←iX t (4*q) 128];generalize t*(4*q)=z at u⊢;omega
  have d:=alT (t:=t) (by omega) S E F;have f:=alU (t:=t) S;obtain⟨nA,aa,ab,ad⟩:=Ve (cC h (BitVec.ofNat 32 t)) (wv h b (BitVec.ofNat 32 t)) a M mem p (BitVec.ofNat 32 t) (sE mem p (BitVec.ofNat 32 t)) (by rw[w];omega) 128 (aX _);obtain⟨g,ae,af,ag⟩:=Vf (cQ (cC h (BitVec.ofNat 32 t))) (sD h b (BitVec.ofNat 32 t)) nA M mem p (BitVec.ofNat 32 t) (sE mem p (BitVec.ofNat 32 t)) (by rw[x];omega) 128 (aX _);have ex:(De h b a M mem p (BitVec.ofNat 32 t)).X=g:=by
   unfold De SD;rw[show(128-(0:Int)).toNat=128 from rfl,aa];simp only;rw[ae]
  have ah:mY ⟨h,b,a,M,mem,p,BitVec.ofNat 32 t⟩=⟨cQ (cC h (BitVec.ofNat 32 t)),sD h b (BitVec.ofNat 32 t),g,M,mem,p,BitVec.ofNat 32 (t+1)⟩:=by
   have:BitVec.ofNat 32 (t+1)=BitVec.ofNat 32 t+1#32:=BitVec.ofNat_add _ _;rw[this,←ex];rfl
  refine⟨_,_,g,by rw[gB,D];exact ah,?_,?_,?_,by rw[af,ab,H],fun l j ai k=>?_⟩
  ·rw[d,f];rfl
  ·intro i hi;rw[d,f,HA S,av hi]
  ·rw[SH];exact e
  ·rw[ag,ad,w,x,I l j ai k];by_cases m:l=t
   ·subst m;by_cases aj:128≤j∧j<256
    ·have o:sD h b (BitVec.ofNat 32 l)=ga (wv h b (BitVec.ofNat 32 l)) (kE Q 1 l) 0 1024 1024 0 72:=by unfold sD;rw[d,f]
     rw[av (by omega),av ⟨by omega,aj.2⟩,show l*(4*q*128)+j-(l*(4*q*128)+128)=j%128 by omega,show j/128=1 by omega,o,Nz (by rw[alX];exact e) rfl (by omega)];rfl
    ·rw[ak (by omega)];by_cases am:j<128
     ·have o:wv h b (BitVec.ofNat 32 l)=ga b (kE Q 0 l) 0 1024 1024 0 72:=by unfold wv;rw[d]
      rw[av (by omega),av ⟨by omega,by omega⟩,show l*(4*q*128)+j-l*(4*q*128)=j%128 by omega,show j/128=0 by omega,o,Nz e rfl (by omega)];rfl
     ·rw[ak (by omega),ak (fun h=>by omega),ak (fun h=>by omega)]
   ·have dI:=L8 (c:=0) m k (by omega:0+128≤4*q*128);have al:=L8 (c:=128) m k (by omega:128+128≤4*q*128);rw[gd]at dI;rw[ak al,ak dI];by_cases c:l<t∧j<256
    ·rw[av c,av ⟨by omega,c.2⟩]
    ·rw[ak c,ak (fun h=>c ⟨by omega,h.2⟩)]
theorem Vh:m7 P q (iA R mem p) (fun l=>pH fz iU Q (4*q) l)∧rB P q 0 2 (iA R mem p):=by
 have m:(o8 mem.toNat).n=P*(4*q*128):=by rw[Lp,em,gU 4 P,iX P,iX P]
 have o:∀d,aK (o8 mem.toNat) d=0#64:=fun d=>by
  show(List.replicate _ 0#64).getD d 0#64=_;rw[dZ,mz];split<;>rfl
 obtain⟨h,b,r,s,x,y,C,t,e⟩:=Vg Y Z A B em T S V W mem.toNat (o8 mem.toNat) m o P (aX _);have u:iA R mem p=r:=by
  unfold iA ua;rw[show p.toNat-(0#32).toNat=P from by rw[T];rfl,s]
 rw[u];have v:∀l j,aK (pH fz iU Q (4*q) l) j=if j<256 then aK (A7 fz iU Q (j/128) l) (j%128)else 0#64:=fun l j=>by
  have z:(U.zero 64 (4*q*128)).n=4*q*128:=rfl;have f:dK 0=0:=rfl;have g:dK 1=128:=rfl;unfold pH;rw[AU _ (by rw[wD,z,g];omega),AU _ (by rw[z,f];omega),f,g];by_cases k:128≤j∧j<128+128
  ·rw[av k,av (by omega),show j/128=1 by omega,show j-128=j%128 by omega]
  ·rw[ak k];by_cases D:j<128
   ·rw[av (by omega),av (by omega),show j/128=0 by omega,show j-0=j%128 by omega]
   ·rw[ak (by omega),ak (by omega)]
    show(List.replicate _ (0:BitVec 64)).getD j 0#64=_;rw[dZ,mz];split<;>rfl
 refine⟨⟨t,fun l a=>rfl,fun l j a w=>?_⟩,fun _ l j a h1 h2=>?_⟩
 ·rw[e l j a w,v];by_cases c:j<256
  ·rw[av ⟨a,c⟩,av c]
  ·rw[ak (fun h=>c h.2),ak c]
 ·rw[e l j a h2,ak (fun h=>by omega)]
end
end
section
open Go.aA
variable [aR][aF][bq]
variable{p:BitVec 8}{m mem:BitVec 32}
def Bc(p:BitVec 8):(p.setWidth 32).toNat=p.toNat:=by
 rw[kJ];have:=p.isLt;omega
def Vi(h1:1≤p.toNat)(b:p.toNat≤8):(kF m p).toNat=4*p.toNat*(m.toNat/(4*p.toNat)):=by
 have a:(4#32*p.setWidth 32).toNat=4*p.toNat:=by
  rw[iG,Bc,show(4#32).toNat=4 from rfl];omega
 have:=WH m.toNat (4*p.toNat);unfold kF;rw[iG,rI,a,gU (4*p.toNat)];have:=m.isLt;exact dM (by omega)
def NB(a:p.toNat≤8):(8#32*p.setWidth 32).toNat=8*p.toNat:=by
 rw[iG,Bc,show(8#32).toNat=8 from rfl];omega
def alY{q:Nat}(h1:1≤p.toNat)(h:mem.toNat=4*p.toNat*q):(m6 mem (p.setWidth 32)).toNat=q:=by
 unfold m6 s4;rw[rI,rI,Bc,h,show(4#32).toNat=4 from rfl,gU 4,iX,uM _ (by omega),uM _ (by omega)]
def Vj(e:m.toNat≤256)(h1:1≤p.toNat)(d:p.toNat≤8):∃q,2≤q∧q≤64∧(j6 m p).toNat=4*p.toNat*q∧(m6 (j6 m p) (p.setWidth 32)).toNat=q:=by
 suffices h:∃q,2≤q∧q≤64∧(j6 m p).toNat=4*p.toNat*q from let⟨q,a,b,c⟩:=h;⟨q,a,b,c,alY h1 c⟩
 unfold j6;rw[NB d,Vi h1 d];split
 ·exact⟨2,by omega,by omega,by rw[NB d];omega⟩
 ·rename_i h;refine⟨m.toNat/(4*p.toNat),?_,?_,Vi h1 d⟩
  ·refine Od fun g=>h ?_;have:4*p.toNat*(m.toNat/(4*p.toNat))≤4*p.toNat*1:=Nat.mul_le_mul_left _ (by omega);omega
  ·exact Nat.div_le_of_le_mul (by omega)
def Vk(h:U 8)(mem p:BitVec 32):(iA h mem p).n=mem.toNat*128:=by
 have a:∀r (d:ww),(iter mY r d).X.n=d.X.n:=by
  intro r
  induction r with
  |zero=>exact fun d=>rfl|succ r c=>
   intro d;obtain⟨h,b,X,M,mem,p,e⟩:=d;exact(c (mY ⟨h,b,X,M,mem,p,e⟩)).trans (by dsimp only[mY];exact SG ..)
 unfold iA ua;rw[a];exact Lp _
def alZ(m:Int)(mem tm p:BitVec 32)(X:U 64):(iW m mem tm p X).n=X.n:=DZ ..
def HB{h:U 8}{t:BitVec 32}{k:BitVec 32}{d:Int}{b i:Bool}(e:1≤t.toNat∧t.toNat≤1000000∧m.toNat≤256∧1≤p.toNat∧p.toNat≤8∧1≤k.toNat)(hi:i=true)(f:decide ((kF m p).toNat<(8#32*p.setWidth 32).toNat)=b)(g:mem=j6 m p):
 ∀j∈D4 iA iW h t m mem p k d b i,j=true:=by
 obtain⟨u,v,l,bf,n,o⟩:=e;obtain⟨q,w,x,c,r⟩:=Vj l bf n;subst g;have a:=Bc p;have h2:2*p.toNat≤4*p.toNat*q:=gb (by omega) (En _ (by omega));refine ax (bl ⟨(alZ ..).trans (Vk ..),rfl,?_,by omega,o⟩) (ax (bl ⟨rfl,by omega,by omega,by omega,by omega,by rw[r,a,c],by omega,Vk ..⟩) (ax (bl ⟨rfl,?_⟩) (ax (by simp only[f,beq_self_eq_true]) (ax ?_ (ax hi (ax ?_ (ax ?_ aV)))))))
 ·rw[c,a];exact h2
 ·show 2*(p.setWidth 32).toNat≤(j6 m p).toNat
  rw[c,a];exact h2
 ·rw[bne_iff_ne];intro s;have:=iZ BitVec.toNat s;rw[iG,a]at this;simp at this;omega
 ·rw[eT];exact jQ (by show¬p.toNat<1;omega)
 ·rw[eT];exact jQ (by show¬t.toNat<1;omega)
def Vl(h:(kF m p).toNat<(8#32*p.setWidth 32).toNat):8#32*p.setWidth 32=j6 m p:=by unfold j6;rw[av h]
def Vm(h:¬(kF m p).toNat<(8#32*p.setWidth 32).toNat):kF m p=j6 m p:=by unfold j6;rw[ak h]
def al0(D:br 33 lM.spec):br 26 uB.spec:=by
 refine uB.ok (dm (U0 D) (cK _)) alB ?_;rintro⟨a,b,c,f,g,i,j,l,n,o,q,r,t,m,p,k,s⟩ e;have e:=aZ e;obtain⟨u,v,w,x,y,z,A,B,C⟩:=e;by_cases d:(kF m p).toNat<(8#32*p.setWidth 32).toNat
 ·have h:=alD uA rC uc iA iW (fun X M mem p kl=>(gS (dA X M mem p kl)).X) jK a b c f g i j l n o q r t m p k s;rw[Vl d]at h;exact⟨_,_,_,h,HB C (bl ⟨u,v,w,x,y,z,A,B⟩) (bl d) rfl⟩
 ·have h:=alF uA rC uc iA iW (fun X M mem p kl=>(gS (dA X M mem p kl)).X) jK a b c f g i j l n o q r t m p k s;rw[Vm d]at h;exact⟨_,_,_,h,HB C (bl ⟨u,v,w,x,y,z,A,B⟩) (jQ d) rfl⟩
def al1(s:br 33 lM.spec):br 26 uC.spec:=by
 refine uC.ok (dm (U0 s) (cK _)) alC ?_;rintro⟨a,b,e,f,g,i,t,m,p,k,j⟩ d;have d:=aZ d;obtain⟨l,n,o,q,r⟩:=d;by_cases c:(kF m p).toNat<(8#32*p.setWidth 32).toNat
 ·have h:=alE uA rC uc iA iW (fun X M mem p kl=>(gS (dA X M mem p kl)).X) jK a b e f g i t m p k j;rw[Vl c]at h;exact⟨_,_,_,h,HB r (bl ⟨l,n,o,q⟩) (bl c) rfl⟩
 ·have h:=alG uA rC uc iA iW (fun X M mem p kl=>(gS (dA X M mem p kl)).X) jK a b e f g i t m p k j;rw[Vm c]at h;exact⟨_,_,_,h,HB r (bl ⟨l,n,o,q⟩) (jQ c) rfl⟩
end
section
open Go.aA
variable [aR][aF][bq]
variable{P:Nat}{m:BitVec 32}{p:BitVec 8}
def al2(a:U 8):(ot a).l=(List.range 72).map fun i=>a.l.getD i 0#8:=by kernel_rfl
def al3(a:U 8){i:Nat}(h:i<72):cE (ot a) i=cE a i:=by
 unfold cE;rw[al2];simp[dZ,h]
def NC(a:U 8):(ot a).n=72:=by kernel_rfl
def al4{ke:Int}(h1:1≤P)(u:P≤8)(v:0≤ke∧ke≤256)(d:p.toNat=P)(em:(m.toNat:Int)=ke):∃q,2≤q∧q≤64∧(j6 m p).toNat=4*P*q∧jI P ke=((4*q:Nat):Int):=by
 obtain⟨q,g,h,a,w⟩:=Vj (m:=m) (p:=p) (by omega) (by omega) (by omega);rw[d]at a;refine⟨q,g,h,a,?_⟩;have i:(4#32*p.setWidth 32).toNat=4*P:=by
  have j:(4#32).toNat=4:=rfl;rw[iG,Bc,j,d];omega
 have e:(kF m p).toNat=m.toNat/(4*P)*(4*P):=by
  have:m.toNat/(4*P)*(4*P)≤m.toNat:=WH _ _;unfold kF;rw[iG,rI,i];exact dM (by omega)
 have f:(8#32*p.setWidth 32).toNat=8*P:=by rw[NB (by omega),d]
 have k:∃b:Nat,mo P ke=(b:Int)∧b/(4*P)=q:=by
  unfold mo;by_cases c:ke<8*(P:Int)
  ·refine⟨8*P,by rw[av (bl c)];omega,?_⟩;have l:(kF m p).toNat<(8#32*p.setWidth 32).toNat:=by
    have:m.toNat/(4*P)*(4*P)≤m.toNat:=WH _ _;rw[e,f];omega
   unfold j6 at a;rw[av l,f]at a;have n:8*P=4*P*2:=by omega
   rw[n]at a⊢;rw[uM _ (by omega)];exact aot (by omega) a
  ·refine⟨m.toNat,by rw[ak (by simpa using c)];omega,?_⟩;have o:2≤m.toNat/(4*P):=(Bx (by omega)).2 (by omega);have x:2*(4*P)≤m.toNat/(4*P)*(4*P):=fQ _ o;have r:¬(kF m p).toNat<(8#32*p.setWidth 32).toNat:=by rw[e,f];omega
   unfold j6 at a;rw[ak r,e,gU]at a;exact aot (by omega) a
 obtain⟨b,w1,s⟩:=k;unfold jI wQ;have t:(b:Int).tdiv ((4*P:Nat):Int)=(q:Int):=by rw[pK (by omega),←Int.natCast_ediv,s]
 rw[w1,show(4*(P:Int))=((4*P:Nat):Int) by omega,t,←Bz,pK (by omega),←Int.natCast_ediv];congr 1;rw[gU 4 P,Nat.mul_left_comm];rw[uM _ (by omega),gU]
def al5{a b c e:U 8}{bA na bz nb bH bD bO ne:Nat}(aM:Int){T fO:Nat}{ke:Int}{k:BitVec 32}(v:bA+na≤a.n)(x:na≤1000000)(y:bz+nb≤b.n)(z:nb≤1000000)(A:bH+bD≤c.n)(C:bD≤1000000)(D:bO+ne≤e.n)(E:ne≤1000000)
 (F:T≤4) (H:0≤ke∧ke≤256) (d:1≤P) (f:P≤8) (I:1≤fO) (J:fO≤1024) (s:p.toNat=P) (em:m=BitVec.ofInt 32 ke) (t:k=BitVec.ofInt 32 (fO:Int)):
 ∀i,i<fO→cE (en a b c e bA na bz nb bH bD bO ne (BitVec.ofInt 32 (T:Int)) m p k aM) i=cE (oo a b c e bA na bz nb bH bD bO ne aM T ke fO P) i:=by
 have K:(m.toNat:Int)=ke:=by rw[em,rJ];omega
 have L:k.toNat=fO:=by rw[t,rJ];omega
 have M:(BitVec.ofInt 32 (T:Int)).toNat=T:=by rw[rJ];omega
 obtain⟨q,g,j,o,u⟩:=al4 d f H s K;have h:(p.setWidth 32).toNat=P:=by rw[Bc,s]
 have N:p.setWidth 32=BitVec.ofInt 32 (P:Int):=nc (by rw[h,rJ];omega);have O:(ry lI a b c e bA na bz nb bH bD bO ne aM T ke fO P).n=64:=UE ..;have Q:=alR a b c e bA na bz nb bH bD bO ne (BitVec.ofInt 32 (T:Int)) (BitVec.ofInt 32 ke) (P:Int) (fO:Int) aM v x y z A C D E;have R:∀i,i<64→cE (ot (uA a b c e bA na bz nb bH bD bO ne (BitVec.ofInt 32 (T:Int)) m (p.setWidth 32) k aM)) i=cE (ry lI a b c e bA na bz nb bH bD bO ne aM T ke fO P) i:=fun i hi=>by
  rw[al3 _ (by omega),N,em,t];exact Q i hi
 obtain⟨S,V⟩:=Vh d f g j o h O (NC _) R;have W:=alk (m:=aM) d f g j o M h F V S a b c e (fO:Int) (iC ke P);have X:=alL (kl:=k) d f g j o h L I J W (j6 m p).toNat a b c e aM (T:Int) (m5 P a b c e aM T ((4*q:Nat):Int) fO (iC ke P) (fun l=>pH fz iU (ry lI a b c e bA na bz nb bH bD bO ne aM T ke fO P) (4*q) l)).len (j5 a b c e bA na bz nb bH bD bO ne aM T ke fO P).len (iC ke P);intro i hi;have Y:en a b c e bA na bz nb bH bD bO ne (BitVec.ofInt 32 (T:Int)) m p k aM=jK (iW aM (j6 m p) (BitVec.ofInt 32 (T:Int)) (p.setWidth 32) (iA (ot (uA a b c e bA na bz nb bH bD bO ne (BitVec.ofInt 32 (T:Int)) m (p.setWidth 32) k aM)) (j6 m p) (p.setWidth 32))) (j6 m p).toNat (j6 m p) (p.setWidth 32) k:=rfl;have aa:uz a b c e bA na bz nb bH bD bO ne aM T ke fO P=fun l=>pH fz iU (ry lI a b c e bA na bz nb bH bD bO ne aM T ke fO P) (4*q) l:=by
  unfold uz Hi;rw[u];rfl
 have ab:(j5 a b c e bA na bz nb bH bD bO ne aM T ke fO P).Z=(ql P a b c e aM T ((4*q:Nat):Int) (iC ke P) P (m5 P a b c e aM T ((4*q:Nat):Int) fO (iC ke P) (fun l=>pH fz iU (ry lI a b c e bA na bz nb bH bD bO ne aM T ke fO P) (4*q) l)).len (m5 P a b c e aM T ((4*q:Nat):Int) fO (iC ke P) (fun l=>pH fz iU (ry lI a b c e bA na bz nb bH bD bO ne aM T ke fO P) (4*q) l)).r jh 0).Z:=by
  unfold j5 A9;rw[aa,u]
 obtain⟨ad,af⟩:=Nr (p:=P) (a:=a) (b:=b) (c:=c) (e:=e) (aM:=aM) (ps:=(T:Int)) (nn:=iC ke P) (r0:=(m5 P a b c e aM T ((4*q:Nat):Int) fO (iC ke P) (fun l=>pH fz iU (ry lI a b c e bA na bz nb bH bD bO ne aM T ke fO P) (4*q) l)).r) g P (m5 P a b c e aM T ((4*q:Nat):Int) fO (iC ke P) (fun l=>pH fz iU (ry lI a b c e bA na bz nb bH bD bO ne aM T ke fO P) (4*q) l)).len (m5 P a b c e aM T ((4*q:Nat):Int) fO (iC ke P) (fun l=>pH fz iU (ry lI a b c e bA na bz nb bH bD bO ne aM T ke fO P) (4*q) l)).r jh 0 (by omega) DV (fun _ _=>rfl) (fun w _=>Nu w);have ae:oo a b c e bA na bz nb bH bD bO ne aM T ke fO P=fz (lK a b c e (j5 a b c e bA na bz nb bH bD bO ne aM T ke fO P).len (j5 a b c e bA na bz nb bH bD bO ne aM T ke fO P).Z).B 0 (lK a b c e (j5 a b c e bA na bz nb bH bD bO ne aM T ke fO P).len (j5 a b c e bA na bz nb bH bD bO ne aM T ke fO P).Z).k fO:=rfl;rw[Y,ae,ab,(U8 a b c e _ _ ad).2.1];exact X i hi
end
section
open Go.aA
variable{Q:Type}
def bu(a:BitVec 64)(k:BitVec 64→Q):Q:=Nat.rec (motive:=fun _=>Q) (k 0#64) (fun n _=>k (BitVec.ofNat 64 (n+1))) a.toNat
def Vn(a:BitVec 64)(k:BitVec 64→Q):bu a k=k a:=by
 have h:BitVec.ofNat 64 a.toNat=a:=by simp
 unfold bu;generalize a.toNat=n at h;subst h;cases n<;>rfl
def yY{Q:Type}:List (BitVec 64)→(List (BitVec 64)→Q)→Q|[],k=>k []|a::r,k=>bu a fun b=>yY r fun c=>k (b::c)
def ND{Q:Type}:∀(l:List (BitVec 64)) (k:List (BitVec 64)→Q),yY l k=k l
 |[],_=>rfl|a::r,k=>by
  show bu a (fun b=>yY r fun c=>k (b::c))=_;rw[Vn,ND r]
def uD(h:bp)(k:bp→Q):Q:=
 bu h.dQ fun a=>bu h.ew fun b=>bu h.ey fun c=>bu h.ez fun d=>bu h.e4 fun e=>bu h.e5 fun f=>bu h.e6 fun g=>bu h.e7 fun i=>k ⟨a,b,c,d,e,f,g,i⟩
def NE(h:bp)(k:bp→Q):uD h k=k h:=by
 unfold uD;simp only[Vn]
def NF(h:bp):U 64:=U.of [h.dQ,h.ew,h.ey,h.ez,h.e4,h.e5,h.e6,h.e7,0#64,0#64,0#64,0#64,0#64,0#64,0#64,0#64]
def s5(h:bp):bp:=cm (b7 64) 64#64 0#64 MG (NF h)
def ju:Nat→bp→List (BitVec 64)|0,c=>[c.dQ,c.ew,c.ey,c.ez,c.e4,c.e5,c.e6,c.e7]|n+1,c=>c.dQ::c.ew::c.ey::c.ez::ju n (s5 c)
def D7{Q:Type}:Nat→bp→(List (BitVec 64)→Q)→Q|0,c,k=>k [c.dQ,c.ew,c.ey,c.ez,c.e4,c.e5,c.e6,c.e7]|n+1,c,k=>uD (s5 c) fun d=>D7 n d fun r=>k (c.dQ::c.ew::c.ey::c.ez::r)
def Vo{Q:Type}:∀(n:Nat) (c:bp) (k:List (BitVec 64)→Q),D7 n c k=k (ju n c)
 |0,_,_=>rfl|n+1,c,k=>by
  show uD (s5 c) (fun d=>D7 n d fun r=>k (c.dQ::c.ew::c.ey::c.ez::r))=_;rw[NE,Vo n];rfl
def al6{w:Nat}(v:U w):U.of v.l=v:=by
 obtain⟨n,l,h⟩:=v;subst h;rfl
def HC{Q:Type}:List (List Nat)→List (BitVec 64)→(List (BitVec 64)→Q)→Q|[],t,k=>k t|a::r,t,k=>yY (o4 a (U.of t)).l fun u=>HC r u k
def Vp{Q:Type}:∀(l:List (List Nat)) (t:List (BitVec 64)) (k:List (BitVec 64)→Q),HC l t k=k (fY l (U.of t)).l
 |[],_,_=>rfl|a::r,t,k=>by
  show yY (o4 a (U.of t)).l (fun u=>HC r u k)=_;rw[ND,Vp r,al6];rfl
def pI:List (BitVec 64)→List (BitVec 64)→List (BitVec 64)|a::r,b::c=>(a^^^b)::pI r c|_,_=>[]
def rD(b c:List (BitVec 64)):List (BitVec 64):=pI (pI b c) (fY hJ (U.of (pI b c))).l
def qz(b c:List (BitVec 64))(k:List (BitVec 64)→Q):Q:=
 yY (pI b c) fun t=>HC hJ t fun u=>yY (pI t u) k
def Vq(b c:List (BitVec 64))(k:List (BitVec 64)→Q):qz b c k=k (rD b c):=by
 unfold qz rD;simp only[ND,Vp]
def gF:List (BitVec 64):=List.replicate 128 0#64
def gG(a:List (List (BitVec 64)))(b c:Nat):List (List (BitVec 64)):=a++[rD (a.getD b gF) (a.getD c gF)]
def wY(a:List (List (BitVec 64)))(b c:Nat)(k:List (List (BitVec 64))→Q):Q:=qz (a.getD b gF) (a.getD c gF) fun r=>k (a++[r])
def al7(a:List (List (BitVec 64)))(b c:Nat)(k:List (List (BitVec 64))→Q):wY a b c k=k (gG a b c):=by
 unfold wY gG;rw[Vq]
def fP(b:List (List (BitVec 64)))(a i:Nat):BitVec 64:=(b.getD a gF).getD i 0#64
def s6:List (BitVec 64):=rD (rD (0#64::0#64::1#64::8#64::1#64::2#64::1#64::List.replicate 121 0#64) gF) gF
def eo(a m:BitVec 64):Nat:=((0#64+m-(((((a&&&4294967295#64)*(a&&&4294967295#64))>>>32)*m)>>>32+1#64))%8#64).toNat
def HD(e f:List (BitVec 64)):List (List (BitVec 64)):=
 let g:=gG [e,f] 1 (eo (s6.getD 0 0#64) 1#64);let a:=gG g 2 (eo (s6.getD 1 0#64) 2#64);let b:=gG a 3 (eo (fP a 3 0) 3#64);let c:=gG b 4 (eo (fP b 4 0) 4#64);let d:=gG c 5 (eo (fP c 5 0) 5#64)
 gG d 6 (eo (fP d 6 0) 6#64)
def NG(c d:List (BitVec 64))(k:List (List (BitVec 64))→Q):Q:=
 qz (0#64::0#64::1#64::8#64::1#64::2#64::1#64::List.replicate 121 0#64) gF fun a=>
 qz a gF fun a=>
 wY [c,d] 1 (eo (a.getD 0 0#64) 1#64) fun b=>
 wY b 2 (eo (a.getD 1 0#64) 2#64) fun b=>
 wY b 3 (eo (fP b 3 0) 3#64) fun b=>
 wY b 4 (eo (fP b 4 0) 4#64) fun b=>
 wY b 5 (eo (fP b 5 0) 5#64) fun b=>
 wY b 6 (eo (fP b 6 0) 6#64) k
def al8(a b:List (BitVec 64))(k:List (List (BitVec 64))→Q):NG a b k=k (HD a b):=by
 unfold NG HD s6;simp only[Vq,al7]
def Bd(r:List (BitVec 64))(i:Nat):BitVec 8:=(r.getD (i/8) 0#64>>>(8*(i%8))).setWidth 8
def Be(r:List (BitVec 64))(i:Nat):BitVec 8:=if i<4 then(gI 4).l.getD i 0#8 else Bd r (i-4)
def HE{Q:Type}(P:Nat→BitVec 8):Nat→(bp→Q)→Q|0,k=>k (b7 4)|n+1,k=>HE P n fun h=>uD (cm h (BitVec.ofNat 64 (128*(n+1))) 0#64 0#64 (m3 fun i=>P (128*n+i))) k
def Vr{Q:Type}(P:Nat→BitVec 8):∀(n:Nat) (k:bp→Q),HE P n k=k (iS (b7 4) P n)
 |0,_=>rfl|n+1,k=>by
  show HE P n (fun h=>uD (cm h (BitVec.ofNat 64 (128*(n+1))) 0#64 0#64 (m3 fun i=>P (128*n+i))) k)=_;rw[Vr P n,NE];rfl
def al9(h:bp)(P:Nat→BitVec 8)(N k:Nat):bp:=cm h (BitVec.ofNat 64 N) 0#64 MG (m3 fun i=>if i<N-128*k then P (128*k+i)else 0#8)
def NH(a b:bp):BitVec 8:=ld (eP (b7 4) (Be ((HD (ju 30 a) (ju 30 b)).getD 7 gF)) 1028) 0
def HF(a b:bp):BitVec 64:=
 uD a fun a=>uD b fun b=>D7 30 a fun d=>D7 30 b fun e=>NG d e fun c=>HE (Be (c.getD 7 gF)) 8 fun h=>
 uD (al9 h (Be (c.getD 7 gF)) 1028 8) fun h=>h.dQ
def Vs(a b:bp):(HF a b).setWidth 8=NH a b:=by
 unfold HF NH;simp only[NE,Vo,al8,Vr];rfl
end
section
open Go.aA
variable [aR][aF][bq]
variable{P D:Type}
def uE(a:BitVec 64):jg ((a>>>0).setWidth 8) ((a>>>8).setWidth 8) ((a>>>16).setWidth 8) ((a>>>24).setWidth 8) ((a>>>32).setWidth 8) ((a>>>40).setWidth 8) ((a>>>48).setWidth 8) ((a>>>56).setWidth 8)=a:=by
 refine aoo fun i hi=>?_;unfold jg;simp only[BitVec.getLsbD_or,BitVec.getLsbD_setWidth,aop,aoq];by_cases h1:i<8
 ·simp[h1,show i<64 by omega,show i<16 by omega,show i<24 by omega,show i<32 by omega,show i<40 by omega,show i<48 by omega,show i<56 by omega]
 by_cases h2:i<16
 ·simp[h1,h2,show i<64 by omega,show i<24 by omega,show i<32 by omega,show i<40 by omega,show i<48 by omega,show i<56 by omega,show i-8<8 by omega,show i-8<64 by omega,show 8+(i-8)=i by omega]
 by_cases h3:i<24
 ·simp[h1,h2,h3,show i<64 by omega,show i<32 by omega,show i<40 by omega,show i<48 by omega,show i<56 by omega,show¬i-8<8 by omega,show i-16<8 by omega,show i-16<64 by omega,show 16+(i-16)=i by omega]
 by_cases h4:i<32
 ·simp[h1,h2,h3,h4,show i<64 by omega,show i<40 by omega,show i<48 by omega,show i<56 by omega,show¬i-8<8 by omega,show¬i-16<8 by omega,show i-24<8 by omega,show i-24<64 by omega,show 24+(i-24)=i by omega]
 by_cases b:i<40
 ·simp[h1,h2,h3,h4,b,show i<64 by omega,show i<48 by omega,show i<56 by omega,show¬i-8<8 by omega,show¬i-16<8 by omega,show¬i-24<8 by omega,show i-32<8 by omega,show i-32<64 by omega,show 32+(i-32)=i by omega]
 by_cases c:i<48
 ·simp[h1,h2,h3,h4,b,c,show i<64 by omega,show i<56 by omega,show¬i-8<8 by omega,show¬i-16<8 by omega,show¬i-24<8 by omega,show¬i-32<8 by omega,show i-40<8 by omega,show i-40<64 by omega,show 40+(i-40)=i by omega]
 by_cases d:i<56
 ·simp[h1,h2,h3,h4,b,c,d,show i<64 by omega,show¬i-8<8 by omega,show¬i-16<8 by omega,show¬i-24<8 by omega,show¬i-32<8 by omega,show¬i-40<8 by omega,show i-48<8 by omega,show i-48<64 by omega,show 48+(i-48)=i by omega]
 ·simp[h1,h2,h3,h4,b,c,d,hi,show¬i-8<8 by omega,show¬i-16<8 by omega,show¬i-24<8 by omega,show¬i-32<8 by omega,show¬i-40<8 by omega,show¬i-48<8 by omega,show i-56<8 by omega,show i-56<64 by omega,show 56+(i-56)=i by omega]
def yZ(f:Nat→P)(n i:Nat)(d:P)(h:i<n):((List.range n).map f).getD i d=f i:=by
 simp[dZ,h]
def wd(h:bp)(j:Nat):BitVec 64:=(NF h).l.getD j 0#64
def ama(h:bp)(i:Nat)(hi:i<64):ld h i=(wd h (i/8)>>>(8*(i%8))).setWidth 8:=by
 have b:(List.range 64).map (ld h)=(List.range 64).map fun i=>(wd h (i/8)>>>(8*(i%8))).setWidth 8:=rfl;have a:=yZ (ld h) 64 i 0#8 hi;rw[b,yZ _ _ _ _ hi]at a;exact a.symm
def amb(h:bp):eP (b7 64) (ld h) 64=s5 h:=by
 have a:(m3 fun i=>if i<64-128*aO 64 then ld h (128*aO 64+i)else 0#8)=NF h:=by
  show U.of [_,_,_,_,_,_,_,_,_,_,_,_,_,_,_,_]=U.of _;congr 1;exact congr (iZ List.cons (uE h.dQ)) (congr (iZ List.cons (uE h.ew)) (congr (iZ List.cons (uE h.ey)) (congr (iZ List.cons (uE h.ez)) (congr (iZ List.cons (uE h.e4)) (congr (iZ List.cons (uE h.e5)) (congr (iZ List.cons (uE h.e6)) (congr (iZ List.cons (uE h.e7)) (by kernel_rfl))))))))
 unfold eP s5;rw[a];rfl
def Vt(a:Nat)(w:U 8)(b c:Nat):∀k,mm a w b c k=ld (iter s5 k (eP (b7 64) (iT a w b) (4+c)))
 |0=>rfl|k+1=>by
  rw[gB]
  show ld (eP (b7 64) (mm a w b c k) 64)=_;rw[Vt a w b c k,amb]
def amc(c:bp)(j:Nat)(h:j<8):(ju 0 c).getD j 0#64=wd c j:=by
 have b:(List.range 8).map (fun j=>(ju 0 c).getD j 0#64)=(List.range 8).map (wd c):=rfl;have a:=yZ (fun j=>(ju 0 c).getD j 0#64) 8 j 0#64 h;rw[b,yZ _ _ _ _ h]at a;exact a.symm
def amd(n:Nat)(c:bp)(j:Nat)(h:j<4):(ju (n+1) c).getD j 0#64=wd c j:=by
 have b:(List.range 4).map (fun j=>(ju (n+1) c).getD j 0#64)=(List.range 4).map (wd c):=rfl;have a:=yZ (fun j=>(ju (n+1) c).getD j 0#64) 4 j 0#64 h;rw[b,yZ _ _ _ _ h]at a;exact a.symm
def ame(f:D→D)(n:Nat)(d:D):iter f (n+1) d=iter f n (f d):=rfl
def Vu(f:D→D)(d:D):iter f 0 d=d:=rfl
def amf(n:Nat)(c:bp):ju (n+1) c=c.dQ::c.ew::c.ey::c.ez::ju n (s5 c):=rfl
def amg(a b c d:P)(l:List P)(j:Nat)(e:P):(a::b::c::d::l).getD (j+4) e=l.getD j e:=rfl
def amh(n:Nat):∀(c:bp) (j:Nat),j<4*n+8→(ju n c).getD j 0#64=wd (iter s5 (min (j/4) n) c) (j-4*min (j/4) n):=by
 induction n with
 |zero=>
  intro c j h;rw[WF,Bw,gz,amc c j (by omega),Vu]
 |succ n a=>
  intro c j h;by_cases h4:j<4
  ·rw[amd n c j h4,show min (j/4) (n+1)=0 by omega,Bw,gz,Vu]
  ·obtain⟨j,rfl⟩:∃k,j=k+4:=⟨j-4,by omega⟩;rw[amf,amg,a (s5 c) j (by omega),show min ((j+4)/4) (n+1)=min (j/4) n+1 by omega,show j+4-4*(min (j/4) n+1)=j-4*min (j/4) n by omega,ame]
def NI:∀(n:Nat) (c:bp),(ju n c).length=4*n+8
 |0,_=>rfl|n+1,c=>by
  show(ju n (s5 c)).length+1+1+1+1=_;rw[NI n];omega
def wZ(v w:U 8)(A:v.n=1024)(B:72≤w.n)(i:Nat)(hi:i<1024):(ga v w 0 1024 1024 0 72).l.getD i 0#8=Bd (ju 30 (eP (b7 64) (iT 1024 w 0) (4+72))) i:=by
 have r:Bd (ju 30 (eP (b7 64) (iT 1024 w 0) (4+72))) i=mm 1024 w 0 72 (min (i/32) 30) (i-32*min (i/32) 30):=by
  unfold Bd;rw[amh 30 _ _ (by omega),Vt,ama _ _ (by omega),show i/8/4=i/32 by omega,show(i-32*min (i/32) 30)/8=i/8-4*min (i/32) 30 by omega,show(i-32*min (i/32) 30)%8=i%8 by omega]
 rw[r];unfold ga;rw[ak (by omega)];obtain⟨c,d⟩:=MS v w 0 1024 1024 0 72 (by omega) (by omega) (by omega) (by omega) (by omega) 29 (by omega);have e:=AJ v w 0 1024 1024 0 72 29;have s:bG v w 0 1024 1024 0 72=iter mb 29 (p8 v w 0 1024 1024 0 72):=rfl;rw[s];generalize iter mb 29 (p8 v w 0 1024 1024 0 72)=D at c d e;obtain⟨v',w',b,C,E,F,f,H,I,g,J,K,N⟩:=D;obtain⟨t,j,u,k,m,o,p,x,y,z,q⟩:=e;simp only at t j u k m o p x y z q c d;subst k m o p q
 show(if 0<((1024:Nat):Int).tmod 64 then _ else _:U 8).l.getD i 0#8=_;rw[ak (by decide)]
 show(e9 (gE (jk ⟨b7 64,0#64,f,0⟩ b 0 64)) v' g 64).l.getD i 0#8=_;rw[yP _ _ _ _ _ (by omega) (by omega) (by omega) (by omega),G6 64 f b _ j c];by_cases h:i<960
 ·have a:=d i (by omega);rw[cM]at a;rw[ak (by omega),a,show min (i/32) 30=i/32 by omega,show i-32*(i/32)=i%32 by omega]
 ·rw[av (by omega),show min (i/32) 30=30 by omega,show g=960 by omega];rfl
end
section
open Go.aA
variable [aR][aF][bq]
def ami{w:Nat}(v:U w)(l:List (BitVec w))(h:v.n=l.length)(b:∀i,i<v.n→v.l.getD i 0=l.getD i 0):v=U.of l:=by
 obtain⟨n,m,c⟩:=v;simp only at h b;have d:m=l:=by
  refine Ic (by omega) fun i h1 h2=>?_;have a:=b i (by omega);simpa[dZ,h1,h2]using a
 subst d;subst c;rfl
def amj(v w:U 8)(a:v.n=1024)(b:72≤w.n)(j:Nat)(c:j<128):gr (ga v w 0 1024 1024 0 72) (8*j)=(ju 30 (eP (b7 64) (iT 1024 w 0) (4+72))).getD j 0#64:=by
 unfold gr;rw[wZ v w a b _ (by omega),wZ v w a b _ (by omega),wZ v w a b _ (by omega),wZ v w a b _ (by omega),wZ v w a b _ (by omega),wZ v w a b _ (by omega),wZ v w a b _ (by omega),wZ v w a b _ (by omega)];generalize ju 30 (eP (b7 64) (iT 1024 w 0) (4+72))=r;unfold Bd;rw[show(8*j+0)/8=j by omega,show(8*j+1)/8=j by omega,show(8*j+2)/8=j by omega,show(8*j+3)/8=j by omega,show(8*j+4)/8=j by omega,show(8*j+5)/8=j by omega,show(8*j+6)/8=j by omega,show(8*j+7)/8=j by omega,show 8*((8*j+0)%8)=0 by omega,show 8*((8*j+1)%8)=8 by omega,show 8*((8*j+2)%8)=16 by omega,show 8*((8*j+3)%8)=24 by omega,show 8*((8*j+4)%8)=32 by omega,show 8*((8*j+5)%8)=40 by omega,show 8*((8*j+6)%8)=48 by omega,show 8*((8*j+7)%8)=56 by omega,uE]
structure Rows(X:U 64)(R:List (List (BitVec 64)))(a:Nat):Prop where
 n:X.n=1024
 len:R.length=a
 row:∀d,(R.getD d gF).length=128
 get:∀d i,d<8→i<128→X.l.getD (128*d+i) 0#64=fP R d i
def NJ{b:Type}(n i:Nat)(a:b):(List.replicate n a).getD i a=a:=by
 simp only[dZ,mz];split<;>rfl
def D8:∀(a b:List (BitVec 64)),a.length=b.length→(pI a b).length=a.length
 |[],[],_=>rfl|[],_::_,h=>by cases h
 |_::_,[],h=>by cases h
 |a::r,b::c,h=>by
  show(pI r c).length+1=r.length+1;rw[D8 r c (by simpa using h)]
def HG:∀(a b:List (BitVec 64)) (i:Nat),a.length=b.length→(pI a b).getD i 0#64=a.getD i 0#64^^^b.getD i 0#64
 |[],[],i,_=>by simp[pI]|[],_::_,_,h=>by cases h
 |_::_,[],_,h=>by cases h
 |a::r,b::c,0,h=>rfl|a::r,b::c,i+1,h=>HG r c i (by simpa using h)
def HH(a:List (List (BitVec 64)))(r:List (BitVec 64))(d:Nat):(a++[r]).getD d gF=if d=a.length then r else a.getD d gF:=by
 simp only[dZ];by_cases h:d<a.length
 ·rw[iE h,ak (by omega)]
 ·rw[ie (by omega)];by_cases h2:d=a.length
  ·rw[av h2,h2,WG];rfl
  ·rw[ak h2];obtain⟨m,b⟩:∃m,d-a.length=m+1:=⟨d-a.length-1,by omega⟩;rw[b,di (by omega:a.length≤d)];rfl
def Vv(t:List (BitVec 64))(h:t.length=128):(fY hJ (U.of t)).l.length=128:=by
 rw[(fY hJ (U.of t)).h,ya];exact h
def Vw(a b:List (BitVec 64))(c:a.length=128)(d:b.length=128):(rD a b).length=128:=by
 unfold rD;have h:=D8 a b (by omega);rw[D8 _ _ (by rw[Vv _ (by omega)];omega)];omega
def amk(a b:List (BitVec 64))(i:Nat)(c:a.length=128)(d:b.length=128):(rD a b).getD i 0#64=(a.getD i 0#64^^^b.getD i 0#64)^^^(fY hJ (U.of (pI a b))).l.getD i 0#64:=by
 unfold rD;have h:=D8 a b (by omega);rw[HG _ _ _ (by rw[Vv _ (by omega)];omega),HG _ _ _ (by omega)]
def Vx{a:Type}(f:Nat→a)(n:Nat):((List.range n).map f).length=n:=by rw[lQ,Bu]
def NK(a c:U 64)(k:a.n=128)(m:c.n=128):(bw a c).l=rD a.l c.l:=by
 have h:=a.h;have o:=c.h;have d:a.l.length=c.l.length:=by omega
 have ex:kY a c=U.of (pI a.l c.l):=by
  have e:(kY a c).n=128:=Vx _ _;refine ami _ _ ?_ fun i hi=>?_
  ·rw[D8 _ _ d,e];omega
  ·rw[e]at hi;exact(yZ (fun i=>a.l.getD i 0#64^^^c.l.getD i 0#64) 128 i 0#64 hi).trans (HG _ _ _ d).symm
 unfold bw;rw[ex];generalize f:fY hJ (U.of (pI a.l c.l))=p;have g:∀l:List (BitVec 64),(U.of l).l=l:=fun _=>rfl;rw[g];have j:=Vw a.l c.l (by omega) (by omega);refine Ic (by rw[Vx,j]) fun i h1 h2=>?_;have hi:i<128:=by omega
 have b:=amk a.l c.l i (by omega) (by omega);rw[f,dZ,bW h2]at b;rw[Og,List.getElem_range];exact b.symm
def Vy{X:U 64}{e:List (List (BitVec 64))}{a:Nat}(c:Rows X e a){b:Nat}(f:b<8):(rowAt X (128*b)).l=e.getD b gF:=by
 refine Ic ?_ fun i h1 h2=>?_
 ·rw[(rowAt X (128*b)).h,wB,c.row]
 ·have hi:i<128:=by rw[c.row]at h2;exact h2
  have d:=(q3 X (128*b) hi).trans (c.get b i f hi);unfold aK fP at d;rw[dZ,dZ,bW h1,bW h2]at d;exact d
def Rows.step{X:U 64}{g:List (List (BitVec 64))}{a:Nat}(e:Rows X g a)(f:cw)(b c:Nat)(u:a<8)(m:b<8)(o:c<8):Rows (fl f X (128*a) (128*b) (128*c)) (gG g b c) (a+1):=by
 obtain⟨p,q⟩:=SU f X (128*a) (128*b) (128*c) (by rw[e.n];omega) (by omega) (by omega) (by omega);have r:(bw (rowAt X (128*b)) (rowAt X (128*c))).l=rD (g.getD b gF) (g.getD c gF):=by
  rw[NK _ _ (wB _ _) (wB _ _),Vy e m,Vy e o]
 refine⟨p.trans e.n,?_,fun d=>?_,fun d i k hi=>?_⟩
 ·unfold gG;rw[fA,e.len];rfl
 ·unfold gG;rw[HH];split
  ·exact Vw _ _ (e.row b) (e.row c)
  ·exact e.row d
 ·have j:=q (128*d+i);have j:(fl f X (128*a) (128*b) (128*c)).l.getD (128*d+i) 0#64=_:=j;rw[j];unfold fP gG;rw[HH,e.len];by_cases h:d=a
  ·subst h;have s:fP g d i=0#64:=by
    unfold fP;have:g.getD d gF=gF:=by
     rw[dZ,di (by rw[e.len];omega)];rfl
    rw[this];exact NJ _ _ _
   have t:aK X (128*d+i)=0#64:=(e.get d i k hi).trans s;rw[av ⟨by omega,by omega⟩,av rfl,t,BitVec.zero_xor,uI];unfold aK;rw[r]
  ·rw[ak (by omega),ak h];exact e.get d i k hi
end
section
open Go Go.aA Conc Conc.Lib
variable [aR][aF][bq]
variable{w:World}{a:Act}{u v:Value}{cs:List Frame}{b:Frame}{k:List Item}
def dU(f:Nat)(p:List Bool):Array Oper:=opsOf (sub p (cR Tryz.prog f))
def iD(q:Array Oper)(i:Nat):Oper:=q.getD i {dst:=none,op:=.move (.tmp 0),type:=0,pos:= "",after:=#[],guard:=none}
structure D9(f g x y z n:Nat)(R:Code)(fn oc:Func):Prop where
 Ea:Tryz.prog.funcs[f]? =some fn
 HI:fn.body=some (cR Tryz.prog f)
 aO:(fn.name== "runtime.NumGoroutine")=false
 fr:fn.results=#[.cell x 22,.cell y 4]
 fn:fn.ntmps=n
 y3:bN Tryz.prog f=n
 body:cR Tryz.prog f=.seq (.region 0 (dU f [false]) false) (.seq (.region 1 (dU f [true,false]) false) R)
 rest:R=sub [true,true] (cR Tryz.prog f)
 Jt:List.range (dU f [true,false]).size=[0,1]
 NA:(dU f [true,false])[0]? =some (iD (dU f [true,false]) 0)
 Fi:(dU f [true,false])[1]? =some (iD (dU f [true,false]) 1)
 Ar:(iD (dU f [true,false]) 0).op=.makeFunc (.func g) #[] #[.tmp x,.tmp y]
 d0:(iD (dU f [true,false]) 0).dst=some z
 g0:(iD (dU f [true,false]) 0).guard=none
 CC:(iD (dU f [true,false]) 1).op=.defer {callee:=.value (.tmp z),args:=#[],argTypes:=#[]}
 d1:(iD (dU f [true,false]) 1).dst=none
 Jd:(iD (dU f [true,false]) 1).guard=none
 hz:z<n
 CS:Tryz.prog.funcs[g]? =some oc
 HJ:oc.body=some (cR Tryz.prog g)
 NL:(oc.name== "runtime.NumGoroutine")=false
 GN:oc.results=#[]
 oc:oc.ntmps=4
 NM:∃X,cR Tryz.prog g=.seq (.region 0 (dU g [false]) false) (.cond (.tmp 3) X .skip)
 s1:List.range (dU g [false]).size=[0,1]
 b0:(dU g [false])[0]? =some (iD (dU g [false]) 0)
 IX:(dU g [false])[1]? =some (iD (dU g [false]) 1)
 Gv:(iD (dU g [false]) 0).op=.call {callee:=.builtin .recover,args:=#[],argTypes:=#[]}
 II:(iD (dU g [false]) 0).dst=some 2
 h0:(iD (dU g [false]) 0).guard=none
 JM:(iD (dU g [false]) 1).op=.binOp .neq 20 (.tmp 2) (.const .nilIface) 20
 ID:(iD (dU g [false]) 1).dst=some 3
 h1:(iD (dU g [false]) 1).guard=none
 NN:scope g=true
theorem HK{c:Oper}(h:c.guard=none)(y:Nat→Option Bool):Region.wanted c y=true:=by
 unfold Region.wanted;rw[h]
def rE(g:Nat)(x y:Value):Deferred:={target:=.fn (.func g) #[x,y],args:=#[]}
section
variable{f g x y z n:Nat}{R:Code}{fn oc:Func}(D:D9 f g x y z n R fn oc)
include D
theorem step_defer(c:b.kind≠.early)(h:a.eval (.tmp z)=.func (.func g) #[] #[u,v])(main:Bool):
 stepG Tryz.prog main (G (b.at a (.inRegion (dU f [true,false]) [1]::k)) cs) w=.go (G (b.at ⟨a.tmps,rE g u v::a.defers⟩ (.inRegion (dU f [true,false]) []::k)) cs) w #[]:=by
 have d:(execOp a.eval (iD (dU f [true,false]) 1)).run Tryz.prog w=.ok (.defer (rE g u v)) w:=by
  unfold execOp;simp[D.CC,resolve,Deferred.ofValue,h,rE]
 have e:(execOp a.eval (iD (dU f [true,false]) 1)).events Tryz.prog w #[]=#[]:=by
  unfold execOp;simp[D.CC,resolve,Deferred.ofValue,h]
 have i:(b.at ⟨a.tmps,rE g u v::a.defers⟩ (.inRegion (dU f [true,false]) [1]::k)).finish undef=b.at ⟨a.tmps,rE g u v::a.defers⟩ (.inRegion (dU f [true,false]) []::k):=by
  rw[Frame.finish_at,D.Fi]
  show b.at (Act.put _ ((iD (dU f [true,false]) 1).dst) undef) _=_;rw[D.d1];rfl
 have j:(b.kind==CallKind.early)=false:=by simpa using c
 rw[stepG_oper D.Fi (HK D.Jd _),←i];simp[stepG.apply,d,e,G,Frame.at,j,GStep.after,seen_none]
theorem aml{c:List Item}{cs:List Frame}{w:World}(d:a.defers=[rE g u v])(main:Bool):
 stepG Tryz.prog main (G {b.at a c with mode:=.returning} cs) w=
  .go (G ((baseD g).at {tmps:=#[u,v]++Array.replicate 2 undef,defers:=[]} [.code (cR Tryz.prog g)]) ({b.at ⟨a.tmps,[]⟩ c with mode:=.returning}::cs)) w #[]:=by
 have e:¬oc.name= "runtime.NumGoroutine" :=by simpa using D.NL
 have h:Frame.enter Tryz.prog g #[u,v] .deferred=(baseD g).at {tmps:=#[u,v]++Array.replicate 2 undef,defers:=[]} [.code (cR Tryz.prog g)]:=by
  rw[enter_atD _ D.CS D.HJ,D.oc];rfl
 rw[←h];simp[G,stepG,unwind,callDeferred,Frame.at,d,rE,invoke,callFunc,D.CS,e,D.HJ,GStep.after,seen_none]
theorem amm{c:Frame}(d:c.mode=.returning)(main:Bool):
 stepG Tryz.prog main (G ((baseD g).at a (.inRegion (dU g [false]) [0,1]::k)) (c::cs)) w=.go (G ((baseD g).at (a.put (some 2) .nilIface) (.inRegion (dU g [false]) [1]::k)) (c::cs)) w #[]:=by
 have e:(execOp a.eval (iD (dU g [false]) 0)).run Tryz.prog w=.ok .recover w:=by
  unfold execOp;simp[D.Gv,resolve,invoke,builtin]
 have h:(execOp a.eval (iD (dU g [false]) 0)).events Tryz.prog w #[]=#[]:=by
  unfold execOp;simp[D.Gv,resolve,invoke,builtin]
 have i:((baseD g).at a (.inRegion (dU g [false]) [0,1]::k)).finish .nilIface=(baseD g).at (a.put (some 2) .nilIface) (.inRegion (dU g [false]) [1]::k):=by
  rw[Frame.finish_at,D.b0]
  show(baseD g).at (Act.put _ ((iD (dU g [false]) 0).dst) _) _=_;rw[D.II]
 rw[stepG_oper D.b0 (HK D.h0 _),←i];simp[stepG.apply,e,h,G,Frame.at,GStep.after,seen_none,baseD,Frame.roundOf,tryRecover,d]
theorem amn(c:Operand→Value)(w:World)(h:c (.tmp 2)=.nilIface)(d:c (.const .nilIface)=.nilIface):(execOp c (iD (dU g [false]) 1)).aG Tryz.prog w=.ok (.value (.bool false)) w:=by
 have e:(do eqGuard .neq 20 (.tmp 2) (.const .nilIface) .nilIface .nilIface;binOp .neq 20 .nilIface .nilIface:Sem Value).aG Tryz.prog w=.ok (.bool false) w:=by kernel_rfl
 simp only[execOp,D.JM,h,d];rw[Sem.rV,e];rfl
theorem amo{Q:Exit→Act→World→Prop}(i:a.eval (.tmp x)=u)(j:a.eval (.tmp y)=v)(l:a.tmps.size=n)(m:∀c,er w c→Q .normal ⟨(a.put (some z) (.func (.func g) #[] #[u,v])).tmps,rE g u v::a.defers⟩ c):(Code.region 1 (dU f [true,false]) false).ef Tryz.prog Q a w:=by
 intro b k cs h d e;refine dr.ctl rfl d.2 (fun _=>stepG_region) ?_;rw[D.Jt];refine(OJ D.NA (HK D.g0 _) (Q:=Q) ?_) b k cs h d e;intro c o;have p:(execOp a.eval (iD (dU f [true,false]) 0)).aG Tryz.prog c=.ok (.value (.func (.func g) #[] #[u,v])) c:=by
  rw[←i,←j];simp[execOp,D.Ar,Instr.makeFunc]
 refine⟨.value _,c,p,fun _=>⟨eV.refl _,?_⟩⟩;rw[D.d0];intro b k cs h d e;have q:(a.put (some z) (.func (.func g) #[] #[u,v])).eval (.tmp z)=.func (.func g) #[] #[u,v]:=fJ (by rw[l];exact D.hz);refine dr.ctl rfl d.2 (fun r=>step_defer D d.1 q _) (dr.ctl rfl d.2 (fun _=>stepG_region_end) ?_);exact e .normal _ _ (m c o)
theorem Vz(T:Array Value)(w:World):(results oc T).run Tryz.prog w=.ok (.tuple #[]) w∧(results oc T).events Tryz.prog w #[]=#[]:=
 ⟨by simp[results,D.GN],by simp[results,D.GN]⟩
end
theorem VA{β:aE}{o:List ah}{b:Nat}{x:af}{p:Value}(A:aL bB β o w)(B:o[b]? =some ⟨.gen [x],.own⟩)(C:aC β (.ptr b (.c 0)) p):
 ∃c u,p=.pointer (some (at' c 0))∧aC β x u∧gm (at' c 0) false∧∀j,er w j→j.cell? (at' c 0)=some u:=by
 obtain⟨l,E,rfl⟩:=C.sd;rcases A.blk b _ B (eu rfl)with⟨M,d,F⟩|⟨H,_⟩
 case inr=>exact absurd H (by simp[aA.Data.len])
 rw[E]at d;injection d with d;subst d;obtain⟨I,e,vs,t,bu,J,N,O,bf,m⟩:=F;have m:aJ β [x] (vs.take 1):=m;obtain⟨u,q,K⟩:=m.get (i:=0) (x:=x) rfl;have L:vs[0]? =some u:=by
  rw[lP]at q;simpa using q
 have e:oK l.c:=e;have s:gm (at' l.c 0) false:=⟨rfl,.inl ⟨e.1,fun h=>absurd h e.2⟩⟩;refine⟨l.c,u,by rw[I];rfl,K,s,fun j r=>r.cell s ?_⟩;simp[World.cell?,J,L]
theorem isAgg22:nk Tryz.prog 22=some false∧nk Tryz.prog 4=some false:=⟨by kernel_rfl,by kernel_rfl⟩
theorem amq{fn:Func}{x y:Nat}(e:fn.results=#[.cell x 22,.cell y 4]){T:Array Value}{c d:Nat}(h:T.getD x undef=.pointer (some (at' c 0)))(i:T.getD y undef=.pointer (some (at' d 0)))(j:w.cell? (at' c 0)=some u)(l:gm (at' c 0) false)(o:w.cell? (at' d 0)=some v)(p:gm (at' d 0) false):
 (results fn T).aG Tryz.prog w=.ok (.tuple #[u,v]) w:=by
 have q:(asAddr (.pointer (some (at' c 0)))).aG Tryz.prog w=.ok (at' c 0) w:=rfl;have r:(asAddr (.pointer (some (at' d 0)))).aG Tryz.prog w=.ok (at' d 0) w:=rfl;have s:(loadVar 22 (at' c 0)).aG Tryz.prog w=.ok u w:=by simp[loadVar,vu isAgg22.1 w,B7 Tryz.prog w j l]
 have t:(loadVar 4 (at' d 0)).aG Tryz.prog w=.ok v w:=by simp[loadVar,vu isAgg22.2 w,B7 Tryz.prog w o p]
 rw[JO,Oi (m:=Sem)];simp[e,CR,h,i,q,r,s,t]
theorem VB [oU]{spec:FuncId→Option aA.Spec}(d:∀f c,spec f=some c→br f c)(f:Nat)(p:List Bool){m:Nat}(e:codeOk Tryz.prog (bN Tryz.prog f) (dyn f) m (sub p (cR Tryz.prog f))=true):
 dc Tryz.prog bB (aj f) (bN Tryz.prog f) (sub p (cR Tryz.prog f)) (qa spec aQ f p):=
 afU (C:=de spec aQ) rfl (F1 (C:=de spec aQ) rfl vL mixed (C3 spec aQ) bq.plain (cK _) (fun f c h args S v i j=>CU (d f c h) args S v i j) 100000 20) vL mixed (fun _=>rfl) 100000 p e
end
end Go.Proofs.YtcminalaicidiaaGreatDoor
end

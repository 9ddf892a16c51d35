/- Part of FnArgon2. No condition. -/
import Derived.Test.YtcminalaicidiaaGreatDoorWD
set_option maxRecDepth 100000
set_option maxHeartbeats 8000000
set_option linter.all false
def an7:=@Nat.add_sub_cancel
def Ws:=@Nat.div_mul_le_self
def an8:=@Nat.eq_of_mul_eq_mul_left
def Wq:=@Nat.min_zero
def Ib:=@Nat.mul_add_div
def uJ:=@Nat.mul_div_cancel_left
def Wr:=@Nat.sub_self
noncomputable section
namespace Go.Proofs.YtcminalaicidiaaGreatDoor
section
open Go Go.ay Conc Conc.Lib RowKit
open Classical in
def sM(m:Int)(mem tm n sl k:BitVec 32):U 64:=if dG m n sl then jC m mem tm n sl k else dc
open Classical in
def pq(m:Int)(mem tm n sl k:BitVec 32):U 64:=if n=0#32∧sl=0#32∧dG m n sl then dy (sM m mem tm n sl k)else sM m mem tm n sl k
open Classical in
def rm(m:Int)(mem tm n sl k:BitVec 32):U 64:=if n=0#32∧sl=0#32∧dG m n sl then eH bz (dy (sM m mem tm n sl k)) dc else dc
open Classical in
def lE(n sl:BitVec 32):BitVec 32:=if n=0#32∧sl=0#32 then 2#32 else 0#32
section
variable [aR][aG][bl]
variable(f:cx)(X:U 64)(M:Nat)(m:Int)(mem tm Q P p n sl k:BitVec 32)(R:Value)
def ah0:∃c d cs,eu 8 d (jk n sl k R .aa,iQ f X M m mem tm Q P p dc (sM m mem tm n sl k)) (hY (fL bz) aU 44 yA (uf n sl k R .aa .aa .aa .aa) ⟨sK f X M m mem tm Q P p,bQ,c,[]⟩)=
 some (.normal,(jk n sl k R (.atom .aa),iQ f X M m mem tm Q P p dc (sM m mem tm n sl k)),cs)∧∀e∈cs,e=true:=by
 unfold sM;by_cases h1:m=1
 ·rw[ax (show dG m n sl from .inl h1)];refine⟨_,_,_,ahG bz f X M m mem tm Q P p n sl k R,?_⟩
  repeat'(refine aA ?_ ?_)
  all_goals first|exact aX|rfl|simp[h1]
 by_cases h2:m=2
 ·by_cases a:n=0#32
  ·by_cases b:sl.toNat<2
   ·rw[ax (show dG m n sl from .inr ⟨h2,a,by simpa[BitVec.ult]using b⟩)];refine⟨_,_,_,ahH bz f X M m mem tm Q P p n sl k R,?_⟩
    repeat'(refine aA ?_ ?_)
    all_goals first|exact aX|rfl|simp[h2,a,b]
   ·rw[ak (show¬dG m n sl from fun h=>h.elim h1 fun h=>b (by simpa[BitVec.ult]using h.2.2))];refine⟨_,_,_,ahK bz f X M m mem tm Q P p n sl k R,?_⟩
    repeat'(refine aA ?_ ?_)
    all_goals first|exact aX|rfl|(simp[h2,a,b];done)|(simp;omega)
  ·rw[ak (show¬dG m n sl from fun h=>h.elim h1 fun h=>a h.2.1)];refine⟨_,_,_,ahJ bz f X M m mem tm Q P p n sl k R,?_⟩
   repeat'(refine aA ?_ ?_)
   all_goals first|exact aX|rfl|simp[h2,a]
 ·rw[ak (show¬dG m n sl from fun h=>h.elim h1 fun h=>h2 h.1)];refine⟨_,_,_,ahI bz f X M m mem tm Q P p n sl k R,?_⟩
  repeat'(refine aA ?_ ?_)
  all_goals first|exact aX|rfl|simp[h1,h2]
def ah1:∃e g cs,eu 11 g (jk n sl k R (.aF (lE n sl)),iQ f X M m mem tm Q P p (rm m mem tm n sl k) (pq m mem tm n sl k)) (hY (fL bz) aU 44 yB (jk n sl k R .aa) ⟨iQ f X M m mem tm Q P p dc (sM m mem tm n sl k),bQ,e,[]⟩)=
 some (.normal,(jk n sl k R (.num (.aF (lE n sl))),iQ f X M m mem tm Q P p (rm m mem tm n sl k) (pq m mem tm n sl k)),cs)∧∀i∈cs,i=true:=by
 unfold lE rm pq;generalize sM m mem tm n sl k=c;by_cases a:n=0#32
 ·by_cases b:sl=0#32
  ·have d:BitVec.ult sl 2#32=true:=by rw[b];decide
   by_cases h1:m=1
   ·rw[ax ⟨a,b⟩,ax ⟨a,b,.inl h1⟩,ax ⟨a,b,.inl h1⟩];refine⟨_,_,_,ahN bz f X c M m mem tm Q P p n sl k R,?_⟩
    repeat'(refine aA ?_ ?_)
    all_goals first|exact aX|rfl|simp[h1,a,b]
   by_cases h2:m=2
   ·rw[ax ⟨a,b⟩,ax ⟨a,b,.inr ⟨h2,a,d⟩⟩,ax ⟨a,b,.inr ⟨h2,a,d⟩⟩];refine⟨_,_,_,ahO bz f X c M m mem tm Q P p n sl k R,?_⟩
    repeat'(refine aA ?_ ?_)
    all_goals first|exact aX|rfl|simp[h2,a,b]
   ·have hi:¬(n=0#32∧sl=0#32∧dG m n sl):=fun h=>h.2.2.elim h1 fun h=>h2 h.1;rw[ax ⟨a,b⟩,ak hi,ak hi];refine⟨_,_,_,ahP bz f X c M m mem tm Q P p n sl k R,?_⟩
    repeat'(refine aA ?_ ?_)
    all_goals first|exact aX|rfl|simp[h1,h2,a,b]
  ·rw[ak (fun h=>b h.2),ak (fun h=>b h.2.1),ak (fun h=>b h.2.1)];refine⟨_,_,_,ahM bz f X c M m mem tm Q P p n sl k R,?_⟩
   repeat'(refine aA ?_ ?_)
   all_goals first|exact aX|rfl|simp[a,b]
 ·rw[ak (fun h=>a h.1),ak (fun h=>a h.1),ak (fun h=>a h.1)];refine⟨_,_,_,ahL bz f X c M m mem tm Q P p n sl k R,?_⟩
  repeat'(refine aA ?_ ?_)
  all_goals first|exact aX|rfl|simp[a]
def ah2(spec:FuncId→Option ay.Spec):c6 (dh spec AO) bB:=by
 have b:(cI Tryz.prog 44).length=1:=by kernel_rfl
 refine c6.of fun f=>?_;by_cases a:f=44
 ·subst a;refine .inr ⟨by kernel_rfl,fun i hi g c=>?_⟩;have hi:i<(cI Tryz.prog 44).length:=hi;rw[b]at hi;have d:i=0:=by omega
  subst d;have e:(bY (bh Tryz.prog 44 0)).bind (AO 44)=some LM:=by kernel_rfl
  obtain rfl:=dV (e.symm.trans c);exact ahF
 ·refine .inl fun r=>?_
  show AO f r=none;unfold AO;split
  ·exact absurd rfl a
  ·rfl
def d2:l5:=d44 f X (rm m mem tm n sl k) (pq m mem tm n sl k) M m mem tm Q P p n sl k (lE n sl) R
def ah3(c:Dk f M Q P p n sl k)(d:X.n=M*128)(h2:2≤P.toNat):∃e g cs,eu 11 g (yC (k4 (d2 f X M m mem tm Q P p n sl k R)).f (k4 (d2 f X M m mem tm Q P p n sl k R)).X (k4 (d2 f X M m mem tm Q P p n sl k R)).kz) (hY (fL bz) AO 44 LN (jk n sl k R (.aF (lE n sl))) ⟨iQ f X M m mem tm Q P p (rm m mem tm n sl k) (pq m mem tm n sl k),bQ,e,[]⟩)=
 some (.normal,yC (k4 (d2 f X M m mem tm Q P p n sl k R)).f (k4 (d2 f X M m mem tm Q P p n sl k R)).X (k4 (d2 f X M m mem tm Q P p n sl k R)).kz,cs)∧∀h∈cs,h=true:=by
 refine⟨_,_,_,Fw f X (rm m mem tm n sl k) (pq m mem tm n sl k) M m mem tm Q P p n sl k (lE n sl) R,aA ?_ aX⟩;unfold LK;refine@bu _ (Classical.propDecidable _) ⟨c,rfl,d,?_,fun a b=>?_⟩
 ·show(lE n sl).toNat≤P.toNat
  unfold lE;split
  ·exact h2
  ·exact j0 _
 ·show lE n sl≠0#32;unfold lE;have a:n=0#32:=a;have b:sl=0#32:=b;rw[ax ⟨a,b⟩];decide
end
def Ti [aR][aG][bl](d:l5):(k4 d).f=d.f∧(k4 d).kz=d.kz∧(k4 d).X.n=d.X.n:=by
 unfold k4;generalize d.aB.toNat-d.ix.toNat=r;have g:∀r (d:l5),(iter (dH bz) r d).f=d.f∧(iter (dH bz) r d).kz=d.kz∧(iter (dH bz) r d).X.n=d.X.n:=by
  intro r
  induction r with
  |zero=>exact fun d=>⟨rfl,rfl,rfl⟩|succ r i=>
   intro d;obtain⟨f,X,ad,a,z,M,m,mem,tm,Q,P,p,n,sl,k,b,c,R⟩:=d;have h:=i (dH bz ⟨f,X,ad,a,z,M,m,mem,tm,Q,P,p,n,sl,k,b,c,R⟩);have e:(dH bz ⟨f,X,ad,a,z,M,m,mem,tm,Q,P,p,n,sl,k,b,c,R⟩).f=f∧(dH bz ⟨f,X,ad,a,z,M,m,mem,tm,Q,P,p,n,sl,k,b,c,R⟩).kz=R∧(dH bz ⟨f,X,ad,a,z,M,m,mem,tm,Q,P,p,n,sl,k,b,c,R⟩).X.n=X.n:=by
    refine⟨rfl,rfl,?_⟩;dsimp only[dH];exact Ta f X _ _ _
   exact⟨h.1.trans e.1,h.2.1.trans e.2.1,h.2.2.trans e.2.2⟩
 exact g r d
end
section
open Go Go.ay Conc Conc.Lib RowKit
open Go.ConcR (KK WgAt stA smA rd wr mk DC0 wgBlock)
variable [aR]
variable{β:aE}{w:World}
def Tj [aG]{an bE:Nat}{args:List af}{us:List Value}(c:aK β args us)(g:us.length≤bE):
 cK an bE β ⟨args++List.replicate (an-args.length) .aa,[]⟩ {tmps:=(⟨us⟩:Array Value)++Array.replicate (bE-us.length) undef,defers:=[]}:=by
 refine⟨fun t=>?_,?_,rfl⟩
 ·simp only[aJ.get];cases h:Nat.blt t an with
  |false=>exact .aa _|true=>
   simp only[cg];rcases cu t args.length with a|a
   ·have d:t<us.length:=by rw[←c.1];exact a
    rw[gV a,bX a];simp only;have e:((⟨us⟩:Array Value)++Array.replicate (bE-us.length) undef).getD t undef=us[t]:=by
     simp[gX,N0,d]
    rw[e];exact c.2 t _ _ (bX a) (bX d)
   ·rw[gL a];split
    ·rename_i i b;rw[mz]at b;split at b
     ·injection b with b;subst b;exact .aa _
     ·cases b
    ·exact .aa _
 ·simp;omega
def ah4(d:l5)(v:Value):dH bz {d with kz:=v}={dH bz d with kz:=v}:=by
 obtain⟨f,X,ad,a,z,M,m,mem,tm,R,Q,p,n,sl,k,b,c,e⟩:=d;dsimp only[dH]
def Tk(v:Value):∀r (d:l5),(iter (dH bz) r {d with kz:=v}).X=(iter (dH bz) r d).X
 |0,d=>rfl|r+1,d=>by
  show(iter (dH bz) r (dH bz {d with kz:=v})).X=(iter (dH bz) r (dH bz d)).X;rw[ah4];exact Tk v r _
def lF(f:cx)(X:U 64)(M:Nat)(m:Int)(mem tm R Q p n sl k:BitVec 32):U 64:=(k4 (d2 f X M m mem tm R Q p n sl k undef)).X
def ah5(f:cx)(X:U 64)(M:Nat)(m:Int)(mem tm R Q p n sl k:BitVec 32)(a:Value):(k4 (d2 f X M m mem tm R Q p n sl k a)).X=lF f X M m mem tm R Q p n sl k:=
 Tk a (Q.toNat-(lE n sl).toNat) (d2 f X M m mem tm R Q p n sl k undef)
def wD(n0 P b:Nat):Nat:=match b with|0=>P|1=>n0+4|2=>n0+2|3=>n0+1|4=>n0+5|5=>n0+6|6=>n0|_=>n0+3
def pz(n0 P room:Nat):aE:=fun b=>if b<8 then some ⟨wD n0 P b,0,if b=0 then room else 1⟩else none
def AS{n0 P room b:Nat}{a:ay.Loc}(h:pz n0 P room b=some a):b<8∧a.c=wD n0 P b:=by
 unfold pz at h;split at h
 ·rename_i d;cases h;exact⟨d,rfl⟩
 ·cases h
def Tl(c:Machine)(a:World)(P:Nat):Prop:=∀g l,bB g=some l→gZ g<a.heap.size∧gZ g≠P∧¬mQ Tryz.prog c 33 (gZ g)∧∀(i:Nat) b,l[i]? =some b→∃v,a.cell? (gz g i)=some v∧b5 b v
section
variable{S:dm}{k n0 P room c5:Nat}{f:cx}{X:U 64}{M:Nat}{m:Int}{mem tm R Q p n sl T:BitVec 32}
def yD{c:Nat}{v:Value}{t:TypeId}{b:af}(d:w.heap[c]? =some (.cells #[v] t))(e:S.mM c)(g:c≠S.bN)(h:@aC _ β b v):@hH _ (S.co k f) β ⟨.gen [b],.ro⟩ ⟨c,0,1⟩ w:=by
 letI:=S.co k f;refine⟨(dX.1 d).1,by simp[Data.len],fun i j a=>?_⟩;cases i with
 |zero=>
  simp[Data.at]at a;subst a;exact⟨v,by simp[World.cell?,at',d],h,rfl,.inr ⟨rfl,e,g⟩⟩
 |succ i=>simp[Data.at]at a
def ah6(W:S.bN=P)(al:X.n=M*128)(Y:M≤c5)(Z:c5*128≤room)(aa:∃x,AP room X x∧w.heap[P]? =some x)(E:P<n0)(r:∀i,i<7→S.mM (n0+i))
 (o:∀i x,(boxes (some ⟨P,0,none⟩) M c5 (tm.toNat:Int) (mem.toNat:Int) (p.toNat:Int) m (R.toNat:Int) (Q.toNat:Int))[i]? =some x→w.heap[n0+i]? =some x)
 (F:∀g l,bB g=some l→gZ g<n0∧gZ g≠P∧S.mM (gZ g)∧∀(i:Nat) y,l[i]? =some y→∃v,w.cell? (gz g i)=some v∧b5 y v):
 @aM _ (S.co k f) bB (pz n0 P room) (sK f X M m mem tm R Q p) w:=by
 letI:=S.co k f;have H:∀b,b<8→pz n0 P room b=some ⟨wD n0 P b,0,if b=0 then room else 1⟩:=fun b E=>by unfold pz;rw[ax E]
 have j:∀i,n0+i≠S.bN:=fun i=>by omega
 have am:n0+6<w.heap.size:=(dX.1 (o 6 _ rfl)).1;refine⟨fun b q c _=>.inl ?_,fun b A q an I ao j c ap J _ z K=>?_,fun b I z=>(AS z).1,fun g l B=>?_,fun b q I c J z g l B=>?_⟩
 ·have L:b<8:=(dW.1 c).1;refine⟨_,H b L,?_⟩
  match b,L,c with
  |0,_,c=>
   have e:some (ah.mk (.lim f X) .own)=some q:=c;injection e with e;subst e;obtain⟨x,⟨vs,t,bx,rfl,ab,C,ad,ae⟩,ag⟩:=aa;refine⟨rfl,⟨.inl W.symm,rfl⟩,vs.toList,t,bx,(by show w.heap[P]? =_;rw[ag]),by simpa using ab,by simpa using C,ad,?_⟩;refine⟨by rw[pM,Ef];simp[Data.list,Data.len,X.h];omega,fun i y v D u=>?_⟩;have N:(X.l.map af.av)[i]? =some y:=D;rw[ef,bT]at N;obtain⟨a,O,rfl⟩:=N;have hi:i<X.n:=by have:=(dW.1 O).1;rwa[X.h]at this
   rw[lM]at u;split at u
   ·have h3:=ae i hi;rw[show vs.toList[i]? =vs[i]? from by simp]at u;rw[u]at h3;unfold k5 at h3;rw[O]at h3;injection h3 with h3;subst h3;exact .num (.av a)
   ·cases u
  |1,_,c=>
   have e:some (ah.mk (.gen [.num (.int .i64 (.s m))]) .ro)=some q:=c;injection e with e;subst e;exact yD (o 4 _ rfl) (r 4 (by decide)) (j 4) (.num (.int .i64 (.s m)))
  |2,_,c=>
   have e:some (ah.mk (.gen [.num (.aF mem)]) .ro)=some q:=c;injection e with e;subst e;exact yD (o 2 _ rfl) (r 2 (by decide)) (j 2) (.num (.aF mem))
  |3,_,c=>
   have e:some (ah.mk (.gen [.num (.aF tm)]) .ro)=some q:=c;injection e with e;subst e;exact yD (o 1 _ rfl) (r 1 (by decide)) (j 1) (.num (.aF tm))
  |4,_,c=>
   have e:some (ah.mk (.gen [.num (.aF R)]) .ro)=some q:=c;injection e with e;subst e;exact yD (o 5 _ rfl) (r 5 (by decide)) (j 5) (.num (.aF R))
  |5,_,c=>
   have e:some (ah.mk (.gen [.num (.aF Q)]) .ro)=some q:=c;injection e with e;subst e;exact yD (o 6 _ rfl) (r 6 (by decide)) (j 6) (.num (.aF Q))
  |6,_,c=>
   have e:some (ah.mk (.gen [.ref (.sm 0 (.s M) 128)]) .ro)=some q:=c;injection e with e;subst e;exact yD (o 0 _ rfl) (r 0 (by decide)) (j 0) (.sm 0 (.s M) 128 _ c5 Y (.inr ⟨_,H 0 (by decide),rfl,Z⟩))
  |7,_,c=>
   have e:some (ah.mk (.gen [.num (.aF p)]) .ro)=some q:=c;injection e with e;subst e;exact yD (o 3 _ rfl) (r 3 (by decide)) (j 3) (.num (.aF p))
 ·rw[(AS z).2,(AS K).2];have h1:=(AS z).1;have h2:=(AS K).1
  match b,h1,A,h2 with
  |0,_,0,_=>exact absurd rfl j|0,_,A+1,_=>
   show P≠wD n0 P (A+1);unfold wD;split<;>omega
  |b+1,h1,_,_=>
   have no:∀{d:ay.Data},(some (ah.mk d .ro)=some q)→False:=fun e=>by injection e with e;subst e;cases J
   match b,h1,c with
   |0,_,c=>exact(no c).elim|1,_,c=>exact(no c).elim|2,_,c=>exact(no c).elim|3,_,c=>exact(no c).elim|4,_,c=>exact(no c).elim|5,_,c=>exact(no c).elim|6,_,c=>exact(no c).elim
 ·obtain⟨ai,aj,V,bf⟩:=F g l B;refine⟨by omega,fun i y D=>?_⟩;obtain⟨v,u,C⟩:=bf i y D;obtain⟨aq,ak⟩:=r6 g;refine⟨v,u,aC.oU C,?_⟩;rw[ak];exact⟨rfl,.inr ⟨rfl,V,by show gZ g≠S.bN;omega⟩⟩
 ·obtain⟨ai,aj,V,bf⟩:=F g l B;rw[(AS z).2];unfold wD;split<;>omega
end
end
section
open Go.ay
variable [aR][aG][bl]
def Tm:dc=je:=by kernel_rfl
def ah7(m:Int)(mem tm n sl k:BitVec 32):dy (jC m mem tm n sl k)=U.of ([n.setWidth 64,k.setWidth 64,sl.setWidth 64,mem.setWidth 64,tm.setWidth 64,BitVec.ofInt 64 m,1#64]++List.replicate 121 0#64):=by kernel_rfl
def ah8(a b c co d e sl pl:Int):(Dc a b c co d e sl pl).n=128:=by kernel_rfl
def Dm{b:BitVec 32}{N:Nat}(h:b.toNat=N):(b.setWidth 64:BitVec 64)=BitVec.ofInt 64 (N:Int):=by
 apply mo;have:=b.isLt;rw[kH,uD,g7,h]
def ah9{m:Int}{mem tm n sl k:BitVec 32}{P q T N a b au:Nat}(em:mem.toNat=4*P*q)(c:tm.toNat=T)(d:n.toNat=N)(e:sl.toNat=a)(f:k.toNat=b)(bU:au<128):
 eH bz (dy (jC m mem tm n sl k)) dc=q9 bz m T P ((4*q:Nat):Int) N b a au:=by
 have g:dy (jC m mem tm n sl k)=Dc m T P ((4*q:Nat):Int) N b a au:=by
  rw[ah7];unfold Dc;have h:(au:Int).tdiv 128+1=1:=by rw[pK (by omega)];omega
  have i:(P:Int)*((4*q:Nat):Int)=((4*P*q:Nat):Int):=by rw[←Bu,Nat.mul_left_comm,iV]
  rw[Dm d,Dm e,Dm f,Dm em,Dm c,h,i];rfl
 unfold eH q9;rw[g,o8 (ah8 ..),Tm,o8 (show je.n=128 from ni),SG _ je,SG (Dc _ _ _ _ _ _ _ _) je]
theorem LS(r:Nat→U 64)(l:Nat)(X:U 64):upd r l X l=X:=by unfold upd;rw[Nat.beq_refl]
theorem LU(r:Nat→U 64){i l:Nat}(X:U 64)(h:i≠l):upd r l X i=r i:=by
 have:Nat.beq i l=false:=by
  cases a:Nat.beq i l
  ·rfl
  ·exact absurd (qz a) h
 unfold upd;rw[this]
structure sN(P q N s ek au:Nat)(X:U 64)(r:Nat→U 64):Prop where
 n:X.n=P*(4*q*128)
 yE:∀l,l<P→(r l).n=4*q*128
 rq:∀l j,l<P→j<4*q*128→(l=ek∨j/128/q≠s)→aL X (l*(4*q*128)+j)=aL (r l) j
 Tn:N=0→∀j,(s*q+au)*128≤j→j<4*q*128→aL X (ek*(4*q*128)+j)=0#64
theorem LV{l ek j c a:Nat}(h:l≠ek)(b:j<a)(d:c+128≤a):¬(ek*a+c≤l*a+j∧l*a+j<ek*a+c+128):=by
 rcases Nat.lt_or_gt_of_ne h with h|h
 ·have:(l+1)*a≤ek*a:=fP _ h;rw[jL]at this;omega
 ·have:(ek+1)*a≤l*a:=fP _ h;rw[jL]at this;omega
section
variable{P q N s ek au:Nat}{X:U 64}{r:Nat→U 64}(h:sN P q N s ek au X r)
include h
theorem LW{b:BitVec 32}{a C:Nat}(d:b.toNat=a*(4*q)+C)(e:a<P)(j:C<4*q)(f:a=ek∨C/q≠s):rowAt X (aS b)=rowAt (r a) (C*128):=by
 refine vU ((ww _ _).trans (ww _ _).symm) fun w c=>?_;have c:w<128:=by rw[ww]at c;exact c
 rw[q6 _ _ c,q6 _ _ c,qd,d];have g:(a*(4*q)+C)*128+w=a*(4*q*128)+(C*128+w):=by rw[Bj,iV];omega
 rw[g];refine h.rq a _ e (by omega) (f.imp id fun i=>?_);rw[show(C*128+w)/128=C by omega];exact i
theorem aia{f:cx}{e i k:BitVec 32}{p m C:Nat}{t:U 64}(w:ek<P)(Q:s<4)(bU:au<q)(z:e.toNat=ek*(4*q)+(s*q+au))
 (A:i.toNat=ek*(4*q)+p) (B:p<4*q) (hi:k.toNat=m*(4*q)+C) (D:m<P) (E:C<4*q) (F:m=ek∨C/q≠s) (H:t.n=(r ek).n)
 (I:∀a,aL t a=if(s*q+au)*128≤a∧a<(s*q+au)*128+128 then(if N=0 then 0#64 else aL (r ek) a)^^^aL (bz (rowAt (r ek) (p*128)) (rowAt (r m) (C*128))) (a-(s*q+au)*128)else aL (r ek) a):
 sN P q N s ek (au+1) (fo f X (aS e) (aS i) (aS k)) (upd r ek t):=by
 have R:s*q≤3*q:=fP _ (by omega);generalize J:s*q+au=b at *;have S:b<4*q:=by omega
 have x:aS e=ek*(4*q*128)+b*128:=by rw[qd,z,Bj,iV]
 have K:(ek+1)*(4*q*128)≤P*(4*q*128):=fP _ w;rw[jL]at K;have L:=h.n;obtain⟨y,o⟩:=SF f X (aS e) (aS i) (aS k) (by rw[x];omega) (by rw[qd];omega) (by rw[qd];omega) (by rw[qd];omega);generalize fo f X (aS e) (aS i) (aS k)=T at y o⊢;rw[LW h A w B (.inl rfl),LW h hi D E F,x]at o;refine⟨y.trans L,fun l d=>?_,fun l j d g u=>?_,fun M j V O=>?_⟩
 ·by_cases c:l=ek
  ·subst c;rw[LS];exact H.trans (h.yE l d)
  ·rw[LU _ _ c];exact h.yE l d
 ·rw[o];by_cases c:l=ek
  ·subst c;rw[LS,I j];by_cases v:b*128≤j∧j<b*128+128
   ·rw[ax (by omega),ax v,show l*(4*q*128)+j-(l*(4*q*128)+b*128)=j-b*128 by omega];congr 1;by_cases c7:N=0
    ·rw[ax c7];exact h.Tn c7 j (by rw[J];exact v.1) g
    ·rw[ak c7];exact h.rq l j d g u
   ·rw[ak (by omega),ak v];exact h.rq l j d g u
  ·rw[LU _ _ c,ak (LV c g (by omega))];exact h.rq l j d g u
 ·rw[o,ak (by omega)];exact h.Tn M j (by omega) O
end
theorem To{m:Int}{n sl:BitVec 32}{N Q:Nat}(B:n.toNat=N)(Y:sl.toNat=Q):dG m n sl↔Gr m N Q:=by
 unfold dG Gr;have h1:n=0#32↔(N:Int)=0:=by rw[gT];omega
 have h2:BitVec.ult sl 2#32=true↔(Q:Int)<2:=by
  unfold BitVec.ult;rw[decide_eq_true_iff,Y]
  show Q<2↔_;omega
 rw[h1,h2]
section
variable{f:cx}{X ad Z:U 64}{M:Nat}{m:Int}{mem tm V C p n sl k S W:BitVec 32}{kz:Value}{P q T N Q R au:Nat}{r:Nat→U 64}{nn:Nat→Nat}
variable(K:1≤P)(F:P≤8)(D:R<P)(H:Q<4)(L:2≤q)(O:q≤64)(em:mem.toNat=4*P*q)(o:tm.toNat=T)
variable(A:V.toNat=4*q)(E:C.toNat=q)(I:p.toNat=P)(B:n.toNat=N)(Y:sl.toNat=Q)(J:k.toNat=R)
include K F D H L O em o A E I B Y J
theorem aib(s:S.toNat=au)(bU:au<q)(b:W.toNat=R*(4*q)+(Q*q+au)):∃a,a<4*q∧(ey V sl S W).toNat=R*(4*q)+a∧wz ((4*q:Nat):Int) (cJ Q q au)=(a:Int):=by
 have t:Q*q≤3*q:=fP _ (by omega);have i:Q≠0→1*q≤Q*q:=fun h=>fP _ (by omega);have j:R*(4*q)≤8*256:=w6 (by omega) (by omega);have d:(1#32).toNat=1:=rfl;have l:cJ Q q au=((Q*q+au:Nat):Int):=by unfold cJ;rw[←Bu];omega
 unfold ey wz;rw[l,oB (by omega)];by_cases c:au=0∧Q=0
 ·obtain⟨e,g⟩:=c;refine⟨4*q-1,by omega,?_,?_⟩
  ·rw[ax ⟨gT.2 (by omega),gT.2 (by omega)⟩,eB,kG,d,b,A,e,g,wZ];omega
  ·rw[e,g,wZ,VR (by omega) (by omega)];omega
 ·have h1:1≤Q*q+au:=by
   by_cases cs:Q=0
   ·omega
   ·have:=i cs;omega
  have h4:Q*q+au<4*q:=by omega
  refine⟨Q*q+au-1,by omega,?_,?_⟩
  ·rw[ak (fun h=>c ⟨by have:=gT.1 h.1;omega,by have:=gT.1 h.2;omega⟩),kG,d,b];generalize Q*q+au=z at h1 h4⊢;generalize R*(4*q)=u at j⊢;omega
  ·generalize Q*q+au=z at h1 h4⊢;rw[show(z:Int)+((4*q:Nat):Int)-1=((z-1:Nat):Int)+((4*q:Nat):Int) by omega,VU,VR (by omega) (by omega)]
theorem aic(i:S.toNat=au)(bU:au<q)(v:W.toNat=R*(4*q)+(Q*q+au))(y:N=0→Q=0→2≤au)(j:sN P q N Q R au X r)
 (hi:dG m n sl→au=0→Z=jC m mem tm n sl k) (z:dG m n sl→au≠0→ad=eH bz (dy (jC m mem tm n sl k)) dc):
 ∃aa g ab ar,dH bz ⟨f,X,ad,Z,dc,M,m,mem,tm,V,C,p,n,sl,k,S,W,kz⟩=⟨f,aa,ab,ar,dc,M,m,mem,tm,V,C,p,n,sl,k,S+1#32,W+1#32,kz⟩∧
  ic P R ⟨m,T,((4*q:Nat):Int),N,Q,q,au,nn,r⟩=⟨m,T,((4*q:Nat):Int),N,Q,q,((au+1:Nat):Int),nn,g⟩∧sN P q N Q R (au+1) aa g∧((∀l,l≠R→g l=r l)∧∀a,a/128/q≠Q→aL (g R) a=aL (r R) a)∧(dG m n sl→ab=eH bz (dy (jC m mem tm n sl k)) dc):=by
 obtain⟨ae,af,ag,av⟩:=aib K F D H L O em o A E I B Y J i bU v;have aT:Q*q≤3*q:=fP _ (by omega);have aw:Q≠0→1*q≤Q*q:=fun h=>fP _ (by omega);have ah:cJ Q q au=((Q*q+au:Nat):Int):=by unfold cJ;rw[←Bu];omega
 have ai:dM (cJ Q q au)=(Q*q+au)*128:=by rw[ah,GC,eA]
 have aj:lD (r R) ((4*q:Nat):Int) (cJ Q q au)=rowAt (r R) (ae*128):=by unfold lD;rw[av,GC,eA]
 have ay:rowAt X (aS (ey V sl S W))=rowAt (r R) (ae*128):=LW j ag D af (.inl rfl);have az:(if dG m n sl then gI (if S=0#32 then eH bz (dy Z) dc else ad) S else fY X (ey V sl S W))=c9 m T P ((4*q:Nat):Int) N R Q au (lD (r R) ((4*q:Nat):Int) (cJ Q q au)):=by
  unfold c9 Dd;by_cases c:dG m n sl
  ·rw[ax c,ax ((To B Y).1 c)];have aA:(if S=0#32 then eH bz (dy Z) dc else ad)=q9 bz m T P ((4*q:Nat):Int) N R Q au:=by
    rw[←ah9 em o B Y J (by omega)];by_cases b:au=0
    ·rw[ax (gT.2 (by omega)),hi c b]
    ·rw[ak (fun h=>b (by have:=gT.1 h;omega)),z c b]
   rw[aA];unfold gI AH;congr 1;have aC:(S%128#32).toNat=au:=by
    rw[oy,i,show(128#32).toNat=128 from rfl];omega
   rw[aC,oB (by omega)];omega
  ·rw[ak c,ak (fun h=>c ((To B Y).2 h)),aj,←ay]
   show X.l.getD (aS (ey V sl S W)+0) 0#64=_;exact(q6 X (aS (ey V sl S W)) (by omega:0<128)).symm
 have s:dH bz ⟨f,X,ad,Z,dc,M,m,mem,tm,V,C,p,n,sl,k,S,W,kz⟩=⟨f,fo f X (aS W) (aS (ey V sl S W)) (aS (cq (if dG m n sl then gI (if S=0#32 then eH bz (dy Z) dc else ad) S else fY X (ey V sl S W)) V C p n sl k S)),(if dG m n sl∧S=0#32 then eH bz (dy Z) dc else ad),(if dG m n sl∧S=0#32 then dy Z else Z),dc,M,m,mem,tm,V,C,p,n,sl,k,S+1#32,W+1#32,kz⟩:=rfl;rw[az]at s;obtain⟨aD,aE,aF,d⟩:=ahp P R m T ((4*q:Nat):Int) N Q q au nn r (by rw[ai,j.yE R D];omega) (by
  rintro⟨aH,al⟩;rw[ah]at al;by_cases cs:Q=0
  ·have:=y (by omega) cs;omega
  ·have:=aw cs;omega)
 rw[aj,ai]at d;have aI:gS P R m T ((4*q:Nat):Int) N Q q au r=(jV (c9 m T P ((4*q:Nat):Int) N R Q au (lD (r R) ((4*q:Nat):Int) (cJ Q q au))) P N R Q).toNat:=rfl;have aJ:Dh c9 P R m T ((4*q:Nat):Int) N Q q au r=oa (c9 m T P ((4*q:Nat):Int) N R Q au (lD (r R) ((4*q:Nat):Int) (cJ Q q au))) P ((4*q:Nat):Int) N R Q au:=rfl;rw[aI,aJ]at d;generalize c9 m T P ((4*q:Nat):Int) N R Q au (lD (r R) ((4*q:Nat):Int) (cJ Q q au))=w at s d;obtain⟨am,aK,an⟩:=ahx (x:=w) K F D H bU L O y A E I B Y J i;obtain⟨t,ao,aU,ap,u,e⟩:=S7 (x:=w) (ln:=V) (aB:=C) (p:=p) (n:=n) (sl:=sl) (k:=k) (ix:=S) (by omega) (by omega) (by omega) (by omega) (by omega) (by omega) (by rw[A,E]) (by rw[I,A];have:P*(4*q)≤8*256:=w6 F (by omega);omega);rw[am,A]at u;rw[A]at ap;have aq:(jV w P N R Q).toNat=t:=by
  have aM:((jV w P N R Q).toNat*(4*q)+(oa w P ((4*q:Nat):Int) N R Q au).toNat)/(4*q)=(jV w P N R Q).toNat:=by
   rw[gW,Ib (by omega),Bf an];rfl
  have aN:(t*(4*q)+ao)/(4*q)=t:=by rw[gW,Ib (by omega),Bf ap];rfl
  rw[←aM,u,aN]
 have aO:(oa w P ((4*q:Nat):Int) N R Q au).toNat=ao:=by rw[aq]at u;omega
 rw[GC]at d;refine⟨_,upd r R aD,_,_,s,?_,?_,⟨fun l aP=>LU _ _ aP,fun a aQ=>?_⟩,?_⟩
 ·rw[aE];rfl
 ·refine aia j D H bU v ag af am aK an ?_ aF fun a=>?_
  ·rw[aq,aO];rcases e with e|e
   ·exact .inl (by omega)
   ·rw[E,Y]at e;exact .inr e
  ·rw[d a];by_cases c7:N=0
   ·rw[ax c7,ax (by omega:(N:Int)=0)]
   ·rw[ak c7,ak (by omega:¬(N:Int)=0)]
 ·rw[LS,d a,ak];rintro⟨aH,al⟩;refine aQ (Nat.div_eq_of_lt_le ?_ ?_)
  ·omega
  ·rw[jL];omega
 ·intro c;by_cases b:au=0
  ·rw[ax ⟨c,gT.2 (by omega)⟩,hi c b]
  ·rw[ak (fun h=>b (by have:=gT.1 h.2;omega)),z c b]
end
theorem Dn:dc.n=128:=by rw[Tm];exact ni
theorem Tp(m:Int)(mem tm n sl k:BitVec 32):(jC m mem tm n sl k).n=128:=by kernel_rfl
theorem aid(v:U 64):(dy v).n=128:=by
 show((List.range 128).map _).length=128;rw[mA,Bp]
section
variable{f:cx}{X ad B:U 64}{M:Nat}{m:Int}{mem tm S V p n sl k W Y:BitVec 32}{s:Value}{P q T N R Q au:Nat}{r:Nat→U 64}{nn:Nat→Nat}
variable(F:1≤P)(H:P≤8)(I:Q<P)(J:R<4)(K:2≤q)(L:q≤64)(em:mem.toNat=4*P*q)(O:tm.toNat=T)
variable(C:S.toNat=4*q)(Z:V.toNat=q)(o:p.toNat=P)(D:n.toNat=N)(A:sl.toNat=R)(E:k.toNat=Q)
include F H I J K L em O C Z o D A E
def iK(q R Q:Nat)(r b:Nat→U 64):Prop:=(∀l,l≠Q→b l=r l)∧∀a,a/128/q≠R→aL (b Q) a=aL (r Q) a
theorem LX:∀(t au:Nat) (X ad B:U 64) (W Y:BitVec 32) (r:Nat→U 64),au+t=q→W.toNat=au→Y.toNat=Q*(4*q)+(R*q+au)→(N=0→R=0→2≤au)→sN P q N R Q au X r→
 (dG m n sl→au=0→B=jC m mem tm n sl k)→(dG m n sl→au≠0→ad=eH bz (dy (jC m mem tm n sl k)) dc)→
 sN P q N R Q q (iter (dH bz) t ⟨f,X,ad,B,dc,M,m,mem,tm,S,V,p,n,sl,k,W,Y,s⟩).X (iter (ic P Q) t ⟨m,T,((4*q:Nat):Int),N,R,q,au,nn,r⟩).r∧
  iK q R Q r (iter (ic P Q) t ⟨m,T,((4*q:Nat):Int),N,R,q,au,nn,r⟩).r
 |0,au,X,ad,B,W,Y,r,bU,d,e,g,h,hi,i=>by
  have x:au=q:=by omega
  subst x;exact⟨h,fun _ _=>rfl,fun _ _=>rfl⟩
 |t+1,au,X,ad,B,W,Y,r,bU,d,e,g,h,hi,i=>by
  have aj:R*q≤3*q:=fP _ (by omega);have ak:Q*(4*q)≤8*256:=w6 (by omega) (by omega);obtain⟨y,z,aa,ab,h1,h2,h3,⟨ae,af⟩,h4⟩:=aic (f:=f) (M:=M) (kz:=s) (nn:=nn) F H I J K L em O C Z o D A E d (by omega) e g h hi i;have j:(1#32).toNat=1:=rfl
  show sN P q N R Q q (iter (dH bz) t (dH bz _)).X (iter (ic P Q) t (ic P Q _)).r∧iK q R Q r (iter (ic P Q) t (ic P Q _)).r;rw[h1,h2];obtain⟨ag,ah,ai⟩:=LX t (au+1) y aa ab (W+1#32) (Y+1#32) z (by omega) (by rw[eB,j,d];omega) (by rw[eB,j,e];omega) (fun a b=>by have:=g a b;omega) h3 (fun _ c=>absurd c (by omega)) (fun c _=>h4 c);exact⟨ag,fun l u=>(ah l u).trans (ae l u),fun v w=>(ai v w).trans (af v w)⟩
theorem aie(e:sN P q N R Q (if N=0∧R=0 then 2 else 0) X r):
 sN P q N R Q q (lF f X M m mem tm S V p n sl k) (ue P Q ⟨m,T,((4*q:Nat):Int),N,R,nn,r⟩).r∧iK q R Q r (ue P Q ⟨m,T,((4*q:Nat):Int),N,R,nn,r⟩).r:=by
 have ag:R*q≤3*q:=fP _ (by omega);have ah:Q*(4*q)≤8*256:=w6 (by omega) (by omega);have aa:((4*q:Nat):Int).tdiv 4=(q:Int):=by rw[show((4*q:Nat):Int)=(q:Int)*4 by omega];exact Ei _ (by decide)
 have j:n=0#32↔N=0:=by rw[gT,D]
 have l:sl=0#32↔R=0:=by rw[gT,A]
 have u:(sl*V).toNat=R*q:=by rw[iE,A,Z];exact dO (by omega)
 have v:(k*S).toNat=Q*(4*q):=by rw[iE,E,C];exact dO (by omega)
 have ab:ue P Q ⟨m,T,((4*q:Nat):Int),N,R,nn,r⟩=iter (ic P Q) q ⟨m,T,((4*q:Nat):Int),N,R,q,((0:Nat):Int),nn,r⟩:=by
  unfold ue;simp only;rw[aa,show((q:Int)-0).toNat=q by omega];rfl
 have ae:lF f X M m mem tm S V p n sl k=(iter (dH bz) (q-(lE n sl).toNat) ⟨f,X,di (rm m mem tm n sl k),di (pq m mem tm n sl k),dc,M,m,mem,tm,S,V,p,n,sl,k,lE n sl,k*S+sl*V+lE n sl,undef⟩).X:=by
  unfold lF k4 d2 d44;simp only;rw[Z,o8 Dn]
 rw[ab,ae];have w:dG m n sl→sM m mem tm n sl k=jC m mem tm n sl k:=fun c=>ax c;by_cases c:N=0∧R=0
 ·have d:n=0#32∧sl=0#32:=⟨j.2 c.1,l.2 c.2⟩;have ex:lE n sl=2#32:=ax d;have x:(2#32).toNat=2:=rfl;rw[ex,x];rw[ax c]at e;obtain⟨t,rfl⟩:∃t,q=t+2:=⟨q-2,by omega⟩;have af:iter (ic P Q) (t+2) ⟨m,T,((4*(t+2):Nat):Int),N,R,((t+2:Nat):Int),((0:Nat):Int),nn,r⟩=iter (ic P Q) t ⟨m,T,((4*(t+2):Nat):Int),N,R,((t+2:Nat):Int),((2:Nat):Int),nn,r⟩:=by
   show iter (ic P Q) t (ic P Q (ic P Q _))=_;have y:∀i:Nat,i<2→((N:Int)=0∧cJ R ((t+2:Nat):Int) i<2):=fun i hi=>⟨by omega,by unfold cJ;rw[c.2];omega⟩;rw[S3 _ _ _ _ _ _ _ _ _ _ _ (y 0 (by omega)),show(((0:Nat):Int)+1)=((1:Nat):Int) by omega,S3 _ _ _ _ _ _ _ _ _ _ _ (y 1 (by omega)),show(((1:Nat):Int)+1)=((2:Nat):Int) by omega]
  rw[af,show t+2-2=t by omega];refine LX F H I J K L em O C Z o D A E t 2 X _ _ _ _ r (by omega) rfl ?_ (fun _ _=>aV _) e (fun _ h=>absurd h (by omega)) (fun g _=>?_)
  ·rw[eB,eB,u,v,x];omega
  ·have:rm m mem tm n sl k=eH bz (dy (jC m mem tm n sl k)) dc:=by
    unfold rm;rw[ax ⟨d.1,d.2,g⟩,w g]
   rw[this];refine o8 ?_;unfold eH;exact yb _ _
 ·have d:¬(n=0#32∧sl=0#32):=fun h=>c ⟨j.1 h.1,l.1 h.2⟩;have ex:lE n sl=0#32:=ak d;have z:(0#32).toNat=0:=rfl;rw[ex,z,gE];rw[ak c]at e;refine LX F H I J K L em O C Z o D A E q 0 X _ _ _ _ r (by omega) rfl ?_ (fun a b=>absurd ⟨a,b⟩ c) e (fun g _=>?_) (fun _ h=>absurd rfl h)
  ·rw[eB,eB,u,v,z];omega
  ·have:pq m mem tm n sl k=jC m mem tm n sl k:=by
    unfold pq;rw[ak (fun h=>d ⟨h.1,h.2.1⟩),w g]
   rw[this];exact o8 (Tp ..)
end
def gC:List Int:=[0,1,2,3,4,5,6,7,8,9,10,11,12,13,14,15,14,10,4,8,9,15,13,6,1,12,0,2,11,7,5,3,11,8,12,0,5,2,15,13,10,14,3,6,7,1,9,4,7,9,3,1,13,12,11,14,2,6,5,10,4,0,15,8,9,0,5,7,2,4,10,15,14,1,11,12,6,8,3,13,2,12,6,10,0,11,8,3,4,13,7,5,15,14,1,9,12,5,1,15,14,13,4,10,0,7,6,3,9,2,8,11,13,11,7,14,12,1,3,9,5,0,15,4,8,6,2,10,6,15,14,9,11,3,0,8,12,2,13,7,1,4,10,5,10,2,8,4,7,6,1,5,15,11,9,14,3,12,13,0]
def wE(e:BitVec 64)(n:Nat):BitVec 64:=e>>>n|||e<<<(64-n)
def ru(a b c d m n:BitVec 64):sj:=
 let e:=a+b+m;let h:=wE (d^^^e) 32;let i:=c+h;let j:=wE (b^^^i) 24;let k:=e+j+n;let d2:=wE (h^^^k) 16;let l:=i+d2
 ⟨k,wE (j^^^l) 63,l,d2⟩
def sO(h:bq)(e i aP:BitVec 64)(m:U 64):bq:=Re ru h e i aP m
def jl(p k:Int):bV Unit where
 d0:=()
 read:=fun a e=>match a,e with
  |[.num (.int .u64 (.c h))],[]=>if h=p then some ()else none
  |_,_=>none
 args:=fun _=>[.int .u64 (.c p)]
 heap:=fun _=>[]
 val:=fun _=>.int .u64 (.c k)
 aT:=fun _=>true
def aif(p k:Int)(a:List af)(e:List ah)(d:Unit)(h:(jl p k).read a e=some d):a=(jl p k).args d∧e=(jl p k).heap d:=by
 simp only[jl]at h;split at h
 ·split at h
  ·rename_i i;subst i;exact⟨rfl,rfl⟩
  ·cases h
 ·cases h
def wF{p k:Int}(h:qS 0 (some []) [] (.int .u64 (.c k)) (b9 ck aU 95 [.int .u64 (.c p)] ⟨[],bQ,[],[]⟩)=some ([],.int .u64 (.c k),[])):br 95 (jl p k).spec:=by
 refine(jl p k).ok (dn fK (cL _)) (aif p k) ?_;intro _ _;exact⟨[],some [],_,h,fun _ e=>by cases e⟩
def aih:br 95 (jl 2 7640891576956012808).spec:=wF (by kernel_rfl)
def aii:br 95 (jl 3 13503953896175478587).spec:=wF (by kernel_rfl)
def aij:br 95 (jl 5 4354685564936845355).spec:=wF (by kernel_rfl)
def aik:br 95 (jl 7 11912009170470909681).spec:=wF (by kernel_rfl)
def ail:br 95 (jl 11 5840696475078001361).spec:=wF (by kernel_rfl)
def aim:br 95 (jl 13 11170449401992604703).spec:=wF (by kernel_rfl)
def ain:br 95 (jl 17 2270897969802886507).spec:=wF (by kernel_rfl)
def aio:br 95 (jl 19 6620516959819538809).spec:=wF (by kernel_rfl)
def Tq:ay.Spec:=fW (jl 2 7640891576956012808).spec (fW (jl 3 13503953896175478587).spec (fW (jl 5 4354685564936845355).spec (fW (jl 7 11912009170470909681).spec (fW (jl 11 5840696475078001361).spec (fW (jl 13 11170449401992604703).spec (fW (jl 17 2270897969802886507).spec ((jl 19 6620516959819538809).spec)))))))
def aip:br 95 Tq:=dF.or aih (dF.or aii (dF.or aij (dF.or aik (dF.or ail (dF.or aim (dF.or ain (aio)))))))
def LY:FuncId→Option ay.Spec|95=>some Tq|_=>none
def aiq:∀f e,LY f=some e→br f e:=by
 intro f e h;unfold LY at h;split at h
 ·cases h;exact aip
 ·cases h
structure Tr where
 unit:Unit:=()
def LZ(a:List af)(e:List ah):Option Tr:=
 match a with
 |[]=>
  match e with
  |[]=>some ⟨()⟩|_=>none
 |_=>none
def AT:bV Tr where
 d0:=⟨()⟩
 read:=LZ
 args:=fun⟨_⟩=>[]
 heap:=fun⟨_⟩=>[]
 val:=fun⟨_⟩=>(.agg [.num (.int .u64 (.c 7640891576956012808)),.num (.int .u64 (.c 13503953896175478587)),.num (.int .u64 (.c 4354685564936845355)),.num (.int .u64 (.c 11912009170470909681)),.num (.int .u64 (.c 5840696475078001361)),.num (.int .u64 (.c 11170449401992604703)),.num (.int .u64 (.c 2270897969802886507)),.num (.int .u64 (.c 6620516959819538809))])
 aT:=fun⟨_⟩=>decide (True)
def air:AT.fR ⟨()⟩ (some []) (b9 LY aU 92) [] (bt 8 255):=by show _=_;kernel_rfl
def ais:AT.Rd:=by
 intro a e d h;change LZ a e=some d at h;unfold LZ at h;repeat' split at h
 all_goals cases h
 exact⟨rfl,rfl⟩
def Ts:br 92 AT.spec:=by
 refine AT.ok (dn aiq (cL _)) ais ?_;rintro⟨_⟩ e;refine⟨[],(some []),_,air,?_⟩
 repeat'(refine aA ?_ ?_)
 all_goals first|exact aX|rfl|(simp only[cz]<;>omega)
structure Tt where
 v:BitVec 64
def L0(a:List af)(e:List ah):Option Tt:=
 match a with
 |[.agg [.num (.int .i64 (.c 64)),.num (.int .i64 (.c 32)),.num (.int .i64 (.c 24)),.num (.int .i64 (.c 16)),.num (.int .i64 (.c 63)),.num (.int .i64 (.c 12))],.num (.av v)]=>
  match e with
  |[]=>some ⟨v⟩|_=>none
 |_=>none
def uh:bV Tt where
 d0:=⟨0⟩
 read:=L0
 args:=fun⟨v⟩=>[.agg [.J 64,.J 32,.J 24,.J 16,.J 63,.J 12],.num (.av v)]
 heap:=fun⟨_⟩=>[]
 val:=fun⟨v⟩=>(.av v)
 aT:=fun⟨_⟩=>decide (True)
def ait(v:BitVec 64):uh.fR ⟨v⟩ (some []) (b9 ck aU 82) [] []:=by show _=_;kernel_rfl
def aiu:uh.Rd:=by
 intro a e d h;change L0 a e=some d at h;unfold L0 at h;repeat' split at h
 all_goals cases h
 exact⟨rfl,rfl⟩
def Dp:br 82 uh.spec:=by
 refine uh.ok (dn fK (cL _)) aiu ?_;rintro⟨v⟩ e;refine⟨[],(some []),_,ait v,?_⟩
 repeat'(refine aA ?_ ?_)
 all_goals first|exact aX|rfl|(simp only[cz]<;>omega)
def L1:FuncId→Option ay.Spec|82=>some uh.spec|_=>none
def aiv:∀f e,L1 f=some e→br f e:=by
 intro f e h;unfold L1 at h;split at h
 ·cases h;exact Dp
 ·cases h
def ry(p:Int)(n:Nat):bV (BitVec 64)where
 d0:=0
 read:=fun a e=>match a,e with
  |[.agg [.num (.int .i64 (.c 64)),.num (.int .i64 (.c 32)),.num (.int .i64 (.c 24)),.num (.int .i64 (.c 16)),.num (.int .i64 (.c 63)),.num (.int .i64 (.c 12))],.num (.av v),.num (.int .i64 (.c h))],[]=>if h=p then some v else none
  |_,_=>none
 args:=fun v=>[.agg [.J 64,.J 32,.J 24,.J 16,.J 63,.J 12],.av v,.J p]
 heap:=fun _=>[]
 val:=fun v=>.av (wE v n)
 aT:=fun _=>true
def aiw(p:Int)(n:Nat)(a:List af)(e:List ah)(d:BitVec 64)(h:(ry p n).read a e=some d):a=(ry p n).args d∧e=(ry p n).heap d:=by
 simp only[ry]at h;split at h
 ·split at h
  ·rename_i i;subst i;cases h;exact⟨rfl,rfl⟩
  ·cases h
 ·cases h
def GJ{p:Int}{n:Nat}(h:∀v,qS 0 (some []) [] (.av (wE v n)) (b9 L1 aU 96 ((ry p n).args v) ⟨[],bQ,[],[]⟩)=some ([],.av (wE v n),[true])):br 96 (ry p n).spec:=by
 refine(ry p n).ok (dn aiv (cL _)) (aiw p n) ?_;intro v _;exact⟨[],some [],_,h v,aA rfl aX⟩
def Tu:ay.Spec:=fW (ry 32 32).spec (fW (ry 24 24).spec (fW (ry 16 16).spec ((ry 63 63).spec)))
def aix:br 96 Tu:=dF.or (GJ fun v=>by kernel_rfl) (dF.or (GJ fun v=>by kernel_rfl) (dF.or (GJ fun v=>by kernel_rfl) ((GJ fun v=>by kernel_rfl))))
def L2:FuncId→Option ay.Spec|82=>some uh.spec|96=>some Tu|_=>none
def aiy:∀f e,L2 f=some e→br f e:=by
 intro f e h;unfold L2 at h;split at h
 ·cases h;exact Dp
 ·cases h;exact aix
 ·cases h
structure Tv where
 (v:kr)(x y:BitVec 64)
def L3(v:kr):List af:=[.av v.dR,.av v.ep,.av v.er,.av v.ew,.av v.eZ,.av v.e4,.av v.e5,.av v.e6,.av v.xS,.av v.xT,.av v.xU,.av v.xV,.av v.xW,.av v.xX,.av v.xY,.av v.xZ]
def L4(l:List af):Option kr:=match l with|[.num (.av e),.num (.av h),.num (.av i),.num (.av j),.num (.av gN),.num (.av k),.num (.av m),.num (.av n),.num (.av o),.num (.av p),.num (.av q),.num (.av r),.num (.av s),.num (.av t),.num (.av u),.num (.av v)]=>some ⟨e,h,i,j,gN,k,m,n,o,p,q,r,s,t,u,v⟩|_=>none
def aiz{l:List af}{v:kr}(h:L4 l=some v):l=L3 v:=by
 unfold L4 at h;split at h
 ·cases h;rfl
 ·cases h
def k7(a b c d:Int)(f:kr→BitVec 64→BitVec 64→sj)(g:kr→sj→kr):bV Tv where
 d0:=⟨⟨0,0,0,0,0,0,0,0,0,0,0,0,0,0,0,0⟩,0,0⟩
 read:=fun z i=>match z,i with
  |[.agg [.num (.int .i64 (.c 64)),.num (.int .i64 (.c 32)),.num (.int .i64 (.c 24)),.num (.int .i64 (.c 16)),.num (.int .i64 (.c 63)),.num (.int .i64 (.c 12))],.ref (.ptr 0 (.c 0)),.num (.int .i64 (.c j)),.num (.int .i64 (.c k)),.num (.int .i64 (.c m)),.num (.int .i64 (.c n)),.num (.av e),.num (.av h)],[⟨.gen l,.own⟩]=>
   if j=a∧k=b∧m=c∧n=d then match L4 l with|some v=>some ⟨v,e,h⟩|none=>none
   else none
  |_,_=>none
 args:=fun⟨_,e,h⟩=>[.agg [.J 64,.J 32,.J 24,.J 16,.J 63,.J 12],.ptr 0 (.c 0),.J a,.J b,.J c,.J d,.av e,.av h]
 heap:=fun⟨v,_,_⟩=>[⟨.gen (L3 v),.own⟩]
 out:=fun⟨v,e,h⟩=>[⟨.gen (L3 (g v (f v e h))),.own⟩]
 val:=fun _=>.obj .bA []
 aT:=fun _=>true
section
variable{a b c d:Int}{f:kr→BitVec 64→BitVec 64→sj}{g:kr→sj→kr}
def aiA(z:List af)(i:List ah)(e:Tv)(h:(k7 a b c d f g).read z i=some e):z=(k7 a b c d f g).args e∧i=(k7 a b c d f g).heap e:=by
 simp only[k7]at h;split at h
 ·split at h
  ·rename_i q;obtain⟨rfl,rfl,rfl,rfl⟩:=q;split at h
   ·rename_i j;obtain rfl:=aiz j;cases h;exact⟨rfl,rfl⟩
   ·cases h
  ·cases h
 ·cases h
def wG(h:∀v e i,qS 1 (some [0]) ((k7 a b c d f g).out ⟨v,e,i⟩) (.bA []) (b9 L2 aU 94 ((k7 a b c d f g).args ⟨v,e,i⟩) ⟨(k7 a b c d f g).heap ⟨v,e,i⟩,bQ,[],[]⟩)=some ((k7 a b c d f g).out ⟨v,e,i⟩,.obj .bA [],(bt 8 255))):br 94 (k7 a b c d f g).spec:=by
 refine(k7 a b c d f g).ok (dn aiy (cL _)) aiA ?_;rintro⟨v,e,i⟩ _;refine⟨[],some [0],_,h v e i,?_⟩
 repeat'(refine aA ?_ ?_)
 all_goals first|exact aX|rfl
end
def Tw:ay.Spec:=fW (k7 0 4 8 12 (fun v=>ru v.dR v.eZ v.xS v.xW) fun v q=>{v with dR:=q.a,eZ:=q.b,xS:=q.c,xW:=q.d}).spec (fW (k7 1 5 9 13 (fun v=>ru v.ep v.e4 v.xT v.xX) fun v q=>{v with ep:=q.a,e4:=q.b,xT:=q.c,xX:=q.d}).spec (fW (k7 2 6 10 14 (fun v=>ru v.er v.e5 v.xU v.xY) fun v q=>{v with er:=q.a,e5:=q.b,xU:=q.c,xY:=q.d}).spec (fW (k7 3 7 11 15 (fun v=>ru v.ew v.e6 v.xV v.xZ) fun v q=>{v with ew:=q.a,e6:=q.b,xV:=q.c,xZ:=q.d}).spec (fW (k7 0 5 10 15 (fun v=>ru v.dR v.e4 v.xU v.xZ) fun v q=>{v with dR:=q.a,e4:=q.b,xU:=q.c,xZ:=q.d}).spec (fW (k7 1 6 11 12 (fun v=>ru v.ep v.e5 v.xV v.xW) fun v q=>{v with ep:=q.a,e5:=q.b,xV:=q.c,xW:=q.d}).spec (fW (k7 2 7 8 13 (fun v=>ru v.er v.e6 v.xS v.xX) fun v q=>{v with er:=q.a,e6:=q.b,xS:=q.c,xX:=q.d}).spec ((k7 3 4 9 14 (fun v=>ru v.ew v.eZ v.xT v.xY) fun v q=>{v with ew:=q.a,eZ:=q.b,xT:=q.c,xY:=q.d}).spec)))))))
def aiB:br 94 Tw:=dF.or (wG fun v e h=>by kernel_rfl) (dF.or (wG fun v e h=>by kernel_rfl) (dF.or (wG fun v e h=>by kernel_rfl) (dF.or (wG fun v e h=>by kernel_rfl) (dF.or (wG fun v e h=>by kernel_rfl) (dF.or (wG fun v e h=>by kernel_rfl) (dF.or (wG fun v e h=>by kernel_rfl) ((wG fun v e h=>by kernel_rfl))))))))
def GK:FuncId→Option ay.Spec|92=>some AT.spec|94=>some Tw|82=>some uh.spec|_=>none
def Tx:∀f e,GK f=some e→br f e:=by
 intro f e h;unfold GK at h;split at h
 ·cases h;exact Ts
 ·cases h;exact aiB
 ·cases h;exact Dp
 ·cases h
def mL(X:U 64)(j:Nat)(c:BitVec 8)(a:Int):U 64:=X.set j (X.l.getD j 0#64|||c.setWidth 64<<<a.toNat)
def L5(X:U 64)(j:Nat)(c:BitVec 8)(a:Int):(mL X j c a).n=X.n:=rfl
structure wH where
 (v:U 8)(X:U 64)(o iA:Nat)(n i:Int)
def aiC(d:wH):aJ×List ah:=
 match d with
 |⟨v,X,a,b,n,i⟩=>(⟨[.aa,.aa,.aa,.aa,.P 2,.P 3,.J 8,.aa,.aa],[⟨14,.au i⟩,⟨13,.au n⟩,⟨12,.ref (.sl 0 (.s a) (.s b) none)⟩]⟩,[⟨.aj v,.ro⟩,cp,cp,⟨.bw X,.own⟩])
def sP(d:wH):wH:=
 match d with
 |⟨v,X,a,b,n,i⟩=>⟨v,mL X (0+(i.tdiv 8).toNat*1) (v.l.getD (a+i.toNat*1) 0#8) (8*(i.tmod 8)),a,b,n,i+1⟩
def L6(a:aJ)(b:List ah):Option wH:=
 match a with
 |⟨[.atom .aa,.atom .aa,.atom .aa,.atom .aa,.ref (.ptr 2 (.c 0)),.ref (.ptr 3 (.c 0)),.num (.int .i64 (.c 8)),.atom .aa,.atom .aa],[⟨14,.num (.int .i64 (.s i))⟩,⟨13,.num (.int .i64 (.s n))⟩,⟨12,.ref (.sl 0 (.s d) (.s e) none)⟩]⟩=>
  match b with
  |[⟨.aj v,.ro⟩,⟨.gen [],.bn⟩,⟨.gen [],.bn⟩,⟨.bw X,.own⟩]=>some ⟨v,X,d,e,n,i⟩|_=>none
 |_=>none
def oh:eN wH where
 d0:=⟨0,0,0,0,0,0⟩
 read:=L6
 az:=aiC
 next:=sP
 rem:=fun⟨_,_,_,_,n,i⟩=>(n-i).toNat
 aT:=fun⟨v,X,b,a,n,i⟩=>decide (0≤i∧i≤n∧n=a∧a≤128∧b+a≤v.n∧X.n=16)
 out:=.exit 0
def aiD(v:U 8)(X:U 64)(a b:Nat)(n i:Int):oh.cE ⟨v,X,a,b,n,i⟩ (b8 4) (oh.az (sP ⟨v,X,a,b,n,i⟩)) (bZ ck aU 81 0) [true] .normal [cQ (i+1),decide ((0+((((Int.tdiv i 8)):Int).toNat*1))<X.n),(decide (0≤(Int.tdiv i 8))&&decide ((Int.tdiv i 8)<(16:Int))),decide ((0:Int)≤(8*(Int.tmod i 8))),cQ (8*(Int.tmod i 8)),decide ((8:Int)≠0),decide ((0+((((Int.tdiv i 8)):Int).toNat*1))<X.n),(decide (0≤(Int.tdiv i 8))&&decide ((Int.tdiv i 8)<(16:Int))),decide ((0≤i∧((0:Int)<8∧i≤9223372036854775807))),decide ((a+(i.toNat*1))<v.n),(decide (0≤i)&&decide (i<(b:Int))),(decide (i<n)==true)]:=by show _=_;kernel_rfl
def aiE(v:U 8)(X:U 64)(a b:Nat)(n i:Int):oh.cE ⟨v,X,a,b,n,i⟩ none (oh.fin ⟨v,X,a,b,n,i⟩) (bZ ck aU 81 0) [false] oh.out [(decide (i<n)==false)]:=by show _=_;kernel_rfl
def aiF:oh.Rd:=by
 intro a b d h;change L6 a b=some d at h;unfold L6 at h;repeat' split at h
 all_goals cases h
 rfl
def aiG:dg Tryz.prog bB (an 81) (bS Tryz.prog 81) (bh Tryz.prog 81 0) (bZ ck aU 81 0):=iz fK (cL _) 81 0 Ra (by rw[show(cI Tryz.prog 81).length=1 by kernel_rfl];omega)
def aiH:eF Tryz.prog bB (an 81) (bS Tryz.prog 81) (bh Tryz.prog 81 0) oh.T.told:=by
 refine oh.jT aiG (by intro k e;have e:k∈([]:List ah):=e;cases e) (by intro h;cases h) aiF ?_ ?_
 ·rintro⟨v,X,a,b,n,i⟩ g c d;have c:=bg c;have d:(n-i).toNat=g+1:=d;have j:oh.next ⟨v,X,a,b,n,i⟩=sP ⟨v,X,a,b,n,i⟩:=rfl;rw[j];refine⟨⟨[true],(b8 4),_,aiD v X a b n i,?_⟩,?_,?_,(show(oh.az (sP ⟨v,X,a,b,n,i⟩)).2.length=4 by kernel_rfl).trans (show(oh.az ⟨v,X,a,b,n,i⟩).2.length=4 by kernel_rfl).symm⟩
  ·have h1:i.tdiv 8=i/8:=pK (by omega);have h2:i.tmod 8=i%8:=oB (by omega)
   repeat'(refine aA ?_ ?_)
   all_goals first|exact aX|rfl|(simp only[cz,h1,h2]<;>omega)
  ·have f:oh.aT (sP ⟨v,X,a,b,n,i⟩)=decide (0≤(i+1:Int)∧(i+1:Int)≤n∧n=b∧b≤128∧a+b≤v.n∧(mL X (0+(i.tdiv 8).toNat*1) (v.l.getD (a+i.toNat*1) 0#8) (8*(i.tmod 8)):U 64).n=16):=by kernel_rfl
   refine f.trans (bu ?_);have m:=L5 X (0+(i.tdiv 8).toNat*1) (v.l.getD (a+i.toNat*1) 0#8) (8*(i.tmod 8));omega
  ·have f:oh.rem (sP ⟨v,X,a,b,n,i⟩)=((n-(i+1:Int)).toNat):=by kernel_rfl
   refine f.trans ?_;omega
 ·rintro⟨v,X,a,b,n,i⟩ c d;have c:=bg c;have d:(n-i).toNat=0:=d;refine⟨[false],none,_,aiE v X a b n i,?_⟩
  repeat'(refine aA ?_ ?_)
  all_goals first|exact aX|rfl|(simp only[cz]<;>omega)
def L8:cP:=oh.T.told
def aiI:Told 81 0 L8:=aiH.run
def Dq:FuncId→Nat→Option cP|81,4=>some L8|_,_=>none
def aiJ:(cI Tryz.prog 81).length=1:=by kernel_rfl
def aiK(spec:FuncId→Option ay.Spec):c6 (dh spec Dq) bB:=by
 refine c6.of fun f=>?_;by_cases a:f=81
 ·subst a;refine .inr ⟨by kernel_rfl,fun i hi e b=>?_⟩;have hi:i<(cI Tryz.prog 81).length:=hi;rw[aiJ]at hi;have c:i=0:=by omega
  rcases c with rfl
  ·have d:(bY (bh Tryz.prog 81 0)).bind (Dq 81)=some L8:=by kernel_rfl
   obtain rfl:=dV (d.symm.trans b);exact aiI
 ·refine .inl fun r=>?_
  show Dq f r=none;unfold Dq;split
  ·exact absurd rfl a
  ·rfl
structure L9 where
 (h:bq)(m:U 64)(lo hi:BitVec 64)
def Ma(a:List af)(b:List ah):Option L9:=
 match a with
 |[.agg [.num (.int .i64 (.c 64)),.num (.int .i64 (.c 32)),.num (.int .i64 (.c 24)),.num (.int .i64 (.c 16)),.num (.int .i64 (.c 63)),.num (.int .i64 (.c 12))],.agg [.num (.av d),.num (.av h1),.num (.av h2),.num (.av h3),.num (.av h4),.num (.av e),.num (.av f),.num (.av g)],.agg h,.num (.av lo),.num (.av hi),.atom (.bool (.c false)),.agg i]=>
  match b with
  |[]=>
   (match mV i gC with
   |true=>
   (match jS 16 h with
   |some m=>some ⟨⟨d,h1,h2,h3,h4,e,f,g⟩,m,lo,hi⟩|none=>none)
   |false=>none)
  |_=>none
 |_=>none
def yF:bV L9 where
 d0:=⟨⟨0,0,0,0,0,0,0,0⟩,0,0,0⟩
 read:=Ma
 args:=fun⟨h,m,lo,hi⟩=>[.agg [.J 64,.J 32,.J 24,.J 16,.J 63,.J 12],.agg [.num (.av h.dR),.num (.av h.ep),.num (.av h.er),.num (.av h.ew),.num (.av h.eZ),.num (.av h.e4),.num (.av h.e5),.num (.av h.e6)],.agg (dU m 16),.num (.av lo),.num (.av hi),.atom (.bool (.c false)),.agg (jA gC)]
 heap:=fun⟨_,_,_,_⟩=>[]
 val:=fun⟨h,m,lo,hi⟩=>(.agg (kV (sO h lo hi 0#64 m)))
 aT:=fun⟨_,_,_,_⟩=>decide (True)
def aiL(h:bq)(m:U 64)(lo hi:BitVec 64):yF.fR ⟨h,m,lo,hi⟩ (some []) (b9 GK aU 80) [] (bt 97 158456325028528675187087900671):=by show _=_;kernel_rfl
def aiM(a:List af)(b:List ah)(d:L9)(h:yF.read a b=some d):a=yF.args d∧b=yF.heap d:=by
 replace h:Ma a b=some d:=h;unfold Ma at h;split at h
 case h_2=>cases h
 split at h
 case h_2=>cases h
 split at h
 case h_2=>cases h
 rename_i c;obtain rfl:=qU c;split at h
 case h_2=>cases h
 rename_i e;obtain⟨rfl,_⟩:=kU e;cases h;exact⟨rfl,rfl⟩
def aiN:br 80 yF.spec:=by
 refine yF.ok (dn Tx (cL _)) aiM ?_;rintro⟨h,m,lo,hi⟩ a;refine⟨[],(some []),_,aiL h m lo hi,?_⟩
 repeat'(refine aA ?_ ?_)
 all_goals first|exact aX|rfl|(simp only[cz]<;>omega)
structure Mb where
 (h:bq)(m:U 64)(lo hi:BitVec 64)
def Mc(a:List af)(b:List ah):Option Mb:=
 match a with
 |[.agg [.num (.int .i64 (.c 64)),.num (.int .i64 (.c 32)),.num (.int .i64 (.c 24)),.num (.int .i64 (.c 16)),.num (.int .i64 (.c 63)),.num (.int .i64 (.c 12))],.agg [.num (.av d),.num (.av h1),.num (.av h2),.num (.av h3),.num (.av h4),.num (.av e),.num (.av f),.num (.av g)],.agg h,.num (.av lo),.num (.av hi),.atom (.bool (.c true)),.agg i]=>
  match b with
  |[]=>
   (match mV i gC with
   |true=>
   (match jS 16 h with
   |some m=>some ⟨⟨d,h1,h2,h3,h4,e,f,g⟩,m,lo,hi⟩|none=>none)
   |false=>none)
  |_=>none
 |_=>none
def yG:bV Mb where
 d0:=⟨⟨0,0,0,0,0,0,0,0⟩,0,0,0⟩
 read:=Mc
 args:=fun⟨h,m,lo,hi⟩=>[.agg [.J 64,.J 32,.J 24,.J 16,.J 63,.J 12],.agg [.num (.av h.dR),.num (.av h.ep),.num (.av h.er),.num (.av h.ew),.num (.av h.eZ),.num (.av h.e4),.num (.av h.e5),.num (.av h.e6)],.agg (dU m 16),.num (.av lo),.num (.av hi),.atom (.bool (.c true)),.agg (jA gC)]
 heap:=fun⟨_,_,_,_⟩=>[]
 val:=fun⟨h,m,lo,hi⟩=>(.agg (kV (sO h lo hi 18446744073709551615#64 m)))
 aT:=fun⟨_,_,_,_⟩=>decide (True)
def aiO(h:bq)(m:U 64)(lo hi:BitVec 64):yG.fR ⟨h,m,lo,hi⟩ (some []) (b9 GK aU 80) [] (bt 98 316912650057057350374175801343):=by show _=_;kernel_rfl
def aiP(a:List af)(b:List ah)(d:Mb)(h:yG.read a b=some d):a=yG.args d∧b=yG.heap d:=by
 replace h:Mc a b=some d:=h;unfold Mc at h;split at h
 case h_2=>cases h
 split at h
 case h_2=>cases h
 split at h
 case h_2=>cases h
 rename_i c;obtain rfl:=qU c;split at h
 case h_2=>cases h
 rename_i e;obtain⟨rfl,_⟩:=kU e;cases h;exact⟨rfl,rfl⟩
def aiQ:br 80 yG.spec:=by
 refine yG.ok (dn Tx (cL _)) aiP ?_;rintro⟨h,m,lo,hi⟩ a;refine⟨[],(some []),_,aiO h m lo hi,?_⟩
 repeat'(refine aA ?_ ?_)
 all_goals first|exact aX|rfl|(simp only[cz]<;>omega)
def Md:ay.Spec:=fW yF.spec yG.spec
def Ty:br 80 Md:=dF.or aiN aiQ
def Dr(v:U 8)(b a:Nat):wH:=iter sP (((a:Int)-0).toNat) ⟨v,U.of (List.replicate 16 0#64),b,a,(a:Int),0⟩
def cG(v:U 8)(a b:Nat):U 64:=(Dr v a b).X
def aiR(v:U 8)(a b:Nat):(Dr v a b).X.n=16:=by
 have c:∀k (d:wH),d.X.n=16→(iter sP k d).X.n=16:=by
  intro k
  induction k with
  |zero=>intro d h;exact h|succ k e=>
   intro d h;rw[gG];have:=e d h;generalize iter sP k d=f at this;obtain⟨v',X,g,j,n,i⟩:=f;exact(L5 _ _ _ _).trans this
 exact c _ _ rfl
structure Tz where
 (v:U 8)(o iA:Nat)
def Me(a:List af)(b:List ah):Option Tz:=
 match a with
 |[.agg [.num (.int .i64 (.c 64)),.num (.int .i64 (.c 32)),.num (.int .i64 (.c 24)),.num (.int .i64 (.c 16)),.num (.int .i64 (.c 63)),.num (.int .i64 (.c 12))],.ref (.sl 0 (.s d) (.s e) none)]=>
  match b with
  |[⟨.aj v,.ro⟩]=>some ⟨v,d,e⟩|_=>none
 |_=>none
def AU:bV Tz where
 d0:=⟨0,0,0⟩
 read:=Me
 args:=fun⟨_,b,a⟩=>[.agg [.J 64,.J 32,.J 24,.J 16,.J 63,.J 12],.ref (.sl 0 (.s b) (.s a) none)]
 heap:=fun⟨v,_,_⟩=>[⟨.aj v,.ro⟩]
 val:=fun⟨v,b,a⟩=>(.agg (dU (cG v b a) 16))
 aT:=fun⟨v,b,a⟩=>decide (a≤128∧b+a≤v.n)
def aiS(v:U 8)(b a:Nat):AU.fR ⟨v,b,a⟩ (some [0]) (b9 ck Dq 81) [] [decide (16≤(Dr v b a).X.n),decide (((0:Int)≤0∧(0≤(a:Int)∧((a:Int)=(a:Int)∧(a≤128∧((b+a)≤v.n∧(16:Nat)=16))))))]:=by show _=_;kernel_rfl
def aiT:AU.Rd:=by
 intro a b d h;change Me a b=some d at h;unfold Me at h;repeat' split at h
 all_goals cases h
 exact⟨rfl,rfl⟩
def TA:br 81 AU.spec:=by
 refine AU.ok (dn fK (aiK _)) aiT ?_;rintro⟨v,a,b⟩ c;have c:=bg c;refine⟨[],(some [0]),_,aiS v a b,?_⟩;have d:=aiR v a b
 repeat'(refine aA ?_ ?_)
 all_goals first|exact aX|rfl|(simp only[cz,d]<;>omega)
def GL:FuncId→Option ay.Spec|80=>some Md|81=>some AU.spec|92=>some AT.spec|82=>some uh.spec|_=>none
def TB:∀f a,GL f=some a→br f a:=by
 intro f a h;unfold GL at h;split at h
 ·cases h;exact Ty
 ·cases h;exact TA
 ·cases h;exact Ts
 ·cases h;exact Dp
 ·cases h
structure TC where
 unit:Unit:=()
def Mf(a:List af)(b:List ah):Option TC:=
 match a with
 |[.agg [.num (.int .i64 (.c 64)),.num (.int .i64 (.c 32)),.num (.int .i64 (.c 24)),.num (.int .i64 (.c 16)),.num (.int .i64 (.c 63)),.num (.int .i64 (.c 12))]]=>
  match b with
  |[]=>some ⟨()⟩|_=>none
 |_=>none
def Ds:bV TC where
 d0:=⟨()⟩
 read:=Mf
 args:=fun⟨_⟩=>[.agg [.J 64,.J 32,.J 24,.J 16,.J 63,.J 12]]
 heap:=fun⟨_⟩=>[]
 val:=fun⟨_⟩=>(.agg [.num (.int .u64 (.c 7640891576956012808)),.num (.int .u64 (.c 13503953896175478587)),.num (.int .u64 (.c 4354685564936845355)),.num (.int .u64 (.c 11912009170470909681)),.num (.int .u64 (.c 5840696475078001361)),.num (.int .u64 (.c 11170449401992604703)),.num (.int .u64 (.c 2270897969802886507)),.num (.int .u64 (.c 6620516959819538809))])
 aT:=fun⟨_⟩=>decide (True)
def aiU:Ds.fR ⟨()⟩ (some []) (b9 GL aU 78) [] [true]:=by show _=_;kernel_rfl
def aiV:Ds.Rd:=by
 intro a b d h;change Mf a b=some d at h;unfold Mf at h;repeat' split at h
 all_goals cases h
 exact⟨rfl,rfl⟩
def aiW:br 78 Ds.spec:=by
 refine Ds.ok (dn TB (cL _)) aiV ?_;rintro⟨_⟩ a;refine⟨[],(some []),_,aiU,?_⟩
 repeat'(refine aA ?_ ?_)
 all_goals first|exact aX|rfl|(simp only[cz]<;>omega)
def pE(n:Int):U 8:=U.of (BitVec.ofInt 8 n::0#8::1#8::1#8::List.replicate 60 0#8)
structure TD where
 n:Int
def Mg(a:List af)(b:List ah):Option TD:=
 match a with
 |[.agg [.num (.int .i64 (.c 64)),.num (.int .i64 (.c 32)),.num (.int .i64 (.c 24)),.num (.int .i64 (.c 16)),.num (.int .i64 (.c 63)),.num (.int .i64 (.c 12))],.agg [.num (.int .i64 (.s n)),.num (.int .i64 (.c 0)),.num (.int .i64 (.c 1)),.num (.int .i64 (.c 1)),.num (.int .u64 (.c 0)),.num (.int .u64 (.c 0)),.num (.int .u64 (.c 0)),.num (.int .i64 (.c 0))]]=>
  match b with
  |[]=>some ⟨n⟩|_=>none
 |_=>none
def Dt:bV TD where
 d0:=⟨0⟩
 read:=Mg
 args:=fun⟨n⟩=>[.agg [.J 64,.J 32,.J 24,.J 16,.J 63,.J 12],.agg [.au n,.J 0,.J 1,.J 1,.num (.int .u64 (.c 0)),.num (.int .u64 (.c 0)),.num (.int .u64 (.c 0)),.J 0]]
 heap:=fun⟨_⟩=>[]
 val:=fun⟨n⟩=>(.agg (dU (cG (pE n) 0 64) 8))
 aT:=fun⟨_⟩=>decide (True)
def aiX(n:Int):Dt.fR ⟨n⟩ (some []) (b9 GL aU 79) [] [decide (((64:Nat)≤128∧(64:Nat)≤64))]:=by show _=_;kernel_rfl
def aiY:Dt.Rd:=by
 intro a b d h;change Mg a b=some d at h;unfold Mg at h;repeat' split at h
 all_goals cases h
 exact⟨rfl,rfl⟩
def aiZ:br 79 Dt.spec:=by
 refine Dt.ok (dn TB (cL _)) aiY ?_;rintro⟨n⟩ a;refine⟨[],(some []),_,aiX n,?_⟩
 repeat'(refine aA ?_ ?_)
 all_goals first|exact aX|rfl|(simp only[cz]<;>omega)
structure TE where
 v:BitVec 64
def Mh(a:List af)(b:List ah):Option TE:=
 match a with
 |[.agg [.num (.int .i64 (.c 64)),.num (.int .i64 (.c 32)),.num (.int .i64 (.c 24)),.num (.int .i64 (.c 16)),.num (.int .i64 (.c 63)),.num (.int .i64 (.c 12))],.num (.av v)]=>
  match b with
  |[]=>some ⟨v⟩|_=>none
 |_=>none
def Du:bV TE where
 d0:=⟨0⟩
 read:=Mh
 args:=fun⟨v⟩=>[.agg [.J 64,.J 32,.J 24,.J 16,.J 63,.J 12],.num (.av v)]
 heap:=fun⟨_⟩=>[]
 val:=fun⟨_⟩=>(.int .u64 (.c 0))
 aT:=fun⟨_⟩=>decide (True)
def ai0(v:BitVec 64):Du.fR ⟨v⟩ (some []) (b9 ck aU 83) [] []:=by show _=_;kernel_rfl
def ai1:Du.Rd:=by
 intro a b d h;change Mh a b=some d at h;unfold Mh at h;repeat' split at h
 all_goals cases h
 exact⟨rfl,rfl⟩
def ai2:br 83 Du.spec:=by
 refine Du.ok (dn fK (cL _)) ai1 ?_;rintro⟨v⟩ a;refine⟨[],(some []),_,ai0 v,?_⟩
 repeat'(refine aA ?_ ?_)
 all_goals first|exact aX|rfl|(simp only[cz]<;>omega)
def sQ:FuncId→Option ay.Spec|80=>some Md|81=>some AU.spec|78=>some Ds.spec|79=>some Dt.spec|82=>some uh.spec|83=>some Du.spec|_=>none
def Mi:∀f a,sQ f=some a→br f a:=by
 intro f a h;unfold sQ at h;split at h
 ·cases h;exact Ty
 ·cases h;exact TA
 ·cases h;exact aiW
 ·cases h;exact aiZ
 ·cases h;exact Dp
 ·cases h;exact ai2
 ·cases h
def sd(X:U 64):U 64:=U.of ((List.range 16).map fun i=>X.l.getD i 0#64)
structure uj where
 (v:U 8)(h:bq)(n:Int)(c:BitVec 64)(o iA:Nat)
def ai3(d:uj):aJ×List ah:=
 match d with
 |⟨v,h,n,c,a,b⟩=>(⟨[.aa,.aa,.aa,.ref (.sl 0 (.s a) (.s b) none),.aa,.P 1,.P 2,.aa,.aa,.P 3,.aa,.J 128,.aa,.P 4,.aa,.aa,.num (.av c),.aa,.aa,.aa],[]⟩,[⟨.aj v,.ro⟩,⟨.gen [.J 64,.J 32,.J 24,.J 16,.J 63,.J 12],.own⟩,⟨.gen [.au n,.J 0,.J 1,.J 1,.num (.int .u64 (.c 0)),.num (.int .u64 (.c 0)),.num (.int .u64 (.c 0)),.J 0],.own⟩,⟨.gen (jA gC),.own⟩,⟨.gen [.num (.av h.dR),.num (.av h.ep),.num (.av h.er),.num (.av h.ew),.num (.av h.eZ),.num (.av h.e4),.num (.av h.e5),.num (.av h.e6)],.own⟩])
def uk(d:uj):uj:=
 match d with
 |⟨v,h,n,c,a,b⟩=>⟨v,sO h (c+128#64) 0#64 0#64 (sd (cG v a 128)),n,c+128#64,a+128,b-128⟩
def Mj(a:aJ)(b:List ah):Option uj:=
 match a with
 |⟨[.atom .aa,.atom .aa,.atom .aa,.ref (.sl 0 (.s d) (.s e) none),.atom .aa,.ref (.ptr 1 (.c 0)),.ref (.ptr 2 (.c 0)),.atom .aa,.atom .aa,.ref (.ptr 3 (.c 0)),.atom .aa,.num (.int .i64 (.c 128)),.atom .aa,.ref (.ptr 4 (.c 0)),.atom .aa,.atom .aa,.num (.av c),.atom .aa,.atom .aa,.atom .aa],[]⟩=>
  match b with
  |[⟨.aj v,.ro⟩,⟨.gen [.num (.int .i64 (.c 64)),.num (.int .i64 (.c 32)),.num (.int .i64 (.c 24)),.num (.int .i64 (.c 16)),.num (.int .i64 (.c 63)),.num (.int .i64 (.c 12))],.own⟩,⟨.gen [.num (.int .i64 (.s n)),.num (.int .i64 (.c 0)),.num (.int .i64 (.c 1)),.num (.int .i64 (.c 1)),.num (.int .u64 (.c 0)),.num (.int .u64 (.c 0)),.num (.int .u64 (.c 0)),.num (.int .i64 (.c 0))],.own⟩,⟨.gen f,.own⟩,⟨.gen [.num (.av g),.num (.av h1),.num (.av h2),.num (.av h3),.num (.av h4),.num (.av h),.num (.av i),.num (.av j)],.own⟩]=>
   (match mV f gC with
   |true=>some ⟨v,⟨g,h1,h2,h3,h4,h,i,j⟩,n,c,d,e⟩|false=>none)
  |_=>none
 |_=>none
def m3:eN uj where
 d0:=⟨0,⟨0,0,0,0,0,0,0,0⟩,0,0,0,0⟩
 read:=Mj
 az:=ai3
 next:=uk
 rem:=fun⟨_,_,_,_,_,a⟩=>(a-1)/128
 aT:=fun⟨v,_,n,_,b,a⟩=>decide (b+a≤v.n∧a≤1099511627776)
 out:=.exit 2
def ai4(v:U 8)(h:bq)(n:Int)(c:BitVec 64)(b a:Nat):m3.cE ⟨v,h,n,c,b,a⟩ (b8 5) (m3.az (uk ⟨v,h,n,c,b,a⟩)) (bZ sQ aU 52 1) [true] .normal [(decide (128≤(a:Int))&&decide ((a:Int)≤(a:Int))),true,true,true,decide ((128≤128∧((b+(0:Nat))+128)≤v.n)),((true&&true)&&decide (128≤(a:Int))),(decide (128<(a:Int))==true)]:=by show _=_;kernel_rfl
def ai5(v:U 8)(h:bq)(n:Int)(c:BitVec 64)(b a:Nat):m3.cE ⟨v,h,n,c,b,a⟩ none (m3.fin ⟨v,h,n,c,b,a⟩) (bZ sQ aU 52 1) [false] m3.out [(decide (128<(a:Int))==false)]:=by show _=_;kernel_rfl
def ai6(a:aJ)(b:List ah)(d:uj)(h:m3.read a b=some d):(a,b)=m3.az d:=by
 replace h:Mj a b=some d:=h;unfold Mj at h;split at h
 case h_2=>cases h
 split at h
 case h_2=>cases h
 split at h
 case h_2=>cases h
 rename_i c;obtain rfl:=qU c;cases h;rfl
def ai7:dg Tryz.prog bB (an 52) (bS Tryz.prog 52) (bh Tryz.prog 52 1) (bZ sQ aU 52 1):=iz Mi (cL _) 52 1 JV (by rw[show(cI Tryz.prog 52).length=3 by kernel_rfl];omega)
def ai8:eF Tryz.prog bB (an 52) (bS Tryz.prog 52) (bh Tryz.prog 52 1) m3.T.told:=by
 refine m3.jT ai7 (by intro k f;have f:k∈([]:List ah):=f;cases f) (by intro h;cases h) ai6 ?_ ?_
 ·rintro⟨v,h,n,c,b,a⟩ i d e;have d:=bg d;have e:(a-1)/128=i+1:=e;have j:m3.next ⟨v,h,n,c,b,a⟩=uk ⟨v,h,n,c,b,a⟩:=rfl;rw[j];refine⟨⟨[true],(b8 5),_,ai4 v h n c b a,?_⟩,?_,?_,(show(m3.az (uk ⟨v,h,n,c,b,a⟩)).2.length=5 by kernel_rfl).trans (show(m3.az ⟨v,h,n,c,b,a⟩).2.length=5 by kernel_rfl).symm⟩
  ·repeat'(refine aA ?_ ?_)
   all_goals first|exact aX|rfl|(simp only[cz]<;>omega)
  ·have g:m3.aT (uk ⟨v,h,n,c,b,a⟩)=decide ((b+128:Nat)+(a-128:Nat)≤v.n∧(a-128:Nat)≤1099511627776):=by kernel_rfl
   refine g.trans (bu ?_);omega
  ·have g:m3.rem (uk ⟨v,h,n,c,b,a⟩)=(((a-128:Nat)-1)/128):=by kernel_rfl
   refine g.trans ?_;omega
 ·rintro⟨v,h,n,c,b,a⟩ d e;have d:=bg d;have e:(a-1)/128=0:=e;refine⟨[false],none,_,ai5 v h n c b a,?_⟩
  repeat'(refine aA ?_ ?_)
  all_goals first|exact aX|rfl|(simp only[cz]<;>omega)
def Mk:cP:=m3.T.told
def ai9:Told 52 1 Mk:=ai8.run
def Dv(h:bq)(i:Int):BitVec 8:=((U.of [h.dR,h.ep,h.er,h.ew,h.eZ,h.e4,h.e5,h.e6]).l.getD (0+(i.tdiv 8).toNat*1) 0#64>>>(8*(i.tmod 8)).toNat).setWidth 8
structure wI where
 (v:U 8)(h:bq)(n:Int)(u:U 8)(k:Nat)(i:Int)
def GM(d:wI):aJ×List ah:=
 match d with
 |⟨v,h,n,u,k,i⟩=>(⟨[.aa,.aa,.aa,.aa,.aa,.P 1,.P 2,.aa,.aa,.aa,.aa,.aa,.aa,.P 4,.aa,.aa,.aa,.ref (.sl 6 (.c 0) (.s k) none),.au i,.aa],[]⟩,[⟨.aj v,.ro⟩,⟨.gen [.J 64,.J 32,.J 24,.J 16,.J 63,.J 12],.own⟩,⟨.gen [.au n,.J 0,.J 1,.J 1,.num (.int .u64 (.c 0)),.num (.int .u64 (.c 0)),.num (.int .u64 (.c 0)),.J 0],.own⟩,cp,⟨.gen [.num (.av h.dR),.num (.av h.ep),.num (.av h.er),.num (.av h.ew),.num (.av h.eZ),.num (.av h.e4),.num (.av h.e5),.num (.av h.e6)],.own⟩,cp,⟨.aj u,.own⟩])
def aja(d:wI):aJ×List ah:=
 match d with
 |⟨v,h,n,u,k,i⟩=>(⟨[.aa,.aa,.aa,.aa,.aa,.P 1,.P 2,.aa,.aa,.aa,.aa,.aa,.aa,.P 4,.aa,.aa,.aa,.ref (.sl 7 (.c 0) (.s k) none),.au i,.aa],[]⟩,[⟨.aj v,.ro⟩,⟨.gen [.J 64,.J 32,.J 24,.J 16,.J 63,.J 12],.own⟩,⟨.gen [.au n,.J 0,.J 1,.J 1,.num (.int .u64 (.c 0)),.num (.int .u64 (.c 0)),.num (.int .u64 (.c 0)),.J 0],.own⟩,cp,⟨.gen [.num (.av h.dR),.num (.av h.ep),.num (.av h.er),.num (.av h.ew),.num (.av h.eZ),.num (.av h.e4),.num (.av h.e5),.num (.av h.e6)],.own⟩,cp,cp,⟨.aj u,.own⟩])
def sR(d:wI):wI:=
 match d with
 |⟨v,h,n,u,k,i⟩=>⟨v,h,n,u.app (U.of [Dv h i]),k+1,i+1⟩
def Ml(a:aJ)(b:List ah):Option wI:=
 match a with
 |⟨[.atom .aa,.atom .aa,.atom .aa,.atom .aa,.atom .aa,.ref (.ptr 1 (.c 0)),.ref (.ptr 2 (.c 0)),.atom .aa,.atom .aa,.atom .aa,.atom .aa,.atom .aa,.atom .aa,.ref (.ptr 4 (.c 0)),.atom .aa,.atom .aa,.atom .aa,.ref (.sl 6 (.c 0) (.s k) none),.num (.int .i64 (.s i)),.atom .aa],[]⟩=>
  match b with
  |[⟨.aj v,.ro⟩,⟨.gen [.num (.int .i64 (.c 64)),.num (.int .i64 (.c 32)),.num (.int .i64 (.c 24)),.num (.int .i64 (.c 16)),.num (.int .i64 (.c 63)),.num (.int .i64 (.c 12))],.own⟩,⟨.gen [.num (.int .i64 (.s n)),.num (.int .i64 (.c 0)),.num (.int .i64 (.c 1)),.num (.int .i64 (.c 1)),.num (.int .u64 (.c 0)),.num (.int .u64 (.c 0)),.num (.int .u64 (.c 0)),.num (.int .i64 (.c 0))],.own⟩,⟨.gen [],.bn⟩,⟨.gen [.num (.av d),.num (.av h1),.num (.av h2),.num (.av h3),.num (.av h4),.num (.av e),.num (.av f),.num (.av g)],.own⟩,⟨.gen [],.bn⟩,⟨.aj u,.own⟩]=>some ⟨v,⟨d,h1,h2,h3,h4,e,f,g⟩,n,u,k,i⟩|_=>none
 |_=>none
def qf:eN wI where
 qV:=⟨[.aa,.aa,.aa,.aa,.aa,.P 1,.P 2,.aa,.aa,.aa,.aa,.aa,.aa,.P 4,.aa,.aa,.aa,.ref (.sl 6 (.c 0) (.s 0) none),.au 0,.aa],[]⟩
 qW:=[⟨.aj (U.zero 8 0),.ro⟩,⟨.gen [.J 64,.J 32,.J 24,.J 16,.J 63,.J 12],.own⟩,⟨.gen [.au 0,.J 0,.J 1,.J 1,.num (.int .u64 (.c 0)),.num (.int .u64 (.c 0)),.num (.int .u64 (.c 0)),.J 0],.own⟩,cp,⟨.gen [.num (.av 0#64),.num (.av 0#64),.num (.av 0#64),.num (.av 0#64),.num (.av 0#64),.num (.av 0#64),.num (.av 0#64),.num (.av 0#64)],.own⟩,cp,⟨.aj (U.zero 8 0),.own⟩]
 d0:=⟨0,⟨0,0,0,0,0,0,0,0⟩,0,0,0,0⟩
 read:=Ml
 az:=aja
 next:=sR
 rem:=fun⟨_,_,n,_,_,i⟩=>(n-i).toNat
 aT:=fun⟨_,_,n,u,k,i⟩=>decide (k=u.n∧1≤i∧i≤n∧n≤64∧(k:Int)=i)
 out:=.exit 4
def ajb(v:U 8)(h:bq)(n:Int)(u:U 8)(k:Nat)(i:Int):jc qf.az 7 ⟨v,h,n,u,k,i⟩ (some [0,1,2,3,4,5,6,9]) (qf.az (sR ⟨v,h,n,u,k,i⟩)) (bZ sQ aU 52 2) [true] .normal [cQ (i+1),(true&&(k==u.n)),decide (((k+1)*1)≤1099511627776),decide ((0:Int)≤(8*(Int.tmod i (Int.tdiv 64 8)))),cQ (8*(Int.tmod i (Int.tdiv 64 8))),decide ((Int.tdiv 64 8)≠0),decide ((0+((((Int.tdiv i (Int.tdiv 64 8))):Int).toNat*1))<8),(decide (0≤(Int.tdiv i (Int.tdiv 64 8)))&&decide ((Int.tdiv i (Int.tdiv 64 8))<(8:Int))),decide ((0≤i∧(0<(Int.tdiv 64 8)∧i≤9223372036854775807))),(decide (i<n)==true)]:=by show _=_;kernel_rfl
def ajc(v:U 8)(h:bq)(n:Int)(u:U 8)(k:Nat)(i:Int):jc qf.az 7 ⟨v,h,n,u,k,i⟩ none (qf.fin ⟨v,h,n,u,k,i⟩) (bZ sQ aU 52 2) [false] qf.out [(decide (i<n)==false)]:=by show _=_;kernel_rfl
def ajd(a:aJ)(b:List ah)(d:wI)(h:qf.read a b=some d):(a,b)=GM d:=by
 replace h:Ml a b=some d:=h;unfold Ml at h;split at h
 case h_2=>cases h
 split at h
 case h_2=>cases h
 cases h;rfl
def TF:dg Tryz.prog bB (an 52) (bS Tryz.prog 52) (bh Tryz.prog 52 2) (bZ sQ aU 52 2):=iz Mi (cL _) 52 2 JV (by rw[show(cI Tryz.prog 52).length=3 by kernel_rfl];omega)
def aje:eF Tryz.prog bB (an 52) (bS Tryz.prog 52) (bh Tryz.prog 52 2) (qf.M 6 GM).told:=by
 refine qf.QZ 6 7 GM TF rfl (by intro h;cases h) ajd (by rintro⟨v,h,n,u,k,i⟩;exact⟨rfl,_,rfl,rfl⟩) ?_ ?_
 ·rintro⟨v,h,n,u,k,i⟩ d a b;have a:=bg a;have b:(n-i).toNat=d+1:=b;have e:qf.next ⟨v,h,n,u,k,i⟩=sR ⟨v,h,n,u,k,i⟩:=rfl;rw[e];refine⟨⟨[true],(some [0,1,2,3,4,5,6,9]),_,ajb v h n u k i,?_⟩,?_,?_⟩
  ·have h3:Int.tdiv 64 8=8:=rfl;have h1:i.tdiv 8=i/8:=pK (by omega);have h2:i.tmod 8=i%8:=oB (by omega)
   repeat'(refine aA ?_ ?_)
   all_goals first|exact aX|rfl|(simp only[cz,h3,h1,h2]<;>omega)
  ·have c:qf.aT (sR ⟨v,h,n,u,k,i⟩)=decide ((k+1:Nat)=(u.app (U.of [Dv h i]):U 8).n∧1≤(i+1:Int)∧(i+1:Int)≤n∧n≤64∧((k+1:Nat):Int)=(i+1:Int)):=by kernel_rfl
   refine c.trans (bu ?_);have:(u.app (U.of [Dv h i])).n=u.n+1:=rfl;rw[this];omega
  ·have c:qf.rem (sR ⟨v,h,n,u,k,i⟩)=((n-(i+1:Int)).toNat):=by kernel_rfl
   refine c.trans ?_;omega
 ·rintro⟨v,h,n,u,k,i⟩ a b;have a:=bg a;have b:(n-i).toNat=0:=b;refine⟨[false],none,_,ajc v h n u k i,?_⟩
  repeat'(refine aA ?_ ?_)
  all_goals first|exact aX|rfl|(simp only[cz]<;>omega)
def Mm:cP:=(xN (bZ sQ aU 52 2) (qf.M 6 GM).told)
def ajf:Told 52 2 Mm:=(eF.xN TF aje).run
def wJ:FuncId→Nat→Option cP|52,13=>some Mk|52,21=>some Mm|_,_=>none
def ajg:(cI Tryz.prog 52).length=3:=by kernel_rfl
def ajh(spec:FuncId→Option ay.Spec):c6 (dh spec wJ) bB:=by
 refine c6.of fun f=>?_;by_cases c:f=52
 ·subst c;refine .inr ⟨by kernel_rfl,fun i hi d a=>?_⟩;have hi:i<(cI Tryz.prog 52).length:=hi;rw[ajg]at hi;have e:i=0∨i=1∨i=2:=by omega
  rcases e with rfl|rfl|rfl
  ·have b:(bY (bh Tryz.prog 52 0)).bind (wJ 52)=none:=by kernel_rfl
   have a:(bY (bh Tryz.prog 52 0)).bind (wJ 52)=some d:=a;rw[b]at a;cases a
  ·have b:(bY (bh Tryz.prog 52 1)).bind (wJ 52)=some Mk:=by kernel_rfl
   obtain rfl:=dV (b.symm.trans a);exact ai9
  ·have b:(bY (bh Tryz.prog 52 2)).bind (wJ 52)=some Mm:=by kernel_rfl
   obtain rfl:=dV (b.symm.trans a);exact ajf
 ·refine .inl fun r=>?_
  show wJ f r=none;unfold wJ;split
  ·exact absurd rfl c
  ·exact absurd rfl c
  ·rfl
def GN(h:bq):bq:=⟨h.dR,h.ep,h.er,h.ew,h.eZ,h.e4,h.e5,h.e6⟩
def AV(n:Int):bq:=⟨7640891576956012808#64^^^(cG (pE n) 0 64).l.getD 0 0#64,13503953896175478587#64^^^(cG (pE n) 0 64).l.getD 1 0#64,4354685564936845355#64^^^(cG (pE n) 0 64).l.getD 2 0#64,11912009170470909681#64^^^(cG (pE n) 0 64).l.getD 3 0#64,5840696475078001361#64^^^(cG (pE n) 0 64).l.getD 4 0#64,11170449401992604703#64^^^(cG (pE n) 0 64).l.getD 5 0#64,2270897969802886507#64^^^(cG (pE n) 0 64).l.getD 6 0#64,6620516959819538809#64^^^(cG (pE n) 0 64).l.getD 7 0#64⟩
def jm(v:U 8)(b a:Nat)(n:Int):uj:=iter uk ((a-1)/128) ⟨v,AV n,n,0#64,b,a⟩
def om(v:U 8)(a b:Nat)(n:Int):bq:=sO (GN (jm v a b n).h) ((jm v a b n).c+BitVec.ofInt 64 (((jm v a b n).iA:Nat):Int)) 0#64 18446744073709551615#64 (sd (cG v (jm v a b n).o (jm v a b n).iA))
def dj(v:U 8)(a b:Nat)(n:Int):wI:=iter sR (((jm v a b n).n-1).toNat) ⟨v,GN (om v a b n),(jm v a b n).n,U.of [((om v a b n).dR>>>0).setWidth 8],1,1⟩
def TG(v:U 8)(h:bq)(n:Int)(c:BitVec 64)(a b:Nat):∀k,∃e d,iter uk k ⟨v,h,n,c,a,b⟩=⟨v,e,n,d,a+128*k,b-128*k⟩
 |0=>⟨h,c,rfl⟩|k+1=>by
  obtain⟨e,d,f⟩:=TG v h n c a b k;refine⟨sO e (d+128#64) 0#64 0#64 (sd (cG v (a+128*k) 128)),d+128#64,?_⟩;rw[gG,f]
  show(⟨v,sO e (d+128#64) 0#64 0#64 (sd (cG v (a+128*k) 128)),n,d+128#64,a+128*k+128,b-128*k-128⟩:uj)=_;rw[show a+128*k+128=a+128*(k+1) by omega,show b-128*k-128=b-128*(k+1) by omega]
def Mn(v:U 8)(b a:Nat)(n:Int):(jm v b a n).o=b+128*((a-1)/128)∧(jm v b a n).iA=a-128*((a-1)/128)∧(jm v b a n).n=n:=by
 obtain⟨d,e,c⟩:=TG v (AV n) n 0#64 b a ((a-1)/128);unfold jm;rw[c];exact⟨rfl,rfl,rfl⟩
structure Mo where
 (v:U 8)(o iA:Nat)(n:Int)
def Mp(a:List af)(b:List ah):Option Mo:=
 match a with
 |[.agg [.num (.int .i64 (.c 64)),.num (.int .i64 (.c 32)),.num (.int .i64 (.c 24)),.num (.int .i64 (.c 16)),.num (.int .i64 (.c 63)),.num (.int .i64 (.c 12))],.agg [.num (.int .i64 (.s n)),.num (.int .i64 (.c 0)),.num (.int .i64 (.c 1)),.num (.int .i64 (.c 1)),.num (.int .u64 (.c 0)),.num (.int .u64 (.c 0)),.num (.int .u64 (.c 0)),.num (.int .i64 (.c 0))],.atom .cD,.ref (.sl 0 (.s d) (.s e) none),.agg f]=>
  match b with
  |[⟨.aj v,.ro⟩]=>
   (match mV f gC with
   |true=>some ⟨v,d,e,n⟩|false=>none)
  |_=>none
 |_=>none
def yH:bV Mo where
 d0:=⟨0,0,0,0⟩
 read:=Mp
 args:=fun⟨_,b,a,n⟩=>[.agg [.J 64,.J 32,.J 24,.J 16,.J 63,.J 12],.agg [.au n,.J 0,.J 1,.J 1,.num (.int .u64 (.c 0)),.num (.int .u64 (.c 0)),.num (.int .u64 (.c 0)),.J 0],.atom .cD,.ref (.sl 0 (.s b) (.s a) none),.agg (jA gC)]
 heap:=fun⟨v,_,_,_⟩=>[⟨.aj v,.ro⟩]
 out:=fun⟨v,b,a,n⟩=>[⟨.aj v,.ro⟩,⟨.aj ((dj v b a n)).u,.own⟩]
 val:=fun⟨v,b,a,n⟩=>(.sl 1 (.c 0) (.s ((dj v b a n)).k) none)
 aT:=fun⟨v,b,a,n⟩=>decide (1≤n∧n≤64∧b+a≤v.n∧a≤1099511627776)
def aji(v:U 8)(b a:Nat)(n:Int):yH.fR ⟨v,b,a,n⟩ (some [0,7]) (b9 sQ wJ 52) [true] [decide (((1:Nat)=1∧((1:Int)≤1∧(1≤(jm v b a n).n∧((jm v b a n).n≤64∧(1:Int)=1))))),(decide (0<(jm v b a n).n)==true),true,true,true,decide (((jm v b a n).iA≤128∧((jm v b a n).o+(jm v b a n).iA)≤v.n)),decide (((b+a)≤v.n∧a≤1099511627776)),true,true]:=by show _=_;kernel_rfl
def ajj(a:List af)(b:List ah)(d:Mo)(h:yH.read a b=some d):a=yH.args d∧b=yH.heap d:=by
 replace h:Mp a b=some d:=h;unfold Mp at h;split at h
 case h_2=>cases h
 split at h
 case h_2=>cases h
 split at h
 case h_2=>cases h
 rename_i c;obtain rfl:=qU c;cases h;exact⟨rfl,rfl⟩
def ajk:br 52 yH.spec:=by
 refine yH.ok (dn Mi (ajh _)) ajj ?_;rintro⟨v,a,b,n⟩ c;have c:=bg c;refine⟨[true],(some [0,7]),_,aji v a b n,?_⟩;obtain⟨d,e,f⟩:=Mn v a b n
 repeat'(refine aA ?_ ?_)
 all_goals first|exact aX|(simp only[cz,eA,gE,gb,d,e,f]<;>omega)
end
section
open Go.ay
variable [aR][aG]
def GO(a b:BitVec 64):a|||b=b|||a:=BitVec.or_comm a b
def ajl:ru=JX:=by
 funext a b c d g h;unfold ru JX wE CX;simp only[Nat.reduceSub];have l:a+b+g=a+g+b:=by rw[Ia,BitVec.add_comm b g,←Ia]
 rw[l];generalize a+g+b=e;rw[GO ((d^^^e)>>>32)];generalize(d^^^e)<<<32|||(d^^^e)>>>32=i;generalize c+i=j;rw[GO ((b^^^j)>>>24)];generalize(b^^^j)<<<40|||(b^^^j)>>>24=f;have m:e+f+h=e+h+f:=by rw[Ia,BitVec.add_comm f h,←Ia]
 rw[m];generalize e+h+f=k;rw[GO ((i^^^k)>>>16)];generalize(i^^^k)<<<48|||(i^^^k)>>>16=d2;generalize j+d2=n;rw[GO ((f^^^n)>>>63)]
def TH(h:bq)(a b aP:BitVec 64)(m:U 64):sO h a b aP m=cr h a b aP m:=by
 unfold sO cr;rw[ajl]
def qg(v:U 8)(a b i:Nat):BitVec 8:=if i<b then v.l.getD (a+i) 0#8 else 0#8
def rz(f:Nat→BitVec 8)(j:Nat):BitVec 64:=jd (f (8*j)) (f (8*j+1)) (f (8*j+2)) (f (8*j+3)) (f (8*j+4)) (f (8*j+5)) (f (8*j+6)) (f (8*j+7))
def m4(f:Nat→BitVec 8):U 64:=U.of ((List.range 16).map (rz f))
def yI{f g:Nat→BitVec 8}(h:∀i,i<128→f i=g i):m4 f=m4 g:=by
 unfold m4;have:(List.range 16).map (rz f)=(List.range 16).map (rz g):=by
  refine H9 fun j a=>?_;have a:=oA.1 a;unfold rz;rw[h _ (by omega),h _ (by omega),h _ (by omega),h _ (by omega),h _ (by omega),h _ (by omega),h _ (by omega),h _ (by omega)]
 rw[this]
def Mq(v:U 8)(a:Nat):e7 v a=m4 fun i=>v.l.getD (a+i) 0#8:=by
 unfold e7 m4;rfl
def sS(f:Nat→BitVec 8)(j:Nat):Nat→BitVec 64|0=>0#64|k+1=>sS f j k|||(f (8*j+k)).setWidth 64<<<(8*k)
def Mr(f:Nat→BitVec 8)(j:Nat):sS f j 8=rz f j:=by
 unfold rz jd;simp only[sS,Br,gb,Nat.reduceMul,BitVec.shiftLeft_zero];rw[BitVec.zero_or]
def ajm(X:U 64)(j i:Nat)(a:BitVec 64)(hi:i<X.n):(X.set j a).l.getD i 0#64=if j=i then a else X.l.getD i 0#64:=by
 have b:=X.h
 show(X.l.set j a).getD i 0#64=_;rw[dY,dY,wW];split
 ·rw[ax (by omega)];rfl
 ·rfl
def Ms(v:U 8)(a b:Nat):∀k,k≤128→∃X:U 64,iter sP k ⟨v,U.of (List.replicate 16 0#64),a,b,(b:Int),0⟩=⟨v,X,a,b,(b:Int),(k:Int)⟩∧X.n=16∧∀j,j<16→X.l.getD j 0#64=sS (fun i=>v.l.getD (a+i) 0#8) j (min 8 (k-8*j))
 |0,_=>by
  refine⟨_,rfl,rfl,fun j c=>?_⟩;rw[Nat.zero_sub,Wq]
  show(List.replicate 16 0#64).getD j 0#64=0#64;rw[dY,mz];split<;>rfl
 |k+1,r=>by
  obtain⟨X,e,f,d⟩:=Ms v a b k (by omega);refine⟨mL X (0+((k:Int).tdiv 8).toNat*1) (v.l.getD (a+(k:Int).toNat*1) 0#8) (8*((k:Int).tmod 8)),?_,f,fun j c=>?_⟩
  ·rw[gG,e]
   show(⟨v,mL X (0+((k:Int).tdiv 8).toNat*1) (v.l.getD (a+(k:Int).toNat*1) 0#8) (8*((k:Int).tmod 8)),a,b,(b:Int),(k:Int)+1⟩:wH)=_;rfl
  ·have g:(k:Int).tdiv 8=(k:Int)/8:=pK (by omega);have m:(k:Int).tmod 8=(k:Int)%8:=oB (by omega);have o:0+((k:Int).tdiv 8).toNat*1=k/8:=by rw[g];omega
   have p:a+(k:Int).toNat*1=a+k:=by omega
   have q:(8*((k:Int).tmod 8)).toNat=8*(k%8):=by rw[m];omega
   unfold mL;rw[ajm _ _ _ _ (by omega),o,p,q,d _ (by omega)];split
   ·rename_i h;subst h;rw[show min 8 (k+1-8*(k/8))=(k%8)+1 by omega,show min 8 (k-8*(k/8))=k%8 by omega]
    show _=sS _ _ (k%8)|||_;rw[show 8*(k/8)+k%8=k by omega]
   ·rename_i h;rw[d j c,show min 8 (k+1-8*j)=min 8 (k-8*j) by omega]
def Mt(v:U 8)(b a j:Nat):∀m,sS (qg v b a) j m=sS (fun i=>v.l.getD (b+i) 0#8) j (min m (a-8*j))
 |0=>by rw[Nat.zero_min];rfl|m+1=>by
  show sS (qg v b a) j m|||(qg v b a (8*j+m)).setWidth 64<<<(8*m)=_;rw[Mt v b a j m];unfold qg;by_cases h:8*j+m<a
  ·rw[ax h,show min m (a-8*j)=m by omega,show min (m+1) (a-8*j)=m+1 by omega];rfl
  ·rw[ak h,show min (m+1) (a-8*j)=min m (a-8*j) by omega];have c:((0#8:BitVec 8).setWidth 64<<<(8*m))=0#64:=by
    rw[show(0#8:BitVec 8).setWidth 64=0#64 from rfl,BitVec.zero_shiftLeft]
   rw[c,BitVec.or_zero]
def TI(v:U 8)(b a:Nat)(h:a≤128):sd (cG v b a)=m4 (qg v b a):=by
 obtain⟨X,d,g,e⟩:=Ms v b a a h;have f:cG v b a=X:=by
  unfold cG Dr;rw[show((a:Int)-0).toNat=a by omega,d]
 rw[f];unfold sd m4;have:(List.range 16).map (fun i=>X.l.getD i 0#64)=(List.range 16).map (rz (qg v b a)):=by
  refine H9 fun j c=>?_;have c:=oA.1 c;rw[e j c,←Mr,Mt]
 rw[this]
def TJ(v:U 8)(b a j:Nat)(h:a≤128)(c:j<16):(cG v b a).l.getD j 0#64=rz (qg v b a) j:=by
 obtain⟨X,d,g,e⟩:=Ms v b a a h;have f:cG v b a=X:=by
  unfold cG Dr;rw[show((a:Int)-0).toNat=a by omega,d]
 rw[f,e j c,←Mr,Mt]
def Mu:BitVec 64:=18446744073709551615#64
def iR(h:bq)(P:Nat→BitVec 8):Nat→bq|0=>h|k+1=>cr (iR h P k) (BitVec.ofNat 64 (128*(k+1))) 0#64 0#64 (m4 fun i=>P (128*k+i))
def eP(h:bq)(P:Nat→BitVec 8)(N:Nat):bq:=cr (iR h P (aP N)) (BitVec.ofNat 64 N) 0#64 Mu (m4 fun i=>if i<N-128*aP N then P (128*aP N+i)else 0#8)
def TK(h:bq){P Q:Nat→BitVec 8}:∀k,(∀i,i<128*k→P i=Q i)→iR h P k=iR h Q k
 |0,_=>rfl|k+1,a=>by
  show cr (iR h P k) _ _ _ _=cr (iR h Q k) _ _ _ _;rw[TK h k (fun i hi=>a i (by omega)),yI (g:=fun i=>Q (128*k+i)) (fun i hi=>a _ (by omega))]
def Dw(h:bq){P Q:Nat→BitVec 8}(N:Nat)(a:∀i,i<N→P i=Q i):eP h P N=eP h Q N:=by
 have b:128*aP N≤N:=by unfold aP;omega
 unfold eP;rw[TK h (aP N) (fun i hi=>a i (by omega)),yI (g:=fun i=>if i<N-128*aP N then Q (128*aP N+i)else 0#8) (fun i hi=>by
  split
  ·exact a _ (by omega)
  ·rfl)]
def pF(v:U 8)(a n i:Nat)(h:a+n≤v.n)(hi:i<n):(v.sub a n).l.getD i 0#8=v.l.getD (a+i) 0#8:=by
 have b:=v.h;rw[U.Bv (by omega),dY,dY,lM,ax hi,s8]
def AW(c b:U 8)(a i:Nat)(h:a+b.n≤c.n)(hi:i<c.n):(c.over a b).l.getD i 0#8=if a≤i∧i<a+b.n then b.l.getD (i-a) 0#8 else c.l.getD i 0#8:=by
 have d:=c.h;have e:=b.h
 show(rN c.l a b.l).getD i 0#8=_;rw[xG _ _ _ (by omega)];unfold over;simp only[dY];rcases cu i a with h1|h1
 ·rw[ak (by omega),y5,gV (by simp;omega),lM,ax h1]
 ·rcases cu i (a+b.n)with h2|h2
  ·rw[ax ⟨h1,h2⟩,y5,gL (by simp;omega),gV (by simp;omega)];congr 2;simp;omega
  ·rw[ak (by omega),gL (by simp;omega),s8];congr 2;simp;omega
def yJ(a:U 8)(i:Nat)(hi:i<128):(cw a).l.getD i 0#8=a.l.getD i 0#8:=by
 show((List.range 128).map fun i=>a.l.getD i 0#8).getD i 0#8=_;simp[dY,hi]
def Dx(a:U 8):(cw a).n=128:=by
 show((List.range 128).map _).length=128;rw[mA,Bp]
def qh(v:U 8)(a n:Nat):(v.sub a n).n=n:=rfl
def TL(b v:U 8)(m a n i:Nat)(g:m≤128)(c:m+n≤128)(d:a+n≤v.n)(hi:i<128):
 (gA b (m:Int) v a n).l.getD i 0#8=if m≤i∧i<m+n then v.l.getD (a+(i-m)) 0#8 else b.l.getD i 0#8:=by
 unfold gA;have e:11+(m:Int).toNat*1-11=m:=by omega
 have f:Nat.min n (128-(m:Int).toNat)=n:=by show min n _=n;omega
 rw[e,f,AW _ _ _ _ (by rw[qh,Dx];exact c) (by rw[Dx];exact hi),qh,yJ _ _ hi];split
 ·rw[pF _ _ _ _ d (by omega)]
 ·rfl
def TM(b v:U 8)(a n i:Nat)(e:n≤128)(c:a+n≤v.n)(hi:i<n):(gy b v a n).l.getD i 0#8=v.l.getD (a+i) 0#8:=by
 unfold gy;have d:Nat.min n 128=n:=by show min n _=n;omega
 rw[d,AW _ _ _ _ (by rw[qh,Dx];omega) (by rw[Dx];omega),qh,ax (by omega),pF _ _ _ _ c (by omega),gE]
def GQ(j:Nat):∀k,gQ (BitVec.ofNat 64 (128*j)) k=BitVec.ofNat 64 (128*(j+k))
 |0=>rfl|k+1=>by
  show gQ _ k+128#64=_;rw[GQ j k];apply mo;rw[eB,g7,g7,g7];omega
def Dy(k:Nat):BitVec.ofNat 64 (128*k)+128#64=BitVec.ofNat 64 (128*(k+1)):=by
 apply mo;rw[eB,g7,g7,g7];omega
def Mv(b:bq)(P:Nat→BitVec 8)(v:U 8)(a j:Nat):∀k,(∀i,i<128*k→v.l.getD (a+i) 0#8=P (128*j+i))→jf (iR b P j) (BitVec.ofNat 64 (128*j)) 0#64 v a k=iR b P (j+k)
 |0,_=>rfl|k+1,c=>by
  show cr (jf _ _ _ _ _ k) (gQ _ k+128#64) 0#64 0#64 (e7 v (a+128*k))=cr (iR b P (j+k)) _ _ _ _;rw[Mv b P v a j k (fun i hi=>c i (by omega)),GQ,Dy,Mq,yI (g:=fun i=>P (128*(j+k)+i)) (fun i hi=>by
   show v.l.getD (a+128*k+i) 0#8=_;rw[iD,c _ (by omega)];congr 1;omega)]
  rfl
structure eI(h0:bq)(P:Nat→BitVec 8)(d:jB)(N:Nat):Prop where
 h:d.h=iR h0 P (aP N)
 c:d.c=BitVec.ofNat 64 (128*aP N)
 n:d.n=((N-128*aP N:Nat):Int)
 x:∀i,i<N-128*aP N→d.x.l.getD i 0#8=P (128*aP N+i)
def eI.new(a:Int)(P:Nat→BitVec 8)(b:U 8):eI (bU a) P (AA a b) 0:=⟨rfl,rfl,rfl,fun i hi=>by simp at hi⟩
def eI.step{c:bq}{P:Nat→BitVec 8}{d:jB}{N:Nat}(t:eI c P d N)(v:U 8)(b a:Nat)(u:b+a≤v.n)(h:∀i,i<a→v.l.getD (b+i) 0#8=P (N+i)):eI c P (jh d v b a) (N+a):=by
 obtain⟨B,C,f,D⟩:=d;obtain⟨k,o,p,q⟩:=t;simp only at k o p q;subst k o p;have E:N-128*aP N≤128∧128*aP N≤N∧(0<N→0<N-128*aP N):=by unfold aP;omega
 have r:∀i,i<N-128*aP N→(cw f).l.getD i 0#8=P (128*aP N+i):=fun i hi=>by rw[yJ _ _ (by omega)];exact q i hi
 generalize F:N-128*aP N=m at *
 show eI c P ⟨fM (eta (iR c P (aP N))) (BitVec.ofNat 64 (128*aP N)) 0#64 (cw f) (m:Int) v b a,bK (BitVec.ofNat 64 (128*aP N)) (m:Int) a,fq (cw f) (m:Int) v b a,aq (m:Int) a⟩ (N+a);by_cases h1:0<(m:Int)
 ·by_cases h2:(a:Int)≤128-(m:Int)
  ·have e:aP (N+a)=aP N:=by unfold aP at *;omega
   refine⟨?_,?_,?_,fun i hi=>?_⟩
   ·show fM _ _ _ _ _ _ _ _=_;unfold fM;rw[ax h1,ax h2,e];rfl
   ·show bK _ _ _=_;unfold bK;rw[ax h1,ax h2,e]
   ·show aq _ _=_;unfold aq;rw[ax h1,ax h2,e];omega
   ·show(fq _ _ _ _ _).l.getD i 0#8=_;unfold fq;rw[ax h1,ax h2];have hi:i<N+a-128*aP (N+a):=hi;rw[e]at hi⊢;rw[TL _ _ _ _ _ _ (by omega) (by omega) u (by omega)];split
    ·rw[h _ (by omega)];congr 1;omega
    ·exact r i (by omega)
  ·have j:(128-(m:Int)).toNat=128-m:=by omega
   have e:aP (N+a)=aP N+1+aP (a-(128-m)):=by unfold aP at *;omega
   have w:∀i,i<128→(gA (cw f) (m:Int) v b (128-m)).l.getD i 0#8=P (128*aP N+i):=fun i hi=>by
    rw[TL _ _ _ _ _ _ (by omega) (by omega) (by omega) hi];split
    ·rw[h _ (by omega)];congr 1;omega
    ·exact r i (by omega)
   have x:cr (eta (iR c P (aP N))) (BitVec.ofNat 64 (128*aP N)+128#64) 0#64 0#64 (e7 (gA (cw f) (m:Int) v b (128-m)) 0)=iR c P (aP N+1):=by
    show _=cr (iR c P (aP N)) _ _ _ _;rw[Dy,Mq,yI (g:=fun i=>P (128*aP N+i)) (fun i hi=>by
     show(gA (cw f) (m:Int) v b (128-m)).l.getD (0+i) 0#8=_;rw[cM];exact w i hi)]
    rfl
   have y:128*aP (a-(128-m))≤a-(128-m)∧a-(128-m)-128*aP (a-(128-m))≤128:=by unfold aP;omega
   refine⟨?_,?_,?_,fun i hi=>?_⟩
   ·show fM _ _ _ _ _ _ _ _=_;unfold fM;rw[ax h1,ak h2,j,x,Dy,Mv c P v (b+(128-m)) (aP N+1) _ (fun i hi=>by
     rw[iD,h _ (by omega)];congr 1;omega),e]
   ·show bK _ _ _=_;unfold bK;rw[ax h1,ak h2,j,Dy,GQ,e]
   ·show aq _ _=_;unfold aq;rw[ax h1,ak h2,j,e];congr 1;omega
   ·show(fq _ _ _ _ _).l.getD i 0#8=_;unfold fq;rw[ax h1,ak h2,j];have hi:i<N+a-128*aP (N+a):=hi;rw[e]at hi⊢;rw[TM _ _ _ _ _ (by omega) (by omega) (by omega)];have:=h (128-m+128*aP (a-(128-m))+i) (by omega);rw[show b+(128-m)+128*aP (a-(128-m))+i=b+(128-m+128*aP (a-(128-m))+i) by omega,this];congr 1;omega
 ·have z:N=0:=by omega
  subst z;have A:m=0:=by omega
  subst A;have H:aP 0=0:=rfl;have y:128*aP a≤a∧a-128*aP a≤128:=by unfold aP;omega
  have s:∀i,i<a→v.l.getD (b+i) 0#8=P i:=fun i hi=>by rw[h i hi,cM]
  rw[cM];refine⟨?_,?_,?_,fun i hi=>?_⟩
  ·show fM (eta (iR c P (aP 0))) (BitVec.ofNat 64 (128*aP 0)) 0#64 (cw f) ((0:Nat):Int) v b a=_;unfold fM;rw[ak h1]
   show jf (iR c P 0) (BitVec.ofNat 64 (128*0)) 0#64 v b (aP a)=_;rw[Mv c P v b 0 _ (fun i hi=>by rw[s _ (by omega)];congr 1;omega),cM]
  ·show bK (BitVec.ofNat 64 (128*aP 0)) ((0:Nat):Int) a=_;unfold bK;rw[ak h1]
   show gQ (BitVec.ofNat 64 (128*0)) (aP a)=_;rw[GQ,cM]
  ·show aq ((0:Nat):Int) a=_;unfold aq;rw[ak h1]
  ·show(fq (cw f) ((0:Nat):Int) v b a).l.getD i 0#8=_;unfold fq;rw[ak h1,ax (by omega),TM _ _ _ _ _ (by omega) (by omega) hi,iD,s _ (by omega)]
def ajn(a:U 8):cw (cw a)=cw a:=by
 have b:(List.range 128).map (fun i=>(cw a).l.getD i 0#8)=(List.range 128).map (fun i=>a.l.getD i 0#8):=H9 fun i hi=>yJ a i (oA.1 hi)
 show U.of _=U.of _;rw[b]
def ajo(a:U 8)(m i:Nat)(d:m≤128)(hi:i<128):(Ay (cw a) (m:Int)).l.getD i 0#8=if i<m then a.l.getD i 0#8 else 0#8:=by
 unfold Ay;have c:Nat.min ((m:Int)).toNat 128=m:=by show min _ _=m;omega
 have b:(U.of (List.replicate 128 0#8)).n=128:=by
  show(List.replicate 128 0#8).length=128;rw[ni]
 rw[c,AW _ _ _ _ (by rw[qh,b];omega) (by rw[b];exact hi),qh];split
 ·rw[ax (by omega),pF _ _ _ _ (by rw[Dx];omega) (by omega),yJ _ _ (by omega),yJ _ _ (by omega)];congr 1;omega
 ·rw[ak (by omega)]
  show(List.replicate 128 0#8).getD i 0#8=_;rw[dY,mz,ax hi];rfl
def GR{a:bq}{P:Nat→BitVec 8}{d:jB}{N:Nat}(q:eI a P d N)(w:N≤1099511627776):gB d=eP a P N:=by
 obtain⟨x,y,b,z⟩:=d;obtain⟨g,j,k,n⟩:=q;simp only at g j k n;subst g j k;have r:N-128*aP N≤128∧128*aP N≤N∧(0<N→0<N-128*aP N)∧(N=0→aP N=0):=by unfold aP;omega
 generalize s:N-128*aP N=m at *
 show we (eta (iR a P (aP N))) (BitVec.ofNat 64 (128*aP N)) 0#64 (cw b) (m:Int)=_;have o:(tV (m:Int)).toNat=128-m:=by
  unfold tV;rw[show(128-(m:Int))=((128-m:Nat):Int) by omega,uD,g7];omega
 have p:(BitVec.ofNat 64 (128*aP N)).toNat=128*aP N:=by rw[g7];omega
 have c:(128#64).toNat=128:=rfl;have e:(BitVec.ofNat 64 (128*aP N)-tV (m:Int)+128#64).toNat=N:=by
  rw[eB,kG,p,o,c];omega
 have t:BitVec.ofNat 64 (128*aP N)-tV (m:Int)+128#64=BitVec.ofNat 64 N:=by
  apply mo;rw[e,g7];omega
 have u:e7 (Ay (cw (cw b)) (m:Int)) 0=m4 fun i=>if i<N-128*aP N then P (128*aP N+i)else 0#8:=by
  rw[Mq];refine yI fun i hi=>?_
  show(Ay (cw (cw b)) (m:Int)).l.getD (0+i) 0#8=_;rw[cM,ajo _ _ _ r.1 hi,s];by_cases h:i<m
  ·rw[ax h,ax h,yJ _ _ hi,n i h]
  ·rw[ak h,ak h]
 have v:e7 (Ay (cw b) (m:Int)) 0=m4 fun i=>if i<N-128*aP N then P (128*aP N+i)else 0#8:=by
  rw[←u];rw[ajn]
 have fin:∀f,jU (BitVec.ofNat 64 (128*aP N)-tV (m:Int)) f=0#64→vZ (eta (iR a P (aP N))) (BitVec.ofNat 64 (128*aP N)) f (cw b) (m:Int)=eP a P N:=by
  intro f h;unfold vZ eP;rw[h,t,v];rfl
 unfold we;rw[p,o];by_cases h:128*aP N<128-m
 ·rw[ax h];refine fin _ ?_;unfold jU;rw[e,c,ax (by unfold aP at *;omega)];rfl
 ·rw[ak h];refine fin _ ?_;unfold jU;rw[e,c,ak (by unfold aP at *;omega)]
def ajp:∀k:Fin 65,jd (BitVec.ofInt 8 (k.1:Int)) 0#8 1#8 1#8 0#8 0#8 0#8 0#8=(((BitVec.ofInt 64 (k.1:Int)|||0#64)|||65536#64)|||16777216#64):=by decide+kernel
def um(n:Int):∀i,i<64→qg (pE n) 0 64 i=if i=0 then BitVec.ofInt 8 n else if i=2∨i=3 then 1#8 else 0#8:=by
 intro i hi;unfold qg;rw[ax hi,cM]
 show(BitVec.ofInt 8 n::0#8::1#8::1#8::List.replicate 60 0#8).getD i 0#8=_
 match i,hi with
 |0,_=>rfl|1,_=>rfl|2,_=>rfl|3,_=>rfl|j+4,a=>
  rw[ak (by omega),ak (by omega)]
  show(List.replicate 60 0#8).getD j 0#8=_;rw[dY,mz,ax (by omega)];rfl
def ajq(n:Int)(h1:1≤n)(h2:n≤64):AV n=bU n:=by
 have d:(cG (pE n) 0 64).l.getD 0 0#64=(((BitVec.ofInt 64 n|||0#64)|||65536#64)|||16777216#64):=by
  rw[TJ _ _ _ _ (by omega) (by omega)];unfold rz;simp only[Br,cM];rw[um n 0 (by omega),um n 1 (by omega),um n 2 (by omega),um n 3 (by omega),um n 4 (by omega),um n 5 (by omega),um n 6 (by omega),um n 7 (by omega)];have:=ajp ⟨n.toNat,by omega⟩;simp only[show(n.toNat:Int)=n by omega]at this;exact this
 have c:∀j,1≤j→j<8→(cG (pE n) 0 64).l.getD j 0#64=0#64:=by
  intro j a b;rw[TJ _ _ _ _ (by omega) (by omega)];unfold rz;have z:∀i,8≤i→i<64→qg (pE n) 0 64 i=0#8:=fun i p q=>by rw[um n i q,ak (by omega),ak (by omega)]
  rw[z _ (by omega) (by omega),z _ (by omega) (by omega),z _ (by omega) (by omega),z _ (by omega) (by omega),z _ (by omega) (by omega),z _ (by omega) (by omega),z _ (by omega) (by omega),z _ (by omega) (by omega)];rfl
 unfold AV bU;rw[d,c 1 (by omega) (by omega),c 2 (by omega) (by omega),c 3 (by omega) (by omega),c 4 (by omega) (by omega),c 5 (by omega) (by omega),c 6 (by omega) (by omega),c 7 (by omega) (by omega)];rfl
def TN(v:U 8)(h:bq)(n:Int)(a b:Nat):∀k,128*k≤b→iter uk k ⟨v,h,n,0#64,a,b⟩=⟨v,iR h (fun i=>v.l.getD (a+i) 0#8) k,n,BitVec.ofNat 64 (128*k),a+128*k,b-128*k⟩
 |0,_=>rfl|k+1,c=>by
  rw[gG,TN v h n a b k (by omega)]
  show(⟨v,sO (iR h (fun i=>v.l.getD (a+i) 0#8) k) (BitVec.ofNat 64 (128*k)+128#64) 0#64 0#64 (sd (cG v (a+128*k) 128)),n,BitVec.ofNat 64 (128*k)+128#64,a+128*k+128,b-128*k-128⟩:uj)=_;rw[TH,Dy,TI _ _ _ (aV _),yI (g:=fun i=>v.l.getD (a+(128*k+i)) 0#8) (fun i hi=>by unfold qg;rw[ax hi,iD]),show a+128*k+128=a+128*(k+1) by omega,show b-128*k-128=b-128*(k+1) by omega];rfl
def GU(v:U 8)(b a:Nat)(n:Int)(h1:1≤n)(h2:n≤64)(h:a≤1099511627776):om v b a n=eP (bU n) (fun i=>v.l.getD (b+i) 0#8) a:=by
 have c:128*aP a≤a∧a-128*aP a≤128:=by unfold aP;omega
 have d:=TN v (AV n) n b a (aP a) c.1;have e:jm v b a n=⟨v,iR (AV n) (fun i=>v.l.getD (b+i) 0#8) (aP a),n,BitVec.ofNat 64 (128*aP a),b+128*aP a,a-128*aP a⟩:=d;unfold om;rw[e,ajq n h1 h2]
 show sO (iR (bU n) _ (aP a)) (BitVec.ofNat 64 (128*aP a)+BitVec.ofInt 64 ((a-128*aP a:Nat):Int)) 0#64 18446744073709551615#64 (sd (cG v (b+128*aP a) (a-128*aP a)))=_;have f:BitVec.ofNat 64 (128*aP a)+BitVec.ofInt 64 ((a-128*aP a:Nat):Int)=BitVec.ofNat 64 a:=by
  apply mo;rw[eB,uD,g7,g7,g7];omega
 rw[TH,f,TI _ _ _ c.2];unfold eP;rw[yI (g:=fun i=>if i<a-128*aP a then v.l.getD (b+(128*aP a+i)) 0#8 else 0#8) (fun i hi=>by unfold qg;rw[iD])];rfl
end
section
open Go.ay
variable [aR][aG][bl]
def Mw:FuncId→Option ay.Spec|52=>some yH.spec|_=>none
def ajr:∀f a,Mw f=some a→br f a:=by
 intro f a h;unfold Mw at h;split at h
 ·cases h;exact ajk
 ·cases h
structure Mx where
 (v:U 8)(o iA:Nat)(n:Int)
def My(a:List af)(b:List ah):Option Mx:=
 match a with
 |[.num (.int .i64 (.s n)),.atom .cD,.ref (.sl 0 (.s c) (.s d) none),.agg e]=>
  match b with
  |[⟨.aj v,.ro⟩]=>
   (match mV e gC with
   |true=>some ⟨v,c,d,n⟩|false=>none)
  |_=>none
 |_=>none
def yK:bV Mx where
 d0:=⟨0,0,0,0⟩
 read:=My
 args:=fun⟨_,b,a,n⟩=>[.au n,.atom .cD,.ref (.sl 0 (.s b) (.s a) none),.agg (jA gC)]
 heap:=fun⟨v,_,_,_⟩=>[⟨.aj v,.ro⟩]
 out:=fun⟨v,b,a,n⟩=>[⟨.aj v,.ro⟩,⟨.aj ((dj v b a n)).u,.own⟩]
 val:=fun⟨v,b,a,n⟩=>(.obj .bA [.ref (.sl 1 (.c 0) (.s ((dj v b a n)).k) none),.atom (.bool (.c true))])
 aT:=fun⟨v,b,a,n⟩=>decide (1≤n∧n≤64∧b+a≤v.n∧a≤1099511627776)
def ajs(v:U 8)(b a:Nat)(n:Int):yK.fR ⟨v,b,a,n⟩ (some [0,5]) (b9 Mw aU 27) (bt 11 0) [decide ((1≤n∧(n≤64∧((b+a)≤v.n∧a≤1099511627776)))),(decide (64<n)==false),(decide (64<n)==false),(decide (64<n)==false),(decide (64<n)==false),(decide (64<n)==false),(decide (64<n)==false),(decide (n<1)==false),(decide (n<1)==false),(decide (n<1)==false),(decide (n<1)==false),(decide (n<1)==false)]:=by show _=_;kernel_rfl
def ajt(a:List af)(b:List ah)(d:Mx)(h:yK.read a b=some d):a=yK.args d∧b=yK.heap d:=by
 replace h:My a b=some d:=h;unfold My at h;split at h
 case h_2=>cases h
 split at h
 case h_2=>cases h
 split at h
 case h_2=>cases h
 rename_i c;obtain rfl:=qU c;cases h;exact⟨rfl,rfl⟩
def aju:br 27 yK.spec:=by
 refine yK.ok (dn ajr (cL _)) ajt ?_;rintro⟨v,b,c,n⟩ a;have a:=bg a;refine⟨(bt 11 0),(some [0,5]),_,ajs v b c n,?_⟩
 repeat'(refine aA ?_ ?_)
 all_goals first|exact aX|rfl|(simp only[cz]<;>omega)
structure TO where
 x:BitVec 32
def Mz(a:List af)(b:List ah):Option TO:=
 match a with
 |[.num (.aF c)]=>
  match b with
  |[]=>some ⟨c⟩|_=>none
 |_=>none
def Dz:bV TO where
 d0:=⟨0⟩
 read:=Mz
 args:=fun⟨a⟩=>[.num (.aF a)]
 heap:=fun⟨_⟩=>[]
 out:=fun⟨a⟩=>[⟨.gen [.num (.bP (((a>>>0)).setWidth 8)),.num (.bP (((a>>>8)).setWidth 8)),.num (.bP (((a>>>16)).setWidth 8)),.num (.bP (((a>>>24)).setWidth 8))],.own⟩]
 val:=fun⟨_⟩=>(.sl 0 (.c 0) (.c 4) none)
 aT:=fun⟨_⟩=>decide (True)
def ajv(a:BitVec 32):Dz.fR ⟨a⟩ (some [0]) (b9 ck aU 18) [] []:=by show _=_;kernel_rfl
def ajw:Dz.Rd:=by
 intro a b d h;change Mz a b=some d at h;unfold Mz at h;repeat' split at h
 all_goals cases h
 exact⟨rfl,rfl⟩
def ajx:br 18 Dz.spec:=by
 refine Dz.ok (dn fK (cL _)) ajw ?_;rintro⟨a⟩ b;refine⟨[],(some [0]),_,ajv a,?_⟩
 repeat'(refine aA ?_ ?_)
 all_goals first|exact aX|rfl|(simp only[cz]<;>omega)
def sU:FuncId→Option ay.Spec|27=>some yK.spec|18=>some Dz.spec|_=>none
def MA:∀f a,sU f=some a→br f a:=by
 intro f a h;unfold sU at h;split at h
 ·cases h;exact aju
 ·cases h;exact ajx
 ·cases h
def TP(v:U 8)(h:bq)(n:Int)(u:U 8)(k:Nat)(i:Int)(a:k=u.n):∀m,(iter sR m ⟨v,h,n,u,k,i⟩).u.n=u.n+m∧(iter sR m ⟨v,h,n,u,k,i⟩).k=u.n+m
 |0=>⟨rfl,a⟩|m+1=>by
  obtain⟨h1,h2⟩:=TP v h n u k i a m;rw[gG];generalize iter sR m ⟨v,h,n,u,k,i⟩=b at h1 h2;obtain⟨v',e,f,c,d,g⟩:=b;simp only at h1 h2;exact⟨by show c.n+1=_;omega,by show d+1=_;omega⟩
def sV(v:U 8)(a b:Nat)(n:Int)(h1:1≤n):(dj v a b n).u.n=n.toNat∧(dj v a b n).k=n.toNat:=by
 obtain⟨e,f,c⟩:=Mn v a b n;obtain⟨h2,h3⟩:=TP v (GN (om v a b n)) (jm v a b n).n (U.of [((om v a b n).dR>>>0).setWidth 8]) 1 1 rfl (((jm v a b n).n-1).toNat);have d:(U.of [((om v a b n).dR>>>0).setWidth 8]:U 8).n=1:=rfl;rw[d,c]at h2 h3;unfold dj;rw[c];exact⟨by rw[h2];omega,by rw[h3];omega⟩
def gw(a b:Int):Int:=if decide (b<a)=true then b else a
def rA(a b:Int):gw a b=min a b:=by
 unfold gw;simp only[jI];split<;>omega
inductive bM where
 |a (d w:U 8) (N:Int) (cc:Nat)|b (d u w:U 8) (N:Int) (cy cc:Nat)
def bM.az:bM→aJ×List ah|.a d w N cc=>(⟨[.au N,.aa,.aa,.aa,.aa,.P 1,.aa,.aa,.aa,.aa,.ref (.sl 4 (.c 0) (.s cc) none),.aa,.atom .cD,.aa],[]⟩,[⟨.aj d,.ro⟩,⟨.gen (jA gC),.own⟩,cp,cp,⟨.aj w,.own⟩])|.b d u w N cy cc=>(⟨[.au N,.aa,.aa,.aa,.aa,.P 1,.aa,.aa,.aa,.aa,.ref (.sl 6 (.c 0) (.s cc) none),.aa,.ref (.sl 5 (.c 0) (.s cy) none),.aa],[]⟩,[⟨.aj d,.ro⟩,⟨.gen (jA gC),.own⟩,cp,cp,cp,⟨.aj u,.own⟩,⟨.aj w,.own⟩])
def bM.d:bM→U 8|.a d _ _ _=>d|.b d _ _ _ _ _=>d
def bM.u:bM→U 8|.a _ _ _ _=>U.of []|.b _ u _ _ _ _=>u
def bM.w:bM→U 8|.a _ w _ _=>w|.b _ _ w _ _ _=>w
def bM.cy:bM→Nat|.a _ _ _ _=>0|.b _ _ _ _ cy _=>cy
def bM.cc:bM→Nat|.a _ _ _ cc=>cc|.b _ _ _ _ _ cc=>cc
def bM.N:bM→Int|.a _ _ N _=>N|.b _ _ _ N _ _=>N
def bM.fin(d:bM):aJ×List ah:=(⟨[.num (.int .i64 (.s d.N)),.atom .aa,.atom .aa,.atom .aa,.atom .aa,.ref (.ptr 1 (.c 0)),.atom .aa,.atom .aa,.atom .aa,.atom .aa,.ref (.sl 6 (.c 0) (.s d.cc) none),.atom .aa,.ref (.sl 5 (.c 0) (.s d.cy) none),.atom .aa],[]⟩,[⟨.aj d.d,.ro⟩,⟨.gen (jA gC),.own⟩,⟨.gen [],.bn⟩,⟨.gen [],.bn⟩,⟨.gen [],.bn⟩,⟨.aj d.u,.own⟩,⟨.aj d.w,.own⟩])
def TQ(d w:U 8)(N:Int)(cc:Nat):bM:=.b d (w.sub 0 32) (dj w 0 cc (gw (N-32) 64)).u N 32 (dj w 0 cc (gw (N-32) 64)).k
def TR(d u w:U 8)(N:Int)(cy cc:Nat):bM:=.b d (u.app (w.sub 0 32)) (dj w 0 cc (gw (N-((cy+32:Nat):Int)) 64)).u N (cy+32) (dj w 0 cc (gw (N-((cy+32:Nat):Int)) 64)).k
def bM.next:bM→bM|.a d w N cc=>TQ d w N cc|.b d u w N cy cc=>TR d u w N cy cc
def bM.rem:bM→Nat|.a _ _ N _=>((N-33)/32).toNat|.b _ _ _ N cy _=>((N-cy-33)/32).toNat
def bM.aT:bM→Bool|.a _ w N cc=>decide (65≤N∧N≤1000000∧cc=64∧w.n=64)|.b _ u w N cy cc=>decide (N≤1000000∧cy=u.n∧cc=w.n∧33≤N-cy∧((N-cy≤64∧(cc:Int)=N-cy)∨(64<N-cy∧cc=64)))
def uo:eN bM where
 qV:=⟨[.au 0,.aa,.aa,.aa,.aa,.P 1,.aa,.aa,.aa,.aa,.ref (.sl 4 (.c 0) (.s 0) none),.aa,.atom .cD,.aa],[]⟩
 qW:=[⟨.aj (U.zero 8 0),.ro⟩,⟨.gen (jA gC),.own⟩,cp,cp,⟨.aj (U.zero 8 0),.own⟩]
 d0:=.a 0 0 0 0
 read b e:=
  match b with
  |⟨[.num (.int .i64 (.s N)),.atom .aa,.atom .aa,.atom .aa,.atom .aa,.ref (.ptr 1 (.c 0)),.atom .aa,.atom .aa,.atom .aa,.atom .aa,.ref (.sl 4 (.c 0) (.s cc) none),.atom .aa,.atom .cD,.atom .aa],[]⟩=>
   match e with
   |[⟨.aj d,.ro⟩,⟨.gen cs,.own⟩,⟨.gen [],.bn⟩,⟨.gen [],.bn⟩,⟨.aj w,.own⟩]=>
    match mV cs gC with
    |true=>some (.a d w N cc)|false=>none
   |_=>none
  |_=>none
 az:=bM.az
 next:=bM.next
 rem:=bM.rem
 aT:=bM.aT
 out:=.exit 0
 fin:=bM.fin
def ajy(d w:U 8)(N:Int)(cc:Nat):jc bM.az 5 (.a d w N cc) (b8 7) (bM.az (TQ d w N cc)) (bZ sU aU 20 0) [true] .normal [decide ((1≤(gw (N-32) 64)∧((gw (N-32) 64)≤64∧((0+cc)≤w.n∧cc≤1099511627776)))),cQ (N-(32:Int)),decide (((0+(0:Nat))+32)≤w.n),((true&&true)&&decide (32≤(cc:Int))),(decide ((64:Int)<(N-0))==true),cQ (N-0)]:=by show _=_;kernel_rfl
def ajz(d u w:U 8)(N:Int)(cy cc:Nat):jc bM.az 5 (.b d u w N cy cc) (some [0,1,2,3,4,7,8]) (bM.az (TR d u w N cy cc)) (bZ sU aU 20 0) [true] .normal [decide ((1≤(gw (N-((cy+32:Nat):Int)) 64)∧((gw (N-((cy+32:Nat):Int)) 64)≤64∧((0+cc)≤w.n∧cc≤1099511627776)))),cQ (N-(((cy+32):Nat):Int)),(true&&(cy==u.n)),decide (((cy+32)*1)≤1099511627776),decide (((0+(0:Nat))+32)≤w.n),((true&&true)&&decide (32≤(cc:Int))),(decide ((64:Int)<(N-(cy:Int)))==true),cQ (N-(cy:Int))]:=by show _=_;kernel_rfl
def ajA(d u w:U 8)(N:Int)(cy cc:Nat):jc bM.az 5 (.b d u w N cy cc) none (bM.fin (.b d u w N cy cc)) (bZ sU aU 20 0) [false] (.exit 0) [(decide ((64:Int)<(N-(cy:Int)))==false),cQ (N-(cy:Int))]:=by show _=_;kernel_rfl
def TT(d:bM)(e:Nat)(f:d.aT=true)(c:d.rem=e+1):(∃l m cs,eu 5 m (bM.az d.next) (bZ sU aU 20 0 (bM.az d).1 ⟨(bM.az d).2,bQ,l,[]⟩)=some (.normal,bM.az d.next,cs)∧(∀o∈cs,o=true))∧d.next.aT=true∧d.next.rem=e:=by
 match d,f,c with
 |.a d w N cc,f,c=>
  obtain⟨p,q,j,bf⟩:=bg f;have c:((N-33)/32).toNat=e+1:=c;subst j;obtain⟨g,h⟩:=sV w 0 64 (gw (N-32) 64) (by rw[rA];omega);rw[rA]at g h;refine⟨⟨[true],some [0,1,2,3,4,5,6],_,ajy d w N 64,?_⟩,?_,?_⟩
  ·repeat'(refine aA ?_ ?_)
   all_goals first|exact aX|(simp only[cz,eA,gE,rA]<;>omega)
  ·show decide (N≤1000000∧32=(w.sub 0 32).n∧(dj w 0 64 (gw (N-32) 64)).k=(dj w 0 64 (gw (N-32) 64)).u.n∧33≤N-((32:Nat):Int)∧((N-((32:Nat):Int)≤64∧(((dj w 0 64 (gw (N-32) 64)).k:Nat):Int)=N-((32:Nat):Int))∨(64<N-((32:Nat):Int)∧(dj w 0 64 (gw (N-32) 64)).k=64)))=true;rw[rA,g,h];have i:(w.sub 0 32).n=32:=rfl;rw[i];refine bu ?_;omega
  ·show((N-((32:Nat):Int)-33)/32).toNat=e;omega
 |.b d u w N cy cc,f,c=>
  obtain⟨p,q,j,bf,s⟩:=bg f;have c:((N-cy-33)/32).toNat=e+1:=c;have r:cc=64:=by omega
  have t:w.n=64:=by omega
  subst r;obtain⟨g,h⟩:=sV w 0 64 (gw (N-((cy+32:Nat):Int)) 64) (by rw[rA];omega);rw[rA]at g h;refine⟨⟨[true],some [0,1,2,3,4,7,8],_,ajz d u w N cy 64,?_⟩,?_,?_⟩
  ·repeat'(refine aA ?_ ?_)
   all_goals first|exact aX|(simp only[cz,eA,gE,rA]<;>omega)
  ·show decide (N≤1000000∧cy+32=(u.app (w.sub 0 32)).n∧(dj w 0 64 (gw (N-((cy+32:Nat):Int)) 64)).k=(dj w 0 64 (gw (N-((cy+32:Nat):Int)) 64)).u.n∧33≤N-((cy+32:Nat):Int)∧((N-((cy+32:Nat):Int)≤64∧(((dj w 0 64 (gw (N-((cy+32:Nat):Int)) 64)).k:Nat):Int)=N-((cy+32:Nat):Int))∨(64<N-((cy+32:Nat):Int)∧(dj w 0 64 (gw (N-((cy+32:Nat):Int)) 64)).k=64)))=true;rw[rA,g,h];have i:(u.app (w.sub 0 32)).n=u.n+32:=rfl;rw[i];refine bu ?_;omega
  ·show((N-((cy+32:Nat):Int)-33)/32).toNat=e;omega
def ajB:dg Tryz.prog bB (an 20) (bS Tryz.prog 20) (bh Tryz.prog 20 0) (bZ sU aU 20 0):=iz MA (cL _) 20 0 Q8 (by rw[show(cI Tryz.prog 20).length=1 by kernel_rfl];omega)
def ajC(b:aJ)(a:List ah)(d:bM)(h:uo.read b a=some d):(b,a)=uo.az d∧5+uo.cH.length=a.length:=by
 simp only[uo]at h;split at h
 case h_2=>cases h
 split at h
 case h_2=>cases h
 split at h
 case h_2=>cases h
 rename_i c;obtain rfl:=qU c;cases h;exact⟨rfl,rfl⟩
def ajD:eF Tryz.prog bB (an 20) (bS Tryz.prog 20) (bh Tryz.prog 20 0) uo.T.told:=by
 refine uo.aaR (fun _=>5) ajB (by intro k f;simp[uo]at f;done) (by intro h;cases h) ajC (fun d k e c=>?_) (fun d e c=>?_)
 ·obtain⟨h1,h2,h3⟩:=TT d k e c;exact⟨h1,h2,h3,rfl⟩
 ·match d,e,c with
  |.a d w N cc,e,c=>
   obtain⟨g,i,j,bf⟩:=bg e;have c:((N-33)/32).toNat=0:=c;omega
  |.b d u w N cy cc,e,c=>
   obtain⟨g,i,j,bf,l⟩:=bg e;have c:((N-cy-33)/32).toNat=0:=c;refine⟨[false],none,_,ajA d u w N cy cc,?_⟩
   repeat'(refine aA ?_ ?_)
   all_goals first|exact aX|(simp only[cz,eA,gE,rA]<;>omega)
def ajE:Told 20 0 uo.T.told:=ajD.run
def TU:cP:=uo.T.told
def AX:FuncId→Nat→Option cP|20,7=>some TU|_,_=>none
def ajF:(cI Tryz.prog 20).length=1:=by kernel_rfl
def ajG(spec:FuncId→Option ay.Spec):c6 (dh spec AX) bB:=by
 refine c6.of fun f=>?_;by_cases a:f=20
 ·subst a;refine .inr ⟨by kernel_rfl,fun i hi e b=>?_⟩;have hi:i<(cI Tryz.prog 20).length:=hi;rw[ajF]at hi;have c:i=0:=by omega
  rcases c with rfl
  ·have d:(bY (bh Tryz.prog 20 0)).bind (AX 20)=some TU:=by kernel_rfl
   obtain rfl:=dV (d.symm.trans b);exact ajE
 ·refine .inl fun r=>?_
  show AX f r=none;unfold AX;split
  ·exact absurd rfl a
  ·rfl
def f4(N:Int):U 8:=U.of [((BitVec.ofInt 32 N)>>>0).setWidth 8,((BitVec.ofInt 32 N)>>>8).setWidth 8,((BitVec.ofInt 32 N)>>>16).setWidth 8,((BitVec.ofInt 32 N)>>>24).setWidth 8]
def cO(v:U 8)(a b:Nat)(N:Int):U 8:=(f4 N).app (v.sub a b)
def eR(d b:U 8)(ag:Nat)(N:Int):bM:=iter bM.next ((N-33)/32).toNat (.a d (dj b 0 ag 64).u N (dj b 0 ag 64).k)
def ajH(v:U 8)(b a:Nat)(N:Int):nK 1 (some [0,4]) [⟨.aj v,.ro⟩,⟨.aj (dj (cO v b a N) 0 (4+a) N).u,.own⟩] (.sl 1 (.c 0) (.s (dj (cO v b a N) 0 (4+a) N).k) none) (b9 sU AX 20 [.au N,.ref (.sl 0 (.s b) (.s a) none),.agg (jA gC)] ⟨[⟨.aj v,.ro⟩],bQ,[true],[]⟩) [decide (((1:Int)≤N∧(N≤64∧((0+(4+a))≤(4+a)∧(4+a)≤1099511627776)))),(decide (N≤64)==true),decide (((4+a)*1)≤1099511627776),decide ((b+a)≤v.n),true]:=by show _=_;kernel_rfl
def ajI(v:U 8)(d b:Nat)(N:Int):nK 1 (some [0,7]) [⟨.aj v,.ro⟩,⟨.aj (bM.u (eR v (cO v d b N) (4+b) N) |>.app ((bM.w (eR v (cO v d b N) (4+b) N)).sub 0 (bM.cc (eR v (cO v d b N) (4+b) N)))),.own⟩] (.sl 1 (.c 0) (.s (bM.cy (eR v (cO v d b N) (4+b) N)+bM.cc (eR v (cO v d b N) (4+b) N))) none) (b9 sU AX 20 [.au N,.ref (.sl 0 (.s d) (.s b) none),.agg (jA gC)] ⟨[⟨.aj v,.ro⟩],bQ,[false],[]⟩) [(true&&((bM.cy (eR v (cO v d b N) (4+b) N))==(bM.u (eR v (cO v d b N) (4+b) N)).n)),decide ((((bM.cy (eR v (cO v d b N) (4+b) N))+(bM.cc (eR v (cO v d b N) (4+b) N)))*1)≤1099511627776),decide ((0+(bM.cc (eR v (cO v d b N) (4+b) N)))≤(bM.w (eR v (cO v d b N) (4+b) N)).n),(bM.aT (.a v (dj (cO v d b N) 0 (4+b) 64).u N (dj (cO v d b N) 0 (4+b) 64).k)),decide (((1:Int)≤64∧((64:Int)≤64∧((0+(4+b))≤(4+b)∧(4+b)≤1099511627776)))),(decide (N≤64)==false),decide (((4+b)*1)≤1099511627776),decide ((d+b)≤v.n),decide (True)]:=by show _=_;kernel_rfl
def fA(v:U 8)(b a:Nat)(N:Int):U 8:=if N≤64 then(dj (cO v b a N) 0 (4+a) N).u else(bM.u (eR v (cO v b a N) (4+a) N)).app ((bM.w (eR v (cO v b a N) (4+a) N)).sub 0 (bM.cc (eR v (cO v b a N) (4+a) N)))
def wK(v:U 8)(b a:Nat)(N:Int):Nat:=if N≤64 then(dj (cO v b a N) 0 (4+a) N).k else bM.cy (eR v (cO v b a N) (4+a) N)+bM.cc (eR v (cO v b a N) (4+a) N)
def TV:∀(k:Nat) (d:bM),d.aT=true→d.rem=k→(iter bM.next k d).aT=true∧(iter bM.next k d).rem=0∧(iter bM.next k d).N=d.N
 |0,d,f,g=>⟨f,g,rfl⟩|k+1,d,f,g=>by
  obtain⟨_,h2,h3⟩:=TT d k f g;have h:iter bM.next (k+1) d=iter bM.next k (d.next):=by
   have:∀(j:Nat) (e:bM),iter bM.next (j+1) e=iter bM.next j (bM.next e):=by
    intro j
    induction j with
    |zero=>intro e;rfl|succ j i=>intro e;rw[gG bM.next (j+1) e,i e,←gG bM.next j (bM.next e)]
   exact this k d
  rw[h];obtain⟨a,b,c⟩:=TV k d.next h2 h3;refine⟨a,b,c.trans ?_⟩;cases d<;>rfl
def TW(v:U 8)(c b:Nat)(N:Int)(h1:65≤N)(h2:N≤1000000):bM.aT (.a v (dj (cO v c b N) 0 (4+b) 64).u N (dj (cO v c b N) 0 (4+b) 64).k)=true:=by
 obtain⟨d,e⟩:=sV (cO v c b N) 0 (4+b) 64 (by omega);have d:(dj (cO v c b N) 0 (4+b) 64).u.n=64:=d;have e:(dj (cO v c b N) 0 (4+b) 64).k=64:=e
 show decide (65≤N∧N≤1000000∧(dj (cO v c b N) 0 (4+b) 64).k=64∧(dj (cO v c b N) 0 (4+b) 64).u.n=64)=true;rw[d,e];exact bu ⟨h1,h2,rfl,rfl⟩
def MB(v:U 8)(e c:Nat)(N:Int)(h1:65≤N)(h2:N≤1000000):bM.cy (eR v (cO v e c N) (4+c) N)=(bM.u (eR v (cO v e c N) (4+c) N)).n∧bM.cc (eR v (cO v e c N) (4+c) N)=(bM.w (eR v (cO v e c N) (4+c) N)).n∧((bM.cy (eR v (cO v e c N) (4+c) N)+bM.cc (eR v (cO v e c N) (4+c) N):Nat):Int)=N∧bM.cc (eR v (cO v e c N) (4+c) N)≤64:=by
 obtain⟨g,f,h⟩:=TV ((N-33)/32).toNat (.a v (dj (cO v e c N) 0 (4+c) 64).u N (dj (cO v e c N) 0 (4+c) 64).k) (TW v e c N h1 h2) rfl;have h:bM.N (eR v (cO v e c N) (4+c) N)=N:=h;have g:bM.aT (eR v (cO v e c N) (4+c) N)=true:=g;have f:bM.rem (eR v (cO v e c N) (4+c) N)=0:=f;generalize(eR v (cO v e c N) (4+c) N)=d at g f h;cases d with
 |a d w i cc=>
  obtain⟨j,l,m,bf⟩:=bg g;have f:((i-33)/32).toNat=0:=f;omega
 |b d u w i cy cc=>
  obtain⟨j,l,m,bf,o⟩:=bg g;have f:((i-cy-33)/32).toNat=0:=f;have h:i=N:=h
  show cy=u.n∧cc=w.n∧((cy+cc:Nat):Int)=N∧cc≤64;omega
structure DC where
 (v:U 8)(o iA:Nat)(N:Int)
def MC(a:List af)(b:List ah):Option DC:=
 match a with
 |[.num (.int .i64 (.s N)),.ref (.sl 0 (.s c) (.s d) none),.agg e]=>
  match b with
  |[⟨.aj v,.ro⟩]=>
   (match mV e gC with
   |true=>some ⟨v,c,d,N⟩|false=>none)
  |_=>none
 |_=>none
def jD:bV DC where
 d0:=⟨0,0,0,0⟩
 read:=MC
 args:=fun⟨_,b,a,N⟩=>[.au N,.ref (.sl 0 (.s b) (.s a) none),.agg (jA gC)]
 heap:=fun⟨v,_,_,_⟩=>[⟨.aj v,.ro⟩]
 out:=fun⟨v,b,a,N⟩=>[⟨.aj v,.ro⟩,⟨.aj (fA v b a N),.own⟩]
 val:=fun⟨v,b,a,N⟩=>(.sl 1 (.c 0) (.s (wK v b a N)) none)
 aT:=fun⟨v,b,a,N⟩=>decide (1≤N∧N≤100000∧b+a≤v.n∧a≤1000000)
def TX(a:List af)(b:List ah)(d:DC)(h:jD.read a b=some d):a=jD.args d∧b=jD.heap d:=by
 replace h:MC a b=some d:=h;unfold MC at h;split at h
 case h_2=>cases h
 split at h
 case h_2=>cases h
 split at h
 case h_2=>cases h
 rename_i c;obtain rfl:=qU c;cases h;exact⟨rfl,rfl⟩
def ajJ:br 20 jD.spec:=by
 refine jD.ok (dn MA (ajG _)) TX ?_;rintro⟨v,b,a,N⟩ f;have f:=bg f;have ex:(cO v b a N).n=4+(v.sub b a).n:=rfl;have ev:(v.sub b a).n=a:=rfl;by_cases h1:N≤64
 ·have d:jD.out ⟨v,b,a,N⟩=([⟨.aj v,.ro⟩,⟨.aj (dj (cO v b a N) 0 (4+a) N).u,.own⟩]:List ah):=by
   show([⟨.aj v,.ro⟩,⟨.aj (fA v b a N),.own⟩]:List ah)=_;unfold fA;rw[ax h1]
  have e:jD.val ⟨v,b,a,N⟩=(.ref (.sl 1 (.c 0) (.s (dj (cO v b a N) 0 (4+a) N).k) none):af):=by
   show(af.ref (.sl 1 (.c 0) (.s (wK v b a N)) none))=_;unfold wK;rw[ax h1]
  rw[d,e];refine⟨[true],some [0,4],_,ajH v b a N,?_⟩
  repeat'(refine aA ?_ ?_)
  all_goals first|exact aX|(simp only[cz,eA,gE]<;>omega)
 ·have d:jD.out ⟨v,b,a,N⟩=([⟨.aj v,.ro⟩,⟨.aj ((bM.u (eR v (cO v b a N) (4+a) N)).app ((bM.w (eR v (cO v b a N) (4+a) N)).sub 0 (bM.cc (eR v (cO v b a N) (4+a) N)))),.own⟩]:List ah):=by
   show([⟨.aj v,.ro⟩,⟨.aj (fA v b a N),.own⟩]:List ah)=_;unfold fA;rw[ak h1]
  have e:jD.val ⟨v,b,a,N⟩=(.ref (.sl 1 (.c 0) (.s (bM.cy (eR v (cO v b a N) (4+a) N)+bM.cc (eR v (cO v b a N) (4+a) N))) none):af):=by
   show(af.ref (.sl 1 (.c 0) (.s (wK v b a N)) none))=_;unfold wK;rw[ak h1]
  rw[d,e];obtain⟨h,i,j,l⟩:=MB v b a N (by omega) (by omega);have g:=TW v b a N (by omega) (by omega);refine⟨[false],some [0,7],_,ajI v b a N,?_⟩
  repeat'(refine aA ?_ ?_)
  all_goals first|exact aX|exact g|(simp only[cz,eA,gE]<;>omega)
def k8(a:bq)(i:Nat):BitVec 8:=(KI a).getD i 0#8
def ajK(h:bq):∀i:Nat,i<64→Dv h (i:Int)=k8 h i|0,_=>rfl|1,_=>rfl|2,_=>rfl|3,_=>rfl|4,_=>rfl|5,_=>rfl|6,_=>rfl|7,_=>rfl|8,_=>rfl|9,_=>rfl|10,_=>rfl|11,_=>rfl|12,_=>rfl|13,_=>rfl|14,_=>rfl|15,_=>rfl|16,_=>rfl|17,_=>rfl|18,_=>rfl|19,_=>rfl|20,_=>rfl|21,_=>rfl|22,_=>rfl|23,_=>rfl|24,_=>rfl|25,_=>rfl|26,_=>rfl|27,_=>rfl|28,_=>rfl|29,_=>rfl|30,_=>rfl|31,_=>rfl|32,_=>rfl|33,_=>rfl|34,_=>rfl|35,_=>rfl|36,_=>rfl|37,_=>rfl|38,_=>rfl|39,_=>rfl|40,_=>rfl|41,_=>rfl|42,_=>rfl|43,_=>rfl|44,_=>rfl|45,_=>rfl|46,_=>rfl|47,_=>rfl|48,_=>rfl|49,_=>rfl|50,_=>rfl|51,_=>rfl|52,_=>rfl|53,_=>rfl|54,_=>rfl|55,_=>rfl|56,_=>rfl|57,_=>rfl|58,_=>rfl|59,_=>rfl|60,_=>rfl|61,_=>rfl|62,_=>rfl|63,_=>rfl|i+64,h=>absurd h (by omega)
def uq(u a:U 8)(i:Nat):(u.app a).l.getD i 0#8=if i<u.n then u.l.getD i 0#8 else a.l.getD (i-u.n) 0#8:=by
 have b:=u.h
 show(u.l++a.l).getD i 0#8=_;simp only[dY];split
 ·rw[gV (by omega)]
 ·rw[gL (by omega),b]
def TY(v:U 8)(h:bq)(n:Int)(u:U 8)(b:u.n=1)(c:u.l.getD 0 0#8=k8 h 0):∀m,m<64→∃a,iter sR m ⟨v,h,n,u,1,1⟩=⟨v,h,n,a,m+1,((m+1:Nat):Int)⟩∧a.n=m+1∧∀i,i<m+1→a.l.getD i 0#8=k8 h i
 |0,_=>⟨u,rfl,b,fun i hi=>by obtain rfl:i=0:=by omega
                             exact c⟩
 |m+1,g=>by
  obtain⟨a,d,e,f⟩:=TY v h n u b c m (by omega);refine⟨a.app (U.of [Dv h ((m+1:Nat):Int)]),?_,by show a.n+1=_;omega,fun i hi=>?_⟩
  ·rw[gG,d];rfl
  ·rw[uq];split
   ·exact f i (by omega)
   ·obtain rfl:i=m+1:=by omega
    rw[ajK h (m+1) (by omega),e,Wr];rfl
def DD(v:U 8)(V Q:Nat)(n:Int)(h1:1≤n)(h2:n≤64):∀i,i<n.toNat→(dj v V Q n).u.l.getD i 0#8=k8 (om v V Q n) i:=by
 intro i hi;obtain⟨d,e,a⟩:=Mn v V Q n;obtain⟨f,b,g,c⟩:=TY v (GN (om v V Q n)) (jm v V Q n).n (U.of [((om v V Q n).dR>>>0).setWidth 8]) rfl rfl (((jm v V Q n).n-1).toNat) (by rw[a];omega);unfold dj;rw[b];exact c i (by rw[a];omega)
def ajL(a:bq):(U.of (KI a)).n=64:=rfl
def TZ(a:bq)(v:U 8)(V:Nat)(b:Int):(e8 a v V b).n=v.n:=rfl
def yL(b:bq)(v:U 8)(V:Nat)(a:Int)(i:Nat)(h1:0≤a)(h2:a≤64)(h3:V+a.toNat≤v.n)(hi:i<v.n):(e8 b v V a).l.getD i 0#8=if V≤i∧i<V+a.toNat then k8 b (i-V)else v.l.getD i 0#8:=by
 unfold e8;rw[AW _ _ _ _ (by rw[qh];exact h3) hi,qh];split
 ·rw[pF _ _ _ _ (by rw[ajL];omega) (by omega),cM];rfl
 ·rfl
def iS(Q:Nat)(w:U 8)(T:Nat)(i:Nat):BitVec 8:=if i<4 then(gN Q).l.getD i 0#8 else w.l.getD (T+(i-4)) 0#8
def MD(c:Int)(w:U 8)(Q T R:Nat)(h:T+R≤w.n)(d:R≤1000000):gB (qY c w Q T R)=eP (bU c) (iS Q w T) (4+R):=by
 have a:=eI.step (eI.new c (iS Q w T) p9) (gN Q) 0 4 (by rw[C4];omega) (fun i hi=>by unfold iS;simp only[cM];rw[ax hi]);have b:=eI.step a w T R h (fun i hi=>by unfold iS;rw[ak (by omega)];congr 2;omega);rw[cM]at b;exact GR b (by omega)
def T0(n:Int)(w:U 8)(Q T R:Nat)(h:T+R≤w.n)(b:R≤1000000)(h1:1≤n)(h2:n≤64):om (cO w T R (Q:Int)) 0 (4+R) n=eP (bU n) (iS Q w T) (4+R):=by
 rw[GU _ _ _ _ h1 h2 (by omega)];refine Dw _ _ fun i hi=>?_;unfold cO iS;rw[cM,uq];have a:(f4 (Q:Int)).n=4:=rfl;rw[a];by_cases h4:i<4
 ·rw[ax h4,ax h4]
  match i,h4 with
  |0,_=>rfl|1,_=>rfl|2,_=>rfl|3,_=>rfl
 ·rw[ak h4,ak h4,pF _ _ _ _ h (by omega)]
def GV(c:Int)(d b:U 8)(P:Nat→BitVec 8)(f:b.n=64)(e:∀i,i<64→b.l.getD i 0#8=P i):gB (jh ⟨bU c,0#64,d,0⟩ b 0 64)=eP (bU c) P 64:=by
 have a:=eI.step (eI.new c P d) b 0 64 (by omega) (fun i hi=>by simp only[cM];exact e i hi);rw[cM]at a;exact GR a (by omega)
def T1(n:Int)(b:U 8)(P:Nat→BitVec 8)(h1:1≤n)(h2:n≤64)(a:∀i,i<64→b.l.getD i 0#8=P i):om b 0 64 n=eP (bU n) P 64:=by
 rw[GU _ _ _ _ h1 h2 (by omega)];exact Dw _ _ fun i hi=>by rw[cM];exact a i hi
def mh(Q:Nat)(w:U 8)(T R:Nat):Nat→Nat→BitVec 8|0=>k8 (eP (bU 64) (iS Q w T) (4+R))|k+1=>k8 (eP (bU 64) (mh Q w T R k) 64)
section
variable(v w:U 8)(V Q W T R:Nat)
def ME(t:64<Q)(u:Q≤W)(x:V+W≤v.n)(hi:T+R≤w.n)(g:R≤1000000):∀k,k≤(Q-65)/32→
 (∀i,i<64→(iter l7 k (qa v w V Q W T R)).b.l.getD i 0#8=mh Q w T R k i)∧
 (∀i,i<32*(k+1)→(iter l7 k (qa v w V Q W T R)).v.l.getD (V+i) 0#8=mh Q w T R (i/32) (i%32))
 |0,_=>by
  have a:∀i,i<64→(e8 (gB (qY 64 w Q T R)) (gN Q) 0 64).l.getD i 0#8=mh Q w T R 0 i:=fun i h=>by
   rw[yL _ _ _ _ _ (by omega) (by omega) (by rw[C4];omega) (by rw[C4];exact h),ax (by omega),MD 64 w Q T R hi g,gE];rfl
  refine⟨a,fun i h=>?_⟩
  show(v.over V ((e8 (gB (qY 64 w Q T R)) (gN Q) 0 64).sub 0 (Nat.min 32 Q))).l.getD (V+i) 0#8=_;have c:Nat.min 32 Q=32:=by show min 32 Q=32;omega
  rw[c,AW _ _ _ _ (by rw[qh];omega) (by omega),qh,ax (by omega),pF _ _ _ _ (by rw[TZ,C4];omega) (by omega),cM,uF,a i (by omega),show i/32=0 by omega,show i%32=i by omega]
 |k+1,E=>by
  obtain⟨h1,h2⟩:=ME t u x hi g k (by omega);have j:=AB v w V Q W T R k;rw[gG];generalize iter l7 k (qa v w V Q W T R)=d at h1 h2 j;obtain⟨v',w',b,F,H,I,e,ag,J,m,f,K,N⟩:=d;obtain⟨y,o,z,p,q,r,s,A,B,C,D⟩:=j;simp only at y o z p q r s A B C D h1 h2;subst p q r s;have a:∀i,i<64→(e8 (gB (jh ⟨bU 64,0#64,e,0⟩ b 0 64)) b 0 64).l.getD i 0#8=mh Q w T R (k+1) i:=fun i h=>by
   rw[yL _ _ _ _ _ (by omega) (by omega) (by omega) (by omega),ax (by omega),GV 64 e b (mh Q w T R k) o h1,gE];rfl
  refine⟨a,fun i h=>?_⟩
  show(v'.over m ((e8 (gB (jh ⟨bU 64,0#64,e,0⟩ b 0 64)) b 0 64).sub 0 (Nat.min 32 f))).l.getD (V+i) 0#8=_;have c:Nat.min 32 f=32:=by show min 32 f=32;omega
  rw[c,AW _ _ _ _ (by rw[qh];omega) (by omega),qh];split
  ·rw[pF _ _ _ _ (by rw[TZ];omega) (by omega),cM,a _ (by omega),show i/32=k+1 by omega,show V+i-m=i%32 by omega]
  ·exact h2 i (by omega)
def T2(t:64<Q)(x:Q≤100000)(hi:T+R≤w.n)(p:R≤1000000):∀k,k+1≤(Q-33)/32→∃d u e cy cc,
 iter bM.next (k+1) (.a w (dj (cO w T R (Q:Int)) 0 (4+R) 64).u (Q:Int) (dj (cO w T R (Q:Int)) 0 (4+R) 64).k)=.b d u e (Q:Int) cy cc∧cy=32*(k+1)∧u.n=32*(k+1)∧
 (cc:Int)=min ((Q:Int)-32*(k+1)) 64∧e.n=cc∧(∀i,i<32*(k+1)→u.l.getD i 0#8=mh Q w T R (i/32) (i%32))∧
 (∀i,i<cc→e.l.getD i 0#8=k8 (eP (bU (min ((Q:Int)-32*(k+1)) 64)) (mh Q w T R k) 64) i)
 |0,y=>by
  obtain⟨q,m⟩:=sV (cO w T R (Q:Int)) 0 (4+R) 64 (by omega);have r:=DD (cO w T R (Q:Int)) 0 (4+R) 64 (by omega) (by omega);rw[T0 64 w Q T R hi p (by omega) (by omega)]at r;generalize dj (cO w T R (Q:Int)) 0 (4+R) 64=z at *;have q:z.u.n=64:=q;have m:z.k=64:=m;have g:∀i,i<64→z.u.l.getD i 0#8=mh Q w T R 0 i:=fun i h=>r i h;have c:gw ((Q:Int)-32) 64=min ((Q:Int)-32*((0:Nat)+1)) 64:=by rw[rA];omega
  obtain⟨o,f⟩:=sV z.u 0 64 (gw ((Q:Int)-32) 64) (by rw[c];omega);have j:=DD z.u 0 64 (gw ((Q:Int)-32) 64) (by rw[c];omega) (by rw[c];omega);rw[T1 _ z.u (mh Q w T R 0) (by rw[c];omega) (by rw[c];omega) g]at j;refine⟨w,z.u.sub 0 32,(dj z.u 0 64 (gw ((Q:Int)-32) 64)).u,32,(dj z.u 0 64 (gw ((Q:Int)-32) 64)).k,?_,rfl,rfl,?_,by rw[o,f],fun i h=>?_,fun i h=>?_⟩
  ·rw[m];rfl
  ·rw[f,c];omega
  ·rw[pF _ _ _ _ (by omega) (by omega),cM,g _ (by omega),show i/32=0 by omega,show i%32=i by omega]
  ·rw[j i (by rw[f]at h;exact h),c]
 |k+1,y=>by
  obtain⟨d,u,e,cy,cc,A,E,F,H,I,B,s⟩:=T2 t x hi p k (by omega);have C:cc=64:=by omega
  have D:min ((Q:Int)-32*(k+1)) 64=64:=by omega
  rw[D]at s;subst C;have g:∀i,i<64→e.l.getD i 0#8=mh Q w T R (k+1) i:=fun i h=>s i h;have c:gw ((Q:Int)-((cy+32:Nat):Int)) 64=min ((Q:Int)-32*(((k+1:Nat):Int)+1)) 64:=by rw[rA];omega
  obtain⟨o,f⟩:=sV e 0 64 (gw ((Q:Int)-((cy+32:Nat):Int)) 64) (by rw[c];omega);have j:=DD e 0 64 (gw ((Q:Int)-((cy+32:Nat):Int)) 64) (by rw[c];omega) (by rw[c];omega);rw[T1 _ e (mh Q w T R (k+1)) (by rw[c];omega) (by rw[c];omega) g]at j;refine⟨d,u.app (e.sub 0 32),(dj e 0 64 (gw ((Q:Int)-((cy+32:Nat):Int)) 64)).u,cy+32,(dj e 0 64 (gw ((Q:Int)-((cy+32:Nat):Int)) 64)).k,?_,by omega,by show u.n+32=_;omega,?_,by rw[o,f],fun i h=>?_,fun i h=>?_⟩
  ·rw[gG,A];rfl
  ·rw[f,c];omega
  ·rw[uq];split
   ·exact B i (by omega)
   ·rw[pF _ _ _ _ (by omega) (by omega),cM,g _ (by omega),show i/32=k+1 by omega,show i-u.n=i%32 by omega]
  ·rw[j i (by rw[f]at h;exact h),c]
def T3(h1:1≤Q)(z:Q≤100000)(A:Q≤W)(B:V+W≤v.n)(hi:T+R≤w.n)(a:R≤1000000):∀i,i<Q→(fZ v w V Q W T R).l.getD (V+i) 0#8=(fA w T R (Q:Int)).l.getD i 0#8:=by
 intro i ad;unfold fZ fA;by_cases j:Q≤64
 ·rw[ax j,ax (by omega),yL _ _ _ _ _ (by omega) (by omega) (by omega) (by omega),ax (by omega),MD _ w Q T R hi a,DD _ _ _ _ (by omega) (by omega) i (by omega),T0 _ w Q T R hi a (by omega) (by omega),uF]
 ·rw[ak j,ak (show¬(Q:Int)≤64 by omega)];obtain⟨c,e⟩:=ME v w V Q W T R (by omega) A B hi a ((Q-65)/32) (aV _);have k:=AB v w V Q W T R ((Q-65)/32);obtain⟨d,u,f,cy,cc,C,ae,af,E,ah,F,m⟩:=T2 w Q T R (by omega) z hi a ((Q-65)/32) (by omega);have H:eR w (cO w T R (Q:Int)) (4+R) (Q:Int)=.b d u f (Q:Int) cy cc:=by
   rw[←C];unfold eR;congr 1;omega
  have I:bH v w V Q W T R=iter l7 ((Q-65)/32) (qa v w V Q W T R):=by
   unfold bH;rw[show Q-32-33=Q-65 by omega]
  rw[H,I];generalize iter l7 ((Q-65)/32) (qa v w V Q W T R)=D at c e k;obtain⟨v',w',b,ai,aj,al,J,ag,am,K,an,ao,N⟩:=D;obtain⟨L,g,M,o,p,q,r,O,P,X,s⟩:=k;simp only at L g M o p q r O P X s c e;subst o p q r s;have Y:((Q:Int)+31).tdiv 32=((Q:Int)+31)/32:=pK (by omega);have t:(Q:Int).tmod 64=(Q:Int)%64:=oB (by omega);have Z:min ((Q:Int)-32*(((Q-65)/32:Nat)+1)) 64=(Q:Int)-32*(((Q-65)/32:Nat)+1):=by omega
  rw[Z]at E m
  show _=(u.app (f.sub 0 cc)).l.getD i 0#8;have x:∀(h:bq) (S:Int),S=(Q:Int)-32*(((Q-65)/32:Nat)+1)→h=eP (bU S) (mh Q w T R ((Q-65)/32)) 64→(e8 h v' K S).l.getD (V+i) 0#8=(u.app (f.sub 0 cc)).l.getD i 0#8:=by
   intro h S aa ab;rw[yL _ _ _ _ _ (by omega) (by omega) (by omega) (by omega),uq];by_cases y:i<u.n
   ·rw[ak (by omega),ax y,e i (by omega),F i (by omega)]
   ·rw[ax (by omega),ak y,pF _ _ _ _ (by omega) (by omega),cM,m _ (by omega),ab,aa];congr 1;omega
  by_cases h3:0<(Q:Int).tmod 64
  ·show(if 0<(Q:Int).tmod 64 then _ else _:U 8).l.getD (V+i) 0#8=_;rw[ax h3];rw[t]at h3;refine x _ _ ?_ (GV _ p9 b _ g c)
   show(Q:Int)-32*(((Q:Int)+31).tdiv 32-2)=_;rw[Y];omega
  ·show(if 0<(Q:Int).tmod 64 then _ else _:U 8).l.getD (V+i) 0#8=_;rw[ak h3];rw[t]at h3;exact x _ 64 (by omega) (GV 64 J b _ g c)
end
def T4(t m:BitVec 32)(p k a:Int)(n:Nat):U 8:=U.of [((BitVec.ofInt 32 p)>>>0).setWidth 8,((BitVec.ofInt 32 p)>>>8).setWidth 8,((BitVec.ofInt 32 p)>>>16).setWidth 8,((BitVec.ofInt 32 p)>>>24).setWidth 8,((BitVec.ofInt 32 k)>>>0).setWidth 8,((BitVec.ofInt 32 k)>>>8).setWidth 8,((BitVec.ofInt 32 k)>>>16).setWidth 8,((BitVec.ofInt 32 k)>>>24).setWidth 8,(m>>>0).setWidth 8,(m>>>8).setWidth 8,(m>>>16).setWidth 8,(m>>>24).setWidth 8,(t>>>0).setWidth 8,(t>>>8).setWidth 8,(t>>>16).setWidth 8,(t>>>24).setWidth 8,19#8,0#8,0#8,0#8,((BitVec.ofInt 32 a)>>>0).setWidth 8,((BitVec.ofInt 32 a)>>>8).setWidth 8,((BitVec.ofInt 32 a)>>>16).setWidth 8,((BitVec.ofInt 32 a)>>>24).setWidth 8,((BitVec.ofInt 32 (n:Int))>>>0).setWidth 8,((BitVec.ofInt 32 (n:Int))>>>8).setWidth 8,((BitVec.ofInt 32 (n:Int))>>>16).setWidth 8,((BitVec.ofInt 32 (n:Int))>>>24).setWidth 8]
def gD(a:U 8)(v:U 8)(b n:Nat):U 8:=(a.app (sw n)).app (v.sub b n)
def ur(a b c e:U 8)(f d g h i j l n:Nat)(t m:BitVec 32)(p k o:Int):U 8:=gD (gD (gD ((T4 t m p k o d).app (a.sub f d)) b g h) c i j) e l n
def rB(a b c d:Nat):Nat:=28+a+4+b+4+c+4+d
structure DF where
 (a b c e:U 8)(bD na bC nb bO bG bW ne:Nat)(t m:BitVec 32)(p k aN:Int)
def MF(a:List af)(d:List ah):Option DF:=
 match a with
 |[.num (.int .i64 (.s e)),.ref (.sl 0 (.s f) (.s g) none),.ref (.sl 1 (.s h) (.s i) none),.ref (.sl 2 (.s j) (.s l) none),.ref (.sl 3 (.s n) (.s o) none),.num (.aF t),.num (.aF m),.num (.int .i64 (.s p)),.num (.int .i64 (.s k)),.agg q]=>
  match d with
  |[⟨.aj a,.ro⟩,⟨.aj b,.ro⟩,⟨.aj c,.ro⟩,⟨.aj r,.ro⟩]=>
   (match mV q gC with
   |true=>some ⟨a,b,c,r,f,g,h,i,j,l,n,o,t,m,p,k,e⟩|false=>none)
  |_=>none
 |_=>none
def k9:bV DF where
 d0:=⟨0,0,0,0,0,0,0,0,0,0,0,0,0,0,0,0,0⟩
 read:=MF
 args:=fun⟨_,_,_,_,i,d,j,e,l,f,o,g,t,m,p,k,q⟩=>[.au q,.ref (.sl 0 (.s i) (.s d) none),.ref (.sl 1 (.s j) (.s e) none),.ref (.sl 2 (.s l) (.s f) none),.ref (.sl 3 (.s o) (.s g) none),.num (.aF t),.num (.aF m),.au p,.au k,.agg (jA gC)]
 heap:=fun⟨a,b,c,h,_,_,_,_,_,_,_,_,_,_,_,_,_⟩=>[⟨.aj a,.ro⟩,⟨.aj b,.ro⟩,⟨.aj c,.ro⟩,⟨.aj h,.ro⟩]
 out:=fun⟨a,b,c,h,i,d,j,e,l,f,o,g,t,m,p,k,q⟩=>[⟨.aj a,.ro⟩,⟨.aj b,.ro⟩,⟨.aj c,.ro⟩,⟨.aj h,.ro⟩,⟨.aj ((dj (ur a b c h i d j e l f o g t m p k q) 0 (rB d e f g) 64)).u,.own⟩]
 val:=fun⟨a,b,c,h,i,d,j,e,l,f,o,g,t,m,p,k,q⟩=>(.sl 4 (.c 0) (.s ((dj (ur a b c h i d j e l f o g t m p k q) 0 (rB d e f g) 64)).k) none)
 aT:=fun⟨a,b,c,h,i,d,j,e,l,f,o,g,_,_,_,_,_⟩=>decide (i+d≤a.n∧d≤1000000∧j+e≤b.n∧e≤1000000∧l+f≤c.n∧f≤1000000∧o+g≤h.n∧g≤1000000)
def ajM(a b c h:U 8)(i d j e l f o g:Nat)(t m:BitVec 32)(p k q:Int):k9.fR ⟨a,b,c,h,i,d,j,e,l,f,o,g,t,m,p,k,q⟩ (some [0,1,2,3,31]) (b9 sU aU 17) [] [decide (((1:Int)≤64∧((64:Int)≤64∧((0+(((((((28+d)+4)+e)+4)+f)+4)+g))≤(((((((28+d)+4)+e)+4)+f)+4)+g)∧(((((((28+d)+4)+e)+4)+f)+4)+g)≤1099511627776)))),(true&&(((((((28+d)+4)+e)+4)+f)+4)==((((((28+d)+4)+e)+4)+f)+4))),decide (((((((((28+d)+4)+e)+4)+f)+4)+g)*1)≤1099511627776),decide ((o+g)≤h.n),(true&&((((((28+d)+4)+e)+4)+f)==(((((28+d)+4)+e)+4)+f))),decide ((((((((28+d)+4)+e)+4)+f)+4)*1)≤1099511627776),decide (True),(true&&(((((28+d)+4)+e)+4)==((((28+d)+4)+e)+4))),decide (((((((28+d)+4)+e)+4)+f)*1)≤1099511627776),decide ((l+f)≤c.n),(true&&((((28+d)+4)+e)==(((28+d)+4)+e))),decide ((((((28+d)+4)+e)+4)*1)≤1099511627776),decide (True),(true&&(((28+d)+4)==((28+d)+4))),decide (((((28+d)+4)+e)*1)≤1099511627776),decide ((j+e)≤b.n),(true&&((28+d)==(28+d))),decide ((((28+d)+4)*1)≤1099511627776),decide (True),decide (((28+d)*1)≤1099511627776),decide ((i+d)≤a.n),decide (True),decide (True),decide (True),decide (True),decide (True),decide (True),decide (True)]:=by show _=_;kernel_rfl
def T5(a:List af)(b:List ah)(d:DF)(h:k9.read a b=some d):a=k9.args d∧b=k9.heap d:=by
 replace h:MF a b=some d:=h;unfold MF at h;split at h
 case h_2=>cases h
 split at h
 case h_2=>cases h
 split at h
 case h_2=>cases h
 rename_i c;obtain rfl:=qU c;cases h;exact⟨rfl,rfl⟩
def ajN:br 17 k9.spec:=by
 refine k9.ok (dn MA (cL _)) T5 ?_;rintro⟨a,b,c,e,f,g,h,i,j,l,n,o,t,m,p,k,q⟩ d;have d:=bg d;refine⟨[],(some [0,1,2,3,31]),_,ajM a b c e f g h i j l n o t m p k q,?_⟩
 repeat'(refine aA ?_ ?_)
 all_goals first|exact aX|rfl|(simp only[cz]<;>omega)
def ajO(v:U 8)(a b:Nat)(N:Int)(h1:1≤N)(h2:N≤100000):wK v a b N=N.toNat:=by
 unfold wK;by_cases h:N≤64
 ·rw[ax h];exact(sV _ _ _ _ h1).2
 ·rw[ak h];have:=(MB v a b N (by omega) (by omega)).2.2.1;omega
def T6(v:U 8)(b a:Nat)(N:Int)(h1:1≤N)(h2:N≤100000):(fA v b a N).n=N.toNat:=by
 unfold fA;by_cases h:N≤64
 ·rw[ax h];exact(sV _ _ _ _ h1).1
 ·rw[ak h];obtain⟨c,e,f,g⟩:=MB v b a N (by omega) (by omega)
  show(bM.u _).n+_=_;rw[←c];have d:((bM.w (eR v (cO v b a N) (4+a) N)).sub 0 (bM.cc (eR v (cO v b a N) (4+a) N))).n=bM.cc (eR v (cO v b a N) (4+a) N):=rfl;rw[d];omega
def GX:bV DC:={jD with val:=fun⟨v,o,iA,N⟩=>.ref (.sl 1 (.c 0) (.s N.toNat) none)}
def ajP:br 20 GX.spec:=by
 refine GX.wq (show∀a g d,jD.read a g=some d→a=jD.args d∧g=jD.heap d from TX) fun d f β w vs j k t=>?_;obtain⟨v,b,e,N⟩:=d;have f:=bg f;obtain⟨l,m⟩:=(ajJ (jD.args ⟨v,b,e,N⟩) (jD.heap ⟨v,b,e,N⟩) [] _ (show jD.spec (jD.args ⟨v,b,e,N⟩) (jD.heap ⟨v,b,e,N⟩) []=some ⟨jD.val ⟨v,b,e,N⟩,jD.out ⟨v,b,e,N⟩,[],[jD.aT ⟨v,b,e,N⟩]⟩ by kernel_rfl)).2 (fun x n=>by rw[ta.1 n];exact bu f) β w vs j k;refine⟨l,m.mono ?_⟩;rintro y w' ⟨u,h,rfl,o,p,r⟩;refine⟨u,h,rfl,?_,p,r.q (aV _)⟩;have i:aC h (.ref (.sl 1 (.c 0) (.s (wK v b e N)) none)) u:=o;rw[ajO _ _ _ _ f.1 f.2.1]at i;exact i
def aC.ajQ{β:aE}{b n:Nat}{d:N}{u:Value}(h:aC β (.sl b d (.s n) none) u):aC β (.sl b d (.c n) none) u:=by
 cases h with
 |sl _ _ _ _ a e h1 h2 h3=>exact .sl b d (.c n) none a e h1 (fun _ h=>by cases h) h3
def GY:bV DF:={k9 with val:=fun _=>.ref (.sl 4 (.c 0) (.c 64) none)}
def ajR:br 17 GY.spec:=by
 refine GY.wq (show∀a v d,k9.read a v=some d→a=k9.args d∧v=k9.heap d from T5) fun d z β w vs A B K=>?_;obtain⟨a,b,c,i,j,e,l,f,n,g,o,h,t,m,p,k,r⟩:=d;obtain⟨C,D⟩:=(ajN (k9.args ⟨a,b,c,i,j,e,l,f,n,g,o,h,t,m,p,k,r⟩) (k9.heap ⟨a,b,c,i,j,e,l,f,n,g,o,h,t,m,p,k,r⟩) [] _ (show k9.spec (k9.args ⟨a,b,c,i,j,e,l,f,n,g,o,h,t,m,p,k,r⟩) (k9.heap ⟨a,b,c,i,j,e,l,f,n,g,o,h,t,m,p,k,r⟩) []=some ⟨k9.val ⟨a,b,c,i,j,e,l,f,n,g,o,h,t,m,p,k,r⟩,k9.out ⟨a,b,c,i,j,e,l,f,n,g,o,h,t,m,p,k,r⟩,[],[k9.aT ⟨a,b,c,i,j,e,l,f,n,g,o,h,t,m,p,k,r⟩]⟩ by kernel_rfl)).2 (fun L E=>by rw[ta.1 E];exact z) β w vs A B;refine⟨C,D.mono ?_⟩;rintro M w' ⟨u,x,rfl,F,H,I⟩;refine⟨u,x,rfl,?_,H,I.q (aV _)⟩;have y:aC x (.ref (.sl 4 (.c 0) (.s (dj (ur a b c i j e l f n g o h t m p k r) 0 (rB e f g h) 64).k) none)) u:=F;have J:(dj (ur a b c i j e l f n g o h t m p k r) 0 (rB e f g h) 64).k=64:=(sV _ 0 _ 64 (by omega)).2;rw[J]at y;exact aC.ajQ y
structure yM where
 (v:U 8)(X:U 64)(o iA:Nat)(n i:Int)
def ajS(d:yM):aJ×List ah:=
 match d with
 |⟨v,X,a,b,n,i⟩=>(⟨[.aa,.aa,.P 1,.P 2,.aa,.aa],[⟨8,.au i⟩,⟨7,.au n⟩,⟨6,.ref (.sl 0 (.s a) (.s b) none)⟩]⟩,[⟨.aj v,.ro⟩,cp,⟨.bw X,.own⟩])
def sW(d:yM):yM:=
 match d with
 |⟨v,X,a,b,n,i⟩=>⟨v,mL X (0+(i.tdiv 8).toNat*1) (v.l.getD (a+i.toNat*1) 0#8) (8*(i.tmod 8)),a,b,n,i+1⟩
def MG(a:aJ)(b:List ah):Option yM:=
 match a with
 |⟨[.atom .aa,.atom .aa,.ref (.ptr 1 (.c 0)),.ref (.ptr 2 (.c 0)),.atom .aa,.atom .aa],[⟨8,.num (.int .i64 (.s i))⟩,⟨7,.num (.int .i64 (.s n))⟩,⟨6,.ref (.sl 0 (.s d) (.s e) none)⟩]⟩=>
  match b with
  |[⟨.aj v,.ro⟩,⟨.gen [],.bn⟩,⟨.bw X,.own⟩]=>some ⟨v,X,d,e,n,i⟩|_=>none
 |_=>none
def m5:eN yM where
 d0:=⟨0,0,0,0,0,0⟩
 read:=MG
 az:=ajS
 next:=sW
 rem:=fun⟨_,_,_,_,n,i⟩=>(n-i).toNat
 aT:=fun⟨v,X,b,a,n,i⟩=>decide (0≤i∧i≤n∧n=a∧a≤1024∧b+a≤v.n∧X.n=128)
 out:=.exit 0
def ajT(v:U 8)(X:U 64)(a b:Nat)(n i:Int):m5.cE ⟨v,X,a,b,n,i⟩ (b8 3) (m5.az (sW ⟨v,X,a,b,n,i⟩)) (bZ ck aU 19 0) [true] .normal [cQ (i+1),decide ((0+((((Int.tdiv i 8)):Int).toNat*1))<X.n),(decide (0≤(Int.tdiv i 8))&&decide ((Int.tdiv i 8)<(128:Int))),decide ((0:Int)≤(8*(Int.tmod i 8))),cQ (8*(Int.tmod i 8)),decide ((8:Int)≠0),decide ((0+((((Int.tdiv i 8)):Int).toNat*1))<X.n),(decide (0≤(Int.tdiv i 8))&&decide ((Int.tdiv i 8)<(128:Int))),decide ((0≤i∧((0:Int)<8∧i≤9223372036854775807))),decide ((a+(i.toNat*1))<v.n),(decide (0≤i)&&decide (i<(b:Int))),(decide (i<n)==true)]:=by show _=_;kernel_rfl
def ajU(v:U 8)(X:U 64)(a b:Nat)(n i:Int):m5.cE ⟨v,X,a,b,n,i⟩ none (m5.fin ⟨v,X,a,b,n,i⟩) (bZ ck aU 19 0) [false] m5.out [(decide (i<n)==false)]:=by show _=_;kernel_rfl
def ajV:m5.Rd:=by
 intro a b d h;change MG a b=some d at h;unfold MG at h;repeat' split at h
 all_goals cases h
 rfl
def ajW:dg Tryz.prog bB (an 19) (bS Tryz.prog 19) (bh Tryz.prog 19 0) (bZ ck aU 19 0):=iz fK (cL _) 19 0 Q7 (by rw[show(cI Tryz.prog 19).length=1 by kernel_rfl];omega)
def ajX:eF Tryz.prog bB (an 19) (bS Tryz.prog 19) (bh Tryz.prog 19 0) m5.T.told:=by
 refine m5.jT ajW (by intro k e;have e:k∈([]:List ah):=e;cases e) (by intro h;cases h) ajV ?_ ?_
 ·rintro⟨v,X,a,b,n,i⟩ g c d;have c:=bg c;have d:(n-i).toNat=g+1:=d;have j:m5.next ⟨v,X,a,b,n,i⟩=sW ⟨v,X,a,b,n,i⟩:=rfl;rw[j];refine⟨⟨[true],(b8 3),_,ajT v X a b n i,?_⟩,?_,?_,(show(m5.az (sW ⟨v,X,a,b,n,i⟩)).2.length=3 by kernel_rfl).trans (show(m5.az ⟨v,X,a,b,n,i⟩).2.length=3 by kernel_rfl).symm⟩
  ·have h1:i.tdiv 8=i/8:=pK (by omega);have h2:i.tmod 8=i%8:=oB (by omega)
   repeat'(refine aA ?_ ?_)
   all_goals first|exact aX|rfl|(simp only[cz,h1,h2]<;>omega)
  ·have f:m5.aT (sW ⟨v,X,a,b,n,i⟩)=decide (0≤(i+1:Int)∧(i+1:Int)≤n∧n=b∧b≤1024∧a+b≤v.n∧(mL X (0+(i.tdiv 8).toNat*1) (v.l.getD (a+i.toNat*1) 0#8) (8*(i.tmod 8)):U 64).n=128):=by kernel_rfl
   refine f.trans (bu ?_);have m:=L5 X (0+(i.tdiv 8).toNat*1) (v.l.getD (a+i.toNat*1) 0#8) (8*(i.tmod 8));omega
  ·have f:m5.rem (sW ⟨v,X,a,b,n,i⟩)=((n-(i+1:Int)).toNat):=by kernel_rfl
   refine f.trans ?_;omega
 ·rintro⟨v,X,a,b,n,i⟩ c d;have c:=bg c;have d:(n-i).toNat=0:=d;refine⟨[false],none,_,ajU v X a b n i,?_⟩
  repeat'(refine aA ?_ ?_)
  all_goals first|exact aX|rfl|(simp only[cz]<;>omega)
def MH:cP:=m5.T.told
def ajY:Told 19 0 MH:=ajX.run
def DG:FuncId→Nat→Option cP|19,3=>some MH|_,_=>none
def ajZ:(cI Tryz.prog 19).length=1:=by kernel_rfl
def aj0(spec:FuncId→Option ay.Spec):c6 (dh spec DG) bB:=by
 refine c6.of fun f=>?_;by_cases a:f=19
 ·subst a;refine .inr ⟨by kernel_rfl,fun i hi e b=>?_⟩;have hi:i<(cI Tryz.prog 19).length:=hi;rw[ajZ]at hi;have c:i=0:=by omega
  rcases c with rfl
  ·have d:(bY (bh Tryz.prog 19 0)).bind (DG 19)=some MH:=by kernel_rfl
   obtain rfl:=dV (d.symm.trans b);exact ajY
 ·refine .inl fun r=>?_
  show DG f r=none;unfold DG;split
  ·exact absurd rfl a
  ·rfl
def DH(v:U 8)(b a:Nat):yM:=iter sW ((a:Int)-0).toNat ⟨v,je,b,a,a,0⟩
structure MI where
 (v:U 8)(o iA:Nat)
def MJ(a:List af)(b:List ah):Option MI:=
 match a with
 |[.ref (.sl 0 (.s c) (.s d) none)]=>
  match b with
  |[⟨.aj v,.ro⟩]=>some ⟨v,c,d⟩|_=>none
 |_=>none
def AY:bV MI where
 d0:=⟨0,0,0⟩
 read:=MJ
 args:=fun⟨_,b,a⟩=>[.ref (.sl 0 (.s b) (.s a) none)]
 heap:=fun⟨v,_,_⟩=>[⟨.aj v,.ro⟩]
 val:=fun⟨v,b,a⟩=>(.agg (dU ((DH v b a)).X 128))
 aT:=fun⟨v,b,a⟩=>decide (a≤1024∧b+a≤v.n)
def aj1:AY.Rd:=by
 intro a b d h;change MJ a b=some d at h;unfold MJ at h;repeat' split at h
 all_goals cases h
 exact⟨rfl,rfl⟩
def aj2(v:U 8)(b a:Nat):AY.fR ⟨v,b,a⟩ (some [0]) (b9 ck DG 19) [] [decide (128≤(DH v b a).X.n),m5.aT ⟨v,je,b,a,a,0⟩]:=by show _=_;kernel_rfl
def T7:∀r (d:yM),(iter sW r d).X.n=d.X.n|0,d=>rfl|r+1,⟨v,X,a,b,n,i⟩=>(T7 r (sW ⟨v,X,a,b,n,i⟩)).trans rfl
def aj3:br 19 AY.spec:=by
 refine AY.ok (dn fK (aj0 _)) aj1 ?_;rintro⟨v,b,c⟩ a;have a:=bg a;have d:je.n=128:=ni;have e:(DH v b c).X.n=128:=(T7 _ _).trans d;exact⟨_,_,_,aj2 v b c,aA (bu (by omega)) (aA (bu ⟨by omega,by omega,rfl,a.1,a.2,d⟩) aX)⟩
abbrev GZ:=U 8→U 8→U 8→U 8→Nat→Nat→Nat→Nat→Nat→Nat→Nat→Nat→BitVec 32→BitVec 32→Int→Int→Int→U 8
abbrev G0:=U 8→Nat→Nat→Int→U 8
abbrev G1:=U 8→Nat→Nat→U 64
def lG:GZ:=fun a b c h i d j e l f n g t m p k o=>(dj (ur a b c h i d j e l f n g t m p k o) 0 (rB d e f g) 64).u
def iT:G1:=fun v a b=>(DH v a b).X
def T8(d:GZ):bV DF:={GY with out:=fun⟨a,b,c,e,bD,na,bC,nb,bO,bG,bW,ne,t,m,p,k,f⟩=>[⟨.aj a,.ro⟩,⟨.aj b,.ro⟩,⟨.aj c,.ro⟩,⟨.aj e,.ro⟩,⟨.aj (d a b c e bD na bC nb bO bG bW ne t m p k f),.own⟩]}
def aj4:T8 lG=GY:=rfl
def T9(a:G0):bV DC:={GX with out:=fun⟨v,o,iA,N⟩=>[⟨.aj v,.ro⟩,⟨.aj (a v o iA N),.own⟩]}
def aj5:T9 fA=GX:=rfl
def Ua(rd:G1):bV MI:={AY with val:=fun⟨v,o,a⟩=>.agg (dU (rd v o a) 128)}
def aj6:Ua iT=AY:=rfl
def DI(p:Nat):Nat→ay.Spec|0=>fun _ _ _=>none|n+1=>fW (pn p n).spec (DI p n)
def MK{p:Nat}(a:p≤8):∀n,n≤p→br 21 (DI p n)
 |0,_=>fun args c d r b=>by cases b
 |n+1,h=>dF.or (ahn a h) (MK a n (by omega))
def G2(a:GZ)(b:G0)(rd:G1)(p:Nat):FuncId→Option ay.Spec|17=>some (T8 a).spec|19=>some (Ua rd).spec|20=>some (T9 b).spec|21=>some (DI p p)|_=>none
def Ub{p:Nat}(b:p≤8):∀f a,G2 lG fA iT p f=some a→br f a:=by
 intro f a h;unfold G2 at h;split at h
 ·cases h;rw[aj4];exact ajR
 ·cases h;rw[aj6];exact aj3
 ·cases h;rw[aj5];exact ajP
 ·cases h;exact MK b p (aV _)
 ·cases h
def lH(z:Int):af:=.num (.int .i64 (.s z))
def us(n:Nat):List af:=List.replicate n fu
def ML(p:Nat)(Z S A V B W C X:Nat)(P Q ke len:Int):List af:=[lH P,.ref (.sl 0 (.s Z) (.s S) none),.ref (.sl 1 (.s A) (.s V) none),.ref (.sl 2 (.s B) (.s W) none),.ref (.sl 3 (.s C) (.s X) none),lH Q,lH ke,.num (.int .i64 (.c (p:Int))),lH len,.agg (jA gC)]
def jo(a b c R:U 8):List ah:=[⟨.aj a,.ro⟩,⟨.aj b,.ro⟩,⟨.aj c,.ro⟩,⟨.aj R,.ro⟩]
def yN:ah:=⟨.gen (jA gC),.own⟩
def DJ:Nat→Nat→(Nat→Nat)→List af|0,_,_=>[]|n+1,i,d=>.ref (.sm (i+7) (.s (d i)) 128)::DJ n (i+1) d
def G3(p:Nat)(a b c R:U 8)(P Q co:Int)(d:Nat→Nat)(r:Nat→U 64)(T:List ah):List ah:=
 jo a b c R++(yN::⟨.gen [lH P,lH Q,.num (.int .i64 (.c (p:Int))),lH co,.num (.int .u32 (.c 0)),.ref (.sl 6 (.c 0) (.c p) none)],.own⟩::⟨.gen (DJ p 0 d),.own⟩::(yq p 0 r++T))
def MM(p:Nat)(len:Int):aJ:=⟨us 7++[.num (.int .i64 (.c (p:Int))),lH len]++us 10++[.ref (.ptr 4 (.c 0)),fu,fu,fu,fu,.ref (.ptr 5 (.c 0))]++us 14,[]⟩
def Uc:List (List Bool):=[[false],[true,false],(bt 3 3),(bt 4 7),(bt 5 15),(bt 6 31)]
def mj(p:Nat)(ke:Int):Int:=if decide (ke<8*(p:Int))=true then 8*(p:Int)else ke
def wL(p:Nat)(d:Int):Int:=d.tdiv (4*(p:Int))*(4*(p:Int))
def jE(p:Nat)(ke:Int):Int:=(wL p (mj p ke)).tdiv p
def uu(n:Nat):List (BitVec 8):=[BitVec.ofNat 8 n,0#8,0#8,0#8]
def kC(d:U 8)(c l:Nat):U 8:=((d.sub 0 64).app (U.of (uu c))).app (U.of (uu l))
def aj7(p:Nat):List Nat:=[0,1,2,3,4,6,6+15*p]++(List.range p).map fun l=>7+15*l
def sX:List Nat:=[1,2,3,4,5,6,7,8]
def f10:List Bool:=List.replicate 10 false
section
variable(D:GZ)(Y:G0)(rd:G1)(a b c R:U 8)(Z S A V B W C X:Nat)(P Q ke len:Int)
def rC(p:Nat):U 8:=D a b c R Z S A V B W C X (BitVec.ofInt 32 Q) (BitVec.ofInt 32 ke) p len P
def AZ(d:U 8)(c l:Nat):U 64:=rd (Y (kC d c l) 0 72 1024) 0 1024
def pG(d:U 8)(n l:Nat):U 64:=rf (rf (U.zero 64 (n*128)) 0 (AZ Y rd d 0 l)) 1 (AZ Y rd d 1 l)
def G4(p:Nat):Nat→U 64:=pG Y rd (rC D a b c R Z S A V B W C X P Q ke len p) (jE p ke).toNat
def iC(p:Nat):Nat→Nat:=fun _=>(jE p ke).toNat
def MN(d:U 8)(n c l:Nat):List Bool:=[decide ((c+1)*128≤n*128),true&&decide ((c:Int)<(n:Int)),decide (1024≤1024∧0+1024≤(Y (kC d c l) 0 72 1024).n),true,decide (64≤d.n)]
def aj8(co:Int):List Bool:=[decide (co.toNat*1024≤1099511627776),(decide (0≤co)&&decide (co≤co))&&decide (co≤1099511627776)]
def MO(d:U 8)(co:Int):Nat→List Bool|0=>[]|l+1=>MN Y d co.toNat 1 l++(MN Y d co.toNat 0 l++(aj8 co++MO d co l))
def aj9(p:Nat):List Bool:=[decide (0≤wL p (mj p ke)∧0<(p:Int)∧wL p (mj p ke)≤9223372036854775807),gv (wL p (mj p ke)),decide (0≤mj p ke∧0<4*(p:Int)∧mj p ke≤9223372036854775807),decide (Z+S≤a.n∧S≤1000000∧A+V≤b.n∧V≤1000000∧B+W≤c.n∧W≤1000000∧C+X≤R.n∧X≤1000000),decide (len<1)==false,decide (Q<1)==false,decide (Q<1)==false,decide (Q<1)==false,decide ((2:Int)<P)==false,decide ((2:Int)<P)==false,decide ((2:Int)<P)==false,decide (P<0)==false,decide (P<0)==false,decide (P<0)==false]
def aka:sX.map (fun p=>eu 4 (some (aj7 p)) (MM p len,G3 p a b c R P Q (jE p ke) (iC ke p) (G4 D Y rd a b c R Z S A V B W C X P Q ke len p) []) (hY (G2 D Y rd p) aU 10 Uc ⟨ML p Z S A V B W C X P Q ke len++us 29,[]⟩ ⟨jo a b c R,bQ,f10,[]⟩))=
 sX.map (fun p=>some (.normal,(MM p len,G3 p a b c R P Q (jE p ke) (iC ke p) (G4 D Y rd a b c R Z S A V B W C X P Q ke len p) []),MO Y (rC D a b c R Z S A V B W C X P Q ke len p) (jE p ke) p++aj9 a b c R Z S A V B W C X P Q ke len p)):=by kernel_rfl
end
abbrev uv:=Nat→Nat→wB→Nat→U 64
def gU:uv:=fun p f d=>(ue p f d).r
def MP(aP:uv)(p f:Nat):bV wB:={pn p f with out:=fun d=>qc p d.kd d.ps d.co d.nn (aP p f ⟨d.kd,d.ps,d.co,d.pa,d.sl,c7 p d.nn,fz p d.r⟩) []}
def akb(p d:Nat):MP gU p d=pn p d:=rfl
def G5(aP:uv)(p:Nat):Nat→ay.Spec|0=>fun _ _ _=>none|n+1=>fW (MP aP p n).spec (G5 aP p n)
def Ud(p:Nat):∀n,G5 gU p n=DI p n
 |0=>rfl|n+1=>by
  show fW (MP gU p n).spec (G5 gU p n)=fW (pn p n).spec (DI p n);rw[Ud p n,akb]
def G6(aP:uv)(p:Nat):FuncId→Option ay.Spec|21=>some (G5 aP p p)|_=>none
def akc{p:Nat}(g:p≤8):∀f d,G6 gU p f=some d→br f d:=by
 intro f d h;unfold G6 at h;split at h
 ·cases h;rw[Ud];exact MK g p (aV _)
 ·cases h
def akd:ah:=⟨.gen (List.replicate 160 fu),.ro⟩
def A0(p:Nat)(a b c e:U 8)(aN ps co:Int)(nn:Nat→Nat)(r:Nat→U 64)(T:List ah):List ah:=
 jo a b c e++(akd::⟨.gen [lH aN,lH ps,.num (.int .i64 (.c (p:Int))),lH co,fu,.ref (.sl 6 (.c 0) (.c p) none)],.ro⟩::⟨.gen (DJ p 0 nn),.ro⟩::(yq p 0 r++T))
def DK:Nat→Nat→List af→Option (List Nat)
 |0,_,l=>match l with|[]=>some []|_::_=>none
 |n+1,i,l=>
  match l with
  |[]=>none|d::f=>
   match d with
   |.ref q=>
    match q with
    |.sm b l g=>
     match Nat.beq b (i+7)&&Nat.beq g 128 with
     |true=>
      match l with
      |.s m=>
       match DK n (i+1) f with
       |some h=>some (m::h)|none=>none
      |.c _=>none
     |false=>none
    |_=>none
   |_=>none
def Ue:∀{n i:Nat} {l:List af} {d:List Nat} {nn:Nat→Nat},DK n i l=some d→(∀j,nn (i+j)=d.getD j 0)→l=DJ n i nn
 |0,i,l,d,nn,h,_=>by
  unfold DK at h;split at h
  ·rfl
  ·cases h
 |n+1,i,l,d,nn,h,f=>by
  unfold DK at h
  repeat' split at h
  all_goals(try(cases h;done))
  rename_i b k _ g _ m _ q o;cases h;rw[dI]at g;obtain⟨h1,h2⟩:=g;have h1:b=i+7:=by simpa using h1
  have h2:k=128:=by simpa using h2
  subst h1 h2;have p:nn i=m:=f 0
  show _=.ref (.sm (i+7) (.s (nn i)) 128)::DJ n (i+1) nn;rw[p,←Ue o fun j=>by rw[iD,Bi 1 j];exact f (j+1)]
def G7:List af→Nat→Bool
 |[],0=>true|d::l,n+1=>match d with|.atom .aa=>G7 l n|_=>false
 |_,_=>false
def Uf:∀{l:List af} {n:Nat},G7 l n=true→l=List.replicate n fu
 |[],0,_=>rfl|d::l,n+1,h=>by
  unfold G7 at h;split at h
  ·rw[Uf h];rfl
  ·cases h
structure DL where
 (a b c e:U 8)(aN ps co:Int)(nn:Nat→Nat)(r:Nat→U 64)(T:List ah)
def DL.h(p:Nat)(d:DL):List ah:=A0 p d.a d.b d.c d.e d.aN d.ps d.co d.nn d.r d.T
def G8(p:Nat)(d:List ah):Option DL:=
 match d with
 |⟨.aj a,.ro⟩::⟨.aj b,.ro⟩::⟨.aj c,.ro⟩::⟨.aj e,.ro⟩::⟨.gen u,.ro⟩::⟨.gen [.num (.int .i64 (.s aN)),.num (.int .i64 (.s ps)),.num (.int .i64 (.c f)),.num (.int .i64 (.s co)),.atom .aa,.ref (.sl 6 (.c 0) (.c g) none)],.ro⟩::⟨.gen l,.ro⟩::d=>
  match(kK f (p:Int)&&Nat.beq g p)&&G7 u 160 with
  |true=>
   match DK p 0 l with
   |some h=>
    match AI p d with
    |some (i,d)=>some ⟨a,b,c,e,aN,ps,co,fun j=>h.getD j 0,fun j=>i.getD j (U.zero 64 0),d⟩|none=>none
   |none=>none
  |false=>none
 |_=>none
def Ug{p:Nat}{f:List ah}{d:DL}(h:G8 p f=some d):f=d.h p:=by
 unfold G8 at h;split at h
 case h_2=>cases h
 split at h
 case h_2=>cases h
 rename_i g;rw[dI,dI,nv]at g;obtain⟨⟨h1,h2⟩,h3⟩:=g;simp only[eT]at h1;have h2:=qz h2;have h3:=Uf h3;subst h1 h2 h3;split at h
 case h_2=>cases h
 rename_i l i;split at h
 case h_2=>cases h
 rename_i m n k;cases h;unfold DL.h A0;dsimp only;rw[←Ue i fun j=>by rw[cM],←Lx k fun j=>by rw[cM]];rfl
def Uh(p:Nat)(a b c e:U 8)(aN ps co:Int)(nn:Nat→Nat)(r:Nat→U 64)(T:List ah):(A0 p a b c e aN ps co nn r T).length=p+T.length+7:=by
 unfold A0 jo;simp only[fB,iW,kI,LA];omega
structure uw where
 (a b c e:U 8)(aN ps co len pa:Int)(nn:Nat→Nat)(r:Nat→U 64)
def ux(p:Nat)(d:uw):aJ×List ah:=
 match d with
 |⟨a,b,c,e,aN,ps,co,len,pa,nn,r⟩=>(⟨us 7++[.J (p:Int),lH len]++us 10++[.P 4,fu,fu,fu,fu,.P 5]++us 4++[lH pa]++us 9,[]⟩,A0 p a b c e aN ps co nn r [])
def yO(p:Nat):List (Nat×Nat):=(List.range 4).flatMap fun d=>(List.range p).map fun l=>(d,l)
def yP(p:Nat)(aN ps co pa:Int)(nn:Nat→Nat)(r:Nat→U 64)(d:Nat):wB:=⟨aN,ps,co,pa,(d:Int),c7 p nn,fz p r⟩
def qi(aP:uv)(p:Nat)(aN ps co pa:Int)(nn:Nat→Nat):List (Nat×Nat)→(Nat→U 64)→Nat→U 64|[],r=>r|(d,l)::q,r=>qi aP p aN ps co pa nn q (aP p l (yP p aN ps co pa nn r d))
def MQ(aP:uv)(p:Nat)(aN ps co pa:Int)(nn:Nat→Nat):List (Nat×Nat)→(Nat→U 64)→List Bool|[],_=>[]|(d,l)::q,r=>MQ aP p aN ps co pa nn q (aP p l (yP p aN ps co pa nn r d))++[(pn p l).aT (yP p aN ps co pa nn r d)]
def uy(aP:uv)(p:Nat)(d:uw):uw:=
 match d with
 |⟨a,b,c,e,aN,ps,co,len,pa,nn,r⟩=>⟨a,b,c,e,aN,ps,co,len,pa+1,nn,qi aP p aN ps co pa nn (yO p) r⟩
section
variable(aP:uv)(a b c e:U 8)(aN ps co len pa:Int)(nn:Nat→Nat)(r:Nat→U 64)
def ake:sX.map (fun p=>eu (p+7) (some (List.range (p+7))) (ux p (uy aP p ⟨a,b,c,e,aN,ps,co,len,pa,nn,r⟩)) (bZ (G6 aP p) aU 10 2 (ux p ⟨a,b,c,e,aN,ps,co,len,pa,nn,r⟩).1 ⟨(ux p ⟨a,b,c,e,aN,ps,co,len,pa,nn,r⟩).2,bQ,[true],[]⟩))=
 sX.map fun p=>some (.normal,ux p (uy aP p ⟨a,b,c,e,aN,ps,co,len,pa,nn,r⟩),gv (pa+1)::(MQ aP p aN ps co pa nn (yO p) r++[decide (pa<ps)==true])):=by kernel_rfl
def akf:sX.map (fun p=>eu (p+7) none (ux p ⟨a,b,c,e,aN,ps,co,len,pa,nn,r⟩) (bZ (G6 aP p) aU 10 2 (ux p ⟨a,b,c,e,aN,ps,co,len,pa,nn,r⟩).1 ⟨(ux p ⟨a,b,c,e,aN,ps,co,len,pa,nn,r⟩).2,bQ,[false],[]⟩))=
 sX.map fun p=>some (.exit 4,ux p ⟨a,b,c,e,aN,ps,co,len,pa,nn,r⟩,[decide (pa<ps)==false]):=by kernel_rfl
end
structure GP(p:Nat)(d:uw):Prop where
 ps:d.ps≤4
 co:8≤d.co∧d.co≤256∧d.co.tdiv 4*4=d.co
 pa:0≤d.pa∧d.pa≤d.ps
 nn:∀i,i<p→(d.nn i:Int)=d.co
 r:∀i,i<p→(d.r i).n=d.nn i*128
open Classical in
def oo(p:Nat):eN uw where
 d0:=⟨0,0,0,0,0,0,0,0,0,fun _=>0,fun _=>0⟩
 read:=fun f g=>
  match f with
  |⟨.atom .aa::.atom .aa::.atom .aa::.atom .aa::.atom .aa::.atom .aa::.atom .aa::.num (.int .i64 (.c h))::.num (.int .i64 (.s i))::.atom .aa::.atom .aa::.atom .aa::.atom .aa::.atom .aa::.atom .aa::.atom .aa::.atom .aa::.atom .aa::.atom .aa::.ref (.ptr 4 (.c 0))::.atom .aa::.atom .aa::.atom .aa::.atom .aa::.ref (.ptr 5 (.c 0))::.atom .aa::.atom .aa::.atom .aa::.atom .aa::.num (.int .i64 (.s pa))::.atom .aa::.atom .aa::.atom .aa::.atom .aa::.atom .aa::.atom .aa::.atom .aa::.atom .aa::.atom .aa::[],[]⟩=>
   match kK h (p:Int)with
   |true=>
    match G8 p g with
    |some ⟨a,b,c,e,aN,ps,co,nn,r,T⟩=>
     match T with
     |[]=>some ⟨a,b,c,e,aN,ps,co,i,pa,nn,r⟩|_=>none
    |none=>none
   |false=>none
  |_=>none
 az:=ux p
 next:=uy gU p
 rem:=fun d=>(d.ps-d.pa).toNat
 aT:=fun d=>decide (GP p d)
 out:=.exit 4
def akg(p:Nat)(g:aJ)(i:List ah)(d:uw)(h:(oo p).read g i=some d):(g,i)=(oo p).az d:=by
 unfold oo at h;dsimp only at h;split at h
 case h_2=>cases h
 split at h
 case h_2=>cases h
 rename_i f;rw[nv]at f;simp only[eT]at f;subst f;split at h
 case h_2=>cases h
 rename_i j;split at h
 case h_2=>cases h
 cases h;rw[Ug j];rfl
def Ui{p:Nat}(h1:1≤p)(d:p≤8):p∈sX:=by
 unfold sX;simp only[jJ,HS,HT];omega
def Uj(p l:Nat)(d:wB)(i:Nat):(gU p l d i).n=(d.r i).n:=(S1 p l (d.co.tdiv 4-0).toNat ⟨d.kd,d.ps,d.co,d.pa,d.sl,d.co.tdiv 4,0,d.nn,d.r⟩).n i
def akh{p s l:Nat}(h:(s,l)∈yO p):s<4∧l<p:=by
 unfold yO at h;simp only[Wp,y7,oA,aO]at h;obtain⟨a,h1,b,h2,rfl,rfl⟩:=h;exact⟨h1,h2⟩
section
variable{p:Nat}{S R co P:Int}{Q:Nat→Nat}
def MR:∀(q:List (Nat×Nat)) (r:Nat→U 64) (i:Nat),i<p→(qi gU p S R co P Q q r i).n=(r i).n
 |[],r,i,_=>rfl|(a,l)::q,r,i,h=>by
  refine(MR q _ i h).trans ?_;rw[Uj]
  show(fz p r i).n=_;rw[m0 r h]
def Uk(h2:8≤co∧co≤256∧co.tdiv 4*4=co)(h3:0≤P∧P≤3)(d:∀i,i<p→(Q i:Int)=co):∀(q:List (Nat×Nat)) (r:Nat→U 64),(∀t∈q,t.1<4∧t.2<p)→(∀i,i<p→(r i).n=Q i*128)→∀b∈MQ gU p S R co P Q q r,b=true
 |[],r,_,_,b,a=>by cases a
 |(c,l)::q,r,e,g,b,a=>by
  have h4:=e _ (lK ..);have h4:c<4∧l<p:=h4;have f:∀i,i<p→(fz p r i).n=Q i*128:=fun i hi=>by rw[m0 r hi];exact g i hi
  rcases fQ.1 a with a|a
  ·exact Uk h2 h3 d q _ (fun t h=>e t (ng _ h)) (fun i hi=>(Uj ..).trans (f i hi)) b a
  ·rw[ta.1 a];exact@bu _ (Classical.propDecidable _) (show GS p l _ from⟨h2,h3,⟨by show(0:Int)≤c;omega,by show(c:Int)≤3;omega⟩,fun i hi=>by show(c7 p Q i:Int)=co;rw[wC Q hi];exact d i hi,fun i hi=>by show(fz p r i).n=c7 p Q i*128;rw[wC Q hi];exact f i hi⟩)
end
def aki(p:Nat)(d:uw):((oo p).az d).2.length=p+7:=by
 obtain⟨a,b,c,e,S,R,co,f,P,Q,r⟩:=d;exact Uh ..
def akj{p:Nat}(h1:1≤p)(A:p≤8):eF Tryz.prog bB (an 10) (bS Tryz.prog 10) (bh Tryz.prog 10 2) (oo p).T.told:=by
 have B:=Ui h1 A;have j:=aki p;refine(oo p).jT (iz (akc A) (cL _) 10 2 vJ (by rw[show(cI Tryz.prog 10).length=9 by kernel_rfl];omega)) (by intro k v;have v:k∈([]:List ah):=v;cases v) (by intro h;cases h) (akg p) ?_ ?_
 ·rintro⟨a,b,c,d,S,R,co,e,P,Q,r⟩ C m f;have m:GP p ⟨a,b,c,d,S,R,co,e,P,Q,r⟩:=@bg _ (Classical.propDecidable _) m;have f:(R-P).toNat=C+1:=f;obtain⟨w,o,x,q,u⟩:=m;have w:R≤4:=w;have o:8≤co∧co≤256∧co.tdiv 4*4=co:=o;have x:0≤P∧P≤R:=x;have q:∀i,i<p→(Q i:Int)=co:=q;have u:∀i,i<p→(r i).n=Q i*128:=u;have E:(oo p).next ⟨a,b,c,d,S,R,co,e,P,Q,r⟩=uy gU p ⟨a,b,c,d,S,R,co,e,P,Q,r⟩:=rfl;have y:((oo p).az ⟨a,b,c,d,S,R,co,e,P,Q,r⟩).2.length-(oo p).cH.length=p+7:=(gE _).trans (j _);rw[E,y];have z:=gR (ake gU a b c d S R co e P Q r) B;refine⟨⟨[true],some (List.range (p+7)),_,z,?_⟩,?_,?_,(j _).trans (j _).symm⟩
  ·refine aA (ia (by omega)) fun D g=>?_;rcases fQ.1 g with g|g
   ·exact Uk o ⟨x.1,by omega⟩ q _ r (fun t F=>akh (s:=t.1) (l:=t.2) F) u D g
   ·exact aA (by rw[eT];exact bu (by omega)) aX D g
  ·exact@bu _ (Classical.propDecidable _) (show GP p _ from⟨w,o,⟨by show 0≤P+1;omega,by show P+1≤R;omega⟩,q,fun i hi=>(MR _ r i hi).trans (u i hi)⟩)
  ·show(R-(P+1)).toNat=C;omega
 ·rintro⟨a,b,c,d,S,R,co,e,P,Q,r⟩ m f;have f:(R-P).toNat=0:=f;have y:((oo p).az ⟨a,b,c,d,S,R,co,e,P,Q,r⟩).2.length-(oo p).cH.length=p+7:=(gE _).trans (j _);rw[y];have z:=gR (akf gU a b c d S R co e P Q r) B;exact⟨[false],none,[decide (P<R)==false],z,aA (by rw[eT];exact j4 (by omega)) aX⟩
structure qj where
 (a b c e:U 8)(aN ps co len:Int)(nn:Nat→Nat)(r:Nat→U 64)(Z:U 64)(i:Int)
def akk(p d:Nat)(len:Int):List af:=us 7++[.num (.int .i64 (.c (p:Int))),lH len]++us 10++[.ref (.ptr 4 (.c 0)),fu,fu,fu,fu,.ref (.ptr 5 (.c 0))]++us 7++[.ref (.ptr (p+7) (.c 0)),.num (.int .i64 (.c (d:Int)))]++us 5
def sY(p f:Nat)(d:qj):aJ×List ah:=
 match d with
 |⟨a,b,c,e,aN,ps,co,len,nn,r,Z,i⟩=>(⟨akk p f len,[⟨156,lH i⟩]⟩,A0 p a b c e aN ps co nn r [⟨.bw Z,.own⟩])
def qk(f:Nat)(d:qj):qj:=
 match d with
 |⟨a,b,c,e,aN,ps,co,len,nn,r,Z,i⟩=>⟨a,b,c,e,aN,ps,co,len,nn,r,AJ (r f) (co-1) Z i,i+1⟩
def ql(p d:Nat):eN qj where
 d0:=⟨0,0,0,0,0,0,0,0,fun _=>0,fun _=>0,0,0⟩
 read:=fun f g=>
  match f with
  |⟨.atom .aa::.atom .aa::.atom .aa::.atom .aa::.atom .aa::.atom .aa::.atom .aa::.num (.int .i64 (.c h))::.num (.int .i64 (.s j))::.atom .aa::.atom .aa::.atom .aa::.atom .aa::.atom .aa::.atom .aa::.atom .aa::.atom .aa::.atom .aa::.atom .aa::.ref (.ptr 4 (.c 0))::.atom .aa::.atom .aa::.atom .aa::.atom .aa::.ref (.ptr 5 (.c 0))::.atom .aa::.atom .aa::.atom .aa::.atom .aa::.atom .aa::.atom .aa::.atom .aa::.ref (.ptr q (.c 0))::.num (.int .i64 (.c l))::.atom .aa::.atom .aa::.atom .aa::.atom .aa::.atom .aa::[],[⟨156,.num (.int .i64 (.s i))⟩]⟩=>
   match(kK h (p:Int)&&kK l (d:Int))&&Nat.beq q (p+7)with
   |true=>
    match G8 p g with
    |some ⟨a,b,c,e,aN,ps,co,nn,r,T⟩=>
     match T with
     |[⟨.bw Z,.own⟩]=>some ⟨a,b,c,e,aN,ps,co,j,nn,r,Z,i⟩|_=>none
    |none=>none
   |false=>none
  |_=>none
 az:=sY p d
 next:=qk d
 rem:=fun⟨_,_,_,_,_,_,_,_,_,_,_,i⟩=>(128-i).toNat
 aT:=fun⟨_,_,_,_,_,_,co,_,nn,r,Z,i⟩=>decide (0≤i∧i≤128∧1≤co∧co≤256∧(nn d:Int)=co∧(r d).n=nn d*128∧Z.n=128)
 out:=.exit 12
def Ul(f:Nat)(d:qj):List Bool:=[gv (d.i+1),decide (0+d.i.toNat*1<d.Z.n),od d.i 128,decide (dM (d.co-1)+d.i.toNat*1<(d.r f).n),od d.i 128,od (d.co-1) (d.nn f),gv (d.co-1),decide (0+d.i.toNat*1<d.Z.n),od d.i 128,decide (d.i<128)==true]
section
variable(a b c e:U 8)(aN ps co len:Int)(nn:Nat→Nat)(r:Nat→U 64)(Z:U 64)(i:Int)
def akl:
 me.map (fun q=>eu (q.1+8) (some (List.range (q.1+8))) (sY q.1 q.2 (qk q.2 ⟨a,b,c,e,aN,ps,co,len,nn,r,Z,i⟩)) (bZ ck aU 10 6 (sY q.1 q.2 ⟨a,b,c,e,aN,ps,co,len,nn,r,Z,i⟩).1 ⟨(sY q.1 q.2 ⟨a,b,c,e,aN,ps,co,len,nn,r,Z,i⟩).2,bQ,[true],[]⟩))=
  me.map fun q=>some (.normal,sY q.1 q.2 (qk q.2 ⟨a,b,c,e,aN,ps,co,len,nn,r,Z,i⟩),Ul q.2 ⟨a,b,c,e,aN,ps,co,len,nn,r,Z,i⟩):=by kernel_rfl
def akm:
 me.map (fun q=>eu (q.1+8) none (sY q.1 q.2 ⟨a,b,c,e,aN,ps,co,len,nn,r,Z,i⟩) (bZ ck aU 10 6 (sY q.1 q.2 ⟨a,b,c,e,aN,ps,co,len,nn,r,Z,i⟩).1 ⟨(sY q.1 q.2 ⟨a,b,c,e,aN,ps,co,len,nn,r,Z,i⟩).2,bQ,[false],[]⟩))=
  me.map fun q=>some (.exit 12,sY q.1 q.2 ⟨a,b,c,e,aN,ps,co,len,nn,r,Z,i⟩,[decide (i<128)==false]):=by kernel_rfl
end
def akn(p f:Nat)(d:qj):(sY p f d).2.length=p+8:=by
 obtain⟨a,b,c,e,aN,ps,co,len,nn,r,Z,i⟩:=d;exact Uh ..
def ako(p f:Nat)(g:aJ)(j:List ah)(d:qj)(h:(ql p f).read g j=some d):(g,j)=(ql p f).az d:=by
 unfold ql at h;dsimp only at h;split at h
 case h_2=>cases h
 split at h
 case h_2=>cases h
 rename_i k;rw[dI,dI,nv,nv]at k;obtain⟨⟨h1,h2⟩,h3⟩:=k;simp only[eT]at h1 h2;have h3:=qz h3;subst h1 h2 h3;split at h
 case h_2=>cases h
 rename_i l;split at h
 case h_2=>cases h
 cases h;rw[Ug l];rfl
def akp{p f:Nat}(u:p≤8)(v:f<p):eF Tryz.prog bB (an 10) (bS Tryz.prog 10) (bh Tryz.prog 10 6) (ql p f).T.told:=by
 have s:=Gv u v;have l:∀d:qj,((ql p f).az d).2.length=p+8:=akn p f;refine(ql p f).jT (iz fK (cL _) 10 6 vJ (by rw[show(cI Tryz.prog 10).length=9 by kernel_rfl];omega)) (by intro k o;have o:k∈([]:List ah):=o;cases o) (by intro h;cases h) (ako p f) ?_ ?_
 ·rintro⟨a,b,c,e,aN,ps,co,len,nn,r,Z,i⟩ t m g;have m:=bg m;have g:(128-i).toNat=t+1:=g;obtain⟨w,h1,h2,h3,h4,x,y⟩:=m;have j:=gR (akl a b c e aN ps co len nn r Z i) s;dsimp only at j;have q:((ql p f).az ⟨a,b,c,e,aN,ps,co,len,nn,r,Z,i⟩).2.length-(ql p f).cH.length=p+8:=(gE _).trans (l _);rw[q];refine⟨⟨[true],some (List.range (p+8)),Ul f ⟨a,b,c,e,aN,ps,co,len,nn,r,Z,i⟩,j,?_⟩,?_,?_,(l _).trans (l _).symm⟩
  ·have hi:=yu (c:=i) (n:=128) ⟨w,by omega⟩;exact aA (ia (by show _≤i+1∧i+1≤_;omega)) (aA (bu (by show 0+i.toNat*1<Z.n;omega)) (aA hi (aA (bu (by show dM (co-1)+i.toNat*1<(r f).n;unfold dM;omega)) (aA hi (aA (yu (by show 0≤co-1∧co-1<nn f;omega)) (aA (ia (by show _≤co-1∧co-1≤_;omega)) (aA (bu (by show 0+i.toNat*1<Z.n;omega)) (aA hi (aA (by rw[eT];exact bu (by show i<128;omega)) aX)))))))))
  ·exact bu ⟨by omega,by omega,h2,h3,h4,x,y⟩
  ·show(128-(i+1)).toNat=t;omega
 ·rintro⟨a,b,c,e,aN,ps,co,len,nn,r,Z,i⟩ m g;have g:(128-i).toNat=0:=g;have j:=gR (akm a b c e aN ps co len nn r Z i) s;dsimp only at j;have q:((ql p f).az ⟨a,b,c,e,aN,ps,co,len,nn,r,Z,i⟩).2.length-(ql p f).cH.length=p+8:=(gE _).trans (l _);rw[q];exact⟨[false],none,[decide (i<128)==false],j,aA (by rw[eT];exact j4 (by omega)) aX⟩
def DM(f g:cP):cP:=fun d S=>
 match f d S with
 |some r=>some r|none=>g d S
def dg.DM{P:Program}{G:Nat→Option (List af)}{an d:Nat}{c:Code}{f g:cP}(e:dg P G an d c f)(i:dg P G an d c g):dg P G an d c (DM f g):=by
 intro k S l m n h;unfold YtcminalaicidiaaGreatDoor.DM at h;split at h
 ·rename_i r j;cases h;exact e _ _ _ _ _ j
 ·exact i _ _ _ _ _ h
def G9(p:Nat):Nat→cP|0=>fun _ _=>none|n+1=>DM (ql p n).T.told (G9 p n)
def Um{p:Nat}(d:p≤8):∀n,n≤p→dg Tryz.prog bB (an 10) (bS Tryz.prog 10) (.loop (bh Tryz.prog 10 6)) (G9 p n)
 |0,_=>fun e S f g i h=>by cases h
 |n+1,h=>dg.DM (akp d h).run (Um d n (by omega))
def wM(p:Nat):FuncId→Nat→Option cP|10,17=>some (oo p).T.told|10,31=>some (G9 p p)|_,_=>none
def akq{p:Nat}(h1:1≤p)(g:p≤8)(spec:FuncId→Option ay.Spec):c6 (dh spec (wM p)) bB:=by
 refine c6.of fun f=>?_;by_cases e:f=10
 ·subst e;refine .inr ⟨by kernel_rfl,fun i hi l d=>?_⟩;have hi:i<(cI Tryz.prog 10).length:=hi;rw[show(cI Tryz.prog 10).length=9 by kernel_rfl]at hi;have no:∀j,(bY (bh Tryz.prog 10 j)).bind (wM p 10)=none→(bY (bh Tryz.prog 10 j)).bind (wM p 10)=some l→False:=fun j h k=>by rw[h]at k;cases k
  have m:i=0∨i=1∨i=2∨i=3∨i=4∨i=5∨i=6∨i=7∨i=8:=by omega
  rcases m with rfl|rfl|rfl|rfl|rfl|rfl|rfl|rfl|rfl
  ·exact(no 0 (by kernel_rfl) d).elim
  ·exact(no 1 (by kernel_rfl) d).elim
  ·have Q:(bY (bh Tryz.prog 10 2)).bind (wM p 10)=some (oo p).T.told:=by kernel_rfl
   obtain rfl:=dV (Q.symm.trans d);exact(akj h1 g).run
  ·exact(no 3 (by kernel_rfl) d).elim
  ·exact(no 4 (by kernel_rfl) d).elim
  ·exact(no 5 (by kernel_rfl) d).elim
  ·have Q:(bY (bh Tryz.prog 10 6)).bind (wM p 10)=some (G9 p p):=by kernel_rfl
   obtain rfl:=dV (Q.symm.trans d);exact Um g p (aV _)
  ·exact(no 7 (by kernel_rfl) d).elim
  ·exact(no 8 (by kernel_rfl) d).elim
 ·refine .inl fun r=>?_
  show wM p f r=none;unfold wM;split
  ·exact absurd rfl e
  ·exact absurd rfl e
  ·rfl
def m6(p:Nat)(a b c Q:U 8)(V R co len:Int)(W:Nat→Nat)(r:Nat→U 64):uw:=iter (uy gU p) (R-0).toNat ⟨a,b,c,Q,V,R,co,len,0,c7 p W,fz p r⟩
def qm(p:Nat)(a b c Q:U 8)(V R co:Int)(W:Nat→Nat):Nat→Int→(Nat→U 64)→U 64→Nat→qj
 |0,len,r,Z,_=>⟨a,b,c,Q,V,R,co,len,W,r,Z,128⟩|n+1,len,r,Z,l=>
  let q:=iter (qk l) (128-(0:Int)).toNat ⟨a,b,c,Q,V,R,co,len,c7 p W,fz p r,Z,0⟩
  qm p a b c Q V R co W n q.len q.r q.Z (l+1)
def MS(p:Nat)(a b c Q:U 8)(V R co:Int)(W:Nat→Nat):Nat→Int→(Nat→U 64)→U 64→Nat→List Bool
 |0,_,_,_,_=>[]|n+1,len,r,Z,l=>
  let q:=iter (qk l) (128-(0:Int)).toNat ⟨a,b,c,Q,V,R,co,len,c7 p W,fz p r,Z,0⟩
  MS p a b c Q V R co W n q.len q.r q.Z (l+1)++[(ql p l).aT ⟨a,b,c,Q,V,R,co,len,c7 p W,fz p r,Z,0⟩]
def Un:List (List Bool):=[(bt 7 63),(bt 8 127),(bt 9 255)]
def MT(len:Int):aJ:=⟨us 8++[lH len]++us 10++[.ref (.ptr 4 (.c 0))]++us 12++[.ref (.ptr 5 (.c 0))]++us 6,[]⟩
section
variable(a b c Q:U 8)(V R co len:Int)(W:Nat→Nat)(r:Nat→U 64)
def A1(p:Nat):qj:=qm p a b c Q V R co W p (m6 p a b c Q V R co len W r).len (m6 p a b c Q V R co len W r).r je 0
def akr:sX.map (fun p=>eu 4 (some [0,1,2,3,4,p+7]) (MT (A1 a b c Q V R co len W r p).len,jo a b c Q++[yN,⟨.bw (A1 a b c Q V R co len W r p).Z,.own⟩]) (hY ck (wM p) 10 Un (MM p len) ⟨G3 p a b c Q V R co W r [],bQ,[],[]⟩))=
 sX.map fun p=>some (.normal,(MT (A1 a b c Q V R co len W r p).len,jo a b c Q++[yN,⟨.bw (A1 a b c Q V R co len W r p).Z,.own⟩]),MS p a b c Q V R co W p (m6 p a b c Q V R co len W r).len (m6 p a b c Q V R co len W r).r je 0++[(oo p).aT ⟨a,b,c,Q,V,R,co,len,0,c7 p W,fz p r⟩]):=by kernel_rfl
end
def oq(w:BitVec 64)(k:Nat):BitVec 8:=(w>>>(8*k)).setWidth 8
def appW(B:U 8)(w:BitVec 64):U 8:=((((((((B.app (U.of [oq w 0])).app (U.of [oq w 1])).app (U.of [oq w 2])).app (U.of [oq w 3])).app (U.of [oq w 4])).app (U.of [oq w 5])).app (U.of [oq w 6])).app (U.of [oq w 7]))
def He(B:U 8)(w:BitVec 64):(appW B w).n=B.n+8:=rfl
structure sZ where
 (a b c e:U 8)(len:Int)(Z:U 64)(B:U 8)(k:Nat)(i:Int)
def Hf(d:sZ):aJ×List ah:=
 match d with
 |⟨a,b,c,e,len,Z,B,k,i⟩=>(⟨.aa::.aa::.aa::.aa::.aa::.aa::.aa::.aa::(.au len)::.aa::.aa::.aa::.aa::.aa::.aa::.aa::.aa::.aa::.aa::(.P 4)::.aa::.aa::.aa::.aa::.aa::.aa::.aa::.aa::.aa::.aa::.aa::.aa::.aa::.aa::.aa::(.ref (.sl 21 (.c 0) (.s k) none))::.aa::.aa::.aa::[],[⟨182,.au i⟩,⟨181,.agg (dU Z 128)⟩]⟩,[⟨.aj a,.ro⟩,⟨.aj b,.ro⟩,⟨.aj c,.ro⟩,⟨.aj e,.ro⟩,⟨.gen (jA gC),.own⟩,cp,cp,cp,cp,cp,cp,cp,cp,cp,cp,cp,cp,cp,cp,cp,cp,⟨.aj B,.own⟩])
def aks(d:sZ):aJ×List ah:=
 match d with
 |⟨a,b,c,e,len,Z,B,k,i⟩=>(⟨.aa::.aa::.aa::.aa::.aa::.aa::.aa::.aa::(.au len)::.aa::.aa::.aa::.aa::.aa::.aa::.aa::.aa::.aa::.aa::(.P 4)::.aa::.aa::.aa::.aa::.aa::.aa::.aa::.aa::.aa::.aa::.aa::.aa::.aa::.aa::.aa::(.ref (.sl 22 (.c 0) (.s k) none))::.aa::.aa::.aa::[],[⟨182,.au i⟩,⟨181,.agg (dU Z 128)⟩]⟩,[⟨.aj a,.ro⟩,⟨.aj b,.ro⟩,⟨.aj c,.ro⟩,⟨.aj e,.ro⟩,⟨.gen (jA gC),.own⟩,cp,cp,cp,cp,cp,cp,cp,cp,cp,cp,cp,cp,cp,cp,cp,cp,cp,⟨.aj B,.own⟩])
def qn(d:sZ):sZ:=
 match d with
 |⟨a,b,c,e,len,Z,B,k,i⟩=>⟨a,b,c,e,len,Z,appW B ((di Z).l.getD i.toNat 0#64),k+8,i+1⟩
def MU(d:aJ)(e:List ah):Option sZ:=
 match d with
 |⟨((.atom .aa)::(.atom .aa)::(.atom .aa)::(.atom .aa)::(.atom .aa)::(.atom .aa)::(.atom .aa)::(.atom .aa)::(.num (.int .i64 (.s len)))::(.atom .aa)::(.atom .aa)::(.atom .aa)::(.atom .aa)::(.atom .aa)::(.atom .aa)::(.atom .aa)::(.atom .aa)::(.atom .aa)::(.atom .aa)::(.ref (.ptr 4 (.c 0)))::(.atom .aa)::(.atom .aa)::(.atom .aa)::(.atom .aa)::(.atom .aa)::(.atom .aa)::(.atom .aa)::(.atom .aa)::(.atom .aa)::(.atom .aa)::(.atom .aa)::(.atom .aa)::(.atom .aa)::(.atom .aa)::(.atom .aa)::(.ref (.sl 21 (.c 0) (.s k) none))::(.atom .aa)::(.atom .aa)::(.atom .aa)::[]),[⟨182,.num (.int .i64 (.s i))⟩,⟨181,.agg f⟩]⟩=>
  match e with
  |[⟨.aj a,.ro⟩,⟨.aj b,.ro⟩,⟨.aj c,.ro⟩,⟨.aj g,.ro⟩,⟨.gen h,.own⟩,⟨.gen [],.bn⟩,⟨.gen [],.bn⟩,⟨.gen [],.bn⟩,⟨.gen [],.bn⟩,⟨.gen [],.bn⟩,⟨.gen [],.bn⟩,⟨.gen [],.bn⟩,⟨.gen [],.bn⟩,⟨.gen [],.bn⟩,⟨.gen [],.bn⟩,⟨.gen [],.bn⟩,⟨.gen [],.bn⟩,⟨.gen [],.bn⟩,⟨.gen [],.bn⟩,⟨.gen [],.bn⟩,⟨.gen [],.bn⟩,⟨.aj B,.own⟩]=>
   (match mV h gC with
   |true=>
   (match jS 128 f with
   |some Z=>some ⟨a,b,c,g,len,Z,B,k,i⟩|none=>none)
   |false=>none)
  |_=>none
 |_=>none
def ot:eN sZ where
 qV:=⟨.aa::.aa::.aa::.aa::.aa::.aa::.aa::.aa::(.au 0)::.aa::.aa::.aa::.aa::.aa::.aa::.aa::.aa::.aa::.aa::(.P 4)::.aa::.aa::.aa::.aa::.aa::.aa::.aa::.aa::.aa::.aa::.aa::.aa::.aa::.aa::.aa::(.sl 21 (.c 0) (.s 0) none)::.aa::.aa::.aa::[],[⟨182,.au 0⟩,⟨181,.agg (List.replicate 128 (.av 0#64))⟩]⟩
 qW:=[⟨.aj (U.zero 8 0),.ro⟩,⟨.aj (U.zero 8 0),.ro⟩,⟨.aj (U.zero 8 0),.ro⟩,⟨.aj (U.zero 8 0),.ro⟩,⟨.gen (jA gC),.own⟩,cp,cp,cp,cp,cp,cp,cp,cp,cp,cp,cp,cp,cp,cp,cp,cp,⟨.aj (U.zero 8 0),.own⟩]
 d0:=⟨0,0,0,0,0,0,0,0,0⟩
 read:=MU
 az:=aks
 next:=qn
 rem:=fun⟨_,_,_,_,_,_,_,_,i⟩=>(128-i).toNat
 aT:=fun⟨_,_,_,_,_,_,B,k,i⟩=>decide (k=B.n∧1≤i∧i≤128∧(k:Int)=8*i)
 out:=.exit 14
def akt(a b c d:U 8)(len:Int)(Z:U 64)(B:U 8)(k:Nat)(i:Int):jc ot.az 22 ⟨a,b,c,d,len,Z,B,k,i⟩ (some [0,1,2,3,4,5,6,7,8,9,10,11,12,13,14,15,16,17,18,19,20,21,38]) (ot.az (qn ⟨a,b,c,d,len,Z,B,k,i⟩)) (bZ ck aU 10 7) [true] .normal [gv (i+1),(true&&((((((((k+1)+1)+1)+1)+1)+1)+1)==(((((((B.n+1)+1)+1)+1)+1)+1)+1))),decide ((((((((((k+1)+1)+1)+1)+1)+1)+1)+1)*1)≤1099511627776),(true&&(((((((k+1)+1)+1)+1)+1)+1)==((((((B.n+1)+1)+1)+1)+1)+1))),decide (((((((((k+1)+1)+1)+1)+1)+1)+1)*1)≤1099511627776),(true&&((((((k+1)+1)+1)+1)+1)==(((((B.n+1)+1)+1)+1)+1))),decide ((((((((k+1)+1)+1)+1)+1)+1)*1)≤1099511627776),(true&&(((((k+1)+1)+1)+1)==((((B.n+1)+1)+1)+1))),decide (((((((k+1)+1)+1)+1)+1)*1)≤1099511627776),(true&&((((k+1)+1)+1)==(((B.n+1)+1)+1))),decide ((((((k+1)+1)+1)+1)*1)≤1099511627776),(true&&(((k+1)+1)==((B.n+1)+1))),decide (((((k+1)+1)+1)*1)≤1099511627776),(true&&((k+1)==(B.n+1))),decide ((((k+1)+1)*1)≤1099511627776),(true&&(k==B.n)),decide (((k+1)*1)≤1099511627776),(decide (0≤i)&&decide (i<(128:Int))),(decide (i<128)==true)]:=by show _=_;kernel_rfl
def aku(a b c d:U 8)(len:Int)(Z:U 64)(B:U 8)(k:Nat)(i:Int):jc ot.az 22 ⟨a,b,c,d,len,Z,B,k,i⟩ none (ot.fin ⟨a,b,c,d,len,Z,B,k,i⟩) (bZ ck aU 10 7) [false] ot.out [(decide (i<128)==false)]:=by show _=_;kernel_rfl
def akv(a:aJ)(b:List ah)(d:sZ)(h:ot.read a b=some d):(a,b)=Hf d:=by
 replace h:MU a b=some d:=h;unfold MU at h;split at h
 case h_2=>cases h
 split at h
 case h_2=>cases h
 split at h
 case h_2=>cases h
 rename_i c;obtain rfl:=qU c;split at h
 case h_2=>cases h
 rename_i e;obtain⟨rfl,_⟩:=kU e;cases h;rfl
def Uo:dg Tryz.prog bB (an 10) (bS Tryz.prog 10) (bh Tryz.prog 10 7) (bZ ck aU 10 7):=iz fK (cL _) 10 7 vJ (by rw[show(cI Tryz.prog 10).length=9 by kernel_rfl];omega)
def akw:eF Tryz.prog bB (an 10) (bS Tryz.prog 10) (bh Tryz.prog 10 7) (ot.M 21 Hf).told:=by
 refine ot.QZ 21 22 Hf Uo rfl (by intro h;cases h) akv (by rintro⟨a,b,c,d,len,Z,B,k,i⟩;exact⟨rfl,_,rfl,rfl⟩) ?_ ?_
 ·rintro⟨a,b,c,d,len,Z,B,k,i⟩ g e f;have e:=bg e;have f:(128-i).toNat=g+1:=f;have j:ot.next ⟨a,b,c,d,len,Z,B,k,i⟩=qn ⟨a,b,c,d,len,Z,B,k,i⟩:=rfl;rw[j];refine⟨⟨[true],(some [0,1,2,3,4,5,6,7,8,9,10,11,12,13,14,15,16,17,18,19,20,21,38]),_,akt a b c d len Z B k i,?_⟩,?_,?_⟩
  ·repeat'(refine aA ?_ ?_)
   all_goals first|exact aX|rfl|(simp only[gv,cz]<;>omega)
  ·have d:ot.aT (qn ⟨a,b,c,d,len,Z,B,k,i⟩)=decide ((k+8:Nat)=(appW B ((di Z).l.getD i.toNat 0#64):U 8).n∧1≤(i+1:Int)∧(i+1:Int)≤128∧((k+8:Nat):Int)=8*(i+1:Int)):=by kernel_rfl
   refine d.trans (bu ?_);have:=He B ((di Z).l.getD i.toNat 0#64);omega
  ·have d:ot.rem (qn ⟨a,b,c,d,len,Z,B,k,i⟩)=((128-(i+1:Int)).toNat):=by kernel_rfl
   refine d.trans ?_;omega
 ·rintro⟨a,b,c,d,len,Z,B,k,i⟩ e f;have e:=bg e;have f:(128-i).toNat=0:=f;refine⟨[false],none,_,aku a b c d len Z B k i,?_⟩
  repeat'(refine aA ?_ ?_)
  all_goals first|exact aX|rfl|(simp only[gv,cz]<;>omega)
def MV:cP:=(xN (bZ ck aU 10 7) (ot.M 21 Hf).told)
def akx:Told 10 7 MV:=(eF.xN Uo akw).run
def jF:FuncId→Nat→Option cP|10,37=>some MV|_,_=>none
def aky:(cI Tryz.prog 10).length=9:=by kernel_rfl
def akz(spec:FuncId→Option ay.Spec):c6 (dh spec jF) bB:=by
 refine c6.of fun f=>?_;by_cases d:f=10
 ·subst d;refine .inr ⟨by kernel_rfl,fun i hi c a=>?_⟩;have hi:i<(cI Tryz.prog 10).length:=hi;rw[aky]at hi;have e:i=0∨i=1∨i=2∨i=3∨i=4∨i=5∨i=6∨i=7∨i=8:=by omega
  rcases e with rfl|rfl|rfl|rfl|rfl|rfl|rfl|rfl|rfl
  ·have b:(bY (bh Tryz.prog 10 0)).bind (jF 10)=none:=by kernel_rfl
   have a:(bY (bh Tryz.prog 10 0)).bind (jF 10)=some c:=a;rw[b]at a;cases a
  ·have b:(bY (bh Tryz.prog 10 1)).bind (jF 10)=none:=by kernel_rfl
   have a:(bY (bh Tryz.prog 10 1)).bind (jF 10)=some c:=a;rw[b]at a;cases a
  ·have b:(bY (bh Tryz.prog 10 2)).bind (jF 10)=none:=by kernel_rfl
   have a:(bY (bh Tryz.prog 10 2)).bind (jF 10)=some c:=a;rw[b]at a;cases a
  ·have b:(bY (bh Tryz.prog 10 3)).bind (jF 10)=none:=by kernel_rfl
   have a:(bY (bh Tryz.prog 10 3)).bind (jF 10)=some c:=a;rw[b]at a;cases a
  ·have b:(bY (bh Tryz.prog 10 4)).bind (jF 10)=none:=by kernel_rfl
   have a:(bY (bh Tryz.prog 10 4)).bind (jF 10)=some c:=a;rw[b]at a;cases a
  ·have b:(bY (bh Tryz.prog 10 5)).bind (jF 10)=none:=by kernel_rfl
   have a:(bY (bh Tryz.prog 10 5)).bind (jF 10)=some c:=a;rw[b]at a;cases a
  ·have b:(bY (bh Tryz.prog 10 6)).bind (jF 10)=none:=by kernel_rfl
   have a:(bY (bh Tryz.prog 10 6)).bind (jF 10)=some c:=a;rw[b]at a;cases a
  ·have b:(bY (bh Tryz.prog 10 7)).bind (jF 10)=some MV:=by kernel_rfl
   obtain rfl:=dV (b.symm.trans a);exact akx
  ·have b:(bY (bh Tryz.prog 10 8)).bind (jF 10)=none:=by kernel_rfl
   have a:(bY (bh Tryz.prog 10 8)).bind (jF 10)=some c:=a;rw[b]at a;cases a
 ·refine .inl fun r=>?_
  show jF f r=none;unfold jF;split
  ·exact absurd rfl d
  ·rfl
def Up:List (List Bool):=[(bt 10 511),(bt 11 1023)]
def MW:List Bool:=(bt 11 2047)
def DN(len:Int)(k:Nat):aJ:=⟨us 8++[lH len]++us 10++[.ref (.ptr 4 (.c 0))]++us 15++[.ref (.sl 5 (.c 0) (.s k) none)]++us 3,[]⟩
def MX(len:Int):aJ:=⟨us 20++[.ref (.sl 4 (.c 0) (.s len.toNat) none),.atom (.bool (.c true))]++us 17,[]⟩
def lI(a b c P:U 8)(len:Int)(S:U 64):sZ:=iter qn (128-(1:Int)).toNat ⟨a,b,c,P,len,di S,appW (U.of []) (S.l.getD 0 0#64),8,1⟩
section
variable(Q:G0)(a b c P B:U 8)(len:Int)(S:U 64)(k:Nat)
def akA:eu 4 (some [0,1,2,3,4,22]) (DN (lI a b c P len S).len (lI a b c P len S).k,jo a b c P++[yN,⟨.aj (lI a b c P len S).B,.own⟩]) (hY ck jF 10 Up (MT len) ⟨jo a b c P++[yN,⟨.bw S,.own⟩],bQ,[],[]⟩)=
 some (.normal,(DN (lI a b c P len S).len (lI a b c P len S).k,jo a b c P++[yN,⟨.aj (lI a b c P len S).B,.own⟩]),[ot.aT ⟨a,b,c,P,len,di S,appW (U.of []) (S.l.getD 0 0#64),8,1⟩,decide (128≤S.n)]):=by kernel_rfl
def akB:eu 4 (some [0,1,2,3,6]) (MX len,jo a b c P++[⟨.aj (Q B 0 k len),.own⟩]) (wu (G2 lG Q iT 0) aU 10 MW (DN len k) ⟨jo a b c P++[yN,⟨.aj B,.own⟩],bQ,[],[]⟩)=
 some (.ret,(MX len,jo a b c P++[⟨.aj (Q B 0 k len),.own⟩]),[decide (1≤len∧len≤100000∧0+k≤B.n∧k≤1000000)]):=by kernel_rfl
end
end
section
open Go Go.ay
def MY [aR][aG][bl]{spec:FuncId→Option ay.Spec}{j:FuncId→Nat→Option cP}(v:∀f l,spec f=some l→br f l)(x:c6 (dh spec j) bB){f:Nat}(y:aY f)(t:Code){ps:List (List Bool)}
 {n0 dB:Nat} {p:aJ×List ah} {m:aJ} {d:List ah} {z cs:List Bool} {A:Option (List Nat)} {B:dK} (C:eu dB A p (hY spec j f ps m ⟨d,bQ,z,[]⟩)=some (B,p,cs)) (D:∀g∈cs,g=true) (E:n0≤dB) (F:dB≤d.length)
 {h β:aE} {n:List ah} {o w:World} {a:Act} (I:∀b J,h b=some J→b<n0) (K:cK (an f) (bS Tryz.prog f) β m a) (L:aM bB β d w) (M:gl n0 h n o β d w) {Q:Exit→Act→World→Prop}
 (N:∀q w' i,cK (an f) (bS Tryz.prog f) i p.1 q→aM bB i p.2 w'→gl n0 h n o i p.2 w'→t.en Tryz.prog Q q w'):(n6 (c8 Tryz.prog f) ps t).en Tryz.prog Q a w:=by
 intro b k r s u O;obtain⟨al,P,R,S,T,V⟩:=tN C;obtain⟨W,X⟩:=K8 v x f y t ps _ _ _ _ _ R;refine X (fun g Y=>D g (by rw[←V];exact Y)) β a w K L b k r s u fun Z aa am ab ad ae=>?_;have af:dB≤P.H.length:=ga F W.len;obtain⟨ag,ai,aj,ak,ao,ap⟩:=K5 (n0:=n0) M I E af S T ab ad ae;exact N Z aa ag ai aj ak b k r s u O
section
variable(a b c e:U 8)(bD na bC nb bO bG bW ne:Nat)(aN ps ke len:Int)(p:Nat)
def uz:Nat→U 64:=G4 lG fA iT a b c e bD na bC nb bO bG bW ne aN ps ke len p
def jW:qj:=A1 a b c e aN ps (jE p ke) len (iC ke p) (uz a b c e bD na bC nb bO bG bW ne aN ps ke len p) p
def rD:sZ:=lI a b c e (jW a b c e bD na bC nb bO bG bW ne aN ps ke len p).len (jW a b c e bD na bC nb bO bG bW ne aN ps ke len p).Z
def ou:U 8:=fA (rD a b c e bD na bC nb bO bG bW ne aN ps ke len p).B 0 (rD a b c e bD na bC nb bO bG bW ne aN ps ke len p).k len
end
variable [aR][aG][bl]
structure Hg where
 (a b c e:U 8)(bD na bC nb bO bG bW ne:Nat)(aN ps ke la len:Int)
def MZ(a:List af)(d:List ah):Option Hg:=
 match a with
 |[.num (.int .i64 (.s aN)),.ref (.sl 0 (.s bD) (.s na) none),.ref (.sl 1 (.s bC) (.s nb) none),.ref (.sl 2 (.s bO) (.s bG) none),.ref (.sl 3 (.s bW) (.s ne) none),.num (.int .i64 (.s ps)),.num (.int .i64 (.s ke)),.num (.int .i64 (.s f)),.num (.int .i64 (.s len)),.agg g]=>
  match d with
  |[⟨.aj a,.ro⟩,⟨.aj b,.ro⟩,⟨.aj c,.ro⟩,⟨.aj e,.ro⟩]=>
   (match mV g gC with
   |true=>some ⟨a,b,c,e,bD,na,bC,nb,bO,bG,bW,ne,aN,ps,ke,f,len⟩|false=>none)
  |_=>none
 |_=>none
def o3:bV Hg where
 d0:=⟨0,0,0,0,0,0,0,0,0,0,0,0,0,0,0,0,0⟩
 read:=MZ
 args:=fun⟨_,_,_,_,bD,na,bC,nb,bO,bG,bW,ne,aN,ps,ke,d,len⟩=>[.au aN,.ref (.sl 0 (.s bD) (.s na) none),.ref (.sl 1 (.s bC) (.s nb) none),.ref (.sl 2 (.s bO) (.s bG) none),.ref (.sl 3 (.s bW) (.s ne) none),.au ps,.au ke,.au d,.au len,.agg (jA gC)]
 heap:=fun⟨a,b,c,e,_,_,_,_,_,_,_,_,_,_,_,_,_⟩=>[⟨.aj a,.ro⟩,⟨.aj b,.ro⟩,⟨.aj c,.ro⟩,⟨.aj e,.ro⟩]
 out:=fun⟨a,b,c,e,bD,na,bC,nb,bO,bG,bW,ne,aN,ps,ke,d,len⟩=>[⟨.aj a,.ro⟩,⟨.aj b,.ro⟩,⟨.aj c,.ro⟩,⟨.aj e,.ro⟩,⟨.aj (ou a b c e bD na bC nb bO bG bW ne aN ps ke len d.toNat),.own⟩]
 val:=fun⟨_,_,c,_,_,_,_,_,_,_,_,_,_,_,_,_,len⟩=>(.obj .bA [.ref (.sl 4 (.c 0) (.s len.toNat) none),.atom (.bool (.c true))])
 aT:=fun⟨a,b,c,e,bD,na,bC,nb,bO,bG,bW,ne,aN,ps,ke,d,len⟩=>decide (bD+na≤a.n∧na≤1000000∧bC+nb≤b.n∧nb≤1000000∧bO+bG≤c.n∧bG≤1000000∧bW+ne≤e.n∧ne≤1000000∧0≤aN∧aN≤2∧1≤ps∧ps≤4∧0≤ke∧ke≤256∧1≤d∧d≤8∧1≤len∧len≤1024)
def akC(a:List af)(f:List ah)(d:Hg)(h:o3.read a f=some d):a=o3.args d∧f=o3.heap d:=by
 replace h:MZ a f=some d:=h;unfold MZ at h;split at h
 case h_2=>cases h
 split at h
 case h_2=>cases h
 split at h
 case h_2=>cases h
 rename_i g;obtain rfl:=qU g;cases h;exact⟨rfl,rfl⟩
def akD{p:Nat}{ke:Int}(h1:1≤p)(k:p≤8)(l:0≤ke∧ke≤256):(8≤jE p ke∧jE p ke≤256∧(jE p ke).tdiv 4*4=jE p ke)∧8*(p:Int)≤mj p ke∧mj p ke≤256∧0≤wL p (mj p ke)∧wL p (mj p ke)≤256:=by
 have f:8*(p:Int)≤mj p ke∧mj p ke≤256:=by
  unfold mj;split<;>rename_i h<;>simp only[jI]at h<;>omega
 unfold jE;generalize mj p ke=d at f;have g:d.tdiv (4*(p:Int))=d/(4*(p:Int)):=pK (by omega);have h2:2≤d/(4*(p:Int)):=Int.le_ediv_of_mul_le (by omega) (by omega);have h3:d/(4*(p:Int))*(4*(p:Int))≤d:=Int.ediv_mul_le _ (by omega);unfold wL;rw[g];generalize d/(4*(p:Int))=t at h2 h3;have e:t*(4*(p:Int))=t*4*(p:Int):=(Int.mul_assoc ..).symm;have i:(t*(4*(p:Int))).tdiv (p:Int)=t*4:=by rw[e];exact Ei _ (by omega)
 have h4:t*4*1≤t*4*(p:Int):=Int.mul_le_mul_of_nonneg_left (by omega) (by omega);rw[i,e];rw[e]at h3;have j:(t*4).tdiv 4=t:=Ei _ (by omega);rw[j];exact⟨⟨by omega,by omega,rfl⟩,f.1,f.2,by omega,by omega⟩
def DO:je.n=128:=ni
section
variable{a b c e:U 8}{bD na bC nb bO bG bW ne:Nat}{aN ps ke len:Int}{p:Nat}
def Uq(t m:BitVec 32)(p k aN:Int):(lG a b c e bD na bC nb bO bG bW ne t m p k aN).n=64:=(sV _ 0 _ 64 (by omega)).1
def Ur{g:U 8}{co:Int}(i:g.n=64)(j:8≤co∧co≤256):∀l,∀f∈MO fA g co l,f=true
 |0,f,d=>by cases d
 |l+1,f,d=>by
  have k:∀c,(fA (kC g c l) 0 72 1024).n=1024:=fun c=>T6 _ 0 72 1024 (by omega) (by omega);have h:∀c,c≤1→∀f∈MN fA g co.toNat c l,f=true:=fun c m=>aA (bu (by omega)) (aA (by rw[Bool.true_and];exact bu (by omega)) (aA (bu ⟨aV _,by rw[k];omega⟩) (aA rfl (aA (bu (by omega)) aX))));rcases fQ.1 d with d|d
  ·exact h 1 (aV _) f d
  rcases fQ.1 d with d|d
  ·exact h 0 (by omega) f d
  rcases fQ.1 d with d|d
  ·refine aA (bu (by omega)) (aA ?_ aX) f d;rw[dI,dI];exact⟨⟨bu (by omega),bu (by omega)⟩,bu (by omega)⟩
  ·exact Ur i j l f d
def M0(l:Nat):∀m (d:qj),(iter (qk l) m d).len=d.len∧(iter (qk l) m d).r=d.r∧(iter (qk l) m d).Z.n=d.Z.n|0,d=>⟨rfl,rfl,rfl⟩|m+1,⟨a,b,c,e,aN,ps,co,len,f,r,Z,i⟩=>M0 l m (qk l ⟨a,b,c,e,aN,ps,co,len,f,r,Z,i⟩)
def Us(p:Nat):∀m (d:uw),(iter (uy gU p) m d).len=d.len∧∀i,i<p→((iter (uy gU p) m d).r i).n=(d.r i).n
 |0,d=>⟨rfl,fun _ _=>rfl⟩|m+1,⟨a,b,c,e,aN,ps,co,len,f,g,r⟩=>by
  obtain⟨h1,h2⟩:=Us p m (uy gU p ⟨a,b,c,e,aN,ps,co,len,f,g,r⟩);exact⟨h1,fun i hi=>(h2 i hi).trans (MR _ r i hi)⟩
def Ut{nn:Nat→Nat}{co:Int}:∀(n:Nat) (len:Int) (r:Nat→U 64) (Z:U 64) (l:Nat),Z.n=128→(qm p a b c e aN ps co nn n len r Z l).len=len∧(qm p a b c e aN ps co nn n len r Z l).Z.n=128
 |0,len,r,Z,l,h=>⟨rfl,h⟩|n+1,len,r,Z,l,h=>by
  obtain⟨h1,h2,h3⟩:=M0 l (128-(0:Int)).toNat ⟨a,b,c,e,aN,ps,co,len,c7 p nn,fz p r,Z,0⟩;obtain⟨d,f⟩:=Ut n _ (iter (qk l) (128-(0:Int)).toNat ⟨a,b,c,e,aN,ps,co,len,c7 p nn,fz p r,Z,0⟩).r _ (l+1) (h3.trans h);exact⟨d.trans h1,f⟩
def Uu{f:Nat→Nat}{co:Int}(h:1≤co∧co≤256)(j:∀i,i<p→(f i:Int)=co):∀(n:Nat) (len:Int) (r:Nat→U 64) (Z:U 64) (l:Nat),l+n≤p→Z.n=128→(∀i,i<p→(r i).n=f i*128)→∀g∈MS p a b c e aN ps co f n len r Z l,g=true
 |0,_,_,_,_,_,_,_,g,d=>by cases d
 |n+1,len,r,Z,l,o,k,m,g,d=>by
  obtain⟨h1,h2,h3⟩:=M0 l (128-(0:Int)).toNat ⟨a,b,c,e,aN,ps,co,len,c7 p f,fz p r,Z,0⟩;rcases fQ.1 d with d|d
  ·refine Uu h j n _ _ _ (l+1) (by omega) (h3.trans k) (fun i hi=>?_) g d;rw[h2]
   show(fz p r i).n=_;rw[m0 r hi];exact m i hi
  ·rw[ta.1 d];refine bu ⟨by omega,by omega,h.1,h.2,?_,?_,k⟩
   ·rw[wC f (by omega)];exact j l (by omega)
   ·rw[wC f (by omega),m0 r (by omega)];exact m l (by omega)
def Uv:∀m (d:sZ),d.k=d.B.n→(iter qn m d).len=d.len∧(iter qn m d).k=d.k+8*m∧(iter qn m d).B.n=d.B.n+8*m
 |0,d,h=>⟨rfl,rfl,rfl⟩|m+1,⟨a,b,c,e,len,Z,B,k,i⟩,h=>by
  have h:k=B.n:=h;have f:(appW B ((di Z).l.getD i.toNat 0#64)).n=B.n+8:=He ..;obtain⟨h1,h2,h3⟩:=Uv m (qn ⟨a,b,c,e,len,Z,B,k,i⟩) (by show k+8=(appW B _).n;rw[f,h]);refine⟨h1,h2.trans ?_,h3.trans ?_⟩
  ·show k+8+8*m=k+8*(m+1);omega
  ·show(appW B _).n+8*m=B.n+8*(m+1);rw[f];omega
end
def akE(a b c e:U 8)(len:Int)(Z:U 64)(B:U 8)(k:Nat)(i:Int):ot.aT ⟨a,b,c,e,len,Z,B,k,i⟩=decide (k=B.n∧1≤i∧i≤128∧(k:Int)=8*i):=by kernel_rfl
def akF:c8 Tryz.prog 10=n6 (c8 Tryz.prog 10) Uc (n6 (c8 Tryz.prog 10) Un (n6 (c8 Tryz.prog 10) Up (sub MW (c8 Tryz.prog 10)))):=by kernel_rfl
def akG:br 10 o3.spec:=by
 refine o3.wq akC fun d A β w vs X D m=>?_;obtain⟨a,b,c,e,bD,na,bC,nb,bO,bG,bW,ne,aN,ps,ke,M,len⟩:=d;have A:=bg A;obtain⟨Y,aa,ab,bf,ad,ae,ag,cF,a1,a2,a3,ai,ak,al,a4,a5,dB,a6⟩:=A;obtain⟨p,rfl⟩:∃p:Nat,M=(p:Int):=⟨M.toNat,by omega⟩;have E:1≤p:=by omega
 have t:p≤8:=by omega
 have am:((p:Int)).toNat=p:=eA p;have N:=Ui E t;obtain⟨x,a7,a8,ao,a9⟩:=akD (ke:=ke) E t ⟨ak,al⟩;have ap:aK β (ML p bD na bC nb bO bG bW ne aN ps ke len) vs:=by
  obtain⟨aq,O⟩:=X;refine⟨aq,fun i h v g P=>?_⟩;by_cases hi:i=7
  ·subst hi;have g:some (af.num (.int .i64 (.c (p:Int))))=some h:=g;injection g with g;subst g;rw[(O 7 (.num (.int .i64 (.s (p:Int)))) v rfl P).num_inv];exact .num (.int .i64 (.c (p:Int)))
  ·refine O i h v ?_ P
   match i,hi,g with
   |0,_,g=>exact g|1,_,g=>exact g|2,_,g=>exact g|3,_,g=>exact g|4,_,g=>exact g|5,_,g=>exact g|6,_,g=>exact g|8,_,g=>exact g|9,_,g=>exact g|j+10,_,g=>cases g
 have D:aM bB β (jo a b c e) w:=D;have m:∀Q ar,β Q=some ar→Q<4:=m;have au:bS Tryz.prog 10=202:=by kernel_rfl
 refine Su (C:=dh ck aU) rfl (f:=10) (bl.plain 10 (by kernel_rfl)) (by kernel_rfl) ap (by show 10≤bS Tryz.prog 10;rw[au];decide) fun av F=>?_
 show(c8 Tryz.prog 10).en _ _ _ _;rw[akF];have F:cK (an 10) (bS Tryz.prog 10) β ⟨ML p bD na bC nb bO bG bW ne aN ps ke len++us 29,[]⟩ av:=F;have R:∀i,i<p→((iC ke p i:Nat):Int)=jE p ke:=fun i _=>by show(((jE p ke).toNat:Nat):Int)=_;omega
 have S:∀i,i<p→(uz a b c e bD na bC nb bO bG bW ne aN ps ke len p i).n=iC ke p i*128:=fun i _=>rfl;have aw:=gR (aka lG fA iT a b c e bD na bC nb bO bG bW ne aN ps ke len) N;have ax:=gR (akr a b c e aN ps (jE p ke) len (iC ke p) (uz a b c e bD na bC nb bO bG bW ne aN ps ke len p)) N;have ay:=akA a b c e (jW a b c e bD na bC nb bO bG bW ne aN ps ke len p).len (jW a b c e bD na bC nb bO bG bW ne aN ps ke len p).Z;obtain⟨az,H⟩:=Us p (ps-0).toNat ⟨a,b,c,e,aN,ps,jE p ke,len,0,c7 p (iC ke p),fz p (uz a b c e bD na bC nb bO bG bW ne aN ps ke len p)⟩;have H:∀i,i<p→((m6 p a b c e aN ps (jE p ke) len (iC ke p) (uz a b c e bD na bC nb bO bG bW ne aN ps ke len p)).r i).n=iC ke p i*128:=fun i hi=>(H i hi).trans (by show(fz p _ i).n=_;rw[m0 _ hi];exact S i hi);obtain⟨aB,aC⟩:=Ut (p:=p) (a:=a) (b:=b) (c:=c) (e:=e) (aN:=aN) (ps:=ps) (nn:=iC ke p) (co:=jE p ke) p (m6 p a b c e aN ps (jE p ke) len (iC ke p) (uz a b c e bD na bC nb bO bG bW ne aN ps ke len p)).len (m6 p a b c e aN ps (jE p ke) len (iC ke p) (uz a b c e bD na bC nb bO bG bW ne aN ps ke len p)).r je 0 DO;have aD:(jW a b c e bD na bC nb bO bG bW ne aN ps ke len p).len=len:=aB.trans az;have ba:(jW a b c e bD na bC nb bO bG bW ne aN ps ke len p).Z.n=128:=aC;have I:(appW (U.of []) ((jW a b c e bD na bC nb bO bG bW ne aN ps ke len p).Z.l.getD 0 0#64)).n=8:=He ..;obtain⟨y,J,K⟩:=Uv (128-(1:Int)).toNat ⟨a,b,c,e,(jW a b c e bD na bC nb bO bG bW ne aN ps ke len p).len,di (jW a b c e bD na bC nb bO bG bW ne aN ps ke len p).Z,appW (U.of []) ((jW a b c e bD na bC nb bO bG bW ne aN ps ke len p).Z.l.getD 0 0#64),8,1⟩ I.symm;have aE:rD a b c e bD na bC nb bO bG bW ne aN ps ke len p=iter qn (128-(1:Int)).toNat ⟨a,b,c,e,(jW a b c e bD na bC nb bO bG bW ne aN ps ke len p).len,di (jW a b c e bD na bC nb bO bG bW ne aN ps ke len p).Z,appW (U.of []) ((jW a b c e bD na bC nb bO bG bW ne aN ps ke len p).Z.l.getD 0 0#64),8,1⟩:=rfl;rw[←aE]at y J K;have y:(rD a b c e bD na bC nb bO bG bW ne aN ps ke len p).len=len:=y.trans aD;have J:(rD a b c e bD na bC nb bO bG bW ne aN ps ke len p).k=1024:=J;have K:(rD a b c e bD na bC nb bO bG bW ne aN ps ke len p).B.n=1024:=K.trans (by rw[I];omega);have aF:=akB fA a b c e (rD a b c e bD na bC nb bO bG bW ne aN ps ke len p).B len (rD a b c e bD na bC nb bO bG bW ne aN ps ke len p).k;have aH:o3.out ⟨a,b,c,e,bD,na,bC,nb,bO,bG,bW,ne,aN,ps,ke,(p:Int),len⟩=jo a b c e++[⟨.aj (ou a b c e bD na bC nb bO bG bW ne aN ps ke len p),.own⟩]:=by
  show jo a b c e++[⟨.aj (ou a b c e bD na bC nb bO bG bW ne aN ps ke len ((p:Int)).toNat),.own⟩]=_;rw[am]
 have aI:o3.val ⟨a,b,c,e,bD,na,bC,nb,bO,bG,bW,ne,aN,ps,ke,(p:Int),len⟩=.obj .bA [.ref (.sl 4 (.c 0) (.s len.toNat) none),.atom (.bool (.c true))]:=rfl;have aJ:o3.heap ⟨a,b,c,e,bD,na,bC,nb,bO,bG,bW,ne,aN,ps,ke,(p:Int),len⟩=jo a b c e:=rfl;rw[aH,aI,aJ];refine MY (n0:=4) (Ub t) (cL _) vJ _ aw (fun h g=>?_) (aV 4) (aV 4) m F D ((bJ.refl ..).q (aV 4)) fun bb w1 bc aL h1 aO=>?_
 ·rcases fQ.1 g with g|g
  ·exact Ur (Uq ..) ⟨x.1,x.2.1⟩ p h g
  ·refine aA (bu ⟨ao,by omega,by omega⟩) (aA (ia (by omega)) (aA (bu ⟨by omega,by omega,by omega⟩) (aA (bu ⟨Y,aa,ab,bf,ad,ae,ag,cF⟩) ?_))) h g;have aP:decide (len<1)=false:=j4 (by omega);have aQ:decide (ps<1)=false:=j4 (by omega);have aS:decide ((2:Int)<aN)=false:=j4 (by omega);have aT:decide (aN<0)=false:=j4 (by omega);rw[aP,aQ,aS,aT];exact aA rfl (aA rfl (aA rfl (aA rfl (aA rfl (aA rfl (aA rfl (aA rfl (aA rfl (aA rfl aX)))))))))
 refine MY (n0:=4) fK (akq E t _) vJ _ ax (fun h g=>?_) (aV 4) (by unfold G3 jo;simp only[fB,iW];omega) m aL h1 aO fun bd bh bi aW h2 aY=>?_
 ·rcases fQ.1 g with g|g
  ·exact Uu ⟨by omega,x.2.1⟩ R p _ _ _ 0 (by omega) DO H h g
  ·rw[ta.1 g];refine@bu _ (Classical.propDecidable _) (show GP p _ from⟨ai,x,⟨rM 0,by show 0≤ps;omega⟩,fun i hi=>by show(c7 p (iC ke p) i:Int)=_;rw[wC _ hi];exact R i hi,fun i hi=>by show(fz p _ i).n=c7 p (iC ke p) i*128;rw[wC _ hi,m0 _ hi];exact S i hi⟩)
 refine MY (n0:=4) fK (akz _) vJ _ ay ?_ (aV 4) (by show 4≤6;decide) m aW h2 aY fun T bj V o h3 aZ=>?_
 ·exact aA (by rw[akE];exact bu ⟨I.symm,by omega,by omega,by omega⟩) (aA (bu (by omega)) aX)
 have o:cK (an 10) (bS Tryz.prog 10) V (DN len (rD a b c e bD na bC nb bO bG bW ne aN ps ke len p).k) T:=by
  have o:cK (an 10) (bS Tryz.prog 10) V (DN (rD a b c e bD na bC nb bO bG bW ne aN ps ke len p).len (rD a b c e bD na bC nb bO bG bW ne aN ps ke len p).k) T:=o;rw[y]at o;exact o
 refine(K7 (Ub (p:=0) (by decide)) (cL _) 10 MW vJ).step (n0:=4) aF ?_ (aV 4) (by show 4≤6;decide) m o h3 aZ fun bk W z f4 h4 L _ _=>?_
 ·exact aA (bu ⟨dB,by omega,by omega,by omega⟩) aX
 ·have h4:aM bB z (jo a b c e++[⟨.aj (ou a b c e bD na bC nb bO bG bW ne aN ps ke len p),.own⟩]) W:=h4;have L:gl 4 β (jo a b c e) w z (jo a b c e++[⟨.aj (ou a b c e bD na bC nb bO bG bW ne aN ps ke len p),.own⟩]) W:=L;exact⟨rfl,MX len,⟨jo a b c e++[(⟨.aj (ou a b c e bD na bC nb bO bG bW ne aN ps ke len p),.own⟩:ah)],bQ,[],[]⟩,⟨jo a b c e++[(⟨.aj (ou a b c e bD na bC nb bO bG bW ne aN ps ke len p),.own⟩:ah)],bQ,[],[]⟩,[.ref (.sl 4 (.c 0) (.s len.toNat) none),.atom (.bool (.c true))],z,by kernel_rfl,(fun h g=>by cases g),f4,h4,fun u a0=>⟨u,z,rfl,a0,h4,L⟩⟩
end
section
open Go Go.ay Conc Conc.Lib RowKit
open Go.ConcR (KK WgAt stA smA rd wr mk DC0 wgBlock)
variable [aR]
instance akH(p:dm)(k:Nat)(f:cx):@bl (p.co k f):=@bl.mk (p.co k f) fun _ _=>trivial
def akI(p:dm)(k:Nat)(f:cx)(cn room:Nat)(X:U 64)(g:Goroutine)(c:World):Prop:=
 ∃b a,g=G ((baseD 44).at b [.code Dl]) [k6]∧@cK _ PX (an 44) (bS Tryz.prog 44) a (yC f X (cA p.Wg)).1 b∧@aM _ (p.co k f) bB a (yC f X (cA p.Wg)).2 c∧a 0=some ⟨cn,0,room⟩
section
variable{ph:dm}{k n0 cn room:Nat}{f:cx}{X:U 64}{M:Nat}{m:Int}{mem tm Q P p n sl kk:BitVec 32}
def akJ(e:Dk f M Q P p n sl kk)(g:X.n=M*128)(h2:2≤P.toNat){w:World}{a:Act}
 (h:@cK _ PX (an 44) (bS Tryz.prog 44) (pz n0 cn room) (uf n sl kk (cA ph.Wg) (.atom .aa) (.atom .aa) (.atom .aa) (.atom .aa)) a) (i:@aM _ (ph.co k f) bB (pz n0 cn room) (sK f X M m mem tm Q P p) w):
 @de (ph.co k f) Tryz.prog (akI ph k f cn room (lF f X M m mem tm Q P p n sl kk)) (G ((baseD 44).at a [.code (c8 Tryz.prog 44)]) [k6]) w:=by
 letI:=ph.co k f;rw[ahU];obtain⟨F,I,J,j,l⟩:=ah0 f X M m mem tm Q P p n sl kk (cA ph.Wg);obtain⟨K,L,N,o,q⟩:=ah1 f X M m mem tm Q P p n sl kk (cA ph.Wg);obtain⟨O,R,S,b,r⟩:=ah3 f X M m mem tm Q P p n sl kk (cA ph.Wg) e g h2;have c:=Ti (d2 f X M m mem tm Q P p n sl kk (cA ph.Wg));rw[c.1,c.2.1,ah5,show(d2 f X M m mem tm Q P p n sl kk (cA ph.Wg)).f=f from rfl,show(d2 f X M m mem tm Q P p n sl kk (cA ph.Wg)).kz=cA ph.Wg from rfl]at b;refine Gl F5 (cL _) CV _ j l h i (baseD 44) [] [k6] _ ⟨by simp[baseD],trivial⟩ fun T w1 V s t _ u=>?_;refine Gl F5 (cL _) CV _ o q s t (baseD 44) [] [k6] _ ⟨by simp[baseD],trivial⟩ fun W Y Z v x _ y=>?_;refine Gl (H:=iQ f X M m mem tm Q P p (rm m mem tm n sl kk) (pq m mem tm n sl kk)) (p:=yC f (lF f X M m mem tm Q P p n sl kk) (cA ph.Wg)) F5 (ah2 _) CV Dl b r v x (baseD 44) [] [k6] _ ⟨by simp[baseD],trivial⟩ fun z aa d A B _ C=>.stop fun ab D=>?_;have E:d 0=some ⟨cn,0,room⟩:=(C 0 (by show 0<11;decide)).trans ((y 0 (by show 0<11;decide)).trans ((u 0 (by show 0<8;decide)).trans rfl));exact⟨z,d,rfl,A,B.rely D,E⟩
def akK [aG]{n0:Nat}:cK (an 44) (bS Tryz.prog 44) (pz n0 cn room) (uf n sl kk (cA ph.Wg) .aa .aa .aa .aa) {tmps:=(⟨AR n0 n.toNat sl.toNat kk.toNat ph.Wg⟩:Array Value)++Array.replicate (bS Tryz.prog 44-(AR n0 n.toNat sl.toNat kk.toNat ph.Wg).length) undef,defers:=[]}:=by
 have g:∀b,b<8→pz n0 cn room b=some ⟨wD n0 cn b,0,if b=0 then room else 1⟩:=fun b d=>by unfold pz;rw[ax d]
 have a:∀b,b<8→aC (pz n0 cn room) (.ref (.ptr b (.c 0))) (cA (wD n0 cn b)):=fun b d=>.ptr b (.c 0) _ (g b d);have h:aK (pz n0 cn room) [.num (.aF n),.num (.aF sl),.num (.aF kk),.exact (cA ph.Wg),.ref (.ptr 1 (.c 0)),.ref (.ptr 2 (.c 0)),.ref (.ptr 3 (.c 0)),.ref (.ptr 4 (.c 0)),.ref (.ptr 5 (.c 0)),.ref (.ptr 6 (.c 0)),.ref (.ptr 7 (.c 0))]
  (AR n0 n.toNat sl.toNat kk.toNat ph.Wg):=
  .cons (.num (.aF n)) (.cons (.num (.aF sl)) (.cons (.num (.aF kk)) (.cons (.exact _) (.cons (a 1 (by decide)) (.cons (a 2 (by decide)) (.cons (a 3 (by decide)) (.cons (a 4 (by decide)) (.cons (a 5 (by decide)) (.cons (a 6 (by decide)) (.cons (a 7 (by decide)) (.nil _)))))))))))
 have i:an 44=23:=by kernel_rfl
 have e:=Tj (an:=an 44) (bE:=bS Tryz.prog 44) h (by rw[Tc];show 11≤153;omega);rw[i]at e⊢;exact e
def akL{e v:World}{g:aE}(r:@aM _ (ph.co k f) bB g (yC f X (cA ph.Wg)).2 e)(s:g 0=some ⟨cn,0,room⟩)(u:ph.bN=cn)(w:@fe (ph.co k f) e v)(E:0<X.n):
 ∃us t bx,v.heap[cn]? =some (.cells us t bx)∧X.n≤us.size∧∀a,a<X.n→f a true=true→us[a]? =k5 X a:=by
 letI:=ph.co k f;rcases r.blk 0 ⟨.lim f X,.own⟩ rfl (eo rfl)with⟨F,c,x⟩|⟨i,_⟩
 ·rw[s]at c;injection c with c;subst c;obtain⟨_,_,vs,t,bx,d,H,j,bf,I,y⟩:=x;have d:e.heap[cn]? =some (.cells ⟨vs⟩ t bx):=d;have bf:X.n≤room:=bf;have j:vs.length=room:=j;have o:∀a,a<X.n→vs[a]? =k5 X a:=fun a b=>by
   have h1:(X.l.map af.av)[a]? =some (.av (X.l[a]'(by rw[X.h];exact b))):=by simp[X.h,b]
   have h2:(vs.take X.n)[a]? =some (vs[a]'(by omega)):=by rw[lM,ax b];exact bX _
   have h3:=(y a _ _ h1 h2).num_inv;rw[bX (by omega:a<vs.length),h3];unfold k5;rw[bX (by rw[X.h];exact b)];rfl
  rcases w.shr cn u.symm with z|⟨J,us,K,L,q,A,B,C⟩
  ·exact⟨_,t,bx,z.trans d,by simpa using(by omega:X.n≤vs.length),fun a b _=>by simpa using o a b⟩
  ·rw[d]at q;cases q;exact⟨us,t,bx,A,by rw[B];simpa using(by omega:X.n≤vs.length),fun a b D=>by rw[C a (.inr D)];simpa using o a b⟩
 ·have i:X.n=0:=i;omega
end
end
section
open Go Go.ay Conc Conc.Lib RowKit
open Go.ConcR (KK WgAt stA smA rd wr mk DC0 wgBlock)
open Go.ConcN (WgLive)
variable [aR]
def akM [aG]{β:aE}{u v:Value}(h:aC β (.atom (.exact u)) v):v=u:=by
 cases h;rfl
structure Uw(c:Call)(i k:Nat)(f:cx)(M:Nat)(mem tm ln aB p n sl kk:BitVec 32):Prop where
 lS:c.lS=some ⟨c.cn,0,none⟩
 lT:c.lT=M
 cap:M≤c.eM∧c.eM*128≤c.room
 sL:c.sL=M*128
 pos:0<M
 akN:c.mem=(mem.toNat:Int)
 akO:c.tm=tm.toNat
 akP:c.ln=(ln.toNat:Int)
 akQ:c.aB=(aB.toNat:Int)
 akR:c.N=p.toNat
 aeD:i/4=n.toNat
 akS:i%4=sl.toNat
 akT:k=kk.toNat
 rX:Dk f M ln aB p n sl kk
 two:2≤aB.toNat
 wr:∀o,f o true=true→c.cY (i%4) k o
 rd:∀o,f o false=true→c.cY (i%4) k o∨c.iJ (i%4) o
 mine:∀o,c.cY (i%4) k o→o<c.sL∧f o true=true
 Y:∀o,c.cY (i%4) k o→some (c.Y i k o)=k5 (lF f (c.V i) M c.mode mem tm ln aB p n sl kk) o
 kx:c.kx (i%4) k<c.sL
def Ux(f:cx)(X:U 64)(M:Nat)(m:Int)(mem tm c d p n sl k:BitVec 32)(a:aG)(b:@bl a):(lF f X M m mem tm c d p n sl k).n=X.n:=
 (@Ti _ a b (d2 f X M m mem tm c d p n sl k undef)).2.2
def akU{c:Call}{D:Machine}{q:World}(ae:fV c)(af:∀i k,i<4*c.tm→k<c.N→∃f M mem tm y A p n sl kk,Uw c i k f M mem tm y A p n sl kk)(K:c.cn<q.heap.size)(aW:¬mQ Tryz.prog D 33 c.cn)(ag:Tl D q c.cn):AQ c D q:=by
 intro i hi ah w1 E ai aj ph e k ak w al;obtain⟨f,M,mem,tm,y,A,p,n,sl,kk,d⟩:=af i k hi ak;have r:=e.ok;have B:=e.ext;have aX:=E.size;have aY:ph.cG.heap.size=w1.heap.size+1:=B.size;have am:∀b,¬mQ Tryz.prog D 33 b→∀s:Addr,s.block=b→¬ah (.cell s):=fun b K s F H=>by
  obtain⟨a,an,_,h⟩:=ai _ H;cases an;exact K (F▸h)
 have W:Ce ph k f:=⟨fun o x=>by rw[e.rX];exact d.wr o x,fun o x=>by rw[e.rX,e.xx];exact d.rd o x⟩;have L:=e.bN;have O:(c.V i).n=M*128:=(ae.n i).trans d.sL;have ao:∀j,j<7→ph.mM (q.heap.size+j):=fun j I=>e.eD _ (by omega) (by omega) fun s F H=>aj s (by omega) (by omega) H;have ap:@aM _ (ph.co k f) bB (pz q.heap.size c.cn c.room) (sK f (c.V i) M c.mode mem tm y A p) ph.cG:=by
  refine ah6 (c5:=c.eM) L O d.cap.1 d.cap.2 (let⟨o,aq,ar⟩:=E.GF;⟨o,aq,(B.old (by omega)).trans ar⟩) K ao (fun j o I=>?_) fun g l au=>?_
  ·rw[←d.lS,←d.lT,←d.akN,←d.akP,←d.akQ,←d.akO,←d.akR]at I;have aZ:j<7:=(dW.1 I).1;exact(B.old (by omega)).trans (E.boxes j o I)
  ·obtain⟨X,P,av,bf⟩:=ag g l au;refine⟨X,P,e.eD _ (by omega) P (am _ av),fun j s Q=>?_⟩;obtain⟨v,aw,ax⟩:=bf j s Q;refine⟨v,?_,ax⟩;rw[←aw];obtain⟨a0,ay⟩:=r6 g;rw[ay];unfold World.cell? at';simp only;rw[B.old (by omega),E.old _ X P]
 have aA:call44 q.heap.size ((i/4:Nat):Int) ((i%4:Nat):Int) (k:Int) ph.Wg=call44 q.heap.size (n.toNat:Int) (sl.toNat:Int) (kk.toNat:Int) ph.Wg:=by rw[d.aeD,d.akS,d.akT]
 rw[aA];refine gF.one rfl fun R aB=>⟨_,R,#[],ahX _ _ _ _ _ _,fun _=>⟨jP.idle _,?_⟩⟩;have J:=al.trans aB;have aD:=r.bN.1;have aE:@fe (ph.co k f) ph.cG ph.cG:=by
  letI:=ph.co k f;exact⟨rfl,rfl,rfl,rfl,rfl,fun _ _=>rfl,fun _ _=>.refl _ _⟩
 obtain⟨s,Q,aF⟩:=OR r W aE aD J;have a1:=d.pos;have aG:=akJ (ph:=ph) (k:=k) (n0:=q.heap.size) (cn:=c.cn) (room:=c.room) (m:=c.mode) (mem:=mem) (tm:=tm) d.rX O d.two (letI:=ph.co k f;akK (ph:=ph) (n0:=q.heap.size) (cn:=c.cn) (room:=c.room) (n:=n) (sl:=sl) (kk:=kk)) (letI:=ph.co k f;aM.rely ap Q);have a2:(lF f (c.V i) M c.mode mem tm y A p n sl kk).n=M*128:=(Ux f _ M c.mode mem tm y A p n sl kk (ph.co k f) (akH ph k f)).trans O;have aH:=gF.XH r W (ID:=fun g v=>∃a,g=G ((baseD 44).at a [.code Dl]) [k6]∧a.eval (.tmp 3)=cA ph.Wg∧a.tmps.size=153∧a.defers=[]∧(∃C,v.cell? ⟨ph.bN,ph.kx k,none⟩=some C)∧ph.kO k v) aG (fun g w v S aI H=>by
  obtain⟨Z,aJ,rfl,T,aK,aL⟩:=S;obtain⟨us,t,bx,aa,a3,aN⟩:=akL aK aL L aI (by omega);have a4:=d.kx;have U:∃C,v.cell? ⟨ph.bN,ph.kx k,none⟩=some C:=by
   rw[L,e.kx];refine⟨us[c.kx (i%4) k]'(by have:=d.sL;omega),?_⟩;unfold World.cell?;simp only[aa];exact dP _
  have aO:ph.kO k v:=by
   rw[e.pay];refine⟨us,t,bx,aa,fun o x=>?_⟩;obtain⟨a5,aP⟩:=d.mine o x;rw[aN o (by have:=d.sL;omega) aP,d.Y o x]
  letI:=ph.co k f;refine .stop fun a6 ab=>⟨Z,rfl,?_,T.size.trans Tc,T.defers,let⟨C,aQ⟩:=U;⟨C,(ab.bN.cell (r.kx k)).trans aQ⟩,r.pay k _ _ ab aO⟩;have h3:=T.val 3;have h3:aC aJ (.atom (.exact (cA ph.Wg))) (Z.eval (.tmp 3)):=h3;exact akM h3) R aF J.size
 have aS:ph.live ph.cG:=by
  have:=IV B;refine⟨0,0,?_⟩;rw[e.ty,e.wg];exact this
 have aT:ph.live R:=J.live aS;have bU:=gF.inv (fun v=>ph.live v∧ph.cG.heap.size≤v.heap.size) (fun a b h u=>⟨h.live u.1,ga u.2 h.size⟩) (fun a b a7 _ h u=>⟨let⟨az,sm,ad⟩:=u.1;⟨az,sm,ad.of_block (h.jN _ (dX.1 ad).1 (fun F=>r.bN.2.1 F.symm) fun z=>by have:=r.new _ _ z;have:=r.wg;omega)⟩,ga u.2 h.size⟩) aH ⟨aT,J.size⟩;refine gF.trans (dw.refl k) bU fun g v h=>?_;obtain⟨⟨a,rfl,h3,aU,S,U,aV⟩,u,_⟩:=h;exact ahZ r e.ty h3 aU S ⟨u,U,aV⟩
end
section
open Go Go.ay Conc Conc.Lib RowKit
def rE(q a:Nat):Nat:=a/128/(4*q)
def qo(q a:Nat):Nat:=a/128%(4*q)/q
def DQ(P q b k a:Nat):Prop:=a<4*P*q*128∧rE q a=k∧qo q a=b
def DR(P q b a:Nat):Prop:=a<4*P*q*128∧qo q a≠b
instance(P q a k b:Nat):Decidable (DQ P q a k b):=inferInstanceAs (Decidable (_∧_))
instance(P q a b:Nat):Decidable (DR P q a b):=inferInstanceAs (Decidable (_∧_))
def qp(P q a k:Nat):cx:=fun b w=>decide (DQ P q a k b)||(!w&&decide (DR P q a b))
def Hh(b:BitVec 32):aS b=b.toNat*128:=by simp[aS]
def M1{q L r j:Nat}(a:r<4*q)(b:j<128):rE q ((L*(4*q)+r)*128+j)=L:=by
 unfold rE;have h1:((L*(4*q)+r)*128+j)/128=L*(4*q)+r:=by omega
 rw[h1,gW,Ib (by omega),Bf a,gb]
def DS{q L r j:Nat}(a:r<4*q)(b:j<128):qo q ((L*(4*q)+r)*128+j)=r/q:=by
 unfold qo;have h1:((L*(4*q)+r)*128+j)/128=L*(4*q)+r:=by omega
 rw[h1,gW L,Nat.mul_add_mod,dO a]
def wN{P q L r j:Nat}(a:L<P)(c:r<4*q)(d:j<128):(L*(4*q)+r)*128+j<4*P*q*128:=by
 have h:(L+1)*(4*q)≤P*(4*q):=fP _ a;rw[jL]at h;have b:4*P*q=P*(4*q):=by rw[gW 4 P,iV]
 rw[b];omega
def Uy{P q L r:Nat}(e:L<P)(d:r<4*q):(L*(4*q)+r)*128<4*P*q*128∧rE q ((L*(4*q)+r)*128)=L∧qo q ((L*(4*q)+r)*128)=r/q:=by
 have a:=wN (P:=P) (j:=0) e d (by omega);have b:=M1 (q:=q) (L:=L) (r:=r) (j:=0) d (by omega);have c:=DS (q:=q) (L:=L) (r:=r) (j:=0) d (by omega);rw[gb]at a b c;exact⟨a,b,c⟩
def akV{q S au:Nat}(bU:au<q):(S*q+au)/q=S:=by
 rw[gW,Ib (by omega),Bf bU,gb]
def Uz{P q d k e r b:Nat}(g:e<P)(c:r<4*q)(i:b=e*(4*q)+r)(h:e=k∨r/q≠d):ei (qp P q d k) (b*128) false=true:=by
 subst i;refine w5.2 fun j a=>?_;have a:j<128:=by simpa using a
 unfold qp;rw[pN,dI,jI,jI];by_cases f:r/q=d
 ·exact .inl ⟨wN g c a,(M1 c a).trans (h.elim id fun h=>absurd f h),(DS c a).trans f⟩
 ·exact .inr ⟨rfl,wN g c a,fun l=>f ((DS c a).symm.trans l)⟩
def akW{P q s k r b:Nat}(d:k<P)(c:r<4*q)(e:b=k*(4*q)+r)(h:r/q=s)(w:Bool):ei (qp P q s k) (b*128) w=true:=by
 subst e;refine w5.2 fun j a=>?_;have a:j<128:=by simpa using a
 unfold qp;rw[pN,jI];exact .inl ⟨wN d c a,M1 c a,(DS c a).trans h⟩
section
variable{p ln aB n sl k Q:BitVec 32}{P q S R:Nat}
def akX(h:p.toNat=P)(c:aB.toNat=q)(d:ln.toNat=4*q)(e:sl.toNat=S)(f:k.toNat=R)(i:S<4)(g:R<P)(j:4*P*q≤65536)(l:Q.toNat<q):
 (k*ln+sl*aB+Q).toNat=R*(4*q)+(S*q+Q.toNat):=by
 have h1:(R+1)*(4*q)≤P*(4*q):=fP _ g;rw[jL]at h1;have m:P*(4*q)=4*P*q:=by rw[gW 4 P,iV]
 have h2:S*q≤3*q:=fP _ (by omega);rw[eB,eB,iE,iE,f,d,e,c];generalize R*(4*q)=a at *;generalize S*q=b at *;omega
def akY(c:p.toNat=P)(l:aB.toNat=q)(d:ln.toNat=4*q)(g:sl.toNat=S)(u:k.toNat=R)(H:S<4)(e:R<P)(h2:2≤q)(L:q≤64)(v:4*P*q≤65536):Dk (qp P q S R) (4*P*q) ln aB p n sl k:=by
 have y:P*(4*q)=4*P*q:=by rw[gW 4 P,iV]
 refine⟨fun h=>by rw[h]at c;simp at c;omega,fun h=>by rw[h]at d;simp at d;omega,by omega,fun Q m M=>?_⟩;rw[l]at m;have f:=akX c l d g u H e v m;have h1:(R+1)*(4*q)≤P*(4*q):=fP _ e;rw[jL,y]at h1;have N:S*q≤3*q:=fP _ (by omega);have o:(1#32).toNat=1:=rfl;have z:S*q+Q.toNat<4*q:=by omega
 have A:∀x,(cq x ln aB p n sl k Q).toNat<4*P*q∧ei (qp P q S R) (aS (cq x ln aB p n sl k Q)) false=true:=fun x=>by
  obtain⟨O,r,B,t,C,bf⟩:=S7 (x:=x) (ln:=ln) (aB:=aB) (p:=p) (n:=n) (sl:=sl) (k:=k) (ix:=Q) (by omega) (by omega) (by omega) (by omega) (by omega) (by omega) (by omega) (by rw[c,d,y];exact v);rw[d]at t C;rw[l,g,u]at bf;refine⟨?_,?_⟩
  ·have:=wN (q:=q) (j:=0) (c▸B) t (by omega);omega
  ·rw[Hh];exact Uz (c▸B) t C bf
 have I:∃r,r<4*q∧(ey ln sl Q (k*ln+sl*aB+Q)).toNat=R*(4*q)+r:=by
  unfold ey;by_cases hi:Q=0#32
  ·have V:Q.toNat=0:=by rw[hi];rfl
   by_cases i:sl=0#32
   ·have J:S=0:=by rw[←g,i];rfl
    subst J;rw[ax ⟨hi,i⟩];refine⟨4*q-1,by omega,?_⟩;rw[eB,kG,f,d,o];generalize R*(4*q)=a at *;omega
   ·rw[ak fun h=>i h.2];have K:1≤S:=by
     rcases qx S with h|h
     ·exact absurd (mo (by rw[g,h];rfl)) i
     ·exact h
    have W:1*q≤S*q:=fP _ K;refine⟨S*q-1,by omega,?_⟩;rw[kG,f,o];generalize R*(4*q)=a at *;generalize S*q=b at *;omega
  ·rw[ak fun h=>hi h.1];have Y:1≤Q.toNat:=by
    rcases qx Q.toNat with h|h
    ·exact absurd (mo h) hi
    ·exact h
   refine⟨S*q+Q.toNat-1,by omega,?_⟩;rw[kG,f,o];generalize R*(4*q)=a at *;generalize S*q=b at *;omega
 obtain⟨r,D,E⟩:=I;have F:=fun w=>akW (P:=P) (q:=q) (s:=S) e z f (akV m) w;refine⟨by rw[f];have:=wN (P:=P) (q:=q) (j:=0) e z (by omega);omega,by rw[Hh];exact F _,by rw[Hh];exact F _,?_,?_,fun x=>(A x).1,fun x=>(A x).2⟩
 ·rw[E];have:=wN (P:=P) (q:=q) (j:=0) e D (by omega);omega
 ·rw[Hh];exact Uz e D E (.inl rfl)
end
section
variable(mode:Int)(mem tm ln aB p:BitVec 32)
def ov(i k:Nat)(X:U 64):U 64:=lF (qp p.toNat aB.toNat (i%4) k) X (4*p.toNat*aB.toNat) mode mem tm ln aB p (BitVec.ofNat 32 (i/4)) (BitVec.ofNat 32 (i%4)) (BitVec.ofNat 32 k)
def yQ(i:Nat)(X:U 64):U 64:=⟨X.n,(List.range X.n).map fun a=>if qo aB.toNat a=i%4 then(ov mode mem tm ln aB p i (rE aB.toNat a) X).l.getD a 0#64 else X.l.getD a 0#64,by simp⟩
def iU(X:U 64):Nat→U 64|0=>X|i+1=>yQ mode mem tm ln aB p i (iU X i)
def DT(X:U 64):∀i,(iU mode mem tm ln aB p X i).n=X.n|0=>rfl|i+1=>DT X i
def Hi(X:U 64)(i k a:Nat):Value:=.int .u64 (((ov mode mem tm ln aB p i k (iU mode mem tm ln aB p X i)).l.getD a 0#64).toNat:Int)
def DU(X:U 64)(T eM room:Nat):Call where
 lS:=some ⟨T,0,none⟩
 lT:=mem.toNat
 eM:=eM
 tm:=tm.toNat
 mem:=(mem.toNat:Int)
 N:=p.toNat
 mode:=mode
 ln:=(ln.toNat:Int)
 aB:=(aB.toNat:Int)
 cn:=T
 room:=room
 sL:=4*p.toNat*aB.toNat*128
 V:=iU mode mem tm ln aB p X
 cY:=DQ p.toNat aB.toNat
 iJ:=DR p.toNat aB.toNat
 kx:=fun a k=>if k<p.toNat∧a<4 then(k*(4*aB.toNat)+a*aB.toNat)*128 else if a=0 then aB.toNat*128 else 0
 Y:=Hi mode mem tm ln aB p X
end
structure DV(X:U 64)(mem tm ln aB p:BitVec 32):Prop where
 P:1≤p.toNat∧p.toNat≤8
 q:2≤aB.toNat∧aB.toNat≤64
 ln:ln.toNat=4*aB.toNat
 mem:mem.toNat=4*p.toNat*aB.toNat
 tm:tm.toNat<2147483648
 X:X.n=4*p.toNat*aB.toNat*128
section
variable [aR]{mode:Int}{X:U 64}{mem tm ln aB p:BitVec 32}{T eM room:Nat}
def DV.le(h:DV X mem tm ln aB p):4*p.toNat*aB.toNat≤2048:=by
 have:=w6 (show 4*p.toNat≤32 by have:=h.P;omega) h.q.2;omega
def akZ [aG][bl](h:DV X mem tm ln aB p):fV (DU mode mem tm ln aB p X T eM room):=by
 have w:=h.P;have x:=h.q;have y:=h.le;have m:p.toNat*(4*aB.toNat)=4*p.toNat*aB.toNat:=by rw[gW 4 p.toNat,iV]
 refine⟨⟨by show 0<p.toNat;omega,by show p.toNat<_;omega⟩,h.tm,?_,?_,fun d k A c a b=>a.2.1.symm.trans b.2.1,fun d k c a b=>b.2 a.2.2,fun d k=>?_,fun i=>(DT ..).trans h.X,fun i c f=>?_⟩
 ·show IntKind.u32.wrap ((mem.toNat:Int).tdiv (p.toNat:Int))=(ln.toNat:Int);rw[h.mem,h.ln,←m];have:(((p.toNat*(4*aB.toNat):Nat):Int)).tdiv (p.toNat:Int)=((4*aB.toNat:Nat):Int):=by
   rw[←Int.ofNat_tdiv,uJ _ (by omega)]
  rw[this,IntKind.wrap_u32];omega
 ·show IntKind.u32.wrap ((ln.toNat:Int).tdiv 4)=(aB.toNat:Int);rw[h.ln];have:(((4*aB.toNat:Nat):Int)).tdiv 4=(aB.toNat:Int):=by
   rw[show(4:Int)=((4:Nat):Int)from rfl,←Int.ofNat_tdiv,uJ _ (by omega)]
  rw[this,IntKind.wrap_u32];omega
 ·show DQ p.toNat aB.toNat d k (if k<p.toNat∧d<4 then(k*(4*aB.toNat)+d*aB.toNat)*128 else if d=0 then aB.toNat*128 else 0)∨DR p.toNat aB.toNat d (if k<p.toNat∧d<4 then(k*(4*aB.toNat)+d*aB.toNat)*128 else if d=0 then aB.toNat*128 else 0);have o:∀r,r<4*aB.toNat→r*128<4*p.toNat*aB.toNat*128∧qo aB.toNat (r*128)=r/aB.toNat:=fun r g=>by
   have a:=wN (P:=p.toNat) (q:=aB.toNat) (L:=0) (r:=r) (j:=0) (by omega) g (by omega);have b:=DS (q:=aB.toNat) (L:=0) (r:=r) (j:=0) g (by omega);simp only[wZ,cM,gb]at a b;exact⟨a,b⟩
  split
  ·rename_i u;have B:d*aB.toNat≤3*aB.toNat:=fP _ (by omega);have g:d*aB.toNat<4*aB.toNat:=by omega
   exact .inl (have z:=Uy u.1 g;⟨z.1,z.2.1,z.2.2.trans (by rw[Nat.mul_div_cancel _ (by omega)])⟩)
  ·split
   ·rename_i e;obtain⟨a,b⟩:=o aB.toNat (by omega);refine .inr ⟨a,?_⟩;rw[b,Nat.div_self (by omega)];omega
   ·rename_i e;obtain⟨a,b⟩:=o 0 (by omega);refine .inr ⟨by omega,?_⟩;rw[wZ]at b;rw[b,Nat.zero_div];omega
 ·have f:c<4*p.toNat*aB.toNat*128:=f;have s:(iU mode mem tm ln aB p X i).n=4*p.toNat*aB.toNat*128:=(DT ..).trans h.X;have t:k5 (iU mode mem tm ln aB p X (i+1)) c=some (.int .u64 ((if qo aB.toNat c=i%4 then(ov mode mem tm ln aB p i (rE aB.toNat c) (iU mode mem tm ln aB p X i)).l.getD c 0#64 else(iU mode mem tm ln aB p X i).l.getD c 0#64).toNat:Int)):=by
   show((List.map _ (List.range (iU mode mem tm ln aB p X i).n))[c]?).map _=_;rw[ef,HW (by omega)];rfl
  by_cases e:qo aB.toNat c=i%4
  ·refine .inl ⟨rE aB.toNat c,?_,⟨f,rfl,e⟩,?_⟩
   ·show c/128/(4*aB.toNat)<p.toNat
    rw[Nat.div_div_eq_div_mul];refine Bt ?_;have:128*(4*aB.toNat)*p.toNat=4*p.toNat*aB.toNat*128:=by
     rw[iV,gW 128,←m,gW p.toNat]
    omega
   ·show some (Hi mode mem tm ln aB p X i (rE aB.toNat c) c)=_;rw[show(DU mode mem tm ln aB p X T eM room).V (i+1)=iU mode mem tm ln aB p X (i+1)from rfl,t,ax e];rfl
  ·refine .inr ⟨fun k _ v=>e v.2.2,?_⟩
   show k5 (iU mode mem tm ln aB p X (i+1)) c=k5 (iU mode mem tm ln aB p X i) c;rw[t,ak e];unfold k5;rw[bX (by rw[U.h,s];exact f),dY,bX (by rw[U.h,s];exact f)];rfl
def ak0 [aG][bl](h:DV X mem tm ln aB p)(m:4*p.toNat*aB.toNat≤eM)(o:eM*128≤room){i k:Nat}(hi:i<4*tm.toNat)(d:k<p.toNat):
 ∃f M r s t u v n sl w,Uw (DU mode mem tm ln aB p X T eM room) i k f M r s t u v n sl w:=by
 have x:=h.P;have c:=h.q;have A:=h.le;have B:=h.tm;have C:2≤p.toNat*aB.toNat:=ga c.1 (Nat.le_mul_of_pos_left _ x.1);have D:4*p.toNat*aB.toNat=4*(p.toNat*aB.toNat):=iV ..;have y:i/4=(BitVec.ofNat 32 (i/4)).toNat:=by rw[g7];omega
 have e:i%4=(BitVec.ofNat 32 (i%4)).toNat:=by rw[g7];omega
 have g:k=(BitVec.ofNat 32 k).toNat:=by rw[g7];omega
 refine⟨qp p.toNat aB.toNat (i%4) k,4*p.toNat*aB.toNat,mem,tm,ln,aB,p,BitVec.ofNat 32 (i/4),BitVec.ofNat 32 (i%4),BitVec.ofNat 32 k,rfl,h.mem,⟨m,o⟩,rfl,by omega,rfl,rfl,rfl,rfl,rfl,y,e,g,akY rfl rfl h.ln e.symm g.symm (by omega) d c.1 c.2 (by omega),c.1,fun b a=>?_,fun b a=>?_,fun b a=>⟨a.1,?_⟩,fun b a=>?_,?_⟩
 ·have a:(decide (DQ p.toNat aB.toNat (i%4) k b)||(!true&&decide (DR p.toNat aB.toNat (i%4) b)))=true:=a;simp only[Wi,Bool.false_and,Bool.or_false,jI]at a;exact a
 ·unfold qp at a;rw[pN,dI,jI,jI]at a;exact a.elim .inl fun h=>.inr h.2
 ·unfold qp;rw[pN,jI];exact .inl a
 ·have z:(ov mode mem tm ln aB p i k (iU mode mem tm ln aB p X i)).n=4*p.toNat*aB.toNat*128:=(Ux _ _ _ _ _ _ _ _ _ _ _ _ ‹aG› ‹bl›).trans ((DT ..).trans h.X)
  show some (Hi mode mem tm ln aB p X i k b)=k5 (ov mode mem tm ln aB p i k (iU mode mem tm ln aB p X i)) b;have j:b<(ov mode mem tm ln aB p i k (iU mode mem tm ln aB p X i)).l.length:=by rw[U.h,z];exact a.1
  unfold k5 Hi;rw[bX j,dY,bX j];rfl
 ·have E:i%4*aB.toNat≤3*aB.toNat:=fP _ (by omega)
  show(if k<p.toNat∧i%4<4 then(k*(4*aB.toNat)+i%4*aB.toNat)*128 else _)<_;rw[ax ⟨d,by omega⟩];exact(Uy d (show i%4*aB.toNat<4*aB.toNat by omega)).1
end
section
variable{c:Call}{cv:Machine}{w0:World}
def ak1(A:fV c)(r:¬mQ Tryz.prog cv 33 c.cn)(s:c.cn<w0.heap.size)(B:∃i,AP c.room (c.V 0) i∧w0.heap[c.cn]? =some i)(C:∀w,@eK (iM Tryz.prog cv 33) w0 w→AQ c cv w):
 @j6 (iM Tryz.prog cv 33) Tryz.prog 33 #[.slice c.lS c.lT c.eM,.int .u32 c.tm,.int .u32 c.mem,.int .u32 c.N,.int .i64 c.mode] w0 fun j w'=>j=.returned (.tuple #[])∧∃b,@eK (iM Tryz.prog cv 33) w0 b∧og c b (4*c.tm) w':=by
 letI:=iM Tryz.prog cv 33;intro cs Stop D;refine de.jump (fun b g' w'=>og c b (4*c.tm) w'∧match cs with
  |[]=>∃t,g'=zS t []|f::e=>g'=G (f.finish (.tuple #[])) e) (fun b k E=>?_) fun b g' w' k ⟨n,u⟩=>?_
 ·obtain⟨aa,ab,sl,T,q,H⟩:=E;have I:c.cn<b.heap.size:=dN s k.size;have J:∃i,AP c.room (c.V 0) i∧b.heap[c.cn]? =some i:=let⟨i,v,o⟩:=B;⟨i,v,(k.mine c.cn s r).trans o⟩;obtain⟨K,L,m,w',M,O,Q,p,n⟩:=ahT A I r (C b k) J H;cases cs with
  |nil=>exact⟨_,w',⟨K,L,M,O,Q,p⟩,n,m,rfl⟩|cons f e=>
   have R:∀w,stepG Tryz.prog true (zS m (f::e)) w=.go (G (f.finish (.tuple #[])) e) w #[]:=fun w=>by
    have S:=Oo (P:=Tryz.prog) (main:=true) (fr:={iZ m []with mode:=.returning}) (c:=f) (cs:=e) (w:=w) rfl rfl rfl Tryz.func33 (results_none rfl _ _ _)
    show stepG Tryz.prog true (G {iZ m []with mode:=.returning} (f::e)) w=_;rw[S,events_results_none rfl];rfl
   obtain⟨ad,ae,x,af,ag,ah,U,ai,h2,_,_,W,rfl,y⟩:=(p.lone (aV _)).walk (Stop:=fun g w=>g=zS m (f::e)∧AtRel w' w) (fun g w h=>by rw[h.1];rfl) (.stop fun w h=>⟨rfl,h⟩);have aj:x.heap.size=w'.heap.size:=by obtain⟨d,j⟩:=y;have:=iX (fun w:World=>w.heap.size) j;exact this
   have X:=h2.Cj (F:=33) (fun l Y=>let⟨a,j,v,o⟩:=p.oS l Y;⟨a,j,by omega,o⟩);obtain⟨h3,_⟩:=X.step W (R _) (aV _) (fun j Z=>by simp at Z);exact⟨_,x.at U,⟨_,_,_,_,_,h3⟩,n.at y,rfl⟩
 ·have z:=D (.tuple #[]) w' ⟨rfl,b,k,n⟩;cases cs with
  |nil=>
   obtain⟨t,rfl⟩:=u;exact z _ ⟨rfl,rfl,rfl,rfl,Tryz.f33,Tryz.func33,fun w _=>by simp[results,Tryz.f33]⟩
  |cons f e=>rw[u];exact z
end
end
section
open Go Go.ay Conc Conc.Lib RowKit
variable [aR]
def s0(mem p:BitVec 32):BitVec 32:=mem/p
def m7(mem p:BitVec 32):BitVec 32:=s0 mem p/4#32
def jG(m:Int)(mem tm p:BitVec 32)(X:U 64):U 64:=iU m mem tm (s0 mem p) (m7 mem p) p X (4*tm.toNat)
structure M2 where
 (X:U 64)(M:Nat)(mem tm p:BitVec 32)(m:Int)
def M3(a:List af)(b:List ah):Option M2:=
 match a with
 |[.ref (.sm 0 (.s M) 128),.num (.aF tm),.num (.aF mem),.num (.aF p),.num (.int .i64 (.s m))]=>
  match b with
  |[⟨.bw X,.own⟩]=>some ⟨X,M,mem,tm,p,m⟩|_=>none
 |_=>none
def m8:bV M2 where
 d0:=⟨0,0,0,0,0,0⟩
 read:=M3
 args:=fun⟨_,M,mem,tm,p,m⟩=>[.ref (.sm 0 (.s M) 128),.num (.aF tm),.num (.aF mem),.num (.aF p),.au m]
 heap:=fun⟨X,_,_,_,_,_⟩=>[⟨.bw X,.own⟩]
 out:=fun⟨X,_,mem,tm,p,m⟩=>[⟨.bw (jG m mem tm p X),.own⟩]
 val:=fun⟨_,_,_,_,_,_⟩=>(.bA [])
 aT:=fun⟨X,M,mem,tm,p,_⟩=>decide (M=mem.toNat∧1≤p.toNat∧p.toNat≤8∧2≤(m7 mem p).toNat∧(m7 mem p).toNat≤64∧mem.toNat=4*p.toNat*(m7 mem p).toNat∧tm.toNat<2147483648∧X.n=M*128)
def ak2:m8.Rd:=by
 intro a b d h;change M3 a b=some d at h;unfold M3 at h;repeat' split at h
 all_goals cases h
 exact⟨rfl,rfl⟩
instance aoS(P:Machine):@bl (iM Tryz.prog P 33):=@bl.mk (iM Tryz.prog P 33) fun f h a=>by
 subst a;have:scope 33=false:=by kernel_rfl
 rw[this]at h;cases h
def Hj(a:af):Bool:=match a with|.num _=>true|_=>false
def Hl:FY.all Hj=true∧FZ.all Hj=true∧Nat.blt 0 FY.length=true∧Nat.blt 0 FZ.length=true:=⟨by kernel_rfl,by kernel_rfl,by kernel_rfl,by kernel_rfl⟩
def ak3{g:Nat}{l:List af}(h:bB g=some l):(∀a∈l,∃n,a=.num n)∧0<l.length:=by
 have c:∀a,Hj a=true→∃n,a=.num n:=fun a b=>by
  unfold Hj at b;split at b
  ·exact⟨_,rfl⟩
  ·cases b
 unfold bB at h;split at h
 ·cases h;exact⟨fun a b=>c a (w5.1 Hl.1 a b),by simpa using Hl.2.2.1⟩
 ·cases h;exact⟨fun a b=>c a (w5.1 Hl.2.1 a b),by simpa using Hl.2.2.2⟩
 ·cases h
variable{P:Machine}
def UA{β:aE}{f:List ah}{w:World}{b:Nat}(j:@aM _ (iM Tryz.prog P 33) bB β f w)(k:∀g l,bB g=some l→gZ g≠b):Tl P w b:=by
 letI:=iM Tryz.prog P 33;intro g l a;obtain⟨h1,h2⟩:=j.dA g l a;obtain⟨dB,m⟩:=ak3 a;refine⟨h1,k g l a,?_,fun i c d=>?_⟩
 ·obtain⟨v,_,_,e⟩:=h2 0 _ (bX m);obtain⟨r,o⟩:=r6 g;rw[o]at e;rcases e.2 with h|⟨_,h⟩
  ·exact h.1
  ·exact h.1.elim
 ·obtain⟨v,p,q,_⟩:=h2 i c d;obtain⟨n,rfl⟩:=dB c (pJ d);exact⟨v,p,by rw[q.num_inv];exact .num n⟩
def UB:@dF _ (iM Tryz.prog P 33) Tryz.prog bB 33 m8.spec:=by
 letI:=iM Tryz.prog P 33;refine m8.wq ak2 fun d A β w vs an q ao=>?_;obtain⟨X,M,mem,tm,p,m⟩:=d;have A:=bg A;obtain⟨rfl,ap,aq,ar,dr,F,au,aw⟩:=A;have O:DV X mem tm (s0 mem p) (m7 mem p) p:=⟨⟨ap,aq⟩,⟨ar,dr⟩,by
  unfold s0;rw[rI,F,gW 4 p.toNat,iV,uJ _ (by omega)],F,au,by rw[aw,F]⟩
 have aZ:=O.le;obtain⟨a0,a1,rfl,ay,az⟩:=an.cons_inv;obtain⟨a2,a3,rfl,h1,aA⟩:=az.cons_inv;obtain⟨a4,a5,rfl,h2,aB⟩:=aA.cons_inv;obtain⟨a6,a7,rfl,h3,aD⟩:=aB.cons_inv;obtain⟨gN,a8,rfl,h4,aF⟩:=aD.cons_inv;obtain rfl:=aF.r7;obtain rfl:=h1.num_inv;obtain rfl:=h2.num_inv;obtain rfl:=h3.num_inv;obtain rfl:=h4.num_inv;obtain⟨a,Q,rfl,aa,ab⟩:=ay.Cl;have aa:mem.toNat≤Q:=aa;have a9:0<mem.toNat:=by
  rw[F];exact Nat.mul_pos (by omega) (by omega)
 rcases ab with ab|⟨C,r,rfl,aH⟩
 ·omega
 rcases q.blk 0 ⟨.bw X,.own⟩ rfl (eo rfl)with⟨aI,s,aJ⟩|⟨ad,_⟩
 case inr=>have ad:X.n=0:=ad;omega
 rw[r]at s;injection s with s;subst s;obtain⟨R,S,us,t,bx,H,T,U,bf,aK⟩:=aJ;obtain⟨c,base,room⟩:=C;have R:base=0:=R;subst R;refine⟨⟨Tryz.f33,Tryz.func33,by kernel_rfl,by kernel_rfl⟩,?_⟩;have ae:∀g l,bB g=some l→gZ g≠c:=fun g l D=>q.apart 0 _ _ rfl rfl r g l D;have ag:c<w.heap.size:=(dX.1 H).1;have cB:fV (DU m mem tm (s0 mem p) (m7 mem p) p X c Q room):=akZ O;have aL:∃f,AP room X f∧w.heap[c]? =some f:=by
  refine⟨_,⟨⟨us⟩,t,bx,rfl,T,by simpa using U,bf,fun f j=>?_⟩,H⟩;have j:f<X.n:=j;have h1:(X.l.map af.av)[f]? =some (.av (X.l[f]'(by rw[X.h];exact j))):=by simp[X.h,j]
  have ba:X.n≤room:=bf;have h2:(us.take X.n)[f]? =some (us[f]'(by omega)):=by rw[lM,ax j];exact bX _
  have h3:=(aK.2 f _ _ h1 h2).num_inv;have h4:(⟨us⟩:Array Value)[f]? =us[f]? :=by simp
  rw[h4,bX (by omega:f<us.length),h3];unfold k5;rw[bX (by rw[X.h];exact j)];rfl
 have u:=ak1 (cv:=P) (w0:=w) (c:=DU m mem tm (s0 mem p) (m7 mem p) p X c Q room) cB S.1 ag aL (fun aM o=>akU cB (fun i k hi e=>ak0 O (by omega) aH hi e) (dN ag o.size) S.1 (UA (q.rely o) ae));refine u.mono ?_;rintro ai w' ⟨rfl,aM,o,x⟩;have aN:∀b,b<w.heap.size→b≠c→aG.mine b→w'.heap[b]? =w.heap[b]? :=fun b u aO V=>(x.old b (dN u o.size) aO).trans (o.mine b u V);have aj:w.heap.size≤w'.heap.size:=by have:=x.size;have:=o.size;omega
 obtain⟨f,⟨B,aP,aQ,rfl,aS,I,J,K⟩,aT⟩:=x.GF;have D:=fun g l D=>(UA (q.rely o) ae) g l D;have aU:m8.out ⟨X,mem.toNat,mem,tm,p,m⟩=[⟨.bw (jG m mem tm p X),.own⟩]:=rfl;have ak:m8.heap ⟨X,mem.toNat,mem,tm,p,m⟩=[⟨.bw X,.own⟩]:=rfl;have aW:m8.val ⟨X,mem.toNat,mem,tm,p,m⟩=.obj .bA []:=rfl;rw[aU,ak,aW];rw[ak]at q ao;have I:B.size=room:=I;have J:(jG m mem tm p X).n≤room:=J;have K:∀f,f<(jG m mem tm p X).n→B[f]? =k5 (jG m mem tm p X) f:=K;generalize jG m mem tm p X=y at J K;refine⟨.tuple #[],β,rfl,.bA [] [] rfl (fun i L v h=>by simp at h),⟨fun b k e N=>?_,fun b E k bb C aI W e Y j N r s=>?_,q.fl,fun g l A=>?_,fun b k C e j r=>?_⟩,⟨aE.le_refl _,aV 1,x.os.trans o.os,x.tape.trans o.tape,x.output.trans o.output,aj,fun b u j=>⟨fun V=>aN b u (fun ai=>j ⟨0,_,_,rfl,rfl,r,ai.symm⟩) V,fun f h=>h.elim⟩,fun b u j=>?_,fun _ _=>rfl⟩⟩
 ·match b,e with
  |0,e=>
   have e:some (ah.mk (.bw y) .own)=some k:=e;injection e with e;subst e;refine .inl ⟨_,r,rfl,S,B.toList,aP,aQ,aT,by simpa using aS,by simpa using I,J,?_⟩;refine⟨by show(y.l.map af.av).length=(B.toList.take y.n).length;rw[mA,pM,Ef,I,y.h];omega,fun i L v Z z=>?_⟩;have al:(y.l.map af.av)[i]? =some L:=Z;rw[ef,bT]at al;obtain⟨a,N,rfl⟩:=al;have hi:i<y.n:=by have:=(dW.1 N).1;rwa[y.h]at this
   rw[lM]at z;split at z
   ·have h3:=K i hi;rw[show B.toList[i]? =B[i]? from by simp]at z;rw[z]at h3;unfold k5 at h3;rw[N]at h3;injection h3 with h3;subst h3;exact .num (.av a)
   ·cases z
  |b+1,e=>exact absurd e (by simp)
 ·match b,E,e,Y,W with|0,0,_,_,W=>exact absurd rfl W|b+1,_,e,_,_=>exact absurd e (by simp)|0,E+1,_,Y,_=>exact absurd Y (by simp)
 ·obtain⟨H,T,U,bf⟩:=D g l A;refine⟨dN (q.dA g l A).1 aj,fun i L Z=>?_⟩;obtain⟨v,z,aX⟩:=bf i L Z;obtain⟨bc,am⟩:=r6 g;refine⟨v,?_,aC.oU aX,?_⟩
  ·rw[←z,am];unfold World.cell? at';simp only;rw[x.old _ H T]
  ·rw[am];exact⟨rfl,.inl ⟨U,fun h=>h.elim⟩⟩
 ·match b,e with|0,e=>exact q.apart 0 _ _ rfl rfl r|b+1,e=>exact absurd e (by simp)
 ·obtain⟨E,k,C,e,j,s,aY⟩:=j
  match E,e with
  |0,e=>exact⟨0,_,C,rfl,rfl,s,aY⟩|E+1,e=>exact absurd e (by simp)
end
section
open Go.ay
variable [aR][aG][bl]
variable{X:U 64}{l j:Nat}{r:Nat→U 64}{nn:Nat→Nat}
structure m9(P q:Nat)(X:U 64)(r:Nat→U 64):Prop where
 n:X.n=P*(4*q*128)
 yE:∀l,l<P→(r l).n=4*q*128
 rq:∀l j,l<P→j<4*q*128→aL X (l*(4*q*128)+j)=aL (r l) j
def rF(P q N c:Nat)(X:U 64):Prop:=N=0→∀l j,l<P→c*128≤j→j<4*q*128→aL X (l*(4*q*128)+j)=0#64
theorem DW(aP:uv)(p:Nat)(c d co e:Int)(nn:Nat→Nat):∀(a b:List (Nat×Nat)) (r:Nat→U 64),qi aP p c d co e nn (a++b) r=qi aP p c d co e nn b (qi aP p c d co e nn a r)|[],_,_=>rfl|(f,l)::a,b,r=>DW aP p c d co e nn a b _
def qq(a t:Nat):List (Nat×Nat):=(List.range t).map fun l=>(a,l)
theorem ak4{P q:Nat}(Q:0<q)(c:j<4*q*128):(l*(4*q*128)+j)/128/(4*q)=l∧(l*(4*q*128)+j)/128%(4*q)=j/128:=by
 have b:(l*(4*q*128)+j)/128=(4*q)*l+j/128:=by
  rw[←iV l (4*q) 128,gW (4*q) l];generalize l*(4*q)=z;omega
 have a:j/128<4*q:=by omega
 rw[b];refine⟨?_,?_⟩
 ·rw[Ib (by omega),Bf a];rfl
 ·rw[Nat.mul_add_mod,dO a]
section
variable{m:Int}{mem tm ln aB p:BitVec 32}{P q T:Nat}
variable(S:1≤P)(V:P≤8)(W:2≤q)(Q:q≤64)(em:mem.toNat=4*P*q)(Y:tm.toNat=T)(Z:ln.toNat=4*q)(R:aB.toNat=q)(A:p.toNat=P)
include S V W Q em Y Z R A
theorem UC(g:X.n=P*(4*q*128))(i:Nat)(b:l<P)(c:j<4*q*128):aL (yQ m mem tm ln aB p i X) (l*(4*q*128)+j)=if j/128/q=i%4 then aL (ov m mem tm ln aB p i l X) (l*(4*q*128)+j)else aL X (l*(4*q*128)+j):=by
 have d:l*(4*q*128)+j<X.n:=by
  have:(l+1)*(4*q*128)≤P*(4*q*128):=fP _ b;rw[jL]at this;omega
 obtain⟨e,d2⟩:=ak4 (P:=P) (l:=l) (by omega:0<q) c;have f:aL (yQ m mem tm ln aB p i X) (l*(4*q*128)+j)=((List.range X.n).map fun a=>if qo aB.toNat a=i%4 then(ov m mem tm ln aB p i (rE aB.toNat a) X).l.getD a 0#64 else X.l.getD a 0#64).getD (l*(4*q*128)+j) 0#64:=rfl;rw[f,dY,ef,HW d]
 show(if qo aB.toNat (l*(4*q*128)+j)=i%4 then aL (ov m mem tm ln aB p i (rE aB.toNat (l*(4*q*128)+j)) X) (l*(4*q*128)+j)else aL X (l*(4*q*128)+j))=_;unfold qo rE;rw[R,e,d2]
theorem UD{X:U 64}{r:Nat→U 64}{nn:Nat→Nat}{N a:Nat}(z:N<4)(w:a<4)(k:m9 P q X r)(x:rF P q N (a*q+if N=0∧a=0 then 2 else 0) X):∀t,t≤P→∀l,l<P→
 (qi gU P m T ((4*q:Nat):Int) N nn (qq a t) r l).n=4*q*128∧∀j,j<4*q*128→aL (qi gU P m T ((4*q:Nat):Int) N nn (qq a t) r l) j=if l<t∧j/128/q=a then aL (ov m mem tm ln aB p (4*N+a) l X) (l*(4*q*128)+j)else aL X (l*(4*q*128)+j)
 |0,_,l,b=>⟨k.yE l b,fun j e=>by rw[ak (fun h=>absurd h.1 (by omega))];exact(k.rq l j b e).symm⟩|t+1,o,l,b=>by
  have g:=UD (nn:=nn) z w k x t (by omega);have B:qq a (t+1)=qq a t++[(a,t)]:=by unfold qq;rw[List.range_succ,Bl];rfl
  rw[B,DW];generalize qi gU P m T ((4*q:Nat):Int) N nn (qq a t) r=d at g⊢;have o:t<P:=by omega
  have e:sN P q N a t (if N=0∧a=0 then 2 else 0) X (fz P d):=⟨k.n,fun l b=>by rw[m0 _ b];exact(g l b).1,fun l j b e C=>by
   rw[m0 _ b,(g l b).2 j e,ak];rintro⟨O,D⟩;exact C.elim (fun h=>by omega) (fun h=>h D),fun E j h1 h2=>x E t j o h1 h2⟩
  have F:(BitVec.ofNat 32 ((4*N+a)/4)).toNat=N:=by rw[g7];omega
  have H:(BitVec.ofNat 32 ((4*N+a)%4)).toNat=a:=by rw[g7];omega
  have I:(BitVec.ofNat 32 t).toNat=t:=by rw[g7];omega
  obtain⟨i,s,u⟩:=aie (f:=qp p.toNat aB.toNat ((4*N+a)%4) t) (M:=4*p.toNat*aB.toNat) (m:=m) (nn:=c7 P nn) S V o w W Q em Y Z R A F H I e;have J:lF (qp p.toNat aB.toNat ((4*N+a)%4) t) X (4*p.toNat*aB.toNat) m mem tm ln aB p (BitVec.ofNat 32 ((4*N+a)/4)) (BitVec.ofNat 32 ((4*N+a)%4)) (BitVec.ofNat 32 t)=ov m mem tm ln aB p (4*N+a) t X:=rfl;rw[J]at i
  show(gU P t (yP P m T ((4*q:Nat):Int) N nn d a) l).n=_∧_;have K:(ue P t ⟨m,T,((4*q:Nat):Int),N,a,c7 P nn,fz P d⟩).r=gU P t (yP P m T ((4*q:Nat):Int) N nn d a):=rfl;rw[K]at i s u;have L:qi gU P m T ((4*q:Nat):Int) N nn [(a,t)] d=gU P t (yP P m T ((4*q:Nat):Int) N nn d a):=rfl;rw[L];generalize gU P t (yP P m T ((4*q:Nat):Int) N nn d a)=aa at i s u⊢;refine⟨i.yE l b,fun j v=>?_⟩;by_cases y:l=t
  ·subst y;by_cases c:j/128/q=a
   ·rw[ax ⟨by omega,c⟩];exact(i.rq l j b v (.inl rfl)).symm
   ·rw[ak (fun h=>c h.2),u j c,m0 _ b,(g l b).2 j v,ak (fun h=>c h.2)]
  ·rw[s l y,m0 _ b,(g l b).2 j v];by_cases c:l<t∧j/128/q=a
   ·rw[ax c,ax ⟨by omega,c.2⟩]
   ·rw[ak c,ak (fun h=>c ⟨by omega,h.2⟩)]
theorem Ho{N a:Nat}(g:N<4)(i:a<4)(b:m9 P q X r)(e:rF P q N (a*q+if N=0∧a=0 then 2 else 0) X):
 m9 P q (yQ m mem tm ln aB p (4*N+a) X) (qi gU P m T ((4*q:Nat):Int) N nn (qq a P) r)∧rF P q N ((a+1)*q) (yQ m mem tm ln aB p (4*N+a) X):=by
 have f:=UD (m:=m) (nn:=nn) S V W Q em Y Z R A g i b e P (aV _);have d:=fun l j (h1:l<P) (h2:j<4*q*128)=>UC (m:=m) S V W Q em Y Z R A b.n (4*N+a) h1 h2;have k:(4*N+a)%4=a:=by omega
 simp only[k]at d;refine⟨⟨b.n,fun l h=>(f l h).1,fun l j h1 h2=>?_⟩,fun o l j h1 h2 h3=>?_⟩
 ·rw[d l j h1 h2,(f l h1).2 j h2];by_cases c:j/128/q=a
  ·rw[ax c,ax ⟨h1,c⟩]
  ·rw[ak c,ak (fun h=>c h.2)]
 ·rw[jL]at h2;have s:a+1≤j/128/q:=(Bs (by omega)).2 (by rw[jL];omega);rw[d l j h1 h3,ak (by omega)];refine e o l j h1 ?_ h3;split<;>omega
theorem ak5{N:Nat}(b:N<4)(f:m9 P q (iU m mem tm ln aB p X (4*N)) r)(g:rF P q N 2 (iU m mem tm ln aB p X (4*N))):
 m9 P q (iU m mem tm ln aB p X (4*(N+1))) (qi gU P m T ((4*q:Nat):Int) N nn (yO P) r):=by
 have i:yO P=qq 0 P++(qq 1 P++(qq 2 P++qq 3 P)):=by
  unfold yO qq;simp[List.range_succ,List.flatMap]
 rw[i,DW,DW,DW];have d:∀(a:Nat) (e:U 64),1≤a→rF P q N (a*q) e→rF P q N (a*q+if N=0∧a=0 then 2 else 0) e:=fun a e h1 h=>by rw[ak (by omega)];exact h
 have k:rF P q N (0*q+if N=0∧0=0 then 2 else 0) (iU m mem tm ln aB p X (4*N)):=by
  by_cases c:N=0
  ·rw[ax ⟨c,rfl⟩,wZ,cM];exact g
  ·exact fun h=>absurd h c
 obtain⟨n,o⟩:=Ho (nn:=nn) S V W Q em Y Z R A b (by omega:0<4) f k;obtain⟨s,cr⟩:=Ho (nn:=nn) S V W Q em Y Z R A b (by omega:1<4) n (d 1 _ (by omega) o);obtain⟨t,u⟩:=Ho (nn:=nn) S V W Q em Y Z R A b (by omega:2<4) s (d 2 _ (by omega) cr);exact(Ho (nn:=nn) S V W Q em Y Z R A b (by omega:3<4) t (d 3 _ (by omega) u)).1
end
end
section
open Go.ay
variable [aR][aG][bl]
variable{X:U 64}{r:Nat→U 64}
theorem m9.fz{P q:Nat}(h:m9 P q X r):m9 P q X (fz P r):=⟨h.n,fun l a=>by rw[m0 _ a];exact h.yE l a,fun l j a b=>by rw[m0 _ a];exact h.rq l j a b⟩
section
variable{m:Int}{mem tm S V p:BitVec 32}{P q T:Nat}
variable(W:1≤P)(Y:P≤8)(Z:2≤q)(A:q≤64)(em:mem.toNat=4*P*q)(Q:tm.toNat=T)(R:p.toNat=P)
include W Y Z A em Q R
theorem UE(f:S.toNat=4*q)(g:V.toNat=q)(j:T≤4){X:U 64}(i:rF P q 0 2 X)(a b c d:U 8)(len:Int):∀(t N:Nat) (nn:Nat→Nat) (r:Nat→U 64),N+t=T→m9 P q (iU m mem tm S V p X (4*N)) r→
 m9 P q (iU m mem tm S V p X (4*T)) (iter (uy gU P) t ⟨a,b,c,d,m,T,((4*q:Nat):Int),len,N,nn,r⟩).r
 |0,N,nn,r,k,e=>by
  have d:N=T:=by omega
  subst d;exact e
 |t+1,N,nn,r,k,e=>by
  have l:rF P q N 2 (iU m mem tm S V p X (4*N)):=fun h=>by
   subst h;exact i rfl
  have h1:=ak5 (nn:=nn) W Y Z A em Q f g R (by omega) e l;exact UE f g j i a b c d len t (N+1) nn _ (by omega) h1
theorem ak6:(s0 mem p).toNat=4*q∧(m7 mem p).toNat=q:=by
 have h1:(s0 mem p).toNat=4*q:=by
  unfold s0;rw[rI,em,R,gW 4 P,iV];exact uJ _ (by omega)
 refine⟨h1,?_⟩;unfold m7;rw[rI,h1,show(4#32).toNat=4 from rfl];omega
theorem ak7(f:T≤4)(g:rF P q 0 2 X)(i:m9 P q X r)(a b c d:U 8)(len:Int)(e:Nat→Nat):m9 P q (jG m mem tm p X) (m6 P a b c d m T ((4*q:Nat):Int) len e r).r:=by
 obtain⟨j,k⟩:=ak6 W Y Z A em Q R;unfold jG;rw[Q];have h:=UE (m:=m) W Y Z A em Q R j k f g a b c d len T 0 (c7 P e) (fz P r) (by omega) i.fz;unfold m6;rw[show((T:Int)-0).toNat=T by omega];exact h
end
end
section
open Go.ay
variable [aR][aG][bl]
def wO:FuncId→Nat→Option cP|34,3=>some Ln|34,12=>some Lh|_,_=>none
def dJ(X:U 64)(M:Nat)(mem p kl:BitVec 32):q5:=iter kX ((p-1#32).toNat-(0#32).toNat) ⟨X,M,mem,p,kl,mem/p,0#32⟩
def ie(d:q5):sD:=iter n7 ((128-(0:Int)).toNat) ⟨d.X,yf,rowAt d.X (aS (d.mem-1#32)),d.M,d.mem,d.p,d.kl,d.ln,d.la,0⟩
def UF(a:U 8→U 8→Nat→Nat→Nat→Nat→Nat→U 8):bV KS:={nY with out:=fun⟨v,w,o,iA,c5,Se,b⟩=>[⟨.aj (a v w o iA c5 Se b),.own⟩,⟨.aj w,.ro⟩]}
def ak8:UF fZ=nY:=rfl
def M4(a:U 8→U 8→Nat→Nat→Nat→Nat→Nat→U 8):FuncId→Option ay.Spec|42=>some (UF a).spec|_=>none
def ak9:∀f a,M4 fZ f=some a→br f a:=by
 intro f a h;unfold M4 at h;split at h
 ·cases h;rw[ak8];exact Sg
 ·cases h
def M5(a:U 8→U 8→Nat→Nat→Nat→Nat→Nat→U 8)(d:sD):U 8:=a (U.zero 8 d.kl.toNat) d.b 0 d.kl.toNat d.kl.toNat 0 1024
structure M6 where
 (X:U 64)(M:Nat)(mem p kl:BitVec 32)
def M7(a:List af)(b:List ah):Option M6:=
 match a with
 |[.ref (.sm 0 (.s M) 128),.num (.aF mem),.num (.aF p),.num (.aF kl)]=>
  match b with
  |[⟨.bw X,.own⟩]=>some ⟨X,M,mem,p,kl⟩|_=>none
 |_=>none
def A2:bV M6 where
 d0:=⟨0,0,0,0,0⟩
 read:=M7
 args:=fun⟨_,M,mem,p,kl⟩=>[.ref (.sm 0 (.s M) 128),.num (.aF mem),.num (.aF p),.num (.aF kl)]
 heap:=fun⟨X,_,_,_,_⟩=>[⟨.bw X,.own⟩]
 out:=fun⟨X,M,mem,p,kl⟩=>[⟨.bw ((ie (dJ X M mem p kl))).X,.own⟩,⟨.aj (M5 fZ (ie (dJ X M mem p kl))),.own⟩]
 val:=fun⟨_,_,_,_,kl⟩=>(.sl 1 (.c 0) (.s kl.toNat) (some (.s kl.toNat)))
 aT:=fun⟨X,M,mem,p,kl⟩=>decide (X.n=M*128∧M=mem.toNat∧2*p.toNat≤mem.toNat∧1≤p.toNat∧1≤kl.toNat)
def ala:A2.Rd:=by
 intro a b d h;change M7 a b=some d at h;unfold M7 at h;repeat' split at h
 all_goals cases h
 exact⟨rfl,rfl⟩
def alb(a:U 8→U 8→Nat→Nat→Nat→Nat→Nat→U 8)(X:U 64)(M:Nat)(mem p kl:BitVec 32):A2.cE ⟨X,M,mem,p,kl⟩ (some [0,2]) (b9 (M4 a) wO 34) [] [⟨.bw (ie (dJ X M mem p kl)).X,.own⟩,⟨.aj (M5 a (ie (dJ X M mem p kl))),.own⟩] (.sl 1 (.c 0) (.s (ie (dJ X M mem p kl)).kl.toNat) (some (.s (ie (dJ X M mem p kl)).kl.toNat))) [decide (((1:Nat)≤((((((dJ X M mem p kl).kl).toNat:Nat):Int)):Int).toNat∧(((((((dJ X M mem p kl).kl).toNat:Nat):Int)):Int).toNat≤((((((dJ X M mem p kl).kl).toNat:Nat):Int)):Int).toNat∧((0+((((((dJ X M mem p kl).kl).toNat:Nat):Int)):Int).toNat)≤((((((dJ X M mem p kl).kl).toNat:Nat):Int)):Int).toNat∧(((((((dJ X M mem p kl).kl).toNat:Nat):Int)):Int).toNat≤1099511627776∧(((0+((((0:Int)):Int).toNat*1))+((((1024:Int)):Int).toNat-(((0:Int)):Int).toNat))≤1024∧((((1024:Int)):Int).toNat-(((0:Int)):Int).toNat)≤1099511627776)))))),decide ((1024:Nat)≤1024),decide ((((((((dJ X M mem p kl).kl).toNat:Nat):Int)):Int).toNat*1)≤1099511627776),((decide ((0:Int)≤((((dJ X M mem p kl).kl).toNat:Nat):Int))&&decide (((((dJ X M mem p kl).kl).toNat:Nat):Int)≤((((dJ X M mem p kl).kl).toNat:Nat):Int)))&&decide (((((dJ X M mem p kl).kl).toNat:Nat):Int)≤1099511627776)),decide (((0:Int)≤0∧((0:Int)≤128∧(1024:Nat)=1024))),decide (((0+(((((((dJ X M mem p kl).mem-(1#32)).toNat:Nat):Int)):Int).toNat*128))+128)≤(dJ X M mem p kl).X.n),(decide ((0:Int)≤((((dJ X M mem p kl).mem-(1#32)).toNat:Nat):Int))&&decide (((((dJ X M mem p kl).mem-(1#32)).toNat:Nat):Int)<(((dJ X M mem p kl).M:Nat):Int))),decide (((0#32).toNat≤(p-(1#32)).toNat∧(X.n=(M*128)∧(M=mem.toNat∧((mem/p).toNat=(mem.toNat/p.toNat)∧((2*p.toNat)≤mem.toNat∧1≤p.toNat)))))),(p !=(0#32))]:=by show _=_;kernel_rfl
end
section
open Go Go.ay
variable [aR][aG][bl]
def alc(X:U 64)(M:Nat)(mem p kl:BitVec 32):(dJ X M mem p kl).M=M∧(dJ X M mem p kl).mem=mem∧(dJ X M mem p kl).p=p∧(dJ X M mem p kl).kl=kl∧(dJ X M mem p kl).X.n=X.n:=by
 have c:∀r (d:q5),(iter kX r d).M=d.M∧(iter kX r d).mem=d.mem∧(iter kX r d).p=d.p∧(iter kX r d).kl=d.kl∧(iter kX r d).X.n=d.X.n:=by
  intro r
  induction r with
  |zero=>exact fun d=>⟨rfl,rfl,rfl,rfl,rfl⟩|succ r e=>
   intro d;obtain⟨X,M,mem,p,kl,a,b⟩:=d;obtain⟨h1,h2,h3,h4,f⟩:=e (kX ⟨X,M,mem,p,kl,a,b⟩);refine⟨h1,h2,h3,h4,f.trans ?_⟩;dsimp only[kX];exact SC X M mem p kl a b
 exact c _ _
def ald:∀r (d:sD),(iter n7 r d).kl=d.kl∧(iter n7 r d).X=d.X∧(iter n7 r d).b.n=d.b.n:=by
 intro r
 induction r with
 |zero=>exact fun d=>⟨rfl,rfl,rfl⟩|succ r a=>
  intro d;obtain⟨X,b,c,M,mem,p,kl,e,f,i⟩:=d;obtain⟨h1,h2,h3⟩:=a (n7 ⟨X,b,c,M,mem,p,kl,e,f,i⟩);exact⟨h1,h2,h3.trans rfl⟩
def ale(d:q5):(ie d).kl=d.kl∧(ie d).X=d.X:=by
 have h:=ald ((128-(0:Int)).toNat) ⟨d.X,yf,rowAt d.X (aS (d.mem-1#32)),d.M,d.mem,d.p,d.kl,d.ln,d.la,0⟩;exact⟨h.1,h.2.1⟩
def alf(spec:FuncId→Option ay.Spec):c6 (dh spec wO) bB:=by
 have d:(cI Tryz.prog 34).length=3:=by kernel_rfl
 refine c6.of fun f=>?_;by_cases c:f=34
 ·subst c;refine .inr ⟨by kernel_rfl,fun i hi e a=>?_⟩;have hi:i<(cI Tryz.prog 34).length:=hi;rw[d]at hi;have g:i=0∨i=1∨i=2:=by omega
  rcases g with rfl|rfl|rfl
  ·have b:(bY (bh Tryz.prog 34 0)).bind (wO 34)=some Ln:=by kernel_rfl
   obtain rfl:=dV (b.symm.trans a);exact agh
  ·have b:(bY (bh Tryz.prog 34 1)).bind (wO 34)=none:=by kernel_rfl
   have a:(bY (bh Tryz.prog 34 1)).bind (wO 34)=some e:=a;rw[b]at a;cases a
  ·have b:(bY (bh Tryz.prog 34 2)).bind (wO 34)=some Lh:=by kernel_rfl
   obtain rfl:=dV (b.symm.trans a);exact af0
 ·refine .inl fun r=>?_
  show wO f r=none;unfold wO;split
  ·exact absurd rfl c
  ·exact absurd rfl c
  ·rfl
def alg:br 34 A2.spec:=by
 refine A2.ok (dn ak9 (alf _)) ala ?_;rintro⟨X,M,mem,p,kl⟩ a;have a:=bg a;obtain⟨d,e,f,bf,n⟩:=a;obtain⟨b,g,o,c,i⟩:=alc X M mem p kl;have j:=(ale (dJ X M mem p kl)).1.trans c;have h:=alb fZ X M mem p kl;rw[j]at h;refine⟨[],some [0,2],_,h,?_⟩;rw[b,g,c,i];have q:=kl.isLt;have r:=mem.isLt;have s:=p.isLt;have t:(mem-1#32).toNat=mem.toNat-1:=by
  rw[kG];have b:(1#32).toNat=1:=rfl;rw[b];omega
 have k:(mem/p).toNat=mem.toNat/p.toNat:=rI;have l:p≠0#32:=fun m=>by rw[m]at bf;simp at bf
 repeat'(refine aA ?_ ?_)
 all_goals first|exact aX|rfl|(simp only[cz]<;>first|omega|exact l|exact⟨j0 _,d,e,k,f,bf⟩)
end
section
open Go.ay
variable [aR][aG][bl]
variable [aR][aG][bl]
abbrev DX:=U 8→U 8→U 8→U 8→Nat→Nat→Nat→Nat→Nat→Nat→Nat→Nat→BitVec 32→BitVec 32→BitVec 32→BitVec 32→Int→U 8
abbrev DY:=U 8→U 8→Nat→Nat→Nat→Nat→BitVec 32→BitVec 32→BitVec 32→BitVec 32→Int→U 8
abbrev A3:=U 8→BitVec 32→BitVec 32→U 64
abbrev A4:=Int→BitVec 32→BitVec 32→BitVec 32→U 64→U 64
abbrev A5:=U 64→Nat→BitVec 32→BitVec 32→BitVec 32→U 8
def wP:DX:=fun a b c d e f g h i j l n t m p k o=>tY (AD a b c d e f g h i j l n t m p k o)
def s3:DY:=fun a b c d e f t m p k g=>tY (C5 a b c d e f t m p k g)
def kD:A5:=fun X M mem p kl=>M5 fZ (ie (dJ X M mem p kl))
def UG(d:DX):bV KV:={AE with val:=fun⟨a,b,c,e,bD,na,bC,nb,bO,bG,bW,ne,t,m,p,k,f⟩=>(.agg (jR (d a b c e bD na bC nb bO bG bW ne t m p k f) 72))}
def alh:UG wP=AE:=rfl
def UH(c:DY):bV KX:={AF with val:=fun⟨a,b,bD,na,bC,nb,t,m,p,k,d⟩=>(.agg (jR (c a b bD na bC nb t m p k d) 72))}
def ali:UH s3=AF:=rfl
def UI(a:U 8→BitVec 32→BitVec 32→U 8)(b:A3):bV Le:={xJ with out:=fun⟨h,mem,p⟩=>[⟨.aj (a h mem p),.own⟩,⟨.bw (b h mem p),.own⟩]}
def alj:UI yl ji=xJ:=rfl
def UJ(a:A4):bV M2:={m8 with out:=fun⟨X,M,mem,tm,p,m⟩=>[⟨.bw (a m mem tm p X),.own⟩]}
def alk:UJ jG=m8:=rfl
def UK(a:U 64→Nat→BitVec 32→BitVec 32→BitVec 32→U 64)(b:A5):bV M6:={A2 with out:=fun⟨X,M,mem,p,kl⟩=>[⟨.bw (a X M mem p kl),.own⟩,⟨.aj (b X M mem p kl),.own⟩]}
def alm:UK (fun X M mem p kl=>(ie (dJ X M mem p kl)).X) kD=A2:=rfl
def Hp(a:DX)(b:DY)(c:U 8→BitVec 32→BitVec 32→U 8)(d:A3)(e:A4)(f:U 64→Nat→BitVec 32→BitVec 32→BitVec 32→U 64)(g:A5):FuncId→Option ay.Spec|31=>some (fW (UG a).spec (UH b).spec)|32=>some (UI c d).spec|33=>some (UJ e).spec|34=>some (UK f g).spec|_=>none
abbrev UL:FuncId→Option ay.Spec:=Hp wP s3 yl ji jG (fun X M mem p kl=>(ie (dJ X M mem p kl)).X) kD
def aln(b:br 33 m8.spec):∀f a,UL f=some a→br f a:=by
 intro f a h;unfold UL Hp at h;split at h
 ·cases h;rw[alh,ali];exact dF.or afb afe
 ·cases h;rw[alj];exact afT
 ·cases h;rw[alk];exact b
 ·cases h;rw[alm];exact alg
 ·cases h
def ow(a:U 8):U 8:=U.of [a.l.getD 0 0#8,a.l.getD 1 0#8,a.l.getD 2 0#8,a.l.getD 3 0#8,a.l.getD 4 0#8,a.l.getD 5 0#8,a.l.getD 6 0#8,a.l.getD 7 0#8,a.l.getD 8 0#8,a.l.getD 9 0#8,a.l.getD 10 0#8,a.l.getD 11 0#8,a.l.getD 12 0#8,a.l.getD 13 0#8,a.l.getD 14 0#8,a.l.getD 15 0#8,a.l.getD 16 0#8,a.l.getD 17 0#8,a.l.getD 18 0#8,a.l.getD 19 0#8,a.l.getD 20 0#8,a.l.getD 21 0#8,a.l.getD 22 0#8,a.l.getD 23 0#8,a.l.getD 24 0#8,a.l.getD 25 0#8,a.l.getD 26 0#8,a.l.getD 27 0#8,a.l.getD 28 0#8,a.l.getD 29 0#8,a.l.getD 30 0#8,a.l.getD 31 0#8,a.l.getD 32 0#8,a.l.getD 33 0#8,a.l.getD 34 0#8,a.l.getD 35 0#8,a.l.getD 36 0#8,a.l.getD 37 0#8,a.l.getD 38 0#8,a.l.getD 39 0#8,a.l.getD 40 0#8,a.l.getD 41 0#8,a.l.getD 42 0#8,a.l.getD 43 0#8,a.l.getD 44 0#8,a.l.getD 45 0#8,a.l.getD 46 0#8,a.l.getD 47 0#8,a.l.getD 48 0#8,a.l.getD 49 0#8,a.l.getD 50 0#8,a.l.getD 51 0#8,a.l.getD 52 0#8,a.l.getD 53 0#8,a.l.getD 54 0#8,a.l.getD 55 0#8,a.l.getD 56 0#8,a.l.getD 57 0#8,a.l.getD 58 0#8,a.l.getD 59 0#8,a.l.getD 60 0#8,a.l.getD 61 0#8,a.l.getD 62 0#8,a.l.getD 63 0#8,a.l.getD 64 0#8,a.l.getD 65 0#8,a.l.getD 66 0#8,a.l.getD 67 0#8,a.l.getD 68 0#8,a.l.getD 69 0#8,a.l.getD 70 0#8,a.l.getD 71 0#8]
def mm(m:BitVec 32)(p:BitVec 8):BitVec 32:=m/(4#32*p.setWidth 32)*(4#32*p.setWidth 32)
def jX(m:BitVec 32)(p:BitVec 8):BitVec 32:=if(mm m p).toNat<(8#32*p.setWidth 32).toNat then 8#32*p.setWidth 32 else mm m p
def A6(a:A3)(b:A4)(c:A5)(h:U 8)(t mem:BitVec 32)(p:BitVec 8)(k:BitVec 32)(d:Int):U 8:=c (b d mem t (p.setWidth 32) (a (ow h) mem (p.setWidth 32))) mem.toNat mem (p.setWidth 32) k
def M8(a:A3)(c:A4)(h:U 8)(t m mem:BitVec 32)(p:BitVec 8)(k:BitVec 32)(d:Int)(b i:Bool):List Bool:=
 let q:=p.setWidth 32
 [decide ((c d mem t q (a (ow h) mem q)).n=mem.toNat*128∧mem.toNat=mem.toNat∧2*q.toNat≤mem.toNat∧1≤q.toNat∧1≤k.toNat),decide (mem.toNat=mem.toNat∧1≤q.toNat∧q.toNat≤8∧2≤(m7 mem q).toNat∧(m7 mem q).toNat≤64∧mem.toNat=4*q.toNat*(m7 mem q).toNat∧t.toNat<2147483648∧(a (ow h) mem q).n=mem.toNat*128),decide ((72:Nat)=72∧2*q.toNat≤mem.toNat),decide ((mm m p).toNat<(8#32*q).toNat)==b,4#32*q !=0#32,i,decide (p.toNat<(1#8).toNat)==false,decide (t.toNat<(1#32).toNat)==false]
def Hq(a b c e:U 8)(f g h i j l n o:Nat)(t m:BitVec 32)(p:BitVec 8)(k:BitVec 32)(d:Int):U 8:=A6 ji jG kD (wP a b c e f g h i j l n o t m (p.setWidth 32) k d) t (jX m p) p k d
def ez(a b:U 8)(d e f g:Nat)(t m:BitVec 32)(p:BitVec 8)(k:BitVec 32)(c:Int):U 8:=A6 ji jG kD (s3 a b d e f g t m (p.setWidth 32) k c) t (jX m p) p k c
structure M9 where
 (a b:U 8)(bD na bC nb:Nat)(t m:BitVec 32)(p:BitVec 8)(k:BitVec 32)(aN:Int)
def Na(a:List af)(c:List ah):Option M9:=
 match a with
 |[.num (.int .i64 (.s d)),.ref (.sl 0 (.s e) (.s f) none),.ref (.sl 1 (.s g) (.s h) none),.atom .cD,.atom .cD,.num (.aF t),.num (.aF m),.num (.bP p),.num (.aF k)]=>
  match c with
  |[⟨.aj a,.ro⟩,⟨.aj b,.ro⟩]=>some ⟨a,b,e,f,g,h,t,m,p,k,d⟩|_=>none
 |_=>none
def wQ:bV M9 where
 d0:=⟨0,0,0,0,0,0,0,0,0,0,0⟩
 read:=Na
 args:=fun⟨_,_,f,d,g,e,t,m,p,k,h⟩=>[.au h,.ref (.sl 0 (.s f) (.s d) none),.ref (.sl 1 (.s g) (.s e) none),.atom .cD,.atom .cD,.num (.aF t),.num (.aF m),.num (.bP p),.num (.aF k)]
 heap:=fun⟨a,b,_,_,_,_,_,_,_,_,_⟩=>[⟨.aj a,.ro⟩,⟨.aj b,.ro⟩]
 out:=fun⟨a,b,f,d,g,e,t,m,p,k,h⟩=>[⟨.aj a,.ro⟩,⟨.aj b,.ro⟩,⟨.aj (ez a b f d g e t m p k h),.own⟩]
 val:=fun⟨_,_,_,_,_,_,_,_,_,k,_⟩=>(.sl 2 (.c 0) (.s k.toNat) (some (.s k.toNat)))
 aT:=fun⟨a,b,f,d,g,e,t,m,p,k,_⟩=>decide (f+d≤a.n∧d≤1000000∧g+e≤b.n∧e≤1000000∧1≤t.toNat∧t.toNat≤1000000∧m.toNat≤256∧1≤p.toNat∧p.toNat≤8∧1≤k.toNat)
def alo:wQ.Rd:=by
 intro a b d h;change Na a b=some d at h;unfold Na at h;repeat' split at h
 all_goals cases h
 exact⟨rfl,rfl⟩
def alp(o:DX)(h:DY)(q:U 8→BitVec 32→BitVec 32→U 8)(i:A3)(j:A4)(r:U 64→Nat→BitVec 32→BitVec 32→BitVec 32→U 64)(l:A5)(a b:U 8)(f c g d:Nat)(t m:BitVec 32)(p:BitVec 8)(k:BitVec 32)(e:Int):wQ.cE ⟨a,b,f,c,g,d,t,m,p,k,e⟩ (some [0,1,4]) (b9 (Hp o h q i j r l) aU 26) (bt 3 4) [⟨.aj a,.ro⟩,⟨.aj b,.ro⟩,⟨.aj (A6 i j l (h a b f c g d t m (p.setWidth 32) k e) t (8#32*p.setWidth 32) p k e),.own⟩] (wQ.val ⟨a,b,f,c,g,d,t,m,p,k,e⟩) (M8 i j (h a b f c g d t m (p.setWidth 32) k e) t m (8#32*p.setWidth 32) p k e true (decide (f+c≤a.n∧c≤1000000∧g+d≤b.n∧d≤1000000))):=by show _=_;kernel_rfl
def alq(o:DX)(h:DY)(q:U 8→BitVec 32→BitVec 32→U 8)(i:A3)(j:A4)(r:U 64→Nat→BitVec 32→BitVec 32→BitVec 32→U 64)(l:A5)(a b:U 8)(f c g d:Nat)(t m:BitVec 32)(p:BitVec 8)(k:BitVec 32)(e:Int):wQ.cE ⟨a,b,f,c,g,d,t,m,p,k,e⟩ (some [0,1,4]) (b9 (Hp o h q i j r l) aU 26) (bt 3 0) [⟨.aj a,.ro⟩,⟨.aj b,.ro⟩,⟨.aj (A6 i j l (h a b f c g d t m (p.setWidth 32) k e) t (mm m p) p k e),.own⟩] (wQ.val ⟨a,b,f,c,g,d,t,m,p,k,e⟩) (M8 i j (h a b f c g d t m (p.setWidth 32) k e) t m (mm m p) p k e false (decide (f+c≤a.n∧c≤1000000∧g+d≤b.n∧d≤1000000))):=by show _=_;kernel_rfl
end
section
open Go.ay
variable [aR][aG][bl]
def DZ(r:Nat→U 64)(c:Nat):Nat→Nat→BitVec 64|0,_=>0#64|t+1,w=>DZ r c t w^^^aL (r t) (c+w)
theorem UM(e:Nat)(a b c f:U 8)(g i co len:Int)(j:Nat→Nat)(r:Nat→U 64)(Z:U 64)(l:Z.n=128):∀k,k≤128→∃d,iter (qk e) k ⟨a,b,c,f,g,i,co,len,j,r,Z,0⟩=⟨a,b,c,f,g,i,co,len,j,r,d,(k:Int)⟩∧d.n=128∧∀n,aL d n=if n<k then aL Z n^^^aL (r e) (dM (co-1)+n)else aL Z n
 |0,_=>⟨Z,rfl,l,fun n=>by rw[ak (by omega)]⟩|k+1,u=>by
  obtain⟨d,s,h,m⟩:=UM e a b c f g i co len j r Z l k (by omega);refine⟨AJ (r e) (co-1) d k,by rw[gG,s];rfl,h,fun n=>?_⟩;have t:aL (AJ (r e) (co-1) d k) n=if n=0+k*1 then aL d (0+k*1)^^^aL (r e) (dM (co-1)+k*1)else aL d n:=nU _ n (by show 0+k*1<_;omega)
  rw[t];by_cases c:n=0+k*1
  ·rw[ax c,m,ak (by omega),ax (by omega),c,cM]
  ·rw[ak c,m n];by_cases o:n<k
   ·rw[ax o,ax (by omega)]
   ·rw[ak o,ak (by omega)]
theorem Nb{p q:Nat}{a b c e:U 8}{aN ps:Int}{nn:Nat→Nat}{r0:Nat→U 64}(R:2≤q):∀(n:Nat) (len:Int) (r:Nat→U 64) (Z:U 64) (l:Nat),l+n≤p→Z.n=128→(∀i,i<p→r i=r0 i)→(∀w,w<128→aL Z w=DZ r0 ((4*q-1)*128) l w)→
 (qm p a b c e aN ps ((4*q:Nat):Int) nn n len r Z l).Z.n=128∧∀w,w<128→aL (qm p a b c e aN ps ((4*q:Nat):Int) nn n len r Z l).Z w=DZ r0 ((4*q-1)*128) (l+n) w
 |0,len,r,Z,l,k,d,Q,f=>⟨d,f⟩|n+1,len,r,Z,l,k,d,Q,f=>by
  obtain⟨g,m,h,o⟩:=UM l a b c e aN ps ((4*q:Nat):Int) len (c7 p nn) (fz p r) Z d 128 (aV _);have s:qm p a b c e aN ps ((4*q:Nat):Int) nn (n+1) len r Z l=qm p a b c e aN ps ((4*q:Nat):Int) nn n len (fz p r) g (l+1):=by
   have t:iter (qk l) (128-(0:Int)).toNat ⟨a,b,c,e,aN,ps,((4*q:Nat):Int),len,c7 p nn,fz p r,Z,0⟩=⟨a,b,c,e,aN,ps,((4*q:Nat):Int),len,c7 p nn,fz p r,g,((128:Nat):Int)⟩:=m;simp only[qm,t]
  rw[s,show l+(n+1)=l+1+n by omega];refine Nb R n len (fz p r) g (l+1) (by omega) h (fun i hi=>by rw[m0 _ hi];exact Q i hi) fun w j=>?_;rw[o w,ax j,m0 _ (by omega),Q l (by omega),f w j];have:dM (((4*q:Nat):Int)-1)=(4*q-1)*128:=by rw[GC,show(((4*q:Nat):Int)-1).toNat=4*q-1 by omega]
  rw[this];rfl
theorem UN(a:U 64){i:Nat}(h:i<128):pick a (i:Int)=aL a i:=by
 unfold pick;rw[eA];exact C2 (fun j=>aL a j) h
theorem UO(X b:U 64)(M:Nat)(mem p kl f g:BitVec 32)(l:aS (mem-1#32)+128≤X.n):∀k,k≤128→∃d,iter sE k ⟨X,b,M,mem,p,kl,f,g,0⟩=⟨d,b,M,mem,p,kl,f,g,(k:Int)⟩∧d.n=X.n∧
 ∀e,aL d e=if aS (mem-1#32)≤e∧e<aS (mem-1#32)+k then aL X e^^^aL b (e-aS (mem-1#32))else aL X e
 |0,_=>⟨X,rfl,rfl,fun e=>by rw[ak (by omega)]⟩|k+1,s=>by
  obtain⟨d,m,h,i⟩:=UO X b M mem p kl f g l k (by omega);refine⟨C9 d b (aS (mem-1#32)) k,by rw[gG,m];rfl,h,fun n=>?_⟩;generalize aS (mem-1#32)=a at *;have o:aL (C9 d b a k) n=if n=a+k*1 then aL d (a+k*1)^^^pick b k else aL d n:=nU _ n (by show a+k*1<_;omega)
  rw[o,UN b (by omega)];by_cases c:n=a+k*1
  ·rw[ax c,ax (by omega),i,ak (by omega),c,show a+k*1-a=k by omega]
  ·rw[ak c,i n];by_cases j:a≤n∧n<a+k
   ·rw[ax j,ax (by omega)]
   ·rw[ak j,ak (by omega)]
section
variable{P q:Nat}{X:U 64}{r:Nat→U 64}{mem p:BitVec 32}
variable(T:1≤P)(V:P≤8)(W:2≤q)(R:q≤64)(em:mem.toNat=4*P*q)(S:p.toNat=P)(Q:m9 P q X r)
include T V W R em S Q
theorem UP:aS (mem-1#32)=(P-1)*(4*q*128)+(4*q-1)*128∧aS (mem-1#32)+128=X.n:=by
 have f:P*(4*q)≤8*256:=w6 V (by omega);have a:mem.toNat=P*(4*q):=by rw[em,gW 4 P,iV]
 have h1:(mem-1#32).toNat=P*(4*q)-1:=by
  have b:(1#32).toNat=1:=rfl;have:1*(4*q)≤P*(4*q):=fP _ T;rw[kG,b,a];omega
 obtain⟨t,rfl⟩:∃t,P=t+1:=⟨P-1,by omega⟩;have c:=Q.n;have d:(t+1)*(4*q*128)=(t+1)*(4*q)*128:=(iV ..).symm;have e:t*(4*q*128)=t*(4*q)*128:=(iV ..).symm;rw[qd,h1,c,d,an7,e,jL];generalize t*(4*q)=z;omega
theorem UQ(M:Nat)(kl:BitVec 32):∀t,t≤P-1→∃b,iter kX t ⟨X,M,mem,p,kl,mem/p,0#32⟩=⟨b,M,mem,p,kl,mem/p,BitVec.ofNat 32 t⟩∧b.n=X.n∧
 ∀a,aL b a=if aS (mem-1#32)≤a then aL X a^^^(if a<aS (mem-1#32)+128 then DZ r ((4*q-1)*128) t (a-aS (mem-1#32))else 0#64)else aL X a
 |0,_=>⟨X,rfl,rfl,fun a=>by
  split
  ·split
   ·exact(BitVec.xor_zero).symm
   ·exact(BitVec.xor_zero).symm
  ·rfl⟩
 |t+1,j=>by
  obtain⟨b,k,h,e⟩:=UQ M kl t (by omega);obtain⟨E,F⟩:=UP T V W R em S Q;obtain⟨g,l,m,o⟩:=UO b (rowAt b (aS (Da (mem/p) (BitVec.ofNat 32 t)))) M mem p kl (mem/p) (BitVec.ofNat 32 t) (by omega) 128 (aV _);have s:kX ⟨b,M,mem,p,kl,mem/p,BitVec.ofNat 32 t⟩=⟨g,M,mem,p,kl,mem/p,BitVec.ofNat 32 t+1#32⟩:=by
   show q5.mk (Db b M mem p kl (mem/p) (BitVec.ofNat 32 t)).X M mem p kl (mem/p) (BitVec.ofNat 32 t+1#32)=_;unfold Db;rw[show(128-(0:Int)).toNat=128 from rfl,l]
  refine⟨g,by rw[gG,k,s,show BitVec.ofNat 32 t+1#32=BitVec.ofNat 32 (t+1)from(BitVec.ofNat_add _ _).symm],m.trans h,fun a=>?_⟩;have i:(mem/p).toNat=4*q:=by
   rw[rI,em,S,gW 4 P,iV];exact uJ _ (by omega)
  have u:(BitVec.ofNat 32 t).toNat=t:=by rw[g7];omega
  have v:t*(4*q)≤8*256:=w6 (by omega) (by omega);have x:aS (Da (mem/p) (BitVec.ofNat 32 t))=t*(4*q*128)+(4*q-1)*128:=by
   have y:(1#32).toNat=1:=rfl;have A:(BitVec.ofNat 32 t*(mem/p)).toNat=t*(4*q):=by rw[iE,u,i];exact dO (by omega)
   unfold Da;rw[qd,kG,eB,A,i,y,←iV t (4*q) 128];generalize t*(4*q)=z at v⊢;omega
  have B:(t+1)*(4*q*128)≤(P-1)*(4*q*128):=fP _ j;rw[jL]at B;rw[o a];have C:∀w,w<128→aL (rowAt b (aS (Da (mem/p) (BitVec.ofNat 32 t)))) w=aL (r t) ((4*q-1)*128+w):=fun w D=>by
   rw[q6 _ _ D,e,x,ak (by omega),iD];exact Q.rq t _ (by omega) (by omega)
  generalize aS (mem-1#32)=f at *;by_cases c:f≤a∧a<f+128
  ·rw[ax c,ax c.1,ax c.2,e a,ax c.1,ax c.2,C _ (by omega),BitVec.xor_assoc];rfl
  ·rw[ak c,e a];by_cases d:f≤a
   ·rw[ax d,ax d,ak (fun h=>c ⟨d,h⟩),ak (fun h=>c ⟨d,h⟩)]
   ·rw[ak d,ak d]
theorem alr(M:Nat)(kl:BitVec 32):∃a b,dJ X M mem p kl=⟨a,M,mem,p,kl,mem/p,b⟩∧∀w,w<128→aL (rowAt a (aS (mem-1#32))) w=DZ r ((4*q-1)*128) P w:=by
 obtain⟨a,c,h,d⟩:=UQ T V W R em S Q M kl (P-1) (aV _);obtain⟨e,k⟩:=UP T V W R em S Q;have f:(p-1#32).toNat-(0#32).toNat=P-1:=by
  have g:(1#32).toNat=1:=rfl;have i:(0#32).toNat=0:=rfl;rw[kG,g,i,S];omega
 refine⟨a,_,by unfold dJ;rw[f];exact c,fun w j=>?_⟩;rw[q6 _ _ j,d,ax (by omega),ax (by omega),uF,e,iD,Q.rq (P-1) _ (by omega) (by omega)];obtain⟨t,rfl⟩:∃t,P=t+1:=⟨P-1,by omega⟩;rw[an7,H8];rfl
end
def cF(a:U 8)(i:Nat):BitVec 8:=a.l.getD i 0#8
def Nc{X a:U 8}(h:X.n=a.n)(c:∀n,n<X.n→cF X n=cF a n):X=a:=by
 obtain⟨n,l,d⟩:=X;obtain⟨m,r,e⟩:=a;simp only at h;subst h;have:l=r:=by
  refine Eh (d.trans e.symm) fun i h1 h2=>?_;have:=c i (by show i<n;omega);have b:l.getD i 0#8=r.getD i 0#8:=this;rw[dY,dY,bX h1,bX h2]at b;exact b
 subst this;rfl
def qs{X:U 8}{i:Nat}(v:BitVec 8)(n:Nat)(hi:i<X.n):cF (X.set i v) n=if n=i then v else cF X n:=by
 have a:=X.h
 show((X.l.set i v).getD n 0#8)=_;unfold cF;simp only[dY,wW];by_cases c:n=i
 ·subst c;rw[ax rfl,ax rfl,ax (by omega)];rfl
 ·rw[ak (fun h=>c h.symm),ak c]
def als{b:U 8}{t:Nat}(a:BitVec 64)(h:8*t+8≤b.n)(n:Nat):(ym b (t:Int) a).n=b.n∧cF (ym b (t:Int) a) n=if 8*t≤n∧n<8*t+8 then oq a (n-8*t)else cF b n:=by
 refine⟨rfl,?_⟩;unfold ym;rw[show 0+((t:Int)*8).toNat*1=8*t by omega];generalize 8*t=z at h⊢;rw[qs _ _ (by show _<b.n;omega),qs _ _ (by show _<b.n;omega),qs _ _ (by show _<b.n;omega),qs _ _ (by show _<b.n;omega),qs _ _ (by show _<b.n;omega),qs _ _ (by show _<b.n;omega),qs _ _ (by show _<b.n;omega),qs _ _ (by show _<b.n;omega)];unfold oq;by_cases c:n=z+7
 ·rw[ax c,ax (by omega),show n-z=7 by omega]
 rw[ak c];by_cases d:n=z+6
 ·rw[ax d,ax (by omega),show n-z=6 by omega]
 rw[ak d];by_cases e:n=z+5
 ·rw[ax e,ax (by omega),show n-z=5 by omega]
 rw[ak e];by_cases f:n=z+4
 ·rw[ax f,ax (by omega),show n-z=4 by omega]
 rw[ak f];by_cases g:n=z+3
 ·rw[ax g,ax (by omega),show n-z=3 by omega]
 rw[ak g];by_cases i:n=z+2
 ·rw[ax i,ax (by omega),show n-z=2 by omega]
 rw[ak i];by_cases j:n=z+1
 ·rw[ax j,ax (by omega),show n-z=1 by omega]
 rw[ak j];by_cases k:n=z+0
 ·rw[ax k,ax (by omega),show n-z=0 by omega,Br,BitVec.ushiftRight_zero]
 ·rw[ak k,ak (by omega)]
def yR(a:U 64)(i:Nat):BitVec 8:=oq (aL a (i/8)) (i%8)
def Nd(X a:U 64)(M:Nat)(mem p kl d e:BitVec 32):∀t,t≤128→∃b,iter n7 t ⟨X,yf,a,M,mem,p,kl,d,e,0⟩=⟨X,b,a,M,mem,p,kl,d,e,(t:Int)⟩∧b.n=1024∧∀i,i<8*t→cF b i=yR a i
 |0,_=>⟨yf,rfl,ni,fun i h=>absurd h (by omega)⟩|t+1,k=>by
  obtain⟨b,g,h,j⟩:=Nd X a M mem p kl d e t (by omega);have f:=fun n=>als (b:=b) (t:=t) (pick a t) (by omega) n;refine⟨ym b t (pick a t),by rw[gG,g];rfl,(f 0).1.trans h,fun i hi=>?_⟩;rw[(f i).2,UN a (by omega)];by_cases c:8*t≤i∧i<8*t+8
  ·rw[ax c];unfold yR;rw[show i/8=t by omega,show i-8*t=i%8 by omega]
  ·rw[ak c];exact j i (by omega)
def alu(B:U 8)(a:BitVec 8)(n:Nat):cF (B.app (U.of [a])) n=if n<B.n then cF B n else if n=B.n then a else 0#8:=by
 have d:=B.h
 show(B.l++[a]).getD n 0#8=_;unfold cF;rw[dY,dY];by_cases c:n<B.n
 ·rw[ax c,gV (by omega)]
 ·rw[ak c,gL (by omega),d];by_cases b:n=B.n
  ·rw[ax b,b,Wr];rfl
  ·rw[ak b];obtain⟨k,e⟩:∃k,n-B.n=k+1:=⟨n-B.n-1,by omega⟩;rw[e];rfl
def alv(B:U 8)(a:BitVec 8):(B.app (U.of [a])).n=B.n+1:=rfl
def UR(B:U 8)(w:BitVec 64)(n:Nat)(h:n<B.n+8):cF (appW B w) n=if n<B.n then cF B n else oq w (n-B.n):=by
 unfold appW;simp only[alu,alv];by_cases c:n<B.n
 ·simp only[ax c,ax (show n<B.n+1 by omega),ax (show n<B.n+1+1 by omega),ax (show n<B.n+1+1+1 by omega),ax (show n<B.n+1+1+1+1 by omega),ax (show n<B.n+1+1+1+1+1 by omega),ax (show n<B.n+1+1+1+1+1+1 by omega),ax (show n<B.n+1+1+1+1+1+1+1 by omega)]
 ·rw[ak c];obtain⟨k,rfl⟩:∃k,n=B.n+k:=⟨n-B.n,by omega⟩;have a:k=0∨k=1∨k=2∨k=3∨k=4∨k=5∨k=6∨k=7:=by omega
  rw[uF];rcases a with rfl|rfl|rfl|rfl|rfl|rfl|rfl|rfl<;>simp[iD]<;>(intro b;omega)
def US(a b c d:U 8)(len:Int)(S:U 64)(e:S.n=128):∀t,t≤127→∃B,iter qn t ⟨a,b,c,d,len,S,appW (U.of []) (S.l.getD 0 0#64),8,1⟩=⟨a,b,c,d,len,S,B,8+8*t,((1+t:Nat):Int)⟩∧B.n=8+8*t∧∀i,i<8+8*t→cF B i=yR S i
 |0,_=>⟨_,rfl,rfl,fun i hi=>by
  rw[UR _ _ _ hi,ak (by show¬i<0;omega)];unfold yR
  show oq (aL S 0) (i-0)=_;rw[show i/8=0 by omega,show i-0=i%8 by omega]⟩
 |t+1,k=>by
  obtain⟨B,f,h,g⟩:=US a b c d len S e t (by omega);refine⟨appW B ((di S).l.getD ((1+t:Nat):Int).toNat 0#64),by rw[gG,f];rfl,by rw[He,h];omega,fun i hi=>?_⟩;rw[eA];have j:(di S).l.getD (1+t) 0#64=aL S (1+t):=Aw S (by omega);rw[UR _ _ _ (by omega),j,h];by_cases c:i<8+8*t
  ·rw[ax c];exact g i c
  ·rw[ak c];unfold yR;rw[show i/8=1+t by omega,show i-(8+8*t)=i%8 by omega]
def UT(a b c d:U 8)(len:Int)(S:U 64)(e:S.n=128):(lI a b c d len S).len=len∧(lI a b c d len S).k=1024∧(lI a b c d len S).B.n=1024∧∀i,i<1024→cF (lI a b c d len S).B i=yR S i:=by
 obtain⟨B,f,h,g⟩:=US a b c d len S e 127 (aV _);have j:lI a b c d len S=⟨a,b,c,d,len,S,B,8+8*127,((1+127:Nat):Int)⟩:=by
  unfold lI;rw[o8 e];exact f
 rw[j];exact⟨rfl,rfl,h,g⟩
def Nf(w:Nat):aL je w=0#64:=by
 show(List.replicate 128 0#64).getD w 0#64=_;rw[dY,mz];split<;>rfl
def alw{P q:Nat}{X:U 64}{r:Nat→U 64}{mem p kl:BitVec 32}{d:Nat}(t:1≤P)(u:P≤8)(s:2≤q)(v:q≤64)(em:mem.toNat=4*P*q)(x:p.toNat=P)(y:kl.toNat=d)(z:1≤d)(O:d≤1024)(A:m9 P q X r)
 (M:Nat) (a b c e:U 8) (aN ps len k:Int) (nn:Nat→Nat):
 ∀i,i<d→cF (kD X M mem p kl) i=cF (fA (lI a b c e k (qm P a b c e aN ps ((4*q:Nat):Int) nn P len r je 0).Z).B 0 1024 (d:Int)) i:=by
 intro i hi;obtain⟨f,l,C,D⟩:=alr t u s v em x A M kl;obtain⟨g,E,F,H⟩:=Nd f (rowAt f (aS (mem-1#32))) M mem p kl (mem/p) l 128 (aV _);obtain⟨m,o⟩:=Nb (p:=P) (a:=a) (b:=b) (c:=c) (e:=e) (aN:=aN) (ps:=ps) (nn:=nn) (r0:=r) s P len r je 0 (by omega) DO (fun _ _=>rfl) (fun w _=>Nf w);rw[cM]at o;generalize(qm P a b c e aN ps ((4*q:Nat):Int) nn P len r je 0).Z=Z at m o⊢;obtain⟨Q,R,I,J⟩:=UT a b c e k Z m;have K:rowAt f (aS (mem-1#32))=Z:=vU ((ww _ _).trans m.symm) fun w j=>by
  have j:w<128:=by rw[ww]at j;exact j
  rw[D w j,o w j]
 have kB:g=(lI a b c e k Z).B:=Nc (F.trans I.symm) fun n S=>by
  rw[H n (by omega),J n (by omega),K]
 have L:kD X M mem p kl=fZ (U.zero 8 d) g 0 d d 0 1024:=by
  unfold kD;rw[C];have N:ie ⟨f,M,mem,p,kl,mem/p,l⟩=⟨f,g,rowAt f (aS (mem-1#32)),M,mem,p,kl,mem/p,l,((128:Nat):Int)⟩:=E;rw[N]
  show fZ (U.zero 8 kl.toNat) g 0 kl.toNat kl.toNat 0 1024=_;rw[y]
 have h:=T3 (U.zero 8 d) g 0 d d 0 1024 z (by omega) (aV _) (by show 0+d≤d;omega) (by omega) (by omega) i hi;rw[cM]at h;rw[L,←kB];exact h
def Ng(d v:U 8)(e n:Nat):(gD d v e n).n=d.n+4+n:=rfl
def wR(d v:U 8)(e n i:Nat)(h:i<d.n):(gD d v e n).l.getD i 0#8=d.l.getD i 0#8:=by
 have R:(d.app (sw n)).n=d.n+4:=rfl;unfold gD;rw[uq,R,ax (by omega),uq,ax h]
def UU(d v:U 8)(e n i:Nat)(h:i<4):(gD d v e n).l.getD (d.n+i) 0#8=(sw n).l.getD i 0#8:=by
 have R:(d.app (sw n)).n=d.n+4:=rfl;unfold gD;rw[uq,R,ax (by omega),uq,ak (by omega),uF]
def alx(d v:U 8)(e n i:Nat)(f:e+n≤v.n)(h:i<n):(gD d v e n).l.getD (d.n+4+i) 0#8=v.l.getD (e+i) 0#8:=by
 have R:(d.app (sw n)).n=d.n+4:=rfl;unfold gD;rw[uq,R,ak (by omega),uF,pF _ _ _ _ f h]
def UV(n:Nat):(sw n).n=4:=rfl
def eI.nZ{g:bq}{P:Nat→BitVec 8}{d:jB}{f:U 8}(o:eI g P d f.n)(v:U 8)(e n:Nat)(h:e+n≤v.n)(j:∀i,i<(gD f v e n).n→P i=(gD f v e n).l.getD i 0#8):eI g P (nZ d v e n) (gD f v e n).n:=by
 have a:=eI.step o (sw n) 0 4 (by rw[UV];omega) fun i hi=>by
  rw[j _ (by rw[Ng];omega),UU _ _ _ _ _ hi,cM]
 exact eI.step a v e n h fun i hi=>by
  rw[j _ (by rw[Ng];omega),alx _ _ _ _ _ h hi]
section
variable(a b c R:U 8)(W Q Y S Z T A V:Nat)(t m:BitVec 32)(p k X:Int)
def Hr:U 8:=Sk t m (BitVec.ofInt 32 p) (BitVec.ofInt 32 k) (BitVec.ofInt 32 X)
def UW:ur a b c R W Q Y S Z T A V t m p k X=gD (gD (gD (gD (Hr t m p k X) a W Q) b Y S) c Z T) R A V:=by
 have:(T4 t m p k X Q).app (a.sub W Q)=gD (Hr t m p k X) a W Q:=rfl;unfold ur;rw[this]
def UX(D:W+Q≤a.n)(K:Q≤1000000)(E:Y+S≤b.n)(L:S≤1000000)(F:Z+T≤c.n)(M:T≤1000000)(H:A+V≤R.n)(N:V≤1000000):
 gB (AD a b c R W Q Y S Z T A V t m (BitVec.ofInt 32 p) (BitVec.ofInt 32 k) X)=om (ur a b c R W Q Y S Z T A V t m p k X) 0 (rB Q S T V) 64:=by
 rw[UW];generalize u:Hr t m p k X=e;have n0:e.n=24:=by rw[←u];rfl
 generalize j:gD e a W Q=f;generalize o:gD f b Y S=g;generalize q:gD g c Z T=h;generalize r:gD h R A V=d;have dB:f.n=e.n+4+Q:=by rw[←j];rfl
 have O:g.n=f.n+4+S:=by rw[←o];rfl
 have P:h.n=g.n+4+T:=by rw[←q];rfl
 have aa:d.n=h.n+4+V:=by rw[←r];rfl
 have v:∀i,i<h.n→d.l.getD i 0#8=h.l.getD i 0#8:=fun i hi=>by rw[←r];exact wR _ _ _ _ _ hi
 have w:∀i,i<g.n→d.l.getD i 0#8=g.l.getD i 0#8:=fun i hi=>by rw[v i (by omega),←q];exact wR _ _ _ _ _ hi
 have x:∀i,i<f.n→d.l.getD i 0#8=f.l.getD i 0#8:=fun i hi=>by rw[w i (by omega),←o];exact wR _ _ _ _ _ hi
 have I:∀i,i<e.n→d.l.getD i 0#8=e.l.getD i 0#8:=fun i hi=>by rw[x i (by omega),←j];exact wR _ _ _ _ _ hi
 have s:=eI.step (eI.new 64 (fun i=>d.l.getD i 0#8) p9) e 0 24 (by omega) (fun i hi=>by rw[cM];exact(I i (by omega)).symm);have s:eI (bU 64) (fun i=>d.l.getD i 0#8) (Gk t m (BitVec.ofInt 32 p) (BitVec.ofInt 32 k) X) e.n:=by rw[n0,←u]at *;exact s
 have y:=eI.nZ s a W Q D (fun i hi=>by rw[j]at hi⊢;exact x i hi);rw[j]at y;have z:=eI.nZ y b Y S E (fun i hi=>by rw[o]at hi⊢;exact w i hi);rw[o]at z;have B:=eI.nZ z c Z T F (fun i hi=>by rw[q]at hi⊢;exact v i hi);rw[q]at B;have C:=eI.nZ B R A V H (fun i hi=>by rw[r]);rw[r]at C;have J:rB Q S T V=d.n:=by unfold rB;omega
 unfold AD;rw[GR C (by omega),GU _ _ _ _ (by omega) (by omega) (by omega),J];exact Dw _ _ fun i _=>by rw[cM]
def aly(e:W+Q≤a.n)(f:Q≤1000000)(g:Y+S≤b.n)(h:S≤1000000)(j:Z+T≤c.n)(l:T≤1000000)(o:A+V≤R.n)(q:V≤1000000):∀i,i<64→
 cF (tY (AD a b c R W Q Y S Z T A V t m (BitVec.ofInt 32 p) (BitVec.ofInt 32 k) X)) i=cF (lG a b c R W Q Y S Z T A V t m p k X) i:=by
 intro i hi;have r:=UX a b c R W Q Y S Z T A V t m p k X e f g h j l o q;have d:Sm.n=72:=rfl;unfold tY lG cF;rw[r,yL _ _ _ _ _ (by omega) (by omega) (by rw[d];decide) (by rw[d];omega)];have s:(64:Int).toNat=64:=rfl;rw[s,cM,ax ⟨j0 _,hi⟩,gE,DD _ _ _ _ (by omega) (by omega) i (by omega)]
end
end
section
open Go.ay
variable [aR][aG][bl]
variable{Q:U 8}{t:Nat}{h:U 8}{P:Nat}
def UY(a B:U 8)(n:Nat):cF (a.app B) n=if n<a.n then cF a n else cF B (n-a.n):=by
 have b:=a.h
 show(a.l++B.l).getD n 0#8=_;unfold cF;rw[dY,dY,dY];by_cases c:n<a.n
 ·rw[ax c,gV (by omega)]
 ·rw[ak c,gL (by omega),b]
def Nh(a:BitVec 32)(b:P+4≤h.n)(n:Nat):cF (AG h P a) n=if n=P+3 then(a>>>24).setWidth 8 else if n=P+2 then(a>>>16).setWidth 8 else if n=P+1 then(a>>>8).setWidth 8 else if n=P+0 then a.setWidth 8 else cF h n:=by
 unfold AG;rw[qs _ _ (by show _<h.n;omega),qs _ _ (by show _<h.n;omega),qs _ _ (by show _<h.n;omega),qs _ _ (by show _<h.n;omega)]
def Ni(Q:U 8)(c l:Nat):(kC Q c l).n=72:=rfl
def Hs(e:Q.n=64)(c l n:Nat):cF (kC Q c l) n=if n<64 then cF Q n else if n<68 then cF (U.of (uu c)) (n-64)else cF (U.of (uu l)) (n-68):=by
 have b:((Q.sub 0 64).app (U.of (uu c))).n=68:=rfl;have d:(Q.sub 0 64).n=64:=rfl;unfold kC;rw[UY,b,UY,d];by_cases a:n<64
 ·rw[ax (by omega),ax a,ax a];unfold cF;rw[pF _ _ _ _ (by omega) a,cM]
 ·rw[ak a,ak a]
def alz(h:t<8):(BitVec.ofNat 32 t).setWidth 8=BitVec.ofNat 8 t∧((BitVec.ofNat 32 t)>>>8).setWidth 8=0#8∧((BitVec.ofNat 32 t)>>>16).setWidth 8=0#8∧((BitVec.ofNat 32 t)>>>24).setWidth 8=0#8:=by
 have a:t=0∨t=1∨t=2∨t=3∨t=4∨t=5∨t=6∨t=7:=by omega
 rcases a with rfl|rfl|rfl|rfl|rfl|rfl|rfl|rfl<;>decide
def D1(h:U 8)(P:Nat)(a:BitVec 32):(AG h P a).n=h.n:=rfl
def Nj(c:Nat):cF (U.of (uu c)) 0=BitVec.ofNat 8 c∧cF (U.of (uu c)) 1=0#8∧cF (U.of (uu c)) 2=0#8∧cF (U.of (uu c)) 3=0#8:=⟨rfl,rfl,rfl,rfl⟩
def alA(d:t<8)(e:Q.n=64)(b:h.n=72)(f:∀i,i<64→cF h i=cF Q i):cB h (BitVec.ofNat 32 t)=kC Q 0 t:=by
 refine Nc (by unfold cB;rw[D1,D1,b];rfl) fun n a=>?_;have a:n<72:=by unfold cB at a;rw[D1,D1,b]at a;exact a
 obtain⟨g,j,cr,k⟩:=alz d;obtain⟨l,m,o,p⟩:=Nj 0;obtain⟨q,r,d2,s⟩:=Nj t;unfold cB;rw[Nh _ (by rw[D1];omega),Nh _ (by omega),Hs e,g,j,cr,k];by_cases c:n<64
 ·rw[ax c,ak (by omega),ak (by omega),ak (by omega),ak (by omega),ak (by omega),ak (by omega),ak (by omega),ak (by omega)];exact f n c
 ·have u:n=64∨n=65∨n=66∨n=67∨n=68∨n=69∨n=70∨n=71:=by omega
  rcases u with rfl|rfl|rfl|rfl|rfl|rfl|rfl|rfl<;>first|exact l.symm|exact m.symm|exact o.symm|exact p.symm|exact q.symm|exact r.symm|exact d2.symm|exact s.symm
def alB(a:Q.n=64):cR (kC Q 0 t)=kC Q 1 t:=by
 refine Nc rfl fun n b=>?_;have b:n<72:=b;obtain⟨e,f,g,i⟩:=Nj 1;unfold cR;rw[Nh _ (by rw[Ni];omega),Hs a,Hs a];by_cases c:n<64
 ·rw[ax c,ax c,ak (by omega),ak (by omega),ak (by omega),ak (by omega)]
 ·by_cases d:n<68
  ·have j:n=64∨n=65∨n=66∨n=67:=by omega
   rcases j with rfl|rfl|rfl|rfl<;>first|exact e.symm|exact f.symm|exact g.symm|exact i.symm
  ·rw[ak (by omega),ak (by omega),ak (by omega),ak (by omega),ak c,ak d,ak c,ak d]
def UZ(v:U 8)(P a:Nat):∀k,k≤1024→∃X:U 64,iter sW k ⟨v,je,P,a,(a:Int),0⟩=⟨v,X,P,a,(a:Int),(k:Int)⟩∧X.n=128∧∀j,j<128→aL X j=sS (fun i=>v.l.getD (P+i) 0#8) j (min 8 (k-8*j))
 |0,_=>by
  refine⟨_,rfl,DO,fun j b=>?_⟩;rw[Nat.zero_sub,Wq];exact Nf j
 |k+1,r=>by
  obtain⟨X,e,f,c⟩:=UZ v P a k (by omega);refine⟨mL X (0+((k:Int).tdiv 8).toNat*1) (v.l.getD (P+(k:Int).toNat*1) 0#8) (8*((k:Int).tmod 8)),?_,f,fun j b=>?_⟩
  ·rw[gG,e];rfl
  ·have g:(k:Int).tdiv 8=(k:Int)/8:=pK (by omega);have m:(k:Int).tmod 8=(k:Int)%8:=oB (by omega);have o:0+((k:Int).tdiv 8).toNat*1=k/8:=by rw[g];omega
   have p:P+(k:Int).toNat*1=P+k:=by omega
   have q:(8*((k:Int).tmod 8)).toNat=8*(k%8):=by rw[m];omega
   unfold mL;rw[o,nU _ _ (by omega),p,q];split
   ·rename_i h;subst h;have d:=c (k/8) (by omega);unfold aL at d;rw[d,show min 8 (k+1-8*(k/8))=(k%8)+1 by omega,show min 8 (k-8*(k/8))=k%8 by omega]
    show _=sS _ _ (k%8)|||_;rw[show 8*(k/8)+k%8=k by omega]
   ·rename_i h;rw[c j b,show min 8 (k+1-8*j)=min 8 (k-8*j) by omega]
def alC(v:U 8):(iT v 0 1024).n=128∧∀j,j<128→aL (iT v 0 1024) j=gu v (8*j):=by
 obtain⟨X,a,b,c⟩:=UZ v 0 1024 1024 (aV _);have ex:iT v 0 1024=X:=by
  unfold iT DH;rw[show(((1024:Nat):Int)-0).toNat=1024 from rfl,a]
 rw[ex];refine⟨b,fun j d=>?_⟩;rw[c j d,show min 8 (1024-8*j)=8 by omega,Mr];unfold rz gu;simp only[cM,gb]
def alD{u v:U 8}(h:∀i,i<8→cF u (P+i)=cF v (P+i)):gu u P=gu v P:=by
 unfold gu;have:=fun i hi=>h i hi;unfold cF at this;rw[this 0 (by omega),this 1 (by omega),this 2 (by omega),this 3 (by omega),this 4 (by omega),this 5 (by omega),this 6 (by omega),this 7 (by omega)]
end
section
open Go.ay
variable [aR][aG][bl]
theorem U0{X:U 64}{a k:Nat}(b:U 8)(h:a+k<X.n)(n:Nat):aL (sx X b a (k:Int)) n=if n=a+k then gu b (8*k)else aL X n:=by
 unfold sx;rw[show a+(k:Int).toNat*1=a+k by omega,show 0+((k:Int)*8).toNat*1=8*k by omega];exact nU _ n h
theorem U1(h b:U 8)(X:U 64)(M:Nat)(mem p f j:BitVec 32)(l:aS (j+0#32)+128≤X.n):∀k,k≤128→∃d,iter qZ k ⟨h,b,X,M,mem,p,f,j,0⟩=⟨h,b,d,M,mem,p,f,j,(k:Int)⟩∧d.n=X.n∧
 ∀a,aL d a=if aS (j+0#32)≤a∧a<aS (j+0#32)+k then gu b (8*(a-aS (j+0#32)))else aL X a
 |0,_=>⟨X,rfl,rfl,fun a=>by rw[ak (by omega)]⟩|k+1,s=>by
  obtain⟨d,m,o,r⟩:=U1 h b X M mem p f j l k (by omega);refine⟨sx d b (aS (j+0#32)) k,by rw[gG,m];rfl,o,fun n=>?_⟩;generalize aS (j+0#32)=e at *;rw[U0 b (by omega)];by_cases c:n=e+k
  ·rw[ax c,ax (by omega),show n-e=k by omega]
  ·rw[ak c,r n];by_cases g:e≤n∧n<e+k
   ·rw[ax g,ax (by omega)]
   ·rw[ak g,ak (by omega)]
theorem U2(h b:U 8)(X:U 64)(M:Nat)(mem p f j:BitVec 32)(l:aS (j+1#32)+128≤X.n):∀k,k≤128→∃d,iter q2 k ⟨h,b,X,M,mem,p,f,j,0⟩=⟨h,b,d,M,mem,p,f,j,(k:Int)⟩∧d.n=X.n∧
 ∀a,aL d a=if aS (j+1#32)≤a∧a<aS (j+1#32)+k then gu b (8*(a-aS (j+1#32)))else aL X a
 |0,_=>⟨X,rfl,rfl,fun a=>by rw[ak (by omega)]⟩|k+1,s=>by
  obtain⟨d,m,o,r⟩:=U2 h b X M mem p f j l k (by omega);refine⟨sx d b (aS (j+1#32)) k,by rw[gG,m];rfl,o,fun n=>?_⟩;generalize aS (j+1#32)=e at *;rw[U0 b (by omega)];by_cases c:n=e+k
  ·rw[ax c,ax (by omega),show n-e=k by omega]
  ·rw[ak c,r n];by_cases g:e≤n∧n<e+k
   ·rw[ax g,ax (by omega)]
   ·rw[ak g,ak (by omega)]
theorem alE(h b:U 8)(a:BitVec 32):(wm h b a).n=b.n:=by kernel_rfl
theorem Nk{b w:U 8}(c:b.n=1024)(d:w.n=72){j:Nat}(a:j<128):gu (fZ b w 0 1024 1024 0 72) (8*j)=aL (iT (fA w 0 72 1024) 0 1024) j:=by
 rw[(alC _).2 j a];refine alD fun i hi=>?_;have h:=T3 b w 0 1024 1024 0 72 (by omega) (by omega) (aV _) (by omega) (by omega) (by omega) (8*j+i) (by omega);rw[cM]at h;exact h
section
variable{P q:Nat}{mem p:BitVec 32}{R Q:U 8}
variable(Y:1≤P)(Z:P≤8)(A:2≤q)(B:q≤64)(em:mem.toNat=4*P*q)(T:p.toNat=P)(S:Q.n=64)(V:R.n=72)(W:∀i,i<64→cF R i=cF Q i)
include Y Z A B em T S V W
theorem U3(M:Nat)(X:U 64)(o:X.n=P*(4*q*128))(r:∀x,aL X x=0#64):∀t,t≤P→∃h b a,iter mZ t ⟨R,yf,X,M,mem,p,0#32⟩=⟨h,b,a,M,mem,p,BitVec.ofNat 32 t⟩∧h.n=72∧(∀i,i<64→cF h i=cF Q i)∧b.n=1024∧a.n=P*(4*q*128)∧
 ∀l j,l<P→j<4*q*128→aL a (l*(4*q*128)+j)=if l<t∧j<256 then aL (AZ fA iT Q (j/128) l) (j%128)else 0#64
 |0,_=>⟨R,yf,X,rfl,V,W,ni,o,fun l j _ _=>by rw[ak (fun h=>absurd h.1 (by omega))];exact r _⟩|t+1,y=>by
  obtain⟨h,b,a,C,D,E,e,F,H⟩:=U3 M X o r t (by omega);have s:t*(4*q)≤8*256:=w6 (by omega) (by omega);have I:(t+1)*(4*q*128)≤P*(4*q*128):=fP _ y;rw[jL]at I;have J:(1#32).toNat=1:=rfl;have K:(0#32).toNat=0:=rfl;have L:(BitVec.ofNat 32 t).toNat=t:=by rw[g7];omega
  have N:(mem/p).toNat=4*q:=by
   rw[rI,em,T,gW 4 P,iV];exact uJ _ (by omega)
  have u:(sC mem p (BitVec.ofNat 32 t)).toNat=t*(4*q):=by
   unfold sC;rw[iE,L,N];exact dO (by omega)
  have v:aS (sC mem p (BitVec.ofNat 32 t)+0#32)=t*(4*q*128):=by
   rw[qd,eB,u,K,←iV t (4*q) 128];generalize t*(4*q)=z at s⊢;omega
  have w:aS (sC mem p (BitVec.ofNat 32 t)+1#32)=t*(4*q*128)+128:=by
   rw[qd,eB,u,J,←iV t (4*q) 128];generalize t*(4*q)=z at s⊢;omega
  have d:=alA (t:=t) (by omega) S D E;have kB:=alB (t:=t) S;obtain⟨nC,O,aa,ab⟩:=U1 (cB h (BitVec.ofNat 32 t)) (wm h b (BitVec.ofNat 32 t)) a M mem p (BitVec.ofNat 32 t) (sC mem p (BitVec.ofNat 32 t)) (by rw[v];omega) 128 (aV _);obtain⟨f,ad,ae,af⟩:=U2 (cR (cB h (BitVec.ofNat 32 t))) (sB h b (BitVec.ofNat 32 t)) nC M mem p (BitVec.ofNat 32 t) (sC mem p (BitVec.ofNat 32 t)) (by rw[w];omega) 128 (aV _);have ex:(C7 h b a M mem p (BitVec.ofNat 32 t)).X=f:=by
   unfold C7 So;rw[show(128-(0:Int)).toNat=128 from rfl,O];simp only;rw[ad]
  have ag:mZ ⟨h,b,a,M,mem,p,BitVec.ofNat 32 t⟩=⟨cR (cB h (BitVec.ofNat 32 t)),sB h b (BitVec.ofNat 32 t),f,M,mem,p,BitVec.ofNat 32 (t+1)⟩:=by
   have:BitVec.ofNat 32 (t+1)=BitVec.ofNat 32 t+1#32:=BitVec.ofNat_add _ _;rw[this,←ex];rfl
  refine⟨_,_,f,by rw[gG,C];exact ag,?_,?_,?_,by rw[ae,aa,F],fun l j ah g=>?_⟩
  ·rw[d,kB];rfl
  ·intro i hi;rw[d,kB,Hs S,ax hi]
  ·rw[Ss];exact e
  ·rw[af,ab,v,w,H l j ah g];by_cases k:l=t
   ·subst k;by_cases ai:128≤j∧j<256
    ·have m:sB h b (BitVec.ofNat 32 l)=fZ (wm h b (BitVec.ofNat 32 l)) (kC Q 1 l) 0 1024 1024 0 72:=by unfold sB;rw[d,kB]
     rw[ax (by omega),ax ⟨by omega,ai.2⟩,show l*(4*q*128)+j-(l*(4*q*128)+128)=j%128 by omega,show j/128=1 by omega,m,Nk (by rw[alE];exact e) rfl (by omega)];rfl
    ·rw[ak (by omega)];by_cases al:j<128
     ·have m:wm h b (BitVec.ofNat 32 l)=fZ b (kC Q 0 l) 0 1024 1024 0 72:=by unfold wm;rw[d]
      rw[ax (by omega),ax ⟨by omega,by omega⟩,show l*(4*q*128)+j-l*(4*q*128)=j%128 by omega,show j/128=0 by omega,m,Nk e rfl (by omega)];rfl
     ·rw[ak (by omega),ak (fun h=>by omega),ak (fun h=>by omega)]
   ·have dB:=LV (c:=0) k g (by omega:0+128≤4*q*128);have aj:=LV (c:=128) k g (by omega:128+128≤4*q*128);rw[gb]at dB;rw[ak aj,ak dB];by_cases c:l<t∧j<256
    ·rw[ax c,ax ⟨by omega,c.2⟩]
    ·rw[ak c,ak (fun h=>c ⟨by omega,h.2⟩)]
theorem U4:m9 P q (ji R mem p) (fun l=>pG fA iT Q (4*q) l)∧rF P q 0 2 (ji R mem p):=by
 have m:(o9 mem.toNat).n=P*(4*q*128):=by rw[Ld,em,gW 4 P,iV P,iV P]
 have o:∀d,aL (o9 mem.toNat) d=0#64:=fun d=>by
  show(List.replicate _ 0#64).getD d 0#64=_;rw[dY,mz];split<;>rfl
 obtain⟨h,b,r,s,x,y,C,t,e⟩:=U3 Y Z A B em T S V W mem.toNat (o9 mem.toNat) m o P (aV _);have u:ji R mem p=r:=by
  unfold ji ua;rw[show p.toNat-(0#32).toNat=P from by rw[T];rfl,s]
 rw[u];have v:∀l j,aL (pG fA iT Q (4*q) l) j=if j<256 then aL (AZ fA iT Q (j/128) l) (j%128)else 0#64:=fun l j=>by
  have z:(U.zero 64 (4*q*128)).n=4*q*128:=rfl;have f:dM 0=0:=rfl;have g:dM 1=128:=rfl;unfold pG;rw[AN _ (by rw[wA,z,g];omega),AN _ (by rw[z,f];omega),f,g];by_cases k:128≤j∧j<128+128
  ·rw[ax k,ax (by omega),show j/128=1 by omega,show j-128=j%128 by omega]
  ·rw[ak k];by_cases D:j<128
   ·rw[ax (by omega),ax (by omega),show j/128=0 by omega,show j-0=j%128 by omega]
   ·rw[ak (by omega),ak (by omega)]
    show(List.replicate _ (0:BitVec 64)).getD j 0#64=_;rw[dY,mz];split<;>rfl
 refine⟨⟨t,fun l a=>rfl,fun l j a w=>?_⟩,fun _ l j a h1 h2=>?_⟩
 ·rw[e l j a w,v];by_cases c:j<256
  ·rw[ax ⟨a,c⟩,ax c]
  ·rw[ak (fun h=>c h.2),ak c]
 ·rw[e l j a h2,ak (fun h=>by omega)]
end
end
section
open Go.ay
variable [aR][aG][bl]
variable{p:BitVec 8}{m mem:BitVec 32}
def A7(p:BitVec 8):(p.setWidth 32).toNat=p.toNat:=by
 rw[kH];have:=p.isLt;omega
def U5(h1:1≤p.toNat)(b:p.toNat≤8):(mm m p).toNat=4*p.toNat*(m.toNat/(4*p.toNat)):=by
 have a:(4#32*p.setWidth 32).toNat=4*p.toNat:=by
  rw[iE,A7,show(4#32).toNat=4 from rfl];omega
 have:=Ws m.toNat (4*p.toNat);unfold mm;rw[iE,rI,a,gW (4*p.toNat)];have:=m.isLt;exact dO (by omega)
def Nl(a:p.toNat≤8):(8#32*p.setWidth 32).toNat=8*p.toNat:=by
 rw[iE,A7,show(8#32).toNat=8 from rfl];omega
def alF{q:Nat}(h1:1≤p.toNat)(h:mem.toNat=4*p.toNat*q):(m7 mem (p.setWidth 32)).toNat=q:=by
 unfold m7 s0;rw[rI,rI,A7,h,show(4#32).toNat=4 from rfl,gW 4,iV,uJ _ (by omega),uJ _ (by omega)]
def U6(e:m.toNat≤256)(h1:1≤p.toNat)(d:p.toNat≤8):∃q,2≤q∧q≤64∧(jX m p).toNat=4*p.toNat*q∧(m7 (jX m p) (p.setWidth 32)).toNat=q:=by
 suffices h:∃q,2≤q∧q≤64∧(jX m p).toNat=4*p.toNat*q from let⟨q,a,b,c⟩:=h;⟨q,a,b,c,alF h1 c⟩
 unfold jX;rw[Nl d,U5 h1 d];split
 ·exact⟨2,by omega,by omega,by rw[Nl d];omega⟩
 ·rename_i h;refine⟨m.toNat/(4*p.toNat),?_,?_,U5 h1 d⟩
  ·refine NZ fun g=>h ?_;have:4*p.toNat*(m.toNat/(4*p.toNat))≤4*p.toNat*1:=Nat.mul_le_mul_left _ (by omega);omega
  ·exact Nat.div_le_of_le_mul (by omega)
def U7(h:U 8)(mem p:BitVec 32):(ji h mem p).n=mem.toNat*128:=by
 have a:∀r (d:wo),(iter mZ r d).X.n=d.X.n:=by
  intro r
  induction r with
  |zero=>exact fun d=>rfl|succ r c=>
   intro d;obtain⟨h,b,X,M,mem,p,e⟩:=d;exact(c (mZ ⟨h,b,X,M,mem,p,e⟩)).trans (by dsimp only[mZ];exact Sr ..)
 unfold ji ua;rw[a];exact Ld _
def alG(m:Int)(mem tm p:BitVec 32)(X:U 64):(jG m mem tm p X).n=X.n:=DT ..
def U8{h:U 8}{t:BitVec 32}{k:BitVec 32}{d:Int}{b i:Bool}(e:1≤t.toNat∧t.toNat≤1000000∧m.toNat≤256∧1≤p.toNat∧p.toNat≤8∧1≤k.toNat)(hi:i=true)(f:decide ((mm m p).toNat<(8#32*p.setWidth 32).toNat)=b)(g:mem=jX m p):
 ∀j∈M8 ji jG h t m mem p k d b i,j=true:=by
 obtain⟨u,v,l,bf,n,o⟩:=e;obtain⟨q,w,x,c,r⟩:=U6 l bf n;subst g;have a:=A7 p;have h2:2*p.toNat≤4*p.toNat*q:=ga (by omega) (Ee _ (by omega));refine aA (bu ⟨(alG ..).trans (U7 ..),rfl,?_,by omega,o⟩) (aA (bu ⟨rfl,by omega,by omega,by omega,by omega,by rw[r,a,c],by omega,U7 ..⟩) (aA (bu ⟨rfl,?_⟩) (aA (by simp only[f,beq_self_eq_true]) (aA ?_ (aA hi (aA ?_ (aA ?_ aX)))))))
 ·rw[c,a];exact h2
 ·show 2*(p.setWidth 32).toNat≤(jX m p).toNat
  rw[c,a];exact h2
 ·rw[bne_iff_ne];intro s;have:=iX BitVec.toNat s;rw[iE,a]at this;simp at this;omega
 ·rw[eT];exact j4 (by show¬p.toNat<1;omega)
 ·rw[eT];exact j4 (by show¬t.toNat<1;omega)
def alH(h:(mm m p).toNat<(8#32*p.setWidth 32).toNat):8#32*p.setWidth 32=jX m p:=by unfold jX;rw[ax h]
def alI(h:¬(mm m p).toNat<(8#32*p.setWidth 32).toNat):mm m p=jX m p:=by unfold jX;rw[ak h]
def alJ(s:br 33 m8.spec):br 26 wQ.spec:=by
 refine wQ.ok (dn (aln s) (cL _)) alo ?_;rintro⟨a,b,e,f,g,i,t,m,p,k,j⟩ d;have d:=bg d;obtain⟨l,n,o,q,r⟩:=d;by_cases c:(mm m p).toNat<(8#32*p.setWidth 32).toNat
 ·have h:=alp wP s3 yl ji jG (fun X M mem p kl=>(ie (dJ X M mem p kl)).X) kD a b e f g i t m p k j;rw[alH c]at h;exact⟨_,_,_,h,U8 r (bu ⟨l,n,o,q⟩) (bu c) rfl⟩
 ·have h:=alq wP s3 yl ji jG (fun X M mem p kl=>(ie (dJ X M mem p kl)).X) kD a b e f g i t m p k j;rw[alI c]at h;exact⟨_,_,_,h,U8 r (bu ⟨l,n,o,q⟩) (j4 c) rfl⟩
end
section
open Go.ay
variable [aR][aG][bl]
variable{P:Nat}{m:BitVec 32}{p:BitVec 8}
def alK(a:U 8):(ow a).l=(List.range 72).map fun i=>a.l.getD i 0#8:=by kernel_rfl
def alL(a:U 8){i:Nat}(h:i<72):cF (ow a) i=cF a i:=by
 unfold cF;rw[alK];simp[dY,h]
def Nm(a:U 8):(ow a).n=72:=by kernel_rfl
def alM{ke:Int}(h1:1≤P)(u:P≤8)(v:0≤ke∧ke≤256)(d:p.toNat=P)(em:(m.toNat:Int)=ke):∃q,2≤q∧q≤64∧(jX m p).toNat=4*P*q∧jE P ke=((4*q:Nat):Int):=by
 obtain⟨q,g,h,a,w⟩:=U6 (m:=m) (p:=p) (by omega) (by omega) (by omega);rw[d]at a;refine⟨q,g,h,a,?_⟩;have i:(4#32*p.setWidth 32).toNat=4*P:=by
  have j:(4#32).toNat=4:=rfl;rw[iE,A7,j,d];omega
 have e:(mm m p).toNat=m.toNat/(4*P)*(4*P):=by
  have:m.toNat/(4*P)*(4*P)≤m.toNat:=Ws _ _;unfold mm;rw[iE,rI,i];exact dO (by omega)
 have f:(8#32*p.setWidth 32).toNat=8*P:=by rw[Nl (by omega),d]
 have k:∃b:Nat,mj P ke=(b:Int)∧b/(4*P)=q:=by
  unfold mj;by_cases c:ke<8*(P:Int)
  ·refine⟨8*P,by rw[ax (bu c)];omega,?_⟩;have l:(mm m p).toNat<(8#32*p.setWidth 32).toNat:=by
    have:m.toNat/(4*P)*(4*P)≤m.toNat:=Ws _ _;rw[e,f];omega
   unfold jX at a;rw[ax l,f]at a;have n:8*P=4*P*2:=by omega
   rw[n]at a⊢;rw[uJ _ (by omega)];exact an8 (by omega) a
  ·refine⟨m.toNat,by rw[ak (by simpa using c)];omega,?_⟩;have o:2≤m.toNat/(4*P):=(Bs (by omega)).2 (by omega);have x:2*(4*P)≤m.toNat/(4*P)*(4*P):=fP _ o;have r:¬(mm m p).toNat<(8#32*p.setWidth 32).toNat:=by rw[e,f];omega
   unfold jX at a;rw[ak r,e,gW]at a;exact an8 (by omega) a
 obtain⟨b,w1,s⟩:=k;unfold jE wL;have t:(b:Int).tdiv ((4*P:Nat):Int)=(q:Int):=by rw[pK (by omega),←Int.natCast_ediv,s]
 rw[w1,show(4*(P:Int))=((4*P:Nat):Int) by omega,t,←Bu,pK (by omega),←Int.natCast_ediv];congr 1;rw[gW 4 P,Nat.mul_left_comm];rw[uJ _ (by omega),gW]
def alN{a b c e:U 8}{bD na bC nb bO bG bW ne:Nat}(aN:Int){T fN:Nat}{ke:Int}{k:BitVec 32}(v:bD+na≤a.n)(x:na≤1000000)(y:bC+nb≤b.n)(z:nb≤1000000)(A:bO+bG≤c.n)(C:bG≤1000000)(D:bW+ne≤e.n)(E:ne≤1000000)
 (F:T≤4) (H:0≤ke∧ke≤256) (d:1≤P) (f:P≤8) (I:1≤fN) (J:fN≤1024) (s:p.toNat=P) (em:m=BitVec.ofInt 32 ke) (t:k=BitVec.ofInt 32 (fN:Int)):
 ∀i,i<fN→cF (Hq a b c e bD na bC nb bO bG bW ne (BitVec.ofInt 32 (T:Int)) m p k aN) i=cF (ou a b c e bD na bC nb bO bG bW ne aN T ke fN P) i:=by
 have K:(m.toNat:Int)=ke:=by rw[em,qw];omega
 have L:k.toNat=fN:=by rw[t,qw];omega
 have M:(BitVec.ofInt 32 (T:Int)).toNat=T:=by rw[qw];omega
 obtain⟨q,g,j,o,u⟩:=alM d f H s K;have h:(p.setWidth 32).toNat=P:=by rw[A7,s]
 have N:p.setWidth 32=BitVec.ofInt 32 (P:Int):=mo (by rw[h,qw];omega);have O:(rC lG a b c e bD na bC nb bO bG bW ne aN T ke fN P).n=64:=Uq ..;have Q:=aly a b c e bD na bC nb bO bG bW ne (BitVec.ofInt 32 (T:Int)) (BitVec.ofInt 32 ke) (P:Int) (fN:Int) aN v x y z A C D E;have R:∀i,i<64→cF (ow (wP a b c e bD na bC nb bO bG bW ne (BitVec.ofInt 32 (T:Int)) m (p.setWidth 32) k aN)) i=cF (rC lG a b c e bD na bC nb bO bG bW ne aN T ke fN P) i:=fun i hi=>by
  rw[alL _ (by omega),N,em,t];exact Q i hi
 obtain⟨S,V⟩:=U4 d f g j o h O (Nm _) R;have W:=ak7 (m:=aN) d f g j o M h F V S a b c e (fN:Int) (iC ke P);have X:=alw (kl:=k) d f g j o h L I J W (jX m p).toNat a b c e aN (T:Int) (m6 P a b c e aN T ((4*q:Nat):Int) fN (iC ke P) (fun l=>pG fA iT (rC lG a b c e bD na bC nb bO bG bW ne aN T ke fN P) (4*q) l)).len (jW a b c e bD na bC nb bO bG bW ne aN T ke fN P).len (iC ke P);intro i hi;have Y:Hq a b c e bD na bC nb bO bG bW ne (BitVec.ofInt 32 (T:Int)) m p k aN=kD (jG aN (jX m p) (BitVec.ofInt 32 (T:Int)) (p.setWidth 32) (ji (ow (wP a b c e bD na bC nb bO bG bW ne (BitVec.ofInt 32 (T:Int)) m (p.setWidth 32) k aN)) (jX m p) (p.setWidth 32))) (jX m p).toNat (jX m p) (p.setWidth 32) k:=rfl;have aa:uz a b c e bD na bC nb bO bG bW ne aN T ke fN P=fun l=>pG fA iT (rC lG a b c e bD na bC nb bO bG bW ne aN T ke fN P) (4*q) l:=by
  unfold uz G4;rw[u];rfl
 have ab:(jW a b c e bD na bC nb bO bG bW ne aN T ke fN P).Z=(qm P a b c e aN T ((4*q:Nat):Int) (iC ke P) P (m6 P a b c e aN T ((4*q:Nat):Int) fN (iC ke P) (fun l=>pG fA iT (rC lG a b c e bD na bC nb bO bG bW ne aN T ke fN P) (4*q) l)).len (m6 P a b c e aN T ((4*q:Nat):Int) fN (iC ke P) (fun l=>pG fA iT (rC lG a b c e bD na bC nb bO bG bW ne aN T ke fN P) (4*q) l)).r je 0).Z:=by
  unfold jW A1;rw[aa,u]
 obtain⟨ad,af⟩:=Nb (p:=P) (a:=a) (b:=b) (c:=c) (e:=e) (aN:=aN) (ps:=(T:Int)) (nn:=iC ke P) (r0:=(m6 P a b c e aN T ((4*q:Nat):Int) fN (iC ke P) (fun l=>pG fA iT (rC lG a b c e bD na bC nb bO bG bW ne aN T ke fN P) (4*q) l)).r) g P (m6 P a b c e aN T ((4*q:Nat):Int) fN (iC ke P) (fun l=>pG fA iT (rC lG a b c e bD na bC nb bO bG bW ne aN T ke fN P) (4*q) l)).len (m6 P a b c e aN T ((4*q:Nat):Int) fN (iC ke P) (fun l=>pG fA iT (rC lG a b c e bD na bC nb bO bG bW ne aN T ke fN P) (4*q) l)).r je 0 (by omega) DO (fun _ _=>rfl) (fun w _=>Nf w);have ae:ou a b c e bD na bC nb bO bG bW ne aN T ke fN P=fA (lI a b c e (jW a b c e bD na bC nb bO bG bW ne aN T ke fN P).len (jW a b c e bD na bC nb bO bG bW ne aN T ke fN P).Z).B 0 (lI a b c e (jW a b c e bD na bC nb bO bG bW ne aN T ke fN P).len (jW a b c e bD na bC nb bO bG bW ne aN T ke fN P).Z).k fN:=rfl;rw[Y,ae,ab,(UT a b c e _ _ ad).2.1];exact X i hi
end
section
open Go.ay
variable{Q:Type}
def bx(a:BitVec 64)(k:BitVec 64→Q):Q:=Nat.rec (motive:=fun _=>Q) (k 0#64) (fun n _=>k (BitVec.ofNat 64 (n+1))) a.toNat
def U9(a:BitVec 64)(k:BitVec 64→Q):bx a k=k a:=by
 have h:BitVec.ofNat 64 a.toNat=a:=by simp
 unfold bx;generalize a.toNat=n at h;subst h;cases n<;>rfl
def yS{Q:Type}:List (BitVec 64)→(List (BitVec 64)→Q)→Q|[],k=>k []|a::r,k=>bx a fun b=>yS r fun c=>k (b::c)
def Nn{Q:Type}:∀(l:List (BitVec 64)) (k:List (BitVec 64)→Q),yS l k=k l
 |[],_=>rfl|a::r,k=>by
  show bx a (fun b=>yS r fun c=>k (b::c))=_;rw[U9,Nn r]
def uA(h:bq)(k:bq→Q):Q:=
 bx h.dR fun a=>bx h.ep fun b=>bx h.er fun c=>bx h.ew fun d=>bx h.eZ fun e=>bx h.e4 fun f=>bx h.e5 fun g=>bx h.e6 fun i=>k ⟨a,b,c,d,e,f,g,i⟩
def No(h:bq)(k:bq→Q):uA h k=k h:=by
 unfold uA;simp only[U9]
def Np(h:bq):U 64:=U.of [h.dR,h.ep,h.er,h.ew,h.eZ,h.e4,h.e5,h.e6,0#64,0#64,0#64,0#64,0#64,0#64,0#64,0#64]
def s4(h:bq):bq:=cr (bU 64) 64#64 0#64 Mu (Np h)
def jq:Nat→bq→List (BitVec 64)|0,c=>[c.dR,c.ep,c.er,c.ew,c.eZ,c.e4,c.e5,c.e6]|n+1,c=>c.dR::c.ep::c.er::c.ew::jq n (s4 c)
def D2{Q:Type}:Nat→bq→(List (BitVec 64)→Q)→Q|0,c,k=>k [c.dR,c.ep,c.er,c.ew,c.eZ,c.e4,c.e5,c.e6]|n+1,c,k=>uA (s4 c) fun d=>D2 n d fun r=>k (c.dR::c.ep::c.er::c.ew::r)
def Va{Q:Type}:∀(n:Nat) (c:bq) (k:List (BitVec 64)→Q),D2 n c k=k (jq n c)
 |0,_,_=>rfl|n+1,c,k=>by
  show uA (s4 c) (fun d=>D2 n d fun r=>k (c.dR::c.ep::c.er::c.ew::r))=_;rw[No,Va n];rfl
def alO{w:Nat}(v:U w):U.of v.l=v:=by
 obtain⟨n,l,h⟩:=v;subst h;rfl
def Ht{Q:Type}:List (List Nat)→List (BitVec 64)→(List (BitVec 64)→Q)→Q|[],t,k=>k t|a::r,t,k=>yS (o5 a (U.of t)).l fun u=>Ht r u k
def Vb{Q:Type}:∀(l:List (List Nat)) (t:List (BitVec 64)) (k:List (BitVec 64)→Q),Ht l t k=k (fX l (U.of t)).l
 |[],_,_=>rfl|a::r,t,k=>by
  show yS (o5 a (U.of t)).l (fun u=>Ht r u k)=_;rw[Nn,Vb r,alO];rfl
def pH:List (BitVec 64)→List (BitVec 64)→List (BitVec 64)|a::r,b::c=>(a^^^b)::pH r c|_,_=>[]
def rG(b c:List (BitVec 64)):List (BitVec 64):=pH (pH b c) (fX hU (U.of (pH b c))).l
def qB(b c:List (BitVec 64))(k:List (BitVec 64)→Q):Q:=
 yS (pH b c) fun t=>Ht hU t fun u=>yS (pH t u) k
def Vd(b c:List (BitVec 64))(k:List (BitVec 64)→Q):qB b c k=k (rG b c):=by
 unfold qB rG;simp only[Nn,Vb]
def gJ:List (BitVec 64):=List.replicate 128 0#64
def gK(a:List (List (BitVec 64)))(b c:Nat):List (List (BitVec 64)):=a++[rG (a.getD b gJ) (a.getD c gJ)]
def wS(a:List (List (BitVec 64)))(b c:Nat)(k:List (List (BitVec 64))→Q):Q:=qB (a.getD b gJ) (a.getD c gJ) fun r=>k (a++[r])
def alP(a:List (List (BitVec 64)))(b c:Nat)(k:List (List (BitVec 64))→Q):wS a b c k=k (gK a b c):=by
 unfold wS gK;rw[Vd]
def fO(b:List (List (BitVec 64)))(a i:Nat):BitVec 64:=(b.getD a gJ).getD i 0#64
def s5:List (BitVec 64):=rG (rG (0#64::0#64::1#64::8#64::1#64::2#64::1#64::List.replicate 121 0#64) gJ) gJ
def ej(a m:BitVec 64):Nat:=((0#64+m-(((((a&&&4294967295#64)*(a&&&4294967295#64))>>>32)*m)>>>32+1#64))%8#64).toNat
def Hu(e f:List (BitVec 64)):List (List (BitVec 64)):=
 let g:=gK [e,f] 1 (ej (s5.getD 0 0#64) 1#64);let a:=gK g 2 (ej (s5.getD 1 0#64) 2#64);let b:=gK a 3 (ej (fO a 3 0) 3#64);let c:=gK b 4 (ej (fO b 4 0) 4#64);let d:=gK c 5 (ej (fO c 5 0) 5#64)
 gK d 6 (ej (fO d 6 0) 6#64)
def Nq(c d:List (BitVec 64))(k:List (List (BitVec 64))→Q):Q:=
 qB (0#64::0#64::1#64::8#64::1#64::2#64::1#64::List.replicate 121 0#64) gJ fun a=>
 qB a gJ fun a=>
 wS [c,d] 1 (ej (a.getD 0 0#64) 1#64) fun b=>
 wS b 2 (ej (a.getD 1 0#64) 2#64) fun b=>
 wS b 3 (ej (fO b 3 0) 3#64) fun b=>
 wS b 4 (ej (fO b 4 0) 4#64) fun b=>
 wS b 5 (ej (fO b 5 0) 5#64) fun b=>
 wS b 6 (ej (fO b 6 0) 6#64) k
def alQ(a b:List (BitVec 64))(k:List (List (BitVec 64))→Q):Nq a b k=k (Hu a b):=by
 unfold Nq Hu s5;simp only[Vd,alP]
def A8(r:List (BitVec 64))(i:Nat):BitVec 8:=(r.getD (i/8) 0#64>>>(8*(i%8))).setWidth 8
def A9(r:List (BitVec 64))(i:Nat):BitVec 8:=if i<4 then(gN 4).l.getD i 0#8 else A8 r (i-4)
def Hv{Q:Type}(P:Nat→BitVec 8):Nat→(bq→Q)→Q|0,k=>k (bU 4)|n+1,k=>Hv P n fun h=>uA (cr h (BitVec.ofNat 64 (128*(n+1))) 0#64 0#64 (m4 fun i=>P (128*n+i))) k
def Ve{Q:Type}(P:Nat→BitVec 8):∀(n:Nat) (k:bq→Q),Hv P n k=k (iR (bU 4) P n)
 |0,_=>rfl|n+1,k=>by
  show Hv P n (fun h=>uA (cr h (BitVec.ofNat 64 (128*(n+1))) 0#64 0#64 (m4 fun i=>P (128*n+i))) k)=_;rw[Ve P n,No];rfl
def alR(h:bq)(P:Nat→BitVec 8)(N k:Nat):bq:=cr h (BitVec.ofNat 64 N) 0#64 Mu (m4 fun i=>if i<N-128*k then P (128*k+i)else 0#8)
def Nr(a b:bq):BitVec 8:=k8 (eP (bU 4) (A9 ((Hu (jq 30 a) (jq 30 b)).getD 7 gJ)) 1028) 0
def Hw(a b:bq):BitVec 64:=
 uA a fun a=>uA b fun b=>D2 30 a fun d=>D2 30 b fun e=>Nq d e fun c=>Hv (A9 (c.getD 7 gJ)) 8 fun h=>
 uA (alR h (A9 (c.getD 7 gJ)) 1028 8) fun h=>h.dR
def Vf(a b:bq):(Hw a b).setWidth 8=Nr a b:=by
 unfold Hw Nr;simp only[No,Va,alQ,Ve];rfl
end
section
open Go.ay
variable [aR][aG][bl]
variable{P D:Type}
def uB(a:BitVec 64):jd ((a>>>0).setWidth 8) ((a>>>8).setWidth 8) ((a>>>16).setWidth 8) ((a>>>24).setWidth 8) ((a>>>32).setWidth 8) ((a>>>40).setWidth 8) ((a>>>48).setWidth 8) ((a>>>56).setWidth 8)=a:=by
 refine an3 fun i hi=>?_;unfold jd;simp only[BitVec.getLsbD_or,BitVec.getLsbD_setWidth,an4,an5];by_cases h1:i<8
 ·simp[h1,show i<64 by omega,show i<16 by omega,show i<24 by omega,show i<32 by omega,show i<40 by omega,show i<48 by omega,show i<56 by omega]
 by_cases h2:i<16
 ·simp[h1,h2,show i<64 by omega,show i<24 by omega,show i<32 by omega,show i<40 by omega,show i<48 by omega,show i<56 by omega,show i-8<8 by omega,show i-8<64 by omega,show 8+(i-8)=i by omega]
 by_cases h3:i<24
 ·simp[h1,h2,h3,show i<64 by omega,show i<32 by omega,show i<40 by omega,show i<48 by omega,show i<56 by omega,show¬i-8<8 by omega,show i-16<8 by omega,show i-16<64 by omega,show 16+(i-16)=i by omega]
 by_cases h4:i<32
 ·simp[h1,h2,h3,h4,show i<64 by omega,show i<40 by omega,show i<48 by omega,show i<56 by omega,show¬i-8<8 by omega,show¬i-16<8 by omega,show i-24<8 by omega,show i-24<64 by omega,show 24+(i-24)=i by omega]
 by_cases b:i<40
 ·simp[h1,h2,h3,h4,b,show i<64 by omega,show i<48 by omega,show i<56 by omega,show¬i-8<8 by omega,show¬i-16<8 by omega,show¬i-24<8 by omega,show i-32<8 by omega,show i-32<64 by omega,show 32+(i-32)=i by omega]
 by_cases c:i<48
 ·simp[h1,h2,h3,h4,b,c,show i<64 by omega,show i<56 by omega,show¬i-8<8 by omega,show¬i-16<8 by omega,show¬i-24<8 by omega,show¬i-32<8 by omega,show i-40<8 by omega,show i-40<64 by omega,show 40+(i-40)=i by omega]
 by_cases d:i<56
 ·simp[h1,h2,h3,h4,b,c,d,show i<64 by omega,show¬i-8<8 by omega,show¬i-16<8 by omega,show¬i-24<8 by omega,show¬i-32<8 by omega,show¬i-40<8 by omega,show i-48<8 by omega,show i-48<64 by omega,show 48+(i-48)=i by omega]
 ·simp[h1,h2,h3,h4,b,c,d,hi,show¬i-8<8 by omega,show¬i-16<8 by omega,show¬i-24<8 by omega,show¬i-32<8 by omega,show¬i-40<8 by omega,show¬i-48<8 by omega,show i-56<8 by omega,show i-56<64 by omega,show 56+(i-56)=i by omega]
def yT(f:Nat→P)(n i:Nat)(d:P)(h:i<n):((List.range n).map f).getD i d=f i:=by
 simp[dY,h]
def wd(h:bq)(j:Nat):BitVec 64:=(Np h).l.getD j 0#64
def alS(h:bq)(i:Nat)(hi:i<64):k8 h i=(wd h (i/8)>>>(8*(i%8))).setWidth 8:=by
 have b:(List.range 64).map (k8 h)=(List.range 64).map fun i=>(wd h (i/8)>>>(8*(i%8))).setWidth 8:=rfl;have a:=yT (k8 h) 64 i 0#8 hi;rw[b,yT _ _ _ _ hi]at a;exact a.symm
def alT(h:bq):eP (bU 64) (k8 h) 64=s4 h:=by
 have a:(m4 fun i=>if i<64-128*aP 64 then k8 h (128*aP 64+i)else 0#8)=Np h:=by
  show U.of [_,_,_,_,_,_,_,_,_,_,_,_,_,_,_,_]=U.of _;congr 1;exact congr (iX List.cons (uB h.dR)) (congr (iX List.cons (uB h.ep)) (congr (iX List.cons (uB h.er)) (congr (iX List.cons (uB h.ew)) (congr (iX List.cons (uB h.eZ)) (congr (iX List.cons (uB h.e4)) (congr (iX List.cons (uB h.e5)) (congr (iX List.cons (uB h.e6)) (by kernel_rfl))))))))
 unfold eP s4;rw[a];rfl
def Vg(a:Nat)(w:U 8)(b c:Nat):∀k,mh a w b c k=k8 (iter s4 k (eP (bU 64) (iS a w b) (4+c)))
 |0=>rfl|k+1=>by
  rw[gG]
  show k8 (eP (bU 64) (mh a w b c k) 64)=_;rw[Vg a w b c k,alT]
def alU(c:bq)(j:Nat)(h:j<8):(jq 0 c).getD j 0#64=wd c j:=by
 have b:(List.range 8).map (fun j=>(jq 0 c).getD j 0#64)=(List.range 8).map (wd c):=rfl;have a:=yT (fun j=>(jq 0 c).getD j 0#64) 8 j 0#64 h;rw[b,yT _ _ _ _ h]at a;exact a.symm
def alV(n:Nat)(c:bq)(j:Nat)(h:j<4):(jq (n+1) c).getD j 0#64=wd c j:=by
 have b:(List.range 4).map (fun j=>(jq (n+1) c).getD j 0#64)=(List.range 4).map (wd c):=rfl;have a:=yT (fun j=>(jq (n+1) c).getD j 0#64) 4 j 0#64 h;rw[b,yT _ _ _ _ h]at a;exact a.symm
def alW(f:D→D)(n:Nat)(d:D):iter f (n+1) d=iter f n (f d):=rfl
def Vh(f:D→D)(d:D):iter f 0 d=d:=rfl
def alX(n:Nat)(c:bq):jq (n+1) c=c.dR::c.ep::c.er::c.ew::jq n (s4 c):=rfl
def alY(a b c d:P)(l:List P)(j:Nat)(e:P):(a::b::c::d::l).getD (j+4) e=l.getD j e:=rfl
def alZ(n:Nat):∀(c:bq) (j:Nat),j<4*n+8→(jq n c).getD j 0#64=wd (iter s4 (min (j/4) n) c) (j-4*min (j/4) n):=by
 induction n with
 |zero=>
  intro c j h;rw[Wq,Br,gE,alU c j (by omega),Vh]
 |succ n a=>
  intro c j h;by_cases h4:j<4
  ·rw[alV n c j h4,show min (j/4) (n+1)=0 by omega,Br,gE,Vh]
  ·obtain⟨j,rfl⟩:∃k,j=k+4:=⟨j-4,by omega⟩;rw[alX,alY,a (s4 c) j (by omega),show min ((j+4)/4) (n+1)=min (j/4) n+1 by omega,show j+4-4*(min (j/4) n+1)=j-4*min (j/4) n by omega,alW]
def Ns:∀(n:Nat) (c:bq),(jq n c).length=4*n+8
 |0,_=>rfl|n+1,c=>by
  show(jq n (s4 c)).length+1+1+1+1=_;rw[Ns n];omega
def wT(v w:U 8)(A:v.n=1024)(B:72≤w.n)(i:Nat)(hi:i<1024):(fZ v w 0 1024 1024 0 72).l.getD i 0#8=A8 (jq 30 (eP (bU 64) (iS 1024 w 0) (4+72))) i:=by
 have r:A8 (jq 30 (eP (bU 64) (iS 1024 w 0) (4+72))) i=mh 1024 w 0 72 (min (i/32) 30) (i-32*min (i/32) 30):=by
  unfold A8;rw[alZ 30 _ _ (by omega),Vg,alS _ _ (by omega),show i/8/4=i/32 by omega,show(i-32*min (i/32) 30)/8=i/8-4*min (i/32) 30 by omega,show(i-32*min (i/32) 30)%8=i%8 by omega]
 rw[r];unfold fZ;rw[ak (by omega)];obtain⟨c,d⟩:=ME v w 0 1024 1024 0 72 (by omega) (by omega) (by omega) (by omega) (by omega) 29 (by omega);have e:=AB v w 0 1024 1024 0 72 29;have s:bH v w 0 1024 1024 0 72=iter l7 29 (qa v w 0 1024 1024 0 72):=rfl;rw[s];generalize iter l7 29 (qa v w 0 1024 1024 0 72)=D at c d e;obtain⟨v',w',b,C,E,F,f,ag,H,g,I,J,N⟩:=D;obtain⟨t,j,u,k,m,o,p,x,y,z,q⟩:=e;simp only at t j u k m o p x y z q c d;subst k m o p q
 show(if 0<((1024:Nat):Int).tmod 64 then _ else _:U 8).l.getD i 0#8=_;rw[ak (by decide)]
 show(e8 (gB (jh ⟨bU 64,0#64,f,0⟩ b 0 64)) v' g 64).l.getD i 0#8=_;rw[yL _ _ _ _ _ (by omega) (by omega) (by omega) (by omega),GV 64 f b _ j c];by_cases h:i<960
 ·have a:=d i (by omega);rw[cM]at a;rw[ak (by omega),a,show min (i/32) 30=i/32 by omega,show i-32*(i/32)=i%32 by omega]
 ·rw[ax (by omega),show min (i/32) 30=30 by omega,show g=960 by omega];rfl
end
section
open Go.ay
variable [aR][aG][bl]
def al0{w:Nat}(v:U w)(l:List (BitVec w))(h:v.n=l.length)(b:∀i,i<v.n→v.l.getD i 0=l.getD i 0):v=U.of l:=by
 obtain⟨n,m,c⟩:=v;simp only at h b;have d:m=l:=by
  refine Eh (by omega) fun i h1 h2=>?_;have a:=b i (by omega);simpa[dY,h1,h2]using a
 subst d;subst c;rfl
def al1(v w:U 8)(a:v.n=1024)(b:72≤w.n)(j:Nat)(c:j<128):gu (fZ v w 0 1024 1024 0 72) (8*j)=(jq 30 (eP (bU 64) (iS 1024 w 0) (4+72))).getD j 0#64:=by
 unfold gu;rw[wT v w a b _ (by omega),wT v w a b _ (by omega),wT v w a b _ (by omega),wT v w a b _ (by omega),wT v w a b _ (by omega),wT v w a b _ (by omega),wT v w a b _ (by omega),wT v w a b _ (by omega)];generalize jq 30 (eP (bU 64) (iS 1024 w 0) (4+72))=r;unfold A8;rw[show(8*j+0)/8=j by omega,show(8*j+1)/8=j by omega,show(8*j+2)/8=j by omega,show(8*j+3)/8=j by omega,show(8*j+4)/8=j by omega,show(8*j+5)/8=j by omega,show(8*j+6)/8=j by omega,show(8*j+7)/8=j by omega,show 8*((8*j+0)%8)=0 by omega,show 8*((8*j+1)%8)=8 by omega,show 8*((8*j+2)%8)=16 by omega,show 8*((8*j+3)%8)=24 by omega,show 8*((8*j+4)%8)=32 by omega,show 8*((8*j+5)%8)=40 by omega,show 8*((8*j+6)%8)=48 by omega,show 8*((8*j+7)%8)=56 by omega,uB]
structure Rows(X:U 64)(R:List (List (BitVec 64)))(a:Nat):Prop where
 n:X.n=1024
 len:R.length=a
 row:∀d,(R.getD d gJ).length=128
 get:∀d i,d<8→i<128→X.l.getD (128*d+i) 0#64=fO R d i
def Nt{b:Type}(n i:Nat)(a:b):(List.replicate n a).getD i a=a:=by
 simp only[dY,mz];split<;>rfl
def D3:∀(a b:List (BitVec 64)),a.length=b.length→(pH a b).length=a.length
 |[],[],_=>rfl|[],_::_,h=>by cases h
 |_::_,[],h=>by cases h
 |a::r,b::c,h=>by
  show(pH r c).length+1=r.length+1;rw[D3 r c (by simpa using h)]
def Hx:∀(a b:List (BitVec 64)) (i:Nat),a.length=b.length→(pH a b).getD i 0#64=a.getD i 0#64^^^b.getD i 0#64
 |[],[],i,_=>by simp[pH]|[],_::_,_,h=>by cases h
 |_::_,[],_,h=>by cases h
 |a::r,b::c,0,h=>rfl|a::r,b::c,i+1,h=>Hx r c i (by simpa using h)
def Hy(a:List (List (BitVec 64)))(r:List (BitVec 64))(d:Nat):(a++[r]).getD d gJ=if d=a.length then r else a.getD d gJ:=by
 simp only[dY];by_cases h:d<a.length
 ·rw[gV h,ak (by omega)]
 ·rw[gL (by omega)];by_cases h2:d=a.length
  ·rw[ax h2,h2,Wr];rfl
  ·rw[ak h2];obtain⟨m,b⟩:∃m,d-a.length=m+1:=⟨d-a.length-1,by omega⟩;rw[b,dz (by omega:a.length≤d)];rfl
def Vi(t:List (BitVec 64))(h:t.length=128):(fX hU (U.of t)).l.length=128:=by
 rw[(fX hU (U.of t)).h,x4];exact h
def Vj(a b:List (BitVec 64))(c:a.length=128)(d:b.length=128):(rG a b).length=128:=by
 unfold rG;have h:=D3 a b (by omega);rw[D3 _ _ (by rw[Vi _ (by omega)];omega)];omega
def al2(a b:List (BitVec 64))(i:Nat)(c:a.length=128)(d:b.length=128):(rG a b).getD i 0#64=(a.getD i 0#64^^^b.getD i 0#64)^^^(fX hU (U.of (pH a b))).l.getD i 0#64:=by
 unfold rG;have h:=D3 a b (by omega);rw[Hx _ _ _ (by rw[Vi _ (by omega)];omega),Hx _ _ _ (by omega)]
def Vk{a:Type}(f:Nat→a)(n:Nat):((List.range n).map f).length=n:=by rw[mA,Bp]
def Nu(a c:U 64)(k:a.n=128)(m:c.n=128):(bz a c).l=rG a.l c.l:=by
 have h:=a.h;have o:=c.h;have d:a.l.length=c.l.length:=by omega
 have ex:kW a c=U.of (pH a.l c.l):=by
  have e:(kW a c).n=128:=Vk _ _;refine al0 _ _ ?_ fun i hi=>?_
  ·rw[D3 _ _ d,e];omega
  ·rw[e]at hi;exact(yT (fun i=>a.l.getD i 0#64^^^c.l.getD i 0#64) 128 i 0#64 hi).trans (Hx _ _ _ d).symm
 unfold bz;rw[ex];generalize f:fX hU (U.of (pH a.l c.l))=p;have g:∀l:List (BitVec 64),(U.of l).l=l:=fun _=>rfl;rw[g];have j:=Vj a.l c.l (by omega) (by omega);refine Eh (by rw[Vk,j]) fun i h1 h2=>?_;have hi:i<128:=by omega
 have b:=al2 a.l c.l i (by omega) (by omega);rw[f,dY,bX h2]at b;rw[N2,List.getElem_range];exact b.symm
def Vl{X:U 64}{e:List (List (BitVec 64))}{a:Nat}(c:Rows X e a){b:Nat}(f:b<8):(rowAt X (128*b)).l=e.getD b gJ:=by
 refine Eh ?_ fun i h1 h2=>?_
 ·rw[(rowAt X (128*b)).h,ww,c.row]
 ·have hi:i<128:=by rw[c.row]at h2;exact h2
  have d:=(q6 X (128*b) hi).trans (c.get b i f hi);unfold aL fO at d;rw[dY,dY,bX h1,bX h2]at d;exact d
def Rows.step{X:U 64}{g:List (List (BitVec 64))}{a:Nat}(e:Rows X g a)(f:cx)(b c:Nat)(u:a<8)(m:b<8)(o:c<8):Rows (fo f X (128*a) (128*b) (128*c)) (gK g b c) (a+1):=by
 obtain⟨p,q⟩:=SF f X (128*a) (128*b) (128*c) (by rw[e.n];omega) (by omega) (by omega) (by omega);have r:(bz (rowAt X (128*b)) (rowAt X (128*c))).l=rG (g.getD b gJ) (g.getD c gJ):=by
  rw[Nu _ _ (ww _ _) (ww _ _),Vl e m,Vl e o]
 refine⟨p.trans e.n,?_,fun d=>?_,fun d i k hi=>?_⟩
 ·unfold gK;rw[fB,e.len];rfl
 ·unfold gK;rw[Hy];split
  ·exact Vj _ _ (e.row b) (e.row c)
  ·exact e.row d
 ·have j:=q (128*d+i);have j:(fo f X (128*a) (128*b) (128*c)).l.getD (128*d+i) 0#64=_:=j;rw[j];unfold fO gK;rw[Hy,e.len];by_cases h:d=a
  ·subst h;have s:fO g d i=0#64:=by
    unfold fO;have:g.getD d gJ=gJ:=by
     rw[dY,dz (by rw[e.len];omega)];rfl
    rw[this];exact Nt _ _ _
   have t:aL X (128*d+i)=0#64:=(e.get d i k hi).trans s;rw[ax ⟨by omega,by omega⟩,ax rfl,t,BitVec.zero_xor,uF];unfold aL;rw[r]
  ·rw[ak (by omega),ak h];exact e.get d i k hi
end
section
open Go Go.ay Conc Conc.Lib
variable [aR][aG][bl]
def yU(g:Nat)(a b:Value):Deferred:={target:=.fn (.func g) #[a,b],args:=#[]}
def Vm{β:aE}{j:List ah}{w:World}{b:Nat}{x:af}{p:Value}(m:aM bB β j w)(n:j[b]? =some ⟨.gen [x],.own⟩)(o:aC β (.ptr b (.c 0)) p):
 ∃c u,p=.pointer (some (at' c 0))∧aC β x u∧gh (at' c 0) false∧∀e,eK w e→e.cell? (at' c 0)=some u:=by
 obtain⟨f,q,rfl⟩:=o.qK;rcases m.blk b _ n (eo rfl)with⟨C,a,s⟩|⟨v,_⟩
 case inr=>exact absurd v (by simp[ay.Data.len])
 rw[q]at a;injection a with a;subst a;obtain⟨y,d,vs,t,bx,z,D,E,bf,g⟩:=s;have g:aK β [x] (vs.take 1):=g;obtain⟨u,k,A⟩:=g.get (i:=0) (x:=x) rfl;have B:vs[0]? =some u:=by
  rw[lM]at k;simpa using k
 have d:oM f.c:=d;have l:gh (at' f.c 0) false:=⟨rfl,.inl ⟨d.1,fun h=>absurd h d.2⟩⟩;refine⟨f.c,u,by rw[y];rfl,A,l,fun e r=>r.cell l ?_⟩;simp[World.cell?,z,B]
def isAgg22:nq Tryz.prog 22=some false∧nq Tryz.prog 4=some false:=⟨by kernel_rfl,by kernel_rfl⟩
def al3{fn:Func}{a b:Nat}(e:fn.results=#[.cell a 22,.cell b 4]){T:Array Value}{c d:Nat}(f:T.getD a undef=.pointer (some (at' c 0)))(g:T.getD b undef=.pointer (some (at' d 0))){w:World}{u v:Value}(h:w.cell? (at' c 0)=some u)(i:gh (at' c 0) false)(j:w.cell? (at' d 0)=some v)(k:gh (at' d 0) false):
 (results fn T).aI Tryz.prog w=.ok (.tuple #[u,v]) w:=by
 have l:(asAddr (.pointer (some (at' c 0)))).aI Tryz.prog w=.ok (at' c 0) w:=rfl;have n:(asAddr (.pointer (some (at' d 0)))).aI Tryz.prog w=.ok (at' d 0) w:=rfl;have o:(loadVar 22 (at' c 0)).aI Tryz.prog w=.ok u w:=by simp[loadVar,vq isAgg22.1 w,B2 Tryz.prog w h i]
 have p:(loadVar 4 (at' d 0)).aI Tryz.prog w=.ok v w:=by simp[loadVar,vq isAgg22.2 w,B2 Tryz.prog w j k]
 rw[JE,N4 (m:=Sem)];simp[e,CL,f,g,l,n,o,p]
def Nv [nF]{spec:FuncId→Option ay.Spec}(b:∀f a,spec f=some a→br f a)(f:Nat)(p:List Bool){m:Nat}(c:codeOk Tryz.prog (bS Tryz.prog f) (dyn f) m (sub p (c8 Tryz.prog f))=true):
 dg Tryz.prog bB (an f) (bS Tryz.prog f) (sub p (c8 Tryz.prog f)) (wu spec aU f p):=
 afH (C:=dh spec aU) rfl (FR (C:=dh spec aU) rfl vI mixed (CW spec aU) bl.plain (cL _) (fun f a h args S v d e=>CM (b f a h) args S v d e) 100000 20) vI mixed (fun _=>rfl) 100000 p c
section
variable{f g P Q z n:Nat}{R:Code}{fn S:Func}
def Vn{an a:Nat}{β:aE}{args:List af}{us:List Value}(b:aK β args us)(c:args.length≤a):
 cK an a β ⟨args++List.replicate (an-args.length) .aa,[]⟩ {tmps:=(⟨us⟩:Array Value)++Array.replicate (a-us.length) undef,defers:=[]}:=Tj b (by rw[←b.1];exact c)
end
end
section
open Go Go.ay
variable [aR][aG][bl]
abbrev qu:=U 8→U 8→Nat→Nat→Nat→Nat→BitVec 32→BitVec 32→BitVec 8→BitVec 32→Int→U 8
def al4(c:qu):bV M9:={wQ with out:=fun⟨a,b,bD,na,bC,nb,t,m,p,k,d⟩=>[⟨.aj a,.ro⟩,⟨.aj b,.ro⟩,⟨.aj (c a b bD na bC nb t m p k d),.own⟩]}
structure Hz where
 (a b:U 8)(bD na bC nb:Nat)(t m p k kd:Int)
def Nw(a:List af)(c:List ah):Option Hz:=
 match a with
 |[.num (.int .i64 (.s d)),.ref (.sl 0 (.s e) (.s f) none),.ref (.sl 1 (.s g) (.s h) none),.num (.int .i64 (.s t)),.num (.int .i64 (.s m)),.num (.int .i64 (.s p)),.num (.int .i64 (.s k))]=>
  match c with
  |[⟨.aj a,.ro⟩,⟨.aj b,.ro⟩]=>some ⟨a,b,e,f,g,h,t,m,p,k,d⟩|_=>none
 |_=>none
def jY:bV Hz where
 d0:=⟨0,0,0,0,0,0,0,0,0,0,0⟩
 read:=Nw
 args:=fun⟨_,_,f,d,g,e,t,m,p,k,h⟩=>[.au h,.ref (.sl 0 (.s f) (.s d) none),.ref (.sl 1 (.s g) (.s e) none),.au t,.au m,.au p,.au k]
 heap:=fun⟨a,b,_,_,_,_,_,_,_,_,_⟩=>[⟨.aj a,.ro⟩,⟨.aj b,.ro⟩]
 out:=fun⟨a,b,f,d,g,e,t,m,p,k,h⟩=>[⟨.aj a,.ro⟩,⟨.aj b,.ro⟩,cp,cp,⟨.aj (ez a b f d g e (BitVec.ofInt 32 t) (BitVec.ofInt 32 m) (BitVec.ofInt 8 p) (BitVec.ofInt 32 k) (if h=0 then 1 else 2)),.own⟩]
 val:=fun⟨_,_,_,_,_,_,_,_,_,k,_⟩=>(.obj .bA [.ref (.sl 4 (.c 0) (.s ((BitVec.ofInt 32 k)).toNat) (some (.s ((BitVec.ofInt 32 k)).toNat))),.atom (.bool (.c true))])
 aT:=fun⟨a,b,f,d,g,e,t,m,p,k,_⟩=>decide (f+d≤a.n∧d≤1000000∧g+e≤b.n∧e≤1000000∧1≤t∧t≤4∧0≤m∧m≤256∧1≤p∧p≤8∧1≤k∧k≤1024)
def Vo:jY.Rd:=by
 intro a b d h;change Nw a b=some d at h;unfold Nw at h;repeat' split at h
 all_goals cases h
 exact⟨rfl,rfl⟩
def rH(a b:U 8)(us:List af):aJ×List ah:=(⟨us++List.replicate 7 .aa++[.ref (.ptr 2 (.c 0)),.ref (.ptr 3 (.c 0))],[]⟩,[⟨.aj a,.ro⟩,⟨.aj b,.ro⟩,⟨.gen [.atom .cD],.own⟩,⟨.gen [.atom (.bool (.c false))],.own⟩])
def Nx{t:Int}(a:0≤t)(h1:t≤1024):(BitVec.ofInt 32 t).toNat=t.toNat:=by
 rw[qw];omega
def al5{t:Int}(a:0≤t)(h1:t≤8):(BitVec.ofInt 8 t).toNat=t.toNat:=by
 rw[qw];omega
def al6{t m p k:Int}(h:1≤t∧t≤4∧0≤m∧m≤256∧1≤p∧p≤8∧1≤k∧k≤1024):1≤(BitVec.ofInt 32 t).toNat∧(BitVec.ofInt 32 t).toNat≤1000000∧(BitVec.ofInt 32 m).toNat≤256∧1≤(BitVec.ofInt 8 p).toNat∧(BitVec.ofInt 8 p).toNat≤8∧1≤(BitVec.ofInt 32 k).toNat:=by
 obtain⟨h1,h2,h3,h4,a,b,c,d⟩:=h;rw[Nx (by omega) (by omega),Nx (by omega) (by omega),Nx (by omega) (by omega),al5 (by omega) (by omega)];omega
end
end Go.Proofs.YtcminalaicidiaaGreatDoor
end

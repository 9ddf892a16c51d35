/- Part of FnArgon2. No condition. -/
import Derived.Test.YtcminalaicidiaaGreatDoorWC
set_option maxRecDepth 100000
set_option maxHeartbeats 8000000
set_option linter.all false
def Ia:=@BitVec.add_assoc
def an3:=@BitVec.eq_of_getLsbD_eq
def an4:=@BitVec.getLsbD_shiftLeft
def an5:=@BitVec.getLsbD_ushiftRight
def eB:=@BitVec.toNat_add
def iE:=@BitVec.toNat_mul
def H8:=@BitVec.xor_comm
def Wo:=@Int.add_zero
def an6:=@Int.emod_lt_of_pos
def Ei:=@Int.mul_tdiv_cancel
def Bu:=@Int.natCast_mul
def oB:=@Int.tmod_eq_emod_of_nonneg
def Eh:=@List.ext_getElem
def H9:=@List.map_congr_left
def Wp:=@List.mem_flatMap
def Bt:=@Nat.div_lt_of_lt_mul
def Bs:=@Nat.le_div_iff_mul_le
def w6:=@Nat.mul_le_mul
def Br:=@Nat.mul_zero
def Ej:=@and_false
def uI:=@eq_false
def uH:=@eq_true
def y8:=@false_and
def pO:=@ite_false
def Ek:=@ite_true
noncomputable section
namespace Go.Proofs.YtcminalaicidiaaGreatDoor
section
open Go.ay
variable{ix:Nat→Nat}
def nU{X:U 64}{i:Nat}(v:BitVec 64)(n:Nat)(hi:i<X.n):aL (X.set i v) n=if n=i then v else aL X n:=by
 show((X.l.set i v).getD n 0#64)=_;unfold aL;simp only[dY,wW];have:i<X.l.length:=by rw[X.h];exact hi
 by_cases h:i=n
 ·subst h;simp[this]
 ·simp[h,fC h]
def F7(x:BitVec 64):F4 x=p6 x:=by
 apply mo;unfold F4 p6;rw[VY,kH,kH,show(4294967295#64).toNat=2^32-1 from rfl,Nat.and_two_pow_sub_one_eq_mod];omega
structure nV(X:U 64)(a b c d:Nat)(x y z w:BitVec 64)(Y:U 64):Prop where
 xo:Y.n=X.n
 WF:aL Y a=x
 hb:aL Y b=y
 hc:aL Y c=z
 WQ:aL Y d=w
 ho:∀n,n≠a→n≠b→n≠c→n≠d→aL Y n=aL X n
structure At(N a b c d:Nat):Prop where
 lt:a<N∧b<N∧c<N∧d<N
 ne:a≠b∧a≠c∧a≠d∧b≠c∧b≠d∧c≠d
section
variable{X Y:U 64}{a b c d:Nat}{x y z w:BitVec 64}
def F8(x y:BitVec 64):BitVec 64:=x+(y+2#64*p6 x*p6 y)
def nV.RA(D:At X.n a b c d)(h:nV X a b c d x y z w Y):nV X a b c d (F8 x y) y z w (vQ Y a b):=by
 obtain⟨j,k,f,l,m,o⟩:=h;obtain⟨⟨u,A,B,C⟩,dB,p,q,E,F,H⟩:=D;have e:=fun v n=>nU (X:=Y) (i:=a) v n (by omega);unfold vQ F8;rw[k,f,F7,F7];refine⟨j,by rw[e,ax rfl],by rw[e,ak (fC dB),f],by rw[e,ak (fC p),l],by rw[e,ak (fC q),m],fun n g r s t=>by rw[e,ak g,o n g r s t]⟩
def nV.RB(D:At X.n a b c d)(h:nV X a b c d x y z w Y):nV X a b c d x y (F8 z w) w (vQ Y c d):=by
 obtain⟨j,k,l,m,f,o⟩:=h;obtain⟨⟨A,B,C,E⟩,dB,p,F,q,H,r⟩:=D;have e:=fun v n=>nU (X:=Y) (i:=c) v n (by omega);unfold vQ F8;rw[m,f,F7,F7];refine⟨j,by rw[e,ak p,k],by rw[e,ak q,l],by rw[e,ax rfl],by rw[e,ak (fC r),f],fun n s t g u=>by rw[e,ak g,o n s t g u]⟩
def nV.Au(D:At X.n a b c d)(h:nV X a b c d x y z w Y)(k m:Nat)(j:m=64-k):nV X a b c d x y z (vL (w^^^x) k) (vR Y d a k m):=by
 obtain⟨l,f,o,p,q,r⟩:=h;obtain⟨⟨E,F,H,I⟩,dB,J,s,K,t,u⟩:=D;have e:=fun v n=>nU (X:=Y) (i:=d) v n (by omega);subst j;unfold vR vL;rw[f,q];refine⟨l,by rw[e,ak s,f],by rw[e,ak t,o],by rw[e,ak u,p],by rw[e,ax rfl],fun n A B C g=>by rw[e,ak g,r n A B C g]⟩
def nV.RD(D:At X.n a b c d)(h:nV X a b c d x y z w Y)(k m:Nat)(j:m=64-k):nV X a b c d x (vL (y^^^z) k) z w (vR Y b c k m):=by
 obtain⟨l,o,p,f,q,r⟩:=h;obtain⟨⟨C,E,F,H⟩,dB,I,J,s,t,K⟩:=D;have e:=fun v n=>nU (X:=Y) (i:=b) v n (by omega);subst j;unfold vR vL;rw[p,f];refine⟨l,by rw[e,ak dB,o],by rw[e,ax rfl],by rw[e,ak (fC s),f],by rw[e,ak (fC t),q],fun n u g A B=>by rw[e,ak g,r n u g A B]⟩
def adV(D:At X.n a b c d):nV X a b c d (lX (aL X a) (aL X b) (aL X c) (aL X d)).a (lX (aL X a) (aL X b) (aL X c) (aL X d)).b (lX (aL X a) (aL X b) (aL X c) (aL X d)).c (lX (aL X a) (aL X b) (aL X c) (aL X d)).d (kw X a b c d):=by
 have e:nV X a b c d (aL X a) (aL X b) (aL X c) (aL X d) X:=⟨rfl,rfl,rfl,rfl,rfl,fun _ _ _ _ _=>rfl⟩;have h1:=(e.RA D).Au D 32 32 rfl;have h2:=(h1.RB D).RD D 24 40 rfl;have h3:=(h2.RA D).Au D 16 48 rfl;have h4:=(h3.RB D).RD D 63 1 rfl;exact h4
end
def sn(e:Nat→BitVec 64)(a b c d:Nat):Nat→BitVec 64:=fun k=>if k=a then(lX (e a) (e b) (e c) (e d)).a else if k=b then(lX (e a) (e b) (e c) (e d)).b else if k=c then(lX (e a) (e b) (e c) (e d)).c else if k=d then(lX (e a) (e b) (e c) (e d)).d else e k
structure x9(ix:Nat→Nat)(N:Nat):Prop where
 lt:∀k,k<16→ix k<N
 inj:∀j k,j<16→k<16→ix j=ix k→j=k
structure so(ix:Nat→Nat)(X:U 64)(V:Nat→BitVec 64)(Y:U 64):Prop where
 xo:Y.n=X.n
 xl:∀k,k<16→aL Y (ix k)=V k
 ho:∀n,(∀k,k<16→n≠ix k)→aL Y n=aL X n
def so.step{ix:Nat→Nat}{X Y:U 64}{u:Nat→BitVec 64}(au:x9 ix X.n)(h:so ix X u Y){a b c d:Nat}(g:a<16)(i:b<16)(l:c<16)(m:d<16)(o:a≠b∧a≠c∧a≠d∧b≠c∧b≠d∧c≠d):so ix X (sn u a b c d) (kw Y (ix a) (ix b) (ix c) (ix d)):=by
 have e:∀{j k},j<16→k<16→j≠k→ix j≠ix k:=fun v p h A=>h (au.inj _ _ v p A);obtain⟨dB,B,C,E,F,H⟩:=o;have D:At Y.n (ix a) (ix b) (ix c) (ix d):=by
  rw[h.xo];exact⟨⟨au.lt a g,au.lt b i,au.lt c l,au.lt d m⟩,e g i dB,e g l B,e g m C,e i l E,e i m F,e l m H⟩
 have f:=adV D;rw[h.xl a g,h.xl b i,h.xl c l,h.xl d m]at f;refine⟨f.xo.trans h.xo,fun k p=>?_,fun n o=>(f.ho n (o a g) (o b i) (o c l) (o d m)).trans (h.ho n o)⟩;unfold sn;by_cases q:k=a
 ·subst q;rw[ax rfl];exact f.WF
 by_cases r:k=b
 ·subst r;rw[ak q,ax rfl];exact f.hb
 by_cases s:k=c
 ·subst s;rw[ak q,ak r,ax rfl];exact f.hc
 by_cases t:k=d
 ·subst t;rw[ak q,ak r,ak s,ax rfl];exact f.WQ
 rw[ak q,ak r,ak s,ak t];exact(f.ho _ (e p g q) (e p i r) (e p l s) (e p m t)).trans (h.xl k p)
def IR(e:Nat→BitVec 64):kr:=⟨e 0,e 1,e 2,e 3,e 4,e 5,e 6,e 7,e 8,e 9,e 10,e 11,e 12,e 13,e 14,e 15⟩
def nW(ix:Nat→Nat):List Nat:=[ix 0,ix 1,ix 2,ix 3,ix 4,ix 5,ix 6,ix 7,ix 8,ix 9,ix 10,ix 11,ix 12,ix 13,ix 14,ix 15]
def F9(e:Nat→BitVec 64):Nat→BitVec 64:=sn (sn (sn (sn (sn (sn (sn (sn e 0 4 8 12) 1 5 9 13) 2 6 10 14) 3 7 11 15) 0 5 10 15) 1 6 11 12) 2 7 8 13) 3 4 9 14
def adW(e:Nat→BitVec 64):(List.range 16).map (F9 e)=Ri (Rg (IR e)):=by kernel_rfl
def RE:∀(l:List (Nat×BitVec 64)) (t:U 64),(∀p∈l,p.1<t.n)→(l.map Prod.fst).Nodup→(∀p∈l,aL (vM (l.map Prod.fst) (l.map Prod.snd) t) p.1=p.2)∧∀n,n∉l.map Prod.fst→aL (vM (l.map Prod.fst) (l.map Prod.snd) t) n=aL t n
 |[],t,_,_=>⟨fun p e=>(by cases e),fun n _=>rfl⟩
 |(i,y)::r,t,f,k=>by
  have hi:i<t.n:=f _ (lK ..);have g:i∉r.map Prod.fst∧(r.map Prod.fst).Nodup:=Wn.1 k;obtain⟨h1,h2⟩:=RE r (t.set i y) (fun p e=>f p (ng _ e)) g.2;refine⟨fun p e=>?_,fun n h=>?_⟩
  ·rcases jJ.1 e with rfl|e
   ·exact(h2 i g.1).trans (by rw[nU _ _ hi,ax rfl])
   ·exact h1 p e
  ·have j:n≠i∧n∉r.map Prod.fst:=by
    simp only[List.map_cons,jJ,not_or]at h;exact h
   exact(h2 n j.2).trans (by rw[nU _ _ hi,ak j.1])
def vU{X Y:U 64}(h:X.n=Y.n)(f:∀n,n<X.n→aL X n=aL Y n):X=Y:=by
 obtain⟨n,l,e⟩:=X;obtain⟨m,r,g⟩:=Y;simp only at h;subst h;have:l=r:=by
  refine Eh (e.trans g.symm) fun i h1 h2=>?_;have:=f i (Nat.lt_of_lt_of_eq h1 e);unfold aL at this;simpa[dY,bX h1,bX h2]using this
 subst this;rfl
def adX(ix:Nat→Nat)(X:U 64):Rh (nW ix) X=IR fun k=>aL X (ix k):=rfl
def adY(ix:Nat→Nat):(List.range 16).map ix=nW ix:=rfl
def adZ(ix:Nat→Nat)(X:U 64):o5 (nW ix) X=vM ((List.range 16).map ix) ((List.range 16).map (F9 fun k=>aL X (ix k))) X:=by
 rw[adW,adY];unfold o5;rw[adX]
def ad0{X:U 64}(au:x9 ix X.n)(e:Nat→BitVec 64):so ix X e (vM ((List.range 16).map ix) ((List.range 16).map e) X):=by
 have h:((List.range 16).map fun k=>(ix k,e k)).map Prod.fst=(List.range 16).map ix:=by rw[List.map_map];rfl
 have j:((List.range 16).map fun k=>(ix k,e k)).map Prod.snd=(List.range 16).map e:=by rw[List.map_map];rfl
 have l:∀p∈(List.range 16).map fun k=>(ix k,e k),∃k,k<16∧p=(ix k,e k):=fun p g=>by
  obtain⟨k,f,rfl⟩:=y7.1 g;exact⟨k,oA.1 f,rfl⟩
 have m:((List.range 16).map ix).Nodup:=by
  unfold List.Nodup;rw[List.pairwise_map];exact List.nodup_range.imp_of_mem fun o q r s=>r (au.inj _ _ (oA.1 o) (oA.1 q) s)
 obtain⟨h1,h2⟩:=RE ((List.range 16).map fun k=>(ix k,e k)) X (fun p g=>by obtain⟨k,f,rfl⟩:=l p g;exact au.lt k f) (by rw[h];exact m);rw[h,j]at h1 h2;have i:=J2 ((List.range 16).map ix) ((List.range 16).map e) X;generalize vM ((List.range 16).map ix) ((List.range 16).map e) X=Y at i h1 h2⊢;refine⟨?_,fun k f=>h1 (ix k,e k) (y7.2 ⟨k,oA.2 f,rfl⟩),fun n t=>h2 n fun u=>?_⟩
 ·exact i
 ·obtain⟨k,f,rfl⟩:=y7.1 u;exact t k (oA.1 f) rfl
def RF{X:U 64}(au:x9 ix X.n):so ix X (F9 fun k=>aL X (ix k)) (o5 (nW ix) X):=by
 rw[adZ];exact ad0 au _
def RG{X:U 64}(au:x9 ix X.n):so ix X (F9 fun k=>aL X (ix k)) (kw (kw (kw (kw (kw (kw (kw (kw X (ix 0) (ix 4) (ix 8) (ix 12)) (ix 1) (ix 5) (ix 9) (ix 13)) (ix 2) (ix 6) (ix 10) (ix 14)) (ix 3) (ix 7) (ix 11) (ix 15)) (ix 0) (ix 5) (ix 10) (ix 15)) (ix 1) (ix 6) (ix 11) (ix 12)) (ix 2) (ix 7) (ix 8) (ix 13)) (ix 3) (ix 4) (ix 9) (ix 14)):=by
 have f:so ix X (fun k=>aL X (ix k)) X:=⟨rfl,fun _ _=>rfl,fun _ _=>rfl⟩;have e:=fun{Y g} (h:so ix X g Y) {a b c d:Nat} (x:a<16∧b<16∧c<16∧d<16∧a≠b∧a≠c∧a≠d∧b≠c∧b≠d∧c≠d)=>h.step au x.1 x.2.1 x.2.2.1 x.2.2.2.1 x.2.2.2.2;exact e (e (e (e (e (e (e (e f (by decide)) (by decide)) (by decide)) (by decide)) (by decide)) (by decide)) (by decide)) (by decide)
def RH{X Y Z:U 64}{f:Nat→BitVec 64}(h:so ix X f Y)(k:so ix X f Z):Y=Z:=by
 refine vU (h.xo.trans k.xo.symm) fun n _=>?_;by_cases c:∃j,j<16∧n=ix j
 ·obtain⟨j,e,rfl⟩:=c;rw[h.xl j e,k.xl j e]
 ·have g:∀j,j<16→n≠ix j:=fun j e i=>c ⟨j,e,i⟩;rw[h.ho n g,k.ho n g]
end
section
open Go.ay
variable [aR][aG][bl]
variable{k:Int}{n:Nat}
def RI{a:Nat→Nat}{N:Nat}(h:(List.range 16).all fun j=>decide (a j<N)&&(List.range 16).all fun k=>decide (a j=a k→j=k)):x9 a N:=by
 simp only[w5,oA,dI,jI]at h;exact⟨fun k b=>(h k b).1,fun j k c b d=>(h j c).2 k b d⟩
def sq(k:Int)(j:Nat):Nat:=lY (16*k+j)
def sr(k:Int)(j:Nat):Nat:=lY (((16*(j/2):Nat):Int)+2*k+((j%2:Nat):Int))
def RJ:∀k∈([0,1,2,3,4,5,6,7]:List Int),x9 (sq k) 128:=by
 intro k a;have:([0,1,2,3,4,5,6,7]:List Int).all (fun k=>(List.range 16).all fun j=>decide (sq k j<128)&&(List.range 16).all fun i=>decide (sq k j=sq k i→j=i))=true:=by kernel_rfl
 exact RI (w5.1 this k a)
def RK:∀k∈([0,1,2,3,4,5,6,7]:List Int),x9 (sr k) 128:=by
 intro k a;have:([0,1,2,3,4,5,6,7]:List Int).all (fun k=>(List.range 16).all fun j=>decide (sr k j<128)&&(List.range 16).all fun i=>decide (sr k j=sr k i→j=i))=true:=by kernel_rfl
 exact RI (w5.1 this k a)
def ad1{Z:U 64}(a:k∈([0,1,2,3,4,5,6,7]:List Int))(b:Z.n=128):nT gP k Z=o5 (nW (sq k)) Z:=
 RH (ix:=sq k) (RG (by rw[b];exact RJ k a)) (RF (by rw[b];exact RJ k a))
def ad2{Z:U 64}(a:k∈([0,1,2,3,4,5,6,7]:List Int))(b:Z.n=128):o7 gP k Z=o5 (nW (sr k)) Z:=
 RH (ix:=sr k) (RG (by rw[b];exact RK k a)) (RF (by rw[b];exact RK k a))
def Ga(k:Int)(Z:U 64):(nT gP k Z).n=Z.n:=Kj _ _
def RL(k:Int)(Z:U 64):(o7 gP k Z).n=Z.n:=Kj _ _
def C1:List Int→U 64→U 64|[],Z=>Z|k::r,Z=>C1 r (nT gP k Z)
def Gb:List Int→U 64→U 64|[],Z=>Z|k::r,Z=>Gb r (o7 gP k Z)
def nX:List Int:=[0,1,2,3,4,5,6,7]
def RM:∀(l:List Int) (Z:U 64),(∀k∈l,k∈nX)→Z.n=128→C1 l Z=fX (l.map fun k=>nW (sq k)) Z
 |[],Z,_,_=>rfl|k::r,Z,h,a=>by
  show C1 r (nT gP k Z)=fX (r.map fun k=>nW (sq k)) (o5 (nW (sq k)) Z);rw[←ad1 (h k (lK ..)) a];exact RM r _ (fun k b=>h k (ng _ b)) ((Ga _ _).trans a)
def RN:∀(l:List Int) (Z:U 64),(∀k∈l,k∈nX)→Z.n=128→Gb l Z=fX (l.map fun k=>nW (sr k)) Z
 |[],Z,_,_=>rfl|k::r,Z,h,a=>by
  show Gb r (o7 gP k Z)=fX (r.map fun k=>nW (sr k)) (o5 (nW (sr k)) Z);rw[←ad2 (h k (lK ..)) a];exact RN r _ (fun k b=>h k (ng _ b)) ((RL _ _).trans a)
def RO:∀(l r:List (List Nat)) (Z:U 64),fX (l++r) Z=fX r (fX l Z)|[],_,_=>rfl|_::l,r,Z=>RO l r _
def ad3:hU=(nX.map fun k=>nW (sq k))++(nX.map fun k=>nW (sr k)):=by kernel_rfl
def RP:∀(l:List Int) (Z:U 64),(C1 l Z).n=Z.n|[],_=>rfl|k::r,Z=>(RP r _).trans (Ga k Z)
def RQ{Z:U 64}(a:Z.n=128):As gP Z=fX hU Z:=by
 have b:As gP Z=Gb nX (C1 nX Z):=rfl;rw[b,RN nX _ (fun _ h=>h) ((RP _ _).trans a),RM nX _ (fun _ h=>h) a,ad3,RO]
def RR(a b:U 64):(mX a b).R=kW a b:=by kernel_rfl
def RS:∀(m:Nat) (d:x8),0≤d.i→d.i+m≤128→d.Z.n=128→(iter nR m d).Z.n=128∧∀n,aL (iter nR m d).Z n=if d.i≤n∧(n:Int)<d.i+m then aL d.Z n^^^aL d.R n else aL d.Z n
 |0,d,_,_,b=>⟨b,fun n=>by
  show aL d.Z n=_;rw[ak (by omega)]⟩
 |m+1,d,f,h1,b=>by
  obtain⟨g,a,Z,i⟩:=d;have f:0≤i:=f;have h1:i+((m+1:Nat):Int)≤128:=h1;have b:Z.n=128:=b;obtain⟨j,e⟩:=RS m (nR ⟨g,a,Z,i⟩) (by show 0≤i+1;omega) (by show i+1+_≤128;omega) b;refine⟨j,fun n=>?_⟩;have l:∀n,aL (vT Z a Z i) n=if n=0+i.toNat*1 then aL Z (0+i.toNat*1)^^^aL a (0+i.toNat*1)else aL Z n:=fun n=>nU _ n (by omega)
  have e:=e n;have o:aL (iter nR (m+1) ⟨g,a,Z,i⟩).Z n=if i+1≤n∧(n:Int)<i+1+m then aL (vT Z a Z i) n^^^aL a n else aL (vT Z a Z i) n:=e
  rw[o,l]
  show _=if i≤n∧(n:Int)<i+((m+1:Nat):Int)then aL Z n^^^aL a n else aL Z n
  by_cases c:n=0+i.toNat*1
  ·rw[ak (by omega),ax c,ax (by omega),←c]
  ·rw[ak c];by_cases h:i+1≤n∧(n:Int)<i+1+m
   ·rw[ax h,ax (by omega)]
   ·rw[ak h,ak (by omega)]
def Av(a b:U 64):(kW a b).n=128:=by kernel_rfl
def C2(f:Nat→BitVec 64)(h:n<128):aL (U.of ((List.range 128).map f)) n=f n:=by
 have a:aL (U.of ((List.range 128).map f)) n=((List.range 128).map f).getD n 0#64:=rfl;rw[a];simp[dY,h]
def Aw(a:U 64)(h:n<128):aL (di a) n=aL a n:=C2 _ h
def ya(a:U 64):(di a).n=128:=by kernel_rfl
def o8{a:U 64}(h:a.n=128):di a=a:=vU ((ya a).trans h.symm) fun n b=>Aw a (by rw[ya]at b;exact b)
def Gc(a b:U 64)(h:n<128):aL (kW a b) n=aL a n^^^aL b n:=C2 _ h
def yb(a b:U 64):(bz a b).n=128:=by
 show((List.range 128).map _).length=128;rw[mA,Bp]
def Gd(a b:U 64)(h:n<128):aL (bz a b) n=(aL a n^^^aL b n)^^^aL (fX hU (kW a b)) n:=C2 _ h
def ad4(a b:U 64):tR gP a b=(iter nR 128 ⟨(mX a b).W,(mX a b).R,As gP (di (mX a b).R),0⟩).Z:=by kernel_rfl
def ad5(a b:U 64):(Ks gP (mX a b)).Z=tR gP a b:=by kernel_rfl
def ad6(b a Z:U 64)(c:Z.n=128):(iter nR 128 ⟨b,a,Z,0⟩).Z.n=128∧∀n,n<128→aL (iter nR 128 ⟨b,a,Z,0⟩).Z n=aL Z n^^^aL a n:=by
 obtain⟨h1,h2⟩:=RS 128 ⟨b,a,Z,0⟩ (rM 0) (rM 128) c;refine⟨h1,fun n d=>?_⟩;have h:=h2 n;dsimp only at h;rw[h,ax (by omega)]
def RU(a b:U 64):(tR gP a b).n=128∧∀n,n<128→aL (tR gP a b) n=aL (fX hU (kW a b)) n^^^aL (kW a b) n:=by
 rw[ad4,RR,o8 (Av a b),RQ (Av a b)];exact ad6 _ _ _ (by rw[x4,Av])
def ad7(a b:U 64):tR gP a b=bz a b:=by
 obtain⟨h1,h2⟩:=RU a b;refine vU (h1.trans (yb a b).symm) fun n c=>?_;rw[h1]at c;rw[h2 n c,Gd a b c,Gc a b c,H8]
def ad8{Z:U 64}(a:k∈nX)(b:Z.n=128):Ry k Z=true:=by
 have h:0≤k∧k≤7:=by
  simp only[nX,jJ,HS,HT]at a;omega
 refine bu ?_;refine⟨by omega,by omega,by omega,by omega,by omega,by omega,by omega,by omega,by omega,by omega,by omega,by omega,by omega,by omega,by omega,by omega,b⟩
def ad9{Z:U 64}(a:k∈nX)(b:Z.n=128):Rz k Z=true:=by
 have h:0≤k∧k≤7:=by
  simp only[nX,jJ,HS,HT]at a;omega
 refine bu ?_;refine⟨by omega,by omega,by omega,by omega,by omega,by omega,by omega,by omega,by omega,by omega,by omega,by omega,by omega,by omega,by omega,by omega,b⟩
def RV:∀(l:List Int) (Z:U 64),(∀k∈l,k∈nX)→Z.n=128→∀b∈Kt gP l Z,b=true
 |[],_,_,_,b,a=>by cases a
 |k::r,Z,h,c,b,a=>by
  rcases fQ.1 a with a|a
  ·exact RV r _ (fun k d=>h k (ng _ d)) ((Ga k Z).trans c) b a
  ·rw[ta.1 a];exact ad8 (h k (lK ..)) c
def RX:∀(l:List Int) (Z:U 64),(∀k∈l,k∈nX)→Z.n=128→∀b∈Ku gP l Z,b=true
 |[],_,_,_,b,a=>by cases a
 |k::r,Z,h,c,b,a=>by
  rcases fQ.1 a with a|a
  ·exact RX r _ (fun k d=>h k (ng _ d)) ((RL k Z).trans c) b a
  ·rw[ta.1 a];exact ad9 (h k (lK ..)) c
def RY:∀(l:List Int) (Z:U 64),(Kv gP l Z).n=Z.n|[],_=>rfl|k::r,Z=>(RY r _).trans (Ga k Z)
def aea(b a Z:U 64)(c:a.n=128)(d:Z.n=128):l6.aT ⟨b,a,Z,0⟩=true:=bu ⟨by omega,by omega,c,d⟩
def RZ:br 29 tS.spec:=by
 refine tS.ok (dn adR (adP _)) adT ?_;rintro⟨b,c⟩ f;refine⟨_,_,_,adU gP b c,?_⟩;have e:(mX b c).R.n=128:=by rw[RR];exact Av b c
 have d:=ya (mX b c).R;have cB:(As gP (di (mX b c).R)).n=128:=by rw[RQ d,x4,d]
 refine aA rfl (aA rfl (aA (bu (by rw[ad5,(RU b c).1];omega)) (aA (aea _ _ _ e cB) fun z a=>?_)));rcases fQ.1 a with a|a
 ·exact RX _ _ (fun _ h=>h) ((RY _ _).trans d) z a
 rcases fQ.1 a with a|a
 ·exact RV _ _ (fun _ h=>h) d z a
 ·exact aA rfl (aA rfl aX) z a
end
section
open Go.ay
variable [aR][aG][bl]
def gu(v:U 8)(a:Nat):BitVec 64:=jd (v.l.getD (a+0) 0#8) (v.l.getD (a+1) 0#8) (v.l.getD (a+2) 0#8) (v.l.getD (a+3) 0#8) (v.l.getD (a+4) 0#8) (v.l.getD (a+5) 0#8) (v.l.getD (a+6) 0#8) (v.l.getD (a+7) 0#8)
structure R0 where
 (v:U 8)(o iA:Nat)
def Kx(a:List af)(b:List ah):Option R0:=
 match a with
 |[.agg [],.ref (.sl 0 (.s c) (.s d) none)]=>
  match b with
  |[⟨.aj v,.ro⟩]=>some ⟨v,c,d⟩|_=>none
 |_=>none
def Ax:bV R0 where
 d0:=⟨0,0,0⟩
 read:=Kx
 args:=fun⟨_,a,b⟩=>[.agg [],.ref (.sl 0 (.s a) (.s b) none)]
 heap:=fun⟨v,_,_⟩=>[⟨.aj v,.ro⟩]
 val:=fun⟨v,a,_⟩=>(.av (gu v a))
 aT:=fun⟨v,a,b⟩=>decide (a+8≤v.n∧8≤b∧b≤1099511627776)
def aeb(v:U 8)(a b:Nat):Ax.fR ⟨v,a,b⟩ (some [0]) (b9 ck aU 43) [] [decide ((a+7)<v.n),decide (7<(b:Int)),decide ((a+6)<v.n),decide (6<(b:Int)),decide ((a+5)<v.n),decide (5<(b:Int)),decide ((a+4)<v.n),decide (4<(b:Int)),decide ((a+3)<v.n),decide (3<(b:Int)),decide ((a+2)<v.n),decide (2<(b:Int)),decide ((a+1)<v.n),decide (1<(b:Int)),decide ((a+0)<v.n),decide (0<(b:Int)),decide ((a+7)<v.n),decide (7<(b:Int))]:=by show _=_;kernel_rfl
def aec:Ax.Rd:=by
 intro a b d h;change Kx a b=some d at h;unfold Kx at h;repeat' split at h
 all_goals cases h
 exact⟨rfl,rfl⟩
def R1:br 43 Ax.spec:=by
 refine Ax.ok (dn fK (cL _)) aec ?_;rintro⟨v,b,c⟩ a;have a:=bg a;refine⟨[],(some [0]),_,aeb v b c,?_⟩
 repeat'(refine aA ?_ ?_)
 all_goals first|exact aX|rfl|(simp only[cz]<;>omega)
def vV:FuncId→Option ay.Spec|43=>some Ax.spec|_=>none
def Ky:∀f a,vV f=some a→br f a:=by
 intro f a h;unfold vV at h;split at h
 ·cases h;exact R1
 ·cases h
def yc(v:U 8)(a:Nat)(n:Int):U 64:=U.of [gu v (a+n.toNat),gu v (a+(n+8).toNat),gu v (a+((n+8)+8).toNat),gu v (a+(((n+8)+8)+8).toNat),gu v (a+((((n+8)+8)+8)+8).toNat),gu v (a+(((((n+8)+8)+8)+8)+8).toNat),gu v (a+((((((n+8)+8)+8)+8)+8)+8).toNat),gu v (a+(((((((n+8)+8)+8)+8)+8)+8)+8).toNat),gu v (a+((((((((n+8)+8)+8)+8)+8)+8)+8)+8).toNat),gu v (a+(((((((((n+8)+8)+8)+8)+8)+8)+8)+8)+8).toNat),gu v (a+((((((((((n+8)+8)+8)+8)+8)+8)+8)+8)+8)+8).toNat),gu v (a+(((((((((((n+8)+8)+8)+8)+8)+8)+8)+8)+8)+8)+8).toNat),gu v (a+((((((((((((n+8)+8)+8)+8)+8)+8)+8)+8)+8)+8)+8)+8).toNat),gu v (a+(((((((((((((n+8)+8)+8)+8)+8)+8)+8)+8)+8)+8)+8)+8)+8).toNat),gu v (a+((((((((((((((n+8)+8)+8)+8)+8)+8)+8)+8)+8)+8)+8)+8)+8)+8).toNat),gu v (a+(((((((((((((((n+8)+8)+8)+8)+8)+8)+8)+8)+8)+8)+8)+8)+8)+8)+8).toNat)]
structure vW where
 (h:bq)(aZ qI d0 d1:BitVec 64)(ku:Int)(o4:U 8)(ag:Int)(kb v:U 8)(X:U 64)(o iA:Nat)(n:Int)
def aed(d:vW):aJ×List ah:=
 match d with
 |⟨h,a,b,e,f,g,i,ag,j,v,X,k,l,n⟩=>(⟨[.P 0,.ref (.ptr 0 (.c 8)),.num (.int .u64 (.c 0)),.ref (.sl 1 (.s k) (.s l) none),.aa,.aa,.aa,.aa,.P 2,.num (.av a),.num (.av b),.au n,.aa,.aa,.aa,.aa,.aa,.aa,.aa,.aa,.aa,.aa,.aa,.aa,.aa,.aa,.aa,.aa,.aa,.aa,.aa],[]⟩,[⟨.gen (cZ h e f g i ag j),.own⟩,⟨.aj v,.ro⟩,⟨.gen (dU X 16),.own⟩])
def vX(d:vW):vW:=
 match d with
 |⟨h,b,c,e,f,g,i,ag,j,v,_,a,k,n⟩=>⟨cr h (b+128#64) c 0#64 (yc v a n),b+128#64,c,e,f,g,i,ag,j,v,yc v a n,a,k,((((((((((((((((n+8)+8)+8)+8)+8)+8)+8)+8)+8)+8)+8)+8)+8)+8)+8)+8)⟩
def Kz(a:aJ)(b:List ah):Option vW:=
 match a with
 |⟨[.ref (.ptr 0 (.c 0)),.ref (.ptr 0 (.c 8)),.num (.int .u64 (.c 0)),.ref (.sl 1 (.s d) (.s e) none),.atom .aa,.atom .aa,.atom .aa,.atom .aa,.ref (.ptr 2 (.c 0)),.num (.av f),.num (.av g),.num (.int .i64 (.s n)),.atom .aa,.atom .aa,.atom .aa,.atom .aa,.atom .aa,.atom .aa,.atom .aa,.atom .aa,.atom .aa,.atom .aa,.atom .aa,.atom .aa,.atom .aa,.atom .aa,.atom .aa,.atom .aa,.atom .aa,.atom .aa,.atom .aa],[]⟩=>
  match b with
  |[⟨.gen i,.own⟩,⟨.aj v,.ro⟩,⟨.gen j,.own⟩]=>
   (match tO i with
   |some (h,k,l,m,o,ag,p)=>
   (match jS 16 j with
   |some X=>some ⟨h,f,g,k,l,m,o,ag,p,v,X,d,e,n⟩|none=>none)
   |none=>none)
  |_=>none
 |_=>none
def lC:eN vW where
 d0:=⟨⟨0,0,0,0,0,0,0,0⟩,0,0,0,0,0,0,0,0,0,0,0,0,0⟩
 read:=Kz
 az:=aed
 next:=vX
 rem:=fun⟨_,_,_,_,_,_,_,_,_,_,_,_,a,n⟩=>((a:Int)-n).toNat/128
 aT:=fun⟨_,b,_,_,_,_,_,_,_,v,_,c,a,n⟩=>decide (c+a≤v.n∧a≤1099511627776∧0≤n∧n≤a∧n%128=0∧a%128=0∧(b.toNat:Int)+((a:Int)-n)≤1152921504606846976)
 out:=.exit 0
def bI(n:Int):Nat→Int|0=>n|k+1=>bI n k+8
def Ge(n:Int):∀k:Nat,bI n k=n+8*k|0=>by unfold bI;omega|k+1=>by unfold bI;rw[Ge n k];omega
def aee(h:bq)(c d e f:BitVec 64)(g:Int)(i:U 8)(ag:Int)(j v:U 8)(X:U 64)(b a:Nat)(n:Int):lC.cE ⟨h,c,d,e,f,g,i,ag,j,v,X,b,a,n⟩ (b8 3) (lC.az (vX ⟨h,c,d,e,f,g,i,ag,j,v,X,b,a,n⟩)) (bZ vV aU 122 0) [true,false] .normal [cQ (bI n 16),decide ((((b+(((bI n 15)):Int).toNat)+8)≤v.n∧(8≤(a-(((bI n 15)):Int).toNat)∧(a-(((bI n 15)):Int).toNat)≤1099511627776))),((decide (0≤(bI n 15))&&decide ((bI n 15)≤(a:Int)))&&decide ((a:Int)≤(a:Int))),cQ (bI n 15),decide ((((b+(((bI n 14)):Int).toNat)+8)≤v.n∧(8≤(a-(((bI n 14)):Int).toNat)∧(a-(((bI n 14)):Int).toNat)≤1099511627776))),((decide (0≤(bI n 14))&&decide ((bI n 14)≤(a:Int)))&&decide ((a:Int)≤(a:Int))),cQ (bI n 14),decide ((((b+(((bI n 13)):Int).toNat)+8)≤v.n∧(8≤(a-(((bI n 13)):Int).toNat)∧(a-(((bI n 13)):Int).toNat)≤1099511627776))),((decide (0≤(bI n 13))&&decide ((bI n 13)≤(a:Int)))&&decide ((a:Int)≤(a:Int))),cQ (bI n 13),decide ((((b+(((bI n 12)):Int).toNat)+8)≤v.n∧(8≤(a-(((bI n 12)):Int).toNat)∧(a-(((bI n 12)):Int).toNat)≤1099511627776))),((decide (0≤(bI n 12))&&decide ((bI n 12)≤(a:Int)))&&decide ((a:Int)≤(a:Int))),cQ (bI n 12),decide ((((b+(((bI n 11)):Int).toNat)+8)≤v.n∧(8≤(a-(((bI n 11)):Int).toNat)∧(a-(((bI n 11)):Int).toNat)≤1099511627776))),((decide (0≤(bI n 11))&&decide ((bI n 11)≤(a:Int)))&&decide ((a:Int)≤(a:Int))),cQ (bI n 11),decide ((((b+(((bI n 10)):Int).toNat)+8)≤v.n∧(8≤(a-(((bI n 10)):Int).toNat)∧(a-(((bI n 10)):Int).toNat)≤1099511627776))),((decide (0≤(bI n 10))&&decide ((bI n 10)≤(a:Int)))&&decide ((a:Int)≤(a:Int))),cQ (bI n 10),decide ((((b+(((bI n 9)):Int).toNat)+8)≤v.n∧(8≤(a-(((bI n 9)):Int).toNat)∧(a-(((bI n 9)):Int).toNat)≤1099511627776))),((decide (0≤(bI n 9))&&decide ((bI n 9)≤(a:Int)))&&decide ((a:Int)≤(a:Int))),cQ (bI n 9),decide ((((b+(((bI n 8)):Int).toNat)+8)≤v.n∧(8≤(a-(((bI n 8)):Int).toNat)∧(a-(((bI n 8)):Int).toNat)≤1099511627776))),((decide (0≤(bI n 8))&&decide ((bI n 8)≤(a:Int)))&&decide ((a:Int)≤(a:Int))),cQ (bI n 8),decide ((((b+(((bI n 7)):Int).toNat)+8)≤v.n∧(8≤(a-(((bI n 7)):Int).toNat)∧(a-(((bI n 7)):Int).toNat)≤1099511627776))),((decide (0≤(bI n 7))&&decide ((bI n 7)≤(a:Int)))&&decide ((a:Int)≤(a:Int))),cQ (bI n 7),decide ((((b+(((bI n 6)):Int).toNat)+8)≤v.n∧(8≤(a-(((bI n 6)):Int).toNat)∧(a-(((bI n 6)):Int).toNat)≤1099511627776))),((decide (0≤(bI n 6))&&decide ((bI n 6)≤(a:Int)))&&decide ((a:Int)≤(a:Int))),cQ (bI n 6),decide ((((b+(((bI n 5)):Int).toNat)+8)≤v.n∧(8≤(a-(((bI n 5)):Int).toNat)∧(a-(((bI n 5)):Int).toNat)≤1099511627776))),((decide (0≤(bI n 5))&&decide ((bI n 5)≤(a:Int)))&&decide ((a:Int)≤(a:Int))),cQ (bI n 5),decide ((((b+(((bI n 4)):Int).toNat)+8)≤v.n∧(8≤(a-(((bI n 4)):Int).toNat)∧(a-(((bI n 4)):Int).toNat)≤1099511627776))),((decide (0≤(bI n 4))&&decide ((bI n 4)≤(a:Int)))&&decide ((a:Int)≤(a:Int))),cQ (bI n 4),decide ((((b+(((bI n 3)):Int).toNat)+8)≤v.n∧(8≤(a-(((bI n 3)):Int).toNat)∧(a-(((bI n 3)):Int).toNat)≤1099511627776))),((decide (0≤(bI n 3))&&decide ((bI n 3)≤(a:Int)))&&decide ((a:Int)≤(a:Int))),cQ (bI n 3),decide ((((b+(((bI n 2)):Int).toNat)+8)≤v.n∧(8≤(a-(((bI n 2)):Int).toNat)∧(a-(((bI n 2)):Int).toNat)≤1099511627776))),((decide (0≤(bI n 2))&&decide ((bI n 2)≤(a:Int)))&&decide ((a:Int)≤(a:Int))),cQ (bI n 2),decide ((((b+(((bI n 1)):Int).toNat)+8)≤v.n∧(8≤(a-(((bI n 1)):Int).toNat)∧(a-(((bI n 1)):Int).toNat)≤1099511627776))),((decide (0≤(bI n 1))&&decide ((bI n 1)≤(a:Int)))&&decide ((a:Int)≤(a:Int))),cQ (bI n 1),decide ((((b+n.toNat)+8)≤v.n∧(8≤(a-n.toNat)∧(a-n.toNat)≤1099511627776))),((decide (0≤n)&&decide (n≤(a:Int)))&&decide ((a:Int)≤(a:Int))),(decide ((c+(128#64)).toNat<(128#64).toNat)==false),(decide (n<(a:Int))==true)]:=by show _=_;kernel_rfl
def aef(h:bq)(b c d e:BitVec 64)(f:Int)(g:U 8)(ag:Int)(i v:U 8)(X:U 64)(j a:Nat)(n:Int):lC.cE ⟨h,b,c,d,e,f,g,ag,i,v,X,j,a,n⟩ none (lC.fin ⟨h,b,c,d,e,f,g,ag,i,v,X,j,a,n⟩) (bZ vV aU 122 0) [false] lC.out [(decide (n<(a:Int))==false)]:=by show _=_;kernel_rfl
def aeg(a:aJ)(b:List ah)(d:vW)(h:lC.read a b=some d):(a,b)=lC.az d:=by
 replace h:Kz a b=some d:=h;unfold Kz at h;split at h
 case h_2=>cases h
 split at h
 case h_2=>cases h
 split at h
 case h_2=>cases h
 rename_i c;cases x3 c;split at h
 case h_2=>cases h
 rename_i e;obtain⟨rfl,_⟩:=kU e;cases h;rfl
def aeh:dg Tryz.prog bB (an 122) (bS Tryz.prog 122) (bh Tryz.prog 122 0) (bZ vV aU 122 0):=iz Ky (cL _) 122 0 Rb (by rw[show(cI Tryz.prog 122).length=3 by kernel_rfl];omega)
def aei:eF Tryz.prog bB (an 122) (bS Tryz.prog 122) (bh Tryz.prog 122 0) lC.T.told:=by
 refine lC.jT aeh (by intro k o;have o:k∈([]:List ah):=o;cases o) (by intro h;cases h) aeg ?_ ?_
 ·rintro⟨h,b,d,e,f,g,i,ag,j,v,X,c,a,n⟩ r l m;have l:=bg l;have m:((a:Int)-n).toNat/128=r+1:=m;have p:(128#64).toNat=128:=rfl;have s:(b+128#64).toNat=b.toNat+128:=by have:=b.isLt;rw[eB,p];omega
  have t:lC.next ⟨h,b,d,e,f,g,i,ag,j,v,X,c,a,n⟩=vX ⟨h,b,d,e,f,g,i,ag,j,v,X,c,a,n⟩:=rfl;rw[t];refine⟨⟨[true,false],(b8 3),_,aee h b d e f g i ag j v X c a n,?_⟩,?_,?_,(show(lC.az (vX ⟨h,b,d,e,f,g,i,ag,j,v,X,c,a,n⟩)).2.length=3 by kernel_rfl).trans (show(lC.az ⟨h,b,d,e,f,g,i,ag,j,v,X,c,a,n⟩).2.length=3 by kernel_rfl).symm⟩
  ·repeat'(refine aA ?_ ?_)
   all_goals first|exact aX|rfl|(simp only[cz,Ge]<;>omega)
  ·have q:lC.aT (vX ⟨h,b,d,e,f,g,i,ag,j,v,X,c,a,n⟩)=decide (c+a≤v.n∧a≤1099511627776∧0≤(bI n 16)∧(bI n 16)≤a∧(bI n 16)%128=0∧a%128=0∧((b+128#64:BitVec 64).toNat:Int)+((a:Int)-((bI n 16):Int))≤1152921504606846976):=by kernel_rfl
   refine q.trans (bu ?_);simp only[Ge];omega
  ·have q:lC.rem (vX ⟨h,b,d,e,f,g,i,ag,j,v,X,c,a,n⟩)=(((a:Int)-((bI n 16):Int)).toNat/128):=by kernel_rfl
   refine q.trans ?_;simp only[Ge];omega
 ·rintro⟨h,b,d,e,f,g,i,ag,j,v,X,c,a,n⟩ l m;have l:=bg l;have m:((a:Int)-n).toNat/128=0:=m;have p:(128#64).toNat=128:=rfl;have s:(b+128#64).toNat=b.toNat+128:=by have:=b.isLt;rw[eB,p];omega
  refine⟨[false],none,_,aef h b d e f g i ag j v X c a n,?_⟩
  repeat'(refine aA ?_ ?_)
  all_goals first|exact aX|rfl|(simp only[cz]<;>omega)
def KA:cP:=lC.T.told
def aej:Told 122 0 KA:=aei.run
def tT:FuncId→Nat→Option cP|122,3=>some KA|_,_=>none
def aek:(cI Tryz.prog 122).length=3:=by kernel_rfl
def ael(spec:FuncId→Option ay.Spec):c6 (dh spec tT) bB:=by
 refine c6.of fun f=>?_;by_cases c:f=122
 ·subst c;refine .inr ⟨by kernel_rfl,fun i hi d a=>?_⟩;have hi:i<(cI Tryz.prog 122).length:=hi;rw[aek]at hi;have e:i=0∨i=1∨i=2:=by omega
  rcases e with rfl|rfl|rfl
  ·have b:(bY (bh Tryz.prog 122 0)).bind (tT 122)=some KA:=by kernel_rfl
   obtain rfl:=dV (b.symm.trans a);exact aej
  ·have b:(bY (bh Tryz.prog 122 1)).bind (tT 122)=none:=by kernel_rfl
   have a:(bY (bh Tryz.prog 122 1)).bind (tT 122)=some d:=a;rw[b]at a;cases a
  ·have b:(bY (bh Tryz.prog 122 2)).bind (tT 122)=none:=by kernel_rfl
   have a:(bY (bh Tryz.prog 122 2)).bind (tT 122)=some d:=a;rw[b]at a;cases a
 ·refine .inl fun r=>?_
  show tT f r=none;unfold tT;split
  ·exact absurd rfl c
  ·rfl
def R2(a:U 8):jR (cw a) 128=jR a 128:=by
 refine H9 fun i hi=>?_;have hi:=oA.1 hi;have b:(cw a).l.getD i 0#8=a.l.getD i 0#8:=by
  show((List.range 128).map fun i=>a.l.getD i 0#8).getD i 0#8=_;simp[dY,hi]
 rw[b]
def gQ(c:BitVec 64):Nat→BitVec 64|0=>c|k+1=>gQ c k+128#64
def jf(h:bq)(a b:BitVec 64)(v:U 8)(c:Nat):Nat→bq|0=>h|k+1=>cr (jf h a b v c k) (gQ a k+128#64) b 0#64 (e7 v (c+128*k))
def aem(v:U 8)(a n:Nat):yc v a (n:Int)=e7 v (a+n):=by
 unfold yc e7 gu;simp only[show a+((n:Int)).toNat=a+n+0 by omega,show a+(((n:Int)+8)).toNat=a+n+8 by omega,show a+((((n:Int)+8)+8)).toNat=a+n+16 by omega,show a+(((((n:Int)+8)+8)+8)).toNat=a+n+24 by omega,show a+((((((n:Int)+8)+8)+8)+8)).toNat=a+n+32 by omega,show a+(((((((n:Int)+8)+8)+8)+8)+8)).toNat=a+n+40 by omega,show a+((((((((n:Int)+8)+8)+8)+8)+8)+8)).toNat=a+n+48 by omega,show a+(((((((((n:Int)+8)+8)+8)+8)+8)+8)+8)).toNat=a+n+56 by omega,show a+((((((((((n:Int)+8)+8)+8)+8)+8)+8)+8)+8)).toNat=a+n+64 by omega,show a+(((((((((((n:Int)+8)+8)+8)+8)+8)+8)+8)+8)+8)).toNat=a+n+72 by omega,show a+((((((((((((n:Int)+8)+8)+8)+8)+8)+8)+8)+8)+8)+8)).toNat=a+n+80 by omega,show a+(((((((((((((n:Int)+8)+8)+8)+8)+8)+8)+8)+8)+8)+8)+8)).toNat=a+n+88 by omega,show a+((((((((((((((n:Int)+8)+8)+8)+8)+8)+8)+8)+8)+8)+8)+8)+8)).toNat=a+n+96 by omega,show a+(((((((((((((((n:Int)+8)+8)+8)+8)+8)+8)+8)+8)+8)+8)+8)+8)+8)).toNat=a+n+104 by omega,show a+((((((((((((((((n:Int)+8)+8)+8)+8)+8)+8)+8)+8)+8)+8)+8)+8)+8)+8)).toNat=a+n+112 by omega,show a+(((((((((((((((((n:Int)+8)+8)+8)+8)+8)+8)+8)+8)+8)+8)+8)+8)+8)+8)+8)).toNat=a+n+120 by omega,iD,Nat.reduceAdd]
def jg(h:bq)(a b:BitVec 64)(d:Int)(e:U 8)(ag:Int)(f v:U 8)(g c:Nat):vW:=iter vX (((c:Int)-0).toNat/128) ⟨h,a,b,a,b,d,cw e,ag,cw f,v,U.of (List.replicate 16 0#64),g,c,0⟩
def R3(h:bq)(b c d e:BitVec 64)(f:Int)(g:U 8)(ag:Int)(i v:U 8)(X:U 64)(a j:Nat):∀k:Nat,∃l,iter vX k ⟨h,b,c,d,e,f,g,ag,i,v,X,a,j,0⟩=⟨jf h b c v a k,gQ b k,c,d,e,f,g,ag,i,v,l,a,j,((128*k:Nat):Int)⟩
 |0=>⟨X,rfl⟩|k+1=>by
  obtain⟨l,m⟩:=R3 h b c d e f g ag i v X a j k;refine⟨yc v a ((128*k:Nat):Int),?_⟩;rw[gG,m]
  show(⟨cr (jf h b c v a k) (gQ b k+128#64) c 0#64 (yc v a ((128*k:Nat):Int)),gQ b k+128#64,c,d,e,f,g,ag,i,v,yc v a ((128*k:Nat):Int),a,j,(((((((((((((((((128*k:Nat):Int)+8)+8)+8)+8)+8)+8)+8)+8)+8)+8)+8)+8)+8)+8)+8)+8⟩:vW)=_;rw[aem,show(((((((((((((((((128*k:Nat):Int)+8)+8)+8)+8)+8)+8)+8)+8)+8)+8)+8)+8)+8)+8)+8)+8=((128*(k+1):Nat):Int) by omega];rfl
def aen(h:bq)(b c:BitVec 64)(d:Int)(e:U 8)(ag:Int)(f v:U 8)(g a:Nat):(jg h b c d e ag f v g a).h=jf h b c v g (a/128)∧(jg h b c d e ag f v g a).aZ=gQ b (a/128)∧(jg h b c d e ag f v g a).qI=c∧(jg h b c d e ag f v g a).ku=d∧(jg h b c d e ag f v g a).o4=cw e∧(jg h b c d e ag f v g a).ag=ag∧(jg h b c d e ag f v g a).kb=cw f:=by
 obtain⟨j,i⟩:=R3 h b c b c d (cw e) ag (cw f) v (U.of (List.replicate 16 0#64)) g a (a/128);unfold jg;rw[show((a:Int)-0).toNat=a by omega,i];exact⟨rfl,rfl,rfl,rfl,rfl,rfl,rfl⟩
def aeo(h:bq)(a b:BitVec 64)(c:Int)(d:U 8)(ag:Int)(e:U 8):cZ h a b c (cw d) ag (cw e)=cZ h a b c d ag e:=by
 unfold cZ;rw[R2,R2]
structure KB where
 (h:bq)(aZ qI:BitVec 64)(ku:Int)(o4:U 8)(ag:Int)(kb v:U 8)(o iA:Nat)
def KC(a:List af)(b:List ah):Option KB:=
 match a with
 |[.ref (.ptr 0 (.c 0)),.ref (.ptr 0 (.c 8)),.num (.int .u64 (.c 0)),.ref (.sl 1 (.s d) (.s e) none)]=>
  match b with
  |[⟨.gen f,.own⟩,⟨.aj v,.ro⟩]=>
   (match tO f with
   |some (h,g,i,j,k,ag,l)=>some ⟨h,g,i,j,k,ag,l,v,d,e⟩|none=>none)
  |_=>none
 |_=>none
def su:bV KB where
 d0:=⟨⟨0,0,0,0,0,0,0,0⟩,0,0,0,0,0,0,0,0,0⟩
 read:=KC
 args:=fun⟨_,_,_,_,_,_,_,_,d,a⟩=>[.P 0,.ref (.ptr 0 (.c 8)),.num (.int .u64 (.c 0)),.ref (.sl 1 (.s d) (.s a) none)]
 heap:=fun⟨h,b,e,f,g,ag,i,v,_,_⟩=>[⟨.gen (cZ h b e f g ag i),.own⟩,⟨.aj v,.ro⟩]
 out:=fun⟨h,b,e,f,g,ag,i,v,d,a⟩=>[⟨.gen (cZ (jf h b e v d (a/128)) (gQ b (a/128)) e f g ag i),.own⟩,⟨.aj v,.ro⟩]
 val:=fun⟨_,_,_,_,_,_,_,_,_,_⟩=>(.bA [])
 aT:=fun⟨_,b,_,_,_,_,_,v,d,a⟩=>decide (d+a≤v.n∧a≤1099511627776∧a%128=0∧b.toNat+a≤1152921504606846976)
def aep(h:bq)(a b:BitVec 64)(c:Int)(d:U 8)(ag:Int)(e v:U 8)(f g:Nat):su.cE ⟨h,a,b,c,d,ag,e,v,f,g⟩ (b8 2) (b9 vV tT 122) [] [⟨.gen (cZ (jg h a b c d ag e v f g).h (jg h a b c d ag e v f g).aZ (jg h a b c d ag e v f g).qI (jg h a b c d ag e v f g).ku (jg h a b c d ag e v f g).o4 (jg h a b c d ag e v f g).ag (jg h a b c d ag e v f g).kb),.own⟩,⟨.aj v,.ro⟩] (.bA []) [lC.aT ⟨h,a,b,a,b,c,cw d,ag,cw e,v,U.of (List.replicate 16 0#64),f,g,0⟩]:=by show _=_;kernel_rfl
def aeq(a:List af)(b:List ah)(d:KB)(h:su.read a b=some d):a=su.args d∧b=su.heap d:=by
 replace h:KC a b=some d:=h;unfold KC at h;split at h
 case h_2=>cases h
 split at h
 case h_2=>cases h
 split at h
 case h_2=>cases h
 rename_i c;cases x3 c;cases h;exact⟨rfl,rfl⟩
def R4:br 122 su.spec:=by
 refine su.ok (dn Ky (ael _)) aeq ?_;rintro⟨h,b,c,e,f,ag,g,v,d,a⟩ i;have i:=bg i;have j:su.out ⟨h,b,c,e,f,ag,g,v,d,a⟩=[⟨.gen (cZ ((jg h b c e f ag g v d a)).h ((jg h b c e f ag g v d a)).aZ ((jg h b c e f ag g v d a)).qI ((jg h b c e f ag g v d a)).ku ((jg h b c e f ag g v d a)).o4 ((jg h b c e f ag g v d a)).ag ((jg h b c e f ag g v d a)).kb),.own⟩,⟨.aj v,.ro⟩]:=by
  obtain⟨k,l,m,o,p,q,r⟩:=aen h b c e f ag g v d a;rw[k,l,m,o,p,q,r,aeo];rfl
 have ev:su.val ⟨h,b,c,e,f,ag,g,v,d,a⟩=(.obj .bA []):=by
  rfl
 rw[j,ev];refine⟨[],(b8 2),_,aep h b c e f ag g v d a,?_⟩;refine aA ?_ aX;refine(show lC.aT ⟨h,b,c,b,c,e,cw f,ag,cw g,v,U.of (List.replicate 16 0#64),d,a,0⟩=decide (d+a≤v.n∧a≤1099511627776∧(0:Int)≤0∧(0:Int)≤(a:Nat)∧(0:Int)%128=0∧a%128=0∧(b.toNat:Int)+((a:Int)-0)≤1152921504606846976) by kernel_rfl).trans (bu ?_);omega
def R5:ay.Spec:=fW su.spec (fW vK.spec sk.spec)
def aer:br 122 R5:=dF.or R4 (dF.or Rf ack)
def sv:FuncId→Option ay.Spec|122=>some R5|_=>none
def aes:∀f a,sv f=some a→br f a:=by
 intro f a h;unfold sv at h;split at h
 ·cases h;exact aer
 ·cases h
def gA(a:U 8)(ag:Int)(v:U 8)(b n:Nat):U 8:=(cw a).over (11+ag.toNat*1-11) (v.sub b (Nat.min n (128-ag.toNat)))
def gy(a v:U 8)(b n:Nat):U 8:=(cw a).over 0 (v.sub b (Nat.min n 128))
def iB(n:Nat):Int:=((Nat.min n 128:Nat):Int)
def aP(n:Nat):Nat:=(n-1)/128
def fM(h:bq)(a b:BitVec 64)(e:U 8)(ag:Int)(v:U 8)(c d:Nat):bq:=
 if 0<ag then
  if(d:Int)≤128-ag then h
  else jf (cr h (a+128#64) b 0#64 (e7 (gA e ag v c (128-ag).toNat) 0)) (a+128#64) b v (c+(128-ag).toNat) (aP (d-(128-ag).toNat))
 else jf h a b v c (aP d)
def bK(a:BitVec 64)(ag:Int)(b:Nat):BitVec 64:=
 if 0<ag then
  if(b:Int)≤128-ag then a
  else gQ (a+128#64) (aP (b-(128-ag).toNat))
 else gQ a (aP b)
def fq(b:U 8)(ag:Int)(v:U 8)(c a:Nat):U 8:=
 if 0<ag then
  if(a:Int)≤128-ag then gA b ag v c a
  else gy (cw (gA b ag v c (128-ag).toNat)) v (c+(128-ag).toNat+128*aP (a-(128-ag).toNat)) (a-(128-ag).toNat-128*aP (a-(128-ag).toNat))
 else if 0<a then gy b v (c+128*aP a) (a-128*aP a)else b
def aq(ag:Int)(a:Nat):Int:=
 if 0<ag then
  if(a:Int)≤128-ag then ag+a
  else(((a-(128-ag).toNat)-128*aP (a-(128-ag).toNat):Nat):Int)
 else((a-128*aP a:Nat):Int)
structure KD where
 (h:bq)(aZ qI:BitVec 64)(ku:Int)(o4:U 8)(ag:Int)(kb v:U 8)(o iA:Nat)
def KE(a:List af)(b:List ah):Option KD:=
 match a with
 |[.ref (.ptr 0 (.c 0)),.ref (.sl 1 (.s d) (.s e) none)]=>
  match b with
  |[⟨.gen f,.own⟩,⟨.aj v,.ro⟩]=>
   (match tO f with
   |some (h,g,i,j,k,ag,l)=>some ⟨h,g,i,j,k,ag,l,v,d,e⟩|none=>none)
  |_=>none
 |_=>none
def iP:bV KD where
 d0:=⟨⟨0,0,0,0,0,0,0,0⟩,0,0,0,0,0,0,0,0,0⟩
 read:=KE
 args:=fun⟨_,_,_,_,_,_,_,_,b,a⟩=>[.P 0,.ref (.sl 1 (.s b) (.s a) none)]
 heap:=fun⟨h,c,d,f,e,ag,g,v,_,_⟩=>[⟨.gen (cZ h c d f e ag g),.own⟩,⟨.aj v,.ro⟩]
 out:=fun⟨h,c,d,f,e,ag,g,v,b,a⟩=>[⟨.gen (cZ (fM h c d e ag v b a) (bK c ag a) d f (fq e ag v b a) (aq ag a) g),.own⟩,⟨.aj v,.ro⟩]
 val:=fun⟨_,_,_,_,_,_,_,_,_,a⟩=>(.obj .bA [.au (a:Int),.atom .fD])
 aT:=fun⟨_,c,_,_,_,ag,_,v,b,a⟩=>decide (0≤ag∧ag≤128∧b+a≤v.n∧a≤1099511627776∧c.toNat+a+256≤1152921504606846976)
def aet(a:List af)(b:List ah)(d:KD)(h:iP.read a b=some d):a=iP.args d∧b=iP.heap d:=by
 replace h:KE a b=some d:=h;unfold KE at h;split at h
 case h_2=>cases h
 split at h
 case h_2=>cases h
 split at h
 case h_2=>cases h
 rename_i c;cases x3 c;cases h;exact⟨rfl,rfl⟩
def aeu(h:bq)(b c:BitVec 64)(d:Int)(e:U 8)(ag:Int)(f v:U 8)(g a:Nat):iP.cE ⟨h,b,c,d,e,ag,f,v,g,a⟩ (b8 2) (b9 sv aU 119) (bt 3 0) [⟨.gen (cZ h b c d e ag f),.own⟩,⟨.aj v,.ro⟩] (.obj .bA [.au (a:Int),.atom .fD]) [(decide (0<(a:Int))==false),(decide (128<(a:Int))==false),(decide (0<ag)==false)]:=by show _=_;kernel_rfl
def aev(h:bq)(c d:BitVec 64)(e:Int)(f:U 8)(ag:Int)(g v:U 8)(b a:Nat):iP.cE ⟨h,c,d,e,f,ag,g,v,b,a⟩ (b8 2) (b9 sv aU 119) (bt 3 4) [⟨.gen (cZ h c d e (gy f v b a) (ag+iB a) g),.own⟩,⟨.aj v,.ro⟩] (.obj .bA [.au (a:Int),.atom .fD]) [cQ (ag+(((Nat.min a (128:Nat)):Nat):Int)),decide (((11:Nat)≤(11+0)∧((11+0)+(Nat.min a (128:Nat)))≤139)),decide ((b+(Nat.min a (128:Nat)))≤v.n),(decide (0<(a:Int))==true),(decide (128<(a:Int))==false),(decide (0<ag)==false)]:=by show _=_;kernel_rfl
def aew(h:bq)(c d:BitVec 64)(e:Int)(f:U 8)(ag:Int)(g v:U 8)(b a:Nat):iP.cE ⟨h,c,d,e,f,ag,g,v,b,a⟩ (b8 2) (b9 sv aU 119) (bt 4 10) [⟨.gen (cZ (jf h c d v b ((bp .i64 (a:Int) 127).toNat/128)) (gQ c ((bp .i64 (a:Int) 127).toNat/128)) d e (gy (cw f) v (b+(bp .i64 (a:Int) 127).toNat) (a-(bp .i64 (a:Int) 127).toNat)) (ag+iB (a-(bp .i64 (a:Int) 127).toNat)) g),.own⟩,⟨.aj v,.ro⟩] (.obj .bA [.au (a:Int),.atom .fD]) [cQ (ag+(((Nat.min (a-(((bp .i64 (a:Int) 127)):Int).toNat) (128:Nat)):Nat):Int)),decide (((11:Nat)≤(11+0)∧((11+0)+(Nat.min (a-(((bp .i64 (a:Int) 127)):Int).toNat) (128:Nat)))≤139)),decide (((b+(((bp .i64 (a:Int) 127)):Int).toNat)+(Nat.min (a-(((bp .i64 (a:Int) 127)):Int).toNat) (128:Nat)))≤v.n),(decide ((0:Int)<(((a-(((bp .i64 (a:Int) 127)):Int).toNat):Nat):Int))==true),((decide (0≤(bp .i64 (a:Int) 127))&&decide ((bp .i64 (a:Int) 127)≤(a:Int)))&&decide ((a:Int)≤(a:Int))),decide ((((b+(0:Nat))+((((bp .i64 (a:Int) 127)):Int).toNat-(0:Nat)))≤v.n∧(((((bp .i64 (a:Int) 127)):Int).toNat-(0:Nat))≤1099511627776∧((((((bp .i64 (a:Int) 127)):Int).toNat-(0:Nat))%128)=0∧(c.toNat+((((bp .i64 (a:Int) 127)):Int).toNat-(0:Nat)))≤1152921504606846976)))),(decide (0≤(bp .i64 (a:Int) 127))&&decide ((bp .i64 (a:Int) 127)≤(a:Int))),(((a:Int)==(bp .i64 (a:Int) 127))==false),decide ((0:Int)≤127),(decide (128<(a:Int))==true),(decide (0<ag)==false)]:=by show _=_;kernel_rfl
def aex(h:bq)(c d:BitVec 64)(e:Int)(f:U 8)(ag:Int)(g v:U 8)(b a:Nat):iP.cE ⟨h,c,d,e,f,ag,g,v,b,a⟩ (b8 2) (b9 sv aU 119) (bt 4 14) [⟨.gen (cZ (jf h c d v b (((bp .i64 (a:Int) 127)-128).toNat/128)) (gQ c (((bp .i64 (a:Int) 127)-128).toNat/128)) d e (gy (cw f) v (b+((bp .i64 (a:Int) 127)-128).toNat) (a-((bp .i64 (a:Int) 127)-128).toNat)) (ag+iB (a-((bp .i64 (a:Int) 127)-128).toNat)) g),.own⟩,⟨.aj v,.ro⟩] (.obj .bA [.au (a:Int),.atom .fD]) [cQ (ag+(((Nat.min (a-((((bp .i64 (a:Int) 127)-128)):Int).toNat) (128:Nat)):Nat):Int)),decide (((11:Nat)≤(11+0)∧((11+0)+(Nat.min (a-((((bp .i64 (a:Int) 127)-128)):Int).toNat) (128:Nat)))≤139)),decide (((b+((((bp .i64 (a:Int) 127)-128)):Int).toNat)+(Nat.min (a-((((bp .i64 (a:Int) 127)-128)):Int).toNat) (128:Nat)))≤v.n),(decide ((0:Int)<(((a-((((bp .i64 (a:Int) 127)-128)):Int).toNat):Nat):Int))==true),((decide (0≤((bp .i64 (a:Int) 127)-128))&&decide (((bp .i64 (a:Int) 127)-128)≤(a:Int)))&&decide ((a:Int)≤(a:Int))),decide ((((b+(0:Nat))+(((((bp .i64 (a:Int) 127)-128)):Int).toNat-(0:Nat)))≤v.n∧((((((bp .i64 (a:Int) 127)-128)):Int).toNat-(0:Nat))≤1099511627776∧(((((((bp .i64 (a:Int) 127)-128)):Int).toNat-(0:Nat))%128)=0∧(c.toNat+(((((bp .i64 (a:Int) 127)-128)):Int).toNat-(0:Nat)))≤1152921504606846976)))),(decide (0≤((bp .i64 (a:Int) 127)-128))&&decide (((bp .i64 (a:Int) 127)-128)≤(a:Int))),cQ ((bp .i64 (a:Int) 127)-128),(((a:Int)==(bp .i64 (a:Int) 127))==true),decide ((0:Int)≤127),(decide (128<(a:Int))==true),(decide (0<ag)==false)]:=by show _=_;kernel_rfl
def aey(h:bq)(c d:BitVec 64)(e:Int)(f:U 8)(ag:Int)(g v:U 8)(b a:Nat):iP.cE ⟨h,c,d,e,f,ag,g,v,b,a⟩ (b8 2) (b9 sv aU 119) [true,true] [⟨.gen (cZ h c d e (gA f ag v b a) (ag+((Nat.min a (128-ag.toNat):Nat):Int)) g),.own⟩,⟨.aj v,.ro⟩] (.obj .bA [.au (a:Int),.atom .fD]) [cQ (ag+(((Nat.min a ((128:Nat)-ag.toNat)):Nat):Int)),decide (((11:Nat)≤(11+(ag.toNat*1))∧((11+(ag.toNat*1))+(Nat.min a ((128:Nat)-ag.toNat)))≤139)),decide ((b+(Nat.min a ((128:Nat)-ag.toNat)))≤v.n),((decide (0≤ag)&&decide (ag≤(128:Int)))&&true),(decide ((a:Int)≤(128-ag))==true),cQ (128-ag),(decide (0<ag)==true)]:=by show _=_;kernel_rfl
def aez(h:bq)(c d:BitVec 64)(f:Int)(e:U 8)(ag:Int)(g v:U 8)(b a:Nat):iP.cE ⟨h,c,d,f,e,ag,g,v,b,a⟩ (b8 2) (b9 sv aU 119) (bt 4 9) [⟨.gen (cZ (cr h (c+128#64) d 0#64 (e7 (gA e ag v b (128-ag).toNat) 0)) (c+128#64) d f (gy (cw (gA e ag v b (128-ag).toNat)) v (b+(128-ag).toNat) (a-(128-ag).toNat)) (0+iB (a-(128-ag).toNat)) g),.own⟩,⟨.aj v,.ro⟩] (.obj .bA [.au (a:Int),.atom .fD]) [cQ (0+(((Nat.min (a-(((128-ag)):Int).toNat) (128:Nat)):Nat):Int)),decide (((11:Nat)≤(11+0)∧((11+0)+(Nat.min (a-(((128-ag)):Int).toNat) (128:Nat)))≤139)),decide (((b+(((128-ag)):Int).toNat)+(Nat.min (a-(((128-ag)):Int).toNat) (128:Nat)))≤v.n),(decide ((0:Int)<(((a-(((128-ag)):Int).toNat):Nat):Int))==true),(decide ((128:Int)<(((a-(((128-ag)):Int).toNat):Nat):Int))==false),((decide ((0:Int)≤(128-ag))&&decide ((128-ag)≤(a:Int)))&&decide ((a:Int)≤(a:Int))),decide ((¬(c+128#64).toNat<(128#64).toNat)),decide (((11:Nat)≤(11+(ag.toNat*1))∧((11+(ag.toNat*1))+(Nat.min ((((128-ag)):Int).toNat-(0:Nat)) ((128:Nat)-ag.toNat)))≤139)),decide (((b+(0:Nat))+(Nat.min ((((128-ag)):Int).toNat-(0:Nat)) ((128:Nat)-ag.toNat)))≤v.n),(decide ((0:Int)≤(128-ag))&&decide ((128-ag)≤(a:Int))),((decide (0≤ag)&&decide (ag≤(128:Int)))&&true),(decide ((a:Int)≤(128-ag))==false),cQ (128-ag),(decide (0<ag)==true)]:=by show _=_;kernel_rfl
def aeA(h:bq)(c d:BitVec 64)(f:Int)(e:U 8)(ag:Int)(g v:U 8)(b a:Nat):iP.cE ⟨h,c,d,f,e,ag,g,v,b,a⟩ (b8 2) (b9 sv aU 119) (bt 5 21) [⟨.gen (cZ (jf (cr h (c+128#64) d 0#64 (e7 (gA e ag v b (128-ag).toNat) 0)) (c+128#64) d v (b+(128-ag).toNat) ((bp .i64 (((a-(128-ag).toNat):Nat):Int) 127).toNat/128)) (gQ (c+128#64) ((bp .i64 (((a-(128-ag).toNat):Nat):Int) 127).toNat/128)) d f (gy (cw (cw (gA e ag v b (128-ag).toNat))) v ((b+(128-ag).toNat)+(bp .i64 (((a-(128-ag).toNat):Nat):Int) 127).toNat) ((a-(128-ag).toNat)-(bp .i64 (((a-(128-ag).toNat):Nat):Int) 127).toNat)) (0+iB ((a-(128-ag).toNat)-(bp .i64 (((a-(128-ag).toNat):Nat):Int) 127).toNat)) g),.own⟩,⟨.aj v,.ro⟩] (.obj .bA [.au (a:Int),.atom .fD]) [cQ (0+(((Nat.min ((((((a-(((128-ag)):Int).toNat):Nat):Int)):Int).toNat-(((bp .i64 (((a-(((128-ag)):Int).toNat):Nat):Int) 127)):Int).toNat) (128:Nat)):Nat):Int)),decide (((11:Nat)≤(11+0)∧((11+0)+(Nat.min ((((((a-(((128-ag)):Int).toNat):Nat):Int)):Int).toNat-(((bp .i64 (((a-(((128-ag)):Int).toNat):Nat):Int) 127)):Int).toNat) (128:Nat)))≤139)),decide ((((b+(((128-ag)):Int).toNat)+(((bp .i64 (((a-(((128-ag)):Int).toNat):Nat):Int) 127)):Int).toNat)+(Nat.min ((((((a-(((128-ag)):Int).toNat):Nat):Int)):Int).toNat-(((bp .i64 (((a-(((128-ag)):Int).toNat):Nat):Int) 127)):Int).toNat) (128:Nat)))≤v.n),(decide ((0:Int)<((((((((a-(((128-ag)):Int).toNat):Nat):Int)):Int).toNat-(((bp .i64 (((a-(((128-ag)):Int).toNat):Nat):Int) 127)):Int).toNat):Nat):Int))==true),((decide (0≤(bp .i64 (((a-(((128-ag)):Int).toNat):Nat):Int) 127))&&decide ((bp .i64 (((a-(((128-ag)):Int).toNat):Nat):Int) 127)≤(((a-(((128-ag)):Int).toNat):Nat):Int)))&&decide ((((a-(((128-ag)):Int).toNat):Nat):Int)≤(((a-(((128-ag)):Int).toNat):Nat):Int))),decide (((((b+(((128-ag)):Int).toNat)+(0:Nat))+((((bp .i64 (((a-(((128-ag)):Int).toNat):Nat):Int) 127)):Int).toNat-(0:Nat)))≤v.n∧(((((bp .i64 (((a-(((128-ag)):Int).toNat):Nat):Int) 127)):Int).toNat-(0:Nat))≤1099511627776∧((((((bp .i64 (((a-(((128-ag)):Int).toNat):Nat):Int) 127)):Int).toNat-(0:Nat))%128)=0∧((c+(128#64)).toNat+((((bp .i64 (((a-(((128-ag)):Int).toNat):Nat):Int) 127)):Int).toNat-(0:Nat)))≤1152921504606846976)))),((true&&decide (0≤(bp .i64 (((a-(((128-ag)):Int).toNat):Nat):Int) 127)))&&decide ((bp .i64 (((a-(((128-ag)):Int).toNat):Nat):Int) 127)≤(((a-(((128-ag)):Int).toNat):Nat):Int))),(((((a-(((128-ag)):Int).toNat):Nat):Int)==(bp .i64 (((a-(((128-ag)):Int).toNat):Nat):Int) 127))==false),decide ((0:Int)≤127),(decide ((128:Int)<(((a-(((128-ag)):Int).toNat):Nat):Int))==true),((decide ((0:Int)≤(128-ag))&&decide ((128-ag)≤(a:Int)))&&decide ((a:Int)≤(a:Int))),decide ((¬(c+128#64).toNat<(128#64).toNat)),decide (((11:Nat)≤(11+(ag.toNat*1))∧((11+(ag.toNat*1))+(Nat.min ((((128-ag)):Int).toNat-(0:Nat)) ((128:Nat)-ag.toNat)))≤139)),decide (((b+(0:Nat))+(Nat.min ((((128-ag)):Int).toNat-(0:Nat)) ((128:Nat)-ag.toNat)))≤v.n),(decide ((0:Int)≤(128-ag))&&decide ((128-ag)≤(a:Int))),((decide (0≤ag)&&decide (ag≤(128:Int)))&&true),(decide ((a:Int)≤(128-ag))==false),cQ (128-ag),(decide (0<ag)==true)]:=by show _=_;kernel_rfl
def aeB(h:bq)(c d:BitVec 64)(f:Int)(e:U 8)(ag:Int)(g v:U 8)(b a:Nat):iP.cE ⟨h,c,d,f,e,ag,g,v,b,a⟩ (b8 2) (b9 sv aU 119) (bt 5 29) [⟨.gen (cZ (jf (cr h (c+128#64) d 0#64 (e7 (gA e ag v b (128-ag).toNat) 0)) (c+128#64) d v (b+(128-ag).toNat) (((bp .i64 (((a-(128-ag).toNat):Nat):Int) 127)-128).toNat/128)) (gQ (c+128#64) (((bp .i64 (((a-(128-ag).toNat):Nat):Int) 127)-128).toNat/128)) d f (gy (cw (cw (gA e ag v b (128-ag).toNat))) v ((b+(128-ag).toNat)+((bp .i64 (((a-(128-ag).toNat):Nat):Int) 127)-128).toNat) ((a-(128-ag).toNat)-((bp .i64 (((a-(128-ag).toNat):Nat):Int) 127)-128).toNat)) (0+iB ((a-(128-ag).toNat)-((bp .i64 (((a-(128-ag).toNat):Nat):Int) 127)-128).toNat)) g),.own⟩,⟨.aj v,.ro⟩] (.obj .bA [.au (a:Int),.atom .fD]) [cQ (0+(((Nat.min ((((((a-(((128-ag)):Int).toNat):Nat):Int)):Int).toNat-((((bp .i64 (((a-(((128-ag)):Int).toNat):Nat):Int) 127)-128)):Int).toNat) (128:Nat)):Nat):Int)),decide (((11:Nat)≤(11+0)∧((11+0)+(Nat.min ((((((a-(((128-ag)):Int).toNat):Nat):Int)):Int).toNat-((((bp .i64 (((a-(((128-ag)):Int).toNat):Nat):Int) 127)-128)):Int).toNat) (128:Nat)))≤139)),decide ((((b+(((128-ag)):Int).toNat)+((((bp .i64 (((a-(((128-ag)):Int).toNat):Nat):Int) 127)-128)):Int).toNat)+(Nat.min ((((((a-(((128-ag)):Int).toNat):Nat):Int)):Int).toNat-((((bp .i64 (((a-(((128-ag)):Int).toNat):Nat):Int) 127)-128)):Int).toNat) (128:Nat)))≤v.n),(decide ((0:Int)<((((((((a-(((128-ag)):Int).toNat):Nat):Int)):Int).toNat-((((bp .i64 (((a-(((128-ag)):Int).toNat):Nat):Int) 127)-128)):Int).toNat):Nat):Int))==true),((decide (0≤((bp .i64 (((a-(((128-ag)):Int).toNat):Nat):Int) 127)-128))&&decide (((bp .i64 (((a-(((128-ag)):Int).toNat):Nat):Int) 127)-128)≤(((a-(((128-ag)):Int).toNat):Nat):Int)))&&decide ((((a-(((128-ag)):Int).toNat):Nat):Int)≤(((a-(((128-ag)):Int).toNat):Nat):Int))),decide (((((b+(((128-ag)):Int).toNat)+(0:Nat))+(((((bp .i64 (((a-(((128-ag)):Int).toNat):Nat):Int) 127)-128)):Int).toNat-(0:Nat)))≤v.n∧((((((bp .i64 (((a-(((128-ag)):Int).toNat):Nat):Int) 127)-128)):Int).toNat-(0:Nat))≤1099511627776∧(((((((bp .i64 (((a-(((128-ag)):Int).toNat):Nat):Int) 127)-128)):Int).toNat-(0:Nat))%128)=0∧((c+(128#64)).toNat+(((((bp .i64 (((a-(((128-ag)):Int).toNat):Nat):Int) 127)-128)):Int).toNat-(0:Nat)))≤1152921504606846976)))),((true&&decide (0≤((bp .i64 (((a-(((128-ag)):Int).toNat):Nat):Int) 127)-128)))&&decide (((bp .i64 (((a-(((128-ag)):Int).toNat):Nat):Int) 127)-128)≤(((a-(((128-ag)):Int).toNat):Nat):Int))),cQ ((bp .i64 (((a-(((128-ag)):Int).toNat):Nat):Int) 127)-128),(((((a-(((128-ag)):Int).toNat):Nat):Int)==(bp .i64 (((a-(((128-ag)):Int).toNat):Nat):Int) 127))==true),decide ((0:Int)≤127),(decide ((128:Int)<(((a-(((128-ag)):Int).toNat):Nat):Int))==true),((decide ((0:Int)≤(128-ag))&&decide ((128-ag)≤(a:Int)))&&decide ((a:Int)≤(a:Int))),decide ((¬(c+128#64).toNat<(128#64).toNat)),decide (((11:Nat)≤(11+(ag.toNat*1))∧((11+(ag.toNat*1))+(Nat.min ((((128-ag)):Int).toNat-(0:Nat)) ((128:Nat)-ag.toNat)))≤139)),decide (((b+(0:Nat))+(Nat.min ((((128-ag)):Int).toNat-(0:Nat)) ((128:Nat)-ag.toNat)))≤v.n),(decide ((0:Int)≤(128-ag))&&decide ((128-ag)≤(a:Int))),((decide (0≤ag)&&decide (ag≤(128:Int)))&&true),(decide ((a:Int)≤(128-ag))==false),cQ (128-ag),(decide (0<ag)==true)]:=by show _=_;kernel_rfl
def R6(n:Nat)(h:n≤1099511627776):bp .i64 (n:Int) 127=((128*(n/128):Nat):Int):=by
 have b:(BitVec.ofInt 64 (n:Int)&&&~~~ BitVec.ofInt 64 127)=(BitVec.ofInt 64 (n:Int)>>>7)<<<7:=by
  apply an3;intro i hi;have c:(BitVec.ofInt 64 127).getLsbD i=decide (i<7):=by
   show(BitVec.ofNat 64 (2^7-1)).getLsbD i=_;rw[BitVec.getLsbD_ofNat,Nat.testBit_two_pow_sub_one];simp[hi]
  rw[BitVec.getLsbD_and,BitVec.getLsbD_not,c,an4,an5];by_cases a:i<7
  ·simp[a]
  ·simp[a,hi,show 7+(i-7)=i by omega]
 have d:(BitVec.ofInt 64 (n:Int)).toNat=n:=by rw[uD,g7];omega
 have e:((BitVec.ofInt 64 (n:Int)>>>7)<<<7).toNat=128*(n/128):=by
  rw[anN,yY,d,VW,wU];omega
 unfold bp
 show IntKind.i64.wrap (((BitVec.ofInt 64 (n:Int)&&&~~~ BitVec.ofInt 64 127).toNat:Nat):Int)=_;rw[b,e];exact tu .i64 _ (by show(-9223372036854775808:Int)≤_;omega) (by show _≤(9223372036854775807:Int);omega)
def aeC(a:U 8):cw (cw a)=cw a:=by
 have b:(List.range 128).map (fun i=>(cw a).l.getD i 0#8)=(List.range 128).map (fun i=>a.l.getD i 0#8):=by
  refine H9 fun i hi=>?_;have hi:=oA.1 hi
  show((List.range 128).map fun i=>a.l.getD i 0#8).getD i 0#8=_;simp[dY,hi]
 show U.of _=U.of _;rw[b]
def Gf(a v:U 8)(b n:Nat):gy (cw a) v b n=gy a v b n:=by
 unfold gy;rw[aeC]
def R7:br 119 iP.spec:=by
 refine iP.ok (dn aes (cL _)) aet ?_;rintro⟨h,e,g,j,f,ag,k,v,d,c⟩ B;have B:=bg B;have n:∀a b:Nat,Nat.min a b=min a b:=fun _ _=>rfl;have C:(128#64).toNat=128:=rfl;have F:(e+128#64).toNat=e.toNat+128:=by have:=e.isLt;rw[eB,C];omega
 have u:=R6 c (by omega);have w:=R6 (c-(128-ag).toNat) (by omega);by_cases h1:0<ag
 ·by_cases h2:(c:Int)≤128-ag
  ·have o:fM h e g f ag v d c=h:=by
    unfold fM;simp only[ax h1,ax h2]
   have p:bK e ag c=e:=by
    unfold bK;simp only[ax h1,ax h2]
   have q:fq f ag v d c=(gA f ag v d c):=by
    unfold fq;simp only[ax h1,ax h2]
   have r:aq ag c=(ag+((Nat.min c (128-ag.toNat):Nat):Int)):=by
    unfold aq;simp only[ax h1,ax h2];rw[n];omega
   have s:iP.out ⟨h,e,g,j,f,ag,k,v,d,c⟩=([⟨.gen (cZ h e g j (gA f ag v d c) (ag+((Nat.min c (128-ag.toNat):Nat):Int)) k),.own⟩,⟨.aj v,.ro⟩]:List ah):=by
    show([⟨.gen (cZ (fM h e g f ag v d c) (bK e ag c) g j (fq f ag v d c) (aq ag c) k),.own⟩,⟨.aj v,.ro⟩]:List ah)=_;rw[o,p,q,r]
   rw[s];refine⟨[true,true],some [0,1],_,aey h e g j f ag k v d c,?_⟩
   repeat'(refine aA ?_ ?_)
   all_goals first|exact aX|rfl|(simp only[cz,eA,n,u,w]<;>omega)
  ·generalize m:c-(128-ag).toNat=i at *;by_cases h3:i≤128
   ·have t:aP i=0:=by unfold aP;omega
    have o:fM h e g f ag v d c=(cr h (e+128#64) g 0#64 (e7 (gA f ag v d (128-ag).toNat) 0)):=by
     unfold fM;simp only[ax h1,ak h2,m,t];rfl
    have p:bK e ag c=(e+128#64):=by
     unfold bK;simp only[ax h1,ak h2,m,t];rfl
    have q:fq f ag v d c=(gy (cw (gA f ag v d (128-ag).toNat)) v (d+(128-ag).toNat) i):=by
     unfold fq;simp only[ax h1,ak h2,m,t];simp only[Br,gb,gE]
    have r:aq ag c=(0+iB i):=by
     unfold aq;simp only[ax h1,ak h2,m,t];unfold iB;rw[n];omega
    have s:iP.out ⟨h,e,g,j,f,ag,k,v,d,c⟩=([⟨.gen (cZ (cr h (e+128#64) g 0#64 (e7 (gA f ag v d (128-ag).toNat) 0)) (e+128#64) g j (gy (cw (gA f ag v d (128-ag).toNat)) v (d+(128-ag).toNat) i) (0+iB i) k),.own⟩,⟨.aj v,.ro⟩]:List ah):=by
     show([⟨.gen (cZ (fM h e g f ag v d c) (bK e ag c) g j (fq f ag v d c) (aq ag c) k),.own⟩,⟨.aj v,.ro⟩]:List ah)=_;rw[o,p,q,r]
    rw[s];have y:=aez h e g j f ag k v d c;rw[m]at y;refine⟨(bt 4 9),some [0,1],_,y,?_⟩
    repeat'(refine aA ?_ ?_)
    all_goals first|exact aX|rfl|(simp only[cz,eA,n,m,u,w]<;>omega)
   ·by_cases h4:(i:Int)=bp .i64 (i:Int) 127
    ·rw[w]at h4;have l:((bp .i64 (i:Int) 127)-128).toNat=128*aP i:=by rw[w];unfold aP;omega
     have x:128*aP i/128=aP i:=by omega
     have A:i-128*aP i≤128∧128*aP i≤i∧1≤i-128*aP i:=by unfold aP;omega
     have o:fM h e g f ag v d c=(jf (cr h (e+128#64) g 0#64 (e7 (gA f ag v d (128-ag).toNat) 0)) (e+128#64) g v (d+(128-ag).toNat) (((bp .i64 (i:Int) 127)-128).toNat/128)):=by
      unfold fM;simp only[ax h1,ak h2,m,l,x]
     have p:bK e ag c=(gQ (e+128#64) (((bp .i64 (i:Int) 127)-128).toNat/128)):=by
      unfold bK;simp only[ax h1,ak h2,m,l,x]
     have q:fq f ag v d c=(gy (cw (cw (gA f ag v d (128-ag).toNat))) v ((d+(128-ag).toNat)+((bp .i64 (i:Int) 127)-128).toNat) (i-((bp .i64 (i:Int) 127)-128).toNat)):=by
      unfold fq;simp only[ax h1,ak h2,m,l,Gf]
     have r:aq ag c=(0+iB (i-((bp .i64 (i:Int) 127)-128).toNat)):=by
      unfold aq;simp only[ax h1,ak h2,m,l];unfold iB;rw[n];omega
     have s:iP.out ⟨h,e,g,j,f,ag,k,v,d,c⟩=([⟨.gen (cZ (jf (cr h (e+128#64) g 0#64 (e7 (gA f ag v d (128-ag).toNat) 0)) (e+128#64) g v (d+(128-ag).toNat) (((bp .i64 (i:Int) 127)-128).toNat/128)) (gQ (e+128#64) (((bp .i64 (i:Int) 127)-128).toNat/128)) g j (gy (cw (cw (gA f ag v d (128-ag).toNat))) v ((d+(128-ag).toNat)+((bp .i64 (i:Int) 127)-128).toNat) (i-((bp .i64 (i:Int) 127)-128).toNat)) (0+iB (i-((bp .i64 (i:Int) 127)-128).toNat)) k),.own⟩,⟨.aj v,.ro⟩]:List ah):=by
      show([⟨.gen (cZ (fM h e g f ag v d c) (bK e ag c) g j (fq f ag v d c) (aq ag c) k),.own⟩,⟨.aj v,.ro⟩]:List ah)=_;rw[o,p,q,r]
     rw[s];have y:=aeB h e g j f ag k v d c;rw[m]at y;refine⟨(bt 5 29),some [0,1],_,y,?_⟩
     repeat'(refine aA ?_ ?_)
     all_goals first|exact aX|rfl|(simp only[cz,eA,n,m,u,w]<;>omega)
    ·rw[w]at h4;have l:(bp .i64 (i:Int) 127).toNat=128*aP i:=by rw[w];unfold aP;omega
     have x:128*aP i/128=aP i:=by omega
     have A:i-128*aP i≤128∧128*aP i≤i∧1≤i-128*aP i:=by unfold aP;omega
     have o:fM h e g f ag v d c=(jf (cr h (e+128#64) g 0#64 (e7 (gA f ag v d (128-ag).toNat) 0)) (e+128#64) g v (d+(128-ag).toNat) ((bp .i64 (i:Int) 127).toNat/128)):=by
      unfold fM;simp only[ax h1,ak h2,m,l,x]
     have p:bK e ag c=(gQ (e+128#64) ((bp .i64 (i:Int) 127).toNat/128)):=by
      unfold bK;simp only[ax h1,ak h2,m,l,x]
     have q:fq f ag v d c=(gy (cw (cw (gA f ag v d (128-ag).toNat))) v ((d+(128-ag).toNat)+(bp .i64 (i:Int) 127).toNat) (i-(bp .i64 (i:Int) 127).toNat)):=by
      unfold fq;simp only[ax h1,ak h2,m,l,Gf]
     have r:aq ag c=(0+iB (i-(bp .i64 (i:Int) 127).toNat)):=by
      unfold aq;simp only[ax h1,ak h2,m,l];unfold iB;rw[n];omega
     have s:iP.out ⟨h,e,g,j,f,ag,k,v,d,c⟩=([⟨.gen (cZ (jf (cr h (e+128#64) g 0#64 (e7 (gA f ag v d (128-ag).toNat) 0)) (e+128#64) g v (d+(128-ag).toNat) ((bp .i64 (i:Int) 127).toNat/128)) (gQ (e+128#64) ((bp .i64 (i:Int) 127).toNat/128)) g j (gy (cw (cw (gA f ag v d (128-ag).toNat))) v ((d+(128-ag).toNat)+(bp .i64 (i:Int) 127).toNat) (i-(bp .i64 (i:Int) 127).toNat)) (0+iB (i-(bp .i64 (i:Int) 127).toNat)) k),.own⟩,⟨.aj v,.ro⟩]:List ah):=by
      show([⟨.gen (cZ (fM h e g f ag v d c) (bK e ag c) g j (fq f ag v d c) (aq ag c) k),.own⟩,⟨.aj v,.ro⟩]:List ah)=_;rw[o,p,q,r]
     rw[s];have y:=aeA h e g j f ag k v d c;rw[m]at y;refine⟨(bt 5 21),some [0,1],_,y,?_⟩
     repeat'(refine aA ?_ ?_)
     all_goals first|exact aX|rfl|(simp only[cz,eA,n,m,u,w]<;>omega)
 ·have D:ag=0:=by omega
  subst D;by_cases E:c=0
  ·subst E;have t:aP 0=0:=rfl;have o:fM h e g f (0:Int) v d (0:Nat)=h:=by
    unfold fM;simp only[ak h1,t];rfl
   have p:bK e (0:Int) (0:Nat)=e:=by
    unfold bK;simp only[ak h1,t];rfl
   have q:fq f (0:Int) v d (0:Nat)=f:=by
    unfold fq;simp only[ak h1];rfl
   have r:aq (0:Int) (0:Nat)=(0:Int):=by
    unfold aq;simp only[ak h1,t];rfl
   have s:iP.out ⟨h,e,g,j,f,(0:Int),k,v,d,(0:Nat)⟩=([⟨.gen (cZ h e g j f (0:Int) k),.own⟩,⟨.aj v,.ro⟩]:List ah):=by
    show([⟨.gen (cZ (fM h e g f (0:Int) v d (0:Nat)) (bK e (0:Int) (0:Nat)) g j (fq f (0:Int) v d (0:Nat)) (aq (0:Int) (0:Nat)) k),.own⟩,⟨.aj v,.ro⟩]:List ah)=_;rw[o,p,q,r]
   rw[s];refine⟨(bt 3 0),some [0,1],_,aeu h e g j f (0:Int) k v d (0:Nat),?_⟩
   repeat'(refine aA ?_ ?_)
   all_goals first|exact aX|rfl|(simp only[cz,eA,n,u,w]<;>omega)
  ·by_cases h3:c≤128
   ·have z:0<c:=by omega
    have t:aP c=0:=by unfold aP;omega
    have o:fM h e g f (0:Int) v d c=h:=by
     unfold fM;simp only[ak h1,t];rfl
    have p:bK e (0:Int) c=e:=by
     unfold bK;simp only[ak h1,t];rfl
    have q:fq f (0:Int) v d c=(gy f v d c):=by
     unfold fq;simp only[ak h1,ax z,t];simp only[Br,gb,gE]
    have r:aq (0:Int) c=((0:Int)+iB c):=by
     unfold aq;simp only[ak h1,t];unfold iB;rw[n];omega
    have s:iP.out ⟨h,e,g,j,f,(0:Int),k,v,d,c⟩=([⟨.gen (cZ h e g j (gy f v d c) ((0:Int)+iB c) k),.own⟩,⟨.aj v,.ro⟩]:List ah):=by
     show([⟨.gen (cZ (fM h e g f (0:Int) v d c) (bK e (0:Int) c) g j (fq f (0:Int) v d c) (aq (0:Int) c) k),.own⟩,⟨.aj v,.ro⟩]:List ah)=_;rw[o,p,q,r]
    rw[s];refine⟨(bt 3 4),some [0,1],_,aev h e g j f (0:Int) k v d c,?_⟩
    repeat'(refine aA ?_ ?_)
    all_goals first|exact aX|rfl|(simp only[cz,eA,n,u,w]<;>omega)
   ·by_cases h4:(c:Int)=bp .i64 (c:Int) 127
    ·rw[u]at h4;have z:0<c:=by omega
     have l:((bp .i64 (c:Int) 127)-128).toNat=128*aP c:=by rw[u];unfold aP;omega
     have x:128*aP c/128=aP c:=by omega
     have A:c-128*aP c≤128∧128*aP c≤c∧1≤c-128*aP c:=by unfold aP;omega
     have o:fM h e g f (0:Int) v d c=(jf h e g v d (((bp .i64 (c:Int) 127)-128).toNat/128)):=by
      unfold fM;simp only[ak h1,l,x]
     have p:bK e (0:Int) c=(gQ e (((bp .i64 (c:Int) 127)-128).toNat/128)):=by
      unfold bK;simp only[ak h1,l,x]
     have q:fq f (0:Int) v d c=(gy (cw f) v (d+((bp .i64 (c:Int) 127)-128).toNat) (c-((bp .i64 (c:Int) 127)-128).toNat)):=by
      unfold fq;simp only[ak h1,ax z,l,Gf]
     have r:aq (0:Int) c=((0:Int)+iB (c-((bp .i64 (c:Int) 127)-128).toNat)):=by
      unfold aq;simp only[ak h1,l];unfold iB;rw[n];omega
     have s:iP.out ⟨h,e,g,j,f,(0:Int),k,v,d,c⟩=([⟨.gen (cZ (jf h e g v d (((bp .i64 (c:Int) 127)-128).toNat/128)) (gQ e (((bp .i64 (c:Int) 127)-128).toNat/128)) g j (gy (cw f) v (d+((bp .i64 (c:Int) 127)-128).toNat) (c-((bp .i64 (c:Int) 127)-128).toNat)) ((0:Int)+iB (c-((bp .i64 (c:Int) 127)-128).toNat)) k),.own⟩,⟨.aj v,.ro⟩]:List ah):=by
      show([⟨.gen (cZ (fM h e g f (0:Int) v d c) (bK e (0:Int) c) g j (fq f (0:Int) v d c) (aq (0:Int) c) k),.own⟩,⟨.aj v,.ro⟩]:List ah)=_;rw[o,p,q,r]
     rw[s];refine⟨(bt 4 14),some [0,1],_,aex h e g j f (0:Int) k v d c,?_⟩
     repeat'(refine aA ?_ ?_)
     all_goals first|exact aX|rfl|(simp only[cz,eA,n,u,w]<;>omega)
    ·rw[u]at h4;have z:0<c:=by omega
     have l:(bp .i64 (c:Int) 127).toNat=128*aP c:=by rw[u];unfold aP;omega
     have x:128*aP c/128=aP c:=by omega
     have A:c-128*aP c≤128∧128*aP c≤c∧1≤c-128*aP c:=by unfold aP;omega
     have o:fM h e g f (0:Int) v d c=(jf h e g v d ((bp .i64 (c:Int) 127).toNat/128)):=by
      unfold fM;simp only[ak h1,l,x]
     have p:bK e (0:Int) c=(gQ e ((bp .i64 (c:Int) 127).toNat/128)):=by
      unfold bK;simp only[ak h1,l,x]
     have q:fq f (0:Int) v d c=(gy (cw f) v (d+(bp .i64 (c:Int) 127).toNat) (c-(bp .i64 (c:Int) 127).toNat)):=by
      unfold fq;simp only[ak h1,ax z,l,Gf]
     have r:aq (0:Int) c=((0:Int)+iB (c-(bp .i64 (c:Int) 127).toNat)):=by
      unfold aq;simp only[ak h1,l];unfold iB;rw[n];omega
     have s:iP.out ⟨h,e,g,j,f,(0:Int),k,v,d,c⟩=([⟨.gen (cZ (jf h e g v d ((bp .i64 (c:Int) 127).toNat/128)) (gQ e ((bp .i64 (c:Int) 127).toNat/128)) g j (gy (cw f) v (d+(bp .i64 (c:Int) 127).toNat) (c-(bp .i64 (c:Int) 127).toNat)) ((0:Int)+iB (c-(bp .i64 (c:Int) 127).toNat)) k),.own⟩,⟨.aj v,.ro⟩]:List ah):=by
      show([⟨.gen (cZ (fM h e g f (0:Int) v d c) (bK e (0:Int) c) g j (fq f (0:Int) v d c) (aq (0:Int) c) k),.own⟩,⟨.aj v,.ro⟩]:List ah)=_;rw[o,p,q,r]
     rw[s];refine⟨(bt 4 10),some [0,1],_,aew h e g j f (0:Int) k v d c,?_⟩
     repeat'(refine aA ?_ ?_)
     all_goals first|exact aX|rfl|(simp only[cz,eA,n,u,w]<;>omega)
structure KF where
 (h:bq)(aZ qI:BitVec 64)(ku:Int)(o4:U 8)(ag:Int)(kb:U 8)
def KG(a:List af)(b:List ah):Option KF:=
 match a with
 |[.ref (.ptr 0 (.c 0)),.atom .cD]=>
  match b with
  |[⟨.gen d,.own⟩]=>
   (match tO d with
   |some (h,e,f,g,i,ag,j)=>some ⟨h,e,f,g,i,ag,j⟩|none=>none)
  |_=>none
 |_=>none
def tU:bV KF where
 d0:=⟨⟨0,0,0,0,0,0,0,0⟩,0,0,0,0,0,0⟩
 read:=KG
 args:=fun⟨_,_,_,_,_,_,_⟩=>[.P 0,.atom .cD]
 heap:=fun⟨h,a,b,c,d,ag,e⟩=>[⟨.gen (cZ h a b c d ag e),.own⟩]
 out:=fun⟨h,a,b,c,d,ag,e⟩=>[⟨.gen (cZ h a b c d (ag+0) e),.own⟩]
 val:=fun⟨_,_,_,_,_,_,_⟩=>(.obj .bA [.J 0,.atom .fD])
 aT:=fun⟨_,_,_,_,_,ag,_⟩=>decide (0≤ag∧ag≤128)
def aeE(a:List af)(b:List ah)(d:KF)(h:tU.read a b=some d):a=tU.args d∧b=tU.heap d:=by
 replace h:KG a b=some d:=h;unfold KG at h;split at h
 case h_2=>cases h
 split at h
 case h_2=>cases h
 split at h
 case h_2=>cases h
 rename_i c;cases x3 c;cases h;exact⟨rfl,rfl⟩
def dB(h:bq)(a b:BitVec 64)(c:Int)(d:U 8)(ag:Int)(e:U 8):tU.cE ⟨h,a,b,c,d,ag,e⟩ (some [0]) (b9 ck aU 119) [true,true] [⟨.gen (cZ h a b c d (ag+0) e),.own⟩] (.obj .bA [.J 0,.atom .fD]) [cQ (ag+(((Nat.min 0 ((128:Nat)-ag.toNat)):Nat):Int)),decide (((11:Nat)≤(11+(ag.toNat*1))∧((11+(ag.toNat*1))+0)≤139)),((decide (0≤ag)&&decide (ag≤(128:Int)))&&true),(decide ((0:Int)≤(128-ag))==true),cQ (128-ag),(decide (0<ag)==true)]:=by show _=_;kernel_rfl
def n0(h:bq)(a b:BitVec 64)(c:Int)(d:U 8)(ag:Int)(e:U 8):tU.cE ⟨h,a,b,c,d,ag,e⟩ (some [0]) (b9 ck aU 119) [false] [⟨.gen (cZ h a b c d ag e),.own⟩] (.obj .bA [.J 0,.atom .fD]) [(decide (0<ag)==false)]:=by show _=_;kernel_rfl
def aeF:br 119 tU.spec:=by
 refine tU.ok (dn fK (cL _)) aeE ?_;rintro⟨h,c,d,e,f,ag,g⟩ i;have i:=bg i;have j:∀a b:Nat,Nat.min a b=min a b:=fun _ _=>rfl;by_cases h1:0<ag
 ·refine⟨[true,true],some [0],_,dB h c d e f ag g,?_⟩
  repeat'(refine aA ?_ ?_)
  all_goals first|exact aX|(simp only[cz,j,Nat.zero_min]<;>omega)
 ·have k:tU.out ⟨h,c,d,e,f,ag,g⟩=([⟨.gen (cZ h c d e f ag g),.own⟩]:List ah):=by
   show([⟨.gen (cZ h c d e f (ag+0) g),.own⟩]:List ah)=_;rw[Wo]
  rw[k];refine⟨[false],some [0],_,n0 h c d e f ag g,?_⟩
  repeat'(refine aA ?_ ?_)
  all_goals first|exact aX|(simp only[eT,y6,nj,wY]<;>omega)
structure R8 where
 (h:bq)(aZ qI:BitVec 64)(b:U 8)
def KH(a:List af)(d:List ah):Option R8:=
 match a with
 |[.ref (.ptr 0 (.c 0)),.ref (.ptr 1 (.c 0)),.num (.int .u64 (.c 18446744073709551615)),.ref (.sl 2 (.c 0) (.c 128) none)]=>
  match d with
  |[⟨.gen [.num (.av e),.num (.av h1),.num (.av h2),.num (.av h3),.num (.av h4),.num (.av f),.num (.av g),.num (.av h)],.own⟩,⟨.gen [.num (.av i),.num (.av j)],.own⟩,⟨.aj b,.ro⟩]=>some ⟨⟨e,h1,h2,h3,h4,f,g,h⟩,i,j,b⟩|_=>none
 |_=>none
def vY:bV R8 where
 d0:=⟨⟨0,0,0,0,0,0,0,0⟩,0,0,0⟩
 read:=KH
 args:=fun⟨_,_,_,_⟩=>[.P 0,.P 1,.num (.int .u64 (.c 18446744073709551615)),.ref (.sl 2 (.c 0) (.c 128) none)]
 heap:=fun⟨h,a,d,b⟩=>[⟨.gen [.num (.av h.dR),.num (.av h.ep),.num (.av h.er),.num (.av h.ew),.num (.av h.eZ),.num (.av h.e4),.num (.av h.e5),.num (.av h.e6)],.own⟩,⟨.gen [.num (.av a),.num (.av d)],.own⟩,⟨.aj b,.ro⟩]
 out:=fun⟨h,a,d,b⟩=>[⟨.gen (kV (cr h (a+128#64) (jU a d) 18446744073709551615#64 (e7 b 0))),.own⟩,⟨.gen (nM (a+128#64) (jU a d)),.own⟩,⟨.aj b,.ro⟩]
 val:=fun⟨_,_,_,_⟩=>(.bA [])
 aT:=fun⟨_,_,_,b⟩=>decide (b.n=128)
def aeG:vY.Rd:=by
 intro a b d h;change KH a b=some d at h;unfold KH at h;repeat' split at h
 all_goals cases h
 exact⟨rfl,rfl⟩
def aeH(h:bq)(a c:BitVec 64)(b:U 8):vY.cE ⟨h,a,c,b⟩ (b8 3) (b9 vV aU 122) [false] [⟨.gen (kV (cr h (a+128#64) c 18446744073709551615#64 (e7 b 0))),.own⟩,⟨.gen (nM (a+128#64) c),.own⟩,⟨.aj b,.ro⟩] (.bA []) [decide ((128≤b.n∧((8:Nat)≤((128:Nat)-120)∧((128:Nat)-120)≤1099511627776))),decide ((120≤b.n∧((8:Nat)≤((128:Nat)-112)∧((128:Nat)-112)≤1099511627776))),decide ((112≤b.n∧((8:Nat)≤((128:Nat)-104)∧((128:Nat)-104)≤1099511627776))),decide ((104≤b.n∧((8:Nat)≤((128:Nat)-96)∧((128:Nat)-96)≤1099511627776))),decide ((96≤b.n∧((8:Nat)≤((128:Nat)-88)∧((128:Nat)-88)≤1099511627776))),decide ((88≤b.n∧((8:Nat)≤((128:Nat)-80)∧((128:Nat)-80)≤1099511627776))),decide ((80≤b.n∧((8:Nat)≤((128:Nat)-72)∧((128:Nat)-72)≤1099511627776))),decide ((72≤b.n∧((8:Nat)≤((128:Nat)-64)∧((128:Nat)-64)≤1099511627776))),decide ((64≤b.n∧((8:Nat)≤((128:Nat)-56)∧((128:Nat)-56)≤1099511627776))),decide ((56≤b.n∧((8:Nat)≤((128:Nat)-48)∧((128:Nat)-48)≤1099511627776))),decide ((48≤b.n∧((8:Nat)≤((128:Nat)-40)∧((128:Nat)-40)≤1099511627776))),decide ((40≤b.n∧((8:Nat)≤((128:Nat)-32)∧((128:Nat)-32)≤1099511627776))),decide ((32≤b.n∧((8:Nat)≤((128:Nat)-24)∧((128:Nat)-24)≤1099511627776))),decide ((24≤b.n∧((8:Nat)≤((128:Nat)-16)∧((128:Nat)-16)≤1099511627776))),decide ((16≤b.n∧((8:Nat)≤((128:Nat)-8)∧((128:Nat)-8)≤1099511627776))),decide ((8≤b.n∧((8:Nat)≤((128:Nat)-0)∧((128:Nat)-0)≤1099511627776))),(decide ((a+(128#64)).toNat<(128#64).toNat)==false)]:=by show _=_;kernel_rfl
def aeI(h:bq)(a c:BitVec 64)(b:U 8):vY.cE ⟨h,a,c,b⟩ (b8 3) (b9 vV aU 122) [true] [⟨.gen (kV (cr h (a+128#64) (c+1#64) 18446744073709551615#64 (e7 b 0))),.own⟩,⟨.gen (nM (a+128#64) (c+1#64)),.own⟩,⟨.aj b,.ro⟩] (.bA []) [decide ((128≤b.n∧((8:Nat)≤((128:Nat)-120)∧((128:Nat)-120)≤1099511627776))),decide ((120≤b.n∧((8:Nat)≤((128:Nat)-112)∧((128:Nat)-112)≤1099511627776))),decide ((112≤b.n∧((8:Nat)≤((128:Nat)-104)∧((128:Nat)-104)≤1099511627776))),decide ((104≤b.n∧((8:Nat)≤((128:Nat)-96)∧((128:Nat)-96)≤1099511627776))),decide ((96≤b.n∧((8:Nat)≤((128:Nat)-88)∧((128:Nat)-88)≤1099511627776))),decide ((88≤b.n∧((8:Nat)≤((128:Nat)-80)∧((128:Nat)-80)≤1099511627776))),decide ((80≤b.n∧((8:Nat)≤((128:Nat)-72)∧((128:Nat)-72)≤1099511627776))),decide ((72≤b.n∧((8:Nat)≤((128:Nat)-64)∧((128:Nat)-64)≤1099511627776))),decide ((64≤b.n∧((8:Nat)≤((128:Nat)-56)∧((128:Nat)-56)≤1099511627776))),decide ((56≤b.n∧((8:Nat)≤((128:Nat)-48)∧((128:Nat)-48)≤1099511627776))),decide ((48≤b.n∧((8:Nat)≤((128:Nat)-40)∧((128:Nat)-40)≤1099511627776))),decide ((40≤b.n∧((8:Nat)≤((128:Nat)-32)∧((128:Nat)-32)≤1099511627776))),decide ((32≤b.n∧((8:Nat)≤((128:Nat)-24)∧((128:Nat)-24)≤1099511627776))),decide ((24≤b.n∧((8:Nat)≤((128:Nat)-16)∧((128:Nat)-16)≤1099511627776))),decide ((16≤b.n∧((8:Nat)≤((128:Nat)-8)∧((128:Nat)-8)≤1099511627776))),decide ((8≤b.n∧((8:Nat)≤((128:Nat)-0)∧((128:Nat)-0)≤1099511627776))),(decide ((a+(128#64)).toNat<(128#64).toNat)==true)]:=by show _=_;kernel_rfl
def aeJ:br 122 vY.spec:=by
 refine vY.ok (dn Ky (cL _)) aeG ?_;rintro⟨h,a,c,b⟩ f;have f:=bg f;by_cases d:(a+128#64).toNat<(128#64).toNat
 ·have e:vY.out ⟨h,a,c,b⟩=([⟨.gen (kV (cr h (a+128#64) (c+1#64) 18446744073709551615#64 (e7 b 0))),.own⟩,⟨.gen (nM (a+128#64) (c+1#64)),.own⟩,⟨.aj b,.ro⟩]:List ah):=by
   show([⟨.gen (kV (cr h (a+128#64) (jU a c) 18446744073709551615#64 (e7 b 0))),.own⟩,⟨.gen (nM (a+128#64) (jU a c)),.own⟩,⟨.aj b,.ro⟩]:List ah)=_;unfold jU;rw[ax d]
  rw[e];refine⟨[true],some [0,1,2],_,aeI h a c b,?_⟩
  repeat'(refine aA ?_ ?_)
  all_goals first|exact aX|rfl|(simp only[eT,Bq,y6,nj,jI,wY]<;>exact d)|(simp only[cz]<;>omega)
 ·have e:vY.out ⟨h,a,c,b⟩=([⟨.gen (kV (cr h (a+128#64) c 18446744073709551615#64 (e7 b 0))),.own⟩,⟨.gen (nM (a+128#64) c),.own⟩,⟨.aj b,.ro⟩]:List ah):=by
   show([⟨.gen (kV (cr h (a+128#64) (jU a c) 18446744073709551615#64 (e7 b 0))),.own⟩,⟨.gen (nM (a+128#64) (jU a c)),.own⟩,⟨.aj b,.ro⟩]:List ah)=_;unfold jU;rw[ak d]
  rw[e];refine⟨[false],some [0,1,2],_,aeH h a c b,?_⟩
  repeat'(refine aA ?_ ?_)
  all_goals first|exact aX|rfl|(simp only[eT,Bq,y6,nj,jI,wY]<;>exact d)|(simp only[cz]<;>omega)
def R9:ay.Spec:=fW su.spec (fW vK.spec vY.spec)
def aeK:br 122 R9:=dF.or R4 (dF.or Rf aeJ)
def Gg:FuncId→Option ay.Spec|122=>some R9|_=>none
def aeL:∀f a,Gg f=some a→br f a:=by
 intro f a h;unfold Gg at h;split at h
 ·cases h;exact aeK
 ·cases h
def KI(a:bq):List (BitVec 8):=[(a.dR>>>0).setWidth 8,(a.dR>>>8).setWidth 8,(a.dR>>>16).setWidth 8,(a.dR>>>24).setWidth 8,(a.dR>>>32).setWidth 8,(a.dR>>>40).setWidth 8,(a.dR>>>48).setWidth 8,(a.dR>>>56).setWidth 8,(a.ep>>>0).setWidth 8,(a.ep>>>8).setWidth 8,(a.ep>>>16).setWidth 8,(a.ep>>>24).setWidth 8,(a.ep>>>32).setWidth 8,(a.ep>>>40).setWidth 8,(a.ep>>>48).setWidth 8,(a.ep>>>56).setWidth 8,(a.er>>>0).setWidth 8,(a.er>>>8).setWidth 8,(a.er>>>16).setWidth 8,(a.er>>>24).setWidth 8,(a.er>>>32).setWidth 8,(a.er>>>40).setWidth 8,(a.er>>>48).setWidth 8,(a.er>>>56).setWidth 8,(a.ew>>>0).setWidth 8,(a.ew>>>8).setWidth 8,(a.ew>>>16).setWidth 8,(a.ew>>>24).setWidth 8,(a.ew>>>32).setWidth 8,(a.ew>>>40).setWidth 8,(a.ew>>>48).setWidth 8,(a.ew>>>56).setWidth 8,(a.eZ>>>0).setWidth 8,(a.eZ>>>8).setWidth 8,(a.eZ>>>16).setWidth 8,(a.eZ>>>24).setWidth 8,(a.eZ>>>32).setWidth 8,(a.eZ>>>40).setWidth 8,(a.eZ>>>48).setWidth 8,(a.eZ>>>56).setWidth 8,(a.e4>>>0).setWidth 8,(a.e4>>>8).setWidth 8,(a.e4>>>16).setWidth 8,(a.e4>>>24).setWidth 8,(a.e4>>>32).setWidth 8,(a.e4>>>40).setWidth 8,(a.e4>>>48).setWidth 8,(a.e4>>>56).setWidth 8,(a.e5>>>0).setWidth 8,(a.e5>>>8).setWidth 8,(a.e5>>>16).setWidth 8,(a.e5>>>24).setWidth 8,(a.e5>>>32).setWidth 8,(a.e5>>>40).setWidth 8,(a.e5>>>48).setWidth 8,(a.e5>>>56).setWidth 8,(a.e6>>>0).setWidth 8,(a.e6>>>8).setWidth 8,(a.e6>>>16).setWidth 8,(a.e6>>>24).setWidth 8,(a.e6>>>32).setWidth 8,(a.e6>>>40).setWidth 8,(a.e6>>>48).setWidth 8,(a.e6>>>56).setWidth 8]
def Ay(a:U 8)(ag:Int):U 8:=(U.of (List.replicate 128 0#8)).over 0 ((cw a).sub 0 (Nat.min ag.toNat 128))
def tV(ag:Int):BitVec 64:=BitVec.ofInt 64 (128-ag)
def vZ(h:bq)(a b:BitVec 64)(c:U 8)(ag:Int):bq:=cr h (a-tV ag+128#64) (jU (a-tV ag) b) 18446744073709551615#64 (e7 (Ay c ag) 0)
def we(h:bq)(a b:BitVec 64)(c:U 8)(ag:Int):bq:=if a.toNat<(tV ag).toNat then vZ h a (b-1#64) c ag else vZ h a b c ag
def e8(a:bq)(v:U 8)(b:Nat)(c:Int):U 8:=v.over b ((U.of (KI a)).sub 0 c.toNat)
structure KJ where
 (h:bq)(aZ qI:BitVec 64)(ku:Int)(o4:U 8)(ag:Int)(kb v:U 8)(o c5:Nat)
def KL(a:List af)(b:List ah):Option KJ:=
 match a with
 |[.ref (.ptr 0 (.c 0)),.ref (.sl 1 (.s d) (.c 0) (some (.s e)))]=>
  match b with
  |[⟨.gen f,.own⟩,⟨.aj v,.own⟩]=>
   (match tO f with
   |some (h,g,i,j,k,ag,l)=>some ⟨h,g,i,j,k,ag,l,v,d,e⟩|none=>none)
  |_=>none
 |_=>none
def qX:bV KJ where
 d0:=⟨⟨0,0,0,0,0,0,0,0⟩,0,0,0,0,0,0,0,0,0⟩
 read:=KL
 args:=fun⟨_,_,_,_,_,_,_,_,b,d⟩=>[.P 0,.ref (.sl 1 (.s b) (.c 0) (some (.s d)))]
 heap:=fun⟨h,e,f,a,g,ag,i,v,_,_⟩=>[⟨.gen (cZ h e f a g ag i),.own⟩,⟨.aj v,.own⟩]
 out:=fun⟨h,e,f,a,g,ag,i,v,b,_⟩=>[⟨.gen (cZ h e f a g ag i),.own⟩,⟨.aj (e8 (we h e f g ag) v b a),.own⟩]
 val:=fun⟨_,_,_,a,_,_,_,_,b,d⟩=>(.sl 1 (.s b) (.s (0+a.toNat)) (some (.s d)))
 aT:=fun⟨_,_,_,a,_,ag,_,v,b,d⟩=>decide (0≤ag∧ag≤128∧1≤a∧a≤64∧a.toNat≤d∧b+d≤v.n∧d≤1099511627776)
def aeM(a:List af)(b:List ah)(d:KJ)(h:qX.read a b=some d):a=qX.args d∧b=qX.heap d:=by
 replace h:KL a b=some d:=h;unfold KL at h;split at h
 case h_2=>cases h
 split at h
 case h_2=>cases h
 split at h
 case h_2=>cases h
 rename_i c;cases x3 c;cases h;exact⟨rfl,rfl⟩
def aeN(h:bq)(b e:BitVec 64)(a:Int)(f:U 8)(ag:Int)(g v:U 8)(c d:Nat):qX.cE ⟨h,b,e,a,f,ag,g,v,c,d⟩ (b8 2) (b9 Gg aU 118) [false,true] [⟨.gen (cZ h b e a f ag g),.own⟩,⟨.aj (e8 (vZ h b e f ag) v c a),.own⟩] (.sl 1 (.s c) (.s (0+a.toNat)) (some (.s d))) [decide (((c+0)+a.toNat)≤v.n),decide (1≤d),(decide ((0+a.toNat)≤d)==true),decide (((0+a.toNat)*1)≤1099511627776),decide ((0+a.toNat)≤64),(decide (0≤a)&&decide (a≤(64:Int))),true,decide ((128:Nat)≤128),(decide (b.toNat<(BitVec.ofInt 64 (128-ag)).toNat)==false),cQ (128-ag),decide ((0+(Nat.min ag.toNat (128:Nat)))≤128),decide (((11:Nat)≤(11+0)∧((11+0)+(Nat.min ag.toNat (128:Nat)))≤139)),(decide (0≤ag)&&decide (ag≤(128:Int)))]:=by show _=_;kernel_rfl
def aeO(h:bq)(b e:BitVec 64)(a:Int)(f:U 8)(ag:Int)(g v:U 8)(c d:Nat):qX.cE ⟨h,b,e,a,f,ag,g,v,c,d⟩ (b8 2) (b9 Gg aU 118) [true,true] [⟨.gen (cZ h b e a f ag g),.own⟩,⟨.aj (e8 (vZ h b (e-1#64) f ag) v c a),.own⟩] (.sl 1 (.s c) (.s (0+a.toNat)) (some (.s d))) [decide (((c+0)+a.toNat)≤v.n),decide (1≤d),(decide ((0+a.toNat)≤d)==true),decide (((0+a.toNat)*1)≤1099511627776),decide ((0+a.toNat)≤64),(decide (0≤a)&&decide (a≤(64:Int))),true,decide ((128:Nat)≤128),(decide (b.toNat<(BitVec.ofInt 64 (128-ag)).toNat)==true),cQ (128-ag),decide ((0+(Nat.min ag.toNat (128:Nat)))≤128),decide (((11:Nat)≤(11+0)∧((11+0)+(Nat.min ag.toNat (128:Nat)))≤139)),(decide (0≤ag)&&decide (ag≤(128:Int)))]:=by show _=_;kernel_rfl
def Sa:br 118 qX.spec:=by
 refine qX.ok (dn aeL (cL _)) aeM ?_;rintro⟨h,c,d,e,f,ag,g,v,i,j⟩ m;have m:=bg m;have n:∀a b:Nat,Nat.min a b=min a b:=fun _ _=>rfl;by_cases k:c.toNat<(tV ag).toNat
 ·have l:qX.out ⟨h,c,d,e,f,ag,g,v,i,j⟩=([⟨.gen (cZ h c d e f ag g),.own⟩,⟨.aj (e8 (vZ h c (d-1#64) f ag) v i e),.own⟩]:List ah):=by
   show([⟨.gen (cZ h c d e f ag g),.own⟩,⟨.aj (e8 (we h c d f ag) v i e),.own⟩]:List ah)=_;unfold we;rw[ax k]
  rw[l];refine⟨[true,true],some [0,1],_,aeO h c d e f ag g v i j,?_⟩
  repeat'(refine aA ?_ ?_)
  all_goals first|exact aX|rfl|(simp only[eT,Bq,y6,nj,jI,wY]<;>exact k)|(simp only[cz,eA,n]<;>omega)
 ·have l:qX.out ⟨h,c,d,e,f,ag,g,v,i,j⟩=([⟨.gen (cZ h c d e f ag g),.own⟩,⟨.aj (e8 (vZ h c d f ag) v i e),.own⟩]:List ah):=by
   show([⟨.gen (cZ h c d e f ag g),.own⟩,⟨.aj (e8 (we h c d f ag) v i e),.own⟩]:List ah)=_;unfold we;rw[ak k]
  rw[l];refine⟨[false,true],some [0,1],_,aeN h c d e f ag g v i j,?_⟩
  repeat'(refine aA ?_ ?_)
  all_goals first|exact aX|rfl|(simp only[eT,Bq,y6,nj,jI,wY]<;>exact k)|(simp only[cz,eA,n]<;>omega)
def bU(a:Int):bq:=⟨7640891576956012808#64^^^(((BitVec.ofInt 64 a|||0#64)|||65536#64)|||16777216#64),13503953896175478587#64,4354685564936845355#64,11912009170470909681#64,5840696475078001361#64,11170449401992604703#64,2270897969802886507#64,6620516959819538809#64⟩
def p9:U 8:=U.of (List.replicate 128 0#8)
structure KM where
 (h:bq)(aZ qI:BitVec 64)(ku:Int)(o4:U 8)(ag:Int)(kb:U 8)
def KN(a:List af)(b:List ah):Option KM:=
 match a with
 |[.ref (.ptr 0 (.c 0))]=>
  match b with
  |[⟨.gen d,.own⟩]=>
   (match tO d with
   |some (h,e,f,g,i,ag,j)=>some ⟨h,e,f,g,i,ag,j⟩|none=>none)
  |_=>none
 |_=>none
def yd:bV KM where
 d0:=⟨⟨0,0,0,0,0,0,0,0⟩,0,0,0,0,0,0⟩
 read:=KN
 args:=fun⟨_,_,_,_,_,_,_⟩=>[.P 0]
 heap:=fun⟨h,d,e,a,b,ag,c⟩=>[⟨.gen (cZ h d e a b ag c),.own⟩]
 out:=fun⟨_,_,_,a,b,_,c⟩=>[⟨.gen (cZ (bU a) 0#64 0#64 a b 0 c),.own⟩]
 val:=fun⟨_,_,_,_,_,_,_⟩=>(.bA [])
 aT:=fun⟨_,_,_,a,_,_,_⟩=>decide (0≤a∧a≤64)
def aeP(h:bq)(a b:BitVec 64)(c:Int)(d:U 8)(ag:Int)(e:U 8):yd.fR ⟨h,a,b,c,d,ag,e⟩ (some [0]) (b9 ck aU 85) [] []:=by show _=_;kernel_rfl
def aeQ(a:List af)(b:List ah)(d:KM)(h:yd.read a b=some d):a=yd.args d∧b=yd.heap d:=by
 replace h:KN a b=some d:=h;unfold KN at h;split at h
 case h_2=>cases h
 split at h
 case h_2=>cases h
 split at h
 case h_2=>cases h
 rename_i c;cases x3 c;cases h;exact⟨rfl,rfl⟩
def aeR:br 85 yd.spec:=by
 refine yd.ok (dn fK (cL _)) aeQ ?_;rintro⟨h,b,c,d,e,ag,f⟩ a;have a:=bg a;refine⟨[],(some [0]),_,aeP h b c d e ag f,?_⟩
 repeat'(refine aA ?_ ?_)
 all_goals first|exact aX|rfl|(simp only[cz]<;>omega)
structure Sb where
 ku:Int
def KO(a:List af)(b:List ah):Option Sb:=
 match a with
 |[.num (.int .i64 (.s c)),.atom .cD]=>
  match b with
  |[]=>some ⟨c⟩|_=>none
 |_=>none
def Az:bV Sb where
 d0:=⟨0⟩
 read:=KO
 args:=fun⟨a⟩=>[.au a,.atom .cD]
 heap:=fun⟨_⟩=>[]
 out:=fun⟨a⟩=>[⟨.gen (cZ (bU a) 0#64 0#64 a p9 0 p9),.own⟩]
 val:=fun⟨_⟩=>(.obj .bA [.P 0,.atom .fD])
 aT:=fun⟨a⟩=>decide (1≤a∧a≤64)
def aeS(a:Int):Az.fR ⟨a⟩ (some [0]) (b9 ck aU 56) (bt 4 0) [(decide (64<a)==false),(decide (a<1)==false),(decide (a<1)==false),(decide (a<1)==false)]:=by show _=_;kernel_rfl
def aeT:Az.Rd:=by
 intro a b d h;change KO a b=some d at h;unfold KO at h;repeat' split at h
 all_goals cases h
 exact⟨rfl,rfl⟩
def Sc:br 56 Az.spec:=by
 refine Az.ok (dn fK (cL _)) aeT ?_;rintro⟨b⟩ a;have a:=bg a;refine⟨(bt 4 0),(some [0]),_,aeS b,?_⟩
 repeat'(refine aA ?_ ?_)
 all_goals first|exact aX|rfl|(simp only[cz]<;>omega)
def tW:FuncId→Option ay.Spec|85=>some yd.spec|56=>some Az.spec|118=>some qX.spec|119=>some iP.spec|_=>none
def Sd:∀f a,tW f=some a→br f a:=by
 intro f a h;unfold tW at h;split at h
 ·cases h;exact aeR
 ·cases h;exact Sc
 ·cases h;exact Sa
 ·cases h;exact R7
 ·cases h
def eta(h:bq):bq:=⟨h.dR,h.ep,h.er,h.ew,h.eZ,h.e4,h.e5,h.e6⟩
structure jB where
 (h:bq)(c:BitVec 64)(x:U 8)(n:Int)
def jh(d:jB)(v:U 8)(b a:Nat):jB:=⟨fM (eta d.h) d.c 0#64 (cw d.x) d.n v b a,bK d.c d.n a,fq (cw d.x) d.n v b a,aq d.n a⟩
def gB(d:jB):bq:=we (eta d.h) d.c 0#64 (cw d.x) d.n
def AA(a:Int)(b:U 8):jB:=⟨bU a,0#64,b,0⟩
def gN(a:Nat):U 8:=U.of [((BitVec.ofInt 32 (a:Int))>>>0).setWidth 8,((BitVec.ofInt 32 (a:Int))>>>8).setWidth 8,((BitVec.ofInt 32 (a:Int))>>>16).setWidth 8,((BitVec.ofInt 32 (a:Int))>>>24).setWidth 8,0#8,0#8,0#8,0#8,0#8,0#8,0#8,0#8,0#8,0#8,0#8,0#8,0#8,0#8,0#8,0#8,0#8,0#8,0#8,0#8,0#8,0#8,0#8,0#8,0#8,0#8,0#8,0#8,0#8,0#8,0#8,0#8,0#8,0#8,0#8,0#8,0#8,0#8,0#8,0#8,0#8,0#8,0#8,0#8,0#8,0#8,0#8,0#8,0#8,0#8,0#8,0#8,0#8,0#8,0#8,0#8,0#8,0#8,0#8,0#8]
def Gh(a:bq)(v:U 8)(b:Nat)(z:Int):(e8 a v b z).n=v.n:=rfl
def KP(v a:U 8)(b:Nat):(v.over b a).n=v.n:=rfl
def C3(ag:Int)(a:Nat)(h1:0≤ag)(h2:ag≤128):0≤aq ag a∧aq ag a≤128:=by
 unfold aq aP;split
 ·split<;>omega
 ·omega
structure tX where
 (v w b:U 8)(h:bq)(aZ:BitVec 64)(ku:Int)(o4:U 8)(ag:Int)(kb:U 8)(o iA c5:Nat)(N:Int)
def aeU(d:tX):aJ×List ah:=
 match d with
 |⟨v,w,b,h,a,c,e,ag,f,g,i,j,N⟩=>(⟨[.ref (.sl 0 (.s g) (.s i) (some (.s j))),.aa,.aa,.aa,.obj (.iq 122) [.P 2],.aa,.P 3,.au N,.aa],[]⟩,[⟨.aj v,.own⟩,⟨.aj w,.ro⟩,⟨.gen ([.num (.av h.dR),.num (.av h.ep),.num (.av h.er),.num (.av h.ew),.num (.av h.eZ),.num (.av h.e4),.num (.av h.e5),.num (.av h.e6),.num (.av a),.num (.av 0#64),.au c]++jR e 128++([.au ag]++jR f 128++[.J 0])),.own⟩,⟨.aj b,.own⟩,cp])
def l7(d:tX):tX:=
 match d with
 |⟨v,w,b,h,e,a,c,ag,i,f,g,j,N⟩=>⟨v.over f ((e8 (gB (jh ⟨h,e,c,ag⟩ b 0 64)) b 0 a).sub 0 (Nat.min 32 g)),w,e8 (gB (jh ⟨h,e,c,ag⟩ b 0 64)) b 0 a,bU a,0#64,a,fq (cw c) ag b 0 64,0,i,f+32,g-32,j-32,N⟩
def KQ(e:aJ)(f:List ah):Option tX:=
 match e with
 |⟨[.ref (.sl 0 (.s g) (.s h) (some (.s i))),.atom .aa,.atom .aa,.atom .aa,.obj (.iq 122) [.ref (.ptr 2 (.c 0))],.atom .aa,.ref (.ptr 3 (.c 0)),.num (.int .i64 (.s N)),.atom .aa],[]⟩=>
  match f with
  |[⟨.aj v,.own⟩,⟨.aj w,.ro⟩,⟨.gen ((.num (.av j))::(.num (.av h1))::(.num (.av h2))::(.num (.av h3))::(.num (.av h4))::(.num (.av k))::(.num (.av l))::(.num (.av m))::(.num (.av n))::(.num (.av 0#64))::(.num (.int .i64 (.s o)))::a),.own⟩,⟨.aj b,.own⟩,⟨.gen [],.bn⟩]=>
   (match xR 128 (a.take 128),a.drop 128 with
   |some p,((.num (.int .i64 (.s ag)))::d)=>
   (match xR 128 (d.take 128),d.drop 128 with
   |some q,[.num (.int .i64 (.c 0))]=>some ⟨v,w,b,⟨j,h1,h2,h3,h4,k,l,m⟩,n,o,p,ag,q,g,h,i,N⟩|_,_=>none)
   |_,_=>none)
  |_=>none
 |_=>none
def mY:eN tX where
 d0:=⟨0,0,0,⟨0,0,0,0,0,0,0,0⟩,0,0,0,0,0,0,0,0,0⟩
 read:=KQ
 az:=aeU
 next:=l7
 rem:=fun⟨_,_,_,_,_,_,_,_,_,_,a,_,_⟩=>(a-33)/32
 aT:=fun⟨v,_,b,_,e,d,_,ag,_,f,a,c,_⟩=>decide (f+c≤v.n∧a≤c∧c≤1099511627776∧b.n=64∧1≤d∧d≤64∧ag=0∧e.toNat≤1000000)
 out:=.exit 0
def aeV(v w b:U 8)(h:bq)(d:BitVec 64)(a:Int)(g:U 8)(ag:Int)(i:U 8)(e c f:Nat)(N:Int):mY.cE ⟨v,w,b,h,d,a,g,ag,i,e,c,f,N⟩ (b8 5) (mY.az (l7 ⟨v,w,b,h,d,a,g,ag,i,e,c,f,N⟩)) (bZ tW aU 42 0) [true] .normal [decide ((0≤a∧a≤64)),(decide (32≤(c:Int))&&decide ((c:Int)≤(f:Int))),decide ((e+(Nat.min 32 c))≤v.n),decide ((0+(Nat.min 32 c))≤b.n),decide (64≤b.n),decide ((0≤(aq ag (64:Nat))∧((aq ag (64:Nat))≤128∧(1≤a∧(a≤64∧(a.toNat≤64∧((0+64)≤b.n∧64≤1099511627776))))))),decide (64≤b.n),decide ((0≤ag∧(ag≤128∧((0+(64:Nat))≤b.n∧((64:Nat)≤1099511627776∧((d.toNat+(64:Nat))+256)≤1152921504606846976))))),decide (64≤b.n),(decide (64<(c:Int))==true)]:=by show _=_;kernel_rfl
def aeW(v w b:U 8)(h:bq)(c:BitVec 64)(d:Int)(e:U 8)(ag:Int)(f:U 8)(g a i:Nat)(N:Int):mY.cE ⟨v,w,b,h,c,d,e,ag,f,g,a,i,N⟩ none (mY.fin ⟨v,w,b,h,c,d,e,ag,f,g,a,i,N⟩) (bZ tW aU 42 0) [false] mY.out [(decide (64<(a:Int))==false)]:=by show _=_;kernel_rfl
def aeX(a:aJ)(b:List ah)(d:tX)(h:mY.read a b=some d):(a,b)=mY.az d:=by
 replace h:KQ a b=some d:=h;unfold KQ at h;split at h
 case h_2=>cases h
 split at h
 case h_2=>cases h
 split at h
 case h_2=>cases h
 rename_i c e;obtain⟨f,_⟩:=CU c;have g:=FX f e;subst g;split at h
 case h_2=>cases h
 rename_i c e;obtain⟨f,_⟩:=CU c;have g:=FX f e;subst g;cases h;rfl
def aeY:dg Tryz.prog bB (an 42) (bS Tryz.prog 42) (bh Tryz.prog 42 0) (bZ tW aU 42 0):=iz Sd (cL _) 42 0 Q9 (by rw[show(cI Tryz.prog 42).length=1 by kernel_rfl];omega)
def aeZ:eF Tryz.prog bB (an 42) (bS Tryz.prog 42) (bh Tryz.prog 42 0) mY.T.told:=by
 refine mY.jT aeY (by intro k o;have o:k∈([]:List ah):=o;cases o) (by intro h;cases h) aeX ?_ ?_
 ·rintro⟨v,w,b,h,e,c,f,ag,j,i,d,g,N⟩ q l m;have l:=bg l;have m:(d-33)/32=q+1:=m;have r:mY.next ⟨v,w,b,h,e,c,f,ag,j,i,d,g,N⟩=l7 ⟨v,w,b,h,e,c,f,ag,j,i,d,g,N⟩:=rfl;rw[r];refine⟨⟨[true],(b8 5),_,aeV v w b h e c f ag j i d g N,?_⟩,?_,?_,(show(mY.az (l7 ⟨v,w,b,h,e,c,f,ag,j,i,d,g,N⟩)).2.length=5 by kernel_rfl).trans (show(mY.az ⟨v,w,b,h,e,c,f,ag,j,i,d,g,N⟩).2.length=5 by kernel_rfl).symm⟩
  ·have s:(0#64).toNat=0:=rfl;have t:∀a b:Nat,Nat.min a b=min a b:=fun _ _=>rfl;have u:ag=0:=by omega
   have x:=C3 ag 64 (by omega) (by omega)
   repeat'(refine aA ?_ ?_)
   all_goals first|exact aX|rfl|(simp only[cz,eA,gE,t,Gh]<;>omega)
  ·have p:mY.aT (l7 ⟨v,w,b,h,e,c,f,ag,j,i,d,g,N⟩)=decide ((i+32:Nat)+(g-32:Nat)≤(v.over i ((e8 (gB (jh ⟨h,e,f,ag⟩ b 0 64)) b 0 c).sub 0 (Nat.min 32 d)):U 8).n∧(d-32:Nat)≤(g-32:Nat)∧(g-32:Nat)≤1099511627776∧(e8 (gB (jh ⟨h,e,f,ag⟩ b 0 64)) b 0 c:U 8).n=64∧1≤c∧c≤64∧(0:Int)=0∧(0#64:BitVec 64).toNat≤1000000):=by kernel_rfl
   refine p.trans (bu ?_);have y:=Gh (gB (jh ⟨h,e,f,ag⟩ b 0 64)) b 0 c;have s:(0#64).toNat=0:=rfl;simp only[KP,HQ,uE];omega
  ·have p:mY.rem (l7 ⟨v,w,b,h,e,c,f,ag,j,i,d,g,N⟩)=(((d-32:Nat)-33)/32):=by kernel_rfl
   refine p.trans ?_;omega
 ·rintro⟨v,w,b,h,e,c,f,ag,j,i,d,g,N⟩ l m;have l:=bg l;have m:(d-33)/32=0:=m;refine⟨[false],none,_,aeW v w b h e c f ag j i d g N,?_⟩
  repeat'(refine aA ?_ ?_)
  all_goals first|exact aX|rfl|(simp only[cz]<;>omega)
def KR:cP:=mY.T.told
def ae0:Told 42 0 KR:=aeZ.run
def wh:FuncId→Nat→Option cP|42,16=>some KR|_,_=>none
def ae1:(cI Tryz.prog 42).length=1:=by kernel_rfl
def ae2(spec:FuncId→Option ay.Spec):c6 (dh spec wh) bB:=by
 refine c6.of fun f=>?_;by_cases a:f=42
 ·subst a;refine .inr ⟨by kernel_rfl,fun i hi e b=>?_⟩;have hi:i<(cI Tryz.prog 42).length:=hi;rw[ae1]at hi;have c:i=0:=by omega
  rcases c with rfl
  ·have d:(bY (bh Tryz.prog 42 0)).bind (wh 42)=some KR:=by kernel_rfl
   obtain rfl:=dV (d.symm.trans b);exact ae0
 ·refine .inl fun r=>?_
  show wh f r=none;unfold wh;split
  ·exact absurd rfl a
  ·rfl
def qY(a:Int)(w:U 8)(b c d:Nat):jB:=jh (jh (AA a p9) (gN b) 0 4) w c d
def qa(v w:U 8)(d a e b c:Nat):tX:=⟨v.over d ((e8 (gB (qY 64 w a b c)) (gN a) 0 64).sub 0 (Nat.min 32 a)),w,e8 (gB (qY 64 w a b c)) (gN a) 0 64,bU 64,0#64,64,cw (qY 64 w a b c).x,0,p9,d+32,a-32,e-32,(a:Int)⟩
def bH(v w:U 8)(b a c d e:Nat):tX:=iter l7 ((a-32-33)/32) (qa v w b a c d e)
def fZ(v w:U 8)(c a f d e:Nat):U 8:=
 if a≤64 then e8 (gB (qY a w a d e)) v c a
 else if 0<(bH v w c a f d e).N.tmod 64 then e8 (gB (jh (AA ((bH v w c a f d e).N-(32*((((bH v w c a f d e).N+31).tdiv 32)-2))) p9) (bH v w c a f d e).b 0 64)) (bH v w c a f d e).v (bH v w c a f d e).o ((bH v w c a f d e).N-(32*((((bH v w c a f d e).N+31).tdiv 32)-2)))
 else e8 (gB (jh ⟨(bH v w c a f d e).h,(bH v w c a f d e).aZ,(bH v w c a f d e).o4,(bH v w c a f d e).ag⟩ (bH v w c a f d e).b 0 64)) (bH v w c a f d e).v (bH v w c a f d e).o (bH v w c a f d e).ku
structure KS where
 (v w:U 8)(o iA c5 Se aoI:Nat)
def KT(a:List af)(b:List ah):Option KS:=
 match a with
 |[.ref (.sl 0 (.s c) (.s d) (some (.s e))),.ref (.sl 1 (.s f) (.s g) none)]=>
  match b with
  |[⟨.aj v,.own⟩,⟨.aj w,.ro⟩]=>some ⟨v,w,c,d,e,f,g⟩|_=>none
 |_=>none
def nY:bV KS where
 d0:=⟨0,0,0,0,0,0,0⟩
 read:=KT
 args:=fun⟨_,_,d,b,a,e,c⟩=>[.ref (.sl 0 (.s d) (.s b) (some (.s a))),.ref (.sl 1 (.s e) (.s c) none)]
 heap:=fun⟨v,w,_,_,_,_,_⟩=>[⟨.aj v,.own⟩,⟨.aj w,.ro⟩]
 out:=fun⟨v,w,d,b,a,e,c⟩=>[⟨.aj (fZ v w d b a e c),.own⟩,⟨.aj w,.ro⟩]
 val:=fun⟨_,_,_,_,_,_,_⟩=>(.bA [])
 aT:=fun⟨v,w,d,b,a,e,c⟩=>decide (1≤b∧b≤a∧d+a≤v.n∧a≤1099511627776∧e+c≤w.n∧c≤1099511627776)
def ae3:nY.Rd:=by
 intro a b d h;change KT a b=some d at h;unfold KT at h;repeat' split at h
 all_goals cases h
 exact⟨rfl,rfl⟩
def h1(v w:U 8)(d a c e b:Nat):nY.cE ⟨v,w,d,a,c,e,b⟩ (b8 2) (b9 tW wh 42) [true,true] [⟨.aj (e8 (gB (qY (a:Int) w a e b)) v d (a:Int)),.own⟩,⟨.aj w,.ro⟩] (.bA []) [decide ((0≤(aq (aq 0 4) b)∧((aq (aq 0 4) b)≤128∧(1≤(a:Int)∧((a:Int)≤64∧(a≤c∧(((d+(0:Nat))+c)≤v.n∧c≤1099511627776))))))),((true&&true)&&decide (0≤(c:Int))),(decide ((a:Int)≤64)==true),decide ((0≤(aq 0 4)∧((aq 0 4)≤128∧((e+b)≤w.n∧(b≤1099511627776∧(((bK (0#64) 0 4).toNat+b)+256)≤1152921504606846976))))),decide (((0:Int)≤0∧((0:Int)≤128∧((0+4)≤64∧(4≤1099511627776∧(((0#64).toNat+4)+256)≤1152921504606846976))))),decide ((1≤(a:Int)∧(a:Int)≤64)),(decide ((a:Int)<64)==true)]:=by show _=_;kernel_rfl
def h2(v w:U 8)(d c b e a:Nat):nY.cE ⟨v,w,d,c,b,e,a⟩ (b8 2) (b9 tW wh 42) [false,true] [⟨.aj (e8 (gB (qY 64 w c e a)) v d 64),.own⟩,⟨.aj w,.ro⟩] (.bA []) [decide ((0≤(aq (aq 0 4) a)∧((aq (aq 0 4) a)≤128∧((1:Int)≤64∧((64:Int)≤64∧(64≤b∧(((d+(0:Nat))+b)≤v.n∧b≤1099511627776))))))),((true&&true)&&decide (0≤(b:Int))),(decide ((c:Int)≤64)==true),decide ((0≤(aq 0 4)∧((aq 0 4)≤128∧((e+a)≤w.n∧(a≤1099511627776∧(((bK (0#64) 0 4).toNat+a)+256)≤1152921504606846976))))),decide (((0:Int)≤0∧((0:Int)≤128∧((0+4)≤64∧(4≤1099511627776∧(((0#64).toNat+4)+256)≤1152921504606846976))))),decide (((1:Int)≤64∧(64:Int)≤64)),(decide ((c:Int)<64)==false)]:=by show _=_;kernel_rfl
def h3(v w:U 8)(e a d f c:Nat):nY.cE ⟨v,w,e,a,d,f,c⟩ (b8 2) (b9 tW wh 42) (bt 3 4) [⟨.aj (e8 (gB (jh (AA ((bH v w e a d f c).N-(32*((((bH v w e a d f c).N+31).tdiv 32)-2))) p9) (bH v w e a d f c).b 0 64)) (bH v w e a d f c).v (bH v w e a d f c).o ((bH v w e a d f c).N-(32*((((bH v w e a d f c).N+31).tdiv 32)-2)))),.own⟩,⟨.aj w,.ro⟩] (.bA []) [decide ((0≤(aq 0 (64:Nat))∧((aq 0 (64:Nat))≤128∧(1≤((bH v w e a d f c).N-(32*((Int.tdiv ((bH v w e a d f c).N+31) 32)-2)))∧(((bH v w e a d f c).N-(32*((Int.tdiv ((bH v w e a d f c).N+31) 32)-2)))≤64∧(((((bH v w e a d f c).N-(32*((Int.tdiv ((bH v w e a d f c).N+31) 32)-2)))):Int).toNat≤((bH v w e a d f c).c5-(0:Nat))∧((((bH v w e a d f c).o+(0:Nat))+((bH v w e a d f c).c5-(0:Nat)))≤(bH v w e a d f c).v.n∧((bH v w e a d f c).c5-(0:Nat))≤1099511627776))))))),((true&&true)&&decide ((0:Int)≤(((bH v w e a d f c).c5:Nat):Int))),decide (((0:Int)≤0∧((0:Int)≤128∧((0+(64:Nat))≤(bH v w e a d f c).b.n∧((64:Nat)≤1099511627776∧(((0#64).toNat+(64:Nat))+256)≤1152921504606846976))))),decide (64≤(bH v w e a d f c).b.n),decide ((1≤((bH v w e a d f c).N-(32*((Int.tdiv ((bH v w e a d f c).N+31) 32)-2)))∧((bH v w e a d f c).N-(32*((Int.tdiv ((bH v w e a d f c).N+31) 32)-2)))≤64)),cQ ((bH v w e a d f c).N-(32*((Int.tdiv ((bH v w e a d f c).N+31) 32)-2))),cQ (32*((Int.tdiv ((bH v w e a d f c).N+31) 32)-2)),cQ ((Int.tdiv ((bH v w e a d f c).N+31) 32)-2),decide ((0≤((bH v w e a d f c).N+31)∧((0:Int)<32∧((bH v w e a d f c).N+31)≤9223372036854775807))),cQ ((bH v w e a d f c).N+31),(decide (0<(Int.tmod (bH v w e a d f c).N 64))==true),decide ((64:Int)≠0),decide ((((e+32)+(d-32))≤v.n∧((a-32)≤(d-32)∧((d-32)≤1099511627776∧((64:Nat)=64∧((1:Int)≤64∧((64:Int)≤64∧((0:Int)=0∧(0#64).toNat≤1000000)))))))),(decide (32≤(a:Int))&&decide ((a:Int)≤(d:Int))),decide ((e+(Nat.min 32 a))≤v.n),decide ((0+(Nat.min 32 a))≤64),decide ((64:Nat)≤64),decide (((0:Int)≤64∧(64:Int)≤64)),decide ((0≤(aq (aq 0 4) c)∧((aq (aq 0 4) c)≤128∧((1:Int)≤64∧((64:Int)≤64∧((64:Nat)≤64∧((0+64)≤64∧64≤1099511627776))))))),(decide ((a:Int)≤64)==false),decide ((0≤(aq 0 4)∧((aq 0 4)≤128∧((f+c)≤w.n∧(c≤1099511627776∧(((bK (0#64) 0 4).toNat+c)+256)≤1152921504606846976))))),decide (((0:Int)≤0∧((0:Int)≤128∧((0+4)≤64∧(4≤1099511627776∧(((0#64).toNat+4)+256)≤1152921504606846976))))),decide (((1:Int)≤64∧(64:Int)≤64)),(decide ((a:Int)<64)==false)]:=by show _=_;kernel_rfl
def h4(v w:U 8)(e a d f c:Nat):nY.cE ⟨v,w,e,a,d,f,c⟩ (b8 2) (b9 tW wh 42) (bt 3 0) [⟨.aj (e8 (gB (jh ⟨(bH v w e a d f c).h,(bH v w e a d f c).aZ,(bH v w e a d f c).o4,(bH v w e a d f c).ag⟩ (bH v w e a d f c).b 0 64)) (bH v w e a d f c).v (bH v w e a d f c).o (bH v w e a d f c).ku),.own⟩,⟨.aj w,.ro⟩] (.bA []) [decide ((0≤(aq (bH v w e a d f c).ag (64:Nat))∧((aq (bH v w e a d f c).ag (64:Nat))≤128∧(1≤(bH v w e a d f c).ku∧((bH v w e a d f c).ku≤64∧((((bH v w e a d f c).ku):Int).toNat≤((bH v w e a d f c).c5-(0:Nat))∧((((bH v w e a d f c).o+(0:Nat))+((bH v w e a d f c).c5-(0:Nat)))≤(bH v w e a d f c).v.n∧((bH v w e a d f c).c5-(0:Nat))≤1099511627776))))))),((true&&true)&&decide ((0:Int)≤(((bH v w e a d f c).c5:Nat):Int))),decide ((0≤(bH v w e a d f c).ag∧((bH v w e a d f c).ag≤128∧((0+(64:Nat))≤(bH v w e a d f c).b.n∧((64:Nat)≤1099511627776∧((((bH v w e a d f c).aZ).toNat+(64:Nat))+256)≤1152921504606846976))))),decide (64≤(bH v w e a d f c).b.n),(decide (0<(Int.tmod (bH v w e a d f c).N 64))==false),decide ((64:Int)≠0),decide ((((e+32)+(d-32))≤v.n∧((a-32)≤(d-32)∧((d-32)≤1099511627776∧((64:Nat)=64∧((1:Int)≤64∧((64:Int)≤64∧((0:Int)=0∧(0#64).toNat≤1000000)))))))),(decide (32≤(a:Int))&&decide ((a:Int)≤(d:Int))),decide ((e+(Nat.min 32 a))≤v.n),decide ((0+(Nat.min 32 a))≤64),decide ((64:Nat)≤64),decide (((0:Int)≤64∧(64:Int)≤64)),decide ((0≤(aq (aq 0 4) c)∧((aq (aq 0 4) c)≤128∧((1:Int)≤64∧((64:Int)≤64∧((64:Nat)≤64∧((0+64)≤64∧64≤1099511627776))))))),(decide ((a:Int)≤64)==false),decide ((0≤(aq 0 4)∧((aq 0 4)≤128∧((f+c)≤w.n∧(c≤1099511627776∧(((bK (0#64) 0 4).toNat+c)+256)≤1152921504606846976))))),decide (((0:Int)≤0∧((0:Int)≤128∧((0+4)≤64∧(4≤1099511627776∧(((0#64).toNat+4)+256)≤1152921504606846976))))),decide (((1:Int)≤64∧(64:Int)≤64)),(decide ((a:Int)<64)==false)]:=by show _=_;kernel_rfl
def C4{a:Nat}:(gN a).n=64:=rfl
def Gi:bK 0#64 0 4=0#64:=rfl
structure ae4(w0:U 8)(ae5 Rk Sf ae6 k:Nat)(d:tX):Prop where
 aom:d.w=w0
 aon:d.b.n=64
 XK:d.v.n=ae5
 aoo:d.ku=64
 aop:d.ag=0
 aoq:d.aZ=0#64
 aoJ:d.h=bU 64
 aoK:d.o=Rk+32+32*k
 aoL:d.iA=Sf-32-32*k
 aoM:d.c5=ae6-32-32*k
 aoN:d.N=(Sf:Int)
def AB(v w:U 8)(a c e f g:Nat):∀k,ae4 w v.n a c e k (iter l7 k (qa v w a c e f g))
 |0=>⟨rfl,(Gh _ _ _ _).trans C4,KP _ _ _,rfl,rfl,rfl,rfl,rfl,rfl,rfl,rfl⟩|k+1=>by
  have h:=AB v w a c e f g k;rw[gG];generalize iter l7 k (qa v w a c e f g)=d at h;obtain⟨v',w',b,u,x,y,z,ag,A,j,l,m,N⟩:=d;obtain⟨h1,h2,h3,h4,o,p,q,r,s,t,i⟩:=h;simp only at h1 h2 h3 h4 o p q r s t i;subst h4;exact⟨h1,(Gh _ _ _ _).trans h2,(KP _ _ _).trans h3,rfl,rfl,rfl,rfl,by show j+32=_;omega,by show l-32=_;omega,by show m-32=_;omega,i⟩
def Sg:br 42 nY.spec:=by
 refine nY.ok (dn Sd (ae2 _)) ae3 ?_;rintro⟨v,w,d,c,g,f,e⟩ y;have y:=bg y;have k:∀a b:Nat,Nat.min a b=min a b:=fun _ _=>rfl;have l:(0#64).toNat=0:=rfl;have w1:=C3 0 4 (by omega) (by omega);have B:=C3 (aq 0 4) e w1.1 w1.2;have C:=C3 0 64 (by omega) (by omega);by_cases h1:c≤64
 ·by_cases h2:c<64
  ·have i:nY.out ⟨v,w,d,c,g,f,e⟩=([⟨.aj (e8 (gB (qY (c:Int) w c f e)) v d (c:Int)),.own⟩,⟨.aj w,.ro⟩]:List ah):=by
    show([⟨.aj (fZ v w d c g f e),.own⟩,⟨.aj w,.ro⟩]:List ah)=_;unfold fZ;rw[ax h1]
    try rfl
   rw[i];refine⟨[true,true],some [0,1],_,Go.Proofs.YtcminalaicidiaaGreatDoor.h1 v w d c g f e,?_⟩
   repeat'(refine aA ?_ ?_)
   all_goals first|exact aX|(simp only[cz,eA,HV,gE,gb,k,l,Gi]<;>omega)
  ·obtain rfl:c=64:=by omega
   have i:nY.out ⟨v,w,d,64,g,f,e⟩=([⟨.aj (e8 (gB (qY 64 w 64 f e)) v d 64),.own⟩,⟨.aj w,.ro⟩]:List ah):=by
    show([⟨.aj (fZ v w d 64 g f e),.own⟩,⟨.aj w,.ro⟩]:List ah)=_;unfold fZ;rw[ax h1];rfl
   rw[i];refine⟨[false,true],some [0,1],_,Go.Proofs.YtcminalaicidiaaGreatDoor.h2 v w d 64 g f e,?_⟩
   repeat'(refine aA ?_ ?_)
   all_goals first|exact aX|(simp only[cz,eA,HV,gE,gb,k,l,Gi]<;>omega)
 ·obtain⟨z,m,p,q,r,s,D,t,E,u,j⟩:=AB v w d c g f e ((c-32-33)/32);have z:(bH v w d c g f e).w=w:=z;have m:(bH v w d c g f e).b.n=64:=m;have p:(bH v w d c g f e).v.n=v.n:=p;have q:(bH v w d c g f e).ku=64:=q;have r:(bH v w d c g f e).ag=0:=r;have s:(bH v w d c g f e).aZ=0#64:=s;have t:(bH v w d c g f e).o=d+32+32*((c-32-33)/32):=t;have u:(bH v w d c g f e).c5=g-32-32*((c-32-33)/32):=u;have j:(bH v w d c g f e).N=(c:Int):=j;have A:((c:Int)+31).tdiv 32=((c:Int)+31)/32:=pK (by omega);have x:(c:Int).tmod 64=(c:Int)%64:=oB (by omega);by_cases h3:0<(bH v w d c g f e).N.tmod 64
  ·have h4:=h3;rw[j,x]at h4;have i:nY.out ⟨v,w,d,c,g,f,e⟩=([⟨.aj (e8 (gB (jh (AA ((bH v w d c g f e).N-(32*(((bH v w d c g f e).N+31).tdiv 32-2))) p9) (bH v w d c g f e).b 0 64)) (bH v w d c g f e).v (bH v w d c g f e).o ((bH v w d c g f e).N-(32*(((bH v w d c g f e).N+31).tdiv 32-2)))),.own⟩,⟨.aj w,.ro⟩]:List ah):=by
    show([⟨.aj (fZ v w d c g f e),.own⟩,⟨.aj w,.ro⟩]:List ah)=_;unfold fZ;rw[ak h1,ax h3]
    try rfl
   rw[i];refine⟨(bt 3 4),some [0,1],_,Go.Proofs.YtcminalaicidiaaGreatDoor.h3 v w d c g f e,?_⟩
   repeat'(refine aA ?_ ?_)
   all_goals first|exact aX|(simp only[cz,eA,HV,gE,gb,k,l,Gi,m,p,q,r,s,t,u,j,A,x]<;>omega)
  ·have h4:=h3;rw[j,x]at h4;have i:nY.out ⟨v,w,d,c,g,f,e⟩=([⟨.aj (e8 (gB (jh ⟨(bH v w d c g f e).h,(bH v w d c g f e).aZ,(bH v w d c g f e).o4,(bH v w d c g f e).ag⟩ (bH v w d c g f e).b 0 64)) (bH v w d c g f e).v (bH v w d c g f e).o (bH v w d c g f e).ku),.own⟩,⟨.aj w,.ro⟩]:List ah):=by
    show([⟨.aj (fZ v w d c g f e),.own⟩,⟨.aj w,.ro⟩]:List ah)=_;unfold fZ;rw[ak h1,ak h3]
    try rfl
   rw[i];refine⟨(bt 3 0),some [0,1],_,Go.Proofs.YtcminalaicidiaaGreatDoor.h4 v w d c g f e,?_⟩
   repeat'(refine aA ?_ ?_)
   all_goals first|exact aX|(simp only[cz,eA,HV,gE,gb,k,l,Gi,m,p,q,r,s,t,u,j,A,x]<;>omega)
end
section
open Go.ay
variable [aR][aG][bl]
variable{c:BitVec 64}{P:Nat}
def Si:ay.Spec:=fW iP.spec tU.spec
def ae7:br 119 Si:=dF.or R7 aeF
def Gj:FuncId→Option ay.Spec|56=>some Az.spec|119=>some Si|118=>some qX.spec|_=>none
def Sj:∀f a,Gj f=some a→br f a:=by
 intro f a h;unfold Gj at h;split at h
 ·cases h;exact Sc
 ·cases h;exact ae7
 ·cases h;exact Sa
 ·cases h
def Sk(t m p k a:BitVec 32):U 8:=U.of [(p>>>0).setWidth 8,(p>>>8).setWidth 8,(p>>>16).setWidth 8,(p>>>24).setWidth 8,(k>>>0).setWidth 8,(k>>>8).setWidth 8,(k>>>16).setWidth 8,(k>>>24).setWidth 8,(m>>>0).setWidth 8,(m>>>8).setWidth 8,(m>>>16).setWidth 8,(m>>>24).setWidth 8,(t>>>0).setWidth 8,(t>>>8).setWidth 8,(t>>>16).setWidth 8,(t>>>24).setWidth 8,19#8,0#8,0#8,0#8,(a>>>0).setWidth 8,(a>>>8).setWidth 8,(a>>>16).setWidth 8,(a>>>24).setWidth 8]
def sw(n:Nat):U 8:=U.of [((BitVec.ofInt 32 (n:Int))>>>0).setWidth 8,((BitVec.ofInt 32 (n:Int))>>>8).setWidth 8,((BitVec.ofInt 32 (n:Int))>>>16).setWidth 8,((BitVec.ofInt 32 (n:Int))>>>24).setWidth 8]
def nZ(d:jB)(v:U 8)(a n:Nat):jB:=jh (jh d (sw n) 0 4) v a n
def Sl(d:jB):jB:=⟨eta d.h,d.c,cw d.x,d.n+0⟩
def tB(d:jB):jB:=Sl (jh d (U.of [0#8,0#8,0#8,0#8]) 0 4)
def Sm:U 8:=U.of (List.replicate 72 0#8)
def Gk(t m p k:BitVec 32)(a:Int):jB:=jh (AA 64 p9) (Sk t m p k (BitVec.ofInt 32 a)) 0 24
def AD(a b c d:U 8)(e f g h i j l n:Nat)(t m p k:BitVec 32)(o:Int):jB:=nZ (nZ (nZ (nZ (Gk t m p k o) a e f) b g h) c i j) d l n
def C5(a b:U 8)(d e f g:Nat)(t m p k:BitVec 32)(h:Int):jB:=tB (tB (nZ (nZ (Gk t m p k h) a d e) b f g))
def tY(d:jB):U 8:=e8 (gB d) Sm 0 64
def KU(c:BitVec 64):∀(k:Nat),c.toNat+128*k<1152921504606847232→(gQ c k).toNat=c.toNat+128*k
 |0,_=>rfl|k+1,h=>by
  have:=KU c k (by omega)
  show(gQ c k+128#64).toNat=_;rw[eB,show(128#64).toNat=128 from rfl];omega
def ae8(c:BitVec 64)(ag:Int)(a:Nat)(e:0≤ag)(h:c.toNat+a+256≤1152921504606846976):(bK c ag a).toNat≤c.toNat+a+128:=by
 have d:(128#64).toNat=128:=rfl;have b:(c+128#64).toNat=c.toNat+128:=by have:=c.isLt;rw[eB,d];omega
 have f:128*aP a≤a:=by unfold aP;omega
 have g:128*aP (a-(128-ag).toNat)≤a:=by unfold aP;omega
 unfold bK;split
 ·split
  ·omega
  ·rw[KU _ _ (by rw[b];omega),b];omega
 ·rw[KU _ _ (by omega)];omega
def l8{ag:Int}(P:Nat)(h:(0≤ag∧ag≤128)∧c.toNat≤P)(a:Nat)(b:P+a+256≤1152921504606846976):(0≤aq ag a∧aq ag a≤128)∧(bK c ag a).toNat≤P+a+128:=by
 refine⟨C3 ag a h.1.1 h.1.2,?_⟩;have:=ae8 c ag a h.1.1 (by omega);omega
def Sn{ag:Int}(h:(0≤ag∧ag≤128)∧c.toNat≤P):(0≤ag+0∧ag+0≤128)∧c.toNat≤P:=by rw[Wo];exact h
def l9{ag:Int}{b a n:Nat}(h:(0≤ag∧ag≤128)∧c.toNat≤P)(d:b+a≤n)(e:a≤1000000)(f:P≤100000000):decide (0≤ag∧ag≤128∧b+a≤n∧a≤1099511627776∧c.toNat+a+256≤1152921504606846976)=true:=
 bu ⟨h.1.1,h.1.2,d,by omega,by omega⟩
structure KV where
 (a b c e:U 8)(bD na bC nb bO bG bW ne:Nat)(t m p k:BitVec 32)(aN:Int)
def KW(a:List af)(P:List ah):Option KV:=
 match a with
 |[.ref (.sl 0 (.s d) (.s e) none),.ref (.sl 1 (.s f) (.s g) none),.ref (.sl 2 (.s h) (.s i) none),.ref (.sl 3 (.s j) (.s l) none),.num (.aF t),.num (.aF m),.num (.aF p),.num (.aF k),.num (.int .i64 (.s n))]=>
  match P with
  |[⟨.aj a,.ro⟩,⟨.aj b,.ro⟩,⟨.aj c,.ro⟩,⟨.aj o,.ro⟩]=>some ⟨a,b,c,o,d,e,f,g,h,i,j,l,t,m,p,k,n⟩|_=>none
 |_=>none
def AE:bV KV where
 d0:=⟨0,0,0,0,0,0,0,0,0,0,0,0,0,0,0,0,0⟩
 read:=KW
 args:=fun⟨_,_,_,_,h,d,i,e,j,f,l,g,t,m,p,k,q⟩=>[.ref (.sl 0 (.s h) (.s d) none),.ref (.sl 1 (.s i) (.s e) none),.ref (.sl 2 (.s j) (.s f) none),.ref (.sl 3 (.s l) (.s g) none),.num (.aF t),.num (.aF m),.num (.aF p),.num (.aF k),.au q]
 heap:=fun⟨a,b,c,o,_,_,_,_,_,_,_,_,_,_,_,_,_⟩=>[⟨.aj a,.ro⟩,⟨.aj b,.ro⟩,⟨.aj c,.ro⟩,⟨.aj o,.ro⟩]
 val:=fun⟨a,b,c,o,h,d,i,e,j,f,l,g,t,m,p,k,q⟩=>(.agg (jR (tY (AD a b c o h d i e j f l g t m p k q)) 72))
 aT:=fun⟨a,b,c,o,h,d,i,e,j,f,l,g,_,_,_,_,_⟩=>decide (h+d≤a.n∧d≤1000000∧i+e≤b.n∧e≤1000000∧j+f≤c.n∧f≤1000000∧l+g≤o.n∧g≤1000000)
def ae9(a b c h:U 8)(i d j e l f o g:Nat)(t m p k:BitVec 32)(q:Int):AE.fR ⟨a,b,c,h,i,d,j,e,l,f,o,g,t,m,p,k,q⟩ (b8 4) (b9 Gj aU 31) [] [decide ((72:Nat)≤72),decide ((0≤(aq (aq (aq (aq (aq (aq (aq (aq (aq 0 (24:Nat)) (4:Nat)) d) (4:Nat)) e) (4:Nat)) f) (4:Nat)) g)∧((aq (aq (aq (aq (aq (aq (aq (aq (aq 0 (24:Nat)) (4:Nat)) d) (4:Nat)) e) (4:Nat)) f) (4:Nat)) g)≤128∧((1:Int)≤64∧((64:Int)≤64∧((64:Nat)≤72∧((0+72)≤72∧72≤1099511627776))))))),decide ((0≤(aq (aq (aq (aq (aq (aq (aq (aq 0 (24:Nat)) (4:Nat)) d) (4:Nat)) e) (4:Nat)) f) (4:Nat))∧((aq (aq (aq (aq (aq (aq (aq (aq 0 (24:Nat)) (4:Nat)) d) (4:Nat)) e) (4:Nat)) f) (4:Nat))≤128∧((o+g)≤h.n∧(g≤1099511627776∧((((bK (bK (bK (bK (bK (bK (bK (bK (0#64) 0 (24:Nat)) (aq 0 (24:Nat)) (4:Nat)) (aq (aq 0 (24:Nat)) (4:Nat)) d) (aq (aq (aq 0 (24:Nat)) (4:Nat)) d) (4:Nat)) (aq (aq (aq (aq 0 (24:Nat)) (4:Nat)) d) (4:Nat)) e) (aq (aq (aq (aq (aq 0 (24:Nat)) (4:Nat)) d) (4:Nat)) e) (4:Nat)) (aq (aq (aq (aq (aq (aq 0 (24:Nat)) (4:Nat)) d) (4:Nat)) e) (4:Nat)) f) (aq (aq (aq (aq (aq (aq (aq 0 (24:Nat)) (4:Nat)) d) (4:Nat)) e) (4:Nat)) f) (4:Nat))).toNat+g)+256)≤1152921504606846976))))),decide ((0≤(aq (aq (aq (aq (aq (aq (aq 0 (24:Nat)) (4:Nat)) d) (4:Nat)) e) (4:Nat)) f)∧((aq (aq (aq (aq (aq (aq (aq 0 (24:Nat)) (4:Nat)) d) (4:Nat)) e) (4:Nat)) f)≤128∧((0+(4:Nat))≤4∧((4:Nat)≤1099511627776∧((((bK (bK (bK (bK (bK (bK (bK (0#64) 0 (24:Nat)) (aq 0 (24:Nat)) (4:Nat)) (aq (aq 0 (24:Nat)) (4:Nat)) d) (aq (aq (aq 0 (24:Nat)) (4:Nat)) d) (4:Nat)) (aq (aq (aq (aq 0 (24:Nat)) (4:Nat)) d) (4:Nat)) e) (aq (aq (aq (aq (aq 0 (24:Nat)) (4:Nat)) d) (4:Nat)) e) (4:Nat)) (aq (aq (aq (aq (aq (aq 0 (24:Nat)) (4:Nat)) d) (4:Nat)) e) (4:Nat)) f)).toNat+(4:Nat))+256)≤1152921504606846976))))),decide ((0≤(aq (aq (aq (aq (aq (aq 0 (24:Nat)) (4:Nat)) d) (4:Nat)) e) (4:Nat))∧((aq (aq (aq (aq (aq (aq 0 (24:Nat)) (4:Nat)) d) (4:Nat)) e) (4:Nat))≤128∧((l+f)≤c.n∧(f≤1099511627776∧((((bK (bK (bK (bK (bK (bK (0#64) 0 (24:Nat)) (aq 0 (24:Nat)) (4:Nat)) (aq (aq 0 (24:Nat)) (4:Nat)) d) (aq (aq (aq 0 (24:Nat)) (4:Nat)) d) (4:Nat)) (aq (aq (aq (aq 0 (24:Nat)) (4:Nat)) d) (4:Nat)) e) (aq (aq (aq (aq (aq 0 (24:Nat)) (4:Nat)) d) (4:Nat)) e) (4:Nat))).toNat+f)+256)≤1152921504606846976))))),decide ((0≤(aq (aq (aq (aq (aq 0 (24:Nat)) (4:Nat)) d) (4:Nat)) e)∧((aq (aq (aq (aq (aq 0 (24:Nat)) (4:Nat)) d) (4:Nat)) e)≤128∧((0+(4:Nat))≤4∧((4:Nat)≤1099511627776∧((((bK (bK (bK (bK (bK (0#64) 0 (24:Nat)) (aq 0 (24:Nat)) (4:Nat)) (aq (aq 0 (24:Nat)) (4:Nat)) d) (aq (aq (aq 0 (24:Nat)) (4:Nat)) d) (4:Nat)) (aq (aq (aq (aq 0 (24:Nat)) (4:Nat)) d) (4:Nat)) e)).toNat+(4:Nat))+256)≤1152921504606846976))))),decide ((0≤(aq (aq (aq (aq 0 (24:Nat)) (4:Nat)) d) (4:Nat))∧((aq (aq (aq (aq 0 (24:Nat)) (4:Nat)) d) (4:Nat))≤128∧((j+e)≤b.n∧(e≤1099511627776∧((((bK (bK (bK (bK (0#64) 0 (24:Nat)) (aq 0 (24:Nat)) (4:Nat)) (aq (aq 0 (24:Nat)) (4:Nat)) d) (aq (aq (aq 0 (24:Nat)) (4:Nat)) d) (4:Nat))).toNat+e)+256)≤1152921504606846976))))),decide ((0≤(aq (aq (aq 0 (24:Nat)) (4:Nat)) d)∧((aq (aq (aq 0 (24:Nat)) (4:Nat)) d)≤128∧((0+(4:Nat))≤4∧((4:Nat)≤1099511627776∧((((bK (bK (bK (0#64) 0 (24:Nat)) (aq 0 (24:Nat)) (4:Nat)) (aq (aq 0 (24:Nat)) (4:Nat)) d)).toNat+(4:Nat))+256)≤1152921504606846976))))),decide ((0≤(aq (aq 0 (24:Nat)) (4:Nat))∧((aq (aq 0 (24:Nat)) (4:Nat))≤128∧((i+d)≤a.n∧(d≤1099511627776∧((((bK (bK (0#64) 0 (24:Nat)) (aq 0 (24:Nat)) (4:Nat))).toNat+d)+256)≤1152921504606846976))))),decide ((0≤(aq 0 (24:Nat))∧((aq 0 (24:Nat))≤128∧((0+(4:Nat))≤4∧((4:Nat)≤1099511627776∧(((bK (0#64) 0 (24:Nat)).toNat+(4:Nat))+256)≤1152921504606846976))))),decide (((0:Int)≤0∧((0:Int)≤128∧((0+(24:Nat))≤24∧((24:Nat)≤1099511627776∧(((0#64).toNat+(24:Nat))+256)≤1152921504606846976))))),decide (((1:Int)≤64∧(64:Int)≤64))]:=by show _=_;kernel_rfl
def afa:AE.Rd:=by
 intro a P d h;change KW a P=some d at h;unfold KW at h;repeat' split at h
 all_goals cases h
 exact⟨rfl,rfl⟩
def afb:br 31 AE.spec:=by
 refine AE.ok (dn Sj (cL _)) afa ?_;rintro⟨a,b,c,w,x,e,y,f,z,g,A,h,t,m,p,k,B⟩ d;have d:=bg d;refine⟨[],(b8 4),_,ae9 a b c w x e y f z g A h t m p k B,?_⟩;have i:((0:Int)≤0∧(0:Int)≤128)∧(0#64).toNat≤0:=⟨⟨by omega,by omega⟩,aV _⟩;have j:=l8 (0) i 24 (by omega);have l:=l8 (0+24+128) j 4 (by omega);have n:=l8 (0+24+128+4+128) l e (by omega);have o:=l8 (0+24+128+4+128+e+128) n 4 (by omega);have q:=l8 (0+24+128+4+128+e+128+4+128) o f (by omega);have r:=l8 (0+24+128+4+128+e+128+4+128+f+128) q 4 (by omega);have s:=l8 (0+24+128+4+128+e+128+4+128+f+128+4+128) r g (by omega);have u:=l8 (0+24+128+4+128+e+128+4+128+f+128+4+128+g+128) s 4 (by omega);have v:=l8 (0+24+128+4+128+e+128+4+128+f+128+4+128+g+128+4+128) u h (by omega);exact aA (rfl) (aA (bu ⟨v.1.1,v.1.2,by decide,by decide,by decide,by decide,by decide⟩) (aA (l9 u (d.2.2.2.2.2.2.1) (d.2.2.2.2.2.2.2) (by omega)) (aA (l9 s (by decide) (by decide) (by omega)) (aA (l9 r (d.2.2.2.2.1) (d.2.2.2.2.2.1) (by omega)) (aA (l9 q (by decide) (by decide) (by omega)) (aA (l9 o (d.2.2.1) (d.2.2.2.1) (by omega)) (aA (l9 n (by decide) (by decide) (by omega)) (aA (l9 l (d.1) (d.2.1) (by omega)) (aA (l9 j (by decide) (by decide) (by omega)) (aA (l9 i (by decide) (by decide) (by omega)) (aA (rfl) (aX))))))))))))
structure KX where
 (a b:U 8)(bD na bC nb:Nat)(t m p k:BitVec 32)(aN:Int)
def KY(a:List af)(P:List ah):Option KX:=
 match a with
 |[.ref (.sl 0 (.s d) (.s e) none),.ref (.sl 1 (.s f) (.s g) none),.atom .cD,.atom .cD,.num (.aF t),.num (.aF m),.num (.aF p),.num (.aF k),.num (.int .i64 (.s h))]=>
  match P with
  |[⟨.aj a,.ro⟩,⟨.aj b,.ro⟩]=>some ⟨a,b,d,e,f,g,t,m,p,k,h⟩|_=>none
 |_=>none
def AF:bV KX where
 d0:=⟨0,0,0,0,0,0,0,0,0,0,0⟩
 read:=KY
 args:=fun⟨_,_,f,d,g,e,t,m,p,k,h⟩=>[.ref (.sl 0 (.s f) (.s d) none),.ref (.sl 1 (.s g) (.s e) none),.atom .cD,.atom .cD,.num (.aF t),.num (.aF m),.num (.aF p),.num (.aF k),.au h]
 heap:=fun⟨a,b,_,_,_,_,_,_,_,_,_⟩=>[⟨.aj a,.ro⟩,⟨.aj b,.ro⟩]
 val:=fun⟨a,b,f,d,g,e,t,m,p,k,h⟩=>(.agg (jR (tY (C5 a b f d g e t m p k h)) 72))
 aT:=fun⟨a,b,f,d,g,e,_,_,_,_,_⟩=>decide (f+d≤a.n∧d≤1000000∧g+e≤b.n∧e≤1000000)
def afc(a b:U 8)(f d g e:Nat)(t m p k:BitVec 32)(h:Int):AF.fR ⟨a,b,f,d,g,e,t,m,p,k,h⟩ (b8 2) (b9 Gj aU 31) [] [decide ((72:Nat)≤72),decide ((0≤((aq ((aq (aq (aq (aq (aq (aq 0 (24:Nat)) (4:Nat)) d) (4:Nat)) e) (4:Nat))+0) (4:Nat))+0)∧(((aq ((aq (aq (aq (aq (aq (aq 0 (24:Nat)) (4:Nat)) d) (4:Nat)) e) (4:Nat))+0) (4:Nat))+0)≤128∧((1:Int)≤64∧((64:Int)≤64∧((64:Nat)≤72∧((0+72)≤72∧72≤1099511627776))))))),decide ((0≤(aq ((aq (aq (aq (aq (aq (aq 0 (24:Nat)) (4:Nat)) d) (4:Nat)) e) (4:Nat))+0) (4:Nat))∧(aq ((aq (aq (aq (aq (aq (aq 0 (24:Nat)) (4:Nat)) d) (4:Nat)) e) (4:Nat))+0) (4:Nat))≤128)),decide ((0≤((aq (aq (aq (aq (aq (aq 0 (24:Nat)) (4:Nat)) d) (4:Nat)) e) (4:Nat))+0)∧(((aq (aq (aq (aq (aq (aq 0 (24:Nat)) (4:Nat)) d) (4:Nat)) e) (4:Nat))+0)≤128∧((0+(4:Nat))≤4∧((4:Nat)≤1099511627776∧((((bK (bK (bK (bK (bK (bK (0#64) 0 (24:Nat)) (aq 0 (24:Nat)) (4:Nat)) (aq (aq 0 (24:Nat)) (4:Nat)) d) (aq (aq (aq 0 (24:Nat)) (4:Nat)) d) (4:Nat)) (aq (aq (aq (aq 0 (24:Nat)) (4:Nat)) d) (4:Nat)) e) (aq (aq (aq (aq (aq 0 (24:Nat)) (4:Nat)) d) (4:Nat)) e) (4:Nat))).toNat+(4:Nat))+256)≤1152921504606846976))))),decide ((0≤(aq (aq (aq (aq (aq (aq 0 (24:Nat)) (4:Nat)) d) (4:Nat)) e) (4:Nat))∧(aq (aq (aq (aq (aq (aq 0 (24:Nat)) (4:Nat)) d) (4:Nat)) e) (4:Nat))≤128)),decide ((0≤(aq (aq (aq (aq (aq 0 (24:Nat)) (4:Nat)) d) (4:Nat)) e)∧((aq (aq (aq (aq (aq 0 (24:Nat)) (4:Nat)) d) (4:Nat)) e)≤128∧((0+(4:Nat))≤4∧((4:Nat)≤1099511627776∧((((bK (bK (bK (bK (bK (0#64) 0 (24:Nat)) (aq 0 (24:Nat)) (4:Nat)) (aq (aq 0 (24:Nat)) (4:Nat)) d) (aq (aq (aq 0 (24:Nat)) (4:Nat)) d) (4:Nat)) (aq (aq (aq (aq 0 (24:Nat)) (4:Nat)) d) (4:Nat)) e)).toNat+(4:Nat))+256)≤1152921504606846976))))),decide ((0≤(aq (aq (aq (aq 0 (24:Nat)) (4:Nat)) d) (4:Nat))∧((aq (aq (aq (aq 0 (24:Nat)) (4:Nat)) d) (4:Nat))≤128∧((g+e)≤b.n∧(e≤1099511627776∧((((bK (bK (bK (bK (0#64) 0 (24:Nat)) (aq 0 (24:Nat)) (4:Nat)) (aq (aq 0 (24:Nat)) (4:Nat)) d) (aq (aq (aq 0 (24:Nat)) (4:Nat)) d) (4:Nat))).toNat+e)+256)≤1152921504606846976))))),decide ((0≤(aq (aq (aq 0 (24:Nat)) (4:Nat)) d)∧((aq (aq (aq 0 (24:Nat)) (4:Nat)) d)≤128∧((0+(4:Nat))≤4∧((4:Nat)≤1099511627776∧((((bK (bK (bK (0#64) 0 (24:Nat)) (aq 0 (24:Nat)) (4:Nat)) (aq (aq 0 (24:Nat)) (4:Nat)) d)).toNat+(4:Nat))+256)≤1152921504606846976))))),decide ((0≤(aq (aq 0 (24:Nat)) (4:Nat))∧((aq (aq 0 (24:Nat)) (4:Nat))≤128∧((f+d)≤a.n∧(d≤1099511627776∧((((bK (bK (0#64) 0 (24:Nat)) (aq 0 (24:Nat)) (4:Nat))).toNat+d)+256)≤1152921504606846976))))),decide ((0≤(aq 0 (24:Nat))∧((aq 0 (24:Nat))≤128∧((0+(4:Nat))≤4∧((4:Nat)≤1099511627776∧(((bK (0#64) 0 (24:Nat)).toNat+(4:Nat))+256)≤1152921504606846976))))),decide (((0:Int)≤0∧((0:Int)≤128∧((0+(24:Nat))≤24∧((24:Nat)≤1099511627776∧(((0#64).toNat+(24:Nat))+256)≤1152921504606846976))))),decide (((1:Int)≤64∧(64:Int)≤64))]:=by show _=_;kernel_rfl
def afd:AF.Rd:=by
 intro a P d h;change KY a P=some d at h;unfold KY at h;repeat' split at h
 all_goals cases h
 exact⟨rfl,rfl⟩
def afe:br 31 AF.spec:=by
 refine AF.ok (dn Sj (cL _)) afd ?_;rintro⟨a,b,u,d,v,f,t,m,p,k,w⟩ e;have e:=bg e;refine⟨[],(b8 2),_,afc a b u d v f t m p k w,?_⟩;have g:((0:Int)≤0∧(0:Int)≤128)∧(0#64).toNat≤0:=⟨⟨by omega,by omega⟩,aV _⟩;have h:=l8 (0) g 24 (by omega);have i:=l8 (0+24+128) h 4 (by omega);have j:=l8 (0+24+128+4+128) i d (by omega);have l:=l8 (0+24+128+4+128+d+128) j 4 (by omega);have n:=l8 (0+24+128+4+128+d+128+4+128) l f (by omega);have o:=l8 (0+24+128+4+128+d+128+4+128+f+128) n 4 (by omega);have q:=Sn o;have r:=l8 (0+24+128+4+128+d+128+4+128+f+128+4+128) q 4 (by omega);have s:=Sn r;exact aA (rfl) (aA (bu ⟨s.1.1,s.1.2,by decide,by decide,by decide,by decide,by decide⟩) (aA (bu r.1) (aA (l9 q (by decide) (by decide) (by omega)) (aA (bu o.1) (aA (l9 n (by decide) (by decide) (by omega)) (aA (l9 l (e.2.2.1) (e.2.2.2) (by omega)) (aA (l9 j (by decide) (by decide) (by omega)) (aA (l9 i (e.1) (e.2.1) (by omega)) (aA (l9 h (by decide) (by decide) (by omega)) (aA (l9 g (by decide) (by decide) (by omega)) (aA (rfl) (aX))))))))))))
end
section
open Go.ay
variable [aR][aG][bl]
def n3:FuncId→Option ay.Spec|42=>some nY.spec|43=>some Ax.spec|_=>none
def C6:∀f a,n3 f=some a→br f a:=by
 intro f a h;unfold n3 at h;split at h
 ·cases h;exact Sg
 ·cases h;exact R1
 ·cases h
def sx(X:U 64)(b:U 8)(a:Nat)(i:Int):U 64:=X.set (a+i.toNat*1) (gu b (0+(i*8).toNat*1))
structure tZ where
 (h b:U 8)(X:U 64)(M:Nat)(mem p lane j:BitVec 32)(i:Int)
def aff(d:tZ):aJ×List ah:=
 match d with
 |⟨h,b,X,M,mem,p,a,j,i⟩=>(⟨[.P 0,.num (.aF mem),.num (.aF p),.aa,.aa,.aa,.atom .cD,.P 1,.ref (.sm 2 (.s M) 128),.num (.aF a),.num (.aF j),.aa,.aa],[⟨41,.au i⟩]⟩,[⟨.aj h,.own⟩,⟨.aj b,.own⟩,⟨.bw X,.own⟩,cp,cp])
def qZ(d:tZ):tZ:=
 match d with
 |⟨h,b,X,M,mem,p,a,j,i⟩=>⟨h,b,sx X b (aS (j+0#32)) i,M,mem,p,a,j,i+1⟩
def KZ(a:aJ)(d:List ah):Option tZ:=
 match a with
 |⟨[.ref (.ptr 0 (.c 0)),.num (.aF mem),.num (.aF p),.atom .aa,.atom .aa,.atom .aa,.atom .cD,.ref (.ptr 1 (.c 0)),.ref (.sm 2 (.s M) 128),.num (.aF e),.num (.aF j),.atom .aa,.atom .aa],[⟨41,.num (.int .i64 (.s i))⟩]⟩=>
  match d with
  |[⟨.aj h,.own⟩,⟨.aj b,.own⟩,⟨.bw X,.own⟩,⟨.gen [],.bn⟩,⟨.gen [],.bn⟩]=>some ⟨h,b,X,M,mem,p,e,j,i⟩|_=>none
 |_=>none
def n4:eN tZ where
 d0:=⟨0,0,0,0,0,0,0,0,0⟩
 read:=KZ
 az:=aff
 next:=qZ
 rem:=fun⟨_,_,_,_,_,_,_,_,i⟩=>(128-i).toNat
 aT:=fun⟨_,b,X,M,_,_,_,j,i⟩=>decide (0≤i∧i≤128∧b.n=1024∧X.n=M*128∧(j+0#32).toNat<M)
 out:=.exit 2
def afg(h b:U 8)(X:U 64)(M:Nat)(mem p a j:BitVec 32)(i:Int):n4.cE ⟨h,b,X,M,mem,p,a,j,i⟩ (b8 5) (n4.az (qZ ⟨h,b,X,M,mem,p,a,j,i⟩)) (bZ n3 aU 32 1) [true] .normal [cQ (i+1),decide (((0+((((((j+(0#32)).toNat:Nat):Int)):Int).toNat*128))+(i.toNat*1))<X.n),(decide (0≤i)&&decide (i<(128:Int))),(decide ((0:Int)≤(((j+(0#32)).toNat:Nat):Int))&&decide ((((j+(0#32)).toNat:Nat):Int)<(M:Int))),decide ((((0+((((i*8)):Int).toNat*1))+8)≤b.n∧((8:Nat)≤((((1024:Int)):Int).toNat-(((i*8)):Int).toNat)∧((((1024:Int)):Int).toNat-(((i*8)):Int).toNat)≤1099511627776))),((decide (0≤(i*8))&&decide ((i*8)≤(1024:Int)))&&true),decide (1024≤b.n),cQ (i*8),(decide (i<128)==true)]:=by show _=_;kernel_rfl
def afh(h b:U 8)(X:U 64)(M:Nat)(mem p a j:BitVec 32)(i:Int):n4.cE ⟨h,b,X,M,mem,p,a,j,i⟩ none (n4.fin ⟨h,b,X,M,mem,p,a,j,i⟩) (bZ n3 aU 32 1) [false] n4.out [(decide (i<128)==false)]:=by show _=_;kernel_rfl
def afi:n4.Rd:=by
 intro a b d h;change KZ a b=some d at h;unfold KZ at h;repeat' split at h
 all_goals cases h
 rfl
def afj:dg Tryz.prog bB (an 32) (bS Tryz.prog 32) (bh Tryz.prog 32 1) (bZ n3 aU 32 1):=iz C6 (cL _) 32 1 Ak (by rw[show(cI Tryz.prog 32).length=3 by kernel_rfl];omega)
def afk:eF Tryz.prog bB (an 32) (bS Tryz.prog 32) (bh Tryz.prog 32 1) n4.T.told:=by
 refine n4.jT afj (by intro k e;have e:k∈([]:List ah):=e;cases e) (by intro h;cases h) afi ?_ ?_
 ·rintro⟨h,b,X,M,mem,p,a,j,i⟩ g c d;have c:=bg c;have d:(128-i).toNat=g+1:=d;have l:n4.next ⟨h,b,X,M,mem,p,a,j,i⟩=qZ ⟨h,b,X,M,mem,p,a,j,i⟩:=rfl;rw[l];refine⟨⟨[true],(b8 5),_,afg h b X M mem p a j i,?_⟩,?_,?_,(show(n4.az (qZ ⟨h,b,X,M,mem,p,a,j,i⟩)).2.length=5 by kernel_rfl).trans (show(n4.az ⟨h,b,X,M,mem,p,a,j,i⟩).2.length=5 by kernel_rfl).symm⟩
  ·repeat'(refine aA ?_ ?_)
   all_goals first|exact aX|rfl|(simp only[cz]<;>omega)
  ·have f:n4.aT (qZ ⟨h,b,X,M,mem,p,a,j,i⟩)=decide (0≤(i+1:Int)∧(i+1:Int)≤128∧b.n=1024∧(sx X b (aS (j+0#32)) i:U 64).n=M*128∧(j+0#32).toNat<M):=by kernel_rfl
   refine f.trans (bu ?_);have m:(sx X b (aS (j+0#32)) i).n=X.n:=rfl;omega
  ·have f:n4.rem (qZ ⟨h,b,X,M,mem,p,a,j,i⟩)=((128-(i+1:Int)).toNat):=by kernel_rfl
   refine f.trans ?_;omega
 ·rintro⟨h,b,X,M,mem,p,a,j,i⟩ c d;have c:=bg c;have d:(128-i).toNat=0:=d;refine⟨[false],none,_,afh h b X M mem p a j i,?_⟩
  repeat'(refine aA ?_ ?_)
  all_goals first|exact aX|rfl|(simp only[cz]<;>omega)
def K0:cP:=n4.T.told
def afl:Told 32 1 K0:=afk.run
structure wj where
 (h b:U 8)(X:U 64)(M:Nat)(mem p lane j:BitVec 32)(i:Int)
def afm(d:wj):aJ×List ah:=
 match d with
 |⟨h,b,X,M,mem,p,a,j,i⟩=>(⟨[.P 0,.num (.aF mem),.num (.aF p),.aa,.aa,.aa,.atom .cD,.P 1,.ref (.sm 2 (.s M) 128),.num (.aF a),.num (.aF j),.aa,.aa],[⟨66,.au i⟩]⟩,[⟨.aj h,.own⟩,⟨.aj b,.own⟩,⟨.bw X,.own⟩,cp,cp,cp])
def q2(d:wj):wj:=
 match d with
 |⟨h,b,X,M,mem,p,a,j,i⟩=>⟨h,b,sx X b (aS (j+1#32)) i,M,mem,p,a,j,i+1⟩
def K1(a:aJ)(d:List ah):Option wj:=
 match a with
 |⟨[.ref (.ptr 0 (.c 0)),.num (.aF mem),.num (.aF p),.atom .aa,.atom .aa,.atom .aa,.atom .cD,.ref (.ptr 1 (.c 0)),.ref (.sm 2 (.s M) 128),.num (.aF e),.num (.aF j),.atom .aa,.atom .aa],[⟨66,.num (.int .i64 (.s i))⟩]⟩=>
  match d with
  |[⟨.aj h,.own⟩,⟨.aj b,.own⟩,⟨.bw X,.own⟩,⟨.gen [],.bn⟩,⟨.gen [],.bn⟩,⟨.gen [],.bn⟩]=>some ⟨h,b,X,M,mem,p,e,j,i⟩|_=>none
 |_=>none
def n5:eN wj where
 d0:=⟨0,0,0,0,0,0,0,0,0⟩
 read:=K1
 az:=afm
 next:=q2
 rem:=fun⟨_,_,_,_,_,_,_,_,i⟩=>(128-i).toNat
 aT:=fun⟨_,b,X,M,_,_,_,j,i⟩=>decide (0≤i∧i≤128∧b.n=1024∧X.n=M*128∧(j+1#32).toNat<M)
 out:=.exit 4
def afn(h b:U 8)(X:U 64)(M:Nat)(mem p a j:BitVec 32)(i:Int):n5.cE ⟨h,b,X,M,mem,p,a,j,i⟩ (b8 6) (n5.az (q2 ⟨h,b,X,M,mem,p,a,j,i⟩)) (bZ n3 aU 32 2) [true] .normal [cQ (i+1),decide (((0+((((((j+(1#32)).toNat:Nat):Int)):Int).toNat*128))+(i.toNat*1))<X.n),(decide (0≤i)&&decide (i<(128:Int))),(decide ((0:Int)≤(((j+(1#32)).toNat:Nat):Int))&&decide ((((j+(1#32)).toNat:Nat):Int)<(M:Int))),decide ((((0+((((i*8)):Int).toNat*1))+8)≤b.n∧((8:Nat)≤((((1024:Int)):Int).toNat-(((i*8)):Int).toNat)∧((((1024:Int)):Int).toNat-(((i*8)):Int).toNat)≤1099511627776))),((decide (0≤(i*8))&&decide ((i*8)≤(1024:Int)))&&true),decide (1024≤b.n),cQ (i*8),(decide (i<128)==true)]:=by show _=_;kernel_rfl
def afo(h b:U 8)(X:U 64)(M:Nat)(mem p a j:BitVec 32)(i:Int):n5.cE ⟨h,b,X,M,mem,p,a,j,i⟩ none (n5.fin ⟨h,b,X,M,mem,p,a,j,i⟩) (bZ n3 aU 32 2) [false] n5.out [(decide (i<128)==false)]:=by show _=_;kernel_rfl
def afp:n5.Rd:=by
 intro a b d h;change K1 a b=some d at h;unfold K1 at h;repeat' split at h
 all_goals cases h
 rfl
def afq:dg Tryz.prog bB (an 32) (bS Tryz.prog 32) (bh Tryz.prog 32 2) (bZ n3 aU 32 2):=iz C6 (cL _) 32 2 Ak (by rw[show(cI Tryz.prog 32).length=3 by kernel_rfl];omega)
def afr:eF Tryz.prog bB (an 32) (bS Tryz.prog 32) (bh Tryz.prog 32 2) n5.T.told:=by
 refine n5.jT afq (by intro k e;have e:k∈([]:List ah):=e;cases e) (by intro h;cases h) afp ?_ ?_
 ·rintro⟨h,b,X,M,mem,p,a,j,i⟩ g c d;have c:=bg c;have d:(128-i).toNat=g+1:=d;have l:n5.next ⟨h,b,X,M,mem,p,a,j,i⟩=q2 ⟨h,b,X,M,mem,p,a,j,i⟩:=rfl;rw[l];refine⟨⟨[true],(b8 6),_,afn h b X M mem p a j i,?_⟩,?_,?_,(show(n5.az (q2 ⟨h,b,X,M,mem,p,a,j,i⟩)).2.length=6 by kernel_rfl).trans (show(n5.az ⟨h,b,X,M,mem,p,a,j,i⟩).2.length=6 by kernel_rfl).symm⟩
  ·repeat'(refine aA ?_ ?_)
   all_goals first|exact aX|rfl|(simp only[cz]<;>omega)
  ·have f:n5.aT (q2 ⟨h,b,X,M,mem,p,a,j,i⟩)=decide (0≤(i+1:Int)∧(i+1:Int)≤128∧b.n=1024∧(sx X b (aS (j+1#32)) i:U 64).n=M*128∧(j+1#32).toNat<M):=by kernel_rfl
   refine f.trans (bu ?_);have m:(sx X b (aS (j+1#32)) i).n=X.n:=rfl;omega
  ·have f:n5.rem (q2 ⟨h,b,X,M,mem,p,a,j,i⟩)=((128-(i+1:Int)).toNat):=by kernel_rfl
   refine f.trans ?_;omega
 ·rintro⟨h,b,X,M,mem,p,a,j,i⟩ c d;have c:=bg c;have d:(128-i).toNat=0:=d;refine⟨[false],none,_,afo h b X M mem p a j i,?_⟩
  repeat'(refine aA ?_ ?_)
  all_goals first|exact aX|rfl|(simp only[cz]<;>omega)
def K2:cP:=n5.T.told
def afs:Told 32 2 K2:=afr.run
def sA:FuncId→Nat→Option cP|32,11=>some K0|32,18=>some K2|_,_=>none
def aft:(cI Tryz.prog 32).length=3:=by kernel_rfl
def afu(spec:FuncId→Option ay.Spec):c6 (dh spec sA) bB:=by
 refine c6.of fun f=>?_;by_cases c:f=32
 ·subst c;refine .inr ⟨by kernel_rfl,fun i hi d a=>?_⟩;have hi:i<(cI Tryz.prog 32).length:=hi;rw[aft]at hi;have e:i=0∨i=1∨i=2:=by omega
  rcases e with rfl|rfl|rfl
  ·have b:(bY (bh Tryz.prog 32 0)).bind (sA 32)=none:=by kernel_rfl
   have a:(bY (bh Tryz.prog 32 0)).bind (sA 32)=some d:=a;rw[b]at a;cases a
  ·have b:(bY (bh Tryz.prog 32 1)).bind (sA 32)=some K0:=by kernel_rfl
   obtain rfl:=dV (b.symm.trans a);exact afl
  ·have b:(bY (bh Tryz.prog 32 2)).bind (sA 32)=some K2:=by kernel_rfl
   obtain rfl:=dV (b.symm.trans a);exact afs
 ·refine .inl fun r=>?_
  show sA f r=none;unfold sA;split
  ·exact absurd rfl c
  ·exact absurd rfl c
  ·rfl
end
section
open Go.ay
variable [aR][aG][bl]
variable{mem p lane:BitVec 32}
def AG(h:U 8)(a:Nat)(b:BitVec 32):U 8:=(((h.set (a+0) (b.setWidth 8)).set (a+1) ((b>>>8).setWidth 8)).set (a+2) ((b>>>16).setWidth 8)).set (a+3) ((b>>>24).setWidth 8)
def cB(h:U 8)(lane:BitVec 32):U 8:=AG (AG h 68 lane) 64 0#32
def cR(h:U 8):U 8:=AG h 64 1#32
def wm(h b:U 8)(lane:BitVec 32):U 8:=fZ b (cB h lane) 0 1024 1024 0 72
def sB(h b:U 8)(lane:BitVec 32):U 8:=fZ (wm h b lane) (cR (cB h lane)) 0 1024 1024 0 72
def sC(mem p lane:BitVec 32):BitVec 32:=lane*(mem/p)
def So(h b:U 8)(X:U 64)(M:Nat)(mem p lane:BitVec 32):tZ:=iter qZ ((128-(0:Int)).toNat) ⟨cB h lane,wm h b lane,X,M,mem,p,lane,sC mem p lane,0⟩
def C7(h b:U 8)(X:U 64)(M:Nat)(mem p lane:BitVec 32):wj:=iter q2 ((128-(0:Int)).toNat) ⟨cR (cB h lane),sB h b lane,(So h b X M mem p lane).X,M,mem,p,lane,sC mem p lane,0⟩
def afv(c:lane.toNat<p.toNat)(h2:2*p.toNat≤mem.toNat):(lane*(mem/p)).toNat=lane.toNat*(mem.toNat/p.toNat)∧lane.toNat*(mem.toNat/p.toNat)+mem.toNat/p.toNat≤mem.toNat∧2≤mem.toNat/p.toNat:=by
 have a:0<p.toNat:=by omega
 have b:2≤mem.toNat/p.toNat:=(Bs a).2 h2;have h3:p.toNat*(mem.toNat/p.toNat)≤mem.toNat:=Nat.mul_div_le ..;have h4:(lane.toNat+1)*(mem.toNat/p.toNat)≤p.toNat*(mem.toNat/p.toNat):=fP _ (by omega);rw[jL]at h4;have d:=mem.isLt;refine⟨?_,by omega,b⟩;rw[iE,rI];exact dO (by omega)
def afw(b:lane.toNat<p.toNat)(h2:2*p.toNat≤mem.toNat):(lane*(mem/p)+1#32).toNat<mem.toNat∧(lane*(mem/p)+0#32).toNat<mem.toNat:=by
 obtain⟨h3,h4,c⟩:=afv b h2;have d:=mem.isLt;constructor
 ·rw[eB,h3];have a:(1#32).toNat=1:=rfl;rw[a,dO (by omega)];omega
 ·rw[eB,h3];have a:(0#32).toNat=0:=rfl;rw[a,dO (by omega)];omega
def Sp:∀r (d:tZ),(iter qZ r d).X.n=d.X.n
 |0,d=>rfl|r+1,d=>by
  obtain⟨h,b,X,M,mem,p,lane,j,i⟩:=d;exact(Sp r (qZ ⟨h,b,X,M,mem,p,lane,j,i⟩)).trans rfl
def Sq:∀r (d:wj),(iter q2 r d).X.n=d.X.n
 |0,d=>rfl|r+1,d=>by
  obtain⟨h,b,X,M,mem,p,lane,j,i⟩:=d;exact(Sq r (q2 ⟨h,b,X,M,mem,p,lane,j,i⟩)).trans rfl
def afx(r q:Nat)(d:tZ)(g:tZ→wj)(b:∀a,(g a).X.n=a.X.n):(iter q2 r (g (iter qZ q d))).X.n=d.X.n:=by rw[Sq,b,Sp]
def Sr(h b:U 8)(X:U 64)(M:Nat)(mem p lane:BitVec 32):(C7 h b X M mem p lane).X.n=X.n:=
 afx (128-(0:Int)).toNat (128-(0:Int)).toNat ⟨cB h lane,wm h b lane,X,M,mem,p,lane,sC mem p lane,0⟩ (fun a=>⟨cR (cB h lane),sB h b lane,a.X,M,mem,p,lane,sC mem p lane,0⟩) (fun _=>rfl)
def afy(h:U 8)(lane:BitVec 32):(cR (cB h lane)).n=h.n:=by kernel_rfl
def Ss(h b:U 8)(lane:BitVec 32):(sB h b lane).n=b.n:=by kernel_rfl
structure wo where
 (h b:U 8)(X:U 64)(M:Nat)(mem p lane:BitVec 32)
def afz(d:wo):aJ×List ah:=
 match d with
 |⟨h,b,X,M,mem,p,lane⟩=>(⟨[.P 0,.num (.aF mem),.num (.aF p),.aa,.aa,.aa,.atom .cD,.P 1,.ref (.sm 2 (.s M) 128),.num (.aF lane),.aa,.aa,.aa],[]⟩,[⟨.aj h,.own⟩,⟨.aj b,.own⟩,⟨.bw X,.own⟩])
def mZ(d:wo):wo:=
 match d with
 |⟨h,b,X,M,mem,p,lane⟩=>⟨cR (cB h lane),sB h b lane,(C7 h b X M mem p lane).X,M,mem,p,lane+1#32⟩
def K3(a:aJ)(d:List ah):Option wo:=
 match a with
 |⟨[.ref (.ptr 0 (.c 0)),.num (.aF mem),.num (.aF p),.atom .aa,.atom .aa,.atom .aa,.atom .cD,.ref (.ptr 1 (.c 0)),.ref (.sm 2 (.s M) 128),.num (.aF lane),.atom .aa,.atom .aa,.atom .aa],[]⟩=>
  match d with
  |[⟨.aj h,.own⟩,⟨.aj b,.own⟩,⟨.bw X,.own⟩]=>some ⟨h,b,X,M,mem,p,lane⟩|_=>none
 |_=>none
def kl:eN wo where
 d0:=⟨0,0,0,0,0,0,0⟩
 read:=K3
 az:=afz
 next:=mZ
 rem:=fun⟨_,_,_,_,_,p,lane⟩=>p.toNat-lane.toNat
 aT:=fun⟨h,b,X,M,mem,p,lane⟩=>decide (lane.toNat≤p.toNat∧h.n=72∧b.n=1024∧X.n=M*128∧M=mem.toNat∧2*p.toNat≤mem.toNat)
 out:=.exit 0
def afA(h b:U 8)(X:U 64)(M:Nat)(mem p lane:BitVec 32):kl.cE ⟨h,b,X,M,mem,p,lane⟩ (b8 3) (kl.az (mZ ⟨h,b,X,M,mem,p,lane⟩)) (bZ n3 sA 32 0) [true] .normal [decide (((0:Int)≤0∧((0:Int)≤128∧(b.n=1024∧(X.n=(M*128)∧(((lane*(mem/p))+(1#32))).toNat<M))))),decide (((1:Nat)≤((((1024:Int)):Int).toNat-(((0:Int)):Int).toNat)∧(((((1024:Int)):Int).toNat-(((0:Int)):Int).toNat)≤(1024-(((0:Int)):Int).toNat)∧(((0+((((0:Int)):Int).toNat*1))+(1024-(((0:Int)):Int).toNat))≤b.n∧((1024-(((0:Int)):Int).toNat)≤1099511627776∧(((0+((((0:Int)):Int).toNat*1))+((((72:Int)):Int).toNat-(((0:Int)):Int).toNat))≤h.n∧((((72:Int)):Int).toNat-(((0:Int)):Int).toNat)≤1099511627776)))))),decide (72≤h.n),decide (1024≤b.n),decide (67<h.n),decide (66<h.n),decide (65<h.n),decide (64<h.n),decide (67<h.n),decide (72≤h.n),decide (((0:Int)≤0∧((0:Int)≤128∧(b.n=1024∧(X.n=(M*128)∧(((lane*(mem/p))+(0#32))).toNat<M))))),decide (((1:Nat)≤((((1024:Int)):Int).toNat-(((0:Int)):Int).toNat)∧(((((1024:Int)):Int).toNat-(((0:Int)):Int).toNat)≤(1024-(((0:Int)):Int).toNat)∧(((0+((((0:Int)):Int).toNat*1))+(1024-(((0:Int)):Int).toNat))≤b.n∧((1024-(((0:Int)):Int).toNat)≤1099511627776∧(((0+((((0:Int)):Int).toNat*1))+((((72:Int)):Int).toNat-(((0:Int)):Int).toNat))≤h.n∧((((72:Int)):Int).toNat-(((0:Int)):Int).toNat)≤1099511627776)))))),decide (72≤h.n),decide (1024≤b.n),decide (67<h.n),decide (66<h.n),decide (65<h.n),decide (64<h.n),decide (67<h.n),decide (72≤h.n),decide (71<h.n),decide (70<h.n),decide (69<h.n),decide (68<h.n),decide (71<h.n),decide (72≤h.n),(p !=(0#32)),(decide (lane.toNat<p.toNat)==true)]:=by show _=_;kernel_rfl
def afB(h b:U 8)(X:U 64)(M:Nat)(mem p lane:BitVec 32):kl.cE ⟨h,b,X,M,mem,p,lane⟩ none (kl.fin ⟨h,b,X,M,mem,p,lane⟩) (bZ n3 sA 32 0) [false] kl.out [(decide (lane.toNat<p.toNat)==false)]:=by show _=_;kernel_rfl
def afC:kl.Rd:=by
 intro a b d h;change K3 a b=some d at h;unfold K3 at h;repeat' split at h
 all_goals cases h
 rfl
def afD:dg Tryz.prog bB (an 32) (bS Tryz.prog 32) (bh Tryz.prog 32 0) (bZ n3 sA 32 0):=iz C6 (afu _) 32 0 Ak (by rw[show(cI Tryz.prog 32).length=3 by kernel_rfl];omega)
def afE:eF Tryz.prog bB (an 32) (bS Tryz.prog 32) (bh Tryz.prog 32 0) kl.T.told:=by
 refine kl.jT afD (by intro k e;have e:k∈([]:List ah):=e;cases e) (by intro h;cases h) afC ?_ ?_
 ·rintro⟨h,b,X,M,mem,p,lane⟩ f c a;have c:=bg c;have a:p.toNat-lane.toNat=f+1:=a;have g:kl.next ⟨h,b,X,M,mem,p,lane⟩=mZ ⟨h,b,X,M,mem,p,lane⟩:=rfl;rw[g];refine⟨⟨[true],(b8 3),_,afA h b X M mem p lane,?_⟩,?_,?_,(show(kl.az (mZ ⟨h,b,X,M,mem,p,lane⟩)).2.length=3 by kernel_rfl).trans (show(kl.az ⟨h,b,X,M,mem,p,lane⟩).2.length=3 by kernel_rfl).symm⟩
  ·have ⟨l,m⟩:=afw (mem:=mem) (p:=p) (lane:=lane) (by omega) (by omega);have i:p≠0#32:=fun d=>by rw[d]at a;simp at a
   repeat'(refine aA ?_ ?_)
   all_goals first|exact aX|rfl|(simp only[cz]<;>first|omega|exact i)
  ·have d:kl.aT (mZ ⟨h,b,X,M,mem,p,lane⟩)=decide ((lane+1#32:BitVec 32).toNat≤p.toNat∧(cR (cB h lane):U 8).n=72∧(sB h b lane:U 8).n=1024∧((C7 h b X M mem p lane).X:U 64).n=M*128∧M=mem.toNat∧2*p.toNat≤mem.toNat):=by kernel_rfl
   refine d.trans (bu ?_);have o:(cR (cB h lane)).n=h.n:=afy h lane;have q:(sB h b lane).n=b.n:=Ss h b lane;have r:=Sr h b X M mem p lane;have j:(lane+1#32).toNat=lane.toNat+1:=by rw[eB];simp;have:=p.isLt;omega
   omega
  ·have d:kl.rem (mZ ⟨h,b,X,M,mem,p,lane⟩)=(p.toNat-(lane+1#32:BitVec 32).toNat):=by kernel_rfl
   refine d.trans ?_;have j:(lane+1#32).toNat=lane.toNat+1:=by rw[eB];simp;have:=p.isLt;omega
   omega
 ·rintro⟨h,b,X,M,mem,p,lane⟩ c a;have c:=bg c;have a:p.toNat-lane.toNat=0:=a;refine⟨[false],none,_,afB h b X M mem p lane,?_⟩
  repeat'(refine aA ?_ ?_)
  all_goals first|exact aX|rfl|(simp only[cz]<;>omega)
def K4:cP:=kl.T.told
def afF:Told 32 0 K4:=afE.run
end
end Go.Proofs.YtcminalaicidiaaGreatDoor
namespace Go.ay
section
variable [aR][aG]
variable{G:Nat→Option (List af)}{β β':aE}{w w':World}{H fJ:List ah}
structure ye(β:aE)(H:List ah)(w:World)(β':aE)(fJ:List ah)(w':World):Prop where
 size:w.heap.size≤w'.heap.size
 kept:∀c,c<w.heap.size→¬Own β H c→bL c w w'
 own:∀c,c<w.heap.size→Own β' fJ c→Own β H c
def ye.of{β':aE}{fJ:List ah}{w':World}(h:bJ β H w β' fJ w'):ye β H w β' fJ w':=⟨h.size,h.kept,h.own⟩
def ye.less{β':aE}{fJ:List ah}{w':World}{a:aE}{b:List ah}(h:ye β H w β' fJ w')(k:∀c,Own a b c→Own β' fJ c):ye β H w a b w':=⟨h.size,h.kept,fun c d e=>h.own c d (k c e)⟩
def aM.swap{a:Nat}{d d':Data}{m:Mode}(l:aM G β H w)(n:H[a]? =some ⟨d,m⟩)(v:m.alive)(q:β a=none→d'.len=0)(x:∀f,β a=some f→hH β ⟨d,m⟩ f w→hH β ⟨d',m⟩ f w):
 aM G β (H.set a ⟨d',m⟩) w∧∀c,Own β (H.set a ⟨d',m⟩) c↔Own β H c:=by
 have r:a<H.length:=(dW.1 n).1;have o:∀(b:Nat) k,(H.set a ⟨d',m⟩)[b]? =some k→∃h,H[b]? =some h∧h.mode=k.mode:=by
  intro b k e;by_cases i:a=b
  ·subst i;rw[pL r]at e;injection e with e;subst e;exact⟨_,n,rfl⟩
  ·rw[mw i]at e;exact⟨k,e,rfl⟩
 refine⟨⟨fun b k e s=>?_,fun b t k y f z q e A j s g B=>?_,fun b f g=>by rw[lJ];exact l.fl b f g,l.dA,fun b k f e j g=>?_⟩,fun c=>⟨?_,?_⟩⟩
 ·by_cases i:a=b
  ·subst i;rw[pL r]at e;injection e with e;subst e;rcases l.blk a _ n v with⟨f,g,C⟩|⟨I,u⟩
   ·exact .inl ⟨f,g,x f g C⟩
   ·exact .inr ⟨q u,u⟩
  ·rw[mw i]at e;exact l.blk b k e s
 ·obtain⟨h,h1,h2⟩:=o b k e;obtain⟨D,E,F⟩:=o t y A;exact l.dL b t h D f z q h1 E (h2.trans j) (by unfold Mode.alive;rw[F];exact s) g B
 ·obtain⟨h,h1,h2⟩:=o b k e;exact l.apart b h f h1 (h2.trans j) g
 ·rintro⟨b,k,f,e,j,g,p⟩;obtain⟨h,h1,h2⟩:=o b k e;exact⟨b,h,f,h1,h2.trans j,g,p⟩
 ·rintro⟨b,k,f,e,j,g,p⟩;by_cases i:a=b
  ·subst i;rw[n]at e;injection e with e;subst e;exact⟨a,_,f,pL r,j,g,p⟩
  ·exact⟨b,k,f,by rw[mw i];exact e,j,g,p⟩
end
section
variable [aR][aG]
variable{P:Program}{G:Nat→Option (List af)}{an bE:Nat}
variable{f:FuncId}{C:eJ}{β:aE}{w:World}{call:gd}
def gl.step{n0 dB:Nat}{g β i:aE}{j l m:List ah}{n w w':World}(h:gl n0 g j n β l w)(k:gl dB β l w i m w')(d:n0≤dB):gl n0 g j n i m w' where
 le:=aE.le_trans h.le k.le
 len:=ga d k.len
 os:=k.os.trans h.os
 tape:=k.tape.trans h.tape
 output:=k.output.trans h.output
 size:=ga h.size k.size
 kept c a d:=(h.kept c a d).trans (k.kept c (dN a h.size) (fun e=>d (h.own c a e)))
 own c a e:=h.own c a (k.own c (dN a h.size) e)
 old b o:=(k.old b (dN o d)).trans (h.old b o)
def K5 [nF]{n0 dB:Nat}{h d:aE}{i j e:List ah}{k g:World}{l:Option (List Nat)}{p:aJ×List ah}{m:aJ}{n:Act}
 (r:gl n0 h i k β j w) (s:∀b t,h b=some t→b<n0) (E:n0≤dB) (u:dB≤e.length)
 (v:gr l p.1 m=some p.1) (x:lW dB [] l p.2 e=some p.2) (y:cK an bE d m n) (z:aM G d e g) (A:bJ β j w d e g):
 ∃a,cK an bE a p.1 n∧aM G a p.2 g∧gl n0 h i k a p.2 g∧(∀c,Own a p.2 c→Own d e c)∧(∀b,b<dB→a b=d b):=by
 obtain⟨a,B,o,F,q,D⟩:=xP (n0:=dB) (cH:=[]) (by simp) x u z;exact⟨a,xQ D v y,B,(r.trans A).wk s (fun b H=>o b (by omega)) (by omega) q,q,o⟩
def dg.step [nF]{c:Code}{f:aJ→ai→Option (dK×aJ×ai)}(g:dg P G an bE c f){n0 dB:Nat}{p:aJ×List ah}{j:aJ}{d:List ah}{o cs:List Bool}{q:Option (List Nat)}{k:dK}
 (r:eu dB q p (f j ⟨d,bQ,o,[]⟩)=some (k,p,cs)) (s:∀x∈cs,x=true) (t:n0≤dB) (aa:dB≤d.length)
 {h β:aE} {l:List ah} {m w:World} {a:Act} (u:∀b v,h b=some v→b<n0) (y:cK an bE β j a) (z:aM G β d w) (A:gl n0 h l m β d w) {Q:Exit→Act→World→Prop}
 (B:∀n w' e,cK an bE e p.1 n→aM G e p.2 w'→gl n0 h l m e p.2 w'→ye β d w e p.2 w'→(∀b,b<dB→e b=β b)→Q k.ex n w'):c.en P Q a w:=by
 obtain⟨ab,D,E,F,I,J⟩:=tN r;obtain⟨K,L⟩:=g _ _ _ _ _ E;refine L (fun x M=>s x (by rw[←J];exact M)) β a w y z _ fun N O ad R S i=>?_;have T:dB≤D.H.length:=by have:=K.len;simp only at *;omega
 obtain⟨U,V,W,X,Y,Z⟩:=K5 A u t T F I R S i;exact B N O U V W X ((ye.of i).less Y) (fun b g=>(Z b g).trans (i.old b (show b<d.length by omega)))
def sub:List Bool→Code→Code
 |[],c=>c|d::p,c=>
  match c with
  |.seq a b=>
   match d with
   |false=>sub p a|true=>sub p b
  |.block _ b=>sub p b|.loop b=>sub p b|_=>.skip
def C8:∀(p:List Bool) (c:Code),(∀(dyn:Nat→Bool) (n:Nat),codeOk P bE dyn n c=true→∃m,codeOk P bE dyn m (sub p c)=true)∧∀k,∀b∈cT k (sub p c),∃a,b∈cT a c
 |[],c=>⟨fun dyn n h=>⟨n,h⟩,fun k b h=>⟨k,h⟩⟩|j::p,c=>by
  have l:(∀(dyn:Nat→Bool) (n:Nat),codeOk P bE dyn n c=true→∃m,codeOk P bE dyn m (.skip:Code)=true)∧∀k,∀b∈cT k (.skip:Code),∃a,b∈cT a c:=
   ⟨fun _ _ _=>⟨1,rfl⟩,fun k b h=>by cases k<;>simp[cT]at h⟩
  cases c with
  |seq g o=>
   cases j with
   |false=>
    obtain⟨h1,h2⟩:=C8 p g;refine⟨fun dyn n h=>?_,fun k b d=>?_⟩
    ·cases n with
     |zero=>simp[codeOk]at h|succ n=>
      simp only[codeOk]at h;split at h
      ·rename_i q;exact h1 dyn n q
      ·cases h
    ·obtain⟨a,e⟩:=h2 k b d;exact⟨a+1,by simp[cT,e]⟩
   |true=>
    obtain⟨h1,h2⟩:=C8 p o;refine⟨fun dyn n h=>?_,fun k b d=>?_⟩
    ·cases n with
     |zero=>simp[codeOk]at h|succ n=>
      simp only[codeOk]at h;split at h
      ·exact h1 dyn n h
      ·cases h
    ·obtain⟨a,e⟩:=h2 k b d;exact⟨a+1,by simp[cT,e]⟩
  |block i g=>
   obtain⟨h1,h2⟩:=C8 p g;refine⟨fun dyn n h=>?_,fun k b d=>?_⟩
   ·cases n with|zero=>simp[codeOk]at h|succ n=>exact h1 dyn n (by simpa only[codeOk]using h)
   ·obtain⟨a,e⟩:=h2 k b d;exact⟨a+1,by simp[cT,e]⟩
  |loop g=>
   obtain⟨h1,h2⟩:=C8 p g;refine⟨fun dyn n h=>?_,fun k b d=>?_⟩
   ·cases n with|zero=>simp[codeOk]at h|succ n=>exact h1 dyn n (by simpa only[codeOk]using h)
   ·obtain⟨a,e⟩:=h2 k b d;exact⟨a+1,by simp[cT,e]⟩
  |_=>exact l
def afG [lV C](h:C.dA=G)(i:fV C.P G call)(j:oW C.P C.gx)(l:C.P.follows .mixedOrders=true)(n:c6 C G)(a:qQ C f=true)(d:Nat)(p:List Bool):
 dg C.P G (C.an f) (bS C.P f) (sub p (c8 C.P f)) (exec C d (sub p (c8 C.P f)) ⟨call,C.an f,C.eD f,C.dyn f,C.loop f⟩):=by
 unfold qQ at a;unfold bS c8;split at a
 ·cases a
 rename_i fn e;split at a
 ·cases a
 rename_i c g;split at a
 ·cases a
 simp only[e,g];obtain⟨h1,h2⟩:=C8 (P:=C.P) (bE:=fn.ntmps) p c;obtain⟨m,o⟩:=h1 _ _ a;exact FQ (C:=C) (G:=G) (bE:=fn.ntmps) h (E:=⟨call,C.an f,C.eD f,C.dyn f,C.loop f⟩) i j l d m _ o (fun k b q r s=>by
  obtain⟨t,u⟩:=h2 k b q;exact n f fn c e g t b u r s)
def afH [nF][lV C](e:C.dA=G)(g:fV C.P G call)(h:oW C.P C.gx)(j:C.P.follows .mixedOrders=true)(l:∀i,C.loop f i=none)(c:Nat)(p:List Bool){m:Nat}(n:codeOk C.P (bS C.P f) (C.dyn f) m (sub p (c8 C.P f))=true):
 dg C.P G (C.an f) (bS C.P f) (sub p (c8 C.P f)) (exec C c (sub p (c8 C.P f)) ⟨call,C.an f,C.eD f,C.dyn f,C.loop f⟩):=
 FQ (C:=C) (G:=G) (bE:=bS C.P f) e (E:=⟨call,C.an f,C.eD f,C.dyn f,C.loop f⟩) g h j c m _ n (fun k b q o a=>by
  cases d:bY b with
  |none=>rw[d]at a;cases a
  |some i=>
   rw[d,Option.bind_some]at a;have a:C.loop f i=some o:=a;rw[l i]at a;cases a)
def St(P:Program)(f:FuncId):Bool:=
 match P.funcs[f]? with
 |some fn=>
  match fn.body with
  |some _=> !(fn.name== "runtime.NumGoroutine")|none=>false
 |none=>false
def K6(P:Program)(f:FuncId):List ResultVar:=
 match P.funcs[f]? with
 |some fn=>fn.results.toList|none=>[]
def Su [lV C](B:C.dA=G)(D:aG.plain f)(b:St C.P f=true){args:List af}{us:List Value}(n:aK β args us)(v:args.length≤bS C.P f)
 {x:Ending→World→Prop}
 (h:∀a,cK (C.an f) (bS C.P f) β ⟨args++List.replicate (C.an f-args.length) .aa,[]⟩ a→(c8 C.P f).en C.P (fun k l w'=>k=.ret∧∃o p q vs g,xk C (C.an f) o p (K6 C.P f)=some (vs,q)∧q.ok∧cK (C.an f) (bS C.P f) g o l∧aM G g p.H w'∧
  ∀u,aC g (zA vs) u→x (.returned u) w') a w):
 (∃fn,C.P.funcs[f]? =some fn∧(fn.name== "runtime.NumGoroutine")=false∧fn.body.isSome=true)∧j6 C.P f ⟨us⟩ w x:=by
 unfold St at b;split at b
 case h_2=>cases b
 rename_i fn i;split at b
 case h_2=>cases b
 rename_i c r;have E:c8 C.P f=c:=by simp only[c8,i,r]
 have y:bS C.P f=fn.ntmps:=by simp only[bS,i]
 have F:K6 C.P f=fn.results.toList:=by simp only[K6,i]
 rw[y]at v;simp only[E,y,F]at h;refine⟨⟨fn,i,by simpa using b,by simp[r]⟩,Ow D i r ?_⟩;have T:us.length≤fn.ntmps:=by rw[←n.1];exact v
 refine B4 (h {tmps:=(⟨us⟩:Array Value)++Array.replicate (fn.ntmps-(⟨us⟩:Array Value).size) undef,defers:=[]} ⟨fun t=>?_,?_,rfl⟩) fun k l w' I=>?_
 ·simp only[aJ.get];cases U:Nat.blt t (C.an f)with
  |false=>exact .aa _|true=>
   simp only[cg];rcases cu t args.length with d|d
   ·have z:t<us.length:=by rw[←n.1];exact d
    rw[gV d,bX d];simp only;have k:((⟨us⟩:Array Value)++Array.replicate (fn.ntmps-(⟨us⟩:Array Value).size) undef).getD t undef=us[t]:=by
     simp[gX,N0,z]
    rw[k];exact n.2 t _ _ (bX d) (bX z)
   ·rw[gL d];split
    ·rename_i V e;rw[mz]at e;split at e
     ·injection e with e;subst e;exact .aa _
     ·cases e
    ·exact .aa _
 ·simp;omega
 ·obtain⟨rfl,o,p,q,vs,g,J,K,A,L,M⟩:=I;obtain⟨W,N⟩:=Qr (bE:=fn.ntmps) B _ _ _ _ J;obtain⟨s,O,Q⟩:=N K g l w' A L;have R:∀j,eK w' j→(results fn l.tmps).aI C.P j=.ok (if h:(⟨s⟩:Array Value).size=1 then(⟨s⟩:Array Value)[0]else .tuple ⟨s⟩) j:=by
   intro j S;rw[JE,N4 (m:=Sem)];simp[Q j S]
  exact⟨A.defers,_,R,M _ (Qs O)⟩
def bV.wq{D:Type}(c:bV D)(y:∀a h d,c.read a h=some d→a=c.args d∧h=c.heap d)
 (z:∀d,c.aT d=true→∀β w vs,aK β (c.args d) vs→aM G β (c.heap d) w→(∀b j,β b=some j→b<(c.heap d).length)→
  (∃fn,P.funcs[f]? =some fn∧(fn.name== "runtime.NumGoroutine")=false∧fn.body.isSome=true)∧
  j6 P f ⟨vs⟩ w fun n w'=>∃u l,n=.returned u∧aC l (c.val d) u∧aM G l (c.out d) w'∧gl (c.heap d).length β (c.heap d) w l (c.out d) w'):dF P G f c.spec:=by
 intro args A W r e;unfold bV.spec at e;split at e
 ·cases e
 rename_i a B;split at e
 ·cases e
 rename_i h o;split at e
 ·cases e
 rename_i d E;split at e
 ·cases e
 rename_i X q;injection e with e;subst e;obtain⟨rfl,rfl⟩:=y a h d E;refine⟨fun i k F s=>?_,fun H β w vs I t=>?_⟩
 ·rcases(Ag q).2.2.2 i k F with⟨_,h2,_⟩|⟨h1,_⟩
  ·exact absurd s h2
  ·exact⟨k,h1,s⟩
 ·obtain⟨m,J,Y⟩:=FV (cH:=[]) (by simp) t (by rw[uG];exact o);have K:aK β (c.args d) vs:=by
   refine QH (β:=β) (rs:=none) (fun p Z aa v g L=>?_) B I;unfold jz at g;split at g
   ·injection g with g;subst g;exact .aa _
   ·exact xO L g
  have M:(c.heap d).length=A.length:=(vH _ _ _ o).2;obtain⟨N,O⟩:=z d (H _ (ta.2 rfl)) β w vs K m (fun b j Q=>m.fl b j Q);refine⟨N,O.mono ?_⟩;rintro n w' ⟨u,R,rfl,S,T,x⟩;rw[M]at x;obtain⟨U,V⟩:=FU t m J T x q;exact⟨u,R,rfl,S,U,V⟩
end
end Go.ay
namespace Go.Proofs.YtcminalaicidiaaGreatDoor
section
open Go.ay Go.Conc
variable [aR][aG][bl]
variable{spec:FuncId→Option ay.Spec}{P:FuncId→Nat→Option cP}
def wu(spec:FuncId→Option ay.Spec)(P:FuncId→Nat→Option cP)(f:Nat)(p:List Bool)(a:aJ)(S:ai):Option (dK×aJ×ai):=exec (dh spec P) 100000 (sub p (c8 Tryz.prog f)) ⟨uV (dh spec P) 20 100000,an f,eD f,dyn f,P f⟩ a S
def K7(c:∀f a,spec f=some a→br f a)(b:c6 (dh spec P) bB)(f:Nat)(p:List Bool)(d:aY f):
 dg Tryz.prog bB (an f) (bS Tryz.prog f) (sub p (c8 Tryz.prog f)) (wu spec P f p):=
 afG (C:=dh spec P) rfl (FR (C:=dh spec P) rfl vI mixed (CW spec P) bl.plain b (fun f a h args S v e g=>CM (c f a h) args S v e g) 100000 20) vI mixed b ((JR spec P f).trans d) 100000 p
def hY(spec:FuncId→Option ay.Spec)(P:FuncId→Nat→Option cP)(f:Nat):List (List Bool)→aJ→ai→Option (dK×aJ×ai)
 |[],a,S=>some (.normal,a,S)|p::b,a,S=>
  match wu spec P f p a S with
  |some (c,a,S)=>
   match c with
   |.normal=>hY spec P f b a S|_=>none
  |none=>none
def n6(c:Code):List (List Bool)→Code→Code|[],t=>t|p::a,t=>.seq (sub p c) (n6 c a t)
def K8{spec:FuncId→Option ay.Spec}{P:FuncId→Nat→Option cP}(u:∀f v,spec f=some v→br f v)(x:c6 (dh spec P) bB)(f:Nat)(y:aY f)(t:Code):∀(g:List (List Bool)) j S n l c,hY spec P f g j S=some (n,l,c)→
 ay.Ext S c∧(c.ok→∀β a w,cK (an f) (bS Tryz.prog f) β j a→aM bB β S.H w→∀(b:Frame) (k:List Item) (cs:List Frame) (d:Goroutine→World→Prop),B3 b→
  (∀e w' i,cK (an f) (bS Tryz.prog f) i l e→aM bB i c.H w'→bJ β S.H w i c.H w'→de Tryz.prog d (G (b.at e (.code t::k)) cs) w')→
  de Tryz.prog d (G (b.at a (.code (n6 (c8 Tryz.prog f) g t)::k)) cs) w)
 |[],j,S,n,l,c,h=>by
  simp only[hY,aD,aO]at h;obtain⟨rfl,rfl,rfl⟩:=h;exact⟨ay.Ext.refl _,fun ok β a w o r b k cs d m s=>s a w β o r (bJ.refl ..)⟩
 |p::g,j,S,n,l,c,h=>by
  simp only[hY]at h;split at h
  case h_2=>cases h
  rename_i Q R T h1;split at h
  case h_2=>cases h
  obtain⟨B,C⟩:=K7 u x f p y _ _ _ _ _ h1;obtain⟨z,D⟩:=K8 u x f y t g _ _ _ _ _ h;refine⟨B.trans z,fun ok β a w o r b k cs d m s=>?_⟩;refine de.ctl rfl m.2 (fun U=>stepG_seq) ?_;refine C (z.ok ok) β a w o r (fun A e w'=>A=.normal∧de Tryz.prog d (G (b.at e (.code (n6 (c8 Tryz.prog f) g t)::k)) cs) w') (fun e w' i E F I=>⟨rfl,?_⟩) b (.code (n6 (c8 Tryz.prog f) g t)::k) cs d m (fun A e w' q=>?_)
  ·exact D ok i e w' E F b k cs d m fun J K L M N O=>s J K L M N (I.trans O)
  ·obtain⟨rfl,q⟩:=q;exact q
def Gl(s:∀f l,spec f=some l→br f l)(u:c6 (dh spec P) bB){f:Nat}(v:aY f)(t:Code){e:List (List Bool)}
 {p:aJ×List ah} {m:aJ} {H:List ah} {x cs:List Bool} {y:Option (List Nat)} {z:dK} (A:eu H.length y p (hY spec P f e m ⟨H,bQ,x,[]⟩)=some (z,p,cs)) (B:∀g∈cs,g=true)
 {β:aE} {w:World} {a:Act} (C:cK (an f) (bS Tryz.prog f) β m a) (n:aM bB β H w) (b:Frame) (k:List Item) (i:List Frame) (j:Goroutine→World→Prop) (c:B3 b)
 (D:∀o w' d,cK (an f) (bS Tryz.prog f) d p.1 o→aM bB d p.2 w'→gl H.length β H w d p.2 w'→(∀b,b<H.length→d b=β b)→de Tryz.prog j (G (b.at o (.code t::k)) i) w'):
 de Tryz.prog j (G (b.at a (.code (n6 (c8 Tryz.prog f) e t)::k)) i) w:=by
 obtain⟨aa,E,F,I,J,K⟩:=tN A;obtain⟨L,M⟩:=K8 s u f v t e _ _ _ _ _ F;refine M (fun g N=>B g (by rw[←K];exact N)) β a w C n b k i j c fun O Q ab R S r=>?_;have T:H.length≤E.H.length:=L.len;obtain⟨U,V,W,X,ad,Y⟩:=K5 (n0:=H.length) ((bJ.refl β H w).q (aV _)) (fun b Z h=>n.fl b Z h) (aV _) T I J R S r;exact D O Q U V W X (fun b c=>(Y b c).trans (r.old b c))
end
section
open Go.ay
variable [aR][aG][bl]
def q3:FuncId→Nat→Option cP|32,4=>some K4|_,_=>none
def Sv(spec:FuncId→Option ay.Spec):c6 (dh spec q3) bB:=by
 have e:(cI Tryz.prog 32).length=3:=by kernel_rfl
 refine c6.of fun f=>?_;by_cases c:f=32
 ·subst c;refine .inr ⟨by kernel_rfl,fun i hi d a=>?_⟩;have hi:i<(cI Tryz.prog 32).length:=hi;rw[e]at hi;have g:i=0∨i=1∨i=2:=by omega
  rcases g with rfl|rfl|rfl
  ·have b:(bY (bh Tryz.prog 32 0)).bind (q3 32)=some K4:=by kernel_rfl
   obtain rfl:=dV (b.symm.trans a);exact afF
  ·have b:(bY (bh Tryz.prog 32 1)).bind (q3 32)=none:=by kernel_rfl
   have a:(bY (bh Tryz.prog 32 1)).bind (q3 32)=some d:=a;rw[b]at a;cases a
  ·have b:(bY (bh Tryz.prog 32 2)).bind (q3 32)=none:=by kernel_rfl
   have a:(bY (bh Tryz.prog 32 2)).bind (q3 32)=some d:=a;rw[b]at a;cases a
 ·refine .inl fun r=>?_
  show q3 f r=none;unfold q3;split
  ·exact absurd rfl c
  ·rfl
def yf:U 8:=U.of (List.replicate 1024 0#8)
def yg:List af:=List.replicate 1024 (.int .u8 (.c 0))
def Sw(mem p:BitVec 32):aJ:=⟨[.ref (.ptr 0 (.c 0)),.num (.aF mem),.num (.aF p),.aa,.aa,.aa,.aa,.aa,.aa,.aa,.aa,.aa,.aa],[]⟩
def K9(mem p:BitVec 32):aJ:=⟨[.ref (.ptr 0 (.c 0)),.num (.aF mem),.num (.aF p),.aa,.aa,.aa,.cD,.ref (.ptr 1 (.c 0)),.aa,.aa,.aa,.aa,.aa],[]⟩
def Sx(M:Nat)(mem p:BitVec 32):aJ:=⟨[.ref (.ptr 0 (.c 0)),.num (.aF mem),.num (.aF p),.aa,.aa,.aa,.cD,.ref (.ptr 1 (.c 0)),.ref (.sm 2 (.s M) 128),.aa,.aa,.aa,.aa],[(14,.ref (.sm 2 (.s M) 128)),(13,.num (.aF mem))]⟩
def Sy(M:Nat):aJ:=⟨[.aa,.aa,.aa,.aa,.aa,.aa,.ref (.sm 1 (.s M) 128),.aa,.aa,.aa,.aa,.aa,.aa],[]⟩
def ua(h:U 8)(X:U 64)(M:Nat)(mem p:BitVec 32):wo:=iter mZ (p.toNat-(0#32).toNat) ⟨h,yf,X,M,mem,p,0#32⟩
def afI(h:U 8)(mem p:BitVec 32):kq 1 (b8 2) (K9 mem p,[⟨.aj h,.own⟩,⟨.gen yg,.own⟩]) (hY n3 q3 32 [[false],[true,false]] (Sw mem p) ⟨[⟨.aj h,.own⟩],bQ,[],[]⟩) .normal []:=by show _=_;kernel_rfl
def afJ(h:U 8)(X:U 64)(M:Nat)(mem p:BitVec 32):kq 1 (some [0,2]) (Sy (ua h X M mem p).M,[⟨.aj (ua h X M mem p).h,.own⟩,⟨.bw (ua h X M mem p).X,.own⟩]) (wu n3 q3 32 (bt 3 7) (Sx M mem p) ⟨[⟨.aj h,.own⟩,⟨.gen yg,.own⟩,⟨.bw X,.own⟩],bQ,[],[]⟩) .ret [decide (((0#32).toNat≤p.toNat∧(h.n=72∧((1024:Nat)=1024∧(X.n=(M*128)∧(M=mem.toNat∧(2*p.toNat)≤mem.toNat))))))]:=by show _=_;kernel_rfl
end
section
open Go Go.ay
noncomputable def yh:Array Oper:=match sub (bt 3 3) (c8 Tryz.prog 32)with|.region _ a _=>a|_=>#[]
def afK:c8 Tryz.prog 32=n6 (c8 Tryz.prog 32) [[false],[true,false]] (.seq (.region 2 yh false) (sub (bt 3 7) (c8 Tryz.prog 32))):=by kernel_rfl
def qb(i:Nat):Oper:=yh.getD i {dst:=none,op:=.move (.tmp 0),type:=0,pos:= "",after:=#[],guard:=none}
def Gm:List.range yh.size=[0,1,2]∧yh[0]? =some (qb 0)∧yh[1]? =some (qb 1)∧yh[2]? =some (qb 2):=⟨by kernel_rfl,by kernel_rfl,by kernel_rfl,by kernel_rfl⟩
def La:(qb 0).dst=some 13∧(qb 1).dst=some 14∧(qb 2).dst=some 8:=⟨by kernel_rfl,by kernel_rfl,by kernel_rfl⟩
def Lb(a:Nat→Option Bool):Region.wanted (qb 0) a=true∧Region.wanted (qb 1) a=true∧Region.wanted (qb 2) a=true:=⟨by kernel_rfl,by kernel_rfl,by kernel_rfl⟩
def Lc:(qb 0).op=.move (.tmp 1)∧(qb 1).op=.makeSlice 68 (.tmp 13) (.tmp 13)∧(qb 2).op=.assign (.tmp 14):=⟨by kernel_rfl,by kernel_rfl,by kernel_rfl⟩
variable [aR][aG][bl]
def o9(M:Nat):U 64:=U.of (List.replicate (M*128) 0#64)
def Ld(M:Nat):(o9 M).n=M*128:=ni
noncomputable def yj:TypeId:=match Tryz.prog.underlying 68 with|some (.slice a)=>a|_=>0
def Gn:(Tryz.prog.info? yj).isSome=true:=by kernel_rfl
def Sz:(((Tryz.prog.info? yj).get Gn).zero).isSome=true:=by kernel_rfl
def afL:∃a i z,Tryz.prog.underlying 68=some (.slice a)∧Tryz.prog.info? a=some i∧i.zero=some z∧i.size=128∧i.bytes=1024∧z.cells=⟨List.replicate 128 (.int .u64 0)⟩:=
 ⟨yj,(Tryz.prog.info? yj).get Gn,((Tryz.prog.info? yj).get Gn).zero.get Sz,by kernel_rfl,(Option.some_get Gn).symm,(Option.some_get Sz).symm,by kernel_rfl,by kernel_rfl,by kernel_rfl⟩
def Jh(q n:Nat)(a:0<q)(v:Value):madeCells (⟨List.replicate q v⟩:Array Value) n=⟨List.replicate n v⟩:=by
 apply Array.ext
 ·rw[size_madeCells];simp
 ·intro i h1 h2;have b:i%q<q:=qv _ a;simp[madeCells,getElem!_def,b]
def afM(n:Nat):madeCells (⟨List.replicate 128 (.int .u64 0)⟩:Array Value) n=⟨List.replicate n (.int .u64 0)⟩:=Jh 128 n (by decide) _
def afN(M:Nat)(d:M<4294967296):∃a,∀w:World,(Instr.makeSlice 68 (.int .u32 (M:Int)) (.int .u32 (M:Int))).aI Tryz.prog w=.ok (.slice (some (at' w.heap.size 0)) M M) (w.alloc (.cells ⟨List.replicate (M*128) (.int .u64 0)⟩ a)):=by
 obtain⟨a,i,z,h1,h2,h3,h4,b,c⟩:=afL;refine⟨a,fun w=>?_⟩;have:=Jg Tryz.prog w 68 a i z h1 h2 h3 .u32 .u32 (M:Int) (M:Int) (by omega) (rM _) (by rw[b];omega) (by omega);rw[h4,c,afM]at this;simpa[at']using this
def afO{β:aE}(M:Nat):aK β (ay.Data.bw (o9 M)).list (List.replicate (M*128) (.int .u64 0)):=by
 have c:(ay.Data.bw (o9 M)).list.length=M*128:=by rw[Data.jx];exact ni
 refine⟨by rw[c,ni],fun i d v e b=>?_⟩;have a:((List.replicate (M*128) 0#64).map af.av)[i]? =some d:=e;rw[anZ,mz]at a;rw[mz]at b;split at a
 ·rename_i hi;rw[ax hi]at b;injection a with a;injection b with b;subst a b;exact .num (.av 0#64)
 ·cases a
def afP{β:aE}{h:U 8}{mem p:BitVec 32}{a:Act}{w:World}(e:cK (an 32) (bS Tryz.prog 32) β (K9 mem p) a)(u:aM bB β [⟨.aj h,.own⟩,⟨.gen yg,.own⟩] w){Q:Exit→Act→World→Prop}
 (v:∀j w' f,cK (an 32) (bS Tryz.prog 32) f (Sx mem.toNat mem p) j→aM bB f [⟨.aj h,.own⟩,⟨.gen yg,.own⟩,⟨.bw (o9 mem.toNat),.own⟩] w'→bJ β [⟨.aj h,.own⟩,⟨.gen yg,.own⟩] w f [⟨.aj h,.own⟩,⟨.gen yg,.own⟩,⟨.bw (o9 mem.toNat),.own⟩] w'→Q .normal j w'):
 (Code.region 2 yh false).en Tryz.prog Q a w:=by
 obtain⟨k,x⟩:=afN mem.toNat mem.isLt;have y:bS Tryz.prog 32=82:=by kernel_rfl
 have l:a.tmps.size=82:=e.size.trans y;refine Ot ?_;rw[Gm.1];simp only[lP,Gm.2.1,Gm.2.2.1,Gm.2.2.2,(Lb _).1,(Lb _).2.1,(Lb _).2.2,g6];intro z m;have h1:a.eval (.tmp 1)=.int .u32 (mem.toNat:Int):=(e.val 1).num_inv;refine⟨.value (.int .u32 (mem.toNat:Int)),z,by simp[execOp,Lc.1,h1],fun _=>⟨ff.refl _,?_⟩⟩;rw[La.1];have A:=e.put (d:=some 13) (fun n b=>by injection b with b;omega) (aC.num (β:=β) (.aF mem));have B:=u.rely m;intro c o;have C:(a.put (some 13) (.int .u32 (mem.toNat:Int))).eval (.tmp 13)=.int .u32 (mem.toNat:Int):=by simp[Act.put,Act.eval,gX,l]
 refine⟨.value (.slice (some (at' c.heap.size 0)) mem.toNat mem.toNat),c.alloc (.cells ⟨List.replicate (mem.toNat*128) (.int .u64 0)⟩ k),?_,fun D=>⟨vo _ _,?_⟩⟩
 ·simp only[execOp,Lc.2.1,C];rw[Sem.tr,x];rfl
 rw[La.2.1];have E:=B.rely o;have g:(List.replicate (mem.toNat*128) (Value.int .u64 0)).length=mem.toNat*128:=ni;have q:(ay.Data.bw (o9 mem.toNat)).len=mem.toNat*128:=ni;obtain⟨dB,i⟩:=E.new (.bw (o9 mem.toNat)) (List.replicate (mem.toNat*128) (.int .u64 0)) k (by rw[q,g];exact aV _) (by rw[q,qy (by rw[g];exact aV _)];exact afO _) (xE D);have r:aC (β.put 2 ⟨c.heap.size,0,mem.toNat*128⟩) (.ref (.sm 2 (.s mem.toNat) 128)) (.slice (some (at' c.heap.size 0)) mem.toNat mem.toNat):=
  .sm 2 (.s mem.toNat) 128 _ mem.toNat (aV _) (.inr ⟨_,aE.gq ..,rfl,aV _⟩)
 rw[g]at dB i;have F:=(A.mono i.le).put (d:=some 14) (fun n b=>by injection b with b;omega) r;intro H t;have I:((a.put (some 13) (.int .u32 (mem.toNat:Int))).put (some 14) (.slice (some (at' c.heap.size 0)) mem.toNat mem.toNat)).eval (.tmp 14)=.slice (some (at' c.heap.size 0)) mem.toNat mem.toNat:=by simp[Act.put,Act.eval,gX,l]
 refine⟨.value (.slice (some (at' c.heap.size 0)) mem.toNat mem.toNat),H,by simp[execOp,Lc.2.2,I],fun _=>⟨ff.refl _,?_⟩⟩;rw[La.2.2];have J:=F.put (d:=some 8) (fun n b=>by injection b with b;omega) r;exact v _ _ _ J (dB.rely t) (((m.pX _ _).trans ((o.pX _ _).trans i)).trans (t.pX _ _))
end
section
open Go Go.ay
variable [aR][aG][bl]
def afQ{spec:FuncId→Option ay.Spec}{e:FuncId→Nat→Option cP}(n:∀f g,spec f=some g→br f g)(o:c6 (dh spec e) bB){f:Nat}(q:aY f)(t:Code){h:List (List Bool)}
 {p:aJ×List ah} {i:aJ} {H:List ah} {r cs:List Bool} {s:Option (List Nat)} {u:dK} (v:eu H.length s p (hY spec e f h i ⟨H,bQ,r,[]⟩)=some (u,p,cs)) (x:∀y∈cs,y=true)
 {β:aE} {w:World} {a:Act} (z:cK (an f) (bS Tryz.prog f) β i a) (A:aM bB β H w) {Q:Exit→Act→World→Prop}
 (B:∀d w' c,cK (an f) (bS Tryz.prog f) c p.1 d→aM bB c p.2 w'→gl H.length β H w c p.2 w'→(∀b,b<H.length→c b=β b)→t.en Tryz.prog Q d w'):(n6 (c8 Tryz.prog f) h t).en Tryz.prog Q a w:=
 fun b k j l m C=>Gl n o q t v x z A b k j l m fun d w' c D E F I=>B d w' c D E F I b k j l m C
def SA:∀a∈([]:List Bool),a=true:=fun a h=>by cases h
def afR(h:U 8)(X:U 64)(M:Nat)(mem p:BitVec 32):(ua h X M mem p).M=M:=by
 unfold ua;have a:∀r (d:wo),(iter mZ r d).M=d.M:=by
  intro r
  induction r with
  |zero=>exact fun d=>rfl|succ r c=>
   intro d;obtain⟨h,b,X,M,mem,p,e⟩:=d;exact(c (mZ ⟨h,b,X,M,mem,p,e⟩)).trans (by dsimp only[mZ])
 exact a _ _
def ji(h:U 8)(mem p:BitVec 32):U 64:=(ua h (o9 mem.toNat) mem.toNat mem p).X
def yl(h:U 8)(mem p:BitVec 32):U 8:=(ua h (o9 mem.toNat) mem.toNat mem p).h
structure Le where
 (h:U 8)(mem p:BitVec 32)
def Lf(a:List af)(b:List ah):Option Le:=
 match a with
 |[.ref (.ptr 0 (.c 0)),.num (.aF mem),.num (.aF p)]=>
  match b with
  |[⟨.aj h,.own⟩]=>some ⟨h,mem,p⟩|_=>none
 |_=>none
def xJ:bV Le where
 d0:=⟨0,0,0⟩
 read:=Lf
 args:=fun⟨_,mem,p⟩=>[.P 0,.num (.aF mem),.num (.aF p)]
 heap:=fun⟨h,_,_⟩=>[⟨.aj h,.own⟩]
 out:=fun⟨h,mem,p⟩=>[⟨.aj (yl h mem p),.own⟩,⟨.bw (ji h mem p),.own⟩]
 val:=fun⟨_,mem,_⟩=>(.sm 1 (.s mem.toNat) 128)
 aT:=fun⟨h,mem,p⟩=>decide (h.n=72∧2*p.toNat≤mem.toNat)
def afS:xJ.Rd:=by
 intro a b d h;change Lf a b=some d at h;unfold Lf at h;repeat' split at h
 all_goals cases h
 exact⟨rfl,rfl⟩
def afT:br 32 xJ.spec:=by
 refine xJ.wq afS fun d b β w vs k c l=>?_;obtain⟨h,mem,p⟩:=d;have b:=bg b;have m:bS Tryz.prog 32=82:=by kernel_rfl
 refine Su (C:=dh n3 q3) rfl (f:=32) (bl.plain 32 (by kernel_rfl)) (by kernel_rfl) k (by show 3≤bS Tryz.prog 32;rw[m];decide) fun a e=>?_
 show(c8 Tryz.prog 32).en _ _ _ _;rw[afK];have c:aM bB β [⟨.aj h,.own⟩] w:=c;have e:cK (an 32) (bS Tryz.prog 32) β (Sw mem p) a:=e;have i:=afJ h (o9 mem.toNat) mem.toNat mem p;rw[afR]at i;refine afQ (H:=[⟨.aj h,.own⟩]) (p:=(K9 mem p,[⟨.aj h,.own⟩,⟨.gen yg,.own⟩])) C6 (Sv _) Ak _ (afI h mem p) (fun n g=>by cases g) e c fun z w1 A o h1 q _=>EE (afP (h:=h) o h1 fun B D E r h2 t=>?_);refine(K7 C6 (Sv _) 32 (bt 3 7) Ak).step (n0:=1) i ?_ (aV _) (by show 1≤3;decide) l r h2 (q.trans t) fun F I j v h3 x _ _=>?_
 ·refine aA ?_ aX;exact bu ⟨j0 _,b.1,rfl,Ld _,rfl,b.2⟩
 ·exact⟨rfl,Sy mem.toNat,⟨[⟨.aj (yl h mem p),.own⟩,⟨.bw (ji h mem p),.own⟩],bQ,[],[]⟩,⟨[⟨.aj (yl h mem p),.own⟩,⟨.bw (ji h mem p),.own⟩],bQ,[],[]⟩,[.ref (.sm 1 (.s mem.toNat) 128)],j,by kernel_rfl,(fun n g=>by cases g),v,h3,fun u y=>⟨u,j,rfl,y,h3,x⟩⟩
end
section
open Go.ay
variable [aR][aG][bl]
def pick(a:U 64)(i:Int):BitVec 64:=((List.range 128).map fun j=>a.l.getD j 0#64).getD i.toNat 0#64
def ym(b:U 8)(i:Int)(a:BitVec 64):U 8:=((((((((b.set ((0+(i*8).toNat*1)+0) (a.setWidth 8)).set ((0+(i*8).toNat*1)+1) ((a>>>8).setWidth 8)).set ((0+(i*8).toNat*1)+2) ((a>>>16).setWidth 8)).set ((0+(i*8).toNat*1)+3) ((a>>>24).setWidth 8)).set ((0+(i*8).toNat*1)+4) ((a>>>32).setWidth 8)).set ((0+(i*8).toNat*1)+5) ((a>>>40).setWidth 8)).set ((0+(i*8).toNat*1)+6) ((a>>>48).setWidth 8)).set ((0+(i*8).toNat*1)+7) ((a>>>56).setWidth 8))
structure sD where
 (X:U 64)(b:U 8)(Y:U 64)(M:Nat)(mem p kl ln la:BitVec 32)(i:Int)
def afU(d:sD):aJ×List ah:=
 match d with
 |⟨X,b,a,M,mem,p,kl,c,e,i⟩=>(⟨[.ref (.sm 0 (.s M) 128),.num (.aF mem),.num (.aF p),.num (.aF kl),.aa,.aa,.aa,.aa,.atom .cD,.num (.aF c),.num (.aF e),.aa,.aa,.P 1,.aa,.aa,.aa],[⟨56,.au i⟩,⟨55,.agg (dU a 128)⟩]⟩,[⟨.bw X,.own⟩,⟨.aj b,.own⟩])
def n7(d:sD):sD:=
 match d with
 |⟨X,b,a,M,mem,p,kl,c,e,i⟩=>⟨X,ym b i (pick a i),a,M,mem,p,kl,c,e,i+1⟩
def Lg(a:aJ)(d:List ah):Option sD:=
 match a with
 |⟨[.ref (.sm 0 (.s M) 128),.num (.aF mem),.num (.aF p),.num (.aF kl),.atom .aa,.atom .aa,.atom .aa,.atom .aa,.atom .cD,.num (.aF e),.num (.aF f),.atom .aa,.atom .aa,.ref (.ptr 1 (.c 0)),.atom .aa,.atom .aa,.atom .aa],[⟨56,.num (.int .i64 (.s i))⟩,⟨55,.agg g⟩]⟩=>
  match d with
  |[⟨.bw X,.own⟩,⟨.aj b,.own⟩]=>
   (match jS 128 g with
   |some h=>some ⟨X,b,h,M,mem,p,kl,e,f,i⟩|none=>none)
  |_=>none
 |_=>none
def ke:eN sD where
 d0:=⟨0,0,0,0,0,0,0,0,0,0⟩
 read:=Lg
 az:=afU
 next:=n7
 rem:=fun⟨_,_,_,_,_,_,_,_,_,i⟩=>(128-i).toNat
 aT:=fun⟨_,b,_,_,_,_,_,_,_,i⟩=>decide (0≤i∧i≤128∧b.n=1024)
 out:=.exit 4
def afV(X:U 64)(b:U 8)(a:U 64)(M:Nat)(mem p kl c d:BitVec 32)(i:Int):ke.cE ⟨X,b,a,M,mem,p,kl,c,d,i⟩ (b8 2) (ke.az (n7 ⟨X,b,a,M,mem,p,kl,c,d,i⟩)) (bZ ck aU 34 2) [true] .normal [cQ (i+1),decide (((0+((((i*8)):Int).toNat*1))+7)<b.n),(true&&decide ((7:Int)<((((((1024:Int)):Int).toNat-(((i*8)):Int).toNat):Nat):Int))),decide (((0+((((i*8)):Int).toNat*1))+6)<b.n),(true&&decide ((6:Int)<((((((1024:Int)):Int).toNat-(((i*8)):Int).toNat):Nat):Int))),decide (((0+((((i*8)):Int).toNat*1))+5)<b.n),(true&&decide ((5:Int)<((((((1024:Int)):Int).toNat-(((i*8)):Int).toNat):Nat):Int))),decide (((0+((((i*8)):Int).toNat*1))+4)<b.n),(true&&decide ((4:Int)<((((((1024:Int)):Int).toNat-(((i*8)):Int).toNat):Nat):Int))),decide (((0+((((i*8)):Int).toNat*1))+3)<b.n),(true&&decide ((3:Int)<((((((1024:Int)):Int).toNat-(((i*8)):Int).toNat):Nat):Int))),decide (((0+((((i*8)):Int).toNat*1))+2)<b.n),(true&&decide ((2:Int)<((((((1024:Int)):Int).toNat-(((i*8)):Int).toNat):Nat):Int))),decide (((0+((((i*8)):Int).toNat*1))+1)<b.n),(true&&decide ((1:Int)<((((((1024:Int)):Int).toNat-(((i*8)):Int).toNat):Nat):Int))),decide (((0+((((i*8)):Int).toNat*1))+0)<b.n),(true&&decide ((0:Int)<((((((1024:Int)):Int).toNat-(((i*8)):Int).toNat):Nat):Int))),decide (((0+((((i*8)):Int).toNat*1))+7)<b.n),(true&&decide ((7:Int)<((((((1024:Int)):Int).toNat-(((i*8)):Int).toNat):Nat):Int))),((decide (0≤(i*8))&&decide ((i*8)≤(1024:Int)))&&true),decide (1024≤b.n),cQ (i*8),(decide (0≤i)&&decide (i<(128:Int))),(decide (i<128)==true)]:=by show _=_;kernel_rfl
def afW(X:U 64)(b:U 8)(a:U 64)(M:Nat)(mem p kl c d:BitVec 32)(i:Int):ke.cE ⟨X,b,a,M,mem,p,kl,c,d,i⟩ none (ke.fin ⟨X,b,a,M,mem,p,kl,c,d,i⟩) (bZ ck aU 34 2) [false] ke.out [(decide (i<128)==false)]:=by show _=_;kernel_rfl
def afX(a:aJ)(b:List ah)(d:sD)(h:ke.read a b=some d):(a,b)=ke.az d:=by
 replace h:Lg a b=some d:=h;unfold Lg at h;split at h
 case h_2=>cases h
 split at h
 case h_2=>cases h
 split at h
 case h_2=>cases h
 rename_i c;obtain⟨rfl,_⟩:=kU c;cases h;rfl
def afY:dg Tryz.prog bB (an 34) (bS Tryz.prog 34) (bh Tryz.prog 34 2) (bZ ck aU 34 2):=iz fK (cL _) 34 2 F0 (by rw[show(cI Tryz.prog 34).length=3 by kernel_rfl];omega)
def afZ:eF Tryz.prog bB (an 34) (bS Tryz.prog 34) (bh Tryz.prog 34 2) ke.T.told:=by
 refine ke.jT afY (by intro k g;have g:k∈([]:List ah):=g;cases g) (by intro h;cases h) afX ?_ ?_
 ·rintro⟨X,b,a,M,mem,p,kl,c,d,i⟩ l e f;have e:=bg e;have f:(128-i).toNat=l+1:=f;have m:ke.next ⟨X,b,a,M,mem,p,kl,c,d,i⟩=n7 ⟨X,b,a,M,mem,p,kl,c,d,i⟩:=rfl;rw[m];refine⟨⟨[true],(b8 2),_,afV X b a M mem p kl c d i,?_⟩,?_,?_,(show(ke.az (n7 ⟨X,b,a,M,mem,p,kl,c,d,i⟩)).2.length=2 by kernel_rfl).trans (show(ke.az ⟨X,b,a,M,mem,p,kl,c,d,i⟩).2.length=2 by kernel_rfl).symm⟩
  ·repeat'(refine aA ?_ ?_)
   all_goals first|exact aX|rfl|(simp only[cz]<;>omega)
  ·have j:ke.aT (n7 ⟨X,b,a,M,mem,p,kl,c,d,i⟩)=decide (0≤(i+1:Int)∧(i+1:Int)≤128∧(ym b i (pick a i):U 8).n=1024):=by kernel_rfl
   refine j.trans (bu ?_);have o:(ym b i (pick a i)).n=b.n:=rfl;omega
  ·have j:ke.rem (n7 ⟨X,b,a,M,mem,p,kl,c,d,i⟩)=((128-(i+1:Int)).toNat):=by kernel_rfl
   refine j.trans ?_;omega
 ·rintro⟨X,b,a,M,mem,p,kl,c,d,i⟩ e f;have e:=bg e;have f:(128-i).toNat=0:=f;refine⟨[false],none,_,afW X b a M mem p kl c d i,?_⟩
  repeat'(refine aA ?_ ?_)
  all_goals first|exact aX|rfl|(simp only[cz]<;>omega)
def Lh:cP:=ke.T.told
def af0:Told 34 2 Lh:=afZ.run
def C9(X b:U 64)(a:Nat)(i:Int):U 64:=X.set (a+i.toNat*1) (X.l.getD (a+i.toNat*1) 0#64^^^pick b i)
structure wv where
 (X Y:U 64)(M:Nat)(mem p kl ln la:BitVec 32)(i:Int)
def af1(d:wv):aJ×List ah:=
 match d with
 |⟨X,a,M,mem,p,kl,b,c,i⟩=>(⟨[.ref (.sm 0 (.s M) 128),.num (.aF mem),.num (.aF p),.num (.aF kl),.aa,.aa,.aa,.aa,.atom .cD,.num (.aF b),.num (.aF c),.aa,.aa,.aa,.aa,.aa,.aa],[⟨35,.au i⟩,⟨34,.agg (dU a 128)⟩]⟩,[⟨.bw X,.own⟩])
def sE(d:wv):wv:=
 match d with
 |⟨X,a,M,mem,p,kl,b,c,i⟩=>⟨C9 X a (aS (mem-1#32)) i,a,M,mem,p,kl,b,c,i+1⟩
def Li(a:aJ)(b:List ah):Option wv:=
 match a with
 |⟨[.ref (.sm 0 (.s M) 128),.num (.aF mem),.num (.aF p),.num (.aF kl),.atom .aa,.atom .aa,.atom .aa,.atom .aa,.atom .cD,.num (.aF c),.num (.aF d),.atom .aa,.atom .aa,.atom .aa,.atom .aa,.atom .aa,.atom .aa],[⟨35,.num (.int .i64 (.s i))⟩,⟨34,.agg e⟩]⟩=>
  match b with
  |[⟨.bw X,.own⟩]=>
   (match jS 128 e with
   |some f=>some ⟨X,f,M,mem,p,kl,c,d,i⟩|none=>none)
  |_=>none
 |_=>none
def kx:eN wv where
 d0:=⟨0,0,0,0,0,0,0,0,0⟩
 read:=Li
 az:=af1
 next:=sE
 rem:=fun⟨_,_,_,_,_,_,_,_,i⟩=>(128-i).toNat
 aT:=fun⟨X,_,M,mem,_,_,_,_,i⟩=>decide (0≤i∧i≤128∧X.n=M*128∧(mem-1#32).toNat<M)
 out:=.exit 2
def af2(X a:U 64)(M:Nat)(mem p kl b c:BitVec 32)(i:Int):kx.cE ⟨X,a,M,mem,p,kl,b,c,i⟩ (some [0]) (kx.az (sE ⟨X,a,M,mem,p,kl,b,c,i⟩)) (bZ ck aU 34 1) [true] .normal [cQ (i+1),decide (((0+((((((mem-(1#32)).toNat:Nat):Int)):Int).toNat*128))+(i.toNat*1))<X.n),(decide (0≤i)&&decide (i<(128:Int))),(decide ((0:Int)≤(((mem-(1#32)).toNat:Nat):Int))&&decide ((((mem-(1#32)).toNat:Nat):Int)<(M:Int))),decide (((0+((((((mem-(1#32)).toNat:Nat):Int)):Int).toNat*128))+(i.toNat*1))<X.n),(decide (0≤i)&&decide (i<(128:Int))),(decide ((0:Int)≤(((mem-(1#32)).toNat:Nat):Int))&&decide ((((mem-(1#32)).toNat:Nat):Int)<(M:Int))),(decide (0≤i)&&decide (i<(128:Int))),(decide (i<128)==true)]:=by show _=_;kernel_rfl
def af3(X a:U 64)(M:Nat)(mem p kl b c:BitVec 32)(i:Int):kx.cE ⟨X,a,M,mem,p,kl,b,c,i⟩ none (kx.fin ⟨X,a,M,mem,p,kl,b,c,i⟩) (bZ ck aU 34 1) [false] kx.out [(decide (i<128)==false)]:=by show _=_;kernel_rfl
def af4(a:aJ)(b:List ah)(d:wv)(h:kx.read a b=some d):(a,b)=kx.az d:=by
 replace h:Li a b=some d:=h;unfold Li at h;split at h
 case h_2=>cases h
 split at h
 case h_2=>cases h
 split at h
 case h_2=>cases h
 rename_i c;obtain⟨rfl,_⟩:=kU c;cases h;rfl
def af5:dg Tryz.prog bB (an 34) (bS Tryz.prog 34) (bh Tryz.prog 34 1) (bZ ck aU 34 1):=iz fK (cL _) 34 1 F0 (by rw[show(cI Tryz.prog 34).length=3 by kernel_rfl];omega)
def af6:eF Tryz.prog bB (an 34) (bS Tryz.prog 34) (bh Tryz.prog 34 1) kx.T.told:=by
 refine kx.jT af5 (by intro k f;have f:k∈([]:List ah):=f;cases f) (by intro h;cases h) af4 ?_ ?_
 ·rintro⟨X,a,M,mem,p,kl,b,c,i⟩ j d e;have d:=bg d;have e:(128-i).toNat=j+1:=e;have l:kx.next ⟨X,a,M,mem,p,kl,b,c,i⟩=sE ⟨X,a,M,mem,p,kl,b,c,i⟩:=rfl;rw[l];refine⟨⟨[true],(some [0]),_,af2 X a M mem p kl b c i,?_⟩,?_,?_,(show(kx.az (sE ⟨X,a,M,mem,p,kl,b,c,i⟩)).2.length=1 by kernel_rfl).trans (show(kx.az ⟨X,a,M,mem,p,kl,b,c,i⟩).2.length=1 by kernel_rfl).symm⟩
  ·repeat'(refine aA ?_ ?_)
   all_goals first|exact aX|rfl|(simp only[cz]<;>omega)
  ·have g:kx.aT (sE ⟨X,a,M,mem,p,kl,b,c,i⟩)=decide (0≤(i+1:Int)∧(i+1:Int)≤128∧(C9 X a (aS (mem-1#32)) i:U 64).n=M*128∧(mem-1#32).toNat<M):=by kernel_rfl
   refine g.trans (bu ?_);have m:(C9 X a (aS (mem-1#32)) i).n=X.n:=rfl;omega
  ·have g:kx.rem (sE ⟨X,a,M,mem,p,kl,b,c,i⟩)=((128-(i+1:Int)).toNat):=by kernel_rfl
   refine g.trans ?_;omega
 ·rintro⟨X,a,M,mem,p,kl,b,c,i⟩ d e;have d:=bg d;have e:(128-i).toNat=0:=e;refine⟨[false],none,_,af3 X a M mem p kl b c i,?_⟩
  repeat'(refine aA ?_ ?_)
  all_goals first|exact aX|rfl|(simp only[cz]<;>omega)
def Lj:cP:=kx.T.told
def af7:Told 34 1 Lj:=af6.run
def q4:FuncId→Nat→Option cP|34,6=>some Lj|_,_=>none
def af8:(cI Tryz.prog 34).length=3:=by kernel_rfl
def af9(spec:FuncId→Option ay.Spec):c6 (dh spec q4) bB:=by
 refine c6.of fun f=>?_;by_cases c:f=34
 ·subst c;refine .inr ⟨by kernel_rfl,fun i hi d a=>?_⟩;have hi:i<(cI Tryz.prog 34).length:=hi;rw[af8]at hi;have e:i=0∨i=1∨i=2:=by omega
  rcases e with rfl|rfl|rfl
  ·have b:(bY (bh Tryz.prog 34 0)).bind (q4 34)=none:=by kernel_rfl
   have a:(bY (bh Tryz.prog 34 0)).bind (q4 34)=some d:=a;rw[b]at a;cases a
  ·have b:(bY (bh Tryz.prog 34 1)).bind (q4 34)=some Lj:=by kernel_rfl
   obtain rfl:=dV (b.symm.trans a);exact af7
  ·have b:(bY (bh Tryz.prog 34 2)).bind (q4 34)=none:=by kernel_rfl
   have a:(bY (bh Tryz.prog 34 2)).bind (q4 34)=some d:=a;rw[b]at a;cases a
 ·refine .inl fun r=>?_
  show q4 f r=none;unfold q4;split
  ·exact absurd rfl c
  ·rfl
def rowAt(X:U 64)(a:Nat):U 64:=U.of ((List.range 128).map fun j=>X.l.getD (a+j) 0#64)
def Da(a b:BitVec 32):BitVec 32:=b*a+a-1#32
def Db(X:U 64)(M:Nat)(mem p kl a b:BitVec 32):wv:=iter sE ((128-(0:Int)).toNat) ⟨X,rowAt X (aS (Da a b)),M,mem,p,kl,a,b,0⟩
def SB:∀r (d:wv),(iter sE r d).X.n=d.X.n
 |0,d=>rfl|r+1,d=>by
  obtain⟨X,a,M,mem,p,kl,b,c,i⟩:=d;exact(SB r (sE ⟨X,a,M,mem,p,kl,b,c,i⟩)).trans rfl
def SC(X:U 64)(M:Nat)(mem p kl a b:BitVec 32):(Db X M mem p kl a b).X.n=X.n:=SB _ _
def Ll{mem p ln la:BitVec 32}(b:ln.toNat=mem.toNat/p.toNat)(h2:2*p.toNat≤mem.toNat)(c:1≤p.toNat)(f:la.toNat<(p-1#32).toNat):(la*ln+ln-1#32).toNat<mem.toNat∧(mem-1#32).toNat<mem.toNat∧(la+1#32).toNat=la.toNat+1:=by
 have g:=mem.isLt;have h:=p.isLt;have i:(p-1#32).toNat=p.toNat-1:=by
  rw[kG];have a:(1#32).toNat=1:=rfl;rw[a];omega
 have j:(mem-1#32).toNat=mem.toNat-1:=by
  rw[kG];have a:(1#32).toNat=1:=rfl;rw[a];omega
 have k:2≤mem.toNat/p.toNat:=(Bs c).2 h2;have h3:p.toNat*(mem.toNat/p.toNat)≤mem.toNat:=Nat.mul_div_le ..;have h4:(la.toNat+1)*(mem.toNat/p.toNat)≤p.toNat*(mem.toNat/p.toNat):=fP _ (by omega);rw[jL]at h4;have d:(la*ln).toNat=la.toNat*(mem.toNat/p.toNat):=by
  rw[iE,b];exact dO (by omega)
 have e:(la*ln+ln).toNat=la.toNat*(mem.toNat/p.toNat)+mem.toNat/p.toNat:=by
  rw[eB,d,b];exact dO (by omega)
 refine⟨?_,by omega,?_⟩
 ·rw[kG,e];have a:(1#32).toNat=1:=rfl;rw[a];omega
 ·rw[eB];have a:(1#32).toNat=1:=rfl;rw[a];omega
structure q5 where
 (X:U 64)(M:Nat)(mem p kl ln la:BitVec 32)
def aga(d:q5):aJ×List ah:=
 match d with
 |⟨X,M,mem,p,kl,a,b⟩=>(⟨[.ref (.sm 0 (.s M) 128),.num (.aF mem),.num (.aF p),.num (.aF kl),.aa,.aa,.aa,.aa,.atom .cD,.num (.aF a),.num (.aF b),.aa,.aa,.aa,.aa,.aa,.aa],[]⟩,[⟨.bw X,.own⟩])
def kX(d:q5):q5:=
 match d with
 |⟨X,M,mem,p,kl,a,b⟩=>⟨(Db X M mem p kl a b).X,M,mem,p,kl,a,b+1#32⟩
def Lm(a:aJ)(b:List ah):Option q5:=
 match a with
 |⟨[.ref (.sm 0 (.s M) 128),.num (.aF mem),.num (.aF p),.num (.aF kl),.atom .aa,.atom .aa,.atom .aa,.atom .aa,.atom .cD,.num (.aF c),.num (.aF d),.atom .aa,.atom .aa,.atom .aa,.atom .aa,.atom .aa,.atom .aa],[]⟩=>
  match b with
  |[⟨.bw X,.own⟩]=>some ⟨X,M,mem,p,kl,c,d⟩|_=>none
 |_=>none
def n8:eN q5 where
 d0:=⟨0,0,0,0,0,0,0⟩
 read:=Lm
 az:=aga
 next:=kX
 rem:=fun⟨_,_,_,p,_,_,a⟩=>(p-1#32).toNat-a.toNat
 aT:=fun⟨X,M,mem,p,_,b,a⟩=>decide (a.toNat≤(p-1#32).toNat∧X.n=M*128∧M=mem.toNat∧b.toNat=mem.toNat/p.toNat∧2*p.toNat≤mem.toNat∧1≤p.toNat)
 out:=.exit 0
def agb(X:U 64)(M:Nat)(mem p kl a b:BitVec 32):n8.cE ⟨X,M,mem,p,kl,a,b⟩ (some [0]) (n8.az (kX ⟨X,M,mem,p,kl,a,b⟩)) (bZ ck q4 34 0) [true] .normal [decide (((0:Int)≤0∧((0:Int)≤128∧(X.n=(M*128)∧(mem-(1#32)).toNat<M)))),decide (((0+(((((((((b*a)+a)-(1#32))).toNat:Nat):Int)):Int).toNat*128))+128)≤X.n),(decide ((0:Int)≤((((((b*a)+a)-(1#32))).toNat:Nat):Int))&&decide (((((((b*a)+a)-(1#32))).toNat:Nat):Int)<(M:Int))),(decide (b.toNat<(p-(1#32)).toNat)==true)]:=by show _=_;kernel_rfl
def agc(X:U 64)(M:Nat)(mem p kl b a:BitVec 32):n8.cE ⟨X,M,mem,p,kl,b,a⟩ none (n8.fin ⟨X,M,mem,p,kl,b,a⟩) (bZ ck q4 34 0) [false] n8.out [(decide (a.toNat<(p-(1#32)).toNat)==false)]:=by show _=_;kernel_rfl
def agd:n8.Rd:=by
 intro a b d h;change Lm a b=some d at h;unfold Lm at h;repeat' split at h
 all_goals cases h
 rfl
def age:dg Tryz.prog bB (an 34) (bS Tryz.prog 34) (bh Tryz.prog 34 0) (bZ ck q4 34 0):=iz fK (af9 _) 34 0 F0 (by rw[show(cI Tryz.prog 34).length=3 by kernel_rfl];omega)
def agf:eF Tryz.prog bB (an 34) (bS Tryz.prog 34) (bh Tryz.prog 34 0) n8.T.told:=by
 refine n8.jT age (by intro k e;have e:k∈([]:List ah):=e;cases e) (by intro h;cases h) agd ?_ ?_
 ·rintro⟨X,M,mem,p,kl,ln,la⟩ o a d;have a:=bg a;have d:(p-1#32).toNat-la.toNat=o+1:=d;have q:n8.next ⟨X,M,mem,p,kl,ln,la⟩=kX ⟨X,M,mem,p,kl,ln,la⟩:=rfl;rw[q];refine⟨⟨[true],(some [0]),_,agb X M mem p kl ln la,?_⟩,?_,?_,(show(n8.az (kX ⟨X,M,mem,p,kl,ln,la⟩)).2.length=1 by kernel_rfl).trans (show(n8.az ⟨X,M,mem,p,kl,ln,la⟩).2.length=1 by kernel_rfl).symm⟩
  ·obtain⟨_,f,g,bf,b,c⟩:=a;obtain⟨j,l,m⟩:=Ll (mem:=mem) (p:=p) (ln:=ln) (la:=la) bf b c (by omega)
   repeat'(refine aA ?_ ?_)
   all_goals first|exact aX|rfl|(simp only[cz]<;>omega)
  ·have i:n8.aT (kX ⟨X,M,mem,p,kl,ln,la⟩)=decide ((la+1#32:BitVec 32).toNat≤(p-1#32).toNat∧((Db X M mem p kl ln la).X:U 64).n=M*128∧M=mem.toNat∧ln.toNat=mem.toNat/p.toNat∧2*p.toNat≤mem.toNat∧1≤p.toNat):=by kernel_rfl
   refine i.trans (bu ?_);obtain⟨_,f,g,bf,b,c⟩:=a;obtain⟨j,l,m⟩:=Ll (mem:=mem) (p:=p) (ln:=ln) (la:=la) bf b c (by omega);have r:=SC X M mem p kl ln la;exact⟨by omega,r.trans f,g,bf,b,c⟩
  ·have i:n8.rem (kX ⟨X,M,mem,p,kl,ln,la⟩)=((p-1#32).toNat-(la+1#32:BitVec 32).toNat):=by kernel_rfl
   refine i.trans ?_;obtain⟨_,f,g,bf,b,c⟩:=a;obtain⟨j,l,m⟩:=Ll (mem:=mem) (p:=p) (ln:=ln) (la:=la) bf b c (by omega);omega
 ·rintro⟨X,M,mem,p,kl,ln,la⟩ a d;have a:=bg a;have d:(p-1#32).toNat-la.toNat=0:=d;refine⟨[false],none,_,agc X M mem p kl ln la,?_⟩
  repeat'(refine aA ?_ ?_)
  all_goals first|exact aX|rfl|(simp only[cz]<;>omega)
def Ln:cP:=n8.T.told
def agh:Told 34 0 Ln:=agf.run
def q6(X:U 64)(a:Nat){j:Nat}(h:j<128):aL (rowAt X a) j=aL X (a+j):=C2 _ h
def ww(X:U 64)(a:Nat):(rowAt X a).n=128:=by
 show((List.range 128).map _).length=128;rw[mA,Bp]
def SD(f:cx)(X T:U 64)(e a b:Nat)(g:T.n=128):∀k,k≤128→∃d,iter tP k ⟨f,X,T,e,a,b,0⟩=⟨f,X,d,e,a,b,(k:Int)⟩∧d.n=128∧∀n,n<k→aL d n=aL X (a+n)^^^aL X (b+n)
 |0,_=>⟨T,rfl,g,fun n h=>absurd h (by omega)⟩|k+1,m=>by
  obtain⟨d,i,h,j⟩:=SD f X T e a b g k (by omega);refine⟨Am X d a b k,by rw[gG,i];rfl,h,fun n o=>?_⟩;have l:aL (Am X d a b k) n=if n=0+k*1 then aL X (a+k*1)^^^aL X (b+k*1)else aL d n:=nU _ n (by show 0+k*1<_;omega)
  rw[l];by_cases c:n=k
  ·subst c;rw[ax (by omega),y4]
  ·rw[ak (by omega),j n (by omega)]
def SE(f:cx)(X T:U 64)(a d e:Nat)(l:a+128≤X.n)(Au:a%128=0)(bt:d%128=0)(m:e%128=0):∀k,k≤128→∃b,iter p7 k ⟨f,X,T,a,d,e,0⟩=⟨f,b,T,a,d,e,(k:Int)⟩∧b.n=X.n∧
 ∀g,aL b g=if a≤g∧g<a+k then aL X g^^^((aL X (d+(g-a))^^^aL X (e+(g-a)))^^^aL T (g-a))else aL X g
 |0,_=>⟨X,rfl,rfl,fun g=>by rw[ak (by omega)]⟩|k+1,q=>by
  obtain⟨b,o,h,i⟩:=SE f X T a d e l Au bt m k (by omega);refine⟨vP b T a d e k,by rw[gG,o];rfl,h,fun n=>?_⟩;have p:aL (vP b T a d e k) n=if n=a+k*1 then aL b (a+k*1)^^^((aL b (d+k*1)^^^aL b (e+k*1))^^^aL T (0+k*1))else aL b n:=nU _ n (by show a+k*1<_;omega)
  rw[p];by_cases c:n=a+k*1
  ·rw[ax c,ax (by omega),i (a+k*1),i (d+k*1),i (e+k*1),ak (by omega),ak (by omega),ak (by omega),c,uF,cM]
  ·rw[ak c,i n];by_cases j:a≤n∧n<a+k
   ·rw[ax j,ax (by omega)]
   ·rw[ak j,ak (by omega)]
def SF(f:cx)(X:U 64)(a b d:Nat)(l:a+128≤X.n)(Au:a%128=0)(bt:b%128=0)(m:d%128=0):(fo f X a b d).n=X.n∧
 ∀e,aL (fo f X a b d) e=if a≤e∧e<a+128 then aL X e^^^aL (bz (rowAt X b) (rowAt X d)) (e-a)else aL X e:=by
 have g:(U.of (List.replicate 128 0#64)).n=128:=by
  show(List.replicate 128 0#64).length=128;rw[ni]
 obtain⟨i,o,h,p⟩:=SD f X (U.of (List.replicate 128 0#64)) a b d g 128 (aV _);have q:jQ f X a b d=⟨f,X,i,a,b,d,((128:Nat):Int)⟩:=o;have yj:i=kW (rowAt X b) (rowAt X d):=vU (h.trans (Av _ _).symm) fun n g=>by
  have g:n<128:=by omega
  rw[p n g,Gc _ _ g,q6 _ _ g,q6 _ _ g]
 obtain⟨k,r,s,t⟩:=SE f X (fX hU i) a b d l Au bt m 128 (aV _);have u:F3 f X a b d=iter p7 128 ⟨f,X,fX hU i,a,b,d,0⟩:=by
  show iter p7 ((128-(0:Int)).toNat) ⟨f,(jQ f X a b d).X,fX hU (jQ f X a b d).T,a,b,d,0⟩=_;rw[q];rfl
 have ex:fo f X a b d=k:=by
  show(F3 f X a b d).X=k;rw[u,r]
 rw[ex];refine⟨s,fun e=>?_⟩;rw[t e];by_cases c:a≤e∧e<a+128
 ·have j:e-a<128:=by omega
  rw[ax c,ax c,Gd _ _ j,q6 _ _ j,q6 _ _ j,yj]
 ·rw[ak c,ak c]
def SG(b c:U 64):bz b c=bz c b:=by
 have d:kW b c=kW c b:=vU rfl fun n a=>by
  have a:n<128:=by rw[Av]at a;exact a
  rw[Gc _ _ a,Gc _ _ a,H8]
 refine vU ((yb _ _).trans (yb _ _).symm) fun n a=>?_;have a:n<128:=by rw[yb]at a;exact a
 rw[Gd _ _ a,Gd _ _ a,d,H8 (aL b n)]
def pe(a:BitVec 64)(b:Int):Nat:=((BitVec.ofInt 64 b*((a*a)>>>32))>>>32:BitVec 64).toNat
def q7(b:BitVec 64)(co c a:Int):Int:=(c+a-1-(pe b a:Int)).tmod co
def pg(a:BitVec 64)(b c d sl:Int):Int:=if c=0∧sl=0 then d else((a%BitVec.ofInt 64 b:BitVec 64).toNat:Int)
def q8(co a sl:Int):Int:=if a=0 then 0 else(sl+1).tmod 4*co.tdiv 4
def n9(co a sl:Int):Int:=if a=0 then sl*co.tdiv 4 else co-co.tdiv 4
def mb(c:BitVec 64)(d co a b sl pl:Int):Int:=if pg c d a b sl=b then n9 co a sl+(pl-1)else if pl=0 then n9 co a sl-1 else n9 co a sl
def Gp(b c:BitVec 64)(d co a e sl pl:Int):Int:=q7 b co (q8 co a sl) (mb c d co a e sl pl)
def gv(z:Int):Bool:=decide ((-9223372036854775808:Int)≤z∧z≤9223372036854775807)
def agi(c:BitVec 64)(co b a:Int):List Bool:=[decide (co≠0),gv (b+a-1-(pe c a:Int)),gv (b+a-1),gv (b+a),decide ((pe c a:Int)≤9223372036854775807)]
def agj(co c b of a pl:Int):Nat→List Bool|0=>[gv (b+(pl-1)),gv (pl-1),(of==a)==true]|1=>[gv (b-1),(pl==0)==true,(of==a)==false]|_=>[(pl==0)==false,(of==a)==false]
def agk(co a sl:Int):Bool→List Bool|true=>[decide ((0:Int)<a)==false,gv (sl*co.tdiv 4)]|false=>[gv ((sl+1).tmod 4*co.tdiv 4),decide ((4:Int)≠0),gv (sl+1),gv (co-co.tdiv 4),decide ((0:Int)<a)==true,gv (sl*co.tdiv 4)]
def uc(d e:BitVec 64)(b co a f sl pl of g h c:Int)(k:Nat)(p z:Bool):List Bool:=
 agi d co g c++(agj co c h of f pl k++(agk co a sl p++((if p then [(sl==0)==z]else [])++[(a==0)==p,(a==0)==p,(a==0)==p,decide (((e%BitVec.ofInt 64 b:BitVec 64).toNat:Int)≤9223372036854775807),BitVec.ofInt 64 b !=0#64,decide ((0:Int)≤co∧(0:Int)<4∧co≤9223372036854775807)])))
structure SH where
 (kd ps la co:Int)(x y:BitVec 64)(pa ln sl pl:Int)
def Lo(a:List af)(b:List ah):Option SH:=
 match a with
 |[.ref (.ptr 0 (.c 0)),.num (.av d),.num (.av e),.num (.int .i64 (.s f)),.num (.int .i64 (.s g)),.num (.int .i64 (.s sl)),.num (.int .i64 (.s pl))]=>
  match b with
  |[⟨.gen [.num (.int .i64 (.s h)),.num (.int .i64 (.s i)),.num (.int .i64 (.s j)),.num (.int .i64 (.s co)),.atom .aa,.atom .aa],.ro⟩]=>some ⟨h,i,j,co,d,e,f,g,sl,pl⟩|_=>none
 |_=>none
def kA:bV SH where
 d0:=⟨0,0,0,0,0,0,0,0,0,0⟩
 read:=Lo
 args:=fun⟨_,_,_,_,e,d,a,c,sl,pl⟩=>[.P 0,.num (.av e),.num (.av d),.au a,.au c,.au sl,.au pl]
 heap:=fun⟨f,g,b,co,_,_,_,_,_,_⟩=>[⟨.gen [.au f,.au g,.au b,.au co,.aa,.aa],.ro⟩]
 val:=fun⟨_,_,b,co,e,d,a,c,sl,pl⟩=>(.obj .bA [.au (pg d b a c sl),.au (Gp e d b co a c sl pl)])
 aT:=fun⟨_,_,b,co,_,_,a,c,sl,pl⟩=>decide (1≤b∧b≤8∧8≤co∧co≤256∧co.tdiv 4*4=co∧0≤a∧a≤3∧0≤sl∧sl≤3∧0≤c∧c<b∧0≤pl∧pl<co.tdiv 4∧(a=0→sl=0→2≤pl))
def agl:kA.Rd:=by
 intro a b d h;change Lo a b=some d at h;unfold Lo at h;repeat' split at h
 all_goals cases h
 exact⟨rfl,rfl⟩
def agm(f g c co:Int)(b d:BitVec 64)(e a sl pl:Int):kA.cE ⟨f,g,c,co,b,d,e,a,sl,pl⟩ (some [0]) (b9 ck aU 38) (bt 6 47) (kA.out ⟨f,g,c,co,b,d,e,a,sl,pl⟩) (.obj .bA [.au a,.au (q7 b co 0 (sl*co.tdiv 4+(pl-1)))]) (uc b d c co e a sl pl a 0 (sl*co.tdiv 4) (sl*co.tdiv 4+(pl-1)) 0 true true):=by show _=_;kernel_rfl
def agn(f g a co:Int)(c b:BitVec 64)(d e sl pl:Int):kA.cE ⟨f,g,a,co,c,b,d,e,sl,pl⟩ (some [0]) (b9 ck aU 38) (bt 6 39) (kA.out ⟨f,g,a,co,c,b,d,e,sl,pl⟩) (.obj .bA [.au ((b%BitVec.ofInt 64 a:BitVec 64).toNat:Int),.au (q7 c co 0 (sl*co.tdiv 4+(pl-1)))]) (uc c b a co d e sl pl ((b%BitVec.ofInt 64 a:BitVec 64).toNat:Int) 0 (sl*co.tdiv 4) (sl*co.tdiv 4+(pl-1)) 0 true false):=by show _=_;kernel_rfl
def ago(f g a co:Int)(c b:BitVec 64)(d e sl pl:Int):kA.cE ⟨f,g,a,co,c,b,d,e,sl,pl⟩ (some [0]) (b9 ck aU 38) (bt 7 71) (kA.out ⟨f,g,a,co,c,b,d,e,sl,pl⟩) (.obj .bA [.au ((b%BitVec.ofInt 64 a:BitVec 64).toNat:Int),.au (q7 c co 0 (sl*co.tdiv 4-1))]) (uc c b a co d e sl pl ((b%BitVec.ofInt 64 a:BitVec 64).toNat:Int) 0 (sl*co.tdiv 4) (sl*co.tdiv 4-1) 1 true false):=by show _=_;kernel_rfl
def agp(f g a co:Int)(c b:BitVec 64)(d e sl pl:Int):kA.cE ⟨f,g,a,co,c,b,d,e,sl,pl⟩ (some [0]) (b9 ck aU 38) (bt 7 7) (kA.out ⟨f,g,a,co,c,b,d,e,sl,pl⟩) (.obj .bA [.au ((b%BitVec.ofInt 64 a:BitVec 64).toNat:Int),.au (q7 c co 0 (sl*co.tdiv 4))]) (uc c b a co d e sl pl ((b%BitVec.ofInt 64 a:BitVec 64).toNat:Int) 0 (sl*co.tdiv 4) (sl*co.tdiv 4) 2 true false):=by show _=_;kernel_rfl
def agq(f g a co:Int)(c b:BitVec 64)(d e sl pl:Int):kA.cE ⟨f,g,a,co,c,b,d,e,sl,pl⟩ (some [0]) (b9 ck aU 38) (bt 5 24) (kA.out ⟨f,g,a,co,c,b,d,e,sl,pl⟩) (.obj .bA [.au ((b%BitVec.ofInt 64 a:BitVec 64).toNat:Int),.au (q7 c co ((sl+1).tmod 4*co.tdiv 4) (co-co.tdiv 4+(pl-1)))]) (uc c b a co d e sl pl ((b%BitVec.ofInt 64 a:BitVec 64).toNat:Int) ((sl+1).tmod 4*co.tdiv 4) (co-co.tdiv 4) (co-co.tdiv 4+(pl-1)) 0 false false):=by show _=_;kernel_rfl
def agr(f g a co:Int)(c b:BitVec 64)(d e sl pl:Int):kA.cE ⟨f,g,a,co,c,b,d,e,sl,pl⟩ (some [0]) (b9 ck aU 38) (bt 6 40) (kA.out ⟨f,g,a,co,c,b,d,e,sl,pl⟩) (.obj .bA [.au ((b%BitVec.ofInt 64 a:BitVec 64).toNat:Int),.au (q7 c co ((sl+1).tmod 4*co.tdiv 4) (co-co.tdiv 4-1))]) (uc c b a co d e sl pl ((b%BitVec.ofInt 64 a:BitVec 64).toNat:Int) ((sl+1).tmod 4*co.tdiv 4) (co-co.tdiv 4) (co-co.tdiv 4-1) 1 false false):=by show _=_;kernel_rfl
def ags(f g a co:Int)(c b:BitVec 64)(d e sl pl:Int):kA.cE ⟨f,g,a,co,c,b,d,e,sl,pl⟩ (some [0]) (b9 ck aU 38) (bt 6 8) (kA.out ⟨f,g,a,co,c,b,d,e,sl,pl⟩) (.obj .bA [.au ((b%BitVec.ofInt 64 a:BitVec 64).toNat:Int),.au (q7 c co ((sl+1).tmod 4*co.tdiv 4) (co-co.tdiv 4))]) (uc c b a co d e sl pl ((b%BitVec.ofInt 64 a:BitVec 64).toNat:Int) ((sl+1).tmod 4*co.tdiv 4) (co-co.tdiv 4) (co-co.tdiv 4) 2 false false):=by show _=_;kernel_rfl
def agt(a:BitVec 64)(b:Int):pe a b<4294967296:=by
 unfold pe;rw[yY,wU];have:=(BitVec.ofInt 64 b*((a*a)>>>32):BitVec 64).isLt;omega
def ia{z:Int}(h: -9000000000≤z∧z≤9000000000):gv z=true:=bu (by omega)
def Lp{a:Int}(h:1≤a∧a≤8):(BitVec.ofInt 64 a).toNat=a.toNat:=by
 rw[qw];omega
def agu{x y:BitVec 64}{la co pa ln sl pl of sF b0 mn:Int}{k:Nat}{p z:Bool}(h1:1≤la∧la≤8)(h2:8≤co∧co≤256∧co.tdiv 4*4=co)(h3:0≤pa∧pa≤3)(h4:0≤sl∧sl≤3)(m:0≤pl∧pl<co.tdiv 4)(n:0≤sF∧sF≤256)(o:0≤b0∧b0≤256)(q: -1≤mn∧mn≤512)
 (c:match k with|0=>of=ln|1=>pl=0∧of≠ln|_=>pl≠0∧of≠ln) (d:if p=true then pa=0 else pa≠0) (f:p=true→(if z=true then sl=0 else sl≠0)):∀b∈uc x y la co pa ln sl pl of sF b0 mn k p z,b=true:=by
 have r:=agt x mn;have h:0≤sl*co.tdiv 4∧sl*co.tdiv 4≤256∧0≤(sl+1).tmod 4*co.tdiv 4∧(sl+1).tmod 4*co.tdiv 4≤256:=by
  have i:sl=0∨sl=1∨sl=2∨sl=3:=by omega
  rcases i with rfl|rfl|rfl|rfl<;>simp only[Int.reduceAdd,Int.reduceTMod]<;>omega
 obtain⟨s,t,u,v⟩:=h;intro b e;unfold uc at e;rcases fQ.1 e with a|e
 ·exact aA (bu (by omega)) (aA (ia (by omega)) (aA (ia (by omega)) (aA (ia (by omega)) (aA (bu (by omega)) aX)))) b a
 rcases fQ.1 e with a|e
 ·match k,c,a with
  |0,c,a=>
   have c:of=ln:=c;exact aA (ia (by omega)) (aA (ia (by omega)) (aA (by simp[c]) aX)) b a
  |1,c,a=>
   have c:pl=0∧of≠ln:=c;exact aA (ia (by omega)) (aA (by simp[c.1]) (aA (by simp[c.2]) aX)) b a
  |k+2,c,a=>
   have c:pl≠0∧of≠ln:=c;exact aA (by simp[c.1]) (aA (by simp[c.2]) aX) b a
 rcases fQ.1 e with a|e
 ·cases p with
  |true=>
   have d:pa=0:=d;exact aA (by simp[d]) (aA (ia (by omega)) aX) b a
  |false=>
   have d:pa≠0:=d;have j:0<pa:=by omega
   exact aA (ia (by omega)) (aA rfl (aA (ia (by omega)) (aA (ia (by omega)) (aA (by simp[j]) (aA (ia (by omega)) aX))))) b a
 have g:((pa==0)==p)=true:=by
  cases p with
  |true=>have d:pa=0:=d;simp[d]
  |false=>have d:pa≠0:=d;simp[d]
 rcases fQ.1 e with a|e
 ·cases p with
  |true=>
   have f:=f rfl;rw[ax rfl]at a;cases z with
   |true=>have f:sl=0:=f;exact aA (by simp[f]) aX b a
   |false=>have f:sl≠0:=f;exact aA (by simp[f]) aX b a
  |false=>cases a
 ·refine aA g (aA g (aA g (aA (bu ?_) (aA ?_ (aA (bu (by omega)) aX))))) b e
  ·have:(y%BitVec.ofInt 64 la).toNat<la.toNat:=by rw[oy,Lp h1];exact qv _ (by omega)
   omega
  ·rw[bne_iff_ne];intro l;have:=iX BitVec.toNat l;rw[Lp h1]at this;simp at this;omega
def agv:br 38 kA.spec:=by
 refine kA.ok (dn fK (cL _)) agl ?_;rintro⟨l,m,la,co,x,y,pa,ln,sl,pl⟩ j;have j:=bg j;obtain⟨n,o,q,bf,r,t,u,cF,v,H,I,w,A,B⟩:=j;have C:0≤sl*co.tdiv 4∧sl*co.tdiv 4≤192∧0≤(sl+1).tmod 4*co.tdiv 4∧(sl+1).tmod 4*co.tdiv 4≤192∧(sl≠0→2≤sl*co.tdiv 4):=by
  have D:sl=0∨sl=1∨sl=2∨sl=3:=by omega
  rcases D with rfl|rfl|rfl|rfl<;>simp only[Int.reduceAdd,Int.reduceTMod]<;>omega
 obtain⟨J,K,L,M,E⟩:=C;have f:=fun of sF b0 mn k p z=>agu (x:=x) (y:=y) (la:=la) (co:=co) (pa:=pa) (ln:=ln) (sl:=sl) (pl:=pl) (of:=of) (sF:=sF) (b0:=b0) (mn:=mn) (k:=k) (p:=p) (z:=z) ⟨n,o⟩ ⟨q,bf,r⟩ ⟨t,u⟩ ⟨cF,v⟩ ⟨w,A⟩;have ev:∀of sF mn,pg y la pa ln sl=of→q8 co pa sl=sF→mb y la co pa ln sl pl=mn→kA.val ⟨l,m,la,co,x,y,pa,ln,sl,pl⟩=.obj .bA [.num (.int .i64 (.s of)),.num (.int .i64 (.s (q7 x co sF mn)))]:=by
  intro of sF mn b g F;subst b g F;rfl
 by_cases a:pa=0
 ·by_cases e:sl=0
  ·have b:pg y la pa ln sl=ln:=ax ⟨a,e⟩;rw[ev ln 0 (sl*co.tdiv 4+(pl-1)) b (ax a) (by unfold mb n9;rw[ax b,ax a])];exact⟨_,_,_,agm ..,f _ _ _ _ _ _ _ (by omega) (by omega) (by have:=B a e;omega) rfl a fun _=>e⟩
  ·have b:pg y la pa ln sl=((y%BitVec.ofInt 64 la:BitVec 64).toNat:Int):=ak fun h=>e h.2;by_cases c:((y%BitVec.ofInt 64 la:BitVec 64).toNat:Int)=ln
   ·rw[ev _ 0 (sl*co.tdiv 4+(pl-1)) b (ax a) (by unfold mb n9;rw[ax (b.trans c),ax a])];exact⟨_,_,_,agn ..,f _ _ _ _ _ _ _ (by omega) (by omega) (by omega) c a fun _=>e⟩
   ·have i:¬pg y la pa ln sl=ln:=fun h=>c (b.symm.trans h);by_cases d:pl=0
    ·rw[ev _ 0 (sl*co.tdiv 4-1) b (ax a) (by unfold mb n9;rw[ak i,ax d,ax a])];exact⟨_,_,_,ago ..,f _ _ _ _ _ _ _ (by omega) (by omega) (by have:=E e;omega) ⟨d,c⟩ a fun _=>e⟩
    ·rw[ev _ 0 (sl*co.tdiv 4) b (ax a) (by unfold mb n9;rw[ak i,ak d,ax a])];exact⟨_,_,_,agp ..,f _ _ _ _ _ _ _ (by omega) (by omega) (by omega) ⟨d,c⟩ a fun _=>e⟩
 ·have b:pg y la pa ln sl=((y%BitVec.ofInt 64 la:BitVec 64).toNat:Int):=ak fun h=>a h.1;have g:q8 co pa sl=(sl+1).tmod 4*co.tdiv 4:=ak a;by_cases c:((y%BitVec.ofInt 64 la:BitVec 64).toNat:Int)=ln
  ·rw[ev _ _ (co-co.tdiv 4+(pl-1)) b g (by unfold mb n9;rw[ax (b.trans c),ak a])];exact⟨_,_,_,agq ..,f _ _ _ _ _ _ _ (by omega) (by omega) (by omega) c a fun h=>by cases h⟩
  ·have i:¬pg y la pa ln sl=ln:=fun h=>c (b.symm.trans h);by_cases d:pl=0
   ·rw[ev _ _ (co-co.tdiv 4-1) b g (by unfold mb n9;rw[ak i,ax d,ak a])];exact⟨_,_,_,agr ..,f _ _ _ _ _ _ _ (by omega) (by omega) (by omega) ⟨d,c⟩ a fun h=>by cases h⟩
   ·rw[ev _ _ (co-co.tdiv 4) b g (by unfold mb n9;rw[ak i,ak d,ak a])];exact⟨_,_,_,ags ..,f _ _ _ _ _ _ _ (by omega) (by omega) (by omega) ⟨d,c⟩ a fun h=>by cases h⟩
def Gq(a:U 64→U 64→U 64):bV F6:={tS with val:=fun⟨b,c⟩=>.agg (dU (a b c) 128)}
def SI:Gq bz=tS:=by
 have h:Gq (tR gP)=tS:=rfl;rw[←h,show tR gP=bz from funext fun a=>funext fun b=>ad7 a b]
def Lq(a:U 64→U 64→U 64):FuncId→Option ay.Spec|29=>some (Gq a).spec|_=>none
def agw:∀f a,Lq bz f=some a→br f a:=by
 intro f a h;unfold Lq at h;split at h
 ·cases h;rw[SI];exact RZ
 ·cases h
def Dc(a b c co d e sl pl:Int):U 64:=U.of ([BitVec.ofInt 64 d,BitVec.ofInt 64 e,BitVec.ofInt 64 sl,BitVec.ofInt 64 (c*co),BitVec.ofInt 64 b,BitVec.ofInt 64 a,BitVec.ofInt 64 (pl.tdiv 128+1)]++List.replicate 121 0#64)
def q9(a:U 64→U 64→U 64)(b c d co e f sl pl:Int):U 64:=a je (di (a je (Dc b c d co e f sl pl)))
structure Lr where
 (kd ps la co pa ln sl pl:Int)
def Ls(a:List af)(b:List ah):Option Lr:=
 match a with
 |[.ref (.ptr 0 (.c 0)),.num (.int .i64 (.s d)),.num (.int .i64 (.s e)),.num (.int .i64 (.s sl)),.num (.int .i64 (.s pl))]=>
  match b with
  |[⟨.gen [.num (.int .i64 (.s f)),.num (.int .i64 (.s g)),.num (.int .i64 (.s h)),.num (.int .i64 (.s co)),.atom .aa,.atom .aa],.ro⟩]=>some ⟨f,g,h,co,d,e,sl,pl⟩|_=>none
 |_=>none
def yo:bV Lr where
 d0:=⟨0,0,0,0,0,0,0,0⟩
 read:=Ls
 args:=fun⟨_,_,_,_,b,c,sl,pl⟩=>[.P 0,.au b,.au c,.au sl,.au pl]
 heap:=fun⟨d,e,a,co,_,_,_,_⟩=>[⟨.gen [.au d,.au e,.au a,.au co,.aa,.aa],.ro⟩]
 val:=fun⟨d,e,a,co,b,c,sl,pl⟩=>(.agg (dU (q9 bz d e a co b c sl pl) 128))
 aT:=fun⟨_,_,a,co,_,_,_,pl⟩=>decide (0≤a∧a≤8∧0≤co∧co≤256∧0≤pl∧pl≤256)
def agx:yo.Rd:=by
 intro a b d h;change Ls a b=some d at h;unfold Ls at h;repeat' split at h
 all_goals cases h
 exact⟨rfl,rfl⟩
def agy(f:U 64→U 64→U 64)(b c a co d e sl pl:Int):yo.cE ⟨b,c,a,co,d,e,sl,pl⟩ (some [0]) (b9 (Lq f) aU 53) [] (yo.out ⟨b,c,a,co,d,e,sl,pl⟩) (.agg (dU (q9 f b c a co d e sl pl) 128)) [true,true,gv ((Int.tdiv pl 128)+1),decide ((0≤pl∧((0:Int)<128∧pl≤9223372036854775807))),gv (a*co)]:=by show _=_;kernel_rfl
def agz:br 53 yo.spec:=by
 refine yo.ok (dn agw (cL _)) agx ?_;rintro⟨g,h,b,co,i,j,sl,pl⟩ a;have a:=bg a;obtain⟨d,e,c,bf,f,k⟩:=a;have h1:0≤b*co:=Int.mul_nonneg d c;have h3:pl.tdiv 128=pl/128:=pK f;have h2:b*co≤8*256:=Int.mul_le_mul e bf c (by omega);exact⟨_,_,_,agy ..,aA rfl (aA rfl (aA (ia (by omega)) (aA (bu (by omega)) (aA (ia (by omega)) aX))))⟩
abbrev ud:=Int→Int→Int→Int→Int→Int→Int→Int→U 64
def SJ(ad:ud):bV Lr:={yo with val:=fun⟨a,ps,la,co,pa,ln,sl,pl⟩=>.agg (dU (ad a ps la co pa ln sl pl) 128)}
def agA:SJ (q9 bz)=yo:=rfl
def yp(ad:ud):FuncId→Option ay.Spec|53=>some (SJ ad).spec|_=>none
def agB:∀f a,yp (q9 bz) f=some a→br f a:=by
 intro f a h;unfold yp at h;split at h
 ·cases h;rw[agA];exact agz
 ·cases h
def Gr(a b sl:Int):Prop:=a=1∨(a=2∧b=0∧sl<2)
instance(a b sl:Int):Decidable (Gr a b sl):=inferInstanceAs (Decidable (_∨_))
def AH(ad:ud)(a b c co d e sl pl:Int):BitVec 64:=(di (ad a b c co d e sl pl)).l.getD (pl.tmod 128).toNat 0#64
def Dd(ad:ud)(a d e co c f sl pl:Int)(b:U 64):BitVec 64:=if Gr a c sl then AH ad a d e co c f sl pl else b.l.getD 0 0#64
structure Gs where
 (kd ps la co pa ln sl pl:Int)(b:U 64)
def Lt(a:List af)(d:List ah):Option Gs:=
 match a with
 |[.ref (.ptr 0 (.c 0)),.num (.int .i64 (.s e)),.num (.int .i64 (.s f)),.num (.int .i64 (.s sl)),.num (.int .i64 (.s pl)),.agg g]=>
  match d with
  |[⟨.gen [.num (.int .i64 (.s h)),.num (.int .i64 (.s i)),.num (.int .i64 (.s j)),.num (.int .i64 (.s co)),.atom .aa,.atom .aa],.ro⟩]=>
   (match jS 128 g with
   |some b=>some ⟨h,i,j,co,e,f,sl,pl,b⟩|none=>none)
  |_=>none
 |_=>none
def kY:bV Gs where
 d0:=⟨0,0,0,0,0,0,0,0,0⟩
 read:=Lt
 args:=fun⟨_,_,_,_,c,d,sl,pl,b⟩=>[.P 0,.au c,.au d,.au sl,.au pl,.agg (dU b 128)]
 heap:=fun⟨e,f,a,co,_,_,_,_,_⟩=>[⟨.gen [.au e,.au f,.au a,.au co,.aa,.aa],.ro⟩]
 val:=fun⟨e,f,a,co,c,d,sl,pl,b⟩=>(.obj .bA [.num (.av (Dd (q9 bz) e f a co c d sl pl b&&&4294967295#64)),.num (.av (Dd (q9 bz) e f a co c d sl pl b>>>32))])
 aT:=fun⟨_,_,a,co,_,_,_,pl,_⟩=>decide (0≤a∧a≤8∧0≤co∧co≤256∧0≤pl∧pl≤256)
def agC(a:List af)(b:List ah)(d:Gs)(h:kY.read a b=some d):a=kY.args d∧b=kY.heap d:=by
 replace h:Lt a b=some d:=h;unfold Lt at h;split at h
 case h_2=>cases h
 split at h
 case h_2=>cases h
 split at h
 case h_2=>cases h
 rename_i c;obtain⟨rfl,_⟩:=kU c;cases h;exact⟨rfl,rfl⟩
def agD(ad:ud)(a d c co e f sl pl:Int)(b:U 64):kY.cE ⟨a,d,c,co,e,f,sl,pl,b⟩ (some [0]) (b9 (yp ad) aU 37) (bt 10 1023) (kY.out ⟨a,d,c,co,e,f,sl,pl,b⟩) (.obj .bA [.num (.av (AH ad a d c co e f sl pl&&&4294967295#64)),.num (.av ((AH ad a d c co e f sl pl)>>>32))]) [(decide (0≤(Int.tmod pl 128))&&decide ((Int.tmod pl 128)<(128:Int))),decide ((128:Int)≠0),decide ((0≤c∧(c≤8∧(0≤co∧(co≤256∧(0≤pl∧pl≤256)))))),((a==1)==true),((a==1)==true),((a==1)==true),((a==1)==true),((a==1)==true),((a==1)==true),((a==1)==true),((a==1)==true),((a==1)==true),((a==1)==true)]:=by show _=_;kernel_rfl
def agE(ad:ud)(a e d co c f sl pl:Int)(b:U 64):kY.cE ⟨a,e,d,co,c,f,sl,pl,b⟩ (some [0]) (b9 (yp ad) aU 37) (bt 17 88768) (kY.out ⟨a,e,d,co,c,f,sl,pl,b⟩) (.obj .bA [.num (.av (AH ad a e d co c f sl pl&&&4294967295#64)),.num (.av ((AH ad a e d co c f sl pl)>>>32))]) [(decide (0≤(Int.tmod pl 128))&&decide ((Int.tmod pl 128)<(128:Int))),decide ((128:Int)≠0),decide ((0≤d∧(d≤8∧(0≤co∧(co≤256∧(0≤pl∧pl≤256)))))),(decide (sl<2)==true),((a==1)==false),((c==0)==true),((a==1)==false),((c==0)==true),((c==0)==true),((a==1)==false),((a==2)==true),((a==1)==false),((a==2)==true),((a==2)==true),((a==1)==false),((a==1)==false),((a==1)==false),((a==1)==false),((a==1)==false),((a==1)==false)]:=by show _=_;kernel_rfl
def agF(ad:ud)(a d e co c f sl pl:Int)(b:U 64):kY.cE ⟨a,d,e,co,c,f,sl,pl,b⟩ (some [0]) (b9 (yp ad) aU 37) (bt 16 704) (kY.out ⟨a,d,e,co,c,f,sl,pl,b⟩) (.obj .bA [.num (.av (b.l.getD 0 0#64&&&4294967295#64)),.num (.av ((b.l.getD 0 0#64)>>>32))]) [((a==1)==false),((c==0)==false),((a==1)==false),((c==0)==false),((c==0)==false),((a==1)==false),((a==2)==true),((a==1)==false),((a==2)==true),((a==2)==true),((a==1)==false),((a==1)==false),((a==1)==false),((a==1)==false),((a==1)==false),((a==1)==false)]:=by show _=_;kernel_rfl
def agG(ad:ud)(a d e co c f sl pl:Int)(b:U 64):kY.cE ⟨a,d,e,co,c,f,sl,pl,b⟩ (some [0]) (b9 (yp ad) aU 37) (bt 17 23232) (kY.out ⟨a,d,e,co,c,f,sl,pl,b⟩) (.obj .bA [.num (.av (b.l.getD 0 0#64&&&4294967295#64)),.num (.av ((b.l.getD 0 0#64)>>>32))]) [(decide (sl<2)==false),((a==1)==false),((c==0)==true),((a==1)==false),((c==0)==true),((c==0)==true),((a==1)==false),((a==2)==true),((a==1)==false),((a==2)==true),((a==2)==true),((a==1)==false),((a==1)==false),((a==1)==false),((a==1)==false),((a==1)==false),((a==1)==false)]:=by show _=_;kernel_rfl
def agH(ad:ud)(a c d co e f sl pl:Int)(b:U 64):kY.cE ⟨a,c,d,co,e,f,sl,pl,b⟩ (some [0]) (b9 (yp ad) aU 37) (bt 13 0) (kY.out ⟨a,c,d,co,e,f,sl,pl,b⟩) (.obj .bA [.num (.av (b.l.getD 0 0#64&&&4294967295#64)),.num (.av ((b.l.getD 0 0#64)>>>32))]) [((a==1)==false),((a==1)==false),((a==1)==false),((a==2)==false),((a==1)==false),((a==2)==false),((a==2)==false),((a==1)==false),((a==1)==false),((a==1)==false),((a==1)==false),((a==1)==false),((a==1)==false)]:=by show _=_;kernel_rfl
def agI:br 37 kY.spec:=by
 refine kY.ok (dn agB (cL _)) agC ?_;rintro⟨a,m,n,co,c,o,sl,pl,b⟩ d;have d:=bg d;have h3:pl.tmod 128=pl%128:=oB d.2.2.2.2.1;have p:(decide ((0:Int)≤pl.tmod 128)&&decide (pl.tmod 128<((128:Nat):Int)))=true:=by
  rw[dI];exact⟨bu (by omega),bu (by omega)⟩
 have e:∀w,Dd (q9 bz) a m n co c o sl pl b=w→kY.val ⟨a,m,n,co,c,o,sl,pl,b⟩=.obj .bA [.num (.av (w&&&4294967295#64)),.num (.av (w>>>32))]:=fun w h=>by subst h;rfl
 have fin:∀{l:List Bool},(∀j∈l,j=true)→∀j∈l,j=true:=fun h=>h;by_cases h1:a=1
 ·have r:(a==1)=true:=by simp[h1]
  rw[e _ (ax (.inl h1))];refine⟨_,_,_,agD ..,?_⟩;rw[r]
  repeat'(refine aA ?_ ?_)
  all_goals first|exact aX|rfl|exact p|exact bu d
 have f:(a==1)=false:=by simp[h1]
 by_cases h2:a=2
 ·have k:(a==2)=true:=by simp[h2]
  by_cases g:c=0
  ·have q:(c==0)=true:=by simp[g]
   by_cases i:sl<2
   ·rw[e _ (ax (.inr ⟨h2,g,i⟩))];refine⟨_,_,_,agE ..,?_⟩;rw[f,k,q,bu i]
    repeat'(refine aA ?_ ?_)
    all_goals first|exact aX|rfl|exact p|exact bu d
   ·rw[e _ (ak fun h=>h.elim h1 fun h=>i h.2.2)];refine⟨_,_,_,agG ..,?_⟩;rw[f,k,q,j4 i]
    repeat'(refine aA ?_ ?_)
    all_goals first|exact aX|rfl
  ·have s:(c==0)=false:=by simp[g]
   rw[e _ (ak fun h=>h.elim h1 fun h=>g h.2.1)];refine⟨_,_,_,agF ..,?_⟩;rw[f,k,s]
   repeat'(refine aA ?_ ?_)
   all_goals first|exact aX|rfl
 ·have t:(a==2)=false:=by simp[h2]
  rw[e _ (ak fun h=>h.elim h1 fun h=>h2 h.1)];refine⟨_,_,_,agH ..,?_⟩;rw[f,t]
  repeat'(refine aA ?_ ?_)
  all_goals first|exact aX|rfl
abbrev kZ:=Int→Int→Int→Int→Int→Int→Int→Int→U 64→BitVec 64
def c9:kZ:=fun a c d co e f sl pl b=>Dd (q9 bz) a c d co e f sl pl b
def SK(wd:kZ):bV Gs:={kY with val:=fun⟨a,ps,la,co,pa,ln,sl,pl,b⟩=>.obj .bA [.num (.av (wd a ps la co pa ln sl pl b&&&4294967295#64)),.num (.av (wd a ps la co pa ln sl pl b>>>32))]}
def agJ:SK c9=kY:=rfl
def Lu(wd:kZ):FuncId→Option ay.Spec|37=>some (SK wd).spec|38=>some kA.spec|_=>none
def agK:∀f a,Lu c9 f=some a→br f a:=by
 intro f a h;unfold Lu at h;split at h
 ·cases h;rw[agJ];exact agI
 ·cases h;exact agv
 ·cases h
def jV(w:BitVec 64)(a b c sl:Int):Int:=pg (w>>>32) a b c sl
def oa(w:BitVec 64)(a co b c sl pl:Int):Int:=Gp (w&&&4294967295#64) (w>>>32) a co b c sl pl
structure Gt where
 (kd ps la co pa ln sl pl:Int)(b:U 64)
def Lv(a:List af)(d:List ah):Option Gt:=
 match a with
 |[.ref (.ptr 0 (.c 0)),.num (.int .i64 (.s e)),.num (.int .i64 (.s f)),.num (.int .i64 (.s sl)),.num (.int .i64 (.s pl)),.agg g]=>
  match d with
  |[⟨.gen [.num (.int .i64 (.s h)),.num (.int .i64 (.s i)),.num (.int .i64 (.s j)),.num (.int .i64 (.s co)),.atom .aa,.atom .aa],.ro⟩]=>
   (match jS 128 g with
   |some b=>some ⟨h,i,j,co,e,f,sl,pl,b⟩|none=>none)
  |_=>none
 |_=>none
def jj:bV Gt where
 d0:=⟨0,0,0,0,0,0,0,0,0⟩
 read:=Lv
 args:=fun⟨_,_,_,_,a,d,sl,pl,b⟩=>[.P 0,.au a,.au d,.au sl,.au pl,.agg (dU b 128)]
 heap:=fun⟨e,f,c,co,_,_,_,_,_⟩=>[⟨.gen [.au e,.au f,.au c,.au co,.aa,.aa],.ro⟩]
 val:=fun⟨e,f,c,co,a,d,sl,pl,b⟩=>(.obj .bA [.au (jV (c9 e f c co a d sl pl (di b)) c a d sl),.au (oa (c9 e f c co a d sl pl (di b)) c co a d sl pl)])
 aT:=fun⟨_,_,c,co,a,d,sl,pl,_⟩=>decide (1≤c∧c≤8∧8≤co∧co≤256∧co.tdiv 4*4=co∧0≤a∧a≤3∧0≤sl∧sl≤3∧0≤d∧d<c∧0≤pl∧pl<co.tdiv 4∧(a=0→sl=0→2≤pl))
def SL(a:List af)(b:List ah)(d:Gt)(h:jj.read a b=some d):a=jj.args d∧b=jj.heap d:=by
 replace h:Lv a b=some d:=h;unfold Lv at h;split at h
 case h_2=>cases h
 split at h
 case h_2=>cases h
 split at h
 case h_2=>cases h
 rename_i c;obtain⟨rfl,_⟩:=kU c;cases h;exact⟨rfl,rfl⟩
def agL(wd:kZ)(e f a co c d sl pl:Int)(b:U 64):jj.cE ⟨e,f,a,co,c,d,sl,pl,b⟩ (some [0]) (b9 (Lu wd) aU 28) [] (jj.out ⟨e,f,a,co,c,d,sl,pl,b⟩) (.obj .bA [.au (jV (wd e f a co c d sl pl (di b)) a c d sl),.au (oa (wd e f a co c d sl pl (di b)) a co c d sl pl)]) [decide ((1≤a∧(a≤8∧(8≤co∧(co≤256∧(((Int.tdiv co 4)*4)=co∧(0≤c∧(c≤3∧(0≤sl∧(sl≤3∧(0≤d∧(d<a∧(0≤pl∧(pl<(Int.tdiv co 4)∧((Z.s c).v=0→(Z.s sl).v=0→2≤(Z.s pl).v))))))))))))))),decide ((0≤a∧(a≤8∧(0≤co∧(co≤256∧(0≤pl∧pl≤256))))))]:=by show _=_;kernel_rfl
def agM:br 28 jj.spec:=by
 refine jj.ok (dn agK (cL _)) SL ?_;rintro⟨c,d,e,co,f,g,sl,pl,b⟩ a;have a:=bg a;refine⟨_,_,_,agL c9 c d e co f g sl pl b,?_⟩;have h:co.tdiv 4=co/4:=pK (by omega)
 repeat'(refine aA ?_ ?_)
 all_goals first|exact aX|exact bu a|rfl|exact bu (by omega)
end
end Go.Proofs.YtcminalaicidiaaGreatDoor
namespace Go.ay
section
variable [aR][aG]
def De(i:Nat)(a:Spec):Spec:=fun args b c=>
 match b with
 |[]=>none|h::r=>
  match h with
  |⟨d,m⟩=>
   match m with
   |.ro=>
    match d with
    |.gen l=>
     match BM a args ⟨⟨.gen (fc .aa i l),.ro⟩::r,bQ,c,[]⟩with
     |none=>none|some (v,S)=>
      match S.H with
      |[]=>none|k::e=>
       match k.mode with
       |.ro=>some ⟨v,h::e,S.dec,S.cond⟩|_=>none
    |_=>none
   |_=>none
def jb.De{β:aE}{l:List af}{i:Nat}{b:Loc}{w:World}(h:jb β (.gen l) b w):jb β (.gen (fc .aa i l)) b w:=by
 rw[iN];refine⟨h.1,by show(l.set i .aa).length≤b.room;rw[lJ];exact h.2.1,fun j e a=>?_⟩;have a:(l.set i .aa)[j]? =some e:=a;have c:j<l.length:=by have:=(dW.1 a).1;rwa[lJ]at this
 obtain⟨v,h1,h2,h3⟩:=h.2.2 j l[j] (bX c);refine⟨v,h1,?_,h3⟩;by_cases d:i=j
 ·subst d;rw[pL c]at a;injection a with a;subst a;exact .aa _
 ·rw[mw d,bX c]at a;injection a with a;subst a;exact h2
def agN{P:Program}{G:Nat→Option (List af)}{f:FuncId}{L:Spec}{i:Nat}(h:dF P G f L):dF P G f (De i L):=by
 intro args au av r s;unfold De at s
 repeat' split at s
 all_goals(try(cases s;done))
 rename_i X aw d m l _ v S t _ k M y _ Y;simp only[aD]at s;subst s;obtain⟨N,Z⟩:=CM h _ _ _ _ t;have O:S.H[0]? =some k:=by rw[y];rfl
 have aa:k=⟨.gen (fc .aa i l),.ro⟩:=by
  have:=N.ro 0 k (by rw[cg];exact O) Y;rw[cg]at this;have this:some (ah.mk (.gen (fc .aa i l)) .ro)=some k:=this;injection this with this;exact this.symm
 refine⟨fun b E F Q=>?_,fun ab β w vs ad z=>?_⟩
 ·cases b with
  |zero=>exact⟨_,rfl,rfl⟩|succ b=>
   have F:M[b]? =some E:=F;have:=N.ro (b+1) E (by rw[cg,y];exact F) Q;rw[cg]at this;exact⟨E,this,Q⟩
 ·have p:(ah.mk (.gen l) .ro).mode.alive:=by intro h;cases h
  have ae:(fc af.aa i l).length=l.length:=by rw[iN,lJ]
  have ag:(Data.gen (fc af.aa i l)).len=(Data.gen l).len:=ae;obtain⟨R,T⟩:=z.swap (a:=0) (d':=.gen (fc .aa i l)) (m:=.ro) rfl p (fun n=>by
   rcases z.blk 0 _ rfl p with⟨A,o,_⟩|⟨g,_⟩
   ·rw[n]at o;cases o
   ·rw[ag];exact g) (fun A o x=>jb.De x)
  obtain⟨ai,aj⟩:=Z ab β w vs ad R;refine⟨ai,aj.mono ?_⟩;rintro B w' ⟨u,ak,rfl,al,am,e⟩;refine⟨u,ak,rfl,al,?_⟩;have I:=am.swap (a:=0) (d:=.gen (fc .aa i l)) (d':=.gen l) (m:=.ro) (by rw[O,aa]) p (fun n=>by
   rcases z.blk 0 _ rfl p with⟨A,o,_⟩|⟨g,_⟩
   ·rw[e.le _ _ o]at n;cases n
   ·exact g) (fun A o x=>by
   rcases z.blk 0 _ rfl p with⟨C,U,D⟩|⟨g,n⟩
   ·have B:C=A:=by have:=e.le _ _ U;rw[o]at this;injection this with this;exact this.symm
    subst B;have D:jb β (.gen l) C w:=D;have an:¬Own β (⟨.gen (fc .aa i l),.ro⟩::X) C.c:=by
     rintro⟨b,V,ao,q,W,ap,dr⟩;refine R.dL b 0 V _ ao C (fun B=>?_) q rfl W p ap U dr;subst B;have q:some (ah.mk (.gen (fc .aa i l)) .ro)=some V:=q;injection q with q;subst q;cases W
    exact jb.mono e.le D e.size (e.kept _ D.1 an)
   ·refine⟨x.1,?_,fun j aq J=>?_⟩
    ·have g:l.length=0:=g
     show l.length≤_;omega
    ·have g:l.length=0:=g;have J:l[j]? =some aq:=J;have:=(dW.1 J).1;omega)
  have ar:S.H.set 0 ⟨.gen l,.ro⟩=⟨.gen l,.ro⟩::M:=by rw[y];rfl
  rw[ar]at I;refine⟨I.1,⟨e.le,?_,e.os,e.tape,e.output,e.size,fun c t n=>e.kept c t fun K=>n ((T c).1 K),fun c t K=>(T c).1 (e.own c t ((I.2 c).1 K)),fun b x=>e.old b x⟩⟩;have:=e.len;rw[y]at this;exact this
end
end Go.ay
namespace Go.Proofs.YtcminalaicidiaaGreatDoor
section
open Go.ay
variable [aR][aG][bl]
def Gu:Nat→Nat→(Nat→Nat)→List af|0,_,_=>[]|n+1,i,a=>.ref (.sm (i+2) (.s (a i)) 128)::Gu n (i+1) a
def yq:Nat→Nat→(Nat→U 64)→List ah|0,_,_=>[]|n+1,i,r=>⟨.bw (r i),.own⟩::yq n (i+1) r
def Df:Nat→Nat→List af→Option (List Nat)
 |0,_,l=>match l with|[]=>some []|_::_=>none
 |n+1,i,l=>
  match l with
  |[]=>none|a::d=>
   match a with
   |.ref q=>
    match q with
    |.sm b l e=>
     match Nat.beq b (i+2)&&Nat.beq e 128 with
     |true=>
      match l with
      |.s m=>
       match Df n (i+1) d with
       |some f=>some (m::f)|none=>none
      |.c _=>none
     |false=>none
    |_=>none
   |_=>none
def AI:Nat→List ah→Option (List (U 64)×List ah)
 |0,a=>some ([],a)|n+1,a=>
  match a with
  |[]=>none|k::a=>
   match k with
   |⟨d,m⟩=>
    match m with
    |.own=>
     match d with
     |.bw X=>
      match AI n a with
      |some (b,a)=>some (X::b,a)|none=>none
     |_=>none
    |_=>none
def SM:∀{n i:Nat} {l:List af} {c:List Nat} {a:Nat→Nat},Df n i l=some c→(∀j,a (i+j)=c.getD j 0)→l=Gu n i a
 |0,i,l,c,a,h,_=>by
  unfold Df at h;split at h
  ·rfl
  ·cases h
 |n+1,i,l,c,a,h,d=>by
  unfold Df at h
  repeat' split at h
  all_goals(try(cases h;done))
  rename_i b f _ e _ m _ o g;cases h;rw[dI]at e;obtain⟨h1,h2⟩:=e;have h1:b=i+2:=by simpa using h1
  have h2:f=128:=by simpa using h2
  subst h1 h2;have k:a i=m:=d 0
  show _=.ref (.sm (i+2) (.s (a i)) 128)::Gu n (i+1) a;rw[k,←SM g fun j=>by rw[iD,Bi 1 j];exact d (j+1)]
def Lx:∀{n i:Nat} {a b:List ah} {c:List (U 64)} {r:Nat→U 64},AI n a=some (c,b)→(∀j,r (i+j)=c.getD j (U.zero 64 0))→a=yq n i r++b
 |0,i,a,b,c,r,h,_=>by
  simp only[AI,aD,aO]at h;exact h.2
 |n+1,i,a,b,c,r,h,d=>by
  unfold AI at h
  repeat' split at h
  all_goals(try(cases h;done))
  rename_i k _ _ _ _ _ X _ l e f;simp only[aD,aO]at h;obtain⟨rfl,rfl⟩:=h;have g:r i=X:=d 0
  show _=⟨.bw (r i),.own⟩::(yq n (i+1) r++e);rw[g,←Lx f fun j=>by rw[iD,Bi 1 j];exact d (j+1)]
def agO(p:Nat)(a b co:Int):ah:=⟨.gen [.num (.int .i64 (.s a)),.num (.int .i64 (.s b)),.num (.int .i64 (.c (p:Int))),.num (.int .i64 (.s co)),.atom .aa,.ref (.sl 1 (.c 0) (.c p) none)],.ro⟩
def qc(p:Nat)(a b co:Int)(c:Nat→Nat)(r:Nat→U 64)(T:List ah):List ah:=agO p a b co::⟨.gen (Gu p 0 c),.ro⟩::(yq p 0 r++T)
def Dg(p:Nat)(a:List ah):Option ((Int×Int×Int)×(Nat→Nat)×(Nat→U 64)×List ah):=
 match a with
 |⟨.gen [.num (.int .i64 (.s b)),.num (.int .i64 (.s d)),.num (.int .i64 (.c e)),.num (.int .i64 (.s co)),.atom .aa,.ref (.sl 1 (.c 0) (.c f) none)],.ro⟩::⟨.gen l,.ro⟩::a=>
  match kK e (p:Int)&&Nat.beq f p with
  |true=>
   match Df p 0 l with
   |some g=>
    match AI p a with
    |some (h,a)=>some ((b,d,co),(fun j=>g.getD j 0),(fun j=>h.getD j (U.zero 64 0)),a)|none=>none
   |none=>none
  |false=>none
 |_=>none
def Ly{p:Nat}{a T:List ah}{b c co:Int}{d:Nat→Nat}{r:Nat→U 64}(h:Dg p a=some ((b,c,co),d,r,T)):a=qc p b c co d r T:=by
 unfold Dg at h;split at h
 case h_2=>cases h
 split at h
 case h_2=>cases h
 rename_i e;rw[dI,nv]at e;obtain⟨h1,h2⟩:=e;simp only[eT]at h1;have h2:=qz h2;subst h1 h2;split at h
 case h_2=>cases h
 rename_i i f;split at h
 case h_2=>cases h
 rename_i k l g;simp only[aD,aO]at h;obtain⟨⟨rfl,rfl,rfl⟩,rfl,rfl,rfl⟩:=h;unfold qc;rw[←SM f fun j=>by rw[cM],←Lx g fun j=>by rw[cM]];rfl
def me:List (Nat×Nat):=(List.range 8).flatMap fun p=>(List.range (p+1)).map fun l=>(p+1,l)
def Gv{p l:Nat}(a:p≤8)(b:l<p):(p,l)∈me:=by
 unfold me;simp only[Wp,y7,oA];exact⟨p-1,by omega,l,by omega,by congr 1;omega⟩
def gR{b β:Type}{l:List b}{f g:b→β}(h:l.map f=l.map g){a:b}(c:a∈l):f a=g a:=List.map_inj_left.1 h a c
def fu:af:=.atom .aa
def dM(c:Int):Nat:=0+c.toNat*128
structure ob where
 (kd ps co pa sl aB pl kn:Int)(nn:Nat→Nat)(r:Nat→U 64)(Z:U 64)(i:Int)
def sG(p a:Nat)(d:ob):aJ×List ah:=
 match d with
 |⟨b,e,co,f,sl,g,pl,h,j,r,Z,i⟩=>(⟨[.P 0,.au f,.J (a:Int),.au sl,fu,fu,fu,fu,.au g,.au pl,.au h,fu,fu,fu,.ref (.ptr (p+3) (.c 0)),fu],[⟨82,.au i⟩]⟩,qc p b e co j r [cp,⟨.bw Z,.own⟩])
def AJ(X:U 64)(a:Int)(Z:U 64)(i:Int):U 64:=Z.set (0+i.toNat*1) (Z.l.getD (0+i.toNat*1) 0#64^^^X.l.getD (dM a+i.toNat*1) 0#64)
def yt(b:Nat)(d:ob):ob:=
 match d with
 |⟨c,e,co,f,sl,g,pl,a,h,r,Z,i⟩=>⟨c,e,co,f,sl,g,pl,a,h,r,AJ (r b) a Z i,i+1⟩
def Lz(p a:Nat)(d:aJ)(e:List ah):Option ob:=
 match d with
 |⟨[.ref (.ptr 0 (.c 0)),.num (.int .i64 (.s f)),.num (.int .i64 (.c g)),.num (.int .i64 (.s sl)),.atom .aa,.atom .aa,.atom .aa,.atom .aa,.num (.int .i64 (.s h)),.num (.int .i64 (.s pl)),.num (.int .i64 (.s j)),.atom .aa,.atom .aa,.atom .aa,.ref (.ptr b (.c 0)),.atom .aa],[⟨82,.num (.int .i64 (.s i))⟩]⟩=>
  match kK g (a:Int)&&Nat.beq b (p+3)with
  |true=>
   match Dg p e with
   |some ((k,l,co),m,r,T)=>
    match T with
    |[⟨.gen [],.bn⟩,⟨.bw Z,.own⟩]=>some ⟨k,l,co,f,sl,h,pl,j,m,r,Z,i⟩|_=>none
   |none=>none
  |false=>none
 |_=>none
def oc(p a:Nat):eN ob where
 d0:=⟨0,0,0,0,0,0,0,0,fun _=>0,fun _=>0,0,0⟩
 read:=Lz p a
 az:=sG p a
 next:=yt a
 rem:=fun⟨_,_,_,_,_,_,_,_,_,_,_,i⟩=>(128-i).toNat
 aT:=fun⟨_,_,_,_,_,_,_,b,c,r,Z,i⟩=>decide (0≤i∧i≤128∧0≤b∧b<c a∧dM b+128≤(r a).n∧Z.n=128)
 out:=.exit 2
def od(c:Int)(n:Nat):Bool:=decide ((0:Int)≤c)&&decide (c<(n:Int))
def SN(a:Nat)(d:ob):List Bool:=[gv (d.i+1),decide (0+d.i.toNat*1<d.Z.n),od d.i 128,decide (dM d.kn+d.i.toNat*1<(d.r a).n),od d.i 128,od d.kn (d.nn a),decide (0+d.i.toNat*1<d.Z.n),od d.i 128,decide (d.i<128)==true]
def agP(a b co c sl d pl e:Int)(f:Nat→Nat)(r:Nat→U 64)(Z:U 64)(i:Int):
 me.map (fun q=>eu (q.1+4) (some (List.range (q.1+4))) (sG q.1 q.2 (yt q.2 ⟨a,b,co,c,sl,d,pl,e,f,r,Z,i⟩)) (bZ ck aU 21 1 (sG q.1 q.2 ⟨a,b,co,c,sl,d,pl,e,f,r,Z,i⟩).1 ⟨(sG q.1 q.2 ⟨a,b,co,c,sl,d,pl,e,f,r,Z,i⟩).2,bQ,[true],[]⟩))=
  me.map fun q=>some (.normal,sG q.1 q.2 (yt q.2 ⟨a,b,co,c,sl,d,pl,e,f,r,Z,i⟩),SN q.2 ⟨a,b,co,c,sl,d,pl,e,f,r,Z,i⟩):=by kernel_rfl
def agQ(a b co c sl d pl e:Int)(f:Nat→Nat)(r:Nat→U 64)(Z:U 64)(i:Int):
 me.map (fun q=>eu (q.1+4) none (sG q.1 q.2 ⟨a,b,co,c,sl,d,pl,e,f,r,Z,i⟩) (bZ ck aU 21 1 (sG q.1 q.2 ⟨a,b,co,c,sl,d,pl,e,f,r,Z,i⟩).1 ⟨(sG q.1 q.2 ⟨a,b,co,c,sl,d,pl,e,f,r,Z,i⟩).2,bQ,[false],[]⟩))=
  me.map fun q=>some (.exit 2,sG q.1 q.2 ⟨a,b,co,c,sl,d,pl,e,f,r,Z,i⟩,[decide (i<128)==false]):=by kernel_rfl
def LA:∀n i (r:Nat→U 64),(yq n i r).length=n|0,_,_=>rfl|n+1,i,r=>iX (·+1) (LA n (i+1) r)
def LB(p:Nat)(a b co:Int)(c:Nat→Nat)(r:Nat→U 64)(T:List ah):(qc p a b co c r T).length=p+T.length+2:=by
 unfold qc;rw[iW,iW,fB,LA]
def Gw(p a:Nat)(d:ob):(sG p a d).2.length=p+4:=LB ..
def agR(p a:Nat)(b:aJ)(c:List ah)(d:ob)(h:(oc p a).read b c=some d):(b,c)=(oc p a).az d:=by
 replace h:Lz p a b c=some d:=h;unfold Lz at h;split at h
 case h_2=>cases h
 split at h
 case h_2=>cases h
 rename_i e;rw[dI,nv]at e;obtain⟨h1,h2⟩:=e;simp only[eT]at h1;have h2:=qz h2;subst h1 h2;split at h
 case h_2=>cases h
 rename_i f;split at h
 case h_2=>cases h
 cases h;rw[Ly f];rfl
def yu{c:Int}{n:Nat}(h:0≤c∧c<n):od c n=true:=by
 unfold od;rw[dI];exact⟨bu h.1,bu h.2⟩
def SO{p a:Nat}(v:p≤8)(w:a<p):eF Tryz.prog bB (an 21) (bS Tryz.prog 21) (bh Tryz.prog 21 1) (oc p a).T.told:=by
 have t:=Gv v w;refine(oc p a).jT (iz fK (cL _) 21 1 JS (by rw[show(cI Tryz.prog 21).length=2 by kernel_rfl];omega)) (by intro k o;have o:k∈([]:List ah):=o;cases o) (by intro h;cases h) (agR p a) ?_ ?_
 ·rintro⟨d,e,co,f,sl,g,pl,b,j,r,Z,i⟩ u m l;have m:=bg m;have l:(128-i).toNat=u+1:=l;obtain⟨x,h1,h2,h3,h4,y⟩:=m;have q:=gR (agP d e co f sl g pl b j r Z i) t;refine⟨⟨[true],some (List.range (p+4)),SN a ⟨d,e,co,f,sl,g,pl,b,j,r,Z,i⟩,?_,?_⟩,?_,?_,(Gw ..).trans (Gw ..).symm⟩
  ·have s:((oc p a).az ⟨d,e,co,f,sl,g,pl,b,j,r,Z,i⟩).2.length-(oc p a).cH.length=p+4:=(gE _).trans (Gw p a _);rw[s];exact q
  ·have hi:=yu (c:=i) (n:=128) ⟨x,by omega⟩;exact aA (ia (by show _≤i+1∧i+1≤_;omega)) (aA (bu (by show 0+i.toNat*1<Z.n;omega)) (aA hi (aA (bu (by show dM b+i.toNat*1<(r a).n;omega)) (aA hi (aA (yu ⟨h2,h3⟩) (aA (bu (by show 0+i.toNat*1<Z.n;omega)) (aA hi (aA (by rw[eT];exact bu (by show i<128;omega)) aX))))))))
  ·refine bu ⟨?_,?_,h2,h3,h4,y⟩<;>omega
  ·show(128-(i+1)).toNat=u;omega
 ·rintro⟨d,e,co,f,sl,g,pl,b,j,r,Z,i⟩ m l;have l:(128-i).toNat=0:=l;have q:=gR (agQ d e co f sl g pl b j r Z i) t;refine⟨[false],none,[decide (i<128)==false],?_,?_⟩
  ·have s:((oc p a).az ⟨d,e,co,f,sl,g,pl,b,j,r,Z,i⟩).2.length-(oc p a).cH.length=p+4:=(gE _).trans (Gw p a _);rw[s];exact q
  ·exact aA (by rw[eT];exact j4 (by omega)) aX
def sH(p a:Nat):FuncId→Nat→Option cP|21,11=>some (oc p a).T.told|_,_=>none
def agS{p a:Nat}(e:p≤8)(g:a<p)(spec:FuncId→Option ay.Spec):c6 (dh spec (sH p a)) bB:=by
 refine c6.of fun f=>?_;by_cases d:f=21
 ·subst d;refine .inr ⟨by kernel_rfl,fun i hi h b=>?_⟩;have hi:i<(cI Tryz.prog 21).length:=hi;rw[show(cI Tryz.prog 21).length=2 by kernel_rfl]at hi;have j:i=0∨i=1:=by omega
  rcases j with rfl|rfl
  ·have c:(bY (bh Tryz.prog 21 0)).bind (sH p a 21)=none:=by kernel_rfl
   have b:(bY (bh Tryz.prog 21 0)).bind (sH p a 21)=some h:=b;rw[c]at b;cases b
  ·have c:(bY (bh Tryz.prog 21 1)).bind (sH p a 21)=some (oc p a).T.told:=by kernel_rfl
   obtain rfl:=dV (c.symm.trans b);exact(SO e g).run
 ·refine .inl fun r=>?_
  show sH p a f r=none;unfold sH;split
  ·exact absurd rfl d
  ·rfl
def Gx(wd:kZ)(g:Nat):bV Gt:={jj with
 val:=fun⟨e,f,a,co,c,d,sl,pl,b⟩=>.obj .bA [.J (g:Int),.au (oa (wd e f a co c d sl pl b) a co c d sl pl)]
 aT:=fun⟨e,f,a,co,c,d,sl,pl,b⟩=>(jj.aT ⟨e,f,a,co,c,d,sl,pl,b⟩&&Nat.beq b.n 128)&&decide (jV (wd e f a co c d sl pl b) a c d sl=g)}
def Gy(wd:kZ):Nat→Nat→ay.Spec
 |0,_=>fun _ _ _=>none|n+1,c=>fun args d a=>
  match a with
  |[]=>none|b::a=>
   match b with
   |true=>De 5 (Gx wd c).spec args d a|false=>Gy wd n (c+1) args d a
def agT{β:aE}{z:Int}{b:af}{u:Value}(h:aC β (.obj .bA [.num (.int .i64 (.s z)),b]) u):aC β (.obj .bA [.num (.int .i64 (.c z)),b]) u:=by
 cases h with
 |bA j vs g d=>
  refine .bA _ vs (by simpa using g) fun i e v a f=>?_;cases i with
  |zero=>
   have a:some (af.num (.int .i64 (.c z)))=some e:=a;injection a with a;subst a;rw[(d 0 _ v rfl f).num_inv];exact .num (.int .i64 (.c z))
  |succ i=>exact d (i+1) e v a f
def agU(j:Nat):br 28 (Gx c9 j).spec:=by
 refine(Gx c9 j).wq (show∀a k d,jj.read a k=some d→a=jj.args d∧k=jj.heap d from SL) fun d i β w vs p r B=>?_;obtain⟨g,h,c,co,e,f,sl,pl,b⟩:=d;have i:((jj.aT ⟨g,h,c,co,e,f,sl,pl,b⟩&&Nat.beq b.n 128)&&decide (jV (c9 g h c co e f sl pl b) c e f sl=j))=true:=i;rw[dI,dI,jI]at i;have l:di b=b:=o8 (qz i.1.2);obtain⟨t,v⟩:=(agM (jj.args ⟨g,h,c,co,e,f,sl,pl,b⟩) (jj.heap ⟨g,h,c,co,e,f,sl,pl,b⟩) [] _ (show jj.spec (jj.args ⟨g,h,c,co,e,f,sl,pl,b⟩) (jj.heap ⟨g,h,c,co,e,f,sl,pl,b⟩) []=some ⟨jj.val ⟨g,h,c,co,e,f,sl,pl,di b⟩,jj.heap ⟨g,h,c,co,e,f,sl,pl,b⟩,[],[jj.aT ⟨g,h,c,co,e,f,sl,pl,b⟩]⟩ by kernel_rfl)).2 (fun C x=>by rw[ta.1 x];exact i.1.1) β w vs p r;refine⟨t,v.mono ?_⟩;rintro D w' ⟨u,m,rfl,y,z,A⟩;refine⟨u,m,rfl,?_,z,A.q (aV _)⟩;have o:aC m (.obj .bA [.num (.int .i64 (.s (jV (c9 g h c co e f sl pl (di (di b))) c e f sl))),.num (.int .i64 (.s (oa (c9 g h c co e f sl pl (di (di b))) c co e f sl pl)))]) u:=y;rw[l,l,i.2]at o;exact agT o
def SP:∀n b,br 28 (Gy c9 n b)
 |0,_=>fun args c d r a=>by cases a
 |n+1,b=>fun args c d r a=>by
  unfold Gy at a;split at a
  ·cases a
  ·split at a
   ·exact agN (agU b) _ _ _ _ a
   ·exact SP n (b+1) _ _ _ _ a
def yw(Q:U 64→U 64→U 64)(wd:kZ):FuncId→Option ay.Spec|28=>some (Gy wd 8 0)|29=>some (Gq Q).spec|_=>none
def SQ:∀f a,yw bz c9 f=some a→br f a:=by
 intro f a h;unfold yw at h;split at h
 ·cases h;exact SP 8 0
 ·cases h;rw[SI];exact RZ
 ·cases h
def upd(r:Nat→U 64)(l:Nat)(X:U 64):Nat→U 64:=fun i=>match Nat.beq i l with|true=>X|false=>r i
structure oe where
 (kd ps co pa sl aB pl:Int)(nn:Nat→Nat)(r:Nat→U 64)
def k3(p a:Nat)(d:oe):aJ×List ah:=
 match d with
 |⟨kd,ps,co,pa,sl,aB,pl,nn,r⟩=>(⟨[.P 0,.au pa,.J (a:Int),.au sl,fu,fu,fu,fu,.au aB,.au pl,fu,fu,fu,fu,fu,fu],[]⟩,qc p kd ps co nn r [])
def rf(X:U 64)(c:Int)(a:U 64):U 64:=X.over (dM c) (di a)
def cJ(sl aB pl:Int):Int:=sl*aB+pl
def wz(co a:Int):Int:=(a+co-1).tmod co
def lD(X:U 64)(co a:Int):U 64:=rowAt X (dM (wz co a))
def Dh(wd:kZ)(p a:Nat)(kd ps co pa sl aB pl:Int)(r:Nat→U 64):Int:=oa (wd kd ps p co pa a sl pl (lD (r a) co (cJ sl aB pl))) p co pa a sl pl
def AK(Q:U 64→U 64→U 64)(wd:kZ)(p a b:Nat)(kd ps co pa sl aB pl:Int)(r:Nat→U 64):U 64:=
 Q (lD (r a) co (cJ sl aB pl)) (rowAt (r b) (dM (Dh wd p a kd ps co pa sl aB pl r)))
def Di(c:Int)(X:U 64):Bool:=decide (dM c+128≤X.n)
def yx(co pa sl aB pl:Int)(b c:Bool):List Bool:=(if b then [decide (cJ sl aB pl<2)==c]else [])++[(pa==0)==b,(pa==0)==b,(pa==0)==b,gv (cJ sl aB pl),gv (sl*aB),decide (pl<aB)==true]
def Gz(wd:kZ)(p a b:Nat)(kd ps co pa sl aB pl:Int)(nn:Nat→Nat)(r:Nat→U 64):List Bool:=
 [true,Di (Dh wd p a kd ps co pa sl aB pl r) (r b),od (Dh wd p a kd ps co pa sl aB pl r) (nn b),(Gx wd b).aT ⟨kd,ps,p,co,pa,a,sl,pl,lD (r a) co (cJ sl aB pl)⟩,Di (wz co (cJ sl aB pl)) (r a),od (wz co (cJ sl aB pl)) (nn a),decide (co≠0),gv (cJ sl aB pl+co-1),gv (cJ sl aB pl+co)]
section
variable(Q:U 64→U 64→U 64)(wd:kZ)(kd ps co pa sl aB pl:Int)(nn:Nat→Nat)(r:Nat→U 64)
def agV:me.map (fun q=>eu (q.1+2) (some (List.range (q.1+2))) (k3 q.1 q.2 ⟨kd,ps,co,pa,sl,aB,pl+1,nn,r⟩) (bZ (yw Q wd) (sH q.1 q.2) 21 0 (k3 q.1 q.2 ⟨kd,ps,co,pa,sl,aB,pl,nn,r⟩).1 ⟨(k3 q.1 q.2 ⟨kd,ps,co,pa,sl,aB,pl,nn,r⟩).2,bQ,(bt 5 31),[]⟩))=
 me.map fun q=>some (.normal,k3 q.1 q.2 ⟨kd,ps,co,pa,sl,aB,pl+1,nn,r⟩,gv (pl+1)::yx co pa sl aB pl true true):=by kernel_rfl
def fy(p:Nat):List (Nat×Nat×Nat):=(List.range p).flatMap fun l=>(List.range p).map fun a=>(p,l,a)
def SR{p l a:Nat}(b:l<p)(c:a<p):(p,l,a)∈fy p:=by
 unfold fy;simp only[Wp,y7,oA];exact⟨l,b,a,c,rfl⟩
def AL(p a b:Nat):oe:=⟨kd,ps,co,pa,sl,aB,pl+1,nn,upd r a (rf (r a) (cJ sl aB pl) (AK Q wd p a b kd ps co pa sl aB pl r))⟩
def sI(q:Nat×Nat×Nat):Option (dK×(aJ×List ah)×List Bool):=eu (q.1+2) (some (List.range (q.1+2))) (k3 q.1 q.2.1 (AL Q wd kd ps co pa sl aB pl nn r q.1 q.2.1 q.2.2)) (bZ (yw Q wd) (sH q.1 q.2.1) 21 0 (k3 q.1 q.2.1 ⟨kd,ps,co,pa,sl,aB,pl,nn,r⟩).1 ⟨(k3 q.1 q.2.1 ⟨kd,ps,co,pa,sl,aB,pl,nn,r⟩).2,bQ,(bt 5 15)++(List.replicate q.2.2 false++[true,false]),[]⟩)
def sJ(q:Nat×Nat×Nat):Option (dK×(aJ×List ah)×List Bool):=some (.normal,k3 q.1 q.2.1 (AL Q wd kd ps co pa sl aB pl nn r q.1 q.2.1 q.2.2),[gv (pl+1),Di (cJ sl aB pl) (r q.2.1),od (cJ sl aB pl) (nn q.2.1),decide ((0:Int)<pa)==false]++(Gz wd q.1 q.2.1 q.2.2 kd ps co pa sl aB pl nn r++yx co pa sl aB pl true false))
def agW:(fy 1).map (sI Q wd kd ps co pa sl aB pl nn r)=(fy 1).map (sJ Q wd kd ps co pa sl aB pl nn r):=by kernel_rfl
def agX:(fy 2).map (sI Q wd kd ps co pa sl aB pl nn r)=(fy 2).map (sJ Q wd kd ps co pa sl aB pl nn r):=by kernel_rfl
def agY:(fy 3).map (sI Q wd kd ps co pa sl aB pl nn r)=(fy 3).map (sJ Q wd kd ps co pa sl aB pl nn r):=by kernel_rfl
def agZ:(fy 4).map (sI Q wd kd ps co pa sl aB pl nn r)=(fy 4).map (sJ Q wd kd ps co pa sl aB pl nn r):=by kernel_rfl
def ag0:(fy 5).map (sI Q wd kd ps co pa sl aB pl nn r)=(fy 5).map (sJ Q wd kd ps co pa sl aB pl nn r):=by kernel_rfl
def ag1:(fy 6).map (sI Q wd kd ps co pa sl aB pl nn r)=(fy 6).map (sJ Q wd kd ps co pa sl aB pl nn r):=by kernel_rfl
def ag2:(fy 7).map (sI Q wd kd ps co pa sl aB pl nn r)=(fy 7).map (sJ Q wd kd ps co pa sl aB pl nn r):=by kernel_rfl
def ag3:(fy 8).map (sI Q wd kd ps co pa sl aB pl nn r)=(fy 8).map (sJ Q wd kd ps co pa sl aB pl nn r):=by kernel_rfl
end
def Dj(b:Nat)(a:ob):oe:=⟨a.kd,a.ps,a.co,a.pa,a.sl,a.aB,a.pl+1,a.nn,upd a.r b (rf (a.r b) a.kn a.Z)⟩
def yy(V:U 64→U 64→U 64)(wd:kZ)(p a b:Nat)(R S co P sl Q pl:Int)(T:Nat→Nat)(r:Nat→U 64):ob:=⟨R,S,co,P,sl,Q,pl,cJ sl Q pl,T,r,di (AK V wd p a b R S co P sl Q pl r),0⟩
def pi(V:U 64→U 64→U 64)(wd:kZ)(p a b:Nat)(R S co P sl Q pl:Int)(T:Nat→Nat)(r:Nat→U 64):ob:=iter (yt a) (128-(0:Int)).toNat (yy V wd p a b R S co P sl Q pl T r)
section
variable(V:U 64→U 64→U 64)(wd:kZ)(R S co P sl Q pl:Int)(T:Nat→Nat)(r:Nat→U 64)
def ri(q:Nat×Nat×Nat):Option (dK×(aJ×List ah)×List Bool):=eu (q.1+2) (some (List.range (q.1+2))) (k3 q.1 q.2.1 (Dj q.2.1 (pi V wd q.1 q.2.1 q.2.2 R S co P sl Q pl T r))) (bZ (yw V wd) (sH q.1 q.2.1) 21 0 (k3 q.1 q.2.1 ⟨R,S,co,P,sl,Q,pl,T,r⟩).1 ⟨(k3 q.1 q.2.1 ⟨R,S,co,P,sl,Q,pl,T,r⟩).2,bQ,(bt 4 1)++(List.replicate q.2.2 false++[true,true]),[]⟩)
def SS(b:Nat)(a:ob):List Bool:=[gv (a.pl+1),Di a.kn (a.r b),od a.kn (a.nn b),decide (0+128≤a.Z.n)]
def rj(q:Nat×Nat×Nat):Option (dK×(aJ×List ah)×List Bool):=some (.normal,k3 q.1 q.2.1 (Dj q.2.1 (pi V wd q.1 q.2.1 q.2.2 R S co P sl Q pl T r)),SS q.2.1 (pi V wd q.1 q.2.1 q.2.2 R S co P sl Q pl T r)++([(oc q.1 q.2.1).aT (yy V wd q.1 q.2.1 q.2.2 R S co P sl Q pl T r),decide ((0:Int)<P)==true]++(Gz wd q.1 q.2.1 q.2.2 R S co P sl Q pl T r++yx co P sl Q pl false false)))
def ag4:(fy 1).map (ri V wd R S co P sl Q pl T r)=(fy 1).map (rj V wd R S co P sl Q pl T r):=by kernel_rfl
def ag5:(fy 2).map (ri V wd R S co P sl Q pl T r)=(fy 2).map (rj V wd R S co P sl Q pl T r):=by kernel_rfl
def ag6:(fy 3).map (ri V wd R S co P sl Q pl T r)=(fy 3).map (rj V wd R S co P sl Q pl T r):=by kernel_rfl
def ag7:(fy 4).map (ri V wd R S co P sl Q pl T r)=(fy 4).map (rj V wd R S co P sl Q pl T r):=by kernel_rfl
def ag8:(fy 5).map (ri V wd R S co P sl Q pl T r)=(fy 5).map (rj V wd R S co P sl Q pl T r):=by kernel_rfl
def ag9:(fy 6).map (ri V wd R S co P sl Q pl T r)=(fy 6).map (rj V wd R S co P sl Q pl T r):=by kernel_rfl
def aha:(fy 7).map (ri V wd R S co P sl Q pl T r)=(fy 7).map (rj V wd R S co P sl Q pl T r):=by kernel_rfl
def ahb:(fy 8).map (ri V wd R S co P sl Q pl T r)=(fy 8).map (rj V wd R S co P sl Q pl T r):=by kernel_rfl
end
end
section
open Go.ay
variable [aR][aG][bl]
variable{la pa ln sl:Int}{w:BitVec 64}{co pl:Int}{p l P:Nat}
def SU(h:1≤la∧la≤8)(a:0≤ln∧ln<la):0≤jV w la pa ln sl∧jV w la pa ln sl<la:=by
 unfold jV pg;split
 ·exact a
 ·have:(w>>>32%BitVec.ofInt 64 la:BitVec 64).toNat<la.toNat:=by rw[oy,Lp h];exact qv _ (by omega)
  omega
def SV{y:BitVec 64}(h2:8≤co∧co≤256∧co.tdiv 4*4=co)(h3:0≤pa)(h4:0≤sl∧sl≤3)(m:0≤pl∧pl<co.tdiv 4)(c:pa=0→sl=0→2≤pl):1≤mb y la co pa ln sl pl∧mb y la co pa ln sl pl≤512:=by
 have d:0≤sl*co.tdiv 4∧sl*co.tdiv 4≤192∧(sl≠0→2≤sl*co.tdiv 4):=by
  have e:sl=0∨sl=1∨sl=2∨sl=3:=by omega
  rcases e with rfl|rfl|rfl|rfl<;>omega
 obtain⟨n,o,f⟩:=d;have g:(pa≠0→n9 co pa sl=co-co.tdiv 4)∧(pa=0→n9 co pa sl=sl*co.tdiv 4):=⟨fun h=>ak h,fun h=>ax h⟩;obtain⟨i,j⟩:=g;unfold mb;by_cases a:pa=0
 ·rw[j a];by_cases b:sl=0
  ·have:=c a b;have k:pg y la pa ln sl=ln:=ax ⟨a,b⟩;rw[ax k];omega
  ·have:=f b
   repeat' split
   all_goals omega
 ·rw[i a]
  repeat' split
  all_goals omega
def ahc{x:BitVec 64}{a:Int}(b:x.toNat<4294967296)(h:1≤a∧a≤512):(pe x a:Int)<a:=by
 unfold pe;have h1:((x*x)>>>32:BitVec 64).toNat<4294967296:=by
  rw[yY,wU];have:=(x*x).isLt;omega
 generalize((x*x)>>>32:BitVec 64)=z at h1;have h2:(BitVec.ofInt 64 a).toNat=a.toNat:=by rw[qw];omega
 have h3:a.toNat*z.toNat<a.toNat*4294967296:=Nat.mul_lt_mul_of_pos_left h1 (by omega);rw[yY,wU,iE,h2,dO (by omega)];have:a.toNat*z.toNat/2^32<a.toNat:=Bt (by rw[gW (2^32)];exact h3);omega
def SW(h2:8≤co∧co≤256∧co.tdiv 4*4=co)(h3:0≤pa)(h4:0≤sl∧sl≤3)(a:0≤pl∧pl<co.tdiv 4)(b:pa=0→sl=0→2≤pl):0≤oa w la co pa ln sl pl∧oa w la co pa ln sl pl<co:=by
 have c:=SV (y:=w>>>32) (la:=la) (ln:=ln) h2 h3 h4 a b;have f:=ahc (x:=w&&&4294967295#64) (by
  rw[VY];have:w.toNat&&&(4294967295#64).toNat≤(4294967295#64).toNat:=Nat.and_le_right;have g:(4294967295#64).toNat=4294967295:=rfl;omega) c
 have h:0≤q8 co pa sl:=by
  unfold q8;split
  ·omega
  ·have d:sl=0∨sl=1∨sl=2∨sl=3:=by omega
   rcases d with rfl|rfl|rfl|rfl<;>simp only[Int.reduceAdd,Int.reduceTMod]<;>omega
 unfold oa Gp q7;have e:(0:Int)≤q8 co pa sl+mb (w>>>32) la co pa ln sl pl-(1:Int)-(pe (w&&&4294967295#64) (mb (w>>>32) la co pa ln sl pl):Int):=by omega
 rw[oB e];exact⟨VZ _ (by omega),an6 _ (by omega)⟩
structure SX(d e:ob):Prop where
 kd:e.kd=d.kd
 ps:e.ps=d.ps
 co:e.co=d.co
 pa:e.pa=d.pa
 sl:e.sl=d.sl
 aB:e.aB=d.aB
 pl:e.pl=d.pl
 kn:e.kn=d.kn
 nn:e.nn=d.nn
 r:e.r=d.r
 n:e.Z.n=d.Z.n
def LC(a:Nat):∀m (d:ob),SX d (iter (yt a) m d)
 |0,d=>⟨rfl,rfl,rfl,rfl,rfl,rfl,rfl,rfl,rfl,rfl,rfl⟩|m+1,⟨b,c,co,pa,sl,e,pl,f,g,r,Z,i⟩=>by
  obtain⟨h1,h2,h3,h4,h,j,k,n,o,q,s⟩:=LC a m (yt a ⟨b,c,co,pa,sl,e,pl,f,g,r,Z,i⟩);exact⟨h1,h2,h3,h4,h,j,k,n,o,q,s⟩
def gS(p a:Nat)(b c co pa sl d pl:Int)(r:Nat→U 64):Nat:=(jV (c9 b c p co pa a sl pl (lD (r a) co (cJ sl d pl))) p pa a sl).toNat
def ic(p b:Nat)(d:oe):oe:=
 match d with
 |⟨c,e,co,pa,sl,a,pl,f,r⟩=>
  if pa=0∧cJ sl a pl<2 then⟨c,e,co,pa,sl,a,pl+1,f,r⟩
  else if pa=0 then AL bz c9 c e co pa sl a pl f r p b (gS p b c e co pa sl a pl r)
  else⟨c,e,co,pa,sl,a,pl+1,f,upd r b (rf (r b) (cJ sl a pl) (pi bz c9 p b (gS p b c e co pa sl a pl r) c e co pa sl a pl f r).Z)⟩
def LD(p a P:Nat)(c d co pa sl b pl:Int)(e:Nat→Nat)(r:Nat→U 64):Dj a (pi bz c9 p a P c d co pa sl b pl e r)=⟨c,d,co,pa,sl,b,pl+1,e,upd r a (rf (r a) (cJ sl b pl) (pi bz c9 p a P c d co pa sl b pl e r).Z)⟩:=by
 obtain⟨h1,h2,h3,h4,f,g,h,i,j,k,m⟩:=LC a (128-(0:Int)).toNat (yy bz c9 p a P c d co pa sl b pl e r);unfold Dj;have n:∀X:U 64,True:=fun _=>trivial
 show oe.mk (pi bz c9 p a P c d co pa sl b pl e r).kd _ _ _ _ _ _ _ _=_;unfold pi;rw[h1,h2,h3,h4,f,g,h,i,j,k];rfl
structure GA(p lane:Nat)(d:oe):Prop where
 co:8≤d.co∧d.co≤256∧d.co.tdiv 4*4=d.co
 aB:d.aB=d.co.tdiv 4
 pa:0≤d.pa∧d.pa≤3
 sl:0≤d.sl∧d.sl≤3
 pl:0≤d.pl∧d.pl≤d.aB
 nn:∀i,i<p→(d.nn i:Int)=d.co
 r:∀i,i<p→(d.r i).n=d.nn i*128
open Classical in
def mg(p a:Nat):eN oe where
 d0:=⟨0,0,0,0,0,0,0,fun _=>0,fun _=>0⟩
 read:=fun b e=>
  match b with
  |⟨[.ref (.ptr 0 (.c 0)),.num (.int .i64 (.s pa)),.num (.int .i64 (.c ln)),.num (.int .i64 (.s sl)),.atom .aa,.atom .aa,.atom .aa,.atom .aa,.num (.int .i64 (.s f)),.num (.int .i64 (.s pl)),.atom .aa,.atom .aa,.atom .aa,.atom .aa,.atom .aa,.atom .aa],[]⟩=>
   match kK ln (a:Int)with
   |true=>
    match Dg p e with
    |some ((g,h,co),i,r,T)=>
     match T with
     |[]=>some ⟨g,h,co,pa,sl,f,pl,i,r⟩|_=>none
    |none=>none
   |false=>none
  |_=>none
 az:=k3 p a
 next:=ic p a
 rem:=fun d=>(d.aB-d.pl).toNat
 aT:=fun d=>decide (GA p a d)
 out:=.exit 0
def ahd(e:U 64→U 64→U 64)(wd:kZ)(b c co pa sl a pl:Int)(d:Nat→Nat)(r:Nat→U 64):
 me.map (fun q=>eu (q.1+2) none (k3 q.1 q.2 ⟨b,c,co,pa,sl,a,pl,d,r⟩) (bZ (yw e wd) (sH q.1 q.2) 21 0 (k3 q.1 q.2 ⟨b,c,co,pa,sl,a,pl,d,r⟩).1 ⟨(k3 q.1 q.2 ⟨b,c,co,pa,sl,a,pl,d,r⟩).2,bQ,[false],[]⟩))=
  me.map fun q=>some (.exit 0,k3 q.1 q.2 ⟨b,c,co,pa,sl,a,pl,d,r⟩,[decide (pl<a)==false]):=by kernel_rfl
def yz(p a:Nat)(d:oe):(k3 p a d).2.length=p+2:=LB p d.kd d.ps d.co d.nn d.r []
def ahe(p b:Nat)(c:aJ)(e:List ah)(d:oe)(h:(mg p b).read c e=some d):(c,e)=(mg p b).az d:=by
 unfold mg at h;dsimp only at h;split at h
 case h_2=>cases h
 split at h
 case h_2=>cases h
 rename_i a;rw[nv]at a;simp only[eT]at a;subst a;split at h
 case h_2=>cases h
 rename_i f;split at h
 case h_2=>cases h
 cases h;rw[Ly f];rfl
def ahf(b:U 64→U 64→U 64)(wd:kZ)(c d co pa sl e pl:Int)(f:Nat→Nat)(r:Nat→U 64)(j:p≤8)(g:l<p)(h:P<p):sI b wd c d co pa sl e pl f r (p,l,P)=sJ b wd c d co pa sl e pl f r (p,l,P):=by
 have a:=SR g h;have i:p=1∨p=2∨p=3∨p=4∨p=5∨p=6∨p=7∨p=8:=by omega
 rcases i with rfl|rfl|rfl|rfl|rfl|rfl|rfl|rfl
 ·exact gR (agW ..) a
 ·exact gR (agX ..) a
 ·exact gR (agY ..) a
 ·exact gR (agZ ..) a
 ·exact gR (ag0 ..) a
 ·exact gR (ag1 ..) a
 ·exact gR (ag2 ..) a
 ·exact gR (ag3 ..) a
def ahg(b:U 64→U 64→U 64)(wd:kZ)(c d co pa sl e pl:Int)(f:Nat→Nat)(r:Nat→U 64)(j:p≤8)(g:l<p)(h:P<p):ri b wd c d co pa sl e pl f r (p,l,P)=rj b wd c d co pa sl e pl f r (p,l,P):=by
 have a:=SR g h;have i:p=1∨p=2∨p=3∨p=4∨p=5∨p=6∨p=7∨p=8:=by omega
 rcases i with rfl|rfl|rfl|rfl|rfl|rfl|rfl|rfl
 ·exact gR (ag4 ..) a
 ·exact gR (ag5 ..) a
 ·exact gR (ag6 ..) a
 ·exact gR (ag7 ..) a
 ·exact gR (ag8 ..) a
 ·exact gR (ag9 ..) a
 ·exact gR (aha ..) a
 ·exact gR (ahb ..) a
end
section
open Go.ay
variable [aR][aG][bl]
def wA(X:U 64)(c:Int)(a:U 64):(rf X c a).n=X.n:=by kernel_rfl
def LF{c:Int}{X:U 64}{n:Nat}{co:Int}(h:0≤c∧c<co)(a:(n:Int)=co)(b:X.n=n*128):Di c X=true:=by
 refine bu ?_;unfold dM;omega
def GB{r:Nat→U 64}{l:Nat}{X:U 64}(h:X.n=(r l).n)(i:Nat):(upd r l X i).n=(r i).n:=by
 unfold upd;split
 ·rename_i a;rw[qz a];exact h
 ·rfl
def LG{co sl pl:Int}(h2:8≤co∧co≤256∧co.tdiv 4*4=co)(h4:0≤sl∧sl≤3)(b:0≤pl∧pl<co.tdiv 4):0≤cJ sl (co.tdiv 4) pl∧cJ sl (co.tdiv 4) pl<co∧0≤sl*co.tdiv 4∧sl*co.tdiv 4≤256∧(sl≠0→2≤cJ sl (co.tdiv 4) pl)∧(sl=0→cJ sl (co.tdiv 4) pl=pl):=by
 unfold cJ;have a:sl=0∨sl=1∨sl=2∨sl=3:=by omega
 rcases a with rfl|rfl|rfl|rfl<;>omega
section
variable{p P:Nat}{kd ps co Q sl R pl:Int}{S:Nat→Nat}{r:Nat→U 64}
def LH{b c:Bool}(h2:8≤co∧co≤256∧co.tdiv 4*4=co)(h4:0≤sl∧sl≤3)(g:R=co.tdiv 4)(f:0≤pl∧pl<R)(h:(Q==0)=b)(i:b=true→decide (cJ sl R pl<2)=c):∀d∈yx co Q sl R pl b c,d=true:=by
 subst g;obtain⟨j,k,l,m,_,_⟩:=LG h2 h4 f;intro d a;unfold yx at a;rcases fQ.1 a with a|a
 ·cases b with|true=>exact aA (by rw[eT];exact i rfl) aX d a|false=>cases a
 ·have e:((Q==0)==b)=true:=by rw[eT];exact h
  exact aA e (aA e (aA e (aA (ia (by omega)) (aA (ia (by omega)) (aA (by rw[eT];exact bu f.2) aX))))) d a
def ahh(X:U 64)(co a:Int):(lD X co a).n=128:=by
 show((List.range 128).map _).length=128;rw[mA,Bp]
def ahi(t:p≤8)(d:P<p)(h2:8≤co∧co≤256∧co.tdiv 4*4=co)(o:R=co.tdiv 4)(h3:0≤Q∧Q≤3)(h4:0≤sl∧sl≤3)(a:0≤pl∧pl<R)(e:Q=0→sl=0→2≤pl)(f:∀i,i<p→(S i:Int)=co)(g:∀i,i<p→(r i).n=S i*128):
 gS p P kd ps co Q sl R pl r<p∧∀q∈Gz c9 p P (gS p P kd ps co Q sl R pl r) kd ps co Q sl R pl S r,q=true:=by
 subst o;obtain⟨u,v,x,y,_,_⟩:=LG h2 h4 a;have s:=SU (w:=c9 kd ps p co Q P sl pl (lD (r P) co (cJ sl (co.tdiv 4) pl))) (la:=(p:Int)) (pa:=Q) (ln:=(P:Int)) (sl:=sl) ⟨by omega,by omega⟩ ⟨by omega,by omega⟩;have h:((gS p P kd ps co Q sl (co.tdiv 4) pl r:Nat):Int)=jV (c9 kd ps p co Q P sl pl (lD (r P) co (cJ sl (co.tdiv 4) pl))) p Q P sl:=D9 s.1;have b:gS p P kd ps co Q sl (co.tdiv 4) pl r<p:=by omega
 have j:=SW (w:=c9 kd ps p co Q P sl pl (lD (r P) co (cJ sl (co.tdiv 4) pl))) (la:=(p:Int)) (ln:=(P:Int)) h2 h3.1 h4 a e;have k:0≤wz co (cJ sl (co.tdiv 4) pl)∧wz co (cJ sl (co.tdiv 4) pl)<co:=by
  unfold wz;rw[oB (by omega)];exact⟨VZ _ (by omega),an6 _ (by omega)⟩
 refine⟨b,?_⟩;generalize z:gS p P kd ps co Q sl (co.tdiv 4) pl r=c at b h;have l:=f c b;have m:=f P d;refine aA rfl (aA (LF j l (g c b)) (aA (yu (by rw[l];exact j)) (aA ?_ (aA (LF k m (g P d)) (aA (yu (by rw[m];exact k)) (aA (bu (by omega)) (aA (ia (by omega)) (aA (ia (by omega)) aX))))))))
 show((jj.aT ⟨kd,ps,p,co,Q,P,sl,pl,lD (r P) co (cJ sl (co.tdiv 4) pl)⟩&&Nat.beq (lD (r P) co (cJ sl (co.tdiv 4) pl)).n 128)&&decide (_=(c:Int)))=true;rw[dI,dI];exact⟨⟨bu ⟨by omega,by omega,h2.1,h2.2.1,h2.2.2,h3.1,h3.2,h4.1,h4.2,by omega,by omega,a.1,a.2,e⟩,by rw[ahh];rfl⟩,bu h.symm⟩
end
def ahj{p P:Nat}(u:p≤8)(e:P<p):eF Tryz.prog bB (an 21) (bS Tryz.prog 21) (bh Tryz.prog 21 0) (mg p P).T.told:=by
 have L:=Gv u e;have M:∀d:oe,((mg p P).az d).2.length=p+2:=yz p P;refine(mg p P).jT (iz SQ (agS u e _) 21 0 JS (by rw[show(cI Tryz.prog 21).length=2 by kernel_rfl];omega)) (by intro k D;have D:k∈([]:List ah):=D;cases D) (by intro h;cases h) (ahe p P) ?_ ?_
 ·rintro⟨kd,ps,co,Q,sl,R,pl,S,r⟩ E z v;have z:GA p P ⟨kd,ps,co,Q,sl,R,pl,S,r⟩:=@bg _ (Classical.propDecidable _) z;have v:(R-pl).toNat=E+1:=v;obtain⟨j,f,A,bf,F,m,w⟩:=z;have j:8≤co∧co≤256∧co.tdiv 4*4=co:=j;have f:R=co.tdiv 4:=f;have A:0≤Q∧Q≤3:=A;have bf:0≤sl∧sl≤3:=bf;have F:0≤pl∧pl≤R:=F;have m:∀i,i<p→(S i:Int)=co:=m;have w:∀i,i<p→(r i).n=S i*128:=w;have x:0≤pl∧pl<R:=⟨F.1,by omega⟩;obtain⟨B,C,ag,ai,aa,N⟩:=LG j bf (f▸x);rw[←f]at B C aa N;have ab:(mg p P).next ⟨kd,ps,co,Q,sl,R,pl,S,r⟩=ic p P ⟨kd,ps,co,Q,sl,R,pl,S,r⟩:=rfl;have H:∀q,(∀i,(q i).n=(r i).n)→(mg p P).aT ⟨kd,ps,co,Q,sl,R,pl+1,S,q⟩=true:=fun q h=>@bu _ (Classical.propDecidable _) (show GA p P _ from⟨j,f,A,bf,⟨by show 0≤pl+1;omega,by show pl+1≤R;omega⟩,m,fun i hi=>(h i).trans (w i hi)⟩);have I:∀q,(mg p P).rem ⟨kd,ps,co,Q,sl,R,pl+1,S,q⟩=E:=fun q=>by show(R-(pl+1)).toNat=E;omega
  have J:((mg p P).az ⟨kd,ps,co,Q,sl,R,pl,S,r⟩).2.length-(mg p P).cH.length=p+2:=(gE _).trans (yz p P _);rw[ab,J];by_cases o:Q=0∧cJ sl R pl<2
  ·have y:ic p P ⟨kd,ps,co,Q,sl,R,pl,S,r⟩=⟨kd,ps,co,Q,sl,R,pl+1,S,r⟩:=ax o;rw[y];have b:=gR (agV bz c9 kd ps co Q sl R pl S r) L;dsimp only at b;refine⟨⟨(bt 5 31),some (List.range (p+2)),gv (pl+1)::yx co Q sl R pl true true,b,?_⟩,H r fun _=>rfl,I r,(yz ..).trans (yz ..).symm⟩;exact aA (ia (by omega)) (LH j bf f x (by simp[o.1]) fun _=>bu o.2)
  ·have ad:Q=0→sl=0→2≤pl:=fun h ae=>by
    have:=N ae;rcases Int.lt_or_le (cJ sl R pl) 2 with g|g
    ·exact absurd ⟨h,g⟩ o
    ·omega
   obtain⟨O,V⟩:=ahi (kd:=kd) (ps:=ps) u e j f A bf x ad m w;have K:=LF (X:=r P) ⟨B,C⟩ (m P e) (w P e);have W:=yu (c:=cJ sl R pl) (n:=S P) ⟨B,by rw[m P e];exact C⟩;by_cases s:Q=0
   ·have y:ic p P ⟨kd,ps,co,Q,sl,R,pl,S,r⟩=AL bz c9 kd ps co Q sl R pl S r p P (gS p P kd ps co Q sl R pl r):=(ak o).trans (ax s);rw[y];have b:sI bz c9 kd ps co Q sl R pl S r (p,P,gS p P kd ps co Q sl R pl r)=sJ bz c9 kd ps co Q sl R pl S r (p,P,gS p P kd ps co Q sl R pl r):=ahf bz c9 kd ps co Q sl R pl S r u e O;refine⟨⟨_,_,_,b,?_⟩,H _ fun i=>GB (wA ..) i,I _,(yz p P (AL ..)).trans (yz ..).symm⟩;intro l a;rcases fQ.1 a with a|a
    ·exact aA (ia (by omega)) (aA K (aA W (aA (by simp[s]) aX))) l a
    ·rcases fQ.1 a with a|a
     ·exact V l a
     ·exact LH j bf f x (by simp[s]) (fun _=>j4 fun h=>o ⟨s,h⟩) l a
   ·have y:ic p P ⟨kd,ps,co,Q,sl,R,pl,S,r⟩=Dj P (pi bz c9 p P (gS p P kd ps co Q sl R pl r) kd ps co Q sl R pl S r):=((ak o).trans (ak s)).trans (LD ..).symm;rw[y];have b:ri bz c9 kd ps co Q sl R pl S r (p,P,gS p P kd ps co Q sl R pl r)=rj bz c9 kd ps co Q sl R pl S r (p,P,gS p P kd ps co Q sl R pl r):=ahg bz c9 kd ps co Q sl R pl S r u e O;have af:=LC P (128-(0:Int)).toNat (yy bz c9 p P (gS p P kd ps co Q sl R pl r) kd ps co Q sl R pl S r);have t:SX (yy bz c9 p P (gS p P kd ps co Q sl R pl r) kd ps co Q sl R pl S r) (pi bz c9 p P (gS p P kd ps co Q sl R pl r) kd ps co Q sl R pl S r):=af;have Y:(yy bz c9 p P (gS p P kd ps co Q sl R pl r) kd ps co Q sl R pl S r).Z.n=128:=ya _;refine⟨⟨(bt 4 1)++(List.replicate (gS p P kd ps co Q sl R pl r) false++[true,true]),some (List.range (p+2)),SS P (pi bz c9 p P (gS p P kd ps co Q sl R pl r) kd ps co Q sl R pl S r)++([(oc p P).aT (yy bz c9 p P (gS p P kd ps co Q sl R pl r) kd ps co Q sl R pl S r),decide ((0:Int)<Q)==true]++(Gz c9 p P (gS p P kd ps co Q sl R pl r) kd ps co Q sl R pl S r++yx co Q sl R pl false false)),?_,?_⟩,?_,?_,?_⟩
    ·delta ri rj at b;dsimp only at b;exact b
    ·intro l a;rcases fQ.1 a with a|a
     ·refine aA (ia ?_) (aA ?_ (aA ?_ (aA (bu ?_) aX))) l a
      ·rw[t.pl];show -9000000000≤pl+1∧pl+1≤9000000000;omega
      ·rw[t.kn,t.r];exact K
      ·rw[t.kn,t.nn];exact W
      ·rw[t.n,Y];omega
     rcases fQ.1 a with a|a
     ·refine aA ?_ (aA ?_ aX) l a
      ·refine bu ⟨by omega,by omega,B,by rw[m P e];exact C,?_,Y⟩;have:=K;exact bg this
      ·have:0<Q:=by omega
       simp[this]
     rcases fQ.1 a with a|a
     ·exact V l a
     ·exact LH j bf f x (by simp[s]) (fun h=>by cases h) l a
    ·rw[LD];exact H _ fun i=>GB (wA ..) i
    ·rw[LD];exact I _
    ·exact(M _).trans (M _).symm
 ·rintro⟨kd,ps,co,Q,sl,R,pl,S,r⟩ z v;have v:(R-pl).toNat=0:=v;have J:((mg p P).az ⟨kd,ps,co,Q,sl,R,pl,S,r⟩).2.length-(mg p P).cH.length=p+2:=(gE _).trans (yz p P _);rw[J];have b:=gR (ahd bz c9 kd ps co Q sl R pl S r) L;dsimp only at b;refine⟨[false],none,[decide (pl<R)==false],b,?_⟩;exact aA (by rw[eT];exact j4 (by omega)) aX
end
section
open Go.ay
variable [aR][aG][bl]
variable{p lane i:Nat}
def AM(p lane:Nat):FuncId→Nat→Option cP|21,2=>some (mg p lane).T.told|21,11=>some (oc p lane).T.told|_,_=>none
def ahk(c:p≤8)(d:lane<p)(spec:FuncId→Option ay.Spec):c6 (dh spec (AM p lane)) bB:=by
 refine c6.of fun f=>?_;by_cases a:f=21
 ·subst a;refine .inr ⟨by kernel_rfl,fun i hi h e=>?_⟩;have hi:i<(cI Tryz.prog 21).length:=hi;rw[show(cI Tryz.prog 21).length=2 by kernel_rfl]at hi;have g:i=0∨i=1:=by omega
  rcases g with rfl|rfl
  ·have b:(bY (bh Tryz.prog 21 0)).bind (AM p lane 21)=some (mg p lane).T.told:=by kernel_rfl
   obtain rfl:=dV (b.symm.trans e);exact(ahj c d).run
  ·have b:(bY (bh Tryz.prog 21 1)).bind (AM p lane 21)=some (oc p lane).T.told:=by kernel_rfl
   obtain rfl:=dV (b.symm.trans e);exact(SO c d).run
 ·refine .inl fun r=>?_
  show AM p lane f r=none;unfold AM;split
  ·exact absurd rfl a
  ·exact absurd rfl a
  ·rfl
structure wB where
 (kd ps co pa sl:Int)(nn:Nat→Nat)(r:Nat→U 64)
structure GS(p lane:Nat)(d:wB):Prop where
 co:8≤d.co∧d.co≤256∧d.co.tdiv 4*4=d.co
 pa:0≤d.pa∧d.pa≤3
 sl:0≤d.sl∧d.sl≤3
 nn:∀i,i<p→(d.nn i:Int)=d.co
 r:∀i,i<p→(d.r i).n=d.nn i*128
def LI:Nat→Nat→(Nat→Nat)→List Nat|0,_,_=>[]|n+1,i,a=>a i::LI n (i+1) a
def LJ:Nat→Nat→(Nat→U 64)→List (U 64)|0,_,_=>[]|n+1,i,r=>r i::LJ n (i+1) r
def c7(p:Nat)(a:Nat→Nat):Nat→Nat:=fun j=>(LI p 0 a).getD j 0
def fz(p:Nat)(r:Nat→U 64):Nat→U 64:=fun j=>(LJ p 0 r).getD j (U.zero 64 0)
def SY:∀(n i:Nat) (a:Nat→Nat) (j:Nat),j<n→(LI n i a).getD j 0=a (i+j)
 |n+1,i,a,0,_=>rfl|n+1,i,a,j+1,h=>by
  have:=SY n (i+1) a j (by omega);rw[show i+(j+1)=i+1+j by omega];exact this
def SZ:∀(n i:Nat) (r:Nat→U 64) (j:Nat),j<n→(LJ n i r).getD j (U.zero 64 0)=r (i+j)
 |n+1,i,r,0,_=>rfl|n+1,i,r,j+1,h=>by
  have:=SZ n (i+1) r j (by omega);rw[show i+(j+1)=i+1+j by omega];exact this
def wC(a:Nat→Nat)(h:i<p):c7 p a i=a i:=(SY p 0 a i h).trans (by rw[cM])
def m0(r:Nat→U 64)(h:i<p):fz p r i=r i:=(SZ p 0 r i h).trans (by rw[cM])
def ue(p lane:Nat)(d:wB):oe:=iter (ic p lane) (d.co.tdiv 4-0).toNat ⟨d.kd,d.ps,d.co,d.pa,d.sl,d.co.tdiv 4,0,d.nn,d.r⟩
open Classical in
def pn(p lane:Nat):bV wB where
 d0:=⟨0,0,0,0,0,fun _=>0,fun _=>0⟩
 read:=fun a b=>
  match a with
  |[.ref (.ptr 0 (.c 0)),.num (.int .i64 (.s e)),.num (.int .i64 (.c f)),.num (.int .i64 (.s sl))]=>
   match kK f (lane:Int)with
   |true=>
    match Dg p b with
    |some ((g,h,co),j,r,T)=>
     match T with
     |[]=>some ⟨g,h,co,e,sl,j,r⟩|_=>none
    |none=>none
   |false=>none
  |_=>none
 args:=fun d=>[.P 0,.au d.pa,.J (lane:Int),.au d.sl]
 heap:=fun d=>qc p d.kd d.ps d.co d.nn d.r []
 out:=fun d=>qc p d.kd d.ps d.co d.nn (ue p lane ⟨d.kd,d.ps,d.co,d.pa,d.sl,c7 p d.nn,fz p d.r⟩).r []
 val:=fun _=>.obj .bA []
 aT:=fun d=>decide (GS p lane d)
def ahl(p lane:Nat)(a:List af)(c:List ah)(d:wB)(h:(pn p lane).read a c=some d):a=(pn p lane).args d∧c=(pn p lane).heap d:=by
 unfold pn at h;dsimp only at h;split at h
 case h_2=>cases h
 split at h
 case h_2=>cases h
 rename_i b;rw[nv]at b;simp only[eT]at b;subst b;split at h
 case h_2=>cases h
 rename_i e;split at h
 case h_2=>cases h
 cases h;exact⟨rfl,Ly e⟩
structure S0(d e:oe):Prop where
 kd:e.kd=d.kd
 ps:e.ps=d.ps
 co:e.co=d.co
 nn:e.nn=d.nn
 n:∀i,(e.r i).n=(d.r i).n
def S1(p lane:Nat):∀m (d:oe),S0 d (iter (ic p lane) m d)
 |0,d=>⟨rfl,rfl,rfl,rfl,fun _=>rfl⟩|m+1,⟨b,c,co,e,sl,f,pl,g,r⟩=>by
  obtain⟨h1,h2,h3,h4,h⟩:=S1 p lane m (ic p lane ⟨b,c,co,e,sl,f,pl,g,r⟩);have a:S0 ⟨b,c,co,e,sl,f,pl,g,r⟩ (ic p lane ⟨b,c,co,e,sl,f,pl,g,r⟩):=by
   unfold ic;dsimp only;split
   ·exact⟨rfl,rfl,rfl,rfl,fun _=>rfl⟩
   ·split
    ·exact⟨rfl,rfl,rfl,rfl,fun i=>GB (wA ..) i⟩
    ·exact⟨rfl,rfl,rfl,rfl,fun i=>GB (wA ..) i⟩
  exact⟨h1.trans a.kd,h2.trans a.ps,h3.trans a.co,h4.trans a.nn,fun i=>(h i).trans (a.n i)⟩
def ahm(e:U 64→U 64→U 64)(wd:kZ)(a b co d sl:Int)(c:Nat→Nat)(r:Nat→U 64):
 me.map (fun q=>qS (q.1+2) (some (List.range (q.1+2))) (qc q.1 a b co c (ue q.1 q.2 ⟨a,b,co,d,sl,c7 q.1 c,fz q.1 r⟩).r []) (.obj .bA []) (b9 (yw e wd) (AM q.1 q.2) 21 ((pn q.1 q.2).args ⟨a,b,co,d,sl,c,r⟩) ⟨qc q.1 a b co c r [],bQ,[],[]⟩))=
  me.map fun q=>some (qc q.1 a b co c (ue q.1 q.2 ⟨a,b,co,d,sl,c7 q.1 c,fz q.1 r⟩).r [],.obj .bA [],[(mg q.1 q.2).aT ⟨a,b,co,d,sl,co.tdiv 4,0,c7 q.1 c,fz q.1 r⟩,decide ((0:Int)≤co∧(0:Int)<4∧co≤9223372036854775807)]):=by kernel_rfl
def ahn(g:p≤8)(h:lane<p):br 21 (pn p lane).spec:=by
 refine(pn p lane).ok (dn SQ (ahk g h _)) (ahl p lane) ?_;rintro⟨b,c,co,d,sl,a,r⟩ e;have e:GS p lane ⟨b,c,co,d,sl,a,r⟩:=@bg _ (Classical.propDecidable _) e;obtain⟨f,k,bf,l,m⟩:=e;have j:=gR (ahm bz c9 b c co d sl a r) (Gv g h);dsimp only at j;have o:((pn p lane).heap ⟨b,c,co,d,sl,a,r⟩).length=p+2:=LB ..;rw[o];have f:8≤co∧co≤256∧co.tdiv 4*4=co:=f;refine⟨_,_,_,j,aA (@bu _ (Classical.propDecidable _) (show GA p lane _ from⟨f,rfl,k,bf,⟨rM 0,by show 0≤co.tdiv 4;omega⟩,fun i hi=>by show(c7 p a i:Int)=co;rw[wC a hi];exact l i hi,fun i hi=>by show(fz p r i).n=c7 p a i*128;rw[wC a hi,m0 r hi];exact m i hi⟩)) (aA (bu (by omega)) aX)⟩
end
section
open Go.ay
variable [aR][aG][bl]
def aho(X b:U 64)(a i:Nat)(h:a+b.n≤X.n):aL (X.over a b) i=if a≤i∧i<a+b.n then aL b (i-a)else aL X i:=by
 have c:=X.h;have d:=b.h
 show(rN X.l a b.l).getD i 0#64=_;unfold aL;rw[xG _ _ _ (by omega)];unfold over;simp only[dY];rcases cu i a with h1|h1
 ·rw[ak (by omega),y5,gV (by simp;omega),lM,ax h1]
 ·rcases cu i (a+b.n)with h2|h2
  ·rw[ax ⟨h1,h2⟩,y5,gL (by simp;omega),gV (by simp;omega)];congr 2;simp;omega
  ·rw[ak (by omega),gL (by simp;omega),s8];congr 2;simp;omega
def GC(c:Int):dM c=c.toNat*128:=cM _
def AN{X:U 64}{c:Int}(b:U 64)(h:dM c+128≤X.n)(a:Nat):aL (rf X c b) a=if dM c≤a∧a<dM c+128 then aL b (a-dM c)else aL X a:=by
 have e:aL (rf X c b) a=if dM c≤a∧a<dM c+(di b).n then aL (di b) (a-dM c)else aL X a:=aho X (di b) (dM c) a (by rw[ya];exact h)
 rw[e,ya];by_cases d:dM c≤a∧a<dM c+128
 ·rw[ax d,ax d,Aw _ (by omega)]
 ·rw[ak d,ak d]
def S2(d:Nat)(e f co g sl i pl b:Int)(j:Nat→Nat)(r:Nat→U 64)(Z:U 64)(l:Z.n=128):∀k,k≤128→∃a,iter (yt d) k ⟨e,f,co,g,sl,i,pl,b,j,r,Z,0⟩=⟨e,f,co,g,sl,i,pl,b,j,r,a,(k:Int)⟩∧a.n=128∧∀n,aL a n=if n<k then aL Z n^^^aL (r d) (dM b+n)else aL Z n
 |0,_=>⟨Z,rfl,l,fun n=>by rw[ak (by omega)]⟩|k+1,s=>by
  obtain⟨a,p,h,m⟩:=S2 d e f co g sl i pl b j r Z l k (by omega);refine⟨AJ (r d) b a k,by rw[gG,p];rfl,h,fun n=>?_⟩;have q:aL (AJ (r d) b a k) n=if n=0+k*1 then aL a (0+k*1)^^^aL (r d) (dM b+k*1)else aL a n:=nU _ n (by show 0+k*1<_;omega)
  rw[q];by_cases c:n=0+k*1
  ·rw[ax c,m,ak (by omega),ax (by omega),c,cM]
  ·rw[ak c,m n];by_cases o:n<k
   ·rw[ax o,ax (by omega)]
   ·rw[ak o,ak (by omega)]
def ahp(p b:Nat)(f g co d sl a pl:Int)(j:Nat→Nat)(r:Nat→U 64)(h:dM (cJ sl a pl)+128≤(r b).n)(l:¬(d=0∧cJ sl a pl<2)):
 ∃k,ic p b ⟨f,g,co,d,sl,a,pl,j,r⟩=⟨f,g,co,d,sl,a,pl+1,j,upd r b k⟩∧k.n=(r b).n∧∀e,aL k e=if dM (cJ sl a pl)≤e∧e<dM (cJ sl a pl)+128 then
  (if d=0 then 0#64 else aL (r b) e)^^^aL (bz (lD (r b) co (cJ sl a pl)) (rowAt (r (gS p b f g co d sl a pl r)) (dM (Dh c9 p b f g co d sl a pl r)))) (e-dM (cJ sl a pl))else aL (r b) e:=by
 by_cases c:d=0
 ·refine⟨rf (r b) (cJ sl a pl) (AK bz c9 p b (gS p b f g co d sl a pl r) f g co d sl a pl r),?_,wA _ _ _,fun e=>?_⟩
  ·show(if d=0∧cJ sl a pl<2 then _ else if d=0 then _ else _)=_;rw[ak l,ax c];delta AL;rfl
  ·rw[AN _ h];by_cases i:dM (cJ sl a pl)≤e∧e<dM (cJ sl a pl)+128
   ·rw[ax i,ax i,ax c,BitVec.zero_xor];delta AK;rfl
   ·rw[ak i,ak i]
 ·obtain⟨m,q,v,s⟩:=S2 b f g co d sl a pl (cJ sl a pl) j r (di (AK bz c9 p b (gS p b f g co d sl a pl r) f g co d sl a pl r)) (ya _) 128 (aV _);have t:(pi bz c9 p b (gS p b f g co d sl a pl r) f g co d sl a pl j r).Z=m:=by
   have u:pi bz c9 p b (gS p b f g co d sl a pl r) f g co d sl a pl j r=_:=q;rw[u]
  refine⟨rf (r b) (cJ sl a pl) m,?_,wA _ _ _,fun e=>?_⟩
  ·show(if d=0∧cJ sl a pl<2 then _ else if d=0 then _ else _)=_;rw[ak l,ak c,t]
  ·rw[AN _ h];by_cases i:dM (cJ sl a pl)≤e∧e<dM (cJ sl a pl)+128
   ·have o:e-dM (cJ sl a pl)<128:=by omega
    rw[ax i,ax i,ak c,s,ax o,Aw _ o,show dM (cJ sl a pl)+(e-dM (cJ sl a pl))=e by omega,H8];delta AK;rfl
   ·rw[ak i,ak i]
def S3(p f:Nat)(c d co a sl b pl:Int)(e:Nat→Nat)(r:Nat→U 64)(g:a=0∧cJ sl b pl<2):ic p f ⟨c,d,co,a,sl,b,pl,e,r⟩=⟨c,d,co,a,sl,b,pl+1,e,r⟩:=by
 show(if a=0∧cJ sl b pl<2 then _ else if a=0 then _ else _)=_;rw[ax g]
end
section
open Go.ay
variable{x:BitVec 64}{p n sl k:BitVec 32}
def S4(x:BitVec 64):((((x&&&4294967295#64)*(x&&&4294967295#64))>>>32:BitVec 64)).toNat<4294967296:=by
 rw[yY,wU];have:=((x&&&4294967295#64)*(x&&&4294967295#64)).isLt;omega
def S5(a m:BitVec 64)(b:a.toNat<4294967296)(h1:1≤m.toNat)(h2:m.toNat<65536):((a*m)>>>32:BitVec 64).toNat<m.toNat:=by
 rw[yY,wU,iE];have h3:a.toNat*m.toNat<4294967296*m.toNat:=Nat.mul_lt_mul_of_pos_right b (by omega);rw[dO (by omega)];exact Bt (by show _<4294967296*m.toNat;exact h3)
def S6(x m b:BitVec 64)(c a:BitVec 32)(h1:1≤m.toNat)(h2:m.toNat<65536)(q:b.toNat<65536)(r:1≤a.toNat)(s:a.toNat<65536)(u:c.toNat*a.toNat+a.toNat≤4294967296):
 ∃t,t<m.toNat∧(gH x m b c a).toNat=c.toNat*a.toNat+(b.toNat+t)%a.toNat:=by
 have d:=S5 _ m (S4 x) h1 h2;unfold gH;generalize((x&&&4294967295#64)*(x&&&4294967295#64))>>>32=e at d⊢;generalize((e*m)>>>32:BitVec 64)=z at d⊢;refine⟨m.toNat-1-z.toNat,by omega,?_⟩;have f:(1#64).toNat=1:=rfl;have g:(b+m-(z+1#64)).toNat=b.toNat+(m.toNat-1-z.toNat):=by
  have h:(z+1#64).toNat=z.toNat+1:=by rw[eB,f];omega
  have i:(b+m).toNat=b.toNat+m.toNat:=by rw[eB];omega
  rw[kG,h,i];omega
 have j:(a.setWidth 64).toNat=a.toNat:=by rw[kH];omega
 have v:=qv (b.toNat+(m.toNat-1-z.toNat)) (show 0<a.toNat by omega);have l:(((b+m-(z+1#64))%a.setWidth 64).setWidth 32).toNat=(b.toNat+(m.toNat-1-z.toNat))%a.toNat:=by
  rw[kH,oy,g,j];exact dO (by omega)
 have o:(c*a).toNat=c.toNat*a.toNat:=by rw[iE];exact dO (by omega)
 rw[eB,l,o];exact dO (by omega)
def ahq(x m c:BitVec 64)(b a:BitVec 32)(h:1≤a.toNat)(i:b.toNat*a.toNat+a.toNat≤4294967296):
 ∃r,r<a.toNat∧(gH x m c b a).toNat=b.toNat*a.toNat+r:=by
 unfold gH;generalize c+m-((((x&&&4294967295#64)*(x&&&4294967295#64))>>>32*m)>>>32+1#64)=v;have j:=a.isLt;have d:(a.setWidth 64).toNat=a.toNat:=by rw[kH];omega
 have e:=qv v.toNat (show 0<a.toNat by omega);refine⟨v.toNat%a.toNat,e,?_⟩;have f:((v%a.setWidth 64).setWidth 32).toNat=v.toNat%a.toNat:=by
  rw[kH,oy,d];exact dO (by omega)
 have g:(b*a).toNat=b.toNat*a.toNat:=by rw[iE];exact dO (by omega)
 rw[eB,f,g];exact dO (by omega)
def ahr(b:1≤p.toNat)(a:k.toNat<p.toNat):(eG x p n sl k).toNat<p.toNat:=by
 unfold eG;split
 ·exact a
 ·rw[oy];exact qv _ (by omega)
def ahs{z:Nat}(h1:6≤z)(h2:z≤192):1≤((2^32-1+z)%2^32)%2^64∧((2^32-1+z)%2^32)%2^64≤z:=by omega
def S7{ln aB ix:BitVec 32}(w:1≤p.toNat)(y:k.toNat<p.toNat)(N:sl.toNat<4)(O:ix.toNat<aB.toNat)(h2:2≤aB.toNat)(P:aB.toNat≤64)(A:ln.toNat=4*aB.toNat)(Q:p.toNat*ln.toNat≤65536):
 ∃c r,c<p.toNat∧r<ln.toNat∧(cq x ln aB p n sl k ix).toNat=c*ln.toNat+r∧(c=k.toNat∨r/aB.toNat≠sl.toNat):=by
 have j:=ahr (x:=x) (n:=n) (sl:=sl) w y;have B:((eG x p n sl k).toNat+1)*ln.toNat≤p.toNat*ln.toNat:=fP _ (by omega);rw[jL]at B;unfold cq;by_cases f:k=eG x p n sl k
 ·obtain⟨r,C,D⟩:=ahq x ((if ix=0#32∨k=eG x p n sl k then gm aB n sl k ix (eG x p n sl k)-1#32 else gm aB n sl k ix (eG x p n sl k)).setWidth 64) ((if n=0#32 then 0#32 else((sl+1#32)%4#32)*aB).setWidth 64) (eG x p n sl k) ln (by omega) (by omega);exact⟨_,r,j,C,D,.inl (by rw[←f])⟩
 ·have E:¬(n=0#32∧sl=0#32):=fun h=>f (by unfold eG;rw[ax h]);generalize R:eG x p n sl k=c at *;have l:(1#32).toNat=1:=rfl;have F:(3#32).toNat=3:=rfl;have T:=aB.isLt;by_cases d:n=0#32
  ·have s:sl≠0#32:=fun a=>E ⟨d,a⟩;have H:1≤sl.toNat:=by
    rcases qx sl.toNat with a|a
    ·exact absurd (mo a) s
    ·exact a
   have m:gm aB n sl k ix c=sl*aB:=by unfold gm;rw[ax d,ak (fun h=>h.elim s f)]
   have U:sl.toNat*aB.toNat≤3*aB.toNat:=fP _ (by omega);have V:1*aB.toNat≤sl.toNat*aB.toNat:=fP _ H;have e:(sl*aB).toNat=sl.toNat*aB.toNat:=by rw[iE];exact dO (by omega)
   rw[m,ax d];have o:∀b:BitVec 32,(b=sl*aB-1#32∨b=sl*aB)→1≤(b.setWidth 64).toNat∧(b.setWidth 64).toNat≤sl.toNat*aB.toNat:=by
    rintro b (rfl|rfl)
    ·rw[kH,kG,e,l];omega
    ·rw[kH,e];omega
   have q:=o (if ix=0#32∨k=c then sl*aB-1#32 else sl*aB) (by split<;>simp);obtain⟨t,I,i⟩:=S6 x ((if ix=0#32∨k=c then sl*aB-1#32 else sl*aB).setWidth 64) ((0#32:BitVec 32).setWidth 64) c ln q.1 (by omega) (by decide) (by omega) (by omega) (by omega);refine⟨c.toNat,t,j,by omega,?_,.inr fun a=>?_⟩
   ·rw[i];have:((0#32:BitVec 32).setWidth 64).toNat=0:=rfl;rw[this,cM,dO (by omega)]
   ·have:t/aB.toNat<sl.toNat:=Bt (by rw[gW];omega);omega
  ·have m:gm aB n sl k ix c=3#32*aB:=by unfold gm;rw[ak d,ak f]
   have e:(3#32*aB).toNat=3*aB.toNat:=by rw[iE,F];exact dO (by omega)
   rw[m,ak d];have o:∀b:BitVec 32,(b=3#32*aB-1#32∨b=3#32*aB)→1≤(b.setWidth 64).toNat∧(b.setWidth 64).toNat≤3*aB.toNat:=by
    rintro b (rfl|rfl)
    ·have u:6≤3*aB.toNat∧3*aB.toNat≤192:=by omega
     rw[kH,kG,e,l];exact ahs u.1 u.2
    ·rw[kH,e];constructor<;>omega
   have q:=o (if ix=0#32∨k=c then 3#32*aB-1#32 else 3#32*aB) (by split<;>simp);have J:((sl+1#32)%4#32).toNat=(sl.toNat+1)%4:=by
    rw[oy,eB,l,show(4#32).toNat=4 from rfl];omega
   have W:(sl.toNat+1)%4<4:=qv _ (by decide);have K:((sl.toNat+1)%4)*aB.toNat≤3*aB.toNat:=fP _ (by omega);have v:((((sl+1#32)%4#32)*aB).setWidth 64).toNat=((sl.toNat+1)%4)*aB.toNat:=by
    rw[kH,iE,J];have L:=K;generalize((sl.toNat+1)%4)*aB.toNat=z at L⊢;omega
   obtain⟨t,I,i⟩:=S6 x ((if ix=0#32∨k=c then 3#32*aB-1#32 else 3#32*aB).setWidth 64) ((((sl+1#32)%4#32)*aB).setWidth 64) c ln q.1 (by omega) (by rw[v];omega) (by omega) (by omega) (by omega);rw[v]at i;refine⟨c.toNat,_,j,qv _ (by omega),i,.inr fun a=>?_⟩;rw[A]at a;have X:t<3*aB.toNat:=by omega
   have Y:=Nat.div_add_mod (((sl.toNat+1)%4)*aB.toNat+t) (4*aB.toNat);generalize Z:aB.toNat=S at *;have M:sl.toNat=0∨sl.toNat=1∨sl.toNat=2∨sl.toNat=3:=by omega
   rcases M with h|h|h|h<;>rw[h]at a<;>simp only[Nat.reduceAdd,Nat.reduceMod,Nat.one_mul,wZ,cM]at a
   ·rw[dO (by omega)]at a;have:1≤(S+t)/S:=(Bs (by omega)).2 (by omega);omega
   ·rcases cu (2*S+t) (4*S)with g|g
    ·rw[dO g]at a;have:2≤(2*S+t)/S:=(Bs (by omega)).2 (by omega);omega
    ·rw[V7 g,dO (by omega)]at a;have:(2*S+t-4*S)/S<1:=Bt (by omega);omega
   ·rcases cu (3*S+t) (4*S)with g|g
    ·rw[dO g]at a;have:3≤(3*S+t)/S:=(Bs (by omega)).2 (by omega);omega
    ·rw[V7 g,dO (by omega)]at a;have:(3*S+t-4*S)/S<2:=Bt (by omega);omega
   ·rw[dO (by omega)]at a;have:t/S<3:=Bt (by omega);omega
end
section
open Go.ay
theorem aht(x m Q:BitVec 64)(a S:BitVec 32)(h1:1≤m.toNat)(h2:m.toNat<65536)(Z:Q.toNat<65536)(o:1≤S.toNat)(r:S.toNat<65536)(s:a.toNat*S.toNat+S.toNat≤4294967296):
 pe (x&&&4294967295#64) (m.toNat:Int)<m.toNat∧(gH x m Q a S).toNat=a.toNat*S.toNat+(Q.toNat+(m.toNat-1-pe (x&&&4294967295#64) (m.toNat:Int)))%S.toNat:=by
 have b:=S5 _ m (S4 x) h1 h2;have c:pe (x&&&4294967295#64) (m.toNat:Int)=((((x&&&4294967295#64)*(x&&&4294967295#64))>>>32*m)>>>32:BitVec 64).toNat:=by
  unfold pe;rw[show BitVec.ofInt 64 (m.toNat:Int)=m by rw[uD,VS,VT],BitVec.mul_comm m]
 rw[c];refine⟨b,?_⟩;unfold gH;generalize((x&&&4294967295#64)*(x&&&4294967295#64))>>>32=d at b⊢;generalize((d*m)>>>32:BitVec 64)=z at b⊢;have e:(1#64).toNat=1:=rfl;have f:(Q+m-(z+1#64)).toNat=Q.toNat+(m.toNat-1-z.toNat):=by
  have g:(z+1#64).toNat=z.toNat+1:=by rw[eB,e];omega
  have h:(Q+m).toNat=Q.toNat+m.toNat:=by rw[eB];omega
  rw[kG,g,h];omega
 have i:(S.setWidth 64).toNat=S.toNat:=by rw[kH];omega
 have t:=qv (Q.toNat+(m.toNat-1-z.toNat)) (show 0<S.toNat by omega);have j:(((Q+m-(z+1#64))%S.setWidth 64).setWidth 32).toNat=(Q.toNat+(m.toNat-1-z.toNat))%S.toNat:=by
  rw[kH,oy,f,i];exact dO (by omega)
 have l:(a*S).toNat=a.toNat*S.toNat:=by rw[iE];exact dO (by omega)
 rw[eB,j,l];exact dO (by omega)
theorem gT{b:BitVec 32}:b=0#32↔b.toNat=0:=⟨fun a=>by rw[a];rfl,fun a=>mo a⟩
section
variable{x:BitVec 64}{S R p n sl k T:BitVec 32}{q P N Q U au:Nat}
variable(D:1≤P)(E:P≤8)(F:U<P)(Z:Q<4)(bU:au<q)(H:2≤q)(I:q≤64)(V:N=0→Q=0→2≤au)
variable(A:S.toNat=4*q)(W:R.toNat=q)(B:p.toNat=P)(J:n.toNat=N)(X:sl.toNat=Q)(C:k.toNat=U)(Y:T.toNat=au)
include D E F Z bU H I V A W B J X C Y
theorem S8:((eG x p n sl k).toNat:Int)=jV x P N U Q:=by
 unfold eG jV pg;by_cases c:N=0∧Q=0
 ·rw[ax ⟨gT.2 (by omega),gT.2 (by omega)⟩,ax ⟨by omega,by omega⟩];omega
 ·rw[ak (fun h=>c ⟨by have:=gT.1 h.1;omega,by have:=gT.1 h.2;omega⟩),ak (fun h=>c ⟨by omega,by omega⟩)];have a:(BitVec.ofInt 64 (P:Int)).toNat=P:=by rw[uD,g7];omega
  have b:(x>>>32:BitVec 64).toNat<4294967296:=by
   rw[yY,wU];have:=x.isLt;omega
  rw[oy,oy,a,B,kH,dO b]
theorem ahu:k=eG x p n sl k↔pg (x>>>32) P N U Q=(U:Int):=by
 have a:=S8 (x:=x) D E F Z bU H I V A W B J X C Y;unfold jV at a;constructor
 ·intro h;rw[←a,←h,C]
 ·intro h;rw[h]at a;exact mo (by omega)
theorem ahv:(((if T=0#32∨k=eG x p n sl k then gm R n sl k T (eG x p n sl k)-1#32 else gm R n sl k T (eG x p n sl k)).setWidth 64:BitVec 64).toNat:Int)=mb (x>>>32) P ((4*q:Nat):Int) N U Q au:=by
 have g:=ahu (x:=x) D E F Z bU H I V A W B J X C Y;have r:(1#32).toNat=1:=rfl;have s:(3#32).toNat=3:=rfl;have z:Q*q≤3*q:=fP _ (by omega);have m:Q≠0→1*q≤Q*q:=fun h=>fP _ (by omega);have i:(sl*R).toNat=Q*q:=by rw[iE,X,W];exact dO (by omega)
 have t:(sl*R+T).toNat=Q*q+au:=by rw[eB,i,Y];exact dO (by omega)
 have j:(3#32*R).toNat=3*q:=by rw[iE,s,W];exact dO (by omega)
 have u:(3#32*R+T).toNat=3*q+au:=by rw[eB,j,Y];exact dO (by omega)
 have v:((4*q:Nat):Int).tdiv 4=(q:Int):=by rw[show((4*q:Nat):Int)=(q:Int)*4 by omega];exact Ei _ (by decide)
 have w:n9 ((4*q:Nat):Int) N Q=if N=0 then((Q*q:Nat):Int)else((3*q:Nat):Int):=by
  unfold n9;rw[v];by_cases c:N=0
  ·rw[ax (by omega),ax c,Bu]
  ·rw[ak (by omega),ak c];omega
 unfold mb;rw[w];have y:Q=0→N=0→k=eG x p n sl k:=fun h1 h2=>by unfold eG;rw[ax ⟨gT.2 (by omega),gT.2 (by omega)⟩]
 generalize eG x p n sl k=e at *;have qC:∀b:BitVec 32,1≤b.toNat→(b-1#32).toNat=b.toNat-1:=fun b K=>by
  have:=b.isLt;rw[kG,r];omega
 have av:∀b:BitVec 32,(b.setWidth 64:BitVec 64).toNat=b.toNat:=fun b=>by
  have:=b.isLt;rw[kH];omega
 rw[av];by_cases c:N=0
 ·rw[ax c];by_cases a:k=e
  ·have d:gm R n sl k T e=sl*R+T:=by unfold gm;rw[ax (gT.2 (by omega)),ax (.inr a)]
   rw[ax (.inr a),ax (g.1 a),d];have:1≤Q*q+au:=by
    by_cases f:Q=0
    ·have:=V c f;omega
    ·have:=m f;omega
   rw[qC _ (by omega),t];omega
  ·have f:Q≠0:=fun h=>a (y h c);have:=m f;have d:gm R n sl k T e=sl*R:=by unfold gm;rw[ax (gT.2 (by omega)),ak (fun h=>h.elim (fun h=>f (by have:=gT.1 h;omega)) a)]
   rw[ak (fun h=>a (g.2 h)),d];by_cases l:au=0
   ·rw[ax (.inl (gT.2 (by omega))),ax (by omega),qC _ (by omega),i];omega
   ·rw[ak (fun h=>h.elim (fun h=>l (by have:=gT.1 h;omega)) a),ak (by omega),i]
 ·rw[ak c];have o:n≠0#32:=fun h=>c (by have:=gT.1 h;omega);by_cases a:k=e
  ·have d:gm R n sl k T e=3#32*R+T:=by unfold gm;rw[ak o,ax a]
   rw[ax (.inr a),ax (g.1 a),d,qC _ (by omega),u];omega
  ·have d:gm R n sl k T e=3#32*R:=by unfold gm;rw[ak o,ak a]
   rw[ak (fun h=>a (g.2 h)),d];by_cases l:au=0
   ·rw[ax (.inl (gT.2 (by omega))),ax (by omega),qC _ (by omega),j];omega
   ·rw[ak (fun h=>h.elim (fun h=>l (by have:=gT.1 h;omega)) a),ak (by omega),j]
theorem ahw:(((if n=0#32 then 0#32 else((sl+1#32)%4#32)*R).setWidth 64:BitVec 64).toNat:Int)=q8 ((4*q:Nat):Int) N Q:=by
 have a:(1#32).toNat=1:=rfl;have b:((4*q:Nat):Int).tdiv 4=(q:Int):=by rw[show((4*q:Nat):Int)=(q:Int)*4 by omega];exact Ei _ (by decide)
 unfold q8;by_cases c:N=0
 ·rw[ax (gT.2 (by omega)),ax (by omega)];rfl
 ·rw[ak (fun h=>c (by have:=gT.1 h;omega)),ak (by omega),b];have d:((sl+1#32)%4#32).toNat=(Q+1)%4:=by
   rw[oy,eB,a,X,show(4#32).toNat=4 from rfl];omega
  have e:((Q+1)%4)*q≤3*q:=fP _ (by omega);have f:((Q:Int)+1).tmod 4=(((Q+1)%4:Nat):Int):=by rw[oB (by omega)];omega
  rw[kH,iE,d,W,f,←Bu];generalize((Q+1)%4)*q=z at e⊢;omega
variable [aR][aG][bl]
theorem ahx:(cq x S R p n sl k T).toNat=(jV x P N U Q).toNat*(4*q)+(oa x P ((4*q:Nat):Int) N U Q au).toNat∧(jV x P N U Q).toNat<P∧(oa x P ((4*q:Nat):Int) N U Q au).toNat<4*q:=by
 have a:((4*q:Nat):Int).tdiv 4=(q:Int):=by rw[show((4*q:Nat):Int)=(q:Int)*4 by omega];exact Ei _ (by decide)
 have f:=S8 (x:=x) D E F Z bU H I V A W B J X C Y;have d:=ahv (x:=x) D E F Z bU H I V A W B J X C Y;have kB:=ahw D E F Z bU H I V A W B J X C Y;have e:8≤((4*q:Nat):Int)∧((4*q:Nat):Int)≤256∧((4*q:Nat):Int).tdiv 4*4=((4*q:Nat):Int):=⟨by omega,by omega,by rw[a];omega⟩;have l:=SV (y:=x>>>32) (la:=P) (co:=((4*q:Nat):Int)) (pa:=N) (ln:=U) (sl:=Q) (pl:=au) e (by omega) ⟨by omega,by omega⟩ ⟨by omega,by rw[a];omega⟩ (fun h1 h2=>by have:=V (by omega) (by omega);omega);have o:=SW (w:=x) (la:=P) (co:=((4*q:Nat):Int)) (pa:=N) (ln:=U) (sl:=Q) (pl:=au) e (by omega) ⟨by omega,by omega⟩ ⟨by omega,by rw[a];omega⟩ (fun h1 h2=>by have:=V (by omega) (by omega);omega);have r:=SU (w:=x) (la:=P) (pa:=N) (ln:=U) (sl:=Q) ⟨by omega,by omega⟩ ⟨by omega,by omega⟩;refine⟨?_,by omega,by omega⟩;have cR:0≤q8 ((4*q:Nat):Int) N Q∧q8 ((4*q:Nat):Int) N Q≤192:=by
  unfold q8;split
  ·omega
  ·have g:((Q+1)%4)*q≤3*q:=fP _ (by omega);rw[a,show((Q:Int)+1).tmod 4=(((Q+1)%4:Nat):Int) by rw[oB (by omega)];omega,←Bu];generalize((Q+1)%4)*q=z at g⊢;omega
 unfold cq;generalize((if T=0#32∨k=eG x p n sl k then gm R n sl k T (eG x p n sl k)-1#32 else gm R n sl k T (eG x p n sl k)).setWidth 64:BitVec 64)=m at d⊢;generalize((if n=0#32 then 0#32 else((sl+1#32)%4#32)*R).setWidth 64:BitVec 64)=b at kB⊢;generalize eG x p n sl k=c at f⊢;have s:c.toNat*S.toNat≤8*256:=w6 (by omega) (by omega);obtain⟨h,i⟩:=aht x m b c S (by omega) (by omega) (by omega) (by omega) (by omega) (by omega);rw[i,A];have j:c.toNat=(jV x P N U Q).toNat:=by omega
 rw[j];congr 1;unfold oa Gp q7;rw[←d,←kB,oB (by omega)];generalize pe (x&&&4294967295#64) (m.toNat:Int)=z at h⊢;rw[show(b.toNat:Int)+(m.toNat:Int)-1-(z:Int)=((b.toNat+(m.toNat-1-z):Nat):Int) by omega,←NW,eA]
end
end
section
open Go.ay
variable [aR][aG][bl]
variable{M:Nat}{b:BitVec 32}{f:cx}{X:U 64}
def S9(f:cx)(X T:U 64)(a c e:Nat)(i:Int):∀k,(iter p7 k ⟨f,X,T,a,c,e,i⟩).X.n=X.n
 |0=>rfl|k+1=>by
  rw[gG];have h:=S9 f X T a c e i k;generalize iter p7 k ⟨f,X,T,a,c,e,i⟩=d at h;obtain⟨q,g,j,l,m,o,p⟩:=d;exact(show(vP g j l m o p).n=g.n from rfl).trans h
def Ta(f:cx)(X:U 64)(a b c:Nat):(fo f X a b c).n=X.n:=by
 unfold fo F3;rw[S9,(Rn f X a b c).1]
structure ahy(f:cx)(M:Nat)(ln aB p n sl k ix:BitVec 32):Prop where
 off:(k*ln+sl*aB+ix).toNat<M
 aoO:ei f (aS (k*ln+sl*aB+ix)) false=true
 aoP:ei f (aS (k*ln+sl*aB+ix)) true=true
 prev:(ey ln sl ix (k*ln+sl*aB+ix)).toNat<M
 aoQ:ei f (aS (ey ln sl ix (k*ln+sl*aB+ix))) false=true
 ref:∀x,(cq x ln aB p n sl k ix).toNat<M
 aoR:∀x,ei f (aS (cq x ln aB p n sl k ix)) false=true
structure Dk(f:cx)(M:Nat)(ln aB p n sl k:BitVec 32):Prop where
 hp:p≠0#32
 XU:ln≠0#32
 XV:aB.toNat≤64
 place:∀ix:BitVec 32,ix.toNat<aB.toNat→(n=0#32→sl=0#32→ix≠0#32)→ahy f M ln aB p n sl k ix
structure GW(d:l5):Prop where
 ok:Dk d.f d.M d.ln d.aB d.p d.n d.sl d.k
 off:d.off=d.k*d.ln+d.sl*d.aB+d.ix
 n:d.X.n=d.M*128
 ix:d.ix.toNat≤d.aB.toNat
 two:d.n=0#32→d.sl=0#32→d.ix≠0#32
open Classical in
def LK(d:l5):Bool:=decide (GW d)
def LL(a:aJ)(d:List ah):Option l5:=
 match a with
 |⟨[.num (.aF n),.num (.aF sl),.num (.aF k),.atom (.exact e),.ref (.ptr 1 (.c 0)),.ref (.ptr 2 (.c 0)),.ref (.ptr 3 (.c 0)),.ref (.ptr 4 (.c 0)),.ref (.ptr 5 (.c 0)),.ref (.ptr 6 (.c 0)),.ref (.ptr 7 (.c 0)),.atom .aa,.atom .aa,.atom .aa,.atom .aa,.ref (.ptr 8 (.c 0)),.ref (.ptr 9 (.c 0)),.ref (.ptr 10 (.c 0)),.num (.aF g),.num (.aF h),.atom .aa,.atom .aa,.atom .aa],[]⟩=>
  match d with
  |[⟨.lim f X,.own⟩,⟨.gen [.num (.int .i64 (.s m))],.ro⟩,⟨.gen [.num (.aF mem)],.ro⟩,⟨.gen [.num (.aF tm)],.ro⟩,⟨.gen [.num (.aF i)],.ro⟩,⟨.gen [.num (.aF j)],.ro⟩,⟨.gen [.ref (.sm 0 (.s M) 128)],.ro⟩,⟨.gen [.num (.aF p)],.ro⟩,⟨.gen l,.own⟩,⟨.gen o,.own⟩,⟨.gen q,.ro⟩]=>
   (match jS 128 l with
   |some ad=>
   (match jS 128 o with
   |some r=>
   (match jS 128 q with
   |some z=>some ⟨f,X,ad,r,z,M,m,mem,tm,i,j,p,n,sl,k,g,h,e⟩|none=>none)
   |none=>none)
   |none=>none)
  |_=>none
 |_=>none
def cc:eN l5 where
 qV:=⟨[.num (.aF 0#32),.num (.aF 0#32),.num (.aF 0#32),.atom (.exact undef),.P 1,.P 2,.P 3,.P 4,.P 5,.P 6,.P 7,.aa,.aa,.aa,.aa,.P 8,.P 9,.P 10,.num (.aF 0#32),.num (.aF 0#32),.aa,.aa,.aa],[]⟩
 qW:=[⟨.lim (fun _ _=>false) (U.zero 64 0),.own⟩,⟨.gen [.au 0],.ro⟩,⟨.gen [.num (.aF 0#32)],.ro⟩,⟨.gen [.num (.aF 0#32)],.ro⟩,⟨.gen [.num (.aF 0#32)],.ro⟩,⟨.gen [.num (.aF 0#32)],.ro⟩,⟨.gen [.ref (.sm 0 (.s 0) 128)],.ro⟩,⟨.gen [.num (.aF 0#32)],.ro⟩,⟨.gen (List.replicate 128 (.av 0#64)),.own⟩,⟨.gen (List.replicate 128 (.av 0#64)),.own⟩,⟨.gen (List.replicate 128 (.av 0#64)),.ro⟩]
 d0:=⟨fun _ _=>false,0,0,0,0,0,0,0,0,0,0,0,0,0,0,0,0,.bool false⟩
 read:=LL
 az:=eO
 next:=dH bz
 rem:=fun d=>d.aB.toNat-d.ix.toNat
 aT:=LK
 out:=.exit 0
def ahz(a:aJ)(c:List ah)(d:l5)(h:cc.read a c=some d):(a,c)=cc.az d:=by
 replace h:LL a c=some d:=h;unfold LL at h;split at h
 case h_2=>cases h
 split at h
 case h_2=>cases h
 split at h
 case h_2=>cases h
 rename_i e;obtain⟨rfl,_⟩:=kU e;split at h
 case h_2=>cases h
 rename_i g;obtain⟨rfl,_⟩:=kU g;split at h
 case h_2=>cases h
 rename_i i;obtain⟨rfl,_⟩:=kU i;cases h;rfl
def ahA:dg Tryz.prog bB (an 44) (bS Tryz.prog 44) (bh Tryz.prog 44 0) (bZ (fL bz) aU 44 0):=iz F5 (cL _) 44 0 CV (by rw[show(cI Tryz.prog 44).length=1 by kernel_rfl];omega)
def qd(b:BitVec 32):aS b=b.toNat*128:=by simp[aS]
def ahB{a c:BitVec 32}(d:X.n=M*128)(j:a.toNat<M)(k:b.toNat<M)(l:c.toNat<M)(e:ei f (aS a) false=true)(g:ei f (aS a) true=true)(h:ei f (aS b) false=true)(i:ei f (aS c) false=true):lZ f X a b c=true:=by
 unfold lZ;refine bu ⟨?_,?_,?_,e,g,h,i⟩<;>rw[qd,d]<;>omega
def ahC(a:X.n=M*128)(h:b.toNat<M):aS b+0<X.n:=by rw[qd,a];omega
def GD(h:b.toNat<M):cS M b=true:=by
 unfold cS;rw[dI];exact⟨bu (by omega),bu (by omega)⟩
def ahD{a:Nat}{w:Bool}(h:ei f a w=true):f (a+0) w=true:=x5 h (i:=0) (by omega) (by omega)
def ahE:eF Tryz.prog bB (an 44) (bS Tryz.prog 44) (bh Tryz.prog 44 0) cc.T.told:=by
 refine cc.jT ahA (by intro k F;have F:k∈([]:List ah):=F;cases F) (by intro h;cases h) ahz ?_ ?_
 ·rintro⟨f,X,ad,r,z,M,m,mem,tm,e,i,p,n,sl,k,a,d,s⟩ I C x;have C:GW ⟨f,X,ad,r,z,M,m,mem,tm,e,i,p,n,sl,k,a,d,s⟩:=@bg _ (Classical.propDecidable _) C;have x:i.toNat-a.toNat=I+1:=x;obtain⟨ok,D,y,J,h2⟩:=C;have D:d=k*e+sl*i+a:=D;have y:X.n=M*128:=y;have J:a.toNat≤i.toNat:=J;have h2:n=0#32→sl=0#32→a≠0#32:=h2;have H:a.toNat<i.toNat:=by omega
  have Y:i.toNat≤64:=ok.XV;obtain⟨A,K,L,j,l,N,Q⟩:=ok.place a H h2;have A:(k*e+sl*i+a).toNat<M:=A;rw[←D]at A K L j l;have Z:decide (a.toNat<i.toNat)=true:=bu H;have O:(a+1#32).toNat=a.toNat+1:=by rw[eB];simp;omega
  have P:a%128#32=a:=by
   apply mo;rw[oy];exact dO (by show a.toNat<128;omega)
  have aa:vS a=true:=by unfold vS;rw[P];exact bu (by simp;omega)
  have ab:cS 128 (a%128#32)=true:=by rw[P];exact GD (by omega)
  have bU:mW p e n sl a=true:=bu ⟨ok.hp,ok.XU,h2⟩;refine⟨?_,?_,?_,(show(eO (dH bz ⟨f,X,ad,r,z,M,m,mem,tm,e,i,p,n,sl,k,a,d,s⟩)).2.length=11 by kernel_rfl).trans (show(eO ⟨f,X,ad,r,z,M,m,mem,tm,e,i,p,n,sl,k,a,d,s⟩).2.length=11 by kernel_rfl).symm⟩
  ·show∃R S cs,eu 11 S (eO (dH bz ⟨f,X,ad,r,z,M,m,mem,tm,e,i,p,n,sl,k,a,d,s⟩)) (bZ (fL bz) aU 44 0 (eO ⟨f,X,ad,r,z,M,m,mem,tm,e,i,p,n,sl,k,a,d,s⟩).1 ⟨(eO ⟨f,X,ad,r,z,M,m,mem,tm,e,i,p,n,sl,k,a,d,s⟩).2,bQ,R,[]⟩)=some (.normal,eO (dH bz ⟨f,X,ad,r,z,M,m,mem,tm,e,i,p,n,sl,k,a,d,s⟩),cs)∧∀V∈cs,V=true;have ny:(decide (a.toNat<i.toNat)==true)=true:=by simp[H]
   by_cases q:m=1;by_cases hi:a=0#32;by_cases o:sl=0#32;have c:ey e sl a d=d-1#32+e:=(ax ⟨hi,o⟩);rw[c]at j l;have g:dG m n sl:=.inl q;simp only[dH,c,uH g,uH hi,uE,Ej,Ek,pO];refine⟨_,_,_,adl ..,?_⟩;rotate_left;have c:ey e sl a d=d-1#32:=(ak fun h=>o h.2);rw[c]at j l;have g:dG m n sl:=.inl q;simp only[dH,c,uH g,uH hi,uE,Ej,Ek,pO];refine⟨_,_,_,adm ..,?_⟩;rotate_left;have c:ey e sl a d=d-1#32:=(ak fun h=>hi h.1);rw[c]at j l;have g:dG m n sl:=.inl q;simp only[dH,c,uH g,uI hi,uE,Ej,Ek,pO];refine⟨_,_,_,adn ..,?_⟩;rotate_left;by_cases v:m=2;by_cases w:n=0#32;by_cases t:BitVec.ult sl 2#32=true;have u:sl.toNat<(2#32).toNat:=by simpa[BitVec.ult]using t
   by_cases hi:a=0#32;by_cases o:sl=0#32;have c:ey e sl a d=d-1#32+e:=(ax ⟨hi,o⟩);rw[c]at j l;have g:dG m n sl:=.inr ⟨v,w,t⟩;simp only[dH,c,uH g,uH hi,uE,Ej,Ek,pO];have E:(decide (sl.toNat<(2#32).toNat)==true)=true:=by rw[eT];exact bu u
   refine⟨_,_,_,ado ..,?_⟩;rotate_left;have c:ey e sl a d=d-1#32:=(ak fun h=>o h.2);rw[c]at j l;have g:dG m n sl:=.inr ⟨v,w,t⟩;simp only[dH,c,uH g,uH hi,uE,Ej,Ek,pO];have E:(decide (sl.toNat<(2#32).toNat)==true)=true:=by rw[eT];exact bu u
   refine⟨_,_,_,adp ..,?_⟩;rotate_left;have c:ey e sl a d=d-1#32:=(ak fun h=>hi h.1);rw[c]at j l;have g:dG m n sl:=.inr ⟨v,w,t⟩;simp only[dH,c,uH g,uI hi,uE,Ej,Ek,pO];have E:(decide (sl.toNat<(2#32).toNat)==true)=true:=by rw[eT];exact bu u
   refine⟨_,_,_,adq ..,?_⟩;rotate_left;have u:¬sl.toNat<(2#32).toNat:=by simpa[BitVec.ult]using t
   have W:sl≠0#32:=fun B=>u (by rw[B];decide);by_cases hi:a=0#32;have o:sl≠0#32:=W;have c:ey e sl a d=d-1#32:=(ak fun h=>o h.2);rw[c]at j l;have g:¬dG m n sl:=fun h=>h.elim q fun h=>t h.2.2;simp only[dH,c,uI g,y8,pO];have E:(decide (sl.toNat<(2#32).toNat)==false)=true:=by rw[eT];exact j4 u
   refine⟨_,_,_,adx ..,?_⟩;rotate_left;have c:ey e sl a d=d-1#32:=(ak fun h=>hi h.1);rw[c]at j l;have g:¬dG m n sl:=fun h=>h.elim q fun h=>t h.2.2;simp only[dH,c,uI g,y8,pO];have E:(decide (sl.toNat<(2#32).toNat)==false)=true:=by rw[eT];exact j4 u
   refine⟨_,_,_,ady ..,?_⟩;rotate_left;by_cases hi:a=0#32;by_cases o:sl=0#32;have c:ey e sl a d=d-1#32+e:=(ax ⟨hi,o⟩);rw[c]at j l;have g:¬dG m n sl:=fun h=>h.elim q fun h=>w h.2.1;simp only[dH,c,uI g,y8,pO];refine⟨_,_,_,adu ..,?_⟩;rotate_left;have c:ey e sl a d=d-1#32:=(ak fun h=>o h.2);rw[c]at j l;have g:¬dG m n sl:=fun h=>h.elim q fun h=>w h.2.1;simp only[dH,c,uI g,y8,pO];refine⟨_,_,_,adv ..,?_⟩;rotate_left;have c:ey e sl a d=d-1#32:=(ak fun h=>hi h.1);rw[c]at j l;have g:¬dG m n sl:=fun h=>h.elim q fun h=>w h.2.1;simp only[dH,c,uI g,y8,pO];refine⟨_,_,_,adw ..,?_⟩;rotate_left;by_cases hi:a=0#32;by_cases o:sl=0#32;have c:ey e sl a d=d-1#32+e:=(ax ⟨hi,o⟩);rw[c]at j l;have g:¬dG m n sl:=fun h=>h.elim q fun h=>v h.1;simp only[dH,c,uI g,y8,pO];refine⟨_,_,_,adr ..,?_⟩;rotate_left;have c:ey e sl a d=d-1#32:=(ak fun h=>o h.2);rw[c]at j l;have g:¬dG m n sl:=fun h=>h.elim q fun h=>v h.1;simp only[dH,c,uI g,y8,pO];refine⟨_,_,_,ads ..,?_⟩;rotate_left;have c:ey e sl a d=d-1#32:=(ak fun h=>hi h.1);rw[c]at j l;have g:¬dG m n sl:=fun h=>h.elim q fun h=>v h.1;simp only[dH,c,uI g,y8,pO];refine⟨_,_,_,adt ..,?_⟩;rotate_left
   all_goals repeat'(refine aA ?_ ?_)
   all_goals first|exact aX|rfl|assumption|exact ahB y A j (N _) K L l (Q _)|exact GD (N _)|exact GD j|exact GD A|exact ahD l|exact bu (ahC y j)|(simp[*];done)
  ·refine@bu _ (Classical.propDecidable _) (show GW _ from⟨ok,?_,(Ta ..).trans y,?_,fun _ _ B=>?_⟩)
   ·show d+1#32=k*e+sl*i+(a+1#32);rw[D,Ia]
   ·show(a+1#32).toNat≤i.toNat
    omega
   ·have B:a+1#32=0#32:=B;rw[B]at O;simp at O
  ·show i.toNat-(a+1#32).toNat=I;omega
 ·rintro⟨f,X,ad,r,z,M,m,mem,tm,e,i,p,n,sl,k,a,d,s⟩ C x;have x:i.toNat-a.toNat=0:=x;refine⟨[false],none,_,adz bz f X ad r z M m mem tm e i p n sl k a d s,?_⟩;refine aA ?_ aX;rw[eT];exact j4 (by omega)
def LM:cP:=cc.T.told
def ahF:Told 44 0 LM:=ahE.run
end
section
open Go.ay
variable [aR][aG][bl]
def dc:U 64:=U.of (List.replicate 128 0#64)
def jC(m:Int)(mem tm n sl k:BitVec 32):U 64:=U.of ([n.setWidth 64,k.setWidth 64,sl.setWidth 64,mem.setWidth 64,tm.setWidth 64,BitVec.ofInt 64 m]++List.replicate 122 0#64)
def yA:List (List Bool):=[[false],[true,false]]
def yB:List (List Bool):=[(bt 3 3),(bt 4 7)]
def LN:List (List Bool):=[(bt 5 15),(bt 6 31),(bt 7 63)]
def uf(n sl k:BitVec 32)(d:Value)(a b c i:af):aJ:=⟨[.num (.aF n),.num (.aF sl),.num (.aF k),.atom (.exact d),.ref (.ptr 1 (.c 0)),.ref (.ptr 2 (.c 0)),.ref (.ptr 3 (.c 0)),.ref (.ptr 4 (.c 0)),.ref (.ptr 5 (.c 0)),.ref (.ptr 6 (.c 0)),.ref (.ptr 7 (.c 0)),.atom .aa,.atom .aa,.atom .aa,.atom .aa,a,b,c,i,.atom .aa,.atom .aa,.atom .aa,.atom .aa],[]⟩
def jk(n sl k:BitVec 32)(a:Value)(i:af):aJ:=uf n sl k a (.ptr 8 (.c 0)) (.ptr 9 (.c 0)) (.ptr 10 (.c 0)) i
def sK(f:cx)(X:U 64)(M:Nat)(m:Int)(mem tm a b p:BitVec 32):List ah:=[⟨.lim f X,.own⟩,⟨.gen [.num (.int .i64 (.s m))],.ro⟩,⟨.gen [.num (.aF mem)],.ro⟩,⟨.gen [.num (.aF tm)],.ro⟩,⟨.gen [.num (.aF a)],.ro⟩,⟨.gen [.num (.aF b)],.ro⟩,⟨.gen [.ref (.sm 0 (.s M) 128)],.ro⟩,⟨.gen [.num (.aF p)],.ro⟩]
def iQ(f:cx)(X:U 64)(M:Nat)(m:Int)(mem tm a b p:BitVec 32)(ad c:U 64):List ah:=sK f X M m mem tm a b p++[⟨.gen (dU ad 128),.own⟩,⟨.gen (dU c 128),.own⟩,⟨.gen (dU dc 128),.own⟩]
def yC(f:cx)(X:U 64)(a:Value):aJ×List ah:=(⟨[.atom .aa,.atom .aa,.atom .aa,.atom (.exact a),.atom .aa,.atom .aa,.atom .aa,.atom .aa,.atom .aa,.atom .aa,.atom .aa,.atom .aa,.atom .aa,.atom .aa,.atom .aa,.atom .aa,.atom .aa,.atom .aa,.atom .aa,.atom .aa,.atom .aa,.atom .aa,.atom .aa],[]⟩,[⟨.lim f X,.own⟩,⟨.gen [],.bn⟩,⟨.gen [],.bn⟩,⟨.gen [],.bn⟩,⟨.gen [],.bn⟩,⟨.gen [],.bn⟩,⟨.gen [],.bn⟩,⟨.gen [],.bn⟩,⟨.gen [],.bn⟩,⟨.gen [],.bn⟩,⟨.gen [],.bn⟩])
def ahG(d:U 64→U 64→U 64)(f:cx)(X:U 64)(M:Nat)(m:Int)(mem tm a b p n sl k:BitVec 32)(c:Value):kq 8 (b8 11) (jk n sl k c .aa,iQ f X M m mem tm a b p dc (jC m mem tm n sl k)) (hY (fL d) aU 44 yA (uf n sl k c .aa .aa .aa .aa) ⟨sK f X M m mem tm a b p,bQ,(bt 7 127),[]⟩) .normal [((m==1)==true),((m==1)==true),((m==1)==true),((m==1)==true),((m==1)==true),((m==1)==true),((m==1)==true)]:=by show _=_;kernel_rfl
def ahH(d:U 64→U 64→U 64)(f:cx)(X:U 64)(M:Nat)(m:Int)(mem tm a b p n sl k:BitVec 32)(c:Value):kq 8 (b8 11) (jk n sl k c .aa,iQ f X M m mem tm a b p dc (jC m mem tm n sl k)) (hY (fL d) aU 44 yA (uf n sl k c .aa .aa .aa .aa) ⟨sK f X M m mem tm a b p,bQ,(bt 14 11096),[]⟩) .normal [(decide (sl.toNat<(2#32).toNat)==true),((m==1)==false),((n==(0#32))==true),((m==1)==false),((n==(0#32))==true),((n==(0#32))==true),((m==1)==false),((m==2)==true),((m==1)==false),((m==2)==true),((m==2)==true),((m==1)==false),((m==1)==false),((m==1)==false)]:=by show _=_;kernel_rfl
def ahI(d:U 64→U 64→U 64)(f:cx)(X:U 64)(M:Nat)(m:Int)(mem tm a b p n sl k:BitVec 32)(c:Value):kq 8 (b8 11) (jk n sl k c .aa,iQ f X M m mem tm a b p dc dc) (hY (fL d) aU 44 yA (uf n sl k c .aa .aa .aa .aa) ⟨sK f X M m mem tm a b p,bQ,(bt 10 0),[]⟩) .normal [((m==1)==false),((m==1)==false),((m==1)==false),((m==2)==false),((m==1)==false),((m==2)==false),((m==2)==false),((m==1)==false),((m==1)==false),((m==1)==false)]:=by show _=_;kernel_rfl
def ahJ(d:U 64→U 64→U 64)(f:cx)(X:U 64)(M:Nat)(m:Int)(mem tm a b p n sl k:BitVec 32)(c:Value):kq 8 (b8 11) (jk n sl k c .aa,iQ f X M m mem tm a b p dc dc) (hY (fL d) aU 44 yA (uf n sl k c .aa .aa .aa .aa) ⟨sK f X M m mem tm a b p,bQ,(bt 13 88),[]⟩) .normal [((m==1)==false),((n==(0#32))==false),((m==1)==false),((n==(0#32))==false),((n==(0#32))==false),((m==1)==false),((m==2)==true),((m==1)==false),((m==2)==true),((m==2)==true),((m==1)==false),((m==1)==false),((m==1)==false)]:=by show _=_;kernel_rfl
def ahK(d:U 64→U 64→U 64)(f:cx)(X:U 64)(M:Nat)(m:Int)(mem tm a b p n sl k:BitVec 32)(c:Value):kq 8 (b8 11) (jk n sl k c .aa,iQ f X M m mem tm a b p dc dc) (hY (fL d) aU 44 yA (uf n sl k c .aa .aa .aa .aa) ⟨sK f X M m mem tm a b p,bQ,(bt 14 2904),[]⟩) .normal [(decide (sl.toNat<(2#32).toNat)==false),((m==1)==false),((n==(0#32))==true),((m==1)==false),((n==(0#32))==true),((n==(0#32))==true),((m==1)==false),((m==2)==true),((m==1)==false),((m==2)==true),((m==2)==true),((m==1)==false),((m==1)==false),((m==1)==false)]:=by show _=_;kernel_rfl
def ahL(e:U 64→U 64→U 64)(f:cx)(X a:U 64)(M:Nat)(m:Int)(mem tm b c p n sl k:BitVec 32)(d:Value):kq 11 (b8 11) (jk n sl k d (.aF 0#32),iQ f X M m mem tm b c p dc a) (hY (fL e) aU 44 yB (jk n sl k d .aa) ⟨iQ f X M m mem tm b c p dc a,bQ,(bt 3 0),[]⟩) .normal [((n==(0#32))==false),((n==(0#32))==false),((n==(0#32))==false)]:=by show _=_;kernel_rfl
def ahM(e:U 64→U 64→U 64)(f:cx)(X a:U 64)(M:Nat)(m:Int)(mem tm b c p n sl k:BitVec 32)(d:Value):kq 11 (b8 11) (jk n sl k d (.aF 0#32),iQ f X M m mem tm b c p dc a) (hY (fL e) aU 44 yB (jk n sl k d .aa) ⟨iQ f X M m mem tm b c p dc a,bQ,(bt 4 7),[]⟩) .normal [((sl==(0#32))==false),((n==(0#32))==true),((n==(0#32))==true),((n==(0#32))==true)]:=by show _=_;kernel_rfl
def ahN(b:U 64→U 64→U 64)(f:cx)(X a:U 64)(M:Nat)(m:Int)(mem tm c d p n sl k:BitVec 32)(e:Value):kq 11 (b8 11) (jk n sl k e (.aF 2#32),iQ f X M m mem tm c d p (eH b (dy a) dc) (dy a)) (hY (fL b) aU 44 yB (jk n sl k e .aa) ⟨iQ f X M m mem tm c d p dc a,bQ,(bt 7 127),[]⟩) .normal [decide True,decide True,((m==1)==true),((m==1)==true),((m==1)==true),((sl==0#32)==true),((n==0#32)==true),((n==0#32)==true),((n==0#32)==true)]:=by show _=_;kernel_rfl
def ahO(b:U 64→U 64→U 64)(f:cx)(X a:U 64)(M:Nat)(m:Int)(mem tm c d p n sl k:BitVec 32)(e:Value):kq 11 (b8 11) (jk n sl k e (.aF 2#32),iQ f X M m mem tm c d p (eH b (dy a) dc) (dy a)) (hY (fL b) aU 44 yB (jk n sl k e .aa) ⟨iQ f X M m mem tm c d p dc a,bQ,(bt 8 143),[]⟩) .normal [decide True,decide True,((m==2)==true),((m==1)==false),((m==1)==false),((m==1)==false),((sl==0#32)==true),((n==0#32)==true),((n==0#32)==true),((n==0#32)==true)]:=by show _=_;kernel_rfl
def ahP(e:U 64→U 64→U 64)(f:cx)(X a:U 64)(M:Nat)(m:Int)(mem tm b c p n sl k:BitVec 32)(d:Value):kq 11 (b8 11) (jk n sl k d (.aF 2#32),iQ f X M m mem tm b c p dc a) (hY (fL e) aU 44 yB (jk n sl k d .aa) ⟨iQ f X M m mem tm b c p dc a,bQ,(bt 8 15),[]⟩) .normal [((m==2)==false),((m==1)==false),((m==1)==false),((m==1)==false),((sl==(0#32))==true),((n==(0#32))==true),((n==(0#32))==true),((n==(0#32))==true)]:=by show _=_;kernel_rfl
def AO:FuncId→Nat→Option cP|44,17=>some LM|_,_=>none
def k4(d:l5):l5:=iter (dH bz) (d.aB.toNat-d.ix.toNat) d
def d44(f:cx)(X ad d:U 64)(M:Nat)(m:Int)(mem tm a b p n sl k c:BitVec 32)(e:Value):l5:=⟨f,X,di ad,di d,di dc,M,m,mem,tm,a,b,p,n,sl,k,c,k*a+sl*b+c,e⟩
def Fw(f:cx)(X ad a:U 64)(M:Nat)(m:Int)(mem tm b c p n sl k d:BitVec 32)(e:Value):kq 11 none (yC (k4 (d44 f X ad a M m mem tm b c p n sl k d e)).f (k4 (d44 f X ad a M m mem tm b c p n sl k d e)).X (k4 (d44 f X ad a M m mem tm b c p n sl k d e)).kz) (hY (fL bz) AO 44 LN (jk n sl k e (.aF d)) ⟨iQ f X M m mem tm b c p ad a,bQ,[],[]⟩) .normal [LK (d44 f X ad a M m mem tm b c p n sl k d e)]:=by show _=_;kernel_rfl
end
section
open Go Go.ay Conc Conc.Lib RowKit
variable{w:World}{i:Nat}{Q:Go.Loc→Prop}{R:Array Goroutine}{sl:Option (Nat×Nat)}{T:Trace}{q:Nat→Nat}{n:Nat}
def k5(X:U 64)(a:Nat):Option Value:=(X.l[a]?).map fun b=>.int .u64 (b.toNat:Int)
def AP(room:Nat)(X:U 64)(b:Obj):Prop:=∃vs t bx,b=.cells vs t bx∧I0 bx vs.size∧vs.size=room∧X.n≤room∧∀a,a<X.n→vs[a]? =k5 X a
structure Call where
 (lS:Option Addr)(lT eM tm:Nat)(mem:Int)(N:Nat)(mode ln aB:Int)(cn room sL:Nat)(V:Nat→U 64)(cY:Nat→Nat→Nat→Prop)(iJ:Nat→Nat→Prop)(kx:Nat→Nat→Nat)(Y:Nat→Nat→Nat→Value)
structure fV(c:Call):Prop where
 N:0<c.N∧c.N<2147483648
 tm:c.tm<2147483648
 ln:IntKind.u32.wrap (c.mem.tdiv c.N)=c.ln
 aB:IntKind.u32.wrap (c.ln.tdiv 4)=c.aB
 rX:∀s k oC o,c.cY s k o→c.cY s oC o→k=oC
 xx:∀s k o,c.cY s k o→¬c.iJ s o
 kx:∀s k,c.cY s k (c.kx s k)∨c.iJ s (c.kx s k)
 n:∀i,(c.V i).n=c.sL
 step:∀i o,o<c.sL→(∃k,k<c.N∧c.cY (i%4) k o∧some (c.Y i k o)=k5 (c.V (i+1)) o)∨((∀k,k<c.N→¬c.cY (i%4) k o)∧k5 (c.V (i+1)) o=k5 (c.V i) o)
structure og(c:Call)(w0:World)(i:Nat)(w:World):Prop where
 os:w.os=w0.os
 tape:w.tape=w0.tape
 output:w.output=w0.output
 size:w0.heap.size+7≤w.heap.size
 boxes:∀j o,(boxes c.lS c.lT c.eM c.tm c.mem c.N c.mode c.ln c.aB)[j]? =some o→w.heap[w0.heap.size+j]? =some o
 old:∀b,b<w0.heap.size→b≠c.cn→w.heap[b]? =w0.heap[b]?
 GF:∃o,AP c.room (c.V i) o∧w.heap[c.cn]? =some o
section
variable{c:Call}{P:Machine}{w0:World}{cs:List Frame}
def og.at{a:World}(h:og c w0 i w)(r:AtRel w a):og c w0 i a:=by
 obtain⟨d,rfl⟩:=r;exact⟨h.os,h.tape,h.output,h.size,h.boxes,h.old,h.GF⟩
def og.next(d:fV c)(J:c.cn<w0.heap.size){w':World}(h:og c w0 i w)(r:zV c.cn c.N (c.cY (i%4)) (c.Y i) w w'):og c w0 (i+1) w':=by
 have K:=h.size;refine⟨r.os.trans h.os,r.tape.trans h.tape,r.output.trans h.output,by have:=r.size;omega,fun j a g=>?_,fun b v l=>(r.old b (by omega) l).trans (h.old b v l),?_⟩
 ·have:j<7:=(dW.1 g).1;exact(r.old _ (by omega) (by omega)).trans (h.boxes j a g)
 ·obtain⟨_,⟨vs,t,bx,rfl,h2,h3,h4,x⟩,m⟩:=h.GF;have y:∃us,w'.heap[c.cn]? =some (.cells us t bx)∧us.size=vs.size∧∀a,(∀k,k<c.N→¬c.cY (i%4) k a)→us[a]? =vs[a]? :=by
   rcases r.bN with z|⟨L,us,A,B,o,C,D,E⟩
   ·exact⟨vs,z.trans m,rfl,fun _ _=>rfl⟩
   ·rw[m]at o;cases o;exact⟨us,C,D,E⟩
  obtain⟨us,p,s,F⟩:=y;have M:=d.n i;have O:=d.n (i+1);refine⟨_,⟨us,t,bx,rfl,by rw[s];exact h2,s.trans h3,by omega,fun a S=>?_⟩,p⟩;rcases d.step i a (by omega)with⟨k,H,e,f⟩|⟨e,f⟩
  ·obtain⟨U,A,B,u,I⟩:=r.pay k H;rw[p]at u;cases u;rw[I a e,f]
  ·rw[F a e,f];exact x a (by omega)
def AQ(c:Call)(P:Machine)(w0:World):Prop:=
 ∀i,i<4*c.tm→∀(Q:Go.Loc→Prop) (w1:World),og c w0 i w1→(∀l,Q l→∃a,l=.cell a∧a.block<w1.heap.size∧mQ Tryz.prog P 33 a.block)→(∀b:Addr,w0.heap.size≤b.block→b.block<w0.heap.size+7→¬Q (.cell b))→
  ∀p:dm,IU p Q P c.N c.cn (c.cY (i%4)) (c.iJ (i%4)) (c.kx (i%4)) (c.Y i) w1→∀k:Nat,k<c.N→∀w,dw p k p.cG w→ay.Works Tryz.prog p k (born Tryz.prog (call44 w0.heap.size ((i/4:Nat):Int) ((i%4:Nat):Int) k p.Wg)) w
def LO(c:Call)(P:Machine)(w0:World)(cs:List Frame)(n b i:Nat):Prop:=∃Q R T w sl d q,iw Tryz.prog P 33 Q R (r4 T cs) w sl d q∧(TS w0.heap.size (n:Int) T∧T[14]? =some (.int .u32 (b:Int)))∧og c w0 i w∧∀a:Addr,w0.heap.size≤a.block→a.block<w0.heap.size+7→¬Q (.cell a)
def GG(c:Call)(P:Machine)(w0:World)(cs:List Frame)(n i:Nat):Prop:=∃Q R T w sl b q,iw Tryz.prog P 33 Q R (vl T cs) w sl b q∧TS w0.heap.size (n:Int) T∧og c w0 i w∧∀a:Addr,w0.heap.size≤a.block→a.block<w0.heap.size+7→¬Q (.cell a)
def ahQ(c:Call)(P:Machine)(w0:World)(cs:List Frame)(i:Nat):Prop:=∃Q R T w sl a q,iw Tryz.prog P 33 Q R (zS T cs) w sl a q∧og c w0 i w
def aQ{a:Goroutine}{S:Goroutine→Prop}(k:iw Tryz.prog P 33 Q R a w sl T q)(m:∀g,S g→g.status=.running)(h:rZ Tryz.prog Q w.heap.size (fun g w'=>S g∧AtRel w w') a w):
 ∃d b w' e f j,iw Tryz.prog P 33 Q d b w' e f j∧S b∧AtRel w w':=by
 obtain⟨d,b,w',e,f,j,h1,_,t,h2,h3⟩:=(k.lone (aV _)).to (Stop:=fun g w'=>S g∧AtRel w w') (fun g w h=>m g h.1) (fun g w u r h=>⟨h.1,mP _ _ _ h.2 r⟩) h;exact⟨d,b,w',e,f,j,h1.Cj (fun l o=>let⟨a,p,v,s⟩:=k.oS l o;⟨a,p,by omega,s⟩),h2,h3⟩
def GH(e:fV c)(y:c.cn<w0.heap.size)(z:¬mQ Tryz.prog P 33 c.cn)(A:AQ c P w0){s:Nat}(Z:n<c.tm)(v:s<4)(h:LO c P w0 cs n s (4*n+s)):LO c P w0 cs n (s+1) (4*n+s+1):=by
 obtain⟨Q,R,T,w,sl,aa,q,m,⟨B,C⟩,f,o⟩:=h;have r:(4*n+s)%4=s:=by omega
 have D:(4*n+s)/4=n:=by omega
 have ab:=f.size;obtain⟨x,ad,j,w',ae,af,ag,h1,⟨h2,E⟩,h3,h4⟩:=Yb (n0:=w0.heap.size) (cn:=c.cn) (n:=n) (s:=s) (cY:=c.cY s) (iJ:=c.iJ s) (kx:=c.kx s) (Y:=c.Y (4*n+s)) e.N.1 e.N.2 (e.rX s) (e.xx s) (e.kx s) m B C (by omega) (f.boxes 3 _ rfl) (fun d l=>o d (by omega) (by omega)) (by omega) (by omega)
  (fun d l v=>by obtain⟨a,t,_,cR⟩:=m.oS _ v;cases t;exact z (l▸cR))
  (fun p F k u w H=>by
   have:=A (4*n+s) (by omega) Q _ f m.oS o p (by rw[r];exact F) k u w H
   rwa[r,D]at this)
 have I:og c w0 (4*n+s+1) w':=f.next e y (by rw[r];exact h3);have u:∀d:Addr,w0.heap.size≤d.block→d.block<w0.heap.size+7→¬x (.cell d):=fun d a b l=>o d a b (h4 d (by omega) l);obtain⟨J,ah,K,L,M,O,U,⟨V,rfl,W,X⟩,bf⟩:=aQ (S:=fun g=>∃j,g=r4 j cs∧TS w0.heap.size n j∧j[14]? =some (.int .u32 ((s:Int)+1))) h1 (fun g ⟨_,t,_⟩=>by rw[t];rfl) (slice3 h2 E (by rw[IntKind.wrap_u32];omega) w');exact⟨x,J,V,K,L,M,O,U,⟨W,by rw[X];rfl⟩,I.at bf,u⟩
def ahR(b:fV c)(e:c.cn<w0.heap.size)(f:¬mQ Tryz.prog P 33 c.cn)(j:AQ c P w0)(k:n<c.tm)(h:GG c P w0 cs n (4*n)):GG c P w0 cs (n+1) (4*(n+1)):=by
 obtain⟨Q,R,T,w,sl,A,q,m,o,d,l⟩:=h;have F:=d.size;have H:=b.tm;obtain⟨p,B,r,s,t,u,v,⟨x,rfl,y,C⟩,bf⟩:=aQ (S:=fun g=>∃a,g=r4 a cs∧TS w0.heap.size n a∧a[14]? =some (.int .u32 0)) m (fun g ⟨_,z,_⟩=>by rw[z];rfl) (XW o (by omega:(n:Int)<c.tm) w (d.boxes 1 _ rfl) (l _ (by show _≤w0.heap.size+1;omega) (by show w0.heap.size+1<_;omega)) (by omega));have D:LO c P w0 cs n 0 (4*n+0):=⟨Q,p,x,r,s,t,u,v,⟨y,C⟩,d.at bf,l⟩;have h4:=GH b e f j k (by omega) (GH b e f j k (by omega) (GH b e f j k (by omega) (GH b e f j k (by omega) D)));obtain⟨Q,R,T,w,sl,A,q,m,⟨o,E⟩,d,l⟩:=h4;obtain⟨p,B,r,s,t,u,v,⟨x,rfl,y⟩,bf⟩:=aQ (S:=fun g=>∃a,g=vl a cs∧TS w0.heap.size ((n:Int)+1) a) m (fun g ⟨_,z,_⟩=>by rw[z];rfl) (XZ o E (by omega) (by rw[IntKind.wrap_u32];omega) w);exact⟨Q,p,x,r,s,t,u,v,y,d.at bf,l⟩
def Tb(a:fV c)(b:c.cn<w0.heap.size)(d:¬mQ Tryz.prog P 33 c.cn)(e:AQ c P w0)(h:GG c P w0 cs 0 0):∀n,n≤c.tm→GG c P w0 cs n (4*n)|0,_=>h|n+1,f=>ahR a b d e f (Tb a b d e h n (by omega))
noncomputable def LP(c:Call)(cs:List Frame):Goroutine:=G (Frame.enter Tryz.prog 33 #[.slice c.lS c.lT c.eM,.int .u32 c.tm,.int .u32 c.mem,.int .u32 c.N,.int .i64 c.mode] .normal) cs
def ahS(c:Call)(cs:List Frame):LP c cs=G ((base 33).at ⟨#[.slice c.lS c.lT c.eM,.int .u32 c.tm,.int .u32 c.mem,.int .u32 c.N,.int .i64 c.mode,undef,undef,undef,undef,undef,undef,undef,undef,undef,undef,undef,undef,undef,undef,undef,undef,undef,undef,undef,undef,undef,undef,undef,undef,undef,undef,undef,undef,undef,undef,undef,undef,undef,undef,undef,undef,undef,undef],[]⟩ [.code (Tryz.f33.body.getD .skip)]) cs:=by
 unfold LP;have a:Tryz.f33.body=some (Tryz.f33.body.getD .skip):=by unfold Tryz.f33;simp only[ij]
 have b:Tryz.f33.ntmps=43:=by unfold Tryz.f33;rfl
 rw[enter_at _ Tryz.func33 a,b];simp only[List.size_toArray,iW,kI,Nat.reduceAdd,Nat.reduceSub,Array.replicate,List.replicate];simp only[Bg,nh,jK]
def ahT(o:fV c)(t:c.cn<w0.heap.size)(x:¬mQ Tryz.prog P 33 c.cn)(y:AQ c P w0)(z:∃e,AP c.room (c.V 0) e∧w0.heap[c.cn]? =some e)(f:iw Tryz.prog P 33 Q R (LP c cs) w0 sl T q):ahQ c P w0 cs (4*c.tm):=by
 have u:∀a:Addr,Q (.cell a)→a.block<w0.heap.size:=fun a A=>by obtain⟨b,k,h,_⟩:=f.oS _ A;cases k;exact h
 have ak:=o.N;have v:=XT (cs:=cs) (lS:=c.lS) (lT:=c.lT) (eM:=c.eM) (tm:=c.tm) (mem:=c.mem) (dD:=c.N) (m:=c.mode) u (by omega) o.ln o.aB w0 (Ext.refl w0);rw[←ahS]at v;obtain⟨B,al,w1,C,D,E,h1,_,am,H,rfl,I,d⟩:=(f.lone (Nat.le_add_right _ 7)).to (fun g w h=>by obtain⟨_,rfl,_⟩:=h;rfl) (fun g w an J ⟨K,h1,h2,h3⟩=>⟨K,h1,h2,h3.rely J⟩) v;have L:=h1.Cj (F:=33) (fun l M=>let⟨a,k,p,r⟩:=f.oS l M;⟨a,k,by omega,r⟩);have O:og c w0 0 w1:=⟨d.os,d.tape,d.output,by have:=d.size;simp[boxes]at this;omega,fun j e U=>d.at j U,fun b W _=>d.old W,let⟨e,p,r⟩:=z;⟨e,p,(d.old t).trans r⟩⟩;have X:=Tb o t x y ⟨Q,B,H,w1,C,D,E,L,I,O,fun p h1 h2 Y=>by have:=u p Y;omega⟩ c.tm (aV _);obtain⟨Q,R,T,w,sl,ao,q,f,Z,s,aa⟩:=X;obtain⟨ab,ap,ad,ae,af,ag,ah,⟨ai,rfl⟩,bf⟩:=aQ (S:=fun g=>∃aj,g=zS aj cs) f (fun g ⟨_,k⟩=>by rw[k];rfl) (XX Z (by omega:¬(c.tm:Int)<c.tm) w (s.boxes 1 _ rfl) (aa _ (by show _≤w0.heap.size+1;omega) (by show w0.heap.size+1<_;omega)) (by have:=s.size;omega));exact⟨Q,ab,ai,ad,ae,af,ag,ah,s.at bf⟩
end
end
section
open Go Go.ay Conc Conc.Lib RowKit
noncomputable def k6:Frame:={(default:Frame)with fn:=Tryz.prog.funcs.size,defers:=[],mode:=.panicking [goexitEntry]}
noncomputable def ug:Array Oper:=opsOf (sub (bt 7 127) (c8 Tryz.prog 44))
def Dl:Code:=.region 31 ug false
def ahU:c8 Tryz.prog 44=n6 (c8 Tryz.prog 44) yA (n6 (c8 Tryz.prog 44) yB (n6 (c8 Tryz.prog 44) LN Dl)):=by kernel_rfl
def ahV:Tryz.f44.body.getD .skip=c8 Tryz.prog 44:=by kernel_rfl
def ahW:List.range ug.size=[0,1]:=by kernel_rfl
def AR(n0:Nat)(n a k:Int)(b:Nat):List Value:=[.int .u32 n,.int .u32 a,.int .u32 k,cA b,cA (n0+4),cA (n0+2),cA (n0+1),cA (n0+5),cA (n0+6),cA n0,cA (n0+3)]
noncomputable def LQ(n0:Nat)(n a k:Int)(b:Nat):Frame:=(baseD 44).at {tmps:=(⟨AR n0 n a k b⟩:Array Value)++Array.replicate (bS Tryz.prog 44-(AR n0 n a k b).length) undef,defers:=[]} [.code (c8 Tryz.prog 44)]
def Tc:bS Tryz.prog 44=153:=by kernel_rfl
def ahX(n0:Nat)(n a k:Int)(b:Nat)(w:World):stepG Tryz.prog false (born Tryz.prog (call44 n0 n a k b)) w=.go (G (LQ n0 n a k b) [k6]) w #[]:=by
 have c:Tryz.f44.body=some (Tryz.f44.body.getD .skip):=by unfold Tryz.f44;simp only[ij]
 have d:Tryz.f44.ntmps=bS Tryz.prog 44:=by kernel_rfl
 have e:(Tryz.f44.name== "runtime.NumGoroutine")=false:=by unfold Tryz.f44;kernel_rfl
 have f:Frame.enter Tryz.prog 44 #[.int .u32 n,.int .u32 a,.int .u32 k,cA b,cA (n0+4),cA (n0+2),cA (n0+1),cA (n0+5),cA (n0+6),cA n0,cA (n0+3)] .deferred=LQ n0 n a k b:=by
  rw[enter_atD _ Tryz.func44 c,ahV,d];unfold LQ AR;rfl
 have g:¬Tryz.f44.name= "runtime.NumGoroutine" :=by simpa using e
 have h:¬Tryz.f44.body=none:=by rw[c];simp
 simp[born,call44,mS,stepG,unwind,callDeferred,invoke,callFunc,Tryz.func44,g,h,seen,GStep.after,G,f,k6]
def ahY(T:Array Value)(a:Array Oper):QuitsD Tryz.prog 4 0 (G ((baseD 44).at ⟨T,[]⟩ [.inRegion a []]) [k6]):=by
 have b:Tryz.f44.results=#[]:=by unfold Tryz.f44;rfl
 refine QuitsD.ctl rfl (fun _=>stepG_region_end) (QuitsD.ctl rfl (fun _=>stepG_end) ?_);refine QuitsD.ctl (g':=G k6 []) rfl (fun w=>?_) ?_
 ·simp[G,stepG,unwind,doReturn,results,b,Frame.at,baseD,k6,Tryz.func44,seen,GStep.after,goexitEntry]
 refine QuitsD.ctl (g':={G k6 []with status:=.finished}) rfl (fun w=>?_) ⟨rfl,rfl⟩;simp[G,stepG,unwind,k6,goexitEntry,Frame.catches];rfl
def qe(i:Nat):Oper:=ug.getD i {dst:=none,op:=.move (.tmp 0),type:=0,pos:= "",after:=#[],guard:=none}
section
variable(P:Operand→Value)(w:World)
def LR:ug[0]? =some (qe 0)∧ug[1]? =some (qe 1):=⟨by kernel_rfl,by kernel_rfl⟩
def Td:(qe 0).dst=some 151∧(qe 1).dst=some 152:=⟨by kernel_rfl,by kernel_rfl⟩
def Te:(qe 0).op=.move (.tmp 3):=by kernel_rfl
def Tf:(qe 1).op=.call {callee:=.value (.func link.done),args:=#[.tmp 151],argTypes:=#[101]}:=by kernel_rfl
def Tg(a:Nat→Option Bool):Region.wanted (qe 0) a=true∧Region.wanted (qe 1) a=true:=⟨by kernel_rfl,by kernel_rfl⟩
end
end
end Go.Proofs.YtcminalaicidiaaGreatDoor
section
namespace Go.ay
open Conc
section
variable{P:Program}{main:Bool}{R N:Rel}{D:ve}{S:lp}{g:Goroutine}{w:World}
def gF.inv(au:World→Prop)(i:∀a b,R a b→au a→au b)(m:∀a b f,N a b→D a b f→au a→au b)(h:gF P main R N D S g w)(bU:au w):gF P main R N D (fun g w=>S g w∧au w) g w:=by
 induction h with
 |stop h=>exact .stop fun e c=>⟨h e c,i _ _ c bU⟩|step o h _ q=>
  refine .step o h fun e g' w' f c j n=>q e g' w' f c j n ?_;obtain⟨r,s,t,l,d⟩:=h e c;rw[j]at l;cases l;exact m _ _ _ n (d n) (i _ _ c bU)
end
end Go.ay
namespace Go.Proofs.YtcminalaicidiaaGreatDoor
open Go Go.ay Conc Conc.Lib RowKit
open Go.ConcR (KK WgAt stA smA rd wr mk DC0 wgBlock)
open Go.ConcR.Gen Go.ConcN.Gen
def gq{a:Act}{d:Nat}{v:Value}(h:d<a.tmps.size):(a.put (some d) v).eval (.tmp d)=v:=by
 simp[Act.put,Act.eval,gX,h]
section
variable{p:dm}{k:Nat}{v Q:World}
def GI(p:dm)(k:Nat)(v:World):Prop:=p.live v∧(∃a,v.cell? ⟨p.bN,p.kx k,none⟩=some a)∧p.kO k v
def GI.rely(a:eL p)(h:GI p k v)(r:dw p k v Q):GI p k Q:=⟨r.live h.1,let⟨b,c⟩:=h.2.1;⟨b,(r.bN.cell (a.kx k)).trans c⟩,a.pay k _ _ r h.2.2⟩
def ahZ(c:eL p)(t:p.ty=link.tWg){a:Act}(h3:a.eval (.tmp 3)=cA p.Wg)(J:a.tmps.size=153)(e:a.defers=[])(h:GI p k v):ay.Works Tryz.prog p k (G ((baseD 44).at a [.code Dl]) [k6]) v:=by
 refine gF.one rfl fun Q l=>⟨_,Q,#[],stepG_region,fun _=>⟨jP.idle _,?_⟩⟩;replace h:=h.rely c l;clear l;rw[ahW];refine gF.one rfl fun f u=>?_;replace h:=h.rely c u;have x:(execOp a.eval (qe 0)).run Tryz.prog f=.ok (.value (cA p.Wg)) f:=by
  rw[←h3];simp[execOp,Te]
 have qa:listed Tryz.prog (baseD 44).fn a (qe 0) f=#[]:=listed_nil (by simp[execOp,Te]);have m:=stepG_value (P:=Tryz.prog) (main:=false) (b:=baseD 44) (a:=a) (k:=[]) (cs:=[k6]) (rest:=[1]) LR.1 (Tg _).1 (by simp[baseD]) x;rw[Td.1,qa]at m;refine⟨_,_,_,m,fun _=>⟨jP.idle _,?_⟩⟩;refine gF.one rfl fun i y=>?_;replace h:=h.rely c y;have n:(a.put (some 151) (cA p.Wg)).eval (.tmp 151)=cA p.Wg:=gq (by omega);have d:Tryz.f48.body.isNone=false:=by kernel_rfl
 have j:(Tryz.f48.name== "runtime.NumGoroutine")=false:=by kernel_rfl
 have o:¬Tryz.f48.body=none:=by intro h;rw[h]at d;cases d
 have q:¬Tryz.f48.name= "runtime.NumGoroutine" :=by simpa using j
 have r:(a.put (some 151) (cA p.Wg)).eval (.func link.done)=.func (.func 48) #[] #[]:=rfl;have z:(execOp (a.put (some 151) (cA p.Wg)).eval (qe 1)).run Tryz.prog i=.ok (.enter 48 #[cA p.Wg]) i:=by
  simp[execOp,Tf,resolve,invoke,callFunc,Tryz.func48,o,q,r,n,Deferred.ofValue]
 have A:listed Tryz.prog (baseD 44).fn (a.put (some 151) (cA p.Wg)) (qe 1) i=#[]:=listed_nil (by simp[execOp,Tf,resolve,invoke,callFunc,Tryz.func48,o,q,r,n,Deferred.ofValue]);have s:=stepG_enter (P:=Tryz.prog) (main:=false) (b:=baseD 44) (a:=a.put (some 151) (cA p.Wg)) (k:=[]) (cs:=[k6]) (rest:=[]) LR.2 (Tg _).2 (by simp[baseD]) z;rw[A]at s;refine⟨_,_,_,s,fun _=>⟨jP.idle _,?_⟩⟩;have d:Tryz.f48.body=some (body_done link):=by kernel_rfl
 have j:Tryz.f48.ntmps=4:=by kernel_rfl
 have B:Frame.enter Tryz.prog 48 #[cA p.Wg] .normal=(base link.done).at ⟨#[.pointer (some ⟨p.Wg,0,none⟩),undef,undef,undef],[]⟩ [.code (body_done link)]:=by
  rw[enter_at _ Tryz.func48 d,j];rfl
 rw[B];have C:QuitsD Tryz.prog 4 0 (G ((baseD 44).at ((a.put (some 151) (cA p.Wg)).put ((ug[1]?).bind (·.dst)) (.tuple #[])) (.inRegion ug []::[])) [k6]):=by
  obtain⟨T,D⟩:=a;have e:D=[]:=e;subst e;have E:(ug[1]?).bind (·.dst)=some 152:=by rw[LR.2];exact Td.2
  rw[E];exact ahY _ _
 obtain⟨F,⟨K,H⟩,I⟩:=h;exact XR (b₀:=baseD 44) (a₀:=a.put (some 151) (cA p.Wg)) (ops₀:=ug) (i₀:=1) (rest₀:=[]) (k₀:=[]) (cs:=[k6]) zQ c t C F H I
end
end Go.Proofs.YtcminalaicidiaaGreatDoor
end
end
